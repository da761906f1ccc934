import PyProof.Rows.All
import Wide.All
import OpenK.AllK
import Wide.FinOn
import Lean
import PySem.Challenge.RW_in0201_01
set_option Elab.async false
section
open PySem PySem.W PyProof.Rows
namespace Mine
set_option maxRecDepth 100000 in
set_option maxHeartbeats 8000000 in
open_top hd for PySem.Challenge.rw_in0201_01
end Mine
end
section
open PySem PySem.W PyProof.Rows
namespace Mine
set_option maxRecDepth 100000

noncomputable abbrev KK (w : World) : Frag := hd.heap_39 w.params

/-! heaps that grow -/
noncomputable def Sub (h h' : Heap) : Prop := ∀ b o, h.get? b = some o → h'.get? b = some o
noncomputable def SubX (ms : List Addr) (h h' : Heap) : Prop := ∀ b o, b ∉ ms → h.get? b = some o → h'.get? b = some o
theorem Sub.rfl {h : Heap} : Sub h h := fun _ _ e => e
theorem Sub.trans {a b c : Heap} (x : Sub a b) (y : Sub b c) : Sub a c := fun q o e => y q o (x q o e)
theorem Sub.toX {a b : Heap} {ms : List Addr} (x : Sub a b) : SubX ms a b := fun q o _ e => x q o e
theorem SubX.rfl {h : Heap} {ms : List Addr} : SubX ms h h := fun _ _ _ e => e
theorem SubX.trans {a b c : Heap} {ms : List Addr} (x : SubX ms a b) (y : SubX ms b c) : SubX ms a c := fun q o n e => y q o n (x q o n e)
theorem SubX.mono {a b : Heap} {ms ms' : List Addr} (x : SubX ms a b) (k : ∀ b ∈ ms, b ∈ ms') : SubX ms' a b := fun q o n e => x q o (fun m => n (k q m)) e
theorem SubX.ofSame {a b : Heap} {d : Addr} (x : Heap.SameBut d a b) : SubX [d] a b := fun q o n e => x.extBut q o (fun z => n (by rw [z]; exact List.mem_singleton.mpr _root_.rfl)) e
theorem Sub.push (h : Heap) (o : Obj) : Sub h (h.push o) := fun _ _ e => Heap.get?_push_of_some o e
theorem Sub.none {h h' : Heap} {T : Addr} (k : Sub h h') (e : h'.get? T = none) : h.get? T = none := by
  cases q : h.get? T with
  | none => exact _root_.rfl
  | some o => rw [k T o q] at e; cases e
theorem get_none_size (h : Heap) : h.get? h.objs.size = none := Heap.get?_none_of_le (Nat.le_refl _)

/-! what the top leaves -/
structure G0 (w : World) (h : Heap) : Prop where
  X : (KK w).In h
  b : ∃ mb, h.Ns builtinsNs mb ∧ ∀ x : Str, x ≠ "__name__" → mb x = bootBuiltins x
  lim : h.NoLimit
theorem G0.up {w : World} {h h' : Heap} (G : G0 w h) (k : Sub h h') : G0 w h' :=
  ⟨G.X.keeps k, let ⟨mb, a, c⟩ := G.b; ⟨mb, a.keeps k, c⟩, G.lim.keeps k⟩

/-! room -/
structure AOk (n : Nat) (A : Around) : Prop where
  h : A.handled = none
  d : A.depth + n ≤ 900
  u : A.units + 40 * n ≤ 9000
theorem AOk.in1 {n : Nat} {A : Around} (x : AOk (n + 1) A) : AOk n A.in1 := ⟨x.h, by have := x.d; simp only [Around.in1_depth]; omega, by have := x.u; simp only [Around.in1_units]; omega⟩
theorem AOk.deeper {n : Nat} {A : Around} {env : Env} (x : AOk (n + 1) A) : AOk n (A.deeper env) :=
  ⟨x.h, by have := x.d; show A.depth + 1 + n ≤ 900; omega, by have := x.u; simp only [Around.deeper_units]; omega⟩
theorem AOk.less {n m : Nat} {A : Around} (x : AOk n A) (k : m ≤ n) : AOk m A := ⟨x.h, by have := x.d; omega, by have := x.u; omega⟩
theorem AOk.room {n : Nat} {A : Around} (x : AOk n A) : A.depth < recursionLimit := by have := x.d; show A.depth < 1000; omega
theorem AOk.line {n : Nat} {A : Around} (x : AOk n A) : A.units < cLine := by have := x.u; show A.units < 9900; omega

/-! a tree that only makes: in every heap that holds h it ends, and P holds of what it gives -/
noncomputable def PE (prog : Program) (w : World) (A : Around) {α : Type} (h : Heap) (t : Sem α) (P : α → Heap → Prop) : Prop :=
  ∀ (s : Shared) (Q : α → Shared → Prop) (E : Value → Shared → Prop), Sub h s.heap →
    (∀ v h' tk, Sub s.heap h' → P v h' → Q v { s with heap := h', toks := tk }) → wpAny (model prog w) A t Q E s

section
variable {prog : Program} {w : World} {A : Around} {h : Heap}
theorem PE.up {α : Type} {t : Sem α} {P : α → Heap → Prop} {h' : Heap} (e : PE prog w A h t P) (k : Sub h h') : PE prog w A h' t P := fun s Q E hs q => e s Q E (k.trans hs) q
theorem PE.weak {α : Type} {t : Sem α} {P R : α → Heap → Prop} (e : PE prog w A h t P) (k : ∀ v h', Sub h h' → P v h' → R v h') : PE prog w A h t R :=
  fun s Q E hs q => e s Q E hs fun v h' tk x p => q v h' tk x (k v h' (hs.trans x) p)
end

noncomputable def IsS (x : Str) (v : Value) : Prop := ∃ t, v = .str x t
noncomputable def IsI (n : Int) (v : Value) : Prop := ∃ t, v = .int n t

noncomputable abbrev PV (prog : Program) (w : World) (A : Around) {α : Type} (h : Heap) (t : Sem α) (V : α → Prop) : Prop := PE prog w A h t fun v _ => V v

section
variable {prog : Program} {w : World} {A : Around} {h : Heap} {env : Env} {m : Str → Option Value} {x : Str} {pos p : Pos} {v : Value}

theorem PV.loc (hn : h.Ns env.locals m) (hv : m x = some v) (hk : env.scope.kind = .function := by rfl) (hl : env.kindOf x = some .local := by rfl)
    (hd : (x == ("__debug__" : Str)) = false := by decide) : PV prog w A h (eval (.Name x pos) env) (· = v) :=
  fun s _ _ hs q => wpAny_Name (wpAny_loadName_local hk hl (hn.keeps hs) hv (q v s.heap s.toks Sub.rfl rfl)) hd
theorem PV.cell {c : Addr} (hc : env.cells.lookup x = some c) (hv : h.IsCell c (some v)) (hk : env.scope.kind = .function := by rfl) (hl : env.kindOf x = some .cell := by rfl)
    (hd : (x == ("__debug__" : Str)) = false := by decide) : PV prog w A h (eval (.Name x pos) env) (· = v) :=
  fun s _ _ hs q => wpAny_Name (wpAny_loadName_cell hk hl hc (let ⟨o, a, b⟩ := hv; ⟨o, hs _ _ a, b⟩) (q v s.heap s.toks Sub.rfl rfl)) hd
theorem PV.glob (G : G0 w h) (e : nsIn (KK w) mainGlobals x = some (some v)) (hg : env.globals = mainGlobals := by rfl) (hk : env.scope.kind = .function := by rfl) (hx : env.kindOf x = some .globalImplicit := by rfl)
    (hd : (x == ("__debug__" : Str)) = false := by decide) : PV prog w A h (eval (.Name x pos) env) (· = v) := by
  intro s Q E hs q
  refine Calls.Name_function_global hk hx ?_ hd
  unfold loadGlobal
  rw [hg]
  exact wpAny_bind ((looks_nsIn (G.X.keeps hs) e).here (wpAny_pure (q v s.heap s.toks Sub.rfl rfl)))
theorem PV.boot (G : G0 w h) (e : nsIn (KK w) mainGlobals x = some none) (hv : bootBuiltins x = some v) (hn : x ≠ "__name__" := by decide) (hg : env.globals = mainGlobals := by rfl) (hb : env.builtins = builtinsNs := by rfl)
    (hk : env.scope.kind = .function := by rfl) (hx : env.kindOf x = some .globalImplicit := by rfl)
    (hd : (x == ("__debug__" : Str)) = false := by decide) : PV prog w A h (eval (.Name x pos) env) (· = v) := by
  intro s Q E hs q
  refine Calls.Name_function_global hk hx ?_ hd
  unfold loadGlobal
  rw [hg, hb]
  obtain ⟨mb, hm, hx⟩ := (G.up hs).b
  refine wpAny_bind ((looks_nsIn (G.X.keeps hs) e).here ?_)
  refine wpAny_bind (wpAny_nsGet hm ?_)
  rw [hx x hn, hv]
  exact wpAny_pure (q v s.heap s.toks Sub.rfl rfl)

theorem PV.str {y : Str} {k : Nat} : PV prog w A h (eval (.Constant (.str y) k pos) env) (IsS y) :=
  fun s _ _ _ q => Calls.Constant_str (q _ s.heap _ Sub.rfl ⟨_, rfl⟩)
theorem PV.int {i : Int} {k : Nat} : PV prog w A h (eval (.Constant (.int i) k pos) env) (IsI i) :=
  fun s _ _ _ q => wpAny_Constant_int (q _ s.heap _ Sub.rfl ⟨_, rfl⟩)
theorem PV.boolc {b : Bool} {k : Nat} : PV prog w A h (eval (.Constant (.bool b) k pos) env) (· = .bool b) :=
  fun s _ _ _ q => wpAny_Constant_bool (q _ s.heap s.toks Sub.rfl rfl)
theorem PV.locS {y : Str} {t : Tok} (hn : h.Ns env.locals m) (hv : m x = some (.str y t)) (hk : env.scope.kind = .function := by rfl) (hl : env.kindOf x = some .local := by rfl)
    (hd : (x == ("__debug__" : Str)) = false := by decide) : PV prog w A h (eval (.Name x pos) env) (IsS y) :=
  PE.weak (PV.loc hn hv hk hl hd) fun _ _ _ e => ⟨t, e⟩
theorem PV.locI {y : Int} {t : Tok} (hn : h.Ns env.locals m) (hv : m x = some (.int y t)) (hk : env.scope.kind = .function := by rfl) (hl : env.kindOf x = some .local := by rfl)
    (hd : (x == ("__debug__" : Str)) = false := by decide) : PV prog w A h (eval (.Name x pos) env) (IsI y) :=
  PE.weak (PV.loc hn hv hk hl hd) fun _ _ _ e => ⟨t, e⟩

variable {l r e e₁ e₂ o : Expr} {op : Operator} {cop : CmpOp} {Va Vb : Value → Prop} {Pa : Value → Heap → Prop} {R : Value → Heap → Prop} {RB : Bool → Heap → Prop}
theorem PE.binop (hl : PV prog w A h (eval l env) Va) (hr : PV prog w A h (eval r env) Vb) (ho : ∀ a b, Va a → Vb b → PE prog w A h (binaryOp op a b) R) :
    PE prog w A h (eval (.BinOp l op r pos) env) R := by
  intro s Q E hs hq
  refine wpAny_BinOp (hl s _ E hs fun a h1 t1 k1 va => ?_)
  refine hr _ _ E (hs.trans k1) fun b h2 t2 k2 vb => ?_
  exact ho a b va vb _ Q E ((hs.trans k1).trans k2) fun v h' tk k' p => hq v h' tk ((k1.trans k2).trans k') p
/-- a comparison as a test -/
theorem PV.test {b : Bool} {whole : Sem Value} (hl : PV prog w A h (eval l env) Va) (hr : PV prog w A h (eval r env) Vb) (ho : ∀ x y, Va x → Vb y → PV prog w A h (compareOp cop x y) (· = .bool b))
    (hm : behindInMarks cop r = false := by with_unfolding_all rfl) : PV prog w A h (isTrue (.Compare l [cop] [r] pos) env whole) (· = b) := by
  intro s Q E hs hq
  refine wpAny_isTrue_Compare1 (hl s _ E hs fun a h1 t1 k1 va => ?_) hm
  refine hr _ _ E (hs.trans k1) fun b' h2 t2 k2 vb => ?_
  refine ho a b' va vb _ _ E ((hs.trans k1).trans k2) fun v h' tk k' p => ?_
  subst p
  exact wpAny_truthy_bool (hq b h' tk ((k1.trans k2).trans k') rfl)
theorem PV.addI {a b : Int} (hl : PV prog w A h (eval l env) (IsI a)) (hr : PV prog w A h (eval r env) (IsI b)) : PV prog w A h (eval (.BinOp l .Add r pos) env) (IsI (a + b)) :=
  PE.binop hl hr fun _ _ ⟨_, ea⟩ ⟨_, eb⟩ => by subst ea; subst eb; exact fun s _ _ _ q => wpAny_add_int (q _ s.heap _ Sub.rfl ⟨_, rfl⟩)
theorem PV.addS {a b : Str} (hl : PV prog w A h (eval l env) (IsS a)) (hr : PV prog w A h (eval r env) (IsS b)) (hz : a.length + b.length ≤ sizeLine) : PV prog w A h (eval (.BinOp l .Add r pos) env) (IsS (a ++ b)) :=
  PE.binop hl hr fun _ _ ⟨_, ea⟩ ⟨_, eb⟩ => by subst ea; subst eb; exact fun s _ _ _ q => SB.add (fun t' k => q _ s.heap _ Sub.rfl ⟨t', rfl⟩) hz
theorem PV.truthyS {y : Str} (hy : y.length ≤ sizeLine) {v : Value} (hv : IsS y v) : PV prog w A h (truthy v) (· = ((y.length : Int) != 0)) := by
  obtain ⟨t, rfl⟩ := hv
  exact fun s _ _ _ q => P.truthy_str (by rw [sizeLine_eq] at hy; omega) (q _ s.heap _ Sub.rfl rfl)
theorem PV.isTrueS {y : Str} (he : PV prog w A h (eval e env) (IsS y)) (hy : y.length ≤ sizeLine)
    (hw : isTrue e env (eval e env) = (do let v ← eval e env; standAt e.pos; holding [v] (truthy v)) := by rfl) : PV prog w A h (isTrue e env (eval e env)) (· = ((y.length : Int) != 0)) := by
  intro s Q E hs hq
  refine wpAny_isTrue_value (he s _ E hs fun v h1 t1 k1 hv => ?_) hw
  exact PV.truthyS (prog := prog) (w := w) (A := A) (h := h) hy hv _ Q E (hs.trans k1) fun b h' tk k' p => hq b h' tk (k1.trans k') p

/-! calls -/
theorem PE.call1 {f : Str} {id : String} (hf : PV prog w A h (eval (.Name f p) env) (· = .builtin id)) (ha : PE prog w A h (eval e env) Pa)
    (hc : ∀ v h₁, Sub h h₁ → Pa v h₁ → PE prog w A h₁ (call (.builtin id) [v]) R) (hs : starEach [e] env = (false, eval e env) :: starEach [] env := by rfl) :
    PE prog w A h (eval (.Call (.Name f p) [e] [] pos) env) R := by
  intro s Q E hss hq
  refine wpAny_Call_Name_kw (hf s _ E hss fun fv h1 t1 k1 hfv => ?_)
  subst hfv
  refine PyProof.Rows.callWith_builtin1 (wpAny_items_cons (ha _ _ E (hss.trans k1) fun v h2 t2 k2 pv => wpAny_items_nil ?_) hs) hs rfl
  exact hc v h2 ((hss.trans k1).trans k2) pv _ Q E Sub.rfl fun r h' tk k' z => hq r h' tk ((k1.trans k2).trans k') z
theorem PE.call1T {f : Str} {T : String} (hf : PV prog w A h (eval (.Name f p) env) (· = .type T)) (ha : PE prog w A h (eval e env) Pa)
    (hc : ∀ v h₁, Sub h h₁ → Pa v h₁ → PE prog w A h₁ (call (.type T) [v]) R) (hs : starEach [e] env = (false, eval e env) :: starEach [] env := by rfl) :
    PE prog w A h (eval (.Call (.Name f p) [e] [] pos) env) R := by
  intro s Q E hss hq
  refine wpAny_Call_Name_kw (hf s _ E hss fun fv h1 t1 k1 hfv => ?_)
  subst hfv
  refine PyProof.Rows.callWith_type1 (wpAny_items_cons (ha _ _ E (hss.trans k1) fun v h2 t2 k2 pv => wpAny_items_nil ?_) hs) hs rfl
  exact hc v h2 ((hss.trans k1).trans k2) pv _ Q E Sub.rfl fun r h' tk k' z => hq r h' tk ((k1.trans k2).trans k') z
theorem PE.call1F {f : Str} {a : Addr} {fo : Obj} {fd : FuncData} (hf : PV prog w A h (eval (.Name f p) env) (· = .ref a)) (hfo : h.get? a = some fo) (hfd : fo.data = .func fd) (ha : PE prog w A h (eval e env) Pa)
    (hc : ∀ v h₁, Sub h h₁ → Pa v h₁ → PE prog w A h₁ (call (.ref a) [v]) R) (hs : starEach [e] env = (false, eval e env) :: starEach [] env := by rfl) :
    PE prog w A h (eval (.Call (.Name f p) [e] [] pos) env) R := by
  intro s Q E hss hq
  refine wpAny_Call_Name_kw (hf s _ E hss fun fv h1 t1 k1 hfv => ?_)
  subst hfv
  refine callWith_def_at hfo hfd (wpAny_items_cons (ha _ _ E (hss.trans k1) fun v h2 t2 k2 pv => wpAny_items_nil ⟨k2 _ _ (k1 _ _ (hss _ _ hfo)), ?_⟩) hs) hs
  exact hc v h2 ((hss.trans k1).trans k2) pv _ Q E Sub.rfl fun r h' tk k' z => hq r h' tk ((k1.trans k2).trans k') z
theorem PE.call2F {f : Str} {a : Addr} {fo : Obj} {fd : FuncData} (hf : PV prog w A h (eval (.Name f p) env) (· = .ref a)) (hfo : h.get? a = some fo) (hfd : fo.data = .func fd)
    (ha : PV prog w A h (eval e₁ env) Va) (hb : PV prog w A h (eval e₂ env) Vb)
    (hc : ∀ v u h₁, Sub h h₁ → Va v → Vb u → PE prog w A h₁ (call (.ref a) [v, u]) R) (hs : starEach [e₁, e₂] env = (false, eval e₁ env) :: starEach [e₂] env := by rfl)
    (hs2 : starEach [e₂] env = (false, eval e₂ env) :: starEach [] env := by rfl) :
    PE prog w A h (eval (.Call (.Name f p) [e₁, e₂] [] pos) env) R := by
  intro s Q E hss hq
  refine wpAny_Call_Name_kw (hf s _ E hss fun fv h1 t1 k1 hfv => ?_)
  subst hfv
  refine callWith_def_at hfo hfd (wpAny_items_cons (ha _ _ E (hss.trans k1) fun v h2 t2 k2 pv => wpAny_items_cons (hb _ _ E ((hss.trans k1).trans k2) fun u h3 t3 k3 pu => wpAny_items_nil ⟨k3 _ _ (k2 _ _ (k1 _ _ (hss _ _ hfo))), ?_⟩) hs2) hs) hs
  exact hc v u h3 (((hss.trans k1).trans k2).trans k3) pv pu _ Q E Sub.rfl fun r h' tk k' z => hq r h' tk (((k1.trans k2).trans k3).trans k') z

/-! the methods of a str -/
variable {apos : Pos} {y : Str}
theorem PV.rstrip (ho : PV prog w A h (eval o env) (IsS x)) (he : PV prog w A h (eval e env) (IsS y)) (hx : x.length ≤ sizeLine)
    (hbase : attributeBase o "rstrip" env (eval o env) = eval o env := by rfl) (hs : starEach [e] env = [(false, eval e env)] := by rfl) (hline : (apos.endLine == pos.line) = true := by rfl) :
    PV prog w A h (eval (.Call (.Attribute o "rstrip" apos) [e] [] pos) env) (IsS (Txt.rstripChars x y)) := by
  intro s Q E hss hq
  refine Call_method1 hbase hs hline (ho s _ E hss fun v h1 t1 k1 hv => ?_)
  obtain ⟨t, rfl⟩ := hv
  refine SB.rstripChars (he _ _ E (hss.trans k1) fun u h2 t2 k2 hu => ?_) hx
  obtain ⟨t', rfl⟩ := hu
  exact ⟨y, t', rfl, fun t'' k => hq _ h2 k (k1.trans k2) ⟨_, rfl⟩⟩
theorem PV.rfind (ho : PV prog w A h (eval o env) (IsS x)) (he : PV prog w A h (eval e env) (IsS y))
    (hbase : attributeBase o "rfind" env (eval o env) = eval o env := by rfl) (hs : starEach [e] env = [(false, eval e env)] := by rfl) (hline : (apos.endLine == pos.line) = true := by rfl) :
    PV prog w A h (eval (.Call (.Attribute o "rfind" apos) [e] [] pos) env) (IsI (Txt.rfind x y)) := by
  intro s Q E hss hq
  refine Call_method1 hbase hs hline (ho s _ E hss fun v h1 t1 k1 hv => ?_)
  obtain ⟨t, rfl⟩ := hv
  refine SB.rfind (he _ _ E (hss.trans k1) fun u h2 t2 k2 hu => ?_)
  obtain ⟨t', rfl⟩ := hu
  exact ⟨y, t', rfl, hq _ h2 _ (k1.trans k2) ⟨_, rfl⟩⟩
theorem PV.startswith (ho : PV prog w A h (eval o env) (IsS x)) (he : PV prog w A h (eval e env) (IsS y))
    (hbase : attributeBase o "startswith" env (eval o env) = eval o env := by rfl) (hs : starEach [e] env = [(false, eval e env)] := by rfl) (hline : (apos.endLine == pos.line) = true := by rfl) :
    PV prog w A h (eval (.Call (.Attribute o "startswith" apos) [e] [] pos) env) (· = .bool (Txt.startswith x y)) := by
  intro s Q E hss hq
  refine Call_method1 hbase hs hline (ho s _ E hss fun v h1 t1 k1 hv => ?_)
  obtain ⟨t, rfl⟩ := hv
  refine SB.startswith (he _ _ E (hss.trans k1) fun u h2 t2 k2 hu => ?_)
  obtain ⟨t', rfl⟩ := hu
  exact ⟨y, t', rfl, hq _ h2 t2 (k1.trans k2) rfl⟩
end

/-! statements -/
noncomputable def upd (m : Str → Option Value) (x : Str) (v : Value) : Str → Option Value := fun y => if y = x then some v else m y
theorem upd_same {m : Str → Option Value} {x : Str} {v : Value} : upd m x v x = some v := if_pos rfl
theorem upd_ne {m : Str → Option Value} {x y : Str} {v : Value} (h : y ≠ x) : upd m x v y = m y := if_neg h

/-- the frame at hand: its names, all of h₀ kept -/
theorem fr_up {h₀ h h' : Heap} {L : Addr} {m : Str → Option Value} (F : Fr h₀ L h m) (k : Sub h h') : Fr h₀ L h' m := ⟨F.ns.keeps k, fun b o e => k b o (F.keep b o e), F.above⟩
theorem fr_sub {h₀ h : Heap} {L : Addr} {m : Str → Option Value} (F : Fr h₀ L h m) : Sub h₀ h := F.keep

section
variable {prog : Program} {w : World} {A : Around} {h₀ : Heap} {env : Env} {m : Str → Option Value} {s : Shared} {E : Value → Shared → Prop} {Q : Flow → Shared → Prop} {P : Value → Heap → Prop} {rest : List Stmt}
theorem st_store {x : Str} {v : Value} {Q : Unit → Shared → Prop} (F : Fr h₀ env.locals s.heap m)
    (k : ∀ h' tk, Fr h₀ env.locals h' (upd m x v) → SubX [env.locals] s.heap h' → Q () { s with heap := h', toks := tk })
    (hk : env.scope.kind = .function := by rfl) (hl : env.kindOf x = some .local := by rfl) : wpAny (model prog w) A (storeName env x v) Q E s :=
  wpAny_storeName_local hl F.ns (fun h' hn hs => k h' _ (F.set hn hs) (SubX.ofSame hs)) (by rw [hk]; rfl)
theorem st_assign {x : Str} {px pos : Pos} {value : Expr} (F : Fr h₀ env.locals s.heap m) (e : PE prog w A s.heap (eval value env) P)
    (k : ∀ v h₁ h' tk, Sub s.heap h₁ → P v h₁ → SubX [env.locals] h₁ h' → Fr h₀ env.locals h' (upd m x v) → wpAny (model prog w) A (execs rest env) Q E { s with heap := h', toks := tk })
    (hk : env.scope.kind = .function := by rfl) (hl : env.kindOf x = some .local := by rfl) (hs : swapsWith value (some (.Name x px)) pos.line env = pure false := by rfl) :
    wpAny (model prog w) A (execs (.Assign [.Name x px] value pos :: rest) env) Q E s :=
  wpAny_execs_cons (wpAny_Assign_Name (e s _ E Sub.rfl fun v h₁ tk k₁ p => st_store (fr_up F k₁) (fun h' tk' F' k' => k v h₁ h' tk' k₁ p k' F') hk hl) hs)
/-- a name for a plain value -/
theorem st_assignV {x : Str} {px pos : Pos} {value : Expr} {V : Value → Prop} (F : Fr h₀ env.locals s.heap m) (e : PV prog w A s.heap (eval value env) V)
    (k : ∀ v h' tk, V v → SubX [env.locals] s.heap h' → Fr h₀ env.locals h' (upd m x v) → wpAny (model prog w) A (execs rest env) Q E { s with heap := h', toks := tk })
    (hk : env.scope.kind = .function := by rfl) (hl : env.kindOf x = some .local := by rfl) (hs : swapsWith value (some (.Name x px)) pos.line env = pure false := by rfl) :
    wpAny (model prog w) A (execs (.Assign [.Name x px] value pos :: rest) env) Q E s :=
  st_assign F e (fun v _ h' tk k₁ p k' F' => k v h' tk p (k₁.toX.trans k') F') hk hl hs
theorem st_if {test : Expr} {body orelse : List Stmt} {pos : Pos} {b : Bool} (t : PV prog w A s.heap (isTrue test env (eval test env)) (· = b))
    (k : ∀ h' tk, Sub s.heap h' → if b then wpAny (model prog w) A (execs body env) (fun f s' => match f with | .next => wpAny (model prog w) A (execs rest env) Q E s' | f => Q f s') E { s with heap := h', toks := tk }
      else wpAny (model prog w) A (execs orelse env) (fun f s' => match f with | .next => wpAny (model prog w) A (execs rest env) Q E s' | f => Q f s') E { s with heap := h', toks := tk }) :
    wpAny (model prog w) A (execs (.If test body orelse pos :: rest) env) Q E s :=
  wpAny_execs_cons (wpAny_If (t s _ E Sub.rfl fun r h' tk k' e => by subst e; exact k h' tk k'))
/-- the test is false, no else -/
theorem st_skip {test : Expr} {body : List Stmt} {pos : Pos} (t : PV prog w A s.heap (isTrue test env (eval test env)) (· = false))
    (k : ∀ h' tk, Sub s.heap h' → wpAny (model prog w) A (execs rest env) Q E { s with heap := h', toks := tk }) :
    wpAny (model prog w) A (execs (.If test body [] pos :: rest) env) Q E s := st_if t fun h' tk k' => wpAny_execs_nil (k h' tk k')
theorem st_ret {e : Expr} {pos : Pos} (t : PE prog w A s.heap (eval e env) P) (k : ∀ v h' tk, Sub s.heap h' → P v h' → Q (.ret v) { s with heap := h', toks := tk }) :
    wpAny (model prog w) A (execs (.Return (some e) pos :: rest) env) Q E s := wpAny_execs_cons (wpAny_Return_some (t s _ E Sub.rfl fun v h' tk k' p => k v h' tk k' p))
end

/-! a call of the text's own def, by its body -/
theorem call_def {prog : Program} {w : World} {A : Around} {n : Nat} {h : Heap} {P : Value → Heap → Prop} {f : Addr} {name : Str} {params : Arguments} {body : List Stmt} {scope : Scope} {dV kV doc pm cdv ct : Value} {an od : Option Addr} {osl : Array (Option Value)} {oc : Value}
    {args : List Value} {binds : List (Str × Value)}
    (G : G0 w h) (O : AOk (n + 1) A) (ho : (KK w).lookup f = some ⟨oc, od, .func (fnOf name name params body scope dV kV doc pm an cdv ct), osl⟩) (hcd : codeIn (KK w) cdv name = true)
    (hbind : bindArgs (fnOf name name params body scope dV kV doc pm an cdv ct) ⟨args, []⟩ = pure binds) (hloc : ∀ y ∈ binds, scope.names.lookup y.1 = some .local) (hcell : ∀ x ∈ scope.names, x.2 ≠ .cell)
    (hco : scope.isCoroutine = false) (hgen : scope.isGenerator = false) (hk : scope.kind = .function)
    (hb : ∀ (s : Shared) (h₀ : Heap) (L : Addr) (Q : Flow → Shared → Prop) (E : Value → Shared → Prop), Sub h h₀ → G0 w h₀ → AOk n (A.deeper (envX name scope L f cdv [])) → Fr h₀ L s.heap (fun x => binds.reverse.lookup x) →
      (∀ v h' tk, Sub h₀ h' → P v h' → Q (.ret v) { s with heap := h', toks := tk }) →
      wpAny (model prog w) (A.deeper (envX name scope L f cdv [])) (execs body (envX name scope L f cdv [])) Q E s) :
    PE prog w A h (call (.ref f) args) P := by
  intro s Q E hs hq
  have G' := G.up hs
  refine wpAny_call (codeAny_call_def (fd := fnOf name name params body scope dV kV doc pm an cdv ct) O.room (G'.X _ _ ho) rfl G'.lim (codeRec_of G'.X hcd) rfl (BindsTo.of_eq hbind) hcell hloc (fun h₁ hns hk₁ => ?_) hco hgen hk)
  exact hb { s with heap := h₁, toks := s.toks + binds.length } s.heap s.heap.objs.size _ _ hs G' O.deeper ⟨hns, hk₁, Nat.le_refl _⟩ fun v h' tk k p => hq v h' tk k p
end Mine
end
section
open PySem PySem.W PyProof.Rows
set_option maxRecDepth 100000
namespace Mine
theorem gl_kind (P : Params) : nsIn (hd.heap_39 P) mainGlobals "_kind" = some (some (.ref 28)) := by kernel_rfl
theorem gl_fspath_ (P : Params) : nsIn (hd.heap_39 P) mainGlobals "_fspath" = some (some (.ref 35)) := by kernel_rfl
theorem gl_split (P : Params) : nsIn (hd.heap_39 P) mainGlobals "split" = some (some (.ref 42)) := by kernel_rfl
theorem gl_type (P : Params) : nsIn (hd.heap_39 P) mainGlobals "type" = some none := by kernel_rfl
theorem gl_str (P : Params) : nsIn (hd.heap_39 P) mainGlobals "str" = some none := by kernel_rfl
theorem bo_type : bootBuiltins "type" = some (.type "type") := by kernel_rfl
theorem bo_str : bootBuiltins "str" = some (.type "str") := by kernel_rfl
theorem type_S {prog : Program} {w : World} {A : Around} {h : Heap} {x : Str} {v : Value} (hv : IsS x v) : PV prog w A h (call (.type "type") [v]) (· = .type "str") := by
  obtain ⟨t, rfl⟩ := hv
  exact fun s _ _ _ q => call_type_of (Tx := "str") rfl (by decide) (q _ s.heap _ Sub.rfl rfl)
set_option maxHeartbeats 1000000 in
theorem kind_S {prog : Program} {w : World} {A : Around} {h : Heap} {n : Nat} {a b : Value} {x : Str} (G : G0 w h) (O : AOk (n + 1) A) (hb : IsS x b) :
    PV prog w A h (call (.ref 28) [a, b]) (IsS "") := by
  refine call_def G O rfl (by kernel_rfl) rfl (locs rfl) (by decide) rfl rfl rfl fun s h₀ L Q E hs G0 O0 F q => ?_
  refine st_assignV F (PE.call1T (PV.boot (G0.up (fr_sub F)) (gl_type _) bo_type) (PV.loc F.ns rfl) fun v h₁ _ hv => by subst hv; exact type_S hb) fun v h' tk hv k F' => ?_
  subst hv
  refine st_if (b := true) (PV.test (PV.loc F'.ns rfl) (PV.boot (G0.up (fr_sub F')) (gl_str _) bo_str) fun a b ha hb => ?_) fun h2 tk k2 => ?_
  · subst ha; subst hb; exact fun s _ _ _ q => wpAny_is_self rfl (q _ s.heap s.toks Sub.rfl rfl)
  · exact st_ret PV.str fun v h3 tk k3 hv => q v h3 tk (((fr_sub F').trans k2).trans k3) hv
end Mine
end
section
open PySem PySem.W PyProof.Rows
set_option maxRecDepth 100000
namespace Mine
/-- a text by its signs -/
noncomputable def S (l : List Nat) : Str := ⟨l.toArray⟩
theorem S_len (l : List Nat) : (S l).length = l.length := by simp [S, Str.length]
theorem S_toList (l : List Nat) : (S l).cps.toList = l := by simp [S]
theorem S_of (x : Str) : x = S x.cps.toList := by simp [S]
theorem S_inj {a b : List Nat} (h : S a = S b) : a = b := by have := congrArg (fun x : Str => x.cps.toList) h; simpa [S] using this
theorem S_cat (a b : List Nat) : S a ++ S b = S (a ++ b) := by
  apply Str.ext'
  rw [Str.cps_append]; simp [S]
theorem S_beq (a b : List Nat) : (S a == S b) = (a == b) := by
  by_cases h : a = b
  · subst h; simp
  · have : ¬ S a = S b := fun e => h (S_inj e)
    rw [beq_eq_false_iff_ne.mpr this, beq_eq_false_iff_ne.mpr h]
theorem lit_sl : Str.ofString "/" = S [47] := by decide +kernel
theorem lit_dot : Str.ofString "." = S [46] := by decide +kernel
theorem lit_nil : Str.ofString "" = S [] := by decide +kernel

noncomputable def dropSl (q : List Nat) : List Nat := q.dropWhile (· == 47)
noncomputable def dropPc (q : List Nat) : List Nat := q.dropWhile (· != 47)
noncomputable def rstripL (l : List Nat) : List Nat := (dropSl l.reverse).reverse
theorem dropWhile_eq_drop {α : Type} (p : α → Bool) (l : List α) : l.dropWhile p = l.drop (l.takeWhile p).length := by
  induction l with
  | nil => rfl
  | cons a r ih => by_cases h : p a <;> simp [h, ih]
theorem rev_drop_rev {α : Type} (l : List α) (n : Nat) : (l.reverse.drop n).reverse = l.take (l.length - n) := by
  rw [List.drop_reverse, List.reverse_reverse]
theorem S_rstrip (l : List Nat) : Txt.rstripChars (S l) (S [47]) = S (rstripL l) := by
  have e0 : ∀ c, (S [47]).cps.contains c = (c == 47) := by intro c; simp [S, Array.contains]
  have e1 : (S [47]).cps.contains = fun c => c == 47 := funext e0
  unfold Txt.rstripChars
  rw [e1, PyProof.Rows.stripBy_eq]
  apply Str.ext'
  apply Array.toList_inj.mp
  rw [StrLaws.strSub_toList, S_toList]
  simp only [stripLo, stripHi, S_len, S_toList, Bool.false_eq_true, if_false, if_true, List.drop_zero, Nat.sub_zero]
  unfold rstripL dropSl
  rw [dropWhile_eq_drop, rev_drop_rev]

theorem At_one (x : Str) (c i : Nat) : StrLaws.At x (S [c]) x.length i ↔ x.cps.toList[i]? = some c := StrLaws.subAt_one x c i
/-- the place behind the last slash -/
noncomputable def nHead (l : List Nat) : Nat := (dropPc l.reverse).length
theorem dropWhile_nil {α : Type} {p : α → Bool} {l : List α} (h : ∀ a ∈ l, p a = true) : l.dropWhile p = [] := by
  induction l with
  | nil => rfl
  | cons a r ih => rw [List.dropWhile_cons_of_pos (h a (.head _))]; exact ih fun b hb => h b (.tail _ hb)
theorem len_dropWhile_le {α : Type} (p : α → Bool) (l : List α) : (l.dropWhile p).length ≤ l.length := by
  rw [dropWhile_eq_drop, List.length_drop]; omega
theorem last_none (l : List Nat) (h : 47 ∉ l) : nHead l = 0 := by
  unfold nHead dropPc
  rw [dropWhile_nil]; · rfl
  intro c hc
  have : c ∈ l := List.mem_reverse.mp hc
  simp only [bne_iff_ne, ne_eq]; exact fun e => h (e ▸ this)
theorem last_some (l : List Nat) (i : Nat) (hi : l[i]? = some 47) (hk : ∀ k, i < k → l[k]? ≠ some 47) : nHead l = i + 1 := by
  obtain ⟨hlt, e⟩ := List.getElem?_eq_some_iff.mp hi
  have hl : l = l.take i ++ 47 :: l.drop (i + 1) := by
    conv => lhs; rw [← List.take_append_drop i l, List.drop_eq_getElem_cons hlt, e]
  unfold nHead dropPc
  rw [hl, List.reverse_append, List.reverse_cons, List.append_assoc]
  rw [List.dropWhile_append_of_pos]
  · simp; omega
  · intro c hc
    have hm := List.mem_reverse.mp hc
    obtain ⟨j, hj, ej⟩ := List.getElem_of_mem hm
    simp only [bne_iff_ne, ne_eq]
    intro e47
    apply hk (i + 1 + j) (by omega)
    rw [List.getElem_drop] at ej
    rw [List.getElem?_eq_getElem (by rw [List.length_drop] at hj; omega), ej, e47]
theorem S_rfind (l : List Nat) : Txt.rfind (S l) (S [47]) + 1 = (nHead l : Nat) := by
  unfold Txt.rfind
  rcases StrLaws.last_spec (S l) (S [47]) with ⟨e, h⟩ | ⟨i, e, h1, h2⟩
  · rw [e]
    have : 47 ∉ l := fun hm => by
      obtain ⟨j, hj, ej⟩ := List.getElem_of_mem hm
      exact h j ((At_one _ _ _).mpr (by rw [S_toList, List.getElem?_eq_getElem hj, ej]))
    rw [last_none l this]; rfl
  · rw [e]
    rw [last_some l i (by have := (At_one _ _ _).mp h1; rwa [S_toList] at this) (fun k hk e => h2 k hk ((At_one _ _ _).mpr (by rw [S_toList]; exact e)))]
    simp
theorem nHead_le (l : List Nat) : nHead l ≤ l.length := by
  unfold nHead dropPc
  have := len_dropWhile_le (· != 47) l.reverse
  simpa using this
theorem S_to (l : List Nat) (n : Nat) (h : n ≤ l.length) : Txt.slice (S l) none (some (n : Int)) = S (l.take n) := by
  have e := StrLaws.sliceText_to (x := S l) (j := (n : Int)) ⟨by omega, by rw [S_toList]; omega⟩
  rw [S_toList] at e
  refine Eq.trans e ?_
  simp [S]
theorem S_part (l : List Nat) (a b : Nat) (hab : a ≤ b) (h : b ≤ l.length) : Txt.slice (S l) (some (a : Int)) (some (b : Int)) = S ((l.drop a).take (b - a)) := by
  have e := StrLaws.sliceText_nat (S l) hab (by rw [S_len]; exact h)
  rw [S_toList] at e
  exact e
theorem S_mul (c : Nat) (n : Nat) : Txt.mul (S [c]) (n : Int) = S (List.replicate n c) := by
  apply Str.ext'
  apply Array.toList_inj.mp
  show (Txt.mul ⟨#[c]⟩ (n : Int)).cps.toList = _
  rw [mul_one_list]; simp [S]
theorem take_nHead (l : List Nat) : l.take (nHead l) = (dropPc l.reverse).reverse := by
  unfold nHead dropPc
  rw [dropWhile_eq_drop, rev_drop_rev, List.length_drop, List.length_reverse]
end Mine
end
section
open PySem PySem.W PyProof.Rows
set_option maxRecDepth 100000
namespace Mine
theorem szL : sizeLine = 16777216 := sizeLine_eq
theorem Sub.ofExt {h h' : Heap} (x : Heap.ExtBut h.objs.size h h') : Sub h h' := fun b o e => x b o (Nat.ne_of_lt (Heap.lt_size e)) e

section
variable {prog : Program} {w : World} {A : Around} {h : Heap} {env : Env} {m : Str → Option Value} {pos p sp : Pos} {e e₁ e₂ e₃ o l r : Expr} {x y : Str} {R : Value → Heap → Prop} {Va Vb Vc : Value → Prop}

theorem PV.len {f : Str} {np : Pos} (hf : PV prog w A h (eval (.Name f np) env) (· = .builtin "len")) (ha : PV prog w A h (eval e env) (IsS x)) (hx : x.length ≤ sizeLine) (hs : starEach [e] env = (false, eval e env) :: starEach [] env := by rfl) :
    PV prog w A h (eval (.Call (.Name f np) [e] [] pos) env) (IsI x.length) :=
  PE.call1 hf ha (fun v h₁ _ ⟨t, hv⟩ => by subst hv; exact fun s _ _ _ q => P.len_str (by rw [szL] at hx; omega) (q _ s.heap _ Sub.rfl ⟨_, rfl⟩)) hs
theorem PV.mulS {c n : Nat} (hl : PV prog w A h (eval l env) (IsS (S [c]))) (hr : PV prog w A h (eval r env) (IsI n)) (hn : n ≤ 16777216) : PV prog w A h (eval (.BinOp l .Mult r pos) env) (IsS (S (List.replicate n c))) :=
  PE.binop hl hr fun _ _ ⟨_, ea⟩ ⟨_, eb⟩ => by
    subst ea; subst eb
    exact fun s _ _ _ q => SB.mul (mulOk_of 1 16777216 (by rw [S_len]; simp) (by omega) (by omega) (by decide) (by decide)) fun t' k => q _ s.heap _ Sub.rfl ⟨t', by rw [S_mul]⟩
theorem cmp_eqS {a b : Value} (ha : IsS x a) (hb : IsS y b) : PV prog w A h (compareOp .Eq a b) (· = .bool (x == y)) := by
  obtain ⟨t, rfl⟩ := ha; obtain ⟨u, rfl⟩ := hb
  exact fun s _ _ _ q => eq_str (q _ s.heap s.toks Sub.rfl rfl)
theorem cmp_neS {a b : Value} (ha : IsS x a) (hb : IsS y b) : PV prog w A h (compareOp .NotEq a b) (· = .bool (!(x == y))) := by
  obtain ⟨t, rfl⟩ := ha; obtain ⟨u, rfl⟩ := hb
  exact fun s _ _ _ q => ne_str (q _ s.heap s.toks Sub.rfl rfl)
theorem PV.and2 {a b : Bool} {whole : Sem Value} (h1 : PV prog w A h (isTrue e₁ env (eval e₁ env)) (· = a)) (h2 : a = true → PV prog w A h (isTrue e₂ env (eval e₂ env)) (· = b)) :
    PV prog w A h (isTrue (.BoolOp .And [e₁, e₂] pos) env whole) (· = (a && b)) := by
  intro s Q E hs q
  refine wpAny_isTrue_BoolOp (wpAny_allTrue_And_cons (h1 s _ E hs fun v h' tk k e => ?_))
  subst e
  cases v with
  | false => exact q _ h' tk k rfl
  | true =>
    refine wpAny_allTrue_And_cons (h2 rfl _ _ E (hs.trans k) fun v h'' tk' k' e => ?_)
    subst e
    cases v with
    | false => exact q _ h'' tk' (k.trans k') rfl
    | true => exact wpAny_allTrue_And_nil (q _ h'' tk' (k.trans k') rfl)
theorem PV.or2 {a b : Bool} {whole : Sem Value} (h1 : PV prog w A h (isTrue e₁ env (eval e₁ env)) (· = a)) (h2 : a = false → PV prog w A h (isTrue e₂ env (eval e₂ env)) (· = b)) :
    PV prog w A h (isTrue (.BoolOp .Or [e₁, e₂] pos) env whole) (· = (a || b)) := by
  intro s Q E hs q
  refine wpAny_isTrue_BoolOp (wpAny_allTrue_Or_cons (h1 s _ E hs fun v h' tk k e => ?_))
  subst e
  cases v with
  | true => exact q _ h' tk k rfl
  | false =>
    refine wpAny_allTrue_Or_cons (h2 rfl _ _ E (hs.trans k) fun v h'' tk' k' e => ?_)
    subst e
    cases v with
    | true => exact q _ h'' tk' (k.trans k') rfl
    | false => exact wpAny_allTrue_Or_nil (q _ h'' tk' (k.trans k') rfl)
theorem PV.not {a : Bool} {whole : Sem Value} (h1 : PV prog w A h (isTrue e env (eval e env)) (· = a)) : PV prog w A h (isTrue (.UnaryOp .Not e pos) env whole) (· = !a) :=
  fun s _ E hs q => wpAny_isTrue_Not (h1 s _ E hs fun v h' tk k e => q _ h' tk k (by rw [e]))

/-! slices of a text -/
theorem PV.sliceTo {j : Int} (ho : PV prog w A h (eval o env) (IsS x)) (hj : PV prog w A h (eval e env) (IsI j)) (hx : x.length ≤ sizeLine)
    (ht : ∀ o' r, letTemporaryGo o o' r = pure () := by intro _ _; rfl) :
    PV prog w A h (eval (.Subscript o (.Slice none (some e) none sp) pos) env) (IsS (Txt.slice x none (some j))) := by
  intro s Q E hs q
  refine wpAny_Subscript_str_slice (ho s _ E hs fun v h1 t1 k1 hv => ?_) ht
  rw [evalPart_none]
  refine wpAny_pure ?_
  rw [evalPart_some]
  refine hj _ _ E (hs.trans k1) fun u h2 t2 k2 hu => ?_
  obtain ⟨t, rfl⟩ := hv; obtain ⟨uj, rfl⟩ := hu
  exact ⟨x, t, none, some (j, uj), rfl, rfl, rfl, post_val_or_str ⟨Nat.le_trans (Txt.slice_le x _ _) hx, fun t' k => q _ _ k ((k1.trans k2).trans (Sub.push _ _)) ⟨t', rfl⟩⟩⟩
theorem PV.sliceFrom {i : Int} (ho : PV prog w A h (eval o env) (IsS x)) (hj : PV prog w A h (eval e env) (IsI i)) (hx : x.length ≤ sizeLine)
    (ht : ∀ o' r, letTemporaryGo o o' r = pure () := by intro _ _; rfl) :
    PV prog w A h (eval (.Subscript o (.Slice (some e) none none sp) pos) env) (IsS (Txt.slice x (some i) none)) := by
  intro s Q E hs q
  refine wpAny_Subscript_str_slice (ho s _ E hs fun v h1 t1 k1 hv => ?_) ht
  rw [evalPart_some]
  refine hj _ _ E (hs.trans k1) fun u h2 t2 k2 hu => ?_
  rw [evalPart_none]
  refine wpAny_pure ?_
  obtain ⟨t, rfl⟩ := hv; obtain ⟨uj, rfl⟩ := hu
  exact ⟨x, t, some (i, uj), none, rfl, rfl, rfl, post_val_or_str ⟨Nat.le_trans (Txt.slice_le x _ _) hx, fun t' k => q _ _ k ((k1.trans k2).trans (Sub.push _ _)) ⟨t', rfl⟩⟩⟩
theorem PV.slice2 {i j : Int} (ho : PV prog w A h (eval o env) (IsS x)) (hi : PV prog w A h (eval e₁ env) (IsI i)) (hj : PV prog w A h (eval e₂ env) (IsI j)) (hx : x.length ≤ sizeLine)
    (ht : ∀ o' r, letTemporaryGo o o' r = pure () := by intro _ _; rfl) :
    PV prog w A h (eval (.Subscript o (.Slice (some e₁) (some e₂) none sp) pos) env) (IsS (Txt.slice x (some i) (some j))) := by
  intro s Q E hs q
  refine wpAny_Subscript_str_slice (ho s _ E hs fun v h1 t1 k1 hv => ?_) ht
  rw [evalPart_some]
  refine hi _ _ E (hs.trans k1) fun u h2 t2 k2 hu => ?_
  rw [evalPart_some]
  refine hj _ _ E ((hs.trans k1).trans k2) fun u' h3 t3 k3 hu' => ?_
  obtain ⟨t, rfl⟩ := hv; obtain ⟨ui, rfl⟩ := hu; obtain ⟨uj, rfl⟩ := hu'
  exact ⟨x, t, some (i, ui), some (j, uj), rfl, rfl, rfl, post_val_or_str ⟨Nat.le_trans (Txt.slice_le x _ _) hx, fun t' k => q _ _ k (((k1.trans k2).trans k3).trans (Sub.push _ _)) ⟨t', rfl⟩⟩⟩

/-! a tuple display of two -/
/-- a new one: not in h -/
noncomputable def NewTup (h h' : Heap) (v : Value) (Va Vb : Value → Prop) : Prop := ∃ a u z, v = .ref a ∧ h.get? a = none ∧ h'.get? a = some { cls := .type "tuple", data := .seq #[u, z] } ∧ Va u ∧ Vb z
theorem tup_of {h : Heap} {a : Addr} {items : Array Value} (e : h.get? a = some { cls := .type "tuple", data := .seq items }) : h.IsTuple a items := ⟨_, e, rfl, _, rfl⟩
theorem PE.tuple2 (ha : PV prog w A h (eval e₁ env) Va) (hb : PV prog w A h (eval e₂ env) Vb) {k : Nat}
    (hs : starEach [e₁, e₂] env = (false, eval e₁ env) :: starEach [e₂] env := by rfl) (hs2 : starEach [e₂] env = (false, eval e₂ env) :: starEach [] env := by rfl) :
    PE prog w A h (eval (.Tuple [e₁, e₂] k pos) env) (fun v h' => NewTup h h' v Va Vb) := by
  intro s Q E hss q
  refine wpAny_Tuple (wpAny_items_cons (ha s _ E hss fun v h1 t1 k1 hv => wpAny_items_cons (hb _ _ E (hss.trans k1) fun u h2 t2 k2 hu => wpAny_items_nil ⟨by show 2 ≤ sizeLine; rw [szL]; decide, ?_⟩) hs2) hs)
  refine q _ _ t2 ((k1.trans k2).trans (Sub.push _ _)) ⟨_, v, u, rfl, ?_, Heap.get?_push_size _ rfl, hv, hu⟩
  exact ((hss.trans k1).trans k2).none (get_none_size h2)
end

section
variable {prog : Program} {w : World} {A : Around} {h₀ : Heap} {env : Env} {m : Str → Option Value} {s : Shared} {E : Value → Shared → Prop} {Q : Flow → Shared → Prop} {rest : List Stmt} {Va Vb : Value → Prop}
/-- two names stored from a display, the second first -/
theorem st_swap {a b : Str} {pa pb tp pos vp : Pos} {k k' : Nat} {e₁ e₂ : Expr} {n : Nat} (O : AOk n A) (F : Fr h₀ env.locals s.heap m) (ha : PV prog w A s.heap (eval e₁ env) Va) (hb : PV prog w A s.heap (eval e₂ env) Vb)
    (kk : ∀ u v h' tk, Va u → Vb v → SubX [env.locals] s.heap h' → Fr h₀ env.locals h' (upd (upd m b v) a u) → wpAny (model prog w) A (execs rest env) Q E { s with heap := h', toks := tk })
    (hk : env.scope.kind = .function := by rfl) (hla : env.kindOf a = some .local := by rfl) (hlb : env.kindOf b = some .local := by rfl)
    (hs : swapsWithSole [.Tuple [.Name a pa, .Name b pb] k tp] (.Tuple [e₁, e₂] k' vp) pos.line env = pure false := by rfl)
    (hw : swappedStores [.Tuple [.Name a pa, .Name b pb] k tp] (.Tuple [e₁, e₂] k' vp) env = pure (some [a, b]) := by rfl)
    (hs1 : starEach [e₁, e₂] env = (false, eval e₁ env) :: starEach [e₂] env := by rfl) (hs2 : starEach [e₂] env = (false, eval e₂ env) :: starEach [] env := by rfl) :
    wpAny (model prog w) A (execs (.Assign [.Tuple [.Name a pa, .Name b pb] k tp] (.Tuple [e₁, e₂] k' vp) pos :: rest) env) Q E s := by
  refine wpAny_execs_cons (Assign_Tuple_swapped (PE.tuple2 ha hb hs1 hs2 s _ E Sub.rfl fun v h₁ t₁ k₁ ⟨t, u, z, hv, _, ht, hu, hz⟩ => ?_) hs hw)
  subst hv
  refine wpAny_unpackItems_tuple (items := #[u, z]) O.h (tup_of ht) fun h₂ x₂ => ?_
  have k₂ : Sub h₁ h₂ := Sub.ofExt x₂
  have F₂ := fr_up F (k₁.trans k₂)
  show wpAny _ A (do holding [u] (bindName env b z); do holding [] (bindName env a u); pure ()) _ _ _
  refine wpAny_bind (wpAny_holding (wpAny_bindName (st_store F₂ (fun h₃ t₃ F₃ k₃ => ?_) hk hlb)))
  refine wpAny_bind (wpAny_holding (wpAny_bindName (st_store F₃ (fun h₄ t₄ F₄ k₄ => wpAny_pure ?_) hk hla)))
  exact kk u z h₄ t₄ hu hz (((k₁.trans k₂).toX.trans k₃).trans k₄) F₄
end

theorem IsS_of {x y : Str} {v : Value} (h : IsS x v) (e : x = y) : IsS y v := e ▸ h
theorem PV.as {prog : Program} {w : World} {A : Around} {h : Heap} {t : Sem Value} {x y : Str} (e : PV prog w A h t (IsS x)) (k : x = y) : PV prog w A h t (IsS y) := k ▸ e
theorem PV.asI {prog : Program} {w : World} {A : Around} {h : Heap} {t : Sem Value} {x y : Int} (e : PV prog w A h t (IsI x)) (k : x = y) : PV prog w A h t (IsI y) := k ▸ e
theorem PV.asB {prog : Program} {w : World} {A : Around} {h : Heap} {t : Sem Bool} {x y : Bool} (e : PV prog w A h t (· = x)) (k : x = y) : PV prog w A h t (· = y) := k ▸ e

set_option maxHeartbeats 1000000 in
theorem fspath_S {prog : Program} {w : World} {A : Around} {h : Heap} {n : Nat} {a b : Value} {x : Str} (G : G0 w h) (O : AOk (n + 2) A) (hb : IsS x b) :
    PV prog w A h (call (.ref 35) [a, b]) (IsS x) := by
  obtain ⟨tb, rfl⟩ := hb
  refine call_def G O rfl (by kernel_rfl) rfl (locs rfl) (by decide) rfl rfl rfl fun s h₀ L Q E hs G0 O0 F q => ?_
  have G1 := G0.up (fr_sub F)
  refine st_assignV F (PE.call2F (PV.glob G1 (gl_kind _)) (G1.X 28 _ rfl) rfl (PV.loc F.ns rfl) (PV.loc F.ns rfl) fun v u h₁ k₁ hv hu => by subst hu; exact kind_S (G1.up k₁) O0 ⟨_, rfl⟩) fun v h' tk hv k F' => ?_
  obtain ⟨t, rfl⟩ := hv
  refine st_skip ((PV.isTrueS (PV.locS F'.ns rfl) (by decide +kernel)).asB (by decide +kernel)) fun h2 tk2 k2 => ?_
  exact st_ret (PV.locS (fr_up F' k2).ns rfl) fun v h3 tk3 k3 hv => q v h3 tk3 ((fr_sub (fr_up F' k2)).trans k3) hv
end Mine
end
section
open PySem PySem.W PyProof.Rows
set_option maxRecDepth 100000
namespace Mine
/-- what split gives first -/
noncomputable def headF (l : List Nat) : List Nat := if (l.take (nHead l)).all (· == 47) then l.take (nHead l) else rstripL (l.take (nHead l))
theorem gl_len (P : Params) : nsIn (hd.heap_39 P) mainGlobals "len" = some none := by kernel_rfl
theorem bo_len : bootBuiltins "len" = some (.builtin "len") := by kernel_rfl
theorem all_rep (l : List Nat) : (l == List.replicate l.length 47) = l.all (· == 47) := by
  rw [Bool.eq_iff_iff, beq_iff_eq, List.all_eq_true, List.eq_replicate_iff]
  simp
theorem headF_le (l : List Nat) : (headF l).length ≤ l.length := by
  unfold headF rstripL dropSl
  split
  · rw [List.length_take]; omega
  · have := len_dropWhile_le (· == 47) (l.take (nHead l)).reverse
    simp only [List.length_reverse] at this ⊢
    rw [List.length_take] at this; omega
set_option maxHeartbeats 2000000 in
theorem split_S {prog : Program} {w : World} {A : Around} {h : Heap} {n : Nat} {a : Value} {l : List Nat} (G : G0 w h) (O : AOk (n + 3) A) (ha : IsS (S l) a) (hl : l.length ≤ 100000) :
    PE prog w A h (call (.ref 42) [a]) (fun v h' => NewTup h h' v (IsS (S (headF l))) (fun _ => True)) := by
  obtain ⟨ta, rfl⟩ := ha
  have hsz : ∀ k : List Nat, k.length ≤ l.length → (S k).length ≤ sizeLine := fun k hk => by rw [S_len, szL]; omega
  refine call_def G O rfl (by kernel_rfl) rfl (locs rfl) (by decide) rfl rfl rfl fun s h₀ L Q E hs G0 O0 F q => ?_
  have G1 := G0.up (fr_sub F)
  -- p = _fspath('split', p)
  refine st_assignV F (PE.call2F (PV.glob G1 (gl_fspath_ _)) (G1.X 35 _ rfl) rfl PV.str (PV.loc F.ns rfl) fun v u h₁ k₁ hv hu => by subst hu; exact fspath_S (G1.up k₁) O0 ⟨_, rfl⟩) fun v h1 t1 hv k1 F1 => ?_
  obtain ⟨t, rfl⟩ := hv
  -- sep = '/'
  refine st_assignV F1 (PV.str.as lit_sl) fun v h2 t2 hv k2 F2 => ?_
  obtain ⟨tsep, rfl⟩ := hv
  -- i = p.rfind(sep) + 1
  refine st_assignV F2 ((PV.addI (PV.rfind (PV.locS F2.ns rfl) (PV.locS F2.ns rfl)) PV.int).asI (S_rfind l)) fun v h3 t3 hv k3 F3 => ?_
  obtain ⟨ti, rfl⟩ := hv
  -- head, tail = p[:i], p[i:]
  refine st_swap O0 F3 ((PV.sliceTo (PV.locS F3.ns rfl) (PV.locI F3.ns rfl) (hsz _ (Nat.le_refl _))).as (S_to l _ (nHead_le l))) (PV.sliceFrom (PV.locS F3.ns rfl) (PV.locI F3.ns rfl) (hsz _ (Nat.le_refl _))) fun u v h4 t4 hu hv k4 F4 => ?_
  obtain ⟨th, rfl⟩ := hu; obtain ⟨tt, rfl⟩ := hv
  have hh : (l.take (nHead l)).length ≤ l.length := by rw [List.length_take]; omega
  refine st_if (PV.and2 (PV.isTrueS (PV.locS F4.ns rfl) (hsz _ hh)) fun _ => PV.test (PV.locS F4.ns rfl)
    (PV.mulS (PV.locS F4.ns rfl) ((PV.len (PV.boot (G0.up (fr_sub F4)) (gl_len _) bo_len) (PV.locS F4.ns rfl) (hsz _ hh)).asI (by rw [S_len])) (by omega)) fun a b ha hb => cmp_neS ha hb) fun h5 t5 k5 => ?_
  have F5 := fr_up F4 k5
  rw [S_beq, all_rep, S_len]
  by_cases hall : (l.take (nHead l)).all (· == 47) = true
  · rw [hall]
    simp only [Bool.not_true, Bool.and_false, Bool.false_eq_true, if_false]
    refine wpAny_execs_nil (st_ret (PE.tuple2 (Va := IsS (S (headF l))) (Vb := fun _ => True) ((PV.locS F5.ns rfl).as (by unfold headF; rw [if_pos hall])) ((PV.locS F5.ns rfl).weak fun _ _ _ _ => trivial)) fun v h6 t6 k6 ⟨a, u, z, e1, e2, e3⟩ => ?_)
    exact q v h6 t6 ((fr_sub F5).trans k6) ⟨a, u, z, e1, (hs.trans (fr_sub F5)).none e2, e3⟩
  · have hall' : (l.take (nHead l)).all (· == 47) = false := by simpa using hall
    have hne : (((l.take (nHead l)).length : Int) != 0) = true := by
      rw [bne_iff_ne]
      intro e
      have : l.take (nHead l) = [] := List.eq_nil_of_length_eq_zero (by omega)
      rw [this] at hall'; cases hall'
    rw [hall', hne]
    simp only [Bool.not_false, Bool.and_self, if_true]
    refine st_assignV F5 ((PV.rstrip (PV.locS F5.ns rfl) (PV.locS F5.ns rfl) (hsz _ hh)).as (y := S (headF l)) (by rw [S_rstrip]; unfold headF; rw [if_neg hall])) fun v h6 t6 hv k6 F6 => ?_
    obtain ⟨t7, rfl⟩ := hv
    refine wpAny_execs_nil (st_ret (PE.tuple2 (Va := IsS (S (headF l))) (Vb := fun _ => True) (PV.locS F6.ns rfl) ((PV.locS F6.ns rfl).weak fun _ _ _ _ => trivial)) fun v h7 t7 k7 ⟨a, u, z, e1, e2, e3⟩ => ?_)
    exact q v h7 t7 ((fr_sub F6).trans k7) ⟨a, u, z, e1, (hs.trans (fr_sub F6)).none e2, e3⟩
end Mine
end
section
open PySem PySem.W PyProof.Rows
set_option maxRecDepth 100000
namespace Mine
/-- what the loop of _ancestry yields from a path -/
inductive Anc : List Nat → List (List Nat) → Prop
  | nil {p} (h : rstripL p = []) : Anc p []
  | cons {p r} (h : rstripL p ≠ []) (t : Anc (headF p) r) : Anc p (p :: r)

section
variable {prog : Program} {w : World} {A : Around} {E : Value → Shared → Prop} {s : Shared}
/-- the end of a generator: StopIteration is made and raised -/
theorem stop_raised {α β : Type} {g : α → Sem β} {Q : β → Shared → Prop} (hh : A.handled = none)
    (k : ∀ h' a, (∀ b o, s.heap.get? b = some o → h'.get? b = some o) → Shared.TypeIs { s with heap := h' } (.ref a) "StopIteration" → E (.ref a) { s with heap := h' }) :
    wpAny (model prog w) A (newExc (.type "StopIteration") [] >>= fun e => raiseNew e >>= g) Q E s := by
  unfold newExc newTuple
  refine wpAny_bind (wpAny_bind (wpAny_newObj_type ?_ (by size_fits)))
  refine wpAny_bind (m := firstArgMember _ _) (wpAny_of_eq (a := Value.none) (by first | rfl | (simp only [firstArgMember]; rfl)) (wpAny_newObj_type ?_ (by size_fits)))
  unfold raiseNew
  refine wpAny_bind (wpAny_bind (wpAny_handled ?_))
  rw [hh]
  exact wpAny_throw (k _ _ (fun b o e => Heap.get?_push_of_some _ (Heap.get?_push_of_some _ e)) ⟨_, Heap.get?_push_size _ rfl, rfl⟩)
/-- next of a generator that stands: it yields, and is kept bare; or it ends -/
theorem next_genQ {a : Addr} {g n : Nat} {gs : GenState} {P : Nat → Shared → Shared → Prop} {Y : Protocol} {Q : Option Value → Shared → Prop} (hh : A.handled = none) (hl : s.heap.NoLimit) (hroom : A.depth < recursionLimit)
    (hg : s.heap.IsGen a g) (hgs : s.gens[g]? = some gs) (hgo : gs.Goes (model prog w) A.in1 (fun n s₀ r s₁ => r = .ok (.ret .none) ∧ P n s₀ s₁) Y n (.send .none) (s.setGen g .running))
    (hY : ∀ v s₁ gs', gs'.bare = true → Y (n - 1) (s.setGen g .running) v s₁ (fun r' s'' => match n with
        | 0 => False
        | m + 1 => gs'.Goes (model prog w) A.in1 (fun n s₀ r s₁ => r = .ok (.ret .none) ∧ P n s₀ s₁) Y m r' s'') → Q (some v) (s₁.setGen g gs'))
    (hP : ∀ s₁, P n (s.setGen g .running) s₁ → ∀ h', (∀ b o, s₁.heap.get? b = some o → h'.get? b = some o) → Q none { s₁.setGen g .finished with heap := h' }) :
    wpAny (model prog w) A (pyNext (.ref a)) Q E s := by
  have alive : gs ≠ .running ∧ gs ≠ .finished := ⟨fun e => by rw [e] at hgo; exact hgo.elim, fun e => by rw [e] at hgo; exact hgo.elim⟩
  unfold pyNext
  refine wpAny_bind (wpAny_attempt (wpAny_callSpecial?_slot (name := Str.ofString "__next__") hg.typeIs slot_gen_next (wpAny_call_entry slot_gen_next hg.typeIs entry_gen_next ?_ (args_gen_next _))))
  show wpAny _ A.in1 (Builtin.Generator.genWake (.ref a) (.send .none)) _ _ s
  unfold Builtin.Generator.genWake
  refine wpAny_bind (wpAny_holding (wpAny_genNumber hg (wpAny_bind (wpAny_genState hgs ?_))))
  cases gs <;> first | exact absurd rfl alive.1 | exact absurd rfl alive.2 | skip
  all_goals
    refine wpAny_bind (wpAny_roomToWake hl hroom ?_)
    show wpAny _ A.in1 (.resume g (.send .none) [] _) _ _ s
    refine wpAny_resumeQ hgs hgo (fun x s₁ hx => ?_) fun v s₁ gs' hb hv => wpAny_pure ⟨v, rfl, wpAny_pure (hY v s₁ gs' hb hv)⟩
    rw [hx.1]
    exact stop_raised hh fun h' _ ext ty => wpAny_bind (wpAny_isInstance (T := "StopIteration") (b := true) ty isSubtype_stop (wpAny_pure (hP s₁ hx.2 h' ext)))
end

noncomputable def AEnd (L : Addr) : GenEnd := fun n s₀ r s₁ => r = .ok (.ret .none) ∧ (n = 0 ∧ GenSince L [] s₀ s₁)
noncomputable def AProto (L : Addr) (M : Nat) (items : List (List Nat)) : Protocol := fun m s₀ v s kap =>
  (∃ x, items[items.length - 1 - m]? = some x ∧ IsS (S x) v) ∧ GenSince L [] s₀ s ∧ ∀ s'' : Shared, (∀ b, b < M → ∀ o, s.heap.get? b = some o → s''.heap.get? b = some o) → kap (.send .none) s''

theorem S_len0 (l : List Nat) : ((((S l).length : Nat) : Int) != 0) = !decide (l = []) := by
  rw [S_len]
  cases l with
  | nil => rfl
  | cons a r => simp; omega
theorem len_rstrip (l : List Nat) : (rstripL l).length ≤ l.length := by
  unfold rstripL dropSl
  have := len_dropWhile_le (· == 47) l.reverse
  simpa using this

section
variable {prog : Program} {w : World} {A : Around}
theorem over_ok {n : Nat} {c : Code} {fs : List Frame} (O : AOk (n + 4) A) (h1 : (marksOver fs (A.handled, A.handled)).1 = A.handled) (h2 : frameCount (fs.map Frame.where_) + c.weight ≤ 4) (h3 : unitsOf (fs.map Frame.where_) + c.cUnits ≤ 100) : AOk n (A.over c fs) :=
  ⟨h1.trans O.h, by have := O.d; show A.depth + frameCount (fs.map Frame.where_) + c.weight + n ≤ 900; omega, by have := O.u; show A.units + unitsOf (fs.map Frame.where_) + c.cUnits + 40 * n ≤ 9000; omega⟩

theorem seg_anc_loop {env : Env} {n M : Nat} {hb : Heap} {p1 p2 p3 p4 q1 q2 q3 r1 r2 r3 r4 r5 r6 r7 fp : Pos} {tk : Nat} {K : Flow → Sem Fin} {H : Value → Sem Fin} {gd : Bool → Bool} {lv : List Value → List Value} {body : List Stmt} {items : List (List Nat)}
    (O : AOk (n + 8) A) (G : G0 w hb) (hM : ∀ b o, hb.get? b = some o → b < M) (hL : env.locals < M)
    (hk : env.scope.kind = .function := by rfl) (hco : env.scope.isCoroutine = false := by rfl) (hi : interactive env = false := by rfl) (hpath : env.kindOf "path" = some .local := by rfl) (htail : env.kindOf "tail" = some .local := by rfl)
    (hsep : env.kindOf "sep" = some .globalImplicit := by rfl) (hsplit : env.kindOf "split" = some .globalImplicit := by rfl) (hg : env.globals = mainGlobals := by rfl)
    (hl : (p2.endLine == p4.line) = true := by rfl) (gl_sep : ∃ t, nsIn (KK w) mainGlobals "sep" = some (some (.str "/" t)))
    (hgd : gd false = false := by rfl) (hK : K .next = .pure (.done (.ret .none)) := by rfl) :
    ∀ (q : List Nat) (r : List (List Nat)), Anc q r → q.length ≤ 100000 → ∀ (s₀ s : Shared) (m : Str → Option Value) (t : Tok), r = items.drop (items.length - r.length) → r.length ≤ items.length → GenSince env.locals [] s₀ s →
      Fr hb env.locals s.heap m → m "path" = some (.str (S q) t) →
      Seg (model prog w) A (AEnd env.locals) (AProto env.locals M items) r.length s₀
        (.whileLoop (.Call (.Attribute (.Name "path" p1) "rstrip" p2) [.Name "sep" p3] [] p4)
          [.Expr (.Yield (some (.Name "path" q1)) q2) q3, .Assign [.Tuple [.Name "path" r1, .Name "tail" r2] tk r3] (.Call (.Name "split" r4) [.Name "path" r5] [] r6) r7] [] env)
        ((model prog w).den (.whileLoop (.Call (.Attribute (.Name "path" p1) "rstrip" p2) [.Name "sep" p3] [] p4)
          [.Expr (.Yield (some (.Name "path" q1)) q2) q3, .Assign [.Tuple [.Name "path" r1, .Name "tail" r2] tk r3] (.Call (.Name "split" r4) [.Name "path" r5] [] r6) r7] [] env))
        [.ret (fun r => ((match r with | .ok f => (.pure f : Sem Flow) | .error e => .raise e).onRaise fun (x : Value) => do
          if (← field x 1) == Value.none then unsupported "frame.own-activation:exception-without-traceback"
          setFlight x env.frame).wrap K H gd lv) none (gd false) (lv []) (.func body env) fp []] s := by
  intro q r hq
  have O' : ∀ b, AOk (n + 4) (A.over (.whileLoop (.Call (.Attribute (.Name "path" p1) "rstrip" p2) [.Name "sep" p3] [] p4)
          [.Expr (.Yield (some (.Name "path" q1)) q2) q3, .Assign [.Tuple [.Name "path" r1, .Name "tail" r2] tk r3] (.Call (.Name "split" r4) [.Name "path" r5] [] r6) r7] [] env)
        [.ret (fun r => ((match r with | .ok f => (.pure f : Sem Flow) | .error e => .raise e).onRaise fun (x : Value) => do
          if (← field x 1) == Value.none then unsupported "frame.own-activation:exception-without-traceback"
          setFlight x env.frame).wrap K H gd lv) none b (lv []) (.func body env) fp []]) := fun b => over_ok O rfl (Nat.le_of_ble_eq_true rfl) (Nat.le_of_ble_eq_true rfl)
  have sepV : ∀ h, Sub hb h → PV prog w (A.over (.whileLoop (.Call (.Attribute (.Name "path" p1) "rstrip" p2) [.Name "sep" p3] [] p4)
          [.Expr (.Yield (some (.Name "path" q1)) q2) q3, .Assign [.Tuple [.Name "path" r1, .Name "tail" r2] tk r3] (.Call (.Name "split" r4) [.Name "path" r5] [] r6) r7] [] env)
        [.ret (fun r => ((match r with | .ok f => (.pure f : Sem Flow) | .error e => .raise e).onRaise fun (x : Value) => do
          if (← field x 1) == Value.none then unsupported "frame.own-activation:exception-without-traceback"
          setFlight x env.frame).wrap K H gd lv) none (gd false) (lv []) (.func body env) fp []]) h (eval (.Name "sep" p3) env) (IsS (S [47])) := fun h k => by
    obtain ⟨t, e⟩ := gl_sep
    exact PE.weak (PV.glob (G.up k) e hg hk hsep) fun _ _ _ e => ⟨t, by rw [e, ← lit_sl]⟩
  induction hq with
  | nil h =>
    intro hlen s₀ s m t _ _ hsince F hm
    refine seg_whileLoop ((PV.isTrueS (PV.rstrip (PV.locS F.ns hm hk hpath) (sepV _ (fr_sub F)) (by rw [S_len, szL]; omega) rfl rfl hl) (by rw [S_rstrip, S_len, szL]; exact Nat.le_trans (len_rstrip _) (by omega)) rfl) s _ _ Sub.rfl fun b h1 t1 k1 e => ?_)
    subst e
    rw [S_rstrip, S_len0, h]
    simp only [decide_true, Bool.not_true, Bool.false_eq_true, if_false]
    refine seg_execs_nil (seg_leaf (.ok .next) ?_)
    show Seg _ A _ _ _ s₀ _ (K .next) [] _
    rw [hK]
    exact seg_end (.ok (.ret .none)) ⟨rfl, rfl, hsince.step fun b o _ _ e => k1 b o e⟩
  | cons h ht ih =>
    rename_i p r
    intro hlen s₀ s m t hr hrl hsince F hm
    refine seg_whileLoop ((PV.isTrueS (PV.rstrip (PV.locS F.ns hm hk hpath) (sepV _ (fr_sub F)) (by rw [S_len, szL]; omega) rfl rfl hl) (by rw [S_rstrip, S_len, szL]; exact Nat.le_trans (len_rstrip _) (by omega)) rfl) s _ _ Sub.rfl fun b h1 t1 k1 e => ?_)
    subst e
    rw [S_rstrip, S_len0, decide_eq_false h]
    simp only [Bool.not_false, if_true]
    have F1 := fr_up F k1
    refine seg_execs_cons (seg_Expr_Yield rfl rfl (by show (gd false || false) = false; rw [hgd]; rfl) ?_ hco hi)
    refine (PV.loc F1.ns hm hk hpath) _ _ _ Sub.rfl fun v h2 t2 k2 hv => ?_
    subst hv
    intro kap hkap
    have hix : items[items.length - 1 - r.length]? = some p := by
      have e1 : (p :: r).length = r.length + 1 := rfl
      rw [e1] at hr hrl
      have e2 : items.length - 1 - r.length = items.length - (r.length + 1) := by omega
      have e3 := congrArg (fun l => l[0]?) hr
      simp only [List.getElem?_drop, Nat.add_zero] at e3
      rw [e2]; exact e3.symm
    refine ⟨⟨p, hix, t, rfl⟩, (hsince.step (h' := h1) (tk := t1) fun b o _ _ e => k1 b o e).step fun b o _ _ e => k2 b o e, fun s'' hs'' => ?_⟩
    refine hkap .none s'' ?_
    show Seg _ A _ _ _ s'' _ ((execs _ env).wrap _ _ _ _) _ s''
    have F2 := fr_up F1 k2
    have F'' : Fr hb env.locals s''.heap m := ⟨F2.ns.at' fun o e => hs'' _ hL o e, fun b o e => hs'' b (hM b o e) o (F2.keep b o e), F2.above⟩
    refine seg_execs_cons (seg_wrap ?_)
    have hsp : PE prog w _ s''.heap (eval (.Call (.Name "split" r4) [.Name "path" r5] [] r6) env) (fun v h' => NewTup s''.heap h' v (IsS (S (headF p))) (fun _ => True)) :=
      PE.call1F (PV.glob (G.up (fr_sub F'')) (gl_split _) hg hk hsplit) ((G.up (fr_sub F'')).X 42 _ rfl) rfl (PV.loc F''.ns hm hk hpath) (fun v h₁ k₁ hv => by
        subst hv
        exact (split_S (n := n) ((G.up (fr_sub F'')).up k₁) ((O' (gd false)).less (by omega)) ⟨t, rfl⟩ hlen).weak fun v h' _ ⟨a, u, z, e1, e2, e3⟩ => ⟨a, u, z, e1, k₁.none e2, e3⟩)
    refine Assign_Tuple (hsp s'' _ _ Sub.rfl fun v h3 t3 k3 ⟨T, u, z, hv, _, hT, hu, hz⟩ => ?_) rfl rfl
    subst hv
    refine wpAny_assign_Tuple (items := #[u, z]) (O' (gd false)).h (tup_of hT) rfl rfl fun h4 x4 => ?_
    have k4 : Sub h3 h4 := Sub.ofExt x4
    have F4 := fr_up (fr_up F'' k3) k4
    show wpAny _ _ (do holding [z] (assign (.Name "path" r1) env u); do holding [] (assign (.Name "tail" r2) env z); pure ()) _ _ _
    refine wpAny_bind (wpAny_holding (wpAny_assign_Name (st_store F4 (fun h5 t5 F5 k5 => ?_) hk hpath)))
    refine wpAny_bind (wpAny_holding (wpAny_assign_Name (st_store F5 (fun h6 t6 F6 k6 => wpAny_pure ?_) hk htail)))
    show Seg _ A _ _ _ s'' _ ((execs [] env).wrap _ _ _ _) _ _
    refine seg_execs_nil (seg_again rfl ?_)
    obtain ⟨t', rfl⟩ := hu
    refine ih (Nat.le_trans (headF_le _) hlen) s'' _ _ t' ?_ (by have : (p :: r).length = r.length + 1 := rfl; omega) ((GenSince.refl _ _ _).step fun b o hbL _ e => ?_) F6 rfl
    · have e1 : (p :: r).length = r.length + 1 := rfl
      rw [e1] at hr hrl
      have e2 : items.length - r.length = items.length - (r.length + 1) + 1 := by omega
      have e3 := congrArg (List.drop 1) hr
      rw [List.drop_drop] at e3
      rw [e2]; exact e3
    · exact k6 b o (by simpa using hbL) (k5 b o (by simpa using hbL) (k4 b o (k3 b o e)))
end
end Mine
end
section
open PySem PySem.W PyProof.Rows
set_option maxRecDepth 100000
namespace Mine
/-! lists of texts -/
noncomputable def Strs : List Value → List (List Nat) → Prop
  | [], [] => True
  | v :: vs, x :: xs => IsS (S x) v ∧ Strs vs xs
  | _, _ => False
theorem Strs.len : ∀ {vs : List Value} {xs : List (List Nat)}, Strs vs xs → vs.length = xs.length
  | [], [], _ => rfl
  | _ :: _, _ :: _, h => by rw [List.length_cons, List.length_cons, Strs.len h.2]
theorem Strs.get : ∀ {vs : List Value} {xs : List (List Nat)}, Strs vs xs → ∀ {j : Nat} {v : Value}, vs[j]? = some v → ∃ x, xs[j]? = some x ∧ IsS (S x) v
  | [], _, _, _, _, e => by simp at e
  | _ :: _, _ :: _, h, 0, v, e => by cases e; exact ⟨_, rfl, h.1⟩
  | _ :: _, _ :: _, h, j + 1, v, e => Strs.get h.2 (j := j) (by simpa using e)
theorem Strs.get' : ∀ {vs : List Value} {xs : List (List Nat)}, Strs vs xs → ∀ {j : Nat} {x : List Nat}, xs[j]? = some x → ∃ v, vs[j]? = some v ∧ IsS (S x) v
  | [], [], _, _, _, e => by simp at e
  | _ :: _, _ :: _, h, 0, v, e => by cases e; exact ⟨_, rfl, h.1⟩
  | _ :: _, _ :: _, h, j + 1, v, e => Strs.get' h.2 (j := j) (by simpa using e)
theorem Strs.of_get : ∀ {vs : List Value} {xs : List (List Nat)}, vs.length = xs.length → (∀ (j : Nat) (v : Value), vs[j]? = some v → ∃ x, xs[j]? = some x ∧ IsS (S x) v) → Strs vs xs
  | [], [], _, _ => trivial
  | v :: vs, x :: xs, hl, h => by
    refine ⟨?_, Strs.of_get (by simpa using hl) fun j u e => ?_⟩
    · obtain ⟨y, e, hy⟩ := h 0 v rfl; cases e; exact hy
    · obtain ⟨y, e', hy⟩ := h (j + 1) u (by simpa using e); exact ⟨y, by simpa using e', hy⟩
theorem Strs.app : ∀ {vs : List Value} {xs : List (List Nat)} {us : List Value} {ys : List (List Nat)}, Strs vs xs → Strs us ys → Strs (vs ++ us) (xs ++ ys)
  | [], [], _, _, _, h => h
  | _ :: _, _ :: _, _, _, h, h' => ⟨h.1, Strs.app h.2 h'⟩
theorem Strs.one {v : Value} {x : List Nat} (h : IsS (S x) v) : Strs [v] [x] := ⟨h, trivial⟩
theorem Strs.take : ∀ {vs : List Value} {xs : List (List Nat)} (n : Nat), Strs vs xs → Strs (vs.take n) (xs.take n)
  | [], [], n, _ => by cases n <;> trivial
  | _ :: _, _ :: _, 0, _ => trivial
  | _ :: _, _ :: _, n + 1, h => ⟨h.1, Strs.take n h.2⟩
theorem Strs.drop : ∀ {vs : List Value} {xs : List (List Nat)} (n : Nat), Strs vs xs → Strs (vs.drop n) (xs.drop n)
  | [], [], n, _ => by cases n <;> trivial
  | _ :: _, _ :: _, 0, h => h
  | _ :: _, _ :: _, n + 1, h => Strs.drop n h.2
theorem Strs.rev {vs : List Value} {xs : List (List Nat)} (h : Strs vs xs) : Strs vs.reverse xs.reverse := by
  induction vs generalizing xs with
  | nil => cases xs with
    | nil => trivial
    | cons => exact h.elim
  | cons v r ih => cases xs with
    | nil => exact h.elim
    | cons x xs => rw [List.reverse_cons, List.reverse_cons]; exact (ih h.2).app (.one h.1)
theorem Strs.vals : ∀ {vs : List Value} {xs : List (List Nat)}, Strs vs xs → ∃ l : List (Str × Tok), vs = strValues l ∧ l.map (·.1) = xs.map S
  | [], [], _ => ⟨[], rfl, rfl⟩
  | v :: vs, x :: xs, h => by
    obtain ⟨l, e1, e2⟩ := Strs.vals h.2
    obtain ⟨t, e⟩ := h.1
    exact ⟨(S x, t) :: l, by rw [e, e1]; rfl, by simp [e2]⟩
/-- a list object of texts -/
noncomputable def LS (h : Heap) (D : Addr) (xs : List (List Nat)) : Prop := ∃ vs : List Value, h.PlainList D vs.toArray ∧ Strs vs xs
theorem LS.at' {h h' : Heap} {D : Addr} {xs : List (List Nat)} (x : LS h D xs) (k : ∀ o, h.get? D = some o → h'.get? D = some o) : LS h' D xs := let ⟨vs, a, b⟩ := x; ⟨vs, a.at k, b⟩
theorem LS.up {h h' : Heap} {D : Addr} {xs : List (List Nat)} (x : LS h D xs) (k : Sub h h') : LS h' D xs := x.at' fun o e => k D o e
theorem LS.upX {h h' : Heap} {D : Addr} {xs : List (List Nat)} {ms : List Addr} (x : LS h D xs) (k : SubX ms h h') (n : D ∉ ms) : LS h' D xs := x.at' fun o e => k D o n e
theorem LS.some {h : Heap} {D : Addr} {xs : List (List Nat)} (x : LS h D xs) : ∃ o, h.get? D = Option.some o := let ⟨_, ⟨n, e⟩, _⟩ := x; ⟨_, e⟩

/-! the generator of _ancestry as a walk -/
noncomputable def AncAt (prog : Program) (w : World) (A : Around) (a : Addr) (g : Nat) (L : Addr) (M : Nat) (items : List (List Nat)) (j : Nat) (s : Shared) : Prop :=
  s.heap.IsGen a g ∧ s.heap.NoLimit ∧ ∃ gs, s.gens[g]? = some gs ∧ ∀ s'' : Shared, (∀ b, b < M → ∀ o, s.heap.get? b = some o → s''.heap.get? b = some o) →
    gs.Goes (model prog w) A.in1 (AEnd L) (AProto L M items) (items.length - j) (.send .none) s''

theorem anc_walks {prog : Program} {w : World} {A : Around} (hh : A.handled = none) (hroom : A.depth < recursionLimit) (a : Addr) (g : Nat) (L : Addr) (M : Nat) (items : List (List Nat))
    (haM : a < M) (hLM : L < M) (hcM : cStatics < M) (hcL : cStatics ≠ L) (haL : a ≠ L) :
    WalksS prog w A a (List.range M) [L] (GenOnlyQ g) items.length (fun i v => ∃ x, items[i]? = some x ∧ IsS (S x) v) (AncAt prog w A a g L M items) where
  sub := fun b hb => by rw [List.mem_singleton.mp hb]; exact List.mem_range.mpr hLM
  grefl := fun _ => .inl rfl
  gtrans := fun _ _ _ x y => x.trans y
  frame := fun j s h' tk st _ hk =>
    ⟨let ⟨o, nm, qn, ho, r⟩ := st.1; ⟨o, nm, qn, hk a (List.mem_range.mpr haM) o ho, r⟩,
     (let ⟨mc, hns, hnn⟩ := st.2.1; ⟨mc, hns.at' fun o e => hk cStatics (List.mem_range.mpr hcM) o e, hnn⟩),
     let ⟨gs, hgs, hgo⟩ := st.2.2; ⟨gs, hgs, fun s'' hal => hgo s'' fun b hb o e => hal b hb o (hk b (List.mem_range.mpr hb) o e)⟩⟩
  item := fun j s Q E hj st hQ => by
    obtain ⟨hg, hl, gs, hgs, hgo⟩ := st
    obtain ⟨m, hm⟩ : ∃ m, items.length - j = m + 1 := ⟨items.length - j - 1, by omega⟩
    rw [hm] at hgo
    refine wpAny_with_toks (Nat.le_refl s.toks) ?_
    refine next_genQ (P := fun n s₀ s₁ => n = 0 ∧ GenSince L [] s₀ s₁) hh hl hroom hg hgs (hgo _ fun _ _ _ e => e) (fun v s₁ gs' hb hv => ?_) (fun s₁ hp h' hk => ?_)
    · obtain ⟨⟨x, hi, hF⟩, ⟨h₁, tk₁, rfl, hk₁⟩, hkap⟩ := hv
      have hidx : items.length - 1 - (m + 1 - 1) = j := by omega
      rw [hidx] at hi
      intro htk
      refine hQ v _ ⟨x, hi, hF⟩ ⟨let ⟨o, nm, qn, ho, r⟩ := hg; ⟨o, nm, qn, hk₁ a o haL (by simp) ho, r⟩, (let ⟨mc, hns, hnn⟩ := hl; ⟨mc, hns.at' fun o e => hk₁ cStatics o hcL (by simp) e, hnn⟩), gs', setGen_self (gs := .running) (setGen_self hgs), fun s'' hal => ?_⟩
        ⟨fun b o hb e => hk₁ b o (fun h => hb (h ▸ List.mem_cons_self ..)) (by simp) e, GenOnlyQ.of ((GenOnly.setGen s g .running).trans (GenOnly.setGen _ g gs')) (setGen_self (gs := .running) (setGen_self hgs)) hb, rfl, rfl, htk⟩
      have e : items.length - (j + 1) = m := by omega
      rw [e]
      exact hkap s'' hal
    · exact absurd hp.1 (Nat.succ_ne_zero m)
  done := fun s Q E st hQ => by
    obtain ⟨hg, hl, gs, hgs, hgo⟩ := st
    rw [Nat.sub_self] at hgo
    refine wpAny_with_toks (Nat.le_refl s.toks) ?_
    refine next_genQ (P := fun n s₀ s₁ => n = 0 ∧ GenSince L [] s₀ s₁) hh hl hroom hg hgs (hgo _ fun _ _ _ e => e) (fun v s₁ gs' hb hv => ?_) (fun s₁ hp h' hk => ?_)
    · obtain ⟨_, _, hkap⟩ := hv
      exact False.elim (hkap s₁ fun _ _ _ e => e)
    · obtain ⟨_, h₁, tk₁, rfl, hk₁⟩ := hp
      intro htk
      exact hQ _ ⟨fun b o hb e => hk b o (hk₁ b o (fun h => hb (h ▸ List.mem_cons_self ..)) (by simp) e), GenOnlyQ.of ((GenOnly.setGen s g .running).trans (GenOnly.setGen _ g .finished)) (setGen_self (gs := .running) (setGen_self hgs)) rfl, rfl, rfl, htk⟩
  self := fun _ _ _ _ st hQ => wpAny_pyIter_gen st.1 hQ

theorem gl_sep (P : Params) : ∃ t, nsIn (hd.heap_39 P) mainGlobals "sep" = some (some (.str "/" t)) := ⟨_, rfl⟩
theorem PV.sep {prog : Program} {w : World} {A : Around} {h : Heap} {env : Env} {pos : Pos} (G : G0 w h) (hg : env.globals = mainGlobals := by rfl) (hk : env.scope.kind = .function := by rfl) (hx : env.kindOf "sep" = some .globalImplicit := by rfl) :
    PV prog w A h (eval (.Name "sep" pos) env) (IsS (S [47])) := by
  obtain ⟨t, e⟩ := gl_sep w.params
  exact PE.weak (PV.glob G e hg hk hx) fun _ _ _ e => ⟨t, by rw [e, ← lit_sl]⟩
theorem gl_anc (P : Params) : nsIn (hd.heap_39 P) mainGlobals "_ancestry" = some (some (.ref 49)) := by kernel_rfl

/-- _ancestry(path) makes a generator -/
theorem anc_call {prog : Program} {w : World} {A B : Around} {n : Nat} {s : Shared} {a : Value} {l : List Nat} {items : List (List Nat)} {Q : Value → Shared → Prop} {E : Value → Shared → Prop} (G : G0 w s.heap) (O : AOk (n + 2) A) (OB : AOk (n + 14) B) (ha : IsS (S l) a) (hl : l.length ≤ 100000)
    (hA : Anc (rstripL l) items)
    (q : ∀ h' gs tk, gs.bare = true → Sub s.heap h' → h'.objs.size = s.heap.objs.size + 2 → s.heap.get? (s.heap.objs.size + 1) = none → 
      AncAt prog w B (s.heap.objs.size + 1) s.gens.size s.heap.objs.size (s.heap.objs.size + 2) items 0 { s with heap := h', gens := s.gens.push gs, toks := tk } →
      Q (.ref (s.heap.objs.size + 1)) { s with heap := h', gens := s.gens.push gs, toks := tk }) :
    wpAny (model prog w) A (call (.ref 49) [a]) Q E s := by
  obtain ⟨ta, rfl⟩ := ha
  refine wpAny_call (codeAny_call_generator O.room (G.X 49 _ rfl) rfl rfl rfl rfl (codeRec_of G.X (by kernel_rfl)) ?_)
  refine (BindsTo.of_eq (binds := [("path", .str (S l) ta)]) rfl : BindsTo s _ _ _) _ _ _ _ ?_
  refine wpAny_newFunctionEnv (by decide) (locs rfl) (fun h₁ hns hsb => ⟨G.lim.fresh _ hsb, ?_⟩) rfl
  have hsz : h₁.objs.size = s.heap.objs.size + 1 := by rw [hsb.1, Heap.size_push]
  have k₁ : Sub s.heap h₁ := fun b o e => hsb.extBut b o (Nat.ne_of_lt (Heap.lt_size e)) (Heap.get?_push_of_some _ e)
  show Q (.ref h₁.objs.size) _
  rw [hsz]
  refine q _ _ _ rfl (k₁.trans (Sub.push _ _)) (by rw [Heap.size_push, hsz]) (Heap.get?_none_of_le (Nat.le_succ _)) ⟨⟨_, _, _, hsz ▸ Heap.get?_push_size _ rfl, rfl, rfl, rfl⟩, (G.lim.fresh _ hsb).keeps (Sub.push _ _), _, Array.getElem?_push_size .., fun s'' hs'' => ⟨rfl, ?_⟩⟩
  have k2 : Sub s.heap s''.heap := fun b o e => hs'' b (Nat.lt_of_lt_of_le (Heap.lt_size e) (Nat.le_add_right _ 2)) o (Sub.push _ _ _ _ (k₁ b o e))
  have F : Fr s.heap s.heap.objs.size s''.heap (fun x => [((Str.ofString "path"), Value.str (S l) ta)].reverse.lookup x) :=
    ⟨(hns.push _).at' fun o e => hs'' _ (Nat.lt_add_of_pos_right (by decide)) o e, k2, Nat.le_refl _⟩
  have Oo : ∀ c : Code, c.weight ≤ 4 → c.cUnits ≤ 100 → AOk (n + 9) (B.in1.over c []) := fun c h1 h2 =>
    over_ok (OB.in1.less (by omega)) rfl (by rw [List.map_nil]; show 0 + c.weight ≤ 4; omega) (by rw [List.map_nil]; show 0 + c.cUnits ≤ 100; omega)
  have G2 := G.up k2
  refine seg_func (seg_execs_cons (seg_wrap (wpAny_Assign_Name ?_ rfl)))
  refine (PV.rstrip (PV.locS F.ns rfl) (PV.sep G2) (by rw [S_len, szL]; omega)) s'' _ _ Sub.rfl fun v h3 t3 k3 hv => ?_
  refine st_store (fr_up F k3) fun h4 t4 F4 k4 => ?_
  rw [S_rstrip] at hv
  obtain ⟨tp, rfl⟩ := hv
  show Seg _ _ _ _ _ _ _ ((execs _ _).wrap _ _ _ _) _ _
  refine seg_execs_cons (seg_While fun fp => ?_)
  exact seg_anc_loop (A := B.in1) (n := n) (M := s.heap.objs.size + 2) (items := items) (hb := s.heap) (OB.in1.less (by omega)) G (fun b o e => Nat.lt_of_lt_of_le (Heap.lt_size e) (Nat.le_add_right _ 2)) (Nat.lt_add_of_pos_right (n := s.heap.objs.size) (k := 2) (by decide))
    (by rfl) (by rfl) (by rfl) (by rfl) (by rfl) (by rfl) (by rfl) (by rfl) (by rfl) (gl_sep _) (by rfl) (by rfl)
    (rstripL l) items hA (Nat.le_trans (len_rstrip l) hl) s'' { s'' with heap := h4, toks := t4 } _ tp (by rw [Nat.sub_self]; rfl) (Nat.le_refl _) ((GenSince.refl _ _ _).step fun b o hb _ e => k4 b o (by simpa using hb) (k3 b o e)) F4 rfl
end Mine
end
section
open PySem PySem.W PyProof.Rows
set_option maxRecDepth 100000
namespace Mine
theorem gl_list (P : Params) : nsIn (hd.heap_39 P) mainGlobals "list" = some none := by kernel_rfl
theorem bo_list : bootBuiltins "list" = some (.type "list") := by kernel_rfl
theorem cs_lt {h : Heap} (x : h.NoLimit) : cStatics < h.objs.size := let ⟨_, hn, _⟩ := x; hn.lt

/-- list(_ancestry(e)) -/
theorem list_anc {prog : Program} {w : World} {A : Around} {n : Nat} {s : Shared} {env : Env} {e : Expr} {p1 p2 p3 p4 : Pos} {l : List Nat} {items : List (List Nat)} {Q : Value → Shared → Prop} {E : Value → Shared → Prop}
    (G : G0 w s.heap) (O : AOk (n + 16) A) (he : PV prog w A s.heap (eval e env) (IsS (S l))) (hl : l.length ≤ 100000) (hA : Anc (rstripL l) items) (hn : items.length ≤ 100000)
    (q : ∀ s' D, Sub s.heap s'.heap → s'.os = s.os → (AllBare s.gens → AllBare s'.gens) → s.heap.get? D = none → LS s'.heap D items → Q (.ref D) s')
    (hg : env.globals = mainGlobals := by rfl) (hb : env.builtins = builtinsNs := by rfl) (hk : env.scope.kind = .function := by rfl)
    (hx : env.kindOf "list" = some .globalImplicit := by rfl) (hy : env.kindOf "_ancestry" = some .globalImplicit := by rfl)
    (hs1 : starEach [.Call (.Name "_ancestry" p2) [e] [] p3] env = (false, eval (.Call (.Name "_ancestry" p2) [e] [] p3) env) :: starEach [] env := by rfl)
    (hs2 : starEach [e] env = (false, eval e env) :: starEach [] env := by rfl) :
    wpAny (model prog w) A (eval (.Call (.Name "list" p1) [.Call (.Name "_ancestry" p2) [e] [] p3] [] p4) env) Q E s := by
  refine wpAny_Call_Name_kw ((PV.boot G (gl_list _) bo_list (by decide) hg hb hk hx) s _ E Sub.rfl fun fv h1 t1 k1 hfv => ?_)
  subst hfv
  refine PyProof.Rows.callWith_type1 (wpAny_items_cons ?_ hs1) hs1 rfl
  refine wpAny_Call_Name_kw ((PV.glob (G.up k1) (gl_anc _) hg hk hy) _ _ E Sub.rfl fun fv h2 t2 k2 hfv => ?_)
  subst hfv
  have G2 := (G.up k1).up k2
  refine callWith_def_at (G2.X 49 _ rfl) rfl (wpAny_items_cons ((he.up (k1.trans k2)) _ _ E Sub.rfl fun v h3 t3 k3 hv => wpAny_items_nil ⟨(G2.up k3).X 49 _ rfl, ?_⟩) hs2) hs2
  have G3 := G2.up k3
  refine anc_call (A := A) (B := A.in1.in1) (n := n) (s := { s with heap := h3, toks := t3 }) G3 (O.less (by omega)) O.in1.in1 hv hl hA fun h4 gs t4 hgs k4 hsz hnew st => ?_
  refine wpAny_items_nil ?_
  have W := anc_walks (prog := prog) (w := w) (A := A.in1.in1) O.h (O.in1.in1.room) (h3.objs.size + 1) s.gens.size h3.objs.size (h3.objs.size + 2) items (Nat.lt_succ_self _) (Nat.lt_add_of_pos_right (by decide))
    (Nat.lt_of_lt_of_le (cs_lt G3.lim) (Nat.le_add_right _ 2)) (Nat.ne_of_lt (cs_lt G3.lim)) (Nat.succ_ne_self _)
  refine call_list_gen (hn := by rw [szL]; omega) W (fun i s st => st.1.typeIs) st (fun b hb => by rw [hsz]; exact List.mem_range.mp hb) (List.mem_range.mpr (Nat.lt_succ_self _)) fun s' acc c hm hS hacc => ?_
  have kk : Sub s.heap s'.heap := fun b o e => hm.heap b o (fun hmem => by
      have hlt : b < h3.objs.size := Heap.lt_size (k3 b o (k2 b o (k1 b o e)))
      rcases List.mem_cons.mp hmem with rfl | hmem
      · have : h4.objs.size < h3.objs.size := hlt
        rw [hsz] at this; exact absurd this (Nat.not_lt.mpr (Nat.le_add_right _ 2))
      · rw [List.mem_singleton.mp hmem] at hlt; exact Nat.lt_irrefl _ hlt) (Sub.push _ _ _ _ (k4 b o (k3 b o (k2 b o (k1 b o e)))))
  refine q s' _ kk hm.os (fun hb => ?_) ?_ ⟨acc.toList, ⟨c, by simpa using hS⟩, Strs.of_get (by simpa using hacc.1) fun j v e => hacc.2 j v (by simpa using e)⟩
  · exact (hb.push hgs).moved hm.gens
  · exact (((k1.trans k2).trans k3).trans k4).none (get_none_size h4)
end Mine
end
section
open PySem PySem.W PyProof.Rows
set_option maxRecDepth 100000
namespace Mine
theorem nested_str {prog : Program} {w : World} {A : Around} {E : Value → Shared → Prop} {s : Shared} {tk : Tok} {d : Int} {Q : PySem.Fin → Shared → Prop} (q : Q (.done (.ret (.bool true))) s) :
    wpAny (model prog w) A (Builtin.«issubclass.nested» ⟨[.type "str", .type "str", .int d tk], []⟩) Q E s := by
  have h1 := F.sub_str_str
  repeat (any_goals (first | assumption | (rw [h1]) | wp_step))
theorem kind_issub_nested : builtinKind "issubclass.nested" = none := by decide +kernel
theorem plain_issub_nested : plainId "issubclass.nested" = true := by decide +kernel
theorem args_issub_nested (a b c : Value) : argsOk "issubclass.nested" ⟨[a, b, c], []⟩ := by unfold argsOk; kernel_rfl
theorem nested_tup {prog : Program} {w : World} {A : Around} {E : Value → Shared → Prop} {s : Shared} {tk : Tok} {tp : Addr} {cs rest : List Value} {Q : PySem.Fin → Shared → Prop}
    (htp : s.heap.get? tp = some { cls := .type "tuple", data := .seq cs.toArray }) (hcs : cs = .type "str" :: rest)
    (q : Q (.done (.ret (.bool true))) s) :
    wpAny (model prog w) A (Builtin.«issubclass.nested» ⟨[.type "str", .ref tp, .int 0 tk], []⟩) Q E s := by
  obtain ⟨h, g, d, t, os⟩ := s
  have hT2 : (⟨h, g, d, t, os⟩ : Shared).TypeIs (.ref tp) "tuple" := ⟨_, htp, rfl⟩
  have f1 := F.isi_sub_tuple
  repeat (any_goals (first | assumption | wp_step))
  refine wpAny_arrayLoop ?_
  simp only [Option.getD_some, List.toList_toArray]
  rw [hcs, List.forIn_cons]
  refine wpAny_bind (wpAny_bind (Calls.call_function_entry kind_issub_nested plain_issub_nested F.entry_issubclass_nested (args_issub_nested _ _ _) (nested_str ⟨_, rfl, ?_⟩)))
  refine wpAny_bind (m := truthy (.bool true)) (wpAny_pure ?_)
  simp only [if_true]
  exact wpAny_bind (wpAny_pure (wpAny_pure (wpAny_pure (wpAny_pure q))))
theorem issub_str {prog : Program} {w : World} {A : Around} {E : Value → Shared → Prop} {s : Shared} {tp : Addr} {cs rest : List Value} {Q : Value → Shared → Prop}
    (htp : s.heap.get? tp = some { cls := .type "tuple", data := .seq cs.toArray }) (hcs : cs = .type "str" :: rest) (q : Q (.bool true) s) :
    wpAny (model prog w) A (call (.builtin "issubclass") [.type "str", .ref tp]) Q E s := by
  refine wpAny_call (codeAny_call_builtin F.plain_issubclass F.entry_issubclass ?_)
  have h2 := F.args_issubclass_2 (.type "str") (.ref tp)
  have hchk : checkBuiltinCall "issubclass" ⟨[.type "str", .ref tp], []⟩ = pure () := by
    simp only [checkBuiltinCall, F.kind_issubclass]
    cases hsig : Manifest.signature? "issubclass" with
    | none => rfl
    | some sig => simp only [argsOk, hsig] at h2; exact h2
  rw [hchk]
  refine wpAny_pure (issubclass_outer (nested_tup htp hcs q))

theorem gl_issub (P : Params) : nsIn (hd.heap_39 P) mainGlobals "issubclass" = some none := by kernel_rfl
theorem bo_issub : bootBuiltins "issubclass" = some (.builtin "issubclass") := by kernel_rfl
theorem gl_bytes (P : Params) : nsIn (hd.heap_39 P) mainGlobals "bytes" = some none := by kernel_rfl
theorem bo_bytes : bootBuiltins "bytes" = some (.type "bytes") := by kernel_rfl
section
variable {prog : Program} {w : World} {A : Around} {h : Heap} {env : Env} {pos p : Pos} {e e₁ e₂ : Expr} {R : Value → Heap → Prop} {Va Vb : Value → Prop} {Pb : Value → Heap → Prop}
theorem PE.call2 {f : Str} {id : String} (hf : PV prog w A h (eval (.Name f p) env) (· = .builtin id)) (ha : PV prog w A h (eval e₁ env) Va) (hb : PE prog w A h (eval e₂ env) Pb)
    (hc : ∀ v u h₁, Sub h h₁ → Va v → Pb u h₁ → PE prog w A h₁ (call (.builtin id) [v, u]) R) (hs : starEach [e₁, e₂] env = (false, eval e₁ env) :: starEach [e₂] env := by rfl) (hs2 : starEach [e₂] env = (false, eval e₂ env) :: starEach [] env := by rfl) :
    PE prog w A h (eval (.Call (.Name f p) [e₁, e₂] [] pos) env) R := by
  intro s Q E hss hq
  refine wpAny_Call_Name_kw (hf s _ E hss fun fv h1 t1 k1 hfv => ?_)
  subst hfv
  refine PyProof.Rows.callWith_builtin1 (wpAny_items_cons (ha _ _ E (hss.trans k1) fun v h2 t2 k2 pv => wpAny_items_cons (hb _ _ E ((hss.trans k1).trans k2) fun u h3 t3 k3 pu => wpAny_items_nil ?_) hs2) hs) hs (by rw [hs2]; rfl)
  exact hc v u h3 (((hss.trans k1).trans k2).trans k3) pv pu _ Q E Sub.rfl fun r h' tk k' z => hq r h' tk (((k1.trans k2).trans k3).trans k') z
/-- a value as a test -/
theorem PV.isTrueB {b : Bool} (he : PV prog w A h (eval e env) (· = .bool b))
    (hw : isTrue e env (eval e env) = (do let v ← eval e env; standAt e.pos; holding [v] (truthy v)) := by rfl) : PV prog w A h (isTrue e env (eval e env)) (· = b) := by
  intro s Q E hs hq
  refine wpAny_isTrue_value (he s _ E hs fun v h1 t1 k1 hv => ?_) hw
  subst hv
  exact wpAny_truthy_bool (hq b h1 t1 k1 rfl)
end
set_option maxHeartbeats 1000000 in
theorem fspath_os {prog : Program} {w : World} {A : Around} {h : Heap} {n : Nat} {a : Value} {x : Str} (G : G0 w h) (O : AOk (n + 1) A) (ha : IsS x a) :
    PV prog w A h (call (.ref 122) [a]) (IsS x) := by
  refine call_def G O rfl (by kernel_rfl) rfl (locs rfl) (by decide) rfl rfl rfl fun s h₀ L Q E hs G0 O0 F q => ?_
  refine st_assignV F (PE.call1T (PV.boot (G0.up (fr_sub F)) (gl_type _) bo_type) (PV.loc F.ns rfl) fun v h₁ _ hv => by subst hv; exact type_S ha) fun v h' tk hv k F' => ?_
  subst hv
  have G1 := G0.up (fr_sub F')
  refine st_if (b := true) (PV.isTrueB (PE.call2 (PV.boot G1 (gl_issub _) bo_issub) (PV.loc F'.ns rfl) (PE.tuple2 (PV.boot G1 (gl_str _) bo_str) (PV.boot G1 (gl_bytes _) bo_bytes)) fun v u h₁ k₁ hv ⟨tp, y, z, e1, _, e2, e3, e4⟩ => ?_)) fun h2 tk k2 => ?_
  · subst hv; subst e1; subst e3; subst e4
    exact fun s _ _ hs q => issub_str (cs := [.type "str", .type "bytes"]) (hs _ _ e2) rfl (q _ s.heap s.toks Sub.rfl rfl)
  · refine st_ret (PV.loc (fr_up F' k2).ns rfl) fun v h3 tk3 k3 hv => ?_
    subst hv
    exact q _ h3 tk3 (((fr_sub F').trans k2).trans k3) ha
end Mine
end
section
open PySem PySem.W PyProof.Rows
open AutoSeq1 (wpAny_loadPart')
set_option maxRecDepth 100000
namespace Mine
theorem slot_map_init : Slot "map" "__init__" "object.__init__" :=
  .of (owner := "object") (n := "__init__") (by rw [typeLookup_type, builtinLookup_eq_fast]; kernel_rfl) (by decide +kernel) (by decide +kernel) (by decide +kernel)
    (by first | exact .inl (by decide +kernel) | exact .inr (by decide +kernel)) (by rw [isSubtype_type]; kernel_rfl)
theorem slot_map_iter : Slot "map" "__iter__" "map.__iter__" :=
  .of (owner := "map") (n := "__iter__") (by rw [typeLookup_type, builtinLookup_eq_fast]; kernel_rfl) (by decide +kernel) (by decide +kernel) (by decide +kernel)
    (by first | exact .inl (by decide +kernel) | exact .inr (by decide +kernel)) (by rw [isSubtype_type]; kernel_rfl)
theorem slot_map_next : Slot "map" "__next__" "map.__next__" :=
  .of (owner := "map") (n := "__next__") (by rw [typeLookup_type, builtinLookup_eq_fast]; kernel_rfl) (by decide +kernel) (by decide +kernel) (by decide +kernel)
    (by first | exact .inl (by decide +kernel) | exact .inr (by decide +kernel)) (by rw [isSubtype_type]; kernel_rfl)
theorem entry_map_next : entryFor table "map.__next__" = some Builtin.«map.__next__» := entryFor_of_fast (by kernel_rfl)
theorem entry_map_iter : entryFor table "map.__iter__" = some Builtin.«dict_keyiterator.__iter__» :=
  entryFor_alias (id' := "dict_keyiterator.__iter__") (by kernel_rfl) (by first | rfl | decide +kernel | (unfold String.splitOn; simp +decide [String.splitOnAux])) (by decide +kernel) (by kernel_rfl)
theorem args_map_iter (a : Value) : argsOk "map.__iter__" ⟨[a], []⟩ := by unfold argsOk; kernel_rfl
theorem args_map_next (a : Value) : argsOk "map.__next__" ⟨[a], []⟩ := by unfold argsOk; kernel_rfl
theorem mro_map : mroOf (.type "map") = pure [.type "map", .type "object"] := by rw [mroOf_type]; kernel_rfl
theorem lookup_map_new : typeLookup (.type "map") "__new__" = pure (some (.builtin "map.__new__")) := by rw [typeLookup_type, builtinLookup_eq_fast]; kernel_rfl
theorem called_map : TypeCalled "map" "map.__new__" "object.__init__" :=
  ⟨by decide +kernel, by decide +kernel, ⟨_, _, mro_map⟩, madeBy_type mro_map lookup_map_new (by decide +kernel), by decide +kernel, by rw [isSubtype_type]; kernel_rfl, slot_map_init⟩
theorem typeCall_map (a b : Value) : checkTypeCall "map" ⟨[a, b], []⟩ = pure () := by kernel_rfl
theorem newCall_map (a b : Value) : checkBuiltinCall "map.__new__" ⟨[.type "map", a, b], []⟩ = pure () := by kernel_rfl
theorem entry_map_new : entryFor table "map.__new__" = some Builtin.«map.__new__» := entryFor_of_fast (by kernel_rfl)
theorem sub_map : isSubtype (.type "map") (.type "map") = pure true := by rw [isSubtype_type]; kernel_rfl
theorem map_no_len : typeLookup (.type "map") "__len__" = pure none := by rw [typeLookup_type, builtinLookup_eq_fast]; kernel_rfl
theorem map_no_hint : typeLookup (.type "map") "__length_hint__" = pure none := by rw [typeLookup_type, builtinLookup_eq_fast]; kernel_rfl

theorem iterAll_one (x : Value) : Builtin.SmallTypes.iterAll [x] = (do let v ← holding [] (pyIter x); pure [v]) := by
  simp [Builtin.SmallTypes.iterAll]
theorem newClass_map {prog : Program} {w : World} {A : Around} {E : Value → Shared → Prop} {s : Shared} {xs : List Value} {Q : Value × List Value → Shared → Prop} (h : Q (Value.type "map", xs) s) :
    wpAny (model prog w) A (Builtin.SmallTypes.newClass "map" ⟨Value.type "map" :: xs, []⟩) Q E s := by
  have hsub := sub_map
  unfold Builtin.SmallTypes.newClass
  wp_walk
  exact h
theorem meets_map_new (f : Value) (l : Addr) (items : Array Value) :
    Meets (Builtin.«map.__new__» ⟨[.type "map", f, .ref l], []⟩) (fun _ R s => s.heap.IsList l items ∧
      R (.ok (.ret (.ref (s.heap.objs.size + 2))))
        { s with heap := ((s.heap.push { cls := .type "list_iterator", data := .fields #[.ref l, .int 0 0] }).push { cls := .type "tuple", data := .seq #[.ref s.heap.objs.size] }).push { cls := .type "map", data := .fields #[.ref (s.heap.objs.size + 1), f] } }) :=
  .of_wp fun prog w A R s h => by
    obtain ⟨hL, h⟩ := h
    have e1 : (s.heap.push { cls := .type "list_iterator", data := .fields #[.ref l, .int 0 0] }).objs.size = s.heap.objs.size + 1 := Heap.size_push ..
    have e2 : ((s.heap.push { cls := .type "list_iterator", data := .fields #[.ref l, .int 0 0] }).push { cls := .type "tuple", data := .seq #[.ref s.heap.objs.size] }).objs.size = s.heap.objs.size + 2 := by rw [Heap.size_push, e1]
    unfold Builtin.«map.__new__»
    refine wpAny_bind (newClass_map (xs := [f, .ref l]) ?_)
    unfold Builtin.SmallTypes.refuseKeywords
    refine wpAny_bind (wpAny_pure ?_)
    show wpAny _ _ (Builtin.SmallTypes.iterAll [.ref l] >>= _) _ _ _
    rw [iterAll_one]
    refine wpAny_bind (wpAny_bind (wpAny_holding (wpAny_pyIter_list hL (wpAny_pure ?_))))
    refine wpAny_bind (wpAny_newTuple ?_)
    rw [e1]
    unfold Builtin.SmallTypes.newRecord
    refine wpAny_bind (wpAny_newObj_type ?_ (by size_fits))
    show wpAny _ _ (ret (.ref _)) _ _ _
    refine wpAny_pure ⟨_, rfl, ?_⟩
    show R (.ok (.ret (.ref ((s.heap.push _).push _).objs.size))) _
    rw [e2]; exact h

section
variable {prog : Program} {w : World} {A : Around} {E : Value → Shared → Prop} {s : Shared}
theorem call_map {f : Value} {l : Addr} {items : Array Value} {Q : Value → Shared → Prop} (hL : s.heap.IsList l items)
    (h : Q (.ref (s.heap.objs.size + 2)) { s with heap := ((s.heap.push { cls := .type "list_iterator", data := .fields #[.ref l, .int 0 0] }).push { cls := .type "tuple", data := .seq #[.ref s.heap.objs.size] }).push { cls := .type "map", data := .fields #[.ref (s.heap.objs.size + 1), f] } }) :
    wpAny (model prog w) A (call (.type "map") [f, .ref l]) Q E s := by
  have e1 : (s.heap.push { cls := .type "list_iterator", data := .fields #[.ref l, .int 0 0] }).objs.size = s.heap.objs.size + 1 := Heap.size_push ..
  have e2 : ((s.heap.push { cls := .type "list_iterator", data := .fields #[.ref l, .int 0 0] }).push { cls := .type "tuple", data := .seq #[.ref s.heap.objs.size] }).objs.size = s.heap.objs.size + 2 := by rw [Heap.size_push, e1]
  refine callType_new called_map (by decide) (typeCall_map _ _) (newCall_map _ _) (fun obj => F.args_object_init_3 obj _ _) entry_map_new
    (meets_map_new f l items) ⟨hL, ⟨{ cls := .type "map", data := .fields #[.ref (s.heap.objs.size + 1), f] }, ?_, rfl⟩, h⟩
  show Heap.get? _ (s.heap.objs.size + 2) = _
  rw [← e2]
  exact Heap.get?_push_size _ rfl
end
/-- where a map of fspath stands -/
structure MapAt (h₀ : Heap) (M T it D : Addr) (vs : List Value) (i : Nat) (h : Heap) : Prop where
  m : h.get? M = some { cls := .type "map", data := .fields #[.ref T, .ref 122] }
  t : h.get? T = some { cls := .type "tuple", data := .seq #[.ref it] }
  it : h.IsListIter it D i
  l : h.IsList D vs.toArray
  k : Sub h₀ h
section
variable {prog : Program} {w : World} {A : Around}
theorem map_walks {n : Nat} (O : AOk (n + 4) A) (M T it D N : Addr) (vs : List Value) (xs : List (List Nat)) (hx : Strs vs xs) (hM : M < N) (hT : T < N) (hit : it < N) (hD : D < N)
    (hMi : M ≠ it) (hTi : T ≠ it) (hDi : D ≠ it) {h₀ : Heap} (G : G0 w h₀) (hN : h₀.objs.size ≤ N) (hn : h₀.get? it = none) :
    WalksS prog w A M (List.range N) [it] (fun a b => a = b) xs.length (fun i v => ∃ x, xs[i]? = some x ∧ IsS (S x) v) (fun i s => MapAt h₀ M T it D vs i s.heap) where
  sub := fun b hb => by rw [List.mem_singleton.mp hb]; exact List.mem_range.mpr hit
  grefl := fun _ => rfl
  gtrans := fun _ _ _ x y => x.trans y
  frame := fun j s h' tk st _ hk =>
    ⟨hk _ (List.mem_range.mpr hM) _ st.m, hk _ (List.mem_range.mpr hT) _ st.t, let ⟨o, ho, r⟩ := st.it; ⟨o, hk _ (List.mem_range.mpr hit) _ ho, r⟩, let ⟨o, ho, r⟩ := st.l; ⟨o, hk _ (List.mem_range.mpr hD) _ ho, r⟩,
     fun b o e => hk b (List.mem_range.mpr (Nat.lt_of_lt_of_le (Heap.lt_size e) hN)) o (st.k b o e)⟩
  item := fun j s Q E hj st hQ => by
    obtain ⟨v, hv, hvs⟩ := Strs.get' hx (List.getElem?_eq_getElem hj)
    have hTy : s.TypeIs (.ref M) "map" := ⟨_, st.m, rfl⟩
    refine wpAny_with_toks (Nat.le_refl s.toks) ?_
    unfold pyNext
    refine wpAny_bind (wpAny_attempt (wpAny_callSpecial?_slot (name := Str.ofString "__next__") hTy slot_map_next
      (wpAny_call_entry slot_map_next hTy entry_map_next ?_ (args_map_next _))))
    unfold Builtin.«map.__next__»
    refine wpAny_bind (wpAny_pure ?_)
    refine wpAny_bind (wpAny_field st.m rfl (x := .ref T) rfl ?_)
    refine wpAny_bind (wpAny_seqItems st.t rfl ?_)
    refine wpAny_bind (wpAny_arrayLoop ?_)
    rw [List.forIn_cons]
    refine wpAny_bind (wpAny_bind (wpAny_holding (wpAny_nextOf_list_item st.it st.l (x := v) (by simpa using hv) fun h1 hit1 hs1 => ?_)))
    refine wpAny_pure ?_
    refine wpAny_pure ?_
    refine wpAny_bind (wpAny_field ((hs1.2 M hMi).trans st.m) rfl (x := .ref 122) rfl ?_)
    have k1 : Sub h₀ h1 := fun b o e => (hs1.2 b fun z => by subst z; rw [e] at hn; cases hn).trans (st.k b o e)
    refine wpAny_bind (wpAny_holding ((fspath_os (n := n) (G.up k1) (O.in1.less (by omega)) hvs) _ _ _ Sub.rfl fun u h2 t2 k2 hu => ?_))
    refine wpAny_bind (wpAny_letGo ?_)
    refine wpAny_pure ⟨u, rfl, wpAny_pure ?_⟩
    intro htk
    refine hQ u _ ⟨_, List.getElem?_eq_getElem hj, hu⟩ ⟨k2 _ _ ((hs1.2 M hMi).trans st.m), k2 _ _ ((hs1.2 T hTi).trans st.t), (hit1.at fun o e => k2 _ o e), let ⟨o, ho, r⟩ := st.l; ⟨o, k2 _ _ ((hs1.2 D hDi).trans ho), r⟩, k1.trans k2⟩
      ⟨fun b o hb e => k2 b o ((hs1.2 b fun z => hb (List.mem_singleton.mpr z)).trans e), rfl, rfl, rfl, htk⟩
  done := fun s Q E st hQ => by
    have hTy : s.TypeIs (.ref M) "map" := ⟨_, st.m, rfl⟩
    unfold pyNext
    refine wpAny_bind (wpAny_attempt (wpAny_callSpecial?_slot (name := Str.ofString "__next__") hTy slot_map_next
      (wpAny_call_entry slot_map_next hTy entry_map_next ?_ (args_map_next _))))
    unfold Builtin.«map.__next__»
    refine wpAny_bind (wpAny_pure ?_)
    refine wpAny_bind (wpAny_field st.m rfl (x := .ref T) rfl ?_)
    refine wpAny_bind (wpAny_seqItems st.t rfl ?_)
    refine wpAny_bind (wpAny_arrayLoop ?_)
    rw [List.forIn_cons]
    refine wpAny_bind (wpAny_bind (wpAny_holding (wpAny_nextOf_list_end O.in1.h st.it st.l (by have := hx.len; simp; omega) fun h1 e x1 ⟨o, ho, hc⟩ => ?_)))
    refine wpAny_bind (wpAny_isInstance (T := "StopIteration") (b := true) ⟨o, ho, hc⟩ isSubtype_stop ?_)
    exact wpAny_pure (hQ _ ⟨fun b o hb e => x1 b o (fun z => hb (List.mem_singleton.mpr z)) e, rfl, rfl, rfl, Nat.le_refl _⟩)
  self := fun j s Q E st hQ => by
    have hTy : s.TypeIs (.ref M) "map" := ⟨_, st.m, rfl⟩
    refine wpAny_pyIter_slot hTy slot_map_iter (wpAny_call_entry slot_map_iter hTy entry_map_iter ?_ (args_map_iter _))
    show wpAny _ _ (ret (.ref M)) _ _ s
    exact wpAny_pure ⟨_, rfl, "map", _, hTy, slot_map_next.lookup, hQ⟩
end
end Mine
end
section
open PySem PySem.W PyProof.Rows
open AutoSeq1 (wpAny_loadPart')
set_option maxRecDepth 100000
namespace Mine
/-- A list that was just made. -/
noncomputable def blank : Obj := { cls := .type "list", data := .seq ([] : List Value).toArray }
section
variable {prog : Program} {w : World} {A : Around} {E : Value → Shared → Prop} {s : Shared}
/-- What the room-making does to an empty list: nothing that a reader can see. -/
theorem touched {S : Addr} {Q : Unit → Shared → Prop} (hS : s.heap.get? S = some blank)
    (k : ∀ h', (∀ b o, b ≠ S → s.heap.get? b = some o → h'.get? b = some o) → (∃ c, h'.get? S = some { cls := .type "list", dict := none, data := .seq #[] c, slots := #[] }) → Q () { s with heap := h' }) :
    wpAny (model prog w) A (Builtin.List.listTouch (.ref S)) Q E s := by
  have g1 := Heap.get?_update_self (Obj.mapSeq (·.push Value.none)) hS rfl
  have g2 := Heap.get?_update_self (Obj.mapSeq (·.pop)) g1 rfl
  show wpAny _ _ (updateSeq S (·.push .none) >>= fun _ => updateSeq S (·.pop)) _ _ _
  refine wpAny_bind (wpAny_updateSeq hS rfl (wpAny_updateSeq g1 rfl ?_))
  refine k _ (fun b o hb e => ?_) ⟨_, g2⟩
  rw [Heap.get?_update_other _ _ hb.symm, Heap.get?_update_other _ _ hb.symm]
  exact e
variable {I : Addr} {fp wr : List Addr} {G : Array GenState → Array GenState → Prop} {n : Nat} {P : Nat → Value → Prop} {St : Nat → Shared → Prop}
/-- `S += I` for an empty list S and a map object I: I is walked to its end. -/
theorem blank_iadd_map {S : Addr} {R : Result → Shared → Prop} (W : WalksS prog w A.in1 I fp wr G n P St) (hT : ∀ i s, St i s → s.TypeIs (.ref I) "map") (st : St 0 s)
    (hS : s.heap.get? S = some blank) (out : S ∉ fp) (hI : I ∈ fp) (hn : n ≤ sizeLine)
    (k : ∀ s' acc c, Moved (S :: wr) G s s' → s'.heap.get? S = some { cls := .type "list", dict := none, data := .seq acc c, slots := #[] } → ItemsOf P acc n → R (.ok (.ret (.ref S))) s') :
    codeAny (model prog w) A (.builtin "list.__iadd__" ⟨[.ref S, .ref I], []⟩) R s := by
  have ne : S ≠ I := fun e => out (e ▸ hI)
  refine codeAny_builtin F.entry_list_iadd ?_
  rw [Around.under_plainId F.plain_list_iadd _]
  show wpAny _ _ (Builtin.List.listExtendWith (.ref S) (.ref I) (.ref S)) _ _ _
  unfold Builtin.List.listExtendWith Builtin.List.listLengthHint
  refine wpAny_bind (wpAny_typeOf (hT 0 _ st) ?_)
  rw [if_neg (by simp only [Builtin.List.listSameRef, beq_iff_eq, ne, Bool.or_eq_true, not_or]; decide)]
  refine wpAny_bind (W.self 0 _ _ _ st (wpAny_bind (wpAny_holding ?_)))
  refine wpAny_bind (wpAny_specialOf (hT 0 _ st) map_no_len ?_)
  show wpAny _ _ (specialOf (Value.ref I) (Str.ofString "__length_hint__") >>= _) _ _ _
  refine wpAny_bind (wpAny_specialOf (hT 0 _ st) map_no_hint (wpAny_pure ?_))
  show wpAny _ _ (rule "list.extend.makes-room" >>= fun _ => Builtin.List.listTouch (.ref S) >>= fun _ => again (.builtin "list.extend.loop" ⟨[.ref S, .ref I, .ref S], []⟩)) _ _ _
  refine wpAny_bind (wpAny_rule (wpAny_bind (touched hS fun h' ks hS' => ?_)))
  obtain ⟨c, hS'⟩ := hS'
  refine wpAny_pure ⟨plainId_quiet F.plain_extend_loop _, codeAny_extend_loopS W hn S out _ n 0 _ #[] c rfl (Nat.zero_le _) (W.frame 0 s h' s.toks st (Nat.le_refl _) fun b hb o e => ks b o (fun e' => out (e' ▸ hb)) e) hS' (ItemsOf.nil P) fun s' acc c' hm g it => ?_⟩
  refine k s' acc c' (Moved.trans W.gtrans ((Moved.refl W.grefl).then_heap (Nat.le_refl _) fun b o hb e => ks b o (fun e' => hb (e' ▸ List.mem_cons_self)) e) hm) g it
/-- All items of a map object, as a list of values. -/
theorem collect_map {Q : List Value → Shared → Prop} (W : WalksS prog w A.in1 I fp wr G n P St) (hT : ∀ i s, St i s → s.TypeIs (.ref I) "map") (st : St 0 s) (old : ∀ b ∈ fp, b < s.heap.objs.size) (hI : I ∈ fp) (hn : n ≤ sizeLine)
    (k : ∀ s' acc, Moved wr G s s' → ItemsOf P acc n → Q acc.toList s') : wpAny (model prog w) A (collect (.ref I)) Q E s := by
  unfold collect
  refine wpAny_bind (wpAny_runValue (codeAny_builtin F.entry_proto_collect ?_))
  rw [Around.under_plainId F.plain_proto_collect _]
  show wpAny _ _ (newList [] >>= fun l => again (.builtin "list.__iadd__" ⟨[l, .ref I], []⟩)) _ _ s
  refine wpAny_bind (wpAny_newObj_type (wpAny_pure ⟨plainId_quiet F.plain_list_iadd _, ?_⟩))
  refine blank_iadd_map W hT (W.frame 0 s (s.heap.push blank) s.toks st (Nat.le_refl _) fun b _ o e => Heap.get?_push_of_some _ e) (Heap.get?_push_size _ rfl) (fun hm => Nat.lt_irrefl _ (old _ hm)) hI hn fun s' acc c hm g it => ?_
  show wpAny _ A (load s.heap.objs.size >>= _) _ _ s'
  exact wpAny_bind (wpAny_load g (wpAny_pure (k s' acc (Moved.drop_new (o := blank) (tk := s.toks) hm (Nat.le_refl _)) it)))
/-- `tuple(x)` where x is a map object of which it is known what its items are. -/
theorem tuple_map_by {x : Value} {K : Shared → Array Value → Prop} {Q : Value → Shared → Prop} (hx : s.TypeIs x "map") (hz : ∀ s' acc, K s' acc → acc.size ≤ sizeLine)
    (hc : ∀ (Q' : List Value → Shared → Prop) (E' : Value → Shared → Prop), (∀ s' acc, K s' acc → Q' acc.toList s') → wpAny (model prog w) A.in1.in1 (collect x) Q' E' s)
    (k : ∀ s' acc, K s' acc → Q (.ref s'.heap.objs.size) { s' with heap := s'.heap.push { cls := .type "tuple", data := .seq acc } }) :
    wpAny (model prog w) A (call (.type "tuple") [x]) Q E s := by
  refine callType_codes (Q₁ := fun v t => t.TypeIs v "tuple" ∧ Q v t) F.called_tuple (F.typeCall_tuple_1 _) F.entry_object_init (codeAny_of_tree ?_)
    fun v t h => ⟨h.1, F.args_object_init_2 v _, object_init_meets F.called_tuple.init.lookup F.called_tuple.made (by decide) prog w A.in1 _ t ⟨h.1, rfl, h.2⟩⟩
  show wpAny _ _ (do checkBuiltinCall "tuple.__new__" ⟨[.type "tuple", x], []⟩; again (.builtin "tuple.__new__" ⟨[.type "tuple", x], []⟩)) _ _ s
  refine wpAny_bind (wpAny_of_eq (F.newCall_tuple_1 _) (wpAny_pure ⟨plainId_quiet F.plain_tuple_new _, codeAny_builtin F.entry_tuple_new ?_⟩))
  rw [Around.under_plainId F.plain_tuple_new _]
  have f1 := sub_tuple_self
  have f2 := init_tuple_lookup
  have f3 := madeHere_tuple
  wp_walk using wpAny_typeOf hx, hc
  intro s' acc hk
  show wpAny _ _ (Builtin.Tuple.tupleExact acc.toList.toArray >>= fun v => ret v) _ _ _
  rw [show acc.toList.toArray = acc by simp]
  unfold Builtin.Tuple.tupleExact
  exact wpAny_bind (wpAny_newObj_type (wpAny_pure ⟨⟨_, Heap.get?_push_size _ rfl, rfl⟩, k s' acc hk⟩) (hz s' acc hk))
theorem call_tuple_map {Q : Value → Shared → Prop} (W : WalksS prog w A.in1.in1.in1 I fp wr G n P St) (hT : ∀ i s, St i s → s.TypeIs (.ref I) "map") (hst : St 0 s) (hfp : ∀ b ∈ fp, b < s.heap.objs.size) (hI : I ∈ fp)
    (hQ : ∀ s' acc, Moved wr G s s' → ItemsOf P acc n → Q (.ref s'.heap.objs.size) { s' with heap := s'.heap.push { cls := .type "tuple", data := .seq acc } }) (hsz : n ≤ sizeLine := by size_fits) :
    wpAny (model prog w) A (call (.type "tuple") [.ref I]) Q E s :=
  tuple_map_by (K := fun s' acc => Moved wr G s s' ∧ ItemsOf P acc n) (hT 0 s hst) (fun _ _ h => by rw [h.2.1]; exact hsz) (fun _ _ h => collect_map W hT hst hfp hI hsz fun s' acc a b => h s' acc ⟨a, b⟩) fun s' acc h => hQ s' acc h.1 h.2
end
end Mine
end
section
open PySem PySem.W PyProof.Rows
set_option maxRecDepth 100000
namespace Mine
theorem gl_tuple (P : Params) : nsIn (hd.heap_39 P) mainGlobals "tuple" = some none := by kernel_rfl
theorem bo_tuple : bootBuiltins "tuple" = some (.type "tuple") := by kernel_rfl
theorem gl_map (P : Params) : nsIn (hd.heap_39 P) mainGlobals "map" = some none := by kernel_rfl
theorem bo_map : bootBuiltins "map" = some (.type "map") := by kernel_rfl
theorem gl_fspath (P : Params) : nsIn (hd.heap_39 P) mainGlobals "fspath" = some (some (.ref 122)) := by kernel_rfl
/-- a tuple of texts, not in h -/
noncomputable def NewTS (h h' : Heap) (v : Value) (xs : List (List Nat)) : Prop := ∃ a vs, v = .ref a ∧ h.get? a = none ∧ h'.get? a = some { cls := .type "tuple", data := .seq vs.toArray } ∧ Strs vs xs

theorem PE.tuple_map {prog : Program} {w : World} {A : Around} {n : Nat} {h : Heap} {env : Env} {D : Addr} {xs : List (List Nat)} {e : Expr} {p1 p2 p3 p4 p5 : Pos} (G : G0 w h) (O : AOk (n + 10) A) (he : PV prog w A h (eval e env) (· = .ref D)) (hL : LS h D xs) (hx : xs.length ≤ 100000)
    (hg : env.globals = mainGlobals := by rfl) (hb : env.builtins = builtinsNs := by rfl) (hk : env.scope.kind = .function := by rfl)
    (hx1 : env.kindOf "tuple" = some .globalImplicit := by rfl) (hx2 : env.kindOf "map" = some .globalImplicit := by rfl) (hx3 : env.kindOf "fspath" = some .globalImplicit := by rfl)
    (hs1 : starEach [.Call (.Name "map" p2) [.Name "fspath" p3, e] [] p4] env = (false, eval (.Call (.Name "map" p2) [.Name "fspath" p3, e] [] p4) env) :: starEach [] env := by rfl)
    (hs2 : starEach [.Name "fspath" p3, e] env = (false, eval (.Name "fspath" p3) env) :: starEach [e] env := by rfl) (hs3 : starEach [e] env = (false, eval e env) :: starEach [] env := by rfl) :
    PE prog w A h (eval (.Call (.Name "tuple" p1) [.Call (.Name "map" p2) [.Name "fspath" p3, e] [] p4] [] p5) env) (fun v h' => NewTS h h' v xs) := by
  intro s Q E hss q
  have Gs := G.up hss
  refine wpAny_Call_Name_kw ((PV.boot Gs (gl_tuple _) bo_tuple (by decide) hg hb hk hx1) s _ E Sub.rfl fun fv h1 t1 k1 hfv => ?_)
  subst hfv
  refine PyProof.Rows.callWith_type1 (wpAny_items_cons ?_ hs1) hs1 rfl
  refine wpAny_Call_Name_kw ((PV.boot (Gs.up k1) (gl_map _) bo_map (by decide) hg hb hk hx2) _ _ E Sub.rfl fun fv h2 t2 k2 hfv => ?_)
  subst hfv
  have G2 := (Gs.up k1).up k2
  refine PyProof.Rows.callWith_type1 (wpAny_items_cons ((PV.glob G2 (gl_fspath _) hg hk hx3) _ _ E Sub.rfl fun v h3 t3 k3 hv => wpAny_items_cons ((he.up (((hss.trans k1).trans k2).trans k3)) _ _ E Sub.rfl fun u h4 t4 k4 hu => wpAny_items_nil ?_) hs3) hs2) hs2 (by rw [hs3]; rfl)
  subst hv; subst hu
  have G4 := (G2.up k3).up k4
  have k04 : Sub s.heap h4 := ((k1.trans k2).trans k3).trans k4
  obtain ⟨vs, ⟨cap, hP⟩, hvs⟩ := hL.up (hss.trans k04)
  refine call_map (s := { s with heap := h4, toks := t4 }) (items := vs.toArray) ⟨_, hP, rfl, _, rfl⟩ ?_
  refine wpAny_items_nil ?_
  have eN : (h4.push { cls := .type "list_iterator", data := .fields #[.ref D, .int 0 0] }).objs.size = h4.objs.size + 1 := Heap.size_push ..
  have eN2 : ((h4.push { cls := .type "list_iterator", data := .fields #[.ref D, .int 0 0] }).push { cls := .type "tuple", data := .seq #[.ref h4.objs.size] }).objs.size = h4.objs.size + 2 := by rw [Heap.size_push, eN]
  have hDl : D < h4.objs.size := Heap.lt_size hP
  have W := map_walks (prog := prog) (w := w) (A := A.in1.in1.in1) (n := n) (O.in1.in1.in1.less (by omega)) (h4.objs.size + 2) (h4.objs.size + 1) h4.objs.size D (h4.objs.size + 3) vs xs hvs (Nat.lt_succ_self _) (Nat.lt_succ_of_lt (Nat.lt_succ_self _)) (Nat.lt_succ_of_lt (Nat.lt_succ_of_lt (Nat.lt_succ_self _))) (Nat.lt_of_lt_of_le hDl (Nat.le_add_right _ 3))
    (Nat.ne_of_gt (Nat.lt_succ_of_lt (Nat.lt_succ_self _))) (Nat.succ_ne_self _) (Nat.ne_of_lt hDl) G4 (Nat.le_add_right _ 3) (get_none_size h4)
  refine call_tuple_map (hsz := by rw [szL]; omega) W (fun i s st => ⟨_, st.m, rfl⟩) ⟨?_, ?_, ?_, ?_, ?_⟩ (fun b hb => ?_) (List.mem_range.mpr (Nat.lt_succ_self _)) fun s' acc hm hacc => ?_
  · have := Heap.get?_push_size ((h4.push { cls := .type "list_iterator", data := .fields #[.ref D, .int 0 0] }).push { cls := .type "tuple", data := .seq #[.ref h4.objs.size] }) (o := { cls := .type "map", data := .fields #[.ref (h4.objs.size + 1), .ref 122] }) rfl
    rw [eN2] at this; exact this
  · have := Heap.get?_push_size (h4.push { cls := .type "list_iterator", data := .fields #[.ref D, .int 0 0] }) (o := { cls := .type "tuple", data := .seq #[.ref h4.objs.size] }) rfl
    rw [eN] at this; exact Heap.get?_push_of_some _ this
  · exact ⟨_, Heap.get?_push_of_some _ (Heap.get?_push_of_some _ (Heap.get?_push_size _ rfl)), rfl, rfl⟩
  · exact ⟨_, Heap.get?_push_of_some _ (Heap.get?_push_of_some _ (Heap.get?_push_of_some _ hP)), rfl, _, rfl⟩
  · exact ((Sub.push _ _).trans (Sub.push _ _)).trans (Sub.push _ _)
  · have := List.mem_range.mp hb
    show b < ((((h4.push _).push _).push _).objs.size)
    rw [Heap.size_push, eN2]; exact this
  · obtain ⟨h', g', d', tk', os'⟩ := s'
    have e1 : s.gens = g' := hm.gens
    have e2 : d' = s.drawn := hm.drawn
    have e3 : os' = s.os := hm.os
    subst e1; subst e2; subst e3
    have kk : Sub s.heap h' := fun b o e => hm.heap b o (fun hmem => by
      have hlt : b < h4.objs.size := Heap.lt_size (k04 b o e)
      rw [List.mem_singleton.mp hmem] at hlt; exact Nat.lt_irrefl _ hlt) (Sub.push _ _ _ _ (Sub.push _ _ _ _ (Sub.push _ _ _ _ (k04 b o e))))
    refine q _ _ tk' (kk.trans (Sub.push _ _)) ⟨_, acc.toList, rfl, (hss.trans kk).none (get_none_size h'), ?_, Strs.of_get (by simpa using hacc.1) fun j v e => hacc.2 j v (by simpa using e)⟩
    have := Heap.get?_push_size h' (o := { cls := .type "tuple", data := .seq acc }) rfl
    rw [Array.toArray_toList]; exact this
end Mine
end
section
open PySem PySem.W PyProof.Rows
set_option maxRecDepth 100000
namespace Mine
/-! comprehensions -/
noncomputable def Live (a b : Heap) : Prop := ∀ c, a.get? c ≠ none → b.get? c ≠ none
theorem Live.ofSub {a b : Heap} (k : Sub a b) : Live a b := fun c h => by
  cases e : a.get? c with
  | none => exact absurd e h
  | some o => rw [k c o e]; simp
theorem Live.trans {a b c : Heap} (x : Live a b) (y : Live b c) : Live a c := fun d h => y d (x d h)
/-- what is said of a new value -/
structure Res (R : Heap → Heap → Value → Prop) : Prop where
  base : ∀ {a b h : Heap} {v : Value}, Live a b → R b h v → R a h v
  keep : ∀ {a h h' : Heap} {v : Value} {ms : List Addr}, (∀ m ∈ ms, a.get? m ≠ none) → SubX ms h h' → R a h v → R a h' v
theorem Res.const (V : Value → Prop) : Res fun _ _ v => V v := ⟨fun _ x => x, fun _ _ x => x⟩

noncomputable def ItOf (h : Heap) (v : Value) (vs : List Value) : Prop := ∃ a, v = .ref a ∧ (h.IsList a vs.toArray ∨ h.IsTuple a vs.toArray)
theorem ItOf.up {h h' : Heap} {v : Value} {vs : List Value} (x : ItOf h v vs) (k : Sub h h') : ItOf h' v vs := by
  obtain ⟨a, e, ⟨o, ho, r⟩ | ⟨o, ho, r⟩⟩ := x
  · exact ⟨a, e, .inl ⟨o, k _ _ ho, r⟩⟩
  · exact ⟨a, e, .inr ⟨o, k _ _ ho, r⟩⟩

section
variable {prog : Program} {w : World} {A : Around} {E : Value → Shared → Prop} {s : Shared}
theorem live_of {h : Heap} {a : Addr} {o : Obj} (e : h.get? a = some o) : h.get? a ≠ none := by rw [e]; simp
theorem ns_live {h : Heap} {a : Addr} {m : Str → Option Value} (x : h.Ns a m) : h.get? a ≠ none := let ⟨_, _, _, ho, _⟩ := x; live_of ho
/-- an iterator over a list or a tuple -/
theorem iter_of {v : Value} {vs : List Value} {Q : Value → Shared → Prop} (hh : A.handled = none) (hv : ItOf s.heap v vs)
    (q : ∀ (fp : List Addr) (St : Nat → Heap → Prop) (o : Obj), Walks prog w A s.heap.objs.size fp [s.heap.objs.size] vs.length (fun i v => vs[i]? = some v) St → (∀ i h, St i h → ∃ o, h.get? s.heap.objs.size = some o ∧ (o.cls = .type "list_iterator" ∨ o.cls = .type "tuple_iterator") ∧ ∃ fs, o.data = .fields fs) →
      St 0 (s.heap.push o) → (∀ b ∈ fp, b < (s.heap.push o).objs.size) → Q (.ref s.heap.objs.size) { s with heap := s.heap.push o }) :
    wpAny (model prog w) A (pyIter v) Q E s := by
  obtain ⟨a, rfl, hl | hl⟩ := hv
  · have hlt : a < s.heap.objs.size := let ⟨o, ho, _⟩ := hl; Heap.lt_size ho
    refine wpAny_pyIter_list hl ?_
    have W := Walks.list (prog := prog) (w := w) (A := A) hh s.heap.objs.size a (Nat.ne_of_lt hlt) vs.toArray
    refine q [s.heap.objs.size, a] (fun i h => h.IsListIter s.heap.objs.size a i ∧ h.IsList a vs.toArray) _ (by simpa using W) (fun i h st => let ⟨⟨o, ho, hc, hd⟩, _⟩ := st; ⟨o, ho, .inl hc, _, hd⟩) ⟨⟨_, Heap.get?_push_size _ rfl, rfl, rfl⟩, hl.push _⟩ fun b hb => ?_
    rw [Heap.size_push]
    rcases List.mem_cons.mp hb with zz | hb
    · rw [zz]; exact Nat.lt_succ_self _
    · rw [List.mem_singleton.mp hb]; exact Nat.lt_succ_of_lt hlt
  · have hlt : a < s.heap.objs.size := let ⟨o, ho, _⟩ := hl; Heap.lt_size ho
    refine wpAny_pyIter_tuple hl ?_
    have W := Walks.tuple (prog := prog) (w := w) (A := A) hh s.heap.objs.size a (Nat.ne_of_lt hlt) vs.toArray
    refine q [s.heap.objs.size, a] (fun i h => h.IsTupleIter s.heap.objs.size a i ∧ h.IsTuple a vs.toArray) _ (by simpa using W) (fun i h st => let ⟨⟨o, ho, hc, hd⟩, _⟩ := st; ⟨o, ho, .inr hc, _, hd⟩) ⟨⟨_, Heap.get?_push_size _ rfl, rfl, rfl⟩, ?_⟩ fun b hb => ?_
    · obtain ⟨o, ho, r⟩ := hl; exact ⟨o, Heap.get?_push_of_some _ ho, r⟩
    rw [Heap.size_push]
    rcases List.mem_cons.mp hb with zz | hb
    · rw [zz]; exact Nat.lt_succ_self _
    · rw [List.mem_singleton.mp hb]; exact Nat.lt_succ_of_lt hlt
end

/-- the tree of a turn -/
noncomputable abbrev turnOf (e target iter elt : Expr) (ifs : List Expr) (em : Value → Value → Sem Unit) (it acc : Value) (env : Env) : Sem PySem.Fin := do
  standAt iter.pos
  match ← pyNext it with
  | none => pure (.done .next)
  | some v =>
    letOwnedTupleGo target it v
    assign target env v
    let mut ok := true
    for c in ifs do
      if ok then ok ← isTrue c env (eval c env)
    if ok then
      (do let y ← eval elt env; em acc y)
    again (.compLoop e 0 it acc env)
noncomputable abbrev testsOf (ifs : List Expr) (env : Env) : Sem Bool := forIn ifs true fun c r => if r = true then do let ok ← isTrue c env (eval c env); pure (ForInStep.yield ok) else pure (ForInStep.yield r)

theorem Paired.get {α β : Type} {F : α → β → Prop} {l₁ : List α} {l₂ : List β} (h : Paired F l₁ l₂) : ∀ {i : Nat} {b : β}, l₂[i]? = some b → ∃ a, l₁[i]? = some a ∧ F a b := by
  induction h with
  | nil => intro i b e; simp at e
  | cons h t ih =>
    intro i b e
    cases i with
    | zero => cases e; exact ⟨_, rfl, h⟩
    | succ i => exact ih (i := i) (by simpa using e)

section
variable {prog : Program} {w : World} {A : Around}
theorem comp_loop {α : Type} {e target iter elt : Expr} {ifs : List Expr} {em : Value → Value → Sem Unit} {cenv : Env} {C D I : Addr} {fp : List Addr} {St : Nat → Heap → Prop} {vs : List Value} {xs : List α} {V : α → Value → Prop} {b : α → Bool}
    {B : α → Value → (Str → Option Value) → Prop} {RR : α → Heap → Heap → Value → Prop} {Acc : List Value → Heap → Prop} {h₀ : Heap} {s : Shared} {m₀ : Str → Option Value} {R : Result → Shared → Prop}
    (hq : Code.quiet (.compLoop e 0 (.ref I) (.ref D) cenv) = true) (hunder : A.under (.compLoop e 0 (.ref I) (.ref D) cenv) = A)
    (hden : (model prog w).den (.compLoop e 0 (.ref I) (.ref D) cenv) = (turnOf e target iter elt ifs em (.ref I) (.ref D) cenv).onRaise (fun x => do noteFrame x cenv; theTreesLotGoes x))
    (W : Walks prog w A I fp [I] vs.length (fun i v => vs[i]? = some v) St) (hV : Paired V xs vs) (hRR : ∀ x, Res (RR x))
    (hC : cenv.locals = C) (hDC : D ≠ C) (hDI : D ≠ I) (hCI : C ≠ I) (hDf : D ∉ fp) (hCf : C ∉ fp) (hC0 : h₀.get? C = none) (hD0 : h₀.get? D = none) (hI0 : h₀.get? I = none) (hs : Sub h₀ s.heap)
    (hlive : ∀ i h, St i h → h.get? I ≠ none)
    (hgo : ∀ (i : Nat) (v : Value) (s : Shared) (Q : Unit → Shared → Prop) (E : Value → Shared → Prop), St i s.heap → Q () s → wpAny (model prog w) A (letOwnedTupleGo target (.ref I) v) Q E s)
    (hassign : ∀ (x : α) (v : Value) (s : Shared) (m : Str → Option Value) (Q : Unit → Shared → Prop) (E : Value → Shared → Prop), V x v → Sub h₀ s.heap → s.heap.Ns C m →
      (∀ h' tk m', SubX [C] s.heap h' → h'.Ns C m' → B x v m' → Q () { s with heap := h', toks := tk }) → wpAny (model prog w) A (assign target cenv v) Q E s)
    (htest : ∀ (x : α) (v : Value) (H : Heap) (m : Str → Option Value), V x v → Sub h₀ H → H.Ns C m → B x v m → PV prog w A H (testsOf ifs cenv) (· = b x))
    (helt : ∀ (x : α) (v : Value) (H : Heap) (m : Str → Option Value), V x v → b x = true → Sub h₀ H → H.Ns C m → B x v m → PE prog w A H (eval elt cenv) (fun y h' => RR x H h' y))
    (haccK : ∀ ys H H' ms, Acc ys H → SubX ms H H' → D ∉ ms → Acc ys H') (haccL : ∀ ys H, Acc ys H → H.get? D ≠ none)
    (hem : ∀ (ys : List Value) (x : α) (y : Value) (s : Shared) (Q : Unit → Shared → Prop) (E : Value → Shared → Prop) (H : Heap), Acc ys s.heap → RR x H s.heap y → ys.length ≤ vs.length →
      (∀ h' tk, Acc (ys ++ [y]) h' → SubX [D] s.heap h' → Q () { s with heap := h', toks := tk }) → wpAny (model prog w) A (em (.ref D) y) Q E s)
    (hst : St 0 s.heap) (hacc : Acc [] s.heap) (hn : s.heap.Ns C m₀)
    (hR : ∀ h' tk m' ys, h'.Ns C m' → Acc ys h' → Paired (fun x y => RR x s.heap h' y) (xs.filter b) ys → SubX [C, D, I] s.heap h' → R (.ok .next) { s with heap := h', toks := tk }) :
    codeAny (model prog w) A (.compLoop e 0 (.ref I) (.ref D) cenv) R s := by
  have hlen := hV.length
  have up : ∀ H, SubX [C, D, I] s.heap H → Sub h₀ H := fun H k c o e => k c o (fun hm => by
    simp only [List.mem_cons, List.mem_nil_iff, or_false] at hm
    rcases hm with z | z | z
    · rw [z, hC0] at e; cases e
    · rw [z, hD0] at e; cases e
    · rw [z, hI0] at e; cases e) (hs c o e)
  have up0 : ∀ (a b : Heap) (ms : List Addr), Sub h₀ a → SubX ms a b → (∀ m ∈ ms, m = C ∨ m = D ∨ m = I) → Sub h₀ b := fun a b' ms k x hm c o e => x c o (fun hmem => by
    rcases hm c hmem with z | z | z
    · rw [z, hC0] at e; cases e
    · rw [z, hD0] at e; cases e
    · rw [z, hI0] at e; cases e) (k c o e)
  have nsLive : ∀ (H : Heap) (m : Str → Option Value), H.Ns C m → H.get? C ≠ none := fun H m hn => ns_live hn
  refine codeAny_loop hq (fun k s' => ∃ H tk m ys i, s' = { s with heap := H, toks := tk } ∧ St i H ∧ Acc ys H ∧ H.Ns C m ∧ Paired (fun x y => RR x s.heap H y) ((xs.take i).filter b) ys ∧ SubX [C, D, I] s.heap H ∧ i ≤ vs.length ∧ k = vs.length + 1 - i) ?_ (vs.length + 1)
    ⟨s.heap, s.toks, m₀, [], 0, rfl, hst, hacc, hn, by rw [List.take_zero]; exact .nil, SubX.rfl, Nat.zero_le _, rfl⟩
  rintro k s' ⟨H, tk, m, ys, i, rfl, hst', hacc', hn', hF, hsub, hi, rfl⟩
  have hysl : ys.length ≤ vs.length := by
    have e1 := hF.length
    have e2 : ((xs.take i).filter b).length ≤ (xs.take i).length := List.length_filter_le _ _
    rw [List.length_take] at e2
    omega
  rw [hunder, hden]
  refine wpAny_noted ?_
  refine wpAny_bind (wpAny_standAt (wpAny_bind ?_))
  have hliv : Live s.heap H := fun c hc => by
    cases e : s.heap.get? c with
    | none => exact absurd e hc
    | some o =>
      by_cases hm : c ∈ [C, D, I]
      · simp only [List.mem_cons, List.mem_nil_iff, or_false] at hm
        rcases hm with z | z | z
        · rw [z]; exact nsLive _ _ hn'
        · rw [z]; exact haccL _ _ hacc'
        · rw [z]; exact hlive _ _ hst'
      · exact live_of (hsub c o hm e)
  by_cases hlt : i < vs.length
  · refine W.item i _ _ _ hlt hst' fun v h₁ tk₁ hPv hst₁ hk₁ => ?_
    obtain ⟨x, hxi, hVx⟩ := Paired.get hV hPv
    have X1 : SubX [I] H h₁ := fun c o hc e => hk₁ c o hc e
    have u1 : Sub h₀ h₁ := up0 _ _ _ (up _ hsub) X1 fun m hm => .inr (.inr (List.mem_singleton.mp hm))
    refine wpAny_bind (hgo _ v _ _ _ hst₁ ?_)
    have hn1 : h₁.Ns C m := hn'.at' fun o e => X1 _ o (fun hm => hCI (List.mem_singleton.mp hm)) e
    refine wpAny_bind (hassign x v _ m _ _ hVx u1 hn1 fun h₂ tk₂ m₂ X2 hn2 hB => ?_)
    have u2 : Sub h₀ h₂ := up0 _ _ _ u1 X2 fun m hm => .inl (List.mem_singleton.mp hm)
    refine wpAny_bind ((htest x v h₂ m₂ hVx u2 hn2 hB) _ _ _ Sub.rfl fun ok h₃ tk₃ k3 hok => ?_)
    subst hok
    have hst₂ : St (i + 1) h₂ := W.frame _ _ _ hst₁ fun c hc o e => X2 c o (fun hm => hCf (List.mem_singleton.mp hm ▸ hc)) e
    have hst₃ : St (i + 1) h₃ := W.frame _ _ _ hst₂ fun c _ o e => k3 c o e
    have hn3 : h₃.Ns C m₂ := hn2.keeps k3
    have acc3 : Acc ys h₃ := haccK _ _ _ [] (haccK _ _ _ [C] (haccK _ _ _ [I] hacc' X1 (fun hm => hDI (List.mem_singleton.mp hm))) X2 (fun hm => hDC (List.mem_singleton.mp hm))) k3.toX (by simp)
    have X3 : SubX [C, D, I] H h₃ := ((X1.mono (by intro c hc; rw [List.mem_singleton.mp hc]; simp)).trans (X2.mono (by intro c hc; rw [List.mem_singleton.mp hc]; simp))).trans k3.toX
    have l0 : ∀ m ∈ [C, D, I], s.heap.get? m ≠ none := fun m hm => by
      simp only [List.mem_cons, List.mem_nil_iff, or_false] at hm
      rcases hm with z | z | z
      · rw [z]; exact nsLive _ _ hn
      · rw [z]; exact haccL _ _ hacc
      · rw [z]; exact hlive _ _ hst
    have hF3 : Paired (fun x y => RR x s.heap h₃ y) ((xs.take i).filter b) ys := hF.mono fun x y r => (hRR x).keep l0 X3 r
    have liv3 : Live s.heap h₃ := fun c hc => by
      have h1 := hliv c hc
      cases e : H.get? c with
      | none => exact absurd e h1
      | some o =>
        by_cases hm : c ∈ [C, D, I]
        · simp only [List.mem_cons, List.mem_nil_iff, or_false] at hm
          rcases hm with z | z | z
          · rw [z]; exact nsLive _ _ hn3
          · rw [z]; exact haccL _ _ acc3
          · rw [z]; exact hlive _ _ hst₃
        · exact live_of (X3 c o hm e)
    cases hb : b x with
    | false =>
      simp only [Bool.false_eq_true, if_false]
      refine wpAny_pure ⟨rfl, vs.length + 1 - (i + 1), by omega, h₃, tk₃, m₂, ys, i + 1, rfl, hst₃, acc3, hn3, ?_, hsub.trans X3, hlt, rfl⟩
      rw [take_succ_filter b xs i x hxi, hb]
      simpa using hF3
    | true =>
      simp only [if_true]
      refine wpAny_bind (wpAny_bind ((helt x v h₃ m₂ hVx hb (u2.trans k3) hn3 hB) _ _ _ Sub.rfl fun y h₄ tk₄ k4 hy => ?_))
      refine hem ys x y _ _ _ h₃ (haccK _ _ _ [] acc3 k4.toX (by simp)) hy hysl fun h₅ tk₅ acc5 X5 => ?_
      have hst₅ : St (i + 1) h₅ := W.frame _ _ _ hst₃ fun c hc o e => X5 c o (fun hm => hDf (List.mem_singleton.mp hm ▸ hc)) (k4 c o e)
      have hn5 : h₅.Ns C m₂ := (hn3.keeps k4).at' fun o e => X5 _ o (fun hm => hDC (List.mem_singleton.mp hm).symm) e
      have X35 : SubX [C, D, I] h₃ h₅ := k4.toX.trans (X5.mono (by intro c hc; rw [List.mem_singleton.mp hc]; simp))
      refine wpAny_pure ⟨rfl, vs.length + 1 - (i + 1), by omega, h₅, tk₅, m₂, ys ++ [y], i + 1, rfl, hst₅, acc5, hn5, ?_, (hsub.trans X3).trans X35, hlt, rfl⟩
      rw [take_succ_filter b xs i x hxi, hb]
      simp only [if_true]
      have ry : RR x s.heap h₅ y := (hRR x).keep (fun m hm => l0 m (by rw [List.mem_singleton.mp hm]; simp)) X5 ((hRR x).base liv3 hy)
      exact Paired.snoc (hF3.mono fun x y r => (hRR x).keep l0 X35 r) ry
  · have hin : i = vs.length := by omega
    refine W.done _ _ _ (hin ▸ hst') fun h₁ tk₁ hk₁ => ?_
    have X1 : SubX [I] H h₁ := fun c o hc e => hk₁ c o hc e
    have l0 : ∀ m ∈ [I], s.heap.get? m ≠ none := fun m hm => by rw [List.mem_singleton.mp hm]; exact hlive _ _ hst
    refine wpAny_pure (hR h₁ tk₁ m ys (hn'.at' fun o e => X1 _ o (fun hm => hCI (List.mem_singleton.mp hm)) e) (haccK _ _ _ [I] hacc' X1 (fun hm => hDI (List.mem_singleton.mp hm))) ?_ (hsub.trans (X1.mono (by intro c hc; rw [List.mem_singleton.mp hc]; simp))))
    rw [hin, ← hlen, List.take_length] at hF
    exact hF.mono fun x y r => (hRR x).keep l0 X1 r
end
end Mine
end
section
open PySem PySem.W PyProof.Rows
set_option maxRecDepth 100000
namespace Mine
section
variable {prog : Program} {w : World} {A : Around}
theorem start_set {elt target iter ifs scope pos it acc env} {R : Result → Shared → Prop} {s : Shared}
    (h0 : codeAny (model prog w) A (.compLoop (.SetComp elt [⟨target, iter, ifs, 0⟩] scope pos) 0 it acc env) R s)
    (h : wpAny (model prog w) A (pyIter it) (fun it' s' => codeAny (model prog w) A (.compLoop (.SetComp elt [⟨target, iter, ifs, 0⟩] scope pos) 0 it' acc env) R s')
      (notedBy (model prog w) A env fun x s' => R (.error x) s') s) :
    codeAny (model prog w) A (.compStart (.SetComp elt [⟨target, iter, ifs, 0⟩] scope pos) 0 it acc env) R s := by
  refine codeAny_of_tree ?_
  show wpAny _ _ ((compStart (.SetComp elt [⟨target, iter, ifs, 0⟩] scope pos) 0 it acc env).onRaise (fun x => do noteFrame x env; standAt theWindowsPlace)) _ _ s
  refine wpAny_notedAt ?_
  unfold compStart
  show wpAny _ _ (ask >>= _) _ _ s
  refine wpAny_bind (wpAny_askSetting (wpAny_ite ?_))
  split
  · exact wpAny_pure (And.intro rfl h0)
  · refine wpAny_bind (wpAny_rule ?_)
    show wpAny _ _ (standAt iter.pos >>= _) _ _ s
    exact wpAny_bind (wpAny_standAt (wpAny_bind (wpAny_mono h (fun it' s' h' => wpAny_pure (And.intro rfl h')) fun _ _ x => x)))

theorem comp_run {α : Type} {e target iter elt : Expr} {ifs : List Expr} {em : Value → Value → Sem Unit} {env : Env} {scope : Scope} {cl : List (Str × Addr)} {pos : Pos} {newAcc : Sem Value} {g : Comprehension} {use : Option (Value → Sem Unit)} {vs : List Value} {xs : List α} {v₀ : Value} {V : α → Value → Prop} {b : α → Bool}
    {B : α → Value → (Str → Option Value) → Prop} {RR : α → Heap → Heap → Value → Prop} {Acc : Addr → List Value → Heap → Prop} {h : Heap} {s : Shared} {Q : Value → Shared → Prop} {E : Value → Shared → Prop}
    (hh : A.handled = none) (hcl : clausesOf e = [g]) (hsf : ∀ x, foldedSetIterable g.iter env x = pure x) (hclos : closureFor scope env = pure cl) (hcell : ∀ y ∈ scope.names, y.2 ≠ .cell)
    (hkind : scope.kind = .function) (hnames : ∀ x ∈ scope.names, x.2 = .local → scope.names.lookup x.1 = some .local)
    (hq : ∀ I D C, Code.quiet (.compLoop e 0 I D (compEnvC scope cl C env)) = true) (hunder : ∀ I D C, A.under (.compLoop e 0 I D (compEnvC scope cl C env)) = A)
    (hden : ∀ I D C, (model prog w).den (.compLoop e 0 I D (compEnvC scope cl C env)) = (turnOf e target iter elt ifs em I D (compEnvC scope cl C env)).onRaise (fun x => do noteFrame x (compEnvC scope cl C env); theTreesLotGoes x))
    (hstart : ∀ {it acc C} {R : Result → Shared → Prop} {s : Shared}, codeAny (model prog w) A (.compLoop e 0 it acc (compEnvC scope cl C env)) R s →
      wpAny (model prog w) A (pyIter it) (fun it' s' => codeAny (model prog w) A (.compLoop e 0 it' acc (compEnvC scope cl C env)) R s') (notedBy (model prog w) A (compEnvC scope cl C env) fun x s' => R (.error x) s') s →
      codeAny (model prog w) A (.compStart e 0 it acc (compEnvC scope cl C env)) R s)
    (hit : PV prog w A h (eval iter env) (· = v₀)) (hv : ItOf h v₀ vs) (hV : Paired V xs vs) (hRR : ∀ x, Res (RR x)) (hs : Sub h s.heap)
    (hnew : ∀ (s : Shared) (Q : Value → Shared → Prop), (∀ o : Obj, (o.data = .freed → False) → Acc s.heap.objs.size [] (s.heap.push o) → Q (.ref s.heap.objs.size) { s with heap := s.heap.push o }) → wpAny (model prog w) A newAcc Q E s)
    (hgo : ∀ (I : Addr) (v : Value) (s : Shared) (Q : Unit → Shared → Prop) (E : Value → Shared → Prop), (∃ o, s.heap.get? I = some o ∧ (o.cls = .type "list_iterator" ∨ o.cls = .type "tuple_iterator") ∧ ∃ fs, o.data = .fields fs) → Q () s → wpAny (model prog w) A (letOwnedTupleGo target (.ref I) v) Q E s)
    (hassign : ∀ (C : Addr) (x : α) (v : Value) (s : Shared) (m : Str → Option Value) (Q : Unit → Shared → Prop) (E : Value → Shared → Prop), V x v → Sub h s.heap → s.heap.Ns C m →
      (∀ h' tk m', SubX [C] s.heap h' → h'.Ns C m' → B x v m' → Q () { s with heap := h', toks := tk }) → wpAny (model prog w) A (assign target (compEnvC scope cl C env) v) Q E s)
    (htest : ∀ (C : Addr) (x : α) (v : Value) (H : Heap) (m : Str → Option Value), V x v → Sub h H → H.Ns C m → B x v m → PV prog w A H (testsOf ifs (compEnvC scope cl C env)) (· = b x))
    (helt : ∀ (C : Addr) (x : α) (v : Value) (H : Heap) (m : Str → Option Value), V x v → b x = true → Sub h H → H.Ns C m → B x v m → PE prog w A H (eval elt (compEnvC scope cl C env)) (fun y h' => RR x H h' y))
    (haccK : ∀ D ys H H' ms, Acc D ys H → SubX ms H H' → D ∉ ms → Acc D ys H') (haccL : ∀ D ys H, Acc D ys H → H.get? D ≠ none)
    (hem : ∀ (D : Addr) (ys : List Value) (x : α) (y : Value) (s : Shared) (Q : Unit → Shared → Prop) (E : Value → Shared → Prop) (H : Heap), Acc D ys s.heap → RR x H s.heap y → ys.length ≤ vs.length →
      (∀ h' tk, Acc D (ys ++ [y]) h' → SubX [D] s.heap h' → Q () { s with heap := h', toks := tk }) → wpAny (model prog w) A (em (.ref D) y) Q E s)
    (hpost : ∀ D C hL h' tk m ys, s.heap.get? D = none → s.heap.get? C = none → D ≠ C → Sub s.heap hL → hL.get? C ≠ none → h'.Ns C m → Acc D ys h' → Paired (fun x y => RR x hL h' y) (xs.filter b) ys → Sub s.heap h' →
      compPost (model prog w) A E use Q (.ref D) C (.ok .next) { s with heap := h', toks := tk }) :
    wpAny (model prog w) A (comprehension e scope env pos newAcc false (eval iter env) use) Q E s := by
  refine wpAny_comprehension_free (use := use) hcl hsf hclos hkind hnames (hit s _ E hs fun v h1 t1 k1 hv1 => ?_)
  subst hv1
  refine iter_of hh ((hv.up hs).up k1) fun fp St o W hlv hst hfp => ?_
  refine hnew _ _ fun oD hoD hacc => ?_
  refine wpAny_newFunctionEnv hcell (by intro y hy; simp at hy) (fun h₁ hns₁ hsb₁ => ?_) hkind
  dsimp only at hns₁ hsb₁ hacc hst hfp ⊢
  have eD : (h1.push o).objs.size = h1.objs.size + 1 := Heap.size_push ..
  have eC : ((h1.push o).push oD).objs.size = h1.objs.size + 2 := by rw [Heap.size_push, eD]
  rw [eD] at hacc
  have k2 : Sub h1 ((h1.push o).push oD) := (Sub.push _ _).trans (Sub.push _ _)
  have k3 : Sub ((h1.push o).push oD) h₁ := fun c ob e => hsb₁.extBut c ob (Nat.ne_of_lt (Heap.lt_size e)) (Heap.get?_push_of_some _ e)
  have kI : Sub (h1.push o) h₁ := (Sub.push _ _).trans k3
  have n1 : ∀ c, h1.objs.size ≤ c → s.heap.get? c = none := fun c hc => k1.none (Heap.get?_none_of_le hc)
  have hns' : h₁.Ns (h1.objs.size + 2) (fun x => ([] : List (Str × Value)).reverse.lookup x) := eC ▸ hns₁
  have loop : ∀ s₃ : Shared, s₃ = { s with heap := h₁, toks := t1 + ([] : List (Str × Value)).length } →
      codeAny (model prog w) A (.compLoop e 0 (.ref h1.objs.size) (.ref (h1.objs.size + 1)) (compEnvC scope cl (h1.objs.size + 2) env)) (compPost (model prog w) A E use Q (.ref (h1.objs.size + 1)) (h1.objs.size + 2)) s₃ := by
    rintro s₃ rfl
    have hfp' : ∀ c ∈ fp, c < h1.objs.size + 1 := fun c hc => eD ▸ hfp c hc
    refine comp_loop (Acc := Acc (h1.objs.size + 1)) (D := h1.objs.size + 1) (C := h1.objs.size + 2) (h₀ := s.heap) (V := V) (b := b) (B := B) (RR := RR) (hq _ _ _) (hunder _ _ _) (hden _ _ _) W hV hRR rfl (Nat.ne_of_lt (Nat.lt_succ_self _)) (Nat.succ_ne_self _) (Nat.ne_of_gt (Nat.lt_succ_of_lt (Nat.lt_succ_self _)))
      (fun hm => Nat.lt_irrefl _ (hfp' _ hm)) (fun hm => Nat.lt_irrefl _ (Nat.lt_of_succ_lt (hfp' _ hm))) (n1 _ (Nat.le_add_right _ _)) (n1 _ (Nat.le_add_right _ _)) (n1 _ (Nat.le_refl _)) ((k1.trans k2).trans k3)
      (fun i H st => let ⟨o, ho, _⟩ := hlv i H st; live_of ho) (fun i v s' Q' E' st hq' => hgo _ v s' Q' E' (hlv i _ st) hq')
      (fun x v s' m Q' E' hVx u hn k => hassign _ x v s' m Q' E' hVx (hs.trans u) hn k) (fun x v H m hVx u hn hB => htest _ x v H m hVx (hs.trans u) hn hB) (fun x v H m hVx hb u hn hB => helt _ x v H m hVx hb (hs.trans u) hn hB)
      (haccK _) (haccL _) (hem _) (W.frame _ _ _ hst fun c _ o' e => kI c o' e) (haccK _ _ _ _ [] hacc k3.toX (by simp)) hns' fun h' tk m' ys hn' hacc' hF hX => ?_
    refine hpost _ _ h₁ h' tk m' ys (n1 _ (Nat.le_add_right _ _)) (n1 _ (Nat.le_add_right _ _)) (Nat.ne_of_lt (Nat.lt_succ_self _)) ((k1.trans k2).trans k3) (ns_live hns') hn' hacc' hF fun c ob ec => hX c ob (fun hm => ?_) (((k1.trans k2).trans k3) c ob ec)
    simp only [List.mem_cons, List.mem_nil_iff, or_false] at hm
    rcases hm with zz | zz | zz
    · rw [zz, n1 _ (Nat.le_add_right _ _)] at ec; cases ec
    · rw [zz, n1 _ (Nat.le_add_right _ _)] at ec; cases ec
    · rw [zz, n1 _ (Nat.le_refl _)] at ec; cases ec
  have hst₁ : St 0 h₁ := W.frame _ _ _ hst fun c _ o' e => kI c o' e
  rw [eD, eC]
  exact hstart (loop _ rfl) (W.self 0 _ _ _ hst₁ (loop _ rfl))
end
end Mine
end
section
open PySem PySem.W PyProof.Rows
set_option maxRecDepth 100000
namespace Mine
section
variable {prog : Program} {w : World} {A : Around}
theorem em_list {D : Addr} {ys : List Value} {y : Value} {s : Shared} {Q : Unit → Shared → Prop} {E : Value → Shared → Prop} (hD : s.heap.PlainList D ys.toArray) (hl : ys.length ≤ sizeLine)
    (k : ∀ h' tk, h'.PlainList D (ys ++ [y]).toArray → SubX [D] s.heap h' → Q () { s with heap := h', toks := tk }) :
    wpAny (model prog w) A (do let _ ← call (.builtin "list.append") [.ref D, y]) Q E s := by
  refine wpAny_bind (wpAny_list_append_plain (hsz := by simpa using hl) hD fun h' hp hs => wpAny_pure (k h' s.toks ?_ (SubX.ofSame hs)))
  simpa using hp
theorem tests_nil {h : Heap} {env : Env} : PV prog w A h (testsOf [] env) (· = true) := fun s _ _ _ q => wpAny_tests_nil (q _ s.heap s.toks Sub.rfl rfl)
theorem tests_one {h : Heap} {env : Env} {c : Expr} {b : Bool} (t : PV prog w A h (isTrue c env (eval c env)) (· = b)) : PV prog w A h (testsOf [c] env) (· = b) := fun s _ E hs q => wpAny_tests_one (t s _ E hs q)

theorem LRes {D : Addr} {ys : List Value} {H H' : Heap} {ms : List Addr} (x : H.PlainList D ys.toArray) (k : SubX ms H H') (n : D ∉ ms) : H'.PlainList D ys.toArray := x.at fun o e => k D o n e
theorem LLive {D : Addr} {ys : List Value} {H : Heap} (x : H.PlainList D ys.toArray) : H.get? D ≠ none := let ⟨_, e⟩ := x; live_of e

theorem list_run {α : Type} {target iter elt : Expr} {ifs : List Expr} {env : Env} {scope : Scope} {cl : List (Str × Addr)} {pos : Pos} {ipos : Pos} {use : Option (Value → Sem Unit)} {vs : List Value} {xs : List α} {v₀ : Value} {V : α → Value → Prop} {b : α → Bool}
    {B : α → Value → (Str → Option Value) → Prop} {RR : α → Heap → Heap → Value → Prop} {h : Heap} {s : Shared} {Q : Value → Shared → Prop} {E : Value → Shared → Prop}
    (hh : A.handled = none) (hsf : ∀ x, foldedSetIterable iter env x = pure x) (hclos : closureFor scope env = pure cl) (hcell : ∀ y ∈ scope.names, y.2 ≠ .cell)
    (hkind : scope.kind = .function) (hnames : ∀ x ∈ scope.names, x.2 = .local → scope.names.lookup x.1 = some .local)
    (hit : PV prog w A h (eval iter env) (· = v₀)) (hv : ItOf h v₀ vs) (hlen : vs.length ≤ 100000) (hV : Paired V xs vs) (hRR : ∀ x, Res (RR x)) (hs : Sub h s.heap)
    (hgo : ∀ (I : Addr) (v : Value) (s : Shared) (Q : Unit → Shared → Prop) (E : Value → Shared → Prop), (∃ o, s.heap.get? I = some o ∧ (o.cls = .type "list_iterator" ∨ o.cls = .type "tuple_iterator") ∧ ∃ fs, o.data = .fields fs) → Q () s → wpAny (model prog w) A (letOwnedTupleGo target (.ref I) v) Q E s)
    (hassign : ∀ (C : Addr) (x : α) (v : Value) (s : Shared) (m : Str → Option Value) (Q : Unit → Shared → Prop) (E : Value → Shared → Prop), V x v → Sub h s.heap → s.heap.Ns C m →
      (∀ h' tk m', SubX [C] s.heap h' → h'.Ns C m' → B x v m' → Q () { s with heap := h', toks := tk }) → wpAny (model prog w) A (assign target (compEnvC scope cl C env) v) Q E s)
    (htest : ∀ (C : Addr) (x : α) (v : Value) (H : Heap) (m : Str → Option Value), V x v → Sub h H → H.Ns C m → B x v m → PV prog w A H (testsOf ifs (compEnvC scope cl C env)) (· = b x))
    (helt : ∀ (C : Addr) (x : α) (v : Value) (H : Heap) (m : Str → Option Value), V x v → b x = true → Sub h H → H.Ns C m → B x v m → PE prog w A H (eval elt (compEnvC scope cl C env)) (fun y h' => RR x H h' y))
    (hpost : ∀ D C hL h' tk m ys, s.heap.get? D = none → s.heap.get? C = none → D ≠ C → Sub s.heap hL → hL.get? C ≠ none → h'.Ns C m → h'.PlainList D ys.toArray → Paired (fun x y => RR x hL h' y) (xs.filter b) ys → Sub s.heap h' →
      compPost (model prog w) A E use Q (.ref D) C (.ok .next) { s with heap := h', toks := tk }) :
    wpAny (model prog w) A (comprehension (.ListComp elt [⟨target, iter, ifs, 0⟩] scope pos) scope env ipos (newList []) false (eval iter env) use) Q E s :=
  comp_run (g := ⟨target, iter, ifs, 0⟩) (Acc := fun D ys H => H.PlainList D ys.toArray) (em := fun acc y => do let _ ← call (.builtin "list.append") [acc, y]) hh rfl hsf hclos hcell hkind hnames (fun _ _ _ => rfl) (fun _ _ _ => rfl) (fun _ _ _ => rfl)
    (fun h0 h1 => codeAny_compStart_list h0 h1) hit hv hV hRR hs
    (fun s' Q' k => wpAny_newObj_type (k _ (fun e => nomatch e) ⟨_, Heap.get?_push_size _ rfl⟩)) hgo hassign htest helt
    (fun D ys H H' ms x k n => LRes x k n) (fun D ys H x => LLive x) (fun D ys x y s' Q' E' H ha _ hl k => em_list ha (by rw [szL]; omega) k) hpost

/-- a list made by a comprehension, one name as its target -/
theorem pe_listcomp {α : Type} {x : Str} {px : Pos} {iter elt : Expr} {ifs : List Expr} {env : Env} {scope : Scope} {cl : List (Str × Addr)} {pos : Pos} {vs : List Value} {xs : List α} {v₀ : Value} {V : α → Value → Prop} {b : α → Bool}
    {RR : α → Heap → Heap → Value → Prop} {h : Heap}
    (hh : A.handled = none) (hclos : closureFor scope env = pure cl) 
    (hit : PV prog w A h (eval iter env) (· = v₀)) (hv : ItOf h v₀ vs) (hlen : vs.length ≤ 100000) (hV : Paired V xs vs) (hRR : ∀ x, Res (RR x))
    (htest : ∀ (C : Addr) (a : α) (v : Value) (H : Heap) (m : Str → Option Value), V a v → Sub h H → H.Ns C m → m x = some v → PV prog w A H (testsOf ifs (compEnvC scope cl C env)) (· = b a))
    (helt : ∀ (C : Addr) (a : α) (v : Value) (H : Heap) (m : Str → Option Value), V a v → b a = true → Sub h H → H.Ns C m → m x = some v → PE prog w A H (eval elt (compEnvC scope cl C env)) (fun y h' => RR a H h' y))
    (hcell : ∀ y ∈ scope.names, y.2 ≠ .cell := by decide) (hnames : ∀ x ∈ scope.names, x.2 = .local → scope.names.lookup x.1 = some .local := by decide)
    (hkind : scope.kind = .function := by rfl) (hx : scope.names.lookup x = some .local := by rfl) (hsf : ∀ x, foldedSetIterable iter env x = pure x := by intro _; rfl) :
    PE prog w A h (eval (.ListComp elt [⟨.Name x px, iter, ifs, 0⟩] scope pos) env) (fun v h' => ∃ D ys, v = .ref D ∧ h.get? D = none ∧ h'.PlainList D ys.toArray ∧ Paired (fun a y => RR a h h' y) (xs.filter b) ys) := by
  intro s Q E hs q
  rw [eval_ListComp]
  refine list_run (B := fun _ v m => m x = some v) (V := V) (b := b) (RR := RR) hh hsf hclos hcell hkind hnames hit hv hlen hV hRR hs (fun I v s' Q' E' _ k => wpAny_pure k) (fun C a v s' m Q' E' _ _ hn k => ?_) htest helt fun D C hL h' tk m ys hD hC hDC hsL hCL hn hp hF hsub => ?_
  · exact wpAny_assign_Name (wpAny_storeName_local (lookup_relabel_local hx) hn (fun h' hn' hs' => k h' _ _ (SubX.ofSame hs') hn' (if_pos rfl)) (by simp [compEnvC, relabel, hkind]))
  · refine ⟨m, hn, fun h'' hs'' => q _ h'' tk (fun c o e => hs''.extBut c o (fun z => by rw [z, hC] at e; cases e) (hsub c o e)) ⟨D, ys, rfl, hs.none hD, hp.extBut hs''.extBut hDC, ?_⟩⟩
    exact hF.mono fun a y r => (hRR a).base (Live.ofSub (hs.trans hsL)) ((hRR a).keep (ms := [C]) (fun m hm => by rw [List.mem_singleton.mp hm]; exact hCL) (SubX.ofSame hs'') r)

/-- the same, given a name at once -/
theorem st_listcomp {α : Type} {x y : Str} {px py : Pos} {iter elt : Expr} {ifs : List Expr} {env : Env} {scope : Scope} {cl : List (Str × Addr)} {pos spos : Pos} {vs : List Value} {xs : List α} {v₀ : Value} {V : α → Value → Prop} {b : α → Bool}
    {RR : α → Heap → Heap → Value → Prop} {h₀ : Heap} {s : Shared} {m : Str → Option Value} {Q : Flow → Shared → Prop} {E : Value → Shared → Prop} {rest : List Stmt}
    (F : Fr h₀ env.locals s.heap m) (hh : A.handled = none) (hclos : closureFor scope env = pure cl) 
    (hit : PV prog w A s.heap (eval iter env) (· = v₀)) (hv : ItOf s.heap v₀ vs) (hlen : vs.length ≤ 100000) (hV : Paired V xs vs) (hRR : ∀ x, Res (RR x))
    (htest : ∀ (C : Addr) (a : α) (v : Value) (H : Heap) (m : Str → Option Value), V a v → Sub s.heap H → H.Ns C m → m x = some v → PV prog w A H (testsOf ifs (compEnvC scope cl C env)) (· = b a))
    (helt : ∀ (C : Addr) (a : α) (v : Value) (H : Heap) (m : Str → Option Value), V a v → b a = true → Sub s.heap H → H.Ns C m → m x = some v → PE prog w A H (eval elt (compEnvC scope cl C env)) (fun y h' => RR a H h' y))
    (k : ∀ D ys h' tk, SubX [env.locals] s.heap h' → Fr h₀ env.locals h' (upd m y (.ref D)) → s.heap.get? D = none → h'.PlainList D ys.toArray → Paired (fun a z => RR a s.heap h' z) (xs.filter b) ys →
      wpAny (model prog w) A (execs rest env) Q E { s with heap := h', toks := tk })
    (hcell : ∀ y ∈ scope.names, y.2 ≠ .cell := by decide) (hnames : ∀ x ∈ scope.names, x.2 = .local → scope.names.lookup x.1 = some .local := by decide)
    (hkind : scope.kind = .function := by rfl) (hx : scope.names.lookup x = some .local := by rfl) (hsf : ∀ x, foldedSetIterable iter env x = pure x := by intro _; rfl)
    (hk : env.scope.kind = .function := by rfl) (hy : env.kindOf y = some .local := by rfl)
    (hsw : swapsWith (.ListComp elt [⟨.Name x px, iter, ifs, 0⟩] scope pos) (some (.Name y py)) spos.line env = pure true := by rfl) :
    wpAny (model prog w) A (execs (.Assign [.Name y py] (.ListComp elt [⟨.Name x px, iter, ifs, 0⟩] scope pos) spos :: rest) env) Q E s := by
  refine wpAny_execs_cons ?_
  rw [exec_Assign_Name_used _ _ _ _ hsw]
  refine wpAny_bind (wpAny_standAt (wpAny_bind ?_))
  show wpAny _ A (do let _ ← comprehension (.ListComp elt [⟨.Name x px, iter, ifs, 0⟩] scope pos) scope env _ (newList []) false (eval iter env) (some (assign (.Name y py) env))) _ _ s
  refine wpAny_bind (list_run (B := fun _ v m => m x = some v) (V := V) (b := b) (RR := RR) hh hsf hclos hcell hkind hnames hit hv hlen hV hRR Sub.rfl (fun I v s' Q' E' _ k => wpAny_pure k) (fun C a v s' m Q' E' _ _ hn k => ?_) htest helt fun D C hL h' tk mC ys hD hC hDC hsL hCL hn hp hF hsub => ?_)
  · exact wpAny_assign_Name (wpAny_storeName_local (lookup_relabel_local hx) hn (fun h' hn' hs' => k h' _ _ (SubX.ofSame hs') hn' (if_pos rfl)) (by simp [compEnvC, relabel, hkind]))
  · have lvL : s.heap.get? env.locals ≠ none := ns_live F.ns
    have hLC : env.locals ≠ C := fun z => lvL (z ▸ hC)
    have hLD : env.locals ≠ D := fun z => lvL (z ▸ hD)
    show wpAny _ A (assign (.Name y py) env (.ref D)) _ _ _
    refine wpAny_assign_Name (wpAny_storeName_local hy (F.ns.keeps hsub) (fun h₂ hn₂ hs₂ => ?_) (by rw [hk]; rfl))
    refine ⟨mC, hn.sameBut hs₂ (Ne.symm hLC), fun h₃ hs₃ => wpAny_pure (wpAny_pure ?_)⟩
    have X : SubX [env.locals] s.heap h₃ := fun c o hc e => hs₃.extBut c o (fun z => by rw [z, hC] at e; cases e) (hs₂.extBut c o (fun z => hc (by rw [z]; exact List.mem_singleton.mpr rfl)) (hsub c o e))
    refine k D ys h₃ _ X ⟨hn₂.sameBut hs₃ hLC, fun c o e => X c o (fun hm => ?_) (F.keep c o e), F.above⟩ hD ((hp.extBut hs₂.extBut (Ne.symm hLD)).extBut hs₃.extBut hDC) ?_
    · rw [List.mem_singleton.mp hm] at e
      exact absurd (Heap.lt_size e) (Nat.not_lt.mpr F.above)
    · exact hF.mono fun a z r => (hRR a).base (Live.ofSub hsL) ((hRR a).keep (ms := [C]) (fun m hm => by rw [List.mem_singleton.mp hm]; exact hCL) (SubX.ofSame hs₃)
        ((hRR a).keep (ms := [env.locals]) (fun m hm => by rw [List.mem_singleton.mp hm]; exact Live.ofSub hsL _ lvL) (SubX.ofSame hs₂) r))
end
end Mine
end
section
open PySem PySem.W PyProof.Rows
set_option maxRecDepth 100000
namespace Mine
noncomputable def hb (b : Bool) : Int := if b then 1 else 0
noncomputable def tb (b led : Bool) : SetTable := { mask := 7, place := #[if b then 1 else 0], dummies := #[], finger := 0, led := led, moves := 0, plain := true }
noncomputable def setE (led : Bool) : Obj := { cls := .type "set", dict := none, data := .set #[] 0 (.fresh 0 0 led) }
noncomputable def setO (led b : Bool) : Obj := { cls := .type "set", dict := none, data := .set #[(hb b, .bool b)] 1 (tb b led) }
section
variable {prog : Program} {w : World} {A : Around} {E : Value → Shared → Prop} {s : Shared}
theorem pyHash_bool {b : Bool} {Q : Int → Shared → Prop} (h : Q (hb b) { s with toks := s.toks + 1 }) : wpAny (model prog w) A (pyHash (.bool b)) Q E s := by
  have hT : s.TypeIs (.bool b) "bool" := rfl
  unfold pyHash
  have hv : [Value.bool b].any Value.onHeap = false := rfl
  refine wpAny_bind ?_
  rw [cRoomFor, if_neg (by rw [hv]; exact Bool.false_ne_true)]; refine wpAny_pure ?_
  refine wpAny_bind (wpAny_specialOf hT F.slot_bool_hash.lookup ?_)
  show wpAny _ _ (if (some (Value.builtin "int.__hash__") == some Value.none) = true then _ else _) Q E s
  rw [if_neg (by rw [beq_builtin_none]; exact Bool.false_ne_true)]
  refine wpAny_bind (wpAny_specialOf hT F.slot_bool_hash.lookup ?_)
  show wpAny _ _ (callSpecialIfBoundUnlessNone? (.bool b) "__hash__" _ >>= _) Q E s
  cases b with
  | false =>
    refine wpAny_bind (wpAny_callSpecialIfBoundUnlessNone?_slot hT F.slot_bool_hash
      (wpAny_call_entry F.slot_bool_hash hT entry_int_hash ?_ (args_int_hash _)))
    unfold Builtin.«int.__hash__»
    show wpAny _ _ (do ret (← mkInt 0)) _ _ s
    exact wpAny_ret_mkInt (wpAny_pure h)
  | true =>
    refine wpAny_bind (wpAny_callSpecialIfBoundUnlessNone?_slot hT F.slot_bool_hash
      (wpAny_call_entry F.slot_bool_hash hT entry_int_hash ?_ (args_int_hash _)))
    unfold Builtin.«int.__hash__»
    show wpAny _ _ (do ret (← mkInt 1)) _ _ s
    exact wpAny_ret_mkInt (wpAny_pure h)
theorem layNew_b (b led : Bool) : layNew (.fresh 0 0 led) #[] (hb b) (.bool b) = (#[(hb b, .bool b)], tb b led, false, false) := by
  cases b <;> cases led <;> decide +kernel
theorem add_e {a : Addr} {b led : Bool} {Q : Bool → Shared → Prop} (ha : s.heap.get? a = some (setE led)) (q : ∀ h', h'.get? a = some (setO led b) → Heap.SameBut a s.heap h' → Q true { s with heap := h' }) :
    wpAny (model prog w) A (setAddHashed a (.bool b) (hb b)) Q E s := by
  unfold setAddHashed setAddHashedIn
  refine wpAny_holding (wpAny_bind (wpAny_setState_of (o := setE led) ha rfl (by cases led <;> decide) ?_))
  have hbs : byScan (.bool b) #[] = true := by cases b <;> decide +kernel
  dsimp only
  rw [hbs]
  simp only [if_true]
  unfold setAddByScan
  refine wpAny_bind (wpAny_bind (wpAny_rule ?_))
  refine wpAny_bind (m := setScan a (.bool b) (hb b) true #[]) (wpAny_pure ?_)
  dsimp only
  rw [layNew_b]
  refine wpAny_bind (wpAny_pure ?_)
  refine wpAny_bind (wpAny_pure ?_)
  dsimp only
  have e1 : (tb b led).plain = true := rfl
  refine wpAny_bind (wpAny_storeSet_of ha rfl ?_)
  refine wpAny_pure (wpAny_pure (q _ ?_ (Heap.SameBut.update ..)))
  exact (Heap.get?_update_self _ ha rfl)
theorem add_o {a : Addr} {b led : Bool} {Q : Bool → Shared → Prop} (ha : s.heap.get? a = some (setO led b)) (q : Q false s) :
    wpAny (model prog w) A (setAddHashed a (.bool b) (hb b)) Q E s := by
  have hf : (tb b led).fits 1 = true := by cases b <;> cases led <;> decide
  unfold setAddHashed setAddHashedIn
  refine wpAny_holding (wpAny_bind (wpAny_setState_of (o := setO led b) ha rfl hf ?_))
  have hbs : byScan (.bool b) #[(hb b, .bool b)] = true := by cases b <;> decide +kernel
  dsimp only
  rw [hbs]
  simp only [if_true]
  unfold setAddByScan
  refine wpAny_bind (wpAny_bind (wpAny_rule ?_))
  refine wpAny_bind (m := setScan a (.bool b) (hb b) true #[(hb b, .bool b)]) ?_
  show wpAny _ A (setScanFrom a (.bool b) (hb b) true [(hb b, .bool b)] 0) _ _ s
  unfold setScanFrom
  rw [if_pos (by simp)]
  refine wpAny_bind (wpAny_setEpoch_of (o := setO led b) ha rfl hf ?_)
  refine wpAny_bind ?_
  · unfold eqBool
    show wpAny _ _ (if (Value.bool b == Value.bool b) = true then _ else _) _ E s
    rw [if_pos (by simp)]
    refine wpAny_bind (wpAny_rule (wpAny_pure ?_))
    exact wpAny_pure (wpAny_pure (wpAny_pure q))
end
end Mine
end
section
open PySem PySem.W PyProof.Rows
set_option maxRecDepth 100000
namespace Mine
noncomputable def Led (w : World) (led : Bool) : Prop := led = true ∨ w.params.followText "set-order" = true
/-- the set of one truth value, or the empty one -/
noncomputable def SetAcc (w : World) (b : Bool) (D : Addr) (ys : List Value) (h : Heap) : Prop := ∃ led, Led w led ∧ h.get? D = some (if ys.isEmpty then setE led else setO led b)
theorem slot_setiter_next : Slot "set_iterator" "__next__" "set_iterator.__next__" :=
  .of (owner := "set_iterator") (n := "__next__") (by rw [typeLookup_type, builtinLookup_eq_fast]; kernel_rfl) (by decide +kernel) (by decide +kernel) (by decide +kernel)
    (by first | exact .inl (by decide +kernel) | exact .inr (by decide +kernel)) (by rw [isSubtype_type]; kernel_rfl)
theorem entry_setiter_next : entryFor table "set_iterator.__next__" = some Builtin.«set_iterator.__next__» := entryFor_of_fast (by kernel_rfl)
theorem args_setiter_next (a : Value) : argsOk "set_iterator.__next__" ⟨[a], []⟩ := by unfold argsOk; kernel_rfl
theorem entry_set_iter : entryFor table "set.__iter__" = some Builtin.«frozenset.__iter__» :=
  entryFor_alias (id' := "frozenset.__iter__") (by kernel_rfl) rfl (by decide +kernel) (by kernel_rfl)
theorem args_set_iter (a : Value) : argsOk "set.__iter__" ⟨[a], []⟩ := by unfold argsOk; kernel_rfl
theorem fits1 (b led : Bool) : (tb b led).fits 1 = true := by cases b <;> cases led <;> decide
section
variable {prog : Program} {w : World} {A : Around} {E : Value → Shared → Prop} {s : Shared}
theorem em_set {D : Addr} {b : Bool} {ys : List Value} {p : Pos} {Q : Unit → Shared → Prop} (hD : SetAcc w b D ys s.heap)
    (k : ∀ h' tk, SetAcc w b D (ys ++ [.bool b]) h' → SubX [D] s.heap h' → Q () { s with heap := h', toks := tk }) :
    wpAny (model prog w) A (do standAt p; let _ ← call (.builtin "set.add") [.ref D, .bool b]) Q E s := by
  obtain ⟨led, hl, ho⟩ := hD
  have e2 : (ys ++ [Value.bool b]).isEmpty = false := by cases ys <;> rfl
  have hT : s.TypeIs (.ref D) "set" := ⟨_, ho, by split <;> rfl⟩
  refine wpAny_bind (wpAny_standAt (wpAny_bind ?_))
  refine wpAny_call_entry F.slot_set_add hT F.entry_set_add ?_ (F.args_set_add_2 _ _)
  unfold Builtin.«set.add» Builtin.Frozenset.oneOther
  simp only [List.isEmpty_nil, bind_assoc]
  unfold Builtin.Frozenset.addrOf setAdd
  refine wpAny_bind (wpAny_pure ?_)
  try dsimp only
  refine wpAny_bind (wpAny_pure ?_)
  try dsimp only
  refine wpAny_bind ?_
  refine wpAny_holding ?_
  refine wpAny_bind (pyHash_bool ?_)
  cases hy : ys.isEmpty with
  | true =>
    rw [hy] at ho
    refine add_e (led := led) (by exact ho) fun h' ho' hs' => ?_
    show wpAny _ _ (ret Value.none) _ _ _
    refine wpAny_pure ⟨_, rfl, wpAny_pure ?_⟩
    exact k h' _ ⟨led, hl, by rw [e2]; exact ho'⟩ (SubX.ofSame hs')
  | false =>
    rw [hy] at ho
    refine add_o (led := led) (by exact ho) ?_
    show wpAny _ _ (ret Value.none) _ _ _
    refine wpAny_pure ⟨_, rfl, wpAny_pure ?_⟩
    exact k s.heap _ ⟨led, hl, by rw [e2]; exact ho⟩ SubX.rfl

theorem pick1 {α : Type} (f : Nat → Nat) (x : α) : pickOrder f #[x] = #[x] := by
  unfold pickOrder
  show pickOrder.go f 1 0 [x] #[] = _
  unfold pickOrder.go
  simp [Nat.mod_one, pickOrder.go]
theorem setWalk_1 {D : Addr} {b led : Bool} {Q : Array (Int × Value) → Shared → Prop} (ho : s.heap.get? D = some (setO led b)) (hbt : w.params.followText "set-order" = true) (q : Q #[(hb b, .bool b)] s) :
    wpAny (model prog w) A (setWalk D) Q E s := by
  unfold setWalk setsByText
  refine wpAny_bind (wpAny_setState_of (o := setO led b) ho rfl (fits1 b led) ?_)
  refine wpAny_bind (wpAny_bind (wpAny_askSetting (wpAny_pure ?_)))
  rw [if_pos (by exact hbt)]
  refine wpAny_bind (wpAny_askSetting (wpAny_pure ?_))
  dsimp only
  rw [pick1]; exact q
theorem setNext_0 {D : Addr} {b led : Bool} {Q : Option (Value × Nat) → Shared → Prop} (hl : Led w led) (ho : s.heap.get? D = some (setO led b))
    (q : ∀ k, (w.params.followText "set-order" = true ∨ k = (if b then 2 else 1)) → Q (some (.bool b, k)) s) : wpAny (model prog w) A (setNext D 0 0 1) Q E s := by
  unfold setNext setsByText
  refine wpAny_bind (wpAny_setState_of (o := setO led b) ho rfl (fits1 b led) ?_)
  refine wpAny_bind (wpAny_bind (wpAny_askSetting (wpAny_pure ?_)))
  show wpAny _ A (if w.params.followText "set-order" = true then _ else _) _ _ _
  cases hbt : w.params.followText "set-order" with
  | true =>
    simp only [if_true]
    exact wpAny_bind (setWalk_1 ho hbt (wpAny_pure (q 0 (.inl hbt))))
  | false =>
    simp only [Bool.false_eq_true, if_false]
    have hled : led = true := by
      rcases hl with h | h
      · exact h
      · rw [hbt] at h; cases h
    subst hled
    cases b with
    | false => exact wpAny_pure (q 1 (.inr rfl))
    | true => exact wpAny_pure (q 2 (.inr rfl))
theorem setNext_1 {D : Addr} {b led : Bool} {k : Nat} {Q : Option (Value × Nat) → Shared → Prop} (hl : Led w led) (ho : s.heap.get? D = some (setO led b)) (hk : w.params.followText "set-order" = true ∨ k = (if b then 2 else 1))
    (q : Q none s) : wpAny (model prog w) A (setNext D k 1 1) Q E s := by
  unfold setNext setsByText
  refine wpAny_bind (wpAny_setState_of (o := setO led b) ho rfl (fits1 b led) ?_)
  refine wpAny_bind (wpAny_bind (wpAny_askSetting (wpAny_pure ?_)))
  show wpAny _ A (if w.params.followText "set-order" = true then _ else _) _ _ _
  cases hbt : w.params.followText "set-order" with
  | true =>
    simp only [if_true]
    exact wpAny_bind (setWalk_1 ho hbt (wpAny_pure q))
  | false =>
    simp only [Bool.false_eq_true, if_false]
    have hled : led = true := by
      rcases hl with h | h
      · exact h
      · rw [hbt] at h; cases h
    have hk' : k = (if b then 2 else 1) := by
      rcases hk with h | h
      · rw [hbt] at h; cases h
      · exact h
    subst hled; subst hk'
    cases b with
    | false => exact wpAny_pure q
    | true => exact wpAny_pure q

/-- unpacking the set of one -/
theorem unpack_set {D : Addr} {b led : Bool} {Q : List Value → Shared → Prop} (hh : A.handled = none) (hl : Led w led) (ho : s.heap.get? D = some (setO led b))
    (q : ∀ h', Sub s.heap h' → Q [.bool b] { s with heap := h' }) : wpAny (model prog w) A (unpackItems (.ref D) 1 none) Q E s := by
  have hT : s.TypeIs (.ref D) "set" := ⟨_, ho, rfl⟩
  have hlt : D < s.heap.objs.size := Heap.lt_size ho
  unfold unpackItems notIterableAtAll
  refine wpAny_bind (wpAny_bind (wpAny_specialOf hT F.slot_set_iter.lookup ?_))
  refine wpAny_pure ?_
  simp only [Bool.false_eq_true, if_false]
  refine wpAny_bind (wpAny_holding (wpAny_pyIter_slot hT F.slot_set_iter (wpAny_call_entry F.slot_set_iter hT entry_set_iter ?_ (args_set_iter _))))
  unfold Builtin.«frozenset.__iter__»
  refine wpAny_bind (m := Builtin.Frozenset.slot0 "__iter__" _) (wpAny_pure ?_)
  refine wpAny_bind (m := Builtin.Frozenset.sizeOf D) (wpAny_bind (wpAny_setEntries_of (o := setO led b) ho rfl (fits1 b led) (wpAny_pure ?_)))
  refine wpAny_bind (m := setDrawn D) (wpAny_bind (wpAny_setState_of (o := setO led b) ho rfl (fits1 b led) (wpAny_bind (m := setsByText) (wpAny_bind (wpAny_askSetting (wpAny_pure (wpAny_pure ?_)))))))
  have hne : w.params.followText "set-order" = true ∨ w.params.followText "set-order" = false := by cases w.params.followText "set-order" <;> simp
  show wpAny _ _ (if (!(w.params.followText "set-order") && _) = true then _ else _) _ _ _
  rw [if_neg (by rcases hne with h | h <;> rw [h] <;> exact Bool.false_ne_true)]
  refine wpAny_bind (wpAny_pure ?_)
  refine wpAny_bind (wpAny_setEpoch_of (o := setO led b) ho rfl (fits1 b led) ?_)
  refine wpAny_bind (wpAny_newObj_type (wpAny_pure ⟨_, rfl, "set_iterator", _, ⟨_, Heap.get?_push_size _ rfl, rfl⟩, slot_setiter_next.lookup, ?_⟩))
  have hI := Heap.get?_push_size s.heap (o := { cls := .type "set_iterator", data := .fields [rawInt 0, rawInt 0, .ref D, rawInt 1, rawInt 1].toArray }) rfl
  have hne : s.heap.objs.size ≠ D := Nat.ne_of_gt hlt
  -- the first
  have next0 : ∀ {A' : Around} (hp : Heap) (Q' : Option Value → Shared → Prop) (E' : Value → Shared → Prop), hp.get? s.heap.objs.size = some { cls := .type "set_iterator", data := .fields #[rawInt 0, rawInt 0, .ref D, rawInt 1, rawInt 1] } → hp.get? D = some (setO led b) →
      (∀ h' k, (w.params.followText "set-order" = true ∨ k = (if b then 2 else 1)) → h'.get? s.heap.objs.size = some { cls := .type "set_iterator", data := .fields #[rawInt (k : Nat), rawInt 1, .ref D, rawInt 1, rawInt 1] } → Heap.SameBut s.heap.objs.size hp h' → Q' (some (.bool b)) { s with heap := h' }) →
      wpAny (model prog w) A' (pyNext (.ref s.heap.objs.size)) Q' E' { s with heap := hp } := by
    intro A' hp Q' E' hi hD k
    have hTI : ({ s with heap := hp } : Shared).TypeIs (.ref s.heap.objs.size) "set_iterator" := ⟨_, hi, rfl⟩
    unfold pyNext
    refine wpAny_bind (wpAny_attempt (wpAny_callSpecial?_slot (name := Str.ofString "__next__") hTI slot_setiter_next
      (wpAny_call_entry slot_setiter_next hTI entry_setiter_next ?_ (args_setiter_next _))))
    unfold Builtin.«set_iterator.__next__»
    refine wpAny_bind (wpAny_pure ?_)
    refine wpAny_bind (wpAny_fieldsOf hi rfl ?_)
    refine wpAny_bind (wpAny_setEntries_of (o := setO led b) hD rfl (fits1 b led) ?_)
    refine wpAny_bind (setNext_0 hl hD fun kk hk => ?_)
    refine wpAny_bind (wpAny_setField_rec hi (by simp) fun h1 ho1 hs1 => ?_)
    refine wpAny_bind (wpAny_setField_rec ho1 (by simp) fun h2 ho2 hs2 => ?_)
    exact wpAny_pure ⟨_, rfl, wpAny_pure (k h2 kk hk ho2 (hs1.trans hs2))⟩
  have next1 : ∀ {A' : Around} (hh' : A'.handled = none) (hp : Heap) (Q' : Option Value → Shared → Prop) (E' : Value → Shared → Prop) (kk : Nat), (w.params.followText "set-order" = true ∨ kk = (if b then 2 else 1)) → hp.get? s.heap.objs.size = some { cls := .type "set_iterator", data := .fields #[rawInt (kk : Nat), rawInt 1, .ref D, rawInt 1, rawInt 1] } → hp.get? D = some (setO led b) →
      (∀ h', Heap.ExtBut s.heap.objs.size hp h' → Q' none { s with heap := h' }) →
      wpAny (model prog w) A' (pyNext (.ref s.heap.objs.size)) Q' E' { s with heap := hp } := by
    intro A' hh' hp Q' E' kk hk hi hD k
    have hTI : ({ s with heap := hp } : Shared).TypeIs (.ref s.heap.objs.size) "set_iterator" := ⟨_, hi, rfl⟩
    unfold pyNext
    refine wpAny_bind (wpAny_attempt (wpAny_callSpecial?_slot (name := Str.ofString "__next__") hTI slot_setiter_next
      (wpAny_call_entry slot_setiter_next hTI entry_setiter_next ?_ (args_setiter_next _))))
    unfold Builtin.«set_iterator.__next__»
    refine wpAny_bind (wpAny_pure ?_)
    refine wpAny_bind (wpAny_fieldsOf hi rfl ?_)
    refine wpAny_bind (wpAny_setEntries_of (o := setO led b) hD rfl (fits1 b led) ?_)
    refine wpAny_bind (setNext_1 (k := kk) hl hD hk ?_)
    refine wpAny_bind (wpAny_setField hi rfl (by simp) ?_)
    show wpAny _ _ (newExc (.type "StopIteration") [] >>= _) _ _ _
    refine wpAny_bind ?_
    simp only [newExc, newTuple]
    refine wpAny_bind (wpAny_newObj_type ?_ (by size_fits))
    refine wpAny_bind (m := firstArgMember _ _) (wpAny_of_eq (a := Value.none) (by first | rfl | (simp only [firstArgMember]; rfl)) ?_)
    refine wpAny_newObj_type ?_ (by size_fits)
    simp only [raiseNew]
    refine wpAny_bind (wpAny_handled ?_)
    rw [show A'.in1.handled = none from hh']
    refine wpAny_bind (wpAny_pure (wpAny_throw ?_))
    refine wpAny_bind (wpAny_isInstance (T := "StopIteration") (b := true) ⟨_, Heap.get?_push_size _ rfl, rfl⟩ isSubtype_stop ?_)
    exact wpAny_pure (k _ (((Heap.SameBut.update ..).extBut.push _).push _))
  refine wpAny_bind (wpAny_holding ?_)
  unfold draw
  refine wpAny_bind (next0 _ _ _ hI (Heap.get?_push_of_some _ ho) fun h1 kk hk hi1 hs1 => ?_)
  dsimp only
  unfold draw
  refine wpAny_bind (wpAny_holding (wpAny_pure (wpAny_pure ?_)))
  rw [if_neg (by simp)]
  refine wpAny_bind (wpAny_holding (next1 hh _ _ _ kk hk hi1 ((hs1.2 D (Ne.symm hne)).trans (Heap.get?_push_of_some _ ho)) fun h2 x2 => ?_))
  simp only [Option.isSome_none, Bool.false_eq_true, if_false]
  refine wpAny_pure (q h2 fun c o e => ?_)
  have hc : c ≠ s.heap.objs.size := Nat.ne_of_lt (Heap.lt_size e)
  exact x2 c o hc ((hs1.2 c hc).trans (Heap.get?_push_of_some _ e))
end
end Mine
end
section
open PySem PySem.W PyProof.Rows
set_option maxRecDepth 100000
namespace Mine
section
variable {prog : Program} {w : World} {A : Around}
theorem eval_SetComp {env : Env} (elt gens scope pos) : eval (.SetComp elt gens scope pos) env =
    comprehension (.SetComp elt gens scope pos) scope env (firstIterPos gens pos) (newSet (.type "set")) (firstAsync gens) (firstIter gens env) := rfl
theorem newSet_acc {s : Shared} {E : Value → Shared → Prop} {b : Bool} {Q : Value → Shared → Prop}
    (k : ∀ o : Obj, (o.data = .freed → False) → SetAcc w b s.heap.objs.size [] (s.heap.push o) → Q (.ref s.heap.objs.size) { s with heap := s.heap.push o }) :
    wpAny (model prog w) A (newSet (.type "set")) Q E s := by
  unfold newSet setsByText
  refine wpAny_bind (wpAny_bind (wpAny_askSetting (wpAny_pure ?_)))
  refine wpAny_newObj_type (k _ (fun e => nomatch e) ⟨!(w.params.followText "set-order"), ?_, Heap.get?_push_size _ rfl⟩)
  cases h : w.params.followText "set-order" with
  | true => exact .inr h
  | false => exact .inl rfl
/-- a set of one truth value -/
theorem pe_setcomp {α : Type} {x : Str} {px : Pos} {iter elt : Expr} {env : Env} {scope : Scope} {cl : List (Str × Addr)} {pos : Pos} {vs : List Value} {xs : List α} {v₀ : Value} {V : α → Value → Prop} {b : Bool} {h : Heap}
    (hh : A.handled = none) (hclos : closureFor scope env = Pure.pure cl) 
    (hit : PV prog w A h (eval iter env) (· = v₀)) (hv : ItOf h v₀ vs) (hV : Paired V xs vs)
    (helt : ∀ (C : Addr) (a : α) (v : Value) (H : Heap) (m : Str → Option Value), V a v → Sub h H → H.Ns C m → m x = some v → PV prog w A H (eval elt (compEnvC scope cl C env)) (· = .bool b))
    (hcell : ∀ y ∈ scope.names, y.2 ≠ .cell := by decide) (hnames : ∀ x ∈ scope.names, x.2 = .local → scope.names.lookup x.1 = some .local := by decide)
    (hkind : scope.kind = .function := by rfl) (hx : scope.names.lookup x = some .local := by rfl) (hsf : ∀ x, foldedSetIterable iter env x = Pure.pure x := by intro _; rfl) :
    PE prog w A h (eval (.SetComp elt [⟨.Name x px, iter, [], 0⟩] scope pos) env) (fun v h' => ∃ D ys, v = .ref D ∧ h.get? D = none ∧ SetAcc w b D ys h' ∧ ys.length = xs.length) := by
  intro s Q E hs q
  rw [eval_SetComp]
  refine comp_run (use := none) (g := ⟨.Name x px, iter, [], 0⟩) (Acc := SetAcc w b) (em := fun acc y => do standAt elt.pos; let _ ← call (.builtin "set.add") [acc, y]) (B := fun _ v m => m x = some v) (V := V) (b := fun _ => true) (RR := fun _ _ _ v => v = .bool b)
    hh rfl hsf hclos hcell hkind hnames (fun _ _ _ => rfl) (fun _ _ _ => rfl) (fun _ _ _ => rfl)
    (fun h0 h1 => start_set h0 h1) hit hv hV (fun _ => Res.const _) hs (fun s' Q' k => newSet_acc k) (fun I v s' Q' E' _ k => wpAny_pure k) (fun C a v s' m Q' E' _ _ hn k => ?_) (fun C a v H m _ _ _ _ => tests_nil) (fun C a v H m hVa _ hH hn hB => helt C a v H m hVa hH hn hB)
    (fun D ys H H' ms x k n => let ⟨led, hl, ho⟩ := x; ⟨led, hl, k D _ n ho⟩) (fun D ys H x => let ⟨led, hl, ho⟩ := x; live_of ho) (fun D ys x y s' Q' E' H ha hy _ k => by subst hy; exact em_set ha k) fun D C hL h' tk m ys hD hC hDC hsL hCL hn hp hF hsub => ?_
  · exact wpAny_assign_Name (wpAny_storeName_local (lookup_relabel_local hx) hn (fun h' hn' hs' => k h' _ _ (SubX.ofSame hs') hn' (if_pos rfl)) (by simp [compEnvC, relabel, hkind]))
  · refine ⟨m, hn, fun h'' hs'' => q _ h'' tk (fun c o e => hs''.extBut c o (fun z => by rw [z, hC] at e; cases e) (hsub c o e)) ⟨D, ys, rfl, hs.none hD, ?_, ?_⟩⟩
    · obtain ⟨led, hl, ho⟩ := hp
      exact ⟨led, hl, hs''.extBut D _ hDC ho⟩
    · have := hF.length
      rw [List.filter_eq_self.mpr (fun _ _ => rfl)] at this
      exact this.symm

variable {h₀ : Heap} {env : Env} {m : Str → Option Value} {s : Shared} {E : Value → Shared → Prop} {Q : Flow → Shared → Prop} {rest : List Stmt}
/-- y, = a set of one -/
theorem st_one {y : Str} {py tp pos : Pos} {k0 : Nat} {value : Expr} {b : Bool} (hh : A.handled = none) (F : Fr h₀ env.locals s.heap m) (e : PE prog w A s.heap (eval value env) (fun v h' => ∃ D ys, v = .ref D ∧ SetAcc w b D ys h' ∧ 0 < ys.length))
    (k : ∀ h' tk, SubX [env.locals] s.heap h' → Fr h₀ env.locals h' (upd m y (.bool b)) → wpAny (model prog w) A (execs rest env) Q E { s with heap := h', toks := tk })
    (hk : env.scope.kind = .function := by rfl) (hl : env.kindOf y = some .local := by rfl)
    (hs : swapsWithSole [.Tuple [.Name y py] k0 tp] value pos.line env = pure false := by rfl)
    (hw : swappedStores [.Tuple [.Name y py] k0 tp] value env = pure none := by rfl) :
    wpAny (model prog w) A (execs (.Assign [.Tuple [.Name y py] k0 tp] value pos :: rest) env) Q E s := by
  refine wpAny_execs_cons (Assign_Tuple (e s _ E Sub.rfl fun v h1 t1 k1 ⟨D, ys, hv, ⟨led, hl', ho⟩, hy⟩ => ?_) hs hw)
  subst hv
  have hne : ys.isEmpty = false := by cases ys with
    | nil => exact absurd hy (Nat.lt_irrefl 0)
    | cons => rfl
  rw [hne] at ho
  rw [arm_assign_Tuple]
  refine wpAny_bind (wpAny_standAt ?_)
  unfold unpack
  refine wpAny_bind (wpAny_holding ?_)
  show wpAny _ A (unpackItems (.ref D) 1 none) _ _ _
  refine unpack_set (led := led) hh hl' (by exact ho) fun h2 k2 => ?_
  show wpAny _ _ (do holding [] (assign (.Name y py) env (.bool b)); pure ()) _ _ _
  refine wpAny_bind (wpAny_holding (wpAny_assign_Name (st_store (fr_up F (k1.trans k2)) (fun h3 t3 F3 k3 => wpAny_pure ?_) hk hl)))
  exact k h3 t3 ((k1.trans k2).toX.trans k3) F3
end
end Mine
end
section
open PySem PySem.W PyProof.Rows
open AutoSeq1 (wpAny_loadPart')
open MeetsSeq MeetsSeq2 MeetsSeq3 SeqAt
set_option maxRecDepth 100000
namespace Mine
/-- the order of lists of texts -/
noncomputable def ltL : List (List Nat) → List (List Nat) → Bool
  | [], [] => false
  | [], _ :: _ => true
  | _ :: _, [] => false
  | x :: xs, y :: ys => if x = y then ltL xs ys else decide (x < y)
theorem ltL_nil (ys : List (List Nat)) : ltL [] ys = decide (0 < ys.length) := by cases ys <;> simp [ltL]
theorem ltL_nil_r (xs : List (List Nat)) : ltL xs [] = false := by cases xs <;> simp [ltL]
theorem lt_loop (l b : Addr) (vs us : List Value) (xs ys : List (List Nat)) (hv : Strs vs xs) (hu : Strs us ys) (n n2 : Nat) (dd dd2 : Option Addr) (sl sl2 : Array (Option Value)) (k : Nat) :
    ∀ i : Nat, vs.length - i = k → i ≤ vs.length → i ≤ us.length → Meets (Builtin.«list.__eq__.loop» ⟨[.ref l, .ref b, rawInt i, rawInt 0], []⟩)
      (fun _ R s => s.heap.get? l = some { cls := .type "list", dict := dd, data := .seq vs.toArray n, slots := sl } ∧ s.heap.get? b = some { cls := .type "list", dict := dd2, data := .seq us.toArray n2, slots := sl2 } ∧
        R (.ok (.ret (.bool (ltL (xs.drop i) (ys.drop i))))) s) := by
  have lv := hv.len
  have lu := hu.len
  induction k with
  | zero =>
    intro i hk hi1' hi2' prog w A R s h
    obtain ⟨hp, g, d, tk, os⟩ := s; obtain ⟨hl, hb, h⟩ := h
    wp_walk using wpAny_loadPart' hl, wpAny_loadPart' hb
    have hi1 : vs.toArray[((i : Nat) : Int).toNat]? = none := by simp; omega
    rw [hi1]
    wp_walk using wpAny_loadPart' hl, wpAny_loadPart' hb
    have hx : xs.drop i = [] := List.drop_eq_nil_of_le (by omega)
    rw [hx] at h
    show R (.ok (.ret (.bool (decide (vs.toArray.size < us.toArray.size))))) _
    rw [ltL_nil] at h
    have e : (decide (0 < (ys.drop i).length)) = decide (vs.toArray.size < us.toArray.size) := by rw [List.length_drop]; simp; omega
    rw [← e]; exact h
  | succ k ih =>
    intro i hk hi1' hi2' prog w A R s h
    obtain ⟨hp, g, d, tk, os⟩ := s; obtain ⟨hl, hb, h⟩ := h
    wp_walk using wpAny_loadPart' hl, wpAny_loadPart' hb
    have hlt : i < vs.length := by omega
    obtain ⟨x, hxi, tx, hx⟩ := hv.get (List.getElem?_eq_getElem hlt)
    have hi1 : vs.toArray[((i : Nat) : Int).toNat]? = some (.str (S x) tx) := by simp [hlt, hx]
    rw [hi1]
    have hltx : i < xs.length := by omega
    have dx : xs.drop i = x :: xs.drop (i + 1) := by rw [List.drop_eq_getElem_cons hltx]; rw [List.getElem?_eq_getElem hltx] at hxi; cases hxi; rfl
    by_cases hlt2 : i < us.length
    · obtain ⟨y, hyi, ty, hy⟩ := hu.get (List.getElem?_eq_getElem hlt2)
      have hi2 : us.toArray[((i : Nat) : Int).toNat]? = some (.str (S y) ty) := by simp [hlt2, hy]
      rw [hi2]
      have hlty : i < ys.length := by omega
      have dy : ys.drop i = y :: ys.drop (i + 1) := by rw [List.drop_eq_getElem_cons hlty]; rw [List.getElem?_eq_getElem hlty] at hyi; cases hyi; rfl
      have hc : ((i : Int) + 1) = ((i + 1 : Nat) : Int) := by push_cast; rfl
      rw [dx, dy, ltL] at h
      refine wpAny_bind (EqAt.str_str (S x) tx (S y) ty prog w _ _ ?_)
      rw [S_beq]
      by_cases hxy : x = y
      · subst hxy
        rw [if_pos rfl] at h
        rw [show (x == x) = true from beq_self_eq_true x]
        wp_walk
        rw [hc]
        exact ⟨plainId_quiet plain_eq_loop _, codeAny_builtin entry_eq_loop (by
          rw [Around.under_plainId plain_eq_loop _]
          exact ih (i + 1) (by omega) (by omega) (by omega) prog w A R _ ⟨hl, hb, h⟩)⟩
      · rw [if_neg hxy] at h
        rw [show (x == y) = false from beq_eq_false_iff_ne.mpr hxy]
        wp_walk using wpAny_loadPart' hl, wpAny_loadPart' hb
        rw [hi1, hi2]
        refine wpAny_bind (richCompare_gives (op := .Lt) (T := "str") rfl rfl F.slot_str_lt F.entry_str_lt (F.args_str_lt_2 _ _) (gives_str_lt (S x) (S y) tx ty) (fun e => nomatch e) ?_)
        rw [S_toList, S_toList]
        exact wpAny_pure h
    · have hi2 : us.toArray[((i : Nat) : Int).toNat]? = none := by simp; omega
      rw [hi2]
      wp_walk using wpAny_loadPart' hl, wpAny_loadPart' hb
      have hy : ys.drop i = [] := List.drop_eq_nil_of_le (by omega)
      rw [dx, hy] at h
      show R (.ok (.ret (.bool (decide (vs.toArray.size < us.toArray.size))))) _
      have e : decide (vs.toArray.size < us.toArray.size) = false := by simp; omega
      rw [e]; exact h
theorem list_ltAt (l b : Addr) (vs us : List Value) (xs ys : List (List Nat)) (hv : Strs vs xs) (hu : Strs us ys) (n n2 : Nat) (dd dd2 : Option Addr) (sl sl2 : Array (Option Value)) :
    Meets (Builtin.«list.__lt__» ⟨[.ref l, .ref b], []⟩)
      (fun _ R s => s.heap.get? l = some { cls := .type "list", dict := dd, data := .seq vs.toArray n, slots := sl } ∧ s.heap.get? b = some { cls := .type "list", dict := dd2, data := .seq us.toArray n2, slots := sl2 } ∧
        R (.ok (.ret (.bool (ltL xs ys)))) s) := by
  intro prog w A R s h
  obtain ⟨hp, g, d, tk, os⟩ := s; obtain ⟨hl, hb, h⟩ := h
  have f3 := AutoSeq1.sub_list_list
  wp_walk using wpAny_loadPart' hl, wpAny_loadPart' hb
  exact ⟨plainId_quiet plain_eq_loop _, codeAny_builtin entry_eq_loop (by
    rw [Around.under_plainId plain_eq_loop _]
    exact lt_loop l b vs us xs ys hv hu n n2 dd dd2 sl sl2 _ 0 rfl (Nat.zero_le _) (Nat.zero_le _) prog w A R _ ⟨hl, hb, by simpa using h⟩)⟩
/-- .Lt of two lists of texts -/
theorem rc_lt {prog : Program} {w : World} {A : Around} {E : Value → Shared → Prop} {s : Shared} {l b : Addr} {xs ys : List (List Nat)} {Q : Value → Shared → Prop} (hl : LS s.heap l xs) (hb : LS s.heap b ys) (hu : A.units < cLine)
    (q : Q (.bool (ltL xs ys)) s) : wpAny (model prog w) A (richCompare .Lt (.ref l) (.ref b)) Q E s := by
  obtain ⟨vs, ⟨n, ho⟩, hv⟩ := hl
  obtain ⟨us, ⟨n2, ho2⟩, hv2⟩ := hb
  exact richCompare_meets_room (op := .Lt) ⟨_, ho, rfl⟩ ⟨_, ho2, rfl⟩ F.slot_list_lt F.entry_list_lt (F.args_list_lt_2 _ _) (list_ltAt l b vs us xs ys hv hv2 n n2 _ _ _ _)
    ⟨ho, ho2, show Value.bool (ltL xs ys) ≠ Value.notImplemented ∧ Q (.bool (ltL xs ys)) s from ⟨(fun x => nomatch x), q⟩⟩ hu
theorem gt_loop (l b : Addr) (vs us : List Value) (xs ys : List (List Nat)) (hv : Strs vs xs) (hu : Strs us ys) (n n2 : Nat) (dd dd2 : Option Addr) (sl sl2 : Array (Option Value)) (k : Nat) :
    ∀ i : Nat, vs.length - i = k → i ≤ vs.length → i ≤ us.length → Meets (Builtin.«list.__eq__.loop» ⟨[.ref l, .ref b, rawInt i, rawInt 4], []⟩)
      (fun _ R s => s.heap.get? l = some { cls := .type "list", dict := dd, data := .seq vs.toArray n, slots := sl } ∧ s.heap.get? b = some { cls := .type "list", dict := dd2, data := .seq us.toArray n2, slots := sl2 } ∧
        R (.ok (.ret (.bool (ltL (ys.drop i) (xs.drop i))))) s) := by
  have lv := hv.len
  have lu := hu.len
  induction k with
  | zero =>
    intro i hk hi1' hi2' prog w A R s h
    obtain ⟨hp, g, d, tk, os⟩ := s; obtain ⟨hl, hb, h⟩ := h
    wp_walk using wpAny_loadPart' hl, wpAny_loadPart' hb
    have hi1 : vs.toArray[((i : Nat) : Int).toNat]? = none := by simp; omega
    rw [hi1]
    wp_walk using wpAny_loadPart' hl, wpAny_loadPart' hb
    have hx : xs.drop i = [] := List.drop_eq_nil_of_le (by omega)
    rw [hx] at h
    show R (.ok (.ret (.bool (decide (us.toArray.size < vs.toArray.size))))) _
    rw [ltL_nil_r] at h
    have e : (false) = decide (us.toArray.size < vs.toArray.size) := by simp; omega
    rw [← e]; exact h
  | succ k ih =>
    intro i hk hi1' hi2' prog w A R s h
    obtain ⟨hp, g, d, tk, os⟩ := s; obtain ⟨hl, hb, h⟩ := h
    wp_walk using wpAny_loadPart' hl, wpAny_loadPart' hb
    have hlt : i < vs.length := by omega
    obtain ⟨x, hxi, tx, hx⟩ := hv.get (List.getElem?_eq_getElem hlt)
    have hi1 : vs.toArray[((i : Nat) : Int).toNat]? = some (.str (S x) tx) := by simp [hlt, hx]
    rw [hi1]
    have hltx : i < xs.length := by omega
    have dx : xs.drop i = x :: xs.drop (i + 1) := by rw [List.drop_eq_getElem_cons hltx]; rw [List.getElem?_eq_getElem hltx] at hxi; cases hxi; rfl
    by_cases hlt2 : i < us.length
    · obtain ⟨y, hyi, ty, hy⟩ := hu.get (List.getElem?_eq_getElem hlt2)
      have hi2 : us.toArray[((i : Nat) : Int).toNat]? = some (.str (S y) ty) := by simp [hlt2, hy]
      rw [hi2]
      have hlty : i < ys.length := by omega
      have dy : ys.drop i = y :: ys.drop (i + 1) := by rw [List.drop_eq_getElem_cons hlty]; rw [List.getElem?_eq_getElem hlty] at hyi; cases hyi; rfl
      have hc : ((i : Int) + 1) = ((i + 1 : Nat) : Int) := by push_cast; rfl
      rw [dx, dy, ltL] at h
      refine wpAny_bind (EqAt.str_str (S x) tx (S y) ty prog w _ _ ?_)
      rw [S_beq]
      by_cases hxy : x = y
      · subst hxy
        rw [if_pos rfl] at h
        rw [show (x == x) = true from beq_self_eq_true x]
        wp_walk
        rw [hc]
        exact ⟨plainId_quiet plain_eq_loop _, codeAny_builtin entry_eq_loop (by
          rw [Around.under_plainId plain_eq_loop _]
          exact ih (i + 1) (by omega) (by omega) (by omega) prog w A R _ ⟨hl, hb, h⟩)⟩
      · rw [if_neg (Ne.symm hxy)] at h
        rw [show (x == y) = false from beq_eq_false_iff_ne.mpr hxy]
        wp_walk using wpAny_loadPart' hl, wpAny_loadPart' hb
        rw [hi1, hi2]
        refine wpAny_bind (richCompare_gives (op := .Gt) (T := "str") rfl rfl F.slot_str_gt F.entry_str_gt (F.args_str_gt_2 _ _) (gives_str_gt (S x) (S y) tx ty) (fun e => nomatch e) ?_)
        rw [S_toList, S_toList]
        exact wpAny_pure h
    · have hi2 : us.toArray[((i : Nat) : Int).toNat]? = none := by simp; omega
      rw [hi2]
      wp_walk using wpAny_loadPart' hl, wpAny_loadPart' hb
      have hy : ys.drop i = [] := List.drop_eq_nil_of_le (by omega)
      rw [dx, hy] at h
      show R (.ok (.ret (.bool (decide (us.toArray.size < vs.toArray.size))))) _
      have e : decide (us.toArray.size < vs.toArray.size) = true := by simp; omega
      rw [e]; exact h
theorem list_gtAt (l b : Addr) (vs us : List Value) (xs ys : List (List Nat)) (hv : Strs vs xs) (hu : Strs us ys) (n n2 : Nat) (dd dd2 : Option Addr) (sl sl2 : Array (Option Value)) :
    Meets (Builtin.«list.__gt__» ⟨[.ref l, .ref b], []⟩)
      (fun _ R s => s.heap.get? l = some { cls := .type "list", dict := dd, data := .seq vs.toArray n, slots := sl } ∧ s.heap.get? b = some { cls := .type "list", dict := dd2, data := .seq us.toArray n2, slots := sl2 } ∧
        R (.ok (.ret (.bool (ltL ys xs)))) s) := by
  intro prog w A R s h
  obtain ⟨hp, g, d, tk, os⟩ := s; obtain ⟨hl, hb, h⟩ := h
  have f3 := AutoSeq1.sub_list_list
  wp_walk using wpAny_loadPart' hl, wpAny_loadPart' hb
  exact ⟨plainId_quiet plain_eq_loop _, codeAny_builtin entry_eq_loop (by
    rw [Around.under_plainId plain_eq_loop _]
    exact gt_loop l b vs us xs ys hv hu n n2 dd dd2 sl sl2 _ 0 rfl (Nat.zero_le _) (Nat.zero_le _) prog w A R _ ⟨hl, hb, by simpa using h⟩)⟩
/-- .Gt of two lists of texts -/
theorem rc_gt {prog : Program} {w : World} {A : Around} {E : Value → Shared → Prop} {s : Shared} {l b : Addr} {xs ys : List (List Nat)} {Q : Value → Shared → Prop} (hl : LS s.heap l xs) (hb : LS s.heap b ys) (hu : A.units < cLine)
    (q : Q (.bool (ltL ys xs)) s) : wpAny (model prog w) A (richCompare .Gt (.ref l) (.ref b)) Q E s := by
  obtain ⟨vs, ⟨n, ho⟩, hv⟩ := hl
  obtain ⟨us, ⟨n2, ho2⟩, hv2⟩ := hb
  exact richCompare_meets_room (op := .Gt) ⟨_, ho, rfl⟩ ⟨_, ho2, rfl⟩ F.slot_list_gt F.entry_list_gt (F.args_list_gt_2 _ _) (list_gtAt l b vs us xs ys hv hv2 n n2 _ _ _ _)
    ⟨ho, ho2, show Value.bool (ltL ys xs) ≠ Value.notImplemented ∧ Q (.bool (ltL ys xs)) s from ⟨(fun x => nomatch x), q⟩⟩ hu
end Mine
end
section
open PySem PySem.W PyProof.Rows
set_option maxRecDepth 100000
namespace Mine
theorem gl_min (P : Params) : nsIn (hd.heap_39 P) mainGlobals "min" = some none := by kernel_rfl
theorem bo_min : bootBuiltins "min" = some (.builtin "min") := by kernel_rfl
theorem gl_max (P : Params) : nsIn (hd.heap_39 P) mainGlobals "max" = some none := by kernel_rfl
theorem bo_max : bootBuiltins "max" = some (.builtin "max") := by kernel_rfl
/-- a comparison that reads what h₀ holds -/
noncomputable def CmpIn (prog : Program) (w : World) (A : Around) (h₀ : Heap) (op : CmpOp) (P : Nat → Value → Prop) (bt : Nat → Nat → Bool) : Prop :=
  ∀ i j vi vj (s : Shared) (Q : Value → Shared → Prop) (E : Value → Shared → Prop), Sub h₀ s.heap → P i vi → P j vj → Q (.bool (bt i j)) s → wpAny (model prog w) A (richCompare op vi vj) Q E s
/-- a list object at S with these items -/
noncomputable def Cell (h : Heap) (S : Addr) (xs : Array Value) : Prop := ∃ c, h.get? S = some { cls := .type "list", dict := none, data := .seq xs c, slots := #[] }
theorem Cell.sub {h h' : Heap} {S : Addr} {xs : Array Value} {ms : List Addr} (c : Cell h S xs) (hS : S ∉ ms) (k : SubX ms h h') : Cell h' S xs := let ⟨n, e⟩ := c; ⟨n, k _ _ hS e⟩
theorem refill {prog : Program} {w : World} {A : Around} {s : Shared} {E : Value → Shared → Prop} {S : Addr} {xs ys : Array Value} {Q : Unit → Shared → Prop} (c : Cell s.heap S xs)
    (hx : xs.size ≤ 2) (hy : ys.size ≤ 2) (k : ∀ h', SubX [S] s.heap h' → Cell h' S ys → Q () { s with heap := h' }) : wpAny (model prog w) A (updateSeq S fun _ => ys) Q E s := by
  obtain ⟨n, e⟩ := c
  exact wpAny_updateSeq (hz := by rw [szL]; omega) (_hz' := by rw [szL]; omega) e rfl (k _ (fun b o hb eb => (Heap.get?_update_other _ _ (fun z => hb (List.mem_singleton.mpr z.symm))).trans eb) ⟨_, Heap.get?_update_self _ e rfl⟩)
/-- after j + 1 items the best of them lies in the cell -/
structure Best (P : Nat → Value → Prop) (St : Nat → Heap → Prop) (bt : Nat → Nat → Bool) (h₀ : Heap) (S : Addr) (j : Nat) (h : Heap) : Prop where
  st : St (j + 1) h
  cell : ∃ v, P (argBest bt j) v ∧ Cell h S #[v, v]
  sub : Sub h₀ h
/-- S is a cell of its own, beside what is walked and what is read -/
structure Beside (fp wr : List Addr) (h₀ : Heap) (S : Addr) : Prop where
  out : S ∉ fp
  new : h₀.get? S = none
  wr : ∀ b ∈ wr, h₀.get? b = none
theorem Beside.keep {fp wr : List Addr} {h₀ h h' : Heap} {S : Addr} (B : Beside fp wr h₀ S) (a : Sub h₀ h) (k : SubX (S :: wr) h h') : Sub h₀ h' := fun b o e => k b o (fun z => by
  rcases List.mem_cons.mp z with z | z
  · rw [z, B.new] at e; cases e
  · rw [B.wr b z] at e; cases e) (a b o e)
section
variable {prog : Program} {w : World} {A : Around} {R : Result → Shared → Prop} {I S : Addr} {fp wr : List Addr} {n : Nat} {P : Nat → Value → Prop} {St : Nat → Heap → Prop} {h₀ : Heap} {bt : Nat → Nat → Bool} {s : Shared}
/-- the walk is over: the cell's value is the answer -/
theorem min_end {j : Nat} (W : Walks prog w A.in1 I fp wr n P St) (B : Beside fp wr h₀ S) (b : Best P St bt h₀ S j s.heap) (hj : j + 1 = n)
    (k : ∀ v h' tk, P (argBest bt j) v → SubX (S :: wr) s.heap h' → R (.ok (.ret v)) { s with heap := h', toks := tk }) :
    codeAny (model prog w) A (.builtin "min.loop" ⟨[.ref I, .none, .ref S], []⟩) R s := by
  obtain ⟨v, pv, c⟩ := b.cell
  have ow : S ∉ wr := fun z => B.out (W.sub _ z)
  refine codeAny_builtin F.entry_min_loop ?_
  rw [Around.under_plainId F.plain_min_loop _]
  show wpAny _ _ (seqItems? (.ref S) >>= _) _ _ s
  refine wpAny_bind (wpAny_seqItems c.choose_spec rfl ?_)
  show wpAny _ _ (tryCatch (pyNext (.ref I)) _ >>= _) _ _ s
  refine wpAny_bind (wpAny_tryCatch (W.done s _ _ (hj ▸ b.st) fun h1 tk k1 => ?_))
  show wpAny _ _ (updateSeq S (fun _ => #[]) >>= _) _ _ _
  refine wpAny_bind (refill (c.sub ow k1) (by simp) (by simp) fun h2 k2 _ => wpAny_bind (wpAny_letGo (wpAny_pure (k v h2 tk pv ?_))))
  exact (SubX.mono k1 fun b z => List.mem_cons_of_mem _ z).trans (SubX.mono k2 fun b z => by rw [List.mem_singleton.mp z]; exact List.mem_cons_self)
/-- one turn: the next item against the best so far -/
theorem min_turn {j : Nat} (W : Walks prog w A.in1 I fp wr n P St) (B : Beside fp wr h₀ S) (hcmp : CmpIn prog w A.in1 h₀ .Lt P bt) (b : Best P St bt h₀ S j s.heap) (hj : j + 1 < n)
    (k : ∀ h' tk, Best P St bt h₀ S (j + 1) h' → SubX (S :: wr) s.heap h' → codeAny (model prog w) A (.builtin "min.loop" ⟨[.ref I, .none, .ref S], []⟩) R { s with heap := h', toks := tk }) :
    codeAny (model prog w) A (.builtin "min.loop" ⟨[.ref I, .none, .ref S], []⟩) R s := by
  obtain ⟨u, pu, c⟩ := b.cell
  have ow : S ∉ wr := fun z => B.out (W.sub _ z)
  have hname : (toString "min" ++ toString ".loop" : String) = "min.loop" := by decide
  refine codeAny_builtin F.entry_min_loop ?_
  rw [Around.under_plainId F.plain_min_loop _]
  show wpAny _ _ (seqItems? (.ref S) >>= _) _ _ s
  refine wpAny_bind (wpAny_seqItems c.choose_spec rfl ?_)
  show wpAny _ _ (tryCatch (pyNext (.ref I)) _ >>= _) _ _ s
  refine wpAny_bind (wpAny_tryCatch (W.item (j + 1) s _ _ hj b.st fun v h1 tk pv st1 k1 => ?_))
  have x1 : SubX (S :: wr) s.heap h1 := SubX.mono k1 fun b z => List.mem_cons_of_mem _ z
  show wpAny _ _ (tryCatch (holding [v, v] (richCompare .Lt v u >>= _)) _ >>= _) _ _ _
  refine wpAny_bind (wpAny_tryCatch (wpAny_holding (wpAny_bind (hcmp _ _ v u _ _ _ (B.keep b.sub x1) pv pu ?_))))
  refine wpAny_bind (wpAny_holding (wpAny_truthy_bool (wpAny_bind (wpAny_letGo (wpAny_pure ?_)))))
  rw [hname]
  by_cases hb : bt (j + 1) (argBest bt j) = true
  · rw [if_pos hb]
    refine wpAny_bind (refill (c.sub ow k1) (by simp) (by simp) fun h2 k2 c2 => wpAny_bind (wpAny_letGo (wpAny_pure ⟨plainId_quiet F.plain_min_loop _, ?_⟩)))
    have x2 : SubX (S :: wr) s.heap h2 := x1.trans (SubX.mono k2 fun b z => by rw [List.mem_singleton.mp z]; exact List.mem_cons_self)
    exact k h2 tk ⟨W.frame _ _ _ st1 fun b hf o e => k2 b o (fun z => B.out (List.mem_singleton.mp z ▸ hf)) e, ⟨v, by rw [argBest, if_pos hb]; exact pv, c2⟩, B.keep b.sub x2⟩ x2
  · rw [if_neg hb]
    refine wpAny_bind (wpAny_letGo (wpAny_pure ⟨plainId_quiet F.plain_min_loop _, ?_⟩))
    exact k h1 tk ⟨st1, ⟨u, by rw [argBest, if_neg hb]; exact pu, c.sub ow k1⟩, B.keep b.sub x1⟩ x1
theorem min_rest (W : Walks prog w A.in1 I fp wr n P St) (B : Beside fp wr h₀ S) (hcmp : CmpIn prog w A.in1 h₀ .Lt P bt) (d : Nat) : ∀ (j : Nat) (s : Shared), j + 1 + d = n → Best P St bt h₀ S j s.heap →
    (∀ v h' tk, P (argBest bt (n - 1)) v → SubX (S :: wr) s.heap h' → R (.ok (.ret v)) { s with heap := h', toks := tk }) →
    codeAny (model prog w) A (.builtin "min.loop" ⟨[.ref I, .none, .ref S], []⟩) R s := by
  induction d with
  | zero => exact fun j s hj b k => min_end W B b (by omega) fun v h' tk pv x => k v h' tk (by rw [← hj]; exact pv) x
  | succ d ih => exact fun j s hj b k => min_turn W B hcmp b (by omega) fun h1 tk1 b1 x1 => ih (j + 1) _ (by omega) b1 fun v h' tk pv x => k v h' tk pv (x1.trans x)
/-- the whole walk, from an empty cell -/
theorem min_whole (W : Walks prog w A.in1 I fp wr n P St) (B : Beside fp wr h₀ S) (hcmp : CmpIn prog w A.in1 h₀ .Lt P bt) (hn : 0 < n) (st : St 0 s.heap) (c : Cell s.heap S #[]) (hs : Sub h₀ s.heap)
    (k : ∀ v h' tk, P (argBest bt (n - 1)) v → SubX (S :: wr) s.heap h' → R (.ok (.ret v)) { s with heap := h', toks := tk }) :
    codeAny (model prog w) A (.builtin "min.loop" ⟨[.ref I, .none, .ref S], []⟩) R s := by
  have ow : S ∉ wr := fun z => B.out (W.sub _ z)
  have hname : (toString "min" ++ toString ".loop" : String) = "min.loop" := by decide
  refine codeAny_builtin F.entry_min_loop ?_
  rw [Around.under_plainId F.plain_min_loop _]
  show wpAny _ _ (seqItems? (.ref S) >>= _) _ _ s
  refine wpAny_bind (wpAny_seqItems c.choose_spec rfl ?_)
  show wpAny _ _ (tryCatch (pyNext (.ref I)) _ >>= _) _ _ s
  refine wpAny_bind (wpAny_tryCatch (W.item 0 s _ _ hn st fun v h1 tk pv st1 k1 => ?_))
  show wpAny _ _ (updateSeq S (fun _ => #[v, v]) >>= _) _ _ _
  refine wpAny_bind (refill (c.sub ow k1) (by simp) (by simp) fun h2 k2 c2 => ?_)
  have x2 : SubX (S :: wr) s.heap h2 := (SubX.mono k1 fun b z => List.mem_cons_of_mem _ z).trans (SubX.mono k2 fun b z => by rw [List.mem_singleton.mp z]; exact List.mem_cons_self)
  rw [hname]
  refine wpAny_pure ⟨plainId_quiet F.plain_min_loop _, min_rest W B hcmp (n - 1) 0 _ (by omega)
    ⟨W.frame _ _ _ st1 fun b hf o e => k2 b o (fun z => B.out (List.mem_singleton.mp z ▸ hf)) e, ⟨v, pv, c2⟩, B.keep hs x2⟩ fun v' h' tk' pv' x' => k v' h' tk' pv' (x2.trans x')⟩
end
section
variable {prog : Program} {w : World} {A : Around}
/-- min of a list -/
theorem pe_min {h : Heap} {x : Value} {vs : List Value} {bt : Nat → Nat → Bool} (hh : A.handled = none) (hx : ItOf h x vs) (hn : 0 < vs.length) (hcmp : CmpIn prog w A.in1 h .Lt (fun i v => vs[i]? = some v) bt) :
    PV prog w A h (call (.builtin "min") [x]) (fun v => vs[argBest bt (vs.length - 1)]? = some v) := by
  have hname : (toString "min" ++ toString ".loop" : String) = "min.loop" := by decide
  intro s Q E hs q
  have fresh : ∀ b, s.heap.objs.size ≤ b → h.get? b = none := fun b hb => hs.none (Heap.get?_none_of_le hb)
  refine call_function_tree F.kind_min F.plain_min F.entry_min (F.args_min1 _) ?_
  show wpAny _ _ (Builtin.Builtins.bindParams "min" ["key", "default"] 0 ⟨[], []⟩ >>= _) _ _ s
  refine wpAny_bind (wpAny_of_eq (show Builtin.Builtins.bindParams "min" ["key", "default"] 0 ⟨[], []⟩ = Pure.pure [none, none] from rfl) (wpAny_bind (wpAny_pure ?_)))
  refine wpAny_bind (iter_of (A := A.in1) hh (hx.up hs) fun fp St o W _ st old => wpAny_bind (wpAny_newObj_type ?_))
  rw [hname]
  have e1 : (s.heap.push o).objs.size = s.heap.objs.size + 1 := Heap.size_push ..
  have k0 : Sub s.heap ((s.heap.push o).push { cls := .type "list", data := .seq ([] : List Value).toArray }) := (Sub.push _ _).trans (Sub.push _ _)
  refine wpAny_pure ⟨plainId_quiet F.plain_min_loop _, min_whole (h₀ := h) (S := (s.heap.push o).objs.size) W
    ⟨fun z => Nat.lt_irrefl _ (old _ z), fresh _ (by rw [e1]; exact Nat.le_succ _), fun b z => by rw [List.mem_singleton.mp z]; exact fresh _ (Nat.le_refl _)⟩ hcmp hn
    (W.frame _ _ _ st fun b _ o' e => Heap.get?_push_of_some _ e) ⟨_, Heap.get?_push_size _ rfl⟩ (hs.trans k0) fun v h' tk pv x => ?_⟩
  refine q v h' tk (fun b ob e => x b ob (fun z => ?_) (k0 b ob e)) pv
  have lt := Heap.lt_size e
  rcases List.mem_cons.mp z with z | z
  · rw [z, e1] at lt; exact absurd (Nat.lt_of_succ_lt lt) (Nat.lt_irrefl _)
  · rw [List.mem_singleton.mp z] at lt; exact Nat.lt_irrefl _ lt
end
section
variable {prog : Program} {w : World} {A : Around} {R : Result → Shared → Prop} {I S : Addr} {fp wr : List Addr} {n : Nat} {P : Nat → Value → Prop} {St : Nat → Heap → Prop} {h₀ : Heap} {bt : Nat → Nat → Bool} {s : Shared}
/-- the walk is over: the cell's value is the answer -/
theorem max_end {j : Nat} (W : Walks prog w A.in1 I fp wr n P St) (B : Beside fp wr h₀ S) (b : Best P St bt h₀ S j s.heap) (hj : j + 1 = n)
    (k : ∀ v h' tk, P (argBest bt j) v → SubX (S :: wr) s.heap h' → R (.ok (.ret v)) { s with heap := h', toks := tk }) :
    codeAny (model prog w) A (.builtin "max.loop" ⟨[.ref I, .none, .ref S], []⟩) R s := by
  obtain ⟨v, pv, c⟩ := b.cell
  have ow : S ∉ wr := fun z => B.out (W.sub _ z)
  refine codeAny_builtin F.entry_max_loop ?_
  rw [Around.under_plainId F.plain_max_loop _]
  show wpAny _ _ (seqItems? (.ref S) >>= _) _ _ s
  refine wpAny_bind (wpAny_seqItems c.choose_spec rfl ?_)
  show wpAny _ _ (tryCatch (pyNext (.ref I)) _ >>= _) _ _ s
  refine wpAny_bind (wpAny_tryCatch (W.done s _ _ (hj ▸ b.st) fun h1 tk k1 => ?_))
  show wpAny _ _ (updateSeq S (fun _ => #[]) >>= _) _ _ _
  refine wpAny_bind (refill (c.sub ow k1) (by simp) (by simp) fun h2 k2 _ => wpAny_bind (wpAny_letGo (wpAny_pure (k v h2 tk pv ?_))))
  exact (SubX.mono k1 fun b z => List.mem_cons_of_mem _ z).trans (SubX.mono k2 fun b z => by rw [List.mem_singleton.mp z]; exact List.mem_cons_self)
/-- one turn: the next item against the best so far -/
theorem max_turn {j : Nat} (W : Walks prog w A.in1 I fp wr n P St) (B : Beside fp wr h₀ S) (hcmp : CmpIn prog w A.in1 h₀ .Gt P bt) (b : Best P St bt h₀ S j s.heap) (hj : j + 1 < n)
    (k : ∀ h' tk, Best P St bt h₀ S (j + 1) h' → SubX (S :: wr) s.heap h' → codeAny (model prog w) A (.builtin "max.loop" ⟨[.ref I, .none, .ref S], []⟩) R { s with heap := h', toks := tk }) :
    codeAny (model prog w) A (.builtin "max.loop" ⟨[.ref I, .none, .ref S], []⟩) R s := by
  obtain ⟨u, pu, c⟩ := b.cell
  have ow : S ∉ wr := fun z => B.out (W.sub _ z)
  have hname : (toString "max" ++ toString ".loop" : String) = "max.loop" := by decide
  refine codeAny_builtin F.entry_max_loop ?_
  rw [Around.under_plainId F.plain_max_loop _]
  show wpAny _ _ (seqItems? (.ref S) >>= _) _ _ s
  refine wpAny_bind (wpAny_seqItems c.choose_spec rfl ?_)
  show wpAny _ _ (tryCatch (pyNext (.ref I)) _ >>= _) _ _ s
  refine wpAny_bind (wpAny_tryCatch (W.item (j + 1) s _ _ hj b.st fun v h1 tk pv st1 k1 => ?_))
  have x1 : SubX (S :: wr) s.heap h1 := SubX.mono k1 fun b z => List.mem_cons_of_mem _ z
  show wpAny _ _ (tryCatch (holding [v, v] (richCompare .Gt v u >>= _)) _ >>= _) _ _ _
  refine wpAny_bind (wpAny_tryCatch (wpAny_holding (wpAny_bind (hcmp _ _ v u _ _ _ (B.keep b.sub x1) pv pu ?_))))
  refine wpAny_bind (wpAny_holding (wpAny_truthy_bool (wpAny_bind (wpAny_letGo (wpAny_pure ?_)))))
  rw [hname]
  by_cases hb : bt (j + 1) (argBest bt j) = true
  · rw [if_pos hb]
    refine wpAny_bind (refill (c.sub ow k1) (by simp) (by simp) fun h2 k2 c2 => wpAny_bind (wpAny_letGo (wpAny_pure ⟨plainId_quiet F.plain_max_loop _, ?_⟩)))
    have x2 : SubX (S :: wr) s.heap h2 := x1.trans (SubX.mono k2 fun b z => by rw [List.mem_singleton.mp z]; exact List.mem_cons_self)
    exact k h2 tk ⟨W.frame _ _ _ st1 fun b hf o e => k2 b o (fun z => B.out (List.mem_singleton.mp z ▸ hf)) e, ⟨v, by rw [argBest, if_pos hb]; exact pv, c2⟩, B.keep b.sub x2⟩ x2
  · rw [if_neg hb]
    refine wpAny_bind (wpAny_letGo (wpAny_pure ⟨plainId_quiet F.plain_max_loop _, ?_⟩))
    exact k h1 tk ⟨st1, ⟨u, by rw [argBest, if_neg hb]; exact pu, c.sub ow k1⟩, B.keep b.sub x1⟩ x1
theorem max_rest (W : Walks prog w A.in1 I fp wr n P St) (B : Beside fp wr h₀ S) (hcmp : CmpIn prog w A.in1 h₀ .Gt P bt) (d : Nat) : ∀ (j : Nat) (s : Shared), j + 1 + d = n → Best P St bt h₀ S j s.heap →
    (∀ v h' tk, P (argBest bt (n - 1)) v → SubX (S :: wr) s.heap h' → R (.ok (.ret v)) { s with heap := h', toks := tk }) →
    codeAny (model prog w) A (.builtin "max.loop" ⟨[.ref I, .none, .ref S], []⟩) R s := by
  induction d with
  | zero => exact fun j s hj b k => max_end W B b (by omega) fun v h' tk pv x => k v h' tk (by rw [← hj]; exact pv) x
  | succ d ih => exact fun j s hj b k => max_turn W B hcmp b (by omega) fun h1 tk1 b1 x1 => ih (j + 1) _ (by omega) b1 fun v h' tk pv x => k v h' tk pv (x1.trans x)
/-- the whole walk, from an empty cell -/
theorem max_whole (W : Walks prog w A.in1 I fp wr n P St) (B : Beside fp wr h₀ S) (hcmp : CmpIn prog w A.in1 h₀ .Gt P bt) (hn : 0 < n) (st : St 0 s.heap) (c : Cell s.heap S #[]) (hs : Sub h₀ s.heap)
    (k : ∀ v h' tk, P (argBest bt (n - 1)) v → SubX (S :: wr) s.heap h' → R (.ok (.ret v)) { s with heap := h', toks := tk }) :
    codeAny (model prog w) A (.builtin "max.loop" ⟨[.ref I, .none, .ref S], []⟩) R s := by
  have ow : S ∉ wr := fun z => B.out (W.sub _ z)
  have hname : (toString "max" ++ toString ".loop" : String) = "max.loop" := by decide
  refine codeAny_builtin F.entry_max_loop ?_
  rw [Around.under_plainId F.plain_max_loop _]
  show wpAny _ _ (seqItems? (.ref S) >>= _) _ _ s
  refine wpAny_bind (wpAny_seqItems c.choose_spec rfl ?_)
  show wpAny _ _ (tryCatch (pyNext (.ref I)) _ >>= _) _ _ s
  refine wpAny_bind (wpAny_tryCatch (W.item 0 s _ _ hn st fun v h1 tk pv st1 k1 => ?_))
  show wpAny _ _ (updateSeq S (fun _ => #[v, v]) >>= _) _ _ _
  refine wpAny_bind (refill (c.sub ow k1) (by simp) (by simp) fun h2 k2 c2 => ?_)
  have x2 : SubX (S :: wr) s.heap h2 := (SubX.mono k1 fun b z => List.mem_cons_of_mem _ z).trans (SubX.mono k2 fun b z => by rw [List.mem_singleton.mp z]; exact List.mem_cons_self)
  rw [hname]
  refine wpAny_pure ⟨plainId_quiet F.plain_max_loop _, max_rest W B hcmp (n - 1) 0 _ (by omega)
    ⟨W.frame _ _ _ st1 fun b hf o e => k2 b o (fun z => B.out (List.mem_singleton.mp z ▸ hf)) e, ⟨v, pv, c2⟩, B.keep hs x2⟩ fun v' h' tk' pv' x' => k v' h' tk' pv' (x2.trans x')⟩
end
section
variable {prog : Program} {w : World} {A : Around}
/-- max of a list -/
theorem pe_max {h : Heap} {x : Value} {vs : List Value} {bt : Nat → Nat → Bool} (hh : A.handled = none) (hx : ItOf h x vs) (hn : 0 < vs.length) (hcmp : CmpIn prog w A.in1 h .Gt (fun i v => vs[i]? = some v) bt) :
    PV prog w A h (call (.builtin "max") [x]) (fun v => vs[argBest bt (vs.length - 1)]? = some v) := by
  have hname : (toString "max" ++ toString ".loop" : String) = "max.loop" := by decide
  intro s Q E hs q
  have fresh : ∀ b, s.heap.objs.size ≤ b → h.get? b = none := fun b hb => hs.none (Heap.get?_none_of_le hb)
  refine call_function_tree F.kind_max F.plain_max F.entry_max (F.args_max1 _) ?_
  show wpAny _ _ (Builtin.Builtins.bindParams "max" ["key", "default"] 0 ⟨[], []⟩ >>= _) _ _ s
  refine wpAny_bind (wpAny_of_eq (show Builtin.Builtins.bindParams "max" ["key", "default"] 0 ⟨[], []⟩ = Pure.pure [none, none] from rfl) (wpAny_bind (wpAny_pure ?_)))
  refine wpAny_bind (iter_of (A := A.in1) hh (hx.up hs) fun fp St o W _ st old => wpAny_bind (wpAny_newObj_type ?_))
  rw [hname]
  have e1 : (s.heap.push o).objs.size = s.heap.objs.size + 1 := Heap.size_push ..
  have k0 : Sub s.heap ((s.heap.push o).push { cls := .type "list", data := .seq ([] : List Value).toArray }) := (Sub.push _ _).trans (Sub.push _ _)
  refine wpAny_pure ⟨plainId_quiet F.plain_max_loop _, max_whole (h₀ := h) (S := (s.heap.push o).objs.size) W
    ⟨fun z => Nat.lt_irrefl _ (old _ z), fresh _ (by rw [e1]; exact Nat.le_succ _), fun b z => by rw [List.mem_singleton.mp z]; exact fresh _ (Nat.le_refl _)⟩ hcmp hn
    (W.frame _ _ _ st fun b _ o' e => Heap.get?_push_of_some _ e) ⟨_, Heap.get?_push_size _ rfl⟩ (hs.trans k0) fun v h' tk pv x => ?_⟩
  refine q v h' tk (fun b ob e => x b ob (fun z => ?_) (k0 b ob e)) pv
  have lt := Heap.lt_size e
  rcases List.mem_cons.mp z with z | z
  · rw [z, e1] at lt; exact absurd (Nat.lt_of_succ_lt lt) (Nat.lt_irrefl _)
  · rw [List.mem_singleton.mp z] at lt; exact Nat.lt_irrefl _ lt
end
end Mine
end
section
open PySem PySem.W PyProof.Rows
set_option maxRecDepth 100000
namespace Mine
section
variable {prog : Program} {w : World} {A : Around} {h₀ : Heap} {env : Env} {m : Str → Option Value} {s : Shared}
theorem Fr.mv {h h' : Heap} {L a : Addr} {m : Str → Option Value} (F : Fr h₀ L h m) (k : SubX [a] h h') (hL : a ≠ L) (h0 : h₀.get? a = none) : Fr h₀ L h' m :=
  ⟨F.ns.at' fun o e => k L o (fun z => hL (List.mem_singleton.mp z).symm) e, fun b o e => k b o (fun z => by rw [List.mem_singleton.mp z, h0] at e; cases e) (F.keep b o e), F.above⟩
theorem for_core {α : Type} (hB : Heap) {x : Str} {px : Pos} {body : List Stmt} {I : Addr} {fp ms : List Addr} {St : Nat → Heap → Prop} {xs : List α} {V : α → Value → Prop} {J : Nat → (Str → Option Value) → Shared → Prop} {K : Shared → Prop} {R : Result → Shared → Prop}
    (W : Walks prog w A I fp [I] xs.length (fun i v => ∃ a, xs[i]? = some a ∧ V a v) St) (hst : St 0 s.heap) (F : Fr h₀ env.locals s.heap m) (hIL : I ≠ env.locals) (hI0 : h₀.get? I = none) (hfp : ∀ b ∈ fp, b ∉ ms) (hLfp : env.locals ∉ fp) (hlv : ∀ i h, St i h → h.get? I ≠ none) (hB0 : Live hB s.heap)
    (h0 : J 0 m s)
    (hJ : ∀ i m (s' : Shared) h' tk a, a = I ∨ a = env.locals → J i m s' → SubX [a] s'.heap h' → J i m { s' with heap := h', toks := tk })
    (step : ∀ i a v m' (s' : Shared) (E' : Value → Shared → Prop), xs[i]? = some a → V a v → Fr h₀ env.locals s'.heap (upd m' x v) → Live hB s'.heap → J i m' s' →
      wpAny (model prog w) A (execs body env) (fun f s₃ => match f with
        | .next | .cont => ∃ m₃, Fr h₀ env.locals s₃.heap m₃ ∧ J (i + 1) m₃ s₃ ∧ SubX ms s'.heap s₃.heap ∧ ∀ b ∈ ms, s₃.heap.get? b ≠ none
        | .brk => K s₃
        | .ret v => R (.ok (.ret v)) s₃) E' s')
    (fin : ∀ m' (s' : Shared), Fr h₀ env.locals s'.heap m' → J xs.length m' s' → K s')
    (hR : ∀ s', K s' → R (.ok .next) s')
    (hk : env.scope.kind = .function := by rfl) (hx : env.kindOf x = some .local := by rfl) :
    codeAny (model prog w) A (.forLoop (.Name x px) (.ref I) body [] env) R s := by
  refine codeAny_forLoop_any (fun k s' => ∃ i m', St i s'.heap ∧ Fr h₀ env.locals s'.heap m' ∧ J i m' s' ∧ Live hB s'.heap ∧ i ≤ xs.length ∧ k = xs.length + 1 - i) ?_ (xs.length + 1) ⟨0, m, hst, F, h0, hB0, Nat.zero_le _, rfl⟩
  rintro k s' ⟨i, m', hst', F', hJ', hL', hi, rfl⟩
  by_cases hlt : i < xs.length
  · refine W.item i _ _ _ hlt hst' fun v h₁ tk₁ ⟨a, hxa, hVa⟩ hst₁ hk₁ => ?_
    have X1 : SubX [I] s'.heap h₁ := fun c o hc e => hk₁ c o hc e
    have F1 := Fr.mv F' X1 hIL hI0
    refine wpAny_pure (wpAny_assign_Name (wpAny_storeName_local hx F1.ns (fun h₂ hn₂ hs₂ => ?_) (by rw [hk]; rfl)))
    have F2 : Fr h₀ env.locals h₂ (upd m' x v) := F1.set hn₂ hs₂
    have J1 := hJ i m' s' h₁ tk₁ I (.inl rfl) hJ' X1
    have J2 := hJ i m' _ h₂ (tk₁ + 1) env.locals (.inr rfl) J1 (SubX.ofSame hs₂)
    have hst₂ : St (i + 1) h₂ := W.frame _ _ _ hst₁ fun b hb o e => hs₂.extBut b o (fun z => hLfp (z ▸ hb)) e
    have L2 : Live hB h₂ := fun c hc => by
      by_cases hcI : c = I
      · rw [hcI]; exact hlv _ _ hst₂
      · by_cases hcL : c = env.locals
        · rw [hcL]; exact ns_live hn₂
        · cases e : s'.heap.get? c with
          | none => exact absurd e (hL' c hc)
          | some o => exact live_of (hs₂.extBut c o hcL (X1 c o (fun hm => hcI (List.mem_singleton.mp hm)) e))
    refine wpAny_mono (step i a v m' { s' with heap := h₂, toks := tk₁ + 1 } _ hxa hVa F2 L2 J2) (fun f s₃ h₃ => ?_) fun _ _ e => e
    have nx : (∃ m₃, Fr h₀ env.locals s₃.heap m₃ ∧ J (i + 1) m₃ s₃ ∧ SubX ms h₂ s₃.heap ∧ ∀ b ∈ ms, s₃.heap.get? b ≠ none) → ∃ m, m < xs.length + 1 - i ∧ ∃ i m', St i s₃.heap ∧ Fr h₀ env.locals s₃.heap m' ∧ J i m' s₃ ∧ Live hB s₃.heap ∧ i ≤ xs.length ∧ m = xs.length + 1 - i := by
      rintro ⟨m₃, F3, J3, X3, lv3⟩
      refine ⟨xs.length + 1 - (i + 1), by omega, i + 1, m₃, W.frame _ _ _ hst₂ fun b hb o e => X3 b o (hfp b hb) e, F3, J3, fun c hc => ?_, hlt, rfl⟩
      by_cases hcm : c ∈ ms
      · exact lv3 c hcm
      · cases e : h₂.get? c with
        | none => exact absurd e (L2 c hc)
        | some o => exact live_of (X3 c o hcm e)
    cases f with
    | next => exact nx h₃
    | cont => exact nx h₃
    | brk => exact hR _ h₃
    | ret v => exact h₃
  · have hin : i = xs.length := by omega
    subst hin
    refine W.done _ _ _ hst' fun h₁ tk₁ hk₁ => ?_
    have X1 : SubX [I] s'.heap h₁ := fun c o hc e => hk₁ c o hc e
    exact wpAny_pure (hR _ (fin m' _ (Fr.mv F' X1 hIL hI0) (hJ _ m' s' h₁ tk₁ I (.inl rfl) hJ' X1)))

/-- an iterator over a list or a tuple, with its footprint -/
theorem iter_at {E : Value → Shared → Prop} {ax : Addr} {vs : List Value} {Q : Value → Shared → Prop} (hh : A.handled = none) (hv : ItOf s.heap (.ref ax) vs)
    (q : ∀ (St : Nat → Heap → Prop) (o : Obj), Walks prog w A s.heap.objs.size [s.heap.objs.size, ax] [s.heap.objs.size] vs.length (fun i v => vs[i]? = some v) St → St 0 (s.heap.push o) → (∀ i h, St i h → h.get? s.heap.objs.size ≠ none) → Q (.ref s.heap.objs.size) { s with heap := s.heap.push o }) :
    wpAny (model prog w) A (pyIter (.ref ax)) Q E s := by
  obtain ⟨a, ea, hl | hl⟩ := hv
  · cases ea
    have hlt : ax < s.heap.objs.size := let ⟨o, ho, _⟩ := hl; Heap.lt_size ho
    refine wpAny_pyIter_list hl ?_
    have W := Walks.list (prog := prog) (w := w) (A := A) hh s.heap.objs.size ax (Nat.ne_of_lt hlt) vs.toArray
    exact q (fun i h => h.IsListIter s.heap.objs.size ax i ∧ h.IsList ax vs.toArray) _ (by simpa using W) ⟨⟨_, Heap.get?_push_size _ rfl, rfl, rfl⟩, hl.push _⟩ (fun i h st => let ⟨⟨o, ho, _⟩, _⟩ := st; live_of ho)
  · cases ea
    have hlt : ax < s.heap.objs.size := let ⟨o, ho, _⟩ := hl; Heap.lt_size ho
    refine wpAny_pyIter_tuple hl ?_
    have W := Walks.tuple (prog := prog) (w := w) (A := A) hh s.heap.objs.size ax (Nat.ne_of_lt hlt) vs.toArray
    exact q (fun i h => h.IsTupleIter s.heap.objs.size ax i ∧ h.IsTuple ax vs.toArray) _ (by simpa using W) ⟨⟨_, Heap.get?_push_size _ rfl, rfl, rfl⟩, let ⟨o, ho, r⟩ := hl; ⟨o, Heap.get?_push_of_some _ ho, r⟩⟩ (fun i h st => let ⟨⟨o, ho, _⟩, _⟩ := st; live_of ho)
theorem Walks.as {I : Addr} {fp wr : List Addr} {n n' : Nat} {P P' : Nat → Value → Prop} {St : Nat → Heap → Prop} (W : Walks prog w A I fp wr n P St) (e : n = n') (k : ∀ i v, i < n' → P i v → P' i v) : Walks prog w A I fp wr n' P' St where
  sub := W.sub
  frame := W.frame
  item := fun i s Q E hi hst hQ => W.item i s Q E (e ▸ hi) hst fun v h' tk hp hs hk => hQ v h' tk (k i v hi hp) hs hk
  done := fun s Q E hst hQ => W.done s Q E (e ▸ hst) hQ
  self := W.self
theorem ItOf.ne_ns {h : Heap} {a L : Addr} {vs : List Value} {m : Str → Option Value} (x : ItOf h (.ref a) vs) (n : h.Ns L m) : L ≠ a := by
  rintro rfl
  obtain ⟨o, es, ep, ho, hd, _⟩ := n
  obtain ⟨b, eb, ⟨o', ho', _, c, hd'⟩ | ⟨o', ho', _, c, hd'⟩⟩ := x
  · cases eb; rw [ho] at ho'; cases ho'; rw [hd] at hd'; cases hd'
  · cases eb; rw [ho] at ho'; cases ho'; rw [hd] at hd'; cases hd'
variable {Q : Flow → Shared → Prop} {E : Value → Shared → Prop} {rest : List Stmt}
/-- for x in a list or a tuple -/
theorem st_for_list {α : Type} {x : Str} {px pos : Pos} {iter : Expr} {body : List Stmt} {ax : Addr} {ms : List Addr} {vs : List Value} {xs : List α} {V : α → Value → Prop} (J : Heap → Nat → (Str → Option Value) → Shared → Prop)
    (hh : A.handled = none) (F : Fr h₀ env.locals s.heap m) (hit : PV prog w A s.heap (eval iter env) (· = .ref ax)) (hv : ItOf s.heap (.ref ax) vs) (hV : Paired V xs vs) (hax : ax ∉ ms) (hms : ∀ b ∈ ms, s.heap.get? b ≠ none)
    (h0 : ∀ hB tk, Sub s.heap hB → J hB 0 m { s with heap := hB, toks := tk })
    (hJ : ∀ hB i m (s' : Shared) h' tk a, Sub s.heap hB → hB.get? a ≠ none → (s.heap.get? a = none ∨ a = env.locals) → J hB i m s' → SubX [a] s'.heap h' → J hB i m { s' with heap := h', toks := tk })
    (step : ∀ hB i a v m' (s' : Shared) (E' : Value → Shared → Prop), Sub s.heap hB → xs[i]? = some a → V a v → Fr h₀ env.locals s'.heap (upd m' x v) → Live hB s'.heap → J hB i m' s' →
      wpAny (model prog w) A (execs body env) (fun f s₃ => match f with
        | .next | .cont => ∃ m₃, Fr h₀ env.locals s₃.heap m₃ ∧ J hB (i + 1) m₃ s₃ ∧ SubX ms s'.heap s₃.heap ∧ ∀ b ∈ ms, s₃.heap.get? b ≠ none
        | .brk => wpAny (model prog w) A (execs rest env) Q E s₃
        | .ret v => Q (.ret v) s₃) E' s')
    (fin : ∀ hB m' (s' : Shared), Sub s.heap hB → Fr h₀ env.locals s'.heap m' → J hB xs.length m' s' → wpAny (model prog w) A (execs rest env) Q E s')
    (hk : env.scope.kind = .function := by rfl) (hx : env.kindOf x = some .local := by rfl) (hsf : ∀ x, foldedSetIterable iter env x = Pure.pure x := by intro _; rfl) :
    wpAny (model prog w) A (execs (.For (.Name x px) iter body [] pos :: rest) env) Q E s := by
  refine wpAny_execs_cons (wpAny_For (hit s _ E Sub.rfl fun v h1 t1 k1 hv1 => ?_) hsf)
  subst hv1
  refine iter_at hh (hv.up k1) fun St o W hst hlv => ?_
  have kB : Sub s.heap (h1.push o) := k1.trans (Sub.push _ _)
  have n1 : s.heap.get? h1.objs.size = none := k1.none (get_none_size h1)
  have lvL : s.heap.get? env.locals ≠ none := ns_live F.ns
  have hIL : h1.objs.size ≠ env.locals := fun z => lvL (z ▸ n1)
  refine for_core (h1.push o) (m := m) (xs := xs) (V := V) (J := J (h1.push o)) (K := fun s' => wpAny (model prog w) A (execs rest env) Q E s') (ms := ms) (h₀ := h₀) (Walks.as W hV.length.symm fun i v _ e => Paired.get hV e) hst (fr_up F kB) hIL ((fr_sub F).none n1) (fun b hb => ?_) (fun hb => ?_) hlv (fun _ h => h)
    (h0 _ _ kB) (fun i m s' h' tk a ha j X => hJ _ i m s' h' tk a kB ?_ ?_ j X) (fun i a v m' s' E' hxa hva F' lv j => ?_) (fun m' s' F' j => fin _ m' s' kB F' j) (fun s' k => k) hk hx
  · rcases List.mem_cons.mp hb with zz | hb
    · rw [zz]; exact fun hm => hms _ hm n1
    · rw [List.mem_singleton.mp hb]; exact hax
  · rcases List.mem_cons.mp hb with z | hb
    · exact hIL z.symm
    · exact hv.ne_ns F.ns (List.mem_singleton.mp hb)
  · rcases ha with zz | zz
    · rw [zz]; exact hlv _ _ hst
    · rw [zz]; exact Live.ofSub kB _ lvL
  · rcases ha with zz | zz
    · rw [zz]; exact .inl n1
    · rw [zz]; exact .inr rfl
  · refine wpAny_mono (step _ i a v m' s' E' kB hxa hva F' lv j) (fun f s₃ h₃ => ?_) fun _ _ e => e
    cases f <;> exact h₃
end
end Mine
end
section
open PySem PySem.W PyProof.Rows
set_option maxRecDepth 100000
namespace Mine
section
variable {prog : Program} {w : World} {A : Around} {h₀ : Heap} {env : Env} {m : Str → Option Value} {s : Shared}
theorem Fr.mvs {h h' : Heap} {L : Addr} {ms : List Addr} {m : Str → Option Value} (F : Fr h₀ L h m) (k : SubX ms h h') (hL : L ∉ ms) (h0 : ∀ a ∈ ms, h₀.get? a = none) : Fr h₀ L h' m :=
  ⟨F.ns.at' fun o e => k L o hL e, fun b o e => k b o (fun z => by rw [h0 b z] at e; cases e) (F.keep b o e), F.above⟩
/-- a loop over pairs -/
theorem for_core2 {x y : Str} {px py tp : Pos} {k0 : Nat} {body : List Stmt} {I : Addr} {fp wr ms : List Addr} {n : Nat} {Pt : Nat → Array Value → Prop} {Mid : Nat → Addr → Heap → Prop} {St : Nat → Heap → Prop} {V : Nat → Value → Value → Prop} {J : Nat → (Str → Option Value) → Shared → Prop} {K : Shared → Prop} {R : Result → Shared → Prop}
    (hh : A.handled = none) (W : WalksT prog w A I fp wr n Pt St Mid) (hPt : ∀ i vals, Pt i vals → ∃ u z, vals = #[u, z] ∧ V i u z) (hst : St 0 s.heap) (F : Fr h₀ env.locals s.heap m) (hLw : env.locals ∉ wr) (hw0 : ∀ a ∈ wr, h₀.get? a = none) (hfp : ∀ b ∈ fp, b ∉ ms) (hLfp : env.locals ∉ fp)
    (h0 : J 0 m s)
    (hJ : ∀ i m (s' : Shared) h' tk ms', (∀ a ∈ ms', a ∈ wr ∨ a = env.locals) → J i m s' → SubX ms' s'.heap h' → J i m { s' with heap := h', toks := tk })
    (step : ∀ i u z m' (s' : Shared) (E' : Value → Shared → Prop), i < n → V i u z → Fr h₀ env.locals s'.heap (upd (upd m' x u) y z) → J i m' s' →
      wpAny (model prog w) A (execs body env) (fun f s₃ => match f with
        | .next | .cont => ∃ m₃, Fr h₀ env.locals s₃.heap m₃ ∧ J (i + 1) m₃ s₃ ∧ SubX ms s'.heap s₃.heap
        | .brk => K s₃
        | .ret v => R (.ok (.ret v)) s₃) E' s')
    (fin : ∀ m' (s' : Shared), Fr h₀ env.locals s'.heap m' → J n m' s' → K s')
    (hR : ∀ s', K s' → R (.ok .next) s')
    (hk : env.scope.kind = .function := by rfl) (hx : env.kindOf x = some .local := by rfl) (hy : env.kindOf y = some .local := by rfl) :
    codeAny (model prog w) A (.forLoop (.Tuple [.Name x px, .Name y py] k0 tp) (.ref I) body [] env) R s := by
  refine codeAny_forLoop_any (fun k s' => ∃ i m', St i s'.heap ∧ Fr h₀ env.locals s'.heap m' ∧ J i m' s' ∧ i ≤ n ∧ k = n + 1 - i) ?_ (n + 1) ⟨0, m, hst, F, h0, Nat.zero_le _, rfl⟩
  rintro k s' ⟨i, m', hst', F', hJ', hi, rfl⟩
  by_cases hlt : i < n
  · refine W.item i _ _ _ hlt hst' fun T vals h₁ tk₁ hPv hTn hT hmid hk₁ => ?_
    obtain ⟨u, z, rfl, hV⟩ := hPt i vals hPv
    have X1 : SubX wr s'.heap h₁ := fun c o hc e => hk₁ c o hc e
    refine W.go _ k0 tp i T _ _ _ hmid fun h₂ hst₂ hk₂ => ?_
    have X2 : SubX wr h₁ h₂ := fun c o hc e => hk₂ c o hc e
    have hT2 : h₂.IsTuple T #[u, z] := let ⟨o, ho, r⟩ := hT; ⟨o, hk₂ T o (W.apart i T _ hmid) ho, r⟩
    refine wpAny_assign_Tuple (items := #[u, z]) hh hT2 rfl rfl fun h₃ x₃ => ?_
    have k3 : Sub h₂ h₃ := Sub.ofExt x₃
    have X13 : SubX wr s'.heap h₃ := (X1.trans X2).trans k3.toX
    have F3 := Fr.mvs F' X13 hLw hw0
    show wpAny _ _ (do holding [z] (assign (.Name x px) env u); do holding [] (assign (.Name y py) env z); pure ()) _ _ _
    refine wpAny_bind (wpAny_holding (wpAny_assign_Name (st_store F3 (fun h₄ t₄ F₄ k₄ => ?_) hk hx)))
    refine wpAny_bind (wpAny_holding (wpAny_assign_Name (st_store F₄ (fun h₅ t₅ F₅ k₅ => wpAny_pure ?_) hk hy)))
    have J3 := hJ i m' s' h₃ tk₁ wr (fun a ha => .inl ha) hJ' X13
    have J5 := hJ i m' _ h₅ t₅ [env.locals] (fun a ha => .inr (List.mem_singleton.mp ha)) J3 (k₄.trans k₅)
    have hst₅ : St (i + 1) h₅ := W.frame _ _ _ hst₂ fun b hb o e => (k₄.trans k₅) b o (fun z => hLfp (List.mem_singleton.mp z ▸ hb)) (k3 b o e)
    refine wpAny_mono (step i u z m' { s' with heap := h₅, toks := t₅ } _ hlt hV F₅ J5) (fun f s₃ h₃ => ?_) fun _ _ e => e
    have nx : (∃ m₃, Fr h₀ env.locals s₃.heap m₃ ∧ J (i + 1) m₃ s₃ ∧ SubX ms h₅ s₃.heap) → ∃ m, m < n + 1 - i ∧ ∃ i m', St i s₃.heap ∧ Fr h₀ env.locals s₃.heap m' ∧ J i m' s₃ ∧ i ≤ n ∧ m = n + 1 - i := by
      rintro ⟨m₃, F3, J3, X3⟩
      exact ⟨n + 1 - (i + 1), by omega, i + 1, m₃, W.frame _ _ _ hst₅ fun b hb o e => X3 b o (hfp b hb) e, F3, J3, hlt, rfl⟩
    cases f with
    | next => exact nx h₃
    | cont => exact nx h₃
    | brk => exact hR _ h₃
    | ret v => exact h₃
  · have hin : i = n := by omega
    subst hin
    refine W.done _ _ _ hst' fun h₁ tk₁ hk₁ => ?_
    have X1 : SubX wr s'.heap h₁ := fun c o hc e => hk₁ c o hc e
    exact wpAny_pure (hR _ (fin m' _ (Fr.mvs F' X1 hLw hw0) (hJ _ m' s' h₁ tk₁ wr (fun a ha => .inl ha) hJ' X1)))

variable {Q : Flow → Shared → Prop} {E : Value → Shared → Prop} {rest : List Stmt}
theorem gl_enum (P : Params) : nsIn (hd.heap_39 P) mainGlobals "enumerate" = some none := by kernel_rfl
theorem bo_enum : bootBuiltins "enumerate" = some (.type "enumerate") := by kernel_rfl
/-- for x, y in enumerate(a list) -/
theorem st_for_enum {x y : Str} {px py tp pos p1 p2 : Pos} {k0 : Nat} {e : Expr} {body : List Stmt} {ax : Addr} {ms : List Addr} {vs : List Value} (J : Heap → Nat → (Str → Option Value) → Shared → Prop)
    (hh : A.handled = none) (G : G0 w s.heap) (F : Fr h₀ env.locals s.heap m) (hit : PV prog w A s.heap (eval e env) (· = .ref ax)) (hv : s.heap.IsList ax vs.toArray) (hax : ax ∉ ms) (hms : ∀ b ∈ ms, s.heap.get? b ≠ none)
    (h0 : ∀ hB tk, Sub s.heap hB → J hB 0 m { s with heap := hB, toks := tk })
    (hJ : ∀ hB i m (s' : Shared) h' tk ms', Sub s.heap hB → (∀ a ∈ ms', hB.get? a ≠ none ∧ (s.heap.get? a = none ∨ a = env.locals)) → J hB i m s' → SubX ms' s'.heap h' → J hB i m { s' with heap := h', toks := tk })
    (step : ∀ hB (i : Nat) u z m' (s' : Shared) (E' : Value → Shared → Prop), Sub s.heap hB → IsI i u → vs[i]? = some z → Fr h₀ env.locals s'.heap (upd (upd m' x u) y z) → J hB i m' s' →
      wpAny (model prog w) A (execs body env) (fun f s₃ => match f with
        | .next | .cont => ∃ m₃, Fr h₀ env.locals s₃.heap m₃ ∧ J hB (i + 1) m₃ s₃ ∧ SubX ms s'.heap s₃.heap
        | .brk => wpAny (model prog w) A (execs rest env) Q E s₃
        | .ret v => Q (.ret v) s₃) E' s')
    (fin : ∀ hB m' (s' : Shared), Sub s.heap hB → Fr h₀ env.locals s'.heap m' → J hB vs.length m' s' → wpAny (model prog w) A (execs rest env) Q E s')
    (hk : env.scope.kind = .function := by rfl) (hx : env.kindOf x = some .local := by rfl) (hy : env.kindOf y = some .local := by rfl) (hg : env.globals = mainGlobals := by rfl) (hb : env.builtins = builtinsNs := by rfl) (he : env.kindOf "enumerate" = some .globalImplicit := by rfl)
    (hs : starEach [e] env = (false, eval e env) :: starEach [] env := by rfl) (hsf : ∀ x, foldedSetIterable (.Call (.Name "enumerate" p1) [e] [] p2) env x = Pure.pure x := by intro _; rfl) :
    wpAny (model prog w) A (execs (.For (.Tuple [.Name x px, .Name y py] k0 tp) (.Call (.Name "enumerate" p1) [e] [] p2) body [] pos :: rest) env) Q E s := by
  refine wpAny_execs_cons (wpAny_For (wpAny_Call_Name_kw ((PV.boot G (gl_enum _) bo_enum (by decide) hg hb hk he) s _ E Sub.rfl fun fv h1 t1 k1 hfv => ?_)) hsf)
  subst hfv
  refine PyProof.Rows.callWith_type1 (wpAny_items_cons ((hit.up k1) _ _ E Sub.rfl fun v h2 t2 k2 hv2 => wpAny_items_nil ?_) hs) hs rfl
  subst hv2
  have k02 := k1.trans k2
  have hL2 : h2.IsList ax vs.toArray := (hv.at fun o e => k02 _ o e)
  refine call_enumerate_list (s := { s with heap := h2, toks := t2 }) hL2 fun h3 he3 hit3 hsz3 hk3 => ?_
  refine wpAny_pyIter_enum he3 ?_
  have k03 : Sub s.heap h3 := k02.trans hk3
  have hlt : ax < h2.objs.size := let ⟨o, ho, _⟩ := hL2; Heap.lt_size ho
  have n0 : ∀ a, h2.objs.size ≤ a → s.heap.get? a = none := fun a ha => k02.none (Heap.get?_none_of_le ha)
  have lvL : s.heap.get? env.locals ≠ none := ns_live F.ns
  have L1 : env.locals ≠ h2.objs.size := fun z => lvL (by rw [z]; exact n0 _ (Nat.le_refl _))
  have L2 : env.locals ≠ h2.objs.size + 1 := fun z => lvL (by rw [z]; exact n0 _ (Nat.le_succ _))
  have L3 : env.locals ≠ ax := ItOf.ne_ns (vs := vs) ⟨ax, rfl, .inl hv⟩ F.ns
  have W := WalksT.enumerate (prog := prog) (w := w) (A := A) hh (h2.objs.size + 1) h2.objs.size ax (Nat.succ_ne_self _) (Nat.ne_of_lt (Nat.lt_succ_of_lt hlt)) (Nat.ne_of_lt hlt) vs.toArray
  have hsz : vs.toArray.size = vs.length := by simp
  have wr0 : ∀ a ∈ [h2.objs.size + 1, h2.objs.size], s.heap.get? a = none := fun a ha => by
    rcases List.mem_cons.mp ha with zz | ha
    · rw [zz]; exact n0 _ (Nat.le_succ _)
    · rw [List.mem_singleton.mp ha]; exact n0 _ (Nat.le_refl _)
  refine for_core2 (m := m) (J := J h3) (K := fun s' => wpAny (model prog w) A (execs rest env) Q E s') (ms := ms) (h₀ := h₀) (V := fun i u z => IsI i u ∧ vs[i]? = some z) hh W (fun i vals ⟨t, x, hxi, ev⟩ => ⟨_, x, ev, ⟨t, rfl⟩, by simpa using hxi⟩) ⟨⟨_, he3⟩, hit3, (hL2.at fun o e => hk3 _ o e)⟩ (fr_up F k03)
    (fun hm => ?_) (fun a ha => (fr_sub F).none (wr0 a ha)) (fun b hb hm => ?_) (fun hm => ?_) (h0 _ _ k03) (fun i m s' h' tk ms' hms' j X => hJ _ i m s' h' tk ms' k03 (fun a ha => ?_) j X) (fun i u z m' s' E' hi hV F' j => ?_) (fun m' s' F' j => fin _ m' s' k03 F' (hsz ▸ j)) (fun s' k => k) hk hx hy
  · rcases List.mem_cons.mp hm with z | hm
    · exact L2 z
    · exact L1 (List.mem_singleton.mp hm)
  · simp only [List.mem_cons, List.mem_nil_iff, or_false] at hb
    rcases hb with zz | zz | zz
    · rw [zz] at hm; exact hms _ hm (n0 _ (Nat.le_succ _))
    · rw [zz] at hm; exact hms _ hm (n0 _ (Nat.le_refl _))
    · rw [zz] at hm; exact hax hm
  · simp only [List.mem_cons, List.mem_nil_iff, or_false] at hm
    rcases hm with z | z | z
    · exact L2 z
    · exact L1 z
    · exact L3 z
  · rcases hms' a ha with h | rfl
    · refine ⟨?_, .inl (wr0 a h)⟩
      rcases List.mem_cons.mp h with zz | h
      · rw [zz]; exact live_of he3
      · rw [List.mem_singleton.mp h]; obtain ⟨o, ho, _⟩ := hit3; exact live_of ho
    · exact ⟨Live.ofSub k03 _ lvL, .inr rfl⟩
  · refine wpAny_mono (step _ i u z m' s' E' k03 hV.1 hV.2 F' j) (fun f s₃ h₃ => ?_) fun _ _ e => e
    cases f <;> exact h₃
end
end Mine
end
section
open PySem PySem.W PyProof.Rows
open PySem.Builtin PySem.Builtin.Str
set_option maxRecDepth 100000
namespace Mine
noncomputable def toL (x : Str) : List Nat := x.cps.toList
theorem S_toL (x : Str) : S (toL x) = x := (S_of x).symm
/-- the parts between slashes -/
noncomputable def splitL (x : List Nat) : List (List Nat) := (Txt.split (S x) (S [47])).map toL
theorem splitL_S (x : List Nat) : (splitL x).map S = Txt.split (S x) (S [47]) := by
  unfold splitL
  rw [List.map_map]
  have : (S ∘ toL) = _root_.id := funext S_toL
  rw [this, List.map_id]
theorem strs_of {l : List (Str × Tok)} {xs : List (List Nat)} (e : l.map (·.1) = xs.map S) : Strs (strValues l) xs := by
  induction l generalizing xs with
  | nil => cases xs with
    | nil => trivial
    | cons => cases e
  | cons p r ih => cases xs with
    | nil => cases e
    | cons x xs =>
      simp only [List.map_cons, List.cons.injEq] at e
      exact ⟨⟨p.2, by rw [← e.1]⟩, ih e.2⟩
/-- a list of texts that is not in a -/
noncomputable def NewLI (a h : Heap) (v : Value) (xs : List (List Nat)) : Prop := ∃ T vs, v = .ref T ∧ a.get? T = none ∧ h.IsList T vs.toArray ∧ Strs vs xs
theorem NewLI.res (xs : List (List Nat)) : Res fun a h v => NewLI a h v xs where
  base := fun {a b h v} l ⟨T, vs, e, n, il, ss⟩ => ⟨T, vs, e, (by cases q : a.get? T with | none => rfl | some o => exact absurd n (l T (by rw [q]; simp))), il, ss⟩
  keep := fun {a h h' v ms} l k ⟨T, vs, e, n, il, ss⟩ => ⟨T, vs, e, n, let ⟨o, ho, r⟩ := il; ⟨o, k T o (fun hm => l T hm n) ho, r⟩, ss⟩
noncomputable def NewLS (a h : Heap) (v : Value) (xs : List (List Nat)) : Prop := ∃ T, v = .ref T ∧ a.get? T = none ∧ LS h T xs
theorem NewLS.res (xs : List (List Nat)) : Res fun a h v => NewLS a h v xs where
  base := fun {a b h v} l ⟨T, e, n, ls⟩ => ⟨T, e, (by cases q : a.get? T with | none => rfl | some o => exact absurd n (l T (by rw [q]; simp))), ls⟩
  keep := fun {a h h' v ms} l k ⟨T, e, n, ls⟩ => ⟨T, e, n, ls.upX k (fun hm => l T hm n)⟩
section
variable {prog : Program} {w : World} {A : Around} {h : Heap} {env : Env} {o e : Expr} {apos pos p : Pos}
theorem pe_split {x : List Nat} (ho : PV prog w A h (eval o env) (IsS (S x))) (he : PV prog w A h (eval e env) (IsS (S [47]))) (hx : x.length ≤ 100000)
    (hbase : attributeBase o "split" env (eval o env) = eval o env := by rfl) (hs : starEach [e] env = [(false, eval e env)] := by rfl) (hline : (apos.endLine == pos.line) = true := by rfl) :
    PE prog w A h (eval (.Call (.Attribute o "split" apos) [e] [] pos) env) (fun v h' => NewLI h h' v (splitL x)) := by
  intro s Q E hss q
  refine Call_method1 hbase hs hline (ho s _ E hss fun v h1 t1 k1 hv => ?_)
  obtain ⟨t, rfl⟩ := hv
  have hxl : (S x).length ≤ 100000 := by rw [S_len]; exact hx
  have hn : (partsBetween (S x) (occurrences (S x) (S [47]) 0 (S x).length ((S x).length + 1)) (S [47]).length).length ≤ sizeLine := by
    have e1 := StrLaws.occ_length_le (S x) (S [47]) 0 (S x).length ((S x).length + 1)
    rw [length_partsBetween, szL]; omega
  have hy : ((S [47]).length == 0) = false := by decide
  have fin : ∀ (hh : Heap) (tk : Nat) (l : List (Str × Tok)), Sub s.heap hh → l.map (·.1) = Txt.split (S x) (S [47]) → Q (.ref hh.objs.size) { s with heap := hh.push { cls := .type "list", data := .seq (strValues l).toArray }, toks := tk } := fun hh tk l kk el =>
    q _ _ tk (kk.trans (Sub.push _ _)) ⟨_, strValues l, rfl, (hss.trans kk).none (get_none_size hh), ⟨_, Heap.get?_push_size _ rfl, rfl, _, rfl⟩, strs_of (el.trans (splitL_S x).symm)⟩
  refine ⟨"str", _, F.plainAttrs_str, F.slot_str_split, F.type_str_split, typeIs_str _ _ _, (fun _ e => nomatch e),
    method1_meets F.slot_str_split F.entry_str_split (he _ _ E (hss.trans k1) fun u h2 t2 k2 hu => ?_)⟩
  obtain ⟨u', rfl⟩ := hu
  refine ⟨typeIs_str _ _ _, F.args_str_split_2 _ _, ?_⟩
  cases h1' : (decide ((S x).length < (S [47]).length) || decide (strKind (S x) < strKind (S [47])))
  · cases hf : (occurrences (S x) (S [47]) 0 (S x).length ((S x).length + 1)).isEmpty
    · refine ⟨_, meets_str_split_sep (S x) (S [47]) t u' h1' hy hf (by rw [szL]; omega) hn, ?_⟩
      show wants Q E _ { s with toks := _, heap := h2.push { cls := .type "list", data := .seq (strsFrom t2 (partsBetween (S x) (occurrences (S x) (S [47]) 0 (S x).length ((S x).length + 1)) (S [47]).length)).toArray } }
      rw [strsFrom_eq]
      exact fin h2 _ _ (k1.trans k2) ((numbered_texts _ _).trans ((if_neg (ne_true_of_eq_false h1')).trans (if_neg (ne_true_of_eq_false hf))).symm)
    · exact ⟨_, meets_str_split_not_found (S x) (S [47]) t u' h1' hy hf, fin h2 _ [(S x, t)] (k1.trans k2) ((if_neg (ne_true_of_eq_false h1')).trans (if_pos hf)).symm⟩
  · exact ⟨_, meets_str_split_cannot_occur (S x) (S [47]) t u' h1', fin h2 _ [(S x, t)] (k1.trans k2) (if_pos h1').symm⟩
theorem pv_item {l : Addr} {vs : List Value} {k : Int} {x : Value} (ho : PV prog w A h (eval o env) (· = .ref l)) (hl : h.IsList l vs.toArray) (hi : PV prog w A h (eval e env) (IsI k)) (h0 : 0 ≤ k) (hk : k < 2 ^ 63) (hx : vs[k.toNat]? = some x)
    (hs : ∀ u, subscripted e false (.ref l) (.int k u) = operate [.ref l, .int k u] (getItem (.ref l) (.int k u)) := by intro _; with_unfolding_all rfl) (hg : ∀ r, letTemporaryGo o (.ref l) r = Pure.pure () := by intro _; with_unfolding_all rfl) :
    PV prog w A h (eval (.Subscript o e pos) env) (· = x) := by
  intro s Q E hss q
  refine Subscript_ (ho s _ E hss fun v h1 t1 k1 hv => hi _ _ E (hss.trans k1) fun u h2 t2 k2 hu => ?_)
  subst hv
  obtain ⟨t, rfl⟩ := hu
  exact item_listL ((hl.at fun o e => ((hss.trans k1).trans k2) _ o e)) h0 hk hx (q _ h2 t2 (k1.trans k2) rfl) (hs t) hg
theorem pv_itemT {l : Addr} {vs : List Value} {k : Int} {x : Value} (ho : PV prog w A h (eval o env) (· = .ref l)) (hl : h.IsTuple l vs.toArray) (hi : PV prog w A h (eval e env) (IsI k)) (h0 : 0 ≤ k) (hk : k < 2 ^ 63) (hx : vs[k.toNat]? = some x)
    (hs : ∀ u, subscripted e false (.ref l) (.int k u) = operate [.ref l, .int k u] (getItem (.ref l) (.int k u)) := by intro _; with_unfolding_all rfl) (hg : ∀ r, letTemporaryGo o (.ref l) r = Pure.pure () := by intro _; with_unfolding_all rfl) :
    PV prog w A h (eval (.Subscript o e pos) env) (· = x) := by
  intro s Q E hss q
  refine Subscript_ (ho s _ E hss fun v h1 t1 k1 hv => hi _ _ E (hss.trans k1) fun u h2 t2 k2 hu => ?_)
  subst hv
  obtain ⟨t, rfl⟩ := hu
  have hlt : k.toNat < vs.length := (List.getElem?_eq_some_iff.mp hx).1
  exact item_tupleL (j := k.toNat) ((hl.at fun o e => ((hss.trans k1).trans k2) _ o e)) (by omega) hk (by unfold seqIndex?; simp; omega) hx (q _ h2 t2 (k1.trans k2) rfl) (hs t) hg
end
end Mine
end
section
open PySem PySem.W PyProof.Rows
set_option maxRecDepth 100000
namespace Mine
/-- texts with slashes between -/
noncomputable def joinL : List (List Nat) → List Nat
  | [] => []
  | [x] => x
  | x :: y :: r => x ++ 47 :: joinL (y :: r)
theorem S_join : ∀ cs : List (List Nat), Txt.join (S [47]) (cs.map S) = S (joinL cs) := by
  intro cs
  show Builtin.Str.glued _ _ = _
  rw [StrLaws.glued_eq_join]
  induction cs with
  | nil => exact lit_nil
  | cons x r ih =>
    cases r with
    | nil => rfl
    | cons y r =>
      show S x ++ S [47] ++ Str.join (S [47]) ((y :: r).map S) = _
      rw [ih, S_cat, S_cat]
      simp [joinL]
noncomputable def weight (cs : List (List Nat)) : Nat := (cs.map List.length).sum + cs.length
theorem weight_split (x : List Nat) : weight (splitL x) ≤ x.length + 1 := by
  have h := split_weight (S x) (S [47]) (Nat.le_refl 1)
  rw [← splitL_S, List.map_map, List.length_map, S_len] at h
  have e : (Str.length ∘ S) = List.length := funext fun l => S_len l
  rw [e] at h; exact h
theorem weight_sub {a b : List (List Nat)} (h : a.Sublist b) : weight a ≤ weight b := by
  induction h with
  | slnil => exact Nat.le_refl _
  | cons x _ ih => unfold weight at *; simp only [List.map_cons, List.sum_cons, List.length_cons]; omega
  | cons_cons x _ ih => unfold weight at *; simp only [List.map_cons, List.sum_cons, List.length_cons]; omega
noncomputable def LI (h : Heap) (D : Addr) (xs : List (List Nat)) : Prop := ∃ vs, h.IsList D vs.toArray ∧ Strs vs xs
theorem LI.at' {h h' : Heap} {D : Addr} {xs : List (List Nat)} (x : LI h D xs) (k : ∀ o, h.get? D = some o → h'.get? D = some o) : LI h' D xs := let ⟨vs, ⟨o, ho, r⟩, b⟩ := x; ⟨vs, ⟨o, k o ho, r⟩, b⟩
theorem LI.up {h h' : Heap} {D : Addr} {xs : List (List Nat)} (x : LI h D xs) (k : Sub h h') : LI h' D xs := x.at' fun o e => k D o e
theorem LI.upX {h h' : Heap} {D : Addr} {xs : List (List Nat)} {ms : List Addr} (x : LI h D xs) (k : SubX ms h h') (n : D ∉ ms) : LI h' D xs := x.at' fun o e => k D o n e
theorem LI.live {h : Heap} {D : Addr} {xs : List (List Nat)} (x : LI h D xs) : h.get? D ≠ none := let ⟨_, ⟨o, ho, _⟩, _⟩ := x; live_of ho
theorem LS.li {h : Heap} {D : Addr} {xs : List (List Nat)} (x : LS h D xs) : LI h D xs := let ⟨vs, p, s⟩ := x; ⟨vs, p.isList, s⟩
theorem LI.it {h : Heap} {D : Addr} {xs : List (List Nat)} (x : LI h D xs) : ∃ vs, ItOf h (.ref D) vs ∧ Strs vs xs := let ⟨vs, l, s⟩ := x; ⟨vs, ⟨D, rfl, .inl l⟩, s⟩
theorem Strs.paired : ∀ {vs : List Value} {xs : List (List Nat)}, Strs vs xs → Paired (fun x v => IsS (S x) v) xs vs
  | [], [], _ => .nil
  | _ :: _, _ :: _, h => .cons h.1 (Strs.paired h.2)
theorem Strs.of_paired {vs : List Value} {xs : List (List Nat)} (h : Paired (fun x v => IsS (S x) v) xs vs) : Strs vs xs := by
  induction h with
  | nil => trivial
  | cons h _ ih => exact ⟨h, ih⟩
section
variable {prog : Program} {w : World} {A : Around} {h : Heap} {env : Env} {o e : Expr} {apos pos p : Pos}
theorem pv_join {D : Addr} {cs : List (List Nat)} (ho : PV prog w A h (eval o env) (IsS (S [47]))) (he : PV prog w A h (eval e env) (· = .ref D)) (hl : LI h D cs) (hw : weight cs ≤ 1000000)
    (hbase : attributeBase o "join" env (eval o env) = eval o env := by rfl) (hs : starEach [e] env = [(false, eval e env)] := by rfl) (hline : (apos.endLine == pos.line) = true := by rfl) :
    PV prog w A h (eval (.Call (.Attribute o "join" apos) [e] [] pos) env) (IsS (S (joinL cs))) := by
  intro s Q E hss q
  refine Call_method1 hbase hs hline (ho s _ E hss fun v h1 t1 k1 hv => ?_)
  obtain ⟨t, rfl⟩ := hv
  refine SB.join (he _ _ E (hss.trans k1) fun u h2 t2 k2 hu => ?_)
  subst hu
  obtain ⟨vs, il, ss⟩ := hl.up ((hss.trans k1).trans k2)
  obtain ⟨l, rfl, hm⟩ := ss.vals
  refine ⟨D, l, rfl, il, _, hm, joinOk_of_weight ?_ (by decide), fun t' k => q _ h2 k (k1.trans k2) ⟨t', by rw [S_join]⟩⟩
  rw [List.map_map, List.length_map]
  have e : (Str.length ∘ S) = List.length := funext fun l => S_len l
  rw [e]
  unfold weight at hw; omega
theorem pv_truthyTup {D : Addr} {vs : List Value} (he : PV prog w A h (eval e env) (· = .ref D)) (hl : h.IsTuple D vs.toArray) (hn : vs.length ≤ 100000)
    (hw : isTrue e env (eval e env) = (do let v ← eval e env; standAt e.pos; holding [v] (truthy v)) := by rfl) : PV prog w A h (isTrue e env (eval e env)) (· = !vs.isEmpty) := by
  intro s Q E hs hq
  refine wpAny_isTrue_value (he s _ E hs fun v h1 t1 k1 hv => ?_) hw
  subst hv
  refine truthy_tuple ((hl.at fun o e => (hs.trans k1) _ o e)) (by simp; omega) (hq _ h1 _ k1 ?_)
  simp
theorem pe_ifexp {t b e' : Expr} {P : Value → Heap → Prop} {c : Bool} (ht : PV prog w A h (isTrue t env (eval t env)) (· = c)) (h1 : c = true → PE prog w A h (eval b env) P) (h2 : c = false → PE prog w A h (eval e' env) P) :
    PE prog w A h (eval (.IfExp t b e' pos) env) P := by
  intro s Q E hs q
  refine wpAny_IfExp (ht s _ E hs fun x h1' t1 k1 hx => ?_)
  subst hx
  cases x with
  | true => exact h1 rfl _ Q E (hs.trans k1) fun v h' tk k p => q v h' tk (k1.trans k) p
  | false => exact h2 rfl _ Q E (hs.trans k1) fun v h' tk k p => q v h' tk (k1.trans k) p
end
/-- a call of a def with cells -/
theorem call_defC {prog : Program} {w : World} {A : Around} {n : Nat} {h : Heap} {P : Value → Heap → Prop} {f : Addr} {name : Str} {params : Arguments} {body : List Stmt} {scope : Scope} {dV kV doc pm cdv ct : Value} {an od : Option Addr} {osl : Array (Option Value)} {oc : Value}
    {args : List Value} {binds : List (Str × Value)}
    (G : G0 w h) (O : AOk (n + 1) A) (ho : (KK w).lookup f = some ⟨oc, od, .func (fnOf name name params body scope dV kV doc pm an cdv ct), osl⟩) (hcd : codeIn (KK w) cdv name = true)
    (hbind : bindArgs (fnOf name name params body scope dV kV doc pm an cdv ct) ⟨args, []⟩ = pure binds) (hloc : ∀ y ∈ binds, scope.names.lookup y.1 = some .local)
    (hco : scope.isCoroutine = false) (hgen : scope.isGenerator = false) (hk : scope.kind = .function)
    (hb : ∀ (s : Shared) (h₀ : Heap) (L : Addr) (Q : Flow → Shared → Prop) (E : Value → Shared → Prop), Sub h h₀ → G0 w h₀ → AOk n (A.deeper (envX name scope L f cdv (cellsFrom (L + 1) scope.names []))) →
      Fr h₀ L s.heap (bindL (envX name scope L f cdv (cellsFrom (L + 1) scope.names [])).kindOf binds fun _ => none) →
      (∀ n c, (cellsFrom (L + 1) scope.names []).lookup n = some c → s.heap.IsCell c (bindC (envX name scope L f cdv (cellsFrom (L + 1) scope.names [])).kindOf binds (fun _ => none) n) ∧ h₀.get? c = none ∧ L ≠ c) →
      (∀ v h' tk, Sub h₀ h' → P v h' → Q (.ret v) { s with heap := h', toks := tk }) →
      wpAny (model prog w) (A.deeper (envX name scope L f cdv (cellsFrom (L + 1) scope.names []))) (execs body (envX name scope L f cdv (cellsFrom (L + 1) scope.names []))) Q E s) :
    PE prog w A h (call (.ref f) args) P := by
  intro s Q E hs hq
  have G' := G.up hs
  refine wpAny_call (codeAny_call_function (fd := fnOf name name params body scope dV kV doc pm an cdv ct) O.room (G'.X _ _ ho) rfl hco hgen rfl (codeRec_of G'.X hcd) ((BindsTo.of_eq hbind) _ _ _ _ ?_))
  refine wpAny_newFunctionEnv_cells hk (fun x hx => .inl (hloc x hx)) fun env' he s' x => ?_
  subst he
  refine ⟨G'.lim.keeps x.toInCall.keep, codeAny_func ?_⟩
  obtain ⟨h₁, tk, rfl, _⟩ := x.done
  have hk₁ := x.toInCall.keep
  refine hb { s with heap := h₁, toks := tk } s.heap s.heap.objs.size _ _ hs G' O.deeper ⟨x.toInCall.ns, hk₁, Nat.le_refl _⟩ (fun n c hl => ⟨x.cell n c hl, Heap.get?_none_of_le (Nat.le_of_lt (x.above n c (mem_of_lookup hl))), Nat.ne_of_lt (x.above n c (mem_of_lookup hl))⟩) fun v h' tk k p => hq v h' tk k p
end Mine
end
section
open PySem PySem.W PyProof.Rows
set_option maxRecDepth 100000
namespace Mine
theorem ltN_irrefl (x : List Nat) : ¬ x < x := List.lt_irrefl x
theorem ltN_trans {x y z : List Nat} (h : x < y) (k : y < z) : x < z := List.lt_trans h k
theorem ltN_total {x y : List Nat} (h : x ≠ y) : x < y ∨ y < x := by
  by_cases h1 : x < y
  · exact .inl h1
  · by_cases h2 : y < x
    · exact .inr h2
    · exact absurd (List.le_antisymm (List.not_lt.mp h2) (List.not_lt.mp h1)) h
noncomputable def leL (a b : List (List Nat)) : Prop := ltL b a = false
theorem leL_refl (a : List (List Nat)) : leL a a := by
  induction a with
  | nil => rfl
  | cons x r ih => show ltL (x :: r) (x :: r) = false; rw [ltL, if_pos rfl]; exact ih
theorem leL_total (a b : List (List Nat)) : leL a b ∨ leL b a := by
  induction a generalizing b with
  | nil => left; cases b <;> rfl
  | cons x r ih => cases b with
    | nil => right; rfl
    | cons y q =>
      unfold leL ltL
      by_cases h : x = y
      · subst h; simp only [if_true]; exact ih q
      · rw [if_neg h, if_neg (Ne.symm h)]
        rcases ltN_total h with h | h
        · left; exact decide_eq_false fun k => ltN_irrefl _ (ltN_trans h k)
        · right; exact decide_eq_false fun k => ltN_irrefl _ (ltN_trans h k)
theorem leL_trans {a b c : List (List Nat)} (h : leL a b) (k : leL b c) : leL a c := by
  induction a generalizing b c with
  | nil => cases c <;> rfl
  | cons x r ih => cases b with
    | nil => cases h
    | cons y q => cases c with
      | nil => cases k
      | cons z t =>
        unfold leL at h k ⊢
        rw [ltL] at h k ⊢
        by_cases h1 : y = x
        · subst h1
          by_cases h2 : z = y
          · subst h2; simp only [if_true] at h k ⊢; exact ih h k
          · rw [if_neg h2] at k ⊢; exact k
        · rw [if_neg h1] at h
          by_cases h2 : z = y
          · subst h2; rw [if_neg h1]; exact h
          · rw [if_neg h2] at k
            have xy : x < y := (ltN_total (Ne.symm h1)).resolve_right (of_decide_eq_false h)
            have yz : y < z := (ltN_total (Ne.symm h2)).resolve_right (of_decide_eq_false k)
            have xz := ltN_trans xy yz
            have hne : z ≠ x := fun e => by rw [e] at xz; exact ltN_irrefl _ xz
            rw [if_neg hne]
            exact decide_eq_false fun q => ltN_irrefl _ (ltN_trans xz q)
noncomputable def getC (cs : List (List (List Nat))) (i : Nat) : List (List Nat) := cs[i]?.getD []
noncomputable def minL (cs : List (List (List Nat))) : List (List Nat) := getC cs (argBest (fun i j => ltL (getC cs i) (getC cs j)) (cs.length - 1))
noncomputable def maxL (cs : List (List (List Nat))) : List (List Nat) := getC cs (argBest (fun i j => ltL (getC cs j) (getC cs i)) (cs.length - 1))
theorem best_le (f : Nat → List (List Nat)) : ∀ n k, k ≤ n → leL (f (argBest (fun i j => ltL (f i) (f j)) n)) (f k)
  | 0, k, h => by have : k = 0 := by omega
                  subst this; exact leL_refl _
  | n + 1, k, h => by
    have ih := best_le f n
    simp only [argBest]
    by_cases hb : ltL (f (n + 1)) (f (argBest (fun i j => ltL (f i) (f j)) n)) = true
    · rw [if_pos hb]
      by_cases hk : k = n + 1
      · subst hk; exact leL_refl _
      · refine leL_trans ?_ (ih k (by omega))
        rcases leL_total (f (n + 1)) (f (argBest (fun i j => ltL (f i) (f j)) n)) with h | h
        · exact h
        · unfold leL at h; rw [h] at hb; cases hb
    · rw [if_neg hb]
      by_cases hk : k = n + 1
      · subst hk; unfold leL; simpa using hb
      · exact ih k (by omega)
theorem best_ge (f : Nat → List (List Nat)) : ∀ n k, k ≤ n → leL (f k) (f (argBest (fun i j => ltL (f j) (f i)) n))
  | 0, k, h => by have : k = 0 := by omega
                  subst this; exact leL_refl _
  | n + 1, k, h => by
    have ih := best_ge f n
    simp only [argBest]
    by_cases hb : ltL (f (argBest (fun i j => ltL (f j) (f i)) n)) (f (n + 1)) = true
    · rw [if_pos hb]
      by_cases hk : k = n + 1
      · subst hk; exact leL_refl _
      · refine leL_trans (ih k (by omega)) ?_
        rcases leL_total (f (argBest (fun i j => ltL (f j) (f i)) n)) (f (n + 1)) with h | h
        · exact h
        · unfold leL at h; rw [h] at hb; cases hb
    · rw [if_neg hb]
      by_cases hk : k = n + 1
      · subst hk; unfold leL; simpa using hb
      · exact ih k (by omega)
theorem minL_le {cs : List (List (List Nat))} {k : Nat} (h : k < cs.length) : leL (minL cs) (getC cs k) := best_le (getC cs) _ k (by omega)
theorem le_maxL {cs : List (List (List Nat))} {k : Nat} (h : k < cs.length) : leL (getC cs k) (maxL cs) := best_ge (getC cs) _ k (by omega)
theorem argBest_le (bt : Nat → Nat → Bool) : ∀ n, argBest bt n ≤ n
  | 0 => Nat.le_refl 0
  | n + 1 => by have := argBest_le bt n; simp only [argBest]; split <;> omega

noncomputable def lcp : List (List Nat) → List (List Nat) → List (List Nat)
  | x :: xs, y :: ys => if x = y then x :: lcp xs ys else []
  | _, _ => []
theorem lcp_all : ∀ (a b : List (List Nat)), (∀ j, j < a.length → a[j]? = b[j]?) → lcp a b = a
  | [], _, _ => by simp [lcp]
  | x :: r, [], h => by have := h 0 (by simp); simp at this
  | x :: r, y :: q, h => by
    have h0 := h 0 (by simp)
    simp only [List.getElem?_cons_zero, Option.some.injEq] at h0
    subst h0
    rw [lcp, if_pos rfl, lcp_all r q fun j hj => by have := h (j + 1) (by simp; omega); simpa using this]
theorem lcp_cut : ∀ (i : Nat) (a b : List (List Nat)), (∀ j, j < i → a[j]? = b[j]?) → i < a.length → i < b.length → a[i]? ≠ b[i]? → lcp a b = a.take i
  | _, [], _, _, h, _, _ => absurd h (Nat.not_lt_zero _)
  | _, _ :: _, [], _, _, h, _ => absurd h (Nat.not_lt_zero _)
  | 0, x :: r, y :: q, _, _, _, hn => by
    have : ¬ x = y := fun e => hn (by simp [e])
    rw [lcp, if_neg this]; rfl
  | i + 1, x :: r, y :: q, h, h1, h2, hn => by
    have h0 := h 0 (by omega)
    simp only [List.getElem?_cons_zero, Option.some.injEq] at h0
    subst h0
    rw [lcp, if_pos rfl, List.take_succ_cons, lcp_cut i r q (fun j hj => by have := h (j + 1) (by omega); simpa using this) (by simpa using h1) (by simpa using h2) (by simpa using hn)]
theorem lt_len_of_le : ∀ (i : Nat) (a b : List (List Nat)), leL a b → (∀ j, j < i → a[j]? = b[j]?) → i < a.length → i < b.length
  | _, [], _, _, _, h => absurd h (Nat.not_lt_zero _)
  | _, _ :: _, [], h, _, _ => by cases h
  | 0, x :: r, y :: q, _, _, _ => by simp
  | i + 1, x :: r, y :: q, h, he, h1 => by
    have h0 := he 0 (by omega)
    simp only [List.getElem?_cons_zero, Option.some.injEq] at h0
    subst h0
    unfold leL ltL at h
    simp only [if_true] at h
    have := lt_len_of_le i r q h (fun j hj => by have := he (j + 1) (by omega); simpa using this) (by simpa using h1)
    simpa using this
/-- the pieces that count -/
noncomputable def keepP (c : List Nat) : Bool := !decide (c = []) && !(c == [46])
noncomputable def comps (x : List Nat) : List (List Nat) := (splitL x).filter keepP
noncomputable def commonL (xs : List (List Nat)) : List (List Nat) := lcp (minL (xs.map comps)) (maxL (xs.map comps))
theorem weight_comps (x : List Nat) : weight (comps x) ≤ x.length + 1 := Nat.le_trans (weight_sub List.filter_sublist) (weight_split x)
theorem lcp_sub : ∀ (a b : List (List Nat)), (lcp a b).Sublist a
  | [], b => by simp [lcp]
  | x :: r, [] => by simp [lcp]
  | x :: r, y :: q => by
    rw [lcp]
    split
    · exact (lcp_sub r q).cons_cons x
    · exact List.nil_sublist _
end Mine
end
section
open PySem PySem.W PyProof.Rows
set_option maxRecDepth 100000
namespace Mine
theorem cell_up {h h' : Heap} {c : Addr} {v : Option Value} (x : h.IsCell c v) (k : Sub h h') : h'.IsCell c v := let ⟨o, a, b⟩ := x; ⟨o, k _ _ a, b⟩
theorem cell_upX {h h' : Heap} {c : Addr} {v : Option Value} {ms : List Addr} (x : h.IsCell c v) (k : SubX ms h h') (n : c ∉ ms) : h'.IsCell c v := let ⟨o, a, b⟩ := x; ⟨o, k _ _ n a, b⟩
theorem not_mem1 {a b : Addr} (h : a ≠ b) : a ∉ [b] := fun m => h (List.mem_singleton.mp m)
section
variable {prog : Program} {w : World} {A : Around} {h : Heap} {env : Env} {o e : Expr} {apos pos p sp : Pos}
/-- a list's first part -/
theorem pe_sliceTo {l : Addr} {vs : List Value} {k : Nat} (ho : PV prog w A h (eval o env) (· = .ref l)) (hl : h.IsList l vs.toArray) (hi : PV prog w A h (eval e env) (IsI k)) (hn : vs.length ≤ 100000)
    (ht : ∀ o' r, letTemporaryGo o o' r = Pure.pure () := by intro _ _; rfl) :
    PE prog w A h (eval (.Subscript o (.Slice none (some e) none sp) pos) env) (fun v h' => ∃ T, v = .ref T ∧ h.get? T = none ∧ h'.PlainList T (vs.take k).toArray) := by
  intro s Q E hs q
  refine wpAny_Subscript_list_slice (ho s _ E hs fun v h1 t1 k1 hv => ?_) ht
  rw [evalPart_none]
  refine wpAny_pure ?_
  rw [evalPart_some]
  refine hi _ _ E (hs.trans k1) fun u h2 t2 k2 hu => ?_
  subst hv
  obtain ⟨t, rfl⟩ := hu
  have kk := k1.trans k2
  have e1 : (h2.push { cls := .type "slice", data := .fields #[.none, .int k t, .none] }).objs.size = h2.objs.size + 1 := Heap.size_push ..
  refine ⟨l, vs.toArray, none, some (k : Int), rfl, ((hl.at fun o e => (hs.trans kk) _ o e)), (by rw [szL]; simp; omega), .none, .int _ _, ?_⟩
  refine q _ _ _ ((kk.trans (Sub.push _ _)).trans (Sub.push _ _)) ⟨_, rfl, (hs.trans kk).none (Heap.get?_none_of_le (Nat.le_succ _)), ?_⟩
  have e2 := Heap.get?_push_size (h2.push { cls := .type "slice", data := .fields #[.none, .int k t, .none] }) (o := { cls := .type "list", data := .seq (slicePick vs.toArray none (some (k : Int)) none) }) rfl
  rw [e1] at e2
  rw [slicePick_upto'] at e2 ⊢
  exact ⟨_, e2⟩
end
section
variable {prog : Program} {w : World} {A : Around} {h₀ : Heap} {env : Env} {m : Str → Option Value} {s : Shared} {E : Value → Shared → Prop} {Q : Flow → Shared → Prop} {rest : List Stmt}
/-- a name that is a cell -/
theorem st_cell {x : Str} {px pos : Pos} {value : Expr} {V : Value → Prop} {c : Addr} {v₀ : Option Value} (F : Fr h₀ env.locals s.heap m) (hc : env.cells.lookup x = some c) (hcell : s.heap.IsCell c v₀) (hn : h₀.get? c = none) (hL : env.locals ≠ c)
    (e : PV prog w A s.heap (eval value env) V)
    (k : ∀ v h' tk, V v → SubX [c] s.heap h' → Fr h₀ env.locals h' m → h'.IsCell c (some v) → wpAny (model prog w) A (execs rest env) Q E { s with heap := h', toks := tk })
    (hk : env.scope.kind = .function := by rfl) (hl : env.kindOf x = some .cell := by rfl) (hs : swapsWith value (some (.Name x px)) pos.line env = pure false := by rfl) :
    wpAny (model prog w) A (execs (.Assign [.Name x px] value pos :: rest) env) Q E s :=
  wpAny_execs_cons (wpAny_Assign_Name (e s _ E Sub.rfl fun v _ tk k₁ p => wpAny_storeName_cell hk hl hc (cell_up hcell k₁) fun h' hc' hs' =>
    k v h' tk p (k₁.toX.trans (SubX.ofSame hs')) (Fr.mv (fr_up F k₁) (SubX.ofSame hs') (Ne.symm hL) hn) hc') hs)

/-- the end of commonpath -/
theorem common_tail {cs : List (List Nat)} {b : Bool} {D c : Addr} {tsep : Tok} {p1 p2 p3 p4 p5 p6 p7 p8 p9 p10 p11 p12 p13 p14 p15 p16 : Pos} {k0 : Nat} (F : Fr h₀ env.locals s.heap m)
    (hm1 : m "common" = some (.ref D)) (hm2 : m "isabs" = some (.bool b)) (hD : LI s.heap D cs) (hw : weight cs ≤ 200000) (hc : env.cells.lookup (Str.ofString "sep") = some c) (hcell : s.heap.IsCell c (some (.str (S [47]) tsep)))
    (q : ∀ v h' tk, Sub h₀ h' → IsS (S ((if b then [47] else []) ++ joinL cs)) v → Q (.ret v) { s with heap := h', toks := tk }) (hDL : D ≠ env.locals) (hcL : c ≠ env.locals)
    (hk : env.scope.kind = .function := by rfl) (h1 : env.kindOf "isabs" = some .local := by rfl) (h2 : env.kindOf "prefix" = some .local := by rfl) (h3 : env.kindOf "common" = some .local := by rfl) (h4 : env.kindOf "sep" = some .cell := by rfl)
    (hl : (p12.endLine == p14.line) = true := by rfl)
    (hs : swapsWith (.IfExp (.Name "isabs" p1) (.Name "sep" p2) (.Subscript (.Name "sep" p3) (.Slice none (some (.Constant (.int 0) k0 p4)) none p5) p6) p7) (some (.Name "prefix" p8)) p9.line env = pure false := by rfl)
    (hst : starEach [.Name "common" p13] env = [(false, eval (.Name "common" p13) env)] := by rfl) :
    wpAny (model prog w) A (execs [.Assign [.Name "prefix" p8] (.IfExp (.Name "isabs" p1) (.Name "sep" p2) (.Subscript (.Name "sep" p3) (.Slice none (some (.Constant (.int 0) k0 p4)) none p5) p6) p7) p9,
      .Return (some (.BinOp (.Name "prefix" p10) .Add (.Call (.Attribute (.Name "sep" p11) "join" p12) [.Name "common" p13] [] p14) p15)) p16] env) Q E s := by
  have sepV : ∀ {h : Heap} {p : Pos}, h.IsCell c (some (.str (S [47]) tsep)) → PV prog w A h (eval (.Name "sep" p) env) (IsS (S [47])) := fun x => PE.weak (PV.cell hc x hk h4) fun _ _ _ e => ⟨tsep, e⟩
  have hpre : PV prog w A s.heap (eval (.IfExp (.Name "isabs" p1) (.Name "sep" p2) (.Subscript (.Name "sep" p3) (.Slice none (some (.Constant (.int 0) k0 p4)) none p5) p6) p7) env) (IsS (S (if b then [47] else []))) := by
    refine pe_ifexp (c := b) (PV.isTrueB (PV.loc F.ns hm2 hk h1)) (fun hb => ?_) fun hb => ?_
    · subst hb; exact sepV hcell
    · subst hb
      exact (PV.sliceTo (sepV hcell) PV.int (by decide +kernel)).as (S_to [47] 0 (by decide))
  refine st_assignV F hpre (fun v hA tA hv kA FA => ?_) hk h2 hs
  obtain ⟨tv, rfl⟩ := hv
  have cA : hA.IsCell c (some (.str (S [47]) tsep)) := cell_upX hcell kA (not_mem1 hcL)
  have dA := hD.upX kA (not_mem1 hDL)
  have e1 : PV prog w A hA (eval (.BinOp (.Name "prefix" p10) .Add (.Call (.Attribute (.Name "sep" p11) "join" p12) [.Name "common" p13] [] p14) p15) env) (IsS (S ((if b then [47] else []) ++ joinL cs))) := by
    refine (PV.addS (PV.locS FA.ns upd_same hk h2) (pv_join (sepV cA) (PV.loc FA.ns ((upd_ne (by decide)).trans hm1) hk h3) dA (by omega) rfl hst hl) ?_).as (S_cat _ _)
    rw [S_len, S_len, szL]
    have hj : ∀ cs : List (List Nat), (joinL cs).length ≤ weight cs := by
      intro cs
      induction cs with
      | nil => exact Nat.zero_le _
      | cons x r ih => cases r with
        | nil => simp [joinL, weight]
        | cons y r =>
          simp only [joinL, List.length_append, List.length_cons]
          unfold weight at ih ⊢
          simp only [List.map_cons, List.sum_cons, List.length_cons] at ih ⊢
          omega
    have := hj cs
    have h5 : (if b then [47] else [] : List Nat).length ≤ 1 := by cases b <;> simp
    omega
  exact st_ret e1 fun v h' tk k hv => q v h' tk ((fr_sub FA).trans k) hv
end
end Mine
end
section
open PySem PySem.W PyProof.Rows
set_option maxRecDepth 100000
namespace Mine
theorem gl_isi (P : Params) : nsIn (hd.heap_39 P) mainGlobals "isinstance" = some none := by kernel_rfl
theorem bo_isi : bootBuiltins "isinstance" = some (.builtin "isinstance") := by kernel_rfl
theorem isi_bytes {prog : Program} {w : World} {A : Around} {h : Heap} {x : Str} {v : Value} (hv : IsS x v) : PV prog w A h (call (.builtin "isinstance") [v, .type "bytes"]) (· = .bool false) := by
  obtain ⟨t, rfl⟩ := hv
  exact fun s Q E _ q => IsiPair.str_bytes (q _ s.heap _ Sub.rfl rfl)
theorem ItOf.tup {h : Heap} {T : Addr} {vs : List Value} (x : h.get? T = some { cls := .type "tuple", data := .seq vs.toArray }) : ItOf h (.ref T) vs := ⟨T, rfl, .inr (tup_of x)⟩
theorem Paired.mem {α β : Type} {F : α → β → Prop} {l₁ : List α} {l₂ : List β} (x : Paired F l₁ l₂) : Paired (fun a b => F a b ∧ a ∈ l₁) l₁ l₂ := by
  induction x with
  | nil => exact .nil
  | cons h t ih => exact .cons ⟨h, List.mem_cons_self⟩ (ih.mono fun a b r => ⟨r.1, List.mem_cons_of_mem _ r.2⟩)
theorem mem_weight {c : List Nat} {l : List (List Nat)} (h : c ∈ l) : c.length ≤ weight l := by
  induction l with
  | nil => cases h
  | cons x r ih =>
    unfold weight at ih ⊢
    simp only [List.map_cons, List.sum_cons, List.length_cons]
    rcases List.mem_cons.mp h with rfl | h
    · omega
    · have := ih h; omega
theorem getC_mem {cs : List (List (List Nat))} {i : Nat} (h : i < cs.length) : getC cs i ∈ cs := by
  unfold getC
  rw [List.getElem?_eq_getElem h]
  exact List.getElem_mem h
theorem minL_mem {cs : List (List (List Nat))} (h : 0 < cs.length) : minL cs ∈ cs := getC_mem (by have := argBest_le (fun i j => ltL (getC cs i) (getC cs j)) (cs.length - 1); omega)
theorem maxL_mem {cs : List (List (List Nat))} (h : 0 < cs.length) : maxL cs ∈ cs := getC_mem (by have := argBest_le (fun i j => ltL (getC cs j) (getC cs i)) (cs.length - 1); omega)
theorem filter_true {α : Type} (l : List α) : l.filter (fun _ => true) = l := List.filter_eq_self.mpr fun _ _ => rfl
set_option maxHeartbeats 4000000 in
theorem commonpath_S {prog : Program} {w : World} {A : Around} {h : Heap} {n : Nat} {D : Addr} {xs : List (List Nat)} {b : Bool} (G : G0 w h) (O : AOk (n + 20) A) (hD : LS h D xs) (hne : xs ≠ []) (hlen : xs.length ≤ 100) (hx : ∀ x ∈ xs, x.length ≤ 50000)
    (hb : ∀ x ∈ xs, Txt.startswith (S x) (S [47]) = b) :
    PV prog w A h (call (.ref 134) [.ref D]) (IsS (S ((if b then [47] else []) ++ joinL (commonL xs)))) := by
  refine call_defC (n := n + 19) G O rfl (by kernel_rfl) rfl (locs rfl) rfl rfl rfl fun s h₀ L Q E hs G0 O0 F hc q => ?_
  obtain ⟨c1, n1, l1⟩ := hc (Str.ofString "sep") (L + 1) rfl
  obtain ⟨c2, n2, l2⟩ := hc (Str.ofString "curdir") (L + 1 + 1) rfl
  have lvL : s.heap.get? L ≠ none := ns_live F.ns
  refine st_assign F (PE.tuple_map (n := n + 9) (G0.up (fr_sub F)) (O0.less (by omega)) (PV.loc F.ns rfl) (hD.up (hs.trans (fr_sub F))) (by omega)) fun v h1 h1' t1 k1 ⟨T, vs, ev, nT, gT, sT⟩ kX F1 => ?_
  subst ev
  have TL : T ≠ L := fun z => lvL (z ▸ nT)
  have X1 : SubX [L] s.heap h1' := k1.toX.trans kX
  have gT1 := kX T _ (not_mem1 TL) gT
  have c1a := cell_upX c1 X1 (not_mem1 (Ne.symm l1))
  have c2a := cell_upX c2 X1 (not_mem1 (Ne.symm l2))
  have vne : vs.isEmpty = false := by
    cases vs with
    | nil => exact absurd (List.eq_nil_of_length_eq_zero sT.len.symm) hne
    | cons => rfl
  have vlen := sT.len
  refine st_skip ((PV.not (pv_truthyTup (PV.loc F1.ns rfl) (tup_of gT1) (by omega))).asB (by rw [vne]; rfl)) fun h2 t2 k2 => ?_
  have F2 := fr_up F1 k2
  obtain ⟨v0, hv0⟩ : ∃ v0, vs[0]? = some v0 := by cases vs with
    | nil => cases vne
    | cons a r => exact ⟨a, rfl⟩
  obtain ⟨x0, _, hx0⟩ := sT.get hv0
  refine st_if (b := false) (PV.isTrueB (PE.call2 (PV.boot (G0.up (fr_sub F2)) (gl_isi _) bo_isi) (pv_itemT (k := 0) (x := v0) (PV.loc F2.ns rfl) (tup_of (k2 _ _ gT1)) PV.int (by decide) (by decide) hv0) (PV.boot (G0.up (fr_sub F2)) (gl_bytes _) bo_bytes) fun v u h₁ k₁ hv hu => ?_)) fun h3 t3 k3 => ?_
  · subst hv; subst hu; exact isi_bytes hx0
  simp only [Bool.false_eq_true, if_false]
  have F3 := fr_up F2 k3
  refine st_cell F3 rfl (cell_up c1a (k2.trans k3)) n1 l1 (PV.str.as lit_sl) fun v h4 t4 hv X4 F4 c1b => ?_
  obtain ⟨tsep, rfl⟩ := hv
  have c12 : L + 1 ≠ L + 1 + 1 := Nat.ne_of_lt (Nat.lt_succ_self _)
  refine st_cell F4 rfl (cell_upX (cell_up c2a (k2.trans k3)) X4 (not_mem1 (Ne.symm c12))) n2 l2 (PV.str.as lit_dot) fun v h5 t5 hv X5 F5 c2b => ?_
  obtain ⟨tcur, rfl⟩ := hv
  refine wpAny_execs_nil ?_
  have c1c := cell_upX c1b X5 (not_mem1 c12)
  have T1 : T ≠ L + 1 := fun z => by obtain ⟨o, ho, _⟩ := c1; rw [← z, nT] at ho; cases ho
  have T2 : T ≠ L + 1 + 1 := fun z => by obtain ⟨o, ho, _⟩ := c2; rw [← z, nT] at ho; cases ho
  have gT5 := X5 T _ (not_mem1 T2) (X4 T _ (not_mem1 T1) (k3 _ _ (k2 _ _ gT1)))
  refine wpAny_execs_cons (wpAny_Try_except ?_)
  -- split_paths = [path.split(sep) for path in paths]
  refine st_listcomp (V := fun x v => IsS (S x) v ∧ x ∈ xs) (RR := fun x a h v => NewLI a h v (splitL x)) (b := fun _ => true) (cl := [(Str.ofString "sep", L + 1)]) F5 O0.h rfl (PV.loc F5.ns rfl) (ItOf.tup gT5) (by omega) (Paired.mem sT.paired) (fun x => NewLI.res _) (fun C a v H m _ _ _ _ => tests_nil) (fun C a v H m hv _ hH hn hm => ?_) fun D1 ys h6 t6 X6 F6 nD1 pD1 hys => ?_
  · obtain ⟨⟨t, rfl⟩, ha⟩ := hv
    exact pe_split (PV.locS hn hm) (PE.weak (PV.cell (c := L + 1) rfl (cell_up c1c hH)) fun _ _ _ e => ⟨tsep, e⟩) (Nat.le_trans (hx a ha) (by decide))
  rw [filter_true] at hys
  have c1d := cell_upX c1c X6 (not_mem1 (Ne.symm l1))
  have c2d := cell_upX c2b X6 (not_mem1 (Ne.symm l2))
  have gT6 := X6 T _ (not_mem1 TL) gT5
  -- isabs, = {p.startswith(sep) for p in paths}
  refine wpAny_execs_cons (wpAny_Try_except ?_)
  refine st_one (b := b) O0.h F6 ((pe_setcomp (V := fun x v => IsS (S x) v ∧ x ∈ xs) (cl := [(Str.ofString "sep", L + 1)]) O0.h rfl (PV.loc F6.ns rfl) (ItOf.tup gT6) (Paired.mem sT.paired) (fun C a v H m hv hH hn hm => ?_)).weak fun v h' _ ⟨D, ys, e, _, a, l⟩ => ⟨D, ys, e, a, by rw [l]; exact List.length_pos_iff.mpr hne⟩) fun h7 t7 X7 F7 => ?_
  · obtain ⟨⟨t, rfl⟩, ha⟩ := hv
    exact (PV.startswith (PV.locS hn hm) (PE.weak (PV.cell (c := L + 1) rfl (cell_up c1d hH)) fun _ _ _ e => ⟨tsep, e⟩)).weak fun v _ _ e => by rw [e, hb a ha]
  refine wpAny_execs_nil (wpAny_execs_nil ?_)
  have D1L : D1 ≠ L := fun z => by obtain ⟨_, _, _, ho, _⟩ := F5.ns; have : h5.get? L = none := z ▸ nD1; rw [ho] at this; cases this
  have c2e := cell_upX c2d X7 (not_mem1 (Ne.symm l2))
  have c1e := cell_upX c1d X7 (not_mem1 (Ne.symm l1))
  have live7 : ∀ m ∈ [L], h5.get? m ≠ none := fun m hm => by rw [List.mem_singleton.mp hm]; exact ns_live F5.ns
  have hys7 : Paired (fun x z => ∃ a, z = .ref a ∧ LI h7 a (splitL x)) xs ys := hys.mono fun x z r => let ⟨a, us, e, _, l, st⟩ := (NewLI.res _).keep live7 X7 r; ⟨a, e, us, l, st⟩
  -- split_paths = [[c for c in s if c and c != curdir] for s in split_paths]
  refine st_listcomp (V := fun x z => (∃ a, z = .ref a ∧ LI h7 a (splitL x)) ∧ x ∈ xs) (RR := fun x a h v => NewLS a h v (comps x)) (b := fun _ => true) (cl := [(Str.ofString "curdir", L + 1 + 1)]) F7 O0.h rfl (PV.loc F7.ns rfl) ⟨D1, rfl, .inl (LRes pD1 X7 (not_mem1 D1L)).isList⟩ (by have := hys.length; omega) (Paired.mem hys7) (fun x => NewLS.res _) (fun C a v H m _ _ _ _ => tests_nil) (fun C a v H m hv _ hH hn hm => ?_) fun D2 zs h8 t8 X8 F8 nD2 pD2 hzs => ?_
  · obtain ⟨⟨A1, rfl, hA1⟩, ha⟩ := hv
    obtain ⟨us, iu, su⟩ := (hA1.up hH).it
    have hw1 := weight_split a
    have hxa := hx a ha
    have hlu : us.length ≤ 100000 := by
      have e1 := weight_split a
      unfold weight at e1
      have := su.len
      have := hx a ha
      omega
    refine (pe_listcomp (α := List Nat) (xs := splitL a) (V := fun c v => IsS (S c) v ∧ c ∈ splitL a) (RR := fun c _ _ v => IsS (S c) v) (b := keepP) (cl := [(Str.ofString "curdir", L + 1 + 1)]) O0.h rfl (PV.loc hn hm) iu hlu (Paired.mem su.paired) (fun c => Res.const _) (fun C' c v H' m' hv hH' hn' hm' => ?_) (fun C' c v H' m' hv _ hH' hn' hm' => ?_)).weak fun v h' _ ⟨D, ws, e, nD, pD, hws⟩ => ⟨D, e, nD, ws, pD, Strs.of_paired hws⟩
    · obtain ⟨⟨t, rfl⟩, hc⟩ := hv
      have hcl : c.length ≤ 50001 := Nat.le_trans (mem_weight hc) (by omega)
      refine (tests_one (PV.and2 (PV.isTrueS (PV.locS hn' hm') (by rw [S_len, szL]; omega)) fun _ => PV.test (PV.locS hn' hm') (PE.weak (PV.cell (c := L + 1 + 1) rfl (cell_up c2e (hH.trans hH'))) fun _ _ _ e => ⟨tcur, e⟩) fun x y hx hy => cmp_neS hx hy)).asB ?_
      rw [S_len0, S_beq]; rfl
    · obtain ⟨⟨t, rfl⟩, hc⟩ := hv
      exact PV.locS hn' hm'
  rw [filter_true] at hzs
  have c1f := cell_upX c1e X8 (not_mem1 (Ne.symm l1))
  have nL : ∀ {z : Addr}, h7.get? z = none → z ≠ L := fun {z} hz e => by obtain ⟨_, _, _, ho, _⟩ := F7.ns; rw [← e, hz] at ho; cases ho
  have hcs : Paired (fun c z => ∃ a, z = .ref a ∧ LS h8 a c ∧ a ≠ L) (xs.map comps) zs := by
    have : ∀ {l : List (List Nat)} {z : List Value}, Paired (fun x v => NewLS h7 h8 v (comps x)) l z → Paired (fun c z => ∃ a, z = .ref a ∧ LS h8 a c ∧ a ≠ L) (l.map comps) z := fun x => by
      induction x with
      | nil => exact .nil
      | cons h t ih => exact .cons (let ⟨a, e, n, l⟩ := h; ⟨a, e, l, nL n⟩) ih
    exact this hzs
  have hlz : zs.length = xs.length := hzs.length.symm
  have hpos : 0 < zs.length := by rw [hlz]; exact List.length_pos_iff.mpr hne
  have getz : ∀ {i : Nat} {v : Value}, zs[i]? = some v → ∃ a, v = .ref a ∧ LS h8 a (getC (xs.map comps) i) ∧ a ≠ L := fun {i v} e => by
    obtain ⟨c, hc, a, ea, la⟩ := Paired.get hcs e
    exact ⟨a, ea, by unfold getC; rw [hc]; exact la⟩
  have itz : ItOf h8 (.ref D2) zs := ⟨D2, rfl, .inl pD2.isList⟩
  -- s1 = min(split_paths)
  refine st_assign F8 (PE.call1 (PV.boot (G0.up (fr_sub F8)) (gl_min _) bo_min) (PV.loc F8.ns rfl) fun v h₁ k₁ hv => by
    subst hv
    exact pe_min (bt := fun i j => ltL (getC (xs.map comps) i) (getC (xs.map comps) j)) O0.h (itz.up k₁) hpos fun i j vi vj s' Q' E' hs' hi hj k => by
      obtain ⟨a, rfl, la, _⟩ := getz hi; obtain ⟨b', rfl, lb, _⟩ := getz hj
      exact rc_lt (la.up (k₁.trans hs')) (lb.up (k₁.trans hs')) (AOk.in1 (n := n + 18) O0).line k) fun v h9 h9' t9 k9 hv9 X9 F9 => ?_
  obtain ⟨a1, rfl, la1, a1L⟩ := getz hv9
  have Xa := k9.toX.trans X9
  have hml : (xs.map comps).length - 1 = zs.length - 1 := by rw [List.length_map, hlz]
  have e1 : getC (xs.map comps) (argBest (fun i j => ltL (getC (xs.map comps) i) (getC (xs.map comps) j)) (zs.length - 1)) = minL (xs.map comps) := by unfold minL; rw [hml]
  rw [e1] at la1
  have D2L : D2 ≠ L := nL nD2
  have pD2a := LRes pD2 Xa (not_mem1 D2L)
  have getz9 : ∀ {i : Nat} {v : Value}, zs[i]? = some v → ∃ a, v = .ref a ∧ LS h9' a (getC (xs.map comps) i) ∧ a ≠ L := fun {i v} e => let ⟨a, ea, la, aL⟩ := getz e; ⟨a, ea, la.upX Xa (not_mem1 aL), aL⟩
  -- s2 = max(split_paths)
  refine st_assign F9 (PE.call1 (PV.boot (G0.up (fr_sub F9)) (gl_max _) bo_max) (PV.loc F9.ns rfl) fun v h₁ k₁ hv => by
    subst hv
    exact pe_max (bt := fun i j => ltL (getC (xs.map comps) j) (getC (xs.map comps) i)) O0.h (ItOf.up ⟨D2, rfl, .inl pD2a.isList⟩ k₁) hpos fun i j vi vj s' Q' E' hs' hi hj k => by
      obtain ⟨a, rfl, la, _⟩ := getz9 hi; obtain ⟨b', rfl, lb, _⟩ := getz9 hj
      exact rc_gt (la.up (k₁.trans hs')) (lb.up (k₁.trans hs')) (AOk.in1 (n := n + 18) O0).line k) fun v h10 h10' t10 k10 hv10 X10 F10 => ?_
  obtain ⟨a2, rfl, la2, a2L⟩ := getz9 hv10
  have Xb := k10.toX.trans X10
  have e2 : getC (xs.map comps) (argBest (fun i j => ltL (getC (xs.map comps) j) (getC (xs.map comps) i)) (zs.length - 1)) = maxL (xs.map comps) := by unfold maxL; rw [hml]
  rw [e2] at la2
  -- common = s1
  refine st_assignV F10 (PV.loc F10.ns rfl) fun v h11 t11 hv X11 F11 => ?_
  subst hv
  have Xc := Xb.trans X11
  have l1' : L + 1 ∉ [L] := not_mem1 (Ne.symm l1)
  have c1g := cell_upX (cell_upX c1f Xa l1') Xc l1'
  have la1' := (la1.upX Xa (not_mem1 a1L)).upX Xc (not_mem1 a1L)
  have la2' := la2.upX Xc (not_mem1 a2L)
  obtain ⟨us, pu, su⟩ := la1'
  obtain ⟨ws, pw, sw⟩ := la2'
  have wmin : weight (minL (xs.map comps)) ≤ 50001 := by
    obtain ⟨x, hxm, hxe⟩ := List.mem_map.mp (minL_mem (cs := xs.map comps) (by rw [List.length_map, ← hlz]; exact hpos))
    rw [← hxe]
    exact Nat.le_trans (weight_comps _) (Nat.succ_le_succ (hx _ hxm))
  have hle : leL (minL (xs.map comps)) (maxL (xs.map comps)) := leL_trans (minL_le (k := 0) (by rw [List.length_map]; omega)) (le_maxL (k := 0) (by rw [List.length_map]; omega))
  have husl : us.length ≤ 100000 := by
    have := su.len
    unfold weight at wmin; omega
  have c1L : L + 1 ≠ L := Nat.succ_ne_self _
  refine st_for_enum (ms := []) (vs := us) (fun _ i m s' => (s'.gens = s.gens ∧ s'.drawn = s.drawn ∧ s'.os = s.os) ∧ SubX [L] h11 s'.heap ∧ m "common" = some (.ref a1) ∧ m "s1" = some (.ref a1) ∧ m "s2" = some (.ref a2) ∧ m "isabs" = some (.bool b) ∧ (∀ j, j < i → (minL (xs.map comps))[j]? = (maxL (xs.map comps))[j]?))
    O0.h (G0.up (fr_sub F11)) F11 (PV.loc F11.ns rfl) pu.isList (by simp) (by simp) (fun hB tk k => ⟨⟨rfl, rfl, rfl⟩, k.toX, rfl, rfl, rfl, rfl, fun j hj => absurd hj (Nat.not_lt_zero _)⟩) (fun hB i m' s' h' tk ms' kB hms ⟨gs, X, r⟩ X' => ⟨gs, fun c o hc e => ?_, r⟩) (fun hB i u z m' s' E' kB hu hz F' ⟨⟨g1, g2, g3⟩, X, hm1, hm2, hm3, hm4, hj⟩ => ?_) fun hB m' s' kB F' ⟨⟨g1, g2, g3⟩, X, hm1, hm2, hm3, hm4, hj⟩ => ?_
  · refine X' c o (fun hm => ?_) (X c o hc e)
    rcases (hms c hm).2 with h | h
    · have : h11.get? c = none := h
      rw [this] at e; cases e
    · exact hc (List.mem_singleton.mpr h)
  · obtain ⟨ti, rfl⟩ := hu
    obtain ⟨x, hxi, tx, rfl⟩ := su.get hz
    have hilt : i < (minL (xs.map comps)).length := (List.getElem?_eq_some_iff.mp hxi).1
    have hilt2 := lt_len_of_le i _ _ hle hj hilt
    obtain ⟨z2, hz2, ty, rfl⟩ := sw.get' (List.getElem?_eq_getElem hilt2)
    have i63 : (i : Int) < 2 ^ 63 := by
      have := su.len
      omega
    refine st_if (PV.test (PV.locS F'.ns rfl) (PE.weak (pv_item (k := (i : Int)) (PV.loc F'.ns hm3) (LRes pw X (not_mem1 a2L)).isList (PV.locI F'.ns rfl) (by omega) i63 (by simpa using hz2)) fun _ _ _ e => ⟨ty, e⟩) fun x y hx hy => cmp_neS hx hy) fun h12 t12 k12 => ?_
    rw [S_beq]
    by_cases hxy : x = (maxL (xs.map comps))[i]
    · rw [beq_iff_eq.mpr hxy]
      simp only [Bool.not_true, Bool.false_eq_true, if_false]
      refine wpAny_execs_nil (wpAny_execs_nil ⟨_, fr_up F' k12, ⟨⟨g1, g2, g3⟩, X.trans k12.toX, hm1, hm2, hm3, hm4, fun j hj' => ?_⟩, k12.toX⟩)
      by_cases hji : j = i
      · subst hji; rw [hxi, List.getElem?_eq_getElem hilt2, hxy]
      · exact hj j (by omega)
    · rw [beq_eq_false_iff_ne.mpr hxy]
      simp only [Bool.not_false, if_true]
      have F12 := fr_up F' k12
      have X12 := X.trans k12.toX
      refine st_assign F12 (pe_sliceTo (k := i) (PV.loc F12.ns hm2) (LRes pu X12 (not_mem1 a1L)).isList (PV.locI F12.ns rfl) husl) fun v h13 h13' t13 k13 ⟨T3, ev, nT3, pT3⟩ X13 F13 => ?_
      subst ev
      have T3L : T3 ≠ L := fun z => by obtain ⟨_, _, _, ho, _⟩ := F12.ns; have : h12.get? L = none := z ▸ nT3; rw [ho] at this; cases this
      refine wpAny_execs_cons (wpAny_Break ?_)
      have hcut : commonL xs = (minL (xs.map comps)).take i := lcp_cut i _ _ hj hilt hilt2 (by rw [hxi, List.getElem?_eq_getElem hilt2]; exact fun e => hxy (Option.some.inj e))
      refine common_tail (b := b) (cs := commonL xs) F13 rfl ?_ ⟨_, (LRes pT3 X13 (not_mem1 T3L)).isList, hcut ▸ su.take i⟩ (Nat.le_trans (weight_sub (lcp_sub _ _)) (by omega)) rfl (cell_upX c1g ((X12.trans k13.toX).trans X13) l1') (fun v h' tk k hv => by rw [g1, g2, g3]; exact q v h' tk k hv) T3L c1L
      exact hm4
  · have hall : commonL xs = minL (xs.map comps) := lcp_all _ _ (by rw [← su.len]; exact hj)
    refine common_tail (b := b) (cs := commonL xs) F' hm1 hm4 ⟨_, (LRes pu X (not_mem1 a1L)).isList, hall ▸ su⟩ (Nat.le_trans (weight_sub (lcp_sub _ _)) (by omega)) rfl (cell_upX c1g X l1') (fun v h' tk k hv => by rw [g1, g2, g3]; exact q v h' tk k hv) a1L c1L
end Mine
end
section
open PySem PySem.W PyProof.Rows
set_option maxRecDepth 100000
namespace Mine
theorem gl_range (P : Params) : nsIn (hd.heap_39 P) mainGlobals "range" = some none := by kernel_rfl
theorem bo_range : bootBuiltins "range" = some (.type "range") := by kernel_rfl
section
variable {prog : Program} {w : World} {A : Around} {h : Heap} {env : Env} {o e e₁ e₂ : Expr} {pos p : Pos} {R : Value → Heap → Prop} {Va Vb : Value → Prop}
theorem cmp_eqI {a b : Value} {x y : Int} (ha : IsI x a) (hb : IsI y b) : PV prog w A h (compareOp .Eq a b) (· = .bool (x == y)) := by
  obtain ⟨t, rfl⟩ := ha; obtain ⟨u, rfl⟩ := hb
  exact fun s _ _ _ q => wpAny_eq_int (q _ s.heap s.toks Sub.rfl rfl)
theorem pv_at {x : List Nat} {k c : Nat} (ho : PV prog w A h (eval o env) (IsS (S x))) (hi : PV prog w A h (eval e env) (IsI k)) (hx : x.length ≤ 100000) (hc : x[k]? = some c)
    (hs : ∀ t u, subscripted e false (.str (S x) t) (.int k u) = operate [.str (S x) t, .int k u] (getItem (.str (S x) t) (.int k u)) := by intro _ _; with_unfolding_all rfl) (hg : ∀ t r, letTemporaryGo o (.str (S x) t) r = Pure.pure () := by intro _ _; with_unfolding_all rfl) :
    PV prog w A h (eval (.Subscript o e pos) env) (IsS (S [c])) := by
  intro s Q E hss q
  refine Subscript_ (ho s _ E hss fun v h1 t1 k1 hv => hi _ _ E (hss.trans k1) fun u h2 t2 k2 hu => ?_)
  obtain ⟨t, rfl⟩ := hv
  obtain ⟨t', rfl⟩ := hu
  have hk : k < x.length := (List.getElem?_eq_some_iff.mp hc).1
  refine subscriptTail_builtin (typeIs_str _ _ _) slot_str_getitem.lookup (P.getItem_str (c := c) ?_ ?_ ?_) (hs t t') (hg t)
  · rw [Bool.or_eq_false_iff]; exact ⟨decide_eq_false (by omega), decide_eq_false (by omega)⟩
  · have e1 : seqIndex? (k : Int) (S x).length = some k := by rw [S_len]; unfold seqIndex?; simp; omega
    rw [e1]
    show (S x).cps[k]? = some c
    simpa [S] using hc
  · exact q _ h2 _ (k1.trans k2) ⟨_, rfl⟩
/-- a range object -/
theorem pe_range1 {n : Nat} {f : Pos} (G : G0 w h) (he : PV prog w A h (eval e env) (IsI n)) (hg : env.globals = mainGlobals := by rfl) (hb : env.builtins = builtinsNs := by rfl) (hk : env.scope.kind = .function := by rfl) (hx : env.kindOf "range" = some .globalImplicit := by rfl)
    (hs : starEach [e] env = (false, eval e env) :: starEach [] env := by rfl) :
    PE prog w A h (eval (.Call (.Name "range" f) [e] [] pos) env) (fun v h' => ∃ r t u x, v = .ref r ∧ IsRange h' r ((0 : Nat) : Int) n 1 t u x) :=
  PE.call1T (PV.boot G (gl_range _) bo_range (by decide) hg hb hk hx) he (fun v h₁ k hv => by
    obtain ⟨t, rfl⟩ := hv
    exact fun s Q E _ q => call_range_1 (q _ _ _ (Sub.push _ _) ⟨_, _, _, _, rfl, Heap.get?_push_size _ rfl⟩)) hs
theorem pe_call2T {f : Str} {T : String} (hf : PV prog w A h (eval (.Name f p) env) (· = .type T)) (ha : PV prog w A h (eval e₁ env) Va) (hb : PV prog w A h (eval e₂ env) Vb)
    (hc : ∀ v u h₁, Sub h h₁ → Va v → Vb u → PE prog w A h₁ (call (.type T) [v, u]) R) (hs : starEach [e₁, e₂] env = (false, eval e₁ env) :: starEach [e₂] env := by rfl) (hs2 : starEach [e₂] env = (false, eval e₂ env) :: starEach [] env := by rfl) :
    PE prog w A h (eval (.Call (.Name f p) [e₁, e₂] [] pos) env) R := by
  intro s Q E hss hq
  refine wpAny_Call_Name_kw (hf s _ E hss fun fv h1 t1 k1 hfv => ?_)
  subst hfv
  refine PyProof.Rows.callWith_type1 (wpAny_items_cons (ha _ _ E (hss.trans k1) fun v h2 t2 k2 pv => wpAny_items_cons (hb _ _ E ((hss.trans k1).trans k2) fun u h3 t3 k3 pu => wpAny_items_nil ?_) hs2) hs) hs (by rw [hs2]; rfl)
  exact hc v u h3 (((hss.trans k1).trans k2).trans k3) pv pu _ Q E Sub.rfl fun r h' tk k' z => hq r h' tk (((k1.trans k2).trans k3).trans k') z
theorem pe_range2 {a n : Nat} {f : Pos} (G : G0 w h) (ha : PV prog w A h (eval e₁ env) (IsI a)) (he : PV prog w A h (eval e₂ env) (IsI n)) (hg : env.globals = mainGlobals := by rfl) (hb : env.builtins = builtinsNs := by rfl) (hk : env.scope.kind = .function := by rfl) (hx : env.kindOf "range" = some .globalImplicit := by rfl)
    (hs : starEach [e₁, e₂] env = (false, eval e₁ env) :: starEach [e₂] env := by rfl) (hs2 : starEach [e₂] env = (false, eval e₂ env) :: starEach [] env := by rfl) :
    PE prog w A h (eval (.Call (.Name "range" f) [e₁, e₂] [] pos) env) (fun v h' => ∃ r t u x, v = .ref r ∧ IsRange h' r (a : Int) n 1 t u x) :=
  pe_call2T (PV.boot G (gl_range _) bo_range (by decide) hg hb hk hx) ha he (fun v u h₁ k hv hu => by
    obtain ⟨t, rfl⟩ := hv; obtain ⟨t', rfl⟩ := hu
    exact fun s Q E _ q => call_range_2 (q _ _ _ (Sub.push _ _) ⟨_, _, _, _, rfl, Heap.get?_push_size _ rfl⟩)) hs hs2
end
section
variable {prog : Program} {w : World} {A : Around} {h₀ : Heap} {env : Env} {m : Str → Option Value} {s : Shared} {Q : Flow → Shared → Prop} {E : Value → Shared → Prop} {rest : List Stmt}
/-- for x in a range -/
theorem st_for_range {x : Str} {px pos : Pos} {iter : Expr} {body : List Stmt} {ms : List Addr} {a b : Nat} (J : Heap → Nat → (Str → Option Value) → Shared → Prop)
    (hh : A.handled = none) (F : Fr h₀ env.locals s.heap m) (hit : PE prog w A s.heap (eval iter env) (fun v h' => ∃ r t u x, v = .ref r ∧ IsRange h' r (a : Int) b 1 t u x)) (hab : a ≤ b) (hb : b ≤ 1000000) (hms : ∀ b ∈ ms, s.heap.get? b ≠ none)
    (h0 : ∀ hB tk, Sub s.heap hB → J hB 0 m { s with heap := hB, toks := tk })
    (hJ : ∀ hB i m (s' : Shared) h' tk a, Sub s.heap hB → hB.get? a ≠ none → (s.heap.get? a = none ∨ a = env.locals) → J hB i m s' → SubX [a] s'.heap h' → J hB i m { s' with heap := h', toks := tk })
    (step : ∀ hB i v m' (s' : Shared) (E' : Value → Shared → Prop), Sub s.heap hB → i < b - a → IsI ((a + i : Nat) : Int) v → Fr h₀ env.locals s'.heap (upd m' x v) → Live hB s'.heap → J hB i m' s' →
      wpAny (model prog w) A (execs body env) (fun f s₃ => match f with
        | .next | .cont => ∃ m₃, Fr h₀ env.locals s₃.heap m₃ ∧ J hB (i + 1) m₃ s₃ ∧ SubX ms s'.heap s₃.heap ∧ ∀ b ∈ ms, s₃.heap.get? b ≠ none
        | .brk => wpAny (model prog w) A (execs rest env) Q E s₃
        | .ret v => Q (.ret v) s₃) E' s')
    (fin : ∀ hB m' (s' : Shared), Sub s.heap hB → Fr h₀ env.locals s'.heap m' → J hB (b - a) m' s' → wpAny (model prog w) A (execs rest env) Q E s')
    (hk : env.scope.kind = .function := by rfl) (hx : env.kindOf x = some .local := by rfl) (hsf : ∀ x, foldedSetIterable iter env x = Pure.pure x := by intro _; rfl) :
    wpAny (model prog w) A (execs (.For (.Name x px) iter body [] pos :: rest) env) Q E s := by
  refine wpAny_execs_cons (wpAny_For (hit s _ E Sub.rfl fun v h1 t1 k1 ⟨r, t, u, x', hv1, hr⟩ => ?_) hsf)
  subst hv1
  refine wpAny_pyIter_range hr (small_one (by omega) (by omega) (by omega) (by omega)) ?_
  have hsz : Builtin.Range.rangeSize (a : Int) b 1 = ((b - a : Nat) : Int) := by rw [rangeSize_one]; split <;> omega
  have hI : IsRangeIter (h1.push { cls := .type "range_iterator", data := .fields #[rawInt a, rawInt (Builtin.Range.rangeSize (a : Int) b 1), rawInt 1] }) h1.objs.size a ((b - a : Nat) : Int) 1 := by
    have := Heap.get?_push_size h1 (o := { cls := .type "range_iterator", data := .fields #[rawInt a, rawInt (Builtin.Range.rangeSize (a : Int) b 1), rawInt 1] }) rfl
    rw [hsz] at this ⊢; exact this
  have kB : Sub s.heap (h1.push { cls := .type "range_iterator", data := .fields #[rawInt a, rawInt (Builtin.Range.rangeSize (a : Int) b 1), rawInt 1] }) := k1.trans (Sub.push _ _)
  have n1 : s.heap.get? h1.objs.size = none := k1.none (get_none_size h1)
  have lvL : s.heap.get? env.locals ≠ none := ns_live F.ns
  have hIL : h1.objs.size ≠ env.locals := fun z => lvL (z ▸ n1)
  have W := Walks.range (prog := prog) (w := w) (A := A) hh h1.objs.size (a : Int) 1 (b - a)
  have hR : (List.range (b - a)).length = b - a := List.length_range
  refine for_core _ (m := m) (xs := List.range (b - a)) (V := fun i v => i < b - a ∧ IsI ((a + i : Nat) : Int) v) (J := J _) (K := fun s' => wpAny (model prog w) A (execs rest env) Q E s') (ms := ms) (h₀ := h₀) (St := fun i h => IsRangeIter h h1.objs.size (a + (i : Nat) * 1) (((b - a : Nat) : Int) - (i : Nat)) 1)
    (Walks.as W hR.symm fun i v hi ⟨t, hv⟩ => ⟨i, by rw [List.getElem?_range (hR ▸ hi)], hR ▸ hi, t, by rw [hv]; congr 1; push_cast; omega⟩)
    (by simpa using hI) (fr_up F kB) hIL ((fr_sub F).none n1) (fun c hc => by rw [List.mem_singleton.mp hc]; exact fun hm => hms _ hm n1) (fun hc => hIL (List.mem_singleton.mp hc).symm) (fun i h st => live_of st) (fun _ h => h)
    (h0 _ _ kB) (fun i m s' h' tk a ha j X => hJ _ i m s' h' tk a kB ?_ ?_ j X) (fun i k v m' s' E' hxa hva F' lv j => ?_) (fun m' s' F' j => fin _ m' s' kB F' (hR ▸ j)) (fun s' k => k) hk hx
  · rcases ha with zz | zz
    · rw [zz]; exact live_of hI
    · rw [zz]; exact Live.ofSub kB _ lvL
  · rcases ha with zz | zz
    · rw [zz]; exact .inl n1
    · rw [zz]; exact .inr rfl
  · have hki : k = i := by
      have hlt := (List.getElem?_eq_some_iff.mp hxa).1
      rw [hR] at hlt
      rw [List.getElem?_range hlt] at hxa; cases hxa; rfl
    subst hki
    refine wpAny_mono (step _ k v m' s' E' kB hva.1 hva.2 F' lv j) (fun f s₃ h₃ => ?_) fun _ _ e => e
    cases f <;> exact h₃
/-- l.append(e) -/
theorem st_append {o elt : Expr} {apos pos spos : Pos} {D : Addr} {ys : List Value} {P : Value → Heap → Prop} (F : Fr h₀ env.locals s.heap m) (ho : PV prog w A s.heap (eval o env) (· = .ref D)) (hD : s.heap.PlainList D ys.toArray) (he : PE prog w A s.heap (eval elt env) P)
    (hl : ys.length ≤ 1000000) (hDL : D ≠ env.locals) (hD0 : h₀.get? D = none)
    (k : ∀ v h1 h2 tk, Sub s.heap h1 → P v h1 → SubX [D] h1 h2 → Fr h₀ env.locals h2 m → h2.PlainList D (ys ++ [v]).toArray → wpAny (model prog w) A (execs rest env) Q E { s with heap := h2, toks := tk })
    (hbase : attributeBase o "append" env (eval o env) = eval o env := by rfl)
    (hfew : ((backTo pos (starEach [elt] env)).all (fun x => !x.1) && (backToKw pos (keywordEach [] env)).all (fun x => x.1.isSome)
      && decide (([elt] : List Expr).length + ([] : List Keyword).length + (if ([] : List Keyword).isEmpty then 0 else 1) < 30)) = true := by rfl)
    (hline : (apos.endLine == pos.line) = true := by rfl)
    (htrees : backTo pos (starEach [elt] env) = [(false, eval elt env)] := by rfl) (hi : interactive env = false := by rfl) (hs : swapsWith (.Call (.Attribute o "append" apos) [elt] [] pos) none spos.line env = pure false := by rfl) :
    wpAny (model prog w) A (execs (.Expr (.Call (.Attribute o "append" apos) [elt] [] pos) spos :: rest) env) Q E s := by
  refine wpAny_execs_cons (wpAny_Expr_any (wpAny_Call_append hbase hfew hline htrees (ho s _ E Sub.rfl fun ov h1 t1 k1 hv => ?_)) hi hs)
  subst hv
  have hD1 := hD.at fun o e => k1 D o e
  refine ⟨D, ys.toArray, rfl, let ⟨n, e⟩ := hD1; ⟨_, n, e, rfl, rfl, rfl⟩, he _ _ E k1 fun y h2 t2 k2 py => ?_⟩
  have hD2 := hD1.at fun o e => k2 D o e
  refine wpAny_list_append_plain (hsz := by rw [szL]; simp; omega) hD2 fun h3 hp hs3 => ?_
  exact k y h2 h3 t2 (k1.trans k2) py (SubX.ofSame hs3) (Fr.mv (fr_up F (k1.trans k2)) (SubX.ofSame hs3) hDL hD0) (by simpa using hp)
end
end Mine
end
section
open PySem PySem.W PyProof.Rows
set_option maxRecDepth 100000
namespace Mine
noncomputable def hStep (path root : List Nat) (st : Nat × List Nat × List (List Nat × List Nat)) (k : Nat) : Nat × List Nat × List (List Nat × List Nat) :=
  if (k == path.length || path[k]? == some 47) = true then
    if (path.drop st.1).take (k - st.1) = [] then (k + 1, st.2.1, st.2.2)
    else
      let straight := if (path.drop st.1).take (k - st.1) = [46] then st.2.1 else if st.2.1 = root then root ++ (path.drop st.1).take (k - st.1) else st.2.1 ++ [47] ++ (path.drop st.1).take (k - st.1)
      (k + 1, straight, st.2.2 ++ [(path.take k, straight)])
  else st
noncomputable def rootL (path : List Nat) : List Nat := if path.head? = some 47 then [47] else []
noncomputable def hSt (path : List Nat) (i : Nat) : Nat × List Nat × List (List Nat × List Nat) := (List.range i).foldl (hStep path (rootL path)) (0, rootL path, [])
noncomputable def headsL (path : List Nat) : List (List Nat × List Nat) := (hSt path (path.length + 1)).2.2
theorem hSt_succ (path : List Nat) (i : Nat) : hSt path (i + 1) = hStep path (rootL path) (hSt path i) i := by
  unfold hSt; rw [List.range_succ, List.foldl_append]; rfl
theorem rootL_len (path : List Nat) : (rootL path).length ≤ 1 := by unfold rootL; split <;> simp
theorem hSt_bound (path : List Nat) (i : Nat) : (hSt path i).1 ≤ i ∧ (hSt path i).2.1.length ≤ (hSt path i).1 + 1 ∧ (hSt path i).2.2.length ≤ i := by
  induction i with
  | zero => exact ⟨Nat.le_refl _, rootL_len path, Nat.le_refl _⟩
  | succ i ih =>
    rw [hSt_succ]
    obtain ⟨h1, h2, h3⟩ := ih
    have hr := rootL_len path
    have hp : ((path.drop (hSt path i).1).take (i - (hSt path i).1)).length ≤ i - (hSt path i).1 := by rw [List.length_take]; omega
    unfold hStep
    split
    · split
      · exact ⟨by simp, by simp; omega, by simp; omega⟩
      · refine ⟨by simp, ?_, by simp; omega⟩
        simp only
        split
        · omega
        · split
          · rw [List.length_append]; omega
          · simp only [List.length_append, List.length_cons, List.length_nil]; omega
    · exact ⟨by omega, h2, by omega⟩
theorem intBeq (a b : Nat) : ((a : Int) == (b : Int)) = (a == b) := by rw [Bool.eq_iff_iff, beq_iff_eq, beq_iff_eq]; omega
theorem liveX {a b c : Heap} {ms : List Addr} (l : Live a b) (x : SubX ms b c) (hm : ∀ m ∈ ms, c.get? m ≠ none) : Live a c := fun d hd => by
  by_cases h : d ∈ ms
  · exact hm d h
  · cases e : b.get? d with
    | none => exact absurd e (l d hd)
    | some o => exact live_of (x d o h e)
/-- a row: a tuple of two texts that is not in a -/
noncomputable def NewRow (a h : Heap) (v : Value) (r : List Nat × List Nat) : Prop := ∃ T u z, v = .ref T ∧ a.get? T = none ∧ h.get? T = some { cls := .type "tuple", data := .seq #[u, z] } ∧ IsS (S r.1) u ∧ IsS (S r.2) z
theorem NewRow.res (r : List Nat × List Nat) : Res fun a h v => NewRow a h v r where
  base := fun {a b h v} l ⟨T, u, z, e, n, g, su, sz⟩ => ⟨T, u, z, e, (by cases q : a.get? T with | none => rfl | some o => exact absurd n (l T (by rw [q]; simp))), g, su, sz⟩
  keep := fun {a h h' v ms} l k ⟨T, u, z, e, n, g, su, sz⟩ => ⟨T, u, z, e, n, k T _ (fun hm => l T hm n) g, su, sz⟩
theorem Paired.keepR {α : Type} {R : α → Heap → Heap → Value → Prop} (hR : ∀ x, Res (R x)) {a h h' : Heap} {ms : List Addr} (hl : ∀ m ∈ ms, a.get? m ≠ none) (k : SubX ms h h') {xs : List α} {ys : List Value} (p : Paired (fun x v => R x a h v) xs ys) : Paired (fun x v => R x a h' v) xs ys :=
  p.mono fun x v r => (hR x).keep hl k r
theorem Paired.baseR {α : Type} {R : α → Heap → Heap → Value → Prop} (hR : ∀ x, Res (R x)) {a b h : Heap} (l : Live a b) {xs : List α} {ys : List Value} (p : Paired (fun x v => R x b h v) xs ys) : Paired (fun x v => R x a h v) xs ys :=
  p.mono fun x v r => (hR x).base l r
theorem pe_nil {prog : Program} {w : World} {A : Around} {h : Heap} {env : Env} {pos : Pos} : PE prog w A h (eval (.List [] pos) env) (fun v h' => ∃ D, v = .ref D ∧ h.get? D = none ∧ h'.PlainList D ([] : List Value).toArray) := by
  intro s Q E hs q
  refine wpAny_List_spliced (wpAny_pure ⟨Nat.zero_le _, ?_⟩)
  exact q _ _ s.toks (Sub.push _ _) ⟨_, rfl, hs.none (get_none_size _), _, Heap.get?_push_size _ rfl⟩
/-- a name set under a test -/
theorem st_ifset {prog : Program} {w : World} {A : Around} {h₀ : Heap} {env : Env} {m : Str → Option Value} {s : Shared} {Q : Flow → Shared → Prop} {E : Value → Shared → Prop} {rest : List Stmt} {test value : Expr} {x : Str} {px p1 p2 : Pos} {b : Bool} {V : Value → Prop}
    (F : Fr h₀ env.locals s.heap m) (ht : PV prog w A s.heap (isTrue test env (eval test env)) (· = b)) (he : b = true → PV prog w A s.heap (eval value env) V)
    (k : ∀ m₂ h' tk, (∀ y, y ≠ x → m₂ y = m y) → (b = true → ∃ v, V v ∧ m₂ x = some v) → (b = false → m₂ x = m x) → SubX [env.locals] s.heap h' → Fr h₀ env.locals h' m₂ → wpAny (model prog w) A (execs rest env) Q E { s with heap := h', toks := tk })
    (hk : env.scope.kind = .function := by rfl) (hl : env.kindOf x = some .local := by rfl) (hs : swapsWith value (some (.Name x px)) p1.line env = pure false := by rfl) :
    wpAny (model prog w) A (execs (.If test [.Assign [.Name x px] value p1] [] p2 :: rest) env) Q E s := by
  refine st_if ht fun h' tk k' => ?_
  cases b with
  | false => exact wpAny_execs_nil (k m h' tk (fun _ _ => rfl) (fun e => nomatch e) (fun _ => rfl) k'.toX (fr_up F k'))
  | true => exact st_assignV (fr_up F k') ((he rfl).up k') (fun v h2 t2 hv X2 F2 => wpAny_execs_nil (k _ h2 t2 (fun y hy => upd_ne hy) (fun _ => ⟨v, hv, upd_same⟩) (fun e => nomatch e) (k'.toX.trans X2) F2)) hk hl hs
set_option maxHeartbeats 4000000 in
theorem heads_S {prog : Program} {w : World} {A : Around} {h : Heap} {n : Nat} {a : Value} {path : List Nat} (G : G0 w h) (O : AOk (n + 3) A) (ha : IsS (S path) a) (hne : path ≠ []) (hl : path.length ≤ 50000) :
    PE prog w A h (call (.ref 146) [a]) (fun v h' => ∃ D ys, v = .ref D ∧ h.get? D = none ∧ h'.PlainList D ys.toArray ∧ Paired (fun r v => NewRow h h' v r) (headsL path) ys) := by
  obtain ⟨ta, rfl⟩ := ha
  refine call_def G O rfl (by kernel_rfl) rfl (locs rfl) (by decide) rfl rfl rfl fun s h₀ L Q E hs G0 O0 F q => ?_
  obtain ⟨c0, hc0⟩ : ∃ c, path[0]? = some c := by cases path with
    | nil => exact absurd rfl hne
    | cons c r => exact ⟨c, rfl⟩
  have hhd : path.head? = some c0 := by rw [← hc0]; cases path <;> rfl
  -- root = '/' if path[0] == '/' else ''
  refine st_assignV F (pe_ifexp (P := fun v _ => IsS (S (rootL path)) v) (c := c0 == 47) ((PV.test (pv_at (k := 0) (PV.locS F.ns rfl) PV.int (by omega) hc0) (PV.str.as lit_sl) fun a b ha hb => cmp_eqS ha hb).asB (by rw [S_beq]; simp)) (fun hc => (PV.str.as lit_sl).as (by unfold rootL; rw [hhd, if_pos (by rw [beq_iff_eq.mp hc])])) (fun hc => (PV.str.as lit_nil).as (by unfold rootL; rw [hhd, if_neg (by simpa using hc)]))) fun v h1 t1 hv k1 F1 => ?_
  obtain ⟨tr, rfl⟩ := hv
  -- straight = root
  refine st_assignV F1 (PV.loc F1.ns rfl) fun v h2 t2 hv k2 F2 => ?_
  subst hv
  -- rows = []
  refine st_assign F2 pe_nil fun v h3 h3' t3 k3 ⟨D, ev, nD, pD⟩ kX F3 => ?_
  subst ev
  have DL : D ≠ L := fun z => by obtain ⟨_, _, _, ho, _⟩ := F2.ns; have : h2.get? L = none := z ▸ nD; rw [ho] at this; cases this
  have pD3 := LRes pD kX (not_mem1 DL)
  have nD0 : h₀.get? D = none := (fr_sub F2).none nD
  -- start = 0
  refine st_assignV F3 PV.int fun v h4 t4 hv k4 F4 => ?_
  obtain ⟨ts, rfl⟩ := hv
  have pD4 := LRes pD3 k4 (not_mem1 DL)
  refine st_for_range (ms := [L, D]) (a := 0) (b := path.length + 1) (fun hB i m s' => (s'.gens = s.gens ∧ s'.drawn = s.drawn ∧ s'.os = s.os) ∧ SubX [L, D] h4 s'.heap ∧ m "path" = some (.str (S path) ta) ∧ m "root" = some (.str (S (rootL path)) tr) ∧ (∃ t, m "straight" = some (.str (S (hSt path i).2.1) t)) ∧ m "rows" = some (.ref D) ∧ (∃ t, m "start" = some (.int ((hSt path i).1 : Nat) t)) ∧
      ∃ ys, s'.heap.PlainList D ys.toArray ∧ Paired (fun r v => NewRow hB s'.heap v r) (hSt path i).2.2 ys)
    O0.h F4 (pe_range1 (G0.up (fr_sub F4)) (PV.addI (PV.len (PV.boot (G0.up (fr_sub F4)) (gl_len _) bo_len) (PV.locS F4.ns rfl) (by rw [S_len, szL]; omega)) PV.int |>.asI (by rw [S_len]; push_cast; rfl))) (Nat.zero_le _) (by omega) (fun c hc => ?_)
    (fun hB tk k => ⟨⟨rfl, rfl, rfl⟩, k.toX, rfl, rfl, ⟨_, rfl⟩, rfl, ⟨_, rfl⟩, [], pD4.at fun o e => k D o e, .nil⟩)
    (fun hB i m' s' h' tk c kB hcl hc ⟨gs, X, e1, e2, e3, e4, e5, ys, py, ry⟩ X' => ⟨gs, fun d o hd e => ?_, e1, e2, e3, e4, e5, ys, LRes py X' ?_, Paired.keepR NewRow.res (fun m hm => by rw [List.mem_singleton.mp hm]; exact hcl) X' ry⟩)
    (fun hB i v m' s' E' kB hi hv F' lvB ⟨⟨g1, g2, g3⟩, X, e1, e2, ⟨tst, e3⟩, e4, ⟨tsa, e5⟩, ys, py, ry⟩ => ?_) fun hB m' s' kB F' ⟨⟨g1, g2, g3⟩, X, e1, e2, _, e4, _, ys, py, ry⟩ => ?_
  · rcases List.mem_cons.mp hc with zz | hc
    · rw [zz]; exact ns_live F4.ns
    · rw [List.mem_singleton.mp hc]; exact LLive pD4
  · refine X' d o (fun hm => ?_) (X d o hd e)
    rw [List.mem_singleton.mp hm] at e hd
    rcases hc with hc | hc
    · have : h4.get? c = none := hc
      rw [this] at e; cases e
    · exact hd (by rw [hc]; exact List.mem_cons_self)
  · intro hm
    rw [← List.mem_singleton.mp hm] at hc
    rcases hc with hc | hc
    · exact LLive pD4 hc
    · exact DL hc
  · rw [Nat.zero_add] at hv
    obtain ⟨ti, rfl⟩ := hv
    obtain ⟨b1, b2, b3⟩ := hSt_bound path i
    have sub1 : ∀ {a b : Heap}, SubX [L] a b → SubX [L, D] a b := fun x => x.mono fun c hc => by rw [List.mem_singleton.mp hc]; exact List.mem_cons_self
    have liveLD : ∀ m ∈ [L, D], hB.get? m ≠ none := fun m hm => by
      refine Live.ofSub kB m ?_
      rcases List.mem_cons.mp hm with zz | hm
      · rw [zz]; exact ns_live F4.ns
      · rw [List.mem_singleton.mp hm]; exact LLive pD4
    have nL : D ∉ [L] := not_mem1 DL
    have lvf : ∀ {hh : Heap} {mm : Str → Option Value} {zs : List Value}, Fr h₀ L hh mm → hh.PlainList D zs.toArray → ∀ b ∈ [L, D], hh.get? b ≠ none := fun F p b hb => by
      rcases List.mem_cons.mp hb with zz | hb
      · rw [zz]; exact ns_live F.ns
      · rw [List.mem_singleton.mp hb]; exact LLive p
    refine st_if (b := (i == path.length || path[i]? == some 47)) (PV.or2 (a := i == path.length) ((PV.test (PV.locI F'.ns rfl) (PV.len (PV.boot (G0.up (fr_sub F')) (gl_len _) bo_len) (PV.locS F'.ns (by exact e1)) (by rw [S_len, szL]; omega)) fun a b ha hb => cmp_eqI ha hb).asB (by rw [S_len, intBeq])) fun hne => ?_) fun h5 t5 k5 => ?_
    · have hlt : i < path.length := by
        have : i ≠ path.length := by simpa using hne
        omega
      exact (PV.test (pv_at (k := i) (PV.locS F'.ns (by exact e1)) (PV.locI F'.ns rfl) (by omega) (List.getElem?_eq_getElem hlt)) (PV.str.as lit_sl) fun a b ha hb => cmp_eqS ha hb).asB (by rw [S_beq, List.getElem?_eq_getElem hlt]; simp)
    have F5 := fr_up F' k5
    have X5 := X.trans k5.toX
    have py5 := py.at fun o e => k5 D o e
    have ry5 := Paired.keepR NewRow.res (ms := []) (by simp) k5.toX ry
    cases hc : (i == path.length || path[i]? == some 47) with
    | false =>
      simp only [Bool.false_eq_true, if_false]
      have hs1 : hSt path (i + 1) = hSt path i := by rw [hSt_succ]; unfold hStep; rw [hc]; simp
      refine wpAny_execs_nil (wpAny_execs_nil ⟨_, F5, ⟨⟨g1, g2, g3⟩, X5, e1, e2, ?_, e4, ?_, ?_⟩, k5.toX, lvf F5 py5⟩)
      · rw [hs1]; exact ⟨tst, e3⟩
      · rw [hs1]; exact ⟨tsa, e5⟩
      · rw [hs1]; exact ⟨ys, py5, ry5⟩
    | true =>
      simp only [if_true]
      have hil : i ≤ path.length := by omega
      refine st_assignV F5 ((PV.slice2 (PV.locS F5.ns (by exact e1)) (PV.locI F5.ns (by exact e5)) (PV.locI F5.ns rfl) (by rw [S_len, szL]; omega)).as (S_part path _ i b1 hil)) fun v h6 t6 hv X6 F6 => ?_
      obtain ⟨tp, rfl⟩ := hv
      have hpl : ((path.drop (hSt path i).1).take (i - (hSt path i).1)).length ≤ i - (hSt path i).1 := by rw [List.length_take]; omega
      generalize hpc : (path.drop (hSt path i).1).take (i - (hSt path i).1) = pc at hpl F6 ⊢
      refine st_assignV F6 ((PV.addI (PV.locI F6.ns rfl) PV.int).asI (y := ((i + 1 : Nat) : Int)) (by push_cast; rfl)) fun v h7 t7 hv X7 F7 => ?_
      obtain ⟨tn, rfl⟩ := hv
      have X57 := X6.trans X7
      refine st_if (b := !(pc == [])) ((PV.test (PV.locS F7.ns rfl) (PV.str.as lit_nil) fun a b ha hb => cmp_neS ha hb).asB (by rw [S_beq])) fun h8 t8 k8 => ?_
      have F8 := fr_up F7 k8
      have X58 := X57.trans k8.toX
      by_cases hp0 : pc = []
      · subst hp0
        simp only [beq_self_eq_true, Bool.not_true, Bool.false_eq_true, if_false]
        have hs1 : hSt path (i + 1) = (i + 1, (hSt path i).2.1, (hSt path i).2.2) := by rw [hSt_succ]; unfold hStep; rw [hc, if_pos rfl, if_pos hpc]
        refine wpAny_execs_nil (wpAny_execs_nil (wpAny_execs_nil ⟨_, F8, ⟨⟨g1, g2, g3⟩, X5.trans (sub1 X58), e1, e2, ?_, e4, ?_, ?_⟩, k5.toX.trans (sub1 X58), lvf F8 (LRes py5 X58 nL)⟩))
        · rw [hs1]; exact ⟨tst, e3⟩
        · rw [hs1]; exact ⟨tn, rfl⟩
        · rw [hs1]; exact ⟨ys, LRes py5 X58 nL, Paired.keepR NewRow.res liveLD (sub1 X58) ry5⟩
      · rw [beq_eq_false_iff_ne.mpr hp0]
        simp only [Bool.not_false, if_true]
        refine st_ifset (b := !(pc == [46])) (V := IsS (S (if (hSt path i).2.1 = rootL path then rootL path ++ pc else (hSt path i).2.1 ++ [47] ++ pc))) F8 ((PV.test (PV.locS F8.ns rfl) (PV.str.as lit_dot) fun a b ha hb => cmp_neS ha hb).asB (by rw [S_beq])) (fun _ => ?_) fun m9 h9 t9 hm9 hx1 hx2 X9 F9 => ?_
        · have hrl := rootL_len path
          refine pe_ifexp (c := (hSt path i).2.1 == rootL path) ((PV.test (PV.locS F8.ns (by exact e3)) (PV.locS F8.ns (by exact e2)) fun a b ha hb => cmp_eqS ha hb).asB (S_beq _ _)) (fun hb => ?_) (fun hb => ?_)
          · rw [if_pos (beq_iff_eq.mp hb)]
            exact (PV.addS (PV.locS F8.ns (by exact e2)) (PV.locS F8.ns rfl) (by rw [S_len, S_len, szL]; omega)).as (S_cat _ _)
          · rw [if_neg (beq_eq_false_iff_ne.mp hb)]
            exact (PV.addS ((PV.addS (PV.locS F8.ns (by exact e3)) (PV.str.as lit_sl) (by rw [S_len, S_len, szL]; simp; omega)).as (S_cat _ _)) (PV.locS F8.ns rfl) (by rw [S_len, S_len, szL]; simp; omega)).as (S_cat _ _)
        · obtain ⟨sg, hsg, tsg, e3'⟩ : ∃ sg, hSt path (i + 1) = (i + 1, sg, (hSt path i).2.2 ++ [(path.take i, sg)]) ∧ ∃ t, m9 "straight" = some (.str (S sg) t) := by
            have hs1 : hSt path (i + 1) = hStep path (rootL path) (hSt path i) i := hSt_succ path i
            unfold hStep at hs1
            rw [hc, if_pos rfl, hpc, if_neg hp0] at hs1
            by_cases hd : pc = [46]
            · rw [if_pos hd] at hs1
              refine ⟨_, hs1, tst, ?_⟩
              rw [hx2 (by rw [hd]; rfl)]; exact e3
            · rw [if_neg hd] at hs1
              obtain ⟨v, ⟨t, rfl⟩, hv⟩ := hx1 (by rw [beq_eq_false_iff_ne.mpr hd]; rfl)
              exact ⟨_, hs1, t, hv⟩
          have X59 := X58.trans X9
          have pD9 := LRes py5 X59 nL
          have m9e : ∀ y : Str, y ≠ "straight" → m9 y = upd (upd (upd m' "k" (.int i ti)) "piece" (.str (S pc) tp)) "start" (.int ((i + 1 : Nat) : Int) tn) y := hm9
          refine st_append F9 (PV.loc F9.ns (by exact (m9e _ (by decide)).trans e4)) pD9 (PE.tuple2 (Va := IsS (S (path.take i))) (Vb := IsS (S sg)) ((PV.sliceTo (PV.locS F9.ns (by exact (m9e _ (by decide)).trans e1)) (PV.locI F9.ns (by exact (m9e _ (by decide)).trans rfl)) (by rw [S_len, szL]; omega)).as (S_to path i hil)) (PV.locS F9.ns e3')) (by have := ry.length; omega) DL nD0 fun v h10 h11 t11 k10 ⟨T, u, z, ev, nT, gT, hu, hz⟩ X11 F11 pD11 => ?_
          have X911 : SubX [L, D] h9 h11 := k10.toX.trans (X11.mono fun c hc => by rw [List.mem_singleton.mp hc]; simp)
          have TD : T ∉ [D] := fun hm => by rw [List.mem_singleton.mp hm] at nT; obtain ⟨_, e⟩ := pD9; rw [nT] at e; cases e
          refine wpAny_execs_nil (wpAny_execs_nil (wpAny_execs_nil ⟨_, F11, ⟨⟨g1, g2, g3⟩, (X5.trans (sub1 X59)).trans X911, (m9e _ (by decide)).trans e1, (m9e _ (by decide)).trans e2, ?_, (m9e _ (by decide)).trans e4, ?_, ?_⟩, (k5.toX.trans (sub1 X59)).trans X911, lvf F11 pD11⟩))
          · rw [hsg]; exact ⟨tsg, e3'⟩
          · rw [hsg]; exact ⟨tn, (m9e _ (by decide)).trans rfl⟩
          · rw [hsg]
            refine ⟨ys ++ [v], pD11, Paired.snoc (Paired.keepR NewRow.res liveLD ((sub1 X59).trans X911) ry5) ⟨T, u, z, ev, ?_, X11 T _ TD gT, hu, hz⟩⟩
            cases hq : hB.get? T with
            | none => rfl
            | some o => exact absurd nT (liveX lvB (k5.toX.trans (sub1 X59)) (lvf F9 pD9) T (live_of hq))
  · refine st_ret (PV.loc F'.ns e4) fun v h5 t5 k5 hv => ?_
    subst hv
    rw [g1, g2, g3]
    have liveB : Live h₀ hB := Live.ofSub ((fr_sub F4).trans kB)
    exact q _ h5 t5 ((fr_sub F').trans k5) ⟨D, ys, rfl, hs.none nD0, py.at fun o e => k5 D o e, Paired.baseR NewRow.res ((Live.ofSub hs).trans liveB) (Paired.keepR NewRow.res (ms := []) (by simp) k5.toX ry)⟩
end Mine
end
section
open PySem PySem.W PyProof.Rows
open SeqAt
set_option maxRecDepth 100000
namespace Mine
noncomputable def oStep (root : List Nat) (acc : List (List Nat)) (t : List Nat) : List (List Nat) := if (!(t == root) && !acc.contains t) = true then acc ++ [t] else acc
noncomputable def onceL (texts : List (List Nat)) (root : List Nat) : List (List Nat) := texts.foldl (oStep root) []
noncomputable def oSt (texts : List (List Nat)) (root : List Nat) (i : Nat) : List (List Nat) := (texts.take i).foldl (oStep root) []
theorem oSt_succ (texts : List (List Nat)) (root : List Nat) {i : Nat} {t : List Nat} (h : texts[i]? = some t) : oSt texts root (i + 1) = oStep root (oSt texts root i) t := by
  unfold oSt
  rw [List.take_add_one, h, List.foldl_append]; rfl
theorem oStep_len (root : List Nat) (acc : List (List Nat)) (t : List Nat) : (oStep root acc t).length ≤ acc.length + 1 := by
  unfold oStep; split <;> simp
theorem oSt_len (texts : List (List Nat)) (root : List Nat) : ∀ i, (oSt texts root i).length ≤ i
  | 0 => by simp [oSt]
  | i + 1 => by
    have ih := oSt_len texts root i
    cases h : texts[i]? with
    | some t => rw [oSt_succ texts root h]; have := oStep_len root (oSt texts root i) t; omega
    | none =>
      have : oSt texts root (i + 1) = oSt texts root i := by unfold oSt; rw [List.take_add_one, h]; simp
      rw [this]; omega
noncomputable def isTxt (x : List Nat) : Value → Bool
  | .str y _ => y == S x
  | _ => false
theorem any_isTxt {vs : List Value} {xs : List (List Nat)} (h : Strs vs xs) (x : List Nat) : vs.any (isTxt x) = xs.contains x := by
  induction vs generalizing xs with
  | nil => cases xs with
    | nil => rfl
    | cons => exact h.elim
  | cons v r ih => cases xs with
    | nil => exact h.elim
    | cons y ys =>
      obtain ⟨⟨t, rfl⟩, h2⟩ := h
      rw [List.any_cons, List.contains_cons, ih h2]
      show (S y == S x || _) = _
      rw [S_beq]
      congr 1
      rw [Bool.eq_iff_iff, beq_iff_eq, beq_iff_eq]; exact eq_comm
theorem mem_strs {vs : List Value} {xs : List (List Nat)} (h : Strs vs xs) {y : Value} (hy : y ∈ vs) : ∃ x, IsS (S x) y := by
  obtain ⟨j, hj, e⟩ := List.getElem_of_mem hy
  obtain ⟨x, _, hx⟩ := h.get (List.getElem?_eq_getElem hj)
  exact ⟨x, e ▸ hx⟩
section
variable {prog : Program} {w : World} {A : Around} {h : Heap}
theorem eqAt_txt {A : Around} {s : Shared} {x y : List Nat} {t u : Tok} : EqAt A s (.str (S y) t) (.str (S x) u) (isTxt x (.str (S y) t)) := EqAt.str_str (S y) t (S x) u
theorem cmp_notIn {a b : Value} {D : Addr} {x : List Nat} {xs : List (List Nat)} (ha : IsS (S x) a) (hb : b = .ref D) (hD : LI h D xs) : PV prog w A h (compareOp .NotIn a b) (· = .bool (!xs.contains x)) := by
  obtain ⟨t, rfl⟩ := ha
  subst hb
  intro s Q E hs q
  obtain ⟨vs, il, ss⟩ := hD.up hs
  refine notIn_listAt (isTxt x) il (fun y hy => ?_) (q _ s.heap s.toks Sub.rfl (by rw [← any_isTxt ss]; simp))
  obtain ⟨z, u, rfl⟩ := mem_strs ss (by simpa using hy)
  exact eqAt_txt
theorem cmp_in {a b : Value} {D : Addr} {x : List Nat} {xs : List (List Nat)} (ha : IsS (S x) a) (hb : b = .ref D) (hD : LI h D xs) : PV prog w A h (compareOp .In a b) (· = .bool (xs.contains x)) := by
  obtain ⟨t, rfl⟩ := ha
  subst hb
  intro s Q E hs q
  obtain ⟨vs, il, ss⟩ := hD.up hs
  refine in_listAt (isTxt x) il (fun y hy => ?_) (q _ s.heap s.toks Sub.rfl (by rw [← any_isTxt ss]; simp))
  obtain ⟨z, u, rfl⟩ := mem_strs ss (by simpa using hy)
  exact eqAt_txt
end
set_option maxHeartbeats 2000000 in
theorem once_S {prog : Program} {w : World} {A : Around} {h : Heap} {n : Nat} {a : Value} {T : Addr} {texts : List (List Nat)} {root : List Nat} (G : G0 w h) (O : AOk (n + 3) A) (hT : LI h T texts) (ha : IsS (S root) a) (hl : texts.length ≤ 100000) :
    PE prog w A h (call (.ref 153) [.ref T, a]) (fun v h' => NewLS h h' v (onceL texts root)) := by
  obtain ⟨ta, rfl⟩ := ha
  refine call_def G O rfl (by kernel_rfl) rfl (locs rfl) (by decide) rfl rfl rfl fun s h₀ L Q E hs G0 O0 F q => ?_
  refine st_assign F pe_nil fun v h3 h3' t3 k3 ⟨D, ev, nD, pD⟩ kX F3 => ?_
  subst ev
  have DL : D ≠ L := fun z => by obtain ⟨_, _, _, ho, _⟩ := F.ns; have : s.heap.get? L = none := z ▸ nD; rw [ho] at this; cases this
  have pD3 := LRes pD kX (not_mem1 DL)
  have nD0 : h₀.get? D = none := (fr_sub F).none nD
  obtain ⟨vs, it, ss⟩ := (hT.up (hs.trans (fr_sub F3))).it
  have TD : T ≠ D := fun z => by rw [z] at hT; exact hT.live (hs.none nD0)
  obtain ⟨oT, hoT⟩ : ∃ o, h₀.get? T = some o := by
    cases q : h₀.get? T with
    | none => exact absurd (hs.none q) hT.live
    | some o => exact ⟨o, rfl⟩
  have TL : T ≠ L := fun z => by
    have := Heap.lt_size hoT
    rw [z] at this
    exact absurd this (Nat.not_lt.mpr F.above)
  refine st_for_list (ms := [L, D]) (V := fun x v => IsS (S x) v) (fun _ i m s' => (s'.gens = s.gens ∧ s'.drawn = s.drawn ∧ s'.os = s.os) ∧ SubX [L, D] h3' s'.heap ∧ m "root" = some (.str (S root) ta) ∧ m "once" = some (.ref D) ∧ LS s'.heap D (oSt texts root i))
    O0.h F3 (PV.loc F3.ns rfl) it ss.paired (by simp [TL, TD]) (fun c hc => ?_)
    (fun hB tk k => ⟨⟨rfl, rfl, rfl⟩, k.toX, rfl, rfl, [], pD3.at fun o e => k D o e, trivial⟩)
    (fun hB i m' s' h' tk c kB hcl hc ⟨gs, X, e1, e2, l⟩ X' => ⟨gs, fun d o hd e => ?_, e1, e2, l.upX X' ?_⟩)
    (fun hB i x v m' s' E' kB hxi hv F' lvB ⟨⟨g1, g2, g3⟩, X, e1, e2, l⟩ => ?_) fun hB m' s' kB F' ⟨⟨g1, g2, g3⟩, X, e1, e2, l⟩ => ?_
  · rcases List.mem_cons.mp hc with zz | hc
    · rw [zz]; exact ns_live F3.ns
    · rw [List.mem_singleton.mp hc]; exact LLive pD3
  · refine X' d o (fun hm => ?_) (X d o hd e)
    rw [List.mem_singleton.mp hm] at e hd
    rcases hc with hc | hc
    · have : h3'.get? c = none := hc
      rw [this] at e; cases e
    · exact hd (by rw [hc]; exact List.mem_cons_self)
  · intro hm
    rw [← List.mem_singleton.mp hm] at hc
    rcases hc with hc | hc
    · exact LLive pD3 hc
    · exact DL hc
  · obtain ⟨tv, rfl⟩ := hv
    have lvf : ∀ {hh : Heap} {mm : Str → Option Value} {zs : List (List Nat)}, Fr h₀ L hh mm → LS hh D zs → ∀ b ∈ [L, D], hh.get? b ≠ none := fun F p b hb => by
      rcases List.mem_cons.mp hb with zz | hb
      · rw [zz]; exact ns_live F.ns
      · rw [List.mem_singleton.mp hb]; obtain ⟨o, e⟩ := p.some; exact live_of e
    have hs1 := oSt_succ texts root hxi
    refine st_if (b := !(x == root) && !(oSt texts root i).contains x) (PV.and2 ((PV.test (PV.locS F'.ns rfl) (PV.locS F'.ns (by exact e1)) fun a b ha hb => cmp_neS ha hb).asB (by rw [S_beq])) fun _ => PV.test (PV.locS F'.ns rfl) (PV.loc F'.ns (by exact e2)) fun a b ha hb => cmp_notIn ha hb l.li) fun h5 t5 k5 => ?_
    have F5 := fr_up F' k5
    have X5 := X.trans k5.toX
    have l5 := l.up k5
    cases hc : (!(x == root) && !(oSt texts root i).contains x) with
    | false =>
      simp only [Bool.false_eq_true, if_false]
      refine wpAny_execs_nil (wpAny_execs_nil ⟨_, F5, ⟨⟨g1, g2, g3⟩, X5, e1, e2, ?_⟩, k5.toX, lvf F5 l5⟩)
      rw [hs1]; unfold oStep; rw [hc]; exact l5
    | true =>
      simp only [if_true]
      obtain ⟨ws, pw, sw⟩ := l5
      refine st_append F5 (PV.loc F5.ns (by exact e2)) pw (PV.locS F5.ns rfl) (by have := sw.len; have := oSt_len texts root i; have := (List.getElem?_eq_some_iff.mp hxi).1; omega) DL nD0 fun v h10 h11 t11 k10 hv X11 F11 pD11 => ?_
      have l11 : LS h11 D (oSt texts root (i + 1)) := by
        rw [hs1]; unfold oStep; rw [hc]
        exact ⟨_, pD11, sw.app (.one hv)⟩
      have X511 : SubX [L, D] h5 h11 := k10.toX.trans (X11.mono fun c hc => by rw [List.mem_singleton.mp hc]; simp)
      exact wpAny_execs_nil (wpAny_execs_nil ⟨_, F11, ⟨⟨g1, g2, g3⟩, X5.trans X511, e1, e2, l11⟩, k5.toX.trans X511, lvf F11 l11⟩)
  · refine st_ret (PV.loc F'.ns e2) fun v h5 t5 k5 hv => ?_
    subst hv
    rw [g1, g2, g3]
    refine q _ h5 t5 ((fr_sub F').trans k5) ⟨D, rfl, hs.none nD0, ?_⟩
    have e : oSt texts root texts.length = onceL texts root := by unfold oSt onceL; rw [List.take_length]
    rw [← e]; exact l.up k5
end Mine
end
section
open PySem PySem.W PyProof.Rows
set_option maxRecDepth 100000
namespace Mine
section
variable {prog : Program} {w : World} {A : Around} {h : Heap} {env : Env} {o e e₁ e₂ l r : Expr} {apos pos p sp : Pos} {E : Value → Shared → Prop} {s : Shared}
theorem pv_neg {i : Int} (he : PV prog w A h (eval e env) (IsI i)) : PV prog w A h (eval (.UnaryOp .USub e pos) env) (IsI (-i)) := by
  intro s Q E hs q
  refine wpAny_UnaryOp (he s _ E hs fun v h1 t1 k1 hv => ?_)
  obtain ⟨t, rfl⟩ := hv
  exact PyProof.Rows.neg_int (q _ h1 _ k1 ⟨_, rfl⟩)
theorem pv_mod {a b : Int} (hb : b ≠ 0) (hl : PV prog w A h (eval l env) (IsI a)) (hr : PV prog w A h (eval r env) (IsI b)) : PV prog w A h (eval (.BinOp l .Mod r pos) env) (IsI (a.fmod b)) :=
  PE.binop hl hr fun _ _ ⟨_, ea⟩ ⟨_, eb⟩ => by subst ea; subst eb; exact fun s _ _ _ q => PyProof.Rows.mod_int hb (q _ s.heap _ Sub.rfl ⟨_, rfl⟩)
theorem pv_div8 {a : Int} (hl : PV prog w A h (eval l env) (IsI a)) (hr : PV prog w A h (eval r env) (IsI 8)) : PV prog w A h (eval (.BinOp l .FloorDiv r pos) env) (IsI (a.fdiv 8)) :=
  PE.binop hl hr fun _ _ ⟨_, ea⟩ ⟨_, eb⟩ => by subst ea; subst eb; exact fun s _ _ _ q => floordiv_int (by decide) (q _ s.heap _ Sub.rfl ⟨_, rfl⟩)
theorem cmp_ltI {a b : Value} {x y : Int} (ha : IsI x a) (hb : IsI y b) : PV prog w A h (compareOp .Lt a b) (· = .bool (decide (x < y))) := by
  obtain ⟨t, rfl⟩ := ha; obtain ⟨u, rfl⟩ := hb
  exact fun s _ _ _ q => wpAny_lt_int (q _ s.heap s.toks Sub.rfl rfl)
theorem pv_lenL {D : Addr} {vs : List Value} {f : Str} {np : Pos} (hf : PV prog w A h (eval (.Name f np) env) (· = .builtin "len")) (ha : PV prog w A h (eval e env) (· = .ref D)) (hl : h.IsList D vs.toArray) (hn : vs.length ≤ 1000000) (hs : starEach [e] env = (false, eval e env) :: starEach [] env := by rfl) :
    PV prog w A h (eval (.Call (.Name f np) [e] [] pos) env) (IsI vs.length) :=
  PE.call1 hf ha (fun v h₁ k hv => by
    subst hv
    exact fun s _ _ hss q => PyProof.Rows.len_list (items := vs.toArray) ((hl.at fun o e => (k.trans hss) _ o e)) (by simp; omega) (q _ s.heap _ Sub.rfl ⟨_, by simp; rfl⟩)) hs
/-- the last of a list -/
theorem pv_last {D : Addr} {vs : List Value} {x : Value} (ho : PV prog w A h (eval o env) (· = .ref D)) (hl : h.IsList D vs.toArray) (hi : PV prog w A h (eval e env) (IsI (-1))) (hx : vs[vs.length - 1]? = some x)
    (hs : ∀ u, subscripted e false (.ref D) (.int (-1) u) = operate [.ref D, .int (-1) u] (getItem (.ref D) (.int (-1) u)) := by intro _; with_unfolding_all rfl) (hg : ∀ r, letTemporaryGo o (.ref D) r = Pure.pure () := by intro _; with_unfolding_all rfl) :
    PV prog w A h (eval (.Subscript o e pos) env) (· = x) := by
  intro s Q E hss q
  refine Subscript_ (ho s _ E hss fun v h1 t1 k1 hv => hi _ _ E (hss.trans k1) fun u h2 t2 k2 hu => ?_)
  subst hv
  obtain ⟨t, rfl⟩ := hu
  have hlt := (List.getElem?_eq_some_iff.mp hx).1
  have il : Heap.IsList h2 D vs.toArray := (hl.at fun o e => ((hss.trans k1).trans k2) _ o e)
  refine subscriptTail_builtin il.typeIs slot_list_getitem.lookup (wpAny_getItem_list_neg (x := x) il (by decide) (by simp; omega) (by decide) ?_ (q _ h2 t2 (k1.trans k2) rfl)) (hs t) hg
  have : ((-1 : Int) + (vs.toArray.size : Nat)).toNat = vs.length - 1 := by simp; omega
  rw [this]; simpa using hx
theorem set_last {D : Addr} {vs : List Value} {t : Tok} {v : Value} {Q : Unit → Shared → Prop} (hl : s.heap.PlainList D vs.toArray) (hn : 0 < vs.length)
    (q : ∀ h', h'.PlainList D (vs.set (vs.length - 1) v).toArray → Heap.SameBut D s.heap h' → Q () { s with heap := h' }) : wpAny (model prog w) A (setItem (.ref D) (.int (-1) t) v) Q E s := by
  obtain ⟨n, ho⟩ := hl
  have hT : s.TypeIs (.ref D) "list" := ⟨_, ho, rfl⟩
  unfold setItem
  try with_reducible refine wpAny_holding ?_
  first | refine wpAny_bind (wpAny_pure ?_) | skip
  refine wpAny_bind (wpAny_sequenceKey hT (by decide) ?_)
  refine wpAny_bind (wpAny_callSpecial?_slot (name := Str.ofString "__setitem__") hT slot_list_setitem
    (wpAny_call_entry slot_list_setitem hT entry_list_setitem ?_ (args_list_setitem _ _ _)))
  show wpAny _ _ (Builtin.List.listSubscript? (.int (-1) t) >>= _) _ _ s
  refine wpAny_bind (wpAny_listSubscript_int (fitsIndex_neg (by decide) (by decide)) ?_)
  have hidx : seqIndex? (Int.negSucc 0) vs.toArray.size = some (vs.length - 1) := by
    have := seqIndex_neg (k := -1) (n := vs.toArray.size) (by decide) (by simp; omega)
    rw [show Int.negSucc 0 = -1 from rfl, this]; congr 1; simp; omega
  show wpAny _ _ ((Builtin.List.listItems (.ref D) >>= fun xs => Pure.pure ((seqIndex? (Int.negSucc 0) xs.size).bind fun i => xs[i]?.map (i, ·))) >>= _) _ _ s
  refine wpAny_bind (wpAny_bind ?_)
  show wpAny _ _ (seqItems? (.ref D) >>= _) _ _ s
  refine wpAny_bind (wpAny_seqItems ho rfl (wpAny_pure (wpAny_pure ?_)))
  rw [hidx]
  have hx : vs.toArray[vs.length - 1]? = some (vs[vs.length - 1]'(by omega)) := by simp
  simp only [Option.bind_some, hx, Option.map_some]
  refine wpAny_bind (wpAny_setSeqItemAt ho rfl ?_)
  have fin : ∀ h', h' = s.heap.update D (Obj.mapSeq (·.setIfInBounds (vs.length - 1) v)) → h'.PlainList D (vs.set (vs.length - 1) v).toArray := by
    rintro h' rfl
    have e : Obj.mapSeq (fun x => x.setIfInBounds (vs.length - 1) v) { cls := .type "list", data := .seq vs.toArray n } = { cls := .type "list", data := .seq (vs.set (vs.length - 1) v).toArray n } := by simp [Obj.mapSeq]
    exact ⟨n, (Heap.get?_update_self _ ho (by rw [e]; rfl)).trans (by rw [e])⟩
  first
    | exact wpAny_bind (wpAny_pure (wpAny_pure ⟨.none, rfl, wpAny_pure (q _ (fin _ rfl) (Heap.SameBut.update ..))⟩))
    | exact wpAny_pure ⟨.none, rfl, wpAny_pure (q _ (fin _ rfl) (Heap.SameBut.update ..))⟩
end
end Mine
end
section
open PySem PySem.W PyProof.Rows
set_option maxRecDepth 100000
namespace Mine
noncomputable def intOf : Value → Int
  | .int n _ => n
  | _ => 0
section
variable {prog : Program} {w : World} {A : Around} {h : Heap} {env : Env} {o e e₁ e₂ l r : Expr} {apos pos p sp : Pos} {E : Value → Shared → Prop} {s : Shared}
/-- the entries of a display -/
noncomputable def Disp (prog : Program) (w : World) (A : Around) (h : Heap) (env : Env) (V : Value → Prop) : List Expr → Prop
  | [] => True
  | e :: es => PV prog w A h (eval e env) V ∧ starEach (e :: es) env = (false, eval e env) :: starEach es env ∧ Disp prog w A h env V es
theorem disp_items {V : Value → Prop} : ∀ {es : List Expr} {h : Heap}, Disp prog w A h env V es → ∀ (s : Shared) (Q : List Value → Shared → Prop) (E : Value → Shared → Prop), Sub h s.heap →
    (∀ vs h' tk, Sub s.heap h' → vs.length = es.length → (∀ v ∈ vs, V v) → Q vs { s with heap := h', toks := tk }) → wpAny (model prog w) A (spliced (backTo pos (starEach es env))) Q E s
  | [], h, _, s, Q, E, hs, q => wpAny_items_nil (q [] s.heap s.toks Sub.rfl rfl (by simp))
  | e :: es, h, d, s, Q, E, hs, q => wpAny_items_cons (d.1 s _ E hs fun v h1 t1 k1 hv => disp_items d.2.2 _ _ E (hs.trans k1) fun vs h2 t2 k2 hl ha => q (v :: vs) h2 t2 (k1.trans k2) (by simp [hl]) (by
      intro u hu
      rcases List.mem_cons.mp hu with zz | hu
      · rw [zz]; exact hv
      · exact ha u hu)) d.2.1
theorem pe_display {V : Value → Prop} {es : List Expr} (d : Disp prog w A h env V es) (hn : es.length ≤ 100000) :
    PE prog w A h (eval (.List es pos) env) (fun v h' => ∃ (D : Addr) (vs : List Value), v = .ref D ∧ h.get? D = none ∧ h'.PlainList D vs.toArray ∧ vs.length = es.length ∧ ∀ v ∈ vs, V v) := by
  intro s Q E hs q
  refine wpAny_List (disp_items d s _ E hs fun vs h' tk k hl ha => ⟨by rw [hl, szL]; omega, ?_⟩)
  exact q _ _ tk (k.trans (Sub.push _ _)) ⟨_, vs, rfl, (hs.trans k).none (get_none_size _), ⟨_, Heap.get?_push_size _ rfl⟩, hl, ha⟩
theorem strs_all {vs : List Value} {P : List Nat → Prop} (h : ∀ v ∈ vs, ∃ y, IsS (S y) v ∧ P y) : ∃ ys, Strs vs ys ∧ ∀ y ∈ ys, P y := by
  induction vs with
  | nil => exact ⟨[], trivial, by simp⟩
  | cons v r ih =>
    obtain ⟨ys, a, b⟩ := ih fun u hu => h u (List.mem_cons_of_mem _ hu)
    obtain ⟨y, hy, py⟩ := h v List.mem_cons_self
    refine ⟨y :: ys, ⟨hy, a⟩, fun z hz => ?_⟩
    rcases List.mem_cons.mp hz with zz | hz
    · rw [zz]; exact py
    · exact b z hz
/-- an entry of a list that was just made -/
theorem pe_itemE {V : Value → Prop} {n : Nat} (ho : PE prog w A h (eval o env) (fun v h' => ∃ (D : Addr) (vs : List Value), v = .ref D ∧ h.get? D = none ∧ h'.PlainList D vs.toArray ∧ vs.length = n ∧ ∀ v ∈ vs, V v)) (hi : PV prog w A h (eval e env) (fun v => ∃ k, IsI k v ∧ 0 ≤ k ∧ k < n)) (hn : n ≤ 100000)
    (hs : ∀ D k u, subscripted e false (.ref D) (.int k u) = operate [.ref D, .int k u] (getItem (.ref D) (.int k u)) := by intro _ _ _; with_unfolding_all rfl) :
    PV prog w A h (eval (.Subscript o e pos) env) V := by
  intro s Q E hss q
  refine Subscript_ (ho s _ E hss fun v h1 t1 k1 ⟨D, vs, hv, _, pD, hl, ha⟩ => hi _ _ E (hss.trans k1) fun u h2 t2 k2 hu => ?_)
  subst hv
  obtain ⟨k, ⟨t, rfl⟩, h0, hk⟩ := hu
  have il := (pD.at fun o e => k2 D o e).isList
  have hlt : k.toNat < vs.length := by omega
  exact tail_any il.typeIs slot_list_getitem.lookup (wpAny_getItem_list (x := vs[k.toNat]) il h0 (by omega) (by simp [hlt]) (q _ h2 t2 (k1.trans k2) (ha _ (List.getElem_mem hlt)))) (hs D k t)
theorem pv_modE {b : Int} (hb : 0 < b) (hl : PV prog w A h (eval l env) (fun v => ∃ i, IsI i v)) (hr : PV prog w A h (eval r env) (IsI b)) : PV prog w A h (eval (.BinOp l .Mod r pos) env) (fun v => ∃ k, IsI k v ∧ 0 ≤ k ∧ k < b) :=
  PE.binop hl hr fun _ _ ⟨a, _, ea⟩ ⟨_, eb⟩ => by subst ea; subst eb; exact fun s _ _ _ q => PyProof.Rows.mod_int (by omega) (q _ s.heap _ Sub.rfl ⟨_, ⟨_, rfl⟩, Int.fmod_nonneg_of_pos a hb, Int.fmod_lt_of_pos a hb⟩)
/-- the last entry of a list, wherever it comes from -/
theorem pv_lastE {x : Value} (ho : PE prog w A h (eval o env) (fun v h' => ∃ (D : Addr) (vs : List Value), v = .ref D ∧ h'.IsList D vs.toArray ∧ vs[vs.length - 1]? = some x)) (hi : PV prog w A h (eval e env) (IsI (-1)))
    (hs : ∀ D u, subscripted e false (.ref D) (.int (-1) u) = operate [.ref D, .int (-1) u] (getItem (.ref D) (.int (-1) u)) := by intro _ _; with_unfolding_all rfl) :
    PV prog w A h (eval (.Subscript o e pos) env) (· = x) := by
  intro s Q E hss q
  refine Subscript_ (ho s _ E hss fun v h1 t1 k1 ⟨D, vs, hv, hl, hx⟩ => hi _ _ E (hss.trans k1) fun u h2 t2 k2 hu => ?_)
  subst hv
  obtain ⟨t, rfl⟩ := hu
  have hlt := (List.getElem?_eq_some_iff.mp hx).1
  have il : Heap.IsList h2 D vs.toArray := (hl.at fun o e => k2 _ o e)
  refine tail_any il.typeIs slot_list_getitem.lookup (wpAny_getItem_list_neg (x := x) il (by decide) (by simp; omega) (by decide) ?_ (q _ h2 t2 (k1.trans k2) rfl)) (hs D t)
  have : ((-1 : Int) + (vs.toArray.size : Nat)).toNat = vs.length - 1 := by simp; omega
  rw [this]; simpa using hx
/-- a text's first part, the text from anywhere -/
theorem pv_sliceToE {x : Str} {j : Int} (ho : PV prog w A h (eval o env) (IsS x)) (hj : PV prog w A h (eval e env) (IsI j)) (hx : x.length ≤ sizeLine)
    (hs : ∀ t a, subscripted (.Slice none (some e) none sp) false (.str x t) (.ref a) = operate [.ref a, .str x t] (getItem (.str x t) (.ref a)) := by intro _ _; with_unfolding_all rfl) :
    PV prog w A h (eval (.Subscript o (.Slice none (some e) none sp) pos) env) (IsS (Txt.slice x none (some j))) := by
  intro s Q E hss q
  refine Subscript_ (ho s _ E hss fun v h1 t1 k1 hv => wpAny_Slice ?_)
  rw [evalPart_none]
  refine wpAny_pure ?_
  rw [evalPart_some]
  refine hj _ _ E (hss.trans k1) fun u h2 t2 k2 hu => ?_
  refine wpAny_pure ?_
  obtain ⟨t, rfl⟩ := hv; obtain ⟨uj, rfl⟩ := hu
  refine tail_any (typeIs_str _ _ _) slot_str_getitem.lookup (wpAny_getItem_str_slice (l := none) (u := some (j, uj)) (st := none) ⟨_, Heap.get?_push_size _ rfl, rfl, rfl⟩ rfl (post_val_or_str ⟨Nat.le_trans (Txt.slice_le x _ _) hx, fun t' k => q _ _ k ((k1.trans k2).trans (Sub.push _ _)) ⟨t', rfl⟩⟩)) (hs t _)
/-- chr of a small number -/
theorem pv_chr {f : Str} {np : Pos} (hf : PV prog w A h (eval (.Name f np) env) (· = .builtin "chr")) (he : PV prog w A h (eval e env) (fun v => ∃ k, IsI k v ∧ 0 ≤ k ∧ k < 55296)) (hs : starEach [e] env = (false, eval e env) :: starEach [] env := by rfl) :
    PV prog w A h (eval (.Call (.Name f np) [e] [] pos) env) (fun v => ∃ z, IsS (S z) v ∧ z.length ≤ 2) :=
  PE.call1 hf he (fun v h₁ _ ⟨k, ⟨t, hv⟩, h0, h1⟩ => by subst hv; exact fun s _ _ _ q => chr_of_range h0 (by omega) (q _ s.heap _ Sub.rfl ⟨[k.toNat], ⟨_, rfl⟩, by simp⟩)) hs
/-- sum of a list of ints -/
theorem pv_sum {f : Str} {np : Pos} {P : Value → Heap → Prop} (hh : A.handled = none) (hf : PV prog w A h (eval (.Name f np) env) (· = .builtin "sum")) (he : PE prog w A h (eval e env) P) (hP : ∀ v h', P v h' → ∃ vs, ItOf h' v vs ∧ ∀ u ∈ vs, ∃ i, IsI i u) (hs : starEach [e] env = (false, eval e env) :: starEach [] env := by rfl) :
    PV prog w A h (eval (.Call (.Name f np) [e] [] pos) env) (fun v => ∃ i, IsI i v) :=
  PE.call1 hf he (fun v h₁ _ pv => by
    obtain ⟨vs, it, hi⟩ := hP v h₁ pv
    intro s Q E hss q
    refine call_sum_walkG (iter_of (A := A.in1) hh (it.up hss) fun fp St o W _ hst hfp => ?_)
    have hval : ∀ (i : Nat) (v : Value), vs[i]? = some v → ∃ t, v = Value.int (intOf (vs[i]?.getD .none)) t := fun i v e => by
      obtain ⟨n, t, rfl⟩ := hi v (List.mem_of_getElem? e)
      exact ⟨t, by rw [e]; rfl⟩
    refine ⟨_, fp, _, vs.length, _, St, fun i => intOf (vs[i]?.getD .none), rfl, W, hst, hfp, hval, fun h' tk t' hk => ?_⟩
    exact q _ h' tk (fun b o e => hk b o (fun hm => by rw [List.mem_singleton.mp hm, get_none_size] at e; cases e) (Sub.push _ _ b o e)) ⟨_, t', rfl⟩) hs
end
section
variable {prog : Program} {w : World} {A : Around} {h₀ : Heap} {env : Env} {m : Str → Option Value} {s : Shared} {Q : Flow → Shared → Prop} {E : Value → Shared → Prop} {rest : List Stmt}
/-- for x in a list that was just made -/
theorem st_for_listE {α : Type} {x : Str} {px pos : Pos} {iter : Expr} {body : List Stmt} {ms : List Addr} {xs : List α} {V : α → Value → Prop} (J : Heap → Nat → (Str → Option Value) → Shared → Prop)
    (hh : A.handled = none) (F : Fr h₀ env.locals s.heap m) (hit : PE prog w A s.heap (eval iter env) (fun v h' => ∃ (ax : Addr) (vs : List Value), v = .ref ax ∧ ItOf h' (.ref ax) vs ∧ Paired V xs vs ∧ s.heap.get? ax = none)) (hms : ∀ b ∈ ms, s.heap.get? b ≠ none)
    (h0 : ∀ hB tk, Sub s.heap hB → J hB 0 m { s with heap := hB, toks := tk })
    (hJ : ∀ hB i m (s' : Shared) h' tk a, Sub s.heap hB → hB.get? a ≠ none → (s.heap.get? a = none ∨ a = env.locals) → J hB i m s' → SubX [a] s'.heap h' → J hB i m { s' with heap := h', toks := tk })
    (step : ∀ hB i a v m' (s' : Shared) (E' : Value → Shared → Prop), Sub s.heap hB → xs[i]? = some a → V a v → Fr h₀ env.locals s'.heap (upd m' x v) → Live hB s'.heap → J hB i m' s' →
      wpAny (model prog w) A (execs body env) (fun f s₃ => match f with
        | .next | .cont => ∃ m₃, Fr h₀ env.locals s₃.heap m₃ ∧ J hB (i + 1) m₃ s₃ ∧ SubX ms s'.heap s₃.heap ∧ ∀ b ∈ ms, s₃.heap.get? b ≠ none
        | .brk => wpAny (model prog w) A (execs rest env) Q E s₃
        | .ret v => Q (.ret v) s₃) E' s')
    (fin : ∀ hB m' (s' : Shared), Sub s.heap hB → Fr h₀ env.locals s'.heap m' → J hB xs.length m' s' → wpAny (model prog w) A (execs rest env) Q E s')
    (hk : env.scope.kind = .function := by rfl) (hx : env.kindOf x = some .local := by rfl) (hsf : ∀ x, foldedSetIterable iter env x = Pure.pure x := by intro _; rfl) :
    wpAny (model prog w) A (execs (.For (.Name x px) iter body [] pos :: rest) env) Q E s := by
  refine wpAny_execs_cons (wpAny_For (hit s _ E Sub.rfl fun v h1 t1 k1 ⟨ax, vs, hv1, hv, hV, nax⟩ => ?_) hsf)
  subst hv1
  refine iter_at hh hv fun St o W hst hlv => ?_
  have kB : Sub s.heap (h1.push o) := k1.trans (Sub.push _ _)
  have n1 : s.heap.get? h1.objs.size = none := k1.none (get_none_size h1)
  have lvL : s.heap.get? env.locals ≠ none := ns_live F.ns
  have hIL : h1.objs.size ≠ env.locals := fun z => lvL (z ▸ n1)
  refine for_core (h1.push o) (m := m) (xs := xs) (V := V) (J := J (h1.push o)) (K := fun s' => wpAny (model prog w) A (execs rest env) Q E s') (ms := ms) (h₀ := h₀) (Walks.as W hV.length.symm fun i v _ e => Paired.get hV e) hst (fr_up F kB) hIL ((fr_sub F).none n1) (fun b hb => ?_) (fun hb => ?_) hlv (fun _ h => h)
    (h0 _ _ kB) (fun i m s' h' tk a ha j X => hJ _ i m s' h' tk a kB ?_ ?_ j X) (fun i a v m' s' E' hxa hva F' lv j => ?_) (fun m' s' F' j => fin _ m' s' kB F' j) (fun s' k => k) hk hx
  · rcases List.mem_cons.mp hb with zz | hb
    · rw [zz]; exact fun hm => hms _ hm n1
    · rw [List.mem_singleton.mp hb]; exact fun hm => hms _ hm nax
  · rcases List.mem_cons.mp hb with z | hb
    · exact hIL z.symm
    · exact lvL (by rw [List.mem_singleton.mp hb]; exact nax)
  · rcases ha with zz | zz
    · rw [zz]; exact hlv _ _ hst
    · rw [zz]; exact Live.ofSub kB _ lvL
  · rcases ha with zz | zz
    · rw [zz]; exact .inl n1
    · rw [zz]; exact .inr rfl
  · refine wpAny_mono (step _ i a v m' s' E' kB hxa hva F' lv j) (fun f s₃ h₃ => ?_) fun _ _ e => e
    cases f <;> exact h₃
/-- l[-1] += e for a list of texts -/
theorem st_augLast {o i value : Expr} {tpos pos : Pos} {D : Addr} {vs : List Value} {x : List Nat} (F : Fr h₀ env.locals s.heap m) (ho : PV prog w A s.heap (eval o env) (· = .ref D)) (hi : PV prog w A s.heap (eval i env) (IsI (-1))) (hD : s.heap.PlainList D vs.toArray) {t0 : Tok} (hx : vs[vs.length - 1]? = some (.str (S x) t0))
    (hv : PV prog w A s.heap (eval value env) (fun v => ∃ y, IsS (S y) v ∧ y.length ≤ 2)) (hlen : x.length ≤ 100000) (hDL : D ≠ env.locals) (hD0 : h₀.get? D = none)
    (k : ∀ y v h' tk, y.length ≤ 2 → IsS (S (x ++ y)) v → SubX [D] s.heap h' → Fr h₀ env.locals h' m → h'.PlainList D (vs.set (vs.length - 1) v).toArray → wpAny (model prog w) A (execs rest env) Q E { s with heap := h', toks := tk })
    (hau : ∀ ov iv new, augStore i ov iv new = (do holding [new, ov, iv] (setItem ov iv new); release [new, ov, iv] []; Pure.pure .next) := by intros; rfl) :
    wpAny (model prog w) A (execs (.AugAssign (.Subscript o i tpos) .Add value pos :: rest) env) Q E s := by
  refine wpAny_execs_cons (wpAny_AugAssign_SubscriptAny (ho s _ E Sub.rfl fun ov h1 t1 k1 hov => hi _ _ E k1 fun iv h2 t2 k2 hiv => ?_) hau)
  subst hov
  obtain ⟨ti, rfl⟩ := hiv
  have hlt := (List.getElem?_eq_some_iff.mp hx).1
  have pD2 := hD.at fun o e => (k1.trans k2) D o e
  refine wpAny_getItem_list_neg (x := .str (S x) t0) pD2.isList (by decide) (by simp; omega) (by decide) ?_ ?_
  · have : ((-1 : Int) + (vs.toArray.size : Nat)).toNat = vs.length - 1 := by simp; omega
    rw [this]; simpa using hx
  refine hv _ _ E (k1.trans k2) fun v h3 t3 k3 ⟨y, hy, hyl⟩ => ?_
  obtain ⟨ty, rfl⟩ := hy
  refine SB.iadd (fun t' tk => ?_) (by rw [S_len, S_len, szL]; omega)
  refine set_last (s := { s with heap := h3, toks := tk }) (pD2.at fun o e => k3 D o e) (by omega) fun h4 p4 s4 => ?_
  have k13 := (k1.trans k2).trans k3
  exact k y _ h4 tk hyl ⟨t', by rw [S_cat]⟩ (k13.toX.trans (SubX.ofSame s4)) (Fr.mv (fr_up F k13) (SubX.ofSame s4) hDL hD0) p4
end
end Mine
end
section
open PySem PySem.W PyProof.Rows
set_option maxRecDepth 100000
namespace Mine
theorem gl_chr (P : Params) : nsIn (hd.heap_39 P) mainGlobals "chr" = some none := by kernel_rfl
theorem bo_chr : bootBuiltins "chr" = some (.builtin "chr") := by kernel_rfl
theorem gl_sum (P : Params) : nsIn (hd.heap_39 P) mainGlobals "sum" = some none := by kernel_rfl
theorem bo_sum : bootBuiltins "sum" = some (.builtin "sum") := by kernel_rfl
theorem paired_self {α : Type} (l : List α) : Paired (fun a b => b = a ∧ a ∈ l) l l := by
  have h : ∀ l : List α, Paired (fun a b => b = a) l l := fun l => by
    induction l with
    | nil => exact .nil
    | cons a r ih => exact .cons rfl ih
  exact Paired.mem (h l)
theorem txtOf {prog : Program} {w : World} {A : Around} {h : Heap} {env : Env} {pos : Pos} {y : Str} {k n : Nat} (hn : y.length ≤ n) : PV prog w A h (eval (.Constant (.str y) k pos) env) (fun v => ∃ z, IsS (S z) v ∧ z.length ≤ n) :=
  PE.weak PV.str fun _ _ _ e => ⟨toL y, IsS_of e (S_toL y).symm, by unfold toL; simpa [Str.length] using hn⟩
theorem fmod_lo (a : Int) {b : Int} (hb : 0 < b) : 0 ≤ a.fmod b := Int.fmod_nonneg_of_pos a hb
theorem fmod_hi (a : Int) {b : Int} (hb : 0 < b) : a.fmod b < b := Int.fmod_lt_of_pos a hb
theorem Strs.set : ∀ {vs : List Value} {xs : List (List Nat)} (k : Nat) {v : Value} {x : List Nat}, Strs vs xs → IsS (S x) v → Strs (vs.set k v) (xs.set k x)
  | [], [], _, _, _, _, _ => trivial
  | _ :: _, _ :: _, 0, _, _, h, hv => ⟨hv, h.2⟩
  | _ :: _, _ :: _, k + 1, _, _, h, hv => ⟨h.1, Strs.set k h.2 hv⟩
noncomputable def fronts : List (List Nat) := [[47], [46, 47], [97], [47, 47]]
set_option maxHeartbeats 4000000 in
theorem paths_S {prog : Program} {w : World} {A : Around} {h : Heap} {n : Nat} {D0 : Addr} {vs : List Value} (G : G0 w h) (O : AOk (n + 3) A) (hD0 : h.IsList D0 vs.toArray) (hi : ∀ u ∈ vs, ∃ i, IsI i u) (hlen : vs.length ≤ 63) :
    PE prog w A h (call (.ref 139) [.ref D0]) (fun v h' => ∃ (front : List Nat) (bs : List (List Nat)), NewLS h h' v (bs.map (front ++ ·)) ∧ front ∈ fronts ∧ 0 < bs.length ∧ bs.length ≤ 5 ∧ ∀ b ∈ bs, b.length ≤ 1000) := by
  refine call_defC G O rfl (by kernel_rfl) rfl (locs rfl) rfl rfl rfl fun s h₀ L Q E hs G0 O0 F hc q => ?_
  obtain ⟨c1, n1, l1⟩ := hc (Str.ofString "front") (L + 1) rfl
  -- bodies = [...]
  refine st_assign F (pe_display (V := fun v => ∃ z, IsS (S z) v ∧ z.length ≤ 5) ⟨txtOf (by decide), rfl, txtOf (by decide), rfl, trivial⟩ (by decide)) fun v h3 h3' t3 k3 ⟨D, vs0, ev, nD, pD, hl0, ha0⟩ kX F3 => ?_
  subst ev
  have DL : D ≠ L := fun z => by obtain ⟨_, _, _, ho, _⟩ := F.ns; have : s.heap.get? L = none := z ▸ nD; rw [ho] at this; cases this
  have D1 : D ≠ L + 1 := fun z => by obtain ⟨o, ho, _⟩ := c1; rw [← z, nD] at ho; cases ho
  have pD3 := LRes pD kX (not_mem1 DL)
  have nD0 : h₀.get? D = none := (fr_sub F).none nD
  obtain ⟨bs0, sb0, hb0⟩ := strs_all ha0
  have c1a := cell_upX c1 (k3.toX.trans kX) (not_mem1 (Ne.symm l1))
  have up0 : Sub h h₀ := hs
  have il : ∀ {hh : Heap}, Sub h₀ hh → hh.IsList D0 vs.toArray := fun k => (hD0.at fun o e => (hs.trans k) _ o e)
  refine st_for_listE (ms := [L, D]) (xs := vs.take 32) (V := fun a v => v = a ∧ a ∈ vs.take 32) (fun _ i m s' => (s'.gens = s.gens ∧ s'.drawn = s.drawn ∧ s'.os = s.os) ∧ SubX [L, D] h3' s'.heap ∧ m "bodies" = some (.ref D) ∧ m "script" = some (.ref D0) ∧ ∃ bs, LS s'.heap D bs ∧ 0 < bs.length ∧ bs.length ≤ 5 ∧ ∀ b ∈ bs, b.length ≤ 5 + 2 * i)
    O0.h F3 ((pe_sliceTo (k := 32) (PV.loc F3.ns rfl) (il (fr_sub F3)) PV.int (by omega)).weak fun v h' _ ⟨T, ev, nT, pT⟩ => ⟨T, _, ev, ⟨T, rfl, .inl pT.isList⟩, paired_self _, nT⟩) (fun c hc => ?_)
    (fun hB tk k => ⟨⟨rfl, rfl, rfl⟩, k.toX, rfl, rfl, bs0, ⟨vs0, pD3.at fun o e => k D o e, sb0⟩, by rw [← sb0.len, hl0]; decide, by rw [← sb0.len, hl0]; decide, fun b hb => hb0 b hb⟩)
    (fun hB i m' s' h' tk c kB hcl hc ⟨gs, X, e1, e2, bs, l, r⟩ X' => ⟨gs, fun d o hd e => ?_, e1, e2, bs, l.upX X' ?_, r⟩)
    (fun hB i x v m' s' E' kB hxi hv F' lvB ⟨⟨g1, g2, g3⟩, X, e1, e2, bs, l, hb1, hb5, hbl⟩ => ?_) fun hB m' s' kB F' ⟨⟨g1, g2, g3⟩, X, e1, e2, bs, l, hb1, hb5, hbl⟩ => ?_
  · rcases List.mem_cons.mp hc with zz | hc
    · rw [zz]; exact ns_live F3.ns
    · rw [List.mem_singleton.mp hc]; exact LLive pD3
  · refine X' d o (fun hm => ?_) (X d o hd e)
    rw [List.mem_singleton.mp hm] at e hd
    rcases hc with hc | hc
    · have : h3'.get? c = none := hc
      rw [this] at e; cases e
    · exact hd (by rw [hc]; exact List.mem_cons_self)
  · intro hm
    rw [← List.mem_singleton.mp hm] at hc
    rcases hc with hc | hc
    · exact LLive pD3 hc
    · exact DL hc
  · obtain ⟨rfl, hxm⟩ := hv
    obtain ⟨xi, ti, rfl⟩ := hi _ (List.mem_of_mem_take hxm)
    have lvf : ∀ {hh : Heap} {mm : Str → Option Value} {zs : List Value}, Fr h₀ L hh mm → hh.PlainList D zs.toArray → ∀ b ∈ [L, D], hh.get? b ≠ none := fun F p b hb => by
      rcases List.mem_cons.mp hb with zz | hb
      · rw [zz]; exact ns_live F.ns
      · rw [List.mem_singleton.mp hb]; exact LLive p
    obtain ⟨us, pu, su⟩ := l
    have lus := su.len
    obtain ⟨vl, hvl, tz, rfl⟩ := su.get' (j := us.length - 1) (List.getElem?_eq_getElem (by omega))
    generalize hz : bs[us.length - 1]'(by omega) = z at hvl
    have hzm : z ∈ bs := hz ▸ List.getElem_mem _
    have hzl := hbl z hzm
    have hil : i < 32 := by
      have := (List.getElem?_eq_some_iff.mp hxi).1
      rw [List.length_take] at this; omega
    refine st_if (b := (xi.fmod 8 == 0) && decide ((us.length : Int) < 5)) (PV.and2 (PV.test (pv_mod (by decide) (PV.locI F'.ns rfl) PV.int) PV.int fun a b ha hb => cmp_eqI ha hb) fun _ => PV.test (pv_lenL (PV.boot (G0.up (fr_sub F')) (gl_len _) bo_len) (PV.loc F'.ns (by exact e1)) pu.isList (by omega)) PV.int fun a b ha hb => cmp_ltI ha hb) fun h5 t5 k5 => ?_
    have F5 := fr_up F' k5
    have X5 := X.trans k5.toX
    have pu5 := pu.at fun o e => k5 D o e
    cases hc : ((xi.fmod 8 == 0) && decide ((us.length : Int) < 5)) with
    | true =>
      simp only [if_true]
      have hlt5 : us.length < 5 := by
        rw [Bool.and_eq_true] at hc
        have := of_decide_eq_true hc.2
        omega
      have hj0 : 0 ≤ (xi.fdiv 8).fmod ((z.length : Int) + 1) := fmod_lo _ (by omega)
      have hj1 : (xi.fdiv 8).fmod ((z.length : Int) + 1) < (z.length : Int) + 1 := fmod_hi _ (by omega)
      refine st_append F5 (PV.loc F5.ns (by exact e1)) pu5 ((pv_sliceToE (x := S z) (j := (xi.fdiv 8).fmod ((z.length : Int) + 1)) (PE.weak (pv_last (PV.loc F5.ns (by exact e1)) pu5.isList (pv_neg PV.int) hvl) fun _ _ _ e => ⟨tz, e⟩) (pv_mod (by omega) (pv_div8 (PV.locI F5.ns rfl) PV.int) ((PV.addI (PV.len (PV.boot (G0.up (fr_sub F5)) (gl_len _) bo_len) (PE.weak (pv_last (PV.loc F5.ns (by exact e1)) pu5.isList (pv_neg PV.int) hvl) fun _ _ _ e => ⟨tz, e⟩) (by rw [S_len, szL]; omega)) PV.int).asI (by rw [S_len]))) (by rw [S_len, szL]; omega)).as (y := S (z.take ((xi.fdiv 8).fmod ((z.length : Int) + 1)).toNat)) (by
        rw [← S_to z _ (by omega)]; congr 2; omega)) (by omega) DL nD0 fun v h10 h11 t11 k10 hv X11 F11 pD11 => ?_
      have X511 : SubX [L, D] h5 h11 := k10.toX.trans (X11.mono fun c hc => by rw [List.mem_singleton.mp hc]; simp)
      refine wpAny_execs_nil (wpAny_execs_nil ⟨_, F11, ⟨⟨g1, g2, g3⟩, X5.trans X511, e1, e2, bs ++ [z.take ((xi.fdiv 8).fmod ((z.length : Int) + 1)).toNat], ⟨_, pD11, su.app (.one hv)⟩, by simp, by simp; omega, fun b hb => ?_⟩, k5.toX.trans X511, lvf F11 pD11⟩)
      rcases List.mem_append.mp hb with hb | hb
      · have := hbl b hb; omega
      · rw [List.mem_singleton.mp hb, List.length_take]; omega
    | false =>
      simp only [Bool.false_eq_true, if_false]
      refine st_augLast F5 (PV.loc F5.ns (by exact e1)) (pv_neg PV.int) pu5 hvl (pe_itemE (n := 8) (pe_display ⟨txtOf (by decide), rfl, txtOf (by decide), rfl, txtOf (by decide), rfl, txtOf (by decide), rfl, txtOf (by decide), rfl, txtOf (by decide), rfl, txtOf (by decide), rfl,
        pv_chr (PV.boot (G0.up (fr_sub F5)) (gl_chr _) bo_chr) (pv_modE (by decide) (PE.weak (pv_div8 (PV.locI F5.ns rfl) PV.int) fun _ _ _ e => ⟨_, e⟩) PV.int), rfl, trivial⟩ (by decide)) (pv_modE (by decide) (PE.weak (PV.locI F5.ns rfl) fun _ _ _ e => ⟨_, e⟩) PV.int) (by decide)) (by omega) DL nD0 fun y v h11 t11 hyl hv X11 F11 pD11 => ?_
      have X511 : SubX [L, D] h5 h11 := X11.mono fun c hc => by rw [List.mem_singleton.mp hc]; simp
      refine wpAny_execs_nil (wpAny_execs_nil ⟨_, F11, ⟨⟨g1, g2, g3⟩, X5.trans X511, e1, e2, bs.set (us.length - 1) (z ++ y), ⟨_, pD11, su.set _ hv⟩, by simp; omega, by simp; omega, fun b hb => ?_⟩, k5.toX.trans X511, lvf F11 pD11⟩)
      rcases List.mem_or_eq_of_mem_set hb with hb | hb
      · have := hbl b hb; omega
      · rw [hb, List.length_append]; omega
  · -- front = ...
    have c1b := cell_upX c1a X (by simp only [List.mem_cons, List.mem_nil_iff, or_false, not_or]; exact ⟨Ne.symm l1, Ne.symm D1⟩)
    refine st_cell F' rfl c1b n1 l1 (pe_itemE (n := 4) (V := fun v => ∃ z, IsS (S z) v ∧ z ∈ fronts) (pe_display ⟨PE.weak PV.str fun _ _ _ e => ⟨[47], IsS_of e lit_sl, by decide⟩, rfl, PE.weak PV.str fun _ _ _ e => ⟨[46, 47], IsS_of e (by decide +kernel), by decide⟩, rfl, PE.weak PV.str fun _ _ _ e => ⟨[97], IsS_of e (by decide +kernel), by decide⟩, rfl, PE.weak PV.str fun _ _ _ e => ⟨[47, 47], IsS_of e (by decide +kernel), by decide⟩, rfl, trivial⟩ (by decide))
      (pv_modE (by decide) (pv_sum O0.h (PV.boot (G0.up (fr_sub F')) (gl_sum _) bo_sum) (pe_sliceTo (k := 63) (PV.loc F'.ns e2) (il (fr_sub F')) PV.int (by omega)) fun v h' ⟨T, ev, _, pT⟩ => ⟨_, ⟨T, ev, .inl pT.isList⟩, fun u hu => hi u (List.mem_of_mem_take hu)⟩) PV.int) (by decide)) fun v h5 t5 ⟨front, ⟨tf, ef⟩, hfr⟩ X5 F5 c1c => ?_
    subst ef
    have l5 := l.upX X5 (not_mem1 D1)
    obtain ⟨us, pu, su⟩ := l5
    have hful : front.length ≤ 2 := by
      unfold fronts at hfr
      simp only [List.mem_cons, List.mem_nil_iff, or_false] at hfr
      rcases hfr with zz | zz | zz | zz <;> simp [zz]
    have hbl2 : ∀ b ∈ bs, b.length ≤ 1000 := fun b hb => by
      have := hbl b hb
      rw [List.length_take] at this
      omega
    refine st_ret (pe_listcomp (α := List Nat) (xs := bs) (V := fun x v => IsS (S x) v ∧ x ∈ bs) (RR := fun x _ _ v => IsS (S (front ++ x)) v) (b := fun _ => true) (cl := [(Str.ofString "front", L + 1)]) O0.h rfl (PV.loc F5.ns e1) ⟨D, rfl, .inl pu.isList⟩ (by have := su.len; omega) (Paired.mem su.paired) (fun c => Res.const _) (fun C a v H m _ _ _ _ => tests_nil) (fun C a v H m hv _ hH hn hm => ?_)) fun v h6 t6 k6 ⟨D6, ys, ev, nD6, pD6, hys⟩ => ?_
    · obtain ⟨⟨t, rfl⟩, ha⟩ := hv
      exact (PV.addS (PE.weak (PV.cell (c := L + 1) rfl (cell_up c1c hH)) fun _ _ _ e => ⟨tf, e⟩) (PV.locS hn hm) (by rw [S_len, S_len, szL]; have := hbl2 a ha; omega)).as (S_cat _ _)
    · rw [g1, g2, g3]
      refine q v h6 t6 ((fr_sub F5).trans k6) ⟨front, bs, ⟨D6, ev, hs.none ((fr_sub F5).none nD6), ys, pD6, ?_⟩, hfr, hb1, hb5, hbl2⟩
      rw [filter_true] at hys
      have : ∀ {l : List (List Nat)} {z : List Value}, Paired (fun x v => IsS (S (front ++ x)) v) l z → Strs z (l.map (front ++ ·)) := fun x => by
        induction x with
        | nil => trivial
        | cons h _ ih => exact ⟨h, ih⟩
      exact this hys
end Mine
end
section
open PySem PySem.W PyProof.Rows
set_option maxRecDepth 100000
namespace Mine
noncomputable def sp : List Nat → List (List Nat)
  | [] => [[]]
  | c :: r => if c = 47 then [] :: sp r else match sp r with
    | [] => [[c]]
    | h :: t => (c :: h) :: t
theorem sp_ne : ∀ x, sp x ≠ []
  | [] => by simp [sp]
  | c :: r => by
    rw [sp]; split
    · simp
    · split <;> simp
theorem sp_free : ∀ x : List Nat, 47 ∉ x → sp x = [x]
  | [], _ => rfl
  | c :: r, h => by
    have h1 : ¬ c = 47 := fun e => h (e ▸ List.mem_cons_self)
    rw [sp, if_neg h1, sp_free r fun hm => h (List.mem_cons_of_mem _ hm)]
theorem sp_cat : ∀ a b : List Nat, sp (a ++ 47 :: b) = sp a ++ sp b
  | [], b => by simp [sp]
  | c :: r, b => by
    rw [List.cons_append, sp, sp, sp_cat r b]
    split
    · rfl
    · cases h : sp r with
      | nil => exact absurd h (sp_ne r)
      | cons x y => rfl
theorem sp_join : ∀ ps : List (List Nat), ps ≠ [] → (∀ p ∈ ps, 47 ∉ p) → sp (joinL ps) = ps
  | [], h, _ => absurd rfl h
  | [x], _, h => sp_free x (h x List.mem_cons_self)
  | x :: y :: r, _, h => by
    rw [joinL, sp_cat, sp_free x (h x List.mem_cons_self), sp_join (y :: r) (by simp) fun p hp => h p (List.mem_cons_of_mem _ hp)]
    rfl
theorem splitL_eq (x : List Nat) : splitL x = sp x := by
  have h1 : joinL (splitL x) = x := by
    have h := StrLaws.join_split (S x) (S [47])
    rw [← splitL_S, ← StrLaws.glued_eq_join] at h
    exact S_inj ((S_join (splitL x)).symm.trans h)
  have h2 : splitL x ≠ [] := by
    intro e
    have : Txt.split (S x) (S [47]) = [] := by rw [← splitL_S, e]; rfl
    unfold Txt.split at this
    split at this
    · cases this
    · split at this
      · cases this
      · have := congrArg List.length this
        rw [length_partsBetween] at this
        simp at this
  have h3 : ∀ p ∈ splitL x, 47 ∉ p := by
    intro p hp
    have hm : S p ∈ Txt.split (S x) (S [47]) := by rw [← splitL_S]; exact List.mem_map_of_mem hp
    have := StrLaws.split_free (S x) 47 (S p) hm
    rwa [S_toList] at this
  have := sp_join _ h2 h3
  rw [h1] at this
  exact this.symm
noncomputable def endsSl (q : List Nat) : Prop := q = [] ∨ ∃ r, q = r ++ [47]
theorem comps_eq (x : List Nat) : comps x = (sp x).filter keepP := by unfold comps; rw [splitL_eq]
theorem keep_nil : keepP [] = false := rfl
theorem comps_nil : comps [] = [] := by rw [comps_eq]; simp [sp, keep_nil]
theorem comps_sl (x : List Nat) : comps (x ++ [47]) = comps x := by
  rw [comps_eq, comps_eq, show x ++ [47] = x ++ 47 :: [] from rfl, sp_cat, List.filter_append]
  simp [sp, keep_nil]
theorem comps_app {q cur : List Nat} (hq : endsSl q) (hc : 47 ∉ cur) : comps (q ++ cur) = comps q ++ (if keepP cur then [cur] else []) := by
  have hone : ([cur] : List (List Nat)).filter keepP = if keepP cur then [cur] else [] := by cases h : keepP cur <;> simp [h]
  rcases hq with rfl | ⟨r, rfl⟩
  · rw [List.nil_append, comps_nil, comps_eq, sp_free cur hc, hone]; rfl
  · rw [comps_sl, comps_eq, comps_eq, List.append_assoc, List.singleton_append, sp_cat, sp_free cur hc, List.filter_append, hone]
theorem comps_ne {x c : List Nat} (h : c ∈ comps x) : c ≠ [] := by
  unfold comps at h
  have := (List.mem_filter.mp h).2
  intro e; rw [e] at this; cases this
theorem comps_free {x c : List Nat} (h : c ∈ comps x) : 47 ∉ c := by
  unfold comps splitL at h
  have hm := (List.mem_filter.mp h).1
  obtain ⟨p, hp, rfl⟩ := List.mem_map.mp hm
  exact StrLaws.split_free (S x) 47 p hp
theorem joinL_snoc : ∀ {cs : List (List Nat)} (c : List Nat), cs ≠ [] → joinL (cs ++ [c]) = joinL cs ++ 47 :: c
  | [], _, h => absurd rfl h
  | [x], c, _ => rfl
  | x :: y :: r, c, _ => by
    show x ++ 47 :: joinL ((y :: r) ++ [c]) = (x ++ 47 :: joinL (y :: r)) ++ 47 :: c
    rw [joinL_snoc c (by simp)]; simp
theorem joinL_nil {cs : List (List Nat)} (h : ∀ c ∈ cs, c ≠ []) (e : joinL cs = []) : cs = [] := by
  cases cs with
  | nil => rfl
  | cons x r => cases r with
    | nil => exact absurd e (h x List.mem_cons_self)
    | cons y r => simp [joinL] at e

theorem dropPc_le (l : List Nat) : (dropPc l).length ≤ l.length := len_dropWhile_le _ _
noncomputable def hdr : List Nat → List (List Nat)
  | [] => []
  | c :: r => if c = 47 then hdr r else hdr (dropPc r) ++ [(c :: r).reverse]
termination_by l => l.length
decreasing_by
  · simp
  · have := dropPc_le r; simp only [List.length_cons]; omega
theorem hdr_nil : hdr [] = [] := by rw [hdr]
theorem hdr_sl (r : List Nat) : hdr (47 :: r) = hdr r := by rw [hdr, if_pos rfl]
theorem hdr_pc {c : Nat} (h : c ≠ 47) (r : List Nat) : hdr (c :: r) = hdr (dropPc r) ++ [(c :: r).reverse] := by rw [hdr, if_neg h]
noncomputable def hdp (x : List Nat) : List (List Nat) := hdr x.reverse
theorem hdp_nil : hdp [] = [] := hdr_nil
theorem hdp_sl (x : List Nat) : hdp (x ++ [47]) = hdp x := by unfold hdp; rw [List.reverse_append]; exact hdr_sl _
theorem dropPc_app {a b : List Nat} (ha : 47 ∉ a) (hb : b = [] ∨ ∃ r, b = 47 :: r) : dropPc (a ++ b) = b := by
  unfold dropPc
  rw [List.dropWhile_append_of_pos (fun c hc => by simp only [bne_iff_ne, ne_eq]; exact fun e => ha (e ▸ hc))]
  rcases hb with rfl | ⟨r, rfl⟩ <;> rfl
theorem hdp_app {q cur : List Nat} (hq : endsSl q) (hc : 47 ∉ cur) (hne : cur ≠ []) : hdp (q ++ cur) = hdp q ++ [q ++ cur] := by
  unfold hdp
  rw [List.reverse_append]
  cases hr : cur.reverse with
  | nil => exact absurd (List.reverse_eq_nil_iff.mp hr) hne
  | cons c r =>
    have hm : ∀ x ∈ c :: r, x ≠ 47 := fun x hx e => hc (by rw [← e]; exact List.mem_reverse.mp (hr ▸ hx))
    rw [List.cons_append, hdr_pc (hm c List.mem_cons_self), dropPc_app (fun h => hm 47 (List.mem_cons_of_mem _ h) rfl) (by
      rcases hq with rfl | ⟨t, rfl⟩
      · exact .inl rfl
      · exact .inr ⟨t.reverse, by simp⟩)]
    congr 2
    rw [← List.cons_append, ← hr, List.reverse_append, List.reverse_reverse, List.reverse_reverse]

/-! the loop of heads -/
noncomputable def rowOf (path y : List Nat) : List Nat × List Nat := (y, rootL path ++ joinL (comps y))
theorem hStep_end {path q cur : List Nat} {k : Nat} {rows : List (List Nat × List Nat)} (hk : (k == path.length || path[k]? == some 47) = true) (ht : path.take k = q ++ cur) (hkl : k ≤ path.length) (hq : endsSl q) (hc : 47 ∉ cur) :
    hStep path (rootL path) (q.length, rootL path ++ joinL (comps q), rows) k = (k + 1, rootL path ++ joinL (comps (q ++ cur)), rows ++ (if cur = [] then [] else [rowOf path (q ++ cur)])) := by
  have hlen : k = q.length + cur.length := by
    have := congrArg List.length ht
    rw [List.length_take, List.length_append] at this
    omega
  have hp : (path.drop q.length).take (k - q.length) = cur := by
    rw [← List.drop_take, ht]; simp
  unfold hStep
  rw [if_pos hk]
  simp only [hp]
  by_cases h0 : cur = []
  · subst h0; simp
  · rw [if_neg h0, if_neg h0]
    have e : (if cur = [46] then rootL path ++ joinL (comps q) else if rootL path ++ joinL (comps q) = rootL path then rootL path ++ cur else rootL path ++ joinL (comps q) ++ [47] ++ cur) = rootL path ++ joinL (comps (q ++ cur)) := by
      rw [comps_app hq hc]
      by_cases hd : cur = [46]
      · rw [if_pos hd]
        have : keepP cur = false := by rw [hd]; rfl
        rw [this]; simp
      · rw [if_neg hd]
        have : keepP cur = true := by unfold keepP; simp [h0, hd]
        rw [this, if_pos rfl]
        by_cases hs : rootL path ++ joinL (comps q) = rootL path
        · rw [if_pos hs]
          have : joinL (comps q) = [] := by simpa using hs
          rw [joinL_nil (fun c hc => comps_ne hc) this]; rfl
        · rw [if_neg hs]
          have hcq : comps q ≠ [] := fun e => hs (by rw [e]; simp [joinL])
          rw [joinL_snoc cur hcq]; simp
    rw [e, ht]; rfl
theorem hInv (path : List Nat) : ∀ i, i ≤ path.length → ∃ q cur, path.take i = q ++ cur ∧ 47 ∉ cur ∧ endsSl q ∧ hSt path i = (q.length, rootL path ++ joinL (comps q), (hdp q).map (rowOf path))
  | 0, _ => ⟨[], [], by simp, by simp, .inl rfl, by rw [comps_nil, hdp_nil]; simp [hSt, joinL]⟩
  | i + 1, h => by
    obtain ⟨q, cur, ht, hc, hq, hs⟩ := hInv path i (by omega)
    have hlt : i < path.length := by omega
    have htk : path.take (i + 1) = path.take i ++ [path[i]] := by rw [List.take_add_one, List.getElem?_eq_getElem hlt]; rfl
    rw [hSt_succ, hs]
    by_cases h47 : path[i] = 47
    · rw [hStep_end (by rw [List.getElem?_eq_getElem hlt, h47]; simp) ht (by omega) hq hc]
      have hlen : i = q.length + cur.length := by
        have := congrArg List.length ht
        rw [List.length_take, List.length_append] at this
        omega
      refine ⟨q ++ cur ++ [47], [], by rw [htk, ht, h47]; simp, by simp, .inr ⟨_, rfl⟩, ?_⟩
      rw [comps_sl, hdp_sl]
      have e1 : (q ++ cur ++ [47]).length = i + 1 := by simp; omega
      rw [e1]
      by_cases h0 : cur = []
      · subst h0; simp
      · rw [if_neg h0, hdp_app hq hc h0]; simp
    · refine ⟨q, cur ++ [path[i]], by rw [htk, ht]; simp, by simp only [List.mem_append, List.mem_singleton, not_or]; exact ⟨hc, fun e => h47 e.symm⟩, hq, ?_⟩
      unfold hStep
      rw [if_neg]
      rw [List.getElem?_eq_getElem hlt]
      simp; omega
theorem headsL_eq (path : List Nat) : headsL path = (hdp path).map (rowOf path) := by
  obtain ⟨q, cur, ht, hc, hq, hs⟩ := hInv path path.length (Nat.le_refl _)
  unfold headsL
  rw [hSt_succ, hs, hStep_end (by simp) ht (Nat.le_refl _) hq hc]
  rw [List.take_length] at ht
  show _ ++ _ = _
  rw [ht]
  by_cases h0 : cur = []
  · subst h0; simp [rowOf]
  · rw [if_neg h0, hdp_app hq hc h0]; simp

/-! the generator -/
theorem dropSl_sl (r : List Nat) : dropSl (47 :: r) = dropSl r := rfl
theorem hdr_slashes : ∀ d : List Nat, dropSl d = [] → hdr d = []
  | [], _ => hdr_nil
  | c :: r, h => by
    by_cases hc : c = 47
    · subst hc; rw [hdr_sl]; exact hdr_slashes r h
    · unfold dropSl at h
      rw [List.dropWhile_cons_of_neg (by simpa using hc)] at h
      cases h
theorem anc_hdr : ∀ (n : Nat) (rx : List Nat), rx.length ≤ n → Anc (rstripL rx.reverse) (hdr rx).reverse
  | _, [], _ => by
    rw [hdr_nil]; exact .nil rfl
  | 0, _ :: _, h => by simp at h
  | n + 1, c :: r, h => by
    have hl : r.length ≤ n := by simpa using h
    by_cases hc : c = 47
    · subst hc
      rw [hdr_sl]
      have e : rstripL (47 :: r).reverse = rstripL r.reverse := by
        unfold rstripL
        rw [List.reverse_reverse, List.reverse_reverse, dropSl_sl]
      rw [e]
      exact anc_hdr n r hl
    · have e1 : dropSl (c :: r) = c :: r := by unfold dropSl; exact List.dropWhile_cons_of_neg (by simpa using hc)
      have e : rstripL (c :: r).reverse = (c :: r).reverse := by
        unfold rstripL
        rw [List.reverse_reverse, e1]
      rw [e, hdr_pc hc, List.reverse_append]
      show Anc (c :: r).reverse ((c :: r).reverse :: (hdr (dropPc r)).reverse)
      refine .cons (by rw [e]; simp) ?_
      have e2 : dropPc (c :: r) = dropPc r := by unfold dropPc; exact List.dropWhile_cons_of_pos (by simpa using hc)
      have e3 : ((c :: r).reverse).take (nHead (c :: r).reverse) = (dropPc r).reverse := by rw [take_nHead, List.reverse_reverse, e2]
      have ih := anc_hdr n (dropPc r) (Nat.le_trans (dropPc_le r) hl)
      unfold headF
      rw [e3]
      by_cases ha : (dropPc r).reverse.all (· == 47) = true
      · rw [if_pos ha]
        have hd : dropSl (dropPc r) = [] := dropWhile_nil fun a hm => List.all_eq_true.mp ha a (List.mem_reverse.mpr hm)
        rw [hdr_slashes _ hd]
        exact .nil (by unfold rstripL; rw [List.reverse_reverse, hd]; rfl)
      · rw [if_neg ha]; exact ih
theorem anc_hdp (p : List Nat) : Anc (rstripL p) (hdp p).reverse := by
  have := anc_hdr p.reverse.length p.reverse (Nat.le_refl _)
  rwa [List.reverse_reverse] at this
end Mine
end
section
open PySem PySem.W PyProof.Rows
set_option maxRecDepth 100000
namespace Mine
/-- lists of pieces -/
noncomputable def Good (cs : List (List Nat)) : Prop := ∀ c ∈ cs, c ≠ [] ∧ 47 ∉ c
theorem good_comps (x : List Nat) : Good (comps x) := fun _ h => ⟨comps_ne h, comps_free h⟩
theorem Good.take {cs : List (List Nat)} (h : Good cs) (n : Nat) : Good (cs.take n) := fun c hc => h c (List.mem_of_mem_take hc)
theorem joinL_inj {a b : List (List Nat)} (ha : Good a) (hb : Good b) (h : joinL a = joinL b) : a = b := by
  by_cases h1 : a = []
  · subst h1
    exact (joinL_nil (fun c hc => (hb c hc).1) h.symm).symm
  · by_cases h2 : b = []
    · subst h2
      exact joinL_nil (fun c hc => (ha c hc).1) h
    · rw [← sp_join a h1 fun p hp => (ha p hp).2, h, sp_join b h2 fun p hp => (hb p hp).2]
noncomputable def pref (r : List Nat) (cs : List (List Nat)) : List (List Nat) := (List.range cs.length).map fun j => r ++ joinL (cs.take (j + 1))
theorem pref_snoc (r : List Nat) (cs : List (List Nat)) (c : List Nat) : pref r (cs ++ [c]) = pref r cs ++ [r ++ joinL (cs ++ [c])] := by
  unfold pref
  rw [List.length_append, List.length_singleton, List.range_succ, List.map_append]
  congr 1
  · refine List.map_congr_left fun j hj => ?_
    have := List.mem_range.mp hj
    rw [List.take_append_of_le_length (by omega)]
  · simp [List.take_of_length_le]
theorem mem_pref {r : List Nat} {cs d : List (List Nat)} (hc : Good cs) (hd : Good d) (hne : d ≠ []) : r ++ joinL d ∈ pref r cs ↔ d <+: cs := by
  unfold pref
  rw [List.mem_map]
  constructor
  · rintro ⟨j, hj, e⟩
    have := joinL_inj (hc.take (j + 1)) hd (List.append_cancel_left e)
    rw [← this]; exact List.take_prefix _ _
  · intro h
    have hl := h.length_le
    have hp : 0 < d.length := List.length_pos_iff.mpr hne
    refine ⟨d.length - 1, List.mem_range.mpr (by omega), ?_⟩
    rw [show d.length - 1 + 1 = d.length by omega, ← List.prefix_iff_eq_take.mp h]
theorem pref_len (r : List Nat) (cs : List (List Nat)) : (pref r cs).length = cs.length := by simp [pref]

/-! every path is empty, or ends with a slash, or with a piece -/
theorem cases_path (p : List Nat) : p = [] ∨ (∃ x, p = x ++ [47]) ∨ ∃ q cur, p = q ++ cur ∧ endsSl q ∧ 47 ∉ cur ∧ cur ≠ [] := by
  rcases List.eq_nil_or_concat p with rfl | ⟨x, c, rfl⟩
  · exact .inl rfl
  · right
    by_cases h : c = 47
    · exact .inl ⟨x, by rw [h]; simp⟩
    · right
      have hsplit : ∀ y : List Nat, ∃ q cur, y = q ++ cur ∧ endsSl q ∧ 47 ∉ cur := by
        intro y
        induction hn : y.length generalizing y with
        | zero => exact ⟨[], [], by simpa using hn, .inl rfl, by simp⟩
        | succ n ih =>
          rcases List.eq_nil_or_concat y with rfl | ⟨z, d, rfl⟩
          · simp at hn
          · by_cases hd : d = 47
            · exact ⟨z ++ [47], [], by rw [hd]; simp, .inr ⟨z, rfl⟩, by simp⟩
            · obtain ⟨q, cur, e, hq, hc⟩ := ih z (by simpa using hn)
              exact ⟨q, cur ++ [d], by rw [e]; simp, hq, by simp only [List.mem_append, List.mem_singleton, not_or]; exact ⟨hc, fun e => hd e.symm⟩⟩
      obtain ⟨q, cur, e, hq, hc⟩ := hsplit x
      exact ⟨q, cur ++ [c], by rw [e]; simp, hq, by simp only [List.mem_append, List.mem_singleton, not_or]; exact ⟨hc, fun e => h e.symm⟩, by simp⟩

/-! the straightened heads, each once -/
theorem once_heads (r : List Nat) : ∀ (n : Nat) (p : List Nat), p.length ≤ n → onceL ((hdp p).map fun y => r ++ joinL (comps y)) r = pref r (comps p) := by
  intro n
  induction n with
  | zero =>
    intro p hp
    have : p = [] := List.eq_nil_of_length_eq_zero (by omega)
    subst this
    rw [hdp_nil, comps_nil]; rfl
  | succ n ih =>
    intro p hp
    rcases cases_path p with rfl | ⟨x, rfl⟩ | ⟨q, cur, rfl, hq, hc, hne⟩
    · rw [hdp_nil, comps_nil]; rfl
    · rw [hdp_sl, comps_sl]; exact ih x (by simp at hp; omega)
    · have hl : q.length ≤ n := by
        have : 0 < cur.length := List.length_pos_iff.mpr hne
        rw [List.length_append] at hp; omega
      have ihq := ih q hl
      rw [hdp_app hq hc hne, List.map_append]
      unfold onceL at ihq ⊢
      rw [List.foldl_append, ihq]
      show oStep r (pref r (comps q)) (r ++ joinL (comps (q ++ cur))) = _
      rw [comps_app hq hc]
      have gq := good_comps q
      by_cases hk : keepP cur = true
      · rw [hk, if_pos rfl, pref_snoc]
        have gd : Good (comps q ++ [cur]) := fun c hcm => by
          rcases List.mem_append.mp hcm with h | h
          · exact gq c h
          · rw [List.mem_singleton.mp h]; exact ⟨hne, hc⟩
        unfold oStep
        rw [if_pos]
        rw [Bool.and_eq_true]
        constructor
        · rw [Bool.not_eq_true', beq_eq_false_iff_ne]
          intro e
          have : joinL (comps q ++ [cur]) = [] := by simpa using e
          have := joinL_nil (fun c hcm => (gd c hcm).1) this
          simp at this
        · rw [Bool.not_eq_true', Bool.eq_false_iff]
          intro hm
          have hm := List.contains_iff_mem.mp hm
          have := ((mem_pref gq gd (by simp)).mp hm).length_le
          simp at this
          omega
      · rw [Bool.eq_false_iff.mpr hk]
        simp only [Bool.false_eq_true, if_false, List.append_nil]
        unfold oStep
        rw [if_neg]
        rw [Bool.and_eq_true]
        rintro ⟨h1, h2⟩
        by_cases hcq : comps q = []
        · rw [hcq] at h1; simp [joinL] at h1
        · rw [Bool.not_eq_true', Bool.eq_false_iff] at h2
          exact h2 (List.contains_iff_mem.mpr ((mem_pref gq gq hcq).mpr (List.prefix_refl _)))

/-! what lists have in common -/
theorem lcp_pre1 : ∀ a b : List (List Nat), lcp a b <+: a
  | [], b => by simp [lcp]
  | x :: r, [] => by simp [lcp]
  | x :: r, y :: q => by
    rw [lcp]; split
    · exact List.prefix_cons_inj x |>.mpr (lcp_pre1 r q)
    · exact List.nil_prefix
theorem lcp_pre2 : ∀ a b : List (List Nat), lcp a b <+: b
  | [], b => by simp [lcp]
  | x :: r, [] => by simp [lcp]
  | x :: r, y :: q => by
    rw [lcp]; split
    · rename_i h; subst h; exact List.prefix_cons_inj x |>.mpr (lcp_pre2 r q)
    · exact List.nil_prefix
theorem lcp_max : ∀ {d a b : List (List Nat)}, d <+: a → d <+: b → d <+: lcp a b
  | [], _, _, _, _ => List.nil_prefix
  | x :: d, [], _, h, _ => by simp at h
  | x :: d, _ :: _, [], _, h => by simp at h
  | x :: d, y :: a, z :: b, h, k => by
    obtain ⟨e1, h1⟩ := List.cons_prefix_cons.mp h
    obtain ⟨e2, k1⟩ := List.cons_prefix_cons.mp k
    subst e1; subst e2
    rw [lcp, if_pos rfl]
    exact List.prefix_cons_inj x |>.mpr (lcp_max h1 k1)
theorem pre_iff_lcp {d a b : List (List Nat)} : d <+: lcp a b ↔ d <+: a ∧ d <+: b :=
  ⟨fun h => ⟨h.trans (lcp_pre1 a b), h.trans (lcp_pre2 a b)⟩, fun h => lcp_max h.1 h.2⟩
theorem pre_antisymm {a b : List (List Nat)} (h : a <+: b) (k : b <+: a) : a = b := h.eq_of_length_le k.length_le
theorem pre_fold {d : List (List Nat)} : ∀ (l : List (List (List Nat))) (a : List (List Nat)), d <+: l.foldl lcp a ↔ d <+: a ∧ ∀ x ∈ l, d <+: x
  | [], a => by simp
  | x :: r, a => by
    rw [List.foldl_cons, pre_fold r (lcp a x), pre_iff_lcp]
    simp only [List.mem_cons, forall_eq_or_imp, and_assoc]
theorem lcp_between : ∀ {a x b : List (List Nat)}, leL a x → leL x b → lcp a b <+: x
  | [], x, b, _, _ => by simp [lcp]
  | u :: a, x, [], _, _ => by simp [lcp]
  | u :: a, [], v :: b, h, _ => by cases h
  | u :: a, y :: x, v :: b, h, k => by
    rw [lcp]
    split
    · rename_i e; subst e
      unfold leL at h k
      rw [ltL] at h k
      by_cases hy : y = u
      · subst hy
        simp only [if_true] at h k
        exact List.prefix_cons_inj y |>.mpr (lcp_between h k)
      · rw [if_neg hy] at h
        rw [if_neg (Ne.symm hy)] at k
        rcases ltN_total hy with q | q
        · rw [decide_eq_true q] at h; cases h
        · rw [decide_eq_true q] at k; cases k
    · exact List.nil_prefix
theorem common_fold {css : List (List (List Nat))} {a : List (List Nat)} (ha : css[0]? = some a) : lcp (minL css) (maxL css) = css.foldl lcp a := by
  have hpos : 0 < css.length := (List.getElem?_eq_some_iff.mp ha).1
  have hB : ∀ d, d <+: lcp (minL css) (maxL css) ↔ ∀ x ∈ css, d <+: x := fun d => by
    constructor
    · intro h x hx
      obtain ⟨k, hk, rfl⟩ := List.getElem_of_mem hx
      have e : getC css k = css[k] := by unfold getC; rw [List.getElem?_eq_getElem hk]; rfl
      exact h.trans (lcp_between (e ▸ minL_le hk) (e ▸ le_maxL hk))
    · intro h
      exact lcp_max (h _ (minL_mem hpos)) (h _ (maxL_mem hpos))
  have ham : a ∈ css := List.mem_of_getElem? ha
  refine pre_antisymm ((pre_fold css a).mpr ⟨?_, ?_⟩) ((hB _).mpr fun x hx => ?_)
  · exact (hB _).mp (List.prefix_refl _) a ham
  · exact (hB _).mp (List.prefix_refl _)
  · exact ((pre_fold css a).mp (List.prefix_refl _)).2 x hx
theorem filter_range_lt : ∀ n L, L ≤ n → (List.range n).filter (fun j => decide (j < L)) = List.range L
  | 0, L, h => by have : L = 0 := by omega
                  subst this; rfl
  | n + 1, L, h => by
    rw [List.range_succ, List.filter_append]
    by_cases hL : L = n + 1
    · subst hL
      have : (List.range n).filter (fun j => decide (j < n + 1)) = List.range n := List.filter_eq_self.mpr fun j hj => by
        have := List.mem_range.mp hj
        exact decide_eq_true (by omega)
      rw [this, List.range_succ]; simp
    · rw [filter_range_lt n L (by omega)]
      have : ¬ n < L := by omega
      simp [this]
theorem filter_pref {r : List Nat} {C cs : List (List Nat)} (hC : Good C) (hcs : Good cs) : (pref r C).filter (fun one => (pref r cs).contains one) = pref r (lcp C cs) := by
  have hL : (lcp C cs).length ≤ C.length := (lcp_pre1 C cs).length_le
  have hT : ∀ j, j < (lcp C cs).length → C.take (j + 1) = (lcp C cs).take (j + 1) := fun j hj => by
    have := List.prefix_iff_eq_take.mp (lcp_pre1 C cs)
    have e2 := congrArg (List.take (j + 1)) this
    rw [List.take_take] at e2
    rw [e2]; congr 1; omega
  unfold pref
  rw [List.filter_map]
  have e : (List.range C.length).filter ((fun one => ((List.range cs.length).map fun j => r ++ joinL (cs.take (j + 1))).contains one) ∘ fun j => r ++ joinL (C.take (j + 1))) = (List.range C.length).filter (fun j => decide (j < (lcp C cs).length)) := by
    refine List.filter_congr fun j hj => ?_
    have hjl := List.mem_range.mp hj
    have hne : C.take (j + 1) ≠ [] := by
      intro e
      have hl : (C.take (j + 1)).length = j + 1 := by rw [List.length_take]; omega
      rw [e] at hl; simp at hl
    rw [Bool.eq_iff_iff, decide_eq_true_iff]
    show (pref r cs).contains (r ++ joinL (C.take (j + 1))) = true ↔ _
    rw [List.contains_iff_mem, mem_pref hcs (hC.take _) hne]
    constructor
    · intro h
      have := (lcp_max (List.take_prefix (j + 1) C) h).length_le
      rw [List.length_take] at this; omega
    · intro h
      rw [hT j h]
      exact (List.take_prefix _ _).trans (lcp_pre2 C cs)
  rw [e, filter_range_lt _ _ hL]
  exact List.map_congr_left fun j hj => by rw [hT j (List.mem_range.mp hj)]
theorem good_lcp {a b : List (List Nat)} (h : Good a) : Good (lcp a b) := fun c hc => h c ((lcp_pre1 a b).subset hc)

/-! the shared path again -/
theorem hdp_shared {r : List Nat} (hr : r = [] ∨ r = [47]) : ∀ (n : Nat) (C : List (List Nat)), C.length ≤ n → Good C → hdp (r ++ joinL C) = pref r C := by
  have h0 : hdp r = [] := by
    rcases hr with rfl | rfl
    · exact hdp_nil
    · exact (hdp_sl []).trans hdp_nil
  have hrs : endsSl r := by
    rcases hr with rfl | rfl
    · exact .inl rfl
    · exact .inr ⟨[], rfl⟩
  intro n
  induction n with
  | zero =>
    intro C hC _
    have : C = [] := List.eq_nil_of_length_eq_zero (by omega)
    subst this
    show hdp (r ++ []) = []
    rw [List.append_nil]; exact h0
  | succ n ih =>
    intro C hl hC
    rcases List.eq_nil_or_concat C with rfl | ⟨D, c, rfl⟩
    · show hdp (r ++ []) = []
      rw [List.append_nil]; exact h0
    · have gD : Good D := fun x hx => hC x (by simp [hx])
      have gc := hC c (by simp)
      have e : D.concat c = D ++ [c] := by simp
      rw [e, pref_snoc]
      by_cases hD : D = []
      · subst hD
        show hdp (r ++ c) = [] ++ [r ++ c]
        rw [hdp_app hrs gc.2 gc.1, h0]
      · rw [joinL_snoc c hD]
        have e2 : r ++ (joinL D ++ 47 :: c) = (r ++ joinL D ++ [47]) ++ c := by simp
        rw [e2, hdp_app (.inr ⟨_, rfl⟩) gc.2 gc.1, hdp_sl, ih D (by simp at hl; omega) gD]
theorem last_pref {r : List Nat} (C : List (List Nat)) : (r :: pref r C)[(r :: pref r C).length - 1]? = some (r ++ joinL C) := by
  rcases List.eq_nil_or_concat C with rfl | ⟨D, c, rfl⟩
  · simp [pref, joinL]
  · have e : D.concat c = D ++ [c] := by simp
    rw [e, pref_snoc]
    simp
theorem commonL_one (one : List Nat) : commonL [one] = comps one := by
  unfold commonL minL maxL getC
  simp only [List.map_cons, List.map_nil, List.length_singleton, Nat.sub_self, argBest, List.getElem?_cons_zero, Option.getD_some]
  exact lcp_all _ _ fun j _ => rfl
/-! heads begin as the path does -/
theorem hdp_pre : ∀ (n : Nat) (p : List Nat), p.length ≤ n → ∀ y ∈ hdp p, y <+: p ∧ y ≠ [] := by
  intro n
  induction n with
  | zero =>
    intro p hp y hy
    have : p = [] := List.eq_nil_of_length_eq_zero (by omega)
    subst this
    rw [hdp_nil] at hy; cases hy
  | succ n ih =>
    intro p hp y hy
    rcases cases_path p with rfl | ⟨x, rfl⟩ | ⟨q, cur, rfl, hq, hc, hne⟩
    · rw [hdp_nil] at hy; cases hy
    · rw [hdp_sl] at hy
      obtain ⟨h1, h2⟩ := ih x (by simp at hp; omega) y hy
      exact ⟨h1.trans (List.prefix_append _ _), h2⟩
    · rw [hdp_app hq hc hne] at hy
      have hl : q.length ≤ n := by
        have : 0 < cur.length := List.length_pos_iff.mpr hne
        rw [List.length_append] at hp; omega
      rcases List.mem_append.mp hy with hy | hy
      · obtain ⟨h1, h2⟩ := ih q hl y hy
        exact ⟨h1.trans (List.prefix_append _ _), h2⟩
      · rw [List.mem_singleton.mp hy]
        exact ⟨List.prefix_refl _, by simp [hne]⟩
theorem head_of_pre {y p : List Nat} (h : y <+: p) (hy : y ≠ []) : y.head? = p.head? := by
  obtain ⟨t, rfl⟩ := h
  cases y with
  | nil => exact absurd rfl hy
  | cons c r => rfl
end Mine
end
section
open PySem PySem.W PyProof.Rows
open SeqAt
set_option maxRecDepth 100000
namespace Mine
section
variable {prog : Program} {w : World} {A : Around} {h : Heap} {env : Env} {o e e₁ e₂ l r : Expr} {apos pos p sp : Pos} {E : Value → Shared → Prop} {s : Shared}
/-- a list of texts turned round -/
theorem pe_rev {xs : List (List Nat)} {D₀ : Prop} (ho : PE prog w A h (eval o env) (fun v h' => ∃ D : Addr, v = .ref D ∧ LI h' D xs)) (hi : PV prog w A h (eval e env) (IsI (-1))) (hn : xs.length ≤ 100000)
    (hs : ∀ D a, subscripted (.Slice none none (some e) sp) false (.ref D) (.ref a) = operate [.ref D, .ref a] (getItem (.ref D) (.ref a)) := by intro _ _; with_unfolding_all rfl) :
    PE prog w A h (eval (.Subscript o (.Slice none none (some e) sp) pos) env) (fun v h' => NewLS h h' v xs.reverse) := by
  intro s Q E hss q
  refine Subscript_ (ho s _ E hss fun v h1 t1 k1 ⟨D, ev, lD⟩ => wpAny_Slice ?_)
  subst ev
  refine wpAny_pure ?_
  refine wpAny_pure ?_
  refine hi _ _ E (hss.trans k1) fun u h2 t2 k2 hu => ?_
  obtain ⟨t, rfl⟩ := hu
  obtain ⟨vs, il, ss⟩ := lD.up k2
  have il2 := il.push { cls := .type "slice", data := .fields #[.none, .none, .int (-1) t] }
  have hlen := ss.len
  have e1 : (h2.push { cls := .type "slice", data := .fields #[.none, .none, .int (-1) t] }).objs.size = h2.objs.size + 1 := Heap.size_push ..
  refine tail_any il2.typeIs slot_list_getitem.lookup (wpAny_getItem_list_slice (hsz := by rw [szL]; simp; omega) il2 (Heap.IsSliceOf.new ..) .none .none (.int (-1) t) (by decide) ?_) (hs D _)
  refine q _ _ _ ((((k1.trans k2).trans (Sub.push _ _)).trans (Sub.push _ _))) ⟨_, rfl, (hss.trans (k1.trans k2)).none (Heap.get?_none_of_le (by rw [e1]; exact Nat.le_succ _)), vs.reverse, ?_, ss.rev⟩
  have := Heap.get?_push_size (h2.push { cls := .type "slice", data := .fields #[.none, .none, .int (-1) t] }) (o := { cls := .type "list", data := .seq (slicePick vs.toArray none none (some (-1))) }) rfl
  rw [krv_pick] at this ⊢
  exact ⟨_, by simpa using this⟩
/-- the same list of texts -/
theorem cmp_neSame {n : Nat} (O : AOk n A) {a b : Value} {xs : List (List Nat)} (ha : ∃ D : Addr, a = .ref D ∧ LI h D xs) (hb : ∃ D : Addr, b = .ref D ∧ LI h D xs) : PV prog w A h (compareOp .NotEq a b) (· = .bool false) := by
  obtain ⟨D, rfl, la⟩ := ha
  obtain ⟨D', rfl, lb⟩ := hb
  intro s Q E hss q
  obtain ⟨vs, il, ss⟩ := la.up hss
  obtain ⟨us, il', ss'⟩ := lb.up hss
  have h1 := ss.len
  have h2 := ss'.len
  refine RcNeAt.lists (e := fun _ => true) il il' (by simp; omega) O.line (fun j h1 h2 => ?_) prog w E Q ?_
  · have hj1 : j < vs.length := by simpa using h1
    have hj2 : j < us.length := by simpa using h2
    obtain ⟨x, hx, t, et⟩ := ss.get (List.getElem?_eq_getElem hj1)
    obtain ⟨y, hy, u, eu⟩ := ss'.get (List.getElem?_eq_getElem hj2)
    rw [hx] at hy; cases hy
    have e1 : vs.toArray[j] = .str (S x) t := by simpa using et
    have e2 : us.toArray[j] = .str (S x) u := by simpa using eu
    rw [e1, e2]
    have := EqAt.str_str (A := A.in1) (s := s) (S x) t (S x) u
    rwa [beq_self_eq_true] at this
  · have e : (List.range vs.toArray.size).all (fun _ => true) = true := List.all_eq_true.mpr fun _ _ => rfl
    rw [e]
    exact q _ s.heap s.toks Sub.rfl rfl
/-- a list display and a list -/
theorem pe_addL {D : Addr} {vs ws : List Value} (hl : PE prog w A h (eval l env) (fun v h' => ∃ D' : Addr, v = .ref D' ∧ h'.PlainList D' vs.toArray)) (hr : PV prog w A h (eval r env) (· = .ref D)) (hD : h.PlainList D ws.toArray) (hn : vs.length + ws.length ≤ 100000) :
    PE prog w A h (eval (.BinOp l .Add r pos) env) (fun v h' => ∃ D' : Addr, v = .ref D' ∧ h'.PlainList D' (vs ++ ws).toArray) := by
  intro s Q E hss q
  refine wpAny_BinOp (hl s _ E hss fun a h1 t1 k1 ⟨D', ea, pa⟩ => hr _ _ E (hss.trans k1) fun b h2 t2 k2 eb => ?_)
  subst ea; subst eb
  obtain ⟨n, ga⟩ := pa.at fun o e => k2 D' o e
  obtain ⟨n', gb⟩ := hD.at fun o e => ((hss.trans k1).trans k2) D o e
  refine P.add_list (hsz := by rw [szL]; simp; omega) ga gb ?_
  refine q _ _ t2 ((k1.trans k2).trans (Sub.push _ _)) ⟨_, rfl, ?_⟩
  have := Heap.get?_push_size h2 (o := { cls := .type "list", data := .seq (vs.toArray ++ ws.toArray) }) rfl
  exact ⟨_, by simpa using this⟩
/-- a run of a list -/
theorem pe_run {D : Addr} {vs : List Value} {a b : Nat} (ho : PV prog w A h (eval o env) (· = .ref D)) (hl : h.IsList D vs.toArray) (hi : PV prog w A h (eval e₁ env) (IsI a)) (hj : PV prog w A h (eval e₂ env) (IsI b)) (hab : a ≤ b) (hb : b ≤ vs.length) (hn : vs.length ≤ 100000)
    (ht : ∀ o' r, letTemporaryGo o o' r = Pure.pure () := by intro _ _; rfl) :
    PE prog w A h (eval (.Subscript o (.Slice (some e₁) (some e₂) none sp) pos) env) (fun v h' => ∃ T : Addr, v = .ref T ∧ h.get? T = none ∧ h'.PlainList T ((vs.drop a).take (b - a)).toArray) := by
  intro s Q E hs q
  refine wpAny_Subscript_list_slice (ho s _ E hs fun v h1 t1 k1 hv => ?_) ht
  rw [evalPart_some]
  refine hi _ _ E (hs.trans k1) fun u h2 t2 k2 hu => ?_
  rw [evalPart_some]
  refine hj _ _ E ((hs.trans k1).trans k2) fun u' h3 t3 k3 hu' => ?_
  subst hv
  obtain ⟨t, rfl⟩ := hu
  obtain ⟨t', rfl⟩ := hu'
  have kk := (k1.trans k2).trans k3
  have e1 : (h3.push { cls := .type "slice", data := .fields #[.int a t, .int b t', .none] }).objs.size = h3.objs.size + 1 := Heap.size_push ..
  refine ⟨D, vs.toArray, some (a : Int), some (b : Int), rfl, ((hl.at fun o e => (hs.trans kk) _ o e)), (by rw [szL]; simp; omega), .int _ _, .int _ _, ?_⟩
  refine q _ _ _ ((kk.trans (Sub.push _ _)).trans (Sub.push _ _)) ⟨_, rfl, (hs.trans kk).none (Heap.get?_none_of_le (Nat.le_succ _)), ?_⟩
  have e2 := Heap.get?_push_size (h3.push { cls := .type "slice", data := .fields #[.int a t, .int b t', .none] }) (o := { cls := .type "list", data := .seq (slicePick vs.toArray (some (a : Int)) (some (b : Int)) none) }) rfl
  rw [e1] at e2
  rw [slicePick_run _ _ _ (by simpa using hb) hab] at e2 ⊢
  exact ⟨_, by simpa using e2⟩
/-- a list comprehension over pairs -/
theorem pe_listcomp2 {α : Type} {x y : Str} {px py tp : Pos} {k0 : Nat} {iter elt : Expr} {scope : Scope} {vs : List Value} {xs : List α} {v₀ : Value} {V : α → Value → Prop} {Vx Vy : α → Value → Prop} {RR : α → Value → Prop} {h : Heap}
    (hh : A.handled = none) (hclos : closureFor scope env = Pure.pure []) 
    (hit : PV prog w A h (eval iter env) (· = v₀)) (hv : ItOf h v₀ vs) (hlen : vs.length ≤ 100000) (hV : Paired V xs vs) (hpair : ∀ a v, V a v → ∃ (T : Addr) (u z : Value), v = .ref T ∧ h.IsTuple T #[u, z] ∧ Vx a u ∧ Vy a z)
    (helt : ∀ (C : Addr) (a : α) (u z : Value) (H : Heap) (m : Str → Option Value), Vx a u → Vy a z → Sub h H → H.Ns C m → m x = some u → m y = some z → PV prog w A H (eval elt (compEnvC scope [] C env)) (RR a))
    (hxy : x ≠ y := by decide) (hcell : ∀ y ∈ scope.names, y.2 ≠ .cell := by decide) (hnames : ∀ x ∈ scope.names, x.2 = .local → scope.names.lookup x.1 = some .local := by decide)
    (hkind : scope.kind = .function := by rfl) (hx : scope.names.lookup x = some .local := by rfl) (hy : scope.names.lookup y = some .local := by rfl) (hsf : ∀ x, foldedSetIterable iter env x = Pure.pure x := by intro _; rfl) :
    PE prog w A h (eval (.ListComp elt [⟨.Tuple [.Name x px, .Name y py] k0 tp, iter, [], 0⟩] scope pos) env) (fun v h' => ∃ (D : Addr) (ys : List Value), v = .ref D ∧ h.get? D = none ∧ h'.PlainList D ys.toArray ∧ Paired RR xs ys) := by
  intro s Q E hs q
  rw [eval_ListComp]
  refine list_run (B := fun a _ m => ∃ u z, Vx a u ∧ Vy a z ∧ m x = some u ∧ m y = some z) (V := V) (b := fun _ => true) (RR := fun a _ _ v => RR a v) hh hsf hclos hcell hkind hnames hit hv hlen hV (fun a => Res.const _) hs (fun I v s' Q' E' ho k => ?_) (fun C a v s' m Q' E' hva hsub hn k => ?_) (fun C a v H m _ _ _ _ => tests_nil) (fun C a v H m hva _ hH hn ⟨u, z, hu, hz, e1, e2⟩ => helt C a u z H m hu hz hH hn e1 e2) fun D C hL h' tk m ys hD hC hDC hsL hCL hn hp hF hsub => ?_
  · obtain ⟨ob, hob, hcls, fs, hfs⟩ := ho
    cases v with
    | ref a =>
      show wpAny _ A (load I >>= _) _ _ _
      refine wpAny_bind (wpAny_load hob ?_)
      rw [hfs]
      rcases hcls with hcls | hcls
      · rw [hcls]; exact wpAny_pure k
      · rw [hcls]; exact wpAny_pure k
    | _ => exact wpAny_pure k
  · obtain ⟨T, u, z, rfl, hT, hu, hz⟩ := hpair a v hva
    have hT' : s'.heap.IsTuple T #[u, z] := (hT.at fun o e => hsub _ o e)
    refine wpAny_assign_Tuple (items := #[u, z]) hh hT' rfl rfl fun h₃ x₃ => ?_
    have k3 : Sub s'.heap h₃ := Sub.ofExt x₃
    show wpAny _ _ (do holding [z] (assign (.Name x px) _ u); do holding [] (assign (.Name y py) _ z); Pure.pure ()) _ _ _
    refine wpAny_bind (wpAny_holding (wpAny_assign_Name (wpAny_storeName_local (lookup_relabel_local hx) (hn.keeps k3) (fun h₄ hn₄ hs₄ => ?_) (by simp [compEnvC, relabel, hkind]))))
    refine wpAny_bind (wpAny_holding (wpAny_assign_Name (wpAny_storeName_local (lookup_relabel_local hy) hn₄ (fun h₅ hn₅ hs₅ => wpAny_pure ?_) (by simp [compEnvC, relabel, hkind]))))
    exact k h₅ _ _ ((k3.toX.trans (SubX.ofSame hs₄)).trans (SubX.ofSame hs₅)) hn₅ ⟨u, z, hu, hz, by rw [if_neg hxy, if_pos rfl], if_pos rfl⟩
  · refine ⟨m, hn, fun h'' hs'' => q _ h'' tk (fun c o e => hs''.extBut c o (fun z => by rw [z, hC] at e; cases e) (hsub c o e)) ⟨D, ys, rfl, hs.none hD, hp.extBut hs''.extBut hDC, ?_⟩⟩
    rw [filter_true] at hF
    exact hF
end
end Mine
end
section
open PySem PySem.W PyProof.Rows
set_option maxRecDepth 100000
namespace Mine
section
variable {prog : Program} {w : World} {A : Around} {h₀ : Heap} {env : Env} {m : Str → Option Value} {s : Shared} {Q : Flow → Shared → Prop} {E : Value → Shared → Prop} {rest : List Stmt}
/-- a name given a list comprehension over pairs -/
theorem st_listcomp2 {α : Type} {x y n : Str} {px py tp pn : Pos} {k0 : Nat} {iter elt : Expr} {scope : Scope} {pos spos : Pos} {vs : List Value} {xs : List α} {v₀ : Value} {V : α → Value → Prop} {Vx Vy : α → Value → Prop} {RR : α → Value → Prop}
    (F : Fr h₀ env.locals s.heap m) (hh : A.handled = none) (hclos : closureFor scope env = Pure.pure []) 
    (hit : PV prog w A s.heap (eval iter env) (· = v₀)) (hv : ItOf s.heap v₀ vs) (hlen : vs.length ≤ 100000) (hV : Paired V xs vs) (hpair : ∀ a v, V a v → ∃ (T : Addr) (u z : Value), v = .ref T ∧ s.heap.IsTuple T #[u, z] ∧ Vx a u ∧ Vy a z)
    (helt : ∀ (C : Addr) (a : α) (u z : Value) (H : Heap) (m : Str → Option Value), Vx a u → Vy a z → Sub s.heap H → H.Ns C m → m x = some u → m y = some z → PV prog w A H (eval elt (compEnvC scope [] C env)) (RR a))
    (k : ∀ D ys h' tk, SubX [env.locals] s.heap h' → Fr h₀ env.locals h' (upd m n (.ref D)) → s.heap.get? D = none → h'.PlainList D ys.toArray → Paired RR xs ys →
      wpAny (model prog w) A (execs rest env) Q E { s with heap := h', toks := tk })
    (hxy : x ≠ y := by decide) (hcell : ∀ y ∈ scope.names, y.2 ≠ .cell := by decide) (hnames : ∀ x ∈ scope.names, x.2 = .local → scope.names.lookup x.1 = some .local := by decide)
    (hkind : scope.kind = .function := by rfl) (hx : scope.names.lookup x = some .local := by rfl) (hy : scope.names.lookup y = some .local := by rfl) (hsf : ∀ x, foldedSetIterable iter env x = Pure.pure x := by intro _; rfl)
    (hk : env.scope.kind = .function := by rfl) (hn : env.kindOf n = some .local := by rfl)
    (hsw : swapsWith (.ListComp elt [⟨.Tuple [.Name x px, .Name y py] k0 tp, iter, [], 0⟩] scope pos) (some (.Name n pn)) spos.line env = Pure.pure true := by rfl) :
    wpAny (model prog w) A (execs (.Assign [.Name n pn] (.ListComp elt [⟨.Tuple [.Name x px, .Name y py] k0 tp, iter, [], 0⟩] scope pos) spos :: rest) env) Q E s := by
  refine wpAny_execs_cons ?_
  rw [exec_Assign_Name_used _ _ _ _ hsw]
  refine wpAny_bind (wpAny_standAt (wpAny_bind ?_))
  show wpAny _ A (do let _ ← comprehension (.ListComp elt [⟨.Tuple [.Name x px, .Name y py] k0 tp, iter, [], 0⟩] scope pos) scope env _ (newList []) false (eval iter env) (some (assign (.Name n pn) env))) _ _ s
  refine wpAny_bind (list_run (B := fun a _ m => ∃ u z, Vx a u ∧ Vy a z ∧ m x = some u ∧ m y = some z) (V := V) (b := fun _ => true) (RR := fun a _ _ v => RR a v) hh hsf hclos hcell hkind hnames hit hv hlen hV (fun a => Res.const _) Sub.rfl (fun I v s' Q' E' ho k => ?_) (fun C a v s' m Q' E' hva hsub hn k => ?_) (fun C a v H m _ _ _ _ => tests_nil) (fun C a v H m hva _ hH hn ⟨u, z, hu, hz, e1, e2⟩ => helt C a u z H m hu hz hH hn e1 e2) fun D C hL h' tk mC ys hD hC hDC hsL hCL hn' hp hF hsub => ?_)
  · obtain ⟨ob, hob, hcls, fs, hfs⟩ := ho
    cases v with
    | ref a =>
      show wpAny _ A (load I >>= _) _ _ _
      refine wpAny_bind (wpAny_load hob ?_)
      rw [hfs]
      rcases hcls with hcls | hcls
      · rw [hcls]; exact wpAny_pure k
      · rw [hcls]; exact wpAny_pure k
    | _ => exact wpAny_pure k
  · obtain ⟨T, u, z, rfl, hT, hu, hz⟩ := hpair a v hva
    have hT' : s'.heap.IsTuple T #[u, z] := (hT.at fun o e => hsub _ o e)
    refine wpAny_assign_Tuple (items := #[u, z]) hh hT' rfl rfl fun h₃ x₃ => ?_
    have k3 : Sub s'.heap h₃ := Sub.ofExt x₃
    show wpAny _ _ (do holding [z] (assign (.Name x px) _ u); do holding [] (assign (.Name y py) _ z); Pure.pure ()) _ _ _
    refine wpAny_bind (wpAny_holding (wpAny_assign_Name (wpAny_storeName_local (lookup_relabel_local hx) (hn.keeps k3) (fun h₄ hn₄ hs₄ => ?_) (by simp [compEnvC, relabel, hkind]))))
    refine wpAny_bind (wpAny_holding (wpAny_assign_Name (wpAny_storeName_local (lookup_relabel_local hy) hn₄ (fun h₅ hn₅ hs₅ => wpAny_pure ?_) (by simp [compEnvC, relabel, hkind]))))
    exact k h₅ _ _ ((k3.toX.trans (SubX.ofSame hs₄)).trans (SubX.ofSame hs₅)) hn₅ ⟨u, z, hu, hz, by rw [if_neg hxy, if_pos rfl], if_pos rfl⟩
  · have lvL : s.heap.get? env.locals ≠ none := ns_live F.ns
    have hLC : env.locals ≠ C := fun z => lvL (z ▸ hC)
    have hLD : env.locals ≠ D := fun z => lvL (z ▸ hD)
    show wpAny _ A (assign (.Name n pn) env (.ref D)) _ _ _
    refine wpAny_assign_Name (wpAny_storeName_local hn (F.ns.keeps hsub) (fun h₂ hn₂ hs₂ => ?_) (by rw [hk]; rfl))
    refine ⟨mC, hn'.sameBut hs₂ (Ne.symm hLC), fun h₃ hs₃ => wpAny_pure (wpAny_pure ?_)⟩
    have X : SubX [env.locals] s.heap h₃ := fun c o hc e => hs₃.extBut c o (fun z => by rw [z, hC] at e; cases e) (hs₂.extBut c o (fun z => hc (by rw [z]; exact List.mem_singleton.mpr rfl)) (hsub c o e))
    refine k D ys h₃ _ X ⟨hn₂.sameBut hs₃ hLC, fun c o e => X c o (fun hm => ?_) (F.keep c o e), F.above⟩ hD ((hp.extBut hs₂.extBut (Ne.symm hLD)).extBut hs₃.extBut hDC) ?_
    · rw [List.mem_singleton.mp hm] at e
      exact absurd (Heap.lt_size e) (Nat.not_lt.mpr F.above)
    · rw [filter_true] at hF
      exact hF

/-- for c in a range, c a cell -/
theorem st_for_rangeC {x : Str} {px pos : Pos} {iter : Expr} {body : List Stmt} {ms : List Addr} {c : Addr} {v₀ : Option Value} {a b : Nat} (J : Heap → Nat → (Str → Option Value) → Shared → Prop)
    (hh : A.handled = none) (F : Fr h₀ env.locals s.heap m) (hc : env.cells.lookup x = some c) (hcell : s.heap.IsCell c v₀) (hc0 : h₀.get? c = none) (hcL : env.locals ≠ c)
    (hit : PE prog w A s.heap (eval iter env) (fun v h' => ∃ r t u x, v = .ref r ∧ IsRange h' r (a : Int) b 1 t u x)) (hab : a ≤ b) (hb : b ≤ 1000000) (hms : ∀ b ∈ ms, s.heap.get? b ≠ none) (hcm : c ∉ ms)
    (h0 : ∀ hB tk, Sub s.heap hB → J hB 0 m { s with heap := hB, toks := tk })
    (hJ : ∀ hB i m (s' : Shared) h' tk a, Sub s.heap hB → hB.get? a ≠ none → (s.heap.get? a = none ∨ a = c) → J hB i m s' → SubX [a] s'.heap h' → J hB i m { s' with heap := h', toks := tk })
    (step : ∀ hB i v m' (s' : Shared) (E' : Value → Shared → Prop), Sub s.heap hB → i < b - a → IsI ((a + i : Nat) : Int) v → s'.heap.IsCell c (some v) → Fr h₀ env.locals s'.heap m' → Live hB s'.heap → J hB i m' s' →
      wpAny (model prog w) A (execs body env) (fun f s₃ => match f with
        | .next | .cont => ∃ m₃, Fr h₀ env.locals s₃.heap m₃ ∧ J hB (i + 1) m₃ s₃ ∧ SubX ms s'.heap s₃.heap ∧ ∀ b ∈ ms, s₃.heap.get? b ≠ none
        | .brk => wpAny (model prog w) A (execs rest env) Q E s₃
        | .ret v => Q (.ret v) s₃) E' s')
    (fin : ∀ hB m' (s' : Shared), Sub s.heap hB → Fr h₀ env.locals s'.heap m' → (∃ v, s'.heap.IsCell c v) → J hB (b - a) m' s' → wpAny (model prog w) A (execs rest env) Q E s')
    (hk : env.scope.kind = .function := by rfl) (hx : env.kindOf x = some .cell := by rfl) (hsf : ∀ x, foldedSetIterable iter env x = Pure.pure x := by intro _; rfl) :
    wpAny (model prog w) A (execs (.For (.Name x px) iter body [] pos :: rest) env) Q E s := by
  refine wpAny_execs_cons (wpAny_For (hit s _ E Sub.rfl fun v h1 t1 k1 ⟨r, t, u, x', hv1, hr⟩ => ?_) hsf)
  subst hv1
  refine wpAny_pyIter_range hr (small_one (by omega) (by omega) (by omega) (by omega)) ?_
  have hsz : Builtin.Range.rangeSize (a : Int) b 1 = ((b - a : Nat) : Int) := by rw [rangeSize_one]; split <;> omega
  have hI : IsRangeIter (h1.push { cls := .type "range_iterator", data := .fields #[rawInt a, rawInt (Builtin.Range.rangeSize (a : Int) b 1), rawInt 1] }) h1.objs.size a ((b - a : Nat) : Int) 1 := by
    have := Heap.get?_push_size h1 (o := { cls := .type "range_iterator", data := .fields #[rawInt a, rawInt (Builtin.Range.rangeSize (a : Int) b 1), rawInt 1] }) rfl
    rw [hsz] at this ⊢; exact this
  have kB : Sub s.heap (h1.push { cls := .type "range_iterator", data := .fields #[rawInt a, rawInt (Builtin.Range.rangeSize (a : Int) b 1), rawInt 1] }) := k1.trans (Sub.push _ _)
  have n1 : s.heap.get? h1.objs.size = none := k1.none (get_none_size h1)
  have lvL : s.heap.get? env.locals ≠ none := ns_live F.ns
  have lvc : s.heap.get? c ≠ none := let ⟨o, ho, _⟩ := hcell; live_of ho
  have hIL : h1.objs.size ≠ env.locals := fun z => lvL (z ▸ n1)
  have hIc : h1.objs.size ≠ c := fun z => lvc (z ▸ n1)
  have W := Walks.range (prog := prog) (w := w) (A := A) hh h1.objs.size (a : Int) 1 (b - a)
  generalize hHB : h1.push { cls := .type "range_iterator", data := .fields #[rawInt a, rawInt (Builtin.Range.rangeSize (a : Int) b 1), rawInt 1] } = HB at hI kB ⊢
  refine codeAny_mono (R := fun r s' => match r with | .ok .next => wpAny (model prog w) A (execs rest env) Q E s' | .ok (.ret v) => Q (.ret v) s' | _ => False) ?_ fun r s' hr' => ?_
  · refine codeAny_forLoop_any (fun k s' => ∃ i m', IsRangeIter s'.heap h1.objs.size (a + (i : Nat) * 1) (((b - a : Nat) : Int) - (i : Nat)) 1 ∧ Fr h₀ env.locals s'.heap m' ∧ J HB i m' s' ∧ Live HB s'.heap ∧ (∃ v, s'.heap.IsCell c v) ∧ i ≤ b - a ∧ k = b - a + 1 - i) ?_ (b - a + 1)
      ⟨0, m, by simpa using hI, fr_up F kB, h0 _ _ kB, fun _ h => h, ⟨_, cell_up hcell kB⟩, Nat.zero_le _, rfl⟩
    rintro k s' ⟨i, m', hst', F', hJ', hL', ⟨vc, hcl'⟩, hi, rfl⟩
    by_cases hlt : i < b - a
    · refine W.item i _ _ _ hlt hst' fun v h₁ tk₁ ⟨t, hv⟩ hst₁ hk₁ => ?_
      have X1 : SubX [h1.objs.size] s'.heap h₁ := fun d o hd e => hk₁ d o hd e
      have F1 := Fr.mv F' X1 hIL ((fr_sub F).none n1)
      have cl1 := cell_upX hcl' X1 (not_mem1 (Ne.symm hIc))
      refine wpAny_pure (wpAny_assign_Name (wpAny_storeName_cell hk hx hc cl1 fun h₂ hc₂ hs₂ => ?_))
      have F2 : Fr h₀ env.locals h₂ m' := Fr.mv F1 (SubX.ofSame hs₂) (Ne.symm hcL) hc0
      have J1 := hJ HB i m' s' h₁ tk₁ h1.objs.size kB (live_of hI) (.inl n1) hJ' X1
      have J2 := hJ HB i m' _ h₂ tk₁ c kB (Live.ofSub kB _ lvc) (.inr rfl) J1 (SubX.ofSame hs₂)
      have hst₂ : IsRangeIter h₂ h1.objs.size (a + ((i + 1 : Nat) : Nat) * 1) (((b - a : Nat) : Int) - ((i + 1 : Nat) : Nat)) 1 := W.frame (i + 1) h₁ h₂ hst₁ fun d hd o e => hs₂.extBut d o (fun z => hIc (by rw [← List.mem_singleton.mp hd, z])) e
      have L2 : Live HB h₂ := fun d hd => by
        by_cases hdI : d = h1.objs.size
        · rw [hdI]; exact live_of hst₂
        · by_cases hdc : d = c
          · rw [hdc]; obtain ⟨o, ho, _⟩ := hc₂; exact live_of ho
          · cases e : s'.heap.get? d with
            | none => exact absurd e (hL' d hd)
            | some o => exact live_of (hs₂.extBut d o hdc (X1 d o (fun hm => hdI (List.mem_singleton.mp hm)) e))
      refine wpAny_mono (step HB i v m' { s' with heap := h₂, toks := tk₁ } _ kB hlt ⟨t, by rw [hv]; congr 1; push_cast; omega⟩ hc₂ F2 L2 J2) (fun f s₃ h₃ => ?_) fun _ _ e => e
      have nx : (∃ m₃, Fr h₀ env.locals s₃.heap m₃ ∧ J HB (i + 1) m₃ s₃ ∧ SubX ms h₂ s₃.heap ∧ ∀ b ∈ ms, s₃.heap.get? b ≠ none) → ∃ k, k < b - a + 1 - i ∧ ∃ i m', IsRangeIter s₃.heap h1.objs.size (a + (i : Nat) * 1) (((b - a : Nat) : Int) - (i : Nat)) 1 ∧ Fr h₀ env.locals s₃.heap m' ∧ J HB i m' s₃ ∧ Live HB s₃.heap ∧ (∃ v, s₃.heap.IsCell c v) ∧ i ≤ b - a ∧ k = b - a + 1 - i := by
        rintro ⟨m₃, F3, J3, X3, lv3⟩
        refine ⟨b - a + 1 - (i + 1), by omega, i + 1, m₃, W.frame (i + 1) h₂ _ hst₂ fun d hd o e => X3 d o (fun hm => hms d hm (by rw [List.mem_singleton.mp hd]; exact n1)) e, F3, J3, fun d hd => ?_, ⟨_, cell_upX hc₂ X3 hcm⟩, hlt, rfl⟩
        by_cases hdm : d ∈ ms
        · exact lv3 d hdm
        · cases e : h₂.get? d with
          | none => exact absurd e (L2 d hd)
          | some o => exact live_of (X3 d o hdm e)
      cases f with
      | next => exact nx h₃
      | cont => exact nx h₃
      | brk => exact h₃
      | ret v => exact h₃
    · have hin : i = b - a := by omega
      subst hin
      refine W.done _ _ _ hst' fun h₁ tk₁ hk₁ => ?_
      have X1 : SubX [h1.objs.size] s'.heap h₁ := fun d o hd e => hk₁ d o hd e
      exact wpAny_pure (fin HB m' _ kB (Fr.mv F' X1 hIL ((fr_sub F).none n1)) ⟨_, cell_upX hcl' X1 (not_mem1 (Ne.symm hIc))⟩ (hJ HB _ m' s' h₁ tk₁ h1.objs.size kB (live_of hI) (.inl n1) hJ' X1))
  · cases r with
    | error e => exact hr'.elim
    | ok f => cases f with
      | next => exact hr'
      | ret v => exact hr'
      | cont => exact hr'.elim
      | brk => exact hr'.elim
end
end Mine
end
section
open PySem PySem.W PyProof.Rows
set_option maxRecDepth 100000
namespace Mine
section
variable {prog : Program} {w : World} {A : Around} {h : Heap} {env : Env} {pos : Pos} {l r : Expr} {cop : CmpOp} {Pa Pb : Value → Heap → Prop}
theorem pe_test2 {b : Bool} {whole : Sem Value} (hl : PE prog w A h (eval l env) Pa) (hr : ∀ h1, Sub h h1 → PE prog w A h1 (eval r env) Pb) (ho : ∀ x y h1 h2, Sub h h1 → Pa x h1 → Sub h1 h2 → Pb y h2 → PV prog w A h2 (compareOp cop x y) (· = .bool b))
    (hm : behindInMarks cop r = false := by with_unfolding_all rfl) : PV prog w A h (isTrue (.Compare l [cop] [r] pos) env whole) (· = b) := by
  intro s Q E hs hq
  refine wpAny_isTrue_Compare1 (hl s _ E hs fun a h1 t1 k1 va => ?_) hm
  refine hr h1 (hs.trans k1) _ _ E Sub.rfl fun b' h2 t2 k2 vb => ?_
  refine ho a b' h1 h2 (hs.trans k1) va k2 vb _ _ E Sub.rfl fun v h' tk k' p => ?_
  subst p
  exact wpAny_truthy_bool (hq b h' tk ((k1.trans k2).trans k') rfl)
end
section
variable {prog : Program} {w : World} {A : Around} {h₀ : Heap} {env : Env} {m : Str → Option Value} {s : Shared} {E : Value → Shared → Prop} {Q : Flow → Shared → Prop} {rest : List Stmt} {P : Value → Heap → Prop}
/-- a name that is a cell, for a new object -/
theorem st_cellE {x : Str} {px pos : Pos} {value : Expr} {c : Addr} {v₀ : Option Value} (F : Fr h₀ env.locals s.heap m) (hc : env.cells.lookup x = some c) (hcell : s.heap.IsCell c v₀) (hn : h₀.get? c = none) (hL : env.locals ≠ c)
    (e : PE prog w A s.heap (eval value env) P)
    (k : ∀ v h₁ h' tk, Sub s.heap h₁ → P v h₁ → SubX [c] h₁ h' → Fr h₀ env.locals h' m → h'.IsCell c (some v) → wpAny (model prog w) A (execs rest env) Q E { s with heap := h', toks := tk })
    (hk : env.scope.kind = .function := by rfl) (hl : env.kindOf x = some .cell := by rfl) (hs : swapsWith value (some (.Name x px)) pos.line env = pure false := by rfl) :
    wpAny (model prog w) A (execs (.Assign [.Name x px] value pos :: rest) env) Q E s :=
  wpAny_execs_cons (wpAny_Assign_Name (e s _ E Sub.rfl fun v h₁ tk k₁ p => wpAny_storeName_cell hk hl hc (cell_up hcell k₁) fun h' hc' hs' =>
    k v h₁ h' tk k₁ p (SubX.ofSame hs') (Fr.mv (fr_up F k₁) (SubX.ofSame hs') (Ne.symm hL) hn) hc') hs)
end
theorem call_defS {prog : Program} {w : World} {A : Around} {n : Nat} {s : Shared} {Q : Value → Shared → Prop} {E : Value → Shared → Prop} {f : Addr} {name : Str} {params : Arguments} {body : List Stmt} {scope : Scope} {dV kV doc pm cdv ct : Value} {an od : Option Addr} {osl : Array (Option Value)} {oc : Value}
    {args : List Value} {binds : List (Str × Value)}
    (G : G0 w s.heap) (O : AOk (n + 1) A) (ho : (KK w).lookup f = some ⟨oc, od, .func (fnOf name name params body scope dV kV doc pm an cdv ct), osl⟩) (hcd : codeIn (KK w) cdv name = true)
    (hbind : bindArgs (fnOf name name params body scope dV kV doc pm an cdv ct) ⟨args, []⟩ = pure binds) (hloc : ∀ y ∈ binds, scope.names.lookup y.1 = some .local)
    (hco : scope.isCoroutine = false) (hgen : scope.isGenerator = false) (hk : scope.kind = .function)
    (hb : ∀ (L : Addr) (h₁ : Heap) (tk : Nat) (E' : Value → Shared → Prop), AOk n (A.deeper (envX name scope L f cdv (cellsFrom (L + 1) scope.names []))) →
      Fr s.heap L h₁ (bindL (envX name scope L f cdv (cellsFrom (L + 1) scope.names [])).kindOf binds fun _ => none) →
      (∀ n c, (cellsFrom (L + 1) scope.names []).lookup n = some c → h₁.IsCell c (bindC (envX name scope L f cdv (cellsFrom (L + 1) scope.names [])).kindOf binds (fun _ => none) n) ∧ s.heap.get? c = none ∧ L ≠ c) →
      wpAny (model prog w) (A.deeper (envX name scope L f cdv (cellsFrom (L + 1) scope.names []))) (execs body (envX name scope L f cdv (cellsFrom (L + 1) scope.names []))) (fun f s'' => Q (match f with | .ret v => v | _ => .none) s'') E' { s with heap := h₁, toks := tk }) :
    wpAny (model prog w) A (call (.ref f) args) Q E s := by
  refine wpAny_call (codeAny_call_function (fd := fnOf name name params body scope dV kV doc pm an cdv ct) O.room (G.X _ _ ho) rfl hco hgen rfl (codeRec_of G.X hcd) ((BindsTo.of_eq hbind) _ _ _ _ ?_))
  refine wpAny_newFunctionEnv_cells hk (fun x hx => .inl (hloc x hx)) fun env' he s' x => ?_
  subst he
  refine ⟨G.lim.keeps x.toInCall.keep, codeAny_func ?_⟩
  obtain ⟨h₁, tk, rfl, _⟩ := x.done
  have hk₁ := x.toInCall.keep
  exact hb s.heap.objs.size h₁ tk _ O.deeper ⟨x.toInCall.ns, hk₁, Nat.le_refl _⟩ fun n c hl => ⟨x.cell n c hl, Heap.get?_none_of_le (Nat.le_of_lt (x.above n c (mem_of_lookup hl))), Nat.ne_of_lt (x.above n c (mem_of_lookup hl))⟩
theorem hdp_len (x : List Nat) : (hdp x).length ≤ x.length + 1 := by
  have h := (hSt_bound x (x.length + 1)).2.2
  have e := headsL_eq x
  unfold headsL at e
  rw [e, List.length_map] at h
  exact h
theorem gl_common (P : Params) : nsIn (hd.heap_39 P) mainGlobals "commonpath" = some (some (.ref 134)) := by kernel_rfl
theorem gl_paths (P : Params) : nsIn (hd.heap_39 P) mainGlobals "_law_paths" = some (some (.ref 139)) := by kernel_rfl
theorem gl_heads (P : Params) : nsIn (hd.heap_39 P) mainGlobals "_law_heads" = some (some (.ref 146)) := by kernel_rfl
theorem gl_once (P : Params) : nsIn (hd.heap_39 P) mainGlobals "_law_once" = some (some (.ref 153)) := by kernel_rfl
theorem startsw (x : List Nat) : Txt.startswith (S x) (S [47]) = (x.head? == some 47) := by
  rw [Bool.eq_iff_iff, beq_iff_eq]
  have h := At_one (S x) 47 0
  rw [S_toList] at h
  have e : x.head? = x[0]? := by cases x <;> rfl
  rw [e, ← h]
  unfold Txt.startswith StrLaws.At
  rw [Bool.and_eq_true, decide_eq_true_iff]
theorem rootL_b (x : List Nat) : (if (x.head? == some 47) then [47] else [] : List Nat) = rootL x := by
  unfold rootL
  by_cases h : x.head? = some 47 <;> simp [h]
end Mine
end
section
open PySem PySem.W PyProof.Rows
set_option maxRecDepth 100000
namespace Mine
theorem front_head {front : List Nat} (h : front ∈ fronts) (b : List Nat) : (front ++ b).head? = front.head? ∧ front ++ b ≠ [] ∧ front.length ≤ 2 := by
  unfold fronts at h
  simp only [List.mem_cons, List.mem_nil_iff, or_false] at h
  rcases h with rfl | rfl | rfl | rfl <;> simp
theorem rootL_cases (x : List Nat) : rootL x = [] ∨ rootL x = [47] := by unfold rootL; split <;> simp
theorem rootL_head {x y : List Nat} (h : x.head? = y.head?) : rootL x = rootL y := by unfold rootL; rw [h]
noncomputable def RowAt (H : Heap) (r : List Nat × List Nat) (v : Value) : Prop := ∃ T u z, v = .ref T ∧ H.IsTuple T #[u, z] ∧ IsS (S r.1) u ∧ IsS (S r.2) z
theorem NewRow.at {a H : Heap} {v : Value} {r : List Nat × List Nat} (x : NewRow a H v r) : RowAt H r v := let ⟨T, u, z, e, _, g, a, b⟩ := x; ⟨T, u, z, e, tup_of g, a, b⟩
theorem strs_map {α : Type} {f : α → List Nat} {xs : List α} {ys : List Value} (h : Paired (fun a v => IsS (S (f a)) v) xs ys) : Strs ys (xs.map f) := by
  induction h with
  | nil => trivial
  | cons h _ ih => exact ⟨h, ih⟩
theorem one_of {vs : List Value} {a : List Nat} (hl : vs.length = 1) (h : ∀ v ∈ vs, IsS (S a) v) : Strs vs [a] := by
  obtain ⟨v, rfl⟩ := List.length_eq_one_iff.mp hl
  exact ⟨h v List.mem_cons_self, trivial⟩
theorem joinL_len : ∀ cs : List (List Nat), (joinL cs).length ≤ weight cs
  | [] => Nat.zero_le _
  | [x] => by simp [joinL, weight]
  | x :: y :: r => by
    have ih := joinL_len (y :: r)
    simp only [joinL, List.length_append, List.length_cons]
    unfold weight at ih ⊢
    simp only [List.map_cons, List.sum_cons, List.length_cons] at ih ⊢
    omega
noncomputable def Fk (css : List (List (List Nat))) (a : List (List Nat)) (i j : Nat) : List (List Nat) := ((css.drop i).take j).foldl lcp a
theorem Fk_succ {css : List (List (List Nat))} {a c : List (List Nat)} {i j : Nat} (h : css[i + j]? = some c) : Fk css a i (j + 1) = lcp (Fk css a i j) c := by
  unfold Fk
  rw [List.take_add_one, List.getElem?_drop, h, List.foldl_append]; rfl
theorem Fk_pre (css : List (List (List Nat))) (a : List (List Nat)) (i j : Nat) : Fk css a i j <+: a := ((pre_fold ((css.drop i).take j) a).mp (List.prefix_refl _)).1
theorem st_skipS {prog : Program} {w : World} {A : Around} {env : Env} {s : Shared} {Q : Flow → Shared → Prop} {E : Value → Shared → Prop} {rest body : List Stmt} {test : Expr} {pos : Pos}
    (t : wpAny (model prog w) A (isTrue test env (eval test env)) (fun b s' => b = false ∧ wpAny (model prog w) A (execs rest env) Q E s') E s) : wpAny (model prog w) A (execs (.If test body [] pos :: rest) env) Q E s :=
  wpAny_execs_cons (wpAny_If (wpAny_mono t (fun b s' h => by obtain ⟨rfl, h⟩ := h; exact wpAny_execs_nil h) fun _ _ e => e))
theorem Strs.eq_one {vs : List Value} {u : Value} (hl : vs.length = 1) (h : ∀ v ∈ vs, v = u) : vs = [u] := by
  obtain ⟨v, rfl⟩ := List.length_eq_one_iff.mp hl
  rw [h v List.mem_cons_self]
set_option maxHeartbeats 8000000 in
theorem law_run {prog : Program} {w : World} {A : Around} {s : Shared} {n : Nat} {D0 : Addr} {vs : List Value} {Q : Value → Shared → Prop} {E : Value → Shared → Prop} (G : G0 w s.heap) (O : AOk (n + 60) A) (hD0 : s.heap.IsList D0 vs.toArray) (hi : ∀ u ∈ vs, ∃ i, IsI i u) (hlen : vs.length ≤ 63)
    (q : ∀ s', Sub s.heap s'.heap → s'.os = s.os → (AllBare s.gens → AllBare s'.gens) → Q (.bool true) s') : wpAny (model prog w) A (call (.ref 158) [.ref D0]) Q E s := by
  refine call_defS (n := n + 59) G O rfl (by kernel_rfl) rfl (locs rfl) rfl rfl rfl fun L hh1 tk1 E' O0 F hc => ?_
  obtain ⟨c1, n1, l1⟩ := hc (Str.ofString "plain") (L + 1) rfl
  obtain ⟨c2, n2, l2⟩ := hc (Str.ofString "m") (L + 1 + 1) rfl
  have G1 : ∀ {hh : Heap}, Sub s.heap hh → G0 w hh := fun k => G.up k
  have c12 : L + 1 ≠ L + 1 + 1 := Nat.ne_of_lt (Nat.lt_succ_self _)
  -- paths = _law_paths(script)
  refine st_assign (P := fun v h' => ∃ (front : List Nat) (bs : List (List Nat)), NewLS hh1 h' v (bs.map (front ++ ·)) ∧ front ∈ fronts ∧ 0 < bs.length ∧ bs.length ≤ 5 ∧ ∀ b ∈ bs, b.length ≤ 1000) F (PE.call1F (PV.glob (G1 (fr_sub F)) (gl_paths _)) ((G1 (fr_sub F)).X 139 _ rfl) rfl (PV.loc F.ns rfl) fun v h₁ k₁ hv => by
    subst hv
    exact (paths_S (n := n + 50) (G1 ((fr_sub F).trans k₁)) (O0.less (by omega)) ((hD0.at fun o e => ((fr_sub F).trans k₁) _ o e)) hi hlen).weak fun v h' kk ⟨front, bs, a, r⟩ => ⟨front, bs, (NewLS.res _).base (Live.ofSub k₁) a, r⟩) fun v h2 h2' t2 k2 ⟨front, bs, ⟨Dp, ev, nDp, lDp⟩, hfr, hb0, hb5, hbl⟩ kX F2 => ?_
  subst ev
  have lvL : hh1.get? L ≠ none := ns_live F.ns
  have DpL : Dp ≠ L := fun z => lvL (z ▸ nDp)
  have Dp1 : Dp ≠ L + 1 := fun z => by obtain ⟨o, ho, _⟩ := c1; rw [← z, nDp] at ho; cases ho
  have Dp2 : Dp ≠ L + 1 + 1 := fun z => by obtain ⟨o, ho, _⟩ := c2; rw [← z, nDp] at ho; cases ho
  have X2 : SubX [L] hh1 h2' := k2.toX.trans kX
  have lD2 := lDp.upX kX (not_mem1 DpL)
  have c1b := cell_upX c1 X2 (not_mem1 (Ne.symm l1))
  have c2b := cell_upX c2 X2 (not_mem1 (Ne.symm l2))
  generalize hxs : bs.map (front ++ ·) = xs at lD2 lDp
  have hxl : xs.length = bs.length := by rw [← hxs, List.length_map]
  have hxf : ∀ x ∈ xs, x.head? = front.head? ∧ x ≠ [] ∧ x.length ≤ 1002 := fun x hx => by
    rw [← hxs] at hx
    obtain ⟨b, hb, rfl⟩ := List.mem_map.mp hx
    obtain ⟨a1, a2, a3⟩ := front_head hfr b
    exact ⟨a1, a2, by rw [List.length_append]; have := hbl b hb; omega⟩
  have hroot : ∀ x ∈ xs, rootL x = rootL front := fun x hx => rootL_head (hxf x hx).1
  generalize hr : rootL front = r at hroot
  have hrc : r = [] ∨ r = [47] := hr ▸ rootL_cases front
  have hrl : r.length ≤ 1 := by rcases hrc with zz | zz <;> rw [zz] <;> simp
  obtain ⟨ps, pp, sp'⟩ := id lD2
  have hpl := sp'.len
  obtain ⟨p0, hp0⟩ : ∃ p0, ps[0]? = some p0 := ⟨_, List.getElem?_eq_getElem (by omega)⟩
  obtain ⟨x0, hx0, t0, ht0⟩ := sp'.get hp0
  have hx0m : x0 ∈ xs := List.mem_of_getElem? hx0
  obtain ⟨ch0, hch0⟩ : ∃ c, x0[0]? = some c := by
    cases hx : x0 with
    | nil => exact absurd hx (hxf x0 hx0m).2.1
    | cons c r => exact ⟨c, rfl⟩
  have hhd0 : x0.head? = some ch0 := by rw [← hch0]; cases x0 <;> rfl
  -- root = ...
  refine st_assignV F2 (pe_ifexp (P := fun v _ => IsS (S r) v) (c := ch0 == 47) ((PV.test (pv_at (x := x0) (k := 0) (PE.weak (pv_item (k := 0) (PV.loc F2.ns rfl) pp.isList PV.int (by decide) (by decide) hp0) fun _ _ _ e => ⟨t0, by rw [e, ht0]⟩) PV.int (by have := (hxf x0 hx0m).2.2; omega) hch0) (PV.str.as lit_sl) fun a b ha hb => cmp_eqS ha hb).asB (by rw [S_beq]; simp))
    (fun hc => (PV.str.as lit_sl).as (by rw [← hroot x0 hx0m]; unfold rootL; rw [hhd0, if_pos (by rw [beq_iff_eq.mp hc])])) (fun hc => (PV.str.as lit_nil).as (by rw [← hroot x0 hx0m]; unfold rootL; rw [hhd0, if_neg (by simpa using hc)]))) fun v h3 t3 hv k3 F3 => ?_
  obtain ⟨tr, rfl⟩ := hv
  -- plain = []
  have c1c := cell_upX c1b k3 (not_mem1 (Ne.symm l1))
  have c2c := cell_upX c2b k3 (not_mem1 (Ne.symm l2))
  have pp3 := LRes pp k3 (not_mem1 DpL)
  refine st_cellE F3 rfl c1c n1 l1 pe_nil fun v h4 h4' t4 k4 ⟨Pl, ev, nPl, pPl⟩ X4 F4 c1d => ?_
  subst ev
  have lvL3 : h3.get? L ≠ none := ns_live F3.ns
  have PlL : Pl ≠ L := fun z => lvL3 (z ▸ nPl)
  have Pl1 : Pl ≠ L + 1 := fun z => by obtain ⟨o, ho, _⟩ := c1c; rw [← z, nPl] at ho; cases ho
  have Pl2 : Pl ≠ L + 1 + 1 := fun z => by obtain ⟨o, ho, _⟩ := c2c; rw [← z, nPl] at ho; cases ho
  have PlDp : Pl ≠ Dp := fun z => by obtain ⟨_, e⟩ := pp3; rw [← z, nPl] at e; cases e
  have Pl0 : s.heap.get? Pl = none := (fr_sub F3).none nPl
  have pp4 := LRes (pp3.at fun o e => k4 Dp o e) X4 (not_mem1 Dp1)
  have pPl4 := LRes pPl X4 (not_mem1 Pl1)
  have c2d := cell_upX (cell_up c2c k4) X4 (not_mem1 (Ne.symm c12))
  -- for path in paths
  refine st_for_list (ms := [L, Pl]) (V := fun x v => IsS (S x) v ∧ x ∈ xs) (fun hB i m s' => ((AllBare s.gens → AllBare s'.gens) ∧ s'.os = s.os) ∧ SubX [L, Pl] h4' s'.heap ∧ m "paths" = some (.ref Dp) ∧ m "root" = some (.str (S r) tr) ∧ ∃ ys, s'.heap.PlainList Pl ys.toArray ∧ Paired (fun x v => NewLS hB s'.heap v (pref r (comps x))) (xs.take i) ys)
    O0.h F4 (PV.loc F4.ns rfl) ⟨Dp, rfl, .inl pp4.isList⟩ (Paired.mem sp'.paired) (by simp [DpL, Ne.symm PlDp]) (fun c hc => ?_)
    (fun hB tk k => ⟨⟨fun b => b, rfl⟩, k.toX, rfl, rfl, [], pPl4.at fun o e => k Pl o e, by rw [List.take_zero]; exact .nil⟩)
    (fun hB i m' s' h' tk c kB hcl hc ⟨gs, X, e1, e2, ys, py, ry⟩ X' => ⟨gs, fun d o hd e => ?_, e1, e2, ys, LRes py X' ?_, Paired.keepR (fun x => NewLS.res _) (fun m hm => by rw [List.mem_singleton.mp hm]; exact hcl) X' ry⟩)
    (fun hB i x v m' s' E'' kB hxi hv F' lvB ⟨⟨g1, g2⟩, X, e1, e2, ys, py, ry⟩ => ?_) fun hB m' s' kB F' ⟨⟨g1, g2⟩, X, e1, e2, ys, py, ry⟩ => ?_
  · rcases List.mem_cons.mp hc with zz | hc
    · rw [zz]; exact ns_live F4.ns
    · rw [List.mem_singleton.mp hc]; exact LLive pPl4
  · refine X' d o (fun hm => ?_) (X d o hd e)
    rw [List.mem_singleton.mp hm] at e hd
    rcases hc with hc | hc
    · have : h4'.get? c = none := hc
      rw [this] at e; cases e
    · exact hd (by rw [hc]; exact List.mem_cons_self)
  · intro hm
    rw [← List.mem_singleton.mp hm] at hc
    rcases hc with hc | hc
    · exact LLive pPl4 hc
    · exact PlL hc
  · obtain ⟨⟨tx, rfl⟩, hxm⟩ := hv
    obtain ⟨hxh, hxne, hxlen⟩ := hxf x hxm
    have hrx := hroot x hxm
    have hAnc := anc_hdp x
    have hhl := hdp_len x
    have e1h : (headsL x).map (·.1) = hdp x := by rw [headsL_eq, List.map_map]; exact List.map_id _
    have e2h : (headsL x).map (·.2) = (hdp x).map (fun y => r ++ joinL (comps y)) := by rw [headsL_eq, List.map_map]; exact List.map_congr_left fun y _ => by rw [← hrx]; rfl
    have hhl2 : (headsL x).length ≤ 1003 := by rw [← List.length_map (f := (·.1)), e1h]; omega
    -- rows = _law_heads(path)
    refine st_assign (P := fun v h' => ∃ D ys, v = .ref D ∧ s'.heap.get? D = none ∧ h'.PlainList D ys.toArray ∧ Paired (fun r v => NewRow s'.heap h' v r) (headsL x) ys) F' (PE.call1F (PV.glob (G1 (fr_sub F')) (gl_heads _)) ((G1 (fr_sub F')).X 146 _ rfl) rfl (PV.loc F'.ns rfl) fun v h₁ k₁ hv => by
      subst hv
      exact (heads_S (n := n + 50) (G1 ((fr_sub F').trans k₁)) (O0.less (by omega)) ⟨tx, rfl⟩ hxne (by omega)).weak fun v h' kk ⟨D, ys, a1, a2, a3, a4⟩ => ⟨D, ys, a1, k₁.none a2, a3, Paired.baseR NewRow.res (Live.ofSub k₁) a4⟩) fun v h6 h6' t6 k6 ⟨Dr, yr, ev, nDr, pDr, ryr⟩ X6 F6 => ?_
    subst ev
    have lvL' : s'.heap.get? L ≠ none := ns_live F'.ns
    have DrL : Dr ≠ L := fun z => lvL' (z ▸ nDr)
    have live1 : ∀ mm ∈ [L], s'.heap.get? mm ≠ none := fun mm hm => by rw [List.mem_singleton.mp hm]; exact lvL'
    have pDr6 := LRes pDr X6 (not_mem1 DrL)
    have ryr6 := Paired.keepR NewRow.res live1 X6 ryr
    have X06 : SubX [L] s'.heap h6' := k6.toX.trans X6
    -- told = list(_ancestry(path))
    refine wpAny_execs_cons (wpAny_Assign_Name (list_anc (n := n + 40) (l := x) (items := (hdp x).reverse) (G1 (fr_sub F6)) (O0.less (by omega)) (PV.locS F6.ns rfl) (by omega) hAnc (by rw [List.length_reverse]; omega) fun s2 Dt kt ost bt nDt lDt => st_store (fr_up F6 kt) fun h7 t7 F7 X7 => ?_) rfl)
    have lvL6 : h6'.get? L ≠ none := ns_live F6.ns
    have DtL : Dt ≠ L := fun z => lvL6 (z ▸ nDt)
    have lDt7 := lDt.upX X7 (not_mem1 DtL)
    have pDr7 := LRes (pDr6.at fun o e => kt Dr o e) X7 (not_mem1 DrL)
    have ryr7 := Paired.keepR NewRow.res live1 X7 (Paired.keepR NewRow.res (ms := []) (by simp) kt.toX ryr6)
    have rows7 : Paired (RowAt h7) (headsL x) yr := ryr7.mono fun a v r => r.at
    have X07 : SubX [L] s'.heap h7 := (X06.trans kt.toX).trans X7
    -- if told != [whole ...][::-1]
    refine st_skip (pe_test2 (Pa := fun v h' => ∃ D : Addr, v = .ref D ∧ LI h' D (hdp x).reverse) (Pb := fun v h' => ∃ D : Addr, v = .ref D ∧ LI h' D (hdp x).reverse) ((PV.loc F7.ns rfl).weak fun v h' k e => ⟨Dt, e, (lDt7.up k).li⟩) (fun h1 k1 => (pe_rev (D₀ := True) (xs := hdp x) ((pe_listcomp2 (Vx := fun (a : List Nat × List Nat) v => IsS (S a.1) v) (Vy := fun (a : List Nat × List Nat) v => IsS (S a.2) v) (RR := fun (a : List Nat × List Nat) v => IsS (S a.1) v) (V := RowAt h1) (xs := headsL x) O0.h rfl (PV.loc (fr_up F7 k1).ns rfl) ⟨Dr, rfl, .inl (pDr7.at fun o e => k1 Dr o e).isList⟩ (by have := rows7.length; omega) (rows7.mono fun a v ⟨T, u, z, e, ⟨o, ho, rr⟩, b⟩ => ⟨T, u, z, e, ⟨o, k1 _ _ ho, rr⟩, b⟩) (fun a v h => h) (fun C a u z H m hu hz hH hn e1 e2 => (PV.loc hn e1).weak fun _ _ _ e => e ▸ hu)).weak fun v h' _ ⟨D, ws, e, _, pD, rw'⟩ => ⟨D, e, ws, pD.isList, e1h ▸ strs_map (f := fun (a : List Nat × List Nat) => a.1) rw'⟩) (pv_neg PV.int) (by omega)).weak fun v h' _ ⟨T, e, _, l⟩ => ⟨T, e, l.li⟩)
      fun a b h1 h2 _ pa k2 pb => cmp_neSame (O0) (let ⟨D, e, l⟩ := pa; ⟨D, e, l.up k2⟩) pb) fun h8 t8 k8 => ?_
    have F8 := fr_up F7 k8
    have pDr8 := pDr7.at fun o e => k8 Dr o e
    have rows8 : Paired (RowAt h8) (headsL x) yr := rows7.mono fun a v ⟨T, u, z, e, ⟨o, ho, rr⟩, b⟩ => ⟨T, u, z, e, ⟨o, k8 _ _ ho, rr⟩, b⟩
    have lDt8 := lDt7.up k8
    have X08 := X07.trans k8.toX
    -- heads = [straight ...]
    refine st_listcomp2 (Vx := fun (a : List Nat × List Nat) v => IsS (S a.1) v) (Vy := fun (a : List Nat × List Nat) v => IsS (S a.2) v) (RR := fun (a : List Nat × List Nat) v => IsS (S a.2) v) (V := RowAt h8) (xs := headsL x) F8 O0.h rfl (PV.loc F8.ns rfl) ⟨Dr, rfl, .inl pDr8.isList⟩ (by have := rows8.length; omega) rows8 (fun a v h => h) (fun C a u z H m hu hz hH hn e1 e2 => (PV.loc hn e2).weak fun _ _ _ e => e ▸ hz) fun Dh yh h9 t9 X9 F9 nDh pDh rh => ?_
    have sh := strs_map (f := fun (a : List Nat × List Nat) => a.2) rh
    rw [e2h] at sh
    have lDh : LS h9 Dh ((hdp x).map fun y => r ++ joinL (comps y)) := ⟨yh, pDh, sh⟩
    have lDt9 := lDt8.upX X9 (not_mem1 DtL)
    have X09 := X08.trans X9
    -- if [commonpath([one]) ...] != heads[::-1]
    refine st_skip (pe_test2 (Pa := fun v h' => ∃ D : Addr, v = .ref D ∧ LI h' D ((hdp x).map fun y => r ++ joinL (comps y)).reverse) (Pb := fun v h' => ∃ D : Addr, v = .ref D ∧ LI h' D ((hdp x).map fun y => r ++ joinL (comps y)).reverse) ?_ (fun h1 k1 => (pe_rev (D₀ := True) (xs := (hdp x).map fun y => r ++ joinL (comps y)) ((PV.loc (fr_up F9 k1).ns rfl).weak fun v h' k e => ⟨Dh, e, (lDh.up (k1.trans k)).li⟩) (pv_neg PV.int) (by rw [List.length_map]; omega)).weak fun v h' _ ⟨T, e, _, l⟩ => ⟨T, e, l.li⟩)
      fun a b h1 h2 _ pa k2 pb => cmp_neSame (O0) (let ⟨D, e, l⟩ := pa; ⟨D, e, l.up k2⟩) pb) fun h10 t10 k10 => ?_
    · obtain ⟨ts, pt, st⟩ := lDt9
      have hfx : ∀ {hh : Heap}, Sub h9 hh → G0 w hh := fun k => G1 ((fr_sub F9).trans k)
      refine (pe_listcomp (α := List Nat) (xs := (hdp x).reverse) (V := fun a v => IsS (S a) v ∧ a ∈ (hdp x).reverse) (RR := fun a _ _ v => IsS (S (r ++ joinL (comps a))) v) (b := fun _ => true) (cl := []) O0.h rfl (PV.loc F9.ns rfl) ⟨Dt, rfl, .inl pt.isList⟩ (by have := st.len; rw [List.length_reverse] at this; omega) (Paired.mem st.paired) (fun _ => Res.const _) (fun C a v H m _ _ _ _ => tests_nil) (fun C a v H m hv _ hH hn hm => ?_)).weak fun v h' _ ⟨D, ws, e, _, pD, hws⟩ => ⟨D, e, ws, pD.isList, by
        rw [filter_true] at hws
        rw [← List.map_reverse]
        exact strs_map (f := fun a => r ++ joinL (comps a)) hws⟩
      obtain ⟨⟨t, rfl⟩, ha⟩ := hv
      obtain ⟨hpre, hane⟩ := hdp_pre x.length x (Nat.le_refl _) a (List.mem_reverse.mp ha)
      have hal := hpre.length_le
      have hah := head_of_pre hpre hane
      refine PE.call1F (PV.glob (hfx hH) (gl_common _)) ((hfx hH).X 134 _ rfl) rfl (pe_display (V := IsS (S a)) ⟨PV.locS hn hm, rfl, trivial⟩ (by decide)) fun v h₁ k₁ ⟨D, ws, ev, _, pD, hl, hw⟩ => ?_
      subst ev
      refine (commonpath_S (n := n + 30) (xs := [a]) (b := x.head? == some 47) (hfx (hH.trans k₁)) (O0.less (by omega)) ⟨ws, pD, one_of hl hw⟩ (by simp) (by simp) (fun y hy => by rw [List.mem_singleton.mp hy]; omega) (fun y hy => by rw [List.mem_singleton.mp hy, startsw, hah])).weak fun v _ _ e => IsS_of e ?_
      rw [rootL_b, hrx, commonL_one]
    have F10 := fr_up F9 k10
    have X010 := X09.trans k10.toX
    have nPl : Pl ∉ [L] := not_mem1 PlL
    have py10 := LRes py X010 nPl
    have c1e := cell_upX (cell_upX c1d X (by simp only [List.mem_cons, List.mem_nil_iff, or_false, not_or]; exact ⟨Ne.symm l1, Ne.symm Pl1⟩)) X010 (not_mem1 (Ne.symm l1))
    have lDh10 := lDh.up k10
    -- plain.append(_law_once(heads, root))
    refine st_append (P := fun v h' => NewLS h10 h' v (pref r (comps x))) F10 (PV.cell (c := L + 1) rfl c1e) py10 (PE.call2F (PV.glob (G1 (fr_sub F10)) (gl_once _)) ((G1 (fr_sub F10)).X 153 _ rfl) rfl (PV.loc F10.ns rfl) (PV.locS F10.ns (by exact e2)) fun v u h₁ k₁ hv hu => by
      subst hv
      rw [← once_heads r x.length x (Nat.le_refl _)]
      exact (once_S (n := n + 50) (G1 ((fr_sub F10).trans k₁)) (O0.less (by omega)) (lDh10.up k₁).li hu (by rw [List.length_map]; omega)).weak fun v h' kk p => (NewLS.res _).base (Live.ofSub k₁) p) (by have := ry.length; rw [List.length_take] at this; have := (List.getElem?_eq_some_iff.mp hxi).1; omega) PlL Pl0 fun v h11 h12 t12 k11 pv X12 F12 pPl12 => ?_
    obtain ⟨Tn, ev, nTn, lTn⟩ := pv
    have sub1 : ∀ {a b : Heap}, SubX [L] a b → SubX [L, Pl] a b := fun x => x.mono fun c hc => by rw [List.mem_singleton.mp hc]; exact List.mem_cons_self
    have sub2 : ∀ {a b : Heap}, SubX [Pl] a b → SubX [L, Pl] a b := fun x => x.mono fun c hc => by rw [List.mem_singleton.mp hc]; simp
    have TnPl : Tn ≠ Pl := fun z => by obtain ⟨_, e⟩ := py10; rw [← z, nTn] at e; cases e
    have X0e : SubX [L, Pl] s'.heap h12 := ((sub1 X010).trans k11.toX).trans (sub2 X12)
    have liveLP : ∀ mm ∈ [L, Pl], hB.get? mm ≠ none := fun mm hm => by
      refine Live.ofSub kB mm ?_
      rcases List.mem_cons.mp hm with zz | hm
      · rw [zz]; exact ns_live F4.ns
      · rw [List.mem_singleton.mp hm]; exact LLive pPl4
    have lv10 : Live hB h10 := liveX lvB X010 (fun mm hm => by rw [List.mem_singleton.mp hm]; exact ns_live F10.ns)
    refine wpAny_execs_nil ⟨_, F12, ⟨⟨fun bb => bt (g1 bb), ost.trans g2⟩, X.trans X0e, e1, e2, ys ++ [v], pPl12, ?_⟩, X0e, fun mm hm => ?_⟩
    · rw [List.take_add_one, hxi]
      refine Paired.snoc (Paired.keepR (fun x => NewLS.res _) liveLP X0e ry) ⟨Tn, ev, ?_, lTn.upX X12 (not_mem1 TnPl)⟩
      cases hq : hB.get? Tn with
      | none => rfl
      | some o => exact absurd nTn (lv10 Tn (live_of hq))
    · rcases List.mem_cons.mp hm with zz | hm
      · rw [zz]; exact ns_live F12.ns
      · rw [List.mem_singleton.mp hm]; exact LLive pPl12
  · -- the rows of neighbours
    rw [List.take_length] at ry
    have hyl : ys.length = xs.length := ry.length.symm
    have c1e := cell_upX c1d X (by simp only [List.mem_cons, List.mem_nil_iff, or_false, not_or]; exact ⟨Ne.symm l1, Ne.symm Pl1⟩)
    have c2e := cell_upX c2d X (by simp only [List.mem_cons, List.mem_nil_iff, or_false, not_or]; exact ⟨Ne.symm l2, Ne.symm Pl2⟩)
    have pp5 := LRes pp4 X (by simp only [List.mem_cons, List.mem_nil_iff, or_false, not_or]; exact ⟨DpL, Ne.symm PlDp⟩)
    have Pl2' : Pl ∉ [L, L + 1 + 1] := by simp only [List.mem_cons, List.mem_nil_iff, or_false, not_or]; exact ⟨PlL, Pl2⟩
    have Dp2' : Dp ∉ [L, L + 1 + 1] := by simp only [List.mem_cons, List.mem_nil_iff, or_false, not_or]; exact ⟨DpL, Dp2⟩
    have c12' : L + 1 ∉ [L, L + 1 + 1] := by simp only [List.mem_cons, List.mem_nil_iff, or_false, not_or]; exact ⟨Ne.symm l1, c12⟩
    have liveB : ∀ a, a = L ∨ a = L + 1 + 1 → hB.get? a ≠ none := fun a ha => by
      refine Live.ofSub kB a ?_
      rcases ha with zz | zz
      · rw [zz]; exact ns_live F4.ns
      · rw [zz]; obtain ⟨o, ho, _⟩ := c2d; exact live_of ho
    have gety : ∀ {j : Nat} {v : Value}, ys[j]? = some v → ∃ x T, xs[j]? = some x ∧ v = .ref T ∧ LS s'.heap T (pref r (comps x)) ∧ T ≠ L ∧ T ≠ L + 1 + 1 := fun {j v} e => by
      obtain ⟨x, hx, T, ev, nT, lT⟩ := Paired.get ry e
      exact ⟨x, T, hx, ev, lT, fun z => liveB L (.inl rfl) (z ▸ nT), fun z => liveB _ (.inr rfl) (z ▸ nT)⟩
    have lvf : ∀ {hh : Heap} {mm : Str → Option Value} {v0 : Option Value}, Fr s.heap L hh mm → hh.IsCell (L + 1 + 1) v0 → ∀ b ∈ [L, L + 1 + 1], hh.get? b ≠ none := fun F p b hb => by
      rcases List.mem_cons.mp hb with zz | hb
      · rw [zz]; exact ns_live F.ns
      · rw [List.mem_singleton.mp hb]; obtain ⟨o, ho, _⟩ := p; exact live_of ho
    refine st_for_range (ms := [L, L + 1 + 1]) (a := 0) (b := xs.length) (fun _ i m s'' => ((AllBare s.gens → AllBare s''.gens) ∧ s''.os = s.os) ∧ SubX [L, L + 1 + 1] s'.heap s''.heap ∧ m "paths" = some (.ref Dp) ∧ m "root" = some (.str (S r) tr) ∧ ∃ v0, s''.heap.IsCell (L + 1 + 1) v0)
      O0.h F' (pe_range1 (G1 (fr_sub F')) ((pv_lenL (PV.boot (G1 (fr_sub F')) (gl_len _) bo_len) (PV.loc F'.ns e1) pp5.isList (by omega)).asI (by rw [hpl]))) (Nat.zero_le _) (by omega) (fun c hc => lvf F' c2e c hc)
      (fun hB2 tk k => ⟨⟨g1, g2⟩, k.toX, e1, e2, _, cell_up c2e k⟩)
      (fun hB2 i m2 s2 h' tk c kB2 hcl hc ⟨gs, X2, f1, f2, v0, cv⟩ X' => ⟨gs, fun d o hd e => ?_, f1, f2, v0, cell_upX cv X' ?_⟩)
      (fun hB2 i v m2 s2 E2 kB2 hi2 hv F2' lvB2 ⟨⟨g1', g2'⟩, X2', f1, f2, v0, cv⟩ => ?_) fun hB2 m2 s2 kB2 F2' ⟨⟨g1', g2'⟩, X2', f1, f2, v0, cv⟩ => ?_
    · refine X' d o (fun hm => ?_) (X2 d o hd e)
      rw [List.mem_singleton.mp hm] at e hd
      rcases hc with hc | hc
      · have : s'.heap.get? c = none := hc
        rw [this] at e; cases e
      · exact hd (by rw [hc]; exact List.mem_cons_self)
    · intro hm
      rw [← List.mem_singleton.mp hm] at hc
      rcases hc with hc | hc
      · obtain ⟨o, ho, _⟩ := c2e; rw [hc] at ho; cases ho
      · exact l2 hc.symm
    · rw [Nat.zero_add] at hv
      obtain ⟨ti, rfl⟩ := hv
      have hi2' : i < xs.length := by omega
      have hxi : xs[i]? = some xs[i] := List.getElem?_eq_getElem hi2'
      generalize hxk : xs[i] = xk at hxi
      have hxkm : xk ∈ xs := List.mem_of_getElem? hxi
      have hxkl := (hxf xk hxkm).2.2
      have gk := good_comps xk
      have wk := weight_comps xk
      have c1f := cell_upX c1e X2' c12'
      have py2 := LRes py X2' Pl2'
      have pp6 := LRes pp5 X2' Dp2'
      obtain ⟨vk, hvk⟩ : ∃ v, ys[i]? = some v := ⟨_, List.getElem?_eq_getElem (by omega)⟩
      obtain ⟨xk', Tk, hxk', ek, lTk, TkL, Tkm⟩ := gety hvk
      rw [hxi] at hxk'; cases hxk'
      subst ek
      -- common = plain[k]
      refine st_assignV F2' (pv_item (k := (i : Int)) (PV.cell (c := L + 1) rfl c1f) py2.isList (PV.locI F2'.ns rfl) (by omega) (by omega) (by simpa using hvk)) fun v h7 t7 hv X7 F7 => ?_
      subst hv
      have sub3 : ∀ {a b : Heap}, SubX [L] a b → SubX [L, L + 1 + 1] a b := fun x => x.mono fun c hc => by rw [List.mem_singleton.mp hc]; exact List.mem_cons_self
      have X27 := X2'.trans (sub3 X7)
      have cv7 := cell_upX cv X7 (not_mem1 (Ne.symm l2))
      have Tkn : Tk ∉ [L, L + 1 + 1] := by simp only [List.mem_cons, List.mem_nil_iff, or_false, not_or]; exact ⟨TkL, Tkm⟩
      have lTk7 := lTk.upX X27 Tkn
      have pp7 := LRes pp6 X7 (not_mem1 DpL)
      refine st_for_rangeC (ms := [L]) (a := i) (b := xs.length) (c := L + 1 + 1) (fun hB3 j m3 s3 => ((AllBare s.gens → AllBare s3.gens) ∧ s3.os = s.os) ∧ SubX [L, L + 1 + 1] h7 s3.heap ∧ m3 "paths" = some (.ref Dp) ∧ m3 "root" = some (.str (S r) tr) ∧ m3 "k" = some (.int i ti) ∧
          ∃ D, m3 "common" = some (.ref D) ∧ LS s3.heap D (pref r (Fk (xs.map comps) (comps xk) i j)) ∧ D ≠ L ∧ D ≠ L + 1 + 1 ∧ (hB3.get? D = none ∨ h7.get? D ≠ none))
        O0.h F7 rfl cv7 n2 l2 (pe_range2 (G1 (fr_sub F7)) (PV.locI F7.ns rfl) ((pv_lenL (PV.boot (G1 (fr_sub F7)) (gl_len _) bo_len) (PV.loc F7.ns (by exact f1)) pp7.isList (by omega)).asI (by rw [hpl]))) (by omega) (by omega) (fun c hc => by rw [List.mem_singleton.mp hc]; exact ns_live F7.ns) (not_mem1 (Ne.symm l2))
        (fun hB3 tk k => ⟨⟨g1', g2'⟩, k.toX, f1, f2, rfl, Tk, rfl, lTk7.up k, TkL, Tkm, .inr (by obtain ⟨o, e⟩ := lTk7.some; exact live_of e)⟩)
        (fun hB3 j m3 s3 h' tk c kB3 hcl hc ⟨gs, X3, d1, d2, d3, D, d4, lD, DL, Dm, Dn⟩ X' => ⟨gs, fun d o hd e => ?_, d1, d2, d3, D, d4, lD.upX X' ?_, DL, Dm, Dn⟩)
        (fun hB3 j v m3 s3 E3 kB3 hj hv cm3 F3' lvB3 ⟨⟨g1'', g2''⟩, X3, d1, d2, d3, D, d4, lD, DL, Dm, Dn⟩ => ?_) fun hB3 m3 s3 kB3 F3' ⟨v1, cv1⟩ ⟨⟨g1'', g2''⟩, X3, d1, d2, d3, D, d4, lD, DL, Dm, Dn⟩ => ?_
      · refine X' d o (fun hm => ?_) (X3 d o hd e)
        rw [List.mem_singleton.mp hm] at e hd
        rcases hc with hc | hc
        · have : h7.get? c = none := hc
          rw [this] at e; cases e
        · exact hd (by rw [hc]; simp)
      · intro hm
        rw [← List.mem_singleton.mp hm] at hcl hc
        rcases hc with hc | hc
        · rcases Dn with h | h
          · exact hcl h
          · exact h hc
        · exact Dm hc
      · obtain ⟨tm, rfl⟩ := hv
        have hij : i + j < xs.length := by omega
        have hxij : xs[i + j]? = some xs[i + j] := List.getElem?_eq_getElem hij
        generalize hxm : xs[i + j] = xm at hxij
        have hxmm : xm ∈ xs := List.mem_of_getElem? hxij
        obtain ⟨vm, hvm⟩ : ∃ v, ys[i + j]? = some v := ⟨_, List.getElem?_eq_getElem (by omega)⟩
        obtain ⟨xm', Tm, hxm', em, lTm, TmL, Tmm⟩ := gety hvm
        rw [hxij] at hxm'; cases hxm'
        subst em
        have X0s := X27.trans X3
        have c1g := cell_upX c1e X0s c12'
        have py3 := LRes py X0s Pl2'
        have pp8 := LRes pp5 X0s Dp2'
        have Tmn : Tm ∉ [L, L + 1 + 1] := by simp only [List.mem_cons, List.mem_nil_iff, or_false, not_or]; exact ⟨TmL, Tmm⟩
        have lTm3 := lTm.upX X0s Tmn
        generalize hC : Fk (xs.map comps) (comps xk) i j = C at lD
        have hCp : C <+: comps xk := hC ▸ Fk_pre _ _ _ _
        have gC : Good C := fun c hc => gk c (hCp.subset hc)
        have wC : weight C ≤ 1003 := Nat.le_trans (weight_sub hCp.sublist) (Nat.le_trans wk (by omega))
        have gm := good_comps xm
        have hCl : C.length ≤ 1003 := by unfold weight at wC; omega
        have hC' : Fk (xs.map comps) (comps xk) i (j + 1) = lcp C (comps xm) := by
          rw [← hC]; exact Fk_succ (by rw [List.getElem?_map, hxij]; rfl)
        obtain ⟨ws, pw, sw⟩ := lD
        have hwl : ws.length ≤ 1003 := by rw [sw.len, pref_len]; omega
        -- common = [one for one in common if one in plain[m]]
        refine st_listcomp (α := List Nat) (xs := pref r C) (V := fun x v => IsS (S x) v ∧ x ∈ pref r C) (RR := fun x _ _ v => IsS (S x) v) (b := fun x => (pref r (comps xm)).contains x) (cl := [(Str.ofString "plain", L + 1), (Str.ofString "m", L + 1 + 1)]) F3' O0.h rfl (PV.loc F3'.ns d4) ⟨D, rfl, .inl pw.isList⟩ (by omega) (Paired.mem sw.paired) (fun _ => Res.const _) (fun Cx a v H mx hv hH hn hm => ?_) (fun Cx a v H mx hv _ hH hn hm => ?_) fun D9 zs h9 t9 X9 F9 nD9 pD9 hzs => ?_
        · obtain ⟨⟨t, rfl⟩, ha⟩ := hv
          exact tests_one (PV.test (PV.locS hn hm) (pv_item (k := ((i + j : Nat) : Int)) (PV.cell (c := L + 1) rfl (cell_up c1g hH)) (py3.at fun o e => hH Pl o e).isList (PE.weak (PV.cell (c := L + 1 + 1) rfl (cell_up cm3 hH)) fun _ _ _ e => ⟨tm, e⟩) (by omega) (by omega) (by rw [Int.toNat_natCast]; exact hvm)) fun a b ha hb => cmp_in ha hb (lTm3.up hH).li)
        · obtain ⟨⟨t, rfl⟩, ha⟩ := hv
          exact PV.locS hn hm
        have sz := Strs.of_paired hzs
        rw [filter_pref gC gm] at sz
        have gC' : Good (lcp C (comps xm)) := good_lcp gC
        have hcom : commonL ((xs.drop i).take (i + j + 1 - i)) = lcp C (comps xm) := by
          rw [← hC']
          unfold commonL Fk
          rw [show i + j + 1 - i = j + 1 by omega, List.map_take, List.map_drop]
          refine common_fold ?_
          rw [List.getElem?_take_of_lt (by omega), List.getElem?_drop, List.getElem?_map, Nat.add_zero, hxi]; rfl
        generalize hCC : lcp C (comps xm) = C' at sz gC' hcom hC'
        have hCp' : C' <+: C := hCC ▸ lcp_pre1 _ _
        have hCl' : C'.length ≤ 1003 := Nat.le_trans hCp'.length_le hCl
        have wC' : weight C' ≤ 1003 := Nat.le_trans (weight_sub hCp'.sublist) wC
        have D9L : D9 ≠ L := fun z => by obtain ⟨_, _, _, ho, _⟩ := F3'.ns; have : s3.heap.get? L = none := z ▸ nD9; rw [ho] at this; cases this
        have D9m : D9 ≠ L + 1 + 1 := fun z => by obtain ⟨o, ho, _⟩ := cm3; have : s3.heap.get? (L + 1 + 1) = none := z ▸ nD9; rw [ho] at this; cases this
        have pp9 := LRes pp8 X9 (not_mem1 DpL)
        have cm9 := cell_upX cm3 X9 (not_mem1 (Ne.symm l2))
        -- shared = commonpath(paths[k:m + 1])
        refine st_assignV (V := IsS (S (r ++ joinL C'))) F9 (PE.call1F (PV.glob (G1 (fr_sub F9)) (gl_common _)) ((G1 (fr_sub F9)).X 134 _ rfl) rfl (pe_run (a := i) (b := i + j + 1) (PV.loc F9.ns (by exact d1)) pp9.isList (PV.locI F9.ns (by exact d3)) ((PV.addI (PE.weak (PV.cell (c := L + 1 + 1) rfl cm9) fun _ _ _ e => ⟨tm, e⟩) PV.int).asI (by push_cast; rfl)) (by omega) (by omega) (by omega)) fun v h₁ k₁ ⟨T, ev, _, pT⟩ => by
          subst ev
          refine (commonpath_S (n := n + 30) (xs := (xs.drop i).take (i + j + 1 - i)) (b := front.head? == some 47) (G1 ((fr_sub F9).trans k₁)) (O0.less (by omega)) ⟨_, pT, (sp'.drop i).take _⟩ (fun e => ?_) ?_ (fun y hy => ?_) (fun y hy => ?_)).weak fun v _ _ e => IsS_of e ?_
          · have := congrArg List.length e
            rw [List.length_take, List.length_drop] at this
            simp only [List.length_nil] at this
            omega
          · rw [List.length_take, List.length_drop]; omega
          · have := (hxf y (List.mem_of_mem_drop (List.mem_of_mem_take hy))).2.2; omega
          · rw [startsw, (hxf y (List.mem_of_mem_drop (List.mem_of_mem_take hy))).1]
          · rw [rootL_b, hr, hcom]) fun v h10 t10 hv X10 F10 => ?_
        obtain ⟨tsh, rfl⟩ := hv
        have pz10 := LRes pD9 X10 (not_mem1 D9L)
        have X30 : SubX [L] s3.heap h10 := X9.trans X10
        have hzl : zs.length ≤ 1003 := by rw [sz.len, pref_len]; exact hCl'
        -- if shared != ([root] + common)[-1]
        obtain ⟨lv, hlv, tlv, rfl⟩ := Strs.get' (vs := .str (S r) tr :: zs) (xs := r :: pref r C') ⟨⟨tr, rfl⟩, sz⟩ (last_pref C')
        have hlv2 : ([Value.str (S r) tr] ++ zs)[([Value.str (S r) tr] ++ zs).length - 1]? = some (.str (S (r ++ joinL C')) tlv) := by
          have e : (r :: pref r C').length = ([Value.str (S r) tr] ++ zs).length := by simp only [List.length_cons, List.length_append, List.length_nil]; have := sz.len; omega
          rw [e] at hlv; exact hlv
        refine st_skip ((PV.test (PV.locS F10.ns rfl) (PE.weak (pv_lastE (x := .str (S (r ++ joinL C')) tlv) (PE.weak (pe_addL (vs := [.str (S r) tr]) (D := D9) (ws := zs) (PE.weak (pe_display (V := fun v => v = .str (S r) tr) (by exact ⟨PV.loc F10.ns (by exact d2), rfl, trivial⟩) (by decide)) fun v h' _ ⟨D', us, e, _, pD', hl, ha⟩ => ⟨D', e, Strs.eq_one hl ha ▸ pD'⟩) (PV.loc F10.ns rfl) pz10 (by simp; omega)) fun v h' _ ⟨D', e, pD'⟩ => ⟨D', _, e, pD'.isList, hlv2⟩) (pv_neg PV.int)) fun _ _ _ e => ⟨tlv, e⟩) fun a b ha hb => cmp_neS ha hb).asB (by rw [S_beq]; simp)) fun h11 t11 k11 => ?_
        have F11 := fr_up F10 k11
        have pz11 := pz10.at fun o e => k11 D9 o e
        -- if list(_ancestry(shared)) != common[::-1]
        have hAnc' : Anc (rstripL (r ++ joinL C')) (pref r C').reverse := by
          have := anc_hdp (r ++ joinL C')
          rwa [hdp_shared hrc C'.length C' (Nat.le_refl _) gC'] at this
        refine st_skipS (wpAny_isTrue_Compare1 (list_anc (n := n + 40) (l := r ++ joinL C') (items := (pref r C').reverse) (G1 (fr_sub F11)) (O0.less (by omega)) (PV.locS F11.ns rfl) (by rw [List.length_append]; have := joinL_len C'; omega) hAnc' (by rw [List.length_reverse, pref_len]; omega) fun s12 Dt kt ost bt nDt lDt => ?_) (by with_unfolding_all rfl))
        have F12 := fr_up F11 kt
        have pz12 := pz11.at fun o e => kt D9 o e
        refine (pe_rev (D₀ := True) (xs := pref r C') ((PV.loc F12.ns rfl).weak fun v h' k e => ⟨D9, e, zs, (pz12.at fun o e => k D9 o e).isList, sz⟩) (pv_neg PV.int) (by rw [pref_len]; omega)) s12 _ _ Sub.rfl fun v h13 t13 k13 ⟨T, ev, _, lT⟩ => ?_
        refine cmp_neSame (h := h13) O0 ⟨Dt, rfl, (lDt.up k13).li⟩ ⟨T, ev, lT.li⟩ _ _ _ Sub.rfl fun v h14 t14 k14 pv => ?_
        subst pv
        refine wpAny_truthy_bool ⟨rfl, wpAny_execs_nil ?_⟩
        have F14 := fr_up (fr_up F12 k13) k14
        have X314 : SubX [L] s3.heap h14 := (((X30.trans k11.toX).trans kt.toX).trans k13.toX).trans k14.toX
        refine ⟨_, F14, ⟨⟨fun bb => bt (g1'' bb), ost.trans g2''⟩, X3.trans (sub3 X314), d1, d2, d3, D9, rfl, ?_, D9L, D9m, ?_⟩, X314, fun c hc => ?_⟩
        · rw [hC']; exact ⟨zs, ((pz12.at fun o e => k13 D9 o e).at fun o e => k14 D9 o e), sz⟩
        · left
          cases hq : hB3.get? D9 with
          | none => rfl
          | some o => exact absurd nD9 (lvB3 D9 (live_of hq))
        · rw [List.mem_singleton.mp hc]; exact ns_live F14.ns
      · have X2e := X27.trans X3
        exact wpAny_execs_nil ⟨_, F3', ⟨⟨g1'', g2''⟩, X2e, d1, d2, v1, cv1⟩, (sub3 X7).trans X3, lvf F3' cv1⟩
    · refine st_ret PV.boolc fun v h5 t5 k5 hv => ?_
      subst hv
      exact q _ ((fr_sub F2').trans k5) g2' g1'
end Mine
end
open PySem PySem.W PyProof.Rows
namespace Mine
theorem ints_are {vs : List Value} {ns : List Int} (h : IntsAre vs ns) : ∀ u ∈ vs, ∃ i, IsI i u := by
  induction h with
  | nil => intro u hu; cases hu
  | cons n t _ ih =>
    intro u hu
    rcases List.mem_cons.mp hu with rfl | hu
    · exact ⟨n, t, rfl⟩
    · exact ih u hu
end Mine
set_option maxRecDepth 100000 in
set_option maxHeartbeats 8000000 in
theorem PySem.Challenge.cw_in0201_01_holds : PySem.Challenge.rw_in0201_01.Holds := by
  refine Mine.hd ?_
  k_fill
  intro w s₀ s₁ mg mb G Y fa o pm cd doc dV kV ho hd hcd hD hmg hg args vals as hpre hlay hrd hwl hlo
  have KX := kIn_of Y
  have X := (Ground.X G).1
  have V := (Ground.X G).2
  refine Ground.open G ?_
  intro T B D TE TW
  wrow_args hpre hlay hrd hwl hlo
  all_goals (x_fa T KX hmg)
  rename_i ns _ _ _ _ _ as1 as2 D0 vs as3 hL ra _ _ hI _ hlen _
  refine Mine.law_run (n := 0) (D0 := D0) (vs := vs) ⟨KX, ⟨mb, T.b, T.builtins⟩, Top.nolimit T⟩ ?_ hL (Mine.ints_are hI) ?_ fun s' k hos hb => ?_
  · exact ⟨rfl, by decide, by decide⟩
  · have := hI.length
    omega
  · refine ⟨.inl ⟨_, _, [], rfl, fun _ => rfl, ReadsW.bool true, ?_, fun _ => ⟨List.nodup_nil, fun _ hm => (nomatch hm)⟩⟩, .of_keep k, hos, hb (by rw [hg]; exact AllBare.empty)⟩
    first | rfl | wrow_post
