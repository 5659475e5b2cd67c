import PyProof.Rows.All
import Wide.All
import OpenK.AllK
import Wide.FinOn
import PySem.Challenge.RW_pg0009_01
set_option Elab.async false
section
open PySem PySem.W PyProof.Rows
set_option maxRecDepth 100000
namespace Mine

abbrev pw : Program := PySem.Challenge.pw_pg0009_01
/-- the view of the text: its defs and its two sets -/
def q : Program := view PySem.Challenge.pw_pg0009_01 [1, 3, 4, 5, 6, 8, 9, 10, 11, 12, 13, 14]

def nameE (P : Params) (x : String) (t : Nat) (v : Value) : DictEntry := ⟨PyData.keyHash P (Str.ofString x), .str (Str.ofString x) t, v⟩
/-- the module's names behind the top -/
def mainObj (P : Params) : Obj :=
  { cls := .type "dict", data := .dict #[nameE P "__name__" 165 (.str (Str.ofString "law_pg0009_01") 287), nameE P "__doc__" 166 .none, nameE P "__package__" 167 .none,
      nameE P "__loader__" 168 (.builtin "__main__.__loader__#opaque"), nameE P "__spec__" 169 .none, nameE P "__annotations__" 170 (.ref 6), nameE P "__builtins__" 171 (.ref 4),
      nameE P "__file__" 173 (.str (Str.ofString "/claim/cut.py") 172), nameE P "__cached__" 174 .none, nameE P "_sanitize" 196 (.ref 21), nameE P "b1_set" 258 (.ref 29),
      nameE P "in_table_b1" 265 (.ref 39), nameE P "c6_set" 279 (.ref 41), nameE P "in_table_c6" 286 (.ref 51), nameE P "_law_unseen" 294 (.ref 58), nameE P "_law_code" 303 (.ref 65),
      nameE P "_law_begun" 314 (.ref 72), nameE P "_law_read" 325 (.ref 79), nameE P "_law_mended" 331 (.ref 84), nameE P "_law_left" 337 (.ref 89), nameE P "law" 343 (.ref 94)] 21 }
def intE (i : Int) (t : Nat) : Int × Value := (i, .int i t)
/-- the set of table B.1, as the top leaves it; led hangs on the world -/
def b1Obj (b : Bool) : Obj :=
  { cls := .type "set", data := .set #[intE 65024 215, intE 65025 216, intE 65026 217, intE 65027 218, intE 65028 219, intE 65029 220, intE 6150 201, intE 65030 221, intE 65031 222,
      intE 65032 223, intE 65033 224, intE 6155 202, intE 6156 203, intE 6157 204, intE 8203 205, intE 8204 206, intE 8205 207, intE 65034 225, intE 65035 226, intE 65036 227, intE 65037 228,
      intE 65038 229, intE 65039 230, intE 173 199, intE 847 200, intE 8288 208, intE 65279 209] 29
      { mask := 127, place := #[0, 1, 2, 3, 4, 5, 6, 7, 8, 9, 10, 11, 12, 13, 14, 15, 16, 17, 18, 19, 20, 21, 22, 45, 79, 96, 127], dummies := #[], finger := 0, led := b, moves := 2, plain := true } }
def c6Obj (b : Bool) : Obj :=
  { cls := .type "set", data := .set #[intE 65529 269, intE 65530 271, intE 65531 273, intE 65532 275, intE 65533 277] 6
      { mask := 31, place := #[25, 26, 27, 28, 29], dummies := #[], finger := 0, led := b, moves := 1, plain := true } }
def K (P : Params) : Frag := [(3, mainObj P), (29, b1Obj (!P.followText "set-order")), (41, c6Obj (!P.followText "set-order"))]
def H : Hook := kHook K [3, 29, 41] (fun _ => rfl)
def looseNames : List Str := [Str.ofString "b1_set", Str.ofString "c6_set"]
end Mine
end
section
open PySem PySem.W PySem.Calls PyProof.Rows
set_option maxRecDepth 100000
set_option Elab.async false
namespace Mine

/-- the i-th statement of the text, a def, as a record -/
def dOf (i : Nat) : DefRec := match PySem.Challenge.pw_pg0009_01.main.body[i]? with
  | some (.FunctionDef name a b _ _ _ sc _ _ pos) => ⟨name, a, b, sc, pos⟩
  | _ => ⟨Str.empty, ⟨[], [], none, [], [], none, []⟩, [], default, default⟩
theorem recs_eq : recsOf q = [dOf 1, dOf 4, dOf 6, dOf 8, dOf 9, dOf 10, dOf 11, dOf 12, dOf 13, dOf 14] := by kernel_rfl

/-- the state has grown: the same but for new objects and tokens -/
def Kp (s s' : Shared) : Prop := Keeps s s'
theorem Kp.rfl (s : Shared) : Kp s s := ⟨s.heap, s.toks, Eq.refl _, fun _ _ e => e⟩
theorem Kp.tok (s : Shared) (t : Nat) : Kp s { s with toks := t } := ⟨s.heap, t, Eq.refl _, fun _ _ e => e⟩
theorem Kp.push (s : Shared) (o : Obj) : Kp s { s with heap := s.heap.push o } := ⟨_, s.toks, Eq.refl _, fun _ _ e => Heap.get?_push_of_some _ e⟩
theorem Kp.mk {s : Shared} {h : Heap} {t : Nat} (k : ∀ b o, s.heap.get? b = some o → h.get? b = some o) : Kp s { s with heap := h, toks := t } := ⟨_, _, Eq.refl _, k⟩
theorem Kp.trans {s s' s'' : Shared} (x : Kp s s') (y : Kp s' s'') : Kp s s'' := by
  obtain ⟨h, t, rfl, k⟩ := x
  obtain ⟨h', t', rfl, k'⟩ := y
  exact ⟨h', t', Eq.refl _, fun b o e => k' b o (k b o e)⟩
theorem Kp.get {s s' : Shared} (x : Kp s s') : ∀ b o, s.heap.get? b = some o → s'.heap.get? b = some o := by
  obtain ⟨h, t, rfl, k⟩ := x
  exact k
/-- the frame of a call -/
def Fm (s₀ : Shared) (L : Addr) (m : Str → Option Value) (s : Shared) : Prop := InCall s₀ L m s
theorem Fm.k {s₀ s s' : Shared} {L : Addr} {m : Str → Option Value} (F : Fm s₀ L m s) (k : Kp s s') : Fm s₀ L m s' := by
  obtain ⟨h, t, rfl, k⟩ := k
  exact ⟨let ⟨_, _, e⟩ := InCall.same F; ⟨h, t, by rw [e]⟩, (InCall.ns F).keeps k, fun b o e => k b o (InCall.keep F b o e), InCall.fresh F⟩
theorem Fm.kp {s₀ s : Shared} {L : Addr} {m : Str → Option Value} (F : Fm s₀ L m s) : Kp s₀ s := InCall.done F
theorem Fm.ns {s₀ s : Shared} {L : Addr} {m : Str → Option Value} (F : Fm s₀ L m s) : s.heap.Ns L m := InCall.ns F
theorem Fm.fresh {s₀ s : Shared} {L : Addr} {m : Str → Option Value} (F : Fm s₀ L m s) : s₀.heap.objs.size ≤ L := InCall.fresh F
/-- an object made in the call is changed -/
theorem Fm.upd {s₀ s : Shared} {L D : Addr} {m : Str → Option Value} {h' : Heap} (F : Fm s₀ L m s) (hs : Heap.SameBut D s.heap h') (hD : s₀.heap.get? D = none) (hL : L ≠ D) (t : Nat) : Fm s₀ L m { s with heap := h', toks := t } :=
  ⟨let ⟨_, _, e⟩ := InCall.same F; ⟨h', t, by rw [e]⟩, (InCall.ns F).sameBut hs hL, fun b o e => (hs.2 b (by rintro rfl; rw [hD] at e; cases e)).trans (InCall.keep F b o e), InCall.fresh F⟩

/-- what the call may lean on -/
structure G0 (w : World) (mean : ExcName → Option Value) (mg mb : Str → Option Value) (h : Heap) : Prop where
  T : Top q (looseW q looseNames) mean mg mb h
  X : (K w.params).In h
theorem G0.keeps {w : World} {mean : ExcName → Option Value} {mg mb : Str → Option Value} {h h' : Heap} (G : G0 w mean mg mb h) (k : ∀ b o, h.get? b = some o → h'.get? b = some o) : G0 w mean mg mb h' :=
  ⟨G.T.keeps k, G.X.keeps k⟩
theorem G0.k {w : World} {mean : ExcName → Option Value} {mg mb : Str → Option Value} {s s' : Shared} (G : G0 w mean mg mb s.heap) (k : Kp s s') : G0 w mean mg mb s'.heap := G.keeps k.get

/-- the room around a call -/
structure AOk (A : Around) (n : Nat) : Prop where
  handled : A.handled = none
  depth : A.depth + n ≤ 400
  units : A.units + 20 * n ≤ 4000
theorem AOk.deeper {A : Around} {n : Nat} (x : AOk A (n + 1)) (env : Env) : AOk (A.deeper env) n :=
  ⟨x.handled, by have := x.depth; show A.depth + 1 + n ≤ 400; omega, by have := x.units; show A.units + 3 + 20 * n ≤ 4000; omega⟩
theorem AOk.room {A : Around} {n : Nat} (x : AOk A n) : A.depth < recursionLimit := by have := x.depth; show A.depth < 1000; omega
theorem AOk.cRoom {A : Around} {n : Nat} (x : AOk A n) : A.units < cLine := by have := x.units; show A.units < 9900; omega
theorem AOk.le {A : Around} {n m : Nat} (x : AOk A n) (h : m ≤ n) : AOk A m := ⟨x.handled, by have := x.depth; omega, by have := x.units; omega⟩

def IsInt (v : Value) (i : Int) : Prop := ∃ t, v = .int i t
def IsStr (v : Value) (x : Str) : Prop := ∃ t, v = .str x t

/-- the function bound to a name -/
theorem G0.fn {w : World} {mean : ExcName → Option Value} {mg mb : Str → Option Value} {h : Heap} (G : G0 w mean mg mb h) {d : DefRec} (hd : d ∈ recsOf q) :
    ∃ a o pm cd doc, mg d.name = some (.ref a) ∧ h.get? a = some o ∧ o.data = .func (docDef d.name d.params d.body d.scope pm cd doc) ∧ h.CodeRec cd d.name := G.T.fn d hd

theorem callDef {w : World} {mean : ExcName → Option Value} {mg mb : Str → Option Value} {A : Around} {n : Nat} {E : Value → Shared → Prop} {s : Shared} {Q : Value → Shared → Prop} {a : Addr} {args : List Value} {d : DefRec} {binds : List (Str × Value)}
    (G : G0 w mean mg mb s.heap) (hA : AOk A n) (hd : d ∈ recsOf q) (ha : mg d.name = some (.ref a))
    (hbind : ∀ pm cd doc, bindArgs (docDef d.name d.params d.body d.scope pm cd doc) ⟨args, []⟩ = pure binds)
    (h : ∀ cd s₁, Fm s s.heap.objs.size (fun x => binds.reverse.lookup x) s₁ →
      wpAny (model pw w) (A.deeper (envOf d.name d.scope s.heap.objs.size a cd)) (execs d.body (envOf d.name d.scope s.heap.objs.size a cd))
        (fun f s' => ∃ v, f = .ret v ∧ Q v s') (fun _ _ => False) s₁)
    (hloc : (binds.all fun x => decide (d.scope.names.lookup x.1 = some .local)) = true := by rfl)
    (hco : d.scope.isCoroutine = false := by rfl) (hgen : d.scope.isGenerator = false := by rfl) (hk : d.scope.kind = .function := by rfl)
    (hcell : (d.scope.names.all fun x => x.2 != .cell) = true := by rfl) :
    wpAny (model pw w) A (call (.ref a) args) Q E s := by
  obtain ⟨a', o, pm, cd, doc, h1, h2, h3, h4⟩ := G.fn hd
  obtain rfl : a' = a := by rw [h1] at ha; injection ha with e; injection e
  refine wpAny_call (call_plain_ret hA.room h2 h3 G.T.nolimit h4 (hbind _ _ _) (locs hloc) (fun h₁ F => ?_) hco hgen hk (fun x hx => by simpa using List.all_eq_true.mp hcell x hx))
  refine wpAny_mono (h cd _ ⟨⟨h₁, _, rfl⟩, F.ns, F.keep, F.above⟩) (fun f s' hq => ?_) fun _ _ x => x
  obtain ⟨v, rfl, hq⟩ := hq
  exact hq

end Mine
end
section
open PySem PySem.W PySem.Calls PyProof.Rows
set_option maxRecDepth 100000
set_option Elab.async false
namespace Mine
section
variable {w : World} {mean : ExcName → Option Value} {mg mb : Str → Option Value} {A : Around} {E : Value → Shared → Prop} {s : Shared} {env : Env} {L : Addr} {m : Str → Option Value}

theorem e_int {i : Int} {k pos} {Q : Value → Shared → Prop} (h : ∀ t s', Kp s s' → Q (.int i t) s') : wpAny (model pw w) A (eval (.Constant (.int i) k pos) env) Q E s := wpAny_Constant_int (h _ _ (Kp.tok _ _))
theorem e_str {x : Str} {k pos} {Q : Value → Shared → Prop} (h : ∀ t s', Kp s s' → Q (.str x t) s') : wpAny (model pw w) A (eval (.Constant (.str x) k pos) env) Q E s := Constant_str (h _ _ (Kp.tok _ _))
theorem e_local {x : Str} {pos : Pos} {v : Value} {Q : Value → Shared → Prop} (hn : s.heap.Ns env.locals m) (hv : m x = some v) (h : Q v s)
    (hk : env.scope.kind = .function := by rfl) (hl : env.kindOf x = some .local := by rfl) (hd : (x == ("__debug__" : Str)) = false := by decide) :
    wpAny (model pw w) A (eval (.Name x pos) env) Q E s := wpAny_Name (wpAny_loadName_local hk hl hn hv h) hd
theorem e_global {x : Str} {pos : Pos} {v : Value} {Q : Value → Shared → Prop} (G : G0 w mean mg mb s.heap) (hv : mg x = some v) (h : Q v s)
    (hk : env.scope.kind = .function := by rfl) (hl : env.kindOf x = some .globalImplicit := by rfl) (hg : env.globals = mainGlobals := by rfl) (hd : (x == ("__debug__" : Str)) = false := by decide) :
    wpAny (model pw w) A (eval (.Name x pos) env) Q E s := Name_function_global hk hl (loadGlobal_global (by rw [hg]; exact G.T.g) hv h) hd

/-- the module's names, one by one -/
theorem G0.main (G : G0 w mean mg mb s.heap) (x : Str) : mg x = nsFind #[nameE w.params "__name__" 165 (.str (Str.ofString "law_pg0009_01") 287), nameE w.params "__doc__" 166 .none, nameE w.params "__package__" 167 .none,
      nameE w.params "__loader__" 168 (.builtin "__main__.__loader__#opaque"), nameE w.params "__spec__" 169 .none, nameE w.params "__annotations__" 170 (.ref 6), nameE w.params "__builtins__" 171 (.ref 4),
      nameE w.params "__file__" 173 (.str (Str.ofString "/claim/cut.py") 172), nameE w.params "__cached__" 174 .none, nameE w.params "_sanitize" 196 (.ref 21), nameE w.params "b1_set" 258 (.ref 29),
      nameE w.params "in_table_b1" 265 (.ref 39), nameE w.params "c6_set" 279 (.ref 41), nameE w.params "in_table_c6" 286 (.ref 51), nameE w.params "_law_unseen" 294 (.ref 58), nameE w.params "_law_code" 303 (.ref 65),
      nameE w.params "_law_begun" 314 (.ref 72), nameE w.params "_law_read" 325 (.ref 79), nameE w.params "_law_mended" 331 (.ref 84), nameE w.params "_law_left" 337 (.ref 89), nameE w.params "law" 343 (.ref 94)] x := by
  obtain ⟨o, es, ep, h1, h2, _, h4⟩ := G.T.g
  have h3 := G.X 3 (mainObj w.params) rfl
  have : o = mainObj w.params := by
    have e : s.heap.get? mainGlobals = some (mainObj w.params) := h3
    rw [h1] at e; exact Option.some.inj e
  subst this
  injection h2 with e1 e2
  rw [← h4 x, ← e1]
theorem e_builtin {x : Str} {pos : Pos} {v : Value} {Q : Value → Shared → Prop} (G : G0 w mean mg mb s.heap) (hv : bootBuiltins x = some v) (h : Q v s)
    (hm : mg x = none) (hn : x ≠ "__name__" := by decide)
    (hk : env.scope.kind = .function := by rfl) (hl : env.kindOf x = some .globalImplicit := by rfl) (hg : env.globals = mainGlobals := by rfl) (hb : env.builtins = builtinsNs := by rfl) (hd : (x == ("__debug__" : Str)) = false := by decide) :
    wpAny (model pw w) A (eval (.Name x pos) env) Q E s :=
  Name_function_global hk hl (loadGlobal_builtin (by rw [hg]; exact G.T.g) hm (by rw [hb]; exact G.T.b) ((G.T.builtins x hn).trans hv) h) hd
end

section
variable {w : World} {mean : ExcName → Option Value} {mg mb : Str → Option Value} {s : Shared}
theorem G0.m_san (G : G0 w mean mg mb s.heap) : mg "_sanitize" = some (.ref 21) := (G.main _).trans (by kernel_rfl)
theorem G0.m_b1set (G : G0 w mean mg mb s.heap) : mg "b1_set" = some (.ref 29) := (G.main _).trans (by kernel_rfl)
theorem G0.m_b1 (G : G0 w mean mg mb s.heap) : mg "in_table_b1" = some (.ref 39) := (G.main _).trans (by kernel_rfl)
theorem G0.m_c6set (G : G0 w mean mg mb s.heap) : mg "c6_set" = some (.ref 41) := (G.main _).trans (by kernel_rfl)
theorem G0.m_c6 (G : G0 w mean mg mb s.heap) : mg "in_table_c6" = some (.ref 51) := (G.main _).trans (by kernel_rfl)
theorem G0.m_unseen (G : G0 w mean mg mb s.heap) : mg "_law_unseen" = some (.ref 58) := (G.main _).trans (by kernel_rfl)
theorem G0.m_code (G : G0 w mean mg mb s.heap) : mg "_law_code" = some (.ref 65) := (G.main _).trans (by kernel_rfl)
theorem G0.m_begun (G : G0 w mean mg mb s.heap) : mg "_law_begun" = some (.ref 72) := (G.main _).trans (by kernel_rfl)
theorem G0.m_read (G : G0 w mean mg mb s.heap) : mg "_law_read" = some (.ref 79) := (G.main _).trans (by kernel_rfl)
theorem G0.m_mended (G : G0 w mean mg mb s.heap) : mg "_law_mended" = some (.ref 84) := (G.main _).trans (by kernel_rfl)
theorem G0.m_left (G : G0 w mean mg mb s.heap) : mg "_law_left" = some (.ref 89) := (G.main _).trans (by kernel_rfl)
theorem G0.n_ord (G : G0 w mean mg mb s.heap) : mg "ord" = none := (G.main _).trans (by kernel_rfl)
theorem G0.n_chr (G : G0 w mean mg mb s.heap) : mg "chr" = none := (G.main _).trans (by kernel_rfl)
theorem G0.n_len (G : G0 w mean mg mb s.heap) : mg "len" = none := (G.main _).trans (by kernel_rfl)
theorem G0.n_list (G : G0 w mean mg mb s.heap) : mg "list" = none := (G.main _).trans (by kernel_rfl)
theorem G0.n_range (G : G0 w mean mg mb s.heap) : mg "range" = none := (G.main _).trans (by kernel_rfl)
theorem G0.n_min (G : G0 w mean mg mb s.heap) : mg "min" = none := (G.main _).trans (by kernel_rfl)
end
end Mine
end
section
open PySem PySem.W PySem.Calls PyProof.Rows
set_option maxRecDepth 100000
set_option Elab.async false
namespace Mine
def unseenL : List Int := [173, 847, 6150, 6155, 6156, 6157, 8203, 8204, 8205, 8288, 65279, 65024, 65025, 65026, 65027, 65028, 65029, 65030, 65031, 65032, 65033, 65034, 65035, 65036, 65037, 65038, 65039]
def b1Items : List (Int × Nat) := [(65024, 215), (65025, 216), (65026, 217), (65027, 218), (65028, 219), (65029, 220), (6150, 201), (65030, 221), (65031, 222), (65032, 223), (65033, 224), (6155, 202), (6156, 203), (6157, 204), (8203, 205), (8204, 206), (8205, 207), (65034, 225), (65035, 226), (65036, 227), (65037, 228), (65038, 229), (65039, 230), (173, 199), (847, 200), (8288, 208), (65279, 209)]
def c6Items : List (Int × Nat) := [(65529, 269), (65530, 271), (65531, 273), (65532, 275), (65533, 277)]
theorem b1Items_mem (k : Int) : k ∈ b1Items.map (·.1) ↔ k ∈ unseenL := by
  simp only [b1Items, unseenL, List.map_cons, List.map_nil, List.mem_cons, List.not_mem_nil, or_false]
  omega
theorem c6Items_mem (k : Int) : k ∈ c6Items.map (·.1) ↔ 65529 ≤ k ∧ k ≤ 65533 := by
  simp only [c6Items, List.map_cons, List.map_nil, List.mem_cons, List.not_mem_nil, or_false]
  omega
section
variable {w : World} {mean : ExcName → Option Value} {mg mb : Str → Option Value} {A : Around} {E : Value → Shared → Prop} {s : Shared}

theorem is_intE (k i : Int) (t : Nat) : (intKind pw w).is k (intE i t).2 = true ↔ i = k := by
  show (i == k) = true ↔ _
  exact beq_iff_eq
theorem set_of (l : List (Int × Nat)) (a : Addr) (ep : Nat) (t : SetTable) (h : Heap)
    (hl : h.get? a = some { cls := .type "set", data := .set (l.map fun e => intE e.1 e.2).toArray ep t }) (hsz : (l.map fun e => intE e.1 e.2).toArray.size < scanBound) (hf : t.fits (l.map fun e => intE e.1 e.2).toArray.size = true)
    (hh : ∀ e ∈ l, e.1 = hashInt e.1) :
    h.SetOf (intKind pw w) a (fun k => decide (k ∈ l.map (·.1))) l.length := by
  refine ⟨_, _, ep, t, hl, ⟨rfl, rfl, rfl⟩, rfl, ?_, ?_, hsz, hf, by simp⟩
  · intro e he
    rw [List.mem_map] at he
    obtain ⟨x, hx, rfl⟩ := he
    exact ⟨⟨x.1, (is_intE _ _ _).mpr rfl, hh x hx⟩, rfl⟩
  · intro k
    rw [decide_eq_true_eq, List.mem_map]
    constructor
    · rintro ⟨x, hx, rfl⟩
      exact ⟨intE x.1 x.2, List.mem_map.mpr ⟨x, hx, rfl⟩, (is_intE _ _ _).mpr rfl⟩
    · rintro ⟨e, he, h2⟩
      obtain ⟨x, hx, rfl⟩ := List.mem_map.mp he
      exact ⟨x, hx, (is_intE _ _ _).mp h2⟩

theorem G0.b1 (G : G0 w mean mg mb s.heap) : s.heap.SetOf (intKind pw w) 29 (fun k => decide (k ∈ b1Items.map (·.1))) 27 :=
  set_of b1Items 29 _ _ _ (G.X 29 _ rfl) (by decide +kernel) (by cases w.params.followText "set-order" <;> decide +kernel) (by decide +kernel)
theorem G0.c6 (G : G0 w mean mg mb s.heap) : s.heap.SetOf (intKind pw w) 41 (fun k => decide (k ∈ c6Items.map (·.1))) 5 :=
  set_of c6Items 41 _ _ _ (G.X 41 _ rfl) (by decide +kernel) (by cases w.params.followText "set-order" <;> decide +kernel) (by decide +kernel)

/-- a call of a builtin with one argument -/
theorem e_call1 {f : Expr} {e : Expr} {pos : Pos} {env : Env} {id : String} {Q : Value → Shared → Prop}
    (hf : ∀ Q' : Value → Shared → Prop, Q' (.builtin id) s → wpAny (model pw w) A (eval f env) Q' E s)
    (h : wpAny (model pw w) A (eval e env) (fun v s₁ => wpAny (model pw w) A (call (.builtin id) [v]) Q E s₁) E s)
    (hs : backTo pos (starEach [e] env) = [(false, eval e env)] := by rfl)
    (he : eval (.Call f [e] [] pos) env = (do callWith pos (← eval f env) [] (backTo pos (starEach [e] env)) (backToKw pos (keywordEach [] env))) := by rfl) :
    wpAny (model pw w) A (eval (.Call f [e] [] pos) env) Q E s := by
  rw [he]
  refine wpAny_bind (hf _ ?_)
  rw [hs]
  exact callWith_builtin rfl (evalArgs_plain (spliced_cons (wpAny_mono h (fun v s₁ h₁ => spliced_nil h₁) fun _ _ e => e)))

theorem b1_call {c : Nat} {t : Tok} {Q : Value → Shared → Prop} (G : G0 w mean mg mb s.heap) (hA : AOk A 1) (h : ∀ s', Kp s s' → Q (.bool (decide ((c : Int) ∈ unseenL))) s') :
    wpAny (model pw w) A (call (.ref 39) [.str ⟨#[c]⟩ t]) Q E s := by
  refine callDef (d := dOf 4) (binds := [("code", .str ⟨#[c]⟩ t)]) G hA (by rw [recs_eq]; simp) G.m_b1 (fun _ _ _ => rfl) (fun cd s₁ F => ?_)
  have G1 := G.k F.kp
  refine wpAny_execs_cons (wpAny_Return_some (wpAny_Compare1 ?_))
  refine e_call1 (id := "ord") (fun Q' hq => e_builtin G1 boot_ord hq G.n_ord) ?_
  refine e_local F.ns rfl ?_
  refine PySem.P.ord_of_char ?_
  have F2 := F.k (Kp.tok s₁ (s₁.toks + 1))
  refine e_global (G.k F2.kp) G.m_b1set ?_
  refine wpAny_inSet_of (intKind_is pw w c _) rfl (G.k F2.kp).b1 ?_
  refine ⟨_, rfl, ?_⟩
  rw [show decide ((c : Int) ∈ b1Items.map (·.1)) = decide ((c : Int) ∈ unseenL) from decide_eq_decide.mpr (b1Items_mem _)]
  exact h _ (F2.k (Kp.tok _ _)).kp
theorem c6_call {c : Nat} {t : Tok} {Q : Value → Shared → Prop} (G : G0 w mean mg mb s.heap) (hA : AOk A 1) (h : ∀ s', Kp s s' → Q (.bool (decide (65529 ≤ (c : Int) ∧ (c : Int) ≤ 65533))) s') :
    wpAny (model pw w) A (call (.ref 51) [.str ⟨#[c]⟩ t]) Q E s := by
  refine callDef (d := dOf 6) (binds := [("code", .str ⟨#[c]⟩ t)]) G hA (by rw [recs_eq]; simp) G.m_c6 (fun _ _ _ => rfl) (fun cd s₁ F => ?_)
  have G1 := G.k F.kp
  refine wpAny_execs_cons (wpAny_Return_some (wpAny_Compare1 ?_))
  refine e_call1 (id := "ord") (fun Q' hq => e_builtin G1 boot_ord hq G.n_ord) ?_
  refine e_local F.ns rfl ?_
  refine PySem.P.ord_of_char ?_
  have F2 := F.k (Kp.tok s₁ (s₁.toks + 1))
  refine e_global (G.k F2.kp) G.m_c6set ?_
  refine wpAny_inSet_of (intKind_is pw w c _) rfl (G.k F2.kp).c6 ?_
  refine ⟨_, rfl, ?_⟩
  rw [show decide ((c : Int) ∈ c6Items.map (·.1)) = decide (65529 ≤ (c : Int) ∧ (c : Int) ≤ 65533) from decide_eq_decide.mpr (c6Items_mem _)]
  exact h _ (F2.k (Kp.tok _ _)).kp
end
end Mine
end
section
open PySem PySem.W PySem.Calls PyProof.Rows
set_option maxRecDepth 100000
set_option Elab.async false
namespace Mine
/-- a list of ints at a value -/
def IL (h : Heap) (v : Value) (ns : List Int) : Prop := ∃ a vs n, v = .ref a ∧ IsL h a vs n ∧ IntsAre vs.toList ns
theorem IL.keeps {h h' : Heap} {v : Value} {ns : List Int} (x : IL h v ns) (k : ∀ b o, h.get? b = some o → h'.get? b = some o) : IL h' v ns :=
  let ⟨a, vs, n, e, l, i⟩ := x; ⟨a, vs, n, e, k _ _ l, i⟩
theorem IL.k {s s' : Shared} {v : Value} {ns : List Int} (x : IL s.heap v ns) (k : Kp s s') : IL s'.heap v ns := x.keeps k.get
theorem IntsAre.size {vs : Array Value} {ns : List Int} (x : IntsAre vs.toList ns) : vs.size = ns.length := by rw [← Array.length_toList]; exact PyProof.Rows.IntsAre.length x
theorem ints_at {vs : Array Value} {ns : List Int} (x : IntsAre vs.toList ns) {i : Nat} (h : i < ns.length) : ∃ t, vs[i]? = some (.int (ns.getD i 0) t) := by
  have hs := IntsAre.size x
  have h1 : vs[i]? = some vs[i] := by simp
  obtain ⟨n, t, e, e2⟩ := PyProof.Rows.IntsAre.at x i vs[i] (by simpa using h1)
  refine ⟨t, ?_⟩
  rw [h1, e, List.getD_eq_getElem?_getD, e2]
  rfl
section
variable {w : World} {mean : ExcName → Option Value} {mg mb : Str → Option Value} {A : Around} {E : Value → Shared → Prop} {s : Shared} {env : Env} {a b : Int} {t u : Tok} {Q : Value → Shared → Prop}
theorem o_add (h : ∀ t s', Kp s s' → Q (.int (a + b) t) s') : wpAny (model pw w) A (binaryOp .Add (.int a t) (.int b u)) Q E s := PyProof.Rows.add_int (h _ _ (Kp.tok _ _))
theorem o_sub (h : ∀ t s', Kp s s' → Q (.int (a - b) t) s') : wpAny (model pw w) A (binaryOp .Sub (.int a t) (.int b u)) Q E s := PyProof.Rows.sub_int (h _ _ (Kp.tok _ _))
theorem o_mod (hb : b ≠ 0) (h : ∀ t s', Kp s s' → Q (.int (a.fmod b) t) s') : wpAny (model pw w) A (binaryOp .Mod (.int a t) (.int b u)) Q E s := PyProof.Rows.mod_int hb (h _ _ (Kp.tok _ _))
theorem o_div (hb : b ≠ 0) (hs : b.natAbs < 1073741824) (h : ∀ t s', Kp s s' → Q (.int (a.fdiv b) t) s') : wpAny (model pw w) A (binaryOp .FloorDiv (.int a t) (.int b u)) Q E s :=
  PyProof.Rows.floordiv_int hb (h _ _ (Kp.tok _ _)) (.inl (PyProof.noPylong_small hs))
/-- a list display -/
theorem e_nil {pos : Pos} {Q : List Value → Shared → Prop} (h : Q [] s) : wpAny (model pw w) A (spliced (backTo pos (starEach [] env))) Q E s := args_nil h
theorem e_cons {e : Expr} {rest : List Expr} {pos : Pos} {Q : List Value → Shared → Prop}
    (h : wpAny (model pw w) A (eval e env) (fun v s₁ => wpAny (model pw w) A (spliced (backTo pos (starEach rest env))) (fun vs s₂ => Q (v :: vs) s₂) E s₁) E s)
    (he : starEach (e :: rest) env = (false, eval e env) :: starEach rest env := by rfl) : wpAny (model pw w) A (spliced (backTo pos (starEach (e :: rest) env))) Q E s := args_cons h he
/-- written ints, one by one -/
inductive Lits : List Expr → List Int → Prop
  | nil : Lits [] []
  | cons {i : Int} {k : Nat} {p : Pos} {es : List Expr} {ns : List Int} : Lits es ns → Lits (.Constant (.int i) k p :: es) (i :: ns)
theorem e_lits {pos : Pos} {es : List Expr} {ns : List Int} (hl : Lits es ns) : ∀ {s : Shared} {Q : List Value → Shared → Prop}, (∀ vs s', Kp s s' → IntsAre vs ns → Q vs s') →
    wpAny (model pw w) A (spliced (backTo pos (starEach es env))) Q E s := by
  induction hl with
  | nil => intro s Q h; exact e_nil (h _ _ (Kp.rfl _) .nil)
  | cons _ ih => intro s Q h; exact e_cons (e_int fun t s₁ k₁ => ih fun vs s₂ k₂ hv => h _ _ (k₁.trans k₂) (.cons _ _ hv))
theorem newL {vs : List Value} (h : ∀ a s', Kp s s' → s.heap.get? a = none → IsL s'.heap a vs.toArray 0 → Q (.ref a) s') (hsz : vs.length ≤ sizeLine) : wpAny (model pw w) A (newList vs) Q E s := by
  refine wpAny_newObj_type (h _ _ (Kp.push _ _) ?_ (IsL.new _ _)) (by show vs.toArray.size ≤ sizeLine; rw [List.size_toArray]; exact hsz)
  cases e : s.heap.get? s.heap.objs.size with
  | none => rfl
  | some o => exact absurd (Heap.lt_size e) (Nat.lt_irrefl _)
theorem e_litList {es : List Expr} {ns : List Int} {pos : Pos} (hl : Lits es ns) (hn : ns.length ≤ 100) (h : ∀ v s', Kp s s' → IL s'.heap v ns → Q v s') :
    wpAny (model pw w) A (eval (.List es pos) env) Q E s := by
  refine List_ (e_lits hl fun vs s₁ k₁ hv => newL (fun a s₂ k₂ _ hL => h _ _ (k₁.trans k₂) ⟨a, _, _, rfl, hL, hv⟩) ?_)
  rw [PyProof.Rows.IntsAre.length hv]
  have : (2 : Nat) ^ 24 = sizeLine := rfl
  omega
/-- a call of a builtin type with arguments -/
theorem e_callT1 {f : Expr} {e : Expr} {pos : Pos} {T : String}
    (hf : ∀ Q' : Value → Shared → Prop, Q' (.type T) s → wpAny (model pw w) A (eval f env) Q' E s)
    (h : wpAny (model pw w) A (eval e env) (fun v s₁ => wpAny (model pw w) A (call (.type T) [v]) Q E s₁) E s)
    (hs : backTo pos (starEach [e] env) = [(false, eval e env)] := by rfl)
    (he : eval (.Call f [e] [] pos) env = (do callWith pos (← eval f env) [] (backTo pos (starEach [e] env)) (backToKw pos (keywordEach [] env))) := by rfl) :
    wpAny (model pw w) A (eval (.Call f [e] [] pos) env) Q E s := by
  rw [he]
  refine wpAny_bind (hf _ ?_)
  rw [hs]
  exact PySem.callWith_type rfl (evalArgs_plain (spliced_cons (wpAny_mono h (fun v s₁ h₁ => spliced_nil h₁) fun _ _ e => e)))
theorem e_callT2 {f : Expr} {e e' : Expr} {pos : Pos} {T : String}
    (hf : ∀ Q' : Value → Shared → Prop, Q' (.type T) s → wpAny (model pw w) A (eval f env) Q' E s)
    (h : wpAny (model pw w) A (eval e env) (fun v s₁ => wpAny (model pw w) A (eval e' env) (fun v' s₂ => wpAny (model pw w) A (call (.type T) [v, v']) Q E s₂) E s₁) E s)
    (hs : backTo pos (starEach [e, e'] env) = [(false, eval e env), (false, eval e' env)] := by rfl)
    (he : eval (.Call f [e, e'] [] pos) env = (do callWith pos (← eval f env) [] (backTo pos (starEach [e, e'] env)) (backToKw pos (keywordEach [] env))) := by rfl) :
    wpAny (model pw w) A (eval (.Call f [e, e'] [] pos) env) Q E s := by
  rw [he]
  refine wpAny_bind (hf _ ?_)
  rw [hs]
  exact PySem.callWith_type rfl (evalArgs_plain (spliced_cons (wpAny_mono h (fun v s₁ h₁ => spliced_cons (wpAny_mono h₁ (fun v' s₂ h₂ => spliced_nil h₂) fun _ _ e => e)) fun _ _ e => e)))
/-- a call of a def of the text, no argument, one -/
theorem e_fn0 {f : Expr} {pos : Pos} {a : Addr} {d : DefRec} (G : G0 w mean mg mb s.heap) (hd : d ∈ recsOf q) (ha : mg d.name = some (.ref a))
    (hf : ∀ Q' : Value → Shared → Prop, Q' (.ref a) s → wpAny (model pw w) A (eval f env) Q' E s)
    (h : wpAny (model pw w) A (call (.ref a) []) Q E s)
    (he : eval (.Call f [] [] pos) env = (do callWith pos (← eval f env) [] (backTo pos (starEach [] env)) (backToKw pos (keywordEach [] env))) := by rfl) :
    wpAny (model pw w) A (eval (.Call f [] [] pos) env) Q E s := by
  obtain ⟨a', o, pm, cd, doc, h1, h2, h3, h4⟩ := G.fn hd
  obtain rfl : a' = a := by rw [h1] at ha; injection ha with e; injection e
  rw [he]
  refine wpAny_bind (hf _ ?_)
  exact callWith_function (o := o) (PyProof.Rows.evalArgs_none ⟨⟨h2, h3⟩, h⟩)
theorem e_fn1 {f : Expr} {e : Expr} {pos : Pos} {a : Addr} {d : DefRec} (G : G0 w mean mg mb s.heap) (hd : d ∈ recsOf q) (ha : mg d.name = some (.ref a))
    (hf : ∀ Q' : Value → Shared → Prop, Q' (.ref a) s → wpAny (model pw w) A (eval f env) Q' E s)
    (h : wpAny (model pw w) A (eval e env) (fun v s₁ => Kp s s₁ ∧ wpAny (model pw w) A (call (.ref a) [v]) Q E s₁) E s)
    (hs : backTo pos (starEach [e] env) = [(false, eval e env)] := by rfl)
    (he : eval (.Call f [e] [] pos) env = (do callWith pos (← eval f env) [] (backTo pos (starEach [e] env)) (backToKw pos (keywordEach [] env))) := by rfl) :
    wpAny (model pw w) A (eval (.Call f [e] [] pos) env) Q E s := by
  obtain ⟨a', o, pm, cd, doc, h1, h2, h3, h4⟩ := G.fn hd
  obtain rfl : a' = a := by rw [h1] at ha; injection ha with e; injection e
  rw [he]
  refine wpAny_bind (hf _ ?_)
  rw [hs]
  exact callWith_function (o := o) (evalArgs_plain (spliced_cons (wpAny_mono h (fun v s₁ h₁ => spliced_nil ⟨⟨h₁.1.get _ _ h2, h3⟩, h₁.2⟩) fun _ _ e => e)))
/-- an item of a list of ints -/
theorem e_item {value slice : Expr} {v : Value} {ns : List Int} {k : Int} {u : Tok} (hl : IL s.heap v ns) (h0 : 0 ≤ k) (hk : k < ns.length) (hfit : k < 2 ^ 63) (h : ∀ t, Q (.int (ns.getD k.toNat 0) t) s)
    (hs : ∀ l, subscripted slice false (.ref l) (.int k u) = operate [.ref l, .int k u] (getItem (.ref l) (.int k u)) := by intro _; with_unfolding_all rfl) :
    wpAny (model pw w) A (subscriptTail value slice v (.int k u)) Q E s := by
  obtain ⟨l, vs, n, rfl, hL, hI⟩ := hl
  obtain ⟨t, ht⟩ := ints_at hI (i := k.toNat) (by omega)
  exact tail_any hL.isList.typeIs slot_list_getitem.lookup (wpAny_getItem_list hL.isList h0 hfit ht (h t)) (hs l)
/-- two lists of ints put together, the new one fresh -/
theorem o_addLF {v v' : Value} {ns ns' : List Int} (hl : IL s.heap v ns) (hl' : IL s.heap v' ns') (hn : ns.length + ns'.length ≤ 1000) (h : ∀ a s', Kp s s' → s.heap.get? a = none → IL s'.heap (.ref a) (ns ++ ns') → Q (.ref a) s') :
    wpAny (model pw w) A (binaryOp .Add v v') Q E s := by
  obtain ⟨l, vs, n, rfl, hL, hI⟩ := hl
  obtain ⟨l', vs', n', rfl, hL', hI'⟩ := hl'
  refine PySem.P.add_list hL hL' (h _ _ (Kp.push _ _) ?_ ⟨_, _, _, rfl, IsL.new _ _, ?_⟩) ?_
  · cases e : s.heap.get? s.heap.objs.size with
    | none => rfl
    | some o => exact absurd (Heap.lt_size e) (Nat.lt_irrefl _)
  · rw [Array.toList_append]; exact PyProof.Rows.IntsAre.append hI hI'
  · rw [IntsAre.size hI, IntsAre.size hI']
    have : (2 : Nat) ^ 24 = sizeLine := rfl
    omega
/-- two lists of ints put together -/
theorem o_addL {v v' : Value} {ns ns' : List Int} (hl : IL s.heap v ns) (hl' : IL s.heap v' ns') (hn : ns.length + ns'.length ≤ 1000) (h : ∀ r s', Kp s s' → IL s'.heap r (ns ++ ns') → Q r s') :
    wpAny (model pw w) A (binaryOp .Add v v') Q E s := by
  obtain ⟨l, vs, n, rfl, hL, hI⟩ := hl
  obtain ⟨l', vs', n', rfl, hL', hI'⟩ := hl'
  refine PySem.P.add_list hL hL' (h _ _ (Kp.push _ _) ⟨_, _, _, rfl, IsL.new _ _, ?_⟩) ?_
  · rw [Array.toList_append]; exact PyProof.Rows.IntsAre.append hI hI'
  · rw [IntsAre.size hI, IntsAre.size hI']
    have : (2 : Nat) ^ 24 = sizeLine := rfl
    omega
end

theorem ints_of_items : ∀ (vs : List Value) (a : Int), (∀ (j : Nat) v, vs[j]? = some v → ∃ t, v = Value.int (a + (j : Int)) t) → IntsAre vs ((List.range vs.length).map fun (j : Nat) => a + (j : Int))
  | [], _, _ => .nil
  | v :: vs, a, h => by
    obtain ⟨t, rfl⟩ := h 0 v rfl
    rw [List.length_cons, List.range_succ_eq_map, List.map_cons, List.map_map]
    have := ints_of_items vs (a + 1) (fun j v hv => by
      obtain ⟨t, e⟩ := h (j + 1) v hv
      exact ⟨t, by rw [e]; congr 1; omega⟩)
    have e : (List.range vs.length).map ((fun (j : Nat) => a + (j : Int)) ∘ Nat.succ) = (List.range vs.length).map fun (j : Nat) => a + 1 + (j : Int) := by
      apply List.map_congr_left
      intro x _
      show a + ((x + 1 : Nat) : Int) = _
      omega
    rw [e]
    simpa using PyProof.Rows.IntsAre.cons _ _ this
section
variable {w : World} {mean : ExcName → Option Value} {mg mb : Str → Option Value} {A : Around} {E : Value → Shared → Prop} {s : Shared} {Q : Value → Shared → Prop}
theorem unseen_call (G : G0 w mean mg mb s.heap) (hA : AOk A 1) (h : ∀ v s', Kp s s' → IL s'.heap v unseenL → Q v s') : wpAny (model pw w) A (call (.ref 58) []) Q E s := by
  refine callDef (d := dOf 8) (binds := []) G hA (by rw [recs_eq]; simp) G.m_unseen (fun _ _ _ => rfl) (fun cd s₁ F => ?_)
  have G1 := G.k F.kp
  refine wpAny_execs_cons ?_
  refine wpAny_Return_some ?_
  refine wpAny_BinOp ?_
  refine e_litList (ns := [173, 847, 6150, 6155, 6156, 6157, 8203, 8204, 8205, 8288, 65279]) ?hl ?hn ?_
  case hl => exact (.cons (.cons (.cons (.cons (.cons (.cons (.cons (.cons (.cons (.cons (.cons .nil)))))))))))
  case hn => decide
  intro v s₂ k₂ hv
  refine e_callT1 (T := "list") (fun Q' hq => e_builtin (G1.k k₂) PyProof.Rows.boot_list hq G.n_list) ?_
  refine e_callT2 (T := "range") (fun Q' hq => e_builtin (G1.k k₂) PyProof.Rows.boot_range hq G.n_range) ?_
  refine e_int fun t₃ s₃ k₃ => e_int fun t₄ s₄ k₄ => call_range_2 ?_
  have k5 : Kp s₄ { s₄ with heap := s₄.heap.push { cls := .type "range", data := .fields #[.int 65024 t₃, .int 65040 t₄, .int 1 s₄.toks] }, toks := s₄.toks + 1 } := Kp.mk fun _ _ e => Heap.get?_push_of_some _ e
  refine call_list_range (n := 16) (hA.deeper _).handled (IsRange.new _ _ _ _ _ _ _) (small_one (by decide) (by decide) (by decide) (by decide)) (by rw [rangeSize_one]; decide) (by decide) fun h' tk acc' c' hk hS hacc => ?_
  have k6 : Kp s₄ { s₄ with heap := h', toks := tk } := Kp.mk fun b o e => hk b o (Heap.get?_push_of_some _ e)
  have kk := k₃.trans (k₄.trans k6)
  refine o_addL (hv.k kk) ⟨_, _, _, rfl, hS, ?_⟩ (ns' := (List.range 16).map fun (j : Nat) => (65024 : Int) + (j : Int)) (by rw [List.length_map, List.length_range]; decide) fun r s₇ k₇ hr => ?_
  · have := ints_of_items acc'.toList 65024 (fun j v hv => by
      obtain ⟨t, e⟩ := hacc.2 j v (by simpa using hv)
      exact ⟨t, by rw [e]; congr 1; omega⟩)
    rw [Array.length_toList, hacc.1] at this
    exact this
  · refine ⟨_, rfl, h _ _ (F.k ((k₂.trans kk).trans k₇)).kp ?_⟩
    exact hr
end
end Mine
end
section
open PySem PySem.W PySem.Calls PyProof.Rows
set_option maxRecDepth 100000
set_option Elab.async false
namespace Mine
/-- as it was but for the frame's names -/
def St (L : Addr) (s s' : Shared) : Prop := ∀ b o, b ≠ L → s.heap.get? b = some o → s'.heap.get? b = some o
theorem Kp.st {L : Addr} {s s' : Shared} (k : Kp s s') : St L s s' := fun b o _ e => k.get b o e
theorem St.trans {L : Addr} {s s' s'' : Shared} (x : St L s s') (y : St L s' s'') : St L s s'' := fun b o h e => y b o h (x b o h e)
theorem IL.st {L : Addr} {s s' : Shared} {m : Str → Option Value} {v : Value} {ns : List Int} (x : IL s.heap v ns) (hn : s.heap.Ns L m) (k : St L s s') : IL s'.heap v ns := by
  obtain ⟨a, vs, n, rfl, hL, hI⟩ := x
  refine ⟨a, vs, n, rfl, k a _ ?_ hL, hI⟩
  rintro rfl
  obtain ⟨o, es, ep, ho, hd, _⟩ := hn
  have e : some o = some _ := ho.symm.trans hL
  injection e with e
  subst e
  cases hd
section
variable {w : World} {mean : ExcName → Option Value} {mg mb : Str → Option Value} {A : Around} {E : Value → Shared → Prop} {s s₀ : Shared} {env : Env} {m : Str → Option Value}
theorem s_store {x : Str} {v : Value} {Q : Unit → Shared → Prop} (F : Fm s₀ env.locals m s) (h : ∀ s₂, Fm s₀ env.locals (fun y => if y = x then some v else m y) s₂ → St env.locals s s₂ → Q () s₂)
    (hl : env.kindOf x = some .local := by rfl) (hp : (env.scope.kind == .class || (env.scope.kind == .module && env.locals != env.globals)) = false := by rfl) :
    wpAny (model pw w) A (storeName env x v) Q E s := by
  refine wpAny_storeName_local hl F.ns (fun h' hn' hs' => h _ ⟨?_, hn', fun b o e => ?_, InCall.fresh F⟩ fun b o hb e => hs'.extBut b o hb e) hp
  · obtain ⟨h₁, tk, rfl⟩ := InCall.same F
    exact ⟨h', _, rfl⟩
  · exact hs'.extBut b o (Nat.ne_of_lt (Nat.lt_of_lt_of_le (Heap.lt_size e) (InCall.fresh F))) (InCall.keep F b o e)
theorem s_assign {x : Str} {value : Expr} {p pos : Pos} {Q : Flow → Shared → Prop} (F : Fm s₀ env.locals m s)
    (h : wpAny (model pw w) A (eval value env) (fun v s₁ => Kp s s₁ ∧ ∀ s₂, Fm s₀ env.locals (fun y => if y = x then some v else m y) s₂ → St env.locals s₁ s₂ → Q .next s₂) E s)
    (hs : swapsWith value (some (.Name x p)) pos.line env = pure false := by rfl)
    (hl : env.kindOf x = some .local := by rfl) (hp : (env.scope.kind == .class || (env.scope.kind == .module && env.locals != env.globals)) = false := by rfl) :
    wpAny (model pw w) A (exec (.Assign [.Name x p] value pos) env) Q E s := by
  refine wpAny_Assign_Name (wpAny_mono h (fun v s₁ h₁ => ?_) fun _ _ e => e) hs
  exact s_store (F.k h₁.1) (fun s₂ F₂ k₂ => h₁.2 s₂ F₂ k₂) hl hp
end

def codeOf (n : Int) : Int :=
  ([unseenL.getD ((n.fdiv 4).fmod 27).toNat 0, 56448 + (n.fdiv 4).fmod 64, 56512 + (n.fdiv 4).fmod 64,
    if (n.fdiv 4).fmod 4 = 0 then 65528 + ((n.fdiv 4).fdiv 4).fmod 8 else ((n.fdiv 4).fdiv 4).fmod 55296] : List Int).getD (n.fmod 4).toNat 0
theorem fmod_pos_lt (a : Int) {b : Int} (hb : 0 < b) : 0 ≤ a.fmod b ∧ a.fmod b < b := ⟨Int.fmod_nonneg_of_pos a hb, Int.fmod_lt_of_pos a hb⟩
section
variable {w : World} {mean : ExcName → Option Value} {mg mb : Str → Option Value} {A : Around} {E : Value → Shared → Prop} {s : Shared} {Q : Value → Shared → Prop}
theorem code_call {n : Int} {t : Tok} (G : G0 w mean mg mb s.heap) (hA : AOk A 2) (h : ∀ t' s', Kp s s' → Q (.int (codeOf n) t') s') : wpAny (model pw w) A (call (.ref 65) [.int n t]) Q E s := by
  refine callDef (d := dOf 9) (binds := [("number", .int n t)]) G hA (by rw [recs_eq]; simp) G.m_code (fun _ _ _ => rfl) (fun cd s₁ F => ?_)
  -- rest = number // 4
  refine wpAny_execs_cons ?_
  refine s_assign F ?_
  refine wpAny_BinOp ?_
  refine e_local F.ns rfl ?_
  refine e_int fun t₂ s₂ k₂ => ?_
  refine o_div (by decide) (by decide) fun t₃ s₃ k₃ => ⟨k₂.trans k₃, fun s₄ F₄ _ => ?_⟩
  -- sign
  dsimp only
  refine wpAny_execs_cons ?_
  refine s_assign F₄ ?_
  refine wpAny_IfExp ?_
  refine wpAny_isTrue_Compare1 ?_
  refine wpAny_BinOp ?_
  refine e_local F₄.ns rfl ?_
  refine e_int fun t₅ s₅ k₅ => ?_
  refine o_mod (by decide) fun t₆ s₆ k₆ => ?_
  refine e_int fun t₇ s₇ k₇ => ?_
  refine PyProof.Rows.eq_int ?_
  refine wpAny_truthy_bool ?_
  have F₇ := F₄.k (k₅.trans (k₆.trans k₇))
  have tail : ∀ {sg : Int} {t₈ : Tok} {s₉ : Shared}, sg = (if (n.fdiv 4).fmod 4 = 0 then 65528 + ((n.fdiv 4).fdiv 4).fmod 8 else ((n.fdiv 4).fdiv 4).fmod 55296) →
      Fm s s.heap.objs.size (fun y => if y = "sign" then some (.int sg t₈) else if y = "rest" then some (.int (n.fdiv 4) t₃) else [(("number" : Str), Value.int n t)].reverse.lookup y) s₉ →
      wpAny (model pw w) (A.deeper (envOf (dOf 9).name (dOf 9).scope s.heap.objs.size 65 cd)) (execs ((dOf 9).body.drop 2) (envOf (dOf 9).name (dOf 9).scope s.heap.objs.size 65 cd)) (fun f s' => ∃ v, f = .ret v ∧ Q v s') (fun _ _ => False) s₉ := by
    intro sg t₈ s₉ hsg F₉
    have G9 := G.k F₉.kp
    have hA' := hA.deeper (envOf (dOf 9).name (dOf 9).scope s.heap.objs.size 65 cd)
    refine wpAny_execs_cons ?_
    refine wpAny_Return_some ?_
    refine Subscript_ ?_
    refine List_ ?_
    refine e_cons ?_
    refine Subscript_ ?_
    refine e_fn0 (d := dOf 8) G9 (by rw [recs_eq]; simp) G.m_unseen (fun Q' hq => e_global G9 G.m_unseen hq) ?_
    refine unseen_call G9 hA' fun v₁ s₁₁ k₁₁ hv₁ => ?_
    have F11 := F₉.k k₁₁
    refine wpAny_BinOp ?_
    refine e_local F11.ns rfl ?_
    refine e_int fun t₁₂ s₁₂ k₁₂ => ?_
    refine o_mod (by decide) fun t₁₃ s₁₃ k₁₃ => ?_
    have b27 := fmod_pos_lt (n.fdiv 4) (b := 27) (by decide)
    refine e_item (hv₁.k (k₁₂.trans k₁₃)) b27.1 (by have := b27.2; show _ < (27 : Int); exact this) (by have := b27.2; omega) fun t₁₄ => ?_
    have F13 := F11.k (k₁₂.trans k₁₃)
    refine e_cons ?_
    refine wpAny_BinOp ?_
    refine e_int fun t₁₅ s₁₅ k₁₅ => ?_
    refine wpAny_BinOp ?_
    refine e_local (F13.k k₁₅).ns rfl ?_
    refine e_int fun t₁₆ s₁₆ k₁₆ => ?_
    refine o_mod (by decide) fun t₁₇ s₁₇ k₁₇ => ?_
    refine o_add fun t₁₈ s₁₈ k₁₈ => ?_
    have F18 := F13.k (k₁₅.trans (k₁₆.trans (k₁₇.trans k₁₈)))
    refine e_cons ?_
    refine wpAny_BinOp ?_
    refine e_int fun t₂₅ s₂₅ k₂₅ => ?_
    refine wpAny_BinOp ?_
    refine e_local (F18.k k₂₅).ns rfl ?_
    refine e_int fun t₂₆ s₂₆ k₂₆ => ?_
    refine o_mod (by decide) fun t₂₇ s₂₇ k₂₇ => ?_
    refine o_add fun t₂₈ s₂₈ k₂₈ => ?_
    have F28 := F18.k (k₂₅.trans (k₂₆.trans (k₂₇.trans k₂₈)))
    refine e_cons ?_
    refine e_local F28.ns rfl ?_
    refine e_nil ?_
    refine newL (fun a s₂₉ k₂₉ _ hL => ?_) (show 4 ≤ sizeLine by decide)
    have F29 := F28.k k₂₉
    refine wpAny_BinOp ?_
    refine e_local F29.ns rfl ?_
    refine e_int fun t₃₀ s₃₀ k₃₀ => ?_
    refine o_mod (by decide) fun t₃₁ s₃₁ k₃₁ => ?_
    have b4 := fmod_pos_lt n (b := 4) (by decide)
    have hl : IL s₃₁.heap (.ref a) [unseenL.getD ((n.fdiv 4).fmod 27).toNat 0, 56448 + (n.fdiv 4).fmod 64, 56512 + (n.fdiv 4).fmod 64, sg] :=
      IL.k ⟨a, _, _, rfl, hL, .cons _ _ (.cons _ _ (.cons _ _ (.cons _ _ .nil)))⟩ (k₃₀.trans k₃₁)
    refine e_item hl b4.1 (by have := b4.2; show _ < (4 : Int); exact this) (by have := b4.2; omega) fun t₃₂ => ⟨_, rfl, ?_⟩
    have := h t₃₂ s₃₁ (F29.k (k₃₀.trans k₃₁)).kp
    subst hsg
    exact this
  cases hc : ((n.fdiv 4).fmod 4 == 0) with
  | true =>
    rw [if_pos rfl]
    refine wpAny_BinOp ?_
    refine e_int fun t₈ s₈ k₈ => ?_
    refine wpAny_BinOp ?_
    refine wpAny_BinOp ?_
    refine e_local (F₇.k k₈).ns rfl ?_
    refine e_int fun t₉ s₉ k₉ => ?_
    refine o_div (by decide) (by decide) fun t₁₀ s₁₀ k₁₀ => ?_
    refine e_int fun t₁₁ s₁₁ k₁₁ => ?_
    refine o_mod (by decide) fun t₁₂ s₁₂ k₁₂ => ?_
    refine o_add fun t₁₃ s₁₃ k₁₃ => ⟨(k₅.trans (k₆.trans k₇)).trans (k₈.trans (k₉.trans (k₁₀.trans (k₁₁.trans (k₁₂.trans k₁₃))))), fun s₁₄ F₁₄ _ => ?_⟩
    exact tail (by rw [if_pos (by simpa using hc)]) F₁₄
  | false =>
    rw [if_neg (by simp)]
    refine wpAny_BinOp ?_
    refine wpAny_BinOp ?_
    refine e_local F₇.ns rfl ?_
    refine e_int fun t₉ s₉ k₉ => ?_
    refine o_div (by decide) (by decide) fun t₁₀ s₁₀ k₁₀ => ?_
    refine e_int fun t₁₁ s₁₁ k₁₁ => ?_
    refine o_mod (by decide) fun t₁₂ s₁₂ k₁₂ => ⟨(k₅.trans (k₆.trans k₇)).trans (k₉.trans (k₁₀.trans (k₁₁.trans k₁₂))), fun s₁₄ F₁₄ _ => ?_⟩
    exact tail (by rw [if_neg (by simpa using hc)]) F₁₄
end
end Mine
end
section
open PySem PySem.W PySem.Calls PyProof.Rows
set_option maxRecDepth 100000
set_option Elab.async false
namespace Mine
def But (X : List Addr) (s s' : Shared) : Prop := ∀ b o, b ∉ X → s.heap.get? b = some o → s'.heap.get? b = some o
theorem But.trans {X : List Addr} {s s' s'' : Shared} (x : But X s s') (y : But X s' s'') : But X s s'' := fun b o h e => y b o h (x b o h e)
theorem Kp.but {X : List Addr} {s s' : Shared} (k : Kp s s') : But X s s' := fun b o _ e => k.get b o e
theorem St.but {L : Addr} {X : List Addr} {s s' : Shared} (k : St L s s') (h : L ∈ X) : But X s s' := fun b o hb e => k b o (fun e => hb (e ▸ h)) e
/-- an iterator has gone on -/
def Adv (I : Addr) (s s' : Shared) : Prop := ∃ h tk, s' = { s with heap := h, toks := tk } ∧ ∀ b o, b ≠ I → s.heap.get? b = some o → h.get? b = some o
theorem Adv.get {I : Addr} {s s' : Shared} (x : Adv I s s') : ∀ b o, b ≠ I → s.heap.get? b = some o → s'.heap.get? b = some o := by
  obtain ⟨h, tk, rfl, k⟩ := x
  exact k
theorem Fm.adv {s₀ s s' s₁ : Shared} {L I : Addr} {m m₁ : Str → Option Value} (F : Fm s₀ L m s) (F1 : Fm s₀ L m₁ s₁) (hI : s₁.heap.get? I = none) (k : Adv I s s') : Fm s₀ L m s' := by
  obtain ⟨h, t, rfl, k⟩ := k
  have hL : L ≠ I := by
    rintro rfl
    obtain ⟨o, _, _, ho, _⟩ := F1.ns
    rw [hI] at ho; cases ho
  refine ⟨let ⟨_, _, e⟩ := InCall.same F; ⟨h, t, by rw [e]⟩, (InCall.ns F).at' (fun o e => k _ o hL e), fun b o e => k b o ?_ (InCall.keep F b o e), InCall.fresh F⟩
  rintro rfl
  have := InCall.keep F1 b o e
  rw [hI] at this; cases this
theorem IL.adv {s s' s₁ : Shared} {I : Addr} {v v₁ : Value} {ns n₁ : List Int} (x : IL s.heap v ns) (k : Adv I s s') (hv : v ≠ .ref I) : IL s'.heap v ns := by
  obtain ⟨a, vs, n, rfl, hL, hI⟩ := x
  exact ⟨a, vs, n, rfl, k.get a _ (fun e => hv (by rw [e])) hL, hI⟩
section
variable {w : World} {A : Around} {E : Value → Shared → Prop} {s : Shared} {env : Env}
theorem s_for {x : Str} {px pos : Pos} {iter : Expr} {body : List Stmt} {Q : Flow → Shared → Prop} (hh : A.handled = none)
    (h : wpAny (model pw w) A (eval iter env) (fun v s₁ => ∃ (ax : Addr) (items : Array Value) (X : List Addr) (J : Nat → Shared → Prop), v = .ref ax ∧ s₁.heap.IsList ax items ∧ ax ∉ X ∧ (∀ b ∈ X, ∃ o, s₁.heap.get? b = some o) ∧
      (∀ s₂, Kp s₁ s₂ → J 0 s₂) ∧
      (∀ I i s₂ s₃, s₁.heap.get? I = none → Adv I s₂ s₃ → J i s₂ → J i s₃) ∧
      (∀ i v s₂ E', items[i]? = some v → J i s₂ → wpAny (model pw w) A (storeName env x v) (fun _ s₃ => wpAny (model pw w) A (execs body env) (fun f s₄ => match f with
        | .next | .cont => J (i + 1) s₄ ∧ But X s₂ s₄
        | .brk => Q .next s₄
        | .ret v => Q (.ret v) s₄) E' s₃) E' s₂) ∧
      (∀ s₂, J items.size s₂ → Q .next s₂)) E s)
    (hs : ∀ x, foldedSetIterable iter env x = pure x := by intro _; rfl) :
    wpAny (model pw w) A (exec (.For (.Name x px) iter body [] pos) env) Q E s := by
  refine wpAny_For (wpAny_mono h (fun v s₁ h₁ => ?_) fun _ _ e => e) hs
  obtain ⟨ax, items, X, J, rfl, hl, haX, hX, j0, jst, jturn, jend⟩ := h₁
  refine wpAny_pyIter_list hl ?_
  have hI : s₁.heap.get? s₁.heap.objs.size = none := by
    cases e : s₁.heap.get? s₁.heap.objs.size with
    | none => rfl
    | some o => exact absurd (Heap.lt_size e) (Nat.lt_irrefl _)
  have hIX : s₁.heap.objs.size ∉ X := fun hm => by obtain ⟨o, ho⟩ := hX _ hm; rw [hI] at ho; cases ho
  have hIa : ax ≠ s₁.heap.objs.size := by
    rintro e
    obtain ⟨o, ho, _⟩ := hl
    rw [e, hI] at ho; cases ho
  refine codeAny_forLoop (fun k s' => ∃ i, J i s' ∧ s'.heap.IsListIter s₁.heap.objs.size ax i ∧ s'.heap.IsList ax items ∧ i ≤ items.size ∧ k = items.size + 1 - i) ?_ (items.size + 1)
    ⟨0, j0 _ (Kp.push _ _), ⟨_, Heap.get?_push_size _ rfl, rfl, rfl⟩, hl.push _, Nat.zero_le _, rfl⟩
  rintro k s' ⟨i, hJ, hit, hl', hi, rfl⟩
  cases hv : items[i]? with
  | none =>
    have hsz : items.size ≤ i := by simpa using hv
    have : i = items.size := by omega
    subst this
    refine wpAny_pyNext_list_end hh hit hl' hv fun h₁ he₁ => wpAny_execs_nil ?_
    exact jend _ (jst _ _ s' _ hI ⟨h₁, s'.toks, rfl, fun b o hb e => he₁ b o hb e⟩ hJ)
  | some v =>
    have hlt : i < items.size := (Array.getElem?_eq_some_iff.mp hv).1
    refine wpAny_pyNext_list_item hit hl' hv fun h₁ hit₁ hs₁ => ?_
    have a1 : Adv s₁.heap.objs.size s' { s' with heap := h₁ } := ⟨h₁, s'.toks, rfl, fun b o hb e => hs₁.extBut b o hb e⟩
    refine wpAny_assign_Name (wpAny_mono (jturn i v _ _ hv (jst _ _ s' _ hI a1 hJ)) (fun _ s₃ h₃ => wpAny_mono h₃ (fun f s₄ h₄ => ?_) fun _ _ e => e) fun _ _ e => e)
    have go : J (i + 1) s₄ ∧ But X { s' with heap := h₁ } s₄ → ∃ m, m < items.size + 1 - i ∧ ∃ i, J i s₄ ∧ s₄.heap.IsListIter s₁.heap.objs.size ax i ∧ s₄.heap.IsList ax items ∧ i ≤ items.size ∧ m = items.size + 1 - i := by
      rintro ⟨j4, b4⟩
      refine ⟨items.size + 1 - (i + 1), by omega, i + 1, j4, hit₁.at fun o e => b4 _ o hIX e, Heap.IsList.at hl' fun o e => b4 _ o haX (hs₁.extBut _ o hIa e), hlt, rfl⟩
    cases f with
    | next => exact go h₄
    | cont => exact go h₄
    | brk => exact h₄
    | ret v => exact h₄
end
end Mine
end
section
open PySem PySem.W PySem.Calls PyProof.Rows
set_option maxRecDepth 100000
set_option Elab.async false
namespace Mine
theorem line_le {n : Nat} (h : n ≤ 1000) : n ≤ sizeLine := by
  have : (2 : Nat) ^ 24 = sizeLine := rfl
  omega
theorem pick_from (a : Nat) : ∀ (items : Array Value) (ns : List Int), IntsAre items.toList ns → IntsAre (slicePick items (some (a : Int)) none none).toList (ns.drop a) := fun items ns h => by
  rw [slicePick_from']; exact h.drop a
theorem pick_upto (b : Nat) : ∀ (items : Array Value) (ns : List Int), IntsAre items.toList ns → IntsAre (slicePick items none (some (b : Int)) none).toList (ns.take b) := fun items ns h => by
  rw [slicePick_upto']; exact h.take b
theorem pick_but1 : ∀ (items : Array Value) (ns : List Int), IntsAre items.toList ns → IntsAre (slicePick items none (some (-1)) none).toList (ns.take (ns.length - 1)) := fun items ns h => by
  have := slicePick_butLast items 1 (by decide)
  rw [show (-((1 : Nat) : Int)) = -1 from rfl] at this
  rw [this, IntsAre.size h]; exact h.take _
section
variable {w : World} {A : Around} {E : Value → Shared → Prop} {s : Shared} {env : Env} {Q : Value → Shared → Prop}
theorem e_slice {value : Expr} {lower upper : Option Expr} {p pos : Pos} (g : List Int → List Int)
    (h : wpAny (model pw w) A (eval value env) (fun o s₁ => wpAny (model pw w) A (evalPart lower env) (fun vl s₂ => wpAny (model pw w) A (evalPart upper env) (fun vu s₃ =>
      ∃ ns lo hi, IL s₃.heap o ns ∧ ns.length ≤ 1000 ∧ IsPart vl lo ∧ IsPart vu hi ∧ (∀ items ns, IntsAre items.toList ns → IntsAre (slicePick items lo hi none).toList (g ns)) ∧
        ∀ a s₄, Kp s₃ s₄ → s₃.heap.get? a = none → IL s₄.heap (.ref a) (g ns) → Q (.ref a) s₄) E s₂) E s₁) E s) :
    wpAny (model pw w) A (eval (.Subscript value (.Slice lower upper none p) pos) env) Q E s := by
  refine Subscript_ (wpAny_mono h (fun o s₁ h₁ => wpAny_Slice (wpAny_mono h₁ (fun vl s₂ h₂ => wpAny_mono h₂ (fun vu s₃ h₃ => ?_) fun _ _ e => e) fun _ _ e => e)) fun _ _ e => e)
  rw [evalPart_none]
  refine wpAny_pure ?_
  obtain ⟨ns, lo, hi, ⟨l, vs, n, rfl, hL, hI⟩, hn, pl, pu, hg, hQ⟩ := h₃
  have hl' := (hL.push { cls := .type "slice", data := .fields #[vl, vu, .none] }).isList
  refine tail_any (Heap.IsList.typeIs (s := { s₃ with heap := s₃.heap.push _ }) hl') slot_list_getitem.lookup (wpAny_getItem_list_slice hl' (Heap.IsSliceOf.new _ _ _ _) pl pu .none (by simp) ?_ (by rw [IntsAre.size hI]; exact line_le hn)) rfl
  refine hQ _ _ (Kp.mk fun b o e => Heap.get?_push_of_some _ (Heap.get?_push_of_some _ e)) ?_ ⟨_, _, _, rfl, IsL.new _ _, hg _ _ hI⟩
  cases e : s₃.heap.get? (Heap.push s₃.heap { cls := .type "slice", data := .fields #[vl, vu, .none] }).objs.size with
  | none => rfl
  | some o => have := Heap.lt_size e; rw [Heap.size_push] at this; exact absurd this (Nat.not_lt.mpr (Nat.le_succ _))
/-- a pair of ints -/
def PairIs (h : Heap) (v : Value) (a b : Int) : Prop := ∃ t ta tb n, v = .ref t ∧ IsT h t #[.int a ta, .int b tb] n
theorem PairIs.k {s s' : Shared} {v : Value} {a b : Int} (x : PairIs s.heap v a b) (k : Kp s s') : PairIs s'.heap v a b :=
  let ⟨t, ta, tb, n, e, l⟩ := x; ⟨t, ta, tb, n, e, k.get _ _ l⟩
theorem e_pair {x y : Expr} {k : Nat} {pos : Pos} (h : wpAny (model pw w) A (eval x env) (fun v s₁ => wpAny (model pw w) A (eval y env) (fun v' s₂ => ∃ a b ta tb, v = .int a ta ∧ v' = .int b tb ∧ ∀ r s₃, Kp s₂ s₃ → PairIs s₃.heap r a b → Q r s₃) E s₁) E s)
    (hx : starEach [x, y] env = (false, eval x env) :: starEach [y] env := by rfl) (hy : starEach [y] env = (false, eval y env) :: starEach [] env := by rfl) :
    wpAny (model pw w) A (eval (.Tuple [x, y] k pos) env) Q E s := by
  refine Tuple_ (e_cons (wpAny_mono h (fun v s₁ h₁ => e_cons (wpAny_mono h₁ (fun v' s₂ h₂ => e_nil ?_) fun _ _ e => e) hy) fun _ _ e => e) hx)
  obtain ⟨a, b, ta, tb, rfl, rfl, hq⟩ := h₂
  refine wpAny_newObj_type (hq _ _ (Kp.push _ _) ⟨_, ta, tb, 0, rfl, IsT.new _ _⟩) (by show 2 ≤ sizeLine; decide)
theorem t_or {x y : Expr} {pos : Pos} {whole : Sem Value} {Q : Bool → Shared → Prop}
    (h : wpAny (model pw w) A (isTrue x env (eval x env)) (fun b s₁ => if b then Q true s₁ else wpAny (model pw w) A (isTrue y env (eval y env)) Q E s₁) E s) :
    wpAny (model pw w) A (isTrue (.BoolOp .Or [x, y] pos) env whole) Q E s := by
  refine wpAny_isTrue_BoolOp (wpAny_allTrue_Or_cons (wpAny_mono h (fun b s₁ h₁ => ?_) fun _ _ e => e))
  cases b
  · exact wpAny_allTrue_Or_cons (wpAny_mono h₁ (fun b s₂ h₂ => by cases b <;> first | exact h₂ | exact wpAny_allTrue_Or_nil h₂) fun _ _ e => e)
  · exact h₁
theorem t_and {x y : Expr} {pos : Pos} {whole : Sem Value} {Q : Bool → Shared → Prop}
    (h : wpAny (model pw w) A (isTrue x env (eval x env)) (fun b s₁ => if b then wpAny (model pw w) A (isTrue y env (eval y env)) Q E s₁ else Q false s₁) E s) :
    wpAny (model pw w) A (isTrue (.BoolOp .And [x, y] pos) env whole) Q E s := by
  refine wpAny_isTrue_BoolOp (wpAny_allTrue_And_cons (wpAny_mono h (fun b s₁ h₁ => ?_) fun _ _ e => e))
  cases b
  · exact h₁
  · exact wpAny_allTrue_And_cons (wpAny_mono h₁ (fun b s₂ h₂ => by cases b <;> first | exact h₂ | exact wpAny_allTrue_And_nil h₂) fun _ _ e => e)
theorem o_mul {a b : Int} {t u : Tok} (hb : b.natAbs < 2 ^ 64) (h : ∀ t s', Kp s s' → Q (.int (a * b) t) s') : wpAny (model pw w) A (binaryOp .Mult (.int a t) (.int b u)) Q E s :=
  PySem.P.mul_int (h _ _ (Kp.tok _ _)) (.of_right (intBits_le hb))
theorem o_pow {a n : Int} {t u : Tok} (hn : 0 ≤ n) (hn2 : n ≤ 1000000) (ha : a.natAbs < 2 ^ 64) (h : ∀ t s', Kp s s' → Q (.int (a ^ n.toNat) t) s') : wpAny (model pw w) A (binaryOp .Pow (.int a t) (.int n u)) Q E s :=
  PyProof.Rows.pow_int_small hn hn2 ha (h _ _ (Kp.tok _ _))
theorem o_len {v : Value} {ns : List Int} (hl : IL s.heap v ns) (hn : ns.length ≤ 1000) (h : ∀ t s', Kp s s' → Q (.int (ns.length : Int) t) s') : wpAny (model pw w) A (call (.builtin "len") [v]) Q E s := by
  obtain ⟨l, vs, n, rfl, hL, hI⟩ := hl
  refine len_list hL.isList (by rw [IntsAre.size hI]; omega) ?_
  rw [IntsAre.size hI]
  exact h _ _ (Kp.tok _ _)
end
end Mine
end
section
open PySem PySem.W PySem.Calls PyProof.Rows
set_option maxRecDepth 100000
set_option Elab.async false
namespace Mine
def kindZ (c : Int) : Int := if c < 224 then 0 else if c < 240 then 1 else 2
def lowZ (c : Int) (r : List Int) : Int := r.foldl (fun l o => l * 64 + o - 128) (c - ([192, 224, 240] : List Int).getD (kindZ c).toNat 0)
def roomZ (c : Int) (r : List Int) : Int := 64 ^ (kindZ c + 2 - (r.length + 1 : Nat)).toNat
def begZ : List Int → Int × Int
  | [] => (0, 0)
  | c :: r => if c < 192 ∨ 247 < c then (0, 0) else if (r.any fun o => decide (191 < o)) = true then (0, 0)
    else if ([2047, 65535, 1114111] : List Int).getD (kindZ c).toNat 0 < lowZ c r * roomZ c r ∨ lowZ c r * roomZ c r + roomZ c r ≤ ([128, 2048, 65536] : List Int).getD (kindZ c).toNat 0 then (0, 0)
    else if 55296 ≤ lowZ c r * roomZ c r ∧ lowZ c r * roomZ c r + roomZ c r ≤ 57344 then (0, 0) else (kindZ c + 2, lowZ c r * roomZ c r)
theorem begZ_cons (c : Int) (r : List Int) : begZ (c :: r) = if c < 192 ∨ 247 < c then (0, 0) else if (r.any fun o => decide (191 < o)) = true then (0, 0)
    else if ([2047, 65535, 1114111] : List Int).getD (kindZ c).toNat 0 < lowZ c r * roomZ c r ∨ lowZ c r * roomZ c r + roomZ c r ≤ ([128, 2048, 65536] : List Int).getD (kindZ c).toNat 0 then (0, 0)
    else if 55296 ≤ lowZ c r * roomZ c r ∧ lowZ c r * roomZ c r + roomZ c r ≤ 57344 then (0, 0) else (kindZ c + 2, lowZ c r * roomZ c r) := rfl
theorem kindZ_b (c : Int) : 0 ≤ kindZ c ∧ kindZ c ≤ 2 := by unfold kindZ; split; decide; split <;> decide
theorem roomZ_b (c : Int) (r : List Int) : (roomZ c r).natAbs < 2 ^ 64 := by
  have hk := kindZ_b c
  have : (kindZ c + 2 - (r.length + 1 : Nat)).toNat ≤ 3 := by omega
  unfold roomZ
  generalize (kindZ c + 2 - (r.length + 1 : Nat)).toNat = k at this
  match k, this with
  | 0, _ => decide
  | 1, _ => decide
  | 2, _ => decide
  | 3, _ => decide
theorem any_take_succ {r : List Int} {i : Nat} {o : Int} (h : (r.take i).any (fun o => decide (191 < o)) = false) (ho : r[i]? = some o) (h2 : ¬ 191 < o) : (r.take (i + 1)).any (fun o => decide (191 < o)) = false := by
  rw [List.take_add_one, ho, List.any_append, h]
  simpa using h2
theorem low_take_succ {c : Int} {r : List Int} {i : Nat} {o : Int} (ho : r[i]? = some o) : lowZ c (r.take (i + 1)) = lowZ c (r.take i) * 64 + o - 128 := by
  unfold lowZ
  rw [List.take_add_one, ho, List.foldl_append]
  rfl
theorem any_of_mem {r : List Int} {i : Nat} {o : Int} (ho : r[i]? = some o) (h : 191 < o) : (r.any fun o => decide (191 < o)) = true :=
  List.any_eq_true.mpr ⟨o, List.mem_of_getElem? ho, decide_eq_true h⟩
section
variable {w : World} {mean : ExcName → Option Value} {mg mb : Str → Option Value} {A : Around} {E : Value → Shared → Prop} {s : Shared} {Q : Value → Shared → Prop}
theorem e_zz {env : Env} {k : Nat} {p1 p2 pos : Pos} {k1 k2 : Nat} (h : ∀ r s', Kp s s' → PairIs s'.heap r 0 0 → Q r s') :
    wpAny (model pw w) A (eval (.Tuple [.Constant (.int 0) k1 p1, .Constant (.int 0) k2 p2] k pos) env) Q E s := by
  refine e_pair (e_int fun t₁ s₁ k₁ => e_int fun t₂ s₂ k₂ => ⟨0, 0, _, _, rfl, rfl, fun r s₃ k₃ hp => h r s₃ (k₁.trans (k₂.trans k₃)) hp⟩)

theorem begun_call {v : Value} {c : Int} {r : List Int} (G : G0 w mean mg mb s.heap) (hA : AOk A 1) (hv : IL s.heap v (c :: r)) (hlen : r.length ≤ 3) (hfit : 192 ≤ c → c ≤ 247 → (r.length : Int) + 1 ≤ kindZ c + 2)
    (h : ∀ x s', Kp s s' → PairIs s'.heap x (begZ (c :: r)).1 (begZ (c :: r)).2 → Q x s') : wpAny (model pw w) A (call (.ref 72) [v]) Q E s := by
  refine callDef (d := dOf 10) (binds := [("octets", v)]) G hA (by rw [recs_eq]; simp) G.m_begun (fun _ _ _ => rfl) (fun cd s₁ F => ?_)
  have hA' := hA.deeper (envOf (dOf 10).name (dOf 10).scope s.heap.objs.size 72 cd)
  -- if octets[0] < 192 or octets[0] > 247
  refine wpAny_execs_cons ?_
  refine wpAny_If ?_
  refine t_or ?_
  refine wpAny_isTrue_Compare1 ?_
  refine Subscript_ ?_
  refine e_local F.ns rfl ?_
  refine e_int fun t₂ s₂ k₂ => ?_
  refine e_item (hv.k (F.kp.trans k₂)) (by decide) (by simp only [List.length_cons]; omega) (by decide) fun t₃ => ?_
  refine e_int fun t₄ s₄ k₄ => ?_
  refine PyProof.Rows.lt_int ?_
  refine wpAny_truthy_bool ?_
  have F4 := F.k (k₂.trans k₄)
  refine split_dec (fun h1 => ?_) (fun h1 => ?_)
  · refine wpAny_execs_cons ?_
    refine wpAny_Return_some ?_
    refine e_zz fun x s₅ k₅ hp => ⟨_, rfl, h _ _ (F4.k k₅).kp ?_⟩
    have e : begZ (c :: r) = (0, 0) := by rw [begZ_cons, if_pos (.inl h1)]
    rw [e]; exact hp
  refine wpAny_isTrue_Compare1 ?_
  refine Subscript_ ?_
  refine e_local F4.ns rfl ?_
  refine e_int fun t₅ s₅ k₅ => ?_
  refine e_item (hv.k (F4.kp.trans k₅)) (by decide) (by simp only [List.length_cons]; omega) (by decide) fun t₆ => ?_
  refine e_int fun t₇ s₇ k₇ => ?_
  refine PyProof.Rows.gt_int ?_
  refine wpAny_truthy_bool ?_
  have F7 := F4.k (k₅.trans k₇)
  refine split_dec (fun h2 => ?_) (fun h2 => ?_)
  · refine wpAny_execs_cons ?_
    refine wpAny_Return_some ?_
    refine e_zz fun x s₈ k₈ hp => ⟨_, rfl, h _ _ (F7.k k₈).kp ?_⟩
    have e : begZ (c :: r) = (0, 0) := by rw [begZ_cons, if_pos (.inr h2)]
    rw [e]; exact hp
  replace h1 : ¬ c < 192 := h1
  replace h2 : ¬ 247 < c := h2
  refine wpAny_execs_nil ?_
  have hkb := kindZ_b c
  -- the rest, with kind and low bound
  have tail : ∀ {m₈ : Str → Option Value} {tk tl : Tok} {s₈ : Shared}, m₈ "octets" = some v → m₈ "kind" = some (.int (kindZ c) tk) → m₈ "low" = some (.int (lowZ c []) tl) → Fm s s.heap.objs.size m₈ s₈ →
      wpAny (model pw w) (A.deeper (envOf (dOf 10).name (dOf 10).scope s.heap.objs.size 72 cd)) (execs ((dOf 10).body.drop 3) (envOf (dOf 10).name (dOf 10).scope s.heap.objs.size 72 cd)) (fun f s' => ∃ v, f = .ret v ∧ Q v s') (fun _ _ => False) s₈ := by
    intro m₈ tk tl s₈ ho hk hl F8
    refine wpAny_execs_cons ?_
    refine s_for hA'.handled ?_
    refine e_slice (List.drop 1) ?_
    refine e_local F8.ns ho ?_
    refine wpAny_evalPart_some ?_
    refine e_int fun t₉ s₉ k₉ => ?_
    refine wpAny_evalPart_none ?_
    refine ⟨c :: r, some ((1 : Nat) : Int), none, hv.k (F8.kp.trans k₉), by simp only [List.length_cons]; omega, .int _ _, .none, pick_from 1, fun a s₁₀ k₁₀ hfr hr => ?_⟩
    obtain ⟨a', vs, n, e, hL, hI⟩ := hr
    injection e with e
    subst e
    have F10 := F8.k (k₉.trans k₁₀)
    have hI' : IntsAre vs.toList r := hI
    have haL : a ≠ s.heap.objs.size := by
      rintro rfl
      obtain ⟨o, _, _, ho, _⟩ := (F8.k k₉).ns
      rw [hfr] at ho; cases ho
    refine ⟨a, vs, [s.heap.objs.size], fun i s₂ => (r.take i).any (fun o => decide (191 < o)) = false ∧ ∃ m₂ tl₂, Fm s s.heap.objs.size m₂ s₂ ∧ m₂ "octets" = some v ∧ m₂ "kind" = some (.int (kindZ c) tk) ∧ m₂ "low" = some (.int (lowZ c (r.take i)) tl₂), rfl, hL.isList, by simpa using haL, ?_, ?_, ?_, ?_, ?_⟩
    · intro b hb
      obtain rfl : b = s.heap.objs.size := by simpa using hb
      obtain ⟨o, _, _, ho, _⟩ := F10.ns
      exact ⟨o, ho⟩
    · intro s₂ k₂
      exact ⟨rfl, m₈, tl, F10.k k₂, ho, hk, hl⟩
    · rintro I i s₂ s₃ hIn ha ⟨h0, m₂, tl₂, Fa, fa, fb, fc⟩
      exact ⟨h0, m₂, tl₂, Fa.adv F10 hIn ha, fa, fb, fc⟩
    · rintro i v₂ s₂ E' hv₂ ⟨h0, m₂, tl₂, Fa, fa, fb, fc⟩
      obtain ⟨o, to, rfl, hro⟩ := PyProof.Rows.IntsAre.at hI' i v₂ (by simpa using hv₂)
      refine s_store Fa fun s₃ F3 st3 => ?_
      refine wpAny_execs_cons ?_
      refine wpAny_If ?_
      refine wpAny_isTrue_Compare1 ?_
      refine e_local F3.ns (if_pos rfl) ?_
      refine e_int fun t₄ s₄ k₄ => ?_
      refine PyProof.Rows.gt_int ?_
      refine wpAny_truthy_bool ?_
      refine split_dec (fun h3 => ?_) (fun h3 => ?_)
      · refine wpAny_execs_cons ?_
        refine wpAny_Return_some ?_
        refine e_zz fun x s₅ k₅ hp => ⟨_, rfl, h _ _ ((F3.k k₄).k k₅).kp ?_⟩
        have e : begZ (c :: r) = (0, 0) := by rw [begZ_cons, if_neg (by omega), if_pos (any_of_mem hro h3)]
        rw [e]; exact hp
      · refine wpAny_execs_nil ?_
        have F4 := F3.k k₄
        refine wpAny_execs_cons ?_
        refine s_assign F4 ?_
        refine wpAny_BinOp ?_
        refine wpAny_BinOp ?_
        refine wpAny_BinOp ?_
        refine e_local F4.ns ((if_neg (by decide)).trans fc) ?_
        refine e_int fun t₅ s₅ k₅ => ?_
        refine o_mul (by decide) fun t₆ s₆ k₆ => ?_
        refine e_local (F4.k (k₅.trans k₆)).ns (if_pos rfl) ?_
        refine o_add fun t₇ s₇ k₇ => ?_
        refine e_int fun t₈ s₈ k₈ => ?_
        refine o_sub fun t₉ s₉ k₉ => ⟨k₅.trans (k₆.trans (k₇.trans (k₈.trans k₉))), fun s₁₀ F10' st10 => ?_⟩
        refine wpAny_execs_nil ⟨⟨any_take_succ h0 hro h3, _, t₉, F10', ?_, ?_, ?_⟩, ?_⟩
        · exact (if_neg (by decide)).trans ((if_neg (by decide)).trans fa)
        · exact (if_neg (by decide)).trans ((if_neg (by decide)).trans fb)
        · rw [low_take_succ hro]; exact if_pos rfl
        · have b1 : But [s.heap.objs.size] s₂ s₃ := st3.but (List.mem_singleton.mpr rfl)
          have b2 : But [s.heap.objs.size] s₄ s₉ := Kp.but (k₅.trans (k₆.trans (k₇.trans (k₈.trans k₉))))
          have b3 : But [s.heap.objs.size] s₉ s₁₀ := st10.but (List.mem_singleton.mpr rfl)
          exact b1.trans (k₄.but.trans (b2.trans b3))
    · rintro s₂ ⟨h0, m₂, tl₂, F2, fa, fb, fc⟩
      have hvs : vs.size = r.length := IntsAre.size hI'
      rw [hvs, List.take_length] at h0 fc
      -- room = 64 ** (kind + 2 - len(octets))
      dsimp only
      have G2 := G.k F2.kp
      refine wpAny_execs_cons ?_
      refine s_assign F2 ?_
      refine wpAny_BinOp ?_
      refine e_int fun t₃ s₃ k₃ => ?_
      refine wpAny_BinOp ?_
      refine wpAny_BinOp ?_
      refine e_local (F2.k k₃).ns fb ?_
      refine e_int fun t₄ s₄ k₄ => ?_
      refine o_add fun t₅ s₅ k₅ => ?_
      have k35 := k₃.trans (k₄.trans k₅)
      refine e_call1 (id := "len") (fun Q' hq => e_builtin (G2.k k35) boot_len hq G.n_len) ?_
      refine e_local (F2.k k35).ns fa ?_
      refine o_len (hv.k (F2.k k35).kp) (by simp only [List.length_cons]; omega) fun t₆ s₆ k₆ => ?_
      refine o_sub fun t₇ s₇ k₇ => ?_
      have hfit' := hfit (by omega) (by omega)
      refine o_pow (by simp only [List.length_cons]; omega) (by simp only [List.length_cons]; omega) (by decide) fun t₈ s₈ k₈ => ⟨k35.trans (k₆.trans (k₇.trans k₈)), fun s₉ F9 _ => ?_⟩
      -- low = low * room
      dsimp only
      refine wpAny_execs_cons ?_
      refine s_assign F9 ?_
      refine wpAny_BinOp ?_
      refine e_local F9.ns ((if_neg (by decide)).trans fc) ?_
      refine e_local F9.ns (if_pos rfl) ?_
      refine o_mul (roomZ_b c r) fun t₁₀ s₁₀ k₁₀ => ⟨k₁₀, fun s₁₁ F11 _ => ?_⟩
      change Fm s s.heap.objs.size (fun y => if y = "low" then some (.int (lowZ c r * roomZ c r) t₁₀) else if y = "room" then some (.int (roomZ c r) t₈) else m₂ y) s₁₁ at F11
      generalize hlow : lowZ c r * roomZ c r = low at F11
      generalize hroom : roomZ c r = room at F11
      have ebeg : begZ (c :: r) = if ([2047, 65535, 1114111] : List Int).getD (kindZ c).toNat 0 < low ∨ low + room ≤ ([128, 2048, 65536] : List Int).getD (kindZ c).toNat 0 then (0, 0) else if 55296 ≤ low ∧ low + room ≤ 57344 then (0, 0) else (kindZ c + 2, low) := by
        rw [begZ_cons, if_neg (by omega), h0, hlow, hroom]
        rfl
      -- the two tests
      dsimp only
      refine wpAny_execs_cons ?_
      refine wpAny_If ?_
      refine t_or ?_
      refine wpAny_isTrue_Compare1 ?_
      refine e_local F11.ns (if_pos rfl) ?_
      refine Subscript_ ?_
      refine e_litList (ns := [2047, 65535, 1114111]) ?hl ?hn ?_
      case hl => exact (.cons (.cons (.cons .nil)))
      case hn => decide
      intro v₁₂ s₁₂ k₁₂ hv₁₂
      refine e_local (F11.k k₁₂).ns ((if_neg (by decide)).trans ((if_neg (by decide)).trans fb)) ?_
      refine e_item hv₁₂ hkb.1 (by show _ < (3 : Int); omega) (by omega) fun t₁₃ => ?_
      refine PyProof.Rows.gt_int ?_
      refine wpAny_truthy_bool ?_
      refine split_dec (fun h3 => ?_) (fun h3 => ?_)
      · refine wpAny_execs_cons ?_
        refine wpAny_Return_some ?_
        refine e_zz fun x s₅ k₅ hp => ⟨_, rfl, h _ _ ((F11.k k₁₂).k k₅).kp ?_⟩
        rw [ebeg, if_pos (.inl h3)]; exact hp
      refine wpAny_isTrue_Compare1 ?_
      refine wpAny_BinOp ?_
      refine e_local (F11.k k₁₂).ns (if_pos rfl) ?_
      refine e_local (F11.k k₁₂).ns ((if_neg (by decide)).trans (if_pos rfl)) ?_
      refine o_add fun t₁₃ s₁₃ k₁₃ => ?_
      refine Subscript_ ?_
      refine e_litList (ns := [128, 2048, 65536]) ?hl ?hn ?_
      case hl => exact (.cons (.cons (.cons .nil)))
      case hn => decide
      intro v₁₄ s₁₄ k₁₄ hv₁₄
      have k1214 := k₁₂.trans (k₁₃.trans k₁₄)
      refine e_local (F11.k k1214).ns ((if_neg (by decide)).trans ((if_neg (by decide)).trans fb)) ?_
      refine e_item hv₁₄ hkb.1 (by show _ < (3 : Int); omega) (by omega) fun t₁₅ => ?_
      refine PyProof.Rows.le_int ?_
      refine wpAny_truthy_bool ?_
      have F14 := F11.k k1214
      refine split_dec (fun h4 => ?_) (fun h4 => ?_)
      · refine wpAny_execs_cons ?_
        refine wpAny_Return_some ?_
        refine e_zz fun x s₅ k₅ hp => ⟨_, rfl, h _ _ (F14.k k₅).kp ?_⟩
        rw [ebeg, if_pos (.inr h4)]; exact hp
      have hno : ¬ (([2047, 65535, 1114111] : List Int).getD (kindZ c).toNat 0 < low ∨ low + room ≤ ([128, 2048, 65536] : List Int).getD (kindZ c).toNat 0) := fun x => x.elim h3 h4
      rw [if_neg hno] at ebeg
      refine wpAny_execs_nil ?_
      dsimp only
      refine wpAny_execs_cons ?_
      refine wpAny_If ?_
      refine t_and ?_
      refine wpAny_isTrue_Compare1 ?_
      refine e_local F14.ns (if_pos rfl) ?_
      refine e_int fun t₁₆ s₁₆ k₁₆ => ?_
      refine PySem.P.ge_int ?_
      refine wpAny_truthy_bool ?_
      -- the last return
      have fin : ∀ {s₂₀ : Shared}, Fm s s.heap.objs.size (fun y => if y = "low" then some (.int low t₁₀) else if y = "room" then some (.int room t₈) else m₂ y) s₂₀ → begZ (c :: r) = (kindZ c + 2, low) →
          wpAny (model pw w) (A.deeper (envOf (dOf 10).name (dOf 10).scope s.heap.objs.size 72 cd)) (execs ((dOf 10).body.drop 8) (envOf (dOf 10).name (dOf 10).scope s.heap.objs.size 72 cd)) (fun f s' => ∃ v, f = .ret v ∧ Q v s') (fun _ _ => False) s₂₀ := by
        intro s₂₀ F20 he
        refine wpAny_execs_cons ?_
        refine wpAny_Return_some ?_
        refine e_pair ?_
        refine wpAny_BinOp ?_
        refine e_local F20.ns ((if_neg (by decide)).trans ((if_neg (by decide)).trans fb)) ?_
        refine e_int fun t₂₁ s₂₁ k₂₁ => ?_
        refine o_add fun t₂₂ s₂₂ k₂₂ => ?_
        refine e_local (F20.k (k₂₁.trans k₂₂)).ns (if_pos rfl) ?_
        refine ⟨_, _, _, _, rfl, rfl, fun x s₂₃ k₂₃ hp => ⟨_, rfl, h _ _ ((F20.k (k₂₁.trans k₂₂)).k k₂₃).kp ?_⟩⟩
        rw [he]; exact hp
      have F16 := F14.k k₁₆
      refine split_dec (fun h5 => ?_) (fun h5 => ?_)
      · refine wpAny_isTrue_Compare1 ?_
        refine wpAny_BinOp ?_
        refine e_local F16.ns (if_pos rfl) ?_
        refine e_local F16.ns ((if_neg (by decide)).trans (if_pos rfl)) ?_
        refine o_add fun t₁₇ s₁₇ k₁₇ => ?_
        refine e_int fun t₁₈ s₁₈ k₁₈ => ?_
        refine PyProof.Rows.le_int ?_
        refine wpAny_truthy_bool ?_
        have F18 := F16.k (k₁₇.trans k₁₈)
        refine split_dec (fun h6 => ?_) (fun h6 => ?_)
        · refine wpAny_execs_cons ?_
          refine wpAny_Return_some ?_
          refine e_zz fun x s₅ k₅ hp => ⟨_, rfl, h _ _ (F18.k k₅).kp ?_⟩
          rw [ebeg, if_pos ⟨h5, h6⟩]; exact hp
        · refine wpAny_execs_nil ?_
          refine fin F18 ?_
          rw [ebeg, if_neg (fun x => h6 x.2)]
      · refine wpAny_execs_nil ?_
        refine fin F16 ?_
        rw [ebeg, if_neg (fun x => h5 x.1)]
  -- kind = ..
  have low : ∀ {tk : Tok} {s₈ : Shared}, Fm s s.heap.objs.size (fun y => if y = "kind" then some (.int (kindZ c) tk) else [(("octets" : Str), v)].reverse.lookup y) s₈ →
      wpAny (model pw w) (A.deeper (envOf (dOf 10).name (dOf 10).scope s.heap.objs.size 72 cd)) (execs ((dOf 10).body.drop 2) (envOf (dOf 10).name (dOf 10).scope s.heap.objs.size 72 cd)) (fun f s' => ∃ v, f = .ret v ∧ Q v s') (fun _ _ => False) s₈ := by
    intro tk s₈ F8
    refine wpAny_execs_cons ?_
    refine s_assign F8 ?_
    refine wpAny_BinOp ?_
    refine Subscript_ ?_
    refine e_local F8.ns rfl ?_
    refine e_int fun t₉ s₉ k₉ => ?_
    refine e_item (hv.k (F8.kp.trans k₉)) (by decide) (by simp only [List.length_cons]; omega) (by decide) fun t₁₀ => ?_
    refine Subscript_ ?_
    refine e_litList (ns := [192, 224, 240]) ?hl ?hn ?_
    case hl => exact (.cons (.cons (.cons .nil)))
    case hn => decide
    intro v₁₁ s₁₁ k₁₁ hv₁₁
    refine e_local (F8.k (k₉.trans k₁₁)).ns (if_pos rfl) ?_
    refine e_item hv₁₁ hkb.1 (by show _ < (3 : Int); omega) (by omega) fun t₁₂ => ?_
    refine o_sub fun t₁₃ s₁₃ k₁₃ => ⟨k₉.trans (k₁₁.trans k₁₃), fun s₁₄ F14 _ => ?_⟩
    exact tail (tk := tk) (tl := t₁₃) rfl rfl rfl F14
  dsimp only
  refine wpAny_execs_cons ?_
  refine s_assign F7 ?_
  refine wpAny_IfExp ?_
  refine wpAny_isTrue_Compare1 ?_
  refine Subscript_ ?_
  refine e_local F7.ns rfl ?_
  refine e_int fun t₈ s₈ k₈ => ?_
  refine e_item (hv.k (F7.kp.trans k₈)) (by decide) (by simp only [List.length_cons]; omega) (by decide) fun t₉ => ?_
  refine e_int fun t₁₀ s₁₀ k₁₀ => ?_
  refine PyProof.Rows.lt_int ?_
  refine wpAny_truthy_bool ?_
  refine split_dec (fun h3 => ?_) (fun h3 => ?_)
  · replace h3 : c < 224 := h3
    refine e_int fun t₁₁ s₁₁ k₁₁ => ⟨k₈.trans (k₁₀.trans k₁₁), fun s₁₂ F12 _ => ?_⟩
    have e : kindZ c = 0 := by unfold kindZ; rw [if_pos h3]
    exact low (tk := t₁₁) (by rw [e]; exact F12)
  · replace h3 : ¬ c < 224 := h3
    refine wpAny_IfExp ?_
    refine wpAny_isTrue_Compare1 ?_
    refine Subscript_ ?_
    refine e_local (F7.k (k₈.trans k₁₀)).ns rfl ?_
    refine e_int fun t₁₁ s₁₁ k₁₁ => ?_
    refine e_item (hv.k ((F7.k (k₈.trans k₁₀)).kp.trans k₁₁)) (by decide) (by simp only [List.length_cons]; omega) (by decide) fun t₁₂ => ?_
    refine e_int fun t₁₃ s₁₃ k₁₃ => ?_
    refine PyProof.Rows.lt_int ?_
    refine wpAny_truthy_bool ?_
    refine split_dec (fun h4 => ?_) (fun h4 => ?_)
    · replace h4 : c < 240 := h4
      refine e_int fun t₁₄ s₁₄ k₁₄ => ⟨k₈.trans (k₁₀.trans (k₁₁.trans (k₁₃.trans k₁₄))), fun s₁₂ F12 _ => ?_⟩
      have e : kindZ c = 1 := by unfold kindZ; rw [if_neg h3, if_pos h4]
      exact low (tk := t₁₄) (by rw [e]; exact F12)
    · replace h4 : ¬ c < 240 := h4
      refine e_int fun t₁₄ s₁₄ k₁₄ => ⟨k₈.trans (k₁₀.trans (k₁₁.trans (k₁₃.trans k₁₄))), fun s₁₂ F12 _ => ?_⟩
      have e : kindZ c = 2 := by unfold kindZ; rw [if_neg h3, if_neg h4]
      exact low (tk := t₁₄) (by rw [e]; exact F12)
end
end Mine
end
section
open PySem PySem.W PySem.Calls PyProof.Rows
set_option maxRecDepth 100000
set_option Elab.async false
namespace Mine
/-- one object has changed -/
def Upd (D : Addr) (s s' : Shared) : Prop := ∃ h, s' = { s with heap := h } ∧ Heap.SameBut D s.heap h
theorem Upd.get {D : Addr} {s s' : Shared} (x : Upd D s s') : ∀ b o, b ≠ D → s.heap.get? b = some o → s'.heap.get? b = some o := by
  obtain ⟨h, rfl, k⟩ := x
  exact fun b o hb e => k.extBut b o hb e
theorem Upd.fm {s₀ s s' : Shared} {L D : Addr} {m : Str → Option Value} (F : Fm s₀ L m s) (u : Upd D s s') (hD : s₀.heap.get? D = none) (hL : L ≠ D) : Fm s₀ L m s' := by
  obtain ⟨h, rfl, k⟩ := u
  exact F.upd k hD hL s.toks
theorem IL.upd {s s' : Shared} {D : Addr} {v : Value} {ns : List Int} (x : IL s.heap v ns) (k : Upd D s s') (hv : v ≠ .ref D) : IL s'.heap v ns := by
  obtain ⟨a, vs, n, rfl, hL, hI⟩ := x
  exact ⟨a, vs, n, rfl, k.get a _ (fun e => hv (by rw [e])) hL, hI⟩
section
variable {w : World} {mean : ExcName → Option Value} {mg mb : Str → Option Value} {A : Around} {E : Value → Shared → Prop} {s s₀ : Shared} {env : Env} {m : Str → Option Value}
theorem s_while {test : Expr} {body : List Stmt} {pos : Pos} {Q : Flow → Shared → Prop} (I : Nat → Shared → Prop) (n : Nat) (h : I n s)
    (turn : ∀ n s E', I n s → wpAny (model pw w) A (isTrue test env (eval test env)) (fun b s₂ =>
        if b then wpAny (model pw w) A (execs body env) (fun f s₃ => match f with
            | .next | .cont => ∃ m, m < n ∧ I m s₃
            | .brk => Q .next s₃
            | .ret v => Q (.ret v) s₃) E' s₂
        else Q .next s₂) E' s) : wpAny (model pw w) A (exec (.While test body [] pos) env) Q E s := by
  refine wpAny_While (codeAny_whileLoop I (fun n s hI => wpAny_mono (turn n s _ hI) (fun b s₂ h₂ => ?_) fun _ _ e => e) n h)
  cases b
  · exact wpAny_execs_nil h₂
  · refine wpAny_mono h₂ (fun f s₃ h₃ => ?_) fun _ _ e => e
    cases f <;> exact h₃
theorem o_ne {v v' : Value} {ns ns' : List Int} {Q : Value → Shared → Prop} {n : Nat} (hA : AOk A n) (hl : IL s.heap v ns) (hl' : IL s.heap v' ns') (h : Q (.bool (!decide (ns = ns'))) s) : wpAny (model pw w) A (compareOp .NotEq v v') Q E s := by
  obtain ⟨l, vs, n, rfl, hL, hI⟩ := hl
  obtain ⟨l', vs', n', rfl, hL', hI'⟩ := hl'
  exact ne_intsK (by simpa using hL.isList) hI (by simpa using hL'.isList) hI' (by have := hA.units; show A.units + 64 < 9900; omega) h
theorem o_min {a b : Int} {t u : Tok} {Q : Value → Shared → Prop} (hh : A.handled = none) (h : ∀ t s', Kp s s' → Q (.int (if b < a then b else a) t) s') : wpAny (model pw w) A (call (.builtin "min") [.int a t, .int b u]) Q E s := by
  refine min_two_ints hh fun h' tk k => ?_
  by_cases hb : b < a
  · have := h u _ (Kp.mk (t := tk) k)
    rw [if_pos hb] at this ⊢; exact this
  · have := h t _ (Kp.mk (t := tk) k)
    rw [if_neg hb] at this ⊢; exact this
theorem e_call2 {f : Expr} {e e' : Expr} {pos : Pos} {id : String} {Q : Value → Shared → Prop}
    (hf : ∀ Q' : Value → Shared → Prop, Q' (.builtin id) s → wpAny (model pw w) A (eval f env) Q' E s)
    (h : wpAny (model pw w) A (eval e env) (fun v s₁ => wpAny (model pw w) A (eval e' env) (fun v' s₂ => wpAny (model pw w) A (call (.builtin id) [v, v']) Q E s₂) E s₁) E s)
    (hs : backTo pos (starEach [e, e'] env) = [(false, eval e env), (false, eval e' env)] := by rfl)
    (he : eval (.Call f [e, e'] [] pos) env = (do callWith pos (← eval f env) [] (backTo pos (starEach [e, e'] env)) (backToKw pos (keywordEach [] env))) := by rfl) :
    wpAny (model pw w) A (eval (.Call f [e, e'] [] pos) env) Q E s := by
  rw [he]
  refine wpAny_bind (hf _ ?_)
  rw [hs]
  exact callWith_builtin rfl (evalArgs_plain (spliced_cons (wpAny_mono h (fun v s₁ h₁ => spliced_cons (wpAny_mono h₁ (fun v' s₂ h₂ => spliced_nil h₂) fun _ _ e => e)) fun _ _ e => e)))
/-- an item of a pair -/
theorem e_fst {value slice : Expr} {v : Value} {a b : Int} {u : Tok} {Q : Value → Shared → Prop} (hp : PairIs s.heap v a b) (h : ∀ t, Q (.int a t) s)
    (hs : ∀ l, subscripted slice false (.ref l) (.int 0 u) = operate [.ref l, .int 0 u] (getItem (.ref l) (.int 0 u)) := by intro _; with_unfolding_all rfl) :
    wpAny (model pw w) A (subscriptTail value slice v (.int 0 u)) Q E s := by
  obtain ⟨t, ta, tb, n, rfl, hT⟩ := hp
  exact tail_any ⟨_, hT, rfl⟩ slot_tuple_getitem.lookup (PySem.P.getItem_tuple hT (by decide) (by decide) rfl rfl (h ta)) (hs t)
theorem e_snd {value slice : Expr} {v : Value} {a b : Int} {u : Tok} {Q : Value → Shared → Prop} (hp : PairIs s.heap v a b) (h : ∀ t, Q (.int b t) s)
    (hs : ∀ l, subscripted slice false (.ref l) (.int 1 u) = operate [.ref l, .int 1 u] (getItem (.ref l) (.int 1 u)) := by intro _; with_unfolding_all rfl) :
    wpAny (model pw w) A (subscriptTail value slice v (.int 1 u)) Q E s := by
  obtain ⟨t, ta, tb, n, rfl, hT⟩ := hp
  exact tail_any ⟨_, hT, rfl⟩ slot_tuple_getitem.lookup (PySem.P.getItem_tuple hT (by decide) (by decide) rfl rfl (h tb)) (hs t)
/-- two names out of a pair -/
theorem s_two {x y : Str} {px py tpos pos : Pos} {k : Nat} {value : Expr} {Q : Flow → Shared → Prop} (hh : A.handled = none) (F : Fm s₀ env.locals m s)
    (h : wpAny (model pw w) A (eval value env) (fun v s₁ => ∃ a b, Kp s s₁ ∧ PairIs s₁.heap v a b ∧ ∀ ta tb s₂, Fm s₀ env.locals (fun z => if z = y then some (.int b tb) else if z = x then some (.int a ta) else m z) s₂ → St env.locals s₁ s₂ → Q .next s₂) E s)
    (hs : swapsWithSole [.Tuple [.Name x px, .Name y py] k tpos] value pos.line env = pure false := by rfl)
    (hw : swappedStores [.Tuple [.Name x px, .Name y py] k tpos] value env = pure none := by rfl)
    (hx : env.kindOf x = some .local := by rfl) (hy : env.kindOf y = some .local := by rfl) (hp : (env.scope.kind == .class || (env.scope.kind == .module && env.locals != env.globals)) = false := by rfl) :
    wpAny (model pw w) A (exec (.Assign [.Tuple [.Name x px, .Name y py] k tpos] value pos) env) Q E s := by
  refine Assign_Tuple (wpAny_mono h (fun v s₁ h₁ => ?_) fun _ _ e => e) hs hw
  obtain ⟨a, b, k₁, ⟨t, ta, tb, n, rfl, hT⟩, hq⟩ := h₁
  refine wpAny_assign_Tuple hh ⟨_, hT, rfl, n, rfl⟩ rfl rfl fun h' hk => ?_
  have k2 : Kp s₁ { s₁ with heap := h' } := ⟨h', s₁.toks, rfl, fun b o e => hk b o (Nat.ne_of_lt (Heap.lt_size e)) e⟩
  refine wpAny_assignInOrder_more (wpAny_assign_Name (s_store ((F.k k₁).k k2) (fun s₂ F2 st2 => ?_) hx hp))
  refine wpAny_assignInOrder_more (wpAny_assign_Name (s_store F2 (fun s₃ F3 st3 => ?_) hy hp))
  exact wpAny_assignInOrder_none (hq ta tb s₃ F3 (k2.st.trans (st2.trans st3)))
theorem s_append {x : Str} {p apos pos pos' : Pos} {e : Expr} {D : Addr} {items₀ : Array Value} {n₀ : Nat} {Q : Flow → Shared → Prop} (F : Fm s₀ env.locals m s) (hx : m x = some (.ref D)) (hD : IsL s.heap D items₀ n₀)
    (h : wpAny (model pw w) A (eval e env) (fun v s₁ => Kp s s₁ ∧ items₀.size ≤ 1000 ∧ ∀ s₂ n, Upd D s₁ s₂ → IsL s₂.heap D (items₀.push v) n → (∀ a, Value.none ≠ .ref a) → Q .next s₂) E s)
    (hk : env.scope.kind = .function := by rfl) (hl : env.kindOf x = some .local := by rfl) (hd : (x == ("__debug__" : Str)) = false := by decide)
    (hi : interactive env = false := by rfl) (hs : swapsWith (.Call (.Attribute (.Name x p) "append" apos) [e] [] pos) none pos'.line env = pure false := by rfl)
    (hbase : attributeBase (.Name x p) "append" env (eval (.Name x p) env) = eval (.Name x p) env := by rfl)
    (hfew : ((backTo pos (starEach [e] env)).all (fun x => !x.1) && (backToKw pos (keywordEach [] env)).all (fun x => x.1.isSome) && decide ([e].length + ([] : List Keyword).length + (if ([] : List Keyword).isEmpty then 0 else 1) < 30)) = true := by rfl)
    (hline : (apos.endLine == pos.line) = true := by rfl)
    (he : backTo pos (starEach [e] env) = [(false, eval e env)] := by rfl) :
    wpAny (model pw w) A (exec (.Expr (.Call (.Attribute (.Name x p) "append" apos) [e] [] pos) pos') env) Q E s := by
  refine wpAny_Expr ?_ hi hs
  refine wpAny_Call_method (T := "list") (id := "list.append") hbase hfew hline PySem.F.plainAttrs_list PySem.F.slot_list_append PySem.F.type_list_append ?_
  refine e_local F.ns hx ?_ hk hl hd
  refine ⟨⟨_, hD, rfl⟩, fun a ea => ?_, ?_⟩
  · injection ea with ea; subst ea; exact ⟨_, hD, rfl⟩
  rw [he]
  refine PySem.P.append_list (wpAny_mono h (fun v s₁ h₁ => ?_) fun _ _ e => e)
  obtain ⟨k₁, hsz, hq⟩ := h₁
  refine ⟨items₀, n₀, line_le hsz, k₁.get _ _ hD, ?_⟩
  exact hq _ _ ⟨_, rfl, Heap.SameBut.update ..⟩ (IsL.update (k₁.get _ _ hD) _) (fun a e => nomatch e)
end
end Mine
end
section
open PySem PySem.W PySem.Calls PyProof.Rows
set_option maxRecDepth 100000
set_option Elab.async false
namespace Mine
def takeZ (os : List Int) (size : Int) : Nat → Nat → Int → Nat × Int
  | 0, t, low => (t, low)
  | f + 1, t, low => if (t : Int) < (if (os.length : Int) < size then (os.length : Int) else size) ∧ 0 < (begZ (os.take (t + 1))).1 then takeZ os size f (t + 1) (begZ (os.take (t + 1))).2 else (t, low)
def stepZ (os : List Int) : Int × Nat :=
  (if ((takeZ os (begZ (os.take 1)).1 4 1 (begZ (os.take 1)).2).1 : Int) = (begZ (os.take 1)).1 then (takeZ os (begZ (os.take 1)).1 4 1 (begZ (os.take 1)).2).2 else 65533, (takeZ os (begZ (os.take 1)).1 4 1 (begZ (os.take 1)).2).1)
def readF : Nat → List Int → List Int
  | 0, _ => []
  | n + 1, os => if os = [] then [] else (stepZ os).1 :: readF n (os.drop (stepZ os).2)
def readZ (os : List Int) : List Int := readF os.length os
theorem takeZ_ge (os : List Int) (size : Int) : ∀ f t low, t ≤ (takeZ os size f t low).1
  | 0, t, low => Nat.le_refl _
  | f + 1, t, low => by
    rw [takeZ]
    by_cases hc : (t : Int) < (if (os.length : Int) < size then (os.length : Int) else size) ∧ 0 < (begZ (os.take (t + 1))).1
    · rw [if_pos hc]; exact Nat.le_trans (Nat.le_succ _) (takeZ_ge os size f _ _)
    · rw [if_neg hc]; exact Nat.le_refl _
theorem stepZ_pos (os : List Int) : 1 ≤ (stepZ os).2 := takeZ_ge _ _ _ _ _
theorem readF_nil : ∀ n, readF n [] = []
  | 0 => rfl
  | _ + 1 => rfl
theorem beg1_size (c : Int) : (begZ [c]).1 = 0 ∨ ((begZ [c]).1 = kindZ c + 2 ∧ 192 ≤ c ∧ c ≤ 247) := by
  rw [begZ_cons]
  split
  · exact .inl rfl
  · split
    · exact .inl rfl
    · split
      · exact .inl rfl
      · split
        · exact .inl rfl
        · exact .inr ⟨rfl, by omega, by omega⟩
theorem isL_ne {h : Heap} {D L : Addr} {items : Array Value} {n : Nat} {m : Str → Option Value} (x : IsL h D items n) (hn : h.Ns L m) : L ≠ D := by
  rintro rfl
  obtain ⟨o, es, ep, ho, hd, _⟩ := hn
  have e : some o = some _ := ho.symm.trans x
  injection e with e
  subst e
  cases hd

/-- the body of a while that is the second statement -/
def whBody (l : List Stmt) : List Stmt := match l with
  | _ :: Stmt.While _ b _ _ :: _ => b
  | _ => []
/-- the frame of _law_read -/
structure RF (s₀ : Shared) (L D : Addr) (m : Str → Option Value) (s : Shared) (v : Value) (os done : List Int) : Prop where
  F : Fm s₀ L m s
  to : m "told" = some (.ref D)
  oc : m "octets" = some v
  il : IL s.heap v os
  dl : ∃ items n, IsL s.heap D items n ∧ IntsAre items.toList done
  hD : s₀.heap.get? D = none
  hv : v ≠ .ref D
theorem RF.k {s₀ s s' : Shared} {L D : Addr} {m : Str → Option Value} {v : Value} {os done : List Int} (x : RF s₀ L D m s v os done) (k : Kp s s') : RF s₀ L D m s' v os done :=
  ⟨x.F.k k, x.to, x.oc, x.il.k k, let ⟨i, n, a, b⟩ := x.dl; ⟨i, n, k.get _ _ a, b⟩, x.hD, x.hv⟩
theorem RF.st {s₀ s s' : Shared} {L D : Addr} {m m' : Str → Option Value} {v : Value} {os done : List Int} (x : RF s₀ L D m s v os done) (F : Fm s₀ L m' s') (k : St L s s') (h1 : m' "told" = m "told") (h2 : m' "octets" = m "octets") : RF s₀ L D m' s' v os done :=
  ⟨F, h1.trans x.to, h2.trans x.oc, x.il.st x.F.ns k, let ⟨i, n, a, b⟩ := x.dl; ⟨i, n, k _ _ (Ne.symm (isL_ne a x.F.ns)) a, b⟩, x.hD, x.hv⟩

section
variable {w : World} {mean : ExcName → Option Value} {mg mb : Str → Option Value} {A : Around} {E : Value → Shared → Prop} {s : Shared} {Q : Value → Shared → Prop}
theorem read_call {v : Value} {os : List Int} (G : G0 w mean mg mb s.heap) (hA : AOk A 2) (hv : IL s.heap v os) (hlen : os.length ≤ 100)
    (h : ∀ a s', Kp s s' → s.heap.get? a = none → IL s'.heap (.ref a) (readZ os) → Q (.ref a) s') : wpAny (model pw w) A (call (.ref 79) [v]) Q E s := by
  refine callDef (d := dOf 11) (binds := [("octets", v)]) G hA (by rw [recs_eq]; simp) G.m_read (fun _ _ _ => rfl) (fun cd s₁ F => ?_)
  have hA' := hA.deeper (envOf (dOf 11).name (dOf 11).scope s.heap.objs.size 79 cd)
  -- told = []
  refine wpAny_execs_cons ?_
  refine s_assign F ?_
  refine List_ ?_
  refine e_nil ?_
  refine newL (fun D s₂ k₂ hDn hL => ⟨k₂, fun s₃ F3 st3 => ?_⟩) (Nat.zero_le _)
  have hDs : s.heap.get? D = none := by
    cases e : s.heap.get? D with
    | none => rfl
    | some o => have := F.kp.get _ _ e; rw [hDn] at this; cases this
  have R3 : RF s s.heap.objs.size D (fun y => if y = "told" then some (.ref D) else [(("octets" : Str), v)].reverse.lookup y) s₃ v os [] := by
      refine ⟨F3, rfl, rfl, hv.k F3.kp, ⟨#[], 0, st3 _ _ (Ne.symm (isL_ne hL (F.k k₂).ns)) hL, .nil⟩, hDs, ?_⟩
      rintro rfl
      obtain ⟨a, vs, n, e, hl, _⟩ := hv
      injection e with e
      subst e
      have hl' : s.heap.get? D = some _ := hl
      rw [hDs] at hl'; cases hl'
  clear F3 st3
  dsimp only
  refine wpAny_execs_cons ?_
  refine s_while (fun k s' => ∃ m v' os' done, RF s s.heap.objs.size D m s' v' os' done ∧ os'.length ≤ k ∧ done ++ readF k os' = readZ os ∧ done.length + os'.length ≤ 100) os.length ⟨_, v, os, [], R3, Nat.le_refl _, rfl, by simpa using hlen⟩ ?_
  rintro k s₄ E' ⟨m, v', os', done, R4, hk, hdone, hsz⟩
  -- octets != []
  refine wpAny_isTrue_Compare1 ?_
  refine e_local R4.F.ns R4.oc ?_
  refine List_ ?_
  refine e_nil ?_
  refine newL (fun a₅ s₅ k₅ _ hL₅ => ?_) (Nat.zero_le _)
  refine o_ne hA' (R4.il.k k₅) ⟨a₅, _, _, rfl, hL₅, .nil⟩ ?_
  refine wpAny_truthy_bool ?_
  have R5 := R4.k k₅
  cases os' with
  | nil =>
    -- the end
    simp only [decide_true, Bool.not_true, Bool.false_eq_true, if_false]
    refine wpAny_execs_cons ?_
    refine wpAny_Return_some ?_
    refine e_local R5.F.ns R5.to ?_
    refine ⟨_, rfl, h _ _ R5.F.kp hDs ?_⟩
    obtain ⟨items, n, hl, hi⟩ := R5.dl
    rw [readF_nil, List.append_nil] at hdone
    exact ⟨D, items, n, rfl, hl, by rw [← hdone]; exact hi⟩
  | cons c r =>
    simp only [reduceCtorEq, decide_false, Bool.not_false, if_true]
    obtain ⟨k', rfl⟩ : ∃ k', k = k' + 1 := ⟨k - 1, by simp only [List.length_cons] at hk; omega⟩
    simp only [List.length_cons] at hsz hk
    -- taken = 1
    refine wpAny_execs_cons ?_
    refine s_assign R5.F ?_
    refine e_int fun t₆ s₆ k₆ => ⟨k₆, fun s₇ F7 st7 => ?_⟩
    have R7 := (R5.k k₆).st F7 st7 rfl rfl
    clear F7 st7
    dsimp only
    -- size, low = _law_begun(octets[:1])
    have G7 := G.k R7.F.kp
    refine wpAny_execs_cons ?_
    refine s_two hA'.handled R7.F ?_
    refine e_fn1 (d := dOf 10) G7 (by rw [recs_eq]; simp) G.m_begun (fun Q' hq => e_global G7 G.m_begun hq) ?_
    refine e_slice (List.take 1) ?_
    refine e_local R7.F.ns R7.oc ?_
    refine wpAny_evalPart_none ?_
    refine wpAny_evalPart_some ?_
    refine e_int fun t₈ s₈ k₈ => ?_
    refine ⟨c :: r, none, some ((1 : Nat) : Int), R7.il.k k₈, by simp only [List.length_cons]; omega, .none, .int _ _, pick_upto 1, fun a₉ s₉ k₉ _ hl₉ => ⟨k₈.trans k₉, ?_⟩⟩
    have hl₉' : IL s₉.heap (.ref a₉) (c :: []) := hl₉
    refine begun_call (G7.k (k₈.trans k₉)) hA' hl₉' (Nat.zero_le _) (fun _ _ => by have := kindZ_b c; show (0 : Int) + 1 ≤ _; omega) fun x₁₀ s₁₀ k₁₀ hp₁₀ => ?_
    refine ⟨_, _, (k₈.trans k₉).trans k₁₀, hp₁₀, fun ta tb s₁₁ F11 st11 => ?_⟩
    have R11 := (R7.k ((k₈.trans k₉).trans k₁₀)).st F11 st11 rfl rfl
    clear F11 st11
    generalize hsize : (begZ [c]).1 = size at R11
    generalize hlow : (begZ [c]).2 = low at R11
    have hsz1 := beg1_size c
    rw [hsize] at hsz1
    have hkb := kindZ_b c
    dsimp only
    -- the inner loop
    refine wpAny_execs_cons ?_
    refine s_while (fun f s' => ∃ m tk lw ttk tlw tsz, RF s s.heap.objs.size D m s' v' (c :: r) done ∧ m "taken" = some (.int (tk : Nat) ttk) ∧ m "low" = some (.int lw tlw) ∧ m "size" = some (.int size tsz) ∧ tk + f = 5 ∧
      takeZ (c :: r) size f tk lw = takeZ (c :: r) size 4 1 low) 4 ⟨_, 1, low, _, _, _, R11, rfl, rfl, rfl, rfl, rfl⟩ ?_
    rintro f s₁₂ E'' ⟨m₁₂, tk, lw, ttk, tlw, tsz, R12, ft, fl, fs, hf, hres⟩
    have G12 := G.k R12.F.kp
    -- what lies behind the inner loop
    have behind : ∀ {s₂₀ : Shared}, RF s s.heap.objs.size D m₁₂ s₂₀ v' (c :: r) done → (tk, lw) = takeZ (c :: r) size 4 1 low →
        wpAny (model pw w) (A.deeper (envOf (dOf 11).name (dOf 11).scope s.heap.objs.size 79 cd)) (execs ((whBody ((dOf 11).body)).drop 3) (envOf (dOf 11).name (dOf 11).scope s.heap.objs.size 79 cd))
          (fun fl s₃ => match fl with
            | .next | .cont => ∃ m', m' < k' + 1 ∧ ∃ m v' os' done, RF s s.heap.objs.size D m s₃ v' os' done ∧ os'.length ≤ m' ∧ done ++ readF m' os' = readZ os ∧ done.length + os'.length ≤ 100
            | .brk => wpAny (model pw w) (A.deeper (envOf (dOf 11).name (dOf 11).scope s.heap.objs.size 79 cd)) (execs ((dOf 11).body.drop 2) (envOf (dOf 11).name (dOf 11).scope s.heap.objs.size 79 cd)) (fun f s' => ∃ v, f = .ret v ∧ Q v s') (fun _ _ => False) s₃
            | .ret v => ∃ v₁, Flow.ret v = .ret v₁ ∧ Q v₁ s₃) E' s₂₀ := by
      intro s₂₀ R20 heq
      have hst : stepZ (c :: r) = (if (tk : Int) = size then lw else 65533, tk) := by
        unfold stepZ
        rw [show (c :: r).take 1 = [c] from rfl, hsize, hlow, ← heq]
      have htk : 1 ≤ tk := by have := stepZ_pos (c :: r); rw [hst] at this; exact this
      obtain ⟨items, n, hlD, hiD⟩ := R20.dl
      have happ : ∀ {z : Int} {tz : Tok} {s₂₁ s₂₂ : Shared} {n' : Nat}, z = (if (tk : Int) = size then lw else 65533) → Kp s₂₀ s₂₁ → Upd D s₂₁ s₂₂ → IsL s₂₂.heap D (items.push (.int z tz)) n' →
          wpAny (model pw w) (A.deeper (envOf (dOf 11).name (dOf 11).scope s.heap.objs.size 79 cd)) (execs ((whBody ((dOf 11).body)).drop 4) (envOf (dOf 11).name (dOf 11).scope s.heap.objs.size 79 cd))
            (fun fl s₃ => match fl with
              | .next | .cont => ∃ m', m' < k' + 1 ∧ ∃ m v' os' done, RF s s.heap.objs.size D m s₃ v' os' done ∧ os'.length ≤ m' ∧ done ++ readF m' os' = readZ os ∧ done.length + os'.length ≤ 100
              | .brk => wpAny (model pw w) (A.deeper (envOf (dOf 11).name (dOf 11).scope s.heap.objs.size 79 cd)) (execs ((dOf 11).body.drop 2) (envOf (dOf 11).name (dOf 11).scope s.heap.objs.size 79 cd)) (fun f s' => ∃ v, f = .ret v ∧ Q v s') (fun _ _ => False) s₃
              | .ret v => ∃ v₁, Flow.ret v = .ret v₁ ∧ Q v₁ s₃) E' s₂₂ := by
        intro z tz s₂₁ s₂₂ n' hz k₂₁ u₂₂ hl₂₂
        have R21 := R20.k k₂₁
        have F22 : Fm s s.heap.objs.size m₁₂ s₂₂ := u₂₂.fm R21.F R21.hD (isL_ne (k₂₁.get _ _ hlD) R21.F.ns)
        refine wpAny_execs_cons ?_
        refine s_assign F22 ?_
        refine e_slice (List.drop tk) ?_
        refine e_local F22.ns R20.oc ?_
        refine wpAny_evalPart_some ?_
        refine e_local F22.ns ft ?_
        refine wpAny_evalPart_none ?_
        refine ⟨c :: r, some (tk : Int), none, R21.il.upd u₂₂ R21.hv, by simp only [List.length_cons]; omega, .int _ _, .none, pick_from tk, fun a₂₃ s₂₃ k₂₃ hn₂₃ hl₂₃ => ⟨k₂₃, fun s₂₄ F24 st24 => ?_⟩⟩
        refine wpAny_execs_nil ⟨k', Nat.lt_succ_self _, _, .ref a₂₃, (c :: r).drop tk, done ++ [z], ⟨F24, ?_, if_pos rfl, hl₂₃.st (F22.k k₂₃).ns st24, ⟨items.push (.int z tz), n', ?_, ?_⟩, hDs, ?_⟩, ?_, ?_, ?_⟩
        · exact (if_neg (by decide)).trans R20.to
        · exact st24 _ _ (Ne.symm (isL_ne (k₂₃.get _ _ hl₂₂) (F22.k k₂₃).ns)) (k₂₃.get _ _ hl₂₂)
        · rw [Array.toList_push]; exact PyProof.Rows.IntsAre.append hiD (.cons _ _ .nil)
        · intro e; injection e with e; subst e; have hl' : s₂₂.heap.get? a₂₃ = some _ := hl₂₂; rw [hn₂₃] at hl'; cases hl'
        · rw [List.length_drop]; simp only [List.length_cons]; omega
        · rw [← hdone, readF, if_neg (by simp), hst, ← hz, List.append_assoc]; rfl
        · rw [List.length_append, List.length_drop]; simp only [List.length_cons, List.length_nil]; omega
      refine wpAny_execs_cons ?_
      refine s_append R20.F R20.to hlD ?_
      refine wpAny_IfExp ?_
      refine wpAny_isTrue_Compare1 ?_
      refine e_local R20.F.ns ft ?_
      refine e_local R20.F.ns fs ?_
      refine PyProof.Rows.eq_int ?_
      refine wpAny_truthy_bool ?_
      have hil : items.size ≤ 1000 := by rw [IntsAre.size hiD]; omega
      refine split_bool (fun he => ?_) (fun he => ?_)
      · refine e_local R20.F.ns fl ?_
        refine ⟨Kp.rfl _, hil, fun s₂₂ n' u₂₂ hl₂₂ _ => happ ?_ (Kp.rfl _) u₂₂ hl₂₂⟩
        rw [if_pos (by simpa using he)]
      · refine e_int fun t₂₁ s₂₁ k₂₁ => ?_
        refine ⟨k₂₁, hil, fun s₂₂ n' u₂₂ hl₂₂ _ => happ ?_ k₂₁ u₂₂ hl₂₂⟩
        rw [if_neg (by simpa using he)]
    -- the inner test
    refine t_and ?_
    refine wpAny_isTrue_Compare1 ?_
    refine e_local R12.F.ns ft ?_
    refine e_call2 (id := "min") (fun Q' hq => e_builtin G12 boot_min hq G.n_min) ?_
    refine e_local R12.F.ns fs ?_
    refine e_call1 (id := "len") (fun Q' hq => e_builtin G12 boot_len hq G.n_len) ?_
    refine e_local R12.F.ns R12.oc ?_
    refine o_len R12.il (by simp only [List.length_cons]; omega) fun t₁₃ s₁₃ k₁₃ => ?_
    refine o_min hA'.handled fun t₁₄ s₁₄ k₁₄ => ?_
    refine PyProof.Rows.lt_int ?_
    refine wpAny_truthy_bool ?_
    have R14 := R12.k (k₁₃.trans k₁₄)
    refine split_dec (fun h1 => ?_) (fun h1 => ?_)
    · -- taken below: look at one more
      have hlt : (tk : Int) < size := by
        have h1' := h1
        split at h1' <;> omega
      have hsz2 : size = kindZ c + 2 ∧ 192 ≤ c ∧ c ≤ 247 := by
        rcases hsz1 with e | e
        · omega
        · exact e
      obtain ⟨f', rfl⟩ : ∃ f', f = f' + 1 := ⟨f - 1, by omega⟩
      have G14 := G.k R14.F.kp
      refine wpAny_isTrue_Compare1 ?_
      refine Subscript_ ?_
      refine e_fn1 (d := dOf 10) G14 (by rw [recs_eq]; simp) G.m_begun (fun Q' hq => e_global G14 G.m_begun hq) ?_
      refine e_slice (List.take (tk + 1)) ?_
      refine e_local R14.F.ns R14.oc ?_
      refine wpAny_evalPart_none ?_
      refine wpAny_evalPart_some ?_
      refine wpAny_BinOp ?_
      refine e_local R14.F.ns ft ?_
      refine e_int fun t₁₅ s₁₅ k₁₅ => ?_
      refine o_add fun t₁₆ s₁₆ k₁₆ => ?_
      have k1516 := k₁₅.trans k₁₆
      refine ⟨c :: r, none, some ((tk + 1 : Nat) : Int), R14.il.k k1516, by simp only [List.length_cons]; omega, .none, .int _ _, pick_upto (tk + 1), fun a₁₇ s₁₇ k₁₇ _ hl₁₇ => ⟨k1516.trans k₁₇, ?_⟩⟩
      have hl₁₇' : IL s₁₇.heap (.ref a₁₇) (c :: r.take tk) := hl₁₇
      have hlen' : (r.take tk).length ≤ tk := by rw [List.length_take]; exact Nat.min_le_left _ _
      refine begun_call (G14.k (k1516.trans k₁₇)) hA' hl₁₇' (by omega) (fun _ _ => by omega) fun x₁₈ s₁₈ k₁₈ hp₁₈ => ?_
      refine e_int fun t₁₉ s₁₉ k₁₉ => ?_
      refine e_fst (hp₁₈.k k₁₉) fun t₂₀ => ?_
      refine e_int fun t₂₁ s₂₁ k₂₁ => ?_
      refine PyProof.Rows.gt_int ?_
      refine wpAny_truthy_bool ?_
      have k1521 := (k1516.trans k₁₇).trans (k₁₈.trans (k₁₉.trans k₂₁))
      have R21 := R14.k k1521
      have etake : (c :: r).take (tk + 1) = c :: r.take tk := rfl
      refine split_dec (fun h2 => ?_) (fun h2 => ?_)
      · -- one more is taken
        have hgo : takeZ (c :: r) size (f' + 1) tk lw = takeZ (c :: r) size f' (tk + 1) (begZ (c :: r.take tk)).2 := by
          rw [takeZ, if_pos ⟨h1, by rw [etake]; exact h2⟩, etake]
        refine wpAny_execs_cons ?_
        refine s_assign R21.F ?_
        refine wpAny_BinOp ?_
        refine e_local R21.F.ns ft ?_
        refine e_int fun t₂₂ s₂₂ k₂₂ => ?_
        refine o_add fun t₂₃ s₂₃ k₂₃ => ⟨k₂₂.trans k₂₃, fun s₂₄ F24 st24 => ?_⟩
        have R24 := (R21.k (k₂₂.trans k₂₃)).st F24 st24 rfl rfl
        clear F24 st24
        dsimp only
        have G24 := G.k R24.F.kp
        refine wpAny_execs_cons ?_
        refine s_assign R24.F ?_
        refine Subscript_ ?_
        refine e_fn1 (d := dOf 10) G24 (by rw [recs_eq]; simp) G.m_begun (fun Q' hq => e_global G24 G.m_begun hq) ?_
        refine e_slice (List.take (tk + 1)) ?_
        refine e_local R24.F.ns R24.oc ?_
        refine wpAny_evalPart_none ?_
        refine wpAny_evalPart_some ?_
        refine e_local R24.F.ns (if_pos rfl) ?_
        refine ⟨c :: r, none, some ((tk + 1 : Nat) : Int), R24.il, by simp only [List.length_cons]; omega, .none, .int _ _, pick_upto (tk + 1), fun a₂₅ s₂₅ k₂₅ _ hl₂₅ => ⟨k₂₅, ?_⟩⟩
        have hl₂₅' : IL s₂₅.heap (.ref a₂₅) (c :: r.take tk) := hl₂₅
        refine begun_call (G24.k k₂₅) hA' hl₂₅' (by omega) (fun _ _ => by omega) fun x₂₆ s₂₆ k₂₆ hp₂₆ => ?_
        refine e_int fun t₂₇ s₂₇ k₂₇ => ?_
        refine e_snd (hp₂₆.k k₂₇) fun t₂₈ => ⟨k₂₅.trans (k₂₆.trans k₂₇), fun s₂₉ F29 st29 => ?_⟩
        have R29 := (R24.k (k₂₅.trans (k₂₆.trans k₂₇))).st F29 st29 rfl rfl
        refine wpAny_execs_nil ⟨f', Nat.lt_succ_self _, _, tk + 1, (begZ (c :: r.take tk)).2, _, _, _, R29, (if_neg (by decide)).trans (if_pos rfl), if_pos rfl, (if_neg (by decide)).trans ((if_neg (by decide)).trans fs), by omega, ?_⟩
        rw [← hres, hgo]
      · refine behind R21 ?_
        rw [← hres, takeZ, if_neg (fun x => h2 (by have := x.2; rw [etake] at this; exact this))]
    · refine behind R14 ?_
      cases f with
      | zero => rw [← hres, takeZ]
      | succ f' => rw [← hres, takeZ, if_neg (fun x => h1 x.1)]
end
end Mine
end
section
open PySem PySem.W PySem.Calls PyProof.Rows
set_option maxRecDepth 100000
set_option Elab.async false
namespace Mine
def Ext (h h' : Heap) : Prop := ∀ b o, h.get? b = some o → h'.get? b = some o
section
variable {w : World} {A : Around} {E : Value → Shared → Prop} {s : Shared} {env : Env} {Q : Value → Shared → Prop}
/-- the tests of a comprehension -/
abbrev tests (ifs : List Expr) (env : Env) : Sem Bool := forIn ifs true fun c r => if r = true then do let ok ← isTrue c env (eval c env); pure (ForInStep.yield ok) else pure (ForInStep.yield r)
theorem fresh_size (h : Heap) : h.get? h.objs.size = none := by
  cases e : h.get? h.objs.size with
  | none => rfl
  | some o => exact absurd (Heap.lt_size e) (Nat.lt_irrefl _)
theorem not_mem_one {a b : Addr} (h : a ≠ b) : a ∉ [b] := fun hm => h (List.mem_singleton.mp hm)
theorem e_compL {elt iter : Expr} {x : Str} {px : Pos} {ifs : List Expr} {scope : Scope} {cl : List (Str × Addr)} {pos : Pos} (p : Value → Bool) (Fv : Value → Value → Prop) (hh : A.handled = none)
    (h : wpAny (model pw w) A (eval iter env) (fun v s₁ => ∃ ax items n, v = .ref ax ∧ IsL s₁.heap ax items n ∧ items.size ≤ 1000 ∧
      (∀ C v s₃ m₃ E', v ∈ items.toList → s₃.heap.Ns C m₃ → m₃ x = some v → Ext s₁.heap s₃.heap → wpAny (model pw w) A (tests ifs (compEnvC scope cl C env)) (fun ok s₄ => ok = p v ∧ Kp s₃ s₄) E' s₃) ∧
      (∀ C v s₃ m₃ E', v ∈ items.toList → p v = true → s₃.heap.Ns C m₃ → m₃ x = some v → Ext s₁.heap s₃.heap → wpAny (model pw w) A (eval elt (compEnvC scope cl C env)) (fun y s₄ => Fv v y ∧ Kp s₃ s₄) E' s₃) ∧
      (∀ D s' ys n, Kp s₁ s' → s₁.heap.get? D = none → IsL s'.heap D ys n → Paired Fv (items.toList.filter p) ys.toList → Q (.ref D) s')) E s)
    (hclos : closureFor scope env = pure cl := by rfl) (hcell : (scope.names.all fun y => y.2 != .cell) = true := by rfl) (hkind : scope.kind = .function := by rfl)
    (hnames : (scope.names.all fun y => y.2 != .local || scope.names.lookup y.1 == some .local) = true := by rfl) (hx : scope.names.lookup x = some .local := by rfl)
    (hs : ∀ x, foldedSetIterable iter env x = pure x := by intro _; rfl) :
    wpAny (model pw w) A (eval (.ListComp elt [⟨.Name x px, iter, ifs, 0⟩] scope pos) env) Q E s := by
  refine wpAny_ListComp_free p Fv hclos (fun y hy => by simpa using List.all_eq_true.mp hcell y hy) hkind (fun y hy hl => by
      have := List.all_eq_true.mp hnames y hy
      rw [hl] at this
      simpa using this) hx (wpAny_mono h (fun v s₁ h₁ => ?_) fun _ _ e => e) hs
  obtain ⟨ax, items, n, rfl, hL, hsz, htest, helt, hQ⟩ := h₁
  refine wpAny_pyIter_list hL.isList ?_
  have hfr := fresh_size s₁.heap
  have hax : ax ≠ s₁.heap.objs.size := by
    intro e
    have hl : s₁.heap.get? ax = some _ := hL
    rw [e, hfr] at hl; cases hl
  refine ⟨s₁.heap.objs.size, [s₁.heap.objs.size, ax], [s₁.heap.objs.size], items.size, (fun i v => items[i]? = some v), _, rfl, Walks.list hh _ ax hax items, line_le hsz, ⟨⟨_, Heap.get?_push_size _ rfl, rfl, rfl⟩, (hL.push _).isList⟩, ?_, ⟨?_, ?_⟩, ?_⟩
  · intro b hb
    show b < (s₁.heap.push _).objs.size
    rw [Heap.size_push]
    rcases List.mem_cons.mp hb with rfl | hb
    · exact Nat.lt_succ_self _
    · rw [List.mem_singleton.mp hb]
      exact Nat.lt_succ_of_lt (Heap.lt_size hL)
  · intro C i v s₃ m₃ E' _ hP hn hm hold _
    refine htest C v s₃ m₃ E' ?_ hn hm fun b o e => hold b o (not_mem_one (Nat.ne_of_lt (Heap.lt_size e))) (Heap.get?_push_of_some _ e)
    exact Array.mem_toList_iff.mpr (Array.mem_of_getElem? hP)
  · intro C i v s₃ m₃ E' _ hP hp hn hm hold _
    refine helt C v s₃ m₃ E' ?_ hp hn hm fun b o e => hold b o (not_mem_one (Nat.ne_of_lt (Heap.lt_size e))) (Heap.get?_push_of_some _ e)
    exact Array.mem_toList_iff.mpr (Array.mem_of_getElem? hP)
  · intro D h' tk ys vs hnew hlD hpl hlen hP hF hk
    rw [list_of_places hlen hP] at hF
    obtain ⟨n', hn'⟩ := hpl
    refine hQ D _ ys n' (Kp.mk fun b o e => hk b o (not_mem_one (Nat.ne_of_lt (Heap.lt_size e))) (Heap.get?_push_of_some _ e)) ?_ hn' hF
    cases e : s₁.heap.get? D with
    | none => rfl
    | some o' => rw [Heap.get?_push_of_some _ e] at hnew; cases hnew
/-- a comprehension over a text -/
theorem e_compS {elt iter : Expr} {x : Str} {px : Pos} {ifs : List Expr} {scope : Scope} {cl : List (Str × Addr)} {pos : Pos} (p : Nat → Bool) (Fv : Nat → Value → Prop) (hh : A.handled = none)
    (h : wpAny (model pw w) A (eval iter env) (fun v s₁ => ∃ (y : Str) (t : Tok), v = .str y t ∧ y.cps.size ≤ 1000 ∧
      (∀ C (c : Nat) u s₃ m₃ E', c ∈ y.cps.toList → s₃.heap.Ns C m₃ → m₃ x = some (.str ⟨#[c]⟩ u) → Ext s₁.heap s₃.heap → wpAny (model pw w) A (tests ifs (compEnvC scope cl C env)) (fun ok s₄ => ok = p c ∧ Kp s₃ s₄) E' s₃) ∧
      (∀ C (c : Nat) u s₃ m₃ E', c ∈ y.cps.toList → p c = true → s₃.heap.Ns C m₃ → m₃ x = some (.str ⟨#[c]⟩ u) → Ext s₁.heap s₃.heap → wpAny (model pw w) A (eval elt (compEnvC scope cl C env)) (fun r s₄ => Fv c r ∧ Kp s₃ s₄) E' s₃) ∧
      (∀ D s' ys n, Kp s₁ s' → s₁.heap.get? D = none → IsL s'.heap D ys n → Paired Fv (y.cps.toList.filter p) ys.toList → Q (.ref D) s')) E s)
    (hclos : closureFor scope env = pure cl := by rfl) (hcell : (scope.names.all fun y => y.2 != .cell) = true := by rfl) (hkind : scope.kind = .function := by rfl)
    (hnames : (scope.names.all fun y => y.2 != .local || scope.names.lookup y.1 == some .local) = true := by rfl) (hx : scope.names.lookup x = some .local := by rfl)
    (hs : ∀ x, foldedSetIterable iter env x = pure x := by intro _; rfl) :
    wpAny (model pw w) A (eval (.ListComp elt [⟨.Name x px, iter, ifs, 0⟩] scope pos) env) Q E s := by
  refine wpAny_ListComp_free (fun v => match v with | .str z _ => p (z.cps.getD 0 0) | _ => false) (fun v r => ∃ c u, v = Value.str ⟨#[c]⟩ u ∧ Fv c r) hclos (fun y hy => by simpa using List.all_eq_true.mp hcell y hy) hkind (fun y hy hl => by
      have := List.all_eq_true.mp hnames y hy
      rw [hl] at this
      simpa using this) hx (wpAny_mono h (fun v s₁ h₁ => ?_) fun _ _ e => e) hs
  obtain ⟨y, t, rfl, hsz, htest, helt, hQ⟩ := h₁
  refine wpAny_pyIter_str fun o St W hst => ?_
  have hfr := fresh_size s₁.heap
  refine ⟨s₁.heap.objs.size, [s₁.heap.objs.size], [s₁.heap.objs.size], y.cps.size, SignAt y, St, rfl, W A hh, line_le hsz, hst, ?_, ⟨?_, ?_⟩, ?_⟩
  · intro b hb
    show b < (s₁.heap.push _).objs.size
    rw [Heap.size_push, List.mem_singleton.mp hb]
    exact Nat.lt_succ_self _
  · rintro C i v s₃ m₃ E' _ ⟨c, u, hc, rfl⟩ hn hm hold _
    exact htest C c u s₃ m₃ E' (Array.mem_toList_iff.mpr (Array.mem_of_getElem? hc)) hn hm fun b o e => hold b o (not_mem_one (Nat.ne_of_lt (Heap.lt_size e))) (Heap.get?_push_of_some _ e)
  · rintro C i v s₃ m₃ E' _ ⟨c, u, hc, rfl⟩ hp hn hm hold _
    refine wpAny_mono (helt C c u s₃ m₃ E' (Array.mem_toList_iff.mpr (Array.mem_of_getElem? hc)) hp hn hm fun b o e => hold b o (not_mem_one (Nat.ne_of_lt (Heap.lt_size e))) (Heap.get?_push_of_some _ e)) (fun r s₄ h₄ => ⟨⟨c, u, rfl, h₄.1⟩, h₄.2⟩) fun _ _ e => e
  · intro D h' tk ys vs hnew hlD hpl hlen hP hF hk
    obtain ⟨n', hn'⟩ := hpl
    refine hQ D _ ys n' (Kp.mk fun b o e => hk b o (not_mem_one (Nat.ne_of_lt (Heap.lt_size e))) (Heap.get?_push_of_some _ e)) ?_ hn' ?_
    · cases e : s₁.heap.get? D with
      | none => rfl
      | some o' => rw [Heap.get?_push_of_some _ e] at hnew; cases hnew
    · -- the signs are the text's
      have key : ∀ (cs : List Nat) (vs : List Value) (zs : List Value), vs.length = cs.length → (∀ (j : Nat) (v : Value), vs[j]? = some v → ∃ (u : Tok) (c : Nat), cs[j]? = some c ∧ v = Value.str ⟨#[c]⟩ u) →
          Paired (fun v r => ∃ c u, v = Value.str ⟨#[c]⟩ u ∧ Fv c r) (vs.filter (fun v => match v with | .str z _ => p (z.cps.getD 0 0) | _ => false)) zs → Paired Fv (cs.filter p) zs := by
        intro cs
        induction cs with
        | nil =>
          intro vs zs hl _ hF
          obtain rfl : vs = [] := List.length_eq_zero_iff.mp hl
          cases hF; exact .nil
        | cons c cs ih =>
          intro vs zs hl hv hF
          cases vs with
          | nil => cases hl
          | cons v vs =>
            obtain ⟨u, c', hc', rfl⟩ := hv 0 v rfl
            obtain rfl : c = c' := by simpa using hc'
            have ih' := ih vs
            have hv' : ∀ (j : Nat) (v : Value), vs[j]? = some v → ∃ (u : Tok) (c : Nat), cs[j]? = some c ∧ v = Value.str ⟨#[c]⟩ u := fun j v e => hv (j + 1) v (by simpa using e)
            have hl' : vs.length = cs.length := by simpa using hl
            have hpc : (match Value.str ⟨#[c]⟩ u with | .str z _ => p (z.cps.getD 0 0) | _ => false) = p c := rfl
            rw [List.filter_cons, hpc] at hF
            rw [List.filter_cons]
            cases hp : p c with
            | true =>
              rw [hp] at hF
              simp only [if_true] at hF ⊢
              cases hF with
              | cons h1 h2 =>
                obtain ⟨c', u', e, hf⟩ := h1
                injection e with e _
                injection e with e
                have e : c = c' := by simpa using e
                subst e
                exact .cons hf (ih' _ hl' hv' h2)
            | false =>
              rw [hp] at hF
              simp only [Bool.false_eq_true, if_false] at hF ⊢
              exact ih' _ hl' hv' hF
      refine key y.cps.toList vs ys.toList (by simpa using hlen) (fun j v e => ?_) hF
      obtain ⟨c, u, hc, rfl⟩ := hP j v e
      exact ⟨u, c, by simpa using hc, rfl⟩
end
end Mine
end
section
open PySem PySem.W PySem.Calls PyProof.Rows
set_option maxRecDepth 100000
set_option Elab.async false
namespace Mine
def sgn (c : Nat) : Str := ⟨#[c]⟩
def txt (cs : List Nat) : Str := ⟨cs.toArray⟩
theorem fold_signs : ∀ (cs : List Nat) (acc : Array Nat), List.foldl (fun acc p => acc ++ (Str.ofString "").cps ++ Str.cps p) acc (cs.map sgn) = acc ++ cs.toArray
  | [], acc => by simp
  | c :: r, acc => by
    rw [List.map_cons, List.foldl_cons, fold_signs r]
    have e : (Str.ofString "").cps = #[] := by decide +kernel
    rw [e]
    apply Array.toList_inj.mp
    simp [sgn]
theorem join_signs (cs : List Nat) : Txt.join (Str.ofString "") (cs.map sgn) = txt cs := by
  cases cs with
  | nil => rfl
  | cons c r =>
    show (⟨List.foldl (fun acc p => acc ++ (Str.ofString "").cps ++ Str.cps p) (sgn c).cps (r.map sgn)⟩ : Str) = _
    rw [fold_signs]
    show (⟨_⟩ : Str) = ⟨_⟩
    congr 1
    apply Array.toList_inj.mp
    simp [sgn]
theorem foldl_len (e : Str) (he : e.length = 0) : ∀ (l : List Str) (k : Nat), List.foldl (fun a b => a + b.length + e.length) k l = k + (l.map (·.length)).sum
  | [], k => by simp
  | x :: r, k => by rw [List.foldl_cons, foldl_len e he r, List.map_cons, List.sum_cons, he]; omega
theorem joinOk_signs {cs : List Nat} (h : cs.length ≤ 1000) : JoinOk (Str.ofString "") (cs.map sgn) = true := by
  unfold JoinOk
  rw [← Array.foldl_toList, List.toList_toArray, foldl_len _ (by decide +kernel)]
  have : ∀ cs : List Nat, ((cs.map sgn).map (·.length)).sum = cs.length := by
    intro cs
    induction cs with
    | nil => rfl
    | cons c r ih => rw [List.map_cons, List.map_cons, List.sum_cons, ih, List.length_cons]; show 1 + _ = _; omega
  rw [this, Nat.zero_add]
  show (!decide (cs.length > sizeLine)) = true
  rw [decide_eq_false (Nat.not_lt.mpr (line_le h))]; rfl
theorem paired_signs {p : Nat → Bool} : ∀ {cs : List Nat} {ys : List Value}, Paired (fun c y => IsStr y (sgn c)) cs ys → ∃ l : List (Str × Tok), strValues l = ys ∧ l.map (·.1) = cs.map sgn
  | _, _, .nil => ⟨[], rfl, rfl⟩
  | _, _, .cons ⟨t, e⟩ r => by
    obtain ⟨l, h1, h2⟩ := paired_signs (p := p) r
    exact ⟨(_, t) :: l, by rw [e, ← h1]; rfl, by rw [List.map_cons, List.map_cons, h2]; rfl⟩
section
variable {w : World} {mean : ExcName → Option Value} {mg mb : Str → Option Value} {A : Around} {E : Value → Shared → Prop} {s : Shared} {env : Env} {Q : Value → Shared → Prop}
/-- ''.join(..) of signs -/
theorem e_join {e : Expr} {k : Nat} {p0 apos pos : Pos}
    (h : wpAny (model pw w) A (eval e env) (fun v s₁ => ∃ D l cs n, v = .ref D ∧ IsL s₁.heap D (strValues l).toArray n ∧ l.map (·.1) = List.map sgn cs ∧ cs.length ≤ 1000 ∧ ∀ t s₂, Kp s₁ s₂ → Q (.str (txt cs) t) s₂) E { s with toks := s.toks + 1 })
    (hbase : attributeBase (.Constant (.str (Str.ofString "")) k p0) "join" env (eval (.Constant (.str (Str.ofString "")) k p0) env) = eval (.Constant (.str (Str.ofString "")) k p0) env := by rfl)
    (hfew : ((backTo pos (starEach [e] env)).all (fun x => !x.1) && (backToKw pos (keywordEach [] env)).all (fun x => x.1.isSome) && decide ([e].length + ([] : List Keyword).length + (if ([] : List Keyword).isEmpty then 0 else 1) < 30)) = true := by rfl)
    (hline : (apos.endLine == pos.line) = true := by rfl)
    (he : backTo pos (starEach [e] env) = [(false, eval e env)] := by rfl) :
    wpAny (model pw w) A (eval (.Call (.Attribute (.Constant (.str (Str.ofString "")) k p0) "join" apos) [e] [] pos) env) Q E s := by
  refine wpAny_Call_method (T := "str") (id := "str.join") hbase hfew hline F.plainAttrs_str F.slot_str_join F.type_str_join ?_
  refine Constant_str ⟨typeIs_str _ _ _, (fun _ e => nomatch e), ?_⟩
  rw [he]
  refine method1_meets F.slot_str_join F.entry_str_join (wpAny_mono h (fun v s₁ h₁ => ?_) fun _ _ e => e)
  obtain ⟨D, l, cs, n, rfl, hl, hm, hn, hq⟩ := h₁
  have hok := joinOk_signs hn
  rw [← hm] at hok
  unfold JoinOk at hok
  rw [Bool.not_eq_true'] at hok
  refine ⟨typeIs_str _ _ _, F.args_str_join_2 _ _, _, meets_str_join_list _ _ D l hok, hl.isList, post_join l ⟨joinFit_length hok, fun t' k => ?_⟩⟩
  rw [hm, join_signs]
  exact hq _ _ (Kp.tok _ _)

theorem left_call {cs : List Nat} {t : Tok} (G : G0 w mean mg mb s.heap) (hA : AOk A 2) (hsz : cs.length ≤ 1000) (h : ∀ t' s', Kp s s' → Q (.str (txt (cs.filter fun c => !decide ((c : Int) ∈ unseenL))) t') s') :
    wpAny (model pw w) A (call (.ref 89) [.str (txt cs) t]) Q E s := by
  refine callDef (d := dOf 13) (binds := [("text", .str (txt cs) t)]) G hA (by rw [recs_eq]; simp) G.m_left (fun _ _ _ => rfl) (fun cd s₁ F => ?_)
  have hA' := hA.deeper (envOf (dOf 13).name (dOf 13).scope s.heap.objs.size 89 cd)
  have G1 := G.k F.kp
  refine wpAny_execs_cons ?_
  refine wpAny_Return_some ?_
  refine e_join ?_
  have F1 := F.k (Kp.tok s₁ (s₁.toks + 1))
  refine e_compS (cl := []) (fun c => !decide ((c : Int) ∈ unseenL)) (fun c y => IsStr y (sgn c)) hA'.handled ?_
  refine e_local F1.ns rfl ?_
  refine ⟨_, _, rfl, by simpa [txt] using hsz, ?_, ?_, ?_⟩
  · intro C c u s₃ m₃ E' hc hn hm hx
    refine wpAny_tests_one ?_
    refine wpAny_isTrue_Not ?_
    refine wpAny_isTrue_value ?_
    have G3 : G0 w mean mg mb s₃.heap := (G.k F1.kp).keeps hx
    refine e_fn1 (d := dOf 4) G3 (by rw [recs_eq]; simp) G.m_b1 (fun Q' hq => e_global G3 G.m_b1 hq) ?_
    refine e_local hn hm ?_
    refine ⟨Kp.rfl _, ?_⟩
    refine b1_call G3 hA' fun s₄ k₄ => ?_
    refine wpAny_truthy_bool ⟨rfl, k₄⟩
  · intro C c u s₃ m₃ E' hc hp hn hm hx
    refine e_local hn hm ?_
    exact ⟨⟨u, rfl⟩, Kp.rfl _⟩
  · intro D s' ys n k' hD hL hF
    obtain ⟨l, hl, hm⟩ := paired_signs (p := fun _ => true) hF
    refine ⟨D, l, _, n, rfl, by rw [hl]; exact hL, hm, ?_, fun t₂ s₂ k₂ => ⟨_, rfl, ?_⟩⟩
    · exact Nat.le_trans (List.length_filter_le _ _) (by simpa [txt] using hsz)
    · exact h _ _ ((F1.k k').k k₂).kp
end
end Mine
end
section
open PySem PySem.W PySem.Calls PyProof.Rows
set_option maxRecDepth 100000
set_option Elab.async false
namespace Mine
theorem isCell_ne_list {h : Heap} {c D : Addr} {v : Option Value} {items : Array Value} {n : Nat} (x : h.IsCell c v) (y : IsL h D items n) : c ≠ D := by
  rintro rfl
  obtain ⟨o, ho, hd⟩ := x
  have e : some o = some _ := ho.symm.trans y
  injection e with e
  subst e
  cases hd
theorem iter_ne_list {h : Heap} {I D ax : Addr} {i : Nat} {items : Array Value} {n : Nat} (x : h.IsListIter I ax i) (y : IsL h D items n) : D ≠ I := by
  rintro rfl
  obtain ⟨o, ho, hc, hd⟩ := x
  have e : some o = some _ := ho.symm.trans y
  injection e with e
  subst e
  cases hd
theorem iter_ne_cell {h : Heap} {I c ax : Addr} {i : Nat} {v : Option Value} (x : h.IsListIter I ax i) (y : h.IsCell c v) : c ≠ I := by
  rintro rfl
  obtain ⟨o, ho, hc, hd⟩ := x
  obtain ⟨o', ho', hd'⟩ := y
  rw [ho] at ho'
  cases ho'
  rw [hd] at hd'; cases hd'
theorem iter_ne_ns {h : Heap} {I L ax : Addr} {i : Nat} {m : Str → Option Value} (x : h.IsListIter I ax i) (y : h.Ns L m) : L ≠ I := by
  rintro rfl
  obtain ⟨o, ho, hc, hd⟩ := x
  obtain ⟨o', es, ep, ho', hd', _⟩ := y
  rw [ho] at ho'
  cases ho'
  rw [hd] at hd'; cases hd'
theorem IL.iter {s s' : Shared} {I ax : Addr} {i : Nat} {v : Value} {ns : List Int} (x : IL s.heap v ns) (hi : s.heap.IsListIter I ax i) (k : Adv I s s') : IL s'.heap v ns := by
  obtain ⟨a, vs, n, rfl, hL, hI⟩ := x
  exact ⟨a, vs, n, rfl, k.get a _ (iter_ne_list hi hL) hL, hI⟩
theorem IL.at {h h' : Heap} {a : Addr} {ns : List Int} (x : IL h (.ref a) ns) (k : ∀ o, h.get? a = some o → h'.get? a = some o) : IL h' (.ref a) ns := by
  obtain ⟨a', vs, n, e, hL, hI⟩ := x
  injection e with e
  subst e
  exact ⟨a, vs, n, rfl, k _ hL, hI⟩
section
variable {w : World} {A : Around} {E : Value → Shared → Prop} {s : Shared} {env : Env}
theorem s_for2 {x : Str} {px pos : Pos} {iter : Expr} {body : List Stmt} {Q : Flow → Shared → Prop} (hh : A.handled = none)
    (h : wpAny (model pw w) A (eval iter env) (fun v s₁ => ∃ (ax : Addr) (items : Array Value) (J : Nat → Shared → Prop), v = .ref ax ∧ s₁.heap.IsList ax items ∧
      (∀ s₂, Kp s₁ s₂ → J 0 s₂) ∧
      (∀ I i j s₂ s₃, s₁.heap.get? I = none → s₂.heap.IsListIter I ax j → Adv I s₂ s₃ → J i s₂ → J i s₃) ∧
      (∀ I i v s₂ E', items[i]? = some v → J i s₂ → s₂.heap.IsListIter I ax (i + 1) → s₂.heap.IsList ax items → wpAny (model pw w) A (storeName env x v) (fun _ s₃ => wpAny (model pw w) A (execs body env) (fun f s₄ => match f with
        | .next | .cont => J (i + 1) s₄ ∧ (∀ o, s₂.heap.get? I = some o → s₄.heap.get? I = some o) ∧ (∀ o, s₂.heap.get? ax = some o → s₄.heap.get? ax = some o)
        | .brk => Q .next s₄
        | .ret v => Q (.ret v) s₄) E' s₃) E' s₂) ∧
      (∀ s₂, J items.size s₂ → Q .next s₂)) E s)
    (hs : ∀ x, foldedSetIterable iter env x = pure x := by intro _; rfl) :
    wpAny (model pw w) A (exec (.For (.Name x px) iter body [] pos) env) Q E s := by
  refine wpAny_For (wpAny_mono h (fun v s₁ h₁ => ?_) fun _ _ e => e) hs
  obtain ⟨ax, items, J, rfl, hl, j0, jst, jturn, jend⟩ := h₁
  refine wpAny_pyIter_list hl ?_
  have hI := fresh_size s₁.heap
  have hIa : ax ≠ s₁.heap.objs.size := by
    rintro e
    obtain ⟨o, ho, _⟩ := hl
    rw [e, hI] at ho; cases ho
  refine codeAny_forLoop (fun k s' => ∃ i, J i s' ∧ s'.heap.IsListIter s₁.heap.objs.size ax i ∧ s'.heap.IsList ax items ∧ i ≤ items.size ∧ k = items.size + 1 - i) ?_ (items.size + 1)
    ⟨0, j0 _ (Kp.push _ _), ⟨_, Heap.get?_push_size _ rfl, rfl, rfl⟩, hl.push _, Nat.zero_le _, rfl⟩
  rintro k s' ⟨i, hJ, hit, hl', hi, rfl⟩
  cases hv : items[i]? with
  | none =>
    have hsz : items.size ≤ i := by simpa using hv
    have : i = items.size := by omega
    subst this
    refine wpAny_pyNext_list_end hh hit hl' hv fun h₁ he₁ => wpAny_execs_nil ?_
    exact jend _ (jst _ _ _ s' _ hI hit ⟨h₁, s'.toks, rfl, fun b o hb e => he₁ b o hb e⟩ hJ)
  | some v =>
    have hlt : i < items.size := (Array.getElem?_eq_some_iff.mp hv).1
    refine wpAny_pyNext_list_item hit hl' hv fun h₁ hit₁ hs₁ => ?_
    have a1 : Adv s₁.heap.objs.size s' { s' with heap := h₁ } := ⟨h₁, s'.toks, rfl, fun b o hb e => hs₁.extBut b o hb e⟩
    refine wpAny_assign_Name (wpAny_mono (jturn s₁.heap.objs.size i v _ _ hv (jst _ _ _ s' _ hI hit a1 hJ) hit₁ (Heap.IsList.at hl' fun o e => hs₁.extBut _ o hIa e)) (fun _ s₃ h₃ => wpAny_mono h₃ (fun f s₄ h₄ => ?_) fun _ _ e => e) fun _ _ e => e)
    have go : (J (i + 1) s₄ ∧ (∀ o, h₁.get? s₁.heap.objs.size = some o → s₄.heap.get? s₁.heap.objs.size = some o) ∧ (∀ o, h₁.get? ax = some o → s₄.heap.get? ax = some o)) → ∃ m, m < items.size + 1 - i ∧ ∃ i, J i s₄ ∧ s₄.heap.IsListIter s₁.heap.objs.size ax i ∧ s₄.heap.IsList ax items ∧ i ≤ items.size ∧ m = items.size + 1 - i := by
      rintro ⟨j4, b4, c4⟩
      refine ⟨items.size + 1 - (i + 1), by omega, i + 1, j4, hit₁.at fun o e => b4 o e, Heap.IsList.at hl' fun o e => c4 o (hs₁.extBut _ o hIa e), hlt, rfl⟩
    cases f with
    | next => exact go h₄
    | cont => exact go h₄
    | brk => exact h₄
    | ret v => exact h₄
end

theorem callDefC {w : World} {mean : ExcName → Option Value} {mg mb : Str → Option Value} {A : Around} {n : Nat} {E : Value → Shared → Prop} {s : Shared} {Q : Value → Shared → Prop} {a : Addr} {args : List Value} {d : DefRec} {binds : List (Str × Value)} {cn : Str}
    (G : G0 w mean mg mb s.heap) (hA : AOk A n) (hd : d ∈ recsOf q) (ha : mg d.name = some (.ref a))
    (hbind : ∀ pm cd doc, bindArgs (docDef d.name d.params d.body d.scope pm cd doc) ⟨args, []⟩ = pure binds)
    (hcl : ∀ L, cellsFrom L d.scope.names [] = [(cn, L)])
    (hbc : ∀ L cd, bindC (envOfC d.name d.scope L a cd).kindOf binds (fun _ => none) cn = none)
    (h : ∀ cd s₁, Fm s s.heap.objs.size (bindL (envOfC d.name d.scope s.heap.objs.size a cd).kindOf binds fun _ => none) s₁ → s₁.heap.IsCell (s.heap.objs.size + 1) none →
      wpAny (model pw w) (A.deeper (envOfC d.name d.scope s.heap.objs.size a cd)) (execs d.body (envOfC d.name d.scope s.heap.objs.size a cd))
        (fun f s' => ∃ v, f = .ret v ∧ Q v s') (fun _ _ => False) s₁)
    (hloc : (binds.all fun x => decide (d.scope.names.lookup x.1 = some .local)) = true := by rfl)
    (hco : d.scope.isCoroutine = false := by rfl) (hgen : d.scope.isGenerator = false := by rfl) (hk : d.scope.kind = .function := by rfl) :
    wpAny (model pw w) A (call (.ref a) args) Q E s := by
  obtain ⟨a', o, pm, cd, doc, h1, h2, h3, h4⟩ := G.fn hd
  obtain rfl : a' = a := by rw [h1] at ha; injection ha with e; injection e
  refine wpAny_call (codeAny_call_cells hA.room h2 h3 G.T.nolimit h4 rfl (hbind _ _ _) rfl (fun x hx => .inl (locs hloc x hx)) (fun s₁ x => ?_) hco hgen hk)
  have hc := x.cell cn (s.heap.objs.size + 1) (by
    show (cellsFrom (s.heap.objs.size + 1) d.scope.names []).lookup cn = _
    rw [hcl]; simp)
  have hc' : s₁.heap.IsCell (s.heap.objs.size + 1) none := by
    have e := hbc s.heap.objs.size cd
    rw [← e]; exact hc
  refine wpAny_mono (h cd s₁ x.toInCall hc') (fun f s' hq => ?_) fun _ _ x => x.elim
  obtain ⟨v, rfl, hq⟩ := hq
  exact hq

def mstep (st : List Int × List Int) (c : Int) : List Int × List Int := if 56448 ≤ c ∧ c ≤ 56575 then (st.1, st.2 ++ [c - 56320]) else (st.1 ++ readZ st.2 ++ [c], [])
def mfold (codes : List Int) : List Int × List Int := codes.foldl mstep ([], [])
def mendedZ (codes : List Int) : List Int := ((mfold (codes ++ [0])).1.take ((mfold (codes ++ [0])).1.length - 1)).filter fun c => !decide (c ∈ unseenL)
theorem readF_length : ∀ (n : Nat) (os : List Int), (readF n os).length ≤ os.length
  | 0, os => Nat.zero_le _
  | n + 1, os => by
    rw [readF]
    by_cases h : os = []
    · rw [if_pos h]; exact Nat.zero_le _
    · rw [if_neg h, List.length_cons]
      have h1 := readF_length n (os.drop (stepZ os).2)
      rw [List.length_drop] at h1
      have h2 := stepZ_pos os
      have h3 : 0 < os.length := List.length_pos_iff.mpr h
      omega
theorem mfold_take_succ {codes : List Int} {i : Nat} {c : Int} (h : codes[i]? = some c) : mfold (codes.take (i + 1)) = mstep (mfold (codes.take i)) c := by
  unfold mfold
  rw [List.take_add_one, h, List.foldl_append]
  rfl
theorem mfold_len (codes : List Int) : (mfold codes).1.length + (mfold codes).2.length ≤ codes.length := by
  have key : ∀ (l : List Int) (st : List Int × List Int), (l.foldl mstep st).1.length + (l.foldl mstep st).2.length ≤ st.1.length + st.2.length + l.length := by
    intro l
    induction l with
    | nil => intro st; exact Nat.le_refl _
    | cons c r ih =>
      intro st
      rw [List.foldl_cons]
      refine Nat.le_trans (ih _) ?_
      have : (mstep st c).1.length + (mstep st c).2.length ≤ st.1.length + st.2.length + 1 := by
        unfold mstep
        split
        · simp only [List.length_append, List.length_cons, List.length_nil]; omega
        · have := readF_length st.2.length st.2
          have h : (readZ st.2).length ≤ st.2.length := this
          simp only [List.length_append, List.length_cons, List.length_nil]; omega
      simp only [List.length_cons]; omega
  have := key codes ([], [])
  simpa [mfold] using this
theorem ints_filter {q : Int → Bool} {p : Value → Bool} (hp : ∀ i t, p (.int i t) = q i) : ∀ {vs : List Value} {ns : List Int}, IntsAre vs ns → IntsAre (vs.filter p) (ns.filter q)
  | _, _, .nil => .nil
  | _, _, .cons i t r => by
    rw [List.filter_cons, List.filter_cons, hp]
    split
    · exact .cons _ _ (ints_filter hp r)
    · exact ints_filter hp r
theorem paired_eq : ∀ {l ys : List Value}, Paired (fun v y => y = v) l ys → ys = l
  | _, _, .nil => rfl
  | _, _, .cons e r => by rw [e, paired_eq r]
end Mine
end
section
open PySem PySem.W PySem.Calls PyProof.Rows
set_option maxRecDepth 100000
set_option Elab.async false
namespace Mine
theorem any_eq_mem {k : Int} : ∀ {vs : List Value} {ns : List Int}, IntsAre vs ns → (vs.any fun y => match y with | .int i _ => i == k | _ => false) = decide (k ∈ ns)
  | _, _, .nil => by simp
  | _, _, .cons i t r => by
    rw [List.any_cons, any_eq_mem r]
    by_cases h : i = k
    · subst h; simp
    · have h1 : (i == k) = false := by simpa using h
      have h2 : ¬ k = i := fun e => h e.symm
      simp [h1, h2]
theorem ints_mem {v : Value} : ∀ {vs : List Value} {ns : List Int}, IntsAre vs ns → v ∈ vs → ∃ i t, v = .int i t
  | _, _, .cons i t r, h => by
    rcases List.mem_cons.mp h with rfl | h
    · exact ⟨i, t, rfl⟩
    · exact ints_mem r h
section
variable {w : World} {A : Around} {E : Value → Shared → Prop} {s : Shared} {env : Env}
theorem o_notin {k : Int} {t : Tok} {v : Value} {ns : List Int} {Q : Value → Shared → Prop} (hl : IL s.heap v ns) (h : Q (.bool (!decide (k ∈ ns))) s) : wpAny (model pw w) A (compareOp .NotIn (.int k t) v) Q E s := by
  obtain ⟨l, vs, n, rfl, hL, hI⟩ := hl
  refine PySem.SeqRoads2.notIn_list (items := vs) (n := n) (fun y => match y with | .int i _ => i == k | _ => false) (fun y hy => ?_) hL ?_
  · obtain ⟨i, t', rfl⟩ := ints_mem hI (Array.mem_toList_iff.mpr hy)
    exact MeetsSeq.EqGives.int i k t' t
  · rw [← Array.any_toList, any_eq_mem hI]; exact h
/-- a <= x <= b -/
theorem t_between {a b : Int} {k1 k2 : Nat} {p1 p2 p3 pos : Pos} {x : Str} {i : Int} {t : Tok} {m : Str → Option Value} {whole : Sem Value} {Q : Bool → Shared → Prop} (hn : s.heap.Ns env.locals m) (hv : m x = some (.int i t))
    (h : ∀ s', Kp s s' → Q (decide (a ≤ i ∧ i ≤ b)) s')
    (hk : env.scope.kind = .function := by rfl) (hl : env.kindOf x = some .local := by rfl) (hd : (x == ("__debug__" : Str)) = false := by decide) :
    wpAny (model pw w) A (isTrue (.Compare (.Constant (.int a) k1 p1) [.LtE, .LtE] [.Name x p2, .Constant (.int b) k2 p3] pos) env whole) Q E s := by
  refine isTrue_chain ?_ rfl
  refine e_int fun t₁ s₁ k₁ => ?_
  refine test_link ?_
  refine e_local (hn.keeps k₁.get) hv ?_ hk hl hd
  refine PyProof.Rows.le_int ?_
  refine wpAny_truthy_bool ?_
  refine split_dec (fun h1 => ?_) (fun h1 => ?_)
  · refine test_last ?_
    refine e_int fun t₂ s₂ k₂ => ?_
    refine PyProof.Rows.le_int ?_
    refine wpAny_truthy_bool ?_
    have := h s₂ (k₁.trans k₂)
    rw [show decide (a ≤ i ∧ i ≤ b) = decide (i ≤ b) from decide_eq_decide.mpr ⟨fun x => x.2, fun x => ⟨h1, x⟩⟩] at this
    exact this
  · have := h s₁ k₁
    rw [decide_eq_false (fun x => h1 x.1)] at this
    exact this
end

/-- the frame of _law_mended -/
structure MF (s₀ : Shared) (L D : Addr) (m : Str → Option Value) (s : Shared) (tv uv cv : Value) (told run codes : List Int) : Prop where
  F : Fm s₀ L m s
  to : m "told" = some tv
  ru : m "run" = some (.ref D)
  co : m "codes" = some cv
  tl : IL s.heap tv told
  rl : ∃ items n, IsL s.heap D items n ∧ IntsAre items.toList run
  ce : s.heap.IsCell (L + 1) (some uv)
  ul : IL s.heap uv unseenL
  cl : IL s.heap cv codes
  hD : s₀.heap.get? D = none
  ht : tv ≠ .ref D
  hu : uv ≠ .ref D
  hc : cv ≠ .ref D
section
variable {s₀ s s' : Shared} {L D : Addr} {m m' : Str → Option Value} {tv uv cv : Value} {told run codes : List Int}
theorem MF.k (x : MF s₀ L D m s tv uv cv told run codes) (k : Kp s s') : MF s₀ L D m s' tv uv cv told run codes :=
  ⟨x.F.k k, x.to, x.ru, x.co, x.tl.k k, let ⟨i, n, a, b⟩ := x.rl; ⟨i, n, k.get _ _ a, b⟩, x.ce.keeps k.get, x.ul.k k, x.cl.k k, x.hD, x.ht, x.hu, x.hc⟩
theorem isCell_ne_ns {h : Heap} {c L : Addr} {v : Option Value} {m : Str → Option Value} (x : h.IsCell c v) (y : h.Ns L m) : c ≠ L := by
  rintro rfl
  obtain ⟨o, ho, hd⟩ := x
  obtain ⟨o', es, ep, ho', hd', _⟩ := y
  rw [ho] at ho'
  cases ho'
  rw [hd] at hd'; cases hd'
theorem cell_st {c : Addr} {v : Option Value} (x : s.heap.IsCell c v) (hn : s.heap.Ns L m) (k : St L s s') : s'.heap.IsCell c v := by
  have hne := isCell_ne_ns x hn
  obtain ⟨o, ho, hd⟩ := x
  exact ⟨o, k _ _ hne ho, hd⟩
theorem MF.st (x : MF s₀ L D m s tv uv cv told run codes) (F : Fm s₀ L m' s') (k : St L s s') (h1 : m' "told" = m "told") (h2 : m' "run" = m "run") (h3 : m' "codes" = m "codes") : MF s₀ L D m' s' tv uv cv told run codes :=
  ⟨F, h1.trans x.to, h2.trans x.ru, h3.trans x.co, x.tl.st x.F.ns k, let ⟨i, n, a, b⟩ := x.rl; ⟨i, n, k _ _ (Ne.symm (isL_ne a x.F.ns)) a, b⟩, cell_st x.ce x.F.ns k, x.ul.st x.F.ns k, x.cl.st x.F.ns k, x.hD, x.ht, x.hu, x.hc⟩
theorem MF.iter {I ax : Addr} {i : Nat} (x : MF s₀ L D m s tv uv cv told run codes) {s₁ : Shared} {m₁ : Str → Option Value} (F1 : Fm s₀ L m₁ s₁) (hI : s₁.heap.get? I = none) (hi : s.heap.IsListIter I ax i) (k : Adv I s s') : MF s₀ L D m s' tv uv cv told run codes :=
  ⟨x.F.adv F1 hI k, x.to, x.ru, x.co, x.tl.iter hi k, let ⟨i, n, a, b⟩ := x.rl; ⟨i, n, k.get _ _ (iter_ne_list hi a) a, b⟩,
    (let hne := iter_ne_cell hi x.ce; let ⟨o, ho, hd⟩ := x.ce; ⟨o, k.get _ _ hne ho, hd⟩), x.ul.iter hi k, x.cl.iter hi k, x.hD, x.ht, x.hu, x.hc⟩
end
section
variable {w : World} {mean : ExcName → Option Value} {mg mb : Str → Option Value} {A : Around} {E : Value → Shared → Prop} {s : Shared} {Q : Value → Shared → Prop}
theorem ref_ne_of_fresh {h : Heap} {v : Value} {ns : List Int} {a : Addr} (x : IL h v ns) (ha : h.get? a = none) : v ≠ .ref a := by
  rintro rfl
  obtain ⟨b, vs, n, e, hL, _⟩ := x
  injection e with e
  subst e
  have hL' : h.get? a = some _ := hL
  rw [ha] at hL'; cases hL'
theorem s_storeCell {s₀ : Shared} {env : Env} {m : Str → Option Value} {x : Str} {v : Value} {v₀ : Option Value} {c : Addr} {Q : Unit → Shared → Prop} (F : Fm s₀ env.locals m s) (hc : s.heap.IsCell c v₀) (hlt : env.locals < c)
    (h : ∀ s₂, Fm s₀ env.locals m s₂ → s₂.heap.IsCell c (some v) → (∀ b o, b ≠ c → s.heap.get? b = some o → s₂.heap.get? b = some o) → Q () s₂)
    (hlook : env.cells.lookup x = some c) (hk : env.scope.kind = .function := by rfl) (hl : env.kindOf x = some .cell := by rfl) : wpAny (model pw w) A (storeName env x v) Q E s := by
  refine wpAny_storeName_cell hk hl hlook hc fun h' hc' hs' => h _ ?_ hc' fun b o hb e => hs'.extBut b o hb e
  refine F.upd hs' ?_ (Nat.ne_of_lt hlt) s.toks
  cases e : s₀.heap.get? c with
  | none => rfl
  | some o => exact absurd (Heap.lt_size e) (Nat.not_lt.mpr (Nat.le_of_lt (Nat.lt_of_le_of_lt F.fresh hlt)))
theorem mended_call {v : Value} {codes : List Int} (G : G0 w mean mg mb s.heap) (hA : AOk A 3) (hv : IL s.heap v codes) (hlen : codes.length ≤ 90)
    (h : ∀ a s', Kp s s' → s.heap.get? a = none → IL s'.heap (.ref a) (mendedZ codes) → Q (.ref a) s') : wpAny (model pw w) A (call (.ref 84) [v]) Q E s := by
  refine callDefC (d := dOf 12) (binds := [("codes", v)]) (cn := "unseen") G hA (by rw [recs_eq]; simp) G.m_mended (fun _ _ _ => rfl) (fun _ => rfl) (fun _ _ => rfl) (fun cd s₁ F hc₁ => ?_)
  generalize hL : s.heap.objs.size = L at F hc₁ ⊢
  have hA' := hA.deeper (envOfC (dOf 12).name (dOf 12).scope L 84 cd)
  -- told, run, unseen = ..
  refine wpAny_execs_cons ?_
  refine Assign_Tuple ?_
  refine Tuple_ ?_
  refine e_cons ?_
  refine List_ ?_
  refine e_nil ?_
  refine newL (fun T s₂ k₂ hT hL₂ => ?_) (Nat.zero_le _)
  refine e_cons ?_
  refine List_ ?_
  refine e_nil ?_
  refine newL (fun D s₃ k₃ hD hL₃ => ?_) (Nat.zero_le _)
  have F3 := F.k (k₂.trans k₃)
  have G3 := G.k F3.kp
  refine e_cons ?_
  refine e_fn0 (d := dOf 8) G3 (by rw [recs_eq]; simp) G.m_unseen (fun Q' hq => e_global G3 G.m_unseen hq) ?_
  refine unseen_call G3 (hA'.le (by decide)) fun uv s₄ k₄ hu₄ => ?_
  refine e_nil ?_
  refine wpAny_newObj_type ?_ (by show 3 ≤ sizeLine; decide)
  have k5 : Kp s₄ { s₄ with heap := s₄.heap.push { cls := .type "tuple", data := .seq ([Value.ref T, Value.ref D, uv] : List Value).toArray } } := Kp.push _ _
  refine wpAny_assign_Tuple hA'.handled ⟨_, Heap.get?_push_size _ rfl, rfl, 0, rfl⟩ rfl rfl fun h' hk => ?_
  have k6 : Kp { s₄ with heap := s₄.heap.push { cls := .type "tuple", data := .seq ([Value.ref T, Value.ref D, uv] : List Value).toArray } } { s₄ with heap := h' } := ⟨h', s₄.toks, rfl, fun b o e => hk b o (Nat.ne_of_lt (Heap.lt_size e)) e⟩
  have k46 : Kp s₄ { s₄ with heap := h' } := k5.trans k6
  have kall := k₂.trans (k₃.trans (k₄.trans k46))
  refine wpAny_assignInOrder_more (wpAny_assign_Name (s_store (F.k kall) (fun s₇ F7 st7 => ?_)))
  refine wpAny_assignInOrder_more (wpAny_assign_Name (s_store F7 (fun s₈ F8 st8 => ?_)))
  have st78 := st7.trans st8
  have hc8 : s₈.heap.IsCell (L + 1) none := cell_st (hc₁.keeps kall.get) (F.k kall).ns st78
  refine wpAny_assignInOrder_more (wpAny_assign_Name (s_storeCell (c := L + 1) F8 hc8 (Nat.lt_succ_self L) (fun s₉ F9 hc9 ex9 => ?_) rfl))
  refine wpAny_assignInOrder_none ?_
  -- the loop
  have toIL : ∀ {v : Value} {ns : List Int}, IL s₄.heap v ns → IL s₉.heap v ns := by
    intro v ns x
    have x8 : IL s₈.heap v ns := (x.k k46).st (F.k kall).ns st78
    obtain ⟨a, vs, n, rfl, hl, hi⟩ := x8
    exact ⟨a, vs, n, rfl, ex9 _ _ (Ne.symm (isCell_ne_list hc8 hl)) hl, hi⟩
  have hDs : s.heap.get? D = none := by
    cases e : s.heap.get? D with
    | none => rfl
    | some o => have := (F.k k₂).kp.get _ _ e; rw [hD] at this; cases this
  have hTD : Value.ref T ≠ .ref D := by
    refine ref_ne_of_fresh (ns := []) ⟨T, _, _, rfl, hL₂, .nil⟩ hD
  have huD : uv ≠ .ref D := by
    obtain ⟨a, vs, n, rfl, hl, hi⟩ := hu₄
    intro e
    injection e with e
    subst e
    have e1 := k₄.get _ _ hL₃
    have e2 : s₄.heap.get? a = some _ := hl
    rw [e1] at e2
    injection e2 with e2
    injection e2 with _ _ e2 _
    injection e2 with e2 _
    subst e2
    cases hi
  have M9 : MF s L D (fun y => if y = "run" then some (.ref D) else if y = "told" then some (.ref T) else bindL (envOfC (dOf 12).name (dOf 12).scope L 84 cd).kindOf [(("codes" : Str), v)] (fun _ => none) y) s₉ (.ref T) uv v [] [] codes := by
    refine ⟨F9, rfl, rfl, rfl, toIL ⟨T, _, _, rfl, (k₃.trans k₄).get _ _ hL₂, .nil⟩, ?_, hc9, toIL hu₄, hv.k F9.kp, hDs, hTD, huD, ref_ne_of_fresh hv hDs⟩
    obtain ⟨a, vs, n, e, hl, hi⟩ := toIL (v := .ref D) (ns := []) ⟨D, _, _, rfl, k₄.get _ _ hL₃, .nil⟩
    injection e with e
    subst e
    exact ⟨vs, n, hl, hi⟩
  clear F9 ex9 hc9 toIL F8 F7 st7 st8 st78 hc8 F3 G3
  dsimp only
  refine wpAny_execs_cons ?_
  refine s_for2 hA'.handled ?_
  refine wpAny_BinOp ?_
  refine e_local M9.F.ns M9.co ?_
  refine e_litList (ns := [0]) ?hl ?hn ?_
  case hl => exact (.cons .nil)
  case hn => decide
  intro v₁₀ s₁₀ k₁₀ hv₁₀
  refine o_addLF (M9.cl.k k₁₀) hv₁₀ (by simp only [List.length_cons, List.length_nil]; omega) fun ax s₁₁ k₁₁ hax hl₁₁ => ?_
  have M11 := M9.k (k₁₀.trans k₁₁)
  obtain ⟨ax', cs, n₁₁, e, hLax, hIax⟩ := hl₁₁
  injection e with e
  subst e
  have hDax : D ≠ ax := by
    rintro rfl
    obtain ⟨i, n, a, _⟩ := (M9.k k₁₀).rl
    have a' : s₁₀.heap.get? D = some _ := a
    rw [hax] at a'; cases a'
  refine ⟨ax, cs, fun i s' => ∃ m D tv, D ≠ ax ∧ MF s L D m s' tv uv v (mfold ((codes ++ [0]).take i)).1 (mfold ((codes ++ [0]).take i)).2 codes, rfl, hLax.isList, ?_, ?_, ?_, ?_⟩
  · intro s' k'
    exact ⟨_, D, _, hDax, M11.k k'⟩
  · rintro I i j s₂ s₃ hI hit ha ⟨m, D', tv, hne, x⟩
    exact ⟨m, D', tv, hne, x.iter M11.F hI hit ha⟩
  · rintro I i v₂ s₂ E' hv₂ ⟨m, D', tv, hne, M2⟩ hit hLi
    obtain ⟨c, tc, rfl, hcs⟩ := PyProof.Rows.IntsAre.at hIax i v₂ (by simpa using hv₂)
    have hlt : i < (codes ++ [0]).length := by
      have := List.getElem?_eq_some_iff.mp hcs
      exact this.1
    have hmf := mfold_len ((codes ++ [0]).take i)
    rw [List.length_take] at hmf
    simp only [List.length_append, List.length_cons, List.length_nil] at hlt hmf
    have estep := mfold_take_succ hcs
    generalize hst : mfold ((codes ++ [0]).take i) = st at M2 estep hmf
    obtain ⟨told, run⟩ := st
    dsimp only at M2 hmf
    refine s_store M2.F fun s₃ F3 st3 => ?_
    have M3 := M2.st F3 st3 rfl rfl rfl
    refine wpAny_execs_cons ?_
    refine wpAny_If ?_
    refine t_between M3.F.ns (if_pos rfl) ?_
    intro s₄ k₄
    have M4 := M3.k k₄
    have keepI : ∀ {s₅ : Shared}, (∀ b o, b ≠ L → s₂.heap.get? b = some o → s₅.heap.get? b = some o) → (∀ o, s₂.heap.get? I = some o → s₅.heap.get? I = some o) ∧ (∀ o, s₂.heap.get? ax = some o → s₅.heap.get? ax = some o) := by
      intro s₅ hx
      refine ⟨fun o e => hx I o (Ne.symm (iter_ne_ns hit M2.F.ns)) e, fun o e => hx ax o ?_ e⟩
      rintro rfl
      obtain ⟨oL, _, _, hoL, _⟩ := M9.F.ns
      have := k₁₀.get _ _ hoL
      rw [hax] at this; cases this
    refine split_dec (fun h1 => ?_) (fun h1 => ?_)
    · -- a stray octet
      obtain ⟨items, n, hlD, hiD⟩ := M4.rl
      refine wpAny_execs_cons ?_
      refine s_append M4.F M4.ru hlD ?_
      refine wpAny_BinOp ?_
      refine e_local M4.F.ns (if_pos rfl) ?_
      refine e_int fun t₅ s₅ k₅ => ?_
      refine o_sub fun t₆ s₆ k₆ => ?_
      refine ⟨k₅.trans k₆, by rw [IntsAre.size hiD]; omega, fun s₇ n₇ u₇ hl₇ _ => ?_⟩
      have M6 := M4.k (k₅.trans k₆)
      have hl₆ : IsL s₆.heap D' items n := (k₅.trans k₆).get _ _ hlD
      refine wpAny_execs_nil (wpAny_execs_nil ⟨⟨(fun y => if y = "code" then some (.int c tc) else m y), D', tv, hne, ?_⟩, ?_, ?_⟩)
      · have e : mstep (told, run) c = (told, run ++ [c - 56320]) := by unfold mstep; rw [if_pos h1]
        rw [estep, e]
        refine ⟨u₇.fm M6.F M6.hD (isL_ne hl₆ M6.F.ns), M6.to, M6.ru, M6.co, M6.tl.upd u₇ M6.ht, ⟨_, n₇, hl₇, ?_⟩, ?_, M6.ul.upd u₇ M6.hu, M6.cl.upd u₇ M6.hc, M6.hD, M6.ht, M6.hu, M6.hc⟩
        · rw [Array.toList_push]; exact PyProof.Rows.IntsAre.append hiD (.cons _ _ .nil)
        · have hne' := isCell_ne_list M6.ce hl₆
          obtain ⟨o, ho, hd⟩ := M6.ce
          exact ⟨o, u₇.get _ _ hne' ho, hd⟩
      · intro o e
        have e3 := st3 I o (Ne.symm (iter_ne_ns hit M2.F.ns)) e
        obtain ⟨i2, n2, a2, _⟩ := M2.rl
        exact u₇.get I o (Ne.symm (iter_ne_list hit a2)) ((k₄.trans (k₅.trans k₆)).get _ _ e3)
      · intro o e
        have hax2 : ax ≠ L := by
          rintro rfl
          obtain ⟨oL, _, _, hoL, _⟩ := M9.F.ns
          have := k₁₀.get _ _ hoL
          rw [hax] at this; cases this
        exact u₇.get ax o (Ne.symm hne) ((k₄.trans (k₅.trans k₆)).get _ _ (st3 ax o hax2 e))
    · -- another sign
      have e : mstep (told, run) c = (told ++ readZ run ++ [c], []) := by unfold mstep; rw [if_neg h1]
      have G4 := G.k M4.F.kp
      obtain ⟨items, n, hlD, hiD⟩ := M4.rl
      refine wpAny_execs_cons ?_
      refine s_assign M4.F ?_
      refine wpAny_BinOp ?_
      refine wpAny_BinOp ?_
      refine e_local M4.F.ns M4.to ?_
      refine e_fn1 (d := dOf 11) G4 (by rw [recs_eq]; simp) G.m_read (fun Q' hq => e_global G4 G.m_read hq) ?_
      refine e_local M4.F.ns M4.ru ?_
      refine ⟨Kp.rfl _, ?_⟩
      refine read_call G4 hA' ⟨D', items, n, rfl, hlD, hiD⟩ (by omega) fun a₅ s₅ k₅ _ hl₅ => ?_
      have hrl : (readZ run).length ≤ run.length := readF_length _ _
      refine o_addL (M4.tl.k k₅) hl₅ (by omega) fun v₆ s₆ k₆ hl₆ => ?_
      refine List_ ?_
      refine e_cons ?_
      refine e_local (M4.k (k₅.trans k₆)).F.ns (if_pos rfl) ?_
      refine e_nil ?_
      refine newL (fun a₇ s₇ k₇ _ hl₇ => ?_) (show 1 ≤ sizeLine by decide)
      refine o_addL (hl₆.k k₇) ⟨a₇, _, _, rfl, hl₇, .cons _ _ .nil⟩ (by simp only [List.length_append, List.length_cons, List.length_nil]; omega) fun v₈ s₈ k₈ hl₈ => ⟨k₅.trans (k₆.trans (k₇.trans k₈)), fun s₉ F9 st9 => ?_⟩
      have k58 := k₅.trans (k₆.trans (k₇.trans k₈))
      have M8 := M4.k k58
      have hl₉ := hl₈.st M8.F.ns st9
      have ce9 := cell_st M8.ce M8.F.ns st9
      have ul9 := M8.ul.st M8.F.ns st9
      have cl9 := M8.cl.st M8.F.ns st9
      dsimp only
      refine wpAny_execs_cons ?_
      refine s_assign F9 ?_
      refine List_ ?_
      refine e_nil ?_
      refine newL (fun D₁₀ s₁₀' k₁₀' hD₁₀ hL₁₀ => ⟨k₁₀', fun s₁₁' F11 st11 => ?_⟩) (Nat.zero_le _)
      have hx : ∀ b o, b ≠ L → s₂.heap.get? b = some o → s₁₁'.heap.get? b = some o := fun b o hb e => st11 b o hb (k₁₀'.get _ _ (st9 b o hb (k58.get _ _ (k₄.get _ _ (st3 b o hb e)))))
      refine wpAny_execs_nil (wpAny_execs_nil ⟨⟨(fun y => if y = "run" then some (.ref D₁₀) else if y = "told" then some v₈ else if y = "code" then some (.int c tc) else m y), D₁₀, v₈, ?_, ?_⟩, keepI hx⟩)
      · rintro rfl
        obtain ⟨ol, hol, _⟩ := hLi
        have hax2 : D₁₀ ≠ L := by
          rintro rfl
          obtain ⟨oL, _, _, hoL, _⟩ := M9.F.ns
          have := k₁₀.get _ _ hoL
          rw [hax] at this; cases this
        have := st9 _ ol hax2 (k58.get _ _ (k₄.get _ _ (st3 _ ol hax2 hol)))
        rw [hD₁₀] at this; cases this
      · rw [estep, e]
        refine ⟨F11, (if_neg (by decide)).trans (if_pos rfl), if_pos rfl, (if_neg (by decide)).trans ((if_neg (by decide)).trans M4.co), (hl₉.k k₁₀').st (F9.k k₁₀').ns st11, ⟨_, 0, st11 _ _ (Ne.symm (isL_ne hL₁₀ (F9.k k₁₀').ns)) hL₁₀, .nil⟩, cell_st (ce9.keeps k₁₀'.get) (F9.k k₁₀').ns st11, (ul9.k k₁₀').st (F9.k k₁₀').ns st11, (cl9.k k₁₀').st (F9.k k₁₀').ns st11, ?_, ref_ne_of_fresh hl₉ hD₁₀, ref_ne_of_fresh ul9 hD₁₀, ref_ne_of_fresh cl9 hD₁₀⟩
        cases e : s.heap.get? D₁₀ with
        | none => rfl
        | some o => have := F9.kp.get _ _ e; rw [hD₁₀] at this; cases this
  · rintro s₂ ⟨m, D', tv, _, M2⟩
    have hcs : cs.size = (codes ++ [0]).length := IntsAre.size hIax
    rw [hcs, List.take_length] at M2
    have hmf := mfold_len (codes ++ [0])
    simp only [List.length_append, List.length_cons, List.length_nil] at hmf
    generalize hst : mfold (codes ++ [0]) = st at M2 hmf
    obtain ⟨told, run⟩ := st
    dsimp only at M2 hmf
    dsimp only
    refine wpAny_execs_cons ?_
    refine wpAny_Return_some ?_
    refine e_compL (cl := [("unseen", L + 1)]) (fun v => match v with | .int i _ => !decide (i ∈ unseenL) | _ => false) (fun v y => y = v) hA'.handled ?_
    refine e_slice (fun l => l.take (l.length - 1)) ?_
    refine e_local M2.F.ns M2.to ?_
    refine wpAny_evalPart_none ?_
    refine wpAny_evalPart_some ?_
    refine wpAny_UnaryOp ?_
    refine e_int fun t₃ s₃ k₃ => ?_
    refine PyProof.Rows.neg_int ?_
    refine ⟨told, none, some (-1), (M2.tl.k k₃).k (Kp.tok _ _), by omega, .none, .int _ _, pick_but1, fun a₄ s₄ k₄ hn₄ hl₄ => ?_⟩
    have k34 : Kp s₂ s₄ := k₃.trans ((Kp.tok _ _).trans k₄)
    have M4 := M2.k k34
    obtain ⟨a', vs, n, e, hl, hi⟩ := hl₄
    injection e with e
    subst e
    refine ⟨a₄, vs, n, rfl, hl, ?_, ?_, ?_, ?_⟩
    · rw [IntsAre.size hi, List.length_take]; omega
    · intro C v₅ s₅ m₅ E' hm hn hx hext
      obtain ⟨c, tc, rfl⟩ := ints_mem hi hm
      refine wpAny_tests_one ?_
      refine wpAny_isTrue_Compare1 ?_
      refine e_local hn hx ?_
      refine wpAny_Name (wpAny_loadName_cell (c := L + 1) rfl rfl rfl (M4.ce.keeps hext) ?_)
      refine o_notin (M4.ul.keeps hext) ?_
      exact wpAny_truthy_bool ⟨rfl, Kp.rfl _⟩
    · intro C v₅ s₅ m₅ E' hm hp hn hx hext
      refine e_local hn hx ?_
      exact ⟨rfl, Kp.rfl _⟩
    · intro D₆ s₆ ys n₆ k₆ hD₆ hL₆ hF₆
      refine ⟨_, rfl, h D₆ s₆ (M4.F.k k₆).kp ?_ ⟨D₆, ys, n₆, rfl, hL₆, ?_⟩⟩
      · cases e : s.heap.get? D₆ with
        | none => rfl
        | some o => have := M4.F.kp.get _ _ e; rw [hD₆] at this; cases this
      · rw [paired_eq hF₆]
        have := ints_filter (q := fun c => !decide (c ∈ unseenL)) (p := fun v => match v with | .int i _ => !decide (i ∈ unseenL) | _ => false) (fun _ _ => rfl) hi
        unfold mendedZ
        rw [hst]
        exact this
end
end Mine
end
section
set_option maxRecDepth 100000
namespace Mine
open PySem PySem.W PySem.Calls PyProof.Rows

def eb (c : Nat) : List UInt8 := if Str.isSurrogate c then [(c - 0xDC00).toUInt8] else Str.utf8Of c
def encB (cs : List Nat) : List UInt8 := cs.flatMap eb
def okC (c : Nat) : Prop := c < 0x110000 ∧ (Str.isSurrogate c = true → 0xDC80 ≤ c ∧ c ≤ 0xDCFF)

theorem wp_range {M : Model} {A : Around} {E : Value → Shared → Prop} {s : Shared} {β : Type} (f : Nat → β → Sem (ForInStep β)) (I : Nat → β → Shared → Prop) (Q : β → Shared → Prop) (n : Nat) (b : β)
    (h0 : I 0 b s)
    (turn : ∀ k b s, k < n → I k b s → wpAny M A (f k b) (fun r s' => match r with | .yield b' => I (k+1) b' s' | .done b' => Q b' s') E s)
    (fin : ∀ b s, I n b s → Q b s) : wpAny M A (forIn [0:n] b f) Q E s := by
  rw [Std.Legacy.Range.forIn_eq_forIn_range']
  refine wpAny_forIn_list f (fun l b s => ∃ k, l = List.range' k (n - k) ∧ k ≤ n ∧ I k b s) Q ?_ ?_ _ b ⟨0, by simp [Std.Legacy.Range.size], Nat.zero_le _, h0⟩
  · rintro x rest b s ⟨k, hl, hk, hI⟩
    have hlt : k < n := by
      rcases Nat.lt_or_ge k n with h | h
      · exact h
      · rw [show n - k = 0 by omega] at hl; cases hl
    rw [show n - k = (n - (k+1)) + 1 by omega, List.range'_succ] at hl
    injection hl with h1 h2
    subst h1
    refine wpAny_mono (turn _ b s hlt hI) ?_ (fun _ _ x => x)
    intro r s' hr
    cases r with
    | yield b' => exact ⟨_, h2, hlt, hr⟩
    | done b' => exact hr
  · rintro b s ⟨k, hl, hk, hI⟩
    have : k = n := by
      rcases Nat.lt_or_ge k n with h | h
      · rw [show n - k = (n - (k+1)) + 1 by omega, List.range'_succ] at hl; cases hl
      · omega
    subst this
    exact fin b s hI

theorem run_take (p : Nat → Bool) : ∀ (l : List Nat), (l.findIdx? p).getD l.length ≤ l.length ∧ (∀ y ∈ l.take ((l.findIdx? p).getD l.length), p y = false) ∧ (∀ c t, l = c :: t → p c = false → 1 ≤ (l.findIdx? p).getD l.length)
  | [] => ⟨by simp, by simp, by intro c t h; cases h⟩
  | a :: r => by
    obtain ⟨h1, h2, _⟩ := run_take p r
    cases ha : p a with
    | true => 
      rw [List.findIdx?_cons, ha]
      refine ⟨by simp, by simp, ?_⟩
      intro c t h hc
      injection h with e1 e2; subst e1; rw [ha] at hc; cases hc
    | false =>
      rw [List.findIdx?_cons, ha]
      have e : ((Option.map (fun i => i + 1) (r.findIdx? p)).getD (a :: r).length) = (r.findIdx? p).getD r.length + 1 := by
        cases r.findIdx? p <;> rfl
      simp only [Bool.false_eq_true, if_false]
      rw [e]
      refine ⟨by simpa using h1, ?_, fun _ _ _ _ => by omega⟩
      intro y hy
      rw [List.take_succ_cons] at hy
      rcases List.mem_cons.mp hy with rfl | hy
      · exact ha
      · exact h2 y hy
theorem fold_bytes (f : Nat → List UInt8) : ∀ (l : List Nat) (acc : Array UInt8), (l.foldl (fun acc y => acc ++ (f y).toArray) acc).toList = acc.toList ++ l.flatMap f
  | [], acc => by simp
  | a :: r, acc => by rw [List.foldl_cons, fold_bytes f r]; simp
theorem utf8_len (c : Nat) : (Str.utf8Of c).length ≤ 4 := by unfold Str.utf8Of; split <;> (try split) <;> (try split) <;> simp
theorem eb_len (c : Nat) : (eb c).length ≤ 4 := by
  unfold eb; split
  · simp
  · exact utf8_len c
theorem encB_len : ∀ (l : List Nat), (encB l).length ≤ 4 * l.length
  | [] => by simp [encB]
  | a :: r => by have := encB_len r; have := eb_len a; simp only [encB, List.flatMap_cons, List.length_append, List.length_cons] at *; omega
theorem encB_append (a b : List Nat) : encB (a ++ b) = encB a ++ encB b := List.flatMap_append
theorem encB_clean : ∀ (l : List Nat), (∀ y ∈ l, Str.isSurrogate y = false) → encB l = l.flatMap Str.utf8Of
  | [], _ => rfl
  | a :: r, h => by
    have := encB_clean r (fun y hy => h y (List.mem_cons_of_mem _ hy))
    simp only [encB, List.flatMap_cons, eb, h a List.mem_cons_self] at *
    simp only [Bool.false_eq_true, if_false, this]
theorem encB_stray : ∀ (l : List Nat), (∀ y ∈ l, Str.isSurrogate y = true) → encB l = l.map fun x => (x - 0xDC00).toUInt8
  | [], _ => rfl
  | a :: r, h => by
    have := encB_stray r (fun y hy => h y (List.mem_cons_of_mem _ hy))
    simp only [encB, List.flatMap_cons, eb, h a List.mem_cons_self, List.map_cons] at *
    simp only [if_true, this, List.singleton_append]
theorem takeWhile_all (p : Nat → Bool) : ∀ (l : List Nat), (∀ y ∈ l, p y = true) → l.takeWhile p = l
  | [], _ => rfl
  | a :: r, h => by rw [List.takeWhile_cons, if_pos (h a List.mem_cons_self), takeWhile_all p r fun y hy => h y (List.mem_cons_of_mem _ hy)]
theorem nm_esc : ((some (PySem.Str.ofString "surrogateescape")).getD (PySem.Str.ofString "strict")).toString = "surrogateescape" := by decide +kernel

theorem enc_narrow {M : Model} {A : Around} {E : Value → Shared → Prop} {s : Shared} {x : PySem.Str} {v : Value} {Q : Array UInt8 → Shared → Prop}
    (hx : ∀ c ∈ x.cps.toList, okC c) (hn : x.cps.size ≤ 1000) (h : Q (encB x.cps.toList).toArray s) :
    wpAny M A (Builtin._codecs.encodeNarrow "str.encode" Builtin._codecs.utf8Codec (some "surrogateescape") v x) Q E s := by
  unfold Builtin._codecs.encodeNarrow
  dsimp only
  rw [nm_esc]
  refine wpAny_bind (wp_range _ (fun k b s' => s' = s ∧ k ≤ b.1 ∧ b.1 ≤ x.cps.size ∧ b.2.1.toList = encB (x.cps.toList.take b.1)) _ _ _ ⟨rfl, Nat.le_refl _, Nat.zero_le _, by simp [encB]⟩ ?_ ?_)
  · rintro k ⟨i, out, st⟩ s' hk ⟨rfl, hki, his, ho⟩
    dsimp only at hki his ho ⊢
    have hos : ¬ out.size > sizeLine := by
      have h1 : out.size = (encB (x.cps.toList.take i)).length := by rw [← ho]; simp
      have h2 := encB_len (x.cps.toList.take i)
      have h3 : (x.cps.toList.take i).length ≤ 1000 := by simp; omega
      have h4 : sizeLine = 16777216 := by rw [sizeLine_eq]
      omega
    rw [if_neg hos]
    by_cases hi : i < x.cps.size
    · rw [Array.getElem?_eq_getElem hi]
      dsimp only
      have hex : ∀ j, x.cps.extract i j = ((x.cps.toList.drop i).take (j - i)).toArray := by
        intro j; apply Array.toList_inj.mp; simp [Array.toList_extract, List.extract]
      have hdr : x.cps.toList.drop i = x.cps[i] :: x.cps.toList.drop (i+1) := by
        rw [← Array.getElem_toList hi]; exact List.drop_eq_getElem_cons (by simpa using hi)
      have hlen : (x.cps.toList.drop i).length = x.cps.size - i := by simp
      have htk : ∀ n, encB (x.cps.toList.take (i + n)) = encB (x.cps.toList.take i) ++ encB ((x.cps.toList.drop i).take n) := by
        intro n; rw [List.take_add, encB_append]
      have hmem : ∀ y ∈ x.cps.toList.drop i, okC y := fun y hy => hx y (List.mem_of_mem_drop hy)
      have hfull : x.cps.extract i = (x.cps.toList.drop i).toArray := by rw [hex, List.take_of_length_le (by omega)]
      by_cases hb : Str.isSurrogate x.cps[i] = true
      · rw [if_neg (by show ¬ (!Str.isSurrogate x.cps[i]) = true; rw [hb]; decide)]
        refine wpAny_bind (wpAny_rule ?_)
        rw [hfull]
        have hr := run_take (fun y => !Str.isSurrogate y) (x.cps.toList.drop i)
        have hfi : (Array.findIdx? (fun y => !Builtin._codecs.utf8Codec.bad y) (x.cps.toList.drop i).toArray).getD (x.cps.size - i) = ((x.cps.toList.drop i).findIdx? (fun y => !Str.isSurrogate y)).getD (x.cps.toList.drop i).length := by
          rw [hlen, List.findIdx?_toArray]; rfl
        rw [hfi]
        generalize ((x.cps.toList.drop i).findIdx? (fun y => !Str.isSurrogate y)).getD (x.cps.toList.drop i).length = n at hr ⊢
        obtain ⟨h1, h2, h3⟩ := hr
        have h3 := h3 _ _ hdr (by simp [hb])
        have hrun : x.cps.extract i (i + n) = ((x.cps.toList.drop i).take n).toArray := by rw [hex]; congr 2; omega
        rw [hrun]
        split
        · rename_i heq
          simp at heq
        rw [if_neg (by decide), if_pos (show ("surrogateescape" == "surrogateescape") = true by decide)]
        have hall : ((x.cps.toList.drop i).take n).takeWhile (fun x => decide (56448 ≤ x) && decide (x ≤ 56575)) = (x.cps.toList.drop i).take n := by
          apply takeWhile_all
          intro y hy
          have hs : Str.isSurrogate y = true := by simpa using h2 y hy
          have := (hmem y (List.mem_of_mem_take hy)).2 hs
          simp [this]
        rw [hall]
        have hl2 : ((x.cps.toList.drop i).take n).length = n := by rw [List.length_take]; omega
        rw [hl2, if_pos (by simp)]
        refine wpAny_pure ⟨rfl, by dsimp only; omega, by dsimp only; omega, ?_⟩
        dsimp only
        rw [htk, ← ho, encB_stray _ (fun y hy => by simpa using h2 y hy)]
        simp
      · have hb' : Str.isSurrogate x.cps[i] = false := by simpa using hb
        rw [if_pos (by show (!Str.isSurrogate x.cps[i]) = true; rw [hb']; rfl)]
        rw [hfull]
        have hr := run_take Str.isSurrogate (x.cps.toList.drop i)
        have hfi : (Array.findIdx? Builtin._codecs.utf8Codec.bad (x.cps.toList.drop i).toArray).getD (x.cps.toList.drop i).toArray.size = ((x.cps.toList.drop i).findIdx? Str.isSurrogate).getD (x.cps.toList.drop i).length := by
          rw [List.findIdx?_toArray]; rfl
        rw [hfi]
        generalize ((x.cps.toList.drop i).findIdx? Str.isSurrogate).getD (x.cps.toList.drop i).length = n at hr ⊢
        obtain ⟨h1, h2, h3⟩ := hr
        have h3 := h3 _ _ hdr hb'
        refine wpAny_pure ⟨rfl, by dsimp only; omega, by dsimp only; omega, ?_⟩
        dsimp only
        have hrun : (x.cps.toList.drop i).toArray.extract 0 n = ((x.cps.toList.drop i).take n).toArray := by simp
        rw [hrun, htk, ← ho, encB_clean _ h2]
        rw [List.foldl_toArray]
        exact fold_bytes Str.utf8Of _ _
    · have he : i = x.cps.size := by omega
      rw [Array.getElem?_eq_none (by omega)]
      dsimp only
      refine wpAny_pure ?_
      refine wpAny_pure ?_
      dsimp only
      rw [he, List.take_of_length_le (by simp)] at ho
      have : out = (encB x.cps.toList).toArray := by rw [← ho]
      rw [this]; exact h
  · rintro ⟨i, out, st⟩ s' ⟨rfl, hki, his, ho⟩
    dsimp only at hki his ho ⊢
    refine wpAny_pure ?_
    have he : i = x.cps.size := Nat.le_antisymm his hki
    rw [he, List.take_of_length_le (by simp)] at ho
    have : out = (encB x.cps.toList).toArray := by rw [← ho]
    rw [this]; exact h

theorem enc_entry {x : PySem.Str} {t t1 t2 : Tok} : Builtin.«str.encode» ⟨[.str x t, .str (PySem.Str.ofString "utf-8") t1, .str (PySem.Str.ofString "surrogateescape") t2], []⟩ =
    (Builtin._codecs.encodeNarrow "str.encode" Builtin._codecs.utf8Codec (some (PySem.Str.ofString "surrogateescape")) (.str x t) x >>= fun b => mkBytes b) >>= (fun v => ret v) := by kernel_rfl
theorem meets_enc {x : PySem.Str} {t t1 t2 : Tok} (hx : ∀ c ∈ x.cps.toList, okC c) (hn : x.cps.size ≤ 1000) :
    Meets (Builtin.«str.encode» ⟨[.str x t, .str (PySem.Str.ofString "utf-8") t1, .str (PySem.Str.ofString "surrogateescape") t2], []⟩) (fun _ R s => R (.ok (.ret (.bytes (encB x.cps.toList).toArray s.toks))) { s with toks := s.toks + 1 }) := by
  refine .of_wp fun prog w A R s hS => ?_
  rw [enc_entry]
  refine wpAny_bind (wpAny_bind (enc_narrow hx hn ?_))
  refine wpAny_mkBytes ?_ ?_
  · exact wpAny_pure ⟨_, rfl, hS⟩
  · have := encB_len x.cps.toList
    have h4 : sizeLine = 16777216 := by rw [sizeLine_eq]
    simp only [Array.length_toList, List.size_toArray] at *
    omega
end Mine
end
section
open PySem PySem.W PySem.Calls PyProof.Rows
set_option maxRecDepth 100000
set_option Elab.async false
namespace Mine
open Builtin Builtin.UnicodeEncodeError

abbrev excO (vs : Array Value) : Obj := { cls := .type "UnicodeDecodeError", data := .fields vs }
section
variable {M : Model} {A : Around} {E : Value → Shared → Prop} {s : Shared} {a : Addr}
theorem wp_members0 {f0 f1 f2 f3 f4 f5 : Value} {Q : Members → Shared → Prop} (ho : s.heap.get? a = some (excO #[f0, f1, f2, f3, f4, f5])) (h : Q {} s) : wpAny M A (members (.ref a)) Q E s := by
  unfold members
  refine wpAny_bind (wpAny_fieldsOf ho rfl ?_)
  exact wpAny_pure h
theorem wp_members {f0 f1 f2 f3 f4 f5 e o r : Value} {i j : Int} {ti tj : Tok} {Q : Members → Shared → Prop} (ho : s.heap.get? a = some (excO #[f0, f1, f2, f3, f4, f5, e, o, .int i ti, .int j tj, r])) (h : Q ⟨e, o, i, j, r⟩ s) : wpAny M A (members (.ref a)) Q E s := by
  unfold members
  refine wpAny_bind (wpAny_fieldsOf ho rfl ?_)
  exact wpAny_pure h
theorem wp_setMembers {f0 f1 f2 f3 f4 f5 : Value} {rest : List Value} {m : Members} {Q : Unit → Shared → Prop} (ho : s.heap.get? a = some (excO (f0 :: f1 :: f2 :: f3 :: f4 :: f5 :: rest).toArray))
    (h : ∀ h', h'.get? a = some (excO #[f0, f1, f2, f3, f4, f5, m.encoding, m.object, rawInt m.start, rawInt m.stop, m.reason]) → Heap.SameBut a s.heap h' → Q () { s with heap := h' }) : wpAny M A (setMembers (.ref a) m) Q E s := by
  unfold setMembers
  refine wpAny_updateFields ho rfl ?_ ?_
  · refine h _ ?_ (Heap.SameBut.update ..)
    have := Heap.get?_update_self (Obj.mapFields fun vs => vs.extract 0 6 ++ #[m.encoding, m.object, rawInt m.start, rawInt m.stop, m.reason]) ho rfl
    rw [this]
    simp [Obj.mapFields]
  · simp
    have h4 : sizeLine = 16777216 := by rw [sizeLine_eq]
    omega
theorem wp_setField0 {f0 x : Value} {rest : List Value} {Q : Unit → Shared → Prop} (ho : s.heap.get? a = some (excO (f0 :: rest).toArray))
    (h : ∀ h', h'.get? a = some (excO (x :: rest).toArray) → Heap.SameBut a s.heap h' → Q () { s with heap := h' }) : wpAny M A (setField (.ref a) 0 x) Q E s := by
  refine wpAny_setField ho rfl (by simp) ?_
  refine h _ ?_ (Heap.SameBut.update ..)
  have := Heap.get?_update_self (Obj.mapFields (·.setIfInBounds 0 x)) ho rfl
  rw [this]
  simp [Obj.mapFields]
end
theorem sub_dec_enc : isSubtype (.type "UnicodeDecodeError") (.type "UnicodeEncodeError") = pure false := by rw [isSubtype_type]; kernel_rfl
theorem sub_dec_dec : isSubtype (.type "UnicodeDecodeError") (.type "UnicodeDecodeError") = pure true := by rw [isSubtype_type]; kernel_rfl
theorem sub_dec_tr : isSubtype (.type "UnicodeDecodeError") (.type "UnicodeTranslateError") = pure false := by rw [isSubtype_type]; kernel_rfl
theorem mro_ude : mroOf (.type "UnicodeDecodeError") = pure [.type "UnicodeDecodeError", .type "UnicodeError", .type "ValueError", .type "Exception", .type "BaseException", .type "object"] := by rw [mroOf_type]; kernel_rfl
theorem lookup_ude_new : typeLookup (.type "UnicodeDecodeError") "__new__" = pure (some (.builtin "UnicodeDecodeError.__new__")) := by rw [typeLookup_type, builtinLookup_eq_fast]; kernel_rfl
theorem slot_ude_init : Slot "UnicodeDecodeError" "__init__" "UnicodeDecodeError.__init__" :=
  .of (owner := "UnicodeDecodeError") (n := "__init__") (by rw [typeLookup_type, builtinLookup_eq_fast]; kernel_rfl) (by decide +kernel) (by decide +kernel) (by decide +kernel)
    (by first | exact .inl (by decide +kernel) | exact .inr (by decide +kernel)) (by rw [isSubtype_type]; kernel_rfl)
theorem entry_ude_init : entryFor table "UnicodeDecodeError.__init__" = some Builtin.«UnicodeDecodeError.__init__» := entryFor_of_tree (by kernel_rfl)
theorem entry_ude_new : entryFor table "UnicodeDecodeError.__new__" = some Builtin.«BaseException.__new__» :=
  entryFor_alias (id' := "BaseException.__new__") (by rw [fastTable_eq_tree]; kernel_rfl) (by first | rfl | decide +kernel) (by decide +kernel) (by rw [fastTable_eq_tree]; kernel_rfl)
theorem called_ude : TypeCalled "UnicodeDecodeError" "UnicodeDecodeError.__new__" "UnicodeDecodeError.__init__" :=
  ⟨by decide +kernel, by decide +kernel, ⟨_, _, mro_ude⟩, madeBy_type mro_ude lookup_ude_new (by decide +kernel), by decide +kernel, sub_dec_dec, slot_ude_init⟩
theorem typeCall_ude (a b c d e : Value) : checkTypeCall "UnicodeDecodeError" ⟨[a, b, c, d, e], []⟩ = pure () := by kernel_rfl
theorem initCall_ude (x a b c d e : Value) : argsOk "UnicodeDecodeError.__init__" ⟨[x, a, b, c, d, e], []⟩ := by unfold argsOk; kernel_rfl
theorem newFacts_ude : ExcNewFacts "UnicodeDecodeError" "UnicodeDecodeError.__new__" :=
  ⟨by decide +kernel, by decide +kernel, entry_ude_new, sub_dec_dec, by rw [isSubtype_type]; kernel_rfl, by rw [isSubtype_type]; kernel_rfl, by kernel_rfl⟩

theorem newCall_ude (rest : List Value) : checkBuiltinCall "UnicodeDecodeError.__new__" ⟨.type "UnicodeDecodeError" :: rest, []⟩ = pure () := by kernel_rfl
section
variable {M : Model} {A : Around} {E : Value → Shared → Prop} {s : Shared} {a : Addr}
theorem wp_size {i : Int} {t : Tok} {id : String} {Q : Int → Shared → Prop} (h0 : 0 ≤ i) (h1 : i ≤ 4000) (h : Q i s) : wpAny M A (sizeArgument id (.int i t)) Q E s := by
  unfold sizeArgument
  refine wpAny_bind ?_
  show wpAny M A (pure i) _ _ _
  refine wpAny_pure ?_
  rw [if_neg (by simp; omega)]
  exact wpAny_pure h
theorem init_ude {f0 f1 f2 f3 f4 f5 : Value} {enc rs : Str} {t0 tb t1 t2 t3 : Tok} {b : Array UInt8} {i j : Int} {Q : Fin → Shared → Prop}
    (ho : s.heap.get? a = some (excO #[f0, f1, f2, f3, f4, f5])) (hi : 0 ≤ i ∧ i ≤ 4000) (hj : 0 ≤ j ∧ j ≤ 4000)
    (h : ∀ h' g0, h'.get? a = some (excO #[g0, f1, f2, f3, f4, f5, .str enc t0, .bytes b tb, rawInt i, rawInt j, .str rs t3]) → (∀ c o, c ≠ a → s.heap.get? c = some o → h'.get? c = some o) → Q (.done (.ret .none)) { s with heap := h' }) :
    wpAny M A (Builtin.«UnicodeDecodeError.__init__» ⟨[.ref a, .str enc t0, .bytes b tb, .int i t1, .int j t2, .str rs t3], []⟩) Q E s := by
  unfold Builtin.«UnicodeDecodeError.__init__»
  dsimp only
  refine wpAny_bind ?_
  unfold beginInit
  dsimp only
  rw [if_neg (by decide)]
  refine wpAny_bind (wpAny_field ho rfl rfl ?_)
  refine wpAny_bind (wpAny_newTuple ?_ (by simp [sizeLine_eq]))
  generalize hT : s.heap.push _ = hp1
  have k1 : ∀ c o, s.heap.get? c = some o → hp1.get? c = some o := fun c o e => by rw [← hT]; exact Heap.get?_push_of_some _ e
  have ho1 := k1 _ _ ho
  clear hT
  refine wpAny_bind (wp_setField0 (s := { s with heap := hp1 }) ho1 fun hp2 ho2 s2 => ?_)
  refine wpAny_bind (wpAny_letGo ?_)
  rw [if_pos (by decide)]
  refine wpAny_bind (wp_members0 ho2 ?_)
  refine wpAny_bind (wp_setMembers ho2 fun hp3 ho3 s3 => ?_)
  refine wpAny_bind (wpAny_letGo ?_)
  refine wpAny_bind (wp_members ho3 ?_)
  refine wpAny_bind (wp_setMembers ho3 fun hp4 ho4 s4 => ?_)
  refine wpAny_bind (wpAny_letGo ?_)
  refine wpAny_bind (wp_members ho4 ?_)
  refine wpAny_bind (wp_setMembers ho4 fun hp5 ho5 s5 => ?_)
  refine wpAny_bind (wpAny_letGo ?_)
  rw [if_neg (by simp)]
  refine wpAny_pure ?_
  dsimp only
  refine wpAny_bind ?_
  show wpAny M A (pure ()) _ _ _
  refine wpAny_pure ?_
  refine wpAny_bind ?_
  unfold initRange
  refine wpAny_bind (wp_size hi.1 hi.2 ?_)
  refine wpAny_bind (wp_members ho5 ?_)
  refine wpAny_bind (wp_setMembers ho5 fun hp6 ho6 s6 => ?_)
  refine wpAny_bind (wp_size hj.1 hj.2 ?_)
  refine wpAny_bind (wp_members ho6 ?_)
  refine wp_setMembers ho6 fun hp7 ho7 s7 => ?_
  refine wpAny_bind ?_
  show wpAny M A (pure ()) _ _ _
  refine wpAny_pure ?_
  refine wpAny_bind ?_
  show wpAny M A (pure (some b)) _ _ _
  refine wpAny_pure ?_
  rw [if_pos (by first | rfl | simp [isUnset])]
  refine wpAny_bind (wpAny_pure ?_)
  rw [if_pos (by first | rfl | simp [isUnset])]
  refine wpAny_bind (wpAny_pure ?_)
  rw [if_neg (by simp [isUnset])]
  refine wpAny_bind (wp_members ho7 ?_)
  refine wpAny_bind (wp_setMembers ho7 fun hp8 ho8 s8 => ?_)
  refine wpAny_pure ?_
  refine h _ _ ho8 fun c o hc e => ?_
  have e := k1 _ _ e
  rw [s8.2 c hc, s7.2 c hc, s6.2 c hc, s5.2 c hc, s4.2 c hc, s3.2 c hc, s2.2 c hc]
  exact e
end

section
variable {prog : Program} {w : World} {A : Around} {E : Value → Shared → Prop} {s : Shared}
theorem make_ude {enc rs : Str} {t0 tb t1 t2 t3 : Tok} {b : Array UInt8} {i j : Int} {Q : Value → Shared → Prop} (hi : 0 ≤ i ∧ i ≤ 4000) (hj : 0 ≤ j ∧ j ≤ 4000)
    (h : ∀ a h' g0 f1 f2 f3 f4 f5, s.heap.get? a = none → h'.get? a = some (excO #[g0, f1, f2, f3, f4, f5, .str enc t0, .bytes b tb, rawInt i, rawInt j, .str rs t3]) → (∀ c o, s.heap.get? c = some o → h'.get? c = some o) → Q (.ref a) { s with heap := h' }) :
    wpAny (model prog w) A (call (.type "UnicodeDecodeError") [.str enc t0, .bytes b tb, .int i t1, .int j t2, .str rs t3]) Q E s := by
  refine callType_codes (Q₁ := fun v s₁ => ∃ h', v = .ref (s.heap.objs.size + 1) ∧ s₁ = { s with heap := h' } ∧ (∀ c o, s.heap.get? c = some o → h'.get? c = some o) ∧ h'.get? (s.heap.objs.size + 1) = some (excO #[.ref s.heap.objs.size, .none, .none, .none, .bool false, .none])) called_ude (typeCall_ude _ _ _ _ _) entry_ude_init ?_ ?_
  · refine codeAny_call_builtin_code (Code.quiet_builtin _ (by decide +kernel)) (wpAny_of_eq (newCall_ude _) ?_)
    obtain ⟨hp, g, d, tk, os⟩ := s
    refine codeAny_exc_new newFacts_ude ?_ (by simp [sizeLine_eq])
    refine ⟨_, rfl, rfl, fun c o e => Heap.get?_push_of_some _ (Heap.get?_push_of_some _ e), ?_⟩
    heap_get
  · rintro obj s₁ ⟨h', rfl, rfl, k, ho⟩
    refine ⟨⟨_, ho, rfl⟩, initCall_ude _ _ _ _ _ _, ?_⟩
    refine init_ude ho hi hj fun h2 g0 ho2 k2 => ⟨rfl, ?_⟩
    refine h _ _ _ _ _ _ _ _ (Heap.get?_none_of_le (Nat.le_succ _)) ho2 fun c o e => k2 c o ?_ (k c o e)
    rintro rfl
    exact absurd (Heap.lt_size e) (Nat.not_lt.mpr (Nat.le_succ _))
end

-- the handler
theorem kind_rep : builtinKind "_codecs.lookup_error.replace_errors" = none := by decide +kernel
theorem plain_rep : plainId "_codecs.lookup_error.replace_errors" = true := by decide +kernel
theorem entry_rep : entryFor table "_codecs.lookup_error.replace_errors" = some Builtin.«_codecs.lookup_error.replace_errors» := entryFor_of_tree (by kernel_rfl)
theorem args_rep (a : Value) : argsOk "_codecs.lookup_error.replace_errors" ⟨[a], []⟩ := by unfold argsOk; kernel_rfl
theorem meets_rep {a : Addr} {b : Array UInt8} {tb ti tj : Tok} {i j : Int} (hj : 1 ≤ j ∧ j ≤ b.size) :
    Meets (Builtin.«_codecs.lookup_error.replace_errors» ⟨[.ref a], []⟩) (fun _ R s => (∃ g0 f1 f2 f3 f4 f5 e r, s.heap.get? a = some (excO #[g0, f1, f2, f3, f4, f5, e, .bytes b tb, .int i ti, .int j tj, r])) ∧
      R (.ok (.ret (.ref s.heap.objs.size))) { s with heap := s.heap.push { cls := .type "tuple", data := .seq #[.str ⟨#[0xFFFD]⟩ s.toks, .int j (s.toks + 1)] }, toks := s.toks + 2 }) := by
  refine .of_wp fun prog w A R s hS => ?_
  obtain ⟨⟨g0, f1, f2, f3, f4, f5, e, r, ho⟩, hR⟩ := hS
  unfold Builtin.«_codecs.lookup_error.replace_errors»
  refine wpAny_bind ?_
  show wpAny _ _ (pure (Value.ref a)) _ _ _
  refine wpAny_pure ?_
  refine wpAny_bind ?_
  unfold _codecs.seen
  refine wpAny_bind (wpAny_isInstance ⟨_, ho, rfl⟩ sub_dec_enc ?_)
  refine wpAny_bind (wpAny_isInstance ⟨_, ho, rfl⟩ sub_dec_dec ?_)
  refine wpAny_bind (wpAny_isInstance ⟨_, ho, rfl⟩ sub_dec_tr ?_)
  dsimp only
  rw [if_neg (by decide), if_pos rfl]
  refine wpAny_bind (wpAny_pure ?_)
  rw [if_neg (by decide)]
  refine wpAny_bind (wp_members ho ?_)
  rw [if_neg (by simp [isUnset])]
  rw [if_pos (by decide)]
  refine wpAny_bind (wpAny_pure ?_)
  rw [if_neg (by simp [Array.isEmpty]; intro e; rw [e] at hj; simp at hj; omega)]
  refine wpAny_pure ?_
  dsimp only
  rw [if_pos (by decide)]
  unfold _codecs.answer
  refine wpAny_bind (wpAny_mkStr ?_ (by simp [Str.length, sizeLine_eq]))
  refine wpAny_bind (wpAny_mkInt ?_)
  refine wpAny_bind (wpAny_newTuple ?_ (by simp [sizeLine_eq]))
  refine wpAny_pure ?_
  refine ⟨_, rfl, ?_⟩
  have hj' : min (max j 1) ((b.map (·.toNat)).size : Int) = j := by simp; omega
  simp only [hj']
  exact hR
end Mine
end
section
open PySem PySem.W PySem.Calls PyProof.Rows
set_option maxRecDepth 100000
set_option Elab.async false
namespace Mine
open Builtin Builtin.UnicodeEncodeError

abbrev HR : Value := .builtin "_codecs.lookup_error.replace_errors"
def Err (h : Heap) (a : Addr) (b : Array UInt8) : Prop := ∃ g0 f1 f2 f3 f4 f5 e tb i ti j tj r, h.get? a = some (excO #[g0, f1, f2, f3, f4, f5, e, .bytes b tb, .int i ti, .int j tj, r])
def FOk (s₀ : Shared) (b : Array UInt8) (st : _codecs.Faults) (s : Shared) : Prop :=
  st = {} ∨ ∃ a, st = { handler := some HR, exc := some (.ref a), held := [] } ∧ s₀.heap.get? a = none ∧ Err s.heap a b
theorem sub_tuple : isSubtype (.type "tuple") (.type "tuple") = pure true := by rw [isSubtype_type]; kernel_rfl
theorem kp_same {s₀ s : Shared} {a : Addr} {h' : Heap} (k : Kp s₀ s) (ha : s₀.heap.get? a = none) (hs : Heap.SameBut a s.heap h') : Kp s₀ { s with heap := h' } := by
  obtain ⟨h, t, rfl, kk⟩ := k
  refine ⟨h', t, rfl, fun c o e => ?_⟩
  rw [hs.2 c (by rintro rfl; rw [ha] at e; cases e)]
  exact kk c o e
section
variable {prog : Program} {w : World} {A : Around} {E : Value → Shared → Prop} {s s₀ : Shared}

theorem fault {id : String} {b : Array UInt8} {st : _codecs.Faults} {start stop : Nat} {reason : String} {Q : _codecs.Faults × Array Nat × Nat → Shared → Prop}
    (h1 : start < stop) (h2 : stop ≤ b.size) (hb : b.size ≤ 4000) (hr : (PySem.Str.ofString reason).length ≤ 1000) (hf : FOk s₀ b st s) (k : Kp s₀ s)
    (h : ∀ st' s', FOk s₀ b st' s' → Kp s₀ s' → Q (st', #[65533], stop) s') :
    wpAny (model prog w) A (_codecs.decodeFault id st (some "replace") ["ignore", "replace", "surrogateescape"] "utf-8" b start stop reason) Q E s := by
  unfold _codecs.decodeFault
  refine wpAny_bind ?_
  refine wpAny_mono (Q := fun v s' => v = HR ∧ s' = s) ?_ ?_ fun _ _ x => x
  · rcases hf with rfl | ⟨a, rfl, _, _⟩
    · exact wpAny_of_eq (by kernel_rfl) ⟨rfl, rfl⟩
    · exact wpAny_of_eq (by kernel_rfl) ⟨rfl, rfl⟩
  rintro _ _ ⟨rfl, rfl⟩
  refine wpAny_bind (wpAny_holding ?_)
  refine wpAny_mono (Q := fun v s' => ∃ a, v = .ref a ∧ s₀.heap.get? a = none ∧ Kp s₀ s' ∧ ∃ g0 f1 f2 f3 f4 f5 e tb ti tj r, s'.heap.get? a = some (excO #[g0, f1, f2, f3, f4, f5, e, .bytes b tb, .int start ti, .int stop tj, r])) ?_ ?_ fun _ _ x => x
  · rcases hf with rfl | ⟨a, rfl, ha, g0, f1, f2, f3, f4, f5, e, tb, i, ti, j, tj, r, ho⟩
    · show wpAny _ _ (mkStr (PySem.Str.ofString "utf-8") >>= fun c => mkBytes b >>= fun o => mkInt start >>= fun i => mkInt stop >>= fun j => mkStr (PySem.Str.ofString reason) >>= fun r => call (.type "UnicodeDecodeError") [c, o, i, j, r]) _ _ _
      refine wpAny_bind (wpAny_mkStr ?_ (by decide))
      refine wpAny_bind (wpAny_mkBytes ?_ (by rw [sizeLine_eq]; omega))
      refine wpAny_bind (wpAny_mkInt ?_)
      refine wpAny_bind (wpAny_mkInt ?_)
      refine wpAny_bind (wpAny_mkStr ?_ (by rw [sizeLine_eq]; omega))
      refine make_ude ⟨by omega, by omega⟩ ⟨by omega, by omega⟩ fun a h' g0 f1 f2 f3 f4 f5 ha ho kk => ?_
      refine ⟨a, rfl, ?_, ?_, g0, f1, f2, f3, f4, f5, _, _, _, _, _, ho⟩
      · cases e : s₀.heap.get? a with
        | none => rfl
        | some o => exact absurd (k.get _ _ e) (by rw [show _ = none from ha]; exact fun x => nomatch x)
      · exact k.trans (Kp.mk kk)
    · show wpAny _ _ (members (.ref a) >>= fun m => mkStr (PySem.Str.ofString reason) >>= fun r => setMembers (.ref a) { m with start := start, stop := stop, reason := r } >>= fun _ => pure (Value.ref a)) _ _ _
      refine wpAny_bind (wp_members ho ?_)
      refine wpAny_bind (wpAny_mkStr ?_ (by rw [sizeLine_eq]; omega))
      refine wpAny_bind (wp_setMembers ho fun h' ho' hs => ?_)
      refine wpAny_pure ?_
      refine ⟨a, rfl, ha, ?_, g0, f1, f2, f3, f4, f5, _, _, _, _, _, ho'⟩
      exact kp_same (k.trans (Kp.tok _ _)) ha hs
  rintro _ s1 ⟨a, rfl, ha, k1, g0, f1, f2, f3, f4, f5, e, tb, ti, tj, r, ho⟩
  clear k
  have hheld : st.held = [] := by rcases hf with rfl | ⟨a, rfl, _⟩ <;> rfl
  rw [hheld]
  refine wpAny_bind ?_
  show wpAny _ _ (members (.ref a) >>= _) _ _ _
  refine wpAny_bind (wp_members ho ?_)
  show wpAny _ _ (holding [HR, .ref a] (call HR [.ref a]) >>= _) _ _ _
  refine wpAny_bind (wpAny_holding ?_)
  refine call_function_meets kind_rep plain_rep entry_rep (args_rep _) (meets_rep (b := b) (i := start) (j := stop) (tb := tb) (ti := ti) (tj := tj) ⟨by omega, by omega⟩) ⟨⟨g0, f1, f2, f3, f4, f5, e, r, ho⟩, ?_⟩
  generalize hs2 : ({ s1 with heap := _, toks := _ } : Shared) = s2
  have ho2 : s2.heap.get? a = some (excO #[g0, f1, f2, f3, f4, f5, e, .bytes b tb, .int start ti, .int stop tj, r]) := by rw [← hs2]; exact Heap.get?_push_of_some _ ho
  have k2 : Kp s₀ s2 := by rw [← hs2]; exact k1.trans (Kp.mk fun c o e => Heap.get?_push_of_some _ e)
  have hp2 : s2.heap.get? s1.heap.objs.size = some { cls := .type "tuple", data := .seq #[.str ⟨#[0xFFFD]⟩ s1.toks, .int stop (s1.toks + 1)] } := by rw [← hs2]; exact Heap.get?_push_at rfl rfl
  refine wpAny_bind (wp_members ho2 ?_)
  dsimp only
  split
  · rename_i hc
    exact absurd hc (by show ¬ (!(tb == tb && b == b)) = true; simp)
  refine wpAny_pure ?_
  refine wpAny_holding ?_
  refine wpAny_bind ?_
  show wpAny _ _ (isInstance (.ref s1.heap.objs.size) (.type "tuple") >>= _) _ _ _
  refine wpAny_bind (wpAny_isInstance ⟨_, hp2, rfl⟩ sub_tuple ?_)
  rw [if_neg (by decide)]
  refine wpAny_bind (wpAny_seqItems hp2 rfl ?_)
  show wpAny _ _ (pure (some ((Value.str ⟨#[0xFFFD]⟩ s1.toks, Value.int stop (s1.toks + 1)) : Value × Value))) _ _ _
  refine wpAny_pure ?_
  dsimp only
  refine wpAny_bind ?_
  show wpAny _ _ (pure (some (⟨#[0xFFFD]⟩ : PySem.Str))) _ _ _
  refine wpAny_pure ?_
  dsimp only
  refine wpAny_bind ?_
  show wpAny _ _ (asIndex (.int stop (s1.toks + 1)) >>= _) _ _ _
  refine wpAny_bind ?_
  show wpAny _ _ (pure ((stop : Int))) _ _ _
  refine wpAny_pure ?_
  dsimp only
  rw [if_neg (by simp; omega)]
  refine wpAny_pure ?_
  refine wpAny_bind ?_
  refine wpAny_mono (Q := fun n s' => n = stop ∧ s' = s2) ?_ ?_ fun _ _ x => x
  · show wpAny _ _ (if ((decide ((if (stop : Int) < 0 then (stop : Int) + (b.size : Int) else (stop : Int)) < 0) || decide ((if (stop : Int) < 0 then (stop : Int) + (b.size : Int) else (stop : Int)) > (b.size : Int))) = true) then _ else _) _ _ _
    rw [if_neg (by simp; omega)]
    rw [if_neg (by simp; omega)]
    refine wpAny_pure ⟨?_, rfl⟩
    rw [if_neg (by omega)]
    simp
  rintro _ _ ⟨rfl, rfl⟩
  refine wpAny_pure ?_
  exact h _ _ (.inr ⟨a, rfl, ha, _, _, _, _, _, _, _, _, _, _, _, _, _, ho2⟩) k2
end
end Mine
end
section
set_option maxRecDepth 100000
set_option Elab.async false
set_option linter.all false
namespace Mine
open PySem PySem.Builtin

def mor (c : Nat) : Nat := if c < 194 ∨ 244 < c then 0 else if c < 224 then 1 else if c < 240 then 2 else 3
def lo1 (c : Nat) : Nat := if c = 224 then 160 else if c = 240 then 144 else 128
def hi1 (c : Nat) : Nat := if c = 237 then 159 else if c = 244 then 143 else 191
def fst2 (c x : Nat) : Bool := decide (lo1 c ≤ x ∧ x ≤ hi1 c)
def cnt1 (x : Nat) : Bool := decide (128 ≤ x ∧ x ≤ 191)
/-- one step of reading octets: the sign, and how many octets it takes -/
def stp : List Nat → Nat × Nat
  | [] => (65533, 1)
  | c :: r => if c < 128 then (c, 1) else if mor c = 0 then (65533, 1) else
    match r with
    | [] => (65533, 1)
    | x :: r => if fst2 c x = false then (65533, 1) else if mor c = 1 then (c % 32 * 64 + x % 64, 2) else
      match r with
      | [] => (65533, 2)
      | y :: r => if cnt1 y = false then (65533, 2) else if mor c = 2 then ((c % 16 * 64 + x % 64) * 64 + y % 64, 3) else
        match r with
        | [] => (65533, 3)
        | z :: _ => if cnt1 z = false then (65533, 3) else (((c % 8 * 64 + x % 64) * 64 + y % 64) * 64 + z % 64, 4)
theorem stp_pos (l : List Nat) : 1 ≤ (stp l).2 := by
  unfold stp
  repeat' split
  all_goals simp
theorem stp_le {l : List Nat} (h : l ≠ []) : (stp l).2 ≤ l.length := by
  unfold stp
  repeat' split
  all_goals simp_all
def okR (r : String) : Prop := r = "invalid start byte" ∨ r = "unexpected end of data" ∨ r = "invalid continuation byte"
theorem utf8At_eq {b : Array UInt8} {p : Nat} (h : p < b.size) :
    (Bytes.utf8At b p = (.char (stp ((b.toList.drop p).map (·.toNat))).1, p + (stp ((b.toList.drop p).map (·.toNat))).2)) ∨
    ∃ r, okR r ∧ Bytes.utf8At b p = (.bad p (p + (stp ((b.toList.drop p).map (·.toNat))).2) r, p + (stp ((b.toList.drop p).map (·.toNat))).2) ∧ (stp ((b.toList.drop p).map (·.toNat))).1 = 65533 := by
  have hd : b.toList.drop p = b[p] :: b.toList.drop (p+1) := by
    rw [← Array.getElem_toList h]; exact List.drop_eq_getElem_cons (by simpa using h)
  have hg : b.getD p 0 = b[p] := by simp [Array.getD, h]
  have hk : ∀ k, b[p + (k + 1)]? = (b.toList.drop (p+1))[k]? := by
    intro k; rw [List.getElem?_drop, ← Array.getElem?_toList]; congr 1; omega
  have hl : b.size = p + 1 + (b.toList.drop (p+1)).length := by simp; omega
  rw [hd]
  generalize b.toList.drop (p+1) = R at hk hl
  have hk0 := hk 0
  have hk1 := hk 1
  have hk2 := hk 2
  clear hk
  obtain ⟨X, hX⟩ : ∃ X, X = Bytes.utf8At b p := ⟨_, rfl⟩
  rw [← hX]
  unfold Bytes.utf8At at hX
  simp only [hg] at hX
  have h256 : (b[p]).toNat < 256 := UInt8.toNat_lt _
  rw [List.map_cons]
  generalize (b[p]).toNat = c at *
  by_cases h128 : c < 128
  · rw [if_pos h128] at hX
    left
    rw [hX]
    simp [stp, h128]
  rw [if_neg h128] at hX
  split at hX
  · rename_i heq
    have hm : mor c = 0 := by
      simp only [Bool.and_eq_true, decide_eq_true_eq, beq_iff_eq] at heq
      repeat' split at heq
      all_goals first | cases heq | skip
      unfold mor; rw [if_pos (by omega)]
    right
    refine ⟨_, .inl rfl, ?_, ?_⟩
    · rw [hX]; simp [stp, h128, hm]
    · simp [stp, h128, hm]
  · rename_i more lo hi heq
    have hm : mor c = more ∧ lo1 c = lo ∧ hi1 c = hi ∧ (more = 1 ∨ more = 2 ∨ more = 3) ∧ 128 ≤ lo := by
      simp only [Bool.and_eq_true, decide_eq_true_eq, beq_iff_eq] at heq
      repeat' split at heq
      all_goals first | cases heq | skip
      all_goals (unfold mor lo1 hi1; refine ⟨?_, ?_, ?_, by decide, by decide⟩)
      all_goals (repeat' split)
      all_goals omega
    obtain ⟨hm, hlo, hhi, h123, hlo2⟩ := hm
    clear heq
    rcases h123 with rfl | rfl | rfl
    all_goals (
      subst lo hi
      simp only [List.range, List.range.loop, List.map_cons, List.map_nil, List.foldl_cons, List.foldl_nil] at hX
      rcases R with _ | ⟨x, R⟩
      · (simp only [List.getElem?_nil, List.getElem?_cons_zero, List.getElem?_cons_succ, Nat.zero_add, Nat.reduceAdd] at hk0 hk1 hk2; simp only [Except.bind, hk0, Nat.zero_add, beq_self_eq_true, if_true, Nat.reduceAdd, Nat.reduceBEq, Bool.false_eq_true, if_false, hk1, hk2] at hX; clear hk0 hk1 hk2 hd hg h; simp [stp, fst2, cnt1, okR, *] at hX ⊢)
      · by_cases hx : lo1 c ≤ x.toNat ∧ x.toNat ≤ hi1 c
        · rcases R with _ | ⟨y, R⟩
          · (simp only [List.getElem?_nil, List.getElem?_cons_zero, List.getElem?_cons_succ, Nat.zero_add, Nat.reduceAdd] at hk0 hk1 hk2; simp only [Except.bind, hk0, Nat.zero_add, beq_self_eq_true, if_true, Nat.reduceAdd, Nat.reduceBEq, Bool.false_eq_true, if_false, hk1, hk2] at hX; clear hk0 hk1 hk2 hd hg h; simp [stp, fst2, cnt1, okR, *] at hX ⊢)
          · by_cases hy : 128 ≤ y.toNat ∧ y.toNat ≤ 191
            · rcases R with _ | ⟨z, R⟩
              · (simp only [List.getElem?_nil, List.getElem?_cons_zero, List.getElem?_cons_succ, Nat.zero_add, Nat.reduceAdd] at hk0 hk1 hk2; simp only [Except.bind, hk0, Nat.zero_add, beq_self_eq_true, if_true, Nat.reduceAdd, Nat.reduceBEq, Bool.false_eq_true, if_false, hk1, hk2] at hX; clear hk0 hk1 hk2 hd hg h; simp [stp, fst2, cnt1, okR, *] at hX ⊢)
              · by_cases hz : 128 ≤ z.toNat ∧ z.toNat ≤ 191
                · (simp only [List.getElem?_nil, List.getElem?_cons_zero, List.getElem?_cons_succ, Nat.zero_add, Nat.reduceAdd] at hk0 hk1 hk2; simp only [Except.bind, hk0, Nat.zero_add, beq_self_eq_true, if_true, Nat.reduceAdd, Nat.reduceBEq, Bool.false_eq_true, if_false, hk1, hk2] at hX; clear hk0 hk1 hk2 hd hg h; simp [stp, fst2, cnt1, okR, *] at hX ⊢)
                · (simp only [List.getElem?_nil, List.getElem?_cons_zero, List.getElem?_cons_succ, Nat.zero_add, Nat.reduceAdd] at hk0 hk1 hk2; simp only [Except.bind, hk0, Nat.zero_add, beq_self_eq_true, if_true, Nat.reduceAdd, Nat.reduceBEq, Bool.false_eq_true, if_false, hk1, hk2] at hX; clear hk0 hk1 hk2 hd hg h; simp [stp, fst2, cnt1, okR, *] at hX ⊢)
            · (simp only [List.getElem?_nil, List.getElem?_cons_zero, List.getElem?_cons_succ, Nat.zero_add, Nat.reduceAdd] at hk0 hk1 hk2; simp only [Except.bind, hk0, Nat.zero_add, beq_self_eq_true, if_true, Nat.reduceAdd, Nat.reduceBEq, Bool.false_eq_true, if_false, hk1, hk2] at hX; clear hk0 hk1 hk2 hd hg h; simp [stp, fst2, cnt1, okR, *] at hX ⊢)
        · (simp only [List.getElem?_nil, List.getElem?_cons_zero, List.getElem?_cons_succ, Nat.zero_add, Nat.reduceAdd] at hk0 hk1 hk2; simp only [Except.bind, hk0, Nat.zero_add, beq_self_eq_true, if_true, Nat.reduceAdd, Nat.reduceBEq, Bool.false_eq_true, if_false, hk1, hk2] at hX; clear hk0 hk1 hk2 hd hg h; simp [stp, fst2, cnt1, okR, *] at hX ⊢))

def decL : Nat → List Nat → List Nat
  | 0, _ => []
  | n + 1, l => if l = [] then [] else (stp l).1 :: decL n (l.drop (stp l).2)
def dec (l : List Nat) : List Nat := decL l.length l
theorem decL_fuel : ∀ (n m : Nat) (l : List Nat), l.length ≤ n → l.length ≤ m → decL n l = decL m l
  | 0, 0, l, _, _ => rfl
  | 0, m + 1, l, h, _ => by
    have : l = [] := List.length_eq_zero_iff.mp (by omega)
    subst this; simp [decL]
  | n + 1, 0, l, _, h => by
    have : l = [] := List.length_eq_zero_iff.mp (by omega)
    subst this; simp [decL]
  | n + 1, m + 1, l, h1, h2 => by
    rw [decL, decL]
    by_cases hl : l = []
    · rw [if_pos hl, if_pos hl]
    · rw [if_neg hl, if_neg hl]
      have := stp_pos l
      rw [decL_fuel n m (l.drop (stp l).2) (by rw [List.length_drop]; omega) (by rw [List.length_drop]; omega)]
theorem dec_nil : dec [] = [] := rfl
theorem dec_ne {l : List Nat} (h : l ≠ []) : dec l = (stp l).1 :: dec (l.drop (stp l).2) := by
  unfold dec
  have h1 := stp_pos l
  have h3 : 0 < l.length := List.length_pos_iff.mpr h
  obtain ⟨n, hn⟩ : ∃ n, l.length = n + 1 := ⟨l.length - 1, by omega⟩
  rw [hn, decL, if_neg h, decL_fuel n (l.drop (stp l).2).length _ (by rw [List.length_drop]; omega) (Nat.le_refl _)]
end Mine
end
section
open PySem PySem.W PySem.Calls PyProof.Rows
set_option maxRecDepth 100000
set_option Elab.async false
namespace Mine
open Builtin Builtin.UnicodeEncodeError

section
variable {prog : Program} {w : World} {A : Around} {E : Value → Shared → Prop} {s : Shared}
theorem run_dec {id : String} {b : Array UInt8} {Q : Array Nat × Nat → Shared → Prop} (hb : b.size ≤ 4000)
    (h : ∀ p s', Kp s s' → Q ((dec (b.toList.map (·.toNat))).toArray, p) s') :
    wpAny (model prog w) A (_codecs.runDecoder id _codecs.utf8Decoder (some "replace") true b 0 []) Q E s := by
  unfold _codecs.runDecoder
  dsimp only
  refine wpAny_bind (wp_range _ (fun k x s' => Kp s s' ∧ FOk s b x.2.2 s' ∧ x.2.1.size ≤ k ∧ x.2.1.toList ++ decL (b.size - k) ((b.toList.drop x.1).map (·.toNat)) = dec (b.toList.map (·.toNat))) _ _ _ ⟨Kp.rfl _, .inl rfl, by simp, by simp [dec]⟩ ?_ ?_)
  · rintro k ⟨p, out, st⟩ s' hk ⟨kp, hf, hsz, ho⟩
    dsimp only at hf hsz ho ⊢
    rw [if_neg (by rw [sizeLine_eq]; omega)]
    rw [show b.size - k = (b.size - (k + 1)) + 1 by omega, decL] at ho
    by_cases hp : p ≥ b.size
    · have hnil : (b.toList.drop p).map (·.toNat) = [] := by rw [List.drop_of_length_le (by simpa using hp)]; rfl
      rw [if_pos hnil] at ho
      rw [if_pos hp]
      refine wpAny_pure ?_
      refine wpAny_pure ?_
      rw [List.append_nil] at ho
      have : out = (dec (b.toList.map (·.toNat))).toArray := by rw [← ho]
      dsimp only
      rw [this]; exact h _ _ kp
    · have hlt : p < b.size := by omega
      have hnn : (b.toList.drop p).map (·.toNat) ≠ [] := by
        intro e
        have := congrArg List.length e
        simp at this; omega
      rw [if_neg hnn] at ho
      rw [if_neg hp]
      have hle := stp_le hnn
      have hpos := stp_pos ((b.toList.drop p).map (·.toNat))
      have hlen : ((b.toList.drop p).map (·.toNat)).length = b.size - p := by simp
      have hdrop : List.drop (stp ((b.toList.drop p).map (·.toNat))).2 ((b.toList.drop p).map (·.toNat)) = (b.toList.drop (p + (stp ((b.toList.drop p).map (·.toNat))).2)).map (·.toNat) := by
        rw [← List.map_drop, List.drop_drop]
      rw [hdrop] at ho
      generalize hv : stp ((b.toList.drop p).map (·.toNat)) = vn at ho hle hpos hdrop
      obtain ⟨v, n⟩ := vn
      dsimp only at ho hle hpos
      have hu := utf8At_eq hlt
      rw [hv] at hu
      dsimp only at hu
      rcases hu with hu | ⟨r, hr, hu, rfl⟩
      · have hfind : _codecs.utf8Decoder.find true b p = .text [v] (p + n) := by
          show (match Bytes.utf8At b p with | (.char c, nx) => _codecs.Found.char c nx | (.bad _ stop reason, _) => _) = _
          rw [hu]; rfl
        rw [hfind]
        refine wpAny_pure ⟨kp, hf, ?_, ?_⟩
        · simp; omega
        · rw [← ho]; simp
      · have hfind : ∃ g, _codecs.utf8Decoder.find true b p = .bad (p + n) r g := by
          simp only [_codecs.utf8Decoder, hu]
          exact ⟨_, rfl⟩
        obtain ⟨g, hfind⟩ := hfind
        rw [hfind]
        dsimp only
        rw [if_neg (by simp)]
        refine wpAny_bind (wpAny_rule ?_)
        refine wpAny_bind ?_
        refine fault (by omega) (by omega) hb ?_ hf kp fun st' s'' hf' kp' => ?_
        · rcases hr with rfl | rfl | rfl <;> decide
        refine wpAny_pure ⟨kp', hf', ?_, ?_⟩
        · simp; omega
        · rw [← ho]; simp
  · rintro ⟨p, out, st⟩ s' ⟨kp, hf, hsz, ho⟩
    dsimp only at hf hsz ho ⊢
    refine wpAny_pure ?_
    rw [Nat.sub_self, decL, List.append_nil] at ho
    have : out = (dec (b.toList.map (·.toNat))).toArray := by rw [← ho]
    rw [this]; exact h _ _ kp
end
end Mine
end
section
open PySem PySem.W PySem.Calls PyProof.Rows
set_option maxRecDepth 100000
set_option Elab.async false
namespace Mine
open Builtin
section
variable {b : Array UInt8} {c : UInt8} {cs : List UInt8} {t t1 t2 : Tok}
def nat (l : List UInt8) : List Nat := l.map (·.toNat)
theorem road2 {id : String} : _codecs.decodeRoad id b (PySem.Str.ofString "utf-8") (some (PySem.Str.ofString "replace")) [] = (_codecs.runDecoder id _codecs.utf8Decoder (some (PySem.Str.ofString "replace")) true b 0 [] >>= fun r => mkStr ⟨r.1⟩) := by kernel_rfl
theorem dec_len : ∀ (n : Nat) (l : List Nat), (decL n l).length ≤ n
  | 0, _ => Nat.le_refl _
  | n + 1, l => by
    rw [decL]
    split
    · exact Nat.zero_le _
    · rw [List.length_cons]; exact Nat.succ_le_succ (dec_len n _)
theorem meets_text2 {d : PySem.Str} {t3 : Tok} (hb : b.size ≤ 4000) :
    Meets («_codecs.decode.text» ⟨[.bytes b t, .str (PySem.Str.ofString "utf-8") t1, .str (PySem.Str.ofString "replace") t2, .str d t3], []⟩) (fun _ R s => ∀ t' s', Kp s s' → R (.ok (.ret (.str (txt (dec (nat b.toList))) t'))) s') := by
  refine .of_wp fun prog w A R s h => ?_
  show wpAny _ _ (Bytes.bytesLike _ (.bytes b t) >>= fun r => _) _ _ s
  refine wpAny_bind (wpAny_of_eq KBd.like_eq ?_)
  refine wpAny_bind (wpAny_of_eq KBd.held_eq ?_)
  show wpAny _ _ (_codecs.decodeRoad _ b (PySem.Str.ofString "utf-8") (some (PySem.Str.ofString "replace")) [] >>= fun v => _) _ _ s
  rw [road2]
  refine wpAny_bind (wpAny_bind (run_dec hb fun p s' k => ?_))
  refine wpAny_mkStr ?_ ?_
  · exact wpAny_pure ⟨_, rfl, h _ _ (k.trans (Kp.tok _ _))⟩
  · rw [sizeLine_eq]
    have := dec_len (b.toList.map (·.toNat)).length (b.toList.map (·.toNat))
    simp [Str.length, dec] at *
    omega
theorem entry2 : «bytes.decode» ⟨[.bytes (c :: cs).toArray t, .str (PySem.Str.ofString "utf-8") t1, .str (PySem.Str.ofString "replace") t2], []⟩ =
    (mkStr (PySem.Str.ofString "utf-8") >>= fun _ => mkStr (PySem.Str.ofString "utf-8") >>= fun e => mkStr (PySem.Str.ofString "replace") >>= fun r => mkStr (PySem.Str.ofString "bytes.decode") >>= fun d =>
    call (.builtin "_codecs.decode.text") [.bytes (c :: cs).toArray t, e, r, d] >>= fun v => ret v) := by kernel_rfl
theorem entry2e : «bytes.decode» ⟨[.bytes #[] t, .str (PySem.Str.ofString "utf-8") t1, .str (PySem.Str.ofString "replace") t2], []⟩ =
    (rule "bytes.decode.empty" >>= fun _ => retStr Str.empty) := by kernel_rfl
theorem meets_dec (l : List UInt8) (hb : l.length ≤ 4000) :
    Meets («bytes.decode» ⟨[.bytes l.toArray t, .str (PySem.Str.ofString "utf-8") t1, .str (PySem.Str.ofString "replace") t2], []⟩) (fun _ R s => ∀ t' s', Kp s s' → R (.ok (.ret (.str (txt (dec (nat l))) t'))) s') := by
  refine .of_wp fun prog w A R s h => ?_
  cases l with
  | nil =>
    rw [entry2e]
    refine wpAny_bind (wpAny_rule ?_)
    unfold retStr
    refine wpAny_bind (wpAny_mkStr ?_ (by decide))
    exact wpAny_pure ⟨_, rfl, h _ _ (Kp.tok _ _)⟩
  | cons c cs =>
    rw [entry2]
    refine wpAny_bind (wpAny_mkStr ?_ (by decide))
    refine wpAny_bind (wpAny_mkStr ?_ (by decide))
    refine wpAny_bind (wpAny_mkStr ?_ (by decide))
    refine wpAny_bind (wpAny_mkStr ?_ (by decide))
    refine wpAny_bind (call_function_meets KBd.kind_text KBd.plain_text KBd.entry_text (KBd.args_text _ _ _ _) (meets_text2 (by simpa using hb)) fun t' s' k => ?_)
    refine wpAny_pure ⟨_, rfl, h _ _ ?_⟩
    exact Kp.trans (Kp.tok s _) k
end
theorem args_dec3 (a b c : Value) : argsOk "bytes.decode" ⟨[a, b, c], []⟩ := by unfold argsOk; kernel_rfl
section
variable {prog : Program} {w : World} {A : Around} {E : Value → Shared → Prop} {s : Shared}
theorem method2_meets {T : String} {name : Str} {id : String} {B : Builtin} {self : Value} {pos : Pos} {x y : Sem Value} {Q : Value → Shared → Prop} (slot : Slot T name id) (entry : entryFor table id = some B)
    (h : wpAny (model prog w) A x (fun v s₁ => wpAny (model prog w) A y (fun u s₂ => s₂.TypeIs self T ∧ argsOk id ⟨[self, v, u], []⟩ ∧
      ∃ S, Meets (B ⟨[self, v, u], []⟩) S ∧ S A (wants Q E) s₂) E s₁) E s) :
    wpAny (model prog w) A (callWith pos (.builtin id) [self] [(false, x), (false, y)] []) Q E s :=
  method_meets slot entry rfl (Calls.evalArgs_plain (Calls.spliced_cons (wpAny_mono h (fun _ _ h₁ =>
    Calls.spliced_cons (wpAny_mono h₁ (fun _ _ h₂ => Calls.spliced_nil ⟨rfl, h₂⟩) fun _ _ e => e)) fun _ _ e => e)))
end
def san (cs : List Nat) : List Nat := dec (nat (encB cs))
section
variable {w : World} {mean : ExcName → Option Value} {mg mb : Str → Option Value} {A : Around} {E : Value → Shared → Prop} {s : Shared} {Q : Value → Shared → Prop}
theorem san_call {cs : List Nat} {t : Tok} (G : G0 w mean mg mb s.heap) (hA : AOk A 1) (hc : ∀ c ∈ cs, okC c) (hsz : cs.length ≤ 1000) (h : ∀ t' s', Kp s s' → Q (.str (txt (san cs)) t') s') :
    wpAny (model pw w) A (call (.ref 21) [.str (txt cs) t]) Q E s := by
  refine callDef (d := dOf 1) (binds := [("string", .str (txt cs) t)]) G hA (by rw [recs_eq]; simp) G.m_san (fun _ _ _ => rfl) (fun cd s₁ F => ?_)
  refine wpAny_execs_cons ?_
  refine s_assign F ?_
  refine wpAny_Call_method (T := "str") (id := "str.encode") rfl rfl rfl PySem.F.plainAttrs_str PySem.F.slot_str_encode PySem.F.type_str_encode ?_
  refine e_local F.ns rfl ?_
  refine ⟨typeIs_str _ _ _, (fun _ e => nomatch e), ?_⟩
  refine method2_meets PySem.F.slot_str_encode PySem.F.entry_str_encode ?_
  rw [if_neg (by decide)]
  refine e_str fun t1 s₂ k₂ => ?_
  rw [if_neg (by decide)]
  refine e_str fun t2 s₃ k₃ => ?_
  refine ⟨typeIs_str _ _ _, PySem.F.args_str_encode_3 _ _ _, _, meets_enc (by simpa [txt] using hc) (by simpa [txt] using hsz), ?_⟩
  refine ⟨(k₂.trans k₃).trans (Kp.tok _ _), fun s₄ F₄ _ => ?_⟩
  dsimp only
  refine wpAny_execs_cons ?_
  refine wpAny_Return_some ?_
  refine wpAny_Call_method (T := "bytes") (id := "bytes.decode") rfl rfl rfl FB.plainAttrs_bytes FB.slot_bytes_decode FB.type_bytes_decode ?_
  refine e_local F₄.ns (if_pos rfl) ?_
  refine ⟨typeIs_bytes _ _ _, (fun _ e => nomatch e), ?_⟩
  refine method2_meets FB.slot_bytes_decode FB.entry_bytes_decode ?_
  rw [if_neg (by decide)]
  refine e_str fun t3 s₅ k₅ => ?_
  rw [if_neg (by decide)]
  refine e_str fun t4 s₆ k₆ => ?_
  refine ⟨typeIs_bytes _ _ _, args_dec3 _ _ _, _, meets_dec _ ?_, fun t' s' k' => ⟨_, rfl, ?_⟩⟩
  · have := encB_len cs
    simp only [txt] at *
    omega
  · exact h _ _ (F₄.kp.trans ((k₅.trans k₆).trans k'))
end
end Mine
end
section
set_option maxRecDepth 100000
set_option Elab.async false
set_option linter.all false
namespace Mine
open PySem

theorem fst2_cont {c x : Nat} (h : fst2 c x = true) : 128 ≤ x ∧ x ≤ 191 := by
  unfold fst2 lo1 hi1 at h
  have h := of_decide_eq_true h
  repeat' split at h
  all_goals omega
theorem cnt1_cont {x : Nat} (h : cnt1 x = true) : 128 ≤ x ∧ x ≤ 191 := of_decide_eq_true h
/-- a step that sees more octets takes the same, or the octets before were all one beginning -/
theorem stp_app {a b : List Nat} (ha : a ≠ []) : stp (a ++ b) = stp a ∨
    (stp a = (65533, a.length) ∧ a.length < (stp (a ++ b)).2 ∧ ∀ x ∈ b.take ((stp (a ++ b)).2 - a.length), 128 ≤ x ∧ x ≤ 191) := by
  rcases a with _ | ⟨c, a⟩
  · exact absurd rfl ha
  clear ha
  by_cases hc : c < 128
  · left; simp [stp, hc]
  by_cases hm : mor c = 0
  · left; simp [stp, hc, hm]
  rcases a with _ | ⟨x, a⟩
  · rcases b with _ | ⟨x, b⟩
    · left; rfl
    by_cases hx : fst2 c x = false
    · left; simp [stp, hc, hm, hx]
    have hx' : fst2 c x = true := by simpa using hx
    have cx := fst2_cont hx'
    right
    refine ⟨by simp [stp, hc, hm], ?_⟩
    by_cases h1 : mor c = 1
    · simp [stp, hc, h1, hx', cx]
    rcases b with _ | ⟨y, b⟩
    · simp [stp, hc, hm, h1, hx', cx]
    by_cases hy : cnt1 y = false
    · simp [stp, hc, hm, h1, hx', hy, cx]
    have hy' : cnt1 y = true := by simpa using hy
    have cy := cnt1_cont hy'
    by_cases h2 : mor c = 2
    · simp [stp, hc, h2, hx', hy', cx, cy]
    rcases b with _ | ⟨z, b⟩
    · simp [stp, hc, hm, h1, h2, hx', hy', cx, cy]
    by_cases hz : cnt1 z = false
    · simp [stp, hc, hm, h1, h2, hx', hy', hz, cx, cy]
    have hz' : cnt1 z = true := by simpa using hz
    have cz := cnt1_cont hz'
    simp [stp, hc, hm, h1, h2, hx', hy', hz', cx, cy, cz]
  by_cases hx : fst2 c x = false
  · left; simp [stp, hc, hm, hx]
  have hx' : fst2 c x = true := by simpa using hx
  by_cases h1 : mor c = 1
  · left; simp [stp, hc, h1, hx']
  rcases a with _ | ⟨y, a⟩
  · rcases b with _ | ⟨y, b⟩
    · left; rfl
    by_cases hy : cnt1 y = false
    · left; simp [stp, hc, hm, h1, hx', hy]
    have hy' : cnt1 y = true := by simpa using hy
    have cy := cnt1_cont hy'
    right
    refine ⟨by simp [stp, hc, hm, h1, hx'], ?_⟩
    by_cases h2 : mor c = 2
    · simp [stp, hc, h2, hx', hy', cy]
    rcases b with _ | ⟨z, b⟩
    · simp [stp, hc, hm, h1, h2, hx', hy', cy]
    by_cases hz : cnt1 z = false
    · simp [stp, hc, hm, h1, h2, hx', hy', hz, cy]
    have hz' : cnt1 z = true := by simpa using hz
    have cz := cnt1_cont hz'
    simp [stp, hc, hm, h1, h2, hx', hy', hz', cy, cz]
  by_cases hy : cnt1 y = false
  · left; simp [stp, hc, hm, h1, hx', hy]
  have hy' : cnt1 y = true := by simpa using hy
  by_cases h2 : mor c = 2
  · left; simp [stp, hc, h2, hx', hy']
  rcases a with _ | ⟨z, a⟩
  · rcases b with _ | ⟨z, b⟩
    · left; rfl
    by_cases hz : cnt1 z = false
    · left; simp [stp, hc, hm, h1, h2, hx', hy', hz]
    have hz' : cnt1 z = true := by simpa using hz
    have cz := cnt1_cont hz'
    right
    refine ⟨by simp [stp, hc, hm, h1, h2, hx', hy'], ?_⟩
    simp [stp, hc, hm, h1, h2, hx', hy', hz', cz]
  · left; simp [stp, hc, hm, h1, h2, hx', hy']
def NC (b : List Nat) : Prop := ∀ x ∈ b.head?, ¬ (128 ≤ x ∧ x ≤ 191)
theorem stp_nc {a b : List Nat} (ha : a ≠ []) (hb : NC b) : stp (a ++ b) = stp a := by
  rcases stp_app (b := b) ha with h | ⟨h1, h2, h3⟩
  · exact h
  · have hle := stp_le (l := a ++ b) (by simp [ha])
    rw [List.length_append] at hle
    rcases b with _ | ⟨x, b⟩
    · rw [List.append_nil] at h2 hle; simp only [List.length_nil] at hle; omega
    · obtain ⟨n, hn⟩ : ∃ n, (stp (a ++ x :: b)).2 - a.length = n + 1 := ⟨_, (Nat.succ_pred_eq_of_pos (by omega)).symm⟩
      rw [hn] at h3
      exact absurd (h3 x (by simp)) (hb x (by simp))
theorem dec_app : ∀ (n : Nat) (a b : List Nat), a.length ≤ n → NC b → dec (a ++ b) = dec a ++ dec b
  | 0, a, b, h, _ => by
    have : a = [] := List.length_eq_zero_iff.mp (by omega)
    subst this; simp [dec_nil]
  | n + 1, a, b, h, hb => by
    by_cases ha : a = []
    · subst ha; simp [dec_nil]
    · have h1 := stp_pos a
      have h2 := stp_le ha
      rw [dec_ne (l := a ++ b) (by simp [ha]), stp_nc ha hb, dec_ne ha, List.drop_append_of_le_length h2, dec_app n _ b (by rw [List.length_drop]; omega) hb]
      rfl
theorem stp_cont {x : Nat} {r : List Nat} (h : 128 ≤ x ∧ x ≤ 191) : stp (x :: r) = (65533, 1) := by
  have : mor x = 0 := by unfold mor; rw [if_pos (by omega)]
  simp [stp, this]; omega
def c6 (c : Nat) : Bool := decide (65529 ≤ c ∧ c ≤ 65533)
def cnt (l : List Nat) : Nat := (l.filter c6).length
theorem cnt_app (a b : List Nat) : cnt (a ++ b) = cnt a + cnt b := by simp [cnt]
theorem dec_conts : ∀ (j : Nat) (b : List Nat), j ≤ b.length → (∀ x ∈ b.take j, 128 ≤ x ∧ x ≤ 191) → cnt (dec b) = j + cnt (dec (b.drop j))
  | 0, b, _, _ => by simp
  | j + 1, [], h, _ => by simp at h
  | j + 1, x :: b, h, hx => by
    rw [dec_ne (by simp), stp_cont (hx x (by simp))]
    have := dec_conts j b (by simpa using h) (fun y hy => hx y (by simp [hy]))
    simp only [List.drop_succ_cons, List.drop_zero]
    rw [show (65533 :: dec b : List Nat) = [65533] ++ dec b from rfl, cnt_app, this]
    have : cnt [65533] = 1 := by decide
    omega
theorem cnt_cons_le (v : Nat) (l : List Nat) : cnt (v :: l) ≤ 1 + cnt l := by
  unfold cnt; rw [List.filter_cons]; split <;> simp <;> omega
/-- two runs of octets read as one: the same, or fewer marks -/
theorem dec_joint : ∀ (n : Nat) (a b : List Nat), a.length ≤ n → dec (a ++ b) = dec a ++ dec b ∨ cnt (dec (a ++ b)) < cnt (dec a ++ dec b)
  | 0, a, b, h => by
    have : a = [] := List.length_eq_zero_iff.mp (by omega)
    subst this; left; simp [dec_nil]
  | n + 1, a, b, h => by
    by_cases ha : a = []
    · subst ha; left; simp [dec_nil]
    · have h1 := stp_pos a
      have h2 := stp_le ha
      rcases stp_app (b := b) ha with e | ⟨e1, e2, e3⟩
      · have ih := dec_joint n (a.drop (stp a).2) b (by rw [List.length_drop]; omega)
        rw [dec_ne (l := a ++ b) (by simp [ha]), e, dec_ne ha, List.drop_append_of_le_length h2]
        rcases ih with ih | ih
        · left; rw [ih]; rfl
        · right
          have hc : ∀ l, cnt ((stp a).1 :: l) = cnt [(stp a).1] + cnt l := fun l => cnt_app [(stp a).1] l
          have e1 := hc (dec (a.drop (stp a).2 ++ b))
          have e2 := hc (dec (a.drop (stp a).2) ++ dec b)
          rw [List.cons_append, e1, e2]; omega
      · right
        have hle := stp_le (l := a ++ b) (by simp [ha])
        rw [List.length_append] at hle
        have hda : dec a = [65533] := by rw [dec_ne ha, e1]; simp [dec_nil]
        have hd : (a ++ b).drop (stp (a ++ b)).2 = b.drop ((stp (a ++ b)).2 - a.length) := by
          rw [List.drop_append, List.drop_of_length_le (by omega), List.nil_append]
        have hcc := dec_conts ((stp (a ++ b)).2 - a.length) b (by omega) e3
        rw [dec_ne (l := a ++ b) (by simp [ha]), hd, hda, cnt_app]
        have h3 := cnt_cons_le (stp (a ++ b)).1 (dec (b.drop ((stp (a ++ b)).2 - a.length)))
        have h4 : cnt [65533] = 1 := by decide
        omega

/-- a sign that is no surrogate -/
def okV (c : Nat) : Prop := c < 0x110000 ∧ ¬ (0xD800 ≤ c ∧ c ≤ 0xDFFF)
theorem nat_u8 {k : Nat} (h : k < 256) : (k.toUInt8).toNat = k := by simp [Nat.toUInt8]; omega
theorem stp_utf8 {c : Nat} (h : okV c) (r : List Nat) : stp (nat (Str.utf8Of c) ++ r) = (c, (nat (Str.utf8Of c)).length) ∧ NC (nat (Str.utf8Of c) ++ r) ∧ nat (Str.utf8Of c) ≠ [] := by
  obtain ⟨h1, h2⟩ := h
  unfold Str.utf8Of nat
  by_cases a1 : c < 0x80
  · rw [if_pos a1]
    simp only [List.map_cons, List.map_nil, List.cons_append, List.nil_append, nat_u8 (show c < 256 by omega)]
    refine ⟨by simp [stp, a1], ?_, by simp⟩
    intro x hx; simp at hx; omega
  rw [if_neg a1]
  by_cases a2 : c < 0x800
  · rw [if_pos a2]
    simp only [List.map_cons, List.map_nil, List.cons_append, List.nil_append, nat_u8 (show 0xC0 + c / 64 < 256 by omega), nat_u8 (show 0x80 + c % 64 < 256 by omega)]
    have m : mor (0xC0 + c / 64) = 1 := by unfold mor; rw [if_neg (by omega), if_pos (by omega)]
    have f : fst2 (0xC0 + c / 64) (0x80 + c % 64) = true := by
      unfold fst2 lo1 hi1; apply decide_eq_true; repeat' split
      all_goals omega
    refine ⟨?_, ?_, by simp⟩
    · simp [stp, m, f, show ¬ (192 + c / 64 < 128) by omega]; omega
    · intro x hx; simp at hx; omega
  rw [if_neg a2]
  by_cases a3 : c < 0x10000
  · rw [if_pos a3]
    simp only [List.map_cons, List.map_nil, List.cons_append, List.nil_append, nat_u8 (show 0xE0 + c / 4096 < 256 by omega), nat_u8 (show 0x80 + c / 64 % 64 < 256 by omega), nat_u8 (show 0x80 + c % 64 < 256 by omega)]
    have m : mor (0xE0 + c / 4096) = 2 := by unfold mor; rw [if_neg (by omega), if_neg (by omega), if_pos (by omega)]
    have f : fst2 (0xE0 + c / 4096) (0x80 + c / 64 % 64) = true := by
      unfold fst2 lo1 hi1; apply decide_eq_true; repeat' split
      all_goals omega
    have g : cnt1 (0x80 + c % 64) = true := by unfold cnt1; apply decide_eq_true; omega
    refine ⟨?_, ?_, by simp⟩
    · simp [stp, m, f, g, show ¬ (224 + c / 4096 < 128) by omega]; omega
    · intro x hx; simp at hx; omega
  rw [if_neg a3]
  simp only [List.map_cons, List.map_nil, List.cons_append, List.nil_append, nat_u8 (show 0xF0 + c / 262144 < 256 by omega), nat_u8 (show 0x80 + c / 4096 % 64 < 256 by omega), nat_u8 (show 0x80 + c / 64 % 64 < 256 by omega), nat_u8 (show 0x80 + c % 64 < 256 by omega)]
  have m : mor (0xF0 + c / 262144) = 3 := by unfold mor; rw [if_neg (by omega), if_neg (by omega), if_neg (by omega)]
  have f : fst2 (0xF0 + c / 262144) (0x80 + c / 4096 % 64) = true := by
    unfold fst2 lo1 hi1; apply decide_eq_true; repeat' split
    all_goals omega
  have g : cnt1 (0x80 + c / 64 % 64) = true := by unfold cnt1; apply decide_eq_true; omega
  have g' : cnt1 (0x80 + c % 64) = true := by unfold cnt1; apply decide_eq_true; omega
  refine ⟨?_, ?_, by simp⟩
  · simp [stp, m, f, g, g', show ¬ (240 + c / 262144 < 128) by omega]; omega
  · intro x hx; simp at hx; omega
theorem dec_utf8 {c : Nat} (h : okV c) (r : List Nat) : dec (nat (Str.utf8Of c) ++ r) = c :: dec r := by
  obtain ⟨h1, _, h3⟩ := stp_utf8 h r
  rw [dec_ne (by simp [h3]), h1]
  simp
theorem okV_sur {c : Nat} (h : okV c) : Str.isSurrogate c = false := by
  unfold Str.isSurrogate
  have := h.2
  simp; omega
/-- the signs that reading makes -/
theorem stp_okV (l : List Nat) (hl : ∀ x ∈ l, x < 256) : okV (stp l).1 := by
  have h0 : okV 65533 := ⟨by decide, by decide⟩
  unfold stp
  split
  · exact h0
  rename_i c r
  have hc := hl c (by simp)
  by_cases h1 : c < 128
  · rw [if_pos h1]; exact ⟨by simp; omega, by simp; omega⟩
  rw [if_neg h1]
  by_cases h2 : mor c = 0
  · rw [if_pos h2]; exact h0
  rw [if_neg h2]
  split
  · exact h0
  rename_i x r
  by_cases h3 : fst2 c x = false
  · rw [if_pos h3]; exact h0
  rw [if_neg h3]
  have h3' : fst2 c x = true := by simpa using h3
  have h3'' := of_decide_eq_true h3'
  by_cases h4 : mor c = 1
  · rw [if_pos h4]; exact ⟨by simp; omega, by simp; omega⟩
  rw [if_neg h4]
  split
  · exact h0
  rename_i y r
  by_cases h5 : cnt1 y = false
  · rw [if_pos h5]; exact h0
  rw [if_neg h5]
  by_cases h6 : mor c = 2
  · rw [if_pos h6]
    have hm : 224 ≤ c ∧ c < 240 := by unfold mor at h6; repeat' split at h6
                                      all_goals omega
    unfold lo1 hi1 at h3''
    refine ⟨?_, ?_⟩
    · simp; omega
    · simp
      repeat' split at h3''
      all_goals omega
  rw [if_neg h6]
  split
  · exact h0
  rename_i z r
  by_cases h7 : cnt1 z = false
  · rw [if_pos h7]; exact h0
  rw [if_neg h7]
  have hm : 240 ≤ c ∧ c ≤ 244 := by
    have a1 : ¬ (c < 194 ∨ 244 < c) := fun a => h2 (by unfold mor; rw [if_pos a])
    have a2 : ¬ (c < 224) := fun a => h4 (by unfold mor; rw [if_neg a1, if_pos a])
    have a3 : ¬ (c < 240) := fun a => h6 (by unfold mor; rw [if_neg a1, if_neg a2, if_pos a])
    omega
  unfold lo1 hi1 at h3''
  refine ⟨?_, ?_⟩
  · simp
    repeat' split at h3''
    all_goals omega
  · simp
    repeat' split at h3''
    all_goals omega
theorem dec_okV : ∀ (n : Nat) (l : List Nat), l.length ≤ n → (∀ x ∈ l, x < 256) → ∀ c ∈ dec l, okV c
  | 0, l, h, _ => by
    have : l = [] := List.length_eq_zero_iff.mp (by omega)
    subst this; simp [dec_nil]
  | n + 1, l, h, hl => by
    by_cases e : l = []
    · subst e; simp [dec_nil]
    · rw [dec_ne e]
      have h1 := stp_pos l
      intro c hc
      rcases List.mem_cons.mp hc with rfl | hc
      · exact stp_okV l hl
      · exact dec_okV n _ (by rw [List.length_drop]; omega) (fun x hx => hl x (List.mem_of_mem_drop hx)) c hc
end Mine
end
section
set_option maxRecDepth 100000
set_option Elab.async false
set_option linter.all false
namespace Mine
open PySem
def zi (l : List Nat) : List Int := l.map fun (n : Nat) => (n : Int)
theorem mor0 {c : Nat} (h : c < 194 ∨ 244 < c) : mor c = 0 := by unfold mor; rw [if_pos h]
theorem mor1 {c : Nat} (h : 194 ≤ c ∧ c < 224) : mor c = 1 := by unfold mor; rw [if_neg (by omega), if_pos (by omega)]
theorem mor2 {c : Nat} (h : 224 ≤ c ∧ c < 240) : mor c = 2 := by unfold mor; rw [if_neg (by omega), if_neg (by omega), if_pos (by omega)]
theorem mor3 {c : Nat} (h : 240 ≤ c ∧ c ≤ 244) : mor c = 3 := by unfold mor; rw [if_neg (by omega), if_neg (by omega), if_neg (by omega)]
theorem pow64 : (64 : Int) ^ (0 : Nat) = 1 ∧ (64 : Int) ^ (1 : Nat) = 64 ∧ (64 : Int) ^ (2 : Nat) = 4096 ∧ (64 : Int) ^ (3 : Nat) = 262144 := by decide
section
variable {c x y z : Nat}
theorem k0 (h : c < 224) : kindZ (c : Int) = 0 := by unfold kindZ; rw [if_pos (by omega)]
theorem k1 (h : 224 ≤ c ∧ c < 240) : kindZ (c : Int) = 1 := by unfold kindZ; rw [if_neg (by omega), if_pos (by omega)]
theorem k2 (h : 240 ≤ c) : kindZ (c : Int) = 2 := by unfold kindZ; rw [if_neg (by omega), if_neg (by omega)]
theorem b10 (h : 128 ≤ c ∧ c < 256) (hm : mor c = 0) : begZ [(c : Int)] = (0, 0) := by
  have hc : c < 194 ∨ 244 < c := by
    rcases Decidable.em (c < 194 ∨ 244 < c) with a | a
    · exact a
    · rcases Nat.lt_or_ge c 224 with b | b
      · rw [mor1 (by omega)] at hm; omega
      · rcases Nat.lt_or_ge c 240 with b | b
        · rw [mor2 (by omega)] at hm; omega
        · rw [mor3 (by omega)] at hm; omega
  rw [begZ_cons]
  by_cases a : c < 192 ∨ 247 < c
  · rw [if_pos (by omega)]
  rw [if_neg (by omega), if_neg (by simp)]
  by_cases b : c < 224
  · simp [k0 b, lowZ, roomZ]; omega
  · simp [k2 (show 240 ≤ c by omega), lowZ, roomZ]; omega
theorem mor_cases (c : Nat) : ((c < 194 ∨ 244 < c) ∧ mor c = 0) ∨ ((194 ≤ c ∧ c < 224) ∧ mor c = 1) ∨ ((224 ≤ c ∧ c < 240) ∧ mor c = 2) ∨ ((240 ≤ c ∧ c ≤ 244) ∧ mor c = 3) := by
  rcases Decidable.em (c < 194 ∨ 244 < c) with a | a
  · exact .inl ⟨a, mor0 a⟩
  · rcases Nat.lt_or_ge c 224 with b | b
    · exact .inr (.inl ⟨by omega, mor1 (by omega)⟩)
    · rcases Nat.lt_or_ge c 240 with d | d
      · exact .inr (.inr (.inl ⟨by omega, mor2 (by omega)⟩))
      · exact .inr (.inr (.inr ⟨by omega, mor3 (by omega)⟩))
/-- one octet that begins a sign -/
theorem b1 (hm : mor c ≠ 0) : (begZ [(c : Int)]).1 = (mor c : Int) + 1 := by
  rcases mor_cases c with ⟨h, e⟩ | ⟨h, e⟩ | ⟨h, e⟩ | ⟨h, e⟩
  · exact absurd e hm
  · rw [begZ_cons, if_neg (by omega), if_neg (by simp), e]
    simp [k0 h.2, lowZ, roomZ]; repeat' split
    all_goals first | rfl | omega
  · rw [begZ_cons, if_neg (by omega), if_neg (by simp), e]
    simp [k1 h, lowZ, roomZ]; repeat' split
    all_goals first | rfl | omega
  · rw [begZ_cons, if_neg (by omega), if_neg (by simp), e]
    simp [k2 h.1, lowZ, roomZ]; repeat' split
    all_goals first | rfl | omega
/-- two octets -/
theorem b2 (hm : mor c ≠ 0) (hx : 128 ≤ x ∧ x < 256) : (begZ [(c : Int), (x : Int)]).1 = if fst2 c x = true then (mor c : Int) + 1 else 0 := by
  by_cases h191 : 191 < x
  · rw [begZ_cons, if_neg (by rcases mor_cases c with ⟨h, e⟩ | ⟨h, e⟩ | ⟨h, e⟩ | ⟨h, e⟩ <;> first | exact absurd e hm | omega), if_pos (by simp; omega), if_neg (by intro f; have := fst2_cont f; omega)]
  have hf : (fst2 c x = true) = (lo1 c ≤ x ∧ x ≤ hi1 c) := by unfold fst2; simp
  simp only [hf]
  unfold lo1 hi1
  rcases mor_cases c with ⟨h, e⟩ | ⟨h, e⟩ | ⟨h, e⟩ | ⟨h, e⟩
  · exact absurd e hm
  · rw [begZ_cons, if_neg (by omega), if_neg (by simp; omega), e]
    simp [k0 h.2, lowZ, roomZ]; repeat' split
    all_goals first | rfl | omega
  · rw [begZ_cons, if_neg (by omega), if_neg (by simp; omega), e]
    simp [k1 h, lowZ, roomZ]; repeat' split
    all_goals first | rfl | omega
  · rw [begZ_cons, if_neg (by omega), if_neg (by simp; omega), e]
    simp [k2 h.1, lowZ, roomZ]; repeat' split
    all_goals first | rfl | omega
/-- two octets that make a sign -/
theorem v2 (hm : mor c = 1) (hf : fst2 c x = true) : (begZ [(c : Int), (x : Int)]).2 = ((c % 32 * 64 + x % 64 : Nat) : Int) := by
  have hx := fst2_cont hf
  rcases mor_cases c with ⟨h, e⟩ | ⟨h, e⟩ | ⟨h, e⟩ | ⟨h, e⟩
  · omega
  · rw [begZ_cons, if_neg (by omega), if_neg (by simp; omega)]
    simp [k0 h.2, lowZ, roomZ]; repeat' split
    all_goals first | rfl | omega
  · omega
  · omega
/-- three octets -/
theorem b3 (hm : mor c = 2 ∨ mor c = 3) (hf : fst2 c x = true) (hy : 128 ≤ y ∧ y < 256) : (begZ [(c : Int), (x : Int), (y : Int)]).1 = if cnt1 y = true then (mor c : Int) + 1 else 0 := by
  have hx := fst2_cont hf
  have hf := of_decide_eq_true hf
  have hg : (cnt1 y = true) = (128 ≤ y ∧ y ≤ 191) := by unfold cnt1; simp
  simp only [hg]
  unfold lo1 hi1 at hf
  by_cases h191 : 191 < y
  · rw [begZ_cons, if_neg (by rcases mor_cases c with ⟨h, e⟩ | ⟨h, e⟩ | ⟨h, e⟩ | ⟨h, e⟩ <;> omega), if_pos (by simp; omega), if_neg (by omega)]
  rw [if_pos (by omega)]
  rcases mor_cases c with ⟨h, e⟩ | ⟨h, e⟩ | ⟨h, e⟩ | ⟨h, e⟩
  · omega
  · omega
  · rw [begZ_cons, if_neg (by omega), if_neg (by simp; omega), e]
    simp [k1 h, lowZ, roomZ]
    repeat' split at hf
    all_goals (repeat' split)
    all_goals first | rfl | omega
  · rw [begZ_cons, if_neg (by omega), if_neg (by simp; omega), e]
    simp [k2 h.1, lowZ, roomZ]
    repeat' split at hf
    all_goals (repeat' split)
    all_goals first | rfl | omega
theorem v3 (hm : mor c = 2) (hf : fst2 c x = true) (hy : cnt1 y = true) : (begZ [(c : Int), (x : Int), (y : Int)]).2 = (((c % 16 * 64 + x % 64) * 64 + y % 64 : Nat) : Int) := by
  have hx := fst2_cont hf
  have hf := of_decide_eq_true hf
  have hy := cnt1_cont hy
  unfold lo1 hi1 at hf
  rcases mor_cases c with ⟨h, e⟩ | ⟨h, e⟩ | ⟨h, e⟩ | ⟨h, e⟩
  · omega
  · omega
  · rw [begZ_cons, if_neg (by omega), if_neg (by simp; omega)]
    simp [k1 h, lowZ, roomZ]
    repeat' split at hf
    all_goals (repeat' split)
    all_goals first | rfl | omega
  · omega
/-- four octets -/
theorem b4 (hm : mor c = 3) (hf : fst2 c x = true) (hy : cnt1 y = true) (hz : 128 ≤ z ∧ z < 256) : (begZ [(c : Int), (x : Int), (y : Int), (z : Int)]).1 = if cnt1 z = true then (mor c : Int) + 1 else 0 := by
  have hx := fst2_cont hf
  have hf := of_decide_eq_true hf
  have hy := cnt1_cont hy
  have hg : (cnt1 z = true) = (128 ≤ z ∧ z ≤ 191) := by unfold cnt1; simp
  simp only [hg]
  unfold lo1 hi1 at hf
  by_cases h191 : 191 < z
  · rw [begZ_cons, if_neg (by rcases mor_cases c with ⟨h, e⟩ | ⟨h, e⟩ | ⟨h, e⟩ | ⟨h, e⟩ <;> omega), if_pos (by simp; omega), if_neg (by omega)]
  rw [if_pos (by omega)]
  rcases mor_cases c with ⟨h, e⟩ | ⟨h, e⟩ | ⟨h, e⟩ | ⟨h, e⟩
  · omega
  · omega
  · omega
  · rw [begZ_cons, if_neg (by omega), if_neg (by simp; omega), e]
    simp [k2 h.1, lowZ, roomZ]
    repeat' split at hf
    all_goals (repeat' split)
    all_goals first | rfl | omega
theorem v4 (hm : mor c = 3) (hf : fst2 c x = true) (hy : cnt1 y = true) (hz : cnt1 z = true) : (begZ [(c : Int), (x : Int), (y : Int), (z : Int)]).2 = ((((c % 8 * 64 + x % 64) * 64 + y % 64) * 64 + z % 64 : Nat) : Int) := by
  have hx := fst2_cont hf
  have hf := of_decide_eq_true hf
  have hy := cnt1_cont hy
  have hz := cnt1_cont hz
  unfold lo1 hi1 at hf
  rcases mor_cases c with ⟨h, e⟩ | ⟨h, e⟩ | ⟨h, e⟩ | ⟨h, e⟩
  · omega
  · omega
  · omega
  · rw [begZ_cons, if_neg (by omega), if_neg (by simp; omega)]
    simp [k2 h.1, lowZ, roomZ]
    repeat' split at hf
    all_goals (repeat' split)
    all_goals first | rfl | omega
end
end Mine
end
section
set_option maxRecDepth 100000
set_option Elab.async false
set_option linter.all false
namespace Mine
open PySem
theorem takeZ_stop {os : List Int} {size : Int} {f t : Nat} {low : Int} (h : ¬ ((t : Int) < (if (os.length : Int) < size then (os.length : Int) else size) ∧ 0 < (begZ (os.take (t + 1))).1)) : takeZ os size f t low = (t, low) := by
  cases f with
  | zero => rfl
  | succ f => rw [takeZ, if_neg h]
theorem takeZ_go {os : List Int} {size : Int} {f t : Nat} {low : Int} (h : (t : Int) < (if (os.length : Int) < size then (os.length : Int) else size) ∧ 0 < (begZ (os.take (t + 1))).1) : takeZ os size (f + 1) t low = takeZ os size f (t + 1) (begZ (os.take (t + 1))).2 := by
  rw [takeZ, if_pos h]
theorem stepZ_eq {l : List Nat} (hne : l ≠ []) (hl : ∀ o ∈ l, 128 ≤ o ∧ o < 256) : stepZ (zi l) = (((stp l).1 : Int), (stp l).2) := by
  rcases l with _ | ⟨c, r⟩
  · exact absurd rfl hne
  have hc := hl c (by simp)
  unfold stepZ
  have e1 : (zi (c :: r)).take 1 = [(c : Int)] := rfl
  rw [e1]
  by_cases h0 : mor c = 0
  · rw [b10 hc h0]
    rw [takeZ_stop (by intro h; have := h.1; split at this <;> omega)]
    simp [stp, h0, show ¬ c < 128 by omega]
  have hb1 := b1 h0
  generalize begZ [(c : Int)] = p at hb1
  obtain ⟨sz, lw⟩ := p
  dsimp only at hb1 ⊢
  subst hb1
  have m3 : mor c ≤ 3 := by rcases mor_cases c with ⟨h, e⟩ | ⟨h, e⟩ | ⟨h, e⟩ | ⟨h, e⟩ <;> omega
  rcases r with _ | ⟨x, r⟩
  · rw [takeZ_stop (by intro h; have := h.1; simp [zi] at this; split at this <;> omega)]
    have : ¬ ((1 : Nat) : Int) = (mor c : Int) + 1 := by omega
    simp [stp, h0, show ¬ c < 128 by omega]; omega
  have hx := hl x (by simp)
  have e2 : (zi (c :: x :: r)).take (1 + 1) = [(c : Int), (x : Int)] := rfl
  have hb2 := b2 h0 hx
  by_cases f : fst2 c x = false
  · rw [takeZ_stop (by rintro ⟨_, h⟩; rw [e2, hb2, f] at h; simp at h)]
    have : ¬ ((1 : Nat) : Int) = (mor c : Int) + 1 := by omega
    simp [stp, h0, show ¬ c < 128 by omega, f]; omega
  have f : fst2 c x = true := by simpa using f
  rw [if_pos f] at hb2
  rw [takeZ_go (by rw [e2, hb2]; refine ⟨?_, by omega⟩; simp [zi]; split <;> omega), e2]
  by_cases h1 : mor c = 1
  · rw [takeZ_stop (by intro h; have := h.1; split at this <;> omega), v2 h1 f]
    simp [stp, h1, show ¬ c < 128 by omega, f]
  rcases r with _ | ⟨y, r⟩
  · rw [takeZ_stop (by intro h; have := h.1; simp [zi] at this; split at this <;> omega)]
    have : ¬ ((1 + 1 : Nat) : Int) = (mor c : Int) + 1 := by omega
    simp [stp, h0, h1, show ¬ c < 128 by omega, f]; omega
  have hy := hl y (by simp)
  have e3 : (zi (c :: x :: y :: r)).take (1 + 1 + 1) = [(c : Int), (x : Int), (y : Int)] := rfl
  have hb3 := b3 (by omega) f hy
  by_cases g : cnt1 y = false
  · rw [takeZ_stop (by rintro ⟨_, h⟩; rw [e3, hb3, g] at h; simp at h)]
    have : ¬ ((1 + 1 : Nat) : Int) = (mor c : Int) + 1 := by omega
    simp [stp, h0, h1, show ¬ c < 128 by omega, f, g]; omega
  have g : cnt1 y = true := by simpa using g
  rw [if_pos g] at hb3
  rw [takeZ_go (by rw [e3, hb3]; refine ⟨?_, by omega⟩; simp [zi]; split <;> omega), e3]
  by_cases h2 : mor c = 2
  · rw [takeZ_stop (by intro h; have := h.1; split at this <;> omega), v3 h2 f g]
    simp [stp, h2, show ¬ c < 128 by omega, f, g]
  have h3 : mor c = 3 := by omega
  rcases r with _ | ⟨z, r⟩
  · rw [takeZ_stop (by intro h; have := h.1; simp [zi] at this; split at this <;> omega)]
    simp [stp, h3, show ¬ c < 128 by omega, f, g]
  have hz := hl z (by simp)
  have e4 : (zi (c :: x :: y :: z :: r)).take (1 + 1 + 1 + 1) = [(c : Int), (x : Int), (y : Int), (z : Int)] := rfl
  have hb4 := b4 h3 f g hz
  by_cases k : cnt1 z = false
  · rw [takeZ_stop (by rintro ⟨_, h⟩; rw [e4, hb4, k] at h; simp at h)]
    simp [stp, h3, show ¬ c < 128 by omega, f, g, k]
  have k : cnt1 z = true := by simpa using k
  rw [if_pos k] at hb4
  rw [takeZ_go (by rw [e4, hb4]; refine ⟨?_, by omega⟩; simp [zi]; split <;> omega), e4, v4 h3 f g k]
  rw [takeZ_stop (by intro h; have := h.1; split at this <;> omega)]
  simp [stp, h3, show ¬ c < 128 by omega, f, g, k]
theorem readF_eq : ∀ (n : Nat) (l : List Nat), (∀ o ∈ l, 128 ≤ o ∧ o < 256) → readF n (zi l) = zi (decL n l)
  | 0, _, _ => rfl
  | n + 1, l, hl => by
    rw [readF, decL]
    by_cases e : l = []
    · subst e; rfl
    · have e' : ¬ zi l = [] := by simpa [zi] using e
      rw [if_neg e', if_neg e, stepZ_eq e hl]
      have hd : (zi l).drop (stp l).2 = zi (l.drop (stp l).2) := by unfold zi; rw [List.map_drop]
      rw [hd, readF_eq n _ fun o ho => hl o (List.mem_of_mem_drop ho)]
      rfl
theorem readZ_eq {l : List Nat} (hl : ∀ o ∈ l, 128 ≤ o ∧ o < 256) : readZ (zi l) = zi (dec l) := by
  unfold readZ dec
  rw [readF_eq _ _ hl]
  simp [zi]
end Mine
end
section
set_option maxRecDepth 100000
set_option Elab.async false
set_option linter.all false
namespace Mine
open PySem
def unseenN : List Nat := [173, 847, 6150, 6155, 6156, 6157, 8203, 8204, 8205, 8288, 65279, 65024, 65025, 65026, 65027, 65028, 65029, 65030, 65031, 65032, 65033, 65034, 65035, 65036, 65037, 65038, 65039]
def seen (c : Nat) : Bool := !decide ((c : Int) ∈ unseenL)
def filt (l : List Nat) : List Nat := l.filter seen
theorem zi_nil : zi [] = [] := rfl
theorem zi_app (a b : List Nat) : zi (a ++ b) = zi a ++ zi b := by simp [zi]
theorem zi_len (a : List Nat) : (zi a).length = a.length := by simp [zi]
theorem zi_filter (p : Int → Bool) : ∀ l : List Nat, (zi l).filter p = zi (l.filter fun c => p (c : Int))
  | [] => rfl
  | c :: r => by
    have ih := zi_filter p r
    unfold zi at ih ⊢
    rw [List.map_cons, List.filter_cons, List.filter_cons, ih]
    cases p (c : Int) <;> simp
/-- the fold, on naturals -/
def nstep (st : List Nat × List Nat) (c : Nat) : List Nat × List Nat := if 56448 ≤ c ∧ c ≤ 56575 then (st.1, st.2 ++ [c - 56320]) else (st.1 ++ dec st.2 ++ [c], [])
def Run (R : List Nat) : Prop := ∀ o ∈ R, 128 ≤ o ∧ o < 256
theorem nstep_run {st : List Nat × List Nat} {c : Nat} (h : Run st.2) : Run (nstep st c).2 := by
  unfold nstep
  split
  · intro o ho
    rcases List.mem_append.mp ho with ho | ho
    · exact h o ho
    · simp at ho; omega
  · intro o ho; simp at ho
theorem mstep_eq {st : List Nat × List Nat} {c : Nat} (h : Run st.2) : mstep (zi st.1, zi st.2) (c : Int) = (zi (nstep st c).1, zi (nstep st c).2) := by
  unfold mstep nstep
  by_cases hc : 56448 ≤ c ∧ c ≤ 56575
  · rw [if_pos (by omega), if_pos hc]
    dsimp only
    rw [zi_app]
    congr 2
    simp [zi]; omega
  · rw [if_neg (by omega), if_neg hc]
    dsimp only
    rw [zi_app, zi_app, readZ_eq h]
    rfl
theorem mfold_eq : ∀ (cs : List Nat) (st : List Nat × List Nat), Run st.2 → (zi cs).foldl mstep (zi st.1, zi st.2) = (zi (cs.foldl nstep st).1, zi (cs.foldl nstep st).2)
  | [], st, _ => rfl
  | c :: r, st, h => by
    have e : zi (c :: r) = (c : Int) :: zi r := rfl
    rw [e, List.foldl_cons, List.foldl_cons, mstep_eq h, mfold_eq r _ (nstep_run h)]
theorem nat_app (a b : List UInt8) : nat (a ++ b) = nat a ++ nat b := by simp [nat]
/-- what the fold keeps: told, and the run that is not read yet -/
theorem nfold_san : ∀ (cs : List Nat), (∀ c ∈ cs, okC c) → ∀ (st : List Nat × List Nat) (B : List Nat), (∀ X, st.1 ++ dec (st.2 ++ X) = dec (B ++ X)) →
    ∀ X, (cs.foldl nstep st).1 ++ dec ((cs.foldl nstep st).2 ++ X) = dec (B ++ nat (encB cs) ++ X)
  | [], _, st, B, h, X => by simpa [encB, nat] using h X
  | c :: r, hc, st, B, h, X => by
    have ih := nfold_san r (fun x hx => hc x (by simp [hx])) (nstep st c) (B ++ nat (eb c)) ?_ X
    · rw [List.foldl_cons, ih]
      congr 1
      rw [show encB (c :: r) = eb c ++ encB r from rfl, nat_app]
      simp
    · intro Y
      have hcc := hc c (by simp)
      unfold nstep
      by_cases hs : 56448 ≤ c ∧ c ≤ 56575
      · rw [if_pos hs]
        dsimp only
        have hsur : Str.isSurrogate c = true := by unfold Str.isSurrogate; simp; omega
        have e : nat (eb c) = [c - 56320] := by
          unfold eb
          rw [if_pos hsur]
          show [((c - 0xDC00).toUInt8).toNat] = _
          rw [nat_u8 (show c - 0xDC00 < 256 by omega)]
        rw [e]
        have := h ([c - 56320] ++ Y)
        simpa using this
      · rw [if_neg hs]
        dsimp only
        have hsur : Str.isSurrogate c = false := by
          cases e : Str.isSurrogate c with
          | false => rfl
          | true => have := hcc.2 e; omega
        have hv : okV c := ⟨hcc.1, by unfold Str.isSurrogate at hsur; simp at hsur; omega⟩
        have e : eb c = Str.utf8Of c := by unfold eb; rw [hsur]; rfl
        rw [e]
        have h1 := h (nat (Str.utf8Of c) ++ Y)
        rw [dec_app _ _ _ (Nat.le_refl _) (stp_utf8 hv Y).2.1, dec_utf8 hv] at h1
        rw [List.append_assoc B, ← h1]
        simp
def nfold (cs : List Nat) : List Nat × List Nat := cs.foldl nstep ([], [])
theorem nfold_run (cs : List Nat) : Run (nfold cs).2 := by
  have : ∀ (cs : List Nat) (st : List Nat × List Nat), Run st.2 → Run (cs.foldl nstep st).2 := by
    intro cs
    induction cs with
    | nil => intro st h; exact h
    | cons c r ih => intro st h; exact ih _ (nstep_run h)
  exact this cs ([], []) (by intro o ho; simp at ho)
theorem san_fold {cs : List Nat} (hc : ∀ c ∈ cs, okC c) : san cs = (nfold cs).1 ++ dec (nfold cs).2 := by
  have := nfold_san cs hc ([], []) [] (fun X => by simp) []
  simpa [san, nfold] using this.symm
theorem mendedZ_eq {cs : List Nat} (hc : ∀ c ∈ cs, okC c) : mendedZ (zi cs) = zi (filt (san cs)) := by
  have e : mfold (zi cs ++ [0]) = (zi (nfold (cs ++ [0])).1, zi (nfold (cs ++ [0])).2) := by
    have := mfold_eq (cs ++ [0]) ([], []) (by intro o ho; simp at ho)
    rw [zi_app] at this
    exact this
  have e2 : nfold (cs ++ [0]) = ((nfold cs).1 ++ dec (nfold cs).2 ++ [0], []) := by
    unfold nfold
    rw [List.foldl_append]
    show nstep _ 0 = _
    unfold nstep
    rw [if_neg (by omega)]
  unfold mendedZ
  rw [e, e2, ← san_fold hc]
  dsimp only
  rw [zi_app, show zi [0] = [0] from rfl, List.length_append, List.take_left' (by simp), zi_filter]
  rfl

theorem c6_seen {c : Nat} (h : c6 c = true) : seen c = true := by
  unfold c6 at h
  have h := of_decide_eq_true h
  unfold seen
  simp only [unseenL, List.mem_cons, List.not_mem_nil, or_false, Bool.not_eq_true', decide_eq_false_iff_not]
  omega
theorem seen_no {c : Nat} (h : seen c = false) : ¬ (56448 ≤ c ∧ c ≤ 56575) ∧ c6 c = false := by
  constructor
  · unfold seen at h
    simp only [unseenL, List.mem_cons, List.not_mem_nil, or_false, Bool.not_eq_false', decide_eq_true_eq] at h
    omega
  · cases e : c6 c with
    | false => rfl
    | true => rw [c6_seen e] at h; cases h
theorem cnt_filt (l : List Nat) : cnt (filt l) = cnt l := by
  unfold cnt filt
  rw [List.filter_filter]
  congr 2
  funext c
  cases e : c6 c with
  | false => simp
  | true => simp [c6_seen e]
theorem filt_app (a b : List Nat) : filt (a ++ b) = filt a ++ filt b := List.filter_append ..
theorem joint_inv : ∀ (cs : List Nat) (M J : List Nat × List Nat) (X : List Nat), J.2 = X ++ M.2 → (filt (J.1 ++ dec X) = filt M.1 ∨ cnt (J.1 ++ dec X) < cnt M.1) →
    ∃ X, ((filt cs).foldl nstep J).2 = X ++ (cs.foldl nstep M).2 ∧ (filt (((filt cs).foldl nstep J).1 ++ dec X) = filt (cs.foldl nstep M).1 ∨ cnt (((filt cs).foldl nstep J).1 ++ dec X) < cnt (cs.foldl nstep M).1)
  | [], M, J, X, h, h' => ⟨X, h, h'⟩
  | c :: r, M, J, X, h, h' => by
    have key : filt (J.1 ++ dec (X ++ M.2)) = filt (M.1 ++ dec M.2) ∨ cnt (J.1 ++ dec (X ++ M.2)) < cnt (M.1 ++ dec M.2) := by
      have hj := dec_joint _ X M.2 (Nat.le_refl _)
      rw [cnt_app] at h' ⊢
      rw [cnt_app M.1]
      have hM : ∀ a : List Nat, filt (J.1 ++ dec X) = filt M.1 → cnt J.1 + cnt (dec X) = cnt M.1 := by
        intro _ e
        have := congrArg cnt e
        rwa [cnt_filt, cnt_filt, cnt_app] at this
      rcases hj with hj | hj
      · rw [hj, cnt_app]
        rcases h' with h' | h'
        · left
          rw [← List.append_assoc, filt_app, h', filt_app]
        · right; omega
      · right
        rw [cnt_app] at hj
        rcases h' with h' | h'
        · have := hM [] h'; omega
        · omega
    by_cases hs : seen c = true
    · have e : filt (c :: r) = c :: filt r := by unfold filt; rw [List.filter_cons, if_pos hs]
      rw [e, List.foldl_cons, List.foldl_cons]
      by_cases hc : 56448 ≤ c ∧ c ≤ 56575
      · refine joint_inv r _ _ X ?_ ?_
        · unfold nstep; rw [if_pos hc, if_pos hc]; dsimp only; rw [h, List.append_assoc]
        · unfold nstep; rw [if_pos hc, if_pos hc]; exact h'
      · refine joint_inv r _ _ [] ?_ ?_
        · unfold nstep; rw [if_neg hc, if_neg hc]; rfl
        · unfold nstep; rw [if_neg hc, if_neg hc]; dsimp only
          rw [dec_nil, List.append_nil, h]
          rcases key with key | key
          · left; rw [filt_app, key, filt_app (M.1 ++ dec M.2)]
          · right; rw [cnt_app, cnt_app _ [c]]; omega
    · have hs' : seen c = false := by simpa using hs
      obtain ⟨hc, h6⟩ := seen_no hs'
      have e : filt (c :: r) = filt r := by unfold filt; rw [List.filter_cons, if_neg hs]
      rw [e, List.foldl_cons]
      refine joint_inv r _ _ (X ++ M.2) ?_ ?_
      · unfold nstep; rw [if_neg hc]; simpa using h
      · unfold nstep; rw [if_neg hc]; dsimp only
        have e1 : filt (M.1 ++ dec M.2 ++ [c]) = filt (M.1 ++ dec M.2) := by
          rw [filt_app]
          have : filt [c] = [] := by unfold filt; simp [hs']
          rw [this, List.append_nil]
        have e2 : cnt (M.1 ++ dec M.2 ++ [c]) = cnt (M.1 ++ dec M.2) := by rw [← cnt_filt, e1, cnt_filt]
        rw [e1, e2]; exact key
/-- the law's first test -/
theorem joint_eq {cs : List Nat} (hc : ∀ c ∈ cs, okC c) : filt (san (filt cs)) = filt (san cs) ∨ cnt (filt (san (filt cs))) < cnt (filt (san cs)) := by
  have hc' : ∀ c ∈ filt cs, okC c := fun c h => hc c (List.mem_filter.mp h).1
  obtain ⟨X, e, h⟩ := joint_inv (cs ++ [173]) ([], []) ([], []) [] rfl (.inl rfl)
  have e3 : filt (cs ++ [173]) = filt cs := by
    rw [filt_app]
    have : filt [173] = [] := by decide
    rw [this, List.append_nil]
  rw [e3] at e h
  have e2 : (cs ++ [173]).foldl nstep ([], []) = ((nfold cs).1 ++ dec (nfold cs).2 ++ [173], []) := by
    rw [List.foldl_append]
    show nstep _ 173 = _
    unfold nstep
    rw [if_neg (by omega)]
    rfl
  rw [e2] at e h
  dsimp only at e h
  rw [List.append_nil] at e
  have e4 : ((filt cs).foldl nstep ([], [])) = nfold (filt cs) := rfl
  rw [e4] at e h
  rw [← e, ← san_fold hc', ← san_fold hc, filt_app (san cs), cnt_app (san cs)] at h
  have f1 : filt [173] = [] := by decide
  have f2 : cnt [173] = 0 := by decide
  rw [f1, f2, List.append_nil] at h
  rw [cnt_filt, cnt_filt]
  exact h
theorem san_okV (cs : List Nat) : ∀ c ∈ san cs, okV c := by
  refine dec_okV _ _ (Nat.le_refl _) ?_
  intro x hx
  unfold nat at hx
  obtain ⟨u, _, rfl⟩ := List.mem_map.mp hx
  exact UInt8.toNat_lt u
theorem san_self : ∀ (l : List Nat), (∀ c ∈ l, okV c) → san l = l
  | [], _ => rfl
  | c :: r, h => by
    have hv := h c (by simp)
    have ih := san_self r fun x hx => h x (by simp [hx])
    unfold san at ih ⊢
    have e : eb c = Str.utf8Of c := by unfold eb; rw [okV_sur hv]; rfl
    rw [show encB (c :: r) = eb c ++ encB r from rfl, nat_app, e, dec_utf8 hv, ih]
theorem okV_okC {c : Nat} (h : okV c) : okC c := ⟨h.1, fun e => by rw [okV_sur h] at e; cases e⟩
end Mine
end
section
open PySem PySem.W PySem.Calls PyProof.Rows
set_option maxRecDepth 100000
set_option Elab.async false
namespace Mine
/-- a list of ints at a value, no word of its other parts -/
def IM (h : Heap) (v : Value) (ns : List Int) : Prop := ∃ a vs, v = .ref a ∧ h.IsList a vs ∧ IntsAre vs.toList ns
theorem IL.im {h : Heap} {v : Value} {ns : List Int} (x : IL h v ns) : IM h v ns := let ⟨a, vs, _, e, l, i⟩ := x; ⟨a, vs, e, l.isList, i⟩
theorem isList_ne_ns {h : Heap} {L a : Addr} {vs : Array Value} {m : Str → Option Value} (x : h.IsList a vs) (y : h.Ns L m) : a ≠ L := by
  rintro rfl
  obtain ⟨o, ho, hc, n, hd⟩ := x
  obtain ⟨o', es, ep, ho', hd', _⟩ := y
  rw [ho] at ho'
  cases ho'
  rw [hd] at hd'; cases hd'
theorem IM.keeps {h h' : Heap} {v : Value} {ns : List Int} (x : IM h v ns) (k : ∀ b o, h.get? b = some o → h'.get? b = some o) : IM h' v ns :=
  let ⟨a, vs, e, l, i⟩ := x; ⟨a, vs, e, l.at fun o e => k _ o e, i⟩
theorem IM.st {L : Addr} {s s' : Shared} {m : Str → Option Value} {v : Value} {ns : List Int} (x : IM s.heap v ns) (hn : s.heap.Ns L m) (k : St L s s') : IM s'.heap v ns :=
  let ⟨a, vs, e, l, i⟩ := x; ⟨a, vs, e, l.at fun o e => k _ o (isList_ne_ns l hn) e, i⟩
/-- a list of such -/
def LM (h : Heap) (v : Value) (nss : List (List Int)) : Prop := ∃ a vs, v = .ref a ∧ h.IsList a vs ∧ Paired (fun v ns => IM h v ns) vs.toList nss
theorem LM.keeps {h h' : Heap} {v : Value} {nss : List (List Int)} (x : LM h v nss) (k : ∀ b o, h.get? b = some o → h'.get? b = some o) : LM h' v nss :=
  let ⟨a, vs, e, l, i⟩ := x; ⟨a, vs, e, l.at fun o e => k _ o e, i.mono fun _ _ y => y.keeps k⟩
theorem LM.st {L : Addr} {s s' : Shared} {m : Str → Option Value} {v : Value} {nss : List (List Int)} (x : LM s.heap v nss) (hn : s.heap.Ns L m) (k : St L s s') : LM s'.heap v nss :=
  let ⟨a, vs, e, l, i⟩ := x; ⟨a, vs, e, l.at fun o e => k _ o (isList_ne_ns l hn) e, i.mono fun _ _ y => y.st hn k⟩
theorem LM.k {s s' : Shared} {v : Value} {nss : List (List Int)} (x : LM s.heap v nss) (k : Kp s s') : LM s'.heap v nss := x.keeps k.get

section
variable {w : World} {A : Around} {E : Value → Shared → Prop} {s : Shared} {env : Env} {Q : Value → Shared → Prop}
/-- a comprehension of lists, over a list or a tuple -/
theorem e_compO {elt iter : Expr} {x : Str} {px : Pos} {scope : Scope} {cl : List (Str × Addr)} {pos : Pos} (G : Value → List Int → Prop) (hh : A.handled = none)
    (h : wpAny (model pw w) A (eval iter env) (fun v s₁ => ∃ ax items, v = .ref ax ∧ (s₁.heap.IsList ax items ∨ s₁.heap.IsTuple ax items) ∧ items.size ≤ 1000 ∧
      (∀ C v s₃ m₃ E', v ∈ items.toList → s₃.heap.Ns C m₃ → m₃ x = some v → Ext s₁.heap s₃.heap → wpAny (model pw w) A (eval elt (compEnvC scope cl C env)) (fun y s₄ => (∃ T its ns, y = .ref T ∧ s₃.heap.get? T = none ∧ s₄.heap.IsList T its ∧ IntsAre its.toList ns ∧ G v ns) ∧ Kp s₃ s₄) E' s₃) ∧
      (∀ D s', Kp s₁ s' → s₁.heap.get? D = none → (∀ nss, Paired G items.toList nss → LM s'.heap (.ref D) nss → Q (.ref D) s'))) E s)
    (hclos : closureFor scope env = pure cl := by rfl) (hcell : (scope.names.all fun y => y.2 != .cell) = true := by rfl) (hkind : scope.kind = .function := by rfl)
    (hnames : (scope.names.all fun y => y.2 != .local || scope.names.lookup y.1 == some .local) = true := by rfl) (hx : scope.names.lookup x = some .local := by rfl)
    (hs : ∀ x, foldedSetIterable iter env x = pure x := by intro _; rfl) :
    wpAny (model pw w) A (eval (.ListComp elt [⟨.Name x px, iter, [], 0⟩] scope pos) env) Q E s := by
  refine wpAny_ListComp_freeO (fun _ => true) (fun v its => ∃ ns, IntsAre its.toList ns ∧ G v ns) hclos (fun y hy => by simpa using List.all_eq_true.mp hcell y hy) hkind (fun y hy hl => by
      have := List.all_eq_true.mp hnames y hy
      rw [hl] at this
      simpa using this) hx (wpAny_mono h (fun v s₁ h₁ => ?_) fun _ _ e => e) hs
  obtain ⟨ax, items, rfl, hL, hsz, helt, hQ⟩ := h₁
  have hfr := fresh_size s₁.heap
  have hax : ax ≠ s₁.heap.objs.size := by
    intro e
    rcases hL with ⟨o, ho, _⟩ | ⟨o, ho, _⟩ <;> (rw [e, hfr] at ho; cases ho)
  have hlt : ax < s₁.heap.objs.size := by
    rcases hL with ⟨o, ho, _⟩ | ⟨o, ho, _⟩ <;> exact Heap.lt_size ho
  have quiet : ∀ ob : Obj, QuietOnCO pw w A env scope cl x [] elt [s₁.heap.objs.size] (fun i v => items[i]? = some v) (fun _ => true) (fun v its => ∃ ns, IntsAre its.toList ns ∧ G v ns) { s₁ with heap := s₁.heap.push ob } := by
    intro ob
    refine ⟨?_, ?_⟩
    · intro C i v s₃ m₃ E' _ hP hn hm hold _
      exact wpAny_pure ⟨rfl, Kp.rfl _⟩
    · intro C i v s₃ m₃ E' _ hP hp hn hm hold _
      refine wpAny_mono (helt C v s₃ m₃ E' ?_ hn hm fun b o e => hold b o (not_mem_one (Nat.ne_of_lt (Heap.lt_size e))) (Heap.get?_push_of_some _ e)) (fun y s₄ h₄ => ?_) fun _ _ e => e
      · exact Array.mem_toList_iff.mpr (Array.mem_of_getElem? hP)
      · obtain ⟨⟨T, its, ns, e, hT, hl, hi, hg⟩, k⟩ := h₄
        exact ⟨⟨T, its, e, hT, hl, ns, hi, hg⟩, k⟩
  have fin : ∀ ob : Obj, ∀ D h' tk ys (vs : List Value), (s₁.heap.push ob).get? D = none → h'.IsList D ys → h'.PlainList D ys → vs.length = items.size → (∀ (j : Nat) (v : Value), vs[j]? = some v → items[j]? = some v) →
      Paired (LstIs (s₁.heap.push ob) (fun v its => ∃ ns, IntsAre its.toList ns ∧ G v ns) h') (vs.filter fun _ => true) ys.toList →
      (∀ b o, b ∉ [s₁.heap.objs.size] → (s₁.heap.push ob).get? b = some o → h'.get? b = some o) → Q (.ref D) { s₁ with heap := h', toks := tk } := by
    intro ob D h' tk ys vs hnew hlD hpl hlen hP hF hk
    rw [list_of_places hlen hP, List.filter_eq_self.mpr (fun _ _ => rfl)] at hF
    have key : ∀ {l : List Value} {ys : List Value}, Paired (LstIs (s₁.heap.push ob) (fun v its => ∃ ns, IntsAre its.toList ns ∧ G v ns) h') l ys → ∃ nss, Paired G l nss ∧ Paired (fun v ns => IM h' v ns) ys nss := by
      intro l ys hF
      induction hF with
      | nil => exact ⟨[], .nil, .nil⟩
      | cons h1 _ ih =>
        obtain ⟨nss, a1, a2⟩ := ih
        obtain ⟨T, its, rfl, _, hl, ns, hi, hg⟩ := h1
        exact ⟨ns :: nss, .cons hg a1, .cons ⟨T, its, rfl, hl, hi⟩ a2⟩
    obtain ⟨nss, a1, a2⟩ := key hF
    refine hQ D _ (Kp.mk fun b o e => hk b o (not_mem_one (Nat.ne_of_lt (Heap.lt_size e))) (Heap.get?_push_of_some _ e)) ?_ nss a1 ⟨D, ys, rfl, hlD, a2⟩
    cases e : s₁.heap.get? D with
    | none => rfl
    | some o' => rw [Heap.get?_push_of_some _ e] at hnew; cases hnew
  have bnd : ∀ ob : Obj, ∀ b ∈ [s₁.heap.objs.size, ax], b < (s₁.heap.push ob).objs.size := by
    intro ob b hb
    rw [Heap.size_push]
    rcases List.mem_cons.mp hb with rfl | hb
    · exact Nat.lt_succ_self _
    · rw [List.mem_singleton.mp hb]
      exact Nat.lt_succ_of_lt hlt
  rcases hL with hL | hL
  · refine wpAny_pyIter_list hL ?_
    refine ⟨s₁.heap.objs.size, [s₁.heap.objs.size, ax], [s₁.heap.objs.size], items.size, (fun i v => items[i]? = some v), _, rfl, Walks.list hh _ ax hax items, line_le hsz, ?_, ⟨⟨_, Heap.get?_push_size _ rfl, rfl, rfl⟩, hL.push _⟩, bnd _, quiet _, ?_⟩
    · rintro i h ⟨⟨o, ho, _⟩, _⟩ b hb
      rw [List.mem_singleton.mp hb]; exact ⟨o, ho⟩
    · intro D h' tk ys vs hnew hlD hpl hlen hP hF _ _ hk
      exact fin _ D h' tk ys vs hnew hlD hpl hlen hP hF hk
  · refine wpAny_pyIter_tuple hL ?_
    refine ⟨s₁.heap.objs.size, [s₁.heap.objs.size, ax], [s₁.heap.objs.size], items.size, (fun i v => items[i]? = some v), _, rfl, Walks.tuple hh _ ax hax items, line_le hsz, ?_, ⟨⟨_, Heap.get?_push_size _ rfl, rfl, rfl⟩, hL.at fun o e => Heap.get?_push_of_some _ e⟩, bnd _, quiet _, ?_⟩
    · rintro i h ⟨⟨o, ho, _⟩, _⟩ b hb
      rw [List.mem_singleton.mp hb]; exact ⟨o, ho⟩
    · intro D h' tk ys vs hnew hlD hpl hlen hP hF _ _ hk
      exact fin _ D h' tk ys vs hnew hlD hpl hlen hP hF hk
/-- a name that takes a comprehension over a list -/
theorem s_compL {s₀ : Shared} {m : Str → Option Value} {elt iter : Expr} {x y : Str} {px py : Pos} {ifs : List Expr} {scope : Scope} {cl : List (Str × Addr)} {pos spos : Pos} {Q : Flow → Shared → Prop} (p : Value → Bool) (Fv : Value → Value → Prop) (hh : A.handled = none) (F : Fm s₀ env.locals m s)
    (h : wpAny (model pw w) A (eval iter env) (fun v s₁ => Kp s s₁ ∧ ∃ ax items n, v = .ref ax ∧ IsL s₁.heap ax items n ∧ items.size ≤ 1000 ∧
      (∀ C v s₃ m₃ E', v ∈ items.toList → s₃.heap.Ns C m₃ → m₃ x = some v → Ext s₁.heap s₃.heap → wpAny (model pw w) A (tests ifs (compEnvC scope cl C env)) (fun ok s₄ => ok = p v ∧ Kp s₃ s₄) E' s₃) ∧
      (∀ C v s₃ m₃ E', v ∈ items.toList → p v = true → s₃.heap.Ns C m₃ → m₃ x = some v → Ext s₁.heap s₃.heap → wpAny (model pw w) A (eval elt (compEnvC scope cl C env)) (fun y s₄ => Fv v y ∧ Kp s₃ s₄) E' s₃) ∧
      (∀ D s' ys n, Fm s₀ env.locals (fun z => if z = y then some (.ref D) else m z) s' → St env.locals s₁ s' → s₁.heap.get? D = none → IsL s'.heap D ys n → Paired Fv (items.toList.filter p) ys.toList → Q .next s')) E s)
    (hclos : closureFor scope env = pure cl := by rfl) (hcell : (scope.names.all fun y => y.2 != .cell) = true := by rfl) (hkind : scope.kind = .function := by rfl)
    (hnames : (scope.names.all fun y => y.2 != .local || scope.names.lookup y.1 == some .local) = true := by rfl) (hx : scope.names.lookup x = some .local := by rfl)
    (hy : env.kindOf y = some .local := by rfl) (hp : (env.scope.kind == .class || (env.scope.kind == .module && env.locals != env.globals)) = false := by rfl)
    (hsw : swapsWith (.ListComp elt [⟨.Name x px, iter, ifs, 0⟩] scope pos) (some (.Name y py)) spos.line env = pure true := by rfl)
    (hs : ∀ x, foldedSetIterable iter env x = pure x := by intro _; rfl) :
    wpAny (model pw w) A (exec (.Assign [.Name y py] (.ListComp elt [⟨.Name x px, iter, ifs, 0⟩] scope pos) spos) env) Q E s := by
  refine wpAny_Assign_ListComp_free p Fv hsw hclos (fun y hy => by simpa using List.all_eq_true.mp hcell y hy) hkind (fun y hy hl => by
      have := List.all_eq_true.mp hnames y hy
      rw [hl] at this
      simpa using this) hx hy hp (wpAny_mono h (fun v s₁ h₁ => ?_) fun _ _ e => e) hs
  obtain ⟨k₁, ax, items, n, rfl, hL, hsz, htest, helt, hQ⟩ := h₁
  have F1 := F.k k₁
  refine wpAny_pyIter_list hL.isList ?_
  have hfr := fresh_size s₁.heap
  have hax : ax ≠ s₁.heap.objs.size := by
    intro e
    have hl : s₁.heap.get? ax = some _ := hL
    rw [e, hfr] at hl; cases hl
  refine ⟨s₁.heap.objs.size, [s₁.heap.objs.size, ax], [s₁.heap.objs.size], items.size, (fun i v => items[i]? = some v), _, m, rfl, Walks.list hh _ ax hax items, line_le hsz, ⟨⟨_, Heap.get?_push_size _ rfl, rfl, rfl⟩, (hL.push _).isList⟩, ?_, ?_, F1.ns.push _, ⟨?_, ?_⟩, ?_⟩
  · intro b hb
    show b < (s₁.heap.push _).objs.size
    rw [Heap.size_push]
    rcases List.mem_cons.mp hb with rfl | hb
    · exact Nat.lt_succ_self _
    · rw [List.mem_singleton.mp hb]
      exact Nat.lt_succ_of_lt (Heap.lt_size hL)
  · exact not_mem_one (Nat.ne_of_lt F1.ns.lt)
  · intro C i v s₃ m₃ E' _ hP hn hm hold _
    refine htest C v s₃ m₃ E' ?_ hn hm fun b o e => hold b o (not_mem_one (Nat.ne_of_lt (Heap.lt_size e))) (Heap.get?_push_of_some _ e)
    exact Array.mem_toList_iff.mpr (Array.mem_of_getElem? hP)
  · intro C i v s₃ m₃ E' _ hP hp hn hm hold _
    refine helt C v s₃ m₃ E' ?_ hp hn hm fun b o e => hold b o (not_mem_one (Nat.ne_of_lt (Heap.lt_size e))) (Heap.get?_push_of_some _ e)
    exact Array.mem_toList_iff.mpr (Array.mem_of_getElem? hP)
  · intro D h' tk ys vs hnew hlD hpl hlen hP hF hn' hk
    rw [list_of_places hlen hP] at hF
    obtain ⟨n', hn''⟩ := hpl
    have keep : ∀ b o, b ≠ env.locals → s₁.heap.get? b = some o → h'.get? b = some o := fun b o hb e => hk b o hb (not_mem_one (Nat.ne_of_lt (Heap.lt_size e))) (Heap.get?_push_of_some _ e)
    refine hQ D _ ys n' ⟨?_, hn', fun b o e => ?_, InCall.fresh F⟩ keep ?_ hn'' hF
    · obtain ⟨h₁, t₁, e⟩ := InCall.same F1
      exact ⟨h', tk, by rw [e]⟩
    · exact keep b o (Nat.ne_of_lt (Nat.lt_of_lt_of_le (Heap.lt_size e) (InCall.fresh F))) (InCall.keep F1 b o e)
    · cases e : s₁.heap.get? D with
      | none => rfl
      | some o' => rw [Heap.get?_push_of_some _ e] at hnew; cases hnew
/-- a name that takes a comprehension of lists, over a tuple -/
theorem s_compO {s₀ : Shared} {m : Str → Option Value} {elt iter : Expr} {x y : Str} {px py : Pos} {scope : Scope} {cl : List (Str × Addr)} {pos spos : Pos} {Q : Flow → Shared → Prop} (G : Value → List Int → Prop) (hh : A.handled = none) (F : Fm s₀ env.locals m s)
    (h : wpAny (model pw w) A (eval iter env) (fun v s₁ => Kp s s₁ ∧ ∃ ax items, v = .ref ax ∧ s₁.heap.IsTuple ax items ∧ items.size ≤ 1000 ∧
      (∀ C v s₃ m₃ E', v ∈ items.toList → s₃.heap.Ns C m₃ → m₃ x = some v → Ext s₁.heap s₃.heap → wpAny (model pw w) A (eval elt (compEnvC scope cl C env)) (fun y s₄ => (∃ T its ns, y = .ref T ∧ s₃.heap.get? T = none ∧ s₄.heap.IsList T its ∧ IntsAre its.toList ns ∧ G v ns) ∧ Kp s₃ s₄) E' s₃) ∧
      (∀ D s', Fm s₀ env.locals (fun z => if z = y then some (.ref D) else m z) s' → St env.locals s₁ s' → (∀ nss, Paired G items.toList nss → LM s'.heap (.ref D) nss → Q .next s'))) E s)
    (hclos : closureFor scope env = pure cl := by rfl) (hcell : (scope.names.all fun y => y.2 != .cell) = true := by rfl) (hkind : scope.kind = .function := by rfl)
    (hnames : (scope.names.all fun y => y.2 != .local || scope.names.lookup y.1 == some .local) = true := by rfl) (hx : scope.names.lookup x = some .local := by rfl)
    (hy : env.kindOf y = some .local := by rfl) (hp : (env.scope.kind == .class || (env.scope.kind == .module && env.locals != env.globals)) = false := by rfl)
    (hsw : swapsWith (.ListComp elt [⟨.Name x px, iter, [], 0⟩] scope pos) (some (.Name y py)) spos.line env = pure true := by rfl)
    (hs : ∀ x, foldedSetIterable iter env x = pure x := by intro _; rfl) :
    wpAny (model pw w) A (exec (.Assign [.Name y py] (.ListComp elt [⟨.Name x px, iter, [], 0⟩] scope pos) spos) env) Q E s := by
  have hcell' : ∀ z ∈ scope.names, z.2 ≠ .cell := fun y hy => by simpa using List.all_eq_true.mp hcell y hy
  rw [exec_Assign_Name_used _ _ _ _ hsw]
  refine wpAny_bind (wpAny_standAt (wpAny_bind ?_))
  show wpAny _ A (do let _ ← comprehension (.ListComp elt [⟨.Name x px, iter, [], 0⟩] scope pos) scope env _ (newList []) false (eval iter env) (some (assign (.Name y py) env))) _ _ s
  refine wpAny_bind (wpAny_mono (wpAny_comprehension_free (use := some (assign (.Name y py) env)) (Q := fun _ s' => Q .next s') rfl hs hclos hkind (fun y hy hl => by
      have := List.all_eq_true.mp hnames y hy
      rw [hl] at this
      simpa using this)
    (wpAny_mono h (fun xv s₁ h₁ => ?_) fun _ _ e => e)) (fun _ s' hq => wpAny_pure (wpAny_pure hq)) fun _ _ e => e)
  obtain ⟨k₁, ax, items, rfl, hL, hsz, helt, hQ⟩ := h₁
  have F1 := F.k k₁
  have hfr := fresh_size s₁.heap
  have hax : ax ≠ s₁.heap.objs.size := by
    intro e
    obtain ⟨o, ho, _⟩ := hL
    rw [e, hfr] at ho; cases ho
  have hlt : ax < s₁.heap.objs.size := by
    obtain ⟨o, ho, _⟩ := hL; exact Heap.lt_size ho
  refine wpAny_pyIter_tuple hL ?_
  refine comp_block_walkCO (fp := [s₁.heap.objs.size, ax]) (wr := [s₁.heap.objs.size]) (RR := fun acc C => compPost (model pw w) A E (some (assign (.Name y py) env)) (fun _ s' => Q .next s') acc C) (Walks.tuple hh _ ax hax items) (line_le hsz) (fun _ => true) (fun v its => ∃ ns, IntsAre its.toList ns ∧ G v ns) ?_ hcell' hkind hx
    ⟨⟨_, Heap.get?_push_size _ rfl, rfl, rfl⟩, hL.at fun o e => Heap.get?_push_of_some _ e⟩ ?_ ⟨?_, ?_⟩ ?_
  · rintro i h ⟨⟨o, ho, _⟩, _⟩ b hb
    rw [List.mem_singleton.mp hb]; exact ⟨o, ho⟩
  · intro b hb
    show b < (s₁.heap.push _).objs.size
    rw [Heap.size_push]
    rcases List.mem_cons.mp hb with rfl | hb
    · exact Nat.lt_succ_self _
    · rw [List.mem_singleton.mp hb]
      exact Nat.lt_succ_of_lt hlt
  · intro C i v s₃ m₃ E' _ hP hn hm hold _
    exact wpAny_pure ⟨rfl, Kp.rfl _⟩
  · intro C i v s₃ m₃ E' _ hP hp hn hm hold _
    refine wpAny_mono (helt C v s₃ m₃ E' ?_ hn hm fun b o e => hold b o (not_mem_one (Nat.ne_of_lt (Heap.lt_size e))) (Heap.get?_push_of_some _ e)) (fun y s₄ h₄ => ?_) fun _ _ e => e
    · exact Array.mem_toList_iff.mpr (Array.mem_of_getElem? hP)
    · obtain ⟨⟨T, its, ns, e, hT, hl, hi, hg⟩, k⟩ := h₄
      exact ⟨⟨T, its, e, hT, hl, ns, hi, hg⟩, k⟩
  · intro D C h' tk m' ys vs hD hC hDC hnC hlD hplD hlen hP hF hnd hk
    have hnL := F1.ns
    have hnL' : ∀ ob : Obj, (s₁.heap.push ob).Ns env.locals m := fun ob => hnL.push ob
    have hLC : env.locals ≠ C := by rintro rfl; obtain ⟨o, _, _, ho, _⟩ := hnL' _; rw [hC] at ho; cases ho
    have hLD : env.locals ≠ D := by rintro rfl; obtain ⟨o, _, _, ho, _⟩ := hnL' _; rw [hD] at ho; cases ho
    have hLw : env.locals ∉ [s₁.heap.objs.size] := not_mem_one (Nat.ne_of_lt hnL.lt)
    show wpAny _ A (assign (.Name y py) env (.ref D)) _ _ _
    refine wpAny_assign_Name (wpAny_storeName_local hy ((hnL' _).at' fun o e => hk _ o hLw e) (fun h₂ hn₂ hs₂ => ?_) hp)
    refine ⟨m', hnC.sameBut hs₂ (Ne.symm hLC), fun h₃ hs₃ => ?_⟩
    rw [list_of_places hlen hP, List.filter_eq_self.mpr (fun _ _ => rfl)] at hF
    have old : ∀ b o, b ≠ env.locals → s₁.heap.get? b = some o → h₃.get? b = some o := fun b o hb e =>
      hs₃.extBut b o (by rintro rfl; rw [Heap.get?_push_of_some _ e] at hC; cases hC) (hs₂.extBut b o hb (hk b o (not_mem_one (Nat.ne_of_lt (Heap.lt_size e))) (Heap.get?_push_of_some _ e)))
    have key : ∀ {l : List Value} {ys : List Value}, Paired (LstAt (s₁.heap.push { cls := .type "tuple_iterator", data := .fields #[.ref ax, .int 0 0] }) C D [s₁.heap.objs.size] (fun v its => ∃ ns, IntsAre its.toList ns ∧ G v ns) h') l ys → ∃ nss, Paired G l nss ∧ Paired (fun v ns => IM h₃ v ns) ys nss := by
      intro l ys hF
      induction hF with
      | nil => exact ⟨[], .nil, .nil⟩
      | cons h1 _ ih =>
        obtain ⟨nss, a1, a2⟩ := ih
        obtain ⟨T, its, rfl, hT, hTC, _, hTD, hl, ns, hi, hg⟩ := h1
        have hTL : T ≠ env.locals := by
          rintro rfl
          obtain ⟨o, _, _, ho, _⟩ := hnL' { cls := .type "tuple_iterator", data := .fields #[.ref ax, .int 0 0] }
          rw [hT] at ho; cases ho
        exact ⟨ns :: nss, .cons hg a1, .cons ⟨T, its, rfl, (hl.extBut hs₂.extBut hTL).extBut hs₃.extBut hTC, hi⟩ a2⟩
    obtain ⟨nss, a1, a2⟩ := key hF
    refine hQ D _ ⟨?_, hn₂.sameBut hs₃ hLC, fun b o e => ?_, InCall.fresh F⟩ old nss a1 ⟨D, ys, rfl, (hlD.extBut hs₂.extBut (Ne.symm hLD)).extBut hs₃.extBut hDC, a2⟩
    · obtain ⟨h₁, t₁, e⟩ := InCall.same F1
      exact ⟨h₃, _, by rw [e]⟩
    · exact old b o (Nat.ne_of_lt (Nat.lt_of_lt_of_le (Heap.lt_size e) (InCall.fresh F))) (InCall.keep F1 b o e)
/-- two lists of ints put together -/
theorem o_addM {v v' : Value} {ns ns' : List Int} (hl : IM s.heap v ns) (hl' : IM s.heap v' ns') (hn : ns.length + ns'.length ≤ 1000) (h : ∀ a s', Kp s s' → IL s'.heap (.ref a) (ns ++ ns') → Q (.ref a) s') :
    wpAny (model pw w) A (binaryOp .Add v v') Q E s := by
  obtain ⟨l, vs, rfl, hL, hI⟩ := hl
  obtain ⟨l', vs', rfl, hL', hI'⟩ := hl'
  obtain ⟨⟨cls, dd, data, sl⟩, ho, hc, n, hd⟩ := id hL
  obtain ⟨⟨cls2, dd2, data2, sl2⟩, ho2, hc2, n2, hd2⟩ := id hL'
  simp only at hc hd hc2 hd2
  subst hc hd hc2 hd2
  refine concat_meets ⟨_, ho, rfl⟩ ⟨_, ho2, rfl⟩ noFill_list_add seq_list_add PySem.F.slot_list_add PySem.F.entry_list_add (PySem.F.args_list_add_2 _ _) (list_addW l l' vs vs' n n2 dd dd2 sl sl2 ?_) ⟨ho, ho2, ?_⟩
  · rw [IntsAre.size hI, IntsAre.size hI']; exact line_le hn
  · refine h _ _ (Kp.push _ _) ⟨_, _, _, rfl, IsL.new _ _, ?_⟩
    rw [Array.toList_append]; exact PyProof.Rows.IntsAre.append hI hI'
theorem o_lenM {v : Value} {ns : List Int} (hl : IM s.heap v ns) (hn : ns.length ≤ 1000) (h : ∀ t s', Kp s s' → Q (.int (ns.length : Int) t) s') : wpAny (model pw w) A (call (.builtin "len") [v]) Q E s := by
  obtain ⟨l, vs, rfl, hL, hI⟩ := hl
  refine len_list hL (by rw [IntsAre.size hI]; omega) ?_
  rw [IntsAre.size hI]
  exact h _ _ (Kp.tok _ _)
/-- an item of a list of two lists -/
theorem e_itemM0 {value slice : Expr} {v : Value} {n0 n1 : List Int} {u : Tok} (hl : LM s.heap v [n0, n1]) (h : ∀ y, IM s.heap y n0 → Q y s)
    (hs : ∀ l, subscripted slice false (.ref l) (.int 0 u) = operate [.ref l, .int 0 u] (getItem (.ref l) (.int 0 u)) := by intro _; with_unfolding_all rfl) :
    wpAny (model pw w) A (subscriptTail value slice v (.int 0 u)) Q E s := by
  obtain ⟨l, ⟨vs⟩, rfl, hL, hP⟩ := hl
  cases hP with
  | cons h0 hP =>
    rename_i y _
    exact tail_any hL.typeIs slot_list_getitem.lookup (wpAny_getItem_list hL (by decide) (by decide) (x := y) rfl (h y h0)) (hs l)
theorem e_itemM1 {value slice : Expr} {v : Value} {n0 n1 : List Int} {u : Tok} (hl : LM s.heap v [n0, n1]) (h : ∀ y, IM s.heap y n1 → Q y s)
    (hs : ∀ l, subscripted slice false (.ref l) (.int 1 u) = operate [.ref l, .int 1 u] (getItem (.ref l) (.int 1 u)) := by intro _; with_unfolding_all rfl) :
    wpAny (model pw w) A (subscriptTail value slice v (.int 1 u)) Q E s := by
  obtain ⟨l, ⟨vs⟩, rfl, hL, hP⟩ := hl
  cases hP with
  | cons h0 hP =>
    cases hP with
    | cons h1 hP =>
      rename_i y _
      exact tail_any hL.typeIs slot_list_getitem.lookup (wpAny_getItem_list hL (by decide) (by decide) (x := y) rfl (h y h1)) (hs l)
def pyL (ns : List Int) : PyData := .list (ns.map PyData.int)
def pyLL (nss : List (List Int)) : PyData := .list (nss.map pyL)
theorem IM.reads {h : Heap} {v : Value} {ns : List Int} (x : IM h v ns) : ∃ as, Reads h v (pyL ns) as := by
  obtain ⟨a, ⟨vs⟩, rfl, hl, hi⟩ := x
  exact ⟨_, reads_of_ints hl hi⟩
theorem LM.reads {h : Heap} {v : Value} {nss : List (List Int)} (x : LM h v nss) : ∃ as, Reads h v (pyLL nss) as := by
  obtain ⟨a, vs, rfl, ⟨o, ho, hc, n, hd⟩, hp⟩ := x
  have key : ∀ {l : List Value} {nss : List (List Int)}, Paired (fun v ns => IM h v ns) l nss → ∃ as, ReadsAll h l (nss.map pyL) as := by
    intro l nss hp
    induction hp with
    | nil => exact ⟨_, .nil⟩
    | cons h1 _ ih =>
      obtain ⟨as, h1⟩ := h1.reads
      obtain ⟨bs, h2⟩ := ih
      exact ⟨_, .cons h1 h2⟩
  obtain ⟨as, ha⟩ := key hp
  exact ⟨_, Reads.list ho hc hd ha⟩
theorem shaped_LL (nss : List (List Int)) : SeqAt.shaped (pyLL nss) = true := by
  have h1 : ∀ nss : List (List Int), PyData.canLayAll0 (nss.map pyL) = true ∧ PyData.depthAll (nss.map pyL) ≤ 1 := by
    intro nss
    induction nss with
    | nil => exact ⟨by simp [PyData.canLayAll0], by simp [PyData.depthAll]⟩
    | cons n r ih =>
      have a1 : PyData.canLay0 (pyL n) = true := by
        simp only [pyL, PyData.canLay0]; exact canLayAll0_ints n
      have a2 : PyData.depth (pyL n) = 1 := by
        simp only [pyL, PyData.depth]; rw [ke_depthAll]
      refine ⟨by simp [PyData.canLayAll0, a1, ih.1], ?_⟩
      simp only [List.map_cons, PyData.depthAll, a2]
      have := ih.2
      omega
  have h2 : PyData.depth (pyLL nss) ≤ 64 := by
    have := (h1 nss).2
    simp only [pyLL, PyData.depth]; omega
  show (PyData.canLay0 (pyLL nss) && decide (PyData.depth (pyLL nss) ≤ 64)) = true
  rw [Bool.and_eq_true]
  exact ⟨by simp only [pyLL, PyData.canLay0]; exact (h1 nss).1, decide_eq_true h2⟩
theorem noMix_LL : ∀ nss mss : List (List Int), SeqAt.noMixAll (nss.map pyL) (mss.map pyL) = true
  | [], [] => by simp [SeqAt.noMixAll]
  | [], _ :: _ => by simp [SeqAt.noMixAll]
  | _ :: _, [] => by simp [SeqAt.noMixAll]
  | n :: r, m :: q => by simp [SeqAt.noMixAll, SeqAt.noMix, pyL, noMix_ints n m]; exact noMix_LL r q
theorem same_LL : ∀ nss mss : List (List Int), PySem.Spec.sameAll (nss.map pyL) (mss.map pyL) = decide (nss = mss)
  | [], [] => by simp [PySem.Spec.sameAll]
  | [], _ :: _ => by simp [PySem.Spec.sameAll]
  | _ :: _, [] => by simp [PySem.Spec.sameAll]
  | n :: r, k :: q => by
    have e : PySem.Spec.same (pyL n) (pyL k) = decide (n = k) := by simp only [pyL, PySem.Spec.same]; exact same_ints n k
    simp only [List.map_cons, PySem.Spec.sameAll, e, same_LL r q]
    by_cases h : n = k <;> simp [h]
/-- two lists of lists of ints compared -/
theorem o_neLL {v v' : Value} {nss mss : List (List Int)} {n : Nat} (hA : AOk A n) (hl : LM s.heap v nss) (hl' : LM s.heap v' mss) (h : Q (.bool (!decide (nss = mss))) s) : wpAny (model pw w) A (compareOp .NotEq v v') Q E s := by
  obtain ⟨as, ra⟩ := hl.reads
  obtain ⟨bs, rb⟩ := hl'.reads
  refine ne_dataH_same ra rb (shaped_LL _) (shaped_LL _) (by have := hA.units; show A.units + 64 < 9900; omega) ?_ ?_
  · simp only [pyLL, SeqAt.noMix]; exact noMix_LL nss mss
  · simp only [pyLL, PySem.Spec.same]; rw [same_LL]; exact h
end
end Mine
end
section
open PySem PySem.W PySem.Calls PyProof.Rows
set_option maxRecDepth 100000
set_option Elab.async false
namespace Mine
theorem unseen_ok : ∀ i ∈ unseenL, 0 ≤ i ∧ i < 0xD800 ∨ 0xDFFF < i ∧ i < 0x110000 := by decide
/-- what a code may be -/
theorem codeOf_ok (n : Int) : ∃ c : Nat, codeOf n = (c : Int) ∧ okC c := by
  have key : ∀ i : Int, (0 ≤ i ∧ i < 0xD800 ∨ 0xDFFF < i ∧ i < 0x110000 ∨ 0xDC80 ≤ i ∧ i ≤ 0xDCFF) → ∃ c : Nat, i = (c : Int) ∧ okC c := by
    intro i h
    refine ⟨i.toNat, by omega, by omega, fun e => ?_⟩
    unfold Str.isSurrogate at e
    simp at e
    omega
  have b4 := fmod_pos_lt n (b := 4) (by decide)
  have b27 := fmod_pos_lt (n.fdiv 4) (b := 27) (by decide)
  have b64 := fmod_pos_lt (n.fdiv 4) (b := 64) (by decide)
  have b8 := fmod_pos_lt ((n.fdiv 4).fdiv 4) (b := 8) (by decide)
  have bb := fmod_pos_lt ((n.fdiv 4).fdiv 4) (b := 55296) (by decide)
  apply key
  unfold codeOf
  have hk : (n.fmod 4).toNat = 0 ∨ (n.fmod 4).toNat = 1 ∨ (n.fmod 4).toNat = 2 ∨ (n.fmod 4).toNat = 3 := by omega
  rcases hk with e | e | e | e
  · rw [e]
    show _ ∨ _ ∨ _
    have hm : unseenL.getD ((n.fdiv 4).fmod 27).toNat 0 ∈ unseenL := by
      have hlt : ((n.fdiv 4).fmod 27).toNat < unseenL.length := by show _ < 27; omega
      rw [List.getD_eq_getElem?_getD, List.getElem?_eq_getElem hlt]
      exact List.getElem_mem hlt
    have := unseen_ok _ hm
    simp only [List.getD_cons_zero]
    omega
  · rw [e]; simp only [List.getD_cons_succ, List.getD_cons_zero]; omega
  · rw [e]; simp only [List.getD_cons_succ, List.getD_cons_zero]; omega
  · rw [e]; simp only [List.getD_cons_succ, List.getD_cons_zero]
    split <;> omega
def codesN (ds : List Int) : List Nat := ds.map fun n => (codeOf n).toNat
theorem codesN_ok (ds : List Int) : ∀ c ∈ codesN ds, okC c := by
  intro c hc
  obtain ⟨n, _, rfl⟩ := List.mem_map.mp hc
  obtain ⟨c, e, h⟩ := codeOf_ok n
  rw [e]; exact h
theorem codesN_zi (ds : List Int) : zi (codesN ds) = ds.map codeOf := by
  unfold zi codesN
  rw [List.map_map]
  apply List.map_congr_left
  intro n _
  obtain ⟨c, e, h⟩ := codeOf_ok n
  show (((codeOf n).toNat : Nat) : Int) = _
  rw [e]; rfl
theorem san_len (cs : List Nat) : (san cs).length ≤ 4 * cs.length := by
  unfold san dec
  refine Nat.le_trans (dec_len _ _) ?_
  unfold nat
  rw [List.length_map]
  exact encB_len cs
theorem filt_len (l : List Nat) : (filt l).length ≤ l.length := List.length_filter_le _ _

theorem txt_app (a b : List Nat) : txt a ++ txt b = txt (a ++ b) := by
  show (⟨(txt a).cps ++ (txt b).cps⟩ : Str) = _
  unfold txt; simp
theorem txt_beq (a b : List Nat) : (txt a == txt b) = decide (a = b) := by
  rw [← toList_beq]
  by_cases h : a = b
  · subst h; simp
  · have : ¬ (txt a).cps.toList = (txt b).cps.toList := by unfold txt; simpa using h
    rw [decide_eq_false h]; simpa using this
theorem txt_inj {a b : List Nat} (h : txt a = txt b) : a = b := by
  have := congrArg (fun x : Str => x.cps.toList) h
  simpa [txt] using this
theorem ints_of_zi {l : List Nat} {ys : List Value} (h : Paired (fun c y => ∃ t, y = Value.int ((c : Nat) : Int) t) l ys) : IntsAre ys (zi l) := by
  induction h with
  | nil => exact .nil
  | cons h1 _ ih =>
    obtain ⟨t, rfl⟩ := h1
    exact .cons _ _ ih
/-- the frame of law -/
structure LF (s₀ : Shared) (L : Addr) (m : Str → Option Value) (s : Shared) (uv cv : Value) (cs : List Nat) : Prop where
  F : Fm s₀ L m s
  co : m "codes" = some cv
  ce : s.heap.IsCell (L + 1) (some uv)
  ul : IL s.heap uv unseenL
  cl : IL s.heap cv (zi cs)
theorem LF.k {s₀ s s' : Shared} {L : Addr} {m : Str → Option Value} {uv cv : Value} {cs : List Nat} (x : LF s₀ L m s uv cv cs) (k : Kp s s') : LF s₀ L m s' uv cv cs :=
  ⟨x.F.k k, x.co, x.ce.keeps k.get, x.ul.k k, x.cl.k k⟩
theorem LF.st {s₀ s s' : Shared} {L : Addr} {m m' : Str → Option Value} {uv cv : Value} {cs : List Nat} (x : LF s₀ L m s uv cv cs) (F : Fm s₀ L m' s') (k : St L s s') (h : m' "codes" = m "codes") : LF s₀ L m' s' uv cv cs :=
  ⟨F, h.trans x.co, cell_st x.ce x.F.ns k, x.ul.st x.F.ns k, x.cl.st x.F.ns k⟩
section
variable {w : World} {mean : ExcName → Option Value} {mg mb : Str → Option Value} {A : Around} {E : Value → Shared → Prop} {s : Shared} {env : Env} {Q : Value → Shared → Prop}
theorem G0.m_law (G : G0 w mean mg mb s.heap) : mg "law" = some (.ref 94) := (G.main _).trans (by kernel_rfl)
theorem e_bool {b : Bool} {k pos} (h : Q (.bool b) s) : wpAny (model pw w) A (eval (.Constant (.bool b) k pos) env) Q E s := wpAny_Constant_bool h
theorem e_two {x y : Expr} {k : Nat} {pos : Pos} (h : wpAny (model pw w) A (eval x env) (fun v s₁ => wpAny (model pw w) A (eval y env) (fun v' s₂ => ∀ t s₃, Kp s₂ s₃ → s₃.heap.IsTuple t #[v, v'] → Q (.ref t) s₃) E s₁) E s)
    (hx : starEach [x, y] env = (false, eval x env) :: starEach [y] env := by rfl) (hy : starEach [y] env = (false, eval y env) :: starEach [] env := by rfl) :
    wpAny (model pw w) A (eval (.Tuple [x, y] k pos) env) Q E s := by
  refine Tuple_ (e_cons (wpAny_mono h (fun v s₁ h₁ => e_cons (wpAny_mono h₁ (fun v' s₂ h₂ => e_nil ?_) fun _ _ e => e) hy) fun _ _ e => e) hx)
  refine wpAny_newObj_type (h₂ _ _ (Kp.push _ _) ⟨_, Heap.get?_push_size _ rfl, rfl, 0, rfl⟩) (by show 2 ≤ sizeLine; decide)
theorem o_addS {a b : List Nat} {t u : Tok} (hn : a.length + b.length ≤ 1000) (h : ∀ t s', Kp s s' → Q (.str (txt (a ++ b)) t) s') : wpAny (model pw w) A (binaryOp .Add (.str (txt a) t) (.str (txt b) u)) Q E s := by
  refine PyProof.Rows.add_str (fun t' tk => ?_) ?_
  · rw [txt_app]; exact h _ _ ⟨s.heap, tk, rfl, fun _ _ e => e⟩
  · have e1 : (txt a).length = a.length := by simp [txt, Str.length]
    have e2 : (txt b).length = b.length := by simp [txt, Str.length]
    rw [e1, e2]; exact line_le hn
/-- a comprehension of ints over a list of ints -/
theorem e_compM {elt iter : Expr} {x : Str} {px : Pos} {ifs : List Expr} {scope : Scope} {cl : List (Str × Addr)} {pos : Pos} (p : Int → Bool) (hh : A.handled = none)
    (h : wpAny (model pw w) A (eval iter env) (fun v s₁ => ∃ ns, IM s₁.heap v ns ∧ ns.length ≤ 1000 ∧
      (∀ C i t s₃ m₃ E', s₃.heap.Ns C m₃ → m₃ x = some (.int i t) → Ext s₁.heap s₃.heap → wpAny (model pw w) A (tests ifs (compEnvC scope cl C env)) (fun ok s₄ => ok = p i ∧ Kp s₃ s₄) E' s₃) ∧
      (∀ C i t s₃ m₃ E', p i = true → s₃.heap.Ns C m₃ → m₃ x = some (.int i t) → Ext s₁.heap s₃.heap → wpAny (model pw w) A (eval elt (compEnvC scope cl C env)) (fun y s₄ => y = .int i t ∧ Kp s₃ s₄) E' s₃) ∧
      (∀ D s' ys, Kp s₁ s' → s₁.heap.get? D = none → s'.heap.IsList D ys → IntsAre ys.toList (ns.filter p) → Q (.ref D) s')) E s)
    (hclos : closureFor scope env = pure cl := by rfl) (hcell : (scope.names.all fun y => y.2 != .cell) = true := by rfl) (hkind : scope.kind = .function := by rfl)
    (hnames : (scope.names.all fun y => y.2 != .local || scope.names.lookup y.1 == some .local) = true := by rfl) (hx : scope.names.lookup x = some .local := by rfl)
    (hs : ∀ x, foldedSetIterable iter env x = pure x := by intro _; rfl) :
    wpAny (model pw w) A (eval (.ListComp elt [⟨.Name x px, iter, ifs, 0⟩] scope pos) env) Q E s := by
  refine wpAny_ListComp_free (fun v => match v with | .int i _ => p i | _ => false) (fun v y => y = v) hclos (fun y hy => by simpa using List.all_eq_true.mp hcell y hy) hkind (fun y hy hl => by
      have := List.all_eq_true.mp hnames y hy
      rw [hl] at this
      simpa using this) hx (wpAny_mono h (fun v s₁ h₁ => ?_) fun _ _ e => e) hs
  obtain ⟨ns, ⟨ax, items, rfl, hL, hI⟩, hsz, htest, helt, hQ⟩ := h₁
  refine wpAny_pyIter_list hL ?_
  have hfr := fresh_size s₁.heap
  have hax : ax ≠ s₁.heap.objs.size := by
    intro e
    obtain ⟨o, ho, _⟩ := hL
    rw [e, hfr] at ho; cases ho
  have hlt : ax < s₁.heap.objs.size := by
    obtain ⟨o, ho, _⟩ := hL; exact Heap.lt_size ho
  refine ⟨s₁.heap.objs.size, [s₁.heap.objs.size, ax], [s₁.heap.objs.size], items.size, (fun i v => items[i]? = some v), _, rfl, Walks.list hh _ ax hax items, by rw [IntsAre.size hI]; exact line_le hsz, ⟨⟨_, Heap.get?_push_size _ rfl, rfl, rfl⟩, hL.push _⟩, ?_, ⟨?_, ?_⟩, ?_⟩
  · intro b hb
    show b < (s₁.heap.push _).objs.size
    rw [Heap.size_push]
    rcases List.mem_cons.mp hb with rfl | hb
    · exact Nat.lt_succ_self _
    · rw [List.mem_singleton.mp hb]
      exact Nat.lt_succ_of_lt hlt
  · intro C i v s₃ m₃ E' _ hP hn hm hold _
    obtain ⟨c, tc, rfl⟩ := ints_mem hI (Array.mem_toList_iff.mpr (Array.mem_of_getElem? hP))
    exact htest C c tc s₃ m₃ E' hn hm fun b o e => hold b o (not_mem_one (Nat.ne_of_lt (Heap.lt_size e))) (Heap.get?_push_of_some _ e)
  · intro C i v s₃ m₃ E' _ hP hp hn hm hold _
    obtain ⟨c, tc, rfl⟩ := ints_mem hI (Array.mem_toList_iff.mpr (Array.mem_of_getElem? hP))
    exact helt C c tc s₃ m₃ E' hp hn hm fun b o e => hold b o (not_mem_one (Nat.ne_of_lt (Heap.lt_size e))) (Heap.get?_push_of_some _ e)
  · intro D h' tk ys vs hnew hlD hpl hlen hP hF hk
    rw [list_of_places hlen hP] at hF
    refine hQ D _ ys (Kp.mk fun b o e => hk b o (not_mem_one (Nat.ne_of_lt (Heap.lt_size e))) (Heap.get?_push_of_some _ e)) ?_ hlD ?_
    · cases e : s₁.heap.get? D with
      | none => rfl
      | some o' => rw [Heap.get?_push_of_some _ e] at hnew; cases hnew
    · rw [paired_eq hF]
      exact ints_filter (q := p) (fun _ _ => rfl) hI
theorem ints_fun : ∀ {vs : List Value} {ns ms : List Int}, IntsAre vs ns → IntsAre vs ms → ns = ms
  | _, _, _, .nil, .nil => rfl
  | _, _, _, .cons _ _ r, .cons _ _ q => by rw [ints_fun r q]
theorem IM.one {h : Heap} {v : Value} {ns ms : List Int} (x : IM h v ns) (y : IM h v ms) : ns = ms := by
  obtain ⟨a, vs, rfl, ⟨o, ho, _, n, hd⟩, i⟩ := x
  obtain ⟨a', vs', e, ⟨o', ho', _, n', hd'⟩, i'⟩ := y
  injection e with e
  subst e
  rw [ho] at ho'
  cases ho'
  rw [hd] at hd'
  injection hd' with e _
  subst e
  exact ints_fun i i'
/-- the two texts' signs as ints, by a test -/
theorem signs_elt {elt : Expr} {n1 n2 : Str} {px p2 pos : Pos} {ifs : List Expr} {scope : Scope} {l : List Nat} {t : Tok} {m₃ : Str → Option Value} {s₃ : Shared} (p : Nat → Bool) (G : G0 w mean mg mb s₃.heap) (hh : A.handled = none)
    (hn : s₃.heap.Ns env.locals m₃) (hx : m₃ n2 = some (.str (txt l) t)) (hl : l.length ≤ 1000)
    (htest : ∀ C (c : Nat) u s₄ m₄ E', G0 w mean mg mb s₄.heap → s₄.heap.Ns C m₄ → m₄ n1 = some (.str ⟨#[c]⟩ u) → wpAny (model pw w) A (tests ifs (compEnvC scope [] C env)) (fun ok s₅ => ok = p c ∧ Kp s₄ s₅) E' s₄)
    (helt : ∀ C (c : Nat) u s₄ m₄ E', G0 w mean mg mb s₄.heap → s₄.heap.Ns C m₄ → m₄ n1 = some (.str ⟨#[c]⟩ u) → wpAny (model pw w) A (eval elt (compEnvC scope [] C env)) (fun r s₅ => (∃ t, r = .int (c : Int) t) ∧ Kp s₄ s₅) E' s₄)
    (h : ∀ T s₄ its, Kp s₃ s₄ → s₃.heap.get? T = none → s₄.heap.IsList T its → IntsAre its.toList (zi (l.filter p)) → Q (.ref T) s₄)
    (hclos : closureFor scope env = pure [] := by rfl) (hcell : (scope.names.all fun y => y.2 != .cell) = true := by rfl) (hkind : scope.kind = .function := by rfl)
    (hnames : (scope.names.all fun y => y.2 != .local || scope.names.lookup y.1 == some .local) = true := by rfl) (hlx : scope.names.lookup n1 = some .local := by rfl)
    (hs : ∀ x, foldedSetIterable (.Name n2 p2) env x = pure x := by intro _; rfl)
    (hk : env.scope.kind = .function := by rfl) (hkl : env.kindOf n2 = some .local := by rfl) (hd : (n2 == ("__debug__" : Str)) = false := by decide) :
    wpAny (model pw w) A (eval (.ListComp elt [⟨.Name n1 px, .Name n2 p2, ifs, 0⟩] scope pos) env) Q E s₃ := by
  refine e_compS (cl := []) p (fun c y => ∃ t, y = .int (c : Int) t) hh ?_ hclos hcell hkind hnames hlx hs
  refine e_local hn hx ?_ hk hkl hd
  refine ⟨_, _, rfl, by simpa [txt] using hl, ?_, ?_, ?_⟩
  · intro C c u s₄ m₄ E' _ hn' hm' hx'
    exact htest C c u s₄ m₄ E' (G.keeps hx') hn' hm'
  · intro C c u s₄ m₄ E' _ _ hn' hm' hx'
    exact helt C c u s₄ m₄ E' (G.keeps hx') hn' hm'
  · intro D s' ys n k' hD hL hF
    refine h D s' ys k' hD hL.isList ?_
    have := ints_of_zi hF
    simpa [txt] using this
end
end Mine
end
section
open PySem PySem.W PySem.Calls PyProof.Rows
set_option maxRecDepth 100000
set_option Elab.async false
namespace Mine
def zc (l : List Nat) : List Int := zi (l.filter c6)
theorem c6_dec (c : Nat) : (decide (65529 ≤ (c : Int) ∧ (c : Int) ≤ 65533) == true) = c6 c := by
  have : decide (65529 ≤ (c : Int) ∧ (c : Int) ≤ 65533) = c6 c := by
    unfold c6; apply decide_eq_decide.mpr; omega
  rw [this]; simp
theorem zi_inj {a b : List Nat} (h : zi a = zi b) : a = b := by
  have := congrArg (List.map Int.toNat) h
  have e : ∀ l : List Nat, (zi l).map Int.toNat = l := by
    intro l
    induction l with
    | nil => rfl
    | cons c r ih =>
      show ((c : Int)).toNat :: (zi r).map Int.toNat = _
      rw [ih]; rfl
  rwa [e, e] at this
def SG (p : Nat → Bool) (v : Value) (ns : List Int) : Prop := ∀ l t, v = .str (txt l) t → ns = zi (l.filter p)
theorem SG.two {p : Nat → Bool} {a b : List Nat} {t u : Tok} {nss : List (List Int)} (h : Paired (SG p) [Value.str (txt a) t, Value.str (txt b) u] nss) : nss = [zi (a.filter p), zi (b.filter p)] := by
  cases h with
  | cons h1 h =>
    cases h with
    | cons h2 h =>
      cases h
      rw [h1 _ _ rfl, h2 _ _ rfl]
theorem zc_len {a b : List Nat} (h : a = b ∨ (a.filter c6).length ≠ (b.filter c6).length) : (decide (a = b) != (((zc a).length : Int) == ((zc b).length : Int))) = false := by
  unfold zc
  rw [zi_len, zi_len]
  rcases h with rfl | h
  · simp
  · have h1 : ¬ a = b := fun e => h (by rw [e])
    have h2 : ((((a.filter c6).length : Nat) : Int) == (((b.filter c6).length : Nat) : Int)) = false := by
      rw [beq_eq_false_iff_ne]
      intro e; exact h (by omega)
    rw [decide_eq_false h1, h2]; rfl
section
variable {w : World} {mean : ExcName → Option Value} {mg mb : Str → Option Value} {A : Around} {s s₀ : Shared} {Q : Value → Shared → Prop}
theorem law_tail {L : Addr} {cd : Value} {m : Str → Option Value} {uv cv : Value} {cs me jo : List Nat} {t1 t2 : Tok} (G : G0 w mean mg mb s₀.heap) (hA : AOk A 4) (X : LF s₀ L m s uv cv cs) (hme : m "mended" = some (.str (txt me) t1)) (hjo : m "joined" = some (.str (txt jo) t2))
    (hc : ∀ c ∈ cs, okC c) (hlen : cs.length ≤ 10) (eme : me = filt (san cs)) (ejo : jo = filt (san (filt cs))) (h : ∀ s', Kp s₀ s' → Q (.bool true) s') :
    wpAny (model pw w) A (execs ((dOf 14).body.drop 6) (envOfC (dOf 14).name (dOf 14).scope L 94 cd)) (fun f s' => ∃ v, f = .ret v ∧ Q v s') (fun _ _ => False) s := by
  have lme : me.length ≤ 40 := by
    rw [eme]; have h1 := filt_len (san cs); have h2 := san_len cs; omega
  have ljo : jo.length ≤ 40 := by
    rw [ejo]; have h1 := filt_len (san (filt cs)); have h2 := san_len (filt cs); have h3 := filt_len cs; omega
  have G1 := G.k X.F.kp
  -- barred
  refine wpAny_execs_cons ?_
  refine s_compO (cl := []) (SG c6) hA.handled X.F ?_
  refine e_two ?_
  refine e_local X.F.ns hme ?_
  refine e_local X.F.ns hjo ?_
  intro T₂ s₂ k₂ hT₂
  refine ⟨k₂, T₂, _, rfl, hT₂, (by show 2 ≤ 1000; decide), ?_, ?_⟩
  · intro C v s₃ m₃ E' hv hn hx hext
    obtain ⟨l, t, rfl, hl⟩ : ∃ l t, v = .str (txt l) t ∧ l.length ≤ 40 := by
      have hv : v = .str (txt me) t1 ∨ v = .str (txt jo) t2 := by simpa using hv
      rcases hv with rfl | rfl
      · exact ⟨_, _, rfl, lme⟩
      · exact ⟨_, _, rfl, ljo⟩
    have G3 : G0 w mean mg mb s₃.heap := (G1.k k₂).keeps hext
    refine signs_elt c6 G3 hA.handled hn hx (by omega) ?_ ?_ ?_
    · intro C' c u s₄ m₄ E'' G4 hn' hm'
      refine wpAny_tests_one ?_
      refine wpAny_isTrue_Compare1 ?_
      refine e_fn1 (d := dOf 6) G4 (by rw [recs_eq]; simp) G.m_c6 (fun Q' hq => e_global G4 G.m_c6 hq) ?_
      refine e_local hn' hm' ?_
      refine ⟨Kp.rfl _, ?_⟩
      refine c6_call G4 (hA.le (by decide)) fun s₅ k₅ => ?_
      refine e_bool ?_
      refine PyProof.Rows.is_bool ?_
      refine wpAny_truthy_bool ⟨c6_dec c, k₅⟩
    · intro C' c u s₄ m₄ E'' G4 hn' hm'
      refine e_call1 (id := "ord") (fun Q' hq => e_builtin G4 boot_ord hq G.n_ord) ?_
      refine e_local hn' hm' ?_
      refine PySem.P.ord_of_char ?_
      exact ⟨⟨_, rfl⟩, Kp.tok _ _⟩
    · intro T s₄ its k₄ hT hlT hi
      refine ⟨⟨T, its, _, rfl, hT, hlT, hi, ?_⟩, k₄⟩
      intro l' t' e
      injection e with e _
      rw [txt_inj e]
  intro D s₄ F4 st4 nss hP hB4
  obtain rfl := SG.two hP
  have X4 := (X.k k₂).st F4 st4 rfl
  have hB4 : LM s₄.heap (.ref D) [zc me, zc jo] := hB4
  clear hP st4 hT₂
  dsimp only
  -- (mended == joined) != (len(barred[0]) == len(barred[1]))
  have G4 := G.k F4.kp
  refine wpAny_execs_cons ?_
  refine wpAny_If ?_
  refine wpAny_isTrue_Compare1 ?_
  refine wpAny_Compare1 ?_
  refine e_local F4.ns hme ?_
  refine e_local F4.ns hjo ?_
  refine PyProof.Rows.eq_str ?_
  refine wpAny_Compare1 ?_
  refine e_call1 (id := "len") (fun Q' hq => e_builtin G4 boot_len hq G.n_len) ?_
  refine Subscript_ ?_
  refine e_local F4.ns (if_pos rfl) ?_
  refine e_int fun t₅ s₅ k₅ => ?_
  refine e_itemM0 (hB4.k k₅) fun y₀ hy₀ => ?_
  refine o_lenM hy₀ ?_ fun t₆ s₆ k₆ => ?_
  · unfold zc; rw [zi_len]; exact Nat.le_trans (List.length_filter_le _ _) (by omega)
  have k46 := k₅.trans k₆
  have G6 := G4.k k46
  refine e_call1 (id := "len") (fun Q' hq => e_builtin G6 boot_len hq G.n_len) ?_
  refine Subscript_ ?_
  refine e_local (F4.k k46).ns (if_pos rfl) ?_
  refine e_int fun t₇ s₇ k₇ => ?_
  refine e_itemM1 (hB4.k (k46.trans k₇)) fun y₁ hy₁ => ?_
  refine o_lenM hy₁ ?_ fun t₈ s₈ k₈ => ?_
  · unfold zc; rw [zi_len]; exact Nat.le_trans (List.length_filter_le _ _) (by omega)
  have k48 := k46.trans (k₇.trans k₈)
  refine PyProof.Rows.eq_int ?_
  refine PyProof.Rows.ne_bool ?_
  refine wpAny_truthy_bool ?_
  rw [txt_beq, zc_len ?hzc]
  case hzc =>
    rw [eme, ejo]
    rcases joint_eq hc with e | e
    · exact .inl e.symm
    · right; unfold cnt at e; omega
  rw [if_neg (by decide)]
  refine wpAny_execs_nil ?_
  have X8 := X4.k k48
  have hB8 := hB4.k k48
  have G8 := G.k X8.F.kp
  clear hy₀ hy₁ hB4 X4 G6 G4
  -- dues
  refine wpAny_execs_cons ?_
  refine s_assign X8.F ?_
  refine List_ ?_
  refine e_cons ?_
  refine e_fn1 (d := dOf 12) G8 (by rw [recs_eq]; simp) G.m_mended (fun Q' hq => e_global G8 G.m_mended hq) ?_
  refine e_local X8.F.ns X8.co ?_
  refine ⟨Kp.rfl _, ?_⟩
  refine mended_call G8 (hA.le (by decide)) X8.cl (by rw [zi_len]; omega) fun a₉ s₉ k₉ _ hl₉ => ?_
  have X9 := X8.k k₉
  have G9 := G8.k k₉
  refine e_cons ?_
  refine e_fn1 (d := dOf 12) G9 (by rw [recs_eq]; simp) G.m_mended (fun Q' hq => e_global G9 G.m_mended hq) ?_
  refine e_compL (cl := [("unseen", L + 1)]) (fun v => match v with | .int i _ => !decide (i ∈ unseenL) | _ => false) (fun v y => y = v) hA.handled ?_
  refine e_local X9.F.ns X9.co ?_
  obtain ⟨ac, vs, nc, rfl, hlc, hic⟩ := X9.cl
  refine ⟨ac, vs, nc, rfl, hlc, ?_, ?_, ?_, ?_⟩
  · rw [IntsAre.size hic, zi_len]; omega
  · intro C v₅ s₅ m₅ E' hm hn hx hext
    obtain ⟨c, tc, rfl⟩ := ints_mem hic hm
    refine wpAny_tests_one ?_
    refine wpAny_isTrue_Compare1 ?_
    refine e_local hn hx ?_
    refine wpAny_Name (wpAny_loadName_cell (c := L + 1) rfl rfl rfl (X9.ce.keeps hext) ?_)
    refine o_notin (X9.ul.keeps hext) ?_
    exact wpAny_truthy_bool ⟨rfl, Kp.rfl _⟩
  · intro C v₅ s₅ m₅ E' hm hp hn hx hext
    refine e_local hn hx ?_
    exact ⟨rfl, Kp.rfl _⟩
  intro D₁₀ s₁₀ ys n₁₀ k₁₀ hD₁₀ hL₁₀ hF₁₀
  refine ⟨k₁₀, ?_⟩
  have hseen : IL s₁₀.heap (.ref D₁₀) (zi (filt cs)) := by
    refine ⟨D₁₀, ys, n₁₀, rfl, hL₁₀, ?_⟩
    rw [paired_eq hF₁₀]
    have := ints_filter (q := fun c => !decide (c ∈ unseenL)) (p := fun v => match v with | .int i _ => !decide (i ∈ unseenL) | _ => false) (fun _ _ => rfl) hic
    rw [zi_filter] at this
    exact this
  have G10 := G9.k k₁₀
  refine mended_call G10 (hA.le (by decide)) hseen (by have := filt_len cs; rw [zi_len]; omega) fun a₁₁ s₁₁ k₁₁ _ hl₁₁ => ?_
  refine e_nil ?_
  refine newL (fun D₁₂ s₁₂ k₁₂ hD₁₂ hL₁₂ => ?_) (show 2 ≤ sizeLine by decide)
  have k912 := k₁₀.trans (k₁₁.trans k₁₂)
  refine ⟨k₉.trans k912, fun s₁₃ F13 st13 => ?_⟩
  have X12 := X9.k k912
  have X13 := X12.st F13 st13 rfl
  rw [mendedZ_eq hc, ← eme] at hl₉
  rw [mendedZ_eq (cs := filt cs) (fun c hm => hc c (List.mem_filter.mp hm).1), ← ejo] at hl₁₁
  have hD13 : LM s₁₃.heap (.ref D₁₂) [zi me, zi jo] :=
    LM.st ⟨D₁₂, _, rfl, hL₁₂.isList, .cons (hl₉.k k912).im (.cons (hl₁₁.k k₁₂).im .nil)⟩ X12.F.ns st13
  have hB13 : LM s₁₃.heap (.ref D) [zc me, zc jo] := (hB8.k (k₉.trans k912)).st X12.F.ns st13
  clear hB8 hseen hl₉ hl₁₁ hL₁₀ hF₁₀ hL₁₂ st13 X12 X9 X8 G10 G9 G8 hlc hic
  dsimp only
  have G13 := G.k F13.kp
  -- [[ord(sign) for sign in each] for each in (mended, joined)] != dues
  refine wpAny_execs_cons ?_
  refine wpAny_If ?_
  refine wpAny_isTrue_Compare1 ?_
  refine e_compO (cl := []) (SG fun _ => true) hA.handled ?_
  refine e_two ?_
  refine e_local F13.ns ((if_neg (by decide)).trans ((if_neg (by decide)).trans hme)) ?_
  refine e_local F13.ns ((if_neg (by decide)).trans ((if_neg (by decide)).trans hjo)) ?_
  intro T₁₄ s₁₄ k₁₄ hT₁₄
  refine ⟨T₁₄, _, rfl, .inr hT₁₄, (by show 2 ≤ 1000; decide), ?_, ?_⟩
  · intro C v s₃ m₃ E' hv hn hx hext
    obtain ⟨l, t, rfl, hl⟩ : ∃ l t, v = .str (txt l) t ∧ l.length ≤ 40 := by
      have hv : v = .str (txt me) t1 ∨ v = .str (txt jo) t2 := by simpa using hv
      rcases hv with rfl | rfl
      · exact ⟨_, _, rfl, lme⟩
      · exact ⟨_, _, rfl, ljo⟩
    have G3 : G0 w mean mg mb s₃.heap := (G13.k k₁₄).keeps hext
    refine signs_elt (fun _ => true) G3 hA.handled hn hx (by omega) ?_ ?_ ?_
    · intro C' c u s₄ m₄ E'' G4 hn' hm'
      exact wpAny_pure ⟨rfl, Kp.rfl _⟩
    · intro C' c u s₄ m₄ E'' G4 hn' hm'
      refine e_call1 (id := "ord") (fun Q' hq => e_builtin G4 boot_ord hq G.n_ord) ?_
      refine e_local hn' hm' ?_
      refine PySem.P.ord_of_char ?_
      exact ⟨⟨_, rfl⟩, Kp.tok _ _⟩
    · intro T s₄ its k₄ hT hlT hi
      refine ⟨⟨T, its, _, rfl, hT, hlT, hi, ?_⟩, k₄⟩
      intro l' t' e
      injection e with e _
      rw [txt_inj e]
  intro D₁₅ s₁₅ k₁₅ hD₁₅ nss hP₁₅ hLM₁₅
  obtain rfl := SG.two hP₁₅
  have k1315 := k₁₄.trans k₁₅
  refine e_local (F13.k k1315).ns (if_pos rfl) ?_
  refine o_neLL hA hLM₁₅ (hD13.k k1315) ?_
  refine wpAny_truthy_bool ?_
  rw [List.filter_eq_self.mpr (fun _ _ => rfl), List.filter_eq_self.mpr (fun _ _ => rfl), decide_eq_true rfl]
  rw [if_neg (by decide)]
  refine wpAny_execs_nil ?_
  have F15 := F13.k k1315
  have G15 := G13.k k1315
  have hD15 := hD13.k k1315
  have hB15 := hB13.k k1315
  clear hD13 hB13 hLM₁₅ hP₁₅ hT₁₄ G13 X13
  dsimp only
  -- barred != [[code for code in due if 65529 <= code <= 65533] for due in dues]
  refine wpAny_execs_cons ?_
  refine wpAny_If ?_
  refine wpAny_isTrue_Compare1 ?_
  refine e_local F15.ns ((if_neg (by decide)).trans (if_pos rfl)) ?_
  refine e_compO (cl := []) (fun v ns => ∀ l : List Nat, IM s₁₅.heap v (zi l) → ns = zc l) hA.handled ?_
  refine e_local F15.ns (if_pos rfl) ?_
  obtain ⟨a₁₅, ⟨vs₁₅⟩, e₁₅, hl₁₅, hp₁₅⟩ := id hD15
  refine ⟨a₁₅, _, e₁₅, .inl hl₁₅, ?_, ?_, ?_⟩
  · have := hp₁₅.length
    show vs₁₅.length ≤ 1000
    have e : vs₁₅.length = 2 := this
    omega
  · intro C v s₃ m₃ E' hv hn hx hext
    obtain ⟨l, hl, hlv⟩ : ∃ l : List Nat, l.length ≤ 40 ∧ IM s₁₅.heap v (zi l) := by
      cases hp₁₅ with
      | cons h0 hp =>
        cases hp with
        | cons h1 hp =>
          cases hp
          have hv := List.mem_cons.mp hv
          rcases hv with rfl | hv
          · exact ⟨me, lme, h0⟩
          · have hv := List.mem_singleton.mp hv
            subst hv
            exact ⟨jo, ljo, h1⟩
    refine e_compM (cl := []) (fun i => decide (65529 ≤ i ∧ i ≤ 65533)) hA.handled ?_
    refine e_local hn hx ?_
    refine ⟨zi l, hlv.keeps hext, by rw [zi_len]; omega, ?_, ?_, ?_⟩
    · intro C' i t s₄ m₄ E'' hn' hm' hext'
      refine wpAny_tests_one ?_
      exact t_between hn' hm' fun s₅ k₅ => ⟨rfl, k₅⟩
    · intro C' i t s₄ m₄ E'' _ hn' hm' hext'
      refine e_local hn' hm' ?_
      exact ⟨rfl, Kp.rfl _⟩
    · intro T s₄ its k₄ hT hlT hi
      refine ⟨⟨T, its, _, rfl, hT, hlT, hi, ?_⟩, k₄⟩
      intro l' hl'
      have e := zi_inj (hlv.one hl')
      subst e
      rw [zi_filter]
      unfold zc c6
      congr 2
      funext c
      apply decide_eq_decide.mpr; omega
  intro D₁₆ s₁₆ k₁₆ hD₁₆ nss hP₁₆ hLM₁₆
  have en : nss = [zc me, zc jo] := by
    cases hp₁₅ with
    | cons h0 hp =>
      cases hp with
      | cons h1 hp =>
        cases hp
        cases hP₁₆ with
        | cons q0 hq =>
          cases hq with
          | cons q1 hq =>
            cases hq
            rw [q0 _ h0, q1 _ h1]
  subst en
  refine o_neLL hA (hB15.k k₁₆) hLM₁₆ ?_
  refine wpAny_truthy_bool ?_
  rw [decide_eq_true rfl]
  rw [if_neg (by decide)]
  refine wpAny_execs_nil ?_
  have F16 := F15.k k₁₆
  have G16 := G15.k k₁₆
  clear hB15 hLM₁₆ hP₁₆ hD15 hl₁₅ hp₁₅ e₁₅ G15 F15
  -- return _sanitize(mended + joined) == mended + joined
  have em : ∀ (D D' : Value), (fun y => if y = ("dues" : Str) then some D else if y = ("barred" : Str) then some D' else m y) "mended" = some (.str (txt me) t1) := fun D D' => (if_neg (by decide)).trans ((if_neg (by decide)).trans hme)
  have ej : ∀ (D D' : Value), (fun y => if y = ("dues" : Str) then some D else if y = ("barred" : Str) then some D' else m y) "joined" = some (.str (txt jo) t2) := fun D D' => (if_neg (by decide)).trans ((if_neg (by decide)).trans hjo)
  have okv : ∀ c ∈ me ++ jo, okV c := by
    intro c hm
    rcases List.mem_append.mp hm with hm | hm
    · rw [eme] at hm; exact san_okV cs c (List.mem_filter.mp hm).1
    · rw [ejo] at hm; exact san_okV (filt cs) c (List.mem_filter.mp hm).1
  refine wpAny_execs_cons ?_
  refine wpAny_Return_some ?_
  refine wpAny_Compare1 ?_
  refine e_fn1 (d := dOf 1) G16 (by rw [recs_eq]; simp) G.m_san (fun Q' hq => e_global G16 G.m_san hq) ?_
  refine wpAny_BinOp ?_
  refine e_local F16.ns (em _ _) ?_
  refine e_local F16.ns (ej _ _) ?_
  refine o_addS (by omega) fun t₁₇ s₁₇ k₁₇ => ⟨k₁₇, ?_⟩
  refine san_call (G16.k k₁₇) (hA.le (by decide)) (fun c hm => okV_okC (okv c hm)) (by rw [List.length_append]; omega) fun t₁₈ s₁₈ k₁₈ => ?_
  have F18 := F16.k (k₁₇.trans k₁₈)
  refine wpAny_BinOp ?_
  refine e_local F18.ns (em _ _) ?_
  refine e_local F18.ns (ej _ _) ?_
  refine o_addS (by omega) fun t₁₉ s₁₉ k₁₉ => ?_
  refine PyProof.Rows.eq_str ?_
  rw [txt_beq, san_self _ okv, decide_eq_true rfl]
  exact ⟨_, rfl, h _ (F18.k k₁₉).kp⟩
end
end Mine
end
section
open PySem PySem.W PySem.Calls PyProof.Rows
set_option maxRecDepth 100000
set_option Elab.async false
namespace Mine
theorem codes_paired : ∀ {vs ys : List Value} {ds : List Int}, IntsAre vs ds → Paired (fun v y => ∃ i t u, v = Value.int i t ∧ y = Value.int (codeOf i) u) vs ys → IntsAre ys (ds.map codeOf)
  | _, _, _, .nil, .nil => .nil
  | _, _, _, .cons i t r, .cons h q => by
    obtain ⟨i', t', u, e, rfl⟩ := h
    injection e with e _
    subst e
    exact .cons _ _ (codes_paired r q)
theorem chars_paired : ∀ {vs ys : List Value} {cs : List Nat}, IntsAre vs (zi cs) → Paired (fun v y => ∀ (c : Nat) t, v = Value.int c t → IsStr y (sgn c)) vs ys → ∃ l : List (Str × Tok), strValues l = ys ∧ l.map (·.1) = cs.map sgn
  | _, _, [], h, q => by
    cases h; cases q; exact ⟨[], rfl, rfl⟩
  | _, _, c :: cs, h, q => by
    cases h with
    | cons _ t r =>
      cases q with
      | cons h q =>
        obtain ⟨l, h1, h2⟩ := chars_paired r q
        obtain ⟨u, e⟩ := h c t rfl
        exact ⟨(_, u) :: l, by rw [e, ← h1]; rfl, by rw [List.map_cons, List.map_cons, h2]; rfl⟩
section
variable {w : World} {mean : ExcName → Option Value} {mg mb : Str → Option Value} {A : Around} {E : Value → Shared → Prop} {s : Shared} {Q : Value → Shared → Prop}
theorem law_call {v : Value} {ns : List Int} (G : G0 w mean mg mb s.heap) (hA : AOk A 5) (hv : IM s.heap v ns) (hlen : ns.length ≤ 63) (h : ∀ s', Kp s s' → Q (.bool true) s') :
    wpAny (model pw w) A (call (.ref 94) [v]) Q E s := by
  refine callDefC (d := dOf 14) (binds := [("script", v)]) (cn := "unseen") G hA (by rw [recs_eq]; simp) G.m_law (fun _ _ _ => rfl) (fun _ => rfl) (fun _ _ => rfl) (fun cd s₁ F hc₁ => ?_)
  generalize hL : s.heap.objs.size = L at F hc₁ ⊢
  have hA' := hA.deeper (envOfC (dOf 14).name (dOf 14).scope L 94 cd)
  have G1 := G.k F.kp
  have hv1 : IM s₁.heap v ns := hv.keeps F.kp.get
  -- drawn = (script + [..][len(script):])[:10]
  refine wpAny_execs_cons ?_
  refine s_assign F ?_
  refine e_slice (List.take 10) ?_
  refine wpAny_BinOp ?_
  refine e_local F.ns rfl ?_
  refine e_slice (List.drop ns.length) ?_
  refine e_litList (ns := [138, 0, 1, 45, 1047, 58, 141]) ?hl (by decide) fun v₂ s₂ k₂ hv₂ => ?_
  case hl => exact (.cons (.cons (.cons (.cons (.cons (.cons (.cons .nil)))))))
  refine wpAny_evalPart_some ?_
  refine e_call1 (id := "len") (fun Q' hq => e_builtin (G1.k k₂) boot_len hq G.n_len) ?_
  refine e_local (F.k k₂).ns rfl ?_
  refine o_lenM (hv1.keeps k₂.get) (by omega) fun t₃ s₃ k₃ => ?_
  refine wpAny_evalPart_none ?_
  refine ⟨_, some (ns.length : Int), none, hv₂.k k₃, by decide, .int _ _, .none, pick_from ns.length, fun a₄ s₄ k₄ _ hl₄ => ?_⟩
  have k14 := k₂.trans (k₃.trans k₄)
  refine o_addM (hv1.keeps k14.get) hl₄.im (by simp only [List.length_drop, List.length_cons, List.length_nil]; omega) fun a₅ s₅ k₅ hl₅ => ?_
  refine wpAny_evalPart_none ?_
  refine wpAny_evalPart_some ?_
  refine e_int fun t₆ s₆ k₆ => ?_
  refine ⟨_, none, some ((10 : Nat) : Int), hl₅.k k₆, by simp only [List.length_append, List.length_drop, List.length_cons, List.length_nil]; omega, .none, .int _ _, pick_upto 10, fun a₇ s₇ k₇ _ hl₇ => ⟨k14.trans (k₅.trans (k₆.trans k₇)), fun s₈ F8 st8 => ?_⟩⟩
  have kall := k14.trans (k₅.trans (k₆.trans k₇))
  have hd8 := hl₇.st (F.k kall).ns st8
  have hc8 := cell_st (hc₁.keeps kall.get) (F.k kall).ns st8
  generalize hds : List.take 10 (ns ++ List.drop ns.length [138, 0, 1, 45, 1047, 58, 141]) = ds at hd8
  have lds : ds.length ≤ 10 := by rw [← hds, List.length_take]; exact Nat.min_le_left _ _
  clear hl₇ hl₅ hl₄ hv₂ st8 hc₁ hds
  dsimp only
  -- codes = [_law_code(number) for number in drawn]
  have G8 := G.k F8.kp
  refine wpAny_execs_cons ?_
  refine s_compL (cl := []) (fun _ => true) (fun v y => ∃ i t u, v = Value.int i t ∧ y = Value.int (codeOf i) u) hA'.handled F8 ?_
  refine e_local F8.ns (if_pos rfl) ?_
  obtain ⟨a₈, vs₈, n₈, e₈, hL₈, hi₈⟩ := hd8
  refine ⟨Kp.rfl _, a₈, vs₈, n₈, e₈, hL₈, by rw [IntsAre.size hi₈]; omega, ?_, ?_, ?_⟩
  · intro C v' s₃ m₃ E' _ hn hm hx
    exact wpAny_pure ⟨rfl, Kp.rfl _⟩
  · intro C v' s₃ m₃ E' hmem _ hn hm hx
    obtain ⟨i, t, rfl⟩ := ints_mem hi₈ hmem
    have G3 : G0 w mean mg mb s₃.heap := G8.keeps hx
    refine e_fn1 (d := dOf 9) G3 (by rw [recs_eq]; simp) G.m_code (fun Q' hq => e_global G3 G.m_code hq) ?_
    refine e_local hn hm ?_
    refine ⟨Kp.rfl _, ?_⟩
    exact code_call G3 (hA'.le (by decide)) fun t' s' k' => ⟨⟨i, t, t', rfl, rfl⟩, k'⟩
  intro D₉ s₉ ys₉ n₉ F9 st9 _ hL₉ hF₉
  have hc9 := cell_st hc8 F8.ns st9
  have hcl9 : IL s₉.heap (.ref D₉) (zi (codesN ds)) := by
    refine ⟨D₉, ys₉, n₉, rfl, hL₉, ?_⟩
    rw [codesN_zi]
    rw [List.filter_eq_self.mpr (fun _ _ => rfl)] at hF₉
    exact codes_paired hi₈ hF₉
  have okc := codesN_ok ds
  have lcs : (codesN ds).length ≤ 10 := by unfold codesN; rw [List.length_map]; exact lds
  generalize codesN ds = cs at hcl9 okc lcs
  clear hF₉ hL₉ st9 hL₈ hi₈ e₈ hc8 G8
  dsimp only
  -- unseen = _law_unseen()
  have G9 := G.k F9.kp
  refine wpAny_execs_cons ?_
  refine wpAny_Assign_Name ?_
  refine e_fn0 (d := dOf 8) G9 (by rw [recs_eq]; simp) G.m_unseen (fun Q' hq => e_global G9 G.m_unseen hq) ?_
  refine unseen_call G9 (hA'.le (by decide)) fun uv s₁₀ k₁₀ hu₁₀ => ?_
  have hc10 := hc9.keeps k₁₀.get
  refine s_storeCell (c := L + 1) (F9.k k₁₀) hc10 (Nat.lt_succ_self L) (fun s₁₁ F11 hc11 ex11 => ?_) rfl
  have toIL : ∀ {v : Value} {ns : List Int}, IL s₁₀.heap v ns → IL s₁₁.heap v ns := by
    rintro v ns ⟨a, vs, n, rfl, hl, hi⟩
    exact ⟨a, vs, n, rfl, ex11 _ _ (Ne.symm (isCell_ne_list hc10 hl)) hl, hi⟩
  have X11 : LF s L _ s₁₁ uv (.ref D₉) cs := ⟨F11, if_pos rfl, hc11, toIL hu₁₀, toIL (hcl9.k k₁₀)⟩
  clear F11 hc11 ex11 hc10 hc9 toIL hu₁₀ hcl9 G9
  dsimp only
  -- text = ''.join([chr(code) for code in codes])
  refine wpAny_execs_cons ?_
  refine s_assign X11.F ?_
  refine e_join ?_
  have X12 := X11.k (Kp.tok s₁₁ (s₁₁.toks + 1))
  have G12 := G.k X12.F.kp
  refine e_compL (cl := []) (fun _ => true) (fun v y => ∀ (c : Nat) t, v = Value.int c t → IsStr y (sgn c)) hA'.handled ?_
  refine e_local X12.F.ns X12.co ?_
  obtain ⟨a₁₂, vs₁₂, n₁₂, e₁₂, hL₁₂, hi₁₂⟩ := X12.cl
  refine ⟨a₁₂, vs₁₂, n₁₂, e₁₂, hL₁₂, by rw [IntsAre.size hi₁₂, zi_len]; omega, ?_, ?_, ?_⟩
  · intro C v' s₃ m₃ E' _ hn hm hx
    exact wpAny_pure ⟨rfl, Kp.rfl _⟩
  · intro C v' s₃ m₃ E' hmem _ hn hm hx
    obtain ⟨c, t, rfl, hc⟩ : ∃ (c : Nat) (t : Tok), v' = .int c t ∧ c ∈ cs := by
      have key : ∀ {vs : List Value} {cs : List Nat}, IntsAre vs (zi cs) → v' ∈ vs → ∃ (c : Nat) (t : Tok), v' = .int c t ∧ c ∈ cs := by
        intro vs cs
        induction cs generalizing vs with
        | nil => intro h hm; cases h; cases hm
        | cons c cs ih =>
          intro h hm
          cases h with
          | cons _ t r =>
            rcases List.mem_cons.mp hm with rfl | hm
            · exact ⟨c, t, rfl, by simp⟩
            · obtain ⟨c', t', e, hc⟩ := ih r hm
              exact ⟨c', t', e, by simp [hc]⟩
      exact key hi₁₂ hmem
    have G3 : G0 w mean mg mb s₃.heap := G12.keeps hx
    refine e_call1 (id := "chr") (fun Q' hq => e_builtin G3 boot_chr hq G.n_chr) ?_
    refine e_local hn hm ?_
    refine PySem.P.chr_of_int ?_ ⟨?_, Kp.tok _ _⟩
    · have := (okc c hc).1
      rw [decide_eq_false (by omega), decide_eq_false (by omega)]; rfl
    · intro c' t' e
      injection e with e _
      have e : c = c' := by omega
      subst e
      exact ⟨_, rfl⟩
  intro D₁₃ s₁₃ ys₁₃ n₁₃ k₁₃ _ hL₁₃ hF₁₃
  rw [List.filter_eq_self.mpr (fun _ _ => rfl)] at hF₁₃
  obtain ⟨l₁₃, hl₁₃, hm₁₃⟩ := chars_paired hi₁₂ hF₁₃
  have k1213 := (Kp.tok s₁₁ (s₁₁.toks + 1)).trans k₁₃
  refine ⟨D₁₃, l₁₃, cs, n₁₃, rfl, by rw [hl₁₃]; exact hL₁₃, hm₁₃, by omega, fun t₁₄ s₁₄ k₁₄ => ⟨k1213.trans k₁₄, fun s₁₅ F15 st15 => ?_⟩⟩
  have X15 := (X11.k (k1213.trans k₁₄)).st F15 st15 rfl
  clear F15 st15 hm₁₃ hl₁₃ hF₁₃ hL₁₃ hL₁₂ hi₁₂ e₁₂ G12 X12 X11
  dsimp only
  -- mended = _law_left(_sanitize(text))
  have G15 := G.k X15.F.kp
  refine wpAny_execs_cons ?_
  refine s_assign X15.F ?_
  refine e_fn1 (d := dOf 13) G15 (by rw [recs_eq]; simp) G.m_left (fun Q' hq => e_global G15 G.m_left hq) ?_
  refine e_fn1 (d := dOf 1) G15 (by rw [recs_eq]; simp) G.m_san (fun Q' hq => e_global G15 G.m_san hq) ?_
  refine e_local X15.F.ns (if_pos rfl) ?_
  refine ⟨Kp.rfl _, ?_⟩
  refine san_call G15 (hA'.le (by decide)) okc (by omega) fun t₁₆ s₁₆ k₁₆ => ⟨k₁₆, ?_⟩
  refine left_call (G15.k k₁₆) (hA'.le (by decide)) (by have := san_len cs; omega) fun t₁₇ s₁₇ k₁₇ => ⟨k₁₆.trans k₁₇, fun s₁₈ F18 st18 => ?_⟩
  have X18 := (X15.k (k₁₆.trans k₁₇)).st F18 st18 rfl
  clear F18 st18 X15 G15
  dsimp only
  -- joined = _law_left(_sanitize(_law_left(text)))
  have G18 := G.k X18.F.kp
  refine wpAny_execs_cons ?_
  refine s_assign X18.F ?_
  refine e_fn1 (d := dOf 13) G18 (by rw [recs_eq]; simp) G.m_left (fun Q' hq => e_global G18 G.m_left hq) ?_
  refine e_fn1 (d := dOf 1) G18 (by rw [recs_eq]; simp) G.m_san (fun Q' hq => e_global G18 G.m_san hq) ?_
  refine e_fn1 (d := dOf 13) G18 (by rw [recs_eq]; simp) G.m_left (fun Q' hq => e_global G18 G.m_left hq) ?_
  refine e_local X18.F.ns ((if_neg (by decide)).trans (if_pos rfl)) ?_
  refine ⟨Kp.rfl _, ?_⟩
  refine left_call G18 (hA'.le (by decide)) (by omega) fun t₁₉ s₁₉ k₁₉ => ⟨k₁₉, ?_⟩
  refine san_call (G18.k k₁₉) (hA'.le (by decide)) (fun c hm => okc c (List.mem_filter.mp hm).1) (Nat.le_trans (List.length_filter_le _ _) (by omega)) fun t₂₀ s₂₀ k₂₀ => ⟨k₁₉.trans k₂₀, ?_⟩
  refine left_call (G18.k (k₁₉.trans k₂₀)) (hA'.le (by decide)) ?_ fun t₂₁ s₂₁ k₂₁ => ⟨(k₁₉.trans k₂₀).trans k₂₁, fun s₂₂ F22 st22 => ?_⟩
  · have h1 := san_len (filt cs)
    have h2 := filt_len cs
    show (san (filt cs)).length ≤ 1000
    omega
  have X22 := (X18.k ((k₁₉.trans k₂₀).trans k₂₁)).st F22 st22 rfl
  clear F22 st22 X18 G18
  dsimp only
  exact law_tail (me := filt (san cs)) (jo := filt (san (filt cs))) G hA' X22 ((if_neg (by decide)).trans (if_pos rfl)) (if_pos rfl) okc lcs rfl rfl h
end
end Mine
end
section
open PySem PySem.W PyProof.Rows
set_option maxRecDepth 100000
set_option maxHeartbeats 0
set_option Elab.async false
namespace Mine
noncomputable abbrev fTopRun := @PySem.W.Fast.tw14082659384304107361
noncomputable abbrev fTable := @PySem.W.Fast.tw14364793385576792824
noncomputable abbrev fSeen := @PySem.W.Fast.tw4187177175401517315
noncomputable abbrev S0 (w : World) (os : OsState) : Shared := ⟨boot_heap w.params, Array.mk [], boot_drawn, boot_toks, os⟩
/-- the modules that the text names: none -/
abbrev mods : List Str := []
/-- what the look at the state behind the top sees -/
noncomputable def topSees (w : World) (s : Shared) :=
  ((staticsOk mods (boot_heap w.params) s.heap && namesBound pw s.heap && gensDone s && laidKept (boot_heap w.params) s.heap),
    fSeen q looseNames mods (fun s => xlAt q [] s && recOk [] s) true s, H.obs s)
noncomputable def TopGood (w : World) : Prop := ∀ os, (fTopRun fTable pw w 11 (some (.ref 6)) 1600 (S0 w os) (topStub pw)).map (topSees w) = some (true, openGood q looseNames, H.val w)
theorem topFF (w : World) : TopGood ((w.withFollow "special-get-raises" false).withFollow "set-order" false) := fun os => by kernel_rfl
theorem topFT (w : World) : TopGood ((w.withFollow "special-get-raises" false).withFollow "set-order" true) := fun os => by kernel_rfl
theorem topTF (w : World) : TopGood ((w.withFollow "special-get-raises" true).withFollow "set-order" false) := fun os => by kernel_rfl
theorem topTT (w : World) : TopGood ((w.withFollow "special-get-raises" true).withFollow "set-order" true) := fun os => by kernel_rfl
theorem topGood (w : World) : TopGood w :=
  byRow2 (P := TopGood) "set-order" (fun w => byRow2 (P := fun w => TopGood (w.withFollow "set-order" false)) "special-get-raises" topFF topTF w)
    (fun w => byRow2 (P := fun w => TopGood (w.withFollow "set-order" true)) "special-get-raises" topFT topTT w) w
theorem bootSize (w : World) : ((boot_heap w.params).isNs mainGlobals && (Array.mk [] : Array GenState).size == 0, (boot_heap w.params).objs.size, (boot_heap w.params).nsMap mainGlobals "__annotations__") = (true, 11, some (.ref 6)) := by kernel_rfl
theorem left : LeftO pw q looseNames (fun s => xlAt q [] s && recOk [] s) (Hook.obs H) (Hook.val H) 1600 := fun w => by
  have bo := boot_open (p := pw) (N := 1600) (by kernel_rfl) (by decide) (fun s => rfl) w
  obtain ⟨⟨h, gs, d, k, os⟩, e, e'⟩ := Option.map_eq_some_iff.mp bo
  obtain ⟨rfl, rfl, rfl, rfl⟩ : h = boot_heap w.params ∧ gs = Array.mk [] ∧ d = boot_drawn ∧ k = boot_toks := by simpa using e'
  obtain ⟨z1, z2, z3⟩ : _ ∧ _ ∧ _ := by simpa only [Prod.mk.injEq] using bootSize w
  have g := topGood w os
  obtain ⟨s₁, r, v⟩ := Option.map_eq_some_iff.mp g
  obtain ⟨v1, v2, v3⟩ : _ ∧ _ ∧ _ := by simpa only [topSees, Prod.mk.injEq] using v
  have r' : topRun treeTable pw w 11 (some (.ref 6)) 1600 (S0 w os) (topStub pw) = some s₁ := by
    rw [PySem.W.Fast.te14082659384304107361, PySem.W.Fast.te14364793385576792824]; exact r
  have t : topFrom treeTable pw w 1600 (S0 w os) = some s₁ := by
    unfold topFrom
    dsimp only
    rw [z1, z2, z3, r']
    show (match staticsOk mods (boot_heap w.params) s₁.heap && namesBound pw s₁.heap && gensDone s₁ && laidKept (boot_heap w.params) s₁.heap with | true => _ | false => _) = _
    rw [v1]
  unfold openEnds
  rw [e]
  show (topFrom treeTable pw w 1600 _).map _ = _
  rw [t]
  refine congrArg some (Prod.ext ?_ v3)
  show openSeen q looseNames mods (fun s => xlAt q [] s && recOk [] s) true s₁ = _
  rw [PySem.W.Fast.te4187177175401517315]; exact v2
end Mine
end
open PySem PySem.W PyProof.Rows
set_option maxRecDepth 100000
set_option Elab.async false
set_option maxHeartbeats 8000000 in
theorem PySem.Challenge.cw_pg0009_01_holds : PySem.Challenge.rw_pg0009_01.Holds := by
  w_on
  o_law
  refine holds_open (q := Mine.q) (loose := Mine.looseNames) (Xt := fun s => xlAt Mine.q [] s && recOk [] s) (XP := XL Mine.q []) (Yf := Hook.obs Mine.H) (Ya := Hook.val Mine.H) (YP := Hook.says Mine.H) (N := 1600) Mine.left (Hook.of Mine.H) (Hook.keeps Mine.H) (fun s e => xl_of s (Bool.and_eq_true_iff.mp e).1) XL.keeps (by rfl) (by rfl) (by rfl) (fun s e => recFacts_of (Bool.and_eq_true_iff.mp e).2) (by rfl) (by first | assumption | decide +kernel) (by decide +kernel) ⟨rfl, rfl, rfl, rfl, rfl, by decide +kernel⟩ ?hw ?hc
  case hw => w_witness2
  intro w s0 s1 mg mb G Y fa o pm cd doc dV kV ho hd hcd hD hmg hg args vals as hpre hlay hrd hwl hlo
  clear ho hd hcd hD
  wrow_args hpre hlay hrd hwl hlo
  rename_i ns _ _ _ _ _ _ _ la lvs _ hL _ _ _ hI _ hc1 hc2
  have G' : Mine.G0 w _ mg mb s1.heap := ⟨G.T, kIn_of Y⟩
  have e : (some (Value.ref fa)) = some (.ref 94) := hmg.symm.trans G'.m_law
  injection e with e
  injection e with e
  subst e
  show wpAny _ _ (call (.ref 94) [.ref la]) _ _ _
  refine Mine.law_call G' ⟨rfl, by decide, by decide⟩ ⟨la, lvs.toArray, rfl, hL, hI⟩ (ns := ns) (by omega) fun s' k => ?_
  obtain ⟨h', tk, rfl, k⟩ := k
  refine GoodW.toG ⟨.inl ⟨_, .bool true, [], rfl, raisesW_false ?_, .bool true, ?_, fun _ => ⟨.nil, fun _ h => nomatch h⟩⟩, k, rfl, hg⟩
  · wrow_none_raised
  · wrow_post
