import PyProof.Rows.All
import Wide.All
import Wide.FinOn
import OpenK.KWalk
import OpenK.KDescr
import OpenK.KMore
import PyProof.CompUse
import PyProof.GenObj
import PyProof.Draws
import PyProof.EnumMake
import PyProof.EnumFor
import PyProof.Conv_int
import PySem.Challenge.RW_oc0243_01
set_option Elab.async false
set_option maxRecDepth 100000
set_option linter.unusedVariables false
set_option linter.unusedSimpArgs false
namespace Mine
open PySem PySem.Calls PyProof.Rows

abbrev pw : Program := PySem.Challenge.pw_oc0243_01
abbrev Led := List (Addr × (Obj → Prop))

/-- the heap h bears the base H unchanged, and the made things that the ledger tells, each at its own place -/
structure Sym (H h : Heap) (G : Led) : Prop where
  keep : ∀ b o, H.get? b = some o → h.get? b = some o
  ent : ∀ p ∈ G, ∃ o, h.get? p.1 = some o ∧ p.2 o
  new : ∀ p ∈ G, H.get? p.1 = none
  nd : (G.map (·.1)).Nodup

theorem perm_front {α : Type} : ∀ (G : List α) (i : Nat) {p : α}, G[i]? = some p → G.Perm (p :: G.eraseIdx i)
  | [], _, _, e => by cases e
  | q :: G, 0, p, e => by cases e; exact List.Perm.refl _
  | q :: G, i + 1, p, e => by
    have := perm_front G i (p := p) (by simpa using e)
    exact (this.cons q).trans (List.Perm.swap p q _)
namespace Sym
variable {H h h' : Heap} {G G' : Led} {a : Addr} {P P' : Obj → Prop} {o : Obj}

theorem get (S : Sym H h G) (m : (a, P) ∈ G) : ∃ o, h.get? a = some o ∧ P o := S.ent _ m
theorem head (S : Sym H h ((a, P) :: G)) : ∃ o, h.get? a = some o ∧ P o := S.ent _ (.head _)
theorem tail {p} (S : Sym H h (p :: G)) : Sym H h G :=
  ⟨S.keep, fun q hq => S.ent q (.tail _ hq), fun q hq => S.new q (.tail _ hq), (List.nodup_cons.mp S.nd).2⟩
theorem perm (S : Sym H h G) (e : G.Perm G') : Sym H h G' :=
  ⟨S.keep, fun q hq => S.ent q (e.mem_iff.mpr hq), fun q hq => S.new q (e.mem_iff.mpr hq), (e.map _).nodup_iff.mp S.nd⟩
theorem front (S : Sym H h G) (i : Nat) {p} (e : G[i]? = some p) : Sym H h (p :: G.eraseIdx i) := by
  exact S.perm (perm_front G i e)
theorem sub (S : Sym H h G) (e : G'.Sublist G) : Sym H h G' :=
  ⟨S.keep, fun q hq => S.ent q (e.subset hq), fun q hq => S.new q (e.subset hq), S.nd.sublist (e.map _)⟩
theorem grow (S : Sym H h G) (k : ∀ b o, h.get? b = some o → h'.get? b = some o) : Sym H h' G :=
  ⟨fun b o e => k b o (S.keep b o e), fun q hq => let ⟨o, e, p⟩ := S.ent q hq; ⟨o, k _ _ e, p⟩, S.new, S.nd⟩
theorem fresh (S : Sym H h G) (ha : h.get? a = none) : a ∉ G.map (·.1) := fun m => by
  obtain ⟨q, hq, rfl⟩ := List.mem_map.mp m
  obtain ⟨o, e, _⟩ := S.ent q hq
  rw [ha] at e; cases e
theorem none_of (S : Sym H h G) (ha : h.get? a = none) : H.get? a = none := by
  cases q : H.get? a with
  | none => rfl
  | some o => rw [S.keep _ _ q] at ha; cases ha
theorem alloc (S : Sym H h G) (k : ∀ b o, h.get? b = some o → h'.get? b = some o) (ha : h.get? a = none) (e : h'.get? a = some o) (hp : P o) : Sym H h' ((a, P) :: G) := by
  have S' := S.grow k
  refine ⟨S'.keep, fun q hq => ?_, fun q hq => ?_, ?_⟩
  · cases hq with
    | head => exact ⟨o, e, hp⟩
    | tail _ hq => exact S'.ent q hq
  · cases hq with
    | head => exact S.none_of ha
    | tail _ hq => exact S'.new q hq
  · exact List.nodup_cons.mpr ⟨S.fresh ha, S.nd⟩
theorem size_none (h : Heap) : h.get? h.objs.size = none := by
  cases q : h.get? h.objs.size with
  | none => rfl
  | some o => exact absurd (Heap.lt_size q) (Nat.lt_irrefl _)
theorem push (S : Sym H h G) (hf : o.isFreed = false) (hp : P o) : Sym H (h.push o) ((h.objs.size, P) :: G) :=
  S.alloc (fun _ _ e => Heap.get?_push_of_some _ e) (size_none h) (Heap.get?_push_size _ hf) hp
theorem ne (S : Sym H h ((a, P) :: G)) {q : Addr × (Obj → Prop)} (hq : q ∈ G) : q.1 ≠ a := fun e => by
  have z : a ∉ G.map (·.1) := (List.nodup_cons.mp S.nd).1
  exact z (List.mem_map.mpr ⟨q, hq, e⟩)
theorem upd (S : Sym H h ((a, P) :: G)) (k : Heap.SameBut a h h') (e : h'.get? a = some o) (hp : P' o) : Sym H h' ((a, P') :: G) := by
  refine ⟨fun b o' e' => ?_, fun q hq => ?_, fun q hq => ?_, S.nd⟩
  · have : b ≠ a := fun z => by
      have h1 := S.new _ (.head _)
      rw [z, h1] at e'; cases e'
    rw [k.2 b this]; exact S.keep b o' e'
  · cases hq with
    | head => exact ⟨o, e, hp⟩
    | tail _ hq =>
      obtain ⟨o', e', p'⟩ := S.ent q (.tail _ hq)
      exact ⟨o', by rw [k.2 _ (S.ne hq)]; exact e', p'⟩
  · cases hq with
    | head => exact S.new (a, P) (.head _)
    | tail _ hq => exact S.new q (.tail _ hq)
theorem weak (S : Sym H h ((a, P) :: G)) (k : ∀ o, P o → P' o) : Sym H h ((a, P') :: G) := by
  refine ⟨S.keep, fun q hq => ?_, fun q hq => ?_, S.nd⟩
  · cases hq with
    | head => obtain ⟨o, e, p⟩ := S.head; exact ⟨o, e, k o p⟩
    | tail _ hq => exact S.ent q (.tail _ hq)
  · cases hq with
    | head => exact S.new (a, P) (.head _)
    | tail _ hq => exact S.new q (.tail _ hq)
/-- a thing of the ledger, wherever it stands, turned -/
theorem updMem (S : Sym H h G) (hm : (a, P) ∈ G) (k : Heap.SameBut a h h') (e : h'.get? a = some o) (hp : P' o) : Sym H h' (G.map fun q => if q.1 = a then (a, P') else q) := by
  have mk : (G.map fun q => if q.1 = a then (a, P') else q).map (·.1) = G.map (·.1) := by
    rw [List.map_map]
    refine List.map_congr_left fun q _ => ?_
    show (if q.1 = a then (a, P') else q).1 = q.1
    split
    · rename_i z; exact z.symm
    · rfl
  refine ⟨fun b o' e' => ?_, fun q hq => ?_, fun q hq => ?_, mk ▸ S.nd⟩
  · have : b ≠ a := fun z => by
      have h1 := S.new _ hm
      rw [z, h1] at e'; cases e'
    rw [k.2 b this]; exact S.keep b o' e'
  · obtain ⟨r, hr, rfl⟩ := List.mem_map.mp hq
    by_cases z : r.1 = a
    · rw [if_pos z]; exact ⟨o, e, hp⟩
    · rw [if_neg z]
      obtain ⟨o', e', p'⟩ := S.ent r hr
      exact ⟨o', by rw [k.2 _ z]; exact e', p'⟩
  · obtain ⟨r, hr, rfl⟩ := List.mem_map.mp hq
    by_cases z : r.1 = a
    · rw [if_pos z]; exact S.new (a, P) hm
    · rw [if_neg z]; exact S.new r hr
end Sym

theorem lt_w {a x y n : Nat} (h : a + y < n) (k : Nat.ble x y = true := by rfl) : a + x < n := Nat.lt_of_le_of_lt (Nat.add_le_add_left (Nat.le_of_ble_eq_true k) a) h
theorem lt_z {a y n : Nat} (h : a + y < n) : a < n := Nat.lt_of_le_of_lt (Nat.le_add_right a y) h
theorem itT {b : Bool} {p q : Prop} (hb : b = true) (h : p) : if b = true then p else q := by rw [if_pos hb]; exact h
theorem itF {b : Bool} {p q : Prop} (hb : b = false) (h : q) : if b = true then p else q := by rw [if_neg (by rw [hb]; decide)]; exact h
/-- a frame's names: at least these -/
noncomputable def nsP (l : List (Str × Value)) (o : Obj) : Prop := ∃ (m : Str → Option Value) (es : Array DictEntry) (ep : Nat), o.data = .dict es ep ∧ StrKeys es ∧ (∀ n, nsFind es n = m n) ∧ ∀ x v, l.lookup x = some v → m x = some v
theorem nsP.of {h : Heap} {a : Addr} {m : Str → Option Value} {l : List (Str × Value)} (hn : h.Ns a m) (hm : ∀ x v, l.lookup x = some v → m x = some v) : ∃ o, h.get? a = some o ∧ nsP l o := by
  obtain ⟨o, es, ep, e, d, k, f⟩ := hn
  exact ⟨o, e, m, es, ep, d, k, f, hm⟩
theorem Sym.ns {H h : Heap} {G : Led} {L : Addr} {l : List (Str × Value)} (S : Sym H h G) (hm : (L, nsP l) ∈ G) : ∃ m, h.Ns L m ∧ ∀ x v, l.lookup x = some v → m x = some v := by
  obtain ⟨o, e, m, es, ep, d, k, f, q⟩ := S.get hm
  exact ⟨m, ⟨o, es, ep, e, d, k, f⟩, q⟩
theorem lookup_cons_if {x : Str} {v : Value} {l : List (Str × Value)} {m : Str → Option Value} (hm : ∀ y u, l.lookup y = some u → m y = some u) (y : Str) (u : Value)
    (e : ((x, v) :: l).lookup y = some u) : (fun z => if z = x then some v else m z) y = some u := by
  rw [List.lookup_cons] at e
  show (if y = x then some v else m y) = some u
  by_cases h : y = x
  · have : (y == x) = true := beq_iff_eq.mpr h
    rw [this] at e
    rw [if_pos h]; exact e
  · have : (y == x) = false := beq_eq_false_iff_ne.mpr h
    rw [this] at e
    rw [if_neg h]; exact hm y u e

section
variable {M : Model} {w : World} {A : Around} {E : Value → Shared → Prop} {env : Env} {H h : Heap} {G : Led} {l : List (Str × Value)} {g : Array GenState} {d : Drawn} {tk : Nat} {os : OsState}

/-- a local name is read -/
theorem ldL {x : Str} {pos : Pos} {v : Value} {Q : Value → Shared → Prop} (S : Sym H h ((env.locals, nsP l) :: G)) (hv : l.lookup x = some v) (k : Q v ⟨h, g, d, tk, os⟩)
    (hk : env.scope.kind = .function := by rfl) (hl : env.kindOf x = some .local := by rfl) (hd : (x == ("__debug__" : Str)) = false := by decide) :
    wpAny M A (eval (.Name x pos) env) Q E ⟨h, g, d, tk, os⟩ := by
  obtain ⟨m, hn, q⟩ := S.ns (.head _)
  exact wpAny_Name (wpAny_loadName_local hk hl hn (q x v hv) k) hd
theorem ldN {x : Str} {v : Value} {Q : Value → Shared → Prop} (S : Sym H h ((env.locals, nsP l) :: G)) (hv : l.lookup x = some v) (k : Q v ⟨h, g, d, tk, os⟩)
    (hk : env.scope.kind = .function := by rfl) (hl : env.kindOf x = some .local := by rfl) :
    wpAny M A (loadName env x) Q E ⟨h, g, d, tk, os⟩ := by
  obtain ⟨m, hn, q⟩ := S.ns (.head _)
  exact wpAny_loadName_local hk hl hn (q x v hv) k
/-- a local name is stored -/
theorem stL {x : Str} {v : Value} {Q : Unit → Shared → Prop} (S : Sym H h ((env.locals, nsP l) :: G))
    (k : ∀ h' tk', Sym H h' ((env.locals, nsP ((x, v) :: l)) :: G) → Q () ⟨h', g, d, tk', os⟩)
    (hl : env.kindOf x = some .local := by rfl) (hp : (env.scope.kind == .class || (env.scope.kind == .module && env.locals != env.globals)) = false := by rfl) :
    wpAny M A (storeName env x v) Q E ⟨h, g, d, tk, os⟩ := by
  obtain ⟨m, hn, q⟩ := S.ns (.head _)
  refine wpAny_storeName_local hl hn (fun h' hn' hs => k h' _ ?_) hp
  obtain ⟨o, e, p⟩ := nsP.of (l := (x, v) :: l) hn' (fun y u => lookup_cons_if q y u)
  exact S.upd hs e p
theorem cInt {i : Int} {k : Nat} {pos : Pos} {Q : Value → Shared → Prop} (q : ∀ t tk', Q (.int i t) ⟨h, g, d, tk', os⟩) : wpAny M A (eval (.Constant (.int i) k pos) env) Q E ⟨h, g, d, tk, os⟩ := wpAny_Constant_int (q _ _)
theorem cStr {x : Str} {k : Nat} {pos : Pos} {Q : Value → Shared → Prop} (q : ∀ t tk', Q (.str x t) ⟨h, g, d, tk', os⟩) : wpAny M A (eval (.Constant (.str x) k pos) env) Q E ⟨h, g, d, tk, os⟩ := Calls.Constant_str (q _ _)
section
variable {a b : Int} {t u : Tok} {Q : Value → Shared → Prop}
theorem eAdd (q : ∀ t tk', Q (.int (a + b) t) ⟨h, g, d, tk', os⟩) : wpAny (model pw w) A (binaryOp .Add (.int a t) (.int b u)) Q E ⟨h, g, d, tk, os⟩ := add_int (q _ _)
theorem eSub (q : ∀ t tk', Q (.int (a - b) t) ⟨h, g, d, tk', os⟩) : wpAny (model pw w) A (binaryOp .Sub (.int a t) (.int b u)) Q E ⟨h, g, d, tk, os⟩ := sub_int (q _ _)
theorem eMul (q : ∀ t tk', Q (.int (a * b) t) ⟨h, g, d, tk', os⟩) (hm : IntMulOk a b := by mul_fits) : wpAny (model pw w) A (binaryOp .Mult (.int a t) (.int b u)) Q E ⟨h, g, d, tk, os⟩ := mul_int (q _ _) hm
theorem eShr1 (h0 : 0 ≤ a) (q : ∀ t tk', Q (.int (a / 2) t) ⟨h, g, d, tk', os⟩) : wpAny (model pw w) A (binaryOp .RShift (.int a t) (.int 1 u)) Q E ⟨h, g, d, tk, os⟩ := wpAny_rshift1_int h0 (q _ _)
end
end
end Mine

namespace Mine
open PySem PySem.Calls PyProof.Rows

noncomputable def fdOf (st : Option Stmt) (qual : Str) (dV pm : Value) (cd : Addr) : FuncData := match st with
  | some (.FunctionDef name args body _ _ _ scope _ _ _) => { name, qualname := qual, params := args, body := .stmts body, scope, globals := 3, closure := [], defaults := dV, kwdefaults := .none, pyModule := pm, code := .ref cd }
  | _ => default
noncomputable def clsBody (st : Option Stmt) : List Stmt := match st with
  | some (.ClassDef _ _ _ b _ _ _ _ _ _ _) => b
  | _ => []
noncomputable def bodyOf (fd : FuncData) : List Stmt := match fd.body with
  | .stmts b => b
  | _ => []
noncomputable def fdPush : FuncData := fdOf pw.main.body[14]? "heappush" .none (.str "cpy313.heapq" 420) 175
noncomputable def fdPop : FuncData := fdOf pw.main.body[15]? "heappop" .none (.str "cpy313.heapq" 420) 182
noncomputable def fdDown : FuncData := fdOf pw.main.body[16]? "_siftdown" .none (.str "cpy313.heapq" 420) 189
noncomputable def fdUp : FuncData := fdOf pw.main.body[17]? "_siftup" .none (.str "cpy313.heapq" 420) 196

structure FnAt (H : Heap) (a : Addr) (fd : FuncData) : Prop where
  at_ : ∃ o, H.get? a = some o ∧ o.data = .func fd
  code : H.CodeRec fd.code fd.qualname

/-- nothing is raised -/
noncomputable def NoE : Value → Shared → Prop := fun _ _ => False
theorem noE {α : Type} {M : Model} {A : Around} {t : Sem α} {Q : α → Shared → Prop} {E : Value → Shared → Prop} {s : Shared} (h : wpAny M A t Q NoE s) : wpAny M A t Q E s := wpAny_mono h (fun _ _ q => q) fun _ _ q => q.elim
section
variable {w : World} {A : Around} {s : Shared} {env : Env}
/-- the loops, what is wanted of a turn told by letters -/
theorem forO {R : Result → Shared → Prop} {target : Expr} {it : Value} {body orelse : List Stmt} (I : Nat → Shared → Prop)
    (turn : ∀ n s, I n s → ∀ (Y Z : Flow → Shared → Prop), (∀ f s₃, (match f with | .next | .cont => ∃ m, m < n ∧ I m s₃ | .brk => R (.ok .next) s₃ | .ret v => R (.ok (.ret v)) s₃) → Y f s₃) → (∀ f s₃, R (.ok f) s₃ → Z f s₃) →
      wpAny (model pw w) A (pyNext it) (fun r s₁ => match r with
        | none => wpAny (model pw w) A (execs orelse env) Z NoE s₁
        | some v => wpAny (model pw w) A (letOwnedTupleGo target it v) (fun _ s₁' => wpAny (model pw w) A (assign target env v) (fun _ s₂ => wpAny (model pw w) A (execs body env) Y NoE s₂) NoE s₁') NoE s₁) NoE s)
    (n : Nat) (h : I n s) : codeAny (model pw w) A (.forLoop target it body orelse env) R s := by
  refine codeAny_forLoop_any I (fun n s hI => noE (wpAny_mono (turn n s hI _ _ (fun f s₃ q => q) fun f s₃ q => q) (fun r s₁ q => ?_) fun _ _ q => q)) n h
  cases r with
  | none => exact noE q
  | some v => exact noE (wpAny_mono q (fun _ _ q => noE (wpAny_mono q (fun _ _ q => noE q) fun _ _ q => q)) fun _ _ q => q)
theorem forN {R : Result → Shared → Prop} {y : Str} {yp : Pos} {it : Value} {body orelse : List Stmt} (I : Nat → Shared → Prop)
    (turn : ∀ n s, I n s → ∀ (Y Z : Flow → Shared → Prop), (∀ f s₃, (match f with | .next | .cont => ∃ m, m < n ∧ I m s₃ | .brk => R (.ok .next) s₃ | .ret v => R (.ok (.ret v)) s₃) → Y f s₃) → (∀ f s₃, R (.ok f) s₃ → Z f s₃) →
      wpAny (model pw w) A (pyNext it) (fun r s₁ => match r with
        | none => wpAny (model pw w) A (execs orelse env) Z NoE s₁
        | some v => wpAny (model pw w) A (assign (.Name y yp) env v) (fun _ s₂ => wpAny (model pw w) A (execs body env) Y NoE s₂) NoE s₁) NoE s)
    (n : Nat) (h : I n s) : codeAny (model pw w) A (.forLoop (.Name y yp) it body orelse env) R s :=
  forO I (fun n s hI Y Z hY hZ => wpAny_mono (turn n s hI Y Z hY hZ) (fun r s₁ q => by
    cases r with
    | none => exact q
    | some v => exact wpAny_pure q) fun _ _ q => q) n h
theorem whileO {R : Result → Shared → Prop} {test : Expr} {body orelse : List Stmt} (I : Nat → Shared → Prop)
    (turn : ∀ n s, I n s → ∀ (Y Z : Flow → Shared → Prop), (∀ f s₃, (match f with | .next | .cont => ∃ m, m < n ∧ I m s₃ | .brk => R (.ok .next) s₃ | .ret v => R (.ok (.ret v)) s₃) → Y f s₃) → (∀ f s₃, R (.ok f) s₃ → Z f s₃) →
      wpAny (model pw w) A (isTrue test env (eval test env)) (fun b s₂ => if b = true then wpAny (model pw w) A (execs body env) Y NoE s₂ else wpAny (model pw w) A (execs orelse env) Z NoE s₂) NoE s)
    (n : Nat) (h : I n s) : codeAny (model pw w) A (.whileLoop test body orelse env) R s := by
  refine codeAny_whileLoop I (fun n s hI => noE (wpAny_mono (turn n s hI _ _ (fun f s₃ q => q) fun f s₃ q => q) (fun b s₁ q => ?_) fun _ _ q => q)) n h
  cases b with
  | false => exact noE q
  | true => exact noE q
/-- a statement that comes to its end, whatever way; what holds there -/
theorem cutO {M : Model} {E : Value → Shared → Prop} {st : Stmt} {rest : List Stmt} {Q : Flow → Shared → Prop} (J : Shared → Prop) (k1 : ∀ J' : Shared → Prop, (∀ s', J s' → J' s') → wpAny M A (exec st env) (fun f s' => f = .next ∧ J' s') E s) (k2 : ∀ s', J s' → wpAny M A (execs rest env) Q E s') :
    wpAny M A (execs (st :: rest) env) Q E s :=
  wpAny_execs_cons (wpAny_mono (k1 J fun _ q => q) (fun f s' q => by obtain ⟨rfl, q⟩ := q; exact k2 s' q) fun _ _ q => q)
/-- what is wanted, told by a letter -/
theorem opq {α : Type} {M : Model} {E : Value → Shared → Prop} {t : Sem α} {Q : α → Shared → Prop} (k : ∀ Q' : α → Shared → Prop, (∀ a s, Q a s → Q' a s) → wpAny M A t Q' E s) : wpAny M A t Q E s := k Q fun _ _ q => q
end
section
variable {w : World} {A : Around} {E : Value → Shared → Prop} {H h : Heap} {G : Led} {g : Array GenState} {d : Drawn} {tk : Nat} {os : OsState}
/-- a def's call, whatever is wanted of it -/
theorem callFc {a : Addr} {fd : FuncData} {args : List Value} {binds : List (Str × Value)} {R : Result → Shared → Prop} (hf : FnAt H a fd) (hl : H.NoLimit) (hroom : A.depth < recursionLimit)
    (S : Sym H h G) (hbind : BindsTo ⟨h, g, d, tk, os⟩ fd ⟨args, []⟩ binds)
    (q : ∀ h' L tk', Sym H h' ((L, nsP binds.reverse) :: G) →
      wpAny (model pw w) (A.deeper (callEnv fd L a)) (execs (bodyOf fd) (callEnv fd L a)) (fun f s' => R (.ok (.ret (match f with | .ret v => v | _ => .none))) s')
        NoE ⟨h', g, d, tk', os⟩)
    (hb : fd.body = .stmts (bodyOf fd) := by rfl) (hcell : ∀ x ∈ fd.scope.names, x.2 ≠ .cell := by decide) (hloc : (binds.all fun x => decide (fd.scope.names.lookup x.1 = some .local)) = true := by rfl)
    (hco : fd.scope.isCoroutine = false := by rfl) (hgen : fd.scope.isGenerator = false := by rfl) (hk : fd.scope.kind = .function := by rfl) :
    codeAny (model pw w) A (.call (.ref a) ⟨args, []⟩) R ⟨h, g, d, tk, os⟩ := by
  obtain ⟨o, ho, hd⟩ := hf.at_
  refine codeAny_call_def hroom (S.keep _ _ ho) hd (hl.keeps S.keep) (hf.code.keeps S.keep) hb hbind hcell (locs hloc) (fun h₀ hn k => ?_) hco hgen hk
  obtain ⟨ob, e, p⟩ := nsP.of (l := binds.reverse) hn (fun x v q => q)
  exact noE (q h₀ _ _ (S.alloc k (Sym.size_none _) e p))
theorem callF {a : Addr} {fd : FuncData} {args : List Value} {binds : List (Str × Value)} {Q : Value → Shared → Prop} (hf : FnAt H a fd) (hl : H.NoLimit) (hroom : A.depth < recursionLimit)
    (S : Sym H h G) (hbind : BindsTo ⟨h, g, d, tk, os⟩ fd ⟨args, []⟩ binds)
    (q : ∀ h' L tk', Sym H h' ((L, nsP binds.reverse) :: G) →
      wpAny (model pw w) (A.deeper (callEnv fd L a)) (execs (bodyOf fd) (callEnv fd L a)) (fun f s' => Q (match f with | .ret v => v | _ => .none) s')
        NoE ⟨h', g, d, tk', os⟩)
    (hb : fd.body = .stmts (bodyOf fd) := by rfl) (hcell : ∀ x ∈ fd.scope.names, x.2 ≠ .cell := by decide) (hloc : (binds.all fun x => decide (fd.scope.names.lookup x.1 = some .local)) = true := by rfl)
    (hco : fd.scope.isCoroutine = false := by rfl) (hgen : fd.scope.isGenerator = false := by rfl) (hk : fd.scope.kind = .function := by rfl) :
    wpAny (model pw w) A (call (.ref a) args) Q E ⟨h, g, d, tk, os⟩ := by
  obtain ⟨o, ho, hd⟩ := hf.at_
  refine wpAny_call (codeAny_call_def hroom (S.keep _ _ ho) hd (hl.keeps S.keep) (hf.code.keeps S.keep) hb hbind hcell (locs hloc) (fun h₀ hn k => ?_) hco hgen hk)
  obtain ⟨ob, e, p⟩ := nsP.of (l := binds.reverse) hn (fun x v q => q)
  exact noE (q h₀ _ _ (S.alloc k (Sym.size_none _) e p))
theorem callFE {a : Addr} {fd : FuncData} {args : List Value} {binds : List (Str × Value)} {Q : Value → Shared → Prop} (hf : FnAt H a fd) (hl : H.NoLimit) (hroom : A.depth < recursionLimit)
    (S : Sym H h G) (hbind : BindsTo ⟨h, g, d, tk, os⟩ fd ⟨args, []⟩ binds)
    (q : ∀ h' L tk', Sym H h' ((L, nsP binds.reverse) :: G) →
      wpAny (model pw w) (A.deeper (callEnv fd L a)) (execs (bodyOf fd) (callEnv fd L a)) (fun f s' => Q (match f with | .ret v => v | _ => .none) s')
        (fun e s' => wpAny (model pw w) (A.deeper (callEnv fd L a)) (leaving (callEnv fd L a) e) (fun _ s'' => E e s'') E s') ⟨h', g, d, tk', os⟩)
    (hb : fd.body = .stmts (bodyOf fd) := by rfl) (hcell : ∀ x ∈ fd.scope.names, x.2 ≠ .cell := by decide) (hloc : (binds.all fun x => decide (fd.scope.names.lookup x.1 = some .local)) = true := by rfl)
    (hco : fd.scope.isCoroutine = false := by rfl) (hgen : fd.scope.isGenerator = false := by rfl) (hk : fd.scope.kind = .function := by rfl) :
    wpAny (model pw w) A (call (.ref a) args) Q E ⟨h, g, d, tk, os⟩ := by
  obtain ⟨o, ho, hd⟩ := hf.at_
  refine wpAny_call (codeAny_call_def hroom (S.keep _ _ ho) hd (hl.keeps S.keep) (hf.code.keeps S.keep) hb hbind hcell (locs hloc) (fun h₀ hn k => ?_) hco hgen hk)
  obtain ⟨ob, e, p⟩ := nsP.of (l := binds.reverse) hn (fun x v q => q)
  exact q h₀ _ _ (S.alloc k (Sym.size_none _) e p)
end
end Mine

namespace Mine
open PySem PySem.Calls PyProof.Rows PySem.W

/-- a list of the call's own -/
noncomputable def lstP (vs : List Value) (o : Obj) : Prop := ∃ n, o = { cls := .type "list", data := .seq vs.toArray n }
noncomputable def tupP (vs : List Value) (o : Obj) : Prop := ∃ n, o = { cls := .type "tuple", data := .seq vs.toArray n }
theorem Sym.lst {H h : Heap} {G : Led} {a : Addr} {vs : List Value} (S : Sym H h G) (m : (a, lstP vs) ∈ G) : ∃ n, IsL h a vs.toArray n := by
  obtain ⟨o, e, n, rfl⟩ := S.get m
  exact ⟨n, e⟩
theorem Sym.isList {H h : Heap} {G : Led} {a : Addr} {vs : List Value} (S : Sym H h G) (m : (a, lstP vs) ∈ G) : h.IsList a vs.toArray := by
  obtain ⟨n, e⟩ := S.lst m
  exact e.isList
/-- the name of the c-th job -/
noncomputable def nm (c : Nat) : Str := ⟨#[97 + c]⟩
noncomputable def IsItem (G : Led) (v : Value) (r : Int) (c : Nat) : Prop := ∃ b t u, v = .ref b ∧ (b, lstP [.int r t, .str (nm c) u]) ∈ G
noncomputable def itemLt (r1 : Int) (c1 : Nat) (r2 : Int) (c2 : Nat) : Bool := decide (r1 < r2 ∨ (r1 = r2 ∧ c1 < c2))

section
variable {w : World} {A : Around} {E : Value → Shared → Prop} {s : Shared} {H h : Heap} {G : Led} {g : Array GenState} {d : Drawn} {tk : Nat} {os : OsState}

abbrev wants (Q E : Value → Shared → Prop) : Result → Shared → Prop := fun r s' => match r with | .ok (.ret v) => Q v s' | .ok _ => False | .error e => E e s'
abbrev finP (w : World) (A : Around) (R : Result → Shared → Prop) : Fin → Shared → Prop := fun fin s' => match fin with | .done f => R (.ok f) s' | .again c' => c'.quiet = true ∧ codeAny (model pw w) A c' R s'
/-- a built-in of a slot is called: its tree, and what it goes on with -/
theorem callB {T : String} {name : Str} {id : String} {b : Builtin} {self : Value} {rest : List Value} {Q : Value → Shared → Prop} (h : Slot T name id) (hT : s.TypeIs self T) (hb : entryFor table id = some b)
    (hc : wpAny (model pw w) A.in1 (b ⟨self :: rest, []⟩) (finP w A (wants Q E)) (fun e s' => E e s') s) (ha : argsOk id ⟨self :: rest, []⟩ := by rfl) :
    wpAny (model pw w) A (call (.builtin id) (self :: rest)) Q E s :=
  wpAny_call (codeAny_call_builtin h.plain hb (h.check _ _ _ _ _ _ _ _ hT ha hc))
/-- a built-in's own loop goes on -/
theorem goB {id : String} {args : Args} {b : Builtin} {R : Result → Shared → Prop} (hp : plainId id = true) (hb : entryFor table id = some b)
    (h : wpAny (model pw w) A.in1 (b args) (finP w A R) (fun e s' => R (.error e) s') s) : (Code.builtin id args).quiet = true ∧ codeAny (model pw w) A (.builtin id args) R s :=
  ⟨plainId_quiet hp args, codeAny_builtin hb (by rw [Around.under_plainId hp args]; exact h)⟩

theorem rlt_int {a b : Int} {t u : Tok} {Q : Value → Shared → Prop} (h : Q (.bool (decide (a < b))) s) : wpAny (model pw w) A (richCompare .Lt (.int a t) (.int b u)) Q E s := wpAny_lt_int h
theorem rlt_str {a b : Str} {t u : Tok} {Q : Value → Shared → Prop} (h : Q (.bool (decide (a.cps.toList < b.cps.toList))) s) : wpAny (model pw w) A (richCompare .Lt (.str a t) (.str b u)) Q E s := lt_str h

theorem lt_item {v v' : Value} {r1 r2 : Int} {c1 c2 : Nat} {Q : Value → Shared → Prop} (S : Sym H h G) (h1 : IsItem G v r1 c1) (h2 : IsItem G v' r2 c2) (hu : A.units + 1 < cLine)
    (hQ : Q (.bool (itemLt r1 c1 r2 c2)) ⟨h, g, d, tk, os⟩) : wpAny (model pw w) A (compareOp .Lt v v') Q E ⟨h, g, d, tk, os⟩ := by
  obtain ⟨b1, t1, u1, rfl, m1⟩ := h1
  obtain ⟨b2, t2, u2, rfl, m2⟩ := h2
  obtain ⟨n1, e1⟩ := S.lst m1
  obtain ⟨n2, e2⟩ := S.lst m2
  show wpAny _ _ (richCompare .Lt _ _) _ _ _
  refine (wpAny_richCompare_same_room (T := "list") e1.isList.typeIs e2.isList.typeIs F.slot_list_lt
    (callB F.slot_list_lt e1.isList.typeIs F.entry_list_lt ?_ (F.args_list_lt_2 _ _)) (by omega))
  unfold IsL at e1 e2
  repeat lk
  refine goB PySem.MeetsSeq3.plain_eq_loop PySem.MeetsSeq3.entry_eq_loop ?_
  repeat (first | ((with_reducible show wpAny _ _ (eqBool _ _) _ _ _); refine wpAny_eqBool_int ?_) | lk)
  by_cases hr : r1 = r2
  · subst hr
    have q : (r1 == r1) = true := beq_self_eq_true r1
    rw [q]
    repeat lk
    refine goB PySem.MeetsSeq3.plain_eq_loop PySem.MeetsSeq3.entry_eq_loop ?_
    repeat (first | ((with_reducible show wpAny _ _ (eqBool _ _) _ _ _); refine wpAny_eqBool_str ?_) | lk)
    by_cases hc : c1 = c2
    · subst hc
      have q : decide (nm c1 = nm c1) = true := decide_eq_true rfl
      rw [q]
      repeat lk
      refine goB PySem.MeetsSeq3.plain_eq_loop PySem.MeetsSeq3.entry_eq_loop ?_
      repeat lk
      have z : itemLt r1 c1 r1 c1 = false := by simp [itemLt]
      rw [z] at hQ
      exact ⟨nofun, hQ⟩
    · have q : decide (nm c1 = nm c2) = false := decide_eq_false (by simp [nm]; omega)
      rw [q]
      repeat (first | ((with_reducible show wpAny _ _ (richCompare _ _ _) _ _ _); refine rlt_str ?_) | lk)
      have z : itemLt r1 c1 r1 c2 = decide ((nm c1).cps.toList < (nm c2).cps.toList) := by simp [itemLt, nm, List.cons_lt_cons_iff]
      rw [z] at hQ
      exact ⟨nofun, hQ⟩
  · have q : (r1 == r2) = false := beq_eq_false_iff_ne.mpr hr
    rw [q]
    repeat (first | ((with_reducible show wpAny _ _ (richCompare _ _ _) _ _ _); refine rlt_int ?_) | lk)
    have z : itemLt r1 c1 r2 c2 = decide (r1 < r2) := by simp [itemLt, hr]
    rw [z] at hQ
    exact ⟨nofun, hQ⟩
end
end Mine

namespace Mine
open PySem PySem.Calls PyProof.Rows PySem.W

section
variable {w : World} {A : Around} {E : Value → Shared → Prop} {H h : Heap} {G : Led} {env : Env} {g : Array GenState} {d : Drawn} {tk : Nat} {os : OsState}
theorem idxL {value slice : Expr} {a : Addr} {vs : List Value} {k : Int} {t : Tok} {x : Value} {Q : Value → Shared → Prop} (S : Sym H h G) (m : (a, lstP vs) ∈ G) (h0 : 0 ≤ k) (hx : vs[k.toNat]? = some x) (q : Q x ⟨h, g, d, tk, os⟩) (hk : k < 2 ^ 63)
    (hs : subscripted slice false (.ref a) (.int k t) = operate [.ref a, .int k t] (getItem (.ref a) (.int k t)) := by with_unfolding_all rfl) (ht : ∀ r, letTemporaryGo value (.ref a) r = pure () := by intro _; with_unfolding_all rfl) :
    wpAny (model pw w) A (subscriptTail value slice (.ref a) (.int k t)) Q E ⟨h, g, d, tk, os⟩ :=
  subscriptTail_builtin (s := ⟨h, g, d, tk, os⟩) (S.isList m).typeIs slot_list_getitem.lookup (wpAny_getItem_list (s := ⟨h, g, d, tk, os⟩) (S.isList m) h0 hk (by simpa using hx) q) hs ht
/-- an item of a made list is stored -/
theorem setL {a : Addr} {vs : List Value} {k : Int} {t : Tok} {v : Value} {Q : Unit → Shared → Prop} (S : Sym H h ((a, lstP vs) :: G)) (h0 : 0 ≤ k) (hn : k.toNat < vs.length) (hk : k < 2 ^ 63)
    (hQ : ∀ h', Sym H h' ((a, lstP (vs.set k.toNat v)) :: G) → Q () ⟨h', g, d, tk, os⟩) : wpAny (model pw w) A (setItem (.ref a) (.int k t) v) Q E ⟨h, g, d, tk, os⟩ := by
  obtain ⟨n, e⟩ := S.lst (.head _)
  have hl : (⟨h, g, d, tk, os⟩ : Shared).TypeIs (.ref a) "list" := e.isList.typeIs (s := ⟨h, g, d, tk, os⟩)
  unfold IsL at e
  obtain ⟨j, rfl⟩ := Int.eq_ofNat_of_zero_le h0
  have hfit := fitsIndex_of h0 hk
  clear hk
  unfold setItem
  refine wpAny_holding ?_
  refine wpAny_bind (wpAny_sequenceKey hl (by decide) ?_)
  refine wpAny_bind (wpAny_callSpecial?_slot (name := Str.ofString "__setitem__") hl slot_list_setitem (callB slot_list_setitem hl entry_list_setitem ?_ (args_list_setitem _ _ _)))
  iterate 11 lk
  with_reducible refine wpAny_listSubscript_int ?_ ?_; exact hfit
  show wpAny _ _ ((seqItemAt a j >>= fun r => pure (r.map (j, ·))) >>= _) _ _ _
  refine wpAny_bind (wpAny_bind (wpAny_seqItemAt e rfl (wpAny_pure ?_)))
  have hn' : j < vs.length := by simpa using hn
  have hx : vs.toArray[j]? = some vs[j] := by simp [hn']
  rw [hx]
  show wpAny _ _ (setSeqItemAt a j v >>= _) _ _ _
  refine wpAny_bind (wpAny_setSeqItemAt e rfl ?_)
  refine wpAny_pure ?_
  have e' : (h.update a (Obj.mapSeq (·.setIfInBounds j v))).get? a = some { cls := .type "list", data := .seq (vs.set j v).toArray n } := by
    refine (Heap.get?_update_self _ e rfl).trans (congrArg some ?_)
    show Obj.mk _ _ (.seq _ _) _ = _
    simp
  have S' := S.upd (P' := lstP (vs.set j v)) (Heap.SameBut.update h a _) e' ⟨n, rfl⟩
  refine wpAny_pure ?_
  exact hQ _ S'
end
noncomputable def NsHas (l : List (Str × Value)) : List (Str × Value) → Prop
  | [] => True
  | p :: r => l.lookup p.1 = some p.2 ∧ NsHas l r
theorem NsHas.mem {l : List (Str × Value)} : ∀ {l' : List (Str × Value)}, NsHas l l' → ∀ p ∈ l', l.lookup p.1 = some p.2
  | p :: r, h, q, hq => by
    cases hq with
    | head => exact h.1
    | tail _ hq => exact NsHas.mem h.2 q hq
theorem mem_of_lookup {x : Str} {v : Value} : ∀ {l : List (Str × Value)}, l.lookup x = some v → (x, v) ∈ l
  | [], e => by cases e
  | (y, u) :: l, e => by
    rw [List.lookup_cons] at e
    by_cases h : x = y
    · subst h
      rw [beq_self_eq_true] at e
      cases e; exact .head _
    · rw [beq_eq_false_iff_ne.mpr h] at e
      exact .tail _ (mem_of_lookup e)
theorem Sym.renm {H h : Heap} {G : Led} {L : Addr} {l l' : List (Str × Value)} (S : Sym H h ((L, nsP l) :: G)) (k : NsHas l l') : Sym H h ((L, nsP l') :: G) :=
  S.weak fun o ⟨m, es, ep, a, b, c, q⟩ => ⟨m, es, ep, a, b, c, fun x v e => q x v (k.mem _ (mem_of_lookup e))⟩
theorem Sym.swap {H h : Heap} {G : Led} {p q} (S : Sym H h (p :: q :: G)) : Sym H h (q :: p :: G) := S.perm (List.Perm.swap q p G)

/-- what the sorter's text leans on at the top -/
structure TopH (H : Heap) : Prop where
  lim : H.NoLimit
  down : FnAt H 190 fdDown

noncomputable def keyLt (key : Value → Int × Nat) (v v' : Value) : Bool := itemLt (key v).1 (key v).2 (key v').1 (key v').2
noncomputable def downL (key : Value → Int × Nat) (x : Value) (vs : List Value) (pos : Nat) : List Value :=
  if h : 0 < pos then
    if keyLt key x (vs.getD ((pos - 1) / 2) x) then downL key x (vs.set pos (vs.getD ((pos - 1) / 2) x)) ((pos - 1) / 2) else vs.set pos x
  else vs.set pos x
termination_by pos
decreasing_by omega
theorem downL_len (key : Value → Int × Nat) (x : Value) (pos : Nat) : ∀ vs, (downL key x vs pos).length = vs.length := by
  induction pos using Nat.strongRecOn with
  | ind pos ih =>
    intro vs
    unfold downL
    split
    · rename_i h
      split
      · rw [ih _ (by omega)]; simp
      · simp
    · simp

theorem IsItem.tail {G : Led} {v : Value} {r : Int} {c : Nat} {p} (i : IsItem G v r c) : IsItem (p :: G) v r c := let ⟨b, t, u, e, m⟩ := i; ⟨b, t, u, e, .tail _ m⟩
section
variable {w : World} {A : Around} {E : Value → Shared → Prop} {H h : Heap} {G : Led} {env : Env} {g : Array GenState} {d : Drawn} {tk : Nat} {os : OsState}
theorem i63 {n v : Nat} (h : n < v) (hl : v ≤ 1000) : (n : Int) < 2 ^ 63 := by omega
theorem par_lt {p : Nat} (h : 0 < p) : (p - 1) / 2 < p := by omega
theorem par_cast {n : Nat} (h : 0 < n) : ((n : Int) - 1) / 2 = (((n - 1) / 2 : Nat) : Int) ∧ 0 ≤ (n : Int) - 1 := by omega
theorem down_spec {a : Addr} {vs : List Value} {pos : Nat} {t0 t1 : Tok} {key : Value → Int × Nat} {x : Value} {Q : Value → Shared → Prop} (T : TopH H) (hd : A.depth < recursionLimit) (hu : A.units + 10 < cLine) (S : Sym H h ((a, lstP vs) :: G))
    (hp : vs[pos]? = some x) (hl : vs.length ≤ 1000) (hit : ∀ v ∈ vs, IsItem G v (key v).1 (key v).2)
    (hQ : ∀ h' tk, Sym H h' ((a, lstP (downL key x vs pos)) :: G) → Q .none ⟨h', g, d, tk, os⟩) :
    wpAny (model pw w) A (call (.ref 190) [.ref a, .int 0 t0, .int pos t1]) Q E ⟨h, g, d, tk, os⟩ := by
  refine callF T.down T.lim hd S (BindsTo.of_eq rfl) fun h1 L tk1 S1 => ?_
  have S1 := S1.renm (l' := [("heap", .ref a), ("startpos", .int 0 t0), ("pos", .int pos t1)]) ⟨rfl, rfl, rfl, trivial⟩
  have hlt : pos < vs.length := (List.getElem?_eq_some_iff.mp hp).1
  refine wpAny_execs_cons (wpAny_Assign_Name (Subscript_ (ldL S1 rfl (ldL S1 rfl ?_))))
  refine idxL S1 (.tail _ (.head _)) (Int.natCast_nonneg _) (by simpa using hp) ?_ (i63 hlt hl)
  refine stL S1 fun h2 tk2 S2 => ?_
  refine wpAny_execs_cons (wpAny_While ?_)
  have hx : IsItem G x (key x).1 (key x).2 := hit x (List.mem_of_getElem? hp)
  refine whileO (fun n s' => ∃ h' tk' vs' t', s' = ⟨h', g, d, tk', os⟩ ∧ Sym H h' ((L, nsP [("newitem", x), ("heap", .ref a), ("startpos", .int 0 t0), ("pos", .int n t')]) :: (a, lstP vs') :: G) ∧
    n < vs'.length ∧ vs'.length = vs.length ∧ (∀ v ∈ vs', IsItem G v (key v).1 (key v).2) ∧ downL key x vs' n = downL key x vs pos) ?_ pos ⟨h2, _, vs, t1, rfl, S2, hlt, rfl, hit, rfl⟩
  rintro n s' ⟨h', tk', vs', t', rfl, S', hn, hlen, hit', heq⟩ Y Z hY hZ
  -- the end: heap[pos] = newitem
  have fin : ∀ h' tk' l, Sym H h' ((L, nsP l) :: (a, lstP vs') :: G) → NsHas l [("newitem", x), ("heap", .ref a), ("pos", .int n t')] → vs'.set n x = downL key x vs pos →
      wpAny (model pw w) (A.deeper (callEnv fdDown L 190)) (execs ((bodyOf fdDown).drop 2) (callEnv fdDown L 190)) (fun f s' => Q (match f with | .ret v => v | _ => .none) s')
        NoE ⟨h', g, d, tk', os⟩ := by
    intro h' tk' l S' hl' hend
    have S' := S'.renm hl'
    refine wpAny_execs_cons (wpAny_Assign_Subscript (ldL S' rfl (ldL S' rfl (ldL S' rfl ?_))))
    refine setL S'.swap (Int.natCast_nonneg _) (by simpa using hn) (i63 hn (hlen ▸ hl)) fun h4 S4 => wpAny_execs_nil (hQ _ _ ?_)
    have := S4.swap.tail
    simp only [Int.toNat_natCast] at this
    rw [hend] at this
    exact this
  refine wpAny_isTrue_Compare1 (ldL S' rfl (ldL S' rfl (gt_int (wpAny_truthy_bool ?_))))
  by_cases hz : 0 < n
  · refine itT (by simpa using hz) ?_
    refine wpAny_execs_cons (wpAny_Assign_Name (wpAny_BinOp (wpAny_BinOp (ldL S' rfl (cInt fun _ _ => (eSub fun _ _ => cInt fun _ _ => ?_))))))
    refine eShr1 (par_cast hz).2 fun t5 tk5 => (stL S' fun h3 tk3 S3 => ?_)
    have hp3 : (n - 1) / 2 < vs'.length := Nat.lt_trans (par_lt hz) hn
    have en : ((n : Int) - 1) / 2 = (((n - 1) / 2 : Nat) : Int) := (par_cast hz).1
    rw [en] at S3
    have hx3 : vs'[(n - 1) / 2]? = some vs'[(n - 1) / 2] := by simp [hp3]
    refine wpAny_execs_cons (wpAny_Assign_Name (Subscript_ (ldL S3 rfl (ldL S3 rfl ?_))))
    refine idxL S3 (.tail _ (.head _)) (Int.natCast_nonneg _) (by rw [Int.toNat_natCast]; exact hx3) ?_ (i63 hp3 (hlen ▸ hl))
    refine stL S3 fun h4 tk4 S4 => ?_
    refine wpAny_execs_cons (wpAny_If ?_)
    refine wpAny_isTrue_Compare1 (ldL S4 rfl (ldL S4 rfl (lt_item S4 hx.tail.tail (hit' _ (List.getElem_mem hp3)).tail.tail (by exact (show A.units + 4 < _ from lt_w hu)) (wpAny_truthy_bool ?_))))
    have eg : vs'.getD ((n - 1) / 2) x = vs'[(n - 1) / 2] := by simp [List.getD, hx3]
    cases hk : keyLt key x vs'[(n - 1) / 2] with
    | true =>
      refine itT hk ?_
      refine wpAny_execs_cons (wpAny_Assign_Subscript (ldL S4 rfl (ldL S4 rfl (ldL S4 rfl ?_))))
      refine setL S4.swap (Int.natCast_nonneg _) (by simpa using hn) (i63 hn (hlen ▸ hl)) fun h5 S5 => ?_
      have S5 := S5.swap
      refine wpAny_execs_cons (wpAny_Assign_Name (ldL S5 rfl (stL S5 fun h6 tk6 S6 => ?_)))
      refine wpAny_execs_cons (wpAny_Continue (hY _ _ ?_))
      refine ⟨(n - 1) / 2, par_lt hz, h6, _, _, _, rfl, S6.renm ⟨rfl, rfl, rfl, rfl, trivial⟩, ?_, ?_, ?_, ?_⟩
      · rw [List.length_set]; exact hp3
      · rw [List.length_set]; exact hlen
      · intro v hv
        rcases List.mem_or_eq_of_mem_set hv with q | q
        · exact hit' v q
        · rw [q]; exact hit' _ (List.getElem_mem hp3)
      · rw [← heq]
        conv => rhs; unfold downL
        rw [dif_pos hz, eg, if_pos hk]
        simp
    | false =>
      refine itF hk ?_
      refine wpAny_execs_nil ?_
      refine wpAny_execs_cons (wpAny_Break (hY _ _ ?_))
      refine fin _ _ _ S4 ⟨rfl, rfl, rfl, trivial⟩ ?_
      rw [← heq]
      unfold downL
      rw [dif_pos hz, eg, if_neg (by rw [hk]; decide)]
  · refine itF (by simpa using hz) ?_
    refine wpAny_execs_nil (hZ _ _ <| fin h' tk' _ S' ⟨rfl, rfl, rfl, trivial⟩ ?_)
    rw [← heq]
    unfold downL
    rw [dif_neg hz]
end
end Mine

namespace Mine
open PySem PySem.Calls PyProof.Rows PySem.W

abbrev Keeps (H h : Heap) : Prop := ∀ b o, H.get? b = some o → h.get? b = some o
/-- the module's names that the text reads -/
noncomputable def globTab : List (Str × Value) := [("_iter_escaped_chars", .ref 28), ("_strip_quoted_realnames", .ref 35), ("_check_parenthesis", .ref 42), ("decode_rfc2231", .ref 49), ("TICK", .str "'" 196),
  ("_NODE_OUT", .int (-1) 241), ("_NODE_DONE", .int (-2) 244), ("_NodeInfo", .ref 68), ("CycleError", .ref 83), ("TopologicalSorter", .ref 165), ("heappush", .ref 176), ("heappop", .ref 183), ("_siftdown", .ref 190), ("_siftup", .ref 197),
  ("_law_text", .ref 204), ("_law_read", .ref 211), ("_law_dealt", .ref 218), ("_law_due", .ref 223)]
noncomputable def biTab : List (Str × Value) := [("len", .builtin "len"), ("enumerate", .type "enumerate"), ("tuple", .type "tuple"), ("bool", .type "bool"), ("set", .type "set"), ("iter", .builtin "iter"), ("str", .type "str"), ("int", .type "int"), ("min", .builtin "min"),
  ("StopIteration", .type "StopIteration")]
structure Globs (H : Heap) : Prop where
  gl : ∃ mg, H.Ns 3 mg ∧ ∀ x v, globTab.lookup x = some v → mg x = some v
  bi : ∃ mg mb, H.Ns 3 mg ∧ H.Ns 0 mb ∧ ∀ x v, biTab.lookup x = some v → mg x = none ∧ mb x = some v

section
variable {M : Model} {w : World} {A : Around} {E : Value → Shared → Prop} {H h : Heap} {G : Led} {env : Env} {g : Array GenState} {d : Drawn} {tk : Nat} {os : OsState}
theorem ldG {x : Str} {pos : Pos} {v : Value} {Q : Value → Shared → Prop} (N : Globs H) (S : Keeps H h) (hv : globTab.lookup x = some v) (k : Q v ⟨h, g, d, tk, os⟩)
    (hk : env.scope.kind = .function := by rfl) (hl : env.kindOf x = some .globalImplicit := by rfl) (hg : env.globals = 3 := by rfl) (hd : (x == ("__debug__" : Str)) = false := by decide) :
    wpAny M A (eval (.Name x pos) env) Q E ⟨h, g, d, tk, os⟩ := by
  obtain ⟨mg, hn, q⟩ := N.gl
  exact Name_function_global hk hl (loadGlobal_global (hg ▸ hn.keeps S) (q x v hv) k) hd
theorem ldB {x : Str} {pos : Pos} {v : Value} {Q : Value → Shared → Prop} (N : Globs H) (S : Keeps H h) (hv : biTab.lookup x = some v) (k : Q v ⟨h, g, d, tk, os⟩)
    (hk : env.scope.kind = .function := by rfl) (hl : env.kindOf x = some .globalImplicit := by rfl) (hg : env.globals = 3 := by rfl) (hb : env.builtins = 0 := by rfl) (hd : (x == ("__debug__" : Str)) = false := by decide) :
    wpAny M A (eval (.Name x pos) env) Q E ⟨h, g, d, tk, os⟩ := by
  obtain ⟨mg, mb, hn, hm, q⟩ := N.bi
  exact Name_function_global hk hl (loadGlobal_builtin (hg ▸ hn.keeps S) (q x v hv).1 (hb ▸ hm.keeps S) (q x v hv).2 k) hd
noncomputable def plainArgs (env : Env) : List Expr → List (Bool × Sem Value)
  | [] => []
  | e :: r => (false, eval e env) :: plainArgs env r
/-- a def of the text is called with plain arguments -/
theorem eCallF {x : Str} {p pos : Pos} {e : Expr} {args : List Expr} {a : Addr} {fd : FuncData} {Q : Value → Shared → Prop} (hf : FnAt H a fd) (N : Globs H) (S : Keeps H h) (hv : globTab.lookup x = some (.ref a))
    (k : wpAny M A (spliced (plainArgs env (e :: args))) (fun vs s₁ => Keeps H s₁.heap ∧ wpAny M A (call (.ref a) vs) Q E s₁) E ⟨h, g, d, tk, os⟩)
    (hs : backTo pos (starEach (e :: args) env) = plainArgs env (e :: args) := by rfl)
    (hk : env.scope.kind = .function := by rfl) (hl : env.kindOf x = some .globalImplicit := by rfl) (hg : env.globals = 3 := by rfl) (hd : (x == ("__debug__" : Str)) = false := by decide) :
    wpAny M A (eval (.Call (.Name x p) (e :: args) [] pos) env) Q E ⟨h, g, d, tk, os⟩ := by
  obtain ⟨o, ho, hfd⟩ := hf.at_
  refine wpAny_Call_Name_kw (ldG N S hv ?_ hk hl hg hd)
  rw [hs]
  refine callWith_function (o := o) (fd := fd) (evalArgs_plain (wpAny_mono k (fun vs s₁ q => ?_) fun _ _ q => q))
  exact ⟨⟨q.1 _ _ ho, hfd⟩, q.2⟩
/-- a built-in function is called with plain arguments -/
theorem eCallB {x : Str} {p pos : Pos} {e : Expr} {args : List Expr} {id : String} {Q : Value → Shared → Prop} (N : Globs H) (S : Keeps H h) (hv : biTab.lookup x = some (.builtin id))
    (k : wpAny M A (spliced (plainArgs env (e :: args))) (fun vs s₁ => wpAny M A (call (.builtin id) vs) Q E s₁) E ⟨h, g, d, tk, os⟩)
    (hs : backTo pos (starEach (e :: args) env) = plainArgs env (e :: args) := by rfl) (hp : (plainArgs env (e :: args)).any (·.1) = false := by rfl)
    (hk : env.scope.kind = .function := by rfl) (hl : env.kindOf x = some .globalImplicit := by rfl) (hg : env.globals = 3 := by rfl) (hb : env.builtins = 0 := by rfl) (hd : (x == ("__debug__" : Str)) = false := by decide) :
    wpAny M A (eval (.Call (.Name x p) (e :: args) [] pos) env) Q E ⟨h, g, d, tk, os⟩ := by
  refine wpAny_Call_Name_kw (ldB N S hv ?_ hk hl hg hb hd)
  rw [hs]
  exact callWith_builtin hp (evalArgs_plain (wpAny_mono k (fun vs s₁ q => q) fun _ _ q => q))
theorem lenL {a : Addr} {vs : List Value} {Q : Value → Shared → Prop} (S : Sym H h G) (m : (a, lstP vs) ∈ G) (hl : vs.length ≤ 1000) (k : ∀ t tk', Q (.int vs.length t) ⟨h, g, d, tk', os⟩) :
    wpAny (model pw w) A (call (.builtin "len") [.ref a]) Q E ⟨h, g, d, tk, os⟩ := by
  refine call_len_list (s := ⟨h, g, d, tk, os⟩) (S.isList m) (by simp only [List.size_toArray]; omega) ?_
  simp only [List.size_toArray]
  exact k _ _
theorem truthyL {a : Addr} {vs : List Value} {Q : Bool → Shared → Prop} (S : Sym H h G) (m : (a, lstP vs) ∈ G) (hl : vs.length ≤ 1000) (k : ∀ tk', Q (!vs.isEmpty) ⟨h, g, d, tk', os⟩) :
    wpAny (model pw w) A (truthy (.ref a)) Q E ⟨h, g, d, tk, os⟩ := by
  refine wpAny_truthy_list (s := ⟨h, g, d, tk, os⟩) (S.isList m) (by simp only [List.size_toArray]; omega) ?_
  have : vs.toArray.isEmpty = vs.isEmpty := by cases vs <;> rfl
  rw [this]
  exact k _
theorem Sym.updL {a : Addr} {vs vs' : List Value} {f : Array Value → Array Value} (S : Sym H h ((a, lstP vs) :: G)) (e : f vs.toArray = vs'.toArray) : Sym H (h.update a (Obj.mapSeq f)) ((a, lstP vs') :: G) := by
  obtain ⟨n, hl⟩ := S.lst (.head _)
  have := hl.update f
  rw [e] at this
  exact S.upd (Heap.SameBut.update h a _) this ⟨_, rfl⟩
/-- the method `append` of a made list, its argument's tree first -/
theorem appendL {o e : Expr} {apos pos : Pos} {Q : Value → Shared → Prop}
    (k : wpAny (model pw w) A (eval o env) (fun ov s₁ => (∃ a ob, ov = .ref a ∧ s₁.heap.get? a = some ob ∧ ob.cls = .type "list" ∧ ob.dict = none ∧ wpAny (model pw w) A (eval e env) (fun v s₂ => ∃ vs H G, vs.length ≤ 1000 ∧ Sym H s₂.heap ((a, lstP vs) :: G) ∧
      ∀ h', Sym H h' ((a, lstP (vs ++ [v])) :: G) → Q .none { s₂ with heap := h' }) E s₁)) E ⟨h, g, d, tk, os⟩)
    (hbase : attributeBase o "append" env (eval o env) = eval o env := by rfl) (hline : (apos.endLine == pos.line) = true := by rfl)
    (htrees : backTo pos (starEach [e] env) = [(false, eval e env)] := by rfl) :
    wpAny (model pw w) A (eval (.Call (.Attribute o "append" apos) [e] [] pos) env) Q E ⟨h, g, d, tk, os⟩ := by
  refine wpAny_Call_method1_late hbase hline htrees (wpAny_mono k (fun ov s₁ h₁ => ?_) fun _ _ x => x)
  obtain ⟨a, ob, rfl, ho, hc, hd, h₁⟩ := h₁
  refine ⟨"list", "list.append", F.plainAttrs_list, F.slot_list_append, by rfl, ⟨ob, ho, hc⟩, fun b hb => ?_, P.append_list (wpAny_mono h₁ (fun v s₂ h₂ => ?_) fun _ _ x => x)⟩
  · cases hb; exact ⟨ob, ho, hd⟩
  · obtain ⟨vs, H, G, hl, S, q⟩ := h₂
    obtain ⟨n, hi⟩ := S.lst (.head _)
    exact ⟨vs.toArray, n, by simp only [List.size_toArray, sizeLine_eq]; omega, hi, q _ (S.updL (by simp))⟩
theorem Sym.isObj {a : Addr} {vs : List Value} (S : Sym H h G) (m : (a, lstP vs) ∈ G) : ∃ ob, h.get? a = some ob ∧ ob.cls = .type "list" ∧ ob.dict = none := by
  obtain ⟨n, e⟩ := S.lst m
  exact ⟨_, e, rfl, rfl⟩
theorem erase_last (vs : List Value) (v : Value) : (vs ++ [v]).eraseIdx vs.length = vs := by
  induction vs with
  | nil => rfl
  | cons x r ih => show x :: (r ++ [v]).eraseIdx r.length = x :: r; rw [ih]
/-- `xs.pop()` -/
theorem popL {o : Expr} {apos pos : Pos} {Q : Value → Shared → Prop}
    (k : wpAny (model pw w) A (eval o env) (fun ov s₁ => ∃ a vs v H G, ov = .ref a ∧ vs.length ≤ 1000 ∧ Sym H s₁.heap ((a, lstP (vs ++ [v])) :: G) ∧
      ∀ h', Sym H h' ((a, lstP vs) :: G) → Q v { s₁ with heap := h' }) E ⟨h, g, d, tk, os⟩)
    (hbase : attributeBase o "pop" env (eval o env) = eval o env := by rfl) (hline : (apos.endLine == pos.line) = true := by rfl) :
    wpAny (model pw w) A (eval (.Call (.Attribute o "pop" apos) [] [] pos) env) Q E ⟨h, g, d, tk, os⟩ := by
  refine wpAny_Call_method0_late hbase hline (wpAny_mono k (fun ov s₁ h₁ => ?_) fun _ _ x => x)
  obtain ⟨a, vs, v, H, G, rfl, hl, S, q⟩ := h₁
  obtain ⟨n, hi⟩ := S.lst (.head _)
  refine ⟨"list", "list.pop", F.plainAttrs_list, F.slot_list_pop, by rfl, ⟨_, hi, rfl⟩, fun b hb => ?_, P.pop_list hi (by simp) (q _ (S.updL ?_)) (by simp only [List.size_toArray, sizeLine_eq, List.length_append, List.length_cons, List.length_nil]; omega)⟩
  · cases hb; exact ⟨_, hi, rfl⟩
  · simp [Array.eraseIdxIfInBounds, erase_last]
end
end Mine

namespace Mine
open PySem PySem.Calls PyProof.Rows PySem.W

section
variable {M : Model} {w : World} {A : Around} {E : Value → Shared → Prop} {H h : Heap} {G : Led} {env : Env} {g : Array GenState} {d : Drawn} {tk : Nat} {os : OsState} {s : Shared}
theorem isAnd {x : Expr} {rest : List Expr} {Q : Bool → Shared → Prop} (k : wpAny M A (isTrue x env (eval x env)) (fun b s₁ => if b = true then wpAny M A (allTrue .And rest env) Q E s₁ else Q false s₁) E s) :
    wpAny M A (allTrue .And (x :: rest) env) Q E s :=
  wpAny_bind (m := isTrue x env (eval x env)) (wpAny_mono k (fun b s₁ q => by
    cases b with
    | true => exact q
    | false => exact wpAny_pure q) fun _ _ q => q)
theorem isOr {x : Expr} {rest : List Expr} {Q : Bool → Shared → Prop} (k : wpAny M A (isTrue x env (eval x env)) (fun b s₁ => if b = true then Q true s₁ else wpAny M A (allTrue .Or rest env) Q E s₁) E s) :
    wpAny M A (allTrue .Or (x :: rest) env) Q E s :=
  wpAny_bind (m := isTrue x env (eval x env)) (wpAny_mono k (fun b s₁ q => by
    cases b with
    | true => exact wpAny_pure q
    | false => exact q) fun _ _ q => q)
theorem isAnd0 {Q : Bool → Shared → Prop} (k : Q true s) : wpAny M A (allTrue .And [] env) Q E s := wpAny_pure k
theorem isOr0 {Q : Bool → Shared → Prop} (k : Q false s) : wpAny M A (allTrue .Or [] env) Q E s := wpAny_pure k
theorem isBool {op : BoolOp} {vs : List Expr} {pos : Pos} {whole : Sem Value} {Q : Bool → Shared → Prop} (k : wpAny M A (allTrue op vs env) Q E s) : wpAny M A (isTrue (.BoolOp op vs pos) env whole) Q E s := k
theorem isNot {x : Expr} {pos : Pos} {whole : Sem Value} {Q : Bool → Shared → Prop} (k : wpAny M A (isTrue x env (eval x env)) (fun b s₁ => Q (!b) s₁) E s) : wpAny M A (isTrue (.UnaryOp .Not x pos) env whole) Q E s :=
  wpAny_bind (m := isTrue x env (eval x env)) (wpAny_mono k (fun b s₁ q => wpAny_pure q) fun _ _ q => q)
end

theorem z1 {p n : Nat} (h : 2 * p + 1 < n) : 2 * (p : Int) + 1 < n := by omega
theorem z1' {p n : Nat} (h : ¬ 2 * p + 1 < n) : ¬ 2 * (p : Int) + 1 < n := by omega
theorem z2 {p n : Nat} (h : 2 * p + 2 < n) : 2 * (p : Int) + 1 + 1 < n := by omega
theorem z2' {p n : Nat} (h : ¬ 2 * p + 2 < n) : ¬ 2 * (p : Int) + 1 + 1 < n := by omega
theorem z3 (p : Nat) : 0 ≤ 2 * (p : Int) + 1 ∧ 0 ≤ 2 * (p : Int) + 1 + 1 ∧ (2 * (p : Int) + 1).toNat = 2 * p + 1 ∧ (2 * (p : Int) + 1 + 1).toNat = 2 * p + 2 := by omega
theorem z4 {p v : Nat} (h : 2 * p + 2 < v) (hl : v ≤ 1000) : 2 * (p : Int) + 1 < 2 ^ 63 ∧ 2 * (p : Int) + 1 + 1 < 2 ^ 63 := by omega
noncomputable def childOf (key : Value → Int × Nat) (vs : List Value) (pos : Nat) : Nat :=
  if 2 * pos + 2 < vs.length ∧ keyLt key (vs.getD (2 * pos + 1) .none) (vs.getD (2 * pos + 2) .none) = false then 2 * pos + 2 else 2 * pos + 1
theorem childOf_gt (key : Value → Int × Nat) (vs : List Value) (pos : Nat) : pos < childOf key vs pos := by unfold childOf; split <;> omega
theorem childOf_lt {key : Value → Int × Nat} {vs : List Value} {pos : Nat} (h : 2 * pos + 1 < vs.length) : childOf key vs pos < vs.length := by unfold childOf; split <;> omega
noncomputable def upL (key : Value → Int × Nat) (vs : List Value) (pos : Nat) : List Value × Nat :=
  if h : 2 * pos + 1 < vs.length then upL key (vs.set pos (vs.getD (childOf key vs pos) .none)) (childOf key vs pos) else (vs, pos)
termination_by vs.length - pos
decreasing_by
  have := childOf_gt key vs pos
  have := childOf_lt (key := key) h
  simp only [List.length_set]; omega
theorem upL_len (key : Value → Int × Nat) (vs : List Value) (pos : Nat) : (upL key vs pos).1.length = vs.length := by
  fun_induction upL key vs pos with
  | case1 vs pos h ih => rw [ih]; simp
  | case2 => rfl
noncomputable def siftupL (key : Value → Int × Nat) (x : Value) (vs : List Value) : List Value := downL key x ((upL key vs 0).1.set (upL key vs 0).2 x) (upL key vs 0).2

/-- what the heap's functions lean on at the top -/
structure TopQ (H : Heap) : Prop extends TopH H, Globs H where
  up : FnAt H 197 fdUp
  push : FnAt H 176 fdPush
  pop : FnAt H 183 fdPop

section
variable {M : Model} {w : World} {A : Around} {E : Value → Shared → Prop} {H h : Heap} {G : Led} {env : Env} {g : Array GenState} {d : Drawn} {tk : Nat} {os : OsState} {s : Shared}
theorem up_spec {a : Addr} {vs : List Value} {t1 : Tok} {key : Value → Int × Nat} {x : Value} {Q : Value → Shared → Prop} (T : TopQ H) (hd : A.depth + 1 < recursionLimit) (hu : A.units + 20 < cLine) (S : Sym H h ((a, lstP vs) :: G))
    (hp : vs[0]? = some x) (hl : vs.length ≤ 1000) (hit : ∀ v ∈ vs, IsItem G v (key v).1 (key v).2)
    (hQ : ∀ h' tk, Sym H h' ((a, lstP (siftupL key x vs)) :: G) → Q .none ⟨h', g, d, tk, os⟩) :
    wpAny (model pw w) A (call (.ref 197) [.ref a, .int 0 t1]) Q E ⟨h, g, d, tk, os⟩ := by
  refine callF T.up T.lim (lt_z hd) S (BindsTo.of_eq rfl) fun h1 L tk1 S1 => ?_
  have S1 := S1.renm (l' := [("heap", .ref a), ("pos", .int 0 t1)]) ⟨rfl, rfl, trivial⟩
  have hx : IsItem G x (key x).1 (key x).2 := hit x (List.mem_of_getElem? hp)
  refine wpAny_execs_cons (wpAny_Assign_Name (eCallB T.toGlobs S1.keep rfl (spliced_cons (ldL S1 rfl (spliced_nil (lenL S1 (.tail _ (.head _)) hl fun t2 tk2 => stL S1 fun h2 tk2 S2 => ?_))))))
  refine wpAny_execs_cons (wpAny_Assign_Name (ldL S2 rfl (stL S2 fun h3 tk3 S3 => ?_)))
  refine wpAny_execs_cons (wpAny_Assign_Name (Subscript_ (ldL S3 rfl (ldL S3 rfl (idxL S3 (.tail _ (.head _)) (by decide) (by simpa using hp) (stL S3 fun h4 tk4 S4 => ?_) (by decide))))))
  refine wpAny_execs_cons (wpAny_Assign_Name (wpAny_BinOp (wpAny_BinOp (cInt fun _ _ => ldL S4 rfl (eMul (fun _ _ => cInt fun _ _ => eAdd fun t5 tk5 => stL S4 fun h5 tk6 S5 => ?_))))))
  refine wpAny_execs_cons (wpAny_While ?_)
  have h0lt : 0 < vs.length := (List.getElem?_eq_some_iff.mp hp).1
  refine whileO (fun n s' => ∃ h' tk' vs' p t' t'', s' = ⟨h', g, d, tk', os⟩ ∧ Sym H h' ((L, nsP [("newitem", x), ("startpos", .int 0 t1), ("endpos", .int vs.length t2), ("heap", .ref a), ("pos", .int (p : Nat) t'), ("childpos", .int (2 * (p : Int) + 1) t'')]) :: (a, lstP vs') :: G) ∧
    n = vs.length - p ∧ p < vs.length ∧ vs'.length = vs.length ∧ (∀ v ∈ vs', IsItem G v (key v).1 (key v).2) ∧ upL key vs' p = upL key vs 0) ?_ _ ⟨h5, _, vs, 0, t1, t5, rfl, S5.renm ⟨rfl, rfl, rfl, rfl, rfl, rfl, trivial⟩, rfl, h0lt, rfl, hit, rfl⟩
  rintro n s' ⟨h', tk', vs', p, t', t'', rfl, S', rfl, hpl, hlen, hit', heq⟩ Y Z hY hZ
  refine wpAny_isTrue_Compare1 (ldL S' rfl (ldL S' rfl (lt_int (wpAny_truthy_bool ?_))))
  by_cases hz : 2 * p + 1 < vs.length
  · refine itT (decide_eq_true (z1 hz)) ?_
    have hz' : 2 * p + 1 < vs'.length := hlen.symm ▸ hz
    refine wpAny_execs_cons (wpAny_Assign_Name (wpAny_BinOp (ldL S' rfl (cInt fun _ _ => eAdd fun t6 tk6 => stL S' fun h6 tk6 S6 => ?_))))
    have hc : vs'[2 * p + 1]? = some vs'[2 * p + 1] := by simp [hz']
    refine cutO (fun s' => ∃ h7 tk7 t7, s' = ⟨h7, g, d, tk7, os⟩ ∧ Sym H h7 ((L, nsP [("newitem", x), ("startpos", .int 0 t1), ("endpos", .int vs.length t2), ("heap", .ref a), ("pos", .int (p : Nat) t'), ("childpos", .int ((childOf key vs' p : Nat) : Int) t7)]) :: (a, lstP vs') :: G)) ?_ ?_
    · intro J hJ
      refine wpAny_If (isBool (isAnd (wpAny_isTrue_Compare1 (ldL S6 rfl (ldL S6 rfl (lt_int (wpAny_truthy_bool ?_)))))))
      by_cases hr : 2 * p + 2 < vs.length
      · refine itT (decide_eq_true (z2 hr)) ?_
        have hr' : 2 * p + 2 < vs'.length := hlen.symm ▸ hr
        have hcr : vs'[2 * p + 2]? = some vs'[2 * p + 2] := by simp [hr']
        refine isAnd (isNot (wpAny_isTrue_Compare1 (Subscript_ (ldL S6 rfl (ldL S6 rfl (idxL S6 (.tail _ (.head _)) (z3 p).1 (by rw [(z3 p).2.2.1]; exact hc)
          (Subscript_ (ldL S6 rfl (ldL S6 rfl (idxL S6 (.tail _ (.head _)) (z3 p).2.1 (by rw [(z3 p).2.2.2]; exact hcr) ?_ (z4 hr hl).2)))) (z4 hr hl).1))))))
        refine lt_item S6 (hit' _ (List.getElem_mem hz')).tail.tail (hit' _ (List.getElem_mem hr')).tail.tail (by exact (show A.units + 4 < _ from lt_w hu)) (wpAny_truthy_bool ?_)
        have ek : itemLt (key vs'[2 * p + 1]).1 (key vs'[2 * p + 1]).2 (key vs'[2 * p + 2]).1 (key vs'[2 * p + 2]).2 = keyLt key (vs'.getD (2 * p + 1) .none) (vs'.getD (2 * p + 2) .none) := by
          simp [keyLt, List.getD, hc, hcr]
        rw [ek]
        cases hk : keyLt key (vs'.getD (2 * p + 1) .none) (vs'.getD (2 * p + 2) .none) with
        | true =>
          refine itF rfl (itF rfl (wpAny_execs_nil ⟨rfl, hJ _ ⟨h6, _, t'', rfl, ?_⟩⟩))
          have : childOf key vs' p = 2 * p + 1 := by unfold childOf; rw [if_neg (by rw [hk]; simp)]
          rw [this]
          exact S6.renm ⟨rfl, rfl, rfl, rfl, rfl, by simp [List.lookup]; rfl, trivial⟩
        | false =>
          refine itT rfl (isAnd0 (itT rfl ?_))
          refine wpAny_execs_cons (wpAny_Assign_Name (ldL S6 rfl (stL S6 fun h7 tk7 S7 => wpAny_execs_nil ⟨rfl, hJ _ ⟨h7, _, t6, rfl, ?_⟩⟩)))
          have : childOf key vs' p = 2 * p + 2 := by unfold childOf; rw [if_pos ⟨hr', hk⟩]
          rw [this]
          exact S7.renm ⟨rfl, rfl, rfl, rfl, rfl, by simp [List.lookup]; omega, trivial⟩
      · refine itF (decide_eq_false (z2' hr)) (itF rfl (wpAny_execs_nil ⟨rfl, hJ _ ⟨h6, _, t'', rfl, ?_⟩⟩))
        have : childOf key vs' p = 2 * p + 1 := by unfold childOf; rw [if_neg (fun q => hr (hlen ▸ q.1))]
        rw [this]
        exact S6.renm ⟨rfl, rfl, rfl, rfl, rfl, by simp [List.lookup]; rfl, trivial⟩
    · rintro _ ⟨h7, tk7, t7, rfl, S7⟩
      have hcl := childOf_lt (key := key) hz'
      have hcg := childOf_gt key vs' p
      have hcc : vs'[childOf key vs' p]? = some (vs'.getD (childOf key vs' p) .none) := by simp [List.getD, hcl]
      refine wpAny_execs_cons (wpAny_Assign_Subscript (Subscript_ (ldL S7 rfl (ldL S7 rfl (idxL S7 (.tail _ (.head _)) (Int.natCast_nonneg _) (by rw [Int.toNat_natCast]; exact hcc)
        (ldL S7 rfl (ldL S7 rfl (setL S7.swap (Int.natCast_nonneg _) (by rw [Int.toNat_natCast, hlen]; exact hpl) (i63 hpl hl) fun h8 S8 => ?_))) (i63 (hlen ▸ hcl) hl))))))
      have S8 := S8.swap
      simp only [Int.toNat_natCast] at S8
      refine wpAny_execs_cons (wpAny_Assign_Name (ldL S8 rfl (stL S8 fun h9 tk9 S9 => ?_)))
      refine wpAny_execs_cons (wpAny_Assign_Name (wpAny_BinOp (wpAny_BinOp (cInt fun _ _ => ldL S9 rfl (eMul (fun _ _ => cInt fun _ _ => eAdd fun t10 tk10 => stL S9 fun h10 tk10 S10 => ?_))))))
      refine wpAny_execs_nil (hY _ _ ⟨vs.length - childOf key vs' p, Nat.sub_lt_sub_left hpl hcg, h10, _, _, _, _, _, rfl, S10.renm ⟨rfl, rfl, rfl, rfl, rfl, rfl, trivial⟩, rfl, hlen ▸ hcl, by rw [List.length_set]; exact hlen, ?_, ?_⟩)
      · intro v hv
        rcases List.mem_or_eq_of_mem_set hv with q | q
        · exact hit' v q
        · rw [q]; exact hit' _ (List.mem_of_getElem? hcc)
      · rw [← heq]
        conv => rhs; unfold upL
        rw [dif_pos hz']
  · refine itF (decide_eq_false (z1' hz)) ?_
    refine wpAny_execs_nil (hZ _ _ ?_)
    have e2 : upL key vs' p = (vs', p) := by unfold upL; rw [dif_neg (fun q => hz (hlen ▸ q))]
    refine wpAny_execs_cons (wpAny_Assign_Subscript (ldL S' rfl (ldL S' rfl (ldL S' rfl (setL S'.swap (Int.natCast_nonneg _) (by rw [Int.toNat_natCast, hlen]; exact hpl) (i63 hpl hl) fun h6 S6 => ?_)))))
    have S6 := S6.swap
    simp only [Int.toNat_natCast] at S6
    refine wpAny_execs_cons (wpAny_Expr (eCallF T.down T.toGlobs S6.keep rfl (spliced_cons (ldL S6 rfl (spliced_cons (ldL S6 rfl (spliced_cons (ldL S6 rfl (spliced_nil ⟨S6.keep, ?_⟩)))))))))
    refine down_spec (key := key) (x := x) T.toTopH (by exact (show A.depth + 1 < _ from lt_w hd)) (by exact (show A.units + 13 < _ from lt_w hu)) (S6.swap) (by simp only [List.getElem?_set_self', List.getElem?_eq_getElem (show p < vs'.length from hlen.symm ▸ hpl)]; rfl) (by rw [List.length_set, hlen]; exact hl) ?_ ?_
    · intro v hv
      rcases List.mem_or_eq_of_mem_set hv with q | q
      · exact (hit' v q).tail
      · rw [q]; exact hx.tail
    · intro h7 tk7 S7
      refine wpAny_execs_nil (hQ h7 tk7 ?_)
      have := S7.swap.tail
      unfold siftupL
      rw [← heq, e2]
      exact this
end
end Mine

namespace Mine
open PySem PySem.Calls PyProof.Rows PySem.W
noncomputable def pushL (key : Value → Int × Nat) (x : Value) (vs : List Value) : List Value := downL key x (vs ++ [x]) vs.length
/-- what heappop hands back, and what it leaves -/
noncomputable def popR (key : Value → Int × Nat) (init : List Value) (last : Value) : Value × List Value := match init with
  | [] => (last, [])
  | x :: r => (x, siftupL key last (last :: r))
section
variable {M : Model} {w : World} {A : Around} {E : Value → Shared → Prop} {H h : Heap} {G : Led} {env : Env} {g : Array GenState} {d : Drawn} {tk : Nat} {os : OsState} {s : Shared}
theorem push_spec {a : Addr} {vs : List Value} {key : Value → Int × Nat} {x : Value} {Q : Value → Shared → Prop} (T : TopQ H) (hd : A.depth + 1 < recursionLimit) (hu : A.units + 20 < cLine) (S : Sym H h ((a, lstP vs) :: G))
    (hl : vs.length < 1000) (hit : ∀ v ∈ vs, IsItem G v (key v).1 (key v).2) (hx : IsItem G x (key x).1 (key x).2)
    (hQ : ∀ h' tk, Sym H h' ((a, lstP (pushL key x vs)) :: G) → Q .none ⟨h', g, d, tk, os⟩) :
    wpAny (model pw w) A (call (.ref 176) [.ref a, x]) Q E ⟨h, g, d, tk, os⟩ := by
  refine callF T.push T.lim (lt_z hd) S (BindsTo.of_eq rfl) fun h1 L tk1 S1 => ?_
  have S1 := S1.renm (l' := [("heap", .ref a), ("item", x)]) ⟨rfl, rfl, trivial⟩
  obtain ⟨ob, o1, o2, o3⟩ := S1.isObj (a := a) (.tail _ (.head _))
  refine wpAny_execs_cons (wpAny_Expr (appendL (ldL S1 rfl ⟨a, ob, rfl, o1, o2, o3, ldL S1 rfl ⟨vs, H, _, by omega, S1.swap, fun h2 S2 => ?_⟩⟩)))
  have S2 := S2.swap
  refine wpAny_execs_cons (wpAny_Expr (eCallF T.down T.toGlobs S2.keep rfl (spliced_cons (ldL S2 rfl (spliced_cons (cInt fun t3 tk3 => spliced_cons (wpAny_BinOp
    (eCallB T.toGlobs S2.keep rfl (spliced_cons (ldL S2 rfl (spliced_nil (lenL S2 (.tail _ (.head _)) (by simp; omega) fun t4 tk4 => cInt fun t5 tk5 => eSub fun t6 tk6 => spliced_nil ⟨S2.keep, ?_⟩))))))))))))
  have e : (((vs ++ [x]).length : Nat) : Int) - 1 = ((vs.length : Nat) : Int) := by simp
  rw [e]
  refine down_spec (key := key) (x := x) T.toTopH (by exact (show A.depth + 1 < _ from lt_w hd)) (by exact (show A.units + 13 < _ from lt_w hu)) S2.swap (by simp) (by simp; omega) ?_ ?_
  · intro v hv
    rcases List.mem_append.mp hv with q | q
    · exact (hit v q).tail
    · rw [List.mem_singleton.mp q]; exact hx.tail
  · intro h7 tk7 S7
    exact wpAny_execs_nil (hQ h7 tk7 S7.swap.tail)
theorem pop_spec {a : Addr} {init : List Value} {last : Value} {key : Value → Int × Nat} {Q : Value → Shared → Prop} (T : TopQ H) (hd : A.depth + 2 < recursionLimit) (hu : A.units + 30 < cLine) (S : Sym H h ((a, lstP (init ++ [last])) :: G))
    (hl : init.length < 1000) (hit : ∀ v ∈ init ++ [last], IsItem G v (key v).1 (key v).2)
    (hQ : ∀ h' tk, Sym H h' ((a, lstP (popR key init last).2) :: G) → Q (popR key init last).1 ⟨h', g, d, tk, os⟩) :
    wpAny (model pw w) A (call (.ref 183) [.ref a]) Q E ⟨h, g, d, tk, os⟩ := by
  refine callF T.pop T.lim (lt_z hd) S (BindsTo.of_eq rfl) fun h1 L tk1 S1 => ?_
  have S1 := S1.renm (l' := [("heap", .ref a)]) ⟨rfl, trivial⟩
  refine wpAny_execs_cons (wpAny_Assign_Name (popL (ldL S1 rfl ⟨a, init, last, H, _, rfl, by omega, S1.swap, fun h2 S2 => ?_⟩)))
  have S2 := S2.swap
  refine stL S2 fun h3 tk3 S3 => ?_
  refine wpAny_execs_cons (wpAny_If ?_)
  refine wpAny_bind (ldL S3 rfl (wpAny_bind (wpAny_standAt (wpAny_holding (truthyL S3 (.tail _ (.head _)) (by omega) fun tk4 => ?_)))))
  cases init with
  | nil =>
    refine itF rfl (wpAny_execs_nil ?_)
    refine wpAny_execs_cons (wpAny_Return_some (ldL S3 rfl (hQ _ _ S3.tail)))
  | cons x r =>
    refine itT rfl ?_
    refine wpAny_execs_cons (wpAny_Assign_Name (Subscript_ (ldL S3 rfl (cInt fun t5 tk5 => idxL S3 (.tail _ (.head _)) (by omega) rfl (stL S3 fun h6 tk6 S6 => ?_) (by omega)))))
    refine wpAny_execs_cons (wpAny_Assign_Subscript (ldL S6 rfl (ldL S6 rfl (cInt fun t7 tk7 => setL S6.swap (by omega) (by simp) (by omega) fun h8 S8 => ?_))))
    have S8 := S8.swap
    have S8 : Sym H h8 ((L, nsP [("returnitem", x), ("lastelt", last), ("heap", .ref a)]) :: (a, lstP (last :: r)) :: G) := S8
    refine wpAny_execs_cons (wpAny_Expr (eCallF T.up T.toGlobs S8.keep rfl (spliced_cons (ldL S8 rfl (spliced_cons (cInt fun t9 tk9 => spliced_nil ⟨S8.keep, ?_⟩))))))
    refine up_spec (key := key) (x := last) T (by exact (show A.depth + 2 < _ from lt_w hd)) (by exact (show A.units + 23 < _ from lt_w hu)) S8.swap rfl (by simp at hl ⊢; omega) ?_ ?_
    · intro v hv
      refine (hit v ?_).tail
      rcases List.mem_cons.mp hv with q | q
      · rw [q]; simp
      · exact List.mem_append_left _ (.tail _ q)
    · intro h10 tk10 S10
      have S10 := S10.swap
      exact wpAny_execs_cons (wpAny_Return_some (ldL S10 rfl (hQ _ _ S10.tail)))
end
end Mine

namespace Mine
open PySem PySem.Calls PyProof.Rows PySem.W

/-- a dict of names, these and no other -/
noncomputable def nsE (l : List (Str × Value)) (o : Obj) : Prop := ∃ es ep, o.data = .dict es ep ∧ StrKeys es ∧ UniqKeys es ∧ ∀ n, nsFind es n = l.lookup n
noncomputable def instP (C dx : Addr) (sl : List (Option Value)) (o : Obj) : Prop := o = { cls := .ref C, dict := some dx, data := .plain, slots := sl.toArray }
theorem Sym.inst {H h : Heap} {G : Led} {x C dx : Addr} {sl} (S : Sym H h G) (m : (x, instP C dx sl) ∈ G) : h.get? x = some { cls := .ref C, dict := some dx, data := .plain, slots := sl.toArray } := by
  obtain ⟨o, e, rfl⟩ := S.get m
  exact e
theorem nsFind_eq {es : Array DictEntry} (n : Str) : nsFind es n = (es.toList.find? (·.key.isStr n)).map (·.val) := by
  unfold nsFind findBy
  rw [← Array.find?_toList]
theorem noRef {es : Array DictEntry} (k : StrKeys es) : es.toList.any (·.refKey) = false := by
  rw [List.any_eq_false]
  intro e he
  obtain ⟨n, t, q⟩ := k e (by simpa using he)
  simp [DictEntry.refKey, q]
theorem lookIn_of {l : List (Str × Value)} {o : Obj} (p : nsE l o) (name : Str) : lookIn name o = some (l.lookup name) := by
  obtain ⟨es, ep, hd, hk, _, hf⟩ := p
  unfold lookIn
  rw [hd]
  have := hf name
  rw [nsFind_eq] at this
  dsimp only
  cases q : es.toList.find? (·.key.isStr name) with
  | some e => rw [q] at this; simp only [Option.map_some] at this; rw [← this]
  | none => rw [q] at this; simp only [Option.map_none] at this; rw [← this]; simp only [noRef hk]; rfl

/-- what the classes of the text give, as the written part K of the top tells -/
structure TopS (K : Frag) (H : Heap) : Prop extends TopQ H where
  X : K.In H
  clsT : ∃ cd, clsIn K 165 = some cd ∧ cd.hasDict = true
  attrT : ∀ name ∈ (["_node2info", "_ready_nodes", "_npassedout", "_nfinished"] : List Str), findIn K (.ref 165) name = some none
  gaT : findIn K (.ref 165) "__getattribute__" = some (some (.builtin "object.__getattribute__"))
  haT : findIn K (.ref 165) "__getattr__" = some none
  saT : findIn K (.ref 165) "__setattr__" = some (some (.builtin "object.__setattr__"))
  poT : plainOver K 165 = true
  gaN : findIn K (.ref 68) "__getattribute__" = some (some (.builtin "object.__getattribute__"))
  haN : findIn K (.ref 68) "__getattr__" = some none
  saN : findIn K (.ref 68) "__setattr__" = some (some (.builtin "object.__setattr__"))
  poN : plainOver K 68 = true
  slotN : ∀ p ∈ ([("node", 69, 0), ("npredecessors", 70, 1), ("successors", 71, 2)] : List (Str × Addr × Nat)), slotIn K p.2.1 68 = some p.2.2 ∧ takerIn K 68 p.1 = some (some (.ref p.2.1)) ∧
    typeIn K (.ref p.2.1) = some (.type "member_descriptor") ∧ ∀ od, findObj K 68 od p.1 = some (.bind (.builtin "member_descriptor.__get__") (.ref p.2.1))
  methT : ∀ p ∈ ([("_get_nodeinfo", 108), ("add", 115), ("prepare", 120), ("get_ready", 127), ("is_active", 134), ("done", 148), ("_find_cycle", 155)] : List (Str × Addr)), findIn K (.ref 165) p.1 = some (some (.ref p.2)) ∧ typeIn K (.ref p.2) = some (.type "function")
  mkN : makesIn K 68 = true
  mkT : makesIn K 165 = true
  iniN : findIn K (.ref 68) "__init__" = some (some (.ref 64)) ∧ typeIn K (.ref 64) = some (.type "function")
  iniT : findIn K (.ref 165) "__init__" = some (some (.ref 101)) ∧ typeIn K (.ref 101) = some (.type "function")

section
variable {K : Frag} {w : World} {A : Around} {E : Value → Shared → Prop} {H h : Heap} {G : Led} {env : Env} {g : Array GenState} {d : Drawn} {tk : Nat} {os : OsState} {x dx : Addr} {l : List (Str × Value)}
theorem Sym.X (T : TopS K H) (S : Sym H h G) : K.In h := fun a o e => S.keep a o (T.X a o e)
theorem instD (S : Sym H h G) (m1 : (x, instP 165 dx []) ∈ G) (m2 : (dx, nsE l) ∈ G) : ∃ ox od, InstAt h x ox 165 (some od) ∧ ox.dict = some dx ∧ nsE l od := by
  obtain ⟨od, e, p⟩ := S.get m2
  exact ⟨_, od, ⟨S.inst m1, rfl, rfl, e⟩, rfl, p⟩
/-- an attribute of the sorter is read -/
theorem getD {name : Str} {v : Value} {b : Bool} {Q : Value → Shared → Prop} (T : TopS K H) (S : Sym H h G) (m1 : (x, instP 165 dx []) ∈ G) (m2 : (dx, nsE l) ∈ G) (hv : l.lookup name = some v)
    (k : ∀ tk', Q v ⟨h, g, d, tk', os⟩) (hn : name ∈ (["_node2info", "_ready_nodes", "_npassedout", "_nfinished"] : List Str) := by decide) (hh : handedIn v = true := by rfl) :
    wpAny (model pw w) A (getAttr (.ref x) name b) Q E ⟨h, g, d, tk, os⟩ := by
  obtain ⟨ox, od, I, hx, p⟩ := instD S m1 m2
  obtain ⟨cd, hc, hd⟩ := T.clsT
  refine get_value (s := ⟨h, g, d, tk, os⟩) (S.X T) I T.gaT ?_ hh (k _)
  unfold findObj
  rw [hc, T.attrT name hn]
  simp only [Option.bind_some, W.ownOf, hd, if_true, lookIn_of p, hv]
/-- an attribute of the sorter is stored -/
theorem setD {name : Str} {v : Value} {Q : Unit → Shared → Prop} (T : TopS K H) (S : Sym H h ((dx, nsE l) :: G)) (m1 : (x, instP 165 dx []) ∈ G)
    (k : ∀ h' tk', Sym H h' ((dx, nsE ((name, v) :: l)) :: G) → Q () ⟨h', g, d, tk', os⟩) (hl : l.length ≤ 100) (hn : name ∈ (["_node2info", "_ready_nodes", "_npassedout", "_nfinished"] : List Str) := by decide) :
    wpAny (model pw w) A (setAttr (.ref x) name v) Q E ⟨h, g, d, tk, os⟩ := by
  obtain ⟨ox, od, I, hx, p⟩ := instD S (.tail _ m1) (.head _)
  obtain ⟨cd, hc, hd⟩ := T.clsT
  refine set_plain (s := ⟨h, g, d, tk, os⟩) (S.X T) I T.saT ?_
  refine osa_open (s := ⟨h, g, d, tk + 1, os⟩) (r := none) (S.X T) I T.poT (by unfold takerIn; rw [T.attrT name hn]; rfl) fun b => ?_
  obtain ⟨hx1, hcl, hno, hdi⟩ := I
  rw [hx] at hdi
  dsimp only at hdi
  have hC := looks_clsIn (M := model pw w) (S.X T) hc
  obtain ⟨oc, odi, oda, osl⟩ := ox
  dsimp only at hcl hx
  subst hcl hx
  refine wpAny_bind (wpAny_pure (wpAny_bind (wpAny_bind (wpAny_loadPart hx1 (wpAny_bind (hC.here ?_))))))
  rw [hd]
  refine wpAny_pure (a := some dx) (wpAny_bind (wpAny_pure (wpAny_bind ?_)))
  have hns : h.Ns1 dx (fun n => l.lookup n) := by
    obtain ⟨es, ep, q1, q2, q3, q4⟩ := p
    exact ⟨od, es, ep, hdi, q1, q2, q3, q4⟩
  refine wpAny_nsSet1 hns fun h' hn' hs => ?_
  have hm : (fun x => if x = name then some v else l.lookup x) = fun x => ((name, v) :: l).lookup x := by
    funext y
    rw [List.lookup_cons]
    by_cases q : y = name
    · simp [q]
    · have : (y == name) = false := beq_eq_false_iff_ne.mpr q
      simp [q, this]
  rw [hm] at hn'
  obtain ⟨o', es', ep', e', d', z'⟩ := hn'.count (ns := ((name, v) :: l).map (·.1)) fun y hy => by
    cases q : ((name, v) :: l).lookup y with
    | none => exact absurd q hy
    | some u => exact List.mem_map.mpr ⟨(y, u), mem_of_lookup q, rfl⟩
  refine wpAny_bind (wpAny_lookBehind e' (by rw [d']; exact pastItsLine_dict (by simp only [List.map_cons, List.length_cons, List.length_map] at z'; rw [sizeLine_eq]; omega)) ?_)
  refine wpAny_pure ?_
  obtain ⟨o2, es2, ep2, f1, f2, f3, f4, f5⟩ := hn'
  exact k _ _ (S.upd hs f1 ⟨es2, ep2, f2, f3, f4, f5⟩)
theorem nsE.eqv {l l' : List (Str × Value)} {o : Obj} (p : nsE l o) (e : ∀ x, l.lookup x = l'.lookup x) : nsE l' o := by
  obtain ⟨es, ep, a, b, c, q⟩ := p
  exact ⟨es, ep, a, b, c, fun n => (q n).trans (e n)⟩
/-- the sorter's own names -/
noncomputable def sd (n r p f : Value) : List (Str × Value) := [("_node2info", n), ("_ready_nodes", r), ("_npassedout", p), ("_nfinished", f)]
theorem sd_r (n r p f v : Value) (x : Str) : ((("_ready_nodes" : Str), v) :: sd n r p f).lookup x = (sd n v p f).lookup x := by
  simp only [sd, List.lookup_cons]
  by_cases h : x = "_ready_nodes"
  · subst h; rfl
  · rw [beq_eq_false_iff_ne.mpr h]
theorem sd_p (n r p f v : Value) (x : Str) : ((("_npassedout" : Str), v) :: sd n r p f).lookup x = (sd n r v f).lookup x := by
  simp only [sd, List.lookup_cons]
  by_cases h : x = "_npassedout"
  · subst h; rfl
  · rw [beq_eq_false_iff_ne.mpr h]
theorem sd_f (n r p f v : Value) (x : Str) : ((("_nfinished" : Str), v) :: sd n r p f).lookup x = (sd n r p v).lookup x := by
  simp only [sd, List.lookup_cons]
  by_cases h : x = "_nfinished"
  · subst h; rfl
  · rw [beq_eq_false_iff_ne.mpr h]
end
end Mine

namespace Mine
open PySem PySem.Calls PyProof.Rows PySem.W Builtin Builtin.ObjectAttr Builtin.Getset_descriptor
abbrev nodeP (dx : Addr) (a b c : Value) : Obj → Prop := instP 68 dx [some a, some b, some c]
section
variable {K : Frag} {w : World} {A : Around} {E : Value → Shared → Prop} {H h : Heap} {G : Led} {env : Env} {g : Array GenState} {d : Drawn} {tk : Nat} {os : OsState} {x dx : Addr} {l : List (Str × Value)}
theorem instN {sl : List (Option Value)} (S : Sym H h G) (m1 : (x, instP 68 dx sl) ∈ G) (m2 : (dx, nsE l) ∈ G) : ∃ od, InstAt h x { cls := .ref 68, dict := some dx, data := .plain, slots := sl.toArray } 68 (some od) := by
  obtain ⟨od, e, p⟩ := S.get m2
  exact ⟨od, S.inst m1, rfl, rfl, e⟩
/-- a slot of a node is read; a slot is stored: the heap's facts bare -/
theorem getNr {name : Str} {p i : Nat} {sl : List (Option Value)} {v : Value} {b : Bool} {od : Obj} {Q : Value → Shared → Prop} (T : TopS K H) (S : Keeps H h) (hx : h.get? x = some { cls := .ref 68, dict := some dx, data := .plain, slots := sl.toArray }) (hdx : h.get? dx = some od)
    (hn : (name, p, i) ∈ ([("node", 69, 0), ("npredecessors", 70, 1), ("successors", 71, 2)] : List (Str × Addr × Nat))) (hv : (sl[i]?).join = some v)
    (k : ∀ tk', Q v ⟨h, g, d, tk', os⟩) (hh : handedIn v = true := by rfl) :
    wpAny (model pw w) A (getAttr (.ref x) name b) Q E ⟨h, g, d, tk, os⟩ := by
  have I : InstAt h x { cls := .ref 68, dict := some dx, data := .plain, slots := sl.toArray } 68 (some od) := ⟨hx, rfl, rfl, hdx⟩
  have X : K.In h := fun a o e => S a o (T.X a o e)
  obtain ⟨h1, h2, h3, h4⟩ := T.slotN _ hn
  refine get_bind (s := ⟨h, g, d, tk, os⟩) X I T.gaN (h4 _) T.haN (wpAny_call (slot_get (s := ⟨h, g, d, tk + 1, os⟩) X I h1 (by simpa using hv) ?_))
  exact handed_on hh (k _)
theorem setNr {name : Str} {p i : Nat} {sl : List (Option Value)} {v : Value} {od : Obj} {Q : Unit → Shared → Prop} (T : TopS K H) (S : Keeps H h) (hx : h.get? x = some { cls := .ref 68, dict := some dx, data := .plain, slots := sl.toArray }) (hdx : h.get? dx = some od)
    (hn : (name, p, i) ∈ ([("node", 69, 0), ("npredecessors", 70, 1), ("successors", 71, 2)] : List (Str × Addr × Nat))) {sl' : List (Option Value)}
    (he : (sl.toArray ++ Array.replicate (i + 1 - sl.toArray.size) none).setIfInBounds i (some v) = sl'.toArray)
    (k : ∀ h' tk', Heap.SameBut x h h' → h'.get? x = some { cls := .ref 68, dict := some dx, data := .plain, slots := sl'.toArray } → Q () ⟨h', g, d, tk', os⟩) :
    wpAny (model pw w) A (setAttr (.ref x) name v) Q E ⟨h, g, d, tk, os⟩ := by
  have I : InstAt h x { cls := .ref 68, dict := some dx, data := .plain, slots := sl.toArray } 68 (some od) := ⟨hx, rfl, rfl, hdx⟩
  have X : K.In h := fun a o e => S a o (T.X a o e)
  obtain ⟨h1, h2, h3, h4⟩ := T.slotN _ hn
  refine set_plain (s := ⟨h, g, d, tk, os⟩) X I T.saN ?_
  refine osa_descr (s := ⟨h, g, d, tk + 1, os⟩) KF.slot_mset X I T.poN h2 h3 ?_
  obtain ⟨n, tn, owner, behind, tb, dd, sl0, cd, ho, hc, hm, hb, rfl⟩ := slot_of X h1
  have L0 := I.type (M := model pw w)
  have L1 := looks_mroIn (M := model pw w) X hm
  have L2 : Looks (model pw w) h (Slots.slotNamesOf (.ref 68)) cd.slotNames := (looks_clsIn X hc).andThen .now
  have hx := I.at_
  have f0 := looks_field (M := model pw w) ho 0 (v := .str n tn) rfl
  have f1 := looks_field (M := model pw w) ho 1 (v := owner) rfl
  have f3 := looks_field (M := model pw w) ho 3 (v := .builtin "proto.slot#set") rfl
  have f4 := looks_field (M := model pw w) ho 4 (v := .int behind tb) rfl
  refine codeAny_call_builtin KF.slot_mset.plain KF.entry_mset (KF.slot_mset.check _ _ _ _ _ _ _ _ ⟨_, ho, rfl⟩ (KF.args_mset _ _ _) ?_)
  unfold Builtin.«member_descriptor.__set__» descrSet descrStoreThrough descrCheckInstance descrNameAndClass isInstance
  have f5 : Looks (model pw w) h (descrItself (.ref p)) [.ref p] := ((Looks.ld (part := none) ho).andThen .now).andThen (Looks.of_pure (by kernel_rfl))
  repeat lk
  refine ⟨Code.quiet_builtin _ (by decide +kernel), codeAny_builtin KF.entry_slotset ?_⟩
  unfold Builtin.«proto.slot#set» Slots.target
  repeat lk
  rw [if_neg hb]
  refine wpAny_pure (wpAny_bind ?_)
  unfold setSlotAt
  dsimp only
  have hi : cd.slotNames.length - 1 - behind.toNat < 3 := by
    have : ∀ q ∈ ([("node", 69, 0), ("npredecessors", 70, 1), ("successors", 71, 2)] : List (Str × Addr × Nat)), q.2.2 < 3 := by decide
    exact this _ hn
  rw [if_neg (by rw [sizeLine_eq]; omega)]
  refine wpAny_updatePart hx (wpAny_pure (k _ _ (Heap.SameBut.update _ _ _) ((Heap.get?_update_self _ hx rfl).trans (congrArg some ?_))))
  show Obj.mk _ _ _ _ = _
  rw [he]
theorem getN {name : Str} {p i : Nat} {sl : List (Option Value)} {v : Value} {b : Bool} {Q : Value → Shared → Prop} (T : TopS K H) (S : Sym H h G) (m1 : (x, instP 68 dx sl) ∈ G) (m2 : (dx, nsE l) ∈ G)
    (hn : (name, p, i) ∈ ([("node", 69, 0), ("npredecessors", 70, 1), ("successors", 71, 2)] : List (Str × Addr × Nat))) (hv : (sl[i]?).join = some v)
    (k : ∀ tk', Q v ⟨h, g, d, tk', os⟩) (hh : handedIn v = true := by rfl) :
    wpAny (model pw w) A (getAttr (.ref x) name b) Q E ⟨h, g, d, tk, os⟩ := by
  obtain ⟨od, e, _⟩ := S.get m2
  exact getNr T S.keep (S.inst m1) e hn hv k hh
theorem setN {name : Str} {p i : Nat} {sl : List (Option Value)} {v : Value} {Q : Unit → Shared → Prop} (T : TopS K H) (S : Sym H h ((x, instP 68 dx sl) :: G)) (m2 : (dx, nsE l) ∈ G)
    (hn : (name, p, i) ∈ ([("node", 69, 0), ("npredecessors", 70, 1), ("successors", 71, 2)] : List (Str × Addr × Nat))) {sl' : List (Option Value)}
    (he : (sl.toArray ++ Array.replicate (i + 1 - sl.toArray.size) none).setIfInBounds i (some v) = sl'.toArray)
    (k : ∀ h' tk', Sym H h' ((x, instP 68 dx sl') :: G) → Q () ⟨h', g, d, tk', os⟩) :
    wpAny (model pw w) A (setAttr (.ref x) name v) Q E ⟨h, g, d, tk, os⟩ := by
  obtain ⟨od, e, _⟩ := S.get (.tail _ m2)
  exact setNr T S.keep (S.inst (.head _)) e hn he fun h' tk' q1 q2 => k h' tk' (S.upd q1 q2 rfl)
end
end Mine

namespace Mine
open PySem PySem.Calls PyProof.Rows PySem.W
section
variable {K : Frag} {w : World} {A : Around} {E : Value → Shared → Prop} {H h : Heap} {G : Led} {env : Env} {g : Array GenState} {d : Drawn} {tk : Nat} {os : OsState} {x dx : Addr} {l ls : List (Str × Value)}
theorem evalArgsP {M : Model} {f : Value} {args : List Expr} {Q : Args → Shared → Prop} {s : Shared} (k : wpAny M A (spliced (plainArgs env args)) (fun vs s' => Q ⟨vs, []⟩ s') E s) : wpAny M A (evalArgs f true (plainArgs env args) []) Q E s := by
  cases args with
  | nil =>
    unfold evalArgs
    show wpAny M A (spliced [] >>= _) Q E s
    refine wpAny_bind (wpAny_mono k (fun vs s' q => ?_) fun _ _ q => q)
    refine wpAny_bind (wpAny_pure ?_)
    refine wpAny_holding ?_
    exact wpAny_bind (wpAny_pure (wpAny_bind (wpAny_pure (wpAny_pure q))))
  | cons e r => exact evalArgs_plain k
/-- a method of the sorter is called -/
theorem eMeth {n name : Str} {np apos pos : Pos} {args : List Expr} {f : Addr} {fd : FuncData} {Q : Value → Shared → Prop} (T : TopS K H) (S : Sym H h ((env.locals, nsP l) :: G)) (hv : l.lookup n = some (.ref x))
    (m1 : (x, instP 165 dx []) ∈ G) (m2 : (dx, nsE ls) ∈ G) (hsh : ls.lookup name = none)
    (hf : (name, f) ∈ ([("_get_nodeinfo", 108), ("add", 115), ("prepare", 120), ("get_ready", 127), ("is_active", 134), ("done", 148), ("_find_cycle", 155)] : List (Str × Addr))) (hfd : FnAt H f fd)
    (k : wpAny (model pw w) A (spliced (plainArgs env args)) (fun vs s₂ => Keeps H s₂.heap ∧ wpAny (model pw w) A (call (.ref f) (.ref x :: vs)) Q E s₂) E ⟨h, g, d, tk, os⟩)
    (hs : backTo pos (starEach args env) = plainArgs env args := by rfl) (hform : methodCallForm (args.length + 0) (plainArgs env args) [] = true := by rfl) (hline : (apos.endLine == pos.line) = true := by rfl)
    (hk : env.scope.kind = .function := by rfl) (hl : env.kindOf n = some .local := by rfl) (hd : (n == ("__debug__" : Str)) = false := by decide) :
    wpAny (model pw w) A (eval (.Call (.Attribute (.Name n np) name apos) args [] pos) env) Q E ⟨h, g, d, tk, os⟩ := by
  obtain ⟨ox, od, I, hx, p⟩ := instD S (.tail _ m1) (.tail _ m2)
  obtain ⟨h1, h2⟩ := T.methT _ hf
  obtain ⟨o, ho, hfo⟩ := hfd.at_
  show wpAny _ _ (do
    let ov ← attributeBase (.Name n np) name env (eval (.Name n np) env)
    standAt apos.atName
    methodCall (.Name n np) name apos pos env ov (args.length + 0) (backTo pos (starEach args env)) []) _ _ _
  refine wpAny_bind (ldL S hv ?_ hk hl hd)
  refine wpAny_bind (wpAny_standAt ?_)
  rw [hs]
  unfold methodCall calleeOf
  rw [hform]
  refine wpAny_bind (wpAny_holding (method_fn (s := ⟨h, g, d, tk, os⟩) (S.X T) I T.gaT T.haT h1 h2 ?_ ?_))
  · unfold shadowIn
    show Option.map _ (lookIn name od) = _
    rw [lookIn_of p, hsh]; rfl
  · have hpos : methodCallPos true (.Name n np) env apos pos = pure pos := by unfold methodCallPos; simp [hline]
    refine wpAny_bind (wpAny_of_eq hpos ?_)
    refine callWith_function (o := o) (fd := fd) (evalArgsP (wpAny_mono k (fun vs s₂ q => ?_) fun _ _ q => q))
    exact ⟨⟨q.1 _ _ ho, hfo⟩, q.2⟩
end
end Mine

namespace Mine
open PySem PySem.Calls PyProof.Rows PySem.W
noncomputable def mthOf (i : Nat) (j : Nat) (qual : Str) (dV : Value) (cd : Addr) : FuncData := fdOf (clsBody pw.main.body[i]?)[j]? qual dV (.str "cpy313.graphlib" 238) cd
noncomputable def fdNInit : FuncData := mthOf 10 1 "_NodeInfo.__init__" .none 63
noncomputable def fdTInit : FuncData := mthOf 12 0 "TopologicalSorter.__init__" (.ref 94) 100
noncomputable def fdGet : FuncData := mthOf 12 1 "TopologicalSorter._get_nodeinfo" .none 107
noncomputable def fdAdd : FuncData := mthOf 12 2 "TopologicalSorter.add" .none 114
noncomputable def fdPrep : FuncData := mthOf 12 3 "TopologicalSorter.prepare" .none 119
noncomputable def fdReady : FuncData := mthOf 12 4 "TopologicalSorter.get_ready" .none 126
noncomputable def fdActive : FuncData := mthOf 12 5 "TopologicalSorter.is_active" .none 133
noncomputable def fdDone : FuncData := mthOf 12 7 "TopologicalSorter.done" .none 147
noncomputable def fdCyc : FuncData := mthOf 12 8 "TopologicalSorter._find_cycle" .none 154
structure TopF (K : Frag) (H : Heap) : Prop extends TopS K H where
  nInit : FnAt H 64 fdNInit
  tInit : FnAt H 101 fdTInit
  fget : FnAt H 108 fdGet
  fadd : FnAt H 115 fdAdd
  fprep : FnAt H 120 fdPrep
  fready : FnAt H 127 fdReady
  factive : FnAt H 134 fdActive
  fdone : FnAt H 148 fdDone
  fcyc : FnAt H 155 fdCyc
  keepC : ∀ a ∈ ([68, 83, 165] : List Addr), keepIn K (.ref a) = true
  dflt : ∃ n, H.get? 94 = some { cls := .type "tuple", data := .seq #[.none] n }

section
variable {K : Frag} {w : World} {A : Around} {E : Value → Shared → Prop} {H h : Heap} {G : Led} {env : Env} {g : Array GenState} {d : Drawn} {tk : Nat} {os : OsState} {x dx : Addr} {l ls : List (Str × Value)}
theorem eNil {pos : Pos} {Q : Value → Shared → Prop} (S : Sym H h G) (k : ∀ a h', Sym H h' ((a, lstP []) :: G) → Q (.ref a) ⟨h', g, d, tk, os⟩) : wpAny (model pw w) A (eval (.List [] pos) env) Q E ⟨h, g, d, tk, os⟩ :=
  List_ (spliced_nil (wpAny_newList (k _ _ (S.push rfl ⟨0, rfl⟩))))
theorem nsE_empty : nsE [] emptyDict := ⟨#[], 0, rfl, fun _ he => by simp at he, List.Pairwise.nil, fun _ => rfl⟩
/-- a node is made -/
theorem mkNode {v : Value} {Q : Value → Shared → Prop} (T : TopF K H) (hd : A.depth + 2 < recursionLimit) (S : Sym H h G)
    (k : ∀ h' tk' ia da sa t, Sym H h' ((ia, nodeP da v (.int 0 t) (.ref sa)) :: (da, nsE []) :: (sa, lstP []) :: G) → Q (.ref ia) ⟨h', g, d, tk', os⟩) :
    wpAny (model pw w) A (call (.ref 68) [v]) Q E ⟨h, g, d, tk, os⟩ := by
  refine wpAny_call (make_core (makes_of (S.X T.toTopS) T.mkN) (looks_findIn (S.X T.toTopS) T.iniN.1) (fun self => bind_fn (S.X T.toTopS) self T.iniN.2) (.inl rfl) ?_)
  have S1 : Sym H (h.push emptyDict) ((h.objs.size, nsE []) :: G) := S.push rfl nsE_empty
  have S2 : Sym H ((h.push emptyDict).push (instObj 68 h.objs.size)) ((h.objs.size + 1, instP 68 h.objs.size []) :: (h.objs.size, nsE []) :: G) := by
    have := S1.push (o := instObj 68 h.objs.size) (P := instP 68 h.objs.size []) rfl rfl
    rwa [Heap.size_push] at this
  refine callFc T.nInit T.lim (by rw [depth_under_kw]; omega) S2 (BindsTo.of_eq rfl) fun h3 L tk3 S3 => ?_
  have S3 := S3.renm (l' := [("self", .ref (h.objs.size + 1)), ("node", v)]) ⟨rfl, rfl, trivial⟩
  refine wpAny_execs_cons (plainObj_wpAny_Assign_Attribute (ldL S3 rfl (ldL S3 rfl (setN (p := 69) (i := 0) (l := []) (sl' := [some v]) T.toTopS S3.swap (by simp) (by decide) (by simp) fun h4 tk4 S4 => ?_))))
  have S4 := S4.swap
  refine wpAny_execs_cons (plainObj_wpAny_Assign_Attribute (cInt fun t5 tk5 => ldL S4 rfl (setN (p := 70) (i := 1) (l := []) (sl' := [some v, some (.int 0 t5)]) T.toTopS S4.swap (by simp) (by decide) (by simp) fun h6 tk6 S6 => ?_)))
  have S6 := S6.swap
  refine wpAny_execs_cons (plainObj_wpAny_Assign_Attribute (eNil S6 fun sa h7 S7 => ?_))
  have S7 := S7.swap
  refine ldL S7 rfl (setN (p := 71) (i := 2) (l := []) (sl' := [some v, some (.int 0 t5), some (.ref sa)]) T.toTopS (S7.front 2 rfl) (by simp) (by decide) (by simp) fun h8 tk8 S8 => ?_)
  refine wpAny_execs_nil ⟨rfl, k h8 tk8 _ h.objs.size sa t5 ?_⟩
  exact (S8.sub (G' := (h.objs.size + 1, nodeP h.objs.size v (.int 0 t5) (.ref sa)) :: (sa, lstP []) :: (h.objs.size, nsE []) :: G) (List.Sublist.cons₂ _ (List.Sublist.cons _ (List.Sublist.refl _)))).perm (List.Perm.cons _ (List.Perm.swap _ _ _))
/-- a class of the text is called with plain arguments -/
theorem eCallC {y : Str} {p pos : Pos} {e : Expr} {args : List Expr} {a : Addr} {Q : Value → Shared → Prop} (T : TopF K H) (S : Keeps H h) (ha : a ∈ ([68, 83, 165] : List Addr)) (hv : globTab.lookup y = some (.ref a))
    (k : wpAny (model pw w) A (spliced (plainArgs env (e :: args))) (fun vs s₁ => Keeps H s₁.heap ∧ wpAny (model pw w) A (call (.ref a) vs) Q E s₁) E ⟨h, g, d, tk, os⟩)
    (hs : backTo pos (starEach (e :: args) env) = plainArgs env (e :: args) := by rfl) (he : starEach (e :: args) env = (false, eval e env) :: starEach args env := by rfl) (hplain : (backTo pos (starEach args env)).any (·.1) = false := by rfl)
    (hk : env.scope.kind = .function := by rfl) (hl : env.kindOf y = some .globalImplicit := by rfl) (hg : env.globals = 3 := by rfl) (hd : (y == ("__debug__" : Str)) = false := by decide) :
    wpAny (model pw w) A (eval (.Call (.Name y p) (e :: args) [] pos) env) Q E ⟨h, g, d, tk, os⟩ := by
  refine wpAny_Call_Name_kw (ldG T.toGlobs S hv ?_ hk hl hg hd)
  refine callWith_K (h₀ := H) T.X (T.keepC a ha) ?_ he hplain
  rw [hs]
  exact wpAny_mono k (fun vs s₁ q => ⟨fun b o e => q.1 b o (T.X b o e), q.2⟩) fun _ _ q => q
theorem eCallC0 {y : Str} {p pos : Pos} {a : Addr} {Q : Value → Shared → Prop} (T : TopF K H) (S : Keeps H h) (ha : a ∈ ([68, 83, 165] : List Addr)) (hv : globTab.lookup y = some (.ref a))
    (k : wpAny (model pw w) A (call (.ref a) []) Q E ⟨h, g, d, tk, os⟩)
    (hk : env.scope.kind = .function := by rfl) (hl : env.kindOf y = some .globalImplicit := by rfl) (hg : env.globals = 3 := by rfl) (hd : (y == ("__debug__" : Str)) = false := by decide) :
    wpAny (model pw w) A (eval (.Call (.Name y p) [] [] pos) env) Q E ⟨h, g, d, tk, os⟩ := by
  refine wpAny_Call_Name_kw (ldG T.toGlobs S hv ?_ hk hl hg hd)
  exact callWith_K0 (fun b o e => S b o (T.X b o e)) (T.keepC a ha) k
end
end Mine

namespace Mine
open PySem PySem.Calls PyProof.Rows PySem.W

/-- values that are the names of these jobs -/
inductive Names : List Value → List Nat → Prop
  | nil : Names [] []
  | cons {t : Tok} {c : Nat} {vs : List Value} {cs : List Nat} : Names vs cs → Names (.str (nm c) t :: vs) (c :: cs)
theorem Names.length {vs : List Value} {cs : List Nat} (h : Names vs cs) : vs.length = cs.length := by
  induction h with
  | nil => rfl
  | cons _ ih => simp [ih]
theorem Names.append {vs us : List Value} {cs ds : List Nat} (h : Names vs cs) (k : Names us ds) : Names (vs ++ us) (cs ++ ds) := by
  induction h with
  | nil => exact k
  | cons _ ih => exact .cons ih
theorem Names.snoc {vs : List Value} {cs : List Nat} (h : Names vs cs) (c : Nat) (t : Tok) : Names (vs ++ [.str (nm c) t]) (cs ++ [c]) := h.append (.cons .nil)
theorem Names.get {vs : List Value} {cs : List Nat} (h : Names vs cs) : ∀ {i : Nat} {v : Value}, vs[i]? = some v → ∃ c t, cs[i]? = some c ∧ v = .str (nm c) t := by
  induction h with
  | nil => intro i v e; simp at e
  | @cons t c vs cs h ih =>
    intro i v e
    cases i with
    | zero => simp at e; exact ⟨c, t, by simp, e.symm⟩
    | succ i => simp at e; simpa using ih e
theorem Names.get' {vs : List Value} {cs : List Nat} (h : Names vs cs) : ∀ {i : Nat} {c : Nat}, cs[i]? = some c → ∃ t, vs[i]? = some (.str (nm c) t) := by
  induction h with
  | nil => intro i v e; simp at e
  | @cons t c vs cs h ih =>
    intro i v e
    cases i with
    | zero => simp at e; exact ⟨t, by simp [e]⟩
    | succ i => simp at e ⊢; exact ih e
theorem nm_inj {a b : Nat} (h : nm a = nm b) : a = b := by
  have := congrArg (fun s : Str => s.cps.toList) h
  simp [nm] at this; omega
/-- a list of names -/
noncomputable def lnP (cs : List Nat) (o : Obj) : Prop := ∃ vs, lstP vs o ∧ Names vs cs
noncomputable def dctP (w : World) (kvs : List (Str × Value)) (o : Obj) : Prop := o.IsDictOf (strKind pw w) kvs

structure NodeR where
  c : Nat
  ia : Addr
  da : Addr
  sa : Addr
  np : Int
  su : List Nat
noncomputable def NodeR.abs (r : NodeR) : Nat × Int × List Nat := (r.c, r.np, r.su)
noncomputable def nodeQ (r : NodeR) (o : Obj) : Prop := ∃ t1 t2, nodeP r.da (.str (nm r.c) t1) (.int r.np t2) (.ref r.sa) o
noncomputable def NodeR.ent (r : NodeR) : Led := [(r.ia, nodeQ r), (r.da, nsE []), (r.sa, lnP r.su)]
noncomputable def famL (fam : List NodeR) : Led := fam.flatMap NodeR.ent
noncomputable def kvsOf (fam : List NodeR) : List (Str × Value) := fam.map fun r => (nm r.c, .ref r.ia)

noncomputable def repl (a : Addr) (P : Obj → Prop) (q : Addr × (Obj → Prop)) : Addr × (Obj → Prop) := if q.1 = a then (a, P) else q
theorem map_repl_id {G : Led} {a : Addr} {P : Obj → Prop} (h : a ∉ G.map (·.1)) : G.map (repl a P) = G := by
  conv => rhs; rw [← List.map_id G]
  refine List.map_congr_left fun q hq => ?_
  unfold repl
  rw [if_neg fun e => h (List.mem_map.mpr ⟨q, hq, e⟩)]; rfl
/-- one node turned in a family -/
theorem fam_repl {c : Nat} {u : NodeR → NodeR} {a : Addr} {P : Obj → Prop} {r₀ : NodeR} (hc : r₀.c = c) (ha : a ∈ r₀.ent.map (·.1)) (hu : (r₀.ent).map (repl a P) = (u r₀).ent) :
    ∀ {fam : List NodeR}, ((famL fam).map (·.1)).Nodup → (fam.map (·.c)).Nodup → r₀ ∈ fam → (famL fam).map (repl a P) = famL (fam.map fun r => if r.c = c then u r else r)
  | r :: fam, nd, nc, hm => by
    have e : famL (r :: fam) = r.ent ++ famL fam := rfl
    rw [e, List.map_append] at nd
    obtain ⟨n1, n2, n3⟩ := List.nodup_append.mp nd
    rw [List.map_cons, List.nodup_cons] at nc
    rw [e, List.map_append, List.map_cons]
    show _ = NodeR.ent _ ++ famL _
    cases hm with
    | head =>
      rw [if_pos hc, hu]
      congr 1
      rw [map_repl_id fun h => n3 a ha a h rfl]
      congr 1
      conv => lhs; rw [← List.map_id fam]
      refine List.map_congr_left fun q hq => ?_
      rw [if_neg fun h => nc.1 (List.mem_map.mpr ⟨q, hq, h.trans hc.symm⟩)]; rfl
    | tail _ hm =>
      have hne : ¬ r.c = c := fun h => nc.1 (List.mem_map.mpr ⟨r₀, hm, hc.trans h.symm⟩)
      have ham : a ∈ (famL fam).map (·.1) := by
        obtain ⟨q, hq, rfl⟩ := List.mem_map.mp ha
        exact List.mem_map.mpr ⟨q, List.mem_flatMap.mpr ⟨r₀, hm, hq⟩, rfl⟩
      rw [if_neg hne, map_repl_id fun h => n3 a h a ham rfl, fam_repl hc ha hu n2 nc.2 hm]
section
variable {K : Frag} {w : World} {A : Around} {E : Value → Shared → Prop} {H h h' : Heap} {G : Led} {env : Env} {g : Array GenState} {d : Drawn} {tk : Nat} {os : OsState} {x dx : Addr} {l ls : List (Str × Value)}
/-- one node of a family turned in the heap -/
theorem Sym.famUpd {c : Nat} {u : NodeR → NodeR} {a : Addr} {P P' : Obj → Prop} {r₀ : NodeR} {fam : List NodeR} {pre : Led} {o : Obj} (S : Sym H h (pre ++ (famL fam ++ G))) (nc : (fam.map (·.c)).Nodup) (hm : r₀ ∈ fam) (hc : r₀.c = c)
    (ha : (a, P) ∈ r₀.ent) (hu : (r₀.ent.map (·.1)).Nodup → (r₀.ent).map (repl a P') = (u r₀).ent) (k : Heap.SameBut a h h') (e : h'.get? a = some o) (hp : P' o) :
    Sym H h' (pre ++ (famL (fam.map fun r => if r.c = c then u r else r) ++ G)) := by
  have hin : (a, P) ∈ famL fam := List.mem_flatMap.mpr ⟨r₀, hm, ha⟩
  have nd := S.nd
  rw [List.map_append, List.map_append] at nd
  obtain ⟨n1, n2, n3⟩ := List.nodup_append.mp nd
  obtain ⟨n4, n5, n6⟩ := List.nodup_append.mp n2
  have hina : a ∈ (famL fam).map (·.1) := List.mem_map.mpr ⟨_, hin, rfl⟩
  have S' := S.updMem (P' := P') (List.mem_append_right _ (List.mem_append_left _ hin)) k e hp
  have e1 : (pre ++ (famL fam ++ G)).map (repl a P') = pre ++ (famL (fam.map fun r => if r.c = c then u r else r) ++ G) := by
    rw [List.map_append, List.map_append, map_repl_id fun h => n3 a h a (List.mem_append_left _ hina) rfl, map_repl_id (G := G) fun h => n6 a hina a h rfl]
    rw [fam_repl hc (List.mem_map.mpr ⟨_, ha, rfl⟩) (hu ?_) n4 nc hm]
    have sub : (r₀.ent.map (·.1)).Sublist ((famL fam).map (·.1)) := by
      refine List.Sublist.map _ ?_
      obtain ⟨s, t, rfl⟩ := List.append_of_mem hm
      unfold famL
      rw [List.flatMap_append, List.flatMap_cons]
      exact (List.sublist_append_left _ _).trans (List.sublist_append_right _ _)
    exact n4.sublist sub
  rw [← e1]
  exact S'
theorem Sym.famGet {r₀ : NodeR} {fam : List NodeR} {a : Addr} {P : Obj → Prop} (hm : r₀ ∈ fam) (ha : (a, P) ∈ r₀.ent) (pre : Led) : (a, P) ∈ pre ++ (famL fam ++ G) :=
  List.mem_append_right _ (List.mem_append_left _ (List.mem_flatMap.mpr ⟨r₀, hm, ha⟩))
end
end Mine

namespace Mine
open PySem PySem.Calls PyProof.Rows PySem.W
/-- the sorter's part of the ledger -/
noncomputable def sortL (w : World) (x dx nd : Addr) (r : Value) (p : Int) (t1 : Tok) (f : Int) (t2 : Tok) (fam : List NodeR) : Led :=
  (x, instP 165 dx []) :: (dx, nsE (sd (.ref nd) r (.int p t1) (.int f t2))) :: (nd, dctP w (kvsOf fam)) :: famL fam
theorem famL_app (a b : List NodeR) : famL (a ++ b) = famL a ++ famL b := by simp [famL]
theorem famL_cons (a : NodeR) (b : List NodeR) : famL (a :: b) = a.ent ++ famL b := by simp [famL]
theorem famL_nil : famL [] = [] := rfl
theorem locals_eq (fd : FuncData) (L a : Addr) : (callEnv fd L a).locals = L := rfl
theorem perm_sum {α : Type} {G G' : List α} (h : ∀ f : α → Nat, (G.map f).sum = (G'.map f).sum) : G.Perm G' := by
  classical
  rw [List.perm_iff_count]
  intro a
  have := h fun x => if x == a then 1 else 0
  have key : ∀ l : List α, (l.map fun x => if x == a then 1 else 0).sum = l.count a := by
    intro l
    induction l with
    | nil => rfl
    | cons x l ih => rw [List.map_cons, List.sum_cons, List.count_cons, ih, Nat.add_comm]
  rw [key, key] at this
  exact this
theorem asgSub {M : Model} {A : Around} {E : Value → Shared → Prop} {s : Shared} {env : Env} {o i : Expr} {pos : Pos} {v : Value} {Q : Unit → Shared → Prop}
    (h : wpAny M A (eval o env) (fun ov s₂ => wpAny M A (eval i env) (fun iv s₃ => wpAny M A (setItem ov iv v) Q E s₃) E s₂) E s) : wpAny M A (assign (.Subscript o i pos) env v) Q E s := fun Γ p hΓ => by
  simp only [assign_Subscript, Sem.wp_bind', Sem.wp_holding, Sem.wp_cmd_standAt, Sem.wp_release, Sem.wp_pure']
  exact Sem.wp_mono M Γ _ (fun ov p₂ s₂ h₂ => Sem.wp_mono M Γ _ (fun iv _ s₃ h₃ => h₃ Γ _ hΓ) (fun _ _ _ h' => h') _ _ (h₂ Γ p₂ hΓ)) (fun _ _ _ h' => h') _ _ (h Γ p hΓ)
section
variable {K : Frag} {w : World} {A : Around} {E : Value → Shared → Prop} {H h h' : Heap} {G : Led} {env : Env} {g : Array GenState} {d : Drawn} {tk : Nat} {os : OsState} {a x dx : Addr} {l ls kvs : List (Str × Value)}
theorem Sym.dict (S : Sym H h G) (m : (a, dctP w kvs) ∈ G) : h.DictOf (strKind pw w) a kvs := by
  obtain ⟨o, e, p⟩ := S.get m
  exact Heap.dictOf_iff.mpr ⟨o, e, p⟩
theorem Sym.dictUpd {kvs' : List (Str × Value)} (S : Sym H h ((a, dctP w kvs) :: G)) (k : Heap.SameBut a h h') (q : h'.DictOf (strKind pw w) a kvs') : Sym H h' ((a, dctP w kvs') :: G) := by
  obtain ⟨o, e, p⟩ := Heap.dictOf_iff.mp q
  exact S.upd k e p
theorem dGetItem {key : Str} {t : Tok} {v : Value} {Q : Value → Shared → Prop} (S : Sym H h G) (m : (a, dctP w kvs) ∈ G) (hv : valueAt kvs key = some v) (k : ∀ tk', Q v ⟨h, g, d, tk', os⟩) :
    wpAny (model pw w) A (getItem (.ref a) (.str key t)) Q E ⟨h, g, d, tk, os⟩ :=
  wpAny_getItem_of (s := ⟨h, g, d, tk, os⟩) (strKind_is pw w key t) (S.dict m).mapOf hv (k _)
theorem dSub {value slice : Expr} {key : Str} {t : Tok} {v : Value} {Q : Value → Shared → Prop} (S : Sym H h G) (m : (a, dctP w kvs) ∈ G) (hv : valueAt kvs key = some v) (k : ∀ tk', Q v ⟨h, g, d, tk', os⟩)
    (hs : subscripted slice false (.ref a) (.str key t) = operate [.ref a, .str key t] (getItem (.ref a) (.str key t)) := by with_unfolding_all rfl) (ht : ∀ r, letTemporaryGo value (.ref a) r = pure () := by intro _; with_unfolding_all rfl) :
    wpAny (model pw w) A (subscriptTail value slice (.ref a) (.str key t)) Q E ⟨h, g, d, tk, os⟩ :=
  subscriptTail_builtin (s := ⟨h, g, d, tk, os⟩) (S.dict m).typeIs slot_dict_getitem.lookup (dGetItem S m hv k) hs ht
theorem dSetItem {key : Str} {t : Tok} {v : Value} {Q : Unit → Shared → Prop} (S : Sym H h ((a, dctP w kvs) :: G)) (hl : kvs.length ≤ 1000) (k : ∀ h' tk', Sym H h' ((a, dctP w (stored kvs key v)) :: G) → Q () ⟨h', g, d, tk', os⟩) :
    wpAny (model pw w) A (setItem (.ref a) (.str key t) v) Q E ⟨h, g, d, tk, os⟩ :=
  wpAny_setItem_pairs (s := ⟨h, g, d, tk, os⟩) (strKind_is pw w key t) (S.dict (.head _)) (fun h' q1 q2 => k h' _ (S.dictUpd q2 q1)) (by rw [sizeLine_eq]; omega)
theorem Sym.notMods (S : Sym H h G) (hm : ∃ o, H.get? sysModules = some o) {P} (m : (a, P) ∈ G) : (a == sysModules) = false := by
  refine beq_eq_false_iff_ne.mpr fun e => ?_
  obtain ⟨o, q⟩ := hm
  have := S.new _ m
  dsimp only at this
  rw [e, q] at this; cases this
/-- `d.get(key)` -/
theorem dGet1 {o e : Expr} {apos pos : Pos} {Q : Value → Shared → Prop} (hm : ∃ o, H.get? sysModules = some o)
    (k : wpAny (model pw w) A (eval o env) (fun ov s₁ => ∃ a, ov = .ref a ∧ (∃ G kvs, Sym H s₁.heap G ∧ (a, dctP w kvs) ∈ G) ∧ wpAny (model pw w) A (eval e env) (fun kv s₂ => ∃ G kvs key t, kv = .str key t ∧ Sym H s₂.heap G ∧ (a, dctP w kvs) ∈ G ∧
      ∀ tk', Q ((valueAt kvs key).getD .none) { s₂ with toks := tk' }) E s₁) E ⟨h, g, d, tk, os⟩)
    (hbase : attributeBase o "get" env (eval o env) = eval o env := by rfl) (hline : (apos.endLine == pos.line) = true := by rfl)
    (htrees : backTo pos (starEach [e] env) = [(false, eval e env)] := by rfl) :
    wpAny (model pw w) A (eval (.Call (.Attribute o "get" apos) [e] [] pos) env) Q E ⟨h, g, d, tk, os⟩ := by
  refine wpAny_Call_method1_late hbase hline htrees (wpAny_mono k (fun ov s₁ h₁ => ?_) fun _ _ x => x)
  obtain ⟨a, rfl, ⟨G, kvs, S, m⟩, h₁⟩ := h₁
  refine ⟨"dict", "dict.get", F.plainAttrs_dict, F.slot_dict_get, by rfl, (S.dict m).typeIs, (S.dict m).mapOf.noDict, wpAny_dict_get1 (knd := strKind pw w) (S.notMods hm m) (wpAny_mono h₁ (fun kv s₂ h₂ => ?_) fun _ _ x => x)⟩
  obtain ⟨G', kvs', key, t, rfl, S', m', q⟩ := h₂
  exact ⟨key, valueAt kvs', strKind_is pw w key t, (S'.dict m').mapOf, q _⟩
end
theorem valueAt_fam (fam : List NodeR) (c : Nat) : valueAt (kvsOf fam) (nm c) = (fam.find? fun r => r.c = c).map fun r => .ref r.ia := by
  unfold valueAt kvsOf
  induction fam with
  | nil => rfl
  | cons r fam ih =>
    rw [List.map_cons, List.find?_cons, List.find?_cons]
    by_cases h : r.c = c
    · simp [h]
    · have : ¬ nm r.c = nm c := fun e => h (nm_inj e)
      simp only [h, this, decide_false]
      exact ih
abbrev AS := List (Nat × Int × List Nat)
noncomputable def ensure (c : Nat) (s : AS) : AS := if c ∈ s.map (·.1) then s else s ++ [(c, 0, [])]
structure TopM (K : Frag) (H : Heap) : Prop extends TopF K H where
  mods : ∃ o, H.get? sysModules = some o
section
variable {K : Frag} {w : World} {A : Around} {E : Value → Shared → Prop} {H h h' : Heap} {G : Led} {env : Env} {g : Array GenState} {d : Drawn} {tk : Nat} {os : OsState} {a x dx nd : Addr} {r : Value} {p f : Int} {t1 t2 : Tok} {fam : List NodeR}
theorem get_spec {c : Nat} {t : Tok} {Q : Value → Shared → Prop} (T : TopM K H) (hd : A.depth + 3 < recursionLimit) (S : Sym H h (sortL w x dx nd r p t1 f t2 fam ++ G)) (nc : (fam.map (·.c)).Nodup) (hl : fam.length ≤ 100)
    (k : ∀ h' tk' fam' r₀, fam'.map (·.abs) = ensure c (fam.map (·.abs)) → (fam'.map (·.c)).Nodup → r₀ ∈ fam' → r₀.c = c → Sym H h' (sortL w x dx nd r p t1 f t2 fam' ++ G) → Q (.ref r₀.ia) ⟨h', g, d, tk', os⟩) :
    wpAny (model pw w) A (call (.ref 108) [.ref x, .str (nm c) t]) Q E ⟨h, g, d, tk, os⟩ := by
  refine callF T.fget T.lim (lt_z hd) S (BindsTo.of_eq rfl) fun h1 L tk1 S1 => ?_
  have S1 := S1.renm (l' := [("self", .ref x), ("node", .str (nm c) t)]) ⟨rfl, rfl, trivial⟩
  refine wpAny_execs_cons (wpAny_If (wpAny_isTrue_Compare1 (wpAny_NamedExpr (dGet1 T.mods (Attribute_any_ (ldL S1 rfl (getD T.toTopS S1 (.tail _ (.head _)) (.tail _ (.tail _ (.head _))) rfl fun tk2 =>
    ⟨nd, rfl, ⟨_, _, S1, .tail _ (.tail _ (.tail _ (.head _)))⟩, ldL S1 rfl ⟨_, _, nm c, t, rfl, S1, .tail _ (.tail _ (.tail _ (.head _))), fun tk3 => wpAny_assign_Name (stL S1 fun h4 tk4 S4 => ?_)⟩⟩)))))))
  refine Constant_none (is_none ?_)
  have hget : (valueAt (kvsOf fam) (nm c)).getD .none = ((fam.find? fun r => r.c = c).map fun r => Value.ref r.ia).getD .none := by rw [valueAt_fam]
  rw [hget] at S4 ⊢
  refine wpAny_truthy_bool ?_
  cases hf : fam.find? fun r => r.c = c with
  | some r₀ =>
    rw [hf] at S4
    have S4 : Sym H h4 ((L, nsP [("result", .ref r₀.ia), ("self", .ref x), ("node", .str (nm c) t)]) :: (sortL w x dx nd r p t1 f t2 fam ++ G)) := S4
    refine itF rfl (wpAny_execs_nil ?_)
    have hm : r₀ ∈ fam := List.mem_of_find?_eq_some hf
    have hc : r₀.c = c := by simpa using List.find?_some hf
    refine wpAny_execs_cons (wpAny_Return_some (ldL S4 rfl (k _ _ fam r₀ ?_ nc hm hc S4.tail)))
    unfold ensure
    rw [if_pos]
    exact List.mem_map.mpr ⟨r₀.abs, List.mem_map.mpr ⟨r₀, hm, rfl⟩, hc⟩
  | none =>
    rw [hf] at S4
    have hno : ∀ r ∈ fam, ¬ r.c = c := fun r hr => by simpa using List.find?_eq_none.mp hf r hr
    have S4 : Sym H h4 ((L, nsP [("result", .none), ("self", .ref x), ("node", .str (nm c) t)]) :: (sortL w x dx nd r p t1 f t2 fam ++ G)) := S4
    refine itT rfl ?_
    refine wpAny_execs_cons (wpAny_Assign_two (eCallC T.toTopF S4.keep (by decide) rfl (spliced_cons (ldL S4 rfl (spliced_nil ⟨S4.keep, mkNode T.toTopF (by exact (show A.depth + 3 < _ from lt_w hd)) S4 fun h5 tk5 ia da sa t5 S5 => ?_⟩)))))
    have S5 := S5.front 3 rfl
    refine asgSub (Attribute_any_ (ldL S5 rfl (getD T.toTopS S5 (.tail _ (.tail _ (.tail _ (.tail _ (.head _))))) (.tail _ (.tail _ (.tail _ (.tail _ (.tail _ (.head _)))))) rfl fun tk6 => ldL S5 rfl ?_)))
    have S6 := S5.front 6 rfl
    refine dSetItem S6 (by simp [kvsOf]; omega) fun h7 tk7 S7 => ?_
    have e7 : stored (kvsOf fam) (nm c) (.ref ia) = kvsOf (fam ++ [⟨c, ia, da, sa, 0, []⟩]) := by
      unfold stored
      rw [if_neg]
      · simp [kvsOf]
      · simp only [List.any_eq_true, decide_eq_true_eq]
        rintro ⟨kv, hkv, e⟩
        obtain ⟨r, hr, rfl⟩ := List.mem_map.mp hkv
        exact hno r hr (nm_inj e)
    rw [e7] at S7
    have S8 : Sym H h7 ((L, nsP [("result", .none), ("self", .ref x), ("node", .str (nm c) t)]) :: (ia, nodeP da (.str (nm c) t) (.int 0 t5) (.ref sa)) :: (sa, lstP []) :: (da, nsE []) :: (x, instP 165 dx []) :: (dx, nsE (sd (.ref nd) r (.int p t1) (.int f t2))) :: (nd, dctP w (kvsOf (fam ++ [⟨c, ia, da, sa, 0, []⟩]))) :: (famL fam ++ G)) :=
      S7.perm (by (refine perm_sum fun _ => ?_; (try simp only [locals_eq, List.append_eq, sortL, famL_app, famL_cons, famL_nil, NodeR.ent, List.cons_append, List.nil_append, List.append_assoc, List.eraseIdx_cons_succ, List.eraseIdx_cons_zero]); (try simp only [List.map_append, List.map_cons, List.map_nil, List.sum_append, List.sum_cons, List.sum_nil, Nat.add_zero, Nat.zero_add, Nat.add_assoc]); (try ac_rfl)))
    refine wpAny_assign_Name (stL S8 fun h9 tk9 S9 => wpAny_execs_nil ?_)
    refine wpAny_execs_cons (wpAny_Return_some (ldL S9 rfl (k h9 _ (fam ++ [⟨c, ia, da, sa, 0, []⟩]) ⟨c, ia, da, sa, 0, []⟩ ?_ ?_ (by simp) rfl ?_)))
    · unfold ensure
      rw [if_neg]
      · simp [NodeR.abs]
      · intro hm
        obtain ⟨_, q, rfl⟩ := List.mem_map.mp hm
        obtain ⟨r, hr, rfl⟩ := List.mem_map.mp q
        exact hno r hr rfl
    · rw [List.map_append, List.nodup_append]
      refine ⟨nc, by simp, ?_⟩
      rintro _ q _ q' rfl
      obtain ⟨r, hr, rfl⟩ := List.mem_map.mp q
      simp at q'
      exact hno r hr q'
    · have S10 := S9.tail
      have S10 := S10.weak (P' := nodeQ ⟨c, ia, da, sa, 0, []⟩) fun o q => ⟨t, t5, q⟩
      have S10 := (S10.front 1 rfl).weak (P' := lnP []) fun o q => ⟨[], q, .nil⟩
      exact S10.perm (by (refine perm_sum fun _ => ?_; (try simp only [locals_eq, List.append_eq, sortL, famL_app, famL_cons, famL_nil, NodeR.ent, List.cons_append, List.nil_append, List.append_assoc, List.eraseIdx_cons_succ, List.eraseIdx_cons_zero]); (try simp only [List.map_append, List.map_cons, List.map_nil, List.sum_append, List.sum_cons, List.sum_nil, Nat.add_zero, Nat.zero_add, Nat.add_assoc]); (try ac_rfl)))
end
end Mine

namespace Mine
open PySem PySem.Calls PyProof.Rows PySem.W
section
variable {K : Frag} {w : World} {A : Around} {E : Value → Shared → Prop} {H h h' : Heap} {G : Led} {env : Env} {g : Array GenState} {d : Drawn} {tk : Nat} {os : OsState} {a x dx : Addr} {l ls kvs : List (Str × Value)}
theorem Sym.tup {vs : List Value} (S : Sym H h G) (m : (a, tupP vs) ∈ G) : h.IsTuple a vs.toArray := by
  obtain ⟨o, e, n, rfl⟩ := S.get m
  exact ⟨_, e, rfl, n, rfl⟩
/-- a def with a starred parameter is called -/
theorem callFvC {fd : FuncData} {args vs : List Value} {binds : Value → List (Str × Value)} {Q : Value → Shared → Prop} (hf : FnAt H a fd) (hl : H.NoLimit) (hroom : A.depth < recursionLimit)
    (S : Sym H h G) (hbind : bindArgs fd ⟨args, []⟩ = (newTuple vs >>= fun t => pure (binds t))) (hn : vs.length ≤ 1000)
    (q : ∀ h' L ta tk', Sym H h' ((L, nsP (binds (.ref ta)).reverse) :: (ta, tupP vs) :: G) →
      wpAny (model pw w) (A.deeper (callEnv fd L a)) (execs (bodyOf fd) (callEnv fd L a)) (fun f s' => Q (match f with | .ret v => v | _ => .none) s')
        NoE ⟨h', g, d, tk', os⟩)
    (hb : fd.body = .stmts (bodyOf fd) := by rfl) (hcell : ∀ x ∈ fd.scope.names, x.2 ≠ .cell := by decide) (hloc : ∀ t, ((binds t).all fun x => decide (fd.scope.names.lookup x.1 = some .local)) = true := by intro _; rfl)
    (hco : fd.scope.isCoroutine = false := by rfl) (hgen : fd.scope.isGenerator = false := by rfl) (hk : fd.scope.kind = .function := by rfl) :
    codeAny (model pw w) A (.call (.ref a) ⟨args, []⟩) (wants Q E) ⟨h, g, d, tk, os⟩ := by
  obtain ⟨o, ho, hd⟩ := hf.at_
  refine codeAny_call_function hroom (S.keep _ _ ho) hd hco hgen hb (hf.code.keeps S.keep) ?_
  rw [hbind]
  refine wpAny_bind (wpAny_newTuple (wpAny_pure ?_) (by rw [sizeLine_eq]; omega))
  have S1 : Sym H (h.push { cls := .type "tuple", data := .seq vs.toArray }) ((h.objs.size, tupP vs) :: G) := S.push rfl ⟨0, rfl⟩
  refine wpAny_newFunctionEnv hcell (locs (hloc _)) (fun h₀ hn hsb => ⟨hl.keeps (h' := h₀) ?_, codeAny_func ?_⟩) hk
  · intro b o e
    exact hsb.extBut b o (Nat.ne_of_lt (Heap.lt_size (S1.keep b o e))) (Heap.get?_push_of_some _ (S1.keep b o e))
  · obtain ⟨ob, e, p⟩ := nsP.of (l := (binds (.ref h.objs.size)).reverse) hn (fun x v q => q)
    exact noE (q h₀ _ _ _ (S1.alloc (fun b o e => hsb.extBut b o (Nat.ne_of_lt (Heap.lt_size e)) (Heap.get?_push_of_some _ e)) (Sym.size_none _) e p))
theorem lenT {vs : List Value} {Q : Value → Shared → Prop} (S : Sym H h G) (m : (a, tupP vs) ∈ G) (hl : vs.length ≤ 1000) (k : ∀ t tk', Q (.int vs.length t) ⟨h, g, d, tk', os⟩) :
    wpAny (model pw w) A (call (.builtin "len") [.ref a]) Q E ⟨h, g, d, tk, os⟩ := by
  obtain ⟨o, e, n, rfl⟩ := S.get m
  refine len_tuple (s := ⟨h, g, d, tk, os⟩) (items := vs.toArray) ⟨_, e, rfl, n, rfl⟩ (by simp only [List.size_toArray]; omega) ?_
  simp only [List.size_toArray]
  exact k _ _
/-- an iterator's place -/
noncomputable def itP (T : String) (src : Addr) (i : Nat) (o : Obj) : Prop := o.cls = .type T ∧ o.data = .fields #[.ref src, .int i 0]
theorem iterT {vs : List Value} {Q : Value → Shared → Prop} (S : Sym H h G) (m : (a, tupP vs) ∈ G) (k : ∀ it h', Sym H h' ((it, itP "tuple_iterator" a 0) :: G) → Q (.ref it) ⟨h', g, d, tk, os⟩) :
    wpAny (model pw w) A (pyIter (.ref a)) Q E ⟨h, g, d, tk, os⟩ :=
  wpAny_pyIter_tuple (s := ⟨h, g, d, tk, os⟩) (S.tup m) (k _ _ (S.push rfl ⟨rfl, rfl⟩))
theorem iterL {vs : List Value} {Q : Value → Shared → Prop} (S : Sym H h G) (m : (a, lstP vs) ∈ G) (k : ∀ it h', Sym H h' ((it, itP "list_iterator" a 0) :: G) → Q (.ref it) ⟨h', g, d, tk, os⟩) :
    wpAny (model pw w) A (pyIter (.ref a)) Q E ⟨h, g, d, tk, os⟩ :=
  wpAny_pyIter_list (s := ⟨h, g, d, tk, os⟩) (S.isList m) (k _ _ (S.push rfl ⟨rfl, rfl⟩))
theorem Sym.extTail {P : Obj → Prop} (S : Sym H h ((a, P) :: G)) (k : Heap.ExtBut a h h') : Sym H h' G := by
  refine ⟨fun b o e => k b o (fun z => ?_) (S.keep b o e), fun q hq => ?_, S.tail.new, S.tail.nd⟩
  · have := S.new _ (.head _)
    dsimp only at this
    rw [z, this] at e; cases e
  · obtain ⟨o, e, p⟩ := S.tail.ent q hq
    exact ⟨o, k _ o (S.ne hq) e, p⟩
theorem nextT {it : Addr} {i : Nat} {vs : List Value} {v : Value} {Q : Option Value → Shared → Prop} (S : Sym H h ((it, itP "tuple_iterator" a i) :: G)) (m : (a, tupP vs) ∈ G) (hv : vs[i]? = some v)
    (k : ∀ h', Sym H h' ((it, itP "tuple_iterator" a (i + 1)) :: G) → Q (some v) ⟨h', g, d, tk, os⟩) : wpAny (model pw w) A (pyNext (.ref it)) Q E ⟨h, g, d, tk, os⟩ := by
  obtain ⟨o, e, p1, p2⟩ := S.head
  refine wpAny_pyNext_tuple_item (s := ⟨h, g, d, tk, os⟩) (i := i) ⟨o, e, p1, p2⟩ (S.tup (.tail _ m)) (by simpa using hv) fun h' hi hs => k h' ?_
  obtain ⟨o', e', p1', p2'⟩ := hi
  exact S.upd hs e' ⟨p1', p2'⟩
theorem endT {it : Addr} {i : Nat} {vs : List Value} {Q : Option Value → Shared → Prop} (hh : A.handled = none) (S : Sym H h ((it, itP "tuple_iterator" a i) :: G)) (m : (a, tupP vs) ∈ G) (hv : vs[i]? = none)
    (k : ∀ h', Sym H h' G → Q none ⟨h', g, d, tk, os⟩) : wpAny (model pw w) A (pyNext (.ref it)) Q E ⟨h, g, d, tk, os⟩ := by
  obtain ⟨o, e, p1, p2⟩ := S.head
  exact wpAny_pyNext_tuple_end (s := ⟨h, g, d, tk, os⟩) hh (i := i) ⟨o, e, p1, p2⟩ (S.tup (.tail _ m)) (by simpa using hv) fun h' hi => k h' (S.extTail hi)
theorem nextL {it : Addr} {i : Nat} {vs : List Value} {v : Value} {Q : Option Value → Shared → Prop} (S : Sym H h ((it, itP "list_iterator" a i) :: G)) (m : (a, lstP vs) ∈ G) (hv : vs[i]? = some v)
    (k : ∀ h', Sym H h' ((it, itP "list_iterator" a (i + 1)) :: G) → Q (some v) ⟨h', g, d, tk, os⟩) : wpAny (model pw w) A (pyNext (.ref it)) Q E ⟨h, g, d, tk, os⟩ := by
  obtain ⟨o, e, p1, p2⟩ := S.head
  refine wpAny_pyNext_list_item (s := ⟨h, g, d, tk, os⟩) (i := i) ⟨o, e, p1, p2⟩ (S.isList (.tail _ m)) (by simpa using hv) fun h' hi hs => k h' ?_
  obtain ⟨o', e', p1', p2'⟩ := hi
  exact S.upd hs e' ⟨p1', p2'⟩
theorem endL {it : Addr} {i : Nat} {vs : List Value} {Q : Option Value → Shared → Prop} (hh : A.handled = none) (S : Sym H h ((it, itP "list_iterator" a i) :: G)) (m : (a, lstP vs) ∈ G) (hv : vs[i]? = none)
    (k : ∀ h', Sym H h' G → Q none ⟨h', g, d, tk, os⟩) : wpAny (model pw w) A (pyNext (.ref it)) Q E ⟨h, g, d, tk, os⟩ := by
  obtain ⟨o, e, p1, p2⟩ := S.head
  exact wpAny_pyNext_list_end (s := ⟨h, g, d, tk, os⟩) hh (i := i) ⟨o, e, p1, p2⟩ (S.isList (.tail _ m)) (by simpa using hv) fun h' hi => k h' (S.extTail hi)
theorem Sym.atMem {P P' : Obj → Prop} (S : Sym H h G) (m : (a, P) ∈ G) (k : ∀ o, P o → P' o) : ∀ o, h.get? a = some o → P' o := fun o e => by
  obtain ⟨o', e', p⟩ := S.get m
  rw [e] at e'; cases e'; exact k _ p
/-- a list of names is walked -/
theorem nextN {it : Addr} {i c : Nat} {cs : List Nat} {Q : Option Value → Shared → Prop} (S : Sym H h ((it, itP "list_iterator" a i) :: G)) (m : (a, lnP cs) ∈ G) (hv : cs[i]? = some c)
    (k : ∀ h' t, Sym H h' ((it, itP "list_iterator" a (i + 1)) :: G) → Q (some (.str (nm c) t)) ⟨h', g, d, tk, os⟩) : wpAny (model pw w) A (pyNext (.ref it)) Q E ⟨h, g, d, tk, os⟩ := by
  obtain ⟨o, e, p1, p2⟩ := S.head
  obtain ⟨ol, el, vs, ⟨n, rfl⟩, hn⟩ := S.get (.tail _ m)
  obtain ⟨t, ht⟩ := hn.get' hv
  refine wpAny_pyNext_list_item (s := ⟨h, g, d, tk, os⟩) (i := i) ⟨o, e, p1, p2⟩ ⟨_, el, rfl, n, rfl⟩ (by simpa using ht) fun h' hi hs => k h' t ?_
  obtain ⟨o', e', p1', p2'⟩ := hi
  exact S.upd hs e' ⟨p1', p2'⟩
theorem endN {it : Addr} {i : Nat} {cs : List Nat} {Q : Option Value → Shared → Prop} (hh : A.handled = none) (S : Sym H h ((it, itP "list_iterator" a i) :: G)) (m : (a, lnP cs) ∈ G) (hv : cs[i]? = none)
    (k : ∀ h', Sym H h' G → Q none ⟨h', g, d, tk, os⟩) : wpAny (model pw w) A (pyNext (.ref it)) Q E ⟨h, g, d, tk, os⟩ := by
  obtain ⟨o, e, p1, p2⟩ := S.head
  obtain ⟨ol, el, vs, ⟨n, rfl⟩, hn⟩ := S.get (.tail _ m)
  refine wpAny_pyNext_list_end (s := ⟨h, g, d, tk, os⟩) hh (i := i) ⟨o, e, p1, p2⟩ ⟨_, el, rfl, n, rfl⟩ ?_ fun h' hi => k h' (S.extTail hi)
  have := List.getElem?_eq_none_iff.mp hv
  simp only [List.getElem?_toArray, List.getElem?_eq_none_iff]
  rw [hn.length]; exact this
theorem iterN {cs : List Nat} {Q : Value → Shared → Prop} (S : Sym H h G) (m : (a, lnP cs) ∈ G) (k : ∀ it h', Sym H h' ((it, itP "list_iterator" a 0) :: G) → Q (.ref it) ⟨h', g, d, tk, os⟩) :
    wpAny (model pw w) A (pyIter (.ref a)) Q E ⟨h, g, d, tk, os⟩ := by
  obtain ⟨ol, el, vs, ⟨n, rfl⟩, hn⟩ := S.get m
  exact wpAny_pyIter_list (s := ⟨h, g, d, tk, os⟩) ⟨_, el, rfl, n, rfl⟩ (k _ _ (S.push rfl ⟨rfl, rfl⟩))
end
end Mine

namespace Mine
open PySem PySem.Calls PyProof.Rows PySem.W
noncomputable def updA (c : Nat) (f : Int × List Nat → Int × List Nat) (s : AS) : AS := s.map fun p => if p.1 = c then (p.1, f p.2) else p
noncomputable def NodeR.upd (f : Int × List Nat → Int × List Nat) (r : NodeR) : NodeR := { r with np := (f (r.np, r.su)).1, su := (f (r.np, r.su)).2 }
noncomputable def updR (c : Nat) (f : Int × List Nat → Int × List Nat) (fam : List NodeR) : List NodeR := fam.map fun r => if r.c = c then r.upd f else r
theorem updR_abs (c f) (fam : List NodeR) : (updR c f fam).map (·.abs) = updA c f (fam.map (·.abs)) := by
  unfold updR updA
  rw [List.map_map, List.map_map]
  refine List.map_congr_left fun r _ => ?_
  show NodeR.abs (if r.c = c then _ else _) = if r.c = c then _ else _
  by_cases h : r.c = c
  · rw [if_pos h, if_pos h]; rfl
  · rw [if_neg h, if_neg h]
theorem updR_c (c f) (fam : List NodeR) : (updR c f fam).map (·.c) = fam.map (·.c) := by
  unfold updR
  rw [List.map_map]
  refine List.map_congr_left fun r _ => ?_
  show NodeR.c (if r.c = c then _ else _) = _
  split <;> rfl
theorem updR_kvs (c f) (fam : List NodeR) : kvsOf (updR c f fam) = kvsOf fam := by
  unfold updR kvsOf
  rw [List.map_map]
  refine List.map_congr_left fun r _ => ?_
  show (nm (NodeR.c (if r.c = c then _ else _)), Value.ref (NodeR.ia (if r.c = c then _ else _))) = _
  split <;> rfl
theorem updR_len (c f) (fam : List NodeR) : (updR c f fam).length = fam.length := by simp [updR]
theorem updR_sort (w x dx nd r p t1 q t2 c f) (fam : List NodeR) : sortL w x dx nd r p t1 q t2 (updR c f fam) = [(x, instP 165 dx []), (dx, nsE (sd (.ref nd) r (.int p t1) (.int q t2))), (nd, dctP w (kvsOf fam))] ++ famL (updR c f fam) := by
  unfold sortL; rw [updR_kvs]; rfl
section
variable {K : Frag} {w : World} {A : Around} {E : Value → Shared → Prop} {H h h' : Heap} {G pre : Led} {env : Env} {g : Array GenState} {d : Drawn} {tk : Nat} {os : OsState} {a x dx : Addr} {l ls kvs : List (Str × Value)} {fam : List NodeR} {r : NodeR}
theorem mem_pre {p} {pre G : Led} {fam : List NodeR} {r : NodeR} (hm : r ∈ fam) (ha : p ∈ r.ent) : p ∈ pre ++ (famL fam ++ G) :=
  List.mem_append_right _ (List.mem_append_left _ (List.mem_flatMap.mpr ⟨r, hm, ha⟩))
theorem Sym.nodeAt (S : Sym H h (pre ++ (famL fam ++ G))) (hm : r ∈ fam) : ∃ t1 t2 od, h.get? r.ia = some { cls := .ref 68, dict := some r.da, data := .plain, slots := [some (.str (nm r.c) t1), some (.int r.np t2), some (.ref r.sa)].toArray } ∧ h.get? r.da = some od := by
  obtain ⟨o, e, t1, t2, rfl⟩ := S.get (mem_pre hm (.head _))
  obtain ⟨od, e2, _⟩ := S.get (mem_pre (G := G) (pre := pre) hm (.tail _ (.head _)))
  exact ⟨t1, t2, od, e, e2⟩
theorem fNode {b : Bool} {Q : Value → Shared → Prop} (T : TopS K H) (S : Sym H h (pre ++ (famL fam ++ G))) (hm : r ∈ fam) (k : ∀ t tk', Q (.str (nm r.c) t) ⟨h, g, d, tk', os⟩) :
    wpAny (model pw w) A (getAttr (.ref r.ia) "node" b) Q E ⟨h, g, d, tk, os⟩ := by
  obtain ⟨t1, t2, od, e1, e2⟩ := S.nodeAt hm
  exact getNr (p := 69) (i := 0) T S.keep e1 e2 (by decide) rfl fun tk' => k t1 tk'
theorem fNp {b : Bool} {Q : Value → Shared → Prop} (T : TopS K H) (S : Sym H h (pre ++ (famL fam ++ G))) (hm : r ∈ fam) (k : ∀ t tk', Q (.int r.np t) ⟨h, g, d, tk', os⟩) :
    wpAny (model pw w) A (getAttr (.ref r.ia) "npredecessors" b) Q E ⟨h, g, d, tk, os⟩ := by
  obtain ⟨t1, t2, od, e1, e2⟩ := S.nodeAt hm
  exact getNr (p := 70) (i := 1) T S.keep e1 e2 (by decide) rfl fun tk' => k t2 tk'
theorem fSu {b : Bool} {Q : Value → Shared → Prop} (T : TopS K H) (S : Sym H h (pre ++ (famL fam ++ G))) (hm : r ∈ fam) (k : ∀ tk', Q (.ref r.sa) ⟨h, g, d, tk', os⟩) :
    wpAny (model pw w) A (getAttr (.ref r.ia) "successors" b) Q E ⟨h, g, d, tk, os⟩ := by
  obtain ⟨t1, t2, od, e1, e2⟩ := S.nodeAt hm
  exact getNr (p := 71) (i := 2) T S.keep e1 e2 (by decide) rfl fun tk' => k tk'
theorem ent_np (r : NodeR) (v : Int) (nd : (r.ent.map (·.1)).Nodup) : r.ent.map (repl r.ia (nodeQ (r.upd fun p => (v, p.2)))) = (r.upd fun p => (v, p.2)).ent := by
  simp only [NodeR.ent, List.map_cons, List.map_nil, List.nodup_cons, List.mem_cons, List.not_mem_nil, or_false, not_or] at nd
  obtain ⟨⟨n1, n2⟩, n3, _⟩ := nd
  simp only [NodeR.ent, List.map_cons, List.map_nil, repl, if_true]
  rw [if_neg (Ne.symm n1), if_neg (Ne.symm n2)]
  rfl
theorem ent_su (r : NodeR) (v : List Nat) (nd : (r.ent.map (·.1)).Nodup) : r.ent.map (repl r.sa (lnP v)) = (r.upd fun p => (p.1, v)).ent := by
  simp only [NodeR.ent, List.map_cons, List.map_nil, List.nodup_cons, List.mem_cons, List.not_mem_nil, or_false, not_or] at nd
  obtain ⟨⟨n1, n2⟩, n3, _⟩ := nd
  simp only [NodeR.ent, List.map_cons, List.map_nil, repl, if_true]
  rw [if_neg n2, if_neg n3]
  rfl
theorem updR_congr {c : Nat} {f f' : Int × List Nat → Int × List Nat} (nc : (fam.map (·.c)).Nodup) (hm : r ∈ fam) (hc : r.c = c) (e : f (r.np, r.su) = f' (r.np, r.su)) : updR c f fam = updR c f' fam := by
  unfold updR
  refine List.map_congr_left fun q hq => ?_
  by_cases h : q.c = c
  · rw [if_pos h, if_pos h]
    have : q = r := by
      clear e
      induction fam with
      | nil => cases hm
      | cons y fam ih =>
        rw [List.map_cons, List.nodup_cons] at nc
        cases hm with
        | head =>
          cases hq with
          | head => rfl
          | tail _ hq => exact absurd (List.mem_map.mpr ⟨q, hq, h.trans hc.symm⟩) nc.1
        | tail _ hm =>
          cases hq with
          | head => exact absurd (List.mem_map.mpr ⟨r, hm, hc.trans h.symm⟩) nc.1
          | tail _ hq => exact ih nc.2 hm hq
    subst this
    unfold NodeR.upd; rw [e]
  · rw [if_neg h, if_neg h]
theorem fSetNp {c : Nat} {v : Int} {t : Tok} {Q : Unit → Shared → Prop} (T : TopS K H) (S : Sym H h (pre ++ (famL fam ++ G))) (nc : (fam.map (·.c)).Nodup) (hm : r ∈ fam) (hc : r.c = c)
    (k : ∀ h' tk', Sym H h' (pre ++ (famL (updR c (fun p => (v, p.2)) fam) ++ G)) → Q () ⟨h', g, d, tk', os⟩) : wpAny (model pw w) A (setAttr (.ref r.ia) "npredecessors" (.int v t)) Q E ⟨h, g, d, tk, os⟩ := by
  obtain ⟨t1, t2, od, e1, e2⟩ := S.nodeAt hm
  refine setNr (p := 70) (i := 1) (sl' := [some (.str (nm r.c) t1), some (.int v t), some (.ref r.sa)]) T S.keep e1 e2 (by decide) (by simp) fun h' tk' q1 q2 => k h' tk' ?_
  exact S.famUpd (u := NodeR.upd fun p => (v, p.2)) nc hm hc (.head _) (ent_np r v) q1 q2 ⟨t1, t, rfl⟩
/-- a name is appended to the successors -/
theorem fAppSu {o e : Expr} {apos pos : Pos} {Q : Value → Shared → Prop}
    (k : wpAny (model pw w) A (eval o env) (fun ov s₁ => ∃ (r : NodeR) (ob : Obj), ov = .ref r.sa ∧ s₁.heap.get? r.sa = some ob ∧ ob.cls = .type "list" ∧ ob.dict = none ∧ wpAny (model pw w) A (eval e env) (fun v s₂ => ∃ fam pre H G c n t, v = .str (nm n) t ∧ r ∈ fam ∧ r.c = c ∧ (fam.map (·.c)).Nodup ∧ r.su.length ≤ 1000 ∧
      Sym H s₂.heap (pre ++ (famL fam ++ G)) ∧ ∀ h', Sym H h' (pre ++ (famL (updR c (fun p => (p.1, p.2 ++ [n])) fam) ++ G)) → Q .none { s₂ with heap := h' }) E s₁) E ⟨h, g, d, tk, os⟩)
    (hbase : attributeBase o "append" env (eval o env) = eval o env := by rfl) (hline : (apos.endLine == pos.line) = true := by rfl)
    (htrees : backTo pos (starEach [e] env) = [(false, eval e env)] := by rfl) :
    wpAny (model pw w) A (eval (.Call (.Attribute o "append" apos) [e] [] pos) env) Q E ⟨h, g, d, tk, os⟩ := by
  refine wpAny_Call_method1_late hbase hline htrees (wpAny_mono k (fun ov s₁ h₁ => ?_) fun _ _ x => x)
  obtain ⟨r, ob, rfl, ho, hc, hd, h₁⟩ := h₁
  refine ⟨"list", "list.append", F.plainAttrs_list, F.slot_list_append, by rfl, ⟨ob, ho, hc⟩, fun b hb => ?_, P.append_list (wpAny_mono h₁ (fun v s₂ h₂ => ?_) fun _ _ x => x)⟩
  · cases hb; exact ⟨ob, ho, hd⟩
  · obtain ⟨fam, pre, H, G, c, n, t, rfl, hm, hc, nc, hl, S, q⟩ := h₂
    obtain ⟨ol, el, vs, ⟨nn, rfl⟩, hn⟩ := S.get (mem_pre (p := (r.sa, lnP r.su)) hm (.tail _ (.tail _ (.head _))))
    refine ⟨vs.toArray, nn, by simp only [List.size_toArray, sizeLine_eq]; rw [hn.length]; omega, el, q _ ?_⟩
    have e' := (show IsL s₂.heap r.sa vs.toArray nn from el).update fun xs => xs.push (.str (nm n) t)
    have S' := S.famUpd (P' := lnP (r.su ++ [n])) (u := NodeR.upd fun p => (p.1, r.su ++ [n])) nc hm hc (.tail _ (.tail _ (.head _))) (ent_su r _) (Heap.SameBut.update _ _ _) e' ⟨vs ++ [.str (nm n) t], ⟨_, by simp; rfl⟩, hn.snoc n t⟩
    have e2 := updR_congr (f := fun p => (p.1, r.su ++ [n])) (f' := fun p => (p.1, p.2 ++ [n])) nc hm hc rfl
    unfold updR at e2
    rw [e2] at S'
    exact S'
end
end Mine

namespace Mine
open PySem PySem.Calls PyProof.Rows PySem.W
noncomputable def addOne (c : Nat) (s : AS) (p : Nat) : AS := updA p (fun q => (q.1, q.2 ++ [c])) (ensure p s)
noncomputable def addS (c : Nat) (ps : List Nat) (s : AS) : AS := ps.foldl (addOne c) (updA c (fun q => (q.1 + ps.length, q.2)) (ensure c s))
noncomputable def Bd (s : AS) (n : Nat) : Prop := s.length ≤ n ∧ ∀ q ∈ s, q.2.2.length ≤ n
theorem Bd.le {s : AS} {n m : Nat} (b : Bd s n) (h : n ≤ m) : Bd s m := ⟨Nat.le_trans b.1 h, fun q hq => Nat.le_trans (b.2 q hq) h⟩
theorem Bd.ensure {s : AS} {n : Nat} (b : Bd s n) (c : Nat) : Bd (ensure c s) (n + 1) ∧ ∀ q ∈ ensure c s, q.2.2.length ≤ n := by
  unfold Mine.ensure
  split
  · exact ⟨b.le (by omega), b.2⟩
  · have h : ∀ q ∈ s ++ [(c, 0, [])], q.2.2.length ≤ n := by
      intro q hq
      rcases List.mem_append.mp hq with h | h
      · exact b.2 q h
      · rw [List.mem_singleton.mp h]; exact Nat.zero_le _
    exact ⟨⟨by simp; exact b.1, fun q hq => Nat.le_trans (h q hq) (by omega)⟩, h⟩
theorem Bd.np {s : AS} {n : Nat} (b : Bd s n) (c : Nat) (f : Int → Int) : Bd (updA c (fun q => (f q.1, q.2)) s) n := by
  refine ⟨by simpa [updA] using b.1, fun q hq => ?_⟩
  obtain ⟨r, hr, rfl⟩ := List.mem_map.mp hq
  dsimp only
  split <;> exact b.2 r hr
theorem Bd.one {s : AS} {n : Nat} (b : Bd s n) (c p : Nat) : Bd (addOne c s p) (n + 1) := by
  obtain ⟨h1, h2⟩ := b.ensure p
  refine ⟨by simpa [addOne, updA] using h1.1, fun q hq => ?_⟩
  obtain ⟨r, hr, rfl⟩ := List.mem_map.mp hq
  have := h2 r hr
  dsimp only
  split
  · simp; omega
  · omega
theorem Bd.fold {c : Nat} : ∀ {ps : List Nat} {s : AS} {n : Nat}, Bd s n → Bd (ps.foldl (addOne c) s) (n + ps.length)
  | [], s, n, b => b
  | p :: ps, s, n, b => by
    rw [List.foldl_cons, List.length_cons]
    exact (Bd.fold (b.one c p)).le (by omega)
theorem Bd.add {s : AS} {n c : Nat} {ps : List Nat} (b : Bd s n) : Bd (addS c ps s) (n + 1 + ps.length) := Bd.fold ((b.ensure c).1.np c (· + ps.length))
theorem bd_len {fam : List NodeR} {n : Nat} (b : Bd (fam.map (·.abs)) n) : fam.length ≤ n := by simpa using b.1
theorem bd_su {fam : List NodeR} {n : Nat} (b : Bd (fam.map (·.abs)) n) {r : NodeR} (hr : r ∈ fam) : r.su.length ≤ n := b.2 _ (List.mem_map.mpr ⟨r, hr, rfl⟩)
section
variable {K : Frag} {w : World} {A : Around} {E : Value → Shared → Prop} {H h h' : Heap} {G : Led} {env : Env} {g : Array GenState} {d : Drawn} {tk : Nat} {os : OsState} {a x dx nd : Addr} {r : Value} {p f : Int} {t1 t2 : Tok} {fam : List NodeR}
theorem Sym.slip {X Y : Led} (S : Sym H h (X ++ (Y ++ G))) : Sym H h (Y ++ (X ++ G)) := S.perm (by
  have := (List.perm_append_comm (l₁ := X) (l₂ := Y)).append_right G
  simpa using this)
theorem Sym.toSort {pre : Led} {c : Nat} {u : Int × List Nat → Int × List Nat} (S : Sym H h (pre ++ ([(x, instP 165 dx []), (dx, nsE (sd (.ref nd) r (.int p t1) (.int f t2))), (nd, dctP w (kvsOf fam))] ++ (famL (updR c u fam) ++ G)))) :
    Sym H h (pre ++ (sortL w x dx nd r p t1 f t2 (updR c u fam) ++ G)) := by
  rw [updR_sort]
  simpa using S
theorem add_specC {c n : Nat} {t : Tok} {vs : List Value} {ps : List Nat} {Q : Value → Shared → Prop} (T : TopM K H) (hd : A.depth + 5 < recursionLimit) (hh : A.handled = none) (S : Sym H h (sortL w x dx nd .none p t1 f t2 fam ++ G)) (nc : (fam.map (·.c)).Nodup)
    (hb : Bd (fam.map (·.abs)) n) (hn : Names vs ps) (hl : n + ps.length ≤ 80)
    (k : ∀ h' tk' fam', fam'.map (·.abs) = addS c ps (fam.map (·.abs)) → (fam'.map (·.c)).Nodup → Sym H h' (sortL w x dx nd .none p t1 f t2 fam' ++ G) → Q .none ⟨h', g, d, tk', os⟩) :
    codeAny (model pw w) A (.call (.ref 115) ⟨.ref x :: .str (nm c) t :: vs, []⟩) (wants Q E) ⟨h, g, d, tk, os⟩ := by
  refine callFvC (vs := vs) (binds := fun v => [("self", .ref x), ("node", .str (nm c) t), ("predecessors", v)]) T.fadd T.lim (lt_z hd) S (by cases vs <;> rfl) (by rw [hn.length]; first | exact Nat.le_trans (Nat.le_add_left _ _) (Nat.le_trans hl (by decide)) | omega) fun h1 L ta tk1 S1 => ?_
  have S1 := S1.renm (l' := [("self", .ref x), ("node", .str (nm c) t), ("predecessors", .ref ta)]) ⟨rfl, rfl, rfl, trivial⟩
  refine wpAny_execs_cons (wpAny_If (wpAny_isTrue_Compare1 (Attribute_any_ (ldL S1 rfl (getD T.toTopS S1 (.tail _ (.tail _ (.head _))) (.tail _ (.tail _ (.tail _ (.head _)))) rfl fun tk2 => Constant_none (wpAny_isNot_self rfl (wpAny_truthy_bool (itF rfl (wpAny_execs_nil ?_)))))))))
  refine wpAny_execs_cons (wpAny_Assign_Name (eMeth (dx := dx) T.toTopS S1 rfl (.tail _ (.head _)) (.tail _ (.tail _ (.head _))) rfl (by decide) T.fget (spliced_cons (ldL S1 rfl (spliced_nil ⟨S1.keep, ?_⟩)))))
  have hbl := bd_len hb
  refine get_spec T (by exact (show A.depth + 4 < _ from lt_w hd)) (S1.slip (X := [_, _])) nc (by omega) fun h3 tk3 fam3 r3 ea3 nc3 hm3 hc3 S3 => ?_
  have S3 := S3.slip (Y := [_, _])
  refine stL S3 fun h4 tk4 S4 => ?_
  refine wpAny_execs_cons (wpAny_AugAssign_AttributeAny (ldL S4 rfl (fNp (pre := [_, _, _, _, _]) T.toTopS S4 hm3 fun t5 tk5 => eCallB T.toGlobs S4.keep rfl (spliced_cons (ldL S4 rfl (spliced_nil ?_))))))
  refine lenT S4 (.tail _ (.head _)) (by rw [hn.length]; first | exact Nat.le_trans (Nat.le_add_left _ _) (Nat.le_trans hl (by decide)) | omega) fun t6 tk6 => wpAny_iadd_int ?_
  refine fSetNp (pre := [_, _, _, _, _]) T.toTopS S4 nc3 hm3 hc3 fun h7 tk7 S7 => ?_
  have e7 : updR c (fun q => (r3.np + (vs.length : Int), q.2)) fam3 = updR c (fun q => (q.1 + (ps.length : Int), q.2)) fam3 := updR_congr nc3 hm3 hc3 (by rw [hn.length])
  rw [e7] at S7
  have S7 := S7.toSort (pre := [_, _])
  have ea7 := updR_abs c (fun q => (q.1 + (ps.length : Int), q.2)) fam3
  rw [ea3] at ea7
  have nc7 : ((updR c (fun q => (q.1 + (ps.length : Int), q.2)) fam3).map (·.c)).Nodup := by rw [updR_c]; exact nc3
  revert S7 ea7 nc7
  generalize updR c (fun q => (q.1 + (ps.length : Int), q.2)) fam3 = fam7
  intro S7 ea7 nc7
  have hb7 : Bd (fam7.map (·.abs)) (n + 1) := by rw [ea7]; exact (hb.ensure c).1.np c (· + ps.length)
  refine wpAny_execs_cons (wpAny_For (ldL S7 rfl (iterT S7 (.tail _ (.head _)) fun it h8 S8 => ?_)))
  refine forN (fun m s' => ∃ h' tk' fam' i l, s' = ⟨h', g, d, tk', os⟩ ∧ Sym H h' ((L, nsP l) :: (it, itP "tuple_iterator" ta i) :: (ta, tupP vs) :: (sortL w x dx nd .none p t1 f t2 fam' ++ G)) ∧ NsHas l [("self", .ref x), ("node", .str (nm c) t)] ∧
    m = ps.length - i ∧ i ≤ ps.length ∧ Bd (fam'.map (·.abs)) (n + 1 + i) ∧ (fam'.map (·.c)).Nodup ∧ (ps.drop i).foldl (addOne c) (fam'.map (·.abs)) = addS c ps (fam.map (·.abs))) ?_ ps.length
    ⟨h8, _, fam7, 0, _, rfl, S8.swap, ⟨rfl, rfl, trivial⟩, rfl, Nat.zero_le _, hb7, nc7, by rw [List.drop_zero, ea7]; rfl⟩
  rintro m s' ⟨h', tk', fam', i, l, rfl, S', hns, rfl, hi, hb', nc', hf'⟩ Y Z hY hZ
  have S' := (S'.renm hns).swap
  cases hpi : ps[i]? with
  | none =>
    have hvi : vs[i]? = none := by rw [List.getElem?_eq_none_iff] at hpi ⊢; rw [hn.length]; exact hpi
    refine endT hh S' (.tail _ (.head _)) hvi fun h9 S9 => ?_
    refine wpAny_execs_nil (hZ _ _ (wpAny_execs_nil (k _ _ fam' ?_ nc' S9.tail.tail)))
    rw [List.drop_eq_nil_of_le (List.getElem?_eq_none_iff.mp hpi)] at hf'
    exact hf'
  | some pr =>
    obtain ⟨tp, hvi⟩ := hn.get' hpi
    have hlt := (List.getElem?_eq_some_iff.mp hpi).1
    refine nextT S' (.tail _ (.head _)) hvi fun h9 S9 => ?_
    refine wpAny_assign_Name (stL S9.swap fun h10 tk10 S10 => ?_)
    refine wpAny_execs_cons (wpAny_Assign_Name (eMeth (dx := dx) T.toTopS S10 rfl (.tail _ (.tail _ (.head _))) (.tail _ (.tail _ (.tail _ (.head _)))) rfl (by decide) T.fget (spliced_cons (ldL S10 rfl (spliced_nil ⟨S10.keep, ?_⟩)))))
    have hbl' := bd_len hb'
    refine get_spec T (by exact (show A.depth + 4 < _ from lt_w hd)) (S10.slip (X := [_, _, _])) nc' (by omega) fun h11 tk11 fam11 r11 ea11 nc11 hm11 hc11 S11 => ?_
    refine stL (S11.slip (Y := [_, _, _])) fun h12 tk12 S12 => ?_
    have hb11 : ∀ q ∈ fam11.map (·.abs), q.2.2.length ≤ n + 1 + i := by rw [ea11]; exact (hb'.ensure pr).2
    have hsu := hb11 _ (List.mem_map.mpr ⟨r11, hm11, rfl⟩)
    obtain ⟨ob, o1, vv, ⟨nn, rfl⟩, o3⟩ := S12.get (mem_pre (pre := [_, _, _, _, _, _]) (p := (r11.sa, lnP r11.su)) hm11 (.tail _ (.tail _ (.head _))))
    refine wpAny_execs_cons (wpAny_Expr (fAppSu (Attribute_any_ (ldL S12 rfl (fSu (pre := [_, _, _, _, _, _]) T.toTopS S12 hm11 fun tk13 => ⟨r11, _, rfl, o1, rfl, rfl, ldL S12 rfl ⟨fam11, [_, _, _, _, _, _], H, G, pr, c, t, rfl, hm11, hc11, nc11, by
      have : r11.su.length ≤ n + 1 + i := hsu
      omega, S12, fun h14 S14 => ?_⟩⟩)))))
    have S14 := S14.toSort (pre := [_, _, _])
    refine wpAny_execs_nil (hY _ _ ⟨ps.length - (i + 1), Nat.sub_succ_lt_self _ _ hlt, h14, _, _, i + 1, _, rfl, S14, ⟨rfl, rfl, trivial⟩, rfl, hlt, ?_, ?_, ?_⟩)
    · rw [updR_abs, ea11]; exact hb'.one c pr
    · rw [updR_c]; exact nc11
    · rw [updR_abs, ea11, ← hf', List.drop_eq_getElem_cons hlt, List.foldl_cons]
      have : ps[i] = pr := (List.getElem?_eq_some_iff.mp hpi).2
      rw [this]; rfl
theorem add_spec {c n : Nat} {t : Tok} {vs : List Value} {ps : List Nat} {Q : Value → Shared → Prop} (T : TopM K H) (hd : A.depth + 5 < recursionLimit) (hh : A.handled = none) (S : Sym H h (sortL w x dx nd .none p t1 f t2 fam ++ G)) (nc : (fam.map (·.c)).Nodup)
    (hb : Bd (fam.map (·.abs)) n) (hn : Names vs ps) (hl : n + ps.length ≤ 80)
    (k : ∀ h' tk' fam', fam'.map (·.abs) = addS c ps (fam.map (·.abs)) → (fam'.map (·.c)).Nodup → Sym H h' (sortL w x dx nd .none p t1 f t2 fam' ++ G) → Q .none ⟨h', g, d, tk', os⟩) :
    wpAny (model pw w) A (call (.ref 115) (.ref x :: .str (nm c) t :: vs)) Q E ⟨h, g, d, tk, os⟩ := wpAny_call (add_specC T hd hh S nc hb hn hl k)
end
end Mine

namespace Mine
open PySem PySem.Calls PyProof.Rows PySem.W
theorem meets_bool_list (a : Addr) : Meets (Builtin.«bool.__new__» ⟨[.type "bool", .ref a], []⟩) (fun A R s => ∃ items : Array Value, s.heap.IsList a items ∧ (items.size : Int) < 2 ^ 63 ∧ ∀ tk', R (.ok (.ret (.bool (!items.isEmpty)))) { s with toks := tk' }) :=
  Meets.of_wp fun prog w A R s hs => by
    obtain ⟨hp, g, d, tk, os⟩ := s
    obtain ⟨items, hl, hz, hs⟩ := hs
    have f1 := F.conv_sub_bool
    have f2 : ∀ {Q : Bool → Shared → Prop} {E : Value → Shared → Prop}, (∀ tk', Q (!items.isEmpty) ⟨hp, g, d, tk', os⟩) → wpAny (model prog w) A.in1 (truthy (.ref a)) Q E ⟨hp, g, d, tk, os⟩ := fun q => by
      exact wpAny_truthy_list (s := ⟨hp, g, d, tk, os⟩) hl hz (q _)
    clear hz
    repeat (any_goals (first | assumption | with_reducible apply f2 | wp_step))
    intro tk'
    all_goals first | exact ⟨_, rfl, hs _⟩ | (repeat (any_goals (first | assumption | wp_step))) | skip
    all_goals first | exact ⟨_, rfl, hs _⟩ | skip
section
variable {K : Frag} {w : World} {A : Around} {E : Value → Shared → Prop} {H h h' : Heap} {G : Led} {env : Env} {g : Array GenState} {d : Drawn} {tk : Nat} {os : OsState} {a x dx nd : Addr} {r : Value} {p f : Int} {t1 t2 : Tok} {fam : List NodeR}
theorem boolL {vs : List Value} {Q : Value → Shared → Prop} (S : Sym H h G) (m : (a, lstP vs) ∈ G) (hl : vs.length ≤ 1000) (k : ∀ tk', Q (.bool (!vs.isEmpty)) ⟨h, g, d, tk', os⟩) :
    wpAny (model pw w) A (call (.type "bool") [.ref a]) Q E ⟨h, g, d, tk, os⟩ := by
  refine call_bool_1 (meets_bool_list a) ⟨vs.toArray, S.isList m, by simp only [List.size_toArray]; omega, fun tk' => ⟨rfl, ?_⟩⟩
  have : vs.toArray.isEmpty = vs.isEmpty := by cases vs <;> rfl
  rw [this]
  exact k _
/-- a type is called with plain arguments -/
theorem eCallT {y : Str} {T : String} {p pos : Pos} {args : List Expr} {Q : Value → Shared → Prop} (N : Globs H) (S : Keeps H h) (hv : biTab.lookup y = some (.type T))
    (k : wpAny (model pw w) A (spliced (plainArgs env args)) (fun vs s₁ => wpAny (model pw w) A (call (.type T) vs) Q E s₁) E ⟨h, g, d, tk, os⟩)
    (hs : backTo pos (starEach args env) = plainArgs env args := by rfl) (hp : (plainArgs env args).any (·.1) = false := by rfl)
    (hk : env.scope.kind = .function := by rfl) (hl : env.kindOf y = some .globalImplicit := by rfl) (hg : env.globals = 3 := by rfl) (hb : env.builtins = 0 := by rfl) (hd : (y == ("__debug__" : Str)) = false := by decide) :
    wpAny (model pw w) A (eval (.Call (.Name y p) args [] pos) env) Q E ⟨h, g, d, tk, os⟩ := by
  refine wpAny_Call_Name_kw (ldB N S hv ?_ hk hl hg hb hd)
  rw [hs]
  exact PyProof.Rows.callWith_type hp (evalArgsP (wpAny_mono k (fun vs s₁ q => q) fun _ _ q => q))
theorem dctP_new (h : Heap) : ∃ o, (h.push { cls := .type "dict", data := .dict #[] }).get? h.objs.size = some o ∧ dctP w [] o := Heap.dictOf_iff.mp (Heap.DictOf.new (knd := strKind pw w) h)
theorem eDict {pos : Pos} {Q : Value → Shared → Prop} (S : Sym H h G) (k : ∀ a h', Sym H h' ((a, dctP w []) :: G) → Q (.ref a) ⟨h', g, d, tk, os⟩) : wpAny (model pw w) A (eval (.Dict [] [] pos) env) Q E ⟨h, g, d, tk, os⟩ := by
  refine wpAny_Dict_empty (k _ _ ?_)
  obtain ⟨o, e, q⟩ := dctP_new (w := w) h
  exact S.alloc (fun _ _ e => Heap.get?_push_of_some _ e) (Sym.size_none _) e q
/-- the sorter is made -/
theorem mkSort {Q : Value → Shared → Prop} (T : TopM K H) (hd : A.depth + 2 < recursionLimit) (S : Sym H h G)
    (k : ∀ h' tk' x dx nd t1 t2, Sym H h' (sortL w x dx nd .none 0 t1 0 t2 [] ++ G) → Q (.ref x) ⟨h', g, d, tk', os⟩) :
    wpAny (model pw w) A (call (.ref 165) []) Q E ⟨h, g, d, tk, os⟩ := by
  refine wpAny_call (make_core (makes_of (S.X T.toTopS) T.mkT) (looks_findIn (S.X T.toTopS) T.iniT.1) (fun self => bind_fn (S.X T.toTopS) self T.iniT.2) (.inl rfl) ?_)
  have S1 : Sym H (h.push emptyDict) ((h.objs.size, nsE []) :: G) := S.push rfl nsE_empty
  have S2 : Sym H ((h.push emptyDict).push (instObj 165 h.objs.size)) ((h.objs.size + 1, instP 165 h.objs.size []) :: (h.objs.size, nsE []) :: G) := by
    have := S1.push (o := instObj 165 h.objs.size) (P := instP 165 h.objs.size []) rfl rfl
    rwa [Heap.size_push] at this
  obtain ⟨nn, hdf⟩ := T.dflt
  refine callFc T.tInit T.lim (by rw [depth_under_kw]; omega) S2 (BindsTo.of_defaults rfl (S2.keep _ _ hdf) rfl rfl rfl) fun h3 L tk3 S3 => ?_
  have S3 := S3.renm (l' := [("self", .ref (h.objs.size + 1)), ("graph", .none)]) ⟨rfl, rfl, trivial⟩
  refine wpAny_execs_cons (plainObj_wpAny_Assign_Attribute (eDict S3 fun nd h4 S4 => ?_))
  have S4 := S4.swap
  refine ldL S4 rfl (setD T.toTopS (S4.front 3 rfl) (.tail _ (.tail _ (.head _))) (fun h5 tk5 S5 => ?_) (by simp))
  have S5 := S5.front 1 rfl
  refine wpAny_execs_cons (plainObj_wpAny_Assign_Attribute (Constant_none (ldL S5 rfl (setD T.toTopS (S5.front 1 rfl) (.tail _ (.tail _ (.head _))) (fun h6 tk6 S6 => ?_) (by simp)))))
  have S6 := S6.front 1 rfl
  refine wpAny_execs_cons (plainObj_wpAny_Assign_Attribute (cInt fun t7 tk7 => ldL S6 rfl (setD T.toTopS (S6.front 1 rfl) (.tail _ (.tail _ (.head _))) (fun h8 tk8 S8 => ?_) (by simp))))
  have S8 := S8.front 1 rfl
  refine wpAny_execs_cons (plainObj_wpAny_Assign_Attribute (cInt fun t9 tk9 => ldL S8 rfl (setD T.toTopS (S8.front 1 rfl) (.tail _ (.tail _ (.head _))) (fun h10 tk10 S10 => ?_) (by simp))))
  have S10 := S10.front 1 rfl
  refine wpAny_execs_cons (wpAny_If (wpAny_isTrue_Compare1 (ldL S10 rfl (Constant_none (wpAny_isNot_self rfl (wpAny_truthy_bool (itF rfl (wpAny_execs_nil ?_))))))))
  refine wpAny_execs_nil ⟨rfl, k h10 _ _ h.objs.size nd t7 t9 ?_⟩
  have S11 : Sym H h10 ((h.objs.size, nsE [("_nfinished", .int 0 t9), ("_npassedout", .int 0 t7), ("_ready_nodes", .none), ("_node2info", .ref nd)]) :: (nd, dctP w (kvsOf [])) :: (h.objs.size + 1, instP 165 h.objs.size []) :: G) := S10.tail
  have S12 := S11.weak (P' := nsE (sd (.ref nd) .none (.int 0 t7) (.int 0 t9))) fun o q => q.eqv fun y => by
    simp only [sd, List.lookup_cons]
    by_cases e1 : y = "_nfinished"
    · subst e1; rfl
    · by_cases e2 : y = "_npassedout"
      · subst e2; rfl
      · by_cases e3 : y = "_ready_nodes"
        · subst e3; rfl
        · rw [beq_eq_false_iff_ne.mpr e1, beq_eq_false_iff_ne.mpr e2, beq_eq_false_iff_ne.mpr e3]
  exact S12.perm (by (refine perm_sum fun _ => ?_; (try simp only [locals_eq, List.append_eq, sortL, famL_app, famL_cons, famL_nil, NodeR.ent, List.cons_append, List.nil_append, List.append_assoc, List.eraseIdx_cons_succ, List.eraseIdx_cons_zero]); (try simp only [List.map_append, List.map_cons, List.map_nil, List.sum_append, List.sum_cons, List.sum_nil, Nat.add_zero, Nat.zero_add, Nat.add_assoc]); (try ac_rfl)))
end
end Mine

namespace Mine
open PySem PySem.Calls PyProof.Rows PySem.W
section
variable {w : World} {A : Around} {E : Value → Shared → Prop} {h : Heap} {g : Array GenState} {d : Drawn} {tk : Nat} {os : OsState} {a b : Int} {t u : Tok} {Q : Value → Shared → Prop}
theorem eIadd (q : ∀ t tk', Q (.int (a + b) t) ⟨h, g, d, tk', os⟩) : wpAny (model pw w) A (inplaceOp .Add (.int a t) (.int b u)) Q E ⟨h, g, d, tk, os⟩ := wpAny_iadd_int (q _ _)
end
theorem beq_ref_none {a : Addr} : ((Value.ref a : Value) == Value.none) = false := rfl
noncomputable def outOne (s : AS) (c : Nat) : AS := updA c (fun q => (-1, q.2)) s
section
variable {K : Frag} {w : World} {A : Around} {E : Value → Shared → Prop} {H h h' : Heap} {G : Led} {env : Env} {g : Array GenState} {d : Drawn} {tk : Nat} {os : OsState} {a x dx nd ra : Addr} {r : Value} {p f : Int} {t1 t2 : Tok} {fam : List NodeR} {rs : List Nat}
theorem Sym.lnOpen {cs : List Nat} (S : Sym H h ((a, lnP cs) :: G)) : ∃ vs, Names vs cs ∧ Sym H h ((a, lstP vs) :: G) := by
  obtain ⟨o, e, vs, q, hn⟩ := S.head
  refine ⟨vs, hn, S.keep, fun r hr => ?_, fun r hr => ?_, S.nd⟩
  · cases hr with
    | head => exact ⟨o, e, q⟩
    | tail _ hr => exact S.ent r (.tail _ hr)
  · cases hr with
    | head => exact S.new (a, lnP cs) (.head _)
    | tail _ hr => exact S.new r (.tail _ hr)
theorem Sym.lnClose {cs : List Nat} {vs : List Value} (S : Sym H h ((a, lstP vs) :: G)) (hn : Names vs cs) : Sym H h ((a, lnP cs) :: G) := S.weak fun o q => ⟨vs, q, hn⟩
/-- `xs.clear()` -/
theorem clearL {o : Expr} {apos pos : Pos} {Q : Value → Shared → Prop}
    (k : wpAny (model pw w) A (eval o env) (fun ov s₁ => ∃ a vs H G, ov = .ref a ∧ vs.length ≤ 1000 ∧ Sym H s₁.heap ((a, lstP vs) :: G) ∧
      ∀ h', Sym H h' ((a, lstP []) :: G) → Q .none { s₁ with heap := h' }) E ⟨h, g, d, tk, os⟩)
    (hbase : attributeBase o "clear" env (eval o env) = eval o env := by rfl) (hline : (apos.endLine == pos.line) = true := by rfl) :
    wpAny (model pw w) A (eval (.Call (.Attribute o "clear" apos) [] [] pos) env) Q E ⟨h, g, d, tk, os⟩ := by
  refine wpAny_Call_method0_late hbase hline (wpAny_mono k (fun ov s₁ h₁ => ?_) fun _ _ x => x)
  obtain ⟨a, vs, H, G, rfl, hl, S, q⟩ := h₁
  obtain ⟨n, hi⟩ := S.lst (.head _)
  refine ⟨"list", "list.clear", F.plainAttrs_list, F.slot_list_clear, by rfl, ⟨_, hi, rfl⟩, fun b hb => ?_, P.clear_list hi (q _ (S.updL (by simp))) (by simp only [List.size_toArray, sizeLine_eq]; omega)⟩
  cases hb; exact ⟨_, hi, rfl⟩
theorem active_spec {Q : Value → Shared → Prop} (T : TopM K H) (hd : A.depth + 5 < recursionLimit) (S : Sym H h (sortL w x dx nd (.ref ra) p t1 f t2 fam ++ ((ra, lnP rs) :: G))) (hl : rs.length ≤ 900)
    (k : ∀ h' tk', Sym H h' (sortL w x dx nd (.ref ra) p t1 f t2 fam ++ ((ra, lnP rs) :: G)) → Q (.bool (decide (f < p) || !rs.isEmpty)) ⟨h', g, d, tk', os⟩) :
    wpAny (model pw w) A (call (.ref 134) [.ref x]) Q E ⟨h, g, d, tk, os⟩ := by
  refine callF T.factive T.lim (lt_z hd) S (BindsTo.of_eq rfl) fun h1 L tk1 S1 => ?_
  have S1 := S1.renm (l' := [("self", .ref x)]) ⟨rfl, trivial⟩
  refine wpAny_execs_cons (wpAny_If (wpAny_isTrue_Compare1 (Attribute_any_ (ldL S1 rfl (getD T.toTopS S1 (.tail _ (.head _)) (.tail _ (.tail _ (.head _))) rfl fun tk2 => Constant_none (is_none (wpAny_truthy_bool (itF rfl (wpAny_execs_nil ?_)))))))))
  refine wpAny_execs_cons (wpAny_Return_some (BoolOp_or (wpAny_Compare1 (Attribute_any_ (ldL S1 rfl (getD T.toTopS S1 (.tail _ (.head _)) (.tail _ (.tail _ (.head _))) rfl fun tk3 => Attribute_any_ (ldL S1 rfl (getD T.toTopS S1 (.tail _ (.head _)) (.tail _ (.tail _ (.head _))) rfl fun tk4 => lt_int (wpAny_truthy_bool ?_)))))))))
  by_cases hfp : f < p
  · refine itT (by simpa using hfp) ?_
    have := k h1 tk4 S1.tail
    simp only [hfp, decide_true, Bool.true_or] at this ⊢
    exact this
  · refine itF (by simpa using hfp) (BoolOp_one ?_)
    refine eCallT T.toGlobs S1.keep rfl (spliced_cons (Attribute_any_ (ldL S1 rfl (getD T.toTopS S1 (.tail _ (.head _)) (.tail _ (.tail _ (.head _))) rfl fun tk5 => spliced_nil ?_))))
    have S2 := S1.slip (X := _ :: sortL w x dx nd (.ref ra) p t1 f t2 fam) (Y := [_])
    obtain ⟨vs, hn, S3⟩ := S2.lnOpen
    refine boolL S3 (.head _) (by rw [hn.length]; first | exact Nat.le_trans hl (by decide) | omega) fun tk6 => ?_
    have := k h1 tk6 S1.tail
    have e : vs.isEmpty = rs.isEmpty := by cases hn <;> rfl
    simp only [hfp, decide_false, Bool.false_or] at this
    rw [e]
    exact this
theorem find_c {c : Nat} (hc : c ∈ fam.map (·.c)) : ∃ r ∈ fam, r.c = c ∧ valueAt (kvsOf fam) (nm c) = some (.ref r.ia) := by
  have : (fam.find? fun r => r.c = c).isSome := by
    obtain ⟨r, hr, e⟩ := List.mem_map.mp hc
    rw [List.find?_isSome]
    exact ⟨r, hr, by simpa using e⟩
  obtain ⟨r, e⟩ := Option.isSome_iff_exists.mp this
  exact ⟨r, List.mem_of_find?_eq_some e, by simpa using List.find?_some e, by rw [valueAt_fam, e]; rfl⟩
theorem tupleL {vs : List Value} {Q : Value → Shared → Prop} (S : Sym H h G) (m : (a, lstP vs) ∈ G) (hl : vs.length ≤ 1000) (k : ∀ b h', Sym H h' ((b, tupP vs) :: G) → Q (.ref b) ⟨h', g, d, tk, os⟩) :
    wpAny (model pw w) A (call (.type "tuple") [.ref a]) Q E ⟨h, g, d, tk, os⟩ := by
  refine call_tuple_list (s := ⟨h, g, d, tk, os⟩) (S.isList m) (fun h' hk => k _ _ ((S.grow hk).push rfl ⟨0, rfl⟩)) (by simp only [List.size_toArray, sizeLine_eq]; omega)
theorem ready_spec {Q : Value → Shared → Prop} (T : TopM K H) (hd : A.depth + 5 < recursionLimit) (hh : A.handled = none) (S : Sym H h (sortL w x dx nd (.ref ra) p t1 f t2 fam ++ ((ra, lnP rs) :: G))) (nc : (fam.map (·.c)).Nodup) (hl : rs.length ≤ 900)
    (hrs : ∀ c ∈ rs, c ∈ fam.map (·.c))
    (k : ∀ h' tk' fam' ta vs t, fam'.map (·.abs) = rs.foldl outOne (fam.map (·.abs)) → fam'.map (·.c) = fam.map (·.c) → Names vs rs → Sym H h' ((ta, tupP vs) :: (sortL w x dx nd (.ref ra) (p + rs.length) t f t2 fam' ++ ((ra, lnP []) :: G))) → Q (.ref ta) ⟨h', g, d, tk', os⟩) :
    wpAny (model pw w) A (call (.ref 127) [.ref x]) Q E ⟨h, g, d, tk, os⟩ := by
  refine callF T.fready T.lim (lt_z hd) S (BindsTo.of_eq rfl) fun h1 L tk1 S1 => ?_
  have S1 := S1.renm (l' := [("self", .ref x)]) ⟨rfl, trivial⟩
  refine wpAny_execs_cons (wpAny_If (wpAny_isTrue_Compare1 (Attribute_any_ (ldL S1 rfl (getD T.toTopS S1 (.tail _ (.head _)) (.tail _ (.tail _ (.head _))) rfl fun tk2 => Constant_none (is_none (wpAny_truthy_bool (itF rfl (wpAny_execs_nil ?_)))))))))
  obtain ⟨vs, hn, S2⟩ := (S1.slip (X := _ :: sortL w x dx nd (.ref ra) p t1 f t2 fam) (Y := [_])).lnOpen
  have S2 := S2.swap
  refine wpAny_execs_cons (wpAny_Assign_Name (eCallT T.toGlobs S2.keep rfl (spliced_cons (Attribute_any_ (ldL S2 rfl (getD T.toTopS S2 (.tail _ (.tail _ (.head _))) (.tail _ (.tail _ (.tail _ (.head _)))) rfl fun tk5 => spliced_nil
    (tupleL S2 (.tail _ (.head _)) (by rw [hn.length]; first | exact Nat.le_trans hl (by decide) | omega) fun ta h3 S3 => stL S3.swap fun h4 tk4 S4 => ?_)))))))
  refine wpAny_execs_cons (wpAny_Assign_Name (Attribute_any_ (ldL S4 rfl (getD T.toTopS S4 (.tail _ (.tail _ (.tail _ (.head _)))) (.tail _ (.tail _ (.tail _ (.tail _ (.head _))))) rfl fun tk5 => stL S4 fun h5 tk6 S5 => ?_))))
  refine cutO (fun s' => ∃ h' tk' fam' l, s' = ⟨h', g, d, tk', os⟩ ∧ Sym H h' ((L, nsP l) :: (ta, tupP vs) :: (ra, lstP vs) :: (sortL w x dx nd (.ref ra) p t1 f t2 fam' ++ G)) ∧ NsHas l [("self", .ref x), ("result", .ref ta)] ∧
    fam'.map (·.c) = fam.map (·.c) ∧ fam'.map (·.abs) = rs.foldl outOne (fam.map (·.abs))) ?_ ?_
  · intro J hJ
    refine wpAny_For (ldL S5 rfl (iterT S5 (.tail _ (.head _)) fun it h6 S6 => ?_))
    refine forN (fun m s' => ∃ h' tk' fam' i l, s' = ⟨h', g, d, tk', os⟩ ∧ Sym H h' ((L, nsP l) :: (it, itP "tuple_iterator" ta i) :: (ta, tupP vs) :: (ra, lstP vs) :: (sortL w x dx nd (.ref ra) p t1 f t2 fam' ++ G)) ∧ NsHas l [("self", .ref x), ("result", .ref ta), ("n2i", .ref nd)] ∧
      m = rs.length - i ∧ i ≤ rs.length ∧ fam'.map (·.c) = fam.map (·.c) ∧ (rs.drop i).foldl outOne (fam'.map (·.abs)) = rs.foldl outOne (fam.map (·.abs))) ?_ rs.length
      ⟨h6, _, fam, 0, _, rfl, S6.swap, ⟨rfl, rfl, rfl, trivial⟩, rfl, Nat.zero_le _, rfl, rfl⟩
    rintro m s' ⟨h', tk', fam', i, l, rfl, S', hns, rfl, hi, ec', hf'⟩ Y Z hY hZ
    have S' := (S'.renm hns).swap
    cases hpi : rs[i]? with
    | none =>
      have hvi : vs[i]? = none := by rw [List.getElem?_eq_none_iff] at hpi ⊢; rw [hn.length]; exact hpi
      refine endT hh S' (.tail _ (.head _)) hvi fun h9 S9 => ?_
      refine wpAny_execs_nil (hZ _ _ ⟨rfl, hJ _ ⟨h9, _, fam', _, rfl, S9, ⟨rfl, rfl, trivial⟩, ec', ?_⟩⟩)
      rw [List.drop_eq_nil_of_le (List.getElem?_eq_none_iff.mp hpi)] at hf'
      exact hf'
    | some c =>
      obtain ⟨tp, hvi⟩ := hn.get' hpi
      have hlt := (List.getElem?_eq_some_iff.mp hpi).1
      refine nextT S' (.tail _ (.head _)) hvi fun h9 S9 => ?_
      refine wpAny_assign_Name (stL S9.swap fun h10 tk10 S10 => ?_)
      obtain ⟨r, hr, hrc, hva⟩ := find_c (fam := fam') (c := c) (by rw [ec']; exact hrs c (List.mem_of_getElem? hpi))
      refine wpAny_execs_cons (plainObj_wpAny_Assign_Attribute (ldG T.toGlobs S10.keep rfl (Subscript_ (ldL S10 rfl (ldL S10 rfl (dSub S10 (.tail _ (.tail _ (.tail _ (.tail _ (.tail _ (.tail _ (.head _))))))) hva fun tk11 => ?_))))))
      refine fSetNp (pre := [_, _, _, _, _, _, _]) T.toTopS S10 (by rw [ec']; exact nc) hr hrc fun h12 tk12 S12 => ?_
      have S12 := S12.toSort (pre := [_, _, _, _])
      refine wpAny_execs_nil (hY _ _ ⟨rs.length - (i + 1), Nat.sub_succ_lt_self _ _ hlt, h12, _, _, i + 1, _, rfl, S12, ⟨rfl, rfl, rfl, trivial⟩, rfl, hlt, ?_, ?_⟩)
      · rw [updR_c]; exact ec'
      · rw [updR_abs, ← hf', List.drop_eq_getElem_cons hlt, List.foldl_cons]
        have : rs[i] = c := (List.getElem?_eq_some_iff.mp hpi).2
        rw [this]; rfl
  · rintro _ ⟨h', tk', fam', l, rfl, S', hns, ec', ea'⟩
    have S' := S'.renm hns
    refine wpAny_execs_cons (wpAny_Expr (clearL (Attribute_any_ (ldL S' rfl (getD T.toTopS S' (.tail _ (.tail _ (.tail _ (.head _)))) (.tail _ (.tail _ (.tail _ (.tail _ (.head _))))) rfl fun tk5 => ⟨ra, vs, H, _, rfl, by rw [hn.length]; first | exact Nat.le_trans hl (by decide) | omega, S'.front 2 rfl, fun h7 S7 => ?_⟩)))))
    have S7 := S7.front 1 rfl
    refine wpAny_execs_cons (wpAny_AugAssign_AttributeAny (ldL S7 rfl (getD T.toTopS S7 (.tail _ (.tail _ (.tail _ (.head _)))) (.tail _ (.tail _ (.tail _ (.tail _ (.head _))))) rfl fun tk8 => eCallB T.toGlobs S7.keep rfl (spliced_cons (ldL S7 rfl (spliced_nil
      (lenT S7 (.tail _ (.tail _ (.head _))) (by rw [hn.length]; first | exact Nat.le_trans hl (by decide) | omega) fun t9 tk9 => eIadd fun t10 tk11 => (setD T.toTopS (S7.front 4 rfl) (.tail _ (.tail _ (.tail _ (.head _)))) (fun h10 tk10 S10 => ?_) (by simp [sd]))))))))) 
    have S10 := (S10.weak (P' := nsE _) fun o q => q.eqv (sd_p _ _ _ _ _)).front 1 rfl
    refine wpAny_execs_cons (wpAny_Return_some (ldL S10 rfl (k _ _ fam' ta vs t10 ea' ec' hn ?_)))
    have S11 : Sym H h10 ((dx, nsE (sd (.ref nd) (.ref ra) (.int (p + vs.length) t10) (.int f t2))) :: (ra, lstP []) :: (ta, tupP vs) :: (x, instP 165 dx []) :: (nd, dctP w (kvsOf fam')) :: (famL fam' ++ G)) := S10.tail
    rw [hn.length] at S11
    have S12 := (S11.swap).lnClose .nil
    exact S12.perm (by (refine perm_sum fun _ => ?_; (try simp only [locals_eq, List.append_eq, sortL, famL_app, famL_cons, famL_nil, NodeR.ent, List.cons_append, List.nil_append, List.append_assoc, List.eraseIdx_cons_succ, List.eraseIdx_cons_zero]); (try simp only [List.map_append, List.map_cons, List.map_nil, List.sum_append, List.sum_cons, List.sum_nil, Nat.add_zero, Nat.zero_add, Nat.add_assoc]); (try ac_rfl)))
end
end Mine

namespace Mine
open PySem PySem.Calls PyProof.Rows PySem.W
noncomputable def npOf (s : AS) (c : Nat) : Int := ((s.find? fun q => q.1 = c).map (·.2.1)).getD 0
noncomputable def suOf (s : AS) (c : Nat) : List Nat := ((s.find? fun q => q.1 = c).map (·.2.2)).getD []
noncomputable def decOne (z : AS × List Nat) (q : Nat) : AS × List Nat :=
  (updA q (fun v => (v.1 - 1, v.2)) z.1, if npOf (updA q (fun v => (v.1 - 1, v.2)) z.1) q = 0 then z.2 ++ [q] else z.2)
noncomputable def doneS (c : Nat) (s : AS) (rs : List Nat) : AS × List Nat := (suOf s c).foldl decOne (updA c (fun v => (-2, v.2)) s, rs)
theorem find_abs {fam : List NodeR} {r : NodeR} (nc : (fam.map (·.c)).Nodup) (hr : r ∈ fam) : (fam.map (·.abs)).find? (fun q => q.1 = r.c) = some r.abs := by
  induction fam with
  | nil => cases hr
  | cons y fam ih =>
    rw [List.map_cons, List.nodup_cons] at nc
    rw [List.map_cons, List.find?_cons]
    cases hr with
    | head => simp [NodeR.abs]
    | tail _ hr =>
      have : ¬ y.abs.1 = r.c := fun e => nc.1 (List.mem_map.mpr ⟨r, hr, e.symm⟩)
      simp only [this, decide_false]
      exact ih nc.2 hr
theorem npOf_mem {fam : List NodeR} {r : NodeR} (nc : (fam.map (·.c)).Nodup) (hr : r ∈ fam) : npOf (fam.map (·.abs)) r.c = r.np := by
  unfold npOf; rw [find_abs nc hr]; rfl
theorem suOf_mem {fam : List NodeR} {r : NodeR} (nc : (fam.map (·.c)).Nodup) (hr : r ∈ fam) : suOf (fam.map (·.abs)) r.c = r.su := by
  unfold suOf; rw [find_abs nc hr]; rfl
theorem fam_uniq {fam : List NodeR} {q r : NodeR} (nc : (fam.map (·.c)).Nodup) (hq : q ∈ fam) (hr : r ∈ fam) (e : q.c = r.c) : q = r := by
  induction fam with
  | nil => cases hr
  | cons y fam ih =>
    rw [List.map_cons, List.nodup_cons] at nc
    cases hr with
    | head =>
      cases hq with
      | head => rfl
      | tail _ hq => exact absurd (List.mem_map.mpr ⟨q, hq, e⟩) nc.1
    | tail _ hr =>
      cases hq with
      | head => exact absurd (List.mem_map.mpr ⟨r, hr, e.symm⟩) nc.1
      | tail _ hq => exact ih nc.2 hq hr
/-- a node keeps its place while the counts turn -/
theorem keep_np {fam : List NodeR} {c q : Nat} {sa : Addr} {su : List Nat} {u : Int → Int} (h : ∃ r ∈ fam, r.c = c ∧ r.sa = sa ∧ r.su = su) : ∃ r ∈ updR q (fun v => (u v.1, v.2)) fam, r.c = c ∧ r.sa = sa ∧ r.su = su := by
  obtain ⟨r, hr, h1, h2, h3⟩ := h
  refine ⟨if r.c = q then r.upd (fun v => (u v.1, v.2)) else r, List.mem_map.mpr ⟨r, hr, rfl⟩, ?_⟩
  split <;> exact ⟨h1, h2, h3⟩
section
variable {w : World} {A : Around} {E : Value → Shared → Prop} {h : Heap} {g : Array GenState} {d : Drawn} {tk : Nat} {os : OsState} {a b : Int} {t u : Tok} {Q : Value → Shared → Prop}
theorem eIsub (q : ∀ t tk', Q (.int (a - b) t) ⟨h, g, d, tk', os⟩) : wpAny (model pw w) A (inplaceOp .Sub (.int a t) (.int b u)) Q E ⟨h, g, d, tk, os⟩ := PyProof.Rows.isub_int (q _ _)
end
section
variable {K : Frag} {w : World} {A : Around} {E : Value → Shared → Prop} {H h h' : Heap} {G : Led} {env : Env} {g : Array GenState} {d : Drawn} {tk : Nat} {os : OsState} {a x dx nd ra : Addr} {r : Value} {p f : Int} {t1 t2 : Tok} {fam : List NodeR} {rs : List Nat}
theorem mem_su {pre : Led} {r : NodeR} {sa : Addr} {su : List Nat} (hr : r ∈ fam) (h1 : r.sa = sa) (h2 : r.su = su) : (sa, lnP su) ∈ pre ++ (famL fam ++ G) := by
  subst h1 h2
  exact mem_pre hr (.tail _ (.tail _ (.head _)))
theorem done_spec {c : Nat} {t : Tok} {r₀ : NodeR} {Q : Value → Shared → Prop} (T : TopM K H) (hd : A.depth + 5 < recursionLimit) (hh : A.handled = none) (S : Sym H h (sortL w x dx nd (.ref ra) p t1 f t2 fam ++ ((ra, lnP rs) :: G))) (nc : (fam.map (·.c)).Nodup)
    (hr₀ : r₀ ∈ fam) (hc₀ : r₀.c = c) (hnp : r₀.np = -1) (hsu : ∀ q ∈ r₀.su, q ∈ fam.map (·.c)) (hl : rs.length + r₀.su.length ≤ 900)
    (k : ∀ h' tk' fam' rs' t, fam'.map (·.c) = fam.map (·.c) → (fam'.map (·.abs), rs') = doneS c (fam.map (·.abs)) rs → Sym H h' (sortL w x dx nd (.ref ra) p t1 (f + 1) t fam' ++ ((ra, lnP rs') :: G)) → Q .none ⟨h', g, d, tk', os⟩) :
    wpAny (model pw w) A (call (.ref 148) [.ref x, .str (nm c) t]) Q E ⟨h, g, d, tk, os⟩ := by
  refine wpAny_call (callFvC (vs := [.str (nm c) t]) (binds := fun v => [("self", .ref x), ("nodes", v)]) T.fdone T.lim (lt_z hd) S (by rfl) (by simp) fun h1 L ta tk1 S1 => ?_)
  have S1 := S1.renm (l' := [("self", .ref x), ("nodes", .ref ta)]) ⟨rfl, rfl, trivial⟩
  refine wpAny_execs_cons (wpAny_If (wpAny_isTrue_Compare1 (Attribute_any_ (ldL S1 rfl (getD T.toTopS S1 (.tail _ (.tail _ (.head _))) (.tail _ (.tail _ (.tail _ (.head _)))) rfl fun tk2 => Constant_none (is_none (wpAny_truthy_bool (itF rfl (wpAny_execs_nil ?_)))))))))
  refine wpAny_execs_cons (wpAny_Assign_Name (Attribute_any_ (ldL S1 rfl (getD T.toTopS S1 (.tail _ (.tail _ (.head _))) (.tail _ (.tail _ (.tail _ (.head _)))) rfl fun tk3 => stL S1 fun h2 tk4 S2 => ?_))))
  refine wpAny_execs_cons (wpAny_For (ldL S2 rfl (iterT S2 (.tail _ (.head _)) fun it h3 S3 => ?_)))
  refine forN (fun m s' => (m = 1 ∧ s' = ⟨h3, g, d, tk4, os⟩) ∨ (m = 0 ∧ ∃ h' tk' fam' rs' l t', s' = ⟨h', g, d, tk', os⟩ ∧ fam'.map (·.c) = fam.map (·.c) ∧ (fam'.map (·.abs), rs') = doneS c (fam.map (·.abs)) rs ∧
    Sym H h' ((L, nsP l) :: (it, itP "tuple_iterator" ta 1) :: (ta, tupP [.str (nm c) t]) :: (sortL w x dx nd (.ref ra) p t1 (f + 1) t' fam' ++ ((ra, lnP rs') :: G))))) ?_ 1 (.inl ⟨rfl, rfl⟩)
  rintro m s' (⟨rfl, rfl⟩ | ⟨rfl, h', tk', fam', rs', l, t', rfl, ec', es', S'⟩) Y Z hY hZ
  · refine nextT (v := .str (nm c) t) S3 (.tail _ (.head _)) rfl fun h4 S4 => ?_
    refine wpAny_assign_Name (stL S4.swap fun h5 tk5 S5 => ?_)
    obtain ⟨r1, hr1, hc1, hva⟩ := find_c (fam := fam) (c := c) (hc₀ ▸ List.mem_map.mpr ⟨r₀, hr₀, rfl⟩)
    obtain rfl : r1 = r₀ := fam_uniq nc hr1 hr₀ (hc1.trans hc₀.symm)
    refine wpAny_execs_cons (wpAny_If (wpAny_isTrue_Compare1 (wpAny_NamedExpr (dGet1 T.mods (ldL S5 rfl ⟨nd, rfl, ⟨_, _, S5, .tail _ (.tail _ (.tail _ (.tail _ (.tail _ (.head _)))))⟩, ldL S5 rfl ⟨_, _, nm c, t, rfl, S5, .tail _ (.tail _ (.tail _ (.tail _ (.tail _ (.head _))))), fun tk6 => ?_⟩⟩)))))
    rw [hva]
    refine wpAny_assign_Name (stL S5 fun h7 tk7 S7 => Constant_none (is_none (wpAny_truthy_bool (itF rfl (wpAny_execs_nil ?_)))))
    have S7 : Sym H h7 ((L, nsP [("nodeinfo", .ref r1.ia), ("node", .str (nm c) t), ("n2i", .ref nd), ("self", .ref x), ("nodes", .ref ta)]) :: (it, itP "tuple_iterator" ta 1) :: (ta, tupP [.str (nm c) t]) :: (sortL w x dx nd (.ref ra) p t1 f t2 fam ++ ((ra, lnP rs) :: G))) := S7
    refine wpAny_execs_cons (wpAny_Assign_Name (Attribute_any_ (ldL S7 rfl (fNp (pre := [_, _, _, _, _, _]) T.toTopS S7 hr1 fun t8 tk8 => stL S7 fun h9 tk9 S9 => ?_))))
    refine wpAny_execs_cons (wpAny_If (wpAny_isTrue_Compare1 (ldL S9 rfl (ldG T.toGlobs S9.keep rfl (PyProof.Rows.ne_int (wpAny_truthy_bool (itF (by rw [hnp]; rfl) (wpAny_execs_nil ?_))))))))
    refine wpAny_execs_cons (plainObj_wpAny_Assign_Attribute (ldG T.toGlobs S9.keep rfl (ldL S9 rfl ?_)))
    refine fSetNp (pre := [_, _, _, _, _, _]) T.toTopS S9 nc hr1 hc1 fun h10 tk10 S10 => ?_
    have S10 := S10.toSort (pre := [_, _, _])
    have hk10 : ∃ r ∈ updR c (fun v => (-2, v.2)) fam, r.c = c ∧ r.sa = r1.sa ∧ r.su = r1.su := keep_np (u := fun _ => -2) ⟨r1, hr1, hc1, rfl, rfl⟩
    have hia10 : ∃ r ∈ updR c (fun v => (-2, v.2)) fam, r.c = c ∧ r.ia = r1.ia ∧ r.sa = r1.sa := by
      refine ⟨_, List.mem_map.mpr ⟨r1, hr1, rfl⟩, ?_⟩
      rw [if_pos hc1]
      exact ⟨hc1, rfl, rfl⟩
    have ea10 := updR_abs c (fun v => (-2, v.2)) fam
    have ec10 := updR_c c (fun v => (-2, v.2)) fam
    revert S10 hk10 hia10 ea10 ec10
    generalize updR c (fun v => (-2, v.2)) fam = fam10
    intro S10 hk10 hia10 ea10 ec10
    obtain ⟨r10, hr10, hc10, hi10, hs10⟩ := hia10
    have edone : doneS c (fam.map (·.abs)) rs = r1.su.foldl decOne (fam10.map (·.abs), rs) := by
      unfold doneS
      rw [← hc1, suOf_mem nc hr1, ea10, hc1]
    refine cutO (fun s' => ∃ h' tk' fam' rs' l, s' = ⟨h', g, d, tk', os⟩ ∧ fam'.map (·.c) = fam.map (·.c) ∧ (fam'.map (·.abs), rs') = doneS c (fam.map (·.abs)) rs ∧ NsHas l [("self", .ref x), ("nodes", .ref ta)] ∧
      Sym H h' ((L, nsP l) :: (it, itP "tuple_iterator" ta 1) :: (ta, tupP [.str (nm c) t]) :: (sortL w x dx nd (.ref ra) p t1 f t2 fam' ++ ((ra, lnP rs') :: G)))) ?_ ?_
    · intro J hJ
      refine wpAny_For (Attribute_any_ (ldL S10 rfl ?_))
      rw [← hi10]
      refine fSu (pre := [_, _, _, _, _, _]) T.toTopS S10 hr10 fun tk11 => ?_
      rw [hs10]
      obtain ⟨r11, hr11, hc11, hs11, hu11⟩ := hk10
      refine iterN (cs := r1.su) S10 ?_ fun it2 h12 S12 => ?_
      · exact mem_su (pre := [_, _, _, _, _, _]) hr11 hs11 hu11
      refine forN (fun m s' => ∃ h' tk' fam' rs' i l, s' = ⟨h', g, d, tk', os⟩ ∧ Sym H h' ((L, nsP l) :: (it2, itP "list_iterator" r1.sa i) :: (it, itP "tuple_iterator" ta 1) :: (ta, tupP [.str (nm c) t]) :: (sortL w x dx nd (.ref ra) p t1 f t2 fam' ++ ((ra, lnP rs') :: G))) ∧
        NsHas l [("n2i", .ref nd), ("self", .ref x), ("nodes", .ref ta)] ∧ m = r1.su.length - i ∧ i ≤ r1.su.length ∧ fam'.map (·.c) = fam.map (·.c) ∧ (∃ r ∈ fam', r.c = c ∧ r.sa = r1.sa ∧ r.su = r1.su) ∧ rs'.length ≤ rs.length + i ∧
        (r1.su.drop i).foldl decOne (fam'.map (·.abs), rs') = doneS c (fam.map (·.abs)) rs) ?_ r1.su.length
        ⟨h12, _, fam10, rs, 0, _, rfl, S12.swap, ⟨rfl, rfl, rfl, trivial⟩, rfl, Nat.zero_le _, ec10, ⟨r11, hr11, hc11, hs11, hu11⟩, Nat.le_refl _, by rw [edone]; rfl⟩
      rintro m s' ⟨h', tk', fam', rs', i, l, rfl, S', hns, rfl, hi, ec', ⟨r', hr', hcr', hsr', hur'⟩, hlr, hf'⟩ Y1 Z1 hY1 hZ1
      have S' := (S'.renm hns).swap
      have hmem : (r1.sa, lnP r1.su) ∈ (L, nsP [("n2i", .ref nd), ("self", .ref x), ("nodes", .ref ta)]) :: (it, itP "tuple_iterator" ta 1) :: (ta, tupP [.str (nm c) t]) :: (sortL w x dx nd (.ref ra) p t1 f t2 fam' ++ ((ra, lnP rs') :: G)) := by
        exact mem_su (pre := [_, _, _, _, _, _]) hr' hsr' hur'
      cases hpi : r1.su[i]? with
      | none =>
        refine endN hh S' hmem hpi fun h13 S13 => ?_
        refine wpAny_execs_nil (hZ1 _ _ ⟨rfl, hJ _ ⟨h13, _, fam', rs', _, rfl, ec', ?_, ⟨rfl, rfl, trivial⟩, S13⟩⟩)
        rw [List.drop_eq_nil_of_le (List.getElem?_eq_none_iff.mp hpi)] at hf'
        exact hf'
      | some q =>
        have hlt := (List.getElem?_eq_some_iff.mp hpi).1
        have nc' : (fam'.map (·.c)).Nodup := by rw [ec']; exact nc
        refine nextN S' hmem hpi fun h13 t13 S13 => ?_
        refine wpAny_assign_Name (stL S13.swap fun h14 tk14 S14 => ?_)
        obtain ⟨rq, hrq, hcq, hvq⟩ := find_c (fam := fam') (c := q) (by rw [ec']; exact hsu q (List.mem_of_getElem? hpi))
        refine wpAny_execs_cons (wpAny_Assign_Name (Subscript_ (ldL S14 rfl (ldL S14 rfl (dSub S14 (.tail _ (.tail _ (.tail _ (.tail _ (.tail _ (.tail _ (.head _))))))) hvq fun tk15 => stL S14 fun h16 tk16 S16 => ?_)))))
        refine wpAny_execs_cons (wpAny_AugAssign_AttributeAny (ldL S16 rfl (fNp (pre := [_, _, _, _, _, _, _]) T.toTopS S16 hrq fun t17 tk17 => cInt fun t18 tk18 => eIsub fun t19 tk19 => ?_)))
        refine fSetNp (pre := [_, _, _, _, _, _, _]) T.toTopS S16 nc' hrq hcq fun h20 tk20 S20 => ?_
        have e20 : updR q (fun v => (rq.np - 1, v.2)) fam' = updR q (fun v => (v.1 - 1, v.2)) fam' := updR_congr nc' hrq hcq rfl
        rw [e20] at S20
        have S20 := S20.toSort (pre := [_, _, _, _])
        have hia : ∃ r ∈ updR q (fun v => (v.1 - 1, v.2)) fam', r.c = q ∧ r.ia = rq.ia := by
          refine ⟨_, List.mem_map.mpr ⟨rq, hrq, rfl⟩, ?_⟩
          rw [if_pos hcq]
          exact ⟨hcq, rfl⟩
        have hkc : ∃ r ∈ updR q (fun v => (v.1 - 1, v.2)) fam', r.c = c ∧ r.sa = r1.sa ∧ r.su = r1.su := keep_np (u := fun z => z - 1) ⟨r', hr', hcr', hsr', hur'⟩
        have ea := updR_abs q (fun v => (v.1 - 1, v.2)) fam'
        have ec := updR_c q (fun v => (v.1 - 1, v.2)) fam'
        rw [ec'] at ec
        revert S20 hia hkc ea ec
        generalize updR q (fun v => (v.1 - 1, v.2)) fam' = fam20
        intro S20 hia hkc ea ec
        obtain ⟨r20, hr20, hc20, hi20⟩ := hia
        have nc20 : (fam20.map (·.c)).Nodup := by rw [ec]; exact nc
        have enp : npOf (updA q (fun v => (v.1 - 1, v.2)) (fam'.map (·.abs))) q = r20.np := by rw [← ea, ← hc20]; exact npOf_mem nc20 hr20
        have step : ∀ rs'', rs'' = (if r20.np = 0 then rs' ++ [q] else rs') → (r1.su.drop (i + 1)).foldl decOne (fam20.map (·.abs), rs'') = doneS c (fam.map (·.abs)) rs := by
          intro rs'' e''
          rw [← hf', List.drop_eq_getElem_cons hlt, List.foldl_cons]
          have : r1.su[i] = q := (List.getElem?_eq_some_iff.mp hpi).2
          rw [this]
          congr 1
          show _ = (updA q _ _, if npOf (updA q _ (fam'.map (·.abs))) q = 0 then _ else _)
          rw [enp, ea, e'']
        refine wpAny_execs_cons (wpAny_If (wpAny_isTrue_Compare1 (Attribute_any_ (ldL S20 rfl ?_))))
        rw [← hi20]
        refine fNp (pre := [_, _, _, _, _, _, _]) T.toTopS S20 hr20 fun t21 tk21 => cInt fun t22 tk22 => PyProof.Rows.eq_int (wpAny_truthy_bool ?_)
        by_cases hz : r20.np = 0
        · refine itT (by rw [hz]; rfl) ?_
          obtain ⟨vs, hn, S21⟩ := (S20.slip (X := [_, _, _, _] ++ sortL w x dx nd (.ref ra) p t1 f t2 fam20) (Y := [(ra, lnP rs')])).lnOpen
          obtain ⟨ob, o1, o2, o3⟩ := S21.isObj (a := ra) (.head _)
          have S21 := S21.front 1 rfl
          refine wpAny_execs_cons (wpAny_Expr (appendL (Attribute_any_ (ldL S21 rfl (getD T.toTopS S21 (.tail _ (.tail _ (.tail _ (.tail _ (.tail _ (.head _)))))) (.tail _ (.tail _ (.tail _ (.tail _ (.tail _ (.tail _ (.head _))))))) rfl fun tk23 =>
            ⟨ra, ob, rfl, o1, o2, o3, ldL S21 rfl ⟨vs, H, _, by rw [hn.length]; omega, S21.swap, fun h24 S24 => wpAny_execs_nil ?_⟩⟩)))))
          have S24 := (S24.lnClose (hn.snoc q t13)).front 1 rfl
          refine wpAny_execs_nil (hY1 _ _ ⟨r1.su.length - (i + 1), Nat.sub_succ_lt_self _ _ hlt, h24, _, fam20, rs' ++ [q], i + 1, [("successor_info", .ref rq.ia), ("successor", .str (nm q) t13), ("n2i", .ref nd), ("self", .ref x), ("nodes", .ref ta)], rfl, S24.perm ?_, ⟨rfl, rfl, rfl, trivial⟩, rfl, hlt, ec, hkc, by simp; omega, step _ (by rw [if_pos hz])⟩)
          (refine perm_sum fun _ => ?_; (try simp only [locals_eq, List.append_eq, sortL, famL_app, famL_cons, famL_nil, NodeR.ent, List.cons_append, List.nil_append, List.append_assoc, List.eraseIdx_cons_succ, List.eraseIdx_cons_zero]); (try simp only [List.map_append, List.map_cons, List.map_nil, List.sum_append, List.sum_cons, List.sum_nil, Nat.add_zero, Nat.zero_add, Nat.add_assoc]); (try ac_rfl))
        · refine itF (by simpa using hz) (wpAny_execs_nil ?_)
          exact wpAny_execs_nil (hY1 _ _ ⟨r1.su.length - (i + 1), Nat.sub_succ_lt_self _ _ hlt, h20, _, fam20, rs', i + 1, _, rfl, S20, ⟨rfl, rfl, rfl, trivial⟩, rfl, hlt, ec, hkc, by omega, step _ (by rw [if_neg hz])⟩)
    · rintro _ ⟨h', tk', fam', rs', l, rfl, ec', es', hns, S'⟩
      have S' := S'.renm hns
      refine wpAny_execs_cons (wpAny_AugAssign_AttributeAny (ldL S' rfl (getD T.toTopS S' (.tail _ (.tail _ (.tail _ (.head _)))) (.tail _ (.tail _ (.tail _ (.tail _ (.head _))))) rfl fun tk8 => cInt fun t9 tk9 => eIadd fun t10 tk10 =>
        setD T.toTopS (S'.front 4 rfl) (.tail _ (.tail _ (.tail _ (.head _)))) (fun h11 tk11 S11 => ?_) (by simp [sd]))))
      have S11 := (S11.weak (P' := nsE _) fun o q => q.eqv (sd_f _ _ _ _ _)).front 1 rfl
      refine wpAny_execs_nil (hY _ _ ⟨0, by omega, .inr ⟨rfl, h11, _, fam', rs', [("self", .ref x), ("nodes", .ref ta)], t10, rfl, ec', es', S11.perm ?_⟩⟩)
      (refine perm_sum fun _ => ?_; (try simp only [locals_eq, List.append_eq, sortL, famL_app, famL_cons, famL_nil, NodeR.ent, List.cons_append, List.nil_append, List.append_assoc, List.eraseIdx_cons_succ, List.eraseIdx_cons_zero]); (try simp only [List.map_append, List.map_cons, List.map_nil, List.sum_append, List.sum_cons, List.sum_nil, Nat.add_zero, Nat.zero_add, Nat.add_assoc]); (try ac_rfl))
  · refine endT hh S'.swap (.tail _ (.head _)) rfl fun h4 S4 => ?_
    refine wpAny_execs_nil (hZ _ _ (wpAny_execs_nil (k _ _ fam' rs' _ ec' es' S4.tail.tail)))
end
end Mine

namespace Mine
open PySem PySem.Calls PyProof.Rows PySem.W Builtin Builtin.ObjectAttr Builtin.Getset_descriptor
theorem li_ga_slot : Slot "list_iterator" "__getattribute__" "object.__getattribute__" :=
  .of (owner := "object") (n := "__getattribute__") (by rw [typeLookup_type, builtinLookup_eq_fast]; kernel_rfl) (by decide +kernel) (by decide +kernel) (by decide +kernel)
    (by first | exact .inl (by decide +kernel) | exact .inr (by decide +kernel)) (by rw [isSubtype_type]; kernel_rfl)
theorem ty_next : typeOf (.builtin "list_iterator.__next__") = pure (.type "wrapper_descriptor") := by show builtinType _ = _; rw [builtinType_eq_fast]; kernel_rfl
theorem wd_get : Slot "wrapper_descriptor" "__get__" "wrapper_descriptor.__get__" :=
  .of (owner := "wrapper_descriptor") (n := "__get__") (by rw [typeLookup_type, builtinLookup_eq_fast]; kernel_rfl) (by decide +kernel) (by decide +kernel) (by decide +kernel)
    (by first | exact .inl (by decide +kernel) | exact .inr (by decide +kernel)) (by rw [isSubtype_type]; kernel_rfl)
theorem wd_set : typeLookup (.type "wrapper_descriptor") "__set__" = pure none := by rw [typeLookup_type, builtinLookup_eq_fast]; kernel_rfl
theorem wd_del : typeLookup (.type "wrapper_descriptor") "__delete__" = pure none := by rw [typeLookup_type, builtinLookup_eq_fast]; kernel_rfl
theorem it_entry : entryFor table "iter" = some Builtin.«iter» := entryFor_of_tree (by kernel_rfl)
theorem it_args (a : Value) : argsOk "iter" ⟨[a], []⟩ := by unfold argsOk; kernel_rfl
theorem wd_entry : entryFor table "wrapper_descriptor.__get__" = some Builtin.«wrapper_descriptor.__get__» := entryFor_of_tree (by kernel_rfl)
theorem wd_args (a b c : Value) : argsOk "wrapper_descriptor.__get__" ⟨[a, b, c], []⟩ := by unfold argsOk; kernel_rfl
theorem mw_check (x : Value) : checkBoundCall "list_iterator.__next__" ⟨[x], []⟩ = pure () := by kernel_rfl
section
variable {K : Frag} {w : World} {A : Around} {E : Value → Shared → Prop} {H h h' : Heap} {G : Led} {env : Env} {g : Array GenState} {d : Drawn} {tk : Nat} {os : OsState} {a x dx nd ra it : Addr} {t : Tok}
theorem find_next {Q : Found → Shared → Prop} (e : h.get? it = some { cls := .type "list_iterator", data := .fields #[.ref a, .int 0 0] }) (k : Q (.bind (.builtin "wrapper_descriptor.__get__") (.builtin "list_iterator.__next__")) ⟨h, g, d, tk, os⟩) :
    wpAny (model pw w) A (find (.ref it) (.type "list_iterator") "__next__") Q E ⟨h, g, d, tk, os⟩ := by
  unfold find
  have hT : (⟨h, g, d, tk, os⟩ : Shared).TypeIs (.builtin "list_iterator.__next__") "wrapper_descriptor" := ty_next
  refine wpAny_bind (wpAny_of_eq slot_listiter_next.lookup ?_)
  refine wpAny_bind (wpAny_specialOf hT wd_get.lookup ?_)
  refine wpAny_bind (wpAny_bind (wpAny_bind (wpAny_specialOf hT wd_set ?_)))
  refine wpAny_bind (wpAny_specialOf hT wd_del ?_)
  refine wpAny_pure (wpAny_pure ?_)
  unfold ownThenClass inOwnDict PySem.Builtin.ObjectAttr.ownDict
  repeat lk
  exact k
theorem wd_call {Q : Value → Shared → Prop} (e : h.get? it = some { cls := .type "list_iterator", data := .fields #[.ref a, .int 0 0] })
    (k : Q (.ref h.objs.size) ⟨h.push { cls := .type "method-wrapper", data := .fields #[.builtin "list_iterator.__next__", .ref it] }, g, d, tk, os⟩) :
    wpAny (model pw w) A (call (.builtin "wrapper_descriptor.__get__") [.builtin "list_iterator.__next__", .ref it, .type "list_iterator"]) Q E ⟨h, g, d, tk, os⟩ := by
  have hT : (⟨h, g, d, tk, os⟩ : Shared).TypeIs (.builtin "list_iterator.__next__") "wrapper_descriptor" := ty_next
  refine callB wd_get hT wd_entry ?_ (wd_args _ _ _)
  unfold Builtin.«wrapper_descriptor.__get__»
  repeat lk
  exact k
theorem next_call {Q : Value → Shared → Prop} (e : h.get? it = some { cls := .type "list_iterator", data := .fields #[.ref a, .int 0 0] })
    (k : Q (.ref h.objs.size) ⟨h.push { cls := .type "method-wrapper", data := .fields #[.builtin "list_iterator.__next__", .ref it] }, g, d, tk, os⟩) :
    wpAny (model pw w) A (call (.builtin "object.__getattribute__") [.ref it, .str "__next__" t]) Q E ⟨h, g, d, tk, os⟩ := by
  have hT : (⟨h, g, d, tk, os⟩ : Shared).TypeIs (.ref it) "list_iterator" := ⟨_, e, rfl⟩
  refine callB li_ga_slot hT F.entry_object_getattribute ?_ (F.args_object_getattribute_2 _ _)
  unfold Builtin.«object.__getattribute__»
  repeat (first | ((with_reducible show wpAny _ _ (find _ _ _) _ _ _); refine find_next e ?_) | ((with_reducible show wpAny _ _ (call _ _) _ _ _); refine wd_call e ?_) | lk)
  exact k
theorem get_next {Q : Value → Shared → Prop} (e : h.get? it = some { cls := .type "list_iterator", data := .fields #[.ref a, .int 0 0] })
    (k : Q (.ref h.objs.size) ⟨h.push { cls := .type "method-wrapper", data := .fields #[.builtin "list_iterator.__next__", .ref it] }, g, d, tk + 1, os⟩) :
    wpAny (model pw w) A (getAttr (.ref it) "__next__" true) Q E ⟨h, g, d, tk, os⟩ := by
  have hT : ∀ tk', (⟨h, g, d, tk', os⟩ : Shared).TypeIs (.ref it) "list_iterator" := fun _ => ⟨_, e, rfl⟩
  unfold getAttr
  refine wpAny_bind (wpAny_mkText ?_)
  unfold getAttrBy
  refine wpAny_holding ?_
  refine wpAny_bind (wpAny_typeOf (hT _) ?_)
  refine wpAny_bind (wpAny_of_eq li_ga_slot.lookup ?_)
  show wpAny _ _ (getAttrByItsOwn _ _ _ _ _ _) _ _ _
  unfold getAttrByItsOwn
  refine wpAny_bind (wpAny_pure ?_)
  refine wpAny_bind (wpAny_attempt (wpAny_holding ?_))
  show wpAny _ _ (boundAndCalled _ _ _) _ _ _
  unfold boundAndCalled
  refine wpAny_bind (wpAny_of_eq (li_ga_slot.bind _) ?_)
  refine next_call e ?_
  exact wpAny_pure k
/-- an exception that no frame has noted yet -/
noncomputable def excN (C : Value) (o : Obj) : Prop := o.cls = C ∧ ∃ vs, o.data = .fields vs ∧ vs[1]? = some .none
noncomputable def mwP (it : Addr) (o : Obj) : Prop := o = { cls := .type "method-wrapper", data := .fields #[.builtin "list_iterator.__next__", .ref it] }
/-- `iter(xs).__next__`: the iterator, then its bound method -/
theorem iterN_call {cs : List Nat} {Q : Value → Shared → Prop} (S : Sym H h G) (m : (a, lnP cs) ∈ G) (k : ∀ it h', Sym H h' ((it, fun o => o = { cls := .type "list_iterator", data := .fields #[.ref a, .int 0 0] }) :: G) → Q (.ref it) ⟨h', g, d, tk, os⟩) :
    wpAny (model pw w) A (call (.builtin "iter") [.ref a]) Q E ⟨h, g, d, tk, os⟩ := by
  obtain ⟨ol, el, vs, ⟨n, rfl⟩, hn⟩ := S.get m
  refine call_function_entry (by decide +kernel) (by decide +kernel) it_entry (it_args _) ?_
  unfold Builtin.«iter»
  refine wpAny_bind (m := someArgs "iter" 1 2 _) (wpAny_of_eq (a := [Value.ref a]) (by first | rfl | kernel_rfl!) ?_)
  show wpAny _ _ (pyIter (.ref a) >>= _) _ _ _
  refine wpAny_bind (wpAny_pyIter_list (s := ⟨h, g, d, tk, os⟩) ⟨_, el, rfl, n, rfl⟩ ?_)
  exact wpAny_pure ⟨_, rfl, k _ _ (S.push rfl rfl)⟩
theorem getNext {Q : Value → Shared → Prop} (S : Sym H h ((it, fun o => o = { cls := .type "list_iterator", data := .fields #[.ref a, .int 0 0] }) :: G))
    (k : ∀ m h' tk', Sym H h' ((m, mwP it) :: (it, itP "list_iterator" a 0) :: G) → Q (.ref m) ⟨h', g, d, tk', os⟩) :
    wpAny (model pw w) A (getAttr (.ref it) "__next__" true) Q E ⟨h, g, d, tk, os⟩ := by
  obtain ⟨o, e, rfl⟩ := S.head
  exact get_next e (k _ _ _ ((S.weak fun o q => by subst q; exact ⟨rfl, rfl⟩).push rfl rfl))
/-- the bound `__next__` is called -/
theorem mw_open {m : Addr} {R : Result → Shared → Prop} (S : Sym H h G) (mm : (m, mwP it) ∈ G) (k : codeAny (model pw w) A (.builtin "list_iterator.__next__" ⟨[.ref it], []⟩) R ⟨h, g, d, tk, os⟩) :
    codeAny (model pw w) A (.call (.ref m) ⟨[], []⟩) R ⟨h, g, d, tk, os⟩ := by
  obtain ⟨o, e, rfl⟩ := S.get mm
  refine codeAny_of_tree ?_
  show wpAny _ _ (callAny (.ref m) _) _ _ _
  refine nd_load e ?_
  show wpAny _ _ (checkBoundCall "list_iterator.__next__" ⟨[.ref it], []⟩ >>= fun _ => again (.builtin "list_iterator.__next__" ⟨[.ref it], []⟩)) _ _ _
  refine wpAny_bind (wpAny_of_eq (mw_check _) ?_)
  exact wpAny_pure ⟨plainId_quiet slot_listiter_next.plain _, k⟩
theorem mw_next {m : Addr} {i c : Nat} {cs : List Nat} {Q : Value → Shared → Prop} (S : Sym H h ((it, itP "list_iterator" a i) :: G)) (mm : (m, mwP it) ∈ G) (ma : (a, lnP cs) ∈ G) (hv : cs[i]? = some c)
    (k : ∀ h' t, Sym H h' ((it, itP "list_iterator" a (i + 1)) :: G) → Q (.str (nm c) t) ⟨h', g, d, tk, os⟩) : wpAny (model pw w) A (call (.ref m) []) Q E ⟨h, g, d, tk, os⟩ := by
  obtain ⟨o, e, p1, p2⟩ := S.head
  obtain ⟨ol, el, vs, ⟨n, rfl⟩, hn⟩ := S.get (.tail _ ma)
  obtain ⟨t, ht⟩ := hn.get' hv
  refine wpAny_call (mw_open S (.tail _ mm) (codeAny_builtin entry_listiter_next ?_))
  rw [Around.under_plainId slot_listiter_next.plain _]
  show wpAny _ _ (field (.ref it) 0 >>= _) _ _ _
  refine wpAny_bind (wpAny_field e p2 (x := .ref a) rfl ?_)
  show wpAny _ _ (if (Value.ref a == Value.none) = true then _ else _) _ _ _
  rw [if_neg (show ¬ ((Value.ref a == Value.none) = true) from Bool.false_ne_true)]
  show wpAny _ _ (field (.ref it) 1 >>= _) _ _ _
  refine wpAny_bind (wpAny_field e p2 (x := .int i 0) rfl ?_)
  show wpAny _ _ (seqItems? (.ref a) >>= _) _ _ _
  refine wpAny_bind (wpAny_seqItems el rfl ?_)
  have ht' : vs.toArray[i]? = some (.str (nm c) t) := by simpa using ht
  simp only [Int.toNat_natCast, ht']
  refine wpAny_bind (wpAny_setField e p2 (by simp) (wpAny_pure (k _ t (S.upd (Heap.SameBut.update ..) (Heap.get?_update_self _ e (Obj.isFreed_of_fields (Obj.data_mapFields p2 _))) ⟨(Obj.cls_mapFields ..).trans p1, by
    rw [Obj.data_mapFields p2]; simp [rawInt]⟩))))
/-- the bound `__next__` at the end raises StopIteration -/
theorem mw_end {m : Addr} {i : Nat} {cs : List Nat} {Q : Value → Shared → Prop} (hh : A.handled = none) (S : Sym H h ((it, itP "list_iterator" a i) :: G)) (mm : (m, mwP it) ∈ G) (ma : (a, lnP cs) ∈ G) (hv : cs[i]? = none)
    (k : ∀ h' ex, Sym H h' ((ex, excN (.type "StopIteration")) :: G) → E (.ref ex) ⟨h', g, d, tk, os⟩) : wpAny (model pw w) A (call (.ref m) []) Q E ⟨h, g, d, tk, os⟩ := by
  obtain ⟨o, e, p1, p2⟩ := S.head
  obtain ⟨ol, el, vs, ⟨n, rfl⟩, hn⟩ := S.get (.tail _ ma)
  refine wpAny_call (mw_open S (.tail _ mm) (codeAny_builtin entry_listiter_next ?_))
  rw [Around.under_plainId slot_listiter_next.plain _]
  show wpAny _ _ (field (.ref it) 0 >>= _) _ _ _
  refine wpAny_bind (wpAny_field e p2 (x := .ref a) rfl ?_)
  show wpAny _ _ (if (Value.ref a == Value.none) = true then _ else _) _ _ _
  rw [if_neg (show ¬ ((Value.ref a == Value.none) = true) from Bool.false_ne_true)]
  show wpAny _ _ (field (.ref it) 1 >>= _) _ _ _
  refine wpAny_bind (wpAny_field e p2 (x := .int i 0) rfl ?_)
  show wpAny _ _ (seqItems? (.ref a) >>= _) _ _ _
  refine wpAny_bind (wpAny_seqItems el rfl ?_)
  have hx : vs.toArray[i]? = none := by
    have := List.getElem?_eq_none_iff.mp hv
    simp only [List.getElem?_toArray, List.getElem?_eq_none_iff]
    rw [hn.length]; exact this
  simp only [Int.toNat_natCast, hx]
  refine wpAny_bind (wpAny_rule (wpAny_bind (wpAny_setField e p2 (by simp) ?_)))
  show wpAny _ _ (newExc (.type "StopIteration") [] >>= _) _ _ _
  refine wpAny_bind ?_
  simp only [newExc, newTuple]
  refine wpAny_bind (wpAny_newObj_type ?_ (by size_fits))
  refine wpAny_bind (m := firstArgMember _ _) (wpAny_of_eq (a := Value.none) (by first | rfl | (simp only [firstArgMember]; rfl)) ?_)
  refine wpAny_newObj_type ?_ (by size_fits)
  simp only [raiseNew]
  refine wpAny_bind (wpAny_handled ?_)
  rw [show A.in1.handled = none from hh]
  refine wpAny_bind (wpAny_pure (wpAny_throw ?_))
  have S1 : Sym H (h.update it (Obj.mapFields fun x => x.setIfInBounds 0 Value.none)) G := S.extTail (Heap.SameBut.update ..).extBut
  exact k _ _ ((S1.grow fun b o e => Heap.get?_push_of_some _ e).push rfl ⟨rfl, _, rfl, rfl⟩)
end
end Mine

namespace Mine
open PySem PySem.Calls PyProof.Rows PySem.W
noncomputable def excT (C : Value) (T : Addr) (o : Obj) : Prop := o.cls = C ∧ ∃ vs, o.data = .fields vs ∧ vs[1]? = some (.ref T)
noncomputable def tbP (o : Obj) : Prop := ∃ ts, o.data = .fields ts ∧ ts[3]? = some .none
/-- the frames of the stack stand in the ledger -/
noncomputable def FrIn (G : Led) (fs : List Env) : Prop := ∀ env ∈ fs, env.scope.kind ≠ .module ∧ ∃ L l, env.frame = some L ∧ (L, nsP l) ∈ G
theorem FrIn.sub {G G' : Led} {fs : List Env} (f : FrIn G fs) (k : ∀ p ∈ G, p ∈ G') : FrIn G' fs := fun env he => let ⟨h, L, l, a, b⟩ := f env he; ⟨h, L, l, a, k _ b⟩
theorem nsP.slots {l : List (Str × Value)} {o : Obj} (p : nsP l o) (sl : Array (Option Value)) : nsP l { o with slots := sl } := p
theorem uniq_led {G : Led} {a : Addr} {P P' : Obj → Prop} (nd : (G.map (·.1)).Nodup) (h : (a, P) ∈ G) (h' : (a, P') ∈ G) : P = P' := by
  induction G with
  | nil => cases h
  | cons q G ih =>
    rw [List.map_cons, List.nodup_cons] at nd
    cases h with
    | head =>
      cases h' with
      | head => rfl
      | tail _ h' => exact absurd (List.mem_map.mpr ⟨_, h', rfl⟩) nd.1
    | tail _ h =>
      cases h' with
      | head => exact absurd (List.mem_map.mpr ⟨_, h, rfl⟩) nd.1
      | tail _ h' => exact ih nd.2 h h'
section
variable {M : Model} {K : Frag} {w : World} {A : Around} {E : Value → Shared → Prop} {H h h' : Heap} {G : Led} {env : Env} {outer : List Env} {g : Array GenState} {d : Drawn} {tk : Nat} {os : OsState} {a x dx nd ra it ex L : Addr} {C : Value}
theorem funFr {base : Heap} {fs : List Env} (S : Sym H h G) (hf : FrIn G fs) (hb : ∀ b ∈ fs.filterMap (·.frame), base.get? b = none) : h.FunFrames base fs := by
  induction fs with
  | nil => trivial
  | cons env fs ih =>
    obtain ⟨hk, L, l, e, m⟩ := hf env (.head _)
    obtain ⟨o, ho, q, es, ep, hd, _⟩ := S.get m
    refine ⟨hk, ⟨L, o, e, hb L (by rw [List.filterMap_cons, e]; exact .head _), ho, fun vs z => by rw [hd] at z; cases z⟩, ih (fun e he => hf e (.tail _ he)) fun b hb' => hb b ?_⟩
    rw [List.filterMap_cons, e]; exact .tail _ hb'
/-- what the ledger says after the frame was noted -/
theorem left_sym {P : Obj → Prop} (S : Sym H h ((ex, P) :: G)) (hf : FrIn G (env :: outer)) (hl : Heap.Left (hideAll h (ex :: (env :: outer).filterMap (·.frame))) (env :: outer) ex C h h') : ∃ T, Sym H h' ((ex, excT C T) :: (T, tbP) :: G) := by
  obtain ⟨k1, k2, ⟨oe, vs, T, oT, ts, he, hc, hd, h1, hT0, hTe, hT, hdT, h3⟩, k4⟩ := hl
  have frm : ∀ b ∈ (env :: outer).filterMap (·.frame), ∃ l, (b, nsP l) ∈ G := fun b hb => by
    obtain ⟨e, he, hb⟩ := List.mem_filterMap.mp hb
    obtain ⟨_, L, l, e1, m⟩ := hf e he
    rw [e1] at hb; cases hb
    exact ⟨l, m⟩
  have hexG : ∀ p ∈ G, p.1 ≠ ex := fun p hp => S.ne hp
  have hidT : T ∉ ex :: (env :: outer).filterMap (·.frame) := fun hm => by
    cases hm with
    | head => exact hTe rfl
    | tail _ hm =>
      obtain ⟨_, o, ho, hnf⟩ := k2.mem hm
      rw [hT] at ho; cases ho
      exact hnf ts hdT
  have hTn : h.get? T = none := by
    cases q : h.get? T with
    | none => rfl
    | some o => rw [hideAll_get _ q hidT] at hT0; cases hT0
  have keepH : ∀ b o, H.get? b = some o → h'.get? b = some o := fun b o e => k1 b o (hideAll_get _ (S.keep b o e) fun hm => by
    cases hm with
    | head => have := S.new _ (.head _); dsimp only at this; rw [this] at e; cases e
    | tail _ hm =>
      obtain ⟨l, m⟩ := frm b hm
      have := S.new _ (.tail _ m); dsimp only at this; rw [this] at e; cases e)
  refine ⟨T, keepH, fun p hp => ?_, fun p hp => ?_, ?_⟩
  · cases hp with
    | head => exact ⟨oe, he, hc, vs, hd, h1⟩
    | tail _ hp =>
      cases hp with
      | head => exact ⟨oT, hT, ts, hdT, h3⟩
      | tail _ hp =>
        obtain ⟨o, ho, pp⟩ := S.ent p (.tail _ hp)
        by_cases hm : p.1 ∈ (env :: outer).filterMap (·.frame)
        · obtain ⟨l, m⟩ := frm _ hm
          have e : p.2 = nsP l := uniq_led S.tail.nd (a := p.1) hp m
          rw [e] at pp
          obtain ⟨q, es, ep, hd', _⟩ := id pp
          obtain ⟨sl, hs⟩ := k4 p.1 o ho fun vs z => by rw [hd'] at z; cases z
          exact ⟨_, hs, by rw [e]; exact pp.slots sl⟩
        · refine ⟨o, k1 _ _ (hideAll_get _ ho fun z => ?_), pp⟩
          cases z with
          | head => exact hexG p hp rfl
          | tail _ z => exact hm z
  · cases hp with
    | head => exact S.new (ex, P) (.head _)
    | tail _ hp =>
      cases hp with
      | head => exact S.none_of hTn
      | tail _ hp => exact S.tail.new p hp
  · have nd := S.nd
    rw [List.map_cons, List.nodup_cons] at nd ⊢
    refine ⟨fun z => ?_, List.nodup_cons.mpr ⟨S.tail.fresh hTn, nd.2⟩⟩
    rw [List.map_cons] at z
    cases z with
    | head => exact hTe rfl
    | tail _ z => exact nd.1 z
/-- the first frame notes the exception -/
theorem noteNew {Q : Unit → Shared → Prop} (hfr : A.frames = some (env :: outer)) (hf : FrIn G (env :: outer)) (S : Sym H h ((ex, excN C) :: G))
    (k : ∀ h' T, Sym H h' ((ex, excT C T) :: (T, tbP) :: G) → Q () ⟨h', g, d, tk, os⟩) :
    wpAny M A (noteFrame (.ref ex) env) (fun _ s' => wpAny M A (setFlight (.ref ex) none) Q E s') E ⟨h, g, d, tk, os⟩ := by
  obtain ⟨o, e, hc, vs, hd, h1⟩ := S.head
  obtain ⟨_, L, l, hL, m⟩ := hf env (.head _)
  unfold noteFrame
  simp only [hL]
  refine wpAny_bind (wpAny_field e hd h1 ?_)
  rw [if_neg (by decide)]
  refine wpAny_newEntry (base := hideAll h (ex :: (env :: outer).filterMap (·.frame))) hfr (funFr S.tail hf fun b hb => hideAll_none _ (.tail _ hb)) hL e (fun b o q => of_hideAll _ q) (hideAll_none _ (.head _)) hd (Array.getElem?_eq_some_iff.mp h1).1 fun h' hl => ?_
  rw [hc] at hl
  obtain ⟨T, S'⟩ := left_sym S hf hl
  exact k h' T S'
theorem landAgain {T : Addr} {Q : Unit → Shared → Prop} (S : Sym H h ((ex, excT C T) :: (T, tbP) :: G)) (k : ∀ h', Sym H h' ((ex, excT C T) :: (T, tbP) :: G) → Q () ⟨h', g, d, tk, os⟩) :
    wpAny M A (setFlight (.ref ex) none) Q E ⟨h, g, d, tk, os⟩ := by
  obtain ⟨o, e, hc, vs, hd, h1⟩ := S.head
  obtain ⟨oT, eT, ts, hdT, h3⟩ := S.tail.head
  have hsz := (Array.getElem?_eq_some_iff.mp h3).1
  unfold setFlight
  refine wpAny_bind (wpAny_field e hd h1 ?_)
  rw [if_pos (show (Value.ref T != Value.none) = true from by simp)]
  refine wpAny_setField eT hdT hsz (k _ ?_)
  refine Sym.swap (S.swap.upd (Heap.SameBut.update ..) (Heap.get?_update_self _ eT (Obj.isFreed_of_fields (Obj.data_mapFields hdT _))) ⟨_, Obj.data_mapFields hdT _, ?_⟩)
  simp [hsz]
/-- `except StopIteration:` catches it -/
theorem caughtStop {T : Addr} {b₀ : Stmt} {suite : List Stmt} {pos np : Pos} {Q : Flow → Shared → Prop} (N : Globs H) (S : Sym H h ((ex, excT (.type "StopIteration") T) :: (T, tbP) :: G))
    (k : ∀ h', Sym H h' ((ex, excT (.type "StopIteration") T) :: (T, tbP) :: G) → wpAny (model pw w) (A.mark (some (.ref ex))) (execs (b₀ :: suite) env) Q (notedBy (model pw w) (A.mark (some (.ref ex))) env (cameBackBy (model pw w) A env E)) ⟨h', g, d, tk, os⟩)
    (hk : env.scope.kind = .function := by rfl) (hl : env.kindOf "StopIteration" = some .globalImplicit := by rfl) (hg : env.globals = 3 := by rfl) (hb : env.builtins = 0 := by rfl) :
    wpAny (model pw w) A (handleBy (.ref ex) env [.ExceptHandler (some (.Name "StopIteration" np)) none (b₀ :: suite) pos]) Q E ⟨h, g, d, tk, os⟩ := by
  obtain ⟨o, e, hc, vs, hd, h1⟩ := S.head
  refine wpAny_handleBy_builtin (X := "StopIteration") (T := "StopIteration") (b := true) (by rw [isSubtype_type]; kernel_rfl) (by rw [isSubtype_type]; kernel_rfl) (by rw [isSubtype_type]; kernel_rfl) (ldB N S.keep rfl ⟨rfl, ⟨o, e, hc⟩, ?_⟩ hk hl hg hb)
  exact landAgain S fun h' S' => k h' S'
end
end Mine

namespace Mine
open PySem PySem.Calls PyProof.Rows PySem.W
/-- a set of names -/
noncomputable def setP (w : World) (cs : List Nat) (o : Obj) : Prop := ∃ es ep t n, o.ExactSet ∧ o.data = .set es ep t ∧ ElemsOf (strKind pw w) es.toList ∧ (∀ k, (cs.map nm).contains k = true ↔ ∃ e ∈ es.toList, (strKind pw w).is k e.2 = true)
    ∧ es.size < scanBound ∧ t.fits es.size = true ∧ es.size = n ∧ n ≤ cs.length
noncomputable def dctA (w : World) (kvs : List (Str × Value)) (ep : Nat) (o : Obj) : Prop := (∀ (h : Heap) (a : Addr), h.get? a = some o → h.DictAt (strKind pw w) a kvs ep) ∧ dctP w kvs o
noncomputable def keyItP (d : Addr) (i n ep : Nat) (o : Obj) : Prop := o.cls = .type "dict_keyiterator" ∧ o.data = .fields #[.ref d, .int i 0, .int n 0, .int ep 0]
theorem is_str {w : World} {k : Str} {v : Value} (h : (strKind pw w).is k v = true) : ∃ t, v = .str k t := by
  cases v with
  | str x t =>
    refine ⟨t, ?_⟩
    have := (strKind pw w).inj (.str x t) k x h (strKind_is pw w x t)
    rw [this]
  | _ => cases h
section
variable {K : Frag} {w : World} {A : Around} {E : Value → Shared → Prop} {H h h' : Heap} {G : Led} {env : Env} {g : Array GenState} {d : Drawn} {tk : Nat} {os : OsState} {a b x dx nd : Addr} {l kvs : List (Str × Value)} {vs us : List Value}
theorem Sym.openD (S : Sym H h ((a, dctP w kvs) :: G)) : ∃ ep, Sym H h ((a, dctA w kvs ep) :: G) := by
  obtain ⟨o, e, q⟩ := S.head
  obtain ⟨ep, q'⟩ : ∃ ep, dctA w kvs ep o := by
    have q0 := q
    obtain ⟨es, ep, r⟩ := q
    exact ⟨ep, fun h a e => ⟨o, es, e, r⟩, q0⟩
  refine ⟨ep, S.keep, fun r hr => ?_, fun r hr => ?_, S.nd⟩
  · cases hr with
    | head => exact ⟨o, e, q'⟩
    | tail _ hr => exact S.ent r (.tail _ hr)
  · cases hr with
    | head => exact S.new (a, dctP w kvs) (.head _)
    | tail _ hr => exact S.new r (.tail _ hr)
theorem Sym.closeD {ep : Nat} (S : Sym H h ((a, dctA w kvs ep) :: G)) : Sym H h ((a, dctP w kvs) :: G) := S.weak fun o q => q.2
theorem Sym.dictA {ep : Nat} (S : Sym H h G) (m : (a, dctA w kvs ep) ∈ G) : h.DictAt (strKind pw w) a kvs ep := by
  obtain ⟨o, e, q⟩ := S.get m
  exact q.1 h a e
theorem dSubA {value slice : Expr} {key : Str} {t : Tok} {v : Value} {ep : Nat} {Q : Value → Shared → Prop} (S : Sym H h G) (m : (a, dctA w kvs ep) ∈ G) (hv : valueAt kvs key = some v) (k : ∀ tk', Q v ⟨h, g, d, tk', os⟩)
    (hs : subscripted slice false (.ref a) (.str key t) = operate [.ref a, .str key t] (getItem (.ref a) (.str key t)) := by with_unfolding_all rfl) (ht : ∀ r, letTemporaryGo value (.ref a) r = pure () := by intro _; with_unfolding_all rfl) :
    wpAny (model pw w) A (subscriptTail value slice (.ref a) (.str key t)) Q E ⟨h, g, d, tk, os⟩ :=
  subscriptTail_builtin (s := ⟨h, g, d, tk, os⟩) (S.dictA m).dictOf.typeIs slot_dict_getitem.lookup (wpAny_getItem_of (s := ⟨h, g, d, tk, os⟩) (strKind_is pw w key t) (S.dictA m).dictOf.mapOf hv (k _)) hs ht
theorem iterK {ep : Nat} {Q : Value → Shared → Prop} (hm : ∃ o, H.get? sysModules = some o) (S : Sym H h G) (m : (a, dctA w kvs ep) ∈ G) (k : ∀ it h', Sym H h' ((it, keyItP a 0 kvs.length ep) :: G) → Q (.ref it) ⟨h', g, d, tk, os⟩) :
    wpAny (model pw w) A (pyIter (.ref a)) Q E ⟨h, g, d, tk, os⟩ :=
  wpAny_pyIter_dict (s := ⟨h, g, d, tk, os⟩) (S.notMods hm m) (S.dictA m) (k _ _ (S.push rfl ⟨rfl, rfl⟩))
theorem nextK {it : Addr} {i ep : Nat} {key : Str} {v : Value} {Q : Option Value → Shared → Prop} (S : Sym H h ((it, keyItP a i kvs.length ep) :: G)) (m : (a, dctA w kvs ep) ∈ G) (hv : kvs[i]? = some (key, v))
    (k : ∀ h' t, Sym H h' ((it, keyItP a (i + 1) kvs.length ep) :: G) → Q (some (.str key t)) ⟨h', g, d, tk, os⟩) : wpAny (model pw w) A (pyNext (.ref it)) Q E ⟨h, g, d, tk, os⟩ := by
  obtain ⟨o, e, p1, p2⟩ := S.head
  refine wpAny_pyNext_dict_item (s := ⟨h, g, d, tk, os⟩) (i := i) ⟨o, e, p1, p2⟩ (S.dictA (.tail _ m)) hv fun ky h' hk hi hs => ?_
  obtain ⟨t, rfl⟩ := is_str hk
  obtain ⟨o', e', p1', p2'⟩ := hi
  exact k h' t (S.upd hs e' ⟨p1', p2'⟩)
theorem endK {it : Addr} {i ep : Nat} {Q : Option Value → Shared → Prop} (hh : A.handled = none) (S : Sym H h ((it, keyItP a i kvs.length ep) :: G)) (m : (a, dctA w kvs ep) ∈ G) (hv : kvs[i]? = none)
    (k : ∀ h', Sym H h' G → Q none ⟨h', g, d, tk, os⟩) : wpAny (model pw w) A (pyNext (.ref it)) Q E ⟨h, g, d, tk, os⟩ := by
  obtain ⟨o, e, p1, p2⟩ := S.head
  exact wpAny_pyNext_dict_end (s := ⟨h, g, d, tk, os⟩) (i := i) hh ⟨o, e, p1, p2⟩ (S.dictA (.tail _ m)) hv fun h' hi => k h' (S.extTail hi)
/-- `key in d` -/
theorem inD {key : Str} {t : Tok} {Q : Value → Shared → Prop} (hm : ∃ o, H.get? sysModules = some o) (S : Sym H h G) (m : (a, dctP w kvs) ∈ G) (k : ∀ tk', Q (.bool (valueAt kvs key).isSome) ⟨h, g, d, tk', os⟩) :
    wpAny (model pw w) A (compareOp .In (.str key t) (.ref a)) Q E ⟨h, g, d, tk, os⟩ :=
  wpAny_in_of (s := ⟨h, g, d, tk, os⟩) (strKind_is pw w key t) (S.notMods hm m) (S.dict m).mapOf (k _)
/-- `del d[key]` -/
theorem delD {key : Str} {t : Tok} {Q : Unit → Shared → Prop} (S : Sym H h ((a, dctP w kvs) :: G)) (hl : kvs.length ≤ 1000) (hv : (valueAt kvs key).isSome = true) (k : ∀ h' tk', Sym H h' ((a, dctP w (without kvs key)) :: G) → Q () ⟨h', g, d, tk', os⟩) :
    wpAny (model pw w) A (delItem (.ref a) (.str key t)) Q E ⟨h, g, d, tk, os⟩ := by
  have hD := S.dict (.head _)
  unfold delItem
  try with_reducible refine wpAny_holding ?_
  refine wpAny_bind (wpAny_sequenceKey (Heap.DictOf.typeIs (s := ⟨h, g, d, tk, os⟩) hD) (by decide) ?_)
  refine wpAny_bind (wpAny_callSpecial?_slot (name := Str.ofString "__delitem__") (Heap.DictOf.typeIs (s := ⟨h, g, d, tk, os⟩) hD) PySem.F.slot_dict_delitem
    (call_meetsIn PySem.F.slot_dict_delitem (Heap.DictOf.typeIs (s := ⟨h, g, d, tk, os⟩) hD) PySem.F.entry_dict_delitem (PySem.F.args_dict_delitem_2 _ _) (meets_dict_delitem_pairs (strKind pw w) a (strKind_is pw w key t)) ⟨kvs, hD, by rw [sizeLine_eq]; omega, hv, fun h' q1 q2 => ?_⟩))
  exact wpAny_pure (k h' _ (S.dictUpd q2 q1))
theorem Sym.set {cs : List Nat} (S : Sym H h G) (m : (a, setP w cs) ∈ G) : ∃ n, n ≤ cs.length ∧ h.SetOf (strKind pw w) a (fun k => (cs.map nm).contains k) n := by
  obtain ⟨o, e, es, ep, t, n, q1, q2, q3, q4, q5, q6, q7, q8⟩ := S.get m
  exact ⟨n, q8, o, es, ep, t, e, q1, q2, q3, q4, q5, q6, q7⟩
theorem contains_nm {cs : List Nat} {c : Nat} : (cs.map nm).contains (nm c) = decide (c ∈ cs) := by
  by_cases h : c ∈ cs
  · simp only [h, decide_true, List.contains_eq_mem, decide_eq_true_eq]
    exact List.mem_map.mpr ⟨c, h, rfl⟩
  · simp only [h, decide_false, List.contains_eq_mem, decide_eq_false_iff_not]
    intro m
    obtain ⟨c', h', e⟩ := List.mem_map.mp m
    exact h (nm_inj e ▸ h')
/-- `name in s` -/
theorem inS {cs : List Nat} {c : Nat} {t : Tok} {Q : Value → Shared → Prop} (S : Sym H h G) (m : (a, setP w cs) ∈ G) (k : ∀ tk', Q (.bool (decide (c ∈ cs))) ⟨h, g, d, tk', os⟩) :
    wpAny (model pw w) A (compareOp .In (.str (nm c) t) (.ref a)) Q E ⟨h, g, d, tk, os⟩ := by
  obtain ⟨n, _, hS⟩ := S.set m
  refine wpAny_inSet_of (s := ⟨h, g, d, tk, os⟩) (strKind_is pw w (nm c) t) rfl hS ?_
  rw [contains_nm]
  exact k _
theorem setNew {Q : Value → Shared → Prop} (S : Sym H h G) (k : ∀ a h', Sym H h' ((a, setP w []) :: G) → Q (.ref a) ⟨h', g, d, tk, os⟩) : wpAny (model pw w) A (call (.type "set") []) Q E ⟨h, g, d, tk, os⟩ :=
  call_set_0 fun led => k _ _ (S.push rfl ⟨#[], 0, .fresh 0 0 led, 0, ⟨rfl, rfl, rfl⟩, rfl, (fun e he => by simp at he), (fun k => by simp), (by decide), rfl, rfl, Nat.le_refl _⟩)
/-- `s.add(name)` -/
theorem addSet {o e : Expr} {apos pos : Pos} {Q : Value → Shared → Prop}
    (k : wpAny (model pw w) A (eval o env) (fun ov s₁ => ∃ a ob, ov = .ref a ∧ s₁.heap.get? a = some ob ∧ ob.cls = .type "set" ∧ ob.dict = none ∧ wpAny (model pw w) A (eval e env) (fun v s₂ => ∃ cs c t H G, v = .str (nm c) t ∧ cs.length ≤ 100 ∧ Sym H s₂.heap ((a, setP w cs) :: G) ∧
      ∀ h' tk', Sym H h' ((a, setP w (cs ++ [c])) :: G) → Q .none { s₂ with heap := h', toks := tk' }) E s₁) E ⟨h, g, d, tk, os⟩)
    (hbase : attributeBase o "add" env (eval o env) = eval o env := by rfl) (hline : (apos.endLine == pos.line) = true := by rfl)
    (htrees : backTo pos (starEach [e] env) = [(false, eval e env)] := by rfl) :
    wpAny (model pw w) A (eval (.Call (.Attribute o "add" apos) [e] [] pos) env) Q E ⟨h, g, d, tk, os⟩ := by
  refine wpAny_Call_method1_late hbase hline htrees (wpAny_mono k (fun ov s₁ h₁ => ?_) fun _ _ x => x)
  obtain ⟨a, ob, rfl, ho, hc, hd, h₁⟩ := h₁
  refine ⟨"set", "set.add", F.plainAttrs_set, F.slot_set_add, by rfl, ⟨ob, ho, hc⟩, fun b hb => ?_, ?_⟩
  · cases hb; exact ⟨ob, ho, hd⟩
  · refine callWith_builtin rfl (evalArgs_plain (spliced_cons (wpAny_mono h₁ (fun v s₂ h₂ => ?_) fun _ _ x => x)))
    obtain ⟨cs, c, t, H, G, rfl, hl, S, q⟩ := h₂
    refine spliced_nil ?_
    obtain ⟨n, hn, hS⟩ := S.set (.head _)
    refine call_set_add (strKind_is pw w (nm c) t) rfl hS (by show n + 1 < 4096; omega) fun h' hs hS' => q h' _ ?_
    obtain ⟨o, es, ep, t', e', q1, q2, q3, q4, q5, q6, q7⟩ := hS'
    refine S.upd hs e' ⟨es, ep, t', _, q1, q2, q3, fun k => ?_, q5, q6, q7, ?_⟩
    · rw [← q4 k]
      simp
    · simp only [List.length_append, List.length_cons, List.length_nil]
      split <;> omega
/-- `xs + ys` -/
theorem addL {Q : Value → Shared → Prop} (S : Sym H h G) (m1 : (a, lstP vs) ∈ G) (m2 : (b, lstP us) ∈ G) (hl : vs.length + us.length ≤ 1000) (k : ∀ c h', Sym H h' ((c, lstP (vs ++ us)) :: G) → Q (.ref c) ⟨h', g, d, tk, os⟩) :
    wpAny (model pw w) A (binaryOp .Add (.ref a) (.ref b)) Q E ⟨h, g, d, tk, os⟩ := by
  obtain ⟨n1, e1⟩ := S.lst m1
  obtain ⟨n2, e2⟩ := S.lst m2
  have e : vs.toArray ++ us.toArray = (vs ++ us).toArray := by simp
  refine concat_meets ⟨_, e1, rfl⟩ ⟨_, e2, rfl⟩ noFill_list_add seq_list_add PySem.F.slot_list_add PySem.F.entry_list_add (PySem.F.args_list_add_2 _ _) (list_addW a b vs.toArray us.toArray n1 n2 none none #[] #[] (by simp only [List.size_toArray, sizeLine_eq]; omega)) ⟨e1, e2, ?_⟩
  rw [e]
  exact k _ _ (S.push rfl ⟨0, rfl⟩)
/-- `xs[lo:hi]` -/
theorem sliceL {value : Expr} {lower upper : Option Expr} {p pos : Pos} {Q : Value → Shared → Prop}
    (k : wpAny (model pw w) A (eval value env) (fun o s₁ => wpAny (model pw w) A (evalPart lower env) (fun vl s₂ => wpAny (model pw w) A (evalPart upper env) (fun vu s₃ => ∃ H G a vs lo hi, o = .ref a ∧ (a, lstP vs) ∈ G ∧ vs.length ≤ 1000 ∧ Sym H s₃.heap G ∧ IsPart vl lo ∧ IsPart vu hi ∧
      ∀ b h', Sym H h' ((b, lstP (slicePick vs.toArray lo hi none).toList) :: G) → Q (.ref b) { s₃ with heap := h' }) E s₂) E s₁) E ⟨h, g, d, tk, os⟩)
    (ht : ∀ o r, letTemporaryGo value o r = pure () := by intro _ _; rfl) :
    wpAny (model pw w) A (eval (.Subscript value (.Slice lower upper none p) pos) env) Q E ⟨h, g, d, tk, os⟩ := by
  refine wpAny_Subscript_list_slice (wpAny_mono k (fun o s₁ h₁ => wpAny_mono h₁ (fun vl s₂ h₂ => wpAny_mono h₂ (fun vu s₃ h₃ => ?_) fun _ _ e => e) fun _ _ e => e) fun _ _ e => e) ht
  obtain ⟨H, G, a, vs, lo, hi, rfl, m, hl, S, pl, pu, q⟩ := h₃
  refine ⟨a, vs.toArray, lo, hi, rfl, S.isList m, by simp only [List.size_toArray, sizeLine_eq]; omega, pl, pu, q _ _ ?_⟩
  have S1 := (S.grow (h' := s₃.heap.push { cls := .type "slice", data := .fields #[vl, vu, .none] }) fun b o e => Heap.get?_push_of_some _ e).push (o := { cls := .type "list", data := .seq (slicePick vs.toArray lo hi none) }) (P := lstP (slicePick vs.toArray lo hi none).toList) rfl ⟨0, by simp⟩
  rw [Heap.size_push] at S1
  exact S1
end
end Mine

namespace Mine
open PySem
/-! the search for a ring, plain -/
/-- the stack, its top first: what was drawn of each is finished, or stands above it -/
noncomputable def Chn (su : Nat → List Nat) (dn : List Nat) : List (Nat × Nat) → Option Nat → Prop
  | [], _ => True
  | (t, i) :: r, some v => 1 ≤ i ∧ (su t)[i - 1]? = some v ∧ (∀ x ∈ (su t).take (i - 1), x ∈ dn) ∧ Chn su dn r (some t)
  | (t, i) :: r, none => (∀ x ∈ (su t).take i, x ∈ dn) ∧ Chn su dn r (some t)
noncomputable def Topo (su : Nat → List Nat) : List Nat → Prop
  | [] => True
  | x :: r => (∀ y ∈ su x, y ∈ r) ∧ Topo su r
noncomputable def Ring (su : Nat → List Nat) (S : List Nat) : Prop := S ≠ [] ∧ ∀ x ∈ S, ∃ y ∈ S, x ∈ su y
structure Dfs (su : Nat → List Nat) (nodes : List Nat) (st : List (Nat × Nat)) (dn sn un : List Nat) : Prop where
  p1 : sn.Perm (dn ++ st.map (·.1))
  p2 : (sn ++ un).Perm nodes
  topo : Topo su dn
variable {su : Nat → List Nat} {nodes dn sn un : List Nat} {st : List (Nat × Nat)} {v t i : Nat}
theorem Chn.mono {x : Nat} : ∀ {st : List (Nat × Nat)} {o : Option Nat}, Chn su dn st o → Chn su (x :: dn) st o
  | [], _, _ => trivial
  | (t, i) :: r, some v, h => ⟨h.1, h.2.1, fun y hy => .tail _ (h.2.2.1 y hy), Chn.mono h.2.2.2⟩
  | (t, i) :: r, none, h => ⟨fun y hy => .tail _ (h.1 y hy), Chn.mono h.2⟩
theorem Chn.push (h : Chn su dn st (some v)) : Chn su dn ((v, 0) :: st) none := ⟨fun x hx => by simp at hx, h⟩
theorem Chn.draw (h : Chn su dn ((t, i) :: st) none) (e : (su t)[i]? = some v) : Chn su dn ((t, i + 1) :: st) (some v) := ⟨by omega, by simpa using e, by simpa using h.1, h.2⟩
theorem Chn.old (h : Chn su dn st (some v)) (hv : v ∈ dn) : Chn su dn st none := by
  cases st with
  | nil => trivial
  | cons p r =>
    obtain ⟨t, i⟩ := p
    obtain ⟨h1, h2, h3, h4⟩ := h
    refine ⟨fun x hx => ?_, h4⟩
    have e : i = i - 1 + 1 := by omega
    rw [e, List.take_add_one, h2] at hx
    rcases List.mem_append.mp hx with q | q
    · exact h3 x q
    · simp at q; rw [q]; exact hv
theorem Chn.pop (h : Chn su dn ((t, i) :: st) none) (e : (su t)[i]? = none) : (∀ y ∈ su t, y ∈ dn) ∧ Chn su (t :: dn) st none := by
  have : (su t).take i = su t := List.take_of_length_le (List.getElem?_eq_none_iff.mp e)
  refine ⟨by rw [← this]; exact h.1, Chn.old (Chn.mono h.2) (.head _)⟩
theorem Chn.ring (h : Chn su dn st (some v)) (hv : v ∈ st.map (·.1)) : ∃ S, Ring su S := by
  -- the names from the top down to v
  have key : ∀ (st : List (Nat × Nat)) (u : Nat), Chn su dn st (some u) → v ∈ st.map (·.1) → ∃ S : List Nat, v ∈ S ∧ (∃ y ∈ S, u ∈ su y) ∧ ∀ x ∈ S, x = v ∨ ∃ y ∈ S, x ∈ su y := by
    intro st
    induction st with
    | nil => intro u _ hv; simp at hv
    | cons p r ih =>
      obtain ⟨t, i⟩ := p
      intro u h hv
      obtain ⟨h1, h2, h3, h4⟩ := h
      have hu : u ∈ su t := List.mem_of_getElem? h2
      by_cases e : t = v
      · subst e
        exact ⟨[t], .head _, ⟨t, .head _, hu⟩, fun x hx => .inl (by simpa using hx)⟩
      · have hv' : v ∈ r.map (·.1) := by
          rw [List.map_cons] at hv
          cases hv with
          | head => exact absurd rfl e
          | tail _ q => exact q
        obtain ⟨S, s1, ⟨y, s2, s3⟩, s4⟩ := ih t h4 hv'
        refine ⟨t :: S, .tail _ s1, ⟨t, .head _, hu⟩, fun x hx => ?_⟩
        cases hx with
        | head => exact .inr ⟨y, .tail _ s2, s3⟩
        | tail _ hx =>
          rcases s4 x hx with q | ⟨z, z1, z2⟩
          · exact .inl q
          · exact .inr ⟨z, .tail _ z1, z2⟩
  obtain ⟨S, s1, ⟨y, s2, s3⟩, s4⟩ := key st v h hv
  refine ⟨S, List.ne_nil_of_mem s1, fun x hx => ?_⟩
  rcases s4 x hx with rfl | q
  · exact ⟨y, s2, s3⟩
  · exact q
theorem Dfs.push (h : Dfs su nodes st dn sn un) (hv : v ∈ un) : Dfs su nodes ((v, 0) :: st) dn (sn ++ [v]) (un.erase v) := by
  refine ⟨?_, ?_, h.topo⟩
  · refine (h.p1.append_right [v]).trans ?_
    rw [List.map_cons, List.append_assoc]
    exact (List.perm_append_comm).append_left _
  · refine List.Perm.trans ?_ h.p2
    rw [List.append_assoc]
    exact (List.perm_cons_erase hv).symm.append_left _
theorem Dfs.next (h : Dfs su nodes ((t, i) :: st) dn sn un) : Dfs su nodes ((t, i + 1) :: st) dn sn un := ⟨h.p1, h.p2, h.topo⟩
theorem Dfs.pop (h : Dfs su nodes ((t, i) :: st) dn sn un) (hs : ∀ y ∈ su t, y ∈ dn) : Dfs su nodes st (t :: dn) sn un := by
  refine ⟨h.p1.trans ?_, h.p2, hs, h.topo⟩
  rw [List.map_cons]
  exact List.perm_middle
theorem Dfs.mem (h : Dfs su nodes st dn sn un) {c : Nat} : c ∈ sn ↔ c ∈ dn ∨ c ∈ st.map (·.1) := by rw [h.p1.mem_iff, List.mem_append]
theorem Dfs.un_of (h : Dfs su nodes st dn sn un) {c : Nat} (hc : c ∈ nodes) (hn : c ∉ sn) : c ∈ un := by
  rcases List.mem_append.mp (h.p2.mem_iff.mpr hc) with q | q
  · exact absurd q hn
  · exact q
theorem Dfs.nodup (h : Dfs su nodes st dn sn un) (nn : nodes.Nodup) : (st.map (·.1)).Nodup ∧ (∀ c ∈ dn, c ∉ st.map (·.1)) := by
  have : (sn ++ un).Nodup := h.p2.nodup_iff.mpr nn
  have : sn.Nodup := (List.nodup_append.mp this).1
  have := h.p1.nodup_iff.mp this
  obtain ⟨_, a, b⟩ := List.nodup_append.mp this
  exact ⟨a, fun c hc hm => b c hc c hm rfl⟩
theorem Dfs.len (h : Dfs su nodes st dn sn un) : sn.length ≤ nodes.length ∧ st.length ≤ nodes.length := by
  have a := h.p1.length_eq
  have b := h.p2.length_eq
  simp only [List.length_append, List.length_map] at a b
  omega
theorem Dfs.stMem (h : Dfs su nodes st dn sn un) {c : Nat} (hc : c ∈ st.map (·.1)) : c ∈ nodes := h.p2.mem_iff.mp (List.mem_append_left _ (h.mem.mpr (.inr hc)))
noncomputable def cost (su : Nat → List Nat) (un : List Nat) (st : List (Nat × Nat)) : Nat := (un.map fun c => (su c).length + 1).sum + (st.map fun p => (su p.1).length - p.2).sum
theorem perm_sum_eq {l l' : List Nat} (f : Nat → Nat) (h : l.Perm l') : (l.map f).sum = (l'.map f).sum := by
  induction h with
  | nil => rfl
  | cons _ _ ih => simp [ih]
  | swap a b l => simp; omega
  | trans _ _ a b => exact a.trans b
theorem cost_push (hv : v ∈ un) : cost su (un.erase v) ((v, 0) :: st) < cost su un st := by
  unfold cost
  rw [perm_sum_eq (fun c => (su c).length + 1) (List.perm_cons_erase hv)]
  simp only [List.map_cons, List.sum_cons]
  omega
theorem cost_draw (e : (su t)[i]? = some v) : cost su un ((t, i + 1) :: st) < cost su un ((t, i) :: st) := by
  have := (List.getElem?_eq_some_iff.mp e).1
  unfold cost
  simp only [List.map_cons, List.sum_cons]
  omega
theorem cost_pop : cost su un st ≤ cost su un ((t, i) :: st) := by
  unfold cost
  simp only [List.map_cons, List.sum_cons]
  omega
end Mine

namespace Mine
open PySem PySem.Calls PyProof.Rows PySem.W
structure SK where
  c : Nat
  m : Addr
  it : Addr
  sa : Addr
  i : Nat
noncomputable def stkL (ks : List SK) : Led := ks.flatMap fun k => [(k.m, mwP k.it), (k.it, itP "list_iterator" k.sa k.i)]
noncomputable def stOf (ks : List SK) : List (Nat × Nat) := ks.map fun k => (k.c, k.i)
noncomputable def cs_ (ks : List SK) : List Nat := ks.map (·.c)
theorem stOf_c (ks : List SK) : (stOf ks).map (·.1) = cs_ ks := by simp [stOf, cs_]
noncomputable def msV (ks : List SK) : List Value := (ks.map fun k => Value.ref k.m).reverse
/-- the places on the stack, as the text's own dict tells them -/
structure KvS (kvs : List (Str × Value)) (ns : List Nat) : Prop where
  keys : kvs.map (·.1) = (ns.reverse).map nm
  vals : ∀ p ∈ kvs, ∃ (j : Nat) (t : Tok), p.2 = .int j t
theorem KvS.len {kvs : List (Str × Value)} {ns : List Nat} (h : KvS kvs ns) : kvs.length = ns.length := by
  have := congrArg List.length h.keys
  simpa using this
theorem KvS.isSome {kvs : List (Str × Value)} {ns : List Nat} (h : KvS kvs ns) (c : Nat) : (valueAt kvs (nm c)).isSome = decide (c ∈ ns) := by
  have e : (valueAt kvs (nm c)).isSome = (kvs.map (·.1)).contains (nm c) := by
    unfold valueAt
    rw [Bool.eq_iff_iff]
    simp [List.contains_eq_mem]
  rw [e, h.keys, contains_nm]
  simp
theorem KvS.val {kvs : List (Str × Value)} {ns : List Nat} (h : KvS kvs ns) {c : Nat} (hc : c ∈ ns) : ∃ (j : Nat) (t : Tok), valueAt kvs (nm c) = some (.int j t) := by
  have : (valueAt kvs (nm c)).isSome = true := by rw [h.isSome]; simpa using hc
  obtain ⟨v, hv⟩ := Option.isSome_iff_exists.mp this
  unfold valueAt at hv
  obtain ⟨p, hp, rfl⟩ := Option.map_eq_some_iff.mp hv
  obtain ⟨j, t, e⟩ := h.vals p (List.mem_of_find?_eq_some hp)
  exact ⟨j, t, by unfold valueAt; rw [hp]; simp [e]⟩
theorem KvS.push {kvs : List (Str × Value)} {ns : List Nat} (h : KvS kvs ns) {c : Nat} (hc : c ∉ ns) (j : Nat) (t : Tok) : KvS (stored kvs (nm c) (.int j t)) (c :: ns) := by
  have : ¬ kvs.any (fun kv => kv.1 = nm c) = true := by
    intro z
    obtain ⟨p, hp, e⟩ := List.any_eq_true.mp z
    have e : p.1 = nm c := by simpa using e
    have : nm c ∈ (ns.reverse).map nm := by rw [← h.keys, ← e]; exact List.mem_map.mpr ⟨p, hp, rfl⟩
    obtain ⟨c', h', e'⟩ := List.mem_map.mp this
    exact hc (nm_inj e' ▸ List.mem_reverse.mp h')
  unfold stored
  rw [if_neg this]
  refine ⟨by simp [h.keys], fun p hp => ?_⟩
  rcases List.mem_append.mp hp with q | q
  · exact h.vals p q
  · rw [List.mem_singleton.mp q]; exact ⟨j, t, rfl⟩
theorem KvS.pop {kvs : List (Str × Value)} {ns : List Nat} {c : Nat} (h : KvS kvs (c :: ns)) (hc : c ∉ ns) : KvS (without kvs (nm c)) ns := by
  refine ⟨?_, fun p hp => h.vals p (List.mem_filter.mp hp).1⟩
  have e : (without kvs (nm c)).map (·.1) = (kvs.map (·.1)).filter fun k => decide (k ≠ nm c) := by
    unfold without
    rw [List.filter_map]; rfl
  rw [e, h.keys, List.filter_map, List.reverse_cons, List.filter_append]
  have e1 : List.filter ((fun k => decide (k ≠ nm c)) ∘ nm) [c] = [] := by simp
  have e2 : List.filter ((fun k => decide (k ≠ nm c)) ∘ nm) ns.reverse = ns.reverse := by
    rw [List.filter_eq_self]
    intro x hx
    have : x ≠ c := fun z => hc (z ▸ List.mem_reverse.mp hx)
    simp only [Function.comp, decide_eq_true_eq]
    exact fun z => this (nm_inj z)
  rw [e1, e2, List.append_nil]
section
variable {K : Frag} {w : World} {A : Around} {E : Value → Shared → Prop} {H h h' : Heap} {G : Led} {env : Env} {g : Array GenState} {d : Drawn} {tk : Nat} {os : OsState} {a x dx nd ra : Addr} {r : Value} {p f : Int} {t1 t2 : Tok} {fam : List NodeR}
noncomputable def cycL (w : World) (L : Addr) (l : List (Str × Value)) (ks : List SK) (sA iA seA nsA : Addr) (sn : List Nat) (kvs : List (Str × Value)) (R : Led) : Led :=
  (L, nsP l) :: (sA, lnP (cs_ ks).reverse) :: (iA, lstP (msV ks)) :: (seA, setP w sn) :: (nsA, dctP w kvs) :: (stkL ks ++ R)
noncomputable def restL (w : World) (x dx nd : Addr) (r : Value) (p : Int) (t1 : Tok) (f : Int) (t2 : Tok) (fam : List NodeR) (ep : Nat) (G : Led) : Led :=
  (x, instP 165 dx []) :: (dx, nsE (sd (.ref nd) r (.int p t1) (.int f t2))) :: (nd, dctA w (kvsOf fam) ep) :: (famL fam ++ G)
theorem isEx {M : Model} {e : Expr} {s : Shared} {Q : Bool → Shared → Prop} (k : wpAny M A (eval e env) (fun v s₁ => wpAny M A (truthy v) Q E s₁) E s)
    (he : isTrue e env (eval e env) = (do let v ← eval e env; standAt e.pos; holding [v] (truthy v)) := by rfl) : wpAny M A (isTrue e env (eval e env)) Q E s := by
  rw [he]
  exact wpAny_bind (wpAny_mono k (fun v s₁ q => wpAny_bind (wpAny_standAt (wpAny_holding q))) fun _ _ q => q)
theorem cBool {M : Model} {b : Bool} {k : Nat} {pos : Pos} {s : Shared} {Q : Value → Shared → Prop} (h : Q (.bool b) s) : wpAny M A (eval (.Constant (.bool b) k pos) env) Q E s := fun _ _ _ => h
theorem truthyN {cs : List Nat} {Q : Bool → Shared → Prop} (S : Sym H h G) (m : (a, lnP cs) ∈ G) (hl : cs.length ≤ 1000) (k : ∀ tk', Q (!cs.isEmpty) ⟨h, g, d, tk', os⟩) :
    wpAny (model pw w) A (truthy (.ref a)) Q E ⟨h, g, d, tk, os⟩ := by
  obtain ⟨o, e, vs, ⟨n, rfl⟩, hn⟩ := S.get m
  refine wpAny_truthy_list (s := ⟨h, g, d, tk, os⟩) (items := vs.toArray) ⟨_, e, rfl, n, rfl⟩ (by simp only [List.size_toArray]; rw [hn.length]; omega) ?_
  have : vs.toArray.isEmpty = cs.isEmpty := by cases hn <;> rfl
  rw [this]
  exact k _
theorem lenN {cs : List Nat} {Q : Value → Shared → Prop} (S : Sym H h G) (m : (a, lnP cs) ∈ G) (hl : cs.length ≤ 1000) (k : ∀ t tk', Q (.int cs.length t) ⟨h, g, d, tk', os⟩) :
    wpAny (model pw w) A (call (.builtin "len") [.ref a]) Q E ⟨h, g, d, tk, os⟩ := by
  obtain ⟨o, e, vs, ⟨n, rfl⟩, hn⟩ := S.get m
  refine call_len_list (s := ⟨h, g, d, tk, os⟩) (items := vs.toArray) ⟨_, e, rfl, n, rfl⟩ (by simp only [List.size_toArray]; rw [hn.length]; omega) ?_
  simp only [List.size_toArray]
  rw [hn.length]
  exact k _ _
theorem Sym.isObjN {cs : List Nat} (S : Sym H h G) (m : (a, lnP cs) ∈ G) : ∃ ob, h.get? a = some ob ∧ ob.cls = .type "list" ∧ ob.dict = none := by
  obtain ⟨o, e, vs, ⟨n, rfl⟩, hn⟩ := S.get m
  exact ⟨_, e, rfl, rfl⟩
/-- `xs.append(name)` -/
theorem appendN {o e : Expr} {apos pos : Pos} {Q : Value → Shared → Prop}
    (k : wpAny (model pw w) A (eval o env) (fun ov s₁ => (∃ a ob, ov = .ref a ∧ s₁.heap.get? a = some ob ∧ ob.cls = .type "list" ∧ ob.dict = none ∧ wpAny (model pw w) A (eval e env) (fun v s₂ => ∃ cs c t H G, v = .str (nm c) t ∧ cs.length ≤ 900 ∧ Sym H s₂.heap ((a, lnP cs) :: G) ∧
      ∀ h', Sym H h' ((a, lnP (cs ++ [c])) :: G) → Q .none { s₂ with heap := h' }) E s₁)) E ⟨h, g, d, tk, os⟩)
    (hbase : attributeBase o "append" env (eval o env) = eval o env := by rfl) (hline : (apos.endLine == pos.line) = true := by rfl)
    (htrees : backTo pos (starEach [e] env) = [(false, eval e env)] := by rfl) :
    wpAny (model pw w) A (eval (.Call (.Attribute o "append" apos) [e] [] pos) env) Q E ⟨h, g, d, tk, os⟩ := by
  refine appendL (wpAny_mono k (fun ov s₁ q0 => ?_) fun _ _ x => x) hbase hline htrees
  obtain ⟨a, ob, e1, e2, e3, e4, q⟩ := q0
  refine ⟨a, ob, e1, e2, e3, e4, wpAny_mono q (fun v s₂ q1 => ?_) fun _ _ x => x⟩
  obtain ⟨cs, c, t, H, G, z1, z2, z3, z4⟩ := q1
  obtain ⟨vs, hn, S⟩ := z3.lnOpen
  subst z1
  exact ⟨vs, H, G, by rw [hn.length]; first | exact Nat.le_trans z2 (by decide) | omega, S, fun h' S' => z4 h' (S'.lnClose (hn.snoc c t))⟩
/-- `xs.pop()` of names -/
theorem popN {o : Expr} {apos pos : Pos} {Q : Value → Shared → Prop}
    (k : wpAny (model pw w) A (eval o env) (fun ov s₁ => ∃ a cs c H G, ov = .ref a ∧ cs.length ≤ 900 ∧ Sym H s₁.heap ((a, lnP (cs ++ [c])) :: G) ∧
      ∀ h' t, Sym H h' ((a, lnP cs) :: G) → Q (.str (nm c) t) { s₁ with heap := h' }) E ⟨h, g, d, tk, os⟩)
    (hbase : attributeBase o "pop" env (eval o env) = eval o env := by rfl) (hline : (apos.endLine == pos.line) = true := by rfl) :
    wpAny (model pw w) A (eval (.Call (.Attribute o "pop" apos) [] [] pos) env) Q E ⟨h, g, d, tk, os⟩ := by
  refine popL (wpAny_mono k (fun ov s₁ q0 => ?_) fun _ _ x => x) hbase hline
  obtain ⟨a, cs, c, H, G, z1, z2, z3, z4⟩ := q0
  obtain ⟨vs, hn, S⟩ := z3.lnOpen
  have hlen : vs.length = cs.length + 1 := by rw [hn.length]; simp
  obtain ⟨us, v, rfl⟩ : ∃ us v, vs = us ++ [v] := by
    cases hv : vs.reverse with
    | nil => rw [List.reverse_eq_nil_iff.mp hv] at hlen; simp at hlen
    | cons v r => exact ⟨r.reverse, v, by rw [← List.reverse_reverse vs, hv]; simp⟩
  have hlu : us.length = cs.length := by simpa using hlen
  obtain ⟨c', t, e1, rfl⟩ := hn.get (i := us.length) (v := v) (by simp)
  rw [hlu] at e1
  simp at e1
  subst e1
  refine ⟨a, us, _, H, G, z1, by omega, S, fun h' S' => z4 h' t (S'.lnClose ?_)⟩
  -- the names before the last
  have : ∀ (us : List Value) (cs : List Nat), us.length = cs.length → Names (us ++ [.str (nm c) t]) (cs ++ [c]) → Names us cs := by
    intro us
    induction us with
    | nil => intro cs e _; cases cs with | nil => exact .nil | cons _ _ => simp at e
    | cons y us ih =>
      intro cs e h
      cases cs with
      | nil => simp at e
      | cons z cs =>
        cases h with
        | cons h' => exact .cons (ih cs (by simpa using e) h')
  exact this us cs hlu hn
theorem negL {value slice : Expr} {t : Tok} {vs : List Value} {v : Value} {Q : Value → Shared → Prop} (S : Sym H h G) (m : (a, lstP (vs ++ [v])) ∈ G) (hl : vs.length ≤ 1000) (q : Q v ⟨h, g, d, tk, os⟩)
    (hs : subscripted slice false (.ref a) (.int (-1) t) = operate [.ref a, .int (-1) t] (getItem (.ref a) (.int (-1) t)) := by with_unfolding_all rfl) (ht : ∀ r, letTemporaryGo value (.ref a) r = pure () := by intro _; with_unfolding_all rfl) :
    wpAny (model pw w) A (subscriptTail value slice (.ref a) (.int (-1) t)) Q E ⟨h, g, d, tk, os⟩ :=
  subscriptTail_builtin (s := ⟨h, g, d, tk, os⟩) (S.isList m).typeIs slot_list_getitem.lookup (wpAny_getItem_list_neg (s := ⟨h, g, d, tk, os⟩) (S.isList m) (by omega) (by simp only [List.size_toArray, List.length_append, List.length_cons, List.length_nil]; omega) (by omega) (by
    have e : (-1 + ((vs ++ [v]).toArray.size : Int)).toNat = vs.length := by simp only [List.size_toArray, List.length_append, List.length_cons, List.length_nil]; omega
    rw [e]; simp) q) hs ht
theorem eNeg1 {k : Nat} {p pos : Pos} {Q : Value → Shared → Prop} (q : ∀ t tk', Q (.int (-1) t) ⟨h, g, d, tk', os⟩) : wpAny (model pw w) A (eval (.UnaryOp .USub (.Constant (.int 1) k p) pos) env) Q E ⟨h, g, d, tk, os⟩ :=
  UnaryOp_ (cInt fun t tk' => PyProof.Rows.neg_int (q _ _))
theorem callMw {func : Expr} {pos : Pos} {Q : Value → Shared → Prop} (k : wpAny (model pw w) A (eval func env) (fun fv s₁ => ∃ m it, fv = .ref m ∧ (∃ o, s₁.heap.get? m = some o ∧ mwP it o) ∧ wpAny (model pw w) A (call (.ref m) []) Q E s₁) E ⟨h, g, d, tk, os⟩)
    (he : eval (.Call func [] [] pos) env = (do callWith pos (← eval func env) [] (backTo pos (starEach [] env)) (backToKw pos (keywordEach [] env))) := by rfl) :
    wpAny (model pw w) A (eval (.Call func [] [] pos) env) Q E ⟨h, g, d, tk, os⟩ := by
  rw [he]
  refine wpAny_bind (wpAny_mono k (fun fv s₁ q => ?_) fun _ _ x => x)
  obtain ⟨m, it, rfl, ⟨o, e, rfl⟩, q⟩ := q
  refine callWith_of (P := fun h => h.get? m = some { cls := .type "method-wrapper", data := .fields #[.builtin "list_iterator.__next__", .ref it] }) rfl (fun h X => ⟨.machine, .inr (.inl rfl), ?_⟩) (evalArgs_nil3 ⟨e, q⟩)
  exact (Looks.ld (part := none) X).andThen .now
theorem cutR {M : Model} {s : Shared} {st : Stmt} {rest : List Stmt} {Q : Flow → Shared → Prop} (J : Shared → Prop) (JR : Value → Shared → Prop) (k1 : ∀ J' : Shared → Prop, (∀ s', J s' → J' s') → wpAny M A (exec st env) (fun f s' => match f with | .next => J' s' | .ret v => JR v s' | _ => False) E s)
    (k2 : ∀ s', J s' → wpAny M A (execs rest env) Q E s') (k3 : ∀ v s', JR v s' → Q (.ret v) s') : wpAny M A (execs (st :: rest) env) Q E s :=
  wpAny_execs_cons (wpAny_mono (k1 J fun _ q => q) (fun f s' q => by
    cases f with
    | next => exact k2 s' q
    | ret v => exact k3 v s' q
    | _ => exact q.elim) fun _ _ q => q)
theorem sub_ring {b : Addr} {P : Obj → Prop} {G' G'' : Led} (S : Sym H h ((b, P) :: G')) (k : G''.Sublist G') : Sym H h ((b, P) :: G'') := S.sub (k.cons_cons _)
theorem perm4 {α : Type} {a b c d e : α} {l : List α} : List.Perm (d :: a :: b :: c :: e :: l) (a :: b :: c :: d :: e :: l) := by (refine perm_sum fun _ => ?_; (try simp only [locals_eq, List.append_eq, sortL, famL_app, famL_cons, famL_nil, NodeR.ent, List.cons_append, List.nil_append, List.append_assoc, List.eraseIdx_cons_succ, List.eraseIdx_cons_zero]); (try simp only [List.map_append, List.map_cons, List.map_nil, List.sum_append, List.sum_cons, List.sum_nil, Nat.add_zero, Nat.zero_add, Nat.add_assoc]); (try ac_rfl))
theorem perm7 {α : Type} {a b c d e f z : α} {l : List α} : List.Perm (c :: f :: z :: a :: b :: d :: e :: l) (a :: b :: c :: d :: e :: f :: z :: l) := by (refine perm_sum fun _ => ?_; (try simp only [locals_eq, List.append_eq, sortL, famL_app, famL_cons, famL_nil, NodeR.ent, List.cons_append, List.nil_append, List.append_assoc, List.eraseIdx_cons_succ, List.eraseIdx_cons_zero]); (try simp only [List.map_append, List.map_cons, List.map_nil, List.sum_append, List.sum_cons, List.sum_nil, Nat.add_zero, Nat.zero_add, Nat.add_assoc]); (try ac_rfl))
theorem perm7' {α : Type} {a b c d e f z : α} {l : List α} : List.Perm (b :: a :: e :: c :: d :: f :: z :: l) (a :: b :: c :: d :: e :: f :: z :: l) := by (refine perm_sum fun _ => ?_; (try simp only [locals_eq, List.append_eq, sortL, famL_app, famL_cons, famL_nil, NodeR.ent, List.cons_append, List.nil_append, List.append_assoc, List.eraseIdx_cons_succ, List.eraseIdx_cons_zero]); (try simp only [List.map_append, List.map_cons, List.map_nil, List.sum_append, List.sum_cons, List.sum_nil, Nat.add_zero, Nat.zero_add, Nat.add_assoc]); (try ac_rfl))
theorem cycL_pre {L : Addr} {l : List (Str × Value)} {ks : List SK} {sA iA seA nsA : Addr} {sn : List Nat} {kvs : List (Str × Value)} {z} {ep : Nat} : cycL w L l ks sA iA seA nsA sn kvs (z :: restL w x dx nd r p t1 f t2 fam ep G) =
    ((L, nsP l) :: (sA, lnP (cs_ ks).reverse) :: (iA, lstP (msV ks)) :: (seA, setP w sn) :: (nsA, dctP w kvs) :: (stkL ks ++ [z, (x, instP 165 dx []), (dx, nsE (sd (.ref nd) r (.int p t1) (.int f t2))), (nd, dctA w (kvsOf fam) ep)])) ++ (famL fam ++ G) := by
  unfold cycL restL; simp
theorem perm7a {α : Type} {a b c d e f z : α} {l : List α} : List.Perm (a :: b :: c :: d :: e :: f :: z :: l) (z :: a :: b :: c :: d :: e :: f :: l) := by (refine perm_sum fun _ => ?_; (try simp only [locals_eq, List.append_eq, sortL, famL_app, famL_cons, famL_nil, NodeR.ent, List.cons_append, List.nil_append, List.append_assoc, List.eraseIdx_cons_succ, List.eraseIdx_cons_zero]); (try simp only [List.map_append, List.map_cons, List.map_nil, List.sum_append, List.sum_cons, List.sum_nil, Nat.add_zero, Nat.zero_add, Nat.add_assoc]); (try ac_rfl))
theorem perm7b {α : Type} {a b c d e f z : α} {l : List α} : List.Perm (a :: z :: b :: c :: d :: e :: f :: l) (a :: b :: c :: d :: e :: f :: z :: l) := by (refine perm_sum fun _ => ?_; (try simp only [locals_eq, List.append_eq, sortL, famL_app, famL_cons, famL_nil, NodeR.ent, List.cons_append, List.nil_append, List.append_assoc, List.eraseIdx_cons_succ, List.eraseIdx_cons_zero]); (try simp only [List.map_append, List.map_cons, List.map_nil, List.sum_append, List.sum_cons, List.sum_nil, Nat.add_zero, Nat.zero_add, Nat.add_assoc]); (try ac_rfl))
theorem perm5c {α : Type} {a b c d e : α} {l : List α} : List.Perm (c :: a :: e :: b :: d :: l) (a :: b :: c :: d :: e :: l) := by (refine perm_sum fun _ => ?_; (try simp only [locals_eq, List.append_eq, sortL, famL_app, famL_cons, famL_nil, NodeR.ent, List.cons_append, List.nil_append, List.append_assoc, List.eraseIdx_cons_succ, List.eraseIdx_cons_zero]); (try simp only [List.map_append, List.map_cons, List.map_nil, List.sum_append, List.sum_cons, List.sum_nil, Nat.add_zero, Nat.zero_add, Nat.add_assoc]); (try ac_rfl))
theorem perm5 {α : Type} {a b c d e z : α} {l : List α} : List.Perm (z :: a :: b :: c :: d :: e :: l) (a :: b :: c :: d :: e :: z :: l) := by (refine perm_sum fun _ => ?_; (try simp only [locals_eq, List.append_eq, sortL, famL_app, famL_cons, famL_nil, NodeR.ent, List.cons_append, List.nil_append, List.append_assoc, List.eraseIdx_cons_succ, List.eraseIdx_cons_zero]); (try simp only [List.map_append, List.map_cons, List.map_nil, List.sum_append, List.sum_cons, List.sum_nil, Nat.add_zero, Nat.zero_add, Nat.add_assoc]); (try ac_rfl))
theorem perm5' {α : Type} {a b c d e z : α} {l : List α} : List.Perm (a :: z :: b :: c :: d :: e :: l) (a :: b :: c :: d :: e :: z :: l) := by (refine perm_sum fun _ => ?_; (try simp only [locals_eq, List.append_eq, sortL, famL_app, famL_cons, famL_nil, NodeR.ent, List.cons_append, List.nil_append, List.append_assoc, List.eraseIdx_cons_succ, List.eraseIdx_cons_zero]); (try simp only [List.map_append, List.map_cons, List.map_nil, List.sum_append, List.sum_cons, List.sum_nil, Nat.add_zero, Nat.zero_add, Nat.add_assoc]); (try ac_rfl))
theorem cyc_spec {outer : List Env} {Q : Value → Shared → Prop} (T : TopM K H) (hd : A.depth + 5 < recursionLimit) (hh : A.handled = none) (hfr : A.frames = some outer) (S : Sym H h (sortL w x dx nd r p t1 f t2 fam ++ G)) (hfi : FrIn G outer) (nc : (fam.map (·.c)).Nodup)
    (hsu : ∀ r ∈ fam, ∀ q ∈ r.su, q ∈ fam.map (·.c)) (hl : fam.length ≤ 80) (hl2 : ∀ r ∈ fam, r.su.length ≤ 900)
    (kN : ∀ h' tk' dn, Topo (suOf (fam.map (·.abs))) dn → (∀ c ∈ fam.map (·.c), c ∈ dn) → Sym H h' (sortL w x dx nd r p t1 f t2 fam ++ G) → Q .none ⟨h', g, d, tk', os⟩)
    (kC : ∀ h' tk' b vs Rg, Ring (suOf (fam.map (·.abs))) Rg → vs ≠ [] → vs.length ≤ 1000 → Sym H h' ((b, lstP vs) :: (sortL w x dx nd r p t1 f t2 fam ++ G)) → Q (.ref b) ⟨h', g, d, tk', os⟩) :
    wpAny (model pw w) A (call (.ref 155) [.ref x]) Q E ⟨h, g, d, tk, os⟩ := by
  refine callF T.fcyc T.lim (lt_z hd) S (BindsTo.of_eq rfl) fun h1 L tk1 S1 => ?_
  have S1 := S1.renm (l' := [("self", .ref x)]) ⟨rfl, trivial⟩
  refine wpAny_execs_cons (wpAny_Assign_Name (Attribute_any_ (ldL S1 rfl (getD T.toTopS S1 (.tail _ (.head _)) (.tail _ (.tail _ (.head _))) rfl fun tk2 => stL S1 fun h2 tk3 S2 => ?_))))
  refine wpAny_execs_cons (wpAny_Assign_Name (eNil S2 fun sA h3 S3 => stL S3.swap fun h4 tk4 S4 => ?_))
  refine wpAny_execs_cons (wpAny_Assign_Name (eNil S4 fun iA h5 S5 => stL S5.swap fun h6 tk6 S6 => ?_))
  refine wpAny_execs_cons (wpAny_Assign_Name (eCallT T.toGlobs S6.keep rfl (spliced_nil (setNew (w := w) S6 fun seA h7 S7 => stL S7.swap fun h8 tk8 S8 => ?_))))
  refine wpAny_execs_cons (wpAny_Assign_Name (eDict (w := w) S8 fun nsA h9 S9 => stL S9.swap fun h10 tk10 S10 => ?_))
  obtain ⟨ep, S11⟩ := (S10.front 7 rfl).openD
  have S12 : Sym H h10 (cycL w L [("node2stacki", .ref nsA), ("seen", .ref seA), ("itstack", .ref iA), ("stack", .ref sA), ("n2i", .ref nd), ("self", .ref x)] [] sA iA seA nsA [] [] (restL w x dx nd r p t1 f t2 fam ep G)) := by
    have S12 : Sym H h10 ((sA, lstP []) :: (L, nsP [("node2stacki", .ref nsA), ("seen", .ref seA), ("itstack", .ref iA), ("stack", .ref sA), ("n2i", .ref nd), ("self", .ref x)]) :: (iA, lstP []) :: (seA, setP w []) :: (nsA, dctP w []) :: (x, instP 165 dx []) :: (dx, nsE (sd (.ref nd) r (.int p t1) (.int f t2))) :: (nd, dctA w (kvsOf fam) ep) :: (famL fam ++ G)) :=
      S11.perm (by (refine perm_sum fun _ => ?_; (try simp only [locals_eq, List.append_eq, sortL, famL_app, famL_cons, famL_nil, NodeR.ent, List.cons_append, List.nil_append, List.append_assoc, List.eraseIdx_cons_succ, List.eraseIdx_cons_zero]); (try simp only [List.map_append, List.map_cons, List.map_nil, List.sum_append, List.sum_cons, List.sum_nil, Nat.add_zero, Nat.zero_add, Nat.add_assoc]); (try ac_rfl)))
    exact (S12.lnClose .nil).swap
  refine wpAny_execs_cons (wpAny_For (ldL S12 rfl (iterK T.mods S12 (.tail _ (.tail _ (.tail _ (.tail _ (.tail _ (.tail _ (.tail _ (.head _)))))))) fun fi h13 S13 => ?_)))
  have S13 : Sym H h13 (cycL w L [("node2stacki", .ref nsA), ("seen", .ref seA), ("itstack", .ref iA), ("stack", .ref sA), ("n2i", .ref nd), ("self", .ref x)] [] sA iA seA nsA [] [] ((fi, keyItP nd 0 (kvsOf fam).length ep) :: restL w x dx nd r p t1 f t2 fam ep G)) :=
    S13.perm (by show List.Perm _ (_ :: _ :: _ :: _ :: _ :: _ :: restL w x dx nd r p t1 f t2 fam ep G); exact perm5)
  have hfa : ∀ (l : List (Str × Value)) (ks : List SK) (sn : List Nat) (kvs : List (Str × Value)) (j : Nat), FrIn (cycL w L l ks sA iA seA nsA sn kvs ((fi, keyItP nd j (kvsOf fam).length ep) :: restL w x dx nd r p t1 f t2 fam ep G)) (callEnv fdCyc L 155 :: outer) := by
    intro l ks sn kvs j env he
    cases he with
    | head =>
      have e : (callEnv fdCyc L 155).scope.kind = .function := rfl
      exact ⟨by rw [e]; decide, L, l, rfl, .head _⟩
    | tail _ he =>
      obtain ⟨h1, L', l', h2, h3⟩ := hfi env he
      refine ⟨h1, L', l', h2, ?_⟩
      unfold cycL restL
      simp only [List.mem_cons, List.mem_append]
      exact .inr (.inr (.inr (.inr (.inr (.inr (.inr (.inr (.inr (.inr (.inr h3))))))))))
  refine forN (fun m s' => ∃ h' tk' j dn sn un l, s' = ⟨h', g, d, tk', os⟩ ∧ m = fam.length - j ∧ j ≤ fam.length ∧ Sym H h' (cycL w L l [] sA iA seA nsA sn [] ((fi, keyItP nd j (kvsOf fam).length ep) :: restL w x dx nd r p t1 f t2 fam ep G)) ∧
    NsHas l [("node2stacki", .ref nsA), ("seen", .ref seA), ("itstack", .ref iA), ("stack", .ref sA), ("n2i", .ref nd)] ∧ Dfs (suOf (fam.map (·.abs))) (fam.map (·.c)) [] dn sn un ∧ ∀ i < j, ∀ c, (fam.map (·.c))[i]? = some c → c ∈ sn) ?_ fam.length
    ⟨h13, _, 0, [], [], fam.map (·.c), _, rfl, rfl, Nat.zero_le _, S13, ⟨rfl, rfl, rfl, rfl, rfl, trivial⟩, ⟨.refl _, .refl _, trivial⟩, fun i hi => absurd hi (by omega)⟩
  rintro m s' ⟨h', tk', j, dn, sn, un, l, rfl, rfl, hj, S', hns, D, hseen⟩ Y Z hY hZ
  have S' := S'.renm hns
  have S' := S'.front 5 rfl
  cases hc : (fam.map (·.c))[j]? with
  | none =>
    refine endK (A := A.deeper (callEnv fdCyc L 155)) hh S' (.tail _ (.tail _ (.tail _ (.tail _ (.tail _ (.tail _ (.tail _ (.head _)))))))) ?_ fun h14 S14 => ?_
    · rw [List.getElem?_eq_none_iff] at hc ⊢
      simpa [kvsOf] using hc
    · refine wpAny_execs_nil (hZ _ _ ?_)
      refine wpAny_execs_cons (wpAny_Return_some (Constant_none (kN h14 _ dn D.topo ?_ ?_)))
      · intro c hcn
        obtain ⟨i, hi⟩ := List.getElem?_of_mem hcn
        have hlt : i < j := by
          have h1 := List.getElem?_eq_none_iff.mp hc
          have h2 := (List.getElem?_eq_some_iff.mp hi).1
          omega
        have := D.mem.mp (hseen i hlt c hi)
        simpa using this
      · have S15 : Sym H h14 ((x, instP 165 dx []) :: (dx, nsE (sd (.ref nd) r (.int p t1) (.int f t2))) :: (nd, dctA w (kvsOf fam) ep) :: (famL fam ++ G)) := S14.tail.tail.tail.tail.tail
        exact (S15.front 2 rfl).closeD.perm (by (refine perm_sum fun _ => ?_; (try simp only [locals_eq, List.append_eq, sortL, famL_app, famL_cons, famL_nil, NodeR.ent, List.cons_append, List.nil_append, List.append_assoc, List.eraseIdx_cons_succ, List.eraseIdx_cons_zero]); (try simp only [List.map_append, List.map_cons, List.map_nil, List.sum_append, List.sum_cons, List.sum_nil, Nat.add_zero, Nat.zero_add, Nat.add_assoc]); (try ac_rfl)))
  | some c =>
    have hjl : j < fam.length := by simpa using (List.getElem?_eq_some_iff.mp hc).1
    have hkv : (kvsOf fam)[j]? = some (nm c, .ref (fam[j]'hjl).ia) := by
      have : (fam[j]'hjl).c = c := by
        have := (List.getElem?_eq_some_iff.mp hc).2
        simpa using this
      simp [kvsOf, List.getElem?_map, hjl, this]
    refine nextK S' (.tail _ (.tail _ (.tail _ (.tail _ (.tail _ (.tail _ (.tail _ (.head _)))))))) hkv fun h14 t14 S14 => ?_
    have S14 := S14.front 1 rfl
    refine wpAny_assign_Name (stL S14 fun h15 tk15 S15 => ?_)
    have S15 : Sym H h15 (cycL w L [("node", .str (nm c) t14), ("node2stacki", .ref nsA), ("seen", .ref seA), ("itstack", .ref iA), ("stack", .ref sA), ("n2i", .ref nd)] [] sA iA seA nsA sn [] ((fi, keyItP nd (j + 1) (kvsOf fam).length ep) :: restL w x dx nd r p t1 f t2 fam ep G)) :=
      S15.perm (by show List.Perm _ (_ :: _ :: _ :: _ :: _ :: _ :: restL w x dx nd r p t1 f t2 fam ep G); exact perm5')
    refine wpAny_execs_cons (wpAny_If (wpAny_isTrue_Compare1 (ldL S15 rfl (ldL S15 rfl (inS S15 (.tail _ (.tail _ (.tail _ (.head _)))) fun tk16 => wpAny_truthy_bool ?_)))))
    by_cases hin : c ∈ sn
    · refine itT (by simpa using hin) ?_
      refine wpAny_execs_cons (wpAny_Continue (hY _ _ ⟨fam.length - (j + 1), Nat.sub_succ_lt_self _ _ hjl, h15, _, j + 1, dn, sn, un, _, rfl, rfl, hjl, S15, ⟨rfl, rfl, rfl, rfl, rfl, trivial⟩, D, ?_⟩))
      intro i hi c' hc'
      by_cases e : i = j
      · subst e; rw [hc] at hc'; cases hc'; exact hin
      · exact hseen i (by omega) c' hc'
    · refine itF (by simpa using hin) (wpAny_execs_nil ?_)
      refine wpAny_execs_cons (wpAny_While ?_)
      have hcn : c ∈ fam.map (·.c) := List.mem_of_getElem? hc
      refine whileO (fun n s' => ∃ h' tk' ks v tv dn sn un kvs l, s' = ⟨h', g, d, tk', os⟩ ∧ n = cost (suOf (fam.map (·.abs))) un (stOf ks) ∧ Sym H h' (cycL w L l ks sA iA seA nsA sn kvs ((fi, keyItP nd (j + 1) (kvsOf fam).length ep) :: restL w x dx nd r p t1 f t2 fam ep G)) ∧
        NsHas l [("node", .str (nm v) tv), ("node2stacki", .ref nsA), ("seen", .ref seA), ("itstack", .ref iA), ("stack", .ref sA), ("n2i", .ref nd)] ∧ Dfs (suOf (fam.map (·.abs))) (fam.map (·.c)) (stOf ks) dn sn un ∧ Chn (suOf (fam.map (·.abs))) dn (stOf ks) (some v) ∧ v ∈ fam.map (·.c) ∧
        KvS kvs (cs_ ks) ∧ (∀ k ∈ ks, ∃ r ∈ fam, r.c = k.c ∧ r.sa = k.sa) ∧ (c ∈ sn ∨ v = c) ∧ ∀ i < j, ∀ c, (fam.map (·.c))[i]? = some c → c ∈ sn) ?_ _
        ⟨h15, _, [], c, t14, dn, sn, un, [], _, rfl, rfl, S15, ⟨rfl, rfl, rfl, rfl, rfl, rfl, trivial⟩, D, trivial, hcn, ⟨rfl, fun p hp => by simp at hp⟩, fun k hk => by simp at hk, .inr rfl, hseen⟩
      clear S' S15 S14 D hns hseen hin hkv
      rintro W₀ s' ⟨h', tk', ks, v, tv, dn, sn, un, kvs, l, rfl, rfl, S', hns, D, C, hvn, hkv, hks, hroot, hseen⟩ Y1 Z1 hY1 hZ1
      have S' := S'.renm hns
      obtain ⟨un₀, ks₀, hu₀, hk₀⟩ : ∃ un₀ ks₀, un₀ = un ∧ ks₀ = ks := ⟨un, ks, rfl, rfl⟩
      rw [← hu₀, ← hk₀] at hY1
      refine isEx (cBool (wpAny_truthy_bool (itT rfl ?_)))
      refine cutR (fun s' => ∃ h' tk' ks dn sn un kvs l, s' = ⟨h', g, d, tk', os⟩ ∧ cost (suOf (fam.map (·.abs))) un (stOf ks) ≤ cost (suOf (fam.map (·.abs))) un₀ (stOf ks₀) ∧ Sym H h' (cycL w L l ks sA iA seA nsA sn kvs ((fi, keyItP nd (j + 1) (kvsOf fam).length ep) :: restL w x dx nd r p t1 f t2 fam ep G)) ∧
        NsHas l [("node2stacki", .ref nsA), ("seen", .ref seA), ("itstack", .ref iA), ("stack", .ref sA), ("n2i", .ref nd)] ∧ Dfs (suOf (fam.map (·.abs))) (fam.map (·.c)) (stOf ks) dn sn un ∧ Chn (suOf (fam.map (·.abs))) dn (stOf ks) none ∧
        KvS kvs (cs_ ks) ∧ (∀ k ∈ ks, ∃ r ∈ fam, r.c = k.c ∧ r.sa = k.sa) ∧ c ∈ sn ∧ ∀ i < j, ∀ c, (fam.map (·.c))[i]? = some c → c ∈ sn) Q ?_ ?_ (fun v s' q => hY1 _ _ (hY _ _ q))
      · -- the node is looked at
        intro J hJ
        refine wpAny_If (wpAny_isTrue_Compare1 (ldL S' rfl (ldL S' rfl (inS S' (.tail _ (.tail _ (.tail _ (.head _)))) fun tk16 => wpAny_truthy_bool ?_))))
        by_cases hvs : v ∈ sn
        · refine itT (by simpa using hvs) ?_
          have hcs : c ∈ sn := hroot.elim id fun e => e ▸ hvs
          refine wpAny_execs_cons (wpAny_If (wpAny_isTrue_Compare1 (ldL S' rfl (ldL S' rfl (inD T.mods S' (.tail _ (.tail _ (.tail _ (.tail _ (.head _))))) fun tk17 => wpAny_truthy_bool ?_)))))
          rw [hkv.isSome]
          by_cases hvk : v ∈ cs_ ks
          · refine itT (by simpa using hvk) ?_
            obtain ⟨jj, tj, hval⟩ := hkv.val hvk
            obtain ⟨vs, hn, S17⟩ := (S'.front 1 rfl).lnOpen
            have S17 := S17.swap
            have hvl : vs.length ≤ 80 := by
              rw [hn.length, List.length_reverse]
              have := D.len.2
              simp only [stOf, List.length_map] at this
              simp only [cs_, List.length_map]
              omega
            refine wpAny_execs_cons (wpAny_Return_some (wpAny_BinOp (sliceL (ldL S17 rfl (wpAny_evalPart_some (Subscript_ (ldL S17 rfl (ldL S17 rfl (dSub S17 (.tail _ (.tail _ (.tail _ (.tail _ (.head _))))) hval fun tk18 => wpAny_evalPart_none
              ⟨H, _, sA, vs, some jj, none, rfl, .tail _ (.head _), by omega, S17, .int _ _, .none, fun b h19 S19 => ?_⟩)))))))))
            have S19 := S19.front 1 rfl
            refine List_ (spliced_cons (ldL S19 rfl (spliced_nil (wpAny_newList ?_))))
            have S20 := S19.push (o := { cls := .type "list", data := .seq [Value.str (nm v) tv].toArray }) (P := lstP [.str (nm v) tv]) rfl ⟨0, rfl⟩
            have hsz := slicePick_size_le vs.toArray (some jj) none none
            simp only [List.size_toArray] at hsz
            refine addL S20 (.tail _ (.tail _ (.head _))) (.head _) (by simp; omega) fun b2 h21 S21 => ?_
            obtain ⟨Rg, hR⟩ := C.ring (by rw [stOf_c]; exact hvk)
            refine kC h21 _ b2 ((slicePick vs.toArray (some jj) none none).toList ++ [.str (nm v) tv]) Rg hR (by simp) (by simp; omega) ?_
            have S22 : Sym H h21 ((b2, lstP ((slicePick vs.toArray (some jj) none none).toList ++ [.str (nm v) tv])) :: (stkL ks ++ ((fi, keyItP nd (j + 1) (kvsOf fam).length ep) :: restL w x dx nd r p t1 f t2 fam ep G))) := S21.swap.tail.swap.tail.swap.tail.swap.tail.swap.tail.swap.tail.swap.tail
            have S23 : Sym H h21 ((b2, lstP ((slicePick vs.toArray (some jj) none none).toList ++ [.str (nm v) tv])) :: (x, instP 165 dx []) :: (dx, nsE (sd (.ref nd) r (.int p t1) (.int f t2))) :: (nd, dctA w (kvsOf fam) ep) :: (famL fam ++ G)) := sub_ring S22 ((List.sublist_cons_self _ _).trans (List.sublist_append_right (stkL ks) _))
            exact (S23.front 3 rfl).closeD.perm (by (refine perm_sum fun _ => ?_; (try simp only [locals_eq, List.append_eq, sortL, famL_app, famL_cons, famL_nil, NodeR.ent, List.cons_append, List.nil_append, List.append_assoc, List.eraseIdx_cons_succ, List.eraseIdx_cons_zero]); (try simp only [List.map_append, List.map_cons, List.map_nil, List.sum_append, List.sum_cons, List.sum_nil, Nat.add_zero, Nat.zero_add, Nat.add_assoc]); (try ac_rfl)))
          · refine itF (by simpa using hvk) (wpAny_execs_nil ?_)
            have hvd : v ∈ dn := by
              rcases D.mem.mp hvs with q | q
              · exact q
              · rw [stOf_c] at q; exact absurd q hvk
            exact wpAny_execs_nil (hJ _ ⟨h', _, ks, dn, sn, un, kvs, _, rfl, by rw [hu₀, hk₀]; exact Nat.le_refl _, S', ⟨rfl, rfl, rfl, rfl, rfl, trivial⟩, D, C.old hvd, hkv, hks, hcs, hseen⟩)
        · refine itF (by simpa using hvs) ?_
          obtain ⟨rv, hrv, hcv, hva⟩ := find_c (fam := fam) (c := v) hvn
          have hun := D.un_of hvn hvs
          have hlen := D.len
          have hkl : ks.length ≤ 80 := by
            have := hlen.2
            simp only [stOf, List.length_map] at this
            omega
          have hvk : v ∉ cs_ ks := fun z => hvs (D.mem.mpr (.inr (by rw [stOf_c]; exact z)))
          simp only [List.length_map] at hlen
          -- seen.add(node)
          obtain ⟨ob, o1, n1, n2, n3, n4, n5, _⟩ := S'.get (a := seA) (.tail _ (.tail _ (.tail _ (.head _))))
          refine wpAny_execs_cons (wpAny_Expr (addSet (ldL S' rfl ⟨seA, ob, rfl, o1, n5.1, n5.2.1, ldL S' rfl ⟨sn, v, tv, H, _, rfl, by omega, S'.front 3 rfl, fun h17 tk17 S17 => ?_⟩⟩)))
          have S17 : Sym H h17 (cycL w L [("node", .str (nm v) tv), ("node2stacki", .ref nsA), ("seen", .ref seA), ("itstack", .ref iA), ("stack", .ref sA), ("n2i", .ref nd)] ks sA iA seA nsA (sn ++ [v]) kvs ((fi, keyItP nd (j + 1) (kvsOf fam).length ep) :: restL w x dx nd r p t1 f t2 fam ep G)) :=
            S17.perm (by show List.Perm (_ :: _ :: _ :: _ :: _ :: (stkL ks ++ _)) (_ :: _ :: _ :: _ :: _ :: (stkL ks ++ _)); exact perm4)
          clear o1
          obtain ⟨ob, o1, o2, o3⟩ := S17.isObj (a := iA) (.tail _ (.tail _ (.head _)))
          have hnd : (nd, dctA w (kvsOf fam) ep) ∈ cycL w L [("node", .str (nm v) tv), ("node2stacki", .ref nsA), ("seen", .ref seA), ("itstack", .ref iA), ("stack", .ref sA), ("n2i", .ref nd)] ks sA iA seA nsA (sn ++ [v]) kvs ((fi, keyItP nd (j + 1) (kvsOf fam).length ep) :: restL w x dx nd r p t1 f t2 fam ep G) := by
            rw [cycL_pre]
            simp
          have hrsa : (rv.sa, lnP rv.su) ∈ cycL w L [("node", .str (nm v) tv), ("node2stacki", .ref nsA), ("seen", .ref seA), ("itstack", .ref iA), ("stack", .ref sA), ("n2i", .ref nd)] ks sA iA seA nsA (sn ++ [v]) kvs ((fi, keyItP nd (j + 1) (kvsOf fam).length ep) :: restL w x dx nd r p t1 f t2 fam ep G) := by
            rw [cycL_pre]
            exact mem_su hrv rfl rfl
          refine wpAny_execs_cons (wpAny_Expr (appendL (ldL S17 rfl ⟨iA, ob, rfl, o1, o2, o3, Attribute_any_ (eCallB T.toGlobs S17.keep rfl (spliced_cons (Attribute_any_ (Subscript_ (ldL S17 rfl (ldL S17 rfl (dSubA S17 hnd hva fun tk18 => ?_)))))))⟩)))
          refine fSu (pre := _) T.toTopS (cycL_pre ▸ S17) hrv fun tk19 => spliced_nil (iterN_call S17 hrsa fun it h20 S20 => getNext S20 fun mw h21 tk21 S21 => ⟨msV ks, H, _, by simp [msV]; omega, S21.front 4 rfl, fun h22 S22 => ?_⟩)
          have S22 : Sym H h22 ((L, nsP [("node", .str (nm v) tv), ("node2stacki", .ref nsA), ("seen", .ref seA), ("itstack", .ref iA), ("stack", .ref sA), ("n2i", .ref nd)]) :: (sA, lnP (cs_ ks).reverse) :: (iA, lstP (msV ks ++ [.ref mw])) :: (seA, setP w (sn ++ [v])) :: (nsA, dctP w kvs) :: (mw, mwP it) :: (it, itP "list_iterator" rv.sa 0) :: (stkL ks ++ ((fi, keyItP nd (j + 1) (kvsOf fam).length ep) :: restL w x dx nd r p t1 f t2 fam ep G))) :=
            S22.perm (by show List.Perm (_ :: _ :: _ :: _ :: _ :: _ :: _ :: (stkL ks ++ _)) (_ :: _ :: _ :: _ :: _ :: _ :: _ :: (stkL ks ++ _)); exact perm7)
          -- node2stacki[node] = len(stack)
          refine wpAny_execs_cons (wpAny_Assign_Subscript (eCallB T.toGlobs S22.keep rfl (spliced_cons (ldL S22 rfl (spliced_nil (lenN S22 (.tail _ (.head _)) (by simp [cs_]; omega) fun t23 tk23 => ldL S22 rfl (ldL S22 rfl (dSetItem (S22.front 4 rfl) (by rw [hkv.len]; simp [cs_]; omega) fun h24 tk24 S24 => ?_))))))))
          -- stack.append(node)
          have S24 := S24.front 1 rfl
          obtain ⟨ob, o1, o2, o3⟩ := S24.isObjN (a := sA) (.tail _ (.tail _ (.head _)))
          refine wpAny_execs_cons (wpAny_Expr (appendN (ldL S24 rfl ⟨sA, ob, rfl, o1, o2, o3, ldL S24 rfl ⟨(cs_ ks).reverse, v, tv, H, _, rfl, by simp [cs_]; omega, S24.front 2 rfl, fun h25 S25 => ?_⟩⟩)))
          refine wpAny_execs_nil (hJ _ ⟨h25, _, ⟨v, mw, it, rv.sa, 0⟩ :: ks, dn, sn ++ [v], un.erase v, stored kvs (nm v) (.int ((cs_ ks).reverse.length : Nat) t23), [("node", .str (nm v) tv), ("node2stacki", .ref nsA), ("seen", .ref seA), ("itstack", .ref iA), ("stack", .ref sA), ("n2i", .ref nd)], rfl, ?_, ?_, ⟨rfl, rfl, rfl, rfl, rfl, trivial⟩, D.push hun, C.push, hkv.push hvk (cs_ ks).reverse.length t23, ?_, ?_, ?_⟩)
          · rw [hu₀, hk₀]; exact Nat.le_of_lt (cost_push hun)
          · have e1 : (cs_ (⟨v, mw, it, rv.sa, 0⟩ :: ks)).reverse = (cs_ ks).reverse ++ [v] := by simp [cs_]
            have e2 : msV (⟨v, mw, it, rv.sa, 0⟩ :: ks) = msV ks ++ [.ref mw] := by simp [msV]
            unfold cycL
            rw [e1, e2]
            refine S25.perm ?_
            show List.Perm (_ :: _ :: _ :: _ :: _ :: _ :: _ :: (stkL ks ++ _)) (_ :: _ :: _ :: _ :: _ :: _ :: _ :: (stkL ks ++ _))
            exact perm7'
          · intro k hk
            cases hk with
            | head => exact ⟨rv, hrv, hcv, rfl⟩
            | tail _ hk => exact hks k hk
          · rcases hroot with q | q
            · exact List.mem_append_left _ q
            · rw [← q]; simp
          · exact fun i hi c' hc' => List.mem_append_left _ (hseen i hi c' hc')
      · -- the stack is walked
        clear S' hkv hks hroot hvn hseen C D hns
        rintro _ ⟨h', tk', ks, dn, sn, un, kvs, l, rfl, hcost, S', hns, D, C, hkv, hks, hcs, hseen⟩
        refine wpAny_execs_cons (wpAny_While ?_)
        refine whileO (fun n s' => ∃ h' tk' ks dn kvs l, s' = ⟨h', g, d, tk', os⟩ ∧ n = ks.length ∧ cost (suOf (fam.map (·.abs))) un (stOf ks) ≤ cost (suOf (fam.map (·.abs))) un₀ (stOf ks₀) ∧ Sym H h' (cycL w L l ks sA iA seA nsA sn kvs ((fi, keyItP nd (j + 1) (kvsOf fam).length ep) :: restL w x dx nd r p t1 f t2 fam ep G)) ∧
          NsHas l [("node2stacki", .ref nsA), ("seen", .ref seA), ("itstack", .ref iA), ("stack", .ref sA), ("n2i", .ref nd)] ∧ Dfs (suOf (fam.map (·.abs))) (fam.map (·.c)) (stOf ks) dn sn un ∧ Chn (suOf (fam.map (·.abs))) dn (stOf ks) none ∧
          KvS kvs (cs_ ks) ∧ (∀ k ∈ ks, ∃ r ∈ fam, r.c = k.c ∧ r.sa = k.sa)) ?_ _ ⟨h', _, ks, dn, kvs, l, rfl, rfl, hcost, S', hns, D, C, hkv, hks⟩
        clear S' hkv hks C D hns hcost
        rintro n s' ⟨h', tk', ks, dn, kvs, l, rfl, rfl, hcost, S', hns, D, C, hkv, hks⟩ Y2 Z2 hY2 hZ2
        have S' := S'.renm hns
        have hlen := D.len
        simp only [List.length_map, stOf] at hlen
        refine isEx (ldL S' rfl (truthyN S' (.tail _ (.head _)) (by simp [cs_]; omega) fun tk17 => ?_))
        cases ks with
        | nil =>
          refine itF rfl ?_
          refine wpAny_execs_cons (wpAny_Break (hZ2 _ _ (hY1 _ _ ?_)))
          have : kvs = [] := List.eq_nil_of_length_eq_zero hkv.len
          subst this
          refine wpAny_execs_nil (hY _ _ ⟨fam.length - (j + 1), Nat.sub_succ_lt_self _ _ hjl, h', _, j + 1, dn, sn, un, _, rfl, rfl, hjl, S', ⟨rfl, rfl, rfl, rfl, rfl, trivial⟩, D, ?_⟩)
          intro i hi c' hc'
          by_cases e : i = j
          · subst e; rw [hc] at hc'; cases hc'; exact hcs
          · exact hseen i (by omega) c' hc'
        | cons k ks =>
          refine itT (by simp [cs_]) ?_
          obtain ⟨rk, hrk, hck, hsk⟩ := hks k (.head _)
          have esu : suOf (fam.map (·.abs)) k.c = rk.su := by rw [← hck]; exact suOf_mem nc hrk
          have ems : msV (k :: ks) = msV ks ++ [.ref k.m] := by simp [msV]
          have ecs : (cs_ (k :: ks)).reverse = (cs_ ks).reverse ++ [k.c] := by simp [cs_]
          have hmsl : (msV ks).length ≤ 80 := by simp [msV]; simp at hlen; omega
          -- the ledger, the iterator first
          have SX : Sym H h' ((k.it, itP "list_iterator" k.sa k.i) :: (L, nsP [("node2stacki", .ref nsA), ("seen", .ref seA), ("itstack", .ref iA), ("stack", .ref sA), ("n2i", .ref nd)]) :: (sA, lnP ((cs_ ks).reverse ++ [k.c])) :: (iA, lstP (msV ks ++ [.ref k.m])) :: (seA, setP w sn) :: (nsA, dctP w kvs) :: (k.m, mwP k.it) :: (stkL ks ++ ((fi, keyItP nd (j + 1) (kvsOf fam).length ep) :: restL w x dx nd r p t1 f t2 fam ep G))) := by
            have := S'
            unfold cycL at this
            rw [ems, ecs] at this
            refine this.perm ?_
            show List.Perm (_ :: _ :: _ :: _ :: _ :: _ :: _ :: (stkL ks ++ _)) (_ :: _ :: _ :: _ :: _ :: _ :: _ :: (stkL ks ++ _))
            exact perm7a
          have hmsa : ∀ l' vs' us', (k.sa, lnP rk.su) ∈ (L, nsP l') :: (sA, lnP vs') :: (iA, lstP us') :: (seA, setP w sn) :: (nsA, dctP w kvs) :: (k.m, mwP k.it) :: (stkL ks ++ ((fi, keyItP nd (j + 1) (kvsOf fam).length ep) :: restL w x dx nd r p t1 f t2 fam ep G)) := by
            intro l' vs' us'
            have h1 : (k.sa, lnP rk.su) ∈ famL fam := List.mem_flatMap.mpr ⟨rk, hrk, by rw [← hsk]; exact .tail _ (.tail _ (.head _))⟩
            unfold restL
            simp only [List.mem_cons, List.mem_append]
            exact .inr (.inr (.inr (.inr (.inr (.inr (.inr (.inr (.inr (.inr (.inr (.inl h1)))))))))))
          have SY := SX.swap
          refine wpAny_execs_cons (wpAny_Try_except ?_)
          refine wpAny_execs_cons (wpAny_Assign_Name (callMw (Subscript_ (ldL SY rfl (eNeg1 fun t18 tk18 => negL SY (.tail _ (.tail _ (.tail _ (.head _)))) (by omega) ⟨k.m, k.it, rfl, SY.get (.tail _ (.tail _ (.tail _ (.tail _ (.tail _ (.tail _ (.head _))))))), ?_⟩)))))
          cases hd : (suOf (fam.map (·.abs)) k.c)[k.i]? with
          | some q =>
            refine mw_next SX (.tail _ (.tail _ (.tail _ (.tail _ (.tail _ (.head _)))))) (hmsa _ _ _) (by rw [← esu]; exact hd) fun h19 t19 S19 => ?_
            refine stL S19.swap fun h20 tk20 S20 => ?_
            refine wpAny_execs_cons (wpAny_Break (hY2 _ _ ?_))
            refine wpAny_execs_nil (hY1 _ _ ⟨_, Nat.lt_of_lt_of_le (cost_draw hd) hcost, h20, _, ⟨k.c, k.m, k.it, k.sa, k.i + 1⟩ :: ks, q, t19, dn, sn, un, kvs, [("node", .str (nm q) t19), ("node2stacki", .ref nsA), ("seen", .ref seA), ("itstack", .ref iA), ("stack", .ref sA), ("n2i", .ref nd)], rfl, rfl, ?_, ⟨rfl, rfl, rfl, rfl, rfl, rfl, trivial⟩, D.next, Chn.draw C hd, ?_, hkv, ?_, .inl hcs, hseen⟩)
            · have e1 : (cs_ (⟨k.c, k.m, k.it, k.sa, k.i + 1⟩ :: ks)).reverse = (cs_ ks).reverse ++ [k.c] := by simp [cs_]
              have e2 : msV (⟨k.c, k.m, k.it, k.sa, k.i + 1⟩ :: ks) = msV ks ++ [.ref k.m] := by simp [msV]
              unfold cycL
              rw [e1, e2]
              refine S20.perm ?_
              show List.Perm (_ :: _ :: _ :: _ :: _ :: _ :: _ :: (stkL ks ++ _)) (_ :: _ :: _ :: _ :: _ :: _ :: _ :: (stkL ks ++ _))
              exact perm7b
            · have : q ∈ suOf (fam.map (·.abs)) k.c := List.mem_of_getElem? hd
              rw [esu] at this
              exact hsu rk hrk q this
            · intro k' hk'
              cases hk' with
              | head => exact hks k (.head _)
              | tail _ hk' => exact hks k' (.tail _ hk')
          | none =>
            refine mw_end (A := A.deeper (callEnv fdCyc L 155)) hh SX (.tail _ (.tail _ (.tail _ (.tail _ (.tail _ (.head _)))))) (hmsa _ _ _) (by rw [← esu]; exact hd) fun h19 ex S19 => ?_
            have hfX : FrIn ((L, nsP [("node2stacki", .ref nsA), ("seen", .ref seA), ("itstack", .ref iA), ("stack", .ref sA), ("n2i", .ref nd)]) :: (sA, lnP ((cs_ ks).reverse ++ [k.c])) :: (iA, lstP (msV ks ++ [.ref k.m])) :: (seA, setP w sn) :: (nsA, dctP w kvs) :: (k.m, mwP k.it) :: (stkL ks ++ ((fi, keyItP nd (j + 1) (kvsOf fam).length ep) :: restL w x dx nd r p t1 f t2 fam ep G))) (callEnv fdCyc L 155 :: outer) := by
              intro env he
              cases he with
              | head =>
                have e : (callEnv fdCyc L 155).scope.kind = .function := rfl
                exact ⟨by rw [e]; decide, L, _, rfl, .head _⟩
              | tail _ he =>
                obtain ⟨h1, L', l', h2, h3⟩ := hfi env he
                refine ⟨h1, L', l', h2, ?_⟩
                unfold restL
                simp only [List.mem_cons, List.mem_append]
                exact .inr (.inr (.inr (.inr (.inr (.inr (.inr (.inr (.inr (.inr (.inr (.inr h3)))))))))))
            refine noteNew (Around.frames_deeper hfr) hfX S19 fun h20 Tb S20 => ?_
            refine caughtStop T.toGlobs S20 fun h21 S21 => ?_
            have S21 := S21.tail.tail
            have hkk : k.c ∉ cs_ ks := by
              have := (D.nodup nc).1
              rw [stOf_c] at this
              exact (List.nodup_cons.mp this).1
            have hkvl : kvs.length ≤ 100 := by rw [hkv.len]; simp [cs_]; simp at hlen; omega
            refine wpAny_execs_cons (wpAny_Delete (wpAny_deleteEach_cons (wpAny_delete_Subscript (ldL S21 rfl (popN (ldL S21 rfl ⟨sA, (cs_ ks).reverse, k.c, H, _, rfl, by simp [cs_]; simp at hlen; omega, S21.swap, fun h22 t22 S22 => ?_⟩))))))
            refine delD (S22.front 4 rfl) (by omega) (by rw [hkv.isSome]; simp [cs_]) fun h23 tk23 S23 => wpAny_deleteEach_nil ?_
            have S23 := S23.front 2 rfl
            refine wpAny_execs_cons (wpAny_Expr_any (popL (ldL S23 rfl ⟨iA, msV ks, .ref k.m, H, _, rfl, by omega, S23.front 3 rfl, fun h24 S24 => ?_⟩)))
            obtain ⟨hall, C'⟩ := Chn.pop C hd
            refine wpAny_execs_nil ?_
            refine wpAny_execs_nil (hY2 _ _ ⟨ks.length, by simp, h24, _, ks, k.c :: dn, without kvs (nm k.c), [("node2stacki", .ref nsA), ("seen", .ref seA), ("itstack", .ref iA), ("stack", .ref sA), ("n2i", .ref nd)], rfl, rfl, Nat.le_trans cost_pop hcost, ?_, ⟨rfl, rfl, rfl, rfl, rfl, trivial⟩, D.pop hall, C', hkv.pop hkk, fun k' hk' => hks k' (.tail _ hk')⟩)
            have S25 : Sym H h24 ((iA, lstP (msV ks)) :: (L, nsP [("node2stacki", .ref nsA), ("seen", .ref seA), ("itstack", .ref iA), ("stack", .ref sA), ("n2i", .ref nd)]) :: (nsA, dctP w (without kvs (nm k.c))) :: (sA, lnP (cs_ ks).reverse) :: (seA, setP w sn) :: (k.m, mwP k.it) :: (stkL ks ++ ((fi, keyItP nd (j + 1) (kvsOf fam).length ep) :: restL w x dx nd r p t1 f t2 fam ep G))) := S24
            have S26 := (S25.front 5 rfl).tail
            refine S26.perm ?_
            show List.Perm (_ :: _ :: _ :: _ :: _ :: (stkL ks ++ _)) (_ :: _ :: _ :: _ :: _ :: (stkL ks ++ _))
            exact perm5c
end
end Mine

namespace Mine
open PySem PySem.Calls PyProof.Rows PySem.W
noncomputable def cellP (v : Option Value) (o : Obj) : Prop := o.data = .cell v
/-- a comprehension's names, as they read inside -/
noncomputable def inSc (scope : Scope) (env : Env) : Scope :=
  { scope with names := scope.names.map fun (n, k) => if (k == .free && env.scope.kind == .function && env.kindOf n == some .cell) = true then (n, .cell) else (n, k) }
noncomputable def cenvOf (scope : Scope) (loc : Addr) (cells : List (Str × Addr)) (env : Env) : Env :=
  { scope := inSc scope env, locals := loc, globals := env.globals, cells, qual := env.qual, func := none, code := env.code, frame := env.frame, builtins := env.builtins }
section
variable {M : Model} {w : World} {A : Around} {E : Value → Shared → Prop} {H h h' : Heap} {G : Led} {env : Env} {g : Array GenState} {d : Drawn} {tk : Nat} {os : OsState} {a : Addr} {s : Shared}
/-- a cell's name is read -/
theorem ldC {x : Str} {pos : Pos} {v : Value} {c : Addr} {Q : Value → Shared → Prop} (S : Sym H h G) (hm : (c, cellP (some v)) ∈ G) (k : Q v ⟨h, g, d, tk, os⟩)
    (hc : env.cells.lookup x = some c := by rfl) (hl : env.kindOf x = some .cell := by rfl) (hk : env.scope.kind = .function := by rfl) (hd : (x == ("__debug__" : Str)) = false := by decide) :
    wpAny M A (eval (.Name x pos) env) Q E ⟨h, g, d, tk, os⟩ := by
  obtain ⟨o, e, p⟩ := S.get hm
  exact wpAny_Name (wpAny_loadName_cell hk hl hc ⟨o, e, p⟩ k) hd
/-- a cell's name is stored -/
theorem stC {x : Str} {v : Value} {v₀ : Option Value} {c : Addr} {Q : Unit → Shared → Prop} (S : Sym H h ((c, cellP v₀) :: G)) (k : ∀ h', Sym H h' ((c, cellP (some v)) :: G) → Q () ⟨h', g, d, tk, os⟩)
    (hc : env.cells.lookup x = some c := by rfl) (hl : env.kindOf x = some .cell := by rfl) (hk : env.scope.kind = .function := by rfl) :
    wpAny M A (storeName env x v) Q E ⟨h, g, d, tk, os⟩ := by
  obtain ⟨o, e, p⟩ := S.head
  refine wpAny_storeName_cell hk hl hc ⟨o, e, p⟩ fun h' q1 q2 => k h' ?_
  obtain ⟨o', e', p'⟩ := q1
  exact S.upd q2 e' p'
/-- the rest of a comprehension: its frame, its loop, and what is left -/
noncomputable def CompGo (M : Model) (A : Around) (e : Expr) (scope : Scope) (env : Env) (cl : List (Str × Addr)) (it acc : Value) (fin : Addr → Shared → Prop) (s : Shared) : Prop :=
  ∃ H G, Sym H s.heap G ∧ ∀ h' Lc, Sym H h' ((Lc, nsP []) :: G) → codeAny M A (.compStart e 0 it acc (cenvOf scope Lc cl env)) (fun r s' => match r with
    | .ok _ => fin Lc s' | .error _ => False) { s with heap := h' }
theorem comp0 {e : Expr} {scope : Scope} {pos : Pos} {newAcc first : Sem Value} {gc : Comprehension} {gs : List Comprehension} {cl : List (Str × Addr)} {Q : Value → Shared → Prop}
    (hcl : clausesOf e = gc :: gs) (hs : ∀ x, foldedSetIterable gc.iter env x = pure x) (hclo : closureFor scope env = pure cl) (hkind : scope.kind = .function) (hcell : ∀ x ∈ scope.names, x.2 ≠ .cell)
    (hnames : (scope.names.all fun x => decide (x.2 = .local → (inSc scope env).names.lookup x.1 = some .local)) = true)
    (h : wpAny M A first (fun x s₁ => wpAny M A (pyIter x) (fun it s₂ => wpAny M A newAcc (fun acc s₃ => CompGo M A e scope env cl it acc (fun Lc s' => ∃ H' G' l, Sym H' s'.heap ((Lc, nsP l) :: G') ∧ ∀ h'', Sym H' h'' G' → Q acc { s' with heap := h'' }) s₃) E s₂) E s₁) E s) :
    wpAny M A (comprehension e scope env pos newAcc false first) Q E s := by
  unfold comprehension
  rw [hclo, hcl]
  refine wpAny_bind (wpAny_mono h (fun x s₁ h₁ => wpAny_bind (wpAny_standAt (wpAny_bind (wpAny_of_eq (hs x) (wpAny_bind (wpAny_holding (wpAny_mono h₁ (fun it s₂ h₂ =>
    wpAny_standIf (wpAny_bind (wpAny_mono h₂ (fun acc s₃ h₃ => wpAny_bind (wpAny_pure (wpAny_bind ?_))) fun _ _ h' => h')))
      fun _ _ h' => h'))))))) fun _ _ h' => h')
  obtain ⟨H, G, S, h₃⟩ := h₃
  refine wpAny_newFunctionEnv hcell (by intro y hy; simp at hy) (fun h₀ hn hsb => ?_) hkind
  obtain ⟨ob, eo, p⟩ := nsP.of (l := []) hn (fun x v q => by simp at q)
  have S1 := S.alloc (fun b o e => hsb.extBut b o (Nat.ne_of_lt (Heap.lt_size e)) (Heap.get?_push_of_some _ e)) (Sym.size_none _) eo p
  have h₄ := h₃ h₀ _ S1
  refine wpAny_holding (wpAny_bind (wpAny_attempt (wpAny_holding (wpAny_run (codeAny_mono h₄ fun r s' hr => ?_)))))
  cases r with
  | error x => exact hr.elim
  | ok f =>
    obtain ⟨H', G', l, S', hr⟩ := hr
    obtain ⟨m, hn', _⟩ := S'.ns (.head _)
    have hv : ∀ x ∈ (scope.names.filter fun x => (x.2 == .local || x.2 == .cell) && x.1 != (".0" : Str)).reverse, x.2 = .local →
      (cenvOf scope s₃.heap.objs.size cl env).kindOf x.1 = some .local := fun x hx hl => of_decide_eq_true (List.all_eq_true.mp hnames x (List.mem_filter.mp (List.mem_reverse.mp hx)).1) hl
    exact wpAny_bind (wpAny_holding (wpAny_comp_letGo (cenv := cenvOf scope s₃.heap.objs.size cl env) hkind _ s' m hv hn' fun h' m' hn'' hs' => wpAny_pure (hr h' (S'.extTail hs'.extBut))))
theorem compU {e : Expr} {scope : Scope} {pos : Pos} {newAcc first : Sem Value} {gc : Comprehension} {gs : List Comprehension} {cl : List (Str × Addr)} {u : Value → Sem Unit} {Q : Value → Shared → Prop}
    (hcl : clausesOf e = gc :: gs) (hs : ∀ x, foldedSetIterable gc.iter env x = pure x) (hclo : closureFor scope env = pure cl) (hkind : scope.kind = .function) (hcell : ∀ x ∈ scope.names, x.2 ≠ .cell)
    (hnames : (scope.names.all fun x => decide (x.2 = .local → (inSc scope env).names.lookup x.1 = some .local)) = true)
    (h : wpAny M A first (fun x s₁ => wpAny M A (pyIter x) (fun it s₂ => wpAny M A newAcc (fun acc s₃ => CompGo M A e scope env cl it acc (fun Lc s' => wpAny M A (u acc) (fun _ s'' => ∃ H' G' l, Sym H' s''.heap ((Lc, nsP l) :: G') ∧ ∀ h'', Sym H' h'' G' → Q .none { s'' with heap := h'' }) E s') s₃) E s₂) E s₁) E s) :
    wpAny M A (comprehension e scope env pos newAcc false first (some u)) Q E s := by
  unfold comprehension
  rw [hclo, hcl]
  refine wpAny_bind (wpAny_mono h (fun x s₁ h₁ => wpAny_bind (wpAny_standAt (wpAny_bind (wpAny_of_eq (hs x) (wpAny_bind (wpAny_holding (wpAny_mono h₁ (fun it s₂ h₂ =>
    wpAny_standIf (wpAny_bind (wpAny_mono h₂ (fun acc s₃ h₃ => wpAny_bind (wpAny_pure (wpAny_bind ?_))) fun _ _ h' => h')))
      fun _ _ h' => h'))))))) fun _ _ h' => h')
  obtain ⟨H, G, S, h₃⟩ := h₃
  refine wpAny_newFunctionEnv hcell (by intro y hy; simp at hy) (fun h₀ hn hsb => ?_) hkind
  obtain ⟨ob, eo, p⟩ := nsP.of (l := []) hn (fun x v q => by simp at q)
  have S1 := S.alloc (fun b o e => hsb.extBut b o (Nat.ne_of_lt (Heap.lt_size e)) (Heap.get?_push_of_some _ e)) (Sym.size_none _) eo p
  have h₄ := h₃ h₀ _ S1
  refine wpAny_holding (wpAny_bind (wpAny_attempt (wpAny_holding (wpAny_run (codeAny_mono h₄ fun r s' hr => ?_)))))
  cases r with
  | error x => exact hr.elim
  | ok f =>
    refine wpAny_bind (wpAny_rule (wpAny_bind (wpAny_holding (wpAny_mono hr (fun _ s'' hr' => ?_) fun _ _ h' => h'))))
    obtain ⟨H', G', l, S', hr⟩ := hr'
    obtain ⟨m, hn', _⟩ := S'.ns (.head _)
    have hv : ∀ x ∈ (scope.names.filter fun x => (x.2 == .local || x.2 == .cell) && x.1 != (".0" : Str)).reverse, x.2 = .local →
      (cenvOf scope s₃.heap.objs.size cl env).kindOf x.1 = some .local := fun x hx hl => of_decide_eq_true (List.all_eq_true.mp hnames x (List.mem_filter.mp (List.mem_reverse.mp hx)).1) hl
    have hv' : ∀ x ∈ (scope.names.filter fun x => (x.2 == .local || x.2 == .cell) && x.1 != (".0" : Str)).reverse.drop 1 ++ (scope.names.filter fun x => (x.2 == .local || x.2 == .cell) && x.1 != (".0" : Str)).reverse.take 1,
      x.2 = .local → (cenvOf scope s₃.heap.objs.size cl env).kindOf x.1 = some .local := fun x hx hl => by
      rcases List.mem_append.mp hx with h1 | h1
      · exact hv x (List.mem_of_mem_drop h1) hl
      · exact hv x (List.mem_of_mem_take h1) hl
    exact wpAny_bind (wpAny_comp_letGo (cenv := cenvOf scope s₃.heap.objs.size cl env) hkind _ s'' m hv' hn' fun h' m' hn'' hs' => wpAny_pure (hr h' (S'.extTail hs'.extBut)))
theorem startL {elt : Expr} {gens : List Comprehension} {scope : Scope} {pos : Pos} {depth : Nat} {target iter : Expr} {ifs : List Expr} {it acc : Value} {R : Result → Shared → Prop} (hg : gens[depth]? = some ⟨target, iter, ifs, 0⟩)
    (h0 : codeAny (model pw w) A (.compLoop (.ListComp elt gens scope pos) depth it acc env) R s)
    (h : wpAny (model pw w) A (pyIter it) (fun it' s' => codeAny (model pw w) A (.compLoop (.ListComp elt gens scope pos) depth it' acc env) R s') (notedBy (model pw w) A env fun x s' => R (.error x) s') s) :
    codeAny (model pw w) A (.compStart (.ListComp elt gens scope pos) depth it acc env) R s := by
  refine codeAny_of_tree ?_
  show wpAny _ _ ((compStart (.ListComp elt gens scope pos) depth it acc env).onRaise (fun x => do noteFrame x env; standAt theWindowsPlace)) _ _ s
  refine wpAny_notedAt ?_
  have hc : (clausesOf (.ListComp elt gens scope pos))[depth]? = some ⟨target, iter, ifs, 0⟩ := hg
  unfold compStart
  rw [hc]
  show wpAny _ _ (ask >>= _) _ _ s
  refine wpAny_bind (wpAny_askSetting (wpAny_ite ?_))
  split
  · first
      | exact wpAny_bind (wpAny_pure (wpAny_pure (And.intro rfl h0)))
      | exact wpAny_pure (And.intro rfl h0)
  · first
      | exact wpAny_bind (wpAny_rule (wpAny_bind (wpAny_standAt (wpAny_bind (wpAny_mono h (fun it' s' h' => wpAny_pure (And.intro rfl h')) fun _ _ x => x)))))
      | (refine wpAny_bind (wpAny_rule ?_); show wpAny _ _ (standAt iter.pos >>= _) _ _ s; exact wpAny_bind (wpAny_standAt (wpAny_bind (wpAny_mono h (fun it' s' h' => wpAny_pure (And.intro rfl h')) fun _ _ x => x))))
theorem startS {elt : Expr} {gens : List Comprehension} {scope : Scope} {pos : Pos} {depth : Nat} {target iter : Expr} {ifs : List Expr} {it acc : Value} {R : Result → Shared → Prop} (hg : gens[depth]? = some ⟨target, iter, ifs, 0⟩)
    (hi : ∀ (Q : Value → Shared → Prop) (E : Value → Shared → Prop), Q it s → wpAny (model pw w) A (pyIter it) Q E s) (h0 : codeAny (model pw w) A (.compLoop (.ListComp elt gens scope pos) depth it acc env) R s) :
    codeAny (model pw w) A (.compStart (.ListComp elt gens scope pos) depth it acc env) R s := startL hg h0 (hi _ _ h0)
noncomputable def tests (ifs : List Expr) (env : Env) : Sem Bool := forIn ifs true fun c r => if r = true then do let ok ← isTrue c env (eval c env); pure (ForInStep.yield ok) else pure (ForInStep.yield r)
theorem tests0 {Q : Bool → Shared → Prop} (k : Q true s) : wpAny (model pw w) A (tests [] env) Q E s := wpAny_tests_nil k
theorem tests1 {c : Expr} {Q : Bool → Shared → Prop} (k : wpAny (model pw w) A (isTrue c env (eval c env)) Q E s) : wpAny (model pw w) A (tests [c] env) Q E s := wpAny_tests_one k
/-- the last clause's loop -/
theorem loopL {elt : Expr} {gens : List Comprehension} {scope : Scope} {pos : Pos} {depth : Nat} {target iter : Expr} {ifs : List Expr} {it acc : Value} {R : Result → Shared → Prop} (hg : gens[depth]? = some ⟨target, iter, ifs, 0⟩) (hg' : gens[depth + 1]? = none) (I : Nat → Shared → Prop)
    (turn : ∀ n s, I n s → ∀ X J : Shared → Prop, (∀ s, R (.ok .next) s → X s) → (∀ s, (∃ m, m < n ∧ I m s) → J s) → wpAny (model pw w) A (pyNext it) (fun r s₁ => match r with
      | none => X s₁
      | some v => wpAny (model pw w) A (letOwnedTupleGo target it v) (fun _ s₁' => wpAny (model pw w) A (assign target env v) (fun _ s₂ =>
          wpAny (model pw w) A (tests ifs env) (fun ok s₃ => if ok = true then wpAny (model pw w) A (eval elt env) (fun x s₄ =>
              wpAny (model pw w) A (call (.builtin "list.append") [acc, x]) (fun _ s₅ => J s₅) NoE s₄) NoE s₃
            else J s₃) NoE s₂) NoE s₁') NoE s₁) NoE s)
    (n : Nat) (h : I n s) : codeAny (model pw w) A (.compLoop (.ListComp elt gens scope pos) depth it acc env) R s := by
  refine codeAny_loop rfl I (fun n s hI => ?_) n h
  show wpAny _ A ((compTurn (.ListComp elt gens scope pos) depth it acc env).onRaise (fun x => do noteFrame x env; theTreesLotGoes x)) _ _ s
  refine wpAny_noted ?_
  unfold compTurn
  simp only [hg, hg']
  refine wpAny_bind (wpAny_standAt (wpAny_bind (noE (wpAny_mono (turn n s hI _ _ (fun _ q => q) fun _ q => q) (fun r s₁ h₁ => ?_) fun _ _ h' => False.elim h'))))
  cases r with
  | none => exact wpAny_pure h₁
  | some v =>
    refine wpAny_bind (wpAny_mono h₁ (fun _ s₁' h₁' => ?_) fun _ _ h' => False.elim h')
    refine wpAny_bind (wpAny_mono h₁' (fun _ s₂ h₂ => wpAny_bind (wpAny_mono h₂ (fun ok s₃ h₃ => ?_) fun _ _ h' => False.elim h')) fun _ _ h' => False.elim h')
    cases ok with
    | false => exact wpAny_pure ⟨rfl, h₃⟩
    | true => exact wpAny_bind (wpAny_bind (wpAny_mono h₃ (fun x s₄ h₄ => wpAny_bind (wpAny_mono h₄ (fun _ s₅ h₅ => wpAny_pure (wpAny_pure ⟨rfl, h₅⟩)) fun _ _ h' => False.elim h')) fun _ _ h' => False.elim h'))
/-- an outer clause's loop -/
theorem loopO {elt : Expr} {gens : List Comprehension} {scope : Scope} {pos : Pos} {depth : Nat} {target iter : Expr} {ifs : List Expr} {t' i' : Expr} {ifs' : List Expr} {it acc : Value} {R : Result → Shared → Prop} (hg : gens[depth]? = some ⟨target, iter, ifs, 0⟩) (hg' : gens[depth + 1]? = some ⟨t', i', ifs', 0⟩) (I : Nat → Shared → Prop)
    (hs : ∀ x, foldedSetIterable i' env x = pure x)
    (turn : ∀ n s, I n s → ∀ X J : Shared → Prop, (∀ s, R (.ok .next) s → X s) → (∀ s, (∃ m, m < n ∧ I m s) → J s) → wpAny (model pw w) A (pyNext it) (fun r s₁ => match r with
      | none => X s₁
      | some v => wpAny (model pw w) A (letOwnedTupleGo target it v) (fun _ s₁' => wpAny (model pw w) A (assign target env v) (fun _ s₂ =>
          wpAny (model pw w) A (tests ifs env) (fun ok s₃ => if ok = true then wpAny (model pw w) A (eval i' env) (fun x s₄ => wpAny (model pw w) A (pyIter x) (fun it' s₅ =>
              codeAny (model pw w) A (.compStart (.ListComp elt gens scope pos) (depth + 1) it' acc env) (fun r s₆ => match r with | .ok _ => J s₆ | .error _ => False) s₅) NoE s₄) NoE s₃
            else J s₃) NoE s₂) NoE s₁') NoE s₁) NoE s)
    (n : Nat) (h : I n s) : codeAny (model pw w) A (.compLoop (.ListComp elt gens scope pos) depth it acc env) R s := by
  refine codeAny_loop rfl I (fun n s hI => ?_) n h
  show wpAny _ A ((compTurn (.ListComp elt gens scope pos) depth it acc env).onRaise (fun x => do noteFrame x env; theTreesLotGoes x)) _ _ s
  refine wpAny_noted ?_
  unfold compTurn
  simp only [hg, hg']
  refine wpAny_bind (wpAny_standAt (wpAny_bind (noE (wpAny_mono (turn n s hI _ _ (fun _ q => q) fun _ q => q) (fun r s₁ h₁ => ?_) fun _ _ h' => False.elim h'))))
  cases r with
  | none => exact wpAny_pure h₁
  | some v =>
    refine wpAny_bind (wpAny_mono h₁ (fun _ s₁' h₁' => ?_) fun _ _ h' => False.elim h')
    refine wpAny_bind (wpAny_mono h₁' (fun _ s₂ h₂ => wpAny_bind (wpAny_mono h₂ (fun ok s₃ h₃ => ?_) fun _ _ h' => False.elim h')) fun _ _ h' => False.elim h')
    cases ok with
    | false => exact wpAny_pure ⟨rfl, h₃⟩
    | true =>
      refine wpAny_bind (wpAny_mono h₃ (fun x s₄ h₄ => wpAny_bind (wpAny_standAt (wpAny_bind (wpAny_of_eq (hs x) (wpAny_bind (wpAny_holding (wpAny_mono h₄ (fun it' s₅ h₅ => ?_) fun _ _ h' => False.elim h'))))))) fun _ _ h' => False.elim h')
      refine wpAny_bind (wpAny_runOwn (codeAny_mono h₅ fun r s₆ h₆ => ?_))
      cases r with
      | ok f => exact wpAny_pure ⟨rfl, h₆⟩
      | error e => exact h₆.elim
/-- an iterator's own `iter` -/
theorem iterSelfL {it : Addr} {i : Nat} {Q : Value → Shared → Prop} (S : Sym H h G) (m : (it, itP "list_iterator" a i) ∈ G) (k : Q (.ref it) ⟨h, g, d, tk, os⟩) : wpAny (model pw w) A (pyIter (.ref it)) Q E ⟨h, g, d, tk, os⟩ := by
  obtain ⟨o, e, p1, p2⟩ := S.get m
  exact wpAny_pyIter_listiter (s := ⟨h, g, d, tk, os⟩) (i := i) ⟨o, e, p1, p2⟩ k
/-- a comprehension's own append -/
theorem appC {vs : List Value} {x : Value} {Q : Value → Shared → Prop} (S : Sym H h ((a, lstP vs) :: G)) (hl : vs.length ≤ 1000) (k : ∀ h', Sym H h' ((a, lstP (vs ++ [x])) :: G) → Q .none ⟨h', g, d, tk, os⟩) :
    wpAny (model pw w) A (call (.builtin "list.append") [.ref a, x]) Q E ⟨h, g, d, tk, os⟩ := by
  obtain ⟨n, e⟩ := S.lst (.head _)
  refine wpAny_call_entry slot_list_append e.isList.typeIs entry_list_append ?_ (args_list_append _ _)
  show wpAny _ _ (updateSeq a (·.push x) >>= fun _ => ret .none) _ _ _
  exact wpAny_bind (wpAny_updateSeq e rfl (wpAny_pure ⟨.none, rfl, k _ (S.updL (by simp))⟩))
end
end Mine

namespace Mine
open PySem PySem.Calls PyProof.Rows PySem.W
/-- with the class of the error -/
structure TopC (K : Frag) (H : Heap) : Prop extends TopM K H where
  err : ∃ (nm q : Str) (N : Addr) (bs : List Value) (hdct : Bool) (sn : List Str) (sub : List Value) (ab : Bool) (col : Option Bool) (dd : Option Addr) (k0 k1 k2 k3 k5 : Option Value) (mN : Str → Option Value),
    H.get? 83 = some (excClassObj nm q 83 N bs [.type "ValueError", .type "Exception", .type "BaseException", .type "object"] hdct sn sub ab col dd k0 k1 k2 k3 k5 "ValueError.__new__") ∧ H.Ns N mN ∧ mN "__init__" = none
noncomputable def valItP (d : Addr) (i n ep : Nat) (o : Obj) : Prop := o.cls = .type "dict_valueiterator" ∧ o.data = .fields #[.ref d, .int i 0, .int n 0, .int ep 0]
noncomputable def readyOf (s : AS) : List Nat := (s.filter fun q => q.2.1 = 0).map (·.1)
section
variable {K : Frag} {w : World} {A : Around} {E : Value → Shared → Prop} {H h h' : Heap} {G : Led} {env : Env} {outer : List Env} {g : Array GenState} {d : Drawn} {tk : Nat} {os : OsState} {a x dx nd ra : Addr} {r : Value} {p f : Int} {t1 t2 : Tok} {fam : List NodeR} {kvs : List (Str × Value)}
/-- `d.values()` -/
theorem valuesD {o : Expr} {apos pos : Pos} {Q : Value → Shared → Prop} (hm : ∃ o, H.get? sysModules = some o)
    (k : wpAny (model pw w) A (eval o env) (fun ov s₁ => ∃ a G kvs ep, ov = .ref a ∧ Sym H s₁.heap G ∧ (a, dctA w kvs ep) ∈ G ∧ ∀ v h', Sym H h' ((v, fun o => o.cls = .type "dict_values" ∧ o.data = .fields #[.ref a]) :: G) → Q (.ref v) { s₁ with heap := h' }) E ⟨h, g, d, tk, os⟩)
    (hbase : attributeBase o "values" env (eval o env) = eval o env := by rfl) (hline : (apos.endLine == pos.line) = true := by rfl) :
    wpAny (model pw w) A (eval (.Call (.Attribute o "values" apos) [] [] pos) env) Q E ⟨h, g, d, tk, os⟩ := by
  refine wpAny_Call_method0_late hbase hline (wpAny_mono k (fun ov s₁ h₁ => ?_) fun _ _ x => x)
  obtain ⟨a, G, kvs, ep, rfl, S, m, q⟩ := h₁
  have hD := (S.dictA m).dictOf
  refine ⟨"dict", "dict.values", F.plainAttrs_dict, F.slot_dict_values, by rfl, hD.typeIs, hD.mapOf.noDict, ?_⟩
  refine callWith_builtin rfl (evalArgs_nil3 ?_)
  exact call_meetsIn PySem.F.slot_dict_values hD.typeIs PySem.F.entry_dict_values (PySem.F.args_dict_values_1 _) (meets_dict_values (strKind pw w) a (S.notMods hm m)) ⟨⟨kvs, hD⟩, q _ _ (S.push rfl ⟨rfl, rfl⟩)⟩
theorem iterV {v : Addr} {ep : Nat} {Q : Value → Shared → Prop} (S : Sym H h G) (mv : (v, fun o => o.cls = .type "dict_values" ∧ o.data = .fields #[.ref a]) ∈ G) (m : (a, dctA w kvs ep) ∈ G) (k : ∀ it h', Sym H h' ((it, valItP a 0 kvs.length ep) :: G) → Q (.ref it) ⟨h', g, d, tk, os⟩) :
    wpAny (model pw w) A (pyIter (.ref v)) Q E ⟨h, g, d, tk, os⟩ := by
  obtain ⟨o, e, q1, q2⟩ := S.get mv
  exact wpAny_pyIter_values (s := ⟨h, g, d, tk, os⟩) ⟨o, e, q1, q2⟩ (S.dictA m) (k _ _ (S.push rfl ⟨rfl, rfl⟩))
theorem iterSelfV {it : Addr} {i n ep : Nat} {Q : Value → Shared → Prop} (S : Sym H h G) (m : (it, valItP a i n ep) ∈ G) (k : Q (.ref it) ⟨h, g, d, tk, os⟩) : wpAny (model pw w) A (pyIter (.ref it)) Q E ⟨h, g, d, tk, os⟩ := by
  obtain ⟨o, e, p1, p2⟩ := S.get m
  exact wpAny_pyIter_valiter (s := ⟨h, g, d, tk, os⟩) (i := i) ⟨o, e, p1, p2⟩ k
theorem nextV {it : Addr} {i ep : Nat} {key : Str} {v : Value} {Q : Option Value → Shared → Prop} (S : Sym H h ((it, valItP a i kvs.length ep) :: G)) (m : (a, dctA w kvs ep) ∈ G) (hv : kvs[i]? = some (key, v))
    (k : ∀ h', Sym H h' ((it, valItP a (i + 1) kvs.length ep) :: G) → Q (some v) ⟨h', g, d, tk, os⟩) : wpAny (model pw w) A (pyNext (.ref it)) Q E ⟨h, g, d, tk, os⟩ := by
  obtain ⟨o, e, p1, p2⟩ := S.head
  refine wpAny_pyNext_values_item (s := ⟨h, g, d, tk, os⟩) (i := i) ⟨o, e, p1, p2⟩ (S.dictA (.tail _ m)) hv fun h' hi hs => ?_
  obtain ⟨o', e', p1', p2'⟩ := hi
  exact k h' (S.upd hs e' ⟨p1', p2'⟩)
theorem endV {it : Addr} {i ep : Nat} {Q : Option Value → Shared → Prop} (hh : A.handled = none) (S : Sym H h ((it, valItP a i kvs.length ep) :: G)) (m : (a, dctA w kvs ep) ∈ G) (hv : kvs[i]? = none)
    (k : ∀ h', Sym H h' G → Q none ⟨h', g, d, tk, os⟩) : wpAny (model pw w) A (pyNext (.ref it)) Q E ⟨h, g, d, tk, os⟩ := by
  obtain ⟨o, e, p1, p2⟩ := S.head
  exact wpAny_pyNext_values_end (s := ⟨h, g, d, tk, os⟩) (i := i) hh ⟨o, e, p1, p2⟩ (S.dictA (.tail _ m)) hv fun h' hi => k h' (S.extTail hi)
theorem prep_spec {Q : Value → Shared → Prop} (T : TopC K H) (hd : A.depth + 8 < recursionLimit) (hh : A.handled = none) (hfr : A.frames = some outer) (S : Sym H h (sortL w x dx nd .none p t1 f t2 fam ++ G)) (hfi : FrIn G outer) (nc : (fam.map (·.c)).Nodup)
    (hsu : ∀ r ∈ fam, ∀ q ∈ r.su, q ∈ fam.map (·.c)) (hl : fam.length ≤ 80) (hl2 : ∀ r ∈ fam, r.su.length ≤ 900)
    (kN : ∀ h' tk' ra dn, Topo (suOf (fam.map (·.abs))) dn → (∀ c ∈ fam.map (·.c), c ∈ dn) → Sym H h' (sortL w x dx nd (.ref ra) p t1 f t2 fam ++ ((ra, lnP (readyOf (fam.map (·.abs)))) :: G)) → Q .none ⟨h', g, d, tk', os⟩)
    (kC : ∀ h' tk' ra ex Tb Rg, Ring (suOf (fam.map (·.abs))) Rg → Sym H h' ((ex, excT (.ref 83) Tb) :: (Tb, tbP) :: (sortL w x dx nd (.ref ra) p t1 f t2 fam ++ ((ra, lnP (readyOf (fam.map (·.abs)))) :: G))) → E (.ref ex) ⟨h', g, d, tk', os⟩) :
    wpAny (model pw w) A (call (.ref 120) [.ref x]) Q E ⟨h, g, d, tk, os⟩ := by
  refine callFE T.fprep T.lim (lt_z hd) S (BindsTo.of_eq rfl) fun h1 L tk1 S1 => ?_
  have S1 := S1.renm (l' := [("self", .ref x)]) ⟨rfl, trivial⟩
  refine wpAny_execs_cons (wpAny_If (wpAny_isTrue_Compare1 (Attribute_any_ (ldL S1 rfl (getD T.toTopS S1 (.tail _ (.head _)) (.tail _ (.tail _ (.head _))) rfl fun tk2 => Constant_none (wpAny_isNot_self rfl (wpAny_truthy_bool (itF rfl (wpAny_execs_nil ?_)))))))))
  obtain ⟨ep, S2⟩ := (S1.front 3 rfl).openD
  have S2 := S2.front 1 rfl
  refine wpAny_execs_cons (plainObj_wpAny_Assign_Attribute (comp0 (cl := []) rfl (fun _ => rfl) rfl rfl (by decide) rfl ?_))
  refine valuesD T.mods (Attribute_any_ (ldL S2 rfl (getD T.toTopS S2 (.tail _ (.tail _ (.head _))) (.tail _ (.tail _ (.tail _ (.head _)))) rfl fun tk3 => ⟨nd, _, _, ep, rfl, S2, .tail _ (.head _), fun vw h4 S4 => ?_⟩)))
  refine iterV S4 (.head _) (.tail _ (.tail _ (.head _))) fun it h5 S5 => ?_
  refine wpAny_newList ?_
  have S6 : Sym H (h5.push { cls := .type "list", data := .seq ([] : List Value).toArray }) ((h5.objs.size, lstP []) :: (it, valItP nd 0 (kvsOf fam).length ep) :: (vw, fun o => o.cls = .type "dict_values" ∧ o.data = .fields #[.ref nd]) :: (L, nsP [("self", .ref x)]) :: (nd, dctA w (kvsOf fam) ep) :: (x, instP 165 dx []) :: (dx, nsE (sd (.ref nd) .none (.int p t1) (.int f t2))) :: (famL fam ++ G)) := S5.push rfl ⟨0, rfl⟩
  revert S6
  generalize h5.objs.size = ra
  intro S6
  refine ⟨H, _, S6, fun h7 Lc S7 => ?_⟩
  refine startS rfl (fun Q E q => iterSelfV S7 (.tail _ (.tail _ (.head _))) q) ?_
  -- the loop of the list's making
  refine loopL rfl rfl (fun n s'  => ∃ h' tk' i l, s' = ⟨h', g, d, tk', os⟩ ∧ n = fam.length - i ∧ i ≤ fam.length ∧ Sym H h' ((Lc, nsP l) :: (ra, lnP (readyOf ((fam.take i).map (·.abs)))) :: (it, valItP nd i (kvsOf fam).length ep) :: (vw, fun o => o.cls = .type "dict_values" ∧ o.data = .fields #[.ref nd]) :: (L, nsP [("self", .ref x)]) :: (nd, dctA w (kvsOf fam) ep) :: (x, instP 165 dx []) :: (dx, nsE (sd (.ref nd) .none (.int p t1) (.int f t2))) :: (famL fam ++ G))) ?_ fam.length
    ⟨h7, tk3, 0, [], rfl, rfl, Nat.zero_le _, (S7.swap.lnClose .nil).swap⟩
  rintro n s' ⟨h', tk', i, l, rfl, rfl, hi, S'⟩ X J hX hJ
  have S' := S'.front 2 rfl
  cases hfj : fam[i]? with
  | none =>
    refine endV (A := A.deeper (callEnv fdPrep L 120)) hh S' (.tail _ (.tail _ (.tail _ (.tail _ (.head _))))) ?_ fun h8 S8 => ?_
    · rw [List.getElem?_eq_none_iff] at hfj ⊢
      simpa [kvsOf] using hfj
    · have : fam.take i = fam := List.take_of_length_le (List.getElem?_eq_none_iff.mp hfj)
      rw [this] at S8
      refine hX _ ⟨H, _, l, S8, fun h9 S9 => ?_⟩
      clear S8 S' S7 S6 S5 S4
      have S9 : Sym H h9 ((ra, lnP (readyOf (fam.map (·.abs)))) :: (vw, fun o => o.cls = .type "dict_values" ∧ o.data = .fields #[.ref nd]) :: (L, nsP [("self", .ref x)]) :: (nd, dctA w (kvsOf fam) ep) :: (x, instP 165 dx []) :: (dx, nsE (sd (.ref nd) .none (.int p t1) (.int f t2))) :: (famL fam ++ G)) := S9
      have S9 := (S9.front 1 rfl).tail
      have S9 := (S9.front 2 rfl).closeD
      have S9 := S9.front 2 rfl
      refine ldL S9 rfl (setD T.toTopS (S9.front 4 rfl) (.tail _ (.tail _ (.tail _ (.head _)))) (fun h10 tk10 S10 => ?_) (by simp [sd]))
      have S10 := (S10.weak (P' := nsE _) fun o q => q.eqv (sd_r _ _ _ _ _)).front 1 rfl
      refine wpAny_execs_cons (wpAny_Assign_Name (eMeth (dx := dx) T.toTopS S10 rfl (.tail _ (.tail _ (.tail _ (.head _)))) (.head _) rfl (by decide) T.fcyc (spliced_nil ⟨S10.keep, ?_⟩)))
      have S11 : Sym H h10 (sortL w x dx nd (.ref ra) p t1 f t2 fam ++ ((L, nsP [("self", .ref x)]) :: (ra, lnP (readyOf (fam.map (·.abs)))) :: G)) := S10.perm (by (refine perm_sum fun _ => ?_; (try simp only [locals_eq, List.append_eq, sortL, famL_app, famL_cons, famL_nil, NodeR.ent, List.cons_append, List.nil_append, List.append_assoc, List.eraseIdx_cons_succ, List.eraseIdx_cons_zero]); (try simp only [List.map_append, List.map_cons, List.map_nil, List.sum_append, List.sum_cons, List.sum_nil, Nat.add_zero, Nat.zero_add, Nat.add_assoc]); (try ac_rfl)))
      have hfX : FrIn ((L, nsP [("self", .ref x)]) :: (ra, lnP (readyOf (fam.map (·.abs)))) :: G) (callEnv fdPrep L 120 :: outer) := by
        intro env he
        cases he with
        | head =>
          have e : (callEnv fdPrep L 120).scope.kind = .function := rfl
          exact ⟨by rw [e]; decide, L, _, rfl, .head _⟩
        | tail _ he =>
          obtain ⟨h1, L', l', h2, h3⟩ := hfi env he
          exact ⟨h1, L', l', h2, .tail _ (.tail _ h3)⟩
      refine cyc_spec T.toTopM (by exact (show A.depth + 6 < _ from lt_w hd)) hh (Around.frames_deeper hfr) S11 hfX nc hsu hl hl2 ?_ ?_
      · intro h12 tk12 dn htopo hall S12
        have S12 := S12.slip (X := sortL w x dx nd (.ref ra) p t1 f t2 fam) (Y := [_])
        refine stL S12 fun h13 tk13 S13 => ?_
        refine wpAny_execs_cons (wpAny_If (isEx (ldL S13 rfl (wpAny_pure (itF rfl (wpAny_execs_nil (wpAny_execs_nil (kN h13 _ ra dn htopo hall S13.tail))))))))
      · intro h12 tk12 b vs Rg hR hne hvl S12
        have S12 : Sym H h12 ((L, nsP [("self", .ref x)]) :: (b, lstP vs) :: (sortL w x dx nd (.ref ra) p t1 f t2 fam ++ ((ra, lnP (readyOf (fam.map (·.abs)))) :: G))) := S12.slip (X := (b, lstP vs) :: sortL w x dx nd (.ref ra) p t1 f t2 fam) (Y := [_])
        refine stL S12 fun h13 tk13 S13 => ?_
        have hemp : (!vs.isEmpty) = true := by cases vs with | nil => exact absurd rfl hne | cons _ _ => rfl
        refine wpAny_execs_cons (wpAny_If (isEx (ldL S13 rfl (truthyL S13 (.tail _ (.head _)) hvl fun tk14 => itT hemp ?_))))
        obtain ⟨nm1, q1, N, bs, hdct, sn, sub, ab, col, dd, k0, k1, k2, k3, k5, mN, hC, hN, hni⟩ := T.err
        refine wpAny_execs_cons (wpAny_Raise_call_sub PySem.F.excBase_ValueError (nm := nm1) (q := q1) (C := 83) (N := N) (bs := bs) (hdct := hdct) (sn := sn) (sub := sub) (ab := ab) (col := col) (dd := dd) (k0 := k0) (k1 := k1) (k2 := k2) (k3 := k3) (k5 := k5) (A := A.deeper (callEnv fdPrep L 120)) hh rfl hni (ldG T.toGlobs S13.keep rfl ⟨rfl, ?_⟩))
        show wpAny _ _ (evalArgs _ true (plainArgs (callEnv fdPrep L 120) [.JoinedStr [.Constant (.str _) 0 ⟨0, 0, 0, 0⟩] ⟨0, 0, 0, 0⟩, .Name _ _]) []) _ _ _
        refine evalArgsP (spliced_cons (cStr (env := callEnv fdPrep L 120) (k := 0) (pos := ⟨0, 0, 0, 0⟩) fun t15 tk15 => spliced_cons (ldL S13 rfl (spliced_nil ⟨rfl, by simp; rw [sizeLine_eq]; omega, S13.keep _ _ hC, hN.keeps S13.keep, fun h16 ex hm => ?_⟩))))
        obtain ⟨tt, he, _, _⟩ := hm.there
        have S16 : Sym H h16 ((ex, excN (.ref 83)) :: (L, nsP [("cycle", .ref b), ("self", .ref x)]) :: (b, lstP vs) :: (sortL w x dx nd (.ref ra) p t1 f t2 fam ++ ((ra, lnP (readyOf (fam.map (·.abs)))) :: G))) := S13.alloc hm.keeps hm.new he ⟨rfl, _, rfl, rfl⟩
        unfold leaving
        refine wpAny_bind (noteNew (Around.frames_deeper hfr) ?_ S16 fun h17 Tb S17 => kC h17 _ ra ex Tb Rg hR ?_)
        · intro env he
          cases he with
          | head =>
            have e : (callEnv fdPrep L 120).scope.kind = .function := rfl
            exact ⟨by rw [e]; decide, L, _, rfl, .head _⟩
          | tail _ he =>
            obtain ⟨h1, L', l', h2, h3⟩ := hfi env he
            refine ⟨h1, L', l', h2, ?_⟩
            simp only [List.mem_cons, List.mem_append]
            exact .inr (.inr (.inr (.inr h3)))
        · have S18 := ((S17.front 2 rfl).tail.front 2 rfl).tail
          exact S18
  | some ri =>
    have hlt := (List.getElem?_eq_some_iff.mp hfj).1
    have hri : ri ∈ fam := List.mem_of_getElem? hfj
    refine nextV (key := nm ri.c) (v := .ref ri.ia) S' (.tail _ (.tail _ (.tail _ (.tail _ (.head _))))) (by simp [kvsOf, List.getElem?_map, hfj]) fun h8 S8 => ?_
    have S8 := S8.swap
    refine wpAny_pure (wpAny_assign_Name (stL S8 fun h9 tk9 S9 => ?_))
    have etake : readyOf ((fam.take (i + 1)).map (·.abs)) = readyOf ((fam.take i).map (·.abs)) ++ (if ri.np = 0 then [ri.c] else []) := by
      unfold readyOf
      rw [List.take_add_one, hfj]
      simp only [List.map_append, Option.toList, List.map_cons, List.map_nil, List.filter_append]
      by_cases hz : ri.np = 0
      · rw [if_pos hz]; simp [NodeR.abs, hz]
      · rw [if_neg hz]; simp [NodeR.abs, hz]
    have hlen : (readyOf ((fam.take i).map (·.abs))).length ≤ 80 := by
      unfold readyOf
      rw [List.length_map]
      refine Nat.le_trans (List.length_filter_le _ _) ?_
      simp; omega
    refine tests1 (wpAny_isTrue_Compare1 (Attribute_any_ (ldL S9 rfl (fNp (pre := [_, _, _, _, _, _, _, _]) T.toTopS S9 hri fun t10 tk10 => cInt fun t11 tk11 => PyProof.Rows.eq_int (wpAny_truthy_bool ?_)))))
    by_cases hz : ri.np = 0
    · refine itT (by rw [hz]; rfl) ?_
      refine Attribute_any_ (ldL S9 rfl (fNode (pre := [_, _, _, _, _, _, _, _]) T.toTopS S9 hri fun t12 tk12 => ?_))
      obtain ⟨vs, hn, S13⟩ := (S9.front 2 rfl).lnOpen
      refine appC S13 (by rw [hn.length]; omega) fun h14 S14 => hJ _ ⟨fam.length - (i + 1), Nat.sub_succ_lt_self _ _ hlt, h14, _, i + 1, [("i", .ref ri.ia)], rfl, rfl, hlt, ?_⟩
      have S15 := S14.lnClose (hn.snoc ri.c t12)
      rw [etake, if_pos hz]
      exact ((S15.front 1 rfl).renm (l' := [("i", .ref ri.ia)]) ⟨rfl, trivial⟩).perm (by (refine perm_sum fun _ => ?_; (try simp only [locals_eq, List.append_eq, sortL, famL_app, famL_cons, famL_nil, NodeR.ent, List.cons_append, List.nil_append, List.append_assoc, List.eraseIdx_cons_succ, List.eraseIdx_cons_zero]); (try simp only [List.map_append, List.map_cons, List.map_nil, List.sum_append, List.sum_cons, List.sum_nil, Nat.add_zero, Nat.zero_add, Nat.add_assoc]); (try ac_rfl)))
    · refine itF (by simpa using hz) (hJ _ ⟨fam.length - (i + 1), Nat.sub_succ_lt_self _ _ hlt, h9, _, i + 1, [("i", .ref ri.ia)], rfl, rfl, hlt, ?_⟩)
      rw [etake, if_neg hz, List.append_nil]
      exact (S9.renm (l' := [("i", .ref ri.ia)]) ⟨rfl, trivial⟩).perm (by (refine perm_sum fun _ => ?_; (try simp only [locals_eq, List.append_eq, sortL, famL_app, famL_cons, famL_nil, NodeR.ent, List.cons_append, List.nil_append, List.append_assoc, List.eraseIdx_cons_succ, List.eraseIdx_cons_zero]); (try simp only [List.map_append, List.map_cons, List.map_nil, List.sum_append, List.sum_cons, List.sum_nil, Nat.add_zero, Nat.zero_add, Nat.add_assoc]); (try ac_rfl)))
end
end Mine

namespace Mine
open PySem
/-! the heap, plain -/
section
variable {key : Value → Int × Nat}
abbrev gt (vs : List Value) (i : Nat) : Value := vs.getD i .none
theorem lt_asym {a b : Value} (h : keyLt key a b = true) : keyLt key b a = false := by
  simp only [keyLt, itemLt, decide_eq_true_eq, decide_eq_false_iff_not] at h ⊢; omega
theorem nlt_trans {a b c : Value} (h : keyLt key b a = false) (h' : keyLt key c b = false) : keyLt key c a = false := by
  simp only [keyLt, itemLt, decide_eq_false_iff_not] at h h' ⊢; omega
theorem lt_nlt {a b c : Value} (h : keyLt key a b = true) (h' : keyLt key c b = false) : keyLt key c a = false := by
  simp only [keyLt, itemLt, decide_eq_true_eq, decide_eq_false_iff_not] at h h' ⊢; omega
noncomputable def IsHeap (key : Value → Int × Nat) (vs : List Value) : Prop := ∀ i, 0 < i → i < vs.length → keyLt key (gt vs i) (gt vs ((i - 1) / 2)) = false
theorem gt_set {vs : List Value} {i j : Nat} {x : Value} (hi : i < vs.length) : gt (vs.set i x) j = if j = i then x else gt vs j := by
  unfold gt
  simp only [List.getD_eq_getElem?_getD, List.getElem?_set]
  by_cases h : i = j
  · subst h; simp [hi]
  · simp [h, Ne.symm h]
theorem getD_any {vs : List Value} {i : Nat} {x : Value} (hi : i < vs.length) : vs.getD i x = gt vs i := by
  unfold gt; simp [List.getD_eq_getElem?_getD, hi]
theorem set_set_perm {vs : List Value} {i j : Nat} {x : Value} (hi : i < vs.length) (hj : j < vs.length) (hne : i ≠ j) : ((vs.set i (gt vs j)).set j x).Perm (vs.set i x) := by
  refine perm_sum fun f => ?_
  have key : ∀ (l : List Value) (k : Nat) (y : Value), k < l.length → ((l.set k y).map f).sum + f (gt l k) = (l.map f).sum + f y := by
    intro l
    induction l with
    | nil => intro k y h; simp at h
    | cons a l ih =>
      intro k y h
      cases k with
      | zero => simp [gt]; omega
      | succ k =>
        have := ih k y (by simpa using h)
        simp only [List.set_cons_succ, List.map_cons, List.sum_cons]
        have e : gt (a :: l) (k + 1) = gt l k := by simp [gt, List.getD_eq_getElem?_getD]
        rw [e]; omega
  have h1 := key (vs.set i (gt vs j)) j x (by simpa using hj)
  have h2 := key vs i (gt vs j) hi
  have h3 := key vs i x hi
  rw [gt_set hi, if_neg (Ne.symm hne)] at h1
  omega
/-- a thing is put at its place, from a leaf up -/
theorem par_of {c p : Nat} (h : c = 2 * p + 1 ∨ c = 2 * p + 2) : (c - 1) / 2 = p := by omega
theorem of_par {i p : Nat} (h0 : 0 < i) (h : (i - 1) / 2 = p) : i = 2 * p + 1 ∨ i = 2 * p + 2 := by omega
theorem par_no {i n u : Nat} (h0 : 0 < i) (h : i < n) (hu : n ≤ 2 * u + 1) : ¬ (i - 1) / 2 = u := by omega
theorem down_ok (x : Value) (pos : Nat) : ∀ vs, pos < vs.length →
    (∀ i, 0 < i → i < vs.length → i ≠ pos → keyLt key (gt (vs.set pos x) i) (gt (vs.set pos x) ((i - 1) / 2)) = false) →
    (∀ i, 0 < i → i < vs.length → (i - 1) / 2 = pos → 0 < pos → keyLt key (gt (vs.set pos x) i) (gt (vs.set pos x) ((pos - 1) / 2)) = false) →
    (downL key x vs pos).Perm (vs.set pos x) ∧ IsHeap key (downL key x vs pos) := by
  induction pos using Nat.strongRecOn with
  | ind pos ih =>
    intro vs hp ha hb
    unfold downL
    split
    · rename_i h0
      have hpar : (pos - 1) / 2 < vs.length := Nat.lt_trans (par_lt h0) hp
      have hne : pos ≠ (pos - 1) / 2 := Nat.ne_of_gt (par_lt h0)
      rw [getD_any hpar]
      split
      · rename_i hlt
        have hsz : (vs.set pos (gt vs ((pos - 1) / 2))).length = vs.length := by simp
        have hg : ∀ j, gt ((vs.set pos (gt vs ((pos - 1) / 2))).set ((pos - 1) / 2) x) j = if j = (pos - 1) / 2 then x else if j = pos then gt vs ((pos - 1) / 2) else gt vs j := by
          intro j
          rw [gt_set (by rw [hsz]; exact hpar), gt_set hp]
        have hw : ∀ j, gt (vs.set pos x) j = if j = pos then x else gt vs j := fun j => gt_set hp
        have Z := ih ((pos - 1) / 2) (par_lt h0) (vs.set pos (gt vs ((pos - 1) / 2))) (by rw [hsz]; exact hpar) ?_ ?_
        · obtain ⟨q1, q2⟩ := Z
          exact ⟨q1.trans (set_set_perm hp hpar hne), q2⟩
        · intro i hi0 hil hin
          rw [hsz] at hil
          rw [hg, hg, if_neg hin]
          by_cases e1 : i = pos
          · subst e1
            rw [if_pos rfl, if_pos rfl]
            exact lt_asym hlt
          · rw [if_neg e1]
            by_cases e2 : (i - 1) / 2 = (pos - 1) / 2
            · rw [if_pos e2]
              have := ha i hi0 hil e1
              rw [hw, hw, if_neg e1, if_neg (fun q => hne (q.symm.trans e2)), e2] at this
              exact lt_nlt hlt this
            · rw [if_neg e2]
              by_cases e3 : (i - 1) / 2 = pos
              · rw [if_pos e3]
                have := hb i hi0 hil e3 h0
                rw [hw, hw, if_neg e1, if_neg (Ne.symm hne)] at this
                exact this
              · rw [if_neg e3]
                have := ha i hi0 hil e1
                rw [hw, hw, if_neg e1, if_neg e3] at this
                exact this
        · intro i hi0 hil hpi hpp
          rw [hsz] at hil
          have hgp : ¬ ((pos - 1) / 2 - 1) / 2 = (pos - 1) / 2 := Nat.ne_of_lt (par_lt hpp)
          have hgp2 : ¬ ((pos - 1) / 2 - 1) / 2 = pos := Nat.ne_of_lt (Nat.lt_trans (par_lt hpp) (par_lt h0))
          have hin : ¬ i = (pos - 1) / 2 := fun q => Nat.ne_of_lt (par_lt hi0) (hpi.trans q.symm)
          rw [hg, hg, if_neg hin, if_neg hgp, if_neg hgp2]
          have hpg := ha ((pos - 1) / 2) hpp hpar (Ne.symm hne)
          rw [hw, hw, if_neg (Ne.symm hne), if_neg hgp2] at hpg
          by_cases e1 : i = pos
          · rw [if_pos e1]; exact hpg
          · rw [if_neg e1]
            have := ha i hi0 hil e1
            rw [hw, hw, if_neg e1, if_neg (fun q => hne (q.symm.trans hpi)), hpi] at this
            exact nlt_trans hpg this
      · rename_i hlt
        refine ⟨List.Perm.refl _, fun i hi0 hil => ?_⟩
        rw [List.length_set] at hil
        by_cases e1 : i = pos
        · subst e1
          rw [gt_set hp, gt_set hp, if_pos rfl, if_neg (Nat.ne_of_lt (par_lt hi0))]
          simpa using hlt
        · exact ha i hi0 hil e1
    · rename_i h0
      refine ⟨List.Perm.refl _, fun i hi0 hil => ?_⟩
      rw [List.length_set] at hil
      exact ha i hi0 hil (fun q => h0 (q ▸ hi0))
theorem push_ok {x : Value} {vs : List Value} (h : IsHeap key vs) : (pushL key x vs).Perm (vs ++ [x]) ∧ IsHeap key (pushL key x vs) := by
  have e : (vs ++ [x]).set vs.length x = vs ++ [x] := by simp
  have hg : ∀ j, j < vs.length → gt (vs ++ [x]) j = gt vs j := fun j hj => by simp [gt, List.getD_eq_getElem?_getD, List.getElem?_append_left hj]
  have := down_ok (key := key) x vs.length (vs ++ [x]) (by simp) ?_ ?_
  · rw [e] at this; exact this
  · intro i hi0 hil hin
    rw [e]
    simp only [List.length_append, List.length_cons, List.length_nil] at hil
    have hlt : i < vs.length := Nat.lt_of_le_of_ne (Nat.le_of_lt_succ hil) hin
    rw [hg i hlt, hg _ (Nat.lt_trans (par_lt hi0) hlt)]
    exact h i hi0 hlt
  · intro i hi0 hil hpi
    simp only [List.length_append, List.length_cons, List.length_nil] at hil
    exact absurd (hpi ▸ par_lt hi0) (Nat.not_lt_of_le (Nat.le_of_lt_succ hil))
theorem up_ok (vs : List Value) (pos : Nat) (x : Value) : pos < vs.length →
    (∀ i, 0 < i → i < vs.length → i ≠ pos → (i - 1) / 2 ≠ pos → keyLt key (gt vs i) (gt vs ((i - 1) / 2)) = false) →
    (∀ i, 0 < i → i < vs.length → (i - 1) / 2 = pos → 0 < pos → keyLt key (gt vs i) (gt vs ((pos - 1) / 2)) = false) →
    (upL key vs pos).2 < (upL key vs pos).1.length ∧ (upL key vs pos).1.length = vs.length ∧ vs.length ≤ 2 * (upL key vs pos).2 + 1 ∧ ((upL key vs pos).1.set (upL key vs pos).2 x).Perm (vs.set pos x) ∧
    ∀ i, 0 < i → i < vs.length → i ≠ (upL key vs pos).2 → keyLt key (gt (upL key vs pos).1 i) (gt (upL key vs pos).1 ((i - 1) / 2)) = false := by
  fun_induction upL key vs pos with
  | case1 vs pos h ih =>
    intro hp ha hb
    have hcl := childOf_lt (key := key) h
    have hcg := childOf_gt key vs pos
    have hcc : childOf key vs pos = 2 * pos + 1 ∨ childOf key vs pos = 2 * pos + 2 := by unfold childOf; split <;> omega
    have hpar : (childOf key vs pos - 1) / 2 = pos := par_of hcc
    have hg : ∀ j, gt (vs.set pos (vs.getD (childOf key vs pos) .none)) j = if j = pos then gt vs (childOf key vs pos) else gt vs j := fun j => gt_set hp
    have hsz : (vs.set pos (vs.getD (childOf key vs pos) .none)).length = vs.length := by simp
    have Z := ih (by rw [hsz]; exact hcl) ?_ ?_
    · obtain ⟨q1, q2, q3, q4, q5⟩ := Z
      rw [hsz] at q2 q3 q5
      exact ⟨q1, q2, q3, q4.trans (set_set_perm hp hcl (Nat.ne_of_lt hcg)), q5⟩
    · intro i hi0 hil hin hpi
      rw [hsz] at hil
      rw [hg, hg]
      by_cases e1 : i = pos
      · subst e1
        rw [if_pos rfl, if_neg (Nat.ne_of_lt (par_lt hi0))]
        exact hb _ (Nat.zero_lt_of_lt hcg) hcl hpar hi0
      · rw [if_neg e1]
        by_cases e2 : (i - 1) / 2 = pos
        · rw [if_pos e2]
          -- the other child
          unfold childOf at hin ⊢
          split at hin
          · rename_i hc
            rw [if_pos hc]
            have : i = 2 * pos + 1 := (of_par hi0 e2).resolve_right hin
            rw [this]
            have hc2 := hc.2
            simp only [keyLt, itemLt, decide_eq_false_iff_not] at hc2 ⊢
            by_cases z : keyLt key (gt vs (2 * pos + 1)) (gt vs (2 * pos + 2)) = true
            · rw [show keyLt key (gt vs (2 * pos + 1)) (gt vs (2 * pos + 2)) = false from hc.2] at z; cases z
            · simpa [keyLt, itemLt] using z
          · rename_i hc
            rw [if_neg hc]
            have e : i = 2 * pos + 2 := (of_par hi0 e2).resolve_left hin
            subst e
            have : keyLt key (vs.getD (2 * pos + 1) .none) (vs.getD (2 * pos + 2) .none) = true := by
              cases z : keyLt key (vs.getD (2 * pos + 1) .none) (vs.getD (2 * pos + 2) .none) with
              | true => rfl
              | false => exact absurd ⟨hil, z⟩ hc
            exact lt_asym this
        · rw [if_neg e2]
          exact ha i hi0 hil e1 e2
    · intro i hi0 hil hpi hpp
      rw [hsz] at hil
      have hip : i ≠ pos := fun q => Nat.lt_asymm hcg (hpi ▸ q ▸ par_lt hi0)
      rw [hg, hg, hpar, if_pos rfl, if_neg hip]
      have := ha i hi0 hil hip (fun q => Nat.ne_of_gt hcg (hpi.symm.trans q))
      rw [hpi] at this
      exact this
  | case2 vs pos h =>
    intro hp ha hb
    refine ⟨hp, rfl, by omega, List.Perm.refl _, fun i hi0 hil hin => ha i hi0 hil hin (by omega)⟩
theorem heap_min {vs : List Value} (h : IsHeap key vs) : ∀ i, i < vs.length → keyLt key (gt vs i) (gt vs 0) = false := by
  intro i
  induction i using Nat.strongRecOn with
  | ind i ih =>
    intro hi
    by_cases h0 : i = 0
    · subst h0
      simp only [keyLt, itemLt, decide_eq_false_iff_not]; omega
    · have h0 := Nat.pos_of_ne_zero h0
      exact nlt_trans (ih ((i - 1) / 2) (par_lt h0) (Nat.lt_trans (par_lt h0) hi)) (h i h0 hi)
theorem pop_ok {init : List Value} {last : Value} (h : IsHeap key (init ++ [last])) : ((popR key init last).1 :: (popR key init last).2).Perm (init ++ [last]) ∧ IsHeap key (popR key init last).2 ∧ ∀ v ∈ init ++ [last], keyLt key v (popR key init last).1 = false := by
  have hmin : ∀ v ∈ init ++ [last], keyLt key v (gt (init ++ [last]) 0) = false := by
    intro v hv
    obtain ⟨i, hi⟩ := List.getElem?_of_mem hv
    have := heap_min h i (List.getElem?_eq_some_iff.mp hi).1
    have e : gt (init ++ [last]) i = v := by simp [gt, List.getD_eq_getElem?_getD, hi]
    rwa [e] at this
  cases init with
  | nil =>
    refine ⟨List.Perm.refl _, fun i _ hi => by simp [popR] at hi, ?_⟩
    simpa [gt, popR] using hmin
  | cons a r =>
    have hg : ∀ j, 0 < j → j < (last :: r).length → gt (last :: r) j = gt (a :: r ++ [last]) j := by
      intro j h0 hj
      cases j with
      | zero => exact absurd h0 (Nat.lt_irrefl 0)
      | succ j =>
        have : j < r.length := by simpa using hj
        simp [gt, List.getD_eq_getElem?_getD, this, List.getElem?_append_left this]
    have Z := up_ok (key := key) (last :: r) 0 last (by simp) ?_ (fun i _ _ _ h0 => absurd h0 (Nat.lt_irrefl 0))
    · obtain ⟨q1, q2, q3, q4, q5⟩ := Z
      have hd := down_ok (key := key) last (upL key (last :: r) 0).2 ((upL key (last :: r) 0).1.set (upL key (last :: r) 0).2 last) (by simpa using q1) ?_ ?_
      · simp only [List.set_set] at hd
        refine ⟨?_, hd.2, ?_⟩
        · have : (siftupL key last (last :: r)).Perm (last :: r) := by
            unfold siftupL
            exact hd.1.trans (by simpa using q4)
          refine (this.cons a).trans ?_
          show (a :: last :: r).Perm (a :: (r ++ [last]))
          exact (List.perm_append_comm (l₁ := [last]) (l₂ := r)).cons a
        · have e : gt (a :: r ++ [last]) 0 = a := rfl
          rw [e] at hmin
          exact hmin
      · intro i hi0 hil hin
        simp only [List.set_set, List.length_set] at hil ⊢
        rw [gt_set q1, gt_set q1, if_neg hin]
        rw [q2] at hil
        have : ¬ (i - 1) / 2 = (upL key (last :: r) 0).2 := par_no hi0 hil q3
        rw [if_neg this]
        exact q5 i hi0 hil hin
      · intro i hi0 hil hpi
        simp only [List.length_set] at hil
        exact absurd hpi (par_no hi0 (q2 ▸ hil) q3)
    · intro i hi0 hil hin hpi
      rw [hg i hi0 hil, hg _ (Nat.pos_of_ne_zero hpi) (Nat.lt_trans (par_lt hi0) hil)]
      exact h i hi0 (by simp at hil ⊢; exact Nat.lt_succ_of_lt hil)
end
end Mine

namespace Mine
open PySem
/-! the sorter's counts, plain -/
noncomputable def names (s : AS) : List Nat := s.map (·.1)
theorem names_updA (c f) (s : AS) : names (updA c f s) = names s := by
  unfold names updA
  rw [List.map_map]
  refine List.map_congr_left fun q _ => ?_
  show Prod.fst (if q.1 = c then _ else _) = _
  split <;> rfl
theorem find_updA (c f) (s : AS) (z : Nat) : (updA c f s).find? (fun q => q.1 = z) = (s.find? fun q => q.1 = z).map fun q => if q.1 = c then (q.1, f q.2) else q := by
  induction s with
  | nil => rfl
  | cons q s ih =>
    show List.find? _ ((if q.1 = c then (q.1, f q.2) else q) :: updA c f s) = _
    have e : (if q.1 = c then (q.1, f q.2) else q).1 = q.1 := by split <;> rfl
    rw [List.find?_cons, List.find?_cons]
    by_cases h : q.1 = z
    · have : decide ((if q.1 = c then (q.1, f q.2) else q).1 = z) = true := by rw [e]; simpa using h
      rw [this]; simp [h]
    · have : decide ((if q.1 = c then (q.1, f q.2) else q).1 = z) = false := by rw [e]; simpa using h
      rw [this]; simp only [h, decide_false]; exact ih
theorem find_names {s : AS} {z : Nat} (h : z ∈ names s) : ∃ q, s.find? (fun q => q.1 = z) = some q ∧ q.1 = z := by
  obtain ⟨q, hq, e⟩ := List.mem_map.mp h
  have : (s.find? fun q => q.1 = z).isSome := by rw [List.find?_isSome]; exact ⟨q, hq, by simpa using e⟩
  obtain ⟨r, hr⟩ := Option.isSome_iff_exists.mp this
  exact ⟨r, hr, by simpa using List.find?_some hr⟩
theorem npOf_updA {c f} {s : AS} {z : Nat} (h : z ∈ names s) : npOf (updA c f s) z = if z = c then (f (npOf s z, suOf s z)).1 else npOf s z := by
  obtain ⟨q, hq, e⟩ := find_names h
  unfold npOf suOf
  rw [find_updA, hq]
  by_cases hc : z = c
  · simp [hc, e]
  · simp [hc, e]
theorem suOf_updA {c f} {s : AS} {z : Nat} (h : z ∈ names s) : suOf (updA c f s) z = if z = c then (f (npOf s z, suOf s z)).2 else suOf s z := by
  obtain ⟨q, hq, e⟩ := find_names h
  unfold npOf suOf
  rw [find_updA, hq]
  by_cases hc : z = c
  · simp [hc, e]
  · simp [hc, e]
theorem suOf_np {c : Nat} {u : Int → Int} {s : AS} {z : Nat} : suOf (updA c (fun v => (u v.1, v.2)) s) z = suOf s z := by
  by_cases h : z ∈ names s
  · rw [suOf_updA h]; split <;> rfl
  · unfold suOf
    have : s.find? (fun q => q.1 = z) = none := by
      rw [List.find?_eq_none]
      intro q hq he
      exact h (List.mem_map.mpr ⟨q, hq, by simpa using he⟩)
    rw [find_updA, this]; rfl
/-- what a row of decrements does -/
theorem dec_fold (L : List Nat) : ∀ (s : AS) (r0 : List Nat), (∀ q ∈ L, q ∈ names s ∧ (L.count q : Int) ≤ npOf s q) → (∀ z ∈ r0, z ∉ L) → r0.Nodup →
    names (L.foldl decOne (s, r0)).1 = names s ∧ (∀ z, suOf (L.foldl decOne (s, r0)).1 z = suOf s z) ∧ (∀ z ∈ names s, npOf (L.foldl decOne (s, r0)).1 z = npOf s z - L.count z) ∧
    (L.foldl decOne (s, r0)).2.Nodup ∧ ∀ z, z ∈ (L.foldl decOne (s, r0)).2 ↔ z ∈ r0 ∨ (z ∈ L ∧ npOf s z = L.count z) := by
  induction L with
  | nil => intro s r0 _ _ hn; exact ⟨rfl, fun _ => rfl, fun z _ => by simp, hn, fun z => by simp⟩
  | cons q L ih =>
    intro s r0 H hr hn
    obtain ⟨hqn, hqc⟩ := H q (.head _)
    have hqc' : ((L.count q + 1 : Nat) : Int) ≤ npOf s q := by simpa using hqc
    rw [List.foldl_cons]
    -- the state after the first
    have en : names (updA q (fun v => (v.1 - 1, v.2)) s) = names s := names_updA ..
    have enp : ∀ z ∈ names s, npOf (updA q (fun v => (v.1 - 1, v.2)) s) z = if z = q then npOf s z - 1 else npOf s z := fun z hz => npOf_updA hz
    have hd : decOne (s, r0) q = (updA q (fun v => (v.1 - 1, v.2)) s, if npOf s q = 1 then r0 ++ [q] else r0) := by
      unfold decOne
      rw [enp q hqn, if_pos rfl]
      congr 1
      by_cases h1 : npOf s q = 1
      · rw [if_pos h1, if_pos (by omega)]
      · rw [if_neg h1, if_neg (by omega)]
    rw [hd]
    have hq1 : npOf s q = 1 → q ∉ L := fun h1 hm => by
      have := List.count_pos_iff.mpr hm
      omega
    have Z := ih (updA q (fun v => (v.1 - 1, v.2)) s) (if npOf s q = 1 then r0 ++ [q] else r0) ?_ ?_ ?_
    · obtain ⟨z1, z2, z3, z4, z5⟩ := Z
      refine ⟨z1.trans en, fun z => (z2 z).trans (suOf_np (u := fun v => v - 1)), fun z hz => ?_, z4, fun z => ?_⟩
      · rw [z3 z (by rw [en]; exact hz), enp z hz, List.count_cons]
        by_cases e : z = q
        · subst e; simp; omega
        · have : (q == z) = false := by simpa using Ne.symm e
          rw [if_neg e, this]; simp
      · rw [z5]
        by_cases e : z = q
        · subst e
          rw [enp z hqn, if_pos rfl]
          by_cases h1 : npOf s z = 1
          · rw [if_pos h1]
            have := hq1 h1
            have hc : L.count z = 0 := List.count_eq_zero.mpr this
            simp [h1, hc]
          · rw [if_neg h1]
            by_cases hm : z ∈ L
            · simp [hm, List.count_cons_self]
              constructor
              · rintro (q | q)
                · exact .inl q
                · exact .inr (by omega)
              · rintro (q | q)
                · exact .inl q
                · exact .inr (by omega)
            · have hc : L.count z = 0 := List.count_eq_zero.mpr hm
              simp [hm, hc, h1]
        · have hzq : (q == z) = false := by simpa using Ne.symm e
          rw [List.count_cons, hzq]
          have hmem : z ∈ (if npOf s q = 1 then r0 ++ [q] else r0) ↔ z ∈ r0 := by
            split
            · simp [e]
            · exact Iff.rfl
          rw [hmem]
          by_cases hm : z ∈ L
          · have hzn := (H z (.tail _ hm)).1
            rw [enp z hzn, if_neg e]
            simp [hm]
          · simp [hm, e]
    · intro z hz
      obtain ⟨h1, h2⟩ := H z (.tail _ hz)
      refine ⟨by rw [en]; exact h1, ?_⟩
      rw [enp z h1]
      by_cases e : z = q
      · subst e; rw [if_pos rfl]; omega
      · rw [if_neg e]
        have hzq : (q == z) = false := by simpa using Ne.symm e
        rw [List.count_cons, hzq] at h2
        simpa using h2
    · intro z hz
      split at hz
      · rename_i h1
        rcases List.mem_append.mp hz with q' | q'
        · exact fun hm => hr z q' (.tail _ hm)
        · rw [List.mem_singleton.mp q']; exact hq1 h1
      · exact fun hm => hr z hz (.tail _ hm)
    · split
      · rw [List.nodup_append]
        refine ⟨hn, by simp, fun a ha b hb => ?_⟩
        rw [List.mem_singleton.mp hb]
        exact fun e => hr a ha (e ▸ .head _)
      · exact hn
theorem out_fold (L : List Nat) : ∀ (s : AS), names (L.foldl outOne s) = names s ∧ (∀ z, suOf (L.foldl outOne s) z = suOf s z) ∧ ∀ z ∈ names s, npOf (L.foldl outOne s) z = if z ∈ L then -1 else npOf s z := by
  induction L with
  | nil => intro s; exact ⟨rfl, fun _ => rfl, fun z _ => by simp⟩
  | cons q L ih =>
    intro s
    rw [List.foldl_cons]
    have en : names (outOne s q) = names s := names_updA ..
    obtain ⟨z1, z2, z3⟩ := ih (outOne s q)
    refine ⟨z1.trans en, fun z => (z2 z).trans (suOf_np (u := fun _ => -1)), fun z hz => ?_⟩
    rw [z3 z (by rw [en]; exact hz)]
    have : npOf (outOne s q) z = if z = q then -1 else npOf s z := npOf_updA hz
    rw [this]
    by_cases h1 : z ∈ L
    · simp [h1]
    · by_cases h2 : z = q
      · simp [h2]
      · simp [h1, h2]
/-! dealing -/
noncomputable def isFree (needs : Nat → List Nat) (known : List Nat) (c : Nat) : Prop := c < 7 ∧ c ∉ known ∧ ∀ q ∈ needs c, q ∈ known
structure Deal (needs : Nat → List Nat) (s : AS) (rs hp told : List Nat) : Prop where
  nodes : (names s).Perm (List.range 7)
  su : ∀ p < 7, ∀ c < 7, (suOf s p).count c = (needs c).count p
  suLt : ∀ p < 7, ∀ q ∈ suOf s p, q < 7
  needLt : ∀ c < 7, ∀ q ∈ needs c, q < 7
  nd : (told ++ (hp ++ rs)).Nodup
  free : ∀ c, c ∈ hp ∨ c ∈ rs ↔ isFree needs told c
  closed : ∀ c ∈ told, c < 7 ∧ ∀ q ∈ needs c, q ∈ told
  npH : ∀ c ∈ hp, npOf s c = -1
  npW : ∀ c < 7, c ∉ told → c ∉ hp → npOf s c = ((needs c).countP (fun q => decide (q ∉ told)) : Nat)
variable {needs : Nat → List Nat} {s : AS} {rs hp told : List Nat}
theorem Deal.mem (D : Deal needs s rs hp told) {c : Nat} : c ∈ names s ↔ c < 7 := by rw [D.nodes.mem_iff]; simp
theorem Deal.ready (D : Deal needs s rs hp told) : Deal needs (rs.foldl outOne s) [] (hp ++ rs) told := by
  obtain ⟨z1, z2, z3⟩ := out_fold rs s
  refine ⟨by rw [z1]; exact D.nodes, fun p hp c hc => by rw [z2]; exact D.su p hp c hc, fun p hp => by rw [z2]; exact D.suLt p hp, D.needLt, by simpa using D.nd, fun c => by rw [← D.free]; simp, D.closed, fun c hc => ?_, fun c hc h1 h2 => ?_⟩
  · have hlt : c < 7 := ((D.free c).mp (List.mem_append.mp hc)).1
    rw [z3 c (D.mem.mpr hlt)]
    rcases List.mem_append.mp hc with q | q
    · split
      · rfl
      · exact D.npH c q
    · rw [if_pos q]
  · rw [List.mem_append, not_or] at h2
    rw [z3 c (D.mem.mpr hc), if_neg h2.2]
    exact D.npW c hc h1 h2.1
theorem Deal.permH {hp' : List Nat} (D : Deal needs s rs hp told) (e : hp.Perm hp') : Deal needs s rs hp' told :=
  ⟨D.nodes, D.su, D.suLt, D.needLt, ((e.append_right rs).append_left told).nodup_iff.mp D.nd, fun c => by rw [← D.free, e.mem_iff], D.closed, fun c hc => D.npH c (e.mem_iff.mpr hc), fun c hc h1 h2 => D.npW c hc h1 fun z => h2 (e.mem_iff.mp z)⟩
theorem countP_snoc {c : Nat} {told : List Nat} (hc : c ∉ told) (l : List Nat) : l.countP (fun q => decide (q ∉ told)) = l.countP (fun q => decide (q ∉ told ++ [c])) + l.count c := by
  induction l with
  | nil => rfl
  | cons x l ih =>
    rw [List.countP_cons, List.countP_cons, List.count_cons, ih]
    by_cases e : x = c
    · subst e; simp [hc]; omega
    · have : (x == c) = false := by simpa using e
      by_cases h : x ∈ told
      · simp [h, e, this]
      · simp [h, e, this]; omega
theorem Deal.done {c : Nat} {hp1 : List Nat} (D : Deal needs s [] (c :: hp1) told) : Deal needs (doneS c s []).1 (doneS c s []).2 hp1 (told ++ [c]) := by
  have hcf := (D.free c).mp (.inl (.head _))
  have hc7 : c < 7 := hcf.1
  have hct : c ∉ told := hcf.2.1
  have hnd := D.nd
  rw [List.append_nil] at hnd
  obtain ⟨n1, n2, n3⟩ := List.nodup_append.mp hnd
  obtain ⟨n4, n5⟩ := List.nodup_cons.mp n2
  have hhp : ∀ z ∈ hp1, z ∉ told ∧ z ≠ c := fun z hz => ⟨fun q => n3 z q z (.tail _ hz) rfl, fun e => n4 (e ▸ hz)⟩
  have e1 : names (updA c (fun v => (-2, v.2)) s) = names s := names_updA ..
  have enp : ∀ z ∈ names s, npOf (updA c (fun v => (-2, v.2)) s) z = if z = c then -2 else npOf s z := fun z hz => npOf_updA hz
  -- whom it frees
  have hL : ∀ q ∈ suOf s c, q < 7 ∧ q ∉ told ∧ q ∉ c :: hp1 ∧ c ∈ needs q := fun q hq => by
    have hq7 := D.suLt c hc7 q hq
    have hcn : c ∈ needs q := by
      have := D.su c hc7 q hq7
      have h0 := List.count_pos_iff.mpr hq
      exact List.count_pos_iff.mp (by omega)
    exact ⟨hq7, fun z => hct ((D.closed q z).2 c hcn), fun z => hct (((D.free q).mp (.inl z)).2.2 c hcn), hcn⟩
  have hge : ∀ q ∈ suOf s c, q ∈ names (updA c (fun v => (-2, v.2)) s) ∧ ((suOf s c).count q : Int) ≤ npOf (updA c (fun v => (-2, v.2)) s) q := fun q hq => by
    obtain ⟨h1, h2, h3, h4⟩ := hL q hq
    refine ⟨by rw [e1]; exact D.mem.mpr h1, ?_⟩
    rw [enp q (D.mem.mpr h1), if_neg (show ¬ q = c from fun e => h3 (e ▸ List.mem_cons_self)), D.npW q h1 h2 h3, D.su c hc7 q h1, countP_snoc hct]
    omega
  obtain ⟨z1, z2, z3, z4, z5⟩ := dec_fold (suOf s c) (updA c (fun v => (-2, v.2)) s) [] hge (fun z hz => by cases hz) List.nodup_nil
  have hz5 : ∀ z, z ∈ (doneS c s []).2 ↔ z ∈ suOf s c ∧ (needs z).countP (fun q => decide (q ∉ told ++ [c])) = 0 := fun z => by
    show z ∈ ((suOf s c).foldl decOne _).2 ↔ _
    rw [z5]
    simp only [List.not_mem_nil, false_or]
    refine and_congr_right fun hz => ?_
    obtain ⟨h1, h2, h3, h4⟩ := hL z hz
    rw [enp z (D.mem.mpr h1), if_neg (show ¬ z = c from fun e => h3 (e ▸ List.mem_cons_self)), D.npW z h1 h2 h3, D.su c hc7 z h1, countP_snoc hct]
    omega
  have hnpz : ∀ z < 7, z ∉ told → z ∉ c :: hp1 → npOf (doneS c s []).1 z = ((needs z).countP (fun q => decide (q ∉ told ++ [c])) : Nat) := fun z h1 h2 h3 => by
    show npOf ((suOf s c).foldl decOne _).1 z = _
    rw [z3 z (by rw [e1]; exact D.mem.mpr h1), enp z (D.mem.mpr h1), if_neg (show ¬ z = c from fun e => h3 (e ▸ List.mem_cons_self)), D.npW z h1 h2 h3, D.su c hc7 z h1, countP_snoc hct]
    omega
  refine ⟨by show (names ((suOf s c).foldl decOne _).1).Perm _; rw [z1, e1]; exact D.nodes, fun p hp q hq => ?_, fun p hp => ?_, D.needLt, ?_, fun z => ?_, ?_, ?_, ?_⟩
  · show (suOf ((suOf s c).foldl decOne _).1 p).count q = _
    rw [z2, suOf_np (u := fun _ => -2)]; exact D.su p hp q hq
  · show ∀ q ∈ suOf ((suOf s c).foldl decOne _).1 p, _
    rw [z2, suOf_np (u := fun _ => -2)]; exact D.suLt p hp
  · rw [List.nodup_append]
    refine ⟨?_, ?_, ?_⟩
    · rw [List.nodup_append]
      refine ⟨n1, by simp, fun a ha b hb => ?_⟩
      rw [List.mem_singleton.mp hb]; exact fun e => hct (e ▸ ha)
    · rw [List.nodup_append]
      refine ⟨n5, z4, fun a ha b hb e => ?_⟩
      subst e
      obtain ⟨h1, h2, h3, h4⟩ := hL a ((hz5 a).mp hb).1
      exact h3 (.tail _ ha)
    · intro a ha b hb e
      subst e
      rcases List.mem_append.mp hb with q | q
      · obtain ⟨h1, h2⟩ := hhp a q
        rcases List.mem_append.mp ha with r | r
        · exact h1 r
        · exact h2 (List.mem_singleton.mp r)
      · obtain ⟨h1, h2, h3, h4⟩ := hL a ((hz5 a).mp q).1
        rcases List.mem_append.mp ha with r | r
        · exact h2 r
        · exact h3 (List.mem_singleton.mp r ▸ .head _)
  · constructor
    · rintro (q | q)
      · obtain ⟨h1, h2⟩ := hhp z q
        obtain ⟨f1, f2, f3⟩ := (D.free z).mp (.inl (.tail _ q))
        exact ⟨f1, by simp [h1, h2], fun y hy => List.mem_append_left _ (f3 y hy)⟩
      · obtain ⟨hz, h0⟩ := (hz5 z).mp q
        obtain ⟨h1, h2, h3, h4⟩ := hL z hz
        refine ⟨h1, ?_, fun y hy => ?_⟩
        · simp only [List.mem_append, List.mem_singleton, not_or]
          exact ⟨h2, fun e => h3 (e ▸ .head _)⟩
        · have := List.countP_eq_zero.mp h0 y hy
          exact Classical.byContradiction fun q => this (decide_eq_true q)
    · rintro ⟨f1, f2, f3⟩
      simp only [List.mem_append, List.mem_singleton, not_or] at f2
      by_cases hcn : c ∈ needs z
      · refine .inr ((hz5 z).mpr ⟨?_, ?_⟩)
        · have := D.su c hc7 z f1
          have h0 := List.count_pos_iff.mpr hcn
          exact List.count_pos_iff.mp (by omega)
        · rw [List.countP_eq_zero]
          intro y hy q
          exact of_decide_eq_true q (f3 y hy)
      · have hfree : isFree needs told z := ⟨f1, f2.1, fun y hy => by
          rcases List.mem_append.mp (f3 y hy) with q | q
          · exact q
          · exact absurd (List.mem_singleton.mp q ▸ hy) hcn⟩
        rcases (D.free z).mpr hfree with q | q
        · cases q with
          | head => exact absurd rfl f2.2
          | tail _ q => exact .inl q
        · cases q
  · intro z hz
    rcases List.mem_append.mp hz with q | q
    · exact ⟨(D.closed z q).1, fun y hy => List.mem_append_left _ ((D.closed z q).2 y hy)⟩
    · rw [List.mem_singleton.mp q]
      exact ⟨hc7, fun y hy => List.mem_append_left _ (hcf.2.2 y hy)⟩
  · intro z hz
    obtain ⟨h1, h2⟩ := hhp z hz
    have h7 : z < 7 := ((D.free z).mp (.inl (.tail _ hz))).1
    show npOf ((suOf s c).foldl decOne _).1 z = _
    rw [z3 z (by rw [e1]; exact D.mem.mpr h7), enp z (D.mem.mpr h7), if_neg h2, D.npH z (.tail _ hz)]
    have : (suOf s c).count z = 0 := List.count_eq_zero.mpr fun q => (hL z q).2.2.1 (.tail _ hz)
    rw [this]; rfl
  · intro z h7 h1 h2
    simp only [List.mem_append, List.mem_singleton, not_or] at h1
    exact hnpz z h7 h1.1 fun q => by
      cases q with
      | head => exact h1.2 rfl
      | tail _ q => exact h2 q
end Mine

namespace Mine
open PySem PySem.Calls PyProof.Rows PySem.W
section
variable {M : Model} {K : Frag} {w : World} {A : Around} {E : Value → Shared → Prop} {H h h' : Heap} {G : Led} {env : Env} {outer : List Env} {g : Array GenState} {d : Drawn} {tk : Nat} {os : OsState} {a x dx nd ra it ex L T : Addr} {C : Value}
/-- the next frame notes the exception -/
theorem noteNext {Q : Unit → Shared → Prop} (hfr : A.frames = some (env :: outer)) (hf : FrIn G (env :: outer)) (S : Sym H h ((ex, excT C T) :: (T, tbP) :: G))
    (k : ∀ h' T', Sym H h' ((ex, excT C T') :: (T', tbP) :: G) → Q () ⟨h', g, d, tk, os⟩) :
    wpAny M A (noteFrame (.ref ex) env) (fun _ s' => wpAny M A (setFlight (.ref ex) none) Q E s') E ⟨h, g, d, tk, os⟩ := by
  obtain ⟨o, e, hc, vs, hd, h1⟩ := S.head
  obtain ⟨oT, eT, ts, hdT, h3⟩ := S.tail.head
  obtain ⟨_, L, l, hL, m⟩ := hf env (.head _)
  have hsz := (Array.getElem?_eq_some_iff.mp h3).1
  unfold noteFrame
  simp only [hL]
  refine wpAny_bind (wpAny_field e hd h1 ?_)
  rw [if_pos (show (Value.ref T != Value.none) = true from by simp)]
  refine wpAny_bind (wpAny_field eT hdT h3 ?_)
  rw [if_neg (show ¬ ((Value.none == rawInt L) = true) from by simp [rawInt])]
  refine wpAny_bind (wpAny_setField eT hdT hsz ?_)
  have S1 : Sym H (h.update T (Obj.mapFields (·.setIfInBounds 3 Value.none))) ((ex, excT C T) :: (T, tbP) :: G) :=
    Sym.swap (S.swap.upd (Heap.SameBut.update ..) (Heap.get?_update_self _ eT (Obj.isFreed_of_fields (Obj.data_mapFields hdT _))) ⟨_, Obj.data_mapFields hdT _, by simp [hsz]⟩)
  obtain ⟨o1, e1, hc1, vs1, hd1, h11⟩ := S1.head
  have hf' : FrIn ((T, tbP) :: G) (env :: outer) := hf.sub fun p hp => .tail _ hp
  refine wpAny_newEntry (base := hideAll (h.update T (Obj.mapFields (·.setIfInBounds 3 Value.none))) (ex :: (env :: outer).filterMap (·.frame))) hfr (funFr S1.tail hf' fun b hb => hideAll_none _ (.tail _ hb)) hL e1 (fun b o q => of_hideAll _ q) (hideAll_none _ (.head _)) hd1 (Array.getElem?_eq_some_iff.mp h11).1 fun h' hl => ?_
  rw [hc1] at hl
  obtain ⟨T', S'⟩ := left_sym S1 hf' hl
  exact k h' T' (S'.front 2 rfl).tail
/-- `except CycleError:` catches it -/
theorem caughtCyc {b₀ : Stmt} {suite : List Stmt} {pos np : Pos} {Q : Flow → Shared → Prop} (TT : TopC K H) (S : Sym H h ((ex, excT (.ref 83) T) :: (T, tbP) :: G))
    (k : ∀ h', Sym H h' ((ex, excT (.ref 83) T) :: (T, tbP) :: G) → wpAny (model pw w) (A.mark (some (.ref ex))) (execs (b₀ :: suite) env) Q (notedBy (model pw w) (A.mark (some (.ref ex))) env (cameBackBy (model pw w) A env E)) ⟨h', g, d, tk, os⟩)
    (hk : env.scope.kind = .function := by rfl) (hl : env.kindOf "CycleError" = some .globalImplicit := by rfl) (hg : env.globals = 3 := by rfl) :
    wpAny (model pw w) A (handleBy (.ref ex) env [.ExceptHandler (some (.Name "CycleError" np)) none (b₀ :: suite) pos]) Q E ⟨h, g, d, tk, os⟩ := by
  obtain ⟨o, e, hc, vs, hd, h1⟩ := S.head
  obtain ⟨nm1, q1, N, bs, hdct, sn, sub, ab, col, dd, k0, k1, k2, k3, k5, mN, hC, hN, hni⟩ := TT.err
  refine wpAny_handleBy_cons (codeAny_handlers_test (ldG TT.toGlobs S.keep rfl ?_ hk hl hg)) (by intro q; cases q)
  refine wpAny_excMatches_sub_self (S.keep _ _ hC) e hc (by decide) ?_
  exact codeAny_handlers_suite (landAgain S fun h' S' => k h' S')
/-- a tuple's items; a list's items -/
theorem unpT {vs : List Value} {n : Nat} {Q : List Value → Shared → Prop} (hh : A.handled = none) (S : Sym H h G) (m : (a, tupP vs) ∈ G) (hn : vs.length = n) (k : ∀ h', Sym H h' G → Q vs ⟨h', g, d, tk, os⟩) :
    wpAny (model pw w) A (unpackItems (.ref a) n none) Q E ⟨h, g, d, tk, os⟩ := by
  have := wpAny_unpackItems_tuple (prog := pw) (w := w) (E := E) (Q := Q) (s := ⟨h, g, d, tk, os⟩) hh (S.tup m) fun h' he => by
    refine k h' (S.grow fun b o e => he b o (Nat.ne_of_lt (Heap.lt_size e)) e)
  simpa [hn] using this
theorem drawL {vs : List Value} : ∀ (n i : Nat) (h : Heap) (Q : List Value → Shared → Prop), Sym H h ((it, itP "list_iterator" a i) :: G) → (a, lstP vs) ∈ G → i + n ≤ vs.length →
    (∀ h', Sym H h' ((it, itP "list_iterator" a (i + n)) :: G) → Q ((vs.drop i).take n) ⟨h', g, d, tk, os⟩) → wpAny (model pw w) A (draw (.ref it) n) Q E ⟨h, g, d, tk, os⟩
  | 0, i, h, Q, S, m, hl, k => by
    show wpAny _ _ (pure []) _ _ _
    exact wpAny_pure (by simpa using k h S)
  | n + 1, i, h, Q, S, m, hl, k => by
    show wpAny _ _ (pyNext (.ref it) >>= _) _ _ _
    have hlt : i < vs.length := by omega
    refine wpAny_bind (nextL (v := vs[i]) S m (by simp [hlt]) fun h1 S1 => ?_)
    refine wpAny_bind (wpAny_holding (drawL n (i + 1) h1 _ S1 m (by omega) fun h2 S2 => wpAny_pure ?_))
    have e : vs.drop i = vs[i] :: vs.drop (i + 1) := List.drop_eq_getElem_cons hlt
    have := k h2 (by rw [show i + (n + 1) = i + 1 + n by omega]; exact S2)
    rw [e, List.take_succ_cons] at this
    exact this
theorem unpL {vs : List Value} {n : Nat} {Q : List Value → Shared → Prop} (hh : A.handled = none) (S : Sym H h G) (m : (a, lstP vs) ∈ G) (hn : vs.length = n) (k : ∀ h', Sym H h' G → Q vs ⟨h', g, d, tk, os⟩) :
    wpAny (model pw w) A (unpackItems (.ref a) n none) Q E ⟨h, g, d, tk, os⟩ := by
  unfold unpackItems notIterableAtAll
  refine wpAny_bind (wpAny_bind (wpAny_specialOf (Heap.IsList.typeIs (s := ⟨h, g, d, tk, os⟩) (S.isList m)) PySem.F.slot_list_iter.lookup (wpAny_pure ?_)))
  refine wpAny_bind (wpAny_holding (iterL S m fun it h1 S1 => ?_))
  refine wpAny_bind (wpAny_holding (drawL n 0 h1 _ S1 m (by omega) fun h2 S2 => ?_))
  have e : (vs.drop 0).take n = vs := by simp [← hn]
  rw [e, if_neg (by omega)]
  refine wpAny_bind (wpAny_holding (endL hh S2 m (by simp [hn]) fun h3 S3 => ?_))
  exact wpAny_pure (k h3 S3)
/-- unpacking to names -/
theorem asgT {elts : List Expr} {x1} {pos : Pos} {vs : List Value} {Q : Unit → Shared → Prop} (hh : A.handled = none) (S : Sym H h G) (m : (a, lstP vs) ∈ G) (hn : (assignEach elts env).length = vs.length) (hstar : (assignEach elts env).findIdx? (·.1) = none)
    (k : ∀ h', Sym H h' G → wpAny (model pw w) A (assignInOrder ((assignEach elts env).map (·.2)) vs) Q E ⟨h', g, d, tk, os⟩) : wpAny (model pw w) A (assign (.Tuple elts x1 pos) env (.ref a)) Q E ⟨h, g, d, tk, os⟩ := by
  rw [arm_assign_Tuple]
  refine wpAny_bind (wpAny_standAt ?_)
  unfold unpack
  rw [hstar]
  exact wpAny_bind (wpAny_holding (unpL hh S m (by rw [hn]) k))
end
/-! what is due -/
noncomputable def isMin (rank : Nat → Int) (P : Nat → Prop) (c : Nat) : Prop := P c ∧ ∀ c', P c' → c' ≠ c → itemLt (rank c) c (rank c') c' = true
inductive DuePre (rank : Nat → Int) (needs : Nat → List Nat) : List Nat → Prop
  | nil : DuePre rank needs []
  | snoc {l : List Nat} {c : Nat} : DuePre rank needs l → isMin rank (isFree needs l) c → DuePre rank needs (l ++ [c])
noncomputable def IsDue (rank : Nat → Int) (needs : Nat → List Nat) (l : List Nat) : Prop := DuePre rank needs l ∧ ∀ c, ¬ isFree needs l c
theorem min_uniq {rank : Nat → Int} {P : Nat → Prop} {a b : Nat} (ha : isMin rank P a) (hb : isMin rank P b) : a = b := by
  by_cases h : a = b
  · exact h
  · have h1 := ha.2 b hb.1 (Ne.symm h)
    have h2 := hb.2 a ha.1 h
    simp only [itemLt, decide_eq_true_eq] at h1 h2
    omega
theorem pre_take {rank : Nat → Int} {needs : Nat → List Nat} {l : List Nat} (h : DuePre rank needs l) : ∀ k c, l[k]? = some c → isMin rank (isFree needs (l.take k)) c := by
  induction h with
  | nil => intro k c e; simp at e
  | @snoc l c h hm ih =>
    intro k c' e
    by_cases hk : k < l.length
    · rw [List.getElem?_append_left hk] at e
      rw [List.take_append_of_le_length (by omega)]
      exact ih k c' e
    · have : k = l.length := by
        have := (List.getElem?_eq_some_iff.mp e).1
        simp at this; omega
      subst this
      simp at e
      subst e
      simpa using hm
theorem due_uniq {rank : Nat → Int} {needs : Nat → List Nat} {a b : List Nat} (ha : IsDue rank needs a) (hb : IsDue rank needs b) : a = b := by
  have key : ∀ k, k ≤ a.length → k ≤ b.length → a.take k = b.take k := by
    intro k
    induction k with
    | zero => intro _ _; simp
    | succ k ih =>
      intro h1 h2
      have e := ih (by omega) (by omega)
      have m1 := pre_take ha.1 k _ (List.getElem?_eq_getElem (show k < a.length by omega))
      have m2 := pre_take hb.1 k _ (List.getElem?_eq_getElem (show k < b.length by omega))
      rw [e] at m1
      rw [List.take_add_one, List.take_add_one, e, List.getElem?_eq_getElem (show k < a.length by omega), List.getElem?_eq_getElem (show k < b.length by omega), min_uniq m1 m2]
  rcases Nat.lt_trichotomy a.length b.length with h | h | h
  · have e := key a.length (Nat.le_refl _) (by omega)
    rw [List.take_length] at e
    have := pre_take hb.1 a.length _ (List.getElem?_eq_getElem h)
    rw [← e] at this
    exact absurd this.1 (ha.2 _)
  · have e := key a.length (Nat.le_refl _) (by omega)
    rw [List.take_length, h, List.take_length] at e
    exact e
  · have e := key b.length (by omega) (Nat.le_refl _)
    rw [List.take_length] at e
    have := pre_take ha.1 b.length _ (List.getElem?_eq_getElem h)
    rw [e] at this
    exact absurd this.1 (hb.2 _)
theorem nodup_lt {n : Nat} : ∀ {l : List Nat}, l.Nodup → (∀ x ∈ l, x < n) → l.length ≤ n := by
  induction n with
  | zero => intro l _ h; cases l with | nil => simp | cons a l => exact absurd (h a (.head _)) (by omega)
  | succ n ih =>
    intro l hn h
    by_cases hm : n ∈ l
    · have hp := List.perm_cons_erase hm
      have hn' : (n :: l.erase n).Nodup := hp.nodup_iff.mp hn
      obtain ⟨h1, h2⟩ := List.nodup_cons.mp hn'
      have := ih h2 fun x hx => by
        have := h x (List.mem_of_mem_erase hx)
        have : x ≠ n := fun e => h1 (e ▸ hx)
        omega
      rw [hp.length_eq]; simp; omega
    · have := ih hn fun x hx => by
        have := h x hx
        have : x ≠ n := fun e => hm (e ▸ hx)
        omega
      omega
theorem Deal.len {needs : Nat → List Nat} {s : AS} {rs hp told : List Nat} (D : Deal needs s rs hp told) : told.length + (hp.length + rs.length) ≤ 7 := by
  have := nodup_lt D.nd fun x hx => by
    rcases List.mem_append.mp hx with q | q
    · exact (D.closed x q).1
    · exact ((D.free x).mp (List.mem_append.mp q)).1
  simpa using this
theorem decOne_su (z : AS × List Nat) (q x : Nat) : suOf (decOne z q).1 x = suOf z.1 x := suOf_np (u := fun v => v - 1)
theorem doneS_su (c : Nat) (s : AS) (rs : List Nat) (x : Nat) : suOf (doneS c s rs).1 x = suOf s x := by
  unfold doneS
  have : ∀ (L : List Nat) (z : AS × List Nat), suOf (L.foldl decOne z).1 x = suOf z.1 x := by
    intro L
    induction L with
    | nil => intro z; rfl
    | cons q L ih => intro z; rw [List.foldl_cons, ih]; exact decOne_su z q x
  rw [this]
  exact suOf_np (u := fun _ => -2)
theorem names_abs (fam : List NodeR) : names (fam.map (·.abs)) = fam.map (·.c) := by
  unfold names
  rw [List.map_map]
  rfl
theorem IsHeap.congr {key key' : Value → Int × Nat} {vs : List Value} (h : IsHeap key vs) (e : ∀ v ∈ vs, key v = key' v) : IsHeap key' vs := by
  intro i h0 hi
  have := h i h0 hi
  have m : ∀ j, j < vs.length → gt vs j ∈ vs := fun j hj => by
    have : gt vs j = vs[j] := by simp [gt, List.getD_eq_getElem?_getD, hj]
    rw [this]; exact List.getElem_mem hj
  unfold keyLt at this ⊢
  rw [e _ (m i hi), e _ (m _ (by omega))] at this
  exact this
end Mine

namespace Mine
open PySem PySem.Calls PyProof.Rows PySem.W
noncomputable def fdIter : FuncData := fdOf pw.main.body[3]? "_iter_escaped_chars" .none (.str "cpy313.email.utils" 194) 27
noncomputable def fdStrip : FuncData := fdOf pw.main.body[4]? "_strip_quoted_realnames" .none (.str "cpy313.email.utils" 194) 34
noncomputable def fdCheck : FuncData := fdOf pw.main.body[5]? "_check_parenthesis" .none (.str "cpy313.email.utils" 194) 41
noncomputable def fdDec : FuncData := fdOf pw.main.body[6]? "decode_rfc2231" .none (.str "cpy313.email.utils" 194) 48
noncomputable def fdText : FuncData := fdOf pw.main.body[19]? "_law_text" .none (.str "law_oc0243_01" 464) 203
noncomputable def fdRead : FuncData := fdOf pw.main.body[20]? "_law_read" .none (.str "law_oc0243_01" 464) 210
noncomputable def fdDealt : FuncData := fdOf pw.main.body[21]? "_law_dealt" .none (.str "law_oc0243_01" 464) 217
noncomputable def fdDue : FuncData := fdOf pw.main.body[22]? "_law_due" .none (.str "law_oc0243_01" 464) 222
noncomputable def fdLaw : FuncData := fdOf pw.main.body[23]? "law" .none (.str "law_oc0243_01" 464) 227
structure TopL (K : Frag) (H : Heap) : Prop extends TopC K H where
  fiter : FnAt H 28 fdIter
  fstrip : FnAt H 35 fdStrip
  fcheck : FnAt H 42 fdCheck
  fdec : FnAt H 49 fdDec
  ftext : FnAt H 204 fdText
  fread : FnAt H 211 fdRead
  fdealt : FnAt H 218 fdDealt
  fdue : FnAt H 223 fdDue
  flaw : FnAt H 228 fdLaw
section
variable {K : Frag} {w : World} {A : Around} {E : Value → Shared → Prop} {H h h' : Heap} {G : Led} {env : Env} {outer : List Env} {g : Array GenState} {d : Drawn} {tk : Nat} {os : OsState} {a x dx nd ra rk : Addr} {r : Value} {p f : Int} {t1 t2 : Tok} {fam : List NodeR} {rkv : List (Str × Value)} {needs : Nat → List Nat} {rank : Nat → Int}
/-- the heap of the dealt jobs -/
structure Hp (rank : Nat → Int) (G : Led) (key : Value → Int × Nat) (vs : List Value) : Prop where
  heap : IsHeap key vs
  item : ∀ v ∈ vs, IsItem G v (key v).1 (key v).2
  rk : ∀ v ∈ vs, (key v).1 = rank (key v).2
theorem perm4d {α : Type} {a b c z : α} {l : List α} : List.Perm ([a, b, c] ++ (z :: l)) (z :: (a :: b :: c :: l)) := by (refine perm_sum fun _ => ?_; (try simp only [locals_eq, List.append_eq, sortL, famL_app, famL_cons, famL_nil, NodeR.ent, List.cons_append, List.nil_append, List.append_assoc, List.eraseIdx_cons_succ, List.eraseIdx_cons_zero]); (try simp only [List.map_append, List.map_cons, List.map_nil, List.sum_append, List.sum_cons, List.sum_nil, Nat.add_zero, Nat.zero_add, Nat.add_assoc]); (try ac_rfl))
set_option maxHeartbeats 8000000 in
theorem dealt_spec {Q : Value → Shared → Prop} (T : TopL K H) (hd : A.depth + 20 < recursionLimit) (hu : A.units + 100 < cLine) (hh : A.handled = none) (hfr : A.frames = some outer) (S : Sym H h (sortL w x dx nd .none 0 t1 0 t2 fam ++ ((rk, dctP w rkv) :: G))) (hfi : FrIn G outer)
    (D0 : Deal needs (fam.map (·.abs)) (readyOf (fam.map (·.abs))) [] []) (hl2 : ∀ c, (suOf (fam.map (·.abs)) c).length ≤ 800)
    (hrk : ∀ c < 7, ∃ t, valueAt rkv (nm c) = some (.int (rank c) t))
    (k : ∀ h' tk' tb ta told ring, IsDue rank needs told → (ring = true → ∃ Rg, Ring (suOf (fam.map (·.abs))) Rg) → (ring = false → ∃ dn, Topo (suOf (fam.map (·.abs))) dn ∧ ∀ c < 7, c ∈ dn) →
      Sym H h' ((tb, tupP [.ref ta, .bool ring]) :: (ta, lnP told) :: (rk, dctP w rkv) :: G) → Q (.ref tb) ⟨h', g, d, tk', os⟩) :
    wpAny (model pw w) A (call (.ref 218) [.ref x, .ref rk]) Q E ⟨h, g, d, tk, os⟩ := by
  have hnames : (fam.map (·.c)).Perm (List.range 7) := by have := D0.nodes; rwa [names_abs] at this
  have nc : (fam.map (·.c)).Nodup := hnames.nodup_iff.mpr List.nodup_range
  have hflen : fam.length = 7 := by have := hnames.length_eq; simpa using this
  have hsu0 : ∀ r ∈ fam, ∀ q ∈ r.su, q ∈ fam.map (·.c) := fun r hr q hq => by
    have h7 : r.c < 7 := by have := hnames.mem_iff.mp (List.mem_map.mpr ⟨r, hr, rfl⟩); simpa using this
    have := D0.suLt r.c h7 q (by rw [suOf_mem nc hr]; exact hq)
    exact hnames.mem_iff.mpr (by simpa using this)
  refine callF T.fdealt T.lim (lt_z hd) S (BindsTo.of_eq rfl) fun h1 L tk1 S1 => ?_
  have S1 := S1.renm (l' := [("sorter", .ref x), ("ranks", .ref rk)]) ⟨rfl, rfl, trivial⟩
  -- heap, told, ring = [], [], False
  refine wpAny_execs_cons (Assign_Tuple_swapped (names := ["heap", "told", "ring"]) (Tuple_ (spliced_cons (eNil S1 fun hA h2 S2 => spliced_cons (eNil S2 fun tA h3 S3 => spliced_cons (cBool (env := callEnv fdDealt L 218) (k := 0) (pos := ⟨0, 0, 0, 0⟩) (spliced_nil (wpAny_newTuple ?_))))))))
  have S4 : Sym H (h3.push { cls := .type "tuple", data := .seq [Value.ref hA, .ref tA, .bool false].toArray }) ((h3.objs.size, tupP [.ref hA, .ref tA, .bool false]) :: (tA, lstP []) :: (hA, lstP []) :: (L, nsP [("sorter", .ref x), ("ranks", .ref rk)]) :: (sortL w x dx nd .none 0 t1 0 t2 fam ++ ((rk, dctP w rkv) :: G))) := S3.push rfl ⟨0, rfl⟩
  refine unpT (A := A.deeper (callEnv fdDealt L 218)) hh S4 (.head _) rfl fun h5 S5 => ?_
  have S5 := S5.tail.front 2 rfl
  refine assignInOrder_cons (wpAny_bindName (stL S5 fun h6 tk6 S6 => assignInOrder_cons (wpAny_bindName (stL S6 fun h7 tk7 S7 => assignInOrder_cons (wpAny_bindName (stL S7 fun h8 tk8 S8 => assignInOrder_nil ?_))))))
  have S8 : Sym H h8 ((L, nsP [("heap", .ref hA), ("told", .ref tA), ("ring", .bool false), ("sorter", .ref x), ("ranks", .ref rk)]) :: (tA, lstP []) :: (hA, lstP []) :: (sortL w x dx nd .none 0 t1 0 t2 fam ++ ((rk, dctP w rkv) :: G))) := S8
  have hfX : ∀ l, FrIn ((L, nsP l) :: G) (callEnv fdDealt L 218 :: outer) := by
    intro l env he
    cases he with
    | head =>
      have e : (callEnv fdDealt L 218).scope.kind = .function := rfl
      exact ⟨by rw [e]; decide, L, l, rfl, .head _⟩
    | tail _ he =>
      obtain ⟨h1, L', l', h2, h3⟩ := hfi env he
      exact ⟨h1, L', l', h2, .tail _ h3⟩
  refine cutO (fun s' => ∃ h' tk' ra ring l, s' = ⟨h', g, d, tk', os⟩ ∧ Sym H h' ((L, nsP l) :: (tA, lstP []) :: (hA, lstP []) :: (sortL w x dx nd (.ref ra) 0 t1 0 t2 fam ++ ((ra, lnP (readyOf (fam.map (·.abs)))) :: (rk, dctP w rkv) :: G))) ∧
    NsHas l [("heap", .ref hA), ("told", .ref tA), ("ring", .bool ring), ("sorter", .ref x), ("ranks", .ref rk)] ∧ (ring = true → ∃ Rg, Ring (suOf (fam.map (·.abs))) Rg) ∧ (ring = false → ∃ dn, Topo (suOf (fam.map (·.abs))) dn ∧ ∀ c < 7, c ∈ dn)) ?_ ?_
  · intro J hJ
    refine wpAny_Try_except ?_
    refine wpAny_execs_cons (wpAny_Expr (eMeth (dx := dx) T.toTopS S8 rfl (.tail _ (.tail _ (.head _))) (.tail _ (.tail _ (.tail _ (.head _)))) rfl (by decide) T.fprep (spliced_nil ⟨S8.keep, ?_⟩)))
    have S9 := S8.slip (X := [_, _, _]) (Y := sortL w x dx nd .none 0 t1 0 t2 fam)
    refine prep_spec T.toTopC (by exact (show A.depth + 9 < _ from lt_w hd)) hh (Around.frames_deeper hfr) S9 ((hfX [("heap", .ref hA), ("told", .ref tA), ("ring", .bool false), ("sorter", .ref x), ("ranks", .ref rk)]).sub fun p hp => ?_) nc hsu0 (by omega) (fun r hr => ?_) ?_ ?_
    · cases hp with
      | head => exact .head _
      | tail _ hp => exact .tail _ (.tail _ (.tail _ (.tail _ hp)))
    · have := hl2 r.c
      rw [suOf_mem nc hr] at this
      exact Nat.le_trans this (by decide)
    · intro h10 tk10 ra dn htopo hall S10
      refine wpAny_execs_nil (wpAny_execs_nil ⟨rfl, hJ _ ⟨h10, _, ra, false, [("heap", .ref hA), ("told", .ref tA), ("ring", .bool false), ("sorter", .ref x), ("ranks", .ref rk)], rfl, S10.perm ?_, ⟨rfl, rfl, rfl, rfl, rfl, trivial⟩, (fun q => by cases q), fun _ => ⟨dn, htopo, fun c hc => hall c (hnames.mem_iff.mpr (by simpa using hc))⟩⟩⟩)
      ((refine perm_sum fun _ => ?_; (try simp only [locals_eq, List.append_eq, sortL, famL_app, famL_cons, famL_nil, NodeR.ent, List.cons_append, List.nil_append, List.append_assoc, List.eraseIdx_cons_succ, List.eraseIdx_cons_zero]); (try simp only [List.map_append, List.map_cons, List.map_nil, List.sum_append, List.sum_cons, List.sum_nil, Nat.add_zero, Nat.zero_add, Nat.add_assoc]); (try ac_rfl)); try omega)
    · intro h10 tk10 ra ex Tb Rg hR S10
      have S10 : Sym H h10 ((ex, excT (.ref 83) Tb) :: (Tb, tbP) :: ((L, nsP [("heap", .ref hA), ("told", .ref tA), ("ring", .bool false), ("sorter", .ref x), ("ranks", .ref rk)]) :: (tA, lstP []) :: (hA, lstP []) :: (sortL w x dx nd (.ref ra) 0 t1 0 t2 fam ++ ((ra, lnP (readyOf (fam.map (·.abs)))) :: (rk, dctP w rkv) :: G)))) := S10.perm (by ((refine perm_sum fun _ => ?_; (try simp only [locals_eq, List.append_eq, sortL, famL_app, famL_cons, famL_nil, NodeR.ent, List.cons_append, List.nil_append, List.append_assoc, List.eraseIdx_cons_succ, List.eraseIdx_cons_zero]); (try simp only [List.map_append, List.map_cons, List.map_nil, List.sum_append, List.sum_cons, List.sum_nil, Nat.add_zero, Nat.zero_add, Nat.add_assoc]); (try ac_rfl)); try omega))
      refine noteNext (Around.frames_deeper hfr) ((hfX [("heap", .ref hA), ("told", .ref tA), ("ring", .bool false), ("sorter", .ref x), ("ranks", .ref rk)]).sub fun p hp => ?_) S10 fun h11 T2 S11 => caughtCyc T.toTopC S11 fun h12 S12 => ?_
      · cases hp with
        | head => exact .head _
        | tail _ hp => exact .tail _ (.tail _ (.tail _ (List.mem_append_right _ (.tail _ (.tail _ hp)))))
      · have S12 := S12.tail.tail
        refine wpAny_execs_cons (wpAny_Assign_Name (cBool (stL S12 fun h13 tk13 S13 => wpAny_execs_nil ?_)))
        exact ⟨rfl, hJ _ ⟨h13, _, ra, true, _, rfl, S13, ⟨rfl, rfl, rfl, rfl, rfl, trivial⟩, fun _ => ⟨Rg, hR⟩, (fun q => by cases q)⟩⟩
  · rintro _ ⟨h', tk', ra, ring, l, rfl, S', hns, hring1, hring2⟩
    have S' := S'.renm hns
    refine wpAny_execs_cons (wpAny_While ?_)
    refine whileO (fun n s' => ∃ h' tk' fam' rs vs key told p f t1 t2 GI l, s' = ⟨h', g, d, tk', os⟩ ∧ n = 7 - told.length ∧ Sym H h' ((L, nsP l) :: (hA, lstP vs) :: (tA, lnP told) :: (sortL w x dx nd (.ref ra) p t1 f t2 fam' ++ ((ra, lnP rs) :: (GI ++ ((rk, dctP w rkv) :: G))))) ∧
      NsHas l [("heap", .ref hA), ("told", .ref tA), ("ring", .bool ring), ("sorter", .ref x), ("ranks", .ref rk)] ∧ Hp rank GI key vs ∧ Deal needs (fam'.map (·.abs)) rs (vs.map fun v => (key v).2) told ∧ DuePre rank needs told ∧ p - f = vs.length ∧ (∀ c, (suOf (fam'.map (·.abs)) c).length ≤ 800)) ?_ _
      ⟨h', _, fam, readyOf (fam.map (·.abs)), [], fun _ => (0, 0), [], 0, 0, t1, t2, [], [("heap", .ref hA), ("told", .ref tA), ("ring", .bool ring), ("sorter", .ref x), ("ranks", .ref rk)], rfl, rfl, ?_, ⟨rfl, rfl, rfl, rfl, rfl, trivial⟩, ⟨fun i _ hi => by simp at hi, fun v hv => by simp at hv, fun v hv => by simp at hv⟩, D0, .nil, rfl, hl2⟩
    · clear S' hns S8 S5 S4 S3 S2
      rintro n s' ⟨h', tk', fam', rs, vs, key, told, p, f, t1, t2, GI, l, rfl, rfl, S', hns, hhp, D, hpre, hpf, hl2⟩ Y Z hY hZ
      have S' := S'.renm hns
      have hnames' : (fam'.map (·.c)).Perm (List.range 7) := by have := D.nodes; rwa [names_abs] at this
      have nc' : (fam'.map (·.c)).Nodup := hnames'.nodup_iff.mpr List.nodup_range
      have hlen := D.len
      simp only [List.length_map] at hlen
      have hrs9 : rs.length ≤ 900 := Nat.le_trans (Nat.le_add_left _ _) (Nat.le_trans (Nat.le_add_left _ _) (Nat.le_trans hlen (by decide)))
      refine isEx (eMeth (dx := dx) T.toTopS S' rfl (.tail _ (.tail _ (.head _))) (.tail _ (.tail _ (.tail _ (.head _)))) rfl (by decide) T.factive (spliced_nil ⟨S'.keep, ?_⟩))
      refine active_spec T.toTopM (by exact (show A.depth + 6 < _ from lt_w hd)) ((S'.slip (X := [_, _, _]) (Y := sortL w x dx nd (.ref ra) p t1 f t2 fam')).perm (List.Perm.append_left _ perm4d)) hrs9 fun h2 tk2 S2 => wpAny_truthy_bool ?_
      have S2 : Sym H h2 ((L, nsP [("heap", .ref hA), ("told", .ref tA), ("ring", .bool ring), ("sorter", .ref x), ("ranks", .ref rk)]) :: (hA, lstP vs) :: (tA, lnP told) :: (sortL w x dx nd (.ref ra) p t1 f t2 fam' ++ ((ra, lnP rs) :: (GI ++ ((rk, dctP w rkv) :: G))))) := S2.perm (by ((refine perm_sum fun _ => ?_; (try simp only [locals_eq, List.append_eq, sortL, famL_app, famL_cons, famL_nil, NodeR.ent, List.cons_append, List.nil_append, List.append_assoc, List.eraseIdx_cons_succ, List.eraseIdx_cons_zero]); (try simp only [List.map_append, List.map_cons, List.map_nil, List.sum_append, List.sum_cons, List.sum_nil, Nat.add_zero, Nat.zero_add, Nat.add_assoc]); (try ac_rfl)); try omega))
      by_cases hact : f < p ∨ rs ≠ []
      · refine itT (by
          rcases hact with q | q
          · simp [q]
          · cases rs with
            | nil => exact absurd rfl q
            | cons _ _ => simp) ?_
        -- what is ready goes on the heap
        have hfor := S2.slip (X := [_, _, _]) (Y := sortL w x dx nd (.ref ra) p t1 f t2 fam')
        refine cutO (fun s' => ∃ h' tk' fam'' vs' key' t1' GI' l, s' = ⟨h', g, d, tk', os⟩ ∧ Sym H h' ((L, nsP l) :: (hA, lstP vs') :: (tA, lnP told) :: (sortL w x dx nd (.ref ra) (p + rs.length) t1' f t2 fam'' ++ ((ra, lnP []) :: (GI' ++ ((rk, dctP w rkv) :: G))))) ∧
          NsHas l [("heap", .ref hA), ("told", .ref tA), ("ring", .bool ring), ("sorter", .ref x), ("ranks", .ref rk)] ∧ Hp rank GI' key' vs' ∧ vs'.length = vs.length + rs.length ∧ (vs'.map fun v => (key' v).2).Perm ((vs.map fun v => (key v).2) ++ rs) ∧
          fam''.map (·.abs) = rs.foldl outOne (fam'.map (·.abs))) ?_ ?_
        · intro J hJ
          refine wpAny_For (eMeth (dx := dx) T.toTopS S2 rfl (.tail _ (.tail _ (.head _))) (.tail _ (.tail _ (.tail _ (.head _)))) rfl (by decide) T.fready (spliced_nil ⟨S2.keep, ?_⟩))
          refine ready_spec T.toTopM (A := A.deeper (callEnv fdDealt L 218)) (by exact (show A.depth + 6 < _ from lt_w hd)) hh (hfor.perm (List.Perm.append_left _ perm4d)) nc' hrs9 (fun c hc => hnames'.mem_iff.mpr (by simpa using ((D.free c).mp (.inr hc)).1)) fun h3 tk3 fam3 ta vt t3 ea3 ec3 hnt S3 => ?_
          refine iterT S3 (.head _) fun it h4 S4 => ?_
          have S4 : Sym H h4 ((L, nsP [("heap", .ref hA), ("told", .ref tA), ("ring", .bool ring), ("sorter", .ref x), ("ranks", .ref rk)]) :: (hA, lstP vs) :: (it, itP "tuple_iterator" ta 0) :: (ta, tupP vt) :: (tA, lnP told) :: (sortL w x dx nd (.ref ra) (p + rs.length) t3 f t2 fam3 ++ ((ra, lnP []) :: (GI ++ ((rk, dctP w rkv) :: G))))) := S4.perm (by ((refine perm_sum fun _ => ?_; (try simp only [locals_eq, List.append_eq, sortL, famL_app, famL_cons, famL_nil, NodeR.ent, List.cons_append, List.nil_append, List.append_assoc, List.eraseIdx_cons_succ, List.eraseIdx_cons_zero]); (try simp only [List.map_append, List.map_cons, List.map_nil, List.sum_append, List.sum_cons, List.sum_nil, Nat.add_zero, Nat.zero_add, Nat.add_assoc]); (try ac_rfl)); try omega))
          refine forN (fun m s' => ∃ h' tk' i vs' key' GI' l, s' = ⟨h', g, d, tk', os⟩ ∧ m = rs.length - i ∧ i ≤ rs.length ∧ Sym H h' ((L, nsP l) :: (hA, lstP vs') :: (it, itP "tuple_iterator" ta i) :: (ta, tupP vt) :: (tA, lnP told) :: (sortL w x dx nd (.ref ra) (p + rs.length) t3 f t2 fam3 ++ ((ra, lnP []) :: (GI' ++ ((rk, dctP w rkv) :: G))))) ∧
            NsHas l [("heap", .ref hA), ("told", .ref tA), ("ring", .bool ring), ("sorter", .ref x), ("ranks", .ref rk)] ∧ Hp rank GI' key' vs' ∧ vs'.length = vs.length + i ∧ (vs'.map fun v => (key' v).2).Perm ((vs.map fun v => (key v).2) ++ rs.take i)) ?_ rs.length
            ⟨h4, _, 0, vs, key, GI, _, rfl, rfl, Nat.zero_le _, S4, ⟨rfl, rfl, rfl, rfl, rfl, trivial⟩, hhp, rfl, by simp⟩
          rintro m s' ⟨h', tk', i, vs', key', GI', l, rfl, rfl, hi, S5, hns5, hhp5, hlen5, hperm5⟩ Y1 Z1 hY1 hZ1
          have S5 := (S5.renm hns5).front 2 rfl
          cases hri : rs[i]? with
          | none =>
            refine endT (A := A.deeper (callEnv fdDealt L 218)) hh S5 (.tail _ (.tail _ (.head _))) (by rw [List.getElem?_eq_none_iff] at hri ⊢; rw [hnt.length]; exact hri) fun h6 S6 => wpAny_execs_nil (hZ1 _ _ ?_)
            have hge := List.getElem?_eq_none_iff.mp hri
            refine ⟨rfl, hJ _ ⟨h6, _, fam3, vs', key', t3, GI', [("heap", .ref hA), ("told", .ref tA), ("ring", .bool ring), ("sorter", .ref x), ("ranks", .ref rk)], rfl, ?_, ⟨rfl, rfl, rfl, rfl, rfl, trivial⟩, hhp5, by omega, by rw [List.take_of_length_le hge] at hperm5; exact hperm5, ea3⟩⟩
            exact (S6.front 2 rfl).tail
          | some c =>
            have hlt := (List.getElem?_eq_some_iff.mp hri).1
            obtain ⟨tc, htc⟩ := hnt.get' hri
            have hc7 : c < 7 := ((D.free c).mp (.inr (List.mem_of_getElem? hri))).1
            obtain ⟨tr, htr⟩ := hrk c hc7
            refine nextT S5 (.tail _ (.tail _ (.head _))) htc fun h6 S6 => ?_
            refine wpAny_assign_Name (stL S6.swap fun h7 tk7 S7 => ?_)
            have hmrk : (rk, dctP w rkv) ∈ (L, nsP [("name", .str (nm c) tc), ("heap", .ref hA), ("told", .ref tA), ("ring", .bool ring), ("sorter", .ref x), ("ranks", .ref rk)]) :: (it, itP "tuple_iterator" ta (i + 1)) :: (hA, lstP vs') :: (ta, tupP vt) :: (tA, lnP told) :: (sortL w x dx nd (.ref ra) (p + rs.length) t3 f t2 fam3 ++ ((ra, lnP []) :: (GI' ++ ((rk, dctP w rkv) :: G)))) := by
              simp
            refine wpAny_execs_cons (wpAny_Expr (eCallF T.push T.toGlobs S7.keep rfl (spliced_cons (ldL S7 rfl (spliced_cons (List_ (spliced_cons (Subscript_ (ldL S7 rfl (ldL S7 rfl (dSub S7 hmrk htr fun tk8 => spliced_cons (ldL S7 rfl (spliced_nil (wpAny_newList ?_))))))))))))))
            have S9 : Sym H (h7.push { cls := .type "list", data := .seq [Value.int (rank c) tr, .str (nm c) tc].toArray }) ((h7.objs.size, lstP [.int (rank c) tr, .str (nm c) tc]) :: (L, nsP [("name", .str (nm c) tc), ("heap", .ref hA), ("told", .ref tA), ("ring", .bool ring), ("sorter", .ref x), ("ranks", .ref rk)]) :: (it, itP "tuple_iterator" ta (i + 1)) :: (hA, lstP vs') :: (ta, tupP vt) :: (tA, lnP told) :: (sortL w x dx nd (.ref ra) (p + rs.length) t3 f t2 fam3 ++ ((ra, lnP []) :: (GI' ++ ((rk, dctP w rkv) :: G))))) := S7.push rfl ⟨0, rfl⟩
            obtain ⟨b, hb⟩ : ∃ b : Addr, h7.objs.size = b := ⟨_, rfl⟩
            rw [hb] at S9 ⊢
            refine spliced_nil ⟨S9.keep, ?_⟩
            have S10 : Sym H (h7.push { cls := .type "list", data := .seq [Value.int (rank c) tr, .str (nm c) tc].toArray }) ((hA, lstP vs') :: (((b, lstP [.int (rank c) tr, .str (nm c) tc]) :: GI') ++ ((L, nsP [("name", .str (nm c) tc), ("heap", .ref hA), ("told", .ref tA), ("ring", .bool ring), ("sorter", .ref x), ("ranks", .ref rk)]) :: (it, itP "tuple_iterator" ta (i + 1)) :: (ta, tupP vt) :: (tA, lnP told) :: (sortL w x dx nd (.ref ra) (p + rs.length) t3 f t2 fam3 ++ ((ra, lnP []) :: (rk, dctP w rkv) :: G))))) := S9.perm (by ((refine perm_sum fun _ => ?_; (try simp only [locals_eq, List.append_eq, sortL, famL_app, famL_cons, famL_nil, NodeR.ent, List.cons_append, List.nil_append, List.append_assoc, List.eraseIdx_cons_succ, List.eraseIdx_cons_zero]); (try simp only [List.map_append, List.map_cons, List.map_nil, List.sum_append, List.sum_cons, List.sum_nil, Nat.add_zero, Nat.zero_add, Nat.add_assoc]); (try ac_rfl)); try omega))
            have hfresh : ∀ v ∈ vs', v ≠ .ref b := by
              intro v hv e
              obtain ⟨b', t', u', rfl, m'⟩ := hhp5.item v hv
              cases e
              have := S9.nd
              rw [List.map_cons, List.nodup_cons] at this
              exact this.1 (List.mem_map.mpr ⟨_, .tail _ (.tail _ (.tail _ (.tail _ (.tail _ (List.mem_append_right _ (.tail _ (List.mem_append_left _ m'))))))), rfl⟩)
            have hit : ∀ v ∈ vs', IsItem ((b, lstP [.int (rank c) tr, .str (nm c) tc]) :: GI') v ((fun v => if v = Value.ref b then (rank c, c) else key' v) v).1 ((fun v => if v = Value.ref b then (rank c, c) else key' v) v).2 := by
              intro v hv
              dsimp only
              rw [if_neg (hfresh v hv)]
              exact (hhp5.item v hv).tail
            have hitx : IsItem ((b, lstP [.int (rank c) tr, .str (nm c) tc]) :: GI') (.ref b) ((fun v => if v = Value.ref b then (rank c, c) else key' v) (.ref b)).1 ((fun v => if v = Value.ref b then (rank c, c) else key' v) (.ref b)).2 := by
              dsimp only
              rw [if_pos rfl]
              exact ⟨b, tr, tc, rfl, .head _⟩
            have up : ∀ {G1 G2 : Led} {v r' c'}, IsItem G1 v r' c' → IsItem (G1 ++ G2) v r' c' := fun ⟨b, t, u, e, m⟩ => ⟨b, t, u, e, List.mem_append_left _ m⟩
            have hheap' : IsHeap (fun v => if v = Value.ref b then (rank c, c) else key' v) vs' := hhp5.heap.congr fun v hv => by rw [if_neg (hfresh v hv)]
            refine push_spec (key := fun v => if v = Value.ref b then (rank c, c) else key' v) (x := .ref b) T.toTopQ (by exact (show A.depth + 2 < _ from lt_w hd)) (by exact (show A.units + 23 < _ from lt_w hu)) S10 (by omega) (fun v hv => up (hit v hv)) (up hitx) fun h11 tk11 S11 => ?_
            obtain ⟨pp, ph⟩ := push_ok (key := fun v => if v = Value.ref b then (rank c, c) else key' v) (x := .ref b) hheap'
            refine wpAny_execs_nil (hY1 _ _ ⟨rs.length - (i + 1), Nat.sub_succ_lt_self _ _ hlt, h11, _, i + 1, _, _, (b, lstP [.int (rank c) tr, .str (nm c) tc]) :: GI', [("name", .str (nm c) tc), ("heap", .ref hA), ("told", .ref tA), ("ring", .bool ring), ("sorter", .ref x), ("ranks", .ref rk)], rfl, rfl, hlt, S11.perm (by ((refine perm_sum fun _ => ?_; (try simp only [locals_eq, List.append_eq, sortL, famL_app, famL_cons, famL_nil, NodeR.ent, List.cons_append, List.nil_append, List.append_assoc, List.eraseIdx_cons_succ, List.eraseIdx_cons_zero]); (try simp only [List.map_append, List.map_cons, List.map_nil, List.sum_append, List.sum_cons, List.sum_nil, Nat.add_zero, Nat.zero_add, Nat.add_assoc]); (try ac_rfl)); try omega)), ⟨rfl, rfl, rfl, rfl, rfl, trivial⟩, ⟨ph, ?_, ?_⟩, ?_, ?_⟩)
            · intro v hv
              rcases List.mem_append.mp (pp.mem_iff.mp hv) with q | q
              · exact hit v q
              · rw [List.mem_singleton.mp q]; exact hitx
            · intro v hv
              rcases List.mem_append.mp (pp.mem_iff.mp hv) with q | q
              · simp only [hfresh v q, if_false]; exact hhp5.rk v q
              · rw [List.mem_singleton.mp q]; simp
            · rw [pp.length_eq]; simp; omega
            · refine (pp.map _).trans ?_
              rw [List.map_append]
              have e1 : vs'.map (fun v => ((fun v => if v = Value.ref b then (rank c, c) else key' v) v).2) = vs'.map fun v => (key' v).2 := List.map_congr_left fun v hv => by dsimp only; rw [if_neg (hfresh v hv)]
              have e2 : [Value.ref b].map (fun v => ((fun v => if v = Value.ref b then (rank c, c) else key' v) v).2) = [c] := by simp
              rw [e1, e2, List.take_add_one, hri]
              simp only [Option.toList]
              rw [← List.append_assoc]
              exact hperm5.append_right [c]
        · -- the least is dealt out
          clear S2 hfor S' hns
          rintro _ ⟨h', tk', fam2, vs2, key2, t1', GI2, l, rfl, S6, hns6, hhp6, hlen6, hperm6, ea6⟩
          have S6 := S6.renm hns6
          have D2 : Deal needs (fam2.map (·.abs)) [] (vs2.map fun v => (key2 v).2) told := by rw [ea6]; exact D.ready.permH hperm6.symm
          have hsu2 : ∀ c, (suOf (fam2.map (·.abs)) c).length ≤ 800 := fun c => by rw [ea6, (out_fold rs _).2.1]; exact hl2 c
          have hpos : 0 < vs2.length := by
            rcases hact with q | q
            · omega
            · have : 0 < rs.length := List.length_pos_iff.mpr q
              omega
          obtain ⟨init, last, hv2⟩ : ∃ init last, vs2 = init ++ [last] := by
            cases hv : vs2.reverse with
            | nil => rw [List.reverse_eq_nil_iff.mp hv] at hpos; simp at hpos
            | cons v r => exact ⟨r.reverse, v, by rw [← List.reverse_reverse vs2, hv]; simp⟩
          subst hv2
          obtain ⟨pp, ph, pm'⟩ := pop_ok hhp6.heap
          have hvin : (popR key2 init last).1 ∈ init ++ [last] := pp.mem_iff.mp (.head _)
          have hil : init.length ≤ 20 := by simp at hlen6; omega
          refine wpAny_execs_cons (Assign_Tuple (eCallF T.pop T.toGlobs S6.keep rfl (spliced_cons (ldL S6 rfl (spliced_nil ⟨S6.keep, ?_⟩)))))
          have up2 : ∀ {v r' c'}, IsItem GI2 v r' c' → IsItem ((L, nsP [("heap", .ref hA), ("told", .ref tA), ("ring", .bool ring), ("sorter", .ref x), ("ranks", .ref rk)]) :: (tA, lnP told) :: (sortL w x dx nd (.ref ra) (p + rs.length) t1' f t2 fam2 ++ ((ra, lnP []) :: (GI2 ++ ((rk, dctP w rkv) :: G))))) v r' c' :=
            fun ⟨b, t, u, e, m⟩ => ⟨b, t, u, e, .tail _ (.tail _ (List.mem_append_right _ (.tail _ (List.mem_append_left _ m))))⟩
          refine pop_spec (key := key2) (init := init) (last := last) T.toTopQ (by exact (show A.depth + 3 < _ from lt_w hd)) (by exact (show A.units + 33 < _ from lt_w hu)) S6.swap (by omega) (fun v hv => up2 (hhp6.item v hv)) fun h7 tk7 S7 => ?_
          obtain ⟨b, tr, tc, hvb, hmb⟩ := hhp6.item _ hvin
          have hvk := hhp6.rk _ hvin
          -- its key
          generalize hc : (key2 (popR key2 init last).1).2 = c at hvk hmb
          generalize hr : (key2 (popR key2 init last).1).1 = rr at hvk hmb
          generalize hv3 : (popR key2 init last).2 = vs3 at S7 pp ph
          generalize hv : (popR key2 init last).1 = v at hvb pp pm' hvin hc hr ⊢
          subst hvb
          have S7 := S7.swap
          refine asgT (A := A.deeper (callEnv fdDealt L 218)) hh S7 (vs := [.int rr tr, .str (nm c) tc]) (.tail _ (.tail _ (.tail _ (List.mem_append_right _ (.tail _ (List.mem_append_left _ hmb)))))) rfl rfl fun h8 S8 => ?_
          refine assignInOrder_cons (wpAny_assign_Name (stL S8 fun h9 tk9 S9 => assignInOrder_cons (wpAny_assign_Name (stL S9 fun h10 tk10 S10 => assignInOrder_nil ?_))))
          obtain ⟨ob, o1, o2, o3⟩ := S10.isObjN (a := tA) (.tail _ (.tail _ (.head _)))
          refine wpAny_execs_cons (wpAny_Expr (appendN (ldL S10 rfl ⟨tA, ob, rfl, o1, o2, o3, ldL S10 rfl ⟨told, c, tc, H, _, rfl, by omega, S10.front 2 rfl, fun h11 S11 => ?_⟩⟩)))
          have S11 := S11.front 1 rfl
          have D3 : Deal needs (fam2.map (·.abs)) [] (c :: vs3.map fun v => (key2 v).2) told := D2.permH (by
            have := (pp.map fun v => (key2 v).2).symm
            rw [List.map_cons, hc] at this
            exact this)
          have hnames2 : (fam2.map (·.c)).Perm (List.range 7) := by have := D2.nodes; rwa [names_abs] at this
          have nc2 : (fam2.map (·.c)).Nodup := hnames2.nodup_iff.mpr List.nodup_range
          have hcf := (D3.free c).mp (.inl (.head _))
          obtain ⟨r₀, hr₀, hcr₀, _⟩ := find_c (fam := fam2) (c := c) (hnames2.mem_iff.mpr (by simpa using hcf.1))
          have hnp : r₀.np = -1 := by
            have := D3.npH c (.head _)
            rw [← hcr₀, npOf_mem nc2 hr₀] at this
            exact this
          have hsr : r₀.su = suOf (fam2.map (·.abs)) c := by rw [← hcr₀, suOf_mem nc2 hr₀]
          refine wpAny_execs_cons (wpAny_Expr (eMeth (dx := dx) T.toTopS S11 rfl (.tail _ (.tail _ (.head _))) (.tail _ (.tail _ (.tail _ (.head _)))) rfl (by decide) T.fdone (spliced_cons (ldL S11 rfl (spliced_nil ⟨S11.keep, ?_⟩)))))
          have S12 : Sym H h11 (sortL w x dx nd (.ref ra) (p + rs.length) t1' f t2 fam2 ++ ((ra, lnP []) :: ((L, nsP [("name", .str (nm c) tc), ("rank", .int rr tr), ("heap", .ref hA), ("told", .ref tA), ("ring", .bool ring), ("sorter", .ref x), ("ranks", .ref rk)]) :: (tA, lnP (told ++ [c])) :: (hA, lstP vs3) :: (GI2 ++ ((rk, dctP w rkv) :: G))))) := S11.perm (by ((refine perm_sum fun _ => ?_; (try simp only [locals_eq, List.append_eq, sortL, famL_app, famL_cons, famL_nil, NodeR.ent, List.cons_append, List.nil_append, List.append_assoc, List.eraseIdx_cons_succ, List.eraseIdx_cons_zero]); (try simp only [List.map_append, List.map_cons, List.map_nil, List.sum_append, List.sum_cons, List.sum_nil, Nat.add_zero, Nat.zero_add, Nat.add_assoc]); (try ac_rfl)); try omega))
          refine done_spec T.toTopM (A := A.deeper (callEnv fdDealt L 218)) (by exact (show A.depth + 6 < _ from lt_w hd)) hh S12 nc2 hr₀ hcr₀ hnp (fun q hq => ?_) (by have := hsu2 c; rw [hsr]; simp; omega) fun h13 tk13 fam4 rs4 t4 ec4 es4 S13 => ?_
          · rw [hsr] at hq
            exact hnames2.mem_iff.mpr (by simpa using D3.suLt c hcf.1 q hq)
          · have e4 : fam4.map (·.abs) = (doneS c (fam2.map (·.abs)) []).1 := congrArg Prod.fst es4
            have e5 : rs4 = (doneS c (fam2.map (·.abs)) []).2 := congrArg Prod.snd es4
            have hlen3 : vs3.length + 1 = (init ++ [last]).length := by have := pp.length_eq; simpa using this
            have hsub : ∀ v' ∈ vs3, v' ∈ init ++ [last] := fun v' hv' => pp.mem_iff.mp (.tail _ hv')
            refine wpAny_execs_nil (hY _ _ ⟨7 - (told ++ [c]).length, ?_, h13, _, fam4, rs4, vs3, key2, told ++ [c], p + rs.length, f + 1, t1', t4, GI2, [("name", .str (nm c) tc), ("rank", .int rr tr), ("heap", .ref hA), ("told", .ref tA), ("ring", .bool ring), ("sorter", .ref x), ("ranks", .ref rk)], rfl, rfl, S13.perm (by ((refine perm_sum fun _ => ?_; (try simp only [locals_eq, List.append_eq, sortL, famL_app, famL_cons, famL_nil, NodeR.ent, List.cons_append, List.nil_append, List.append_assoc, List.eraseIdx_cons_succ, List.eraseIdx_cons_zero]); (try simp only [List.map_append, List.map_cons, List.map_nil, List.sum_append, List.sum_cons, List.sum_nil, Nat.add_zero, Nat.zero_add, Nat.add_assoc]); (try ac_rfl)); try omega)), ⟨rfl, rfl, rfl, rfl, rfl, trivial⟩, ⟨ph, fun v' hv' => hhp6.item v' (hsub v' hv'), fun v' hv' => hhp6.rk v' (hsub v' hv')⟩, ?_, ?_, ?_, ?_⟩)
            · have := D3.len
              simp at this ⊢
              omega
            · rw [e4, e5]; exact D3.done
            · refine hpre.snoc ⟨hcf, fun c' hc' hne => ?_⟩
              rcases (D3.free c').mpr hc' with q | q
              · cases q with
                | head => exact absurd rfl hne
                | tail _ q =>
                  obtain ⟨v', hv', rfl⟩ := List.mem_map.mp q
                  have h1 := pm' v' (hsub v' hv')
                  have h2 := hhp6.rk v' (hsub v' hv')
                  simp only [keyLt, itemLt, decide_eq_false_iff_not, decide_eq_true_eq, hc, hr] at h1 ⊢
                  omega
              · cases q
            · simp at hlen6 hlen3
              omega
            · intro c'
              rw [e4, doneS_su]
              exact hsu2 c'
      · refine itF ?_ (wpAny_execs_nil (hZ _ _ ?_))
        · have h1 : ¬ f < p := fun q => hact (.inl q)
          have h2 : rs = [] := Classical.byContradiction fun q => hact (.inr q)
          simp [h1, h2]
        · have h1 : ¬ f < p := fun q => hact (.inl q)
          have h2 : rs = [] := Classical.byContradiction fun q => hact (.inr q)
          have h3 : vs = [] := List.eq_nil_of_length_eq_zero (by omega)
          subst h2 h3
          refine wpAny_execs_cons (wpAny_Return_some (Tuple_ (spliced_cons (ldL S2 rfl (spliced_cons (ldL S2 rfl (spliced_nil (wpAny_newTuple ?_))))))))
          have S3 : Sym H (h2.push { cls := .type "tuple", data := .seq [Value.ref tA, .bool ring].toArray }) ((h2.objs.size, tupP [.ref tA, .bool ring]) :: (L, nsP [("heap", .ref hA), ("told", .ref tA), ("ring", .bool ring), ("sorter", .ref x), ("ranks", .ref rk)]) :: (hA, lstP []) :: (tA, lnP told) :: (sortL w x dx nd (.ref ra) p t1 f t2 fam' ++ ((ra, lnP []) :: (GI ++ ((rk, dctP w rkv) :: G))))) := S2.push rfl ⟨0, rfl⟩
          refine k _ _ _ tA told ring ⟨hpre, fun c hc => ?_⟩ hring1 hring2 ?_
          · rcases (D.free c).mpr hc with q | q
            · cases q
            · cases q
          · refine (S3.sub (G' := (h2.objs.size, tupP [.ref tA, .bool ring]) :: (tA, lnP told) :: (rk, dctP w rkv) :: G) ?_)
            refine List.Sublist.cons_cons _ (List.Sublist.cons _ (List.Sublist.cons _ (List.Sublist.cons_cons _ ?_)))
            exact ((List.sublist_append_right GI _).trans (List.sublist_cons_self _ _)).trans (List.sublist_append_right _ _)
    · exact ((S'.front 1 rfl).lnClose .nil).perm (by ((refine perm_sum fun _ => ?_; (try simp only [locals_eq, List.append_eq, sortL, famL_app, famL_cons, famL_nil, NodeR.ent, List.cons_append, List.nil_append, List.append_assoc, List.eraseIdx_cons_succ, List.eraseIdx_cons_zero]); (try simp only [List.map_append, List.map_cons, List.map_nil, List.sum_append, List.sum_cons, List.sum_nil, Nat.add_zero, Nat.zero_add, Nat.add_assoc]); (try ac_rfl)); try omega))
end
end Mine

namespace Mine
open PySem PySem.Calls PyProof.Rows PySem.W
noncomputable def bestL (lt : Value → Value → Bool) (v : Value) (vs : List Value) : Value := vs.foldl (fun b x => if lt x b then x else b) v
noncomputable def strItP (x : Str) (i : Nat) (o : Obj) : Prop := ∃ t, o.cls = .type "str_ascii_iterator" ∧ o.data = .fields #[.str x t, .int i 0]
section
variable {K : Frag} {w : World} {A : Around} {E : Value → Shared → Prop} {H h h' : Heap} {G : Led} {env : Env} {outer : List Env} {g : Array GenState} {d : Drawn} {tk : Nat} {os : OsState} {a b x dx nd ra rk it : Addr} {vs us : List Value}
/-- a def with two cells, its parameters plain -/
theorem callF2 {fd : FuncData} {n1 n2 : Str} {args : List Value} {binds l : List (Str × Value)} {Q : Value → Shared → Prop} (hf : FnAt H a fd) (hl : H.NoLimit) (hroom : A.depth < recursionLimit)
    (S : Sym H h G) (hbind : bindArgs fd ⟨args, []⟩ = pure binds)
    (hcells : ∀ L, (callEnvC fd L a).cells = [(n2, L + 2), (n1, L + 1)]) (hne : (n1 == n2) = false) (hns : ∀ L, ∀ p ∈ l, bindL (callEnvC fd L a).kindOf binds (fun _ => none) p.1 = some p.2) (hnc : ∀ L, bindC (callEnvC fd L a).kindOf binds (fun _ => none) n1 = none ∧ bindC (callEnvC fd L a).kindOf binds (fun _ => none) n2 = none)
    (q : ∀ h' L tk', Sym H h' ((L, nsP l) :: (L + 1, cellP none) :: (L + 2, cellP none) :: G) →
      wpAny (model pw w) (A.deeper (callEnvC fd L a)) (execs (bodyOf fd) (callEnvC fd L a)) (fun f s' => Q (match f with | .ret v => v | _ => .none) s')
        NoE ⟨h', g, d, tk', os⟩)
    (hb : fd.body = .stmts (bodyOf fd) := by rfl) (hclo : fd.closure = [] := by rfl) (hloc : (binds.all fun x => decide (fd.scope.names.lookup x.1 = some .local)) = true := by rfl)
    (hco : fd.scope.isCoroutine = false := by rfl) (hgen : fd.scope.isGenerator = false := by rfl) (hk : fd.scope.kind = .function := by rfl) :
    wpAny (model pw w) A (call (.ref a) args) Q E ⟨h, g, d, tk, os⟩ := by
  obtain ⟨o, ho, hd⟩ := hf.at_
  refine wpAny_call (codeAny_call_cells hroom (S.keep _ _ ho) hd (hl.keeps S.keep) (hf.code.keeps S.keep) hb hbind hclo (fun x hx => .inl (of_decide_eq_true (List.all_eq_true.mp hloc x hx))) (fun s₁ X => ?_) hco hgen hk)
  obtain ⟨h₁, tk₁, rfl⟩ := X.toInCall.same
  have hcl := hcells h.objs.size
  have c1 := X.cell n1 (h.objs.size + 1) (by
    show (callEnvC fd h.objs.size a).cells.lookup n1 = _
    rw [hcl, List.lookup_cons, hne, List.lookup_cons, beq_self_eq_true])
  have c2 := X.cell n2 (h.objs.size + 2) (by
    show (callEnvC fd h.objs.size a).cells.lookup n2 = _
    rw [hcl, List.lookup_cons, beq_self_eq_true])
  obtain ⟨e1, e2⟩ := hnc h.objs.size
  obtain ⟨o1, p1, q1⟩ := c1
  obtain ⟨o2, p2, q2⟩ := c2
  have q1 : o1.data = .cell none := q1.trans (by rw [show bindC (callEnvC fd (⟨h, g, d, tk, os⟩ : Shared).heap.objs.size a).kindOf binds (fun _ => none) n1 = none from e1])
  have q2 : o2.data = .cell none := q2.trans (by rw [show bindC (callEnvC fd (⟨h, g, d, tk, os⟩ : Shared).heap.objs.size a).kindOf binds (fun _ => none) n2 = none from e2])
  obtain ⟨ob, eo, po⟩ := nsP.of (l := l) X.toInCall.ns (fun x v z => hns _ _ (mem_of_lookup z))
  have g1 : h.get? (h.objs.size + 1) = none := Heap.get?_none_of_le (by omega)
  have g2 : h.get? (h.objs.size + 2) = none := Heap.get?_none_of_le (by omega)
  have g0 := Sym.size_none h
  refine noE (q h₁ h.objs.size tk₁ ?_)
  refine ⟨fun b o e => X.toInCall.keep b o (S.keep b o e), fun p hp => ?_, fun p hp => ?_, ?_⟩
  · rcases List.mem_cons.mp hp with rfl | hp
    · exact ⟨ob, eo, po⟩
    · rcases List.mem_cons.mp hp with rfl | hp
      · exact ⟨o1, p1, q1⟩
      · rcases List.mem_cons.mp hp with rfl | hp
        · exact ⟨o2, p2, q2⟩
        · obtain ⟨o, e, p'⟩ := S.ent p hp
          exact ⟨o, X.toInCall.keep _ _ e, p'⟩
  · rcases List.mem_cons.mp hp with rfl | hp
    · exact S.none_of g0
    · rcases List.mem_cons.mp hp with rfl | hp
      · exact S.none_of g1
      · rcases List.mem_cons.mp hp with rfl | hp
        · exact S.none_of g2
        · exact S.new p hp
  · simp only [List.map_cons, List.nodup_cons, List.mem_cons, not_or]
    exact ⟨⟨(show ¬ (h.objs.size : Nat) = h.objs.size + 1 by omega), (show ¬ (h.objs.size : Nat) = h.objs.size + 2 by omega), S.fresh g0⟩, ⟨(show ¬ (h.objs.size + 1 : Nat) = h.objs.size + 2 by omega), S.fresh g1⟩, S.fresh g2, S.nd⟩
/-- a str of plain signs is walked -/
theorem iterS {x : Str} {t : Tok} {Q : Value → Shared → Prop} (hx : x.cps.all (· < 128) = true) (S : Sym H h G) (k : ∀ it h', Sym H h' ((it, strItP x 0) :: G) → Q (.ref it) ⟨h', g, d, tk, os⟩) :
    wpAny (model pw w) A (pyIter (.str x t)) Q E ⟨h, g, d, tk, os⟩ := wpAny_pyIter_ascii hx (k _ _ (S.push rfl ⟨t, rfl, rfl⟩))
theorem iterSelfS {x : Str} {i : Nat} {Q : Value → Shared → Prop} (S : Sym H h G) (m : (it, strItP x i) ∈ G) (k : Q (.ref it) ⟨h, g, d, tk, os⟩) : wpAny (model pw w) A (pyIter (.ref it)) Q E ⟨h, g, d, tk, os⟩ := by
  obtain ⟨o, e, t, p1, p2⟩ := S.get m
  exact wpAny_pyIter_striter_ascii (s := ⟨h, g, d, tk, os⟩) (i := i) ⟨o, e, p1, p2⟩ k
theorem nextS {x : Str} {i c : Nat} {Q : Option Value → Shared → Prop} (S : Sym H h ((it, strItP x i) :: G)) (hc : x.cps[i]? = some c) (k : ∀ h' t tk', Sym H h' ((it, strItP x (i + 1)) :: G) → Q (some (.str ⟨#[c]⟩ t)) ⟨h', g, d, tk', os⟩) :
    wpAny (model pw w) A (pyNext (.ref it)) Q E ⟨h, g, d, tk, os⟩ := by
  obtain ⟨o, e, t, p1, p2⟩ := S.head
  refine wpAny_pyNext_ascii_item (s := ⟨h, g, d, tk, os⟩) (i := i) ⟨o, e, p1, p2⟩ hc fun h' hi hs => ?_
  obtain ⟨o', e', p1', p2'⟩ := hi
  exact k h' _ _ (S.upd hs e' ⟨t, p1', p2'⟩)
theorem endS {x : Str} {i : Nat} {Q : Option Value → Shared → Prop} (hh : A.handled = none) (S : Sym H h ((it, strItP x i) :: G)) (hc : x.cps[i]? = none) (k : ∀ h', Sym H h' G → Q none ⟨h', g, d, tk, os⟩) :
    wpAny (model pw w) A (pyNext (.ref it)) Q E ⟨h, g, d, tk, os⟩ := by
  obtain ⟨o, e, t, p1, p2⟩ := S.head
  exact wpAny_pyNext_ascii_end (s := ⟨h, g, d, tk, os⟩) hh (i := i) ⟨o, e, p1, p2⟩ hc fun h' hi => k h' (S.extTail hi)
/-- the loop of `min` -/
theorem min_loop {lt : Value → Value → Bool} {Q : Value → Shared → Prop} (hh : A.handled = none) (m : (a, lstP vs) ∈ G)
    (hcmp : ∀ v ∈ vs, ∀ v' ∈ vs, ∀ (h : Heap) (Q : Value → Shared → Prop) (E : Value → Shared → Prop), Sym H h G → Q (.bool (lt v v')) ⟨h, g, d, tk, os⟩ → wpAny (model pw w) A.in1 (richCompare .Lt v v') Q E ⟨h, g, d, tk, os⟩) {sA : Addr} :
    ∀ (n j : Nat) (h : Heap) (vb : Value), vs.length - (j + 1) = n → j + 1 ≤ vs.length → vb ∈ vs → Sym H h ((it, itP "list_iterator" a (j + 1)) :: (sA, lstP [vb, vb]) :: G) →
    (∀ h', Sym H h' G → Q (bestL lt vb (vs.drop (j + 1))) ⟨h', g, d, tk, os⟩) →
    codeAny (model pw w) A (.builtin "min.loop" ⟨[.ref it, .none, .ref sA], []⟩) (wants Q E) ⟨h, g, d, tk, os⟩ := by
  have hname : (toString "min" ++ toString ".loop" : String) = "min.loop" := by decide
  intro n
  induction n with
  | zero =>
    intro j h vb hn hj hvb S k
    refine codeAny_builtin PySem.F.entry_min_loop ?_
    rw [Around.under_plainId PySem.F.plain_min_loop _]
    obtain ⟨c, hS⟩ := S.lst (.tail _ (.head _))
    unfold IsL at hS
    show wpAny _ A.in1 (seqItems? (.ref sA) >>= _) _ _ _
    refine wpAny_bind (wpAny_seqItems hS rfl ?_)
    show wpAny _ A.in1 (tryCatch (pyNext (.ref it)) _ >>= _) _ _ _
    refine wpAny_bind (wpAny_tryCatch (endL (A := A.in1) hh S (.tail _ m) (by rw [List.getElem?_eq_none_iff]; omega) fun h' S' => ?_))
    obtain ⟨c', hS'⟩ := S'.lst (.head _)
    unfold IsL at hS'
    show wpAny _ A.in1 (updateSeq sA (fun _ => #[]) >>= _) _ _ _
    refine wpAny_bind ?_
    refine wpAny_updateSeq hS' rfl (wpAny_bind (wpAny_letGo (wpAny_pure ?_)))
    have e : vs.drop (j + 1) = [] := List.drop_eq_nil_of_le (by omega)
    rw [e] at k
    exact k _ (S'.extTail (Heap.SameBut.update ..).extBut)
  | succ n ih =>
    intro j h vb hn hj hvb S k
    have hlt : j + 1 < vs.length := by omega
    refine codeAny_builtin PySem.F.entry_min_loop ?_
    rw [Around.under_plainId PySem.F.plain_min_loop _]
    obtain ⟨c, hS⟩ := S.lst (.tail _ (.head _))
    unfold IsL at hS
    show wpAny _ A.in1 (seqItems? (.ref sA) >>= _) _ _ _
    refine wpAny_bind (wpAny_seqItems hS rfl ?_)
    show wpAny _ A.in1 (tryCatch (pyNext (.ref it)) _ >>= _) _ _ _
    refine wpAny_bind (wpAny_tryCatch (nextL (v := vs[j + 1]) S (.tail _ m) (by simp [hlt]) fun h' S' => ?_))
    have e : vs.drop (j + 1) = vs[j + 1] :: vs.drop (j + 2) := List.drop_eq_getElem_cons hlt
    rw [e] at k
    show wpAny _ A.in1 (tryCatch (holding [vs[j + 1], vs[j + 1]] (richCompare .Lt vs[j + 1] vb >>= _)) _ >>= _) _ _ _
    refine wpAny_bind (wpAny_tryCatch (wpAny_holding (wpAny_bind (hcmp _ (List.getElem_mem hlt) vb hvb h' _ _ S'.tail.tail ?_))))
    refine wpAny_bind (wpAny_holding (wpAny_truthy_bool ?_))
    refine wpAny_bind (wpAny_letGo (wpAny_pure ?_))
    obtain ⟨c', hS'⟩ := S'.lst (.tail _ (.head _))
    unfold IsL at hS'
    cases hb : lt vs[j + 1] vb with
    | true =>
      simp only [if_true]
      refine wpAny_bind ?_
      refine wpAny_updateSeq hS' rfl (wpAny_bind (wpAny_letGo ?_))
      rw [hname]
      refine wpAny_pure ⟨plainId_quiet PySem.F.plain_min_loop _, ih (j + 1) _ vs[j + 1] (by omega) hlt (List.getElem_mem hlt) (S'.swap.updL (vs' := [vs[j + 1], vs[j + 1]]) rfl).swap fun h'' S'' => ?_⟩
      have := k h'' S''
      simp only [bestL, List.foldl_cons, hb, if_true] at this
      exact this
    | false =>
      simp only [Bool.false_eq_true, if_false]
      refine wpAny_bind (wpAny_letGo ?_)
      rw [hname]
      refine wpAny_pure ⟨plainId_quiet PySem.F.plain_min_loop _, ih (j + 1) _ vb (by omega) hlt hvb S' fun h'' S'' => ?_⟩
      have := k h'' S''
      simp only [bestL, List.foldl_cons, hb, Bool.false_eq_true, if_false] at this
      exact this
/-- `min(xs)` -/
theorem minL {lt : Value → Value → Bool} {v : Value} {Q : Value → Shared → Prop} (hh : A.handled = none) (S : Sym H h G) (m : (a, lstP (v :: vs)) ∈ G)
    (hcmp : ∀ x ∈ v :: vs, ∀ x' ∈ v :: vs, ∀ (h : Heap) (Q : Value → Shared → Prop) (E : Value → Shared → Prop), Sym H h G → Q (.bool (lt x x')) ⟨h, g, d, tk, os⟩ → wpAny (model pw w) A.in1 (richCompare .Lt x x') Q E ⟨h, g, d, tk, os⟩)
    (k : ∀ h', Sym H h' G → Q (bestL lt v vs) ⟨h', g, d, tk, os⟩) : wpAny (model pw w) A (call (.builtin "min") [.ref a]) Q E ⟨h, g, d, tk, os⟩ := by
  have hname : (toString "min" ++ toString ".loop" : String) = "min.loop" := by decide
  refine call_function_tree PySem.F.kind_min PySem.F.plain_min PySem.F.entry_min (PySem.F.args_min1 _) ?_
  show wpAny _ A.in1 (Builtin.Builtins.bindParams "min" ["key", "default"] 0 ⟨[], []⟩ >>= _) _ _ _
  refine wpAny_bind (wpAny_of_eq (show Builtin.Builtins.bindParams "min" ["key", "default"] 0 ⟨[], []⟩ = pure [none, none] from rfl) ?_)
  refine wpAny_bind (wpAny_pure ?_)
  refine wpAny_bind (iterL S m fun it h1 S1 => ?_)
  refine wpAny_bind (wpAny_newObj_type ?_)
  rw [hname]
  have S2 : Sym H (h1.push { cls := .type "list", data := .seq #[] }) ((h1.objs.size, lstP []) :: (it, itP "list_iterator" a 0) :: G) := S1.push rfl ⟨0, rfl⟩
  refine wpAny_pure ⟨plainId_quiet PySem.F.plain_min_loop _, ?_⟩
  refine codeAny_builtin PySem.F.entry_min_loop ?_
  rw [Around.under_plainId PySem.F.plain_min_loop _]
  obtain ⟨c, hS⟩ := S2.lst (.head _)
  unfold IsL at hS
  show wpAny _ A.in1 (seqItems? (.ref h1.objs.size) >>= _) _ _ _
  refine wpAny_bind (wpAny_seqItems hS rfl ?_)
  show wpAny _ A.in1 (tryCatch (pyNext (.ref it)) _ >>= _) _ _ _
  refine wpAny_bind (wpAny_tryCatch (nextL (v := v) S2.swap (.tail _ m) rfl fun h' S' => ?_))
  obtain ⟨c', hS'⟩ := S'.lst (.tail _ (.head _))
  unfold IsL at hS'
  show wpAny _ A.in1 (updateSeq h1.objs.size (fun _ => #[v, v]) >>= _) _ _ _
  refine wpAny_bind ?_
  refine wpAny_updateSeq hS' rfl ?_
  rw [hname]
  refine wpAny_pure ⟨plainId_quiet PySem.F.plain_min_loop _, min_loop hh m hcmp _ 0 _ v rfl (by simp) (.head _) (S'.swap.updL (vs' := [v, v]) rfl).swap fun h'' S'' => ?_⟩
  simpa using k h'' S''
end
end Mine

namespace Mine
open PySem PySem.Calls PyProof.Rows PySem.W
/-- a row as it was read -/
structure RowR where
  ra : Addr
  na : Addr
  job : Nat
  needs : List Nat
  rank : Int
  t1 : Tok
  t2 : Tok
noncomputable def RowR.val (r : RowR) : List Value := [.str (nm r.job) r.t1, .ref r.na, .int r.rank r.t2]
noncomputable def RowR.ent (r : RowR) : Led := [(r.ra, lstP r.val), (r.na, lnP r.needs)]
noncomputable def rowsL (rs : List RowR) : Led := rs.flatMap RowR.ent
noncomputable def rowsV (rs : List RowR) : List Value := rs.map fun r => .ref r.ra
noncomputable def needsOf (rs : List RowR) (c : Nat) : List Nat := (rs.filter fun r => r.job = c).flatMap (·.needs)
theorem mem_row {rs : List RowR} {r : RowR} (hr : r ∈ rs) {p} (hp : p ∈ r.ent) : p ∈ rowsL rs := List.mem_flatMap.mpr ⟨r, hr, hp⟩
section
variable {K : Frag} {w : World} {A : Around} {E : Value → Shared → Prop} {H h h' : Heap} {G : Led} {env : Env} {outer : List Env} {g : Array GenState} {d : Drawn} {tk : Nat} {os : OsState} {a b x dx nd ra rk it : Addr} {vs us : List Value}
theorem ownL {elts : List Expr} {x1} {tp : Pos} {v : Value} {i : Nat} {Q : Unit → Shared → Prop} (S : Sym H h G) (m : (it, itP "list_iterator" a i) ∈ G) (k : Q () ⟨h, g, d, tk, os⟩) :
    wpAny (model pw w) A (letOwnedTupleGo (.Tuple elts x1 tp) (.ref it) v) Q E ⟨h, g, d, tk, os⟩ := by
  obtain ⟨o, e, p1, p2⟩ := S.get m
  unfold letOwnedTupleGo
  cases v with
  | ref b =>
    dsimp only
    refine wpAny_bind (wpAny_load e ?_)
    rw [p1, p2]
    exact wpAny_pure k
  | _ => exact wpAny_pure k
/-- against the empty list -/
theorem neNil {Q : Value → Shared → Prop} (S : Sym H h G) (m1 : (a, lstP vs) ∈ G) (m2 : (b, lstP []) ∈ G) (hu : A.units < cLine) (k : Q (.bool (!vs.isEmpty)) ⟨h, g, d, tk, os⟩) :
    wpAny (model pw w) A (compareOp .NotEq (.ref a) (.ref b)) Q E ⟨h, g, d, tk, os⟩ := by
  cases vs with
  | nil => exact (SeqAt.RcNeAt.lists (s := ⟨h, g, d, tk, os⟩) (e := fun _ => true) (S.isList m1) (S.isList m2) rfl hu (fun j h1 => by simp at h1)) _ _ _ _ k
  | cons v vs => exact (SeqAt.RcNeAt.lists_lengths (s := ⟨h, g, d, tk, os⟩) (S.isList m1) (S.isList m2) (by simp) hu) _ _ _ _ k
theorem eqNil {Q : Value → Shared → Prop} (S : Sym H h G) (m1 : (a, lstP vs) ∈ G) (m2 : (b, lstP []) ∈ G) (hu : A.units < cLine) (k : Q (.bool vs.isEmpty) ⟨h, g, d, tk, os⟩) :
    wpAny (model pw w) A (compareOp .Eq (.ref a) (.ref b)) Q E ⟨h, g, d, tk, os⟩ := by
  cases vs with
  | nil => exact SeqAt.eq_listAt (s := ⟨h, g, d, tk, os⟩) (e := fun _ => true) (S.isList m1) (S.isList m2) rfl hu (fun j h1 => by simp at h1) k
  | cons v vs => exact SeqAt.eq_list_lengthsAt (s := ⟨h, g, d, tk, os⟩) (S.isList m1) (S.isList m2) (by simp) hu k
theorem Names.any {cs : List Nat} {c : Nat} (hn : Names vs cs) : (vs.toArray.any fun v => match v with | .str y _ => y == nm c | _ => false) = decide (c ∈ cs) := by
  rw [← Array.any_toList]
  simp only []
  induction hn with
  | nil => simp
  | @cons t c' vs cs h ih =>
    rw [List.any_cons, ih]
    by_cases e : c' = c
    · subst e; simp
    · have : (nm c' == nm c) = false := by simpa using fun z => e (nm_inj z)
      have e' : ¬ c = c' := fun z => e z.symm
      show ((nm c' == nm c) || _) = _
      rw [this]; simp [e']
theorem notInN {cs : List Nat} {c : Nat} {t : Tok} {Q : Value → Shared → Prop} (S : Sym H h G) (m : (a, lnP cs) ∈ G) (k : Q (.bool (decide (c ∉ cs))) ⟨h, g, d, tk, os⟩) :
    wpAny (model pw w) A (compareOp .NotIn (.str (nm c) t) (.ref a)) Q E ⟨h, g, d, tk, os⟩ := by
  obtain ⟨o, e, vs, ⟨n, rfl⟩, hn⟩ := S.get m
  refine SeqAt.notIn_listAt (s := ⟨h, g, d, tk, os⟩) (items := vs.toArray) (fun v => match v with | .str y _ => y == nm c | _ => false) ⟨_, e, rfl, n, rfl⟩ (fun y hy => ?_) ?_
  · obtain ⟨i, hi⟩ := List.getElem?_of_mem (by simpa using hy : y ∈ vs)
    obtain ⟨c', t', _, rfl⟩ := hn.get hi
    exact SeqAt.EqAt.str_str _ _ _ _
  · rw [hn.any]
    have : (!decide (c ∈ cs)) = decide (c ∉ cs) := by by_cases z : c ∈ cs <;> simp [z]
    rw [this]; exact k
theorem eqNm {c c' : Nat} {t u : Tok} {Q : Value → Shared → Prop} (k : Q (.bool (decide (c = c'))) ⟨h, g, d, tk, os⟩) : wpAny (model pw w) A (compareOp .Eq (.str (nm c) t) (.str (nm c') u)) Q E ⟨h, g, d, tk, os⟩ := by
  refine PySem.P.eq_str ?_
  have : ((nm c).cps.toList == (nm c').cps.toList) = decide (c = c') := by
    by_cases e : c = c'
    · subst e; simp
    · simp [nm, e]
  rw [this]; exact k
/-- a name is bound to a list made in place -/
theorem asgComp {y : Str} {pos' p pos : Pos} {elt : Expr} {gens : List Comprehension} {scope : Scope} {s : Shared} {Q : Flow → Shared → Prop}
    (k : wpAny (model pw w) A (comprehension (.ListComp elt gens scope p) scope env (firstIterPos gens p) (newList []) (firstAsync gens) (firstIter gens env) (some (assign (.Name y pos') env))) (fun _ s' => Q .next s') E s)
    (hs : swapsWith (.ListComp elt gens scope p) (some (.Name y pos')) pos.line env = pure true := by rfl) :
    wpAny (model pw w) A (exec (.Assign [.Name y pos'] (.ListComp elt gens scope p) pos) env) Q E s := by
  rw [exec_Assign_Name_used _ _ _ _ hs, arm_evalThenUse_ListComp]
  exact wpAny_bind (wpAny_standAt (wpAny_bind (wpAny_bind (wpAny_mono k (fun _ s' q => wpAny_pure (wpAny_pure q)) fun _ _ q => q))))
end
end Mine

namespace Mine
open PySem PySem.Calls PyProof.Rows PySem.W
theorem locals_eqC (fd : FuncData) (L a : Addr) : (callEnvC fd L a).locals = L := rfl
theorem locals_eqD (scope : Scope) (L : Addr) (cl : List (Str × Addr)) (env : Env) : (cenvOf scope L cl env).locals = L := rfl
structure ItR where
  b : Addr
  c : Nat
  t : Tok
  u : Tok
noncomputable def ItR.val (rank : Nat → Int) (q : ItR) : List Value := [.int (rank q.c) q.t, .str (nm q.c) q.u]
noncomputable def itL (rank : Nat → Int) (its : List ItR) : Led := its.map fun q => (q.b, lstP (q.val rank))
noncomputable def itV (its : List ItR) : List Value := its.map fun q => .ref q.b
noncomputable def keyI (rank : Nat → Int) (its : List ItR) (v : Value) : Int × Nat := match v with
  | .ref b => match its.find? (fun q => q.b = b) with | some q => (rank q.c, q.c) | none => (0, 0)
  | _ => (0, 0)
theorem keyI_of {rank : Nat → Int} {its : List ItR} (nd : (its.map (·.b)).Nodup) {q : ItR} (hq : q ∈ its) : keyI rank its (.ref q.b) = (rank q.c, q.c) := by
  have : its.find? (fun z => z.b = q.b) = some q := by
    induction its with
    | nil => cases hq
    | cons y its ih =>
      rw [List.map_cons, List.nodup_cons] at nd
      rw [List.find?_cons]
      cases hq with
      | head => simp
      | tail _ hq =>
        have : ¬ y.b = q.b := fun e => nd.1 (List.mem_map.mpr ⟨q, hq, e.symm⟩)
        simp only [this, decide_false]
        exact ih nd.2 hq
  show (match its.find? (fun z => z.b = q.b) with | some q => (rank q.c, q.c) | none => ((0 : Int), 0)) = _
  rw [this]
theorem itL_nd {rank : Nat → Int} {its : List ItR} : (itL rank its).map (·.1) = its.map (·.b) := by simp [itL]
theorem best_mem {lt : Value → Value → Bool} (vs : List Value) : ∀ v, bestL lt v vs = v ∨ bestL lt v vs ∈ vs := by
  induction vs with
  | nil => intro v; exact .inl rfl
  | cons x vs ih =>
    intro v
    show bestL lt (if lt x v then x else v) vs = v ∨ bestL lt (if lt x v then x else v) vs ∈ x :: vs
    cases lt x v with
    | true =>
      rcases ih x with q | q
      · right; simp only [if_true]; rw [q]; exact .head _
      · right; simp only [if_true]; exact .tail _ q
    | false =>
      simp only [Bool.false_eq_true, if_false]
      rcases ih v with q | q
      · exact .inl q
      · exact .inr (.tail _ q)
theorem best_min {key : Value → Int × Nat} (vs : List Value) : ∀ v, keyLt key v (bestL (keyLt key) v vs) = false ∧ ∀ x ∈ vs, keyLt key x (bestL (keyLt key) v vs) = false := by
  induction vs with
  | nil => intro v; exact ⟨by simp [bestL, keyLt, itemLt], fun x hx => by cases hx⟩
  | cons y vs ih =>
    intro v
    show keyLt key v (bestL _ (if keyLt key y v then y else v) vs) = false ∧ ∀ x ∈ y :: vs, keyLt key x (bestL _ (if keyLt key y v then y else v) vs) = false
    cases hy : keyLt key y v with
    | true =>
      simp only [if_true]
      obtain ⟨h1, h2⟩ := ih y
      refine ⟨nlt_trans h1 (lt_asym hy), fun x hx => ?_⟩
      cases hx with
      | head => exact h1
      | tail _ hx => exact h2 x hx
    | false =>
      simp only [Bool.false_eq_true, if_false]
      obtain ⟨h1, h2⟩ := ih v
      refine ⟨h1, fun x hx => ?_⟩
      cases hx with
      | head => exact nlt_trans h1 hy
      | tail _ hx => exact h2 x hx
theorem DuePre.nd {rank : Nat → Int} {needs : Nat → List Nat} {l : List Nat} (h : DuePre rank needs l) : l.Nodup ∧ ∀ c ∈ l, c < 7 := by
  induction h with
  | nil => exact ⟨List.nodup_nil, fun c hc => by cases hc⟩
  | @snoc l c h hm ih =>
    refine ⟨?_, fun x hx => ?_⟩
    · rw [List.nodup_append]
      refine ⟨ih.1, by simp, fun a ha b hb e => ?_⟩
      rw [List.mem_singleton.mp hb] at e
      exact hm.1.2.1 (e ▸ ha)
    · rcases List.mem_append.mp hx with q | q
      · exact ih.2 x q
      · rw [List.mem_singleton.mp q]; exact hm.1.1
theorem DuePre.len {rank : Nat → Int} {needs : Nat → List Nat} {l : List Nat} (h : DuePre rank needs l) : l.length ≤ 7 := nodup_lt h.nd.1 h.nd.2
section
variable {K : Frag} {w : World} {A : Around} {E : Value → Shared → Prop} {H h h' : Heap} {G B : Led} {env : Env} {outer : List Env} {g : Array GenState} {d : Drawn} {tk : Nat} {os : OsState} {a b x dx nd ra rk it L : Addr} {rs : List RowR} {rkv : List (Str × Value)} {rank : Nat → Int} {rA : Addr}
theorem nextAb {c : Nat} {Q : Option Value → Shared → Prop} (hc : c < 7) (S : Sym H h ((it, strItP "abcdefg" c) :: G)) (k : ∀ h' t tk', Sym H h' ((it, strItP "abcdefg" (c + 1)) :: G) → Q (some (.str (nm c) t)) ⟨h', g, d, tk', os⟩) :
    wpAny (model pw w) A (pyNext (.ref it)) Q E ⟨h, g, d, tk, os⟩ := by
  have hfc : ∀ c < 7, (Str.ofString "abcdefg").cps[c]? = some (97 + c) := by decide
  exact nextS S (hfc c hc) fun h' t tk' S' => k h' t tk' S'
theorem idxLt {value slice : Expr} {vs : List Value} {k : Int} {t : Tok} {x : Value} {Q : Value → Shared → Prop} (S : Sym H h G) (m : (a, lstP vs) ∈ G) (h0 : 0 ≤ k) (hx : vs[k.toNat]? = some x) (q : Q x ⟨h, g, d, tk, os⟩) (hk : k < 2 ^ 63)
    (hs : subscripted slice false (.ref a) (.int k t) = operate [.ref a, .int k t] (getItem (.ref a) (.int k t)) := by with_unfolding_all rfl) :
    wpAny (model pw w) A (subscriptTail value slice (.ref a) (.int k t)) Q E ⟨h, g, d, tk, os⟩ :=
  tail_any (s := ⟨h, g, d, tk, os⟩) (S.isList m).typeIs slot_list_getitem.lookup (wpAny_getItem_list (s := ⟨h, g, d, tk, os⟩) (S.isList m) h0 hk (by simpa using hx) q) hs
theorem asgTt {elts : List Expr} {x1} {pos : Pos} {vs : List Value} {Q : Unit → Shared → Prop} (hh : A.handled = none) (S : Sym H h G) (m : (a, tupP vs) ∈ G) (hn : (assignEach elts env).length = vs.length) (hstar : (assignEach elts env).findIdx? (·.1) = none)
    (k : ∀ h', Sym H h' G → wpAny (model pw w) A (assignInOrder ((assignEach elts env).map (·.2)) vs) Q E ⟨h', g, d, tk, os⟩) : wpAny (model pw w) A (assign (.Tuple elts x1 pos) env (.ref a)) Q E ⟨h, g, d, tk, os⟩ := by
  rw [arm_assign_Tuple]
  refine wpAny_bind (wpAny_standAt ?_)
  unfold unpack
  rw [hstar]
  exact wpAny_bind (wpAny_holding (unpT hh S m (by rw [hn]) k))
set_option maxHeartbeats 8000000 in
theorem due_spec {Q : Value → Shared → Prop} (T : TopL K H) (hd : A.depth + 10 < recursionLimit) (hu : A.units + 100 < cLine) (hh : A.handled = none) (S : Sym H h ((rA, lstP (rowsV rs)) :: (rowsL rs ++ ((rk, dctP w rkv) :: G))))
    (hlen : rs.length ≤ 100) (hnl : ∀ r ∈ rs, r.needs.length ≤ 5) (hrk : ∀ c < 7, ∃ t, valueAt rkv (nm c) = some (.int (rank c) t))
    (k : ∀ h' tk' tb ka known, IsDue rank (needsOf rs) known → Sym H h' ((tb, tupP [.ref ka, .bool (decide (known.length ≠ 7))]) :: (ka, lnP known) :: (rA, lstP (rowsV rs)) :: (rowsL rs ++ ((rk, dctP w rkv) :: G))) → Q (.ref tb) ⟨h', g, d, tk', os⟩) :
    wpAny (model pw w) A (call (.ref 223) [.ref rA, .ref rk]) Q E ⟨h, g, d, tk, os⟩ := by
  refine callF2 (n1 := "known") (n2 := "name") (l := [("rows", .ref rA), ("ranks", .ref rk)]) T.fdue T.lim (lt_z hd) S rfl (fun L => rfl) (by decide) (fun L p hp => by
    simp only [List.mem_cons, List.not_mem_nil, or_false] at hp
    rcases hp with rfl | rfl <;> rfl) (fun L => ⟨rfl, rfl⟩) fun h1 L tk1 S1 => ?_
  refine wpAny_execs_cons (Assign_Tuple (Tuple_ (spliced_cons (eNil S1 fun kA h2 S2 => spliced_cons (List_ (spliced_cons (cStr (env := callEnvC fdDue L 223) (k := 0) (pos := ⟨0, 0, 0, 0⟩) fun t3 tk3 => spliced_nil (wpAny_newList ?_))))))))
  have S3 : Sym H (h2.push { cls := .type "list", data := .seq [Value.str "a" t3].toArray }) ((h2.objs.size, lstP [.str "a" t3]) :: (kA, lstP []) :: (L, nsP [("rows", .ref rA), ("ranks", .ref rk)]) :: (L + 1, cellP none) :: (L + 2, cellP none) :: (rA, lstP (rowsV rs)) :: (rowsL rs ++ ((rk, dctP w rkv) :: G))) := S2.push rfl ⟨0, rfl⟩
  obtain ⟨f0, hf0⟩ : ∃ b : Addr, h2.objs.size = b := ⟨_, rfl⟩
  rw [hf0] at S3
  refine spliced_nil (wpAny_newTuple ?_)
  dsimp only
  rw [hf0]
  have S4 := S3.push (o := { cls := .type "tuple", data := .seq [Value.ref kA, .ref f0].toArray }) (P := tupP [.ref kA, .ref f0]) rfl ⟨0, rfl⟩
  refine asgTt (A := A.deeper (callEnvC fdDue L 223)) hh S4 (.head _) rfl rfl fun h5 S5 => ?_
  have S5 := S5.tail
  refine assignInOrder_cons (wpAny_assign_Name (stC (S5.front 3 rfl) fun h6 S6 => assignInOrder_cons (wpAny_assign_Name (stL (S6.front 3 rfl) fun h7 tk7 S7 => assignInOrder_nil ?_))))
  have S7 : Sym H h7 ((L, nsP [("free", .ref f0), ("rows", .ref rA), ("ranks", .ref rk)]) :: (L + 2, cellP none) :: (L + 1, cellP (some (.ref kA))) :: (kA, lnP []) :: (f0, lstP [.str "a" t3]) :: ([] ++ ((rA, lstP (rowsV rs)) :: (rowsL rs ++ ((rk, dctP w rkv) :: G))))) := by
    have : Sym H h7 ((kA, lstP []) :: (L, nsP [("free", .ref f0), ("rows", .ref rA), ("ranks", .ref rk)]) :: (L + 2, cellP none) :: (L + 1, cellP (some (.ref kA))) :: (f0, lstP [.str "a" t3]) :: (rA, lstP (rowsV rs)) :: (rowsL rs ++ ((rk, dctP w rkv) :: G))) := S7.perm (by ((try simp only [locals_eqC, locals_eqD]); ((refine perm_sum fun _ => ?_; (try simp only [locals_eq, List.append_eq, sortL, famL_app, famL_cons, famL_nil, NodeR.ent, List.cons_append, List.nil_append, List.append_assoc, List.eraseIdx_cons_succ, List.eraseIdx_cons_zero]); (try simp only [List.map_append, List.map_cons, List.map_nil, List.sum_append, List.sum_cons, List.sum_nil, Nat.add_zero, Nat.zero_add, Nat.add_assoc]); (try ac_rfl)); try omega)))
    exact (this.lnClose .nil).perm (by ((try simp only [locals_eqC, locals_eqD]); ((refine perm_sum fun _ => ?_; (try simp only [locals_eq, List.append_eq, sortL, famL_app, famL_cons, famL_nil, NodeR.ent, List.cons_append, List.nil_append, List.append_assoc, List.eraseIdx_cons_succ, List.eraseIdx_cons_zero]); (try simp only [List.map_append, List.map_cons, List.map_nil, List.sum_append, List.sum_cons, List.sum_nil, Nat.add_zero, Nat.zero_add, Nat.add_assoc]); (try ac_rfl)); try omega)))
  clear S5 S4 S3 S2 S1
  refine wpAny_execs_cons (wpAny_While ?_)
  refine whileO (fun n s' => ∃ h' tk' known kA fA fvs nv GI l, s' = ⟨h', g, d, tk', os⟩ ∧ n = (if fvs = [] then 0 else 8 - known.length) ∧ Sym H h' ((L, nsP l) :: (L + 2, cellP nv) :: (L + 1, cellP (some (.ref kA))) :: (kA, lnP known) :: (fA, lstP fvs) :: (GI ++ ((rA, lstP (rowsV rs)) :: (rowsL rs ++ ((rk, dctP w rkv) :: G))))) ∧
    NsHas l [("free", .ref fA), ("rows", .ref rA), ("ranks", .ref rk)] ∧ DuePre rank (needsOf rs) known ∧ (fvs = [] → ∀ c, ¬ isFree (needsOf rs) known c)) ?_ _
    ⟨h7, _, [], kA, f0, [.str "a" t3], none, [], _, rfl, rfl, S7, ⟨rfl, rfl, rfl, trivial⟩, .nil, fun q => by cases q⟩
  clear S7
  rintro n s' ⟨h', tk', known, kA, fA, fvs, nv, GI, l, rfl, rfl, S', hns, hpre, hno⟩ Y Z hY hZ
  have S' := S'.renm hns
  have hkl := hpre.len
  refine wpAny_isTrue_Compare1 (ldL S' rfl (eNil S' fun e1 h2 S2 => neNil S2 (.tail _ (.tail _ (.tail _ (.tail _ (.tail _ (.head _)))))) (.head _) (by exact (show A.units + 3 < _ from lt_w hu)) (wpAny_truthy_bool ?_)))
  by_cases hfv : fvs = []
  · subst hfv
    refine itF rfl (wpAny_execs_nil (hZ _ _ ?_))
    have S2 := S2.tail
    -- return (known, len(known) != 7)
    refine wpAny_execs_cons (wpAny_Return_some (Tuple_ (spliced_cons (ldC S2 (.tail _ (.tail _ (.head _))) (spliced_cons (wpAny_Compare1 (eCallB T.toGlobs S2.keep rfl (spliced_cons (ldC S2 (.tail _ (.tail _ (.head _))) (spliced_nil (lenN S2 (.tail _ (.tail _ (.tail _ (.head _)))) (by omega) fun t3 tk3 => cInt fun t4 tk4 => PyProof.Rows.ne_int (spliced_nil (wpAny_newTuple ?_)))))))))))))
    have e : ((known.length : Int) != 7) = decide (known.length ≠ 7) := by
      by_cases z : known.length = 7
      · simp [z]
      · have : ¬ (known.length : Int) = 7 := fun q => z (Int.ofNat.inj q)
        simp [z, this]
    rw [e]
    have S5 := S2.push (o := { cls := .type "tuple", data := .seq [Value.ref kA, .bool (decide (known.length ≠ 7))].toArray }) (P := tupP [.ref kA, .bool (decide (known.length ≠ 7))]) rfl ⟨0, rfl⟩
    refine k _ _ _ kA known ⟨hpre, hno rfl⟩ (S5.sub (List.Sublist.cons_cons _ (List.Sublist.cons _ (List.Sublist.cons _ (List.Sublist.cons _ (List.Sublist.cons_cons _ (List.Sublist.cons _ (List.sublist_append_right GI _))))))))
  · refine itT (by cases fvs with | nil => exact absurd rfl hfv | cons _ _ => rfl) ?_
    have S2 := S2.tail
    refine wpAny_execs_cons (wpAny_Assign_Name (eNil S2 fun f1 h3 S3 => stL S3.swap fun h4 tk4 S4 => ?_))
    have S4 : Sym H h4 ((L, nsP [("free", .ref f1), ("rows", .ref rA), ("ranks", .ref rk)]) :: (L + 2, cellP nv) :: (L + 1, cellP (some (.ref kA))) :: (kA, lnP known) :: (f1, lstP (itV [])) :: (itL rank [] ++ ((rA, lstP (rowsV rs)) :: (rowsL rs ++ ((rk, dctP w rkv) :: G))))) := by
      have S4 := S4.renm (l' := [("free", .ref f1), ("rows", .ref rA), ("ranks", .ref rk)]) ⟨rfl, rfl, rfl, trivial⟩
      have S5 : Sym H h4 ((L, nsP [("free", .ref f1), ("rows", .ref rA), ("ranks", .ref rk)]) :: (L + 2, cellP nv) :: (L + 1, cellP (some (.ref kA))) :: (kA, lnP known) :: (f1, lstP []) :: (GI ++ ((rA, lstP (rowsV rs)) :: (rowsL rs ++ ((rk, dctP w rkv) :: G))))) := (S4.front 5 rfl).tail.perm (by ((try simp only [locals_eqC, locals_eqD]); ((refine perm_sum fun _ => ?_; (try simp only [locals_eq, List.append_eq, sortL, famL_app, famL_cons, famL_nil, NodeR.ent, List.cons_append, List.nil_append, List.append_assoc, List.eraseIdx_cons_succ, List.eraseIdx_cons_zero]); (try simp only [List.map_append, List.map_cons, List.map_nil, List.sum_append, List.sum_cons, List.sum_nil, Nat.add_zero, Nat.zero_add, Nat.add_assoc]); (try ac_rfl)); try omega)))
      exact S5.sub (List.Sublist.cons_cons _ (List.Sublist.cons_cons _ (List.Sublist.cons_cons _ (List.Sublist.cons_cons _ (List.Sublist.cons_cons _ (List.sublist_append_right GI _))))))
    clear S3 S2 S' hns
    have hfc : ∀ c < 7, (Str.ofString "abcdefg").cps[c]? = some (97 + c) := by decide
    have hfe : (Str.ofString "abcdefg").cps[7]? = none := by decide
    refine cutO (fun s' => ∃ h' tk' f1 its nv l, s' = ⟨h', g, d, tk', os⟩ ∧ Sym H h' ((L, nsP l) :: (L + 2, cellP nv) :: (L + 1, cellP (some (.ref kA))) :: (kA, lnP known) :: (f1, lstP (itV its)) :: (itL rank its ++ ((rA, lstP (rowsV rs)) :: (rowsL rs ++ ((rk, dctP w rkv) :: G))))) ∧
      NsHas l [("free", .ref f1), ("rows", .ref rA), ("ranks", .ref rk)] ∧ (∀ c, c ∈ its.map (·.c) ↔ isFree (needsOf rs) known c) ∧ its.length ≤ 7) ?_ ?_
    · intro J hJ
      refine wpAny_For (cStr fun t5 tk5 => iterS (by decide +kernel) S4 fun it h6 S6 => ?_)
      refine forN (fun m s' => ∃ h' tk' i f1 its nv l, s' = ⟨h', g, d, tk', os⟩ ∧ m = 7 - i ∧ i ≤ 7 ∧ Sym H h' ((L, nsP l) :: (L + 2, cellP nv) :: (L + 1, cellP (some (.ref kA))) :: (kA, lnP known) :: (f1, lstP (itV its)) :: (it, strItP "abcdefg" i) :: (itL rank its ++ ((rA, lstP (rowsV rs)) :: (rowsL rs ++ ((rk, dctP w rkv) :: G))))) ∧
        NsHas l [("free", .ref f1), ("rows", .ref rA), ("ranks", .ref rk)] ∧ (∀ c, c ∈ its.map (·.c) ↔ c < i ∧ isFree (needsOf rs) known c) ∧ its.length ≤ i) ?_ 7
        ⟨h6, _, 0, f1, [], nv, _, rfl, rfl, Nat.zero_le _, S6.perm (by ((try simp only [locals_eqC, locals_eqD]); ((refine perm_sum fun _ => ?_; (try simp only [locals_eq, List.append_eq, sortL, famL_app, famL_cons, famL_nil, NodeR.ent, List.cons_append, List.nil_append, List.append_assoc, List.eraseIdx_cons_succ, List.eraseIdx_cons_zero]); (try simp only [List.map_append, List.map_cons, List.map_nil, List.sum_append, List.sum_cons, List.sum_nil, Nat.add_zero, Nat.zero_add, Nat.add_assoc]); (try ac_rfl)); try omega))), ⟨rfl, rfl, rfl, trivial⟩, fun c => by simp, Nat.zero_le _⟩
      clear S4 S6
      rintro m s' ⟨h', tk', c, f1, its, nv, l, rfl, rfl, hc7, S', hns, hits, hil⟩ Y1 Z1 hY1 hZ1
      have S' := (S'.renm hns).front 5 rfl
      by_cases hce : c = 7
      · subst hce
        refine endS (A := A.deeper (callEnvC fdDue L 223)) hh S' hfe fun h7 S7 => wpAny_execs_nil (hZ1 _ _ ⟨rfl, hJ _ ⟨h7, _, f1, its, nv, _, rfl, S7, ⟨rfl, rfl, rfl, trivial⟩, fun c => ?_, hil⟩⟩)
        rw [hits]
        exact ⟨fun q => q.2, fun q => ⟨q.1, q⟩⟩
      · have hlt : c < 7 := Nat.lt_of_le_of_ne hc7 hce
        refine nextAb hlt S' fun h7 t7 tk7 S7 => ?_
        refine wpAny_assign_Name (stC (S7.front 2 rfl) fun h8 S8 => ?_)
        have S8 : Sym H h8 ((L, nsP [("free", .ref f1), ("rows", .ref rA), ("ranks", .ref rk)]) :: (L + 2, cellP (some (.str (nm c) t7))) :: (L + 1, cellP (some (.ref kA))) :: (kA, lnP known) :: (f1, lstP (itV its)) :: (it, strItP "abcdefg" (c + 1)) :: (itL rank its ++ ((rA, lstP (rowsV rs)) :: (rowsL rs ++ ((rk, dctP w rkv) :: G))))) := S8.perm (by ((try simp only [locals_eqC, locals_eqD]); ((refine perm_sum fun _ => ?_; (try simp only [locals_eq, List.append_eq, sortL, famL_app, famL_cons, famL_nil, NodeR.ent, List.cons_append, List.nil_append, List.append_assoc, List.eraseIdx_cons_succ, List.eraseIdx_cons_zero]); (try simp only [List.map_append, List.map_cons, List.map_nil, List.sum_append, List.sum_cons, List.sum_nil, Nat.add_zero, Nat.zero_add, Nat.add_assoc]); (try ac_rfl)); try omega)))
        clear S7 S'
        have hmr : (rA, lstP (rowsV rs)) ∈ (L, nsP [("free", .ref f1), ("rows", .ref rA), ("ranks", .ref rk)]) :: (L + 2, cellP (some (.str (nm c) t7))) :: (L + 1, cellP (some (.ref kA))) :: (kA, lnP known) :: (f1, lstP (itV its)) :: (it, strItP "abcdefg" (c + 1)) :: (itL rank its ++ ((rA, lstP (rowsV rs)) :: (rowsL rs ++ ((rk, dctP w rkv) :: G)))) := by simp
        refine wpAny_execs_cons (asgComp (compU (cl := [("name", L + 2), ("known", L + 1)]) rfl (fun _ => rfl) rfl rfl (by decide) rfl ?_))
        refine ldL S8 rfl (iterL S8 hmr fun ir h9 S9 => wpAny_newList ?_)
        have S10 := S9.push (o := { cls := .type "list", data := .seq ([] : List Value).toArray }) (P := lstP []) rfl ⟨0, rfl⟩
        obtain ⟨wA, hwA⟩ : ∃ b : Addr, h9.objs.size = b := ⟨_, rfl⟩
        dsimp only
        rw [hwA] at S10 ⊢
        refine ⟨H, _, S10, fun h11 Lc S11 => ?_⟩
        refine startS rfl (fun Q E q => iterSelfL S11 (.tail _ (.tail _ (.head _))) q) ?_
        refine loopO rfl rfl (fun n s' => ∃ h' tk' i l W, s' = ⟨h', g, d, tk', os⟩ ∧ n = rs.length - i ∧ i ≤ rs.length ∧ W = (needsOf (rs.take i) c).filter (fun q => decide (q ∉ known)) ∧ W.length ≤ 5 * i ∧
          Sym H h' ((Lc, nsP l) :: (wA, lnP W) :: (ir, itP "list_iterator" rA i) :: (L, nsP [("free", .ref f1), ("rows", .ref rA), ("ranks", .ref rk)]) :: (L + 2, cellP (some (.str (nm c) t7))) :: (L + 1, cellP (some (.ref kA))) :: (kA, lnP known) :: (f1, lstP (itV its)) :: (it, strItP "abcdefg" (c + 1)) :: (itL rank its ++ ((rA, lstP (rowsV rs)) :: (rowsL rs ++ ((rk, dctP w rkv) :: G)))))) (fun _ => rfl) ?_ _
          ⟨h11, _, 0, [], [], rfl, rfl, Nat.zero_le _, rfl, Nat.zero_le _, (S11.swap.lnClose .nil).swap⟩
        clear S11 S10 S9
        rintro n s' ⟨h', tk', i, l, W, rfl, rfl, hi, hW, hWl, S'⟩ X2 J2 hX2 hJ2
        have S' := S'.front 2 rfl
        cases hri : rs[i]? with
        | none =>
          have hge := List.getElem?_eq_none_iff.mp hri
          refine endL (A := A.deeper (callEnvC fdDue L 223)) hh S' (vs := rowsV rs) ?_ (by rw [List.getElem?_eq_none_iff]; simp [rowsV]; exact hge) fun h12 S12 => ?_
          · simp
          rw [List.take_of_length_le hge] at hW
          have S12 := S12.front 2 rfl
          refine hX2 _ (wpAny_assign_Name (stL S12 fun h13 tk13 S13 => ⟨H, _, l, S13.front 1 rfl, fun h14 S14 => ?_⟩))
          clear S12 S13 S'
          have S14 : Sym H h14 ((L, nsP [("waits", .ref wA), ("free", .ref f1), ("rows", .ref rA), ("ranks", .ref rk)]) :: (wA, lnP W) :: (L + 2, cellP (some (.str (nm c) t7))) :: (L + 1, cellP (some (.ref kA))) :: (kA, lnP known) :: (f1, lstP (itV its)) :: (it, strItP "abcdefg" (c + 1)) :: (itL rank its ++ ((rA, lstP (rowsV rs)) :: (rowsL rs ++ ((rk, dctP w rkv) :: G))))) := S14.perm (by ((try simp only [locals_eqC, locals_eqD]); ((refine perm_sum fun _ => ?_; (try simp only [locals_eq, List.append_eq, sortL, famL_app, famL_cons, famL_nil, NodeR.ent, List.cons_append, List.nil_append, List.append_assoc, List.eraseIdx_cons_succ, List.eraseIdx_cons_zero]); (try simp only [List.map_append, List.map_cons, List.map_nil, List.sum_append, List.sum_cons, List.sum_nil, Nat.add_zero, Nat.zero_add, Nat.add_assoc]); (try ac_rfl)); try omega)))
          obtain ⟨wvs, hwn, S15⟩ := (S14.front 1 rfl).lnOpen
          have S15 := S15.swap
          have hwe : wvs.isEmpty = W.isEmpty := by cases hwn <;> rfl
          have hfree : isFree (needsOf rs) known c ↔ W = [] ∧ c ∉ known := by
            constructor
            · rintro ⟨_, q2, q3⟩
              refine ⟨?_, q2⟩
              rw [hW, List.filter_eq_nil_iff]
              intro y hy z
              exact of_decide_eq_true z (q3 y hy)
            · rintro ⟨q1, q2⟩
              refine ⟨hlt, q2, fun y hy => ?_⟩
              rw [hW, List.filter_eq_nil_iff] at q1
              exact Classical.byContradiction fun z => q1 y hy (decide_eq_true z)
          -- free = free + (..)
          have stay : ∀ (E : Value → Shared → Prop) h17 tk17, Sym H h17 ((L, nsP [("waits", .ref wA), ("free", .ref f1), ("rows", .ref rA), ("ranks", .ref rk)]) :: (wA, lstP wvs) :: (L + 2, cellP (some (.str (nm c) t7))) :: (L + 1, cellP (some (.ref kA))) :: (kA, lnP known) :: (f1, lstP (itV its)) :: (it, strItP "abcdefg" (c + 1)) :: (itL rank its ++ ((rA, lstP (rowsV rs)) :: (rowsL rs ++ ((rk, dctP w rkv) :: G))))) → ¬ isFree (needsOf rs) known c → ∀ p : Pos,
              wpAny (model pw w) (A.deeper (callEnvC fdDue L 223)) (eval (.List [] p) (callEnvC fdDue L 223)) (fun v s₂ => wpAny (model pw w) (A.deeper (callEnvC fdDue L 223)) (binaryOp .Add (.ref f1) v) (fun v s₃ => ∃ b h18 tk18 its', v = .ref b ∧ s₃ = ⟨h18, g, d, tk18, os⟩ ∧
                Sym H h18 ((L, nsP [("waits", .ref wA), ("free", .ref f1), ("rows", .ref rA), ("ranks", .ref rk)]) :: (L + 2, cellP (some (.str (nm c) t7))) :: (L + 1, cellP (some (.ref kA))) :: (kA, lnP known) :: (b, lstP (itV its')) :: (it, strItP "abcdefg" (c + 1)) :: (itL rank its' ++ ((rA, lstP (rowsV rs)) :: (rowsL rs ++ ((rk, dctP w rkv) :: G))))) ∧
                (∀ z, z ∈ its'.map (·.c) ↔ z < c + 1 ∧ isFree (needsOf rs) known z) ∧ its'.length ≤ c + 1) E s₂) E ⟨h17, g, d, tk17, os⟩ := by
            intro E h17 tk17 S17 hnf p
            refine eNil S17 fun e3 h18 S18 => addL S18 (.tail _ (.tail _ (.tail _ (.tail _ (.tail _ (.tail _ (.head _))))))) (.head _) (by simp [itV]; omega) fun b h19 S19 => ⟨b, h19, _, its, rfl, rfl, ?_, fun z => ?_, Nat.le_succ_of_le hil⟩
            · rw [List.append_nil] at S19
              have S20 := ((S19.front 1 rfl).tail.front 2 rfl).tail
              have S21 := (S20.front 5 rfl).tail
              exact S21.perm (by ((try simp only [locals_eqC, locals_eqD]); ((refine perm_sum fun _ => ?_; (try simp only [locals_eq, List.append_eq, sortL, famL_app, famL_cons, famL_nil, NodeR.ent, List.cons_append, List.nil_append, List.append_assoc, List.eraseIdx_cons_succ, List.eraseIdx_cons_zero]); (try simp only [List.map_append, List.map_cons, List.map_nil, List.sum_append, List.sum_cons, List.sum_nil, Nat.add_zero, Nat.zero_add, Nat.add_assoc]); (try ac_rfl)); try omega)))
            · rw [hits]
              constructor
              · rintro ⟨q1, q2⟩; exact ⟨Nat.lt_succ_of_lt q1, q2⟩
              · rintro ⟨q1, q2⟩
                refine ⟨?_, q2⟩
                by_cases e : z = c
                · exact absurd (e ▸ q2) hnf
                · exact Nat.lt_of_le_of_ne (Nat.le_of_lt_succ q1) e
          refine wpAny_execs_cons (wpAny_Assign_Name (wpAny_mono (Q := fun v s₃ => ∃ b h18 tk18 its', v = .ref b ∧ s₃ = ⟨h18, g, d, tk18, os⟩ ∧
                Sym H h18 ((L, nsP [("waits", .ref wA), ("free", .ref f1), ("rows", .ref rA), ("ranks", .ref rk)]) :: (L + 2, cellP (some (.str (nm c) t7))) :: (L + 1, cellP (some (.ref kA))) :: (kA, lnP known) :: (b, lstP (itV its')) :: (it, strItP "abcdefg" (c + 1)) :: (itL rank its' ++ ((rA, lstP (rowsV rs)) :: (rowsL rs ++ ((rk, dctP w rkv) :: G))))) ∧
                (∀ z, z ∈ its'.map (·.c) ↔ z < c + 1 ∧ isFree (needsOf rs) known z) ∧ its'.length ≤ c + 1) ?_ ?_ fun _ _ q => q))
          · refine opq fun Q' hQ => ?_
            refine wpAny_BinOp (ldL S15 rfl (wpAny_IfExp (isBool (isAnd (wpAny_isTrue_Compare1 (ldL S15 rfl (eNil S15 fun e2 h16 S16 => eqNil S16 (.tail _ (.tail _ (.head _))) (.head _) (by exact (show A.units + 3 < _ from lt_w hu)) (wpAny_truthy_bool ?_))))))))
            have S16 := S16.tail
            rw [hwe]
            by_cases hwn0 : W = []
            · refine itT (by rw [hwn0]; rfl) (isAnd (wpAny_isTrue_Compare1 (ldC S16 (.tail _ (.tail _ (.head _))) (ldC S16 (.tail _ (.tail _ (.tail _ (.head _)))) (notInN S16 (.tail _ (.tail _ (.tail _ (.tail _ (.head _))))) (wpAny_truthy_bool ?_))))))
              by_cases hck : c ∈ known
              · refine itF (by simpa using hck) (itF rfl ?_)
                exact wpAny_mono (stay _ _ _ S16 (fun z => (hfree.mp z).2 hck) _) (fun _ _ q => wpAny_mono q hQ fun _ _ q => q) fun _ _ q => q
              · refine itT (by simpa using hck) (isAnd0 (itT rfl ?_))
                obtain ⟨tr, htr⟩ := hrk c hlt
                refine List_ (spliced_cons (List_ (spliced_cons (Subscript_ (ldL S16 rfl (ldC S16 (.tail _ (.tail _ (.head _))) (dSub S16 (by simp) htr fun tk17 => spliced_cons (ldC S16 (.tail _ (.tail _ (.head _))) (spliced_nil (wpAny_newList ?_))))))))))
                have S17 := S16.push (o := { cls := .type "list", data := .seq [Value.int (rank c) tr, .str (nm c) t7].toArray }) (P := lstP [.int (rank c) tr, .str (nm c) t7]) rfl ⟨0, rfl⟩
                obtain ⟨b1, hb1⟩ : ∃ b : Addr, h16.objs.size = b := ⟨_, rfl⟩
                dsimp only
                rw [hb1] at S17 ⊢
                refine spliced_nil (wpAny_newList ?_)
                have S18 := S17.push (o := { cls := .type "list", data := .seq [Value.ref b1].toArray }) (P := lstP [.ref b1]) rfl ⟨0, rfl⟩
                refine addL S18 (.tail _ (.tail _ (.tail _ (.tail _ (.tail _ (.tail _ (.tail _ (.head _)))))))) (.head _) (by simp [itV]; omega) fun b h19 S19 => hQ _ _ ⟨b, h19, _, its ++ [⟨b1, c, tr, t7⟩], rfl, rfl, ?_, fun z => ?_, by simp; omega⟩
                · have e1 : itV (its ++ [⟨b1, c, tr, t7⟩]) = itV its ++ [.ref b1] := by simp [itV]
                  have e2 : itL rank (its ++ [⟨b1, c, tr, t7⟩]) = itL rank its ++ [(b1, lstP [.int (rank c) tr, .str (nm c) t7])] := by simp [itL, ItR.val]
                  rw [e1, e2]
                  have S20 := ((S19.front 1 rfl).tail.front 3 rfl).tail
                  have S21 := (S20.front 6 rfl).tail
                  exact S21.perm (by ((try simp only [locals_eqC, locals_eqD]); ((refine perm_sum fun _ => ?_; (try simp only [locals_eq, List.append_eq, sortL, famL_app, famL_cons, famL_nil, NodeR.ent, List.cons_append, List.nil_append, List.append_assoc, List.eraseIdx_cons_succ, List.eraseIdx_cons_zero]); (try simp only [List.map_append, List.map_cons, List.map_nil, List.sum_append, List.sum_cons, List.sum_nil, Nat.add_zero, Nat.zero_add, Nat.add_assoc]); (try ac_rfl)); try omega)))
                · rw [List.map_append, List.mem_append, hits]
                  simp only [List.map_cons, List.map_nil, List.mem_singleton]
                  constructor
                  · rintro (⟨q1, q2⟩ | rfl)
                    · exact ⟨Nat.lt_succ_of_lt q1, q2⟩
                    · exact ⟨Nat.lt_succ_self _, hfree.mpr ⟨hwn0, hck⟩⟩
                  · rintro ⟨q1, q2⟩
                    by_cases e : z = c
                    · exact .inr e
                    · exact .inl ⟨Nat.lt_of_le_of_ne (Nat.le_of_lt_succ q1) e, q2⟩
            · refine itF (by cases hw0 : W with | nil => exact absurd hw0 hwn0 | cons _ _ => rfl) (itF rfl ?_)
              exact wpAny_mono (stay _ _ _ S16 (fun z => hwn0 (hfree.mp z).1) _) (fun _ _ q => wpAny_mono q hQ fun _ _ q => q) fun _ _ q => q
          · rintro _ _ ⟨b, h18, tk18, its', rfl, rfl, S18, hits', hil'⟩
            refine stL S18 fun h19 tk19 S19 => wpAny_execs_nil (hY1 _ _ ⟨7 - (c + 1), Nat.sub_succ_lt_self _ _ hlt, h19, _, c + 1, b, its', _, _, rfl, rfl, hlt, S19, ⟨rfl, rfl, rfl, trivial⟩, hits', hil'⟩)
        | some r =>
          have hlt2 := (List.getElem?_eq_some_iff.mp hri).1
          have hrr : r ∈ rs := List.mem_of_getElem? hri
          have etake : needsOf (rs.take (i + 1)) c = needsOf (rs.take i) c ++ (if r.job = c then r.needs else []) := by
            unfold needsOf
            rw [List.take_add_one, hri]
            simp only [Option.toList, List.filter_append, List.flatMap_append]
            by_cases e : r.job = c
            · simp [e]
            · simp [e]
          refine nextL (vs := rowsV rs) (v := .ref r.ra) S' (by simp) (by simp [rowsV, hri]) fun h12 S12 => ?_
          refine ownL S12 (.head _) ?_
          refine asgT (A := A.deeper (callEnvC fdDue L 223)) hh S12 (vs := r.val) (by
            have := mem_row hrr (p := (r.ra, lstP r.val)) (.head _)
            simp [this]) rfl rfl fun h13 S13 => ?_
          have S13 := S13.front 1 rfl
          refine assignInOrder_cons (wpAny_assign_Name (stL S13 fun h14 tk14 S14 => assignInOrder_cons (wpAny_assign_Name (stL S14 fun h15 tk15 S15 => assignInOrder_cons (wpAny_assign_Name (stL S15 fun h16 tk16 S16 => assignInOrder_nil ?_))))))
          have S16 : Sym H h16 ((Lc, nsP [("needs", .ref r.na), ("job", .str (nm r.job) r.t1)]) :: (wA, lnP W) :: (ir, itP "list_iterator" rA (i + 1)) :: (L, nsP [("free", .ref f1), ("rows", .ref rA), ("ranks", .ref rk)]) :: (L + 2, cellP (some (.str (nm c) t7))) :: (L + 1, cellP (some (.ref kA))) :: (kA, lnP known) :: (f1, lstP (itV its)) :: (it, strItP "abcdefg" (c + 1)) :: (itL rank its ++ ((rA, lstP (rowsV rs)) :: (rowsL rs ++ ((rk, dctP w rkv) :: G))))) :=
            (S16.renm (l' := [("needs", .ref r.na), ("job", .str (nm r.job) r.t1)]) ⟨rfl, rfl, trivial⟩).perm (by ((try simp only [locals_eqC, locals_eqD]); ((refine perm_sum fun _ => ?_; (try simp only [locals_eq, List.append_eq, sortL, famL_app, famL_cons, famL_nil, NodeR.ent, List.cons_append, List.nil_append, List.append_assoc, List.eraseIdx_cons_succ, List.eraseIdx_cons_zero]); (try simp only [List.map_append, List.map_cons, List.map_nil, List.sum_append, List.sum_cons, List.sum_nil, Nat.add_zero, Nat.zero_add, Nat.add_assoc]); (try ac_rfl)); try omega)))
          clear S12 S13 S14 S15 S'
          refine tests1 (wpAny_isTrue_Compare1 (ldL S16 rfl (ldC S16 (.tail _ (.tail _ (.tail _ (.tail _ (.head _))))) (eqNm (wpAny_truthy_bool ?_)))))
          by_cases hj : r.job = c
          · refine itT (by simpa using hj) ?_
            rw [if_pos hj] at etake
            refine ldL S16 rfl (iterN (cs := r.needs) S16 ?_ fun i2 h17 S17 => ?_)
            · have := mem_row hrr (p := (r.na, lnP r.needs)) (.tail _ (.head _))
              simp [this]
            refine startS rfl (fun Q E q => iterSelfL S17 (.head _) q) ?_
            refine loopL rfl rfl (fun n s' => ∃ h' tk' j l W', s' = ⟨h', g, d, tk', os⟩ ∧ n = r.needs.length - j ∧ j ≤ r.needs.length ∧ W' = W ++ (r.needs.take j).filter (fun q => decide (q ∉ known)) ∧ W'.length ≤ 5 * i + j ∧
              Sym H h' ((Lc, nsP l) :: (wA, lnP W') :: (i2, itP "list_iterator" r.na j) :: (ir, itP "list_iterator" rA (i + 1)) :: (L, nsP [("free", .ref f1), ("rows", .ref rA), ("ranks", .ref rk)]) :: (L + 2, cellP (some (.str (nm c) t7))) :: (L + 1, cellP (some (.ref kA))) :: (kA, lnP known) :: (f1, lstP (itV its)) :: (it, strItP "abcdefg" (c + 1)) :: (itL rank its ++ ((rA, lstP (rowsV rs)) :: (rowsL rs ++ ((rk, dctP w rkv) :: G)))))) ?_ _
              ⟨h17, _, 0, _, W, rfl, rfl, Nat.zero_le _, by simp, hWl, S17.perm (by ((try simp only [locals_eqC, locals_eqD]); ((refine perm_sum fun _ => ?_; (try simp only [locals_eq, List.append_eq, sortL, famL_app, famL_cons, famL_nil, NodeR.ent, List.cons_append, List.nil_append, List.append_assoc, List.eraseIdx_cons_succ, List.eraseIdx_cons_zero]); (try simp only [List.map_append, List.map_cons, List.map_nil, List.sum_append, List.sum_cons, List.sum_nil, Nat.add_zero, Nat.zero_add, Nat.add_assoc]); (try ac_rfl)); try omega)))⟩
            clear S17 S16
            rintro n s' ⟨h', tk', j, l, W', rfl, rfl, hj2, hW', hWl', S'⟩ X3 J3 hX3 hJ3
            have S' := S'.front 2 rfl
            have hmn : (r.na, lnP r.needs) ∈ (Lc, nsP l) :: (wA, lnP W') :: (ir, itP "list_iterator" rA (i + 1)) :: (L, nsP [("free", .ref f1), ("rows", .ref rA), ("ranks", .ref rk)]) :: (L + 2, cellP (some (.str (nm c) t7))) :: (L + 1, cellP (some (.ref kA))) :: (kA, lnP known) :: (f1, lstP (itV its)) :: (it, strItP "abcdefg" (c + 1)) :: (itL rank its ++ ((rA, lstP (rowsV rs)) :: (rowsL rs ++ ((rk, dctP w rkv) :: G)))) := by
              have := mem_row hrr (p := (r.na, lnP r.needs)) (.tail _ (.head _))
              simp [this]
            cases hq : r.needs[j]? with
            | none =>
              have hge := List.getElem?_eq_none_iff.mp hq
              refine endN (A := A.deeper (callEnvC fdDue L 223)) hh S' hmn hq fun h18 S18 => ?_
              refine hX3 _ (hJ2 _ ⟨rs.length - (i + 1), Nat.sub_succ_lt_self _ _ hlt2, h18, _, i + 1, l, W', rfl, rfl, hlt2, ?_, ?_, S18⟩)
              · rw [List.take_of_length_le hge] at hW'
                rw [hW', hW, etake, List.filter_append]
              · have := hnl r hrr
                omega
            | some q =>
              have hlt3 := (List.getElem?_eq_some_iff.mp hq).1
              have hjl := hnl r hrr
              refine nextN S' hmn hq fun h18 t18 S18 => wpAny_pure (wpAny_assign_Name (stL S18.swap fun h19 tk19 S19 => ?_))
              have etk : (r.needs.take (j + 1)).filter (fun q => decide (q ∉ known)) = (r.needs.take j).filter (fun q => decide (q ∉ known)) ++ (if q ∉ known then [q] else []) := by
                rw [List.take_add_one, hq, List.filter_append]
                by_cases z : q ∈ known <;> simp [z]
              refine tests1 (wpAny_isTrue_Compare1 (ldL S19 rfl (ldC S19 (.tail _ (.tail _ (.tail _ (.tail _ (.tail _ (.tail _ (.head _))))))) (notInN S19 (.tail _ (.tail _ (.tail _ (.tail _ (.tail _ (.tail _ (.tail _ (.head _)))))))) (wpAny_truthy_bool ?_)))))
              by_cases hqk : q ∈ known
              · refine itF (by simpa using hqk) (hJ3 _ ⟨r.needs.length - (j + 1), Nat.sub_succ_lt_self _ _ hlt3, h19, _, j + 1, [("need", .str (nm q) t18)], W', rfl, rfl, hlt3, ?_, by omega, ?_⟩)
                · rw [hW', etk, if_neg (by simpa using hqk), List.append_nil]
                · exact (S19.renm (l' := [("need", .str (nm q) t18)]) ⟨rfl, trivial⟩).perm (by ((try simp only [locals_eqC, locals_eqD]); ((refine perm_sum fun _ => ?_; (try simp only [locals_eq, List.append_eq, sortL, famL_app, famL_cons, famL_nil, NodeR.ent, List.cons_append, List.nil_append, List.append_assoc, List.eraseIdx_cons_succ, List.eraseIdx_cons_zero]); (try simp only [List.map_append, List.map_cons, List.map_nil, List.sum_append, List.sum_cons, List.sum_nil, Nat.add_zero, Nat.zero_add, Nat.add_assoc]); (try ac_rfl)); try omega)))
              · refine itT (by simpa using hqk) (ldL S19 rfl ?_)
                obtain ⟨vs, hn, S20⟩ := (S19.front 2 rfl).lnOpen
                refine appC S20 (by rw [hn.length]; omega) fun h21 S21 => hJ3 _ ⟨r.needs.length - (j + 1), Nat.sub_succ_lt_self _ _ hlt3, h21, _, j + 1, [("need", .str (nm q) t18)], W' ++ [q], rfl, rfl, hlt3, ?_, by simp; omega, ?_⟩
                · rw [hW', etk, if_pos (by simpa using hqk), List.append_assoc]
                · exact (((S21.lnClose (hn.snoc q t18)).front 1 rfl).renm (l' := [("need", .str (nm q) t18)]) ⟨rfl, trivial⟩).perm (by ((try simp only [locals_eqC, locals_eqD]); ((refine perm_sum fun _ => ?_; (try simp only [locals_eq, List.append_eq, sortL, famL_app, famL_cons, famL_nil, NodeR.ent, List.cons_append, List.nil_append, List.append_assoc, List.eraseIdx_cons_succ, List.eraseIdx_cons_zero]); (try simp only [List.map_append, List.map_cons, List.map_nil, List.sum_append, List.sum_cons, List.sum_nil, Nat.add_zero, Nat.zero_add, Nat.add_assoc]); (try ac_rfl)); try omega)))
          · refine itF (by simpa using hj) (hJ2 _ ⟨rs.length - (i + 1), Nat.sub_succ_lt_self _ _ hlt2, h16, _, i + 1, _, W, rfl, rfl, hlt2, ?_, by omega, S16⟩)
            rw [etake, if_neg hj, List.append_nil]
            exact hW
    · -- the least of the free is known next
      rintro _ ⟨h', tk', f1, its, nv, l, rfl, S', hns, hits, hil⟩
      have S' := S'.renm hns
      refine wpAny_execs_cons (wpAny_Assign_Name (wpAny_mono (Q := fun v s₃ => ∃ b h18 tk18 known', v = .ref b ∧ s₃ = ⟨h18, g, d, tk18, os⟩ ∧
          Sym H h18 ((L, nsP [("free", .ref f1), ("rows", .ref rA), ("ranks", .ref rk)]) :: (L + 2, cellP nv) :: (L + 1, cellP (some (.ref kA))) :: (b, lnP known') :: (f1, lstP (itV its)) :: (itL rank its ++ ((rA, lstP (rowsV rs)) :: (rowsL rs ++ ((rk, dctP w rkv) :: G))))) ∧
          DuePre rank (needsOf rs) known' ∧ (its = [] → known' = known) ∧ (its ≠ [] → known'.length = known.length + 1)) ?_ ?_ fun _ _ q => q))
      · refine opq fun Q' hQ => ?_
        refine wpAny_BinOp (ldC S' (.tail _ (.tail _ (.head _))) (wpAny_IfExp (wpAny_isTrue_Compare1 (ldL S' rfl (eNil S' fun e2 h16 S16 => neNil S16 (.tail _ (.tail _ (.tail _ (.tail _ (.tail _ (.head _)))))) (.head _) (by exact (show A.units + 3 < _ from lt_w hu)) (wpAny_truthy_bool ?_))))))
        have S16 := S16.tail
        cases hit0 : its with
        | nil =>
          subst hit0
          refine itF rfl (eNil S16 fun e3 h18 S18 => ?_)
          obtain ⟨kvs, hkn, S19⟩ := (S18.front 4 rfl).lnOpen
          refine addL S19 (.head _) (.tail _ (.head _)) (by rw [hkn.length]; simp; omega) fun b h20 S20 => hQ _ _ ⟨b, h20, _, known, rfl, rfl, ?_, hpre, fun _ => rfl, fun q => absurd rfl q⟩
          rw [List.append_nil] at S20
          have S21 := S20.lnClose hkn
          have S22 := ((S21.front 1 rfl).tail.front 1 rfl).tail
          exact S22.perm (by ((try simp only [locals_eqC, locals_eqD]); ((refine perm_sum fun _ => ?_; (try simp only [locals_eq, List.append_eq, sortL, famL_app, famL_cons, famL_nil, NodeR.ent, List.cons_append, List.nil_append, List.append_assoc, List.eraseIdx_cons_succ, List.eraseIdx_cons_zero]); (try simp only [List.map_append, List.map_cons, List.map_nil, List.sum_append, List.sum_cons, List.sum_nil, Nat.add_zero, Nat.zero_add, Nat.add_assoc]); (try ac_rfl)); try omega)))
        | cons q0 its0 =>
          rw [← hit0]
          have hne : its ≠ [] := by rw [hit0]; simp
          refine itT (by rw [hit0]; rfl) ?_
          have hnd : (its.map (·.b)).Nodup := by
            have := S16.nd
            have h2 : ((itL rank its).map (·.1)).Sublist ((((L, nsP [("free", .ref f1), ("rows", .ref rA), ("ranks", .ref rk)]) :: (L + 2, cellP nv) :: (L + 1, cellP (some (.ref kA))) :: (kA, lnP known) :: (f1, lstP (itV its)) :: (itL rank its ++ ((rA, lstP (rowsV rs)) :: (rowsL rs ++ ((rk, dctP w rkv) :: G)))) : Led)).map (·.1)) := by
              refine List.Sublist.map _ (List.Sublist.cons _ (List.Sublist.cons _ (List.Sublist.cons _ (List.Sublist.cons _ (List.Sublist.cons _ (List.sublist_append_left _ _))))))
            rw [← itL_nd (rank := rank)]
            exact this.sublist h2
          have hitem : ∀ v ∈ itV its, ∃ q ∈ its, v = .ref q.b := fun v hv => by
            obtain ⟨q, hq, rfl⟩ := List.mem_map.mp hv
            exact ⟨q, hq, rfl⟩
          have hev : itV its = .ref q0.b :: itV its0 := by rw [hit0]; rfl
          refine List_ (spliced_cons (Subscript_ (eCallB T.toGlobs S16.keep rfl (spliced_cons (ldL S16 rfl (spliced_nil (minL (lt := keyLt (keyI rank its)) (v := .ref q0.b) (vs := itV its0) (A := A.deeper (callEnvC fdDue L 223)) hh S16 (by rw [← hev]; exact .tail _ (.tail _ (.tail _ (.tail _ (.head _))))) (fun v hv v' hv' h3 Q3 E3 S3 q3 => ?_) fun h17 S17 => ?_)))))))
          · rw [← hev] at hv hv'
            obtain ⟨q, hq, rfl⟩ := hitem v hv
            obtain ⟨q', hq', rfl⟩ := hitem v' hv'
            have mi : ∀ q ∈ its, (q.b, lstP [.int (rank q.c) q.t, .str (nm q.c) q.u]) ∈ ((L, nsP [("free", .ref f1), ("rows", .ref rA), ("ranks", .ref rk)]) :: (L + 2, cellP nv) :: (L + 1, cellP (some (.ref kA))) :: (kA, lnP known) :: (f1, lstP (itV its)) :: (itL rank its ++ ((rA, lstP (rowsV rs)) :: (rowsL rs ++ ((rk, dctP w rkv) :: G)))) : Led) := fun q hq =>
              .tail _ (.tail _ (.tail _ (.tail _ (.tail _ (List.mem_append_left _ (List.mem_map.mpr ⟨q, hq, rfl⟩))))))
            show wpAny _ _ (compareOp .Lt _ _) _ _ _
            refine lt_item S3 ⟨q.b, q.t, q.u, rfl, mi q hq⟩ ⟨q'.b, q'.t, q'.u, rfl, mi q' hq'⟩ (by exact (show A.units + 5 < _ from lt_w hu)) ?_
            have : keyLt (keyI rank its) (.ref q.b) (.ref q'.b) = itemLt (rank q.c) q.c (rank q'.c) q'.c := by
              unfold keyLt; rw [keyI_of hnd hq, keyI_of hnd hq']
            rw [this] at q3
            exact q3
          · -- the least
            have hbm : bestL (keyLt (keyI rank its)) (.ref q0.b) (itV its0) ∈ itV its := by
              rw [hev]
              rcases best_mem (lt := keyLt (keyI rank its)) (itV its0) (.ref q0.b) with z | z
              · rw [z]; exact .head _
              · exact .tail _ z
            have hbmin : ∀ v ∈ itV its, keyLt (keyI rank its) v (bestL (keyLt (keyI rank its)) (.ref q0.b) (itV its0)) = false := by
              obtain ⟨z1, z2⟩ := best_min (key := keyI rank its) (itV its0) (.ref q0.b)
              intro v hv
              rw [hev] at hv
              cases hv with
              | head => exact z1
              | tail _ hv => exact z2 v hv
            obtain ⟨q, hq, hqe⟩ := hitem _ hbm
            rw [hqe] at hbmin ⊢
            have hqf : isFree (needsOf rs) known q.c := (hits q.c).mp (List.mem_map.mpr ⟨q, hq, rfl⟩)
            refine cInt fun t18 tk18 => idxLt (vs := [.int (rank q.c) q.t, .str (nm q.c) q.u]) S17 (.tail _ (.tail _ (.tail _ (.tail _ (.tail _ (List.mem_append_left _ (List.mem_map.mpr ⟨q, hq, rfl⟩))))))) (by omega) rfl ?_ (by omega)
            refine spliced_nil (wpAny_newList ?_)
            have S18 := S17.push (o := { cls := .type "list", data := .seq [Value.str (nm q.c) q.u].toArray }) (P := lstP [.str (nm q.c) q.u]) rfl ⟨0, rfl⟩
            obtain ⟨kvs, hkn, S19⟩ := (S18.front 4 rfl).lnOpen
            refine addL S19 (.head _) (.tail _ (.head _)) (by rw [hkn.length]; simp; omega) fun b h20 S20 => hQ _ _ ⟨b, h20, _, known ++ [q.c], rfl, rfl, ?_, hpre.snoc ⟨hqf, fun c' hc' hne' => ?_⟩, fun z => absurd z hne, fun _ => by simp⟩
            · have S21 := S20.lnClose (hkn.snoc q.c q.u)
              have S22 := ((S21.front 1 rfl).tail.front 1 rfl).tail
              exact S22.perm (by ((try simp only [locals_eqC, locals_eqD]); ((refine perm_sum fun _ => ?_; (try simp only [locals_eq, List.append_eq, sortL, famL_app, famL_cons, famL_nil, NodeR.ent, List.cons_append, List.nil_append, List.append_assoc, List.eraseIdx_cons_succ, List.eraseIdx_cons_zero]); (try simp only [List.map_append, List.map_cons, List.map_nil, List.sum_append, List.sum_cons, List.sum_nil, Nat.add_zero, Nat.zero_add, Nat.add_assoc]); (try ac_rfl)); try omega)))
            · obtain ⟨q', hq', rfl⟩ := List.mem_map.mp ((hits c').mpr hc')
              have h1 := hbmin (.ref q'.b) (List.mem_map.mpr ⟨q', hq', rfl⟩)
              unfold keyLt at h1
              rw [keyI_of hnd hq, keyI_of hnd hq'] at h1
              simp only [itemLt, decide_eq_false_iff_not, decide_eq_true_eq] at h1 ⊢
              omega
      · rintro _ _ ⟨b, h18, tk18, known', rfl, rfl, S18, hpre', hk1, hk2⟩
        refine stC (S18.front 2 rfl) fun h19 S19 => wpAny_execs_nil (hY _ _ ⟨if itV its = [] then 0 else 8 - known'.length, ?_, h19, _, known', b, f1, itV its, nv, itL rank its, [("free", .ref f1), ("rows", .ref rA), ("ranks", .ref rk)], rfl, rfl, S19.perm (by ((try simp only [locals_eqC, locals_eqD]); ((refine perm_sum fun _ => ?_; (try simp only [locals_eq, List.append_eq, sortL, famL_app, famL_cons, famL_nil, NodeR.ent, List.cons_append, List.nil_append, List.append_assoc, List.eraseIdx_cons_succ, List.eraseIdx_cons_zero]); (try simp only [List.map_append, List.map_cons, List.map_nil, List.sum_append, List.sum_cons, List.sum_nil, Nat.add_zero, Nat.zero_add, Nat.add_assoc]); (try ac_rfl)); try omega))), ⟨rfl, rfl, rfl, trivial⟩, hpre', fun z => ?_⟩)
        · rw [if_neg hfv]
          have := hpre'.len
          by_cases z : itV its = []
          · rw [if_pos z]; omega
          · rw [if_neg z]
            have := hk2 (fun e => z (by rw [e]; rfl))
            omega
        · have e : its = [] := by
            cases its with
            | nil => rfl
            | cons _ _ => simp [itV] at z
          subst e
          rw [hk1 rfl]
          intro c hc
          have := (hits c).mpr hc
          simp at this
end
end Mine

namespace Mine
open PySem
/-! the start of the sorter, and the end of the dealing, plain -/
theorem perm_range {l : List Nat} {n : Nat} (nd : l.Nodup) (h : ∀ c, c ∈ l ↔ c < n) : l.Perm (List.range n) := by
  rw [List.perm_iff_count]
  intro a
  by_cases ha : a < n
  · rw [List.Nodup.count nd, List.Nodup.count List.nodup_range, if_pos ((h a).mpr ha), if_pos (by simpa using ha)]
  · rw [List.count_eq_zero.mpr fun z => ha ((h a).mp z), List.count_eq_zero.mpr (by simpa using ha)]
theorem find_ensure (c z : Nat) (s : AS) : (ensure c s).find? (fun q => q.1 = z) = (s.find? fun q => q.1 = z).or (if z = c ∧ c ∉ names s then some (c, 0, []) else none) := by
  unfold ensure
  by_cases h : c ∈ s.map (·.1)
  · rw [if_pos h, if_neg (fun q => q.2 h)]; simp
  · rw [if_neg h, List.find?_append]
    congr 1
    by_cases e : z = c
    · subst e
      rw [if_pos ⟨rfl, h⟩]; simp
    · rw [if_neg fun q => e q.1]
      have : ¬ c = z := fun q => e q.symm
      simp [this]
theorem npOf_ensure (c z : Nat) (s : AS) : npOf (ensure c s) z = npOf s z := by
  unfold npOf
  rw [find_ensure]
  cases s.find? (fun q => q.1 = z) with
  | some q => rfl
  | none => split <;> rfl
theorem suOf_ensure (c z : Nat) (s : AS) : suOf (ensure c s) z = suOf s z := by
  unfold suOf
  rw [find_ensure]
  cases s.find? (fun q => q.1 = z) with
  | some q => rfl
  | none => split <;> rfl
theorem names_ensure (c : Nat) (s : AS) : names (ensure c s) = if c ∈ names s then names s else names s ++ [c] := by
  unfold ensure
  by_cases h : c ∈ s.map (·.1)
  · rw [if_pos h, if_pos (show c ∈ names s from h)]
  · rw [if_neg h, if_neg (show ¬ c ∈ names s from h)]; simp [names]
theorem mem_ensure {c z : Nat} {s : AS} : z ∈ names (ensure c s) ↔ z ∈ names s ∨ z = c := by
  rw [names_ensure]
  split
  · rename_i h
    exact ⟨.inl, fun q => q.elim id fun e => e ▸ h⟩
  · simp
theorem nodup_ensure {c : Nat} {s : AS} (h : (names s).Nodup) : (names (ensure c s)).Nodup := by
  rw [names_ensure]
  split
  · exact h
  · rename_i hc
    rw [List.nodup_append]
    refine ⟨h, by simp, fun a ha b hb e => ?_⟩
    rw [List.mem_singleton.mp hb] at e
    exact hc (e ▸ ha)
theorem fold_add (c : Nat) (ps : List Nat) : ∀ s : AS, (∀ z, npOf (ps.foldl (addOne c) s) z = npOf s z) ∧ (∀ z, suOf (ps.foldl (addOne c) s) z = suOf s z ++ List.replicate (ps.count z) c) ∧
    (∀ z, z ∈ names (ps.foldl (addOne c) s) ↔ z ∈ names s ∨ z ∈ ps) ∧ ((names s).Nodup → (names (ps.foldl (addOne c) s)).Nodup) := by
  induction ps with
  | nil => intro s; exact ⟨fun _ => rfl, fun z => by simp, fun z => by simp, id⟩
  | cons p ps ih =>
    intro s
    obtain ⟨h1, h2, h3, h4⟩ := ih (addOne c s p)
    have hp : p ∈ names (ensure p s) := mem_ensure.mpr (.inr rfl)
    have en : names (addOne c s p) = names (ensure p s) := names_updA ..
    have anp : ∀ z, npOf (addOne c s p) z = npOf s z := fun z => by
      by_cases hz : z ∈ names (ensure p s)
      · have : npOf (addOne c s p) z = if z = p then npOf (ensure p s) z else npOf (ensure p s) z := npOf_updA hz
        rw [this, npOf_ensure]; split <;> rfl
      · have e1 : ∀ t : AS, z ∉ names t → npOf t z = 0 := fun t ht => by
          unfold npOf
          have : t.find? (fun q => q.1 = z) = none := by
            rw [List.find?_eq_none]
            intro q hq he
            exact ht (List.mem_map.mpr ⟨q, hq, by simpa using he⟩)
          rw [this]; rfl
        rw [e1 _ (by rw [en]; exact hz), e1 s fun q => hz (mem_ensure.mpr (.inl q))]
    have asu : ∀ z, suOf (addOne c s p) z = suOf s z ++ (if z = p then [c] else []) := fun z => by
      by_cases hz : z ∈ names (ensure p s)
      · have : suOf (addOne c s p) z = if z = p then suOf (ensure p s) z ++ [c] else suOf (ensure p s) z := suOf_updA hz
        rw [this, suOf_ensure]; split <;> simp
      · have e1 : ∀ t : AS, z ∉ names t → suOf t z = [] := fun t ht => by
          unfold suOf
          have : t.find? (fun q => q.1 = z) = none := by
            rw [List.find?_eq_none]
            intro q hq he
            exact ht (List.mem_map.mpr ⟨q, hq, by simpa using he⟩)
          rw [this]; rfl
        have hne : ¬ z = p := fun e => hz (e ▸ hp)
        rw [e1 _ (by rw [en]; exact hz), e1 s fun q => hz (mem_ensure.mpr (.inl q)), if_neg hne]; rfl
    refine ⟨fun z => (h1 z).trans (anp z), fun z => ?_, fun z => ?_, fun nd => h4 (by rw [en]; exact nodup_ensure nd)⟩
    · rw [List.foldl_cons, h2, asu, List.append_assoc]
      congr 1
      by_cases e : z = p
      · subst e
        rw [if_pos rfl, List.count_cons_self, List.replicate_succ]; rfl
      · rw [if_neg e, List.count_cons_of_ne (Ne.symm e)]; rfl
    · rw [List.foldl_cons, h3, en, mem_ensure]
      simp only [List.mem_cons]
      constructor
      · rintro ((q | q) | q)
        · exact .inl q
        · exact .inr (.inl q)
        · exact .inr (.inr q)
      · rintro (q | q | q)
        · exact .inl (.inl q)
        · exact .inl (.inr q)
        · exact .inr q
theorem addS_ok (c : Nat) (ps : List Nat) (s : AS) : (∀ z, npOf (addS c ps s) z = npOf s z + (if z = c then (ps.length : Int) else 0)) ∧ (∀ z, suOf (addS c ps s) z = suOf s z ++ List.replicate (ps.count z) c) ∧
    (∀ z, z ∈ names (addS c ps s) ↔ z ∈ names s ∨ z = c ∨ z ∈ ps) ∧ ((names s).Nodup → (names (addS c ps s)).Nodup) := by
  obtain ⟨h1, h2, h3, h4⟩ := fold_add c ps (updA c (fun q => (q.1 + ps.length, q.2)) (ensure c s))
  have hc : c ∈ names (ensure c s) := mem_ensure.mpr (.inr rfl)
  refine ⟨fun z => ?_, fun z => ?_, fun z => ?_, fun nd => h4 (by rw [names_updA]; exact nodup_ensure nd)⟩
  · refine (h1 z).trans ?_
    by_cases e : z = c
    · subst e
      rw [npOf_updA hc, if_pos rfl, if_pos rfl, npOf_ensure]
    · rw [if_neg e]
      by_cases hz : z ∈ names (ensure c s)
      · rw [npOf_updA hz, if_neg e, npOf_ensure]; omega
      · have e1 : ∀ t : AS, z ∉ names t → npOf t z = 0 := fun t ht => by
          unfold npOf
          have : t.find? (fun q => q.1 = z) = none := by
            rw [List.find?_eq_none]
            intro q hq he
            exact ht (List.mem_map.mpr ⟨q, hq, by simpa using he⟩)
          rw [this]; rfl
        rw [e1 _ (by rw [names_updA]; exact hz), e1 s fun q => hz (mem_ensure.mpr (.inl q))]; rfl
  · refine (h2 z).trans ?_
    rw [suOf_np (u := fun v => v + ps.length), suOf_ensure]
  · refine (h3 z).trans ?_
    rw [names_updA, mem_ensure]
    exact ⟨fun q => q.elim (fun r => r.elim .inl fun e => .inr (.inl e)) fun r => .inr (.inr r), fun q => q.elim (fun r => .inl (.inl r)) fun r => r.elim (fun e => .inl (.inr e)) fun r => .inr r⟩
/-- the sorter after its jobs were added -/
noncomputable def addAll (needs : Nat → List Nat) (cs : List Nat) : AS := cs.foldl (fun s c => addS c [] (addS c (needs c) s)) []
theorem rev_ind {P : List Nat → Prop} (h0 : P []) (h1 : ∀ l c, P l → P (l ++ [c])) (l : List Nat) : P l := by
  have : ∀ m : List Nat, P m.reverse := by
    intro m
    induction m with
    | nil => exact h0
    | cons a m ih => rw [List.reverse_cons]; exact h1 _ _ ih
  simpa using this l.reverse
theorem addAll_ok (needs : Nat → List Nat) (cs : List Nat) : cs.Nodup → (∀ z, npOf (addAll needs cs) z = if z ∈ cs then ((needs z).length : Int) else 0) ∧ (∀ p z, (suOf (addAll needs cs) p).count z = if z ∈ cs then (needs z).count p else 0) ∧
    (∀ p, ∀ z ∈ suOf (addAll needs cs) p, z ∈ cs) ∧ (∀ z, z ∈ names (addAll needs cs) ↔ z ∈ cs ∨ ∃ c ∈ cs, z ∈ needs c) ∧ (names (addAll needs cs)).Nodup := by
  refine rev_ind (P := fun cs => cs.Nodup → (∀ z, npOf (addAll needs cs) z = if z ∈ cs then ((needs z).length : Int) else 0) ∧ (∀ p z, (suOf (addAll needs cs) p).count z = if z ∈ cs then (needs z).count p else 0) ∧
    (∀ p, ∀ z ∈ suOf (addAll needs cs) p, z ∈ cs) ∧ (∀ z, z ∈ names (addAll needs cs) ↔ z ∈ cs ∨ ∃ c ∈ cs, z ∈ needs c) ∧ (names (addAll needs cs)).Nodup) ?_ ?_ cs
  · intro _; exact ⟨fun z => rfl, fun p z => rfl, fun p z hz => by simp [addAll, suOf] at hz, fun z => by simp [addAll, names], by simp [addAll, names]⟩
  · intro cs c ih nd
    rw [List.nodup_append] at nd
    obtain ⟨n1, _, n3⟩ := nd
    have hcc : c ∉ cs := fun q => n3 c q c (by simp) rfl
    obtain ⟨h1, h2, h3, h4, h5⟩ := ih n1
    have e : addAll needs (cs ++ [c]) = addS c [] (addS c (needs c) (addAll needs cs)) := by simp [addAll]
    rw [e]
    obtain ⟨a1, a2, a3, a4⟩ := addS_ok c (needs c) (addAll needs cs)
    obtain ⟨b1, b2, b3, b4⟩ := addS_ok c [] (addS c (needs c) (addAll needs cs))
    refine ⟨fun z => ?_, fun p z => ?_, fun p z hz => ?_, fun z => ?_, b4 (a4 h5)⟩
    · rw [b1, a1, h1]
      by_cases e : z = c
      · subst e; simp [hcc]
      · simp [e]
    · rw [b2, a2, List.count_append, List.count_append, h2]
      by_cases e : z = c
      · subst e; simp [hcc]
      · have : ¬ c = z := fun q => e q.symm
        simp [e, List.count_replicate, this]
    · rw [b2, a2] at hz
      simp only [List.mem_append] at hz ⊢
      rcases hz with (q | q) | q
      · exact .inl (h3 p z q)
      · exact .inr (by simp [List.eq_of_mem_replicate q])
      · simp at q
    · rw [b3, a3, h4]
      simp only [List.mem_append, List.mem_singleton, List.not_mem_nil, or_false]
      constructor
      · rintro (((q | ⟨y, y1, y2⟩) | q | q) | q)
        · exact .inl (.inl q)
        · exact .inr ⟨y, .inl y1, y2⟩
        · exact .inl (.inr q)
        · exact .inr ⟨c, .inr rfl, q⟩
        · exact .inl (.inr q)
      · rintro ((q | q) | ⟨y, (y1 | y1), y2⟩)
        · exact .inl (.inl (.inl q))
        · exact .inr q
        · exact .inl (.inl (.inr ⟨y, y1, y2⟩))
        · exact .inl (.inr (.inr (y1 ▸ y2)))
theorem deal_start {needs : Nat → List Nat} (hn : ∀ c < 7, ∀ q ∈ needs c, q < 7) : Deal needs (addAll needs (List.range 7)) (readyOf (addAll needs (List.range 7))) [] [] := by
  obtain ⟨h1, h2, h3, h4, h5⟩ := addAll_ok needs (List.range 7) List.nodup_range
  have hmem : ∀ z, z ∈ names (addAll needs (List.range 7)) ↔ z < 7 := fun z => by
    rw [h4]
    simp only [List.mem_range]
    exact ⟨fun q => q.elim id fun ⟨c, c1, c2⟩ => hn c c1 z c2, .inl⟩
  have hr : ∀ z, z ∈ readyOf (addAll needs (List.range 7)) ↔ z < 7 ∧ needs z = [] := fun z => by
    have key : z ∈ readyOf (addAll needs (List.range 7)) ↔ z ∈ names (addAll needs (List.range 7)) ∧ npOf (addAll needs (List.range 7)) z = 0 := by
      have gen : ∀ s : AS, (names s).Nodup → (z ∈ readyOf s ↔ z ∈ names s ∧ npOf s z = 0) := by
        intro s
        induction s with
        | nil => intro _; simp [readyOf, names]
        | cons q s ih =>
          intro nd
          have nd' : q.1 ∉ names s ∧ (names s).Nodup := List.nodup_cons.mp nd
          have ih := ih nd'.2
          by_cases e : q.1 = z
          · have hz : z ∉ names s := e ▸ nd'.1
            have hzr : z ∉ readyOf s := fun w => hz (ih.mp w).1
            have enp : npOf (q :: s) z = q.2.1 := by simp [npOf, List.find?_cons, e]
            rw [enp]
            by_cases z0 : q.2.1 = 0
            · have : readyOf (q :: s) = q.1 :: readyOf s := by simp [readyOf, List.filter_cons, z0]
              rw [this]; simp [e, z0, names]
            · have : readyOf (q :: s) = readyOf s := by simp [readyOf, List.filter_cons, z0]
              rw [this]; simp [hzr, z0]
          · have enp : npOf (q :: s) z = npOf s z := by simp [npOf, List.find?_cons, e]
            have en : z ∈ names (q :: s) ↔ z ∈ names s := by
              show z ∈ q.1 :: names s ↔ _
              simp [Ne.symm e]
            rw [enp, en, ← ih]
            have e' : ¬ z = q.1 := fun w => e w.symm
            by_cases z0 : q.2.1 = 0
            · have : readyOf (q :: s) = q.1 :: readyOf s := by simp [readyOf, List.filter_cons, z0]
              rw [this]; simp [e']
            · have : readyOf (q :: s) = readyOf s := by simp [readyOf, List.filter_cons, z0]
              rw [this]
      exact gen _ h5
    rw [key, hmem, h1]
    simp only [List.mem_range]
    constructor
    · rintro ⟨q1, q2⟩
      rw [if_pos q1] at q2
      exact ⟨q1, List.eq_nil_of_length_eq_zero (by omega)⟩
    · rintro ⟨q1, q2⟩
      rw [if_pos q1, q2]; exact ⟨q1, rfl⟩
  refine ⟨perm_range h5 hmem, fun p hp c hc => by rw [h2, if_pos (by simpa using hc)], fun p hp q hq => by simpa using h3 p q hq, hn, ?_, fun c => ?_, (fun c hc => by cases hc), (fun c hc => by cases hc), fun c hc _ _ => ?_⟩
  · simp only [List.nil_append]
    unfold readyOf
    refine List.Nodup.sublist ?_ h5
    exact List.Sublist.map _ List.filter_sublist
  · rw [hr]
    simp only [List.not_mem_nil, false_or]
    constructor
    · rintro ⟨q1, q2⟩; exact ⟨q1, by simp, fun q hq => by rw [q2] at hq; cases hq⟩
    · rintro ⟨q1, _, q3⟩
      refine ⟨q1, ?_⟩
      cases hn0 : needs c with
      | nil => rfl
      | cons y ys => have := q3 y (by rw [hn0]; exact .head _); cases this
  · rw [h1, if_pos (by simpa using hc)]
    congr 1
    symm
    rw [List.countP_eq_length]
    intro y _
    simp
end Mine

namespace Mine
open PySem
theorem Topo.tail_of {su : Nat → List Nat} : ∀ {l : List Nat}, Topo su l → ∀ {q x : Nat}, q ∈ l → x ∈ su q → x ∈ l.tail
  | y :: r, h, q, x, hq, hx => by
    show x ∈ r
    cases hq with
    | head => exact h.1 x hx
    | tail _ hq => exact List.mem_of_mem_tail (Topo.tail_of h.2 hq hx)
theorem Topo.drop {su : Nat → List Nat} {pre : List Nat} : ∀ {l : List Nat}, Topo su (pre ++ l) → Topo su l := by
  induction pre with
  | nil => exact id
  | cons y pre ih => intro l h; exact ih h.2
variable {rank : Nat → Int} {needs su : Nat → List Nat} {told : List Nat}
/-- with an order of finishing, all are dealt out -/
theorem all_told (hdue : IsDue rank needs told) (hsu : ∀ c < 7, ∀ q ∈ needs c, q < 7 ∧ c ∈ su q) {dn : List Nat} (ht : Topo su dn) (hall : ∀ c < 7, c ∈ dn) : ∀ c < 7, c ∈ told := by
  have key : ∀ (suf pre : List Nat), dn = pre ++ suf → (∀ y ∈ pre, y ∉ suf → y < 7 → y ∈ told) → ∀ y ∈ suf, y < 7 → y ∈ told := by
    intro suf
    induction suf with
    | nil => intro pre _ _ y hy; cases hy
    | cons x r ih =>
      intro pre e hpre
      have hx : x ∉ r → x < 7 → x ∈ told := by
        intro hxr hx7
        refine Classical.byContradiction fun hxt => hdue.2 x ⟨hx7, hxt, fun q hq => ?_⟩
        obtain ⟨hq7, hxq⟩ := hsu x hx7 q hq
        have hqd := hall q hq7
        rw [e] at hqd
        have hqs : q ∉ x :: r := fun hm => by
          have htx : Topo su (x :: r) := Topo.drop (pre := pre) (by rw [← e]; exact ht)
          exact hxr (htx.tail_of hm hxq)
        rcases List.mem_append.mp hqd with z | z
        · exact hpre q z hqs hq7
        · exact absurd z hqs
      have hr := ih (pre ++ [x]) (by simp [e]) (fun y hy hyr hy7 => by
        rcases List.mem_append.mp hy with z | z
        · by_cases e2 : y = x
          · subst e2; exact hx hyr hy7
          · exact hpre y z (by simp [e2, hyr]) hy7
        · have e2 : y = x := List.mem_singleton.mp z
          subst e2; exact hx hyr hy7)
      intro y hy hy7
      by_cases hyr : y ∈ r
      · exact hr y hyr hy7
      · cases hy with
        | head => exact hx hyr hy7
        | tail _ hy => exact absurd hy hyr
  intro c hc
  exact key dn [] rfl (fun y hy => by cases hy) c (hall c hc) hc
/-- on a ring nobody is dealt out -/
theorem none_told (hpre : DuePre rank needs told) (hsu : ∀ q x, x ∈ su q → x < 7 ∧ q ∈ needs x) {S : List Nat} (hS : Ring su S) : ∀ x ∈ S, x ∉ told := by
  induction hpre with
  | nil => intro x _ hx; cases hx
  | @snoc l c h hm ih =>
    intro x hx hxt
    rcases List.mem_append.mp hxt with z | z
    · exact ih x hx z
    · have e : x = c := List.mem_singleton.mp z
      subst e
      obtain ⟨y, hy, hxy⟩ := hS.2 x hx
      exact ih y hy (hm.1.2.2 y (hsu y x hxy).2)
theorem ring_iff (hdue : IsDue rank needs told) (ring : Bool) (hsu : ∀ p < 7, ∀ c < 7, (su p).count c = (needs c).count p) (hlt : ∀ p, ∀ q ∈ su p, q < 7 ∧ p < 7) (hn : ∀ c < 7, ∀ q ∈ needs c, q < 7)
    (h1 : ring = true → ∃ S, Ring su S) (h2 : ring = false → ∃ dn, Topo su dn ∧ ∀ c < 7, c ∈ dn) : ring = decide (told.length ≠ 7) := by
  obtain ⟨nd, hl⟩ := hdue.1.nd
  cases ring with
  | true =>
    obtain ⟨S, hS⟩ := h1 rfl
    have hno := none_told hdue.1 (su := su) (fun q x hx => by
      obtain ⟨x7, q7⟩ := hlt q x hx
      refine ⟨x7, ?_⟩
      have := hsu q q7 x x7
      have h0 := List.count_pos_iff.mpr hx
      exact List.count_pos_iff.mp (by omega)) hS
    obtain ⟨x, hx⟩ := List.exists_mem_of_ne_nil _ hS.1
    have hx7 : x < 7 := by
      obtain ⟨y, hy, hxy⟩ := hS.2 x hx
      exact (hlt y x hxy).1
    have : (x :: told).length ≤ 7 := nodup_lt (List.nodup_cons.mpr ⟨hno x hx, nd⟩) fun z hz => by
      cases hz with
      | head => exact hx7
      | tail _ hz => exact hl z hz
    simp at this
    symm
    simp only [decide_eq_true_eq]
    omega
  | false =>
    obtain ⟨dn, ht, hall⟩ := h2 rfl
    have hat := all_told hdue (su := su) (fun c hc q hq => by
      have q7 := hn c hc q hq
      refine ⟨q7, ?_⟩
      have := hsu q q7 c hc
      have h0 := List.count_pos_iff.mpr hq
      exact List.count_pos_iff.mp (by omega)) ht hall
    have := (perm_range nd fun c => ⟨hl c, hat c⟩).length_eq
    simp at this
    simp [this]
end Mine

namespace Mine
open PySem PySem.Calls PyProof.Rows PySem.W
section
variable {w : World} {A : Around} {R : GenEnd} {Y : Protocol} {n : Nat} {s₀ : Shared} {c : Code} {fs : List Frame} {s : Shared} {env : Env} {K : Flow → Sem Fin} {H : Value → Sem Fin} {gd : Bool → Bool} {lv : List Value → List Value}
theorem seg_For {target iter : Expr} {body orelse : List Stmt} {pos : Pos}
    (h : wpAny (model pw w) (A.over c fs) (eval iter env) (fun x s₁ => wpAny (model pw w) (A.over c fs) (pyIter x) (fun it s₂ => ∀ p, Seg (model pw w) A R Y n s₀ (.forLoop target it body orelse env) ((model pw w).den (.forLoop target it body orelse env))
      (.ret (fun r => ((match r with | .ok f => (.pure f : Sem Flow) | .error e => .raise e).onRaise fun (x : Value) => do
        if (← field x 1) == Value.none then unsupported "frame.own-activation:exception-without-traceback"
        setFlight x env.frame).wrap K H gd lv) none (gd false) (lv []) c p [] :: fs) s₂) (fun x s' => Seg (model pw w) A R Y n s₀ c (H x) fs s') s₁) (fun x s' => Seg (model pw w) A R Y n s₀ c (H x) fs s') s)
    (hs : ∀ x, foldedSetIterable iter env x = pure x := by intro _; rfl) :
    Seg (model pw w) A R Y n s₀ c ((exec (.For target iter body orelse pos) env).wrap K H gd lv) fs s := by
  rw [exec_For]
  refine seg_at ?_
  show Seg _ A R Y n s₀ c (Sem.wrap K H gd lv (eval iter env >>= fun x => foldedSetIterable iter env x >>= fun x => (standAt iter.pos >>= fun _ => holding [x] (pyIter x) >>= fun it => runOwn (.forLoop target it body orelse env) env))) fs s
  rw [Sem.bind_eq_wrap', Sem.wrap_wrap]
  refine seg_wrap (wpAny_mono h (fun x s₁ h₁ => ?_) fun _ _ q => q)
  rw [hs x]
  refine seg_at ?_
  show Seg _ A R Y n s₀ c (Sem.wrap K H gd lv (holding [x] (pyIter x) >>= fun it => runOwn (.forLoop target it body orelse env) env)) fs s₁
  rw [Sem.bind_eq_wrap', Sem.wrap_wrap]
  refine seg_wrap (wpAny_holding (wpAny_mono h₁ (fun it s₂ h₂ => ?_) fun _ _ q => q))
  exact seg_call h₂
theorem seg_forLoop {target : Expr} {it : Value} {body orelse : List Stmt}
    (h : ∀ E : Value → Shared → Prop, wpAny (model pw w) (A.over (.forLoop target it body orelse env) fs) (pyNext it) (fun r s₁ => match r with
      | none => Seg (model pw w) A R Y n s₀ (.forLoop target it body orelse env) (.pure (.again (.block orelse env))) fs s₁
      | some v => ∀ E : Value → Shared → Prop, wpAny (model pw w) (A.over (.forLoop target it body orelse env) fs) (letOwnedTupleGo target it v) (fun _ s₂ => wpAny (model pw w) (A.over (.forLoop target it body orelse env) fs) (assign target env v) (fun _ s₃ =>
          Seg (model pw w) A R Y n s₀ (.forLoop target it body orelse env) ((execs body env).wrap (fun f => match f with
            | .next | .cont => .pure (.again (.forLoop target it body orelse env))
            | .brk => .pure (.done .next)
            | .ret v => .pure (.done (.ret v))) (fun e => (do noteFrame e env; theTreesLotGoes e : Sem Unit).wrap (fun _ => .raise e) .raise id id) id id) fs s₃) E s₂) E s₁) E s) :
    Seg (model pw w) A R Y n s₀ (.forLoop target it body orelse env) ((model pw w).den (.forLoop target it body orelse env)) fs s := by
  show Seg _ A R Y n s₀ _ ((forTurn target it body orelse env).onRaise (fun x => do noteFrame x env; theTreesLotGoes x)) fs s
  unfold forTurn
  rw [Sem.onRaise_eq_wrap]
  refine seg_at ?_
  show Seg _ A R Y n s₀ _ (Sem.wrap _ _ _ _ ((pyNext it).onRaise _ >>= _)) fs s
  rw [Sem.bind_eq_wrap', Sem.wrap_wrap]
  refine seg_wrap (wpAny_onRaise (wpAny_mono (h _) (fun r s₁ h₁ => ?_) fun _ _ q => q))
  cases r with
  | none => exact h₁
  | some v =>
    dsimp only
    rw [Sem.bind_eq_wrap', Sem.wrap_wrap]
    refine seg_wrap (wpAny_mono (h₁ fun x s' => Seg (model pw w) A R Y n s₀ (.forLoop target it body orelse env) ((do noteFrame x env; theTreesLotGoes x : Sem Unit).bind fun _ => .raise x) fs s') (fun _ s₂ h₂ => ?_) fun x s' q => q)
    show Seg _ A R Y n s₀ _ (Sem.wrap _ _ _ _ (assign target env v >>= _)) fs s₂
    rw [Sem.bind_eq_wrap', Sem.wrap_wrap]
    refine seg_wrap (wpAny_mono h₂ (fun _ s₃ h₃ => ?_) fun x s' q => q)
    show Seg _ A R Y n s₀ _ (Sem.wrap _ _ _ _ (execs body env >>= _)) fs s₃
    rw [Sem.bind_eq_wrap', Sem.wrap_wrap]
    rw [Sem.wrap_congr (execs body env) _ _ (K' := fun f => match f with
          | .next | .cont => .pure (.again (.forLoop target it body orelse env))
          | .brk => .pure (.done .next)
          | .ret v => .pure (.done (.ret v))) (H' := (fun e => (do noteFrame e env; theTreesLotGoes e : Sem Unit).wrap (fun _ => .raise e) .raise id id))
      (fun f => by cases f <;> rfl)
      (fun e => by first | exact Sem.bind_eq_wrap _ _ | (show (do noteFrame e env; theTreesLotGoes e : Sem Unit).bind (fun _ => .raise e) = _; rw [Sem.bind_eq_wrap]))]
    exact h₃
theorem seg_block0 (h : Seg (model pw w) A R Y n s₀ (.block [] env) (.pure (.done .next)) fs s) : Seg (model pw w) A R Y n s₀ (.block [] env) ((model pw w).den (.block [] env)) fs s := h
end
end Mine

namespace Mine
open PySem PySem.Calls PyProof.Rows PySem.W
noncomputable def enP (it : Addr) (i : Int) (o : Obj) : Prop := ∃ old, o = { cls := .type "enumerate", dict := none, data := .fields #[.none, .bool false, .ref it, rawInt i, .none, old], slots := #[] }
noncomputable def enOut (it : Addr) (i : Int) (T : Addr) (o : Obj) : Prop := ∃ item, o = { cls := .type "enumerate", dict := none, data := .fields #[rawInt T, .bool false, .ref it, rawInt i, .none, item], slots := #[] }
section
variable {w : World} {A : Around} {E : Value → Shared → Prop} {H h h' : Heap} {G : Led} {env : Env} {g : Array GenState} {d : Drawn} {tk : Nat} {os : OsState} {a e it : Addr} {x : Str}
theorem iterSelfE {i : Int} {Q : Value → Shared → Prop} (S : Sym H h G) (m : (e, enP it i) ∈ G) (k : Q (.ref e) ⟨h, g, d, tk, os⟩) : wpAny (model pw w) A (pyIter (.ref e)) Q E ⟨h, g, d, tk, os⟩ := by
  obtain ⟨o, eo, old, rfl⟩ := S.get m
  exact wpAny_pyIter_enum (s := ⟨h, g, d, tk, os⟩) eo k
theorem nextE {i c : Nat} {Q : Option Value → Shared → Prop} (hh : A.handled = none) (S : Sym H h ((e, enP it i) :: (it, strItP x i) :: G)) (hc : x.cps[i]? = some c)
    (k : ∀ T h' t t' tk', Sym H h' ((T, tupP [.int i t, .str ⟨#[c]⟩ t']) :: (e, enOut it ((i : Int) + 1) T) :: (it, strItP x (i + 1)) :: G) → Q (some (.ref T)) ⟨h', g, d, tk', os⟩) :
    wpAny (model pw w) A (pyNext (.ref e)) Q E ⟨h, g, d, tk, os⟩ := by
  obtain ⟨o, eo, old, rfl⟩ := S.head
  obtain ⟨o2, e2, t2, p1, p2⟩ := S.get (.tail _ (.head _))
  have hne : e ≠ it := (S.ne (.head _)).symm
  have hlt := (Array.getElem?_eq_some_iff.mp hc).1
  refine wpAny_pyNext_enum_itemD (s := ⟨h, g, d, tk, os⟩) (Draws.strAscii (A := A.in1) hh it x t2) eo ⟨o2, e2, p1, p2⟩ hlt hne (by simpa using hne) fun v h1 tk1 hv ho hs hT hsz hk => ?_
  obtain ⟨c', u, hc', rfl⟩ := hv
  rw [hc] at hc'
  cases hc'
  obtain ⟨o3, e3, p3, p4⟩ := hs
  refine k h.objs.size h1 tk1 u _ ⟨fun b o eb => ?_, fun p hp => ?_, fun p hp => ?_, ?_⟩
  · refine hk b o (fun z => ?_) (fun z => ?_) (S.keep b o eb)
    · have := S.new _ (.head _); dsimp only at this; rw [z, this] at eb; cases eb
    · have := S.new _ (.tail _ (.head _)); dsimp only at this; rw [z, this] at eb; cases eb
  · rcases List.mem_cons.mp hp with rfl | hp
    · exact ⟨_, hT, 0, rfl⟩
    · rcases List.mem_cons.mp hp with rfl | hp
      · exact ⟨_, ho, _, rfl⟩
      · rcases List.mem_cons.mp hp with rfl | hp
        · exact ⟨o3, e3, t2, p3, p4⟩
        · obtain ⟨o, eo', q⟩ := S.ent p (.tail _ (.tail _ hp))
          exact ⟨o, hk _ _ (S.ne (.tail _ hp)) (S.tail.ne hp) eo', q⟩
  · rcases List.mem_cons.mp hp with rfl | hp
    · exact S.none_of (Sym.size_none _)
    · rcases List.mem_cons.mp hp with rfl | hp
      · exact S.new (e, enP it i) (.head _)
      · rcases List.mem_cons.mp hp with rfl | hp
        · exact S.new (it, strItP x i) (.tail _ (.head _))
        · exact S.new p (.tail _ (.tail _ hp))
  · have nd := S.nd
    have f := S.fresh (Sym.size_none h)
    simp only [List.map_cons, List.nodup_cons, List.mem_cons, not_or] at nd f ⊢
    exact ⟨f, nd⟩
theorem endE {i : Int} {Q : Option Value → Shared → Prop} (hh : A.handled = none) (S : Sym H h ((e, enP it i) :: (it, strItP x x.cps.size) :: G)) (k : ∀ h', Sym H h' ((e, enP it i) :: G) → Q none ⟨h', g, d, tk, os⟩) :
    wpAny (model pw w) A (pyNext (.ref e)) Q E ⟨h, g, d, tk, os⟩ := by
  obtain ⟨o, eo, old, rfl⟩ := S.head
  obtain ⟨o2, e2, t2, p1, p2⟩ := S.get (.tail _ (.head _))
  exact wpAny_pyNext_enum_endD (s := ⟨h, g, d, tk, os⟩) (Draws.strAscii (A := A.in1) hh it x t2) eo ⟨o2, e2, p1, p2⟩ fun h' hx => k h' (S.swap.extTail hx)
theorem ownE {elts : List Expr} {x1} {tp : Pos} {i : Int} {T : Addr} {Q : Unit → Shared → Prop} (S : Sym H h ((e, enOut it i T) :: G)) (k : ∀ h', Sym H h' ((e, enP it i) :: G) → Q () ⟨h', g, d, tk, os⟩) :
    wpAny (model pw w) A (letOwnedTupleGo (.Tuple elts x1 tp) (.ref e) (.ref T)) Q E ⟨h, g, d, tk, os⟩ := by
  obtain ⟨o, eo, item, rfl⟩ := S.head
  exact wpAny_letOwnedTupleGo_enum (s := ⟨h, g, d, tk, os⟩) eo fun h' he hs => k h' (S.upd hs he ⟨_, rfl⟩)
end
section
variable {w : World} {A : Around} {R : GenEnd} {Y : Protocol} {n : Nat} {s₀ : Shared} {c : Code} {fs : List Frame} {s : Shared} {env : Env} {K : Flow → Sem Fin} {H : Value → Sem Fin} {gd : Bool → Bool} {lv : List Value → List Value}
theorem seg_If {test : Expr} {body orelse : List Stmt} {pos : Pos}
    (h : ∀ E : Value → Shared → Prop, wpAny (model pw w) (A.over c fs) (isTrue test env (eval test env)) (fun b s' => if b = true then Seg (model pw w) A R Y n s₀ c ((execs body env).wrap K H gd lv) fs s' else Seg (model pw w) A R Y n s₀ c ((execs orelse env).wrap K H gd lv) fs s') E s) :
    Seg (model pw w) A R Y n s₀ c ((exec (.If test body orelse pos) env).wrap K H gd lv) fs s := by
  rw [exec_If]
  refine seg_at ?_
  show Seg _ A R Y n s₀ c (Sem.wrap K H gd lv (isTrue test env (eval test env) >>= _)) fs s
  rw [Sem.bind_eq_wrap', Sem.wrap_wrap]
  refine seg_wrap (wpAny_mono (h fun x s' => Seg (model pw w) A R Y n s₀ c (H x) fs s') (fun b s' q => ?_) fun _ _ q => q)
  cases b with
  | true => exact q
  | false => exact q
/-- a statement that neither yields nor raises -/
theorem seg_stmt {st : Stmt} (h : ∀ E : Value → Shared → Prop, wpAny (model pw w) (A.over c fs) (exec st env) (fun f s' => Seg (model pw w) A R Y n s₀ c (K f) fs s') E s) : Seg (model pw w) A R Y n s₀ c ((exec st env).wrap K H gd lv) fs s :=
  seg_wrap (h fun x s' => Seg (model pw w) A R Y n s₀ c (H x) fs s')
end
end Mine

namespace Mine
open PySem PySem.Calls PyProof.Rows PySem.W
/-- the generator's own things -/
structure PrivAt (x : Str) (Lg e it : Addr) (k : Nat) (h : Heap) : Prop where
  fr : ∃ o, h.get? Lg = some o ∧ ∃ t, nsP [("escape", .bool false), ("addr", .str x t)] o
  en : ∃ o, h.get? e = some o ∧ enP it k o
  si : ∃ o, h.get? it = some o ∧ strItP x k o
abbrev KeepBut (Lg e it : Addr) (h₀ h' : Heap) : Prop := ∀ b o, b ≠ Lg → b ≠ e → b ≠ it → h₀.get? b = some o → h'.get? b = some o
noncomputable def Yp (x : Str) (Lg e it : Addr) : Protocol := fun m s₀ v s' kap => ∃ h' tk' T t t' c, s' = ⟨h', s₀.gens, s₀.drawn, tk', s₀.os⟩ ∧ v = .ref T ∧ m + 1 ≤ x.cps.size ∧ x.cps[x.cps.size - (m + 1)]? = some c ∧ (T ≠ Lg ∧ T ≠ e ∧ T ≠ it ∧ s₀.heap.get? T = none) ∧
  (∃ o, h'.get? T = some o ∧ tupP [.int (x.cps.size - (m + 1) : Nat) t, .str ⟨#[c]⟩ t'] o) ∧ KeepBut Lg e it s₀.heap h' ∧ PrivAt x Lg e it (x.cps.size - m) h' ∧
  ∀ s'', PrivAt x Lg e it (x.cps.size - m) s''.heap → kap (.send .none) s''
noncomputable def Rp (Lg e it : Addr) : Nat → Shared → Shared → Prop := fun n s₀ s₁ => n = 0 ∧ ∃ h' tk', s₁ = ⟨h', s₀.gens, s₀.drawn, tk', s₀.os⟩ ∧ KeepBut Lg e it s₀.heap h'
section
variable {w : World} {A : Around} {E : Value → Shared → Prop} {H h h' : Heap} {G : Led} {env : Env} {g : Array GenState} {d : Drawn} {tk : Nat} {os : OsState} {x : Str} {Lg e it : Addr}
theorem stLz {l : List (Str × Value)} {y : Str} {v : Value} {M : Model} {Q : Unit → Shared → Prop} (S : Sym H h ((env.locals, nsP l) :: G))
    (k : ∀ h' tk', h'.objs.size = h.objs.size → Sym H h' ((env.locals, nsP ((y, v) :: l)) :: G) → Q () ⟨h', g, d, tk', os⟩)
    (hl : env.kindOf y = some .local := by rfl) (hp : (env.scope.kind == .class || (env.scope.kind == .module && env.locals != env.globals)) = false := by rfl) :
    wpAny M A (storeName env y v) Q E ⟨h, g, d, tk, os⟩ := by
  obtain ⟨m, hn, q⟩ := S.ns (.head _)
  refine wpAny_storeName_local hl hn (fun h' hn' hs => k h' _ hs.1 ?_) hp
  obtain ⟨o, e, p⟩ := nsP.of (l := (y, v) :: l) hn' (fun z u => lookup_cons_if q z u)
  exact S.upd hs e p
noncomputable def forT : Expr := match ((bodyOf fdIter)[2]? : Option Stmt) with | some (.For t _ _ _ _) => t | _ => .Name "" ⟨0, 0, 0, 0⟩
noncomputable def forB : List Stmt := match ((bodyOf fdIter)[2]? : Option Stmt) with | some (.For _ _ b _ _) => b | _ => []
theorem PrivAt.sym {k : Nat} (P : PrivAt x Lg e it k h) (h1 : Lg ≠ e) (h2 : Lg ≠ it) (h3 : e ≠ it) : ∃ t, Sym (hideAll h [Lg, e, it]) h [(e, enP it k), (it, strItP x k), (Lg, nsP [("escape", .bool false), ("addr", .str x t)])] := by
  obtain ⟨o1, e1, t, q1⟩ := P.fr
  obtain ⟨o2, e2, q2⟩ := P.en
  obtain ⟨o3, e3, q3⟩ := P.si
  refine ⟨t, fun b o q => of_hideAll _ q, fun p hp => ?_, fun p hp => hideAll_none _ ?_, ?_⟩
  · simp only [List.mem_cons, List.not_mem_nil, or_false] at hp
    rcases hp with rfl | rfl | rfl
    · exact ⟨o2, e2, q2⟩
    · exact ⟨o3, e3, q3⟩
    · exact ⟨o1, e1, q1⟩
  · simp only [List.mem_cons, List.not_mem_nil, or_false] at hp ⊢
    rcases hp with rfl | rfl | rfl
    · exact .inr (.inl rfl)
    · exact .inr (.inr rfl)
    · exact .inl rfl
  · simp only [List.map_cons, List.map_nil, List.nodup_cons, List.mem_cons, List.not_mem_nil, or_false, not_or, List.nodup_nil, and_true, not_false_eq_true]
    exact ⟨⟨h3, Ne.symm h1⟩, Ne.symm h2⟩
theorem keepBut_of {h₀ : Heap} (S : Sym (hideAll h [Lg, e, it]) h' G) (hk : KeepBut Lg e it h₀ h) : KeepBut Lg e it h₀ h' := fun b o b1 b2 b3 q =>
  S.keep b o (hideAll_get _ (hk b o b1 b2 b3 q) (by simp [b1, b2, b3]))
theorem gn {N k m : Nat} (h : N - k = m + 1) : k < N ∧ N - (m + 1) = k ∧ N - m = k + 1 ∧ m + 1 ≤ N ∧ m = N - (k + 1) := by omega
set_option maxHeartbeats 4000000 in
theorem loop_seg {fs : List Frame} (hx : ∀ c ∈ x.cps.toList, c ≠ 92) (h1 : Lg ≠ e) (h2 : Lg ≠ it) (h3 : e ≠ it) (hfs : splitAtGen fs = none) (hfg : fs.any Frame.guarded = false)
    (hh : (A.over (.forLoop forT (.ref e) forB [] (callEnv fdIter Lg 28)) fs).handled = none)
    (hend : ∀ h₀ h (g : Array GenState) (d : Drawn) tk₀ tk (os : OsState), (∃ o, h.get? Lg = some o ∧ ∃ t, nsP [("escape", .bool false), ("addr", .str x t)] o) → KeepBut Lg e it h₀ h →
      Seg (model pw w) A (fun n s₀ r s₁ => r = .ok (.ret .none) ∧ Rp Lg e it n s₀ s₁) (Yp x Lg e it) 0 ⟨h₀, g, d, tk₀, os⟩ (.forLoop forT (.ref e) forB [] (callEnv fdIter Lg 28)) (.pure (.again (.block [] (callEnv fdIter Lg 28)))) fs ⟨h, g, d, tk, os⟩) :
    ∀ m k h₀ h (g : Array GenState) (d : Drawn) tk₀ tk (os : OsState), m = x.cps.size - k → k ≤ x.cps.size → PrivAt x Lg e it k h → KeepBut Lg e it h₀ h →
      Seg (model pw w) A (fun n s₀ r s₁ => r = .ok (.ret .none) ∧ Rp Lg e it n s₀ s₁) (Yp x Lg e it) m ⟨h₀, g, d, tk₀, os⟩ (.forLoop forT (.ref e) forB [] (callEnv fdIter Lg 28)) ((model pw w).den (.forLoop forT (.ref e) forB [] (callEnv fdIter Lg 28))) fs ⟨h, g, d, tk, os⟩ := by
  intro m
  induction m with
  | zero =>
    intro k h₀ h g d tk₀ tk os hm hk P hfrm
    have hkN : k = x.cps.size := Nat.le_antisymm hk (Nat.sub_eq_zero_iff_le.mp hm.symm)
    obtain ⟨t, S⟩ := P.sym h1 h2 h3
    refine seg_forLoop fun E => ?_
    subst hkN
    refine endE hh S fun h2 S2 => hend h₀ h2 g d tk₀ tk os ?_ ?_
    · obtain ⟨o, q1, q2⟩ := S2.tail.head
      exact ⟨o, q1, t, q2⟩
    · exact keepBut_of S2 hfrm
  | succ m ih =>
    intro k h₀ h g d tk₀ tk os hm hk P hfrm
    obtain ⟨t, S⟩ := P.sym h1 h2 h3
    have hlt : k < x.cps.size := (gn hm.symm).1
    obtain ⟨c, hc⟩ : ∃ c, x.cps[k]? = some c := ⟨_, Array.getElem?_eq_getElem hlt⟩
    refine seg_forLoop fun E => ?_
    refine nextE hh S hc fun T h1 t1 t1' tk1 S1 => ?_
    intro E2
    refine ownE S1.swap fun h2 S2 => ?_
    have S2 := S2.front 3 rfl
    refine asgTt hh S2 (.tail _ (.tail _ (.head _))) rfl rfl fun h3 S3 => ?_
    refine assignInOrder_cons (wpAny_assign_Name (stL (env := callEnv fdIter Lg 28) S3 fun h4 tk4 S4 => assignInOrder_cons (wpAny_assign_Name (stL (env := callEnv fdIter Lg 28) S4 fun h5 tk5 S5 => assignInOrder_nil ?_))))
    refine seg_execs_cons (seg_If fun E3 => isEx (ldL (env := callEnv fdIter Lg 28) S5 rfl (wpAny_truthy_bool (itF rfl ?_))))
    refine seg_execs_cons (seg_If fun E4 => wpAny_isTrue_Compare1 (ldL (env := callEnv fdIter Lg 28) S5 rfl (cStr fun t6 tk6 => PySem.P.eq_str (wpAny_truthy_bool (itF ?_ ?_)))))
    · have : c ≠ 92 := hx c (by simpa using Array.mem_of_getElem? hc)
      have e92 : (Str.ofString "\\").cps.toList = [92] := by decide
      simpa [e92] using this
    have hn1 : x.cps.size - (m + 1) = k := (gn hm.symm).2.1
    have hn2 : x.cps.size - m = k + 1 := (gn hm.symm).2.2.1
    refine seg_execs_cons (seg_Expr_Yield hfs rfl hfg (Tuple_ (spliced_cons (ldL (env := callEnv fdIter Lg 28) S5 rfl (spliced_cons (ldL (env := callEnv fdIter Lg 28) S5 rfl (spliced_nil (wpAny_newTuple ?_))))))))
    intro kap hkap
    have S6 := S5.push (o := { cls := .type "tuple", data := .seq [Value.int k t1, .str ⟨#[c]⟩ t1'].toArray }) (P := tupP [.int k t1, .str ⟨#[c]⟩ t1']) rfl ⟨0, rfl⟩
    obtain ⟨b, hb⟩ : ∃ b : Addr, h5.objs.size = b := ⟨_, rfl⟩
    rw [hb] at S6 ⊢
    have S6 : Sym (hideAll h [Lg, e, it]) (h5.push { cls := .type "tuple", data := .seq [Value.int k t1, .str ⟨#[c]⟩ t1'].toArray }) ((b, tupP [.int k t1, .str ⟨#[c]⟩ t1']) :: (Lg, nsP [("ch", .str ⟨#[c]⟩ t1'), ("pos", .int k t1), ("escape", .bool false), ("addr", .str x t)]) :: (e, enP it (((k : Nat) : Int) + 1)) :: (T, tupP [.int k t1, .str ⟨#[c]⟩ t1']) :: (it, strItP x (k + 1)) :: []) := S6
    have hnd := S6.nd
    simp only [List.map_cons, List.nodup_cons, List.mem_cons, not_or] at hnd
    have hb0 := S6.new _ (.head _)
    dsimp only at hb0
    have hbh : h.get? b = none := by
      cases q : h.get? b with
      | none => rfl
      | some o => rw [hideAll_get _ q (by simp [hnd.1])] at hb0; cases hb0
    have hb00 : h₀.get? b = none := by
      cases q : h₀.get? b with
      | none => rfl
      | some o => rw [hfrm b o hnd.1.1 hnd.1.2.1 hnd.1.2.2.2.1 q] at hbh; cases hbh
    obtain ⟨o1, q1, r1⟩ := S6.head
    obtain ⟨o2, q2, r2⟩ := S6.tail.head
    obtain ⟨o3, q3, r3⟩ := S6.tail.tail.head
    obtain ⟨o4, q4, r4⟩ := S6.tail.tail.tail.tail.head
    have P' : PrivAt x Lg e it (k + 1) (h5.push { cls := .type "tuple", data := .seq [Value.int k t1, .str ⟨#[c]⟩ t1'].toArray }) := by
      refine ⟨⟨o2, q2, t, ?_⟩, ⟨o3, q3, by exact_mod_cast r3⟩, ⟨o4, q4, r4⟩⟩
      obtain ⟨mm, es, ep, z1, z2, z3, z4⟩ := r2
      refine ⟨mm, es, ep, z1, z2, z3, fun y v hy => ?_⟩
      have : NsHas [("ch", .str ⟨#[c]⟩ t1'), ("pos", .int k t1), ("escape", .bool false), ("addr", .str x t)] [("escape", .bool false), ("addr", .str x t)] := ⟨rfl, rfl, trivial⟩
      exact z4 y v (this.mem _ (mem_of_lookup hy))
    refine ⟨_, tk6, b, t1, t1', c, rfl, rfl, (gn hm.symm).2.2.2.1, by rw [hn1]; exact hc, ⟨hnd.1.1, hnd.1.2.1, hnd.1.2.2.2.1, hb00⟩, ⟨o1, q1, by rw [hn1]; exact r1⟩, keepBut_of S6 hfrm, by rw [hn2]; exact P', fun s'' P'' => ?_⟩
    rw [hn2] at P''
    obtain ⟨hx1, gx, dx, tx, ox⟩ := s''
    refine hkap _ _ ?_
    refine seg_again rfl (ih (k + 1) hx1 hx1 gx dx tx tx ox (gn hm.symm).2.2.2.2 hlt P'' fun b o _ _ _ q => q)
end
end Mine

namespace Mine
open PySem PySem.Calls PyProof.Rows PySem.W
section
variable {w : World} {A : Around} {E : Value → Shared → Prop} {H h h' : Heap} {G : Led} {env : Env} {g : Array GenState} {d : Drawn} {tk : Nat} {os : OsState} {x : Str} {Lg e it : Addr}
theorem enumSz {t : Tok} {Q : Value → Shared → Prop} (hx : x.cps.all (· < 128) = true) (S : Sym H h G) (k : ∀ h', Sym H h' ((h.objs.size + 1, enP h.objs.size 0) :: (h.objs.size, strItP x 0) :: G) → Q (.ref (h.objs.size + 1)) ⟨h', g, d, tk, os⟩) :
    wpAny (model pw w) A (call (.type "enumerate") [.str x t]) Q E ⟨h, g, d, tk, os⟩ := by
  refine call_enumerate_str fun h1 he hi hsz hk => ?_
  have hty : strIterType x = "str_ascii_iterator" := by simp [strIterType, hx]
  rw [hty] at hi
  obtain ⟨o, eo, p1, p2⟩ := hi
  have hkb : ∀ b o, h.get? b = some o → h1.get? b = some o := hk
  refine k h1 ⟨fun b o e => hkb b o (S.keep b o e), fun p hp => ?_, fun p hp => ?_, ?_⟩
  · rcases List.mem_cons.mp hp with rfl | hp
    · exact ⟨_, he, _, rfl⟩
    · rcases List.mem_cons.mp hp with rfl | hp
      · exact ⟨o, eo, t, p1, p2⟩
      · obtain ⟨o, e, q⟩ := S.ent p hp
        exact ⟨o, hkb _ _ e, q⟩
  · rcases List.mem_cons.mp hp with rfl | hp
    · exact S.none_of (Heap.get?_none_of_le (by simp))
    · rcases List.mem_cons.mp hp with rfl | hp
      · exact S.none_of (Sym.size_none _)
      · exact S.new p hp
  · simp only [List.map_cons, List.nodup_cons, List.mem_cons, not_or]
    exact ⟨⟨(show ¬ (h.objs.size + 1 : Nat) = h.objs.size by omega), S.fresh (Heap.get?_none_of_le (by simp))⟩, S.fresh (Sym.size_none _), S.nd⟩
abbrev GEnd (Lg e it : Addr) : GenEnd := fun n s₀ r s₁ => r = .ok (.ret .none) ∧ Rp Lg e it n s₀ s₁
set_option maxHeartbeats 4000000 in
theorem gen_seg {t : Tok} (N : Globs H) (hA : A.handled = none) (hx : ∀ c ∈ x.cps.toList, c ≠ 92) (hx2 : x.cps.all (· < 128) = true) (S : Sym H h ((Lg, nsP [("addr", .str x t)]) :: G)) :
    Seg (model pw w) A (GEnd Lg (h.objs.size + 1) h.objs.size) (Yp x Lg (h.objs.size + 1) h.objs.size) x.cps.size ⟨h, g, d, tk, os⟩ (.func (bodyOf fdIter) (callEnv fdIter Lg 28)) ((model pw w).den (.func (bodyOf fdIter) (callEnv fdIter Lg 28))) [] ⟨h, g, d, tk, os⟩ := by
  have hLlt : Lg < h.objs.size := by
    obtain ⟨o, q, _⟩ := S.head
    exact Heap.lt_size q
  have S0 : Sym (hideAll h [Lg]) h [(Lg, nsP [("addr", .str x t)])] := by
    obtain ⟨o, q, r⟩ := S.head
    refine ⟨fun b o q => of_hideAll _ q, fun p hp => ?_, fun p hp => hideAll_none _ ?_, by simp⟩
    · simp only [List.mem_cons, List.not_mem_nil, or_false] at hp
      subst hp; exact ⟨o, q, r⟩
    · simp only [List.mem_cons, List.not_mem_nil, or_false] at hp
      subst hp; simp
  refine seg_func ?_
  refine seg_execs_cons (seg_stmt fun E => wpAny_Assign_Name (cInt fun t1 tk1 => stLz (env := callEnv fdIter Lg 28) S0 fun h1 tk2 z1 S1 => ?_))
  refine seg_execs_cons (seg_stmt fun E => wpAny_Assign_Name (cBool (stLz (env := callEnv fdIter Lg 28) S1 fun h2 tk3 z2 S2 => ?_)))
  refine seg_execs_cons (seg_For ?_)
  have keepH : Keeps H h2 := fun b o q => S2.keep b o (hideAll_get _ (S.keep b o q) (by
    intro hm
    simp only [List.mem_cons, List.not_mem_nil, or_false] at hm
    subst hm
    have := S.new _ (.head _)
    dsimp only at this
    rw [this] at q; cases q))
  refine eCallT N keepH rfl (spliced_cons (ldL (env := callEnv fdIter Lg 28) S2 rfl (spliced_nil (enumSz hx2 S2 fun h3 S3 => ?_))))
  have z : h2.objs.size = h.objs.size := z2.trans z1
  rw [z] at S3 ⊢
  refine iterSelfE S3 (.head _) fun p => ?_
  have hne1 : Lg ≠ h.objs.size + 1 := Nat.ne_of_lt (Nat.lt_succ_of_lt hLlt)
  have hne2 : Lg ≠ h.objs.size := Nat.ne_of_lt hLlt
  have hne3 : (h.objs.size + 1 : Addr) ≠ h.objs.size := Nat.succ_ne_self _
  obtain ⟨o1, q1, r1⟩ := S3.head
  obtain ⟨o2, q2, r2⟩ := S3.tail.head
  obtain ⟨o3, q3, r3⟩ := S3.tail.tail.head
  refine loop_seg hx hne1 hne2 hne3 rfl rfl (by exact hA) ?_ _ 0 _ h3 _ _ _ _ _ (by simp) (Nat.zero_le _) ⟨⟨o3, q3, t, ?_⟩, ⟨o1, q1, r1⟩, ⟨o2, q2, r2⟩⟩ ?_
  · intro h₀ hN g1 d1 tk₀ tkN os1 hfr hkp
    obtain ⟨oF, qF, tF, rF⟩ := hfr
    refine seg_again rfl (seg_block0 (seg_leaf (.ok .next) ?_))
    have SN : Sym (hideAll hN [Lg]) hN [(Lg, nsP [("escape", .bool false), ("addr", .str x tF)])] := by
      refine ⟨fun b o q => of_hideAll _ q, fun p hp => ?_, fun p hp => hideAll_none _ ?_, by simp⟩
      · simp only [List.mem_cons, List.not_mem_nil, or_false] at hp
        subst hp; exact ⟨oF, qF, rF⟩
      · simp only [List.mem_cons, List.not_mem_nil, or_false] at hp
        subst hp; simp
    refine seg_execs_cons (seg_If fun E3 => isEx (ldL (env := callEnv fdIter Lg 28) SN rfl (wpAny_truthy_bool (itF rfl ?_))))
    refine seg_execs_nil (seg_execs_nil ?_)
    exact seg_end (.ok (.ret .none)) ⟨rfl, rfl, hN, tkN, rfl, hkp⟩
  · obtain ⟨mm, es, ep, z1, z2, z3, z4⟩ := r3
    refine ⟨mm, es, ep, z1, z2, z3, fun y v hy => ?_⟩
    have : NsHas [("escape", .bool false), ("pos", .int 0 t1), ("addr", .str x t)] [("escape", .bool false), ("addr", .str x t)] := ⟨rfl, rfl, trivial⟩
    exact z4 y v (this.mem _ (mem_of_lookup hy))
  · intro b o b1 b2 b3 q
    exact S3.keep b o (hideAll_get _ q (by simp [b1]))
end
end Mine

namespace Mine
open PySem PySem.Calls PyProof.Rows PySem.W
noncomputable def genP (gi : Nat) (o : Obj) : Prop := ∃ nm qn, o.cls = .type "generator" ∧ o.data = .fields #[.int gi 0, nm, qn] ∧ o.slots = #[]
noncomputable def privL (x : Str) (Lg e it : Addr) (k : Nat) (t : Tok) : Led := [(e, enP it k), (it, strItP x k), (Lg, nsP [("escape", .bool false), ("addr", .str x t)])]
/-- where the generator stands: the ledger of its own things, and its state -/
inductive GenS (w : World) (A : Around) (x : Str) : Nat → Led → GenState → Prop
  | fresh {Lg : Addr} {t : Tok} : GenS w A x 0 [(Lg, nsP [("addr", .str x t)])] (.fresh (.func (bodyOf fdIter) (callEnv fdIter Lg 28)))
  | susp {k : Nat} {Lg e it : Addr} {t : Tok} {gs : GenState} : (∀ s'', PrivAt x Lg e it k s''.heap → gs.Goes (model pw w) A.in1 (GEnd Lg e it) (Yp x Lg e it) (x.cps.size - k) (.send .none) s'') → GenS w A x k (privL x Lg e it k t) gs
section
variable {w : World} {A : Around} {E : Value → Shared → Prop} {H h h' : Heap} {G PL : Led} {env : Env} {g : Array GenState} {d : Drawn} {tk : Nat} {os : OsState} {x : Str} {Lg e it ga : Addr} {k : Nat} {gs : GenState}
theorem callGen {t : Tok} {Q : Value → Shared → Prop} (hf : FnAt H 28 fdIter) (hl : H.NoLimit) (hroom : A.depth < recursionLimit) (S : Sym H h G)
    (q : ∀ h' ga PL gs tk', GenS w A x 0 PL gs → Sym H h' ((ga, genP g.size) :: (PL ++ G)) → Q (.ref ga) ⟨h', g.push gs, d, tk', os⟩) :
    wpAny (model pw w) A (call (.ref 28) [.str x t]) Q E ⟨h, g, d, tk, os⟩ := by
  obtain ⟨o, ho, hd⟩ := hf.at_
  refine wpAny_call (codeAny_call_generator hroom (S.keep _ _ ho) hd rfl rfl rfl (hf.code.keeps S.keep) ?_)
  have hb : BindsTo ⟨h, g, d, tk, os⟩ fdIter ⟨[.str x t], []⟩ [("addr", .str x t)] := BindsTo.of_eq rfl
  refine hb _ _ _ _ ?_
  refine wpAny_newFunctionEnv (by decide) (locs (binds := [("addr", .str x t)]) rfl) (fun h₀ hns₀ hsb₀ => ⟨(hl.keeps S.keep).fresh _ hsb₀, ?_⟩) rfl
  have k1 : ∀ b o, h.get? b = some o → h₀.get? b = some o := fun b o e => hsb₀.extBut b o (Nat.ne_of_lt (Heap.lt_size e)) (Heap.get?_push_of_some _ e)
  obtain ⟨ob, eo, p⟩ := nsP.of (l := [("addr", .str x t)]) hns₀ (fun x v q => q)
  have S1 : Sym H h₀ ((h.objs.size, nsP [("addr", .str x t)]) :: G) := S.alloc k1 (Sym.size_none _) eo p
  exact q _ _ _ _ _ .fresh (S1.push rfl ⟨_, _, rfl, rfl, rfl⟩)
theorem Sym.gen {gi : Nat} (S : Sym H h G) (m : (ga, genP gi) ∈ G) : h.IsGen ga gi := by
  obtain ⟨o, e, nm, qn, a, b, c⟩ := S.get m
  exact ⟨o, nm, qn, e, a, b, c⟩
theorem iterGen {gi : Nat} {Q : Value → Shared → Prop} (S : Sym H h G) (m : (ga, genP gi) ∈ G) (k : Q (.ref ga) ⟨h, g, d, tk, os⟩) : wpAny (model pw w) A (pyIter (.ref ga)) Q E ⟨h, g, d, tk, os⟩ :=
  wpAny_pyIter_gen (s := ⟨h, g, d, tk, os⟩) (S.gen m) k
theorem getPush (g : Array GenState) (gs : GenState) : (g.push gs)[g.size]? = some gs := by simp
theorem setPush (h : Heap) (g : Array GenState) (d : Drawn) (tk : Nat) (os : OsState) (gs gs' : GenState) : (⟨h, g.push gs, d, tk, os⟩ : Shared).setGen g.size gs' = ⟨h, g.push gs', d, tk, os⟩ := by
  unfold Shared.setGen
  congr 1
  apply Array.ext'
  simp
/-- the ledger after a turn -/
theorem turn_sym {T : Addr} {k : Nat} {P0 : Led} {P : Obj → Prop} (S : Sym H h (P0 ++ G)) (hP0 : ∀ p ∈ G, p.1 ≠ Lg ∧ p.1 ≠ e ∧ p.1 ≠ it) (hH : H.get? Lg = none ∧ H.get? e = none ∧ H.get? it = none) (h1 : Lg ≠ e) (h2 : Lg ≠ it) (h3 : e ≠ it)
    (hT : T ≠ Lg ∧ T ≠ e ∧ T ≠ it ∧ h.get? T = none) (hT2 : ∃ o, h'.get? T = some o ∧ P o) (hk : KeepBut Lg e it h h') (hp : PrivAt x Lg e it k h') : ∃ t, Sym H h' ((T, P) :: (privL x Lg e it k t ++ G)) := by
  obtain ⟨o1, e1, t, q1⟩ := hp.fr
  obtain ⟨o2, e2, q2⟩ := hp.en
  obtain ⟨o3, e3, q3⟩ := hp.si
  have hne : ∀ b o, H.get? b = some o → b ≠ Lg ∧ b ≠ e ∧ b ≠ it := fun b o q => ⟨fun z => (by rw [z, hH.1] at q; cases q), fun z => (by rw [z, hH.2.1] at q; cases q), fun z => (by rw [z, hH.2.2] at q; cases q)⟩
  have SG : Sym H h G := S.sub (List.sublist_append_right _ _)
  refine ⟨t, fun b o q => ?_, fun p hp => ?_, fun p hp => ?_, ?_⟩
  · obtain ⟨z1, z2, z3⟩ := hne b o q
    exact hk b o z1 z2 z3 (S.keep b o q)
  · simp only [privL, List.cons_append, List.nil_append, List.mem_cons] at hp
    rcases hp with rfl | rfl | rfl | rfl | hp
    · exact hT2
    · exact ⟨o2, e2, q2⟩
    · exact ⟨o3, e3, q3⟩
    · exact ⟨o1, e1, q1⟩
    · obtain ⟨o, q, r⟩ := SG.ent p hp
      obtain ⟨z1, z2, z3⟩ := hP0 p hp
      exact ⟨o, hk _ _ z1 z2 z3 q, r⟩
  · simp only [privL, List.cons_append, List.nil_append, List.mem_cons] at hp
    rcases hp with rfl | rfl | rfl | rfl | hp
    · exact S.none_of hT.2.2.2
    · exact hH.2.1
    · exact hH.2.2
    · exact hH.1
    · exact SG.new p hp
  · have hTG : T ∉ G.map (·.1) := SG.fresh hT.2.2.2
    have nG := SG.nd
    have m1 : e ∉ G.map (·.1) := fun m => by obtain ⟨p, hp, z⟩ := List.mem_map.mp m; exact (hP0 p hp).2.1 z
    have m2 : it ∉ G.map (·.1) := fun m => by obtain ⟨p, hp, z⟩ := List.mem_map.mp m; exact (hP0 p hp).2.2 z
    have m3 : Lg ∉ G.map (·.1) := fun m => by obtain ⟨p, hp, z⟩ := List.mem_map.mp m; exact (hP0 p hp).1 z
    simp only [privL, List.cons_append, List.nil_append, List.map_cons, List.nodup_cons, List.mem_cons, not_or]
    exact ⟨⟨hT.2.1, hT.2.2.1, hT.1, hTG⟩, ⟨h3, Ne.symm h1, m1⟩, ⟨Ne.symm h2, m2⟩, m3, nG⟩
theorem nextAux {c : Nat} {P0 : Led} {Q : Option Value → Shared → Prop} (hl : H.NoLimit) (hh : A.handled = none) (hroom : A.depth < recursionLimit) (S : Sym H h (P0 ++ ((ga, genP g.size) :: G))) (hP0 : ∀ p ∈ (ga, genP g.size) :: G, p.1 ≠ Lg ∧ p.1 ≠ e ∧ p.1 ≠ it)
    (hH : H.get? Lg = none ∧ H.get? e = none ∧ H.get? it = none) (h1 : Lg ≠ e) (h2 : Lg ≠ it) (h3 : e ≠ it) (hc : x.cps[k]? = some c)
    (hgo : gs.Goes (model pw w) A.in1 (GEnd Lg e it) (Yp x Lg e it) (x.cps.size - k) (.send .none) ⟨h, g.push .running, d, tk, os⟩)
    (q : ∀ h' T PL' gs' t t' tk', GenS w A x (k + 1) PL' gs' → Sym H h' ((T, tupP [.int k t, .str ⟨#[c]⟩ t']) :: (ga, genP g.size) :: (PL' ++ G)) → Q (some (.ref T)) ⟨h', g.push gs', d, tk', os⟩) :
    wpAny (model pw w) A (pyNext (.ref ga)) Q E ⟨h, g.push gs, d, tk, os⟩ := by
  have hlt := (Array.getElem?_eq_some_iff.mp hc).1
  obtain ⟨m, hm⟩ : ∃ m, x.cps.size - k = m + 1 := ⟨x.cps.size - k - 1, (Nat.sub_add_cancel (Nat.sub_pos_of_lt hlt)).symm⟩
  rw [hm] at hgo
  refine wpAny_pyNext_gen (s := ⟨h, g.push gs, d, tk, os⟩) (g := g.size) (n := m + 1) (Y := Yp x Lg e it) (P := Rp Lg e it) hh (hl.keeps S.keep) hroom (S.gen (List.mem_append_right _ (.head _))) (getPush g gs) ?_ ?_ ?_
  · rw [setPush]; exact hgo
  · intro v s₁ gs' hY
    rw [setPush] at hY
    obtain ⟨h', tk', T, t, t', c', rfl, rfl, hmN, hc', hT, hT2, hk, hp, hkap⟩ := hY
    have n1 : x.cps.size - (m + 1 - 1 + 1) = k := (gn hm).2.1
    have n2 : x.cps.size - (m + 1 - 1) = k + 1 := (gn hm).2.2.1
    rw [n1] at hc' hT2
    rw [n2] at hp hkap
    rw [hc] at hc'
    cases hc'
    obtain ⟨tt, S'⟩ := turn_sym (P0 := P0) S hP0 hH h1 h2 h3 hT hT2 hk hp
    rw [setPush]
    refine q h' T (privL x Lg e it (k + 1) tt) gs' t t' tk' (.susp fun s'' hp'' => ?_) (S'.perm (List.Perm.cons _ List.perm_middle))
    have := hkap s'' hp''
    rw [← (gn hm).2.2.2.2]
    exact this
  · intro s₁ hP
    exact absurd hP.1 (Nat.succ_ne_zero m)
theorem nextGen {c : Nat} {Q : Option Value → Shared → Prop} (N : Globs H) (hl : H.NoLimit) (hh : A.handled = none) (hroom : A.depth < recursionLimit) (hx : ∀ c ∈ x.cps.toList, c ≠ 92) (hx2 : x.cps.all (· < 128) = true)
    (I : GenS w A x k PL gs) (S : Sym H h ((ga, genP g.size) :: (PL ++ G))) (hc : x.cps[k]? = some c)
    (q : ∀ h' T PL' gs' t t' tk', GenS w A x (k + 1) PL' gs' → Sym H h' ((T, tupP [.int k t, .str ⟨#[c]⟩ t']) :: (ga, genP g.size) :: (PL' ++ G)) → Q (some (.ref T)) ⟨h', g.push gs', d, tk', os⟩) :
    wpAny (model pw w) A (pyNext (.ref ga)) Q E ⟨h, g.push gs, d, tk, os⟩ := by
  have S1 : Sym H h (PL ++ ((ga, genP g.size) :: G)) := S.perm List.perm_middle.symm
  have nd := S1.nd
  cases I with
  | @fresh Lg t =>
    have S2 : Sym H h ((Lg, nsP [("addr", .str x t)]) :: ((ga, genP g.size) :: G)) := S1
    have hLlt : Lg < h.objs.size := by
      obtain ⟨o, q, _⟩ := S2.head
      exact Heap.lt_size q
    have z1 : h.get? (h.objs.size + 1) = none := Heap.get?_none_of_le (by simp)
    have z0 : h.get? h.objs.size = none := Sym.size_none _
    refine nextAux (Lg := Lg) (e := h.objs.size + 1) (it := h.objs.size) (k := 0) hl hh hroom S1 ?_ ⟨S2.new _ (.head _), S2.none_of z1, S2.none_of z0⟩ (Nat.ne_of_lt (Nat.lt_succ_of_lt hLlt)) (Nat.ne_of_lt hLlt) (Nat.succ_ne_self _) hc ⟨rfl, ?_⟩ q
    · intro p hp
      obtain ⟨o, q, _⟩ := S2.ent p (.tail _ hp)
      exact ⟨S2.ne hp, (fun z => by rw [z, z1] at q; cases q), fun z => by rw [z, z0] at q; cases q⟩
    · exact gen_seg (A := A.in1) N hh hx hx2 S2
  | @susp _ Lg e it t gs hgo =>
    have S2 : Sym H h ((e, enP it k) :: (it, strItP x k) :: (Lg, nsP [("escape", .bool false), ("addr", .str x t)]) :: ((ga, genP g.size) :: G)) := S1
    have hp : PrivAt x Lg e it k h := by
      obtain ⟨o1, q1, r1⟩ := S2.head
      obtain ⟨o2, q2, r2⟩ := S2.tail.head
      obtain ⟨o3, q3, r3⟩ := S2.tail.tail.head
      exact ⟨⟨o3, q3, t, r3⟩, ⟨o1, q1, r1⟩, ⟨o2, q2, r2⟩⟩
    refine nextAux (Lg := Lg) (e := e) (it := it) hl hh hroom S1 ?_ ⟨S2.new (Lg, nsP [("escape", .bool false), ("addr", .str x t)]) (by simp), S2.new (e, enP it k) (by simp), S2.new (it, strItP x k) (by simp)⟩ (S2.ne (q := (Lg, nsP [("escape", .bool false), ("addr", .str x t)])) (by simp)) (S2.tail.ne (q := (Lg, nsP [("escape", .bool false), ("addr", .str x t)])) (by simp)) (Ne.symm (S2.ne (q := (it, strItP x k)) (by simp))) hc ?_ q
    · intro p hp
      exact ⟨S2.tail.tail.ne hp, S2.ne (.tail _ (.tail _ hp)), S2.tail.ne (.tail _ hp)⟩
    · exact hgo _ hp
theorem endGen {Q : Option Value → Shared → Prop} (hl : H.NoLimit) (hh : A.handled = none) (hroom : A.depth < recursionLimit) (hk0 : 0 < x.cps.size)
    (I : GenS w A x x.cps.size PL gs) (S : Sym H h ((ga, genP g.size) :: (PL ++ G)))
    (q : ∀ h' tk', Sym H h' G → Q none ⟨h', g.push .finished, d, tk', os⟩) :
    wpAny (model pw w) A (pyNext (.ref ga)) Q E ⟨h, g.push gs, d, tk, os⟩ := by
  have S1 : Sym H h (PL ++ ((ga, genP g.size) :: G)) := S.perm List.perm_middle.symm
  obtain ⟨k, hk⟩ : ∃ k, k = x.cps.size := ⟨_, rfl⟩
  rw [← hk] at I hk0
  cases I with
  | @fresh Lg t => omega
  | @susp _ Lg e it t gs hgo =>
    have S2 : Sym H h ((e, enP it k) :: (it, strItP x k) :: (Lg, nsP [("escape", .bool false), ("addr", .str x t)]) :: ((ga, genP g.size) :: G)) := S1
    have hp : PrivAt x Lg e it k h := by
      obtain ⟨o1, q1, r1⟩ := S2.head
      obtain ⟨o2, q2, r2⟩ := S2.tail.head
      obtain ⟨o3, q3, r3⟩ := S2.tail.tail.head
      exact ⟨⟨o3, q3, t, r3⟩, ⟨o1, q1, r1⟩, ⟨o2, q2, r2⟩⟩
    have hgo0 := hgo ⟨h, g.push .running, d, tk, os⟩ hp
    rw [show x.cps.size - k = 0 by omega] at hgo0
    refine wpAny_pyNext_gen (s := ⟨h, g.push gs, d, tk, os⟩) (g := g.size) (n := 0) (Y := Yp x Lg e it) (P := Rp Lg e it) hh (hl.keeps S.keep) hroom (S.gen (.head _)) (getPush g gs) ?_ ?_ ?_
    · rw [setPush]; exact hgo0
    · intro v s₁ gs' hY
      rw [setPush] at hY
      obtain ⟨h', tk', T, t, t', c', rfl, rfl, hmN, hc', hT, hT2, hk, hp, hkap⟩ := hY
      exact (hkap ⟨h', #[], d, tk', os⟩ hp).elim
    · intro s₁ hP h' hk'
      rw [setPush] at hP
      obtain ⟨_, h1, tk1, rfl, hkp⟩ := hP
      rw [setPush]
      have SG : Sym H h G := S2.tail.tail.tail.tail
      refine q h' tk1 ⟨fun b o z => hk' _ _ (hkp b o ?_ ?_ ?_ (S.keep b o z)), fun p hp => ?_, SG.new, SG.nd⟩
      · intro y; subst y; rw [S2.new (b, nsP [("escape", .bool false), ("addr", .str x t)]) (by simp)] at z; cases z
      · intro y; subst y; rw [S2.new (b, enP it k) (by simp)] at z; cases z
      · intro y; subst y; rw [S2.new (b, strItP x k) (by simp)] at z; cases z
      · obtain ⟨o, z, r⟩ := SG.ent p hp
        exact ⟨o, hk' _ _ (hkp _ _ (S2.tail.tail.ne (.tail _ hp)) (S2.ne (.tail _ (.tail _ (.tail _ hp)))) (S2.tail.ne (.tail _ (.tail _ hp))) z), r⟩
end
end Mine

namespace Mine
open PySem PySem.Calls PyProof.Rows PySem.W
/-- a text with one stretch between marks at its end, and what stands ahead of it -/
structure Quoted (x p : Str) : Prop where
  esc : ∀ c ∈ x.cps.toList, c ≠ 92
  asc : x.cps.all (· < 128) = true
  len : x.cps.size ≤ 100
  has : Txt.contains x "\"" = true
  pl : p.cps.size + 1 < x.cps.size
  q1 : x.cps[p.cps.size]? = some 34
  q2 : x.cps[x.cps.size - 1]? = some 34
  oth : ∀ i < x.cps.size, x.cps[i]? = some 34 → i = p.cps.size ∨ i = x.cps.size - 1
  sl : Txt.slice x (some 0) (some p.cps.size) = p
  p0 : 0 < p.cps.size
section
variable {w : World} {A : Around} {E : Value → Shared → Prop} {H h h' : Heap} {G PL : Led} {env : Env} {g : Array GenState} {d : Drawn} {tk : Nat} {os : OsState} {x : Str} {Lg e it ga : Addr} {k : Nat} {gs : GenState}
/-- a method of a text -/
theorem methS {o : Expr} {name : Str} {id : String} {apos pos : Pos} {args : List Expr} {s : Shared} {Q : Value → Shared → Prop} (slot : Slot "str" name id) (ty : typeOf (.builtin id) = pure (.type "method_descriptor"))
    (k : wpAny (model pw w) A (eval o env) (fun ov s₁ => ∃ x t, ov = .str x t ∧ wpAny (model pw w) A (spliced (plainArgs env args)) (fun vs s₂ => wpAny (model pw w) A (call (.builtin id) (.str x t :: vs)) Q E s₂) E s₁) E s)
    (hbase : attributeBase o name env (eval o env) = eval o env := by rfl) (hline : (apos.endLine == pos.line) = true := by rfl)
    (hfew : ((backTo pos (starEach args env)).all (fun x => !x.1) && (backToKw pos (keywordEach [] env)).all (fun x => x.1.isSome)
      && decide (args.length + ([] : List Keyword).length + (if ([] : List Keyword).isEmpty then 0 else 1) < 30)) = true := by rfl)
    (hs : backTo pos (starEach args env) = plainArgs env args := by rfl) (hp : (plainArgs env args).any (·.1) = false := by rfl) :
    wpAny (model pw w) A (eval (.Call (.Attribute o name apos) args [] pos) env) Q E s := by
  refine wpAny_Call_method_late hbase hfew hline hs (wpAny_mono k (fun ov s₁ h₁ => ?_) fun _ _ x => x)
  obtain ⟨x, t, rfl, h₁⟩ := h₁
  refine ⟨"str", id, PySem.F.plainAttrs_str, slot, ty, typeIs_str _ _ _, (fun a e => by cases e), ?_⟩
  exact callWith_builtin hp (evalArgsP (wpAny_mono h₁ (fun vs s₂ q => q) fun _ _ q => q))
/-- `x[i:j]` of a text -/
theorem sliceS {value : Expr} {lower upper : Option Expr} {p pos : Pos} {Q : Value → Shared → Prop}
    (k : wpAny (model pw w) A (eval value env) (fun o s₁ => wpAny (model pw w) A (evalPart lower env) (fun vl s₂ => wpAny (model pw w) A (evalPart upper env) (fun vu s₃ => ∃ H G x t i ti j tj, o = .str x t ∧ vl = .int i ti ∧ vu = .int j tj ∧ x.length ≤ 1000 ∧ Sym H s₃.heap G ∧
      ∀ t' h' tk', Sym H h' G → Q (.str (Txt.slice x (some i) (some j)) t') { s₃ with heap := h', toks := tk' }) E s₂) E s₁) E ⟨h, g, d, tk, os⟩)
    (ht : ∀ o r, letTemporaryGo value o r = pure () := by intro _ _; rfl) :
    wpAny (model pw w) A (eval (.Subscript value (.Slice lower upper none p) pos) env) Q E ⟨h, g, d, tk, os⟩ := by
  refine wpAny_Subscript_Slice (T := "str") PySem.F.slot_str_getitem.lookup (wpAny_mono k (fun o s₁ h₁ => wpAny_Slice (wpAny_mono h₁ (fun vl s₂ h₂ => wpAny_mono h₂ (fun vu s₃ h₃ => ?_) fun _ _ e => e) fun _ _ e => e)) fun _ _ e => e) ht
  obtain ⟨H, G, x, t, i, ti, j, tj, rfl, rfl, rfl, hl, S, q⟩ := h₃
  rw [evalPart_none]
  refine wpAny_pure ⟨typeIs_str _ x t, wpAny_getItem_str_slice (l := some (i, ti)) (u := some (j, tj)) (st := none) ⟨_, Heap.get?_push_size _ rfl, rfl, rfl⟩ rfl (post_val_or_str ⟨Nat.le_trans (Txt.slice_le x _ _) (by rw [sizeLine_eq]; omega), fun t' k => q t' _ k (S.grow fun b o e => Heap.get?_push_of_some _ e)⟩)⟩
theorem ownGen {elts : List Expr} {x1} {tp : Pos} {v : Value} {gi : Nat} {Q : Unit → Shared → Prop} (S : Sym H h G) (m : (ga, genP gi) ∈ G) (k : Q () ⟨h, g, d, tk, os⟩) :
    wpAny (model pw w) A (letOwnedTupleGo (.Tuple elts x1 tp) (.ref ga) v) Q E ⟨h, g, d, tk, os⟩ := by
  obtain ⟨o, e, nm, qn, p1, p2, p3⟩ := S.get m
  unfold letOwnedTupleGo
  cases v with
  | ref b =>
    dsimp only
    refine wpAny_bind (wpAny_load e ?_)
    rw [p1, p2]
    exact wpAny_pure k
  | _ => exact wpAny_pure k
end
section
variable {K : Frag} {w : World} {A : Around} {E : Value → Shared → Prop} {H h h' : Heap} {G PL : Led} {env : Env} {g : Array GenState} {d : Drawn} {tk : Nat} {os : OsState} {x p : Str} {Lg e it ga : Addr} {k : Nat} {gs : GenState}
noncomputable def Phase (x p : Str) (i : Nat) (st : Int) (ov : Value) (vs : List Value) : Prop :=
  (i ≤ p.cps.size ∧ st = 0 ∧ ov = .none ∧ vs = []) ∨ (p.cps.size < i ∧ i < x.cps.size ∧ st = 0 ∧ (∃ t, ov = .int p.cps.size t) ∧ vs = []) ∨ (i = x.cps.size ∧ st = x.cps.size ∧ ov = .none ∧ ∃ t, vs = [.str p t])
set_option maxHeartbeats 4000000 in
theorem strip_spec {t : Tok} {Q : Value → Shared → Prop} (T : TopL K H) (hd : A.depth + 5 < recursionLimit) (hh : A.handled = none) (hx : Quoted x p) (S : Sym H h G)
    (k : ∀ h' t' tk', Sym H h' G → Q (.str p t') ⟨h', g.push .finished, d, tk', os⟩) :
    wpAny (model pw w) A (call (.ref 35) [.str x t]) Q E ⟨h, g, d, tk, os⟩ := by
  have hlen := hx.len
  have hpl := hx.pl
  refine callF T.fstrip T.lim (lt_z hd) S (BindsTo.of_eq rfl) fun h1 L tk1 S1 => ?_
  have S1 := S1.renm (l' := [("addr", .str x t)]) ⟨rfl, trivial⟩
  refine wpAny_execs_cons (wpAny_If (wpAny_isTrue_Compare1 (cStr fun t2 tk2 => ldL S1 rfl (PySem.P.notIn_str (wpAny_truthy_bool (itF ?_ (wpAny_execs_nil ?_)))))))
  · have := hx.has
    unfold Txt.contains at this
    rw [this]; rfl
  refine wpAny_execs_cons (wpAny_Assign_Name (cInt fun t3 tk3 => stL S1 fun h3 tk4 S3 => ?_))
  refine wpAny_execs_cons (wpAny_Assign_Name (Constant_none (stL S3 fun h4 tk5 S4 => ?_)))
  refine wpAny_execs_cons (wpAny_Assign_Name (eNil S4 fun ra h5 S5 => stL S5.swap fun h6 tk6 S6 => ?_))
  refine cutO (fun s' => ∃ h' tk' l ts tp, s' = ⟨h', g.push .finished, d, tk', os⟩ ∧ Sym H h' ((L, nsP l) :: (ra, lstP [.str p tp]) :: G) ∧ NsHas l [("start", .int x.cps.size ts), ("result", .ref ra), ("addr", .str x t)]) ?_ ?_
  · intro J hJ
    refine wpAny_For (eCallF T.fiter T.toGlobs S6.keep rfl (spliced_cons (ldL S6 rfl (spliced_nil ⟨S6.keep, callGen (A := A.deeper (callEnv fdStrip L 35)) T.fiter T.lim (by exact (show A.depth + 1 < _ from lt_w hd)) S6 fun h7 ga PL gs tk7 I7 S7 => iterGen S7 (.head _) ?_⟩))))
    refine forO (fun m s' => ∃ h' tk' i PL gs l ov vs st ts, s' = ⟨h', g.push gs, d, tk', os⟩ ∧ m = x.cps.size - i ∧ i ≤ x.cps.size ∧ GenS w (A.deeper (callEnv fdStrip L 35)) x i PL gs ∧ Sym H h' ((ga, genP g.size) :: (PL ++ ((L, nsP l) :: (ra, lstP vs) :: G))) ∧
      NsHas l [("start", .int st ts), ("open_pos", ov), ("result", .ref ra), ("addr", .str x t)] ∧ Phase x p i st ov vs) ?_ x.cps.size
      ⟨h7, tk7, 0, PL, gs, _, .none, [], 0, t3, rfl, rfl, Nat.zero_le _, I7, S7, ⟨rfl, rfl, rfl, rfl, trivial⟩, .inl ⟨Nat.zero_le _, rfl, rfl, rfl⟩⟩
    rintro m s' ⟨h8, tk8, i, PL8, gs8, l, ov, vs, st, ts, rfl, rfl, hi, I8, S8, hns, hph⟩ Y Z hY hZ
    by_cases hiN : i = x.cps.size
    · subst hiN
      refine endGen (A := A.deeper (callEnv fdStrip L 35)) T.lim hh (by exact (show A.depth + 1 < _ from lt_w hd)) (by omega) I8 S8 fun h9 tk9 S9 => wpAny_execs_nil (hZ _ _ ?_)
      rcases hph with ⟨q, _⟩ | ⟨_, q, _⟩ | ⟨_, rfl, rfl, tp, rfl⟩
      · exact absurd q (Nat.not_le_of_lt (Nat.lt_of_succ_lt hpl))
      · exact absurd q (Nat.lt_irrefl _)
      · obtain ⟨n1, n2, n3, n4, _⟩ := hns
        exact ⟨rfl, hJ _ ⟨h9, tk9, l, ts, tp, rfl, S9, ⟨n1, n3, n4, trivial⟩⟩⟩
    · have hi' : i < x.cps.size := Nat.lt_of_le_of_ne hi hiN
      clear hi hiN hlen
      obtain ⟨c, hc⟩ : ∃ c, x.cps[i]? = some c := ⟨_, Array.getElem?_eq_getElem hi'⟩
      refine nextGen (A := A.deeper (callEnv fdStrip L 35)) T.toGlobs T.lim hh (by exact (show A.depth + 1 < _ from lt_w hd)) hx.esc hx.asc I8 S8 hc fun h9 T9 PL9 gs9 t9 t9' tk9 I9 S9 => ?_
      refine ownGen S9 (.tail _ (.head _)) ?_
      have S9 : Sym H h9 ((L, nsP l) :: (T9, tupP [.int i t9, .str ⟨#[c]⟩ t9']) :: (ra, lstP vs) :: (ga, genP g.size) :: (PL9 ++ G)) := S9.perm (by ((try simp only [locals_eqC, locals_eqD]); ((refine perm_sum fun _ => ?_; (try simp only [locals_eq, List.append_eq, sortL, famL_app, famL_cons, famL_nil, NodeR.ent, List.cons_append, List.nil_append, List.append_assoc, List.eraseIdx_cons_succ, List.eraseIdx_cons_zero]); (try simp only [List.map_append, List.map_cons, List.map_nil, List.sum_append, List.sum_cons, List.sum_nil, Nat.add_zero, Nat.zero_add, Nat.add_assoc]); (try ac_rfl)); try omega)))
      refine asgTt (A := A.deeper (callEnv fdStrip L 35)) hh S9 (.tail _ (.head _)) rfl rfl fun h10 S10 => ?_
      have S10 := S10.renm hns
      refine assignInOrder_cons (wpAny_assign_Name (stL (env := callEnv fdStrip L 35) S10 fun h11 tk11 S11 => assignInOrder_cons (wpAny_assign_Name (stL (env := callEnv fdStrip L 35) S11 fun h12 tk12 S12 => assignInOrder_nil ?_))))
      have S12 : Sym H h12 ((L, nsP [("ch", .str ⟨#[c]⟩ t9'), ("pos", .int i t9), ("start", .int st ts), ("open_pos", ov), ("result", .ref ra), ("addr", .str x t)]) :: (T9, tupP [.int i t9, .str ⟨#[c]⟩ t9']) :: (ra, lstP vs) :: (ga, genP g.size) :: (PL9 ++ G)) := S12
      refine wpAny_execs_cons (wpAny_If (wpAny_isTrue_Compare1 (ldL S12 rfl (cStr fun t13 tk13 => PySem.P.eq_str (wpAny_truthy_bool ?_)))))
      have e34 : (Str.ofString "\"").cps.toList = [34] := by decide
      have back : ∀ {hz l' vs'}, Sym H hz ((L, nsP l') :: (T9, tupP [.int i t9, .str ⟨#[c]⟩ t9']) :: (ra, lstP vs') :: (ga, genP g.size) :: (PL9 ++ G)) → Sym H hz ((ga, genP g.size) :: (PL9 ++ ((L, nsP l') :: (ra, lstP vs') :: G))) := fun S => (S.front 1 rfl).tail.perm (by ((try simp only [locals_eqC, locals_eqD]); ((refine perm_sum fun _ => ?_; (try simp only [locals_eq, List.append_eq, sortL, famL_app, famL_cons, famL_nil, NodeR.ent, List.cons_append, List.nil_append, List.append_assoc, List.eraseIdx_cons_succ, List.eraseIdx_cons_zero]); (try simp only [List.map_append, List.map_cons, List.map_nil, List.sum_append, List.sum_cons, List.sum_nil, Nat.add_zero, Nat.zero_add, Nat.add_assoc]); (try ac_rfl)); try omega)))
      by_cases hq : c = 34
      · subst hq
        refine itT (by simp [e34]) ?_
        rcases hx.oth i hi' hc with hi1 | hi1
        · obtain ⟨rfl, rfl, rfl⟩ : st = 0 ∧ ov = .none ∧ vs = [] := by
            rcases hph with ⟨_, r⟩ | ⟨q, _⟩ | ⟨q, _⟩
            · exact r
            · exact absurd hi1 (Nat.ne_of_gt q)
            · exact absurd q (Nat.ne_of_lt hi')
          refine wpAny_execs_cons (wpAny_If (wpAny_isTrue_Compare1 (ldL S12 rfl (Constant_none (is_none (wpAny_truthy_bool (itT rfl ?_)))))))
          refine wpAny_execs_cons (wpAny_Assign_Name (ldL S12 rfl (stL S12 fun h14 tk14 S14 => wpAny_execs_nil (wpAny_execs_nil (wpAny_execs_nil (hY _ _ ?_))))))
          refine ⟨x.cps.size - (i + 1), Nat.sub_succ_lt_self _ _ hi', h14, _, i + 1, PL9, gs9, _, .int i t9, [], 0, ts, rfl, rfl, hi', I9, back S14, ⟨rfl, rfl, rfl, rfl, trivial⟩, .inr (.inl ⟨hi1 ▸ Nat.lt_succ_self _, hi1 ▸ hpl, rfl, ⟨t9, by rw [hi1]⟩, rfl⟩)⟩
        · obtain ⟨rfl, ⟨to, rfl⟩, rfl⟩ : st = 0 ∧ (∃ t, ov = .int p.cps.size t) ∧ vs = [] := by
            rcases hph with ⟨q, _⟩ | ⟨_, _, r⟩ | ⟨q, _⟩
            · clear hd; omega
            · exact r
            · exact absurd q (Nat.ne_of_lt hi')
          have hp0 := hx.p0
          refine wpAny_execs_cons (wpAny_If (wpAny_isTrue_Compare1 (ldL S12 rfl (Constant_none (is_none (wpAny_truthy_bool (itF rfl ?_)))))))
          refine wpAny_execs_cons (wpAny_If (wpAny_isTrue_Compare1 (ldL S12 rfl (ldL S12 rfl (PySem.P.ne_int (wpAny_truthy_bool (itT ?_ ?_)))))))
          · simp; omega
          obtain ⟨ob, o1, o2, o3⟩ := S12.isObj (a := ra) (.tail _ (.tail _ (.head _)))
          refine wpAny_execs_cons (wpAny_Expr (appendL (ldL S12 rfl ⟨ra, ob, rfl, o1, o2, o3, sliceS (ldL S12 rfl (ldL S12 rfl (ldL S12 rfl ⟨H, _, x, t, 0, ts, p.cps.size, to, rfl, rfl, rfl, Nat.le_trans hx.len (by decide), S12, fun t14 h14 tk14 S14 => ?_⟩)))⟩)))
          rw [hx.sl]
          refine ⟨[], H, _, by simp, S14.front 2 rfl, fun h15 S15 => ?_⟩
          have S15 : Sym H h15 ((L, nsP [("ch", .str ⟨#[34]⟩ t9'), ("pos", .int i t9), ("start", .int 0 ts), ("open_pos", .int p.cps.size to), ("result", .ref ra), ("addr", .str x t)]) :: (T9, tupP [.int i t9, .str ⟨#[34]⟩ t9']) :: (ra, lstP [.str p t14]) :: (ga, genP g.size) :: (PL9 ++ G)) := S15.perm (by ((try simp only [locals_eqC, locals_eqD]); ((refine perm_sum fun _ => ?_; (try simp only [locals_eq, List.append_eq, sortL, famL_app, famL_cons, famL_nil, NodeR.ent, List.cons_append, List.nil_append, List.append_assoc, List.eraseIdx_cons_succ, List.eraseIdx_cons_zero]); (try simp only [List.map_append, List.map_cons, List.map_nil, List.sum_append, List.sum_cons, List.sum_nil, Nat.add_zero, Nat.zero_add, Nat.add_assoc]); (try ac_rfl)); try omega)))
          refine wpAny_execs_nil ?_
          refine wpAny_execs_cons (wpAny_Assign_Name (wpAny_BinOp (ldL S15 rfl (cInt fun t16 tk16 => eAdd fun t17 tk17 => stL S15 fun h18 tk18 S18 => ?_))))
          refine wpAny_execs_cons (wpAny_Assign_Name (Constant_none (stL S18 fun h19 tk19 S19 => wpAny_execs_nil (wpAny_execs_nil (wpAny_execs_nil (hY _ _ ?_))))))
          exact ⟨x.cps.size - (i + 1), Nat.sub_succ_lt_self _ _ hi', h19, _, i + 1, PL9, gs9, _, .none, [.str p t14], ((i : Nat) : Int) + 1, t17, rfl, rfl, hi', I9, back S19, ⟨rfl, rfl, rfl, rfl, trivial⟩, .inr (.inr ⟨by clear hd hpl; omega, by clear hd hpl; omega, rfl, t14, rfl⟩)⟩
      · refine itF (by simpa [e34] using hq) (wpAny_execs_nil (wpAny_execs_nil (hY _ _ ?_)))
        have n1 : i ≠ p.cps.size := fun z => hq (by rw [z, hx.q1] at hc; exact (Option.some.inj hc).symm)
        have n2 : i ≠ x.cps.size - 1 := fun z => hq (by rw [z, hx.q2] at hc; exact (Option.some.inj hc).symm)
        refine ⟨x.cps.size - (i + 1), Nat.sub_succ_lt_self _ _ hi', h12, _, i + 1, PL9, gs9, _, ov, vs, st, ts, rfl, rfl, hi', I9, back S12, ⟨rfl, rfl, rfl, rfl, trivial⟩, ?_⟩
        rcases hph with ⟨q, r⟩ | ⟨q, q', r⟩ | ⟨q, _⟩
        · exact .inl ⟨Nat.lt_of_le_of_ne q n1, r⟩
        · exact .inr (.inl ⟨Nat.lt_succ_of_lt q, by clear hd hpl q n1; omega, r⟩)
        · exact absurd q (Nat.ne_of_lt hi')
  · rintro _ ⟨h20, tk20, l, ts, tp, rfl, S20, hns⟩
    have S20 := S20.renm hns
    refine wpAny_execs_cons (wpAny_If (wpAny_isTrue_Compare1 (ldL S20 rfl (eCallB T.toGlobs S20.keep rfl (spliced_cons (ldL S20 rfl (spliced_nil (PySem.P.len_str (by show ¬ ((x.cps.size : Nat) : Int) ≥ 2 ^ 63; omega) (wpAny_lt_int (wpAny_truthy_bool (itF ?_ (wpAny_execs_nil ?_))))))))))))
    · show decide ((x.cps.size : Int) < (x.length : Nat)) = false
      simp [Str.length]
    refine wpAny_execs_cons (wpAny_Return_some (methS PySem.F.slot_str_join PySem.F.type_str_join (cStr fun t21 tk21 => ⟨_, _, rfl, spliced_cons (ldL S20 rfl (spliced_nil ?_))⟩)))
    refine join_list (ys := [p]) (S20.isList (.tail _ (.head _))) ?_ ?_ fun t22 tk22 => ?_
    · exact .cons p tp .nil
    · have e0 : (Str.ofString "").cps.size = 0 := by decide
      simp [Str.length, e0]; omega
    · have e : Txt.join "" [p] = p := by
        unfold Txt.join
        rw [PySem.StrLaws.glued_eq_join]; rfl
      rw [e]
      exact k _ _ _ S20.tail.tail
end
end Mine

namespace Mine
open PySem PySem.Calls PyProof.Rows PySem.W
/-- a text without brackets and backslashes -/
structure Bare (p : Str) : Prop where
  br : ∀ c ∈ p.cps.toList, c ≠ 40 ∧ c ≠ 41
  esc : ∀ c ∈ p.cps.toList, c ≠ 92
  asc : p.cps.all (· < 128) = true
section
variable {K : Frag} {w : World} {A : Around} {E : Value → Shared → Prop} {H h h' : Heap} {G PL : Led} {env : Env} {g : Array GenState} {d : Drawn} {tk : Nat} {os : OsState} {x p : Str} {Lg e it ga : Addr} {k : Nat} {gs : GenState}
set_option maxHeartbeats 4000000 in
theorem check_spec {t : Tok} {Q : Value → Shared → Prop} (T : TopL K H) (hd : A.depth + 10 < recursionLimit) (hh : A.handled = none) (hx : Quoted x p) (hp : Bare p) (S : Sym H h G)
    (k : ∀ h' tk', Sym H h' G → Q (.bool true) ⟨h', (g.push .finished).push .finished, d, tk', os⟩) :
    wpAny (model pw w) A (call (.ref 42) [.str x t]) Q E ⟨h, g, d, tk, os⟩ := by
  have hlen := hx.len
  have hpl := hx.pl
  have hp0 := hx.p0
  refine callF T.fcheck T.lim (lt_z hd) S (BindsTo.of_eq rfl) fun h1 L tk1 S1 => ?_
  have S1 := S1.renm (l' := [("addr", .str x t)]) ⟨rfl, trivial⟩
  refine wpAny_execs_cons (wpAny_Assign_Name (eCallF T.fstrip T.toGlobs S1.keep rfl (spliced_cons (ldL S1 rfl (spliced_nil ⟨S1.keep, strip_spec (A := A.deeper (callEnv fdCheck L 42)) T (by exact (show A.depth + 6 < _ from lt_w hd)) hh hx S1 fun h2 t2 tk2 S2 => ?_⟩)))))
  refine stL S2 fun h3 tk3 S3 => ?_
  have S3 := S3.renm (l' := [("addr", .str p t2)]) ⟨rfl, trivial⟩
  generalize g.push .finished = g at *
  refine wpAny_execs_cons (wpAny_Assign_Name (cInt fun t4 tk4 => stL S3 fun h5 tk5 S5 => ?_))
  refine cutO (fun s' => ∃ h' tk' l ts, s' = ⟨h', g.push .finished, d, tk', os⟩ ∧ Sym H h' ((L, nsP l) :: G) ∧ NsHas l [("opens", .int 0 ts)]) ?_ ?_
  · intro J hJ
    refine wpAny_For (eCallF T.fiter T.toGlobs S5.keep rfl (spliced_cons (ldL S5 rfl (spliced_nil ⟨S5.keep, callGen (A := A.deeper (callEnv fdCheck L 42)) T.fiter T.lim (by exact (show A.depth + 1 < _ from lt_w hd)) S5 fun h7 ga PL gs tk7 I7 S7 => iterGen S7 (.head _) ?_⟩))))
    refine forO (fun m s' => ∃ h' tk' i PL gs l ts, s' = ⟨h', g.push gs, d, tk', os⟩ ∧ m = p.cps.size - i ∧ i ≤ p.cps.size ∧ GenS w (A.deeper (callEnv fdCheck L 42)) p i PL gs ∧ Sym H h' ((ga, genP g.size) :: (PL ++ ((L, nsP l) :: G))) ∧
      NsHas l [("opens", .int 0 ts)]) ?_ p.cps.size
      ⟨h7, tk7, 0, PL, gs, _, t4, rfl, rfl, Nat.zero_le _, I7, S7, ⟨rfl, trivial⟩⟩
    rintro m s' ⟨h8, tk8, i, PL8, gs8, l, ts, rfl, rfl, hi, I8, S8, hns⟩ Y Z hY hZ
    by_cases hiN : i = p.cps.size
    · subst hiN
      refine endGen (A := A.deeper (callEnv fdCheck L 42)) T.lim hh (by exact (show A.depth + 1 < _ from lt_w hd)) (by omega) I8 S8 fun h9 tk9 S9 => wpAny_execs_nil (hZ _ _ ?_)
      exact ⟨rfl, hJ _ ⟨h9, tk9, l, ts, rfl, S9, hns⟩⟩
    · obtain ⟨c, hc⟩ : ∃ c, p.cps[i]? = some c := ⟨_, Array.getElem?_eq_getElem (by omega)⟩
      have hcm : c ∈ p.cps.toList := by simpa using Array.mem_of_getElem? hc
      refine nextGen (A := A.deeper (callEnv fdCheck L 42)) T.toGlobs T.lim hh (by exact (show A.depth + 1 < _ from lt_w hd)) hp.esc hp.asc I8 S8 hc fun h9 T9 PL9 gs9 t9 t9' tk9 I9 S9 => ?_
      refine ownGen S9 (.tail _ (.head _)) ?_
      have S9 : Sym H h9 ((L, nsP l) :: (T9, tupP [.int i t9, .str ⟨#[c]⟩ t9']) :: (ga, genP g.size) :: (PL9 ++ G)) := S9.perm (by ((try simp only [locals_eqC, locals_eqD]); ((refine perm_sum fun _ => ?_; (try simp only [locals_eq, List.append_eq, sortL, famL_app, famL_cons, famL_nil, NodeR.ent, List.cons_append, List.nil_append, List.append_assoc, List.eraseIdx_cons_succ, List.eraseIdx_cons_zero]); (try simp only [List.map_append, List.map_cons, List.map_nil, List.sum_append, List.sum_cons, List.sum_nil, Nat.add_zero, Nat.zero_add, Nat.add_assoc]); (try ac_rfl)); try omega)))
      refine asgTt (A := A.deeper (callEnv fdCheck L 42)) hh S9 (.tail _ (.head _)) rfl rfl fun h10 S10 => ?_
      have S10 := S10.renm hns
      refine assignInOrder_cons (wpAny_assign_Name (stL (env := callEnv fdCheck L 42) S10 fun h11 tk11 S11 => assignInOrder_cons (wpAny_assign_Name (stL (env := callEnv fdCheck L 42) S11 fun h12 tk12 S12 => assignInOrder_nil ?_))))
      have e1 : (Str.ofString "(").cps.toList = [40] := by decide
      have e2 : (Str.ofString ")").cps.toList = [41] := by decide
      refine wpAny_execs_cons (wpAny_If (wpAny_isTrue_Compare1 (ldL S12 rfl (cStr fun t13 tk13 => PySem.P.eq_str (wpAny_truthy_bool (itF (by simpa [e1] using (hp.br c hcm).1) ?_))))))
      refine wpAny_execs_cons (wpAny_If (wpAny_isTrue_Compare1 (ldL S12 rfl (cStr fun t14 tk14 => PySem.P.eq_str (wpAny_truthy_bool (itF (by simpa [e2] using (hp.br c hcm).2) ?_))))))
      refine wpAny_execs_nil (wpAny_execs_nil (wpAny_execs_nil (hY _ _ ?_)))
      exact ⟨p.cps.size - (i + 1), by omega, h12, _, i + 1, PL9, gs9, _, ts, rfl, rfl, by omega, I9, (S12.front 1 rfl).tail.perm (by ((try simp only [locals_eqC, locals_eqD]); ((refine perm_sum fun _ => ?_; (try simp only [locals_eq, List.append_eq, sortL, famL_app, famL_cons, famL_nil, NodeR.ent, List.cons_append, List.nil_append, List.append_assoc, List.eraseIdx_cons_succ, List.eraseIdx_cons_zero]); (try simp only [List.map_append, List.map_cons, List.map_nil, List.sum_append, List.sum_cons, List.sum_nil, Nat.add_zero, Nat.zero_add, Nat.add_assoc]); (try ac_rfl)); try omega))), ⟨rfl, trivial⟩⟩
  · rintro _ ⟨h20, tk20, l, ts, rfl, S20, hns⟩
    have S20 := S20.renm hns
    refine wpAny_execs_cons (wpAny_Return_some (wpAny_Compare1 (ldL S20 rfl (cInt fun t21 tk21 => wpAny_eq_int ?_))))
    exact k _ _ S20.tail
open PySem.Builtin.Str in
/-- `x.split(y, k)` -/
theorem splitS {y : Str} {k : Int} {t u v : Tok} {Q : Value → Shared → Prop} (S : Sym H h G) (hy : (y.length == 0) = false) (hk : (decide (k < -(2 ^ 63 : Int)) || decide (k ≥ 2 ^ 63)) = false) (hl : x.length ≤ 1000)
    (q : ∀ l b h' tk', l.map (·.1) = Txt.splitMax x y k → (l.length = 1 → l = [(x, t)]) → Sym H h' ((b, lstP (strValues l)) :: G) → Q (.ref b) ⟨h', g, d, tk', os⟩) :
    wpAny (model pw w) A (call (.builtin "str.split") [.str x t, .str y u, .int k v]) Q E ⟨h, g, d, tk, os⟩ := by
  have hn : (partsBetween x (occurrences x y 0 x.length (limitOf x k)) y.length).length ≤ sizeLine := by
    have e1 := StrLaws.occ_length_le_len x y 0 x.length (limitOf x k)
    rw [length_partsBetween, sizeLine_eq]; omega
  cases h1 : (decide (x.length < y.length) || decide (strKind x < strKind y))
  · cases hf : (occurrences x y 0 x.length (limitOf x k)).isEmpty
    · refine call_meets PySem.F.slot_str_split (typeIs_str _ _ _) PySem.F.entry_str_split (PySem.F.args_str_split_3 _ _ _) (meets_str_split_sep_max x y k t u v hk h1 hy hf (by rw [sizeLine_eq]; omega) hn) ?_
      show PySem.wants Q E _ (⟨h.push { cls := .type "list", data := .seq (strsFrom tk (partsBetween x (occurrences x y 0 x.length (limitOf x k)) y.length)).toArray }, g, d, _, os⟩ : Shared)
      rw [strsFrom_eq]
      refine q (numbered tk _) _ _ _ ((numbered_texts _ _).trans ((if_neg (ne_true_of_eq_false h1)).trans (if_neg (ne_true_of_eq_false hf))).symm) (fun hl1 => ?_) (S.push rfl ⟨0, rfl⟩)
      exfalso
      have e2 := congrArg List.length (numbered_texts tk (partsBetween x (occurrences x y 0 x.length (limitOf x k)) y.length))
      rw [List.length_map, hl1, length_partsBetween] at e2
      cases z : occurrences x y 0 x.length (limitOf x k) with
      | nil => rw [z] at hf; cases hf
      | cons a b => rw [z] at e2; simp at e2
    · exact call_meets PySem.F.slot_str_split (typeIs_str _ _ _) PySem.F.entry_str_split (PySem.F.args_str_split_3 _ _ _) (meets_str_split_max_not_found x y k t u v hk h1 hy hf)
        (q [(x, t)] _ _ _ ((if_neg (ne_true_of_eq_false h1)).trans (if_pos hf)).symm (fun _ => rfl) (S.push rfl ⟨0, rfl⟩))
  · exact call_meets PySem.F.slot_str_split (typeIs_str _ _ _) PySem.F.entry_str_split (PySem.F.args_str_split_3 _ _ _) (meets_str_split_max_cannot_occur x y k t u v hk h1)
      (q [(x, t)] _ _ _ (if_pos h1).symm (fun _ => rfl) (S.push rfl ⟨0, rfl⟩))
/-- a text that has no apostrophe; a text that has two -/
theorem dec_spec {t : Tok} {Q : Value → Shared → Prop} (T : TopL K H) (hd : A.depth + 10 < recursionLimit) (hl : x.length ≤ 100) (S : Sym H h G)
    (k1 : Txt.splitMax x "'" 2 = [x] → ∀ h' b tk', Sym H h' ((b, tupP [.none, .none, .str x t]) :: G) → Q (.ref b) ⟨h', g, d, tk', os⟩)
    (k2 : ∀ a1 a2 a3, Txt.splitMax x "'" 2 = [a1, a2, a3] → ∀ h' b t1 t2 t3 tk', Sym H h' ((b, lstP [.str a1 t1, .str a2 t2, .str a3 t3]) :: G) → Q (.ref b) ⟨h', g, d, tk', os⟩)
    (hs : (Txt.splitMax x "'" 2).length = 1 ∨ (Txt.splitMax x "'" 2).length = 3) :
    wpAny (model pw w) A (call (.ref 49) [.str x t]) Q E ⟨h, g, d, tk, os⟩ := by
  refine callF T.fdec T.lim (lt_z hd) S (BindsTo.of_eq rfl) fun h1 L tk1 S1 => ?_
  have S1 := S1.renm (l' := [("s", .str x t)]) ⟨rfl, trivial⟩
  refine wpAny_execs_cons (wpAny_Assign_Name (methS PySem.F.slot_str_split PySem.F.type_str_split (ldL S1 rfl ⟨_, _, rfl, spliced_cons (ldG T.toGlobs S1.keep rfl (spliced_cons (cInt fun t2 tk2 => spliced_nil ?_)))⟩)))
  refine splitS S1 (by decide) (by decide) (by omega) fun l b h3 tk3 hl3 hl1 S3 => stL S3.swap fun h4 tk4 S4 => ?_
  have hll : l.length = (Txt.splitMax x "'" 2).length := by rw [← hl3, List.length_map]
  have hlv : (strValues l).length = l.length := by simp [strValues]
  refine wpAny_execs_cons (wpAny_If (wpAny_isTrue_Compare1 (eCallB T.toGlobs S4.keep rfl (spliced_cons (ldL S4 rfl (spliced_nil (lenL S4 (.tail _ (.head _)) (by omega) fun t5 tk5 => cInt fun t6 tk6 => PySem.P.le_int (wpAny_truthy_bool ?_))))))))
  rcases hs with hs | hs
  · refine itT (by rw [hlv, hll, hs]; rfl) ?_
    have e1 := hl1 (by omega)
    subst e1
    refine wpAny_execs_cons (wpAny_Return_some (Tuple_ (spliced_cons (Constant_none (env := callEnv fdDec L 49) (k := 0) (pos := ⟨0, 0, 0, 0⟩) (spliced_cons (Constant_none (env := callEnv fdDec L 49) (k := 0) (pos := ⟨0, 0, 0, 0⟩) (spliced_cons (ldL S4 rfl (spliced_nil (wpAny_newTuple ?_))))))))))
    exact k1 hl3.symm _ _ _ ((S4.tail.tail).push rfl ⟨0, rfl⟩)
  · refine itF (by rw [hlv, hll, hs]; rfl) (wpAny_execs_nil ?_)
    rw [hs] at hll
    cases l with
    | nil => simp at hll
    | cons p1 l => cases l with
      | nil => simp at hll
      | cons p2 l => cases l with
        | nil => simp at hll
        | cons p3 l => cases l with
          | cons p4 l => simp at hll
          | nil =>
            obtain ⟨a1, t1⟩ := p1
            obtain ⟨a2, t2'⟩ := p2
            obtain ⟨a3, t3⟩ := p3
            refine wpAny_execs_cons (wpAny_Return_some (ldL S4 rfl ?_))
            exact k2 a1 a2 a3 hl3.symm _ _ _ _ _ _ S4.tail
end
end Mine

namespace Mine
open PySem PySem.Calls PyProof.Rows PySem.W
/-! the texts -/
noncomputable def dig (r : Nat) : Str := ⟨#[48 + r]⟩
noncomputable def tail1 (j : Nat) : Str := ⟨#[97 + j, 34, 120, 40, 34]⟩
noncomputable def tail3 (j : Nat) : Str := ⟨#[97 + j, 34, 105, 116, 39, 115, 32, 40, 34]⟩
noncomputable def pre3 (r o j : Nat) : Str := ⟨#[48 + r, 39, 97 + o, 39, 97 + j]⟩
noncomputable def text3 (r o j : Nat) : Str := ⟨#[48 + r, 39, 97 + o, 39, 97 + j, 34, 105, 116, 39, 115, 32, 40, 34]⟩
theorem lit_x : Str.ofString "\"x(\"" = ⟨#[34, 120, 40, 34]⟩ := by decide
theorem lit_it : Str.ofString "\"it's (\"" = ⟨#[34, 105, 116, 39, 115, 32, 40, 34]⟩ := by decide
theorem lit_t : Str.ofString "'" = ⟨#[39]⟩ := by decide
theorem lit_q : Str.ofString "\"" = ⟨#[34]⟩ := by decide
theorem tail1_eq (j : Nat) : nm j ++ Str.ofString "\"x(\"" = tail1 j := by rw [lit_x]; rfl
theorem text3_eq (r o j : Nat) : dig r ++ Str.ofString "'" ++ nm o ++ Str.ofString "'" ++ nm j ++ Str.ofString "\"it's (\"" = text3 r o j := by rw [lit_it, lit_t]; rfl
noncomputable def quotedB (x p : Str) : Bool := x.cps.toList.all (· ≠ 92) && x.cps.all (· < 128) && decide (x.cps.size ≤ 100) && Txt.contains x ⟨#[34]⟩ && decide (p.cps.size + 1 < x.cps.size) && decide (x.cps[p.cps.size]? = some 34) &&
  decide (x.cps[x.cps.size - 1]? = some 34) && (List.range x.cps.size).all (fun i => x.cps[i]? ≠ some 34 || i = p.cps.size || i = x.cps.size - 1) && decide (Txt.slice x (some 0) (some p.cps.size) = p) && decide (0 < p.cps.size)
theorem quotedB_iff {x p : Str} (h : quotedB x p = true) : Quoted x p := by
  simp only [quotedB, Bool.and_eq_true] at h
  obtain ⟨⟨⟨⟨⟨⟨⟨⟨⟨h1, h2⟩, h3⟩, h4⟩, h5⟩, h6⟩, h7⟩, h8⟩, h9⟩, h10⟩ := h
  refine ⟨fun c hc => ?_, h2, of_decide_eq_true h3, lit_q ▸ h4, of_decide_eq_true h5, of_decide_eq_true h6, of_decide_eq_true h7, fun i hi hc => ?_, of_decide_eq_true h9, of_decide_eq_true h10⟩
  · have := List.all_eq_true.mp h1 c hc
    simpa using this
  · have := List.all_eq_true.mp h8 i (List.mem_range.mpr hi)
    simp only [Bool.or_eq_true, decide_eq_true_eq] at this
    rcases this with (z | z) | z
    · exact absurd hc (by simpa using z)
    · exact .inl z
    · exact .inr z
noncomputable def bareB (p : Str) : Bool := p.cps.toList.all (fun c => c ≠ 40 && c ≠ 41) && p.cps.toList.all (· ≠ 92) && p.cps.all (· < 128)
theorem bareB_iff {p : Str} (h : bareB p = true) : Bare p := by
  simp only [bareB, Bool.and_eq_true] at h
  obtain ⟨⟨h1, h2⟩, h3⟩ := h
  refine ⟨fun c hc => ?_, fun c hc => ?_, h3⟩
  · have := List.all_eq_true.mp h1 c hc
    simpa using this
  · have := List.all_eq_true.mp h2 c hc
    simpa using this
noncomputable def all7 (f : Nat → Bool) : Bool := (List.range 7).all f
theorem all7_at {f : Nat → Bool} (h : all7 f = true) {j : Nat} (hj : j < 7) : f j = true := List.all_eq_true.mp h j (List.mem_range.mpr hj)
noncomputable def all4 (f : Nat → Bool) : Bool := (List.range 4).all f
theorem all4_at {f : Nat → Bool} (h : all4 f = true) {j : Nat} (hj : j < 4) : f j = true := List.all_eq_true.mp h j (List.mem_range.mpr hj)
theorem t1_q : all7 (fun j => quotedB (tail1 j) (nm j)) = true := by decide +kernel
theorem t3_q : all7 (fun j => quotedB (tail3 j) (nm j)) = true := by decide +kernel
theorem t1_b : all7 (fun j => bareB (nm j)) = true := by decide +kernel
theorem t1_s : all7 (fun j => decide (Txt.splitMax (tail1 j) ⟨#[39]⟩ 2 = [tail1 j])) = true := by decide +kernel
noncomputable def c3q (r : Nat) : Bool := all7 fun o => all7 fun j => quotedB (text3 r o j) (pre3 r o j)
theorem p3_q0 : c3q 0 = true := by decide +kernel
theorem p3_q1 : c3q 1 = true := by decide +kernel
theorem p3_q2 : c3q 2 = true := by decide +kernel
theorem p3_q3 : c3q 3 = true := by decide +kernel
theorem p3_q {r : Nat} (h : r < 4) : c3q r = true := by
  match r, h with
  | 0, _ => exact p3_q0
  | 1, _ => exact p3_q1
  | 2, _ => exact p3_q2
  | 3, _ => exact p3_q3
theorem p3_b : all4 (fun r => all7 fun o => all7 fun j => bareB (pre3 r o j)) = true := by decide +kernel
noncomputable def c3s (r : Nat) : Bool := all7 fun o => all7 fun j => decide (Txt.splitMax (text3 r o j) ⟨#[39]⟩ 2 = [dig r, nm o, tail3 j])
theorem p3_s0 : c3s 0 = true := by decide +kernel
theorem p3_s1 : c3s 1 = true := by decide +kernel
theorem p3_s2 : c3s 2 = true := by decide +kernel
theorem p3_s3 : c3s 3 = true := by decide +kernel
theorem p3_s {r : Nat} (h : r < 4) : c3s r = true := by
  match r, h with
  | 0, _ => exact p3_s0
  | 1, _ => exact p3_s1
  | 2, _ => exact p3_s2
  | 3, _ => exact p3_s3
theorem dig_s : all4 (fun r => decide (Str.ofString (toString (r : Int)) = dig r)) = true := by decide +kernel
theorem q1 {j : Nat} (hj : j < 7) : Quoted (tail1 j) (nm j) := quotedB_iff (all7_at t1_q hj)
theorem q3 {j : Nat} (hj : j < 7) : Quoted (tail3 j) (nm j) := quotedB_iff (all7_at t3_q hj)
theorem b1 {j : Nat} (hj : j < 7) : Bare (nm j) := bareB_iff (all7_at t1_b hj)
theorem s1 {j : Nat} (hj : j < 7) : Txt.splitMax (tail1 j) "'" 2 = [tail1 j] := by rw [lit_t]; exact of_decide_eq_true (all7_at t1_s hj)
theorem q4 {r o j : Nat} (hr : r < 4) (ho : o < 7) (hj : j < 7) : Quoted (text3 r o j) (pre3 r o j) := quotedB_iff (all7_at (all7_at (p3_q hr) ho) hj)
theorem b4 {r o j : Nat} (hr : r < 4) (ho : o < 7) (hj : j < 7) : Bare (pre3 r o j) := bareB_iff (all7_at (all7_at (all4_at p3_b hr) ho) hj)
theorem s4 {r o j : Nat} (hr : r < 4) (ho : o < 7) (hj : j < 7) : Txt.splitMax (text3 r o j) "'" 2 = [dig r, nm o, tail3 j] := by rw [lit_t]; exact of_decide_eq_true (all7_at (all7_at (p3_s hr) ho) hj)
theorem gd0 (u : Tok) : Gives (Builtin.«int.__new__» ⟨[.type "int", .str (dig 0) u], []⟩) (.int 0) := .of_eq (by kernel_rfl)
theorem gd1 (u : Tok) : Gives (Builtin.«int.__new__» ⟨[.type "int", .str (dig 1) u], []⟩) (.int 1) := .of_eq (by kernel_rfl)
theorem gd2 (u : Tok) : Gives (Builtin.«int.__new__» ⟨[.type "int", .str (dig 2) u], []⟩) (.int 2) := .of_eq (by kernel_rfl)
theorem gd3 (u : Tok) : Gives (Builtin.«int.__new__» ⟨[.type "int", .str (dig 3) u], []⟩) (.int 3) := .of_eq (by kernel_rfl)
theorem gd {r : Nat} (hr : r < 4) (u : Tok) : Gives (Builtin.«int.__new__» ⟨[.type "int", .str (dig r) u], []⟩) (.int (r : Int)) := by
  match r, hr with
  | 0, _ => exact gd0 u
  | 1, _ => exact gd1 u
  | 2, _ => exact gd2 u
  | 3, _ => exact gd3 u
/-- `int` of a sign -/
theorem callInt {w : World} {A : Around} {E : Value → Shared → Prop} {s : Shared} {Q : Value → Shared → Prop} {r : Nat} {t : Tok} (hr : r < 4) (h : Q (.int (r : Int) s.toks) { s with toks := s.toks + 1 }) : wpAny (model pw w) A (call (.type "int") [.str (dig r) t]) Q E s :=
  call_int_1 (gd hr t).meets (show (Made.int (r : Int)).post _ s from ⟨rfl, h⟩)
theorem ds {r : Nat} (hr : r < 4) : Str.ofString (toString (r : Int)) = dig r := of_decide_eq_true (all4_at dig_s hr)
end Mine

namespace Mine
open PySem PySem.Calls PyProof.Rows PySem.W
noncomputable def jobOf (x : Int) : Nat := (x % 7).toNat
noncomputable def othOf (x : Int) : Nat := (x / 7 % 7).toNat
noncomputable def rkOf (x : Int) : Nat := (x / 49 % 4).toNat
noncomputable def textOf (x : Int) : Str := if x / 98 % 3 = 1 then tail1 (jobOf x) else text3 (rkOf x) (othOf x) (jobOf x)
theorem job_lt (x : Int) : jobOf x < 7 := by unfold jobOf; omega
theorem oth_lt (x : Int) : othOf x < 7 := by unfold othOf; omega
theorem rk_lt (x : Int) : rkOf x < 4 := by unfold rkOf; omega
theorem job_eq (x : Int) : x % 7 = (jobOf x : Int) := by unfold jobOf; omega
theorem oth_eq (x : Int) : x / 7 % 7 = (othOf x : Int) := by unfold othOf; omega
theorem rk_eq (x : Int) : x / 49 % 4 = (rkOf x : Int) := by unfold rkOf; omega
noncomputable def abc : Str := "abcdefg"
theorem abc_at : all7 (fun j => decide (Txt.charAt abc (j : Int) = some (97 + j))) = true := by decide +kernel
section
variable {K : Frag} {w : World} {A : Around} {E : Value → Shared → Prop} {H h h' : Heap} {G PL : Led} {env : Env} {g : Array GenState} {d : Drawn} {tk : Nat} {os : OsState} {x : Int} {Lg e it ga : Addr} {k : Nat} {gs : GenState}
theorem eMod {a b : Int} {t u : Tok} {Q : Value → Shared → Prop} (hb : 0 < b) (q : ∀ t tk', Q (.int (a % b) t) ⟨h, g, d, tk', os⟩) : wpAny (model pw w) A (binaryOp .Mod (.int a t) (.int b u)) Q E ⟨h, g, d, tk, os⟩ := by
  refine mod_int (by omega) ?_
  rw [Int.fmod_eq_emod_of_nonneg a (by omega)]
  exact q _ _
theorem eDiv {a b : Int} {t u : Tok} {Q : Value → Shared → Prop} (hb : 0 < b) (hb2 : b < 1000) (q : ∀ t tk', Q (.int (a / b) t) ⟨h, g, d, tk', os⟩) : wpAny (model pw w) A (binaryOp .FloorDiv (.int a t) (.int b u)) Q E ⟨h, g, d, tk, os⟩ := by
  refine floordiv_int (by omega) ?_ ?_
  · rw [Int.fdiv_eq_ediv_of_nonneg a (by omega)]
    exact q _ _
  · exact .inl (PyProof.noPylong_small (by omega))
/-- a sign of the jobs' names -/
theorem idxS {value slice : Expr} {j : Nat} {k : Int} {t u : Tok} {Q : Value → Shared → Prop} (hk : k = (j : Int)) (hj : j < 7) (q : ∀ t' tk', Q (.str (nm j) t') ⟨h, g, d, tk', os⟩)
    (hs : subscripted slice false (.str abc t) (.int k u) = operate [.str abc t, .int k u] (getItem (.str abc t) (.int k u)) := by with_unfolding_all rfl) (ht : ∀ r, letTemporaryGo value (.str abc t) r = pure () := by intro _; with_unfolding_all rfl) :
    wpAny (model pw w) A (subscriptTail value slice (.str abc t) (.int k u)) Q E ⟨h, g, d, tk, os⟩ := by
  subst hk
  have hc : Txt.charAt abc (j : Int) = some (97 + j) := of_decide_eq_true (all7_at abc_at hj)
  have e : Txt.item abc (j : Int) = nm j := by unfold Txt.item; rw [hc]; rfl
  refine subscriptTail_builtin (s := ⟨h, g, d, tk, os⟩) (typeIs_str _ _ _) PySem.F.slot_str_getitem.lookup (PySem.SB.getItem ?_ (by rw [hc]; rfl) (by rw [e]; exact q _ _)) hs ht
  simp [fitsSsize]; omega
/-- texts are joined -/
theorem eCat {a b c : Str} {t u : Tok} {Q : Value → Shared → Prop} (hl : a.length + b.length ≤ 1000) (hc : a ++ b = c) (q : ∀ t tk', Q (.str c t) ⟨h, g, d, tk', os⟩) : wpAny (model pw w) A (binaryOp .Add (.str a t) (.str b u)) Q E ⟨h, g, d, tk, os⟩ := by
  subst hc
  exact add_str (fun t' tk' => q _ _) (by rw [sizeLine_eq]; omega)
theorem text_spec {t : Tok} {Q : Value → Shared → Prop} (T : TopL K H) (hd : A.depth + 5 < recursionLimit) (S : Sym H h G)
    (k : ∀ h' t' tk', Sym H h' G → Q (.str (textOf x) t') ⟨h', g, d, tk', os⟩) :
    wpAny (model pw w) A (call (.ref 204) [.int x t]) Q E ⟨h, g, d, tk, os⟩ := by
  have hj := job_lt x
  have ho := oth_lt x
  have hr := rk_lt x
  refine callF T.ftext T.lim (lt_z hd) S (BindsTo.of_eq rfl) fun h1 L tk1 S1 => ?_
  have S1 := S1.renm (l' := [("x", .int x t)]) ⟨rfl, trivial⟩
  refine wpAny_execs_cons (wpAny_Assign_Name (Subscript_ (cStr fun t2 tk2 => wpAny_BinOp (ldL S1 rfl (cInt fun t3 tk3 => eMod (by decide) fun t4 tk4 => idxS (job_eq x) hj fun t5 tk5 => stL S1 fun h6 tk6 S6 => ?_)))))
  refine wpAny_execs_cons (wpAny_If (wpAny_isTrue_Compare1 (wpAny_BinOp (wpAny_BinOp (ldL S6 rfl (cInt fun t7 tk7 => eDiv (by decide) (by decide) fun t8 tk8 => cInt fun t9 tk9 => eMod (by decide) fun t10 tk10 => cInt fun t11 tk11 => wpAny_eq_int (wpAny_truthy_bool ?_)))))))
  by_cases hal : x / 98 % 3 = 1
  · refine itT (by simpa using hal) ?_
    have e : textOf x = tail1 (jobOf x) := by unfold textOf; rw [if_pos hal]
    rw [e] at k
    refine wpAny_execs_cons (wpAny_Return_some (wpAny_BinOp (ldL S6 rfl (cStr fun t12 tk12 => eCat (c := tail1 (jobOf x)) (by rw [lit_x]; show 1 + 4 ≤ 1000; decide) (tail1_eq _) fun t13 tk13 => k _ _ _ S6.tail))))
  · refine itF (by simpa using hal) (wpAny_execs_nil ?_)
    have e : textOf x = text3 (rkOf x) (othOf x) (jobOf x) := by unfold textOf; rw [if_neg hal]
    rw [e] at k
    refine wpAny_execs_cons (wpAny_Return_some (wpAny_BinOp (wpAny_BinOp (wpAny_BinOp (wpAny_BinOp (wpAny_BinOp (eCallT T.toGlobs S6.keep rfl (spliced_cons (wpAny_BinOp (wpAny_BinOp (ldL S6 rfl (cInt fun t12 tk12 => eDiv (by decide) (by decide) fun t13 tk13 => cInt fun t14 tk14 => eMod (by decide) fun t15 tk15 => spliced_nil ?_))))))))))))
    rw [rk_eq]
    refine PySem.P.str_of_int (Nat.lt_of_le_of_lt (Nat.log2_le_self _) (by simp; omega)) ?_
    rw [ds hr]
    refine cStr fun t16 tk16 => eCat (c := ⟨#[48 + rkOf x, 39]⟩) (by rw [lit_t]; show 1 + 1 ≤ 1000; decide) (by rw [lit_t]; rfl) fun t17 tk17 => ?_
    refine Subscript_ (cStr fun t18 tk18 => wpAny_BinOp (wpAny_BinOp (ldL S6 rfl (cInt fun t19 tk19 => eDiv (by decide) (by decide) fun t20 tk20 => cInt fun t21 tk21 => eMod (by decide) fun t22 tk22 => idxS (oth_eq x) ho fun t23 tk23 => ?_))))
    refine eCat (c := ⟨#[48 + rkOf x, 39, 97 + othOf x]⟩) (by show 2 + 1 ≤ 1000; decide) rfl fun t24 tk24 => ?_
    refine cStr fun t25 tk25 => eCat (c := ⟨#[48 + rkOf x, 39, 97 + othOf x, 39]⟩) (by rw [lit_t]; show 3 + 1 ≤ 1000; decide) (by rw [lit_t]; rfl) fun t26 tk26 => ?_
    refine ldL S6 rfl (eCat (c := ⟨#[48 + rkOf x, 39, 97 + othOf x, 39, 97 + jobOf x]⟩) (by show 4 + 1 ≤ 1000; decide) rfl fun t27 tk27 => ?_)
    refine cStr fun t28 tk28 => eCat (c := text3 (rkOf x) (othOf x) (jobOf x)) (by rw [lit_it]; show 5 + 8 ≤ 1000; decide) (by rw [lit_it]; rfl) fun t29 tk29 => ?_
    exact k _ _ _ S6.tail
end
end Mine

namespace Mine
open PySem PySem.Calls PyProof.Rows PySem.W
noncomputable def needX (x : Int) : List Nat := if x / 98 % 3 = 1 then [] else [othOf x]
noncomputable def rankX (x : Int) : Int := if x / 98 % 3 = 1 then 9 else rkOf x
section
variable {K : Frag} {w : World} {A : Around} {E : Value → Shared → Prop} {H h h' : Heap} {G PL : Led} {env : Env} {g : Array GenState} {d : Drawn} {tk : Nat} {os : OsState} {x : Int} {a Lg e it ga : Addr} {k : Nat} {gs : GenState}
theorem idxT {value slice : Expr} {vs : List Value} {k : Int} {t : Tok} {v : Value} {Q : Value → Shared → Prop} (S : Sym H h G) (m : (a, tupP vs) ∈ G) (h0 : 0 ≤ k) (hx : vs[k.toNat]? = some v) (q : Q v ⟨h, g, d, tk, os⟩) (hk : k < 2 ^ 63)
    (hs : subscripted slice false (.ref a) (.int k t) = operate [.ref a, .int k t] (getItem (.ref a) (.int k t)) := by with_unfolding_all rfl) (ht : ∀ r, letTemporaryGo value (.ref a) r = pure () := by intro _; with_unfolding_all rfl) :
    wpAny (model pw w) A (subscriptTail value slice (.ref a) (.int k t)) Q E ⟨h, g, d, tk, os⟩ := by
  have hlt := (List.getElem?_eq_some_iff.mp hx).1
  refine item_tuple (j := k.toNat) (S.tup m) (by omega) hk ?_ (by simpa using hx) q hs ht
  unfold seqIndex?
  simp only [List.size_toArray]
  have e1 : (if k < 0 then k + (vs.length : Int) else k) = k := if_neg (by omega)
  simp only [e1]
  rw [if_pos (by simp; omega)]
set_option maxHeartbeats 4000000 in
theorem read_spec {t : Tok} {Q : Value → Shared → Prop} (T : TopL K H) (hd : A.depth + 20 < recursionLimit) (hu : A.units + 100 < cLine) (hh : A.handled = none) (S : Sym H h G)
    (k : ∀ h' (r : RowR) tk', r.job = jobOf x → r.needs = needX x → r.rank = rankX x → Sym H h' (r.ent ++ G) → Q (.ref r.ra) ⟨h', g.push .finished, d, tk', os⟩) :
    wpAny (model pw w) A (call (.ref 211) [.str (textOf x) t]) Q E ⟨h, g, d, tk, os⟩ := by
  have hj := job_lt x
  have ho := oth_lt x
  have hr := rk_lt x
  refine callF T.fread T.lim (lt_z hd) S (BindsTo.of_eq rfl) fun h1 L tk1 S1 => ?_
  have S1 := S1.renm (l' := [("text", .str (textOf x) t)]) ⟨rfl, trivial⟩
  by_cases hal : x / 98 % 3 = 1
  · have e : textOf x = tail1 (jobOf x) := by unfold textOf; rw [if_pos hal]
    rw [e] at S1
    have e1 : needX x = [] := by unfold needX; rw [if_pos hal]
    have e2 : rankX x = 9 := by unfold rankX; rw [if_pos hal]
    refine wpAny_execs_cons (wpAny_Assign_Name (eCallF T.fdec T.toGlobs S1.keep rfl (spliced_cons (ldL S1 rfl (spliced_nil ⟨S1.keep, dec_spec (A := A.deeper (callEnv fdRead L 211)) T (by exact (show A.depth + 11 < _ from lt_w hd)) (by show 5 ≤ 100; omega) S1 (fun _ h2 b tk2 S2 => ?_) (fun a1 a2 a3 z => by rw [s1 hj] at z; cases z) (.inl (by rw [s1 hj]; rfl))⟩)))))
    refine stL S2.swap fun h3 tk3 S3 => ?_
    refine wpAny_execs_cons (wpAny_Assign_Name (eCallF T.fstrip T.toGlobs S3.keep rfl (spliced_cons (Subscript_ (ldL S3 rfl (cInt fun t4 tk4 => idxT S3 (.tail _ (.head _)) (by omega) rfl (spliced_nil ⟨S3.keep, strip_spec (A := A.deeper (callEnv fdRead L 211)) T (by exact (show A.depth + 6 < _ from lt_w hd)) hh (q1 hj) S3 fun h5 t5 tk5 S5 => ?_⟩) (by omega)))))))
    refine stL S5 fun h6 tk6 S6 => ?_
    refine wpAny_execs_cons (wpAny_Return_some (wpAny_IfExp (wpAny_isTrue_Compare1 (ldL S6 rfl (Tuple_ (spliced_cons (Constant_none (env := callEnv fdRead L 211) (k := 0) (pos := ⟨0, 0, 0, 0⟩) (spliced_cons (Constant_none (env := callEnv fdRead L 211) (k := 0) (pos := ⟨0, 0, 0, 0⟩) (spliced_cons (ldL S6 rfl (spliced_nil (wpAny_newTuple ?_)))))))))))))
    have S7 := S6.push (o := { cls := .type "tuple", data := .seq [Value.none, .none, .str (tail1 (jobOf x)) t].toArray }) (P := tupP [.none, .none, .str (tail1 (jobOf x)) t]) rfl ⟨0, rfl⟩
    refine SeqAt.eq_tupleAt (e := fun _ => true) (S7.tup (.tail _ (.tail _ (.head _)))) (S7.tup (.head _)) (by exact (show A.units + 3 < _ from lt_w hu)) (fun j h1 h2 => ?_) (wpAny_truthy_bool (itT rfl ?_))
    · exact SeqAt.EqAt.same _
    refine List_ (spliced_cons (ldL S7.swap rfl (spliced_cons (eNil S7.swap fun na h8 S8 => spliced_cons (cInt (env := callEnv fdRead L 211) (k := 0) (pos := ⟨0, 0, 0, 0⟩) fun t9 tk9 => spliced_nil (wpAny_newList ?_))))))
    have S9 := S8.push (o := { cls := .type "list", data := .seq [Value.str (nm (jobOf x)) t5, .ref na, .int 9 t9].toArray }) (P := lstP [.str (nm (jobOf x)) t5, .ref na, .int 9 t9]) rfl ⟨0, rfl⟩
    refine k _ ⟨h8.objs.size, na, jobOf x, [], 9, t5, t9⟩ _ rfl e1.symm e2.symm ?_
    have S10 := (S9.front 1 rfl).weak (P' := lnP []) fun o q => ⟨[], q, .nil⟩
    exact S10.swap.sub (.cons_cons _ (.cons_cons _ (.cons _ (.cons _ (.cons _ (List.Sublist.refl _))))))
  · have e : textOf x = text3 (rkOf x) (othOf x) (jobOf x) := by unfold textOf; rw [if_neg hal]
    rw [e] at S1
    have e1 : needX x = [othOf x] := by unfold needX; rw [if_neg hal]
    have e2 : rankX x = rkOf x := by unfold rankX; rw [if_neg hal]
    refine wpAny_execs_cons (wpAny_Assign_Name (eCallF T.fdec T.toGlobs S1.keep rfl (spliced_cons (ldL S1 rfl (spliced_nil ⟨S1.keep, dec_spec (A := A.deeper (callEnv fdRead L 211)) T (by exact (show A.depth + 11 < _ from lt_w hd)) (by show 13 ≤ 100; omega) S1 (fun z => by have z := (s4 hr ho hj).symm.trans z; simp at z) (fun a1 a2 a3 z h2 b u1 u2 u3 tk2 S2 => ?_) (.inr (by rw [s4 hr ho hj]; rfl))⟩)))))
    obtain ⟨rfl, rfl, rfl⟩ : dig (rkOf x) = a1 ∧ nm (othOf x) = a2 ∧ tail3 (jobOf x) = a3 := by
      have z := (s4 hr ho hj).symm.trans z
      simpa using z
    refine stL S2.swap fun h3 tk3 S3 => ?_
    refine wpAny_execs_cons (wpAny_Assign_Name (eCallF T.fstrip T.toGlobs S3.keep rfl (spliced_cons (Subscript_ (ldL S3 rfl (cInt fun t4 tk4 => idxL S3 (.tail _ (.head _)) (by omega) rfl (spliced_nil ⟨S3.keep, strip_spec (A := A.deeper (callEnv fdRead L 211)) T (by exact (show A.depth + 6 < _ from lt_w hd)) hh (q3 hj) S3 fun h5 t5 tk5 S5 => ?_⟩) (by omega)))))))
    refine stL S5 fun h6 tk6 S6 => ?_
    refine wpAny_execs_cons (wpAny_Return_some (wpAny_IfExp (wpAny_isTrue_Compare1 (ldL S6 rfl (Tuple_ (spliced_cons (Constant_none (env := callEnv fdRead L 211) (k := 0) (pos := ⟨0, 0, 0, 0⟩) (spliced_cons (Constant_none (env := callEnv fdRead L 211) (k := 0) (pos := ⟨0, 0, 0, 0⟩) (spliced_cons (ldL S6 rfl (spliced_nil (wpAny_newTuple ?_)))))))))))))
    have S7 := S6.push (o := { cls := .type "tuple", data := .seq [Value.none, .none, .str (text3 (rkOf x) (othOf x) (jobOf x)) t].toArray }) (P := tupP [.none, .none, .str (text3 (rkOf x) (othOf x) (jobOf x)) t]) rfl ⟨0, rfl⟩
    refine SeqAt.RcAt.list_tuple (S7.isList (.tail _ (.tail _ (.head _)))) (S7.tup (.head _)) (by exact (show A.units + 3 < _ from lt_w hu)) _ _ _ _ (wpAny_truthy_bool (itF rfl ?_))
    have S7 := S7.swap
    refine List_ (spliced_cons (ldL S7 rfl (spliced_cons (List_ (spliced_cons (Subscript_ (ldL S7 rfl (cInt fun t8 tk8 => idxL S7 (.tail _ (.tail _ (.head _))) (by omega) rfl (spliced_nil (wpAny_newList ?_)) (by omega)))))))))
    have S8 := S7.push (o := { cls := .type "list", data := .seq [Value.str (nm (othOf x)) u2].toArray }) (P := lnP [othOf x]) rfl ⟨[.str (nm (othOf x)) u2], ⟨0, rfl⟩, .cons .nil⟩
    have S8 := S8.swap
    refine spliced_cons (eCallT T.toGlobs S8.keep rfl (spliced_cons (Subscript_ (ldL S8 rfl (cInt fun t9 tk9 => idxL S8 (.tail _ (.tail _ (.tail _ (.head _)))) (by omega) rfl (spliced_nil (callInt hr (spliced_nil (wpAny_newList ?_)))) (by omega))))))
    have S9 := S8.swap.push (o := { cls := .type "list", data := .seq [Value.str (nm (jobOf x)) t5, .ref (h6.push { cls := .type "tuple", data := .seq [Value.none, .none, .str (text3 (rkOf x) (othOf x) (jobOf x)) t].toArray }).objs.size, .int (rkOf x) tk9].toArray }) (P := lstP [.str (nm (jobOf x)) t5, .ref (h6.push { cls := .type "tuple", data := .seq [Value.none, .none, .str (text3 (rkOf x) (othOf x) (jobOf x)) t].toArray }).objs.size, .int (rkOf x) tk9]) rfl ⟨0, rfl⟩
    exact k _ ⟨_, (h6.push { cls := .type "tuple", data := .seq [Value.none, .none, .str (text3 (rkOf x) (othOf x) (jobOf x)) t].toArray }).objs.size, jobOf x, [othOf x], rkOf x, t5, tk9⟩ _ rfl e1.symm e2.symm (S9.sub (.cons_cons _ (.cons_cons _ (.cons _ (.cons _ (.cons _ (List.Sublist.refl _)))))))
end
end Mine

namespace Mine
open PySem PySem.Calls PyProof.Rows PySem.W
section
variable {M : Model} {K : Frag} {w : World} {A : Around} {E : Value → Shared → Prop} {H h h' : Heap} {G : Led} {env : Env} {g : Array GenState} {d : Drawn} {tk : Nat} {os : OsState} {a : Addr} {s : Shared}
/-- a comprehension with one cell of its own, its value used at once -/
theorem compUC {e : Expr} {scope : Scope} {pos : Pos} {newAcc first : Sem Value} {gc : Comprehension} {gs : List Comprehension} {cl : List (Str × Addr)} {n : Str} {u : Value → Sem Unit} {Q : Value → Shared → Prop}
    (hcl : clausesOf e = gc :: gs) (hs : ∀ x, foldedSetIterable gc.iter env x = pure x) (hclo : closureFor scope env = pure cl) (hkind : scope.kind = .function)
    (hcells : ∀ b, cellsFrom b scope.names cl = (n, b) :: cl) (hpush : ∀ h, pushCells h scope.names = h.push { cls := .type "cell", data := .cell none })
    (hnames : (scope.names.all fun x => decide (x.2 = .local → (inSc scope env).names.lookup x.1 = some .local)) = true)
    (h : wpAny M A first (fun x s₁ => wpAny M A (pyIter x) (fun it s₂ => wpAny M A newAcc (fun acc s₃ => ∃ H G, Sym H s₃.heap G ∧ ∀ h' Lc, Sym H h' ((Lc, nsP []) :: (Lc + 1, cellP none) :: G) →
      codeAny M A (.compStart e 0 it acc (cenvOf scope Lc ((n, Lc + 1) :: cl) env)) (fun r s' => match r with
        | .ok _ => wpAny M A (u acc) (fun _ s'' => ∃ H' G' l, Sym H' s''.heap ((Lc, nsP l) :: G') ∧ ∀ h'', Sym H' h'' G' → Q .none { s'' with heap := h'' }) E s'
        | .error _ => False) { s₃ with heap := h' }) E s₂) E s₁) E s) :
    wpAny M A (comprehension e scope env pos newAcc false first (some u)) Q E s := by
  unfold comprehension
  rw [hclo, hcl]
  refine wpAny_bind (wpAny_mono h (fun x s₁ h₁ => wpAny_bind (wpAny_standAt (wpAny_bind (wpAny_of_eq (hs x) (wpAny_bind (wpAny_holding (wpAny_mono h₁ (fun it s₂ h₂ =>
    wpAny_standIf (wpAny_bind (wpAny_mono h₂ (fun acc s₃ h₃ => wpAny_bind (wpAny_pure (wpAny_bind ?_))) fun _ _ h' => h')))
      fun _ _ h' => h'))))))) fun _ _ h' => h')
  obtain ⟨H, G, S, h₃⟩ := h₃
  unfold newFunctionEnv
  refine wpAny_bind (wpAny_alloc ?_)
  refine wpAny_bind (wpAny_layCells _ (fun name kind cells => by cases hkc : kind == NameKind.cell <;> simp [hkc]) _ _ _ _ ?_)
  rw [show ({ s₃ with heap := s₃.heap.push { cls := .type (if (some env).isSome = true then "dict" else "frame"), data := .dict #[] } } : Shared).heap.objs.size = s₃.heap.objs.size + 1 from Heap.size_push ..]
  rw [hpush, hcells]
  refine wpAny_bind (wpAny_pure ?_)
  refine wpAny_pure ?_
  have S1 : Sym H (s₃.heap.push { cls := .type "dict", data := .dict #[] }) ((s₃.heap.objs.size, nsP []) :: G) := by
    obtain ⟨ob, eo, p⟩ := nsP.of (l := []) (Heap.Ns.new s₃.heap (.type "dict")) (fun x v q => by simp at q)
    exact S.alloc (fun b o e => Heap.get?_push_of_some _ e) (Sym.size_none _) eo p
  have S2 := S1.push (o := { cls := .type "cell", data := .cell none }) (P := cellP none) rfl rfl
  rw [Heap.size_push] at S2
  have h₄ := h₃ _ s₃.heap.objs.size S2.swap
  refine wpAny_holding (wpAny_bind (wpAny_attempt (wpAny_holding (wpAny_run (codeAny_mono h₄ fun r s' hr => ?_)))))
  cases r with
  | error x => exact hr.elim
  | ok f =>
    refine wpAny_bind (wpAny_rule (wpAny_bind (wpAny_holding (wpAny_mono hr (fun _ s'' hr' => ?_) fun _ _ h' => h'))))
    obtain ⟨H', G', l, S', hr⟩ := hr'
    obtain ⟨m, hn', _⟩ := S'.ns (.head _)
    have hv : ∀ x ∈ (scope.names.filter fun x => (x.2 == .local || x.2 == .cell) && x.1 != (".0" : Str)).reverse, x.2 = .local →
      (cenvOf scope s₃.heap.objs.size ((n, s₃.heap.objs.size + 1) :: cl) env).kindOf x.1 = some .local := fun x hx hl => of_decide_eq_true (List.all_eq_true.mp hnames x (List.mem_filter.mp (List.mem_reverse.mp hx)).1) hl
    have hv' : ∀ x ∈ (scope.names.filter fun x => (x.2 == .local || x.2 == .cell) && x.1 != (".0" : Str)).reverse.drop 1 ++ (scope.names.filter fun x => (x.2 == .local || x.2 == .cell) && x.1 != (".0" : Str)).reverse.take 1,
      x.2 = .local → (cenvOf scope s₃.heap.objs.size ((n, s₃.heap.objs.size + 1) :: cl) env).kindOf x.1 = some .local := fun x hx hl => by
      rcases List.mem_append.mp hx with h1 | h1
      · exact hv x (List.mem_of_mem_drop h1) hl
      · exact hv x (List.mem_of_mem_take h1) hl
    exact wpAny_bind (wpAny_comp_letGo (cenv := cenvOf scope s₃.heap.objs.size ((n, s₃.heap.objs.size + 1) :: cl) env) hkind _ s'' m hv' hn' fun h' m' hn'' hs' => wpAny_pure (hr h' (S'.extTail hs'.extBut)))
theorem startD {k v : Expr} {gens : List Comprehension} {scope : Scope} {pos : Pos} {depth : Nat} {target iter : Expr} {ifs : List Expr} {it acc : Value} {R : Result → Shared → Prop} (hg : gens[depth]? = some ⟨target, iter, ifs, 0⟩)
    (hi : ∀ (Q : Value → Shared → Prop) (E : Value → Shared → Prop), Q it s → wpAny (model pw w) A (pyIter it) Q E s) (h0 : codeAny (model pw w) A (.compLoop (.DictComp k v gens scope pos) depth it acc env) R s) :
    codeAny (model pw w) A (.compStart (.DictComp k v gens scope pos) depth it acc env) R s := by
  refine codeAny_of_tree ?_
  show wpAny _ _ ((compStart (.DictComp k v gens scope pos) depth it acc env).onRaise (fun x => do noteFrame x env; standAt theWindowsPlace)) _ _ s
  refine wpAny_notedAt ?_
  have hc : (clausesOf (.DictComp k v gens scope pos))[depth]? = some ⟨target, iter, ifs, 0⟩ := hg
  unfold compStart
  rw [hc]
  show wpAny _ _ (ask >>= _) _ _ s
  refine wpAny_bind (wpAny_askSetting (wpAny_ite ?_))
  split
  · first
      | exact wpAny_bind (wpAny_pure (wpAny_pure (And.intro rfl h0)))
      | exact wpAny_pure (And.intro rfl h0)
  · first
      | exact wpAny_bind (wpAny_rule (wpAny_bind (wpAny_standAt (wpAny_bind (hi _ _ (wpAny_pure (And.intro rfl h0)))))))
      | (refine wpAny_bind (wpAny_rule ?_); show wpAny _ _ (standAt iter.pos >>= _) _ _ s; exact wpAny_bind (wpAny_standAt (wpAny_bind (hi _ _ (wpAny_pure (And.intro rfl h0))))))
theorem loopD {k v : Expr} {gens : List Comprehension} {scope : Scope} {pos : Pos} {depth : Nat} {target iter : Expr} {it : Value} {D : Addr} {R : Result → Shared → Prop} (hg : gens[depth]? = some ⟨target, iter, [], 0⟩) (hg' : gens[depth + 1]? = none) (I : Nat → Shared → Prop)
    (turn : ∀ n s, I n s → ∀ X J : Shared → Prop, (∀ s, R (.ok .next) s → X s) → (∀ s, (∃ m, m < n ∧ I m s) → J s) → wpAny (model pw w) A (pyNext it) (fun r s₁ => match r with
      | none => X s₁
      | some x => wpAny (model pw w) A (letOwnedTupleGo target it x) (fun _ s₁' => wpAny (model pw w) A (assign target env x) (fun _ s₂ =>
          wpAny (model pw w) A (eval k env) (fun kv s₃ => wpAny (model pw w) A (eval v env) (fun vv s₄ =>
              wpAny (model pw w) A (dictSet D kv vv) (fun _ s₅ => J s₅) NoE s₄) NoE s₃) NoE s₂) NoE s₁') NoE s₁) NoE s)
    (n : Nat) (h : I n s) : codeAny (model pw w) A (.compLoop (.DictComp k v gens scope pos) depth it (.ref D) env) R s := by
  refine codeAny_loop rfl I (fun n s hI => ?_) n h
  show wpAny _ A ((compTurn (.DictComp k v gens scope pos) depth it (.ref D) env).onRaise (fun x => do noteFrame x env; theTreesLotGoes x)) _ _ s
  refine wpAny_noted ?_
  unfold compTurn
  simp only [hg, hg']
  refine wpAny_bind (wpAny_standAt (wpAny_bind (noE (wpAny_mono (turn n s hI _ _ (fun _ q => q) fun _ q => q) (fun r s₁ h₁ => ?_) fun _ _ h' => h'))))
  cases r with
  | none => exact wpAny_pure h₁
  | some x =>
    refine wpAny_bind (wpAny_mono h₁ (fun _ s₁' h₁' => ?_) fun _ _ h' => False.elim h')
    refine wpAny_bind (wpAny_mono h₁' (fun _ s₂ h₂ => wpAny_bind (wpAny_tests_nil ?_)) fun _ _ h' => False.elim h')
    refine wpAny_bind (wpAny_bind (wpAny_mono h₂ (fun kv s₃ h₃ => wpAny_bind (wpAny_holding (wpAny_mono h₃ (fun vv s₄ h₄ => ?_) fun _ _ h' => False.elim h'))) fun _ _ h' => False.elim h'))
    exact wpAny_bind (wpAny_standAt (wpAny_holding (wpAny_mono h₄ (fun _ s₅ h₅ => wpAny_pure ⟨rfl, h₅⟩) fun _ _ h' => False.elim h')))
theorem dSetC {kvs : List (Str × Value)} {key : Str} {t : Tok} {v : Value} {Q : Unit → Shared → Prop} (S : Sym H h ((a, dctP w kvs) :: G)) (hl : kvs.length ≤ 1000) (k : ∀ h' tk', Sym H h' ((a, dctP w (stored kvs key v)) :: G) → Q () ⟨h', g, d, tk', os⟩) :
    wpAny (model pw w) A (dictSet a (.str key t) v) Q E ⟨h, g, d, tk, os⟩ :=
  wpAny_dictSet_pairs (s := ⟨h, g, d, tk, os⟩) (strKind_is pw w key t) (S.dict (.head _)) (fun h' q1 q2 => k h' _ (S.dictUpd q2 q1)) (by rw [sizeLine_eq]; omega)
/-- a name is bound to a dict made in place -/
theorem asgDComp {y : Str} {pos' p pos : Pos} {kx vx : Expr} {gens : List Comprehension} {scope : Scope} {s : Shared} {Q : Flow → Shared → Prop}
    (k : wpAny (model pw w) A (comprehension (.DictComp kx vx gens scope p) scope env (firstIterPos gens p) newDict (firstAsync gens) (firstIter gens env) (some (assign (.Name y pos') env))) (fun _ s' => Q .next s') E s)
    (hs : swapsWith (.DictComp kx vx gens scope p) (some (.Name y pos')) pos.line env = pure true := by rfl) :
    wpAny (model pw w) A (exec (.Assign [.Name y pos'] (.DictComp kx vx gens scope p) pos) env) Q E s := by
  rw [exec_Assign_Name_used _ _ _ _ hs, arm_evalThenUse_DictComp]
  exact wpAny_bind (wpAny_standAt (wpAny_bind (wpAny_bind (wpAny_mono k (fun _ s' q => wpAny_pure (wpAny_pure q)) fun _ _ q => q))))
end
end Mine

namespace Mine
open PySem PySem.Calls PyProof.Rows PySem.W
structure TopZ (K : Frag) (H : Heap) : Prop extends TopL K H where
  addG : specialIn K (.ref 115) "__get__" = some (some (.builtin "function.__get__"))
  addT : takesIn K (.ref 115) = some false
  addF : ∃ o, K.lookup 115 = some o ∧ o.data = .func fdAdd
/-- what a starred thing gives -/
noncomputable def StarV (M : Model) (A : Around) (E : Value → Shared → Prop) (v : Value) (Q : List Value → Shared → Prop) (s : Shared) : Prop :=
  wpAny M A (notIterableAtAll v) (fun b s₂ => b = false ∧ wpAny M A (collect v) Q E s₂) E s
section
variable {M : Model} {A : Around} {E : Value → Shared → Prop} {s : Shared}
theorem starSpliced {x : Sem Value} {pos : Pos} {Q : List Value → Shared → Prop} (h : wpAny M A x (fun v s₁ => StarV M A E v Q s₁) E s) :
    wpAny M A (spliced [(true, (do let v ← x; standAt pos; pure v))]) Q E s := by
  rw [spliced]
  refine wpAny_bind (wpAny_bind (wpAny_mono h (fun v s₁ h₁ => ?_) fun _ _ q => q))
  refine wpAny_bind (wpAny_standAt (wpAny_pure ?_))
  refine wpAny_bind (wpAny_mono h₁ (fun b s₂ h₂ => ?_) fun _ _ q => q)
  obtain ⟨rfl, h₂⟩ := h₂
  have key : wpAny M A (collect v >>= fun here => holding here (spliced []) >>= fun r => pure (here ++ r)) Q E s₂ :=
    wpAny_bind (wpAny_mono h₂ (fun here s₃ h₃ => wpAny_bind (wpAny_holding (spliced_nil (wpAny_pure (by rw [List.append_nil]; exact h₃))))) fun _ _ q => q)
  simpa using key
theorem starCall {f : Value} {pos : Pos} {Q : Value → Shared → Prop} {P : Heap → Prop} {args : List (Bool × Sem Value)} (hst : args.any (·.1) = true)
    (hk : ∀ h, P h → Looks M h (keeperOf f) .boundFrame)
    (h : wpAny M A (evalArgs f true args []) (fun a s₁ => P s₁.heap ∧ wpAny M A (call f a.pos a.kw) Q E s₁) E s) : wpAny M A (callWith pos f [] args []) Q E s := by
  unfold callWith
  refine wpAny_bind (wpAny_holding (wpAny_mono h (fun a s₁ h₁ => ?_) fun _ _ q => q))
  refine wpAny_bind (wpAny_standAt ?_)
  simp only [hst, Bool.true_or]
  refine wpAny_bind ((hk _ h₁.1).here ?_)
  dsimp only [List.nil_append]
  refine wpAny_bind (wpAny_mono (wpAny_operating h₁.2) (fun r s₂ hr => ?_) fun _ _ q => q)
  exact wpAny_bind (wpAny_holding (wpAny_point (wpAny_pure hr)))
end
section
variable {K : Frag} {w : World} {A : Around} {E : Value → Shared → Prop} {H h h' : Heap} {G : Led} {env : Env} {g : Array GenState} {d : Drawn} {tk : Nat} {os : OsState} {a x dx : Addr} {s : Shared} {l ls : List (Str × Value)} {vs : List Value}
theorem starL {Q : List Value → Shared → Prop} (S : Sym H h G) (m : (a, lstP vs) ∈ G) (hl : vs.length ≤ 1000) (k : ∀ h', Sym H h' G → Q vs ⟨h', g, d, tk, os⟩) : StarV (model pw w) A E (.ref a) Q ⟨h, g, d, tk, os⟩ := by
  obtain ⟨o, e, n, rfl⟩ := S.get m
  have hT' : (⟨h, g, d, tk, os⟩ : Shared).TypeIs (.ref a) "list" := ⟨_, e, rfl⟩
  unfold StarV notIterableAtAll
  refine wpAny_bind (wpAny_specialOf hT' PySem.F.slot_list_iter.lookup (wpAny_pure ⟨rfl, ?_⟩))
  refine wpAny_collect_seq a (.inl rfl) e rfl rfl (fun h' hk => ?_) (by simp only [List.size_toArray, sizeLine_eq]; omega)
  exact k h' (S.grow hk)
noncomputable def methP (x : Addr) (o : Obj) : Prop := o = methodObj (.ref 115) (.ref x)
/-- `sorter.add(e, *e2)` -/
theorem eMethS {n : Str} {np apos pos sp : Pos} {e e2 : Expr} {Q : Value → Shared → Prop} (T : TopZ K H) (S : Sym H h ((env.locals, nsP l) :: G)) (hv : l.lookup n = some (.ref x))
    (m1 : (x, instP 165 dx []) ∈ G) (m2 : (dx, nsE ls) ∈ G) (hsh : ls.lookup ("add" : Str) = none)
    (k : ∀ q h' tk', Sym H h' ((q, methP x) :: (env.locals, nsP l) :: G) → wpAny (model pw w) A (eval e env) (fun v1 s₁ => wpAny (model pw w) A (eval e2 env) (fun v2 s₂ => StarV (model pw w) A E v2 (fun here s₃ =>
      ∃ G', Sym H s₃.heap G' ∧ (q, methP x) ∈ G' ∧ codeAny (model pw w) A (.call (.ref 115) ⟨.ref x :: v1 :: here, []⟩) (wants Q E) s₃) s₂) E s₁) E ⟨h', g, d, tk', os⟩)
    (hs : backTo pos (starEach [e, .Starred e2 sp] env) = [(false, eval e env), (true, (do let v ← eval e2 env; standAt pos; pure v))] := by rfl)
    (hk : env.scope.kind = .function := by rfl) (hl : env.kindOf n = some .local := by rfl) (hd : (n == ("__debug__" : Str)) = false := by decide) :
    wpAny (model pw w) A (eval (.Call (.Attribute (.Name n np) "add" apos) [e, .Starred e2 sp] [] pos) env) Q E ⟨h, g, d, tk, os⟩ := by
  obtain ⟨ox, od, I, hx, p⟩ := instD S (.tail _ m1) (.tail _ m2)
  obtain ⟨h1, h2⟩ := T.methT ("add", 115) (by decide)
  obtain ⟨cd, hc, hdd⟩ := T.clsT
  show wpAny _ _ (do
    let ov ← attributeBase (.Name n np) "add" env (eval (.Name n np) env)
    standAt apos.atName
    methodCall (.Name n np) "add" apos pos env ov ([e, .Starred e2 sp].length + 0) (backTo pos (starEach [e, .Starred e2 sp] env)) []) _ _ _
  refine wpAny_bind (ldL S hv ?_ hk hl hd)
  refine wpAny_bind (wpAny_standAt ?_)
  rw [hs]
  unfold methodCall calleeOf
  have hform : methodCallForm ([e, Expr.Starred e2 sp].length + 0) [(false, eval e env), (true, (do let v ← eval e2 env; standAt pos; pure v))] [] = false := rfl
  rw [hform]
  refine wpAny_bind (wpAny_holding (wpAny_bind ?_))
  have hf : findObj K 165 (some od) "add" = some (.bind (.builtin "function.__get__") (.ref 115)) := by
    unfold findObj
    rw [hc, h1]
    simp only [Option.bind_some, T.addG, T.addT, W.ownOf, hdd, if_true, lookIn_of p, hsh]
    have hcn : copiedNames.contains ("add" : Str) = false := by decide
    simp only [hcn, Bool.false_and, Bool.false_eq_true, if_false]
  refine get_bind (s := ⟨h, g, d, tk, os⟩) (S.X T.toTopS) I T.gaT hf T.haT (wpAny_call (fn_get (s := ⟨h, g, d, tk + 1, os⟩) (S.X T.toTopS) h2 ?_))
  refine handed_on rfl (wpAny_pure ?_)
  have hpos : methodCallPos false (.Name n np) env apos pos = pure pos := rfl
  refine wpAny_bind (wpAny_of_eq hpos ?_)
  have S1 : Sym H (h.push (methodObj (.ref 115) (.ref x))) ((h.objs.size, methP x) :: (env.locals, nsP l) :: G) := S.push rfl rfl
  refine starCall (P := fun hh => hh.get? h.objs.size = some (methodObj (.ref 115) (.ref x)) ∧ K.In hh) rfl (fun hh q => ?_) (evalArgs_plain (spliced_cons (wpAny_mono (k _ _ _ S1) (fun v1 s₁ q1 => starSpliced (wpAny_mono q1 (fun v2 s₂ q2 => ?_) fun _ _ q => q)) fun _ _ q => q)))
  · obtain ⟨of, e1, e2⟩ := T.addF
    exact (Looks.ld (part := none) q.1).andThen ((Looks.ld (part := none) (q.2 _ _ e1)).andThen (by rw [e2]; exact .now))
  · unfold StarV at q2 ⊢
    refine wpAny_mono q2 (fun b s₃ h₃ => ⟨h₃.1, wpAny_mono h₃.2 (fun here s₄ h₄ => ?_) fun _ _ q => q⟩) fun _ _ q => q
    obtain ⟨G', S', hm, h₄⟩ := h₄
    obtain ⟨o, eo, rfl⟩ := S'.get hm
    exact ⟨⟨eo, S'.X T.toTopS⟩, wpAny_call (method_call eo h₄)⟩
end
end Mine

namespace Mine
open PySem PySem.Calls PyProof.Rows PySem.W
noncomputable def lawSt (i : Nat) : Stmt := match ((bodyOf fdLaw)[i]? : Option Stmt) with | some st => st | none => .Pass ⟨0, 0, 0, 0⟩
noncomputable def tailNums : List Int := [10, 200, 39, 341, 129, 146]
structure RowOk (r : RowR) : Prop where
  job : r.job < 7
  need : ∀ q ∈ r.needs, q < 7
  len : r.needs.length ≤ 1
noncomputable def GB (g : Array GenState) : Prop := ∀ y ∈ g, y.bare = true
theorem GB.fin {g : Array GenState} (h : GB g) : GB (g.push .finished) := fun y hy => by
  rcases Array.mem_push.mp hy with q | q
  · exact h y q
  · rw [q]; rfl
section
variable {K : Frag} {w : World} {A : Around} {E : Value → Shared → Prop} {H h h' : Heap} {G : Led} {env : Env} {g : Array GenState} {d : Drawn} {tk : Nat} {os : OsState} {a x dx L sA : Addr} {s : Shared} {l ls : List (Str × Value)} {vs us : List Value} {xs : List Int}
theorem sliceB {value : Expr} {lower upper : Option Expr} {p pos : Pos} {Q : Value → Shared → Prop}
    (k : wpAny (model pw w) A (eval value env) (fun o s₁ => wpAny (model pw w) A (evalPart lower env) (fun vl s₂ => wpAny (model pw w) A (evalPart upper env) (fun vu s₃ => ∃ (H : Heap) (G : Led) (a : Addr) (vs : List Value) (lo hi : Option Int), o = .ref a ∧ s₃.heap.IsList a vs.toArray ∧ vs.length ≤ 1000 ∧ Sym H s₃.heap G ∧ IsPart vl lo ∧ IsPart vu hi ∧
      ∀ b h', Sym H h' ((b, lstP (slicePick vs.toArray lo hi none).toList) :: G) → Q (.ref b) { s₃ with heap := h' }) E s₂) E s₁) E ⟨h, g, d, tk, os⟩)
    (ht : ∀ o r, letTemporaryGo value o r = pure () := by intro _ _; rfl) :
    wpAny (model pw w) A (eval (.Subscript value (.Slice lower upper none p) pos) env) Q E ⟨h, g, d, tk, os⟩ := by
  refine wpAny_Subscript_list_slice (wpAny_mono k (fun o s₁ h₁ => wpAny_mono h₁ (fun vl s₂ h₂ => wpAny_mono h₂ (fun vu s₃ h₃ => ?_) fun _ _ e => e) fun _ _ e => e) fun _ _ e => e) ht
  obtain ⟨H, G, a, vs, lo, hi, rfl, hL, hl, S, pl, pu, q⟩ := h₃
  refine ⟨a, vs.toArray, lo, hi, rfl, hL, by simp only [List.size_toArray, sizeLine_eq]; omega, pl, pu, q _ _ ?_⟩
  have S1 := (S.grow (h' := s₃.heap.push { cls := .type "slice", data := .fields #[vl, vu, .none] }) fun b o e => Heap.get?_push_of_some _ e).push (o := { cls := .type "list", data := .seq (slicePick vs.toArray lo hi none) }) (P := lstP (slicePick vs.toArray lo hi none).toList) rfl ⟨0, by simp⟩
  rw [Heap.size_push] at S1
  exact S1
set_option maxHeartbeats 4000000 in
theorem law_nums {Q : Flow → Shared → Prop} (hh : A.handled = none) (hS : H.IsList sA vs.toArray) (hi : IntsAre vs xs) (hl : xs.length ≤ 100) (S : Sym H h ((L, nsP [("script", .ref sA)]) :: (L + 1, cellP none) :: (L + 2, cellP none) :: G))
    (k : ∀ h' tk' nA rA us l, IntsAre us (xs.take 6 ++ tailNums) → NsHas l [("numbers", .ref nA)] → Sym H h' ((L, nsP l) :: (L + 1, cellP (some (.ref rA))) :: (L + 2, cellP none) :: (nA, lstP us) :: (rA, lstP []) :: G) → Q .next ⟨h', g, d, tk', os⟩) :
    wpAny (model pw w) A (exec (lawSt 0) (callEnvC fdLaw L 228)) Q E ⟨h, g, d, tk, os⟩ := by
  have hvl := hi.length
  refine Assign_Tuple (Tuple_ (spliced_cons (wpAny_BinOp (sliceB (ldL (env := callEnvC fdLaw L 228) S rfl (wpAny_evalPart_none (wpAny_evalPart_some (cInt fun t1 tk1 => ⟨H, _, sA, vs, none, some 6, rfl, ?_, by omega, S, ?_, ?_, fun b h2 S2 => ?_⟩))))))))
  · obtain ⟨o, e1, e2⟩ := hS
    exact ⟨o, S.keep _ _ e1, e2⟩
  · exact .none
  · exact .int _ _
  have hp := slice_ints_uptoW hi (y := 6) (by omega)
  generalize (slicePick vs.toArray none (some 6) none).toList = ps at S2 hp
  have hpl : ps.length ≤ 6 := by rw [hp.length]; simp; omega
  refine List_ (spliced_cons (cInt (env := callEnvC fdLaw L 228) (k := 0) (pos := ⟨0, 0, 0, 0⟩) fun t10 tk10 => spliced_cons (cInt (env := callEnvC fdLaw L 228) (k := 0) (pos := ⟨0, 0, 0, 0⟩) fun t11 tk11 => spliced_cons (cInt (env := callEnvC fdLaw L 228) (k := 0) (pos := ⟨0, 0, 0, 0⟩) fun t12 tk12 => spliced_cons (cInt (env := callEnvC fdLaw L 228) (k := 0) (pos := ⟨0, 0, 0, 0⟩) fun t13 tk13 => spliced_cons (cInt (env := callEnvC fdLaw L 228) (k := 0) (pos := ⟨0, 0, 0, 0⟩) fun t14 tk14 => spliced_cons (cInt (env := callEnvC fdLaw L 228) (k := 0) (pos := ⟨0, 0, 0, 0⟩) fun t15 tk15 => spliced_nil (wpAny_newList ?_))))))))
  have S3 := S2.push (o := { cls := .type "list", data := .seq [Value.int 10 t10, .int 200 t11, .int 39 t12, .int 341 t13, .int 129 t14, .int 146 t15].toArray }) (P := lstP [.int 10 t10, .int 200 t11, .int 39 t12, .int 341 t13, .int 129 t14, .int 146 t15]) rfl ⟨0, rfl⟩
  have hq : IntsAre (ps ++ [.int 10 t10, .int 200 t11, .int 39 t12, .int 341 t13, .int 129 t14, .int 146 t15]) (xs.take 6 ++ tailNums) := hp.append (.cons _ _ (.cons _ _ (.cons _ _ (.cons _ _ (.cons _ _ (.cons _ _ .nil))))))
  refine addL S3 (.tail _ (.head _)) (.head _) (by simp; omega) fun nA h4 S4 => ?_
  generalize ps ++ [.int 10 t10, .int 200 t11, .int 39 t12, .int 341 t13, .int 129 t14, .int 146 t15] = us at S4 hq
  have S4 : Sym H h4 ((nA, lstP us) :: (L, nsP [("script", .ref sA)]) :: (L + 1, cellP none) :: (L + 2, cellP none) :: G) := S4.sub (.cons_cons _ (.cons _ (.cons _ (List.Sublist.refl _))))
  refine spliced_cons (eNil S4 fun rA h5 S5 => spliced_nil (wpAny_newTuple ?_))
  have S6 := S5.push (o := { cls := .type "tuple", data := .seq [Value.ref nA, .ref rA].toArray }) (P := tupP [.ref nA, .ref rA]) rfl ⟨0, rfl⟩
  refine asgTt hh S6 (.head _) rfl rfl fun h7 S7 => ?_
  have S7 := S7.tail
  refine assignInOrder_cons (wpAny_assign_Name (stL (env := callEnvC fdLaw L 228) (S7.front 2 rfl) fun h8 tk8 S8 => assignInOrder_cons (wpAny_assign_Name (stC (env := callEnvC fdLaw L 228) (S8.front 3 rfl) fun h9 S9 => assignInOrder_nil ?_))))
  refine k _ _ nA rA us _ hq ⟨rfl, trivial⟩ (S9.perm (by ((try simp only [locals_eqC, locals_eqD]); ((refine perm_sum fun _ => ?_; (try simp only [locals_eq, List.append_eq, sortL, famL_app, famL_cons, famL_nil, NodeR.ent, List.cons_append, List.nil_append, List.append_assoc, List.eraseIdx_cons_succ, List.eraseIdx_cons_zero]); (try simp only [List.map_append, List.map_cons, List.map_nil, List.sum_append, List.sum_cons, List.sum_nil, Nat.add_zero, Nat.zero_add, Nat.add_assoc]); (try ac_rfl)); try omega))))
end
end Mine

namespace Mine
open PySem PySem.Calls PyProof.Rows PySem.W
theorem rowOk_of {r : RowR} {x : Int} (h1 : r.job = jobOf x) (h2 : r.needs = needX x) : RowOk r := by
  refine ⟨by rw [h1]; exact job_lt x, ?_, ?_⟩
  · rw [h2]; unfold needX
    split
    · intro q hq; cases hq
    · intro q hq; rw [List.mem_singleton.mp hq]; exact oth_lt x
  · rw [h2]; unfold needX
    split <;> simp
theorem rowsV_snoc (rs : List RowR) (r : RowR) : rowsV (rs ++ [r]) = rowsV rs ++ [.ref r.ra] := by simp [rowsV]
theorem rowsL_snoc (rs : List RowR) (r : RowR) : rowsL (rs ++ [r]) = rowsL rs ++ r.ent := by simp [rowsL]
section
variable {K : Frag} {w : World} {A : Around} {E : Value → Shared → Prop} {H h h' : Heap} {G : Led} {env : Env} {g : Array GenState} {d : Drawn} {tk : Nat} {os : OsState} {a x dx L sA nA rA : Addr} {s : Shared} {l ls : List (Str × Value)} {vs us : List Value} {xs : List Int}
theorem text_ok (x : Int) : ∃ p, Quoted (textOf x) p ∧ Bare p := by
  unfold textOf
  split
  · exact ⟨_, q1 (job_lt x), b1 (job_lt x)⟩
  · exact ⟨_, q4 (rk_lt x) (oth_lt x) (job_lt x), b4 (rk_lt x) (oth_lt x) (job_lt x)⟩
/-- what was read is what was asked -/
theorem neRow {r : RowR} {b nb : Addr} {u1 u2 : Tok} {Q : Value → Shared → Prop} (S : Sym H h G) (m1 : (r.ra, lstP r.val) ∈ G) (m2 : (r.na, lnP r.needs) ∈ G) (m3 : (b, lstP [.str (nm r.job) u1, .ref nb, .int r.rank u2]) ∈ G) (m4 : (nb, lnP r.needs) ∈ G) (hne : r.na ≠ nb)
    (hu : A.units + 5 < cLine) (k : Q (.bool false) ⟨h, g, d, tk, os⟩) : wpAny (model pw w) A (compareOp .NotEq (.ref r.ra) (.ref b)) Q E ⟨h, g, d, tk, os⟩ := by
  obtain ⟨o1, e1, vs1, ⟨n1, rfl⟩, hn1⟩ := S.get m2
  obtain ⟨o2, e2, vs2, ⟨n2, rfl⟩, hn2⟩ := S.get m4
  have hl1 : h.IsList r.na vs1.toArray := ⟨_, e1, rfl, n1, rfl⟩
  have hl2 : h.IsList nb vs2.toArray := ⟨_, e2, rfl, n2, rfl⟩
  refine (SeqAt.RcNeAt.lists (s := ⟨h, g, d, tk, os⟩) (e := fun _ => true) (S.isList m1) (S.isList m3) rfl (by omega) (fun j h1 h2 => ?_)) _ _ _ _ ?_
  · match j, h1 with
    | 0, _ =>
      have := SeqAt.EqAt.str_str (A := A.in1) (s := ⟨h, g, d, tk, os⟩) (nm r.job) r.t1 (nm r.job) u1
      rw [beq_self_eq_true] at this
      exact this
    | 1, _ =>
      refine SeqAt.EqAt.of_refs hne ?_
      have := SeqAt.RcAt.lists (A := A.in1) (s := ⟨h, g, d, tk, os⟩) (e := fun _ => true) hl1 hl2 (by simp [hn1.length, hn2.length]) (by exact (show A.units + 1 < _ from lt_w hu)) (fun j h1 h2 => ?_)
      · have e : ((List.range vs1.toArray.size).all fun _ => true) = true := List.all_eq_true.mpr fun _ _ => rfl
        rw [e] at this
        exact this
      · have q1 : vs1[j]? = some vs1.toArray[j] := by simp at h1 ⊢
        have q2 : vs2[j]? = some vs2.toArray[j] := by simp at h2 ⊢
        obtain ⟨c1, t1, z1, z2⟩ := hn1.get q1
        obtain ⟨c2, t2, z3, z4⟩ := hn2.get q2
        rw [z1] at z3
        cases z3
        rw [z2, z4]
        have := SeqAt.EqAt.str_str (A := A.in1.in1) (s := ⟨h, g, d, tk, os⟩) (nm c1) t1 (nm c1) t2
        rw [beq_self_eq_true] at this
        exact this
    | 2, _ =>
      have := SeqAt.EqAt.int_int (A := A.in1) (s := ⟨h, g, d, tk, os⟩) r.rank r.t2 r.rank u2
      rw [beq_self_eq_true] at this
      exact this
  · exact k
set_option maxHeartbeats 8000000 in
theorem law_rows {Q : Flow → Shared → Prop} (T : TopZ K H) (hd : A.depth + 60 < recursionLimit) (hu : A.units + 200 < cLine) (hh : A.handled = none) (hg : GB g) (hi : IntsAre us xs) (hxl : xs.length ≤ 12) (hns : NsHas l [("numbers", .ref nA)])
    (S : Sym H h ((L, nsP l) :: (L + 1, cellP (some (.ref rA))) :: (L + 2, cellP none) :: (nA, lstP us) :: (rA, lstP []) :: G))
    (k : ∀ h' g' tk' rs l, GB g' → rs.length ≤ 12 → (∀ r ∈ rs, RowOk r) → Sym H h' ((L, nsP l) :: (L + 1, cellP (some (.ref rA))) :: (L + 2, cellP none) :: (rA, lstP (rowsV rs)) :: (rowsL rs ++ G)) → Q .next ⟨h', g', d, tk', os⟩) :
    wpAny (model pw w) A (exec (lawSt 1) (callEnvC fdLaw L 228)) Q E ⟨h, g, d, tk, os⟩ := by
  have hul := hi.length
  have S := S.renm hns
  refine wpAny_For (ldL (env := callEnvC fdLaw L 228) S rfl (iterL S (.tail _ (.tail _ (.tail _ (.head _)))) fun it h1 S1 => ?_))
  refine forN (fun m s' => ∃ h' g' tk' i rs l, s' = ⟨h', g', d, tk', os⟩ ∧ m = us.length - i ∧ i ≤ us.length ∧ GB g' ∧ rs.length = i ∧ (∀ r ∈ rs, RowOk r) ∧
    Sym H h' ((it, itP "list_iterator" nA i) :: (L, nsP l) :: (L + 1, cellP (some (.ref rA))) :: (L + 2, cellP none) :: (nA, lstP us) :: (rA, lstP (rowsV rs)) :: (rowsL rs ++ G))) ?_ us.length
    ⟨h1, g, _, 0, [], _, rfl, rfl, Nat.zero_le _, hg, rfl, (fun r hr => by cases hr), S1⟩
  rintro m s' ⟨h2, g2, tk2, i, rs, l2, rfl, rfl, hi2, hg2, hrl, hro, S2⟩ Y Z hY hZ
  cases hq : us[i]? with
  | none =>
    refine endL hh S2 (.tail _ (.tail _ (.tail _ (.head _)))) hq fun h3 S3 => wpAny_execs_nil (hZ _ _ ?_)
    refine k h3 g2 _ rs l2 hg2 (by omega) hro (S3.sub (.cons_cons _ (.cons_cons _ (.cons_cons _ (.cons _ (List.Sublist.refl _))))))
  | some v =>
    have hlt := (List.getElem?_eq_some_iff.mp hq).1
    obtain ⟨x, tx, rfl, hx⟩ := hi.at i v hq
    refine nextL S2 (.tail _ (.tail _ (.tail _ (.head _)))) hq fun h3 S3 => ?_
    refine wpAny_assign_Name (stL (env := callEnvC fdLaw L 228) S3.swap fun h4 tk4 S4 => ?_)
    have S4 := S4.renm (l' := [("x", .int x tx)]) ⟨rfl, trivial⟩
    refine wpAny_execs_cons (wpAny_Assign_Name (wpAny_Compare1 (wpAny_BinOp (wpAny_BinOp (ldL S4 rfl (cInt fun t5 tk5 => eDiv (by decide) (by decide) fun t6 tk6 => cInt fun t7 tk7 => eMod (by decide) fun t8 tk8 => cInt fun t9 tk9 => wpAny_eq_int (stL S4 fun h10 tk10 S10 => ?_)))))))
    refine wpAny_execs_cons (wpAny_Assign_Name (eCallF T.fread T.toGlobs S10.keep rfl (spliced_cons (eCallF T.ftext T.toGlobs S10.keep rfl (spliced_cons (ldL S10 rfl (spliced_nil ⟨S10.keep, text_spec T.toTopL (lt_w hd) S10 fun h11 t11 tk11 S11 => spliced_nil ⟨S11.keep, ?_⟩⟩)))))))
    refine read_spec (x := x) T.toTopL (lt_w hd) (lt_w hu) hh S11 fun h12 r tk12 hrj hrn hrr S12 => ?_
    have S12 : Sym H h12 ((L, nsP [("alone", .bool (x / 98 % 3 == 1)), ("x", .int x tx)]) :: (r.ra, lstP r.val) :: (r.na, lnP r.needs) :: (it, itP "list_iterator" nA (i + 1)) :: (L + 1, cellP (some (.ref rA))) :: (L + 2, cellP none) :: (nA, lstP us) :: (rA, lstP (rowsV rs)) :: (rowsL rs ++ G)) := S12.front 2 rfl
    refine stL (env := callEnvC fdLaw L 228) S12 fun h13 tk13 S13 => ?_
    refine wpAny_execs_cons (wpAny_If (isBool (isOr (wpAny_isTrue_Compare1 (ldL S13 rfl (List_ (spliced_cons (Subscript_ (cStr fun t14 tk14 => wpAny_BinOp (ldL S13 rfl (cInt fun t15 tk15 => eMod (by decide) fun t16 tk16 => idxS (job_eq x) (job_lt x) fun t17 tk17 => ?_)))))))))))
    refine wpAny_mono (Q := fun ws s₂ => ∃ h20 tk20 nb u2, ws = [.ref nb, .int r.rank u2] ∧ s₂ = ⟨h20, g2.push .finished, d, tk20, os⟩ ∧ Sym H h20 ((nb, lnP r.needs) :: (L, nsP [("read", .ref r.ra), ("alone", .bool (x / 98 % 3 == 1)), ("x", .int x tx)]) :: (r.ra, lstP r.val) :: (r.na, lnP r.needs) :: (it, itP "list_iterator" nA (i + 1)) :: (L + 1, cellP (some (.ref rA))) :: (L + 2, cellP none) :: (nA, lstP us) :: (rA, lstP (rowsV rs)) :: (rowsL rs ++ G))) ?_ ?_ fun _ _ q => q
    · refine opq fun Q' hQ => ?_
      by_cases hal : x / 98 % 3 = 1
      · have eb : (x / 98 % 3 == 1) = true := by simpa using hal
        have en : r.needs = [] := by rw [hrn]; unfold needX; rw [if_pos hal]
        have er : r.rank = 9 := by rw [hrr]; unfold rankX; rw [if_pos hal]
        rw [en] at S13 hQ
        rw [er] at hQ
        rw [eb] at S13 hQ
        refine spliced_cons (wpAny_IfExp (pos := ⟨0, 0, 0, 0⟩) (isEx (ldL (env := callEnvC fdLaw L 228) S13 rfl (wpAny_truthy_bool (itT rfl (eNil S13 fun nb h18 S18 => ?_))))))
        refine spliced_cons (wpAny_IfExp (pos := ⟨0, 0, 0, 0⟩) (isEx (ldL (env := callEnvC fdLaw L 228) S18.swap rfl (wpAny_truthy_bool (itT rfl (cInt fun t19 tk19 => spliced_nil ?_))))))
        exact hQ _ _ ⟨h18, _, nb, t19, rfl, rfl, S18.lnClose .nil⟩
      · have eb : (x / 98 % 3 == 1) = false := by simpa using hal
        have en : r.needs = [othOf x] := by rw [hrn]; unfold needX; rw [if_neg hal]
        have er : r.rank = rkOf x := by rw [hrr]; unfold rankX; rw [if_neg hal]
        rw [en] at S13 hQ
        rw [er] at hQ
        rw [eb] at S13 hQ
        refine spliced_cons (wpAny_IfExp (pos := ⟨0, 0, 0, 0⟩) (isEx (ldL (env := callEnvC fdLaw L 228) S13 rfl (wpAny_truthy_bool (itF rfl (List_ (spliced_cons (Subscript_ (cStr fun t18 tk18 => wpAny_BinOp (wpAny_BinOp (ldL S13 rfl (cInt fun t19 tk19 => eDiv (by decide) (by decide) fun t20 tk20 => cInt fun t21 tk21 => eMod (by decide) fun t22 tk22 => idxS (oth_eq x) (oth_lt x) fun t23 tk23 => spliced_nil (wpAny_newList ?_)))))))))))))
        have S24 := S13.push (o := { cls := .type "list", data := .seq [Value.str (nm (othOf x)) t23].toArray }) (P := lnP [othOf x]) rfl ⟨[.str (nm (othOf x)) t23], ⟨0, rfl⟩, .cons .nil⟩
        refine spliced_cons (wpAny_IfExp (pos := ⟨0, 0, 0, 0⟩) (isEx (ldL (env := callEnvC fdLaw L 228) S24.swap rfl (wpAny_truthy_bool (itF rfl (wpAny_BinOp (wpAny_BinOp (ldL (env := callEnvC fdLaw L 228) S24.swap rfl (cInt fun t25 tk25 => eDiv (by decide) (by decide) fun t26 tk26 => cInt fun t27 tk27 => eMod (by decide) fun t28 tk28 => spliced_nil ?_)))))))))
        exact hQ _ _ ⟨_, _, _, t28, by rw [rk_eq], rfl, S24⟩
    · rintro _ _ ⟨h20, tk20, nb, u2, rfl, rfl, S20⟩
      refine wpAny_newList ?_
      have S21 := S20.push (o := { cls := .type "list", data := .seq [Value.str (nm (jobOf x)) t17, .ref nb, .int r.rank u2].toArray }) (P := lstP [.str (nm (jobOf x)) t17, .ref nb, .int r.rank u2]) rfl ⟨0, rfl⟩
      rw [← hrj] at S21 ⊢
      have hnn : r.na ≠ nb := S20.ne (q := (r.na, lnP r.needs)) (by simp)
      refine neRow S21 (by simp) (by simp) (.head _) (.tail _ (.head _)) hnn (lt_w hu) (wpAny_truthy_bool (itF rfl ?_))
      have S22 := S21.tail.tail
      refine isOr (isNot (isEx (eCallF T.fcheck T.toGlobs S22.keep rfl (spliced_cons (eCallF T.ftext T.toGlobs S22.keep rfl (spliced_cons (ldL (env := callEnvC fdLaw L 228) S22 rfl (spliced_nil ⟨S22.keep, text_spec T.toTopL (lt_w hd) S22 fun h23 t23 tk23 S23 => spliced_nil ⟨S23.keep, ?_⟩⟩))))))))
      obtain ⟨p, hqp, hbp⟩ := text_ok x
      refine check_spec T.toTopL (lt_w hd) hh hqp hbp S23 fun h24 tk24 S24 => wpAny_truthy_bool (itF rfl (isOr0 (itF rfl (wpAny_execs_nil ?_))))
      obtain ⟨ob, o1, o2, o3⟩ := S24.isObj (a := rA) (vs := rowsV rs) (by simp)
      refine wpAny_execs_cons (wpAny_Expr (appendL (ldC (env := callEnvC fdLaw L 228) (c := L + 1) S24 (by simp) ⟨rA, ob, rfl, o1, o2, o3, ldL (env := callEnvC fdLaw L 228) S24 rfl ⟨rowsV rs, H, _, by simp [rowsV]; omega, S24.front 7 rfl, fun h25 S25 => wpAny_execs_nil (hY _ _ ?_)⟩⟩)))
      refine ⟨us.length - (i + 1), Nat.sub_succ_lt_self _ _ hlt, h25, _, _, i + 1, rs ++ [r], [("read", .ref r.ra), ("alone", .bool (x / 98 % 3 == 1)), ("x", .int x tx)], rfl, rfl, hlt, hg2.fin.fin.fin, by simp [hrl], fun r' hr' => ?_, ?_⟩
      · rcases List.mem_append.mp hr' with z | z
        · exact hro r' z
        · rw [List.mem_singleton.mp z]; exact rowOk_of hrj hrn
      · rw [rowsV_snoc, rowsL_snoc]
        have S25 : Sym H h25 ((rA, lstP (rowsV rs ++ [.ref r.ra])) :: (L, nsP [("read", .ref r.ra), ("alone", .bool (x / 98 % 3 == 1)), ("x", .int x tx)]) :: (r.ra, lstP r.val) :: (r.na, lnP r.needs) :: (it, itP "list_iterator" nA (i + 1)) :: (L + 1, cellP (some (.ref rA))) :: (L + 2, cellP none) :: (nA, lstP us) :: (rowsL rs ++ G)) := S25
        exact S25.perm (by unfold RowR.ent; ((try simp only [locals_eqC, locals_eqD]); ((refine perm_sum fun _ => ?_; (try simp only [locals_eq, List.append_eq, sortL, famL_app, famL_cons, famL_nil, NodeR.ent, List.cons_append, List.nil_append, List.append_assoc, List.eraseIdx_cons_succ, List.eraseIdx_cons_zero]); (try simp only [List.map_append, List.map_cons, List.map_nil, List.sum_append, List.sum_cons, List.sum_nil, Nat.add_zero, Nat.zero_add, Nat.add_assoc]); (try ac_rfl)); try omega)))
end
end Mine

namespace Mine
open PySem PySem.Calls PyProof.Rows PySem.W
noncomputable def isInt (v : Value) : Prop := ∃ i t, v = .int i t
noncomputable def ltI (v v' : Value) : Bool := match v, v' with | .int a _, .int b _ => decide (a < b) | _, _ => false
noncomputable def RankKv (kvs : List (Str × Value)) : Prop := ∀ z < kvs.length, ∃ i t, kvs[z]? = some (nm z, .int i t)
theorem valueAt_idx : ∀ (kvs : List (Str × Value)) (n : Nat), (∀ z < kvs.length, ∃ v, kvs[z]? = some (nm (n + z), v)) → ∀ z v, kvs[z]? = some (nm (n + z), v) → valueAt kvs (nm (n + z)) = some v
  | [], n, _, z, v, e => by simp at e
  | (k, v0) :: r, n, hk, z, v, e => by
    obtain ⟨v1, h1⟩ := hk 0 (by simp)
    simp at h1
    obtain ⟨rfl, rfl⟩ := h1
    cases z with
    | zero => simp at e; subst e; simp [valueAt]
    | succ z =>
      have hne : ¬ nm n = nm (n + (z + 1)) := fun q => by have := nm_inj q; omega
      have := valueAt_idx r (n + 1) (fun z hz => by
        obtain ⟨v, hv⟩ := hk (z + 1) (by simp; omega)
        exact ⟨v, by simpa [Nat.add_assoc, Nat.add_comm 1] using hv⟩) z v (by simpa [Nat.add_assoc, Nat.add_comm 1] using e)
      rw [show n + 1 + z = n + (z + 1) by omega] at this
      unfold valueAt at this ⊢
      rw [List.find?_cons]
      simp only [hne, decide_false]
      exact this
theorem RankKv.val {kvs : List (Str × Value)} (h : RankKv kvs) {z : Nat} (hz : z < kvs.length) : ∃ i t, valueAt kvs (nm z) = some (.int i t) := by
  obtain ⟨i, t, e⟩ := h z hz
  refine ⟨i, t, ?_⟩
  have := valueAt_idx kvs 0 (fun z hz => by obtain ⟨i, t, e⟩ := h z hz; exact ⟨_, by simpa using e⟩) z (.int i t) (by simpa using e)
  simpa using this
theorem RankKv.store {kvs : List (Str × Value)} (h : RankKv kvs) {v : Value} (hv : isInt v) : RankKv (stored kvs (nm kvs.length) v) ∧ (stored kvs (nm kvs.length) v).length = kvs.length + 1 := by
  have e : stored kvs (nm kvs.length) v = kvs ++ [(nm kvs.length, v)] := by
    unfold stored
    rw [if_neg]
    simp only [List.any_eq_true, decide_eq_true_eq]
    rintro ⟨kv, hkv, q⟩
    obtain ⟨z, hz⟩ := List.getElem?_of_mem hkv
    have hlt := (List.getElem?_eq_some_iff.mp hz).1
    obtain ⟨i, t, e⟩ := h z hlt
    rw [hz] at e
    cases e
    have := nm_inj q
    omega
  rw [e]
  refine ⟨fun z hz => ?_, by simp⟩
  simp at hz
  by_cases q : z < kvs.length
  · rw [List.getElem?_append_left q]; exact h z q
  · have : z = kvs.length := by omega
    subst this
    obtain ⟨i, t, rfl⟩ := hv
    exact ⟨i, t, by simp⟩
section
variable {K : Frag} {w : World} {A : Around} {E : Value → Shared → Prop} {H h h' : Heap} {G : Led} {env : Env} {g : Array GenState} {d : Drawn} {tk : Nat} {os : OsState} {a x dx L sA nA rA : Addr} {s : Shared} {l ls : List (Str × Value)} {vs us : List Value} {rs : List RowR}
theorem newD {Q : Value → Shared → Prop} (S : Sym H h G) (k : ∀ a h', Sym H h' ((a, dctP w []) :: G) → Q (.ref a) ⟨h', g, d, tk, os⟩) : wpAny (model pw w) A newDict Q E ⟨h, g, d, tk, os⟩ := by
  unfold newDict
  refine wpAny_newObj_type (k _ _ ?_)
  obtain ⟨o, e, q⟩ := dctP_new (w := w) h
  exact S.alloc (fun _ _ e => Heap.get?_push_of_some _ e) (Sym.size_none _) e q
set_option maxHeartbeats 8000000 in
theorem law_ranks {Q : Flow → Shared → Prop} (T : TopZ K H) (hu : A.units + 200 < cLine) (hh : A.handled = none) (hrl : rs.length ≤ 12)
    (S : Sym H h ((L, nsP l) :: (L + 1, cellP (some (.ref rA))) :: (L + 2, cellP none) :: (rA, lstP (rowsV rs)) :: (rowsL rs ++ G)))
    (k : ∀ h' tk' rk rkv, (∀ c < 7, ∃ i t, valueAt rkv (nm c) = some (.int i t)) → Sym H h' ((L, nsP [("ranks", .ref rk)]) :: (L + 1, cellP (some (.ref rA))) :: (L + 2, cellP none) :: (rk, dctP w rkv) :: (rA, lstP (rowsV rs)) :: (rowsL rs ++ G)) → Q .next ⟨h', g, d, tk', os⟩) :
    wpAny (model pw w) A (exec (lawSt 2) (callEnvC fdLaw L 228)) Q E ⟨h, g, d, tk, os⟩ := by
  refine asgDComp (compUC (n := "name") (cl := [("rows", L + 1)]) rfl (fun _ => rfl) rfl rfl (fun _ => rfl) (fun _ => rfl) rfl ?_)
  refine cStr (env := callEnvC fdLaw L 228) (k := 0) (pos := ⟨0, 0, 0, 0⟩) fun t1 tk1 => iterS (by decide +kernel) S fun it h2 S2 => newD S2 fun D h3 S3 => ⟨H, _, S3, fun h4 Lc S4 => ?_⟩
  refine startD rfl (fun Q E q => iterSelfS S4 (.tail _ (.tail _ (.tail _ (.head _)))) q) ?_
  refine loopD rfl rfl (fun n s' => ∃ h' tk' kvs cv, s' = ⟨h', g, d, tk', os⟩ ∧ n = 7 - kvs.length ∧ kvs.length ≤ 7 ∧ RankKv kvs ∧ Sym H h' ((Lc, nsP []) :: (Lc + 1, cellP cv) :: (D, dctP w kvs) :: (it, strItP "abcdefg" kvs.length) :: (L, nsP l) :: (L + 1, cellP (some (.ref rA))) :: (L + 2, cellP none) :: (rA, lstP (rowsV rs)) :: (rowsL rs ++ G))) ?_ _
    ⟨h4, _, [], none, rfl, rfl, by simp, (fun z hz => by simp at hz), S4⟩
  clear S4 S3 S2
  rintro n s' ⟨h5, tk5, kvs, cv, rfl, rfl, hk7, hrk, S5⟩ X J hX hJ
  have hfe : (Str.ofString "abcdefg").cps[7]? = none := by decide
  have S5 := S5.front 3 rfl
  by_cases hc7 : kvs.length = 7
  · rw [hc7] at S5
    refine endS hh S5 hfe fun h6 S6 => ?_
    refine hX _ (wpAny_assign_Name (stL (env := callEnvC fdLaw L 228) (S6.front 3 rfl) fun h7 tk7 S7 => ?_))
    have S7 := S7.renm (l' := [("ranks", .ref D)]) ⟨rfl, trivial⟩
    refine ⟨H, _, _, S7.front 1 rfl, fun h8 S8 => ?_⟩
    refine k h8 _ D kvs (fun c hc => hrk.val (by omega)) ?_
    have S9 : Sym H h8 ((L, nsP [("ranks", .ref D)]) :: (Lc + 1, cellP cv) :: (D, dctP w kvs) :: (L + 1, cellP (some (.ref rA))) :: (L + 2, cellP none) :: (rA, lstP (rowsV rs)) :: (rowsL rs ++ G)) := S8
    exact (S9.front 1 rfl).tail.perm (by ((try simp only [locals_eqC, locals_eqD]); ((refine perm_sum fun _ => ?_; (try simp only [locals_eq, List.append_eq, sortL, famL_app, famL_cons, famL_nil, NodeR.ent, List.cons_append, List.nil_append, List.append_assoc, List.eraseIdx_cons_succ, List.eraseIdx_cons_zero]); (try simp only [List.map_append, List.map_cons, List.map_nil, List.sum_append, List.sum_cons, List.sum_nil, Nat.add_zero, Nat.zero_add, Nat.add_assoc]); (try ac_rfl)); try omega)))
  · have hlt : kvs.length < 7 := by omega
    refine nextAb hlt S5 fun h6 t6 tk6 S6 => ?_
    refine wpAny_pure ?_
    refine wpAny_assign_Name (stC (env := cenvOf _ Lc [("name", Lc + 1), ("rows", L + 1)] (callEnvC fdLaw L 228)) (c := Lc + 1) (S6.front 2 rfl) fun h7 S7 => ?_)
    have S7 : Sym H h7 ((Lc + 1, cellP (some (.str (nm kvs.length) t6))) :: (L + 1, cellP (some (.ref rA))) :: (rA, lstP (rowsV rs)) :: (Lc, nsP []) :: (D, dctP w kvs) :: (it, strItP "abcdefg" (kvs.length + 1)) :: (L, nsP l) :: (L + 2, cellP none) :: (rowsL rs ++ G)) := S7.perm (by ((try simp only [locals_eqC, locals_eqD]); ((refine perm_sum fun _ => ?_; (try simp only [locals_eq, List.append_eq, sortL, famL_app, famL_cons, famL_nil, NodeR.ent, List.cons_append, List.nil_append, List.append_assoc, List.eraseIdx_cons_succ, List.eraseIdx_cons_zero]); (try simp only [List.map_append, List.map_cons, List.map_nil, List.sum_append, List.sum_cons, List.sum_nil, Nat.add_zero, Nat.zero_add, Nat.add_assoc]); (try ac_rfl)); try omega)))
    generalize hc : kvs.length = c at *
    refine ldC S7 (.head _) ?_
    refine eCallB T.toGlobs S7.keep rfl (spliced_cons (wpAny_BinOp (List_ (spliced_cons (cInt (env := default) (k := 0) (pos := ⟨0, 0, 0, 0⟩) fun t8 tk8 => spliced_nil (wpAny_newList ?_))))))
    have S8 := S7.push (o := { cls := .type "list", data := .seq [Value.int 9 t8].toArray }) (P := lstP [.int 9 t8]) rfl ⟨0, rfl⟩
    obtain ⟨b9, hb9⟩ : ∃ b : Addr, h7.objs.size = b := ⟨_, rfl⟩
    dsimp only
    rw [hb9] at S8 ⊢
    refine comp0 (cl := [("name", Lc + 1)]) rfl (fun _ => rfl) rfl rfl (by decide) rfl ?_
    refine ldC S8 (.tail _ (.tail _ (.head _))) (iterL S8 (.tail _ (.tail _ (.tail _ (.head _)))) fun ir h9 S9 => wpAny_newList ?_)
    have S10 := S9.push (o := { cls := .type "list", data := .seq ([] : List Value).toArray }) (P := lstP []) rfl ⟨0, rfl⟩
    obtain ⟨wA, hwA⟩ : ∃ b : Addr, h9.objs.size = b := ⟨_, rfl⟩
    dsimp only
    rw [hwA] at S10 ⊢
    refine ⟨H, _, S10, fun h11 Ld S11 => ?_⟩
    refine startS rfl (fun Q E q => iterSelfL S11 (.tail _ (.tail _ (.head _))) q) ?_
    refine loopL rfl rfl (fun n s' => ∃ h' tk' i l' W, s' = ⟨h', g, d, tk', os⟩ ∧ n = rs.length - i ∧ i ≤ rs.length ∧ W.length ≤ i ∧ (∀ v ∈ W, isInt v) ∧
      Sym H h' ((ir, itP "list_iterator" rA i) :: (Ld, nsP l') :: (wA, lstP W) :: (b9, lstP [.int 9 t8]) :: (Lc + 1, cellP (some (.str (nm c) t6))) :: (L + 1, cellP (some (.ref rA))) :: (rA, lstP (rowsV rs)) :: (Lc, nsP []) :: (D, dctP w kvs) :: (it, strItP "abcdefg" (c + 1)) :: (L, nsP l) :: (L + 2, cellP none) :: (rowsL rs ++ G))) ?_ _
      ⟨h11, _, 0, [], [], rfl, rfl, Nat.zero_le _, Nat.zero_le _, (fun v hv => by cases hv), S11.perm (by ((try simp only [locals_eqC, locals_eqD]); ((refine perm_sum fun _ => ?_; (try simp only [locals_eq, List.append_eq, sortL, famL_app, famL_cons, famL_nil, NodeR.ent, List.cons_append, List.nil_append, List.append_assoc, List.eraseIdx_cons_succ, List.eraseIdx_cons_zero]); (try simp only [List.map_append, List.map_cons, List.map_nil, List.sum_append, List.sum_cons, List.sum_nil, Nat.add_zero, Nat.zero_add, Nat.add_assoc]); (try ac_rfl)); try omega)))⟩
    clear S11 S10 S9 S8 S7 S6 S5
    rintro n s' ⟨h12, tk12, i, l', W, rfl, rfl, hi, hWl, hWi, S12⟩ X2 J2 hX2 hJ2
    cases hri : rs[i]? with
    | none =>
      have hge := List.getElem?_eq_none_iff.mp hri
      refine endL hh S12 (vs := rowsV rs) (by simp) (by rw [List.getElem?_eq_none_iff]; simp [rowsV]; exact hge) fun h13 S13 => ?_
      refine hX2 _ ⟨H, _, l', S13, fun h14 S14 => ?_⟩
      refine addL S14 (.tail _ (.head _)) (.head _) (by simp; omega) fun mA h15 S15 => spliced_nil ?_
      have hall : ∀ v ∈ Value.int 9 t8 :: W, isInt v := fun v hv => by
        rcases List.mem_cons.mp hv with rfl | z
        · exact ⟨_, _, rfl⟩
        · exact hWi v z
      refine minL (lt := ltI) (v := .int 9 t8) (vs := W) hh S15 (.head _) (fun v hv v' hv' h16 Q3 E3 S16 q3 => ?_) fun h16 S16 => ?_
      · obtain ⟨i1, u1, rfl⟩ := hall v hv
        obtain ⟨i2, u2, rfl⟩ := hall v' hv'
        exact rlt_int q3
      · have hbi : isInt (bestL ltI (.int 9 t8) W) := by
          rcases best_mem (lt := ltI) W (.int 9 t8) with z | z
          · rw [z]; exact ⟨_, _, rfl⟩
          · exact hWi _ z
        generalize bestL ltI (.int 9 t8) W = vb at hbi
        refine dSetC (S16.front 7 rfl) (by omega) fun h17 tk17 S17 => ?_
        obtain ⟨hr1, hr2⟩ := hrk.store hbi
        rw [hc] at hr1 hr2
        have S17 : Sym H h17 ((D, dctP w (stored kvs (nm c) vb)) :: (mA, lstP (Value.int 9 t8 :: W)) :: (wA, lstP W) :: (b9, lstP [.int 9 t8]) :: (Lc + 1, cellP (some (.str (nm c) t6))) :: (L + 1, cellP (some (.ref rA))) :: (rA, lstP (rowsV rs)) :: (Lc, nsP []) :: (it, strItP "abcdefg" (c + 1)) :: (L, nsP l) :: (L + 2, cellP none) :: (rowsL rs ++ G)) := S17
        refine hJ _ ⟨7 - (c + 1), by omega, h17, _, stored kvs (nm c) vb, some (.str (nm c) t6), rfl, by rw [hr2], by omega, hr1, ?_⟩
        rw [hr2]
        exact (S17.sub (G' := (D, dctP w (stored kvs (nm c) vb)) :: (Lc + 1, cellP (some (.str (nm c) t6))) :: (L + 1, cellP (some (.ref rA))) :: (rA, lstP (rowsV rs)) :: (Lc, nsP []) :: (it, strItP "abcdefg" (c + 1)) :: (L, nsP l) :: (L + 2, cellP none) :: (rowsL rs ++ G)) (.cons_cons _ (.cons _ (.cons _ (.cons _ (List.Sublist.refl _)))))).perm (by ((try simp only [locals_eqC, locals_eqD]); ((refine perm_sum fun _ => ?_; (try simp only [locals_eq, List.append_eq, sortL, famL_app, famL_cons, famL_nil, NodeR.ent, List.cons_append, List.nil_append, List.append_assoc, List.eraseIdx_cons_succ, List.eraseIdx_cons_zero]); (try simp only [List.map_append, List.map_cons, List.map_nil, List.sum_append, List.sum_cons, List.sum_nil, Nat.add_zero, Nat.zero_add, Nat.add_assoc]); (try ac_rfl)); try omega)))
    | some r =>
      have hlt2 := (List.getElem?_eq_some_iff.mp hri).1
      have hrr : r ∈ rs := List.mem_of_getElem? hri
      refine nextL (vs := rowsV rs) (v := .ref r.ra) S12 (by simp) (by simp [rowsV, hri]) fun h13 S13 => ?_
      refine ownL S13 (.head _) ?_
      refine asgT hh S13 (vs := r.val) (by
        have := mem_row hrr (p := (r.ra, lstP r.val)) (.head _)
        simp [this]) rfl rfl fun h14 S14 => ?_
      have S14 := S14.swap
      refine assignInOrder_cons (wpAny_assign_Name (stL S14 fun h15 tk15 S15 => assignInOrder_cons (wpAny_assign_Name (stL S15 fun h16 tk16 S16 => assignInOrder_cons (wpAny_assign_Name (stL S16 fun h17 tk17 S17 => assignInOrder_nil ?_))))))
      have S17 : Sym H h17 ((Ld, nsP [("rank", .int r.rank r.t2), ("job", .str (nm r.job) r.t1)]) :: (ir, itP "list_iterator" rA (i + 1)) :: (wA, lstP W) :: (b9, lstP [.int 9 t8]) :: (Lc + 1, cellP (some (.str (nm c) t6))) :: (L + 1, cellP (some (.ref rA))) :: (rA, lstP (rowsV rs)) :: (Lc, nsP []) :: (D, dctP w kvs) :: (it, strItP "abcdefg" (c + 1)) :: (L, nsP l) :: (L + 2, cellP none) :: (rowsL rs ++ G)) := S17.renm ⟨rfl, rfl, trivial⟩
      refine tests1 (wpAny_isTrue_Compare1 (ldL S17 rfl (ldC S17 (.tail _ (.tail _ (.tail _ (.tail _ (.head _))))) (eqNm (wpAny_truthy_bool ?_)))))
      by_cases hj : r.job = c
      · refine itT (by simpa using hj) (ldL S17 rfl ?_)
        refine appC (S17.front 2 rfl) (by omega) fun h18 S18 => hJ2 _ ⟨rs.length - (i + 1), Nat.sub_succ_lt_self _ _ hlt2, h18, _, i + 1, [("rank", .int r.rank r.t2), ("job", .str (nm r.job) r.t1)], W ++ [.int r.rank r.t2], rfl, rfl, hlt2, by simpa using hWl, fun v hv => ?_, S18.perm (by ((try simp only [locals_eqC, locals_eqD]); ((refine perm_sum fun _ => ?_; (try simp only [locals_eq, List.append_eq, sortL, famL_app, famL_cons, famL_nil, NodeR.ent, List.cons_append, List.nil_append, List.append_assoc, List.eraseIdx_cons_succ, List.eraseIdx_cons_zero]); (try simp only [List.map_append, List.map_cons, List.map_nil, List.sum_append, List.sum_cons, List.sum_nil, Nat.add_zero, Nat.zero_add, Nat.add_assoc]); (try ac_rfl)); try omega)))⟩
        rcases List.mem_append.mp hv with z | z
        · exact hWi v z
        · rw [List.mem_singleton.mp z]; exact ⟨_, _, rfl⟩
      · exact itF (by simpa using hj) (hJ2 _ ⟨rs.length - (i + 1), Nat.sub_succ_lt_self _ _ hlt2, h17, _, i + 1, [("rank", .int r.rank r.t2), ("job", .str (nm r.job) r.t1)], W, rfl, rfl, hlt2, Nat.le_succ_of_le hWl, hWi, S17.swap⟩)
end
end Mine

namespace Mine
open PySem PySem.Calls PyProof.Rows PySem.W
noncomputable def sumN (rs : List RowR) (c : Nat) : Nat := ((List.range c).map fun z => (needsOf rs z).length).sum
theorem sumN_succ (rs : List RowR) (c : Nat) : sumN rs (c + 1) = sumN rs c + (needsOf rs c).length := by
  unfold sumN
  rw [List.range_succ, List.map_append, List.sum_append]
  simp
theorem needsOf_cons (r : RowR) (rs : List RowR) (c : Nat) : needsOf (r :: rs) c = (if r.job = c then r.needs else []) ++ needsOf rs c := by
  unfold needsOf
  by_cases e : r.job = c
  · simp [e]
  · simp [e]
theorem sum_one (j a : Nat) : ∀ c, ((List.range c).map fun z => if j = z then a else 0).sum = if j < c then a else 0
  | 0 => by simp
  | c + 1 => by
    rw [List.range_succ, List.map_append, List.sum_append, sum_one j a c]
    by_cases h1 : j < c
    · have : ¬ j = c := by omega
      have h2 : j < c + 1 := by omega
      simp [h1, h2, this]
    · by_cases h3 : j = c
      · subst h3; simp
      · have h2 : ¬ j < c + 1 := by omega
        simp [h1, h2, h3]
theorem sumN_le (c : Nat) : ∀ rs : List RowR, (∀ r ∈ rs, r.needs.length ≤ 1) → sumN rs c ≤ rs.length
  | [], _ => by
    have : sumN [] c = 0 := by
      induction c with
      | zero => rfl
      | succ c ih => rw [sumN_succ, ih]; rfl
    omega
  | r :: rs, h => by
    have ih := sumN_le c rs fun r hr => h r (.tail _ hr)
    have e : sumN (r :: rs) c = ((List.range c).map fun z => if r.job = z then r.needs.length else 0).sum + sumN rs c := by
      clear ih
      induction c with
      | zero => rfl
      | succ c ih =>
        rw [sumN_succ, sumN_succ, ih, List.range_succ, List.map_append, List.sum_append, needsOf_cons, List.length_append]
        have : (if r.job = c then r.needs else []).length = if r.job = c then r.needs.length else 0 := by split <;> rfl
        rw [this]
        simp
        omega
    rw [e, sum_one]
    have := h r (.head _)
    simp only [List.length_cons]
    split <;> omega
theorem needs_le {rs : List RowR} {c n : Nat} (hc : c < n) : (needsOf rs c).length ≤ sumN rs n := by
  induction n with
  | zero => omega
  | succ n ih =>
    rw [sumN_succ]
    by_cases h : c = n
    · subst h; omega
    · have := ih (by omega); omega
theorem addAll_succ (needs : Nat → List Nat) (c : Nat) : addAll needs (List.range (c + 1)) = addS c [] (addS c (needs c) (addAll needs (List.range c))) := by
  unfold addAll
  rw [List.range_succ, List.foldl_append]
  rfl
section
variable {K : Frag} {w : World} {A : Around} {E : Value → Shared → Prop} {H h h' : Heap} {G : Led} {env : Env} {g : Array GenState} {d : Drawn} {tk : Nat} {os : OsState} {a x dx nd L sA nA rA rk : Addr} {s : Shared} {l ls rkv : List (Str × Value)} {vs us : List Value} {rs : List RowR} {cv : Option Value} {t1 t2 : Tok} {fam : List NodeR}
theorem law_make {Q : Flow → Shared → Prop} (T : TopZ K H) (hd : A.depth + 60 < recursionLimit)
    (S : Sym H h ((L, nsP [("ranks", .ref rk)]) :: G))
    (k : ∀ h' tk' x dx nd t1 t2, Sym H h' ((L, nsP [("sorter", .ref x), ("ranks", .ref rk)]) :: (sortL w x dx nd .none 0 t1 0 t2 [] ++ G)) → Q .next ⟨h', g, d, tk', os⟩) :
    wpAny (model pw w) A (exec (lawSt 3) (callEnvC fdLaw L 228)) Q E ⟨h, g, d, tk, os⟩ := by
  refine wpAny_Assign_Name (eCallC0 T.toTopF S.keep (by decide) rfl (mkSort T.toTopM (lt_w hd) S fun h1 tk1 x dx nd t1 t2 S1 => ?_))
  refine stL (env := callEnvC fdLaw L 228) (S1.slip (Y := [_])) fun h2 tk2 S2 => k h2 tk2 x dx nd t1 t2 S2
theorem m1 {a b : Nat} (h : a ≤ b) (h2 : b ≤ 12) : 2 * 7 + a ≤ 80 := by omega
theorem m2 {s1 s0 n r w : Nat} (h1 : s1 = s0 + n) (h2 : s1 ≤ r) (h3 : r ≤ 12) (h4 : w = n) : w ≤ 1000 := by omega
theorem m3 {s1 s0 n r c : Nat} (h1 : s1 = s0 + n) (h2 : s1 ≤ r) (h3 : r ≤ 12) (h4 : c < 7) : 2 * c + s0 + n ≤ 80 ∧ 2 * c + s0 + 1 + n + 0 ≤ 80 := by omega
theorem m4 {s1 s0 n c : Nat} (h1 : s1 = s0 + n) : 2 * c + s0 + 1 + n + 1 + 0 ≤ 2 * (c + 1) + s1 := by omega
set_option maxHeartbeats 8000000 in
theorem law_adds {Q : Flow → Shared → Prop} (T : TopZ K H) (hd : A.depth + 60 < recursionLimit) (hu : A.units + 200 < cLine) (hh : A.handled = none) (hrl : rs.length ≤ 12) (hro : ∀ r ∈ rs, RowOk r)
    (S : Sym H h ((L, nsP [("sorter", .ref x), ("ranks", .ref rk)]) :: (L + 1, cellP (some (.ref rA))) :: (L + 2, cellP none) :: (rA, lstP (rowsV rs)) :: (sortL w x dx nd .none 0 t1 0 t2 [] ++ (rowsL rs ++ G))))
    (k : ∀ h' tk' fam cv, fam.map (·.abs) = addAll (needsOf rs) (List.range 7) → (fam.map (·.c)).Nodup → Bd (fam.map (·.abs)) 80 →
      Sym H h' ((L, nsP [("sorter", .ref x), ("ranks", .ref rk)]) :: (L + 1, cellP (some (.ref rA))) :: (L + 2, cellP cv) :: (rA, lstP (rowsV rs)) :: (sortL w x dx nd .none 0 t1 0 t2 fam ++ (rowsL rs ++ G))) → Q .next ⟨h', g, d, tk', os⟩) :
    wpAny (model pw w) A (exec (lawSt 4) (callEnvC fdLaw L 228)) Q E ⟨h, g, d, tk, os⟩ := by
  have hnl : ∀ r ∈ rs, r.needs.length ≤ 1 := fun r hr => (hro r hr).len
  refine wpAny_For (cStr fun t3 tk3 => iterS (by decide +kernel) S fun it h4 S4 => ?_)
  refine forN (fun m s' => ∃ h' tk' c fam cv, s' = ⟨h', g, d, tk', os⟩ ∧ m = 7 - c ∧ c ≤ 7 ∧ fam.map (·.abs) = addAll (needsOf rs) (List.range c) ∧ (fam.map (·.c)).Nodup ∧ Bd (fam.map (·.abs)) (2 * c + sumN rs c) ∧
    Sym H h' ((it, strItP "abcdefg" c) :: (L, nsP [("sorter", .ref x), ("ranks", .ref rk)]) :: (L + 1, cellP (some (.ref rA))) :: (L + 2, cellP cv) :: (rA, lstP (rowsV rs)) :: (sortL w x dx nd .none 0 t1 0 t2 fam ++ (rowsL rs ++ G)))) ?_ 7
    ⟨h4, _, 0, [], none, rfl, rfl, Nat.zero_le _, rfl, by simp, ⟨by simp, fun q hq => by simp at hq⟩, S4⟩
  rintro m s' ⟨h5, tk5, c, fam, cv, rfl, rfl, hc7, hab, hnc, hbd, S5⟩ Y Z hY hZ
  have hfe : (Str.ofString "abcdefg").cps[7]? = none := by decide
  have hsum := sumN_le 7 rs hnl
  by_cases hce : c = 7
  · subst hce
    refine endS hh S5 hfe fun h6 S6 => wpAny_execs_nil (hZ _ _ (k h6 _ fam cv hab hnc (hbd.le (m1 hsum hrl)) S6))
  · have hlt : c < 7 := Nat.lt_of_le_of_ne hc7 hce
    clear hsum hce hc7
    refine nextAb hlt S5 fun h6 t6 tk6 S6 => ?_
    refine wpAny_assign_Name (stC (env := callEnvC fdLaw L 228) (c := L + 2) (S6.front 3 rfl) fun h7 S7 => ?_)
    have S7 : Sym H h7 ((L, nsP [("sorter", .ref x), ("ranks", .ref rk)]) :: (L + 1, cellP (some (.ref rA))) :: (L + 2, cellP (some (.str (nm c) t6))) :: (rA, lstP (rowsV rs)) :: (it, strItP "abcdefg" (c + 1)) :: (sortL w x dx nd .none 0 t1 0 t2 fam ++ (rowsL rs ++ G))) := S7.perm (by ((try simp only [locals_eqC, locals_eqD]); ((refine perm_sum fun _ => ?_; (try simp only [locals_eq, List.append_eq, sortL, famL_app, famL_cons, famL_nil, NodeR.ent, List.cons_append, List.nil_append, List.append_assoc, List.eraseIdx_cons_succ, List.eraseIdx_cons_zero]); (try simp only [List.map_append, List.map_cons, List.map_nil, List.sum_append, List.sum_cons, List.sum_nil, Nat.add_zero, Nat.zero_add, Nat.add_assoc]); (try ac_rfl)); try omega)))
    clear S6 S5
    refine wpAny_execs_cons (wpAny_Expr (eMethS (dx := dx) T S7 rfl (.tail _ (.tail _ (.tail _ (.tail _ (.head _))))) (.tail _ (.tail _ (.tail _ (.tail _ (.tail _ (.head _)))))) rfl fun q h8 tk8 S8 => ldC S8 (.tail _ (.tail _ (.tail _ (.head _)))) ?_))
    refine comp0 (cl := [("name", L + 2)]) rfl (fun _ => rfl) rfl rfl (by decide) rfl ?_
    refine ldC S8 (.tail _ (.tail _ (.head _))) (iterL S8 (.tail _ (.tail _ (.tail _ (.tail _ (.head _))))) fun ir h9 S9 => wpAny_newList ?_)
    have S10 := S9.push (o := { cls := .type "list", data := .seq ([] : List Value).toArray }) (P := lstP []) rfl ⟨0, rfl⟩
    obtain ⟨wA, hwA⟩ : ∃ b : Addr, h9.objs.size = b := ⟨_, rfl⟩
    dsimp only
    rw [hwA] at S10 ⊢
    refine ⟨H, _, S10, fun h11 Lc S11 => ?_⟩
    refine startS rfl (fun Q E q => iterSelfL S11 (.tail _ (.tail _ (.head _))) q) ?_
    refine loopO rfl rfl (fun n s' => ∃ h' tk' i l W, s' = ⟨h', g, d, tk', os⟩ ∧ n = rs.length - i ∧ i ≤ rs.length ∧ W = needsOf (rs.take i) c ∧ W.length ≤ i ∧
      Sym H h' ((ir, itP "list_iterator" rA i) :: (Lc, nsP l) :: (wA, lnP W) :: (q, methP x) :: (L, nsP [("sorter", .ref x), ("ranks", .ref rk)]) :: (L + 1, cellP (some (.ref rA))) :: (L + 2, cellP (some (.str (nm c) t6))) :: (rA, lstP (rowsV rs)) :: (it, strItP "abcdefg" (c + 1)) :: (sortL w x dx nd .none 0 t1 0 t2 fam ++ (rowsL rs ++ G)))) (fun _ => rfl) ?_ _
      ⟨h11, _, 0, [], [], rfl, rfl, Nat.zero_le _, rfl, Nat.zero_le _, (S11.front 1 rfl |>.lnClose .nil).perm (by ((try simp only [locals_eqC, locals_eqD]); ((refine perm_sum fun _ => ?_; (try simp only [locals_eq, List.append_eq, sortL, famL_app, famL_cons, famL_nil, NodeR.ent, List.cons_append, List.nil_append, List.append_assoc, List.eraseIdx_cons_succ, List.eraseIdx_cons_zero]); (try simp only [List.map_append, List.map_cons, List.map_nil, List.sum_append, List.sum_cons, List.sum_nil, Nat.add_zero, Nat.zero_add, Nat.add_assoc]); (try ac_rfl)); try omega)))⟩
    clear S11 S10 S9 S8 S7
    rintro n s' ⟨h12, tk12, i, l, W, rfl, rfl, hi, hW, hWl, S12⟩ X2 J2 hX2 hJ2
    cases hri : rs[i]? with
    | none =>
      have hge := List.getElem?_eq_none_iff.mp hri
      refine endL hh S12 (vs := rowsV rs) (by simp) (by rw [List.getElem?_eq_none_iff]; simp [rowsV]; exact hge) fun h13 S13 => ?_
      rw [List.take_of_length_le hge] at hW
      subst hW
      refine hX2 _ ⟨H, _, l, S13, fun h14 S14 => ?_⟩
      obtain ⟨wvs, hwn, S15⟩ := S14.lnOpen
      have hwl := hwn.length
      have hs1 := sumN_succ rs c
      have hs2 : sumN rs (c + 1) ≤ rs.length := sumN_le _ rs hnl
      refine starL S15 (.head _) (m2 hs1 hs2 hrl hwl) fun h16 S16 => ⟨_, S16, .tail _ (.head _), ?_⟩
      refine add_specC (n := 2 * c + sumN rs c) (ps := needsOf rs c) T.toTopM (lt_w hd) hh (S16.slip (X := [_, _, _, _, _, _, _])) hnc hbd hwn (m3 hs1 hs2 hrl hlt).1 fun h17 tk17 fam17 ea enc S17 => ?_
      have S17 := (S17.slip (Y := [_, _, _, _, _, _, _])).tail.tail
      have hbd2 : Bd (fam17.map (·.abs)) (2 * c + sumN rs c + 1 + (needsOf rs c).length) := by rw [ea]; exact hbd.add
      refine wpAny_execs_cons (wpAny_Expr (eMeth (dx := dx) T.toTopS S17 rfl (.tail _ (.tail _ (.tail _ (.tail _ (.head _))))) (.tail _ (.tail _ (.tail _ (.tail _ (.tail _ (.head _)))))) rfl (by decide) T.fadd (spliced_cons (ldC S17 (.tail _ (.tail _ (.head _))) (spliced_nil ⟨S17.keep, ?_⟩)))))
      refine add_spec (n := 2 * c + sumN rs c + 1 + (needsOf rs c).length) (vs := []) (ps := []) T.toTopM (lt_w hd) hh (S17.slip (X := [_, _, _, _, _])) enc hbd2 .nil (m3 hs1 hs2 hrl hlt).2 fun h18 tk18 fam18 ea2 enc2 S18 => wpAny_execs_nil (hY _ _ ?_)
      have S18 := S18.slip (Y := [_, _, _, _, _])
      refine ⟨7 - (c + 1), Nat.sub_succ_lt_self _ _ hlt, h18, _, c + 1, fam18, some (.str (nm c) t6), rfl, rfl, hlt, ?_, enc2, ?_, S18.front 4 rfl⟩
      · rw [ea2, ea, hab, addAll_succ]
      · rw [ea2]
        exact hbd2.add.le (m4 hs1)
    | some r =>
      have hlt2 := (List.getElem?_eq_some_iff.mp hri).1
      have hrr : r ∈ rs := List.mem_of_getElem? hri
      have etake : needsOf (rs.take (i + 1)) c = needsOf (rs.take i) c ++ (if r.job = c then r.needs else []) := by
        unfold needsOf
        rw [List.take_add_one, hri]
        simp only [Option.toList, List.filter_append, List.flatMap_append]
        by_cases e : r.job = c
        · simp [e]
        · simp [e]
      refine nextL (vs := rowsV rs) (v := .ref r.ra) S12 (by simp) (by simp [rowsV, hri]) fun h13 S13 => ?_
      refine ownL S13 (.head _) ?_
      refine asgT hh S13 (vs := r.val) (by
        have := mem_row hrr (p := (r.ra, lstP r.val)) (.head _)
        simp [this]) rfl rfl fun h14 S14 => ?_
      have S14 := S14.swap
      refine assignInOrder_cons (wpAny_assign_Name (stL S14 fun h15 tk15 S15 => assignInOrder_cons (wpAny_assign_Name (stL S15 fun h16 tk16 S16 => assignInOrder_cons (wpAny_assign_Name (stL S16 fun h17 tk17 S17 => assignInOrder_nil ?_))))))
      have S17 : Sym H h17 ((Lc, nsP [("needs", .ref r.na), ("job", .str (nm r.job) r.t1)]) :: (ir, itP "list_iterator" rA (i + 1)) :: (wA, lnP W) :: (q, methP x) :: (L, nsP [("sorter", .ref x), ("ranks", .ref rk)]) :: (L + 1, cellP (some (.ref rA))) :: (L + 2, cellP (some (.str (nm c) t6))) :: (rA, lstP (rowsV rs)) :: (it, strItP "abcdefg" (c + 1)) :: (sortL w x dx nd .none 0 t1 0 t2 fam ++ (rowsL rs ++ G))) := S17.renm ⟨rfl, rfl, trivial⟩
      refine tests1 (wpAny_isTrue_Compare1 (ldL S17 rfl (ldC S17 (.tail _ (.tail _ (.tail _ (.tail _ (.tail _ (.tail _ (.head _))))))) (eqNm (wpAny_truthy_bool ?_)))))
      by_cases hj : r.job = c
      · refine itT (by simpa using hj) ?_
        rw [if_pos hj] at etake
        have hmn : (r.na, lnP r.needs) ∈ rowsL rs := mem_row hrr (p := (r.na, lnP r.needs)) (.tail _ (.head _))
        refine ldL S17 rfl (iterN (cs := r.needs) S17 (by simp [hmn]) fun i2 h18 S18 => ?_)
        refine startS rfl (fun Q E q => iterSelfL S18 (.head _) q) ?_
        refine loopL rfl rfl (fun n s' => ∃ h' tk' j l W', s' = ⟨h', g, d, tk', os⟩ ∧ n = r.needs.length - j ∧ j ≤ r.needs.length ∧ W' = W ++ r.needs.take j ∧
          Sym H h' ((i2, itP "list_iterator" r.na j) :: (Lc, nsP l) :: (wA, lnP W') :: (ir, itP "list_iterator" rA (i + 1)) :: (q, methP x) :: (L, nsP [("sorter", .ref x), ("ranks", .ref rk)]) :: (L + 1, cellP (some (.ref rA))) :: (L + 2, cellP (some (.str (nm c) t6))) :: (rA, lstP (rowsV rs)) :: (it, strItP "abcdefg" (c + 1)) :: (sortL w x dx nd .none 0 t1 0 t2 fam ++ (rowsL rs ++ G)))) ?_ _
          ⟨h18, _, 0, _, W, rfl, rfl, Nat.zero_le _, by simp, S18.perm (by ((try simp only [locals_eqC, locals_eqD]); ((refine perm_sum fun _ => ?_; (try simp only [locals_eq, List.append_eq, sortL, famL_app, famL_cons, famL_nil, NodeR.ent, List.cons_append, List.nil_append, List.append_assoc, List.eraseIdx_cons_succ, List.eraseIdx_cons_zero]); (try simp only [List.map_append, List.map_cons, List.map_nil, List.sum_append, List.sum_cons, List.sum_nil, Nat.add_zero, Nat.zero_add, Nat.add_assoc]); (try ac_rfl)); try omega)))⟩
        clear S18 S17
        rintro n s' ⟨h19, tk19, j, l3, W', rfl, rfl, hj2, hW', S19⟩ X3 J3 hX3 hJ3
        have hnr := hnl r hrr
        cases hq : r.needs[j]? with
        | none =>
          have hge := List.getElem?_eq_none_iff.mp hq
          refine endN hh S19 (by simp [hmn]) hq fun h20 S20 => ?_
          refine hX3 _ (hJ2 _ ⟨rs.length - (i + 1), Nat.sub_succ_lt_self _ _ hlt2, h20, _, i + 1, l3, W', rfl, rfl, hlt2, ?_, ?_, S20.front 2 rfl⟩)
          · rw [List.take_of_length_le hge] at hW'
            rw [hW', hW, etake]
          · rw [hW', List.length_append, List.length_take]; omega
        | some y =>
          have hlt3 := (List.getElem?_eq_some_iff.mp hq).1
          refine nextN S19 (by simp [hmn]) hq fun h20 t20 S20 => wpAny_pure (wpAny_assign_Name (stL S20.swap fun h21 tk21 S21 => tests0 (itT rfl (ldL S21 rfl ?_))))
          obtain ⟨ws, hn, S22⟩ := (S21.front 2 rfl).lnOpen
          refine appC S22 (by rw [hn.length, hW', List.length_append, List.length_take]; omega) fun h23 S23 => hJ3 _ ⟨r.needs.length - (j + 1), Nat.sub_succ_lt_self _ _ hlt3, h23, _, j + 1, [("need", .str (nm y) t20)], W' ++ [y], rfl, rfl, hlt3, ?_, ?_⟩
          · rw [hW', List.take_add_one, hq, List.append_assoc]; rfl
          · exact (((S23.lnClose (hn.snoc y t20)).front 1 rfl).renm (l' := [("need", .str (nm y) t20)]) ⟨rfl, trivial⟩).perm (by ((try simp only [locals_eqC, locals_eqD]); ((refine perm_sum fun _ => ?_; (try simp only [locals_eq, List.append_eq, sortL, famL_app, famL_cons, famL_nil, NodeR.ent, List.cons_append, List.nil_append, List.append_assoc, List.eraseIdx_cons_succ, List.eraseIdx_cons_zero]); (try simp only [List.map_append, List.map_cons, List.map_nil, List.sum_append, List.sum_cons, List.sum_nil, Nat.add_zero, Nat.zero_add, Nat.add_assoc]); (try ac_rfl)); try omega)))
      · refine itF (by simpa using hj) (hJ2 _ ⟨rs.length - (i + 1), Nat.sub_succ_lt_self _ _ hlt2, h17, _, i + 1, _, W, rfl, rfl, hlt2, ?_, by omega, S17.swap⟩)
        rw [etake, if_neg hj, List.append_nil]
        exact hW
end
end Mine

namespace Mine
open PySem PySem.Calls PyProof.Rows PySem.W
theorem suOf_mem_names {s : AS} {p q : Nat} (h : q ∈ suOf s p) : p ∈ names s := by
  unfold suOf at h
  cases e : s.find? (fun z => z.1 = p) with
  | none => rw [e] at h; simp at h
  | some z =>
    have h1 := List.mem_of_find?_eq_some e
    have h2 := List.find?_some e
    simp at h2
    exact List.mem_map.mpr ⟨z, h1, h2⟩
theorem Bd.su {s : AS} {n : Nat} (b : Bd s n) (c : Nat) : (suOf s c).length ≤ n := by
  unfold suOf
  cases e : s.find? (fun z => z.1 = c) with
  | none => simp
  | some z => exact b.2 z (List.mem_of_find?_eq_some e)
theorem needs_lt {rs : List RowR} (h : ∀ r ∈ rs, RowOk r) (c : Nat) : ∀ q ∈ needsOf rs c, q < 7 := by
  intro q hq
  unfold needsOf at hq
  obtain ⟨r, hr, hq⟩ := List.mem_flatMap.mp hq
  exact (h r (List.mem_filter.mp hr).1).need q hq
section
variable {K : Frag} {w : World} {A : Around} {E : Value → Shared → Prop} {H h h' : Heap} {G : Led} {env : Env} {g : Array GenState} {d : Drawn} {tk : Nat} {os : OsState} {a b x dx nd L sA nA rA rk : Addr} {s : Shared} {l ls rkv : List (Str × Value)} {vs us : List Value} {rs : List RowR} {cv : Option Value} {t1 t2 : Tok} {fam : List NodeR} {xs : List Int}
/-- two answers alike -/
theorem eqAns {cs : List Nat} {ka kb : Addr} {ring : Bool} {Q : Value → Shared → Prop} (S : Sym H h G) (m1 : (a, tupP [.ref ka, .bool ring]) ∈ G) (m2 : (ka, lnP cs) ∈ G) (m3 : (b, tupP [.ref kb, .bool ring]) ∈ G) (m4 : (kb, lnP cs) ∈ G) (hne : ka ≠ kb)
    (hu : A.units + 5 < cLine) (k : Q (.bool true) ⟨h, g, d, tk, os⟩) : wpAny (model pw w) A (compareOp .Eq (.ref a) (.ref b)) Q E ⟨h, g, d, tk, os⟩ := by
  obtain ⟨o1, e1, vs1, ⟨n1, rfl⟩, hn1⟩ := S.get m2
  obtain ⟨o2, e2, vs2, ⟨n2, rfl⟩, hn2⟩ := S.get m4
  have hl1 : h.IsList ka vs1.toArray := ⟨_, e1, rfl, n1, rfl⟩
  have hl2 : h.IsList kb vs2.toArray := ⟨_, e2, rfl, n2, rfl⟩
  refine SeqAt.eq_tupleAt (s := ⟨h, g, d, tk, os⟩) (e := fun _ => true) (S.tup m1) (S.tup m3) (by omega) (fun j h1 h2 => ?_) ?_
  · match j, h1 with
    | 0, _ =>
      refine SeqAt.EqAt.of_refs hne ?_
      have := SeqAt.RcAt.lists (A := A.in1) (s := ⟨h, g, d, tk, os⟩) (e := fun _ => true) hl1 hl2 (by simp [hn1.length, hn2.length]) (by exact (show A.units + 1 < _ from lt_w hu)) (fun j h1 h2 => ?_)
      · have e : ((List.range vs1.toArray.size).all fun _ => true) = true := List.all_eq_true.mpr fun _ _ => rfl
        rw [e] at this
        exact this
      · have q1 : vs1[j]? = some vs1.toArray[j] := by simp at h1 ⊢
        have q2 : vs2[j]? = some vs2.toArray[j] := by simp at h2 ⊢
        obtain ⟨c1, t1, z1, z2⟩ := hn1.get q1
        obtain ⟨c2, t2, z3, z4⟩ := hn2.get q2
        rw [z1] at z3
        cases z3
        rw [z2, z4]
        have := SeqAt.EqAt.str_str (A := A.in1.in1) (s := ⟨h, g, d, tk, os⟩) (nm c1) t1 (nm c1) t2
        rw [beq_self_eq_true] at this
        exact this
    | 1, _ => exact SeqAt.EqAt.same _
  · exact k
set_option maxHeartbeats 8000000 in
theorem law_end {Q : Flow → Shared → Prop} (T : TopZ K H) (hd : A.depth + 60 < recursionLimit) (hu : A.units + 200 < cLine) (hh : A.handled = none) (hfr : A.frames = some [callEnvC fdLaw L 228]) (hrl : rs.length ≤ 12) (hro : ∀ r ∈ rs, RowOk r)
    (hrk : ∀ c < 7, ∃ i t, valueAt rkv (nm c) = some (.int i t)) (hab : fam.map (·.abs) = addAll (needsOf rs) (List.range 7)) (hbd : Bd (fam.map (·.abs)) 80)
    (S : Sym H h ((L, nsP [("sorter", .ref x), ("ranks", .ref rk)]) :: (L + 1, cellP (some (.ref rA))) :: (rA, lstP (rowsV rs)) :: (sortL w x dx nd .none 0 t1 0 t2 fam ++ (rowsL rs ++ [(rk, dctP w rkv)]))))
    (k : ∀ h' tk', Keeps H h' → Q (.ret (.bool true)) ⟨h', g, d, tk', os⟩) :
    wpAny (model pw w) A (exec (lawSt 5) (callEnvC fdLaw L 228)) Q E ⟨h, g, d, tk, os⟩ := by
  obtain ⟨rank, hrank⟩ : ∃ rank : Nat → Int, ∀ c < 7, ∃ t, valueAt rkv (nm c) = some (.int (rank c) t) := by
    refine ⟨fun c => match valueAt rkv (nm c) with | some (.int i _) => i | _ => 0, fun c hc => ?_⟩
    obtain ⟨i, t, e⟩ := hrk c hc
    refine ⟨t, ?_⟩
    dsimp only
    rw [e]
  have hnlt : ∀ c < 7, ∀ q ∈ needsOf rs c, q < 7 := fun c _ => needs_lt hro c
  have D0 := deal_start hnlt
  rw [← hab] at D0
  refine wpAny_Return_some (wpAny_Compare1 (eCallF T.fdealt T.toGlobs S.keep rfl (spliced_cons (ldL (env := callEnvC fdLaw L 228) S rfl (spliced_cons (ldL (env := callEnvC fdLaw L 228) S rfl (spliced_nil ⟨S.keep, ?_⟩)))))))
  have S1 : Sym H h (sortL w x dx nd .none 0 t1 0 t2 fam ++ ((rk, dctP w rkv) :: (L, nsP [("sorter", .ref x), ("ranks", .ref rk)]) :: (L + 1, cellP (some (.ref rA))) :: (rA, lstP (rowsV rs)) :: rowsL rs)) := S.perm (by ((try simp only [locals_eqC, locals_eqD]); ((refine perm_sum fun _ => ?_; (try simp only [locals_eq, List.append_eq, sortL, famL_app, famL_cons, famL_nil, NodeR.ent, List.cons_append, List.nil_append, List.append_assoc, List.eraseIdx_cons_succ, List.eraseIdx_cons_zero]); (try simp only [List.map_append, List.map_cons, List.map_nil, List.sum_append, List.sum_cons, List.sum_nil, Nat.add_zero, Nat.zero_add, Nat.add_assoc]); (try ac_rfl)); try omega)))
  refine dealt_spec (rank := rank) T.toTopL (lt_w hd) (lt_w hu) hh hfr S1 (fun env he => ?_) D0 (fun c => by have := hbd.su c; omega) hrank fun h2 tk2 tb ta told ring hdue hr1 hr2 S2 => ?_
  · have he := List.mem_singleton.mp he
    subst he
    have e : (callEnvC fdLaw L 228).scope.kind = .function := rfl
    exact ⟨by rw [e]; decide, L, _, rfl, .head _⟩
  · have S2 : Sym H h2 ((L, nsP [("sorter", .ref x), ("ranks", .ref rk)]) :: (L + 1, cellP (some (.ref rA))) :: (tb, tupP [.ref ta, .bool ring]) :: (ta, lnP told) :: (rA, lstP (rowsV rs)) :: (rowsL rs ++ [(rk, dctP w rkv)])) := S2.perm (by ((try simp only [locals_eqC, locals_eqD]); ((refine perm_sum fun _ => ?_; (try simp only [locals_eq, List.append_eq, sortL, famL_app, famL_cons, famL_nil, NodeR.ent, List.cons_append, List.nil_append, List.append_assoc, List.eraseIdx_cons_succ, List.eraseIdx_cons_zero]); (try simp only [List.map_append, List.map_cons, List.map_nil, List.sum_append, List.sum_cons, List.sum_nil, Nat.add_zero, Nat.zero_add, Nat.add_assoc]); (try ac_rfl)); try omega)))
    refine eCallF T.fdue T.toGlobs S2.keep rfl (spliced_cons (ldC (env := callEnvC fdLaw L 228) (c := L + 1) S2 (.tail _ (.head _)) (spliced_cons (ldL (env := callEnvC fdLaw L 228) S2 rfl (spliced_nil ⟨S2.keep, ?_⟩)))))
    have S3 : Sym H h2 ((rA, lstP (rowsV rs)) :: (rowsL rs ++ ((rk, dctP w rkv) :: (L, nsP [("sorter", .ref x), ("ranks", .ref rk)]) :: (L + 1, cellP (some (.ref rA))) :: (tb, tupP [.ref ta, .bool ring]) :: (ta, lnP told) :: []))) := S2.perm (by ((try simp only [locals_eqC, locals_eqD]); ((refine perm_sum fun _ => ?_; (try simp only [locals_eq, List.append_eq, sortL, famL_app, famL_cons, famL_nil, NodeR.ent, List.cons_append, List.nil_append, List.append_assoc, List.eraseIdx_cons_succ, List.eraseIdx_cons_zero]); (try simp only [List.map_append, List.map_cons, List.map_nil, List.sum_append, List.sum_cons, List.sum_nil, Nat.add_zero, Nat.zero_add, Nat.add_assoc]); (try ac_rfl)); try omega)))
    refine due_spec (rank := rank) T.toTopL (lt_w hd) (lt_w hu) hh S3 (by omega) (fun r hr => by have := (hro r hr).len; omega) hrank fun h4 tk4 tb2 ka known hdue2 S4 => ?_
    have ek : told = known := due_uniq hdue hdue2
    subst ek
    have er : ring = decide (told.length ≠ 7) := ring_iff hdue ring D0.su (fun p q hq => by
      have hp : p < 7 := D0.mem.mp (suOf_mem_names hq)
      exact ⟨D0.suLt p hp q hq, hp⟩) hnlt hr1 hr2
    rw [← er] at S4
    have hne : ta ≠ ka := S4.tail.ne (q := (ta, lnP told)) (by simp)
    refine eqAns S4 (ka := ta) (by simp) (by simp) (.head _) (.tail _ (.head _)) hne (lt_w hu) ?_
    exact k _ _ S4.keep
end
end Mine

namespace Mine
open PySem PySem.Calls PyProof.Rows PySem.W
section
variable {K : Frag} {w : World} {A : Around} {E : Value → Shared → Prop} {H h h' : Heap} {G : Led} {env : Env} {g : Array GenState} {d : Drawn} {tk : Nat} {os : OsState} {sA : Addr} {vs : List Value} {xs : List Int}
theorem Sym.start (H : Heap) : Sym H H [] := ⟨fun _ _ e => e, fun p hp => (nomatch hp), fun p hp => (nomatch hp), List.nodup_nil⟩
theorem cut2 {M : Model} {env : Env} {s : Shared} {st : Stmt} {rest : List Stmt} {Q : Flow → Shared → Prop} (k1 : wpAny M A (exec st env) (fun f s' => f = .next ∧ wpAny M A (execs rest env) Q E s') E s) :
    wpAny M A (execs (st :: rest) env) Q E s :=
  wpAny_execs_cons (wpAny_mono k1 (fun f s' h => by obtain ⟨rfl, h⟩ := h; exact h) fun _ _ q => q)
set_option maxHeartbeats 4000000 in
theorem law_spec {Q : Value → Shared → Prop} (T : TopZ K H) (hd : A.depth + 100 < recursionLimit) (hu : A.units + 300 < cLine) (hh : A.handled = none) (hfr : A.frames = some []) (hg : GB g) (hS : H.IsList sA vs.toArray) (hi : IntsAre vs xs) (hl : xs.length ≤ 100)
    (k : ∀ h' g' tk', Keeps H h' → GB g' → Q (.bool true) ⟨h', g', d, tk', os⟩) :
    wpAny (model pw w) A (call (.ref 228) [.ref sA]) Q E ⟨H, g, d, tk, os⟩ := by
  refine callF2 (n1 := "rows") (n2 := "name") (l := [("script", .ref sA)]) T.flaw T.lim (by omega) (Sym.start H) rfl (fun L => rfl) (by decide) (fun L p hp => by
    simp only [List.mem_cons, List.not_mem_nil, or_false] at hp
    subst hp; rfl) (fun L => ⟨rfl, rfl⟩) fun h1 L tk1 S1 => ?_
  have hd' : (A.deeper (callEnvC fdLaw L 228)).depth + 60 < recursionLimit := by exact (show A.depth + 61 < _ from lt_w hd)
  have hu' : (A.deeper (callEnvC fdLaw L 228)).units + 200 < cLine := by exact (show A.units + 203 < _ from lt_w hu)
  have hh' : (A.deeper (callEnvC fdLaw L 228)).handled = none := hh
  have hfr' : (A.deeper (callEnvC fdLaw L 228)).frames = some [callEnvC fdLaw L 228] := Around.frames_deeper hfr
  show wpAny _ _ (execs [lawSt 0, lawSt 1, lawSt 2, lawSt 3, lawSt 4, lawSt 5] (callEnvC fdLaw L 228)) _ _ _
  refine cut2 (law_nums hh' hS hi hl S1 fun h2 tk2 nA rA us l2 hq hns S2 => ⟨rfl, ?_⟩)
  refine cut2 (law_rows T hd' hu' hh' hg hq (by simp [tailNums]; omega) hns S2 fun h3 g3 tk3 rs l3 hg3 hrl hro S3 => ⟨rfl, ?_⟩)
  refine cut2 (law_ranks T hu' hh' hrl S3 fun h4 tk4 rk rkv hrk S4 => ⟨rfl, ?_⟩)
  refine cut2 (law_make T hd' S4 fun h5 tk5 x dx nd t1 t2 S5 => ⟨rfl, ?_⟩)
  have S5 : Sym H h5 ((L, nsP [("sorter", .ref x), ("ranks", .ref rk)]) :: (L + 1, cellP (some (.ref rA))) :: (L + 2, cellP none) :: (rA, lstP (rowsV rs)) :: (sortL w x dx nd .none 0 t1 0 t2 [] ++ (rowsL rs ++ [(rk, dctP w rkv)]))) := S5.perm (by ((try simp only [locals_eqC, locals_eqD]); ((refine perm_sum fun _ => ?_; (try simp only [locals_eq, List.append_eq, sortL, famL_app, famL_cons, famL_nil, NodeR.ent, List.cons_append, List.nil_append, List.append_assoc, List.eraseIdx_cons_succ, List.eraseIdx_cons_zero]); (try simp only [List.map_append, List.map_cons, List.map_nil, List.sum_append, List.sum_cons, List.sum_nil, Nat.add_zero, Nat.zero_add, Nat.add_assoc]); (try ac_rfl)); try omega)))
  refine cut2 (law_adds T hd' hu' hh' hrl hro S5 fun h6 tk6 fam cv hab hnc hbd S6 => ⟨rfl, ?_⟩)
  refine wpAny_execs_cons (law_end T hd' hu' hh' hfr' hrl hro hrk hab hbd ((S6.front 2 rfl).tail) fun h7 tk7 hk7 => ?_)
  exact k h7 g3 tk7 hk7 hg3
end
end Mine

namespace Mine
open PySem PySem.Calls PyProof.Rows PySem.W
noncomputable def de (P : Params) (k : Str) (t : Tok) (v : Value) : DictEntry := { hash := PyData.keyHash P k, key := .str k t, val := v }
noncomputable def fo (fd : FuncData) : Obj := { cls := .type "function", data := .func fd }
noncomputable def co (n q : Str) (t1 t2 t3 : Tok) (r : List Value) (tl : Value) : Obj := { cls := .type "code", data := .fields ([Value.str n t1, .str q t2, .str "/claim/cut.py" t3] ++ r ++ [tl]).toArray }
noncomputable def o1 (P : Params) : Obj := { cls := .type "dict", data := .dict #[de P "builtins" 162 (.ref 4), de P "__main__" 163 (.ref 5)] 2 }
noncomputable def o3 (P : Params) : Obj := { cls := .type "dict", data := .dict #[de P "__name__" 165 (.str "law_oc0243_01" 464), de P "__doc__" 166 (.none), de P "__package__" 167 (.none), de P "__loader__" 168 (.builtin "__main__.__loader__#opaque"), de P "__spec__" 169 (.none), de P "__annotations__" 170 (.ref 6), de P "__builtins__" 171 (.ref 4), de P "__file__" 173 (.str "/claim/cut.py" 172), de P "__cached__" 174 (.none), de P "_wall" 193 (.ref 21), de P "TICK" 197 (.str "'" 196), de P "_iter_escaped_chars" 207 (.ref 28), de P "_strip_quoted_realnames" 219 (.ref 35), de P "_check_parenthesis" 229 (.ref 42), de P "decode_rfc2231" 237 (.ref 49), de P "_NODE_OUT" 242 (.int (-1) 241), de P "_NODE_DONE" 245 (.int (-2) 244), de P "_NodeInfo" 282 (.ref 68), de P "CycleError" 300 (.ref 83), de P "TopologicalSorter" 419 (.ref 165), de P "heappush" 429 (.ref 176), de P "heappop" 438 (.ref 183), de P "_siftdown" 450 (.ref 190), de P "_siftup" 463 (.ref 197), de P "_law_text" 473 (.ref 204), de P "_law_read" 482 (.ref 211), de P "_law_dealt" 495 (.ref 218), de P "_law_due" 501 (.ref 223), de P "law" 507 (.ref 228)] 29 }
noncomputable def o27 (P : Params) : Obj := { cls := .type "code", data := .fields #[.str "_iter_escaped_chars" 198, .str "_iter_escaped_chars" 199, .str "/claim/cut.py" 200, .int 6 0, .int 1 0, .int 0 0, .int 0 0, .int 35 0, .ref 22, .bool true, .int 181 0, .ref 23, .none, .ref 24, .ref 25, .ref 26, .int 205 0, .int 6 0, .str "/claim/cut.py" 206] }
noncomputable def o34 (P : Params) : Obj := { cls := .type "code", data := .fields #[.str "_strip_quoted_realnames" 208, .str "_strip_quoted_realnames" 209, .str "/claim/cut.py" 210, .int 19 0, .int 1 0, .int 0 0, .int 0 0, .int 3 0, .ref 29, .bool true, .int 181 0, .ref 30, .none, .ref 31, .ref 32, .ref 33, .int 217 0, .int 19 0, .str "/claim/cut.py" 218] }
noncomputable def o41 (P : Params) : Obj := { cls := .type "code", data := .fields #[.str "_check_parenthesis" 220, .str "_check_parenthesis" 221, .str "/claim/cut.py" 222, .int 37 0, .int 1 0, .int 0 0, .int 0 0, .int 3 0, .ref 36, .bool true, .int 181 0, .ref 37, .none, .ref 38, .ref 39, .ref 40, .int 227 0, .int 37 0, .str "/claim/cut.py" 228] }
noncomputable def o48 (P : Params) : Obj := { cls := .type "code", data := .fields #[.str "decode_rfc2231" 230, .str "decode_rfc2231" 231, .str "/claim/cut.py" 232, .int 48 0, .int 1 0, .int 0 0, .int 0 0, .int 3 0, .ref 43, .bool true, .int 181 0, .ref 44, .none, .ref 45, .ref 46, .ref 47, .int 235 0, .int 48 0, .str "/claim/cut.py" 236] }
noncomputable def o63 (P : Params) : Obj := { cls := .type "code", data := .fields #[.str "__init__" 262, .str "_NodeInfo.__init__" 263, .str "/claim/cut.py" 264, .int 59 0, .int 2 0, .int 0 0, .int 0 0, .int 3 0, .ref 58, .bool true, .int 181 0, .ref 59, .none, .ref 60, .ref 61, .ref 62, .int 267 0, .int 59 0, .str "/claim/cut.py" 268] }
noncomputable def o67 (P : Params) : Obj := { cls := .type "dict", data := .dict #[de P "__module__" 253 (.str "cpy313.graphlib" 238), de P "__firstlineno__" 257 (.int 56 256), de P "__slots__" 261 (.ref 57), de P "__init__" 269 (.ref 64), de P "__static_attributes__" 273 (.ref 65), de P "node" 275 (.ref 69), de P "npredecessors" 277 (.ref 70), de P "successors" 279 (.ref 71), de P "__doc__" 280 (.none)] 5 }
noncomputable def o68 (P : Params) : Obj := { cls := .type "type", data := .cls { name := "_NodeInfo", bases := [.type "object"], mro := [.ref 68, .type "object"], ns := 67, qualname := "_NodeInfo", hasDict := false, slotNames := ["node", "npredecessors", "successors"] }, slots := #[none, none, some (.str "_NodeInfo" 246), some (.str "_NodeInfo" 254), some (.builtin "object.__new__"), some (.bool false)] }
noncomputable def o69 (P : Params) : Obj := { cls := .type "member_descriptor", data := .fields #[.str "node" 274, .ref 68, .builtin "proto.slot", .builtin "proto.slot#set", .int 2 0] }
noncomputable def o70 (P : Params) : Obj := { cls := .type "member_descriptor", data := .fields #[.str "npredecessors" 276, .ref 68, .builtin "proto.slot", .builtin "proto.slot#set", .int 1 0] }
noncomputable def o71 (P : Params) : Obj := { cls := .type "member_descriptor", data := .fields #[.str "successors" 278, .ref 68, .builtin "proto.slot", .builtin "proto.slot#set", .int 0 0] }
noncomputable def o82 (P : Params) : Obj := { cls := .type "dict", data := .dict #[de P "__module__" 290 (.str "cpy313.graphlib" 238), de P "__firstlineno__" 294 (.int 63 293), de P "__static_attributes__" 295 (.ref 81), de P "__weakref__" 297 (.ref 84), de P "__doc__" 298 (.none)] 3 }
noncomputable def o83 (P : Params) : Obj := { cls := .type "type", data := .cls { name := "CycleError", bases := [.type "ValueError"], mro := [.ref 83, .type "ValueError", .type "Exception", .type "BaseException", .type "object"], ns := 82, qualname := "CycleError" }, slots := #[some (.ref 74), none, some (.str "CycleError" 283), some (.str "CycleError" 291), some (.builtin "ValueError.__new__"), some (.bool true)] }
noncomputable def o94 (P : Params) : Obj := { cls := .type "tuple", data := .seq #[.none] }
noncomputable def o100 (P : Params) : Obj := { cls := .type "code", data := .fields #[.str "__init__" 313, .str "TopologicalSorter.__init__" 314, .str "/claim/cut.py" 315, .int 67 0, .int 2 0, .int 0 0, .int 0 0, .int 3 0, .ref 95, .bool true, .int 181 0, .ref 96, .none, .ref 97, .ref 98, .ref 99, .int 320 0, .int 67 0, .str "/claim/cut.py" 321] }
noncomputable def o107 (P : Params) : Obj := { cls := .type "code", data := .fields #[.str "_get_nodeinfo" 323, .str "TopologicalSorter._get_nodeinfo" 324, .str "/claim/cut.py" 325, .int 76 0, .int 2 0, .int 0 0, .int 0 0, .int 3 0, .ref 102, .bool true, .int 181 0, .ref 103, .none, .ref 104, .ref 105, .ref 106, .int 329 0, .int 76 0, .str "/claim/cut.py" 330] }
noncomputable def o114 (P : Params) : Obj := { cls := .type "code", data := .fields #[.str "add" 332, .str "TopologicalSorter.add" 333, .str "/claim/cut.py" 334, .int 81 0, .int 2 0, .int 0 0, .int 0 0, .int 7 0, .ref 109, .bool true, .int 181 0, .ref 110, .none, .ref 111, .ref 112, .ref 113, .int 341 0, .int 81 0, .str "/claim/cut.py" 342] }
noncomputable def o119 (P : Params) : Obj := { cls := .type "code", data := .fields #[.str "prepare" 344, .str "TopologicalSorter.prepare" 345, .str "/claim/cut.py" 346, .int 90 0, .int 1 0, .int 0 0, .int 0 0, .int 3 0, .ref 116, .bool true, .int 181 0, .ref 117, .none, .none, .none, .ref 118, .int 347 0, .int 90 0, .str "/claim/cut.py" 348] }
noncomputable def o126 (P : Params) : Obj := { cls := .type "code", data := .fields #[.str "get_ready" 350, .str "TopologicalSorter.get_ready" 351, .str "/claim/cut.py" 352, .int 98 0, .int 1 0, .int 0 0, .int 0 0, .int 3 0, .ref 121, .bool true, .int 181 0, .ref 122, .none, .ref 123, .ref 124, .ref 125, .int 357 0, .int 98 0, .str "/claim/cut.py" 358] }
noncomputable def o133 (P : Params) : Obj := { cls := .type "code", data := .fields #[.str "is_active" 360, .str "TopologicalSorter.is_active" 361, .str "/claim/cut.py" 362, .int 109 0, .int 1 0, .int 0 0, .int 0 0, .int 3 0, .ref 128, .bool true, .int 181 0, .ref 129, .none, .ref 130, .ref 131, .ref 132, .int 364 0, .int 109 0, .str "/claim/cut.py" 365] }
noncomputable def o147 (P : Params) : Obj := { cls := .type "code", data := .fields #[.str "done" 374, .str "TopologicalSorter.done" 375, .str "/claim/cut.py" 376, .int 117 0, .int 1 0, .int 0 0, .int 0 0, .int 7 0, .ref 142, .bool true, .int 181 0, .ref 143, .none, .ref 144, .ref 145, .ref 146, .int 385 0, .int 117 0, .str "/claim/cut.py" 386] }
noncomputable def o154 (P : Params) : Obj := { cls := .type "code", data := .fields #[.str "_find_cycle" 388, .str "TopologicalSorter._find_cycle" 389, .str "/claim/cut.py" 390, .int 140 0, .int 1 0, .int 0 0, .int 0 0, .int 3 0, .ref 149, .bool true, .int 181 0, .ref 150, .none, .ref 151, .ref 152, .ref 153, .int 398 0, .int 140 0, .str "/claim/cut.py" 399] }
noncomputable def o164 (P : Params) : Obj := { cls := .type "dict", data := .dict #[de P "__module__" 308 (.str "cpy313.graphlib" 238), de P "__firstlineno__" 312 (.int 65 311), de P "__init__" 322 (.ref 101), de P "_get_nodeinfo" 331 (.ref 108), de P "add" 343 (.ref 115), de P "prepare" 349 (.ref 120), de P "get_ready" 359 (.ref 127), de P "is_active" 366 (.ref 134), de P "__bool__" 373 (.ref 141), de P "done" 387 (.ref 148), de P "_find_cycle" 400 (.ref 155), de P "static_order" 407 (.ref 162), de P "__static_attributes__" 412 (.ref 163), de P "__dict__" 414 (.ref 166), de P "__weakref__" 416 (.ref 167), de P "__doc__" 417 (.none)] 4 }
noncomputable def o165 (P : Params) : Obj := { cls := .type "type", data := .cls { name := "TopologicalSorter", bases := [.type "object"], mro := [.ref 165, .type "object"], ns := 164, qualname := "TopologicalSorter" }, slots := #[none, none, some (.str "TopologicalSorter" 301), some (.str "TopologicalSorter" 309), some (.builtin "object.__new__"), some (.bool true)] }
noncomputable def o175 (P : Params) : Obj := { cls := .type "code", data := .fields #[.str "heappush" 422, .str "heappush" 423, .str "/claim/cut.py" 424, .int 172 0, .int 2 0, .int 0 0, .int 0 0, .int 3 0, .ref 170, .bool true, .int 181 0, .ref 171, .none, .ref 172, .ref 173, .ref 174, .int 427 0, .int 172 0, .str "/claim/cut.py" 428] }
noncomputable def o182 (P : Params) : Obj := { cls := .type "code", data := .fields #[.str "heappop" 430, .str "heappop" 431, .str "/claim/cut.py" 432, .int 175 0, .int 1 0, .int 0 0, .int 0 0, .int 3 0, .ref 177, .bool true, .int 181 0, .ref 178, .none, .ref 179, .ref 180, .ref 181, .int 436 0, .int 175 0, .str "/claim/cut.py" 437] }
noncomputable def o189 (P : Params) : Obj := { cls := .type "code", data := .fields #[.str "_siftdown" 439, .str "_siftdown" 440, .str "/claim/cut.py" 441, .int 183 0, .int 3 0, .int 0 0, .int 0 0, .int 3 0, .ref 184, .bool true, .int 181 0, .ref 185, .none, .ref 186, .ref 187, .ref 188, .int 448 0, .int 183 0, .str "/claim/cut.py" 449] }
noncomputable def o196 (P : Params) : Obj := { cls := .type "code", data := .fields #[.str "_siftup" 451, .str "_siftup" 452, .str "/claim/cut.py" 453, .int 194 0, .int 2 0, .int 0 0, .int 0 0, .int 3 0, .ref 191, .bool true, .int 181 0, .ref 192, .none, .ref 193, .ref 194, .ref 195, .int 461 0, .int 194 0, .str "/claim/cut.py" 462] }
noncomputable def o203 (P : Params) : Obj := { cls := .type "code", data := .fields #[.str "_law_text" 466, .str "_law_text" 467, .str "/claim/cut.py" 468, .int 209 0, .int 1 0, .int 0 0, .int 0 0, .int 3 0, .ref 198, .bool true, .int 181 0, .ref 199, .none, .ref 200, .ref 201, .ref 202, .int 471 0, .int 209 0, .str "/claim/cut.py" 472] }
noncomputable def o210 (P : Params) : Obj := { cls := .type "code", data := .fields #[.str "_law_read" 474, .str "_law_read" 475, .str "/claim/cut.py" 476, .int 214 0, .int 1 0, .int 0 0, .int 0 0, .int 3 0, .ref 205, .bool true, .int 181 0, .ref 206, .none, .ref 207, .ref 208, .ref 209, .int 480 0, .int 214 0, .str "/claim/cut.py" 481] }
noncomputable def o217 (P : Params) : Obj := { cls := .type "code", data := .fields #[.str "_law_dealt" 483, .str "_law_dealt" 484, .str "/claim/cut.py" 485, .int 218 0, .int 2 0, .int 0 0, .int 0 0, .int 3 0, .ref 212, .bool true, .int 181 0, .ref 213, .none, .ref 214, .ref 215, .ref 216, .int 493 0, .int 218 0, .str "/claim/cut.py" 494] }
noncomputable def o222 (P : Params) : Obj := { cls := .type "code", data := .fields #[.str "_law_due" 496, .str "_law_due" 497, .str "/claim/cut.py" 498, .int 231 0, .int 2 0, .int 0 0, .int 0 0, .int 3 0, .ref 219, .bool true, .int 181 0, .ref 220, .none, .none, .none, .ref 221, .int 499 0, .int 231 0, .str "/claim/cut.py" 500] }
noncomputable def o227 (P : Params) : Obj := { cls := .type "code", data := .fields #[.str "law" 502, .str "law" 503, .str "/claim/cut.py" 504, .int 240 0, .int 1 0, .int 0 0, .int 0 0, .int 3 0, .ref 224, .bool true, .int 181 0, .ref 225, .none, .none, .none, .ref 226, .int 505 0, .int 240 0, .str "/claim/cut.py" 506] }
noncomputable def topK (P : Params) : Frag := [(1, o1 P), (3, o3 P), (27, o27 P), (28, fo fdIter), (34, o34 P), (35, fo fdStrip), (41, o41 P), (42, fo fdCheck), (48, o48 P), (49, fo fdDec), (63, o63 P), (64, fo fdNInit), (67, o67 P), (68, o68 P), (69, o69 P), (70, o70 P), (71, o71 P), (82, o82 P), (83, o83 P), (94, o94 P), (100, o100 P), (101, fo fdTInit), (107, o107 P), (108, fo fdGet), (114, o114 P), (115, fo fdAdd), (119, o119 P), (120, fo fdPrep), (126, o126 P), (127, fo fdReady), (133, o133 P), (134, fo fdActive), (147, o147 P), (148, fo fdDone), (154, o154 P), (155, fo fdCyc), (164, o164 P), (165, o165 P), (175, o175 P), (176, fo fdPush), (182, o182 P), (183, fo fdPop), (189, o189 P), (190, fo fdDown), (196, o196 P), (197, fo fdUp), (203, o203 P), (204, fo fdText), (210, o210 P), (211, fo fdRead), (217, o217 P), (218, fo fdDealt), (222, o222 P), (223, fo fdDue), (227, o227 P), (228, fo fdLaw)]
noncomputable def topA : List Addr := [1, 3, 27, 28, 34, 35, 41, 42, 48, 49, 63, 64, 67, 68, 69, 70, 71, 82, 83, 94, 100, 101, 107, 108, 114, 115, 119, 120, 126, 127, 133, 134, 147, 148, 154, 155, 164, 165, 175, 176, 182, 183, 189, 190, 196, 197, 203, 204, 210, 211, 217, 218, 222, 223, 227, 228]
end Mine

namespace Mine
open PySem PySem.Calls PyProof.Rows PySem.W
noncomputable def qualAt (o : Obj) : Option Str := match o.data with
  | .fields vs => (match (vs[1]? : Option Value) with | some (.str q _) => some q | _ => none)
  | _ => none
theorem qual_of {o : Obj} {q : Str} (h : qualAt o = some q) : ∃ vs t, o.data = .fields vs ∧ vs[1]? = some (.str q t) := by
  unfold qualAt at h
  split at h
  · rename_i vs e
    split at h
    · rename_i q' t e2
      cases h
      exact ⟨vs, t, e, e2⟩
    · cases h
  · cases h
theorem fnAt_of {K : Frag} {H : Heap} (X : K.In H) {a c : Addr} {fd : FuncData} {oc : Obj} (h1 : K.lookup a = some (fo fd)) (h2 : K.lookup c = some oc) (h3 : fd.code = .ref c) (h4 : qualAt oc = some fd.qualname) : FnAt H a fd := by
  refine ⟨⟨fo fd, X _ _ h1, rfl⟩, ?_⟩
  obtain ⟨vs, tq, e1, e2⟩ := qual_of h4
  exact ⟨c, oc, vs, tq, h3, X _ _ h2, e1, e2⟩
theorem glob_at (p : Params) : ∀ q ∈ globTab, nsIn (topK p) 3 q.1 = some (some q.2) := by
  unfold globTab
  simp only [List.forall_mem_cons]
  refine ⟨?_, ?_, ?_, ?_, ?_, ?_, ?_, ?_, ?_, ?_, ?_, ?_, ?_, ?_, ?_, ?_, ?_, ?_, fun _ h => (nomatch h)⟩ <;> kernel_rfl
theorem bi_at (p : Params) : ∀ q ∈ biTab, nsIn (topK p) 3 q.1 = some none ∧ bootBuiltins q.1 = some q.2 := by
  unfold biTab
  simp only [List.forall_mem_cons]
  refine ⟨⟨?_, ?_⟩, ⟨?_, ?_⟩, ⟨?_, ?_⟩, ⟨?_, ?_⟩, ⟨?_, ?_⟩, ⟨?_, ?_⟩, ⟨?_, ?_⟩, ⟨?_, ?_⟩, ⟨?_, ?_⟩, ⟨?_, ?_⟩, fun _ h => (nomatch h)⟩ <;> kernel_rfl
theorem bi_ne : ∀ q ∈ biTab, q.1 ≠ "__name__" := by
  unfold biTab
  simp only [List.forall_mem_cons]
  refine ⟨?_, ?_, ?_, ?_, ?_, ?_, ?_, ?_, ?_, ?_, fun _ h => (nomatch h)⟩ <;> decide
theorem globs {p : Params} {H : Heap} (X : (topK p).In H) {mg mb : Str → Option Value} (g : H.Ns 3 mg) (b : H.Ns 0 mb) (bb : ∀ x : Str, x ≠ "__name__" → mb x = bootBuiltins x) : Globs H :=
  ⟨⟨mg, g, fun x v h => mg_of X g (glob_at p _ (mem_of_lookup h))⟩, ⟨mg, mb, g, b, fun x v h => ⟨mg_none_of X g (bi_at p _ (mem_of_lookup h)).1, (bb x (bi_ne _ (mem_of_lookup h))).trans (bi_at p _ (mem_of_lookup h)).2⟩⟩⟩
theorem err_at {p : Params} {H : Heap} (X : (topK p).In H) : ∃ (nm q : Str) (N : Addr) (bs : List Value) (hdct : Bool) (sn : List Str) (sub : List Value) (ab : Bool) (col : Option Bool) (dd : Option Addr) (k0 k1 k2 k3 k5 : Option Value) (mN : Str → Option Value),
    H.get? 83 = some (excClassObj nm q 83 N bs [.type "ValueError", .type "Exception", .type "BaseException", .type "object"] hdct sn sub ab col dd k0 k1 k2 k3 k5 "ValueError.__new__") ∧ H.Ns N mN ∧ mN "__init__" = none := by
  have h83 : H.get? 83 = some (o83 p) := X 83 _ (by kernel_rfl)
  have h82 : H.get? 82 = some (o82 p) := X 82 _ (by kernel_rfl)
  refine ⟨_, _, 82, _, _, _, _, _, _, _, _, _, _, _, _, _, h83, ⟨_, _, _, h82, rfl, ?_, fun _ => rfl⟩, ?_⟩
  · intro e he
    simp only [de, List.mem_toArray, List.mem_cons, List.not_mem_nil, or_false] at he
    rcases he with rfl | rfl | rfl | rfl | rfl <;> exact ⟨_, _, rfl⟩
  · kernel_rfl
theorem topZ {p : Params} {H : Heap} (X : (topK p).In H) {mg mb : Str → Option Value} (g : H.Ns 3 mg) (b : H.Ns 0 mb) (bb : ∀ x : Str, x ≠ "__name__" → mb x = bootBuiltins x) (lim : H.NoLimit) : TopZ (topK p) H := by
  have GG := globs X g b bb
  have cT : ∃ cd, clsIn (topK p) 165 = some cd ∧ cd.hasDict = true := Option.map_eq_some_iff.mp (show (clsIn (topK p) 165).map (·.hasDict) = some true by kernel_rfl)
  have aT : ∀ name ∈ (["_node2info", "_ready_nodes", "_npassedout", "_nfinished"] : List Str), findIn (topK p) (.ref 165) name = some none := by
    simp only [List.forall_mem_cons]
    refine ⟨?_, ?_, ?_, ?_, fun _ h => (nomatch h)⟩ <;> kernel_rfl
  have sN : ∀ q ∈ ([("node", 69, 0), ("npredecessors", 70, 1), ("successors", 71, 2)] : List (Str × Addr × Nat)), slotIn (topK p) q.2.1 68 = some q.2.2 ∧ takerIn (topK p) 68 q.1 = some (some (.ref q.2.1)) ∧
      typeIn (topK p) (.ref q.2.1) = some (.type "member_descriptor") ∧ ∀ od, findObj (topK p) 68 od q.1 = some (.bind (.builtin "member_descriptor.__get__") (.ref q.2.1)) := by
    simp only [List.forall_mem_cons]
    refine ⟨⟨?_, ?_, ?_, fun od => ?_⟩, ⟨?_, ?_, ?_, fun od => ?_⟩, ⟨?_, ?_, ?_, fun od => ?_⟩, fun _ h => (nomatch h)⟩ <;> kernel_rfl
  have mT : ∀ q ∈ ([("_get_nodeinfo", 108), ("add", 115), ("prepare", 120), ("get_ready", 127), ("is_active", 134), ("done", 148), ("_find_cycle", 155)] : List (Str × Addr)), findIn (topK p) (.ref 165) q.1 = some (some (.ref q.2)) ∧ typeIn (topK p) (.ref q.2) = some (.type "function") := by
    simp only [List.forall_mem_cons]
    refine ⟨⟨?_, ?_⟩, ⟨?_, ?_⟩, ⟨?_, ?_⟩, ⟨?_, ?_⟩, ⟨?_, ?_⟩, ⟨?_, ?_⟩, ⟨?_, ?_⟩, fun _ h => (nomatch h)⟩ <;> kernel_rfl
  have kC : ∀ a ∈ ([68, 83, 165] : List Addr), keepIn (topK p) (.ref a) = true := by
    simp only [List.forall_mem_cons]
    refine ⟨?_, ?_, ?_, fun _ h => (nomatch h)⟩ <;> kernel_rfl
  exact {
    lim := lim, gl := GG.gl, bi := GG.bi, X := X, clsT := cT, attrT := aT, slotN := sN, methT := mT, keepC := kC, err := err_at X
    gaT := by kernel_rfl
    haT := by kernel_rfl
    saT := by kernel_rfl
    poT := by kernel_rfl
    gaN := by kernel_rfl
    haN := by kernel_rfl
    saN := by kernel_rfl
    poN := by kernel_rfl
    mkN := by kernel_rfl
    mkT := by kernel_rfl
    iniN := ⟨by kernel_rfl, by kernel_rfl⟩
    iniT := ⟨by kernel_rfl, by kernel_rfl⟩
    addG := by kernel_rfl
    addT := by kernel_rfl
    addF := ⟨fo fdAdd, by kernel_rfl, rfl⟩
    mods := ⟨o1 p, X 1 _ (by kernel_rfl)⟩
    dflt := ⟨0, X 94 _ (by kernel_rfl)⟩
    down := fnAt_of (c := 189) (oc := o189 p) X (by kernel_rfl) (by kernel_rfl) (by kernel_rfl) (by kernel_rfl)
    up := fnAt_of (c := 196) (oc := o196 p) X (by kernel_rfl) (by kernel_rfl) (by kernel_rfl) (by kernel_rfl)
    push := fnAt_of (c := 175) (oc := o175 p) X (by kernel_rfl) (by kernel_rfl) (by kernel_rfl) (by kernel_rfl)
    pop := fnAt_of (c := 182) (oc := o182 p) X (by kernel_rfl) (by kernel_rfl) (by kernel_rfl) (by kernel_rfl)
    nInit := fnAt_of (c := 63) (oc := o63 p) X (by kernel_rfl) (by kernel_rfl) (by kernel_rfl) (by kernel_rfl)
    tInit := fnAt_of (c := 100) (oc := o100 p) X (by kernel_rfl) (by kernel_rfl) (by kernel_rfl) (by kernel_rfl)
    fget := fnAt_of (c := 107) (oc := o107 p) X (by kernel_rfl) (by kernel_rfl) (by kernel_rfl) (by kernel_rfl)
    fadd := fnAt_of (c := 114) (oc := o114 p) X (by kernel_rfl) (by kernel_rfl) (by kernel_rfl) (by kernel_rfl)
    fprep := fnAt_of (c := 119) (oc := o119 p) X (by kernel_rfl) (by kernel_rfl) (by kernel_rfl) (by kernel_rfl)
    fready := fnAt_of (c := 126) (oc := o126 p) X (by kernel_rfl) (by kernel_rfl) (by kernel_rfl) (by kernel_rfl)
    factive := fnAt_of (c := 133) (oc := o133 p) X (by kernel_rfl) (by kernel_rfl) (by kernel_rfl) (by kernel_rfl)
    fdone := fnAt_of (c := 147) (oc := o147 p) X (by kernel_rfl) (by kernel_rfl) (by kernel_rfl) (by kernel_rfl)
    fcyc := fnAt_of (c := 154) (oc := o154 p) X (by kernel_rfl) (by kernel_rfl) (by kernel_rfl) (by kernel_rfl)
    fiter := fnAt_of (c := 27) (oc := o27 p) X (by kernel_rfl) (by kernel_rfl) (by kernel_rfl) (by kernel_rfl)
    fstrip := fnAt_of (c := 34) (oc := o34 p) X (by kernel_rfl) (by kernel_rfl) (by kernel_rfl) (by kernel_rfl)
    fcheck := fnAt_of (c := 41) (oc := o41 p) X (by kernel_rfl) (by kernel_rfl) (by kernel_rfl) (by kernel_rfl)
    fdec := fnAt_of (c := 48) (oc := o48 p) X (by kernel_rfl) (by kernel_rfl) (by kernel_rfl) (by kernel_rfl)
    ftext := fnAt_of (c := 203) (oc := o203 p) X (by kernel_rfl) (by kernel_rfl) (by kernel_rfl) (by kernel_rfl)
    fread := fnAt_of (c := 210) (oc := o210 p) X (by kernel_rfl) (by kernel_rfl) (by kernel_rfl) (by kernel_rfl)
    fdealt := fnAt_of (c := 217) (oc := o217 p) X (by kernel_rfl) (by kernel_rfl) (by kernel_rfl) (by kernel_rfl)
    fdue := fnAt_of (c := 222) (oc := o222 p) X (by kernel_rfl) (by kernel_rfl) (by kernel_rfl) (by kernel_rfl)
    flaw := fnAt_of (c := 227) (oc := o227 p) X (by kernel_rfl) (by kernel_rfl) (by kernel_rfl) (by kernel_rfl)
  }
end Mine

namespace Mine
open PySem PySem.Calls PyProof.Rows PySem.W
theorem good_true {c : ClaimW} {cl : Str → Option Addr} {mean : ExcName → Option Value} {args : List WData} {s₁ : Shared} {h : Heap} {g : Array GenState} {tk : Nat} {d : Drawn}
    (hk : Keeps s₁.heap h) (hr : ∀ cls, c.raises args cls = false) (hp : c.post args (.bool true) args = true) (hb : GB g) : GoodWG c cl mean args s₁ (.ok (.ret (.bool true))) ⟨h, g, d, tk, s₁.os⟩ :=
  ⟨.inl ⟨_, _, [], rfl, hr, ReadsW.bool true, hp, fun _ => ⟨List.nodup_nil, fun _ hm => (nomatch hm)⟩⟩, .of_keep hk, rfl, hb⟩
end Mine
open PySem PySem.W PyProof.Rows
set_option maxHeartbeats 0 in
theorem PySem.Challenge.cw_oc0243_01_holds : PySem.Challenge.rw_oc0243_01.Holds := by
  w_on; o_law; o_head (kHook Mine.topK [1, 3, 27, 28, 34, 35, 41, 42, 48, 49, 63, 64, 67, 68, 69, 70, 71, 82, 83, 94, 100, 101, 107, 108, 114, 115, 119, 120, 126, 127, 133, 134, 147, 148, 154, 155, 164, 165, 175, 176, 182, 183, 189, 190, 196, 197, 203, 204, 210, 211, 217, 218, 222, 223, 227, 228] (fun _ => by kernel_rfl)); (case hw => w_witness2)
  intro w s₀ s₁ mg mb G Y fa o pm cd doc dV kV ho hd hcd hD hmg hg args vals as hpre hlay hrd hwl hlo
  have KX := kIn_of Y
  refine Ground.open G ?_
  intro T B D TE TW
  wrow_args hpre hlay hrd hwl hlo
  rename_i xs _ _ _ _ _ _ _ sA vs _ hL _ _ _ hI _ hc _
  have hfa : fa = 228 := by
    have h1 : mg "law" = some (.ref 228) := mg_of KX T.g (by kernel_rfl)
    have h2 := h1.symm.trans hmg
    injection h2 with h2
    injection h2 with h2
    exact h2.symm
  subst hfa
  obtain ⟨hh, gg, dr, tk, os⟩ := s₁
  have hgg : gg = #[] := hg
  subst hgg
  refine Mine.law_spec (A := callerA) (Mine.topZ KX T.g T.b T.builtins T.nolimit) (by decide) (by decide) rfl rfl (fun y hy => by simp at hy) hL hI (by omega) fun h' g' tk' hk hb => ?_
  refine Mine.good_true (s₁ := ⟨hh, #[], dr, tk, os⟩) hk (fun _ => rfl) ?_ hb
  first | rfl | wrow_post
