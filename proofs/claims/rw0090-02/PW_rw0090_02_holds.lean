import PyProof.Rows.All
import Wide.All
import OpenK.AllK
import Wide.FinOn
import Lean
import PySem.Challenge.RW_rw0090_02
set_option Elab.async false
set_option genInjectivity false
set_option genSizeOf false
set_option compiler.extract_closed false
set_option maxRecDepth 100000
set_option maxHeartbeats 8000000
set_option linter.all false
section
open PySem PySem.W PyProof.Rows
namespace Mine
noncomputable def keep : List Stmt → List Stmt
  | [a, b, _, c, _, d, _, e, f, g, _, h, i, j, k, l, m, n, o, p, q] => [a, b, c, d, e, f, g, h, i, j, k, l, m, n, o, p, q]
  | l => l
noncomputable def view : Program := { PySem.Challenge.pw_rw0090_02 with main := { PySem.Challenge.pw_rw0090_02.main with body := keep PySem.Challenge.pw_rw0090_02.main.body } }
theorem hd_o (H : Hook) {d : DefRec} {kwd : List (Str × PySem.Expr)}
    (hl : LeftO PySem.Challenge.rw_rw0090_02.row.prog view [PySem.Str.ofString "_name_disallowed_re", PySem.Str.ofString "_value_disallowed_re"] (fun s => xlAt view [] s && recOk (RowW.records (PySem.Challenge.rw_rw0090_02.row.toRowW)) s) (Hook.obs H) (Hook.val H) 3350)
    (hdef : defOf view PySem.Challenge.rw_rw0090_02.row.name = some (d, kwd)) (hp : PySem.Challenge.rw_rw0090_02.row.prog.theDef PySem.Challenge.rw_rw0090_02.row.name = some (d.params, d.body, d.scope)) (hk : kwWritten? d.params.kwonlyargs d.params.kw_defaults = some kwd)
    (k1 : PySem.Challenge.rw_rw0090_02.row.wellSaid = true) (hw : PySem.Challenge.rw_rw0090_02.row.toRowW.promised)
    (call : WalkO view [PySem.Str.ofString "_name_disallowed_re", PySem.Str.ofString "_value_disallowed_re"] (XL view []) (Hook.says H) PySem.Challenge.rw_rw0090_02.row.toRowW d kwd fun f vs => PySem.call f vs) : PySem.Challenge.rw_rw0090_02.row.Holds :=
  holds_open hl (Hook.of H) (Hook.keeps H) (fun s e => xl_of s (Bool.and_eq_true_iff.mp e).1) XL.keeps hdef hp hk (fun s e => recFacts_of (Bool.and_eq_true_iff.mp e).2) (by rfl) k1 (by decide +kernel) ⟨rfl, rfl, rfl, rfl, rfl, by decide +kernel⟩ hw call
local macro_rules | `(tactic| o_head $H) => `(tactic| (refine hd_o $H (by intro w; kernel_rfl) (by rfl) (by rfl) (by rfl) (by assumption) ?hw ?hc))
local macro_rules | `(tactic| o_law) => `(tactic| refine holds_law (by decide +kernel) fun said => ?_)
open_top hd2 for PySem.Challenge.rw_rw0090_02
example : True := by w_top off; trivial
end Mine
end
section
open PySem PySem.W PyProof.Rows PySem.Calls PySem.Spec
set_option genInjectivity false
set_option genSizeOf false
set_option maxRecDepth 100000
namespace Mine
theorem letGoal {P : Prop} (h : let G := P; G) : P := h
theorem rm0 {d n R : Nat} (h : d + n < R) : d < R := Nat.lt_of_le_of_lt (Nat.le_add_right d n) h
theorem rm1 {d i n R : Nat} (h : d + n < R) (e : Nat.ble i n = true) : d + i < R := Nat.lt_of_le_of_lt (Nat.add_le_add_left (Nat.le_of_ble_eq_true e) d) h
theorem rm2 {d i j n R : Nat} (h : d + n < R) (e : Nat.ble (i + j) n = true) : d + i + j < R := by rw [Nat.add_assoc]; exact rm1 h e
theorem rm3 {d i j k n R : Nat} (h : d + n < R) (e : Nat.ble (i + (j + k)) n = true) : d + i + j + k < R := by rw [Nat.add_assoc (d + i)]; exact rm2 h e
theorem cjA0 {p0 p1 : Prop} (h : p0 ∧ p1) : p0 := h.1
theorem cjA1 {p0 p1 p2 : Prop} (h : p0 ∧ p1 ∧ p2) : p1 := h.2.1
theorem cjA2 {p0 p1 p2 p3 : Prop} (h : p0 ∧ p1 ∧ p2 ∧ p3) : p2 := h.2.2.1
theorem cjA3 {p0 p1 p2 p3 p4 : Prop} (h : p0 ∧ p1 ∧ p2 ∧ p3 ∧ p4) : p3 := h.2.2.2.1
theorem cjA4 {p0 p1 p2 p3 p4 p5 : Prop} (h : p0 ∧ p1 ∧ p2 ∧ p3 ∧ p4 ∧ p5) : p4 := h.2.2.2.2.1
theorem cjA5 {p0 p1 p2 p3 p4 p5 p6 : Prop} (h : p0 ∧ p1 ∧ p2 ∧ p3 ∧ p4 ∧ p5 ∧ p6) : p5 := h.2.2.2.2.2.1
theorem cjA6 {p0 p1 p2 p3 p4 p5 p6 p7 : Prop} (h : p0 ∧ p1 ∧ p2 ∧ p3 ∧ p4 ∧ p5 ∧ p6 ∧ p7) : p6 := h.2.2.2.2.2.2.1
theorem cjA7 {p0 p1 p2 p3 p4 p5 p6 p7 p8 : Prop} (h : p0 ∧ p1 ∧ p2 ∧ p3 ∧ p4 ∧ p5 ∧ p6 ∧ p7 ∧ p8) : p7 := h.2.2.2.2.2.2.2.1
theorem cjA8 {p0 p1 p2 p3 p4 p5 p6 p7 p8 p9 : Prop} (h : p0 ∧ p1 ∧ p2 ∧ p3 ∧ p4 ∧ p5 ∧ p6 ∧ p7 ∧ p8 ∧ p9) : p8 := h.2.2.2.2.2.2.2.2.1
theorem cjA9 {p0 p1 p2 p3 p4 p5 p6 p7 p8 p9 p10 : Prop} (h : p0 ∧ p1 ∧ p2 ∧ p3 ∧ p4 ∧ p5 ∧ p6 ∧ p7 ∧ p8 ∧ p9 ∧ p10) : p9 := h.2.2.2.2.2.2.2.2.2.1
theorem cjB1 {p0 p1 : Prop} (h : p0 ∧ p1) : p1 := h.2
theorem cjB2 {p0 p1 p2 : Prop} (h : p0 ∧ p1 ∧ p2) : p2 := h.2.2
theorem cjB3 {p0 p1 p2 p3 : Prop} (h : p0 ∧ p1 ∧ p2 ∧ p3) : p3 := h.2.2.2
theorem cjB4 {p0 p1 p2 p3 p4 : Prop} (h : p0 ∧ p1 ∧ p2 ∧ p3 ∧ p4) : p4 := h.2.2.2.2
theorem cjB5 {p0 p1 p2 p3 p4 p5 : Prop} (h : p0 ∧ p1 ∧ p2 ∧ p3 ∧ p4 ∧ p5) : p5 := h.2.2.2.2.2
theorem cjB6 {p0 p1 p2 p3 p4 p5 p6 : Prop} (h : p0 ∧ p1 ∧ p2 ∧ p3 ∧ p4 ∧ p5 ∧ p6) : p6 := h.2.2.2.2.2.2
theorem cjB7 {p0 p1 p2 p3 p4 p5 p6 p7 : Prop} (h : p0 ∧ p1 ∧ p2 ∧ p3 ∧ p4 ∧ p5 ∧ p6 ∧ p7) : p7 := h.2.2.2.2.2.2.2
theorem cjB8 {p0 p1 p2 p3 p4 p5 p6 p7 p8 : Prop} (h : p0 ∧ p1 ∧ p2 ∧ p3 ∧ p4 ∧ p5 ∧ p6 ∧ p7 ∧ p8) : p8 := h.2.2.2.2.2.2.2.2
theorem cjB9 {p0 p1 p2 p3 p4 p5 p6 p7 p8 p9 : Prop} (h : p0 ∧ p1 ∧ p2 ∧ p3 ∧ p4 ∧ p5 ∧ p6 ∧ p7 ∧ p8 ∧ p9) : p9 := h.2.2.2.2.2.2.2.2.2
theorem cjB10 {p0 p1 p2 p3 p4 p5 p6 p7 p8 p9 p10 : Prop} (h : p0 ∧ p1 ∧ p2 ∧ p3 ∧ p4 ∧ p5 ∧ p6 ∧ p7 ∧ p8 ∧ p9 ∧ p10) : p10 := h.2.2.2.2.2.2.2.2.2.2
inductive And3 (p1 p2 p3 : Prop) : Prop where
  | mk (h1 : p1) (h2 : p2) (h3 : p3) : And3 p1 p2 p3
inductive And4 (p1 p2 p3 p4 : Prop) : Prop where
  | mk (h1 : p1) (h2 : p2) (h3 : p3) (h4 : p4) : And4 p1 p2 p3 p4
inductive And5 (p1 p2 p3 p4 p5 : Prop) : Prop where
  | mk (h1 : p1) (h2 : p2) (h3 : p3) (h4 : p4) (h5 : p5) : And5 p1 p2 p3 p4 p5
inductive And6 (p1 p2 p3 p4 p5 p6 : Prop) : Prop where
  | mk (h1 : p1) (h2 : p2) (h3 : p3) (h4 : p4) (h5 : p5) (h6 : p6) : And6 p1 p2 p3 p4 p5 p6
inductive And7 (p1 p2 p3 p4 p5 p6 p7 : Prop) : Prop where
  | mk (h1 : p1) (h2 : p2) (h3 : p3) (h4 : p4) (h5 : p5) (h6 : p6) (h7 : p7) : And7 p1 p2 p3 p4 p5 p6 p7
inductive And8 (p1 p2 p3 p4 p5 p6 p7 p8 : Prop) : Prop where
  | mk (h1 : p1) (h2 : p2) (h3 : p3) (h4 : p4) (h5 : p5) (h6 : p6) (h7 : p7) (h8 : p8) : And8 p1 p2 p3 p4 p5 p6 p7 p8
inductive And13 (p1 p2 p3 p4 p5 p6 p7 p8 p9 p10 p11 p12 p13 : Prop) : Prop where
  | mk (h1 : p1) (h2 : p2) (h3 : p3) (h4 : p4) (h5 : p5) (h6 : p6) (h7 : p7) (h8 : p8) (h9 : p9) (h10 : p10) (h11 : p11) (h12 : p12) (h13 : p13) : And13 p1 p2 p3 p4 p5 p6 p7 p8 p9 p10 p11 p12 p13
inductive Ex2 {α1 α2 : Type} (P : α1 → α2 → Prop) : Prop where
  | mk (a1 : α1) (a2 : α2) (h : P a1 a2) : Ex2 P
inductive Ex3 {α1 α2 α3 : Type} (P : α1 → α2 → α3 → Prop) : Prop where
  | mk (a1 : α1) (a2 : α2) (a3 : α3) (h : P a1 a2 a3) : Ex3 P
inductive Ex4 {α1 α2 α3 α4 : Type} (P : α1 → α2 → α3 → α4 → Prop) : Prop where
  | mk (a1 : α1) (a2 : α2) (a3 : α3) (a4 : α4) (h : P a1 a2 a3 a4) : Ex4 P
inductive Ex5 {α1 α2 α3 α4 α5 : Type} (P : α1 → α2 → α3 → α4 → α5 → Prop) : Prop where
  | mk (a1 : α1) (a2 : α2) (a3 : α3) (a4 : α4) (a5 : α5) (h : P a1 a2 a3 a4 a5) : Ex5 P
inductive Ex6 {α1 α2 α3 α4 α5 α6 : Type} (P : α1 → α2 → α3 → α4 → α5 → α6 → Prop) : Prop where
  | mk (a1 : α1) (a2 : α2) (a3 : α3) (a4 : α4) (a5 : α5) (a6 : α6) (h : P a1 a2 a3 a4 a5 a6) : Ex6 P
inductive Ex7 {α1 α2 α3 α4 α5 α6 α7 : Type} (P : α1 → α2 → α3 → α4 → α5 → α6 → α7 → Prop) : Prop where
  | mk (a1 : α1) (a2 : α2) (a3 : α3) (a4 : α4) (a5 : α5) (a6 : α6) (a7 : α7) (h : P a1 a2 a3 a4 a5 a6 a7) : Ex7 P
inductive Ex8 {α1 α2 α3 α4 α5 α6 α7 α8 : Type} (P : α1 → α2 → α3 → α4 → α5 → α6 → α7 → α8 → Prop) : Prop where
  | mk (a1 : α1) (a2 : α2) (a3 : α3) (a4 : α4) (a5 : α5) (a6 : α6) (a7 : α7) (a8 : α8) (h : P a1 a2 a3 a4 a5 a6 a7 a8) : Ex8 P
inductive Ex10 {α1 α2 α3 α4 α5 α6 α7 α8 α9 α10 : Type} (P : α1 → α2 → α3 → α4 → α5 → α6 → α7 → α8 → α9 → α10 → Prop) : Prop where
  | mk (a1 : α1) (a2 : α2) (a3 : α3) (a4 : α4) (a5 : α5) (a6 : α6) (a7 : α7) (a8 : α8) (a9 : α9) (a10 : α10) (h : P a1 a2 a3 a4 a5 a6 a7 a8 a9 a10) : Ex10 P
inductive Ex11 {α1 α2 α3 α4 α5 α6 α7 α8 α9 α10 α11 : Type} (P : α1 → α2 → α3 → α4 → α5 → α6 → α7 → α8 → α9 → α10 → α11 → Prop) : Prop where
  | mk (a1 : α1) (a2 : α2) (a3 : α3) (a4 : α4) (a5 : α5) (a6 : α6) (a7 : α7) (a8 : α8) (a9 : α9) (a10 : α10) (a11 : α11) (h : P a1 a2 a3 a4 a5 a6 a7 a8 a9 a10 a11) : Ex11 P

structure Out (g h : Heap) (nw : List (Addr × Obj)) : Prop where
  keep : ∀ b o, g.get? b = some o → h.get? b = some o
  size : g.objs.size ≤ h.objs.size
  own : ∀ q ∈ nw, h.get? q.1 = some q.2 ∧ g.get? q.1 = none

theorem Out.of_fr {g h : Heap} {L : Addr} {m : Str → Option Value} {nw : List (Addr × Obj)} (F : Fr g L h m) (N : News g L h nw) : Out g h nw :=
  ⟨F.keep, Nat.le_of_lt (Nat.lt_of_le_of_lt F.above F.ns.lt), fun q hq => ⟨(N q hq).1, (N q hq).2.2⟩⟩

noncomputable def RetOK (g : Heap) (s : Shared) (R : Value → List (Addr × Obj) → Prop) (r : Result) (s' : Shared) : Prop := match r with
  | .ok (.ret v) => Ex3 fun h' tk' nw' => s' = { s with heap := h', toks := tk' } ∧ Out g h' nw' ∧ R v nw'
  | _ => False

noncomputable def Con (prog : Program) (w : World) (K : Frag) (p : Program) (loose : List Str) (mean : ExcName → Option Value) (mg mb : Str → Option Value)
    (d : Nat) (f : Value) (args : Args) (Pre : Heap → Prop) (nw : List (Addr × Obj)) (R : Value → List (Addr × Obj) → Prop) : Prop :=
  ∀ (dp un : Nat) (gd : Option (List Code)) (outer : List Env) (A₀ : Around) (base g : Heap) (s : Shared),
    Below A₀ base outer g → Out g s.heap nw → K.In g → Top p loose mean mg mb g → Pre g → dp + d < recursionLimit → un + 16 * d < cLine →
    codeAny (model prog w) { handled := none, depth := dp, frames := some outer, guards := gd, units := un } (.call f args) (RetOK g s R) s

/-- the end of a body -/
noncomputable def Fin (g : Heap) (s : Shared) (R : Value → List (Addr × Obj) → Prop) (v : Value) (s' : Shared) : Prop :=
  Ex5 fun L' m' nw' h' tk' => s' = { s with heap := h', toks := tk' } ∧ Fr g L' h' m' ∧ News g L' h' nw' ∧ R v nw'

section
variable {prog : Program} {w : World} {dp un : Nat} {gd : Option (List Code)} {s : Shared} {A₀ : Around} {base g : Heap} {outer : List Env} {nw : List (Addr × Obj)}
  {R : Value → List (Addr × Obj) → Prop} {name qual : Str} {params : Arguments} {body : List Stmt} {scope : Scope} {cl : List (Str × Addr)} {dV kV doc pm cdv ct : Value} {an : Option Addr} {fo : Obj} {f : Addr} {args : Args} {binds : List (Str × Value)}

theorem news_in {h h₁ : Heap} (O : Out g h nw) (k : ∀ b o, h.get? b = some o → h₁.get? b = some o) : News g h.objs.size h₁ nw := fun q hq =>
  ⟨k _ _ (O.own q hq).1, Nat.ne_of_lt (Heap.lt_size (O.own q hq).1), (O.own q hq).2⟩

theorem enter_plain (O : Out g s.heap nw) (hlim : g.NoLimit)
    (ho : s.heap.get? f = some fo) (hd : fo.data = .func (fnX name qual params body scope cl dV kV doc pm an cdv ct)) (hcd : s.heap.CodeRec cdv qual) (hroom : dp < recursionLimit)
    (hbind : BindsTo s (fnX name qual params body scope cl dV kV doc pm an cdv ct) args binds) (hloc : ∀ y ∈ binds, scope.names.lookup y.1 = some .local)
    (hcell : ∀ x ∈ scope.names, x.2 ≠ .cell) (hco : scope.isCoroutine = false) (hgen : scope.isGenerator = false) (hk : scope.kind = .function)
    (h : ∀ L' h₁, Fr g L' h₁ (fun y => binds.reverse.lookup y) → News g L' h₁ nw → (∀ q ∈ nw, q.1 < L') →
      wpAny (model prog w) (Around.deeper { handled := none, depth := dp, frames := some outer, guards := gd, units := un } (envX qual scope L' f cdv cl)) (execs body (envX qual scope L' f cdv cl))
        (fun fl s' => Fin g s R (match fl with | .ret v => v | _ => .none) s') (fun _ _ => False)
        { s with heap := h₁, toks := s.toks + binds.length }) :
    codeAny (model prog w) { handled := none, depth := dp, frames := some outer, guards := gd, units := un } (.call (.ref f) args) (RetOK g s R) s := by
  refine codeAny_call_def (fd := fnX name qual params body scope cl dV kV doc pm an cdv ct) (body := body) (binds := binds) hroom ho hd (hlim.keeps O.keep) hcd rfl hbind hcell hloc (fun h₁ hns hk₁ => ?_) hco hgen hk
  refine wpAny_mono (h s.heap.objs.size h₁ ⟨hns, fun b o e => hk₁ b o (O.keep b o e), O.size⟩ (news_in O hk₁) fun q hq => Heap.lt_size (O.own q hq).1) (fun fl s' hl => ?_) fun _ _ y => y.elim
  obtain ⟨L', m', nw', h', tk', e, F', N', hR⟩ := hl
  exact ⟨h', tk', nw', e, .of_fr F' N', hR⟩

theorem enter_cells (O : Out g s.heap nw) (hlim : g.NoLimit)
    (ho : s.heap.get? f = some fo) (hd : fo.data = .func (fnX name qual params body scope [] dV kV doc pm an cdv ct)) (hcd : s.heap.CodeRec cdv qual) (hroom : dp < recursionLimit)
    (hbind : BindsTo s (fnX name qual params body scope [] dV kV doc pm an cdv ct) args binds)
    (hkind : (binds.all fun y => scope.names.lookup y.1 == some .local || scope.names.lookup y.1 == some .cell) = true)
    (hnd : ((cellsFrom 0 scope.names []).map (·.1)).Nodup) (hco : scope.isCoroutine = false) (hgen : scope.isGenerator = false) (hk : scope.kind = .function)
    (h : ∀ L' h₁ tk cells, Fr g L' h₁ (bindL (envOfC qual scope L' f cdv).kindOf binds fun _ => none) → News g L' h₁ (cells ++ nw) →
      CellsAre (bindC (envOfC qual scope L' f cdv).kindOf binds fun _ => none) (cellsFrom (L' + 1) scope.names []) cells → (∀ q ∈ nw, q.1 < L') →
      wpAny (model prog w) (Around.deeper { handled := none, depth := dp, frames := some outer, guards := gd, units := un } (envOfC qual scope L' f cdv)) (execs body (envOfC qual scope L' f cdv))
        (fun fl s' => Fin g s R (match fl with | .ret v => v | _ => .none) s') (fun _ _ => False)
        { s with heap := h₁, toks := tk }) :
    codeAny (model prog w) { handled := none, depth := dp, frames := some outer, guards := gd, units := un } (.call (.ref f) args) (RetOK g s R) s := by
  refine codeAny_call_function hroom ho hd hco hgen rfl hcd (hbind _ _ _ _ ?_)
  refine wpAny_newFunctionEnv_cells hk (kindsX hkind _) fun env' he s' x => ?_
  subst he
  refine ⟨(hlim.keeps O.keep).keeps x.toInCall.keep, codeAny_func ?_⟩
  refine letGoal ?_
  intro Gz
  obtain ⟨h₁, tk, rfl, _⟩ := x.done
  dsimp only [Gz]
  clear Gz
  have hk₁ := x.toInCall.keep
  refine letGoal ?_
  intro Gz
  obtain ⟨cells, NC, Y⟩ := Cl.news (h₀ := s.heap) (Nat.le_refl _) fun n c hm => ⟨x.cell n c (lookup_of_mem_nodup (cellsFrom_names scope.names 0 (s.heap.objs.size + 1) [] [] rfl ▸ hnd) hm), x.above n c hm⟩
  dsimp only [Gz]
  clear Gz
  refine wpAny_mono (h s.heap.objs.size h₁ tk cells ⟨x.toInCall.ns, fun b o e => hk₁ b o (O.keep b o e), O.size⟩ (fun q hq => ?_) Y fun q hq => Heap.lt_size (O.own q hq).1) (fun fl s' hl => ?_) fun _ _ y => y.elim
  · rcases List.mem_append.mp hq with hq | hq
    · refine ⟨(NC q hq).1, (NC q hq).2.1, ?_⟩
      cases e : g.get? q.1 with
      | none => rfl
      | some o => have := O.keep _ _ e; rw [(NC q hq).2.2] at this; cases this
    · exact news_in O hk₁ q hq
  · refine letGoal ?_
    intro Gz
    obtain ⟨L', m', nw', h', tk', e, F', N', hR⟩ := hl
    dsimp only [Gz]
    clear Gz
    exact ⟨h', tk', nw', e, .of_fr F' N', hR⟩
end

/-- a contract at work in a def's body -/
theorem Con.code {prog : Program} {w : World} {K : Frag} {p : Program} {loose : List Str} {mean : ExcName → Option Value} {mg mb : Str → Option Value} {d : Nat} {f : Value} {pos : List Value} {kw : List (Str × Value)} {Pre : Heap → Prop} {nw : List (Addr × Obj)} {R : Value → List (Addr × Obj) → Prop}
    {A A₀ : Around} {dp un : Nat} {gd : Option (List Code)} {env : Env} {outer : List Env} {base h₀ : Heap} {L : Addr} {m : Str → Option Value} {s : Shared} {R' : Result → Shared → Prop} {all : List (Addr × Obj)}
    (C : Con prog w K p loose mean mg mb d f ⟨pos, kw⟩ Pre nw R) (rest : List (Addr × Obj))
    (B : Below A₀ base outer h₀) (F : Fr h₀ L s.heap m) (X : K.In h₀) (N : News h₀ L s.heap all) (T : Top p loose mean mg mb h₀)
    (hA : A = { handled := none, depth := dp, frames := some (env :: outer), guards := gd, units := un }) (hf : env.frame = some L) (hke : env.scope.kind = .function)
    (hd : dp + d < recursionLimit) (hu : un + 16 * d < cLine)
    (hsub : ∀ q ∈ nw, q ∈ all) (hrest : ∀ r ∈ rest, r ∈ all ∧ ∀ q ∈ nw, r.1 ≠ q.1)
    (hpre : Pre (hideAll s.heap (nw.map (·.1))))
    (hret : ∀ v h' tk' nw', Fr h₀ L h' m → News h₀ L h' (nw' ++ rest) → R v nw' → ((∀ b o, s.heap.get? b = some o → b ∉ nw.map (·.1) → h'.get? b = some o) ∧ ∀ q ∈ nw', ∀ r ∈ rest, q.1 ≠ r.1) → R' (.ok (.ret v)) { s with heap := h', toks := tk' }) :
    codeAny (model prog w) A (.call f ⟨pos, kw⟩) R' s := by
  subst hA
  have Nn : News h₀ L s.heap nw := fun q hq => N q (hsub q hq)
  refine letGoal ?_
  intro Gz
  obtain ⟨FG, BG, st, _⟩ := groundX (R := fun _ _ => True) B F Nn (A := { handled := none, depth := dp, frames := some (env :: outer), guards := gd, units := un }) rfl hf hke
  dsimp only [Gz]
  clear Gz
  have O : Out (hideAll s.heap (nw.map (·.1))) s.heap nw := ⟨fun b o e => of_hideAll _ e, Nat.le_of_eq (hideAll_size _ _), fun q hq => ⟨(Nn q hq).1, hideAll_none _ (List.mem_map_of_mem hq)⟩⟩
  refine (codeAny_mono (C dp un gd (env :: outer) _ base _ s BG O (Frag.In.keeps X st) (T.keeps st) hpre hd hu) (fun r s' h => ?_))
  cases r with
  | error e => exact h.elim
  | ok fl =>
  cases fl with
  | next => exact h.elim
  | brk => exact h.elim
  | cont => exact h.elim
  | ret v =>
  refine letGoal ?_
  intro Gz
  obtain ⟨h', tk', nw', rfl, O', hR⟩ := h
  dsimp only [Gz]
  clear Gz
  have key : ∀ b o, s.heap.get? b = some o → b ∉ nw.map (·.1) → h'.get? b = some o := fun b o e hb => O'.keep b o (hideAll_get _ e hb)
  have apart : ∀ q ∈ nw', ∀ r ∈ rest, q.1 ≠ r.1 := fun q hq r hr e => by
    have z := (O'.own q hq).2
    obtain ⟨h1, h2⟩ := hrest r hr
    have := hideAll_get (nw.map (·.1)) (N r h1).1 (fun hm => by
      obtain ⟨q', hq', e'⟩ := List.mem_map.mp hm
      exact h2 q' hq' e'.symm)
    rw [e] at z
    rw [z] at this; cases this
  refine letGoal ?_
  intro Gz
  obtain ⟨oL, es, ep, hL, hLd, hLk, hLf⟩ := F.ns
  dsimp only [Gz]
  clear Gz
  have nL : L ∉ nw.map (·.1) := fun q => by
    obtain ⟨q', hq', e⟩ := List.mem_map.mp q
    exact (Nn q' hq').2.1 e
  have nm : ∀ b o, h₀.get? b = some o → b ∉ nw.map (·.1) := fun b o e q => by
    obtain ⟨q', hq', rfl⟩ := List.mem_map.mp q
    rw [(Nn q' hq').2.2] at e; cases e
  refine hret v h' tk' nw' ⟨⟨oL, es, ep, key L oL hL nL, hLd, hLk, hLf⟩, fun b o e => key b o (F.keep b o e) (nm b o e), F.above⟩ (fun q hq => ?_) hR ⟨key, apart⟩
  rcases List.mem_append.mp hq with hq | hq
  · have z := O'.own q hq
    refine ⟨z.1, fun e => ?_, ?_⟩
    · have := hideAll_get (nw.map (·.1)) hL nL
      rw [← e, z.2] at this; cases this
    · cases e : h₀.get? q.1 with
      | none => rfl
      | some o => have := hideAll_get (nw.map (·.1)) (F.keep _ _ e) (nm _ _ e); rw [z.2] at this; cases this
  · obtain ⟨h1, h2⟩ := hrest q hq
    have z := N q h1
    refine ⟨key _ _ z.1 fun hm => ?_, z.2⟩
    obtain ⟨q', hq', e⟩ := List.mem_map.mp hm
    exact h2 q' hq' e.symm

theorem Con.use {prog : Program} {w : World} {K : Frag} {p : Program} {loose : List Str} {mean : ExcName → Option Value} {mg mb : Str → Option Value} {d : Nat} {f : Value} {pos : List Value} {kw : List (Str × Value)} {Pre : Heap → Prop} {nw : List (Addr × Obj)} {R : Value → List (Addr × Obj) → Prop}
    {A A₀ : Around} {dp un : Nat} {gd : Option (List Code)} {env : Env} {outer : List Env} {base h₀ : Heap} {L : Addr} {m : Str → Option Value} {s : Shared} {Q E : Value → Shared → Prop} {all : List (Addr × Obj)}
    (C : Con prog w K p loose mean mg mb d f ⟨pos, kw⟩ Pre nw R) (rest : List (Addr × Obj))
    (B : Below A₀ base outer h₀) (F : Fr h₀ L s.heap m) (X : K.In h₀) (N : News h₀ L s.heap all) (T : Top p loose mean mg mb h₀)
    (hA : A = { handled := none, depth := dp, frames := some (env :: outer), guards := gd, units := un }) (hf : env.frame = some L) (hke : env.scope.kind = .function)
    (hd : dp + d < recursionLimit) (hu : un + 16 * d < cLine)
    (hsub : ∀ q ∈ nw, q ∈ all) (hrest : ∀ r ∈ rest, r ∈ all ∧ ∀ q ∈ nw, r.1 ≠ q.1)
    (hpre : Pre (hideAll s.heap (nw.map (·.1))))
    (hret : ∀ v h' tk' nw', Fr h₀ L h' m → News h₀ L h' (nw' ++ rest) → R v nw' → ((∀ b o, s.heap.get? b = some o → b ∉ nw.map (·.1) → h'.get? b = some o) ∧ ∀ q ∈ nw', ∀ r ∈ rest, q.1 ≠ r.1) → Q v { s with heap := h', toks := tk' }) :
    wpAny (model prog w) A (call f pos kw) Q E s :=
  wpAny_call (C.code rest B F X N T hA hf hke hd hu hsub hrest hpre fun v h' tk' nw' F' N' r k => hret v h' tk' nw' F' N' r k)

section
variable {prog : Program} {w : World} {K : Frag} {p : Program} {loose : List Str} {mean : ExcName → Option Value} {mg mb : Str → Option Value} {dp un : Nat} {gd : Option (List Code)} {s : Shared} {A₀ : Around} {base g : Heap} {outer : List Env} {nw : List (Addr × Obj)}
  {R : Value → List (Addr × Obj) → Prop} {name qual : Str} {params : Arguments} {body : List Stmt} {scope : Scope} {dV kV doc pm cdv ct oc : Value} {an od : Option Addr} {osl : Array (Option Value)} {f : Addr} {args : Args} {binds : List (Str × Value)}
theorem enterK (O : Out g s.heap nw) (X : K.In g) (T : Top p loose mean mg mb g)
    (ho : K.lookup f = some ⟨oc, od, .func (fnOf name qual params body scope dV kV doc pm an cdv ct), osl⟩) (hcd : codeIn K cdv qual = true) (hroom : dp < recursionLimit)
    (hbind : BindsTo s (fnOf name qual params body scope dV kV doc pm an cdv ct) args binds) (hloc : ∀ y ∈ binds, scope.names.lookup y.1 = some .local)
    (hcell : ∀ x ∈ scope.names, x.2 ≠ .cell) (hco : scope.isCoroutine = false) (hgen : scope.isGenerator = false) (hk : scope.kind = .function)
    (h : ∀ L' h₁, Fr g L' h₁ (fun y => binds.reverse.lookup y) → News g L' h₁ nw → (∀ q ∈ nw, q.1 < L') →
      wpAny (model prog w) (Around.deeper { handled := none, depth := dp, frames := some outer, guards := gd, units := un } (envOf qual scope L' f cdv)) (execs body (envOf qual scope L' f cdv))
        (fun fl s' => Fin g s R (match fl with | .ret v => v | _ => .none) s') (fun _ _ => False)
        { s with heap := h₁, toks := s.toks + binds.length }) :
    codeAny (model prog w) { handled := none, depth := dp, frames := some outer, guards := gd, units := un } (.call (.ref f) args) (RetOK g s R) s :=
  enter_plain (cl := []) O T.nolimit (O.keep _ _ (X _ _ ho)) rfl ((codeRec_of X hcd).keeps O.keep) hroom hbind hloc hcell hco hgen hk h
theorem enterKC (O : Out g s.heap nw) (X : K.In g) (T : Top p loose mean mg mb g)
    (ho : K.lookup f = some ⟨oc, od, .func (fnOf name qual params body scope dV kV doc pm an cdv ct), osl⟩) (hcd : codeIn K cdv qual = true) (hroom : dp < recursionLimit)
    (hbind : BindsTo s (fnOf name qual params body scope dV kV doc pm an cdv ct) args binds)
    (hkind : (binds.all fun y => scope.names.lookup y.1 == some .local || scope.names.lookup y.1 == some .cell) = true)
    (hnd : ((cellsFrom 0 scope.names []).map (·.1)).Nodup) (hco : scope.isCoroutine = false) (hgen : scope.isGenerator = false) (hk : scope.kind = .function)
    (h : ∀ L' h₁ tk cells, Fr g L' h₁ (bindL (envOfC qual scope L' f cdv).kindOf binds fun _ => none) → News g L' h₁ (cells ++ nw) →
      CellsAre (bindC (envOfC qual scope L' f cdv).kindOf binds fun _ => none) (cellsFrom (L' + 1) scope.names []) cells → (∀ q ∈ nw, q.1 < L') →
      wpAny (model prog w) (Around.deeper { handled := none, depth := dp, frames := some outer, guards := gd, units := un } (envOfC qual scope L' f cdv)) (execs body (envOfC qual scope L' f cdv))
        (fun fl s' => Fin g s R (match fl with | .ret v => v | _ => .none) s') (fun _ _ => False)
        { s with heap := h₁, toks := tk }) :
    codeAny (model prog w) { handled := none, depth := dp, frames := some outer, guards := gd, units := un } (.call (.ref f) args) (RetOK g s R) s :=
  enter_cells O T.nolimit (O.keep _ _ (X _ _ ho)) rfl ((codeRec_of X hcd).keeps O.keep) hroom hbind hkind hnd hco hgen hk h
end
section
variable {prog : Program} {w : World} {K : Frag} {p : Program} {loose : List Str} {mean : ExcName → Option Value} {mg mb : Str → Option Value} {dp un : Nat} {gd : Option (List Code)} {s : Shared} {A₀ : Around} {base g : Heap} {outer : List Env} {nw : List (Addr × Obj)}
  {R : Value → List (Addr × Obj) → Prop} {name qual : Str} {params : Arguments} {body : List Stmt} {scope : Scope} {cl : List (Str × Addr)} {doc pm ctv : Value} {c' : Addr} {f : Addr} {oc : Obj} {vs : Array Value} {t : Tok} {args : Args} {binds : List (Str × Value)}
theorem enterN (O : Out g s.heap nw) (T : Top p loose mean mg mb g)
    (hm : (f, fnMade name qual params body scope cl doc pm c' ctv) ∈ nw) (hc : (c', oc) ∈ nw) (hdat : oc.data = .fields vs) (hq : vs[1]? = some (.str qual t)) (hroom : dp < recursionLimit)
    (hbind : BindsTo s (fnX name qual params body scope cl .none .none doc pm none (.ref c') ctv) args binds) (hloc : ∀ y ∈ binds, scope.names.lookup y.1 = some .local)
    (hcell : ∀ x ∈ scope.names, x.2 ≠ .cell) (hco : scope.isCoroutine = false) (hgen : scope.isGenerator = false) (hk : scope.kind = .function)
    (h : ∀ L' h₁, Fr g L' h₁ (fun y => binds.reverse.lookup y) → News g L' h₁ nw → (∀ q ∈ nw, q.1 < L') →
      wpAny (model prog w) (Around.deeper { handled := none, depth := dp, frames := some outer, guards := gd, units := un } (envX qual scope L' f (.ref c') cl)) (execs body (envX qual scope L' f (.ref c') cl))
        (fun fl s' => Fin g s R (match fl with | .ret v => v | _ => .none) s') (fun _ _ => False)
        { s with heap := h₁, toks := s.toks + binds.length }) :
    codeAny (model prog w) { handled := none, depth := dp, frames := some outer, guards := gd, units := un } (.call (.ref f) args) (RetOK g s R) s :=
  enter_plain O T.nolimit (O.own _ hm).1 rfl ⟨c', oc, vs, t, rfl, (O.own _ hc).1, hdat, hq⟩ hroom hbind hloc hcell hco hgen hk h
end
theorem fin_intro {g : Heap} {s : Shared} {R : Value → List (Addr × Obj) → Prop} {v : Value} {L' : Addr} {m' : Str → Option Value} {nw' : List (Addr × Obj)} {h' : Heap} {tk' : Nat}
    (F : Fr g L' h' m') (N : News g L' h' nw') (hR : R v nw') : Fin g s R v { s with heap := h', toks := tk' } := ⟨L', m', nw', h', tk', rfl, F, N, hR⟩
theorem fin_part {g : Heap} {s : Shared} {R : Value → List (Addr × Obj) → Prop} {v : Value} {L' : Addr} {m' : Str → Option Value} {nw' all : List (Addr × Obj)} {h' : Heap} {tk' : Nat}
    (F : Fr g L' h' m') (N : News g L' h' all) (hs : ∀ q ∈ nw', q ∈ all) (hR : R v nw') : Fin g s R v { s with heap := h', toks := tk' } := ⟨L', m', nw', h', tk', rfl, F, fun q hq => N q (hs q hq), hR⟩
theorem fin_tail {g : Heap} {s : Shared} {R : Value → List (Addr × Obj) → Prop} {v : Value} {L' : Addr} {m' : Str → Option Value} {q : Addr × Obj} {nw' : List (Addr × Obj)} {h' : Heap} {tk' : Nat}
    (F : Fr g L' h' m') (N : News g L' h' (q :: nw')) (hR : R v nw') : Fin g s R v { s with heap := h', toks := tk' } := ⟨L', m', nw', h', tk', rfl, F, fun q hq => N q (List.mem_cons_of_mem _ hq), hR⟩
/-- q taken out of a ledger -/
inductive Take (q : Addr × Obj) : List (Addr × Obj) → List (Addr × Obj) → Prop where
  | head {r : List (Addr × Obj)} : (∀ p ∈ r, p.1 ≠ q.1) → Take q (q :: r) r
  | tail {p : Addr × Obj} {r r' : List (Addr × Obj)} : p.1 ≠ q.1 → Take q r r' → Take q (p :: r) (p :: r')
theorem Take.mem {q : Addr × Obj} {l l' : List (Addr × Obj)} (h : Take q l l') : q ∈ l ∧ (∀ r ∈ l', r ∈ l ∧ r.1 ≠ q.1) := by
  induction h with
  | head h => exact ⟨.head _, fun r hr => ⟨.tail _ hr, h r hr⟩⟩
  | tail h _ ih => exact ⟨.tail _ ih.1, fun r hr => by
      rcases List.mem_cons.mp hr with rfl | hr
      · exact ⟨.head _, h⟩
      · exact ⟨.tail _ (ih.2 r hr).1, (ih.2 r hr).2⟩⟩
inductive Split : List (Addr × Obj) → List (Addr × Obj) → List (Addr × Obj) → Prop where
  | nil {l : List (Addr × Obj)} : Split [] l l
  | cons {q : Addr × Obj} {nw l l' r : List (Addr × Obj)} : Take q l l' → Split nw l' r → Split (q :: nw) l r
theorem Split.spec {nw l r : List (Addr × Obj)} (h : Split nw l r) : (∀ q ∈ nw, q ∈ l) ∧ ∀ x ∈ r, x ∈ l ∧ ∀ q ∈ nw, x.1 ≠ q.1 := by
  induction h with
  | nil => exact ⟨fun _ h => (nomatch h), fun x hx => ⟨hx, fun _ h => (nomatch h)⟩⟩
  | cons t _ ih =>
    refine ⟨fun q hq => ?_, fun x hx => ?_⟩
    · rcases List.mem_cons.mp hq with rfl | hq
      · exact t.mem.1
      · exact (t.mem.2 q (ih.1 q hq)).1
    · obtain ⟨h1, h2⟩ := ih.2 x hx
      refine ⟨(t.mem.2 x h1).1, fun q hq => ?_⟩
      rcases List.mem_cons.mp hq with rfl | hq
      · exact (t.mem.2 x h1).2
      · exact h2 q hq
theorem Con.useS {prog : Program} {w : World} {K : Frag} {p : Program} {loose : List Str} {mean : ExcName → Option Value} {mg mb : Str → Option Value} {d : Nat} {f : Value} {pos : List Value} {kw : List (Str × Value)} {Pre : Heap → Prop} {nw rest : List (Addr × Obj)} {R : Value → List (Addr × Obj) → Prop}
    {A A₀ : Around} {dp un : Nat} {gd : Option (List Code)} {env : Env} {outer : List Env} {base h₀ : Heap} {L : Addr} {m : Str → Option Value} {s : Shared} {Q E : Value → Shared → Prop} {all : List (Addr × Obj)}
    (C : Con prog w K p loose mean mg mb d f ⟨pos, kw⟩ Pre nw R)
    (B : Below A₀ base outer h₀) (F : Fr h₀ L s.heap m) (X : K.In h₀) (N : News h₀ L s.heap all) (T : Top p loose mean mg mb h₀)
    (hA : A = { handled := none, depth := dp, frames := some (env :: outer), guards := gd, units := un }) (hf : env.frame = some L) (hke : env.scope.kind = .function)
    (hd : dp + d < recursionLimit) (hu : un + 16 * d < cLine) (S : Split nw all rest)
    (hpre : Pre (hideAll s.heap (nw.map (·.1))))
    (hret : ∀ v h' tk' nw', Fr h₀ L h' m → News h₀ L h' (nw' ++ rest) → R v nw' → ((∀ b o, s.heap.get? b = some o → b ∉ nw.map (·.1) → h'.get? b = some o) ∧ ∀ q ∈ nw', ∀ r ∈ rest, q.1 ≠ r.1) → Q v { s with heap := h', toks := tk' }) :
    wpAny (model prog w) A (call f pos kw) Q E s := C.use rest B F X N T hA hf hke hd hu S.spec.1 S.spec.2 hpre hret
end Mine

end
section
open PySem PySem.W PyProof.Rows PySem.Calls PySem.Spec
set_option genInjectivity false
set_option genSizeOf false
set_option maxRecDepth 100000
namespace Mine

/-- values that are the one-sign texts of the given signs -/
inductive CharsAre : List Value → List Nat → Prop where
  | nil : CharsAre [] []
  | cons {vs : List Value} {cs : List Nat} (c : Nat) (t : Tok) : CharsAre vs cs → CharsAre (Value.str ⟨#[c]⟩ t :: vs) (c :: cs)
theorem CharsAre.length {vs : List Value} {cs : List Nat} (h : CharsAre vs cs) : vs.length = cs.length := by
  induction h with
  | nil => rfl
  | cons c t _ ih => simp [ih]
theorem CharsAre.of_get : ∀ {vs : List Value} {cs : List Nat}, vs.length = cs.length → (∀ (j : Nat) (v : Value), vs[j]? = some v → ∃ (c : Nat) (u : Tok), cs[j]? = some c ∧ v = Value.str ⟨#[c]⟩ u) → CharsAre vs cs
  | [], [], _, _ => .nil
  | v :: vs, [], hl, _ => by simp at hl
  | [], c :: cs, hl, _ => by simp at hl
  | v :: vs, c :: cs, hl, h => by
    obtain ⟨c', u, hc, rfl⟩ := h 0 v rfl
    cases hc
    exact .cons c u (CharsAre.of_get (by simpa using hl) fun j v hj => h (j + 1) v (by simpa using hj))

section
variable {prog : Program} {w : World} {A : Around} {E : Value → Shared → Prop} {s : Shared} {h₀ : Heap} {L : Addr} {m : Str → Option Value} {news : List (Addr × Obj)}

theorem list_str_led {x : Str} {t : Tok} {Q : Value → Shared → Prop} (hh : A.handled = none) (F : Fr h₀ L s.heap m) (N : News h₀ L s.heap news)
    (h : ∀ l vs c h' tk, Fr h₀ L h' m → News h₀ L h' ((l, listOf (List.toArray vs) c) :: news) → (∀ p ∈ news, p.1 < l) → CharsAre vs x.cps.toList → Q (.ref l) { s with heap := h', toks := tk }) (hsz : x.cps.size ≤ sizeLine) :
    wpAny (model prog w) A (call (.type "list") [.str x t]) Q E s := by
  refine call_list_str hh x t (hn := hsz) fun h' tk acc' c' hk hS' hacc => ?_
  refine h s.heap.objs.size acc'.toList c' h' tk (F.keeps hk) (fun p hp => ?_) (fun p hp => Heap.lt_size (N p hp).1) (.of_get (by simp [hacc.1]) fun j v hj => ?_)
  · rcases List.mem_cons.mp hp with rfl | hp
    · refine ⟨by simpa using hS', Nat.ne_of_gt F.ns.lt, ?_⟩
      cases e : h₀.get? s.heap.objs.size with
      | none => rfl
      | some o => exact absurd (Heap.lt_size (F.keep _ _ e)) (Nat.lt_irrefl _)
    · exact ⟨hk _ _ (N p hp).1, (N p hp).2⟩
  · obtain ⟨c, u, hc, e⟩ := hacc.2 j v (by simpa using hj)
    exact ⟨c, u, by simpa using hc, e⟩
end

theorem upd_list {h : Heap} {l : Addr} {items ys : Array Value} {n : Nat} {f : Array Value → Array Value} (ho : h.get? l = some (listOf items n)) (e : f items = ys) : ∃ n', (h.update l (Obj.mapSeq f)).get? l = some (listOf ys n') := by
  subst e
  exact ⟨_, Heap.get?_update_self _ ho rfl⟩
theorem kmk_drop_min' {α : Type} (l : List α) (a : Nat) : l.drop (min a l.length) = l.drop a := by
  by_cases h : a ≤ l.length
  · rw [Nat.min_eq_left h]
  · rw [Nat.min_eq_right (by (first | lia | omega)), List.drop_length, List.drop_eq_nil_of_le (by (first | lia | omega))]
theorem fm_drop {α : Type} (f : Nat → Bool) (b : Nat) (hf : ∀ k, f k = decide (k < b)) : ∀ (xs : List α) (i : Nat), (xs.zipIdx i).filterMap (fun x => if f x.2 = true then none else some x.1) = xs.drop (b - i)
  | [], i => by simp
  | x :: xs, i => by
    rw [List.zipIdx_cons, List.filterMap_cons]
    have ih := fm_drop f b hf xs (i + 1)
    by_cases h : i < b
    · rw [if_pos ((hf i).trans (decide_eq_true h)), show b - i = (b - (i + 1)) + 1 by (first | lia | omega), List.drop_succ_cons]
      exact ih
    · rw [if_neg (fun q => h (of_decide_eq_true ((hf i).symm.trans q))), Nat.sub_eq_zero_of_le (Nat.le_of_not_lt h), List.drop_zero]
      rw [Nat.sub_eq_zero_of_le (Nat.le_succ_of_le (Nat.le_of_not_lt h)), List.drop_zero] at ih
      exact congrArg (x :: ·) ih
section
variable {prog : Program} {w : World} {A : Around} {E : Value → Shared → Prop} {s : Shared}
theorem delItem_upto {l sl : Addr} {items : Array Value} {n : Nat} {b : Int} {t : Tok} {Q : Unit → Shared → Prop} (ho : s.heap.get? l = some (listOf items n))
    (hs : s.heap.IsSliceOf sl .none (.int b t) .none) (hb : 0 ≤ b)
    (h : ∀ h', (∃ n', h'.get? l = some (listOf (items.toList.drop b.toNat).toArray n')) → Heap.SameBut l s.heap h' → Q () { s with heap := h' })
    (hsz : items.size ≤ sizeLine) : wpAny (model prog w) A (delItem (.ref l) (.ref sl)) Q E s := by
  obtain ⟨os, hos, hcs, hds⟩ := id hs
  have hTs : s.TypeIs (.ref sl) "slice" := ⟨os, hos, hcs⟩
  have hT : s.TypeIs (.ref l) "list" := ⟨_, ho, rfl⟩
  refine wpAny_delItem_slot hT (by decide) F.slot_list_delitem (wpAny_call_entry F.slot_list_delitem hT F.entry_list_delitem ?_ (F.args_list_delitem_2 _ _))
  show wpAny _ _ (Builtin.List.listSubscript? (.ref sl) >>= _) _ _ s
  refine wpAny_bind ?_
  unfold Builtin.List.listSubscript?
  refine wpAny_bind (wpAny_specialOf hTs slice_no_index ?_)
  show wpAny _ _ (pure none) _ _ s
  refine wpAny_pure ?_
  show wpAny _ _ (typeOf (.ref sl) >>= _) _ _ s
  refine wpAny_bind (wpAny_typeOf hTs ?_)
  rw [if_neg (by decide)]
  rw [listSliceParts_eq]
  have e1 : listPart .none = pure .none := rfl
  refine wpAny_bind (wpAny_bind (wpAny_field hos hds (x := .none) rfl (wpAny_bind (wpAny_listPart .none ?_))))
  rw [if_neg (by decide)]
  refine wpAny_bind (wpAny_field hos hds (x := .none) rfl (wpAny_bind (wpAny_listPart .none ?_)))
  refine wpAny_bind (wpAny_field hos hds (x := .int b t) rfl (wpAny_bind (wpAny_listPart (.int b t) (wpAny_pure ?_))))
  refine wpAny_bind (m := Builtin.List.listItems (.ref l)) ?_
  unfold Builtin.List.listItems
  refine wpAny_bind (wpAny_seqItems ho rfl (wpAny_pure ?_))
  refine wpAny_bind (wpAny_of_eq (sliceIndices_raw none (some b) none items.size (by simp)) ?_)
  refine wpAny_bind (wpAny_rule ?_)
  have e : sliceBounds none (some b) none items.size = (0, ((min b.toNat items.size : Nat) : Int), 1) := by
    simp only [sliceBounds, Option.getD_none]
    simp only [show ¬ b < 0 by (first | lia | omega), if_false, show (1 : Int) > 0 by (first | lia | omega), if_true]
    congr 1
    congr 1
    (first | lia | omega)
  have key : ∀ (f : Int → Int → Int → Nat → Bool) (k : Nat), f (sliceBounds none (some b) none items.size).1 (sliceBounds none (some b) none items.size).2.1 (sliceBounds none (some b) none items.size).2.2 k = f 0 ((min b.toNat items.size : Nat) : Int) 1 k := fun f k => by rw [e]
  have hk : ∀ k : Nat, (decide ((0 : Int) ≤ (k : Int)) && decide ((k : Int) < ((min b.toNat items.size : Nat) : Int)) && (((k : Int) - 0) % 1 == 0)) = decide (k < min b.toNat items.size) := by
    intro k
    simp only [Int.emod_one, beq_self_eq_true, Bool.and_true]
    by_cases hk : k < min b.toNat items.size
    · simp only [hk, decide_true, Bool.and_eq_true, decide_eq_true_eq]; (first | lia | omega)
    · simp only [hk, decide_false, Bool.and_eq_false_iff, decide_eq_false_iff_not]; right; (first | lia | omega)
  have hd : ∀ f : Nat → Bool, (∀ k, f k = decide (k < min b.toNat items.size)) → (List.filterMap (fun x => if f x.2 = true then none else some x.1) items.toList.zipIdx).toArray = (items.toList.drop b.toNat).toArray := by
    intro f hf
    rw [show items.toList.zipIdx = items.toList.zipIdx 0 from rfl, fm_drop f _ hf]
    congr 1
    rw [Nat.sub_zero, show items.size = items.toList.length by simp]
    exact kmk_drop_min' _ _
  refine wpAny_bind (wpAny_updateSeq ho rfl (wpAny_bind (wpAny_letGo (wpAny_pure ⟨_, rfl, ?_⟩))) hsz ?_)
  · refine h _ ?_ (Heap.SameBut.update ..)
    exact upd_list ho (hd _ fun k => (key _ k).trans (hk k))
  · refine Nat.le_trans (Nat.le_of_eq (congrArg Array.size (hd _ fun k => (key _ k).trans (hk k)))) ?_
    simp; (first | lia | omega)
end

section
variable {prog : Program} {w : World} {A : Around} {E : Value → Shared → Prop} {s : Shared} {h₀ : Heap} {L : Addr} {m : Str → Option Value} {news : List (Addr × Obj)} {env : Env}
theorem exec_del_slice {o e : PySem.Expr} {p1 p2 p3 : Pos} {Q : Flow → Shared → Prop}
    (h : wpAny (model prog w) A (eval o env) (fun ov s1 => wpAny (model prog w) A (eval (.Slice none (some e) none p1) env) (fun iv s2 => wpAny (model prog w) A (delItem ov iv) (fun _ s3 => Q .next s3) E s2) E s1) E s) :
    wpAny (model prog w) A (exec (.Delete [.Subscript o (.Slice none (some e) none p1) p2] p3) env) Q E s := by
  show wpAny _ _ (standAt p3 >>= fun _ => (delete (.Subscript o (.Slice none (some e) none p1) p2) env >>= fun _ => pure ()) >>= fun _ => pure Flow.next) _ _ s
  refine wpAny_bind (wpAny_standAt (wpAny_bind (wpAny_bind ?_)))
  show wpAny _ _ (eval o env >>= fun ov => holding [ov] (eval (.Slice none (some e) none p1) env) >>= fun iv => standAt p2 >>= fun _ => holding [ov, iv] (delItem ov iv) >>= fun _ => release [ov, iv] []) _ _ s
  refine wpAny_bind (wpAny_mono h (fun ov s1 h1 => wpAny_bind (wpAny_holding (wpAny_mono h1 (fun iv s2 h2 => wpAny_bind (wpAny_standAt (wpAny_bind (wpAny_holding (wpAny_mono h2 (fun _ s3 h3 => ?_) fun _ _ x => x))))) fun _ _ x => x))) fun _ _ x => x)
  exact wpAny_release (wpAny_pure (wpAny_pure h3))

theorem del_led {l : Addr} {items : Array Value} {n : Nat} {b : Int} {t : Tok} {g : Obj → List (Addr × Obj)} {Q : Unit → Shared → Prop} (F : Fr h₀ L s.heap m) (N : News h₀ L s.heap news) (U : UpdF l (listOf items n) news g) (hb : 0 ≤ b)
    (h : ∀ h' n', Fr h₀ L h' m → News h₀ L h' (g (listOf (items.toList.drop b.toNat).toArray n')) → Q () { s with heap := h' }) (hsz : items.size ≤ sizeLine) :
    wpAny (model prog w) A (delItem (.ref l) (.ref s.heap.objs.size)) Q E { s with heap := s.heap.push { cls := .type "slice", data := .fields #[.none, .int b t, .none] } } := by
  refine letGoal ?_
  intro Gz
  obtain ⟨own, rest, rfl, hg, h1, h2⟩ := U.split
  dsimp only [Gz]
  clear Gz
  have F1 := F.push { cls := .type "slice", data := .fields #[.none, .int b t, .none] }
  have N1 : News h₀ L (s.heap.push { cls := .type "slice", data := .fields #[.none, .int b t, .none] }) (own ++ (l, listOf items n) :: rest) := N.grown fun _ _ e => Heap.get?_push_of_some _ e
  have hmem := N1 (l, listOf items n) (List.mem_append_right _ (.head _))
  refine delItem_upto hmem.1 (Heap.IsSliceOf.new ..) hb (fun h' hv hs => ?_) hsz
  obtain ⟨n', ho'⟩ := hv
  refine h h' n' ⟨F1.ns.sameBut hs (Ne.symm hmem.2.1), fun b ob e => (hs.2 b (fun q => ?_)).trans (F1.keep b ob e), F1.above⟩ (hg _ ▸ N1.setAt h1 h2 hs ho')
  rw [q, hmem.2.2] at e; cases e
end
section
variable {prog : Program} {w : World} {A : Around} {E : Value → Shared → Prop} {s : Shared} {h₀ : Heap} {L : Addr} {m : Str → Option Value} {news : List (Addr × Obj)} {value slice : PySem.Expr}
theorem slice_upto_led {l : Addr} {its : Array Value} {n : Nat} {b : Int} {t : Tok} {Q : Value → Shared → Prop} (F : Fr h₀ L s.heap m) (N : News h₀ L s.heap news) (hm : (l, listOf its n) ∈ news) (hb : 0 ≤ b)
    (h : ∀ D h', Fr h₀ L h' m → News h₀ L h' ((D, listOf (its.toList.take b.toNat).toArray 0) :: news) → (∀ p ∈ news, p.1 < D) → Q (.ref D) { s with heap := h' })
    (hs : subscripted slice false (.ref l) (.ref s.heap.objs.size) = operate [.ref s.heap.objs.size, .ref l] (getItem (.ref l) (.ref s.heap.objs.size))) (ht : ∀ r, letTemporaryGo value (.ref l) r = pure ()) (hz : its.size ≤ sizeLine) :
    wpAny (model prog w) A (subscriptTail value slice (.ref l) (.ref s.heap.objs.size)) Q E { s with heap := s.heap.push { cls := .type "slice", data := .fields #[.none, .int b t, .none] } } := by
  refine kmk_slice F N ⟨_, (N _ hm).1, rfl, _, rfl⟩ .none (.int b t) (fun D h' F' N' l1 => h D h' F' ?_ l1) hs ht hz
  have e : slicePick its none (some b) none = (its.toList.take b.toNat).toArray := by
    have := slicePick_upto' its b.toNat
    rwa [Int.toNat_of_nonneg hb] at this
  rw [← e]
  exact N'
theorem join_led {x : Str} {t : Tok} {l : Addr} {its : Array Value} {n : Nat} {ys : List Str} {Q : Value → Shared → Prop} (F : Fr h₀ L s.heap m) (N : News h₀ L s.heap news) (hm : (l, listOf its n) ∈ news) (hi : StrsAre its.toList ys)
    (hok : (ys.map (·.length)).sum + ys.length * x.length ≤ 16777216) (h : ∀ t' k, Fr h₀ L s.heap m → News h₀ L s.heap news → Q (.str (Txt.join x ys) t') { s with toks := k }) : wpAny (model prog w) A (call (.builtin "str.join") [.str x t, .ref l]) Q E s :=
  join_list ⟨_, (N _ hm).1, rfl, _, rfl⟩ hi hok fun t' k => h t' k F N
end
end Mine

end
section
open PySem PySem.W PyProof.Rows PySem.Calls PySem.Spec
set_option genInjectivity false
set_option genSizeOf false
set_option maxRecDepth 100000
namespace Mine
theorem slot_cit_next : Slot "callable_iterator" "__next__" "callable_iterator.__next__" :=
  .of (owner := "callable_iterator") (n := "__next__") (by rw [typeLookup_type, builtinLookup_eq_fast]; kernel_rfl) (by decide +kernel) (by decide +kernel) (by decide +kernel)
    (by first | exact .inl (by decide +kernel) | exact .inr (by decide +kernel)) (by rw [isSubtype_type]; kernel_rfl)
theorem slot_cit_iter : Slot "callable_iterator" "__iter__" "callable_iterator.__iter__" :=
  .of (owner := "callable_iterator") (n := "__iter__") (by rw [typeLookup_type, builtinLookup_eq_fast]; kernel_rfl) (by decide +kernel) (by decide +kernel) (by decide +kernel)
    (by first | exact .inl (by decide +kernel) | exact .inr (by decide +kernel)) (by rw [isSubtype_type]; kernel_rfl)
theorem entry_cit_next : entryFor table "callable_iterator.__next__" = some Builtin.«callable_iterator.__next__» := entryFor_of_tree (by kernel_rfl)
theorem entry_cit_iter : entryFor table "callable_iterator.__iter__" = some Builtin.«dict_keyiterator.__iter__» :=
  entryFor_alias (id' := "dict_keyiterator.__iter__") (by kernel_rfl) rfl (by decide +kernel) (by kernel_rfl)
theorem args_cit_next (a : Value) : argsOk "callable_iterator.__next__" ⟨[a], []⟩ := by unfold argsOk; kernel_rfl
theorem args_cit_iter (a : Value) : argsOk "callable_iterator.__iter__" ⟨[a], []⟩ := by unfold argsOk; kernel_rfl

noncomputable abbrev cit (f sent : Value) (b : Bool) : Obj := { cls := .type "callable_iterator", data := .fields #[f, sent, .bool b] }

section
variable {prog : Program} {w : World} {A : Around} {E : Value → Shared → Prop} {s : Shared}

theorem stop_here {Q : Option Value → Shared → Prop} {α : Type} {P : α → Shared → Prop} (hh : A.handled = none)
    (h : ∀ h', (∀ b o, s.heap.get? b = some o → h'.get? b = some o) → Q none { s with heap := h' }) :
    wpAny (model prog w) A.in1 (do raiseNew (← newExc (.type "StopIteration") []) : Sem α) P (fun e s' => wpAny (model prog w) A (do if ← isInstance e (.type "StopIteration") then pure none else throw e) Q E s') s := by
  show wpAny _ _ (newExc (.type "StopIteration") [] >>= _) _ _ _
  refine wpAny_bind ?_
  simp only [newExc, newTuple]
  refine wpAny_bind (wpAny_newObj_type ?_ (by size_fits))
  refine wpAny_bind (m := firstArgMember _ _) (wpAny_of_eq (a := Value.none) (by first | rfl | (simp only [firstArgMember]; rfl)) ?_)
  refine wpAny_newObj_type ?_ (by size_fits)
  simp only [raiseNew]
  refine wpAny_bind (wpAny_handled ?_)
  rw [show A.in1.handled = none from hh]
  refine wpAny_bind (wpAny_pure (wpAny_throw ?_))
  refine wpAny_bind (wpAny_isInstance (T := "StopIteration") (b := true) ⟨_, Heap.get?_push_size _ rfl, rfl⟩ isSubtype_stop ?_)
  exact wpAny_pure (h _ fun b o e => Heap.get?_push_of_some _ (Heap.get?_push_of_some _ e))

theorem pyIter_cit {it : Addr} {f sent : Value} {b : Bool} {Q : Value → Shared → Prop} (ho : s.heap.get? it = some (cit f sent b)) (h : Q (.ref it) s) : wpAny (model prog w) A (pyIter (.ref it)) Q E s := by
  have hT : s.TypeIs (.ref it) "callable_iterator" := ⟨_, ho, rfl⟩
  refine wpAny_pyIter_slot hT slot_cit_iter (wpAny_call_entry slot_cit_iter hT entry_cit_iter ?_ (args_cit_iter _))
  show wpAny _ _ (ret (.ref it)) _ _ s
  exact wpAny_pure ⟨_, rfl, "callable_iterator", _, hT, slot_cit_next.lookup, h⟩

/-- behind the end -/
theorem next_cit_over {it : Addr} {f sent : Value} {Q : Option Value → Shared → Prop} (hh : A.handled = none) (ho : s.heap.get? it = some (cit f sent true))
    (h : ∀ h', (∀ b o, s.heap.get? b = some o → h'.get? b = some o) → Q none { s with heap := h' }) : wpAny (model prog w) A (pyNext (.ref it)) Q E s := by
  have hT : s.TypeIs (.ref it) "callable_iterator" := ⟨_, ho, rfl⟩
  unfold pyNext
  refine wpAny_bind (wpAny_attempt (wpAny_callSpecial?_slot (name := Str.ofString "__next__") hT slot_cit_next
    (wpAny_call_entry slot_cit_next hT entry_cit_next ?_ (args_cit_next _))))
  show wpAny _ _ (field (.ref it) 2 >>= _) _ _ s
  refine wpAny_bind (wpAny_field ho rfl (x := .bool true) rfl ?_)
  rw [if_pos (by decide)]
  refine wpAny_bind (wpAny_rule ?_)
  exact wpAny_bind (stop_here hh h)

theorem next_cit {it mth fa : Addr} {self : Value} {fo : Obj} {fd : FuncData} {te : Tok} {Q : Option Value → Shared → Prop} (hh : A.handled = none) (ho : s.heap.get? it = some (cit (.ref mth) (.str Str.empty te) false))
    (hm : s.heap.get? mth = some (methodObj (.ref fa) self)) (hf : s.heap.get? fa = some fo) (hfd : fo.data = .func fd)
    (hc : codeAny (model prog w) A.in1 (.call (.ref fa) ⟨[self], []⟩) (fun r s' => match r with
      | .ok (.ret v) => Ex2 fun c tc => v = .str c tc ∧ s'.heap.get? it = some (cit (.ref mth) (.str Str.empty te) false) ∧ s'.heap.get? mth = some (methodObj (.ref fa) self) ∧ s'.heap.get? fa = some fo ∧
          (c = Str.empty → ∀ h', h'.get? it = some (cit .none .none true) → (∀ b o, b ≠ it → s'.heap.get? b = some o → h'.get? b = some o) → Q none { s' with heap := h' }) ∧
          (c ≠ Str.empty → Q (some (.str c tc)) s')
      | _ => False) s) : wpAny (model prog w) A (pyNext (.ref it)) Q E s := by
  have hT : s.TypeIs (.ref it) "callable_iterator" := ⟨_, ho, rfl⟩
  unfold pyNext
  refine wpAny_bind (wpAny_attempt (wpAny_callSpecial?_slot (name := Str.ofString "__next__") hT slot_cit_next
    (wpAny_call_entry slot_cit_next hT entry_cit_next ?_ (args_cit_next _))))
  show wpAny _ _ (field (.ref it) 2 >>= _) _ _ s
  refine wpAny_bind (wpAny_field ho rfl (x := .bool false) rfl ?_)
  rw [if_neg (by decide)]
  have borrows : ∀ {s₁ : Shared} {E₁ : Value → Shared → Prop} {P : Bool → Shared → Prop}, s₁.heap.get? mth = some (methodObj (.ref fa) self) → s₁.heap.get? fa = some fo → P true s₁ → wpAny (model prog w) A.in1 (borrowsExactly (.ref mth)) P E₁ s₁ := by
    intro s₁ E₁ P h1 h2 h3
    unfold borrowsExactly
    refine wpAny_bind (wpAny_load h1 ?_)
    dsimp only [methodObj]
    rw [if_pos (by decide)]
    show wpAny _ _ (load fa >>= _) _ _ _
    refine wpAny_bind (wpAny_load h2 ?_)
    rw [hfd]
    exact wpAny_pure h3
  show wpAny _ _ (field (.ref it) 0 >>= _) _ _ s
  refine wpAny_bind (wpAny_field ho rfl (x := .ref mth) rfl ?_)
  refine wpAny_bind (wpAny_attempt ?_)
  unfold callOutOfASlot
  refine wpAny_bind (borrows hm hf ?_)
  rw [if_pos rfl]
  unfold callBorrowed
  refine X.x_call (hc := ?_) (hnb := by intro x; cases x)
  show codeAny _ A.in1 _ _ _
  refine method_call hm (codeAny_mono hc fun r s' hr => ?_)
  cases r with
  | error e => exact hr.elim
  | ok fl =>
  cases fl with
  | next => exact hr.elim
  | brk => exact hr.elim
  | cont => exact hr.elim
  | ret v =>
  refine letGoal ?_
  intro Gz
  obtain ⟨c, tc, rfl, ho', hm', hf', hend, hgo⟩ := hr
  dsimp only [Gz]
  clear Gz
  refine wpAny_pure ?_
  show wpAny _ _ (field (.ref it) 2 >>= _) _ _ s'
  refine wpAny_bind (wpAny_field ho' rfl (x := .bool false) rfl ?_)
  rw [if_neg (by decide)]
  show wpAny _ _ (field (.ref it) 1 >>= _) _ _ s'
  refine wpAny_bind (wpAny_field ho' rfl (x := .str Str.empty te) rfl ?_)
  refine wpAny_bind (wpAny_holding (wpAny_eqBool_str ?_))
  by_cases hce : c = Str.empty
  · subst hce
    rw [decide_eq_true rfl]
    rw [if_neg (by decide)]
    refine wpAny_bind (wpAny_rule (wpAny_bind ?_))
    show wpAny _ _ (field (.ref it) 0 >>= _) _ _ s'
    refine wpAny_bind (wpAny_field ho' rfl (x := .ref mth) rfl ?_)
    refine wpAny_bind ?_
    unfold slotLetsGo
    show wpAny _ _ (borrowsExactly (.ref mth) >>= _) _ _ s'
    refine wpAny_bind (borrows hm' hf' ?_)
    rw [if_pos rfl]
    refine wpAny_pure ?_
    refine wpAny_bind (wpAny_setField_rec ho' (by simp) fun h1 g1 k1 => ?_)
    refine wpAny_bind (wpAny_setField_rec g1 (by simp) fun h2 g2 k2 => ?_)
    refine wpAny_setField_rec g2 (by simp) fun h3 g3 k3 => ?_
    refine stop_here hh fun h4 k4 => ?_
    exact hend rfl h4 (k4 _ _ g3) fun b o hb e => k4 b o ((k3.2 b hb).trans ((k2.2 b hb).trans ((k1.2 b hb).trans e)))
  · rw [decide_eq_false (fun e => hce e.symm)]
    rw [if_pos (by decide)]
    refine wpAny_bind (wpAny_pure (wpAny_pure ⟨_, rfl, wpAny_pure (hgo hce)⟩))
end

/-! iter(f, sentinel) -/
theorem args_iter2 (a b : Value) : argsOk "iter" ⟨[a, b], []⟩ := by unfold argsOk; kernel_rfl
theorem method_callable : typeLookup (.type "method") "__call__" = pure (some (.builtin "method.__call__")) := by rw [typeLookup_type, builtinLookup_eq_fast]; kernel_rfl
section
variable {prog : Program} {w : World} {A : Around} {E : Value → Shared → Prop} {s : Shared} {h₀ : Heap} {L : Addr} {m : Str → Option Value} {news : List (Addr × Obj)}
theorem iter2_led {q : Addr} {f self : Value} {x : Str} {t : Tok} {Q : Value → Shared → Prop} (F : Fr h₀ L s.heap m) (N : News h₀ L s.heap news) (hq : (q, methodObj f self) ∈ news)
    (h : ∀ it h', Fr h₀ L h' m → News h₀ L h' ((it, cit (.ref q) (.str x t) false) :: news) → (∀ p ∈ news, p.1 < it) → Q (.ref it) { s with heap := h' }) :
    wpAny (model prog w) A (call (.builtin "iter") [.ref q, .str x t]) Q E s := by
  have hT : s.TypeIs (.ref q) "method" := ⟨_, (N _ hq).1, rfl⟩
  refine Calls.call_function_entry (by decide +kernel) (by decide +kernel) kdk_entry_iter (args_iter2 _ _) ?_
  unfold Builtin.«iter»
  refine wpAny_bind (m := someArgs "iter" 1 2 _) (wpAny_of_eq (a := [Value.ref q, .str x t]) (by first | rfl | kernel_rfl!) ?_)
  dsimp only
  refine wpAny_bind (wpAny_specialOf hT method_callable ?_)
  rw [if_neg (by decide)]
  refine wpAny_bind (wpAny_rule (wpAny_bind ?_))
  refine wpAny_newObj_type ?_ (by size_fits)
  exact wpAny_pure ⟨_, rfl, h _ _ (F.push _) (N.push F _) fun p hp => Heap.lt_size (N p hp).1⟩
end
/-! loops -/
noncomputable def Fl (Q : Flow → Shared → Prop) (r : Result) (s' : Shared) : Prop := match r with | .ok f => Q f s' | .error _ => False
noncomputable def LoopEnd (g : Heap) (L : Addr) (s : Shared) (I : Nat → (Str → Option Value) → List (Addr × Obj) → Prop) (n : Nat) (Q : Flow → Shared → Prop) (f : Flow) (s' : Shared) : Prop := match f with
  | .brk => Q .next s'
  | .ret v => Q (.ret v) s'
  | _ => Ex5 fun k m' nw' h' tk' => k < n ∧ s' = { s with heap := h', toks := tk' } ∧ Fr g L h' m' ∧ News g L h' nw' ∧ I k m' nw'
theorem loop_next {g : Heap} {L : Addr} {s : Shared} {I : Nat → (Str → Option Value) → List (Addr × Obj) → Prop} {n k : Nat} {Q : Flow → Shared → Prop} {m' : Str → Option Value} {nw' : List (Addr × Obj)} {h' : Heap} {tk' : Nat}
    (F : Fr g L h' m') (N : News g L h' nw') (hk : k < n) (hI : I k m' nw') : LoopEnd g L s I n Q .next { s with heap := h', toks := tk' } := ⟨k, m', nw', h', tk', hk, rfl, F, N, hI⟩
theorem loop_cont {g : Heap} {L : Addr} {s : Shared} {I : Nat → (Str → Option Value) → List (Addr × Obj) → Prop} {n k : Nat} {Q : Flow → Shared → Prop} {m' : Str → Option Value} {nw' : List (Addr × Obj)} {h' : Heap} {tk' : Nat}
    (F : Fr g L h' m') (N : News g L h' nw') (hk : k < n) (hI : I k m' nw') : LoopEnd g L s I n Q .cont { s with heap := h', toks := tk' } := ⟨k, m', nw', h', tk', hk, rfl, F, N, hI⟩
section
variable {prog : Program} {w : World} {A : Around} {E : Value → Shared → Prop} {s : Shared} {env : Env}
theorem for_stmt {target iter : PySem.Expr} {body : List Stmt} {pos : Pos} {Q : Flow → Shared → Prop} (hs : ∀ x, foldedSetIterable iter env x = pure x)
    (h : wpAny (model prog w) A (eval iter env) (fun x s1 => wpAny (model prog w) A (pyIter x) (fun it s2 => codeAny (model prog w) A (.forLoop target it body [] env) (Fl Q) s2) E s1) E s) :
    wpAny (model prog w) A (exec (.For target iter body [] pos) env) Q E s := by
  show wpAny _ _ (standAt pos >>= fun _ => eval iter env >>= fun x0 => foldedSetIterable iter env x0 >>= fun x => standAt iter.pos >>= fun _ => holding [x] (pyIter x) >>= fun it => runOwn (.forLoop target it body [] env) env) _ _ s
  refine wpAny_bind (wpAny_standAt (wpAny_bind (wpAny_mono h (fun x s1 h1 => ?_) fun _ _ e => e)))
  refine wpAny_bind (wpAny_of_eq (hs x) (wpAny_bind (wpAny_standAt (wpAny_bind (wpAny_holding (wpAny_mono h1 (fun it s2 h2 => ?_) fun _ _ e => e))))))
  unfold runOwn
  refine wpAny_onRaise (wpAny_run (codeAny_mono h2 fun r s' hr => ?_))
  cases r with
  | ok f => exact hr
  | error e => exact hr.elim
theorem loop_led {target : PySem.Expr} {it : Value} {body : List Stmt} {g : Heap} {m : Str → Option Value} {nw : List (Addr × Obj)} {Q : Flow → Shared → Prop} (I : Nat → (Str → Option Value) → List (Addr × Obj) → Prop) (n : Nat)
    (F : Fr g env.locals s.heap m) (N : News g env.locals s.heap nw) (h0 : I n m nw)
    (turn : ∀ n m nw h tk, Fr g env.locals h m → News g env.locals h nw → I n m nw → wpAny (model prog w) A (pyNext it) (fun r s1 => match r with
      | none => Q .next s1
      | some v => wpAny (model prog w) A (letOwnedTupleGo target it v) (fun _ s1' => wpAny (model prog w) A (assign target env v) (fun _ s2 => wpAny (model prog w) A (execs body env) (LoopEnd g env.locals s I n Q) (fun _ _ => False) s2) (fun _ _ => False) s1') (fun _ _ => False) s1)
      (fun _ _ => False) { s with heap := h, toks := tk }) : codeAny (model prog w) A (.forLoop target it body [] env) (Fl Q) s := by
  refine codeAny_forLoop_any (fun n s' => Ex4 fun m nw h tk => s' = { s with heap := h, toks := tk } ∧ Fr g env.locals h m ∧ News g env.locals h nw ∧ I n m nw) (fun n s' hI => ?_) n ⟨m, nw, s.heap, s.toks, rfl, F, N, h0⟩
  refine letGoal ?_
  intro Gz
  obtain ⟨m, nw, h, tk, rfl, F, N, hI⟩ := hI
  dsimp only [Gz]
  clear Gz
  refine wpAny_mono (turn n m nw h tk F N hI) (fun r s1 h1 => ?_) fun _ _ e => e.elim
  cases r with
  | none => exact wpAny_pure h1
  | some v =>
    refine wpAny_mono h1 (fun _ s1' h2 => wpAny_mono h2 (fun _ s2 h3 => wpAny_mono h3 (fun f s3 h4 => ?_) fun _ _ e => e.elim) fun _ _ e => e.elim) fun _ _ e => e.elim
    cases f with
    | next => obtain ⟨k, m', nw', h', tk', hk, rfl, F', N', hI'⟩ := h4; exact ⟨k, hk, m', nw', h', tk', rfl, F', N', hI'⟩
    | cont => obtain ⟨k, m', nw', h', tk', hk, rfl, F', N', hI'⟩ := h4; exact ⟨k, hk, m', nw', h', tk', rfl, F', N', hI'⟩
    | brk => exact h4
    | ret v => exact h4
end
noncomputable def Stop (P : Prop) : Prop := P
theorem stopI {P : Prop} (h : Stop P) : P := h
section
variable {α : Type} {q : α} {P H T Z : List α}
theorem memIns (h : q ∈ P ++ T) : q ∈ P ++ (H ++ T) := (List.mem_append.mp h).elim (fun h => List.mem_append_left _ h) fun h => List.mem_append_right _ (List.mem_append_right _ h)
theorem memComm (h : q ∈ P ++ T) : q ∈ T ++ P := (List.mem_append.mp h).elim (fun h => List.mem_append_right _ h) fun h => List.mem_append_left _ h
theorem memUnder (f : q ∈ P → q ∈ T) (h : q ∈ H ++ P) : q ∈ H ++ T := (List.mem_append.mp h).elim (fun h => List.mem_append_left _ h) fun h => List.mem_append_right _ (f h)
theorem memSw (h : q ∈ P ++ (H ++ T)) : q ∈ H ++ (P ++ T) := (List.mem_append.mp h).elim (fun h => List.mem_append_right _ (List.mem_append_left _ h)) fun h => memUnder (fun h => List.mem_append_right _ h) h
theorem memB (h : q ∈ P ++ (H ++ Z)) : q ∈ (P ++ Z) ++ H := memComm (memSw h)
theorem memRev3 (h : q ∈ P ++ (H ++ (Z ++ T))) : q ∈ Z ++ (H ++ (P ++ T)) := memUnder memSw (memSw (memUnder memSw h))
theorem memLast {d : α} (h : q ∈ P ++ (H ++ (T ++ [d]))) : q ∈ d :: (P ++ (H ++ T)) := memSw (H := [d]) (memUnder (fun h => memSw (H := [d]) (memUnder (fun h => memComm h) h)) h)
end
theorem haltN {M : Model} {A : Around} {E : Value → Shared → Prop} {l : List Stmt} {env : Env} {Q : Flow → Shared → Prop} {s : Shared} (n : Nat) (e : l.length = n) (h : Stop (wpAny M A (execs l env) Q E s)) : wpAny M A (execs l env) Q E s := h
theorem haltC {M : Model} {A : Around} {E : Value → Shared → Prop} {a : List Value} {k : List (Str × Value)} {Q : Value → Shared → Prop} {s : Shared} (n : Addr) (h : Stop (wpAny M A (call (.ref n) a k) Q E s)) : wpAny M A (call (.ref n) a k) Q E s := h
theorem Fr.up {g h h' : Heap} {L : Addr} {m : Str → Option Value} (F : Fr g L h m) (k : ∀ b o, h.get? b = some o → h'.get? b = some o) : Fr g L h' m :=
  ⟨F.ns.at' fun o e => k _ _ e, fun b o e => k b o (F.keep b o e), F.above⟩
theorem News.up {g h h' : Heap} {L : Addr} {nw : List (Addr × Obj)} (N : News g L h nw) (k : ∀ b o, h.get? b = some o → h'.get? b = some o) : News g L h' nw :=
  fun q hq => ⟨k _ _ (N q hq).1, (N q hq).2⟩
theorem next_over {prog : Program} {w : World} {A : Around} {E : Value → Shared → Prop} {s : Shared} {it L : Addr} {f sent : Value} {g : Heap} {m : Str → Option Value} {nw : List (Addr × Obj)} {Q : Option Value → Shared → Prop} (hh : A.handled = none)
    (F : Fr g L s.heap m) (N : News g L s.heap nw) (hm : (it, cit f sent true) ∈ nw) (h : ∀ h', Fr g L h' m → News g L h' nw → Q none { s with heap := h' }) : wpAny (model prog w) A (pyNext (.ref it)) Q E s :=
  next_cit_over hh (N _ hm).1 fun h' k => h h' (Fr.up F k) (News.up N k)
end Mine

end
section
open PySem PySem.W PyProof.Rows PySem.Calls PySem.Spec
set_option genInjectivity false
set_option genSizeOf false
set_option maxRecDepth 100000
namespace Mine
noncomputable def Lit (l : Addr) (i : Nat) (o : Obj) : Prop := o.cls = .type "list_iterator" ∧ o.data = .fields #[.ref l, .int i 0]
section
variable {prog : Program} {w : World} {A : Around} {E : Value → Shared → Prop} {s : Shared} {g : Heap} {L l : Addr} {m : Str → Option Value} {nw : List (Addr × Obj)} {its : Array Value} {n : Nat}
theorem iter_led {Q : Value → Shared → Prop} (F : Fr g L s.heap m) (N : News g L s.heap nw) (hm : (l, listOf its n) ∈ nw)
    (h : ∀ I oI h', Lit l 0 oI → Fr g L h' m → News g L h' ((I, oI) :: nw) → (∀ p ∈ nw, p.1 < I) → Q (.ref I) { s with heap := h' }) : wpAny (model prog w) A (pyIter (.ref l)) Q E s := by
  refine wpAny_pyIter_list ⟨_, (N _ hm).1, rfl, _, rfl⟩ ?_
  refine h _ _ _ (show Lit l 0 { cls := .type "list_iterator", data := .fields #[.ref l, .int 0 0] } from ⟨rfl, rfl⟩) (F.push _) (fun p hp => ?_) fun p hp => Heap.lt_size (N p hp).1
  rcases List.mem_cons.mp hp with rfl | hp
  · refine ⟨Heap.get?_push_size _ rfl, ?_, ?_⟩
    · exact (Nat.ne_of_lt F.ns.lt).symm
    · cases e : g.get? s.heap.objs.size with
      | none => rfl
      | some o => exact absurd (Heap.lt_size (F.keep _ _ e)) (Nat.lt_irrefl _)
  · exact ⟨Heap.get?_push_of_some _ (N p hp).1, (N p hp).2⟩
/-- a turn's end over a list -/
noncomputable def ListEnd (g : Heap) (L : Addr) (s : Shared) (I : Addr) (oI : Obj) (J : (Str → Option Value) → List (Addr × Obj) → Prop) (Q : Flow → Shared → Prop) (f : Flow) (s' : Shared) : Prop := match f with
  | .brk => Q .next s'
  | .ret v => Q (.ret v) s'
  | _ => Ex4 fun m' nw' h' tk' => s' = { s with heap := h', toks := tk' } ∧ Fr g L h' m' ∧ News g L h' ((I, oI) :: nw') ∧ (∀ p ∈ nw', p.1 ≠ I) ∧ J m' nw'
theorem list_next {I : Addr} {oI : Obj} {J : (Str → Option Value) → List (Addr × Obj) → Prop} {Q : Flow → Shared → Prop} {h' : Heap} {tk' : Nat} (F : Fr g L h' m) (N : News g L h' ((I, oI) :: nw)) (off : ∀ p ∈ nw, p.1 ≠ I) (hJ : J m nw) :
    ListEnd g L s I oI J Q .next { s with heap := h', toks := tk' } := ⟨m, nw, h', tk', rfl, F, N, off, hJ⟩
theorem go_name {x : Str} {px : Pos} (s : Shared) (Q : Unit → Shared → Prop) (E : Value → Shared → Prop) (I : Addr) (v : Value) (h : Q () s) : wpAny (model prog w) A (letOwnedTupleGo (.Name x px) (.ref I) v) Q E s := by
  show wpAny _ _ (pure ()) _ _ _
  exact wpAny_pure h
theorem Fr.store {h h' : Heap} {v : Value} {x : Str} (F : Fr g L h m) (hn : h'.Ns L (fun y => if y = x then some v else m y)) (hs : Heap.SameBut L h h') : Fr g L h' (fun y => if y = x then some v else m y) :=
  ⟨hn, fun b o e => hs.extBut b o (fun q => by
    have := Heap.lt_size e
    have h2 := F.above
    rw [q] at this
    exact absurd this (Nat.not_lt.mpr h2)) (F.keep b o e), F.above⟩
theorem News.store {h h' : Heap} (N : News g L h nw) (hs : Heap.SameBut L h h') : News g L h' nw := fun q hq => ⟨hs.extBut _ _ (N q hq).2.1 (N q hq).1, (N q hq).2⟩
theorem assign_pair {env : Env} {k v : Str} {p1 p2 pos : Pos} {x1} {T : Addr} {a b : Value} {Q : Unit → Shared → Prop} (hh : A.handled = none) (F : Fr g env.locals s.heap m) (N : News g env.locals s.heap nw) (ht : s.heap.IsTuple T #[a, b])
    (hk : env.kindOf k = some .local) (hv : env.kindOf v = some .local) (hp : (env.scope.kind == .class || (env.scope.kind == .module && env.locals != env.globals)) = false)
    (h : ∀ h' tk', Fr g env.locals h' (fun y => if y = v then some b else if y = k then some a else m y) → News g env.locals h' nw → Q () { s with heap := h', toks := tk' }) :
    wpAny (model prog w) A (assign (.Tuple [.Name k p1, .Name v p2] x1 pos) env (.ref T)) Q E s := by
  refine wpAny_assign_Tuple hh ht rfl rfl fun h1 e1 => ?_
  have k1 : ∀ b o, s.heap.get? b = some o → h1.get? b = some o := fun b o e => e1 b o (Nat.ne_of_lt (Heap.lt_size e)) e
  have F1 := Mine.Fr.up F k1
  have N1 := Mine.News.up N k1
  refine assignInOrder_cons (wpAny_assign_Name (wpAny_storeName_local hk F1.ns (fun h2 n2 s2 => ?_) hp))
  have F2 := Mine.Fr.store F1 n2 s2
  have N2 := Mine.News.store N1 s2
  refine assignInOrder_cons (wpAny_assign_Name (wpAny_storeName_local hv F2.ns (fun h3 n3 s3 => ?_) hp))
  exact assignInOrder_nil (h h3 _ (Mine.Fr.store F2 n3 s3) (Mine.News.store N2 s3))
theorem go_ref {elts : List PySem.Expr} {x1} {px : Pos} (s : Shared) (Q : Unit → Shared → Prop) (E : Value → Shared → Prop) (I : Addr) (i : Nat) (T : Addr) (hI : s.heap.IsListIter I l i) (h : Q () s) : wpAny (model prog w) A (letOwnedTupleGo (.Tuple elts x1 px) (.ref I) (.ref T)) Q E s :=
  wpAny_letOwnedTupleGo_listiter hI h
end
end Mine

end
section
open PySem PySem.W PyProof.Rows PySem.Calls PySem.Spec
open PySem.Builtin PySem.Builtin.Re
set_option genInjectivity false
set_option genSizeOf false
set_option maxRecDepth 100000
set_option maxHeartbeats 2000000
namespace Mine
theorem slot_search : Slot "re.Pattern" "search" "re.Pattern.search" :=
  .of (owner := "re.Pattern") (n := "search") (by rw [typeLookup_type, builtinLookup_eq_fast]; kernel_rfl) (by decide +kernel) (by decide +kernel) (by decide +kernel)
    (by first | exact .inl (by decide +kernel) | exact .inr (by decide +kernel)) (by rw [isSubtype_type]; kernel_rfl)
theorem type_search : typeOf (.builtin "re.Pattern.search") = pure (.type "method_descriptor") := by show builtinType _ = _; rw [builtinType_eq_fast]; kernel_rfl
theorem entry_search : entryFor table "re.Pattern.search" = some Builtin.«re.Pattern.search» := entryFor_of_tree (by kernel_rfl)
theorem args_search (a b : Value) : argsOk "re.Pattern.search" ⟨[a, b], []⟩ := by unfold argsOk; kernel_rfl
noncomputable def nameCode : Array Nat := #[14, 10, 4, 1, 1, 22, 0, 31, 16, 127, 0, 13, 7, 22, 0, 31, 16, 127, 0, 1]
noncomputable def valCode : Array Nat := #[14, 14, 4, 1, 1, 9, 4294966783, 0, 0, 2147483648, 0, 0, 0, 0, 0, 13, 11, 9, 4294966783, 0, 0, 2147483648, 0, 0, 0, 0, 0, 1]
noncomputable def okName (c : Nat) : Bool := 32 ≤ c && c != 127
noncomputable def okVal (c : Nat) : Bool := (32 ≤ c && c != 127) || c == 9
theorem inSet_name (c : Nat) (seen : Sre.Seen) : ∃ s', Sre.inSet nameCode c 20 5 true seen = .ok (!okName c, s') := by
  have e0 : ∀ b, (!okName c) = b → (∃ s', Sre.inSet nameCode c 20 5 true seen = .ok (b, s')) → ∃ s', Sre.inSet nameCode c 20 5 true seen = .ok (!okName c, s') := by
    rintro b rfl h; exact h
  by_cases h1 : c ≤ 31
  · refine e0 true (by unfold okName; simp; (first | lia | omega)) ⟨(seen.add 22), ?_⟩
    show (if (decide (0 ≤ c) && decide (c ≤ 31)) = true then _ else _) = _
    rw [if_pos (by simpa using h1)]; rfl
  · by_cases h2 : c = 127
    · subst h2
      exact e0 true rfl ⟨(seen.add 22).add 16, rfl⟩
    · refine e0 false (by unfold okName; simp; (first | lia | omega)) ⟨((seen.add 22).add 16).add 0, ?_⟩
      show (if (decide (0 ≤ c) && decide (c ≤ 31)) = true then _ else _) = _
      rw [if_neg (by simpa using h1)]
      show (if (c == 127) = true then _ else _) = _
      rw [if_neg (by simpa using h2)]; rfl
theorem val_bits : ∀ c : _root_.Fin 256, ((valCode.getD (5 + (1 + c.val / 32)) 0).testBit (c.val % 32)) = !okVal c.val := by decide +kernel
theorem inSet_val (c : Nat) (seen : Sre.Seen) : ∃ s', Sre.inSet valCode c 28 5 true seen = .ok (!okVal c, s') := by
  have e0 : ∀ b, (!okVal c) = b → (∃ s', Sre.inSet valCode c 28 5 true seen = .ok (b, s')) → ∃ s', Sre.inSet valCode c 28 5 true seen = .ok (!okVal c, s') := by
    rintro b rfl h; exact h
  by_cases h1 : c < 256
  · have hb := val_bits ⟨c, h1⟩
    dsimp only at hb
    cases hk : okVal c with
    | false =>
      rw [hk] at hb
      refine ⟨seen.add 9, ?_⟩
      show (if (decide (c < 256) && (valCode.getD (5 + (1 + c / 32)) 0).testBit (c % 32)) = true then _ else _) = _
      rw [if_pos (by rw [hb]; simp [h1])]; rfl
    | true =>
      rw [hk] at hb
      refine ⟨(seen.add 9).add 0, ?_⟩
      show (if (decide (c < 256) && (valCode.getD (5 + (1 + c / 32)) 0).testBit (c % 32)) = true then _ else _) = _
      rw [if_neg (by rw [hb]; simp)]; rfl
  · refine e0 false (by unfold okVal; simp; (first | lia | omega)) ⟨(seen.add 9).add 0, ?_⟩
    show (if (decide (c < 256) && (valCode.getD (5 + (1 + c / 32)) 0).testBit (c % 32)) = true then _ else _) = _
    rw [if_neg (by simp [h1])]; rfl
theorem admitted_none {ok : Nat → Bool} {m : Sre.M} (hs : ∀ c seen, ∃ s', Sre.inSet m.code c m.code.size 5 true seen = .ok (!ok c, s')) : ∀ (fuel s : Nat) (seen : Sre.Seen), (∀ i, s ≤ i → i < m.lim → ok (m.text.getD i 0) = true) →
    ∃ seen', Sre.M.admitted m fuel s seen = .ok (none, seen')
  | 0, s, seen, _ => ⟨seen, rfl⟩
  | fuel + 1, s, seen, h => by
    unfold Sre.M.admitted
    by_cases hl : s ≥ m.lim
    · rw [if_pos hl]; exact ⟨seen, rfl⟩
    · rw [if_neg hl]
      obtain ⟨s', e⟩ := hs (m.text.getD s 0) seen
      rw [h s (Nat.le_refl _) (by (first | lia | omega))] at e
      rw [e]
      exact admitted_none hs fuel (s + 1) s' fun i h1 h2 => h i (by (first | lia | omega)) h2
noncomputable def Done (m : Sre.M) : Prop := m.answer = some false ∧ m.frames = [] ∧ m.outcome = none
theorem attemptFrom_none {ok : Nat → Bool} {m : Sre.M} {first : Bool} (hs : ∀ c seen, ∃ s', Sre.inSet m.code c m.code.size 5 true seen = .ok (!ok c, s')) (h1 : m.hasFirstSet = true) (hok : ∀ i, i < m.lim → ok (m.text.getD i 0) = true) (hf : m.frames = []) (ho : m.outcome = none) : Done (m.attemptFrom 0 first) := by
  unfold Sre.M.attemptFrom
  rw [if_neg (by rw [h1]; simp)]
  obtain ⟨seen', e⟩ := admitted_none (ok := ok) (m := m) hs (m.lim + 1 - 0) 0 m.seen fun i _ h => hok i h
  rw [e]
  exact ⟨rfl, hf, ho⟩
theorem search_none {ok : Nat → Bool} {code text : Array Nat} (hs : ∀ c seen, ∃ s', Sre.inSet code c code.size 5 true seen = .ok (!ok c, s')) (hok : ∀ i, i < text.size → ok (text.getD i 0) = true)
    (h0 : (Sre.header code).1 = 1) (h1 : ∀ m : Sre.M, m.code = code → m.hasFirstSet = true) : Done (Sre.forSearch code text 0 0 text.size false) := by
  unfold Sre.forSearch
  dsimp only
  rw [h0]
  split
  · exact ⟨rfl, rfl, rfl⟩
  · exact attemptFrom_none (ok := ok) hs (h1 _ rfl) (fun i h => hok i h) rfl rfl

theorem drive_done {prog : Program} {w : World} {A : Around} {E : Value → Shared → Prop} {s : Shared} {m : Sre.M} {Q : Option Sre.M → Shared → Prop} (hm : Done m) (h : Q none s) : wpAny (model prog w) A (reRunToEnd m) Q E s := by
  obtain ⟨h1, h2, h3⟩ := hm
  have e1 : m.step = { m with outcome := some .failed } := by
    unfold Sre.M.step
    rw [h3, h1, h2]
    rfl
  have e2 : m.runFor reTurnSteps = { m with outcome := some .failed } := by
    show (if m.outcome.isSome = true then _ else Sre.M.runFor 3 m.step) = _
    rw [h3, e1]
    rfl
  unfold reRunToEnd
  refine wpAny_bind ?_
  have e3 : reDrive (2 ^ 64) m = pure { m with outcome := some .failed } := by
    rw [show (2 ^ 64 : Nat) = 18446744073709551615 + 1 from rfl]
    unfold reDrive
    rw [e2]
    rfl
  rw [e3]
  refine wpAny_pure (wpAny_bind ?_)
  have key : ∀ (l : List Nat) (g : Nat → PUnit → Sem (ForInStep PUnit)) (Q : PUnit → Shared → Prop), (∀ i r (P : ForInStep PUnit → Shared → Prop), P (.yield ⟨⟩) s → wpAny (model prog w) A (g i r) P E s) → Q ⟨⟩ s → wpAny (model prog w) A (forIn l PUnit.unit g) Q E s := by
    intro l
    induction l with
    | nil => intro g Q _ hq; exact wpAny_pure hq
    | cons a l ih =>
      intro g Q hg hq
      rw [List.forIn_cons]
      exact wpAny_bind (hg _ _ _ (ih g Q hg hq))
  refine key _ _ _ (fun i r P hP => ?_) ?_
  · dsimp only
    split
    · exact wpAny_bind (wpAny_rule (wpAny_pure hP))
    · exact wpAny_pure hP
  · exact wpAny_pure h
theorem search_quiet {prog : Program} {w : World} {A : Around} {E : Value → Shared → Prop} {s : Shared} {r tp : Addr} {x : Str} {t : Tok} {items : Array Value} {n : Nat} {a b c d : Value} {ok : Nat → Bool} {Q : Value → Shared → Prop}
    (ho : s.heap.get? r = some { cls := .type "re.Pattern", data := .fields #[a, b, .int 0 0, c, d, .ref tp, .int 0 0] }) (htp : s.heap.get? tp = some { cls := .type "tuple", data := .seq items n })
    (hs : ∀ c seen, ∃ s', Sre.inSet (items.map reRawOf |>.map (·.toNat)) c (items.map reRawOf |>.map (·.toNat)).size 5 true seen = .ok (!ok c, s'))
    (h0 : (Sre.header (items.map reRawOf |>.map (·.toNat))).1 = 1) (h1 : ∀ m : Sre.M, m.code = (items.map reRawOf |>.map (·.toNat)) → m.hasFirstSet = true)
    (hok : ∀ i, i < x.cps.size → ok (x.cps.getD i 0) = true) (hsz : x.cps.size < 2 ^ 62) (h : Q .none s) : wpAny (model prog w) A (call (.builtin "re.Pattern.search") [.ref r, .str x t]) Q E s := by
  have hT : s.TypeIs (.ref r) "re.Pattern" := ⟨_, ho, rfl⟩
  refine wpAny_call_entry slot_search hT entry_search ?_ (args_search _ _)
  show wpAny _ _ (reTarget "re.Pattern.search" "search" ⟨[.ref r, .str x t], []⟩ >>= _) _ _ s
  refine wpAny_bind ?_
  unfold reTarget
  dsimp only
  refine wpAny_bind (wpAny_of_eq (a := [some (.str x t), none, none]) (by kernel_rfl) ?_)
  dsimp only
  refine wpAny_bind (wpAny_pure (wpAny_bind (wpAny_pure (wpAny_bind (wpAny_fieldsOf ho rfl ?_)))))
  refine wpAny_bind (wpAny_of_eq (a := (x.cps, 0)) (by rfl) ?_)
  dsimp only
  have c6 : (#[a, b, Value.int 0 0, c, d, Value.ref tp, Value.int 0 0] : Array Value).getD 6 Value.none = .int 0 0 := rfl
  have c5 : (#[a, b, Value.int 0 0, c, d, Value.ref tp, Value.int 0 0] : Array Value).getD 5 Value.none = .ref tp := rfl
  have c2 : (#[a, b, Value.int 0 0, c, d, Value.ref tp, Value.int 0 0] : Array Value).getD 2 Value.none = .int 0 0 := rfl
  rw [c6, c5, c2, if_neg (by decide), if_neg (by decide)]
  refine wpAny_bind (wpAny_of_eq (a := ()) (by rfl) ?_)
  refine wpAny_bind ?_
  show wpAny _ _ (reRawItems (.ref tp)) _ _ s
  unfold reRawItems
  refine wpAny_bind (wpAny_seqItems htp rfl (wpAny_pure ?_))
  refine wpAny_pure ?_
  dsimp only
  unfold reAnswer
  have e0 : Min.min (Int.toNat 0) x.cps.size = 0 := Nat.zero_min _
  have e1 : Min.min ((2 : Int) ^ 63 - 1).toNat x.cps.size = x.cps.size := Nat.min_eq_right (by
    have : ((2 : Int) ^ 63 - 1).toNat = 9223372036854775807 := by decide
    rw [this]; (first | lia | omega))
  refine wpAny_bind ?_
  rw [e0, e1]
  refine drive_done (search_none (ok := ok) hs hok h0 h1) ?_
  exact wpAny_pure ⟨_, rfl, h⟩
theorem search_name {prog : Program} {w : World} {A : Around} {E : Value → Shared → Prop} {s : Shared} {r tp : Addr} {x : Str} {t : Tok} {n : Nat} {a b c d : Value} {Q : Value → Shared → Prop}
    (ho : s.heap.get? r = some { cls := .type "re.Pattern", data := .fields #[a, b, .int 0 0, c, d, .ref tp, .int 0 0] }) (htp : s.heap.get? tp = some { cls := .type "tuple", data := .seq #[.int 14 0, .int 10 0, .int 4 0, .int 1 0, .int 1 0, .int 22 0, .int 0 0, .int 31 0, .int 16 0, .int 127 0, .int 0 0, .int 13 0, .int 7 0, .int 22 0, .int 0 0, .int 31 0, .int 16 0, .int 127 0, .int 0 0, .int 1 0] n })
    (hok : ∀ c ∈ x.cps.toList, okName c = true) (hsz : x.cps.size < 2 ^ 62) (h : Q .none s) : wpAny (model prog w) A (call (.builtin "re.Pattern.search") [.ref r, .str x t]) Q E s := by
  have e : ((#[.int 14 0, .int 10 0, .int 4 0, .int 1 0, .int 1 0, .int 22 0, .int 0 0, .int 31 0, .int 16 0, .int 127 0, .int 0 0, .int 13 0, .int 7 0, .int 22 0, .int 0 0, .int 31 0, .int 16 0, .int 127 0, .int 0 0, .int 1 0] : Array Value).map reRawOf |>.map (·.toNat)) = nameCode := by decide +kernel
  refine search_quiet (ok := okName) ho htp (by rw [e]; exact inSet_name) (by rw [e]; decide +kernel) (fun m hm => ?_) (fun i hi => hok _ ?_) hsz h
  · rw [e] at hm
    unfold Sre.M.hasFirstSet
    rw [hm]; decide +kernel
  · have e2 : x.cps.getD i 0 = x.cps[i] := by simp [hi]
    rw [e2]
    exact Array.getElem_mem_toList hi
theorem search_val {prog : Program} {w : World} {A : Around} {E : Value → Shared → Prop} {s : Shared} {r tp : Addr} {x : Str} {t : Tok} {n : Nat} {a b c d : Value} {Q : Value → Shared → Prop}
    (ho : s.heap.get? r = some { cls := .type "re.Pattern", data := .fields #[a, b, .int 0 0, c, d, .ref tp, .int 0 0] }) (htp : s.heap.get? tp = some { cls := .type "tuple", data := .seq #[.int 14 0, .int 14 0, .int 4 0, .int 1 0, .int 1 0, .int 9 0, .int 4294966783 0, .int 0 0, .int 0 0, .int 2147483648 0, .int 0 0, .int 0 0, .int 0 0, .int 0 0, .int 0 0, .int 13 0, .int 11 0, .int 9 0, .int 4294966783 0, .int 0 0, .int 0 0, .int 2147483648 0, .int 0 0, .int 0 0, .int 0 0, .int 0 0, .int 0 0, .int 1 0] n })
    (hok : ∀ c ∈ x.cps.toList, okVal c = true) (hsz : x.cps.size < 2 ^ 62) (h : Q .none s) : wpAny (model prog w) A (call (.builtin "re.Pattern.search") [.ref r, .str x t]) Q E s := by
  have e : ((#[.int 14 0, .int 14 0, .int 4 0, .int 1 0, .int 1 0, .int 9 0, .int 4294966783 0, .int 0 0, .int 0 0, .int 2147483648 0, .int 0 0, .int 0 0, .int 0 0, .int 0 0, .int 0 0, .int 13 0, .int 11 0, .int 9 0, .int 4294966783 0, .int 0 0, .int 0 0, .int 2147483648 0, .int 0 0, .int 0 0, .int 0 0, .int 0 0, .int 0 0, .int 1 0] : Array Value).map reRawOf |>.map (·.toNat)) = valCode := by decide +kernel
  refine search_quiet (ok := okVal) ho htp (by rw [e]; exact inSet_val) (by rw [e]; decide +kernel) (fun m hm => ?_) (fun i hi => hok _ ?_) hsz h
  · rw [e] at hm
    unfold Sre.M.hasFirstSet
    rw [hm]; decide +kernel
  · have e2 : x.cps.getD i 0 = x.cps[i] := by simp [hi]
    rw [e2]
    exact Array.getElem_mem_toList hi
theorem plainAttrs_pattern : PlainAttrs "re.Pattern" :=
  ⟨⟨"object.__getattribute__", by rw [typeLookup_type, builtinLookup_eq_fast]; kernel_rfl, by decide +kernel⟩, by rw [typeLookup_type, builtinLookup_eq_fast]; kernel_rfl⟩
theorem search_method {prog : Program} {w : World} {A : Around} {E : Value → Shared → Prop} {s : Shared} {r : Addr} {o : Obj} {pl : Sem Bool} {Q : Value × List Value → Shared → Prop}
    (ho : s.heap.get? r = some o) (hc : o.cls = .type "re.Pattern") (hd : o.dict = none) (h : Q (.builtin "re.Pattern.search", [.ref r]) s) : wpAny (model prog w) A (getMethod (.ref r) (Str.ofString "search") pl) Q E s :=
  getMethod_builtin ⟨_, ho, hc⟩ plainAttrs_pattern slot_search type_search (fun a e => by cases e; exact ⟨_, ho, hd⟩) h
end Mine

end
section
open PySem PySem.W PyProof.Rows PySem.Calls PySem.Spec
set_option genInjectivity false
set_option genSizeOf false
set_option maxRecDepth 100000
namespace Mine
noncomputable abbrev Led := List (Addr × Obj)
/-- a cursor: an iterator whose state is the objects at ow, over sources at src -/
structure Cur (prog : Program) (w : World) (A : Around) (target : PySem.Expr) (I : Addr) (ow src : List Addr) (n : Nat) (Vl : Nat → Value → Heap → Prop) (St : Nat → Heap → Prop) : Prop where
  frame : ∀ i h h', St i h → (∀ b, b ∈ ow ∨ b ∈ src → ∀ o, h.get? b = some o → h'.get? b = some o) → St i h'
  has : ∀ i h, St i h → ∀ b ∈ ow, ∃ o, h.get? b = some o
  step : ∀ i (s : Shared) (Q : Value → Shared → Prop) (E : Value → Shared → Prop), i < n → St i s.heap →
    (∀ v h' tk', Vl i v h' → St (i + 1) h' → (∀ b o, b ∉ ow → s.heap.get? b = some o → h'.get? b = some o) → Q v { s with heap := h', toks := tk' }) →
    wpAny (model prog w) A (pyNext (.ref I)) (fun r s1 => match r with | none => False | some v => wpAny (model prog w) A (letOwnedTupleGo target (.ref I) v) (fun _ s2 => Q v s2) E s1) E s
  done : ∀ (s : Shared) (Q : Option Value → Shared → Prop) (E : Value → Shared → Prop), St n s.heap →
    (∀ h' tk', (∀ b o, b ∉ ow → s.heap.get? b = some o → h'.get? b = some o) → Q none { s with heap := h', toks := tk' }) → wpAny (model prog w) A (pyNext (.ref I)) Q E s
  self : ∀ i (s : Shared) (Q : Value → Shared → Prop) (E : Value → Shared → Prop), St i s.heap → Q (.ref I) s → wpAny (model prog w) A (pyIter (.ref I)) Q E s

noncomputable def objsAt (h : Heap) (ow : List Addr) : Led := ow.map fun b => (b, (h.get? b).getD { cls := .none, data := .seq #[] })
theorem objsAt_get {h : Heap} {ow : List Addr} (hh : ∀ b ∈ ow, ∃ o, h.get? b = some o) : ∀ q ∈ objsAt h ow, q.1 ∈ ow ∧ h.get? q.1 = some q.2 := by
  intro q hq
  obtain ⟨b, hb, rfl⟩ := List.mem_map.mp hq
  obtain ⟨o, e⟩ := hh b hb
  exact ⟨hb, by dsimp only; rw [e]; rfl⟩
theorem objsAt_kept {h h' : Heap} {ow : List Addr} (hk : ∀ q ∈ objsAt h ow, h'.get? q.1 = some q.2) : ∀ b ∈ ow, ∀ o, h.get? b = some o → h'.get? b = some o := by
  intro b hb o e
  have := hk (b, (h.get? b).getD { cls := .none, data := .seq #[] }) (List.mem_map_of_mem hb)
  dsimp only at this
  rw [this, e]; rfl
section
variable {prog : Program} {w : World} {A : Around} {E : Value → Shared → Prop} {s : Shared} {g : Heap} {L : Addr} {m : Str → Option Value} {nw : Led}
/-- a turn's end -/
noncomputable def CEnd (g : Heap) (L : Addr) (s : Shared) (own : Led) (J : (Str → Option Value) → Led → Prop) (Q : Flow → Shared → Prop) (f : Flow) (s' : Shared) : Prop := match f with
  | .brk => Q .next s'
  | .ret v => Q (.ret v) s'
  | _ => Ex4 fun m' nw' h' tk' => s' = { s with heap := h', toks := tk' } ∧ Fr g L h' m' ∧ News g L h' (own ++ nw') ∧ (∀ p ∈ nw', ∀ q ∈ own, p.1 ≠ q.1) ∧ J m' nw'
theorem fr_off {h h' : Heap} {ow : List Addr} (F : Fr g L h m) (how : ∀ b ∈ ow, b ≠ L ∧ g.get? b = none) (hk : ∀ b o, b ∉ ow → h.get? b = some o → h'.get? b = some o) : Fr g L h' m :=
  ⟨F.ns.at' fun o e => hk _ _ (fun q => (how _ q).1 rfl) e, fun b o e => hk b o (fun q => by rw [(how _ q).2] at e; cases e) (F.keep b o e), F.above⟩
theorem news_off {h h' : Heap} {ow : List Addr} (N : News g L h nw) (off : ∀ p ∈ nw, p.1 ∉ ow) (hk : ∀ b o, b ∉ ow → h.get? b = some o → h'.get? b = some o) : News g L h' nw :=
  fun p hp => ⟨hk _ _ (off p hp) (N p hp).1, (N p hp).2⟩
noncomputable def SrcIn (g : Heap) (src : List Addr) (P : Led → Prop) : Prop := ∀ b ∈ src, (∃ o, g.get? b = some o) ∨ ∃ o, ∀ nw, P nw → (b, o) ∈ nw
theorem src_kept {h h' : Heap} {src : List Addr} {P : Led → Prop} {nw nw' : Led} {m' : Str → Option Value} {X Y : Led} (S : SrcIn g src P) (F : Fr g L h m) (N : News g L h (X ++ nw)) (F' : Fr g L h' m') (N' : News g L h' (Y ++ nw')) (p : P nw) (p' : P nw') :
    ∀ b ∈ src, ∀ o, h.get? b = some o → h'.get? b = some o := by
  intro b hb o e
  rcases S b hb with ⟨o', e'⟩ | ⟨o', hm⟩
  · have z1 := F.keep _ _ e'
    have z2 := F'.keep _ _ e'
    rw [z1] at e; rw [z2, ← e]
  · have z1 := (N _ (List.mem_append_right _ (hm _ p))).1
    have z2 := (N' _ (List.mem_append_right _ (hm _ p'))).1
    dsimp only at z1 z2
    rw [z1] at e; rw [z2, ← e]
/-- a cursor's own places and a ledger -/
theorem news_own {target : PySem.Expr} {I : Addr} {ow src : List Addr} {n : Nat} {Vl : Nat → Value → Heap → Prop} {St : Nat → Heap → Prop} (C : Cur prog w A target I ow src n Vl St) {i : Nat} {h : Heap} (hst : St i h) (how : ∀ b ∈ ow, b ≠ L ∧ g.get? b = none) (N : News g L h nw) : News g L h (objsAt h ow ++ nw) := by
  intro q hq
  rcases List.mem_append.mp hq with hq | hq
  · have z := objsAt_get (C.has _ _ hst) q hq
    exact ⟨z.2, how _ z.1⟩
  · exact N q hq
theorem cur_frame {target : PySem.Expr} {I : Addr} {ow src : List Addr} {n : Nat} {Vl : Nat → Value → Heap → Prop} {St : Nat → Heap → Prop} (C : Cur prog w A target I ow src n Vl St) {P : Led → Prop} {i : Nat} {hq h : Heap} {nw' : Led} {m' : Str → Option Value} (hst : St i hq) (hS : SrcIn g src P)
    (F0 : Fr g L hq m) (N0 : News g L hq nw) (F : Fr g L h m') (N : News g L h nw') (hk : ∀ q ∈ objsAt hq ow, h.get? q.1 = some q.2) (p : P nw) (p' : P nw') : St i h :=
  C.frame i hq h hst fun b hb o e => hb.elim (fun hb => objsAt_kept hk b hb o e) (fun hb => src_kept (X := []) (Y := []) hS F0 N0 F N p p' b hb o e)
noncomputable def CurInv (g : Heap) (L : Addr) (ow : List Addr) (n : Nat) (St : Nat → Heap → Prop) (J : Nat → (Str → Option Value) → Led → Prop) (k : Nat) (m : Str → Option Value) (nw' : Led) : Prop :=
  Ex4 fun nw i h m0 => nw' = objsAt h ow ++ nw ∧ k + i = n ∧ St i h ∧ (∀ p ∈ nw, p.1 ∉ ow) ∧ J i m nw ∧ Fr g L h m0 ∧ News g L h nw
theorem for_cur {env : Env} {target : PySem.Expr} {body : List Stmt} {Q : Flow → Shared → Prop} {I : Addr} {ow src : List Addr} {n : Nat} {Vl : Nat → Value → Heap → Prop} {St : Nat → Heap → Prop}
    (C : Cur prog w A target I ow src n Vl St) (J : Nat → (Str → Option Value) → Led → Prop)
    (F : Fr g env.locals s.heap m) (N : News g env.locals s.heap nw) (hst : St 0 s.heap) (how : ∀ b ∈ ow, b ≠ env.locals ∧ g.get? b = none) (off : ∀ p ∈ nw, p.1 ∉ ow)
    (h0 : J 0 m nw) (hS : SrcIn g src (fun nw => Ex2 fun i m => J i m nw))
    (turn : ∀ i v m nw h tk, i < n → Vl i v h → J i m nw → Fr g env.locals h m → News g env.locals h (objsAt h ow ++ nw) → (∀ p ∈ nw, ∀ q ∈ objsAt h ow, p.1 ≠ q.1) →
      wpAny (model prog w) A (assign target env v) (fun _ s2 => wpAny (model prog w) A (execs body env) (CEnd g env.locals s (objsAt h ow) (J (i + 1)) Q) (fun _ _ => False) s2) (fun _ _ => False) { s with heap := h, toks := tk })
    (done : ∀ m nw h tk, J n m nw → Fr g env.locals h m → News g env.locals h nw → Q .next { s with heap := h, toks := tk }) :
    codeAny (model prog w) A (.forLoop target (.ref I) body [] env) (Fl Q) s := by
  refine loop_led (CurInv g env.locals ow n St J) n F (news_own C hst how N) ⟨nw, 0, s.heap, m, rfl, rfl, hst, off, h0, F, N⟩ ?_
  intro k m nw' h tk F N zg53
  refine letGoal ?_
  intro Gz
  obtain ⟨nw, i, hq, m0, rfl, hk, hst, off, hj, F0, N0⟩ := zg53
  dsimp only [Gz]
  clear Gz
  have Nn : News g env.locals h nw := fun p hp => N p (List.mem_append_right _ hp)
  have hst' : St i h := cur_frame C hst hS F0 N0 F Nn (fun q hq' => (N q (List.mem_append_left _ hq')).1) ⟨_, _, hj⟩ ⟨_, _, hj⟩
  clear hst F0 N0 N
  rcases Nat.lt_or_ge i n with hi | hi
  · refine' wpAny_mono (C.step i _ _ (fun _ _ => False) hi hst' ?go) ?im fun _ _ e => e
    case im =>
      intro r s1 h1
      cases r with
      | none => exact h1.elim
      | some v => exact h1
    case go =>
      intro v h' tk' hv hst'' hk'
      have F' := fr_off F how hk'
      have N' := news_off Nn off hk'
      refine wpAny_mono (turn i v m nw h' _ hi hv hj F' (news_own C hst'' how N') fun p hp q hq e => off p hp (e ▸ (objsAt_get (C.has _ _ hst'') q hq).1)) (fun _ s1 h1 => wpAny_mono h1 (fun f s2 h2 => ?_) fun _ _ e => e) fun _ _ e => e
      have key : CEnd g env.locals s (objsAt h' ow) (J (i + 1)) Q .next s2 → LoopEnd g env.locals s (CurInv g env.locals ow n St J) k Q .next s2 := by
        intro zg54
        refine letGoal ?_
        intro Gz
        obtain ⟨m', nw', h1, tk1, rfl, F1, N1, off1, hJ1⟩ := zg54
        dsimp only [Gz]
        clear Gz
        have N2 : News g env.locals h1 nw' := fun p hp => N1 p (List.mem_append_right _ hp)
        have hst1 : St (i + 1) h1 := cur_frame C hst'' hS F' N' F1 N2 (fun q hq' => (N1 q (List.mem_append_left _ hq')).1) ⟨_, _, hj⟩ ⟨_, _, hJ1⟩
        exact ⟨k - 1, m', _, h1, tk1, by (first | lia | omega), rfl, F1, news_own C hst1 how N2, nw', i + 1, h1, m', rfl, by (first | lia | omega), hst1, fun p hp hm => off1 p hp _ (List.mem_map_of_mem hm) rfl, hJ1, F1, N2⟩
      cases f with
      | brk => exact h2
      | ret v => exact h2
      | next => exact key h2
      | cont => exact key h2
  · have hi' : i = n := by (first | lia | omega)
    subst hi'
    exact C.done _ _ _ hst' fun h' tk' hk' => done _ _ _ _ hj (fr_off F how hk') (news_off Nn off hk')
end
end Mine

end
section
open PySem PySem.W PyProof.Rows PySem.Calls PySem.Spec PyProof.Rows.LCg
set_option genInjectivity false
set_option genSizeOf false
set_option maxRecDepth 100000
namespace Mine
section
variable {prog : Program} {w : World} {A : Around} {E : Value → Shared → Prop} {s : Shared} {g : Heap} {L : Addr} {m : Str → Option Value} {nw : Led} {env : Env}
noncomputable def CompE (g : Heap) (L : Addr) (m : Str → Option Value) (s : Shared) (own : Led) (C D : Addr) (oD : Obj) (J : Led → Prop) (s' : Shared) : Prop :=
  Ex3 fun h' tk' nw' => s' = { s with heap := h', toks := tk' } ∧ Fr g L h' m ∧ (∃ m', h'.Ns C m') ∧ News g L h' (own ++ (D, oD) :: nw') ∧ (∀ p ∈ nw', (∀ q ∈ own, p.1 ≠ q.1) ∧ p.1 ≠ C ∧ p.1 ≠ D) ∧ J nw'
noncomputable abbrev testsOf (prog : Program) (w : World) (ifs : List PySem.Expr) (env : Env) : Sem Bool := forIn ifs true fun c r => if r = true then do let ok ← isTrue c env (eval c env); pure (ForInStep.yield ok) else pure (ForInStep.yield r)
theorem codeAny_compLoop_all {elt target iter : PySem.Expr} {ifs : List PySem.Expr} {scope : Scope} {pos : Pos} {it acc : Value} {env : Env} {R : Result → Shared → Prop} (I : Nat → Shared → Prop)
    (turn : ∀ n s, I n s → wpAny (model prog w) A (pyNext it) (fun r s₁ => match r with
      | none => R (.ok .next) s₁
      | some v => wpAny (model prog w) A (letOwnedTupleGo target it v) (fun _ s₁' => wpAny (model prog w) A (assign target env v) (fun _ s₂ =>
          wpAny (model prog w) A (testsOf prog w ifs env) (fun ok s₃ =>
            if ok = true then wpAny (model prog w) A (eval elt env) (fun x s₄ =>
              wpAny (model prog w) A (call (.builtin "list.append") [acc, x]) (fun _ s₅ => ∃ m, m < n ∧ I m s₅) (fun _ _ => False) s₄) (fun _ _ => False) s₃
            else ∃ m, m < n ∧ I m s₃) (fun _ _ => False) s₂) (fun _ _ => False) s₁') (fun _ _ => False) s₁) (fun _ _ => False) s)
    (n : Nat) (h : I n s) : codeAny (model prog w) A (.compLoop (.ListComp elt [⟨target, iter, ifs, 0⟩] scope pos) 0 it acc env) R s := by
  refine codeAny_loop rfl I (fun n s hI => ?_) n h
  show wpAny _ A ((compTurn (.ListComp elt [⟨target, iter, ifs, 0⟩] scope pos) 0 it acc env).onRaise (fun x => do noteFrame x env; theTreesLotGoes x)) _ _ s
  refine wpAny_noted ?_
  rw [compTurn_list]
  refine wpAny_bind (wpAny_standAt (wpAny_bind (wpAny_mono (turn n s hI) (fun r s₁ h₁ => ?_) fun _ _ h' => h'.elim)))
  cases r with
  | none => exact wpAny_pure h₁
  | some v =>
    refine wpAny_bind (wpAny_mono h₁ (fun _ s₁' h₁' => ?_) fun _ _ h' => h'.elim)
    refine wpAny_bind (wpAny_mono h₁' (fun _ s₂ h₂ => wpAny_bind (wpAny_mono h₂ (fun ok s₃ h₃ => ?_) fun _ _ h' => h'.elim)) fun _ _ h' => h'.elim)
    cases ok with
    | false => exact wpAny_pure ⟨rfl, h₃⟩
    | true => exact wpAny_bind (wpAny_bind (wpAny_mono h₃ (fun x s₄ h₄ => wpAny_bind (wpAny_mono h₄ (fun _ s₅ h₅ => wpAny_pure (wpAny_pure ⟨rfl, h₅⟩)) fun _ _ h' => h'.elim)) fun _ _ h' => h'.elim))

theorem led_cons {h : Heap} {a : Addr} {o : Obj} (z : h.get? a = some o ∧ a ≠ L ∧ g.get? a = none) (N : News g L h nw) : News g L h ((a, o) :: nw) := List.forall_mem_cons.mpr ⟨z, N⟩
theorem fm1 {α : Type} {P : α → Prop} {x : α} (a : P x) : ∀ q ∈ [x], P q := List.forall_mem_cons.mpr ⟨a, fun _ e => (List.not_mem_nil e).elim⟩
theorem fm2 {α : Type} {P : α → Prop} {x y : α} (a : P x) (b : P y) : ∀ q ∈ [x, y], P q := List.forall_mem_cons.mpr ⟨a, fm1 b⟩
theorem fm3 {α : Type} {P : α → Prop} {x y z : α} (a : P x) (b : P y) (c : P z) : ∀ q ∈ [x, y, z], P q := List.forall_mem_cons.mpr ⟨a, fm2 b c⟩
theorem fm4 {α : Type} {P : α → Prop} {x y z u : α} (a : P x) (b : P y) (c : P z) (d : P u) : ∀ q ∈ [x, y, z, u], P q := List.forall_mem_cons.mpr ⟨a, fm3 b c d⟩
theorem fm5 {α : Type} {P : α → Prop} {x1 x2 x3 x4 x5 : α} (a : P x1) (b : P x2) (c : P x3) (d : P x4) (e : P x5) : ∀ q ∈ [x1, x2, x3, x4, x5], P q := List.forall_mem_cons.mpr ⟨a, fm4 b c d e⟩
theorem fm9 {α : Type} {P : α → Prop} {x1 x2 x3 x4 x5 x6 x7 x8 x9 : α} (a1 : P x1) (a2 : P x2) (a3 : P x3) (a4 : P x4) (a5 : P x5) (a6 : P x6) (a7 : P x7) (a8 : P x8) (a9 : P x9) : ∀ q ∈ [x1, x2, x3, x4, x5, x6, x7, x8, x9], P q := List.forall_mem_cons.mpr ⟨a1, List.forall_mem_cons.mpr ⟨a2, List.forall_mem_cons.mpr ⟨a3, List.forall_mem_cons.mpr ⟨a4, fm5 a5 a6 a7 a8 a9⟩⟩⟩⟩
theorem fmR3 {α : Type} {P : α → Prop} {x1 x2 x3 : α} {R : List α} (a : P x1) (b : P x2) (c : P x3) (d : ∀ q ∈ R, P q) : ∀ q ∈ x1 :: x2 :: x3 :: R, P q := List.forall_mem_cons.mpr ⟨a, List.forall_mem_cons.mpr ⟨b, List.forall_mem_cons.mpr ⟨c, d⟩⟩⟩
theorem fmR5 {α : Type} {P : α → Prop} {x1 x2 x3 x4 x5 : α} {R : List α} (a : P x1) (b : P x2) (c : P x3) (d : P x4) (e : P x5) (f : ∀ q ∈ R, P q) : ∀ q ∈ x1 :: x2 :: x3 :: x4 :: x5 :: R, P q := fmR3 a b c (List.forall_mem_cons.mpr ⟨d, List.forall_mem_cons.mpr ⟨e, f⟩⟩)
theorem apart1 {R : Led} {x : Addr × Obj} (h : ∀ r ∈ R, r.1 ≠ x.1) : ∀ r ∈ R, ∀ q ∈ [x], r.1 ≠ q.1 := fun r hr q hq => (List.mem_singleton.mp hq).symm ▸ h r hr
theorem news_put {h h2 : Heap} {X : Addr} {o o2 : Obj} {pre post : Led} (N : News g L h (pre ++ (X, o) :: post)) (hk : ∀ b o', b ≠ X → h.get? b = some o' → h2.get? b = some o') (e : h2.get? X = some o2) (h1 : ∀ q ∈ pre, q.1 ≠ X) (h3 : ∀ q ∈ post, q.1 ≠ X) : News g L h2 (pre ++ (X, o2) :: post) := by
  have ⟨N1, N2⟩ := List.forall_mem_append.mp N
  have ⟨z, N3⟩ := List.forall_mem_cons.mp N2
  exact List.forall_mem_append.mpr ⟨fun q hq => ⟨hk _ _ (h1 q hq) (N1 q hq).1, (N1 q hq).2⟩, List.forall_mem_cons.mpr ⟨⟨e, z.2⟩, fun q hq => ⟨hk _ _ (h3 q hq) (N3 q hq).1, (N3 q hq).2⟩⟩⟩
theorem compE_append {own : Led} {C D : Addr} {ys : List Value} {y : Value} {J : Led → Prop} {s3 : Shared} (hDL : D ≠ L) (hD₀ : g.get? D = none) (hCD : C ≠ D) (hown : ∀ q ∈ own, q.1 ≠ D) (hsz : ys.length < sizeLine) (h : CompE g L m s own C D (lst ys) J s3) :
    wpAny (model prog w) A (call (.builtin "list.append") [.ref D, y]) (fun _ s5 => CompE g L m s own C D (lst (ys ++ [y])) J s5) (fun _ _ => False) s3 := by
  refine letGoal ?_
  intro Gz
  obtain ⟨h3, tk3, nw3, rfl, F3, ⟨m3, hn3⟩, N3, off3, hJ3⟩ := h
  dsimp only [Gz]
  clear Gz
  refine append_at (hsz := by rw [List.size_toArray]; exact Nat.le_of_lt hsz) (N3 (D, lst ys) (List.mem_append_right _ (.head _))).1 fun h5 hs5 hD5 => ?_
  have keep5 : ∀ b o, b ≠ D → h3.get? b = some o → h5.get? b = some o := fun b o hb e => hs5.extBut b o hb e
  exact ⟨h5, tk3, nw3, rfl, F3.change hs5 hDL hD₀, ⟨m3, hn3.at' fun o e => keep5 _ _ hCD e⟩, news_put N3 keep5 (hD5.trans (congrArg some (lst_snoc ys y))) hown fun q hq => (off3 q hq).2.2, off3, hJ3⟩
noncomputable def CGInv (g : Heap) (L : Addr) (m : Str → Option Value) (s : Shared) (ow : List Addr) (C D : Addr) (n : Nat) (St : Nat → Heap → Prop) (J : Nat → List Value → Led → Prop) (k : Nat) (s' : Shared) : Prop :=
  Ex6 fun h tk i ys m' nw => s' = { s with heap := h, toks := tk } ∧ i + k = n ∧ ys.length ≤ i ∧ St i h ∧ Fr g L h m ∧ h.Ns C m' ∧ News g L h ((D, lst ys) :: nw) ∧ (∀ p ∈ nw, p.1 ∉ ow ∧ p.1 ≠ C ∧ p.1 ≠ D) ∧ J i ys nw
/-- a comprehension's turns, its list and its names already made -/
theorem comp_gen {elt target iter : PySem.Expr} {ifs : List PySem.Expr} {scope : Scope} {cl : List (Str × Addr)} {pos : Pos} {I : Addr} {ow src : List Addr} {n : Nat} {Vl : Nat → Value → Heap → Prop} {St : Nat → Heap → Prop} {RR : Value → Addr → Result → Shared → Prop} {h₁ : Heap} {tk₁ : Nat} {C D : Addr} {mC₁ : Str → Option Value}
    (K : Cur prog w A target I ow src n Vl St) (hsz : n ≤ sizeLine) (J : Nat → List Value → Led → Prop)
    (F₁ : Fr g L h₁ m) (hst₁ : St 0 h₁) (hns₁ : h₁.Ns C mC₁) (N₁ : News g L h₁ ((D, lst []) :: nw)) (off₁ : ∀ p ∈ nw, p.1 ∉ ow ∧ p.1 ≠ C ∧ p.1 ≠ D) (how : ∀ b ∈ ow, b ≠ L ∧ g.get? b = none) (how2 : ∀ b ∈ ow, b ≠ C ∧ b ≠ D)
    (hCD : C ≠ D) (hDL : D ≠ L) (hCL : C ≠ L) (hC₀ : g.get? C = none) (hD₀ : g.get? D = none)
    (h0 : J 0 [] nw) (hS : SrcIn g src (fun nw => Ex2 fun i ys => J i ys nw))
    (turn : ∀ i v ys nw oC mC h tk, i < n → Vl i v h → J i ys nw → NsObj oC mC → Fr g L h m → News g L h (objsAt h ow ++ (C, oC) :: (D, lst ys) :: nw) → C ≠ D →
      (∀ p ∈ nw, (∀ q ∈ objsAt h ow, p.1 ≠ q.1) ∧ p.1 ≠ C ∧ p.1 ≠ D) → (∀ q ∈ objsAt h ow, q.1 ≠ C ∧ q.1 ≠ D) →
      wpAny (model prog w) A (assign target (compEnvC scope cl C env) v) (fun _ s1 => wpAny (model prog w) A (testsOf prog w ifs (compEnvC scope cl C env)) (fun ok s2 =>
        if ok = true then wpAny (model prog w) A (eval elt (compEnvC scope cl C env)) (fun y s3 => CompE g L m s (objsAt h ow) C D (lst ys) (J (i + 1) (ys ++ [y])) s3) (fun _ _ => False) s2
        else CompE g L m s (objsAt h ow) C D (lst ys) (J (i + 1) ys) s2) (fun _ _ => False) s1) (fun _ _ => False) { s with heap := h, toks := tk })
    (hRR : ∀ h tk m' ys nw, Fr g L h m → News g L h ((D, lst ys) :: nw) → (∀ p ∈ nw, p.1 ≠ C ∧ p.1 ≠ D) → h.Ns C m' → g.get? C = none → C ≠ L → C ≠ D → J n ys nw → RR (.ref D) C (.ok .next) { s with heap := h, toks := tk }) :
    codeAny (model prog w) A (.compStart (.ListComp elt [⟨target, iter, ifs, 0⟩] scope pos) 0 (.ref I) (.ref D) (compEnvC scope cl C env)) (RR (.ref D) C) { s with heap := h₁, toks := tk₁ } := by
  have loop : codeAny (model prog w) A (.compLoop (.ListComp elt [⟨target, iter, ifs, 0⟩] scope pos) 0 (.ref I) (.ref D) (compEnvC scope cl C env)) (RR (.ref D) C) { s with heap := h₁, toks := tk₁ } := by
    refine codeAny_compLoop_all (CGInv g L m s ow C D n St J) ?_ n ⟨h₁, _, 0, [], _, nw, rfl, Nat.zero_add n, Nat.le_refl _, hst₁, F₁, hns₁, N₁, off₁, h0⟩
    intro k s' zg102
    refine letGoal ?_
    intro Gz
    obtain ⟨h, tk, i, ys, m', nw, rfl, hk, hyl, hst, F, hn, N, off, hj⟩ := zg102
    dsimp only [Gz]
    clear Gz
    have Nn : News g L h nw := fun p hp => N p (.tail _ hp)
    have offD : ∀ p ∈ (D, lst ys) :: nw, p.1 ∉ ow := List.forall_mem_cons.mpr ⟨fun hm => (how2 _ hm).2 rfl, fun p hp => (off p hp).1⟩
    rcases Nat.lt_or_ge i n with hi | hi
    · refine' wpAny_mono (K.step i _ _ (fun _ _ => False) hi hst ?go) ?im fun _ _ e => e
      case im =>
        intro r s1 h1
        cases r with
        | none => exact h1.elim
        | some v => exact h1
      case go =>
        intro v h' tk' hv hst'' hk'
        have F' := fr_off F how hk'
        have N' := news_off N offD hk'
        obtain ⟨oC, heC, hoC⟩ := ns_obj (hn.at' fun o e => hk' _ _ (fun hm => (how2 _ hm).1 rfl) e)
        have hown : ∀ q ∈ objsAt h' ow, q.1 ∈ ow := fun q hq => (objsAt_get (K.has _ _ hst'') q hq).1
        have fin : ∀ ys' s5, ys'.length ≤ i + 1 → CompE g L m s (objsAt h' ow) C D (lst ys') (J (i + 1) ys') s5 → ∃ k', k' < k ∧ CGInv g L m s ow C D n St J k' s5 := by
          intro ys' s5 hl zg103
          refine letGoal ?_
          intro Gz
          obtain ⟨h3, tk3, nw3, rfl, F3, ⟨m3, hn3⟩, N3, off3, hJ3⟩ := zg103
          dsimp only [Gz]
          clear Gz
          exact ⟨k - 1, by (first | lia | omega), h3, tk3, i + 1, ys', m3, nw3, rfl, by (first | lia | omega), hl, cur_frame K hst'' hS F' (fun p hp => N' p (.tail _ hp)) F3 (fun p hp => N3 p (List.mem_append_right _ (.tail _ hp))) (fun q hq => (N3 q (List.mem_append_left _ hq)).1) ⟨_, _, hj⟩ ⟨_, _, hJ3⟩, F3, hn3,
            fun p hp => N3 p (List.mem_append_right _ hp), fun p hp => ⟨fun hm => (off3 p hp).1 _ (List.mem_map_of_mem hm) rfl, (off3 p hp).2⟩, hJ3⟩
        refine wpAny_mono (turn i v ys nw oC m' h' _ hi hv hj hoC F' (news_own K hst'' how (led_cons ⟨heC, hCL, hC₀⟩ N')) hCD (fun p hp => ⟨fun q hq e => (off p hp).1 (e ▸ hown q hq), (off p hp).2⟩) fun q hq => how2 _ (hown q hq)) (fun _ s1 h1 => wpAny_mono h1 (fun ok s2 h2 => ?_) fun _ _ e => e) fun _ _ e => e
        cases ok with
        | true =>
          simp only [if_true] at h2 ⊢
          exact wpAny_mono h2 (fun y s3 h3 => wpAny_mono (compE_append hDL hD₀ hCD (fun q hq => (how2 _ (hown q hq)).2) (Nat.lt_of_le_of_lt hyl (Nat.lt_of_lt_of_le hi hsz)) h3) (fun _ s5 h5 => fin _ _ (by rw [List.length_append, List.length_singleton]; exact Nat.succ_le_succ hyl) h5) fun _ _ e => e) fun _ _ e => e
        | false =>
          simp only [Bool.false_eq_true, if_false] at h2 ⊢
          exact fin _ _ (Nat.le_succ_of_le hyl) h2
    · have hi' : i = n := by (first | lia | omega)
      subst hi'
      exact K.done _ _ _ hst fun h' tk' hk' => hRR h' _ m' ys nw (fr_off F how hk') (news_off N offD hk') (fun p hp => (off p hp).2) (hn.at' fun o e => hk' _ _ (fun hm => (how2 _ hm).1 rfl) e) hC₀ hCL hCD hj
  exact codeAny_compStart_list loop (K.self 0 _ _ _ hst₁ loop)
theorem comp_cur {elt target iter : PySem.Expr} {ifs : List PySem.Expr} {scope : Scope} {cl : List (Str × Addr)} {pos : Pos} {I : Addr} {ow src : List Addr} {n : Nat} {Vl : Nat → Value → Heap → Prop} {St : Nat → Heap → Prop} {RR : Value → Addr → Result → Shared → Prop}
    (K : Cur prog w A target I ow src n Vl St) (hsz : n ≤ sizeLine) (J : Nat → List Value → Led → Prop)
    (hcell : ∀ y ∈ scope.names, y.2 ≠ .cell) (hkind : scope.kind = .function)
    (F : Fr g L s.heap m) (N : News g L s.heap nw) (hst : St 0 s.heap) (how : ∀ b ∈ ow, b ≠ L ∧ g.get? b = none) (off : ∀ p ∈ nw, p.1 ∉ ow)
    (h0 : J 0 [] nw) (hS : SrcIn g src (fun nw => Ex2 fun i ys => J i ys nw))
    (turn : ∀ i v ys nw C oC mC D h tk, i < n → Vl i v h → J i ys nw → NsObj oC mC → Fr g L h m → News g L h (objsAt h ow ++ (C, oC) :: (D, lst ys) :: nw) → C ≠ D →
      (∀ p ∈ nw, (∀ q ∈ objsAt h ow, p.1 ≠ q.1) ∧ p.1 ≠ C ∧ p.1 ≠ D) → (∀ q ∈ objsAt h ow, q.1 ≠ C ∧ q.1 ≠ D) →
      wpAny (model prog w) A (assign target (compEnvC scope cl C env) v) (fun _ s1 => wpAny (model prog w) A (testsOf prog w ifs (compEnvC scope cl C env)) (fun ok s2 =>
        if ok = true then wpAny (model prog w) A (eval elt (compEnvC scope cl C env)) (fun y s3 => CompE g L m s (objsAt h ow) C D (lst ys) (J (i + 1) (ys ++ [y])) s3) (fun _ _ => False) s2
        else CompE g L m s (objsAt h ow) C D (lst ys) (J (i + 1) ys) s2) (fun _ _ => False) s1) (fun _ _ => False) { s with heap := h, toks := tk })
    (hRR : ∀ D C h tk m' ys nw, Fr g L h m → News g L h ((D, lst ys) :: nw) → (∀ p ∈ nw, p.1 ≠ C ∧ p.1 ≠ D) → h.Ns C m' → g.get? C = none → C ≠ L → C ≠ D → J n ys nw → RR (.ref D) C (.ok .next) { s with heap := h, toks := tk }) :
    wpAny (model prog w) A (newList []) (fun acc s₃ => wpAny (model prog w) A (newFunctionEnv scope env.globals cl [] env.qual none .none (some env)) (fun cenv s₄ =>
      codeAny (model prog w) A (.compStart (.ListComp elt [⟨target, iter, ifs, 0⟩] scope pos) 0 (.ref I) acc { cenv with scope := relabel scope env }) (RR acc cenv.locals) s₄) E s₃) E s := by
  refine wpAny_newObj_type (wpAny_newFunctionEnv hcell (by intro y hy; simp at hy) (fun h₁ hns₁ hsb₁ => ?_) hkind)
  dsimp only at hns₁ hsb₁ ⊢
  generalize hH2 : s.heap.push { cls := .type "list", dict := none, data := .seq ([] : List Value).toArray } = H2 at hns₁ hsb₁ ⊢
  generalize hDd : s.heap.objs.size = D at *
  have hC : H2.objs.size = D + 1 := by rw [← hH2, Heap.size_push, hDd]
  generalize hCc : H2.objs.size = C at *
  have hCD : C ≠ D := by rw [hC]; exact Nat.succ_ne_self _
  have lt2 : ∀ b, b < D → b ≠ C ∧ b ≠ D := fun b hb => ⟨by rw [hC]; exact Nat.ne_of_lt (Nat.lt_succ_of_lt hb), Nat.ne_of_lt hb⟩
  have old : ∀ b o, s.heap.get? b = some o → h₁.get? b = some o := fun b o e => hsb₁.extBut b o (lt2 b (hDd ▸ Heap.lt_size e)).1 (Heap.get?_push_of_some _ (hH2 ▸ Heap.get?_push_of_some _ e))
  have hacc : h₁.get? D = some (lst []) := hsb₁.extBut _ _ (Ne.symm hCD) (Heap.get?_push_of_some _ (hH2 ▸ hDd ▸ Heap.get?_push_size _ rfl))
  have fresh : ∀ a, D ≤ a → g.get? a = none := fun a ha => by
    cases e : g.get? a with
    | none => rfl
    | some o' => exact absurd (Heap.lt_size (F.keep a o' e)) (Nat.not_lt.mpr (hDd ▸ ha))
  have hD₀ : g.get? D = none := fresh _ (Nat.le_refl _)
  have hC₀ : g.get? C = none := fresh _ (by rw [hC]; exact Nat.le_succ _)
  have hLlt : L < D := hDd ▸ F.ns.lt
  have hDL : D ≠ L := Ne.symm (lt2 L hLlt).2
  have hCL : C ≠ L := Ne.symm (lt2 L hLlt).1
  have how2 : ∀ b ∈ ow, b ≠ C ∧ b ≠ D := fun b hb => by
    obtain ⟨o, e⟩ := K.has _ _ hst b hb
    exact lt2 b (hDd ▸ Heap.lt_size e)
  have hst₁ : St 0 h₁ := K.frame 0 _ _ hst fun b _ o e => old b o e
  have F₁ : Fr g L h₁ m := F.keeps old
  have N₁ : News g L h₁ ((D, lst []) :: nw) := led_cons ⟨hacc, hDL, hD₀⟩ fun q hq => ⟨old _ _ (N q hq).1, (N q hq).2⟩
  have off₁ : ∀ p ∈ nw, p.1 ∉ ow ∧ p.1 ≠ C ∧ p.1 ≠ D := fun p hp => ⟨off p hp, lt2 _ (hDd ▸ Heap.lt_size (N p hp).1)⟩
  exact comp_gen K hsz J F₁ hst₁ hns₁ N₁ off₁ how how2 hCD hDL hCL hC₀ hD₀ h0 hS (fun i v ys nw oC mC h tk => turn i v ys nw C oC mC D h tk) (fun h tk m' ys nw => hRR D C h tk m' ys nw)
end
end Mine

end
section
open PySem PySem.W PyProof.Rows PySem.Calls PySem.Spec PyProof.Rows.LCg
set_option genInjectivity false
set_option genSizeOf false
set_option maxRecDepth 100000
namespace Mine
section
variable {prog : Program} {w : World} {A : Around}
theorem Cur.ofWalks {target : PySem.Expr} {I : Addr} {src : List Addr} {n : Nat} {P : Nat → Value → Prop} {St : Nat → Heap → Prop} {fp : List Addr} (W : Walks prog w A I fp [I] n P St) (hfp : ∀ b ∈ fp, b = I ∨ b ∈ src) (hI : ∀ i h, St i h → ∃ o, h.get? I = some o)
    (ht : ∀ i v (s : Shared) (Q : Unit → Shared → Prop) (E : Value → Shared → Prop), P i v → St (i + 1) s.heap → Q () s → wpAny (model prog w) A (letOwnedTupleGo target (.ref I) v) Q E s) : Cur prog w A target I [I] src n (fun i v _ => P i v) St where
  frame := fun i h h' st hk => W.frame i h h' st fun b hb o e => hk b (by rcases hfp b hb with q | q; exact .inl (by simp [q]); exact .inr q) o e
  has := fun i h st b hb => by rw [List.mem_singleton.mp hb]; exact hI i h st
  step := fun i s Q E hi st hQ => W.item i s _ E hi st fun v h' tk hv st' hk => ht i v _ _ _ hv st' (hQ v h' tk hv st' hk)
  done := fun s Q E st hQ => W.done s Q E st hQ
  self := W.self
theorem Cur.listG {target : PySem.Expr} (hh : A.handled = none) (I l : Addr) (hne : l ≠ I) (its : Array Value) (hgo : ∀ (s : Shared) (Q : Unit → Shared → Prop) (E : Value → Shared → Prop) I i x, s.heap.IsListIter I l i → its[i - 1]? = some x → Q () s → wpAny (model prog w) A (letOwnedTupleGo target (.ref I) x) Q E s) :
    Cur prog w A target I [I] [l] its.size (fun i v _ => its[i]? = some v) (fun i h => h.IsListIter I l i ∧ h.IsList l its) :=
  Cur.ofWalks (Walks.list hh I l hne its) (fun b hb => by simpa using hb) (fun i h st => by obtain ⟨o, e, _⟩ := st.1; exact ⟨o, e⟩) fun i v s Q E hv st h => hgo s Q E I (i + 1) v st.1 hv h
theorem Cur.list {x : Str} {px : Pos} (hh : A.handled = none) (I l : Addr) (hne : l ≠ I) (its : Array Value) :
    Cur prog w A (.Name x px) I [I] [l] its.size (fun i v _ => its[i]? = some v) (fun i h => h.IsListIter I l i ∧ h.IsList l its) :=
  Cur.ofWalks (Walks.list hh I l hne its) (fun b hb => by simpa using hb) (fun i h st => by obtain ⟨o, e, _⟩ := st.1; exact ⟨o, e⟩) fun i v s Q E _ _ h => go_name s Q E I v h
theorem Cur.tuple {x : Str} {px : Pos} (hh : A.handled = none) (I l : Addr) (hne : l ≠ I) (its : Array Value) :
    Cur prog w A (.Name x px) I [I] [l] its.size (fun i v _ => its[i]? = some v) (fun i h => h.IsTupleIter I l i ∧ h.IsTuple l its) :=
  Cur.ofWalks (Walks.tuple hh I l hne its) (fun b hb => by simpa using hb) (fun i h st => by obtain ⟨o, e, _⟩ := st.1; exact ⟨o, e⟩) fun i v s Q E _ _ h => go_name s Q E I v h
theorem Cur.range {x : Str} {px : Pos} (hh : A.handled = none) (I : Addr) (a c : Int) (n : Nat) :
    Cur prog w A (.Name x px) I [I] [] n (fun i v _ => ∃ t, v = .int (a + i * c) t) (fun i h => IsRangeIter h I (a + (i : Nat) * c) ((n : Int) - (i : Nat)) c) :=
  Cur.ofWalks (Walks.range hh I a c n) (fun b hb => .inl (by simpa using hb)) (fun i h st => ⟨_, st⟩) fun i v s Q E _ _ h => go_name s Q E I v h
theorem Cur.ofU {elts : List PySem.Expr} {k : Nat} {pos : Pos} {I : Addr} {ow src fp wr : List Addr} {n : Nat} {Pt : Nat → Array Value → Prop} {St : Nat → Heap → Prop} {Mid : Nat → Addr → Heap → Prop} (W : WalksT prog w A I fp wr n Pt St Mid)
    (hfp : ∀ b ∈ fp, b ∈ ow ∨ b ∈ src) (hwr : ∀ b ∈ wr, b ∈ ow) (hI : ∀ i h, St i h → ∀ b ∈ ow, ∃ o, h.get? b = some o) : Cur prog w A (.Tuple elts k pos) I ow src n (fun i v h => Ex2 fun T vals => v = .ref T ∧ Pt i vals ∧ h.IsTuple T vals) St where
  frame := fun i h h' st hk => W.frame i h h' st fun b hb o e => hk b (hfp b hb) o e
  has := hI
  step := fun i s Q E hi st hQ => W.item i s _ E hi st fun T vals h' tk hP hsz hT hm hk => W.go elts k pos i T _ _ _ hm fun h'' st' hk' =>
    hQ (.ref T) h'' tk ⟨T, vals, rfl, hP, hT.at fun o e => hk' T o (W.apart i T h' hm) e⟩ st' fun b o hb e => hk' b o (fun q => hb (hwr b q)) (hk b o (fun q => hb (hwr b q)) e)
  done := fun s Q E st hQ => W.done s Q E st fun h' tk hk => hQ h' tk fun b o hb e => hk b o (fun q => hb (hwr b q)) e
  self := W.self
end
/-! for over a range -/
section
variable {prog : Program} {w : World} {A : Around} {E : Value → Shared → Prop} {s : Shared} {g : Heap} {L l : Addr} {m : Str → Option Value} {nw : Led} {env : Env}
theorem objsAt_one {h : Heap} {I : Addr} {nw : Led} : objsAt h [I] ++ nw = (I, (h.get? I).getD { cls := .none, data := .seq #[] }) :: nw := rfl
theorem fresh_of (F : Fr g L s.heap m) : g.get? s.heap.objs.size = none := by
  cases e : g.get? s.heap.objs.size with
  | none => rfl
  | some o => exact absurd (Heap.lt_size (F.keep _ _ e)) (Nat.lt_irrefl _)
theorem list_cend {I : Addr} {oI : Obj} {J : (Str → Option Value) → Led → Prop} {Q : Flow → Shared → Prop} {f : Flow} {s s' : Shared} (h : ListEnd g L s I oI J Q f s') : CEnd g L s [(I, oI)] J Q f s' := by
  cases f with
  | brk => exact h
  | ret v => exact h
  | next =>
    obtain ⟨m', nw', h', tk', e, F3, N3, off3, hJ3⟩ := h
    exact ⟨m', nw', h', tk', e, F3, N3, fun p hp => List.forall_mem_singleton.mpr (off3 p hp), hJ3⟩
  | cont =>
    obtain ⟨m', nw', h', tk', e, F3, N3, off3, hJ3⟩ := h
    exact ⟨m', nw', h', tk', e, F3, N3, fun p hp => List.forall_mem_singleton.mpr (off3 p hp), hJ3⟩
theorem for_list {its : Array Value} {n : Nat} {target : PySem.Expr} {body : List Stmt} {Q : Flow → Shared → Prop} (hh : A.handled = none) (J : Nat → (Str → Option Value) → List (Addr × Obj) → Prop)
    (F : Fr g env.locals s.heap m) (N : News g env.locals s.heap nw) (hm : (l, listOf its n) ∈ nw) (h0 : J 0 m nw) (hJ : ∀ i m nw, J i m nw → (l, listOf its n) ∈ nw)
    (hgo : ∀ (s : Shared) (Q : Unit → Shared → Prop) (E : Value → Shared → Prop) I i x, s.heap.IsListIter I l i → its[i - 1]? = some x → Q () s → wpAny (model prog w) A (letOwnedTupleGo target (.ref I) x) Q E s)
    (turn : ∀ i x m nw I oI h tk, its[i]? = some x → J i m nw → Fr g env.locals h m → News g env.locals h ((I, oI) :: nw) → (∀ p ∈ nw, p.1 ≠ I) →
      wpAny (model prog w) A (assign target env x) (fun _ s2 => wpAny (model prog w) A (execs body env) (ListEnd g env.locals s I oI (J (i + 1)) Q) (fun _ _ => False) s2) (fun _ _ => False) { s with heap := h, toks := tk })
    (done : ∀ m nw h tk, J its.size m nw → Fr g env.locals h m → News g env.locals h nw → Q .next { s with heap := h, toks := tk }) :
    wpAny (model prog w) A (pyIter (.ref l)) (fun it s2 => codeAny (model prog w) A (.forLoop target it body [] env) (Fl Q) s2) E s := by
  refine wpAny_pyIter_list ⟨_, (N _ hm).1, rfl, _, rfl⟩ ?_
  refine for_cur (Cur.listG hh s.heap.objs.size l (Nat.ne_of_lt (Heap.lt_size (N _ hm).1)) its hgo) J (F.push _) (N.grown fun _ _ e => Heap.get?_push_of_some _ e) ⟨⟨_, Heap.get?_push_size _ rfl, rfl, rfl⟩, ⟨_, Heap.get?_push_of_some _ (N _ hm).1, rfl, _, rfl⟩⟩
    (List.forall_mem_singleton.mpr ⟨Ne.symm (Nat.ne_of_lt F.ns.lt), fresh_of F⟩) (fun p hp hm => Nat.ne_of_lt (Heap.lt_size (N p hp).1) (List.mem_singleton.mp hm)) h0 (List.forall_mem_singleton.mpr (.inr ⟨_, fun nw ⟨i, m, j⟩ => hJ i m nw j⟩)) ?_ done
  intro i v m nw h tk _ hv hj F' N' off
  exact wpAny_mono (turn i v m nw s.heap.objs.size _ h tk hv hj F' N' fun p hp => off p hp _ (.head _)) (fun _ s1 h1 => wpAny_mono h1 (fun f s3 h3 => list_cend h3) fun _ _ e => e) fun _ _ e => e
theorem for_range {x : Str} {px : Pos} {body : List Stmt} {Q : Flow → Shared → Prop} {r : Addr} {a b c : Int} {t u v : Tok} {n : Nat} (hh : A.handled = none) (J : Nat → (Str → Option Value) → Led → Prop)
    (F : Fr g env.locals s.heap m) (N : News g env.locals s.heap nw) (hr : IsRange s.heap r a b c t u v) (hsm : Builtin.Range.small a b c = true) (hn : Builtin.Range.rangeSize a b c = ((n : Nat) : Int))
    (hx : env.kindOf x = some .local) (hp : (env.scope.kind == .class || (env.scope.kind == .module && env.locals != env.globals)) = false)
    (h0 : J 0 m nw)
    (turn : ∀ i m nw I oI h tk t, i < n → J i m nw → Fr g env.locals h (fun y => if y = x then some (.int (a + i * c) t) else m y) → News g env.locals h ((I, oI) :: nw) → (∀ p ∈ nw, p.1 ≠ I) →
      wpAny (model prog w) A (execs body env) (ListEnd g env.locals s I oI (J (i + 1)) Q) (fun _ _ => False) { s with heap := h, toks := tk })
    (done : ∀ m nw h tk, J n m nw → Fr g env.locals h m → News g env.locals h nw → Q .next { s with heap := h, toks := tk }) :
    wpAny (model prog w) A (pyIter (.ref r)) (fun it s2 => codeAny (model prog w) A (.forLoop (.Name x px) it body [] env) (Fl Q) s2) E s := by
  refine wpAny_pyIter_range hr hsm ?_
  refine for_cur (Cur.range hh s.heap.objs.size a c n) J (F.push _) (N.grown fun _ _ e => Heap.get?_push_of_some _ e) ?_ ?_ (fun p hp => by simpa using Nat.ne_of_lt (Heap.lt_size (N p hp).1)) h0 (fun b hb => nomatch hb) ?_ done
  · show IsRangeIter _ _ _ _ _
    rw [hn]
    simpa using Heap.get?_push_size _ rfl
  · intro b hb
    rw [List.mem_singleton.mp hb]
    exact ⟨Ne.symm (Nat.ne_of_lt F.ns.lt), fresh_of F⟩
  · rintro i v m nw h tk hi ⟨t, rfl⟩ hJ F' N' off
    rw [objsAt_one] at N'
    refine wpAny_assign_Name (wpAny_storeName_local hx F'.ns (fun h2 n2 s2 => ?_) hp)
    exact wpAny_mono (turn i m nw s.heap.objs.size _ h2 _ t hi hJ (Mine.Fr.store F' n2 s2) (Mine.News.store N' s2) fun p hp => off p hp _ (.head _)) (fun f s3 h3 => list_cend h3) fun _ _ e => e
end
/-! comprehensions -/
section
variable {prog : Program} {w : World} {A : Around} {E : Value → Shared → Prop} {s : Shared} {g : Heap} {L l : Addr} {m : Str → Option Value} {nw : Led} {env : Env}
noncomputable def CompTail (prog : Program) (w : World) (A : Around) (E : Value → Shared → Prop) (env : Env) (elt target iter : PySem.Expr) (ifs : List PySem.Expr) (scope : Scope) (cl : List (Str × Addr)) (pos : Pos) (use : Option (Value → Sem Unit)) (Q : Value → Shared → Prop) (it : Value) (s : Shared) : Prop :=
  wpAny (model prog w) A (newList []) (fun acc s₃ => wpAny (model prog w) A (newFunctionEnv scope env.globals cl [] env.qual none .none (some env)) (fun cenv s₄ =>
      codeAny (model prog w) A (.compStart (.ListComp elt [⟨target, iter, ifs, 0⟩] scope pos) 0 it acc { cenv with scope := relabel scope env }) (compPost (model prog w) A E use Q acc cenv.locals) s₄) E s₃) E s
theorem eval_comp {elt target iter : PySem.Expr} {ifs : List PySem.Expr} {scope : Scope} {cl : List (Str × Addr)} {pos : Pos} {Q : Value → Shared → Prop}
    (hclos : closureFor scope env = pure cl) (hkind : scope.kind = .function) (hnames : ∀ y ∈ scope.names, y.2 = .local → scope.names.lookup y.1 = some .local)
    (h : wpAny (model prog w) A (eval iter env) (fun xv s₁ => wpAny (model prog w) A (pyIter xv) (CompTail prog w A E env elt target iter ifs scope cl pos none Q) E s₁) E s)
    (hs : ∀ x, foldedSetIterable iter env x = pure x := by intro _; rfl) :
    wpAny (model prog w) A (eval (.ListComp elt [⟨target, iter, ifs, 0⟩] scope pos) env) Q E s := by
  rw [eval_ListComp]
  exact wpAny_comprehension_free (use := none) rfl hs hclos hkind hnames h
theorem assign_comp {elt target iter : PySem.Expr} {ifs : List PySem.Expr} {y : Str} {py : Pos} {scope : Scope} {cl : List (Str × Addr)} {pos spos : Pos} {Q : Flow → Shared → Prop}
    (hsw : swapsWith (.ListComp elt [⟨target, iter, ifs, 0⟩] scope pos) (some (.Name y py)) spos.line env = pure true)
    (hclos : closureFor scope env = pure cl) (hkind : scope.kind = .function) (hnames : ∀ y ∈ scope.names, y.2 = .local → scope.names.lookup y.1 = some .local)
    (h : wpAny (model prog w) A (eval iter env) (fun xv s₁ => wpAny (model prog w) A (pyIter xv) (CompTail prog w A E env elt target iter ifs scope cl pos (some (assign (.Name y py) env)) (fun _ s' => Q .next s')) E s₁) E s)
    (hs : ∀ x, foldedSetIterable iter env x = pure x := by intro _; rfl) :
    wpAny (model prog w) A (exec (.Assign [.Name y py] (.ListComp elt [⟨target, iter, ifs, 0⟩] scope pos) spos) env) Q E s := by
  rw [exec_Assign_Name_used _ _ _ _ hsw]
  refine wpAny_bind (wpAny_standAt (wpAny_bind ?_))
  show wpAny _ A (do let _ ← comprehension (.ListComp elt [⟨target, iter, ifs, 0⟩] scope pos) scope env _ (newList []) false (eval iter env) (some (assign (.Name y py) env))) _ _ s
  exact wpAny_bind (wpAny_mono (wpAny_comprehension_free (use := some (assign (.Name y py) env)) (Q := fun _ s' => Q .next s') rfl hs hclos hkind hnames h) (fun _ s' hq => wpAny_pure (wpAny_pure hq)) fun _ _ e => e)
/-- what stands behind a comprehension -/
noncomputable def FinC (g : Heap) (L : Addr) (m : Str → Option Value) (s : Shared) (Q : Value → Shared → Prop) (ys : List Value) (nw : Led) : Prop :=
  ∀ D h tk, Fr g L h m → News g L h ((D, lst ys) :: nw) → (∀ p ∈ nw, p.1 ≠ D) → Q (.ref D) { s with heap := h, toks := tk }
noncomputable def FinCA (g : Heap) (L : Addr) (m : Str → Option Value) (s : Shared) (y : Str) (Q : Value → Shared → Prop) (ys : List Value) (nw : Led) : Prop :=
  ∀ D h tk, Fr g L h (fun z => if z = y then some (.ref D) else m z) → News g L h ((D, lst ys) :: nw) → (∀ p ∈ nw, p.1 ≠ D) → Q .none { s with heap := h, toks := tk }
noncomputable def UseFin (env : Env) (use : Option (Value → Sem Unit)) (g : Heap) (L : Addr) (m : Str → Option Value) (s : Shared) (Q : Value → Shared → Prop) (ys : List Value) (nw : Led) : Prop := match use with
  | none => FinC g L m s Q ys nw
  | some u => Ex2 fun y py => u = assign (.Name y py) env ∧ env.locals = L ∧ env.kindOf y = some .local ∧ (env.scope.kind == .class || (env.scope.kind == .module && env.locals != env.globals)) = false ∧ FinCA g L m s y Q ys nw
theorem use_fin {use : Option (Value → Sem Unit)} {Q : Value → Shared → Prop} {D C : Addr} {h : Heap} {tk : Nat} {m' : Str → Option Value} {ys : List Value} {nw : Led} (F : Fr g L h m) (N : News g L h ((D, lst ys) :: nw)) (off : ∀ p ∈ nw, p.1 ≠ C ∧ p.1 ≠ D) (hn : h.Ns C m') (hC₀ : g.get? C = none) (hCL : C ≠ L) (hCD : C ≠ D)
    (fin : UseFin env use g L m s Q ys nw) : compPost (model prog w) A E use Q (.ref D) C (.ok .next) { s with heap := h, toks := tk } := by
  have offC : ∀ p ∈ (D, lst ys) :: nw, p.1 ≠ C := fun p hp => by
    rcases List.mem_cons.mp hp with rfl | hp
    · exact Ne.symm hCD
    · exact (off p hp).1
  cases use with
  | none =>
    refine ⟨m', hn, fun h'' hs'' => fin D h'' tk (F.change hs'' hCL hC₀) (fun p hp => ?_) fun p hp => (off p hp).2⟩
    exact ⟨hs''.extBut _ _ (offC p hp) (N p hp).1, (N p hp).2⟩
  | some u =>
    obtain ⟨y, py, rfl, rfl, hy, hp, fin⟩ := fin
    show wpAny _ A (assign (.Name y py) env (.ref D)) _ _ _
    refine wpAny_assign_Name (wpAny_storeName_local hy F.ns (fun h₂ hn₂ hs₂ => ?_) hp)
    have F₂ := Mine.Fr.store F hn₂ hs₂
    have N₂ := Mine.News.store N hs₂
    refine ⟨m', hn.sameBut hs₂ hCL, fun h'' hs'' => fin D h'' _ (F₂.change hs'' hCL hC₀) (fun p hp => ?_) fun p hp => (off p hp).2⟩
    exact ⟨hs''.extBut _ _ (offC p hp) (N₂ p hp).1, (N₂ p hp).2⟩
/-- a turn's end in a comprehension -/
noncomputable def CE (g : Heap) (L : Addr) (m : Str → Option Value) (s : Shared) (own : Led) (J : Led → Prop) (s' : Shared) : Prop :=
  Ex3 fun h' tk' nw' => s' = { s with heap := h', toks := tk' } ∧ Fr g L h' m ∧ News g L h' (own ++ nw') ∧ (∀ p ∈ nw', ∀ q ∈ own, p.1 ≠ q.1) ∧ J nw'
theorem CE.intro {own all : Led} {J : Led → Prop} {h' : Heap} {tk' : Nat} (F : Fr g L h' m) (N : News g L h' all) (nw' : Led) (sub : ∀ p ∈ own ++ nw', p ∈ all) (off : ∀ p ∈ nw', ∀ q ∈ own, p.1 ≠ q.1) (hJ : J nw') : CE g L m s own J { s with heap := h', toks := tk' } :=
  ⟨h', tk', nw', rfl, F, fun p hp => N p (sub p hp), off, hJ⟩
noncomputable def CTurn (prog : Program) (w : World) (A : Around) (g : Heap) (L : Addr) (m : Str → Option Value) (s : Shared) (elt : PySem.Expr) (ifs : List PySem.Expr) (cenv : Env) (own : Led) (Jy : Value → Led → Prop) (Jn : Led → Prop) (s1 : Shared) : Prop :=
  wpAny (model prog w) A (testsOf prog w ifs cenv) (fun ok s2 => if ok = true then wpAny (model prog w) A (eval elt cenv) (fun y s3 => CE g L m s own (Jy y) s3) (fun _ _ => False) s2 else CE g L m s own Jn s2) (fun _ _ => False) s1
theorem CTurn.nil {elt : PySem.Expr} {cenv : Env} {own : Led} {Jy : Value → Led → Prop} {Jn : Led → Prop} {s1 : Shared} (h : wpAny (model prog w) A (eval elt cenv) (fun y s3 => CE g L m s own (Jy y) s3) (fun _ _ => False) s1) : CTurn prog w A g L m s elt [] cenv own Jy Jn s1 :=
  wpAny_tests_nil (by simpa using h)
theorem CTurn.one {elt ct : PySem.Expr} {cenv : Env} {own : Led} {Jy : Value → Led → Prop} {Jn : Led → Prop} {s1 : Shared} (h : wpAny (model prog w) A (isTrue ct cenv (eval ct cenv)) (fun ok s2 => if ok = true then wpAny (model prog w) A (eval elt cenv) (fun y s3 => CE g L m s own (Jy y) s3) (fun _ _ => False) s2 else CE g L m s own Jn s2) (fun _ _ => False) s1) : CTurn prog w A g L m s elt [ct] cenv own Jy Jn s1 :=
  wpAny_tests_one h
theorem cturn_conv {elt : PySem.Expr} {ifs : List PySem.Expr} {cenv : Env} {own0 : Led} {C D : Addr} {oC : Obj} {ys : List Value} {J : Nat → List Value → Led → Prop} {i : Nat} {s1 : Shared} {st0 : Shared} (hoC : ∃ mC, NsObj oC mC)
    (h : CTurn prog w A g L m s elt ifs cenv (own0 ++ [(C, oC), (D, lst ys)]) (fun y => J (i + 1) (ys ++ [y])) (J (i + 1) ys) s1) :
    wpAny (model prog w) A (testsOf prog w ifs cenv) (fun ok s2 => if ok = true then wpAny (model prog w) A (eval elt cenv) (fun y s3 => CompE g L m s own0 C D (lst ys) (J (i + 1) (ys ++ [y])) s3) (fun _ _ => False) s2
        else CompE g L m s own0 C D (lst ys) (J (i + 1) ys) s2) (fun _ _ => False) s1 := by
  obtain ⟨mC, hoC⟩ := hoC
  have key : ∀ {P : Led → Prop} {s' : Shared}, CE g L m s (own0 ++ [(C, oC), (D, lst ys)]) P s' → CompE g L m s own0 C D (lst ys) P s' := by
    intro P s' zg152
    refine letGoal ?_
    intro Gz
    obtain ⟨h', tk', nw', rfl, F, N, off, hJ⟩ := zg152
    dsimp only [Gz]
    clear Gz
    refine ⟨h', tk', nw', rfl, F, ⟨mC, hoC.ns (N (C, oC) (List.mem_append_left _ (List.mem_append_right _ (.head _)))).1⟩, fun q hq => N q ?_, fun p hp => ⟨fun q hq => off p hp q (List.mem_append_left _ hq), off p hp (C, oC) (List.mem_append_right _ (.head _)), off p hp (D, lst ys) (List.mem_append_right _ (.tail _ (.head _)))⟩, hJ⟩
    rcases List.mem_append.mp hq with hq | hq
    · exact List.mem_append_left _ (List.mem_append_left _ hq)
    · rcases List.mem_cons.mp hq with rfl | hq
      · exact List.mem_append_left _ (List.mem_append_right _ (.tail _ (.head _)))
      · exact List.mem_append_right _ hq
  refine wpAny_mono h (fun ok s2 h2 => ?_) fun _ _ e => e
  cases ok with
  | true =>
    simp only [if_true] at h2 ⊢
    exact wpAny_mono h2 (fun y s3 h3 => key h3) fun _ _ e => e
  | false =>
    simp only [Bool.false_eq_true, if_false] at h2 ⊢
    exact key h2
theorem off_three {I C D : Addr} {oI oC oD : Obj} {nw : Led} (h : ∀ p ∈ nw, (∀ q ∈ [(I, oI)], p.1 ≠ q.1) ∧ p.1 ≠ C ∧ p.1 ≠ D) : ∀ p ∈ nw, ∀ q ∈ [(I, oI), (C, oC), (D, oD)], p.1 ≠ q.1 := by
  exact fun p hp => fm3 ((h p hp).1 _ (.head _)) (h p hp).2.1 (h p hp).2.2
theorem comp_name {elt iter : PySem.Expr} {x : Str} {px : Pos} {ifs : List PySem.Expr} {scope : Scope} {cl : List (Str × Addr)} {pos : Pos} {use : Option (Value → Sem Unit)} {Q : Value → Shared → Prop} {I : Addr} {src : List Addr} {n : Nat} {P : Nat → Value → Prop} {St : Nat → Heap → Prop}
    (K : Cur prog w A (.Name x px) I [I] src n (fun i v _ => P i v) St) (hsz : n ≤ sizeLine) (J : Nat → List Value → Led → Prop)
    (hcell : ∀ y ∈ scope.names, y.2 ≠ .cell) (hkind : scope.kind = .function) (hx : scope.names.lookup x = some .local)
    (F : Fr g L s.heap m) (N : News g L s.heap nw) (hst : St 0 s.heap) (how : I ≠ L ∧ g.get? I = none) (off : ∀ p ∈ nw, p.1 ≠ I)
    (h0 : J 0 [] nw) (hS : SrcIn g src (fun nw => Ex2 fun i ys => J i ys nw))
    (turn : ∀ i v ys nw oI C oC mC D h tk, i < n → P i v → J i ys nw → NsObj oC mC → mC x = some v → Fr g L h m → News g L h ((I, oI) :: (C, oC) :: (D, lst ys) :: nw) → (∀ p ∈ nw, ∀ q ∈ [(I, oI), (C, oC), (D, lst ys)], p.1 ≠ q.1) → ((@Ne Nat I C) ∧ (@Ne Nat I D) ∧ (@Ne Nat C D)) →
      CTurn prog w A g L m s elt ifs (compEnvC scope cl C env) [(I, oI), (C, oC), (D, lst ys)] (fun y => J (i + 1) (ys ++ [y])) (J (i + 1) ys) { s with heap := h, toks := tk })
    (fin : ∀ ys nw, J n ys nw → UseFin env use g L m s Q ys nw) :
    CompTail prog w A E env elt (.Name x px) iter ifs scope cl pos use Q (.ref I) s := by
  refine comp_cur K hsz J hcell hkind F N hst (fun b hb => by rw [List.mem_singleton.mp hb]; exact how) (fun p hp => by simpa using off p hp) h0 hS ?_ ?_
  · intro i v ys nw C oC mC D h tk hi hv hJ hoC F N hCD off offI
    refine letGoal ?_
    intro Gz
    obtain ⟨oI, e1⟩ : ∃ oI, objsAt h [I] = [(I, oI)] := ⟨_, rfl⟩
    dsimp only [Gz]
    clear Gz
    rw [e1] at N off offI ⊢
    have zC := N (C, oC) (.tail _ (.head _))
    have zI := offI (I, oI) (.head _)
    refine wpAny_assign_Name (wpAny_storeName_local (lookup_relabel_local hx) (hoC.ns zC.1) (fun h2 hn2 hs2 => ?_) (by simp [compEnvC, relabel, hkind]))
    obtain ⟨oC2, heC2, hoC2⟩ := ns_obj hn2
    refine cturn_conv (st0 := s) ⟨_, hoC2⟩ ?_
    have F2 : Fr g L h2 m := F.change hs2 zC.2.1 zC.2.2
    have N2 := news_put N (fun b o hb e => hs2.extBut b o hb e) heC2 (fun q hq => (offI q hq).1) (List.forall_mem_cons.mpr ⟨Ne.symm hCD, fun q hq => (off q hq).2.1⟩)
    exact turn i v ys nw _ C oC2 _ D h2 _ hi hv hJ hoC2 (by simp) F2 N2 (off_three off) ⟨zI.1, zI.2, hCD⟩
  · intro D C h tk m' ys nw F N off hn hC₀ hCL hCD hJ
    exact use_fin F N off hn hC₀ hCL hCD (fin ys nw hJ)
end
end Mine

end
section
open PySem PySem.W PyProof.Rows PySem.Calls PySem.Spec PyProof.Rows.LCg
set_option genInjectivity false
set_option genSizeOf false
set_option maxRecDepth 100000
namespace Mine
section
variable {prog : Program} {w : World} {A : Around} {E : Value → Shared → Prop} {s : Shared} {g : Heap} {L l : Addr} {m : Str → Option Value} {nw : Led} {env : Env}
theorem comp_pair {elt iter : PySem.Expr} {x y : Str} {px py tp : Pos} {x1} {ifs : List PySem.Expr} {scope : Scope} {cl : List (Str × Addr)} {pos : Pos} {use : Option (Value → Sem Unit)} {Q : Value → Shared → Prop} {I : Addr} {ow src : List Addr} {n : Nat} {Vl : Nat → Value → Heap → Prop} {St : Nat → Heap → Prop}
    (hh : A.handled = none) (K : Cur prog w A (.Tuple [.Name x px, .Name y py] x1 tp) I ow src n Vl St) (hsz : n ≤ sizeLine) (J : Nat → List Value → Led → Prop) (P : Nat → Value → Value → Prop)
    (hcell : ∀ y ∈ scope.names, y.2 ≠ .cell) (hkind : scope.kind = .function) (hx : scope.names.lookup x = some .local) (hy : scope.names.lookup y = some .local) (hxy : x ≠ y)
    (F : Fr g L s.heap m) (N : News g L s.heap nw) (hst : St 0 s.heap) (how : ∀ b ∈ ow, b ≠ L ∧ g.get? b = none) (off : ∀ p ∈ nw, p.1 ∉ ow)
    (h0 : J 0 [] nw) (hS : SrcIn g src (fun nw => Ex2 fun i ys => J i ys nw))
    (hT : ∀ i v ys nw h, i < n → Vl i v h → J i ys nw → News g L h nw → Ex3 fun T a b => v = .ref T ∧ h.IsTuple T #[a, b] ∧ P i a b)
    (turn : ∀ i a b ys nw h0 C oC mC D h tk, i < n → P i a b → J i ys nw → NsObj oC mC → mC x = some a → mC y = some b → Fr g L h m → News g L h (objsAt h0 ow ++ (C, oC) :: (D, lst ys) :: nw) → (∀ p ∈ nw, ∀ q ∈ objsAt h0 ow ++ [(C, oC), (D, lst ys)], p.1 ≠ q.1) → (@Ne Nat C D) → (∀ q ∈ objsAt h0 ow, (@Ne Nat q.1 C) ∧ (@Ne Nat q.1 D)) →
      CTurn prog w A g L m s elt ifs (compEnvC scope cl C env) (objsAt h0 ow ++ [(C, oC), (D, lst ys)]) (fun y => J (i + 1) (ys ++ [y])) (J (i + 1) ys) { s with heap := h, toks := tk })
    (fin : ∀ ys nw, J n ys nw → UseFin env use g L m s Q ys nw) :
    CompTail prog w A E env elt (.Tuple [.Name x px, .Name y py] x1 tp) iter ifs scope cl pos use Q (.ref I) s := by
  refine comp_cur K hsz J hcell hkind F N hst how off h0 hS ?_ ?_
  · intro i v ys nw C oC mC D h tk hi hv hJ hoC F N hCD off offI
    have zC := N (C, oC) (List.mem_append_right _ (.head _))
    refine letGoal ?_
    intro Gz
    obtain ⟨T, a, b, rfl, hTu, hP⟩ := hT i v ys nw h hi hv hJ fun q hq => N q (List.mem_append_right _ (.tail _ (.tail _ hq)))
    dsimp only [Gz]
    clear Gz
    refine kcp_assign (env := compEnvC scope cl C env) hh hTu (lookup_relabel_local hx) (lookup_relabel_local hy) (by simp [compEnvC, relabel, hkind]) (hoC.ns zC.1) fun h2 tk2 hn2 hk2 => ?_
    have hk2 : ∀ c o, c ≠ C → h.get? c = some o → h2.get? c = some o := hk2
    obtain ⟨oC2, heC2, hoC2⟩ := ns_obj hn2
    refine cturn_conv (st0 := s) ⟨_, hoC2⟩ ?_
    have F2 : Fr g L h2 m := ⟨F.ns.at' fun o e => hk2 _ _ (Ne.symm zC.2.1) e, fun b o e => hk2 b o (fun q => by rw [q, zC.2.2] at e; cases e) (F.keep b o e), F.above⟩
    have N2 := news_put N hk2 heC2 (fun q hq => (offI q hq).1) (List.forall_mem_cons.mpr ⟨Ne.symm hCD, fun q hq => (off q hq).2.1⟩)
    exact turn i a b ys nw h C oC2 _ D h2 _ hi hP hJ hoC2 (by simp [hxy]) (by simp) F2 N2 (fun p hp => List.forall_mem_append.mpr ⟨(off p hp).1, fm2 (off p hp).2.1 (off p hp).2.2⟩) hCD offI
  · intro D C h tk m' ys nw F N off hn hC₀ hCL hCD hJ
    exact use_fin F N off hn hC₀ hCL hCD (fin ys nw hJ)
section
variable {elt iter : PySem.Expr} {x : Str} {px : Pos} {ifs : List PySem.Expr} {scope : Scope} {cl : List (Str × Addr)} {pos : Pos} {use : Option (Value → Sem Unit)} {Q : Value → Shared → Prop}
theorem comp_list {its : Array Value} {k : Nat} (hh : A.handled = none) (J : Nat → List Value → Led → Prop) (F : Fr g L s.heap m) (N : News g L s.heap nw) (hm : (l, listOf its k) ∈ nw) (hsz : its.size ≤ sizeLine)
    (hcell : ∀ y ∈ scope.names, y.2 ≠ .cell) (hkind : scope.kind = .function) (hx : scope.names.lookup x = some .local)
    (h0 : J 0 [] nw) (hJ : ∀ i ys nw, J i ys nw → (l, listOf its k) ∈ nw)
    (turn : ∀ i v ys nw I oI C oC mC D h tk, i < its.size → its[i]? = some v → J i ys nw → NsObj oC mC → mC x = some v → Fr g L h m → News g L h ((I, oI) :: (C, oC) :: (D, lst ys) :: nw) → (∀ p ∈ nw, ∀ q ∈ [(I, oI), (C, oC), (D, lst ys)], p.1 ≠ q.1) → ((@Ne Nat I C) ∧ (@Ne Nat I D) ∧ (@Ne Nat C D)) →
      CTurn prog w A g L m s elt ifs (compEnvC scope cl C env) [(I, oI), (C, oC), (D, lst ys)] (fun y => J (i + 1) (ys ++ [y])) (J (i + 1) ys) { s with heap := h, toks := tk })
    (fin : ∀ ys nw, J its.size ys nw → UseFin env use g L m s Q ys nw) :
    wpAny (model prog w) A (pyIter (.ref l)) (CompTail prog w A E env elt (.Name x px) iter ifs scope cl pos use Q) E s := by
  have hl : s.heap.IsList l its := ⟨_, (N _ hm).1, rfl, _, rfl⟩
  refine wpAny_pyIter_list hl ?_
  refine comp_name (Cur.list hh s.heap.objs.size l (Nat.ne_of_lt (Heap.lt_size (N _ hm).1)) its) hsz J hcell hkind hx (F.push _) (N.grown fun _ _ e => Heap.get?_push_of_some _ e) ⟨⟨_, Heap.get?_push_size _ rfl, rfl, rfl⟩, hl.push _⟩
    ⟨Ne.symm (Nat.ne_of_lt F.ns.lt), fresh_of F⟩ (fun p hp => Nat.ne_of_lt (Heap.lt_size (N p hp).1)) h0 (fun b hb => .inr ⟨listOf its k, fun nw ⟨i, ys, j⟩ => List.mem_singleton.mp hb ▸ hJ i ys nw j⟩) ?_ fin
  intro i v ys nw oI C oC mC D h tk hi hv hJ hoC hx F N off ne
  exact turn i v ys nw _ oI C oC mC D h tk hi hv hJ hoC hx F N off ne
theorem comp_range {r : Addr} {a b c : Int} {t u v : Tok} {n : Nat} (hh : A.handled = none) (J : Nat → List Value → Led → Prop) (F : Fr g L s.heap m) (N : News g L s.heap nw) (hr : IsRange s.heap r a b c t u v) (hsm : Builtin.Range.small a b c = true) (hn : Builtin.Range.rangeSize a b c = ((n : Nat) : Int)) (hsz : n ≤ sizeLine)
    (hcell : ∀ y ∈ scope.names, y.2 ≠ .cell) (hkind : scope.kind = .function) (hx : scope.names.lookup x = some .local)
    (h0 : J 0 [] nw)
    (turn : ∀ i t ys nw I oI C oC mC D h tk, i < n → J i ys nw → NsObj oC mC → mC x = some (.int (a + i * c) t) → Fr g L h m → News g L h ((I, oI) :: (C, oC) :: (D, lst ys) :: nw) → (∀ p ∈ nw, ∀ q ∈ [(I, oI), (C, oC), (D, lst ys)], p.1 ≠ q.1) → ((@Ne Nat I C) ∧ (@Ne Nat I D) ∧ (@Ne Nat C D)) →
      CTurn prog w A g L m s elt ifs (compEnvC scope cl C env) [(I, oI), (C, oC), (D, lst ys)] (fun y => J (i + 1) (ys ++ [y])) (J (i + 1) ys) { s with heap := h, toks := tk })
    (fin : ∀ ys nw, J n ys nw → UseFin env use g L m s Q ys nw) :
    wpAny (model prog w) A (pyIter (.ref r)) (CompTail prog w A E env elt (.Name x px) iter ifs scope cl pos use Q) E s := by
  refine wpAny_pyIter_range hr hsm ?_
  refine comp_name (Cur.range hh s.heap.objs.size a c n) hsz J hcell hkind hx (F.push _) (N.grown fun _ _ e => Heap.get?_push_of_some _ e) ?_
    ⟨Ne.symm (Nat.ne_of_lt F.ns.lt), fresh_of F⟩ (fun p hp => Nat.ne_of_lt (Heap.lt_size (N p hp).1)) h0 (fun b hb => nomatch hb) ?_ fin
  · show IsRangeIter _ _ _ _ _
    rw [hn]
    simpa using Heap.get?_push_size _ rfl
  rintro i vv ys nw oI C oC mC D h tk hi ⟨t, rfl⟩ hJ hoC hx F N off ne
  exact turn i t ys nw _ oI C oC mC D h tk hi hJ hoC hx F N off ne
theorem comp_str {z : Str} {t : Tok} (hh : A.handled = none) (J : Nat → List Value → Led → Prop) (F : Fr g L s.heap m) (N : News g L s.heap nw) (hsz : z.cps.size ≤ sizeLine)
    (hcell : ∀ y ∈ scope.names, y.2 ≠ .cell) (hkind : scope.kind = .function) (hx : scope.names.lookup x = some .local)
    (h0 : J 0 [] nw)
    (turn : ∀ i v ys nw I oI C oC mC D h tk, i < z.cps.size → SignAt z i v → J i ys nw → NsObj oC mC → mC x = some v → Fr g L h m → News g L h ((I, oI) :: (C, oC) :: (D, lst ys) :: nw) → (∀ p ∈ nw, ∀ q ∈ [(I, oI), (C, oC), (D, lst ys)], p.1 ≠ q.1) → ((@Ne Nat I C) ∧ (@Ne Nat I D) ∧ (@Ne Nat C D)) →
      CTurn prog w A g L m s elt ifs (compEnvC scope cl C env) [(I, oI), (C, oC), (D, lst ys)] (fun y => J (i + 1) (ys ++ [y])) (J (i + 1) ys) { s with heap := h, toks := tk })
    (fin : ∀ ys nw, J z.cps.size ys nw → UseFin env use g L m s Q ys nw) :
    wpAny (model prog w) A (pyIter (.str z t)) (CompTail prog w A E env elt (.Name x px) iter ifs scope cl pos use Q) E s := by
  cases ha : z.cps.all (· < 128)
  · refine wpAny_pyIter_wide ha ?_
    refine comp_name (Cur.ofWalks (Walks.strWide hh s.heap.objs.size z t) (src := []) (fun b hb => .inl (by simpa using hb)) (fun i h st => by obtain ⟨o, e, _⟩ := st; exact ⟨o, e⟩) fun i v s Q E _ _ h => go_name s Q E _ v h) hsz J hcell hkind hx (F.push _) (N.grown fun _ _ e => Heap.get?_push_of_some _ e) ⟨_, Heap.get?_push_size _ rfl, rfl, rfl⟩
      ⟨Ne.symm (Nat.ne_of_lt F.ns.lt), fresh_of F⟩ (fun p hp => Nat.ne_of_lt (Heap.lt_size (N p hp).1)) h0 (fun b hb => nomatch hb) ?_ fin
    intro i v ys nw oI C oC mC D h tk hi hv hJ hoC hx F N off ne
    exact turn i v ys nw _ oI C oC mC D h tk hi hv hJ hoC hx F N off ne
  · refine wpAny_pyIter_ascii ha ?_
    refine comp_name (Cur.ofWalks (Walks.strAscii hh s.heap.objs.size z t) (src := []) (fun b hb => .inl (by simpa using hb)) (fun i h st => by obtain ⟨o, e, _⟩ := st; exact ⟨o, e⟩) fun i v s Q E _ _ h => go_name s Q E _ v h) hsz J hcell hkind hx (F.push _) (N.grown fun _ _ e => Heap.get?_push_of_some _ e) ⟨_, Heap.get?_push_size _ rfl, rfl, rfl⟩
      ⟨Ne.symm (Nat.ne_of_lt F.ns.lt), fresh_of F⟩ (fun p hp => Nat.ne_of_lt (Heap.lt_size (N p hp).1)) h0 (fun b hb => nomatch hb) ?_ fin
    intro i v ys nw oI C oC mC D h tk hi hv hJ hoC hx F N off ne
    exact turn i v ys nw _ oI C oC mC D h tk hi hv hJ hoC hx F N off ne
end
section
variable {elt iter : PySem.Expr} {x y : Str} {px py tp : Pos} {x1 : Nat} {ifs : List PySem.Expr} {scope : Scope} {cl : List (Str × Addr)} {pos : Pos} {use : Option (Value → Sem Unit)} {Q : Value → Shared → Prop}
noncomputable def owZ (Z : Nat) : List Addr := [Z + 4, Z + 2, Z + 3, Z, Z + 1]
theorem owZ_le {Z : Nat} : ∀ b ∈ owZ Z, @LE.le Nat _ Z b :=
  List.forall_mem_cons.mpr ⟨Nat.le_add_right Z 4, List.forall_mem_cons.mpr ⟨Nat.le_add_right Z 2, List.forall_mem_cons.mpr ⟨Nat.le_add_right Z 3, List.forall_mem_cons.mpr ⟨Nat.le_add_right Z 0, List.forall_mem_cons.mpr ⟨Nat.le_add_right Z 1, fun _ h => nomatch h⟩⟩⟩⟩⟩
theorem zne {Z a b : Nat} (h : a ≠ b) : Z + a ≠ Z + b := fun e => h (Nat.add_left_cancel e)
theorem zlt {Z x : Nat} (h : x < Z) (k : Nat) : x ≠ Z + k := Nat.ne_of_lt (Nat.lt_of_lt_of_le h (Nat.le_add_right Z k))
theorem zip_apart {Z l1 l2 : Nat} (h1 : l1 < Z) (h2 : l2 < Z) : ZipApart (Z + 4) (Z + 2) (Z + 3) Z (Z + 1) l1 l2 :=
  ⟨zne (by decide), zne (by decide), zne (a := 0) (by decide), zne (by decide), zne (by decide), zne (b := 0) (by decide), zne (by decide), zne (b := 0) (by decide), zne (by decide), zne (a := 0) (by decide), zlt h1 4, zlt h1 3, zlt h1 0, zlt h1 1, zlt h2 4, zlt h2 3, zlt h2 0, zlt h2 1⟩
/-- zip over two lists of the ledger, up to the loop: a cursor stands -/
theorem zip_start {elts : List PySem.Expr} {kk : Nat} {ps : Pos} {l1 l2 : Addr} {xs ys' : Array Value} {k1 k2 : Nat} {R : Value → Shared → Prop} (hh : A.handled = none) (F : Fr g L s.heap m) (N : News g L s.heap nw) (hm1 : (l1, listOf xs k1) ∈ nw) (hm2 : (l2, listOf ys' k2) ∈ nw)
    (k : ∀ Z h' Vl St, Cur prog w A (.Tuple elts kk ps) (Z + 4) (owZ Z) [l1, l2] (min xs.size ys'.size) Vl St → (∀ i v h, Vl i v h → Ex3 fun T a b => v = .ref T ∧ h.IsTuple T #[a, b] ∧ xs[i]? = some a ∧ ys'[i]? = some b) →
      St 0 h' → Fr g L h' m → News g L h' nw → (∀ b ∈ owZ Z, b ≠ L ∧ g.get? b = none) → (∀ p ∈ nw, p.1 ∉ owZ Z) → R (.ref (Z + 4)) { s with heap := h' }) :
    wpAny (model prog w) A (call (.type "zip") [.ref l1, .ref l2]) (fun xv s₁ => wpAny (model prog w) A (pyIter xv) R E s₁) E s := by
  have hl1 : s.heap.IsList l1 xs := ⟨_, (N _ hm1).1, rfl, _, rfl⟩
  have hl2 : s.heap.IsList l2 ys' := ⟨_, (N _ hm2).1, rfl, _, rfl⟩
  refine call_zip_2 hl1 hl2 fun h' hzz hTI hTO hi1 hi2 hsz' hk => wpAny_pyIter_zip hzz ?_
  refine k s.heap.objs.size h' _ _ (Cur.ofU (WalksT.zip2 hh _ _ _ _ _ _ _ (zip_apart (Heap.lt_size (N _ hm1).1) (Heap.lt_size (N _ hm2).1)) xs ys') (fun b hb => List.mem_append.mp (show b ∈ owZ s.heap.objs.size ++ [l1, l2] from hb))
    (fun b hb => List.Sublist.subset (.cons₂ _ (.cons _ (.cons₂ _ (.cons₂ _ (.cons₂ _ .slnil))))) hb) ?_) ?_ ⟨hzz, hTI, ⟨_, _, hTO⟩, hi1, hi2, hl1.at fun o e => hk _ o e, hl2.at fun o e => hk _ o e⟩ (F.keeps hk) (N.grown hk) ?_ ?_
  · intro i h zg95
    refine letGoal ?_
    intro Gz
    obtain ⟨hz, hTI, ⟨a, b, hTO⟩, ⟨o1, ho1, _⟩, ⟨o2, ho2, _⟩, _⟩ := zg95
    dsimp only [Gz]
    clear Gz
    exact List.forall_mem_cons.mpr ⟨⟨_, hz⟩, List.forall_mem_cons.mpr ⟨⟨_, hTI⟩, List.forall_mem_cons.mpr ⟨⟨_, hTO⟩, List.forall_mem_cons.mpr ⟨⟨_, ho1⟩, List.forall_mem_cons.mpr ⟨⟨_, ho2⟩, fun _ h => nomatch h⟩⟩⟩⟩⟩
  · intro i v h zg96
    refine letGoal ?_
    intro Gz
    obtain ⟨T, vals, rfl, ⟨a, b, ha, hb, rfl⟩, ht⟩ := zg96
    dsimp only [Gz]
    clear Gz
    exact ⟨T, a, b, rfl, ht, ha, hb⟩
  · intro b hb
    refine ⟨Nat.ne_of_gt (Nat.lt_of_lt_of_le F.ns.lt (owZ_le b hb)), ?_⟩
    cases e : g.get? b with
    | none => rfl
    | some o => exact absurd (Heap.lt_size (F.keep _ _ e)) (Nat.not_lt.mpr (owZ_le b hb))
  · intro p hp hm
    exact absurd (Heap.lt_size (N p hp).1) (Nat.not_lt.mpr (owZ_le p.1 hm))
end
end
end Mine

end
section
open PySem PySem.W PyProof.Rows PySem.Calls PySem.Spec PyProof.Rows.LCg
set_option genInjectivity false
set_option genSizeOf false
set_option maxRecDepth 100000
namespace Mine
/-- a ledger's tail of unknown length, all its places between two -/
noncomputable def TailIn (lo hi : Nat) (l : Led) : Prop := ∀ p ∈ l, @LT.lt Nat _ lo p.1 ∧ @LT.lt Nat _ p.1 hi
theorem allLt_mem {d : Nat} : ∀ {l : Led}, AllLt d l → ∀ p ∈ l, @LT.lt Nat _ p.1 d
  | [], _, _, h => nomatch h
  | q :: r, x, p, h => by
    rcases List.mem_cons.mp h with rfl | h
    · exact x.1
    · exact allLt_mem x.2 p h
theorem TailIn.of {lo hi : Nat} {l : Led} (h1 : ∀ p ∈ l, @LT.lt Nat _ lo p.1) (h2 : AllLt hi l) : TailIn lo hi l := fun p hp => ⟨h1 p hp, allLt_mem h2 p hp⟩
theorem TailIn.ne {lo hi d : Nat} {l : Led} (h : TailIn lo hi l) (hd : @LE.le Nat _ d lo ∨ @LE.le Nat _ hi d) : ∀ p ∈ l, p.1 ≠ d := by
  intro p hp
  have := h p hp
  refine neN ?_
  (first | lia | omega)
section
variable {prog : Program} {w : World} {A : Around} {E : Value → Shared → Prop} {s : Shared} {g : Heap} {L l : Addr} {m : Str → Option Value} {nw : Led} {env : Env}
noncomputable def KEnd (nw : Led) (P : Prop) (nw' : Led) : Prop := nw' = nw ∧ P
theorem KEnd.intro {P : Prop} (h : P) : KEnd nw P nw := ⟨rfl, h⟩
section
variable {elt iter : PySem.Expr} {x : Str} {px : Pos} {ifs : List PySem.Expr} {scope : Scope} {cl : List (Str × Addr)} {pos : Pos} {use : Option (Value → Sem Unit)} {Q : Value → Shared → Prop}
theorem comp_list_keep {its : Array Value} {k : Nat} (hh : A.handled = none) (J : Nat → List Value → Prop) (F : Fr g L s.heap m) (N : News g L s.heap nw) (hm : (l, listOf its k) ∈ nw) (hsz : its.size ≤ sizeLine)
    (hcell : ∀ y ∈ scope.names, y.2 ≠ .cell) (hkind : scope.kind = .function) (hx : scope.names.lookup x = some .local)
    (h0 : J 0 [])
    (turn : ∀ i v ys I oI C oC mC D h tk, i < its.size → its[i]? = some v → J i ys → NsObj oC mC → mC x = some v → Fr g L h m → News g L h ((I, oI) :: (C, oC) :: (D, lst ys) :: nw) → (∀ p ∈ nw, ∀ q ∈ [(I, oI), (C, oC), (D, lst ys)], p.1 ≠ q.1) → ((@Ne Nat I C) ∧ (@Ne Nat I D) ∧ (@Ne Nat C D)) →
      CTurn prog w A g L m s elt ifs (compEnvC scope cl C env) [(I, oI), (C, oC), (D, lst ys)] (fun y nw' => KEnd nw (J (i + 1) (ys ++ [y])) nw') (fun nw' => KEnd nw (J (i + 1) ys) nw') { s with heap := h, toks := tk })
    (fin : ∀ ys, J its.size ys → UseFin env use g L m s Q ys nw) :
    wpAny (model prog w) A (pyIter (.ref l)) (CompTail prog w A E env elt (.Name x px) iter ifs scope cl pos use Q) E s := by
  refine comp_list hh (fun i ys nw' => nw' = nw ∧ J i ys) F N hm hsz hcell hkind hx ⟨rfl, h0⟩ (by rintro i ys nw' ⟨rfl, -⟩; exact hm) ?_ (by rintro ys nw' ⟨rfl, j⟩; exact fin ys j)
  rintro i v ys nw' I oI C oC mC D h tk hi hv ⟨rfl, hJ⟩ hoC hxx F N off ne
  exact turn i v ys I oI C oC mC D h tk hi hv hJ hoC hxx F N off ne
theorem comp_range_keep {r : Addr} {a b c : Int} {t u v : Tok} {n : Nat} (hh : A.handled = none) (J : Nat → List Value → Prop) (F : Fr g L s.heap m) (N : News g L s.heap nw) (hr : IsRange s.heap r a b c t u v) (hsm : Builtin.Range.small a b c = true) (hn : Builtin.Range.rangeSize a b c = ((n : Nat) : Int)) (hsz : n ≤ sizeLine)
    (hcell : ∀ y ∈ scope.names, y.2 ≠ .cell) (hkind : scope.kind = .function) (hx : scope.names.lookup x = some .local)
    (h0 : J 0 [])
    (turn : ∀ i t ys I oI C oC mC D h tk, i < n → J i ys → NsObj oC mC → mC x = some (.int (a + i * c) t) → Fr g L h m → News g L h ((I, oI) :: (C, oC) :: (D, lst ys) :: nw) → (∀ p ∈ nw, ∀ q ∈ [(I, oI), (C, oC), (D, lst ys)], p.1 ≠ q.1) → ((@Ne Nat I C) ∧ (@Ne Nat I D) ∧ (@Ne Nat C D)) →
      CTurn prog w A g L m s elt ifs (compEnvC scope cl C env) [(I, oI), (C, oC), (D, lst ys)] (fun y nw' => KEnd nw (J (i + 1) (ys ++ [y])) nw') (fun nw' => KEnd nw (J (i + 1) ys) nw') { s with heap := h, toks := tk })
    (fin : ∀ ys, J n ys → UseFin env use g L m s Q ys nw) :
    wpAny (model prog w) A (pyIter (.ref r)) (CompTail prog w A E env elt (.Name x px) iter ifs scope cl pos use Q) E s := by
  refine comp_range hh (fun i ys nw' => nw' = nw ∧ J i ys) F N hr hsm hn hsz hcell hkind hx ⟨rfl, h0⟩ ?_ (by rintro ys nw' ⟨rfl, j⟩; exact fin ys j)
  rintro i t ys nw' I oI C oC mC D h tk hi ⟨rfl, hJ⟩ hoC hxx F N off ne
  exact turn i t ys I oI C oC mC D h tk hi hJ hoC hxx F N off ne
theorem comp_str_keep {z : Str} {t : Tok} (hh : A.handled = none) (J : Nat → List Value → Prop) (F : Fr g L s.heap m) (N : News g L s.heap nw) (hsz : z.cps.size ≤ sizeLine)
    (hcell : ∀ y ∈ scope.names, y.2 ≠ .cell) (hkind : scope.kind = .function) (hx : scope.names.lookup x = some .local)
    (h0 : J 0 [])
    (turn : ∀ i v ys I oI C oC mC D h tk, i < z.cps.size → SignAt z i v → J i ys → NsObj oC mC → mC x = some v → Fr g L h m → News g L h ((I, oI) :: (C, oC) :: (D, lst ys) :: nw) → (∀ p ∈ nw, ∀ q ∈ [(I, oI), (C, oC), (D, lst ys)], p.1 ≠ q.1) → ((@Ne Nat I C) ∧ (@Ne Nat I D) ∧ (@Ne Nat C D)) →
      CTurn prog w A g L m s elt ifs (compEnvC scope cl C env) [(I, oI), (C, oC), (D, lst ys)] (fun y nw' => KEnd nw (J (i + 1) (ys ++ [y])) nw') (fun nw' => KEnd nw (J (i + 1) ys) nw') { s with heap := h, toks := tk })
    (fin : ∀ ys, J z.cps.size ys → UseFin env use g L m s Q ys nw) :
    wpAny (model prog w) A (pyIter (.str z t)) (CompTail prog w A E env elt (.Name x px) iter ifs scope cl pos use Q) E s := by
  refine comp_str hh (fun i ys nw' => nw' = nw ∧ J i ys) F N hsz hcell hkind hx ⟨rfl, h0⟩ ?_ (by rintro ys nw' ⟨rfl, j⟩; exact fin ys j)
  rintro i v ys nw' I oI C oC mC D h tk hi hv ⟨rfl, hJ⟩ hoC hxx F N off ne
  exact turn i v ys I oI C oC mC D h tk hi hv hJ hoC hxx F N off ne
end
section
variable {elt iter : PySem.Expr} {x y : Str} {px py tp : Pos} {x1 : Nat} {ifs : List PySem.Expr} {scope : Scope} {cl : List (Str × Addr)} {pos : Pos} {use : Option (Value → Sem Unit)} {Q : Value → Shared → Prop}
theorem comp_zip_keep {l1 l2 : Addr} {xs ys' : Array Value} {k1 k2 : Nat} (hh : A.handled = none) (J : Nat → List Value → Prop) (F : Fr g L s.heap m) (N : News g L s.heap nw) (hm1 : (l1, listOf xs k1) ∈ nw) (hm2 : (l2, listOf ys' k2) ∈ nw) (hsz : min xs.size ys'.size ≤ sizeLine)
    (hcell : ∀ y ∈ scope.names, y.2 ≠ .cell) (hkind : scope.kind = .function) (hx : scope.names.lookup x = some .local) (hy : scope.names.lookup y = some .local) (hxy : x ≠ y)
    (h0 : J 0 [])
    (turn : ∀ i a b ys z TI TO i1 i2 o1 o2 o3 o4 o5 C oC mC D h tk, i < min xs.size ys'.size → xs[i]? = some a → ys'[i]? = some b → J i ys → NsObj oC mC → mC x = some a → mC y = some b → Fr g L h m → News g L h ((z, o1) :: (TI, o2) :: (TO, o3) :: (i1, o4) :: (i2, o5) :: (C, oC) :: (D, lst ys) :: nw) → (∀ p ∈ nw, ∀ q ∈ [(z, o1), (TI, o2), (TO, o3), (i1, o4), (i2, o5), (C, oC), (D, lst ys)], p.1 ≠ q.1) → ((@Ne Nat C D) ∧ @LT.lt Nat _ i1 i2 ∧ @LT.lt Nat _ i2 TI ∧ @LT.lt Nat _ TI TO ∧ @LT.lt Nat _ TO z ∧ @Ne Nat z C ∧ @Ne Nat z D ∧ @Ne Nat TI C ∧ @Ne Nat TI D ∧ @Ne Nat TO C ∧ @Ne Nat TO D ∧ @Ne Nat i1 C ∧ @Ne Nat i1 D ∧ @Ne Nat i2 C ∧ @Ne Nat i2 D) →
      CTurn prog w A g L m s elt ifs (compEnvC scope cl C env) [(z, o1), (TI, o2), (TO, o3), (i1, o4), (i2, o5), (C, oC), (D, lst ys)] (fun y nw' => KEnd nw (J (i + 1) (ys ++ [y])) nw') (fun nw' => KEnd nw (J (i + 1) ys) nw') { s with heap := h, toks := tk })
    (fin : ∀ ys, J (min xs.size ys'.size) ys → UseFin env use g L m s Q ys nw) :
    wpAny (model prog w) A (call (.type "zip") [.ref l1, .ref l2]) (fun xv s₁ => wpAny (model prog w) A (pyIter xv) (CompTail prog w A E env elt (.Tuple [.Name x px, .Name y py] x1 tp) iter ifs scope cl pos use Q) E s₁) E s := by
  refine zip_start (elts := [.Name x px, .Name y py]) (kk := x1) (ps := tp) hh F N hm1 hm2 fun Z h' Vl St K hV hst F' N' how off => ?_
  refine comp_pair (s := { s with heap := h' }) hh K hsz (fun i ys nw' => nw' = nw ∧ J i ys) (fun i a b => xs[i]? = some a ∧ ys'[i]? = some b) hcell hkind hx hy hxy F' N' hst how off ⟨rfl, h0⟩
    (List.forall_mem_cons.mpr ⟨.inr ⟨_, fun _ ⟨_, _, e, _⟩ => e ▸ hm1⟩, List.forall_mem_cons.mpr ⟨.inr ⟨_, fun _ ⟨_, _, e, _⟩ => e ▸ hm2⟩, fun _ h => nomatch h⟩⟩) (fun i v ys nw h hi hv _ _ => hV i v h hv) ?_ (by rintro ys nw' ⟨rfl, j⟩; exact fin ys j)
  rintro i a b ys nw' h0 C oC mC D h tk hi ⟨ha, hb⟩ ⟨rfl, hJ⟩ hoC hxx hyy F N off hCD ne
  have n1 := List.forall_mem_cons.mp ne
  have n2 := List.forall_mem_cons.mp n1.2
  have n3 := List.forall_mem_cons.mp n2.2
  have n4 := List.forall_mem_cons.mp n3.2
  have n5 := (List.forall_mem_cons.mp n4.2).1
  exact turn i a b ys (Z + 4) (Z + 2) (Z + 3) Z (Z + 1) _ _ _ _ _ C oC mC D h tk hi ha hb hJ hoC hxx hyy F N off ⟨hCD, Nat.lt_succ_self _, Nat.lt_succ_self _, Nat.lt_succ_self _, Nat.lt_succ_self _, n1.1.1, n1.1.2, n2.1.1, n2.1.2, n3.1.1, n3.1.2, n4.1.1, n4.1.2, n5.1, n5.2⟩
end
end
end Mine

end
section
open PySem PySem.W PyProof.Rows PySem.Calls PySem.Spec PyProof.Rows.LCg
set_option genInjectivity false
set_option genSizeOf false
set_option maxRecDepth 100000
namespace Mine
section
variable {prog : Program} {w : World} {A : Around} {E : Value → Shared → Prop} {s : Shared} {h₀ : Heap} {L : Addr} {m : Str → Option Value} {news : Led}
theorem slice_all_led {value slice : PySem.Expr} {l : Addr} {its : Array Value} {n : Nat} {Q : Value → Shared → Prop} (F : Fr h₀ L s.heap m) (N : News h₀ L s.heap news) (hm : (l, listOf its n) ∈ news)
    (h : ∀ D h', Fr h₀ L h' m → News h₀ L h' ((D, listOf its 0) :: news) → (∀ p ∈ news, p.1 < D) → Q (.ref D) { s with heap := h' })
    (hs : subscripted slice false (.ref l) (.ref s.heap.objs.size) = operate [.ref s.heap.objs.size, .ref l] (getItem (.ref l) (.ref s.heap.objs.size))) (ht : ∀ r, letTemporaryGo value (.ref l) r = pure ()) (hz : its.size ≤ sizeLine) :
    wpAny (model prog w) A (subscriptTail value slice (.ref l) (.ref s.heap.objs.size)) Q E { s with heap := s.heap.push { cls := .type "slice", data := .fields #[.none, .none, .none] } } := by
  refine kmk_slice F N ⟨_, (N _ hm).1, rfl, _, rfl⟩ .none .none (fun D h' F' N' l1 => h D h' F' ?_ l1) hs ht hz
  rw [slicePick_all] at N'
  exact N'
end
section
variable {M : Model} {A : Around} {E : Value → Shared → Prop} {s : Shared} {K : Frag} {x C L f : Addr} {h₀ : Heap} {m : Str → Option Value} {ox : Obj} {od : Option Obj} {i v : Value}
end
end Mine

end
section
open PySem PySem.W PyProof.Rows PySem.Calls PySem.Spec PyProof.Rows.LCg
set_option genInjectivity false
set_option genSizeOf false
set_option maxRecDepth 100000
namespace Mine
section
variable {prog : Program} {w : World} {A : Around} {E : Value → Shared → Prop} {s : Shared} {h₀ : Heap} {L : Addr} {m : Str → Option Value} {news : Led}
theorem call_next_list {it l : Addr} {i : Nat} {items : Array Value} {x : Value} {Q : Value → Shared → Prop} (hit : s.heap.IsListIter it l i)
    (hl : s.heap.IsList l items) (hx : items[i]? = some x)
    (hQ : ∀ h', h'.IsListIter it l (i + 1) → Heap.SameBut it s.heap h' → Q x { s with heap := h' }) :
    wpAny (model prog w) A (call (.builtin "next") [.ref it]) Q E s := by
  obtain ⟨o, ho, hc, hd⟩ := id hit
  obtain ⟨ol, hol, _, nl, hdl⟩ := hl
  refine call_function_entry (by decide +kernel) (by decide +kernel) kdk_entry_next (kdk_args_next _) ?_
  unfold Builtin.«next»
  refine wpAny_bind (m := someArgs "next" 1 2 _) (wpAny_of_eq (a := [Value.ref it]) (by first | rfl | kernel_rfl!) ?_)
  dsimp only
  refine wpAny_bind (wpAny_specialOf (name := Str.ofString "__next__") hit.typeIs slot_listiter_next.lookup ?_)
  refine wpAny_ite_split (fun hab => absurd hab (by decide)) (fun _ => ?_)
  refine wpAny_bind (wpAny_callSpecial?_slot (name := Str.ofString "__next__") hit.typeIs slot_listiter_next
    (wpAny_call_entry slot_listiter_next hit.typeIs entry_listiter_next ?_ (args_listiter_next _)))
  show wpAny _ _ (field (.ref it) 0 >>= _) _ _ s
  refine wpAny_bind (wpAny_field ho hd (x := .ref l) rfl ?_)
  show wpAny _ _ (if (Value.ref l == Value.none) = true then _ else _) _ _ s
  rw [if_neg (show ¬ ((Value.ref l == Value.none) = true) from Bool.false_ne_true)]
  show wpAny _ _ (field (.ref it) 1 >>= _) _ _ s
  refine wpAny_bind (wpAny_field ho hd (x := .int i 0) rfl ?_)
  show wpAny _ _ (seqItems? (.ref l) >>= _) _ _ s
  refine wpAny_bind (wpAny_seqItems hol hdl ?_)
  simp only [Int.toNat_natCast, hx]
  refine wpAny_bind (wpAny_setField ho hd (by simp) (wpAny_pure ⟨x, rfl, wpAny_pure ⟨_, rfl, hQ _ ?_ (Heap.SameBut.update ..)⟩⟩))
  exact ⟨_, Heap.get?_update_self _ ho (Obj.isFreed_of_fields (Obj.data_mapFields hd _)), (Obj.cls_mapFields ..).trans hc, by
    rw [Obj.data_mapFields hd]; simp [rawInt]⟩
theorem next_led {it l : Addr} {i n : Nat} {oI : Obj} {items : Array Value} {x : Value} {g : Obj → Led} {Q : Value → Shared → Prop} (F : Fr h₀ L s.heap m) (N : News h₀ L s.heap news) (U : UpdF it oI news g) (hI : Lit l i oI) (hm : (l, listOf items n) ∈ news) (hx : items.toList[i]? = some x)
    (h : ∀ h' oI', Fr h₀ L h' m → News h₀ L h' (g oI') → Lit l (i + 1) oI' → Q x { s with heap := h' }) : wpAny (model prog w) A (call (.builtin "next") [.ref it]) Q E s := by
  obtain ⟨pre, post, hl, hg, a, b⟩ := U.split
  have hmem : (it, oI) ∈ news := by rw [hl]; exact List.mem_append_right _ (.head _)
  have hm' := N (it, oI) hmem
  refine call_next_list ⟨oI, hm'.1, hI.1, hI.2⟩ ⟨_, (N _ hm).1, rfl, _, rfl⟩ (by simpa using hx) fun h' hit' hs => ?_
  obtain ⟨o', ho', hc', hd'⟩ := hit'
  exact h h' o' (F.change hs hm'.2.1 hm'.2.2) (hg o' ▸ (show News h₀ L s.heap (pre ++ (it, oI) :: post) from hl ▸ N).setIn a b hs ho') ⟨hc', hd'⟩
/-- iter(a list) -/
theorem iter1_led {l : Addr} {items : Array Value} {n : Nat} {Q : Value → Shared → Prop} (F : Fr h₀ L s.heap m) (N : News h₀ L s.heap news) (hm : (l, listOf items n) ∈ news)
    (h : ∀ I oI h', Lit l 0 oI → Fr h₀ L h' m → News h₀ L h' ((I, oI) :: news) → (∀ p ∈ news, p.1 < I) → Q (.ref I) { s with heap := h' }) : wpAny (model prog w) A (call (.builtin "iter") [.ref l]) Q E s := by
  refine call_function_entry (by decide +kernel) (by decide +kernel) kdk_entry_iter (kdk_args_iter _) ?_
  unfold Builtin.«iter»
  refine wpAny_bind (m := someArgs "iter" 1 2 _) (wpAny_of_eq (a := [Value.ref l]) (by first | rfl | kernel_rfl!) ?_)
  show wpAny _ _ (pyIter (.ref l) >>= _) _ _ _
  refine wpAny_bind (iter_led F N hm fun I oI h' hI F' N' l1 => ?_)
  exact wpAny_pure ⟨_, rfl, h I oI h' hI F' N' l1⟩
theorem while_led {env : Env} {test : PySem.Expr} {body : List Stmt} {pos : Pos} {Q : Flow → Shared → Prop} {nw : Led} (J : Nat → (Str → Option Value) → Led → Prop) (n : Nat) (F : Fr h₀ env.locals s.heap m) (N : News h₀ env.locals s.heap nw) (h0 : J n m nw)
    (turn : ∀ n m nw h tk, J n m nw → Fr h₀ env.locals h m → News h₀ env.locals h nw → wpAny (model prog w) A (isTrue test env (eval test env)) (fun b s1 => if b = true then
      wpAny (model prog w) A (execs body env) (LoopEnd h₀ env.locals s J n Q) (fun _ _ => False) s1 else Q .next s1) (fun _ _ => False) { s with heap := h, toks := tk }) : wpAny (model prog w) A (exec (.While test body [] pos) env) Q E s := by
  refine wpAny_While (codeAny_whileLoop (fun n s' => Ex4 fun m nw h tk => s' = { s with heap := h, toks := tk } ∧ Fr h₀ env.locals h m ∧ News h₀ env.locals h nw ∧ J n m nw) (fun n s' hI => ?_) n ⟨m, nw, s.heap, s.toks, rfl, F, N, h0⟩)
  refine letGoal ?_
  intro Gz
  obtain ⟨m, nw, h, tk, rfl, F, N, hJ⟩ := hI
  dsimp only [Gz]
  clear Gz
  refine wpAny_mono (turn n m nw h tk hJ F N) (fun b s1 h1 => ?_) fun _ _ e => e.elim
  cases b with
  | false =>
    simp only [Bool.false_eq_true, if_false] at h1 ⊢
    exact wpAny_execs_nil h1
  | true =>
    simp only [if_true] at h1 ⊢
    refine wpAny_mono h1 (fun f s2 h2 => ?_) fun _ _ e => e.elim
    cases f with
    | next => obtain ⟨k, m', nw', h', tk', hk, rfl, F', N', hI'⟩ := h2; exact ⟨k, hk, m', nw', h', tk', rfl, F', N', hI'⟩
    | cont => obtain ⟨k, m', nw', h', tk', hk, rfl, F', N', hI'⟩ := h2; exact ⟨k, hk, m', nw', h', tk', rfl, F', N', hI'⟩
    | brk => exact h2
    | ret v => exact h2
end
theorem fin_head1 {g : Heap} {s : Shared} {R : Value → Led → Prop} {v : Value} {L' : Addr} {m' : Str → Option Value} {q : Addr × Obj} {rest : Led} {h' : Heap} {tk' : Nat}
    (F : Fr g L' h' m') (N : News g L' h' (q :: rest)) (hR : R v [q]) : Fin g s R v { s with heap := h', toks := tk' } := ⟨L', m', [q], h', tk', rfl, F, fun x hx => N x (by rw [List.mem_singleton.mp hx]; exact .head _), hR⟩
theorem fin_none {g : Heap} {s : Shared} {R : Value → Led → Prop} {v : Value} {L' : Addr} {m' : Str → Option Value} {all : Led} {h' : Heap} {tk' : Nat}
    (F : Fr g L' h' m') (N : News g L' h' all) (hR : R v []) : Fin g s R v { s with heap := h', toks := tk' } := ⟨L', m', [], h', tk', rfl, F, (fun _ hx => nomatch hx), hR⟩
theorem gen_wp {α : Type} {M : Model} {A : Around} {E : Value → Shared → Prop} {t : Sem α} {Q : α → Shared → Prop} {s : Shared} (h : ∀ P : α → Shared → Prop, (∀ v s, Q v s → P v s) → wpAny M A t P E s) : wpAny M A t Q E s := h Q fun _ _ x => x
theorem gen_toks_pos {α : Type} {M : Model} {A : Around} {E : Value → Shared → Prop} {t : Sem α} {Q : α → Shared → Prop} {h g d X o} (hX : 0 < X) (k : ∀ tk, 0 < tk → wpAny M A t Q E (Shared.mk h g d tk o)) : wpAny M A t Q E (Shared.mk h g d X o) := k X hX
section
variable {prog : Program} {w : World} {A : Around} {E : Value → Shared → Prop} {s : Shared} {h₀ : Heap} {L : Addr} {m : Str → Option Value} {news : Led}
end
theorem join_flat : ∀ (ps : List (List Nat)), Txt.join (Str.ofString "") (ps.map fun c => (⟨c.toArray⟩ : Str)) = ⟨ps.flatten.toArray⟩ := by
  have e : (Str.ofString "") = ⟨#[]⟩ := by decide +kernel
  rw [e]
  have key : ∀ ps : List (List Nat), PySem.Str.join ⟨#[]⟩ (ps.map fun c => (⟨c.toArray⟩ : Str)) = ⟨ps.flatten.toArray⟩ := by
    intro ps
    induction ps with
    | nil => rfl
    | cons p ps ih =>
      cases ps with
      | nil => simp [PySem.Str.join]
      | cons q ps =>
        have e2 : PySem.Str.join ⟨#[]⟩ ((p :: q :: ps).map fun c => (⟨c.toArray⟩ : Str)) = (⟨p.toArray⟩ : Str) ++ ⟨#[]⟩ ++ PySem.Str.join ⟨#[]⟩ ((q :: ps).map fun c => (⟨c.toArray⟩ : Str)) := rfl
        rw [e2, ih]
        show PySem.Str.mk (p.toArray ++ #[] ++ (q :: ps).flatten.toArray) = _
        simp
  intro ps
  rw [← key]
  exact StrLaws.glued_eq_join _ _
section
variable {prog : Program} {w : World} {A : Around} {E : Value → Shared → Prop} {s : Shared} {g : Heap} {m : Str → Option Value} {nw : Led}
end
theorem letTurn {M : Model} {A : Around} {E : Value → Shared → Prop} {t : Sem Bool} {B : (Shared → Prop) → Shared → Prop} {K : Shared → Prop} {s : Shared} (h : let K' := K; wpAny M A t (fun ok s2 => if ok = true then B K' s2 else K' s2) E s) : wpAny M A t (fun ok s2 => if ok = true then B K s2 else K s2) E s := h
theorem letPost {α : Type} {M : Model} {A : Around} {E : Value → Shared → Prop} {t : Sem α} {Q : α → Shared → Prop} {s : Shared} (h : let K := Q; wpAny M A t K E s) : wpAny M A t Q E s := h
section
variable {prog : Program} {w : World} {A : Around} {E : Value → Shared → Prop} {s : Shared} {h₀ : Heap} {L a : Addr} {m : Str → Option Value} {news : Led} {x cn : Str} {v ccd : Value} {cs : Scope} {cl : List (Str × Addr)} {Q : Unit → Shared → Prop}
end
end Mine

end
section
open PySem PySem.W PyProof.Rows PySem.Calls PySem.Spec
set_option genInjectivity false
set_option genSizeOf false
namespace Mine
noncomputable def StrEnd (x : Str) (s : Shared) (v : Value) (s' : Shared) : Prop := Ex2 fun u k => v = .str x u ∧ s' = { s with toks := k }
theorem StrEnd.mk {x y : Str} {s : Shared} {u : Tok} {k : Nat} (h : x = y) : StrEnd y s (.str x u) { s with toks := k } := ⟨u, k, by rw [h], rfl⟩
theorem str_join {M : Model} {A : Around} {E : Value → Shared → Prop} {s : Shared} {t : Sem Value} {Q : Value → Shared → Prop} (x : Str) (ev : wpAny M A t (StrEnd x s) (fun _ _ => False) s) (go : ∀ u k, Q (.str x u) { s with toks := k }) : wpAny M A t Q E s :=
  wpAny_mono ev (fun v s' h => by obtain ⟨u, k, rfl, rfl⟩ := h; exact go u k) fun _ _ e => e.elim
section
variable {prog : Program} {w : World} {A : Around} {E : Value → Shared → Prop} {s : Shared} {g : Heap} {l : Addr} {m : Str → Option Value} {nw : Led} {its : Array Value} {n : Nat}
theorem for_list_name {env : Env} {x : Str} {px : Pos} {body : List Stmt} {Q : Flow → Shared → Prop} (hh : A.handled = none) (J : Nat → (Str → Option Value) → Led → Prop)
    (F : Fr g env.locals s.heap m) (N : News g env.locals s.heap nw) (hm : (l, listOf its n) ∈ nw) (h0 : J 0 m nw) (hJ : ∀ i m nw, J i m nw → (l, listOf its n) ∈ nw)
    (hx : env.kindOf x = some .local) (hp : (env.scope.kind == .class || (env.scope.kind == .module && env.locals != env.globals)) = false)
    (turn : ∀ i v m nw I oI h tk, its[i]? = some v → J i m nw → Fr g env.locals h (fun y => if y = x then some v else m y) → News g env.locals h ((I, oI) :: nw) → (∀ p ∈ nw, p.1 ≠ I) →
      wpAny (model prog w) A (execs body env) (ListEnd g env.locals s I oI (J (i + 1)) Q) (fun _ _ => False) { s with heap := h, toks := tk })
    (done : ∀ m nw h tk, J its.size m nw → Fr g env.locals h m → News g env.locals h nw → Q .next { s with heap := h, toks := tk }) :
    wpAny (model prog w) A (pyIter (.ref l)) (fun it s2 => codeAny (model prog w) A (.forLoop (.Name x px) it body [] env) (Fl Q) s2) E s := by
  refine for_list hh J F N hm h0 hJ (fun s Q E I i v _ _ h => go_name s Q E I v h) ?_ done
  intro i v m nw I oI h tk hv hj F N off
  refine wpAny_assign_Name (wpAny_storeName_local hx F.ns (fun h2 n2 s2 => ?_) hp)
  exact turn i v m nw I oI h2 _ hv hj (Mine.Fr.store F n2 s2) (Mine.News.store N s2) off
end
end Mine

end
section
open PySem PySem.W PyProof.Rows PySem.Calls PySem.Spec
set_option genInjectivity false
set_option genSizeOf false
namespace Mine
end Mine
namespace Mine
section
variable {prog : Program} {w : World} {A : Around} {E : Value → Shared → Prop} {s : Shared} {g : Heap} {l : Addr} {m : Str → Option Value} {nw : Led} {its : Array Value} {n : Nat}
theorem setitem_led {L D : Addr} {ys : List Value} {n i : Nat} {t : Tok} {v : Value} {nw' : Led} {Q : Unit → Shared → Prop} (F : Fr g L s.heap m) (N : News g L s.heap nw) (U : Upd D (listOf ys.toArray n) (listOf (ys.set i v).toArray n) nw nw') (hi : i < ys.length) (hs : ys.length < 1000000)
    (h : ∀ h', Fr g L h' m → News g L h' nw' → Q () { s with heap := h' }) : wpAny (model prog w) A (setItem (.ref D) (.int ((i : Nat) : Int) t) v) Q E s := by
  obtain ⟨pre, post, rfl, rfl, a, b⟩ := U.split
  have z := N (D, listOf ys.toArray n) (List.mem_append.mpr (.inr (.head _)))
  refine ki_setAt z.1 (by (first | lia | omega)) (by (first | lia | omega)) (by simpa using hi) (h _ (F.change (Heap.SameBut.update ..) z.2.1 z.2.2) (ki_turn _ N a b ?_ ?_))
  · show ys.toArray.setIfInBounds i v = _
    simp
  · simp
end
end Mine

end
section
open PySem PySem.W PyProof.Rows PySem.Calls PySem.Spec
set_option genInjectivity false
set_option genSizeOf false
set_option maxRecDepth 100000
namespace Mine
/-! sorted over pairs of ints: the decision tree, told by ranks -/
theorem nodup_map_on {α β : Type} {f : α → β} : ∀ {l : List α}, (∀ x ∈ l, ∀ y ∈ l, f x = f y → x = y) → l.Nodup → (l.map f).Nodup
  | [], _, _ => by simp
  | a :: l, h, hn => by
    obtain ⟨h1, h2⟩ := List.nodup_cons.mp hn
    rw [List.map_cons, List.nodup_cons]
    refine ⟨fun hm => ?_, nodup_map_on (fun x hx y hy => h x (.tail _ hx) y (.tail _ hy)) h2⟩
    obtain ⟨b, hb, e⟩ := List.mem_map.mp hm
    exact h1 (h b (.tail _ hb) a (.head _) e ▸ hb)
noncomputable def tupO (xs : Array Value) (n : Nat) : Obj := { cls := .type "tuple", data := .seq xs n }
section
variable {prog : Program} {w : World} {A : Around} {E : Value → Shared → Prop} {s : Shared} {g : Heap} {L l : Addr} {m : Str → Option Value} {nw : Led}
theorem list_sort_short {a : Addr} {vs : List Value} {n : Nat} {P : PySem.Fin → Shared → Prop} (ho : s.heap.get? a = some (seqObj "list" vs.toArray n)) (h2 : vs.length < 2)
    (h : P (.done (.ret .none)) { s with heap := sortedHeap s.heap a vs vs.toArray }) : wpAny (model prog w) A (Builtin.«list.sort» ⟨[.ref a], []⟩) P E s := by
  rw [list_sort_plain]
  have ha : a < s.heap.objs.size := Heap.lt_size ho
  refine wpAny_bind (listItems_at ho rfl ?_)
  refine wpAny_bind (listUpdate_at ho rfl ?_)
  obtain ⟨e1, ho1⟩ : ∃ e1, (s.heap.update a (Obj.mapSeq fun _ => #[])).get? a = some (seqObj "list" #[] e1) := ⟨_, get?_update_seq ho (fun _ => #[])⟩
  refine wpAny_bind (seqEpoch_at ho1 rfl ?_)
  refine wpAny_bind (wpAny_newTuple ?_ (by show vs.length ≤ _; rw [sizeLine_eq]; (first | lia | omega)))
  refine wpAny_bind (wpAny_newList ?_)
  refine wpAny_holding ?_
  have ho6 : (((s.heap.update a (Obj.mapSeq fun _ => #[])).push (seqObj "tuple" vs.toArray 0)).push (seqObj "list" #[] 0)).get? a = some (seqObj "list" #[] e1) := by
    rw [Heap.get?_push_ne _ _ _ (by rw [size_push', Heap.size_update]; exact Nat.ne_of_lt (Nat.lt_succ_of_lt ha)), Heap.get?_push_ne _ _ _ (by rw [Heap.size_update]; exact Nat.ne_of_lt ha)]
    exact ho1
  show wpAny (model prog w) A _ P E { s with heap := ((s.heap.update a (Obj.mapSeq fun _ => #[])).push (seqObj "tuple" vs.toArray 0)).push (seqObj "list" #[] 0) }
  dsimp only
  have hn2 : vs.toArray.size < 2 := by simpa using h2
  rw [if_pos hn2, if_pos hn2]
  refine wpAny_bind (wpAny_pure ?_)
  rw [StateT.run_pure]
  refine wpAny_bind (wpAny_pure ?_)
  dsimp only
  have hout : (arrOf (SortSt.mk' general' (vs.toArray.zip vs.toArray) #[] 7 none)).map (·.2) = vs.toArray := by
    show (vs.toArray.zip vs.toArray).map (·.2) = vs.toArray
    exact Array.map_snd_zip (Nat.le_refl _)
  rw [hout]
  refine wpAny_bind (seqEpoch_at ho6 rfl ?_)
  refine wpAny_bind (listUpdate_at ho6 rfl ?_ (hsz2 := by rw [sizeLine_eq]; simp; (first | lia | omega)))
  simp only [bne_self_eq_false, Bool.false_eq_true, if_false]
  exact wpAny_pure h
theorem sorted_short {vs : List Value} {Q : Value → Shared → Prop} (F : Fr g L s.heap m) (N : News g L s.heap nw) (hl : s.heap.IsList l vs.toArray) (h2 : vs.length < 2)
    (h : ∀ D n h', Fr g L h' m → News g L h' ((D, listOf vs.toArray n) :: nw) → (∀ q ∈ nw, @LT.lt Nat _ q.1 D) → Q (.ref D) { s with heap := h' }) : wpAny (model prog w) A (call (.builtin "sorted") [.ref l]) Q E s := by
  refine Calls.call_function_entry kind_sorted plain_sorted entry_sorted (args_sorted1 _) ?_
  unfold Builtin.«sorted»
  refine wpAny_bind (m := checkCount "sorted" 1 1 _) (wpAny_pure ?_)
  refine wpAny_bind (collect_list hl ?_ (by rw [sizeLine_eq]; (first | lia | omega)))
  refine wpAny_bind (wpAny_newList ?_ (by rw [sizeLine_eq]; (first | lia | omega)))
  have hsz : ((s.heap.push (seqObj "list" #[] 0)).update s.heap.objs.size (Obj.mapSeq (· ++ vs.toArray))).objs.size = s.heap.objs.size + 1 := by
    rw [Heap.size_update, size_push']
  have hoL : (((s.heap.push (seqObj "list" #[] 0)).update s.heap.objs.size (Obj.mapSeq (· ++ vs.toArray))).push (seqObj "list" vs.toArray 0)).get? (s.heap.objs.size + 1) = some (seqObj "list" vs.toArray 0) := by
    rw [← hsz]; exact Heap.get?_push_size _ rfl
  show wpAny _ _ _ _ _ { s with heap := ((s.heap.push (seqObj "list" #[] 0)).update s.heap.objs.size (Obj.mapSeq (· ++ vs.toArray))).push (seqObj "list" vs.toArray 0) }
  rw [hsz]
  obtain ⟨e, he⟩ := sortedAll_at s.heap vs vs.toArray
  refine wpAny_bind (wpAny_holding (wpAny_call_entry slot_list_sort ⟨_, hoL, rfl⟩ entry_list_sort (list_sort_short hoL h2 ⟨_, rfl, ?_⟩) (args_list_sort _)))
  exact wpAny_pure ⟨_, rfl, h _ e _ (F.kept fun _ _ => sortedAll_old) (N.kept_cons F (fun _ _ => sortedAll_old) (Nat.le_succ _) he) (fun p hp => Nat.lt_succ_of_lt (Heap.lt_size (N p hp).1))⟩
end
end Mine

end
section
open PySem PySem.W PyProof.Rows PySem.Calls PySem.Spec
set_option genInjectivity false
set_option genSizeOf false
set_option maxRecDepth 100000
namespace Mine
section
variable {prog : Program} {w : World} {A : Around} {E : Value → Shared → Prop} {s : Shared} {g : Heap} {l1 l2 : Addr} {m : Str → Option Value} {nw : Led} {xs ys' : Array Value} {k1 k2 : Nat}
theorem item_tup_led {L T : Addr} {nT j : Nat} {k : Int} {items : Array Value} {u : Tok} {x : Value} {value slice : PySem.Expr} {Q : Value → Shared → Prop} (N : News g L s.heap nw) (hT : (T, ({ cls := .type "tuple", data := .seq items nT } : Obj)) ∈ nw)
    (hlo : -(2 ^ 63) ≤ k) (hhi : k < 2 ^ 63) (hj : seqIndex? k items.size = some j) (hx : items[j]? = some x) (hs : subscripted slice false (.ref T) (.int k u) = operate [.ref T, .int k u] (getItem (.ref T) (.int k u))) (hg : ∀ r, letTemporaryGo value (.ref T) r = pure ()) (h : Q x s) :
    wpAny (model prog w) A (subscriptTail value slice (.ref T) (.int k u)) Q E s :=
  item_tuple ⟨_, (N _ hT).1, rfl, nT, rfl⟩ hlo hhi hj hx h hs hg
theorem item_pair1 {L T : Addr} {nT : Nat} {a b : Value} {u : Tok} {value slice : PySem.Expr} {Q : Value → Shared → Prop} (N : News g L s.heap nw) (hT : (T, ({ cls := .type "tuple", data := .seq #[a, b] nT } : Obj)) ∈ nw)
    (hs : subscripted slice false (.ref T) (.int 1 u) = operate [.ref T, .int 1 u] (getItem (.ref T) (.int 1 u))) (hg : ∀ r, letTemporaryGo value (.ref T) r = pure ()) (h : Q b s) : wpAny (model prog w) A (subscriptTail value slice (.ref T) (.int 1 u)) Q E s :=
  item_tup_led N hT (by decide) (by decide) (j := 1) rfl rfl hs hg h
end
end Mine

end
section
open PySem PySem.W PyProof.Rows PySem.Calls PySem.Spec
set_option genInjectivity false
set_option genSizeOf false
set_option maxRecDepth 100000
namespace Mine
theorem ints_some : ∀ {vs : List Value}, (∀ v ∈ vs, Ex2 fun n t => v = .int n t) → ∃ ns, IntsAre vs ns
  | [], _ => ⟨[], .nil⟩
  | v :: vs, h => by
    obtain ⟨n, t, rfl⟩ := h v (.head _)
    obtain ⟨ns, hn⟩ := ints_some fun x hx => h x (.tail _ hx)
    exact ⟨n :: ns, .cons _ _ hn⟩
theorem ints_mem : ∀ {vs : List Value} {ns : List Int}, IntsAre vs ns → ∀ v ∈ vs, Ex2 fun n t => v = .int n t
  | _, _, .nil, v, h => nomatch h
  | _, _, .cons n t r, v, h => by
    rcases List.mem_cons.mp h with rfl | h
    · exact ⟨_, _, rfl⟩
    · exact ints_mem r v h
theorem pick_ints {vs : List Value} {ns : List Int} (hI : IntsAre vs ns) (a b c : Option Int) : ∃ ms, IntsAre (slicePick vs.toArray a b c).toList ms := by
  refine ints_some fun v hv => ?_
  unfold slicePick at hv
  rw [List.toList_toArray] at hv
  obtain ⟨i, _, hi⟩ := List.mem_filterMap.mp hv
  exact ints_mem hI v (by simpa using List.mem_of_getElem? (by simpa using hi))
section
variable {prog : Program} {w : World} {A : Around} {E : Value → Shared → Prop} {s : Shared} {g : Heap} {L l : Addr} {m : Str → Option Value} {nw : Led}
theorem sum_led {its : Array Value} {n : Nat} {Q : Value → Shared → Prop} (F : Fr g L s.heap m) (N : News g L s.heap nw) (hm : (l, ({ cls := .type "list", data := .seq its n } : Obj)) ∈ nw) (hi : ∃ ms, IntsAre its.toList ms) (hh : A.handled = none)
    (h : ∀ h' tk z t', Fr g L h' m → News g L h' nw → Q (.int z t') { s with heap := h', toks := tk }) : wpAny (model prog w) A (call (.builtin "sum") [.ref l]) Q E s := by
  obtain ⟨ms, hi⟩ := hi
  have hl : s.heap.IsList l its.toList.toArray := by
    rw [Array.toArray_toList]
    exact ⟨_, (N _ hm).1, rfl, n, rfl⟩
  exact PyProof.Rows.LSm.sum_ints F N hh hl hi fun h' tk t' F' N' => h h' tk ms.sum t' F' N'
theorem sum_drop {its : Array Value} {n : Nat} {Q : Value → Shared → Prop} (F : Fr g L s.heap m) (N : News g L s.heap ((l, ({ cls := .type "list", data := .seq its n } : Obj)) :: nw)) (hi : ∃ ms, IntsAre its.toList ms) (hh : A.handled = none)
    (h : ∀ h' tk z t', Fr g L h' m → News g L h' nw → Q (.int z t') { s with heap := h', toks := tk }) : wpAny (model prog w) A (call (.builtin "sum") [.ref l]) Q E s :=
  sum_led F N (.head _) hi hh fun h' tk z t' F' N' => h h' tk z t' F' fun q hq => N' q (.tail _ hq)
end
end Mine

end
section
open PySem PySem.W PyProof.Rows PySem.Calls PySem.Spec PyProof.Rows.LCg
set_option genInjectivity false
set_option genSizeOf false
set_option maxRecDepth 100000
namespace Mine
section
variable {prog : Program} {w : World} {A : Around} {E : Value → Shared → Prop} {s : Shared} {g : Heap} {L : Addr} {m : Str → Option Value} {nw : Led} {env : Env}
theorem comp_cur_cell {cx : Str} {elt target iter : PySem.Expr} {ifs : List PySem.Expr} {scope : Scope} {cl : List (Str × Addr)} {pos : Pos} {I : Addr} {ow src : List Addr} {n : Nat} {Vl : Nat → Value → Heap → Prop} {St : Nat → Heap → Prop} {RR : Value → Addr → Result → Shared → Prop}
    (K : Cur prog w A target I ow src n Vl St) (hsz : n ≤ sizeLine) (J : Addr → Nat → List Value → Led → Prop)
    (hnew : newFunctionEnv scope env.globals cl [] env.qual none .none (some env) = (do
      let C ← alloc { cls := .type "dict", data := .dict #[] }
      let X ← alloc { cls := .type "cell", data := .cell none }
      pure { scope, locals := C, globals := env.globals, cells := (cx, X) :: cl, qual := env.qual, func := none, code := env.code, frame := env.frame, builtins := env.builtins }))
    (F : Fr g L s.heap m) (N : News g L s.heap nw) (hst : St 0 s.heap) (how : ∀ b ∈ ow, b ≠ L ∧ g.get? b = none) (off : ∀ p ∈ nw, p.1 ∉ ow)
    (h0 : ∀ X, (∀ p ∈ nw, p.1 ≠ X) → (∀ b ∈ ow, b ≠ X) → J X 0 [] ((X, { cls := .type "cell", data := .cell none }) :: nw)) (hS : ∀ X, SrcIn g src (fun nw => Ex2 fun i ys => J X i ys nw))
    (turn : ∀ X i v ys nw C oC mC D h tk, i < n → Vl i v h → J X i ys nw → NsObj oC mC → Fr g L h m → News g L h (objsAt h ow ++ (C, oC) :: (D, lst ys) :: nw) → C ≠ D →
      (∀ p ∈ nw, (∀ q ∈ objsAt h ow, p.1 ≠ q.1) ∧ p.1 ≠ C ∧ p.1 ≠ D) → (∀ q ∈ objsAt h ow, q.1 ≠ C ∧ q.1 ≠ D) →
      wpAny (model prog w) A (assign target (compEnvC scope ((cx, X) :: cl) C env) v) (fun _ s1 => wpAny (model prog w) A (testsOf prog w ifs (compEnvC scope ((cx, X) :: cl) C env)) (fun ok s2 =>
        if ok = true then wpAny (model prog w) A (eval elt (compEnvC scope ((cx, X) :: cl) C env)) (fun y s3 => CompE g L m s (objsAt h ow) C D (lst ys) (J X (i + 1) (ys ++ [y])) s3) (fun _ _ => False) s2
        else CompE g L m s (objsAt h ow) C D (lst ys) (J X (i + 1) ys) s2) (fun _ _ => False) s1) (fun _ _ => False) { s with heap := h, toks := tk })
    (hRR : ∀ X D C h tk m' ys nw, Fr g L h m → News g L h ((D, lst ys) :: nw) → (∀ p ∈ nw, p.1 ≠ C ∧ p.1 ≠ D) → h.Ns C m' → g.get? C = none → C ≠ L → C ≠ D → J X n ys nw → RR (.ref D) C (.ok .next) { s with heap := h, toks := tk }) :
    wpAny (model prog w) A (newList []) (fun acc s₃ => wpAny (model prog w) A (newFunctionEnv scope env.globals cl [] env.qual none .none (some env)) (fun cenv s₄ =>
      codeAny (model prog w) A (.compStart (.ListComp elt [⟨target, iter, ifs, 0⟩] scope pos) 0 (.ref I) acc { cenv with scope := relabel scope env }) (RR acc cenv.locals) s₄) E s₃) E s := by
  refine wpAny_newObj_type ?_
  rw [hnew]
  refine wpAny_bind (wpAny_alloc (wpAny_bind (wpAny_alloc (wpAny_pure ?_))))
  dsimp only
  generalize hDd : s.heap.objs.size = D at *
  generalize hH2 : s.heap.push { cls := .type "list", dict := none, data := .seq ([] : List Value).toArray } = H2
  have hC : H2.objs.size = D + 1 := by rw [← hH2, Heap.size_push, hDd]
  generalize hCc : H2.objs.size = C at *
  generalize hH3 : H2.push { cls := .type "dict", data := .dict #[] } = H3
  have hX : H3.objs.size = C + 1 := by rw [← hH3, Heap.size_push, hCc]
  generalize hXx : H3.objs.size = X at *
  have h1 : ∀ b o, s.heap.get? b = some o → (H3.push { cls := .type "cell", data := .cell none }).get? b = some o := fun b o e => Heap.get?_push_of_some _ (hH3 ▸ Heap.get?_push_of_some _ (hH2 ▸ Heap.get?_push_of_some _ e))
  generalize hH4 : H3.push { cls := .type "cell", data := .cell none } = H4 at h1 ⊢
  have hgX : H4.get? X = some { cls := .type "cell", data := .cell none } := by rw [← hH4, ← hXx]; exact Heap.get?_push_size _ rfl
  have hgC : H4.get? C = some { cls := .type "dict", data := .dict #[] } := by
    rw [← hH4]; refine Heap.get?_push_of_some _ ?_
    rw [← hH3, ← hCc]; exact Heap.get?_push_size _ rfl
  have hgD : H4.get? D = some (lst []) := by
    rw [← hH4]; refine Heap.get?_push_of_some _ ?_
    rw [← hH3]; refine Heap.get?_push_of_some _ ?_
    rw [← hH2, ← hDd]; exact Heap.get?_push_size _ rfl
  have hCD : C ≠ D := by rw [hC]; exact Nat.succ_ne_self _
  have ltD : ∀ {b o}, s.heap.get? b = some o → b < D := fun e => hDd ▸ Heap.lt_size e
  have fresh : ∀ a, D ≤ a → g.get? a = none := fun a ha => by
    cases e : g.get? a with
    | none => rfl
    | some o' => exact absurd (ltD (F.keep a o' e)) (Nat.not_lt.mpr ha)
  have hLlt : L < D := hDd ▸ F.ns.lt
  have three : ∀ b, b < D → b ≠ C ∧ b ≠ D ∧ b ≠ X := fun b hb => by
    have hb : @LT.lt Nat _ b D := hb
    have hC : @Eq Nat C (D + 1) := hC
    have hX : @Eq Nat X (C + 1) := hX
    exact ⟨neN (by (first | lia | omega)), neN (by (first | lia | omega)), neN (by (first | lia | omega))⟩
  have hXC : X ≠ C := by rw [hX]; exact Nat.succ_ne_self _
  have hXD : X ≠ D := by
    have hC : @Eq Nat C (D + 1) := hC
    have hX : @Eq Nat X (C + 1) := hX
    exact neN (by (first | lia | omega))
  have hst₁ : St 0 H4 := K.frame 0 _ _ hst fun b _ o e => h1 b o e
  have how2 : ∀ b ∈ ow, b ≠ C ∧ b ≠ D ∧ b ≠ X := fun b hb => by
    obtain ⟨o, e⟩ := K.has _ _ hst b hb
    exact three b (ltD e)
  refine comp_gen K hsz (J X) (F.keeps h1) hst₁ (nw := (X, { cls := .type "cell", data := .cell none }) :: nw) (mC₁ := fun _ => none) ?ns ?N1 ?off1 how (fun b hb => ⟨(how2 b hb).1, (how2 b hb).2.1⟩) hCD (Ne.symm (three L hLlt).2.1) (Ne.symm (three L hLlt).1) (fresh _ (by rw [hC]; exact Nat.le_succ _)) (fresh _ (Nat.le_refl _)) (h0 X (fun p hp => (three _ (ltD (N p hp).1)).2.2) (fun b hb => (how2 b hb).2.2)) (hS X)
    (fun i v ys nw oC mC h tk hi hv hj hoC F N hcd off own => turn X i v ys nw C oC mC D h tk hi hv hj hoC F N hcd off own) (fun h tk m' ys nw F N off hn hc0 hcl hcd hj => hRR X D C h tk m' ys nw F N off hn hc0 hcl hcd hj)
  case ns =>
    rw [← hH4, ← hH3, ← hCc]
    exact (Heap.Ns.new H2 (.type "dict")).push _
  case N1 => exact led_cons ⟨hgD, Ne.symm (three L hLlt).2.1, fresh _ (Nat.le_refl _)⟩ (led_cons ⟨hgX, Ne.symm (three L hLlt).2.2, fresh _ (by rw [hX, hC]; exact Nat.le_succ_of_le (Nat.le_succ _))⟩ fun q hq => ⟨h1 _ _ (N q hq).1, (N q hq).2⟩)
  case off1 =>
    intro q hq
    rcases List.mem_cons.mp hq with rfl | hq
    · exact ⟨fun hm => (how2 _ hm).2.2 rfl, hXC, hXD⟩
    · have := three _ (ltD (N q hq).1)
      exact ⟨off q hq, this.1, this.2.1⟩
theorem comp_name_cell {elt iter : PySem.Expr} {x : Str} {px : Pos} {ifs : List PySem.Expr} {scope : Scope} {cl : List (Str × Addr)} {pos : Pos} {use : Option (Value → Sem Unit)} {Q : Value → Shared → Prop} {I : Addr} {src : List Addr} {n : Nat} {P : Nat → Value → Prop} {St : Nat → Heap → Prop}
    (K : Cur prog w A (.Name x px) I [I] src n (fun i v _ => P i v) St) (hsz : n ≤ sizeLine) (J : Nat → List Value → Led → Prop)
    (hnew : newFunctionEnv scope env.globals cl [] env.qual none .none (some env) = (do
      let C ← alloc { cls := .type "dict", data := .dict #[] }
      let X ← alloc { cls := .type "cell", data := .cell none }
      pure { scope, locals := C, globals := env.globals, cells := (x, X) :: cl, qual := env.qual, func := none, code := env.code, frame := env.frame, builtins := env.builtins }))
    (hkind : scope.kind = .function) (hxk : ∀ cl C, (compEnvC scope cl C env).kindOf x = some .cell)
    (F : Fr g L s.heap m) (N : News g L s.heap nw) (hst : St 0 s.heap) (how : I ≠ L ∧ g.get? I = none) (off : ∀ p ∈ nw, p.1 ≠ I)
    (h0 : J 0 [] nw) (hS : SrcIn g src (fun nw => Ex2 fun i ys => J i ys nw))
    (turn : ∀ i v ys nw oI C oC mC D X oX h tk, i < n → P i v → J i ys nw → NsObj oC mC → oX.data = .cell (some v) → Fr g L h m → News g L h ((I, oI) :: (C, oC) :: (D, lst ys) :: (X, oX) :: nw) → (∀ p ∈ nw, ∀ q ∈ [(I, oI), (C, oC), (D, lst ys), (X, oX)], p.1 ≠ q.1) → ((@Ne Nat I C) ∧ (@Ne Nat I D) ∧ (@Ne Nat C D) ∧ (@Ne Nat X I) ∧ (@Ne Nat X C) ∧ (@Ne Nat X D)) →
      CTurn prog w A g L m s elt ifs (compEnvC scope ((x, X) :: cl) C env) [(I, oI), (C, oC), (D, lst ys), (X, oX)] (fun y => J (i + 1) (ys ++ [y])) (J (i + 1) ys) { s with heap := h, toks := tk })
    (fin : ∀ ys nw, J n ys nw → UseFin env use g L m s Q ys nw) :
    CompTail prog w A E env elt (.Name x px) iter ifs scope cl pos use Q (.ref I) s := by
  refine comp_cur_cell (cx := x) K hsz (fun X i ys all => Ex2 fun oX nw => all = (X, oX) :: nw ∧ (∃ c, oX.data = .cell c) ∧ (∀ p ∈ nw, p.1 ≠ X) ∧ X ≠ I ∧ J i ys nw) hnew F N hst (fun b hb => by rw [List.mem_singleton.mp hb]; exact how) (fun p hp => by simpa using off p hp) ?_ ?_ ?_ ?_
  · intro X h1 h2
    exact ⟨_, _, rfl, ⟨_, rfl⟩, h1, Ne.symm (h2 I (.head _)), h0⟩
  · intro X b hb
    rcases hS b hb with h | ⟨o, h⟩
    · exact .inl h
    · exact .inr ⟨o, by rintro nw ⟨i, ys, oX, nw', rfl, -, -, -, j⟩; exact .tail _ (h nw' ⟨i, ys, j⟩)⟩
  · intro X i v ys all C oC mC D h tk hi hv zg75 hoC F N hCD off offI
    refine letGoal ?_
    intro Gz
    obtain ⟨oX, nw, rfl, ⟨c0, hcX⟩, hXn, hXI, hJ⟩ := zg75
    dsimp only [Gz]
    clear Gz
    refine letGoal ?_
    intro Gz
    obtain ⟨oI, e1⟩ : ∃ oI, objsAt h [I] = [(I, oI)] := ⟨_, rfl⟩
    dsimp only [Gz]
    clear Gz
    rw [e1] at N off offI ⊢
    have zX := N (X, oX) (.tail _ (.tail _ (.tail _ (.head _))))
    have zI := offI (I, oI) (.head _)
    have oX1 := off (X, oX) (.head _)
    refine wpAny_assign_Name (wpAny_storeName_cell (c := X) (v₀ := c0) (by show (relabel scope env).kind = _; exact hkind) (hxk _ _) (by simp [compEnvC]) ⟨oX, zX.1, hcX⟩ fun h2 hv2 hs2 => ?_)
    obtain ⟨oX2, heX2, hoX2⟩ := hv2
    have F2 : Fr g L h2 m := F.change hs2 zX.2.1 zX.2.2
    have N2 := news_put (pre := [(I, oI), (C, oC), (D, lst ys)]) N (fun b o hb e => hs2.extBut b o hb e) heX2 (fm3 (Ne.symm hXI) (Ne.symm oX1.2.1) (Ne.symm oX1.2.2)) hXn
    have offT : ∀ p ∈ nw, ∀ q ∈ [(I, oI), (C, oC), (D, lst ys), (X, oX2)], p.1 ≠ q.1 := by
      exact fun p hp => fm4 ((off p (.tail _ hp)).1 (I, oI) (.head _)) (off p (.tail _ hp)).2.1 (off p (.tail _ hp)).2.2 (hXn p hp)
    have t := turn i v ys nw _ C oC mC D X oX2 h2 tk hi hv hJ hoC hoX2 F2 N2 offT ⟨zI.1, zI.2, hCD, hXI, oX1.2.1, oX1.2.2⟩
    have key : ∀ {R : Led → Prop} {R' : Led → Prop} {s' : Shared}, (∀ nw', R nw' → (∀ p ∈ nw', p.1 ≠ X) → R' ((X, oX2) :: nw')) → CE g L m s [(I, oI), (C, oC), (D, lst ys), (X, oX2)] R s' → CompE g L m s [(I, oI)] C D (lst ys) R' s' := by
      intro R R' s' hR zg76
      refine letGoal ?_
      intro Gz
      obtain ⟨h', tk', nw', rfl, F, N, off', hJ⟩ := zg76
      dsimp only [Gz]
      clear Gz
      refine ⟨h', tk', (X, oX2) :: nw', rfl, F, ⟨mC, hoC.ns (N (C, oC) (.tail _ (.head _))).1⟩, fun q hq => N q ?_, fun p hp => ?_, hR _ hJ fun p hp => off' p hp (X, oX2) (.tail _ (.tail _ (.tail _ (.head _))))⟩
      · rcases List.mem_cons.mp hq with rfl | hq
        · exact .head _
        · rcases List.mem_cons.mp hq with rfl | hq
          · exact .tail _ (.tail _ (.head _))
          · exact .tail _ (.tail _ (.tail _ hq))
      · rcases List.mem_cons.mp hp with rfl | hp
        · exact ⟨fm1 hXI, oX1.2.1, oX1.2.2⟩
        · exact ⟨fm1 (off' p hp _ (.head _)), off' p hp (C, oC) (.tail _ (.head _)), off' p hp (D, lst ys) (.tail _ (.tail _ (.head _)))⟩
    refine wpAny_mono t (fun ok s2 h2 => ?_) fun _ _ e => e
    cases ok with
    | true =>
      simp only [if_true] at h2 ⊢
      exact wpAny_mono h2 (fun y s3 h3 => key (fun nw' j hn => ⟨oX2, nw', rfl, ⟨_, hoX2⟩, hn, hXI, j⟩) h3) fun _ _ e => e
    | false =>
      simp only [Bool.false_eq_true, if_false] at h2 ⊢
      exact key (fun nw' j hn => ⟨oX2, nw', rfl, ⟨_, hoX2⟩, hn, hXI, j⟩) h2
  · intro X D C h tk m' ys all F N off hn hC₀ hCL hCD zg77
    refine letGoal ?_
    intro Gz
    obtain ⟨oX, nw, rfl, -, -, -, hJ⟩ := zg77
    dsimp only [Gz]
    clear Gz
    exact use_fin F (fun q hq => N q (by
      rcases List.mem_cons.mp hq with rfl | hq
      · exact .head _
      · exact .tail _ (.tail _ hq))) (fun p hp => off p (.tail _ hp)) hn hC₀ hCL hCD (fin ys nw hJ)
end
end Mine

end
section
open PySem PySem.W PyProof.Rows PySem.Calls PySem.Spec
open PySem.Builtin PySem.Builtin.Re
set_option genInjectivity false
set_option genSizeOf false
set_option maxRecDepth 100000
set_option maxHeartbeats 2000000
namespace Mine
noncomputable def hitIn (code text : Array Nat) : Bool := match ((Sre.forSearch code text 0 0 text.size false).runFor 4).outcome with
  | some .matched => true
  | _ => false
theorem drive_hit {prog : Program} {w : World} {A : Around} {E : Value → Shared → Prop} {s : Shared} {code text : Array Nat} {Q : Option Sre.M → Shared → Prop} (hm : hitIn code text = true) (h : ∀ m2, Q (some m2) s) :
    wpAny (model prog w) A (reRunToEnd (Sre.forSearch code text 0 0 text.size false)) Q E s := by
  unfold hitIn at hm
  generalize Sre.forSearch code text 0 0 text.size false = m at hm ⊢
  split at hm
  · rename_i e8
    unfold reRunToEnd
    refine wpAny_bind ?_
    have e3 : reDrive (2 ^ 64) m = pure (m.runFor 4) := by
      rw [show (2 ^ 64 : Nat) = 18446744073709551615 + 1 from rfl]
      unfold reDrive
      show (if ((m.runFor 4).outcome).isSome = true then _ else _) = _
      rw [if_pos (by rw [e8]; rfl)]
      rfl
    rw [e3]
    refine wpAny_pure (wpAny_bind ?_)
    have key : ∀ (l : List Nat) (g : Nat → PUnit → Sem (ForInStep PUnit)) (Q : PUnit → Shared → Prop), (∀ i r (P : ForInStep PUnit → Shared → Prop), P (.yield ⟨⟩) s → wpAny (model prog w) A (g i r) P E s) → Q ⟨⟩ s → wpAny (model prog w) A (forIn l ⟨⟩ g) Q E s := by
      intro l
      induction l with
      | nil => intro g Q _ hq; exact wpAny_pure hq
      | cons a l ih =>
        intro g Q hg hq
        rw [List.forIn_cons]
        exact wpAny_bind (hg _ _ _ (ih g Q hg hq))
    refine key _ _ _ (fun i r P hP => ?_) ?_
    · split
      · exact wpAny_bind (wpAny_rule (wpAny_pure hP))
      · exact wpAny_pure hP
    · rw [e8]
      exact wpAny_pure (h _)
  · cases hm
noncomputable def tupE (vs : Array Value) : Obj := { cls := .type "tuple", data := .seq vs }
noncomputable def matchE (vs : Array Value) : Obj := { cls := .type "re.Match", data := .fields vs }
theorem search_name_hit {prog : Program} {w : World} {A : Around} {E : Value → Shared → Prop} {s : Shared} {r tp : Addr} {x : Str} {t : Tok} {n : Nat} {a b c d : Value} {Q : Value → Shared → Prop}
    (ho : s.heap.get? r = some { cls := .type "re.Pattern", data := .fields #[a, b, .int 0 0, c, d, .ref tp, .int 0 0] }) (htp : s.heap.get? tp = some { cls := .type "tuple", data := .seq #[.int 14 0, .int 10 0, .int 4 0, .int 1 0, .int 1 0, .int 22 0, .int 0 0, .int 31 0, .int 16 0, .int 127 0, .int 0 0, .int 13 0, .int 7 0, .int 22 0, .int 0 0, .int 31 0, .int 16 0, .int 127 0, .int 0 0, .int 1 0] n })
    (hok : hitIn nameCode x.cps = true) (hsz : x.cps.size < 2 ^ 62)
    (h : ∀ us vs, Q (.ref (s.heap.objs.size + 1)) { s with heap := (s.heap.push (tupE us)).push (matchE vs) }) : wpAny (model prog w) A (call (.builtin "re.Pattern.search") [.ref r, .str x t]) Q E s := by
  have e : ((#[.int 14 0, .int 10 0, .int 4 0, .int 1 0, .int 1 0, .int 22 0, .int 0 0, .int 31 0, .int 16 0, .int 127 0, .int 0 0, .int 13 0, .int 7 0, .int 22 0, .int 0 0, .int 31 0, .int 16 0, .int 127 0, .int 0 0, .int 1 0] : Array Value).map reRawOf |>.map (·.toNat)) = nameCode := by decide +kernel
  have hT : s.TypeIs (.ref r) "re.Pattern" := ⟨_, ho, rfl⟩
  refine wpAny_call_entry slot_search hT entry_search ?_ (args_search _ _)
  show wpAny _ _ (reTarget "re.Pattern.search" "search" ⟨[.ref r, .str x t], []⟩ >>= _) _ _ s
  refine wpAny_bind ?_
  unfold reTarget
  dsimp only
  refine wpAny_bind (wpAny_of_eq (a := [some (.str x t), none, none]) (by kernel_rfl) ?_)
  dsimp only
  refine wpAny_bind (wpAny_pure (wpAny_bind (wpAny_pure (wpAny_bind (wpAny_fieldsOf ho rfl ?_)))))
  refine wpAny_bind (wpAny_of_eq (a := (x.cps, 0)) (by rfl) ?_)
  dsimp only
  have c6 : (#[a, b, Value.int 0 0, c, d, Value.ref tp, Value.int 0 0] : Array Value).getD 6 Value.none = .int 0 0 := rfl
  have c5 : (#[a, b, Value.int 0 0, c, d, Value.ref tp, Value.int 0 0] : Array Value).getD 5 Value.none = .ref tp := rfl
  have c2 : (#[a, b, Value.int 0 0, c, d, Value.ref tp, Value.int 0 0] : Array Value).getD 2 Value.none = .int 0 0 := rfl
  rw [c6, c5, c2, if_neg (by decide), if_neg (by decide)]
  refine wpAny_bind (wpAny_of_eq (a := ()) (by rfl) ?_)
  refine wpAny_bind ?_
  show wpAny _ _ (reRawItems (.ref tp)) _ _ s
  unfold reRawItems
  refine wpAny_bind (wpAny_seqItems htp rfl (wpAny_pure ?_))
  refine wpAny_pure ?_
  dsimp only
  unfold reAnswer
  have e0 : Min.min (Int.toNat 0) x.cps.size = 0 := Nat.zero_min _
  have e1 : Min.min ((2 : Int) ^ 63 - 1).toNat x.cps.size = x.cps.size := Nat.min_eq_right (by
    have : ((2 : Int) ^ 63 - 1).toNat = 9223372036854775807 := by decide
    rw [this]; (first | lia | omega))
  refine wpAny_bind ?_
  rw [e0, e1]
  rw [Option.getD_some, e]
  have g0 : reRawNat (Value.int 0 0) = 0 := rfl
  rw [g0]
  refine drive_hit hok fun m2 => ?_
  dsimp only
  refine wpAny_bind ?_
  unfold reNewMatch
  have hr : List.range 0 = [] := rfl
  simp only [hr, List.any_nil, List.flatMap_nil, Bool.false_eq_true, if_false]
  refine wpAny_bind (wpAny_newTuple ?_ (by rw [sizeLine_eq]; exact (by decide : 2 ≤ 16777216)))
  unfold newFields
  refine wpAny_newObj_type ?_ (by unfold sizeOk; rw [sizeLine_eq]; exact (by decide : 6 ≤ 16777216 + 2))
  exact wpAny_pure ⟨_, rfl, by simpa [tupE, matchE] using h _ _⟩
theorem match_noBool : typeLookup (.type "re.Match") (Str.ofString "__bool__") = pure none := by rw [typeLookup_type, builtinLookup_eq_fast]; kernel_rfl
theorem match_noLen : typeLookup (.type "re.Match") (Str.ofString "__len__") = pure none := by rw [typeLookup_type, builtinLookup_eq_fast]; kernel_rfl
theorem truthy_match {prog : Program} {w : World} {A : Around} {E : Value → Shared → Prop} {s : Shared} {a : Addr} {vs : Array Value} {Q : Bool → Shared → Prop} (ho : s.heap.get? a = some (matchE vs)) (h : Q true s) : wpAny (model prog w) A (truthy (.ref a)) Q E s := by
  have hT : s.TypeIs (.ref a) "re.Match" := ⟨_, ho, rfl⟩
  unfold truthy
  refine wpAny_bind (wpAny_callSpecial?_none (name := Str.ofString "__bool__") hT match_noBool ?_)
  refine wpAny_bind (wpAny_specialOf (name := Str.ofString "__len__") hT match_noLen ?_)
  exact wpAny_pure h
end Mine

end
section
open PySem PySem.W PyProof.Rows PySem.Calls PySem.Spec
set_option genInjectivity false
set_option genSizeOf false
set_option maxRecDepth 100000
namespace Mine
/-- a call that raises -/
noncomputable def RaiseOK (base g : Heap) (outer : List Env) (s : Shared) (cls : String) (nw : List (Addr × Obj)) (r : Result) (s' : Shared) : Prop :=
  Ex3 fun e h' tk' => r = .error (.ref e) ∧ s' = { s with heap := h', toks := tk' } ∧ RaisedSN base g outer e (.type cls) nw h' ∧ g.UpToSlots h'
noncomputable def ConE (prog : Program) (w : World) (K : Frag) (p : Program) (loose : List Str) (mean : ExcName → Option Value) (mg mb : Str → Option Value)
    (d : Nat) (f : Value) (args : Args) (nw : List (Addr × Obj)) (cls : String) : Prop :=
  ∀ (dp un : Nat) (gd : Option (List Code)) (outer : List Env) (A₀ : Around) (base g : Heap) (s : Shared),
    Below A₀ base outer g → Out g s.heap nw → K.In g → Top p loose mean mg mb g → dp + d < recursionLimit → un + 16 * d < cLine →
    codeAny (model prog w) { handled := none, depth := dp, frames := some outer, guards := gd, units := un } (.call f args) (RaiseOK base g outer s cls nw) s
/-- a call in which an exception was caught: the callers' frames may have got frame objects -/
noncomputable def RetW (g : Heap) (outer : List Env) (s : Shared) (R : Value → List (Addr × Obj) → Prop) (r : Result) (s' : Shared) : Prop := match r with
  | .ok (.ret v) => Ex4 fun h' tk' nw' g' => s' = { s with heap := h', toks := tk' } ∧ KtsTurn (outer.filterMap (·.frame)) g g' ∧ Out g' h' nw' ∧ R v nw'
  | _ => False
noncomputable def ConW (prog : Program) (w : World) (K : Frag) (p : Program) (loose : List Str) (mean : ExcName → Option Value) (mg mb : Str → Option Value)
    (d : Nat) (f : Value) (args : Args) (nw : List (Addr × Obj)) (R : Value → List (Addr × Obj) → Prop) : Prop :=
  ∀ (dp un : Nat) (gd : Option (List Code)) (outer : List Env) (A₀ : Around) (base g : Heap) (s : Shared),
    Below A₀ base outer g → Out g s.heap nw → K.In base → Top p loose mean mg mb base → KtsDicts (outer.filterMap (·.frame)) g → dp + d < recursionLimit → un + 16 * d < cLine →
    codeAny (model prog w) { handled := none, depth := dp, frames := some outer, guards := gd, units := un } (.call f args) (RetW g outer s R) s
noncomputable def FinW (g : Heap) (outer : List Env) (s : Shared) (R : Value → List (Addr × Obj) → Prop) (v : Value) (s' : Shared) : Prop :=
  Ex6 fun L' m' nw' h' tk' g' => s' = { s with heap := h', toks := tk' } ∧ KtsTurn (outer.filterMap (·.frame)) g g' ∧ Fr g' L' h' m' ∧ News g' L' h' nw' ∧ R v nw'
section
variable {prog : Program} {w : World} {K : Frag} {p : Program} {loose : List Str} {mean : ExcName → Option Value} {mg mb : Str → Option Value} {dp un : Nat} {gd : Option (List Code)} {s : Shared} {A₀ : Around} {base g : Heap} {outer : List Env} {nw : List (Addr × Obj)}
  {R : Value → List (Addr × Obj) → Prop} {cls : String} {name qual : Str} {params : Arguments} {body : List Stmt} {scope : Scope} {dV kV doc pm cdv ct oc : Value} {an od : Option Addr} {osl : Array (Option Value)} {f : Addr} {args : Args} {binds : List (Str × Value)}
theorem enterKE (O : Out g s.heap nw) (X : K.In g) (T : Top p loose mean mg mb g)
    (ho : K.lookup f = some ⟨oc, od, .func (fnOf name qual params body scope dV kV doc pm an cdv ct), osl⟩) (hcd : codeIn K cdv qual = true) (hroom : dp < recursionLimit)
    (hbind : BindsTo s (fnOf name qual params body scope dV kV doc pm an cdv ct) args binds) (hloc : ∀ y ∈ binds, scope.names.lookup y.1 = some .local)
    (hcell : ∀ x ∈ scope.names, x.2 ≠ .cell) (hco : scope.isCoroutine = false) (hgen : scope.isGenerator = false) (hk : scope.kind = .function)
    (h : ∀ L' h₁, Fr g L' h₁ (fun y => binds.reverse.lookup y) → News g L' h₁ nw → (∀ q ∈ nw, q.1 < L') →
      wpAny (model prog w) (Around.deeper { handled := none, depth := dp, frames := some outer, guards := gd, units := un } (envOf qual scope L' f cdv)) (execs body (envOf qual scope L' f cdv))
        (fun _ _ => False)
        (fun e s' => wpAny (model prog w) (Around.deeper { handled := none, depth := dp, frames := some outer, guards := gd, units := un } (envOf qual scope L' f cdv)) (leaving (envOf qual scope L' f cdv) e) (fun _ s'' => RaiseOK base g outer s cls nw (.error e) s'') (fun _ _ => False) s')
        { s with heap := h₁, toks := s.toks + binds.length }) :
    codeAny (model prog w) { handled := none, depth := dp, frames := some outer, guards := gd, units := un } (.call (.ref f) args) (RaiseOK base g outer s cls nw) s := by
  refine codeAny_call_def (fd := fnOf name qual params body scope dV kV doc pm an cdv ct) (body := body) (binds := binds) hroom (O.keep _ _ (X _ _ ho)) rfl (T.nolimit.keeps O.keep) ((codeRec_of X hcd).keeps O.keep) rfl hbind hcell hloc (fun h₁ hns hk₁ => ?_) hco hgen hk
  refine wpAny_mono (h s.heap.objs.size h₁ ⟨hns, fun b o e => hk₁ b o (O.keep b o e), O.size⟩ (news_in O hk₁) fun q hq => Heap.lt_size (O.own q hq).1) (fun _ _ y => y.elim) fun e s' y => ?_
  exact wpAny_mono y (fun _ _ z => z) fun _ _ z => z.elim
theorem enterKW (O : Out g s.heap nw) (X : K.In g) (T : Top p loose mean mg mb g)
    (ho : K.lookup f = some ⟨oc, od, .func (fnOf name qual params body scope dV kV doc pm an cdv ct), osl⟩) (hcd : codeIn K cdv qual = true) (hroom : dp < recursionLimit)
    (hbind : BindsTo s (fnOf name qual params body scope dV kV doc pm an cdv ct) args binds) (hloc : ∀ y ∈ binds, scope.names.lookup y.1 = some .local)
    (hcell : ∀ x ∈ scope.names, x.2 ≠ .cell) (hco : scope.isCoroutine = false) (hgen : scope.isGenerator = false) (hk : scope.kind = .function)
    (h : ∀ L' h₁, Fr g L' h₁ (fun y => binds.reverse.lookup y) → News g L' h₁ nw → (∀ q ∈ nw, q.1 < L') →
      wpAny (model prog w) (Around.deeper { handled := none, depth := dp, frames := some outer, guards := gd, units := un } (envOf qual scope L' f cdv)) (execs body (envOf qual scope L' f cdv))
        (fun fl s' => FinW g outer s R (match fl with | .ret v => v | _ => .none) s') (fun _ _ => False)
        { s with heap := h₁, toks := s.toks + binds.length }) :
    codeAny (model prog w) { handled := none, depth := dp, frames := some outer, guards := gd, units := un } (.call (.ref f) args) (RetW g outer s R) s := by
  refine codeAny_call_def (fd := fnOf name qual params body scope dV kV doc pm an cdv ct) (body := body) (binds := binds) hroom (O.keep _ _ (X _ _ ho)) rfl (T.nolimit.keeps O.keep) ((codeRec_of X hcd).keeps O.keep) rfl hbind hcell hloc (fun h₁ hns hk₁ => ?_) hco hgen hk
  refine wpAny_mono (h s.heap.objs.size h₁ ⟨hns, fun b o e => hk₁ b o (O.keep b o e), O.size⟩ (news_in O hk₁) fun q hq => Heap.lt_size (O.own q hq).1) (fun fl s' hl => ?_) fun _ _ y => y.elim
  obtain ⟨L', m', nw', h', tk', g', e, ht, F', N', hR⟩ := hl
  exact ⟨h', tk', nw', g', e, ht, .of_fr F' N', hR⟩
end
/-- a raising call, out of a def's body -/
theorem ConE.useA {prog : Program} {w : World} {K : Frag} {p : Program} {loose : List Str} {mean : ExcName → Option Value} {mg mb : Str → Option Value} {d : Nat} {f : Value} {pos : List Value} {kw : List (Str × Value)} {nw all rest : List (Addr × Obj)} {cls : String}
    {A A₀ : Around} {dp un : Nat} {gd : Option (List Code)} {env : Env} {outer : List Env} {base h₀ : Heap} {L : Addr} {m : Str → Option Value} {s : Shared} {Q E : Value → Shared → Prop}
    (C : ConE prog w K p loose mean mg mb d f ⟨pos, kw⟩ nw cls)
    (B : Below A₀ base outer h₀) (F : Fr h₀ L s.heap m) (X : K.In h₀) (N : News h₀ L s.heap all) (T : Top p loose mean mg mb h₀)
    (hA : A = { handled := none, depth := dp, frames := some (env :: outer), guards := gd, units := un }) (hf : env.frame = some L) (hke : env.scope.kind = .function)
    (hd : dp + d < recursionLimit) (hu : un + 16 * d < cLine) (hsub : ∀ q ∈ nw, q ∈ all) (hrest : ∀ r ∈ rest, r ∈ all ∧ ∀ q ∈ nw, r.1 ≠ q.1)
    (hret : ∀ e h' tk' G, Fr h₀ L G m → RaisedSN base G (env :: outer) e (.type cls) (nw ++ rest) h' → G.UpToSlots h' → E (.ref e) { s with heap := h', toks := tk' }) :
    wpAny (model prog w) A (call f pos kw) Q E s := by
  subst hA
  have Nn : News h₀ L s.heap nw := fun q hq => N q (hsub q hq)
  obtain ⟨_, BG, st, _⟩ := groundX (R := fun _ _ => True) B F Nn (A := { handled := none, depth := dp, frames := some (env :: outer), guards := gd, units := un }) rfl hf hke
  obtain ⟨FG, _, _, _⟩ := groundX (R := fun _ _ => True) B F N (A := { handled := none, depth := dp, frames := some (env :: outer), guards := gd, units := un }) rfl hf hke
  have O : Out (hideAll s.heap (nw.map (·.1))) s.heap nw := ⟨fun b o e => of_hideAll _ e, Nat.le_of_eq (hideAll_size _ _), fun q hq => ⟨(Nn q hq).1, hideAll_none _ (List.mem_map_of_mem hq)⟩⟩
  refine wpAny_call (codeAny_mono (C dp un gd (env :: outer) _ base _ s BG O (Frag.In.keeps X st) (T.keeps st) hd hu) (fun r s' h => ?_))
  obtain ⟨e, h', tk', rfl, rfl, ⟨B', a0, hB, hBG, hl, hfl⟩, hup⟩ := h
  have sub : ∀ b o, (hideAll s.heap (all.map (·.1))).get? b = some o → (hideAll s.heap (nw.map (·.1))).get? b = some o := fun b o q => hideAll_get _ (of_hideAll _ q) fun hm => by
    obtain ⟨q', hq', e'⟩ := List.mem_map.mp hm
    have z : (hideAll s.heap (all.map (·.1))).get? q'.1 = none := hideAll_none _ (List.mem_map_of_mem (hsub q' hq'))
    rw [e', q] at z; cases z
  have nfr : ∀ q ∈ all, q.1 ∉ (env :: outer).filterMap (·.frame) := fun q hq hm => by
    obtain ⟨env', he, hf'⟩ := List.mem_filterMap.mp hm
    rcases List.mem_cons.mp he with rfl | he
    · exact (N q hq).2.1 (Option.some.inj (hf.symm.trans hf')).symm
    · obtain ⟨_, o, ho, _⟩ := B.frames.mem (List.mem_filterMap.mpr ⟨env', he, hf'⟩)
      rw [(N q hq).2.2] at ho; cases ho
  refine hret e h' tk' (hideAll s.heap (all.map (·.1))) FG ⟨B', a0, hB, fun b o q nm => hBG b o (sub b o q) nm, fun q hq => ?_, hfl⟩ fun b o q hn => hup b o (sub b o q) hn
  rcases List.mem_append.mp hq with hq | hq
  · exact ⟨(hl q hq).1, hideAll_none _ (List.mem_map_of_mem (hsub q hq)), (hl q hq).2.2⟩
  · obtain ⟨h1, h2⟩ := hrest q hq
    refine ⟨hBG _ _ (hideAll_get _ (N q h1).1 fun hm => ?_) (nfr q h1), hideAll_none _ (List.mem_map_of_mem h1), fresh_of_stays B.stays (N q h1).2.2⟩
    obtain ⟨q', hq', e'⟩ := List.mem_map.mp hm
    exact h2 q' hq' e'.symm
theorem ConE.use {prog : Program} {w : World} {K : Frag} {p : Program} {loose : List Str} {mean : ExcName → Option Value} {mg mb : Str → Option Value} {d : Nat} {f : Value} {pos : List Value} {kw : List (Str × Value)} {nw all rest : List (Addr × Obj)} {cls : String}
    {A A₀ : Around} {dp un : Nat} {gd : Option (List Code)} {env : Env} {outer : List Env} {base h₀ : Heap} {L : Addr} {m : Str → Option Value} {s : Shared} {Q E : Value → Shared → Prop}
    (C : ConE prog w K p loose mean mg mb d f ⟨pos, kw⟩ nw cls)
    (B : Below A₀ base outer h₀) (F : Fr h₀ L s.heap m) (X : K.In h₀) (N : News h₀ L s.heap all) (T : Top p loose mean mg mb h₀)
    (hA : A = { handled := none, depth := dp, frames := some (env :: outer), guards := gd, units := un }) (hf : env.frame = some L) (hke : env.scope.kind = .function)
    (hd : dp + d < recursionLimit) (hu : un + 16 * d < cLine) (S : Split nw all rest)
    (hret : ∀ e h' tk' G, Fr h₀ L G m → RaisedSN base G (env :: outer) e (.type cls) (nw ++ rest) h' → G.UpToSlots h' → E (.ref e) { s with heap := h', toks := tk' }) :
    wpAny (model prog w) A (call f pos kw) Q E s :=
  ConE.useA C B F X N T hA hf hke hd hu S.spec.1 S.spec.2 hret
/-- a call in which an exception was caught, out of the law's own body -/
theorem ConW.use {prog : Program} {w : World} {K : Frag} {p : Program} {loose : List Str} {mean : ExcName → Option Value} {mg mb : Str → Option Value} {d : Nat} {f : Value} {pos : List Value} {kw : List (Str × Value)} {nw all rest : List (Addr × Obj)} {R : Value → List (Addr × Obj) → Prop}
    {A A₀ : Around} {dp un : Nat} {gd : Option (List Code)} {env : Env} {base h₀ : Heap} {L : Addr} {m : Str → Option Value} {s : Shared} {Q E : Value → Shared → Prop}
    (C : ConW prog w K p loose mean mg mb d f ⟨pos, kw⟩ nw R)
    (B : Below A₀ base [] h₀) (F : Fr h₀ L s.heap m) (X : K.In base) (N : News h₀ L s.heap all) (T : Top p loose mean mg mb base)
    (hA : A = { handled := none, depth := dp, frames := some [env], guards := gd, units := un }) (hf : env.frame = some L) (hke : env.scope.kind = .function)
    (hd : dp + d < recursionLimit) (hu : un + 16 * d < cLine) (hsub : ∀ q ∈ nw, q ∈ all) (hrest : ∀ r ∈ rest, r ∈ all ∧ ∀ q ∈ nw, r.1 ≠ q.1)
    (hret : ∀ v h' tk' nw', Fr h₀ L h' m → News h₀ L h' (nw' ++ rest) → R v nw' → (∀ q ∈ nw', ∀ r ∈ rest, q.1 ≠ r.1) → Q v { s with heap := h', toks := tk' }) :
    wpAny (model prog w) A (call f pos kw) Q E s := by
  subst hA
  have Nn : News h₀ L s.heap nw := fun q hq => N q (hsub q hq)
  obtain ⟨FG, BG, st, _⟩ := groundX (R := fun _ _ => True) B F Nn (A := { handled := none, depth := dp, frames := some [env], guards := gd, units := un }) rfl hf hke
  have O : Out (hideAll s.heap (nw.map (·.1))) s.heap nw := ⟨fun b o e => of_hideAll _ e, Nat.le_of_eq (hideAll_size _ _), fun q hq => ⟨(Nn q hq).1, hideAll_none _ (List.mem_map_of_mem hq)⟩⟩
  have hfs : [env].filterMap (·.frame) = [L] := by simp [hf]
  have nL0 : h₀.get? L = none := by
    cases q : h₀.get? L with
    | none => rfl
    | some o => exact absurd (Nat.lt_of_lt_of_le (Heap.lt_size q) F.above) (Nat.lt_irrefl _)
  obtain ⟨oL, es, ep, hL, hLd, hLk, hLf⟩ := FG.ns
  have D : KtsDicts ([env].filterMap (·.frame)) (hideAll s.heap (nw.map (·.1))) := by
    rw [hfs]
    intro b hb
    rw [List.mem_singleton.mp hb]
    exact ⟨oL, _, _, hL, hLd⟩
  refine wpAny_call (codeAny_mono (C dp un gd [env] _ base _ s BG O X T D hd hu) (fun r s' h => ?_))
  cases r with
  | error e => exact h.elim
  | ok fl =>
  cases fl with
  | next => exact h.elim
  | brk => exact h.elim
  | cont => exact h.elim
  | ret v =>
  obtain ⟨h', tk', nw', g', rfl, TT, O', hR⟩ := h
  rw [hfs] at TT
  have key : ∀ b o, (hideAll s.heap (nw.map (·.1))).get? b = some o → b ≠ L → h'.get? b = some o := fun b o e hb => O'.keep b o (TT.other b o e (by simpa using hb))
  obtain ⟨sl, hs⟩ := TT.frame L oL hL (.head _)
  have F2 : Fr h₀ L h' m := ⟨⟨{ oL with slots := sl }, es, ep, O'.keep _ _ hs, hLd, hLk, hLf⟩, fun b o e => key b o (st b o e) (fun q => by rw [q, nL0] at e; cases e), F.above⟩
  refine hret v h' tk' nw' F2 (fun q hq => ?_) hR fun q hq r hr e => ?_
  rotate_left
  · obtain ⟨h1, h2⟩ := hrest r hr
    have z := N r h1
    have k2 := hideAll_get (nw.map (·.1)) z.1 fun hm => by
      obtain ⟨q', hq', e'⟩ := List.mem_map.mp hm
      exact h2 q' hq' e'.symm
    have k3 := TT.other _ _ k2 (by simpa using z.2.1)
    have z' := (O'.own q hq).2
    rw [e, k3] at z'
    cases z'
  rcases List.mem_append.mp hq with hq | hq
  · have z := O'.own q hq
    refine ⟨z.1, fun e => ?_, ?_⟩
    · rw [e, hs] at z; cases z.2
    · cases e : h₀.get? q.1 with
      | none => rfl
      | some o =>
        have ne : q.1 ≠ L := fun q' => by rw [q', nL0] at e; cases e
        have := TT.other _ _ (st _ _ e) (by simpa using ne)
        rw [z.2] at this; cases this
  · obtain ⟨h1, h2⟩ := hrest q hq
    have z := N q h1
    refine ⟨key _ _ (hideAll_get _ z.1 fun hm => ?_) z.2.1, z.2⟩
    obtain ⟨q', hq', e'⟩ := List.mem_map.mp hm
    exact h2 q' hq' e'.symm
theorem search_led {prog : Program} {w : World} {A : Around} {E : Value → Shared → Prop} {s : Shared} {h₀ : Heap} {L : Addr} {m : Str → Option Value} {nw : List (Addr × Obj)} {r tp : Addr} {x : Str} {t : Tok} {n : Nat} {a b c d : Value} {Q : Value → Shared → Prop}
    (F : Fr h₀ L s.heap m) (N : News h₀ L s.heap nw)
    (ho : s.heap.get? r = some { cls := .type "re.Pattern", data := .fields #[a, b, .int 0 0, c, d, .ref tp, .int 0 0] }) (htp : s.heap.get? tp = some { cls := .type "tuple", data := .seq #[.int 14 0, .int 10 0, .int 4 0, .int 1 0, .int 1 0, .int 22 0, .int 0 0, .int 31 0, .int 16 0, .int 127 0, .int 0 0, .int 13 0, .int 7 0, .int 22 0, .int 0 0, .int 31 0, .int 16 0, .int 127 0, .int 0 0, .int 1 0] n })
    (hok : hitIn nameCode x.cps = true) (hsz : x.cps.size < 2 ^ 62)
    (h : ∀ M vs h', Fr h₀ L h' m → News h₀ L h' ((M, matchE vs) :: nw) → Q (.ref M) { s with heap := h' }) : wpAny (model prog w) A (call (.builtin "re.Pattern.search") [.ref r, .str x t]) Q E s := by
  refine search_name_hit ho htp hok hsz fun us vs => ?_
  have F1 := F.push (tupE us)
  have N1 := News.pushKeep N (tupE us)
  have e : (s.heap.push (tupE us)).objs.size = s.heap.objs.size + 1 := by simp [Heap.push]
  have N2 := N1.push F1 (matchE vs)
  rw [e] at N2
  exact h _ vs _ (F1.push (matchE vs)) N2
end Mine

end
section
open PySem PySem.W PyProof.Rows PySem.Calls PySem.Spec
set_option genInjectivity false
set_option genSizeOf false
set_option maxRecDepth 100000
namespace Mine
section
open PySem.Builtin.Str
variable {prog : Program} {w : World} {A : Around} {s : Shared} {Q E : Value → Shared → Prop} {x y z : Str} {t u v : Tok}
/-- SC.replaceW, with the count of tokens not falling -/
theorem replaceK (hu : u ≠ 0) (hv : v ≠ 0) (huv : u ≠ v) (hyz : (y == z) = false) (hx : x.length ≤ 1048576) (hz : z.length ≤ 14)
    (hq : ∀ t' k, s.toks ≤ k → Q (.str (Txt.replace x y z) t') { s with toks := k }) : wpAny (model prog w) A (call (.builtin "str.replace") [.str x t, .str y u, .str z v]) Q E s := by
  have hb : x.length + (x.length + 1) * z.length ≤ 16777216 := by
    have := Nat.mul_le_mul_left (x.length + 1) hz
    (first | lia | omega)
  have hl : tooLong (x.length + (occurrences x y 0 x.length (x.length + 1)).length * z.length) = false := by
    have h2 := Nat.mul_le_mul_right z.length (StrLaws.occ_length_le x y 0 x.length (x.length + 1))
    have e : sizeLine = 16777216 := by decide
    unfold tooLong
    exact decide_eq_false (by (first | lia | omega))
  refine call_gives F.slot_str_replace (typeIs_str _ _ _) F.entry_str_replace (F.args_str_replace_3 _ _ _)
    (gives_str_replace x y z t u v fun _ => ⟨by simp [hu, hv], by simp [huv], hyz, hl⟩) ?_
  unfold Txt.replace at hq
  split
  · rename_i hc
    rw [if_pos hc] at hq
    exact hq t s.toks (Nat.le_refl _)
  · rename_i hc
    rw [if_neg hc] at hq
    exact ⟨fits_replaced y hb, hq _ _ (Nat.le_succ _)⟩
end
end Mine

end
section
open PySem PySem.W PyProof.Rows PySem.Calls PySem.Spec PyProof.Rows.LCg
set_option genInjectivity false
set_option genSizeOf false
set_option maxRecDepth 100000
namespace Mine
/-! comprehensions of several clauses -/
theorem compTurn_in {elt target iter t2 iter2 : PySem.Expr} {ifs ifs2 : List PySem.Expr} {gens : List Comprehension} {scope : Scope} {pos : Pos} {d : Nat} {it acc : Value} {env : Env} (hg : gens[d]? = some ⟨target, iter, ifs, 0⟩) (hg2 : gens[d + 1]? = some ⟨t2, iter2, ifs2, 0⟩) :
    compTurn (.ListComp elt gens scope pos) d it acc env = (do
      standAt iter.pos
      match ← pyNext it with
      | none => pure (.done .next)
      | some v =>
        letOwnedTupleGo target it v
        assign target env v
        let mut ok := true
        for c in ifs do
          if ok then ok ← isTrue c env (eval c env)
        if ok then
          let x ← eval iter2 env
          standAt iter2.pos
          let x ← foldedSetIterable iter2 env x
          let l ← holding [x] (pyIter x)
          let _ ← runOwn (.compStart (.ListComp elt gens scope pos) (d + 1) l acc env) env
          again (.compLoop (.ListComp elt gens scope pos) d it acc env)
        else again (.compLoop (.ListComp elt gens scope pos) d it acc env)) := by
  unfold compTurn
  simp only [hg, hg2]
  rfl
theorem compTurn_last {elt target iter : PySem.Expr} {ifs : List PySem.Expr} {gens : List Comprehension} {scope : Scope} {pos : Pos} {d : Nat} {it acc : Value} {env : Env} (hg : gens[d]? = some ⟨target, iter, ifs, 0⟩) (hg2 : gens[d + 1]? = none) :
    compTurn (.ListComp elt gens scope pos) d it acc env = (do
      standAt iter.pos
      match ← pyNext it with
      | none => pure (.done .next)
      | some v =>
        letOwnedTupleGo target it v
        assign target env v
        let mut ok := true
        for c in ifs do
          if ok then ok ← isTrue c env (eval c env)
        if ok then
          (do let _ ← call (.builtin "list.append") [acc, ← eval elt env])
          again (.compLoop (.ListComp elt gens scope pos) d it acc env)
        else again (.compLoop (.ListComp elt gens scope pos) d it acc env)) := by
  unfold compTurn
  simp only [hg, hg2]
  rfl
section
variable {prog : Program} {w : World} {A : Around} {E : Value → Shared → Prop} {s : Shared} {g : Heap} {L : Addr} {m : Str → Option Value} {nw : Led} {env : Env} {R : Result → Shared → Prop}
theorem compStart_at {elt target iter : PySem.Expr} {ifs : List PySem.Expr} {gens : List Comprehension} {scope : Scope} {pos : Pos} {d : Nat} {it acc : Value} (hg : gens[d]? = some ⟨target, iter, ifs, 0⟩)
    (h0 : codeAny (model prog w) A (.compLoop (.ListComp elt gens scope pos) d it acc env) R s)
    (h : wpAny (model prog w) A (pyIter it) (fun it' s' => codeAny (model prog w) A (.compLoop (.ListComp elt gens scope pos) d it' acc env) R s') (fun _ _ => False) s) :
    codeAny (model prog w) A (.compStart (.ListComp elt gens scope pos) d it acc env) R s := by
  refine codeAny_of_tree ?_
  show wpAny _ _ ((compStart (.ListComp elt gens scope pos) d it acc env).onRaise (fun x => do noteFrame x env; standAt theWindowsPlace)) _ _ s
  refine wpAny_notedAt ?_
  unfold compStart
  have hc : (clausesOf (.ListComp elt gens scope pos))[d]? = some ⟨target, iter, ifs, 0⟩ := hg
  rw [hc]
  refine wpAny_bind (wpAny_askSetting (wpAny_ite ?_))
  split
  · first
      | exact wpAny_bind (wpAny_pure (wpAny_pure (And.intro rfl h0)))
      | exact wpAny_pure (And.intro rfl h0)
  · first
      | exact wpAny_bind (wpAny_rule (wpAny_bind (wpAny_standAt (wpAny_bind (wpAny_mono h (fun it' s' h' => wpAny_pure (And.intro rfl h')) fun _ _ x => x.elim)))))
      | (refine wpAny_bind (wpAny_rule ?_); show wpAny _ _ (standAt iter.pos >>= _) _ _ s; exact wpAny_bind (wpAny_standAt (wpAny_bind (wpAny_mono h (fun it' s' h' => wpAny_pure (And.intro rfl h')) fun _ _ x => x.elim))))
/-- what a clause's turn leaves -/
noncomputable def LE (g : Heap) (L : Addr) (m : Str → Option Value) (s : Shared) (I C D : Addr) (oI : Obj) (P : (Str → Option Value) → Prop) (J : List Value → Led → Prop) (s' : Shared) : Prop :=
  Ex6 fun h' tk' nw' oC' mC' ys' => s' = { s with heap := h', toks := tk' } ∧ Fr g L h' m ∧ News g L h' ((I, oI) :: (C, oC') :: (D, lst ys') :: nw') ∧ NsObj oC' mC' ∧ P mC' ∧ (∀ p ∈ nw', p.1 ≠ I ∧ p.1 ≠ C ∧ p.1 ≠ D) ∧ J ys' nw'
/-- the element, or the next clause -/
noncomputable def Body (prog : Program) (w : World) (A : Around) (elt : PySem.Expr) (gens : List Comprehension) (scope : Scope) (pos : Pos) (d : Nat) (acc : Value) (env : Env) (Q : Shared → Prop) (s : Shared) : Prop :=
  match gens[d + 1]? with
  | some g' => wpAny (model prog w) A (eval g'.iter env) (fun x s1 => wpAny (model prog w) A (pyIter x) (fun it s2 => codeAny (model prog w) (A.mark none) (.compStart (.ListComp elt gens scope pos) (d + 1) it acc env) (fun r s3 => ∃ f, r = .ok f ∧ Q s3) s2) (fun _ _ => False) s1) (fun _ _ => False) s
  | none => wpAny (model prog w) A (eval elt env) (fun y s1 => wpAny (model prog w) A (call (.builtin "list.append") [acc, y]) (fun _ s2 => Q s2) (fun _ _ => False) s1) (fun _ _ => False) s
theorem compLoop_at {elt target iter : PySem.Expr} {ifs : List PySem.Expr} {gens : List Comprehension} {scope : Scope} {pos : Pos} {d : Nat} {it acc : Value} (hg : gens[d]? = some ⟨target, iter, ifs, 0⟩)
    (h0s : ∀ g', gens[d + 1]? = some g' → g'.is_async = 0 ∧ ∀ x, foldedSetIterable g'.iter env x = pure x) (I : Nat → Shared → Prop)
    (turn : ∀ n s, I n s → wpAny (model prog w) A (pyNext it) (fun r s₁ => match r with
      | none => R (.ok .next) s₁
      | some v => wpAny (model prog w) A (letOwnedTupleGo target it v) (fun _ s₁' => wpAny (model prog w) A (assign target env v) (fun _ s₂ =>
          wpAny (model prog w) A (testsOf prog w ifs env) (fun ok s₃ =>
            if ok = true then Body prog w A elt gens scope pos d acc env (fun s5 => ∃ m, m < n ∧ I m s5) s₃
            else ∃ m, m < n ∧ I m s₃) (fun _ _ => False) s₂) (fun _ _ => False) s₁') (fun _ _ => False) s₁) (fun _ _ => False) s)
    (n : Nat) (h : I n s) : codeAny (model prog w) A (.compLoop (.ListComp elt gens scope pos) d it acc env) R s := by
  refine codeAny_loop rfl I (fun n s hI => ?_) n h
  show wpAny _ A ((compTurn (.ListComp elt gens scope pos) d it acc env).onRaise (fun x => do noteFrame x env; theTreesLotGoes x)) _ _ s
  refine wpAny_noted ?_
  cases e2 : gens[d + 1]? with
  | none =>
    rw [compTurn_last hg e2]
    refine wpAny_bind (wpAny_standAt (wpAny_bind (wpAny_mono (turn n s hI) (fun r s₁ h₁ => ?_) fun _ _ h' => h'.elim)))
    cases r with
    | none => exact wpAny_pure h₁
    | some v =>
      refine wpAny_bind (wpAny_mono h₁ (fun _ s₁' h₁' => ?_) fun _ _ h' => h'.elim)
      refine wpAny_bind (wpAny_mono h₁' (fun _ s₂ h₂ => wpAny_bind (wpAny_mono h₂ (fun ok s₃ h₃ => ?_) fun _ _ h' => h'.elim)) fun _ _ h' => h'.elim)
      cases ok with
      | false => exact wpAny_pure ⟨rfl, h₃⟩
      | true =>
        simp only [if_true] at h₃ ⊢
        unfold Body at h₃
        rw [e2] at h₃
        exact wpAny_bind (wpAny_bind (wpAny_mono h₃ (fun x s₄ h₄ => wpAny_bind (wpAny_mono h₄ (fun _ s₅ h₅ => wpAny_pure (wpAny_pure ⟨rfl, h₅⟩)) fun _ _ h' => h'.elim)) fun _ _ h' => h'.elim))
  | some g' =>
    obtain ⟨t2, iter2, ifs2, k2⟩ := g'
    obtain ⟨hk, hs⟩ := h0s _ e2
    dsimp only at hk hs
    subst hk
    rw [compTurn_in hg e2]
    refine wpAny_bind (wpAny_standAt (wpAny_bind (wpAny_mono (turn n s hI) (fun r s₁ h₁ => ?_) fun _ _ h' => h'.elim)))
    cases r with
    | none => exact wpAny_pure h₁
    | some v =>
      refine wpAny_bind (wpAny_mono h₁ (fun _ s₁' h₁' => ?_) fun _ _ h' => h'.elim)
      refine wpAny_bind (wpAny_mono h₁' (fun _ s₂ h₂ => wpAny_bind (wpAny_mono h₂ (fun ok s₃ h₃ => ?_) fun _ _ h' => h'.elim)) fun _ _ h' => h'.elim)
      cases ok with
      | false => exact wpAny_pure ⟨rfl, h₃⟩
      | true =>
        simp only [if_true] at h₃ ⊢
        unfold Body at h₃
        rw [e2] at h₃
        dsimp only at h₃
        refine wpAny_bind (wpAny_mono h₃ (fun x s₄ h₄ => wpAny_bind (wpAny_standAt (wpAny_bind (wpAny_of_eq (hs x) (wpAny_bind (wpAny_holding (wpAny_mono h₄ (fun l s₅ h₅ => ?_) fun _ _ h' => h'.elim))))))) fun _ _ h' => h'.elim)
        refine wpAny_bind (wpAny_runOwn (codeAny_mono h₅ fun r s₆ h₆ => ?_))
        obtain ⟨f, rfl, h₆⟩ := h₆
        exact wpAny_pure ⟨rfl, h₆⟩
noncomputable def LvlInv (g : Heap) (L : Addr) (m : Str → Option Value) (s : Shared) (I C D : Addr) (n : Nat) (St : Nat → Heap → Prop) (P : (Str → Option Value) → Prop) (J : Nat → List Value → Led → Prop) (k : Nat) (s' : Shared) : Prop :=
  Ex8 fun h tk i ys nw oI oC mC => s' = { s with heap := h, toks := tk } ∧ i + k = n ∧ St i h ∧ Fr g L h m ∧ News g L h ((I, oI) :: (C, oC) :: (D, lst ys) :: nw) ∧ NsObj oC mC ∧ P mC ∧ (∀ p ∈ nw, p.1 ≠ I ∧ p.1 ≠ C ∧ p.1 ≠ D) ∧ J i ys nw
/-- a clause's turns -/
theorem lvl {elt iter : PySem.Expr} {x : Str} {px : Pos} {ifs : List PySem.Expr} {gens : List Comprehension} {scope : Scope} {cl : List (Str × Addr)} {pos : Pos} {d n : Nat} {I C D : Addr} {src : List Addr} {P0 : Nat → Value → Prop} {St : Nat → Heap → Prop} {h₁ : Heap} {tk₁ : Nat} {oI oC : Obj} {mC : Str → Option Value} {ys0 : List Value}
    (hg : gens[d]? = some ⟨.Name x px, iter, ifs, 0⟩) (h0s : ∀ g', gens[d + 1]? = some g' → g'.is_async = 0 ∧ ∀ x, foldedSetIterable g'.iter (compEnvC scope cl C env) x = pure x)
    (K : Cur prog w A (.Name x px) I [I] src n (fun i v _ => P0 i v) St) (J : Nat → List Value → Led → Prop) (P : (Str → Option Value) → Prop) (hPx : ∀ mC v, P mC → P (fun y => if y = x then some v else mC y))
    (hkind : scope.kind = .function) (hx : scope.names.lookup x = some .local)
    (F₁ : Fr g L h₁ m) (hst₁ : St 0 h₁) (N₁ : News g L h₁ ((I, oI) :: (C, oC) :: (D, lst ys0) :: nw)) (hoC : NsObj oC mC) (hP : P mC) (off₁ : ∀ p ∈ nw, p.1 ≠ I ∧ p.1 ≠ C ∧ p.1 ≠ D) (hIC : I ≠ C) (hID : I ≠ D) (hCD : C ≠ D)
    (h0 : J 0 ys0 nw) (hS : SrcIn g src (fun nw => Ex2 fun i ys => J i ys nw))
    (turn : ∀ i v ys nw oI oC mC h tk, i < n → P0 i v → J i ys nw → NsObj oC mC → P mC → mC x = some v → Fr g L h m → News g L h ((I, oI) :: (C, oC) :: (D, lst ys) :: nw) → (∀ p ∈ nw, p.1 ≠ I ∧ p.1 ≠ C ∧ p.1 ≠ D) →
      wpAny (model prog w) A (testsOf prog w ifs (compEnvC scope cl C env)) (fun ok s2 => if ok = true then Body prog w A elt gens scope pos d (.ref D) (compEnvC scope cl C env) (LE g L m s I C D oI P (J (i + 1))) s2
        else LE g L m s I C D oI P (J (i + 1)) s2) (fun _ _ => False) { s with heap := h, toks := tk })
    (hR : ∀ h tk oC mC ys nw, Fr g L h m → News g L h ((C, oC) :: (D, lst ys) :: nw) → NsObj oC mC → P mC → (∀ p ∈ nw, p.1 ≠ C ∧ p.1 ≠ D) → J n ys nw → R (.ok .next) { s with heap := h, toks := tk }) :
    codeAny (model prog w) A (.compStart (.ListComp elt gens scope pos) d (.ref I) (.ref D) (compEnvC scope cl C env)) R { s with heap := h₁, toks := tk₁ } := by
  have loop : codeAny (model prog w) A (.compLoop (.ListComp elt gens scope pos) d (.ref I) (.ref D) (compEnvC scope cl C env)) R { s with heap := h₁, toks := tk₁ } := by
    refine compLoop_at hg h0s (LvlInv g L m s I C D n St P J) ?_ n ⟨h₁, _, 0, ys0, nw, oI, oC, mC, rfl, Nat.zero_add n, hst₁, F₁, N₁, hoC, hP, off₁, h0⟩
    rintro k s' ⟨h, tk, i, ys, nw, oI, oC, mC, rfl, hk, hst, F, N, hoC, hP, off, hj⟩
    have zI := N _ (.head _)
    have how : ∀ b ∈ [I], b ≠ L ∧ g.get? b = none := fun b hb => by rw [List.mem_singleton.mp hb]; exact zI.2
    have N1 : News g L h ((C, oC) :: (D, lst ys) :: nw) := fun p hp => N p (.tail _ hp)
    have offI : ∀ p ∈ (C, oC) :: (D, lst ys) :: nw, p.1 ∉ [I] := List.forall_mem_cons.mpr ⟨by simpa using Ne.symm hIC, List.forall_mem_cons.mpr ⟨by simpa using Ne.symm hID, fun p hp => by simpa using (off p hp).1⟩⟩
    rcases Nat.lt_or_ge i n with hi | hi
    · refine' wpAny_mono (K.step i _ _ (fun _ _ => False) hi hst ?go) ?im fun _ _ e => e
      case im =>
        intro r s1 h1
        cases r with
        | none => exact h1.elim
        | some v => exact h1
      case go =>
        intro v h' tk' hv hst'' hk'
        have F' := fr_off F how hk'
        have N' := news_off N1 offI hk'
        obtain ⟨oI2, eI⟩ := K.has _ _ hst'' I (.head _)
        have zC := N' (C, oC) (.head _)
        refine wpAny_assign_Name (wpAny_storeName_local (lookup_relabel_local hx) (hoC.ns zC.1) (fun h2 hn2 hs2 => ?_) (by simp [compEnvC, relabel, hkind]))
        obtain ⟨oC2, heC2, hoC2⟩ := ns_obj hn2
        have F2 : Fr g L h2 m := F'.change hs2 zC.2.1 zC.2.2
        have N2 : News g L h2 ((I, oI2) :: (C, oC2) :: (D, lst ys) :: nw) := by
          refine news_put (pre := [(I, oI2)]) (post := (D, lst ys) :: nw) (X := C) (o := oC) (fun q hq => ?_) (fun b o hb e => hs2.extBut b o hb e) heC2 (fun q hq => by rw [List.mem_singleton.mp hq]; exact hIC) (List.forall_mem_cons.mpr ⟨Ne.symm hCD, fun q hq => (off q hq).2.1⟩)
          rcases List.mem_cons.mp hq with rfl | hq
          · exact ⟨eI, zI.2⟩
          · exact N' q hq
        have fin : ∀ s5, LE g L m s I C D oI2 P (J (i + 1)) s5 → ∃ k', k' < k ∧ LvlInv g L m s I C D n St P J k' s5 := by
          rintro s5 ⟨h3, tk3, nw3, oC3, mC3, ys3, rfl, F3, N3, hoC3, hP3, off3, hJ3⟩
          refine ⟨k - 1, by (first | lia | omega), h3, tk3, i + 1, ys3, nw3, oI2, oC3, mC3, rfl, by (first | lia | omega), ?_, F3, N3, hoC3, hP3, off3, hJ3⟩
          refine cur_frame K hst'' hS F' (fun p hp => N' p (.tail _ (.tail _ hp))) F3 (fun p hp => N3 p (.tail _ (.tail _ (.tail _ hp)))) (fun q hq => ?_) ⟨_, _, hj⟩ ⟨_, _, hJ3⟩
          obtain ⟨h6, h7⟩ := objsAt_get (K.has _ _ hst'') q hq
          rw [List.mem_singleton.mp h6, eI] at h7
          rw [List.mem_singleton.mp h6, ← h7]
          exact (N3 _ (.head _)).1
        refine wpAny_mono (turn i v ys nw oI2 oC2 _ h2 _ hi hv hj hoC2 (hPx _ _ hP) (by simp) F2 N2 off) (fun ok s2 h2 => ?_) fun _ _ e => e
        cases ok with
        | true =>
          simp only [if_true] at h2 ⊢
          revert h2
          unfold Body
          cases gens[d + 1]? with
          | none => exact fun h2 => wpAny_mono h2 (fun y s3 h3 => wpAny_mono h3 (fun _ s5 h5 => fin _ h5) fun _ _ e => e) fun _ _ e => e
          | some g' => exact fun h2 => wpAny_mono h2 (fun y s3 h3 => wpAny_mono h3 (fun _ s5 h5 => codeAny_mono h5 fun r s6 ⟨f, e, h6⟩ => ⟨f, e, fin _ h6⟩) fun _ _ e => e) fun _ _ e => e
        | false =>
          simp only [Bool.false_eq_true, if_false] at h2 ⊢
          exact fin _ h2
    · have hi' : i = n := by (first | lia | omega)
      subst hi'
      exact K.done _ _ _ hst fun h' tk' hk' => hR h' _ oC mC ys nw (fr_off F how hk') (news_off N1 offI hk') hoC hP (fun p hp => (off p hp).2) hj
  exact compStart_at hg loop (K.self 0 _ _ _ hst₁ loop)
noncomputable def CompTailN (prog : Program) (w : World) (A : Around) (E : Value → Shared → Prop) (env : Env) (elt : PySem.Expr) (gens : List Comprehension) (scope : Scope) (cl : List (Str × Addr)) (pos : Pos) (use : Option (Value → Sem Unit)) (Q : Value → Shared → Prop) (it : Value) (s : Shared) : Prop :=
  wpAny (model prog w) A (newList []) (fun acc s₃ => wpAny (model prog w) A (newFunctionEnv scope env.globals cl [] env.qual none .none (some env)) (fun cenv s₄ =>
      codeAny (model prog w) A (.compStart (.ListComp elt gens scope pos) 0 it acc { cenv with scope := relabel scope env }) (compPost (model prog w) A E use Q acc cenv.locals) s₄) E s₃) E s
theorem eval_compN {elt target iter : PySem.Expr} {ifs : List PySem.Expr} {rest : List Comprehension} {scope : Scope} {cl : List (Str × Addr)} {pos : Pos} {Q : Value → Shared → Prop}
    (hclos : closureFor scope env = pure cl) (hkind : scope.kind = .function) (hnames : ∀ y ∈ scope.names, y.2 = .local → scope.names.lookup y.1 = some .local)
    (h : wpAny (model prog w) A (eval iter env) (fun xv s₁ => wpAny (model prog w) A (pyIter xv) (CompTailN prog w A E env elt (⟨target, iter, ifs, 0⟩ :: rest) scope cl pos none Q) E s₁) E s)
    (hs : ∀ x, foldedSetIterable iter env x = pure x := by intro _; rfl) :
    wpAny (model prog w) A (eval (.ListComp elt (⟨target, iter, ifs, 0⟩ :: rest) scope pos) env) Q E s := by
  rw [eval_ListComp]
  exact wpAny_comprehension_free (use := none) rfl hs hclos hkind hnames h
theorem outer_cur {elt iter : PySem.Expr} {x : Str} {px : Pos} {ifs : List PySem.Expr} {gens : List Comprehension} {scope : Scope} {cl : List (Str × Addr)} {pos : Pos} {use : Option (Value → Sem Unit)} {Q : Value → Shared → Prop} {I : Addr} {src : List Addr} {n : Nat} {P0 : Nat → Value → Prop} {St : Nat → Heap → Prop}
    (hg : gens[0]? = some ⟨.Name x px, iter, ifs, 0⟩) (h0s : ∀ C g', gens[1]? = some g' → g'.is_async = 0 ∧ ∀ x, foldedSetIterable g'.iter (compEnvC scope cl C env) x = pure x)
    (K : Cur prog w A (.Name x px) I [I] src n (fun i v _ => P0 i v) St) (J : Nat → List Value → Led → Prop)
    (hcell : ∀ y ∈ scope.names, y.2 ≠ .cell) (hkind : scope.kind = .function) (hx : scope.names.lookup x = some .local)
    (F : Fr g L s.heap m) (N : News g L s.heap nw) (hst : St 0 s.heap) (how : I ≠ L ∧ g.get? I = none) (off : ∀ p ∈ nw, p.1 ≠ I)
    (h0 : J 0 [] nw) (hS : SrcIn g src (fun nw => Ex2 fun i ys => J i ys nw))
    (turn : ∀ i v ys nw oI C oC mC D h tk, i < n → P0 i v → J i ys nw → NsObj oC mC → mC x = some v → Fr g L h m → News g L h ((I, oI) :: (C, oC) :: (D, lst ys) :: nw) → (∀ p ∈ nw, p.1 ≠ I ∧ p.1 ≠ C ∧ p.1 ≠ D) → ((@Ne Nat I C) ∧ (@Ne Nat I D) ∧ (@Ne Nat C D)) →
      wpAny (model prog w) A (testsOf prog w ifs (compEnvC scope cl C env)) (fun ok s2 => if ok = true then Body prog w A elt gens scope pos 0 (.ref D) (compEnvC scope cl C env) (LE g L m s I C D oI (fun _ => True) (J (i + 1))) s2
        else LE g L m s I C D oI (fun _ => True) (J (i + 1)) s2) (fun _ _ => False) { s with heap := h, toks := tk })
    (fin : ∀ ys nw, J n ys nw → UseFin env use g L m s Q ys nw) :
    CompTailN prog w A E env elt gens scope cl pos use Q (.ref I) s := by
  refine wpAny_newObj_type (wpAny_newFunctionEnv hcell (by intro y hy; simp at hy) (fun h₁ hns₁ hsb₁ => ?_) hkind)
  dsimp only at hns₁ hsb₁ ⊢
  generalize hH2 : s.heap.push { cls := .type "list", dict := none, data := .seq ([] : List Value).toArray } = H2 at hns₁ hsb₁ ⊢
  generalize hDd : s.heap.objs.size = D at *
  have hC : H2.objs.size = D + 1 := by rw [← hH2, Heap.size_push, hDd]
  generalize hCc : H2.objs.size = C at *
  have hCD : C ≠ D := by rw [hC]; exact Nat.succ_ne_self _
  have lt2 : ∀ b, b < D → b ≠ C ∧ b ≠ D := fun b hb => ⟨by rw [hC]; exact Nat.ne_of_lt (Nat.lt_succ_of_lt hb), Nat.ne_of_lt hb⟩
  have old : ∀ b o, s.heap.get? b = some o → h₁.get? b = some o := fun b o e => hsb₁.extBut b o (lt2 b (hDd ▸ Heap.lt_size e)).1 (Heap.get?_push_of_some _ (hH2 ▸ Heap.get?_push_of_some _ e))
  have hacc : h₁.get? D = some (lst []) := hsb₁.extBut _ _ (Ne.symm hCD) (Heap.get?_push_of_some _ (hH2 ▸ hDd ▸ Heap.get?_push_size _ rfl))
  have fresh : ∀ a, D ≤ a → g.get? a = none := fun a ha => by
    cases e : g.get? a with
    | none => rfl
    | some o' => exact absurd (Heap.lt_size (F.keep a o' e)) (Nat.not_lt.mpr (hDd ▸ ha))
  have hD₀ : g.get? D = none := fresh _ (Nat.le_refl _)
  have hC₀ : g.get? C = none := fresh _ (by rw [hC]; exact Nat.le_succ _)
  have hLlt : L < D := hDd ▸ F.ns.lt
  have hDL : D ≠ L := Ne.symm (lt2 L hLlt).2
  have hCL : C ≠ L := Ne.symm (lt2 L hLlt).1
  obtain ⟨oI, eI⟩ := K.has _ _ hst I (.head _)
  have hI2 := lt2 I (hDd ▸ Heap.lt_size eI)
  have hst₁ : St 0 h₁ := K.frame 0 _ _ hst fun b _ o e => old b o e
  have F₁ : Fr g L h₁ m := F.keeps old
  obtain ⟨oC, heC, hoC⟩ := ns_obj hns₁
  have N₁ : News g L h₁ ((I, oI) :: (C, oC) :: (D, lst []) :: nw) := led_cons ⟨old _ _ eI, how⟩ (led_cons ⟨heC, hCL, hC₀⟩ (led_cons ⟨hacc, hDL, hD₀⟩ fun q hq => ⟨old _ _ (N q hq).1, (N q hq).2⟩))
  refine lvl (d := 0) (P := fun _ => True) hg (h0s C) K J (fun _ _ h => h) hkind hx F₁ hst₁ N₁ hoC trivial (fun p hp => ⟨off p hp, lt2 _ (hDd ▸ Heap.lt_size (N p hp).1)⟩) hI2.1 hI2.2 hCD h0 hS ?_ ?_
  · intro i v ys nw oI oC mC h tk hi hv hj hoC _ hxx F N off
    exact turn i v ys nw oI C oC mC D h tk hi hv hj hoC hxx F N off ⟨hI2.1, hI2.2, hCD⟩
  · intro h tk oC mC ys nw F N hoC _ off hj
    exact use_fin F (fun p hp => N p (.tail _ hp)) off (hoC.ns (N _ (.head _)).1) hC₀ hCL hCD (fin ys nw hj)
theorem inner_cur {elt iter : PySem.Expr} {x : Str} {px : Pos} {ifs : List PySem.Expr} {gens : List Comprehension} {scope : Scope} {cl : List (Str × Addr)} {pos : Pos} {d n : Nat} {I I0 C D : Addr} {src : List Addr} {V : Nat → Value → Prop} {St : Nat → Heap → Prop} {oI oI0 oC : Obj} {mC : Str → Option Value} {ys0 : List Value} {s0 : Shared} {h1 : Heap} {tk1 : Nat}
    (hg : gens[d]? = some ⟨.Name x px, iter, ifs, 0⟩) (h0s : ∀ g', gens[d + 1]? = some g' → g'.is_async = 0 ∧ ∀ x, foldedSetIterable g'.iter (compEnvC scope cl C env) x = pure x)
    (K : Cur prog w A (.Name x px) I [I] src n (fun i v _ => V i v) St) (J : Nat → List Value → Led → Prop) (J0 : List Value → Led → Prop) (P P0 : (Str → Option Value) → Prop) (hPx : ∀ mC v, P mC → P (fun y => if y = x then some v else mC y)) (hPP : ∀ mC, P mC → P0 mC)
    (hkind : scope.kind = .function) (hx : scope.names.lookup x = some .local)
    (F : Fr g L h1 m) (hst : St 0 h1) (N : News g L h1 ((I, oI) :: (I0, oI0) :: (C, oC) :: (D, lst ys0) :: nw)) (hoC : NsObj oC mC) (hP : P mC) (off : ∀ p ∈ nw, p.1 ≠ I0 ∧ p.1 ≠ C ∧ p.1 ≠ D) (offI : ∀ p ∈ (I0, oI0) :: (C, oC) :: (D, lst ys0) :: nw, p.1 ≠ I) (hIC : I0 ≠ C) (hID : I0 ≠ D) (hCD : C ≠ D)
    (h0 : J 0 ys0 nw) (hS : ∀ b ∈ src, (∃ o, g.get? b = some o) ∨ ∃ o, ∀ i ys nw, J i ys nw → (b, o) ∈ nw)
    (turn : ∀ i v ys nw oI oC mC h tk, i < n → V i v → J i ys nw → NsObj oC mC → P mC → mC x = some v → Fr g L h m → News g L h ((I, oI) :: (C, oC) :: (D, lst ys) :: (I0, oI0) :: nw) → (∀ p ∈ nw, p.1 ≠ I ∧ p.1 ≠ I0 ∧ p.1 ≠ C ∧ p.1 ≠ D) → ((@Ne Nat I C) ∧ (@Ne Nat I D) ∧ (@Ne Nat I I0)) →
      wpAny (model prog w) A (testsOf prog w ifs (compEnvC scope cl C env)) (fun ok s2 => if ok = true then Body prog w A elt gens scope pos d (.ref D) (compEnvC scope cl C env) (LE g L m s0 I C D oI P (fun ys nw' => ∃ nwx, nw' = (I0, oI0) :: nwx ∧ (∀ p ∈ nwx, p.1 ≠ I0) ∧ J (i + 1) ys nwx)) s2
        else LE g L m s0 I C D oI P (fun ys nw' => ∃ nwx, nw' = (I0, oI0) :: nwx ∧ (∀ p ∈ nwx, p.1 ≠ I0) ∧ J (i + 1) ys nwx) s2) (fun _ _ => False) { s0 with heap := h, toks := tk })
    (fin : ∀ ys nwx, J n ys nwx → ∃ nw0, (∀ p ∈ nw0, p ∈ nwx) ∧ J0 ys nw0) :
    codeAny (model prog w) A (.compStart (.ListComp elt gens scope pos) d (.ref I) (.ref D) (compEnvC scope cl C env)) (fun r s3 => ∃ f, r = .ok f ∧ LE g L m s0 I0 C D oI0 P0 J0 s3) { s0 with heap := h1, toks := tk1 } := by
  have z0 := offI _ (.head _)
  have z1 := offI _ (.tail _ (.head _))
  have z2 := offI _ (.tail _ (.tail _ (.head _)))
  refine lvl (oI := oI) (nw := (I0, oI0) :: nw) (P := P) hg h0s K (fun i ys nw' => ∃ nwx, nw' = (I0, oI0) :: nwx ∧ (∀ p ∈ nwx, p.1 ≠ I0) ∧ J i ys nwx) hPx hkind hx F hst (fun p hp => N p ?_) hoC hP ?_ (Ne.symm z1) (Ne.symm z2) hCD ⟨nw, rfl, fun p hp => (off p hp).1, h0⟩ ?_ ?_ ?_
  · simp only [List.mem_cons] at hp ⊢
    rcases hp with h | h | h | h | h
    · exact .inl h
    · exact .inr (.inr (.inl h))
    · exact .inr (.inr (.inr (.inl h)))
    · exact .inr (.inl h)
    · exact .inr (.inr (.inr (.inr h)))
  · exact List.forall_mem_cons.mpr ⟨⟨z0, hIC, hID⟩, fun p hp => ⟨offI p (.tail _ (.tail _ (.tail _ hp))), (off p hp).2⟩⟩
  · intro b hb
    rcases hS b hb with h | ⟨o, h⟩
    · exact .inl h
    · exact .inr ⟨o, by rintro nw' ⟨i, ys, nwx, rfl, -, hj⟩; exact .tail _ (h i ys nwx hj)⟩
  · rintro i v ys nw' oI oC mC h tk hi hv ⟨nwx, rfl, ho, hj⟩ hoC hP hxx F N off'
    exact turn i v ys nwx oI oC mC h tk hi hv hj hoC hP hxx F N (fun p hp => ⟨(off' p (.tail _ hp)).1, ho p hp, (off' p (.tail _ hp)).2⟩) ⟨Ne.symm z1, Ne.symm z2, Ne.symm z0⟩
  · rintro h tk oC mC ys nw' F N hoC hP off' ⟨nwx, rfl, ho, hj⟩
    obtain ⟨nw0, hsub, hj0⟩ := fin ys nwx hj
    refine ⟨_, rfl, h, tk, nw0, oC, mC, ys, rfl, F, fun p hp => N p ?_, hoC, hPP _ hP, fun p hp => ⟨ho p (hsub p hp), off' p (.tail _ (hsub p hp))⟩, hj0⟩
    simp only [List.mem_cons] at hp ⊢
    rcases hp with h | h | h | h
    · exact .inr (.inr (.inl h))
    · exact .inl h
    · exact .inr (.inl h)
    · exact .inr (.inr (.inr (hsub p h)))
theorem LE.intro {I C D : Addr} {oI oC' : Obj} {P : (Str → Option Value) → Prop} {J : List Value → Led → Prop} {h' : Heap} {tk' : Nat} {mC' : Str → Option Value} {ys' : List Value} {nw' all : Led} (F : Fr g L h' m) (N : News g L h' all) (hsub : ∀ p ∈ (I, oI) :: (C, oC') :: (D, lst ys') :: nw', p ∈ all) (hoC : NsObj oC' mC') (hP : P mC') (off : ∀ p ∈ nw', p.1 ≠ I ∧ p.1 ≠ C ∧ p.1 ≠ D) (hJ : J ys' nw') :
    LE g L m s I C D oI P J { s with heap := h', toks := tk' } := ⟨h', tk', nw', oC', mC', ys', rfl, F, fun p hp => N p (hsub p hp), hoC, hP, off, hJ⟩
theorem outer_list {elt iter : PySem.Expr} {x : Str} {px : Pos} {ifs : List PySem.Expr} {rest : List Comprehension} {scope : Scope} {cl : List (Str × Addr)} {pos : Pos} {use : Option (Value → Sem Unit)} {Q : Value → Shared → Prop} {l : Addr} {its : Array Value} {k : Nat}
    (hh : A.handled = none) (J : Nat → List Value → Led → Prop) (h0s : ∀ C g', rest[0]? = some g' → g'.is_async = 0 ∧ ∀ x, foldedSetIterable g'.iter (compEnvC scope cl C env) x = pure x) (F : Fr g L s.heap m) (N : News g L s.heap nw) (hm : (l, listOf its k) ∈ nw) (hsz : its.size ≤ sizeLine)
    (hcell : ∀ y ∈ scope.names, y.2 ≠ .cell) (hkind : scope.kind = .function) (hx : scope.names.lookup x = some .local)
    (h0 : J 0 [] nw) (hJ : ∀ i ys nw, J i ys nw → (l, listOf its k) ∈ nw)
    (turn : ∀ i v ys nw I oI C oC mC D h tk, i < its.size → its[i]? = some v → J i ys nw → NsObj oC mC → mC x = some v → Fr g L h m → News g L h ((I, oI) :: (C, oC) :: (D, lst ys) :: nw) → (∀ p ∈ nw, p.1 ≠ I ∧ p.1 ≠ C ∧ p.1 ≠ D) → ((@Ne Nat I C) ∧ (@Ne Nat I D) ∧ (@Ne Nat C D)) →
      wpAny (model prog w) A (testsOf prog w ifs (compEnvC scope cl C env)) (fun ok s2 => if ok = true then Body prog w A elt (⟨.Name x px, iter, ifs, 0⟩ :: rest) scope pos 0 (.ref D) (compEnvC scope cl C env) (LE g L m s I C D oI (fun _ => True) (J (i + 1))) s2
        else LE g L m s I C D oI (fun _ => True) (J (i + 1)) s2) (fun _ _ => False) { s with heap := h, toks := tk })
    (fin : ∀ ys nw, J its.size ys nw → UseFin env use g L m s Q ys nw) :
    wpAny (model prog w) A (pyIter (.ref l)) (CompTailN prog w A E env elt (⟨.Name x px, iter, ifs, 0⟩ :: rest) scope cl pos use Q) E s := by
  have hl : s.heap.IsList l its := ⟨_, (N _ hm).1, rfl, _, rfl⟩
  refine wpAny_pyIter_list hl ?_
  refine outer_cur (s := { s with heap := _ }) rfl h0s (Cur.list hh s.heap.objs.size l (Nat.ne_of_lt (Heap.lt_size (N _ hm).1)) its) J hcell hkind hx (F.push _) (N.grown fun _ _ e => Heap.get?_push_of_some _ e) ⟨⟨_, Heap.get?_push_size _ rfl, rfl, rfl⟩, hl.push _⟩
    ⟨Ne.symm (Nat.ne_of_lt F.ns.lt), fresh_of F⟩ (fun p hp => Nat.ne_of_lt (Heap.lt_size (N p hp).1)) h0 (fun b hb => .inr ⟨listOf its k, fun nw ⟨i, ys, j⟩ => List.mem_singleton.mp hb ▸ hJ i ys nw j⟩) ?_ fin
  intro i v ys nw oI C oC mC D h tk hi hv hJ hoC hx F N off ne
  exact turn i v ys nw _ oI C oC mC D h tk hi hv hJ hoC hx F N off ne
theorem outer_tuple {elt iter : PySem.Expr} {x : Str} {px : Pos} {ifs : List PySem.Expr} {rest : List Comprehension} {scope : Scope} {cl : List (Str × Addr)} {pos : Pos} {use : Option (Value → Sem Unit)} {Q : Value → Shared → Prop} {l : Addr} {its : Array Value} {k : Nat}
    (hh : A.handled = none) (J : Nat → List Value → Led → Prop) (h0s : ∀ C g', rest[0]? = some g' → g'.is_async = 0 ∧ ∀ x, foldedSetIterable g'.iter (compEnvC scope cl C env) x = pure x) (F : Fr g L s.heap m) (N : News g L s.heap nw) (ht : s.heap.IsTuple l its) (hsz : its.size ≤ sizeLine)
    (hcell : ∀ y ∈ scope.names, y.2 ≠ .cell) (hkind : scope.kind = .function) (hx : scope.names.lookup x = some .local)
    (h0 : J 0 [] nw) (hJ : (∃ o, g.get? l = some o) ∨ ∃ o, ∀ i ys nw, J i ys nw → (l, o) ∈ nw)
    (turn : ∀ i v ys nw I oI C oC mC D h tk, i < its.size → its[i]? = some v → J i ys nw → NsObj oC mC → mC x = some v → Fr g L h m → News g L h ((I, oI) :: (C, oC) :: (D, lst ys) :: nw) → (∀ p ∈ nw, p.1 ≠ I ∧ p.1 ≠ C ∧ p.1 ≠ D) → ((@Ne Nat I C) ∧ (@Ne Nat I D) ∧ (@Ne Nat C D)) →
      wpAny (model prog w) A (testsOf prog w ifs (compEnvC scope cl C env)) (fun ok s2 => if ok = true then Body prog w A elt (⟨.Name x px, iter, ifs, 0⟩ :: rest) scope pos 0 (.ref D) (compEnvC scope cl C env) (LE g L m s I C D oI (fun _ => True) (J (i + 1))) s2
        else LE g L m s I C D oI (fun _ => True) (J (i + 1)) s2) (fun _ _ => False) { s with heap := h, toks := tk })
    (fin : ∀ ys nw, J its.size ys nw → UseFin env use g L m s Q ys nw) :
    wpAny (model prog w) A (pyIter (.ref l)) (CompTailN prog w A E env elt (⟨.Name x px, iter, ifs, 0⟩ :: rest) scope cl pos use Q) E s := by
  refine wpAny_pyIter_tuple ht ?_
  refine outer_cur (s := { s with heap := _ }) rfl h0s (Cur.tuple hh s.heap.objs.size l (Nat.ne_of_lt (by obtain ⟨o, e, _⟩ := ht; exact Heap.lt_size e)) its) J hcell hkind hx (F.push _) (N.grown fun _ _ e => Heap.get?_push_of_some _ e) ⟨⟨_, Heap.get?_push_size _ rfl, rfl, rfl⟩, ht.at fun o e => Heap.get?_push_of_some _ e⟩
    ⟨Ne.symm (Nat.ne_of_lt F.ns.lt), fresh_of F⟩ (fun p hp => Nat.ne_of_lt (Heap.lt_size (N p hp).1)) h0 (fun b hb => by
      rw [List.mem_singleton.mp hb]
      exact hJ.imp id fun ⟨o, hJ⟩ => ⟨o, fun nw ⟨i, ys, j⟩ => hJ i ys nw j⟩) ?_ fin
  intro i v ys nw oI C oC mC D h tk hi hv hJ hoC hx F N off ne
  exact turn i v ys nw _ oI C oC mC D h tk hi hv hJ hoC hx F N off ne
theorem inner_list {elt iter : PySem.Expr} {x : Str} {px : Pos} {ifs : List PySem.Expr} {gens : List Comprehension} {scope : Scope} {cl : List (Str × Addr)} {pos : Pos} {d k : Nat} {I0 C D l : Addr} {its : Array Value} {oI0 oC : Obj} {mC : Str → Option Value} {ys0 : List Value} {s0 s1 : Shared}
    (hh : A.handled = none) (hmk : A.mark none = A) (hs01 : Ex2 fun h tk => s1 = { s0 with heap := h, toks := tk }) (hg : gens[d]? = some ⟨.Name x px, iter, ifs, 0⟩) (h0s : ∀ g', gens[d + 1]? = some g' → g'.is_async = 0 ∧ ∀ x, foldedSetIterable g'.iter (compEnvC scope cl C env) x = pure x)
    (J : Nat → List Value → Led → Prop) (J0 : List Value → Led → Prop) (P P0 : (Str → Option Value) → Prop) (hPx : ∀ mC v, P mC → P (fun y => if y = x then some v else mC y)) (hPP : ∀ mC, P mC → P0 mC)
    (hkind : scope.kind = .function) (hx : scope.names.lookup x = some .local)
    (F : Fr g L s1.heap m) (N : News g L s1.heap ((I0, oI0) :: (C, oC) :: (D, lst ys0) :: nw)) (hm : (l, listOf its k) ∈ nw) (hoC : NsObj oC mC) (hP : P mC) (off : ∀ p ∈ nw, p.1 ≠ I0 ∧ p.1 ≠ C ∧ p.1 ≠ D) (hIC : I0 ≠ C) (hID : I0 ≠ D) (hCD : C ≠ D)
    (h0 : J 0 ys0 nw) (hJ : ∀ i ys nw, J i ys nw → (l, listOf its k) ∈ nw)
    (turn : ∀ i v ys nw I oI oC mC h tk, i < its.size → its[i]? = some v → J i ys nw → NsObj oC mC → P mC → mC x = some v → Fr g L h m → News g L h ((I, oI) :: (C, oC) :: (D, lst ys) :: (I0, oI0) :: nw) → (∀ p ∈ nw, p.1 ≠ I ∧ p.1 ≠ I0 ∧ p.1 ≠ C ∧ p.1 ≠ D) → ((@Ne Nat I C) ∧ (@Ne Nat I D) ∧ (@Ne Nat I I0)) →
      wpAny (model prog w) A (testsOf prog w ifs (compEnvC scope cl C env)) (fun ok s2 => if ok = true then Body prog w A elt gens scope pos d (.ref D) (compEnvC scope cl C env) (LE g L m s0 I C D oI P (fun ys nw' => ∃ nwx, nw' = (I0, oI0) :: nwx ∧ (∀ p ∈ nwx, p.1 ≠ I0) ∧ J (i + 1) ys nwx)) s2
        else LE g L m s0 I C D oI P (fun ys nw' => ∃ nwx, nw' = (I0, oI0) :: nwx ∧ (∀ p ∈ nwx, p.1 ≠ I0) ∧ J (i + 1) ys nwx) s2) (fun _ _ => False) { s0 with heap := h, toks := tk })
    (fin : ∀ ys nwx, J its.size ys nwx → ∃ nw0, (∀ p ∈ nw0, p ∈ nwx) ∧ J0 ys nw0) :
    wpAny (model prog w) A (pyIter (.ref l)) (fun it s2 => codeAny (model prog w) (A.mark none) (.compStart (.ListComp elt gens scope pos) d it (.ref D) (compEnvC scope cl C env)) (fun r s3 => ∃ f, r = .ok f ∧ LE g L m s0 I0 C D oI0 P0 J0 s3) s2) E s1 := by
  obtain ⟨hq, tq, rfl⟩ := hs01
  generalize hs1 : ({ s0 with heap := hq, toks := tq } : Shared) = s1 at *
  have es : s1.gens = s0.gens ∧ s1.drawn = s0.drawn ∧ s1.os = s0.os := by subst hs1; exact ⟨rfl, rfl, rfl⟩
  have hl : s1.heap.IsList l its := ⟨_, (N _ (.tail _ (.tail _ (.tail _ hm)))).1, rfl, _, rfl⟩
  refine wpAny_pyIter_list hl ?_
  rw [hmk]
  have e1 : ∀ hp, ({ s1 with heap := hp } : Shared) = { s0 with heap := hp, toks := tq } := by subst hs1; exact fun _ => rfl
  rw [e1]
  exact inner_cur (oI := _) hg h0s (Cur.list hh s1.heap.objs.size l (Nat.ne_of_lt (by obtain ⟨o, e, _⟩ := hl; exact Heap.lt_size e)) its) J J0 P P0 hPx hPP hkind hx (F.push _) ⟨⟨_, Heap.get?_push_size _ rfl, rfl, rfl⟩, hl.push _⟩
    (led_cons ⟨Heap.get?_push_size _ rfl, Ne.symm (Nat.ne_of_lt F.ns.lt), fresh_of F⟩ (N.grown fun _ _ e => Heap.get?_push_of_some _ e)) hoC hP off (fun p hp => Nat.ne_of_lt (Heap.lt_size (N p hp).1)) hIC hID hCD h0 (fun b hb => by
      rw [List.mem_singleton.mp hb]
      exact .inr ⟨_, hJ⟩)
    (fun i v ys nw oI oC mC h tk hi hv hj hoC hP hxx F N off ne => turn i v ys nw _ oI oC mC h tk hi hv hj hoC hP hxx F N off ne) fin
theorem inner_tuple {elt iter : PySem.Expr} {x : Str} {px : Pos} {ifs : List PySem.Expr} {gens : List Comprehension} {scope : Scope} {cl : List (Str × Addr)} {pos : Pos} {d k : Nat} {I0 C D l : Addr} {its : Array Value} {oI0 oC : Obj} {mC : Str → Option Value} {ys0 : List Value} {s0 s1 : Shared}
    (hh : A.handled = none) (hmk : A.mark none = A) (hs01 : Ex2 fun h tk => s1 = { s0 with heap := h, toks := tk }) (hg : gens[d]? = some ⟨.Name x px, iter, ifs, 0⟩) (h0s : ∀ g', gens[d + 1]? = some g' → g'.is_async = 0 ∧ ∀ x, foldedSetIterable g'.iter (compEnvC scope cl C env) x = pure x)
    (J : Nat → List Value → Led → Prop) (J0 : List Value → Led → Prop) (P P0 : (Str → Option Value) → Prop) (hPx : ∀ mC v, P mC → P (fun y => if y = x then some v else mC y)) (hPP : ∀ mC, P mC → P0 mC)
    (hkind : scope.kind = .function) (hx : scope.names.lookup x = some .local)
    (F : Fr g L s1.heap m) (N : News g L s1.heap ((I0, oI0) :: (C, oC) :: (D, lst ys0) :: nw)) (ht : s1.heap.IsTuple l its) (hoC : NsObj oC mC) (hP : P mC) (off : ∀ p ∈ nw, p.1 ≠ I0 ∧ p.1 ≠ C ∧ p.1 ≠ D) (hIC : I0 ≠ C) (hID : I0 ≠ D) (hCD : C ≠ D)
    (h0 : J 0 ys0 nw) (hJ : (∃ o, g.get? l = some o) ∨ ∃ o, ∀ i ys nw, J i ys nw → (l, o) ∈ nw)
    (turn : ∀ i v ys nw I oI oC mC h tk, i < its.size → its[i]? = some v → J i ys nw → NsObj oC mC → P mC → mC x = some v → Fr g L h m → News g L h ((I, oI) :: (C, oC) :: (D, lst ys) :: (I0, oI0) :: nw) → (∀ p ∈ nw, p.1 ≠ I ∧ p.1 ≠ I0 ∧ p.1 ≠ C ∧ p.1 ≠ D) → ((@Ne Nat I C) ∧ (@Ne Nat I D) ∧ (@Ne Nat I I0)) →
      wpAny (model prog w) A (testsOf prog w ifs (compEnvC scope cl C env)) (fun ok s2 => if ok = true then Body prog w A elt gens scope pos d (.ref D) (compEnvC scope cl C env) (LE g L m s0 I C D oI P (fun ys nw' => ∃ nwx, nw' = (I0, oI0) :: nwx ∧ (∀ p ∈ nwx, p.1 ≠ I0) ∧ J (i + 1) ys nwx)) s2
        else LE g L m s0 I C D oI P (fun ys nw' => ∃ nwx, nw' = (I0, oI0) :: nwx ∧ (∀ p ∈ nwx, p.1 ≠ I0) ∧ J (i + 1) ys nwx) s2) (fun _ _ => False) { s0 with heap := h, toks := tk })
    (fin : ∀ ys nwx, J its.size ys nwx → ∃ nw0, (∀ p ∈ nw0, p ∈ nwx) ∧ J0 ys nw0) :
    wpAny (model prog w) A (pyIter (.ref l)) (fun it s2 => codeAny (model prog w) (A.mark none) (.compStart (.ListComp elt gens scope pos) d it (.ref D) (compEnvC scope cl C env)) (fun r s3 => ∃ f, r = .ok f ∧ LE g L m s0 I0 C D oI0 P0 J0 s3) s2) E s1 := by
  obtain ⟨hq, tq, rfl⟩ := hs01
  generalize hs1 : ({ s0 with heap := hq, toks := tq } : Shared) = s1 at *
  have es : s1.gens = s0.gens ∧ s1.drawn = s0.drawn ∧ s1.os = s0.os := by subst hs1; exact ⟨rfl, rfl, rfl⟩
  refine wpAny_pyIter_tuple ht ?_
  rw [hmk]
  have e1 : ∀ hp, ({ s1 with heap := hp } : Shared) = { s0 with heap := hp, toks := tq } := by subst hs1; exact fun _ => rfl
  rw [e1]
  exact inner_cur (oI := _) hg h0s (Cur.tuple hh s1.heap.objs.size l (Nat.ne_of_lt (by obtain ⟨o, e, _⟩ := ht; exact Heap.lt_size e)) its) J J0 P P0 hPx hPP hkind hx (F.push _) ⟨⟨_, Heap.get?_push_size _ rfl, rfl, rfl⟩, ht.at fun o e => Heap.get?_push_of_some _ e⟩
    (led_cons ⟨Heap.get?_push_size _ rfl, Ne.symm (Nat.ne_of_lt F.ns.lt), fresh_of F⟩ (N.grown fun _ _ e => Heap.get?_push_of_some _ e)) hoC hP off (fun p hp => Nat.ne_of_lt (Heap.lt_size (N p hp).1)) hIC hID hCD h0 (fun b hb => by
      rw [List.mem_singleton.mp hb]
      exact hJ)
    (fun i v ys nw oI oC mC h tk hi hv hj hoC hP hxx F N off ne => turn i v ys nw _ oI oC mC h tk hi hv hj hoC hP hxx F N off ne) fin
end
end Mine

end
section
open PySem PySem.W PyProof.Rows PySem.Calls PySem.Spec PyProof.Rows.LCg
set_option genInjectivity false
set_option genSizeOf false
set_option maxRecDepth 100000
namespace Mine
section
variable {prog : Program} {w : World} {A : Around} {E : Value → Shared → Prop} {s : Shared} {g : Heap} {L l : Addr} {m : Str → Option Value} {nw : Led}
theorem item_nat {value slice : PySem.Expr} {its : Array Value} {n i : Nat} {u : Tok} {x : Value} {Q : Value → Shared → Prop} (N : News g L s.heap nw) (hm : (l, listOf its n) ∈ nw) (hx : its[i]? = some x) (hi : i < 1000000)
    (hs : subscripted slice false (.ref l) (.int ((i : Nat) : Int) u) = operate [.ref l, .int ((i : Nat) : Int) u] (getItem (.ref l) (.int ((i : Nat) : Int) u))) (hg : ∀ r, letTemporaryGo value (.ref l) r = pure ()) (h : Q x s) :
    wpAny (model prog w) A (subscriptTail value slice (.ref l) (.int ((i : Nat) : Int) u)) Q E s :=
  item_list ⟨_, (N _ hm).1, rfl, _, rfl⟩ (Int.natCast_nonneg _) (by (first | lia | omega)) (by simpa using hx) h hs hg
theorem append_lst {D : Addr} {ys : List Value} {x : Value} {nw' : Led} {Q : Value → Shared → Prop} (F : Fr g L s.heap m) (N : News g L s.heap nw) (U : Upd D (lst ys) (lst (ys ++ [x])) nw nw') (hsz : ys.length < 1000000)
    (h : ∀ h', Fr g L h' m → News g L h' nw' → Q .none { s with heap := h' }) : wpAny (model prog w) A (call (.builtin "list.append") [.ref D, x]) Q E s := by
  rw [← lst_snoc] at U
  exact append_K F N U h (by rw [sizeLine_eq, List.size_toArray]; (first | lia | omega))
end
end Mine

end
section
open PySem PySem.W PyProof.Rows PySem.Calls PySem.Spec
set_option genInjectivity false
set_option genSizeOf false
set_option maxRecDepth 100000
namespace Mine
/-! sorted over pairs of texts, of any length below 64 -/
structure SLO {α : Type} (lt : α → α → Bool) : Prop where
  irr : ∀ a, lt a a = false
  tr : ∀ {a b c}, lt a b = true → lt b c = true → lt a c = true
  tot : ∀ {a b}, lt a b = false → lt b a = false → a = b
section
variable {α : Type} {lt : α → α → Bool} (O : SLO lt) {key : Nat → α} {n : Nat} {cmp : Nat → Nat → (Bool → Shared → Prop) → Shared → Prop} {s : Shared}
include O
theorem SLO.no {a b : α} (h : lt a b = true) : lt b a = false := by
  cases e : lt b a with
  | false => rfl
  | true => have := O.tr h e; rw [O.irr] at this; cases this
theorem SLO.yes {a b : α} (hne : a ≠ b) (h : lt a b = false) : lt b a = true := by
  cases e : lt b a with
  | true => rfl
  | false => exact absurd (O.tot h e) hne
omit O
noncomputable def KP (key : Nat → α) (p : Array Nat) (i : Nat) : α := key (p.getD i 0)
noncomputable def AscP (lt : α → α → Bool) (key : Nat → α) (p : Array Nat) (m : Nat) : Prop := ∀ i j, i < j → j < m → lt (KP key p i) (KP key p j) = true
structure PermN (key : Nat → α) (n : Nat) (p : Array Nat) : Prop where
  perm : p.toList.Perm (List.range n)
theorem PermN.size {p : Array Nat} (h : PermN key n p) : p.size = n := by
  have := h.perm.length_eq
  simpa using this
theorem PermN.at {p : Array Nat} (h : PermN key n p) {i : Nat} (hi : i < n) : ∃ hs : i < p.size, p.getD i 0 = p[i] := ⟨by rw [h.size]; exact hi, by
  have : i < p.size := by rw [h.size]; exact hi
  simp [Array.getD, this]⟩
theorem PermN.lts {p : Array Nat} (h : PermN key n p) {i : Nat} (hi : i < n) : p.getD i 0 < n := by
  obtain ⟨hs, e⟩ := h.at hi
  rw [e]
  exact List.mem_range.mp (h.perm.mem_iff.mp (by simp))
theorem PermN.inj {p : Array Nat} (h : PermN key n p) {i j : Nat} (hi : i < n) (hj : j < n) (e : p.getD i 0 = p.getD j 0) : i = j := by
  obtain ⟨hs, e1⟩ := h.at hi
  obtain ⟨ht, e2⟩ := h.at hj
  have hn : p.toList.Nodup := h.perm.nodup_iff.mpr List.nodup_range
  rw [e1, e2] at e
  exact (List.getElem_inj (h₀ := by simpa using hs) (h₁ := by simpa using ht) hn).mp (by simpa using e)
theorem PermN.of {p q : Array Nat} (h : PermN key n p) (hq : q.Perm p) : PermN key n q := ⟨(Array.perm_iff_toList_perm.mp hq).trans h.perm⟩
theorem PermN.range : PermN key n (List.toArray (List.range n)) := ⟨by simp⟩
variable (hk : ∀ i j, i < n → j < n → key i = key j → i = j)
include hk
theorem PermN.ne {p : Array Nat} (h : PermN key n p) {i j : Nat} (hi : i < n) (hj : j < n) (hij : i ≠ j) : KP key p i ≠ KP key p j := fun e => hij (h.inj hi hj (hk _ _ (h.lts hi) (h.lts hj) e))
omit hk
include O
theorem AscP.succ {p : Array Nat} {m : Nat} (h : AscP lt key p m) (hm : 1 ≤ m) (e : lt (KP key p (m - 1)) (KP key p m) = true) : AscP lt key p (m + 1) := by
  intro i j hij hj
  rcases Nat.lt_or_ge j m with h1 | h1
  · exact h i j hij h1
  · have : j = m := by (first | lia | omega)
    subst this
    rcases Nat.lt_or_ge i (j - 1) with h2 | h2
    · exact O.tr (h i (j - 1) h2 (by (first | lia | omega))) e
    · have : i = j - 1 := by (first | lia | omega)
      rw [this]; exact e
omit O
variable (hc : ∀ i j (C : Bool → Shared → Prop), i < n → j < n → C (lt (key i) (key j)) s → cmp i j C s)
include O hk hc
theorem asc_wp {p : Array Nat} (hp : PermN key n p) {Q : Nat → Shared → Prop} : ∀ (f m : Nat), 1 ≤ m → m + f = n → AscP lt key p m →
    (∀ r, m ≤ r → r ≤ n → AscP lt key p r → (r < n → lt (KP key p r) (KP key p (r - 1)) = true) → Q r s) → (kas_asc p f m).kasWp cmp Q s
  | 0, m, h1, hm, ha, h => h m (Nat.le_refl _) (by (first | lia | omega)) ha (fun q => by (first | lia | omega))
  | f + 1, m, h1, hm, ha, h => by
    refine hc _ _ _ (hp.lts (by (first | lia | omega))) (hp.lts (by (first | lia | omega))) ?_
    show KasT.kasWp cmp (if lt (KP key p m) (KP key p (m - 1)) = true then _ else _) Q s
    cases e : lt (KP key p m) (KP key p (m - 1)) with
    | true =>
      rw [if_pos rfl]
      exact h m (Nat.le_refl _) (by (first | lia | omega)) ha fun _ => e
    | false =>
      rw [if_neg (by simp)]
      exact asc_wp hp f (m + 1) (by (first | lia | omega)) (by (first | lia | omega)) (ha.succ O h1 (O.yes (hp.ne hk (by (first | lia | omega)) (by (first | lia | omega)) (by (first | lia | omega))) e)) fun r h2 h3 h4 h5 => h r (by (first | lia | omega)) h3 h4 h5
theorem desc_wp {p : Array Nat} (hp : PermN key n p) {Q : Array Nat × Nat × Nat → Shared → Prop} : ∀ (f m : Nat), 2 ≤ m → m + f = n → AscP (fun a b => lt b a) key p m →
    (∀ r, m ≤ r → r ≤ n → AscP (fun a b => lt b a) key p r → Q (p, r, 0) s) → (kas_desc f p m 0).kasWp cmp Q s
  | 0, m, h1, hm, ha, h => h m (Nat.le_refl _) (by (first | lia | omega)) ha
  | f + 1, m, h1, hm, ha, h => by
    have O' : SLO (fun a b => lt b a) := ⟨O.irr, fun h1 h2 => O.tr h2 h1, fun h1 h2 => O.tot h2 h1⟩
    refine hc _ _ _ (hp.lts (by (first | lia | omega))) (hp.lts (by (first | lia | omega))) ?_
    show KasT.kasWp cmp (if lt (KP key p m) (KP key p (m - 1)) = true then _ else _) Q s
    cases e : lt (KP key p m) (KP key p (m - 1)) with
    | true =>
      rw [if_pos rfl, if_neg (by decide)]
      exact desc_wp hp f (m + 1) (by (first | lia | omega)) (by (first | lia | omega)) (ha.succ O' (by (first | lia | omega)) e) fun r h2 h3 h4 => h r (by (first | lia | omega)) h3 h4
    | false =>
      rw [if_neg (by simp)]
      refine hc _ _ _ (hp.lts (by (first | lia | omega))) (hp.lts (by (first | lia | omega))) ?_
      show KasT.kasWp cmp (if lt (KP key p (m - 1)) (KP key p m) = true then _ else _) Q s
      rw [if_pos (O.yes (hp.ne hk (by (first | lia | omega)) (by (first | lia | omega)) (by (first | lia | omega))) e)]
      exact h m (Nat.le_refl _) (by (first | lia | omega)) ha
theorem count_wp (h2 : 2 ≤ n) {p : Array Nat} (hp : PermN key n p) {Q : Nat × Array Nat → Shared → Prop}
    (h : ∀ r p', 1 ≤ r → r ≤ n → PermN key n p' → AscP lt key p' r → Q (r, p') s) : (kas_count n p).kasWp cmp Q s := by
  unfold kas_count
  rw [KasT.kasWp_bind]
  refine asc_wp O hk hc hp _ _ (Nat.le_refl 1) (by (first | lia | omega)) (fun i j h1 h2 => by (first | lia | omega)) fun r h1 h3 h4 h5 => ?_
  by_cases e : r = n
  · rw [if_pos (by simpa using e)]
    exact h r p h1 h3 hp h4
  · rw [if_neg (by simpa using e)]
    by_cases e1 : r > 1
    · rw [if_pos e1]
      refine hc _ _ _ (hp.lts (by (first | lia | omega))) (hp.lts (by (first | lia | omega))) ?_
      show KasT.kasWp cmp (if lt (KP key p 0) (KP key p (r - 1)) = true then _ else _) Q s
      rw [if_pos (h4 0 (r - 1) (by (first | lia | omega)) (by (first | lia | omega)))]
      exact h r p h1 h3 hp h4
    · rw [if_neg e1]
      have : r = 1 := by (first | lia | omega)
      subst this
      have hlt := h5 (by (first | lia | omega))
      unfold kas_descPart
      rw [KasT.kasWp_bind]
      refine desc_wp O hk hc hp _ _ (Nat.le_refl 2) (by (first | lia | omega)) (fun i j h1 h2 => ?_) fun r h6 h7 h8 => ?_
      · have : i = 0 := by (first | lia | omega)
        have : j = 1 := by (first | lia | omega)
        subst i j
        exact hlt
      · rw [if_neg (Nat.lt_irrefl 0)]
        dsimp only
        unfold kas_tail3
        rw [KasT.kasWp_bind]
        have hsz := hp.size
        have hp' : PermN key n (kas_rev p 0 r) := hp.of (mirror_perm _ _ _ _)
        have hg : ∀ k, k < r → (kas_rev p 0 r).getD k 0 = p.getD (r - 1 - k) 0 := fun k hk' => by
          have e := getElem?_mirror_all (xs := p) (i := 0) (j := r) (by (first | lia | omega)) k
          rw [if_pos ⟨Nat.zero_le _, hk'⟩] at e
          have e' : (kas_rev p 0 r)[k]? = p[r - 1 - k]? := by
            rw [show r - 1 - k = 0 + r - 1 - k by (first | lia | omega)]; exact e
          rw [Array.getD_eq_getD_getElem?, Array.getD_eq_getD_getElem?, e']
        refine asc_wp O hk hc hp' _ _ (by (first | lia | omega)) (by (first | lia | omega)) (fun i j h1 h2 => ?_) fun m h9 h10 h11 _ => h m _ (by (first | lia | omega)) h10 hp' h11
        unfold KP
        rw [hg i (by (first | lia | omega)), hg j h2]
        exact h8 (r - 1 - j) (r - 1 - i) (by (first | lia | omega)) (by (first | lia | omega))
theorem place_wp {p : Array Nat} (hp : PermN key n p) {k : Nat} (hkn : k < n) (ha : AscP lt key p k) {Q : Nat → Shared → Prop} : ∀ (f l r : Nat), r ≤ l + f → l ≤ r → r ≤ k →
    (∀ i, i < l → lt (KP key p i) (KP key p k) = true) → (∀ i, r ≤ i → i < k → lt (KP key p k) (KP key p i) = true) →
    (∀ l, l ≤ k → (∀ i, i < l → lt (KP key p i) (KP key p k) = true) → (∀ i, l ≤ i → i < k → lt (KP key p k) (KP key p i) = true) → Q l s) → (kas_place p k f l r).kasWp cmp Q s
  | 0, l, r, hf, hl, hr, h1, h2, h => h l (by (first | lia | omega)) h1 fun i hi hik => h2 i (by (first | lia | omega)) hik
  | f + 1, l, r, hf, hl, hr, h1, h2, h => by
    unfold kas_place
    by_cases e : l ≥ r
    · rw [if_pos e]
      exact h l (by (first | lia | omega)) h1 fun i hi hik => h2 i (by (first | lia | omega)) hik
    · rw [if_neg e]
      refine hc _ _ _ (hp.lts hkn) (hp.lts (by (first | lia | omega))) ?_
      show KasT.kasWp cmp (if lt (KP key p k) (KP key p ((l + r) / 2)) = true then _ else _) Q s
      cases e : lt (KP key p k) (KP key p ((l + r) / 2)) with
      | true =>
        rw [if_pos rfl]
        refine place_wp hp hkn ha f l ((l + r) / 2) (by (first | lia | omega)) (by (first | lia | omega)) (by (first | lia | omega)) h1 (fun i hi hik => ?_) h
        rcases Nat.lt_or_ge ((l + r) / 2) i with h3 | h3
        · exact O.tr e (ha _ _ h3 hik)
        · rw [show i = (l + r) / 2 by (first | lia | omega)]; exact e
      | false =>
        rw [if_neg (by simp)]
        have e' := O.yes (hp.ne hk hkn (by (first | lia | omega)) (by (first | lia | omega))) e
        refine place_wp hp hkn ha f ((l + r) / 2 + 1) r (by (first | lia | omega)) (by (first | lia | omega)) hr (fun i hi => ?_) h2 h
        rcases Nat.lt_or_ge i ((l + r) / 2) with h3 | h3
        · exact O.tr (ha _ _ h3 (by (first | lia | omega))) e'
        · rw [show i = (l + r) / 2 by (first | lia | omega)]; exact e'
theorem bin_wp {Q : Array Nat → Shared → Prop} (h : ∀ p, PermN key n p → AscP lt key p n → Q p s) : ∀ (f : Nat) (p : Array Nat) (k : Nat), k + f = n → PermN key n p → AscP lt key p k → (kas_bin f p k).kasWp cmp Q s
  | 0, p, k, hf, hp, ha => h p hp (by rw [← hf]; exact ha)
  | f + 1, p, k, hf, hp, ha => by
    unfold kas_bin
    rw [KasT.kasWp_bind]
    refine place_wp O hk hc hp (by (first | lia | omega)) ha _ _ _ (by (first | lia | omega)) (Nat.zero_le _) (Nat.le_refl _) (fun i hi => by (first | lia | omega)) (fun i hi hik => by (first | lia | omega)) fun l hl h1 h2 => ?_
    refine bin_wp h f _ (k + 1) (by (first | lia | omega)) (hp.of (bubble_perm _ _ _)) ?_
    have hsz := hp.size
    have e0 : k - (k - l) = l := by (first | lia | omega)
    have hb : ∀ j, KP key (bubble p k (k - l)) j = if j = l then KP key p k else if l < j ∧ j ≤ k then KP key p (j - 1) else KP key p j := fun j => by
      have e := getElem?_bubble (xs := p) (src := k) (by (first | lia | omega)) (k - l) (by (first | lia | omega)) j
      rw [e0] at e
      unfold KP
      rw [Array.getD_eq_getD_getElem?, e]
      split
      · rw [Array.getD_eq_getD_getElem?]
      · split <;> rw [Array.getD_eq_getD_getElem?]
    intro i j hij hj
    rw [hb i, hb j]
    by_cases hil : i = l
    · rw [if_pos hil, if_neg (by (first | lia | omega)), if_pos (by (first | lia | omega))]
      exact h2 _ (by (first | lia | omega)) (by (first | lia | omega))
    · rw [if_neg hil]
      by_cases hi2 : l < i ∧ i ≤ k
      · rw [if_pos hi2, if_neg (by (first | lia | omega)), if_pos (by (first | lia | omega))]
        exact ha _ _ (by (first | lia | omega)) (by (first | lia | omega))
      · rw [if_neg hi2]
        by_cases hjl : j = l
        · rw [if_pos hjl]
          exact h1 i (by (first | lia | omega))
        · rw [if_neg hjl]
          by_cases hj2 : l < j ∧ j ≤ k
          · rw [if_pos hj2]
            rcases Nat.lt_or_ge i (j - 1) with h3 | h3
            · exact ha _ _ h3 (by (first | lia | omega))
            · exfalso; (first | lia | omega)
          · rw [if_neg hj2]
            exact ha _ _ hij (by (first | lia | omega))
theorem sort_wp (h2 : 2 ≤ n) {Q : Array Nat → Shared → Prop} (h : ∀ p, PermN key n p → AscP lt key p n → Q p s) : (kas_sort n).kasWp cmp Q s := by
  unfold kas_sort
  rw [KasT.kasWp_bind]
  refine count_wp O hk hc h2 PermN.range fun r p' h1 h3 h4 h5 => ?_
  dsimp only
  split
  · have e : max r 1 = r := Nat.max_eq_left h1
    rw [e]
    exact bin_wp O hk hc h _ _ _ (by (first | lia | omega)) h4 h5
  · have : r = n := by (first | lia | omega)
    subst this
    exact h p' h4 h5
end
noncomputable def lexS (a b : Str × Str) : Bool := if a.1 = b.1 then decide (a.2.cps.toList < b.2.cps.toList) else decide (a.1.cps.toList < b.1.cps.toList)
theorem cps_inj {a b : Str} (h : a.cps.toList = b.cps.toList) : a = b := by
  cases a; cases b; congr 1; exact Array.toList_inj.mp h
theorem lexS_slo : SLO lexS where
  irr a := by unfold lexS; rw [if_pos rfl]; exact strKind.irrefl _
  tr := by
    intro a b c h1 h2
    unfold lexS at *
    by_cases e1 : a.1 = b.1
    · rw [if_pos e1] at h1
      by_cases e2 : b.1 = c.1
      · rw [if_pos e2] at h2
        rw [if_pos (e1.trans e2)]
        exact strKind.trans _ _ _ h1 h2
      · rw [if_neg e2] at h2
        rw [if_neg (e1 ▸ e2), e1]
        exact h2
    · rw [if_neg e1] at h1
      by_cases e2 : b.1 = c.1
      · rw [if_pos e2] at h2
        rw [if_neg (e2 ▸ e1), ← e2]
        exact h1
      · rw [if_neg e2] at h2
        have h3 := strKind.trans _ _ _ h1 h2
        by_cases e3 : a.1 = c.1
        · rw [e3] at h3
          have := strKind.irrefl c.1.cps.toList
          exact absurd (h3.symm.trans this) (by decide)
        · rw [if_neg e3]; exact h3
  tot := by
    intro a b h1 h2
    unfold lexS at *
    by_cases e1 : a.1 = b.1
    · rw [if_pos e1] at h1
      rw [if_pos e1.symm] at h2
      exact Prod.ext e1 (cps_inj (strKind.total _ _ h1 h2))
    · rw [if_neg e1] at h1
      rw [if_neg (Ne.symm e1)] at h2
      exact absurd (cps_inj (strKind.total _ _ h1 h2)) e1
noncomputable def pairDat (k : Str × Str) : Dat := .tuple [.str k.1, .str k.2]
theorem dat_len {nw : Led} : ∀ {vs : List Value} {ds : List Dat}, DatAll nw vs ds → vs.length = ds.length
  | _, _, .nil => rfl
  | _, _, .cons _ h => by simp [dat_len h]
theorem dat_get {nw : Led} : ∀ {vs : List Value} {ds : List Dat}, DatAll nw vs ds → ∀ {i : Nat} {d : Dat}, ds[i]? = some d → ∃ v, vs[i]? = some v ∧ DatIn nw v d
  | _, _, .nil, i, d, h => by simp at h
  | _, _, .cons (v := v) hv h, i, d, e => by
    cases i with
    | zero => cases e; exact ⟨v, rfl, hv⟩
    | succ i =>
      obtain ⟨v', h1, h2⟩ := dat_get h (i := i) (by simpa using e)
      exact ⟨v', by simpa using h1, h2⟩
theorem dat_of {nw : Led} : ∀ {vs : List Value} {ds : List Dat}, vs.length = ds.length → (∀ (i : Nat) (d : Dat), ds[i]? = some d → ∃ v, vs[i]? = some v ∧ DatIn nw v d) → DatAll nw vs ds
  | [], [], _, _ => .nil
  | [], _ :: _, h, _ => by cases h
  | _ :: _, [], h, _ => by cases h
  | v :: vs, d :: ds, h, hg => by
    obtain ⟨v', h1, h2⟩ := hg 0 d rfl
    cases h1
    exact .cons h2 (dat_of (by simpa using h) fun i d' e => by simpa using hg (i + 1) d' (by simpa using e))
theorem dat_pair {nw : Led} {v : Value} {k : Str × Str} (h : DatIn nw v (pairDat k)) : Ex4 fun T t u n => v = .ref T ∧ (T, tupO #[.str k.1 t, .str k.2 u] n) ∈ nw := by
  cases h with
  | tuple hm r =>
    cases r with
    | cons h1 r =>
    cases r with
    | cons h2 r =>
    cases r
    cases h1
    cases h2
    exact ⟨_, _, _, _, rfl, hm⟩
section
variable {prog : Program} {w : World} {A : Around} {E : Value → Shared → Prop} {s : Shared} {g : Heap} {L l : Addr} {m : Str → Option Value} {nw : Led}
theorem ask_str2 {x y : Value} {a b : Str × Str} {C : Bool → Shared → Prop} (N : News g L s.heap nw) (hx : DatIn nw x (pairDat a)) (hy : DatIn nw y (pairDat b)) (h : C (lexS a b) s) : wpAny (model prog w) A (keyLt' (tuples' true) x y) C E s := by
  obtain ⟨T, t, u, n, rfl, hT⟩ := dat_pair hx
  obtain ⟨T2, t2, u2, n2, rfl, hT2⟩ := dat_pair hy
  refine kat_lt (N _ hT).1 rfl (N _ hT2).1 rfl ?_
  refine kat_cons (wpAny_eqBool_str ?_)
  by_cases e : a.1 = b.1
  · rw [decide_eq_true e]
    refine kat_yes (kat_cons (wpAny_eqBool_str ?_))
    by_cases e2 : a.2 = b.2
    · rw [decide_eq_true e2]
      refine kat_yes (kat_nil ?_)
      have : lexS a b = false := by unfold lexS; rw [if_pos e, e2]; exact strKind.irrefl _
      rw [this] at h
      exact h
    · rw [decide_eq_false e2]
      refine kat_no ?_
      show wpAny _ _ (oneLt' false _ _) _ _ _
      refine kat_one _ _ (lt_str ?_)
      have : lexS a b = decide (a.2.cps.toList < b.2.cps.toList) := by unfold lexS; rw [if_pos e]
      rw [this] at h
      exact h
  · rw [decide_eq_false e]
    refine kat_no ?_
    show wpAny _ _ (oneLt' true _ _) _ _ _
    refine oneLt_str ?_
    have : lexS a b = decide (a.1.cps.toList < b.1.cps.toList) := by unfold lexS; rw [if_neg e]
    rw [← this]; exact h
theorem pairs_heap : ∀ {vs : List Value} {ks : List (Str × Str)}, News g L s.heap nw → DatAll nw vs (ks.map pairDat) → ∃ fs : List Value, fs.length = ks.length ∧ KatTups s.heap vs fs ∧ ∀ v ∈ fs, Ex2 fun x t => v = .str x t
  | [], [], _, _ => ⟨[], rfl, trivial, by simp⟩
  | [], _ :: _, _, H => by cases H
  | _ :: _, [], _, H => by cases H
  | v :: vs, k :: ks, N, H => by
    cases H with
    | cons h1 h2 =>
    obtain ⟨T, t, u, n, rfl, hT⟩ := dat_pair h1
    obtain ⟨fs, g1, g2, g3⟩ := pairs_heap (vs := vs) (ks := ks) N h2
    refine ⟨.str k.1 t :: fs, by simp [g1], KatTups.cons (N _ hT).1 rfl rfl rfl g2, ?_⟩
    intro v hv
    rcases List.mem_cons.mp hv with rfl | hv
    · exact ⟨_, _, rfl⟩
    · exact g3 v hv
theorem perm_map_getD {α : Type} [Inhabited α] (ks : List α) (d : α) {p : List Nat} (h : p.Perm (List.range ks.length)) : (p.map fun i => ks.getD i d).Perm ks := by
  refine (h.map _).trans (List.Perm.of_eq ?_)
  apply List.ext_getElem
  · simp
  · intro i h1 h2
    simp at h1
    simp [h1]
theorem sorted_spairs {vs : List Value} {n : Nat} {ks : List (Str × Str)} {Q : Value → Shared → Prop} (F : Fr g L s.heap m) (N : News g L s.heap nw) (hl : (l, listOf vs.toArray n) ∈ nw) (H : DatAll nw vs (ks.map pairDat)) (h64 : ks.length < 64) (hnd : ks.Nodup)
    (h : ∀ (D : Addr) (n : Nat) (h' : Heap) (us : List Value) (ks' : List (Str × Str)), Fr g L h' m → News g L h' ((D, listOf us.toArray n) :: nw) → (∀ q ∈ nw, @LT.lt Nat _ q.1 D) → DatAll nw us (ks'.map pairDat) → ks'.Perm ks → ks'.Pairwise (fun a b => lexS a b = true) → Q (.ref D) { s with heap := h' }) :
    wpAny (model prog w) A (call (.builtin "sorted") [.ref l]) Q E s := by
  have hvl : vs.length = ks.length := by rw [dat_len H]; simp
  by_cases h2 : vs.length < 2
  · refine sorted_short F N ⟨_, (N _ hl).1, rfl, n, rfl⟩ h2 fun D n h' F' N' l1 => h D n h' vs ks F' N' l1 H (List.Perm.refl _) ?_
    match ks, hvl with
    | [], _ => exact .nil
    | [k], _ => simp
    | a :: b :: r, e => simp at e; (first | lia | omega)
  · have h2' : 2 ≤ vs.length := by (first | lia | omega)
    refine kat_sorted F N ⟨_, (N _ hl).1, rfl, n, rfl⟩ h2' (by (first | lia | omega)) fun D e1 h' F' N' l1 => ?_
    have N1 : News g L h' nw := fun q hq => N' q (.tail _ hq)
    obtain ⟨fs, hfl, hK, hfi⟩ := pairs_heap (s := { s with heap := h' }) N1 H
    refine kat_kind (T := .type "str") hK (by (first | lia | omega)) (fun v hv => ?_) rfl ?_
    · obtain ⟨x, t, rfl⟩ := hfi v hv
      exact Looks.now
    · show (kas_sort vs.length).kasWp (kas_ask prog w A.in1.in1 (tuples' true) vs) _ _
      have hat : ∀ i, i < vs.length → DatIn nw (vs.getD i Value.none) (pairDat (ks.getD i default)) := fun i hi => by
        obtain ⟨v, hv, ht⟩ := dat_get H (i := i) (d := pairDat (ks.getD i default)) (by rw [List.getElem?_map, List.getD_eq_getElem?_getD, List.getElem?_eq_getElem (by (first | lia | omega))]; rfl)
        rw [List.getD_eq_getElem?_getD, hv]
        exact ht
      refine sort_wp (key := fun i => ks.getD i default) (n := vs.length) lexS_slo (fun i j hi hj e => ?_) (fun i j C hi hj hC => ?_) h2' fun p hp ha => ?_
      · (try dsimp only at e)
        rw [List.getD_eq_getElem?_getD, List.getD_eq_getElem?_getD, List.getElem?_eq_getElem (by (first | lia | omega)), List.getElem?_eq_getElem (by (first | lia | omega))] at e
        exact (List.getElem_inj hnd).mp e
      · exact ask_str2 N1 (hat i hi) (hat j hj) hC
      · refine KasFin.intro F' N' (UpdF.head (fun q hq => Nat.ne_of_lt (l1 q hq))) fun h2 c2 F2 N2 => ?_
        have hpr : (p.toList.map fun i => ks.getD i default).Perm ks := perm_map_getD ks default (by have := hp.perm; rwa [hvl] at this)
        refine h D c2 h2 (p.toList.map fun i => vs.getD i Value.none) (p.toList.map fun i => ks.getD i default) F2 N2 l1 (dat_of (by simp) fun i d hd => ?_) hpr ?_
        · rw [List.getElem?_map, List.getElem?_map] at hd
          rw [List.getElem?_map]
          cases e : p.toList[i]? with
          | none => rw [e] at hd; cases hd
          | some x =>
            rw [e] at hd
            cases hd
            exact ⟨_, rfl, hat x (List.mem_range.mp (hp.perm.mem_iff.mp (List.mem_of_getElem? e)))⟩
        · rw [List.pairwise_iff_getElem]
          intro i j hi hj hij
          have hsz := hp.size
          simp only [List.length_map, Array.length_toList] at hi hj
          have := ha i j hij (by (first | lia | omega))
          unfold KP at this
          simp only [List.getElem_map, Array.getElem_toList]
          rw [Array.getD_eq_getD_getElem?, Array.getD_eq_getD_getElem?, Array.getElem?_eq_getElem hi, Array.getElem?_eq_getElem hj] at this
          exact this
end
/-- two strictly sorted lists of the same things are the same -/
theorem sorted_eq : ∀ {a b : List (Str × Str)}, a.Pairwise (fun x y => lexS x y = true) → b.Pairwise (fun x y => lexS x y = true) → a.Perm b → a = b
  | [], b, _, _, h => h.symm.eq_nil.symm
  | x :: a, [], _, _, h => absurd h.length_eq (by simp)
  | x :: a, y :: b, ha, hb, h => by
    rw [List.pairwise_cons] at ha hb
    have e : x = y := by
      have hx : x ∈ y :: b := h.mem_iff.mp (.head _)
      have hy : y ∈ x :: a := h.mem_iff.mpr (.head _)
      rcases List.mem_cons.mp hx with e | hx
      · exact e
      · rcases List.mem_cons.mp hy with e | hy
        · exact e.symm
        · have h1 := ha.1 y hy
          have h2 := hb.1 x hx
          have := lexS_slo.no h1
          rw [h2] at this
          cases this
    subst e
    rw [sorted_eq ha.2 hb.2 (List.perm_cons x |>.mp h)]
end Mine

end
section
open PySem PySem.W PyProof.Rows PySem.Calls PySem.Spec PyProof.Rows.LCg
set_option genInjectivity false
set_option genSizeOf false
set_option maxRecDepth 100000
namespace Mine
section
variable {prog : Program} {w : World} {A : Around} {E : Value → Shared → Prop} {s : Shared} {g : Heap} {L : Addr} {m : Str → Option Value} {nw : Led} {env : Env}
theorem comp_list_cell {l : Addr} {elt iter : PySem.Expr} {x : Str} {px : Pos} {ifs : List PySem.Expr} {scope : Scope} {cl : List (Str × Addr)} {pos : Pos} {use : Option (Value → Sem Unit)} {Q : Value → Shared → Prop} {its : Array Value} {k : Nat} (hh : A.handled = none) (J : Nat → List Value → Led → Prop) (F : Fr g L s.heap m) (N : News g L s.heap nw) (hm : (l, listOf its k) ∈ nw) (hsz : its.size ≤ sizeLine)
    (hnew : newFunctionEnv scope env.globals cl [] env.qual none .none (some env) = (do
      let C ← alloc { cls := .type "dict", data := .dict #[] }
      let X ← alloc { cls := .type "cell", data := .cell none }
      pure { scope, locals := C, globals := env.globals, cells := (x, X) :: cl, qual := env.qual, func := none, code := env.code, frame := env.frame, builtins := env.builtins }))
    (hkind : scope.kind = .function) (hxk : ∀ cl C, (compEnvC scope cl C env).kindOf x = some .cell)
    (h0 : J 0 [] nw) (hJ : ∀ i ys nw, J i ys nw → (l, listOf its k) ∈ nw)
    (turn : ∀ i v ys nw I oI C oC mC D X oX h tk, i < its.size → its[i]? = some v → J i ys nw → NsObj oC mC → oX.data = .cell (some v) → Fr g L h m → News g L h ((I, oI) :: (C, oC) :: (D, lst ys) :: (X, oX) :: nw) → (∀ p ∈ nw, ∀ q ∈ [(I, oI), (C, oC), (D, lst ys), (X, oX)], p.1 ≠ q.1) → ((@Ne Nat I C) ∧ (@Ne Nat I D) ∧ (@Ne Nat C D) ∧ (@Ne Nat X I) ∧ (@Ne Nat X C) ∧ (@Ne Nat X D)) →
      CTurn prog w A g L m s elt ifs (compEnvC scope ((x, X) :: cl) C env) [(I, oI), (C, oC), (D, lst ys), (X, oX)] (fun y => J (i + 1) (ys ++ [y])) (J (i + 1) ys) { s with heap := h, toks := tk })
    (fin : ∀ ys nw, J its.size ys nw → UseFin env use g L m s Q ys nw) :
    wpAny (model prog w) A (pyIter (.ref l)) (CompTail prog w A E env elt (.Name x px) iter ifs scope cl pos use Q) E s := by
  have hl : s.heap.IsList l its := ⟨_, (N _ hm).1, rfl, _, rfl⟩
  refine wpAny_pyIter_list hl ?_
  refine comp_name_cell (Cur.list hh s.heap.objs.size l (Nat.ne_of_lt (Heap.lt_size (N _ hm).1)) its) hsz J hnew hkind hxk (F.push _) (N.grown fun _ _ e => Heap.get?_push_of_some _ e) ⟨⟨_, Heap.get?_push_size _ rfl, rfl, rfl⟩, hl.push _⟩
    ⟨Ne.symm (Nat.ne_of_lt F.ns.lt), fresh_of F⟩ (fun p hp => Nat.ne_of_lt (Heap.lt_size (N p hp).1)) h0 (fun b hb => by
      rw [List.mem_singleton.mp hb]
      exact .inr ⟨listOf its k, fun nw ⟨i, ys, j⟩ => hJ i ys nw j⟩) ?_ fin
  intro i v ys nw oI C oC mC D X oX h tk hi hv hJ hoC hx F N off ne
  exact turn i v ys nw _ oI C oC mC D X oX h tk hi hv hJ hoC hx F N off ne
end
end Mine

end
section
set_option genInjectivity false
set_option genSizeOf false
namespace Mine
/-! tables of noughts and ones: by kernel -/
noncomputable def pc (r : Nat) : Nat := Nat.land (Nat.shiftRight 0x4332322132212110 (Nat.mul 4 r)) 15
noncomputable def exT (x y d : Nat) : Bool := bif Nat.beq (Nat.land d (Nat.xor x y)) d then (bif Nat.beq (pc (Nat.land d x)) 1 then Nat.beq (pc d) 2 else false) else false
noncomputable def isMv (a b c a' b' c' : Nat) : Bool :=
  bif (bif Nat.beq c c' then (bif Nat.beq (Nat.xor a a') (Nat.xor b b') then exT a b (Nat.xor a a') else false) else false) then true else
  bif (bif Nat.beq b b' then (bif Nat.beq (Nat.xor a a') (Nat.xor c c') then exT a c (Nat.xor a a') else false) else false) then true else
  (bif Nat.beq a a' then (bif Nat.beq (Nat.xor b b') (Nat.xor c c') then exT b c (Nat.xor b b') else false) else false)
noncomputable def anyM (f : Nat → Bool) (l : List Nat) : Bool := List.rec false (fun d _ ih => bif f d then true else ih) l
noncomputable def twoMv (a b c a' b' c' : Nat) : Bool :=
  bif anyM (fun d => bif exT a b d then isMv (Nat.xor a d) (Nat.xor b d) c a' b' c' else false) [3, 5, 6, 9, 10, 12] then true else
  bif anyM (fun d => bif exT a c d then isMv (Nat.xor a d) b (Nat.xor c d) a' b' c' else false) [3, 5, 6, 9, 10, 12] then true else
  anyM (fun d => bif exT b c d then isMv a (Nat.xor b d) (Nat.xor c d) a' b' c' else false) [3, 5, 6, 9, 10, 12]
noncomputable def unl (a b c a' b' c' : Nat) : Nat := Nat.add (Nat.add (pc (Nat.xor a a')) (pc (Nat.xor b b'))) (pc (Nat.xor c c'))
noncomputable def goodB (a b c a' b' c' : Nat) : Bool :=
  bif Nat.beq (unl a b c a' b' c') 0 then true else bif Nat.beq (unl a b c a' b' c') 4 then isMv a b c a' b' c' else twoMv a b c a' b' c'
/-- rows of k ones, with their figures told apart -/
noncomputable def clsL : List (List (Nat × Nat)) := [[(0, 0)], [(1, 1), (2, 4), (4, 16), (8, 64)], [(3, 5), (5, 17), (6, 20), (9, 65), (10, 68), (12, 80)], [(7, 21), (11, 69), (13, 81), (14, 84)], [(15, 85)]]
noncomputable def sumP (f : Nat → Nat → Nat) (l : List (Nat × Nat)) : Nat := List.rec 0 (fun x _ ih => Nat.add (Prod.rec (fun a s => f a s) x) ih) l
noncomputable def allQ (f : Nat → Nat → Bool) (l : List (Nat × Nat)) : Bool := List.rec true (fun x _ ih => bif Prod.rec (fun a s => f a s) x then ih else false) l
noncomputable def allC (f : List (Nat × Nat) → Bool) (l : List (List (Nat × Nat))) : Bool := List.rec true (fun x _ ih => bif f x then ih else false) l
noncomputable def costT (l0 l1 l2 : List (Nat × Nat)) (a b c s : Nat) : Nat :=
  sumP (fun a' s0 => sumP (fun b' s1 => sumP (fun c' s2 => bif Nat.beq (Nat.add (Nat.add s0 s1) s2) s then (bif goodB a b c a' b' c' then 1 else 100) else 0) l2) l1) l0
noncomputable def chkAll (l0 : List (Nat × Nat)) : Bool :=
  allC (fun l1 => allC (fun l2 => allQ (fun a s0 => allQ (fun b s1 => allQ (fun c s2 => Nat.ble (costT l0 l1 l2 a b c (Nat.add (Nat.add s0 s1) s2)) 19) l2) l1) l0) clsL) clsL
set_option maxRecDepth 100000
theorem chk0 : chkAll [(0, 0)] = true := by decide +kernel
theorem chk1 : chkAll [(1, 1), (2, 4), (4, 16), (8, 64)] = true := by decide +kernel
theorem chk2 : chkAll [(3, 5), (5, 17), (6, 20), (9, 65), (10, 68), (12, 80)] = true := by decide +kernel
theorem chk3 : chkAll [(7, 21), (11, 69), (13, 81), (14, 84)] = true := by decide +kernel
theorem chk4 : chkAll [(15, 85)] = true := by decide +kernel
end Mine

end
section
open PySem PySem.W PyProof.Rows PySem.Calls PySem.Spec
namespace Mine
local macro_rules | `(tactic| walk_at "call type:list") => `(tactic| (k_here; (with_reducible show wpAny _ _ (call _ [.str _ _]) _ _ _); k_dflt (refine' list_str_led (by rfl) (by k_asm) (by k_asm) ?_ (by walk_at "my z")); k_whole; intro _ _ _ _ _ _ _ l1 _; (try k_lt l1)))
local macro_rules | `(tactic| walk_at "exec Delete") => `(tactic| (k_here; k_dflt (refine exec_del_slice ?_)))
local macro_rules | `(tactic| walk_at "delItem ref ref") => `(tactic| (k_here; k_dflt (refine' del_led (by k_asm) (by k_asm) (by k_updF) (by decide) ?_ (by walk_at "my z")); k_whole; intro _ _ _ N'; (try dsimp only at N')))
local macro_rules | `(tactic| walk_at "subscriptTail Name Slice ref ref") => `(tactic| (k_here; (with_reducible show wpAny _ _ (subscriptTail _ (.Slice none (some _) none _) (.ref _) (.ref _)) _ _ _); k_dflt (refine' slice_upto_led (by k_asm) (by k_asm) (by k_mem) (by decide) ?_ (by with_unfolding_all rfl) (by kmk_pure) (by walk_at "my z")); k_whole; intro _ _ _ N' l1; (try k_lt l1); (try simp only [Int.toNat_one, List.take_succ_cons, List.take_zero, List.take_nil, Int.toNat_ofNat] at N')))
local macro_rules | `(tactic| walk_at "call builtin:str.join") => `(tactic| (k_here; (with_reducible show wpAny _ _ (call _ [.str _ _, .ref _]) _ _ _); k_dflt (refine' join_led (by k_asm) (by k_asm) (by k_mem) (by first | exact StrsAre.nil | exact StrsAre.cons _ _ StrsAre.nil | assumption) (by first | exact Nat.le_of_ble_eq_true rfl | assumption | lia) ?_); k_whole; intro _ _ _ _))
local macro_rules | `(tactic| walk_at "my enterC") => `(tactic| (refine' enterKC (by k_asm) (by k_asm) (by k_asm) (by k_is) (by k_is) (by first | walk_at "my r" | lia) (by first | exact BindsTo.of_eq rfl | exact binds_K (Frag.In.keeps (by assumption) (Out.keep (by assumption))) rfl (by k_is) rfl rfl rfl | fail "enter: arguments") (by rfl) (by decide +kernel) (by rfl) (by rfl) (by rfl) ?_; k_whole; intro _ _ _ _ _ N' Y' l1; (try k_lt l1); k_cells Y'; (try simp only [List.cons_append, List.nil_append] at N'); (try dsimp only); (try k_fold)))
local macro_rules | `(tactic| walk_at "my r") => `(tactic| first | exact rm2 (by assumption) (by rfl) | exact rm1 (by assumption) (by rfl) | exact rm0 (by assumption) | exact rm3 (by assumption) (by rfl))
local macro_rules | `(tactic| walk_at "my c") => `(tactic| with_reducible first | assumption | exact cjA0 ‹_› | exact cjA1 ‹_› | exact cjA2 ‹_› | exact cjA3 ‹_› | exact cjA4 ‹_› | exact cjA5 ‹_› | exact cjA6 ‹_› | exact cjA7 ‹_› | exact cjA8 ‹_› | exact cjA9 ‹_› | exact cjB1 ‹_› | exact cjB2 ‹_› | exact cjB3 ‹_› | exact cjB4 ‹_› | exact cjB5 ‹_› | exact cjB6 ‹_› | exact cjB7 ‹_› | exact cjB8 ‹_› | exact cjB9 ‹_› | exact cjB10 ‹_›)
local macro_rules | `(tactic| walk_at "my ch") => `(tactic| first | with_reducible assumption | exact Nat.lt_trans (by with_reducible assumption) (by with_reducible assumption) | exact Nat.lt_trans (Nat.lt_trans (by with_reducible assumption) (by with_reducible assumption)) (by with_reducible assumption))
local macro_rules | `(tactic| walk_at "my n") => `(tactic| first | exact Nat.ne_of_gt (by walk_at "my c") | exact Nat.ne_of_lt (by walk_at "my c") | exact Nat.ne_of_gt (by walk_at "my ch") | exact Nat.ne_of_lt (by walk_at "my ch"))
local macro_rules | `(tactic| walk_at "my o") => `(tactic| first | (refine And.intro ?_ ?_ <;> walk_at "my o") | walk_at "my c" | exact Nat.le_trans (by with_reducible assumption) (by decide) | exact Nat.lt_of_le_of_lt (by with_reducible assumption) (by decide) | walk_at "my n" | lia | omega)
local macro_rules | `(tactic| walk_at "my z") => `(tactic| first | size_fits | assumption | (rw [sizeLine_eq]; lia) | (simp; rw [sizeLine_eq]; lia))
local macro_rules | `(tactic| walk_at "my take") => `(tactic| first | refine' Take.head (by k_all) | refine' Take.tail (by k_ne) (by walk_at "my take"))
local macro_rules | `(tactic| walk_at "my split") => `(tactic| first | exact Split.nil | refine' Split.cons (by walk_at "my take") (by walk_at "my split"))
local macro_rules | `(tactic| walk_at "call builtin:iter") => `(tactic| (k_here; (with_reducible show wpAny _ _ (call _ [.ref _, .str _ _]) _ _ _); k_dflt (refine' iter2_led (by k_asm) (by k_asm) (by k_mem) ?_; k_whole); intro _ _ _ _ l1; (try k_lt l1)))
local macro_rules | `(tactic| k_room) => `(tactic| first | walk_at "my r" | ((try simp only [depth_under_make, depth_under_kw, depth_in1, depth_deeper, depth_caller]); (try dsimp only); lia))
local macro_rules | `(tactic| k_units) => `(tactic| first | walk_at "my r" | (have hcL9 := cLine_is; (try simp only [units_in1, units_deeper, Around.mark_units, units_caller] at *); (try dsimp only at *); lia))
local macro_rules | `(tactic| k_ne) => `(tactic| (refine neN ?_; (try dsimp only); first | walk_at "my n" | lia))
variable (prog : Program) (w : World) (p : Program) (loose : List Str) (mean : ExcName → Option Value) (mg mb : Str → Option Value)
section
section HDR
local macro_rules | `(tactic| walk_at "call builtin:re.Pattern.search") => `(tactic| (k_here; (with_reducible show wpAny _ _ (call _ [.ref _, .str _ _]) _ _ _); k_dflt (first
  | (refine' search_name (by exact Fr.keep (by k_asm) _ _ ((by k_asm : Frag.In _ _) _ _ (by k_is))) (by exact Fr.keep (by k_asm) _ _ ((by k_asm : Frag.In _ _) _ _ (by k_is))) (by assumption) (by walk_at "my o") ?_)
  | (refine' search_val (by exact Fr.keep (by k_asm) _ _ ((by k_asm : Frag.In _ _) _ _ (by k_is))) (by exact Fr.keep (by k_asm) _ _ ((by k_asm : Frag.In _ _) _ _ (by k_is))) (by assumption) (by walk_at "my o") ?_)); k_whole))
local macro_rules | `(tactic| walk_at "getMethod ref") => `(tactic| (k_here; (with_reducible show wpAny _ _ (getMethod (.ref _) (PySem.Str.ofString "search") _) _ _ _); k_dflt (refine' search_method (by exact Fr.keep (by k_asm) _ _ ((by k_asm : Frag.In _ _) _ _ (by k_is))) (by rfl) (by rfl) ?_); k_whole))
theorem convert_name (h : Addr) (x : Str) (t : Tok) (hx : ∀ c ∈ x.cps.toList, okName c = true) (hz : x.cps.size < 2 ^ 62) :
   Con prog w (hd2.heap_1 w.params) p loose mean mg mb 3 (.ref 119) ⟨[.ref h, .str x t], [(Str.ofString "name", .bool true)]⟩ (fun _ => True) []
     (fun v nw' => v = .str x t ∧ nw' = []) := by
  intro dp un gd outer A₀ base g s B O X T hpre hd hu
  k_dflt ((first | (refine' enterK (by k_asm) (by k_asm) (by k_asm) (by k_is) (by k_is) (by first | walk_at "my r" | lia) (by first | exact BindsTo.of_eq rfl | exact binds_K (Frag.In.keeps (by assumption) (Out.keep (by assumption))) rfl (by k_is) rfl rfl rfl | fail "enter: arguments") ?kBq8 (by decide) (by rfl) (by rfl) (by rfl) ?_; (case kBq8 => exact locs rfl); k_whole; intro Lq hq Fq Nq l1q; (try k_lt l1q); (try dsimp only); (try k_fold)) | walk_at "my enterC"))
  k_steps
  (try dsimp only)
  refine' fin_intro ?F ?N ?R
  (case F => k_asm)
  (case N => k_asm)
  exact ⟨rfl, rfl⟩
theorem convert_val (h : Addr) (x : Str) (t : Tok) (hx : ∀ c ∈ x.cps.toList, okVal c = true) (hz : x.cps.size < 2 ^ 62) :
   Con prog w (hd2.heap_1 w.params) p loose mean mg mb 3 (.ref 119) ⟨[.ref h, .str x t], [(Str.ofString "name", .bool false)]⟩ (fun _ => True) []
     (fun v nw' => v = .str x t ∧ nw' = []) := by
  intro dp un gd outer A₀ base g s B O X T hpre hd hu
  k_dflt ((first | (refine' enterK (by k_asm) (by k_asm) (by k_asm) (by k_is) (by k_is) (by first | walk_at "my r" | lia) (by first | exact BindsTo.of_eq rfl | exact binds_K (Frag.In.keeps (by assumption) (Out.keep (by assumption))) rfl (by k_is) rfl rfl rfl | fail "enter: arguments") ?kBq9 (by decide) (by rfl) (by rfl) (by rfl) ?_; (case kBq9 => exact locs rfl); k_whole; intro Lq hq Fq Nq l1q; (try k_lt l1q); (try dsimp only); (try k_fold)) | walk_at "my enterC"))
  k_steps
  (try dsimp only)
  refine' fin_intro ?F ?N ?R
  (case F => k_asm)
  (case N => k_asm)
  exact ⟨rfl, rfl⟩
end HDR
noncomputable abbrev tupObj (vs : Array Value) : Obj := { cls := .type "tuple", data := .seq vs }
structure Row where
  (a : Addr) (k : Str) (tk : Tok) (v : Str) (tv : Tok)
noncomputable abbrev Row.obj (r : Row) : Addr × Obj := (r.a, tupObj #[.str r.k r.tk, .str r.v r.tv])
structure HdA where
  (h d l : Addr)
noncomputable abbrev hdLed (w : World) (C : Addr) (a : HdA) (u : Tok) (rows : List Row) (n : Nat) : List (Addr × Obj) :=
  (a.h, instObj C a.d) :: (a.d, dictOf [⟨PyData.keyHash w.params (Str.ofString "_headers"), .str (Str.ofString "_headers") u, .ref a.l⟩] 1) :: (a.l, listOf (rows.map fun r => Value.ref r.a).toArray n) :: rows.map Row.obj
noncomputable def rowGet (rows : List Row) (x : Str) : Option Row := rows.find? fun r => Txt.lower r.k == x
theorem fit_lower {x : Str} (h : (Txt.lower x).cps.size ≤ 1000) : Builtin.Str.tooLong (Txt.lower x).length = false := by
  unfold Builtin.Str.tooLong
  have : (Txt.lower x).length = (Txt.lower x).cps.size := rfl
  rw [this, sizeLine_eq]
  simp; (walk_at "my o")
theorem rowGet_some {x : Str} {r : Row} : ∀ {rows : List Row} {i : Nat}, rows[i]? = some r → (∀ q ∈ rows.take i, (Txt.lower q.k == x) = false) → (Txt.lower r.k == x) = true → rowGet rows x = some r
  | [], i, h, _, _ => by simp at h
  | q :: rows, 0, h, _, hr => by
    simp only [List.getElem?_cons_zero, Option.some.injEq] at h
    subst h
    simp [rowGet, hr]
  | q :: rows, i + 1, h, hn, hr => by
    have h1 := hn q (by simp)
    have := rowGet_some (rows := rows) (i := i) (by simpa using h) (fun z hz => hn z (by simp [hz])) hr
    simpa [rowGet, h1] using this
theorem rowGet_none {x : Str} {rows : List Row} (h : ∀ q ∈ rows, (Txt.lower q.k == x) = false) : rowGet rows x = none := by
  unfold rowGet
  rw [List.find?_eq_none]
  intro q hq
  rw [h q hq]; simp
theorem take_succ_none {rows : List Row} {i : Nat} {r : Row} {P : Row → Prop} (hr : rows[i]? = some r) (h : ∀ q ∈ rows.take i, P q) (hp : P r) : ∀ q ∈ rows.take (i + 1), P q := by
  intro q hq
  rw [List.take_add_one, hr] at hq
  rcases List.mem_append.mp hq with hq | hq
  · exact h q hq
  · simp at hq; subst hq; exact hp
section HDR2
local macro_rules | `(tactic| walk_at "call builtin:str.lower") => `(tactic| (k_here; (show wpAny _ _ (call _ [.str _ _]) _ _ _); k_dflt (refine' KXw.lower rfl (by exact fit_lower (by assumption)) ?_; k_whole); intro _ _))
local macro_rules | `(tactic| walk_at "call ref") => `(tactic| (with_reducible refine haltC 119 ?_))
local macro_rules | `(tactic| walk_at "exec For Tuple Attribute cons nil") => `(tactic| (k_here; k_dflt (refine for_stmt (by intro _; rfl) ?_)))
local macro_rules | `(tactic| walk_at "pyIter ref") => `(tactic| ((with_reducible show wpAny _ _ (pyIter (.ref _)) _ _ _); refine stopI ?_))
local macro_rules | `(tactic| walk_at "eval Name") => `(tactic| (k_here; k_dflt (refine' nameX_L (by k_asm) (by assumption) ?_; k_whole)))
theorem get_ok (a : HdA) (u : Tok) (rows : List Row) (n : Nat) (x : Str) (t : Tok) (hx : ∀ c ∈ (Txt.lower x).cps.toList, okName c = true) (hz : (Txt.lower x).cps.size ≤ 1000) (hr : ∀ r ∈ rows, (Txt.lower r.k).cps.size ≤ 1000) :
   Con prog w (hd2.heap_1 w.params) p loose mean mg mb 4 (.ref 167) ⟨[.ref a.h, .str x t], []⟩ (fun _ => True) (hdLed w 220 a u rows n)
     (fun v nw' => nw' = hdLed w 220 a u rows n ∧ match rowGet rows (Txt.lower x) with | none => v = .none | some r => v = .str r.v r.tv) := by
  intro dp un gd outer A₀ base g s B O X T hpre hd hu
  k_dflt ((first | (refine' enterK (by k_asm) (by k_asm) (by k_asm) (by k_is) (by k_is) (by first | walk_at "my r" | lia) (by first | exact BindsTo.of_eq rfl | exact binds_K (Frag.In.keeps (by assumption) (Out.keep (by assumption))) rfl (by k_is) rfl rfl rfl | fail "enter: arguments") ?kBq48 (by decide) (by rfl) (by rfl) (by rfl) ?_; (case kBq48 => exact locs rfl); k_whole; intro Lq hq Fq Nq l1q; (try k_lt l1q); (try dsimp only); (try k_fold)) | walk_at "my enterC"))
  k_steps
  show wpAny _ _ _ _ _ _
  rename_i t'1 k'1
  (k_dflt (refine' Con.useS (convert_name prog w p loose mean mg mb a.h (Txt.lower x) _ hx (by (walk_at "my o"))) ?zB1 ?zF1 ?zX1 ?zN1 ?zT1 ?zA1 ?zf1 ?zk1 ?zd1 ?zu1 ?zS1 ?zpre1 ?_); (case zB1 => k_asm); (case zF1 => k_asm); (case zX1 => k_asm); (case zN1 => k_asm); (case zT1 => k_asm); (case zA1 => exact rfl); (case zf1 => exact rfl); (case zk1 => exact rfl); (case zd1 => k_room); (case zu1 => k_units); (case zS1 => walk_at "my split"); (case zpre1 => first | exact trivial | skip))
  intro v h' tk' nw' F' N' zg133 zg134
  refine letGoal ?_
  intro Gz
  obtain ⟨rfl, rfl⟩ := zg133
  clear zg134
  dsimp only [Gz]
  clear Gz
  dsimp only [List.nil_append] at N'
  k_steps
  show wpAny _ _ _ _ _ _
  refine' for_list (Q := ?Q) (its := (rows.map fun r => Value.ref r.a).toArray) (n := n) ?hh (fun i m nw => And4 (nw = hdLed w 220 a u rows n) (m (Str.ofString "name") = some (.str (Txt.lower x) t'1)) (m (Str.ofString "default") = some .none) (∀ r ∈ rows.take i, (Txt.lower r.k == Txt.lower x) = false)) ?F ?N ?hm ?h0 ?hJ ?hgo ?turn ?done
  (case hh => rfl)
  (case F => k_asm)
  (case N => k_asm)
  (case hm => exact .tail _ (.tail _ (.head _)))
  (case h0 => exact ⟨rfl, rfl, rfl, by simp⟩)
  (case hJ => rintro i m nw ⟨rfl, -⟩; exact .tail _ (.tail _ (.head _)))
  (case hgo =>
    intro s Q E I i xv hI hx hQ
    obtain ⟨r, hr, rfl⟩ : ∃ r, rows[i - 1]? = some r ∧ Value.ref r.a = xv := by simpa using hx
    exact go_ref s Q E I i r.a hI hQ)
  (case turn =>
    intro i xv m nw I oI h tk hx zg135 F N off
    refine letGoal ?_
    intro Gz
    obtain ⟨rfl, hn, hdf, hno⟩ := zg135
    dsimp only [Gz]
    clear Gz
    obtain ⟨r, hrr, rfl⟩ : ∃ r, rows[i]? = some r ∧ Value.ref r.a = xv := by simpa using hx
    have hmem : r ∈ rows := List.mem_of_getElem? hrr
    have hrk := hr r hmem
    refine assign_pair rfl F N (a := .str r.k r.tk) (b := .str r.v r.tv) ⟨_, (N _ (.tail _ (.tail _ (.tail _ (.tail _ (List.mem_map_of_mem hmem)))))).1, rfl, _, rfl⟩ rfl rfl rfl fun h' tk' F' N' => ?_
    clear F N
    k_steps
    all_goals (try dsimp only)
    · dsimp only [ListEnd]
      refine' fin_part ?Fa ?Na ?Sa ?Ra
      (case Fa => k_asm)
      (case Na => k_asm)
      (case Sa => intro q hq; exact .tail _ hq)
      rw [rowGet_some hrr hno (by assumption)]
      exact ⟨rfl, rfl⟩
    · refine' list_next ?Fb ?Nb ?Ob ?Jb
      (case Fb => k_asm)
      (case Nb => k_asm)
      (case Ob => exact off)
      exact ⟨rfl, hn, hdf, take_succ_none hrr hno (by assumption)⟩)
  (case done =>
    intro m nw h tk zg136 F N
    refine letGoal ?_
    intro Gz
    obtain ⟨rfl, hn, hdf, hno⟩ := zg136
    dsimp only [Gz]
    clear Gz
    (try dsimp only)
    k_steps
    (try dsimp only)
    refine' fin_intro ?Fd ?Nd ?Rd
    (case Fd => k_asm)
    (case Nd => k_asm)
    rw [rowGet_none (by simpa using hno)]
    exact ⟨rfl, rfl⟩)
end HDR2
section HDR4
local macro_rules | `(tactic| walk_at "call ref") => `(tactic| first
  | (with_reducible refine haltC 119 ?_)
  | (with_reducible refine haltC 167 ?_))
theorem setdefault_ok (a : HdA) (u : Tok) (rows : List Row) (n : Nat) (x y : Str) (t ty : Tok) (hx : ∀ c ∈ (Txt.lower x).cps.toList, okName c = true) (hz : (Txt.lower x).cps.size ≤ 1000) (hr : ∀ r ∈ rows, (Txt.lower r.k).cps.size ≤ 1000)
   (hx2 : ∀ c ∈ x.cps.toList, okName c = true) (hx3 : x.cps.size ≤ 1000) (hy : ∀ c ∈ y.cps.toList, okVal c = true) (hy3 : y.cps.size ≤ 1000) (hl : rows.length ≤ 1000) (hsep : ∀ r ∈ rows, @LT.lt Nat _ a.h r.a ∧ @LT.lt Nat _ a.d r.a ∧ @LT.lt Nat _ a.l r.a)
   (c1 : @LT.lt Nat _ a.d a.h) (c2 : @LT.lt Nat _ a.h a.l) :
   Con prog w (hd2.heap_1 w.params) p loose mean mg mb 6 (.ref 210) ⟨[.ref a.h, .str x t, .str y ty], []⟩ (fun _ => True) (hdLed w 220 a u rows n)
     (fun v nw' => match rowGet rows (Txt.lower x) with
       | some r => v = .str r.v r.tv ∧ nw' = hdLed w 220 a u rows n
       | none => v = .str y ty ∧ Ex2 fun r' n' => And4 (r'.k = x) (r'.v = y) (@LT.lt Nat _ a.l r'.a) (nw' = hdLed w 220 a u (rows ++ [r']) n')) := by
  intro dp un gd outer A₀ base g s B O X T hpre hd hu
  k_dflt ((first | (refine' enterK (by k_asm) (by k_asm) (by k_asm) (by k_is) (by k_is) (by first | walk_at "my r" | lia) (by first | exact BindsTo.of_eq rfl | exact binds_K (Frag.In.keeps (by assumption) (Out.keep (by assumption))) rfl (by k_is) rfl rfl rfl | fail "enter: arguments") ?kBq62 (by decide) (by rfl) (by rfl) (by rfl) ?_; (case kBq62 => exact locs rfl); k_whole; intro Lq hq Fq Nq l1q; (try k_lt l1q); (try dsimp only); (try k_fold)) | walk_at "my enterC"))
  k_steps
  show wpAny _ _ _ _ _ _
  (k_dflt (refine' Con.use (get_ok prog w p loose mean mg mb a u rows n x t hx hz hr) [] ?zB2 ?zF2 ?zX2 ?zN2 ?zT2 ?zA2 ?zf2 ?zk2 ?zd2 ?zu2 (fun q hq => hq) (fun r hr => absurd hr (List.not_mem_nil)) ?zpre2 ?_); (case zB2 => k_asm); (case zF2 => k_asm); (case zX2 => k_asm); (case zN2 => k_asm); (case zT2 => k_asm); (case zA2 => exact rfl); (case zf2 => exact rfl); (case zk2 => exact rfl); (case zd2 => k_room); (case zu2 => k_units); (case zpre2 => first | exact trivial | skip))
  intro v h' tk' nw' F' N' zg204 zg205
  refine letGoal ?_
  intro Gz
  obtain ⟨rfl, hv⟩ := zg204
  clear zg205
  dsimp only [Gz]
  clear Gz
  rw [List.append_nil] at N'
  cases hg : rowGet rows (Txt.lower x) with
  | some r =>
    rw [hg] at hv
    subst hv
    k_steps
    (try dsimp only)
    refine' fin_intro ?Fd ?Nd ?Rd
    (case Fd => k_asm)
    (case Nd => k_asm)
    exact ⟨rfl, rfl⟩
  | none =>
    rw [hg] at hv
    subst hv
    k_steps
    show wpAny _ _ _ _ _ _
    (k_dflt (refine' Con.useS (convert_name prog w p loose mean mg mb a.h x t hx2 (by (walk_at "my o"))) ?zB3 ?zF3 ?zX3 ?zN3 ?zT3 ?zA3 ?zf3 ?zk3 ?zd3 ?zu3 ?zS3 ?zpre3 ?_); (case zB3 => k_asm); (case zF3 => k_asm); (case zX3 => k_asm); (case zN3 => k_asm); (case zT3 => k_asm); (case zA3 => exact rfl); (case zf3 => exact rfl); (case zk3 => exact rfl); (case zd3 => k_room); (case zu3 => k_units); (case zS3 => walk_at "my split"); (case zpre3 => first | exact trivial | skip))
    intro v h' tk' nw' F' N' zg206 zg207
    refine letGoal ?_
    intro Gz
    obtain ⟨rfl, rfl⟩ := zg206
    clear zg207
    dsimp only [Gz]
    clear Gz
    dsimp only [List.nil_append] at N'
    k_steps
    show wpAny _ _ _ _ _ _
    (k_dflt (refine' Con.useS (convert_val prog w p loose mean mg mb a.h y ty hy (by (walk_at "my o"))) ?zB4 ?zF4 ?zX4 ?zN4 ?zT4 ?zA4 ?zf4 ?zk4 ?zd4 ?zu4 ?zS4 ?zpre4 ?_); (case zB4 => k_asm); (case zF4 => k_asm); (case zX4 => k_asm); (case zN4 => k_asm); (case zT4 => k_asm); (case zA4 => exact rfl); (case zf4 => exact rfl); (case zk4 => exact rfl); (case zd4 => k_room); (case zu4 => k_units); (case zS4 => walk_at "my split"); (case zpre4 => first | exact trivial | skip))
    intro v h' tk' nw' F' N' zg208 zg209
    refine letGoal ?_
    intro Gz
    obtain ⟨rfl, rfl⟩ := zg208
    clear zg209
    dsimp only [Gz]
    clear Gz
    dsimp only [List.nil_append] at N'
    k_steps
    have htail : ∀ q ∈ rows.map Row.obj, q.1 ≠ a.l := by
      intro q hq
      obtain ⟨r, hr1, rfl⟩ := List.mem_map.mp hq
      have := (hsep r hr1).2.2
      (show r.a ≠ a.l); exact neN (by (walk_at "my o"))
    rename_i D' h2' F2' N2' l2'
    refine' append_K ?F1 ?N1 (.tail (p := (D', _)) ?n1 (.tail ?n2 (.tail ?n3 (.head htail)))) ?h1 ?z1
    (case F1 => k_asm)
    (case N1 => k_asm)
    (case n1 => (show D' ≠ a.l); refine neN ?_; (walk_at "my o"))
    (case n2 => (show a.h ≠ a.l); refine neN ?_; (walk_at "my o"))
    (case n3 => (show a.d ≠ a.l); refine neN ?_; (walk_at "my o"))
    (case z1 => (rw [sizeLine_eq]; simp; (walk_at "my o")))
    intro h3 F3 N3
    k_steps
    (try dsimp only)
    refine' fin_part ?Fe ?Ne ?Se ?Re
    (case Fe => k_asm)
    (case Ne => k_asm)
    (case Re => exact ⟨rfl, ⟨D', x, t, y, ty⟩, n + 1, rfl, rfl, l2'.2.2.1, rfl⟩)
    (case Se =>
      intro q hq
      simp only [hdLed, List.map_append, List.map_cons, List.map_nil, List.mem_cons, List.mem_append, List.not_mem_nil, or_false, Row.obj] at hq ⊢
      rcases hq with rfl | rfl | rfl | hq | rfl
      · simp
      · simp
      · simp
      · simp [hq]
      · simp)
end HDR4
end
section
local macro_rules | `(tactic| walk_at "eval ListComp") => `(tactic| (k_here; k_dflt (refine eval_comp (by with_unfolding_all rfl) (by rfl) (by decide) ?_)))
local macro_rules | `(tactic| walk_at "exec Assign cons ListComp") => `(tactic| (k_here; k_dflt (refine assign_comp (by with_unfolding_all rfl) (by with_unfolding_all rfl) (by rfl) (by decide) ?_)))
local macro_rules | `(tactic| walk_at "pyIter ref") => `(tactic| ((with_reducible show wpAny _ _ (pyIter (.ref _)) (CompTail _ _ _ _ _ _ _ _ _ _ _ _ _ _) _ _); refine stopI ?_))
local macro_rules | `(tactic| k_all) => `(tactic| first | exact List.forall_mem_nil _ | (refine' List.forall_mem_cons.mpr ⟨(by k_ne), (by k_all)⟩) | exact TailIn.ne (by assumption) (by walk_at "my o"))
local macro_rules | `(tactic| k_mem) => `(tactic| first | exact List.Mem.head _ | (refine' List.Mem.tail _ ?_; k_mem) | assumption)
section
local macro_rules | `(tactic| walk_at "my look") => `(tactic| first | rfl | assumption | (dsimp only; (repeat rw [if_neg (by decide)]); first | rfl | assumption) | with_unfolding_all assumption)
local macro_rules | `(tactic| walk_at "eval Name") => `(tactic| (k_here; k_dflt (refine' nameX_L (by k_asm) (by walk_at "my look") ?_; k_whole)))
local macro_rules | `(tactic| walk_at "loadName") => `(tactic| (k_here; k_dflt (refine' wpAny_loadName_local (by rfl) (by rfl) (Fr.ns (by k_asm)) (by walk_at "my look") ?_; k_whole)))
section
section VARI
local macro_rules | `(tactic| walk_at "call builtin:next") => `(tactic| (k_here; (with_reducible show wpAny _ _ (call _ [.ref _]) _ _ _); k_dflt (refine' next_led (by k_asm) (by k_asm) (by k_updF) (by assumption) (by k_mem) (by rfl) ?_; k_whole); intro _ _ _ _ _))
local macro_rules | `(tactic| walk_at "exec While BinOp cons nil") => `(tactic| (refine stopI ?_))
local macro_rules | `(tactic| walk_at "inplaceOp LShift int int") => `(tactic| (refine ilshift_int_small (by decide) (by decide) (by assumption) ?_; k_whole))
noncomputable def vval2 (c1 c2 : Int) : Int := Builtin.bitOr (Builtin.bitAnd c1 63 * 2 ^ (6 : Int).toNat) (Builtin.bitAnd c2 63)
noncomputable def vval (c1 c2 c3 : Int) : Int := Builtin.bitOr (vval2 c1 c2 * 2 ^ (6 : Int).toNat) (Builtin.bitAnd c3 63)
@[reducible] noncomputable def VOK (c1 c2 c3 : Int) : Prop := Builtin.bitAnd c1 64 ≠ 0 ∧ Builtin.bitAnd c2 64 ≠ 0 ∧ Builtin.bitAnd c3 64 = 0 ∧ (Builtin.bitAnd c1 63).natAbs < 2 ^ 64 ∧ (vval2 c1 c2).natAbs < 2 ^ 64
theorem varint_ok (I l : Addr) (oI : Obj) (k : Nat) (c1 c2 c3 : Int) (t1 t2 t3 : Tok) (hI : Lit l 0 oI) (hIl : @LT.lt Nat _ l I) (hV : VOK c1 c2 c3) :
   Con prog w (hd2.heap_1 w.params) p loose mean mg mb 4 (.ref 87) ⟨[.ref I], []⟩ (fun _ => True) [(I, oI), (l, listOf #[.int c1 t1, .int c2 t2, .int c3 t3] k)]
     (fun v nw' => ∃ t, v = .int (vval c1 c2 c3) t ∧ ∃ oI', nw' = [(I, oI'), (l, listOf #[.int c1 t1, .int c2 t2, .int c3 t3] k)]) := by
  obtain ⟨h1, h2, h3, h4, h5⟩ := hV
  intro dp un gd outer A₀ base g s B O X T hpre hd hu
  k_dflt ((first | (refine' enterK (by k_asm) (by k_asm) (by k_asm) (by k_is) (by k_is) (by first | walk_at "my r" | lia) (by first | exact BindsTo.of_eq rfl | exact binds_K (Frag.In.keeps (by assumption) (Out.keep (by assumption))) rfl (by k_is) rfl rfl rfl | fail "enter: arguments") ?kBq85 (by decide) (by rfl) (by rfl) (by rfl) ?_; (case kBq85 => exact locs rfl); k_whole; intro Lq hq Fq Nq l1q; (try k_lt l1q); (try dsimp only); (try k_fold)) | walk_at "my enterC"))
  refine letPost ?_
  intro K1
  k_steps
  show wpAny _ _ _ _ _ _
  refine' while_led (fun n m nw => Ex5 fun (v b : Int) (tv tb : Tok) (oI' : Obj) => m (Str.ofString "iterator") = some (.ref I) ∧ m (Str.ofString "val") = some (.int v tv) ∧ m (Str.ofString "b") = some (.int b tb) ∧ nw = [(I, oI'), (l, listOf #[.int c1 t1, .int c2 t2, .int c3 t3] k)] ∧
    ((n = 2 ∧ b = c1 ∧ v = Builtin.bitAnd c1 63 ∧ Lit l 1 oI') ∨ (n = 1 ∧ b = c2 ∧ v = vval2 c1 c2 ∧ Lit l 2 oI') ∨ (n = 0 ∧ b = c3 ∧ v = vval c1 c2 c3 ∧ Lit l 3 oI'))) 2 ?F ?N ?h0 ?turn
  (case F => k_asm)
  (case N => k_asm)
  (case h0 => exact ⟨_, _, _, _, _, rfl, rfl, rfl, rfl, .inl ⟨rfl, rfl, rfl, by assumption⟩⟩)
  rintro n m nw h tk ⟨v, b, tv, tb, oI', hit, hv, hb, rfl, ⟨rfl, rfl, rfl, hI'⟩ | ⟨rfl, rfl, rfl, hI'⟩ | ⟨rfl, rfl, rfl, hI'⟩⟩ F N
  · k_steps
    · (try dsimp +zetaDelta only)
      refine' loop_next (k := 1) ?F1 ?N1 (by decide) ⟨_, _, _, _, _, ?i1, ?i2, ?i3, ?i4, .inr (.inl ⟨rfl, ?i5, ?i6, ?i7⟩)⟩
      (case F1 => k_asm)
      (case N1 => k_asm)
      (case i1 => walk_at "my look")
      (case i2 => walk_at "my look")
      (case i3 => walk_at "my look")
      (case i4 => rfl)
      (case i5 => rfl)
      (case i6 => rfl)
      (case i7 => assumption)
    · contradiction
  · k_steps
    · (try dsimp +zetaDelta only)
      refine' loop_next (k := 0) ?F2 ?N2 (by decide) ⟨_, _, _, _, _, ?j1, ?j2, ?j3, ?j4, .inr (.inr ⟨rfl, ?j5, ?j6, ?j7⟩)⟩
      (case F2 => k_asm)
      (case N2 => k_asm)
      (case j1 => walk_at "my look")
      (case j2 => walk_at "my look")
      (case j3 => walk_at "my look")
      (case j4 => rfl)
      (case j5 => rfl)
      (case j6 => rfl)
      (case j7 => assumption)
    · contradiction
  · k_steps
    all_goals first | contradiction | skip
    (try dsimp only)
    (try dsimp +zetaDelta only)
    refine' fin_intro ?Fd ?Nd ?Rd
    (case Fd => k_asm)
    (case Nd => k_asm)
    exact ⟨_, rfl, _, rfl⟩
end VARI
end
end
end
section
local macro_rules | `(tactic| walk_at "callWith ref") => `(tactic| (k_here; k_dflt (first
  | (refine' callWith_F (by exact FnAt.of (by k_asm) (by k_mem)) ?_; k_whole)
  | (refine' callWith_F0 (by exact FnAt.of (by k_asm) (by k_mem)) ?_; k_whole; try dsimp only [List.nil_append, List.cons_append]))))
local macro_rules | `(tactic| walk_at "And") => `(tactic| ((with_reducible show FnAt _ _ ∧ _); refine ⟨FnAt.of (by k_asm) (by k_mem), ?_⟩; try dsimp only [List.nil_append, List.cons_append]))
section
structure LexA where
  (lx dx pb y dy pb2 fn c' cc sg : Addr)
structure LexJ where
  (fd : FuncData) (oc oC : Obj) (u0 u1 u2 u3 r0 r1 r2 r3 r4 w0 w1 i1 : Tok)
noncomputable def key (w : World) (n : String) (t : Tok) (v : Value) : DictEntry := { hash := PyData.keyHash w.params (Str.ofString n), key := .str (Str.ofString n) t, val := v }
noncomputable abbrev lexLed (w : World) (C : Addr) (a : LexA) (j : LexJ) (line : Int) (tl : Tok) (vs toks : List Value) (e1 e2 : Nat) : List (Addr × Obj) :=
  [(a.lx, instObj C a.dx),
   (a.dx, dictOf [⟨PyData.keyHash w.params (Str.ofString "lineno"), .str (Str.ofString "lineno") j.u0, .int line tl⟩, ⟨PyData.keyHash w.params (Str.ofString "instream"), .str (Str.ofString "instream") j.u1, .ref a.y⟩,
     ⟨PyData.keyHash w.params (Str.ofString "whitespace"), .str (Str.ofString "whitespace") j.u2, .str (Str.ofString "\n\t\x0d ") j.w0⟩, ⟨PyData.keyHash w.params (Str.ofString "pushback"), .str (Str.ofString "pushback") j.u3, .ref a.pb⟩] 4),
   (a.pb, listOf toks.toArray e1),
   (a.y, instObj C a.dy),
   (a.dy, dictOf [⟨PyData.keyHash w.params (Str.ofString "lineno"), .str (Str.ofString "lineno") j.r0, .int 1 j.i1⟩, ⟨PyData.keyHash w.params (Str.ofString "instream"), .str (Str.ofString "instream") j.r1, .none⟩,
     ⟨PyData.keyHash w.params (Str.ofString "whitespace"), .str (Str.ofString "whitespace") j.r2, .str (Str.ofString "\n\t\x0d ") j.w1⟩, ⟨PyData.keyHash w.params (Str.ofString "pushback"), .str (Str.ofString "pushback") j.r3, .ref a.pb2⟩,
     ⟨PyData.keyHash w.params (Str.ofString "read"), .str (Str.ofString "read") j.r4, .ref a.fn⟩] 5),
   (a.fn, { cls := .type "function", data := .func j.fd }), (a.c', j.oc), (a.cc, j.oC), (a.sg, listOf vs.toArray e2)]
noncomputable def LexA.chain (a : LexA) : Prop := @LT.lt Nat _ a.cc a.sg ∧ @LT.lt Nat _ a.sg a.c' ∧ @LT.lt Nat _ a.c' a.fn ∧ @LT.lt Nat _ a.fn a.dy ∧ @LT.lt Nat _ a.dy a.y ∧ @LT.lt Nat _ a.y a.dx ∧ @LT.lt Nat _ a.dx a.lx ∧ @LT.lt Nat _ a.lx a.pb
/-! the lexer as plain functions -/
noncomputable def isWs (c : Nat) : Bool := c == 10 || c == 9 || c == 13 || c == 32
noncomputable def quo (t : List Nat) : List Nat → List Nat × List Nat
  | [] => (t, [])
  | c :: r => if c = 34 then (t, r) else if c = 92 then (match r with | [] => (t, []) | d :: r' => quo (t ++ [d]) r') else quo (t ++ [c]) r
noncomputable def bare (t : List Nat) : List Nat → List Nat × List Nat
  | [] => (t, [])
  | c :: r => if isWs c then (t, r) else if c = 92 then (match r with | [] => (t, []) | d :: r' => bare (t ++ [d]) r') else bare (t ++ [c]) r
noncomputable def tok : List Nat → List Nat × List Nat
  | [] => ([], [])
  | c :: r => if isWs c then tok r else if c = 34 then quo [] r else if c = 92 then (match r with | [] => ([], []) | d :: r' => bare [d] r') else bare [c] r
noncomputable def TakeOK (a : LexA) (j : LexJ) : Prop :=
  ∀ (t : Tok) (cs : List Nat) (vs : List Value) (e : Nat), CharsAre vs cs → cs.length ≤ 2000 → Con prog w (hd2.heap_1 w.params) p loose mean mg mb 2 (.ref a.fn) ⟨[.int 1 t], []⟩ (fun _ => True)
    [(a.fn, { cls := .type "function", data := .func j.fd }), (a.c', j.oc), (a.cc, j.oC), (a.sg, listOf vs.toArray e)]
    (fun v nw' => Ex2 fun t' e' => v = .str ⟨(cs.take 1).toArray⟩ t' ∧ nw' = [(a.fn, { cls := .type "function", data := .func j.fd }), (a.c', j.oc), (a.cc, j.oC), (a.sg, listOf (vs.drop 1).toArray e')])
theorem perm_lex {lx dx pb y dy fn c cc sg P pb2 q : Addr × Obj} (h : q ∈ [lx, dx, pb, y, dy, fn, c, cc, sg] ++ [P]) : q ∈ [pb, lx, dx, pb2, y, dy, fn, c, sg, cc, P] := by
  simp only [List.mem_append, List.mem_cons, List.not_mem_nil, or_false] at h ⊢
  rcases h with (rfl | rfl | rfl | rfl | rfl | rfl | rfl | rfl | rfl) | rfl <;> simp
theorem lex_fin {C P : Addr} {g : Heap} {s : Shared} {R : Value → List (Addr × Obj) → Prop} {L' : Addr} {m' : Str → Option Value} {h' : Heap} {tk' : Nat}
   {lx dx pb y dy pb2 fn c' cc sg : Addr} {fd : FuncData} {oc oC oP : Obj} {u0 u1 u2 u3 r0 r1 r2 r3 r4 w0 w1 i1 tl : Tok} {vs : List Value} {e1 e2 e3 : Nat}
   (F : Fr g L' h' m') (N : News g L' h' [(pb, listOf #[] e1), (lx, instObj C dx), (dx, dictOf [⟨PyData.keyHash w.params (Str.ofString "lineno"), .str (Str.ofString "lineno") u0, .int 1 tl⟩, ⟨PyData.keyHash w.params (Str.ofString "instream"), .str (Str.ofString "instream") u1, .ref y⟩,
     ⟨PyData.keyHash w.params (Str.ofString "whitespace"), .str (Str.ofString "whitespace") u2, .str (Str.ofString "\n\t\x0d ") w0⟩, ⟨PyData.keyHash w.params (Str.ofString "pushback"), .str (Str.ofString "pushback") u3, .ref pb⟩] 4),
     (pb2, listOf #[] e3), (y, instObj C dy), (dy, dictOf [⟨PyData.keyHash w.params (Str.ofString "lineno"), .str (Str.ofString "lineno") r0, .int 1 i1⟩, ⟨PyData.keyHash w.params (Str.ofString "instream"), .str (Str.ofString "instream") r1, .none⟩,
     ⟨PyData.keyHash w.params (Str.ofString "whitespace"), .str (Str.ofString "whitespace") r2, .str (Str.ofString "\n\t\x0d ") w1⟩, ⟨PyData.keyHash w.params (Str.ofString "pushback"), .str (Str.ofString "pushback") r3, .ref pb2⟩,
     ⟨PyData.keyHash w.params (Str.ofString "read"), .str (Str.ofString "read") r4, .ref fn⟩] 5), (fn, { cls := .type "function", data := .func fd }), (c', oc), (sg, listOf vs.toArray e2), (cc, oC), (P, oP)])
   (hR : R (.ref lx) (lexLed w C ⟨lx, dx, pb, y, dy, pb2, fn, c', cc, sg⟩ ⟨fd, oc, oC, u0, u1, u2, u3, r0, r1, r2, r3, r4, w0, w1, i1⟩ 1 tl vs [] e1 e2 ++ [(P, oP)])) :
   Fin g s R (.ref lx) { s with heap := h', toks := tk' } := by
  exact fin_part F N (fun q hq => perm_lex hq) hR
theorem lexer_ok (x : Str) (t : Tok) (hx : x.cps.size ≤ 2000) : Con prog w (hd2.heap_1 w.params) p loose mean mg mb 10 (.ref 231) ⟨[.str x t], []⟩ (fun h => CodeHd h 230 226) [(226, tabObj #[])] (fun v news' =>
   Ex7 fun (a : LexA) (j : LexJ) (tl : Tok) (vs : List Value) (e1 e2 : Nat) (ps : Array Value) => And6 (v = .ref a.lx) (news' = lexLed w 76 a j 1 tl vs [] e1 e2 ++ [(226, tabObj ps)]) (a.chain) (@LT.lt Nat _ 226 a.cc) (CharsAre vs x.cps.toList) (TakeOK prog w p loose mean mg mb a j)) := by
  intro dp un gd outer A₀ base g s B O X T hpre hd hu
  k_dflt ((first | (refine' enterK (by k_asm) (by k_asm) (by k_asm) (by k_is) (by k_is) (by first | walk_at "my r" | lia) (by first | exact BindsTo.of_eq rfl | exact binds_K (Frag.In.keeps (by assumption) (Out.keep (by assumption))) rfl (by k_is) rfl rfl rfl | fail "enter: arguments") ?kBq77 (by decide) (by rfl) (by rfl) (by rfl) ?_; (case kBq77 => exact locs rfl); k_whole; intro Lq hq Fq Nq l1q; (try k_lt l1q); (try dsimp only); (try k_fold)) | walk_at "my enterC"))
  refine letPost ?_
  intro K1
  k_steps
  (try dsimp +zetaDelta only)
  refine' lex_fin w ?F ?N ?R
  (case F => k_asm)
  (case N => k_asm)
  refine ⟨_, _, _, _, _, _, _, rfl, rfl, ?ch, ?lt, ?cv, ?tk⟩
  case ch => unfold LexA.chain; dsimp only; (walk_at "my o")
  case lt => dsimp only; (walk_at "my o")
  case cv => assumption
  case tk =>
    unfold TakeOK
    (try dsimp only)
    intro t cs vs e hcs hlen dp un gd outer A₀ base g s B O X T hpre hd hu
    k_dflt ((refine' enterN (by k_asm) (by k_asm) (by k_mem) (by k_mem) (by assumption) (by assumption) (by first | walk_at "my r" | lia) (by exact BindsTo.of_eq rfl) (by exact locs rfl) (by decide) (by rfl) (by rfl) (by rfl) ?_; k_whole; intro Lq hq Fq Nq l1q; (try k_lt l1q); (try dsimp only); (try k_fold)))
    refine letPost ?_
    intro K1
    cases hcs with
    | nil =>
      k_steps
      (try dsimp only)
      (try dsimp +zetaDelta only)
      (refine' fin_tail (by k_asm) (by k_asm) ?_)
      exact ⟨_, _, rfl, rfl⟩
    | cons c u hcs =>
      have hl := hcs.length
      simp only [List.length_cons] at hlen
      k_steps
      (try dsimp only)
      (try dsimp +zetaDelta only)
      (refine' fin_tail (by k_asm) (by k_asm) ?_)
      exact ⟨_, _, rfl, rfl⟩
theorem nl_str : Str.ofString "\n" = ⟨#[10]⟩ := by decide +kernel
theorem nl_eq (c : Nat) (cs : List Nat) : (({ cps := ((c :: cs).take 1).toArray } : Str) == Str.ofString "\n") = decide (c = 10) := by
  rw [nl_str]
  simp only [List.take_succ_cons, List.take_zero]
  by_cases h : c = 10
  · subst h; rfl
  · rw [decide_eq_false h]
    simp [h]
theorem perm_read {lx dx pb y dy fn c cc sg q : Addr × Obj} (h : q ∈ [lx, dx, pb, y, dy, fn, c, cc, sg]) : q ∈ [fn, c, cc, sg, lx, dx, pb, y, dy] :=
  (List.mem_append.mp (show q ∈ [lx, dx, pb, y, dy] ++ [fn, c, cc, sg] from h)).elim (fun h => List.mem_append_right [fn, c, cc, sg] h) (fun h => List.mem_append_left _ h)
theorem read_fin {C : Addr} {g : Heap} {s : Shared} {R : Value → List (Addr × Obj) → Prop} {L' : Addr} {m' : Str → Option Value} {h' : Heap} {tk' : Nat} {v : Value}
   {a : LexA} {j : LexJ} {line : Int} {tl : Tok} {vs toks : List Value} {e1 e2 : Nat}
   (F : Fr g L' h' m') (N : News g L' h' [(a.fn, { cls := .type "function", data := .func j.fd }), (a.c', j.oc), (a.cc, j.oC), (a.sg, listOf vs.toArray e2), (a.lx, instObj C a.dx),
   (a.dx, dictOf [⟨PyData.keyHash w.params (Str.ofString "lineno"), .str (Str.ofString "lineno") j.u0, .int line tl⟩, ⟨PyData.keyHash w.params (Str.ofString "instream"), .str (Str.ofString "instream") j.u1, .ref a.y⟩,
     ⟨PyData.keyHash w.params (Str.ofString "whitespace"), .str (Str.ofString "whitespace") j.u2, .str (Str.ofString "\n\t\x0d ") j.w0⟩, ⟨PyData.keyHash w.params (Str.ofString "pushback"), .str (Str.ofString "pushback") j.u3, .ref a.pb⟩] 4),
   (a.pb, listOf toks.toArray e1),
   (a.y, instObj C a.dy),
   (a.dy, dictOf [⟨PyData.keyHash w.params (Str.ofString "lineno"), .str (Str.ofString "lineno") j.r0, .int 1 j.i1⟩, ⟨PyData.keyHash w.params (Str.ofString "instream"), .str (Str.ofString "instream") j.r1, .none⟩,
     ⟨PyData.keyHash w.params (Str.ofString "whitespace"), .str (Str.ofString "whitespace") j.r2, .str (Str.ofString "\n\t\x0d ") j.w1⟩, ⟨PyData.keyHash w.params (Str.ofString "pushback"), .str (Str.ofString "pushback") j.r3, .ref a.pb2⟩,
     ⟨PyData.keyHash w.params (Str.ofString "read"), .str (Str.ofString "read") j.r4, .ref a.fn⟩] 5)])
   (hR : R v (lexLed w C a j line tl vs toks e1 e2)) : Fin g s R v { s with heap := h', toks := tk' } := by
  exact fin_part F N (fun q hq => perm_read hq) hR
theorem read_apart {lx dx pb y dy fn c' cc sg : Addr} {o1 o2 o3 o4 o5 p1 p2 p3 p4 : Obj} (c1 : @LT.lt Nat _ cc sg) (c2 : @LT.lt Nat _ sg c') (c3 : @LT.lt Nat _ c' fn) (c4 : @LT.lt Nat _ fn dy) (c5 : @LT.lt Nat _ dy y) (c6 : @LT.lt Nat _ y dx) (c7 : @LT.lt Nat _ dx lx) (c8 : @LT.lt Nat _ lx pb) :
    ∀ r ∈ [(lx, o1), (dx, o2), (pb, o3), (y, o4), (dy, o5)], r ∈ [(lx, o1), (dx, o2), (pb, o3), (y, o4), (dy, o5), (fn, p1), (c', p2), (cc, p3), (sg, p4)] ∧ ∀ q ∈ [(fn, p1), (c', p2), (cc, p3), (sg, p4)], r.1 ≠ q.1 := by
  have d5 := Nat.lt_trans c4 c5
  have d6 := Nat.lt_trans d5 c6
  have d7 := Nat.lt_trans d6 c7
  have hi : ∀ r ∈ [(lx, o1), (dx, o2), (pb, o3), (y, o4), (dy, o5)], @LT.lt Nat _ fn r.1 := fun r hr => by
    simp only [List.mem_cons, List.not_mem_nil, or_false] at hr
    rcases hr with rfl | rfl | rfl | rfl | rfl
    · exact d7
    · exact d6
    · exact Nat.lt_trans d7 c8
    · exact d5
    · exact c4
  have lo : ∀ q ∈ [(fn, p1), (c', p2), (cc, p3), (sg, p4)], @LE.le Nat _ q.1 fn := fun q hq => by
    simp only [List.mem_cons, List.not_mem_nil, or_false] at hq
    rcases hq with rfl | rfl | rfl | rfl
    · exact Nat.le_refl _
    · exact Nat.le_of_lt c3
    · exact Nat.le_of_lt (Nat.lt_trans c1 (Nat.lt_trans c2 c3))
    · exact Nat.le_of_lt (Nat.lt_trans c2 c3)
  exact fun r hr => ⟨List.mem_append_left (as := [(lx, o1), (dx, o2), (pb, o3), (y, o4), (dy, o5)]) _ hr, fun q hq => Nat.ne_of_gt (Nat.lt_of_le_of_lt (lo q hq) (hi r hr))⟩
local macro_rules | `(tactic| walk_at "getMethod ref") => `(tactic| (k_here; (with_reducible show wpAny _ _ (getMethod (.ref _) (PySem.Str.ofString "read") _) _ _ _); k_dflt (refine' kmu_own (by k_asm) (by k_asm) (by k_inst) (by k_is) (by k_is) ?_; k_whole)))
theorem read_char_ok (a : LexA) (j : LexJ) (hTk : TakeOK prog w p loose mean mg mb a j) (hch : a.chain) (line : Int) (tl : Tok) (cs : List Nat) (vs toks : List Value) (e1 e2 : Nat) (hcs : CharsAre vs cs) (hlen : cs.length ≤ 2000) (hl0 : 0 ≤ line) (hl1 : line ≤ 4000) :
   Con prog w (hd2.heap_1 w.params) p loose mean mg mb 4 (.ref 59) ⟨[.ref a.lx], []⟩ (fun _ => True) (lexLed w 76 a j line tl vs toks e1 e2)
     (fun v nw' => Ex3 fun t' tl' e2' => v = .str ⟨(cs.take 1).toArray⟩ t' ∧ nw' = lexLed w 76 a j (if cs.head? = some 10 then line + 1 else line) tl' (vs.drop 1) toks e1 e2') := by
  obtain ⟨lx, dx, pb, y, dy, pb2, fn, c', cc, sg⟩ := a
  obtain ⟨fd, oc, oC, u0, u1, u2, u3, r0, r1, r2, r3, r4, w0, w1, i1⟩ := j
  unfold LexA.chain at hch
  dsimp only at hch
  obtain ⟨c1, c2, c3, c4, c5, c6, c7, c8⟩ := hch
  intro dp un gd outer A₀ base g s B O X T hpre hd hu
  dsimp only [lexLed] at O
  k_dflt ((first | (refine' enterK (by k_asm) (by k_asm) (by k_asm) (by k_is) (by k_is) (by first | walk_at "my r" | lia) (by first | exact BindsTo.of_eq rfl | exact binds_K (Frag.In.keeps (by assumption) (Out.keep (by assumption))) rfl (by k_is) rfl rfl rfl | fail "enter: arguments") ?kBq18 (by decide) (by rfl) (by rfl) (by rfl) ?_; (case kBq18 => exact locs rfl); k_whole; intro Lq hq Fq Nq l1q; (try k_lt l1q); (try dsimp only); (try k_fold)) | walk_at "my enterC"))
  refine letPost ?_
  intro K1
  k_steps
  (k_dflt (refine' Con.use (hTk _ cs vs e2 hcs hlen) [(lx, _), (dx, _), (pb, _), (y, _), (dy, _)] ?zB5 ?zF5 ?zX5 ?zN5 ?zT5 ?zA5 ?zf5 ?zk5 ?zd5 ?zu5 (fun q hq => List.mem_append_right [(lx, _), (dx, _), (pb, _), (y, _), (dy, _)] hq) (read_apart c1 c2 c3 c4 c5 c6 c7 c8) ?zpre5 ?_); (case zB5 => k_asm); (case zF5 => k_asm); (case zX5 => k_asm); (case zN5 => k_asm); (case zT5 => k_asm); (case zA5 => exact rfl); (case zf5 => exact rfl); (case zk5 => exact rfl); (case zd5 => k_room); (case zu5 => k_units); (case zpre5 => first | exact trivial | skip))
  intro v h' tk' nw' F' N' zg56 zg57
  refine letGoal ?_
  intro Gz
  obtain ⟨t', e', rfl, rfl⟩ := zg56
  clear zg57
  dsimp only [Gz]
  clear Gz
  dsimp only [List.cons_append, List.nil_append] at N'
  cases hcs with
  | nil =>
    k_steps
    (try dsimp only)
    (try dsimp +zetaDelta only)
    refine' read_fin w (a := ⟨_, _, _, _, _, _, _, _, _, _⟩) (j := ⟨_, _, _, _, _, _, _, _, _, _, _, _, _, _, _⟩) ?F ?N ?R
    (case F => k_asm)
    (case N => k_asm)
    exact ⟨_, _, _, rfl, rfl⟩
  | @cons vs' cs' c u hcs =>
    k_steps
    all_goals (try dsimp only)
    · have hb : (({ cps := ((c :: cs').take 1).toArray } : Str) == Str.ofString "\n") = true := by assumption
      rw [nl_eq] at hb
      have hb' : c = 10 := of_decide_eq_true hb
      subst hb'
      (try dsimp +zetaDelta only)
      refine' read_fin w (a := ⟨_, _, _, _, _, _, _, _, _, _⟩) (j := ⟨_, _, _, _, _, _, _, _, _, _, _, _, _, _, _⟩) ?F1 ?N1 ?R1
      (case F1 => k_asm)
      (case N1 => k_asm)
      exact ⟨_, _, _, rfl, rfl⟩
    · have hb : (({ cps := ((c :: cs').take 1).toArray } : Str) == Str.ofString "\n") = false := by assumption
      rw [nl_eq] at hb
      have hb' : ¬ c = 10 := of_decide_eq_false hb
      (try dsimp +zetaDelta only)
      refine' read_fin w (a := ⟨_, _, _, _, _, _, _, _, _, _⟩) (j := ⟨_, _, _, _, _, _, _, _, _, _, _, _, _, _, _⟩) ?F2 ?N2 ?R2
      (case F2 => k_asm)
      (case N2 => k_asm)
      have e0 : (if (c :: cs').head? = some 10 then line + 1 else line) = line := if_neg (by simpa using hb')
      rw [e0]
      exact ⟨_, _, _, rfl, rfl⟩
noncomputable def LexA.keys (a : LexA) : List Addr := [a.lx, a.dx, a.pb, a.y, a.dy, a.fn, a.c', a.cc, a.sg]
theorem lexLed_keys {C : Addr} {a : LexA} {j : LexJ} {line : Int} {tl : Tok} {vs toks : List Value} {e1 e2 : Nat} {q : Addr × Obj} (hq : q ∈ lexLed w C a j line tl vs toks e1 e2) : q.1 ∈ a.keys :=
  List.mem_map_of_mem (f := Prod.fst) hq
theorem next_read {A A₀ : Around} {dp un : Nat} {gd : Option (List Code)} {env : Env} {outer : List Env} {base g : Heap} {L : Addr} {m : Str → Option Value} {s : Shared} {Q : Option Value → Shared → Prop} {E : Value → Shared → Prop}
   {a : LexA} {j : LexJ} {line : Int} {tl te : Tok} {cs : List Nat} {vs toks : List Value} {e1 e2 : Nat} {it mth : Addr}
   (hTk : TakeOK prog w p loose mean mg mb a j) (hch : a.chain) (hcs : CharsAre vs cs) (hlen : cs.length ≤ 2000) (hl0 : 0 ≤ line) (hl1 : line ≤ 4000)
   (B : Below A₀ base outer g) (F : Fr g L s.heap m) (X : (hd2.heap_1 w.params).In g) (T : Top p loose mean mg mb g)
   (N : News g L s.heap ((it, cit (.ref mth) (.str Str.empty te) false) :: (mth, methodObj (.ref 59) (.ref a.lx)) :: lexLed w 76 a j line tl vs toks e1 e2))
   (hne : ∀ q ∈ a.keys, it ≠ q ∧ mth ≠ q) (hne2 : it ≠ mth)
   (hA : A.in1 = { handled := none, depth := dp, frames := some (env :: outer), guards := gd, units := un }) (hf : env.frame = some L) (hke : env.scope.kind = .function)
   (hd : dp + 4 < recursionLimit) (hu : un + 16 * 4 < cLine)
   (hend : cs = [] → ∀ h' tk' tl' e2', Fr g L h' m → News g L h' ((it, cit .none .none true) :: (mth, methodObj (.ref 59) (.ref a.lx)) :: lexLed w 76 a j line tl' [] toks e1 e2') → Q none { s with heap := h', toks := tk' })
   (hgo : ∀ c r, cs = c :: r → ∀ h' tk' tl' e2' t', Fr g L h' m → News g L h' ((it, cit (.ref mth) (.str Str.empty te) false) :: (mth, methodObj (.ref 59) (.ref a.lx)) :: lexLed w 76 a j (if c = 10 then line + 1 else line) tl' (vs.drop 1) toks e1 e2') →
      Q (some (.str ⟨#[c]⟩ t')) { s with heap := h', toks := tk' }) :
   wpAny (model prog w) A (pyNext (.ref it)) Q E s := by
  have h1 := N _ (.head _)
  have h2 := N _ (.tail _ (.head _))
  have hK := F.keep _ _ (X 59 _ (by k_is))
  have hh : A.handled = none := by have := congrArg Around.handled hA; exact this
  refine next_cit hh h1.1 h2.1 hK rfl ?_
  refine (read_char_ok prog w p loose mean mg mb a j hTk hch line tl cs vs toks e1 e2 hcs hlen hl0 hl1).code [(it, cit (.ref mth) (.str Str.empty te) false), (mth, methodObj (.ref 59) (.ref a.lx))] B F X N T hA hf hke hd hu (fun q hq => .tail _ (.tail _ hq)) ?_ trivial ?_
  · intro r hr
    simp only [List.mem_cons, List.not_mem_nil, or_false] at hr
    rcases hr with rfl | rfl
    · exact ⟨.head _, fun q hq => (hne q.1 (lexLed_keys w hq)).1⟩
    · exact ⟨.tail _ (.head _), fun q hq => (hne q.1 (lexLed_keys w hq)).2⟩
  · intro v h' tk' nw' F' N' zg110 hk
    refine letGoal ?_
    intro Gz
    obtain ⟨t', tl', e2', rfl, rfl⟩ := zg110
    dsimp only [Gz]
    clear Gz
    have g1 := N' (it, _) (List.mem_append_right _ (.head _))
    have g2 := N' (mth, _) (List.mem_append_right _ (.tail _ (.head _)))
    refine ⟨_, t', rfl, g1.1, g2.1, F'.keep _ _ (X 59 _ (by k_is)), fun hc h'' e1' e2'' => ?_, fun hc => ?_⟩
    · cases cs with
      | cons c r => exact absurd hc (by simp [Str.empty])
      | nil =>
        cases hcs
        refine hend rfl h'' tk' tl' e2' ⟨F'.ns.at' fun o e => e2'' _ _ (Ne.symm g1.2.1) e, fun b o e => e2'' b o (fun q => ?_) (F'.keep b o e), F'.above⟩ ?_
        · rw [q, g1.2.2] at e; cases e
        · intro q hq
          rcases List.mem_cons.mp hq with rfl | hq
          · exact ⟨e1', g1.2⟩
          · rcases List.mem_cons.mp hq with rfl | hq
            · exact ⟨e2'' _ _ (Ne.symm hne2) g2.1, g2.2⟩
            · have z := N' q (List.mem_append_left _ hq)
              exact ⟨e2'' _ _ (fun q' => (hne q.1 (lexLed_keys w hq)).1 q'.symm) z.1, z.2⟩
    · cases cs with
      | nil => exact absurd rfl hc
      | cons c r =>
        have e0 : (if (c :: r).head? = some 10 then line + 1 else line) = (if c = 10 then line + 1 else line) := by simp
        rw [e0] at N'
        refine hgo c r rfl h' tk' tl' e2' t' F' fun q hq => ?_
        rcases List.mem_cons.mp hq with rfl | hq
        · exact g1
        · rcases List.mem_cons.mp hq with rfl | hq
          · exact g2
          · exact N' q (List.mem_append_left _ hq)
section FOR
local macro_rules | `(tactic| walk_at "exec For Name Name cons nil") => `(tactic| (k_here; k_dflt (refine for_stmt (by intro _; rfl) ?_)))
local macro_rules | `(tactic| walk_at "eval Name") => `(tactic| (k_here; k_dflt (refine' nameX_L (by k_asm) (by assumption) ?_; k_whole)))
noncomputable abbrev GLed (w : World) (it mth : Addr) (a : LexA) (j : LexJ) (line : Int) (tl te : Tok) (vs : List Value) (e1 e2 : Nat) : List (Addr × Obj) :=
  (it, cit (.ref mth) (.str Str.empty te) false) :: (mth, methodObj (.ref 59) (.ref a.lx)) :: lexLed w 76 a j line tl vs [] e1 e2
noncomputable abbrev GEnd (w : World) (it mth : Addr) (a : LexA) (j : LexJ) (line : Int) (tl : Tok) (e1 e2 : Nat) : List (Addr × Obj) :=
  (it, cit .none .none true) :: (mth, methodObj (.ref 59) (.ref a.lx)) :: lexLed w 76 a j line tl [] [] e1 e2
local macro_rules | `(tactic| walk_at "letOwnedTupleGo Name ref str") => `(tactic| (k_here; (show wpAny _ _ (pure ()) _ _ _); refine wpAny_pure ?_; k_whole))
/-- what a turn of get_token's loops keeps: F tells what is still to come -/
noncomputable def GInv (w : World) (it mth : Addr) (a : LexA) (j : LexJ) (te : Tok) (e1 : Nat) (cs0 : List Nat) (line0 : Int) (F : List Nat → List Nat → Prop) (n : Nat) (m : Str → Option Value) (nw : List (Addr × Obj)) : Prop :=
  Ex7 fun (t cs : List Nat) (vs : List Value) (line : Int) (tl tt : Tok) (e2 : Nat) => And13 (n = cs.length + 1) (m (Str.ofString "self") = some (.ref a.lx)) (m (Str.ofString "fiter") = some (.ref it)) (m (Str.ofString "token") = some (.str ⟨t.toArray⟩ tt)) (CharsAre vs cs) (nw = GLed w it mth a j line tl te vs e1 e2) (F t cs) (line + (cs.count 10 : Int) = line0 + (cs0.count 10 : Int)) (0 ≤ line) (line + cs.length ≤ 2000) (t.length + cs.length ≤ 1000) ((∀ q ∈ a.keys, it ≠ q ∧ mth ≠ q)) (it ≠ mth)
noncomputable def GOver (w : World) (it mth : Addr) (a : LexA) (j : LexJ) (e1 : Nat) (cs0 : List Nat) (line0 : Int) (m : Str → Option Value) (nw : List (Addr × Obj)) : Prop :=
  Ex5 fun (t : List Nat) (line : Int) (tl tt : Tok) (e2 : Nat) => And6 (m (Str.ofString "self") = some (.ref a.lx)) (m (Str.ofString "fiter") = some (.ref it)) (m (Str.ofString "token") = some (.str ⟨t.toArray⟩ tt)) (nw = GEnd w it mth a j line tl e1 e2) (tok cs0 = (t, [])) (line = line0 + (cs0.count 10 : Int)) 
noncomputable def GOut (w : World) (it mth : Addr) (a : LexA) (j : LexJ) (te : Tok) (e1 : Nat) (cs0 : List Nat) (line0 : Int) (F : List Nat → List Nat → Prop) (n : Nat) (m : Str → Option Value) (nw : List (Addr × Obj)) : Prop :=
  (n = 0 ∧ GOver w it mth a j e1 cs0 line0 m nw) ∨ GInv w it mth a j te e1 cs0 line0 F n m nw
local macro_rules | `(tactic| walk_at "call ref") => `(tactic| ((with_reducible show wpAny _ _ (call (.ref 59) _) _ _ _); refine stopI ?_))
local macro_rules | `(tactic| walk_at "loadName") => `(tactic| (k_here; k_dflt (refine' wpAny_loadName_local (by rfl) (by rfl) (Fr.ns (by k_asm)) (by assumption) ?_; k_whole)))
theorem one_eq (c : Nat) (x : Str) (d : Nat) (hx : x = ⟨#[d]⟩) : (({ cps := #[c] } : Str) == x) = decide (c = d) := by
  subst hx
  by_cases h : c = d
  · subst h; rw [decide_eq_true rfl]; exact beq_self_eq_true _
  · rw [decide_eq_false h]
    simp [h]
theorem q34 : (Str.ofString "\"") = ⟨#[34]⟩ := by decide +kernel
theorem q92 : (Str.ofString "\\") = ⟨#[92]⟩ := by decide +kernel
theorem ws_occ (c : Nat) : (Builtin.Str.occurrences (Str.ofString "\n\t\x0d ") { cps := #[c] } 0 (Str.ofString "\n\t\x0d ").length 1).isEmpty = !isWs c := by
  rw [empty_one]
  have e : (Str.ofString "\n\t\x0d ").cps.toList = [10, 9, 13, 32] := by decide +kernel
  rw [e]
  unfold isWs
  simp [Bool.or_assoc]
  rfl
theorem ws_t {c : Nat} (h : (Builtin.Str.occurrences (Str.ofString "\n\t\x0d ") { cps := #[c] } 0 (Str.ofString "\n\t\x0d ").length 1).isEmpty = true) : isWs c = false := by
  rw [ws_occ] at h; simpa using h
theorem ws_f {c : Nat} (h : (Builtin.Str.occurrences (Str.ofString "\n\t\x0d ") { cps := #[c] } 0 (Str.ofString "\n\t\x0d ").length 1).isEmpty = false) : isWs c = true := by
  rw [ws_occ] at h; simpa using h
theorem q34_t {c : Nat} (h : (({ cps := #[c] } : Str) == Str.ofString "\"") = true) : c = 34 := of_decide_eq_true (one_eq c _ 34 q34 ▸ h)
theorem q34_f {c : Nat} (h : (({ cps := #[c] } : Str) == Str.ofString "\"") = false) : c ≠ 34 := of_decide_eq_false (one_eq c _ 34 q34 ▸ h)
theorem q92_t {c : Nat} (h : (({ cps := #[c] } : Str) == Str.ofString "\\") = true) : c = 92 := of_decide_eq_true (one_eq c _ 92 q92 ▸ h)
theorem q92_f {c : Nat} (h : (({ cps := #[c] } : Str) == Str.ofString "\\") = false) : c ≠ 92 := of_decide_eq_false (one_eq c _ 92 q92 ▸ h)
theorem count_step {c : Nat} {r : List Nat} {line line0 : Int} {k : Int} (h : line + ((c :: r).count 10 : Int) = k) : (if c = 10 then line + 1 else line) + (r.count 10 : Int) = k := by
  rw [List.count_cons] at h
  by_cases hc : c = 10
  · subst hc; simp at h ⊢; (walk_at "my o")
  · simp [hc] at h ⊢; (walk_at "my o")
theorem line_step {c : Nat} {line : Int} {n : Nat} (h0 : 0 ≤ line) (h : line + (n + 1 : Nat) ≤ 2000) : 0 ≤ (if c = 10 then line + 1 else line) ∧ (if c = 10 then line + 1 else line) + n ≤ 2000 := by
  split <;> (walk_at "my o")
theorem str_push (t : List Nat) (c : Nat) : ({ cps := t.toArray } : Str) ++ { cps := #[c] } = { cps := (t ++ [c]).toArray } := by
  show Str.mk _ = _
  simp
theorem str_push0 (t : List Nat) : ({ cps := t.toArray } : Str) ++ { cps := #[] } = { cps := t.toArray } := by
  show Str.mk _ = _
  simp
theorem str_pushL (t r : List Nat) : ({ cps := t.toArray } : Str) ++ { cps := r.toArray } = { cps := (t ++ r).toArray } := by
  show Str.mk _ = _
  simp
theorem str_nilL (r : List Nat) : ({ cps := #[] } : Str) ++ { cps := r.toArray } = { cps := r.toArray } := by
  show Str.mk _ = _
  simp
theorem quo_end (t r : List Nat) : quo t (34 :: r) = (t, r) := by cases r <;> simp [quo]
theorem quo_esc0 (t : List Nat) : quo t [92] = (t, []) := by simp [quo]
theorem quo_esc (t : List Nat) (d : Nat) (r : List Nat) : quo t (92 :: d :: r) = quo (t ++ [d]) r := by simp [quo]
theorem quo_go (t : List Nat) {c : Nat} (r : List Nat) (h1 : c ≠ 34) (h2 : c ≠ 92) : quo t (c :: r) = quo (t ++ [c]) r := by cases r <;> simp [quo, h1, h2]
theorem quo_nil (t : List Nat) : quo t [] = (t, []) := by simp [quo]
theorem bare_nil (t : List Nat) : bare t [] = (t, []) := by simp [bare]
theorem bare_end (t r : List Nat) {c : Nat} (h : isWs c = true) : bare t (c :: r) = (t, r) := by cases r <;> simp [bare, h]
theorem bare_esc0 (t : List Nat) : bare t [92] = (t, []) := by simp [bare, isWs]
theorem bare_esc (t : List Nat) (d : Nat) (r : List Nat) : bare t (92 :: d :: r) = bare (t ++ [d]) r := by simp [bare, isWs]
theorem bare_go (t : List Nat) {c : Nat} (r : List Nat) (h1 : isWs c = false) (h2 : c ≠ 92) : bare t (c :: r) = bare (t ++ [c]) r := by cases r <;> simp [bare, h1, h2]
theorem quo_escL (t r : List Nat) : quo t (92 :: r) = quo (t ++ r.take 1) (r.drop 1) := by cases r <;> simp [quo_esc0, quo_nil, quo_esc]
theorem bare_escL (t r : List Nat) : bare t (92 :: r) = bare (t ++ r.take 1) (r.drop 1) := by cases r <;> simp [bare_esc0, bare_nil, bare_esc]
theorem tok_escL (r : List Nat) : tok (92 :: r) = bare (r.take 1) (r.drop 1) := by cases r <;> simp [tok, isWs, bare]
theorem len_step {t r : List Nat} (h : t.length + r.length + 1 ≤ 1000) : (t ++ r.take 1).length + (r.drop 1).length ≤ 1000 := by
  rw [List.length_append, Nat.add_assoc, ← List.length_append, List.take_append_drop]
  exact Nat.le_of_succ_le h
theorem drop_lt {r : List Nat} {n : Nat} (h : r.length + 1 < n) : (r.drop 1).length + 1 < n := Nat.lt_of_le_of_lt (Nat.succ_le_succ (List.length_drop ▸ Nat.sub_le _ _)) h
theorem esc_step {vs : List Value} {r : List Nat} {line k : Int} (hcs : CharsAre vs r) (hl : line + (r.count 10 : Int) = k) (h0 : 0 ≤ line) (h1 : line + r.length ≤ 2000) :
    CharsAre (vs.drop 1) (r.drop 1) ∧ (if r.head? = some 10 then line + 1 else line) + ((r.drop 1).count 10 : Int) = k ∧ 0 ≤ (if r.head? = some 10 then line + 1 else line) ∧ (if r.head? = some 10 then line + 1 else line) + (r.drop 1).length ≤ 2000 := by
  cases hcs with
  | nil => exact ⟨.nil, hl, h0, h1⟩
  | @cons vs r c t h =>
    have e0 : (if (c :: r).head? = some 10 then line + 1 else line) = (if c = 10 then line + 1 else line) := by simp
    rw [e0]
    exact ⟨h, count_step (line0 := 0) hl, line_step h0 h1⟩
theorem News.swap {g h : Heap} {L : Addr} {a b : List (Addr × Obj)} (N : News g L h (a ++ b)) : News g L h (b ++ a) := fun q hq => N q (List.mem_append.mpr (List.mem_append.mp hq).symm)
/-- the invariant anew -/
theorem GOut.go {w : World} {it mth : Addr} {a : LexA} {j : LexJ} {te : Tok} {e1 e2 : Nat} {cs0 cs t : List Nat} {vs : List Value} {line0 line : Int} {tl tt : Tok} {x : Str} {F : List Nat → List Nat → Prop} {m : Str → Option Value}
    (hs : m (Str.ofString "self") = some (.ref a.lx)) (hf : m (Str.ofString "fiter") = some (.ref it)) (ht : m (Str.ofString "token") = some (.str x tt)) (hx : x = ⟨t.toArray⟩) (hcs : CharsAre vs cs) (hF : F t cs)
    (hline : line + (cs.count 10 : Int) = line0 + (cs0.count 10 : Int)) (h0 : 0 ≤ line) (h1 : line + cs.length ≤ 2000) (hl : t.length + cs.length ≤ 1000) (hne : ∀ q ∈ a.keys, it ≠ q ∧ mth ≠ q) (hne2 : it ≠ mth) :
    GOut w it mth a j te e1 cs0 line0 F (cs.length + 1) m (GLed w it mth a j line tl te vs e1 e2) := by
  subst hx
  exact .inr ⟨t, cs, vs, line, tl, tt, e2, rfl, hs, hf, ht, hcs, rfl, hF, hline, h0, h1, hl, hne, hne2⟩
theorem GOut.over {w : World} {it mth : Addr} {a : LexA} {j : LexJ} {te : Tok} {e1 : Nat} {cs0 : List Nat} {line0 : Int} {F : List Nat → List Nat → Prop} {m : Str → Option Value} {nw : List (Addr × Obj)}
    (h : GOver w it mth a j e1 cs0 line0 m nw) : GOut w it mth a j te e1 cs0 line0 F 0 m nw := .inl ⟨rfl, h⟩
theorem gt_rest {C : Addr} {a : LexA} {j : LexJ} {line : Int} {tl : Tok} {vs toks : List Value} {e1 e2 : Nat} {it mth : Addr} {oi om : Obj} (hne : ∀ q ∈ a.keys, it ≠ q ∧ mth ≠ q) : ∀ r ∈ [(it, oi), (mth, om)], r ∈ (it, oi) :: (mth, om) :: lexLed w C a j line tl vs toks e1 e2 ∧ ∀ q ∈ lexLed w C a j line tl vs toks e1 e2, r.1 ≠ q.1 := by
  intro r hr
  simp only [List.mem_cons, List.not_mem_nil, or_false] at hr
  rcases hr with rfl | rfl
  · exact ⟨.head _, fun q hq => (hne q.1 (lexLed_keys w hq)).1⟩
  · exact ⟨.tail _ (.head _), fun q hq => (hne q.1 (lexLed_keys w hq)).2⟩
theorem loop_ledP {A : Around} {s : Shared} {env : Env} {target : PySem.Expr} {it : Value} {body : List Stmt} {g : Heap} {m : Str → Option Value} {nw : List (Addr × Obj)} {Q : Flow → Shared → Prop} (I : Nat → (Str → Option Value) → List (Addr × Obj) → Prop) (n : Nat)
    (F : Fr g env.locals s.heap m) (N : News g env.locals s.heap nw) (h0 : I n m nw)
    (turn : ∀ n m nw h tk, Fr g env.locals h m → News g env.locals h nw → I n m nw → ∀ P : Flow → Shared → Prop, (∀ f s', LoopEnd g env.locals s I n Q f s' → P f s') → wpAny (model prog w) A (pyNext it) (fun r s1 => match r with
      | none => Q .next s1
      | some v => wpAny (model prog w) A (letOwnedTupleGo target it v) (fun _ s1' => wpAny (model prog w) A (assign target env v) (fun _ s2 => wpAny (model prog w) A (execs body env) P (fun _ _ => False) s2) (fun _ _ => False) s1') (fun _ _ => False) s1)
      (fun _ _ => False) { s with heap := h, toks := tk }) : codeAny (model prog w) A (.forLoop target it body [] env) (Fl Q) s :=
  loop_led I n F N h0 fun n m nw h tk F N hI => turn n m nw h tk F N hI _ fun _ _ x => x
theorem gt_turn {A A₀ : Around} {dp un : Nat} {gd : Option (List Code)} {env : Env} {outer : List Env} {base g : Heap} {L : Addr} {m : Str → Option Value} {s : Shared} {Q : Option Value → Shared → Prop} {E : Value → Shared → Prop}
   {a : LexA} {j : LexJ} {te : Tok} {e1 : Nat} {cs0 : List Nat} {line0 : Int} {FF : List Nat → List Nat → Prop} {n : Nat} {nw : List (Addr × Obj)} {it mth : Addr}
   (hI : GOut w it mth a j te e1 cs0 line0 FF n m nw) (hTk : TakeOK prog w p loose mean mg mb a j) (hch : a.chain)
   (B : Below A₀ base outer g) (F : Fr g L s.heap m) (X : (hd2.heap_1 w.params).In g) (T : Top p loose mean mg mb g) (N : News g L s.heap nw)
   (hA : A.in1 = { handled := none, depth := dp, frames := some (env :: outer), guards := gd, units := un }) (hf : env.frame = some L) (hke : env.scope.kind = .function)
   (hd : dp + 4 < recursionLimit) (hu : un + 16 * 4 < cLine)
   (hFF : ∀ t, FF t [] → tok cs0 = (t, []))
   (hend : ∀ t line tl tt e2 h' tk', m (Str.ofString "self") = some (.ref a.lx) → m (Str.ofString "fiter") = some (.ref it) → m (Str.ofString "token") = some (.str ⟨t.toArray⟩ tt) → tok cs0 = (t, []) → line = line0 + (cs0.count 10 : Int) → Fr g L h' m → News g L h' (GEnd w it mth a j line tl e1 e2) → Q none { s with heap := h', toks := tk' })
   (hgo : ∀ t c r vs line tl tt e2 t' h' tk', r.length + 1 < n → m (Str.ofString "self") = some (.ref a.lx) → m (Str.ofString "fiter") = some (.ref it) → m (Str.ofString "token") = some (.str ⟨t.toArray⟩ tt) → FF t (c :: r) → CharsAre vs r → line + (r.count 10 : Int) = line0 + (cs0.count 10 : Int) → 0 ≤ line → line + r.length ≤ 2000 → t.length + r.length + 1 ≤ 1000 → (∀ q ∈ a.keys, it ≠ q ∧ mth ≠ q) → it ≠ mth → Fr g L h' m → News g L h' (GLed w it mth a j line tl te vs e1 e2) →
      Q (some (.str ⟨#[c]⟩ t')) { s with heap := h', toks := tk' }) :
   wpAny (model prog w) A (pyNext (.ref it)) Q E s := by
  refine letGoal ?_
  intro Gz
  refine letGoal ?_
  intro Gz
  rcases hI with ⟨rfl, t, line', tl', tt, e2', hs, hf', ht, rfl, htok, hline⟩ | ⟨t, cs', vs', line', tl', tt, e2', rfl, hs, hf', ht, hcs', rfl, hF, hline, hb0, hb1, hbl, hne, hne2⟩
  all_goals (dsimp only [Gz]; clear Gz)
  · dsimp only [Gz]
    clear Gz
    exact next_over (by have := congrArg Around.handled hA; exact this) F N (.head _) fun h' F N => hend t line' tl' tt e2' h' s.toks hs hf' ht htok hline F N
  · dsimp only [Gz]
    clear Gz
    refine next_read prog w p loose mean mg mb (cs := cs') hTk hch hcs' (by (walk_at "my o")) hb0 (by (walk_at "my o")) B F X T N hne hne2 hA hf hke hd hu ?_ ?_
    · intro e h' tk' tl2 e2 F' N'
      exact hend t line' tl2 tt e2 h' tk' hs hf' ht (hFF t (e ▸ hF)) (by rw [e] at hline; simpa using hline) F' N'
    · intro c r e h' tk' tl2 e2 t' F' N'
      subst e
      cases hcs' with | @cons vs2 _ _ u0 hcs2 =>
      have hb := line_step (c := c) (n := r.length) hb0 hb1
      exact hgo t c r vs2 _ tl2 tt e2 t' h' tk' (Nat.lt_succ_self _) hs hf' ht hF hcs2 (count_step (line0 := 0) hline) hb.1 hb.2 hbl hne hne2 F' N'
theorem get_token_ok (a : LexA) (j : LexJ) (hTk : TakeOK prog w p loose mean mg mb a j) (hch : a.chain) (line : Int) (tl : Tok) (cs : List Nat) (vs : List Value) (e1 e2 : Nat) (hcs : CharsAre vs cs) (hlen : cs.length ≤ 1000) (hl0 : 0 ≤ line) (hl1 : line + cs.length ≤ 2000) :
   Con prog w (hd2.heap_1 w.params) p loose mean mg mb 6 (.ref 66) ⟨[.ref a.lx], []⟩ (fun _ => True) (lexLed w 76 a j line tl vs [] e1 e2)
     (fun v nw' => Ex5 fun t' tl' e2' vs' line' => And4 (v = .str ⟨(tok cs).1.toArray⟩ t') (CharsAre vs' (tok cs).2) (line' + ((tok cs).2.count 10 : Int) = line + (cs.count 10 : Int)) (nw' = lexLed w 76 a j line' tl' vs' [] e1 e2')) := by
  have hch0 := hch
  unfold LexA.chain at hch
  obtain ⟨c1, c2, c3, c4, c5, c6, c7, c8⟩ := hch
  intro dp un gd outer A₀ base g s B O X T hpre hd hu
  k_dflt ((first | (refine' enterK (by k_asm) (by k_asm) (by k_asm) (by k_is) (by k_is) (by first | walk_at "my r" | lia) (by first | exact BindsTo.of_eq rfl | exact binds_K (Frag.In.keeps (by assumption) (Out.keep (by assumption))) rfl (by k_is) rfl rfl rfl | fail "enter: arguments") ?kBq82 (by decide) (by rfl) (by rfl) (by rfl) ?_; (case kBq82 => exact locs rfl); k_whole; intro Lq hq Fq Nq l1q; (try k_lt l1q); (try dsimp only); (try k_fold)) | walk_at "my enterC"))
  refine gen_wp fun K1 hK1 => ?_
  k_steps
  rename_i tk0 h0 q' hq' lq it' h1' l1' h2' F2' N2'
  refine pyIter_cit (N2' _ (.head _)).1 ?_
  refine' loop_ledP prog w (GOut w it' q' a j (tk0 + 1 + 1 + 1) e1 cs line (fun t r => t = [] ∧ tok r = tok cs)) (cs.length + 1) ?F ?N ?h0 ?turn
  (case F => exact F2')
  (case N => exact N2')
  (case h0 =>
    refine .inr ⟨[], cs, vs, line, tl, _, e2, rfl, rfl, rfl, rfl, hcs, rfl, ⟨rfl, rfl⟩, rfl, hl0, hl1, by simpa using hlen, ?ne1, ?ne2⟩
    case ne1 =>
      simp only [LexA.keys, List.mem_cons, List.not_mem_nil, or_false]
      rintro q (rfl | rfl | rfl | rfl | rfl | rfl | rfl | rfl | rfl) <;> constructor <;> (refine neN ?_; (walk_at "my o"))
    case ne2 => (refine (neN ?_).symm; (walk_at "my o")))
  clear F2' N2'
  intro n m nw h tk F N hI P1 hP1
  refine' gt_turn prog w p loose mean mg mb hI hTk hch0 ?Bam F ?Bbm ?Bcm N rfl rfl rfl ?Bdm ?Bem ?hFFm ?hendm ?hgom
  (case Bam => k_asm)
  (case Bbm => k_asm)
  (case Bcm => k_asm)
  (case Bdm => k_room)
  (case Bem => k_units)
  (case hFFm => rintro t ⟨rfl, e⟩; rw [← e]; rfl)
  case hendm =>
    intro t line' tl' tt e2' h' tk' hs hf ht htok3 hline F' N'
    clear F N
    (try dsimp only)
    k_steps
    (try dsimp only)
    (first | refine hK1 _ _ ?_ | (refine hP1 _ _ ?_; dsimp only [LoopEnd]; refine hK1 _ _ ?_) | (refine hP2 _ _ ?_; dsimp only [LoopEnd]; refine hP1 _ _ ?_; dsimp only [LoopEnd]; refine hK1 _ _ ?_)); (try dsimp only)
    refine' fin_part ?Frn ?Nrn ?srn ?Rrn
    (case Frn => k_asm)
    (case Nrn => k_asm)
    (case srn => intro q hq; exact .tail _ (.tail _ hq))
    rw [htok3]
    exact ⟨_, _, _, _, _, rfl, .nil, by simpa using hline, rfl⟩
  case hgom =>
    intro t c r vs2 line2 tl2 tt e2' t' h' tk' hn hs hf ht htok3 hcs2 hln hb2 hb3 hbl hne hne2 F' N'
    clear F N
    have htok := htok3.2
    have ht0 := htok3.1
    subst ht0
    clear htok3
    (try dsimp only)
    refine' (fun (bareL : ∀ (n0 : Nat) (h : Heap) (tk : Nat) (m : Str → Option Value) (nw : Led), Fr g _ h m → News g _ h nw → GOut w it' q' a j (tk0 + 1 + 1 + 1) e1 cs line (fun t x => bare t x = tok cs) n0 m nw → codeAny (model prog w) _ (.forLoop _ (.ref it') _ [] _) (Fl _) { s with heap := h, toks := tk }) => ?main) ?bl
    case main =>
      k_steps
      · have hq := q34_t (c := c) (by assumption)
        subst hq
        refine pyIter_cit ((by assumption : News _ _ _ _) _ (.head _)).1 ?_
        refine' loop_ledP prog w (GOut w it' q' a j (tk0 + 1 + 1 + 1) e1 cs line (fun t x => quo t x = tok cs)) (r.length + 1) ?Fq ?Nq ?hq ?turnq
        (case Fq => k_asm)
        (case Nq => k_asm)
        (case hq => exact GOut.go (t := []) (by (first | rfl | assumption | (dsimp only; (repeat rw [if_neg (by decide)]); first | rfl | assumption) | with_unfolding_all assumption)) (by (first | rfl | assumption | (dsimp only; (repeat rw [if_neg (by decide)]); first | rfl | assumption) | with_unfolding_all assumption)) (by (first | rfl | assumption | (dsimp only; (repeat rw [if_neg (by decide)]); first | rfl | assumption) | with_unfolding_all assumption)) (by (first | rfl | exact str_push _ _ | exact str_push0 _ | exact str_pushL _ _ | exact str_nilL _)) hcs2 (by rw [← htok]; simp [tok, isWs]) hln hb2 hb3 (by (simp only [List.length_nil, List.length_cons, List.length_append] at *; (walk_at "my o"))) hne hne2)
        intro n m nw h tk F N hI P2 hP2
        refine' gt_turn prog w p loose mean mg mb hI hTk hch0 ?Baq F ?Bbq ?Bcq N rfl rfl rfl ?Bdq ?Beq ?hFFq ?hendq ?hgoq
        (case Baq => k_asm)
        (case Bbq => k_asm)
        (case Bcq => k_asm)
        (case Bdq => k_room)
        (case Beq => k_units)
        (case hFFq => intro t h; rw [← h]; exact quo_nil t)
        case hendq =>
          intro t line' tl' tt e2' h' tk' hs hf ht htok3 hline F' N'
          clear F N
          (try dsimp only)
          k_steps
          (try dsimp only)
          (first | refine hP2 _ _ ?_ | refine hP1 _ _ ?_)
          refine' loop_next ?Caq ?Daq (k := 0) ?Gaq ?Iaq
          (case Caq => k_asm)
          (case Daq => k_asm)
          (case Gaq => exact Nat.lt_of_le_of_lt (Nat.zero_le _) hn)
          (case Iaq => exact GOut.over ⟨t, line', tl', tt, e2', hs, hf, ht, rfl, htok3, hline⟩)
        case hgoq =>
          intro t c r vs2 line2 tl2 tt e2' t' h' tk' hn hs hf ht htok3 hcs2 hln hb2 hb3 hbl hne hne2 F' N'
          clear F N
          (try dsimp only)
          k_steps
          · (try dsimp only)
            have hq := q34_t (c := c) (by assumption)
            have e : quo t (c :: r) = (t, r) := by first | exact bare_end _ _ hq | (subst hq; exact quo_end _ _)
            (first | refine hK1 _ _ ?_ | (refine hP1 _ _ ?_; dsimp only [LoopEnd]; refine hK1 _ _ ?_) | (refine hP2 _ _ ?_; dsimp only [LoopEnd]; refine hP1 _ _ ?_; dsimp only [LoopEnd]; refine hK1 _ _ ?_)); (try dsimp only)
            refine' fin_part ?Frq ?Nrq ?srq ?Rrq
            (case Frq => k_asm)
            (case Nrq => k_asm)
            (case srq => intro q hq; exact .tail _ (.tail _ hq))
            rw [← htok3, e]
            exact ⟨_, _, _, _, _, rfl, hcs2, hln, rfl⟩
          · have hq := q92_t (c := c) (by assumption)
            subst hq
            show wpAny _ _ _ _ _ _
            (k_dflt (refine' Con.use (read_char_ok prog w p loose mean mg mb a j hTk hch0 line2 tl2 r vs2 [] e1 e2' hcs2 (by (walk_at "my o")) hb2 (by (walk_at "my o"))) [(it', _), (q', _)] ?zB6 ?zF6 ?zX6 ?zN6 ?zT6 ?zA6 ?zf6 ?zk6 ?zd6 ?zu6 (fun q hq => .tail _ (.tail _ hq)) (gt_rest w hne) ?zpre6 ?_); (case zB6 => k_asm); (case zF6 => k_asm); (case zX6 => k_asm); (case zN6 => k_asm); (case zT6 => k_asm); (case zA6 => exact rfl); (case zf6 => exact rfl); (case zk6 => exact rfl); (case zd6 => k_room); (case zu6 => k_units); (case zpre6 => first | exact trivial | skip))
            intro v h' tk' nw' F' N2 zg271 zg272
            refine letGoal ?_
            intro Gz
            obtain ⟨t3, tl3, e3, rfl, rfl⟩ := zg271
            clear zg272
            dsimp only [Gz]
            clear Gz
            replace N2 := News.swap N2
            dsimp only [List.cons_append, List.nil_append] at N2
            (try clear N')
            have hes := esc_step hcs2 hln hb2 hb3
            generalize (if r.head? = some 10 then line2 + 1 else line2) = line3 at *
            have hlt : (r.take 1).length ≤ 1 := List.length_take_le _ _
            k_steps
            (try dsimp only)
            (first | refine hP2 _ _ ?_ | refine hP1 _ _ ?_)
            refine' loop_next ?Fseq ?Nseq (k := (r.drop 1).length + 1) ?kseq ?Iseq
            (case Fseq => k_asm)
            (case Nseq => k_asm)
            (case kseq => exact drop_lt hn)
            (case Iseq => exact GOut.go (cs := r.drop 1) (t := t ++ r.take 1) (by (first | rfl | assumption | (dsimp only; (repeat rw [if_neg (by decide)]); first | rfl | assumption) | with_unfolding_all assumption)) (by (first | rfl | assumption | (dsimp only; (repeat rw [if_neg (by decide)]); first | rfl | assumption) | with_unfolding_all assumption)) (by (first | rfl | assumption | (dsimp only; (repeat rw [if_neg (by decide)]); first | rfl | assumption) | with_unfolding_all assumption)) (by (first | rfl | exact str_push _ _ | exact str_push0 _ | exact str_pushL _ _ | exact str_nilL _)) hes.1 (by rw [← htok3, quo_escL]) hes.2.1 hes.2.2.1 hes.2.2.2 (len_step hbl) hne hne2)
          · have hq := q34_f (c := c) (by assumption)
            have hq2 := q92_f (c := c) (by assumption)
            (try dsimp only)
            (first | refine hP2 _ _ ?_ | refine hP1 _ _ ?_)
            refine' loop_next ?Fsgq ?Nsgq (k := r.length + 1) ?ksgq ?Isgq
            (case Fsgq => k_asm)
            (case Nsgq => k_asm)
            (case ksgq => exact hn)
            (case Isgq => exact GOut.go (cs := r) (t := t ++ [c]) (by (first | rfl | assumption | (dsimp only; (repeat rw [if_neg (by decide)]); first | rfl | assumption) | with_unfolding_all assumption)) (by (first | rfl | assumption | (dsimp only; (repeat rw [if_neg (by decide)]); first | rfl | assumption) | with_unfolding_all assumption)) (by (first | rfl | assumption | (dsimp only; (repeat rw [if_neg (by decide)]); first | rfl | assumption) | with_unfolding_all assumption)) (by (first | rfl | exact str_push _ _ | exact str_push0 _ | exact str_pushL _ _ | exact str_nilL _)) hcs2 (by rw [← htok3, quo_go _ _ hq hq2]) hln hb2 hb3 (by (simp only [List.length_nil, List.length_cons, List.length_append] at *; (walk_at "my o"))) hne hne2)
      · have hq := q92_t (c := c) (by assumption)
        subst hq
        show wpAny _ _ _ _ _ _
        (k_dflt (refine' Con.use (read_char_ok prog w p loose mean mg mb a j hTk hch0 line2 tl2 r vs2 [] e1 e2' hcs2 (by (walk_at "my o")) hb2 (by (walk_at "my o"))) [(it', _), (q', _)] ?zB7 ?zF7 ?zX7 ?zN7 ?zT7 ?zA7 ?zf7 ?zk7 ?zd7 ?zu7 (fun q hq => .tail _ (.tail _ hq)) (gt_rest w hne) ?zpre7 ?_); (case zB7 => k_asm); (case zF7 => k_asm); (case zX7 => k_asm); (case zN7 => k_asm); (case zT7 => k_asm); (case zA7 => exact rfl); (case zf7 => exact rfl); (case zk7 => exact rfl); (case zd7 => k_room); (case zu7 => k_units); (case zpre7 => first | exact trivial | skip))
        intro v h' tk' nw' F' N2 zg273 zg274
        refine letGoal ?_
        intro Gz
        obtain ⟨t3, tl3, e3, rfl, rfl⟩ := zg273
        clear zg274
        dsimp only [Gz]
        clear Gz
        replace N2 := News.swap N2
        dsimp only [List.cons_append, List.nil_append] at N2
        (try clear N')
        have hes := esc_step hcs2 hln hb2 hb3
        generalize (if r.head? = some 10 then line2 + 1 else line2) = line3 at *
        have hlt : (r.take 1).length ≤ 1 := List.length_take_le _ _
        k_steps
        refine pyIter_cit ((by assumption : News _ _ _ _) _ (.head _)).1 ?_
        refine' bareL ((r.drop 1).length + 1) _ _ _ _ ?Fn ?Nn ?hn2
        (case Fn => k_asm)
        (case Nn => k_asm)
        (case hn2 => exact GOut.go (t := r.take 1) (cs := r.drop 1) (by (first | rfl | assumption | (dsimp only; (repeat rw [if_neg (by decide)]); first | rfl | assumption) | with_unfolding_all assumption)) (by (first | rfl | assumption | (dsimp only; (repeat rw [if_neg (by decide)]); first | rfl | assumption) | with_unfolding_all assumption)) (by (first | rfl | assumption | (dsimp only; (repeat rw [if_neg (by decide)]); first | rfl | assumption) | with_unfolding_all assumption)) (by (first | rfl | exact str_push _ _ | exact str_push0 _ | exact str_pushL _ _ | exact str_nilL _)) hes.1 (by rw [← htok, tok_escL]) hes.2.1 hes.2.2.1 hes.2.2.2 (len_step (t := []) hbl) hne hne2)
      · have hq := q34_f (c := c) (by assumption)
        have hq2 := q92_f (c := c) (by assumption)
        have hw := ws_t (c := c) (by assumption)
        refine pyIter_cit ((by assumption : News _ _ _ _) _ (.head _)).1 ?_
        refine' bareL (r.length + 1) _ _ _ _ ?Fp ?Np ?hp
        (case Fp => k_asm)
        (case Np => k_asm)
        (case hp => exact GOut.go (t := [c]) (by (first | rfl | assumption | (dsimp only; (repeat rw [if_neg (by decide)]); first | rfl | assumption) | with_unfolding_all assumption)) (by (first | rfl | assumption | (dsimp only; (repeat rw [if_neg (by decide)]); first | rfl | assumption) | with_unfolding_all assumption)) (by (first | rfl | assumption | (dsimp only; (repeat rw [if_neg (by decide)]); first | rfl | assumption) | with_unfolding_all assumption)) (by (first | rfl | exact str_push _ _ | exact str_push0 _ | exact str_pushL _ _ | exact str_nilL _)) hcs2 (by rw [← htok]; simp [tok, hw, hq, hq2]) hln hb2 hb3 (by (simp only [List.length_nil, List.length_cons, List.length_append] at *; (walk_at "my o"))) hne hne2)
      · (try dsimp only)
        have hw := ws_f (c := c) (by assumption)
        (first | refine hP2 _ _ ?_ | refine hP1 _ _ ?_)
        refine' loop_cont ?F2 ?N2 (k := r.length + 1) ?k2 ?I2
        (case F2 => k_asm)
        (case N2 => k_asm)
        (case k2 => exact hn)
        (case I2 => exact GOut.go (t := []) (by (first | rfl | assumption | (dsimp only; (repeat rw [if_neg (by decide)]); first | rfl | assumption) | with_unfolding_all assumption)) (by (first | rfl | assumption | (dsimp only; (repeat rw [if_neg (by decide)]); first | rfl | assumption) | with_unfolding_all assumption)) (by (first | rfl | assumption | (dsimp only; (repeat rw [if_neg (by decide)]); first | rfl | assumption) | with_unfolding_all assumption)) rfl hcs2 ⟨rfl, by rw [← htok]; simp [tok, hw]⟩ hln hb2 hb3 (by (simp only [List.length_nil, List.length_cons, List.length_append] at *; (walk_at "my o"))) hne hne2)
    case bl =>
      (try clear hln hb2 hb3 hbl hs hf ht F' N')
      intro n0 h tk m nw F N hI
      refine' loop_ledP prog w (GOut w it' q' a j (tk0 + 1 + 1 + 1) e1 cs line (fun t x => bare t x = tok cs)) n0 F N hI ?turnp
      intro n m nw h tk F N hI P2 hP2
      refine' gt_turn prog w p loose mean mg mb hI hTk hch0 ?Bap F ?Bbp ?Bcp N rfl rfl rfl ?Bdp ?Bep ?hFFp ?hendp ?hgop
      (case Bap => k_asm)
      (case Bbp => k_asm)
      (case Bcp => k_asm)
      (case Bdp => k_room)
      (case Bep => k_units)
      (case hFFp => intro t h; rw [← h]; exact bare_nil t)
      case hendp =>
        intro t line' tl' tt e2' h' tk' hs hf ht htok3 hline F' N'
        clear F N
        (try dsimp only)
        k_steps
        (try dsimp only)
        (first | refine hP2 _ _ ?_ | refine hP1 _ _ ?_)
        refine' loop_next ?Cap ?Dap (k := 0) ?Gap ?Iap
        (case Cap => k_asm)
        (case Dap => k_asm)
        (case Gap => exact Nat.lt_of_le_of_lt (Nat.zero_le _) hn)
        (case Iap => exact GOut.over ⟨t, line', tl', tt, e2', hs, hf, ht, rfl, htok3, hline⟩)
      case hgop =>
        intro t c r vs2 line2 tl2 tt e2' t' h' tk' hn hs hf ht htok3 hcs2 hln hb2 hb3 hbl hne hne2 F' N'
        clear F N
        (try dsimp only)
        k_steps
        · have hq := q92_t (c := c) (by assumption)
          subst hq
          show wpAny _ _ _ _ _ _
          (k_dflt (refine' Con.use (read_char_ok prog w p loose mean mg mb a j hTk hch0 line2 tl2 r vs2 [] e1 e2' hcs2 (by (walk_at "my o")) hb2 (by (walk_at "my o"))) [(it', _), (q', _)] ?zB8 ?zF8 ?zX8 ?zN8 ?zT8 ?zA8 ?zf8 ?zk8 ?zd8 ?zu8 (fun q hq => .tail _ (.tail _ hq)) (gt_rest w hne) ?zpre8 ?_); (case zB8 => k_asm); (case zF8 => k_asm); (case zX8 => k_asm); (case zN8 => k_asm); (case zT8 => k_asm); (case zA8 => exact rfl); (case zf8 => exact rfl); (case zk8 => exact rfl); (case zd8 => k_room); (case zu8 => k_units); (case zpre8 => first | exact trivial | skip))
          intro v h' tk' nw' F' N2 zg275 zg276
          refine letGoal ?_
          intro Gz
          obtain ⟨t3, tl3, e3, rfl, rfl⟩ := zg275
          clear zg276
          dsimp only [Gz]
          clear Gz
          replace N2 := News.swap N2
          dsimp only [List.cons_append, List.nil_append] at N2
          (try clear N')
          have hes := esc_step hcs2 hln hb2 hb3
          generalize (if r.head? = some 10 then line2 + 1 else line2) = line3 at *
          have hlt : (r.take 1).length ≤ 1 := List.length_take_le _ _
          k_steps
          (try dsimp only)
          (first | refine hP2 _ _ ?_ | refine hP1 _ _ ?_)
          refine' loop_next ?Fsep ?Nsep (k := (r.drop 1).length + 1) ?ksep ?Isep
          (case Fsep => k_asm)
          (case Nsep => k_asm)
          (case ksep => exact drop_lt hn)
          (case Isep => exact GOut.go (cs := r.drop 1) (t := t ++ r.take 1) (by (first | rfl | assumption | (dsimp only; (repeat rw [if_neg (by decide)]); first | rfl | assumption) | with_unfolding_all assumption)) (by (first | rfl | assumption | (dsimp only; (repeat rw [if_neg (by decide)]); first | rfl | assumption) | with_unfolding_all assumption)) (by (first | rfl | assumption | (dsimp only; (repeat rw [if_neg (by decide)]); first | rfl | assumption) | with_unfolding_all assumption)) (by (first | rfl | exact str_push _ _ | exact str_push0 _ | exact str_pushL _ _ | exact str_nilL _)) hes.1 (by rw [← htok3, bare_escL]) hes.2.1 hes.2.2.1 hes.2.2.2 (len_step hbl) hne hne2)
        · have hq := ws_t (c := c) (by assumption)
          have hq2 := q92_f (c := c) (by assumption)
          (try dsimp only)
          (first | refine hP2 _ _ ?_ | refine hP1 _ _ ?_)
          refine' loop_next ?Fsgp ?Nsgp (k := r.length + 1) ?ksgp ?Isgp
          (case Fsgp => k_asm)
          (case Nsgp => k_asm)
          (case ksgp => exact hn)
          (case Isgp => exact GOut.go (cs := r) (t := t ++ [c]) (by (first | rfl | assumption | (dsimp only; (repeat rw [if_neg (by decide)]); first | rfl | assumption) | with_unfolding_all assumption)) (by (first | rfl | assumption | (dsimp only; (repeat rw [if_neg (by decide)]); first | rfl | assumption) | with_unfolding_all assumption)) (by (first | rfl | assumption | (dsimp only; (repeat rw [if_neg (by decide)]); first | rfl | assumption) | with_unfolding_all assumption)) (by (first | rfl | exact str_push _ _ | exact str_push0 _ | exact str_pushL _ _ | exact str_nilL _)) hcs2 (by rw [← htok3, bare_go _ _ hq hq2]) hln hb2 hb3 (by (simp only [List.length_nil, List.length_cons, List.length_append] at *; (walk_at "my o"))) hne hne2)
        · (try dsimp only)
          have hq := ws_f (c := c) (by assumption)
          have e : bare t (c :: r) = (t, r) := by first | exact bare_end _ _ hq | (subst hq; exact quo_end _ _)
          (first | refine hK1 _ _ ?_ | (refine hP1 _ _ ?_; dsimp only [LoopEnd]; refine hK1 _ _ ?_) | (refine hP2 _ _ ?_; dsimp only [LoopEnd]; refine hP1 _ _ ?_; dsimp only [LoopEnd]; refine hK1 _ _ ?_)); (try dsimp only)
          refine' fin_part ?Frp ?Nrp ?srp ?Rrp
          (case Frp => k_asm)
          (case Nrp => k_asm)
          (case srp => intro q hq; exact .tail _ (.tail _ hq))
          rw [← htok3, e]
          exact ⟨_, _, _, _, _, rfl, hcs2, hln, rfl⟩
end FOR
section POP
theorem truthy_cons {A : Around} {s : Shared} {E : Value → Shared → Prop} {h₀ : Heap} {L l : Addr} {x : Value} {q : List Value} {n : Nat} {news : List (Addr × Obj)} {Q : Bool → Shared → Prop} (N : News h₀ L s.heap news) (hm : (l, listOf (x :: q).toArray n) ∈ news) (hz : (q.length + 1 : Int) < 2 ^ 63)
    (h : Q true { s with toks := s.toks + 1 + 1 }) : wpAny (model prog w) A (truthy (.ref l)) Q E s := by
  refine wpAny_truthy_list (items := (x :: q).toArray) ⟨_, (N _ hm).1, rfl, _, rfl⟩ (by simpa using hz) ?_
  have e : (!(x :: q).toArray.isEmpty) = true := by simp
  rw [e]; exact h
theorem pop0_led {A : Around} {s : Shared} {E : Value → Shared → Prop} {h₀ : Heap} {L D : Addr} {m : Str → Option Value} {y : Value} {q : List Value} {n : Nat} {u : Tok} {news news' : List (Addr × Obj)} {Q : Value → Shared → Prop} (F : Fr h₀ L s.heap m) (N : News h₀ L s.heap news)
    (U : Upd D (listOf (y :: q).toArray n) (listOf q.toArray (n + 1)) news news') (hz : q.length + 1 ≤ sizeLine) (h : ∀ h', Fr h₀ L h' m → News h₀ L h' news' → Q y { s with heap := h' }) : wpAny (model prog w) A (call (.builtin "list.pop") [.ref D, .int 0 u]) Q E s := by
  refine kl_popAt (its := (y :: q).toArray) (k := 0) (p := []) (q := q) F N rfl ?_ rfl U (by simpa using hz) h
  unfold seqIndex?
  simp
local macro_rules | `(tactic| walk_at "truthy ref") => `(tactic| (k_here; k_dflt (refine' truthy_cons _ _ (by k_asm) (by k_mem) (by walk_at "my o") ?_; k_whole)))
local macro_rules | `(tactic| walk_at "call builtin:list.pop") => `(tactic| (k_here; k_dflt (refine' pop0_led _ _ (by k_asm) (by k_asm) (by k_upd) (by (rw [sizeLine_eq]; lia)) ?_; k_whole); intro _ _ _))
theorem get_token_pop (a : LexA) (j : LexJ) (hch : a.chain) (line : Int) (tl : Tok) (vs : List Value) (x : Value) (toks : List Value) (e1 e2 : Nat) (hl : toks.length ≤ 1000) :
   Con prog w (hd2.heap_1 w.params) p loose mean mg mb 6 (.ref 66) ⟨[.ref a.lx], []⟩ (fun _ => True) (lexLed w 76 a j line tl vs (x :: toks) e1 e2)
     (fun v nw' => ∃ e1', v = x ∧ nw' = lexLed w 76 a j line tl vs toks e1' e2) := by
  unfold LexA.chain at hch
  obtain ⟨c1, c2, c3, c4, c5, c6, c7, c8⟩ := hch
  intro dp un gd outer A₀ base g s B O X T hpre hd hu
  k_dflt ((first | (refine' enterK (by k_asm) (by k_asm) (by k_asm) (by k_is) (by k_is) (by first | walk_at "my r" | lia) (by first | exact BindsTo.of_eq rfl | exact binds_K (Frag.In.keeps (by assumption) (Out.keep (by assumption))) rfl (by k_is) rfl rfl rfl | fail "enter: arguments") ?kBq83 (by decide) (by rfl) (by rfl) (by rfl) ?_; (case kBq83 => exact locs rfl); k_whole; intro Lq hq Fq Nq l1q; (try k_lt l1q); (try dsimp only); (try k_fold)) | walk_at "my enterC"))
  refine letPost ?_
  intro K1
  dsimp only [lexLed] at *
  k_steps
  (try dsimp only)
  (try dsimp +zetaDelta only)
  refine' fin_intro ?F ?N ?R
  (case F => k_asm)
  (case N => k_asm)
  exact ⟨_, rfl, rfl⟩
theorem push_token_ok (a : LexA) (j : LexJ) (hch : a.chain) (line : Int) (tl : Tok) (vs : List Value) (x : Value) (toks : List Value) (e1 e2 : Nat) (hl : toks.length ≤ 1000) :
   Con prog w (hd2.heap_1 w.params) p loose mean mg mb 6 (.ref 73) ⟨[.ref a.lx, x], []⟩ (fun _ => True) (lexLed w 76 a j line tl vs toks e1 e2)
     (fun v nw' => ∃ e1', v = .none ∧ nw' = lexLed w 76 a j line tl vs (toks ++ [x]) e1' e2) := by
  unfold LexA.chain at hch
  obtain ⟨c1, c2, c3, c4, c5, c6, c7, c8⟩ := hch
  intro dp un gd outer A₀ base g s B O X T hpre hd hu
  k_dflt ((first | (refine' enterK (by k_asm) (by k_asm) (by k_asm) (by k_is) (by k_is) (by first | walk_at "my r" | lia) (by first | exact BindsTo.of_eq rfl | exact binds_K (Frag.In.keeps (by assumption) (Out.keep (by assumption))) rfl (by k_is) rfl rfl rfl | fail "enter: arguments") ?kBq84 (by decide) (by rfl) (by rfl) (by rfl) ?_; (case kBq84 => exact locs rfl); k_whole; intro Lq hq Fq Nq l1q; (try k_lt l1q); (try dsimp only); (try k_fold)) | walk_at "my enterC"))
  refine letPost ?_
  intro K1
  dsimp only [lexLed] at *
  k_steps
  (try dsimp only)
  (try dsimp +zetaDelta only)
  refine' fin_intro ?F ?N ?R
  (case F => k_asm)
  (case N => k_asm)
  have e : toks.toArray.push x = (toks ++ [x]).toArray := by simp
  rw [e]
  exact ⟨_, rfl, rfl⟩
end POP
end
end
section
local macro_rules | `(tactic| walk_at "eval ListComp") => `(tactic| (k_here; k_dflt (refine eval_comp (by with_unfolding_all rfl) (by rfl) (by decide) ?_)))
local macro_rules | `(tactic| walk_at "exec Assign cons ListComp") => `(tactic| (k_here; k_dflt (refine assign_comp (by with_unfolding_all rfl) (by with_unfolding_all rfl) (by rfl) (by decide) ?_)))
local macro_rules | `(tactic| walk_at "pyIter ref") => `(tactic| ((with_reducible show wpAny _ _ (pyIter (.ref _)) (CompTail _ _ _ _ _ _ _ _ _ _ _ _ _ _) _ _); refine stopI ?_))
local macro_rules | `(tactic| k_all) => `(tactic| first | exact List.forall_mem_nil _ | (refine' List.forall_mem_cons.mpr ⟨(by k_ne), (by k_all)⟩) | exact TailIn.ne (by assumption) (by walk_at "my o"))
local macro_rules | `(tactic| k_mem) => `(tactic| first | exact List.Mem.head _ | (refine' List.Mem.tail _ ?_; k_mem) | assumption)
section
noncomputable def HdOK (a : HdA) (rows : List Row) : Prop := @LT.lt Nat _ a.d a.h ∧ @LT.lt Nat _ a.h a.l ∧ (∀ p ∈ rows.map Row.obj, @LT.lt Nat _ a.l p.1) ∧ (∀ r ∈ rows, (Txt.lower r.k).cps.size ≤ 1000) ∧ rows.length ≤ 1000
section HDR7
local macro_rules | `(tactic| walk_at "subscriptTail Name Slice ref ref") => `(tactic| (k_here; (with_reducible show wpAny _ _ (subscriptTail _ (.Slice none none none _) (.ref _) (.ref _)) _ _ _); k_dflt (refine' slice_all_led (by k_asm) (by k_asm) (by k_mem) ?_ (by with_unfolding_all rfl) (by kmk_pure) (by walk_at "my z")); k_whole; intro _ _ _ _ _))
local macro_rules | `(tactic| walk_at "call builtin:str.lower") => `(tactic| (k_here; (show wpAny _ _ (call _ [.str _ _]) _ _ _); k_dflt (refine' KXw.lower rfl (by exact fit_lower (by assumption)) ?_; k_whole); intro _ _))
local macro_rules | `(tactic| walk_at "call ref") => `(tactic| (with_reducible refine haltC 119 ?_))
theorem items_ok (a : HdA) (u : Tok) (rows : List Row) (n : Nat) (hA : HdOK a rows) :
   Con prog w (hd2.heap_1 w.params) p loose mean mg mb 4 (.ref 184) ⟨[.ref a.h], []⟩ (fun _ => True) (hdLed w 220 a u rows n)
     (fun v nw' => Ex2 fun D n' => And3 (v = .ref D) (nw' = (D, listOf (rows.map fun r => Value.ref r.a).toArray n') :: hdLed w 220 a u rows n) (∀ q ∈ hdLed w 220 a u rows n, q.1 ≠ D)) := by
  obtain ⟨c1, c2, hsep, hr, hl⟩ := hA
  intro dp un gd outer A₀ base g s B O X T hpre hd hu
  k_dflt ((first | (refine' enterK (by k_asm) (by k_asm) (by k_asm) (by k_is) (by k_is) (by first | walk_at "my r" | lia) (by first | exact BindsTo.of_eq rfl | exact binds_K (Frag.In.keeps (by assumption) (Out.keep (by assumption))) rfl (by k_is) rfl rfl rfl | fail "enter: arguments") ?kBq60 (by decide) (by rfl) (by rfl) (by rfl) ?_; (case kBq60 => exact locs rfl); k_whole; intro Lq hq Fq Nq l1q; (try k_lt l1q); (try dsimp only); (try k_fold)) | walk_at "my enterC"))
  obtain ⟨-, -, -, hAl⟩ : _ ∧ _ ∧ _ ∧ AllLt _ (List.map Row.obj rows) := by assumption
  have hT := TailIn.of hsep hAl
  k_steps
  (try dsimp only)
  refine' fin_intro ?Fd ?Nd ?Rd
  (case Fd => k_asm)
  (case Nd => k_asm)
  rename_i l1z
  exact ⟨_, _, rfl, rfl, fun q hq => Nat.ne_of_lt (l1z q hq)⟩
end HDR7
end
section
local macro_rules | `(tactic| walk_at "my look") => `(tactic| first | rfl | assumption | (dsimp only; (repeat rw [if_neg (by decide)]); first | rfl | assumption) | with_unfolding_all assumption)
local macro_rules | `(tactic| walk_at "eval Name") => `(tactic| (k_here; k_dflt (refine' nameX_L (by k_asm) (by walk_at "my look") ?_; k_whole)))
local macro_rules | `(tactic| walk_at "loadName") => `(tactic| (k_here; k_dflt (refine' wpAny_loadName_local (by rfl) (by rfl) (Fr.ns (by k_asm)) (by walk_at "my look") ?_; k_whole)))
section
section W2WORD
noncomputable def fig (r : Nat) : Nat := if r < 8 then r else r + 40
noncomputable def wordT (a b c : Nat) : Str := ⟨#[64 + fig a, 64 + fig b, 128 + fig c]⟩
theorem fig_lt {r : Nat} (h : r < 16) : fig r < 1000 := by
  unfold fig; split <;> (walk_at "my o")
theorem word2_cat (a b c : Nat) : (({ cps := #[((64 : Int) + a).toNat] } : Str) ++ { cps := #[((64 : Int) + b).toNat] } ++ { cps := #[((128 : Int) + c).toNat] }) = ⟨#[64 + a, 64 + b, 128 + c]⟩ := by
  have h1 : ((64 : Int) + a).toNat = 64 + a := by (walk_at "my o")
  have h2 : ((64 : Int) + b).toNat = 64 + b := by (walk_at "my o")
  have h3 : ((128 : Int) + c).toNat = 128 + c := by (walk_at "my o")
  rw [h1, h2, h3]; rfl
local macro_rules | `(tactic| walk_at "zz") => `(tactic| skip)
theorem word2_ok (l : Addr) (a b c n : Nat) (ta tb tc : Tok) (ha : a < 16) (hb : b < 16) (hc : c < 16) :
   Con prog w (hd2.heap_1 w.params) p loose mean mg mb 4 (.ref 241) ⟨[.ref l], []⟩ (fun _ => True) [(l, listOf #[.int a ta, .int b tb, .int c tc] n)]
     (fun v nw' => (∃ t, v = .str (wordT a b c) t) ∧ nw' = [(l, listOf #[.int a ta, .int b tb, .int c tc] n)]) := by
  intro dp un gd outer A₀ base g s B O X T hpre hd hu
  k_dflt ((first | (refine' enterK (by k_asm) (by k_asm) (by k_asm) (by k_is) (by k_is) (by first | walk_at "my r" | lia) (by first | exact BindsTo.of_eq rfl | exact binds_K (Frag.In.keeps (by assumption) (Out.keep (by assumption))) rfl (by k_is) rfl rfl rfl | fail "enter: arguments") ?kBq55 (by decide) (by rfl) (by rfl) (by rfl) ?_; (case kBq55 => exact locs rfl); k_whole; intro Lq hq Fq Nq l1q; (try k_lt l1q); (try dsimp only); (try k_fold)) | walk_at "my enterC"))
  refine letPost ?_
  intro K1
  k_steps
  show wpAny _ _ _ _ _ _
  refine' comp_list_keep (its := #[.int a ta, .int b tb, .int c tc]) (k := n) ?hh (fun i ys => IntsAre ys ([(fig a : Int), fig b, fig c].take i)) ?F ?N ?hm ?sz ?c1 ?c2 ?c3 ?h0 ?turn ?fin
  (case hh => rfl)
  (case F => k_asm)
  (case N => k_asm)
  (case hm => k_mem)
  (case sz => (show 3 ≤ sizeLine); (rw [sizeLine_eq]; decide))
  (case c1 => decide)
  (case c2 => rfl)
  (case c3 => rfl)
  (case h0 => exact .nil)
  (case turn =>
    rintro i v ys I oI C oC mC D h tk hi hv hJ hoC hxx F N off ne
    have hi : i < 3 := hi
    obtain ⟨r, t, rfl, hr, hci⟩ : Ex2 fun (r : Nat) (t : Tok) => And3 (v = .int r t) (r < 16) ([(fig a : Int), fig b, fig c][i]? = some (fig r : Int)) := by
      have : i = 0 ∨ i = 1 ∨ i = 2 := by (walk_at "my o")
      rcases this with rfl | rfl | rfl <;> cases hv
      · exact ⟨a, ta, rfl, ha, rfl⟩
      · exact ⟨b, tb, rfl, hb, rfl⟩
      · exact ⟨c, tc, rfl, hc, rfl⟩
    refine CTurn.nil ?_
    refine letPost ?_
    intro K3
    k_steps
    · (try dsimp +zetaDelta only)
      (refine' CE.intro (by k_asm) (by k_asm) _ ?subq56 (by assumption) ?Jq56; (case subq56 => first | exact fun _ h => h | exact fun _ h => .tail _ h | exact fun _ h => .tail _ (.tail _ h) | exact fun _ h => .tail _ (.tail _ (.tail _ h)) | exact fun _ h => .tail _ (.tail _ (.tail _ (.tail _ h))) | exact fun _ h => .tail _ (.tail _ (.tail _ (.tail _ (.tail _ h))))); refine KEnd.intro ?_)
      rw [List.take_add_one, hci]
      refine IntsAre.append hJ ?_
      have e : fig r = r := if_pos (Int.ofNat_lt.mp ‹_›)
      rw [e]
      exact .cons _ _ .nil
    · (try dsimp +zetaDelta only)
      (refine' CE.intro (by k_asm) (by k_asm) _ ?subq57 (by assumption) ?Jq57; (case subq57 => first | exact fun _ h => h | exact fun _ h => .tail _ h | exact fun _ h => .tail _ (.tail _ h) | exact fun _ h => .tail _ (.tail _ (.tail _ h)) | exact fun _ h => .tail _ (.tail _ (.tail _ (.tail _ h))) | exact fun _ h => .tail _ (.tail _ (.tail _ (.tail _ (.tail _ h))))); refine KEnd.intro ?_)
      rw [List.take_add_one, hci]
      refine IntsAre.append hJ ?_
      have e : fig r = r + 40 := if_neg fun h => ‹¬ (r : Int) < 8› (Int.ofNat_lt.mpr h)
      rw [e]
      exact .cons _ _ .nil)
  (case fin =>
    rintro ys hJ
    refine ⟨_, _, rfl, rfl, rfl, rfl, ?_⟩
    intro D h tk F N off
    have hJ : IntsAre ys [(fig a : Int), fig b, fig c] := hJ
    cases hJ with
    | cons _ u1 hJ =>
    cases hJ with
    | cons _ u2 hJ =>
    cases hJ with
    | cons _ u3 hJ =>
    cases hJ
    have fa : fig a < 1000 := fig_lt ha
    have fb : fig b < 1000 := fig_lt hb
    have fc : fig c < 1000 := fig_lt hc
    k_steps
    (try dsimp only)
    (try dsimp +zetaDelta only)
    refine' fin_tail ?Fe ?Ne ?Re
    (case Fe => k_asm)
    (case Ne => k_asm)
    exact ⟨⟨_, by rw [word2_cat]; rfl⟩, rfl⟩)
end W2WORD
end
section
section W2ROWS
local macro_rules | `(tactic| walk_at "call ref") => `(tactic| (with_reducible refine haltC 87 ?_))
local macro_rules | `(tactic| walk_at "pyIter str") => `(tactic| (refine stopI ?_))
local macro_rules | `(tactic| walk_at "call builtin:iter") => `(tactic| (k_here; (with_reducible show wpAny _ _ (call _ [.ref _]) _ _ _); k_dflt (refine' iter1_led (by k_asm) (by k_asm) (by k_mem) ?_; k_whole); intro _ _ _ _ _ _ l1; (try k_lt l1)))
theorem rows2_facts : ∀ (a : _root_.Fin 16) (b : _root_.Fin 16) (c : _root_.Fin 16), VOK ((64 + fig a.val : Nat) : Int) ((64 + fig b.val : Nat) : Int) ((128 + fig c.val : Nat) : Int) ∧
    (vval ((64 + fig a.val : Nat) : Int) ((64 + fig b.val : Nat) : Int) ((128 + fig c.val : Nat) : Int)).fdiv 4096 = fig a.val ∧
    ((vval ((64 + fig a.val : Nat) : Int) ((64 + fig b.val : Nat) : Int) ((128 + fig c.val : Nat) : Int)).fdiv 64).fmod 64 = fig b.val ∧
    (vval ((64 + fig a.val : Nat) : Int) ((64 + fig b.val : Nat) : Int) ((128 + fig c.val : Nat) : Int)).fmod 64 = fig c.val := by decide +kernel
theorem fig_big {q : Nat} (h : ¬ (fig q : Int) < 8) : (fig q : Int) - 40 = q := by
  unfold fig at *; split at h <;> (walk_at "my o")
theorem fig_small {q : Nat} (h : (fig q : Int) < 8) : fig q = q := by
  unfold fig at *; split at h <;> (walk_at "my o")
theorem rows2_ok (a b c : Nat) (t : Tok) (ha : a < 16) (hb : b < 16) (hc : c < 16) :
   Con prog w (hd2.heap_1 w.params) p loose mean mg mb 6 (.ref 246) ⟨[.str (wordT a b c) t], []⟩ (fun _ => True) []
     (fun v nw' => Ex5 fun D t1 t2 t3 k => v = .ref D ∧ nw' = [(D, listOf #[.int a t1, .int b t2, .int c t3] k)]) := by
  obtain ⟨hV, f1, f2, f3⟩ := rows2_facts ⟨a, ha⟩ ⟨b, hb⟩ ⟨c, hc⟩
  intro dp un gd outer A₀ base g s B O X T hpre hd hu
  k_dflt ((first | (refine' enterK (by k_asm) (by k_asm) (by k_asm) (by k_is) (by k_is) (by first | walk_at "my r" | lia) (by first | exact BindsTo.of_eq rfl | exact binds_K (Frag.In.keeps (by assumption) (Out.keep (by assumption))) rfl (by k_is) rfl rfl rfl | fail "enter: arguments") ?kBq31 (by decide) (by rfl) (by rfl) (by rfl) ?_; (case kBq31 => exact locs rfl); k_whole; intro Lq hq Fq Nq l1q; (try k_lt l1q); (try dsimp only); (try k_fold)) | walk_at "my enterC"))
  refine letPost ?_
  intro K1
  have fa := fig_lt ha
  have fb := fig_lt hb
  have fc := fig_lt hc
  k_steps
  show wpAny _ _ _ _ _ _
  refine' comp_str_keep ?hh (fun i ys => IntsAre ys ([((64 + fig a : Nat) : Int), ((64 + fig b : Nat) : Int), ((128 + fig c : Nat) : Int)].take i)) ?F ?N ?sz ?c1 ?c2 ?c3 ?h0 ?turn ?fin
  (case hh => rfl)
  (case F => k_asm)
  (case N => k_asm)
  (case sz => (show 3 ≤ sizeLine); (rw [sizeLine_eq]; decide))
  (case c1 => decide)
  (case c2 => rfl)
  (case c3 => rfl)
  (case h0 => exact IntsAre.nil)
  (case turn =>
    intro i v ys I oI C oC mC D h tk hi zg97 hJ hoC hxx F N off ne
    refine letGoal ?_
    intro Gz
    obtain ⟨c', u, hc', rfl⟩ := zg97
    dsimp only [Gz]
    clear Gz
    have hi : i < 3 := hi
    have hci : [((64 + fig a : Nat) : Int), ((64 + fig b : Nat) : Int), ((128 + fig c : Nat) : Int)][i]? = some (c' : Int) := by
      have : i = 0 ∨ i = 1 ∨ i = 2 := by (walk_at "my o")
      rcases this with rfl | rfl | rfl <;> (simp [wordT] at hc'; subst hc'; rfl)
    refine CTurn.nil ?_
    refine letPost ?_
    intro K3
    k_steps
    (try dsimp +zetaDelta only)
    (refine' CE.intro (by k_asm) (by k_asm) _ ?subq33 (by assumption) ?Jq33; (case subq33 => first | exact fun _ h => h | exact fun _ h => .tail _ h | exact fun _ h => .tail _ (.tail _ h) | exact fun _ h => .tail _ (.tail _ (.tail _ h)) | exact fun _ h => .tail _ (.tail _ (.tail _ (.tail _ h))) | exact fun _ h => .tail _ (.tail _ (.tail _ (.tail _ (.tail _ h))))); refine KEnd.intro ?_)
    rw [List.take_add_one, hci]
    exact IntsAre.append hJ (.cons _ _ .nil))
  (case fin =>
    rintro ys hJ D h tk F N off
    have hJ : IntsAre ys [((64 + fig a : Nat) : Int), ((64 + fig b : Nat) : Int), ((128 + fig c : Nat) : Int)] := hJ
    cases hJ with
    | cons _ u1 hJ =>
    cases hJ with
    | cons _ u2 hJ =>
    cases hJ with
    | cons _ u3 hJ =>
    cases hJ
    k_steps
    show wpAny _ _ _ _ _ _
    k_dflt (refine' Con.useS (varint_ok prog w p loose mean mg mb _ _ _ _ _ _ _ _ _ _ ?pI ?pL hV) ?B ?F ?X ?N ?T ?A ?f ?k ?d ?u ?S ?pre ?ret)
    ((case B => k_asm); (case F => k_asm); (case X => k_asm); (case N => k_asm); (case T => k_asm); (case A => exact rfl); (case f => exact rfl); (case k => exact rfl); (case d => k_room); (case u => k_units); (case S => walk_at "my split"); (case pre => first | exact trivial | skip))
    (case pI => assumption)
    (case pL => (walk_at "my o"))
    intro v h' tk' nw' F' N' zg98 zg99
    refine letGoal ?_
    intro Gz
    obtain ⟨t4, rfl, oI', rfl⟩ := zg98
    clear zg99
    dsimp only [Gz]
    clear Gz
    dsimp only [List.nil_append, List.cons_append] at N'
    k_steps
    show wpAny _ _ _ _ _ _
    refine' comp_list_keep (its := _) (k := _) ?hh9 (fun i ys => IntsAre ys ([(a : Int), b, c].take i)) ?F9 ?N9 ?hm9 ?sz9 ?c19 ?c29 ?c39 ?h09 ?turn9 ?fin9
    (case hh9 => rfl)
    (case F9 => k_asm)
    (case N9 => k_asm)
    (case hm9 => k_mem)
    (case sz9 => (show 3 ≤ sizeLine); (rw [sizeLine_eq]; decide))
    (case c19 => decide)
    (case c29 => rfl)
    (case c39 => rfl)
    (case h09 => exact IntsAre.nil)
    (case turn9 =>
      rintro i v ys I oI C oC mC D h tk hi hv hJ hoC hxx F N off ne
      have hi : i < 3 := hi
      obtain ⟨q, t, rfl, hci⟩ : Ex2 fun (q : Nat) (t : Tok) => v = .int (fig q : Int) t ∧ [(a : Int), b, c][i]? = some (q : Int) := by
        have : i = 0 ∨ i = 1 ∨ i = 2 := by (walk_at "my o")
        rcases this with rfl | rfl | rfl <;> cases hv
        · exact ⟨a, _, congrArg (Value.int · _) f1, rfl⟩
        · exact ⟨b, _, congrArg (Value.int · _) f2, rfl⟩
        · exact ⟨c, _, congrArg (Value.int · _) f3, rfl⟩
      refine CTurn.nil ?_
      refine letPost ?_
      intro K3
      k_steps
      · (try dsimp +zetaDelta only)
        (refine' CE.intro (by k_asm) (by k_asm) _ ?subq34 (by assumption) ?Jq34; (case subq34 => first | exact fun _ h => h | exact fun _ h => .tail _ h | exact fun _ h => .tail _ (.tail _ h) | exact fun _ h => .tail _ (.tail _ (.tail _ h)) | exact fun _ h => .tail _ (.tail _ (.tail _ (.tail _ h))) | exact fun _ h => .tail _ (.tail _ (.tail _ (.tail _ (.tail _ h))))); refine KEnd.intro ?_)
        rw [List.take_add_one, hci]
        refine IntsAre.append hJ ?_
        rw [fig_small ‹_›]
        exact .cons _ _ .nil
      · (try dsimp +zetaDelta only)
        (refine' CE.intro (by k_asm) (by k_asm) _ ?subq35 (by assumption) ?Jq35; (case subq35 => first | exact fun _ h => h | exact fun _ h => .tail _ h | exact fun _ h => .tail _ (.tail _ h) | exact fun _ h => .tail _ (.tail _ (.tail _ h)) | exact fun _ h => .tail _ (.tail _ (.tail _ (.tail _ h))) | exact fun _ h => .tail _ (.tail _ (.tail _ (.tail _ (.tail _ h))))); refine KEnd.intro ?_)
        rw [List.take_add_one, hci]
        refine IntsAre.append hJ ?_
        rw [fig_big ‹_›]
        exact .cons _ _ .nil)
    (case fin9 =>
      rintro ys hJ D h tk F N off
      have hJ : IntsAre ys [(a : Int), b, c] := hJ
      cases hJ with
      | cons _ u1 hJ =>
      cases hJ with
      | cons _ u2 hJ =>
      cases hJ with
      | cons _ u3 hJ =>
      cases hJ
      k_steps
      (try dsimp only)
      (try dsimp +zetaDelta only)
      refine' fin_head1 ?Fe ?Ne ?Re
      (case Fe => k_asm)
      (case Ne => k_asm)
      exact ⟨_, _, _, _, _, rfl, rfl⟩))
end W2ROWS
end
section
section W2SPELL
noncomputable def esc2 (c : Nat) : List Nat := if c = 32 ∨ c = 9 ∨ c = 13 ∨ c = 10 ∨ c = 92 then [92, c] else [c]
noncomputable def bareS (cs : List Nat) : List Nat := (if cs.head? = some 34 then [92] else []) ++ (cs.map esc2).flatten
noncomputable def quotS (x : Str) : Str := Str.ofString "\"" ++ Txt.replace (Txt.replace x (Str.ofString "\\") (Str.ofString "\\\\")) (Str.ofString "\"") (Str.ofString "\\\"") ++ Str.ofString "\""
local macro_rules | `(tactic| walk_at "execs cons") => `(tactic| (k_here; refine gen_toks_pos (Nat.succ_pos _) ?_; intro _ _))
local macro_rules | `(tactic| walk_at "my tok") => `(tactic| first | walk_at "my o" | exact Nat.ne_of_gt (by assumption) | exact Nat.succ_ne_zero _ | exact Nat.ne_of_lt (Nat.lt_succ_self _) | (simp; walk_at "my o") | simp)
local macro_rules | `(tactic| walk_at "call builtin:str.replace") => `(tactic| (k_here; (show wpAny _ _ (call _ [.str _ _, .str _ _, .str _ _]) _ _ _); k_dflt (refine' replaceK (by walk_at "my tok") (by walk_at "my tok") (by walk_at "my tok") (by decide) ?x (by decide) ?_; (case x => first | assumption | exact Nat.le_trans (by assumption) (by decide) | (show Array.size _ ≤ _; walk_at "my o"))); intro _ _ hk'; dsimp only at hk'))
theorem qlen : (Str.ofString "\"").length = 1 := by decide
local macro_rules | `(tactic| walk_at "binaryOp Add str str") => `(tactic| (k_here; (with_reducible show wpAny _ _ (binaryOp .Add (.str _ _) (.str _ _)) _ _ _); k_dflt (refine KOpn.add (by first | walk_at "my o" | (simp only [PySem.Str.length_append, qlen]; walk_at "my o")) ?_); intro _ _ _))
theorem blk_occ (c : Nat) : (Builtin.Str.occurrences (Str.ofString " \t\x0d\n\\") { cps := #[c] } 0 (Str.ofString " \t\x0d\n\\").length 1).isEmpty = !decide (c = 32 ∨ c = 9 ∨ c = 13 ∨ c = 10 ∨ c = 92) := by
  rw [empty_one]
  have e : (Str.ofString " \t\x0d\n\\").cps.toList = [32, 9, 13, 10, 92] := by decide +kernel
  rw [e]
  simp
theorem blk_t {c : Nat} (h : (Builtin.Str.occurrences (Str.ofString " \t\x0d\n\\") { cps := #[c] } 0 (Str.ofString " \t\x0d\n\\").length 1).isEmpty = true) : esc2 c = [c] := by
  rw [blk_occ] at h
  exact if_neg (of_decide_eq_false (by simpa only [Bool.not_eq_true'] using h))
theorem blk_f {c : Nat} (h : (Builtin.Str.occurrences (Str.ofString " \t\x0d\n\\") { cps := #[c] } 0 (Str.ofString " \t\x0d\n\\").length 1).isEmpty = false) : esc2 c = [92, c] := by
  rw [blk_occ] at h
  exact if_pos (of_decide_eq_true (by simpa only [Bool.not_eq_false'] using h))
theorem StrsAre2_append : ∀ {vs us : List Value} {xs ys : List Str}, StrsAre vs xs → StrsAre us ys → StrsAre (vs ++ us) (xs ++ ys)
  | _, _, _, _, .nil, h => h
  | _, _, _, _, .cons x t h', h => .cons x t (StrsAre2_append h' h)
theorem esc_step2 {cs : List Nat} {i c : Nat} {ys : List Value} {z : Str} {u : Tok} (hJ : StrsAre ys (((cs.take i).map esc2).map (⟨·.toArray⟩))) (hc : cs[i]? = some c) (hz : z = ⟨(esc2 c).toArray⟩) :
    StrsAre (ys ++ [.str z u]) (((cs.take (i + 1)).map esc2).map (⟨·.toArray⟩)) := by
  subst hz
  rw [List.take_add_one, hc]
  simp only [Option.toList, List.map_append, List.map_cons, List.map_nil]
  exact StrsAre2_append hJ (.cons _ _ .nil)
theorem head1 (cs : List Nat) : Txt.slice ⟨cs.toArray⟩ none (some 1) = ⟨(cs.take 1).toArray⟩ := by
  cases cs with
  | nil => rfl
  | cons c r =>
    have := eq_of_beq (slice_closes_toL (x := ⟨(c :: r).toArray⟩) (j := 1) (by decide) (by show (1 : Int) ≤ ((c :: r).toArray.size : Int); simp; (walk_at "my o")))
    rw [this]; simp
theorem head_q (cs : List Nat) : (Txt.slice ⟨cs.toArray⟩ none (some 1) == Str.ofString "\"") = decide (cs.head? = some 34) := by
  rw [head1]
  have e : Str.ofString "\"" = ⟨#[34]⟩ := by decide +kernel
  rw [e]
  cases cs with
  | nil => decide
  | cons c r =>
    by_cases h : c = 34
    · subst h; simp
    · simp [h]
theorem flat_e (r : List Nat) : Str.ofString "" ++ ⟨r.toArray⟩ = (⟨([] ++ r).toArray⟩ : Str) := str_nilL r
theorem flat_b (r : List Nat) : Str.ofString "\\" ++ ⟨r.toArray⟩ = (⟨([92] ++ r).toArray⟩ : Str) := str_pushL [92] r
theorem esc2_len (c : Nat) : (esc2 c).length ≤ 2 := by unfold esc2; split <;> simp
theorem esc_sum : ∀ cs : List Nat, (((cs.map esc2).map fun c => (⟨c.toArray⟩ : Str)).map (·.length)).sum ≤ 2 * cs.length
  | [] => Nat.le_refl _
  | c :: r => by
    have := esc_sum r
    have h := esc2_len c
    simp only [List.map_cons, List.sum_cons, List.length_cons]
    have e : (⟨(esc2 c).toArray⟩ : Str).length = (esc2 c).length := by show (esc2 c).toArray.size = _; simp
    (walk_at "my o")
theorem esc_flat (cs : List Nat) : ((cs.map esc2).flatten).length ≤ 2 * cs.length := by
  induction cs with
  | nil => exact Nat.le_refl _
  | cons c r ih =>
    have h := esc2_len c
    simp only [List.map_cons, List.flatten_cons, List.length_append, List.length_cons]
    (walk_at "my o")
theorem spelled2_ok (cs : List Nat) (t : Tok) (i : Int) (u : Tok) (hl : cs.length ≤ 10) (h1 : (Txt.replace ⟨cs.toArray⟩ (Str.ofString "\\") (Str.ofString "\\\\")).length ≤ 1000)
   (h2 : (Txt.replace (Txt.replace ⟨cs.toArray⟩ (Str.ofString "\\") (Str.ofString "\\\\")) (Str.ofString "\"") (Str.ofString "\\\"")).length ≤ 1000) :
   Con prog w (hd2.heap_1 w.params) p loose mean mg mb 4 (.ref 236) ⟨[.str ⟨cs.toArray⟩ t, .int i u], []⟩ (fun _ => True) []
     (fun v nw' => (∃ t, v = .str (if i = 0 then ⟨(bareS cs).toArray⟩ else quotS ⟨cs.toArray⟩) t) ∧ nw' = []) := by
  have hz : (⟨cs.toArray⟩ : Str).length ≤ 1000 := by show cs.toArray.size ≤ 1000; simp; (walk_at "my o")
  intro dp un gd outer A₀ base g s B O X T hpre hd hu
  k_dflt ((first | (refine' enterK (by k_asm) (by k_asm) (by k_asm) (by k_is) (by k_is) (by first | walk_at "my r" | lia) (by first | exact BindsTo.of_eq rfl | exact binds_K (Frag.In.keeps (by assumption) (Out.keep (by assumption))) rfl (by k_is) rfl rfl rfl | fail "enter: arguments") ?kBq5 (by decide) (by rfl) (by rfl) (by rfl) ?_; (case kBq5 => exact locs rfl); k_whole; intro Lq hq Fq Nq l1q; (try k_lt l1q); (try dsimp only); (try k_fold)) | walk_at "my enterC"))
  refine letPost ?_
  intro K1
  k_steps
  · (try dsimp only)
    (try dsimp +zetaDelta only)
    refine' fin_none ?Fe ?Ne ?Re
    (case Fe => k_asm)
    (case Ne => k_asm)
    exact ⟨⟨_, by rw [if_neg ‹_›]; rfl⟩, rfl⟩
  · show wpAny _ _ _ _ _ _
    refine' comp_str_keep ?hh (fun i ys => StrsAre ys (((cs.take i).map esc2).map (⟨·.toArray⟩))) ?F ?N ?sz ?c1 ?c2 ?c3 ?h0 ?turn ?fin
    (case hh => rfl)
    (case F => k_asm)
    (case N => k_asm)
    (case sz => (rw [sizeLine_eq]; simp; (walk_at "my o")))
    (case c1 => decide)
    (case c2 => rfl)
    (case c3 => rfl)
    (case h0 => exact .nil)
    (case turn =>
      intro i v ys I oI C oC mC D h tk hi zg44 hJ hoC hxx F N off ne
      refine letGoal ?_
      intro Gz
      obtain ⟨c', u, hc', rfl⟩ := zg44
      dsimp only [Gz]
      clear Gz
      have hci : cs[i]? = some c' := by simpa using hc'
      refine CTurn.nil ?_
      refine letPost ?_
      intro K3
      k_steps
      · (try dsimp +zetaDelta only)
        (refine' CE.intro (by k_asm) (by k_asm) _ ?subq6 (by assumption) ?Jq6; (case subq6 => first | exact fun _ h => h | exact fun _ h => .tail _ h | exact fun _ h => .tail _ (.tail _ h) | exact fun _ h => .tail _ (.tail _ (.tail _ h)) | exact fun _ h => .tail _ (.tail _ (.tail _ (.tail _ h))) | exact fun _ h => .tail _ (.tail _ (.tail _ (.tail _ (.tail _ h))))); refine KEnd.intro ?_)
        exact esc_step2 hJ hci (by rw [blk_t ‹_›])
      · (try dsimp +zetaDelta only)
        (refine' CE.intro (by k_asm) (by k_asm) _ ?subq7 (by assumption) ?Jq7; (case subq7 => first | exact fun _ h => h | exact fun _ h => .tail _ h | exact fun _ h => .tail _ (.tail _ h) | exact fun _ h => .tail _ (.tail _ (.tail _ h)) | exact fun _ h => .tail _ (.tail _ (.tail _ (.tail _ h))) | exact fun _ h => .tail _ (.tail _ (.tail _ (.tail _ (.tail _ h))))); refine KEnd.intro ?_)
        refine esc_step2 hJ hci ?_
        rw [blk_f ‹_›]
        rfl)
    (case fin =>
      rintro ys hJ
      refine ⟨_, _, rfl, rfl, rfl, rfl, ?_⟩
      intro D h tk F N off
      have hJ : StrsAre ys ((cs.map esc2).map (⟨·.toArray⟩)) := by
        have e : List.take (⟨cs.toArray⟩ : Str).cps.size cs = cs := by simp
        rwa [e] at hJ
      have hsum := esc_sum cs
      have hfl := esc_flat cs
      k_steps
      · show wpAny _ _ _ _ _ _
        refine' join_led (its := ys.toArray) ?F3 ?N3 (.head _) ?i3 ?o3 ?_
        (case F3 => k_asm)
        (case N3 => k_asm)
        (case i3 => exact hJ)
        (case o3 => (simp only [List.length_map] at *; (show _ + _ * 0 ≤ _); (walk_at "my o")))
        intro t' k' F3 N3
        rw [join_flat]
        k_steps
        (try dsimp only)
        (try dsimp +zetaDelta only)
        refine' fin_tail ?Fg ?Ng ?Rg
        (case Fg => k_asm)
        (case Ng => k_asm)
        have hq : cs.head? = some 34 := of_decide_eq_true (by rw [← head_q]; assumption)
        exact ⟨⟨_, by rw [if_pos ‹_›, bareS, if_pos hq, flat_b]⟩, rfl⟩
      · show wpAny _ _ _ _ _ _
        refine' join_led (its := ys.toArray) ?F4 ?N4 (.head _) ?i4 ?o4 ?_
        (case F4 => k_asm)
        (case N4 => k_asm)
        (case i4 => exact hJ)
        (case o4 => (simp only [List.length_map] at *; (show _ + _ * 0 ≤ _); (walk_at "my o")))
        intro t' k' F3 N3
        rw [join_flat]
        k_steps
        (try dsimp only)
        (try dsimp +zetaDelta only)
        refine' fin_tail ?Ff ?Nf ?Rf
        (case Ff => k_asm)
        (case Nf => k_asm)
        have hq : ¬ cs.head? = some 34 := of_decide_eq_false (by rw [← head_q]; assumption)
        exact ⟨⟨_, by rw [if_pos ‹_›, bareS, if_neg hq, flat_e]⟩, rfl⟩)
end W2SPELL
end
section
section W2RAISE
local macro_rules | `(tactic| walk_at "getMethod ref") => `(tactic| (k_here; (with_reducible show wpAny _ _ (getMethod (.ref _) (PySem.Str.ofString "search") _) _ _ _); k_dflt (refine' search_method (by exact Fr.keep (by k_asm) _ _ ((by k_asm : Frag.In _ _) _ _ (by k_is))) (by rfl) (by rfl) ?_); k_whole))
local macro_rules | `(tactic| walk_at "my enterE") => `(tactic| (refine' enterKE (by k_asm) (by k_asm) (by k_asm) (by k_is) (by k_is) (by first | walk_at "my r" | walk_at "my o") (by first | exact BindsTo.of_eq rfl | exact binds_K (Frag.In.keeps (by assumption) (Out.keep (by assumption))) rfl (by k_is) rfl rfl rfl | fail "enter: arguments") (by exact locs rfl) (by decide) (by rfl) (by rfl) (by rfl) ?_; k_whole; intro _ _ _ _ l1q; (try k_lt l1q); (try dsimp only); (try k_fold)))
local macro_rules | `(tactic| walk_at "call builtin:re.Pattern.search") => `(tactic| (k_here; (with_reducible show wpAny _ _ (call _ [.ref _, .str _ _]) _ _ _); k_dflt (
  (refine' search_led (by k_asm) (by k_asm) (by exact Fr.keep (by k_asm) _ _ ((by k_asm : Frag.In _ _) _ _ (by k_is))) (by exact Fr.keep (by k_asm) _ _ ((by k_asm : Frag.In _ _) _ _ (by k_is))) (by assumption) (by walk_at "my o") ?_)); k_whole; intro _ _ _ _ _))
local macro_rules | `(tactic| walk_at "leaving ref") => `(tactic| (refine stopI ?_))
local macro_rules | `(tactic| walk_at "truthy ref") => `(tactic| (k_here; k_dflt (refine truthy_match ((by k_asm : News _ _ _ _) _ (.head _)).1 ?_); k_whole))
theorem convert_raise (h : Addr) (x : Str) (t : Tok) (hx : hitIn nameCode x.cps = true) (hz : x.cps.size < 2 ^ 62) :
   ConE prog w (hd2.heap_1 w.params) p loose mean mg mb 3 (.ref 119) ⟨[.ref h, .str x t], [(Str.ofString "name", .bool true)]⟩ [] "ValueError" := by
  intro dp un gd outer A₀ base g s B O X T hd hu
  k_dflt (walk_at "my enterE")
  k_steps
  refine' leave_newS ?K ?h ?F (news := []) ?N ?Q
  (case K => exact ⟨rfl, B.stays, B.frames⟩)
  (case h => assumption)
  (case F => k_asm)
  (case N => exact fun q hq => absurd hq (List.not_mem_nil))
  rintro h' R - U
  exact ⟨_, _, _, rfl, rfl, R, U⟩
local macro_rules | `(tactic| walk_at "call builtin:str.lower") => `(tactic| (k_here; (show wpAny _ _ (call _ [.str _ _]) _ _ _); k_dflt (refine' KXw.lower rfl (by exact fit_lower (by assumption)) ?_; k_whole); intro _ _))
local macro_rules | `(tactic| walk_at "call ref") => `(tactic| first
  | (with_reducible refine haltC 119 ?_)
  | (with_reducible refine haltC 167 ?_))
theorem get_raise (a : HdA) (u : Tok) (rows : List Row) (n : Nat) (x : Str) (t : Tok) (hx : hitIn nameCode (Txt.lower x).cps = true) (hz : (Txt.lower x).cps.size ≤ 1000) :
   ConE prog w (hd2.heap_1 w.params) p loose mean mg mb 4 (.ref 167) ⟨[.ref a.h, .str x t], []⟩ (hdLed w 220 a u rows n) "ValueError" := by
  intro dp un gd outer A₀ base g s B O X T hd hu
  k_dflt (walk_at "my enterE")
  k_steps
  show wpAny _ _ _ _ _ _
  refine' ConE.use (convert_raise prog w p loose mean mg mb a.h (Txt.lower x) _ hx (by (walk_at "my o"))) ?B ?F ?X ?N ?T ?A ?f ?k ?d ?u Split.nil ?ret
  (case B => k_asm)
  (case F => k_asm)
  (case X => k_asm)
  (case N => k_asm)
  (case T => k_asm)
  (case A => exact rfl)
  (case f => exact rfl)
  (case k => exact rfl)
  (case d => k_room)
  (case u => k_units)
  intro e h' tk' G FG R U
  refine leave_onSN ⟨rfl, B.stays, B.frames⟩ FG R U ?_
  rintro h' R - U
  exact ⟨_, _, _, rfl, rfl, R, U⟩
theorem setdefault_raise (a : HdA) (u : Tok) (rows : List Row) (n : Nat) (x : Str) (t : Tok) (y : Str) (ty : Tok) (hx : hitIn nameCode (Txt.lower x).cps = true) (hz : (Txt.lower x).cps.size ≤ 1000) :
   ConE prog w (hd2.heap_1 w.params) p loose mean mg mb 6 (.ref 210) ⟨[.ref a.h, .str x t, .str y ty], []⟩ (hdLed w 220 a u rows n) "ValueError" := by
  intro dp un gd outer A₀ base g s B O X T hd hu
  k_dflt (walk_at "my enterE")
  k_steps
  show wpAny _ _ _ _ _ _
  refine' ConE.useA (rest := []) (get_raise prog w p loose mean mg mb a u rows n x t hx hz) ?B ?F ?X ?N ?T ?A ?f ?k ?d ?u (fun q hq => hq) (fun r hr => absurd hr List.not_mem_nil) ?ret
  (case B => k_asm)
  (case F => k_asm)
  (case X => k_asm)
  (case N => k_asm)
  (case T => k_asm)
  (case A => exact rfl)
  (case f => exact rfl)
  (case k => exact rfl)
  (case d => k_room)
  (case u => k_units)
  intro e h' tk' G FG R U
  rw [List.append_nil] at R
  refine leave_onSN ⟨rfl, B.stays, B.frames⟩ FG R U ?_
  rintro h' R - U
  exact ⟨_, _, _, rfl, rfl, R, U⟩
end W2RAISE
end
section
section W2ONES
noncomputable def onesN (r : Nat) : Nat := r % 2 + r / 2 % 2 + r / 4 % 2 + r / 8
theorem ones_fact : ∀ r : _root_.Fin 16, ((r.val : Nat) : Int).fmod 2 + (((r.val : Nat) : Int).fdiv 2).fmod 2 + (((r.val : Nat) : Int).fdiv 4).fmod 2 + ((r.val : Nat) : Int).fdiv 8 = (onesN r.val : Int) := by decide +kernel
theorem ones2_ok (r : Nat) (t : Tok) (hr : r < 16) :
   Con prog w (hd2.heap_1 w.params) p loose mean mg mb 3 (.ref 265) ⟨[.int r t], []⟩ (fun _ => True) []
     (fun v nw' => (∃ t, v = .int (onesN r) t) ∧ nw' = []) := by
  intro dp un gd outer A₀ base g s B O X T hpre hd hu
  k_dflt ((first | (refine' enterK (by k_asm) (by k_asm) (by k_asm) (by k_is) (by k_is) (by first | walk_at "my r" | lia) (by first | exact BindsTo.of_eq rfl | exact binds_K (Frag.In.keeps (by assumption) (Out.keep (by assumption))) rfl (by k_is) rfl rfl rfl | fail "enter: arguments") ?kBq58 (by decide) (by rfl) (by rfl) (by rfl) ?_; (case kBq58 => exact locs rfl); k_whole; intro Lq hq Fq Nq l1q; (try k_lt l1q); (try dsimp only); (try k_fold)) | walk_at "my enterC"))
  k_steps
  (try dsimp only)
  refine' fin_none ?Fe ?Ne ?Re
  (case Fe => k_asm)
  (case Ne => k_asm)
  have e := ones_fact ⟨r, hr⟩
  dsimp only at e
  exact ⟨⟨_, by rw [e]⟩, rfl⟩
end W2ONES
end
section
noncomputable def stmtAt (b : List Stmt) (k : Nat) : Stmt := match b[k]? with | some s => s | none => .Pass ⟨0,0,0,0⟩
noncomputable def bodyOfF : Stmt → List Stmt | .FunctionDef _ _ b _ _ _ _ _ _ _ => b | _ => []
noncomputable def scopeOf : Stmt → Scope | .FunctionDef _ _ _ _ _ _ s _ _ _ => s | _ => ⟨.module, [], false, false, []⟩
noncomputable def forBody : Stmt → List Stmt | .For _ _ b _ _ => b | _ => []
noncomputable def lawFn2 (k : Nat) : Stmt := stmtAt PySem.Challenge.pw_rw0090_02.main.body k
section W2MV0
noncomputable def bits4 : List Nat := [1, 2, 4, 8]
noncomputable def picks (x y : Nat) : List Nat := bits4.flatMap fun p => if x &&& p = 0 then [] else (bits4.filter fun q => y &&& q != 0).map (p + ·)
noncomputable def picksTo (x y i : Nat) : List Nat := (bits4.take i).flatMap fun p => if x &&& p = 0 then [] else (bits4.filter fun q => y &&& q != 0).map (p + ·)
noncomputable def innerTo (y p i : Nat) : List Nat := ((bits4.take i).filter fun q => y &&& q != 0).map (p + ·)
noncomputable def movedP (x y : Nat) : List Nat := picks (x &&& (15 - y)) (y &&& (15 - x))
noncomputable def movedK (a b c : Nat) : Nat → List (Nat × Nat × Nat)
  | 0 => []
  | 1 => (movedP a b).map fun s => (a ^^^ s, b ^^^ s, c)
  | 2 => ((movedP a b).map fun s => (a ^^^ s, b ^^^ s, c)) ++ (movedP a c).map fun s => (a ^^^ s, b, c ^^^ s)
  | _ => ((movedP a b).map fun s => (a ^^^ s, b ^^^ s, c)) ++ ((movedP a c).map fun s => (a ^^^ s, b, c ^^^ s)) ++ (movedP b c).map fun s => (a, b ^^^ s, c ^^^ s)
noncomputable def wdOf (t : Nat × Nat × Nat) : Str := wordT t.1 t.2.1 t.2.2
theorem xor16 : ∀ a s : _root_.Fin 16, a.val ^^^ s.val < 16 := by decide
theorem xor_lt {a s : Nat} (ha : a < 16) (hs : s < 16) : a ^^^ s < 16 := xor16 ⟨a, ha⟩ ⟨s, hs⟩
theorem here_fact : ∀ (x : _root_.Fin 16) (y : _root_.Fin 16), Builtin.bitAnd ((x.val : Nat) : Int) (15 - ((y.val : Nat) : Int)) = ((x.val &&& (15 - y.val) : Nat) : Int) ∧ x.val &&& (15 - y.val) < 16 := by decide +kernel
theorem and_fact : ∀ (x : _root_.Fin 16) (y : _root_.Fin 16), Builtin.bitAnd ((x.val : Nat) : Int) ((y.val : Nat) : Int) = ((x.val &&& y.val : Nat) : Int) := by decide +kernel
theorem bits_at {i : Nat} {v : Value} {t1 t2 t3 t4 : Tok} (h : (#[.int 1 t1, .int 2 t2, .int 4 t3, .int 8 t4] : Array Value)[i]? = some v) : Ex2 fun p t => And3 (v = .int ((p : Nat) : Int) t) (bits4[i]? = some p) (p < 16) := by
  have : i = 0 ∨ i = 1 ∨ i = 2 ∨ i = 3 := by
    have := (Array.getElem?_eq_some_iff.mp h).1
    simp only [List.size_toArray, List.length_cons, List.length_nil] at this
    (walk_at "my o")
  rcases this with rfl | rfl | rfl | rfl <;> cases h
  · exact ⟨1, _, rfl, rfl, by decide⟩
  · exact ⟨2, _, rfl, rfl, by decide⟩
  · exact ⟨4, _, rfl, rfl, by decide⟩
  · exact ⟨8, _, rfl, rfl, by decide⟩
theorem picksTo_zero {x y i p : Nat} (h : bits4[i]? = some p) (hp : x &&& p = 0) : picksTo x y (i + 1) = picksTo x y i := by
  unfold picksTo
  rw [List.take_add_one, h, List.flatMap_append]
  simp [hp]
theorem picksTo_succ {x y i p : Nat} (h : bits4[i]? = some p) (hp : x &&& p ≠ 0) : picksTo x y (i + 1) = picksTo x y i ++ innerTo y p 4 := by
  unfold picksTo innerTo
  rw [List.take_add_one, h, List.flatMap_append]
  simp [hp, bits4]
theorem innerTo_zero {y p i q : Nat} (h : bits4[i]? = some q) (hq : y &&& q = 0) : innerTo y p (i + 1) = innerTo y p i := by
  unfold innerTo
  rw [List.take_add_one, h, List.filter_append]
  simp [hq]
theorem innerTo_succ {y p i q : Nat} (h : bits4[i]? = some q) (hq : y &&& q ≠ 0) : innerTo y p (i + 1) = innerTo y p i ++ [p + q] := by
  unfold innerTo
  rw [List.take_add_one, h, List.filter_append, List.map_append]
  simp [hq]
theorem and_zero {x p : Nat} (hx : x < 16) (hp : p < 16) (h : Builtin.bitAnd ((x : Nat) : Int) ((p : Nat) : Int) = 0) : x &&& p = 0 := by
  have e := and_fact ⟨x, hx⟩ ⟨p, hp⟩
  dsimp only at e
  rw [e] at h; (walk_at "my o")
theorem and_one {x p : Nat} (hx : x < 16) (hp : p < 16) (h : Builtin.bitAnd ((x : Nat) : Int) ((p : Nat) : Int) ≠ 0) : x &&& p ≠ 0 := fun q => h (by
  have e := and_fact ⟨x, hx⟩ ⟨p, hp⟩
  dsimp only at e
  rw [e, q]; rfl)
theorem picks_len (x y p i k : Nat) : (picksTo x y i).length + (innerTo y p k).length < 1000000 := by
  have h1 : ∀ y p k, (innerTo y p k).length ≤ 4 := fun y p k => by
    unfold innerTo
    rw [List.length_map]
    refine Nat.le_trans (List.length_filter_le _ _) ?_
    rw [List.length_take]
    exact Nat.min_le_right _ _
  have h2 : (picksTo x y i).length ≤ 16 := by
    unfold picksTo
    rw [List.length_flatMap]
    have key : ∀ l : List Nat, (l.map fun p => (if x &&& p = 0 then [] else (bits4.filter fun q => y &&& q != 0).map (p + ·)).length).sum ≤ 4 * l.length := by
      intro l
      induction l with
      | nil => exact Nat.le_refl _
      | cons a r ih =>
        simp only [List.map_cons, List.sum_cons, List.length_cons]
        have : (if x &&& a = 0 then [] else (bits4.filter fun q => y &&& q != 0).map (a + ·)).length ≤ 4 := by
          split
          · exact Nat.zero_le _
          · rw [List.length_map]; exact List.length_filter_le _ _
        (walk_at "my o")
    refine Nat.le_trans (key _) ?_
    have : (bits4.take i).length ≤ 4 := by rw [List.length_take]; exact Nat.min_le_right _ _
    (walk_at "my o")
  have := h1 y p k
  (walk_at "my o")
theorem picks_fact : ∀ (x : _root_.Fin 16) (y : _root_.Fin 16), ((picks (x.val &&& (15 - y.val)) (y.val &&& (15 - x.val))).all fun s => s < 16) = true ∧ (picks (x.val &&& (15 - y.val)) (y.val &&& (15 - x.val))).length ≤ 4 := by decide +kernel
theorem picks16 {x y : Nat} (hx : x < 16) (hy : y < 16) : (∀ s ∈ picks (x &&& (15 - y)) (y &&& (15 - x)), s < 16) ∧ (picks (x &&& (15 - y)) (y &&& (15 - x))).length ≤ 4 := by
  obtain ⟨h, h2⟩ := picks_fact ⟨x, hx⟩ ⟨y, hy⟩
  dsimp only at h h2
  exact ⟨fun s hs => of_decide_eq_true (List.all_eq_true.mp h s hs), h2⟩
theorem xor_fact : ∀ (x : _root_.Fin 16) (y : _root_.Fin 16), Builtin.bitXor ((x.val : Nat) : Int) ((y.val : Nat) : Int) = ((x.val ^^^ y.val : Nat) : Int) := by decide +kernel
theorem ints_nat_at {vs : List Value} {ns : List Nat} (h : IntsAre vs (ns.map Int.ofNat)) {r : Nat} {v : Value} (e : vs[r]? = some v) : Ex2 fun s t => v = .int ((s : Nat) : Int) t ∧ ns[r]? = some s := by
  induction ns generalizing vs r with
  | nil => cases h; cases e
  | cons a rest ih =>
    cases h with
    | cons _ t h' =>
      cases r with
      | zero => cases e; exact ⟨a, t, rfl, rfl⟩
      | succ r => exact ih h' e
theorem off_keys {A B : List (Addr × Obj)} {I : Addr} (e : A.map (·.1) = B.map (·.1)) (h : ∀ p ∈ A, p.1 ≠ I) : ∀ p ∈ B, p.1 ≠ I := fun p hp => by
  have : p.1 ∈ A.map (·.1) := e ▸ List.mem_map_of_mem hp
  obtain ⟨q, hq, e'⟩ := List.mem_map.mp this
  rw [← e']
  exact h q hq
theorem StrsAre3_append : ∀ {vs us : List Value} {xs ys : List Str}, StrsAre vs xs → StrsAre us ys → StrsAre (vs ++ us) (xs ++ ys)
  | _, _, _, _, .nil, h => h
  | _, _, _, _, .cons x t h', h => .cons x t (StrsAre3_append h' h)
theorem mem_four {α : Type} {q a b c d : α} {R : List α} (h : q ∈ a :: b :: c :: d :: R) : q ∈ d :: a :: b :: c :: R := memSw (P := [a, b, c]) (H := [d]) h
/-- a pair of rows, and what an exchange in them makes of the table -/
structure PairAt (its : Array Value) (a b c k i j x y : Nat) (tx ty : Tok) (up : Nat → Nat × Nat × Nat) : Prop where
  hi : its[i]? = some (.int (x : Int) tx)
  hj : its[j]? = some (.int (y : Int) ty)
  hx : x < 16
  hy : y < 16
  li : i < 3
  lj : j < 3
  step : movedK a b c (k + 1) = movedK a b c k ++ (movedP x y).map up
  turned : ∀ s, s < 16 → ∀ t1 t2 : Tok, Ex6 fun (u1 u2 u3 : Nat) (t1' t2' t3' : Tok) => And5 ((its.toList.set i (.int ((x ^^^ s : Nat) : Int) t1)).set j (.int ((y ^^^ s : Nat) : Int) t2) = [.int (u1 : Int) t1', .int (u2 : Int) t2', .int (u3 : Int) t3']) (u1 < 16) (u2 < 16) (u3 < 16) (up s = (u1, u2, u3))
theorem pairAt {a b c : Nat} {ta tb tc : Tok} (ha : a < 16) (hb : b < 16) (hc : c < 16) : PairAt #[.int a ta, .int b tb, .int c tc] a b c 0 0 1 a b ta tb (fun s => (a ^^^ s, b ^^^ s, c)) ∧ PairAt #[.int a ta, .int b tb, .int c tc] a b c 1 0 2 a c ta tc (fun s => (a ^^^ s, b, c ^^^ s)) ∧ PairAt #[.int a ta, .int b tb, .int c tc] a b c 2 1 2 b c tb tc (fun s => (a, b ^^^ s, c ^^^ s)) :=
  ⟨⟨rfl, rfl, ha, hb, by decide, by decide, rfl, fun s hs t1 t2 => ⟨_, _, _, _, _, _, rfl, xor_lt ha hs, xor_lt hb hs, hc, rfl⟩⟩,
   ⟨rfl, rfl, ha, hc, by decide, by decide, rfl, fun s hs t1 t2 => ⟨_, _, _, _, _, _, rfl, xor_lt ha hs, hb, xor_lt hc hs, rfl⟩⟩,
   ⟨rfl, rfl, hb, hc, by decide, by decide, rfl, fun s hs t1 t2 => ⟨_, _, _, _, _, _, rfl, ha, xor_lt hb hs, xor_lt hc hs, rfl⟩⟩⟩
end W2MV0
end
end
end
section
section W2PLAIN
noncomputable abbrev Tab := Nat × Nat × Nat
noncomputable def TOK (t : Tab) : Prop := t.1 < 16 ∧ t.2.1 < 16 ∧ t.2.2 < 16
noncomputable def sumsN (r : Nat) : Nat := r % 2 + r / 2 % 2 * 4 + r / 4 % 2 * 16 + r / 8 * 64
noncomputable def movedT (t : Tab) : List Tab := movedK t.1 t.2.1 t.2.2 3
noncomputable def totT (t : Tab) : Nat := sumsN t.1 + sumsN t.2.1 + sumsN t.2.2
noncomputable def unlT (t u : Tab) : Nat := onesN (t.1 ^^^ u.1) + onesN (t.2.1 ^^^ u.2.1) + onesN (t.2.2 ^^^ u.2.2)
structure Like (t u : Tab) : Prop where
  ok : TOK u
  o1 : onesN u.1 = onesN t.1
  o2 : onesN u.2.1 = onesN t.2.1
  o3 : onesN u.2.2 = onesN t.2.2
  tot : totT u = totT t
noncomputable def clsR (k : Nat) : List Nat := (List.range 16).filter fun r => onesN r == k
noncomputable def likeT (t : Tab) : List Tab := (clsR (onesN t.1)).flatMap fun a => (clsR (onesN t.2.1)).flatMap fun b => ((clsR (onesN t.2.2)).filter fun c => sumsN a + sumsN b + sumsN c == totT t).map fun c => (a, b, c)
theorem mem_likeT {t u : Tab} : u ∈ likeT t ↔ Like t u := by
  unfold likeT clsR
  simp only [List.mem_flatMap, List.mem_filter, List.mem_map, List.mem_range, beq_iff_eq]
  constructor
  · intro zg111
    refine letGoal ?_
    intro Gz
    obtain ⟨a, ⟨ha, h1⟩, b, ⟨hb, h2⟩, c, ⟨⟨hc, h3⟩, h4⟩, rfl⟩ := zg111
    dsimp only [Gz]
    clear Gz
    exact ⟨⟨ha, hb, hc⟩, h1, h2, h3, h4⟩
  · intro zg112
    refine letGoal ?_
    intro Gz
    obtain ⟨⟨ha, hb, hc⟩, h1, h2, h3, h4⟩ := zg112
    dsimp only [Gz]
    clear Gz
    exact ⟨u.1, ⟨ha, h1⟩, u.2.1, ⟨hb, h2⟩, u.2.2, ⟨⟨hc, h3⟩, h4⟩, rfl⟩
theorem pc_ones : ∀ r : _root_.Fin 16, pc r.val = onesN r.val := by decide +kernel
theorem pc_eq {r : Nat} (h : r < 16) : pc r = onesN r := pc_ones ⟨r, h⟩
theorem ex_fact : ∀ (x : _root_.Fin 16) (y : _root_.Fin 16), ((movedP x.val y.val).all fun d => exT x.val y.val d && decide (d < 16)) = true ∧ ([3, 5, 6, 9, 10, 12].all fun d => !exT x.val y.val d || (movedP x.val y.val).contains d) = true := by decide +kernel
theorem ex_two : ∀ d : _root_.Fin 16, Nat.beq (pc d.val) 2 = true → d.val ∈ [3, 5, 6, 9, 10, 12] := by decide +kernel
theorem exT_pc {x y d : Nat} (h : exT x y d = true) : Nat.beq (pc d) 2 = true := by
  unfold exT at h
  cases h1 : Nat.beq (Nat.land d (Nat.xor x y)) d <;> rw [h1] at h
  · cases h
  · cases h2 : Nat.beq (pc (Nat.land d x)) 1 <;> rw [h2] at h
    · cases h
    · exact h
theorem ex_mem {x y d : Nat} (hx : x < 16) (hy : y < 16) (hd : d < 16) : d ∈ movedP x y ↔ exT x y d = true := by
  obtain ⟨h1, h2⟩ := ex_fact ⟨x, hx⟩ ⟨y, hy⟩
  dsimp only at h1 h2
  constructor
  · intro h
    have := List.all_eq_true.mp h1 d h
    rw [Bool.and_eq_true] at this
    exact this.1
  · intro h
    have := List.all_eq_true.mp h2 d (ex_two ⟨d, hd⟩ (exT_pc h))
    rw [h] at this
    simpa using this
theorem moved_lt {x y d : Nat} (hx : x < 16) (hy : y < 16) (h : d ∈ movedP x y) : d < 16 := by
  have := List.all_eq_true.mp (ex_fact ⟨x, hx⟩ ⟨y, hy⟩).1 d h
  rw [Bool.and_eq_true] at this
  exact of_decide_eq_true this.2
theorem ex_keep : ∀ (x : _root_.Fin 16) (y : _root_.Fin 16), ((movedP x.val y.val).all fun d => (onesN (x.val ^^^ d) == onesN x.val) && ((onesN (y.val ^^^ d) == onesN y.val) && ((sumsN (x.val ^^^ d) + sumsN (y.val ^^^ d) == sumsN x.val + sumsN y.val) && (onesN d == 2)))) = true := by decide +kernel
theorem moved_keep {x y d : Nat} (hx : x < 16) (hy : y < 16) (h : d ∈ movedP x y) : onesN (x ^^^ d) = onesN x ∧ onesN (y ^^^ d) = onesN y ∧ sumsN (x ^^^ d) + sumsN (y ^^^ d) = sumsN x + sumsN y ∧ onesN d = 2 := by
  have := List.all_eq_true.mp (ex_keep ⟨x, hx⟩ ⟨y, hy⟩) d h
  simpa only [Bool.and_eq_true, beq_iff_eq] using this
theorem mem_movedT {t u : Tab} : u ∈ movedT t ↔ (∃ d ∈ movedP t.1 t.2.1, u = (t.1 ^^^ d, t.2.1 ^^^ d, t.2.2)) ∨ (∃ d ∈ movedP t.1 t.2.2, u = (t.1 ^^^ d, t.2.1, t.2.2 ^^^ d)) ∨ (∃ d ∈ movedP t.2.1 t.2.2, u = (t.1, t.2.1 ^^^ d, t.2.2 ^^^ d)) := by
  show u ∈ ((movedP t.1 t.2.1).map _ ++ (movedP t.1 t.2.2).map _) ++ (movedP t.2.1 t.2.2).map _ ↔ _
  simp only [List.mem_append, List.mem_map, or_assoc]
  refine or_congr ?_ (or_congr ?_ ?_) <;> exact ⟨fun ⟨d, h, e⟩ => ⟨d, h, e.symm⟩, fun ⟨d, h, e⟩ => ⟨d, h, e.symm⟩⟩
theorem xor_back (a d : Nat) : a ^^^ (a ^^^ d) = d := by rw [← Nat.xor_assoc, Nat.xor_self, Nat.zero_xor]
/-- what one exchange gives -/
theorem moved_like {t u : Tab} (ht : TOK t) (h : u ∈ movedT t) : Like t u ∧ unlT t u = 4 := by
  obtain ⟨h1, h2, h3⟩ := ht
  rcases mem_movedT.mp h with ⟨d, hd, rfl⟩ | ⟨d, hd, rfl⟩ | ⟨d, hd, rfl⟩
  · obtain ⟨e1, e2, e3, e4⟩ := moved_keep h1 h2 hd
    have hl := moved_lt h1 h2 hd
    refine ⟨⟨⟨xor_lt h1 hl, xor_lt h2 hl, h3⟩, e1, e2, rfl, ?_⟩, ?_⟩
    · show sumsN _ + sumsN _ + sumsN _ = sumsN _ + sumsN _ + sumsN _
      (walk_at "my o")
    · show onesN (_ ^^^ (_ ^^^ d)) + onesN (_ ^^^ (_ ^^^ d)) + onesN (_ ^^^ _) = 4
      rw [xor_back, xor_back, Nat.xor_self, e4]; rfl
  · obtain ⟨e1, e2, e3, e4⟩ := moved_keep h1 h3 hd
    have hl := moved_lt h1 h3 hd
    refine ⟨⟨⟨xor_lt h1 hl, h2, xor_lt h3 hl⟩, e1, rfl, e2, ?_⟩, ?_⟩
    · show sumsN _ + sumsN _ + sumsN _ = sumsN _ + sumsN _ + sumsN _
      (walk_at "my o")
    · show onesN (_ ^^^ (_ ^^^ d)) + onesN (_ ^^^ _) + onesN (_ ^^^ (_ ^^^ d)) = 4
      rw [xor_back, xor_back, Nat.xor_self, e4]; rfl
  · obtain ⟨e1, e2, e3, e4⟩ := moved_keep h2 h3 hd
    have hl := moved_lt h2 h3 hd
    refine ⟨⟨⟨h1, xor_lt h2 hl, xor_lt h3 hl⟩, rfl, e1, e2, ?_⟩, ?_⟩
    · show sumsN _ + sumsN _ + sumsN _ = sumsN _ + sumsN _ + sumsN _
      (walk_at "my o")
    · show onesN (_ ^^^ _) + onesN (_ ^^^ (_ ^^^ d)) + onesN (_ ^^^ (_ ^^^ d)) = 4
      rw [xor_back, xor_back, Nat.xor_self, e4]; rfl
theorem bif_t {b c : Bool} (h : (bif b then true else c) = true) : b = true ∨ c = true := by cases b <;> simp_all
theorem bif_a {b c : Bool} (h : (bif b then c else false) = true) : b = true ∧ c = true := by cases b <;> simp_all
theorem isMv_mem {a b c a' b' c' : Nat} (ha : a < 16) (hb : b < 16) (hc : c < 16) (ha' : a' < 16) (hb' : b' < 16) (hc' : c' < 16) (h : isMv a b c a' b' c' = true) : (a', b', c') ∈ movedT (a, b, c) := by
  rw [mem_movedT]
  rcases bif_t h with h | h
  · obtain ⟨h1, h⟩ := bif_a h
    obtain ⟨h2, h⟩ := bif_a h
    have h2 : a ^^^ a' = b ^^^ b' := Nat.eq_of_beq_eq_true h2
    refine .inl ⟨a ^^^ a', (ex_mem ha hb (xor_lt ha ha')).mpr h, ?_⟩
    rw [← Nat.eq_of_beq_eq_true h1]
    show (a', b', c) = (a ^^^ (a ^^^ a'), b ^^^ (a ^^^ a'), c)
    rw [xor_back, h2, xor_back]
  · rcases bif_t h with h | h
    · obtain ⟨h1, h⟩ := bif_a h
      obtain ⟨h2, h⟩ := bif_a h
      have h2 : a ^^^ a' = c ^^^ c' := Nat.eq_of_beq_eq_true h2
      refine .inr (.inl ⟨a ^^^ a', (ex_mem ha hc (xor_lt ha ha')).mpr h, ?_⟩)
      rw [← Nat.eq_of_beq_eq_true h1]
      show (a', b, c') = (a ^^^ (a ^^^ a'), b, c ^^^ (a ^^^ a'))
      rw [xor_back, h2, xor_back]
    · obtain ⟨h1, h⟩ := bif_a h
      obtain ⟨h2, h⟩ := bif_a h
      have h2 : b ^^^ b' = c ^^^ c' := Nat.eq_of_beq_eq_true h2
      refine .inr (.inr ⟨b ^^^ b', (ex_mem hb hc (xor_lt hb hb')).mpr h, ?_⟩)
      rw [← Nat.eq_of_beq_eq_true h1]
      show (a, b', c') = (a, b ^^^ (b ^^^ b'), c ^^^ (b ^^^ b'))
      rw [xor_back, h2, xor_back]
theorem anyM_ex {f : Nat → Bool} : ∀ {l : List Nat}, anyM f l = true → ∃ d ∈ l, f d = true
  | [], h => nomatch h
  | d :: l, h => by
    rcases bif_t h with h | h
    · exact ⟨d, .head _, h⟩
    · obtain ⟨e, he, h⟩ := anyM_ex (l := l) h
      exact ⟨e, .tail _ he, h⟩
theorem masks_lt : ∀ d ∈ [3, 5, 6, 9, 10, 12], d < 16 := by decide
theorem twoMv_mem {a b c a' b' c' : Nat} (ha : a < 16) (hb : b < 16) (hc : c < 16) (ha' : a' < 16) (hb' : b' < 16) (hc' : c' < 16) (h : twoMv a b c a' b' c' = true) : ∃ v ∈ movedT (a, b, c), (a', b', c') ∈ movedT v := by
  rcases bif_t h with h | h
  · obtain ⟨d, hd, h⟩ := anyM_ex h
    obtain ⟨h1, h⟩ := bif_a h
    have hl := masks_lt d hd
    exact ⟨(a ^^^ d, b ^^^ d, c), mem_movedT.mpr (.inl ⟨d, (ex_mem ha hb hl).mpr h1, rfl⟩), isMv_mem (xor_lt ha hl) (xor_lt hb hl) hc ha' hb' hc' h⟩
  · rcases bif_t h with h | h
    · obtain ⟨d, hd, h⟩ := anyM_ex h
      obtain ⟨h1, h⟩ := bif_a h
      have hl := masks_lt d hd
      exact ⟨(a ^^^ d, b, c ^^^ d), mem_movedT.mpr (.inr (.inl ⟨d, (ex_mem ha hc hl).mpr h1, rfl⟩)), isMv_mem (xor_lt ha hl) hb (xor_lt hc hl) ha' hb' hc' h⟩
    · obtain ⟨d, hd, h⟩ := anyM_ex h
      obtain ⟨h1, h⟩ := bif_a h
      have hl := masks_lt d hd
      exact ⟨(a, b ^^^ d, c ^^^ d), mem_movedT.mpr (.inr (.inr ⟨d, (ex_mem hb hc hl).mpr h1, rfl⟩)), isMv_mem ha (xor_lt hb hl) (xor_lt hc hl) ha' hb' hc' h⟩
end W2PLAIN
section W2PLAIN2
noncomputable def clK (k : Nat) : List (Nat × Nat) := clsL.getD k []
theorem allQ_mem {f : Nat → Nat → Bool} : ∀ {l : List (Nat × Nat)}, allQ f l = true → ∀ a s, (a, s) ∈ l → f a s = true
  | [], _, _, _, h => nomatch h
  | (x, y) :: l, h, a, s, hm => by
    obtain ⟨h1, h2⟩ := bif_a h
    rcases List.mem_cons.mp hm with e | hm
    · cases e; exact h1
    · exact allQ_mem h2 a s hm
theorem allC_mem {f : List (Nat × Nat) → Bool} : ∀ {l : List (List (Nat × Nat))}, allC f l = true → ∀ x ∈ l, f x = true
  | [], _, _, h => nomatch h
  | y :: l, h, x, hm => by
    obtain ⟨h1, h2⟩ := bif_a h
    rcases List.mem_cons.mp hm with rfl | hm
    · exact h1
    · exact allC_mem h2 x hm
theorem sumP_mem {f : Nat → Nat → Nat} : ∀ {l : List (Nat × Nat)} {a s : Nat}, (a, s) ∈ l → f a s ≤ sumP f l
  | [], _, _, h => nomatch h
  | (x, y) :: l, a, s, hm => by
    show f a s ≤ f x y + sumP f l
    rcases List.mem_cons.mp hm with e | hm
    · cases e; (walk_at "my o")
    · have := sumP_mem (f := f) hm; (walk_at "my o")
theorem sumP_map {f : Nat → Nat → Nat} : ∀ (l : List Nat), sumP f (l.map fun r => (r, sumsN r)) = (l.map fun r => f r (sumsN r)).sum
  | [] => rfl
  | x :: l => by
    show f x (sumsN x) + sumP f (l.map fun r => (r, sumsN r)) = _
    rw [sumP_map l]; rfl
theorem sum_le2 {f h : Nat → Nat} : ∀ (l : List Nat), (∀ x ∈ l, f x ≤ h x) → (l.map f).sum ≤ (l.map h).sum
  | [], _ => Nat.le_refl _
  | x :: l, hl => by
    have h1 := hl x (.head _)
    have h2 := sum_le2 l fun y hy => hl y (.tail _ hy)
    simp only [List.map_cons, List.sum_cons]
    (walk_at "my o")
theorem filter_len2 (P : Nat → Bool) : ∀ (l : List Nat), (l.filter P).length = (l.map fun x => if P x = true then 1 else 0).sum
  | [] => rfl
  | x :: l => by
    rw [List.filter_cons, List.map_cons, List.sum_cons, ← filter_len2 P l]
    cases P x <;> simp
    (walk_at "my o")
theorem cls_eq : clK 0 = (clsR 0).map (fun r => (r, sumsN r)) ∧ clK 1 = (clsR 1).map (fun r => (r, sumsN r)) ∧ clK 2 = (clsR 2).map (fun r => (r, sumsN r)) ∧ clK 3 = (clsR 3).map (fun r => (r, sumsN r)) ∧ clK 4 = (clsR 4).map (fun r => (r, sumsN r)) := by decide +kernel
theorem ones_le : ∀ r : _root_.Fin 16, onesN r.val ≤ 4 := by decide +kernel
theorem cls_at {k : Nat} (h : k ≤ 4) : clK k = (clsR k).map fun r => (r, sumsN r) := by
  obtain ⟨h0, h1, h2, h3, h4⟩ := cls_eq
  have : k = 0 ∨ k = 1 ∨ k = 2 ∨ k = 3 ∨ k = 4 := by (walk_at "my o")
  rcases this with rfl | rfl | rfl | rfl | rfl <;> assumption
theorem cls_row {r : Nat} (h : r < 16) : clK (onesN r) = (clsR (onesN r)).map fun r => (r, sumsN r) := cls_at (ones_le ⟨r, h⟩)
theorem clK_mem {k : Nat} (h : k ≤ 4) : clK k ∈ clsL := by
  have : k = 0 ∨ k = 1 ∨ k = 2 ∨ k = 3 ∨ k = 4 := by (walk_at "my o")
  rcases this with rfl | rfl | rfl | rfl | rfl <;> simp [clK, clsL]
theorem chk_all : ∀ l ∈ clsL, chkAll l = true := by
  intro l hl
  simp only [clsL, List.mem_cons, List.not_mem_nil, or_false] at hl
  rcases hl with rfl | rfl | rfl | rfl | rfl
  · exact chk0
  · exact chk1
  · exact chk2
  · exact chk3
  · exact chk4
theorem row_in {r k : Nat} (h : r < 16) (hk : onesN r = k) : (r, sumsN r) ∈ clK k := by
  subst hk
  rw [cls_row h]
  refine List.mem_map.mpr ⟨r, ?_, rfl⟩
  unfold clsR
  simp [h]
theorem cost_le {t : Tab} (ht : TOK t) : costT (clK (onesN t.1)) (clK (onesN t.2.1)) (clK (onesN t.2.2)) t.1 t.2.1 t.2.2 (totT t) ≤ 19 := by
  obtain ⟨h1, h2, h3⟩ := ht
  have o1 := ones_le ⟨_, h1⟩
  have o2 := ones_le ⟨_, h2⟩
  have o3 := ones_le ⟨_, h3⟩
  have := allC_mem (allC_mem (chk_all _ (clK_mem o1)) _ (clK_mem o2)) _ (clK_mem o3)
  have := allQ_mem (allQ_mem (allQ_mem this _ _ (row_in h1 rfl)) _ _ (row_in h2 rfl)) _ _ (row_in h3 rfl)
  exact Nat.le_of_ble_eq_true this
theorem cost_good {t u : Tab} (ht : TOK t) (h : Like t u) : goodB t.1 t.2.1 t.2.2 u.1 u.2.1 u.2.2 = true := by
  obtain ⟨⟨h1, h2, h3⟩, o1, o2, o3, htot⟩ := h
  have hc := cost_le ht
  unfold costT at hc
  have e1 := Nat.le_trans (sumP_mem (row_in h1 o1)) hc
  have e2 := Nat.le_trans (sumP_mem (row_in h2 o2)) e1
  have e3 := Nat.le_trans (sumP_mem (row_in h3 o3)) e2
  have hb : Nat.beq (Nat.add (Nat.add (sumsN u.1) (sumsN u.2.1)) (sumsN u.2.2)) (totT t) = true := by
    show Nat.beq (totT u) (totT t) = true
    rw [htot]; exact Nat.beq_refl _
  rw [hb] at e3
  cases hg : goodB t.1 t.2.1 t.2.2 u.1 u.2.1 u.2.2 with
  | true => rfl
  | false => rw [hg] at e3; exact absurd e3 (by decide)
theorem like_len {t : Tab} (ht : TOK t) : (likeT t).length ≤ 19 := by
  refine Nat.le_trans ?_ (cost_le ht)
  obtain ⟨h1, h2, h3⟩ := ht
  unfold likeT costT
  rw [cls_row h1, cls_row h2, cls_row h3, sumP_map, List.length_flatMap]
  refine sum_le2 _ fun a _ => ?_
  rw [sumP_map, List.length_flatMap]
  refine sum_le2 _ fun b _ => ?_
  rw [sumP_map, List.length_map, filter_len2]
  refine sum_le2 _ fun c _ => ?_
  have e : Nat.beq (Nat.add (Nat.add (sumsN a) (sumsN b)) (sumsN c)) (totT t) = (sumsN a + sumsN b + sumsN c == totT t) := by
    rw [Bool.eq_iff_iff, Nat.beq_eq, beq_iff_eq]; rfl
  rw [e]
  cases (sumsN a + sumsN b + sumsN c == totT t) with
  | false => exact Nat.zero_le _
  | true => cases goodB t.1 t.2.1 t.2.2 a b c <;> decide
theorem nodup_len {α : Type} : ∀ {l l' : List α}, l.Nodup → (∀ x ∈ l, x ∈ l') → l.length ≤ l'.length
  | [], _, _, _ => Nat.zero_le _
  | a :: r, l', hn, hs => by
    obtain ⟨s, t, rfl⟩ := List.append_of_mem (hs a (.head _))
    have hn' := List.nodup_cons.mp hn
    have := nodup_len (l' := s ++ t) hn'.2 fun x hx => by
      have hm := hs x (.tail _ hx)
      simp only [List.mem_append, List.mem_cons] at hm ⊢
      rcases hm with h | rfl | h
      · exact .inl h
      · exact absurd hx hn'.1
      · exact .inr h
    simp only [List.length_append, List.length_cons] at this ⊢
    (walk_at "my o")
/-- how far a table is: none, one exchange, two -/
noncomputable def DD (t u : Tab) : Nat := if unlT t u = 0 then 0 else if unlT t u = 4 then 1 else 2
theorem ones_zero : ∀ x : _root_.Fin 16, onesN x.val = 0 → x.val = 0 := by decide +kernel
theorem xor_zero {a b : Nat} (ha : a < 16) (hb : b < 16) (h : onesN (a ^^^ b) = 0) : b = a := by
  have e : a ^^^ b = 0 := ones_zero ⟨a ^^^ b, xor_lt ha hb⟩ h
  have := xor_back a b
  rw [e, Nat.xor_zero] at this
  exact this.symm
theorem unl_zero {t u : Tab} (ht : TOK t) (hu : TOK u) : unlT t u = 0 ↔ u = t := by
  constructor
  · intro h
    unfold unlT at h
    exact Prod.ext (xor_zero ht.1 hu.1 (by (walk_at "my o"))) (Prod.ext (xor_zero ht.2.1 hu.2.1 (by (walk_at "my o"))) (xor_zero ht.2.2 hu.2.2 (by (walk_at "my o"))))
  · rintro rfl
    unfold unlT
    rw [Nat.xor_self, Nat.xor_self, Nat.xor_self]; rfl
theorem unl_eq {t u : Tab} (ht : TOK t) (hu : TOK u) : unl t.1 t.2.1 t.2.2 u.1 u.2.1 u.2.2 = unlT t u := by
  unfold unl unlT
  have e1 := pc_eq (xor_lt ht.1 hu.1)
  have e2 := pc_eq (xor_lt ht.2.1 hu.2.1)
  have e3 := pc_eq (xor_lt ht.2.2 hu.2.2)
  show pc (_ ^^^ _) + pc (_ ^^^ _) + pc (_ ^^^ _) = _
  rw [e1, e2, e3]
theorem dd_zero {t u : Tab} (ht : TOK t) (hu : TOK u) : DD t u = 0 ↔ u = t := by
  rw [← unl_zero ht hu]
  unfold DD
  split
  · simp [*]
  · split <;> simp [*]
theorem dd_le (t u : Tab) : DD t u ≤ 2 := by
  unfold DD
  split
  · exact Nat.zero_le _
  · split <;> decide
theorem dd_moved {t u : Tab} (ht : TOK t) (h : u ∈ movedT t) : DD t u = 1 := by
  have := (moved_like ht h).2
  unfold DD
  rw [this]; rfl
theorem dd_one {t u : Tab} (ht : TOK t) (h : Like t u) (h1 : DD t u = 1) : u ∈ movedT t := by
  have hg := cost_good ht h
  unfold goodB at hg
  rw [unl_eq ht h.ok] at hg
  unfold DD at h1
  split at h1
  · cases h1
  · rename_i h0
    split at h1
    · rename_i h4
      rw [h4] at hg
      exact isMv_mem ht.1 ht.2.1 ht.2.2 h.ok.1 h.ok.2.1 h.ok.2.2 hg
    · cases h1
theorem dd_two {t u : Tab} (ht : TOK t) (h : Like t u) (h2 : DD t u = 2) : ∃ v ∈ movedT t, u ∈ movedT v := by
  have hg := cost_good ht h
  unfold goodB at hg
  rw [unl_eq ht h.ok] at hg
  unfold DD at h2
  split at h2
  · cases h2
  · rename_i h0
    split at h2
    · cases h2
    · rename_i h4
      have e0 : Nat.beq (unlT t u) 0 = false := Bool.eq_false_iff.mpr fun q => h0 (Nat.eq_of_beq_eq_true q)
      have e4 : Nat.beq (unlT t u) 4 = false := Bool.eq_false_iff.mpr fun q => h4 (Nat.eq_of_beq_eq_true q)
      rw [e0, e4] at hg
      exact twoMv_mem ht.1 ht.2.1 ht.2.2 h.ok.1 h.ok.2.1 h.ok.2.2 hg
theorem Like.refl {t : Tab} (h : TOK t) : Like t t := ⟨h, rfl, rfl, rfl, rfl⟩
theorem Like.trans {t u v : Tab} (h : Like t u) (k : Like u v) : Like t v := ⟨k.ok, k.o1.trans h.o1, k.o2.trans h.o2, k.o3.trans h.o3, k.tot.trans h.tot⟩
/-- the search, n tables done -/
structure Bfs (t : Tab) (ord : List Tab) (n : Nat) : Prop where
  nd : ord.Nodup
  like : ∀ u ∈ ord, Like t u
  h0 : ord[0]? = some t
  srt : ∀ (i j : Nat) (u v : Tab), i ≤ j → ord[i]? = some u → ord[j]? = some v → DD t u ≤ DD t v
  done : ∀ (k : Nat) (u : Tab), k < n → ord[k]? = some u → ∀ m ∈ movedT u, m ∈ ord
  top : ∀ v ∈ ord, ∀ u, ord[n]? = some u → DD t v ≤ DD t u + 1
theorem Bfs.start {t : Tab} (h : TOK t) : Bfs t [t] 0 where
  nd := by simp
  like := by intro u hu; rw [List.mem_singleton.mp hu]; exact .refl h
  h0 := rfl
  srt := by
    intro i j u v _ h1 h2
    have e1 : u = t := List.mem_singleton.mp (List.mem_of_getElem? h1)
    have e2 : v = t := List.mem_singleton.mp (List.mem_of_getElem? h2)
    rw [e1, e2]; exact Nat.le_refl _
  done := fun k u hk => absurd hk (Nat.not_lt_zero _)
  top := by
    intro v hv u hu
    rw [List.mem_singleton.mp hv, List.mem_singleton.mp (List.mem_of_getElem? hu)]
    exact Nat.le_succ _
theorem Bfs.next {t u : Tab} {ord : List Tab} {n : Nat} (B : Bfs t ord n) (hu : ord[n]? = some u) (h : ∀ m ∈ movedT u, m ∈ ord) : Bfs t ord (n + 1) :=
  ⟨B.nd, B.like, B.h0, B.srt, fun k v hk hv m hm => by
      rcases Nat.lt_succ_iff_lt_or_eq.mp hk with hk | rfl
      · exact B.done k v hk hv m hm
      · rw [hu] at hv; cases hv; exact h m hm, fun v hv u' hu' => by
      have h1 := B.top v hv u hu
      have h2 := B.srt n (n + 1) u u' (Nat.le_succ _) hu hu'
      (walk_at "my o")⟩
/-- a new table is one exchange further -/
theorem Bfs.new {t u m : Tab} {ord : List Tab} {n : Nat} (ht : TOK t) (B : Bfs t ord n) (hu : ord[n]? = some u) (hm : m ∈ movedT u) (hn : m ∉ ord) : DD t m = DD t u + 1 ∧ Bfs t (ord ++ [m]) n := by
  have hlu := B.like u (List.mem_of_getElem? hu)
  have hlm : Like t m := hlu.trans (moved_like hlu.ok hm).1
  have htm : t ∈ ord := List.mem_of_getElem? B.h0
  have hmt : m ≠ t := fun e => hn (e ▸ htm)
  have d0 : DD t m ≠ 0 := fun e => hmt ((dd_zero ht hlm.ok).mp e)
  have key : DD t m = DD t u + 1 := by
    have hdu := dd_le t u
    have hdm := dd_le t m
    have : DD t u = 0 ∨ DD t u = 1 ∨ DD t u = 2 := by (walk_at "my o")
    rcases this with h | h | h
    · have e := (dd_zero ht hlu.ok).mp h
      subst e
      rw [dd_moved ht hm, h]
    · have hn0 : n ≠ 0 := fun e => by
        rw [e, B.h0] at hu
        cases hu
        rw [(dd_zero ht ht).mpr rfl] at h; cases h
      have : DD t m ≠ 1 := fun e => hn (B.done 0 t (by (walk_at "my o")) B.h0 m (dd_one ht hlm e))
      (walk_at "my o")
    · exfalso
      have hn0 : n ≠ 0 := fun e => by
        rw [e, B.h0] at hu
        cases hu
        rw [(dd_zero ht ht).mpr rfl] at h; cases h
      have h1 : DD t m ≠ 1 := fun e => hn (B.done 0 t (by (walk_at "my o")) B.h0 m (dd_one ht hlm e))
      obtain ⟨v, hv, hmv⟩ := dd_two ht hlm (by (walk_at "my o"))
      have hvo := B.done 0 t (by (walk_at "my o")) B.h0 v hv
      obtain ⟨k, hk, hkv⟩ := List.getElem_of_mem hvo
      have hkv : ord[k]? = some v := by rw [List.getElem?_eq_getElem hk, hkv]
      have hkn : k < n := by
        rcases Nat.lt_or_ge k n with h' | h'
        · exact h'
        · have := B.srt n k u v h' hu hkv
          rw [h, dd_moved ht hv] at this
          (walk_at "my o")
      exact hn (B.done k v hkn hkv m hmv)
  have hmax : ∀ (i : Nat) (v : Tab), ord[i]? = some v → DD t v ≤ DD t m := by
    intro i v hv
    rw [key]
    exact B.top v (List.mem_of_getElem? hv) u hu
  refine ⟨key, ⟨?_, ?_, ?_, ?_, ?_, ?_⟩⟩
  · rw [List.nodup_append]
    refine ⟨B.nd, by simp, ?_⟩
    intro a ha b hb e
    rw [List.mem_singleton.mp hb] at e
    exact hn (e ▸ ha)
  · intro v hv
    rcases List.mem_append.mp hv with h | h
    · exact B.like v h
    · rw [List.mem_singleton.mp h]; exact hlm
  · rw [List.getElem?_append_left (List.getElem?_eq_some_iff.mp B.h0).1]; exact B.h0
  · intro i j v v' hij hi hj
    rcases Nat.lt_or_ge j ord.length with h | h
    · rw [List.getElem?_append_left h] at hj
      rw [List.getElem?_append_left (Nat.lt_of_le_of_lt hij h)] at hi
      exact B.srt i j v v' hij hi hj
    · have hv' : v' = m := by
        rw [List.getElem?_append_right h] at hj
        exact List.mem_singleton.mp (List.mem_of_getElem? hj)
      subst hv'
      rcases Nat.lt_or_ge i ord.length with h2 | h2
      · rw [List.getElem?_append_left h2] at hi
        exact hmax i v hi
      · rw [List.getElem?_append_right h2] at hi
        rw [List.mem_singleton.mp (List.mem_of_getElem? hi)]
        exact Nat.le_refl _
  · intro k v hk hv m' hm'
    have hkl : k < ord.length := Nat.lt_trans hk (List.getElem?_eq_some_iff.mp hu).1
    rw [List.getElem?_append_left hkl] at hv
    exact List.mem_append_left _ (B.done k v hk hv m' hm')
  · intro v hv u' hu'
    rw [List.getElem?_append_left (List.getElem?_eq_some_iff.mp hu).1, hu] at hu'
    cases hu'
    rcases List.mem_append.mp hv with h | h
    · exact B.top v h u hu
    · rw [List.mem_singleton.mp h, key]; exact Nat.le_refl _
end W2PLAIN2
end
section
section W2STR
theorem Bfs.all {t : Tab} {ord : List Tab} (ht : TOK t) (B : Bfs t ord ord.length) {u : Tab} (h : Like t u) : u ∈ ord := by
  have hl := (List.getElem?_eq_some_iff.mp B.h0).1
  have hd := dd_le t u
  have : DD t u = 0 ∨ DD t u = 1 ∨ DD t u = 2 := by (walk_at "my o")
  rcases this with h0 | h1 | h2
  · rw [(dd_zero ht h.ok).mp h0]; exact List.mem_of_getElem? B.h0
  · exact B.done 0 t hl B.h0 u (dd_one ht h h1)
  · obtain ⟨v, hv, hu⟩ := dd_two ht h h2
    obtain ⟨k, hk, hkv⟩ := List.getElem_of_mem (B.done 0 t hl B.h0 v hv)
    exact B.done k v hk (by rw [List.getElem?_eq_getElem hk, hkv]) u hu
theorem Bfs.len {t : Tab} {ord : List Tab} {n : Nat} (ht : TOK t) (B : Bfs t ord n) : ord.length ≤ 19 :=
  Nat.le_trans (nodup_len B.nd fun u hu => mem_likeT.mpr (B.like u hu)) (like_len ht)
noncomputable def dotS : Nat → Str
  | 0 => Str.ofString ""
  | 1 => Str.ofString "."
  | _ => Str.ofString ".."
theorem dot_next {n : Nat} (h : n ≤ 1) : dotS n ++ Str.ofString "." = dotS (n + 1) := by
  have : n = 0 ∨ n = 1 := by (walk_at "my o")
  rcases this with rfl | rfl <;> decide +kernel
noncomputable def lowF (r : Nat) : Nat := if r = 0 then 64 else if r < 8 then 96 + r else 64 + fig r
noncomputable def lowW (t : Tab) : Str := ⟨#[lowF t.1, lowF t.2.1, 128 + fig t.2.2]⟩
theorem low_fact : ∀ r : _root_.Fin 16, Unicode.lowerOf (64 + fig r.val) = [lowF r.val] ∧ Unicode.lowerOf (128 + fig r.val) = [128 + fig r.val] := by decide +kernel
theorem fig_931 : ∀ r : _root_.Fin 16, (64 + fig r.val == 0x3A3) = false ∧ (128 + fig r.val == 0x3A3) = false := by decide +kernel
theorem lower3 {x y z x' y' z' : Nat} (hx : (x == 0x3A3) = false) (hy : (y == 0x3A3) = false) (hz : (z == 0x3A3) = false) (ex : Unicode.lowerOf x = [x']) (ey : Unicode.lowerOf y = [y']) (ez : Unicode.lowerOf z = [z']) : Txt.lower ⟨#[x, y, z]⟩ = ⟨#[x', y', z']⟩ := by
  have e0 : Unicode.lowerAt #[x, y, z] 0 = [x'] := by
    show (if (x == 0x3A3 && _) = true then _ else Unicode.lowerOf x) = _
    rw [hx, Bool.false_and, if_neg (by decide), ex]
  have e1 : Unicode.lowerAt #[x, y, z] 1 = [y'] := by
    show (if (y == 0x3A3 && _) = true then _ else Unicode.lowerOf y) = _
    rw [hy, Bool.false_and, if_neg (by decide), ey]
  have e2 : Unicode.lowerAt #[x, y, z] 2 = [z'] := by
    show (if (z == 0x3A3 && _) = true then _ else Unicode.lowerOf z) = _
    rw [hz, Bool.false_and, if_neg (by decide), ez]
  have e : (#[x, y, z] : Array Nat).mapIdx (fun i (_ : Nat) => (Unicode.lowerAt #[x, y, z] i).toArray) = #[(Unicode.lowerAt #[x, y, z] 0).toArray, (Unicode.lowerAt #[x, y, z] 1).toArray, (Unicode.lowerAt #[x, y, z] 2).toArray] := by simp
  show Str.mk ((#[x, y, z] : Array Nat).mapIdx (fun i (_ : Nat) => (Unicode.lowerAt #[x, y, z] i).toArray)).flatten = _
  rw [e, e0, e1, e2]
  simp
theorem lower_wd {t : Tab} (h : TOK t) : Txt.lower (wdOf t) = lowW t := by
  obtain ⟨h1, h2, h3⟩ := h
  exact lower3 (fig_931 ⟨_, h1⟩).1 (fig_931 ⟨_, h2⟩).1 (fig_931 ⟨_, h3⟩).2 (low_fact ⟨_, h1⟩).1 (low_fact ⟨_, h2⟩).1 (low_fact ⟨_, h3⟩).2
theorem lowF_inj : ∀ (a : _root_.Fin 16) (b : _root_.Fin 16), lowF a.val = lowF b.val → a.val = b.val := by decide +kernel
theorem fig_inj : ∀ (a : _root_.Fin 16) (b : _root_.Fin 16), fig a.val = fig b.val → a.val = b.val := by decide +kernel
theorem low_inj {t u : Tab} (ht : TOK t) (hu : TOK u) (h : lowW t = lowW u) : t = u := by
  unfold lowW at h
  simp only [PySem.Str.mk.injEq, Array.mk.injEq, List.cons.injEq, and_true] at h
  obtain ⟨h1, h2, h3⟩ := h
  exact Prod.ext (lowF_inj ⟨_, ht.1⟩ ⟨_, hu.1⟩ h1) (Prod.ext (lowF_inj ⟨_, ht.2.1⟩ ⟨_, hu.2.1⟩ h2) (fig_inj ⟨_, ht.2.2⟩ ⟨_, hu.2.2⟩ (by show fig _ = fig _; (walk_at "my o"))))
theorem wd_inj {t u : Tab} (ht : TOK t) (hu : TOK u) (h : wdOf t = wdOf u) : t = u := low_inj ht hu (by rw [← lower_wd ht, ← lower_wd hu, h])
theorem low_beq {t u : Tab} (ht : TOK t) (hu : TOK u) : (lowW t == lowW u) = decide (t = u) := by
  by_cases h : t = u
  · subst h; rw [decide_eq_true rfl]; exact beq_self_eq_true _
  · rw [decide_eq_false h]
    exact beq_eq_false_iff_ne.mpr fun e => h (low_inj ht hu e)
theorem wd_chars : ∀ r : _root_.Fin 16, okName (64 + fig r.val) = true ∧ okName (128 + fig r.val) = true ∧ okName (lowF r.val) = true := by decide +kernel
theorem wd_ok {t : Tab} (h : TOK t) : ∀ c ∈ (wdOf t).cps.toList, okName c = true := by
  intro c hc
  have : c = 64 + fig t.1 ∨ c = 64 + fig t.2.1 ∨ c = 128 + fig t.2.2 := by simpa [wdOf, wordT] using hc
  rcases this with rfl | rfl | rfl
  · exact (wd_chars ⟨_, h.1⟩).1
  · exact (wd_chars ⟨_, h.2.1⟩).1
  · exact (wd_chars ⟨_, h.2.2⟩).2.1
theorem wd_okL {t : Tab} (h : TOK t) : ∀ c ∈ (Txt.lower (wdOf t)).cps.toList, okName c = true := by
  rw [lower_wd h]
  intro c hc
  have : c = lowF t.1 ∨ c = lowF t.2.1 ∨ c = 128 + fig t.2.2 := by simpa [lowW] using hc
  rcases this with rfl | rfl | rfl
  · exact (wd_chars ⟨_, h.1⟩).2.2
  · exact (wd_chars ⟨_, h.2.1⟩).2.2
  · exact (wd_chars ⟨_, h.2.2⟩).2.1
theorem wd_szL {t : Tab} (h : TOK t) : (Txt.lower (wdOf t)).cps.size ≤ 1000 := by rw [lower_wd h]; show 3 ≤ 1000; decide
theorem dot_ok (n : Nat) : (∀ c ∈ (dotS n).cps.toList, okVal c = true) ∧ (dotS n).cps.size ≤ 2 := by
  match n with
  | 0 => decide +kernel
  | 1 => decide +kernel
  | n + 2 => show (∀ c ∈ (Str.ofString "..").cps.toList, okVal c = true) ∧ (Str.ofString "..").cps.size ≤ 2; decide +kernel
/-! the board's rows, and what was told -/
noncomputable def pairOf (t : Tab) (u : Tab) : Str × Str := (wdOf u, dotS (DD t u))
noncomputable def Rows2 (t : Tab) (rows : List Row) (ord : List Tab) : Prop := rows.map (fun r => (r.k, r.v)) = ord.map (pairOf t)
theorem rows2_get {t : Tab} {m : Tab} (hm : TOK m) : ∀ {rows : List Row} {ord : List Tab}, Rows2 t rows ord → (∀ u ∈ ord, TOK u) → (m ∈ ord → ∃ r, rowGet rows (lowW m) = some r ∧ r.v = dotS (DD t m)) ∧ (m ∉ ord → rowGet rows (lowW m) = none)
  | [], [], _, _ => ⟨fun h => (nomatch h), fun _ => rfl⟩
  | [], _ :: _, h, _ => by simp [Rows2] at h
  | _ :: _, [], h, _ => by simp [Rows2] at h
  | r :: rows, u :: ord, h, hT => by
    simp only [Rows2, List.map_cons, List.cons.injEq, pairOf, Prod.mk.injEq] at h
    obtain ⟨⟨h1, h2⟩, h3⟩ := h
    have hu := hT u (.head _)
    obtain ⟨ih1, ih2⟩ := rows2_get hm (rows := rows) (ord := ord) h3 fun v hv => hT v (.tail _ hv)
    have e : (Txt.lower r.k == lowW m) = decide (u = m) := by rw [h1, lower_wd hu, low_beq hu hm]
    by_cases hum : u = m
    · subst hum
      rw [decide_eq_true rfl] at e
      refine ⟨fun _ => ⟨r, ?_, h2⟩, fun q => absurd (.head _) q⟩
      simp [rowGet, e]
    · rw [decide_eq_false hum] at e
      have e2 : rowGet (r :: rows) (lowW m) = rowGet rows (lowW m) := by simp [rowGet, e]
      rw [e2]
      refine ⟨fun h => ih1 ?_, fun h => ih2 fun q => h (.tail _ q)⟩
      rcases List.mem_cons.mp h with rfl | h
      · exact absurd rfl hum
      · exact h
theorem rows2_none {t : Tab} {S : Str} (hS : ∀ u, TOK u → (lowW u == S) = false) {rows : List Row} {ord : List Tab} (h : Rows2 t rows ord) (hT : ∀ u ∈ ord, TOK u) : rowGet rows S = none := by
  refine rowGet_none fun r hr => ?_
  have : (r.k, r.v) ∈ ord.map (pairOf t) := by
    rw [← h]; exact List.mem_map_of_mem (f := fun r => (r.k, r.v)) hr
  obtain ⟨u, hu, e⟩ := List.mem_map.mp this
  have e1 : wdOf u = r.k := congrArg Prod.fst e
  rw [← e1, lower_wd (hT u hu)]
  exact hS u (hT u hu)
theorem rows2_add {t m : Tab} {rows : List Row} {ord : List Tab} {r : Row} (h : Rows2 t rows ord) (hk : r.k = wdOf m) (hv : r.v = dotS (DD t m)) : Rows2 t (rows ++ [r]) (ord ++ [m]) := by
  simp only [Rows2, List.map_append, List.map_cons, List.map_nil] at h ⊢
  rw [h, hk, hv]; rfl
theorem rows2_len {t : Tab} {rows : List Row} {ord : List Tab} (h : Rows2 t rows ord) : rows.length = ord.length := by
  have := congrArg List.length h
  simpa using this
theorem rows2_sz {t : Tab} {rows : List Row} {ord : List Tab} (h : Rows2 t rows ord) (hT : ∀ u ∈ ord, TOK u) : ∀ r ∈ rows, (Txt.lower r.k).cps.size ≤ 1000 := by
  intro r hr
  have : (r.k, r.v) ∈ ord.map (pairOf t) := by
    rw [← h]; exact List.mem_map_of_mem (f := fun r => (r.k, r.v)) hr
  obtain ⟨u, hu, e⟩ := List.mem_map.mp this
  have e1 : wdOf u = r.k := congrArg Prod.fst e
  rw [← e1]
  exact wd_szL (hT u hu)
end W2STR
end
section
theorem quo_suf : ∀ (n : Nat) (cs t : List Nat), cs.length ≤ n → (quo t cs).2 <:+ cs := by
  intro n
  induction n with
  | zero => intro cs t h; cases cs with
    | nil => simp [quo]
    | cons c r => simp at h
  | succ n ih =>
    intro cs t h
    cases cs with
    | nil => simp [quo]
    | cons c r =>
      simp only [List.length_cons] at h
      by_cases h1 : c = 34
      · subst h1; rw [quo_end]; exact List.suffix_cons _ _
      · by_cases h2 : c = 92
        · subst h2
          cases r with
          | nil => simp [quo]
          | cons d r => rw [quo_esc]; exact ((ih r (t ++ [d]) (by simp at h; (walk_at "my o"))).trans (List.suffix_cons _ _)).trans (List.suffix_cons _ _)
        · rw [quo_go _ _ h1 h2]; exact (ih r (t ++ [c]) (by (walk_at "my o"))).trans (List.suffix_cons _ _)
theorem bare_suf : ∀ (n : Nat) (cs t : List Nat), cs.length ≤ n → (bare t cs).2 <:+ cs := by
  intro n
  induction n with
  | zero => intro cs t h; cases cs with
    | nil => simp [bare]
    | cons c r => simp at h
  | succ n ih =>
    intro cs t h
    cases cs with
    | nil => simp [bare]
    | cons c r =>
      simp only [List.length_cons] at h
      by_cases h1 : isWs c = true
      · rw [bare_end _ _ h1]; exact List.suffix_cons _ _
      · have h1 : isWs c = false := by simpa using h1
        by_cases h2 : c = 92
        · subst h2
          cases r with
          | nil => simp [bare, isWs]
          | cons d r => rw [bare_esc]; exact ((ih r (t ++ [d]) (by simp at h; (walk_at "my o"))).trans (List.suffix_cons _ _)).trans (List.suffix_cons _ _)
        · rw [bare_go _ _ h1 h2]; exact (ih r (t ++ [c]) (by (walk_at "my o"))).trans (List.suffix_cons _ _)
theorem tok_suf : ∀ cs : List Nat, (tok cs).2 <:+ cs := by
  intro cs
  induction cs with
  | nil => simp [tok]
  | cons c r ih =>
    by_cases h1 : isWs c = true
    · have : tok (c :: r) = tok r := by cases r <;> simp [tok, h1]
      rw [this]; exact ih.trans (List.suffix_cons _ _)
    · have h1 : isWs c = false := by simpa using h1
      by_cases h2 : c = 34
      · subst h2
        have : tok (34 :: r) = quo [] r := by cases r <;> simp [tok, isWs]
        rw [this]; exact (quo_suf r.length r [] (Nat.le_refl _)).trans (List.suffix_cons _ _)
      · by_cases h3 : c = 92
        · subst h3
          cases r with
          | nil => simp [tok, isWs]
          | cons d r =>
            have : tok (92 :: d :: r) = bare [d] r := by simp [tok, isWs]
            rw [this]; exact ((bare_suf r.length r [d] (Nat.le_refl _)).trans (List.suffix_cons _ _)).trans (List.suffix_cons _ _)
        · have : tok (c :: r) = bare [c] r := by cases r <;> simp [tok, h1, h2, h3]
          rw [this]; exact (bare_suf r.length r [c] (Nat.le_refl _)).trans (List.suffix_cons _ _)
section W2TOK
inductive Toks : List Nat → List (List Nat) → Prop where
  | nil {cs : List Nat} : tok cs = ([], []) → Toks cs []
  | cons {cs t r : List Nat} {ts : List (List Nat)} : tok cs = (t, r) → Toks r ts → Toks cs (t :: ts)
theorem count_le2 (cs : List Nat) : (cs.count 10 : Int) ≤ cs.length := by
  have := List.count_le_length (a := 10) (l := cs)
  (walk_at "my o")
theorem toks_nil : Toks [] [] := .nil (by simp [tok])
/-- what a lexer owns: the words to come, and those that were pushed back -/
structure Lx2 (vs toks : List Value) (cs : List Nat) (line : Int) (ts : List (List Nat)) (q : List Str) (tot : Int) : Prop where
  hcs : CharsAre vs cs
  text : Toks cs ts
  hq : StrsAre toks q
  len : cs.length ≤ 1000
  l0 : 0 ≤ line
  l1 : line + cs.length ≤ 2000
  htot : line + (cs.count 10 : Int) = tot
noncomputable def nxS (ts : List (List Nat)) : List Str → Str
  | x :: _ => x
  | [] => ⟨(ts.headD []).toArray⟩
noncomputable def nxT (ts : List (List Nat)) : List Str → List (List Nat)
  | _ :: _ => ts
  | [] => ts.tail
theorem next3_ok (a : LexA) (j : LexJ) (hTk : TakeOK prog w p loose mean mg mb a j) (hch : a.chain) (line : Int) (tl : Tok) (cs : List Nat) (vs toks : List Value) (e1 e2 : Nat) (ts : List (List Nat)) (q : List Str) (tot : Int) (S : Lx2 vs toks cs line ts q tot) (hq : q.length ≤ 900) :
   Con prog w (hd2.heap_1 w.params) p loose mean mg mb 6 (.ref 66) ⟨[.ref a.lx], []⟩ (fun _ => True) (lexLed w 76 a j line tl vs toks e1 e2)
     (fun v nw' => Ex8 fun t' line' tl' cs' vs' toks' e1' e2' => And4 (v = .str (nxS ts q) t') (nw' = lexLed w 76 a j line' tl' vs' toks' e1' e2') (Lx2 vs' toks' cs' line' (nxT ts q) q.tail tot) ((q = [] → ts = [] → cs' = []))) := by
  obtain ⟨hcs, htx, hqs, hlen, hl0, hl1, hto⟩ := S
  intro dp un gd outer A₀ base g s B O X T hpre hd hu
  cases q with
  | cons x q =>
    cases hqs with
    | @cons _ t toks' _ hqs =>
    have hl := hqs.length
    simp only [List.length_cons] at hq
    refine codeAny_mono (get_token_pop prog w p loose mean mg mb a j hch line tl vs (.str x t) _ e1 e2 (by (walk_at "my o")) dp un gd outer A₀ base g s B O X T hpre hd hu) fun r s' h => ?_
    cases r with
    | error e => exact h.elim
    | ok f =>
    cases f with
    | next => exact h.elim
    | brk => exact h.elim
    | cont => exact h.elim
    | ret v =>
      obtain ⟨h', tk', nw', e, O', e1', rfl, rfl⟩ := h
      exact ⟨h', tk', _, e, O', t, line, tl, cs, vs, _, e1', e2, rfl, rfl, ⟨hcs, htx, hqs, hlen, hl0, hl1, hto⟩, fun h => nomatch h⟩
  | nil =>
    cases hqs
    refine codeAny_mono (get_token_ok prog w p loose mean mg mb a j hTk hch line tl cs vs e1 e2 hcs hlen hl0 hl1 dp un gd outer A₀ base g s B O X T hpre hd hu) fun r s' h => ?_
    cases r with
    | error e => exact h.elim
    | ok f =>
    cases f with
    | next => exact h.elim
    | brk => exact h.elim
    | cont => exact h.elim
    | ret v =>
      obtain ⟨h', tk', nw', e, O', t', tl', e2', vs', line', rfl, hvs', hline', rfl⟩ := h
      have hsuf := tok_suf cs
      have hle := hsuf.length_le
      have hc0 : ((tok cs).2.count 10 : Int) ≤ cs.count 10 := by exact_mod_cast hsuf.sublist.count_le 10
      have hc1 := count_le2 (tok cs).2
      have hc2 := count_le2 cs
      have hc3 : ((tok cs).2.length : Int) - (tok cs).2.count 10 ≤ (cs.length : Int) - cs.count 10 := by
        obtain ⟨l, e⟩ := hsuf
        have e1 : cs.length = l.length + (tok cs).2.length := by rw [← List.length_append, e]
        have e2 : cs.count 10 = l.count 10 + (tok cs).2.count 10 := by rw [← List.count_append, e]
        have := count_le2 l
        (walk_at "my o")
      refine ⟨h', tk', _, e, O', t', line', tl', (tok cs).2, vs', [], e1, e2', ?_, rfl, ?_, ?_⟩
      · cases htx with
        | nil h => rw [h]; rfl
        | cons h _ => rw [h]; rfl
      · refine ⟨hvs', ?_, .nil, by (walk_at "my o"), by (walk_at "my o"), by (walk_at "my o"), by (walk_at "my o")⟩
        cases htx with
        | nil h => rw [h]; exact toks_nil
        | cons h hr => rw [h]; exact hr
      · rintro - rfl
        cases htx with
        | nil h => rw [h]
theorem next2_ok (a : LexA) (j : LexJ) (hTk : TakeOK prog w p loose mean mg mb a j) (hch : a.chain) (line : Int) (tl : Tok) (cs : List Nat) (vs toks : List Value) (e1 e2 : Nat) (ts : List (List Nat)) (q : List Str) (tot : Int) (S : Lx2 vs toks cs line ts q tot) (hq : q.length ≤ 900) :
   Con prog w (hd2.heap_1 w.params) p loose mean mg mb 6 (.ref 66) ⟨[.ref a.lx], []⟩ (fun _ => True) (lexLed w 76 a j line tl vs toks e1 e2)
     (fun v nw' => Ex8 fun t' line' tl' cs' vs' toks' e1' e2' => And3 (v = .str (nxS ts q) t') (nw' = lexLed w 76 a j line' tl' vs' toks' e1' e2') (Lx2 vs' toks' cs' line' (nxT ts q) q.tail tot)) := by
  intro dp un gd outer A₀ base g s B O X T hpre hd hu
  refine codeAny_mono (next3_ok prog w p loose mean mg mb a j hTk hch line tl cs vs toks e1 e2 ts q tot S hq dp un gd outer A₀ base g s B O X T hpre hd hu) fun r s' h => ?_
  cases r with
  | error e => exact h.elim
  | ok f =>
  cases f with
  | next => exact h.elim
  | brk => exact h.elim
  | cont => exact h.elim
  | ret v =>
    obtain ⟨h', tk', nw', e, O', t', line', tl', cs', vs', toks', e1', e2', h1, h2, h3, -⟩ := h
    exact ⟨h', tk', nw', e, O', t', line', tl', cs', vs', toks', e1', e2', h1, h2, h3⟩
end W2TOK
end
section
section W2LEN
theorem len2_ok (a : HdA) (u : Tok) (rows : List Row) (n : Nat) (hl : rows.length ≤ 1000) :
   Con prog w (hd2.heap_1 w.params) p loose mean mg mb 4 (.ref 126) ⟨[.ref a.h], []⟩ (fun _ => True) (hdLed w 220 a u rows n)
     (fun v nw' => (∃ t, v = .int (rows.length : Int) t) ∧ nw' = hdLed w 220 a u rows n) := by
  intro dp un gd outer A₀ base g s B O X T hpre hd hu
  k_dflt ((first | (refine' enterK (by k_asm) (by k_asm) (by k_asm) (by k_is) (by k_is) (by first | walk_at "my r" | lia) (by first | exact BindsTo.of_eq rfl | exact binds_K (Frag.In.keeps (by assumption) (Out.keep (by assumption))) rfl (by k_is) rfl rfl rfl | fail "enter: arguments") ?kBq39 (by decide) (by rfl) (by rfl) (by rfl) ?_; (case kBq39 => exact locs rfl); k_whole; intro Lq hq Fq Nq l1q; (try k_lt l1q); (try dsimp only); (try k_fold)) | walk_at "my enterC"))
  k_steps
  refine' KM.len_K (D := a.l) (its := (rows.map fun r => Value.ref r.a).toArray) (c := n) (n := rows.length) ?N (.tail _ (.tail _ (.head _))) ?z ?f ?_
  (case N => k_asm)
  (case z => simp)
  (case f => (walk_at "my o"))
  (try dsimp only)
  refine' fin_intro ?Fd ?Nd ?Rd
  (case Fd => k_asm)
  (case Nd => k_asm)
  exact ⟨⟨_, rfl⟩, rfl⟩

end W2LEN
end
section
local macro_rules | `(tactic| walk_at "my look") => `(tactic| first | rfl | assumption | (dsimp only; (repeat rw [if_neg (by decide)]); first | rfl | assumption) | with_unfolding_all assumption)
local macro_rules | `(tactic| walk_at "eval Name") => `(tactic| (k_here; k_dflt (refine' nameX_L (by k_asm) (by walk_at "my look") ?_; k_whole)))
local macro_rules | `(tactic| walk_at "loadName") => `(tactic| (k_here; k_dflt (refine' wpAny_loadName_local (by rfl) (by rfl) (Fr.ns (by k_asm)) (by walk_at "my look") ?_; k_whole)))
section
section W2IN
local macro_rules | `(tactic| walk_at "call ref") => `(tactic| (refine stopI ?_))
theorem dlen1 : (Str.ofString ".").length = 1 := by decide
local macro_rules | `(tactic| walk_at "binaryOp Add str str") => `(tactic| (k_here; (with_reducible show wpAny _ _ (binaryOp .Add (.str _ _) (.str _ _)) _ _ _); k_dflt (refine KOpn.add (by first | walk_at "my o" | (simp only [PySem.Str.length_append, dlen1]; walk_at "my o")) ?_); intro _ _ _))
theorem dot1_ok {d : Nat} (h : d ≤ 2) : (∀ c ∈ (dotS d ++ Str.ofString ".").cps.toList, okVal c = true) ∧ (dotS d ++ Str.ofString ".").cps.size ≤ 3 := by
  have : d = 0 ∨ d = 1 ∨ d = 2 := by (walk_at "my o")
  rcases this with rfl | rfl | rfl <;> decide +kernel
noncomputable abbrev toldLed (tc : Addr) (trows : List Row) (nt : Nat) : Led := (tc, listOf (trows.map fun r => Value.ref r.a).toArray nt) :: trows.map Row.obj
structure WSt (t0 : Tab) (S : Str) (tot : Int) (a : LexA) (b : HdA) (tc : Addr) (lim : Nat) (q : List Str) (ord : List Tab) (line : Int) (vs toks : List Value) (rows trows : List Row) : Prop where
  lx : ∃ cs, Lx2 vs toks cs line [S.cps.toList] q tot
  rw2 : Rows2 t0 rows ord
  hok : HdOK b rows
  told : ∃ tds : List Tab, trows.map (fun r => (r.k, r.v)) = tds.map (pairOf t0) ∧ ∀ u ∈ tds, Like t0 u
  tlen : trows.length ≤ lim
  pb : @LT.lt Nat _ a.pb b.d
  bt : @LT.lt Nat _ b.l tc
  tr : ∀ r ∈ trows, @LT.lt Nat _ tc r.a
  ap : ∀ r ∈ rows, @Ne Nat r.a tc ∧ ∀ q ∈ trows, @Ne Nat r.a q.a
theorem hd_lo {C : Addr} {b : HdA} {u : Tok} {rows : List Row} {n : Nat} (hok : HdOK b rows) : ∀ q ∈ hdLed w C b u rows n, @LE.le Nat _ b.d q.1 := by
  obtain ⟨d1, d2, d3, -, -⟩ := hok
  exact fmR3 (P := fun q : Addr × Obj => @LE.le Nat _ b.d q.1) (Nat.le_of_lt d1) (Nat.le_refl _) (Nat.le_of_lt (Nat.lt_trans d1 d2)) fun r hr => Nat.le_of_lt (Nat.lt_trans (Nat.lt_trans d1 d2) (d3 r hr))
theorem lex_hi {C : Addr} {a : LexA} {j : LexJ} {line : Int} {tl : Tok} {vs toks : List Value} {e1 e2 : Nat} (hch : a.chain) : ∀ q ∈ lexLed w C a j line tl vs toks e1 e2, @LE.le Nat _ q.1 a.pb := by
  obtain ⟨c1, c2, c3, c4, c5, c6, c7, c8⟩ := hch
  have e7 := Nat.le_of_lt c8
  have e6 := Nat.le_trans (Nat.le_of_lt c7) e7
  have e5 := Nat.le_trans (Nat.le_of_lt c6) e6
  have e4 := Nat.le_trans (Nat.le_of_lt c5) e5
  have e3 := Nat.le_trans (Nat.le_of_lt c4) e4
  have e2 := Nat.le_trans (Nat.le_of_lt c3) e3
  have e1 := Nat.le_trans (Nat.le_of_lt c2) e2
  exact fm9 (P := fun q : Addr × Obj => @LE.le Nat _ q.1 a.pb) e7 e6 (Nat.le_refl _) e5 e4 e3 e2 (Nat.le_trans (Nat.le_of_lt c1) e1) e1
theorem told_lo {tc : Addr} {trows : List Row} {nt : Nat} (tr : ∀ r ∈ trows, @LT.lt Nat _ tc r.a) : ∀ q ∈ toldLed tc trows nt, @LE.le Nat _ tc q.1 := by
  intro q hq
  rcases List.mem_cons.mp hq with rfl | hq
  · exact Nat.le_refl _
  · obtain ⟨r, hr, rfl⟩ := List.mem_map.mp hq
    exact Nat.le_of_lt (tr r hr)
theorem sep_hl {t0 : Tab} {S : Str} {tot : Int} {a : LexA} {j : LexJ} {b : HdA} {u : Tok} {tc : Addr} {qq : List Str} {lim n e1 e2 : Nat} {ord : List Tab} {line line' : Int} {tl : Tok} {vs toks vs' toks' : List Value} {rows trows : List Row} (hch : a.chain) (W : WSt t0 S tot a b tc lim qq ord line vs toks rows trows) :
    ∀ q ∈ hdLed w 220 b u rows n, ∀ r ∈ lexLed w 76 a j line' tl vs' toks' e1 e2, q.1 ≠ r.1 := fun q hq r hr => by
  have h1 := hd_lo w W.hok q hq
  have h2 := lex_hi w hch r hr
  have h3 := W.pb
  exact neN (by (walk_at "my o"))
theorem sep_tl {t0 : Tab} {S : Str} {tot : Int} {a : LexA} {j : LexJ} {b : HdA} {tc : Addr} {qq : List Str} {lim nt e1 e2 : Nat} {ord : List Tab} {line line' : Int} {tl : Tok} {vs toks vs' toks' : List Value} {rows trows : List Row} (hch : a.chain) (W : WSt t0 S tot a b tc lim qq ord line vs toks rows trows) :
    ∀ q ∈ toldLed tc trows nt, ∀ r ∈ lexLed w 76 a j line' tl vs' toks' e1 e2, q.1 ≠ r.1 := fun q hq r hr => by
  have h1 := told_lo W.tr q hq
  have h2 := lex_hi w hch r hr
  have h3 := W.pb
  have h4 := W.bt
  obtain ⟨d1, d2, -⟩ := W.hok
  exact neN (by (walk_at "my o"))
theorem sep_ht {t0 : Tab} {S : Str} {tot : Int} {a : LexA} {b : HdA} {u : Tok} {tc : Addr} {qq : List Str} {lim n nt : Nat} {ord : List Tab} {line : Int} {vs toks : List Value} {rows trows : List Row} (W : WSt t0 S tot a b tc lim qq ord line vs toks rows trows) :
    ∀ q ∈ hdLed w 220 b u rows n, ∀ r ∈ toldLed tc trows nt, q.1 ≠ r.1 := fun q hq r hr => by
  have h4 := W.bt
  obtain ⟨d1, d2, -⟩ := W.hok
  have h1 := told_lo W.tr r hr
  simp only [hdLed, List.mem_cons] at hq
  rcases hq with rfl | rfl | rfl | hq
  · exact neN (by (walk_at "my o"))
  · exact neN (by (walk_at "my o"))
  · exact neN (by (walk_at "my o"))
  · obtain ⟨x, hx, rfl⟩ := List.mem_map.mp hq
    obtain ⟨z1, z2⟩ := W.ap x hx
    rcases List.mem_cons.mp hr with rfl | hr
    · exact z1
    · obtain ⟨y, hy, rfl⟩ := List.mem_map.mp hr
      exact z2 y hy
noncomputable def Ap3 (I Dm I0 : Addr) (l : Led) : Prop := ∀ p ∈ l, p.1 ≠ I ∧ p.1 ≠ Dm ∧ p.1 ≠ I0
theorem sep_rest {t0 : Tab} {S : Str} {tot : Int} {a : LexA} {j : LexJ} {b : HdA} {u : Tok} {tc I Dm I0 : Addr} {oI od o0 : Obj} {qq : List Str} {lim nr nt e1 e2 : Nat} {ord : List Tab} {line line' : Int} {tl : Tok} {vs toks vs' toks' : List Value} {rows trows : List Row} (hch : a.chain) (W : WSt t0 S tot a b tc lim qq ord line vs toks rows trows)
    (hO : Ap3 I Dm I0 ((tc, listOf (trows.map fun r => Value.ref r.a).toArray nt) :: (lexLed w 76 a j line' tl vs' toks' e1 e2 ++ (hdLed w 220 b u rows nr ++ trows.map Row.obj)))) :
    ∀ r ∈ (I, oI) :: (Dm, od) :: (I0, o0) :: (tc, listOf (trows.map fun r => Value.ref r.a).toArray nt) :: (lexLed w 76 a j line' tl vs' toks' e1 e2 ++ trows.map Row.obj), r ∈ (I, oI) :: (Dm, od) :: (I0, o0) :: (tc, listOf (trows.map fun r => Value.ref r.a).toArray nt) :: (lexLed w 76 a j line' tl vs' toks' e1 e2 ++ (hdLed w 220 b u rows nr ++ trows.map Row.obj)) ∧ ∀ q ∈ hdLed w 220 b u rows nr, r.1 ≠ q.1 := by
  intro r hr
  have inH : ∀ q ∈ hdLed w 220 b u rows nr, q ∈ (tc, listOf (trows.map fun r => Value.ref r.a).toArray nt) :: (lexLed w 76 a j line' tl vs' toks' e1 e2 ++ (hdLed w 220 b u rows nr ++ trows.map Row.obj)) := fun q hq => .tail _ (List.mem_append_right _ (List.mem_append_left _ hq))
  rcases List.mem_cons.mp hr with rfl | hr
  · exact ⟨.head _, fun q hq => Ne.symm (hO q (inH q hq)).1⟩
  rcases List.mem_cons.mp hr with rfl | hr
  · exact ⟨.tail _ (.head _), fun q hq => Ne.symm (hO q (inH q hq)).2.1⟩
  rcases List.mem_cons.mp hr with rfl | hr
  · exact ⟨.tail _ (.tail _ (.head _)), fun q hq => Ne.symm (hO q (inH q hq)).2.2⟩
  rcases List.mem_cons.mp hr with rfl | hr
  · exact ⟨.tail _ (.tail _ (.tail _ (.head _))), fun q hq => Ne.symm (sep_ht w W (nt := nt) q hq _ (.head _))⟩
  rcases List.mem_append.mp hr with hr | hr
  · exact ⟨.tail _ (.tail _ (.tail _ (.tail _ (List.mem_append_left _ hr)))), fun q hq => Ne.symm (sep_hl w hch W q hq r hr)⟩
  · exact ⟨.tail _ (.tail _ (.tail _ (.tail _ (List.mem_append_right _ (List.mem_append_right _ hr))))), fun q hq => Ne.symm (sep_ht w W (nt := nt) q hq r (.tail _ hr))⟩
theorem News.hdback {g h : Heap} {L : Addr} {x y z t : Addr × Obj} {A H T : Led} (N : News g L h (H ++ (x :: y :: z :: t :: (A ++ T)))) : News g L h (x :: y :: z :: t :: (A ++ (H ++ T))) := fun q hq => N q (memSw (P := x :: y :: z :: t :: A) hq)
theorem News.lxback {g h : Heap} {L : Addr} {x y z t : Addr × Obj} {A H T : Led} (N : News g L h (A ++ (x :: y :: z :: t :: (H ++ T)))) : News g L h (x :: y :: z :: t :: (A ++ (H ++ T))) := fun q hq => N q (memSw (P := [x, y, z, t]) hq)
theorem News.toldback {g h : Heap} {L : Addr} {x y z t d : Addr × Obj} {A H T : Led} (N : News g L h (d :: x :: y :: z :: t :: (A ++ (H ++ T)))) : News g L h (x :: y :: z :: t :: (A ++ (H ++ (T ++ [d])))) := fun q hq => N q (memLast (P := x :: y :: z :: t :: A) hq)
theorem WSt.told_add {t0 : Tab} {S : Str} {tot : Int} {a : LexA} {b : HdA} {tc : Addr} {qq : List Str} {lim : Nat} {ord : List Tab} {line : Int} {vs toks : List Value} {rows trows : List Row} (W : WSt t0 S tot a b tc lim qq ord line vs toks rows trows) {m : Tab} {r : Row}
    (hk : r.k = wdOf m) (hv : r.v = dotS (DD t0 m)) (hm : Like t0 m) (htr : @LT.lt Nat _ tc r.a) (hap : ∀ q ∈ rows, @Ne Nat q.a r.a) : WSt t0 S tot a b tc (lim + 1) qq ord line vs toks rows (trows ++ [r]) := by
  obtain ⟨tds, h1, h2⟩ := W.told
  refine ⟨W.lx, W.rw2, W.hok, ⟨tds ++ [m], ?_, ?_⟩, ?_, W.pb, W.bt, ?_, ?_⟩
  · rw [List.map_append, h1, List.map_append, List.map_cons, List.map_nil, hk, hv]; rfl
  · intro v hv
    rcases List.mem_append.mp hv with h | h
    · exact h2 v h
    · rw [List.mem_singleton.mp h]; exact hm
  · have := W.tlen
    rw [List.length_append, List.length_singleton]; (walk_at "my o")
  · intro q hq
    rcases List.mem_append.mp hq with h | h
    · exact W.tr q h
    · rw [List.mem_singleton.mp h]; exact htr
  · intro q hq
    obtain ⟨z1, z2⟩ := W.ap q hq
    refine ⟨z1, fun x hx => ?_⟩
    rcases List.mem_append.mp hx with h | h
    · exact z2 x h
    · rw [List.mem_singleton.mp h]; exact hap q hq
theorem WSt.row_add {t0 : Tab} {S : Str} {tot : Int} {a : LexA} {b : HdA} {tc : Addr} {qq : List Str} {lim : Nat} {ord : List Tab} {line : Int} {vs toks : List Value} {rows trows : List Row} (W : WSt t0 S tot a b tc lim qq ord line vs toks rows trows) {m : Tab} {r : Row}
    (hk : r.k = wdOf m) (hv : r.v = dotS (DD t0 m)) (hm : TOK m) (hl : @LT.lt Nat _ b.l r.a) (hap : @Ne Nat r.a tc ∧ ∀ q ∈ trows, @Ne Nat r.a q.a) (hlen : rows.length ≤ 900) : WSt t0 S tot a b tc lim qq (ord ++ [m]) line vs toks (rows ++ [r]) trows := by
  obtain ⟨h1, h2, h3, h4, h5⟩ := W.hok
  refine ⟨W.lx, rows2_add W.rw2 hk hv, ⟨h1, h2, ?_, ?_, by simp; (walk_at "my o")⟩, W.told, W.tlen, W.pb, W.bt, W.tr, ?_⟩
  · intro p hp
    rw [List.map_append] at hp
    rcases List.mem_append.mp hp with hp | hp
    · exact h3 p hp
    · rw [List.mem_singleton.mp hp]; exact hl
  · intro q hq
    rcases List.mem_append.mp hq with hq | hq
    · exact h4 q hq
    · rw [List.mem_singleton.mp hq, hk]; exact wd_szL hm
  · intro q hq
    rcases List.mem_append.mp hq with hq | hq
    · exact W.ap q hq
    · rw [List.mem_singleton.mp hq]; exact hap
theorem WSt.push {t0 : Tab} {S : Str} {tot : Int} {a : LexA} {b : HdA} {tc : Addr} {qq : List Str} {lim : Nat} {ord : List Tab} {line : Int} {vs toks : List Value} {rows trows : List Row} (W : WSt t0 S tot a b tc lim qq ord line vs toks rows trows) (x : Str) (t : Tok) :
    WSt t0 S tot a b tc lim (qq ++ [x]) ord line vs (toks ++ [.str x t]) rows trows := by
  obtain ⟨cs, c1, c2, c3, c4, c5, c6, c7⟩ := W.lx
  exact ⟨⟨cs, c1, c2, StrsAre3_append c3 (.cons _ _ .nil), c4, c5, c6, c7⟩, W.rw2, W.hok, W.told, W.tlen, W.pb, W.bt, W.tr, W.ap⟩
theorem WSt.toks_len {t0 : Tab} {S : Str} {tot : Int} {a : LexA} {b : HdA} {tc : Addr} {qq : List Str} {lim : Nat} {ord : List Tab} {line : Int} {vs toks : List Value} {rows trows : List Row} (W : WSt t0 S tot a b tc lim qq ord line vs toks rows trows) : toks.length = qq.length := by
  obtain ⟨cs, c1, c2, c3, -⟩ := W.lx
  exact c3.length
theorem lex_same {C : Addr} {a : LexA} {j : LexJ} {line line' : Int} {tl tl' : Tok} {vs vs' toks toks' : List Value} {e1 e2 e1' e2' : Nat} : ∀ p ∈ lexLed w C a j line' tl' vs' toks' e1' e2', ∃ p' ∈ lexLed w C a j line tl vs toks e1 e2, p'.1 = p.1 := by
  intro q hq
  have h := List.mem_map_of_mem (f := Prod.fst) hq
  exact List.mem_map.mp (show q.1 ∈ (lexLed w C a j line tl vs toks e1 e2).map Prod.fst from h)
theorem Ap3.lex {I Dm I0 C : Addr} {a : LexA} {j : LexJ} {line line' : Int} {tl tl' : Tok} {vs vs' toks toks' : List Value} {e1 e2 e1' e2' : Nat} {x : Addr × Obj} {R : Led} (h : Ap3 I Dm I0 (x :: (lexLed w C a j line tl vs toks e1 e2 ++ R))) : Ap3 I Dm I0 (x :: (lexLed w C a j line' tl' vs' toks' e1' e2' ++ R)) := by
  intro p hp
  rcases List.mem_cons.mp hp with rfl | hp
  · exact h _ (.head _)
  rcases List.mem_append.mp hp with hp | hp
  · obtain ⟨p', hp', e⟩ := lex_same w (line := line) (tl := tl) (vs := vs) (toks := toks) (e1 := e1) (e2 := e2) p hp
    rw [← e]
    exact h p' (.tail _ (List.mem_append_left _ hp'))
  · exact h p (.tail _ (List.mem_append_right _ hp))
theorem sep_restL {t0 : Tab} {S : Str} {tot : Int} {a : LexA} {j : LexJ} {b : HdA} {u : Tok} {tc I Dm I0 : Addr} {oI od o0 : Obj} {qq : List Str} {lim nr nt e1 e2 : Nat} {ord : List Tab} {line line' : Int} {tl : Tok} {vs toks vs' toks' : List Value} {rows trows : List Row} (hch : a.chain) (W : WSt t0 S tot a b tc lim qq ord line vs toks rows trows)
    (hO : Ap3 I Dm I0 ((tc, listOf (trows.map fun r => Value.ref r.a).toArray nt) :: (lexLed w 76 a j line' tl vs' toks' e1 e2 ++ (hdLed w 220 b u rows nr ++ trows.map Row.obj)))) :
    ∀ r ∈ (I, oI) :: (Dm, od) :: (I0, o0) :: (tc, listOf (trows.map fun r => Value.ref r.a).toArray nt) :: (hdLed w 220 b u rows nr ++ trows.map Row.obj), r ∈ (I, oI) :: (Dm, od) :: (I0, o0) :: (tc, listOf (trows.map fun r => Value.ref r.a).toArray nt) :: (lexLed w 76 a j line' tl vs' toks' e1 e2 ++ (hdLed w 220 b u rows nr ++ trows.map Row.obj)) ∧ ∀ q ∈ lexLed w 76 a j line' tl vs' toks' e1 e2, r.1 ≠ q.1 := by
  intro r hr
  have inL : ∀ q ∈ lexLed w 76 a j line' tl vs' toks' e1 e2, q ∈ (tc, listOf (trows.map fun r => Value.ref r.a).toArray nt) :: (lexLed w 76 a j line' tl vs' toks' e1 e2 ++ (hdLed w 220 b u rows nr ++ trows.map Row.obj)) := fun q hq => .tail _ (List.mem_append_left _ hq)
  rcases List.mem_cons.mp hr with rfl | hr
  · exact ⟨.head _, fun q hq => Ne.symm (hO q (inL q hq)).1⟩
  rcases List.mem_cons.mp hr with rfl | hr
  · exact ⟨.tail _ (.head _), fun q hq => Ne.symm (hO q (inL q hq)).2.1⟩
  rcases List.mem_cons.mp hr with rfl | hr
  · exact ⟨.tail _ (.tail _ (.head _)), fun q hq => Ne.symm (hO q (inL q hq)).2.2⟩
  rcases List.mem_cons.mp hr with rfl | hr
  · exact ⟨.tail _ (.tail _ (.tail _ (.head _))), fun q hq => sep_tl w hch W (nt := nt) _ (.head _) q hq⟩
  rcases List.mem_append.mp hr with hr | hr
  · exact ⟨.tail _ (.tail _ (.tail _ (.tail _ (List.mem_append_right _ (List.mem_append_left _ hr))))), fun q hq => sep_hl w hch W r hr q hq⟩
  · exact ⟨.tail _ (.tail _ (.tail _ (.tail _ (List.mem_append_right _ (List.mem_append_right _ hr))))), fun q hq => sep_tl w hch W (nt := nt) r (.tail _ hr) q hq⟩
theorem all_lt_rows {d : Nat} {rows trows : List Row} (h : AllLt d (rows.map Row.obj ++ trows.map Row.obj)) : ∀ r ∈ rows, @LT.lt Nat _ r.a d := fun r hr => allLt_mem h (Row.obj r) (List.mem_append_left _ (List.mem_map_of_mem hr))
theorem in_take {cu m1 : Tab} {r : Nat} {ord : List Tab} (hr : (movedT cu)[r]? = some m1) (hin : ∀ m ∈ (movedT cu).take r, m ∈ ord) (hm : m1 ∈ ord) : ∀ m ∈ (movedT cu).take (r + 1), m ∈ ord := by
  intro m h
  rw [List.take_add_one, hr] at h
  rcases List.mem_append.mp h with h | h
  · exact hin m h
  · rw [List.mem_singleton.mp h]; exact hm
theorem moved_len {cu : Tab} (h : TOK cu) : (movedT cu).length ≤ 12 := by
  have h1 := (picks16 h.1 h.2.1).2
  have h2 := (picks16 h.1 h.2.2).2
  have h3 := (picks16 h.2.1 h.2.2).2
  show (((movedP cu.1 cu.2.1).map _ ++ (movedP cu.1 cu.2.2).map _) ++ (movedP cu.2.1 cu.2.2).map _).length ≤ 12
  simp only [List.length_append, List.length_map]
  unfold movedP
  (walk_at "my o")
structure InSt (t0 : Tab) (S : Str) (tot : Int) (a : LexA) (b : HdA) (tc : Addr) (n r : Nat) (cu : Tab) (ord : List Tab) (line : Int) (vs toks : List Value) (rows trows : List Row) : Prop where
  st : WSt t0 S tot a b tc (12 * n + r) ((ord.drop (n + 1)).map wdOf) ord line vs toks rows trows
  bf : Bfs t0 ord n
  cur : ord[n]? = some cu
  inn : ∀ m ∈ (movedT cu).take r, m ∈ ord
noncomputable def InJ (w : World) (t0 : Tab) (S : Str) (tot : Int) (a : LexA) (j : LexJ) (b : HdA) (u : Tok) (tc Dm I0 : Addr) (od o0 : Obj) (n : Nat) (cu : Tab) (r : Nat) (mp : Str → Option Value) (nw : Led) : Prop :=
  Ex11 fun ord line tl vs toks e1 e2 rows nr trows nt => And8 (InSt t0 S tot a b tc n r cu ord line vs toks rows trows) (mp (Str.ofString "lexer") = some (.ref a.lx)) (mp (Str.ofString "board") = some (.ref b.h)) (mp (Str.ofString "told") = some (.ref tc)) ((∃ td, mp (Str.ofString "dots") = some (.str (dotS (DD t0 cu)) td))) ((∃ ts, mp (Str.ofString "stop") = some (.str S ts))) (nw = (Dm, od) :: (I0, o0) :: (tc, listOf (trows.map fun r => Value.ref r.a).toArray nt) :: (lexLed w 76 a j line tl vs toks e1 e2 ++ (hdLed w 220 b u rows nr ++ trows.map Row.obj))) ((∀ p ∈ (tc, listOf (trows.map fun r => Value.ref r.a).toArray nt) :: (lexLed w 76 a j line tl vs toks e1 e2 ++ (hdLed w 220 b u rows nr ++ trows.map Row.obj)), p.1 ≠ Dm ∧ p.1 ≠ I0))
local macro_rules | `(tactic| walk_at "call builtin:list.append") => `(tactic| (refine stopI ?_))
theorem in2_turn (t0 : Tab) (ht0 : TOK t0) (S : Str) (tot : Int) (a : LexA) (j : LexJ) (b : HdA) (u : Tok) (tc Dm I0 : Addr) (od o0 : Obj) (n : Nat) (cu m1 : Tab) (hch : a.chain)
    {dp un : Nat} {gd : Option (List Code)} {outer : List Env} {A₀ : Around} {base g : Heap} {s : Shared} {L' : Addr} {Q : Flow → Shared → Prop} (hd : dp + 10 < recursionLimit) (hu : un + 16 * 10 < cLine) (B : Below A₀ base outer g) (X : (hd2.heap_1 w.params).In g) (T : Top p loose mean mg mb g)
    (r : Nat) (hr : (movedT cu)[r]? = some m1) (mp : Str → Option Value) (nw : Led) (I : Addr) (oI : Obj) (h : Heap) (tk : Nat) (xt : Tok) (hJ : InJ w t0 S tot a j b u tc Dm I0 od o0 n cu r mp nw)
    (F : Fr g L' h (fun y => if y = Str.ofString "moved" then some (.str (wdOf m1) xt) else mp y)) (N : News g L' h ((I, oI) :: nw)) (off : ∀ p ∈ nw, p.1 ≠ I) :
    wpAny (model prog w) (Around.deeper { handled := none, depth := dp, frames := some outer, guards := gd, units := un } (envOf (Str.ofString "_law_walk") (scopeOf (lawFn2 16)) L' 258 (Value.ref 257))) (execs (forBody (stmtAt (forBody (stmtAt (bodyOfF (lawFn2 16)) 5)) 3)) (envOf (Str.ofString "_law_walk") (scopeOf (lawFn2 16)) L' 258 (Value.ref 257)))
      (ListEnd g L' s I oI (InJ w t0 S tot a j b u tc Dm I0 od o0 n cu (r + 1)) Q) (fun _ _ => False) { s with heap := h, toks := tk } := by
  obtain ⟨ord, line, tl, vs, toks, e1, e2, rows, nr, trows, nt, ⟨W, hB, hcu, hin⟩, hl, hb, ht, ⟨td, hdt⟩, ⟨ts, hst⟩, rfl, hX⟩ := hJ
  conv in (occs := *) scopeOf _ => all_goals whnf
  conv in execs (forBody _) _ => arg 1; whnf
  have hl2 : (fun y => if y = Str.ofString "moved" then some (.str (wdOf m1) xt) else mp y) (Str.ofString "lexer") = some (.ref a.lx) := hl
  have hb2 : (fun y => if y = Str.ofString "moved" then some (.str (wdOf m1) xt) else mp y) (Str.ofString "board") = some (.ref b.h) := hb
  have ht2 : (fun y => if y = Str.ofString "moved" then some (.str (wdOf m1) xt) else mp y) (Str.ofString "told") = some (.ref tc) := ht
  have hd2' : (fun y => if y = Str.ofString "moved" then some (.str (wdOf m1) xt) else mp y) (Str.ofString "dots") = some (.str (dotS (DD t0 cu)) td) := hdt
  have hs2 : (fun y => if y = Str.ofString "moved" then some (.str (wdOf m1) xt) else mp y) (Str.ofString "stop") = some (.str S ts) := hst
  have hm2 : (fun y => if y = Str.ofString "moved" then some (.str (wdOf m1) xt) else mp y) (Str.ofString "moved") = some (.str (wdOf m1) xt) := rfl
  generalize (fun y => if y = Str.ofString "moved" then some (.str (wdOf m1) xt) else mp y) = m2 at *
  have Nl := N
  dsimp only [lexLed, hdLed, List.cons_append, List.nil_append] at Nl
  k_steps
  have hlen := rows2_len W.rw2
  have hdl : (dotS (DD t0 cu)).length ≤ 2 := (dot_ok _).2
  have hol := hB.len ht0
  have hO : Ap3 I Dm I0 ((tc, listOf (trows.map fun r => Value.ref r.a).toArray nt) :: (lexLed w 76 a j line tl vs toks e1 e2 ++ (hdLed w 220 b u rows nr ++ trows.map Row.obj))) := fun p hp => ⟨off p (.tail _ (.tail _ hp)), hX p hp⟩
  have oDm : Dm ≠ I := off _ (.head _)
  have oI0 : I0 ≠ I := off _ (.tail _ (.head _))
  clear off hX
  show wpAny _ _ _ _ _ _
  (k_dflt (refine' Con.use (len2_ok prog w p loose mean mg mb b u rows nr (by (walk_at "my o"))) ((I, oI) :: (Dm, od) :: (I0, o0) :: (tc, listOf (trows.map fun r => Value.ref r.a).toArray nt) :: (lexLed w 76 a j line tl vs toks e1 e2 ++ trows.map Row.obj)) ?zB9 ?zF9 ?zX9 N ?zT9 ?zA9 ?zf9 ?zk9 ?zd9 ?zu9 (fun q hq => .tail _ (.tail _ (.tail _ (.tail _ (List.mem_append_right _ (List.mem_append_left _ hq)))))) (sep_rest w hch W hO) ?zpre9 ?_); (case zB9 => k_asm); (case zF9 => k_asm); (case zX9 => k_asm); (case zT9 => k_asm); (case zA9 => exact rfl); (case zf9 => exact rfl); (case zk9 => exact rfl); (case zd9 => k_room); (case zu9 => k_units); (case zpre9 => first | exact trivial | skip))
  intro v h' tk' nw' F' N' zg1 zg2
  refine letGoal ?_
  intro Gz
  obtain ⟨⟨t1, rfl⟩, rfl⟩ := zg1
  clear zg2
  dsimp only [Gz]
  clear Gz
  replace N' := News.hdback N'
  clear Nl N F
  have Nl := N'
  dsimp only [lexLed, hdLed, List.cons_append, List.nil_append] at Nl
  refine ⟨⟨by (walk_at "my o"), by (walk_at "my o")⟩, ?_⟩
  k_steps
  show wpAny _ _ _ _ _ _
  rename_i td2 hq2 hlq
  have hT : ∀ u ∈ ord, TOK u := fun u hu => (hB.like u hu).ok
  have hcuo := hB.like cu (List.mem_of_getElem? hcu)
  have hmm : m1 ∈ movedT cu := List.mem_of_getElem? hr
  have hm1o : TOK m1 := (moved_like hcuo.ok hmm).1.ok
  have hlk : Like t0 m1 := hcuo.trans (moved_like hcuo.ok hmm).1
  obtain ⟨o1, o2, o3, o4, o5⟩ := id W.hok
  have hnl := (List.getElem?_eq_some_iff.mp hcu).1
  have hrl := (List.getElem?_eq_some_iff.mp hr).1
  have hml := moved_len hcuo.ok
  obtain ⟨y1, y2⟩ := dot1_ok (dd_le t0 cu)
  (k_dflt (refine' Con.use (setdefault_ok prog w p loose mean mg mb b u rows nr (wdOf m1) (dotS (DD t0 cu) ++ Str.ofString ".") xt td2 (wd_okL hm1o) (wd_szL hm1o) (rows2_sz W.rw2 hT) (wd_ok hm1o) (by show 3 ≤ 1000; decide) y1 (by (walk_at "my o")) (by (walk_at "my o")) (fun r hr => by have := o3 _ (List.mem_map_of_mem hr); (show @LT.lt Nat _ b.h r.a ∧ @LT.lt Nat _ b.d r.a ∧ @LT.lt Nat _ b.l r.a); (have this : @LT.lt Nat _ b.l r.a := this); (walk_at "my o")) o1 o2) ((I, oI) :: (Dm, od) :: (I0, o0) :: (tc, listOf (trows.map fun r => Value.ref r.a).toArray nt) :: (lexLed w 76 a j line tl vs toks e1 e2 ++ trows.map Row.obj)) ?zB10 ?zF10 ?zX10 (show News g L' _ ((I, oI) :: (Dm, od) :: (I0, o0) :: (tc, listOf (trows.map fun r => Value.ref r.a).toArray nt) :: (lexLed w 76 a j line tl vs toks e1 e2 ++ (hdLed w 220 b u rows nr ++ trows.map Row.obj))) from by k_asm) ?zT10 ?zA10 ?zf10 ?zk10 ?zd10 ?zu10 (fun q hq => .tail _ (.tail _ (.tail _ (.tail _ (List.mem_append_right _ (List.mem_append_left _ hq)))))) (sep_rest w hch W hO) ?zpre10 ?_); (case zB10 => k_asm); (case zF10 => k_asm); (case zX10 => k_asm); (case zT10 => k_asm); (case zA10 => exact rfl); (case zf10 => exact rfl); (case zk10 => exact rfl); (case zd10 => k_room); (case zu10 => k_units); (case zpre10 => first | exact trivial | skip))
  intro v h' tk' nw' F' N' hv zg3
  refine letGoal ?_
  intro Gz
  obtain ⟨-, hap⟩ := zg3
  dsimp only [Gz]
  clear Gz
  rw [lower_wd hm1o] at hv
  obtain ⟨g1, g2⟩ := rows2_get hm1o W.rw2 hT
  clear y1 y2 hlq
  by_cases hmo : m1 ∈ ord
  · obtain ⟨rr, hrr, hrv⟩ := g1 hmo
    rw [hrr] at hv
    obtain ⟨rfl, rfl⟩ := hv
    rw [hrv]
    generalize rr.tv = tv
    replace N' := News.hdback N'
    have Nl := N'
    dsimp only [lexLed, hdLed, List.cons_append, List.nil_append] at Nl
    k_steps
    show wpAny _ _ _ _ _ _
    rename_i D' hD1 FD ND lD
    obtain ⟨b1, b2, b3, b4, -, -, -, -, -, -, -, -, -, -, -, -, bA⟩ := lD
    have nRow : ∀ q ∈ rows, @Ne Nat q.a D' := fun q hq => Nat.ne_of_lt (all_lt_rows bA q hq)
    have W2 := W.told_add (m := m1) (r := (⟨D', wdOf m1, xt, dotS (DD t0 m1), tv⟩ : Row)) rfl rfl hlk b4 nRow
    have hO2 : Ap3 I Dm I0 ((tc, listOf ((trows ++ [(⟨D', wdOf m1, xt, dotS (DD t0 m1), tv⟩ : Row)]).map fun r => Value.ref r.a).toArray (nt + 1)) :: (lexLed w 76 a j line tl vs toks e1 e2 ++ (hdLed w 220 b u rows nr ++ (trows ++ [(⟨D', wdOf m1, xt, dotS (DD t0 m1), tv⟩ : Row)]).map Row.obj))) := by
      intro p hp
      rcases List.mem_cons.mp hp with rfl | hp
      · exact hO (tc, listOf (trows.map fun r => Value.ref r.a).toArray nt) (.head _)
      rcases List.mem_append.mp hp with hp | hp
      · exact hO p (.tail _ (List.mem_append_left _ hp))
      rcases List.mem_append.mp hp with hp | hp
      · exact hO p (.tail _ (List.mem_append_right _ (List.mem_append_left _ hp)))
      rw [List.map_append] at hp
      rcases List.mem_append.mp hp with hp | hp
      · exact hO p (.tail _ (List.mem_append_right _ (List.mem_append_right _ hp)))
      · rw [List.mem_singleton.mp hp]
        exact ⟨neN (Nat.ne_of_gt b1), neN (Nat.ne_of_gt b2), neN (Nat.ne_of_gt b3)⟩
    refine' append_K (its := (trows.map fun r => Value.ref r.a).toArray) (n := nt) ?Fq ?Nq (.tail ?u1 (.tail ?u2 (.tail ?u3 (.tail ?u4 (.head ?u5))))) ?hq ?zq
    (case Fq => k_asm)
    (case Nq => exact (show News g L' _ ((D', tupObj #[.str (wdOf m1) xt, .str (dotS (DD t0 m1)) tv]) :: (I, oI) :: (Dm, od) :: (I0, o0) :: (tc, listOf (trows.map fun r => Value.ref r.a).toArray nt) :: (lexLed w 76 a j line tl vs toks e1 e2 ++ (hdLed w 220 b u rows nr ++ trows.map Row.obj))) from by k_asm))
    (case u1 => exact neN (Nat.ne_of_gt b4))
    (case u2 => exact Ne.symm (hO (tc, listOf (trows.map fun r => Value.ref r.a).toArray nt) (.head _)).1)
    (case u3 => exact Ne.symm (hO (tc, listOf (trows.map fun r => Value.ref r.a).toArray nt) (.head _)).2.1)
    (case u4 => exact Ne.symm (hO (tc, listOf (trows.map fun r => Value.ref r.a).toArray nt) (.head _)).2.2)
    (case u5 =>
      intro q hq
      rcases List.mem_append.mp hq with hq | hq
      · exact Ne.symm (sep_tl w hch W (nt := nt) _ (.head _) q hq)
      rcases List.mem_append.mp hq with hq | hq
      · exact sep_ht w W (nt := nt) q hq _ (.head _)
      · obtain ⟨x, hx, rfl⟩ := List.mem_map.mp hq
        exact neN (Nat.ne_of_gt (W.tr x hx)))
    (case zq => (have := W.tlen; rw [sizeLine_eq]; simp only [List.size_toArray, List.length_map]; (walk_at "my o")))
    intro h5 F5 N5
    have e5 : (((trows ++ [(⟨D', wdOf m1, xt, dotS (DD t0 m1), tv⟩ : Row)])).map fun r => Value.ref r.a).toArray = ((trows.map fun r => Value.ref r.a).toArray).push (.ref D') := by simp
    have N6 : News g L' h5 ((I, oI) :: (Dm, od) :: (I0, o0) :: (tc, listOf ((trows ++ [(⟨D', wdOf m1, xt, dotS (DD t0 m1), tv⟩ : Row)]).map fun r => Value.ref r.a).toArray (nt + 1)) :: (lexLed w 76 a j line tl vs toks e1 e2 ++ (hdLed w 220 b u rows nr ++ (trows ++ [(⟨D', wdOf m1, xt, dotS (DD t0 m1), tv⟩ : Row)]).map Row.obj))) := by
      rw [e5, List.map_append]
      exact News.toldback N5
    clear e5 N5 b1 b2 b3 b4 bA nRow FD ND
    generalize (trows ++ [(⟨D', wdOf m1, xt, dotS (DD t0 m1), tv⟩ : Row)]) = trows2 at W2 hO2 N6
    have Nl := N6
    dsimp only [lexLed, hdLed, List.cons_append, List.nil_append] at Nl
    k_steps
    show wpAny _ _ _ _ _ _
    (k_dflt (refine' Con.use (len2_ok prog w p loose mean mg mb b u rows nr (by (walk_at "my o"))) ((I, oI) :: (Dm, od) :: (I0, o0) :: (tc, listOf (trows2.map fun r => Value.ref r.a).toArray (nt + 1)) :: (lexLed w 76 a j line tl vs toks e1 e2 ++ trows2.map Row.obj)) ?zB11 ?zF11 ?zX11 (show News g L' _ ((I, oI) :: (Dm, od) :: (I0, o0) :: (tc, listOf (trows2.map fun r => Value.ref r.a).toArray (nt + 1)) :: (lexLed w 76 a j line tl vs toks e1 e2 ++ (hdLed w 220 b u rows nr ++ trows2.map Row.obj))) from by k_asm) ?zT11 ?zA11 ?zf11 ?zk11 ?zd11 ?zu11 (fun q hq => .tail _ (.tail _ (.tail _ (.tail _ (List.mem_append_right _ (List.mem_append_left _ hq)))))) (sep_rest w hch W2 hO2) ?zpre11 ?_); (case zB11 => k_asm); (case zF11 => k_asm); (case zX11 => k_asm); (case zT11 => k_asm); (case zA11 => exact rfl); (case zf11 => exact rfl); (case zk11 => exact rfl); (case zd11 => k_room); (case zu11 => k_units); (case zpre11 => first | exact trivial | skip))
    intro v h' tk' nw' F' N' zg4 zg5
    refine letGoal ?_
    intro Gz
    obtain ⟨⟨t9, rfl⟩, rfl⟩ := zg4
    clear zg5
    dsimp only [Gz]
    clear Gz
    replace N' := News.hdback N'
    clear Nl N6
    have Nl := N'
    dsimp only [lexLed, hdLed, List.cons_append, List.nil_append] at Nl
    refine ⟨⟨by (walk_at "my o"), by (walk_at "my o")⟩, ?_⟩
    k_steps
    refine' list_next (nw := (Dm, od) :: (I0, o0) :: (tc, listOf (trows2.map fun r => Value.ref r.a).toArray (nt + 1)) :: (lexLed w 76 a j line tl vs toks e1 e2 ++ (hdLed w 220 b u rows nr ++ trows2.map Row.obj))) ?Fn ?Nn ?on ⟨ord, line, tl, vs, toks, e1, e2, rows, nr, trows2, nt + 1, ⟨W2, hB, hcu, in_take hr hin hmo⟩, ?z1, ?z2, ?z3, ?z4, ?z5, rfl, ?z6⟩
    (case Fn => k_asm)
    (case Nn => k_asm)
    (case z1 => walk_at "my look")
    (case z2 => walk_at "my look")
    (case z3 => walk_at "my look")
    (case z4 => exact ⟨_, by walk_at "my look"⟩)
    (case z5 => exact ⟨_, by walk_at "my look"⟩)
    (case on => exact List.forall_mem_cons.mpr ⟨oDm, List.forall_mem_cons.mpr ⟨oI0, fun p hp => (hO2 p hp).1⟩⟩)
    (case z6 => exact fun p hp => (hO2 p hp).2)
  · rw [g2 hmo] at hv
    obtain ⟨rfl, r0, n', hk0, hv0, hl0, rfl⟩ := hv
    obtain ⟨hdd, hB2⟩ := hB.new ht0 hcu hmm hmo
    have hd1 : DD t0 cu ≤ 1 := by have := dd_le t0 m1; (walk_at "my o")
    rw [dot_next hd1, ← hdd] at hv0 ⊢
    generalize td2 = tv
    replace N' := News.hdback N'
    have hr0 : (r0.a, tupObj #[.str r0.k r0.tk, .str r0.v r0.tv]) ∈ hdLed w 220 b u (rows ++ [r0]) n' := .tail _ (.tail _ (.tail _ (by rw [List.map_append]; exact List.mem_append_right _ (.head _))))
    have W1 := W.row_add hk0 hv0 hm1o hl0 ⟨hap _ hr0 _ (.tail _ (.tail _ (.tail _ (.head _)))), fun q hq => hap _ hr0 (Row.obj q) (.tail _ (.tail _ (.tail _ (.tail _ (List.mem_append_right _ (List.mem_map_of_mem hq))))))⟩ (by (walk_at "my o"))
    have hO1 : Ap3 I Dm I0 ((tc, listOf (trows.map fun r => Value.ref r.a).toArray nt) :: (lexLed w 76 a j line tl vs toks e1 e2 ++ (hdLed w 220 b u (rows ++ [r0]) n' ++ trows.map Row.obj))) := by
      intro p hp
      rcases List.mem_cons.mp hp with rfl | hp
      · exact hO _ (.head _)
      rcases List.mem_append.mp hp with hp | hp
      · exact hO p (.tail _ (List.mem_append_left _ hp))
      rcases List.mem_append.mp hp with hp | hp
      · exact ⟨hap p hp (I, oI) (.head _), hap p hp (Dm, od) (.tail _ (.head _)), hap p hp (I0, o0) (.tail _ (.tail _ (.head _)))⟩
      · exact hO p (.tail _ (List.mem_append_right _ (List.mem_append_right _ hp)))
    clear hap
    have Nl := N'
    dsimp only [lexLed, hdLed, List.cons_append, List.nil_append] at Nl
    k_steps
    show wpAny _ _ _ _ _ _
    rename_i D' hD1 FD ND lD
    obtain ⟨b1, b2, b3, b4, -, -, -, -, -, -, -, -, -, -, -, -, bA⟩ := lD
    have nRow : ∀ q ∈ (rows ++ [r0]), @Ne Nat q.a D' := fun q hq => Nat.ne_of_lt (all_lt_rows bA q hq)
    have W2 := W1.told_add (m := m1) (r := (⟨D', wdOf m1, xt, dotS (DD t0 m1), tv⟩ : Row)) rfl rfl hlk b4 nRow
    have hO2 : Ap3 I Dm I0 ((tc, listOf ((trows ++ [(⟨D', wdOf m1, xt, dotS (DD t0 m1), tv⟩ : Row)]).map fun r => Value.ref r.a).toArray (nt + 1)) :: (lexLed w 76 a j line tl vs toks e1 e2 ++ (hdLed w 220 b u (rows ++ [r0]) n' ++ (trows ++ [(⟨D', wdOf m1, xt, dotS (DD t0 m1), tv⟩ : Row)]).map Row.obj))) := by
      intro p hp
      rcases List.mem_cons.mp hp with rfl | hp
      · exact hO1 (tc, listOf (trows.map fun r => Value.ref r.a).toArray nt) (.head _)
      rcases List.mem_append.mp hp with hp | hp
      · exact hO1 p (.tail _ (List.mem_append_left _ hp))
      rcases List.mem_append.mp hp with hp | hp
      · exact hO1 p (.tail _ (List.mem_append_right _ (List.mem_append_left _ hp)))
      rw [List.map_append] at hp
      rcases List.mem_append.mp hp with hp | hp
      · exact hO1 p (.tail _ (List.mem_append_right _ (List.mem_append_right _ hp)))
      · rw [List.mem_singleton.mp hp]
        exact ⟨neN (Nat.ne_of_gt b1), neN (Nat.ne_of_gt b2), neN (Nat.ne_of_gt b3)⟩
    refine' append_K (its := (trows.map fun r => Value.ref r.a).toArray) (n := nt) ?Fqb ?Nqb (.tail ?u1b (.tail ?u2b (.tail ?u3b (.tail ?u4b (.head ?u5b))))) ?hqb ?zqb
    (case Fqb => k_asm)
    (case Nqb => exact (show News g L' _ ((D', tupObj #[.str (wdOf m1) xt, .str (dotS (DD t0 m1)) tv]) :: (I, oI) :: (Dm, od) :: (I0, o0) :: (tc, listOf (trows.map fun r => Value.ref r.a).toArray nt) :: (lexLed w 76 a j line tl vs toks e1 e2 ++ (hdLed w 220 b u (rows ++ [r0]) n' ++ trows.map Row.obj))) from by k_asm))
    (case u1b => exact neN (Nat.ne_of_gt b4))
    (case u2b => exact Ne.symm (hO1 (tc, listOf (trows.map fun r => Value.ref r.a).toArray nt) (.head _)).1)
    (case u3b => exact Ne.symm (hO1 (tc, listOf (trows.map fun r => Value.ref r.a).toArray nt) (.head _)).2.1)
    (case u4b => exact Ne.symm (hO1 (tc, listOf (trows.map fun r => Value.ref r.a).toArray nt) (.head _)).2.2)
    (case u5b =>
      intro q hq
      rcases List.mem_append.mp hq with hq | hq
      · exact Ne.symm (sep_tl w hch W1 (nt := nt) _ (.head _) q hq)
      rcases List.mem_append.mp hq with hq | hq
      · exact sep_ht w W1 (nt := nt) q hq _ (.head _)
      · obtain ⟨x, hx, rfl⟩ := List.mem_map.mp hq
        exact neN (Nat.ne_of_gt (W1.tr x hx)))
    (case zqb => (have := W1.tlen; rw [sizeLine_eq]; simp only [List.size_toArray, List.length_map]; (walk_at "my o")))
    intro h5 F5 N5
    have e5 : (((trows ++ [(⟨D', wdOf m1, xt, dotS (DD t0 m1), tv⟩ : Row)])).map fun r => Value.ref r.a).toArray = ((trows.map fun r => Value.ref r.a).toArray).push (.ref D') := by simp
    have N6 : News g L' h5 ((I, oI) :: (Dm, od) :: (I0, o0) :: (tc, listOf ((trows ++ [(⟨D', wdOf m1, xt, dotS (DD t0 m1), tv⟩ : Row)]).map fun r => Value.ref r.a).toArray (nt + 1)) :: (lexLed w 76 a j line tl vs toks e1 e2 ++ (hdLed w 220 b u (rows ++ [r0]) n' ++ (trows ++ [(⟨D', wdOf m1, xt, dotS (DD t0 m1), tv⟩ : Row)]).map Row.obj))) := by
      rw [e5, List.map_append]
      exact News.toldback N5
    clear e5 N5 b1 b2 b3 b4 bA nRow FD ND
    generalize (trows ++ [(⟨D', wdOf m1, xt, dotS (DD t0 m1), tv⟩ : Row)]) = trows2 at W2 hO2 N6
    have Nl := N6
    dsimp only [lexLed, hdLed, List.cons_append, List.nil_append] at Nl
    k_steps
    show wpAny _ _ _ _ _ _
    (k_dflt (refine' Con.use (len2_ok prog w p loose mean mg mb b u (rows ++ [r0]) n' (by rw [List.length_append, List.length_singleton]; (walk_at "my o"))) ((I, oI) :: (Dm, od) :: (I0, o0) :: (tc, listOf (trows2.map fun r => Value.ref r.a).toArray (nt + 1)) :: (lexLed w 76 a j line tl vs toks e1 e2 ++ trows2.map Row.obj)) ?zB12 ?zF12 ?zX12 (show News g L' _ ((I, oI) :: (Dm, od) :: (I0, o0) :: (tc, listOf (trows2.map fun r => Value.ref r.a).toArray (nt + 1)) :: (lexLed w 76 a j line tl vs toks e1 e2 ++ (hdLed w 220 b u (rows ++ [r0]) n' ++ trows2.map Row.obj))) from by k_asm) ?zT12 ?zA12 ?zf12 ?zk12 ?zd12 ?zu12 (fun q hq => .tail _ (.tail _ (.tail _ (.tail _ (List.mem_append_right _ (List.mem_append_left _ hq)))))) (sep_rest w hch W2 hO2) ?zpre12 ?_); (case zB12 => k_asm); (case zF12 => k_asm); (case zX12 => k_asm); (case zT12 => k_asm); (case zA12 => exact rfl); (case zf12 => exact rfl); (case zk12 => exact rfl); (case zd12 => k_room); (case zu12 => k_units); (case zpre12 => first | exact trivial | skip))
    intro v h' tk' nw' F' N' zg6 zg7
    refine letGoal ?_
    intro Gz
    obtain ⟨⟨t9, rfl⟩, rfl⟩ := zg6
    clear zg7
    dsimp only [Gz]
    clear Gz
    replace N' := News.hdback N'
    clear Nl N6
    have Nl := N'
    dsimp only [lexLed, hdLed, List.cons_append, List.nil_append] at Nl
    refine ⟨⟨by (walk_at "my o"), by rw [List.length_append, List.length_singleton]; (walk_at "my o")⟩, ?_⟩
    k_steps
    · show wpAny _ _ _ _ _ _
      have hql := W2.toks_len
      simp only [List.length_map, List.length_drop] at hql
      (k_dflt (refine' Con.use (push_token_ok prog w p loose mean mg mb a j hch line tl vs (.str (wdOf m1) xt) toks e1 e2 (by (walk_at "my o"))) ((I, oI) :: (Dm, od) :: (I0, o0) :: (tc, listOf (trows2.map fun r => Value.ref r.a).toArray (nt + 1)) :: (hdLed w 220 b u (rows ++ [r0]) n' ++ trows2.map Row.obj)) ?zB13 ?zF13 ?zX13 (show News g L' _ ((I, oI) :: (Dm, od) :: (I0, o0) :: (tc, listOf (trows2.map fun r => Value.ref r.a).toArray (nt + 1)) :: (lexLed w 76 a j line tl vs toks e1 e2 ++ (hdLed w 220 b u (rows ++ [r0]) n' ++ trows2.map Row.obj))) from by k_asm) ?zT13 ?zA13 ?zf13 ?zk13 ?zd13 ?zu13 (fun q hq => .tail _ (.tail _ (.tail _ (.tail _ (List.mem_append_left _ hq))))) (sep_restL w hch W2 hO2) ?zpre13 ?_); (case zB13 => k_asm); (case zF13 => k_asm); (case zX13 => k_asm); (case zT13 => k_asm); (case zA13 => exact rfl); (case zf13 => exact rfl); (case zk13 => exact rfl); (case zd13 => k_room); (case zu13 => k_units); (case zpre13 => first | exact trivial | skip))
      intro v h' tk' nw' F' N' zg8 zg9
      refine letGoal ?_
      intro Gz
      obtain ⟨e1', rfl, rfl⟩ := zg8
      clear zg9
      dsimp only [Gz]
      clear Gz
      replace N' := News.lxback N'
      have W3 := W2.push (wdOf m1) xt
      have eq : (ord.drop (n + 1)).map wdOf ++ [wdOf m1] = ((ord ++ [m1]).drop (n + 1)).map wdOf := by
        rw [List.drop_append_of_le_length (by (walk_at "my o")), List.map_append]; rfl
      rw [eq] at W3
      have hcu2 : (ord ++ [m1])[n]? = some cu := by rw [List.getElem?_append_left hnl]; exact hcu
      have hin2 := in_take hr (fun m hm => List.mem_append_left [m1] (hin m hm)) (List.mem_append_right ord (.head _))
      k_steps
      refine' list_next (nw := (Dm, od) :: (I0, o0) :: (tc, listOf (trows2.map fun r => Value.ref r.a).toArray (nt + 1)) :: (lexLed w 76 a j line tl vs (toks ++ [.str (wdOf m1) xt]) e1' e2 ++ (hdLed w 220 b u (rows ++ [r0]) n' ++ trows2.map Row.obj))) ?Fnc ?Nnc ?onc ⟨ord ++ [m1], line, tl, vs, (toks ++ [.str (wdOf m1) xt]), e1', e2, (rows ++ [r0]), n', trows2, nt + 1, ⟨W3, hB2, hcu2, hin2⟩, ?z1c, ?z2c, ?z3c, ?z4c, ?z5c, rfl, ?z6c⟩
      (case Fnc => k_asm)
      (case Nnc => k_asm)
      (case z1c => walk_at "my look")
      (case z2c => walk_at "my look")
      (case z3c => walk_at "my look")
      (case z4c => exact ⟨_, by walk_at "my look"⟩)
      (case z5c => exact ⟨_, by walk_at "my look"⟩)
      (case onc => exact List.forall_mem_cons.mpr ⟨oDm, List.forall_mem_cons.mpr ⟨oI0, fun p hp => (hO2.lex w p hp).1⟩⟩)
      (case z6c => exact fun p hp => (hO2.lex w p hp).2)
    · exfalso
      rename ¬ _ => hz
      apply hz
      rw [List.length_append]
      (show (rows.length : Int) < ((rows.length + 1 : Nat) : Int))
      (walk_at "my o")
end W2IN
end
section
section W2MOVED
local macro_rules | `(tactic| k_mem) => `(tactic| first | exact List.Mem.head _ | (refine' List.Mem.tail _ ?_; k_mem) | assumption)
local macro_rules | `(tactic| walk_at "eval ListComp") => `(tactic| (k_here; k_dflt (refine eval_compN (by with_unfolding_all rfl) (by rfl) (by decide) ?_)))
local macro_rules | `(tactic| walk_at "pyIter ref") => `(tactic| (refine stopI ?_))
local macro_rules | `(tactic| walk_at "call ref") => `(tactic| (with_reducible refine haltC 241 ?_))
local macro_rules | `(tactic| walk_at "subscriptTail Name Name ref int") => `(tactic| (k_here; (with_reducible show wpAny _ _ (subscriptTail _ _ (.ref _) (.int (Nat.cast _) _)) _ _ _); k_dflt (refine' item_nat (by k_asm) (by k_mem) (by assumption) (by walk_at "my o") (by with_unfolding_all rfl) (by (intro _; with_unfolding_all rfl)) ?_)))
local macro_rules | `(tactic| walk_at "setItem ref int") => `(tactic| (refine stopI ?_))
local macro_rules | `(tactic| walk_at "exec For Tuple List cons nil") => `(tactic| (k_here; k_dflt (refine for_stmt (by intro _; rfl) ?_)))
local macro_rules | `(tactic| walk_at "exec For Name ListComp cons nil") => `(tactic| (k_here; k_dflt (refine for_stmt (by intro _; rfl) ?_)))
theorem moved2_ok (l : Addr) (a b c n : Nat) (ta tb tc : Tok) (ha : a < 16) (hb : b < 16) (hc : c < 16) :
   Con prog w (hd2.heap_1 w.params) p loose mean mg mb 6 (.ref 251) ⟨[.ref l], []⟩ (fun _ => True) [(l, listOf #[.int a ta, .int b tb, .int c tc] n)]
     (fun v nw' => Ex2 fun D us => And5 (v = .ref D) (nw' = [(D, LCg.lst us), (l, listOf #[.int a ta, .int b tb, .int c tc] n)]) (StrsAre us ((movedK a b c 3).map wdOf)) (us.length ≤ 60) (@Ne Nat D l)) := by
  intro dp un gd outer A₀ base g s B O X T hpre hd hu
  k_dflt ((first | (refine' enterK (by k_asm) (by k_asm) (by k_asm) (by k_is) (by k_is) (by first | walk_at "my r" | lia) (by first | exact BindsTo.of_eq rfl | exact binds_K (Frag.In.keeps (by assumption) (Out.keep (by assumption))) rfl (by k_is) rfl rfl rfl | fail "enter: arguments") ?kBq44 (by decide) (by rfl) (by rfl) (by rfl) ?_; (case kBq44 => exact locs rfl); k_whole; intro Lq hq Fq Nq l1q; (try k_lt l1q); (try dsimp only); (try k_fold)) | walk_at "my enterC"))
  refine letPost ?_
  intro K1
  k_steps
  show wpAny _ _ _ _ _ _
  rename_i Lq h1 kt1 lq oa ob da db W hw lw kw T1 h3 l3 T2 h4 l4 T3 h5 l5 P h6 F6 N6 l6
  refine' for_list (Q := ?Q) (its := #[.ref T1, .ref T2, .ref T3]) (n := 0) ?hh (fun k m nw => Ex3 fun us oa ob => And7 (nw = [(P, listOf #[.ref T1, .ref T2, .ref T3] 0), (T3, tupObj #[.int 1 (tk + 1 + 1 + 1 + 1), .int 2 (tk + 1 + 1 + 1 + 1 + 1)]), (T2, tupObj #[.int 0 (tk + 1 + 1), .int 2 (tk + 1 + 1 + 1)]), (T1, tupObj #[.int 0 tk, .int 1 (tk + 1)]), (W, LCg.lst us), (Lq + 1 + 1, oa), (Lq + 1, ob), (l, listOf #[.int a ta, .int b tb, .int c tc] n)]) (m (Str.ofString "rows") = some (.ref l)) (m (Str.ofString "words") = some (.ref W)) (StrsAre us ((movedK a b c k).map wdOf)) (us.length ≤ k * 20) ((∃ v, oa.data = .cell v)) (∃ v, ob.data = .cell v)) ?F ?N ?hm ?h0 ?hJ ?hgo ?turn ?done
  (case hh => rfl)
  (case F => k_asm)
  (case N => k_asm)
  (case hm => exact .head _)
  (case h0 => exact ⟨[], _, _, rfl, rfl, rfl, .nil, Nat.zero_le _, ⟨_, da⟩, ⟨_, db⟩⟩)
  (case hJ => rintro k m nw ⟨us, oa, ob, rfl, -⟩; exact .head _)
  (case hgo =>
    intro s Q E I i xv hI hx hQ
    obtain ⟨T, rfl⟩ : ∃ T, xv = Value.ref T := by
      have : i - 1 = 0 ∨ i - 1 = 1 ∨ i - 1 = 2 := by
        have := (Array.getElem?_eq_some_iff.mp hx).1
        simp only [List.size_toArray, List.length_cons, List.length_nil] at this
        (walk_at "my o")
      rcases this with e | e | e <;> (rw [e] at hx; cases hx; exact ⟨_, rfl⟩)
    exact go_ref s Q E I i T hI hQ)
  (case turn =>
    clear F6 N6 da db oa ob
    intro k xv m nw I oI h tk9 hx hJ F N off
    refine letPost ?_
    intro K2
    obtain ⟨us, oa, ob, rfl, hm1, hm2, hus, hul, ⟨va, da⟩, ⟨vb, db⟩⟩ := hJ
    obtain ⟨P1, P2, P3⟩ := pairAt (ta := ta) (tb := tb) (tc := tc) ha hb hc
    obtain ⟨T, i, j, x, y, tx, ty, ti, tj, up, rfl, hT, hP⟩ : Ex10 fun T i j x y tx ty ti tj up => And3 (xv = Value.ref T) (((T, tupObj #[.int ((i : Nat) : Int) ti, .int ((j : Nat) : Int) tj]) ∈ [(T3, tupObj #[.int 1 (tk + 1 + 1 + 1 + 1), .int 2 (tk + 1 + 1 + 1 + 1 + 1)]), (T2, tupObj #[.int 0 (tk + 1 + 1), .int 2 (tk + 1 + 1 + 1)]), (T1, tupObj #[.int 0 tk, .int 1 (tk + 1)])])) (PairAt #[.int a ta, .int b tb, .int c tc] a b c k i j x y tx ty up) := by
      have : k = 0 ∨ k = 1 ∨ k = 2 := by
        have := (Array.getElem?_eq_some_iff.mp hx).1
        simp only [List.size_toArray, List.length_cons, List.length_nil] at this
        (walk_at "my o")
      rcases this with rfl | rfl | rfl <;> cases hx
      · exact ⟨_, 0, 1, _, _, _, _, _, _, _, rfl, .tail _ (.tail _ (.head _)), P1⟩
      · exact ⟨_, 0, 2, _, _, _, _, _, _, _, rfl, .tail _ (.head _), P2⟩
      · exact ⟨_, 1, 2, _, _, _, _, _, _, _, rfl, .head _, P3⟩
    clear P1 P2 P3
    have hk3 : k < 3 := (Array.getElem?_eq_some_iff.mp hx).1
    have hTm : (T, tupObj #[.int ((i : Nat) : Int) ti, .int ((j : Nat) : Int) tj]) ∈ [(P, listOf #[.ref T1, .ref T2, .ref T3] 0), (T3, tupObj #[.int 1 (tk + 1 + 1 + 1 + 1), .int 2 (tk + 1 + 1 + 1 + 1 + 1)]), (T2, tupObj #[.int 0 (tk + 1 + 1), .int 2 (tk + 1 + 1 + 1)]), (T1, tupObj #[.int 0 tk, .int 1 (tk + 1)]), (W, LCg.lst us), (Lq + 1 + 1, oa), (Lq + 1, ob), (l, listOf #[.int a ta, .int b tb, .int c tc] n)] := by
      exact List.Mem.tail _ (List.mem_append_left [(W, LCg.lst us), (Lq + 1 + 1, oa), (Lq + 1, ob), (l, listOf #[.int a ta, .int b tb, .int c tc] n)] hT)
    refine assign_pair rfl F N (a := .int ((i : Nat) : Int) ti) (b := .int ((j : Nat) : Int) tj) ⟨_, (N _ (.tail _ hTm)).1, rfl, _, rfl⟩ rfl rfl rfl fun h' tk' F' N' => ?_
    clear F N hT hTm
    obtain ⟨hxi, hyj, hx16, hy16, hli, hlj, hstep, hturn⟩ := hP
    have hIP : @Ne Nat P I := off (P, _) (.head _)
    have hIT3 : @Ne Nat T3 I := off (T3, _) (.tail _ (.head _))
    have hIT2 : @Ne Nat T2 I := off (T2, _) (.tail _ (.tail _ (.head _)))
    have hIT1 : @Ne Nat T1 I := off (T1, _) (.tail _ (.tail _ (.tail _ (.head _))))
    have hIW : @Ne Nat W I := off (W, _) (.tail _ (.tail _ (.tail _ (.tail _ (.head _)))))
    have hIa : @Ne Nat (Lq + 1 + 1) I := off (Lq + 1 + 1, _) (.tail _ (.tail _ (.tail _ (.tail _ (.tail _ (.head _))))))
    have hIb : @Ne Nat (Lq + 1) I := off (Lq + 1, _) (.tail _ (.tail _ (.tail _ (.tail _ (.tail _ (.tail _ (.head _)))))))
    have hIl : @Ne Nat l I := off (l, _) (.tail _ (.tail _ (.tail _ (.tail _ (.tail _ (.tail _ (.tail _ (.head _))))))))
    k_steps
    show wpAny _ _ _ _ _ _
    rename_i oh dh hN ot dt D h10 F10 N10 l10
    obtain ⟨e1, hh16⟩ := here_fact ⟨x, hx16⟩ ⟨y, hy16⟩
    obtain ⟨e2, ht16⟩ := here_fact ⟨y, hy16⟩ ⟨x, hx16⟩
    dsimp only at e1 e2 hh16 ht16
    rw [e1] at dh
    rw [e2] at dt
    obtain ⟨th, dh1⟩ : ∃ t, oh.data = Data.cell (some (Value.int ((x &&& (15 - y) : Nat) : Int) t)) := ⟨_, dh⟩
    obtain ⟨tt, dt1⟩ : ∃ t, ot.data = Data.cell (some (Value.int ((y &&& (15 - x) : Nat) : Int) t)) := ⟨_, dt⟩
    have hmP : movedP x y = picks (x &&& (15 - y)) (y &&& (15 - x)) := rfl
    rw [hmP] at hstep
    clear dh dt hmP e1 e2 off F' N' da db oa ob
    have hs16 := picks16 hx16 hy16
    generalize x &&& (15 - y) = he at *
    generalize y &&& (15 - x) = te at *
    obtain ⟨NW, hNW⟩ : ∃ NW : Led, NW = [(D, tupObj #[.int 1 (tk' + 1 + 1 + 1 + 1 + 1 + 1), .int 2 (tk' + 1 + 1 + 1 + 1 + 1 + 1 + 1), .int 4 (tk' + 1 + 1 + 1 + 1 + 1 + 1 + 1 + 1), .int 8 (tk' + 1 + 1 + 1 + 1 + 1 + 1 + 1 + 1 + 1)]), (I, oI), (P, listOf #[.ref T1, .ref T2, .ref T3] 0), (T3, tupObj #[.int 1 (tk + 1 + 1 + 1 + 1), .int 2 (tk + 1 + 1 + 1 + 1 + 1)]), (T2, tupObj #[.int 0 (tk + 1 + 1), .int 2 (tk + 1 + 1 + 1)]), (T1, tupObj #[.int 0 tk, .int 1 (tk + 1)]), (W, LCg.lst us), (Lq + 1 + 1, ot), (Lq + 1, oh), (l, listOf #[.int a ta, .int b tb, .int c tc] n)] := ⟨_, rfl⟩
    rw [← show NW = [(D, tupObj #[.int 1 (tk' + 1 + 1 + 1 + 1 + 1 + 1), .int 2 (tk' + 1 + 1 + 1 + 1 + 1 + 1 + 1), .int 4 (tk' + 1 + 1 + 1 + 1 + 1 + 1 + 1 + 1), .int 8 (tk' + 1 + 1 + 1 + 1 + 1 + 1 + 1 + 1 + 1)]), (I, oI), (P, listOf #[.ref T1, .ref T2, .ref T3] 0), (T3, tupObj #[.int 1 (tk + 1 + 1 + 1 + 1), .int 2 (tk + 1 + 1 + 1 + 1 + 1)]), (T2, tupObj #[.int 0 (tk + 1 + 1), .int 2 (tk + 1 + 1 + 1)]), (T1, tupObj #[.int 0 tk, .int 1 (tk + 1)]), (W, LCg.lst us), (Lq + 1 + 1, ot), (Lq + 1, oh), (l, listOf #[.int a ta, .int b tb, .int c tc] n)] from hNW] at N10
    refine' outer_tuple (k := 0) (its := #[.int 1 (tk' + 1 + 1 + 1 + 1 + 1 + 1), .int 2 (tk' + 1 + 1 + 1 + 1 + 1 + 1 + 1), .int 4 (tk' + 1 + 1 + 1 + 1 + 1 + 1 + 1 + 1), .int 8 (tk' + 1 + 1 + 1 + 1 + 1 + 1 + 1 + 1 + 1)]) ?hh8 (fun i ys nw => nw = NW ∧ IntsAre ys ((picksTo he te i).map Int.ofNat)) ?h0s8 ?F8 ?N8 ?ht8 ?hsz8 ?c18 ?c28 ?c38 ?h08 ?hJ8 ?turn8 ?fin8
    (case hh8 => rfl)
    (case h0s8 =>
      rintro C g' hg
      cases hg
      exact ⟨rfl, fun _ => rfl⟩)
    (case F8 => k_asm)
    (case N8 => k_asm)
    (case ht8 => (subst hNW; exact ⟨_, (N10 _ (.head _)).1, rfl, _, rfl⟩))
    (case hsz8 => (show 4 ≤ sizeLine); (rw [sizeLine_eq]; decide))
    (case c18 => decide)
    (case c28 => rfl)
    (case c38 => rfl)
    (case h08 => exact ⟨rfl, .nil⟩)
    (case hJ8 => (subst hNW; exact .inr ⟨_, by rintro i ys nw ⟨rfl, -⟩; exact .head _⟩))
    (case turn8 =>
      clear F10 N10
      intro i v ys NW I2 oI2 C oC mC D2 h tk8 hi hv zg115 hoC hxx F N off ne
      refine letGoal ?_
      intro Gz
      obtain ⟨rfl, hys⟩ := zg115
      dsimp only [Gz]
      clear Gz
      obtain ⟨pb, tp, rfl, hpb, hp16⟩ := bits_at hv
      refine letTurn ?_
      intro K8
      refine wpAny_tests_one ?_
      have offC := off
      clear off
      have N0 := fun _ : True => N
      rw [hNW] at N
      k_steps
      · simp only [if_true]
        show wpAny _ _ (eval _ _) _ _ _
        k_steps
        show wpAny _ _ _ _ _ _
        rename_i hbit D3 h11 F11 N11 l11
        have hbit := and_one hh16 hp16 hbit
        refine' inner_tuple (k := 0) (oC := oC) (mC := mC) (ys0 := ys) (nw := (D3, tupObj #[.int 1 (tk8 + 1), .int 2 (tk8 + 1 + 1), .int 4 (tk8 + 1 + 1 + 1), .int 8 (tk8 + 1 + 1 + 1 + 1)]) :: NW) (oI0 := oI2) (its := #[.int 1 (tk8 + 1), .int 2 (tk8 + 1 + 1), .int 4 (tk8 + 1 + 1 + 1), .int 8 (tk8 + 1 + 1 + 1 + 1)]) ?hh9 ?hm9 ?hs9 ?hg9 ?h0s9 (fun i2 ys nw => nw = (D3, tupObj #[.int 1 (tk8 + 1), .int 2 (tk8 + 1 + 1), .int 4 (tk8 + 1 + 1 + 1), .int 8 (tk8 + 1 + 1 + 1 + 1)]) :: NW ∧ IntsAre ys ((picksTo he te i ++ innerTo te pb i2).map Int.ofNat)) _ (fun mC => mC (Str.ofString "p") = some (.int pb tp)) _ ?hPx9 ?hPP9 ?hk9 ?hx9 ?F9 ?N9 ?ht9 ?hoC9 ?hP9 ?off9 ?d19 ?d29 ?d39 ?h09 ?hJ9 ?turn9 ?fin9
        (case hh9 => rfl)
        (case hm9 => rfl)
        (case hs9 => exact ⟨_, _, rfl⟩)
        (case hg9 => rfl)
        (case h0s9 => (intro g' hg; cases hg))
        (case hPx9 => intro mC v h; exact (if_neg (by decide)).trans h)
        (case hPP9 => exact fun _ _ => trivial)
        (case hk9 => rfl)
        (case hx9 => rfl)
        (case F9 => exact F11)
        (case N9 => exact fun q hq => N11 q (by rw [hNW] at hq; exact mem_four hq))
        (case ht9 => exact ⟨_, (N11 _ (.head _)).1, rfl, _, rfl⟩)
        (case hoC9 => exact hoC)
        (case hP9 => exact hxx)
        (case off9 => exact List.forall_mem_cons.mpr ⟨⟨neN (by (walk_at "my o")), neN (by (walk_at "my o")), neN (by (walk_at "my o"))⟩, offC⟩)
        (case d19 => exact ne.1)
        (case d29 => exact ne.2.1)
        (case d39 => exact ne.2.2)
        (case h09 => exact ⟨rfl, by simpa [innerTo] using hys⟩)
        (case hJ9 => exact .inr ⟨_, by rintro i ys nw ⟨rfl, -⟩; exact .head _⟩)
        (case fin9 =>
          intro ys nwx zg116
          refine letGoal ?_
          intro Gz
          obtain ⟨rfl, h⟩ := zg116
          dsimp only [Gz]
          clear Gz
          refine ⟨NW, fun p hp => .tail _ hp, rfl, ?_⟩
          rw [picksTo_succ hpb hbit]
          exact h)
        (case turn9 =>
          clear N11 F11 N0 offC
          (try clear N)
          intro i2 v2 ys nw I3 oI3 oC2 mC2 h tk9 hi2 hv2 zg117 hoC2 hP2 hxx2 F N off ne2
          refine letGoal ?_
          intro Gz
          obtain ⟨rfl, hys⟩ := zg117
          dsimp only [Gz]
          clear Gz
          obtain ⟨qb, tq, rfl, hqb, hq16⟩ := bits_at hv2
          refine letTurn ?_
          intro K9
          refine wpAny_tests_one ?_
          have offC := off
          clear off
          rw [hNW] at N
          k_steps
          · have hlen := hys.length
            show wpAny _ _ (eval _ _) _ _ _
            k_steps
            refine' append_lst ?Fa ?Na ?Ua ?za ?_
            (case Fa => k_asm)
            (case Na => k_asm)
            (case Ua => exact .tail ne2.2.1 (.tail ne.2.2 (.head (List.forall_mem_cons.mpr ⟨ne.2.1, fun q hq => (offC q (by rw [hNW]; exact hq)).2.2.2⟩))))
            (case za => exact Nat.lt_of_le_of_lt (Nat.le_of_eq hlen) (by simpa using picks_len he te pb i i2))
            intro h12 F12 N12
            refine LE.intro (nw' := (I2, oI2) :: (D3, tupObj #[.int 1 (tk8 + 1), .int 2 (tk8 + 1 + 1), .int 4 (tk8 + 1 + 1 + 1), .int 8 (tk8 + 1 + 1 + 1 + 1)]) :: NW) F12 N12 (fun q hq => by rw [hNW] at hq; exact hq) hoC2 hP2 (List.forall_mem_cons.mpr ⟨⟨Ne.symm ne2.2.2, ne.1, ne.2.1⟩, fun p hp => ⟨(offC p hp).1, (offC p hp).2.2⟩⟩) ⟨_, rfl, fun p hp => (offC p hp).2.1, rfl, ?_⟩
            rw [innerTo_succ hqb (and_one ht16 hq16 ‹_›), ← List.append_assoc, List.map_append]
            exact IntsAre.append hys (.cons _ _ .nil)
          · refine LE.intro (nw' := (I2, oI2) :: (D3, tupObj #[.int 1 (tk8 + 1), .int 2 (tk8 + 1 + 1), .int 4 (tk8 + 1 + 1 + 1), .int 8 (tk8 + 1 + 1 + 1 + 1)]) :: NW) (by k_asm) N (fun q hq => by rw [hNW] at hq; exact hq) hoC2 hP2 (List.forall_mem_cons.mpr ⟨⟨Ne.symm ne2.2.2, ne.1, ne.2.1⟩, fun p hp => ⟨(offC p hp).1, (offC p hp).2.2⟩⟩) ⟨_, rfl, fun p hp => (offC p hp).2.1, rfl, ?_⟩
            rw [innerTo_zero hqb (and_zero ht16 hq16 ‹_›)]
            exact hys)
      · refine LE.intro (by k_asm) (N0 trivial) (fun q hq => hq) hoC trivial offC ⟨rfl, ?_⟩
        rw [picksTo_zero hpb (and_zero hh16 hp16 ‹_›)]
        exact hys)
    (case fin8 =>
      clear N10 F10
      intro ys NW zg118
      refine letGoal ?_
      intro Gz
      obtain ⟨rfl, hys⟩ := zg118
      dsimp only [Gz]
      clear Gz
      intro D4 h4 tk4 F4 N4 off4
      have hys : IntsAre ys ((picks he te).map Int.ofNat) := hys
      rw [hNW] at N4
      k_steps
      show wpAny _ _ _ _ _ _
      refine' for_list_name (Q := ?Q7) (its := ys.toArray) (n := ys.length) ?hh7 (fun r m nw => ∃ us', nw = (D4, LCg.lst ys) :: [(D, tupObj #[.int 1 (tk' + 1 + 1 + 1 + 1 + 1 + 1), .int 2 (tk' + 1 + 1 + 1 + 1 + 1 + 1 + 1), .int 4 (tk' + 1 + 1 + 1 + 1 + 1 + 1 + 1 + 1), .int 8 (tk' + 1 + 1 + 1 + 1 + 1 + 1 + 1 + 1 + 1)]), (I, oI), (P, listOf #[.ref T1, .ref T2, .ref T3] 0), (T3, tupObj #[.int 1 (tk + 1 + 1 + 1 + 1), .int 2 (tk + 1 + 1 + 1 + 1 + 1)]), (T2, tupObj #[.int 0 (tk + 1 + 1), .int 2 (tk + 1 + 1 + 1)]), (T1, tupObj #[.int 0 tk, .int 1 (tk + 1)]), (W, LCg.lst us'), (Lq + 1 + 1, ot), (Lq + 1, oh), (l, listOf #[.int a ta, .int b tb, .int c tc] n)]
        ∧ m (Str.ofString "rows") = some (.ref l) ∧ m (Str.ofString "words") = some (.ref W) ∧ m (Str.ofString "i") = some (.int ((i : Nat) : Int) ti) ∧ m (Str.ofString "j") = some (.int ((j : Nat) : Int) tj) ∧ StrsAre us' ((movedK a b c k ++ ((picks he te).take r).map up).map wdOf) ∧ us'.length ≤ k * 20 + r) ?F7 ?N7 ?hm7 ?h07 ?hJ7 ?hx7 ?hp7 ?turn7 ?done7
      (case hh7 => rfl)
      (case F7 => k_asm)
      (case N7 => k_asm)
      (case hm7 => exact .head _)
      (case h07 => exact ⟨us, rfl, by walk_at "my look", by walk_at "my look", rfl, rfl, by simpa using hus, hul⟩)
      (case hJ7 => rintro r m nw ⟨us', rfl, -⟩; exact .head _)
      (case hx7 => rfl)
      (case hp7 => rfl)
      (case done7 =>
        clear N4 F4 hus hul hm1 hm2
        intro m nw h tk9 zg119 F N
        refine letGoal ?_
        intro Gz
        obtain ⟨us', rfl, hm1, hm2, hmi, hmj, hus, hul⟩ := zg119
        dsimp only [Gz]
        clear Gz
        have hs4 := hs16.2
        have hylen : ys.length ≤ 4 := by have := hys.length; rw [List.length_map] at this; (walk_at "my o")
        (try dsimp only)
        k_steps
        (try dsimp +zetaDelta only)
        refine' list_next (nw := [(P, listOf #[.ref T1, .ref T2, .ref T3] 0), (T3, tupObj _), (T2, tupObj _), (T1, tupObj _), (W, LCg.lst us'), (Lq + 1 + 1, ot), (Lq + 1, oh), (l, listOf #[.int a ta, .int b tb, .int c tc] n)]) ?Fm ?Nm ?om ⟨us', ot, oh, rfl, ?z1, ?z2, ?z3, ?z4, ⟨_, dt1⟩, ⟨_, dh1⟩⟩
        (case Fm => k_asm)
        (case Nm => exact fun q hq => N q (.tail _ (.tail _ hq)))
        (case om => exact List.forall_mem_cons.mpr ⟨hIP, List.forall_mem_cons.mpr ⟨hIT3, List.forall_mem_cons.mpr ⟨hIT2, List.forall_mem_cons.mpr ⟨hIT1, List.forall_mem_cons.mpr ⟨hIW, List.forall_mem_cons.mpr ⟨hIa, fm2 hIb hIl⟩⟩⟩⟩⟩⟩)
        (case z1 => exact hm1)
        (case z2 => exact hm2)
        (case z3 =>
          rw [hstep]
          have e : (picks he te).take ys.toArray.size = picks he te := List.take_of_length_le (by have := hys.length; rw [List.length_map] at this; rw [List.size_toArray]; (walk_at "my o"))
          rw [e] at hus
          exact hus)
        (case z4 => (rw [List.size_toArray] at hul; (walk_at "my o"))))
      (case turn7 =>
        clear N4 F4 hus hul hm1 hm2
        intro r v m nw I5 oI5 h tk9 hv hJ F N off5
        refine letPost ?_
        intro K7
        obtain ⟨us', rfl, hm1, hm2, hmi, hmj, hus, hul⟩ := hJ
        obtain ⟨s0, t0, rfl, hs0⟩ := ints_nat_at hys (by simpa using hv)
        have hsm := hs16.1 s0 (List.mem_of_getElem? hs0)
        have g1 : @Ne Nat D4 I5 := off5 (D4, _) (.head _)
        have g2 : @Ne Nat W I5 := off5 (W, _) (.tail _ (.tail _ (.tail _ (.tail _ (.tail _ (.tail _ (.tail _ (.head _))))))))
        have g4 : @Ne Nat W D4 := off4 (W, LCg.lst us) (by rw [hNW]; exact .tail _ (.tail _ (.tail _ (.tail _ (.tail _ (.tail _ (.head _)))))))
        have g3 : @Ne Nat l I5 := off5 (l, _) (.tail _ (.tail _ (.tail _ (.tail _ (.tail _ (.tail _ (.tail _ (.tail _ (.tail _ (.tail _ (.head _)))))))))))
        k_steps
        show wpAny _ _ _ _ _ _
        rename_i D6 c6 h5 F5 N5 l6 h6 F6 N6
        clear F5 N5
        have ex1 := xor_fact ⟨x, hx16⟩ ⟨s0, hsm⟩
        have ex2 := xor_fact ⟨y, hy16⟩ ⟨s0, hsm⟩
        dsimp only at ex1 ex2
        rw [ex1]
        refine' setitem_led (ys := [.int a ta, .int b tb, .int c tc]) ?Fs ?Ns ?Us hli (by (show 3 < 1000000); decide) ?_
        (case Fs => k_asm)
        (case Ns => k_asm)
        (case Us => k_upd)
        intro h' F' N'
        (try dsimp only at N')
        clear F6 N6
        k_steps
        show wpAny _ _ _ _ _ _
        rw [ex2]
        refine' setitem_led (ys := [.int a ta, .int b tb, .int c tc].set i (.int ((x ^^^ s0 : Nat) : Int) _)) ?Fs2 ?Ns2 ?Us2 (by rw [List.length_set]; exact hlj) (by rw [List.length_set]; (show 3 < 1000000); decide) ?_
        (case Fs2 => k_asm)
        (case Ns2 => k_asm)
        (case Us2 => k_upd)
        intro h' F' N'
        obtain ⟨u1, u2, u3, q1, q2, q3, eq, hu1, hu2, hu3, hup⟩ := hturn s0 hsm _ _
        dsimp only at eq
        rw [eq] at N'
        k_steps
        show wpAny _ _ _ _ _ _
        (k_dflt (refine' Con.useS (word2_ok prog w p loose mean mg mb D6 u1 u2 u3 c6 q1 q2 q3 hu1 hu2 hu3) ?zB14 ?zF14 ?zX14 ?zN14 ?zT14 ?zA14 ?zf14 ?zk14 ?zd14 ?zu14 ?zS14 ?zpre14 ?_); (case zB14 => k_asm); (case zF14 => k_asm); (case zX14 => k_asm); (case zN14 => k_asm); (case zT14 => k_asm); (case zA14 => exact rfl); (case zf14 => exact rfl); (case zk14 => exact rfl); (case zd14 => k_room); (case zu14 => k_units); (case zS14 => walk_at "my split"); (case zpre14 => first | exact trivial | skip))
        intro v h' tk' nw' F' N' zg120 zg121
        refine letGoal ?_
        intro Gz
        obtain ⟨⟨t5, rfl⟩, rfl⟩ := zg120
        clear zg121
        dsimp only [Gz]
        clear Gz
        dsimp only [List.nil_append, List.cons_append] at N'
        k_steps
        show wpAny _ _ _ _ _ _
        refine' append_lst ?Fb ?Nb ?Ub ?zb ?_
        (case Fb => k_asm)
        (case Nb => k_asm)
        (case Ub => k_upd)
        (case zb => (have := (List.getElem?_eq_some_iff.mp hs0).1; have := hs16.2; (walk_at "my o")))
        intro h' F' N'
        k_steps
        (try dsimp +zetaDelta only)
        refine' list_next (nw := (D4, LCg.lst ys) :: [(D, tupObj _), (I, oI), (P, listOf #[.ref T1, .ref T2, .ref T3] 0), (T3, tupObj _), (T2, tupObj _), (T1, tupObj _), (W, LCg.lst (us' ++ [_])), (Lq + 1 + 1, ot), (Lq + 1, oh), (l, listOf #[.int a ta, .int b tb, .int c tc] n)]) ?Fn ?Nn ?on ⟨us' ++ [_], rfl, ?y1, ?y2, ?y3, ?y4, ?y5, ?y6⟩
        (case Fn => k_asm)
        (case Nn => exact fun q hq => (show News g _ _ ((D6, listOf _ _) :: (I5, oI5) :: _) from by k_asm) q (.tail _ hq))
        (case on => refine off_keys ?_ off5; rfl)
        (case y1 => walk_at "my look")
        (case y2 => walk_at "my look")
        (case y3 => walk_at "my look")
        (case y4 => walk_at "my look")
        (case y5 =>
          have e : (movedK a b c k ++ ((picks he te).take (r + 1)).map up).map wdOf = (movedK a b c k ++ ((picks he te).take r).map up).map wdOf ++ [wordT u1 u2 u3] := by
            rw [List.take_add_one, hs0]
            simp [hup, wdOf]
          rw [e]
          exact StrsAre3_append hus (.cons _ _ .nil))
        (case y6 => (rw [List.length_append]; (show _ + 1 ≤ _); (walk_at "my o"))))))
  (case done =>
    intro m nw h tk9 zg122 F N
    refine letGoal ?_
    intro Gz
    obtain ⟨us, oa, ob, rfl, hm1, hm2, hus, hul, -, -⟩ := zg122
    dsimp only [Gz]
    clear Gz
    (try dsimp only)
    k_steps
    (try dsimp only)
    (try dsimp +zetaDelta only)
    refine' fin_part ?Fz ?Nz ?Sz ?Rz
    (case Fz => k_asm)
    (case Nz => k_asm)
    (case Rz => exact ⟨W, us, rfl, rfl, hus, hul, by first | exact Ne.symm (neN (by (walk_at "my o"))) | exact neN (by (walk_at "my o"))⟩)
    (case Sz => exact fm2 (P := fun q => q ∈ _) (.tail _ (.tail _ (.tail _ (.tail _ (.head _))))) (.tail _ (.tail _ (.tail _ (.tail _ (.tail _ (.tail _ (.tail _ (.head _))))))))))
end W2MOVED
end
section
section W2OUT
theorem low_low_fact : ∀ r : _root_.Fin 16, Unicode.lowerOf (lowF r.val) = [lowF r.val] ∧ (lowF r.val == 0x3A3) = false := by decide +kernel
theorem lower_low {t : Tab} (h : TOK t) : Txt.lower (lowW t) = lowW t := by
  obtain ⟨h1, h2, h3⟩ := h
  exact lower3 (low_low_fact ⟨_, h1⟩).2 (low_low_fact ⟨_, h2⟩).2 (fig_931 ⟨_, h3⟩).2 (low_low_fact ⟨_, h1⟩).1 (low_low_fact ⟨_, h2⟩).1 (low_fact ⟨_, h3⟩).2
theorem News.hd1 {g h : Heap} {L : Addr} {x t : Addr × Obj} {A H T : Led} (N : News g L h (H ++ (x :: t :: (A ++ T)))) : News g L h (x :: t :: (A ++ (H ++ T))) := fun q hq => N q (memSw (P := x :: t :: A) hq)
theorem News.lx1 {g h : Heap} {L : Addr} {x t : Addr × Obj} {A H T : Led} (N : News g L h (A ++ (x :: t :: (H ++ T)))) : News g L h (x :: t :: (A ++ (H ++ T))) := fun q hq => N q (memSw (P := [x, t]) hq)
noncomputable def Ap1 (I : Addr) (l : Led) : Prop := ∀ p ∈ l, p.1 ≠ I
theorem Ap1.lex {I C : Addr} {a : LexA} {j : LexJ} {line line' : Int} {tl tl' : Tok} {vs vs' toks toks' : List Value} {e1 e2 e1' e2' : Nat} {x : Addr × Obj} {R : Led} (h : Ap1 I (x :: (lexLed w C a j line tl vs toks e1 e2 ++ R))) : Ap1 I (x :: (lexLed w C a j line' tl' vs' toks' e1' e2' ++ R)) := by
  intro p hp
  rcases List.mem_cons.mp hp with rfl | hp
  · exact h _ (.head _)
  rcases List.mem_append.mp hp with hp | hp
  · obtain ⟨p', hp', e⟩ := lex_same w (line := line) (tl := tl) (vs := vs) (toks := toks) (e1 := e1) (e2 := e2) p hp
    rw [← e]
    exact h p' (.tail _ (List.mem_append_left _ hp'))
  · exact h p (.tail _ (List.mem_append_right _ hp))
theorem sep1 {t0 : Tab} {S : Str} {tot : Int} {a : LexA} {j : LexJ} {b : HdA} {u : Tok} {tc I : Addr} {oI : Obj} {qq : List Str} {lim nr nt e1 e2 : Nat} {ord : List Tab} {line line' : Int} {tl : Tok} {vs toks vs' toks' : List Value} {rows trows : List Row} (hch : a.chain) (W : WSt t0 S tot a b tc lim qq ord line vs toks rows trows)
    (hO : Ap1 I ((tc, listOf (trows.map fun r => Value.ref r.a).toArray nt) :: (lexLed w 76 a j line' tl vs' toks' e1 e2 ++ (hdLed w 220 b u rows nr ++ trows.map Row.obj)))) :
    ∀ r ∈ (I, oI) :: (tc, listOf (trows.map fun r => Value.ref r.a).toArray nt) :: (lexLed w 76 a j line' tl vs' toks' e1 e2 ++ trows.map Row.obj), r ∈ (I, oI) :: (tc, listOf (trows.map fun r => Value.ref r.a).toArray nt) :: (lexLed w 76 a j line' tl vs' toks' e1 e2 ++ (hdLed w 220 b u rows nr ++ trows.map Row.obj)) ∧ ∀ q ∈ hdLed w 220 b u rows nr, r.1 ≠ q.1 := by
  intro r hr
  have inH : ∀ q ∈ hdLed w 220 b u rows nr, q ∈ (tc, listOf (trows.map fun r => Value.ref r.a).toArray nt) :: (lexLed w 76 a j line' tl vs' toks' e1 e2 ++ (hdLed w 220 b u rows nr ++ trows.map Row.obj)) := fun q hq => .tail _ (List.mem_append_right _ (List.mem_append_left _ hq))
  rcases List.mem_cons.mp hr with rfl | hr
  · exact ⟨.head _, fun q hq => Ne.symm (hO q (inH q hq))⟩
  rcases List.mem_cons.mp hr with rfl | hr
  · exact ⟨.tail _ (.head _), fun q hq => Ne.symm (sep_ht w W (nt := nt) q hq _ (.head _))⟩
  rcases List.mem_append.mp hr with hr | hr
  · exact ⟨.tail _ (.tail _ (List.mem_append_left _ hr)), fun q hq => Ne.symm (sep_hl w hch W q hq r hr)⟩
  · exact ⟨.tail _ (.tail _ (List.mem_append_right _ (List.mem_append_right _ hr))), fun q hq => Ne.symm (sep_ht w W (nt := nt) q hq r (.tail _ hr))⟩
theorem sep1L {t0 : Tab} {S : Str} {tot : Int} {a : LexA} {j : LexJ} {b : HdA} {u : Tok} {tc I : Addr} {oI : Obj} {qq : List Str} {lim nr nt e1 e2 : Nat} {ord : List Tab} {line line' : Int} {tl : Tok} {vs toks vs' toks' : List Value} {rows trows : List Row} (hch : a.chain) (W : WSt t0 S tot a b tc lim qq ord line vs toks rows trows)
    (hO : Ap1 I ((tc, listOf (trows.map fun r => Value.ref r.a).toArray nt) :: (lexLed w 76 a j line' tl vs' toks' e1 e2 ++ (hdLed w 220 b u rows nr ++ trows.map Row.obj)))) :
    ∀ r ∈ (I, oI) :: (tc, listOf (trows.map fun r => Value.ref r.a).toArray nt) :: (hdLed w 220 b u rows nr ++ trows.map Row.obj), r ∈ (I, oI) :: (tc, listOf (trows.map fun r => Value.ref r.a).toArray nt) :: (lexLed w 76 a j line' tl vs' toks' e1 e2 ++ (hdLed w 220 b u rows nr ++ trows.map Row.obj)) ∧ ∀ q ∈ lexLed w 76 a j line' tl vs' toks' e1 e2, r.1 ≠ q.1 := by
  intro r hr
  have inL : ∀ q ∈ lexLed w 76 a j line' tl vs' toks' e1 e2, q ∈ (tc, listOf (trows.map fun r => Value.ref r.a).toArray nt) :: (lexLed w 76 a j line' tl vs' toks' e1 e2 ++ (hdLed w 220 b u rows nr ++ trows.map Row.obj)) := fun q hq => .tail _ (List.mem_append_left _ hq)
  rcases List.mem_cons.mp hr with rfl | hr
  · exact ⟨.head _, fun q hq => Ne.symm (hO q (inL q hq))⟩
  rcases List.mem_cons.mp hr with rfl | hr
  · exact ⟨.tail _ (.head _), fun q hq => sep_tl w hch W (nt := nt) _ (.head _) q hq⟩
  rcases List.mem_append.mp hr with hr | hr
  · exact ⟨.tail _ (.tail _ (List.mem_append_right _ (List.mem_append_left _ hr))), fun q hq => sep_hl w hch W r hr q hq⟩
  · exact ⟨.tail _ (.tail _ (List.mem_append_right _ (List.mem_append_right _ hr))), fun q hq => sep_tl w hch W (nt := nt) r (.tail _ hr) q hq⟩
structure OutSt (t0 : Tab) (S : Str) (tot : Int) (a : LexA) (b : HdA) (tc : Addr) (n : Nat) (ord : List Tab) (line : Int) (vs toks : List Value) (rows trows : List Row) : Prop where
  st : WSt t0 S tot a b tc (12 * n) ((ord.drop n).map wdOf) ord line vs toks rows trows
  bf : Bfs t0 ord n
  le : n ≤ ord.length
noncomputable def OutJ (w : World) (t0 : Tab) (S : Str) (tot : Int) (a : LexA) (j : LexJ) (b : HdA) (u : Tok) (tc : Addr) (n : Nat) (mp : Str → Option Value) (nw : Led) : Prop :=
  Ex11 fun ord line tl vs toks e1 e2 rows nr trows nt => And6 (OutSt t0 S tot a b tc n ord line vs toks rows trows) (mp (Str.ofString "lexer") = some (.ref a.lx)) (mp (Str.ofString "board") = some (.ref b.h)) (mp (Str.ofString "told") = some (.ref tc)) ((∃ ts, mp (Str.ofString "stop") = some (.str S ts))) (nw = (tc, listOf (trows.map fun r => Value.ref r.a).toArray nt) :: (lexLed w 76 a j line tl vs toks e1 e2 ++ (hdLed w 220 b u rows nr ++ trows.map Row.obj)))
structure StopOK (S : Str) (rf : Bool) : Prop where
  low : Txt.lower S = S
  sz : S.cps.size ≤ 3
  neL : ∀ u, TOK u → (lowW u == S) = false
  ne : ∀ u, TOK u → (wdOf u == S) = false
  bad : rf = true → hitIn nameCode S.cps = true
  good : rf = false → ∀ c ∈ S.cps.toList, okName c = true
structure EndSt (t0 : Tab) (S : Str) (rf : Bool) (tot : Int) (ord tds : List Tab) (line : Int) (vs toks : List Value) (rows trows : List Row) : Prop where
  lx : ∃ cs, Lx2 vs toks cs line [] [] tot
  bf : Bfs t0 ord ord.length
  rw2 : rows.map (fun r => (r.k, r.v)) = ord.map (pairOf t0) ++ (if rf = true then [] else [(S, Str.ofString "...")])
  told : trows.map (fun r => (r.k, r.v)) = tds.map (pairOf t0) ++ (if rf = true then [(S, Str.ofString "refused")] else [])
  like : ∀ u ∈ tds, Like t0 u
  len : trows.length ≤ 300
noncomputable def WalkEnd (w : World) (t0 : Tab) (S : Str) (rf : Bool) (tot : Int) (a : LexA) (j : LexJ) (v : Value) (nw : Led) : Prop :=
  Ex10 fun T it tc ord tds line tl vs toks e1 => Ex5 fun e2 rows ni trows nt => And4 (v = .ref T) (EndSt t0 S rf tot ord tds line vs toks rows trows) (nw = (T, tupObj #[.ref it, .ref tc]) :: (it, listOf (rows.map fun r => Value.ref r.a).toArray ni) :: (tc, listOf (trows.map fun r => Value.ref r.a).toArray nt) :: (lexLed w 76 a j line tl vs toks e1 e2 ++ (rows.map Row.obj ++ trows.map Row.obj))) ((∀ q ∈ lexLed w 76 a j line tl vs toks e1 e2, ∀ r ∈ (T, tupObj #[.ref it, .ref tc]) :: (it, listOf (rows.map fun r => Value.ref r.a).toArray ni) :: (tc, listOf (trows.map fun r => Value.ref r.a).toArray nt) :: (rows.map Row.obj ++ trows.map Row.obj), r.1 ≠ q.1))
theorem hdOK_stop {b : HdA} {rows : List Row} {r : Row} (h : HdOK b rows) (hk : (Txt.lower r.k).cps.size ≤ 1000) (hl : @LT.lt Nat _ b.l r.a) (hlen : rows.length ≤ 900) : HdOK b (rows ++ [r]) := by
  obtain ⟨h1, h2, h3, h4, h5⟩ := h
  refine ⟨h1, h2, ?_, ?_, by simp; (walk_at "my o")⟩
  · intro p hp
    rw [List.map_append] at hp
    rcases List.mem_append.mp hp with hp | hp
    · exact h3 p hp
    · rw [List.mem_singleton.mp hp]; exact hl
  · intro q hq
    rcases List.mem_append.mp hq with hq | hq
    · exact h4 q hq
    · rw [List.mem_singleton.mp hq]; exact hk
theorem mem_items {q d i t a1 a2 a3 : Addr × Obj} {A R T : Led} (h : q ∈ d :: i :: t :: (A ++ (R ++ T))) : q ∈ (d :: a1 :: a2 :: a3 :: R) ++ i :: t :: (A ++ T) := memUnder (P := i :: t :: (A ++ (R ++ T))) (H := [d]) (fun h => List.mem_append_right [a1, a2, a3] (memSw (P := i :: t :: A) h)) h
theorem mem_drop3 {q a1 a2 i : Addr × Obj} {R : Led} (h : q ∈ a1 :: a2 :: R) : q ∈ a1 :: a2 :: i :: R := memIns (P := [a1, a2]) (H := [i]) h
theorem mem_told1 {q d i t : Addr × Obj} {A H T : Led} (h : q ∈ i :: t :: (A ++ (H ++ (T ++ [d])))) : q ∈ d :: i :: t :: (A ++ (H ++ T)) := memLast (P := i :: t :: A) h
theorem mem_rest1 {x t r : Addr × Obj} {A H T : Led} (h : r ∈ x :: t :: (A ++ T)) : r ∈ x :: t :: (A ++ (H ++ T)) := memIns (P := x :: t :: A) h
end W2OUT
section W2TURN
local macro_rules | `(tactic| walk_at "call ref") => `(tactic| (refine stopI ?_))
local macro_rules | `(tactic| walk_at "call builtin:list.append") => `(tactic| (refine stopI ?_))
local macro_rules | `(tactic| walk_at "pyIter ref") => `(tactic| (refine stopI ?_))
local macro_rules | `(tactic| walk_at "exec For Name Call cons nil") => `(tactic| (k_here; k_dflt (refine for_stmt (by intro _; rfl) ?_)))
local macro_rules | `(tactic| walk_at "call builtin:str.lower") => `(tactic| (k_here; (show wpAny _ _ (call _ [.str _ _]) _ _ _); k_dflt (refine' KXw.lower rfl (by exact fit_lower (by assumption)) ?_; k_whole); intro _ _))
theorem walk_turn (t0 : Tab) (ht0 : TOK t0) (S : Str) (rf : Bool) (hS : StopOK S rf) (tot : Int) (a : LexA) (j : LexJ) (b : HdA) (u : Tok) (tc : Addr) (hTk : TakeOK prog w p loose mean mg mb a j) (hch : a.chain)
    {dp un : Nat} {gd : Option (List Code)} {outer : List Env} {A₀ : Around} {base g : Heap} {s : Shared} {L' : Addr} {Q : Flow → Shared → Prop} (hd : dp + 12 < recursionLimit) (hu : un + 16 * 12 < cLine) (B : Below A₀ base outer g) (X : (hd2.heap_1 w.params).In g) (T : Top p loose mean mg mb g)
    (hXB : (hd2.heap_1 w.params).In base ∧ Top p loose mean mg mb base ∧ KtsDicts (outer.filterMap (·.frame)) g)
    (n : Nat) (hn : n < 20) (mp : Str → Option Value) (nw : Led) (I : Addr) (oI : Obj) (h : Heap) (tk : Nat) (xt : Tok) (hJ : OutJ w t0 S tot a j b u tc n mp nw)
    (F : Fr g L' h (fun y => if y = Str.ofString "turn" then some (.int (0 + n * 1) xt) else mp y)) (N : News g L' h ((I, oI) :: nw)) (off : ∀ p ∈ nw, p.1 ≠ I)
    (hret : ∀ v h' tk' m' nw' g', KtsTurn (outer.filterMap (·.frame)) g g' → Fr g' L' h' m' → News g' L' h' nw' → WalkEnd w t0 S rf tot a j v nw' → Q (.ret v) { s with heap := h', toks := tk' }) :
    wpAny (model prog w) (Around.deeper { handled := none, depth := dp, frames := some outer, guards := gd, units := un } (envOf (Str.ofString "_law_walk") (scopeOf (lawFn2 16)) L' 258 (Value.ref 257))) (execs (forBody (stmtAt (bodyOfF (lawFn2 16)) 5)) (envOf (Str.ofString "_law_walk") (scopeOf (lawFn2 16)) L' 258 (Value.ref 257)))
      (ListEnd g L' s I oI (OutJ w t0 S tot a j b u tc (n + 1)) Q) (fun _ _ => False) { s with heap := h, toks := tk } := by
  obtain ⟨ord, line, tl, vs, toks, e1, e2, rows, nr, trows, nt, ⟨W, hB, hle⟩, hl, hb, ht, ⟨ts, hst⟩, rfl⟩ := hJ
  have hO : Ap1 I ((tc, listOf (trows.map fun r => Value.ref r.a).toArray nt) :: (lexLed w 76 a j line tl vs toks e1 e2 ++ (hdLed w 220 b u rows nr ++ trows.map Row.obj))) := off
  clear off
  conv in (occs := *) scopeOf _ => all_goals whnf
  conv in execs (forBody _) _ => arg 1; whnf
  have hl2 : (fun y => if y = Str.ofString "turn" then some (.int (0 + n * 1) xt) else mp y) (Str.ofString "lexer") = some (.ref a.lx) := hl
  have hb2 : (fun y => if y = Str.ofString "turn" then some (.int (0 + n * 1) xt) else mp y) (Str.ofString "board") = some (.ref b.h) := hb
  have ht2 : (fun y => if y = Str.ofString "turn" then some (.int (0 + n * 1) xt) else mp y) (Str.ofString "told") = some (.ref tc) := ht
  have hs2 : (fun y => if y = Str.ofString "turn" then some (.int (0 + n * 1) xt) else mp y) (Str.ofString "stop") = some (.str S ts) := hst
  generalize (fun y => if y = Str.ofString "turn" then some (Value.int (0 + n * 1) xt) else mp y) = m2 at *
  have Nl := N
  dsimp only [lexLed, hdLed, List.cons_append, List.nil_append] at Nl
  k_steps
  show wpAny _ _ _ _ _ _
  have hol := hB.len ht0
  have hlen := rows2_len W.rw2
  obtain ⟨o1, o2, o3, o4, o5⟩ := id W.hok
  have hT : ∀ u ∈ ord, TOK u := fun u hu => (hB.like u hu).ok
  obtain ⟨cs, LX⟩ := id W.lx
  (k_dflt (refine' Con.use (next2_ok prog w p loose mean mg mb a j hTk hch line tl cs vs toks e1 e2 [S.cps.toList] ((ord.drop n).map wdOf) tot LX (by simp; (walk_at "my o"))) ((I, oI) :: (tc, listOf (trows.map fun r => Value.ref r.a).toArray nt) :: (hdLed w 220 b u rows nr ++ trows.map Row.obj)) ?zB15 ?zF15 ?zX15 N ?zT15 ?zA15 ?zf15 ?zk15 ?zd15 ?zu15 (fun q hq => .tail _ (.tail _ (List.mem_append_left _ hq))) (sep1L w hch W hO) ?zpre15 ?_); (case zB15 => k_asm); (case zF15 => k_asm); (case zX15 => k_asm); (case zT15 => k_asm); (case zA15 => exact rfl); (case zf15 => exact rfl); (case zk15 => exact rfl); (case zd15 => k_room); (case zu15 => k_units); (case zpre15 => first | exact trivial | skip))
  intro v h' tk' nw' F' N' zg191 zg192
  refine letGoal ?_
  intro Gz
  obtain ⟨t1, line1, tl1, cs1, vs1, toks1, e11, e21, rfl, rfl, LX1⟩ := zg191
  clear zg192
  dsimp only [Gz]
  clear Gz
  replace N' := News.lx1 N'
  replace hO := hO.lex w (line' := line1) (tl' := tl1) (vs' := vs1) (toks' := toks1) (e1' := e11) (e2' := e21)
  clear Nl N F
  have Nl := N'
  dsimp only [lexLed, hdLed, List.cons_append, List.nil_append] at Nl
  rcases Nat.lt_or_ge n ord.length with hno | hno
  · have hcu : ord[n]? = some ord[n] := List.getElem?_eq_getElem hno
    have hdr : ord.drop n = ord[n] :: ord.drop (n + 1) := List.drop_eq_getElem_cons hno
    generalize ord[n] = cu at hcu hdr
    rw [hdr] at LX1 ⊢
    have hcul := hB.like cu (List.mem_of_getElem? hcu)
    have W1 : WSt t0 S tot a b tc (12 * n + 0) ((ord.drop (n + 1)).map wdOf) ord line1 vs1 toks1 rows trows := ⟨⟨cs1, LX1⟩, W.rw2, W.hok, W.told, W.tlen, W.pb, W.bt, W.tr, W.ap⟩
    have hne := hS.ne cu hcul.ok
    have hsz := wd_szL hcul.ok
    show wpAny _ _ _ _ _ _
    rw [show nxS [S.cps.toList] ((cu :: ord.drop (n + 1)).map wdOf) = wdOf cu from rfl]
    have hll : Txt.lower (Txt.lower (wdOf cu)) = lowW cu := by rw [lower_wd hcul.ok, lower_low hcul.ok]
    k_steps
    show wpAny _ _ _ _ _ _
    (k_dflt (refine' Con.use (get_ok prog w p loose mean mg mb b u rows nr (Txt.lower (wdOf cu)) _ (by rw [hll, ← lower_wd hcul.ok]; exact wd_okL hcul.ok) (by rw [hll]; show 3 ≤ 1000; decide) (rows2_sz W.rw2 hT)) ((I, oI) :: (tc, listOf (trows.map fun r => Value.ref r.a).toArray nt) :: (lexLed w 76 a j line1 tl1 vs1 toks1 e11 e21 ++ trows.map Row.obj)) ?zB16 ?zF16 ?zX16 (show News g L' _ ((I, oI) :: (tc, listOf (trows.map fun r => Value.ref r.a).toArray nt) :: (lexLed w 76 a j line1 tl1 vs1 toks1 e11 e21 ++ (hdLed w 220 b u rows nr ++ trows.map Row.obj))) from by k_asm) ?zT16 ?zA16 ?zf16 ?zk16 ?zd16 ?zu16 (fun q hq => .tail _ (.tail _ (List.mem_append_right _ (List.mem_append_left _ hq)))) (sep1 w hch W1 hO) ?zpre16 ?_); (case zB16 => k_asm); (case zF16 => k_asm); (case zX16 => k_asm); (case zT16 => k_asm); (case zA16 => exact rfl); (case zf16 => exact rfl); (case zk16 => exact rfl); (case zd16 => k_room); (case zu16 => k_units); (case zpre16 => first | exact trivial | skip))
    intro v h' tk' nw' F' N' zg193 zg194
    refine letGoal ?_
    intro Gz
    obtain ⟨rfl, hv⟩ := zg193
    clear zg194
    dsimp only [Gz]
    clear Gz
    replace N' := News.hd1 N'
    obtain ⟨rr, hrr, hrv⟩ := (rows2_get hcul.ok W.rw2 hT).1 (List.mem_of_getElem? hcu)
    rw [hll, hrr] at hv
    subst hv
    rw [hrv]
    generalize rr.tv = td

    have Nl := N'
    dsimp only [lexLed, hdLed, List.cons_append, List.nil_append] at Nl
    k_steps
    show wpAny _ _ _ _ _ _
    (k_dflt (refine' Con.use (rows2_ok prog w p loose mean mg mb cu.1 cu.2.1 cu.2.2 t1 hcul.ok.1 hcul.ok.2.1 hcul.ok.2.2) ((I, oI) :: (tc, listOf (trows.map fun r => Value.ref r.a).toArray nt) :: (lexLed w 76 a j line1 tl1 vs1 toks1 e11 e21 ++ (hdLed w 220 b u rows nr ++ trows.map Row.obj))) ?zB17 ?zF17 ?zX17 (by k_asm) ?zT17 ?zA17 ?zf17 ?zk17 ?zd17 ?zu17 (fun q hq => nomatch hq) (fun r hr => ⟨hr, fun q hq => nomatch hq⟩) ?zpre17 ?_); (case zB17 => k_asm); (case zF17 => k_asm); (case zX17 => k_asm); (case zT17 => k_asm); (case zA17 => exact rfl); (case zf17 => exact rfl); (case zk17 => exact rfl); (case zd17 => k_room); (case zu17 => k_units); (case zpre17 => first | exact trivial | skip))
    intro v h' tk' nw' F' N' zg195 zg196
    refine letGoal ?_
    intro Gz
    obtain ⟨D, q1, q2, q3, k3, rfl, rfl⟩ := zg195
    obtain ⟨-, hap⟩ := zg196
    dsimp only [Gz]
    clear Gz
    (try dsimp only [List.cons_append, List.nil_append] at N')

    have Nl := N'
    (try dsimp only [lexLed, hdLed, List.cons_append, List.nil_append] at Nl)
    k_steps
    show wpAny _ _ _ _ _ _
    (k_dflt (refine' Con.use (moved2_ok prog w p loose mean mg mb D cu.1 cu.2.1 cu.2.2 k3 q1 q2 q3 hcul.ok.1 hcul.ok.2.1 hcul.ok.2.2) ((I, oI) :: (tc, listOf (trows.map fun r => Value.ref r.a).toArray nt) :: (lexLed w 76 a j line1 tl1 vs1 toks1 e11 e21 ++ (hdLed w 220 b u rows nr ++ trows.map Row.obj))) ?zB18 ?zF18 ?zX18 (show News g L' _ ((D, _) :: (I, oI) :: (tc, listOf (trows.map fun r => Value.ref r.a).toArray nt) :: (lexLed w 76 a j line1 tl1 vs1 toks1 e11 e21 ++ (hdLed w 220 b u rows nr ++ trows.map Row.obj))) from by k_asm) ?zT18 ?zA18 ?zf18 ?zk18 ?zd18 ?zu18 (fun q hq => by rw [List.mem_singleton.mp hq]; exact .head _) (fun r hr => ⟨.tail _ hr, fun q hq => by rw [List.mem_singleton.mp hq]; exact Ne.symm (hap _ (.head _) r hr)⟩) ?zpre18 ?_); (case zB18 => k_asm); (case zF18 => k_asm); (case zX18 => k_asm); (case zT18 => k_asm); (case zA18 => exact rfl); (case zf18 => exact rfl); (case zk18 => exact rfl); (case zd18 => k_room); (case zu18 => k_units); (case zpre18 => first | exact trivial | skip))
    intro v h' tk' nw' F' N' zg197 zg198
    refine letGoal ?_
    intro Gz
    obtain ⟨D2, us, rfl, rfl, hus, hul, -⟩ := zg197
    obtain ⟨-, hap2⟩ := zg198
    dsimp only [Gz]
    clear Gz
    clear hap
    have hML : us.length = (movedT cu).length := by rw [hus.length, List.length_map]; rfl
    have N9 : News g L' h' ((D2, LCg.lst us) :: (I, oI) :: (tc, listOf (trows.map fun r => Value.ref r.a).toArray nt) :: (lexLed w 76 a j line1 tl1 vs1 toks1 e11 e21 ++ (hdLed w 220 b u rows nr ++ trows.map Row.obj))) := fun q hq => N' q (by
      rcases List.mem_cons.mp hq with rfl | hq
      · exact .head _
      · exact .tail _ (.tail _ hq))
    clear N' Nl
    refine' for_list_name (Q := ?Q7) (its := us.toArray) (n := us.length) ?hh7 (fun r m nw => InJ w t0 S tot a j b u tc D2 I (LCg.lst us) oI n cu r m nw) ?F7 N9 (.head _) ?h07 ?hJ7 ?hx7 ?hp7 ?turn7 ?done7
    (case hh7 => rfl)
    (case F7 => k_asm)
    (case h07 => exact ⟨ord, line1, tl1, vs1, toks1, e11, e21, rows, nr, trows, nt, ⟨W1, hB, hcu, fun m hm => by simp at hm⟩, by walk_at "my look", by walk_at "my look", by walk_at "my look", ⟨td, by walk_at "my look"⟩, ⟨ts, by walk_at "my look"⟩, rfl, fun p hp => ⟨Ne.symm (hap2 (D2, LCg.lst us) (.head _) p (.tail _ hp)), hO p hp⟩⟩)
    (case hJ7 =>
      intro r m nw h
      obtain ⟨_, _, _, _, _, _, _, _, _, _, _, _, _, _, _, _, _, rfl, _⟩ := h
      exact .head _)
    (case hx7 => rfl)
    (case hp7 => rfl)
    (case turn7 =>
      clear N9
      intro r v m nw I2 oI2 h tk hv hJ F N off
      have hv2 : us[r]? = some v := by simpa using hv
      have hrl : r < (movedT cu).length := by
        have := (List.getElem?_eq_some_iff.mp hv2).1
        (walk_at "my o")
      have hr : (movedT cu)[r]? = some (movedT cu)[r] := List.getElem?_eq_getElem hrl
      obtain ⟨xt2, hx2⟩ := hus.at (j := r) (y := wdOf (movedT cu)[r]) (by rw [List.getElem?_map]; exact congrArg (Option.map wdOf) hr)
      rw [hv2] at hx2
      obtain rfl := Option.some.inj hx2
      exact in2_turn prog w p loose mean mg mb t0 ht0 S tot a j b u tc D2 I (LCg.lst us) oI n cu _ hch (by (walk_at "my o")) (by (walk_at "my o")) B X T r hr m nw I2 oI2 h tk xt2 hJ F N off)
    (case done7 =>
      clear N9
      intro m nw h tk hJ F N
      obtain ⟨ord2, line2, tl2, vs2, toks2, e12, e22, rows2, nr2, trows2, nt2, ⟨W2, hB2, hcu2, hin2⟩, k1, k2, k3, -, ⟨ts2, k5⟩, rfl, hX⟩ := hJ
      have hall : ∀ m ∈ movedT cu, m ∈ ord2 := by
        intro m hm
        refine hin2 m ?_
        rw [List.size_toArray, hML, List.take_length]
        exact hm
      have hnl := (List.getElem?_eq_some_iff.mp hcu2).1
      have hml := moved_len hcul.ok
      have W3 : WSt t0 S tot a b tc (12 * (n + 1)) ((ord2.drop (n + 1)).map wdOf) ord2 line2 vs2 toks2 rows2 trows2 := ⟨W2.lx, W2.rw2, W2.hok, W2.told, by have := W2.tlen; rw [List.size_toArray] at this; (walk_at "my o"), W2.pb, W2.bt, W2.tr, W2.ap⟩
      (try dsimp only)
      k_steps
      refine' list_next (nw := (tc, listOf (trows2.map fun r => Value.ref r.a).toArray nt2) :: (lexLed w 76 a j line2 tl2 vs2 toks2 e12 e22 ++ (hdLed w 220 b u rows2 nr2 ++ trows2.map Row.obj))) ?Fn ?Nn ?on ⟨ord2, line2, tl2, vs2, toks2, e12, e22, rows2, nr2, trows2, nt2, ⟨W3, hB2.next hcu2 hall, hnl⟩, k1, k2, k3, ⟨ts2, k5⟩, rfl⟩
      (case Fn => k_asm)
      (case Nn => exact fun q hq => N q (.tail _ hq))
      (case on => exact fun p hp => (hX p hp).2))
  · have hnq : n = ord.length := by (walk_at "my o")
    have hdr : ord.drop n = [] := List.drop_of_length_le hno
    rw [hdr] at LX1 ⊢
    have LX2 : Lx2 vs1 toks1 cs1 line1 [] [] tot := LX1
    have hnx : nxS [S.cps.toList] (([] : List Tab).map wdOf) = S := by
      show Str.mk S.cps.toList.toArray = S
      simp
    rw [hnx]
    have hSS : (S == S) = true := beq_self_eq_true _
    show wpAny _ _ _ _ _ _
    k_steps
    show wpAny _ _ _ _ _ _
    cases rf with
    | false =>
      (k_dflt (refine' Con.use (setdefault_ok prog w p loose mean mg mb b u rows nr S (Str.ofString "...") t1 _ (by rw [hS.low]; exact hS.good rfl) (by rw [hS.low]; have := hS.sz; (walk_at "my o")) (rows2_sz W.rw2 hT) (hS.good rfl) (by have := hS.sz; (walk_at "my o")) (by decide +kernel) (by decide +kernel) (by (walk_at "my o")) (fun r hr => by have := o3 _ (List.mem_map_of_mem hr); (show @LT.lt Nat _ b.h r.a ∧ @LT.lt Nat _ b.d r.a ∧ @LT.lt Nat _ b.l r.a); (have this : @LT.lt Nat _ b.l r.a := this); (walk_at "my o")) o1 o2) ((I, oI) :: (tc, listOf (trows.map fun r => Value.ref r.a).toArray nt) :: (lexLed w 76 a j line1 tl1 vs1 toks1 e11 e21 ++ trows.map Row.obj)) ?zB19 ?zF19 ?zX19 (show News g L' _ ((I, oI) :: (tc, listOf (trows.map fun r => Value.ref r.a).toArray nt) :: (lexLed w 76 a j line1 tl1 vs1 toks1 e11 e21 ++ (hdLed w 220 b u rows nr ++ trows.map Row.obj))) from by k_asm) ?zT19 ?zA19 ?zf19 ?zk19 ?zd19 ?zu19 (fun q hq => .tail _ (.tail _ (List.mem_append_right _ (List.mem_append_left _ hq)))) (sep1 w hch W hO) ?zpre19 ?_); (case zB19 => k_asm); (case zF19 => k_asm); (case zX19 => k_asm); (case zT19 => k_asm); (case zA19 => exact rfl); (case zf19 => exact rfl); (case zk19 => exact rfl); (case zd19 => k_room); (case zu19 => k_units); (case zpre19 => first | exact trivial | skip))
      intro v h' tk' nw' F' N' hv zg199
      refine letGoal ?_
      intro Gz
      obtain ⟨-, hap⟩ := zg199
      dsimp only [Gz]
      clear Gz
      rw [hS.low, rows2_none hS.neL W.rw2 hT] at hv
      obtain ⟨rfl, r0, n', hk0, hv0, hl0, rfl⟩ := hv
      replace N' := News.hd1 N'
      have Nl := N'
      dsimp only [lexLed, hdLed, List.cons_append, List.nil_append] at Nl
      k_steps
      show wpAny _ _ _ _ _ _
      have hokS : HdOK b (rows ++ [r0]) := hdOK_stop W.hok (by rw [hk0, hS.low]; have := hS.sz; (walk_at "my o")) hl0 (by (walk_at "my o"))
      (k_dflt (refine' Con.use (items_ok prog w p loose mean mg mb b u (rows ++ [r0]) n' hokS) ((I, oI) :: (tc, listOf (trows.map fun r => Value.ref r.a).toArray nt) :: (lexLed w 76 a j line1 tl1 vs1 toks1 e11 e21 ++ trows.map Row.obj)) ?zB20 ?zF20 ?zX20 (show News g L' _ ((I, oI) :: (tc, listOf (trows.map fun r => Value.ref r.a).toArray nt) :: (lexLed w 76 a j line1 tl1 vs1 toks1 e11 e21 ++ (hdLed w 220 b u (rows ++ [r0]) n' ++ trows.map Row.obj))) from by k_asm) ?zT20 ?zA20 ?zf20 ?zk20 ?zd20 ?zu20 (fun q hq => .tail _ (.tail _ (List.mem_append_right _ (List.mem_append_left _ hq)))) (fun r hr => ⟨mem_rest1 hr, fun q hq => Ne.symm (hap q hq r hr)⟩) ?zpre20 ?_); (case zB20 => k_asm); (case zF20 => k_asm); (case zX20 => k_asm); (case zT20 => k_asm); (case zA20 => exact rfl); (case zf20 => exact rfl); (case zk20 => exact rfl); (case zd20 => k_room); (case zu20 => k_units); (case zpre20 => first | exact trivial | skip))
      intro v h' tk' nw' F' N' zg200 zg201
      refine letGoal ?_
      intro Gz
      obtain ⟨D, nD, rfl, rfl, hD⟩ := zg200
      obtain ⟨-, hap2⟩ := zg201
      dsimp only [Gz]
      clear Gz
      have N9 : News g L' h' ((D, listOf ((rows ++ [r0]).map fun r => Value.ref r.a).toArray nD) :: (I, oI) :: (tc, listOf (trows.map fun r => Value.ref r.a).toArray nt) :: (lexLed w 76 a j line1 tl1 vs1 toks1 e11 e21 ++ ((rows ++ [r0]).map Row.obj ++ trows.map Row.obj))) := fun q hq => N' q (mem_items hq)
      clear N'
      k_steps
      obtain ⟨tds, htd, htl⟩ := W.told
      rename_i T2 h9 F9 N9' l9
      show Q (.ret _) _
      refine' hret _ _ _ _ _ g KtsTurn.refl ?Fr (fun q hq => N9' q (mem_drop3 hq)) ⟨T2, D, tc, ord, tds, line1, tl1, vs1, toks1, e11, e21, rows ++ [r0], nD, trows, nt, rfl, ⟨⟨cs1, LX2⟩, hnq ▸ hB, ?rw, ?td, htl, ?ln⟩, rfl, ?ap⟩
      (case Fr => k_asm)
      (case rw => (rw [List.map_append, W.rw2, List.map_cons, List.map_nil, hk0, hv0]; rfl))
      (case td => (rw [htd]; simp))
      (case ln => (have := W.tlen; (walk_at "my o")))
      (case ap =>
        obtain ⟨lD, lI, lt, lA⟩ := l9
        intro q hq r hr
        rcases List.mem_cons.mp hr with rfl | hr
        · exact neN (Nat.ne_of_gt (allLt_mem lA q (List.mem_append_left _ hq)))
        rcases List.mem_cons.mp hr with rfl | hr
        · exact hap2 _ (.head _) q (.tail _ (.tail _ (List.mem_append_left _ hq)))
        rcases List.mem_cons.mp hr with rfl | hr
        · exact sep_tl w hch W (nt := nt) _ (.head _) q hq
        rcases List.mem_append.mp hr with hr | hr
        · exact hap r (.tail _ (.tail _ (.tail _ hr))) q (.tail _ (.tail _ (List.mem_append_left _ hq)))
        · exact sep_tl w hch W (nt := nt) r (.tail _ hr) q hq)
    | true =>
      obtain ⟨xb1, xb2, xb3⟩ := hXB
      refine' ConE.useA (rest := (I, oI) :: (tc, listOf (trows.map fun r => Value.ref r.a).toArray nt) :: (lexLed w 76 a j line1 tl1 vs1 toks1 e11 e21 ++ trows.map Row.obj)) (setdefault_raise prog w p loose mean mg mb b u rows nr S t1 (Str.ofString "...") _ (by rw [hS.low]; exact hS.bad rfl) (by rw [hS.low]; have := hS.sz; (walk_at "my o"))) ?B5 ?F5 X (show News g L' _ ((I, oI) :: (tc, listOf (trows.map fun r => Value.ref r.a).toArray nt) :: (lexLed w 76 a j line1 tl1 vs1 toks1 e11 e21 ++ (hdLed w 220 b u rows nr ++ trows.map Row.obj))) from by k_asm) T ?A5 ?f5 ?k5 ?d5 ?u5 (fun q hq => .tail _ (.tail _ (List.mem_append_right _ (List.mem_append_left _ hq)))) (sep1 w hch W hO) ?ret5
      (case B5 => k_asm)
      (case F5 => k_asm)
      (case A5 => exact rfl)
      (case f5 => exact rfl)
      (case k5 => exact rfl)
      (case d5 => k_room)
      (case u5 => k_units)
      intro e h' tk' G FG R U
      refine' caught_SN0 (T' := "ValueError") R FG ⟨rfl, B.stays, B.frames⟩ U xb1 xb2 xb3 KtsTurn.refl ?ex PyProof.Rows.Boot.«ValueError» ?hn PySem.F.isExc_ValueError PySem.F.notTuple_ValueError ?hs ?_
      (case ex => k_is)
      (case hn => decide)
      (case hs => (rw [isSubtype_type]; kernel_rfl))
      intro h9 g9 TT F9 N9 B9 X9 T9 D9
      replace N9 := News.hd1 N9
      clear xb1 xb2 xb3 R U FG
      have Nl := N9
      dsimp only [lexLed, hdLed, List.cons_append, List.nil_append] at Nl
      k_steps
      show wpAny _ _ _ _ _ _
      rename_i D' h10 F10 N10 l10
      obtain ⟨b1, b4, -, -, bpb, -, -, -, -, -, -, bbh, bbd, bbl, bA⟩ := l10
      obtain ⟨tv, N11⟩ : ∃ tv, News g9 L' h10 ((D', tupObj #[.str S t1, .str (Str.ofString "refused") tv]) :: (I, oI) :: (tc, listOf (trows.map fun r => Value.ref r.a).toArray nt) :: (lexLed w 76 a j line1 tl1 vs1 toks1 e11 e21 ++ (hdLed w 220 b u rows nr ++ trows.map Row.obj))) := ⟨_, N10⟩
      clear N10
      refine' append_K (its := (trows.map fun r => Value.ref r.a).toArray) (n := nt) ?Fq N11 (.tail ?u1 (.tail ?u2 (.head ?u5))) ?hq ?zq
      (case Fq => k_asm)
      (case u1 => exact neN (Nat.ne_of_gt b4))
      (case u2 => exact Ne.symm (hO (tc, listOf (trows.map fun r => Value.ref r.a).toArray nt) (.head _)))
      (case u5 =>
        intro q hq
        rcases List.mem_append.mp hq with hq | hq
        · exact Ne.symm (sep_tl w hch W (nt := nt) _ (.head _) q hq)
        rcases List.mem_append.mp hq with hq | hq
        · exact sep_ht w W (nt := nt) q hq _ (.head _)
        · obtain ⟨x, hx, rfl⟩ := List.mem_map.mp hq
          exact neN (Nat.ne_of_gt (W.tr x hx)))
      (case zq => (have := W.tlen; rw [sizeLine_eq]; simp only [List.size_toArray, List.length_map]; (walk_at "my o")))
      intro h12 F12 N12
      have hapD : ∀ q ∈ hdLed w 220 b u rows nr, q.1 ≠ D' := fmR3 (P := fun q : Addr × Obj => q.1 ≠ D') (neN (Nat.ne_of_lt bbh)) (neN (Nat.ne_of_lt bbd)) (neN (Nat.ne_of_lt bbl)) fun q hq => neN (Nat.ne_of_lt (allLt_mem bA q (List.mem_append_left _ hq)))
      have e5 : ((trows ++ [(⟨D', S, t1, Str.ofString "refused", tv⟩ : Row)]).map fun r => Value.ref r.a).toArray = ((trows.map fun r => Value.ref r.a).toArray).push (.ref D') := by simp
      have N13 : News g9 L' h12 ((I, oI) :: (tc, listOf ((trows ++ [(⟨D', S, t1, Str.ofString "refused", tv⟩ : Row)]).map fun r => Value.ref r.a).toArray (nt + 1)) :: (lexLed w 76 a j line1 tl1 vs1 toks1 e11 e21 ++ (hdLed w 220 b u rows nr ++ (trows ++ [(⟨D', S, t1, Str.ofString "refused", tv⟩ : Row)]).map Row.obj))) := by
        rw [e5, List.map_append]
        exact fun q hq => N12 q (mem_told1 hq)
      clear N11 N12 F10 e5
      have Nl := N13
      dsimp only [lexLed, hdLed, List.cons_append, List.nil_append] at Nl
      k_steps
      show wpAny _ _ _ _ _ _
      have hr9 : ∀ r ∈ (I, oI) :: (tc, listOf ((trows ++ [(⟨D', S, t1, Str.ofString "refused", tv⟩ : Row)]).map fun r => Value.ref r.a).toArray (nt + 1)) :: (lexLed w 76 a j line1 tl1 vs1 toks1 e11 e21 ++ (trows ++ [(⟨D', S, t1, Str.ofString "refused", tv⟩ : Row)]).map Row.obj), r ∈ (I, oI) :: (tc, listOf ((trows ++ [(⟨D', S, t1, Str.ofString "refused", tv⟩ : Row)]).map fun r => Value.ref r.a).toArray (nt + 1)) :: (lexLed w 76 a j line1 tl1 vs1 toks1 e11 e21 ++ (hdLed w 220 b u rows nr ++ (trows ++ [(⟨D', S, t1, Str.ofString "refused", tv⟩ : Row)]).map Row.obj)) ∧ ∀ q ∈ hdLed w 220 b u rows nr, r.1 ≠ q.1 := by
        intro r hr
        refine ⟨mem_rest1 hr, fun q hq => ?_⟩
        rcases List.mem_cons.mp hr with rfl | hr
        · exact Ne.symm (hO q (.tail _ (List.mem_append_right _ (List.mem_append_left _ hq))))
        rcases List.mem_cons.mp hr with rfl | hr
        · exact Ne.symm (sep_ht w W (nt := nt) q hq (tc, listOf (trows.map fun r => Value.ref r.a).toArray nt) (.head _))
        rcases List.mem_append.mp hr with hr | hr
        · exact Ne.symm (sep_hl w hch W q hq r hr)
        rw [List.map_append] at hr
        rcases List.mem_append.mp hr with hr | hr
        · exact Ne.symm (sep_ht w W (nt := nt) q hq r (.tail _ hr))
        · rw [List.mem_singleton.mp hr]; exact Ne.symm (hapD q hq)
      (k_dflt (refine' Con.use (items_ok prog w p loose mean mg mb b u rows nr W.hok) ((I, oI) :: (tc, listOf ((trows ++ [(⟨D', S, t1, Str.ofString "refused", tv⟩ : Row)]).map fun r => Value.ref r.a).toArray (nt + 1)) :: (lexLed w 76 a j line1 tl1 vs1 toks1 e11 e21 ++ (trows ++ [(⟨D', S, t1, Str.ofString "refused", tv⟩ : Row)]).map Row.obj)) ?zB21 ?zF21 ?zX21 (show News g9 L' _ ((I, oI) :: (tc, listOf ((trows ++ [(⟨D', S, t1, Str.ofString "refused", tv⟩ : Row)]).map fun r => Value.ref r.a).toArray (nt + 1)) :: (lexLed w 76 a j line1 tl1 vs1 toks1 e11 e21 ++ (hdLed w 220 b u rows nr ++ (trows ++ [(⟨D', S, t1, Str.ofString "refused", tv⟩ : Row)]).map Row.obj))) from by k_asm) ?zT21 ?zA21 ?zf21 ?zk21 ?zd21 ?zu21 (fun q hq => .tail _ (.tail _ (List.mem_append_right _ (List.mem_append_left _ hq)))) hr9 ?zpre21 ?_); (case zB21 => k_asm); (case zF21 => k_asm); (case zX21 => k_asm); (case zT21 => k_asm); (case zA21 => exact rfl); (case zf21 => exact rfl); (case zk21 => exact rfl); (case zd21 => k_room); (case zu21 => k_units); (case zpre21 => first | exact trivial | skip))
      intro v h' tk' nw' F' N' zg202 zg203
      refine letGoal ?_
      intro Gz
      obtain ⟨D, nD, rfl, rfl, hD⟩ := zg202
      obtain ⟨-, hap2⟩ := zg203
      dsimp only [Gz]
      clear Gz
      have N14 : News g9 L' h' ((D, listOf (rows.map fun r => Value.ref r.a).toArray nD) :: (I, oI) :: (tc, listOf ((trows ++ [(⟨D', S, t1, Str.ofString "refused", tv⟩ : Row)]).map fun r => Value.ref r.a).toArray (nt + 1)) :: (lexLed w 76 a j line1 tl1 vs1 toks1 e11 e21 ++ (rows.map Row.obj ++ (trows ++ [(⟨D', S, t1, Str.ofString "refused", tv⟩ : Row)]).map Row.obj))) := fun q hq => N' q (mem_items hq)
      clear N' hr9
      k_steps
      obtain ⟨tds, htd, htl⟩ := W.told
      rename_i T2 h9 F9 N9' l9
      show Q (.ret _) _
      refine' hret _ _ _ _ _ g9 TT ?Fr6 (fun q hq => N9' q (mem_drop3 hq)) ⟨T2, D, tc, ord, tds, line1, tl1, vs1, toks1, e11, e21, rows, nD, (trows ++ [(⟨D', S, t1, Str.ofString "refused", tv⟩ : Row)]), nt + 1, rfl, ⟨⟨cs1, LX2⟩, hnq ▸ hB, ?rw6, ?td6, htl, ?ln6⟩, rfl, ?ap6⟩
      (case Fr6 => k_asm)
      (case rw6 => (rw [W.rw2]; simp))
      (case td6 => (rw [List.map_append, htd]; rfl))
      (case ln6 => (have := W.tlen; rw [List.length_append, List.length_singleton]; (walk_at "my o")))
      (case ap6 =>
        obtain ⟨lD, lI, lt, lA⟩ := l9
        intro q hq r hr
        rcases List.mem_cons.mp hr with rfl | hr
        · exact neN (Nat.ne_of_gt (allLt_mem lA q (List.mem_append_left _ hq)))
        rcases List.mem_cons.mp hr with rfl | hr
        · exact hap2 _ (.head _) q (.tail _ (.tail _ (List.mem_append_left _ hq)))
        rcases List.mem_cons.mp hr with rfl | hr
        · exact sep_tl w hch W (nt := nt) (tc, listOf (trows.map fun r => Value.ref r.a).toArray nt) (.head _) q hq
        rcases List.mem_append.mp hr with hr | hr
        · exact sep_hl w hch W (n := nr) (u := u) r (.tail _ (.tail _ (.tail _ hr))) q hq
        rw [List.map_append] at hr
        rcases List.mem_append.mp hr with hr | hr
        · exact sep_tl w hch W (nt := nt) r (.tail _ hr) q hq
        · rw [List.mem_singleton.mp hr]
          exact neN (Nat.ne_of_gt (Nat.lt_of_le_of_lt (lex_hi w hch q hq) bpb)))
end W2TURN
end
section
section W2WALK
local macro_rules | `(tactic| walk_at "my enterW") => `(tactic| (refine' enterKW (by k_asm) (by k_asm) (by k_asm) (by k_is) (by k_is) (by first | walk_at "my r" | walk_at "my o") (by first | exact BindsTo.of_eq rfl | exact binds_K (Frag.In.keeps (by assumption) (Out.keep (by assumption))) rfl (by k_is) rfl rfl rfl | fail "enter: arguments") (by exact locs rfl) (by decide) (by rfl) (by rfl) (by rfl) ?_; k_whole; intro _ _ _ _ l1q; (try k_lt l1q); (try dsimp only); (try k_fold)))
local macro_rules | `(tactic| walk_at "exec For Name Call cons nil") => `(tactic| (k_here; k_dflt (refine for_stmt (by intro _; rfl) ?_)))
local macro_rules | `(tactic| walk_at "pyIter ref") => `(tactic| ((with_reducible show wpAny _ _ (pyIter (.ref _)) (fun it s2 => codeAny _ _ (.forLoop _ it _ _ _) _ s2) _ _); refine stopI ?_))
local macro_rules | `(tactic| walk_at "call ref") => `(tactic| first
  | (with_reducible refine haltC 66 ?_)
  | (with_reducible refine haltC 73 ?_)
  | (with_reducible refine haltC 210 ?_))
theorem walk_start {g h : Heap} {L x d l tc : Addr} {k : Nat} {u : Tok} {oT : Obj} {R : Led} (N : News g L h ((tc, oT) :: (l, listOf #[] k) :: (x, instObj 220 d) :: (d, dictOf [⟨PyData.keyHash w.params (Str.ofString "_headers"), .str (Str.ofString "_headers") u, .ref l⟩] 1) :: R)) (l0 : @LT.lt Nat _ l tc) (l1 : @LT.lt Nat _ x l) (l2 : @LT.lt Nat _ d x) (l3 : AllLt d R) :
    Ex4 fun (b : HdA) (u : Tok) (n : Nat) (t : Addr) => And6 (t = tc) (b.h = x) (HdOK b []) (@LT.lt Nat _ b.l t) (News g L h ((t, oT) :: (R ++ (hdLed w 220 b u [] n ++ [])))) (∀ p ∈ R, @LT.lt Nat _ p.1 b.d) := by
  refine ⟨⟨x, d, l⟩, u, k, tc, rfl, rfl, ⟨l2, l1, by simp, by simp, by simp⟩, l0, fun q hq => N q ?_, allLt_mem l3⟩
  rcases List.mem_cons.mp hq with rfl | hq
  · exact .head _
  rcases List.mem_append.mp hq with hq | hq
  · exact .tail _ (.tail _ (.tail _ (.tail _ hq)))
  · simp only [hdLed, List.map_nil, List.mem_cons, List.append_nil, List.not_mem_nil, or_false] at hq ⊢
    rcases hq with rfl | rfl | rfl <;> simp
theorem News.lx0 {g h : Heap} {L : Addr} {t : Addr × Obj} {A H T : Led} (N : News g L h (A ++ (t :: (H ++ T)))) : News g L h (t :: (A ++ (H ++ T))) := fun q hq => N q (memSw (P := [t]) hq)
theorem News.hd0 {g h : Heap} {L : Addr} {t : Addr × Obj} {A H T : Led} (N : News g L h (H ++ (t :: (A ++ T)))) : News g L h (t :: (A ++ (H ++ T))) := fun q hq => N q (memSw (P := t :: A) hq)
theorem sep0H {C : Addr} {a : LexA} {j : LexJ} {b : HdA} {u : Tok} {rows : List Row} {tc : Addr} {oT : Obj} {n e1 e2 : Nat} {line : Int} {tl : Tok} {vs toks : List Value} (hch : a.chain) (hok : HdOK b rows) (hpb : @LT.lt Nat _ a.pb b.d) (hbt : @LT.lt Nat _ b.l tc) (hr : ∀ r ∈ rows, @Ne Nat r.a tc) :
    ∀ r ∈ (tc, oT) :: (lexLed w C a j line tl vs toks e1 e2 ++ []), r ∈ (tc, oT) :: (lexLed w C a j line tl vs toks e1 e2 ++ (hdLed w 220 b u rows n ++ [])) ∧ ∀ q ∈ hdLed w 220 b u rows n, r.1 ≠ q.1 := by
  obtain ⟨d1, d2, -⟩ := id hok
  intro r hr'
  rcases List.mem_cons.mp hr' with rfl | hr'
  · refine ⟨.head _, fun q hq => Ne.symm ?_⟩
    simp only [hdLed, List.mem_cons] at hq
    rcases hq with rfl | rfl | rfl | hq
    · exact neN (by (walk_at "my o"))
    · exact neN (by (walk_at "my o"))
    · exact neN (by (walk_at "my o"))
    · obtain ⟨x, hx, rfl⟩ := List.mem_map.mp hq
      exact hr x hx
  · rw [List.append_nil] at hr'
    refine ⟨.tail _ (List.mem_append_left _ hr'), fun q hq => ?_⟩
    have h1 := hd_lo w hok q hq
    have h2 := lex_hi w hch r hr'
    exact neN (by (walk_at "my o"))
theorem sep0L {C : Addr} {a : LexA} {j : LexJ} {b : HdA} {u : Tok} {rows : List Row} {tc : Addr} {oT : Obj} {n e1 e2 : Nat} {line : Int} {tl : Tok} {vs toks : List Value} (hch : a.chain) (hok : HdOK b rows) (hpb : @LT.lt Nat _ a.pb b.d) (hbt : @LT.lt Nat _ b.l tc) :
    ∀ r ∈ (tc, oT) :: (hdLed w 220 b u rows n ++ []), r ∈ (tc, oT) :: (lexLed w C a j line tl vs toks e1 e2 ++ (hdLed w 220 b u rows n ++ [])) ∧ ∀ q ∈ lexLed w C a j line tl vs toks e1 e2, r.1 ≠ q.1 := by
  obtain ⟨d1, d2, -⟩ := id hok
  intro r hr'
  rcases List.mem_cons.mp hr' with rfl | hr'
  · refine ⟨.head _, fun q hq => ?_⟩
    have h2 := lex_hi w hch q hq
    exact neN (by (walk_at "my o"))
  · refine ⟨.tail _ (List.mem_append_right _ hr'), fun q hq => ?_⟩
    rw [List.append_nil] at hr'
    have h1 := hd_lo w hok r hr'
    have h2 := lex_hi w hch q hq
    exact neN (by (walk_at "my o"))
theorem walk2_ok (t0 : Tab) (ht0 : TOK t0) (S : Str) (rf : Bool) (hS : StopOK S rf) (tot : Int) (a : LexA) (j : LexJ) (hTk : TakeOK prog w p loose mean mg mb a j) (hch : a.chain) (line : Int) (tl : Tok) (cs : List Nat) (vs : List Value) (e1 e2 : Nat) (ts : Tok) (LX : Lx2 vs [] cs line [(wdOf t0).cps.toList, S.cps.toList] [] tot) :
   ConW prog w (hd2.heap_1 w.params) p loose mean mg mb 12 (.ref 258) ⟨[.ref a.lx, .str S ts], []⟩ (lexLed w 76 a j line tl vs [] e1 e2) (WalkEnd w t0 S rf tot a j) := by
  have hch0 := hch
  unfold LexA.chain at hch
  obtain ⟨c1, c2, c3, c4, c5, c6, c7, c8⟩ := id hch
  intro dp un gd outer A₀ base g s B O XB TB KD hd hu
  have X : (hd2.heap_1 w.params).In g := Frag.In.keeps XB B.stays
  have T : Top p loose mean mg mb g := TB.keeps B.stays
  k_dflt (walk_at "my enterW")
  dsimp only [lexLed] at *
  k_steps
  show wpAny _ _ _ _ _ _
  obtain ⟨b, u, n, tc, rfl, rfl, hok, hbt, hN, hlt⟩ := walk_start w ‹News g _ _ ((_, listOf #[] _) :: (_, listOf #[] _) :: (_, instObj _ _) :: _)› (by (walk_at "my o")) (by (walk_at "my o")) (by (walk_at "my o")) (by simp only [AllLt, and_true]; (walk_at "my o"))
  have hpb : @LT.lt Nat _ a.pb b.d := hlt (a.pb, _) (.tail _ (.tail _ (.head _)))
  clear hlt
  (k_dflt (refine' Con.use (next2_ok prog w p loose mean mg mb a j hTk hch0 line tl cs vs [] e1 e2 [(wdOf t0).cps.toList, S.cps.toList] [] tot LX (by decide)) ((tc, listOf #[] 0) :: (hdLed w 220 b u [] n ++ [])) ?zB22 ?zF22 ?zX22 hN ?zT22 ?zA22 ?zf22 ?zk22 ?zd22 ?zu22 (fun q hq => .tail _ (List.mem_append_left _ hq)) (sep0L w hch0 hok hpb hbt) ?zpre22 ?_); (case zB22 => k_asm); (case zF22 => k_asm); (case zX22 => k_asm); (case zT22 => k_asm); (case zA22 => exact rfl); (case zf22 => exact rfl); (case zk22 => exact rfl); (case zd22 => k_room); (case zu22 => k_units); (case zpre22 => first | exact trivial | skip))
  intro v h' tk' nw' F' N' zg153 zg154
  refine letGoal ?_
  intro Gz
  obtain ⟨t1, line1, tl1, cs1, vs1, toks1, e11, e21, rfl, rfl, LX1⟩ := zg153
  clear zg154
  dsimp only [Gz]
  clear Gz
  replace N' := News.lx0 N'
  clear hN
  have Nl := N'
  dsimp only [lexLed, hdLed, List.cons_append, List.nil_append] at Nl
  have hnx : nxS [(wdOf t0).cps.toList, S.cps.toList] [] = wdOf t0 := by
    show Str.mk (wdOf t0).cps.toList.toArray = wdOf t0
    simp
  rw [hnx]
  have LX2 : Lx2 vs1 toks1 cs1 line1 [S.cps.toList] [] tot := LX1
  clear LX1 LX hnx
  have htk1 : toks1 = [] := by
    obtain ⟨-, -, c3, -⟩ := LX2
    cases c3; rfl
  subst htk1
  k_steps
  show wpAny _ _ _ _ _ _
  obtain ⟨o1, o2, o3, o4, o5⟩ := id hok
  (k_dflt (refine' Con.use (setdefault_ok prog w p loose mean mg mb b u [] n (wdOf t0) (Str.ofString "") t1 _ (wd_okL ht0) (wd_szL ht0) (fun r hr => nomatch hr) (wd_ok ht0) (by show 3 ≤ 1000; decide) (by decide +kernel) (by decide +kernel) (by decide) (fun r hr => nomatch hr) o1 o2) ((tc, listOf #[] 0) :: (lexLed w 76 a j line1 tl1 vs1 [] e11 e21 ++ [])) ?zB23 ?zF23 ?zX23 (show News g _ _ ((tc, listOf #[] 0) :: (lexLed w 76 a j line1 tl1 vs1 [] e11 e21 ++ (hdLed w 220 b u [] n ++ []))) from by k_asm) ?zT23 ?zA23 ?zf23 ?zk23 ?zd23 ?zu23 (fun q hq => .tail _ (List.mem_append_right _ (List.mem_append_left _ hq))) (sep0H w hch0 hok hpb hbt (fun r hr => nomatch hr)) ?zpre23 ?_); (case zB23 => k_asm); (case zF23 => k_asm); (case zX23 => k_asm); (case zT23 => k_asm); (case zA23 => exact rfl); (case zf23 => exact rfl); (case zk23 => exact rfl); (case zd23 => k_room); (case zu23 => k_units); (case zpre23 => first | exact trivial | skip))
  intro v h' tk' nw' F' N' hv zg155
  refine letGoal ?_
  intro Gz
  obtain ⟨-, hap⟩ := zg155
  dsimp only [Gz]
  clear Gz
  obtain ⟨rfl, r0, n', hk0, hv0, hl0, rfl⟩ := hv
  replace N' := News.hd0 N'
  have hr0 : (r0.a, tupObj #[.str r0.k r0.tk, .str r0.v r0.tv]) ∈ hdLed w 220 b u [r0] n' := .tail _ (.tail _ (.tail _ (.head _)))
  have hrt : @Ne Nat r0.a tc := hap _ hr0 _ (.head _)
  have hok1 : HdOK b [r0] := hdOK_stop hok (by rw [hk0]; exact wd_szL ht0) hl0 (by decide)
  clear hap
  have Nl := N'
  dsimp only [lexLed, hdLed, List.cons_append, List.nil_append] at Nl
  k_steps
  show wpAny _ _ _ _ _ _
  (k_dflt (refine' Con.use (push_token_ok prog w p loose mean mg mb a j hch0 line1 tl1 vs1 (.str (wdOf t0) t1) [] e11 e21 (by decide)) ((tc, listOf #[] 0) :: (hdLed w 220 b u [r0] n' ++ [])) ?zB24 ?zF24 ?zX24 (show News g _ _ ((tc, listOf #[] 0) :: (lexLed w 76 a j line1 tl1 vs1 [] e11 e21 ++ (hdLed w 220 b u [r0] n' ++ []))) from by k_asm) ?zT24 ?zA24 ?zf24 ?zk24 ?zd24 ?zu24 (fun q hq => .tail _ (List.mem_append_left _ hq)) (sep0L w hch0 hok1 hpb hbt) ?zpre24 ?_); (case zB24 => k_asm); (case zF24 => k_asm); (case zX24 => k_asm); (case zT24 => k_asm); (case zA24 => exact rfl); (case zf24 => exact rfl); (case zk24 => exact rfl); (case zd24 => k_room); (case zu24 => k_units); (case zpre24 => first | exact trivial | skip))
  intro v h' tk' nw' F' N' zg156 zg157
  refine letGoal ?_
  intro Gz
  obtain ⟨e1', rfl, rfl⟩ := zg156
  clear zg157
  dsimp only [Gz]
  clear Gz
  replace N' := News.lx0 N'
  have LX3 : Lx2 vs1 [.str (wdOf t0) t1] cs1 line1 [S.cps.toList] [wdOf t0] tot := by
    obtain ⟨c1, c2, c3, c4, c5, c6, c7⟩ := LX2
    exact ⟨c1, c2, .cons _ _ .nil, c4, c5, c6, c7⟩
  have hD0 : DD t0 t0 = 0 := (dd_zero ht0 ht0).mpr rfl
  have W0 : WSt t0 S tot a b tc (12 * 0) (([t0].drop 0).map wdOf) [t0] line1 vs1 [.str (wdOf t0) t1] [r0] [] :=
    ⟨⟨cs1, LX3⟩, by show [(r0.k, r0.v)] = [(wdOf t0, dotS (DD t0 t0))]; rw [hk0, hv0, hD0]; rfl, hok1, ⟨[], rfl, fun u hu => nomatch hu⟩, Nat.le_refl _, hpb, hbt, fun r hr => (nomatch hr), fun r hr => ⟨by rw [List.mem_singleton.mp hr]; exact hrt, fun q hq => nomatch hq⟩⟩
  k_steps
  show wpAny _ _ _ _ _ _
  refine' for_range (n := 20) ?hh (fun n m nw => OutJ w t0 S tot a j b u tc n m nw) ?F ?N ?hr ?hsm ?hn ?hx ?hp ?h0 ?turn ?done
  (case hh => rfl)
  (case F => k_asm)
  (case N => k_asm)
  (case hr => assumption)
  (case hsm => decide)
  (case hn => rfl)
  (case hx => rfl)
  (case hp => rfl)
  (case h0 => exact ⟨[t0], line1, tl1, vs1, [.str (wdOf t0) t1], e1', e21, [r0], n', [], 0, ⟨W0, Bfs.start ht0, Nat.zero_le _⟩, rfl, rfl, rfl, ⟨_, rfl⟩, rfl⟩)
  (case done =>
    (repeat (rename Fr _ _ _ _ => hZ; clear hZ))
    (repeat (rename News _ _ _ _ => hZ; clear hZ))
    intro m nw h tk zg158 F N
    refine letGoal ?_
    intro Gz
    obtain ⟨ord, line, tl, vs, toks, e1, e2, rows, nr, trows, nt, ⟨-, hB, hle⟩, -⟩ := zg158
    dsimp only [Gz]
    clear Gz
    have := hB.len ht0
    (walk_at "my o"))
  (case turn =>
    (repeat (rename Fr _ _ _ _ => hZ; clear hZ))
    (repeat (rename News _ _ _ _ => hZ; clear hZ))
    intro n mp nw I oI h tk xt hn hJ F N off
    exact walk_turn prog w p loose mean mg mb t0 ht0 S rf hS tot a j b u tc hTk hch0 hd hu B X T ⟨XB, TB, KD⟩ n hn mp nw I oI h tk xt hJ F N off fun v h' tk' m' nw' g' TT F' N' hW => ⟨_, _, _, _, _, _, rfl, TT, F', N', hW⟩)
end W2WALK
end
end
section
section W2LIKE0
theorem ints_at : ∀ {vs : List Value} {ns : List Int} {r : Nat} {x : Int}, IntsAre vs ns → ns[r]? = some x → ∃ t, vs[r]? = some (.int x t)
  | _, _, r, x, .nil, e => by simp at e
  | _, _, 0, x, .cons y t h, e => by cases e; exact ⟨t, rfl⟩
  | _, _, r + 1, x, .cons y t h, e => by simpa using ints_at h (r := r) (by simpa using e)
theorem ints_range {f : Nat → Nat} {ys : List Value} {i : Nat} {z : Int} {t : Tok} (h : IntsAre ys (((List.range i).map f).map Int.ofNat)) (e : z = (f i : Int)) : IntsAre (ys ++ [.int z t]) (((List.range (i + 1)).map f).map Int.ofNat) := by
  subst e
  rw [List.range_succ, List.map_append, List.map_append]
  exact IntsAre.append h (.cons _ _ .nil)
theorem range16_at {f : Nat → Nat} {ys : List Value} {r : Nat} (h : IntsAre ys (((List.range 16).map f).map Int.ofNat)) (hr : r < 16) : ∃ t, ys.toArray[r]? = some (.int (f r : Int) t) := by
  obtain ⟨t, e⟩ := ints_at h (r := r) (x := (f r : Int)) (by simp [hr])
  exact ⟨t, by simpa using e⟩
theorem sums_fact : ∀ r : _root_.Fin 16, ((r.val : Nat) : Int).fmod 2 + (((r.val : Nat) : Int).fdiv 2).fmod 2 * 4 + (((r.val : Nat) : Int).fdiv 4).fmod 2 * 16 + ((r.val : Nat) : Int).fdiv 8 * 64 = (sumsN r.val : Int) := by decide +kernel
theorem off5 {a b c d e : Addr × Obj} {D : Addr} (h : ∀ p ∈ [a, b, c, d, e], p.1 ≠ D) : (@Ne Nat a.1 D) ∧ (@Ne Nat b.1 D) ∧ (@Ne Nat c.1 D) ∧ (@Ne Nat d.1 D) ∧ (@Ne Nat e.1 D) :=
  ⟨h a (.head _), h b (.tail _ (.head _)), h c (.tail _ (.tail _ (.head _))), h d (.tail _ (.tail _ (.tail _ (.head _)))), h e (.tail _ (.tail _ (.tail _ (.tail _ (.head _)))))⟩
noncomputable def tabDat (t : Tab) : Dat := .list [.int t.1, .int t.2.1, .int t.2.2]
noncomputable def P2T (t : Tab) (x y k : Nat) : List Tab := (((clsR (onesN t.2.2)).take k).filter fun c => sumsN x + sumsN y + sumsN c == totT t).map fun c => (x, y, c)
noncomputable def P1T (t : Tab) (x k : Nat) : List Tab := ((clsR (onesN t.2.1)).take k).flatMap fun y => P2T t x y (clsR (onesN t.2.2)).length
noncomputable def P0T (t : Tab) (k : Nat) : List Tab := ((clsR (onesN t.1)).take k).flatMap fun x => P1T t x (clsR (onesN t.2.1)).length
theorem p2_step {t : Tab} {x y k c : Nat} (h : (clsR (onesN t.2.2))[k]? = some c) : P2T t x y (k + 1) = P2T t x y k ++ (if sumsN x + sumsN y + sumsN c = totT t then [(x, y, c)] else []) := by
  unfold P2T
  rw [List.take_add_one, h, List.filter_append, List.map_append]
  congr 1
  by_cases e : sumsN x + sumsN y + sumsN c = totT t
  · simp [e]
  · simp [e]
theorem p1_step {t : Tab} {x k y : Nat} (h : (clsR (onesN t.2.1))[k]? = some y) : P1T t x (k + 1) = P1T t x k ++ P2T t x y (clsR (onesN t.2.2)).length := by
  unfold P1T
  rw [List.take_add_one, h, List.flatMap_append]
  simp
theorem p0_step {t : Tab} {k x : Nat} (h : (clsR (onesN t.1))[k]? = some x) : P0T t (k + 1) = P0T t k ++ P1T t x (clsR (onesN t.2.1)).length := by
  unfold P0T
  rw [List.take_add_one, h, List.flatMap_append]
  simp
theorem p0_all (t : Tab) : P0T t (clsR (onesN t.1)).length = likeT t := by
  unfold P0T P1T P2T likeT
  simp only [List.take_length]
theorem cls_lt {k r : Nat} (h : r ∈ clsR k) : r < 16 := by
  unfold clsR at h
  exact List.mem_range.mp (List.mem_filter.mp h).1
theorem cls_nat {k : Nat} {zs : List Value} {i : Nat} {v : Value} (h : IntsAre zs ((clsR k).map Int.ofNat)) (hv : zs.toArray[i]? = some v) : Ex2 fun r t => And3 (v = .int ((r : Nat) : Int) t) ((clsR k)[i]? = some r) (r < 16) := by
  obtain ⟨r, t, e1, e2⟩ := ints_nat_at h (by simpa using hv)
  exact ⟨r, t, e1, e2, cls_lt (List.mem_of_getElem? e2)⟩
theorem dat_append {nw : Led} : ∀ {vs us : List Value} {ds es : List Dat}, DatAll nw vs ds → DatAll nw us es → DatAll nw (vs ++ us) (ds ++ es)
  | _, _, _, _, .nil, h => h
  | _, _, _, _, .cons h1 h2, h => .cons h1 (dat_append h2 h)
theorem tab_add {TL : Led} {us : List Value} {ts : List Tab} {x y c : Nat} {X : Addr} {t1 t2 t3 : Tok} {n : Nat} (h : DatAll TL us (ts.map tabDat)) : DatAll (TL ++ [(X, listOf #[.int x t1, .int y t2, .int c t3] n)]) (us ++ [.ref X]) ((ts ++ [(x, y, c)]).map tabDat) := by
  rw [List.map_append]
  refine dat_append (h.mono fun p hp => List.mem_append_left _ hp) (.cons (.list (vs := [.int x t1, .int y t2, .int c t3]) (List.mem_append_right _ (.head _)) ?_) .nil)
  exact .cons (.int _ _) (.cons (.int _ _) (.cons (.int _ _) .nil))
theorem flat_len {α : Type} {f : Nat → List α} {b : Nat} (h : ∀ x, (f x).length ≤ b) : ∀ l : List Nat, (l.flatMap f).length ≤ b * l.length
  | [] => Nat.le_refl _
  | x :: l => by
    have h1 := h x
    have h2 := flat_len h l
    simp only [List.flatMap_cons, List.length_append, List.length_cons]
    rw [Nat.mul_add, Nat.mul_one]
    (walk_at "my o")
theorem cls_len (k : Nat) : (clsR k).length ≤ 16 := by
  unfold clsR
  exact Nat.le_trans (List.length_filter_le _ _) (by simp)
theorem take16 (k i : Nat) : ((clsR k).take i).length ≤ 16 := by
  rw [List.length_take]
  exact Nat.le_trans (Nat.min_le_right _ _) (cls_len k)
theorem p2_len (t : Tab) (x y k : Nat) : (P2T t x y k).length ≤ 16 := by
  unfold P2T
  rw [List.length_map]
  exact Nat.le_trans (List.length_filter_le _ _) (take16 _ _)
theorem p1_len (t : Tab) (x k : Nat) : (P1T t x k).length ≤ 256 :=
  Nat.le_trans (flat_len (fun y => p2_len t x y _) _) (Nat.mul_le_mul_left 16 (take16 _ _))
theorem p0_len (t : Tab) (k : Nat) : (P0T t k).length ≤ 4096 :=
  Nat.le_trans (flat_len (fun y => p1_len t y _) _) (Nat.mul_le_mul_left 256 (take16 _ _))
theorem p2_zero (t : Tab) (x y : Nat) : P2T t x y 0 = [] := rfl
theorem p1_zero (t : Tab) (x : Nat) : P1T t x 0 = [] := rfl
theorem gL1 {q x i4 c d i3 i2 : Addr × Obj} {NW TL : Led} (h : q ∈ i4 :: c :: d :: i3 :: i2 :: (NW ++ (TL ++ [x]))) : q ∈ x :: i4 :: c :: d :: i3 :: i2 :: (NW ++ TL) := by
  simp only [List.mem_cons, List.mem_append, List.not_mem_nil, or_false] at h ⊢
  rcases h with h | h | h | h | h | h | h | h <;> simp [h]
theorem gL2 {P : Addr × Obj → Prop} {x : Addr × Obj} {NW TL : Led} (h : ∀ p ∈ NW ++ TL, P p) (hx : P x) : ∀ p ∈ NW ++ (TL ++ [x]), P p := by
  intro p hp
  rcases List.mem_append.mp hp with hp | hp
  · exact h p (List.mem_append_left _ hp)
  rcases List.mem_append.mp hp with hp | hp
  · exact h p (List.mem_append_right _ hp)
  · rw [List.mem_singleton.mp hp]; exact hx
theorem like_step {t : Tab} {TL : Led} {ys : List Value} {i j q x y z : Nat} {X : Addr} {t1 t2 t3 : Tok} {n : Nat} (hz : (clsR (onesN t.2.2))[q]? = some z) (e : sumsN x + sumsN y + sumsN z = totT t) (h : DatAll TL ys ((P0T t i ++ (P1T t x j ++ P2T t x y q)).map tabDat)) :
    DatAll (TL ++ [(X, listOf #[.int x t1, .int y t2, .int z t3] n)]) (ys ++ [.ref X]) ((P0T t i ++ (P1T t x j ++ P2T t x y (q + 1))).map tabDat) := by
  rw [p2_step hz, if_pos e, ← List.append_assoc (P1T t x j), ← List.append_assoc]
  exact tab_add h
theorem like_skip {t : Tab} {i j q x y z : Nat} (hz : (clsR (onesN t.2.2))[q]? = some z) (e : ¬ sumsN x + sumsN y + sumsN z = totT t) : P0T t i ++ (P1T t x j ++ P2T t x y (q + 1)) = P0T t i ++ (P1T t x j ++ P2T t x y q) := by
  rw [p2_step hz, if_neg e, List.append_nil]
theorem like_size {t : Tab} {TL : Led} {ys : List Value} {i j q x y : Nat} (h : DatAll TL ys ((P0T t i ++ (P1T t x j ++ P2T t x y q)).map tabDat)) : ys.length < 1000000 := by
  have h1 := dat_len h
  have h2 := p0_len t i
  have h3 := p1_len t x j
  have h4 := p2_len t x y q
  simp only [List.length_map, List.length_append] at h1
  (walk_at "my o")
end W2LIKE0
end
section
local macro_rules | `(tactic| walk_at "my look") => `(tactic| first | rfl | assumption | (dsimp only; (repeat rw [if_neg (by decide)]); first | rfl | assumption) | with_unfolding_all assumption)
local macro_rules | `(tactic| walk_at "eval Name") => `(tactic| (k_here; k_dflt (refine' nameX_L (by k_asm) (by walk_at "my look") ?_; k_whole)))
local macro_rules | `(tactic| walk_at "loadName") => `(tactic| (k_here; k_dflt (refine' wpAny_loadName_local (by rfl) (by rfl) (Fr.ns (by k_asm)) (by walk_at "my look") ?_; k_whole)))
section
section W2LIKE3
local macro_rules | `(tactic| k_mem) => `(tactic| first | exact List.Mem.head _ | (refine' List.Mem.tail _ ?_; k_mem) | assumption)
local macro_rules | `(tactic| walk_at "eval ListComp") => `(tactic| (k_here; k_dflt (refine eval_compN (by with_unfolding_all rfl) (by rfl) (by decide) ?_)))
local macro_rules | `(tactic| walk_at "pyIter ref") => `(tactic| (refine stopI ?_))
theorem item_f {D : Addr} {nw : Led} {g : Heap} {L : Addr} {A : Around} {E : Value → Shared → Prop} {Q : Value → Shared → Prop} {s : Shared} {value slice : PySem.Expr} {ys : List Value} {u : Tok} {r : Nat} {i : Int} (f : Nat → Nat) (N : News g L s.heap nw) (hm : (D, LCg.lst ys) ∈ nw) (hy : IntsAre ys (((List.range 16).map f).map Int.ofNat)) (hi : i = (r : Int)) (hr : r < 16)
    (hs : subscripted slice false (.ref D) (.int i u) = operate [.ref D, .int i u] (getItem (.ref D) (.int i u))) (hg : ∀ r, letTemporaryGo value (.ref D) r = pure ()) (h : ∀ t, Q (.int (f r : Int) t) s) :
    wpAny (model prog w) A (subscriptTail value slice (.ref D) (.int i u)) Q E s := by
  subst hi
  obtain ⟨t, e⟩ := range16_at hy hr
  exact item_nat N hm e (Nat.lt_trans hr (by decide)) hs hg (h t)
local macro_rules | `(tactic| walk_at "subscriptTail Name Name ref int") => `(tactic| (k_here; (with_reducible show wpAny _ _ (subscriptTail _ _ (.ref _) (.int (Nat.cast _) _)) _ _ _); k_dflt (refine' item_f _ _ sumsN (by k_asm) (by k_mem) (by assumption) rfl (by assumption) (by with_unfolding_all rfl) (by (intro _; with_unfolding_all rfl)) ?_; k_whole); intro _))
theorem item_c {l : Addr} {nw : Led} {g : Heap} {L : Addr} {A : Around} {E : Value → Shared → Prop} {Q : Value → Shared → Prop} {s : Shared} {value slice : PySem.Expr} {its : Array Value} {n : Nat} {u : Tok} {z : Int} {x : Value} (i : Nat) (hz : z = ((i : Nat) : Int)) (N : News g L s.heap nw) (hm : (l, listOf its n) ∈ nw) (hx : its[i]? = some x) (hi : i < 1000000)
    (hs : subscripted slice false (.ref l) (.int z u) = operate [.ref l, .int z u] (getItem (.ref l) (.int z u))) (hg : ∀ r, letTemporaryGo value (.ref l) r = pure ()) (h : Q x s) :
    wpAny (model prog w) A (subscriptTail value slice (.ref l) (.int z u)) Q E s := by
  subst hz
  exact item_nat N hm hx hi hs hg h
theorem item_t0 {l : Addr} {nw : Led} {g : Heap} {L : Addr} {A : Around} {E : Value → Shared → Prop} {Q : Value → Shared → Prop} {s : Shared} {value slice : PySem.Expr} {x0 x1 x2 : Value} {n : Nat} {u : Tok} {z : Int} (hz : z = ((0 : Nat) : Int)) (N : News g L s.heap nw) (hm : (l, listOf #[x0, x1, x2] n) ∈ nw)
    (hs : subscripted slice false (.ref l) (.int z u) = operate [.ref l, .int z u] (getItem (.ref l) (.int z u))) (hg : ∀ r, letTemporaryGo value (.ref l) r = pure ()) (h : Q x0 s) :
    wpAny (model prog w) A (subscriptTail value slice (.ref l) (.int z u)) Q E s := item_c prog w 0 hz N hm rfl (by decide) hs hg h
theorem item_t1 {l : Addr} {nw : Led} {g : Heap} {L : Addr} {A : Around} {E : Value → Shared → Prop} {Q : Value → Shared → Prop} {s : Shared} {value slice : PySem.Expr} {x0 x1 x2 : Value} {n : Nat} {u : Tok} {z : Int} (hz : z = ((1 : Nat) : Int)) (N : News g L s.heap nw) (hm : (l, listOf #[x0, x1, x2] n) ∈ nw)
    (hs : subscripted slice false (.ref l) (.int z u) = operate [.ref l, .int z u] (getItem (.ref l) (.int z u))) (hg : ∀ r, letTemporaryGo value (.ref l) r = pure ()) (h : Q x1 s) :
    wpAny (model prog w) A (subscriptTail value slice (.ref l) (.int z u)) Q E s := item_c prog w 1 hz N hm rfl (by decide) hs hg h
theorem item_t2 {l : Addr} {nw : Led} {g : Heap} {L : Addr} {A : Around} {E : Value → Shared → Prop} {Q : Value → Shared → Prop} {s : Shared} {value slice : PySem.Expr} {x0 x1 x2 : Value} {n : Nat} {u : Tok} {z : Int} (hz : z = ((2 : Nat) : Int)) (N : News g L s.heap nw) (hm : (l, listOf #[x0, x1, x2] n) ∈ nw)
    (hs : subscripted slice false (.ref l) (.int z u) = operate [.ref l, .int z u] (getItem (.ref l) (.int z u))) (hg : ∀ r, letTemporaryGo value (.ref l) r = pure ()) (h : Q x2 s) :
    wpAny (model prog w) A (subscriptTail value slice (.ref l) (.int z u)) Q E s := item_c prog w 2 hz N hm rfl (by decide) hs hg h
local macro_rules | `(tactic| walk_at "subscriptTail Name Constant ref int") => `(tactic| (k_here; (with_reducible show wpAny _ _ (subscriptTail _ _ (.ref _) (.int _ _)) _ _ _); k_dflt ((first | refine' item_t0 _ _ (by decide) ?N ?m ?s ?g ?_ | refine' item_t1 _ _ (by decide) ?N ?m ?s ?g ?_ | refine' item_t2 _ _ (by decide) ?N ?m ?s ?g ?_); (case N => k_asm); (case m => k_mem); (case s => with_unfolding_all rfl); (case g => (intro _; with_unfolding_all rfl)); k_whole)))
local macro_rules | `(tactic| walk_at "zz") => `(tactic| skip)
theorem like3_ok (t : Tab) (ht : TOK t) (l : Addr) (ol : Obj) (X0 X1 X2 K D2 : Addr) (zs0 zs1 zs2 ys2 : List Value) (k : Nat) (o2 o3 o4 : Obj) (td : Tok)
    (hz0 : IntsAre zs0 ((clsR (onesN t.1)).map Int.ofNat)) (hz1 : IntsAre zs1 ((clsR (onesN t.2.1)).map Int.ofNat)) (hz2 : IntsAre zs2 ((clsR (onesN t.2.2)).map Int.ofNat)) (hy2 : IntsAre ys2 (((List.range 16).map sumsN).map Int.ofNat))
    {dp un : Nat} {gd : Option (List Code)} {outer : List Env} {A₀ : Around} {base g : Heap} {s : Shared} {L' : Addr} (hd : dp + 6 < recursionLimit) (hu : un + 16 * 6 < cLine) (B : Below A₀ base outer g) (X : (hd2.heap_1 w.params).In g) (T : Top p loose mean mg mb g)
    (m : Str → Option Value) (h : Heap) (tk : Nat) (F : Fr g L' h m)
    (N : News g L' h [(X2, LCg.lst zs2), (X1, LCg.lst zs1), (X0, LCg.lst zs0), (K, listOf #[.ref X0, .ref X1, .ref X2] k), (D2, LCg.lst ys2), (L' + 1 + 1 + 1 + 1, o4), (L' + 1 + 1 + 1, o3), (L' + 1 + 1, o2), (l, ol)])
    (d2 : o2.data = .cell (some (.ref D2))) (d3 : o3.data = .cell (some (.int (totT t : Int) td))) (d4 : o4.data = .cell (some (.ref K))) :
    wpAny (model prog w) (Around.deeper { handled := none, depth := dp, frames := some outer, guards := gd, units := un } (envOfC (Str.ofString "_law_like") (scopeOf (lawFn2 18)) L' 270 (Value.ref 269))) (execs ((bodyOfF (lawFn2 18)).drop 4) (envOfC (Str.ofString "_law_like") (scopeOf (lawFn2 18)) L' 270 (Value.ref 269)))
      (fun fl s' => Fin g s (fun v nw' => Ex3 fun D us TL => And3 (v = .ref D) (nw' = (D, LCg.lst us) :: (l, ol) :: TL) (DatAll TL us ((likeT t).map tabDat))) (match fl with | .ret v => v | _ => .none) s') (fun _ _ => False) { s with heap := h, toks := tk } := by
  conv in (occs := *) scopeOf _ => all_goals whnf
  conv in execs (List.drop _ _) _ => arg 1; whnf
  refine letPost ?_
  intro K0
  k_steps
  show wpAny _ _ _ _ _ _
  obtain ⟨NW, hNW⟩ : ∃ NW : Led, NW = [(X2, LCg.lst zs2), (X1, LCg.lst zs1), (X0, LCg.lst zs0), (K, listOf #[.ref X0, .ref X1, .ref X2] k), (D2, LCg.lst ys2), (L' + 1 + 1 + 1 + 1, o4), (L' + 1 + 1 + 1, o3), (L' + 1 + 1, o2), (l, ol)] := ⟨_, rfl⟩
  have mX0 : (X0, LCg.lst zs0) ∈ NW := by rw [hNW]; exact .tail _ (.tail _ (.head _))
  have mX1 : (X1, LCg.lst zs1) ∈ NW := by rw [hNW]; exact .tail _ (.head _)
  have mX2 : (X2, LCg.lst zs2) ∈ NW := by rw [hNW]; exact .head _
  rw [← hNW] at N
  refine' outer_list (k := zs0.length) (nw := NW ++ []) (its := zs0.toArray) ?hh8 (fun i ys nw => ∃ TL, nw = NW ++ TL ∧ DatAll TL ys ((P0T t i).map tabDat)) ?h0s8 ?F8 ?N8 ?hm8 ?hsz8 ?c18 ?c28 ?c38 ?h08 ?hJ8 ?turn8 ?fin8
  (case hh8 => rfl)
  (case h0s8 =>
    rintro C g' hg
    cases hg
    exact ⟨rfl, fun _ => rfl⟩)
  (case F8 => k_asm)
  (case N8 => (rw [List.append_nil]; k_asm))
  (case hm8 => exact List.mem_append_left _ mX0)
  (case hsz8 => (have h1 := hz0.length; have h2 := cls_len (onesN t.1); rw [List.length_map] at h1; rw [sizeLine_eq, List.size_toArray]; (walk_at "my o")))
  (case c18 => decide)
  (case c28 => rfl)
  (case c38 => rfl)
  (case h08 => exact ⟨[], rfl, .nil⟩)
  (case hJ8 => rintro i ys nw ⟨TL, rfl, -⟩; exact List.mem_append_left _ mX0)
  (case turn8 =>
    clear F N
    intro i v ys nw I2 oI2 C oC mC D h tk8 hi hv zg161 hoC hxx F N off ne
    refine letGoal ?_
    intro Gz
    obtain ⟨TL, rfl, hys⟩ := zg161
    dsimp only [Gz]
    clear Gz
    obtain ⟨x, tx, rfl, hx, hx16⟩ := cls_nat hz0 hv
    refine wpAny_tests_nil ?_
    simp only [if_true]
    show wpAny _ _ (eval _ _) _ _ _
    have N0 := fun _ : True => N
    rw [hNW] at N
    simp only [List.cons_append, List.nil_append] at N
    k_steps
    show wpAny _ _ _ _ _ _
    refine' inner_list (k := zs1.length) (oC := oC) (mC := mC) (ys0 := ys) (nw := NW ++ TL) (oI0 := oI2) (its := zs1.toArray) ?hh9 ?hmk9 ?hs9 ?hg9 ?h0s9 (fun j ys nw => ∃ TL, nw = NW ++ TL ∧ DatAll TL ys ((P0T t i ++ P1T t x j).map tabDat)) _ (fun mC => mC (Str.ofString "a") = some (.int (x : Int) tx)) _ ?hPx9 ?hPP9 ?hk9 ?hx9 ?F9 ?N9 ?hm9 ?hoC9 ?hP9 ?off9 ?d19 ?d29 ?d39 ?h09 ?hJ9 ?turn9 ?fin9
    (case hh9 => rfl)
    (case hmk9 => rfl)
    (case hs9 => exact ⟨_, _, rfl⟩)
    (case hg9 => rfl)
    (case h0s9 => (intro g' hg; cases hg; exact ⟨rfl, fun _ => rfl⟩))
    (case hPx9 => intro mC v h; exact (if_neg (by decide)).trans h)
    (case hPP9 => exact fun _ _ => trivial)
    (case hk9 => rfl)
    (case hx9 => rfl)
    (case F9 => k_asm)
    (case N9 => exact N0 trivial)
    (case hm9 => exact List.mem_append_left _ mX1)
    (case hoC9 => exact hoC)
    (case hP9 => exact hxx)
    (case off9 => exact off)
    (case d19 => exact ne.1)
    (case d29 => exact ne.2.1)
    (case d39 => exact ne.2.2)
    (case h09 => exact ⟨TL, rfl, by rw [p1_zero, List.append_nil]; exact hys⟩)
    (case hJ9 => rintro j ys nw ⟨TL, rfl, -⟩; exact List.mem_append_left _ mX1)
    (case fin9 =>
      intro ys nwx zg162
      refine letGoal ?_
      intro Gz
      obtain ⟨TL, rfl, h⟩ := zg162
      dsimp only [Gz]
      clear Gz
      refine ⟨NW ++ TL, fun p hp => hp, TL, rfl, ?_⟩
      rw [p0_step hx]
      have e : zs1.toArray.size = (clsR (onesN t.2.1)).length := by rw [List.size_toArray, hz1.length, List.length_map]
      rw [e] at h
      exact h)
    (case turn9 =>
      clear N F N0 off hys hoC
      intro j v ys nw I3 oI3 oC mC h tk9 hj hv zg163 hoC hxa hxb F N off ne2
      refine letGoal ?_
      intro Gz
      obtain ⟨TL, rfl, hys⟩ := zg163
      dsimp only [Gz]
      clear Gz
      obtain ⟨y, ty, rfl, hy, hy16⟩ := cls_nat hz1 hv
      refine wpAny_tests_nil ?_
      simp only [if_true]
      show wpAny _ _ (eval _ _) _ _ _
      have N0 := fun _ : True => N
      rw [hNW] at N
      simp only [List.cons_append, List.nil_append] at N
      k_steps
      show wpAny _ _ _ _ _ _
      have offN : ∀ p ∈ (I2, oI2) :: (NW ++ TL), p.1 ≠ I3 ∧ p.1 ≠ C ∧ p.1 ≠ D := List.forall_mem_cons.mpr ⟨⟨Ne.symm ne2.2.2, ne.1, ne.2.1⟩, fun p hp => ⟨(off p hp).1, (off p hp).2.2⟩⟩
      have offI2 : ∀ p ∈ NW ++ TL, p.1 ≠ I2 := fun p hp => (off p hp).2.1
      refine' inner_list (k := zs2.length) (oC := oC) (mC := mC) (ys0 := ys) (nw := (I2, oI2) :: (NW ++ TL)) (oI0 := oI3) (its := zs2.toArray) ?hhA ?hmkA ?hsA ?hgA ?h0sA (fun k ys nw => ∃ TL, nw = (I2, oI2) :: (NW ++ TL) ∧ (∀ p ∈ NW ++ TL, p.1 ≠ I2) ∧ DatAll TL ys ((P0T t i ++ (P1T t x j ++ P2T t x y k)).map tabDat)) _ (fun mC => mC (Str.ofString "a") = some (.int (x : Int) tx) ∧ mC (Str.ofString "b") = some (.int (y : Int) ty)) _ ?hPxA ?hPPA ?hkA ?hxA ?FA ?NA ?hmA ?hoCA ?hPA ?offA ?d1A ?d2A ?d3A ?h0A ?hJA ?turnA ?finA
      (case hhA => rfl)
      (case hmkA => rfl)
      (case hsA => exact ⟨_, _, rfl⟩)
      (case hgA => rfl)
      (case h0sA => (intro g' hg; cases hg))
      (case hPxA => intro mC v h; exact ⟨(if_neg (by decide)).trans h.1, (if_neg (by decide)).trans h.2⟩)
      (case hPPA => exact fun _ h => h.1)
      (case hkA => rfl)
      (case hxA => rfl)
      (case FA => k_asm)
      (case NA => exact N0 trivial)
      (case hmA => exact .tail _ (List.mem_append_left _ mX2))
      (case hoCA => exact hoC)
      (case hPA => exact ⟨hxa, hxb⟩)
      (case offA => exact offN)
      (case d1A => exact ne2.1)
      (case d2A => exact ne2.2.1)
      (case d3A => exact ne.2.2)
      (case h0A => exact ⟨TL, rfl, offI2, by rw [p2_zero, List.append_nil]; exact hys⟩)
      (case hJA => rintro k ys nw ⟨TL, rfl, -⟩; exact .tail _ (List.mem_append_left _ mX2))
      (case finA =>
        intro ys nwx zg164
        refine letGoal ?_
        intro Gz
        obtain ⟨TL, rfl, ho, h⟩ := zg164
        dsimp only [Gz]
        clear Gz
        refine ⟨(I2, oI2) :: (NW ++ TL), fun p hp => hp, NW ++ TL, rfl, ho, TL, rfl, ?_⟩
        rw [p1_step hy]
        have e : zs2.toArray.size = (clsR (onesN t.2.2)).length := by rw [List.size_toArray, hz2.length, List.length_map]
        rw [e] at h
        exact h)
      (case turnA =>
        clear N F N0 off hys hoC hxa hxb offN offI2
        intro q v ys nw I4 oI4 oC mC h tk9 hq hv zg165 hoC hP hxc F N off ne3
        refine letGoal ?_
        intro Gz
        obtain ⟨TL, rfl, ho2, hys⟩ := zg165
        dsimp only [Gz]
        clear Gz
        obtain ⟨hxa, hxb⟩ := hP
        obtain ⟨z, tz, rfl, hz, hz16⟩ := cls_nat hz2 hv
        refine wpAny_tests_one ?_
        have N0 := fun _ : True => N
        rw [hNW] at N
        simp only [List.cons_append, List.nil_append] at N
        k_steps
        · show wpAny _ _ (eval _ _) _ _ _
          k_steps
          rename_i hsum X5 h5 F5 N5 l5
          refine' append_lst ?Fa ?Na ?Ua (like_size hys) ?_
          (case Fa => k_asm)
          (case Na => k_asm)
          (case Ua => exact .tail (neN (Nat.ne_of_gt l5.2.2.1)) (.tail ne3.2.1 (.tail ne.2.2 (.head (List.forall_mem_cons.mpr ⟨ne2.2.1, fun p hp => (off p (by rw [hNW]; exact hp)).2.2.2⟩)))))
          intro h6 F6 N6
          obtain ⟨m1, m2, m3, m4, m5, n1, n2, n3, n4, n5, n6, n7, n8, n9, n10⟩ := l5
          refine LE.intro (nw' := (I3, oI3) :: (I2, oI2) :: (NW ++ (TL ++ [(X5, listOf #[.int x tx, .int y ty, .int z tz] 0)]))) F6 N6 (fun q hq => by have := gL1 hq; rw [hNW] at this; exact this) hoC ⟨hxa, hxb⟩ (List.forall_mem_cons.mpr ⟨⟨Ne.symm ne3.2.2, ne2.1, ne2.2.1⟩, List.forall_mem_cons.mpr ⟨⟨(off _ (.head _)).1, (off _ (.head _)).2.2⟩, gL2 (fun p hp => ⟨(off p (.tail _ hp)).1, (off p (.tail _ hp)).2.2⟩) ⟨neN (Nat.ne_of_gt m1), neN (Nat.ne_of_gt m2), neN (Nat.ne_of_gt m3)⟩⟩⟩)
            ⟨_, rfl, List.forall_mem_cons.mpr ⟨(off _ (.head _)).2.1, gL2 (fun p hp => (off p (.tail _ hp)).2.1) (neN (Nat.ne_of_gt m4))⟩, _, rfl, gL2 ho2 (neN (Nat.ne_of_gt m5)), like_step hz (by (walk_at "my o")) hys⟩
        · rename_i hsum
          refine LE.intro (nw' := (I3, oI3) :: (I2, oI2) :: (NW ++ TL)) (by k_asm) (N0 trivial) (fun q hq => hq) hoC ⟨hxa, hxb⟩ (List.forall_mem_cons.mpr ⟨⟨Ne.symm ne3.2.2, ne2.1, ne2.2.1⟩, fun p hp => ⟨(off p hp).1, (off p hp).2.2⟩⟩)
            ⟨_, rfl, fun p hp => (off p hp).2.1, _, rfl, ho2, by rw [like_skip hz (by (walk_at "my o"))]; exact hys⟩)))
  (case fin8 =>
    intro ys nw zg166
    refine letGoal ?_
    intro Gz
    obtain ⟨TL, rfl, hys⟩ := zg166
    dsimp only [Gz]
    clear Gz
    intro D4 h4 tk4 F4 N4 off4
    refine' fin_part ?Fz ?Nz ?Sz ?Rz
    (case Fz => k_asm)
    (case Nz => k_asm)
    (case Rz => exact ⟨D4, ys, TL, rfl, rfl, by rw [← p0_all, show (clsR (onesN t.1)).length = zs0.toArray.size by rw [List.size_toArray, hz0.length, List.length_map]]; exact hys⟩)
    (case Sz =>
      intro q hq
      rcases List.mem_cons.mp hq with rfl | hq
      · exact .head _
      rcases List.mem_cons.mp hq with rfl | hq
      · exact .tail _ (List.mem_append_left _ (by rw [hNW]; exact .tail _ (.tail _ (.tail _ (.tail _ (.tail _ (.tail _ (.tail _ (.tail _ (.head _))))))))))
      · exact .tail _ (List.mem_append_right _ hq)))
end W2LIKE3
end
end
section
local macro_rules | `(tactic| walk_at "eval ListComp") => `(tactic| (k_here; k_dflt (refine eval_comp (by with_unfolding_all rfl) (by rfl) (by decide) ?_)))
local macro_rules | `(tactic| walk_at "exec Assign cons ListComp") => `(tactic| (k_here; k_dflt (refine assign_comp (by with_unfolding_all rfl) (by with_unfolding_all rfl) (by rfl) (by decide) ?_)))
local macro_rules | `(tactic| walk_at "pyIter ref") => `(tactic| ((with_reducible show wpAny _ _ (pyIter (.ref _)) (CompTail _ _ _ _ _ _ _ _ _ _ _ _ _ _) _ _); refine stopI ?_))
local macro_rules | `(tactic| k_all) => `(tactic| first | exact List.forall_mem_nil _ | (refine' List.forall_mem_cons.mpr ⟨(by k_ne), (by k_all)⟩) | exact TailIn.ne (by assumption) (by walk_at "my o"))
local macro_rules | `(tactic| k_mem) => `(tactic| first | exact List.Mem.head _ | (refine' List.Mem.tail _ ?_; k_mem) | assumption)
section
local macro_rules | `(tactic| walk_at "my look") => `(tactic| first | rfl | assumption | (dsimp only; (repeat rw [if_neg (by decide)]); first | rfl | assumption) | with_unfolding_all assumption)
local macro_rules | `(tactic| walk_at "eval Name") => `(tactic| (k_here; k_dflt (refine' nameX_L (by k_asm) (by walk_at "my look") ?_; k_whole)))
local macro_rules | `(tactic| walk_at "loadName") => `(tactic| (k_here; k_dflt (refine' wpAny_loadName_local (by rfl) (by rfl) (Fr.ns (by k_asm)) (by walk_at "my look") ?_; k_whole)))
section
section W2LIKE4
local macro_rules | `(tactic| walk_at "call ref") => `(tactic| (with_reducible refine haltC 265 ?_))
local macro_rules | `(tactic| walk_at "subscriptTail Name Constant ref int") => `(tactic| (k_here; (with_reducible show wpAny _ _ (subscriptTail _ _ (.ref _) (.int _ _)) _ _ _); k_dflt ((first | refine' item_t0 _ _ (by decide) ?N ?m ?s ?g ?_ | refine' item_t1 _ _ (by decide) ?N ?m ?s ?g ?_ | refine' item_t2 _ _ (by decide) ?N ?m ?s ?g ?_); (case N => k_asm); (case m => k_mem); (case s => with_unfolding_all rfl); (case g => (intro _; with_unfolding_all rfl)); k_whole)))
local macro_rules | `(tactic| walk_at "subscriptTail Name Subscript ref int") => `(tactic| (k_here; (with_reducible show wpAny _ _ (subscriptTail _ _ (.ref _) (.int (Nat.cast _) _)) _ _ _); k_dflt (refine' item_f _ _ sumsN (by k_asm) (by k_mem) (by assumption) rfl (by assumption) (by with_unfolding_all rfl) (by (intro _; with_unfolding_all rfl)) ?_; k_whole); intro _))
local macro_rules | `(tactic| walk_at "subscriptTail Name Name ref int") => `(tactic| (k_here; (with_reducible show wpAny _ _ (subscriptTail _ _ (.ref _) (.int (Nat.cast _) _)) _ _ _); k_dflt (refine' item_f _ _ onesN (by k_asm) (by k_mem) (by assumption) rfl (by assumption) (by with_unfolding_all rfl) (by (intro _; with_unfolding_all rfl)) ?_; k_whole); intro _))
local macro_rules | `(tactic| walk_at "execs cons") => `(tactic| (with_reducible refine haltN 1 (by with_unfolding_all rfl) ?_))
theorem gK1 {q d : Addr × Obj} {A NB RL : Led} (h : q ∈ A ++ (NB ++ (RL ++ [d]))) : q ∈ d :: (A ++ (NB ++ RL)) := memLast h
theorem ones_step {ys : List Value} {i k : Nat} {t : Tok} (h : IntsAre ys (((List.range i).filter fun q => onesN q == k).map Int.ofNat)) (e : onesN i = k) : IntsAre (ys ++ [.int (i : Int) t]) (((List.range (i + 1)).filter fun q => onesN q == k).map Int.ofNat) := by
  rw [List.range_succ, List.filter_append, List.map_append]
  have : List.filter (fun q => onesN q == k) [i] = [i] := by simp [e]
  rw [this]
  exact IntsAre.append h (.cons _ _ .nil)
theorem ones_skip {i k : Nat} (e : ¬ onesN i = k) : (List.range (i + 1)).filter (fun q => onesN q == k) = (List.range i).filter fun q => onesN q == k := by
  rw [List.range_succ, List.filter_append]
  have : List.filter (fun q => onesN q == k) [i] = [] := by simp [e]
  rw [this, List.append_nil]
noncomputable def xsL (Xs : List (Addr × List Value)) : Led := Xs.map fun x => (x.1, LCg.lst x.2)
theorem like4_ok (l : Addr) (a b c n : Nat) (ta tb tc : Tok) (ha : a < 16) (hb : b < 16) (hc : c < 16) (D1 D2 : Addr) (ys1 ys2 : List Value) (o1 o2 o3 o4 : Obj) (td : Tok) (c4 : Option Value)
    (hy1 : IntsAre ys1 (((List.range 16).map onesN).map Int.ofNat)) (hy2 : IntsAre ys2 (((List.range 16).map sumsN).map Int.ofNat))
    {dp un : Nat} {gd : Option (List Code)} {outer : List Env} {A₀ : Around} {base g : Heap} {s : Shared} {L' : Addr} (hd : dp + 6 < recursionLimit) (hu : un + 16 * 6 < cLine) (B : Below A₀ base outer g) (X : (hd2.heap_1 w.params).In g) (T : Top p loose mean mg mb g)
    (m : Str → Option Value) (h : Heap) (tk : Nat) (F : Fr g L' h m) (hrows : m (Str.ofString "rows") = some (.ref l))
    (N : News g L' h [(D2, LCg.lst ys2), (D1, LCg.lst ys1), (L' + 1 + 1 + 1 + 1, o4), (L' + 1 + 1 + 1, o3), (L' + 1 + 1, o2), (L' + 1, o1), (l, listOf #[.int a ta, .int b tb, .int c tc] n)])
    (d1 : o1.data = .cell (some (.ref D1))) (d2 : o2.data = .cell (some (.ref D2))) (d3 : o3.data = .cell (some (.int ((totT (a, b, c) : Nat) : Int) td))) (d4 : o4.data = .cell c4) (ll : @LT.lt Nat _ l L') (e1 : @Ne Nat (L' + 1 + 1 + 1 + 1) D1) (e2 : @Ne Nat (L' + 1 + 1 + 1 + 1) D2) :
    wpAny (model prog w) (Around.deeper { handled := none, depth := dp, frames := some outer, guards := gd, units := un } (envOfC (Str.ofString "_law_like") (scopeOf (lawFn2 18)) L' 270 (Value.ref 269))) (execs ((bodyOfF (lawFn2 18)).drop 3) (envOfC (Str.ofString "_law_like") (scopeOf (lawFn2 18)) L' 270 (Value.ref 269)))
      (fun fl s' => Fin g s (fun v nw' => Ex3 fun D us TL => And3 (v = .ref D) (nw' = (D, LCg.lst us) :: (l, listOf #[.int a ta, .int b tb, .int c tc] n) :: TL) (DatAll TL us ((likeT (a, b, c)).map tabDat))) (match fl with | .ret v => v | _ => .none) s') (fun _ _ => False) { s with heap := h, toks := tk } := by
  conv in (occs := *) scopeOf _ => all_goals whnf
  conv in execs (List.drop _ _) _ => arg 1; whnf
  refine letPost ?_
  intro K0
  k_steps
  show wpAny _ _ _ _ _ _
  obtain ⟨NB, hNB⟩ : ∃ NB : Led, NB = [(D2, LCg.lst ys2), (D1, LCg.lst ys1), (L' + 1 + 1 + 1 + 1, o4), (L' + 1 + 1 + 1, o3), (L' + 1 + 1, o2), (L' + 1, o1), (l, listOf #[.int a ta, .int b tb, .int c tc] n)] := ⟨_, rfl⟩
  have ml : (l, listOf #[.int a ta, .int b tb, .int c tc] n) ∈ NB := by rw [hNB]; exact .tail _ (.tail _ (.tail _ (.tail _ (.tail _ (.tail _ (.head _))))))
  rw [← hNB] at N
  refine' comp_list_cell (nw := NB ++ xsL []) (its := #[.int a ta, .int b tb, .int c tc]) (k := n) ?hh (fun i ys nw => ∃ Xs : List (Addr × List Value), Xs.length = i ∧ nw = NB ++ xsL Xs ∧ ys = Xs.map (fun x => Value.ref x.1) ∧ (∀ (j : Nat) (x : Addr × List Value), Xs[j]? = some x → IntsAre x.2 ((clsR (onesN ([a, b, c].getD j 0))).map Int.ofNat)) ∧ ∀ x ∈ Xs, ∀ p ∈ NB, p.1 ≠ x.1) ?F ?N ?hm ?hsz ?hnew ?hk ?hxk ?h0 ?hJ ?turn ?fin
  (case hh => rfl)
  (case F => k_asm)
  (case N => (show News g _ _ (NB ++ [])); rw [List.append_nil]; k_asm)
  (case hm => exact List.mem_append_left _ ml)
  (case hsz => (rw [sizeLine_eq]; (show 3 ≤ 16777216); decide))
  (case hnew => with_unfolding_all rfl)
  (case hk => rfl)
  (case hxk => intro _ _; rfl)
  (case h0 => exact ⟨[], rfl, rfl, rfl, fun j x hx => by simp at hx, fun x hx => nomatch hx⟩)
  (case hJ => rintro i ys nw ⟨Xs, -, rfl, -⟩; exact List.mem_append_left _ ml)
  (case turn =>
    clear F N
    intro i v ys nw I oI C oC mC D Xc oX h tk hi hvi zg222 hoC hoX F N off ne
    refine letGoal ?_
    intro Gz
    obtain ⟨Xs, hXl, rfl, rfl, hXs, hXa⟩ := zg222
    dsimp only [Gz]
    clear Gz
    obtain ⟨r, tr, rfl, hr, hri⟩ : Ex2 fun (r : Nat) (tr : Tok) => And3 (v = .int (r : Int) tr) (r < 16) ([a, b, c].getD i 0 = r) := by
      have : i = 0 ∨ i = 1 ∨ i = 2 := by
        have := (Array.getElem?_eq_some_iff.mp hvi).1
        simp only [List.size_toArray, List.length_cons, List.length_nil] at this
        (walk_at "my o")
      rcases this with rfl | rfl | rfl <;> cases hvi
      · exact ⟨a, _, rfl, ha, rfl⟩
      · exact ⟨b, _, rfl, hb, rfl⟩
      · exact ⟨c, _, rfl, hc, rfl⟩
    refine CTurn.nil ?_
    refine letPost ?_
    intro K3
    have N0 := fun _ : True => N
    rw [hNB] at N
    simp only [List.cons_append, List.nil_append] at N
    k_steps
    show wpAny _ _ _ _ _ _
    refine' comp_range_keep (n := 16) ?hh2 (fun q zs => IntsAre zs (((List.range q).filter fun q => onesN q == onesN r).map Int.ofNat)) ?F2 ?N2 ?hr2 ?hsm2 ?hn2 ?hsz2 ?c12 ?c22 ?c32 ?h02 ?turn2 ?fin2
    (case hh2 => rfl)
    (case F2 => k_asm)
    (case N2 => k_asm)
    (case hr2 => assumption)
    (case hsm2 => decide)
    (case hn2 => rfl)
    (case hsz2 => (rw [sizeLine_eq]; decide))
    (case c12 => decide)
    (case c22 => rfl)
    (case c32 => rfl)
    (case h02 => exact .nil)
    (case turn2 =>
      clear N0 off
      (repeat (rename Fr _ _ _ _ => hZ; clear hZ))
      (repeat (rename News _ _ _ _ => hZ; clear hZ))
      rintro q t ys I5 oI5 C5 oC5 mC5 D5 h tk hq hys hoC5 hx5 F N off ne5
      rw [show (0 : Int) + (q : Int) * 1 = (q : Int) by (walk_at "my o")] at *
      refine CTurn.one ?_
      k_steps
      · rename_i heq
        (try dsimp +zetaDelta only)
        (refine' CE.intro (by k_asm) (by k_asm) _ ?subq69 (by assumption) ?Jq69; (case subq69 => first | exact fun _ h => h | exact fun _ h => .tail _ h | exact fun _ h => .tail _ (.tail _ h) | exact fun _ h => .tail _ (.tail _ (.tail _ h)) | exact fun _ h => .tail _ (.tail _ (.tail _ (.tail _ h))) | exact fun _ h => .tail _ (.tail _ (.tail _ (.tail _ (.tail _ h))))); refine KEnd.intro ?_)
        exact ones_step hys (by (walk_at "my o"))
      · rename_i heq
        (try dsimp +zetaDelta only)
        (refine' CE.intro (by k_asm) (by k_asm) _ ?subq70 (by assumption) ?Jq70; (case subq70 => first | exact fun _ h => h | exact fun _ h => .tail _ h | exact fun _ h => .tail _ (.tail _ h) | exact fun _ h => .tail _ (.tail _ (.tail _ h)) | exact fun _ h => .tail _ (.tail _ (.tail _ (.tail _ h))) | exact fun _ h => .tail _ (.tail _ (.tail _ (.tail _ (.tail _ h))))); refine KEnd.intro ?_)
        rw [ones_skip (by (walk_at "my o"))]
        exact hys)
    (case fin2 =>
      clear N0
      (repeat (rename Fr _ _ _ _ => hZ; clear hZ))
      (repeat (rename News _ _ _ _ => hZ; clear hZ))
      rintro zs hzs
      intro D5 h tk F N off5
      have hzs : IntsAre zs ((clsR (onesN r)).map Int.ofNat) := hzs
      (try dsimp +zetaDelta only)
      refine' CE.intro ?Fc ?Nc (NB ++ (xsL Xs ++ [(D5, LCg.lst zs)])) ?sc ?oc ⟨Xs ++ [(D5, zs)], by simp [hXl], ?ja, ?jb, ?jc, ?jd⟩
      (case Fc => exact F)
      (case Nc => exact N)
      (case sc => exact fun q hq => by have := gK1 (A := [(I, oI), (C, oC), (D, LCg.lst (Xs.map fun x => Value.ref x.1)), (Xc, oX)]) hq; rw [hNB] at this; exact this)
      (case ja => (unfold xsL; rw [List.map_append]; rfl))
      (case jb => (rw [List.map_append]; rfl))
      (case oc =>
        intro p hp q hq
        rw [← List.append_assoc] at hp
        rcases List.mem_append.mp hp with hp | hp
        · exact off p hp q hq
        · rw [List.mem_singleton.mp hp]
          exact Ne.symm (off5 q (List.mem_append_left (as := [(I, oI), (C, oC), (D, LCg.lst (Xs.map fun x => Value.ref x.1)), (Xc, oX)]) _ hq)))
      (case jc =>
        intro j x hx
        by_cases hj : j < Xs.length
        · rw [List.getElem?_append_left hj] at hx
          exact hXs j x hx
        · rw [List.getElem?_append_right (by (walk_at "my o"))] at hx
          have hj0 : j - Xs.length = 0 := by
            have := (List.getElem?_eq_some_iff.mp hx).1
            simp only [List.length_singleton] at this
            (walk_at "my o")
          rw [hj0] at hx
          cases hx
          have : j = i := by (walk_at "my o")
          rw [this, hri]
          exact hzs)
      (case jd =>
        intro x hx p hp
        rcases List.mem_append.mp hx with hx | hx
        · exact hXa x hx p hp
        · rw [List.mem_singleton.mp hx]
          exact off5 p (by rw [hNB] at hp; exact List.mem_append_right [(I, oI), (C, oC), (D, LCg.lst (Xs.map fun x => Value.ref x.1)), (Xc, oX)] (List.mem_append_left (xsL Xs) hp)))))
  (case fin =>
    clear F N
    intro ys nw zg223
    refine letGoal ?_
    intro Gz
    obtain ⟨Xs, hXl, rfl, rfl, hXs, hXa⟩ := zg223
    dsimp only [Gz]
    clear Gz
    obtain ⟨⟨X0, zs0⟩, ⟨X1, zs1⟩, ⟨X2, zs2⟩, rfl⟩ : Ex3 fun x0 x1 x2 => Xs = [x0, x1, x2] := by
      match Xs, hXl with
      | [x0, x1, x2], _ => exact ⟨x0, x1, x2, rfl⟩
    have hz0 : IntsAre zs0 ((clsR (onesN a)).map Int.ofNat) := hXs 0 _ rfl
    have hz1 : IntsAre zs1 ((clsR (onesN b)).map Int.ofNat) := hXs 1 _ rfl
    have hz2 : IntsAre zs2 ((clsR (onesN c)).map Int.ofNat) := hXs 2 _ rfl
    have m4 : (L' + 1 + 1 + 1 + 1, o4) ∈ NB := by rw [hNB]; exact .tail _ (.tail _ (.head _))
    have x0 : @Ne Nat (L' + 1 + 1 + 1 + 1) X0 := hXa _ (.head _) _ m4
    have x1 : @Ne Nat (L' + 1 + 1 + 1 + 1) X1 := hXa _ (.tail _ (.head _)) _ m4
    have x2 : @Ne Nat (L' + 1 + 1 + 1 + 1) X2 := hXa _ (.tail _ (.tail _ (.head _))) _ m4
    intro K h tk F N off
    have xk : @Ne Nat (L' + 1 + 1 + 1 + 1) K := off _ (List.mem_append_left _ m4)
    clear off hXa hXs hXl
    rw [hNB] at N
    simp only [xsL, List.map_cons, List.map_nil, List.cons_append, List.nil_append] at N
    k_steps
    show wpAny _ _ _ _ _ _
    have N9 := ‹News g L' _ ((K, _) :: _)›
    refine' like3_ok prog w p loose mean mg mb (a, b, c) ⟨ha, hb, hc⟩ l (listOf #[.int a ta, .int b tb, .int c tc] n) X0 X1 X2 K D2 zs0 zs1 zs2 ys2 _ o2 o3 _ td hz0 hz1 hz2 hy2 hd hu B X T m _ _ ?Fe (fm9 (N9 _ ?me1) (N9 _ ?me2) (N9 _ ?me3) (N9 _ ?me4) (N9 _ ?me5) (N9 _ ?me6) (N9 _ ?me7) (N9 _ ?me8) (N9 _ ?me9)) d2 d3 ?de
    (case Fe => k_asm)
    (case de => assumption)
    (case me1 => k_mem)
    (case me2 => k_mem)
    (case me3 => k_mem)
    (case me4 => k_mem)
    (case me5 => k_mem)
    (case me6 => k_mem)
    (case me7 => k_mem)
    (case me8 => k_mem)
    (case me9 => k_mem))
end W2LIKE4
end
section
section W2LIKE
local macro_rules | `(tactic| walk_at "call ref") => `(tactic| (with_reducible refine haltC 265 ?_))
local macro_rules | `(tactic| walk_at "subscriptTail Name Constant ref int") => `(tactic| (k_here; (with_reducible show wpAny _ _ (subscriptTail _ _ (.ref _) (.int _ _)) _ _ _); k_dflt ((first | refine' item_t0 _ _ (by decide) ?N ?m ?s ?g ?_ | refine' item_t1 _ _ (by decide) ?N ?m ?s ?g ?_ | refine' item_t2 _ _ (by decide) ?N ?m ?s ?g ?_); (case N => k_asm); (case m => k_mem); (case s => with_unfolding_all rfl); (case g => (intro _; with_unfolding_all rfl)); k_whole)))
local macro_rules | `(tactic| walk_at "subscriptTail Name Subscript ref int") => `(tactic| (k_here; (with_reducible show wpAny _ _ (subscriptTail _ _ (.ref _) (.int (Nat.cast _) _)) _ _ _); k_dflt (refine' item_f _ _ sumsN (by k_asm) (by k_mem) (by assumption) rfl (by assumption) (by with_unfolding_all rfl) (by (intro _; with_unfolding_all rfl)) ?_; k_whole); intro _))
local macro_rules | `(tactic| walk_at "subscriptTail Name Name ref int") => `(tactic| (k_here; (with_reducible show wpAny _ _ (subscriptTail _ _ (.ref _) (.int (Nat.cast _) _)) _ _ _); k_dflt (refine' item_f _ _ onesN (by k_asm) (by k_mem) (by assumption) rfl (by assumption) (by with_unfolding_all rfl) (by (intro _; with_unfolding_all rfl)) ?_; k_whole); intro _))
local macro_rules | `(tactic| walk_at "execs cons") => `(tactic| (with_reducible refine haltN 2 (by with_unfolding_all rfl) ?_))
local macro_rules | `(tactic| walk_at "zz") => `(tactic| skip)
theorem like2_ok (l : Addr) (a b c n : Nat) (ta tb tc : Tok) (ha : a < 16) (hb : b < 16) (hc : c < 16) :
   Con prog w (hd2.heap_1 w.params) p loose mean mg mb 6 (.ref 270) ⟨[.ref l], []⟩ (fun _ => True) [(l, listOf #[.int a ta, .int b tb, .int c tc] n)]
     (fun v nw' => Ex3 fun D us TL => And3 (v = .ref D) (nw' = (D, LCg.lst us) :: (l, listOf #[.int a ta, .int b tb, .int c tc] n) :: TL) (DatAll TL us ((likeT (a, b, c)).map tabDat))) := by
  intro dp un gd outer A₀ base g s B O X T hpre hd hu
  k_dflt ((first | (refine' enterK (by k_asm) (by k_asm) (by k_asm) (by k_is) (by k_is) (by first | walk_at "my r" | lia) (by first | exact BindsTo.of_eq rfl | exact binds_K (Frag.In.keeps (by assumption) (Out.keep (by assumption))) rfl (by k_is) rfl rfl rfl | fail "enter: arguments") ?kBq63 (by decide) (by rfl) (by rfl) (by rfl) ?_; (case kBq63 => exact locs rfl); k_whole; intro Lq hq Fq Nq l1q; (try k_lt l1q); (try dsimp only); (try k_fold)) | walk_at "my enterC"))
  refine letPost ?_
  intro K1
  k_steps
  show wpAny _ _ _ _ _ _
  refine' comp_range_keep (n := 16) ?hh (fun i ys => IntsAre ys (((List.range i).map onesN).map Int.ofNat)) ?F ?N ?hr ?hsm ?hn ?hsz ?c1 ?c2 ?c3 ?h0 ?turn ?fin
  (case hh => rfl)
  (case F => k_asm)
  (case N => k_asm)
  (case hr => assumption)
  (case hsm => decide)
  (case hn => rfl)
  (case hsz => (rw [sizeLine_eq]; decide))
  (case c1 => decide)
  (case c2 => rfl)
  (case c3 => rfl)
  (case h0 => exact .nil)
  (case turn =>
    rintro i t ys I oI C oC mC D h tk hi hys hoC hxx F N off ne
    rw [show (0 : Int) + (i : Int) * 1 = (i : Int) by (walk_at "my o")] at *
    refine CTurn.nil ?_
    refine letPost ?_
    intro K3
    have NN := N
    k_steps
    show wpAny _ _ _ _ _ _
    (k_dflt (refine' Con.use (ones2_ok prog w p loose mean mg mb i t hi) _ ?zB25 ?zF25 ?zX25 NN ?zT25 ?zA25 ?zf25 ?zk25 ?zd25 ?zu25 (fun q hq => nomatch hq) (fun r hr => ⟨hr, fun q hq => nomatch hq⟩) ?zpre25 ?_); (case zB25 => k_asm); (case zF25 => k_asm); (case zX25 => k_asm); (case zT25 => k_asm); (case zA25 => exact rfl); (case zf25 => exact rfl); (case zk25 => exact rfl); (case zd25 => k_room); (case zu25 => k_units); (case zpre25 => first | exact trivial | skip))
    intro v h' tk' nw' F' N' zg210 zg211
    refine letGoal ?_
    intro Gz
    obtain ⟨⟨t1, rfl⟩, rfl⟩ := zg210
    clear zg211
    dsimp only [Gz]
    clear Gz
    dsimp only [List.nil_append] at N'
    k_steps
    (try dsimp +zetaDelta only)
    (refine' CE.intro (by k_asm) (by k_asm) _ ?subq64 (by assumption) ?Jq64; (case subq64 => first | exact fun _ h => h | exact fun _ h => .tail _ h | exact fun _ h => .tail _ (.tail _ h) | exact fun _ h => .tail _ (.tail _ (.tail _ h)) | exact fun _ h => .tail _ (.tail _ (.tail _ (.tail _ h))) | exact fun _ h => .tail _ (.tail _ (.tail _ (.tail _ (.tail _ h))))); refine KEnd.intro ?_)
    exact ints_range hys rfl)
  (case fin =>
    rintro ys1 hy1
    intro D1 h tk F N off
    obtain ⟨z1, z2, z3, z4, z5⟩ := off5 off
    dsimp only at z1 z2 z3 z4 z5
    (repeat (rename IsRange _ _ _ _ _ _ _ _ => hZ; clear hZ))
    k_steps
    show wpAny _ _ _ _ _ _
    clear off
    refine' comp_range_keep (n := 16) ?hh2 (fun i ys => IntsAre ys (((List.range i).map sumsN).map Int.ofNat)) ?F2 ?N2 ?hr2 ?hsm2 ?hn2 ?hsz2 ?c12 ?c22 ?c32 ?h02 ?turn2 ?fin2
    (case hh2 => rfl)
    (case F2 => k_asm)
    (case N2 => k_asm)
    (case hr2 => assumption)
    (case hsm2 => decide)
    (case hn2 => rfl)
    (case hsz2 => (rw [sizeLine_eq]; decide))
    (case c12 => decide)
    (case c22 => rfl)
    (case c32 => rfl)
    (case h02 => exact .nil)
    (case turn2 =>
      rintro i t ys I oI C oC mC D h tk hi hys hoC hxx F N off ne
      rw [show (0 : Int) + (i : Int) * 1 = (i : Int) by (walk_at "my o")] at *
      refine CTurn.nil ?_
      refine letPost ?_
      intro K3
      k_steps
      (try dsimp +zetaDelta only)
      (refine' CE.intro (by k_asm) (by k_asm) _ ?subq65 (by assumption) ?Jq65; (case subq65 => first | exact fun _ h => h | exact fun _ h => .tail _ h | exact fun _ h => .tail _ (.tail _ h) | exact fun _ h => .tail _ (.tail _ (.tail _ h)) | exact fun _ h => .tail _ (.tail _ (.tail _ (.tail _ h))) | exact fun _ h => .tail _ (.tail _ (.tail _ (.tail _ (.tail _ h))))); refine KEnd.intro ?_)
      exact ints_range hys (sums_fact ⟨i, hi⟩))
    (case fin2 =>
      (repeat (rename Fr _ _ _ _ => hZ; clear hZ))
      (repeat (rename News _ _ _ _ => hZ; clear hZ))
      (repeat (rename IsRange _ _ _ _ _ _ _ _ => hZ; clear hZ))
      rintro ys2 hy2
      intro D2 h tk F N off
      have z0 : @Ne Nat D1 D2 := off _ (.head _)
      obtain ⟨y1, y2, y3, y4, y5⟩ := off5 (fun p hp => off p (.tail _ hp))
      dsimp only at y1 y2 y3 y4 y5
      clear off
      k_steps
      show wpAny _ _ _ _ _ _
      refine' like4_ok prog w p loose mean mg mb l a b c n ta tb tc ha hb hc D1 D2 ys1 ys2 _ _ _ _ _ _ hy1 hy2 hd hu B X T _ _ _ ?Fe ?re ?Ne ?d1 ?d2 ?d3 ?d4 ?ll z1 y1
      (case Fe => k_asm)
      (case re => rfl)
      (case Ne => k_asm)
      (case d1 => assumption)
      (case d2 => assumption)
      (case d3 => assumption)
      (case d4 => assumption)
      (case ll => assumption)))
end W2LIKE
end
section
section W2DUE
theorem sum_is {A : Around} {E : Value → Shared → Prop} {s : Shared} {g : Heap} {L l : Addr} {m : Str → Option Value} {nw : Led} {ys : List Value} {ms : List Int} {Q : Value → Shared → Prop} (F : Fr g L s.heap m) (N : News g L s.heap nw) (hm : (l, LCg.lst ys) ∈ nw) (hi : IntsAre ys ms) (hh : A.handled = none)
    (h : ∀ h' tk t', Fr g L h' m → News g L h' nw → Q (.int ms.sum t') { s with heap := h', toks := tk }) : wpAny (model prog w) A (call (.builtin "sum") [.ref l]) Q E s :=
  PyProof.Rows.LSm.sum_ints F N hh ⟨_, (N _ hm).1, rfl, _, rfl⟩ hi fun h' tk t' F' N' => h h' tk t' F' N'
theorem News.keepBack {g h h' : Heap} {L X : Addr} {o : Obj} {all : Led} (N : News g L h all) (hx : (X, o) ∈ all) (N' : News g L h' ([(X, o)] ++ all.filter fun r => decide (r.1 ≠ X))) : News g L h' all := by
  intro q hq
  by_cases e : q.1 = X
  · have h1 := (N q hq).1
    have h2 := (N _ hx).1
    rw [e] at h1
    rw [h1] at h2
    have : q = (X, o) := Prod.ext e (Option.some.inj h2)
    rw [this]
    exact N' _ (.head _)
  · exact N' q (List.mem_append_right _ (List.mem_filter.mpr ⟨hq, decide_eq_true e⟩))
theorem keep_sub {X : Addr} {o : Obj} {all : Led} (hx : (X, o) ∈ all) : ∀ q ∈ [(X, o)], q ∈ all := fun q hq => by rw [List.mem_singleton.mp hq]; exact hx
theorem keep_rest {X : Addr} {o : Obj} {all : Led} : ∀ r ∈ all.filter (fun r => decide (r.1 ≠ X)), r ∈ all ∧ ∀ q ∈ [(X, o)], r.1 ≠ q.1 := fun r hr => by
  obtain ⟨h1, h2⟩ := List.mem_filter.mp hr
  exact ⟨h1, fun q hq => by rw [List.mem_singleton.mp hq]; exact of_decide_eq_true h2⟩
theorem tab_in {nw : Led} {v : Value} {t : Tab} (h : DatIn nw v (tabDat t)) : Ex5 fun X t1 t2 t3 n => v = .ref X ∧ (X, listOf #[.int t.1 t1, .int t.2.1 t2, .int t.2.2 t3] n) ∈ nw := by
  cases h with
  | list hm r =>
    cases r with
    | cons h1 r =>
    cases r with
    | cons h2 r =>
    cases r with
    | cons h3 r =>
    cases r
    cases h1
    cases h2
    cases h3
    exact ⟨_, _, _, _, _, rfl, hm⟩
theorem like_tok {t u : Tab} (h : u ∈ likeT t) : TOK u := (mem_likeT.mp h).ok
theorem pair_add {Z : Led} {ds : List Value} {ks : List (Str × Str)} {T : Addr} {k : Str × Str} {t1 t2 : Tok} (h : DatAll Z ds (ks.map pairDat)) : DatAll (Z ++ [(T, tupObj #[.str k.1 t1, .str k.2 t2])]) (ds ++ [.ref T]) ((ks ++ [k]).map pairDat) := by
  rw [List.map_append]
  exact dat_append (h.mono fun p hp => List.mem_append_left _ hp) (.cons (.tuple (vs := [.str k.1 t1, .str k.2 t2]) (List.mem_append_right _ (.head _)) (.cons (.str _ _) (.cons (.str _ _) .nil))) .nil)
theorem gD1 {q d w l : Addr × Obj} {T : Led} (h : q ∈ d :: w :: l :: T) : q ∈ (d :: l :: T) ++ [w] := memUnder (H := [d]) (fun h => memComm (P := [w]) h) h
theorem gD2 {q i d w l x x2 y : Addr × Obj} {Z : Led} (h : q ∈ i :: d :: w :: l :: (Z ++ [y])) : q ∈ y :: x2 :: x :: i :: d :: w :: l :: Z := memIns (P := [y]) (H := [x2, x]) (memComm (P := i :: d :: w :: l :: Z) h)
theorem dd_str {t u : Tab} (h : (unlT t u : Int) = 0) : dotS (DD t u) = Str.ofString "" := by
  have : DD t u = 0 := by unfold DD; rw [if_pos (by (walk_at "my o"))]
  rw [this]; rfl
theorem dd_str1 {t u : Tab} (h : ¬ (unlT t u : Int) = 0) (h4 : (unlT t u : Int) = 4) : dotS (DD t u) = Str.ofString "." := by
  have : DD t u = 1 := by unfold DD; rw [if_neg (by (walk_at "my o")), if_pos (by (walk_at "my o"))]
  rw [this]; rfl
theorem dd_str2 {t u : Tab} (h : ¬ (unlT t u : Int) = 0) (h4 : ¬ (unlT t u : Int) = 4) : dotS (DD t u) = Str.ofString ".." := by
  have : DD t u = 2 := by unfold DD; rw [if_neg (by (walk_at "my o")), if_neg (by (walk_at "my o"))]
  rw [this]; rfl
local macro_rules | `(tactic| walk_at "call type:zip") => `(tactic| (refine stopI ?_))
local macro_rules | `(tactic| walk_at "call builtin:sum") => `(tactic| (refine stopI ?_))
local macro_rules | `(tactic| walk_at "call builtin:list.append") => `(tactic| (refine stopI ?_))
local macro_rules | `(tactic| walk_at "eval IfExp") => `(tactic| ((fail_if_success (with_reducible show wpAny _ _ _ (StrEnd _ _) _ _)); refine stopI ?_))
local macro_rules | `(tactic| walk_at "exec For Name Call cons nil") => `(tactic| (k_here; k_dflt (refine for_stmt (by intro _; rfl) ?_)))
local macro_rules | `(tactic| walk_at "pyIter ref") => `(tactic| ((with_reducible show wpAny _ _ (pyIter (.ref _)) (fun it s2 => codeAny _ _ (.forLoop _ it _ _ _) _ s2) _ _); refine stopI ?_))
local macro_rules | `(tactic| walk_at "call ref") => `(tactic| first
  | (with_reducible refine haltC 265 ?_)
  | (with_reducible refine haltC 241 ?_)
  | (with_reducible refine haltC 270 ?_))
theorem due_start {g h : Heap} {L DL l W : Addr} {o1 ol oW : Obj} {TL : Led} (N : News g L h (((DL, o1) :: (l, ol) :: TL) ++ [(W, oW)])) (hap : ∀ q ∈ (DL, o1) :: (l, ol) :: TL, ∀ r ∈ [(W, oW)], q.1 ≠ r.1) :
    ∃ W', W' = W ∧ News g L h ((DL, o1) :: (W', oW) :: (l, ol) :: TL) ∧ (@Ne Nat DL W') ∧ (@Ne Nat l W') ∧ ∀ p ∈ TL, p.1 ≠ W' :=
  ⟨W, rfl, fun q hq => N q (gD1 hq), hap _ (.head _) _ (.head _), hap _ (.tail _ (.head _)) _ (.head _), fun p hp => hap p (.tail _ (.tail _ hp)) _ (.head _)⟩
theorem due2_ok (l : Addr) (a b c n : Nat) (ta tb tc : Tok) (ha : a < 16) (hb : b < 16) (hc : c < 16) :
   Con prog w (hd2.heap_1 w.params) p loose mean mg mb 8 (.ref 275) ⟨[.ref l], []⟩ (fun _ => True) [(l, listOf #[.int a ta, .int b tb, .int c tc] n)]
     (fun v nw' => Ex3 fun D ds Z => And3 (v = .ref D) (nw' = (D, LCg.lst ds) :: Z) (DatAll Z ds (((likeT (a, b, c)).map (pairOf (a, b, c))).map pairDat))) := by
  intro dp un gd outer A₀ base g s B O X T hpre hd hu
  k_dflt ((first | (refine' enterK (by k_asm) (by k_asm) (by k_asm) (by k_is) (by k_is) (by first | walk_at "my r" | lia) (by first | exact BindsTo.of_eq rfl | exact binds_K (Frag.In.keeps (by assumption) (Out.keep (by assumption))) rfl (by k_is) rfl rfl rfl | fail "enter: arguments") ?kBq53 (by decide) (by rfl) (by rfl) (by rfl) ?_; (case kBq53 => exact locs rfl); k_whole; intro Lq hq Fq Nq l1q; (try k_lt l1q); (try dsimp only); (try k_fold)) | walk_at "my enterC"))
  refine letPost ?_
  intro K1
  k_steps
  show wpAny _ _ _ _ _ _
  (k_dflt (refine' Con.useS (like2_ok prog w p loose mean mg mb l a b c n ta tb tc ha hb hc) ?zB26 ?zF26 ?zX26 ?zN26 ?zT26 ?zA26 ?zf26 ?zk26 ?zd26 ?zu26 ?zS26 ?zpre26 ?_); (case zB26 => k_asm); (case zF26 => k_asm); (case zX26 => k_asm); (case zN26 => k_asm); (case zT26 => k_asm); (case zA26 => exact rfl); (case zf26 => exact rfl); (case zk26 => exact rfl); (case zd26 => k_room); (case zu26 => k_units); (case zS26 => walk_at "my split"); (case zpre26 => first | exact trivial | skip))
  intro v h' tk' nw' F' N' zg167 zg168
  refine letGoal ?_
  intro Gz
  obtain ⟨DL, us, TL, rfl, rfl, hus⟩ := zg167
  obtain ⟨-, hap⟩ := zg168
  dsimp only [Gz]
  clear Gz
  obtain ⟨W, rfl, N0, hDW, hlW, hTW⟩ := due_start N' hap
  clear hap N'
  refine' for_list_name (Q := ?Q7) (its := us.toArray) (n := us.length) ?hh7 (fun r m nw => Ex2 fun ds Z => And6 (nw = (DL, LCg.lst us) :: (W, LCg.lst ds) :: (l, listOf #[.int a ta, .int b tb, .int c tc] n) :: Z) (m (Str.ofString "rows") = some (.ref l)) (m (Str.ofString "due") = some (.ref W)) (DatAll Z us ((likeT (a, b, c)).map tabDat)) (DatAll Z ds ((((likeT (a, b, c)).take r).map (pairOf (a, b, c))).map pairDat)) (∀ p ∈ Z, p.1 ≠ W)) ?F7 N0 (.head _) ?h07 ?hJ7 ?hx7 ?hp7 ?turn7 ?done7
  (case hh7 => rfl)
  (case F7 => k_asm)
  (case h07 => exact ⟨[], TL, rfl, by walk_at "my look", by walk_at "my look", hus, .nil, hTW⟩)
  (case hJ7 =>
    intro r m nw zg169
    refine letGoal ?_
    intro Gz
    obtain ⟨_, _, rfl, -⟩ := zg169
    dsimp only [Gz]
    clear Gz
    exact .head _)
  (case hx7 => rfl)
  (case hp7 => rfl)
  (case done7 =>
    (repeat (rename Fr _ _ _ _ => hZ; clear hZ))
    (repeat (rename News _ _ _ _ => hZ; clear hZ))
    intro m nw h tk zg170 F N
    refine letGoal ?_
    intro Gz
    obtain ⟨ds, Z, rfl, hm1, hm2, hus, hds, hZW⟩ := zg170
    dsimp only [Gz]
    clear Gz
    (try dsimp only)
    k_steps
    (try dsimp only)
    (try dsimp +zetaDelta only)
    refine' fin_part ?Fz ?Nz ?Sz ?Rz
    (case Fz => k_asm)
    (case Nz => k_asm)
    (case Rz => exact ⟨W, ds, Z, rfl, rfl, by rw [List.take_of_length_le (by have := dat_len hus; rw [List.length_map] at this; rw [List.size_toArray]; (walk_at "my o"))] at hds; exact hds⟩)
    (case Sz =>
      intro q hq
      rcases List.mem_cons.mp hq with rfl | hq
      · exact .tail _ (.head _)
      · exact .tail _ (.tail _ (.tail _ hq))))
  (case turn7 =>
    (repeat (rename Fr _ _ _ _ => hZ; clear hZ))
    (repeat (rename News _ _ _ _ => hZ; clear hZ))
    clear hus hTW
    intro r v m nw I oI h tk hv zg171 F N off
    refine letGoal ?_
    intro Gz
    obtain ⟨ds, Z, rfl, hm1, hm2, hus, hds, hZW⟩ := zg171
    dsimp only [Gz]
    clear Gz
    have hrl : r < (likeT (a, b, c)).length := by
      have h1 := (Array.getElem?_eq_some_iff.mp hv).1
      have h2 := dat_len hus
      rw [List.length_map] at h2
      rw [List.size_toArray] at h1
      (walk_at "my o")
    obtain ⟨u, hu⟩ : ∃ u, (likeT (a, b, c))[r]? = some u := ⟨_, List.getElem?_eq_getElem hrl⟩
    have hut : TOK u := like_tok (List.mem_of_getElem? hu)
    obtain ⟨v2, hv2, hin⟩ := dat_get hus (i := r) (d := tabDat u) (by rw [List.getElem?_map, hu]; rfl)
    have hv3 : us[r]? = some v := by simpa using hv
    rw [hv3] at hv2
    obtain rfl := Option.some.inj hv2
    obtain ⟨X, t1, t2, t3, k, rfl, hX⟩ := tab_in hin
    have NX : News g Lq h ((X, listOf #[.int u.1 t1, .int u.2.1 t2, .int u.2.2 t3] k) :: (I, oI) :: (DL, LCg.lst us) :: (W, LCg.lst ds) :: (l, listOf #[.int a ta, .int b tb, .int c tc] n) :: Z) := List.forall_mem_cons.mpr ⟨N _ (.tail _ (.tail _ (.tail _ (.tail _ hX)))), N⟩
    clear N
    refine letPost ?_
    intro K2
    k_steps
    show wpAny _ _ _ _ _ _
    refine' comp_zip_keep (xs := #[.int u.1 t1, .int u.2.1 t2, .int u.2.2 t3]) (ys' := #[.int a ta, .int b tb, .int c tc]) ?hh2 (fun i ys => IntsAre ys (([onesN (u.1 ^^^ a), onesN (u.2.1 ^^^ b), onesN (u.2.2 ^^^ c)].take i).map Int.ofNat)) ?F2 ?N2 ?m1 ?m2 ?sz2 ?d1 ?d2 ?d3 ?d4 ?d5 ?i0 ?turn2 ?fin2
    (case hh2 => rfl)
    (case F2 => k_asm)
    (case N2 => k_asm)
    (case m1 => exact .head _)
    (case m2 => exact .tail _ (.tail _ (.tail _ (.tail _ (.head _)))))
    (case sz2 => (rw [sizeLine_eq]; (show 3 ≤ 16777216); decide))
    (case d1 => decide)
    (case d2 => rfl)
    (case d3 => rfl)
    (case d4 => rfl)
    (case d5 => decide)
    (case i0 => exact .nil)
    (case turn2 =>
      clear NX F
      rintro i va vb ys' z' TI TO i1 i2 o1 o2 o3 o4 o5 C oC mC D' h tk hi hva hvb hJ hoC hxa hxb F N off2 ne
      have hi : i < 3 := hi
      obtain ⟨x, y, tx, ty, rfl, rfl, hx16, hy16, hxy⟩ : Ex4 fun (x y : Nat) (tx ty : Tok) => And5 (va = .int (x : Int) tx) (vb = .int (y : Int) ty) (x < 16) (y < 16) ([onesN (u.1 ^^^ a), onesN (u.2.1 ^^^ b), onesN (u.2.2 ^^^ c)][i]? = some (onesN (x ^^^ y))) := by
        have : i = 0 ∨ i = 1 ∨ i = 2 := by (walk_at "my o")
        rcases this with rfl | rfl | rfl <;> cases hva <;> cases hvb
        · exact ⟨_, _, _, _, rfl, rfl, hut.1, ha, rfl⟩
        · exact ⟨_, _, _, _, rfl, rfl, hut.2.1, hb, rfl⟩
        · exact ⟨_, _, _, _, rfl, rfl, hut.2.2, hc, rfl⟩
      refine CTurn.nil ?_
      refine letPost ?_
      intro K3
      have NN := N
      k_steps
      show wpAny _ _ _ _ _ _
      have ex := xor_fact ⟨x, hx16⟩ ⟨y, hy16⟩
      dsimp only at ex
      rw [ex]
      (k_dflt (refine' Con.use (ones2_ok prog w p loose mean mg mb (x ^^^ y) _ (xor_lt hx16 hy16)) _ ?zB27 ?zF27 ?zX27 NN ?zT27 ?zA27 ?zf27 ?zk27 ?zd27 ?zu27 (fun q hq => nomatch hq) (fun r hr => ⟨hr, fun q hq => nomatch hq⟩) ?zpre27 ?_); (case zB27 => k_asm); (case zF27 => k_asm); (case zX27 => k_asm); (case zT27 => k_asm); (case zA27 => exact rfl); (case zf27 => exact rfl); (case zk27 => exact rfl); (case zd27 => k_room); (case zu27 => k_units); (case zpre27 => first | exact trivial | skip))
      intro v h' tk' nw' F' N' zg172 zg173
      refine letGoal ?_
      intro Gz
      obtain ⟨⟨t5, rfl⟩, rfl⟩ := zg172
      clear zg173
      dsimp only [Gz]
      clear Gz
      dsimp only [List.nil_append] at N'
      k_steps
      (try dsimp +zetaDelta only)
      (refine' CE.intro (by k_asm) (by k_asm) _ ?subq54 (by assumption) ?Jq54; (case subq54 => first | exact fun _ h => h | exact fun _ h => .tail _ h | exact fun _ h => .tail _ (.tail _ h) | exact fun _ h => .tail _ (.tail _ (.tail _ h)) | exact fun _ h => .tail _ (.tail _ (.tail _ (.tail _ h))) | exact fun _ h => .tail _ (.tail _ (.tail _ (.tail _ (.tail _ h))))); refine KEnd.intro ?_)
      rw [List.take_add_one, hxy, List.map_append]
      exact IntsAre.append hJ (.cons _ _ .nil))
    (case fin2 =>
      clear NX F
      rintro ys hys
      intro D5 h tk F N off5
      have hys : IntsAre ys ([onesN (u.1 ^^^ a), onesN (u.2.1 ^^^ b), onesN (u.2.2 ^^^ c)].map Int.ofNat) := hys
      k_steps
      show wpAny _ _ _ _ _ _
      refine' sum_is prog w ?Fs ?Ns (.head _) hys ?hs ?_
      (case Fs => k_asm)
      (case Ns => k_asm)
      (case hs => rfl)
      intro h' tk' t' F' N'
      have es : ([onesN (u.1 ^^^ a), onesN (u.2.1 ^^^ b), onesN (u.2.2 ^^^ c)].map Int.ofNat).sum = ((unlT (a, b, c) u : Nat) : Int) := by
        show (onesN (u.1 ^^^ a) : Int) + ((onesN (u.2.1 ^^^ b) : Int) + ((onesN (u.2.2 ^^^ c) : Int) + 0)) = ((onesN (a ^^^ u.1) + onesN (b ^^^ u.2.1) + onesN (c ^^^ u.2.2) : Nat) : Int)
        rw [Nat.xor_comm u.1, Nat.xor_comm u.2.1, Nat.xor_comm u.2.2]
        (walk_at "my o")
      rw [es]
      clear hys es F N
      k_steps
      show wpAny _ _ _ _ _ _
      have N8 := (show News g Lq _ ((D5, LCg.lst ys) :: (X, listOf #[.int u.1 t1, .int u.2.1 t2, .int u.2.2 t3] k) :: (I, oI) :: (DL, LCg.lst us) :: (W, LCg.lst ds) :: (l, listOf #[.int a ta, .int b tb, .int c tc] n) :: Z) from by k_asm)
      (k_dflt (refine' Con.use (word2_ok prog w p loose mean mg mb X u.1 u.2.1 u.2.2 k t1 t2 t3 hut.1 hut.2.1 hut.2.2) (((D5, LCg.lst ys) :: (X, listOf #[.int u.1 t1, .int u.2.1 t2, .int u.2.2 t3] k) :: (I, oI) :: (DL, LCg.lst us) :: (W, LCg.lst ds) :: (l, listOf #[.int a ta, .int b tb, .int c tc] n) :: Z).filter fun r => decide (r.1 ≠ X)) ?zB28 ?zF28 ?zX28 N8 ?zT28 ?zA28 ?zf28 ?zk28 ?zd28 ?zu28 (keep_sub (.tail _ (.head _))) keep_rest ?zpre28 ?_); (case zB28 => k_asm); (case zF28 => k_asm); (case zX28 => k_asm); (case zT28 => k_asm); (case zA28 => exact rfl); (case zf28 => exact rfl); (case zk28 => exact rfl); (case zd28 => k_room); (case zu28 => k_units); (case zpre28 => first | exact trivial | skip))
      intro v h' tk' nw' F' N' zg174 zg175
      refine letGoal ?_
      intro Gz
      obtain ⟨⟨t6, rfl⟩, rfl⟩ := zg174
      clear zg175
      dsimp only [Gz]
      clear Gz
      replace N' := News.keepBack N8 (.tail _ (.head _)) N'
      clear N8
      k_steps
      show wpAny _ _ _ _ _ _
      refine str_join (dotS (DD (a, b, c) u)) ?ev ?go
      case ev =>
        k_steps
        · exact StrEnd.mk (dd_str ‹_›).symm
        · exact StrEnd.mk (dd_str1 ‹_› ‹_›).symm
        · exact StrEnd.mk (dd_str2 ‹_› ‹_›).symm
      intro t7 k7
      k_steps
      show wpAny _ _ _ _ _ _
      rename_i T9 h9 F9 N9 l9
      obtain ⟨g1, g2, g3, g4, g5, g6, g7⟩ := l9
      have hTu : (T9, tupObj #[.str (pairOf (a, b, c) u).1 t6, .str (pairOf (a, b, c) u).2 t7]) = (T9, tupObj #[.str (wordT u.1 u.2.1 u.2.2) t6, .str (dotS (DD (a, b, c) u)) t7]) := rfl
      refine' append_lst ?Fa ?Na ?Ua ?za ?_
      (case Fa => k_asm)
      (case Na => exact N9)
      (case Ua => exact .tail (neN (Nat.ne_of_gt g5)) (.tail (Ne.symm (off5 (W, LCg.lst ds) (.tail _ (.tail _ (.tail _ (.head _)))))) (.tail (hZW _ hX) (.tail (Ne.symm (off (W, LCg.lst ds) (.tail _ (.head _)))) (.tail hDW (.head (List.forall_mem_cons.mpr ⟨hlW, hZW⟩)))))))
      (case za =>
        have h1 := dat_len hds
        have h2 := like_len (t := (a, b, c)) ⟨ha, hb, hc⟩
        rw [List.length_map, List.length_map, List.length_take] at h1
        (walk_at "my o"))
      intro h' F' N'
      clear N9
      k_steps
      (try dsimp +zetaDelta only)
      refine' list_next (nw := (DL, LCg.lst us) :: (W, LCg.lst (ds ++ [.ref T9])) :: (l, listOf #[.int a ta, .int b tb, .int c tc] n) :: (Z ++ [(T9, tupObj #[.str (pairOf (a, b, c) u).1 t6, .str (pairOf (a, b, c) u).2 t7])])) ?Fn ?Nn ?on ⟨ds ++ [.ref T9], _, rfl, ?z1, ?z2, hus.mono fun p hp => List.mem_append_left _ hp, ?z3, ?z4⟩
      (case Fn => k_asm)
      (case Nn => exact fun q hq => (show News g Lq _ ((T9, _) :: _) from by k_asm) q (gD2 hq))
      (case on => exact List.forall_mem_cons.mpr ⟨off _ (.head _), List.forall_mem_cons.mpr ⟨off (W, LCg.lst ds) (.tail _ (.head _)), List.forall_mem_cons.mpr ⟨off _ (.tail _ (.tail _ (.head _))), fun p hp => by
        rcases List.mem_append.mp hp with hp | hp
        · exact off p (.tail _ (.tail _ (.tail _ hp)))
        · rw [List.mem_singleton.mp hp]; exact neN (Nat.ne_of_gt g3)⟩⟩⟩)
      (case z1 => walk_at "my look")
      (case z2 => walk_at "my look")
      (case z3 =>
        rw [List.take_add_one, hu, List.map_append]
        exact pair_add hds)
      (case z4 =>
        intro p hp
        rcases List.mem_append.mp hp with hp | hp
        · exact hZW p hp
        · rw [List.mem_singleton.mp hp]; exact neN (Nat.ne_of_gt g5))))
end W2DUE
end
section
section W2LAWD
theorem ne_led2 {A : Around} {E : Value → Shared → Prop} {s : Shared} {g : Heap} {L DA DB : Addr} {nw : Led} {xs ys : List Value} {ka kb : Nat} {ds : List Dat} {Q : Value → Shared → Prop} (N : News g L s.heap nw) (ma : (DA, listOf xs.toArray ka) ∈ nw) (Da : DatAll nw xs ds) (mb : (DB, listOf ys.toArray kb) ∈ nw) (Db : DatAll nw ys ds)
    (ha : ∀ d ∈ ds, kqdOk 8 d = true) (hu : A.units + 64 < cLine) (h : Q (.bool false) s) : wpAny (model prog w) A (compareOp .NotEq (.ref DA) (.ref DB)) Q E s :=
  kqd_ne N ma rfl rfl Da (fun _ h => h) mb rfl rfl Db (fun _ h => h) ha ha hu (by simpa using h)
theorem eq_led2 {A : Around} {E : Value → Shared → Prop} {s : Shared} {g : Heap} {L DA DB : Addr} {nw : Led} {xs ys : List Value} {ka kb : Nat} {ds : List Dat} {Q : Value → Shared → Prop} (N : News g L s.heap nw) (ma : (DA, listOf xs.toArray ka) ∈ nw) (Da : DatAll nw xs ds) (mb : (DB, listOf ys.toArray kb) ∈ nw) (Db : DatAll nw ys ds)
    (ha : ∀ d ∈ ds, kqdOk 8 d = true) (hu : A.units + 64 < cLine) (h : Q (.bool true) s) : wpAny (model prog w) A (compareOp .Eq (.ref DA) (.ref DB)) Q E s :=
  kqd_eq N ma rfl rfl Da (fun _ h => h) mb rfl rfl Db (fun _ h => h) ha ha hu (by simpa using h)
theorem count_nl : ∀ (l : List Nat), Spec.countIn (.str ⟨#[10]⟩) (l.map fun n => PyData.str ⟨#[n]⟩) = (l.count 10 : Int)
  | [] => rfl
  | c :: l => by
    rw [List.map_cons, Spec.countIn, count_nl l, List.count_cons]
    by_cases h : c = 10
    · subst h; simp [Spec.same]; (walk_at "my o")
    · have : Spec.same (PyData.str ⟨#[c]⟩) (PyData.str ⟨#[10]⟩) = false := by simp [Spec.same, h]
      simp [this, h]
theorem count_is2 (x : List Nat) : Txt.count ⟨x.toArray⟩ (Str.ofString "\n") = (x.count 10 : Int) := by
  have e : Str.ofString "\n" = ⟨#[10]⟩ := by decide +kernel
  rw [e, count_is, count_nl]
noncomputable def bodyOf2 : List Stmt := bodyOfF (lawFn2 20)
noncomputable def lastQ : List Str := [Str.ofString "", Str.ofString "end"]
noncomputable def lastW : List Str := [Str.ofString "", Str.ofString "end", Str.ofString ""]
theorem strs_dat2 {nw : Led} : ∀ {ws : List Value} {xs : List Str}, StrsAre ws xs → DatAll nw ws (xs.map Dat.str)
  | _, _, .nil => .nil
  | _, _, .cons x t r => .cons (.str x t) (strs_dat2 r)
theorem StrsAre4_append : ∀ {vs us : List Value} {xs ys : List Str}, StrsAre vs xs → StrsAre us ys → StrsAre (vs ++ us) (xs ++ ys)
  | _, _, _, _, .nil, h => h
  | _, _, _, _, .cons x t h', h => .cons x t (StrsAre4_append h' h)
theorem last_step {i : Nat} (hi : i < 3) : lastW.take (i + 1) = lastW.take i ++ [nxS [] (lastQ.drop i)] ∧ (lastQ.drop i).tail = lastQ.drop (i + 1) ∧ nxT [] (lastQ.drop i) = [] := by
  have : i = 0 ∨ i = 1 ∨ i = 2 := by (walk_at "my o")
  rcases this with rfl | rfl | rfl
  · exact ⟨rfl, rfl, rfl⟩
  · exact ⟨rfl, rfl, rfl⟩
  · exact ⟨rfl, rfl, rfl⟩
theorem lastW_ok : ∀ d ∈ lastW.map Dat.str, kqdOk 8 d = true := by decide +kernel
local macro_rules | `(tactic| walk_at "call ref") => `(tactic| (refine stopI ?_))
local macro_rules | `(tactic| walk_at "compareOp Eq ref ref") => `(tactic| (refine stopI ?_))
local macro_rules | `(tactic| walk_at "call builtin:str.count") => `(tactic| (k_here; (with_reducible show wpAny _ _ (call _ [.str ⟨List.toArray _⟩ _, .str _ _]) _ _ _); (refine KXw.count (count_is2 _) ?_); intro _ _))
theorem lex_sep {R : Led} {C : Addr} {a : LexA} {j : LexJ} {line line' : Int} {tl tl' : Tok} {vs vs' toks toks' : List Value} {e1 e2 e1' e2' : Nat} (h : ∀ r ∈ R, ∀ q ∈ lexLed w C a j line tl vs toks e1 e2, r.1 ≠ q.1) : ∀ r ∈ R, ∀ q ∈ lexLed w C a j line' tl' vs' toks' e1' e2', r.1 ≠ q.1 := fun r hr q hq => by
  obtain ⟨q', hq', e⟩ := lex_same w (line := line) (tl := tl) (vs := vs) (toks := toks) (e1 := e1) (e2 := e2) q hq
  rw [← e]
  exact h r hr q' hq'
theorem News.swapAB {g h : Heap} {L : Addr} {A B : Led} (N : News g L h (A ++ B)) : News g L h (B ++ A) := fun q hq => N q (by
  rcases List.mem_append.mp hq with hq | hq
  · exact List.mem_append_right _ hq
  · exact List.mem_append_left _ hq)
theorem law2_d {g h : Heap} {L fa : Addr} {cd : Value} {s : Shared} {tk : Nat} {m : Str → Option Value} {Q : Flow → Shared → Prop} {E : Value → Shared → Prop} (o2 : Obj) (ps : Array Value) (x : List Nat) (tt : Tok)
    (K : Below callerA g [] g) (X : (hd2.heap_1 w.params).In g) (T : Top p loose mean mg mb g)
    (a : LexA) (j : LexJ) (line : Int) (tl : Tok) (cs : List Nat) (lv : List Value) (toks : List Value) (e1 e2 : Nat) (hch : a.chain) (hTk : TakeOK prog w p loose mean mg mb a j) (LX : Lx2 lv toks cs line [] [] (1 + (x.count 10 : Int)))
    (F : Fr g L h m) (htx : m (Str.ofString "text") = some (.str ⟨x.toArray⟩ tt)) (hc2 : o2.data = .cell (some (.ref a.lx)))
    (N : News g L h ((L + 1 + 1, o2) :: (226, tabObj ps) :: (lexLed w 76 a j line tl lv toks e1 e2))) (sep : ∀ r ∈ [(L + 1 + 1, o2), (226, tabObj ps)], ∀ q ∈ lexLed w 76 a j line tl lv toks e1 e2, r.1 ≠ q.1)
    (hret : ∀ h' tk' m' nw' ps, Fr g L h' m' → News g L h' nw' → (226, tabObj ps) ∈ nw' → Q (.ret (.bool true)) { s with heap := h', toks := tk' }) :
    wpAny (model prog w) (callerA.deeper (envOfC (Str.ofString "law") (scopeOf (lawFn2 20)) L fa cd)) (execs (bodyOf2.drop 13) (envOfC (Str.ofString "law") (scopeOf (lawFn2 20)) L fa cd)) Q E { s with heap := h, toks := tk } := by
  conv in (occs := *) scopeOf _ => all_goals whnf
  conv in execs (List.drop _ _) _ => arg 1; whnf
  refine letPost ?_
  intro K0
  have Nl := N
  dsimp only [lexLed] at Nl
  k_steps
  show wpAny _ _ _ _ _ _
  obtain rfl : toks = [] := by
    obtain ⟨-, -, c3, -⟩ := LX
    cases c3; rfl
  (k_dflt (refine' Con.use (push_token_ok prog w p loose mean mg mb a j hch line tl lv (.str (Str.ofString "") tk) [] e1 e2 (by decide)) [(L + 1 + 1, o2), (226, tabObj ps)] ?zB29 ?zF29 ?zX29 (show News g L _ ((L + 1 + 1, o2) :: (226, tabObj ps) :: (lexLed w 76 a j line tl lv [] e1 e2)) from by k_asm) ?zT29 ?zA29 ?zf29 ?zk29 ?zd29 ?zu29 (fun q hq => .tail _ (.tail _ hq)) (fun r hr => ⟨List.mem_append_left (as := [(L + 1 + 1, o2), (226, tabObj ps)]) _ hr, sep r hr⟩) ?zpre29 ?_); (case zB29 => k_asm); (case zF29 => k_asm); (case zX29 => k_asm); (case zT29 => k_asm); (case zA29 => exact rfl); (case zf29 => exact rfl); (case zk29 => exact rfl); (case zd29 => k_room); (case zu29 => k_units); (case zpre29 => first | exact trivial | skip))
  intro v h' tk' nw' F' N' zg212 zg213
  refine letGoal ?_
  intro Gz
  obtain ⟨e1', rfl, rfl⟩ := zg212
  clear zg213
  dsimp only [Gz]
  clear Gz
  replace N' := News.swapAB N'
  have sep1 := lex_sep w (line' := line) (tl' := tl) (vs' := lv) (toks' := [] ++ [.str (Str.ofString "") tk]) (e1' := e1') (e2' := e2) sep
  clear sep N Nl
  have Nl := N'
  dsimp only [lexLed, List.cons_append, List.nil_append] at Nl
  k_steps
  show wpAny _ _ _ _ _ _
  (k_dflt (refine' Con.use (push_token_ok prog w p loose mean mg mb a j hch line tl lv (.str (Str.ofString "end") _) [.str (Str.ofString "") tk] e1' e2 (by show 1 ≤ 1000; decide)) [(L + 1 + 1, o2), (226, tabObj ps)] ?zB30 ?zF30 ?zX30 (show News g L _ ((L + 1 + 1, o2) :: (226, tabObj ps) :: (lexLed w 76 a j line tl lv ([] ++ [.str (Str.ofString "") tk]) e1' e2)) from by k_asm) ?zT30 ?zA30 ?zf30 ?zk30 ?zd30 ?zu30 (fun q hq => .tail _ (.tail _ hq)) (fun r hr => ⟨List.mem_append_left (as := [(L + 1 + 1, o2), (226, tabObj ps)]) _ hr, sep1 r hr⟩) ?zpre30 ?_); (case zB30 => k_asm); (case zF30 => k_asm); (case zX30 => k_asm); (case zT30 => k_asm); (case zA30 => exact rfl); (case zf30 => exact rfl); (case zk30 => exact rfl); (case zd30 => k_room); (case zu30 => k_units); (case zpre30 => first | exact trivial | skip))
  intro v h' tk' nw' F' N' zg214 zg215
  refine letGoal ?_
  intro Gz
  obtain ⟨e1'', rfl, rfl⟩ := zg214
  clear zg215
  dsimp only [Gz]
  clear Gz
  replace N' := News.swapAB N'
  have LX2 : ∀ t, Lx2 lv [.str (Str.ofString "") tk, .str (Str.ofString "end") t] cs line [] (lastQ.drop 0) (1 + (x.count 10 : Int)) := by
    obtain ⟨c1, c2, c3, c4, c5, c6, c7⟩ := LX
    exact fun t => ⟨c1, c2, .cons _ _ (.cons _ _ .nil), c4, c5, c6, c7⟩
  clear LX
  have Nl := N'
  dsimp only [lexLed, List.cons_append, List.nil_append] at Nl
  k_steps
  show wpAny _ _ _ _ _ _
  refine' comp_range (n := 3) ?hh2 (fun i ys nw => Ex7 fun line tl vs toks cs e1 e2 => And4 (nw = (L + 1 + 1, o2) :: (226, tabObj ps) :: lexLed w 76 a j line tl vs toks e1 e2) (Lx2 vs toks cs line [] (lastQ.drop i) (1 + (x.count 10 : Int))) (StrsAre ys (lastW.take i)) ((i = 3 → cs = []))) ?F2 ?N2 ?hr2 ?hsm2 ?hn2 ?hsz2 ?c12 ?c22 ?c32 ?h02 ?turn2 ?fin2
  (case hh2 => rfl)
  (case F2 => k_asm)
  (case N2 => k_asm)
  (case hr2 => assumption)
  (case hsm2 => decide)
  (case hn2 => rfl)
  (case hsz2 => (rw [sizeLine_eq]; decide))
  (case c12 => decide)
  (case c22 => rfl)
  (case c32 => rfl)
  (case h02 => exact ⟨line, tl, lv, _, cs, _, _, rfl, LX2 _, .nil, fun h => nomatch h⟩)
  (case turn2 =>
    (repeat (rename Fr _ _ _ _ => hZ; clear hZ))
    (repeat (rename News _ _ _ _ => hZ; clear hZ))
    intro i t ys nw I oI C oC mC D h tk hi zg216 hoC hxx F N off ne
    refine letGoal ?_
    intro Gz
    obtain ⟨line, tl, vs, toks, cs, e1, e2, rfl, LX, hys, -⟩ := zg216
    dsimp only [Gz]
    clear Gz
    refine CTurn.nil ?_
    refine letPost ?_
    intro K3
    have Nl := N
    dsimp only [lexLed] at Nl
    k_steps
    show wpAny _ _ _ _ _ _
    have sep3 : ∀ r ∈ [(I, oI), (C, oC), (D, LCg.lst ys), (L + 1 + 1, o2), (226, tabObj ps)], ∀ q ∈ lexLed w 76 a j line tl vs toks e1 e2, r.1 ≠ q.1 := fun r hr q hq => by
      rcases List.mem_append.mp (show r ∈ [(I, oI), (C, oC), (D, LCg.lst ys)] ++ [(L + 1 + 1, o2), (226, tabObj ps)] from hr) with hr | hr
      · exact Ne.symm (off q (.tail _ (.tail _ hq)) r hr)
      · exact lex_sep w sep1 r hr q hq
    (k_dflt (refine' Con.use (next3_ok prog w p loose mean mg mb a j hTk hch line tl cs vs toks e1 e2 [] (lastQ.drop i) _ LX (by rw [List.length_drop]; show 2 - i ≤ 900; (walk_at "my o"))) [(I, oI), (C, oC), (D, LCg.lst ys), (L + 1 + 1, o2), (226, tabObj ps)] ?zB31 ?zF31 ?zX31 (show News g L _ ((I, oI) :: (C, oC) :: (D, LCg.lst ys) :: (L + 1 + 1, o2) :: (226, tabObj ps) :: lexLed w 76 a j line tl vs toks e1 e2) from by k_asm) ?zT31 ?zA31 ?zf31 ?zk31 ?zd31 ?zu31 (fun q hq => .tail _ (.tail _ (.tail _ (.tail _ (.tail _ hq))))) (fun r hr => ⟨List.mem_append_left (as := [(I, oI), (C, oC), (D, LCg.lst ys), (L + 1 + 1, o2), (226, tabObj ps)]) _ hr, sep3 r hr⟩) ?zpre31 ?_); (case zB31 => k_asm); (case zF31 => k_asm); (case zX31 => k_asm); (case zT31 => k_asm); (case zA31 => exact rfl); (case zf31 => exact rfl); (case zk31 => exact rfl); (case zd31 => k_room); (case zu31 => k_units); (case zpre31 => first | exact trivial | skip))
    intro v h' tk' nw' F' N' zg217 zg218
    refine letGoal ?_
    intro Gz
    obtain ⟨t1, line1, tl1, cs1, vs1, toks1, e11, e21, rfl, rfl, LX1, hend⟩ := zg217
    clear zg218
    dsimp only [Gz]
    clear Gz
    replace N' := News.swapAB N'
    obtain ⟨q1, q2, q3⟩ := last_step hi
    rw [q2, q3] at LX1
    k_steps
    (try dsimp +zetaDelta only)
    refine' CE.intro ?Fc ?Nc ((L + 1 + 1, o2) :: (226, tabObj ps) :: lexLed w 76 a j line1 tl1 vs1 toks1 e11 e21) ?sub ?off ⟨line1, tl1, vs1, toks1, cs1, e11, e21, rfl, LX1, ?J, fun h3 => hend (by have : i = 2 := (by (walk_at "my o")); rw [this]; rfl) rfl⟩
    (case Fc => k_asm)
    (case Nc => exact N')
    (case sub => exact fun q hq => hq)
    (case off =>
      intro q hq r hr
      rcases List.mem_append.mp (show q ∈ [(L + 1 + 1, o2), (226, tabObj ps)] ++ lexLed w 76 a j line1 tl1 vs1 toks1 e11 e21 from hq) with hq | hq
      · exact off q (List.mem_append_left (as := [(L + 1 + 1, o2), (226, tabObj ps)]) _ hq) r hr
      · exact Ne.symm (lex_sep w sep3 r (List.mem_append_left (as := [(I, oI), (C, oC), (D, LCg.lst ys)]) [(L + 1 + 1, o2), (226, tabObj ps)] hr) q hq))
    (case J =>
      rw [q1]
      exact StrsAre4_append hys (.cons _ _ .nil)))
  (case fin2 =>
    (repeat (rename Fr _ _ _ _ => hZ; clear hZ))
    (repeat (rename News _ _ _ _ => hZ; clear hZ))
    intro ys nw zg219
    refine letGoal ?_
    intro Gz
    obtain ⟨line, tl, vs, toks, cs, e1, e2, rfl, LX, hys, hcs⟩ := zg219
    dsimp only [Gz]
    clear Gz
    obtain rfl := hcs rfl
    obtain rfl : line = 1 + (x.count 10 : Int) := by
      have := LX.htot
      simpa using this
    refine ⟨_, _, rfl, rfl, rfl, rfl, ?_⟩
    intro D h tk F N off
    have hys : StrsAre ys lastW := hys
    have Nl := N
    dsimp only [lexLed] at Nl
    k_steps
    show wpAny _ _ _ _ _ _
    refine eq_led2 prog w (xs := ys) (ka := ys.length) (kb := 0) (ys := [.str (Str.ofString "") _, .str (Str.ofString "end") _, .str (Str.ofString "") _]) (ds := lastW.map Dat.str) (by k_asm) (.tail _ (.head _)) (strs_dat2 hys) (.head _) (.cons (.str _ _) (.cons (.str _ _) (.cons (.str _ _) .nil))) lastW_ok ?u ?_
    (case u => k_units)
    k_steps
    have eb : ((1 + (x.count 10 : Int)) == 1 + (x.count 10 : Int)) = true := by simp
    rw [eb]
    exact hret _ _ _ _ ps (by k_asm) (by k_asm) (.tail _ (.tail _ (.tail _ (.head _)))))
end W2LAWD
end
section
section W2LAWC
theorem rising_pw : ∀ (l : List Str) (p : Str), risingS p l = true → (p :: l).Pairwise (fun a b => decide (b.cps.toList < a.cps.toList) = false)
  | [], p, _ => by simp
  | x :: l, p, h => by
    unfold risingS at h
    rw [Bool.and_eq_true] at h
    obtain ⟨h1, h2⟩ := h
    have ih := rising_pw l x h2
    rw [Bool.not_eq_true', ltCps_eq] at h1
    rw [List.pairwise_cons]
    refine ⟨fun b hb => ?_, ih⟩
    rcases List.mem_cons.mp hb with rfl | hb
    · exact h1
    · have h3 := List.rel_of_pairwise_cons ih hb
      exact KeyOrd.kle_trans (O := strKind.toKeyOrd) (a := p.cps.toList) (b := x.cps.toList) (c := b.cps.toList) h1 h3
theorem sortedS_pw : ∀ {l : List Str}, sortedS l = true → l.Pairwise (fun a b => decide (b.cps.toList < a.cps.toList) = false)
  | [], _ => .nil
  | x :: l, h => rising_pw l x h
theorem sortedS_eq {a b : List Str} (ha : sortedS a = true) (hb : b.Pairwise (fun a b => decide (b.cps.toList < a.cps.toList) = false)) (hp : a.Perm b) : a = b :=
  List.Perm.eq_of_pairwise (fun x y _ _ h1 h2 => cps_inj (strKind.total _ _ h2 h1)) (sortedS_pw ha) hb hp
theorem sorted_dots {A : Around} {E : Value → Shared → Prop} {s : Shared} {g : Heap} {L l : Addr} {m : Str → Option Value} {nw : Led} {vs : List Value} {n : Nat} {ss : List Str} {Q : Value → Shared → Prop} (F : Fr g L s.heap m) (N : News g L s.heap nw) (hl : (l, listOf vs.toArray n) ∈ nw) (H : StrsAre vs ss) (h64 : ss.length < 64) (hs : ss.Pairwise (fun a b => decide (b.cps.toList < a.cps.toList) = false))
    (h : ∀ D n h' us, Fr g L h' m → News g L h' ((D, listOf us.toArray n) :: nw) → StrsAre us ss → Q (.ref D) { s with heap := h' }) :
    wpAny (model prog w) A (call (.builtin "sorted") [.ref l]) Q E s := by
  refine sorted_N_str F N ⟨_, (N _ hl).1, rfl, n, rfl⟩ H (by rw [H.length]; exact h64) fun h' vs' ss' e F' N' S' P' s' => ?_
  rw [sortedS_eq s' hs P'] at S'
  exact h _ e h' vs' F' N' S'
theorem pair_ok {k : Str × Str} (h1 : PyData.strOk k.1 = true) (h2 : PyData.strOk k.2 = true) : kqdOk 8 (pairDat k) = true := by
  unfold pairDat kqdOk
  simp only [List.all_cons, List.all_nil, Bool.and_true, Bool.and_eq_true]
  exact ⟨by unfold kqdOk; exact h1, by unfold kqdOk; exact h2⟩
noncomputable def refT : Str := Str.ofString "refused"
open Classical in
theorem isIn_led {A : Around} {E : Value → Shared → Prop} {s : Shared} {g : Heap} {L a : Addr} {nw : Led} {xs : List Value} {ka : Nat} {ks : List (Str × Str)} {x : Value} {k : Str × Str} {Q : Value → Shared → Prop} (b : Bool) (N : News g L s.heap nw) (ma : (a, listOf xs.toArray ka) ∈ nw) (Da : DatAll nw xs (ks.map pairDat)) (Dx : DatIn nw x (pairDat k))
    (ha : ∀ d ∈ ks.map pairDat, kqdOk 8 d = true) (hd : kqdOk 8 (pairDat k) = true) (hb : b = true ↔ k ∈ ks) (hu : A.units + 64 < cLine) (h : Q (.bool b) s) : wpAny (model prog w) A (compareOp .In x (.ref a)) Q E s := by
  refine kqd_isIn N ma rfl rfl Da (fun _ h => h) Dx (fun _ h => h) ha hd hu ?_
  have e : decide (pairDat k ∈ ks.map pairDat) = b := by
    rw [Bool.eq_iff_iff, decide_eq_true_iff, hb, List.mem_map]
    constructor
    · intro zg55
      refine letGoal ?_
      intro Gz
      obtain ⟨k', hk, e⟩ := zg55
      dsimp only [Gz]
      clear Gz
      have : k' = k := by
        simp only [pairDat, Dat.tuple.injEq, List.cons.injEq, Dat.str.injEq, and_true] at e
        exact Prod.ext e.1 e.2
      rw [← this]; exact hk
    · exact fun h => ⟨k, h, rfl⟩
  rw [e]; exact h
open Classical in
theorem notIn_led {A : Around} {E : Value → Shared → Prop} {s : Shared} {g : Heap} {L a : Addr} {nw : Led} {xs : List Value} {ka : Nat} {ks : List (Str × Str)} {x : Value} {k : Str × Str} {Q : Value → Shared → Prop} (N : News g L s.heap nw) (ma : (a, listOf xs.toArray ka) ∈ nw) (Da : DatAll nw xs (ks.map pairDat)) (Dx : DatIn nw x (pairDat k))
    (ha : ∀ d ∈ ks.map pairDat, kqdOk 8 d = true) (hd : kqdOk 8 (pairDat k) = true) (hk : k ∈ ks) (hu : A.units + 64 < cLine) (h : Q (.bool false) s) : wpAny (model prog w) A (compareOp .NotIn x (.ref a)) Q E s := by
  refine kqd_notIn N ma rfl rfl Da (fun _ h => h) Dx (fun _ h => h) ha hd hu ?_
  rw [decide_eq_true (List.mem_map_of_mem hk)]
  exact h
theorem filt_step {R : Led} {ys : List Value} {ks : List (Str × Str)} {i : Nat} {k : Str × Str} {v : Value} (P : Str × Str → Bool) (h : DatAll R ys (((ks.take i).filter P).map pairDat)) (hk : ks[i]? = some k) (hv : DatIn R v (pairDat k)) (hP : P k = true) : DatAll R (ys ++ [v]) (((ks.take (i + 1)).filter P).map pairDat) := by
  rw [List.take_add_one, hk, List.filter_append, List.map_append]
  refine dat_append h ?_
  simp only [Option.toList, List.filter_cons, hP, if_true, List.filter_nil, List.map_cons, List.map_nil]
  exact .cons hv .nil
theorem filt_skip {ks : List (Str × Str)} {i : Nat} {k : Str × Str} (P : Str × Str → Bool) (hk : ks[i]? = some k) (hP : P k = false) : (ks.take (i + 1)).filter P = (ks.take i).filter P := by
  rw [List.take_add_one, hk, List.filter_append]
  simp [hP]
local macro_rules | `(tactic| walk_at "call ref") => `(tactic| (refine stopI ?_))
local macro_rules | `(tactic| walk_at "call builtin:sorted") => `(tactic| (refine stopI ?_))
local macro_rules | `(tactic| walk_at "compareOp NotEq ref ref") => `(tactic| (refine stopI ?_))
local macro_rules | `(tactic| walk_at "compareOp In ref ref") => `(tactic| (refine stopI ?_))
local macro_rules | `(tactic| walk_at "compareOp NotIn ref ref") => `(tactic| (refine stopI ?_))
local macro_rules | `(tactic| walk_at "subscriptTail Name Constant ref int") => `(tactic| (k_here; (with_reducible show wpAny _ _ (subscriptTail (.Name (Str.ofString "pair") _) _ (.ref _) (.int 1 _)) _ _ _); k_dflt (refine' item_pair1 (by k_asm) (by k_mem) (by with_unfolding_all rfl) (by (intro _; with_unfolding_all rfl)) ?_)))
local macro_rules | `(tactic| walk_at "my rin") => `(tactic| (intro _ hq; repeat (first | exact hq | refine List.Mem.tail _ ?_)))
structure LawK (S : Str) (rf : Bool) (iks tks dks : List (Str × Str)) : Prop where
  nd : iks.Nodup
  li : iks.length < 64
  perm : iks.Perm (dks.filter fun k => !(k.2 == refT))
  dots : (iks.map (·.2)).Pairwise (fun a b => decide (b.cps.toList < a.cps.toList) = false)
  told : ∀ k ∈ tks, k ∈ dks
  last : rf = true ↔ (S, refT) ∈ tks
  okI : ∀ d ∈ iks.map pairDat, kqdOk 8 d = true
  okT : ∀ d ∈ tks.map pairDat, kqdOk 8 d = true
  okD : ∀ d ∈ dks.map pairDat, kqdOk 8 d = true
  okP : ∀ d ∈ (iks.map (·.2)).map Dat.str, kqdOk 8 d = true
  okS : kqdOk 8 (pairDat (S, refT)) = true
  ld : dks.length < 1000
  lt : tks.length < 1000
theorem News.again {g h : Heap} {L : Addr} {x : Addr × Obj} {nw : Led} (N : News g L h nw) (hx : x ∈ nw) : News g L h (x :: nw) := List.forall_mem_cons.mpr ⟨N _ hx, N⟩
local macro_rules | `(tactic| walk_at "execs cons") => `(tactic| (with_reducible refine haltN 4 (by with_unfolding_all rfl) ?_))
theorem law2_c {g h : Heap} {L fa : Addr} {cd : Value} {s : Shared} {tk : Nat} {m : Str → Option Value} {Q : Flow → Shared → Prop} {E : Value → Shared → Prop} (o2 o3 : Obj) (ps : Array Value) (x : List Nat) (tt ts : Tok) (S : Str) (rf : Bool)
    (K : Below callerA g [] g) (X : (hd2.heap_1 w.params).In g) (T : Top p loose mean mg mb g)
    (a : LexA) (j : LexJ) (line : Int) (tl : Tok) (cs : List Nat) (lv : List Value) (toks : List Value) (e1 e2 : Nat) (hch : a.chain) (hTk : TakeOK prog w p loose mean mg mb a j) (LX : Lx2 lv toks cs line [] [] (1 + (x.count 10 : Int)))
    (iks tks dks : List (Str × Str)) (hK : LawK S rf iks tks dks) (it tc DU : Addr) (ivs tvs dus : List Value) (ni nt nd : Nat) (R : Led)
    (F : Fr g L h m) (htx : m (Str.ofString "text") = some (.str ⟨x.toArray⟩ tt)) (hst : m (Str.ofString "stop") = some (.str S ts)) (hit : m (Str.ofString "items") = some (.ref it)) (hto : m (Str.ofString "told") = some (.ref tc)) (hrf : m (Str.ofString "refused") = some (.bool rf))
    (hc2 : o2.data = .cell (some (.ref a.lx))) (hc3 : o3.data = .cell (some (.ref DU)))
    (N : News g L h ((L + 1 + 1 + 1, o3) :: (L + 1 + 1, o2) :: (226, tabObj ps) :: (it, listOf ivs.toArray ni) :: (tc, listOf tvs.toArray nt) :: (DU, listOf dus.toArray nd) :: R))
    (hI : DatAll R ivs (iks.map pairDat)) (hT : DatAll R tvs (tks.map pairDat)) (hD : DatAll R dus (dks.map pairDat))
    (hlx : ∀ q ∈ lexLed w 76 a j line tl lv toks e1 e2, q ∈ R) (sep : ∀ r ∈ [(L + 1 + 1, o2), (226, tabObj ps)], ∀ q ∈ lexLed w 76 a j line tl lv toks e1 e2, r.1 ≠ q.1)
    (hret : ∀ h' tk' m' nw' ps, Fr g L h' m' → News g L h' nw' → (226, tabObj ps) ∈ nw' → Q (.ret (.bool true)) { s with heap := h', toks := tk' }) :
    wpAny (model prog w) (callerA.deeper (envOfC (Str.ofString "law") (scopeOf (lawFn2 20)) L fa cd)) (execs (bodyOf2.drop 10) (envOfC (Str.ofString "law") (scopeOf (lawFn2 20)) L fa cd)) Q E { s with heap := h, toks := tk } := by
  conv in (occs := *) scopeOf _ => all_goals whnf
  conv in execs (List.drop _ _) _ => arg 1; whnf
  refine letPost ?_
  intro K0
  k_steps
  show wpAny _ _ _ _ _ _
  refine' comp_list_keep (its := ivs.toArray) (k := ni) ?hh1 (fun i ys => StrsAre ys ((iks.take i).map (·.2))) ?F1 ?N1 ?hm1 ?sz1 ?c11 ?c21 ?c31 ?h01 ?turn1 ?fin1
  (case hh1 => rfl)
  (case F1 => k_asm)
  (case N1 => k_asm)
  (case hm1 => k_mem)
  (case sz1 => (have := dat_len hI; rw [List.length_map] at this; (have := hK.li); rw [sizeLine_eq, List.size_toArray]; (walk_at "my o")))
  (case c11 => decide)
  (case c21 => rfl)
  (case c31 => rfl)
  (case h01 => exact .nil)
  (case turn1 =>
    clear F N
    rintro i v ys I oI C oC mC D h tk hi hv hJ hoC hxx F N off ne
    have hil : i < iks.length := by
      have := dat_len hI
      rw [List.length_map] at this
      rw [List.size_toArray] at hi
      (walk_at "my o")
    have hk : iks[i]? = some iks[i] := List.getElem?_eq_getElem hil
    generalize iks[i] = k at hk
    obtain ⟨v2, hv2, hin⟩ := dat_get hI (i := i) (d := pairDat k) (by rw [List.getElem?_map, hk]; rfl)
    have hv3 : ivs[i]? = some v := by simpa using hv
    rw [hv3] at hv2
    obtain rfl := Option.some.inj hv2
    obtain ⟨TT, t1, t2, n, rfl, hTm⟩ := dat_pair hin
    have NX := News.again (x := (TT, tupO #[.str k.1 t1, .str k.2 t2] n)) N (by repeat (first | exact hTm | refine List.Mem.tail _ ?_))
    clear N
    refine CTurn.nil ?_
    refine letPost ?_
    intro K3
    k_steps
    (try dsimp +zetaDelta only)
    (refine' CE.intro (by k_asm) (by k_asm) _ ?subq14 (by assumption) ?Jq14; (case subq14 => first | exact fun _ h => h | exact fun _ h => .tail _ h | exact fun _ h => .tail _ (.tail _ h) | exact fun _ h => .tail _ (.tail _ (.tail _ h)) | exact fun _ h => .tail _ (.tail _ (.tail _ (.tail _ h))) | exact fun _ h => .tail _ (.tail _ (.tail _ (.tail _ (.tail _ h))))); refine KEnd.intro ?_)
    rw [List.take_add_one, hk, List.map_append]
    exact StrsAre4_append hJ (.cons _ _ .nil))
  (case fin1 =>
    clear F N
    rintro dvs hdv
    refine ⟨_, _, rfl, rfl, rfl, rfl, ?_⟩
    intro DD1 h tk F N off
    have hdv : StrsAre dvs (iks.map (·.2)) := by
      rw [List.take_of_length_le (by have := dat_len hI; rw [List.length_map] at this; rw [List.size_toArray]; (walk_at "my o"))] at hdv
      exact hdv
    clear off
    k_steps
    show wpAny _ _ _ _ _ _
    refine' sorted_spairs (vs := ivs) (n := ni) (ks := iks) ?Fa ?Na ?la ?Ha hK.li hK.nd ?_
    (case Fa => k_asm)
    (case Na => k_asm)
    (case la => k_mem)
    (case Ha => exact hI.mono (by walk_at "my rin"))
    clear F N
    intro DA nA h' us1 ks1 F' N' lA H1 p1 s1
    k_steps
    show wpAny _ _ _ _ _ _
    refine' comp_list_keep (its := dus.toArray) (k := nd) ?hh2 (fun i ys => DatAll R ys (((dks.take i).filter fun k => !(k.2 == refT)).map pairDat)) ?F2 ?N2 ?hm2 ?sz2 ?c12 ?c22 ?c32 ?h02 ?turn2 ?fin2
    (case hh2 => rfl)
    (case F2 => k_asm)
    (case N2 => k_asm)
    (case hm2 => k_mem)
    (case sz2 => (have := dat_len hD; rw [List.length_map] at this; have := hK.ld; rw [sizeLine_eq, List.size_toArray]; (walk_at "my o")))
    (case c12 => decide)
    (case c22 => rfl)
    (case c32 => rfl)
    (case h02 => exact .nil)
    (case turn2 =>
      clear F' N' lA
      rintro i v ys I oI C oC mC D h tk hi hv hJ hoC hxx F N off ne
      have hil : i < dks.length := by
        have := dat_len hD
        rw [List.length_map] at this
        rw [List.size_toArray] at hi
        (walk_at "my o")
      have hk : dks[i]? = some dks[i] := List.getElem?_eq_getElem hil
      generalize dks[i] = k at hk
      obtain ⟨v2, hv2, hin⟩ := dat_get hD (i := i) (d := pairDat k) (by rw [List.getElem?_map, hk]; rfl)
      have hv3 : dus[i]? = some v := by simpa using hv
      rw [hv3] at hv2
      obtain rfl := Option.some.inj hv2
      obtain ⟨TT, t1, t2, n, rfl, hTm⟩ := dat_pair hin
      have NX := News.again (x := (TT, tupO #[.str k.1 t1, .str k.2 t2] n)) N (by repeat (first | exact hTm | refine List.Mem.tail _ ?_))
      clear N
      refine CTurn.one ?_
      k_steps
      · rename _ = true => hP
        (try dsimp +zetaDelta only)
        (refine' CE.intro (by k_asm) (by k_asm) _ ?subq15 (by assumption) ?Jq15; (case subq15 => first | exact fun _ h => h | exact fun _ h => .tail _ h | exact fun _ h => .tail _ (.tail _ h) | exact fun _ h => .tail _ (.tail _ (.tail _ h)) | exact fun _ h => .tail _ (.tail _ (.tail _ (.tail _ h))) | exact fun _ h => .tail _ (.tail _ (.tail _ (.tail _ (.tail _ h))))); refine KEnd.intro ?_)
        exact filt_step (fun k => !(k.2 == refT)) hJ hk hin hP
      · rename _ = false => hP
        (try dsimp +zetaDelta only)
        (refine' CE.intro (by k_asm) (by k_asm) _ ?subq16 (by assumption) ?Jq16; (case subq16 => first | exact fun _ h => h | exact fun _ h => .tail _ h | exact fun _ h => .tail _ (.tail _ h) | exact fun _ h => .tail _ (.tail _ (.tail _ h)) | exact fun _ h => .tail _ (.tail _ (.tail _ (.tail _ h))) | exact fun _ h => .tail _ (.tail _ (.tail _ (.tail _ (.tail _ h))))); refine KEnd.intro ?_)
        rw [filt_skip (fun k => !(k.2 == refT)) hk hP]
        exact hJ)
    (case fin2 =>
      (repeat (rename Fr _ _ _ _ => hZ; clear hZ))
      (repeat (rename News _ _ _ _ => hZ; clear hZ))
      rintro fvs hfv
      intro DF h tk F N off
      have hfv : DatAll R fvs ((dks.filter fun k => !(k.2 == refT)).map pairDat) := by
        rw [List.take_of_length_le (by have := dat_len hD; rw [List.length_map] at this; rw [List.size_toArray]; (walk_at "my o"))] at hfv
        exact hfv
      clear off
      k_steps
      show wpAny _ _ _ _ _ _
      refine' sorted_spairs (vs := fvs) (n := fvs.length) ?Fb ?Nb ?lb ?Hb (by rw [← hK.perm.length_eq]; exact hK.li) (hK.perm.nodup_iff.mp hK.nd) ?_
      (case Fb => k_asm)
      (case Nb => k_asm)
      (case lb => exact .head _)
      (case Hb => exact hfv.mono (by walk_at "my rin"))
      (repeat (rename Fr _ _ _ _ => hZ; clear hZ))
      (repeat (rename News _ _ _ _ => hZ; clear hZ))
      intro DB nB h' us2 ks2 F' N' lB H2 p2 s2
      obtain rfl : ks2 = ks1 := sorted_eq s2 s1 (p2.trans (hK.perm.symm.trans p1.symm))
      clear p2 s2
      k_steps
      show wpAny _ _ _ _ _ _
      have okK : ∀ d ∈ ks2.map pairDat, kqdOk 8 d = true := fun d hd => hK.okI d ((p1.map pairDat).mem_iff.mp hd)
      refine ne_led2 prog w (xs := us1) (ys := us2) (ka := nA) (kb := nB) (ds := ks2.map pairDat) ‹News g L h' ((DB, _) :: _)› (.tail _ (.tail _ (.head _))) (H1.mono (by walk_at "my rin")) (.head _) (H2.mono (by walk_at "my rin")) okK ?u1 ?_
      (case u1 => k_units)
      clear H1 H2 lA lB s1 p1 okK
      k_steps
      show wpAny _ _ _ _ _ _
      refine' sorted_dots prog w (vs := dvs) (n := dvs.length) ?Fc ?Nc ?lc hdv (by rw [List.length_map]; exact hK.li) hK.dots ?_
      (case Fc => k_asm)
      (case Nc => k_asm)
      (case lc => exact .tail _ (.tail _ (.tail _ (.head _))))
      (repeat (rename Fr _ _ _ _ => hZ; clear hZ))
      (repeat (rename News _ _ _ _ => hZ; clear hZ))
      intro DC nC h' us3 F' N' H3
      k_steps
      show wpAny _ _ _ _ _ _
      refine ne_led2 prog w (xs := dvs) (ys := us3) (ka := dvs.length) (kb := nC) (ds := (iks.map (·.2)).map Dat.str) ‹News g L h' ((DC, _) :: _)› (.tail _ (.tail _ (.tail _ (.tail _ (.head _))))) (strs_dat2 hdv) (.head _) (strs_dat2 H3) hK.okP ?u2 ?_
      (case u2 => k_units)
      k_steps
      show wpAny _ _ _ _ _ _
      refine' comp_list_keep (its := tvs.toArray) (k := nt) ?hh3 (fun i ys => ys = []) ?F3 ?N3 ?hm3 ?sz3 ?c13 ?c23 ?c33 ?h03 ?turn3 ?fin3
      (case hh3 => rfl)
      (case F3 => k_asm)
      (case N3 => k_asm)
      (case hm3 => k_mem)
      (case sz3 => (have := dat_len hT; rw [List.length_map] at this; have := hK.lt; rw [sizeLine_eq, List.size_toArray]; (walk_at "my o")))
      (case c13 => decide)
      (case c23 => rfl)
      (case c33 => rfl)
      (case h03 => rfl)
      (case turn3 =>
        (repeat (rename Fr _ _ _ _ => hZ; clear hZ))
        (repeat (rename News _ _ _ _ => hZ; clear hZ))
        rintro i v ys I oI C oC mC D h tk hi hv rfl hoC hxx F N off ne
        have hil : i < tks.length := by
          have := dat_len hT
          rw [List.length_map] at this
          rw [List.size_toArray] at hi
          (walk_at "my o")
        have hk : tks[i]? = some tks[i] := List.getElem?_eq_getElem hil
        generalize tks[i] = k at hk
        obtain ⟨v2, hv2, hin⟩ := dat_get hT (i := i) (d := pairDat k) (by rw [List.getElem?_map, hk]; rfl)
        have hv3 : tvs[i]? = some v := by simpa using hv
        rw [hv3] at hv2
        obtain rfl := Option.some.inj hv2
        obtain ⟨TT, t1, t2, n, rfl, hTm⟩ := dat_pair hin
        have NX := News.again (x := (TT, tupO #[.str k.1 t1, .str k.2 t2] n)) N (by repeat (first | exact hTm | refine List.Mem.tail _ ?_))
        clear N
        refine CTurn.one ?_
        k_steps
        show wpAny _ _ _ _ _ _
        refine notIn_led prog w (xs := dus) (ka := nd) (ks := dks) (k := k) NX ?mD (hD.mono (by walk_at "my rin")) (hin.mono (by walk_at "my rin")) hK.okD (hK.okT _ (List.mem_map_of_mem (List.mem_of_getElem? hk))) (hK.told k (List.mem_of_getElem? hk)) ?u3 ?_
        (case u3 => k_units)
        (case mD => k_mem)
        k_steps
        (try dsimp +zetaDelta only)
        (refine' CE.intro (by k_asm) (by k_asm) _ ?subq17 (by assumption) ?Jq17; (case subq17 => first | exact fun _ h => h | exact fun _ h => .tail _ h | exact fun _ h => .tail _ (.tail _ h) | exact fun _ h => .tail _ (.tail _ (.tail _ h)) | exact fun _ h => .tail _ (.tail _ (.tail _ (.tail _ h))) | exact fun _ h => .tail _ (.tail _ (.tail _ (.tail _ (.tail _ h))))); refine KEnd.intro ?_)
        rfl)
      (case fin3 =>
        (repeat (rename Fr _ _ _ _ => hZ; clear hZ))
        (repeat (rename News _ _ _ _ => hZ; clear hZ))
        rintro ys rfl
        intro DT h tk F N off
        clear off
        k_steps
        show wpAny _ _ _ _ _ _
        refine ne_led2 prog w (xs := []) (ys := []) (ka := 0) (kb := 0) (ds := []) (by k_asm) (.tail _ (.head _)) .nil (.head _) .nil (fun d hd => nomatch hd) ?u4 ?_
        (case u4 => k_units)
        k_steps
        show wpAny _ _ _ _ _ _
        refine' isIn_led prog w (xs := tvs) (ka := nt) (ks := tks) (k := (S, refT)) rf ?N5 ?m5 ?H5 ?D5 hK.okT hK.okS hK.last ?u5 ?_
        (case N5 => k_asm)
        (case m5 => k_mem)
        (case H5 => exact hT.mono (by walk_at "my rin"))
        (case D5 => exact .tuple (vs := [.str S _, .str (Str.ofString "refused") _]) (.head _) (.cons (.str _ _) (.cons (.str _ _) .nil)))
        (case u5 => k_units)
        k_steps
        · exfalso
          rename (rf != rf) = true => hZ
          simp at hZ
        · show wpAny _ _ _ _ _ _
          refine law2_d (s := s) prog w p loose mean mg mb o2 ps x tt K X T a j line tl cs lv toks e1 e2 hch hTk LX (by k_asm) (by walk_at "my look") hc2 (fun q hq => (show News g L _ _ from by k_asm) q ?mm) sep hret
          case mm =>
            rcases List.mem_cons.mp hq with rfl | hq
            · k_mem
            rcases List.mem_cons.mp hq with rfl | hq
            · k_mem
            have hq := hlx q hq
            repeat (first | exact hq | refine List.Mem.tail _ ?_))))
end W2LAWC
end
section
section W2LAWB
noncomputable def BoolEnd (x : Bool) (s : Shared) (v : Value) (s' : Shared) : Prop := ∃ k, v = .bool x ∧ s' = { s with toks := k }
theorem BoolEnd.mk {x y : Bool} {s : Shared} {k : Nat} (h : x = y) : BoolEnd y s (.bool x) { s with toks := k } := ⟨k, by rw [h], rfl⟩
theorem bool_join {M : Model} {A : Around} {E : Value → Shared → Prop} {s : Shared} {t : Sem Value} {Q : Value → Shared → Prop} (x : Bool) (ev : wpAny M A t (BoolEnd x s) (fun _ _ => False) s) (go : ∀ k, Q (.bool x) { s with toks := k }) : wpAny M A t Q E s :=
  wpAny_mono ev (fun v s' ⟨k, e1, e2⟩ => by subst e1 e2; exact go k) fun _ _ x => x.elim
local macro_rules | `(tactic| walk_at "eval BoolOp") => `(tactic| ((fail_if_success (with_reducible show wpAny _ _ _ (BoolEnd _ _) _ _)); refine stopI ?_))
local macro_rules | `(tactic| walk_at "eval IfExp") => `(tactic| ((fail_if_success (with_reducible show wpAny _ _ _ (StrEnd _ _) _ _)); refine stopI ?_))
local macro_rules | `(tactic| walk_at "call ref") => `(tactic| (refine stopI ?_))
local macro_rules | `(tactic| walk_at "binaryOp Add ref ref") => `(tactic| (refine stopI ?_))
local macro_rules | `(tactic| walk_at "execs cons") => `(tactic| (with_reducible refine haltN 7 (by with_unfolding_all rfl) ?_))
theorem gB1 {q t it tc : Addr × Obj} {X B : Led} {c3 c2 y H : Addr × Obj} (h : q ∈ t :: it :: tc :: c3 :: c2 :: y :: H :: (X ++ B)) : q ∈ (t :: it :: tc :: (X ++ B)) ++ [c3, c2, y, H] := memB (P := [t, it, tc]) (H := [c3, c2, y, H]) h
theorem gB2 {q it tc c3 c2 y d : Addr × Obj} {Z R0 : Led} (h : q ∈ d :: c3 :: c2 :: y :: it :: tc :: (Z ++ R0)) : q ∈ (d :: Z) ++ (it :: tc :: c3 :: c2 :: y :: R0) := memUnder (H := [d]) (fun h => memRev3 (P := [c3, c2, y]) (H := [it, tc]) h) h
theorem gB4 {q a b c d : Addr × Obj} {P R : Led} (h : q ∈ P ++ (a :: c :: R)) : q ∈ a :: b :: c :: d :: (P ++ R) := memIns (P := [a]) (H := [b]) (memUnder (H := [a]) (fun h => memIns (P := [c]) (H := [d]) h) (memSw (H := [a, c]) h))
theorem inT1 {r x y z : Bool} (h : r = (!x || (!y || !z))) (e : x = false) : (!x) = r := by rw [h, e]; rfl
theorem inT2 {r x y z : Bool} (h : r = (!x || (!y || !z))) (e : x = true) (f : y = false) : (!y) = r := by rw [h, e, f]; rfl
theorem inT3 {r x y z : Bool} (h : r = (!x || (!y || !z))) (e : x = true) (f : y = true) : (!z) = r := by rw [h, e, f]; rfl
theorem rows_dat {R : Led} : ∀ {rows : List Row}, (∀ r ∈ rows, Row.obj r ∈ R) → DatAll R (rows.map fun r => Value.ref r.a) ((rows.map fun r => (r.k, r.v)).map pairDat)
  | [], _ => .nil
  | r :: rows, h => .cons (.tuple (vs := [.str r.k r.tk, .str r.v r.tv]) (h r (.head _)) (.cons (.str _ _) (.cons (.str _ _) .nil))) (rows_dat fun r' hr => h r' (.tail _ hr))
noncomputable def dueK (t0 : Tab) (S : Str) (rf : Bool) : List (Str × Str) := (likeT t0).map (pairOf t0) ++ [(S, if rf = true then refT else Str.ofString "...")]
noncomputable def inT (S : Str) : Bool := (!(Builtin.Str.occurrences S (Str.ofString "\t") 0 S.length 1).isEmpty) || ((!(Builtin.Str.occurrences S (Str.ofString "\n") 0 S.length 1).isEmpty) || (!(Builtin.Str.occurrences S (Str.ofString "\r") 0 S.length 1).isEmpty))
local macro_rules | `(tactic| k_all) => `(tactic| first | exact List.forall_mem_nil _ | (refine' List.forall_mem_cons.mpr ⟨(by k_ne), (by k_all)⟩) | assumption)
theorem law2_b {g h : Heap} {L fa : Addr} {cd : Value} {s : Shared} {tk : Nat} {m : Str → Option Value} {Q : Flow → Shared → Prop} {E : Value → Shared → Prop} (o2 o3 : Obj) (ps : Array Value) (x : List Nat) (tt ts : Tok) (S : Str) (rf : Bool) (A0 B0 C0 n0 : Nat) (hS : StopOK S rf) (hTT : rf = inT S) (hLK : ∀ (ord tds : List Tab) line vs toks rows trows, EndSt (A0, B0, C0) S rf (1 + (x.count 10 : Int)) ord tds line vs toks rows trows → LawK S rf (rows.map fun r => (r.k, r.v)) (trows.map fun r => (r.k, r.v)) (dueK (A0, B0, C0) S rf)) (c3 : Option Value)
    (K : Below callerA g [] g) (X : (hd2.heap_1 w.params).In g) (T : Top p loose mean mg mb g) (KD : True)
    (a : LexA) (j : LexJ) (line : Int) (tl : Tok) (cs : List Nat) (lv : List Value) (e1 e2 : Nat) (hch : a.chain) (hTk : TakeOK prog w p loose mean mg mb a j)
    (ta tb tc0 : Tok) (ha : A0 < 16) (hb : B0 < 16) (hc : C0 < 16) (H : Addr)
    (LX : Lx2 lv [] cs line [(wdOf (A0, B0, C0)).cps.toList, S.cps.toList] [] (1 + (x.count 10 : Int)))
    (F : Fr g L h m) (htx : m (Str.ofString "text") = some (.str ⟨x.toArray⟩ tt)) (hst : m (Str.ofString "stop") = some (.str S ts)) (hrw : m (Str.ofString "rows") = some (.ref H))
    (hc2 : o2.data = .cell (some (.ref a.lx))) (hc3 : o3.data = .cell c3)
    (N : News g L h ((L + 1 + 1 + 1, o3) :: (L + 1 + 1, o2) :: (226, tabObj ps) :: (H, listOf #[.int A0 ta, .int B0 tb, .int C0 tc0] n0) :: lexLed w 76 a j line tl lv [] e1 e2))
    (sep : ∀ r ∈ [(L + 1 + 1 + 1, o3), (L + 1 + 1, o2), (226, tabObj ps), (H, listOf #[.int A0 ta, .int B0 tb, .int C0 tc0] n0)], ∀ q ∈ lexLed w 76 a j line tl lv [] e1 e2, r.1 ≠ q.1)
    (h3 : @Ne Nat (L + 1 + 1 + 1) H) (h2 : @Ne Nat (L + 1 + 1) H) (h1 : @Ne Nat 226 H) (hL : @LT.lt Nat _ 226 L)
    (hret : ∀ h' tk' m' nw' ps, Fr g L h' m' → News g L h' nw' → (226, tabObj ps) ∈ nw' → Q (.ret (.bool true)) { s with heap := h', toks := tk' }) :
    wpAny (model prog w) (callerA.deeper (envOfC (Str.ofString "law") (scopeOf (lawFn2 20)) L fa cd)) (execs (bodyOf2.drop 7) (envOfC (Str.ofString "law") (scopeOf (lawFn2 20)) L fa cd)) Q E { s with heap := h, toks := tk } := by
  conv in (occs := *) scopeOf _ => all_goals whnf
  conv in execs (List.drop _ _) _ => arg 1; whnf
  refine letPost ?_
  intro K0
  have Nl := N
  dsimp only [lexLed] at Nl
  k_steps
  show wpAny _ _ _ _ _ _
  refine' ConW.use (base := g) (rest := [(L + 1 + 1 + 1, o3), (L + 1 + 1, o2), (226, tabObj ps), (H, listOf #[.int A0 ta, .int B0 tb, .int C0 tc0] n0)]) (walk2_ok prog w p loose mean mg mb (A0, B0, C0) ⟨ha, hb, hc⟩ S rf hS _ a j hTk hch line tl cs lv e1 e2 ts LX) ?B ?F X N T ?A ?f ?k ?d ?u (fun q hq => .tail _ (.tail _ (.tail _ (.tail _ hq)))) (fun r hr => ⟨List.mem_append_left (as := [(L + 1 + 1 + 1, o3), (L + 1 + 1, o2), (226, tabObj ps), (H, listOf #[.int A0 ta, .int B0 tb, .int C0 tc0] n0)]) _ hr, sep r hr⟩) ?ret
  (case B => exact K)
  (case F => k_asm)
  (case A => exact rfl)
  (case f => exact rfl)
  (case k => exact rfl)
  (case d => k_room)
  (case u => k_units)
  intro v h' tk' nw' F' N' zg66 hap
  refine letGoal ?_
  intro Gz
  obtain ⟨TT, it, tc, ord, tds, line1, tl1, vs1, toks1, e11, e21, rows, ni, trows, nt, rfl, hE, rfl, hap0⟩ := zg66
  dsimp only [Gz]
  clear Gz
  clear N Nl F
  have N1 : News g L h' ((TT, tupObj #[.ref it, .ref tc]) :: (it, listOf (rows.map fun r => Value.ref r.a).toArray ni) :: (tc, listOf (trows.map fun r => Value.ref r.a).toArray nt) :: (L + 1 + 1 + 1, o3) :: (L + 1 + 1, o2) :: (226, tabObj ps) :: (H, listOf #[.int A0 ta, .int B0 tb, .int C0 tc0] n0) :: (lexLed w 76 a j line1 tl1 vs1 toks1 e11 e21 ++ (rows.map Row.obj ++ trows.map Row.obj))) := fun q hq => N' q (gB1 hq)
  clear N'
  obtain ⟨R0, hR0⟩ : ∃ R0, R0 = lexLed w 76 a j line1 tl1 vs1 toks1 e11 e21 ++ (rows.map Row.obj ++ trows.map Row.obj) := ⟨_, rfl⟩
  rw [← hR0] at N1 hap
  k_steps
  show wpAny _ _ _ _ _ _
  refine bool_join rf ?ev ?go
  case ev =>
    k_steps
    · exact BoolEnd.mk (inT3 hTT ‹_› ‹_›)
    · exact BoolEnd.mk (inT2 hTT ‹_› ‹_›)
    · exact BoolEnd.mk (inT1 hTT ‹_›)
  intro k7
  k_steps
  show wpAny _ _ _ _ _ _
  have N2 := (show News g L _ ((TT, tupObj #[.ref it, .ref tc]) :: (it, listOf (rows.map fun r => Value.ref r.a).toArray ni) :: (tc, listOf (trows.map fun r => Value.ref r.a).toArray nt) :: (L + 1 + 1 + 1, o3) :: (L + 1 + 1, o2) :: (226, tabObj ps) :: (H, listOf #[.int A0 ta, .int B0 tb, .int C0 tc0] n0) :: R0) from by k_asm)
  have hH : ∀ q ∈ (TT, tupObj #[.ref it, .ref tc]) :: (it, listOf (rows.map fun r => Value.ref r.a).toArray ni) :: (tc, listOf (trows.map fun r => Value.ref r.a).toArray nt) :: R0, q.1 ≠ H := fun q hq => hap q hq _ (.tail _ (.tail _ (.tail _ (.head _))))
  (k_dflt (refine' Con.use (due2_ok prog w p loose mean mg mb H A0 B0 C0 n0 ta tb tc0 ha hb hc) ((it, listOf (rows.map fun r => Value.ref r.a).toArray ni) :: (tc, listOf (trows.map fun r => Value.ref r.a).toArray nt) :: (L + 1 + 1 + 1, o3) :: (L + 1 + 1, o2) :: (226, tabObj ps) :: R0) ?zB32 ?zF32 ?zX32 N2 ?zT32 ?zA32 ?zf32 ?zk32 ?zd32 ?zu32 (fun q hq => by rw [List.mem_singleton.mp hq]; exact .tail _ (.tail _ (.tail _ (.tail _ (.tail _ (.tail _ (.head _))))))) (fun r hr => ⟨.tail _ (memIns (P := [_, _, _, _, _]) (H := [_]) hr), apart1 (fmR5 (P := fun r : Addr × Obj => r.1 ≠ H) (hH _ (.tail _ (.head _))) (hH _ (.tail _ (.tail _ (.head _)))) h3 h2 h1 fun r hr => hH r (.tail _ (.tail _ (.tail _ hr)))) r hr⟩) ?zpre32 ?_); (case zB32 => k_asm); (case zF32 => k_asm); (case zX32 => k_asm); (case zT32 => k_asm); (case zA32 => exact rfl); (case zf32 => exact rfl); (case zk32 => exact rfl); (case zd32 => k_room); (case zu32 => k_units); (case zpre32 => first | exact trivial | skip))
  intro v h' tk' nw' F' N' zg67 zg68
  refine letGoal ?_
  intro Gz
  obtain ⟨D, ds, Z, rfl, rfl, hds⟩ := zg67
  obtain ⟨-, hap2⟩ := zg68
  dsimp only [Gz]
  clear Gz
  have N3 : News g L h' ((D, LCg.lst ds) :: (L + 1 + 1 + 1, o3) :: (L + 1 + 1, o2) :: (226, tabObj ps) :: (it, listOf (rows.map fun r => Value.ref r.a).toArray ni) :: (tc, listOf (trows.map fun r => Value.ref r.a).toArray nt) :: (Z ++ R0)) := fun q hq => N' q (gB2 hq)
  have d3 : @Ne Nat D (L + 1 + 1 + 1) := hap2 _ (.head _) _ (.tail _ (.tail _ (.head _)))
  have i3 : @Ne Nat it (L + 1 + 1 + 1) := hap _ (.tail _ (.head _)) _ (.head _)
  have t3 : @Ne Nat tc (L + 1 + 1 + 1) := hap _ (.tail _ (.tail _ (.head _))) _ (.head _)
  have z3 : ∀ q ∈ Z ++ R0, q.1 ≠ L + 1 + 1 + 1 := fun q hq => by
    rcases List.mem_append.mp hq with hq | hq
    · exact hap2 q (.tail _ hq) _ (.tail _ (.tail _ (.head _)))
    · exact hap q (.tail _ (.tail _ (.tail _ hq))) _ (.head _)
  have z26 : ∀ r ∈ [(L + 1 + 1, o2), (226, tabObj ps)], ∀ q ∈ lexLed w 76 a j line1 tl1 vs1 toks1 e11 e21, r.1 ≠ q.1 := fun r hr q hq => Ne.symm (hap q (.tail _ (.tail _ (.tail _ (by rw [hR0]; exact List.mem_append_left _ hq)))) r (.tail _ (List.mem_append_left [_] hr)))
  obtain ⟨Y, hY⟩ : ∃ Y, Y = Z ++ R0 := ⟨_, rfl⟩
  rw [← hY] at N3 z3
  have hdY : DatAll Y ds (((likeT (A0, B0, C0)).map (pairOf (A0, B0, C0))).map pairDat) := hds.mono fun q hq => by rw [hY]; exact List.mem_append_left _ hq
  have hiY : DatAll Y (rows.map fun r => Value.ref r.a) ((rows.map fun r => (r.k, r.v)).map pairDat) := rows_dat fun r hr => by rw [hY, hR0]; exact List.mem_append_right _ (List.mem_append_right _ (List.mem_append_left _ (List.mem_map_of_mem hr)))
  have htY : DatAll Y (trows.map fun r => Value.ref r.a) ((trows.map fun r => (r.k, r.v)).map pairDat) := rows_dat fun r hr => by rw [hY, hR0]; exact List.mem_append_right _ (List.mem_append_right _ (List.mem_append_right _ (List.mem_map_of_mem hr)))
  have hxY : ∀ q ∈ lexLed w 76 a j line1 tl1 vs1 toks1 e11 e21, q ∈ Y := fun q hq => by rw [hY, hR0]; exact List.mem_append_right _ (List.mem_append_left _ hq)
  have hLK1 := hLK _ _ _ _ _ _ _ hE
  clear N' N2 hH hap hap0 hap2 hds hLK
  k_steps
  show wpAny _ _ _ _ _ _
  refine str_join (if rf = true then refT else Str.ofString "...") ?ev2 ?go2
  case ev2 =>
    k_steps
    · exact StrEnd.mk (if_pos ‹_›).symm
    · exact StrEnd.mk (if_neg (Bool.eq_false_iff.mp ‹_›)).symm
  intro u8 k8
  k_steps
  show wpAny _ _ _ _ _ _
  rename_i T9 h9 l9 LS h10 F10 N10 l10
  have u9 : @LT.lt Nat _ (L + 1 + 1 + 1) T9 := l9.2.1
  clear l9
  refine' kmk_add_lit (its := ds.toArray) (its2 := #[.ref T9]) (zs := ds ++ [.ref T9]) ?Fk N10 ⟨_, (N10 _ (.tail _ (.tail _ (.head _)))).1, rfl, _, rfl⟩ ⟨_, (N10 _ (.head _)).1, rfl, _, rfl⟩ ?ek ?_ ?zk
  (case Fk => k_asm)
  (case ek => rfl)
  (case zk =>
    have h1 := dat_len hdY
    have h2 := like_len (t := (A0, B0, C0)) ⟨ha, hb, hc⟩
    rw [List.length_map, List.length_map] at h1
    rw [sizeLine_eq]
    (show ds.length + 1 ≤ _)
    (walk_at "my o"))
  intro DU h11 F11 N11 l11
  obtain ⟨z1, z2, z3', z4, z5, z6, z7, z8⟩ := l10
  have u0 : @LT.lt Nat _ (L + 1 + 1 + 1) DU := l11 (L + 1 + 1 + 1, o3) (.tail _ (.tail _ (.tail _ (.head _))))
  clear N10 l11
  k_steps
  show wpAny _ _ _ _ _ _
  have hdk : DatAll ((T9, ({ cls := .type "tuple", data := .seq #[.str S ts, .str (if rf = true then refT else Str.ofString "...") u8] } : Obj)) :: Y) (ds ++ [.ref T9]) ((dueK (A0, B0, C0) S rf).map pairDat) := by
    unfold dueK
    rw [List.map_append]
    exact dat_append (hdY.mono fun q hq => .tail _ hq) (.cons (.tuple (vs := [.str S ts, .str (if rf = true then refT else Str.ofString "...") u8]) (.head _) (.cons (.str _ _) (.cons (.str _ _) .nil))) .nil)
  obtain ⟨cs1, LX1⟩ := hE.lx
  refine law2_c (s := s) prog w p loose mean mg mb o2 _ ps x tt ts S rf K X T a j line1 tl1 cs1 vs1 toks1 e11 e21 hch hTk LX1 _ _ _ hLK1 it tc DU _ _ _ ni nt 0 ((T9, ({ cls := .type "tuple", data := .seq #[.str S ts, .str (if rf = true then refT else Str.ofString "...") u8] } : Obj)) :: Y) (by k_asm) (by walk_at "my look") (by walk_at "my look") (by walk_at "my look") (by walk_at "my look") (by walk_at "my look") hc2 (by assumption) (fun q hq => (show News g L _ ((DU, _) :: _) from by k_asm) q ?mm) (hiY.mono fun q hq => .tail _ hq) (htY.mono fun q hq => .tail _ hq) hdk (fun q hq => .tail _ (hxY q hq)) z26 hret
  case mm =>
    exact gB4 (P := [_, _, _, _, _]) hq
end W2LAWB
end
section
section W2LAWA
local macro_rules | `(tactic| walk_at "call ref") => `(tactic| (refine stopI ?_))
theorem lex_ge2 {C : Addr} {a : LexA} {j : LexJ} {line : Int} {tl : Tok} {vs toks : List Value} {e1 e2 : Nat} (hch : a.chain) : ∀ q ∈ lexLed w C a j line tl vs toks e1 e2, @LE.le Nat _ a.cc q.1 := by
  obtain ⟨c1, c2, c3, c4, c5, c6, c7, c8⟩ := hch
  have e1 := Nat.le_of_lt c1
  have e2 := Nat.le_trans e1 (Nat.le_of_lt c2)
  have e3 := Nat.le_trans e2 (Nat.le_of_lt c3)
  have e4 := Nat.le_trans e3 (Nat.le_of_lt c4)
  have e5 := Nat.le_trans e4 (Nat.le_of_lt c5)
  have e6 := Nat.le_trans e5 (Nat.le_of_lt c6)
  have e7 := Nat.le_trans e6 (Nat.le_of_lt c7)
  exact fm9 (P := fun q : Addr × Obj => @LE.le Nat _ a.cc q.1) e7 e6 (Nat.le_trans e7 (Nat.le_of_lt c8)) e5 e4 e3 e2 (Nat.le_refl _) e1
theorem gA9 {q c3 c2 y H c1 : Addr × Obj} {R : Led} (h : q ∈ c3 :: c2 :: y :: H :: R) : q ∈ (R ++ [y]) ++ [H, c3, c2, c1] := by
  simp only [List.mem_cons, List.mem_append, List.not_mem_nil, or_false] at h ⊢
  rcases h with h | h | h | h | h <;> simp [h]
theorem ne226 {L : Addr} (k : Nat) (h : @LT.lt Nat _ 226 L) : @Ne Nat (L + k) 226 := Nat.ne_of_gt (Nat.lt_of_lt_of_le h (Nat.le_add_right _ _))
theorem str_cat2 (t r : List Nat) : ({ cps := t.toArray } : Str) ++ { cps := r.toArray } = { cps := (t ++ r).toArray } := str_pushL t r
local macro_rules | `(tactic| walk_at "binaryOp Add str str") => `(tactic| (k_here; (with_reducible show wpAny _ _ (binaryOp .Add (.str _ _) (.str _ _)) _ _ _); k_dflt (refine KOpn.add (by first | walk_at "my o" | (simp only [PySem.Str.length_append]; walk_at "my o")) ?_); intro _ _ _))
local macro_rules | `(tactic| k_all) => `(tactic| first | exact List.forall_mem_nil _ | (refine' List.forall_mem_cons.mpr ⟨(by k_ne), (by k_all)⟩) | assumption)
local macro_rules | `(tactic| walk_at "execs cons") => `(tactic| (with_reducible refine haltN 10 (by with_unfolding_all rfl) ?_))
structure SpellK (z : Nat) (W SL P1 P2 : List Nat) (c1 c2 : Nat) : Prop where
  l1 : W.length ≤ 10
  l2 : SL.length ≤ 10
  p1 : (if ((z : Nat) : Int).fmod 2 = 0 then (⟨(bareS W).toArray⟩ : Str) else quotS ⟨W.toArray⟩) = ⟨P1.toArray⟩
  p2 : (if (((z : Nat) : Int).fdiv 2).fmod 2 = 0 then (⟨(bareS SL).toArray⟩ : Str) else quotS ⟨SL.toArray⟩) = ⟨P2.toArray⟩
  n1 : P1.length ≤ 100
  n2 : P2.length ≤ 100
  r1 : (Txt.replace ⟨W.toArray⟩ (Str.ofString "\\") (Str.ofString "\\\\")).length ≤ 1000 ∧ (Txt.replace (Txt.replace ⟨W.toArray⟩ (Str.ofString "\\") (Str.ofString "\\\\")) (Str.ofString "\"") (Str.ofString "\\\"")).length ≤ 1000
  r2 : (Txt.replace ⟨SL.toArray⟩ (Str.ofString "\\") (Str.ofString "\\\\")).length ≤ 1000 ∧ (Txt.replace (Txt.replace ⟨SL.toArray⟩ (Str.ofString "\\") (Str.ofString "\\\\")) (Str.ofString "\"") (Str.ofString "\\\"")).length ≤ 1000
  b1 : Txt.item (Str.ofString " \t\r\n") ((((z : Nat) : Int).fdiv 4).fmod 4) = ⟨#[c1]⟩
  b2 : Txt.item (Str.ofString " \t\r\n") ((((z : Nat) : Int).fdiv 16).fmod 4) = ⟨#[c2]⟩
  tok : Toks ([c1] ++ P1 ++ [c2] ++ P2) [W, SL]
theorem law2_a3 {g h : Heap} {L fa : Addr} {cd : Value} {s : Shared} {tk : Nat} {m : Str → Option Value} {Q : Flow → Shared → Prop} {E : Value → Shared → Prop} (o1 o2 o3 : Obj) (z : Nat) (tz : Tok) (SL P1 P2 : List Nat) (c1 c2 : Nat) (ts : Tok) (rf : Bool) (A0 B0 C0 n0 : Nat) (hS : StopOK ⟨SL.toArray⟩ rf) (hTT : rf = inT ⟨SL.toArray⟩) (hSo : PyData.strOk ⟨SL.toArray⟩ = true)
    (hLK : ∀ (x : Int) (ord tds : List Tab) line vs toks rows trows, EndSt (A0, B0, C0) ⟨SL.toArray⟩ rf x ord tds line vs toks rows trows → LawK ⟨SL.toArray⟩ rf (rows.map fun r => (r.k, r.v)) (trows.map fun r => (r.k, r.v)) (dueK (A0, B0, C0) ⟨SL.toArray⟩ rf))
    (x2 x3 : Option Value)
    (K : Below callerA g [] g) (X : (hd2.heap_1 w.params).In g) (T : Top p loose mean mg mb g) (CH : CodeHd g 230 226)
    (ta tb tc0 : Tok) (ha : A0 < 16) (hb : B0 < 16) (hc : C0 < 16) (H : Addr)
    (SK : SpellK z (wdOf (A0, B0, C0)).cps.toList SL P1 P2 c1 c2)
    (F : Fr g L h m) (hst : m (Str.ofString "stop") = some (.str ⟨SL.toArray⟩ ts)) (hrw : m (Str.ofString "rows") = some (.ref H))
    (hc1 : o1.data = .cell (some (.int ((z : Nat) : Int) tz))) (hc2 : o2.data = .cell x2) (hc3 : o3.data = .cell x3)
    (N : News g L h [(H, listOf #[.int A0 ta, .int B0 tb, .int C0 tc0] n0), (L + 1 + 1 + 1, o3), (L + 1 + 1, o2), (L + 1, o1), (226, tabObj #[])])
    (h3 : @Ne Nat (L + 1 + 1 + 1) H) (h2 : @Ne Nat (L + 1 + 1) H) (h1' : @Ne Nat (L + 1) H) (h1 : @Ne Nat 226 H) (hL : @LT.lt Nat _ 226 L)
    (hret : ∀ h' tk' m' nw' ps, Fr g L h' m' → News g L h' nw' → (226, tabObj ps) ∈ nw' → Q (.ret (.bool true)) { s with heap := h', toks := tk' }) :
    wpAny (model prog w) (callerA.deeper (envOfC (Str.ofString "law") (scopeOf (lawFn2 20)) L fa cd)) (execs (bodyOf2.drop 4) (envOfC (Str.ofString "law") (scopeOf (lawFn2 20)) L fa cd)) Q E { s with heap := h, toks := tk } := by
  conv in (occs := *) scopeOf _ => all_goals whnf
  conv in execs (List.drop _ _) _ => arg 1; whnf
  refine letPost ?_
  intro K0
  obtain ⟨l1, l2, p1, p2, n1, n2, r1, r2, b1, b2, htok⟩ := SK
  have g1 : (0 : Int) ≤ (((z : Nat) : Int).fdiv 4).fmod 4 := Int.fmod_nonneg_of_pos _ (by decide)
  have g2 : (((z : Nat) : Int).fdiv 4).fmod 4 < 4 := Int.fmod_lt_of_pos _ (by decide)
  have g3 : (0 : Int) ≤ (((z : Nat) : Int).fdiv 16).fmod 4 := Int.fmod_nonneg_of_pos _ (by decide)
  have g4 : (((z : Nat) : Int).fdiv 16).fmod 4 < 4 := Int.fmod_lt_of_pos _ (by decide)
  k_steps
  show wpAny _ _ _ _ _ _
  (k_dflt (refine' Con.use (word2_ok prog w p loose mean mg mb H A0 B0 C0 n0 ta tb tc0 ha hb hc) [(L + 1 + 1 + 1, o3), (L + 1 + 1, o2), (L + 1, o1), (226, tabObj #[])] ?zB33 ?zF33 ?zX33 N ?zT33 ?zA33 ?zf33 ?zk33 ?zd33 ?zu33 (fun q hq => by rw [List.mem_singleton.mp hq]; exact .head _) (fun r hr => ⟨.tail _ hr, apart1 (fm4 (P := fun r : Addr × Obj => r.1 ≠ H) h3 h2 h1' h1) r hr⟩) ?zpre33 ?_); (case zB33 => k_asm); (case zF33 => k_asm); (case zX33 => k_asm); (case zT33 => k_asm); (case zA33 => exact rfl); (case zf33 => exact rfl); (case zk33 => exact rfl); (case zd33 => k_room); (case zu33 => k_units); (case zpre33 => first | exact trivial | skip))
  intro v h' tk' nw' F' N' zg58 zg59
  refine letGoal ?_
  intro Gz
  obtain ⟨⟨t5, rfl⟩, rfl⟩ := zg58
  clear zg59
  dsimp only [Gz]
  clear Gz
  dsimp only [List.cons_append, List.nil_append] at N'
  clear N F
  have NN := N'
  k_steps
  show wpAny _ _ _ _ _ _
  have ew : wordT A0 B0 C0 = ⟨(wdOf (A0, B0, C0)).cps.toList.toArray⟩ := by simp [wdOf]
  rw [ew]
  (k_dflt (refine' Con.use (spelled2_ok prog w p loose mean mg mb (wdOf (A0, B0, C0)).cps.toList t5 _ _ l1 r1.1 r1.2) [(H, listOf #[.int A0 ta, .int B0 tb, .int C0 tc0] n0), (L + 1 + 1 + 1, o3), (L + 1 + 1, o2), (L + 1, o1), (226, tabObj #[])] ?zB34 ?zF34 ?zX34 NN ?zT34 ?zA34 ?zf34 ?zk34 ?zd34 ?zu34 (fun q hq => nomatch hq) (fun r hr => ⟨hr, fun q hq => nomatch hq⟩) ?zpre34 ?_); (case zB34 => k_asm); (case zF34 => k_asm); (case zX34 => k_asm); (case zT34 => k_asm); (case zA34 => exact rfl); (case zf34 => exact rfl); (case zk34 => exact rfl); (case zd34 => k_room); (case zu34 => k_units); (case zpre34 => first | exact trivial | skip))
  intro v h' tk' nw' F' N' zg60 zg61
  refine letGoal ?_
  intro Gz
  obtain ⟨⟨t6, rfl⟩, rfl⟩ := zg60
  clear zg61
  dsimp only [Gz]
  clear Gz
  dsimp only [List.cons_append, List.nil_append] at N'
  rw [p1]
  have q1 : (⟨P1.toArray⟩ : Str).length ≤ 100 := by show P1.toArray.size ≤ 100; simpa using n1
  have q2 : (⟨P2.toArray⟩ : Str).length ≤ 100 := by show P2.toArray.size ≤ 100; simpa using n2
  clear NN
  k_steps
  show wpAny _ _ _ _ _ _
  have NN := (show News g L _ [(H, listOf #[.int A0 ta, .int B0 tb, .int C0 tc0] n0), (L + 1 + 1 + 1, o3), (L + 1 + 1, o2), (L + 1, o1), (226, tabObj #[])] from by k_asm)
  (k_dflt (refine' Con.use (spelled2_ok prog w p loose mean mg mb SL ts _ _ l2 r2.1 r2.2) [(H, listOf #[.int A0 ta, .int B0 tb, .int C0 tc0] n0), (L + 1 + 1 + 1, o3), (L + 1 + 1, o2), (L + 1, o1), (226, tabObj #[])] ?zB35 ?zF35 ?zX35 NN ?zT35 ?zA35 ?zf35 ?zk35 ?zd35 ?zu35 (fun q hq => nomatch hq) (fun r hr => ⟨hr, fun q hq => nomatch hq⟩) ?zpre35 ?_); (case zB35 => k_asm); (case zF35 => k_asm); (case zX35 => k_asm); (case zT35 => k_asm); (case zA35 => exact rfl); (case zf35 => exact rfl); (case zk35 => exact rfl); (case zd35 => k_room); (case zu35 => k_units); (case zpre35 => first | exact trivial | skip))
  intro v h' tk' nw' F' N' zg62 zg63
  refine letGoal ?_
  intro Gz
  obtain ⟨⟨t7, rfl⟩, rfl⟩ := zg62
  clear zg63
  dsimp only [Gz]
  clear Gz
  dsimp only [List.cons_append, List.nil_append] at N'
  rw [p2]
  clear NN
  k_steps
  show wpAny _ _ _ _ _ _
  obtain ⟨XX, hXX⟩ : ∃ XX, XX = [c1] ++ P1 ++ [c2] ++ P2 := ⟨_, rfl⟩
  have eX : (Txt.item (Str.ofString " \t\r\n") ((((z : Nat) : Int).fdiv 4).fmod 4) ++ (⟨P1.toArray⟩ : Str) ++ Txt.item (Str.ofString " \t\r\n") ((((z : Nat) : Int).fdiv 16).fmod 4) ++ (⟨P2.toArray⟩ : Str)) = ⟨XX.toArray⟩ := by
    rw [b1, b2, hXX]
    show ((⟨[c1].toArray⟩ : Str) ++ ⟨P1.toArray⟩ ++ ⟨[c2].toArray⟩ ++ ⟨P2.toArray⟩) = _
    rw [str_cat2, str_cat2, str_cat2]
  rw [← hXX] at htok
  have hXl : XX.length ≤ 300 := by rw [hXX]; simp only [List.length_append, List.length_singleton]; (walk_at "my o")
  rw [eX]
  have F8 := ‹Fr g L _ (fun y => if y = Str.ofString "text" then _ else _)›
  rw [eX] at F8
  have N8 := (show News g L _ [(H, listOf #[.int A0 ta, .int B0 tb, .int C0 tc0] n0), (L + 1 + 1 + 1, o3), (L + 1 + 1, o2), (L + 1, o1), (226, tabObj #[])] from by k_asm)
  (repeat (rename Fr _ _ _ (fun y => if y = Str.ofString "text" then some (Value.str (_ ++ _) _) else _) => hZ; clear hZ))
  have hg226 : g.get? 226 = none := (N8 (226, tabObj #[]) (.tail _ (.tail _ (.tail _ (.tail _ (.head _)))))).2.2
  clear p1 p2 b1 b2 r1 r2 eX q1 q2
  k_dflt (refine' Con.use (lexer_ok prog w p loose mean mg mb ⟨XX.toArray⟩ _ (by show XX.toArray.size ≤ 2000; rw [List.size_toArray]; (walk_at "my o"))) [(H, listOf #[.int A0 ta, .int B0 tb, .int C0 tc0] n0), (L + 1 + 1 + 1, o3), (L + 1 + 1, o2), (L + 1, o1)] ?B ?F ?X N8 ?T ?A ?f ?k ?d ?u (fun q hq => by rw [List.mem_singleton.mp hq]; exact .tail _ (.tail _ (.tail _ (.tail _ (.head _))))) (fun r hr => ⟨List.mem_append_left (as := [(H, listOf #[.int A0 ta, .int B0 tb, .int C0 tc0] n0), (L + 1 + 1 + 1, o3), (L + 1 + 1, o2), (L + 1, o1)]) [(226, tabObj #[])] hr, apart1 (fm4 (P := fun r : Addr × Obj => r.1 ≠ 226) (Ne.symm h1) (ne226 3 hL) (ne226 2 hL) (ne226 1 hL)) r hr⟩) ?pre ?ret)
  (case B => k_asm)
  (case F => exact F8)
  (case X => k_asm)
  (case T => k_asm)
  (case A => exact rfl)
  (case f => exact rfl)
  (case k => exact rfl)
  (case d => k_room)
  (case u => k_units)
  (case pre =>
    refine CH.keeps (fun b o e => hideAll_get _ (PyProof.Rows.Fr.keep F8 b o e) (fun q => ?_))
    have q := List.mem_singleton.mp q
    rw [q, hg226] at e
    cases e)
  intro v h' tk' nw' F' N' zg64 zg65
  refine letGoal ?_
  intro Gz
  obtain ⟨a, j, tl, lv, e1, e2, ps, rfl, rfl, hch, hcc, hlvx, hTk⟩ := zg64
  obtain ⟨-, hap⟩ := zg65
  dsimp only [Gz]
  clear Gz
  have LX : Lx2 lv [] XX 1 [(wdOf (A0, B0, C0)).cps.toList, SL] [] (1 + (XX.count 10 : Int)) := ⟨by simpa using hlvx, htok, .nil, by (walk_at "my o"), by (walk_at "my o"), by (walk_at "my o"), rfl⟩
  have sep : ∀ r ∈ [(L + 1 + 1 + 1, o3), (L + 1 + 1, o2), (226, tabObj ps), (H, listOf #[.int A0 ta, .int B0 tb, .int C0 tc0] n0)], ∀ q ∈ lexLed w 76 a j 1 tl lv [] e1 e2, r.1 ≠ q.1 := fm4 (P := fun r : Addr × Obj => ∀ q ∈ lexLed w 76 a j 1 tl lv [] e1 e2, r.1 ≠ q.1) (fun q hq => Ne.symm (hap q (List.mem_append_left [(226, tabObj ps)] hq) _ (.tail _ (.head _)))) (fun q hq => Ne.symm (hap q (List.mem_append_left [(226, tabObj ps)] hq) _ (.tail _ (.tail _ (.head _))))) (fun q hq => neN (Nat.ne_of_lt (Nat.lt_of_lt_of_le hcc (lex_ge2 w hch q hq)))) (fun q hq => Ne.symm (hap q (List.mem_append_left [(226, tabObj ps)] hq) _ (.head _)))
  have sep2 : ∀ q ∈ lexLed w 76 a j 1 tl lv [] e1 e2, q.1 ≠ L + 1 + 1 := fun q hq => Ne.symm (sep (L + 1 + 1, o2) (.tail _ (.head _)) q hq)
  obtain ⟨RX, hRX⟩ : ∃ RX, RX = lexLed w 76 a j 1 tl lv [] e1 e2 := ⟨_, rfl⟩
  have sep3 := sep2
  rw [← hRX] at sep2
  have N9 : News g L h' ((L + 1 + 1 + 1, o3) :: (L + 1 + 1, o2) :: (226, tabObj ps) :: (H, listOf #[.int A0 ta, .int B0 tb, .int C0 tc0] n0) :: RX) := fun q hq => N' q (gA9 (by rw [hRX] at hq; exact hq))
  clear N' hap F8 N8
  k_steps
  show wpAny _ _ _ _ _ _
  refine law2_b (s := s) prog w p loose mean mg mb _ o3 ps XX _ ts ⟨SL.toArray⟩ rf A0 B0 C0 n0 hS hTT (hLK _) x3 K X T trivial a j 1 tl XX lv e1 e2 hch hTk ta tb tc0 ha hb hc H LX (by k_asm) (by walk_at "my look") (by walk_at "my look") (by walk_at "my look") (by assumption) hc3 (by rw [← hRX]; k_asm) (fm4 (P := fun r : Addr × Obj => ∀ q ∈ lexLed w 76 a j 1 tl lv [] e1 e2, r.1 ≠ q.1) (sep _ (.head _)) (fun q hq => Ne.symm (sep3 q hq)) (sep _ (.tail _ (.tail _ (.head _)))) (sep _ (.tail _ (.tail _ (.tail _ (.head _)))))) h3 h2 h1 hL hret
end W2LAWA
end
end
end
section
section W2STOP
theorem pow8_ne (n : Nat) : ((8 : Int) ^ n) ≠ 0 := Int.ne_of_gt (Int.pow_pos (by decide))
theorem pow8_small (i : Nat) (h : (i : Int) < 6) : ((8 : Int) ^ ((i : Int).toNat)).natAbs < 1073741824 := by
  have : i = 0 ∨ i = 1 ∨ i = 2 ∨ i = 3 ∨ i = 4 ∨ i = 5 := by (walk_at "my o")
  rcases this with rfl | rfl | rfl | rfl | rfl | rfl <;> decide
noncomputable def stopC (z k : Nat) : Nat := [32, 34, 92, 10, 35, 120, 9, 13].getD (z / 256 / 8 ^ k % 8) 0
noncomputable def stopL (z : Nat) : List Nat := (List.range (z / 64 % 4)).map (stopC z)
theorem stop_item : ∀ i : _root_.Fin 8, Txt.item (Str.ofString " \"\\\n#x\t\r") ((i.val : Nat) : Int) = ⟨#[[32, 34, 92, 10, 35, 120, 9, 13].getD i.val 0]⟩ := by decide +kernel
theorem stop_at (z k : Nat) : Txt.item (Str.ofString " \"\\\n#x\t\r") (((((z : Nat) : Int).fdiv 256).fdiv (8 ^ ((k : Nat) : Int).toNat)).fmod 8) = ⟨[stopC z k].toArray⟩ := by
  have e : ((((z : Nat) : Int).fdiv 256).fdiv (8 ^ ((k : Nat) : Int).toNat)).fmod 8 = ((z / 256 / 8 ^ k % 8 : Nat) : Int) := by
    rw [Int.toNat_natCast]
    have h1 : ((z : Nat) : Int).fdiv 256 = ((z / 256 : Nat) : Int) := by
      rw [Int.fdiv_eq_ediv_of_nonneg _ (by decide)]; rfl
    have h2 : (8 : Int) ^ k = ((8 ^ k : Nat) : Int) := by simp
    rw [h1, h2, Int.fdiv_eq_ediv_of_nonneg _ (Int.natCast_nonneg _), Int.fmod_eq_emod_of_nonneg _ (by decide)]
    rfl
  rw [e]
  exact stop_item ⟨z / 256 / 8 ^ k % 8, Nat.mod_lt _ (by decide)⟩
theorem range4 : ∀ n : _root_.Fin 4, Builtin.Range.small 0 ((n.val : Nat) : Int) 1 = true ∧ Builtin.Range.rangeSize 0 ((n.val : Nat) : Int) 1 = ((n.val : Nat) : Int) := by decide
end W2STOP
section W2PLAIN3
open PySem.Builtin.Str in
theorem repl_none {x : List Nat} {d : Nat} (h : d ∉ x) (z : Str) : Txt.replace ⟨x.toArray⟩ ⟨#[d]⟩ z = ⟨x.toArray⟩ := by
  have key : ∀ l : List Nat, d ∉ l → Spec.countIn (.str ⟨#[d]⟩) (l.map fun n => PyData.str ⟨#[n]⟩) = 0 := by
    intro l
    induction l with
    | nil => intro _; rfl
    | cons c l ih =>
      intro hl
      rw [List.map_cons, Spec.countIn, ih fun q => hl (.tail _ q)]
      have : Spec.same (PyData.str ⟨#[c]⟩) (PyData.str ⟨#[d]⟩) = false := by
        have hc : ¬ c = d := fun e => hl (e ▸ .head _)
        simp [Spec.same, hc]
      simp [this]
  have h1 := count_is ⟨x.toArray⟩ d
  have h2 : (⟨x.toArray⟩ : Str).cps.toList = x := by simp
  rw [h2, key x h] at h1
  unfold Txt.count at h1
  have h3 : (occurrences ⟨x.toArray⟩ ⟨#[d]⟩ 0 (⟨x.toArray⟩ : Str).length ((⟨x.toArray⟩ : Str).length + 1)).length = 0 := by exact_mod_cast h1
  have h4 := List.eq_nil_of_length_eq_zero h3
  unfold Txt.replace
  rw [if_pos (by rw [h4]; rfl)]
noncomputable def qS (cs : List Nat) : List Nat := 34 :: ((cs.flatMap fun c => if c = 92 ∨ c = 34 then [92, c] else [c]) ++ [34])
noncomputable def stCh : List Nat := [32, 34, 92, 10, 35, 120, 9, 13]
noncomputable def chkStp (SL : List Nat) : Bool :=
  decide (Txt.lower ⟨SL.toArray⟩ = ⟨SL.toArray⟩) && (decide (SL.length ≤ 3) && (SL.all (fun c => Nat.blt c 128) && ((if inT ⟨SL.toArray⟩ then hitIn nameCode SL.toArray else SL.all okName) &&
  (decide (quotS ⟨SL.toArray⟩ = ⟨(qS SL).toArray⟩) && (decide ((Txt.replace ⟨SL.toArray⟩ (Str.ofString "\\") (Str.ofString "\\\\")).length ≤ 1000) && (decide ((Txt.replace (Txt.replace ⟨SL.toArray⟩ (Str.ofString "\\") (Str.ofString "\\\\")) (Str.ofString "\"") (Str.ofString "\\\"")).length ≤ 1000) &&
  (decide (tok (bareS SL) = (SL, [])) && (decide (tok (qS SL) = (SL, [])) && (decide ((qS SL).length ≤ 100) && decide ((bareS SL).length ≤ 100))))))))))
set_option maxRecDepth 100000 in
theorem chkst_0 : chkStp [] = true := by decide +kernel
set_option maxRecDepth 100000 in
theorem chkst_1 : (stCh.all fun a => chkStp [a]) = true := by decide +kernel
set_option maxRecDepth 100000 in
theorem chkst_2 : (stCh.all fun a => stCh.all fun b => chkStp [a, b]) = true := by decide +kernel
set_option maxRecDepth 100000 in
theorem chkst3_32 : (stCh.all fun b => stCh.all fun c => chkStp [32, b, c]) = true := by decide +kernel
set_option maxRecDepth 100000 in
theorem chkst3_34 : (stCh.all fun b => stCh.all fun c => chkStp [34, b, c]) = true := by decide +kernel
set_option maxRecDepth 100000 in
theorem chkst3_92 : (stCh.all fun b => stCh.all fun c => chkStp [92, b, c]) = true := by decide +kernel
set_option maxRecDepth 100000 in
theorem chkst3_10 : (stCh.all fun b => stCh.all fun c => chkStp [10, b, c]) = true := by decide +kernel
set_option maxRecDepth 100000 in
theorem chkst3_35 : (stCh.all fun b => stCh.all fun c => chkStp [35, b, c]) = true := by decide +kernel
set_option maxRecDepth 100000 in
theorem chkst3_120 : (stCh.all fun b => stCh.all fun c => chkStp [120, b, c]) = true := by decide +kernel
set_option maxRecDepth 100000 in
theorem chkst3_9 : (stCh.all fun b => stCh.all fun c => chkStp [9, b, c]) = true := by decide +kernel
set_option maxRecDepth 100000 in
theorem chkst3_13 : (stCh.all fun b => stCh.all fun c => chkStp [13, b, c]) = true := by decide +kernel
theorem stop_all {SL : List Nat} (hl : SL.length ≤ 3) (hc : ∀ c ∈ SL, c ∈ stCh) : chkStp SL = true := by
  match SL, hl, hc with
  | [], _, _ => exact chkst_0
  | [a], _, hc => exact List.all_eq_true.mp chkst_1 a (hc a (.head _))
  | [a, b], _, hc => exact List.all_eq_true.mp (List.all_eq_true.mp chkst_2 a (hc a (.head _))) b (hc b (.tail _ (.head _)))
  | [a, b, c], _, hc =>
    have ha := hc a (.head _)
    have hb := hc b (.tail _ (.head _))
    have hcc := hc c (.tail _ (.tail _ (.head _)))
    have key : ∀ {a : Nat}, (stCh.all fun b => stCh.all fun c => chkStp [a, b, c]) = true → chkStp [a, b, c] = true := fun h => List.all_eq_true.mp (List.all_eq_true.mp h b hb) c hcc
    simp only [stCh, List.mem_cons, List.not_mem_nil, or_false] at ha
    rcases ha with rfl | rfl | rfl | rfl | rfl | rfl | rfl | rfl
    · exact key chkst3_32
    · exact key chkst3_34
    · exact key chkst3_92
    · exact key chkst3_10
    · exact key chkst3_35
    · exact key chkst3_120
    · exact key chkst3_9
    · exact key chkst3_13
  | a :: b :: c :: d :: r, hl, _ => exact absurd (show r.length + 1 + 1 + 1 + 1 ≤ 3 from hl) (Nat.not_le_of_lt (Nat.succ_le_succ (Nat.succ_le_succ (Nat.succ_le_succ (Nat.succ_le_succ (Nat.zero_le _))))))
structure StopF (SL : List Nat) : Prop where
  low : Txt.lower ⟨SL.toArray⟩ = ⟨SL.toArray⟩
  len : SL.length ≤ 3
  small : ∀ c ∈ SL, c < 128
  name : if inT ⟨SL.toArray⟩ = true then hitIn nameCode SL.toArray = true else ∀ c ∈ SL, okName c = true
  quot : quotS ⟨SL.toArray⟩ = ⟨(qS SL).toArray⟩
  r1 : (Txt.replace ⟨SL.toArray⟩ (Str.ofString "\\") (Str.ofString "\\\\")).length ≤ 1000
  r2 : (Txt.replace (Txt.replace ⟨SL.toArray⟩ (Str.ofString "\\") (Str.ofString "\\\\")) (Str.ofString "\"") (Str.ofString "\\\"")).length ≤ 1000
  tb : tok (bareS SL) = (SL, [])
  tq : tok (qS SL) = (SL, [])
  nq : (qS SL).length ≤ 100
  nb : (bareS SL).length ≤ 100
theorem stopF {SL : List Nat} (hl : SL.length ≤ 3) (hc : ∀ c ∈ SL, c ∈ stCh) : StopF SL := by
  have h := stop_all hl hc
  unfold chkStp at h
  simp only [Bool.and_eq_true, decide_eq_true_eq] at h
  obtain ⟨h1, h2, h3, h4, h5, h6, h7, h8, h9, h10, h11⟩ := h
  refine ⟨h1, h2, fun c hc => Nat.le_of_ble_eq_true (List.all_eq_true.mp h3 c hc), ?_, h5, h6, h7, h8, h9, h10, h11⟩
  split at h4
  · rename_i hi; rw [if_pos hi]; exact h4
  · rename_i hi; rw [if_neg hi]; exact List.all_eq_true.mp h4
theorem stopL_ok (z : Nat) : (stopL z).length ≤ 3 ∧ ∀ c ∈ stopL z, c ∈ stCh := by
  refine ⟨by unfold stopL; rw [List.length_map, List.length_range]; have := Nat.mod_lt (z / 64) (by decide : 0 < 4); (walk_at "my o"), fun c hc => ?_⟩
  unfold stopL at hc
  obtain ⟨k, -, rfl⟩ := List.mem_map.mp hc
  have key : ∀ i : _root_.Fin 8, [32, 34, 92, 10, 35, 120, 9, 13].getD i.val 0 ∈ stCh := by decide
  exact key ⟨z / 256 / 8 ^ k % 8, Nat.mod_lt _ (by decide)⟩
theorem plain_stop (z : Nat) : ∃ rf, StopOK ⟨(stopL z).toArray⟩ rf ∧ rf = inT ⟨(stopL z).toArray⟩ ∧ PyData.strOk ⟨(stopL z).toArray⟩ = true := by
  obtain ⟨h1, h2⟩ := stopL_ok z
  have S := stopF h1 h2
  generalize stopL z = SL at *
  refine ⟨_, ⟨S.low, by show SL.toArray.size ≤ 3; rw [List.size_toArray]; exact h1, fun u hu => ?_, fun u hu => ?_, fun h => ?_, fun h => ?_⟩, rfl, ?_⟩
  · refine beq_eq_false_iff_ne.mpr fun e => ?_
    have : 128 + fig u.2.2 ∈ SL := by
      have e2 := congrArg (fun s : Str => s.cps.toList) e
      have e3 : [lowF u.1, lowF u.2.1, 128 + fig u.2.2] = SL := by simpa [lowW] using e2
      rw [← e3]; simp
    have := S.small _ this
    (walk_at "my o")
  · refine beq_eq_false_iff_ne.mpr fun e => ?_
    have : 128 + fig u.2.2 ∈ SL := by
      have e2 := congrArg (fun s : Str => s.cps.toList) e
      have e3 : [64 + fig u.1, 64 + fig u.2.1, 128 + fig u.2.2] = SL := by simpa [wdOf, wordT] using e2
      rw [← e3]; simp
    have := S.small _ this
    (walk_at "my o")
  · have := S.name
    rw [if_pos h] at this
    exact this
  · have := S.name
    rw [if_neg (by rw [h]; decide)] at this
    intro c hc
    exact this c (by simpa using hc)
  · unfold PyData.strOk
    rw [← Array.all_toList, List.all_eq_true]
    intro c hc
    have hc : c ∈ SL := by simpa using hc
    have := S.small c hc
    exact decide_eq_true (Nat.lt_trans this (by decide))
end W2PLAIN3
end
section
section W2PLAIN4
theorem blk4 : ∀ i : _root_.Fin 4, Txt.item (Str.ofString " \t\r\n") ((i.val : Nat) : Int) = ⟨#[[32, 9, 13, 10].getD i.val 0]⟩ ∧ isWs ([32, 9, 13, 10].getD i.val 0) = true := by decide +kernel
theorem fmod_nat (z k : Nat) : ((z : Nat) : Int).fmod ((k : Nat) : Int) = ((z % k : Nat) : Int) := by
  rw [Int.fmod_eq_emod_of_nonneg _ (Int.natCast_nonneg _)]; rfl
theorem fdiv_nat (z k : Nat) : ((z : Nat) : Int).fdiv ((k : Nat) : Int) = ((z / k : Nat) : Int) := by
  rw [Int.fdiv_eq_ediv_of_nonneg _ (Int.natCast_nonneg _)]; rfl
theorem tok_ws2 {c : Nat} (h : isWs c = true) (r : List Nat) : tok (c :: r) = tok r := by cases r <;> simp [tok, h]
structure WC (c : Nat) : Prop where
  ws : isWs c = false
  q : c ≠ 34
  b : c ≠ 92
theorem tok_bareW {a b c d : Nat} (ha : WC a) (hb : WC b) (hc : WC c) (hd : isWs d = true) (r : List Nat) : tok (a :: b :: c :: d :: r) = ([a, b, c], r) := by
  obtain ⟨a1, a2, a3⟩ := ha
  obtain ⟨b1, b2, b3⟩ := hb
  obtain ⟨c1, c2, c3⟩ := hc
  simp [tok, bare, a1, a2, a3, b1, b3, c1, c3]
  exact bare_end _ _ hd
theorem tok_quotW {a b c : Nat} (ha : WC a) (hb : WC b) (hc : WC c) (r : List Nat) : tok (34 :: a :: b :: c :: 34 :: r) = ([a, b, c], r) := by
  obtain ⟨a1, a2, a3⟩ := ha
  obtain ⟨b1, b2, b3⟩ := hb
  obtain ⟨c1, c2, c3⟩ := hc
  have h34 : isWs 34 = false := by decide
  simp [tok, quo, h34, a2, a3, b2, b3, c2, c3]
  exact quo_end _ _
theorem wc_fact : ∀ r : _root_.Fin 16, (isWs (64 + fig r.val) = false ∧ 64 + fig r.val ≠ 34 ∧ 64 + fig r.val ≠ 92 ∧ 64 + fig r.val ≠ 32 ∧ 64 + fig r.val ≠ 9 ∧ 64 + fig r.val ≠ 13 ∧ 64 + fig r.val ≠ 10) ∧ (isWs (128 + fig r.val) = false ∧ 128 + fig r.val ≠ 34 ∧ 128 + fig r.val ≠ 92 ∧ 128 + fig r.val ≠ 32 ∧ 128 + fig r.val ≠ 9 ∧ 128 + fig r.val ≠ 13 ∧ 128 + fig r.val ≠ 10) := by decide +kernel
theorem esc2_id {c : Nat} (h : c ≠ 34 ∧ c ≠ 92 ∧ c ≠ 32 ∧ c ≠ 9 ∧ c ≠ 13 ∧ c ≠ 10) : esc2 c = [c] := by
  obtain ⟨h1, h2, h3, h4, h5, h6⟩ := h
  unfold esc2
  rw [if_neg]
  rintro (h | h | h | h | h)
  · exact h3 h
  · exact h4 h
  · exact h5 h
  · exact h6 h
  · exact h2 h
theorem plain_spell (A0 B0 C0 z : Nat) (ha : A0 < 16) (hb : B0 < 16) (hc : C0 < 16) : Ex4 fun P1 P2 c1 c2 => SpellK z (wdOf (A0, B0, C0)).cps.toList (stopL z) P1 P2 c1 c2 := by
  obtain ⟨⟨a1, a2, a3, a4⟩, -⟩ := wc_fact ⟨A0, ha⟩
  obtain ⟨⟨b1, b2, b3, b4⟩, -⟩ := wc_fact ⟨B0, hb⟩
  obtain ⟨-, ⟨c1, c2, c3, c4⟩⟩ := wc_fact ⟨C0, hc⟩
  dsimp only at a1 a2 a3 a4 b1 b2 b3 b4 c1 c2 c3 c4
  have eW : (wdOf (A0, B0, C0)).cps.toList = [64 + fig A0, 64 + fig B0, 128 + fig C0] := by simp [wdOf, wordT]
  rw [eW]
  have wa : WC (64 + fig A0) := ⟨a1, a2, a3⟩
  have wb : WC (64 + fig B0) := ⟨b1, b2, b3⟩
  have wc : WC (128 + fig C0) := ⟨c1, c2, c3⟩
  have ea := esc2_id ⟨a2, a3, a4⟩
  have eb := esc2_id ⟨b2, b3, b4⟩
  have ec := esc2_id ⟨c2, c3, c4⟩
  clear a1 b1 c1 a4 b4 c4
  generalize 64 + fig A0 = a at *
  generalize 64 + fig B0 = b at *
  generalize 128 + fig C0 = c at *
  obtain ⟨h1, h2⟩ := stopL_ok z
  have S := stopF h1 h2
  generalize stopL z = SL at *
  have n92 : (92 : Nat) ∉ [a, b, c] := by
    simp only [List.mem_cons, List.not_mem_nil, or_false]
    rintro (h | h | h)
    · exact a3 h.symm
    · exact b3 h.symm
    · exact c3 h.symm
  have n34 : (34 : Nat) ∉ [a, b, c] := by
    simp only [List.mem_cons, List.not_mem_nil, or_false]
    rintro (h | h | h)
    · exact a2 h.symm
    · exact b2 h.symm
    · exact c2 h.symm
  have e92 : Str.ofString "\\" = ⟨#[92]⟩ := by decide +kernel
  have e34 : Str.ofString "\"" = ⟨#[34]⟩ := by decide +kernel
  have k1 : Txt.replace ⟨[a, b, c].toArray⟩ (Str.ofString "\\") (Str.ofString "\\\\") = ⟨[a, b, c].toArray⟩ := by rw [e92]; exact repl_none n92 _
  have k2 : Txt.replace ⟨[a, b, c].toArray⟩ (Str.ofString "\"") (Str.ofString "\\\"") = ⟨[a, b, c].toArray⟩ := by rw [e34]; exact repl_none n34 _
  have kb : bareS [a, b, c] = [a, b, c] := by
    unfold bareS
    rw [if_neg (by simpa using a2)]
    simp [ea, eb, ec]
  have kq : quotS ⟨[a, b, c].toArray⟩ = ⟨[34, a, b, c, 34].toArray⟩ := by
    unfold quotS
    rw [k1, k2, e34]
    show ((⟨[34].toArray⟩ : Str) ++ ⟨[a, b, c].toArray⟩ ++ ⟨[34].toArray⟩) = _
    rw [str_cat2, str_cat2]; rfl
  obtain ⟨i1, w1⟩ := blk4 ⟨z / 4 % 4, Nat.mod_lt _ (by decide)⟩
  obtain ⟨i2, w2⟩ := blk4 ⟨z / 16 % 4, Nat.mod_lt _ (by decide)⟩
  dsimp only at i1 w1 i2 w2
  have d1 : (((z : Nat) : Int).fdiv 4).fmod 4 = ((z / 4 % 4 : Nat) : Int) := by rw [show (4 : Int) = ((4 : Nat) : Int) from rfl, fdiv_nat, fmod_nat]
  have d2 : (((z : Nat) : Int).fdiv 16).fmod 4 = ((z / 16 % 4 : Nat) : Int) := by rw [show (4 : Int) = ((4 : Nat) : Int) from rfl, show (16 : Int) = ((16 : Nat) : Int) from rfl, fdiv_nat, fmod_nat]
  have l3 : (⟨[a, b, c].toArray⟩ : Str).length ≤ 1000 := by show 3 ≤ 1000; decide
  generalize [32, 9, 13, 10].getD (z / 4 % 4) 0 = u1 at *
  generalize [32, 9, 13, 10].getD (z / 16 % 4) 0 = u2 at *
  obtain ⟨P2, p2, n2, t2⟩ : ∃ P2, (if (((z : Nat) : Int).fdiv 2).fmod 2 = 0 then (⟨(bareS SL).toArray⟩ : Str) else quotS ⟨SL.toArray⟩) = ⟨P2.toArray⟩ ∧ P2.length ≤ 100 ∧ tok P2 = (SL, []) := by
    split
    · exact ⟨_, rfl, S.nb, S.tb⟩
    · exact ⟨_, S.quot, S.nq, S.tq⟩
  have tS : Toks P2 [SL] := .cons t2 toks_nil
  obtain ⟨P1, p1, n1, t1⟩ : ∃ P1, (if ((z : Nat) : Int).fmod 2 = 0 then (⟨(bareS [a, b, c]).toArray⟩ : Str) else quotS ⟨[a, b, c].toArray⟩) = ⟨P1.toArray⟩ ∧ P1.length ≤ 100 ∧ Toks ([u1] ++ P1 ++ [u2] ++ P2) [[a, b, c], SL] := by
    split
    · refine ⟨[a, b, c], by rw [kb], by show 3 ≤ 100; decide, .cons (r := P2) ?_ tS⟩
      show tok (u1 :: a :: b :: c :: u2 :: P2) = _
      rw [tok_ws2 w1, tok_bareW wa wb wc w2]
    · refine ⟨[34, a, b, c, 34], kq, by show 5 ≤ 100; decide, .cons (r := u2 :: P2) ?_ (.cons (r := []) ?_ toks_nil)⟩
      · show tok (u1 :: 34 :: a :: b :: c :: 34 :: u2 :: P2) = _
        rw [tok_ws2 w1, tok_quotW wa wb wc]
      · rw [tok_ws2 w2, t2]
  exact ⟨P1, P2, u1, u2, by show 3 ≤ 10; decide, Nat.le_trans h1 (by decide), p1, p2, n1, n2, ⟨by rw [k1]; exact l3, by rw [k1, k2]; exact l3⟩, ⟨S.r1, S.r2⟩, by rw [d1]; exact i1, by rw [d2]; exact i2, t1⟩
end W2PLAIN4
end
section
section W2PLAIN5
theorem nodup_flat {α β : Type} {f : α → List β} : ∀ {l : List α}, l.Nodup → (∀ x ∈ l, (f x).Nodup) → (∀ x ∈ l, ∀ y ∈ l, x ≠ y → ∀ z ∈ f x, z ∉ f y) → (l.flatMap f).Nodup
  | [], _, _, _ => .nil
  | x :: l, hn, h1, h2 => by
    obtain ⟨hx, hn⟩ := List.nodup_cons.mp hn
    rw [List.flatMap_cons, List.nodup_append]
    refine ⟨h1 x (.head _), nodup_flat hn (fun y hy => h1 y (.tail _ hy)) (fun y hy z hz => h2 y (.tail _ hy) z (.tail _ hz)), ?_⟩
    intro a ha b hb e
    subst e
    obtain ⟨y, hy, hay⟩ := List.mem_flatMap.mp hb
    exact h2 x (.head _) y (.tail _ hy) (fun e => hx (e ▸ hy)) a ha hay
theorem cls_nodup (k : Nat) : (clsR k).Nodup := by
  unfold clsR
  exact List.Pairwise.filter _ List.nodup_range
theorem like_nodup (t : Tab) : (likeT t).Nodup := by
  unfold likeT
  refine nodup_flat (cls_nodup _) (fun x _ => nodup_flat (cls_nodup _) (fun y _ => ?_) ?_) ?_
  · refine nodup_map_on (fun c _ d _ e => ?_) (List.Pairwise.filter _ (cls_nodup _))
    exact congrArg (fun t : Tab => t.2.2) e
  · intro y _ y' _ hne z hz hz'
    obtain ⟨c, _, rfl⟩ := List.mem_map.mp hz
    obtain ⟨d, _, e⟩ := List.mem_map.mp hz'
    exact hne (congrArg (fun t : Tab => t.2.1) e).symm
  · intro x _ x' _ hne z hz hz'
    obtain ⟨y, _, hz⟩ := List.mem_flatMap.mp hz
    obtain ⟨c, _, rfl⟩ := List.mem_map.mp hz
    obtain ⟨y', _, hz'⟩ := List.mem_flatMap.mp hz'
    obtain ⟨d, _, e⟩ := List.mem_map.mp hz'
    exact hne (congrArg (fun t : Tab => t.1) e).symm
theorem dots_le : ∀ (i : _root_.Fin 3) (j : _root_.Fin 3), i.val ≤ j.val → decide ((dotS j.val).cps.toList < (dotS i.val).cps.toList) = false := by decide +kernel
theorem dots_last : ∀ (i : _root_.Fin 3), decide ((Str.ofString "...").cps.toList < (dotS i.val).cps.toList) = false ∧ (dotS i.val == refT) = false ∧ PyData.strOk (dotS i.val) = true := by decide +kernel
theorem wd_strOk {u : Tab} (h : TOK u) : PyData.strOk (wdOf u) = true := by
  unfold PyData.strOk
  rw [← Array.all_toList, List.all_eq_true]
  intro c hc
  have h1 := fig_lt h.1
  have h2 := fig_lt h.2.1
  have h3 := fig_lt h.2.2
  have : c = 64 + fig u.1 ∨ c = 64 + fig u.2.1 ∨ c = 128 + fig u.2.2 := by simpa [wdOf, wordT] using hc
  refine decide_eq_true (Nat.lt_trans (m := 2000) ?_ (by decide))
  (walk_at "my o")
theorem lawK_of {t0 : Tab} {S : Str} {rf : Bool} {x : Int} {ord tds : List Tab} {line : Int} {vs toks : List Value} {rows trows : List Row} (ht : TOK t0) (hS : StopOK S rf) (hSo : PyData.strOk S = true) (hE : EndSt t0 S rf x ord tds line vs toks rows trows) : LawK S rf (rows.map fun r => (r.k, r.v)) (trows.map fun r => (r.k, r.v)) (dueK t0 S rf) := by
  obtain ⟨-, B, rw2, told, like, len⟩ := hE
  have hlen := B.len ht
  have htl : (trows.map fun r => (r.k, r.v)).length < 1000 := by rw [List.length_map]; (walk_at "my o")
  rw [told] at htl
  rw [rw2, told]
  unfold dueK
  have hT : ∀ u ∈ ord, TOK u := fun u hu => (B.like u hu).ok
  have dd3 : ∀ u, ∃ i : _root_.Fin 3, i.val = DD t0 u := fun u => ⟨⟨DD t0 u, Nat.lt_succ_of_le (dd_le t0 u)⟩, rfl⟩
  have ne : ∀ u, TOK u → ∀ y, (S, y) ≠ pairOf t0 u := fun u hu y e => by
    have e1 : S = wdOf u := congrArg Prod.fst e
    have := hS.ne u hu
    rw [← e1] at this
    simp at this
  have pm : ord.Perm (likeT t0) := (List.perm_ext_iff_of_nodup B.nd (like_nodup t0)).mpr fun u => ⟨fun h => mem_likeT.mpr (B.like u h), fun h => B.all ht (mem_likeT.mp h)⟩
  have fl : ((likeT t0).map (pairOf t0)).filter (fun k => !(k.2 == refT)) = (likeT t0).map (pairOf t0) := by
    rw [List.filter_eq_self]
    intro k hk
    obtain ⟨u, hu, rfl⟩ := List.mem_map.mp hk
    obtain ⟨i, hi⟩ := dd3 u
    have := (dots_last i).2.1
    rw [hi] at this
    show (!(dotS (DD t0 u) == refT)) = true
    rw [this]; rfl
  have okp : ∀ u, TOK u → kqdOk 8 (pairDat (pairOf t0 u)) = true := fun u hu => by
    obtain ⟨i, hi⟩ := dd3 u
    have := (dots_last i).2.2
    rw [hi] at this
    exact pair_ok (wd_strOk hu) this
  have ok3 : kqdOk 8 (pairDat (S, Str.ofString "...")) = true := pair_ok hSo (show PyData.strOk (Str.ofString "...") = true by decide +kernel)
  have okR : kqdOk 8 (pairDat (S, refT)) = true := pair_ok hSo (show PyData.strOk refT = true by decide +kernel)
  have ndO : (ord.map (pairOf t0)).Nodup := nodup_map_on (fun u hu v hv e => wd_inj (hT u hu) (hT v hv) (congrArg Prod.fst e)) B.nd
  have dO : ((ord.map (pairOf t0)).map (·.2)).Pairwise (fun a b => decide (b.cps.toList < a.cps.toList) = false) := by
    rw [List.map_map, List.pairwise_map, List.pairwise_iff_getElem]
    intro i j hi hj hij
    obtain ⟨a, ha⟩ := dd3 ord[i]
    obtain ⟨b, hb⟩ := dd3 ord[j]
    have h1 := B.srt i j ord[i] ord[j] (Nat.le_of_lt hij) (List.getElem?_eq_getElem hi) (List.getElem?_eq_getElem hj)
    have := dots_le a b (by rw [ha, hb]; exact h1)
    rw [ha, hb] at this
    exact this
  have llen : (likeT t0).length ≤ 19 := like_len ht
  have okO : ∀ d ∈ (ord.map (pairOf t0)).map pairDat, kqdOk 8 d = true := fun d hd => by
    obtain ⟨k, hk, rfl⟩ := List.mem_map.mp hd
    obtain ⟨u, hu, rfl⟩ := List.mem_map.mp hk
    exact okp u (hT u hu)
  have okD1 : ∀ d ∈ ((likeT t0).map (pairOf t0)).map pairDat, kqdOk 8 d = true := fun d hd => by
    obtain ⟨k, hk, rfl⟩ := List.mem_map.mp hd
    obtain ⟨u, hu, rfl⟩ := List.mem_map.mp hk
    exact okp u (mem_likeT.mp hu).ok
  have okT1 : ∀ d ∈ (tds.map (pairOf t0)).map pairDat, kqdOk 8 d = true := fun d hd => by
    obtain ⟨k, hk, rfl⟩ := List.mem_map.mp hd
    obtain ⟨u, hu, rfl⟩ := List.mem_map.mp hk
    exact okp u (like u hu).ok
  have okP1 : ∀ d ∈ ((ord.map (pairOf t0)).map (·.2)).map Dat.str, kqdOk 8 d = true := fun d hd => by
    obtain ⟨k, hk, rfl⟩ := List.mem_map.mp hd
    obtain ⟨k', hk', rfl⟩ := List.mem_map.mp hk
    obtain ⟨u, hu, rfl⟩ := List.mem_map.mp hk'
    obtain ⟨i, hi⟩ := dd3 u
    have := (dots_last i).2.2
    rw [hi] at this
    unfold kqdOk
    exact this
  have tol : ∀ k ∈ tds.map (pairOf t0), k ∈ (likeT t0).map (pairOf t0) := fun k hk => by
    obtain ⟨u, hu, rfl⟩ := List.mem_map.mp hk
    exact List.mem_map_of_mem (mem_likeT.mpr (like u hu))
  cases rf with
  | true =>
    simp only [if_true, List.append_nil] at htl ⊢
    refine ⟨ndO, by rw [List.length_map]; (walk_at "my o"), ?_, dO, ?_, ?_, okO, ?_, ?_, okP1, okR, ?_, htl⟩
    · rw [List.filter_append, fl]
      have : List.filter (fun k => !(k.2 == refT)) [(S, refT)] = [] := by simp
      rw [this, List.append_nil]
      exact pm.map _
    · intro k hk
      rcases List.mem_append.mp hk with hk | hk
      · exact List.mem_append_left _ (tol k hk)
      · exact List.mem_append_right _ hk
    · exact ⟨fun _ => List.mem_append_right _ (.head _), fun _ => rfl⟩
    · intro d hd
      rw [List.map_append] at hd
      rcases List.mem_append.mp hd with hd | hd
      · exact okT1 d hd
      · rw [List.mem_singleton.mp hd]; exact okR
    · intro d hd
      rw [List.map_append] at hd
      rcases List.mem_append.mp hd with hd | hd
      · exact okD1 d hd
      · rw [List.mem_singleton.mp hd]; exact okR
    · rw [List.length_append, List.length_map, List.length_singleton]; (walk_at "my o")
  | false =>
    simp only [Bool.false_eq_true, if_false, List.append_nil] at htl ⊢
    refine ⟨?_, by rw [List.length_append, List.length_map, List.length_singleton]; (walk_at "my o"), ?_, ?_, fun k hk => List.mem_append_left _ (tol k hk), ?_, ?_, okT1, ?_, ?_, okR, ?_, htl⟩
    · rw [List.nodup_append]
      refine ⟨ndO, by simp, fun a ha b hb e => ?_⟩
      rw [List.mem_singleton.mp hb] at e
      obtain ⟨u, hu, e2⟩ := List.mem_map.mp ha
      exact ne u (hT u hu) _ (e2.trans e).symm
    · rw [List.filter_append, fl]
      have : List.filter (fun k => !(k.2 == refT)) [(S, Str.ofString "...")] = [(S, Str.ofString "...")] := by
        have e : (Str.ofString "..." == refT) = false := by decide +kernel
        simp [e]
      rw [this]
      exact (pm.map _).append_right _
    · rw [List.map_append, List.pairwise_append]
      refine ⟨dO, by simp, fun a ha b hb => ?_⟩
      have hb : b = Str.ofString "..." := by simpa using hb
      subst hb
      obtain ⟨k, hk, rfl⟩ := List.mem_map.mp ha
      obtain ⟨u, hu, rfl⟩ := List.mem_map.mp hk
      obtain ⟨i, hi⟩ := dd3 u
      have := (dots_last i).1
      rw [hi] at this
      exact this
    · constructor
      · intro h; cases h
      · intro h
        obtain ⟨u, hu, e⟩ := List.mem_map.mp h
        exact absurd e.symm (ne u (like u hu).ok _)
    · intro d hd
      rw [List.map_append] at hd
      rcases List.mem_append.mp hd with hd | hd
      · exact okO d hd
      · rw [List.mem_singleton.mp hd]; exact ok3
    · intro d hd
      rw [List.map_append] at hd
      rcases List.mem_append.mp hd with hd | hd
      · exact okD1 d hd
      · rw [List.mem_singleton.mp hd]; exact ok3
    · intro d hd
      rw [List.map_append, List.map_append] at hd
      rcases List.mem_append.mp hd with hd | hd
      · exact okP1 d hd
      · have hd : d = Dat.str (Str.ofString "...") := by simpa using hd
        rw [hd]; decide +kernel
    · rw [List.length_append, List.length_map, List.length_singleton]; (walk_at "my o")
end W2PLAIN5
end
section
local macro_rules | `(tactic| walk_at "eval ListComp") => `(tactic| (k_here; k_dflt (refine eval_comp (by with_unfolding_all rfl) (by rfl) (by decide) ?_)))
local macro_rules | `(tactic| walk_at "exec Assign cons ListComp") => `(tactic| (k_here; k_dflt (refine assign_comp (by with_unfolding_all rfl) (by with_unfolding_all rfl) (by rfl) (by decide) ?_)))
local macro_rules | `(tactic| walk_at "pyIter ref") => `(tactic| ((with_reducible show wpAny _ _ (pyIter (.ref _)) (CompTail _ _ _ _ _ _ _ _ _ _ _ _ _ _) _ _); refine stopI ?_))
local macro_rules | `(tactic| k_all) => `(tactic| first | exact List.forall_mem_nil _ | (refine' List.forall_mem_cons.mpr ⟨(by k_ne), (by k_all)⟩) | exact TailIn.ne (by assumption) (by walk_at "my o"))
local macro_rules | `(tactic| k_mem) => `(tactic| first | exact List.Mem.head _ | (refine' List.Mem.tail _ ?_; k_mem) | assumption)
section
local macro_rules | `(tactic| walk_at "my look") => `(tactic| first | rfl | assumption | (dsimp only; (repeat rw [if_neg (by decide)]); first | rfl | assumption) | with_unfolding_all assumption)
local macro_rules | `(tactic| walk_at "eval Name") => `(tactic| (k_here; k_dflt (refine' nameX_L (by k_asm) (by walk_at "my look") ?_; k_whole)))
local macro_rules | `(tactic| walk_at "loadName") => `(tactic| (k_here; k_dflt (refine' wpAny_loadName_local (by rfl) (by rfl) (Fr.ns (by k_asm)) (by walk_at "my look") ?_; k_whole)))
section
section W2LAW0
local macro_rules | `(tactic| walk_at "binaryOp FloorDiv int int") => `(tactic| (k_here; (with_reducible show wpAny _ _ (binaryOp .FloorDiv (.int _ _) (.int (8 ^ _) _)) _ _ _); k_dflt (refine floordiv_int (pow8_ne _) ?_ (Or.inl (PyProof.noPylong_small (pow8_small _ (by assumption))))); k_whole))
local macro_rules | `(tactic| walk_at "execs cons") => `(tactic| (with_reducible refine haltN 13 (by with_unfolding_all rfl) ?_))
theorem zero_step (i : Nat) : (0 : Int) + (i : Int) * 1 = (i : Int) := by (walk_at "my o")
theorem stop_step {ys : List Value} {z i : Nat} {t : Tok} (hys : StrsAre ys (((List.range i).map (stopC z)).map fun c => (⟨[c].toArray⟩ : Str))) : StrsAre (ys ++ [.str (Txt.item (Str.ofString " \"\\\n#x\t\r") (((((z : Nat) : Int).fdiv 256).fdiv (8 ^ ((i : Nat) : Int).toNat)).fmod 8)) t]) (((List.range (i + 1)).map (stopC z)).map fun c => (⟨[c].toArray⟩ : Str)) := by
  have e := stop_at z i
  rw [List.range_succ, List.map_append, List.map_append]
  refine StrsAre4_append hys ?_
  rw [e]
  exact .cons _ _ .nil
theorem flat_one : ∀ l : List Nat, (l.map fun c => [c]).flatten = l
  | [] => rfl
  | c :: r => by rw [List.map_cons, List.flatten_cons, flat_one r]; rfl
theorem law2_a2 {g h : Heap} {L fa : Addr} {cd : Value} {s : Shared} {tk : Nat} {m : Str → Option Value} {Q : Flow → Shared → Prop} {E : Value → Shared → Prop} (o1 o2 o3 : Obj) (f z : Nat) (tf tz : Tok) (hf : f < 4096) (hz : z < 131072)
    (x2 x3 : Option Value)
    (K : Below callerA g [] g) (X : (hd2.heap_1 w.params).In g) (T : Top p loose mean mg mb g) (CH : CodeHd g 230 226)
    (F : Fr g L h m) (hfi : m (Str.ofString "first") = some (.int ((f : Nat) : Int) tf))
    (hc1 : o1.data = .cell (some (.int ((z : Nat) : Int) tz))) (hc2 : o2.data = .cell x2) (hc3 : o3.data = .cell x3)
    (N : News g L h [(L + 1 + 1 + 1, o3), (L + 1 + 1, o2), (L + 1, o1), (226, tabObj #[])]) (hL : @LT.lt Nat _ 226 L)
    (hret : ∀ h' tk' m' nw' ps, Fr g L h' m' → News g L h' nw' → (226, tabObj ps) ∈ nw' → Q (.ret (.bool true)) { s with heap := h', toks := tk' }) :
    wpAny (model prog w) (callerA.deeper (envOfC (Str.ofString "law") (scopeOf (lawFn2 20)) L fa cd)) (execs (bodyOf2.drop 2) (envOfC (Str.ofString "law") (scopeOf (lawFn2 20)) L fa cd)) Q E { s with heap := h, toks := tk } := by
  conv in (occs := *) scopeOf _ => all_goals whnf
  conv in execs (List.drop _ _) _ => arg 1; whnf
  refine letPost ?_
  intro K0
  have e1 : ((f : Nat) : Int).fmod 16 = ((f % 16 : Nat) : Int) := by rw [Int.fmod_eq_emod_of_nonneg _ (by decide)]; rfl
  have e2 : (((f : Nat) : Int).fdiv 16).fmod 16 = ((f / 16 % 16 : Nat) : Int) := by rw [Int.fdiv_eq_ediv_of_nonneg _ (by decide), Int.fmod_eq_emod_of_nonneg _ (by decide)]; rfl
  have e3 : ((f : Nat) : Int).fdiv 256 = ((f / 256 : Nat) : Int) := by rw [Int.fdiv_eq_ediv_of_nonneg _ (by decide)]; rfl
  have e4 : (((z : Nat) : Int).fdiv 64).fmod 4 = ((z / 64 % 4 : Nat) : Int) := by rw [Int.fdiv_eq_ediv_of_nonneg _ (by decide), Int.fmod_eq_emod_of_nonneg _ (by decide)]; rfl
  have hn4 : z / 64 % 4 < 4 := Nat.mod_lt _ (by decide)
  k_steps
  show wpAny _ _ _ _ _ _
  rename_i H h2 lb h3 F1 N1 h4 k2 t1 u1 v1 a1 a2 a3 a4
  rw [e4] at a1
  rw [e1, e2, e3] at a3
  clear N1 F1 e1 e2 e3 e4
  obtain ⟨r1, r2⟩ := range4 ⟨_, hn4⟩
  refine' comp_range_keep (n := z / 64 % 4) ?hh (fun i ys => StrsAre ys (((List.range i).map (stopC z)).map fun c => (⟨[c].toArray⟩ : Str))) ?F ?N a1 r1 r2 ?hsz ?c1 ?c2 ?c3 ?h0 ?turn ?fin
  (case hh => rfl)
  (case F => k_asm)
  (case N => exact a3)
  (case hsz => exact Nat.le_trans (Nat.le_of_lt hn4) (by rw [sizeLine_eq]; decide))
  (case c1 => decide)
  (case c2 => rfl)
  (case c3 => rfl)
  (case h0 => exact .nil)
  (case turn =>
    clear a2 a3 a4
    rintro i t ys I oI C oC mC D h tk hi hys hoC hxx F N off ne
    rw [zero_step] at hxx
    have hi0 : (0 : Int) ≤ i := Int.natCast_nonneg _
    have hi6 : (i : Int) < 6 := Int.ofNat_lt.mpr (Nat.lt_trans hi (Nat.lt_trans hn4 (by decide)))
    have g1 : (0 : Int) ≤ ((((z : Nat) : Int).fdiv 256).fdiv (8 ^ ((i : Nat) : Int).toNat)).fmod 8 := Int.fmod_nonneg_of_pos _ (by decide)
    have g2 : ((((z : Nat) : Int).fdiv 256).fdiv (8 ^ ((i : Nat) : Int).toNat)).fmod 8 < 8 := Int.fmod_lt_of_pos _ (by decide)
    refine CTurn.nil ?_
    refine letPost ?_
    intro K3
    k_steps
    (try dsimp +zetaDelta only)
    (refine' CE.intro (by k_asm) (by k_asm) _ ?subq19 (by assumption) ?Jq19; (case subq19 => first | exact fun _ h => h | exact fun _ h => .tail _ h | exact fun _ h => .tail _ (.tail _ h) | exact fun _ h => .tail _ (.tail _ (.tail _ h)) | exact fun _ h => .tail _ (.tail _ (.tail _ (.tail _ h))) | exact fun _ h => .tail _ (.tail _ (.tail _ (.tail _ (.tail _ h))))); refine KEnd.intro ?_)
    exact stop_step hys)
  (case fin =>
    clear a2 a3 a4
    rintro ys hys
    intro D h tk F N off
    have hys : StrsAre ys (((stopL z).map fun c => [c]).map fun c => (⟨c.toArray⟩ : Str)) := by
      rw [List.map_map]; exact hys
    have hsl : (stopL z).length ≤ 3 := (stopL_ok z).1
    k_steps
    show wpAny _ _ _ _ _ _
    have hH3 : @Ne Nat (L + 1 + 1 + 1) H := Nat.ne_of_lt lb.1
    have hH2 : @Ne Nat (L + 1 + 1) H := Nat.ne_of_lt lb.2.1
    have hH1 : @Ne Nat (L + 1) H := Nat.ne_of_lt lb.2.2.1
    have hH0 : @Ne Nat 226 H := Nat.ne_of_lt lb.2.2.2
    have hsum : ((((stopL z).map fun c => [c]).map fun c => (⟨c.toArray⟩ : Str)).map (·.length)).sum ≤ 100 := by
      have e : ((((stopL z).map fun c => [c]).map fun c => (⟨c.toArray⟩ : Str)).map (·.length)) = (stopL z).map fun _ => 1 := by
        rw [List.map_map, List.map_map]; rfl
      rw [e, List.map_const', List.sum_replicate_nat, Nat.mul_one]
      exact Nat.le_trans hsl (by decide)
    refine' join_led (its := ys.toArray) ?F3 ?N3 (.head _) ?i3 ?o3 ?_
    (case F3 => k_asm)
    (case N3 => k_asm)
    (case i3 => exact hys)
    (case o3 => exact Nat.le_trans (Nat.le_of_eq (Nat.add_zero _)) (Nat.le_trans hsum (by decide)))
    intro t' k' F3 N3
    rw [join_flat, flat_one]
    clear hsum off F N
    k_steps
    show wpAny _ _ _ _ _ _
    have hA : f % 16 < 16 := Nat.mod_lt _ (by decide)
    have hB : f / 16 % 16 < 16 := Nat.mod_lt _ (by decide)
    have hC : f / 256 < 16 := Nat.div_lt_of_lt_mul hf
    obtain ⟨P1, P2, c1, c2, SK⟩ := plain_spell (f % 16) (f / 16 % 16) (f / 256) z hA hB hC
    obtain ⟨rf, hS, hTT, hSo⟩ := plain_stop z
    refine law2_a3 (s := s) prog w p loose mean mg mb o1 o2 o3 z tz (stopL z) P1 P2 c1 c2 _ rf (f % 16) (f / 16 % 16) (f / 256) 0 hS hTT hSo (fun x ord tds line vs toks rows trows hE => lawK_of ⟨hA, hB, hC⟩ hS hSo hE) x2 x3 K X T CH _ _ _ hA hB hC H SK (by k_asm) (by walk_at "my look") (by walk_at "my look") hc1 hc2 hc3 (fun q hq => (show News g L _ ((D, _) :: _) from by k_asm) q (.tail _ hq)) hH3 hH2 hH1 hH0 hL hret)
end W2LAW0
end
section
section W2LAW1
local macro_rules | `(tactic| k_all) => `(tactic| first | exact List.forall_mem_nil _ | (refine' List.forall_mem_cons.mpr ⟨(by k_ne), (by k_all)⟩) | exact Above.ne (by assumption) (by walk_at "my o") | assumption)
local macro_rules | `(tactic| walk_at "call builtin:sum") => `(tactic| (k_here; (with_reducible show wpAny _ _ (call _ [.ref _]) _ _ _); k_dflt (refine' sum_drop (by k_asm) (by k_asm) (by exact pick_ints (by assumption) _ _ _) (by rfl) ?_); k_whole; intro _ _ _ _ _ _))
local macro_rules | `(tactic| walk_at "execs cons") => `(tactic| (with_reducible refine haltN 15 (by with_unfolding_all rfl) ?_))
local macro_rules | `(tactic| walk_at "zz") => `(tactic| skip)
theorem law2_walk {g h : Heap} {L fa : Addr} {cd : Value} {s : Shared} {tk : Nat} {m : Str → Option Value} {Q : Flow → Shared → Prop} {E : Value → Shared → Prop} (sc : Addr) (vs : List Value) (ns : List Int) (o1 o2 o3 : Obj)
    (K : Below callerA g [] g) (X : (hd2.heap_1 w.params).In g) (T : Top p loose mean mg mb g) (CH : CodeHd g 230 226) (hsc : g.IsList sc vs.toArray) (hI : IntsAre vs ns) (hlen : ns.length ≤ 63) (hL : @LT.lt Nat _ 226 L)
    (F : Fr g L h m) (hmsc : m (Str.ofString "script") = some (.ref sc)) (N : News g L h [(L + 1 + 1 + 1, o3), (L + 1 + 1, o2), (L + 1, o1), (226, tabObj #[])])
    (hc1 : ∃ v, o1.data = .cell v) (hc2 : ∃ v, o2.data = .cell v) (hc3 : ∃ v, o3.data = .cell v)
    (hret : ∀ h' tk' m' nw' ps, Fr g L h' m' → News g L h' nw' → (226, tabObj ps) ∈ nw' → Q (.ret (.bool true)) { s with heap := h', toks := tk' }) :
    wpAny (model prog w) (callerA.deeper (envOfC (Str.ofString "law") (scopeOf (lawFn2 20)) L fa cd)) (execs bodyOf2 (envOfC (Str.ofString "law") (scopeOf (lawFn2 20)) L fa cd)) Q E { s with heap := h, toks := tk } := by
  obtain ⟨x1, hc1⟩ := hc1
  obtain ⟨x2, hc2⟩ := hc2
  obtain ⟨x3, hc3⟩ := hc3
  conv in (occs := *) scopeOf _ => all_goals whnf
  conv in execs bodyOf2 _ => arg 1; whnf
  k_steps
  show wpAny _ _ _ _ _ _
  have FF := ‹Fr g L _ (fun y => if y = Str.ofString "first" then _ else _)›
  rename Obj.data _ = Data.cell (some (Value.int (Int.fmod _ 131072) _)) => dS
  generalize hzf : (2115 + _ : Int).fmod 4096 = zf at FF
  generalize hzs : (35022 + _ : Int).fmod 131072 = zs at dS
  obtain ⟨f, hf, rfl⟩ : ∃ f : Nat, f < 4096 ∧ zf = f := by
    have h0 : 0 ≤ zf := hzf ▸ Int.fmod_nonneg_of_pos _ (by decide)
    have h1 : zf < 4096 := hzf ▸ Int.fmod_lt_of_pos _ (by decide)
    exact ⟨zf.toNat, by (walk_at "my o"), by (walk_at "my o")⟩
  obtain ⟨z, hz, rfl⟩ : ∃ z : Nat, z < 131072 ∧ zs = z := by
    have h0 : 0 ≤ zs := hzs ▸ Int.fmod_nonneg_of_pos _ (by decide)
    have h1 : zs < 131072 := hzs ▸ Int.fmod_lt_of_pos _ (by decide)
    exact ⟨zs.toNat, by (walk_at "my o"), by (walk_at "my o")⟩
  exact law2_a2 (s := s) prog w p loose mean mg mb _ o2 o3 f z _ _ hf hz x2 x3 K X T CH FF rfl dS hc2 hc3 (by k_asm) hL hret
end W2LAW1
end
end
end
end Mine
end
open PySem PySem.W PyProof.Rows PySem.Calls PySem.Spec in
theorem PySem.Challenge.cw_rw0090_02_holds : PySem.Challenge.rw_rw0090_02.Holds := by
  exact Mine.hd2 (by
    k_go0
    all_goals try k_fold
    dsimp only at *
    rename Below callerA _ _ _ => K'
    rename Frag.In _ (ghostOf _ _) => X'
    rename Top _ _ _ _ _ _ => T'
    rename Fr _ _ _ _ => F'
    rename News _ _ _ _ => N'
    rename CodeHd _ _ _ => codeHd
    rename IntsAre _ _ => hI
    rename Heap.IsList (ghostOf _ _) _ _ => lifted
    rename @LT.lt Nat _ 226 _ => l0
    refine' Mine.law2_walk _ _ _ _ _ _ _ _ _ _ _ _ _ K' X' T' codeHd lifted hI (Nat.le_of_not_lt fun hq => (by assumption : ¬ _) (Int.ofNat_lt.mpr hq)) l0 F' ?m N' ?c1 ?c2 ?c3 ?ret
    (case m => rfl)
    (case c1 => exact Exists.intro _ (by assumption))
    (case c2 => exact Exists.intro _ (by assumption))
    (case c3 => exact Exists.intro _ (by assumption))
    (case ret =>
      intro h' tk' m' nw' ps F N hm
      refine And.intro ?g (And.intro (GrownAt.of N hm) True.intro)
      (case g => k_end; wrow_close)))
