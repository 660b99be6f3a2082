import JvmDerived
import JvmDerived.Pilot.@@N@@Statement
import JvmDerived.Pilot.@@N@@Code
set_option linter.unusedVariables false
set_option linter.unusedSimpArgs false
@@BLOCK:LamKit.lean.txt@@
/-! A small kit of this prover's own: walks in weakest-precondition style, over the library's Stand, its held constants (CHv, CHr, Safe) and its wide ends. General text: no program in it. -/
namespace Jvm.Own
open Sem ClassFile Op Lib Bundle Jvm.Stand Jvm.Free Jvm.LawKit Jvm.RoadKit
/-- what stays the same through the whole law: the launch, the start state, the law's arguments, the start heap's length, whether Strings may come to be interned, the constants held -/
abbrev Gl : Type := Launch × State × Array Value × Nat × Bool × List (String × Nat)
abbrev Gl.l (E : Gl) : Launch := E.1
abbrev Gl.Z (E : Gl) : State := E.2.1
abbrev Gl.a (E : Gl) : Array Value := E.2.2.1
abbrev Gl.n (E : Gl) : Nat := E.2.2.2.1
abbrev Gl.w (E : Gl) : Bool := E.2.2.2.2.1
abbrev Gl.K (E : Gl) : List (String × Nat) := E.2.2.2.2.2
/-- one invocation: program, environment, room, state at the invocation, method, arguments, frames below, record, code, what it promises -/
abbrev Cx : Type := Program × Env × Room × State × MethodId × Array Value × List Frame × Method × Code × (Option Value → Heap → List Addr → Prop)
abbrev Cx.p (x : Cx) : Program := x.1
abbrev Cx.e (x : Cx) : Env := x.2.1
abbrev Cx.R (x : Cx) : Room := x.2.2.1
abbrev Cx.s (x : Cx) : State := x.2.2.2.1
abbrev Cx.m (x : Cx) : MethodId := x.2.2.2.2.1
abbrev Cx.args (x : Cx) : Array Value := x.2.2.2.2.2.1
abbrev Cx.below (x : Cx) : List Frame := x.2.2.2.2.2.2.1
abbrev Cx.meth (x : Cx) : Method := x.2.2.2.2.2.2.2.1
abbrev Cx.c (x : Cx) : Code := x.2.2.2.2.2.2.2.2.1
abbrev Cx.Q (x : Cx) : Option Value → Heap → List Addr → Prop := x.2.2.2.2.2.2.2.2.2
/-- the places that this law's own code may write: made since the start, and no part of a held constant -/
def GOk (E : Gl) : Prop := EW E.Z E.a E.K ∧ (E.w = false → E.K = [])
def FOk (E : Gl) (vm : Vm) (h : Heap) (F : List Addr) : Prop := ∀ x ∈ F, E.n ≤ x ∧ x < h.size ∧ Safe E.Z E.K vm h x
def EndF (w : Bool) (s : State) (o : Outcome) (t : State) (L : List Loc) (k n : Nat) : Prop :=
  match w with
  | true => ReturnedEndW s o t L k n
  | false => FrameEnd s o t L k n
def FinC (E : Gl) (s : State) (R : Room) (Q : Option Value → Heap → List Addr → Prop) (o : Outcome) (t : State) : Prop :=
  ∃ (v : Option Value) (L : List Loc) (F' : List Addr), o = .returned v ∧ Q v t.heap F' ∧ Fr E.n L ∧ Old E.Z E.n t.heap ∧ FOk E t.vm t.heap F' ∧ CHr E.Z E.K s.vm s.heap t.vm t.heap ∧ EndF E.w s o t L R.cells R.slots
/-- A CONTRACT: called with these arguments at this heap it returns; Q says what, the heap then, and the places that may be written behind -/
def MetT (ws : List Cond) (E : Gl) (y : MethodName) (b : ByteArray) (ml : Nat) (ret : Option FieldType) (R : Room) (as' : Array Value) (h : Heap) (F : List Addr) (Q : Option Value → Heap → List Addr → Prop) : Prop :=
  MetFree E.l y (head1 (Cond.code y b ml ret :: ws) R)
    (fun a U => a = as' ∧ E.Z.Warmed39 U.vm ∧ U.heap = h ∧ Old E.Z E.n h ∧ CHv E.Z E.K U.vm h ∧ FOk E U.vm h F ∧ GOk E)
    (fun _ _ _ _ _ => True) (fun _ U o U' => FinC E U R Q o U')
abbrev Met (E : Gl) (y : MethodName) (b : ByteArray) (ml : Nat) (ret : Option FieldType) (R : Room) (as' : Array Value) (h : Heap) (F : List Addr) (Q : Option Value → Heap → List Addr → Prop) : Prop := MetT [] E y b ml ret R as' h F Q
def Is (x : Cx) (own : String) (b : ByteArray) (ml : Nat) (R : Room) (ret : Option FieldType) (nm : String) : Prop :=
  x.c.code = b ∧ x.c.maxLocals = ml ∧ x.R = R ∧ x.meth.sig.returnType = ret ∧ x.meth.name = nm ∧ x.meth.locks = false ∧ x.p.tables.exec = Jvm.exec ∧ x.s.vm.findClass own = some x.m.cls
/-- where a walk stands -/
def Wk (E : Gl) (x : Cx) (T : State) (h : Heap) (F : List Addr) (cs ss : Nat) : Prop :=
  ∃ (vm : Vm) (k : Nat) (L : List Loc), Stand x.p E.l x.e x.R (x.s.setVm vm) x.m x.args x.below x.meth x.c T L cs ss ∧ T.heap = h ∧ x.s.Since vm k ∧ k ≤ h.size ∧ (E.w = false → vm = x.s.vm) ∧
    E.Z.Warmed39 vm ∧ Fr E.n L ∧ Old E.Z E.n h ∧ CHr E.Z E.K x.s.vm x.s.heap vm h ∧ FOk E vm h F ∧ GOk E
/-- what is left to show at a frame of the walk -/
def G (E : Gl) (x : Cx) (T : State) (g : JFrame) : Prop :=
  ∃ (t : State) (o : Outcome), Steps x.p.tables x.e x.below (T.setTop g) t ∧ t.status = .running ∧ Ended t x.below o ∧ FinC E x.s x.R x.Q o t
abbrev fr (x : Cx) (pc : Nat) (Ls : Array Slot) (st : List Value) : JFrame := mkF x.m pc Ls st
/-- an instruction, its length and the next pc -/
def D (b : ByteArray) (pc : Nat) (i : Instr) (len nx : Nat) : Prop := decode b pc = .ok (i, len) ∧ pc + len = nx
/-- a jump: besides, its offset and where it leads -/
def J (b : ByteArray) (pc : Nat) (i : Instr) (len nx : Nat) (o : Int) (tg : Nat) : Prop := decode b pc = .ok (i, len) ∧ pc + len = nx ∧ 0 ≤ (pc : Int) + o ∧ ((pc : Int) + o).toNat = tg
theorem G.of {E : Gl} {x : Cx} {T T' : State} {g g' : JFrame} (hs : ∀ target, Steps x.p.tables x.e x.below (T'.setTop g') target → Steps x.p.tables x.e x.below (T.setTop g) target) (hr : G E x T' g') : G E x T g := by
  obtain ⟨t, o, h1, h2, h3, h4⟩ := hr
  exact ⟨t, o, hs _ h1, h2, h3, h4⟩
theorem G.ofS {E : Gl} {x : Cx} {T T' : State} {g g' : JFrame} (hs : Steps x.p.tables x.e x.below (T.setTop g) (T'.setTop g')) (hr : G E x T' g') : G E x T g := G.of (fun _ h => hs.trans h) hr
theorem G.cast {E : Gl} {x : Cx} {T : State} {g g' : JFrame} (q : g = g') (hr : G E x T g') : G E x T g := q ▸ hr
theorem setVm_same (s : State) : s.setVm s.vm = s := rfl
theorem met_of {ws : List Cond} {E : Gl} {y : MethodName} {b : ByteArray} {ml : Nat} {ret : Option FieldType} {R : Room} {as' : Array Value} {h : Heap} {F : List Addr} {Q : Option Value → Heap → List Addr → Prop} (pn : plainFor y = true)
    (body : ∀ (x : Cx) (T : State), x.Q = Q → Is x y.cls b ml R ret y.name → Wk E x T h F 0 0 → G E x T (entryFrame x.m as' ml)) : MetT ws E y b ml ret R as' h F Q := by
  refine MetFree.of_bodySF pn hisR ?_
  intro p e s m args below meth c s₁ Bd hml0 hP hK
  obtain ⟨rfl, hZ, hh, hO, hC, hF, hE⟩ := hP
  have X0 : Stand p E.l e R s m args below meth c s₁ [] 0 0 := Stand.of_body Bd
  have e0 : s₁.heap = h := by rw [← hh, Bd.state]; rfl
  have hlk : meth.locks = false := BodyLoose.notSynchronized Bd
  have hG := body (p, e, R, s, m, args, below, meth, c, Q) s₁ rfl ⟨Bd.bytes, hml0, rfl, Bd.returns, (name_of_methodNamed Bd.named Bd.method).1, hlk, Bd.exec, findClass_of_methodNamed Bd.named⟩
    ⟨s.vm, 0, [], X0, e0, (State.WarmedH.refl s).since 0, Nat.zero_le _, fun _ => rfl, hZ, Fr.nil _, hO, by subst hh; exact CHr.refl hC, hF, hE⟩
  exact hG
section Steps
variable {E : Gl} {x : Cx} {T : State} {h : Heap} {F : List Addr} {cs ss : Nat} {own : String} {b : ByteArray} {ml : Nat} {R : Room} {ret : Option FieldType} {nm : String} {pc nx tg : Nat} {o : Int} {Ls Ls' : Array Slot} {st : List Value}
theorem Wk.here (W : Wk E x T h F cs ss) : At T x.m x.c x.below := by obtain ⟨_, _, _, X, -⟩ := W; exact X.here
theorem Wk.old (W : Wk E x T h F cs ss) : Ext E.Z.heap h := by obtain ⟨_, _, _, _, _, _, _, _, _, _, hO, -⟩ := W; exact hO.2
theorem Wk.size (W : Wk E x T h F cs ss) : E.n ≤ h.size := by obtain ⟨_, _, _, _, _, _, _, _, _, _, hO, -⟩ := W; rw [← hO.1]; exact hO.2.1
theorem Wk.gok (W : Wk E x T h F cs ss) : GOk E := by obtain ⟨_, _, _, _, _, _, _, _, _, _, _, _, _, hE⟩ := W; exact hE
theorem Wk.mono (W : Wk E x T h F cs ss) {F' : List Addr} {cs' ss' : Nat} (hF : ∀ y ∈ F', y ∈ F) (hc : cs ≤ cs') (hs : ss ≤ ss') : Wk E x T h F' cs' ss' := by
  obtain ⟨vm, k, L, X, h1, h2, h3, h4, h5, h6, h7, h8, h9, h10⟩ := W
  exact ⟨vm, k, L, X.mono hc hs, h1, h2, h3, h4, h5, h6, h7, h8, fun y hy => h9 y (hF y hy), h10⟩
theorem Wk.fOk (W : Wk E x T h F cs ss) {a : Addr} (ha : a ∈ F) : E.n ≤ a ∧ a < h.size := by
  obtain ⟨_, _, _, _, _, _, _, _, _, _, _, _, hF, _⟩ := W; exact ⟨(hF a ha).1, (hF a ha).2.1⟩
theorem pstep (W : Wk E x T h F cs ss) {g g' : JFrame} (hs : ∀ target, At T x.m x.c x.below → Steps x.p.tables x.e x.below (T.setTop g') target → Steps x.p.tables x.e x.below (T.setTop g) target) (hr : G E x T g') : G E x T g := G.of (fun t r => hs t W.here r) hr
theorem w_iloadN (W : Wk E x T h F cs ss) (B : Is x own b ml R ret nm) {k : Fin 4} {v : Int32} (d : D b pc (.iload_n k) 1 nx) (hl : Ls[k.val]? = some (.val (.int v))) (hr : G E x T (fr x nx Ls (.int v :: st))) : G E x T (fr x pc Ls st) := by
  obtain ⟨d1, rfl⟩ := d; exact pstep W (fun _ A r => XS.iloadN A B.2.2.2.2.2.2.1 rfl (by rw [B.1]; exact d1) hl r) hr
theorem w_iload (W : Wk E x T h F cs ss) (B : Is x own b ml R ret nm) {k : Nat} {v : Int32} (d : D b pc (.iload k) 2 nx) (hl : Ls[k]? = some (.val (.int v))) (hr : G E x T (fr x nx Ls (.int v :: st))) : G E x T (fr x pc Ls st) := by
  obtain ⟨d1, rfl⟩ := d; exact pstep W (fun _ A r => XS.iload A B.2.2.2.2.2.2.1 rfl (by rw [B.1]; exact d1) hl r) hr
theorem w_lloadN (W : Wk E x T h F cs ss) (B : Is x own b ml R ret nm) {k : Fin 4} {v : Int64} (d : D b pc (.lload_n k) 1 nx) (hl : Ls[k.val]? = some (.val (.long v))) (hr : G E x T (fr x nx Ls (.long v :: st))) : G E x T (fr x pc Ls st) := by
  obtain ⟨d1, rfl⟩ := d; exact pstep W (fun _ A r => XT.lloadN A B.2.2.2.2.2.2.1 rfl (by rw [B.1]; exact d1) hl r) hr
theorem w_lload (W : Wk E x T h F cs ss) (B : Is x own b ml R ret nm) {k : Nat} {v : Int64} (d : D b pc (.lload k) 2 nx) (hl : Ls[k]? = some (.val (.long v))) (hr : G E x T (fr x nx Ls (.long v :: st))) : G E x T (fr x pc Ls st) := by
  obtain ⟨d1, rfl⟩ := d; exact pstep W (fun _ A r => XT.lload A B.2.2.2.2.2.2.1 rfl (by rw [B.1]; exact d1) hl r) hr
theorem w_aloadN (W : Wk E x T h F cs ss) (B : Is x own b ml R ret nm) {k : Fin 4} {v : Value} (d : D b pc (.aload_n k) 1 nx) (hl : Ls[k.val]? = some (.val v)) (hv : v.isRef = true) (hr : G E x T (fr x nx Ls (v :: st))) : G E x T (fr x pc Ls st) := by
  obtain ⟨d1, rfl⟩ := d; exact pstep W (fun _ A r => XS.aloadN A B.2.2.2.2.2.2.1 rfl (by rw [B.1]; exact d1) hl hv r) hr
theorem w_aload (W : Wk E x T h F cs ss) (B : Is x own b ml R ret nm) {k : Nat} {v : Value} (d : D b pc (.aload k) 2 nx) (hl : Ls[k]? = some (.val v)) (hv : v.isRef = true) (hr : G E x T (fr x nx Ls (v :: st))) : G E x T (fr x pc Ls st) := by
  obtain ⟨d1, rfl⟩ := d; exact pstep W (fun _ A r => XS.aload A B.2.2.2.2.2.2.1 rfl (by rw [B.1]; exact d1) hl hv r) hr
theorem w_istoreN (W : Wk E x T h F cs ss) (B : Is x own b ml R ret nm) {k : Fin 4} {v : Int32} (d : D b pc (.istore_n k) 1 nx) (hl : storeLocals Ls k.val (.int v) = some Ls') (hr : G E x T (fr x nx Ls' st)) : G E x T (fr x pc Ls (.int v :: st)) := by
  obtain ⟨d1, rfl⟩ := d; exact pstep W (fun _ A r => XS.istoreN A B.2.2.2.2.2.2.1 rfl (by rw [B.1]; exact d1) rfl hl r) hr
theorem w_istore (W : Wk E x T h F cs ss) (B : Is x own b ml R ret nm) {k : Nat} {v : Int32} (d : D b pc (.istore k) 2 nx) (hl : storeLocals Ls k (.int v) = some Ls') (hr : G E x T (fr x nx Ls' st)) : G E x T (fr x pc Ls (.int v :: st)) := by
  obtain ⟨d1, rfl⟩ := d; exact pstep W (fun _ A r => XS.istore A B.2.2.2.2.2.2.1 rfl (by rw [B.1]; exact d1) rfl hl r) hr
theorem w_lstoreN (W : Wk E x T h F cs ss) (B : Is x own b ml R ret nm) {k : Fin 4} {v : Int64} (d : D b pc (.lstore_n k) 1 nx) (hl : storeLocals Ls k.val (.long v) = some Ls') (hr : G E x T (fr x nx Ls' st)) : G E x T (fr x pc Ls (.long v :: st)) := by
  obtain ⟨d1, rfl⟩ := d; exact pstep W (fun _ A r => XT.lstoreN A B.2.2.2.2.2.2.1 rfl (by rw [B.1]; exact d1) rfl hl r) hr
theorem w_lstore (W : Wk E x T h F cs ss) (B : Is x own b ml R ret nm) {k : Nat} {v : Int64} (d : D b pc (.lstore k) 2 nx) (hl : storeLocals Ls k (.long v) = some Ls') (hr : G E x T (fr x nx Ls' st)) : G E x T (fr x pc Ls (.long v :: st)) := by
  obtain ⟨d1, rfl⟩ := d; exact pstep W (fun _ A r => XT.lstore A B.2.2.2.2.2.2.1 rfl (by rw [B.1]; exact d1) rfl hl r) hr
theorem w_astoreN (W : Wk E x T h F cs ss) (B : Is x own b ml R ret nm) {k : Fin 4} {v : Value} (d : D b pc (.astore_n k) 1 nx) (hv : v.isRef = true) (hl : storeLocals Ls k.val v = some Ls') (hr : G E x T (fr x nx Ls' st)) : G E x T (fr x pc Ls (v :: st)) := by
  obtain ⟨d1, rfl⟩ := d; exact pstep W (fun _ A r => XS.astoreN A B.2.2.2.2.2.2.1 rfl (by rw [B.1]; exact d1) rfl hv hl r) hr
theorem w_astore (W : Wk E x T h F cs ss) (B : Is x own b ml R ret nm) {k : Nat} {v : Value} (d : D b pc (.astore k) 2 nx) (hv : v.isRef = true) (hl : storeLocals Ls k v = some Ls') (hr : G E x T (fr x nx Ls' st)) : G E x T (fr x pc Ls (v :: st)) := by
  obtain ⟨d1, rfl⟩ := d; exact pstep W (fun _ A r => XS.astore A B.2.2.2.2.2.2.1 rfl (by rw [B.1]; exact d1) rfl hv hl r) hr
theorem w_iconst (W : Wk E x T h F cs ss) (B : Is x own b ml R ret nm) {i : Int} {v : Int32} (d : D b pc (.iconst i) 1 nx) (hv : Int32.ofInt i = v) (hr : G E x T (fr x nx Ls (.int v :: st))) : G E x T (fr x pc Ls st) := by
  obtain ⟨d1, rfl⟩ := d; subst hv; exact pstep W (fun _ A r => XS.iconst A B.2.2.2.2.2.2.1 rfl (by rw [B.1]; exact d1) r) hr
theorem w_bipush (W : Wk E x T h F cs ss) (B : Is x own b ml R ret nm) {i : Int} {v : Int32} (d : D b pc (.bipush i) 2 nx) (hv : (Int8.ofInt i).toInt32 = v) (hr : G E x T (fr x nx Ls (.int v :: st))) : G E x T (fr x pc Ls st) := by
  obtain ⟨d1, rfl⟩ := d; subst hv; exact pstep W (fun _ A r => XS.bipush A B.2.2.2.2.2.2.1 rfl (by rw [B.1]; exact d1) r) hr
theorem w_sipush (W : Wk E x T h F cs ss) (B : Is x own b ml R ret nm) {i : Int} {v : Int32} (d : D b pc (.sipush i) 3 nx) (hv : (Int16.ofInt i).toInt32 = v) (hr : G E x T (fr x nx Ls (.int v :: st))) : G E x T (fr x pc Ls st) := by
  obtain ⟨d1, rfl⟩ := d; subst hv; exact pstep W (fun _ A r => XS.sipush A B.2.2.2.2.2.2.1 rfl (by rw [B.1]; exact d1) r) hr
theorem w_lconst (W : Wk E x T h F cs ss) (B : Is x own b ml R ret nm) {i : Fin 2} {v : Int64} (d : D b pc (.lconst i) 1 nx) (hv : Int64.ofNat i = v) (hr : G E x T (fr x nx Ls (.long v :: st))) : G E x T (fr x pc Ls st) := by
  obtain ⟨d1, rfl⟩ := d; subst hv; exact pstep W (fun _ A r => XT.lconst A B.2.2.2.2.2.2.1 rfl (by rw [B.1]; exact d1) r) hr
theorem w_null (W : Wk E x T h F cs ss) (B : Is x own b ml R ret nm) (d : D b pc .aconst_null 1 nx) (hr : G E x T (fr x nx Ls (.null :: st))) : G E x T (fr x pc Ls st) := by
  obtain ⟨d1, rfl⟩ := d; exact pstep W (fun _ A r => XS.aconstNull A B.2.2.2.2.2.2.1 rfl (by rw [B.1]; exact d1) r) hr
theorem w_dup (W : Wk E x T h F cs ss) (B : Is x own b ml R ret nm) {v : Value} (d : D b pc .dup 1 nx) (hc : v.category = 1) (hr : G E x T (fr x nx Ls (v :: v :: st))) : G E x T (fr x pc Ls (v :: st)) := by
  obtain ⟨d1, rfl⟩ := d; exact pstep W (fun _ A r => XS.dup A B.2.2.2.2.2.2.1 rfl (by rw [B.1]; exact d1) rfl hc r) hr
theorem w_pop (W : Wk E x T h F cs ss) (B : Is x own b ml R ret nm) {v : Value} (d : D b pc .pop 1 nx) (hc : v.category = 1) (hr : G E x T (fr x nx Ls st)) : G E x T (fr x pc Ls (v :: st)) := by
  obtain ⟨d1, rfl⟩ := d; exact pstep W (fun _ A r => XT.pop A B.2.2.2.2.2.2.1 rfl (by rw [B.1]; exact d1) rfl hc r) hr
theorem w_dupX1 (W : Wk E x T h F cs ss) (B : Is x own b ml R ret nm) {v u : Value} (d : D b pc .dup_x1 1 nx) (hc : v.category = 1) (hc' : u.category = 1) (hr : G E x T (fr x nx Ls (v :: u :: v :: st))) : G E x T (fr x pc Ls (v :: u :: st)) := by
  obtain ⟨d1, rfl⟩ := d; exact pstep W (fun _ A r => XT.dupX1 A B.2.2.2.2.2.2.1 rfl (by rw [B.1]; exact d1) rfl hc hc' r) hr
theorem w_dup2 (W : Wk E x T h F cs ss) (B : Is x own b ml R ret nm) {v u : Value} (d : D b pc .dup2 1 nx) (hc : v.category = 1) (hc' : u.category = 1) (hr : G E x T (fr x nx Ls (v :: u :: v :: u :: st))) : G E x T (fr x pc Ls (v :: u :: st)) := by
  obtain ⟨d1, rfl⟩ := d; exact pstep W (fun _ A r => XT.dup2 A B.2.2.2.2.2.2.1 rfl (by rw [B.1]; exact d1) rfl hc hc' r) hr
theorem w_iinc (W : Wk E x T h F cs ss) (B : Is x own b ml R ret nm) {k : Nat} {i : Int} {v w : Int32} (d : D b pc (.iinc k i) 3 nx) (hl : Ls[k]? = some (.val (.int v))) (hw : v + Int32.ofInt i = w) (hl' : storeLocals Ls k (.int w) = some Ls') (hr : G E x T (fr x nx Ls' st)) : G E x T (fr x pc Ls st) := by
  obtain ⟨d1, rfl⟩ := d; subst hw; exact pstep W (fun _ A r => XS.iinc A B.2.2.2.2.2.2.1 rfl (by rw [B.1]; exact d1) hl hl' r) hr
theorem w_goto (W : Wk E x T h F cs ss) (B : Is x own b ml R ret nm) (d : J b pc (.goto o) 3 nx o tg) (hr : G E x T (fr x tg Ls st)) : G E x T (fr x pc Ls st) := by
  obtain ⟨d1, -, d2, d3⟩ := d; exact pstep W (fun _ A r => XS.goto A B.2.2.2.2.2.2.1 rfl (pc0 := pc) rfl (by rw [B.1]; exact d1) d2 d3 r) hr
end Steps
end Jvm.Own
namespace Jvm.Own
open Sem ClassFile Op Lib Bundle Jvm.Stand Jvm.Free Jvm.LawKit Jvm.RoadKit
section StepsB
variable {E : Gl} {x : Cx} {T : State} {h : Heap} {F : List Addr} {cs ss : Nat} {own : String} {b : ByteArray} {ml : Nat} {R : Room} {ret : Option FieldType} {nm : String} {pc nx tg : Nat} {o : Int} {Ls Ls' : Array Slot} {st : List Value}
theorem w_iadd (W : Wk E x T h F cs ss) (B : Is x own b ml R ret nm) {u v : Int32} (d : D b pc .iadd 1 nx) (hr : G E x T (fr x nx Ls (.int (u + v) :: st))) : G E x T (fr x pc Ls (.int v :: .int u :: st)) := by
  obtain ⟨d1, rfl⟩ := d; exact pstep W (fun _ A r => XS.iadd A B.2.2.2.2.2.2.1 rfl (by rw [B.1]; exact d1) rfl r) hr
theorem w_isub (W : Wk E x T h F cs ss) (B : Is x own b ml R ret nm) {u v : Int32} (d : D b pc .isub 1 nx) (hr : G E x T (fr x nx Ls (.int (u - v) :: st))) : G E x T (fr x pc Ls (.int v :: .int u :: st)) := by
  obtain ⟨d1, rfl⟩ := d; exact pstep W (fun _ A r => XS.isub A B.2.2.2.2.2.2.1 rfl (by rw [B.1]; exact d1) rfl r) hr
theorem w_imul (W : Wk E x T h F cs ss) (B : Is x own b ml R ret nm) {u v : Int32} (d : D b pc .imul 1 nx) (hr : G E x T (fr x nx Ls (.int (u * v) :: st))) : G E x T (fr x pc Ls (.int v :: .int u :: st)) := by
  obtain ⟨d1, rfl⟩ := d; exact pstep W (fun _ A r => XS.imul A B.2.2.2.2.2.2.1 rfl (by rw [B.1]; exact d1) rfl r) hr
theorem w_iand (W : Wk E x T h F cs ss) (B : Is x own b ml R ret nm) {u v : Int32} (d : D b pc .iand 1 nx) (hr : G E x T (fr x nx Ls (.int (u &&& v) :: st))) : G E x T (fr x pc Ls (.int v :: .int u :: st)) := by
  obtain ⟨d1, rfl⟩ := d; exact pstep W (fun _ A r => XS.iand A B.2.2.2.2.2.2.1 rfl (by rw [B.1]; exact d1) rfl r) hr
theorem w_ior (W : Wk E x T h F cs ss) (B : Is x own b ml R ret nm) {u v : Int32} (d : D b pc .ior 1 nx) (hr : G E x T (fr x nx Ls (.int (u ||| v) :: st))) : G E x T (fr x pc Ls (.int v :: .int u :: st)) := by
  obtain ⟨d1, rfl⟩ := d; exact pstep W (fun _ A r => XT.ior A B.2.2.2.2.2.2.1 rfl (by rw [B.1]; exact d1) rfl r) hr
theorem w_ixor (W : Wk E x T h F cs ss) (B : Is x own b ml R ret nm) {u v : Int32} (d : D b pc .ixor 1 nx) (hr : G E x T (fr x nx Ls (.int (u ^^^ v) :: st))) : G E x T (fr x pc Ls (.int v :: .int u :: st)) := by
  obtain ⟨d1, rfl⟩ := d; exact pstep W (fun _ A r => XT.ixor A B.2.2.2.2.2.2.1 rfl (by rw [B.1]; exact d1) rfl r) hr
theorem w_idiv (W : Wk E x T h F cs ss) (B : Is x own b ml R ret nm) {u v : Int32} (d : D b pc .idiv 1 nx) (hy : v ≠ 0) (hr : G E x T (fr x nx Ls (.int (u / v) :: st))) : G E x T (fr x pc Ls (.int v :: .int u :: st)) := by
  obtain ⟨d1, rfl⟩ := d; exact pstep W (fun _ A r => XS.idiv A B.2.2.2.2.2.2.1 rfl (by rw [B.1]; exact d1) rfl hy r) hr
theorem w_ladd (W : Wk E x T h F cs ss) (B : Is x own b ml R ret nm) {u v : Int64} (d : D b pc .ladd 1 nx) (hr : G E x T (fr x nx Ls (.long (u + v) :: st))) : G E x T (fr x pc Ls (.long v :: .long u :: st)) := by
  obtain ⟨d1, rfl⟩ := d; exact pstep W (fun _ A r => XT.ladd A B.2.2.2.2.2.2.1 rfl (by rw [B.1]; exact d1) rfl r) hr
theorem w_lsub (W : Wk E x T h F cs ss) (B : Is x own b ml R ret nm) {u v : Int64} (d : D b pc .lsub 1 nx) (hr : G E x T (fr x nx Ls (.long (u - v) :: st))) : G E x T (fr x pc Ls (.long v :: .long u :: st)) := by
  obtain ⟨d1, rfl⟩ := d; exact pstep W (fun _ A r => XT.lsub A B.2.2.2.2.2.2.1 rfl (by rw [B.1]; exact d1) rfl r) hr
theorem w_lmul (W : Wk E x T h F cs ss) (B : Is x own b ml R ret nm) {u v : Int64} (d : D b pc .lmul 1 nx) (hr : G E x T (fr x nx Ls (.long (u * v) :: st))) : G E x T (fr x pc Ls (.long v :: .long u :: st)) := by
  obtain ⟨d1, rfl⟩ := d; exact pstep W (fun _ A r => XT.lmul A B.2.2.2.2.2.2.1 rfl (by rw [B.1]; exact d1) rfl r) hr
theorem w_land (W : Wk E x T h F cs ss) (B : Is x own b ml R ret nm) {u v : Int64} (d : D b pc .land 1 nx) (hr : G E x T (fr x nx Ls (.long (u &&& v) :: st))) : G E x T (fr x pc Ls (.long v :: .long u :: st)) := by
  obtain ⟨d1, rfl⟩ := d; exact pstep W (fun _ A r => XT.land A B.2.2.2.2.2.2.1 rfl (by rw [B.1]; exact d1) rfl r) hr
theorem w_lor (W : Wk E x T h F cs ss) (B : Is x own b ml R ret nm) {u v : Int64} (d : D b pc .lor 1 nx) (hr : G E x T (fr x nx Ls (.long (u ||| v) :: st))) : G E x T (fr x pc Ls (.long v :: .long u :: st)) := by
  obtain ⟨d1, rfl⟩ := d; exact pstep W (fun _ A r => XT.lor A B.2.2.2.2.2.2.1 rfl (by rw [B.1]; exact d1) rfl r) hr
theorem w_lxor (W : Wk E x T h F cs ss) (B : Is x own b ml R ret nm) {u v : Int64} (d : D b pc .lxor 1 nx) (hr : G E x T (fr x nx Ls (.long (u ^^^ v) :: st))) : G E x T (fr x pc Ls (.long v :: .long u :: st)) := by
  obtain ⟨d1, rfl⟩ := d; exact pstep W (fun _ A r => XT.lxor A B.2.2.2.2.2.2.1 rfl (by rw [B.1]; exact d1) rfl r) hr
theorem w_ldiv (W : Wk E x T h F cs ss) (B : Is x own b ml R ret nm) {u v : Int64} (d : D b pc .ldiv 1 nx) (hy : v ≠ 0) (hr : G E x T (fr x nx Ls (.long (u / v) :: st))) : G E x T (fr x pc Ls (.long v :: .long u :: st)) := by
  obtain ⟨d1, rfl⟩ := d; exact pstep W (fun _ A r => XT.ldiv A B.2.2.2.2.2.2.1 rfl (by rw [B.1]; exact d1) rfl hy r) hr
theorem w_irem (W : Wk E x T h F cs ss) (B : Is x own b ml R ret nm) {u v : Int32} (d : D b pc .irem 1 nx) (hy : v ≠ 0) (hr : G E x T (fr x nx Ls (.int (u % v) :: st))) : G E x T (fr x pc Ls (.int v :: .int u :: st)) := by
  obtain ⟨d1, rfl⟩ := d; obtain ⟨_, _, _, X, -⟩ := W; exact G.of (fun _ r => iremM X B.2.2.2.2.2.2.1 rfl (by rw [B.1]; exact d1) rfl hy r) hr
theorem w_lrem (W : Wk E x T h F cs ss) (B : Is x own b ml R ret nm) {u v : Int64} (d : D b pc .lrem 1 nx) (hy : v ≠ 0) (hr : G E x T (fr x nx Ls (.long (u % v) :: st))) : G E x T (fr x pc Ls (.long v :: .long u :: st)) := by
  obtain ⟨d1, rfl⟩ := d; rw [← lrem_mod] at hr; exact pstep W (fun _ A r => XT.lrem A B.2.2.2.2.2.2.1 rfl (by rw [B.1]; exact d1) rfl hy r) hr
theorem w_ineg (W : Wk E x T h F cs ss) (B : Is x own b ml R ret nm) {u : Int32} (d : D b pc .ineg 1 nx) (hr : G E x T (fr x nx Ls (.int (-u) :: st))) : G E x T (fr x pc Ls (.int u :: st)) := by
  obtain ⟨d1, rfl⟩ := d; exact pstep W (fun _ A r => XS.ineg A B.2.2.2.2.2.2.1 rfl (by rw [B.1]; exact d1) rfl r) hr
theorem w_lneg (W : Wk E x T h F cs ss) (B : Is x own b ml R ret nm) {u : Int64} (d : D b pc .lneg 1 nx) (hr : G E x T (fr x nx Ls (.long (-u) :: st))) : G E x T (fr x pc Ls (.long u :: st)) := by
  obtain ⟨d1, rfl⟩ := d; exact pstep W (fun _ A r => XT.lneg A B.2.2.2.2.2.2.1 rfl (by rw [B.1]; exact d1) rfl r) hr
theorem w_i2l (W : Wk E x T h F cs ss) (B : Is x own b ml R ret nm) {u : Int32} (d : D b pc .i2l 1 nx) (hr : G E x T (fr x nx Ls (.long (u.toInt64) :: st))) : G E x T (fr x pc Ls (.int u :: st)) := by
  obtain ⟨d1, rfl⟩ := d; exact pstep W (fun _ A r => XT.i2l A B.2.2.2.2.2.2.1 rfl (by rw [B.1]; exact d1) rfl r) hr
theorem w_l2i (W : Wk E x T h F cs ss) (B : Is x own b ml R ret nm) {u : Int64} (d : D b pc .l2i 1 nx) (hr : G E x T (fr x nx Ls (.int (u.toInt32) :: st))) : G E x T (fr x pc Ls (.long u :: st)) := by
  obtain ⟨d1, rfl⟩ := d; exact pstep W (fun _ A r => XT.l2i A B.2.2.2.2.2.2.1 rfl (by rw [B.1]; exact d1) rfl r) hr
theorem w_i2b (W : Wk E x T h F cs ss) (B : Is x own b ml R ret nm) {u : Int32} (d : D b pc .i2b 1 nx) (hr : G E x T (fr x nx Ls (.int (u.toInt8.toInt32) :: st))) : G E x T (fr x pc Ls (.int u :: st)) := by
  obtain ⟨d1, rfl⟩ := d; exact pstep W (fun _ A r => XT.i2b A B.2.2.2.2.2.2.1 rfl (by rw [B.1]; exact d1) rfl r) hr
theorem w_i2c (W : Wk E x T h F cs ss) (B : Is x own b ml R ret nm) {u : Int32} (d : D b pc .i2c 1 nx) (hr : G E x T (fr x nx Ls (.int (u.toUInt32.toUInt16.toUInt32.toInt32) :: st))) : G E x T (fr x pc Ls (.int u :: st)) := by
  obtain ⟨d1, rfl⟩ := d; exact pstep W (fun _ A r => XT.i2c A B.2.2.2.2.2.2.1 rfl (by rw [B.1]; exact d1) rfl r) hr
theorem w_i2s (W : Wk E x T h F cs ss) (B : Is x own b ml R ret nm) {u : Int32} (d : D b pc .i2s 1 nx) (hr : G E x T (fr x nx Ls (.int (u.toInt16.toInt32) :: st))) : G E x T (fr x pc Ls (.int u :: st)) := by
  obtain ⟨d1, rfl⟩ := d; exact pstep W (fun _ A r => XT.i2s A B.2.2.2.2.2.2.1 rfl (by rw [B.1]; exact d1) rfl r) hr
theorem w_ishl (W : Wk E x T h F cs ss) (B : Is x own b ml R ret nm) {u v : Int32} (d : D b pc .ishl 1 nx) (hr : G E x T (fr x nx Ls (.int (u <<< (v &&& 31)) :: st))) : G E x T (fr x pc Ls (.int v :: .int u :: st)) := by
  obtain ⟨d1, rfl⟩ := d; exact pstep W (fun _ A r => XT.ishl A B.2.2.2.2.2.2.1 rfl (by rw [B.1]; exact d1) rfl r) hr
theorem w_ishr (W : Wk E x T h F cs ss) (B : Is x own b ml R ret nm) {u v : Int32} (d : D b pc .ishr 1 nx) (hr : G E x T (fr x nx Ls (.int (u >>> (v &&& 31)) :: st))) : G E x T (fr x pc Ls (.int v :: .int u :: st)) := by
  obtain ⟨d1, rfl⟩ := d; exact pstep W (fun _ A r => XT.ishr A B.2.2.2.2.2.2.1 rfl (by rw [B.1]; exact d1) rfl r) hr
theorem w_iushr (W : Wk E x T h F cs ss) (B : Is x own b ml R ret nm) {u v : Int32} (d : D b pc .iushr 1 nx) (hr : G E x T (fr x nx Ls (.int (XT.ushr u v) :: st))) : G E x T (fr x pc Ls (.int v :: .int u :: st)) := by
  obtain ⟨d1, rfl⟩ := d; exact pstep W (fun _ A r => XT.iushr A B.2.2.2.2.2.2.1 rfl (by rw [B.1]; exact d1) rfl r) hr
theorem w_lshl (W : Wk E x T h F cs ss) (B : Is x own b ml R ret nm) {u : Int64} {v : Int32} (d : D b pc .lshl 1 nx) (hr : G E x T (fr x nx Ls (.long (u <<< (v.toInt64 &&& 63)) :: st))) : G E x T (fr x pc Ls (.int v :: .long u :: st)) := by
  obtain ⟨d1, rfl⟩ := d; exact pstep W (fun _ A r => XT.lshl A B.2.2.2.2.2.2.1 rfl (by rw [B.1]; exact d1) rfl r) hr
theorem w_lshr (W : Wk E x T h F cs ss) (B : Is x own b ml R ret nm) {u : Int64} {v : Int32} (d : D b pc .lshr 1 nx) (hr : G E x T (fr x nx Ls (.long (u >>> (v.toInt64 &&& 63)) :: st))) : G E x T (fr x pc Ls (.int v :: .long u :: st)) := by
  obtain ⟨d1, rfl⟩ := d; exact pstep W (fun _ A r => XT.lshr A B.2.2.2.2.2.2.1 rfl (by rw [B.1]; exact d1) rfl r) hr
theorem w_lushr (W : Wk E x T h F cs ss) (B : Is x own b ml R ret nm) {u : Int64} {v : Int32} (d : D b pc .lushr 1 nx) (hr : G E x T (fr x nx Ls (.long (XT.ushrL u v) :: st))) : G E x T (fr x pc Ls (.int v :: .long u :: st)) := by
  obtain ⟨d1, rfl⟩ := d; exact pstep W (fun _ A r => XT.lushr A B.2.2.2.2.2.2.1 rfl (by rw [B.1]; exact d1) rfl r) hr
theorem w_lcmp (W : Wk E x T h F cs ss) (B : Is x own b ml R ret nm) {u v : Int64} (d : D b pc .lcmp 1 nx) (hr : G E x T (fr x nx Ls (.int (XT.cmpL u v) :: st))) : G E x T (fr x pc Ls (.long v :: .long u :: st)) := by
  obtain ⟨d1, rfl⟩ := d; exact pstep W (fun _ A r => XT.lcmp A B.2.2.2.2.2.2.1 rfl (by rw [B.1]; exact d1) rfl r) hr
theorem w_if_eq (W : Wk E x T h F cs ss) (B : Is x own b ml R ret nm) {u : Int32} (d : J b pc (.ifCond .eq o) 3 nx o tg) (ht : u = 0 → G E x T (fr x tg Ls st)) (hf : ¬ u = 0 → G E x T (fr x nx Ls st)) : G E x T (fr x pc Ls (.int u :: st)) := by
  obtain ⟨d1, rfl, d2, d3⟩ := d
  by_cases q : u = 0
  · exact pstep W (fun _ A r => XS.ifYes A B.2.2.2.2.2.2.1 rfl (pc0 := pc) rfl (by rw [B.1]; exact d1) rfl ((if0 _ _).trans (teq q).1) d2 d3 r) (ht q)
  · exact pstep W (fun _ A r => XS.ifNo A B.2.2.2.2.2.2.1 rfl (by rw [B.1]; exact d1) rfl ((if0 _ _).trans (feq q).1) r) (hf q)
theorem w_icmp_eq (W : Wk E x T h F cs ss) (B : Is x own b ml R ret nm) {u v : Int32} (d : J b pc (.if_icmp .eq o) 3 nx o tg) (ht : u = v → G E x T (fr x tg Ls st)) (hf : ¬ u = v → G E x T (fr x nx Ls st)) : G E x T (fr x pc Ls (.int v :: .int u :: st)) := by
  obtain ⟨d1, rfl, d2, d3⟩ := d
  by_cases q : u = v
  · exact pstep W (fun _ A r => XS.icmpYes A B.2.2.2.2.2.2.1 rfl (pc0 := pc) rfl (by rw [B.1]; exact d1) rfl (teq q).1 d2 d3 r) (ht q)
  · exact pstep W (fun _ A r => XS.icmpNo A B.2.2.2.2.2.2.1 rfl (by rw [B.1]; exact d1) rfl (feq q).1 r) (hf q)
theorem w_if_ne (W : Wk E x T h F cs ss) (B : Is x own b ml R ret nm) {u : Int32} (d : J b pc (.ifCond .ne o) 3 nx o tg) (ht : ¬ u = 0 → G E x T (fr x tg Ls st)) (hf : u = 0 → G E x T (fr x nx Ls st)) : G E x T (fr x pc Ls (.int u :: st)) := by
  obtain ⟨d1, rfl, d2, d3⟩ := d
  by_cases q : u = 0
  · exact pstep W (fun _ A r => XS.ifNo A B.2.2.2.2.2.2.1 rfl (by rw [B.1]; exact d1) rfl ((if0 _ _).trans (teq q).2) r) (hf q)
  · exact pstep W (fun _ A r => XS.ifYes A B.2.2.2.2.2.2.1 rfl (pc0 := pc) rfl (by rw [B.1]; exact d1) rfl ((if0 _ _).trans (feq q).2) d2 d3 r) (ht q)
theorem w_icmp_ne (W : Wk E x T h F cs ss) (B : Is x own b ml R ret nm) {u v : Int32} (d : J b pc (.if_icmp .ne o) 3 nx o tg) (ht : ¬ u = v → G E x T (fr x tg Ls st)) (hf : u = v → G E x T (fr x nx Ls st)) : G E x T (fr x pc Ls (.int v :: .int u :: st)) := by
  obtain ⟨d1, rfl, d2, d3⟩ := d
  by_cases q : u = v
  · exact pstep W (fun _ A r => XS.icmpNo A B.2.2.2.2.2.2.1 rfl (by rw [B.1]; exact d1) rfl (teq q).2 r) (hf q)
  · exact pstep W (fun _ A r => XS.icmpYes A B.2.2.2.2.2.2.1 rfl (pc0 := pc) rfl (by rw [B.1]; exact d1) rfl (feq q).2 d2 d3 r) (ht q)
theorem w_if_lt (W : Wk E x T h F cs ss) (B : Is x own b ml R ret nm) {u : Int32} (d : J b pc (.ifCond .lt o) 3 nx o tg) (ht : u < 0 → G E x T (fr x tg Ls st)) (hf : ¬ u < 0 → G E x T (fr x nx Ls st)) : G E x T (fr x pc Ls (.int u :: st)) := by
  obtain ⟨d1, rfl, d2, d3⟩ := d
  by_cases q : u < 0
  · exact pstep W (fun _ A r => XS.ifYes A B.2.2.2.2.2.2.1 rfl (pc0 := pc) rfl (by rw [B.1]; exact d1) rfl ((if0 _ _).trans (tlt q).1) d2 d3 r) (ht q)
  · exact pstep W (fun _ A r => XS.ifNo A B.2.2.2.2.2.2.1 rfl (by rw [B.1]; exact d1) rfl ((if0 _ _).trans (flt q).1) r) (hf q)
theorem w_icmp_lt (W : Wk E x T h F cs ss) (B : Is x own b ml R ret nm) {u v : Int32} (d : J b pc (.if_icmp .lt o) 3 nx o tg) (ht : u < v → G E x T (fr x tg Ls st)) (hf : ¬ u < v → G E x T (fr x nx Ls st)) : G E x T (fr x pc Ls (.int v :: .int u :: st)) := by
  obtain ⟨d1, rfl, d2, d3⟩ := d
  by_cases q : u < v
  · exact pstep W (fun _ A r => XS.icmpYes A B.2.2.2.2.2.2.1 rfl (pc0 := pc) rfl (by rw [B.1]; exact d1) rfl (tlt q).1 d2 d3 r) (ht q)
  · exact pstep W (fun _ A r => XS.icmpNo A B.2.2.2.2.2.2.1 rfl (by rw [B.1]; exact d1) rfl (flt q).1 r) (hf q)
theorem w_if_ge (W : Wk E x T h F cs ss) (B : Is x own b ml R ret nm) {u : Int32} (d : J b pc (.ifCond .ge o) 3 nx o tg) (ht : ¬ u < 0 → G E x T (fr x tg Ls st)) (hf : u < 0 → G E x T (fr x nx Ls st)) : G E x T (fr x pc Ls (.int u :: st)) := by
  obtain ⟨d1, rfl, d2, d3⟩ := d
  by_cases q : u < 0
  · exact pstep W (fun _ A r => XS.ifNo A B.2.2.2.2.2.2.1 rfl (by rw [B.1]; exact d1) rfl ((if0 _ _).trans (tlt q).2.1) r) (hf q)
  · exact pstep W (fun _ A r => XS.ifYes A B.2.2.2.2.2.2.1 rfl (pc0 := pc) rfl (by rw [B.1]; exact d1) rfl ((if0 _ _).trans (flt q).2.1) d2 d3 r) (ht q)
theorem w_icmp_ge (W : Wk E x T h F cs ss) (B : Is x own b ml R ret nm) {u v : Int32} (d : J b pc (.if_icmp .ge o) 3 nx o tg) (ht : ¬ u < v → G E x T (fr x tg Ls st)) (hf : u < v → G E x T (fr x nx Ls st)) : G E x T (fr x pc Ls (.int v :: .int u :: st)) := by
  obtain ⟨d1, rfl, d2, d3⟩ := d
  by_cases q : u < v
  · exact pstep W (fun _ A r => XS.icmpNo A B.2.2.2.2.2.2.1 rfl (by rw [B.1]; exact d1) rfl (tlt q).2.1 r) (hf q)
  · exact pstep W (fun _ A r => XS.icmpYes A B.2.2.2.2.2.2.1 rfl (pc0 := pc) rfl (by rw [B.1]; exact d1) rfl (flt q).2.1 d2 d3 r) (ht q)
theorem w_if_gt (W : Wk E x T h F cs ss) (B : Is x own b ml R ret nm) {u : Int32} (d : J b pc (.ifCond .gt o) 3 nx o tg) (ht : 0 < u → G E x T (fr x tg Ls st)) (hf : ¬ 0 < u → G E x T (fr x nx Ls st)) : G E x T (fr x pc Ls (.int u :: st)) := by
  obtain ⟨d1, rfl, d2, d3⟩ := d
  by_cases q : 0 < u
  · exact pstep W (fun _ A r => XS.ifYes A B.2.2.2.2.2.2.1 rfl (pc0 := pc) rfl (by rw [B.1]; exact d1) rfl ((if0 _ _).trans (tlt q).2.2.1) d2 d3 r) (ht q)
  · exact pstep W (fun _ A r => XS.ifNo A B.2.2.2.2.2.2.1 rfl (by rw [B.1]; exact d1) rfl ((if0 _ _).trans (flt q).2.2.1) r) (hf q)
theorem w_icmp_gt (W : Wk E x T h F cs ss) (B : Is x own b ml R ret nm) {u v : Int32} (d : J b pc (.if_icmp .gt o) 3 nx o tg) (ht : v < u → G E x T (fr x tg Ls st)) (hf : ¬ v < u → G E x T (fr x nx Ls st)) : G E x T (fr x pc Ls (.int v :: .int u :: st)) := by
  obtain ⟨d1, rfl, d2, d3⟩ := d
  by_cases q : v < u
  · exact pstep W (fun _ A r => XS.icmpYes A B.2.2.2.2.2.2.1 rfl (pc0 := pc) rfl (by rw [B.1]; exact d1) rfl (tlt q).2.2.1 d2 d3 r) (ht q)
  · exact pstep W (fun _ A r => XS.icmpNo A B.2.2.2.2.2.2.1 rfl (by rw [B.1]; exact d1) rfl (flt q).2.2.1 r) (hf q)
theorem w_if_le (W : Wk E x T h F cs ss) (B : Is x own b ml R ret nm) {u : Int32} (d : J b pc (.ifCond .le o) 3 nx o tg) (ht : ¬ 0 < u → G E x T (fr x tg Ls st)) (hf : 0 < u → G E x T (fr x nx Ls st)) : G E x T (fr x pc Ls (.int u :: st)) := by
  obtain ⟨d1, rfl, d2, d3⟩ := d
  by_cases q : 0 < u
  · exact pstep W (fun _ A r => XS.ifNo A B.2.2.2.2.2.2.1 rfl (by rw [B.1]; exact d1) rfl ((if0 _ _).trans (tlt q).2.2.2) r) (hf q)
  · exact pstep W (fun _ A r => XS.ifYes A B.2.2.2.2.2.2.1 rfl (pc0 := pc) rfl (by rw [B.1]; exact d1) rfl ((if0 _ _).trans (flt q).2.2.2) d2 d3 r) (ht q)
theorem w_icmp_le (W : Wk E x T h F cs ss) (B : Is x own b ml R ret nm) {u v : Int32} (d : J b pc (.if_icmp .le o) 3 nx o tg) (ht : ¬ v < u → G E x T (fr x tg Ls st)) (hf : v < u → G E x T (fr x nx Ls st)) : G E x T (fr x pc Ls (.int v :: .int u :: st)) := by
  obtain ⟨d1, rfl, d2, d3⟩ := d
  by_cases q : v < u
  · exact pstep W (fun _ A r => XS.icmpNo A B.2.2.2.2.2.2.1 rfl (by rw [B.1]; exact d1) rfl (tlt q).2.2.2 r) (hf q)
  · exact pstep W (fun _ A r => XS.icmpYes A B.2.2.2.2.2.2.1 rfl (pc0 := pc) rfl (by rw [B.1]; exact d1) rfl (flt q).2.2.2 d2 d3 r) (ht q)
theorem w_ifnull_null (W : Wk E x T h F cs ss) (B : Is x own b ml R ret nm) (d : J b pc (.ifnull o) 3 nx o tg) (hr : G E x T (fr x tg Ls st)) : G E x T (fr x pc Ls (.null :: st)) := by
  obtain ⟨d1, rfl, d2, d3⟩ := d; exact pstep W (fun _ A r => XS.ifnullYes A B.2.2.2.2.2.2.1 rfl (pc0 := pc) rfl (by rw [B.1]; exact d1) rfl d2 d3 r) hr
theorem w_ifnull_ref (W : Wk E x T h F cs ss) (B : Is x own b ml R ret nm) {a : Addr} (d : J b pc (.ifnull o) 3 nx o tg) (hr : G E x T (fr x nx Ls st)) : G E x T (fr x pc Ls (.ref a :: st)) := by
  obtain ⟨d1, rfl, d2, d3⟩ := d; exact pstep W (fun _ A r => XS.ifnullNo A B.2.2.2.2.2.2.1 rfl (by rw [B.1]; exact d1) rfl r) hr
theorem w_ifnonnull_null (W : Wk E x T h F cs ss) (B : Is x own b ml R ret nm) (d : J b pc (.ifnonnull o) 3 nx o tg) (hr : G E x T (fr x nx Ls st)) : G E x T (fr x pc Ls (.null :: st)) := by
  obtain ⟨d1, rfl, d2, d3⟩ := d; exact pstep W (fun _ A r => XT.ifnonnullNo A B.2.2.2.2.2.2.1 rfl (by rw [B.1]; exact d1) rfl r) hr
theorem w_ifnonnull_ref (W : Wk E x T h F cs ss) (B : Is x own b ml R ret nm) {a : Addr} (d : J b pc (.ifnonnull o) 3 nx o tg) (hr : G E x T (fr x tg Ls st)) : G E x T (fr x pc Ls (.ref a :: st)) := by
  obtain ⟨d1, rfl, d2, d3⟩ := d; exact pstep W (fun _ A r => XT.ifnonnullYes A B.2.2.2.2.2.2.1 rfl (pc0 := pc) rfl (by rw [B.1]; exact d1) rfl d2 d3 r) hr
theorem w_acmp_eq_y (W : Wk E x T h F cs ss) (B : Is x own b ml R ret nm) {u v : Value} (d : J b pc (.if_acmp .eq o) 3 nx o tg) (h1 : u.isRef = true) (h2 : v.isRef = true) (q : u = v) (hr : G E x T (fr x tg Ls st)) : G E x T (fr x pc Ls (v :: u :: st)) := by
  obtain ⟨d1, rfl, d2, d3⟩ := d; exact pstep W (fun _ A r => XT.acmpYes A B.2.2.2.2.2.2.1 rfl (pc0 := pc) rfl (by rw [B.1]; exact d1) rfl h1 h2 (by simp [XT.acmp, q]) d2 d3 r) hr
theorem w_acmp_eq_n (W : Wk E x T h F cs ss) (B : Is x own b ml R ret nm) {u v : Value} (d : J b pc (.if_acmp .eq o) 3 nx o tg) (h1 : u.isRef = true) (h2 : v.isRef = true) (q : u ≠ v) (hr : G E x T (fr x nx Ls st)) : G E x T (fr x pc Ls (v :: u :: st)) := by
  obtain ⟨d1, rfl, d2, d3⟩ := d; exact pstep W (fun _ A r => XT.acmpNo A B.2.2.2.2.2.2.1 rfl (by rw [B.1]; exact d1) rfl h1 h2 (by simp [XT.acmp, q]) r) hr
theorem w_acmp_ne_y (W : Wk E x T h F cs ss) (B : Is x own b ml R ret nm) {u v : Value} (d : J b pc (.if_acmp .ne o) 3 nx o tg) (h1 : u.isRef = true) (h2 : v.isRef = true) (q : u = v) (hr : G E x T (fr x nx Ls st)) : G E x T (fr x pc Ls (v :: u :: st)) := by
  obtain ⟨d1, rfl, d2, d3⟩ := d; exact pstep W (fun _ A r => XT.acmpNo A B.2.2.2.2.2.2.1 rfl (by rw [B.1]; exact d1) rfl h1 h2 (by simp [XT.acmp, q]) r) hr
theorem w_acmp_ne_n (W : Wk E x T h F cs ss) (B : Is x own b ml R ret nm) {u v : Value} (d : J b pc (.if_acmp .ne o) 3 nx o tg) (h1 : u.isRef = true) (h2 : v.isRef = true) (q : u ≠ v) (hr : G E x T (fr x tg Ls st)) : G E x T (fr x pc Ls (v :: u :: st)) := by
  obtain ⟨d1, rfl, d2, d3⟩ := d; exact pstep W (fun _ A r => XT.acmpYes A B.2.2.2.2.2.2.1 rfl (pc0 := pc) rfl (by rw [B.1]; exact d1) rfl h1 h2 (by simp [XT.acmp, q]) d2 d3 r) hr
end StepsB
end Jvm.Own
namespace Jvm.Own
open Sem ClassFile Op Lib Bundle Jvm.Stand Jvm.Free Jvm.LawKit Jvm.RoadKit
theorem chr_nil (Z : State) {vm vm1 : Vm} {h h' : Heap} (q : h.size ≤ h'.size) : CHr Z [] vm h vm1 h' := ⟨(fun _ hp => nomatch hp), q, fun _ B => by obtain ⟨_, hp, _⟩ := B; exact nomatch hp⟩
theorem safe_nil (Z : State) (vm : Vm) (h : Heap) (x : Addr) : Safe Z [] vm h x := fun B => by obtain ⟨_, hp, _⟩ := B; exact nomatch hp
section StepsC
variable {E : Gl} {x : Cx} {T : State} {h : Heap} {F : List Addr} {cs ss : Nat} {own : String} {b : ByteArray} {ml : Nat} {R : Room} {ret : Option FieldType} {nm : String} {pc nx tg : Nat} {o : Int} {Ls Ls' : Array Slot} {st stk : List Value}
/-- a walk opened: the Stand, and how it is closed behind a step that adds cells, and behind one that writes a place that may be written -/
theorem Wk.open (W : Wk E x T h F cs ss) (B : Is x own b ml R ret nm) : ∃ (vm : Vm) (L : List Loc), Stand x.p E.l x.e x.R (x.s.setVm vm) x.m x.args x.below x.meth x.c T L cs ss ∧ T.heap = h ∧ E.Z.Warmed39 (x.s.setVm vm).vm ∧ (x.s.setVm vm).vm.findClass own = some x.m.cls ∧
    (∀ (T' : State) (h' : Heap) (cs' ss' : Nat), Stand x.p E.l x.e x.R (x.s.setVm vm) x.m x.args x.below x.meth x.c T' L cs' ss' → T'.heap = h' → Ext h h' → Wk E x T' h' F cs' ss' ∧ ∀ y, h.size ≤ y → y < h'.size → Wk E x T' h' (y :: F) cs' ss') ∧
    (∀ (a : Addr) (sl : Nat) (v : Value) (T' : State) (h' : Heap), a ∈ F → Stand x.p E.l x.e x.R (x.s.setVm vm) x.m x.args x.below x.meth x.c T' (L ++ [⟨a, sl⟩]) cs ss → T'.heap = h' → Wr h h' a sl v → Wk E x T' h' F cs ss) := by
  obtain ⟨vm, k, L, X, h1, h2, h3, h4, h5, h6, h7, h8, h9, h10⟩ := W
  refine ⟨vm, L, X, h1, h5, ?_, ?_, ?_⟩
  · show vm.findClass own = _
    rw [h2.1.alike.findClass]; exact B.2.2.2.2.2.2.2
  · intro T' h' cs' ss' X' e' Ex
    have c1 : CHr E.Z E.K vm h vm h' := CHr.ext Ex h8.1
    have f1 : FOk E vm h' F := fun y hy => ⟨(h9 y hy).1, Nat.lt_of_lt_of_le (h9 y hy).2.1 Ex.1, c1.safe (h9 y hy).2.1 (h9 y hy).2.2⟩
    have n1 : E.n ≤ h.size := by rw [← h7.1]; exact h7.2.1
    refine ⟨⟨vm, k, L, X', e', h2, Nat.le_trans h3 Ex.1, h4, h5, h6, h7.ext Ex, h8.trans c1, f1, h10⟩, fun y hy1 hy2 => ⟨vm, k, L, X', e', h2, Nat.le_trans h3 Ex.1, h4, h5, h6, h7.ext Ex, h8.trans c1, fun z hz => ?_, h10⟩⟩
    rcases List.mem_cons.mp hz with rfl | hz
    · exact ⟨Nat.le_trans n1 hy1, hy2, Safe.ext Ex h8.1 (Safe.new hy1)⟩
    · exact f1 z hz
  · intro a sl v T' h' ha X' e' Wr'
    have c1 : CHr E.Z E.K vm h vm h' := CHr.wr Wr' (h9 a ha).2.2 h8.1
    exact ⟨vm, k, _, X', e', h2, by rw [Wr'.size]; exact h3, h4, h5, Fr.snoc X' h6 (h9 a ha).1, h7.wr Wr' (h9 a ha).1, h8.trans c1, fun y hy => ⟨(h9 y hy).1, by rw [Wr'.size]; exact (h9 y hy).2.1, c1.safe (h9 y hy).2.1 (h9 y hy).2.2⟩, h10⟩
theorem Wk.openK (W : Wk E x T h F cs ss) (B : Is x own b ml R ret nm) : ∃ (vm : Vm) (L : List Loc), Stand x.p E.l x.e x.R (x.s.setVm vm) x.m x.args x.below x.meth x.c T L cs ss ∧ T.heap = h ∧ E.Z.Warmed39 (x.s.setVm vm).vm ∧ (x.s.setVm vm).vm.findClass own = some x.m.cls ∧ Fr E.n L ∧
    (∀ (T' : State) (h' : Heap) (L' : List Loc) (ws : List Addr) (cs' ss' : Nat), Stand x.p E.l x.e x.R (x.s.setVm vm) x.m x.args x.below x.meth x.c T' L' cs' ss' → T'.heap = h' → Fr E.n L' → Keep h h' ws → (∀ y ∈ ws, y ∈ F) → Wk E x T' h' F cs' ss') := by
  obtain ⟨vm, k, L, X, h1, h2, h3, h4, h5, h6, h7, h8, h9, h10⟩ := W
  refine ⟨vm, L, X, h1, h5, ?_, h6, ?_⟩
  · show vm.findClass own = _
    rw [h2.1.alike.findClass]; exact B.2.2.2.2.2.2.2
  · intro T' h' L' ws cs' ss' X' e' N K hws
    have c1 : CHr E.Z E.K vm h vm h' := CHr.keep K (fun y hy => (h9 y (hws y hy)).2.2) h8.1
    exact ⟨vm, k, L', X', e', h2, Nat.le_trans h3 K.1, h4, h5, N, h7.keep K (fun y hy => (h9 y (hws y hy)).1), h8.trans c1, fun y hy => ⟨(h9 y hy).1, Nat.lt_of_lt_of_le (h9 y hy).2.1 K.1, c1.safe (h9 y hy).2.1 (h9 y hy).2.2⟩, h10⟩
theorem w_arraycopy (W : Wk E x T h F cs ss) (B : Is x own b ml R ret nm) {index : Nat} {a v : Addr} {k k' : ClassId} {ty : FieldType} {z z' sp dp nn : Int32} {vs vd us : List Value} {dv dd : Value} (d : D b pc (.invokestatic index) 3 nx)
    (w1 : (Cond.methodLink own index Jvm.Stand.acN).before E.a E.Z = true) (w2 : (Cond.native Jvm.Stand.acN).before E.a E.Z = true) (w3 : (Cond.static Jvm.Stand.acN).before E.a E.Z = true) (w4 : (Cond.initialized "java/lang/System").before E.a E.Z = true)
    (hF : v ∈ F) (A : Arv E.Z h a k ty z vs dv) (Bd : Arv E.Z h v k' ty z' vd dd) (hty : refKind ty = false) (h1 : ¬ sp < 0) (h2 : ¬ dp < 0) (h3 : ¬ nn < 0) (h4 : sp.toNatClampNeg + nn.toNatClampNeg ≤ z.toNatClampNeg) (h5 : dp.toNatClampNeg + nn.toNatClampNeg ≤ z'.toNatClampNeg)
    (hus : us = (List.range nn.toNatClampNeg).map fun i => vs.getD (sp.toNatClampNeg + i) dv) (hl : dp.toNatClampNeg + nn.toNatClampNeg ≤ vd.length) (hsz : Ls.size = ml) (hf : 1 ≤ R.frames) {Wt : Nat} (hW : (st.map fun v => v.category).sum ≤ Wt) (hlo : Wt + (nativeFrameWords "java/lang/System" "arraycopy" 5 + 11) ≤ R.locals)
    (hr : ∀ (T' : State) (h' : Heap), Wk E x T' h' F cs ss → Keep h h' [v] → Arv E.Z h' v k' ty z' (vd.take dp.toNatClampNeg ++ us ++ vd.drop (dp.toNatClampNeg + nn.toNatClampNeg)) dd → G E x T' (fr x nx Ls st)) : G E x T (fr x pc Ls (.int nn :: .int dp :: .ref v :: .int sp :: .ref a :: st)) := by
  obtain ⟨d1, rfl⟩ := d
  have hge := (W.fOk hF).1
  obtain ⟨vm, L, X, e, hZ, hown, N, cl⟩ := W.openK B
  obtain ⟨T', h', L', X', e', N', K, A', stp⟩ := cpA X B.2.2.2.2.2.2.1 hZ hown w1 w2 w3 w4 e A Bd (Or.inl ⟨rfl, hty⟩) h1 h2 h3 h4 h5 hus hl N hge (g := fr x pc Ls (.int nn :: .int dp :: .ref v :: .int sp :: .ref a :: st)) rfl (hsz.trans B.2.1.symm) rfl (by rw [B.1]; exact d1) (by rw [B.2.2.1]; exact hf) (W := Wt) (by show 2 * 0 + _ ≤ _; omega) (by rw [B.2.2.1]; exact hlo)
  exact G.of stp (hr T' h' (cl T' h' L' [v] cs ss X' e' N' K (fun y hy => by rw [List.mem_singleton.mp hy]; exact hF)) K A')
theorem w_new (W : Wk E x T h F cs ss) (B : Is x own b ml R ret nm) {C : String} {index n : Nat} (d : D b pc (.new index) 3 nx) (w : (Cond.classLink own index C).before E.a E.Z = true) (wi : (Cond.instantiable C n).before E.a E.Z = true) (wz : (Cond.initialized C).before E.a E.Z = true) (hc : cs + 1 ≤ R.cells) (hl : ss + n ≤ R.slots)
    (hr : ∀ (T' : State) (h' : Heap) (a : Addr), Wk E x T' h' (a :: F) (cs + 1) (ss + n) → a = h.size → Ext h h' → Exa E.Z h' a C → (∀ {O f t : String} {ty : FieldType}, Laid E.Z E.a C O f t → parseFieldDescriptor t = some ty → Fld E.Z h' a O f t (defaultValue ty)) → G E x T' (fr x nx Ls (.ref a :: st))) : G E x T (fr x pc Ls st) := by
  obtain ⟨d1, rfl⟩ := d
  obtain ⟨vm, L, X, e, hZ, hown, cl, -⟩ := W.open B
  obtain ⟨T', h', X', e', Ex, A, D, -, stp⟩ := newO X B.2.2.2.2.2.2.1 hZ hown w wi wz e (g := fr x pc Ls st) rfl (by rw [B.1]; exact d1) (by rw [B.2.2.1]; exact hc) (by rw [B.2.2.1]; exact hl)
  exact G.of stp (hr T' h' _ ((cl T' h' _ _ X' e' Ex).2 _ (Nat.le_refl _) A.lt) rfl Ex A D)
theorem w_newarray (W : Wk E x T h F cs ss) (B : Is x own b ml R ret nm) {aty : ArrayType} {ty : FieldType} {n : Int32} {cap : Nat} (d : D b pc (.newarray aty) 2 nx) (ety : newarray.typeOf aty = ty) (w : (Cond.arrayClass ty).before E.a E.Z = true) (hn : ¬ n < 0) (hcap : n.toNatClampNeg ≤ cap) (hb : cap * 8 ≤ 536870912) (hc : cs + 1 ≤ R.cells) (hl : ss + cap ≤ R.slots)
    (hr : ∀ (T' : State) (h' : Heap) (a : Addr) (k : ClassId), Wk E x T' h' (a :: F) (cs + 1) (ss + cap) → a = h.size → Ext h h' → Arv E.Z h' a k ty n [] (defaultValue ty) → G E x T' (fr x nx Ls (.ref a :: st))) : G E x T (fr x pc Ls (.int n :: st)) := by
  obtain ⟨d1, rfl⟩ := d
  subst ety
  obtain ⟨vm, L, X, e, hZ, hown, cl, -⟩ := W.open B
  obtain ⟨T', h', cA, X', e', Ex, A, stp⟩ := newP X B.2.2.2.2.2.2.1 hZ w e (g := fr x pc Ls (.int n :: st)) rfl (by rw [B.1]; exact d1) rfl hn hcap hb (by rw [B.2.2.1]; exact hc) (by rw [B.2.2.1]; exact hl)
  exact G.of stp (hr T' h' _ cA ((cl T' h' _ _ X' e' Ex).2 _ (Nat.le_refl _) A.lt) rfl Ex (Arv.new A hn))
theorem w_anewarray (W : Wk E x T h F cs ss) (B : Is x own b ml R ret nm) {C ad : String} {index : Nat} {n : Int32} {cap : Nat} (d : D b pc (.anewarray index) 3 nx) (w1 : (Cond.classLink own index C).before E.a E.Z = true) (w2 : (Cond.arrayOver (.object C)).before E.a E.Z = true) (hn : ¬ n < 0) (hcap : n.toNatClampNeg ≤ cap) (hb : cap * 8 ≤ 536870912) (hc : cs + 1 ≤ R.cells) (hl : ss + cap ≤ R.slots)
    (hr : ∀ (T' : State) (h' : Heap) (a : Addr) (k : ClassId), Wk E x T' h' (a :: F) (cs + 1) (ss + cap) → a = h.size → Ext h h' → Arv E.Z h' a k (.object C) n [] .null → Ovr E.Z k C → G E x T' (fr x nx Ls (.ref a :: st))) : G E x T (fr x pc Ls (.int n :: st)) := by
  obtain ⟨d1, rfl⟩ := d
  obtain ⟨vm, L, X, e, hZ, hown, cl, -⟩ := W.open B
  obtain ⟨T', h', cA, X', e', Ex, A, O, stp⟩ := newR X B.2.2.2.2.2.2.1 hZ hown w1 w2 e (g := fr x pc Ls (.int n :: st)) rfl (by rw [B.1]; exact d1) rfl hn hcap hb (by rw [B.2.2.1]; exact hc) (by rw [B.2.2.1]; exact hl)
  exact G.of stp (hr T' h' _ cA ((cl T' h' _ _ X' e' Ex).2 _ (Nat.le_refl _) A.lt) rfl Ex (Arv.new A hn) O)
theorem w_getF (W : Wk E x T h F cs ss) (B : Is x own b ml R ret nm) {R0 O n t : String} {index : Nat} {a : Addr} {v : Value} (d : D b pc (.getfield index) 3 nx) (w : (Cond.fieldLink own index R0 n t).before E.a E.Z = true) (via : Via E.Z R0 O n t) (Fl : Fld E.Z h a O n t v)
    (hr : ∀ (T' : State), Wk E x T' h F cs ss → G E x T' (fr x nx Ls (v :: st))) : G E x T (fr x pc Ls (.ref a :: st)) := by
  obtain ⟨d1, rfl⟩ := d
  obtain ⟨vm, L, X, e, hZ, hown, cl, -⟩ := W.open B
  obtain ⟨T', X', e', stp⟩ := getF X B.2.2.2.2.2.2.1 hZ hown (host := "") (Or.inl w) via e Fl (g := fr x pc Ls (.ref a :: st)) rfl rfl (by rw [B.1]; exact d1)
  exact G.of stp (hr T' (cl T' h _ _ X' e' ⟨Nat.le_refl _, fun _ _ q => q⟩).1)
theorem w_getFN (W : Wk E x T h F cs ss) (B : Is x own b ml R ret nm) {R0 O n t host : String} {index : Nat} {a : Addr} {v : Value} (d : D b pc (.getfield index) 3 nx) (w : (Cond.fieldLinkNest own index R0 n t host).before E.a E.Z = true) (via : Via E.Z R0 O n t) (Fl : Fld E.Z h a O n t v)
    (hr : ∀ (T' : State), Wk E x T' h F cs ss → G E x T' (fr x nx Ls (v :: st))) : G E x T (fr x pc Ls (.ref a :: st)) := by
  obtain ⟨d1, rfl⟩ := d
  obtain ⟨vm, L, X, e, hZ, hown, cl, -⟩ := W.open B
  obtain ⟨T', X', e', stp⟩ := getF X B.2.2.2.2.2.2.1 hZ hown (Or.inr w) via e Fl (g := fr x pc Ls (.ref a :: st)) rfl rfl (by rw [B.1]; exact d1)
  exact G.of stp (hr T' (cl T' h _ _ X' e' ⟨Nat.le_refl _, fun _ _ q => q⟩).1)
theorem w_getS (W : Wk E x T h F cs ss) (B : Is x own b ml R ret nm) {R0 O n t : String} {index : Nat} {v : Value} (d : D b pc (.getstatic index) 3 nx) (w : (Cond.fieldLink own index R0 n t).before E.a E.Z = true) (via : Via E.Z R0 O n t) (Fl : Sta E.Z E.Z.heap O n t v)
    (hr : ∀ (T' : State), Wk E x T' h F cs ss → G E x T' (fr x nx Ls (v :: st))) : G E x T (fr x pc Ls st) := by
  obtain ⟨d1, rfl⟩ := d
  have Ol := W.old
  obtain ⟨vm, L, X, e, hZ, hown, cl, -⟩ := W.open B
  obtain ⟨T', X', e', stp⟩ := getS X B.2.2.2.2.2.2.1 hZ hown (host := "") w via e (Fl.ext Ol) (g := fr x pc Ls st) rfl (by rw [B.1]; exact d1)
  exact G.of stp (hr T' (cl T' h _ _ X' e' ⟨Nat.le_refl _, fun _ _ q => q⟩).1)
theorem w_putF (W : Wk E x T h F cs ss) (B : Is x own b ml R ret nm) {R0 O n t C : String} {index kk : Nat} {ty : FieldType} {a : Addr} {v v' old : Value} (d : D b pc (.putfield index) 3 nx) (hF : a ∈ F) (w : (Cond.fieldLink own index R0 n t).before E.a E.Z = true) (via : Via E.Z R0 O n t) (Fl : Fld E.Z h a O n t old) (Ex : Exa E.Z h a C)
    (Ly : (Cond.lays C O n t).before E.a E.Z = true ∨ ((Cond.laysFinal C O n t).before E.a E.Z = true ∧ own = O ∧ nm = "<init>")) (wi : (Cond.instantiable C kk).before E.a E.Z = true) (hty : parseFieldDescriptor t = some ty) (hn : narrow ty v = v') (hf : fits ty v' = true)
    (hr : ∀ (T' : State) (h' : Heap), Wk E x T' h' F cs ss → Wr h h' a (Jvm.RoadKit.slotOf E.Z O n t) v' → Fld E.Z h' a O n t v' → G E x T' (fr x nx Ls st)) : G E x T (fr x pc Ls (v :: .ref a :: st)) := by
  obtain ⟨d1, rfl⟩ := d
  obtain ⟨vm, L, X, e, hZ, hown, -, cl⟩ := W.open B
  obtain ⟨T', h', X', e', Wr', stp⟩ := putFN X B.2.2.2.2.2.2.1 hZ hown w via e Fl Ex (Ly.imp id fun q => ⟨q.1, q.2.1, B.2.2.2.2.1.trans q.2.2⟩) wi hty hn hf (g := fr x pc Ls (v :: .ref a :: st)) rfl rfl (by rw [B.1]; exact d1)
  exact G.of stp (hr T' h' (cl a _ _ T' h' hF X' e' Wr') Wr' (Fl.same Wr'))
theorem w_castY (W : Wk E x T h F cs ss) (B : Is x own b ml R ret nm) {K : String} {index : Nat} {a : Addr} (d : D b pc (.checkcast index) 3 nx) (w : (Cond.classLink own index K).before E.a E.Z = true) (I : Ins E.Z h a K true)
    (hr : ∀ (T' : State), Wk E x T' h F cs ss → G E x T' (fr x nx Ls (.ref a :: st))) : G E x T (fr x pc Ls (.ref a :: st)) := by
  obtain ⟨d1, rfl⟩ := d
  obtain ⟨vm, L, X, e, hZ, hown, cl, -⟩ := W.open B
  obtain ⟨T', X', e', stp⟩ := castY X B.2.2.2.2.2.2.1 hZ hown w e I (g := fr x pc Ls (.ref a :: st)) rfl rfl (by rw [B.1]; exact d1)
  exact G.of stp (hr T' (cl T' h _ _ X' e' ⟨Nat.le_refl _, fun _ _ q => q⟩).1)
theorem w_castNull (W : Wk E x T h F cs ss) (B : Is x own b ml R ret nm) {index : Nat} (d : D b pc (.checkcast index) 3 nx) (hr : G E x T (fr x nx Ls (.null :: st))) : G E x T (fr x pc Ls (.null :: st)) := by
  obtain ⟨d1, rfl⟩ := d
  obtain ⟨vm, L, X, e, hZ, hown, cl, -⟩ := W.open B
  exact G.of (fun t r => X.checkcastNull B.2.2.2.2.2.2.1 (g := fr x pc Ls (.null :: st)) rfl rfl (by rw [B.1]; exact d1) t r) hr
theorem w_instY (W : Wk E x T h F cs ss) (B : Is x own b ml R ret nm) {K : String} {index : Nat} {a : Addr} (d : D b pc (.instanceof index) 3 nx) (w : (Cond.classLink own index K).before E.a E.Z = true) (I : Ins E.Z h a K true)
    (hr : ∀ (T' : State), Wk E x T' h F cs ss → G E x T' (fr x nx Ls (.int 1 :: st))) : G E x T (fr x pc Ls (.ref a :: st)) := by
  obtain ⟨d1, rfl⟩ := d
  obtain ⟨vm, L, X, e, hZ, hown, cl, -⟩ := W.open B
  obtain ⟨T', X', e', stp⟩ := instY X B.2.2.2.2.2.2.1 hZ hown w e I (g := fr x pc Ls (.ref a :: st)) rfl rfl (by rw [B.1]; exact d1)
  exact G.of stp (hr T' (cl T' h _ _ X' e' ⟨Nat.le_refl _, fun _ _ q => q⟩).1)
theorem w_initO (W : Wk E x T h F cs ss) (B : Is x own b ml R ret nm) {index : Nat} {a : Addr} (d : D b pc (.invokespecial index) 3 nx) (w1 : (Cond.methodLink own index Lib.objectInit).before E.a E.Z = true) (w2 : (Cond.instanceMethod Lib.objectInit).before E.a E.Z = true) (w3 : (Cond.code Lib.objectInit ⟨#[0xb1]⟩ 1 none).before E.a E.Z = true)
    (hsz : Ls.size = ml) (hf : 1 ≤ R.frames) {Wt : Nat} (hW : (st.map fun v => v.category).sum ≤ Wt) (hl : Wt + 12 ≤ R.locals) (hr : ∀ (T' : State), Wk E x T' h F cs ss → G E x T' (fr x nx Ls st)) : G E x T (fr x pc Ls (.ref a :: st)) := by
  obtain ⟨d1, rfl⟩ := d
  obtain ⟨vm, L, X, e, hZ, hown, cl, -⟩ := W.open B
  obtain ⟨T', X', e', stp⟩ := initO X B.2.2.2.2.2.2.1 hZ hown w1 w2 w3 e (g := fr x pc Ls (.ref a :: st)) rfl (hsz.trans B.2.1.symm) rfl (by rw [B.1]; exact d1) (by rw [B.2.2.1]; exact hf) (W := Wt) (by show 2 * 0 + _ ≤ _; omega) (by rw [B.2.2.1]; exact hl)
  exact G.of stp (hr T' (cl T' h _ _ X' e' ⟨Nat.le_refl _, fun _ _ q => q⟩).1)
theorem w_arraylength (W : Wk E x T h F cs ss) (B : Is x own b ml R ret nm) {a : Addr} {k : ClassId} {ty : FieldType} {n : Int32} {vs : List Value} {dv : Value} (d : D b pc .arraylength 1 nx) (A : Arv E.Z h a k ty n vs dv) (hr : G E x T (fr x nx Ls (.int n :: st))) : G E x T (fr x pc Ls (.ref a :: st)) := by
  obtain ⟨d1, rfl⟩ := d
  obtain ⟨vm, L, X, e, hZ, hown, -, -⟩ := W.open B
  obtain ⟨c, A, -, S, N, -, -⟩ := A
  refine G.of (fun t r => X.arraylength B.2.2.2.2.2.2.1 (by rw [e]; exact A.1) (State.isArrayOf_alike hZ.alike A.2.1) (g := fr x pc Ls (.ref a :: st)) rfl rfl (by rw [B.1]; exact d1) t ?_) hr
  rw [len_of S N]; exact r
theorem arv_at {Z : State} {h : Heap} {a : Addr} {k : ClassId} {ty : FieldType} {n : Int32} {vs : List Value} {dv : Value} {c : Cell} {j : Int32} {v : Value} (S : c.slots.size = n.toNatClampNeg) (H : Has c vs dv) (hj : ¬ j < 0 ∧ j < n) (hv : vs.getD j.toNatClampNeg dv = v) : ¬ (j < 0 ∨ c.slots.size ≤ j.toNatClampNeg) ∧ c.slots[j.toNatClampNeg]? = some v :=
  ⟨inb_of S hj, Has.at H (inb_of S hj) hv⟩
theorem w_caload (W : Wk E x T h F cs ss) (B : Is x own b ml R ret nm) {a : Addr} {k : ClassId} {n j : Int32} {vs : List Value} {dv v : Value} (d : D b pc .caload 1 nx) (A : Arv E.Z h a k .char n vs dv) (hj : ¬ j < 0 ∧ j < n) (hv : vs.getD j.toNatClampNeg dv = v) (hr : G E x T (fr x nx Ls (v :: st))) : G E x T (fr x pc Ls (.int j :: .ref a :: st)) := by
  obtain ⟨d1, rfl⟩ := d
  obtain ⟨vm, L, X, e, hZ, hown, -, -⟩ := W.open B
  obtain ⟨c, A, -, S, N, H, -⟩ := A
  exact G.of (fun t r => X.caload B.2.2.2.2.2.2.1 (by rw [e]; exact A.1) (State.isArrayOf_alike hZ.alike A.2.1) A.2.2 (inb_of S hj) (Has.at H (inb_of S hj) hv) (g := fr x pc Ls (.int j :: .ref a :: st)) rfl rfl (by rw [B.1]; exact d1) t r) hr
theorem w_baload (W : Wk E x T h F cs ss) (B : Is x own b ml R ret nm) {a : Addr} {k : ClassId} {n j : Int32} {vs : List Value} {dv v : Value} (d : D b pc .baload 1 nx) (A : Arv E.Z h a k .byte n vs dv) (hj : ¬ j < 0 ∧ j < n) (hv : vs.getD j.toNatClampNeg dv = v) (hr : G E x T (fr x nx Ls (v :: st))) : G E x T (fr x pc Ls (.int j :: .ref a :: st)) := by
  obtain ⟨d1, rfl⟩ := d
  obtain ⟨vm, L, X, e, hZ, hown, -, -⟩ := W.open B
  obtain ⟨c, A, -, S, N, H, -⟩ := A
  exact G.of (fun t r => X.baloadBytes B.2.2.2.2.2.2.1 (by rw [e]; exact A.1) (State.isArrayOf_alike hZ.alike A.2.1) A.2.2 (inb_of S hj) (Has.at H (inb_of S hj) hv) (g := fr x pc Ls (.int j :: .ref a :: st)) rfl rfl (by rw [B.1]; exact d1) t r) hr
theorem w_iaload (W : Wk E x T h F cs ss) (B : Is x own b ml R ret nm) {a : Addr} {k : ClassId} {n j : Int32} {vs : List Value} {dv v : Value} (d : D b pc .iaload 1 nx) (A : Arv E.Z h a k .int n vs dv) (hj : ¬ j < 0 ∧ j < n) (hv : vs.getD j.toNatClampNeg dv = v) (hr : G E x T (fr x nx Ls (v :: st))) : G E x T (fr x pc Ls (.int j :: .ref a :: st)) := by
  obtain ⟨d1, rfl⟩ := d
  obtain ⟨vm, L, X, e, hZ, hown, -, -⟩ := W.open B
  obtain ⟨c, A, -, S, N, H, -⟩ := A
  exact G.of (fun t r => X.iaload B.2.2.2.2.2.2.1 (by rw [e]; exact A.1) (State.isArrayOf_alike hZ.alike A.2.1) A.2.2 (inb_of S hj) (Has.at H (inb_of S hj) hv) (g := fr x pc Ls (.int j :: .ref a :: st)) rfl rfl (by rw [B.1]; exact d1) t r) hr
theorem w_laload (W : Wk E x T h F cs ss) (B : Is x own b ml R ret nm) {a : Addr} {k : ClassId} {n j : Int32} {vs : List Value} {dv v : Value} (d : D b pc .laload 1 nx) (A : Arv E.Z h a k .long n vs dv) (hj : ¬ j < 0 ∧ j < n) (hv : vs.getD j.toNatClampNeg dv = v) (hr : G E x T (fr x nx Ls (v :: st))) : G E x T (fr x pc Ls (.int j :: .ref a :: st)) := by
  obtain ⟨d1, rfl⟩ := d
  obtain ⟨vm, L, X, e, hZ, hown, -, -⟩ := W.open B
  obtain ⟨c, A, -, S, N, H, -⟩ := A
  exact G.of (fun t r => X.laload B.2.2.2.2.2.2.1 (by rw [e]; exact A.1) (State.isArrayOf_alike hZ.alike A.2.1) A.2.2 (inb_of S hj) (Has.at H (inb_of S hj) hv) (g := fr x pc Ls (.int j :: .ref a :: st)) rfl rfl (by rw [B.1]; exact d1) t r) hr
theorem w_aaload (W : Wk E x T h F cs ss) (B : Is x own b ml R ret nm) {a : Addr} {k : ClassId} {ty : FieldType} {n j : Int32} {vs : List Value} {dv v : Value} (d : D b pc .aaload 1 nx) (hty : ty.isReference = true) (A : Arv E.Z h a k ty n vs dv) (hj : ¬ j < 0 ∧ j < n) (hv : vs.getD j.toNatClampNeg dv = v) (hr : G E x T (fr x nx Ls (v :: st))) : G E x T (fr x pc Ls (.int j :: .ref a :: st)) := by
  obtain ⟨d1, rfl⟩ := d
  obtain ⟨vm, L, X, e, hZ, hown, -, -⟩ := W.open B
  obtain ⟨c, A, -, S, N, H, -⟩ := A
  exact G.of (fun t r => X.aaload B.2.2.2.2.2.2.1 (by rw [e]; exact A.1) (State.isArrayOf_alike hZ.alike A.2.1) hty A.2.2 (inb_of S hj) (Has.at H (inb_of S hj) hv) (g := fr x pc Ls (.int j :: .ref a :: st)) rfl rfl (by rw [B.1]; exact d1) t r) hr
theorem w_castore (W : Wk E x T h F cs ss) (B : Is x own b ml R ret nm) {a : Addr} {k : ClassId} {n j v u : Int32} {vs : List Value} {dv : Value} (d : D b pc .castore 1 nx) (hF : a ∈ F) (A : Arv E.Z h a k .char n vs dv) (hj : ¬ j < 0 ∧ j < n) {i : Nat} (hi : j.toNatClampNeg = i) (hl : i < vs.length) (hu : nar .char v = u)
    (hr : ∀ (T' : State) (h' : Heap), Wk E x T' h' F cs ss → Keep h h' [a] → Arv E.Z h' a k .char n (vs.set i (.int u)) dv → G E x T' (fr x nx Ls st)) : G E x T (fr x pc Ls (.int v :: .int j :: .ref a :: st)) := by
  obtain ⟨d1, rfl⟩ := d
  subst hu
  obtain ⟨vm, L, X, e, hZ, hown, -, cl⟩ := W.open B
  obtain ⟨c, A, q, S, N, H, Gf⟩ := A
  obtain ⟨T', h', X', e', Wr', stp⟩ := stC X B.2.2.2.2.2.2.1 hZ e A (inb_of S hj) (g := fr x pc Ls (.int v :: .int j :: .ref a :: st)) rfl rfl (by rw [B.1]; exact d1)
  exact G.of stp (hr T' h' (cl a _ _ T' h' hF X' e' Wr') (Keep.of_wr Wr') (Arv.set A q S N H Gf (fits_nar_char _) Wr' i hi hl))
theorem w_bastore (W : Wk E x T h F cs ss) (B : Is x own b ml R ret nm) {a : Addr} {k : ClassId} {n j v u : Int32} {vs : List Value} {dv : Value} (d : D b pc .bastore 1 nx) (hF : a ∈ F) (A : Arv E.Z h a k .byte n vs dv) (hj : ¬ j < 0 ∧ j < n) {i : Nat} (hi : j.toNatClampNeg = i) (hl : i < vs.length) (hu : nar .byte v = u)
    (hr : ∀ (T' : State) (h' : Heap), Wk E x T' h' F cs ss → Keep h h' [a] → Arv E.Z h' a k .byte n (vs.set i (.int u)) dv → G E x T' (fr x nx Ls st)) : G E x T (fr x pc Ls (.int v :: .int j :: .ref a :: st)) := by
  obtain ⟨d1, rfl⟩ := d
  subst hu
  obtain ⟨vm, L, X, e, hZ, hown, -, cl⟩ := W.open B
  obtain ⟨c, A, q, S, N, H, Gf⟩ := A
  obtain ⟨T', h', X', e', Wr', stp⟩ := stB X B.2.2.2.2.2.2.1 hZ e A (inb_of S hj) (g := fr x pc Ls (.int v :: .int j :: .ref a :: st)) rfl rfl (by rw [B.1]; exact d1)
  exact G.of stp (hr T' h' (cl a _ _ T' h' hF X' e' Wr') (Keep.of_wr Wr') (Arv.set A q S N H Gf (fits_nar_byte _) Wr' i hi hl))
theorem w_iastore (W : Wk E x T h F cs ss) (B : Is x own b ml R ret nm) {a : Addr} {k : ClassId} {n j v : Int32} {vs : List Value} {dv : Value} (d : D b pc .iastore 1 nx) (hF : a ∈ F) (A : Arv E.Z h a k .int n vs dv) (hj : ¬ j < 0 ∧ j < n) {i : Nat} (hi : j.toNatClampNeg = i) (hl : i < vs.length)
    (hr : ∀ (T' : State) (h' : Heap), Wk E x T' h' F cs ss → Keep h h' [a] → Arv E.Z h' a k .int n (vs.set i (.int v)) dv → G E x T' (fr x nx Ls st)) : G E x T (fr x pc Ls (.int v :: .int j :: .ref a :: st)) := by
  obtain ⟨d1, rfl⟩ := d
  obtain ⟨vm, L, X, e, hZ, hown, -, cl⟩ := W.open B
  obtain ⟨c, A, q, S, N, H, Gf⟩ := A
  obtain ⟨T', h', X', e', Wr', stp⟩ := stI X B.2.2.2.2.2.2.1 hZ e A (inb_of S hj) (g := fr x pc Ls (.int v :: .int j :: .ref a :: st)) rfl rfl (by rw [B.1]; exact d1)
  exact G.of stp (hr T' h' (cl a _ _ T' h' hF X' e' Wr') (Keep.of_wr Wr') (Arv.set A q S N H Gf rfl Wr' i hi hl))
theorem w_lastore (W : Wk E x T h F cs ss) (B : Is x own b ml R ret nm) {a : Addr} {k : ClassId} {n j : Int32} {v : Int64} {vs : List Value} {dv : Value} (d : D b pc .lastore 1 nx) (hF : a ∈ F) (A : Arv E.Z h a k .long n vs dv) (hj : ¬ j < 0 ∧ j < n) {i : Nat} (hi : j.toNatClampNeg = i) (hl : i < vs.length)
    (hr : ∀ (T' : State) (h' : Heap), Wk E x T' h' F cs ss → Keep h h' [a] → Arv E.Z h' a k .long n (vs.set i (.long v)) dv → G E x T' (fr x nx Ls st)) : G E x T (fr x pc Ls (.long v :: .int j :: .ref a :: st)) := by
  obtain ⟨d1, rfl⟩ := d
  obtain ⟨vm, L, X, e, hZ, hown, -, cl⟩ := W.open B
  obtain ⟨c, A, q, S, N, H, Gf⟩ := A
  obtain ⟨T', h', X', e', Wr', stp⟩ := stJ X B.2.2.2.2.2.2.1 hZ e A (inb_of S hj) (g := fr x pc Ls (.long v :: .int j :: .ref a :: st)) rfl rfl (by rw [B.1]; exact d1)
  exact G.of stp (hr T' h' (cl a _ _ T' h' hF X' e' Wr') (Keep.of_wr Wr') (Arv.set A q S N H Gf rfl Wr' i hi hl))
theorem fits_isRef {ty : FieldType} (hty : ty.isReference = true) {v : Value} (hv : v.isRef = true) : fits ty v = true := by
  cases ty <;> simp [FieldType.isReference] at hty <;> rcases ref_cases hv with rfl | ⟨a, rfl⟩ <;> rfl
theorem w_aastore (W : Wk E x T h F cs ss) (B : Is x own b ml R ret nm) {a : Addr} {k : ClassId} {ty : FieldType} {n j : Int32} {v : Value} {vs : List Value} {dv : Value} (d : D b pc .aastore 1 nx) (hF : a ∈ F) (hty : ty.isReference = true) (A : Arv E.Z h a k ty n vs dv) (hj : ¬ j < 0 ∧ j < n) {i : Nat} (hi : j.toNatClampNeg = i) (hl : i < vs.length) (hv : v.isRef = true) (Sv : Sto E.Z h a v)
    (hr : ∀ (T' : State) (h' : Heap), Wk E x T' h' F cs ss → Keep h h' [a] → Arv E.Z h' a k ty n (vs.set i v) dv → G E x T' (fr x nx Ls st)) : G E x T (fr x pc Ls (v :: .int j :: .ref a :: st)) := by
  obtain ⟨d1, rfl⟩ := d
  obtain ⟨vm, L, X, e, hZ, hown, -, cl⟩ := W.open B
  obtain ⟨c, A, q, S, N, H, Gf⟩ := A
  obtain ⟨T', h', X', e', Wr', stp⟩ := stR X B.2.2.2.2.2.2.1 hZ e A (inb_of S hj) hty Sv (g := fr x pc Ls (v :: .int j :: .ref a :: st)) rfl rfl (by rw [B.1]; exact d1)
  exact G.of stp (hr T' h' (cl a _ _ T' h' hF X' e' Wr') (Keep.of_wr Wr') (Arv.set A q S N H Gf (fits_isRef hty hv) Wr' i hi hl))
theorem w_ldcI (W : Wk E x T h F cs ss) (B : Is x own b ml R ret nm) {index : Nat} {v : Int32} (d : D b pc (.ldc index) 2 nx) (w : (Cond.constant own index v).before E.a E.Z = true) (hr : G E x T (fr x nx Ls (.int v :: st))) : G E x T (fr x pc Ls st) := by
  obtain ⟨d1, rfl⟩ := d
  obtain ⟨vm, L, X, e, hZ, hown, -, -⟩ := W.open B
  exact G.of (fun t r => X.ldcI B.2.2.2.2.2.2.1 hown (mv hZ w) (g := fr x pc Ls st) rfl (by rw [B.1]; exact d1) r) hr
theorem w_ldcWI (W : Wk E x T h F cs ss) (B : Is x own b ml R ret nm) {index : Nat} {v : Int32} (d : D b pc (.ldc_w index) 3 nx) (w : (Cond.constant own index v).before E.a E.Z = true) (hr : G E x T (fr x nx Ls (.int v :: st))) : G E x T (fr x pc Ls st) := by
  obtain ⟨d1, rfl⟩ := d
  obtain ⟨vm, L, X, e, hZ, hown, -, -⟩ := W.open B
  exact G.of (fun t r => X.ldcWI B.2.2.2.2.2.2.1 hown (mv hZ w) (g := fr x pc Ls st) rfl (by rw [B.1]; exact d1) r) hr
theorem w_ldc2J (W : Wk E x T h F cs ss) (B : Is x own b ml R ret nm) {index : Nat} {v : Int64} (d : D b pc (.ldc2_w index) 3 nx) (w : (Cond.constantLong own index v).before E.a E.Z = true) (hr : G E x T (fr x nx Ls (.long v :: st))) : G E x T (fr x pc Ls st) := by
  obtain ⟨d1, rfl⟩ := d
  obtain ⟨vm, L, X, e, hZ, hown, -, -⟩ := W.open B
  exact G.of (fun t r => X.ldc2J B.2.2.2.2.2.2.1 hown (mv hZ w) (g := fr x pc Ls st) rfl (by rw [B.1]; exact d1) r) hr
end StepsC
end Jvm.Own
namespace Jvm.Own
open Sem ClassFile Op Lib Bundle Jvm.Stand Jvm.Free Jvm.LawKit Jvm.RoadKit
section StepsD
variable {E : Gl} {x : Cx} {T : State} {h : Heap} {F : List Addr} {cs ss : Nat} {own : String} {b : ByteArray} {ml : Nat} {R : Room} {ret : Option FieldType} {nm : String} {pc nx tg : Nat} {o : Int} {Ls Ls' : Array Slot} {st stk : List Value}
/-- the end of a walk -/
theorem fin_of (W : Wk E x T h F cs ss) (B : Is x own b ml R ret nm) {v : Option Value} {F' : List Addr} {Q : Option Value → Heap → List Addr → Prop} (hQ : x.Q = Q) (q : Q v h F') (hF' : ∀ y ∈ F', y ∈ F) (hc : cs ≤ R.cells) (hs : ss ≤ R.slots) (hv : ret = none → v = none) {g : JFrame}
    (stp : ∀ (vm : Vm) (L : List Loc) (fs : List Frame), Stand x.p E.l x.e x.R (x.s.setVm vm) x.m x.args x.below x.meth x.c T L cs ss → (∀ (f : JFrame) (acts : List Action), f.method = x.m → f.locked = none → f.entered = [] → (doReturn x.e (T.setTop f) acts v).1 = T.setFrames fs) → Steps x.p.tables x.e x.below (T.setTop g) (T.setFrames fs)) : G E x T g := by
  obtain ⟨vm, k, L, X, h1, h2, h3, h4, h5, h6, h7, h8, h9, h10⟩ := W
  obtain ⟨fs, hr, hrun, hended, hW, hsame⟩ := X.leave (v := v) (fun q => hv (B.2.2.2.1.symm.trans q)) B.2.2.2.2.2.1
  have c : CHr E.Z E.K vm h T.vm h := CHv.at X h5 h10.1 h8.1
  refine ⟨T.setFrames fs, _, stp vm L fs X hr, hrun, hended, v, L, F', rfl, ?_, h6, ?_, ?_, ?_, ?_⟩
  · rw [hQ]; show Q v T.heap F'; rw [h1]; exact q
  · show Old E.Z E.n T.heap; rw [h1]; exact h7
  · show FOk E T.vm T.heap F'; rw [h1]
    exact fun y hy => ⟨(h9 y (hF' y hy)).1, (h9 y (hF' y hy)).2.1, c.safe (h9 y (hF' y hy)).2.1 (h9 y (hF' y hy)).2.2⟩
  · show CHr E.Z E.K x.s.vm x.s.heap T.vm T.heap; rw [h1]; exact h8.trans c
  · have hc' : cs ≤ x.R.cells := by rw [B.2.2.1]; exact hc
    have hs' : ss ≤ x.R.slots := by rw [B.2.2.1]; exact hs
    show EndF E.w _ _ _ _ _ _
    cases hw : E.w with
    | true =>
      obtain ⟨a1, a2, a3⟩ := h2.ended (U := T.setFrames fs) hW (by show k ≤ T.heap.size; rw [h1]; exact h3) hsame
      exact ⟨⟨v, rfl⟩, a1, a2, a3.mono hc' hs'⟩
    | false =>
      have e := h4 hw
      subst e
      exact ⟨⟨v, rfl⟩, hW, hsame.mono hc' hs'⟩
theorem w_ireturn (W : Wk E x T h F cs ss) (B : Is x own b ml R (some .int) nm) {v : Int32} {F' : List Addr} {Q : Option Value → Heap → List Addr → Prop} (d : D b pc .ireturn 1 nx) (hQ : x.Q = Q) (hc : cs ≤ R.cells) (hs : ss ≤ R.slots) (hF' : ∀ y ∈ F', y ∈ F) (q : Q (some (.int v)) h F') : G E x T (fr x pc Ls (.int v :: st)) :=
  fin_of W B hQ q hF' hc hs (fun q => nomatch q) fun _ _ _ X hr => retOut X B.2.2.2.2.2.2.1 B.2.2.2.1 rfl (Or.inl ⟨rfl, Or.inl rfl, _, rfl⟩) (by rw [B.1]; exact d.1) hr
theorem w_ireturnN (W : Wk E x T h F cs ss) {t : FieldType} (B : Is x own b ml R (some t) nm) {v u : Int32} {F' : List Addr} {Q : Option Value → Heap → List Addr → Prop} (d : D b pc .ireturn 1 nx) (ht : t = .boolean ∨ t = .byte ∨ t = .char ∨ t = .short) (hu : nar t v = u) (hQ : x.Q = Q) (hc : cs ≤ R.cells) (hs : ss ≤ R.slots) (hF' : ∀ y ∈ F', y ∈ F) (q : Q (some (.int u)) h F') : G E x T (fr x pc Ls (.int v :: st)) := by
  subst hu
  exact fin_of W B hQ q hF' hc hs (fun q => nomatch q) fun _ _ _ X hr => retN X B.2.2.2.2.2.2.1 B.2.2.2.1 ht (by rw [B.1]; exact d.1) hr
theorem w_lreturn (W : Wk E x T h F cs ss) (B : Is x own b ml R (some .long) nm) {v : Int64} {F' : List Addr} {Q : Option Value → Heap → List Addr → Prop} (d : D b pc .lreturn 1 nx) (hQ : x.Q = Q) (hc : cs ≤ R.cells) (hs : ss ≤ R.slots) (hF' : ∀ y ∈ F', y ∈ F) (q : Q (some (.long v)) h F') : G E x T (fr x pc Ls (.long v :: st)) :=
  fin_of W B hQ q hF' hc hs (fun q => nomatch q) fun _ _ _ X hr => retOut X B.2.2.2.2.2.2.1 B.2.2.2.1 rfl (Or.inr (Or.inl ⟨rfl, rfl, _, rfl⟩)) (by rw [B.1]; exact d.1) hr
theorem w_areturn (W : Wk E x T h F cs ss) {t : FieldType} (B : Is x own b ml R (some t) nm) {v : Value} {F' : List Addr} {Q : Option Value → Heap → List Addr → Prop} (d : D b pc .areturn 1 nx) (ht : t.isReference = true) (hv : v.isRef = true) (hQ : x.Q = Q) (hc : cs ≤ R.cells) (hs : ss ≤ R.slots) (hF' : ∀ y ∈ F', y ∈ F) (q : Q (some v) h F') : G E x T (fr x pc Ls (v :: st)) := by
  have hn : narrow t v = v := by
    rcases ref_cases hv with rfl | ⟨a, rfl⟩ <;> cases t <;> simp [FieldType.isReference] at ht <;> rfl
  exact fin_of W B hQ q hF' hc hs (fun q => nomatch q) fun _ _ _ X hr => retOut X B.2.2.2.2.2.2.1 B.2.2.2.1 hn (Or.inr (Or.inr (Or.inr (Or.inr ⟨rfl, ht, hv⟩)))) (by rw [B.1]; exact d.1) hr
theorem w_return (W : Wk E x T h F cs ss) (B : Is x own b ml R none nm) {F' : List Addr} {Q : Option Value → Heap → List Addr → Prop} (d : D b pc .return_ 1 nx) (hQ : x.Q = Q) (hc : cs ≤ R.cells) (hs : ss ≤ R.slots) (hF' : ∀ y ∈ F', y ∈ F) (q : Q none h F') : G E x T (fr x pc Ls []) :=
  fin_of W B hQ q hF' hc hs (fun _ => rfl) fun _ _ _ X hr => X.returnOut B.2.2.2.2.2.2.1 B.2.2.2.1 (by rw [B.1]; exact d.1) hr
/-- a String constant of those held -/
theorem w_ldcS (W : Wk E x T h F cs ss) (B : Is x own b ml R ret nm) {index n : Nat} {text : String} {vs : List Value} {z : Int32} (d : D b pc (.ldc index) 2 nx) (hw : E.w = true) (hmem : (own, index) ∈ E.K) (w : (Cond.stringLink own index text).before E.a E.Z = true) (wS : ∀ c ∈ Bundle.stringAtoms, c.before E.a E.Z = true)
    (ht : (∀ c ∈ text.toList, c.toNat < 256) ∧ text.toList.map (fun c => Value.int (Jvm.Lit.byteI c.toNat.toUInt16)) = vs) (hz : ¬ z < 0) (hl : z.toNatClampNeg = vs.length) (hn : 4 * text.toList.length ≤ n) (hbig : n ≤ 536870912) (hc : cs + 2 ≤ R.cells) (hs : ss + (n + 4) ≤ R.slots)
    (hr : ∀ (T' : State) (h' : Heap) (a v : Addr) (k : ClassId), Wk E x T' h' F (cs + 2) (ss + (n + 4)) → Ext h h' → Exa E.Z h' a "java/lang/String" → Fld E.Z h' a "java/lang/String" "coder" "B" (.int 0) → Fld E.Z h' a "java/lang/String" "value" "[B" (.ref v) → Arv E.Z h' v k .byte z vs (.int 0) → (∀ y ∈ F, y ≠ a ∧ y ≠ v) → G E x T' (fr x nx Ls (.ref a :: st))) : G E x T (fr x pc Ls st) := by
  obtain ⟨d1, rfl⟩ := d
  obtain ⟨vm, k, L, X, h1, h2, h3, h4, h5, h6, h7, h8, h9, h10⟩ := W
  have hown : vm.findClass own = some x.m.cls := by rw [h2.1.alike.findClass]; exact B.2.2.2.2.2.2.2
  obtain ⟨a, T', h', k1, v, kv, X', e', Ex, S', hk1, hZ', hown', A, C, V, K, la, lb, cr, -, sf, stp⟩ := ldcCH X B.2.2.2.2.2.2.1 h5 hown w wS h1 h2 h3 h10.1 hmem h8.1 ht hz hl (g := fr x pc Ls st) rfl (by rw [B.1]; exact d1) hn hbig (by rw [B.2.2.1]; exact hc) (by rw [B.2.2.1]; exact hs)
  have f1 : FOk E T'.vm h' F := fun y hy => ⟨(h9 y hy).1, Nat.lt_of_lt_of_le (h9 y hy).2.1 Ex.1, cr.safe (h9 y hy).2.1 (h9 y hy).2.2⟩
  exact G.of stp (hr T' h' a v kv ⟨T'.vm, k1, L, X', e', S', hk1, fun q => (Bool.noConfusion (hw.symm.trans q)), hZ', h6, h7.ext Ex, h8.trans cr, f1, h10⟩ Ex A C V K fun y hy => sf y (f1 y hy).2.2)
/-- a String constant of which nothing is said but that a reference is pushed -/
theorem w_ldcO (W : Wk E x T h F cs ss) (B : Is x own b ml R ret nm) {index n : Nat} {text : String} (d : D b pc (.ldc index) 2 nx) (hw : E.w = true) (w : (Cond.stringLink own index text).before E.a E.Z = true) (wS : ∀ c ∈ Bundle.stringAtoms, c.before E.a E.Z = true)
    (hn : 4 * text.toList.length ≤ n) (hbig : n ≤ 536870912) (hc : cs + 2 ≤ R.cells) (hs : ss + (n + 4) ≤ R.slots)
    (hr : ∀ (T' : State) (h' : Heap) (a : Addr), Wk E x T' h' F (cs + 2) (ss + (n + 4)) → Ext h h' → G E x T' (fr x nx Ls (.ref a :: st))) : G E x T (fr x pc Ls st) := by
  obtain ⟨d1, rfl⟩ := d
  obtain ⟨vm, k, L, X, h1, h2, h3, h4, h5, h6, h7, h8, h9, h10⟩ := W
  have hown : vm.findClass own = some x.m.cls := by rw [h2.1.alike.findClass]; exact B.2.2.2.2.2.2.2
  obtain ⟨a, T', h', k1, X', e', Ex, S', hk1, hZ', hown', cr, -, stp⟩ := ldcOH X B.2.2.2.2.2.2.1 h5 hown w wS h1 h2 h3 h10.1 h8.1 (g := fr x pc Ls st) rfl (by rw [B.1]; exact d1) hn hbig (by rw [B.2.2.1]; exact hc) (by rw [B.2.2.1]; exact hs)
  have f1 : FOk E T'.vm h' F := fun y hy => ⟨(h9 y hy).1, Nat.lt_of_lt_of_le (h9 y hy).2.1 Ex.1, cr.safe (h9 y hy).2.1 (h9 y hy).2.2⟩
  exact G.of stp (hr T' h' a ⟨T'.vm, k1, L, X', e', S', hk1, fun q => (Bool.noConfusion (hw.symm.trans q)), hZ', h6, h7.ext Ex, h8.trans cr, f1, h10⟩ Ex)
end StepsD
/-! calls: what a contract leaves, said at a point of the caller's walk -/
def PreC (R rm : Room) (as' : Array Value) (h : Heap) (A : Pt) (a : Array Value) : Prop := a = as' ∧ A.U.heap = h ∧ A.cells + rm.cells ≤ R.cells ∧ A.slots + rm.slots ≤ R.slots
def PostC (E : Gl) (vm : Vm) (h : Heap) (rm : Room) (Q : Option Value → Heap → List Addr → Prop) (A : Pt) (_ : Array Value) (v : Option Value) (B : Pt) : Prop :=
  ∃ (L : List Loc) (F' : List Addr), Q v B.U.heap F' ∧ Fr E.n L ∧ Old E.Z E.n B.U.heap ∧ FOk E B.U.vm B.U.heap F' ∧ CHr E.Z E.K vm h B.U.vm B.U.heap ∧ B.locs = A.locs ++ L ∧ B.cells = A.cells + rm.cells ∧ B.slots = A.slots + rm.slots
section Pay
variable {E : Gl} {p : Program} {e : Env} {R rm : Room} {s : State} {args as' : Array Value} {below : List Frame} {vm : Vm} {h : Heap} {F : List Addr} {y : MethodName} {bytes : ByteArray} {maxL : Nat} {ret : Option FieldType} {Q : Option Value → Heap → List Addr → Prop} {len W : Nat}
theorem fok_at {m : MethodId} {meth : Method} {c : Code} {A : Pt} (Y : Stand p E.l e R (s.setVm vm) m args below meth c A.U A.locs A.cells A.slots) (hZ : E.Z.Warmed39 vm) (hE : EW E.Z E.a E.K) (H : CHv E.Z E.K vm h) (hF : FOk E vm h F) : CHr E.Z E.K vm h A.U.vm h ∧ FOk E A.U.vm h F := by
  have c := CHv.at Y hZ hE H
  exact ⟨c, fun z hz => ⟨(hF z hz).1, (hF z hz).2.1, c.safe (hF z hz).2.1 (hF z hz).2.2⟩⟩
theorem payS (hw : E.w = true) (hM : Met E y bytes maxL ret rm as' h F Q) (hZ : E.Z.Warmed39 vm) (hO : Old E.Z E.n h) (H : CHv E.Z E.K vm h) (hF : FOk E vm h F) (hE : GOk E)
    (wc : (Cond.code y bytes maxL ret).before E.a E.Z = true) (wz : (Cond.initialized y.cls).before E.a E.Z = true) (hf : rm.frames + 1 ≤ R.frames) (hl : W + (maxL + 11) + rm.locals ≤ R.locals) :
    BackS E.l R p e below (s.setVm vm) args y len W (PreC R rm as' h) (PostC E vm h rm Q) :=
  BackS.of_freeW (bytes := bytes) (maxL := maxL) (ret := ret)
    (E := fun _ first o t L k n => k = rm.cells ∧ n = rm.slots ∧ ∃ (v : Option Value) (F' : List Addr), o = .returned v ∧ Q v t.heap F' ∧ Fr E.n L ∧ Old E.Z E.n t.heap ∧ FOk E t.vm t.heap F' ∧ CHr E.Z E.K first.vm first.heap t.vm t.heap) hM hf hl
    (fun m meth c A a Y hp => have hU : E.Z.Warmed39 A.U.vm := wtrans (s := s.setVm vm) hZ Y.warmed
      ⟨by show (Cond.and _ .tt).before a A.U = true; rw [Cond.before_and, mv hU wc]; rfl, mv hU wc, mv hU wz, hp.2.2.1, hp.2.2.2⟩)
    (fun m meth c A a g mk Y hp => ⟨hp.1, wtrans (s := s.setVm vm) hZ Y.warmed, hp.2.1, hO, (fok_at Y hZ hE.1 H hF).1.1, (fok_at Y hZ hE.1 H hF).2, hE⟩) (fun _ _ _ _ _ _ _ _ _ => trivial)
    (fun _ _ _ _ ⟨v, L, F', h1, h2, h3, h4, h5, h6, h7⟩ => ⟨L, _, _, by have h7 : EndF E.w _ _ _ _ _ _ := h7; rw [hw] at h7; exact h7, rfl, rfl, v, F', h1, h2, h3, h4, h5, h6⟩)
    (fun m meth c A a g mk v t L k n Y hp _ _ ⟨e1, e2, v', F', e3, e4, e5, e6, e7, e8⟩ => by
      cases e3; subst e1 e2
      refine ⟨L, F', e4, e5, e6, e7, (fok_at Y hZ hE.1 H hF).1.trans ?_, rfl, rfl, rfl⟩
      rw [← hp.2.1]; exact e8)
theorem payN (hw : E.w = false) (hM : Met E y bytes maxL ret rm as' h F Q) (hZ : E.Z.Warmed39 vm) (hO : Old E.Z E.n h) (H : CHv E.Z E.K vm h) (hF : FOk E vm h F) (hE : GOk E)
    (wc : (Cond.code y bytes maxL ret).before E.a E.Z = true) (wz : (Cond.initialized y.cls).before E.a E.Z = true) (hf : rm.frames + 1 ≤ R.frames) (hl : W + (maxL + 11) + rm.locals ≤ R.locals) :
    Back E.l R p e below (s.setVm vm) args y len W (PreC R rm as' h) (PostC E vm h rm Q) :=
  Back.of_free (bytes := bytes) (maxL := maxL) (ret := ret)
    (E := fun _ first o t L k n => k = rm.cells ∧ n = rm.slots ∧ ∃ (v : Option Value) (F' : List Addr), o = .returned v ∧ Q v t.heap F' ∧ Fr E.n L ∧ Old E.Z E.n t.heap ∧ FOk E t.vm t.heap F' ∧ CHr E.Z E.K first.vm first.heap t.vm t.heap) hM hf hl
    (fun m meth c A a Y hp => have hU : E.Z.Warmed39 A.U.vm := wtrans (s := s.setVm vm) hZ Y.warmed
      ⟨by show (Cond.and _ .tt).before a A.U = true; rw [Cond.before_and, mv hU wc]; rfl, mv hU wc, mv hU wz, hp.2.2.1, hp.2.2.2⟩)
    (fun m meth c A a g mk Y hp => ⟨hp.1, wtrans (s := s.setVm vm) hZ Y.warmed, hp.2.1, hO, (fok_at Y hZ hE.1 H hF).1.1, (fok_at Y hZ hE.1 H hF).2, hE⟩) (fun _ _ _ _ _ _ _ _ _ => trivial)
    (fun _ _ _ _ ⟨v, L, F', h1, h2, h3, h4, h5, h6, h7⟩ => ⟨L, _, _, by have h7 : EndF E.w _ _ _ _ _ _ := h7; rw [hw] at h7; exact h7, rfl, rfl, v, F', h1, h2, h3, h4, h5, h6⟩)
    (fun m meth c A a g mk v t L k n Y hp _ _ ⟨e1, e2, v', F', e3, e4, e5, e6, e7, e8⟩ => by
      cases e3; subst e1 e2
      refine ⟨L, F', e4, e5, e6, e7, (fok_at Y hZ hE.1 H hF).1.trans ?_, rfl, rfl, rfl⟩
      rw [← hp.2.1]; exact e8)
end Pay
section Calls
variable {E : Gl} {x : Cx} {T : State} {h : Heap} {F : List Addr} {cs ss : Nat} {own : String} {b : ByteArray} {ml : Nat} {R : Room} {ret : Option FieldType} {nm : String} {pc nx : Nat} {Ls : Array Slot} {st stk : List Value}
/-- behind a call: the walk stands again -/
theorem back_wk {vm : Vm} {L : List Loc} (W : Wk E x T h F cs ss) {rm : Room} {Q : Option Value → Heap → List Addr → Prop} {vm' : Vm} {BU : State} {BL : List Loc} {Bc Bs k' : Nat} {A : Pt} {a : Array Value} {v : Option Value} (hA : A.locs = L ∧ A.cells = cs ∧ A.slots = ss)
    (h6 : Fr E.n L) (h8 : CHr E.Z E.K x.s.vm x.s.heap vm h) (h10 : GOk E) (X' : Stand x.p E.l x.e x.R (x.s.setVm vm') x.m x.args x.below x.meth x.c BU BL Bc Bs) (S' : x.s.Since vm' k') (hk' : k' ≤ BU.heap.size) (hw : E.w = false → vm' = x.s.vm) (hZ' : E.Z.Warmed39 vm')
    (P : PostC E vm h rm Q A a v (BU, BL, Bc, Bs)) (hv : BU.vm = vm' ∨ (E.K = [] ∧ vm' = vm)) : ∃ F', Wk E x BU BU.heap F' (cs + rm.cells) (ss + rm.slots) ∧ Q v BU.heap F' := by
  obtain ⟨L', F', p1, p2, p3, p4, p5, p6, p7, p8⟩ := P
  dsimp only [Pt.U, Pt.locs, Pt.cells, Pt.slots] at p1 p2 p3 p4 p5 p6 p7 p8
  obtain ⟨q1, q2, q3⟩ := hA
  dsimp only [Pt.U, Pt.locs, Pt.cells, Pt.slots] at q1 q2 q3
  refine ⟨F', ⟨vm', k', BL, ?_, rfl, S', hk', hw, hZ', ?_, p3, ?_, ?_, h10⟩, p1⟩
  · rw [p7, p8, q2, q3] at X'; exact X'
  · rw [p6, q1]; exact Fr.app h6 p2
  · rcases hv with rfl | ⟨hK, rfl⟩
    · exact h8.trans p5
    · rw [hK] at h8 ⊢; exact chr_nil _ (Nat.le_trans h8.2.1 p5.2.1)
  · rcases hv with rfl | ⟨hK, rfl⟩
    · exact p4
    · exact fun z hz => ⟨(p4 z hz).1, (p4 z hz).2.1, by rw [hK]; exact safe_nil _ _ _ _⟩
theorem w_static (W : Wk E x T h F cs ss) (B : Is x own b ml R ret nm) {index : Nat} {y : MethodName} {bytes : ByteArray} {maxL : Nat} {rt : Option FieldType} {rm : Room} {Q : Option Value → Heap → List Addr → Prop} {ps : List FieldType} {r : Option FieldType} {argsL : List Value} {Wt : Nat} (d : D b pc (.invokestatic index) 3 nx)
    (w1 : (Cond.methodLink own index y).before E.a E.Z = true) (w2 : (Cond.static y).before E.a E.Z = true) (w3 : (Cond.initialized y.cls).before E.a E.Z = true) (w4 : (Cond.code y bytes maxL rt).before E.a E.Z = true) (hy : y.cls ≠ "java/lang/invoke/MethodHandle" ∧ y.cls ≠ "java/lang/invoke/VarHandle")
    (pd : parseMethodDescriptor y.desc = some ⟨ps, r⟩) (hl : argsL.length = ps.length) (hsz : Ls.size = ml) (hst : stk = argsL.reverse ++ st) (hW : (st.map fun v => v.category).sum ≤ Wt) (hM : Met E y bytes maxL rt rm argsL.toArray h F Q)
    (hf : rm.frames + 1 ≤ R.frames) (hlo : Wt + (maxL + 11) + rm.locals ≤ R.locals) (hc : cs + rm.cells ≤ R.cells) (hs : ss + rm.slots ≤ R.slots)
    (hr : ∀ (T' : State) (h' : Heap) (F' : List Addr) (v : Option Value), Wk E x T' h' F' (cs + rm.cells) (ss + rm.slots) → Q v h' F' → G E x T' (fr x nx Ls (v.toList ++ st))) : G E x T (fr x pc Ls stk) := by
  obtain ⟨d1, rfl⟩ := d
  subst hst
  have W0 := W
  obtain ⟨vm, k, L, X, h1, h2, h3, h4, h5, h6, h7, h8, h9, h10⟩ := W
  have hown : vm.findClass own = some x.m.cls := by rw [h2.1.alike.findClass]; exact B.2.2.2.2.2.2.2
  rw [← B.2.2.1] at hf hlo hc hs
  cases hw : E.w with
  | true =>
    obtain ⟨v, vm₁, ⟨BU, BL, Bc, Bs⟩, -, X', S', gr, P, stp⟩ := callSS X B.2.2.2.2.2.2.1 hown (mvT (s := x.s.setVm vm) h5 w1) (mvT (s := x.s.setVm vm) h5 w2) (mvT (s := x.s.setVm vm) h5 w3) (mvT (s := x.s.setVm vm) h5 w4) hy (payS (len := 3) (W := Wt) hw hM h5 h7 h8.1 h9 h10 w4 w3 hf hlo) (g := fr x pc Ls (argsL.reverse ++ st)) rfl (hsz.trans B.2.1.symm) (lenOf pd hl) rfl (by show 2 * 0 + _ ≤ _; omega) (by rw [B.1]; exact d1) (fun vm₁ _ => ⟨rfl, h1, hc, hs⟩)
    obtain ⟨F', W', q⟩ := back_wk (vm := vm) W0 ⟨rfl, rfl, rfl⟩ h6 h8 h10 X' (foldS h2 (by rw [h1]; exact h3) S' gr) (Nat.le_refl _) (fun q => Bool.noConfusion (hw.symm.trans q)) (State.Warmed39.trans (t := x.s.setVm vm) h5 S'.1) P (Or.inl rfl)
    exact G.ofS stp (hr BU BU.heap F' v W' q)
  | false =>
    have e := h4 hw
    obtain ⟨v, vm₁, ⟨BU, BL, Bc, Bs⟩, -, X', P, stp⟩ := Jvm.LawKit.callS X B.2.2.2.2.2.2.1 hown (mvT (s := x.s.setVm vm) h5 w1) (mvT (s := x.s.setVm vm) h5 w2) (mvT (s := x.s.setVm vm) h5 w3) (mvT (s := x.s.setVm vm) h5 w4) hy (payN (len := 3) (W := Wt) hw hM h5 h7 h8.1 h9 h10 w4 w3 hf hlo) (g := fr x pc Ls (argsL.reverse ++ st)) rfl (hsz.trans B.2.1.symm) (lenOf pd hl) rfl (by show 2 * 0 + _ ≤ _; omega) (by rw [B.1]; exact d1) (fun vm₁ _ => ⟨rfl, h1, hc, hs⟩)
    have gr : h.size ≤ BU.heap.size := by obtain ⟨_, _, _, _, _, _, c5, _⟩ := P; exact c5.2.1
    obtain ⟨F', W', q⟩ := back_wk (vm := vm) W0 ⟨rfl, rfl, rfl⟩ h6 h8 h10 X' h2 (Nat.le_trans h3 gr) h4 h5 P (Or.inr ⟨h10.2 hw, rfl⟩)
    exact G.of stp (hr BU BU.heap F' v W' q)
theorem w_special (W : Wk E x T h F cs ss) (B : Is x own b ml R ret nm) {index : Nat} {y : MethodName} {bytes : ByteArray} {maxL : Nat} {rm : Room} {Q : Option Value → Heap → List Addr → Prop} {ps : List FieldType} {r : Option FieldType} {a : Addr} {argsL : List Value} {Wt : Nat} (d : D b pc (.invokespecial index) 3 nx) (hy1 : y.name = "<init>")
    (w1 : (Cond.methodLink own index y).before E.a E.Z = true) (w2 : (Cond.instanceMethod y).before E.a E.Z = true) (w3 : (Cond.initialized y.cls).before E.a E.Z = true) (w4 : (Cond.code y bytes maxL none).before E.a E.Z = true) (hy : y.cls ≠ "java/lang/invoke/MethodHandle" ∧ y.cls ≠ "java/lang/invoke/VarHandle")
    (pd : parseMethodDescriptor y.desc = some ⟨ps, r⟩) (hl : argsL.length = ps.length) (hsz : Ls.size = ml) (hst : stk = argsL.reverse ++ .ref a :: st) (hW : (st.map fun v => v.category).sum ≤ Wt) (hM : Met E y bytes maxL none rm (.ref a :: argsL).toArray h F Q)
    (hf : rm.frames + 1 ≤ R.frames) (hlo : Wt + (maxL + 11) + rm.locals ≤ R.locals) (hc : cs + rm.cells ≤ R.cells) (hs : ss + rm.slots ≤ R.slots)
    (hr : ∀ (T' : State) (h' : Heap) (F' : List Addr) (v : Option Value), Wk E x T' h' F' (cs + rm.cells) (ss + rm.slots) → Q v h' F' → G E x T' (fr x nx Ls (v.toList ++ st))) : G E x T (fr x pc Ls stk) := by
  obtain ⟨d1, rfl⟩ := d
  subst hst
  have W0 := W
  obtain ⟨vm, k, L, X, h1, h2, h3, h4, h5, h6, h7, h8, h9, h10⟩ := W
  have hown : vm.findClass own = some x.m.cls := by rw [h2.1.alike.findClass]; exact B.2.2.2.2.2.2.2
  rw [← B.2.2.1] at hf hlo hc hs
  cases hw : E.w with
  | true =>
    obtain ⟨v, vm₁, ⟨BU, BL, Bc, Bs⟩, -, X', S', gr, P, stp⟩ := X.specialBackS B.2.2.2.2.2.2.1 hy1 hown (mvT (s := x.s.setVm vm) h5 w1) (mvT (s := x.s.setVm vm) h5 w2) (mvT (s := x.s.setVm vm) h5 w4) hy (payS (len := 3) (W := Wt) hw hM h5 h7 h8.1 h9 h10 w4 w3 hf hlo) (g := fr x pc Ls (argsL.reverse ++ .ref a :: st)) rfl (hsz.trans B.2.1.symm) (Steps.refl _) (lenOf pd hl) rfl (by show 2 * 0 + _ ≤ _; omega) (by rw [B.1]; exact d1) (fun vm₁ _ => ⟨rfl, h1, hc, hs⟩)
    obtain ⟨F', W', q⟩ := back_wk (vm := vm) W0 ⟨rfl, rfl, rfl⟩ h6 h8 h10 X' (foldS h2 (by rw [h1]; exact h3) S' gr) (Nat.le_refl _) (fun q => Bool.noConfusion (hw.symm.trans q)) (State.Warmed39.trans (t := x.s.setVm vm) h5 S'.1) P (Or.inl rfl)
    exact G.ofS stp (hr BU BU.heap F' v W' q)
  | false =>
    have e := h4 hw
    obtain ⟨v, vm₁, ⟨BU, BL, Bc, Bs⟩, -, X', P, stp⟩ := X.specialBack B.2.2.2.2.2.2.1 hy1 hown (mvT (s := x.s.setVm vm) h5 w1) (mvT (s := x.s.setVm vm) h5 w2) (mvT (s := x.s.setVm vm) h5 w4) hy (payN (len := 3) (W := Wt) hw hM h5 h7 h8.1 h9 h10 w4 w3 hf hlo) (g := fr x pc Ls (argsL.reverse ++ .ref a :: st)) rfl (hsz.trans B.2.1.symm) (Steps.refl _) (lenOf pd hl) rfl (by show 2 * 0 + _ ≤ _; omega) (by rw [B.1]; exact d1) (fun vm₁ _ => ⟨rfl, h1, hc, hs⟩)
    have gr : h.size ≤ BU.heap.size := by obtain ⟨_, _, _, _, _, _, c5, _⟩ := P; exact c5.2.1
    obtain ⟨F', W', q⟩ := back_wk (vm := vm) W0 ⟨rfl, rfl, rfl⟩ h6 h8 h10 X' h2 (Nat.le_trans h3 gr) h4 h5 P (Or.inr ⟨h10.2 hw, rfl⟩)
    exact G.ofS stp (hr BU BU.heap F' v W' q)
theorem w_virtual (W : Wk E x T h F cs ss) (B : Is x own b ml R ret nm) {index : Nat} {C : String} {y z : MethodName} {bytes : ByteArray} {maxL : Nat} {rt : Option FieldType} {rm : Room} {Q : Option Value → Heap → List Addr → Prop} {ps : List FieldType} {r : Option FieldType} {a : Addr} {argsL : List Value} {Wt : Nat} (d : D b pc (.invokevirtual index) 3 nx)
    (w1 : (Cond.methodLink own index y).before E.a E.Z = true) (wd : (Cond.declares y).before E.a E.Z = true) (nf : ∀ s' : State, E.Z.Warmed39 s'.vm → NotFace s' y) (wsel : (Cond.selects C y z).before E.a E.Z = true) (w2 : (Cond.instanceMethod z).before E.a E.Z = true) (w3 : (Cond.initialized z.cls).before E.a E.Z = true) (w4 : (Cond.code z bytes maxL rt).before E.a E.Z = true)
    (hy : y.cls ≠ "java/lang/invoke/MethodHandle" ∧ y.cls ≠ "java/lang/invoke/VarHandle") (Ex : Exa E.Z h a C)
    (pd : parseMethodDescriptor y.desc = some ⟨ps, r⟩) (hl : argsL.length = ps.length) (hsz : Ls.size = ml) (hst : stk = argsL.reverse ++ .ref a :: st) (hW : (st.map fun v => v.category).sum ≤ Wt) (hM : Met E z bytes maxL rt rm (.ref a :: argsL).toArray h F Q)
    (hf : rm.frames + 1 ≤ R.frames) (hlo : Wt + (maxL + 11) + rm.locals ≤ R.locals) (hc : cs + rm.cells ≤ R.cells) (hs : ss + rm.slots ≤ R.slots)
    (hr : ∀ (T' : State) (h' : Heap) (F' : List Addr) (v : Option Value), Wk E x T' h' F' (cs + rm.cells) (ss + rm.slots) → Q v h' F' → G E x T' (fr x nx Ls (v.toList ++ st))) : G E x T (fr x pc Ls stk) := by
  obtain ⟨d1, rfl⟩ := d
  subst hst
  have W0 := W
  obtain ⟨vm, k, L, X, h1, h2, h3, h4, h5, h6, h7, h8, h9, h10⟩ := W
  have hown : vm.findClass own = some x.m.cls := by rw [h2.1.alike.findClass]; exact B.2.2.2.2.2.2.2
  obtain ⟨cB, kB, i1, i2, i3⟩ := isOf (s := x.s.setVm vm) h5 h1 Ex
  rw [← B.2.2.1] at hf hlo hc hs
  cases hw : E.w with
  | true =>
    obtain ⟨v, vm₁, ⟨BU, BL, Bc, Bs⟩, -, X', S', gr, P, stp⟩ := X.virtualBackS B.2.2.2.2.2.2.1 hown (mvT (s := x.s.setVm vm) h5 w1) (mvT (s := x.s.setVm vm) h5 wd) (nf (x.s.setVm vm) h5) (mvT (s := x.s.setVm vm) h5 wsel) (mvT (s := x.s.setVm vm) h5 w2) hy (payS (len := 3) (W := Wt) hw hM h5 h7 h8.1 h9 h10 w4 w3 hf hlo) i1 i3 (g := fr x pc Ls (argsL.reverse ++ .ref a :: st)) rfl (hsz.trans B.2.1.symm) (Steps.refl _) (lenOf pd hl) rfl (by show 2 * 0 + _ ≤ _; omega) (by rw [B.1]; exact d1) (fun vm₁ _ => ⟨rfl, h1, hc, hs⟩)
    obtain ⟨F', W', q⟩ := back_wk (vm := vm) W0 ⟨rfl, rfl, rfl⟩ h6 h8 h10 X' (foldS h2 (by rw [h1]; exact h3) S' gr) (Nat.le_refl _) (fun q => Bool.noConfusion (hw.symm.trans q)) (State.Warmed39.trans (t := x.s.setVm vm) h5 S'.1) P (Or.inl rfl)
    exact G.ofS stp (hr BU BU.heap F' v W' q)
  | false =>
    have e := h4 hw
    obtain ⟨v, vm₁, ⟨BU, BL, Bc, Bs⟩, -, X', P, stp⟩ := X.virtualBack B.2.2.2.2.2.2.1 hown (mvT (s := x.s.setVm vm) h5 w1) (mvT (s := x.s.setVm vm) h5 wd) (nf (x.s.setVm vm) h5) (mvT (s := x.s.setVm vm) h5 wsel) (mvT (s := x.s.setVm vm) h5 w2) hy (payN (len := 3) (W := Wt) hw hM h5 h7 h8.1 h9 h10 w4 w3 hf hlo) i1 i3 (g := fr x pc Ls (argsL.reverse ++ .ref a :: st)) rfl (hsz.trans B.2.1.symm) (Steps.refl _) (lenOf pd hl) rfl (by show 2 * 0 + _ ≤ _; omega) (by rw [B.1]; exact d1) (fun vm₁ _ => ⟨rfl, h1, hc, hs⟩)
    have gr : h.size ≤ BU.heap.size := by obtain ⟨_, _, _, _, _, _, c5, _⟩ := P; exact c5.2.1
    obtain ⟨F', W', q⟩ := back_wk (vm := vm) W0 ⟨rfl, rfl, rfl⟩ h6 h8 h10 X' h2 (Nat.le_trans h3 gr) h4 h5 P (Or.inr ⟨h10.2 hw, rfl⟩)
    exact G.ofS stp (hr BU BU.heap F' v W' q)
theorem nf_sel {Z : State} {a0 : Array Value} {C : String} {y : MethodName} (w : (Cond.selects C y y).before a0 Z = true) : ∀ s' : State, Z.Warmed39 s'.vm → NotFace s' y := fun s' hZ => notFace_of_selects (args := a0) (mvT hZ w)
end Calls
end Jvm.Own
namespace Jvm.Own
open Sem ClassFile Op Lib Bundle Jvm.Stand Jvm.Free Jvm.LawKit Jvm.RoadKit
theorem ne_new {h : Heap} {a b : Addr} (l : a < h.size) (g : b = h.size) : a ≠ b := by subst g; exact Nat.ne_of_lt l
theorem cat_ref {v : Value} (hv : v.isRef = true) : v.category = 1 := by rcases ref_cases hv with rfl | ⟨a, rfl⟩ <;> rfl
theorem cat_r (a : Addr) : (Value.ref a).category = 1 := rfl
theorem cat_i (a : Int32) : (Value.int a).category = 1 := rfl
theorem cat_j (a : Int64) : (Value.long a).category = 2 := rfl
theorem cat_n : Value.null.category = 1 := rfl
theorem nar_ref {C : String} {v : Value} (hv : v.isRef = true) : narrow (.object C) v = v := by rcases ref_cases hv with rfl | ⟨a, rfl⟩ <;> rfl
theorem fits_obj {C : String} {v : Value} (hv : v.isRef = true) : fits (.object C) v = true := by rcases ref_cases hv with rfl | ⟨a, rfl⟩ <;> rfl
/-! ints of small naturals -/
theorem n_int {i : Nat} (h : i < 2 ^ 31) : i.toInt32.toInt = i := len_toInt h
theorem n_clamp {i : Nat} (h : i < 2 ^ 31) : i.toInt32.toNatClampNeg = i := by simp only [Int32.toNatClampNeg, n_int h]; omega
theorem n_nn {i : Nat} (h : i < 2 ^ 31) : ¬ i.toInt32 < 0 := by simp only [Int32.lt_iff_toInt_lt, n_int h, Int32.reduceToInt]; omega
theorem n_lt {i n : Nat} (hi : i < 2 ^ 31) (hn : n < 2 ^ 31) : i.toInt32 < n.toInt32 ↔ i < n := by simp only [Int32.lt_iff_toInt_lt, n_int hi, n_int hn]; omega
theorem n_add (i j : Nat) : i.toInt32 + j.toInt32 = (i + j).toInt32 := (Int32.ofNat_add i j).symm
theorem n_succ (i : Nat) : i.toInt32 + (1 : Int32) = (i + 1).toInt32 := n_add i 1
theorem n_eq {i n : Nat} (hi : i < 2 ^ 31) (hn : n < 2 ^ 31) : i.toInt32 = n.toInt32 ↔ i = n := by rw [← Int32.toInt_inj, n_int hi, n_int hn]; omega
theorem z_nat {z : Int32} (h : ¬ z < 0) : z = z.toNatClampNeg.toInt32 := (back32 h).1.symm
/-! chars -/
def lo8 (c : Int32) : Int32 := c.toInt8.toInt32
def Ch (cs : List Int32) : Prop := ∀ c ∈ cs, 0 ≤ c.toInt ∧ c.toInt ≤ 65535
def Lat (cs : List Int32) : Prop := ∀ c ∈ cs, c.toInt ≤ 255
def b8 (cs : List Int32) : List Value := cs.map fun c => .int (lo8 c)
def b16 (cs : List Int32) : List Value := cs.flatMap fun c => [.int (lo8 c), .int (lo8 (c >>> 8))]
def ints (cs : List Int32) : List Value := cs.map Value.int
theorem i2c_toInt (x : Int32) : x.toUInt32.toUInt16.toUInt32.toInt32.toInt = x.toInt % 65536 := by have := c_i2c x; omega
theorem i2c_id {x : Int32} (h0 : 0 ≤ x.toInt) (h1 : x.toInt ≤ 65535) : x.toUInt32.toUInt16.toUInt32.toInt32 = x := Int32.toInt_inj.mp (by rw [i2c_toInt]; omega)
theorem nar_i2c (x : Int32) : nar .char x.toUInt32.toUInt16.toUInt32.toInt32 = x.toUInt32.toUInt16.toUInt32.toInt32 := i2c_id (by rw [i2c_toInt]; omega) (by rw [i2c_toInt]; omega)
theorem nar_char {x : Int32} (h0 : 0 ≤ x.toInt) (h1 : x.toInt ≤ 65535) : nar .char x = x := i2c_id h0 h1
theorem b8_len (cs : List Int32) : (b8 cs).length = cs.length := by simp [b8]
theorem ints_len (cs : List Int32) : (ints cs).length = cs.length := by simp [ints]
theorem b16_len (cs : List Int32) : (b16 cs).length = 2 * cs.length := by
  induction cs with
  | nil => rfl
  | cons c r ih => simp only [b16, List.flatMap_cons, List.length_append, List.length_cons, List.length_nil] at ih ⊢; omega
theorem b16_at (cs : List Int32) : ∀ i, i < cs.length → (b16 cs).getD (2 * i) (.int 0) = .int (lo8 (cs.getD i 0)) ∧ (b16 cs).getD (2 * i + 1) (.int 0) = .int (lo8 (cs.getD i 0 >>> 8)) := by
  induction cs with
  | nil => intro i hi; exact absurd hi (Nat.not_lt_zero _)
  | cons c r ih =>
    intro i hi
    cases i with
    | zero => exact ⟨rfl, rfl⟩
    | succ j =>
      have q := ih j (by simpa using hi)
      exact q
theorem ints_at {cs : List Int32} {i : Nat} (h : i < cs.length) (d : Value) : (ints cs).getD i d = .int (cs.getD i 0) := by
  simp [ints, List.getD_eq_getElem?_getD, List.getElem?_map, List.getElem?_eq_getElem h]
theorem b8_at {cs : List Int32} {i : Nat} (h : i < cs.length) (d : Value) : (b8 cs).getD i d = .int (lo8 (cs.getD i 0)) := by
  simp [b8, List.getD_eq_getElem?_getD, List.getElem?_map, List.getElem?_eq_getElem h]
theorem ch_at {cs : List Int32} (H : Ch cs) {i : Nat} (h : i < cs.length) : 0 ≤ (cs.getD i 0).toInt ∧ (cs.getD i 0).toInt ≤ 65535 := by
  have : cs.getD i 0 = cs[i] := by simp [List.getD_eq_getElem?_getD, List.getElem?_eq_getElem h]
  rw [this]; exact H _ (List.getElem_mem h)
theorem lo8_toInt (c : Int32) : (lo8 c).toInt = c.toInt.bmod 256 := by
  show (c.toInt8.toInt32).toInt = _
  rw [Int8.toInt_toInt32, Int32.toInt_toInt8]
theorem and255 (x : Int32) : (x &&& 255).toInt = x.toInt % 256 := by
  have h : (x &&& 255).toBitVec.toNat = x.toBitVec.toNat % 256 := by
    show (x.toBitVec &&& (255 : Int32).toBitVec).toNat = _
    rw [BitVec.toNat_and, show (255 : Int32).toBitVec.toNat = 2 ^ 8 - 1 from by decide, Nat.and_two_pow_sub_one_eq_mod]
  have h2 : (x &&& 255).toInt = ((x &&& 255).toBitVec.toNat : Int) := by
    show (x &&& 255).toBitVec.toInt = _
    rw [BitVec.toInt_eq_toNat_cond, if_pos (by rw [h]; omega)]
  rw [h2, h]
  show ((x.toBitVec.toNat % 256 : Nat) : Int) = x.toBitVec.toInt % 256
  rw [BitVec.toInt_eq_toNat_cond]
  split <;> omega
theorem lo8_and (c : Int32) : (lo8 c &&& 255).toInt = c.toInt % 256 := by
  rw [and255, lo8_toInt]
  exact Int.bmod_emod
theorem lo8_mask {c : Int32} (h0 : 0 ≤ c.toInt) (h1 : c.toInt ≤ 255) : lo8 c &&& 255 = c := Int32.toInt_inj.mp (by rw [lo8_and]; omega)
/-- that a method's class is no interface says it of every method of that class -/
theorem nf_class {E : Gl} {y y' : MethodName} (nf : NotFace E.Z y') (w : (Cond.instanceMethod y').before E.a E.Z = true) (hc : y'.cls = y.cls) : NotFace E.Z y := fun r0 h0 => by
  obtain ⟨mk, _, hn, -⟩ := Cond.instanceMethod_spec w
  obtain ⟨kr, hk, hi⟩ := nf mk hn
  have q1 := findClass_of_methodNamed hn
  have q2 := findClass_of_methodNamed h0
  rw [hc] at q1
  have q3 : mk.cls = r0.cls := Option.some.inj (q1.symm.trans q2)
  exact ⟨kr, by rw [← q3]; exact hk, hi⟩
theorem nf_classW {E : Gl} {C : String} {y y' : MethodName} (w : (Cond.selects C y' y').before E.a E.Z = true) (w2 : (Cond.instanceMethod y').before E.a E.Z = true) (hc : y'.cls = y.cls) : ∀ s' : State, E.Z.Warmed39 s'.vm → NotFace s' y := fun s' hZ r0 h0 => by
  obtain ⟨mk, _, hn, -⟩ := Cond.instanceMethod_spec (args := E.a) (mvT hZ w2)
  obtain ⟨kr, hk, hi⟩ := nf_sel w s' hZ mk hn
  have q1 := findClass_of_methodNamed hn
  have q2 := findClass_of_methodNamed h0
  rw [hc] at q1
  have q3 : mk.cls = r0.cls := Option.some.inj (q1.symm.trans q2)
  exact ⟨kr, by rw [← q3]; exact hk, hi⟩
theorem ne_ge {h : Heap} {a b : Addr} (l : a < h.size) (g : h.size ≤ b) : a ≠ b := Nat.ne_of_lt (Nat.lt_of_lt_of_le l g)
theorem shr0 (n : Int32) : n >>> ((0 : Int32) &&& 31) = n := by
  rw [show (0 : Int32) &&& 31 = 0 from by decide]; exact Int32.shiftRight_zero
theorem shl0 (n : Int32) : n <<< ((0 : Int32) &&& 31) = n := by
  rw [show (0 : Int32) &&& 31 = 0 from by decide]; exact Int32.shiftLeft_zero
theorem arv_ne {Z : State} {h : Heap} {a b : Addr} {k k' : ClassId} {t t' : FieldType} {n n' : Int32} {vs vs' : List Value} {d d' : Value} (A : Arv Z h a k t n vs d) (A' : Arv Z h b k' t' n' vs' d') (q : n.toNatClampNeg ≠ n'.toNatClampNeg) : a ≠ b := by
  rintro rfl
  obtain ⟨c, B, -, s, -⟩ := A
  obtain ⟨c', B', -, s', -⟩ := A'
  cases B.1.symm.trans B'.1
  exact q (s.symm.trans s')
theorem fld_of {Z : State} {args : Array Value} {t : Term} {a : Addr} {C n d : String} {v : Value} (e1 : t.eval args Z none [] Z = some (.ref a)) (e2 : (Term.field t C n d).eval args Z none [] Z = some v) : Fld Z Z.heap a C n d v := Fld.start (by simpa [Term.eval, e1] using e2)
/-! longs compared -/
theorem cmpL_lt (x y : Int64) : XT.cmpL x y < 0 ↔ x < y := by
  unfold XT.cmpL; split <;> (try split) <;> simp_all [Int64.lt_iff_toInt_lt, ← Int64.toInt_inj] <;> omega
theorem cmpL_gt (x y : Int64) : 0 < XT.cmpL x y ↔ y < x := by
  unfold XT.cmpL; split <;> (try split) <;> simp_all [Int64.lt_iff_toInt_lt, ← Int64.toInt_inj] <;> omega
theorem cmpL_eq (x y : Int64) : XT.cmpL x y = 0 ↔ x = y := by
  unfold XT.cmpL; split <;> (try split) <;> simp_all [Int64.lt_iff_toInt_lt, ← Int64.toInt_inj] <;> omega
theorem len_of_eq {Z : State} {args : Array Value} {t : Term} {a : Addr} {c : Cell} {ty : FieldType} {k : Int32} (A : Arr Z Z.heap a c ty) (e : t.eval args Z none [] Z = some (.ref a)) (hl : (Cond.eq (.length t) (.int k)).value args Z none Z [] = some true) : c.slots.size < 2 ^ 31 ∧ c.slots.size.toInt32 = k := by
  have hA : Z.arrayAt? a = some c := A.fin (Vm.Alike.refl _)
  have hn : c.slots.size < 2 ^ 31 := by
    by_cases hn : c.slots.size < 2 ^ 31
    · exact hn
    · have hn' : ¬ c.slots.size < 2147483648 := hn
      simp [Cond.value, Term.eval, e, hA, hn'] at hl
  exact ⟨hn, gotT (Cond.eq_ints (len_f e hA hn) (Term.int_eval k)) hl⟩
end Jvm.Own
namespace Jvm.Own
open Sem ClassFile Op Lib Bundle Jvm.Stand Jvm.Free Jvm.LawKit Jvm.RoadKit
section CallsF
variable {E : Gl} {x : Cx} {T : State} {h : Heap} {F : List Addr} {cs ss : Nat} {own : String} {b : ByteArray} {ml : Nat} {R : Room} {ret : Option FieldType} {nm : String} {pc nx : Nat} {Ls : Array Slot} {st stk : List Value}
theorem w_interface (W : Wk E x T h F cs ss) (B : Is x own b ml R ret nm) {index cnt : Nat} {C : String} {y z : MethodName} {bytes : ByteArray} {maxL : Nat} {rt : Option FieldType} {rm : Room} {Q : Option Value → Heap → List Addr → Prop} {ps : List FieldType} {r : Option FieldType} {a : Addr} {argsL : List Value} {Wt : Nat} (d : D b pc (.invokeinterface index cnt) 5 nx)
    (w1 : (Cond.methodLink own index y).before E.a E.Z = true) (wd : (Cond.declares y).before E.a E.Z = true) (wf : (Cond.interfaceMethod y.cls y.cls y.name y.desc).before E.a E.Z = true) (hfa : ((Cond.interfaceMethod y.cls y.cls y.name y.desc).onTables && (Cond.interfaceMethod y.cls y.cls y.name y.desc).keepsFace) = true) (wsel : (Cond.selects C y z).before E.a E.Z = true) (w2 : (Cond.instanceMethod z).before E.a E.Z = true) (wp : (Cond.publicMethod z).before E.a E.Z = true) (wu : (Cond.unhidden C y.name y.desc).before E.a E.Z = true) (wca : (Cond.castable C y.cls).before E.a E.Z = true) (w3 : (Cond.initialized z.cls).before E.a E.Z = true) (w4 : (Cond.code z bytes maxL rt).before E.a E.Z = true) (hy : y.cls ≠ "java/lang/invoke/MethodHandle" ∧ y.cls ≠ "java/lang/invoke/VarHandle") (Ex : Exa E.Z h a C)
    (pd : parseMethodDescriptor y.desc = some ⟨ps, r⟩) (hl : argsL.length = ps.length) (hsz : Ls.size = ml) (hst : stk = argsL.reverse ++ .ref a :: st) (hW : (st.map fun v => v.category).sum ≤ Wt) (hM : Met E z bytes maxL rt rm (.ref a :: argsL).toArray h F Q)
    (hf : rm.frames + 1 ≤ R.frames) (hlo : Wt + (maxL + 11) + rm.locals ≤ R.locals) (hc : cs + rm.cells ≤ R.cells) (hs : ss + rm.slots ≤ R.slots)
    (hr : ∀ (T' : State) (h' : Heap) (F' : List Addr) (v : Option Value), Wk E x T' h' F' (cs + rm.cells) (ss + rm.slots) → Q v h' F' → G E x T' (fr x nx Ls (v.toList ++ st))) : G E x T (fr x pc Ls stk) := by
  obtain ⟨d1, rfl⟩ := d
  subst hst
  have W0 := W
  obtain ⟨vm, k, L, X, h1, h2, h3, h4, h5, h6, h7, h8, h9, h10⟩ := W
  have hown : vm.findClass own = some x.m.cls := by rw [h2.1.alike.findClass]; exact B.2.2.2.2.2.2.2
  obtain ⟨cB, kB, i1, i2, i3⟩ := isOf (s := x.s.setVm vm) h5 h1 Ex
  rw [← B.2.2.1] at hf hlo hc hs
  cases hw : E.w with
  | true =>
    obtain ⟨v, vm₁, ⟨BU, BL, Bc, Bs⟩, -, X', S', gr, P, stp⟩ := X.interfaceBackS B.2.2.2.2.2.2.1 hown (mvT (s := x.s.setVm vm) h5 w1) (mvT (s := x.s.setVm vm) h5 wd) (mvT (s := x.s.setVm vm) h5 wf hfa) (mvT (s := x.s.setVm vm) h5 wsel) (mvT (s := x.s.setVm vm) h5 w2) (mvT (s := x.s.setVm vm) h5 wp) (mvT (s := x.s.setVm vm) h5 wu) (mvT (s := x.s.setVm vm) h5 wca) hy (payS (len := 5) (W := Wt) hw hM h5 h7 h8.1 h9 h10 w4 w3 hf hlo) i1 i2 i3 (g := fr x pc Ls (argsL.reverse ++ .ref a :: st)) rfl (hsz.trans B.2.1.symm) (Steps.refl _) (lenOf pd hl) rfl (by show 2 * 0 + _ ≤ _; omega) (by rw [B.1]; exact d1) (fun vm₁ _ => ⟨rfl, h1, hc, hs⟩)
    obtain ⟨F', W', q⟩ := back_wk (vm := vm) W0 ⟨rfl, rfl, rfl⟩ h6 h8 h10 X' (foldS h2 (by rw [h1]; exact h3) S' gr) (Nat.le_refl _) (fun q => Bool.noConfusion (hw.symm.trans q)) (State.Warmed39.trans (t := x.s.setVm vm) h5 S'.1) P (Or.inl rfl)
    exact G.ofS stp (hr BU BU.heap F' v W' q)
  | false =>
    have e := h4 hw
    obtain ⟨v, vm₁, ⟨BU, BL, Bc, Bs⟩, -, X', P, stp⟩ := X.interfaceBack B.2.2.2.2.2.2.1 hown (mvT (s := x.s.setVm vm) h5 w1) (mvT (s := x.s.setVm vm) h5 wd) (mvT (s := x.s.setVm vm) h5 wf hfa) (mvT (s := x.s.setVm vm) h5 wsel) (mvT (s := x.s.setVm vm) h5 w2) (mvT (s := x.s.setVm vm) h5 wp) (mvT (s := x.s.setVm vm) h5 wu) (mvT (s := x.s.setVm vm) h5 wca) hy (payN (len := 5) (W := Wt) hw hM h5 h7 h8.1 h9 h10 w4 w3 hf hlo) i1 i2 i3 (g := fr x pc Ls (argsL.reverse ++ .ref a :: st)) rfl (hsz.trans B.2.1.symm) (Steps.refl _) (lenOf pd hl) rfl (by show 2 * 0 + _ ≤ _; omega) (by rw [B.1]; exact d1) (fun vm₁ _ => ⟨rfl, h1, hc, hs⟩)
    have gr : h.size ≤ BU.heap.size := by obtain ⟨_, _, _, _, _, _, c5, _⟩ := P; exact c5.2.1
    obtain ⟨F', W', q⟩ := back_wk (vm := vm) W0 ⟨rfl, rfl, rfl⟩ h6 h8 h10 X' h2 (Nat.le_trans h3 gr) h4 h5 P (Or.inr ⟨h10.2 hw, rfl⟩)
    exact G.ofS stp (hr BU BU.heap F' v W' q)
theorem w_private (W : Wk E x T h F cs ss) (B : Is x own b ml R ret nm) {index : Nat} {C : String} {y : MethodName} {bytes : ByteArray} {maxL : Nat} {rt : Option FieldType} {rm : Room} {Q : Option Value → Heap → List Addr → Prop} {ps : List FieldType} {r : Option FieldType} {a : Addr} {argsL : List Value} {Wt : Nat} (d : D b pc (.invokevirtual index) 3 nx)
    (w1 : (Cond.methodLink own index y).before E.a E.Z = true) (w2 : (Cond.instanceMethod y).before E.a E.Z = true) (wpr : (Cond.privateMethod y).before E.a E.Z = true) (nf : NotFace E.Z y) (w3 : (Cond.initialized y.cls).before E.a E.Z = true) (w4 : (Cond.code y bytes maxL rt).before E.a E.Z = true) (hy : y.cls ≠ "java/lang/invoke/MethodHandle" ∧ y.cls ≠ "java/lang/invoke/VarHandle") (Ex : Exa E.Z h a C)
    (pd : parseMethodDescriptor y.desc = some ⟨ps, r⟩) (hl : argsL.length = ps.length) (hsz : Ls.size = ml) (hst : stk = argsL.reverse ++ .ref a :: st) (hW : (st.map fun v => v.category).sum ≤ Wt) (hM : Met E y bytes maxL rt rm (.ref a :: argsL).toArray h F Q)
    (hf : rm.frames + 1 ≤ R.frames) (hlo : Wt + (maxL + 11) + rm.locals ≤ R.locals) (hc : cs + rm.cells ≤ R.cells) (hs : ss + rm.slots ≤ R.slots)
    (hr : ∀ (T' : State) (h' : Heap) (F' : List Addr) (v : Option Value), Wk E x T' h' F' (cs + rm.cells) (ss + rm.slots) → Q v h' F' → G E x T' (fr x nx Ls (v.toList ++ st))) : G E x T (fr x pc Ls stk) := by
  obtain ⟨d1, rfl⟩ := d
  subst hst
  have W0 := W
  obtain ⟨vm, k, L, X, h1, h2, h3, h4, h5, h6, h7, h8, h9, h10⟩ := W
  have hown : vm.findClass own = some x.m.cls := by rw [h2.1.alike.findClass]; exact B.2.2.2.2.2.2.2
  obtain ⟨cl, hcl, hst⟩ := Ex.cell
  have wsel0 : (Cond.selects y.cls y y).before E.a E.Z = true := by
    obtain ⟨mk, _, hn, -⟩ := Cond.instanceMethod_spec w2
    obtain ⟨kr, hk, hi⟩ := nf mk hn
    exact selects_self_of_private (findClass_of_methodNamed hn) hk hi (Cond.privateMethod_at wpr) w2 hy
  have wsel : (Cond.selects y.cls y y).before x.args (x.s.setVm vm) = true := mvT (s := x.s.setVm vm) h5 wsel0
  rw [← B.2.2.1] at hf hlo hc hs
  cases hw : E.w with
  | true =>
    obtain ⟨v, vm₁, ⟨BU, BL, Bc, Bs⟩, -, X', S', gr, P, stp⟩ := X.privateBackS B.2.2.2.2.2.2.1 hown (mvT (s := x.s.setVm vm) h5 w1) (mvT (s := x.s.setVm vm) h5 w2) wsel (Cond.privateMethod_at (mvP (s := x.s.setVm vm) (args := x.args) h5 wpr)) (mvT (s := x.s.setVm vm) h5 w4) hy (payS (len := 3) (W := Wt) hw hM h5 h7 h8.1 h9 h10 w4 w3 hf hlo) (g := fr x pc Ls (argsL.reverse ++ .ref a :: st)) rfl (hsz.trans B.2.1.symm) (Steps.refl _) (by rw [h1]; exact hcl) hst (lenOf pd hl) rfl (by show 2 * 0 + _ ≤ _; omega) (by rw [B.1]; exact d1) (fun vm₁ _ => ⟨rfl, h1, hc, hs⟩)
    obtain ⟨F', W', q⟩ := back_wk (vm := vm) W0 ⟨rfl, rfl, rfl⟩ h6 h8 h10 X' (foldS h2 (by rw [h1]; exact h3) S' gr) (Nat.le_refl _) (fun q => Bool.noConfusion (hw.symm.trans q)) (State.Warmed39.trans (t := x.s.setVm vm) h5 S'.1) P (Or.inl rfl)
    exact G.ofS stp (hr BU BU.heap F' v W' q)
  | false =>
    have e := h4 hw
    obtain ⟨v, vm₁, ⟨BU, BL, Bc, Bs⟩, -, X', P, stp⟩ := X.privateBack B.2.2.2.2.2.2.1 hown (mvT (s := x.s.setVm vm) h5 w1) (mvT (s := x.s.setVm vm) h5 w2) wsel (Cond.privateMethod_at (mvP (s := x.s.setVm vm) (args := x.args) h5 wpr)) (mvT (s := x.s.setVm vm) h5 w4) hy (payN (len := 3) (W := Wt) hw hM h5 h7 h8.1 h9 h10 w4 w3 hf hlo) (g := fr x pc Ls (argsL.reverse ++ .ref a :: st)) rfl (hsz.trans B.2.1.symm) (Steps.refl _) (by rw [h1]; exact hcl) hst (lenOf pd hl) rfl (by show 2 * 0 + _ ≤ _; omega) (by rw [B.1]; exact d1) (fun vm₁ _ => ⟨rfl, h1, hc, hs⟩)
    have gr : h.size ≤ BU.heap.size := by obtain ⟨_, _, _, _, _, _, c5, _⟩ := P; exact c5.2.1
    obtain ⟨F', W', q⟩ := back_wk (vm := vm) W0 ⟨rfl, rfl, rfl⟩ h6 h8 h10 X' h2 (Nat.le_trans h3 gr) h4 h5 P (Or.inr ⟨h10.2 hw, rfl⟩)
    exact G.ofS stp (hr BU BU.heap F' v W' q)
theorem w_super (W : Wk E x T h F cs ss) (B : Is x own b ml R ret nm) {index : Nat} {K : String} {y : MethodName} {bytes : ByteArray} {maxL : Nat} {rt : Option FieldType} {rm : Room} {Q : Option Value → Heap → List Addr → Prop} {ps : List FieldType} {r : Option FieldType} {a : Addr} {argsL : List Value} {Wt : Nat} (d : D b pc (.invokespecial index) 3 nx)
    (hn : y.name ≠ "<init>") (w1 : (Cond.methodLink own index y).before E.a E.Z = true) (w2 : (Cond.instanceMethod y).before E.a E.Z = true) (wsu : (Cond.superclass own y.cls).before E.a E.Z = true) (nf : NotFace E.Z y) (w3 : (Cond.initialized y.cls).before E.a E.Z = true) (w4 : (Cond.code y bytes maxL rt).before E.a E.Z = true) (hy : y.cls ≠ "java/lang/invoke/MethodHandle" ∧ y.cls ≠ "java/lang/invoke/VarHandle") (In : Ins E.Z h a K true)
    (pd : parseMethodDescriptor y.desc = some ⟨ps, r⟩) (hl : argsL.length = ps.length) (hsz : Ls.size = ml) (hst : stk = argsL.reverse ++ .ref a :: st) (hW : (st.map fun v => v.category).sum ≤ Wt) (hM : Met E y bytes maxL rt rm (.ref a :: argsL).toArray h F Q)
    (hf : rm.frames + 1 ≤ R.frames) (hlo : Wt + (maxL + 11) + rm.locals ≤ R.locals) (hc : cs + rm.cells ≤ R.cells) (hs : ss + rm.slots ≤ R.slots)
    (hr : ∀ (T' : State) (h' : Heap) (F' : List Addr) (v : Option Value), Wk E x T' h' F' (cs + rm.cells) (ss + rm.slots) → Q v h' F' → G E x T' (fr x nx Ls (v.toList ++ st))) : G E x T (fr x pc Ls stk) := by
  obtain ⟨d1, rfl⟩ := d
  subst hst
  have W0 := W
  obtain ⟨vm, k, L, X, h1, h2, h3, h4, h5, h6, h7, h8, h9, h10⟩ := W
  have hown : vm.findClass own = some x.m.cls := by rw [h2.1.alike.findClass]; exact B.2.2.2.2.2.2.2
  have wsm : (Cond.sameMethod y.cls y.cls y.name y.desc).before E.a E.Z = true := by
    obtain ⟨mk, _, hnm, -⟩ := Cond.instanceMethod_spec w2
    obtain ⟨kr, hk, hi⟩ := nf mk hnm
    have hc0 := findClass_of_methodNamed hnm
    have hf0 := State.methodFound?_of_named hnm hy
    have hnm' : E.Z.methodNamed? ⟨y.cls, y.name, y.desc⟩ = some mk := hnm
    simp [Cond.before, Cond.holds, Cond.value, hc0, hf0, hnm', hk, hi]
  rw [← B.2.2.1] at hf hlo hc hs
  cases hw : E.w with
  | true =>
    obtain ⟨v, vm₁, ⟨BU, BL, Bc, Bs⟩, -, X', S', gr, P, stp⟩ := superBackS X B.2.2.2.2.2.2.1 (s := x.s.setVm vm) h5 hown w1 wsm w2 wsu hn (payS (len := 3) (W := Wt) hw hM h5 h7 h8.1 h9 h10 w4 w3 hf hlo) h1 In (g := fr x pc Ls (argsL.reverse ++ .ref a :: st)) rfl (hsz.trans B.2.1.symm) w4 (lenOf pd hl) rfl (by show 2 * 0 + _ ≤ _; omega) (by rw [B.1]; exact d1) (fun vm₁ _ => ⟨rfl, h1, hc, hs⟩)
    obtain ⟨F', W', q⟩ := back_wk (vm := vm) W0 ⟨rfl, rfl, rfl⟩ h6 h8 h10 X' (foldS h2 (by rw [h1]; exact h3) S' gr) (Nat.le_refl _) (fun q => Bool.noConfusion (hw.symm.trans q)) (State.Warmed39.trans (t := x.s.setVm vm) h5 S'.1) P (Or.inl rfl)
    exact G.ofS stp (hr BU BU.heap F' v W' q)
  | false =>
    have e := h4 hw
    obtain ⟨v, vm₁, ⟨BU, BL, Bc, Bs⟩, -, X', P, stp⟩ := superBack X B.2.2.2.2.2.2.1 (s := x.s.setVm vm) h5 hown w1 wsm w2 wsu hn (payN (len := 3) (W := Wt) hw hM h5 h7 h8.1 h9 h10 w4 w3 hf hlo) h1 In (g := fr x pc Ls (argsL.reverse ++ .ref a :: st)) rfl (hsz.trans B.2.1.symm) w4 (lenOf pd hl) rfl (by show 2 * 0 + _ ≤ _; omega) (by rw [B.1]; exact d1) (fun vm₁ _ => ⟨rfl, h1, hc, hs⟩)
    have gr : h.size ≤ BU.heap.size := by obtain ⟨_, _, _, _, _, _, c5, _⟩ := P; exact c5.2.1
    obtain ⟨F', W', q⟩ := back_wk (vm := vm) W0 ⟨rfl, rfl, rfl⟩ h6 h8 h10 X' h2 (Nat.le_trans h3 gr) h4 h5 P (Or.inr ⟨h10.2 hw, rfl⟩)
    exact G.ofS stp (hr BU BU.heap F' v W' q)
theorem nf_z {E : Gl} {C : String} {y : MethodName} (w : (Cond.selects C y y).before E.a E.Z = true) : NotFace E.Z y := notFace_of_selects w
theorem w_aaloadC (W : Wk E x T h F cs ss) (B : Is x own b ml R ret nm) {a : Addr} {cl : Cell} {ty : FieldType} {j : Int32} {v : Value} (d : D b pc .aaload 1 nx) (hty : ty.isReference = true) (A : Arr E.Z h a cl ty) (hj : ¬ (j < 0 ∨ cl.slots.size ≤ j.toNatClampNeg)) (hv : cl.slots[j.toNatClampNeg]? = some v) (hr : G E x T (fr x nx Ls (v :: st))) : G E x T (fr x pc Ls (.int j :: .ref a :: st)) := by
  obtain ⟨d1, rfl⟩ := d
  obtain ⟨vm, L, X, e, hZ, hown, -, -⟩ := W.open B
  exact G.of (fun t r => X.aaload B.2.2.2.2.2.2.1 (by rw [e]; exact A.1) (State.isArrayOf_alike hZ.alike A.2.1) hty A.2.2 hj hv (g := fr x pc Ls (.int j :: .ref a :: st)) rfl rfl (by rw [B.1]; exact d1) t r) hr
theorem w_dup2L (W : Wk E x T h F cs ss) (B : Is x own b ml R ret nm) {v : Int64} (d : D b pc .dup2 1 nx) (hr : G E x T (fr x nx Ls (.long v :: .long v :: st))) : G E x T (fr x pc Ls (.long v :: st)) := by
  obtain ⟨d1, rfl⟩ := d; exact pstep W (fun _ A r => XT.dup2L A B.2.2.2.2.2.2.1 rfl (by rw [B.1]; exact d1) rfl r) hr
end CallsF
end Jvm.Own
namespace Jvm.Own
open Sem ClassFile Op Lib Bundle Jvm.Stand Jvm.Free Jvm.LawKit Jvm.RoadKit Jvm.Lambda
/-- an entry that stood resolved stays, whatever else has been resolved or interned -/
theorem ready39 {Z : State} {vm' : Vm} (h : Z.Warmed39 vm') {c i : Nat} {r : Resolved} (q : ∃ k, Z.vm.classes[c]? = some k ∧ k.resolved[i]? = some (some r)) : ∃ k, vm'.classes[c]? = some k ∧ k.resolved[i]? = some (some r) := by
  obtain ⟨k, hk, hr⟩ := q
  obtain ⟨k', hk', -⟩ := h.alike.2.2 _ _ hk
  rcases h.entry hk hk' i with e | ⟨e, -⟩
  · exact ⟨k', hk', e.trans hr⟩
  · rw [hr] at e; cases e
theorem met_ofN {ws : List Cond} {E : Gl} {y : MethodName} {b : ByteArray} {ml : Nat} {ret : Option FieldType} {R : Room} {as' : Array Value} {h : Heap} {F : List Addr} {Q : Option Value → Heap → List Addr → Prop} (pn : plainFor y = true)
    (body : ∀ (x : Cx) (T : State), x.Q = Q → Is x y.cls b ml R ret y.name → E.Z.methodNamed? y = some x.m → Wk E x T h F 0 0 → G E x T (entryFrame x.m as' ml)) : MetT ws E y b ml ret R as' h F Q := by
  refine MetFree.of_bodySF pn hisR ?_
  intro p e s m args below meth c s₁ Bd hml0 hP hK
  obtain ⟨rfl, hZ, hh, hO, hC, hF, hE⟩ := hP
  have X0 : Stand p E.l e R s m args below meth c s₁ [] 0 0 := Stand.of_body Bd
  have e0 : s₁.heap = h := by rw [← hh, Bd.state]; rfl
  have hlk : meth.locks = false := BodyLoose.notSynchronized Bd
  have hn : E.Z.methodNamed? y = some m := by
    have q := State.methodNamed?_setVm (s := E.Z) hZ.alike y
    rw [← q]; exact Bd.named
  have hG := body (p, e, R, s, m, args, below, meth, c, Q) s₁ rfl ⟨Bd.bytes, hml0, rfl, Bd.returns, (name_of_methodNamed Bd.named Bd.method).1, hlk, Bd.exec, findClass_of_methodNamed Bd.named⟩ hn
    ⟨s.vm, 0, [], X0, e0, (State.WarmedH.refl s).since 0, Nat.zero_le _, fun _ => rfl, hZ, Fr.nil _, hO, by subst hh; exact CHr.refl hC, hF, hE⟩
  exact hG
section StepsL
variable {E : Gl} {x : Cx} {T : State} {h : Heap} {F : List Addr} {cs ss : Nat} {own : String} {b : ByteArray} {ml : Nat} {R : Room} {ret : Option FieldType} {nm : String} {pc nx : Nat} {Ls : Array Slot} {st : List Value}
/-- 'invokedynamic' at a lambda's site that captures nothing -/
theorem w_site (W : Wk E x T h F cs ss) (B : Is x own b ml R ret nm) {y : MethodName} {index : Nat} {σ : Lambda.Shape} (hnm : E.Z.methodNamed? y = some x.m) (d : D b pc (.invokedynamic index) 5 nx) (ws : (Cond.lambdaSite y pc index σ).before E.a E.Z = true) (hcap : σ.captured = [])
    (hsz : Ls.size = ml) {Wt : Nat} (hW : (st.map fun v => v.category).sum ≤ Wt) (hlo : Wt + 3072 ≤ R.locals)
    (hr : ∀ (a : Addr) (cK : ClassId), LamKit.Made E.Z y.cls σ cK → LamKit.FnAt E.Z.heap a cK → G E x T (fr x nx Ls (.ref a :: st))) : G E x T (fr x pc Ls st) := by
  obtain ⟨d1, rfl⟩ := d
  obtain ⟨vm, L, X, e, hZ, hown, cl, -⟩ := W.open B
  obtain ⟨cK, one, hat⟩ := Cond.lambdaSite_spec ws
  obtain ⟨mD, kD, cfD, i0, p0, lk, hmD, hkD, -, -, -, hfind, hmade, hcan, hl⟩ := State.lambdaAt?_spec hat
  cases hnm.symm.trans hmD
  obtain ⟨kD', hkD', hnameD⟩ := className_of_methodNamed hnm
  cases hkD.symm.trans hkD'
  rcases hl with ⟨a, cell, rfl, -, -, hcell, hcls, hvm, -⟩ | ⟨-, -, hne⟩
  · have hw : x.e.platform.lambdaLinkWords = 3072 := by rw [X.admits.platform]
    obtain ⟨k', hk', he'⟩ := hZ.alike.2.2 _ _ hkD
    refine G.of (fun t r => X.lambdaConstant B.2.2.2.2.2.2.1 (g := fr x pc Ls st) rfl (hsz.trans B.2.1.symm) (by rw [B.1]; exact d1) hk' (by rw [he']; exact hfind) (by rw [hw, B.2.2.1]; show 2 * 0 + (st.map fun v => v.category).sum + 3072 ≤ _; omega) r) (hr a cK ⟨_, kD, hkD, hnameD, hmade, hcan⟩ ⟨cell, hcell, hcls, hvm⟩)
  · exact absurd hcap hne
/-- clone() of an array -/
theorem w_clone (W : Wk E x T h F cs ss) (B : Is x own b ml R ret nm) {ad : String} {index cap : Nat} {a : Addr} {k : ClassId} {ty : FieldType} {z : Int32} {vs : List Value} {dv : Value} (d : D b pc (.invokevirtual index) 3 nx)
    (w1 : (Cond.methodLink own index ⟨ad, "clone", "()Ljava/lang/Object;"⟩).before E.a E.Z = true) (w2 : (Cond.sameMethod ad "java/lang/Object" "clone" "()Ljava/lang/Object;").before E.a E.Z = true) (w3 : (Cond.native ⟨"java/lang/Object", "clone", "()Ljava/lang/Object;"⟩).before E.a E.Z = true)
    (w4 : (Cond.instanceMethod ⟨"java/lang/Object", "clone", "()Ljava/lang/Object;"⟩).before E.a E.Z = true) (w5 : (Cond.selects ad ⟨ad, "clone", "()Ljava/lang/Object;"⟩ ⟨"java/lang/Object", "clone", "()Ljava/lang/Object;"⟩).before E.a E.Z = true) (w6 : (Cond.castable ad "java/lang/Cloneable").before E.a E.Z = true)
    (A : Arv E.Z h a k ty z vs dv) (Ex : Exa E.Z h a ad) (hsz : Ls.size = ml) (hf : 1 ≤ R.frames) {Wt : Nat} (hW : (st.map fun v => v.category).sum ≤ Wt) (hl : Wt + 14 ≤ R.locals) (hcap : z.toNatClampNeg ≤ cap) (hc : cs + 1 ≤ R.cells) (hs : ss + cap ≤ R.slots)
    (hr : ∀ (T' : State) (h' : Heap) (b : Addr), Wk E x T' h' (b :: F) (cs + 1) (ss + cap) → b = h.size → Ext h h' → Arv E.Z h' b k ty z vs dv → Exa E.Z h' b ad → G E x T' (fr x nx Ls (.ref b :: st))) : G E x T (fr x pc Ls (.ref a :: st)) := by
  obtain ⟨d1, rfl⟩ := d
  obtain ⟨vm, L, X, e, hZ, hown, cl, -⟩ := W.open B
  obtain ⟨T', h', X', e', Ex', A', E', stp⟩ := cloneH X B.2.2.2.2.2.2.1 hZ hown w1 w2 w3 w4 w5 w6 e A.arh Ex (g := fr x pc Ls (.ref a :: st)) rfl (hsz.trans B.2.1.symm) rfl (by rw [B.1]; exact d1) (by rw [B.2.2.1]; exact hf) (W := Wt) (by show 2 * 0 + _ ≤ _; omega) (by rw [B.2.2.1]; exact hl) hcap (by rw [B.2.2.1]; exact hc) (by rw [B.2.2.1]; exact hs)
  exact G.of stp (hr T' h' _ ((cl T' h' _ _ X' e' Ex').2 _ (Nat.le_refl _) E'.lt) rfl Ex' A' E')
/-- the forwarder of a reference to a virtual method without parameters, over one argument: aload_1, checkcast, invokevirtual, areturn -/
def fwdV : ByteArray := ⟨#[0x2b, 0xc0, 0x00, 0x0e, 0xb6, 0x00, 0x12, 0xb0]⟩
theorem fv0 : decode fwdV 0 = .ok (.aload_n 1, 1) := by decide +kernel
theorem fv1 : decode fwdV 1 = .ok (.checkcast 14, 3) := by decide +kernel
theorem fv4 : decode fwdV 4 = .ok (.invokevirtual 18, 3) := by decide +kernel
theorem fv7 : decode fwdV 7 = .ok (.areturn, 1) := by decide +kernel
/-- Function.apply on such a function object, whose target is a getter: the field's value -/
theorem w_apply (W : Wk E x T h F cs ss) (B : Is x own b ml R ret nm) {index cnt fi : Nat} {host n t : String} {xi y : MethodName} {σ : Lambda.Shape} {cK : ClassId} {a b0 q : Addr} {mb : ByteArray} {rt : FieldType} {psx : List FieldType} {rx : Option FieldType} {Wt : Nat} (d : D b pc (.invokeinterface index cnt) 5 nx)
    (w1 : (Cond.methodLink own index xi).before E.a E.Z = true) (wd : (Cond.declares xi).before E.a E.Z = true) (wf : (Cond.interfaceMethod xi.cls xi.cls xi.name xi.desc).before E.a E.Z = true) (hfa : ((Cond.interfaceMethod xi.cls xi.cls xi.name xi.desc).onTables && (Cond.interfaceMethod xi.cls xi.cls xi.name xi.desc).keepsFace) = true)
    (wy : (Cond.instanceMethod y).before E.a E.Z = true) (wc : (Cond.code y mb 1 (some rt)).before E.a E.Z = true) (wsel : (Cond.selects y.cls y y).before E.a E.Z = true) (wl : (Cond.fieldLink y.cls fi y.cls n t).before E.a E.Z = true)
    (hxi : xi.cls = σ.iface ∧ xi.name = σ.name ∧ xi.desc = σ.sam.toString) (hy : y.cls = σ.implClass ∧ y.name = σ.implName ∧ y.desc = σ.implDesc.toString) (hpx : xi.cls ≠ "java/lang/invoke/MethodHandle" ∧ xi.cls ≠ "java/lang/invoke/VarHandle") (hpy : y.cls ≠ "java/lang/invoke/MethodHandle" ∧ y.cls ≠ "java/lang/invoke/VarHandle") (hpn : plainFor y = true)
    (pdx : parseMethodDescriptor xi.desc = some ⟨psx, rx⟩) (hpsx : psx.length = 1) (pdy : parseMethodDescriptor y.desc = some ⟨[], some rt⟩) (hrt : rt.isReference = true)
    (hmd : LamKit.Made E.Z host σ cK) (hfn : LamKit.FnAt E.Z.heap a cK) (hok : LamKit.fwdOK σ host fwdV 2 (some (.object "java/lang/Object")) 18 14 = true)
    (m0 : decode mb 0 = .ok (.aload_n 0, 1)) (m1 : decode mb 1 = .ok (.getfield fi, 3)) (m4 : decode mb 4 = .ok (.areturn, 1))
    (Ex : Exa E.Z h b0 y.cls) (Fl : Fld E.Z h b0 y.cls n t (.ref q))
    (hsz : Ls.size = ml) (hW : (st.map fun v => v.category).sum ≤ Wt) (hf : 2 ≤ R.frames) (hlo : Wt + 25 ≤ R.locals) (hc : cs ≤ R.cells) (hs : ss ≤ R.slots)
    (hr : ∀ T' : State, Wk E x T' h F cs ss → G E x T' (fr x nx Ls (.ref q :: st))) : G E x T (fr x pc Ls (.ref b0 :: .ref a :: st)) := by
  obtain ⟨d1, rfl⟩ := d
  have Ol := W.old
  obtain ⟨vm, L, X, e, hZ, hown, cl, -⟩ := W.open B
  have hx := B.2.2.2.2.2.2.1
  obtain ⟨cell, hcell0, rfl, hvmc⟩ := hfn
  have hcell : T.heap[a]? = some cell := by rw [e]; exact Ol.2 _ _ hcell0
  have hA0 : E.Z.vm.Alike vm := hZ.alike
  obtain ⟨kK0, methk, hkK0, hmk0, hpub, habs, hsel⟩ := LamKit.madeSelects (args := E.a) hmd hok wf hxi
  obtain ⟨r0, r, hn0, hrm0, hstR, hsigR⟩ := Cond.declares_spec wd
  obtain ⟨cL, kL0, r1, hcL, hkL0, hiL0, -, -⟩ := Cond.interfaceMethod_spec wf
  have hr0cls : r0.cls = cL := Option.some.inj ((findClass_of_methodNamed hn0).symm.trans hcL)
  obtain ⟨hasg0, hsel0, hway0⟩ := hsel r0 r hn0 hrm0
  obtain ⟨kK, hkK, -⟩ := hA0.2.2 _ _ hkK0
  obtain ⟨kL, hkL, ekL⟩ := hA0.2.2 _ _ hkL0
  have hn : (x.s.setVm vm).methodNamed? xi = some r0 := by
    have q : (E.Z.setVm vm).methodNamed? xi = some r0 := by rw [State.methodNamed?_setVm hA0]; exact hn0
    exact q
  have hrm : vm.method? r0 = some r := by rw [hA0.method?]; exact hrm0
  have hmk : vm.method? ⟨cell.cls, 1⟩ = some methk := by rw [hA0.method?]; exact hmk0
  have hasg : vm.assignable cell.cls r0.cls = true := by rw [hA0.assignable]; exact hasg0
  have hsel' : selectMethod {} vm cell.cls r0 = .method ⟨cell.cls, 1⟩ := by rw [hA0.selectMethod]; exact hsel0
  have hway : ((cell.cls :: vm.superclasses cell.cls).any fun k => (declaredIn vm r.name r.desc k).any fun (_, y) => y.isPrivate || y.isStatic) = false := by simp only [hA0.superclasses, hA0.declaredIn]; exact hway0
  obtain ⟨vm₁, X₁, hstep₁⟩ := X.invokeinterface hx hown (mvT (s := x.s.setVm vm) hZ w1) hn hrm hstR (by rw [hr0cls]; exact hkL) (by rw [ekL]; exact hiL0) hpx (a := a) (cell := cell) (kcell := kK) hcell (fun z h => by rw [hvmc] at h; cases h) hkK hasg
    (m' := ⟨cell.cls, 1⟩) (meth' := methk) (by rw [Launch.admits_selectMethod X.admits]; exact hsel') hmk hway hpub habs (g := fr x pc Ls (.ref b0 :: .ref a :: st)) rfl (argsL := [.ref b0]) (rest := st) (show [Value.ref b0].length = r.sig.parameters.length from lenOf pdx (show [Value.ref b0].length = psx.length from hpsx.symm) _ hsigR) rfl (by rw [B.1]; exact d1)
  have e₁ : (T.setVm vm₁).heap = h := e
  generalize T.setVm vm₁ = T₁ at X₁ hstep₁ e₁
  have hZ₁ : E.Z.Warmed39 T₁.vm := State.Warmed39.trans (t := x.s.setVm vm) hZ (State.WarmedH.wide X₁.warmed)
  have hA := hZ₁.alike
  obtain ⟨d0, dk0, hd0, hdn0, hmade0, -⟩ := hmd
  obtain ⟨kK₀, tk₀, file₁, methk₁, ck₁, toy₁, t₁, nt, hkK₀, hpn₀, hfile₀, hidx₁, hnt₁, hmk₀, hck₁, hbytes₁, hml₁, hlk₁, -, hretk₁, htoy₀, htk₀, hlook₀, hready₀, hclsR₀⟩ := LamKit.made_static hok hd0 hdn0 hmade0
  obtain ⟨kK₁, hkK₁, eK₁⟩ := hA.2.2 _ _ hkK₀
  have hpn₁ : plainName kK₁.name = true := by rw [eK₁]; exact hpn₀
  have hfile₁ : kK₁.cf = some file₁ := by rw [eK₁]; exact hfile₀
  have hmk₁ : T₁.vm.method? ⟨cell.cls, 1⟩ = some methk₁ := by rw [hA.method?]; exact hmk₀
  obtain ⟨y1, y2, y3⟩ := hy
  obtain ⟨mT, hmT⟩ := Cond.code_named wc
  obtain ⟨methT, cT, hmethT, hcT, hbT, hlT, hreT, hlkT, -, hsigT⟩ := Cond.code_spec hmT wc
  obtain ⟨mT', methT', hmT', hmethT', hstT, habsT⟩ := Cond.instanceMethod_spec wy
  cases hmT.symm.trans hmT'
  cases hmethT.symm.trans hmethT'
  obtain ⟨kT, hkT, hnameT⟩ := className_of_methodNamed hmT
  have hfT := findClass_of_methodNamed hmT
  have hfT0 : E.Z.vm.findClass σ.implClass = some mT.cls := by rw [← y1]; exact hfT
  cases htoy₀.symm.trans hfT0
  have ht₁ : t₁ = mT := by
    have h1 := State.methodFound?_of_named hmT hpy
    rw [y1, y2, y3] at h1
    simp only [State.methodFound?, htoy₀, htk₀, Option.bind_eq_bind, Option.bind_some] at h1
    rw [hlook₀] at h1
    exact Option.some.inj h1
  subst ht₁
  cases htk₀.symm.trans hkT
  have hready₁ : T₁.vm.methodReady cell.cls 18 t₁ := ready39 hZ₁ hready₀
  have hclsR₁ : T₁.vm.classReady cell.cls 14 t₁.cls := ready39 hZ₁ hclsR₀
  have hmethT₁ : T₁.vm.method? t₁ = some methT := by rw [hA.method?]; exact hmethT
  obtain ⟨tk₁, htk₁, heT₁⟩ := hA.2.2 _ _ hkT
  have hsp : ∀ z : Method, signaturePolymorphic tk₁ z = false := fun z => by
    have hn' : tk₁.name = y.cls := by rw [heT₁]; exact hnameT
    simp [signaturePolymorphic, hn', hpy.1, hpy.2]
  obtain ⟨cS, rS, mS, hcS, hrS, hmS, hselS, mkS, hmkS, hmiS⟩ := Cond.selects_spec wsel
  cases hmT.symm.trans hmS
  cases (State.methodFound?_of_named hmT hpy).symm.trans hrS
  cases hfT.symm.trans hcS
  cases hkT.symm.trans hmkS
  obtain ⟨cB2, cT2, i1, i2, i3⟩ := Ins.self Ex
  obtain ⟨cellB, kB, hcB, hfB, hkB, hstB, -⟩ := Ex
  obtain rfl : cellB = cB2 := Option.some.inj (hcB.symm.trans i1)
  obtain rfl : cellB.cls = cT2 := Option.some.inj (hfB.symm.trans i2)
  have hclsB : t₁.cls = cellB.cls := Option.some.inj (hfT.symm.trans hfB)
  have hobjB : ∀ k, cellB.vm ≠ .statics k := fun k q => by rw [q] at hstB; cases hstB
  have hasg0 : E.Z.vm.assignable cellB.cls cellB.cls = true := by simpa [hstB] using i3
  have hasgB : T₁.vm.assignable cellB.cls t₁.cls = true := by rw [hA.assignable, hclsB]; exact hasg0
  have hselB : selectMethod x.e.platform T₁.vm cellB.cls t₁ = .method t₁ := by rw [Launch.admits_selectMethod X.admits, hA.selectMethod, ← hclsB]; exact hselS
  have hkB₁ : T₁.vm.classes[cellB.cls]? = some tk₁ := by rw [← hclsB]; exact htk₁
  have hitf : tk₁.isInterface = false := by rw [heT₁]; exact hmiS
  have hpk : T₁.plainMethod ⟨cell.cls, 1⟩ := State.plainMethod.of_name (fun k' hk' => by cases hkK₁.symm.trans hk'; exact hpn₁)
  obtain ⟨Y₀, hin⟩ := X₁.into (g := fr x pc Ls st) rfl (hsz.trans B.2.1.symm) (by rw [B.1]; exact d1) #[.ref a, .ref b0] (R' := { frames := 1, cells := 0, slots := 0, locals := 12 }) hmk₁ hck₁ hlk₁ hpk (by rw [B.2.2.1]; exact hf) (by rw [hml₁, B.2.2.1]; show 2 * 0 + (st.map fun v => v.category).sum + (2 + 11) + 12 ≤ R.locals; omega) (by rw [B.2.2.1]; exact hc) (by rw [B.2.2.1]; exact hs)
  rw [hml₁, show entryFrame (⟨cell.cls, 1⟩ : MethodId) #[.ref a, .ref b0] 2 = { method := ⟨cell.cls, 1⟩, pc := 0, locals := #[.val (.ref a), .val (.ref b0)], stack := [], locked := none } from rfl] at Y₀ hin
  generalize hU : (T₁.setTop (fr x pc Ls st)).pushFrame (.java { method := ⟨cell.cls, 1⟩, pc := 0, locals := #[.val (.ref a), .val (.ref b0)], stack := [], locked := none }) = U at Y₀ hin
  have hvmU : U.vm = T₁.vm := by rw [← hU]; rfl
  have hheapU : U.heap = h := by rw [← hU]; exact e₁
  have hnamedU : U.methodNamed? y = some t₁ := by
    have q : (E.Z.setVm T₁.vm).methodNamed? y = some t₁ := by rw [State.methodNamed?_setVm hA]; exact hmT
    rw [← hU]; exact q
  have hpT : U.plainMethod t₁ := State.plainMethod.of_named hpn hnamedU (by rw [hvmU]; exact hmethT₁)
  obtain ⟨Z₀, hin2⟩ := Y₀.into (g := { method := ⟨cell.cls, 1⟩, pc := 4, locals := #[.val (.ref a), .val (.ref b0)], stack := [], locked := none }) rfl (by rw [hml₁]; rfl) (by rw [hbytes₁]; exact fv4) #[.ref b0] (R' := { frames := 0, cells := 0, slots := 0, locals := 0 }) (mk := t₁) (methk := methT) (ck := cT) (by rw [hvmU]; exact hmethT₁) hcT hlkT hpT (by decide) (by rw [hlT]; show 2 * 0 + 0 + (1 + 11) + 0 ≤ 12; decide) (by decide) (by decide)
  rw [hlT, show entryFrame t₁ #[.ref b0] 1 = { method := t₁, pc := 0, locals := #[.val (.ref b0)], stack := [], locked := none } from rfl] at Z₀ hin2
  generalize hV : (U.setTop { method := ⟨cell.cls, 1⟩, pc := 4, locals := #[.val (.ref a), .val (.ref b0)], stack := [], locked := none }).pushFrame (.java { method := t₁, pc := 0, locals := #[.val (.ref b0)], stack := [], locked := none }) = V at Z₀ hin2
  have hvmV : V.vm = T₁.vm := by rw [← hV, ← hvmU]; rfl
  have hheapV : V.heap = h := by rw [← hV, ← hheapU]; rfl
  obtain ⟨V', Z₁, heV, stpV⟩ := getF Z₀ hx (Z := E.Z) (show E.Z.Warmed39 U.vm by rw [hvmU]; exact hZ₁) (host := "") (show U.vm.findClass y.cls = some t₁.cls by rw [hvmU, hA.findClass]; exact hfT) (Or.inl wl) Via.refl hheapV Fl (g := { method := t₁, pc := 1, locals := #[.val (.ref b0)], stack := [.ref b0], locked := none }) rfl rfl (by rw [hbT]; exact m1)
  obtain ⟨fs2, hleave2, -, hended2, hWe2, hsame2⟩ := Z₁.leave (v := some (.ref q)) (fun h => by rw [hreT] at h; cases h) hlkT
  obtain ⟨U', Y₁, hWU, -, htU⟩ := Y₀.outOf (g := { method := ⟨cell.cls, 1⟩, pc := 4, locals := #[.val (.ref a), .val (.ref b0)], stack := [], locked := none }) rfl (by rw [hbytes₁]; exact fv4) hended2 hWe2 hsame2
  obtain ⟨fs1, hleave1, -, hended1, hWe1, hsame1⟩ := Y₁.leave (v := some (.ref q)) (fun h => by rw [hretk₁] at h; cases h) hlk₁
  obtain ⟨T', X', -, -, htT⟩ := X₁.outOf (g := fr x pc Ls st) rfl (by rw [B.1]; exact d1) hended1 hWe1 hsame1
  have heU' : U'.heap = h := by
    have q := congrArg State.heap htU
    exact (show U'.heap = V'.heap from q.symm).trans heV
  have heT' : T'.heap = h := by
    have q := congrArg State.heap htT
    exact (show T'.heap = U'.heap from q.symm).trans heU'
  refine G.of (fun tt rr => ?_) (hr T' (cl T' h cs ss (by simpa using X') heT' ⟨Nat.le_refl _, fun _ _ q => q⟩).1)
  refine hstep₁ tt fun acts => ?_
  rw [show (Value.ref a :: [Value.ref b0]).toArray = #[.ref a, .ref b0] from rfl, show ({ fr x pc Ls (.ref b0 :: .ref a :: st) with stack := st } : JFrame) = fr x pc Ls st from rfl, hin acts]
  refine Steps.trans ?_ rr
  rw [show T'.setTop (fr x (pc + 5) Ls (.ref q :: st)) = U'.setFrames fs1 from htT.symm]
  refine Steps.weaken (mid := [.java (fr x pc Ls st)]) ?_
  have hs0 : U.topJava?.isSome := Y₀.here.top
  jvm_step Y₀.here [hx, hbytes₁, fv0, Value.isRef]
  jvm_step Y₀.here [hx, hbytes₁, fv1, checkcast.wp_ready (e := x.e) (s := U) (c := t₁.cls) (x := .ref b0) (rest := []) (f := { method := ⟨cell.cls, 1⟩, pc := 1, locals := #[.val (.ref a), .val (.ref b0)], stack := [.ref b0], locked := none }) hs0 (by rw [hvmU]; exact hclsR₁) rfl]
  refine ⟨cellB, by rw [hheapU]; exact hcB, hobjB, tk₁, by rw [hvmU]; exact hkB₁, tk₁, by rw [hvmU]; exact htk₁, ?_⟩
  rw [if_pos (by rw [hvmU]; exact hasgB)]
  jvm_step Y₀.here [hx, hbytes₁, fv4, invokevirtual.wp_ready (e := x.e) (s := U) (r := t₁) (m := t₁) (k := tk₁) (mk := tk₁) (rmeth := methT) (meth := methT) (a := b0) (args := []) (rest := []) (cell := cellB)
    (f := { method := ⟨cell.cls, 1⟩, pc := 4, locals := #[.val (.ref a), .val (.ref b0)], stack := [.ref b0], locked := none }) hs0 ⟨kK₁, file₁, 14, nt, t₁.cls, tk₁, by rw [hvmU]; exact hkK₁, hfile₁, hidx₁, by rw [hvmU]; exact hclsR₁, by rw [hvmU]; exact htk₁, hitf⟩ (by rw [hvmU]; exact hready₁) (by rw [hvmU]; exact htk₁) (by rw [hvmU]; exact hmethT₁) (hsp _) hstT
    (show ([] : List Value).length = methT.sig.parameters.length from lenOf pdy rfl _ hsigT) rfl (by rw [hheapU]; exact hcB) hobjB (by rw [hvmU]; exact hselB) (by rw [hvmU]; exact hmethT₁) habsT (by rw [hvmU]; exact htk₁) hitf]
  intro acts'
  rw [hin2 acts']
  have s2 : Steps x.p.tables x.e (.java { method := ⟨cell.cls, 1⟩, pc := 4, locals := #[.val (.ref a), .val (.ref b0)], stack := [], locked := none } :: .java (fr x pc Ls st) :: x.below) (V.setTop { method := t₁, pc := 0, locals := #[.val (.ref b0)], stack := [], locked := none }) (V'.setFrames fs2) := by
    have hs1 : V.topJava?.isSome := Z₀.here.top
    jvm_step Z₀.here [hx, hbT, m0, Value.isRef]
    refine stpV _ ?_
    exact Z₁.areturnOut hx rfl hreT hrt (by rw [hbT]; exact m4) hleave2
  refine Steps.trans (Steps.weaken (mid := [.java { method := ⟨cell.cls, 1⟩, pc := 4, locals := #[.val (.ref a), .val (.ref b0)], stack := [], locked := none }]) s2) ?_
  rw [htU]
  exact Y₁.areturnOut hx (w := .ref q) rfl hretk₁ rfl (by rw [hbytes₁]; exact fv7) hleave1
end StepsL
end Jvm.Own
namespace Jvm.Own
open Sem ClassFile Op Lib Bundle Jvm.Stand Jvm.Free Jvm.LawKit Jvm.RoadKit
theorem slot_i {Z : State} {args : Array Value} {t : Term} {a : Addr} {c : Cell} {ty : FieldType} {i k : Int32} (A : Arr Z Z.heap a c ty) (e : t.eval args Z none [] Z = some (.ref a)) (h : (Cond.eq (.elem t (.int i)) (.int k)).value args Z none Z [] = some true) : c.slots[i.toNatClampNeg]? = some (.int k) := by
  obtain ⟨a', j, cell, q1, q2, q3, q4, q5⟩ := Term.elem_spec (eqv_i (Term.int_eval k) h)
  cases e.symm.trans q1
  cases (Term.int_eval i).symm.trans q2
  cases (A.fin (Vm.Alike.refl _)).symm.trans q3
  exact q5
theorem slot_r {Z : State} {args : Array Value} {t u : Term} {a r : Addr} {c : Cell} {ty : FieldType} {i : Int32} (A : Arr Z Z.heap a c ty) (e : t.eval args Z none [] Z = some (.ref a)) (hu : u.eval args Z none [] Z = some (.ref r)) (h : (Cond.eq (.elem t (.int i)) u).value args Z none Z [] = some true) : c.slots[i.toNatClampNeg]? = some (.ref r) := by
  obtain ⟨x, y, e1, e2, k1, k2⟩ := cmp_v (Or.inl h)
  cases hu.symm.trans e2
  have hx : x.isRef = true := (show Value.isRef (.ref r) = true ∧ x.isRef = true from k2).2
  have q : x = .ref r := gotT (eq_R e1 hu hx rfl) h
  subst q
  obtain ⟨a', j, cell, q1, q2, q3, q4, q5⟩ := Term.elem_spec e1
  cases e.symm.trans q1
  cases (Term.int_eval i).symm.trans q2
  cases (A.fin (Vm.Alike.refl _)).symm.trans q3
  exact q5
end Jvm.Own
namespace Jvm.Pilot.@@N@@
open Jvm Jvm.ClassFile Sem Op Lib Jvm.Free Jvm.Stand Jvm.LawKit Jvm.RoadKit Bundle Jvm.Pilot.@@N@@.Jvm.D Jvm.Own
def Tb (E : Gl) : Prop := (∀ c ∈ tables_1, c.before E.a E.Z = true) ∧ (∀ c ∈ jdkStatics_1, c.before E.a E.Z = true) ∧ E.w = true ∧ E.K = []
theorem wd {E : Gl} (hw : Tb E) (k : Nat) {c : Jvm.Cond} (q : tables_1[k]? = some c) : c.before E.a E.Z = true := hw.1 c (List.mem_of_getElem? q)
theorem sd {E : Gl} (hw : Tb E) (k : Nat) {c : Jvm.Cond} (q : jdkStatics_1[k]? = some c) : c.before E.a E.Z = true := hw.2.1 c (List.mem_of_getElem? q)

theorem strAtoms {E : Gl} (hw : Tb E) : ∀ c ∈ Bundle.stringAtoms, c.before E.a E.Z = true := by
  intro c hc
  simp only [Bundle.stringAtoms, List.mem_cons, List.not_mem_nil, or_false] at hc
  rcases hc with rfl | rfl | rfl | rfl | rfl | rfl | rfl
  · exact (wd hw 3 rfl)
  · exact (wd hw 2 rfl)
  · exact (wd hw 19 rfl)
  · exact (wd hw 29 rfl)
  · exact (wd hw 27 rfl)
  · exact (wd hw 56 rfl)
  · exact (wd hw 57 rfl)
theorem d_cmp5_0 : Own.D jdk_52_method_21_code 0 (.iconst 0) 1 1 := ⟨by decide +kernel, rfl⟩
theorem d_cmp5_1 : Own.D jdk_52_method_21_code 1 (.istore 5) 2 3 := ⟨by decide +kernel, rfl⟩
theorem d_cmp5_3 : Own.D jdk_52_method_21_code 3 (.iload 5) 2 5 := ⟨by decide +kernel, rfl⟩
theorem d_cmp5_5 : Own.D jdk_52_method_21_code 5 (.iload 4) 2 7 := ⟨by decide +kernel, rfl⟩
theorem d_cmp5_7 : Own.J jdk_52_method_21_code 7 (.if_icmp .ge 37) 3 10 37 44 := ⟨by decide +kernel, rfl, by decide, by decide⟩
theorem d_cmp5_10 : Own.D jdk_52_method_21_code 10 (.aload_n 0) 1 11 := ⟨by decide +kernel, rfl⟩
theorem d_cmp5_11 : Own.D jdk_52_method_21_code 11 (.iload_n 1) 1 12 := ⟨by decide +kernel, rfl⟩
theorem d_cmp5_12 : Own.D jdk_52_method_21_code 12 .caload 1 13 := ⟨by decide +kernel, rfl⟩
theorem d_cmp5_13 : Own.D jdk_52_method_21_code 13 (.istore 6) 2 15 := ⟨by decide +kernel, rfl⟩
theorem d_cmp5_15 : Own.D jdk_52_method_21_code 15 (.iload 6) 2 17 := ⟨by decide +kernel, rfl⟩
theorem d_cmp5_17 : Own.D jdk_52_method_21_code 17 (.sipush 255) 3 20 := ⟨by decide +kernel, rfl⟩
theorem d_cmp5_20 : Own.J jdk_52_method_21_code 20 (.if_icmp .le 6) 3 23 6 26 := ⟨by decide +kernel, rfl, by decide, by decide⟩
theorem d_cmp5_23 : Own.D jdk_52_method_21_code 23 (.iload 5) 2 25 := ⟨by decide +kernel, rfl⟩
theorem d_cmp5_25 : Own.D jdk_52_method_21_code 25 .ireturn 1 26 := ⟨by decide +kernel, rfl⟩
theorem d_cmp5_26 : Own.D jdk_52_method_21_code 26 (.aload_n 2) 1 27 := ⟨by decide +kernel, rfl⟩
theorem d_cmp5_27 : Own.D jdk_52_method_21_code 27 (.iload_n 3) 1 28 := ⟨by decide +kernel, rfl⟩
theorem d_cmp5_28 : Own.D jdk_52_method_21_code 28 (.iload 6) 2 30 := ⟨by decide +kernel, rfl⟩
theorem d_cmp5_30 : Own.D jdk_52_method_21_code 30 .i2b 1 31 := ⟨by decide +kernel, rfl⟩
theorem d_cmp5_31 : Own.D jdk_52_method_21_code 31 .bastore 1 32 := ⟨by decide +kernel, rfl⟩
theorem d_cmp5_32 : Own.D jdk_52_method_21_code 32 (.iinc 1 1) 3 35 := ⟨by decide +kernel, rfl⟩
theorem d_cmp5_35 : Own.D jdk_52_method_21_code 35 (.iinc 3 1) 3 38 := ⟨by decide +kernel, rfl⟩
theorem d_cmp5_38 : Own.D jdk_52_method_21_code 38 (.iinc 5 1) 3 41 := ⟨by decide +kernel, rfl⟩
theorem d_cmp5_41 : Own.J jdk_52_method_21_code 41 (.goto (-38)) 3 44 (-38) 3 := ⟨by decide +kernel, rfl, by decide, by decide⟩
theorem d_cmp5_44 : Own.D jdk_52_method_21_code 44 (.iload 4) 2 46 := ⟨by decide +kernel, rfl⟩
theorem d_cmp5_46 : Own.D jdk_52_method_21_code 46 .ireturn 1 47 := ⟨by decide +kernel, rfl⟩
/-- what compress leaves: it stopped at i; the places before i hold the low bytes -/
def QC5 (E : Gl) (cs : List Int32) (n : Nat) (a d : Addr) (kd : ClassId) (h0 : Heap) (F : List Addr) (v : Option Value) (h : Heap) (F' : List Addr) : Prop :=
  ∃ (i : Nat) (vs : List Value), v = some (.int i.toInt32) ∧ F = F' ∧ i ≤ n ∧ (i < n → 255 < (cs.getD i 0).toInt) ∧ (∀ j, j < i → (cs.getD j 0).toInt ≤ 255) ∧ Keep h0 h [d] ∧ Arv E.Z h d kd .byte n.toInt32 vs (.int 0) ∧ vs.length = n ∧ ∀ j, j < i → vs.getD j (.int 0) = .int (lo8 (cs.getD j 0))
theorem nar_lo8 (c : Int32) : nar .byte (lo8 c) = lo8 c := Int32.toInt_inj.mp (by show (lo8 (lo8 c)).toInt = _; rw [lo8_toInt, lo8_toInt, Int.bmod_bmod])
theorem set_pre {vs : List Value} {n i : Nat} {f : Nat → Value} {u : Value} (hvl : vs.length = n) (hin : i < n) (hvs : ∀ j, j < i → vs.getD j (.int 0) = f j) (hu : u = f i := by rfl) : ∀ j, j < i + 1 → (vs.set i u).getD j (.int 0) = f j := by
  intro j hj
  rcases Nat.lt_succ_iff_lt_or_eq.mp hj with q | rfl
  · rw [List.getD_eq_getElem?_getD, List.getElem?_set_ne (by omega), ← List.getD_eq_getElem?_getD]; exact hvs j q
  · rw [List.getD_eq_getElem?_getD, List.getElem?_set_self (by omega)]; exact hu
set_option maxRecDepth 65536 in
set_option maxHeartbeats 4000000 in
theorem cmp5_turns {E : Gl} (hw : Tb E) {x : Cx} {a d : Addr} {ka kd : ClassId} {n : Nat} {cs : List Int32} {h0 : Heap} {F : List Addr} (hQ : x.Q = QC5 E cs n a d kd h0 F) (B : Is x "java/lang/StringUTF16" jdk_52_method_21_code 7 ({ frames := 0, cells := 0, slots := 0, locals := 0 } : Room) (some .int) "compress") (hcs : cs.length = n) (hn : n < 2 ^ 31) (had : a ≠ d) (hd : d ∈ F) :
    ∀ (r i : Nat) (T : State) (h : Heap) (s6 : Slot) (vs : List Value), i + r = n → LS s6 → Wk E x T h F 0 0 → Arv E.Z h a ka .char n.toInt32 (ints cs) (.int 0) → Arv E.Z h d kd .byte n.toInt32 vs (.int 0) → vs.length = n →
      (∀ j, j < i → vs.getD j (.int 0) = .int (lo8 (cs.getD j 0))) → (∀ j, j < i → (cs.getD j 0).toInt ≤ 255) → Keep h0 h [d] → G E x T (fr x 3 #[.val (.ref a), .val (.int i.toInt32), .val (.ref d), .val (.int i.toInt32), .val (.int n.toInt32), .val (.int i.toInt32), s6] []) := by
  intro r
  induction r with
  | zero =>
    intro i T h s6 vs hir hs6 W Aa Ad hvl hvs hlat hK
    have hie : i = n := by omega
    have hi31 : i < 2 ^ 31 := by omega
    refine w_iload W B d_cmp5_3 rfl ?_
    refine w_iload W B d_cmp5_5 rfl ?_
    refine w_icmp_ge W B d_cmp5_7 (fun _ => ?_) (fun q => absurd q (by rw [n_lt hi31 hn]; omega))
    show G E x T (fr x 44 #[.val (.ref a), .val (.int i.toInt32), .val (.ref d), .val (.int i.toInt32), .val (.int n.toInt32), .val (.int i.toInt32), s6] [])
    refine w_iload W B d_cmp5_44 rfl ?_
    exact w_ireturn W B d_cmp5_46 hQ (by decide) (by decide) (fun _ q => q) ⟨n, vs, rfl, rfl, Nat.le_refl _, fun q => absurd q (Nat.lt_irrefl _), fun j q => hlat j (by omega), hK, Ad, hvl, fun j q => hvs j (by omega)⟩
  | succ r ih =>
    intro i T h s6 vs hir hs6 W Aa Ad hvl hvs hlat hK
    have hin : i < n := by omega
    have hi31 : i < 2 ^ 31 := by omega
    refine w_iload W B d_cmp5_3 rfl ?_
    refine w_iload W B d_cmp5_5 rfl ?_
    refine w_icmp_ge W B d_cmp5_7 (fun q => q ((n_lt hi31 hn).mpr hin) |>.elim) (fun _ => ?_)
    show G E x T (fr x 10 #[.val (.ref a), .val (.int i.toInt32), .val (.ref d), .val (.int i.toInt32), .val (.int n.toInt32), .val (.int i.toInt32), s6] [])
    refine w_aloadN W B d_cmp5_10 rfl rfl ?_
    refine w_iloadN W B d_cmp5_11 rfl ?_
    refine w_caload W B d_cmp5_12 Aa ⟨n_nn hi31, (n_lt hi31 hn).mpr hin⟩ (v := .int (cs.getD i 0)) (by rw [n_clamp hi31]; exact ints_at (by rw [hcs]; exact hin) _) ?_
    refine w_istore W B d_cmp5_13 (Ls' := #[.val (.ref a), .val (.int i.toInt32), .val (.ref d), .val (.int i.toInt32), .val (.int n.toInt32), .val (.int i.toInt32), .val (.int (cs.getD i 0))]) (store_lit [.val (.ref a), .val (.int i.toInt32), .val (.ref d), .val (.int i.toInt32), .val (.int n.toInt32), .val (.int i.toInt32)] [] hs6 _) ?_
    refine w_iload W B d_cmp5_15 rfl ?_
    refine w_sipush W B d_cmp5_17 (v := (255 : Int32)) rfl ?_
    refine w_icmp_le W B d_cmp5_20 ?_ ?_
    · intro hc20
      show G E x T (fr x 26 #[.val (.ref a), .val (.int i.toInt32), .val (.ref d), .val (.int i.toInt32), .val (.int n.toInt32), .val (.int i.toInt32), .val (.int (cs.getD i 0))] [])
      refine w_aloadN W B d_cmp5_26 rfl rfl ?_
      refine w_iloadN W B d_cmp5_27 rfl ?_
      refine w_iload W B d_cmp5_28 rfl ?_
      refine w_i2b W B d_cmp5_30 ?_
      refine w_bastore W B d_cmp5_31 hd Ad ⟨n_nn hi31, (n_lt hi31 hn).mpr hin⟩ (i := i) (n_clamp hi31) (by rw [hvl]; exact hin) (u := lo8 (cs.getD i 0)) (nar_lo8 _) ?_
      intro T2 h2 W2 K2 A2
      show G E x T2 (fr x 32 #[.val (.ref a), .val (.int i.toInt32), .val (.ref d), .val (.int i.toInt32), .val (.int n.toInt32), .val (.int i.toInt32), .val (.int (cs.getD i 0))] [])
      refine w_iinc W2 B d_cmp5_32 rfl (w := (i + 1).toInt32) (n_succ i) (Ls' := #[.val (.ref a), .val (.int (i + 1).toInt32), .val (.ref d), .val (.int i.toInt32), .val (.int n.toInt32), .val (.int i.toInt32), .val (.int (cs.getD i 0))]) rfl ?_
      refine w_iinc W2 B d_cmp5_35 rfl (w := (i + 1).toInt32) (n_succ i) (Ls' := #[.val (.ref a), .val (.int (i + 1).toInt32), .val (.ref d), .val (.int (i + 1).toInt32), .val (.int n.toInt32), .val (.int i.toInt32), .val (.int (cs.getD i 0))]) rfl ?_
      refine w_iinc W2 B d_cmp5_38 rfl (w := (i + 1).toInt32) (n_succ i) (Ls' := #[.val (.ref a), .val (.int (i + 1).toInt32), .val (.ref d), .val (.int (i + 1).toInt32), .val (.int n.toInt32), .val (.int (i + 1).toInt32), .val (.int (cs.getD i 0))]) rfl ?_
      refine w_goto W2 B d_cmp5_41 ?_
      exact ih (i + 1) T2 h2 _ (vs.set i (.int (lo8 (cs.getD i 0)))) (by omega) (Or.inr ⟨_, rfl⟩) W2 (Aa.keep K2 (ninS had nin0)) A2 (by rw [List.length_set]; exact hvl) (set_pre hvl hin hvs)
        (fun j hj => by rcases Nat.lt_succ_iff_lt_or_eq.mp hj with q | rfl; exact hlat j q; exact Int.not_lt.mp fun q => hc20 (Int32.lt_iff_toInt_lt.mpr q)) (hK.trans K2 (allS (Or.inl (List.Mem.head _)) all0))
    · intro hc20
      show G E x T (fr x 23 #[.val (.ref a), .val (.int i.toInt32), .val (.ref d), .val (.int i.toInt32), .val (.int n.toInt32), .val (.int i.toInt32), .val (.int (cs.getD i 0))] [])
      refine w_iload W B d_cmp5_23 rfl ?_
      exact w_ireturn W B d_cmp5_25 hQ (by decide) (by decide) (fun _ q => q) ⟨i, vs, rfl, rfl, Nat.le_of_lt hin, fun _ => by have := Int32.lt_iff_toInt_lt.mp hc20; exact this, hlat, hK, Ad, hvl, hvs⟩
set_option maxRecDepth 65536 in
set_option maxHeartbeats 4000000 in
theorem cmp5_met {E : Gl} (hw : Tb E) {a d : Addr} {ka kd : ClassId} {n : Nat} {cs : List Int32} {vs : List Value} {h : Heap} {F : List Addr} (hcs : cs.length = n) (hn : n < 2 ^ 31) (had : a ≠ d) (hd : d ∈ F) (Aa : Arv E.Z h a ka .char n.toInt32 (ints cs) (.int 0)) (Ad : Arv E.Z h d kd .byte n.toInt32 vs (.int 0)) (hvl : vs.length = n) :
    Met E (⟨"java/lang/StringUTF16", "compress", "([CI[BII)I"⟩ : MethodName) jdk_52_method_21_code 7 (some .int) ({ frames := 0, cells := 0, slots := 0, locals := 0 } : Room) #[.ref a, .int 0, .ref d, .int 0, .int n.toInt32] h F (QC5 E cs n a d kd h F) := by
  refine met_of (by decide +kernel) fun x T hQ B W => ?_
  refine G.cast (g' := fr x 0 #[.val (.ref a), .val (.int 0), .val (.ref d), .val (.int 0), .val (.int n.toInt32), .unset, .unset] []) (by simp [entryFrame, mkF, argsToLocals, Own.cat_r, Own.cat_i, Own.cat_j, Own.cat_n]) ?_
  refine w_iconst W B d_cmp5_0 (v := (0 : Int32)) rfl ?_
  refine w_istore W B d_cmp5_1 (Ls' := #[.val (.ref a), .val (.int (0 : Int32)), .val (.ref d), .val (.int (0 : Int32)), .val (.int n.toInt32), .val (.int (0 : Int32)), .unset]) rfl ?_
  exact cmp5_turns hw hQ B hcs hn had hd n 0 T h .unset vs (Nat.zero_add n) (Or.inl rfl) W Aa Ad hvl (fun j q => absurd q (Nat.not_lt_zero _)) (fun j q => absurd q (Nat.not_lt_zero _)) (Keep.refl _ _)
/-- the String at s spells cs; v: its byte[] -/
def StrV (E : Gl) (h : Heap) (s v : Addr) (cs : List Int32) : Prop := ∃ k : ClassId, Exa E.Z h s "java/lang/String" ∧ Fld E.Z h s "java/lang/String" "value" "[B" (.ref v) ∧ Ch cs ∧
  ((Lat cs ∧ Fld E.Z h s "java/lang/String" "coder" "B" (.int 0) ∧ Arv E.Z h v k .byte cs.length.toInt32 (b8 cs) (.int 0)) ∨ (¬ Lat cs ∧ Fld E.Z h s "java/lang/String" "coder" "B" (.int 1) ∧ Arv E.Z h v k .byte (2 * cs.length).toInt32 (b16 cs) (.int 0)))
theorem StrV.ext {E : Gl} {h h' : Heap} {s v : Addr} {cs : List Int32} (F : StrV E h s v cs) (X : Ext h h') : StrV E h' s v cs := by
  obtain ⟨k, h1, h2, h3, h4⟩ := F
  exact ⟨k, h1.ext X, h2.ext X, h3, h4.imp (fun q => ⟨q.1, q.2.1.ext X, q.2.2.ext X⟩) (fun q => ⟨q.1, q.2.1.ext X, q.2.2.ext X⟩)⟩
theorem StrV.keep {E : Gl} {h h' : Heap} {s v : Addr} {cs : List Int32} {ws : List Addr} (F : StrV E h s v cs) (K : Keep h h' ws) (q1 : s ∉ ws) (q2 : v ∉ ws) : StrV E h' s v cs := by
  obtain ⟨k, h1, h2, h3, h4⟩ := F
  exact ⟨k, h1.keep K, h2.keep K q1, h3, h4.imp (fun q => ⟨q.1, q.2.1.keep K q1, q.2.2.keep K q2⟩) (fun q => ⟨q.1, q.2.1.keep K q1, q.2.2.keep K q2⟩)⟩
theorem StrV.exa {E : Gl} {h : Heap} {s v : Addr} {cs : List Int32} (F : StrV E h s v cs) : Exa E.Z h s "java/lang/String" := by obtain ⟨k, h1, -⟩ := F; exact h1
theorem StrV.lt {E : Gl} {h : Heap} {s v : Addr} {cs : List Int32} (F : StrV E h s v cs) : s < h.size := F.exa.lt
theorem StrV.ltv {E : Gl} {h : Heap} {s v : Addr} {cs : List Int32} (F : StrV E h s v cs) : v < h.size := by obtain ⟨k, h1, h2, h3, h4⟩ := F; rcases h4 with q | q; exact q.2.2.lt; exact q.2.2.lt
theorem compact {E : Gl} (hw : Tb E) : ∃ z : Int32, Sta E.Z E.Z.heap "java/lang/String" "COMPACT_STRINGS" "Z" (.int z) ∧ ¬ z = 0 := by
  obtain ⟨z, e⟩ := is_v (Cond.before_iff.mp (sd hw 1 rfl))
  exact ⟨z, Sta.start e (Or.inl (sd hw 0 rfl)), gotF (Cond.eq_ints e (Term.int_eval 0)) (not_v (Cond.before_iff.mp (sd hw 2 rfl)))⟩
/-- what a constructor of String leaves -/
def QStr (E : Gl) (cs : List Int32) (s : Addr) (h : Heap) (F : List Addr) (r : Option Value) (h' : Heap) (F' : List Addr) : Prop := r = none ∧ F = F' ∧ Keep h h' [s] ∧ ∃ v : Addr, StrV E h' s v cs ∧ ∀ y ∈ F, y ≠ v
/-- the Latin-1 String at s spells cs; v: its byte[] -/
def StrL (E : Gl) (h : Heap) (s v : Addr) (k : ClassId) (cs : List Int32) : Prop := Exa E.Z h s "java/lang/String" ∧ Fld E.Z h s "java/lang/String" "value" "[B" (.ref v) ∧ Fld E.Z h s "java/lang/String" "coder" "B" (.int 0) ∧ Arv E.Z h v k .byte cs.length.toInt32 (b8 cs) (.int 0)
theorem StrL.ext {E : Gl} {h h' : Heap} {s v : Addr} {k : ClassId} {cs : List Int32} (F : StrL E h s v k cs) (X : Ext h h') : StrL E h' s v k cs := ⟨F.1.ext X, F.2.1.ext X, F.2.2.1.ext X, F.2.2.2.ext X⟩
theorem StrL.keep {E : Gl} {h h' : Heap} {s v : Addr} {k : ClassId} {cs : List Int32} {ws : List Addr} (F : StrL E h s v k cs) (K : Keep h h' ws) (q1 : s ∉ ws) (q2 : v ∉ ws) : StrL E h' s v k cs := ⟨F.1.keep K, F.2.1.keep K q1, F.2.2.1.keep K q1, F.2.2.2.keep K q2⟩
theorem StrV.latin {E : Gl} {h : Heap} {s v : Addr} {cs : List Int32} (F : StrV E h s v cs) (hL : Lat cs) : ∃ k, StrL E h s v k cs := by
  obtain ⟨k, h1, h2, h3, h4⟩ := F
  rcases h4 with q | q
  · exact ⟨k, h1, h2, q.2.1, q.2.2⟩
  · exact absurd hL q.1
/-- the StringBuilder at s holds cs in the byte[16] at v -/
def SbV (E : Gl) (h : Heap) (s v : Addr) (k : ClassId) (cs : List Int32) : Prop := Exa E.Z h s "java/lang/StringBuilder" ∧ Fld E.Z h s "java/lang/AbstractStringBuilder" "value" "[B" (.ref v) ∧ Fld E.Z h s "java/lang/AbstractStringBuilder" "coder" "B" (.int 0) ∧ Fld E.Z h s "java/lang/AbstractStringBuilder" "count" "I" (.int cs.length.toInt32) ∧ Arv E.Z h v k .byte (16 : Int32) (b8 cs ++ List.replicate (16 - cs.length) (Value.int 0)) (.int 0)
theorem ens_ok {m : Nat} (h : m ≤ 16) : ¬ (0 : Int32) < m.toInt32 - ((16 : Int32) >>> ((0 : Int32) &&& 31)) := by
  have q : ∀ m : Fin 17, ¬ (0 : Int32) < m.val.toInt32 - ((16 : Int32) >>> ((0 : Int32) &&& 31)) := by decide
  exact q ⟨m, by omega⟩
theorem us_all {vs : List Value} {d : Value} {n : Nat} (hn : n < 2 ^ 31) (hl : n ≤ vs.length) : vs.take n = (List.range n.toInt32.toNatClampNeg).map fun i => vs.getD ((0 : Int32).toNatClampNeg + i) d := by
  apply List.ext_getElem
  · simp [n_clamp hn]; omega
  · intro i h1 h2
    have h3 : i < vs.length := by simp at h1; omega
    have e0 : (0 : Int32).toNatClampNeg = 0 := by decide
    simp [e0, List.getD_eq_getElem?_getD, List.getElem?_eq_getElem h3]
theorem put_b8 {cs ds : List Int32} (h : cs.length + ds.length ≤ 16) : (b8 cs ++ List.replicate (16 - cs.length) (Value.int 0)).take cs.length.toInt32.toNatClampNeg ++ (b8 ds).take ds.length ++ (b8 cs ++ List.replicate (16 - cs.length) (Value.int 0)).drop (cs.length.toInt32.toNatClampNeg + ds.length.toInt32.toNatClampNeg) = b8 (cs ++ ds) ++ List.replicate (16 - (cs ++ ds).length) (Value.int 0) := by
  have hc : cs.length < 2 ^ 31 := by omega
  have hd : ds.length < 2 ^ 31 := by omega
  rw [n_clamp hc, n_clamp hd, List.take_left' (b8_len cs), List.take_of_length_le (by rw [b8_len]; exact Nat.le_refl _), List.drop_append, List.drop_of_length_le (by rw [b8_len]; omega), List.drop_replicate, b8_len]
  simp only [b8, List.map_append, List.nil_append, List.append_assoc, List.length_append]
  congr 3
  omega
theorem get_b8 {cs : List Int32} (h : cs.length ≤ 16) : (List.replicate cs.length (Value.int 0)).take (0 : Int32).toNatClampNeg ++ (b8 cs ++ List.replicate (16 - cs.length) (Value.int 0)).take cs.length ++ (List.replicate cs.length (Value.int 0)).drop ((0 : Int32).toNatClampNeg + cs.length.toInt32.toNatClampNeg) = b8 cs := by
  have hc : cs.length < 2 ^ 31 := by omega
  have e0 : (0 : Int32).toNatClampNeg = 0 := by decide
  rw [n_clamp hc, List.take_left' (b8_len cs), e0, List.drop_of_length_le (by simp)]
  simp
def csC : List Int32 := [99, 111, 110, 116, 114, 97, 99, 116]
def csF : List Int32 := [102, 114, 97, 109, 101, 100]
def shp : Jvm.Lambda.Shape := (Jvm.Lambda.Shape.mk "java/util/function/Function" "apply" (Jvm.ClassFile.MethodDescriptor.mk ([(Jvm.ClassFile.FieldType.object "java/lang/Object")] : List Jvm.ClassFile.FieldType) (Option.some (Jvm.ClassFile.FieldType.object "java/lang/Object"))) ([] : List Jvm.ClassFile.FieldType) (5 : Nat) "com/example/shapegen/shapegen/ConversionMode" "modeName" (Jvm.ClassFile.MethodDescriptor.mk ([] : List Jvm.ClassFile.FieldType) (Option.some (Jvm.ClassFile.FieldType.object "java/lang/String"))) false (Jvm.ClassFile.MethodDescriptor.mk ([(Jvm.ClassFile.FieldType.object "com/example/shapegen/shapegen/ConversionMode")] : List Jvm.ClassFile.FieldType) (Option.some (Jvm.ClassFile.FieldType.object "java/lang/String"))))
theorem pd___CI_BII_I688 : parseMethodDescriptor "([CI[BII)I" = some ⟨[(.array .char), .int, (.array .byte), .int, .int], (some .int)⟩ := by decide +kernel
theorem pd___CII__B542 : parseMethodDescriptor "([CII)[B" = some ⟨[(.array .char), .int, .int], (some (.array .byte))⟩ := by decide +kernel
theorem pd___BI_B377 : parseMethodDescriptor "([BI)B" = some ⟨[(.array .byte), .int], (some .byte)⟩ := by decide +kernel
theorem pd___CIILjava_lang_Void__V941 : parseMethodDescriptor "([CIILjava/lang/Void;)V" = some ⟨[(.array .char), .int, .int, (.object "java/lang/Void")], none⟩ := by decide +kernel
theorem pd___B_B_Z485 : parseMethodDescriptor "([B[B)Z" = some ⟨[(.array .byte), (.array .byte)], (some .boolean)⟩ := by decide +kernel
theorem pd__Ljava_lang_Object__Ljava_lang_Object_418 : parseMethodDescriptor "(Ljava/lang/Object;)Ljava/lang/Object;" = some ⟨[(.object "java/lang/Object")], (some (.object "java/lang/Object"))⟩ := by decide +kernel
theorem pd___Ljava_lang_String_780 : parseMethodDescriptor "()Ljava/lang/String;" = some ⟨[], (some (.object "java/lang/String"))⟩ := by decide +kernel
theorem pd__Ljava_lang_Object__Z838 : parseMethodDescriptor "(Ljava/lang/Object;)Z" = some ⟨[(.object "java/lang/Object")], (some .boolean)⟩ := by decide +kernel
theorem pd____Lcom_example_shapegen_shapegen_ConversionMode_711 : parseMethodDescriptor "()[Lcom/example/shapegen/shapegen/ConversionMode;" = some ⟨[], (some (.array (.object "com/example/shapegen/shapegen/ConversionMode")))⟩ := by decide +kernel
theorem pd___Ljava_lang_Object_Ljava_util_function_Function_Ljava_lang_String_Ljava_lang_String__Ljava_lang_Object_767 : parseMethodDescriptor "([Ljava/lang/Object;Ljava/util/function/Function;Ljava/lang/String;Ljava/lang/String;)Ljava/lang/Object;" = some ⟨[(.array (.object "java/lang/Object")), (.object "java/util/function/Function"), (.object "java/lang/String"), (.object "java/lang/String")], (some (.object "java/lang/Object"))⟩ := by decide +kernel
theorem pd___C_V325 : parseMethodDescriptor "([C)V" = some ⟨[(.array .char)], none⟩ := by decide +kernel
theorem pd__Ljava_lang_String__Lcom_example_shapegen_shapegen_ConversionMode_322 : parseMethodDescriptor "(Ljava/lang/String;)Lcom/example/shapegen/shapegen/ConversionMode;" = some ⟨[(.object "java/lang/String")], (some (.object "com/example/shapegen/shapegen/ConversionMode"))⟩ := by decide +kernel
theorem d_cod_0 : Own.D jdk_52_method_15_code 0 (.iload_n 1) 1 1 := ⟨by decide +kernel, rfl⟩
theorem d_cod_1 : Own.D jdk_52_method_15_code 1 (.aload_n 0) 1 2 := ⟨by decide +kernel, rfl⟩
theorem d_cod_2 : Own.D jdk_52_method_15_code 2 .arraylength 1 3 := ⟨by decide +kernel, rfl⟩
theorem d_cod_3 : Own.D jdk_52_method_15_code 3 .isub 1 4 := ⟨by decide +kernel, rfl⟩
theorem d_cod_4 : Own.D jdk_52_method_15_code 4 (.bipush 31) 2 6 := ⟨by decide +kernel, rfl⟩
theorem d_cod_6 : Own.D jdk_52_method_15_code 6 .iushr 1 7 := ⟨by decide +kernel, rfl⟩
theorem d_cod_7 : Own.D jdk_52_method_15_code 7 .i2b 1 8 := ⟨by decide +kernel, rfl⟩
theorem d_cod_8 : Own.D jdk_52_method_15_code 8 .ireturn 1 9 := ⟨by decide +kernel, rfl⟩
theorem d_cmp3_0 : Own.D jdk_52_method_16_code 0 (.iload_n 2) 1 1 := ⟨by decide +kernel, rfl⟩
theorem d_cmp3_1 : Own.D jdk_52_method_16_code 1 (.newarray .byte) 2 3 := ⟨by decide +kernel, rfl⟩
theorem d_cmp3_3 : Own.D jdk_52_method_16_code 3 (.astore_n 3) 1 4 := ⟨by decide +kernel, rfl⟩
theorem d_cmp3_4 : Own.D jdk_52_method_16_code 4 (.aload_n 0) 1 5 := ⟨by decide +kernel, rfl⟩
theorem d_cmp3_5 : Own.D jdk_52_method_16_code 5 (.iload_n 1) 1 6 := ⟨by decide +kernel, rfl⟩
theorem d_cmp3_6 : Own.D jdk_52_method_16_code 6 (.aload_n 3) 1 7 := ⟨by decide +kernel, rfl⟩
theorem d_cmp3_7 : Own.D jdk_52_method_16_code 7 (.iconst 0) 1 8 := ⟨by decide +kernel, rfl⟩
theorem d_cmp3_8 : Own.D jdk_52_method_16_code 8 (.iload_n 2) 1 9 := ⟨by decide +kernel, rfl⟩
theorem d_cmp3_9 : Own.D jdk_52_method_16_code 9 (.invokestatic 115) 3 12 := ⟨by decide +kernel, rfl⟩
theorem d_cmp3_12 : Own.D jdk_52_method_16_code 12 (.istore 4) 2 14 := ⟨by decide +kernel, rfl⟩
theorem d_cmp3_14 : Own.D jdk_52_method_16_code 14 (.iload 4) 2 16 := ⟨by decide +kernel, rfl⟩
theorem d_cmp3_16 : Own.D jdk_52_method_16_code 16 (.iload_n 2) 1 17 := ⟨by decide +kernel, rfl⟩
theorem d_cmp3_17 : Own.J jdk_52_method_16_code 17 (.if_icmp .eq 40) 3 20 40 57 := ⟨by decide +kernel, rfl, by decide, by decide⟩
theorem d_cmp3_57 : Own.D jdk_52_method_16_code 57 (.aload_n 3) 1 58 := ⟨by decide +kernel, rfl⟩
theorem d_cmp3_58 : Own.D jdk_52_method_16_code 58 .areturn 1 59 := ⟨by decide +kernel, rfl⟩
theorem d_ini4_0 : Own.D jdk_42_method_149_code 0 (.aload_n 0) 1 1 := ⟨by decide +kernel, rfl⟩
theorem d_ini4_1 : Own.D jdk_42_method_149_code 1 (.invokespecial 1) 3 4 := ⟨by decide +kernel, rfl⟩
theorem d_ini4_4 : Own.D jdk_42_method_149_code 4 (.iload_n 3) 1 5 := ⟨by decide +kernel, rfl⟩
theorem d_ini4_5 : Own.J jdk_42_method_149_code 5 (.ifCond .ne 22) 3 8 22 27 := ⟨by decide +kernel, rfl, by decide, by decide⟩
theorem d_ini4_27 : Own.D jdk_42_method_149_code 27 (.getstatic 38) 3 30 := ⟨by decide +kernel, rfl⟩
theorem d_ini4_30 : Own.J jdk_42_method_149_code 30 (.ifCond .eq 28) 3 33 28 58 := ⟨by decide +kernel, rfl, by decide, by decide⟩
theorem d_ini4_33 : Own.D jdk_42_method_149_code 33 (.aload_n 1) 1 34 := ⟨by decide +kernel, rfl⟩
theorem d_ini4_34 : Own.D jdk_42_method_149_code 34 (.iload_n 2) 1 35 := ⟨by decide +kernel, rfl⟩
theorem d_ini4_35 : Own.D jdk_42_method_149_code 35 (.iload_n 3) 1 36 := ⟨by decide +kernel, rfl⟩
theorem d_ini4_36 : Own.D jdk_42_method_149_code 36 (.invokestatic 177) 3 39 := ⟨by decide +kernel, rfl⟩
theorem d_ini4_39 : Own.D jdk_42_method_149_code 39 (.astore 5) 2 41 := ⟨by decide +kernel, rfl⟩
theorem d_ini4_41 : Own.D jdk_42_method_149_code 41 (.aload_n 0) 1 42 := ⟨by decide +kernel, rfl⟩
theorem d_ini4_42 : Own.D jdk_42_method_149_code 42 (.aload 5) 2 44 := ⟨by decide +kernel, rfl⟩
theorem d_ini4_44 : Own.D jdk_42_method_149_code 44 (.iload_n 3) 1 45 := ⟨by decide +kernel, rfl⟩
theorem d_ini4_45 : Own.D jdk_42_method_149_code 45 (.invokestatic 47) 3 48 := ⟨by decide +kernel, rfl⟩
theorem d_ini4_48 : Own.D jdk_42_method_149_code 48 (.putfield 15) 3 51 := ⟨by decide +kernel, rfl⟩
theorem d_ini4_51 : Own.D jdk_42_method_149_code 51 (.aload_n 0) 1 52 := ⟨by decide +kernel, rfl⟩
theorem d_ini4_52 : Own.D jdk_42_method_149_code 52 (.aload 5) 2 54 := ⟨by decide +kernel, rfl⟩
theorem d_ini4_54 : Own.D jdk_42_method_149_code 54 (.putfield 9) 3 57 := ⟨by decide +kernel, rfl⟩
theorem d_ini4_57 : Own.D jdk_42_method_149_code 57 .return_ 1 58 := ⟨by decide +kernel, rfl⟩
theorem d_ini1_0 : Own.D jdk_42_method_3_code 0 (.aload_n 0) 1 1 := ⟨by decide +kernel, rfl⟩
theorem d_ini1_1 : Own.D jdk_42_method_3_code 1 (.aload_n 1) 1 2 := ⟨by decide +kernel, rfl⟩
theorem d_ini1_2 : Own.D jdk_42_method_3_code 2 (.iconst 0) 1 3 := ⟨by decide +kernel, rfl⟩
theorem d_ini1_3 : Own.D jdk_42_method_3_code 3 (.aload_n 1) 1 4 := ⟨by decide +kernel, rfl⟩
theorem d_ini1_4 : Own.D jdk_42_method_3_code 4 .arraylength 1 5 := ⟨by decide +kernel, rfl⟩
theorem d_ini1_5 : Own.D jdk_42_method_3_code 5 .aconst_null 1 6 := ⟨by decide +kernel, rfl⟩
theorem d_ini1_6 : Own.D jdk_42_method_3_code 6 (.invokespecial 27) 3 9 := ⟨by decide +kernel, rfl⟩
theorem d_ini1_9 : Own.D jdk_42_method_3_code 9 .return_ 1 10 := ⟨by decide +kernel, rfl⟩
theorem d_leq_9 : Own.D jdk_43_method_13_code 9 (.iload_n 2) 1 10 := ⟨by decide +kernel, rfl⟩
theorem d_leq_10 : Own.D jdk_43_method_13_code 10 (.aload_n 0) 1 11 := ⟨by decide +kernel, rfl⟩
theorem d_leq_11 : Own.D jdk_43_method_13_code 11 .arraylength 1 12 := ⟨by decide +kernel, rfl⟩
theorem d_leq_12 : Own.J jdk_43_method_13_code 12 (.if_icmp .ge 20) 3 15 20 32 := ⟨by decide +kernel, rfl, by decide, by decide⟩
theorem d_leq_32 : Own.D jdk_43_method_13_code 32 (.iconst 1) 1 33 := ⟨by decide +kernel, rfl⟩
theorem d_leq_33 : Own.D jdk_43_method_13_code 33 .ireturn 1 34 := ⟨by decide +kernel, rfl⟩
theorem d_leq_15 : Own.D jdk_43_method_13_code 15 (.aload_n 0) 1 16 := ⟨by decide +kernel, rfl⟩
theorem d_leq_16 : Own.D jdk_43_method_13_code 16 (.iload_n 2) 1 17 := ⟨by decide +kernel, rfl⟩
theorem d_leq_17 : Own.D jdk_43_method_13_code 17 .baload 1 18 := ⟨by decide +kernel, rfl⟩
theorem d_leq_18 : Own.D jdk_43_method_13_code 18 (.aload_n 1) 1 19 := ⟨by decide +kernel, rfl⟩
theorem d_leq_19 : Own.D jdk_43_method_13_code 19 (.iload_n 2) 1 20 := ⟨by decide +kernel, rfl⟩
theorem d_leq_20 : Own.D jdk_43_method_13_code 20 .baload 1 21 := ⟨by decide +kernel, rfl⟩
theorem d_leq_21 : Own.J jdk_43_method_13_code 21 (.if_icmp .eq 5) 3 24 5 26 := ⟨by decide +kernel, rfl, by decide, by decide⟩
theorem d_leq_26 : Own.D jdk_43_method_13_code 26 (.iinc 2 1) 3 29 := ⟨by decide +kernel, rfl⟩
theorem d_leq_29 : Own.J jdk_43_method_13_code 29 (.goto (-20)) 3 32 (-20) 9 := ⟨by decide +kernel, rfl, by decide, by decide⟩
theorem d_leq_0 : Own.D jdk_43_method_13_code 0 (.aload_n 0) 1 1 := ⟨by decide +kernel, rfl⟩
theorem d_leq_1 : Own.D jdk_43_method_13_code 1 .arraylength 1 2 := ⟨by decide +kernel, rfl⟩
theorem d_leq_2 : Own.D jdk_43_method_13_code 2 (.aload_n 1) 1 3 := ⟨by decide +kernel, rfl⟩
theorem d_leq_3 : Own.D jdk_43_method_13_code 3 .arraylength 1 4 := ⟨by decide +kernel, rfl⟩
theorem d_leq_4 : Own.J jdk_43_method_13_code 4 (.if_icmp .ne 30) 3 7 30 34 := ⟨by decide +kernel, rfl, by decide, by decide⟩
theorem d_leq_7 : Own.D jdk_43_method_13_code 7 (.iconst 0) 1 8 := ⟨by decide +kernel, rfl⟩
theorem d_leq_8 : Own.D jdk_43_method_13_code 8 (.istore_n 2) 1 9 := ⟨by decide +kernel, rfl⟩
theorem d_seq_0 : Own.D jdk_42_method_66_code 0 (.aload_n 0) 1 1 := ⟨by decide +kernel, rfl⟩
theorem d_seq_1 : Own.D jdk_42_method_66_code 1 (.aload_n 1) 1 2 := ⟨by decide +kernel, rfl⟩
theorem d_seq_2 : Own.J jdk_42_method_66_code 2 (.if_acmp .ne 5) 3 5 5 7 := ⟨by decide +kernel, rfl, by decide, by decide⟩
theorem d_seq_7 : Own.D jdk_42_method_66_code 7 (.aload_n 1) 1 8 := ⟨by decide +kernel, rfl⟩
theorem d_seq_8 : Own.D jdk_42_method_66_code 8 (.instanceof 10) 3 11 := ⟨by decide +kernel, rfl⟩
theorem d_seq_11 : Own.J jdk_42_method_66_code 11 (.ifCond .eq 43) 3 14 43 54 := ⟨by decide +kernel, rfl, by decide, by decide⟩
theorem d_seq_14 : Own.D jdk_42_method_66_code 14 (.aload_n 1) 1 15 := ⟨by decide +kernel, rfl⟩
theorem d_seq_15 : Own.D jdk_42_method_66_code 15 (.checkcast 10) 3 18 := ⟨by decide +kernel, rfl⟩
theorem d_seq_18 : Own.D jdk_42_method_66_code 18 (.astore_n 2) 1 19 := ⟨by decide +kernel, rfl⟩
theorem d_seq_19 : Own.D jdk_42_method_66_code 19 (.getstatic 38) 3 22 := ⟨by decide +kernel, rfl⟩
theorem d_seq_22 : Own.J jdk_42_method_66_code 22 (.ifCond .eq 14) 3 25 14 36 := ⟨by decide +kernel, rfl, by decide, by decide⟩
theorem d_seq_25 : Own.D jdk_42_method_66_code 25 (.aload_n 0) 1 26 := ⟨by decide +kernel, rfl⟩
theorem d_seq_26 : Own.D jdk_42_method_66_code 26 (.getfield 15) 3 29 := ⟨by decide +kernel, rfl⟩
theorem d_seq_29 : Own.D jdk_42_method_66_code 29 (.aload_n 2) 1 30 := ⟨by decide +kernel, rfl⟩
theorem d_seq_30 : Own.D jdk_42_method_66_code 30 (.getfield 15) 3 33 := ⟨by decide +kernel, rfl⟩
theorem d_seq_33 : Own.J jdk_42_method_66_code 33 (.if_icmp .ne 21) 3 36 21 54 := ⟨by decide +kernel, rfl, by decide, by decide⟩
theorem d_seq_36 : Own.D jdk_42_method_66_code 36 (.aload_n 0) 1 37 := ⟨by decide +kernel, rfl⟩
theorem d_seq_37 : Own.D jdk_42_method_66_code 37 (.getfield 9) 3 40 := ⟨by decide +kernel, rfl⟩
theorem d_seq_40 : Own.D jdk_42_method_66_code 40 (.aload_n 2) 1 41 := ⟨by decide +kernel, rfl⟩
theorem d_seq_41 : Own.D jdk_42_method_66_code 41 (.getfield 9) 3 44 := ⟨by decide +kernel, rfl⟩
theorem d_seq_44 : Own.D jdk_42_method_66_code 44 (.invokestatic 541) 3 47 := ⟨by decide +kernel, rfl⟩
theorem d_seq_47 : Own.J jdk_42_method_66_code 47 (.ifCond .eq 7) 3 50 7 54 := ⟨by decide +kernel, rfl, by decide, by decide⟩
theorem d_seq_50 : Own.D jdk_42_method_66_code 50 (.iconst 1) 1 51 := ⟨by decide +kernel, rfl⟩
theorem d_seq_51 : Own.J jdk_42_method_66_code 51 (.goto 4) 3 54 4 55 := ⟨by decide +kernel, rfl, by decide, by decide⟩
theorem d_seq_55 : Own.D jdk_42_method_66_code 55 .ireturn 1 56 := ⟨by decide +kernel, rfl⟩
theorem d_leq_34 : Own.D jdk_43_method_13_code 34 (.iconst 0) 1 35 := ⟨by decide +kernel, rfl⟩
theorem d_leq_35 : Own.D jdk_43_method_13_code 35 .ireturn 1 36 := ⟨by decide +kernel, rfl⟩
theorem d_seq_54 : Own.D jdk_42_method_66_code 54 (.iconst 0) 1 55 := ⟨by decide +kernel, rfl⟩
theorem d_mdn_0 : Own.D prog_1_method_4_code 0 (.aload_n 0) 1 1 := ⟨by decide +kernel, rfl⟩
theorem d_mdn_1 : Own.D prog_1_method_4_code 1 (.getfield 29) 3 4 := ⟨by decide +kernel, rfl⟩
theorem d_mdn_4 : Own.D prog_1_method_4_code 4 .areturn 1 5 := ⟨by decide +kernel, rfl⟩
theorem d_val_0 : Own.D prog_1_method_1_code 0 (.getstatic 10) 3 3 := ⟨by decide +kernel, rfl⟩
theorem d_val_3 : Own.D prog_1_method_1_code 3 (.invokevirtual 14) 3 6 := ⟨by decide +kernel, rfl⟩
theorem d_val_6 : Own.D prog_1_method_1_code 6 (.checkcast 15) 3 9 := ⟨by decide +kernel, rfl⟩
theorem d_val_9 : Own.D prog_1_method_1_code 9 .areturn 1 10 := ⟨by decide +kernel, rfl⟩
theorem d_byn_0 : Own.D prog_9_method_2_code 0 (.aload_n 0) 1 1 := ⟨by decide +kernel, rfl⟩
theorem d_byn_1 : Own.D prog_9_method_2_code 1 (.astore 4) 2 3 := ⟨by decide +kernel, rfl⟩
theorem d_byn_3 : Own.D prog_9_method_2_code 3 (.aload 4) 2 5 := ⟨by decide +kernel, rfl⟩
theorem d_byn_5 : Own.D prog_9_method_2_code 5 .arraylength 1 6 := ⟨by decide +kernel, rfl⟩
theorem d_byn_6 : Own.D prog_9_method_2_code 6 (.istore 5) 2 8 := ⟨by decide +kernel, rfl⟩
theorem d_byn_8 : Own.D prog_9_method_2_code 8 (.iconst 0) 1 9 := ⟨by decide +kernel, rfl⟩
theorem d_byn_9 : Own.D prog_9_method_2_code 9 (.istore 6) 2 11 := ⟨by decide +kernel, rfl⟩
theorem d_byn_11 : Own.D prog_9_method_2_code 11 (.iload 6) 2 13 := ⟨by decide +kernel, rfl⟩
theorem d_byn_13 : Own.D prog_9_method_2_code 13 (.iload 5) 2 15 := ⟨by decide +kernel, rfl⟩
theorem d_byn_15 : Own.J prog_9_method_2_code 15 (.if_icmp .ge 37) 3 18 37 52 := ⟨by decide +kernel, rfl, by decide, by decide⟩
theorem d_byn_18 : Own.D prog_9_method_2_code 18 (.aload 4) 2 20 := ⟨by decide +kernel, rfl⟩
theorem d_byn_20 : Own.D prog_9_method_2_code 20 (.iload 6) 2 22 := ⟨by decide +kernel, rfl⟩
theorem d_byn_22 : Own.D prog_9_method_2_code 22 .aaload 1 23 := ⟨by decide +kernel, rfl⟩
theorem d_byn_23 : Own.D prog_9_method_2_code 23 (.astore 7) 2 25 := ⟨by decide +kernel, rfl⟩
theorem d_byn_25 : Own.D prog_9_method_2_code 25 (.aload_n 1) 1 26 := ⟨by decide +kernel, rfl⟩
theorem d_byn_26 : Own.D prog_9_method_2_code 26 (.aload 7) 2 28 := ⟨by decide +kernel, rfl⟩
theorem d_byn_28 : Own.D prog_9_method_2_code 28 (.invokeinterface 7 2) 5 33 := ⟨by decide +kernel, rfl⟩
theorem d_byn_33 : Own.D prog_9_method_2_code 33 (.checkcast 13) 3 36 := ⟨by decide +kernel, rfl⟩
theorem d_byn_36 : Own.D prog_9_method_2_code 36 (.aload_n 2) 1 37 := ⟨by decide +kernel, rfl⟩
theorem d_byn_37 : Own.D prog_9_method_2_code 37 (.invokevirtual 15) 3 40 := ⟨by decide +kernel, rfl⟩
theorem d_byn_40 : Own.J prog_9_method_2_code 40 (.ifCond .eq 6) 3 43 6 46 := ⟨by decide +kernel, rfl, by decide, by decide⟩
theorem d_byn_43 : Own.D prog_9_method_2_code 43 (.aload 7) 2 45 := ⟨by decide +kernel, rfl⟩
theorem d_byn_45 : Own.D prog_9_method_2_code 45 .areturn 1 46 := ⟨by decide +kernel, rfl⟩
theorem d_byn_46 : Own.D prog_9_method_2_code 46 (.iinc 6 1) 3 49 := ⟨by decide +kernel, rfl⟩
theorem d_byn_49 : Own.J prog_9_method_2_code 49 (.goto (-38)) 3 52 (-38) 11 := ⟨by decide +kernel, rfl, by decide, by decide⟩
theorem d_frn_0 : Own.D prog_1_method_5_code 0 (.invokestatic 33) 3 3 := ⟨by decide +kernel, rfl⟩
theorem d_frn_3 : Own.D prog_1_method_5_code 3 (.invokedynamic 37) 5 8 := ⟨by decide +kernel, rfl⟩
theorem d_frn_8 : Own.D prog_1_method_5_code 8 (.aload_n 0) 1 9 := ⟨by decide +kernel, rfl⟩
theorem d_frn_9 : Own.D prog_1_method_5_code 9 (.ldc 41) 2 11 := ⟨by decide +kernel, rfl⟩
theorem d_frn_11 : Own.D prog_1_method_5_code 11 (.invokestatic 43) 3 14 := ⟨by decide +kernel, rfl⟩
theorem d_frn_14 : Own.D prog_1_method_5_code 14 (.checkcast 1) 3 17 := ⟨by decide +kernel, rfl⟩
theorem d_frn_17 : Own.D prog_1_method_5_code 17 .areturn 1 18 := ⟨by decide +kernel, rfl⟩
theorem d_law_12 : Own.D code 12 (.iload_n 1) 1 13 := ⟨by decide +kernel, rfl⟩
theorem d_law_13 : Own.J code 13 (.ifCond .eq 41) 3 16 41 54 := ⟨by decide +kernel, rfl, by decide, by decide⟩
theorem d_law_54 : Own.D code 54 (.bipush 8) 2 56 := ⟨by decide +kernel, rfl⟩
theorem d_law_56 : Own.D code 56 (.newarray .char) 2 58 := ⟨by decide +kernel, rfl⟩
theorem d_law_58 : Own.D code 58 .dup 1 59 := ⟨by decide +kernel, rfl⟩
theorem d_law_59 : Own.D code 59 (.iconst 0) 1 60 := ⟨by decide +kernel, rfl⟩
theorem d_law_60 : Own.D code 60 (.bipush 99) 2 62 := ⟨by decide +kernel, rfl⟩
theorem d_law_62 : Own.D code 62 .castore 1 63 := ⟨by decide +kernel, rfl⟩
theorem d_law_63 : Own.D code 63 .dup 1 64 := ⟨by decide +kernel, rfl⟩
theorem d_law_64 : Own.D code 64 (.iconst 1) 1 65 := ⟨by decide +kernel, rfl⟩
theorem d_law_65 : Own.D code 65 (.bipush 111) 2 67 := ⟨by decide +kernel, rfl⟩
theorem d_law_67 : Own.D code 67 .castore 1 68 := ⟨by decide +kernel, rfl⟩
theorem d_law_68 : Own.D code 68 .dup 1 69 := ⟨by decide +kernel, rfl⟩
theorem d_law_69 : Own.D code 69 (.iconst 2) 1 70 := ⟨by decide +kernel, rfl⟩
theorem d_law_70 : Own.D code 70 (.bipush 110) 2 72 := ⟨by decide +kernel, rfl⟩
theorem d_law_72 : Own.D code 72 .castore 1 73 := ⟨by decide +kernel, rfl⟩
theorem d_law_73 : Own.D code 73 .dup 1 74 := ⟨by decide +kernel, rfl⟩
theorem d_law_74 : Own.D code 74 (.iconst 3) 1 75 := ⟨by decide +kernel, rfl⟩
theorem d_law_75 : Own.D code 75 (.bipush 116) 2 77 := ⟨by decide +kernel, rfl⟩
theorem d_law_77 : Own.D code 77 .castore 1 78 := ⟨by decide +kernel, rfl⟩
theorem d_law_78 : Own.D code 78 .dup 1 79 := ⟨by decide +kernel, rfl⟩
theorem d_law_79 : Own.D code 79 (.iconst 4) 1 80 := ⟨by decide +kernel, rfl⟩
theorem d_law_80 : Own.D code 80 (.bipush 114) 2 82 := ⟨by decide +kernel, rfl⟩
theorem d_law_82 : Own.D code 82 .castore 1 83 := ⟨by decide +kernel, rfl⟩
theorem d_law_83 : Own.D code 83 .dup 1 84 := ⟨by decide +kernel, rfl⟩
theorem d_law_84 : Own.D code 84 (.iconst 5) 1 85 := ⟨by decide +kernel, rfl⟩
theorem d_law_85 : Own.D code 85 (.bipush 97) 2 87 := ⟨by decide +kernel, rfl⟩
theorem d_law_87 : Own.D code 87 .castore 1 88 := ⟨by decide +kernel, rfl⟩
theorem d_law_88 : Own.D code 88 .dup 1 89 := ⟨by decide +kernel, rfl⟩
theorem d_law_89 : Own.D code 89 (.bipush 6) 2 91 := ⟨by decide +kernel, rfl⟩
theorem d_law_91 : Own.D code 91 (.bipush 99) 2 93 := ⟨by decide +kernel, rfl⟩
theorem d_law_93 : Own.D code 93 .castore 1 94 := ⟨by decide +kernel, rfl⟩
theorem d_law_94 : Own.D code 94 .dup 1 95 := ⟨by decide +kernel, rfl⟩
theorem d_law_95 : Own.D code 95 (.bipush 7) 2 97 := ⟨by decide +kernel, rfl⟩
theorem d_law_97 : Own.D code 97 (.bipush 116) 2 99 := ⟨by decide +kernel, rfl⟩
theorem d_law_99 : Own.D code 99 .castore 1 100 := ⟨by decide +kernel, rfl⟩
theorem d_law_100 : Own.D code 100 (.astore_n 2) 1 101 := ⟨by decide +kernel, rfl⟩
theorem d_law_101 : Own.D code 101 (.new 7) 3 104 := ⟨by decide +kernel, rfl⟩
theorem d_law_104 : Own.D code 104 .dup 1 105 := ⟨by decide +kernel, rfl⟩
theorem d_law_105 : Own.D code 105 (.aload_n 2) 1 106 := ⟨by decide +kernel, rfl⟩
theorem d_law_106 : Own.D code 106 (.invokespecial 9) 3 109 := ⟨by decide +kernel, rfl⟩
theorem d_law_109 : Own.D code 109 (.astore_n 3) 1 110 := ⟨by decide +kernel, rfl⟩
theorem d_law_110 : Own.D code 110 (.iload_n 1) 1 111 := ⟨by decide +kernel, rfl⟩
theorem d_law_111 : Own.J code 111 (.ifCond .eq 11) 3 114 11 122 := ⟨by decide +kernel, rfl, by decide, by decide⟩
theorem d_law_122 : Own.D code 122 (.getstatic 18) 3 125 := ⟨by decide +kernel, rfl⟩
theorem d_law_125 : Own.D code 125 (.astore 4) 2 127 := ⟨by decide +kernel, rfl⟩
theorem d_law_127 : Own.D code 127 (.aload_n 3) 1 128 := ⟨by decide +kernel, rfl⟩
theorem d_law_128 : Own.D code 128 (.invokestatic 21) 3 131 := ⟨by decide +kernel, rfl⟩
theorem d_law_131 : Own.D code 131 (.astore 5) 2 133 := ⟨by decide +kernel, rfl⟩
theorem d_law_133 : Own.D code 133 (.aload 5) 2 135 := ⟨by decide +kernel, rfl⟩
theorem d_law_135 : Own.D code 135 (.aload 4) 2 137 := ⟨by decide +kernel, rfl⟩
theorem d_law_137 : Own.J code 137 (.if_acmp .ne 19) 3 140 19 156 := ⟨by decide +kernel, rfl, by decide, by decide⟩
theorem d_law_140 : Own.D code 140 (.aload 5) 2 142 := ⟨by decide +kernel, rfl⟩
theorem d_law_142 : Own.D code 142 (.invokevirtual 25) 3 145 := ⟨by decide +kernel, rfl⟩
theorem d_law_145 : Own.D code 145 (.aload_n 3) 1 146 := ⟨by decide +kernel, rfl⟩
theorem d_law_146 : Own.D code 146 (.invokevirtual 29) 3 149 := ⟨by decide +kernel, rfl⟩
theorem d_law_149 : Own.J code 149 (.ifCond .eq 7) 3 152 7 156 := ⟨by decide +kernel, rfl, by decide, by decide⟩
theorem d_law_152 : Own.D code 152 (.iconst 1) 1 153 := ⟨by decide +kernel, rfl⟩
theorem d_law_153 : Own.J code 153 (.goto 4) 3 156 4 157 := ⟨by decide +kernel, rfl, by decide, by decide⟩
theorem d_law_157 : Own.D code 157 .ireturn 1 158 := ⟨by decide +kernel, rfl⟩
theorem d_law_16 : Own.D code 16 (.bipush 6) 2 18 := ⟨by decide +kernel, rfl⟩
theorem d_law_18 : Own.D code 18 (.newarray .char) 2 20 := ⟨by decide +kernel, rfl⟩
theorem d_law_20 : Own.D code 20 .dup 1 21 := ⟨by decide +kernel, rfl⟩
theorem d_law_21 : Own.D code 21 (.iconst 0) 1 22 := ⟨by decide +kernel, rfl⟩
theorem d_law_22 : Own.D code 22 (.bipush 102) 2 24 := ⟨by decide +kernel, rfl⟩
theorem d_law_24 : Own.D code 24 .castore 1 25 := ⟨by decide +kernel, rfl⟩
theorem d_law_25 : Own.D code 25 .dup 1 26 := ⟨by decide +kernel, rfl⟩
theorem d_law_26 : Own.D code 26 (.iconst 1) 1 27 := ⟨by decide +kernel, rfl⟩
theorem d_law_27 : Own.D code 27 (.bipush 114) 2 29 := ⟨by decide +kernel, rfl⟩
theorem d_law_29 : Own.D code 29 .castore 1 30 := ⟨by decide +kernel, rfl⟩
theorem d_law_30 : Own.D code 30 .dup 1 31 := ⟨by decide +kernel, rfl⟩
theorem d_law_31 : Own.D code 31 (.iconst 2) 1 32 := ⟨by decide +kernel, rfl⟩
theorem d_law_32 : Own.D code 32 (.bipush 97) 2 34 := ⟨by decide +kernel, rfl⟩
theorem d_law_34 : Own.D code 34 .castore 1 35 := ⟨by decide +kernel, rfl⟩
theorem d_law_35 : Own.D code 35 .dup 1 36 := ⟨by decide +kernel, rfl⟩
theorem d_law_36 : Own.D code 36 (.iconst 3) 1 37 := ⟨by decide +kernel, rfl⟩
theorem d_law_37 : Own.D code 37 (.bipush 109) 2 39 := ⟨by decide +kernel, rfl⟩
theorem d_law_39 : Own.D code 39 .castore 1 40 := ⟨by decide +kernel, rfl⟩
theorem d_law_40 : Own.D code 40 .dup 1 41 := ⟨by decide +kernel, rfl⟩
theorem d_law_41 : Own.D code 41 (.iconst 4) 1 42 := ⟨by decide +kernel, rfl⟩
theorem d_law_42 : Own.D code 42 (.bipush 101) 2 44 := ⟨by decide +kernel, rfl⟩
theorem d_law_44 : Own.D code 44 .castore 1 45 := ⟨by decide +kernel, rfl⟩
theorem d_law_45 : Own.D code 45 .dup 1 46 := ⟨by decide +kernel, rfl⟩
theorem d_law_46 : Own.D code 46 (.iconst 5) 1 47 := ⟨by decide +kernel, rfl⟩
theorem d_law_47 : Own.D code 47 (.bipush 100) 2 49 := ⟨by decide +kernel, rfl⟩
theorem d_law_49 : Own.D code 49 .castore 1 50 := ⟨by decide +kernel, rfl⟩
theorem d_law_50 : Own.D code 50 (.astore_n 2) 1 51 := ⟨by decide +kernel, rfl⟩
theorem d_law_51 : Own.J code 51 (.goto 50) 3 54 50 101 := ⟨by decide +kernel, rfl, by decide, by decide⟩
theorem d_law_114 : Own.D code 114 (.getstatic 12) 3 117 := ⟨by decide +kernel, rfl⟩
theorem d_law_117 : Own.D code 117 (.astore 4) 2 119 := ⟨by decide +kernel, rfl⟩
theorem d_law_119 : Own.J code 119 (.goto 8) 3 122 8 127 := ⟨by decide +kernel, rfl, by decide, by decide⟩
theorem d_law_0 : Own.D code 0 (.iload_n 0) 1 1 := ⟨by decide +kernel, rfl⟩
theorem d_law_1 : Own.D code 1 (.iconst 1) 1 2 := ⟨by decide +kernel, rfl⟩
theorem d_law_2 : Own.D code 2 .iand 1 3 := ⟨by decide +kernel, rfl⟩
theorem d_law_3 : Own.J code 3 (.ifCond .eq 7) 3 6 7 10 := ⟨by decide +kernel, rfl, by decide, by decide⟩
theorem d_law_10 : Own.D code 10 (.iconst 0) 1 11 := ⟨by decide +kernel, rfl⟩
theorem d_law_11 : Own.D code 11 (.istore_n 1) 1 12 := ⟨by decide +kernel, rfl⟩
theorem d_law_6 : Own.D code 6 (.iconst 1) 1 7 := ⟨by decide +kernel, rfl⟩
theorem d_law_7 : Own.J code 7 (.goto 4) 3 10 4 11 := ⟨by decide +kernel, rfl, by decide, by decide⟩
set_option maxRecDepth 65536 in
set_option maxHeartbeats 4000000 in
theorem cod_met {E : Gl} (hw : Tb E) {h : Heap} {F : List Addr} {v : Addr} {k : ClassId} {m z : Int32} {vs : List Value} {dv : Value} (Av : Arv E.Z h v k .byte m vs dv) :
    Met E (⟨"java/lang/StringUTF16", "coderFromArrayLen", "([BI)B"⟩ : MethodName) jdk_52_method_15_code 2 (some .byte) ({ frames := 0, cells := 0, slots := 0, locals := 0 } : Room) #[.ref v, .int z] h F (fun r h' F' => r = some (.int (lo8 (lo8 (XT.ushr (z - m) 31)))) ∧ h = h' ∧ F = F') := by
  refine met_of (by decide +kernel) fun x T hQ B W => ?_
  refine G.cast (g' := fr x 0 #[.val (.ref v), .val (.int z)] []) (by simp [entryFrame, mkF, argsToLocals, Own.cat_r, Own.cat_i, Own.cat_j, Own.cat_n]) ?_
  refine w_iloadN W B d_cod_0 rfl ?_
  refine w_aloadN W B d_cod_1 rfl rfl ?_
  refine w_arraylength W B d_cod_2 Av ?_
  refine w_isub W B d_cod_3 ?_
  refine w_bipush W B d_cod_4 (v := (31 : Int32)) rfl ?_
  refine w_iushr W B d_cod_6 ?_
  refine w_i2b W B d_cod_7 ?_
  exact w_ireturnN W B d_cod_8 (Or.inr (Or.inl rfl)) (u := lo8 (lo8 (XT.ushr (z - m) 31))) rfl hQ (by decide) (by decide) (fun _ q => q) ⟨rfl, rfl, rfl⟩
theorem lat_at {cs : List Int32} (H : Lat cs) {i : Nat} (h : i < cs.length) : (cs.getD i 0).toInt ≤ 255 := by
  have : cs.getD i 0 = cs[i] := by simp [List.getD_eq_getElem?_getD, List.getElem?_eq_getElem h]
  rw [this]; exact H _ (List.getElem_mem h)
theorem vs_b8 {vs : List Value} {cs : List Int32} {n : Nat} (hvl : vs.length = n) (hcs : cs.length = n) (hvs : ∀ j, j < n → vs.getD j (.int 0) = .int (lo8 (cs.getD j 0))) : vs = b8 cs := by
  apply List.ext_getElem (by rw [hvl, b8_len, hcs])
  intro j h1 h2
  have q := hvs j (by omega)
  rw [List.getD_eq_getElem?_getD, List.getElem?_eq_getElem h1] at q
  have q2 := b8_at (cs := cs) (i := j) (by omega) (.int 0)
  rw [List.getD_eq_getElem?_getD, List.getElem?_eq_getElem h2] at q2
  exact (Option.some.inj (by simpa using q) : vs[j] = _).trans (by simpa using q2.symm)
set_option maxRecDepth 65536 in
set_option maxHeartbeats 4000000 in
theorem cmp3_met {E : Gl} (hw : Tb E) {h : Heap} {F : List Addr} {a : Addr} {ka : ClassId} {n : Nat} {cs : List Int32} (hcs : cs.length = n) (hcap : n ≤ 32) (hL : Lat cs) (Aa : Arv E.Z h a ka .char n.toInt32 (ints cs) (.int 0)) :
    Met E (⟨"java/lang/StringUTF16", "compress", "([CII)[B"⟩ : MethodName) jdk_52_method_16_code 6 (some (.array .byte)) ({ frames := 1, cells := 1, slots := 32, locals := 18 } : Room) #[.ref a, .int 0, .int n.toInt32] h F (fun r h' F' => ∃ (b : Addr) (k : ClassId), r = some (.ref b) ∧ F = F' ∧ h.size ≤ b ∧ Keep h h' [] ∧ Arv E.Z h' b k .byte n.toInt32 (b8 cs) (.int 0)) := by
  refine met_of (by decide +kernel) fun x T hQ B W => ?_
  refine G.cast (g' := fr x 0 #[.val (.ref a), .val (.int (0 : Int32)), .val (.int n.toInt32), .unset, .unset, .unset] []) (by simp [entryFrame, mkF, argsToLocals, Own.cat_r, Own.cat_i, Own.cat_j, Own.cat_n]) ?_
  have hn : n < 2 ^ 31 := by omega
  refine w_iloadN W B d_cmp3_0 rfl ?_
  refine w_newarray W B d_cmp3_1 rfl (wd hw 19 rfl) (n_nn hn) (cap := 32) (by rw [n_clamp hn]; exact hcap) (by decide) (by decide) (by decide) ?_
  intro T1 h2 b3 k4 W5 g6 X7 A8
  show G E x T1 (fr x 3 #[.val (.ref a), .val (.int (0 : Int32)), .val (.int n.toInt32), .unset, .unset, .unset] [(.ref b3)])
  refine w_astoreN W5 B d_cmp3_3 rfl (Ls' := #[.val (.ref a), .val (.int (0 : Int32)), .val (.int n.toInt32), .val (.ref b3), .unset, .unset]) rfl ?_
  refine w_aloadN W5 B d_cmp3_4 rfl rfl ?_
  refine w_iloadN W5 B d_cmp3_5 rfl ?_
  refine w_aloadN W5 B d_cmp3_6 rfl rfl ?_
  refine w_iconst W5 B d_cmp3_7 (v := (0 : Int32)) rfl ?_
  refine w_iloadN W5 B d_cmp3_8 rfl ?_
  refine w_static W5 B (y := ⟨"java/lang/StringUTF16", "compress", "([CI[BII)I"⟩) d_cmp3_9 (wd hw 20 rfl) (wd hw 21 rfl) (wd hw 17 rfl) (wd hw 22 rfl) (by decide) pd___CI_BII_I688 (argsL := [(.ref a), (.int (0 : Int32)), (.ref b3), (.int (0 : Int32)), (.int n.toInt32)]) rfl rfl rfl (Wt := 0) (Nat.le_of_eq rfl) (cmp5_met hw hcs hn (Own.ne_new Aa.lt g6) (List.Mem.head _) (Aa.ext X7) (A8.pad (pad_rep [] _ n)) (by simp)) (by decide) (by decide) (by decide) (by decide) ?_
  intro T9 h10 F11 v12 W13 Q14
  obtain ⟨i, vs, rfl, rfl, hin, hst, hlt, K5, A5, hvl, hvs⟩ := Q14
  show G E x T9 (fr x 12 #[.val (.ref a), .val (.int (0 : Int32)), .val (.int n.toInt32), .val (.ref b3), .unset, .unset] [(.int i.toInt32)])
  have hie : i = n := Nat.le_antisymm hin (Nat.not_lt.mp fun q => absurd (hst q) (Int.not_lt.mpr (lat_at hL (by omega))))
  refine w_istore W13 B d_cmp3_12 (Ls' := #[.val (.ref a), .val (.int (0 : Int32)), .val (.int n.toInt32), .val (.ref b3), .val (.int i.toInt32), .unset]) rfl ?_
  refine w_iload W13 B d_cmp3_14 rfl ?_
  refine w_iloadN W13 B d_cmp3_16 rfl ?_
  refine w_icmp_eq W13 B d_cmp3_17 (fun _ => ?_) (fun q => q (congrArg Nat.toInt32 hie) |>.elim)
  show G E x T9 (fr x 57 #[.val (.ref a), .val (.int (0 : Int32)), .val (.int n.toInt32), .val (.ref b3), .val (.int i.toInt32), .unset] [])
  refine w_aloadN W13 B d_cmp3_57 rfl rfl ?_
  have KK15 : Keep h h2 [] := (Keep.refl h []).ext X7
  have KK16 : Keep h h10 [] := KK15.trans K5 (allS (Or.inr (Nat.le_trans (Keep.refl h []).1 (Nat.le_of_eq g6.symm))) all0)
  have ev : vs = b8 cs := vs_b8 hvl hcs (fun j q => hvs j (by omega))
  exact w_areturn W13 B d_cmp3_58 rfl rfl hQ (by decide) (by decide) (fun _ q => (List.Mem.tail _ q)) ⟨b3, _, rfl, rfl, Nat.le_of_eq g6.symm, KK16, ev ▸ A5⟩
set_option maxRecDepth 65536 in
set_option maxHeartbeats 4000000 in
theorem ini4_met {E : Gl} (hw : Tb E) {h : Heap} {F : List Addr} {s a : Addr} {ka : ClassId} {n : Nat} {cs : List Int32} (hcs : cs.length = n) (h1 : 1 ≤ n) (hcap : n ≤ 32) (hC : Ch cs) (hL : Lat cs) (hs : s ∈ F) (Es : Exa E.Z h s "java/lang/String") (fv : Fld E.Z h s "java/lang/String" "value" "[B" .null) (fc : Fld E.Z h s "java/lang/String" "coder" "B" (.int 0)) (Aa : Arv E.Z h a ka .char n.toInt32 (ints cs) (.int 0)) :
    Met E (⟨"java/lang/String", "<init>", "([CIILjava/lang/Void;)V"⟩ : MethodName) jdk_42_method_149_code 6 none ({ frames := 2, cells := 1, slots := 32, locals := 35 } : Room) #[.ref s, .ref a, .int 0, .int n.toInt32, .null] h F (QStr E cs s h F) := by
  refine met_of (by decide +kernel) fun x T hQ B W => ?_
  refine G.cast (g' := fr x 0 #[.val (.ref s), .val (.ref a), .val (.int (0 : Int32)), .val (.int n.toInt32), .val .null, .unset] []) (by simp [entryFrame, mkF, argsToLocals, Own.cat_r, Own.cat_i, Own.cat_j, Own.cat_n]) ?_
  have hn : n < 2 ^ 31 := by omega
  obtain ⟨z, Sc, hz⟩ := compact hw
  refine w_aloadN W B d_ini4_0 rfl rfl ?_
  refine w_initO W B d_ini4_1 (wd hw 11 rfl) (wd hw 12 rfl) (wd hw 13 rfl) rfl (by decide) (Wt := 0) (Nat.le_of_eq rfl) (by decide) ?_
  intro T1 W2
  refine w_iloadN W2 B d_ini4_4 rfl ?_
  refine w_if_ne W2 B d_ini4_5 (fun _ => ?_) (fun q => absurd q (fun q => absurd ((n_eq (i := n) (n := 0) hn (by decide)).mp q) (by omega)))
  show G E x T1 (fr x 27 #[.val (.ref s), .val (.ref a), .val (.int (0 : Int32)), .val (.int n.toInt32), .val .null, .unset] [])
  refine w_getS W2 B d_ini4_27 (wd hw 14 rfl) Via.refl Sc ?_
  intro T3 W4
  refine w_if_eq W4 B d_ini4_30 (fun q => absurd q hz) (fun _ => ?_)
  show G E x T3 (fr x 33 #[.val (.ref s), .val (.ref a), .val (.int (0 : Int32)), .val (.int n.toInt32), .val .null, .unset] [])
  refine w_aloadN W4 B d_ini4_33 rfl rfl ?_
  refine w_iloadN W4 B d_ini4_34 rfl ?_
  refine w_iloadN W4 B d_ini4_35 rfl ?_
  refine w_static W4 B (y := ⟨"java/lang/StringUTF16", "compress", "([CII)[B"⟩) d_ini4_36 (wd hw 15 rfl) (wd hw 16 rfl) (wd hw 17 rfl) (wd hw 18 rfl) (by decide) pd___CII__B542 (argsL := [(.ref a), (.int (0 : Int32)), (.int n.toInt32)]) rfl rfl rfl (Wt := 0) (Nat.le_of_eq rfl) (cmp3_met hw hcs hcap hL Aa) (by decide) (by decide) (by decide) (by decide) ?_
  intro T5 h6 F7 v8 W9 Q10
  obtain ⟨v, kv, rfl, rfl, gv, K3, A3⟩ := Q10
  show G E x T5 (fr x 39 #[.val (.ref s), .val (.ref a), .val (.int (0 : Int32)), .val (.int n.toInt32), .val .null, .unset] [(.ref v)])
  refine w_astore W9 B d_ini4_39 rfl (Ls' := #[.val (.ref s), .val (.ref a), .val (.int (0 : Int32)), .val (.int n.toInt32), .val .null, .val (.ref v)]) rfl ?_
  refine w_aloadN W9 B d_ini4_41 rfl rfl ?_
  refine w_aload W9 B d_ini4_42 rfl rfl ?_
  refine w_iloadN W9 B d_ini4_44 rfl ?_
  refine w_static W9 B (y := ⟨"java/lang/StringUTF16", "coderFromArrayLen", "([BI)B"⟩) d_ini4_45 (wd hw 23 rfl) (wd hw 24 rfl) (wd hw 17 rfl) (wd hw 25 rfl) (by decide) pd___BI_B377 (argsL := [(.ref v), (.int n.toInt32)]) rfl rfl rfl (Wt := 1) (Nat.le_of_eq rfl) (cod_met hw A3) (by decide) (by decide) (by decide) (by decide) ?_
  intro T11 h12 F13 v14 W15 Q16
  obtain ⟨rfl, rfl, rfl⟩ := Q16
  have ez : lo8 (lo8 (XT.ushr (n.toInt32 - n.toInt32) 31)) = 0 := by rw [Int32.sub_self]; decide
  show G E x T11 (fr x 48 #[.val (.ref s), .val (.ref a), .val (.int (0 : Int32)), .val (.int n.toInt32), .val .null, .val (.ref v)] [(.int (lo8 (lo8 (XT.ushr (n.toInt32 - n.toInt32) 31)))), (.ref s)])
  refine w_putF W15 B d_ini4_48 hs (wd hw 26 rfl) Via.refl (fc.keep K3 nin0) (Es.keep K3) (Or.inr ⟨(wd hw 27 rfl), rfl, rfl⟩) (wd hw 2 rfl) (ty := .byte) (v' := (.int (0 : Int32))) (by decide) (by rw [ez]; rfl) rfl ?_
  intro T17 h18 W19 Y20 f21
  refine w_aloadN W19 B d_ini4_51 rfl rfl ?_
  refine w_aload W19 B d_ini4_52 rfl rfl ?_
  refine w_putF W19 B d_ini4_54 hs (wd hw 28 rfl) Via.refl ((fv.keep K3 nin0).other Y20 (Or.inr (slot_ne (Or.inr (wd hw 29 rfl)) (Or.inr (wd hw 27 rfl)) (t := (.array .byte)) (t' := .byte) (by decide) (by decide) (by decide)))) ((Es.keep K3).wr Y20) (Or.inr ⟨(wd hw 29 rfl), rfl, rfl⟩) (wd hw 2 rfl) (ty := (.array .byte)) (v' := (.ref v)) (by decide) rfl rfl ?_
  intro T22 h23 W24 Y25 f26
  have KK27 : Keep h h6 [s] := (Keep.refl h [s]).trans K3 all0
  have KK28 : Keep h h18 [s] := KK27.wr Y20 (Or.inl (List.Mem.head _))
  have KK29 : Keep h h23 [s] := KK28.wr Y25 (Or.inl (List.Mem.head _))
  exact w_return W24 B d_ini4_57 hQ (by decide) (by decide) (fun _ q => q) ⟨rfl, rfl, KK29, v, ⟨kv, (((Es.keep K3).wr Y20).wr Y25), f26, hC, Or.inl ⟨hL, (f21.other Y25 (Or.inr (slot_ne (Or.inr (wd hw 27 rfl)) (Or.inr (wd hw 29 rfl)) (t := .byte) (t' := (.array .byte)) (by decide) (by decide) (by decide)))), hcs ▸ ((A3.other Y20 (Ne.symm (Nat.ne_of_lt (Nat.lt_of_lt_of_le Es.lt gv)))).other Y25 (Ne.symm (Nat.ne_of_lt (Nat.lt_of_lt_of_le Es.lt gv))))⟩⟩, fun y hy => Nat.ne_of_lt (Nat.lt_of_lt_of_le (W.fOk hy).2 gv)⟩
set_option maxRecDepth 65536 in
set_option maxHeartbeats 4000000 in
theorem ini1_met {E : Gl} (hw : Tb E) {h : Heap} {F : List Addr} {s a : Addr} {ka : ClassId} {n : Nat} {cs : List Int32} (hcs : cs.length = n) (h1 : 1 ≤ n) (hcap : n ≤ 32) (hC : Ch cs) (hL : Lat cs) (hs : s ∈ F) (Es : Exa E.Z h s "java/lang/String") (fv : Fld E.Z h s "java/lang/String" "value" "[B" .null) (fc : Fld E.Z h s "java/lang/String" "coder" "B" (.int 0)) (Aa : Arv E.Z h a ka .char n.toInt32 (ints cs) (.int 0)) :
    Met E (⟨"java/lang/String", "<init>", "([C)V"⟩ : MethodName) jdk_42_method_3_code 2 none ({ frames := 3, cells := 1, slots := 32, locals := 52 } : Room) #[.ref s, .ref a] h F (QStr E cs s h F) := by
  refine met_of (by decide +kernel) fun x T hQ B W => ?_
  refine G.cast (g' := fr x 0 #[.val (.ref s), .val (.ref a)] []) (by simp [entryFrame, mkF, argsToLocals, Own.cat_r, Own.cat_i, Own.cat_j, Own.cat_n]) ?_
  refine w_aloadN W B d_ini1_0 rfl rfl ?_
  refine w_aloadN W B d_ini1_1 rfl rfl ?_
  refine w_iconst W B d_ini1_2 (v := (0 : Int32)) rfl ?_
  refine w_aloadN W B d_ini1_3 rfl rfl ?_
  refine w_arraylength W B d_ini1_4 Aa ?_
  refine w_null W B d_ini1_5 ?_
  refine w_special W B (y := ⟨"java/lang/String", "<init>", "([CIILjava/lang/Void;)V"⟩) d_ini1_6 rfl (wd hw 7 rfl) (wd hw 8 rfl) (wd hw 3 rfl) (wd hw 10 rfl) (by decide) pd___CIILjava_lang_Void__V941 (argsL := [(.ref a), (.int (0 : Int32)), (.int n.toInt32), .null]) rfl rfl rfl (Wt := 0) (Nat.le_of_eq rfl) (ini4_met hw hcs h1 hcap hC hL hs Es fv fc Aa) (by decide) (by decide) (by decide) (by decide) ?_
  intro T1 h2 F3 v4 W5 Q6
  obtain ⟨rfl, rfl, K4, v, S4, hv⟩ := Q6
  show G E x T1 (fr x 9 #[.val (.ref s), .val (.ref a)] [])
  exact w_return W5 B d_ini1_9 hQ (by decide) (by decide) (fun _ q => q) ⟨rfl, rfl, K4, v, S4, hv⟩
set_option maxRecDepth 65536 in
set_option maxHeartbeats 4000000 in
theorem leq_turns {E : Gl} (hw : Tb E) {x : Cx} {T : State} {h : Heap} {F : List Addr} {a b : Addr} {ka kb : ClassId} {cs : List Int32} (hQ : x.Q = (fun r h' F' => r = some (.int 1) ∧ h = h' ∧ F = F')) (B : Is x "java/lang/StringLatin1" jdk_43_method_13_code 3 ({ frames := 0, cells := 0, slots := 0, locals := 0 } : Room) (some .boolean) "equals") (hc : cs.length < 2 ^ 31) (Aa : Arv E.Z h a ka .byte cs.length.toInt32 (b8 cs) (.int 0)) (Ab : Arv E.Z h b kb .byte cs.length.toInt32 (b8 cs) (.int 0)) (W : Wk E x T h F 0 0) :
    ∀ (r i : Nat), i + r = cs.length → G E x T (fr x 9 #[.val (.ref a), .val (.ref b), .val (.int i.toInt32)] []) := by
  intro r
  induction r with
  | zero =>
    intro i hir
    have hi31 : i < 2 ^ 31 := by omega
    refine w_iloadN W B d_leq_9 rfl ?_
    refine w_aloadN W B d_leq_10 rfl rfl ?_
    refine w_arraylength W B d_leq_11 Aa ?_
    refine w_icmp_ge W B d_leq_12 (fun _ => ?_) (fun q => absurd q (by rw [n_lt hi31 hc]; omega))
    show G E x T (fr x 32 #[.val (.ref a), .val (.ref b), .val (.int i.toInt32)] [])
    refine w_iconst W B d_leq_32 (v := (1 : Int32)) rfl ?_
    exact w_ireturnN W B d_leq_33 (Or.inl rfl) (u := 1) rfl hQ (by decide) (by decide) (fun _ q => q) ⟨rfl, rfl, rfl⟩
  | succ r ih =>
    intro i hir
    have hi : i < cs.length := by omega
    have hi31 : i < 2 ^ 31 := by omega
    refine w_iloadN W B d_leq_9 rfl ?_
    refine w_aloadN W B d_leq_10 rfl rfl ?_
    refine w_arraylength W B d_leq_11 Aa ?_
    refine w_icmp_ge W B d_leq_12 (fun q => q ((n_lt hi31 hc).mpr hi) |>.elim) (fun _ => ?_)
    show G E x T (fr x 15 #[.val (.ref a), .val (.ref b), .val (.int i.toInt32)] [])
    refine w_aloadN W B d_leq_15 rfl rfl ?_
    refine w_iloadN W B d_leq_16 rfl ?_
    refine w_baload W B d_leq_17 Aa ⟨n_nn hi31, (n_lt hi31 hc).mpr hi⟩ (v := .int (lo8 (cs.getD i 0))) (by rw [n_clamp hi31]; exact b8_at hi _) ?_
    refine w_aloadN W B d_leq_18 rfl rfl ?_
    refine w_iloadN W B d_leq_19 rfl ?_
    refine w_baload W B d_leq_20 Ab ⟨n_nn hi31, (n_lt hi31 hc).mpr hi⟩ (v := .int (lo8 (cs.getD i 0))) (by rw [n_clamp hi31]; exact b8_at hi _) ?_
    refine w_icmp_eq W B d_leq_21 (fun _ => ?_) (fun q => q rfl |>.elim)
    show G E x T (fr x 26 #[.val (.ref a), .val (.ref b), .val (.int i.toInt32)] [])
    refine w_iinc W B d_leq_26 rfl (w := (i + 1).toInt32) (n_succ i) (Ls' := #[.val (.ref a), .val (.ref b), .val (.int (i + 1).toInt32)]) rfl ?_
    refine w_goto W B d_leq_29 ?_
    exact ih (i + 1) (by omega)
set_option maxRecDepth 65536 in
set_option maxHeartbeats 4000000 in
theorem leq_met {E : Gl} (hw : Tb E) {h : Heap} {F : List Addr} {a b : Addr} {ka kb : ClassId} {cs : List Int32} (hc : cs.length < 2 ^ 31) (Aa : Arv E.Z h a ka .byte cs.length.toInt32 (b8 cs) (.int 0)) (Ab : Arv E.Z h b kb .byte cs.length.toInt32 (b8 cs) (.int 0)) :
    Met E (⟨"java/lang/StringLatin1", "equals", "([B[B)Z"⟩ : MethodName) jdk_43_method_13_code 3 (some .boolean) ({ frames := 0, cells := 0, slots := 0, locals := 0 } : Room) #[.ref a, .ref b] h F (fun r h' F' => r = some (.int 1) ∧ h = h' ∧ F = F') := by
  refine met_of (by decide +kernel) fun x T hQ B W => ?_
  refine G.cast (g' := fr x 0 #[.val (.ref a), .val (.ref b), .unset] []) (by simp [entryFrame, mkF, argsToLocals, Own.cat_r, Own.cat_i, Own.cat_j, Own.cat_n]) ?_
  refine w_aloadN W B d_leq_0 rfl rfl ?_
  refine w_arraylength W B d_leq_1 Aa ?_
  refine w_aloadN W B d_leq_2 rfl rfl ?_
  refine w_arraylength W B d_leq_3 Ab ?_
  refine w_icmp_ne W B d_leq_4 (fun q => q rfl |>.elim) (fun _ => ?_)
  show G E x T (fr x 7 #[.val (.ref a), .val (.ref b), .unset] [])
  refine w_iconst W B d_leq_7 (v := (0 : Int32)) rfl ?_
  refine w_istoreN W B d_leq_8 (Ls' := #[.val (.ref a), .val (.ref b), .val (.int (0 : Int32))]) rfl ?_
  exact leq_turns hw hQ B hc Aa Ab W cs.length 0 (Nat.zero_add _)
set_option maxRecDepth 65536 in
set_option maxHeartbeats 4000000 in
theorem seq_met {E : Gl} (hw : Tb E) {h : Heap} {F : List Addr} {a av b bv : Addr} {ka kb : ClassId} {cs : List Int32} (S1 : StrL E h a av ka cs) (S2 : StrL E h b bv kb cs) (hab : a ≠ b) (hc : cs.length < 2 ^ 31) :
    Met E (⟨"java/lang/String", "equals", "(Ljava/lang/Object;)Z"⟩ : MethodName) jdk_42_method_66_code 3 (some .boolean) ({ frames := 1, cells := 0, slots := 0, locals := 14 } : Room) #[.ref a, .ref b] h F (fun r h' F' => r = some (.int 1) ∧ h = h' ∧ F = F') := by
  refine met_of (by decide +kernel) fun x T hQ B W => ?_
  refine G.cast (g' := fr x 0 #[.val (.ref a), .val (.ref b), .unset] []) (by simp [entryFrame, mkF, argsToLocals, Own.cat_r, Own.cat_i, Own.cat_j, Own.cat_n]) ?_
  obtain ⟨z, Sc, hz⟩ := compact hw
  refine w_aloadN W B d_seq_0 rfl rfl ?_
  refine w_aloadN W B d_seq_1 rfl rfl ?_
  refine w_acmp_ne_n W B d_seq_2 rfl rfl (fun q => absurd (Value.ref.inj q) hab) ?_
  show G E x T (fr x 7 #[.val (.ref a), .val (.ref b), .unset] [])
  refine w_aloadN W B d_seq_7 rfl rfl ?_
  refine w_instY W B d_seq_8 (wd hw 77 rfl) (Ins.self S2.1) ?_
  intro T1 W2
  show G E x T1 (fr x 11 #[.val (.ref a), .val (.ref b), .unset] [(.int (1 : Int32))])
  refine w_if_eq W2 B d_seq_11 (fun q => absurd q (by decide)) (fun _ => ?_)
  show G E x T1 (fr x 14 #[.val (.ref a), .val (.ref b), .unset] [])
  refine w_aloadN W2 B d_seq_14 rfl rfl ?_
  refine w_castY W2 B d_seq_15 (wd hw 77 rfl) (Ins.self S2.1) ?_
  intro T3 W4
  refine w_astoreN W4 B d_seq_18 rfl (Ls' := #[.val (.ref a), .val (.ref b), .val (.ref b)]) rfl ?_
  refine w_getS W4 B d_seq_19 (wd hw 14 rfl) Via.refl Sc ?_
  intro T5 W6
  refine w_if_eq W6 B d_seq_22 (fun q => absurd q hz) (fun _ => ?_)
  show G E x T5 (fr x 25 #[.val (.ref a), .val (.ref b), .val (.ref b)] [])
  refine w_aloadN W6 B d_seq_25 rfl rfl ?_
  refine w_getF W6 B d_seq_26 (wd hw 26 rfl) Via.refl S1.2.2.1 ?_
  intro T7 W8
  refine w_aloadN W8 B d_seq_29 rfl rfl ?_
  refine w_getF W8 B d_seq_30 (wd hw 26 rfl) Via.refl S2.2.2.1 ?_
  intro T9 W10
  refine w_icmp_ne W10 B d_seq_33 (fun q => q rfl |>.elim) (fun _ => ?_)
  show G E x T9 (fr x 36 #[.val (.ref a), .val (.ref b), .val (.ref b)] [])
  refine w_aloadN W10 B d_seq_36 rfl rfl ?_
  refine w_getF W10 B d_seq_37 (wd hw 28 rfl) Via.refl S1.2.1 ?_
  intro T11 W12
  refine w_aloadN W12 B d_seq_40 rfl rfl ?_
  refine w_getF W12 B d_seq_41 (wd hw 28 rfl) Via.refl S2.2.1 ?_
  intro T13 W14
  refine w_static W14 B (y := ⟨"java/lang/StringLatin1", "equals", "([B[B)Z"⟩) d_seq_44 (wd hw 78 rfl) (wd hw 79 rfl) (wd hw 80 rfl) (wd hw 81 rfl) (by decide) pd___B_B_Z485 (argsL := [(.ref av), (.ref bv)]) rfl rfl rfl (Wt := 0) (Nat.le_of_eq rfl) (leq_met hw hc S1.2.2.2 S2.2.2.2) (by decide) (by decide) (by decide) (by decide) ?_
  intro T15 h16 F17 v18 W19 Q20
  obtain ⟨rfl, rfl, rfl⟩ := Q20
  show G E x T15 (fr x 47 #[.val (.ref a), .val (.ref b), .val (.ref b)] [(.int (1 : Int32))])
  refine w_if_eq W19 B d_seq_47 (fun q => absurd q (by decide)) (fun _ => ?_)
  show G E x T15 (fr x 50 #[.val (.ref a), .val (.ref b), .val (.ref b)] [])
  refine w_iconst W19 B d_seq_50 (v := (1 : Int32)) rfl ?_
  refine w_goto W19 B d_seq_51 ?_
  exact w_ireturnN W19 B d_seq_55 (Or.inl rfl) (u := 1) rfl hQ (by decide) (by decide) (fun _ q => q) ⟨rfl, rfl, rfl⟩
set_option maxRecDepth 65536 in
set_option maxHeartbeats 4000000 in
theorem leqd_met {E : Gl} (hw : Tb E) {h : Heap} {F : List Addr} {a b : Addr} {ka kb : ClassId} {na nb : Int32} {va vb : List Value} (hne : ¬ na = nb) (Aa : Arv E.Z h a ka .byte na va (.int 0)) (Ab : Arv E.Z h b kb .byte nb vb (.int 0)) :
    Met E (⟨"java/lang/StringLatin1", "equals", "([B[B)Z"⟩ : MethodName) jdk_43_method_13_code 3 (some .boolean) ({ frames := 0, cells := 0, slots := 0, locals := 0 } : Room) #[.ref a, .ref b] h F (fun r h' F' => r = some (.int 0) ∧ h = h' ∧ F = F') := by
  refine met_of (by decide +kernel) fun x T hQ B W => ?_
  refine G.cast (g' := fr x 0 #[.val (.ref a), .val (.ref b), .unset] []) (by simp [entryFrame, mkF, argsToLocals, Own.cat_r, Own.cat_i, Own.cat_j, Own.cat_n]) ?_
  refine w_aloadN W B d_leq_0 rfl rfl ?_
  refine w_arraylength W B d_leq_1 Aa ?_
  refine w_aloadN W B d_leq_2 rfl rfl ?_
  refine w_arraylength W B d_leq_3 Ab ?_
  refine w_icmp_ne W B d_leq_4 (fun _ => ?_) (fun q => absurd q hne)
  show G E x T (fr x 34 #[.val (.ref a), .val (.ref b), .unset] [])
  refine w_iconst W B d_leq_34 (v := (0 : Int32)) rfl ?_
  exact w_ireturnN W B d_leq_35 (Or.inl rfl) (u := 0) rfl hQ (by decide) (by decide) (fun _ q => q) ⟨rfl, rfl, rfl⟩
set_option maxRecDepth 65536 in
set_option maxHeartbeats 4000000 in
theorem seqd_met {E : Gl} (hw : Tb E) {h : Heap} {F : List Addr} {a av b bv : Addr} {ka kb : ClassId} {cs ds : List Int32} (S1 : StrL E h a av ka cs) (S2 : StrL E h b bv kb ds) (hab : a ≠ b) (hne : ¬ cs.length.toInt32 = ds.length.toInt32) :
    Met E (⟨"java/lang/String", "equals", "(Ljava/lang/Object;)Z"⟩ : MethodName) jdk_42_method_66_code 3 (some .boolean) ({ frames := 1, cells := 0, slots := 0, locals := 14 } : Room) #[.ref a, .ref b] h F (fun r h' F' => r = some (.int 0) ∧ h = h' ∧ F = F') := by
  refine met_of (by decide +kernel) fun x T hQ B W => ?_
  refine G.cast (g' := fr x 0 #[.val (.ref a), .val (.ref b), .unset] []) (by simp [entryFrame, mkF, argsToLocals, Own.cat_r, Own.cat_i, Own.cat_j, Own.cat_n]) ?_
  obtain ⟨z, Sc, hz⟩ := compact hw
  refine w_aloadN W B d_seq_0 rfl rfl ?_
  refine w_aloadN W B d_seq_1 rfl rfl ?_
  refine w_acmp_ne_n W B d_seq_2 rfl rfl (fun q => absurd (Value.ref.inj q) hab) ?_
  show G E x T (fr x 7 #[.val (.ref a), .val (.ref b), .unset] [])
  refine w_aloadN W B d_seq_7 rfl rfl ?_
  refine w_instY W B d_seq_8 (wd hw 77 rfl) (Ins.self S2.1) ?_
  intro T1 W2
  show G E x T1 (fr x 11 #[.val (.ref a), .val (.ref b), .unset] [(.int (1 : Int32))])
  refine w_if_eq W2 B d_seq_11 (fun q => absurd q (by decide)) (fun _ => ?_)
  show G E x T1 (fr x 14 #[.val (.ref a), .val (.ref b), .unset] [])
  refine w_aloadN W2 B d_seq_14 rfl rfl ?_
  refine w_castY W2 B d_seq_15 (wd hw 77 rfl) (Ins.self S2.1) ?_
  intro T3 W4
  refine w_astoreN W4 B d_seq_18 rfl (Ls' := #[.val (.ref a), .val (.ref b), .val (.ref b)]) rfl ?_
  refine w_getS W4 B d_seq_19 (wd hw 14 rfl) Via.refl Sc ?_
  intro T5 W6
  refine w_if_eq W6 B d_seq_22 (fun q => absurd q hz) (fun _ => ?_)
  show G E x T5 (fr x 25 #[.val (.ref a), .val (.ref b), .val (.ref b)] [])
  refine w_aloadN W6 B d_seq_25 rfl rfl ?_
  refine w_getF W6 B d_seq_26 (wd hw 26 rfl) Via.refl S1.2.2.1 ?_
  intro T7 W8
  refine w_aloadN W8 B d_seq_29 rfl rfl ?_
  refine w_getF W8 B d_seq_30 (wd hw 26 rfl) Via.refl S2.2.2.1 ?_
  intro T9 W10
  refine w_icmp_ne W10 B d_seq_33 (fun q => q rfl |>.elim) (fun _ => ?_)
  show G E x T9 (fr x 36 #[.val (.ref a), .val (.ref b), .val (.ref b)] [])
  refine w_aloadN W10 B d_seq_36 rfl rfl ?_
  refine w_getF W10 B d_seq_37 (wd hw 28 rfl) Via.refl S1.2.1 ?_
  intro T11 W12
  refine w_aloadN W12 B d_seq_40 rfl rfl ?_
  refine w_getF W12 B d_seq_41 (wd hw 28 rfl) Via.refl S2.2.1 ?_
  intro T13 W14
  refine w_static W14 B (y := ⟨"java/lang/StringLatin1", "equals", "([B[B)Z"⟩) d_seq_44 (wd hw 78 rfl) (wd hw 79 rfl) (wd hw 80 rfl) (wd hw 81 rfl) (by decide) pd___B_B_Z485 (argsL := [(.ref av), (.ref bv)]) rfl rfl rfl (Wt := 0) (Nat.le_of_eq rfl) (leqd_met hw hne S1.2.2.2 S2.2.2.2) (by decide) (by decide) (by decide) (by decide) ?_
  intro T15 h16 F17 v18 W19 Q20
  obtain ⟨rfl, rfl, rfl⟩ := Q20
  show G E x T15 (fr x 47 #[.val (.ref a), .val (.ref b), .val (.ref b)] [(.int (0 : Int32))])
  refine w_if_eq W19 B d_seq_47 (fun _ => ?_) (fun q => q rfl |>.elim)
  show G E x T15 (fr x 54 #[.val (.ref a), .val (.ref b), .val (.ref b)] [])
  refine w_iconst W19 B d_seq_54 (v := (0 : Int32)) rfl ?_
  exact w_ireturnN W19 B d_seq_55 (Or.inl rfl) (u := 0) rfl hQ (by decide) (by decide) (fun _ q => q) ⟨rfl, rfl, rfl⟩
set_option maxRecDepth 65536 in
set_option maxHeartbeats 4000000 in
theorem mdn_met {E : Gl} (hw : Tb E) {h : Heap} {F : List Addr} {o q : Addr} (fo : Fld E.Z h o "com/example/shapegen/shapegen/ConversionMode" "modeName" "Ljava/lang/String;" (.ref q)) :
    Met E (⟨"com/example/shapegen/shapegen/ConversionMode", "modeName", "()Ljava/lang/String;"⟩ : MethodName) prog_1_method_4_code 1 (some (.object "java/lang/String")) ({ frames := 0, cells := 0, slots := 0, locals := 0 } : Room) #[.ref o] h F (fun r h' F' => r = some (.ref q) ∧ h = h' ∧ F = F') := by
  refine met_of (by decide +kernel) fun x T hQ B W => ?_
  refine G.cast (g' := fr x 0 #[.val (.ref o)] []) (by simp [entryFrame, mkF, argsToLocals, Own.cat_r, Own.cat_i, Own.cat_j, Own.cat_n]) ?_
  refine w_aloadN W B d_mdn_0 rfl rfl ?_
  refine w_getF W B d_mdn_1 (wd hw 69 rfl) Via.refl fo ?_
  intro T1 W2
  exact w_areturn W2 B d_mdn_4 rfl rfl hQ (by decide) (by decide) (fun _ q => q) ⟨rfl, rfl, rfl⟩
set_option maxRecDepth 65536 in
set_option maxHeartbeats 4000000 in
theorem val_met {E : Gl} (hw : Tb E) {h : Heap} {F : List Addr} {c f va qc vc qf vf : Addr} {kv kc kf : ClassId} (Sc : Sta E.Z E.Z.heap "com/example/shapegen/shapegen/ConversionMode" "CONTRACT" "Lcom/example/shapegen/shapegen/ConversionMode;" (.ref c)) (Sf : Sta E.Z E.Z.heap "com/example/shapegen/shapegen/ConversionMode" "FRAMED" "Lcom/example/shapegen/shapegen/ConversionMode;" (.ref f)) (Sv : Sta E.Z E.Z.heap "com/example/shapegen/shapegen/ConversionMode" "$VALUES" "[Lcom/example/shapegen/shapegen/ConversionMode;" (.ref va)) (Xc : Exa E.Z E.Z.heap c "com/example/shapegen/shapegen/ConversionMode") (Xf : Exa E.Z E.Z.heap f "com/example/shapegen/shapegen/ConversionMode") (Av : Arv E.Z E.Z.heap va kv (.object "com/example/shapegen/shapegen/ConversionMode") 2 [.ref c, .ref f] .null) (Xv : Exa E.Z E.Z.heap va "[Lcom/example/shapegen/shapegen/ConversionMode;") (Fc : Fld E.Z E.Z.heap c "com/example/shapegen/shapegen/ConversionMode" "modeName" "Ljava/lang/String;" (.ref qc)) (Ff : Fld E.Z E.Z.heap f "com/example/shapegen/shapegen/ConversionMode" "modeName" "Ljava/lang/String;" (.ref qf)) (Tc : StrL E E.Z.heap qc vc kc csC) (Tf : StrL E E.Z.heap qf vf kf csF) :
    Met E (⟨"com/example/shapegen/shapegen/ConversionMode", "values", "()[Lcom/example/shapegen/shapegen/ConversionMode;"⟩ : MethodName) prog_1_method_1_code 0 (some (.array (.object "com/example/shapegen/shapegen/ConversionMode"))) ({ frames := 1, cells := 1, slots := 2, locals := 14 } : Room) #[] h F (fun r h' F' => ∃ bb : Addr, r = some (.ref bb) ∧ F = F' ∧ Keep h h' [] ∧ Arv E.Z h' bb kv (.object "com/example/shapegen/shapegen/ConversionMode") 2 [.ref c, .ref f] .null) := by
  refine met_of (by decide +kernel) fun x T hQ B W => ?_
  refine G.cast (g' := fr x 0 #[] []) (by simp [entryFrame, mkF, argsToLocals, Own.cat_r, Own.cat_i, Own.cat_j, Own.cat_n]) ?_
  refine w_getS W B d_val_0 (wd hw 39 rfl) Via.refl Sv ?_
  intro T1 W2
  refine w_clone W2 B (cap := 2) d_val_3 (wd hw 41 rfl) (wd hw 42 rfl) (wd hw 46 rfl) (wd hw 44 rfl) (wd hw 45 rfl) (wd hw 47 rfl) (Av.ext W.old) (Xv.ext W.old) rfl (by decide) (Wt := 0) (Nat.le_of_eq rfl) (by decide) (by decide) (by decide) (by decide) ?_
  intro T2 h2 bb W2 g2 X2 A2 E2
  show G E x T2 (fr x 6 #[] [(.ref bb)])
  refine w_castY W2 B d_val_6 (wd hw 50 rfl) (Ins.self E2) ?_
  intro T3 W4
  have KK5 : Keep h h2 [] := (Keep.refl h []).ext X2
  exact w_areturn W4 B d_val_9 rfl rfl hQ (by decide) (by decide) (fun _ q => (List.Mem.tail _ q)) ⟨bb, rfl, rfl, KK5, A2⟩
theorem mdn_d0 : decode prog_1_method_4_code 0 = .ok (.aload_n 0, 1) := by decide +kernel
theorem mdn_d1 : decode prog_1_method_4_code 1 = .ok (.getfield 29, 3) := by decide +kernel
theorem mdn_d4 : decode prog_1_method_4_code 4 = .ok (.areturn, 1) := by decide +kernel
theorem fwd_ok : LamKit.fwdOK shp "com/example/shapegen/shapegen/ConversionMode" fwdV 2 (some (.object "java/lang/Object")) 18 14 = true := by decide +kernel
set_option maxRecDepth 65536 in
set_option maxHeartbeats 4000000 in
theorem byn0_met {E : Gl} (hw : Tb E) {h : Heap} {F : List Addr} {c f va qc vc qf vf : Addr} {kv kc kf : ClassId} (Sc : Sta E.Z E.Z.heap "com/example/shapegen/shapegen/ConversionMode" "CONTRACT" "Lcom/example/shapegen/shapegen/ConversionMode;" (.ref c)) (Sf : Sta E.Z E.Z.heap "com/example/shapegen/shapegen/ConversionMode" "FRAMED" "Lcom/example/shapegen/shapegen/ConversionMode;" (.ref f)) (Sv : Sta E.Z E.Z.heap "com/example/shapegen/shapegen/ConversionMode" "$VALUES" "[Lcom/example/shapegen/shapegen/ConversionMode;" (.ref va)) (Xc : Exa E.Z E.Z.heap c "com/example/shapegen/shapegen/ConversionMode") (Xf : Exa E.Z E.Z.heap f "com/example/shapegen/shapegen/ConversionMode") (Av : Arv E.Z E.Z.heap va kv (.object "com/example/shapegen/shapegen/ConversionMode") 2 [.ref c, .ref f] .null) (Xv : Exa E.Z E.Z.heap va "[Lcom/example/shapegen/shapegen/ConversionMode;") (Fc : Fld E.Z E.Z.heap c "com/example/shapegen/shapegen/ConversionMode" "modeName" "Ljava/lang/String;" (.ref qc)) (Ff : Fld E.Z E.Z.heap f "com/example/shapegen/shapegen/ConversionMode" "modeName" "Ljava/lang/String;" (.ref qf)) (Tc : StrL E E.Z.heap qc vc kc csC) (Tf : StrL E E.Z.heap qf vf kf csF) {a : Addr} {cK : ClassId} (Md : LamKit.Made E.Z "com/example/shapegen/shapegen/ConversionMode" shp cK) (Fn : LamKit.FnAt E.Z.heap a cK) {bb s sv mo : Addr} {ks : ClassId} (Ab : Arv E.Z h bb kv (.object "com/example/shapegen/shapegen/ConversionMode") 2 [.ref c, .ref f] .null) (Ss : StrL E h s sv ks csC) (hc : qc ≠ s) (hf : qf ≠ s) :
    Met E (⟨"com/example/shapegen/shapegen/Lookup", "byName", "([Ljava/lang/Object;Ljava/util/function/Function;Ljava/lang/String;Ljava/lang/String;)Ljava/lang/Object;"⟩ : MethodName) prog_9_method_2_code 8 (some (.object "java/lang/Object")) ({ frames := 2, cells := 0, slots := 0, locals := 28 } : Room) #[.ref bb, .ref a, .ref s, .ref mo] h F (fun r h' F' => r = some (.ref c) ∧ h = h' ∧ F = F') := by
  refine met_of (by decide +kernel) fun x T hQ B W => ?_
  refine G.cast (g' := fr x 0 #[.val (.ref bb), .val (.ref a), .val (.ref s), .val (.ref mo), .unset, .unset, .unset, .unset] []) (by simp [entryFrame, mkF, argsToLocals, Own.cat_r, Own.cat_i, Own.cat_j, Own.cat_n]) ?_
  refine w_aloadN W B d_byn_0 rfl rfl ?_
  refine w_astore W B d_byn_1 rfl (Ls' := #[.val (.ref bb), .val (.ref a), .val (.ref s), .val (.ref mo), .val (.ref bb), .unset, .unset, .unset]) rfl ?_
  refine w_aload W B d_byn_3 rfl rfl ?_
  refine w_arraylength W B d_byn_5 Ab ?_
  refine w_istore W B d_byn_6 (Ls' := #[.val (.ref bb), .val (.ref a), .val (.ref s), .val (.ref mo), .val (.ref bb), .val (.int (2 : Int32)), .unset, .unset]) rfl ?_
  refine w_iconst W B d_byn_8 (v := (0 : Int32)) rfl ?_
  refine w_istore W B d_byn_9 (Ls' := #[.val (.ref bb), .val (.ref a), .val (.ref s), .val (.ref mo), .val (.ref bb), .val (.int (2 : Int32)), .val (.int (0 : Int32)), .unset]) rfl ?_
  refine w_iload W B d_byn_11 rfl ?_
  refine w_iload W B d_byn_13 rfl ?_
  refine w_icmp_ge W B d_byn_15 (fun q => q (by decide) |>.elim) (fun _ => ?_)
  show G E x T (fr x 18 #[.val (.ref bb), .val (.ref a), .val (.ref s), .val (.ref mo), .val (.ref bb), .val (.int (2 : Int32)), .val (.int (0 : Int32)), .unset] [])
  refine w_aload W B d_byn_18 rfl rfl ?_
  refine w_iload W B d_byn_20 rfl ?_
  refine w_aaload W B d_byn_22 rfl Ab ⟨by decide, by decide⟩ (v := .ref c) rfl ?_
  refine w_astore W B d_byn_23 rfl (Ls' := #[.val (.ref bb), .val (.ref a), .val (.ref s), .val (.ref mo), .val (.ref bb), .val (.int (2 : Int32)), .val (.int (0 : Int32)), .val (.ref c)]) rfl ?_
  refine w_aloadN W B d_byn_25 rfl rfl ?_
  refine w_aload W B d_byn_26 rfl rfl ?_
  refine w_apply W B (xi := ⟨"java/util/function/Function", "apply", "(Ljava/lang/Object;)Ljava/lang/Object;"⟩) (y := ⟨"com/example/shapegen/shapegen/ConversionMode", "modeName", "()Ljava/lang/String;"⟩) (σ := shp) (n := "modeName") (t := "Ljava/lang/String;") (fi := 29) (rt := .object "java/lang/String") d_byn_28 (wd hw 62 rfl) (wd hw 63 rfl) (wd hw 64 rfl) rfl (wd hw 67 rfl) (wd hw 68 rfl) (wd hw 66 rfl) (wd hw 69 rfl) ⟨by decide, by decide, by decide +kernel⟩ ⟨by decide, by decide, by decide +kernel⟩ (by decide) (by decide) (by decide +kernel) pd__Ljava_lang_Object__Ljava_lang_Object_418 rfl pd___Ljava_lang_String_780 rfl Md Fn fwd_ok mdn_d0 mdn_d1 mdn_d4 (Xc.ext W.old) (Fc.ext W.old) rfl (Wt := 0) (Nat.le_of_eq rfl) (by decide) (by decide) (by decide) (by decide) ?_
  intro T1 W2
  show G E x T1 (fr x 33 #[.val (.ref bb), .val (.ref a), .val (.ref s), .val (.ref mo), .val (.ref bb), .val (.int (2 : Int32)), .val (.int (0 : Int32)), .val (.ref c)] [(.ref qc)])
  refine w_castY W2 B d_byn_33 (wd hw 71 rfl) (Ins.self (Tc.ext W2.old).1) ?_
  intro T3 W4
  refine w_aloadN W4 B d_byn_36 rfl rfl ?_
  refine w_virtual W4 B (y := ⟨"java/lang/String", "equals", "(Ljava/lang/Object;)Z"⟩) (z := ⟨"java/lang/String", "equals", "(Ljava/lang/Object;)Z"⟩) d_byn_37 (wd hw 72 rfl) (wd hw 73 rfl) (nf_sel (wd hw 75 rfl)) (wd hw 75 rfl) (wd hw 74 rfl) (wd hw 3 rfl) (wd hw 76 rfl) (by decide) (Tc.ext W4.old).1 pd__Ljava_lang_Object__Z838 (argsL := [(.ref s)]) rfl rfl rfl (Wt := 0) (Nat.le_of_eq rfl) (seq_met hw (cs := csC) (Tc.ext W4.old) Ss hc (by decide)) (by decide) (by decide) (by decide) (by decide) ?_
  intro T5 h6 F7 v8 W9 Q10
  obtain ⟨rfl, rfl, rfl⟩ := Q10
  show G E x T5 (fr x 40 #[.val (.ref bb), .val (.ref a), .val (.ref s), .val (.ref mo), .val (.ref bb), .val (.int (2 : Int32)), .val (.int (0 : Int32)), .val (.ref c)] [(.int (1 : Int32))])
  refine w_if_eq W9 B d_byn_40 (fun q => absurd q (by decide)) (fun _ => ?_)
  show G E x T5 (fr x 43 #[.val (.ref bb), .val (.ref a), .val (.ref s), .val (.ref mo), .val (.ref bb), .val (.int (2 : Int32)), .val (.int (0 : Int32)), .val (.ref c)] [])
  refine w_aload W9 B d_byn_43 rfl rfl ?_
  exact w_areturn W9 B d_byn_45 rfl rfl hQ (by decide) (by decide) (fun _ q => q) ⟨rfl, rfl, rfl⟩
set_option maxRecDepth 65536 in
set_option maxHeartbeats 4000000 in
theorem byn1_met {E : Gl} (hw : Tb E) {h : Heap} {F : List Addr} {c f va qc vc qf vf : Addr} {kv kc kf : ClassId} (Sc : Sta E.Z E.Z.heap "com/example/shapegen/shapegen/ConversionMode" "CONTRACT" "Lcom/example/shapegen/shapegen/ConversionMode;" (.ref c)) (Sf : Sta E.Z E.Z.heap "com/example/shapegen/shapegen/ConversionMode" "FRAMED" "Lcom/example/shapegen/shapegen/ConversionMode;" (.ref f)) (Sv : Sta E.Z E.Z.heap "com/example/shapegen/shapegen/ConversionMode" "$VALUES" "[Lcom/example/shapegen/shapegen/ConversionMode;" (.ref va)) (Xc : Exa E.Z E.Z.heap c "com/example/shapegen/shapegen/ConversionMode") (Xf : Exa E.Z E.Z.heap f "com/example/shapegen/shapegen/ConversionMode") (Av : Arv E.Z E.Z.heap va kv (.object "com/example/shapegen/shapegen/ConversionMode") 2 [.ref c, .ref f] .null) (Xv : Exa E.Z E.Z.heap va "[Lcom/example/shapegen/shapegen/ConversionMode;") (Fc : Fld E.Z E.Z.heap c "com/example/shapegen/shapegen/ConversionMode" "modeName" "Ljava/lang/String;" (.ref qc)) (Ff : Fld E.Z E.Z.heap f "com/example/shapegen/shapegen/ConversionMode" "modeName" "Ljava/lang/String;" (.ref qf)) (Tc : StrL E E.Z.heap qc vc kc csC) (Tf : StrL E E.Z.heap qf vf kf csF) {a : Addr} {cK : ClassId} (Md : LamKit.Made E.Z "com/example/shapegen/shapegen/ConversionMode" shp cK) (Fn : LamKit.FnAt E.Z.heap a cK) {bb s sv mo : Addr} {ks : ClassId} (Ab : Arv E.Z h bb kv (.object "com/example/shapegen/shapegen/ConversionMode") 2 [.ref c, .ref f] .null) (Ss : StrL E h s sv ks csF) (hc : qc ≠ s) (hf : qf ≠ s) :
    Met E (⟨"com/example/shapegen/shapegen/Lookup", "byName", "([Ljava/lang/Object;Ljava/util/function/Function;Ljava/lang/String;Ljava/lang/String;)Ljava/lang/Object;"⟩ : MethodName) prog_9_method_2_code 8 (some (.object "java/lang/Object")) ({ frames := 2, cells := 0, slots := 0, locals := 28 } : Room) #[.ref bb, .ref a, .ref s, .ref mo] h F (fun r h' F' => r = some (.ref f) ∧ h = h' ∧ F = F') := by
  refine met_of (by decide +kernel) fun x T hQ B W => ?_
  refine G.cast (g' := fr x 0 #[.val (.ref bb), .val (.ref a), .val (.ref s), .val (.ref mo), .unset, .unset, .unset, .unset] []) (by simp [entryFrame, mkF, argsToLocals, Own.cat_r, Own.cat_i, Own.cat_j, Own.cat_n]) ?_
  refine w_aloadN W B d_byn_0 rfl rfl ?_
  refine w_astore W B d_byn_1 rfl (Ls' := #[.val (.ref bb), .val (.ref a), .val (.ref s), .val (.ref mo), .val (.ref bb), .unset, .unset, .unset]) rfl ?_
  refine w_aload W B d_byn_3 rfl rfl ?_
  refine w_arraylength W B d_byn_5 Ab ?_
  refine w_istore W B d_byn_6 (Ls' := #[.val (.ref bb), .val (.ref a), .val (.ref s), .val (.ref mo), .val (.ref bb), .val (.int (2 : Int32)), .unset, .unset]) rfl ?_
  refine w_iconst W B d_byn_8 (v := (0 : Int32)) rfl ?_
  refine w_istore W B d_byn_9 (Ls' := #[.val (.ref bb), .val (.ref a), .val (.ref s), .val (.ref mo), .val (.ref bb), .val (.int (2 : Int32)), .val (.int (0 : Int32)), .unset]) rfl ?_
  refine w_iload W B d_byn_11 rfl ?_
  refine w_iload W B d_byn_13 rfl ?_
  refine w_icmp_ge W B d_byn_15 (fun q => q (by decide) |>.elim) (fun _ => ?_)
  show G E x T (fr x 18 #[.val (.ref bb), .val (.ref a), .val (.ref s), .val (.ref mo), .val (.ref bb), .val (.int (2 : Int32)), .val (.int (0 : Int32)), .unset] [])
  refine w_aload W B d_byn_18 rfl rfl ?_
  refine w_iload W B d_byn_20 rfl ?_
  refine w_aaload W B d_byn_22 rfl Ab ⟨by decide, by decide⟩ (v := .ref c) rfl ?_
  refine w_astore W B d_byn_23 rfl (Ls' := #[.val (.ref bb), .val (.ref a), .val (.ref s), .val (.ref mo), .val (.ref bb), .val (.int (2 : Int32)), .val (.int (0 : Int32)), .val (.ref c)]) rfl ?_
  refine w_aloadN W B d_byn_25 rfl rfl ?_
  refine w_aload W B d_byn_26 rfl rfl ?_
  refine w_apply W B (xi := ⟨"java/util/function/Function", "apply", "(Ljava/lang/Object;)Ljava/lang/Object;"⟩) (y := ⟨"com/example/shapegen/shapegen/ConversionMode", "modeName", "()Ljava/lang/String;"⟩) (σ := shp) (n := "modeName") (t := "Ljava/lang/String;") (fi := 29) (rt := .object "java/lang/String") d_byn_28 (wd hw 62 rfl) (wd hw 63 rfl) (wd hw 64 rfl) rfl (wd hw 67 rfl) (wd hw 68 rfl) (wd hw 66 rfl) (wd hw 69 rfl) ⟨by decide, by decide, by decide +kernel⟩ ⟨by decide, by decide, by decide +kernel⟩ (by decide) (by decide) (by decide +kernel) pd__Ljava_lang_Object__Ljava_lang_Object_418 rfl pd___Ljava_lang_String_780 rfl Md Fn fwd_ok mdn_d0 mdn_d1 mdn_d4 (Xc.ext W.old) (Fc.ext W.old) rfl (Wt := 0) (Nat.le_of_eq rfl) (by decide) (by decide) (by decide) (by decide) ?_
  intro T1 W2
  show G E x T1 (fr x 33 #[.val (.ref bb), .val (.ref a), .val (.ref s), .val (.ref mo), .val (.ref bb), .val (.int (2 : Int32)), .val (.int (0 : Int32)), .val (.ref c)] [(.ref qc)])
  refine w_castY W2 B d_byn_33 (wd hw 71 rfl) (Ins.self (Tc.ext W2.old).1) ?_
  intro T3 W4
  refine w_aloadN W4 B d_byn_36 rfl rfl ?_
  refine w_virtual W4 B (y := ⟨"java/lang/String", "equals", "(Ljava/lang/Object;)Z"⟩) (z := ⟨"java/lang/String", "equals", "(Ljava/lang/Object;)Z"⟩) d_byn_37 (wd hw 72 rfl) (wd hw 73 rfl) (nf_sel (wd hw 75 rfl)) (wd hw 75 rfl) (wd hw 74 rfl) (wd hw 3 rfl) (wd hw 76 rfl) (by decide) (Tc.ext W4.old).1 pd__Ljava_lang_Object__Z838 (argsL := [(.ref s)]) rfl rfl rfl (Wt := 0) (Nat.le_of_eq rfl) (seqd_met hw (Tc.ext W4.old) Ss hc (by decide)) (by decide) (by decide) (by decide) (by decide) ?_
  intro T5 h6 F7 v8 W9 Q10
  obtain ⟨rfl, rfl, rfl⟩ := Q10
  show G E x T5 (fr x 40 #[.val (.ref bb), .val (.ref a), .val (.ref s), .val (.ref mo), .val (.ref bb), .val (.int (2 : Int32)), .val (.int (0 : Int32)), .val (.ref c)] [(.int (0 : Int32))])
  refine w_if_eq W9 B d_byn_40 (fun _ => ?_) (fun q => q rfl |>.elim)
  show G E x T5 (fr x 46 #[.val (.ref bb), .val (.ref a), .val (.ref s), .val (.ref mo), .val (.ref bb), .val (.int (2 : Int32)), .val (.int (0 : Int32)), .val (.ref c)] [])
  refine w_iinc W9 B d_byn_46 rfl (w := (1 : Int32)) (by decide) (Ls' := #[.val (.ref bb), .val (.ref a), .val (.ref s), .val (.ref mo), .val (.ref bb), .val (.int (2 : Int32)), .val (.int (1 : Int32)), .val (.ref c)]) rfl ?_
  refine w_goto W9 B d_byn_49 ?_
  refine w_iload W9 B d_byn_11 rfl ?_
  refine w_iload W9 B d_byn_13 rfl ?_
  refine w_icmp_ge W9 B d_byn_15 (fun q => q (by decide) |>.elim) (fun _ => ?_)
  show G E x T5 (fr x 18 #[.val (.ref bb), .val (.ref a), .val (.ref s), .val (.ref mo), .val (.ref bb), .val (.int (2 : Int32)), .val (.int (1 : Int32)), .val (.ref c)] [])
  refine w_aload W9 B d_byn_18 rfl rfl ?_
  refine w_iload W9 B d_byn_20 rfl ?_
  refine w_aaload W9 B d_byn_22 rfl Ab ⟨by decide, by decide⟩ (v := .ref f) rfl ?_
  refine w_astore W9 B d_byn_23 rfl (Ls' := #[.val (.ref bb), .val (.ref a), .val (.ref s), .val (.ref mo), .val (.ref bb), .val (.int (2 : Int32)), .val (.int (1 : Int32)), .val (.ref f)]) rfl ?_
  refine w_aloadN W9 B d_byn_25 rfl rfl ?_
  refine w_aload W9 B d_byn_26 rfl rfl ?_
  refine w_apply W9 B (xi := ⟨"java/util/function/Function", "apply", "(Ljava/lang/Object;)Ljava/lang/Object;"⟩) (y := ⟨"com/example/shapegen/shapegen/ConversionMode", "modeName", "()Ljava/lang/String;"⟩) (σ := shp) (n := "modeName") (t := "Ljava/lang/String;") (fi := 29) (rt := .object "java/lang/String") d_byn_28 (wd hw 62 rfl) (wd hw 63 rfl) (wd hw 64 rfl) rfl (wd hw 67 rfl) (wd hw 68 rfl) (wd hw 66 rfl) (wd hw 69 rfl) ⟨by decide, by decide, by decide +kernel⟩ ⟨by decide, by decide, by decide +kernel⟩ (by decide) (by decide) (by decide +kernel) pd__Ljava_lang_Object__Ljava_lang_Object_418 rfl pd___Ljava_lang_String_780 rfl Md Fn fwd_ok mdn_d0 mdn_d1 mdn_d4 (Xf.ext W9.old) (Ff.ext W9.old) rfl (Wt := 0) (Nat.le_of_eq rfl) (by decide) (by decide) (by decide) (by decide) ?_
  intro T11 W12
  show G E x T11 (fr x 33 #[.val (.ref bb), .val (.ref a), .val (.ref s), .val (.ref mo), .val (.ref bb), .val (.int (2 : Int32)), .val (.int (1 : Int32)), .val (.ref f)] [(.ref qf)])
  refine w_castY W12 B d_byn_33 (wd hw 71 rfl) (Ins.self (Tf.ext W12.old).1) ?_
  intro T13 W14
  refine w_aloadN W14 B d_byn_36 rfl rfl ?_
  refine w_virtual W14 B (y := ⟨"java/lang/String", "equals", "(Ljava/lang/Object;)Z"⟩) (z := ⟨"java/lang/String", "equals", "(Ljava/lang/Object;)Z"⟩) d_byn_37 (wd hw 72 rfl) (wd hw 73 rfl) (nf_sel (wd hw 75 rfl)) (wd hw 75 rfl) (wd hw 74 rfl) (wd hw 3 rfl) (wd hw 76 rfl) (by decide) (Tf.ext W14.old).1 pd__Ljava_lang_Object__Z838 (argsL := [(.ref s)]) rfl rfl rfl (Wt := 0) (Nat.le_of_eq rfl) (seq_met hw (cs := csF) (Tf.ext W14.old) Ss hf (by decide)) (by decide) (by decide) (by decide) (by decide) ?_
  intro T15 h16 F17 v18 W19 Q20
  obtain ⟨rfl, rfl, rfl⟩ := Q20
  show G E x T15 (fr x 40 #[.val (.ref bb), .val (.ref a), .val (.ref s), .val (.ref mo), .val (.ref bb), .val (.int (2 : Int32)), .val (.int (1 : Int32)), .val (.ref f)] [(.int (1 : Int32))])
  refine w_if_eq W19 B d_byn_40 (fun q => absurd q (by decide)) (fun _ => ?_)
  show G E x T15 (fr x 43 #[.val (.ref bb), .val (.ref a), .val (.ref s), .val (.ref mo), .val (.ref bb), .val (.int (2 : Int32)), .val (.int (1 : Int32)), .val (.ref f)] [])
  refine w_aload W19 B d_byn_43 rfl rfl ?_
  exact w_areturn W19 B d_byn_45 rfl rfl hQ (by decide) (by decide) (fun _ q => q) ⟨rfl, rfl, rfl⟩
set_option maxRecDepth 65536 in
set_option maxHeartbeats 4000000 in
theorem frn0_met {E : Gl} (hw : Tb E) {h : Heap} {F : List Addr} {c f va qc vc qf vf : Addr} {kv kc kf : ClassId} (Sc : Sta E.Z E.Z.heap "com/example/shapegen/shapegen/ConversionMode" "CONTRACT" "Lcom/example/shapegen/shapegen/ConversionMode;" (.ref c)) (Sf : Sta E.Z E.Z.heap "com/example/shapegen/shapegen/ConversionMode" "FRAMED" "Lcom/example/shapegen/shapegen/ConversionMode;" (.ref f)) (Sv : Sta E.Z E.Z.heap "com/example/shapegen/shapegen/ConversionMode" "$VALUES" "[Lcom/example/shapegen/shapegen/ConversionMode;" (.ref va)) (Xc : Exa E.Z E.Z.heap c "com/example/shapegen/shapegen/ConversionMode") (Xf : Exa E.Z E.Z.heap f "com/example/shapegen/shapegen/ConversionMode") (Av : Arv E.Z E.Z.heap va kv (.object "com/example/shapegen/shapegen/ConversionMode") 2 [.ref c, .ref f] .null) (Xv : Exa E.Z E.Z.heap va "[Lcom/example/shapegen/shapegen/ConversionMode;") (Fc : Fld E.Z E.Z.heap c "com/example/shapegen/shapegen/ConversionMode" "modeName" "Ljava/lang/String;" (.ref qc)) (Ff : Fld E.Z E.Z.heap f "com/example/shapegen/shapegen/ConversionMode" "modeName" "Ljava/lang/String;" (.ref qf)) (Tc : StrL E E.Z.heap qc vc kc csC) (Tf : StrL E E.Z.heap qf vf kf csF) {s sv : Addr} {ks : ClassId} (Ss : StrL E h s sv ks csC) (hc : qc ≠ s) (hf : qf ≠ s) :
    Met E (⟨"com/example/shapegen/shapegen/ConversionMode", "fromName", "(Ljava/lang/String;)Lcom/example/shapegen/shapegen/ConversionMode;"⟩ : MethodName) prog_1_method_5_code 1 (some (.object "com/example/shapegen/shapegen/ConversionMode")) ({ frames := 3, cells := 3, slots := 22, locals := 3073 } : Room) #[.ref s] h F (fun r h' F' => r = some (.ref c) ∧ F = F' ∧ Keep h h' []) := by
  refine met_ofN (by decide +kernel) fun x T hQ B hnm W => ?_
  refine G.cast (g' := fr x 0 #[.val (.ref s)] []) (by simp [entryFrame, mkF, argsToLocals, Own.cat_r, Own.cat_i, Own.cat_j, Own.cat_n]) ?_
  refine w_static W B (y := ⟨"com/example/shapegen/shapegen/ConversionMode", "values", "()[Lcom/example/shapegen/shapegen/ConversionMode;"⟩) d_frn_0 (wd hw 36 rfl) (wd hw 37 rfl) (wd hw 31 rfl) (wd hw 38 rfl) (by decide) pd____Lcom_example_shapegen_shapegen_ConversionMode_711 (argsL := []) rfl rfl rfl (Wt := 0) (Nat.le_of_eq rfl) (val_met hw Sc Sf Sv Xc Xf Av Xv Fc Ff Tc Tf) (by decide) (by decide) (by decide) (by decide) ?_
  intro T1 h2 F3 v4 W5 Q6
  obtain ⟨bb, rfl, rfl, KV, Ab⟩ := Q6
  show G E x T1 (fr x 3 #[.val (.ref s)] [(.ref bb)])
  refine w_site W5 B (y := ⟨"com/example/shapegen/shapegen/ConversionMode", "fromName", "(Ljava/lang/String;)Lcom/example/shapegen/shapegen/ConversionMode;"⟩) (σ := shp) hnm d_frn_3 (wd hw 52 rfl) rfl rfl (Wt := 1) (Nat.le_of_eq rfl) (by decide) ?_
  intro a cK Md Fn
  show G E x T1 (fr x 8 #[.val (.ref s)] [(.ref a), (.ref bb)])
  refine w_aloadN W5 B d_frn_8 rfl rfl ?_
  refine w_ldcO W5 B (n := 16) (text := "mode") d_frn_9 hw.2.2.1 (wd hw 55 rfl) (strAtoms hw) (by decide) (by decide) (by decide) (by decide) ?_
  intro T9 h9 mo W9 X9
  show G E x T9 (fr x 11 #[.val (.ref s)] [(.ref mo), (.ref s), (.ref a), (.ref bb)])
  refine w_static W9 B (y := ⟨"com/example/shapegen/shapegen/Lookup", "byName", "([Ljava/lang/Object;Ljava/util/function/Function;Ljava/lang/String;Ljava/lang/String;)Ljava/lang/Object;"⟩) d_frn_11 (wd hw 58 rfl) (wd hw 59 rfl) (wd hw 60 rfl) (wd hw 61 rfl) (by decide) pd___Ljava_lang_Object_Ljava_util_function_Function_Ljava_lang_String_Ljava_lang_String__Ljava_lang_Object_767 (argsL := [(.ref bb), (.ref a), (.ref s), (.ref mo)]) rfl rfl rfl (Wt := 0) (Nat.le_of_eq rfl) (byn0_met hw Sc Sf Sv Xc Xf Av Xv Fc Ff Tc Tf Md Fn (Ab.ext X9) ⟨((Ss.1.keep KV).ext X9), ((Ss.2.1.keep KV nin0).ext X9), ((Ss.2.2.1.keep KV nin0).ext X9), ((Ss.2.2.2.keep KV nin0).ext X9)⟩ hc hf) (by decide) (by decide) (by decide) (by decide) ?_
  intro T7 h8 F9 v10 W11 Q12
  obtain ⟨rfl, rfl, rfl⟩ := Q12
  show G E x T7 (fr x 14 #[.val (.ref s)] [(.ref c)])
  refine w_castY W11 B d_frn_14 (wd hw 82 rfl) (Ins.self (Xc.ext W11.old)) ?_
  intro T13 W14
  have KK15 : Keep h h2 [] := (Keep.refl h []).trans KV all0
  have KK16 : Keep h h9 [] := KK15.ext X9
  exact w_areturn W14 B d_frn_17 rfl rfl hQ (by decide) (by decide) (fun _ q => q) ⟨rfl, rfl, KK16⟩
set_option maxRecDepth 65536 in
set_option maxHeartbeats 4000000 in
theorem frn1_met {E : Gl} (hw : Tb E) {h : Heap} {F : List Addr} {c f va qc vc qf vf : Addr} {kv kc kf : ClassId} (Sc : Sta E.Z E.Z.heap "com/example/shapegen/shapegen/ConversionMode" "CONTRACT" "Lcom/example/shapegen/shapegen/ConversionMode;" (.ref c)) (Sf : Sta E.Z E.Z.heap "com/example/shapegen/shapegen/ConversionMode" "FRAMED" "Lcom/example/shapegen/shapegen/ConversionMode;" (.ref f)) (Sv : Sta E.Z E.Z.heap "com/example/shapegen/shapegen/ConversionMode" "$VALUES" "[Lcom/example/shapegen/shapegen/ConversionMode;" (.ref va)) (Xc : Exa E.Z E.Z.heap c "com/example/shapegen/shapegen/ConversionMode") (Xf : Exa E.Z E.Z.heap f "com/example/shapegen/shapegen/ConversionMode") (Av : Arv E.Z E.Z.heap va kv (.object "com/example/shapegen/shapegen/ConversionMode") 2 [.ref c, .ref f] .null) (Xv : Exa E.Z E.Z.heap va "[Lcom/example/shapegen/shapegen/ConversionMode;") (Fc : Fld E.Z E.Z.heap c "com/example/shapegen/shapegen/ConversionMode" "modeName" "Ljava/lang/String;" (.ref qc)) (Ff : Fld E.Z E.Z.heap f "com/example/shapegen/shapegen/ConversionMode" "modeName" "Ljava/lang/String;" (.ref qf)) (Tc : StrL E E.Z.heap qc vc kc csC) (Tf : StrL E E.Z.heap qf vf kf csF) {s sv : Addr} {ks : ClassId} (Ss : StrL E h s sv ks csF) (hc : qc ≠ s) (hf : qf ≠ s) :
    Met E (⟨"com/example/shapegen/shapegen/ConversionMode", "fromName", "(Ljava/lang/String;)Lcom/example/shapegen/shapegen/ConversionMode;"⟩ : MethodName) prog_1_method_5_code 1 (some (.object "com/example/shapegen/shapegen/ConversionMode")) ({ frames := 3, cells := 3, slots := 22, locals := 3073 } : Room) #[.ref s] h F (fun r h' F' => r = some (.ref f) ∧ F = F' ∧ Keep h h' []) := by
  refine met_ofN (by decide +kernel) fun x T hQ B hnm W => ?_
  refine G.cast (g' := fr x 0 #[.val (.ref s)] []) (by simp [entryFrame, mkF, argsToLocals, Own.cat_r, Own.cat_i, Own.cat_j, Own.cat_n]) ?_
  refine w_static W B (y := ⟨"com/example/shapegen/shapegen/ConversionMode", "values", "()[Lcom/example/shapegen/shapegen/ConversionMode;"⟩) d_frn_0 (wd hw 36 rfl) (wd hw 37 rfl) (wd hw 31 rfl) (wd hw 38 rfl) (by decide) pd____Lcom_example_shapegen_shapegen_ConversionMode_711 (argsL := []) rfl rfl rfl (Wt := 0) (Nat.le_of_eq rfl) (val_met hw Sc Sf Sv Xc Xf Av Xv Fc Ff Tc Tf) (by decide) (by decide) (by decide) (by decide) ?_
  intro T1 h2 F3 v4 W5 Q6
  obtain ⟨bb, rfl, rfl, KV, Ab⟩ := Q6
  show G E x T1 (fr x 3 #[.val (.ref s)] [(.ref bb)])
  refine w_site W5 B (y := ⟨"com/example/shapegen/shapegen/ConversionMode", "fromName", "(Ljava/lang/String;)Lcom/example/shapegen/shapegen/ConversionMode;"⟩) (σ := shp) hnm d_frn_3 (wd hw 52 rfl) rfl rfl (Wt := 1) (Nat.le_of_eq rfl) (by decide) ?_
  intro a cK Md Fn
  show G E x T1 (fr x 8 #[.val (.ref s)] [(.ref a), (.ref bb)])
  refine w_aloadN W5 B d_frn_8 rfl rfl ?_
  refine w_ldcO W5 B (n := 16) (text := "mode") d_frn_9 hw.2.2.1 (wd hw 55 rfl) (strAtoms hw) (by decide) (by decide) (by decide) (by decide) ?_
  intro T9 h9 mo W9 X9
  show G E x T9 (fr x 11 #[.val (.ref s)] [(.ref mo), (.ref s), (.ref a), (.ref bb)])
  refine w_static W9 B (y := ⟨"com/example/shapegen/shapegen/Lookup", "byName", "([Ljava/lang/Object;Ljava/util/function/Function;Ljava/lang/String;Ljava/lang/String;)Ljava/lang/Object;"⟩) d_frn_11 (wd hw 58 rfl) (wd hw 59 rfl) (wd hw 60 rfl) (wd hw 61 rfl) (by decide) pd___Ljava_lang_Object_Ljava_util_function_Function_Ljava_lang_String_Ljava_lang_String__Ljava_lang_Object_767 (argsL := [(.ref bb), (.ref a), (.ref s), (.ref mo)]) rfl rfl rfl (Wt := 0) (Nat.le_of_eq rfl) (byn1_met hw Sc Sf Sv Xc Xf Av Xv Fc Ff Tc Tf Md Fn (Ab.ext X9) ⟨((Ss.1.keep KV).ext X9), ((Ss.2.1.keep KV nin0).ext X9), ((Ss.2.2.1.keep KV nin0).ext X9), ((Ss.2.2.2.keep KV nin0).ext X9)⟩ hc hf) (by decide) (by decide) (by decide) (by decide) ?_
  intro T7 h8 F9 v10 W11 Q12
  obtain ⟨rfl, rfl, rfl⟩ := Q12
  show G E x T7 (fr x 14 #[.val (.ref s)] [(.ref f)])
  refine w_castY W11 B d_frn_14 (wd hw 82 rfl) (Ins.self (Xf.ext W11.old)) ?_
  intro T13 W14
  have KK15 : Keep h h2 [] := (Keep.refl h []).trans KV all0
  have KK16 : Keep h h9 [] := KK15.ext X9
  exact w_areturn W14 B d_frn_17 rfl rfl hQ (by decide) (by decide) (fun _ q => q) ⟨rfl, rfl, KK16⟩
set_option maxRecDepth 65536 in
set_option maxHeartbeats 4000000 in
theorem L12_0 {E : Gl} (hw : Tb E) {c f va qc vc qf vf : Addr} {kv kc kf : ClassId} (Sc : Sta E.Z E.Z.heap "com/example/shapegen/shapegen/ConversionMode" "CONTRACT" "Lcom/example/shapegen/shapegen/ConversionMode;" (.ref c)) (Sf : Sta E.Z E.Z.heap "com/example/shapegen/shapegen/ConversionMode" "FRAMED" "Lcom/example/shapegen/shapegen/ConversionMode;" (.ref f)) (Sv : Sta E.Z E.Z.heap "com/example/shapegen/shapegen/ConversionMode" "$VALUES" "[Lcom/example/shapegen/shapegen/ConversionMode;" (.ref va)) (Xc : Exa E.Z E.Z.heap c "com/example/shapegen/shapegen/ConversionMode") (Xf : Exa E.Z E.Z.heap f "com/example/shapegen/shapegen/ConversionMode") (Av : Arv E.Z E.Z.heap va kv (.object "com/example/shapegen/shapegen/ConversionMode") 2 [.ref c, .ref f] .null) (Xv : Exa E.Z E.Z.heap va "[Lcom/example/shapegen/shapegen/ConversionMode;") (Fc : Fld E.Z E.Z.heap c "com/example/shapegen/shapegen/ConversionMode" "modeName" "Ljava/lang/String;" (.ref qc)) (Ff : Fld E.Z E.Z.heap f "com/example/shapegen/shapegen/ConversionMode" "modeName" "Ljava/lang/String;" (.ref qf)) (Tc : StrL E E.Z.heap qc vc kc csC) (Tf : StrL E E.Z.heap qf vf kf csF) {x : Cx} {T : State} {h : Heap} (hQ : x.Q = fun r _ _ => r = some (.int 1)) (B : Is x "com/example/shapegen/shapegen/ConversionModeFromNamePinLaw" code 6 ({ frames := 7, cells := 24, slots := 1152, locals := 3248 } : Room) (some .boolean) "law") {p0 : Int32} (W : Wk E x T h [] 0 0) : G E x T (fr x 12 #[.val (.int p0), .val (.int (0 : Int32)), .unset, .unset, .unset, .unset] []) := by
  refine w_iloadN W B d_law_12 rfl ?_
  refine w_if_eq W B d_law_13 (fun _ => ?_) (fun q => q rfl |>.elim)
  show G E x T (fr x 54 #[.val (.int p0), .val (.int (0 : Int32)), .unset, .unset, .unset, .unset] [])
  refine w_bipush W B d_law_54 (v := (8 : Int32)) rfl ?_
  refine w_newarray W B d_law_56 rfl (wd hw 0 rfl) (by decide) (cap := 8) (by decide) (by decide) (by decide) (by decide) ?_
  intro T1 h2 b3 k4 W5 g6 X7 A8
  have A9 : Arv E.Z h2 b3 k4 .char (8 : Int32) [(.int (0 : Int32)), (.int (0 : Int32)), (.int (0 : Int32)), (.int (0 : Int32)), (.int (0 : Int32)), (.int (0 : Int32)), (.int (0 : Int32)), (.int (0 : Int32))] (.int (0 : Int32)) := A8.pad (pad_rep [] (.int (0 : Int32)) 8)
  show G E x T1 (fr x 58 #[.val (.int p0), .val (.int (0 : Int32)), .unset, .unset, .unset, .unset] [(.ref b3)])
  refine w_dup W5 B d_law_58 rfl ?_
  refine w_iconst W5 B d_law_59 (v := (0 : Int32)) rfl ?_
  refine w_bipush W5 B d_law_60 (v := (99 : Int32)) rfl ?_
  refine w_castore W5 B d_law_62 (List.Mem.head _) A9 (by decide) (i := 0) rfl (by first | decide | simp) (u := (99 : Int32)) (by decide) ?_
  intro T10 h11 W12 K13 A14
  have A15 : Arv E.Z h11 b3 k4 .char (8 : Int32) [(.int (99 : Int32)), (.int (0 : Int32)), (.int (0 : Int32)), (.int (0 : Int32)), (.int (0 : Int32)), (.int (0 : Int32)), (.int (0 : Int32)), (.int (0 : Int32))] (.int (0 : Int32)) := A14
  refine w_dup W12 B d_law_63 rfl ?_
  refine w_iconst W12 B d_law_64 (v := (1 : Int32)) rfl ?_
  refine w_bipush W12 B d_law_65 (v := (111 : Int32)) rfl ?_
  refine w_castore W12 B d_law_67 (List.Mem.head _) A15 (by decide) (i := 1) rfl (by first | decide | simp) (u := (111 : Int32)) (by decide) ?_
  intro T16 h17 W18 K19 A20
  have A21 : Arv E.Z h17 b3 k4 .char (8 : Int32) [(.int (99 : Int32)), (.int (111 : Int32)), (.int (0 : Int32)), (.int (0 : Int32)), (.int (0 : Int32)), (.int (0 : Int32)), (.int (0 : Int32)), (.int (0 : Int32))] (.int (0 : Int32)) := A20
  refine w_dup W18 B d_law_68 rfl ?_
  refine w_iconst W18 B d_law_69 (v := (2 : Int32)) rfl ?_
  refine w_bipush W18 B d_law_70 (v := (110 : Int32)) rfl ?_
  refine w_castore W18 B d_law_72 (List.Mem.head _) A21 (by decide) (i := 2) rfl (by first | decide | simp) (u := (110 : Int32)) (by decide) ?_
  intro T22 h23 W24 K25 A26
  have A27 : Arv E.Z h23 b3 k4 .char (8 : Int32) [(.int (99 : Int32)), (.int (111 : Int32)), (.int (110 : Int32)), (.int (0 : Int32)), (.int (0 : Int32)), (.int (0 : Int32)), (.int (0 : Int32)), (.int (0 : Int32))] (.int (0 : Int32)) := A26
  refine w_dup W24 B d_law_73 rfl ?_
  refine w_iconst W24 B d_law_74 (v := (3 : Int32)) rfl ?_
  refine w_bipush W24 B d_law_75 (v := (116 : Int32)) rfl ?_
  refine w_castore W24 B d_law_77 (List.Mem.head _) A27 (by decide) (i := 3) rfl (by first | decide | simp) (u := (116 : Int32)) (by decide) ?_
  intro T28 h29 W30 K31 A32
  have A33 : Arv E.Z h29 b3 k4 .char (8 : Int32) [(.int (99 : Int32)), (.int (111 : Int32)), (.int (110 : Int32)), (.int (116 : Int32)), (.int (0 : Int32)), (.int (0 : Int32)), (.int (0 : Int32)), (.int (0 : Int32))] (.int (0 : Int32)) := A32
  refine w_dup W30 B d_law_78 rfl ?_
  refine w_iconst W30 B d_law_79 (v := (4 : Int32)) rfl ?_
  refine w_bipush W30 B d_law_80 (v := (114 : Int32)) rfl ?_
  refine w_castore W30 B d_law_82 (List.Mem.head _) A33 (by decide) (i := 4) rfl (by first | decide | simp) (u := (114 : Int32)) (by decide) ?_
  intro T34 h35 W36 K37 A38
  have A39 : Arv E.Z h35 b3 k4 .char (8 : Int32) [(.int (99 : Int32)), (.int (111 : Int32)), (.int (110 : Int32)), (.int (116 : Int32)), (.int (114 : Int32)), (.int (0 : Int32)), (.int (0 : Int32)), (.int (0 : Int32))] (.int (0 : Int32)) := A38
  refine w_dup W36 B d_law_83 rfl ?_
  refine w_iconst W36 B d_law_84 (v := (5 : Int32)) rfl ?_
  refine w_bipush W36 B d_law_85 (v := (97 : Int32)) rfl ?_
  refine w_castore W36 B d_law_87 (List.Mem.head _) A39 (by decide) (i := 5) rfl (by first | decide | simp) (u := (97 : Int32)) (by decide) ?_
  intro T40 h41 W42 K43 A44
  have A45 : Arv E.Z h41 b3 k4 .char (8 : Int32) [(.int (99 : Int32)), (.int (111 : Int32)), (.int (110 : Int32)), (.int (116 : Int32)), (.int (114 : Int32)), (.int (97 : Int32)), (.int (0 : Int32)), (.int (0 : Int32))] (.int (0 : Int32)) := A44
  refine w_dup W42 B d_law_88 rfl ?_
  refine w_bipush W42 B d_law_89 (v := (6 : Int32)) rfl ?_
  refine w_bipush W42 B d_law_91 (v := (99 : Int32)) rfl ?_
  refine w_castore W42 B d_law_93 (List.Mem.head _) A45 (by decide) (i := 6) rfl (by first | decide | simp) (u := (99 : Int32)) (by decide) ?_
  intro T46 h47 W48 K49 A50
  have A51 : Arv E.Z h47 b3 k4 .char (8 : Int32) [(.int (99 : Int32)), (.int (111 : Int32)), (.int (110 : Int32)), (.int (116 : Int32)), (.int (114 : Int32)), (.int (97 : Int32)), (.int (99 : Int32)), (.int (0 : Int32))] (.int (0 : Int32)) := A50
  refine w_dup W48 B d_law_94 rfl ?_
  refine w_bipush W48 B d_law_95 (v := (7 : Int32)) rfl ?_
  refine w_bipush W48 B d_law_97 (v := (116 : Int32)) rfl ?_
  refine w_castore W48 B d_law_99 (List.Mem.head _) A51 (by decide) (i := 7) rfl (by first | decide | simp) (u := (116 : Int32)) (by decide) ?_
  intro T52 h53 W54 K55 A56
  have A57 : Arv E.Z h53 b3 k4 .char (8 : Int32) [(.int (99 : Int32)), (.int (111 : Int32)), (.int (110 : Int32)), (.int (116 : Int32)), (.int (114 : Int32)), (.int (97 : Int32)), (.int (99 : Int32)), (.int (116 : Int32))] (.int (0 : Int32)) := A56
  refine w_astoreN W54 B d_law_100 rfl (Ls' := #[.val (.int p0), .val (.int (0 : Int32)), .val (.ref b3), .unset, .unset, .unset]) rfl ?_
  refine w_new W54 B d_law_101 (wd hw 1 rfl) (wd hw 2 rfl) (wd hw 3 rfl) (by decide) (by decide) ?_
  intro T58 h59 b60 W61 g62 X63 A64 D65
  have f66 : Fld E.Z h59 b60 "java/lang/String" "coder" "B" (.int (0 : Int32)) := D65 (Or.inr (wd hw 27 rfl)) (ty := .byte) (by decide)
  have f67 : Fld E.Z h59 b60 "java/lang/String" "value" "[B" .null := D65 (Or.inr (wd hw 29 rfl)) (ty := (.array .byte)) (by decide)
  show G E x T58 (fr x 104 #[.val (.int p0), .val (.int (0 : Int32)), .val (.ref b3), .unset, .unset, .unset] [(.ref b60)])
  refine w_dup W61 B d_law_104 rfl ?_
  refine w_aloadN W61 B d_law_105 rfl rfl ?_
  refine w_special W61 B (y := ⟨"java/lang/String", "<init>", "([C)V"⟩) d_law_106 rfl (wd hw 4 rfl) (wd hw 5 rfl) (wd hw 3 rfl) (wd hw 6 rfl) (by decide) pd___C_V325 (argsL := [(.ref b3)]) rfl rfl rfl (Wt := 1) (Nat.le_of_eq rfl) (ini1_met hw (cs := csC) (n := csC.length) rfl (by decide) (by decide) (by unfold Ch csC; decide) (by unfold Lat csC; decide) (List.Mem.head _) A64 f67 f66 (A57.ext X63)) (by decide) (by decide) (by decide) (by decide) ?_
  intro T68 h69 F70 v71 W72 Q73
  obtain ⟨rfl, rfl, K1, sv, V1, hv1⟩ := Q73
  obtain ⟨ks, Ss⟩ := V1.latin (by unfold Lat csC; decide)
  have hc : qc ≠ b60 := ne_new (Nat.lt_of_lt_of_le Tc.1.lt (Nat.le_trans (Nat.le_trans (Nat.le_trans (Nat.le_trans (Nat.le_trans (Nat.le_trans (Nat.le_trans (Nat.le_trans (Nat.le_trans W.old.1 X7.1) K13.1) K19.1) K25.1) K31.1) K37.1) K43.1) K49.1) K55.1)) g62
  have hf : qf ≠ b60 := ne_new (Nat.lt_of_lt_of_le Tf.1.lt (Nat.le_trans (Nat.le_trans (Nat.le_trans (Nat.le_trans (Nat.le_trans (Nat.le_trans (Nat.le_trans (Nat.le_trans (Nat.le_trans W.old.1 X7.1) K13.1) K19.1) K25.1) K31.1) K37.1) K43.1) K49.1) K55.1)) g62
  show G E x T68 (fr x 109 #[.val (.int p0), .val (.int (0 : Int32)), .val (.ref b3), .unset, .unset, .unset] [(.ref b60)])
  refine w_astoreN W72 B d_law_109 rfl (Ls' := #[.val (.int p0), .val (.int (0 : Int32)), .val (.ref b3), .val (.ref b60), .unset, .unset]) rfl ?_
  refine w_iloadN W72 B d_law_110 rfl ?_
  refine w_if_eq W72 B d_law_111 (fun _ => ?_) (fun q => q rfl |>.elim)
  show G E x T68 (fr x 122 #[.val (.int p0), .val (.int (0 : Int32)), .val (.ref b3), .val (.ref b60), .unset, .unset] [])
  refine w_getS W72 B d_law_122 (wd hw 30 rfl) Via.refl Sc ?_
  intro T74 W75
  refine w_astore W75 B d_law_125 rfl (Ls' := #[.val (.int p0), .val (.int (0 : Int32)), .val (.ref b3), .val (.ref b60), .val (.ref c), .unset]) rfl ?_
  refine w_aloadN W75 B d_law_127 rfl rfl ?_
  refine w_static W75 B (y := ⟨"com/example/shapegen/shapegen/ConversionMode", "fromName", "(Ljava/lang/String;)Lcom/example/shapegen/shapegen/ConversionMode;"⟩) d_law_128 (wd hw 33 rfl) (wd hw 34 rfl) (wd hw 31 rfl) (wd hw 35 rfl) (by decide) pd__Ljava_lang_String__Lcom_example_shapegen_shapegen_ConversionMode_322 (argsL := [(.ref b60)]) rfl rfl rfl (Wt := 0) (Nat.le_of_eq rfl) (frn0_met hw Sc Sf Sv Xc Xf Av Xv Fc Ff Tc Tf ⟨Ss.1, Ss.2.1, Ss.2.2.1, Ss.2.2.2⟩ hc hf) (by decide) (by decide) (by decide) (by decide) ?_
  intro T76 h77 F78 v79 W80 Q81
  obtain ⟨rfl, rfl, KF⟩ := Q81
  show G E x T76 (fr x 131 #[.val (.int p0), .val (.int (0 : Int32)), .val (.ref b3), .val (.ref b60), .val (.ref c), .unset] [(.ref c)])
  refine w_astore W80 B d_law_131 rfl (Ls' := #[.val (.int p0), .val (.int (0 : Int32)), .val (.ref b3), .val (.ref b60), .val (.ref c), .val (.ref c)]) rfl ?_
  refine w_aload W80 B d_law_133 rfl rfl ?_
  refine w_aload W80 B d_law_135 rfl rfl ?_
  refine w_acmp_ne_y W80 B d_law_137 rfl rfl rfl ?_
  show G E x T76 (fr x 140 #[.val (.int p0), .val (.int (0 : Int32)), .val (.ref b3), .val (.ref b60), .val (.ref c), .val (.ref c)] [])
  refine w_aload W80 B d_law_140 rfl rfl ?_
  refine w_virtual W80 B (y := ⟨"com/example/shapegen/shapegen/ConversionMode", "modeName", "()Ljava/lang/String;"⟩) (z := ⟨"com/example/shapegen/shapegen/ConversionMode", "modeName", "()Ljava/lang/String;"⟩) d_law_142 (wd hw 83 rfl) (wd hw 65 rfl) (nf_sel (wd hw 66 rfl)) (wd hw 66 rfl) (wd hw 67 rfl) (wd hw 31 rfl) (wd hw 68 rfl) (by decide) (Xc.ext W80.old) pd___Ljava_lang_String_780 (argsL := []) rfl rfl rfl (Wt := 0) (Nat.le_of_eq rfl) (mdn_met hw (Fc.ext W80.old)) (by decide) (by decide) (by decide) (by decide) ?_
  intro T82 h83 F84 v85 W86 Q87
  obtain ⟨rfl, rfl, rfl⟩ := Q87
  show G E x T82 (fr x 145 #[.val (.int p0), .val (.int (0 : Int32)), .val (.ref b3), .val (.ref b60), .val (.ref c), .val (.ref c)] [(.ref qc)])
  refine w_aloadN W86 B d_law_145 rfl rfl ?_
  refine w_virtual W86 B (y := ⟨"java/lang/String", "equals", "(Ljava/lang/Object;)Z"⟩) (z := ⟨"java/lang/String", "equals", "(Ljava/lang/Object;)Z"⟩) d_law_146 (wd hw 84 rfl) (wd hw 73 rfl) (nf_sel (wd hw 75 rfl)) (wd hw 75 rfl) (wd hw 74 rfl) (wd hw 3 rfl) (wd hw 76 rfl) (by decide) (Tc.ext W86.old).1 pd__Ljava_lang_Object__Z838 (argsL := [(.ref b60)]) rfl rfl rfl (Wt := 0) (Nat.le_of_eq rfl) (seq_met hw (cs := csC) (Tc.ext W86.old) ⟨(Ss.1.keep KF), (Ss.2.1.keep KF nin0), (Ss.2.2.1.keep KF nin0), (Ss.2.2.2.keep KF nin0)⟩ hc (by decide)) (by decide) (by decide) (by decide) (by decide) ?_
  intro T88 h89 F90 v91 W92 Q93
  obtain ⟨rfl, rfl, rfl⟩ := Q93
  show G E x T88 (fr x 149 #[.val (.int p0), .val (.int (0 : Int32)), .val (.ref b3), .val (.ref b60), .val (.ref c), .val (.ref c)] [(.int (1 : Int32))])
  refine w_if_eq W92 B d_law_149 (fun q => absurd q (by decide)) (fun _ => ?_)
  show G E x T88 (fr x 152 #[.val (.int p0), .val (.int (0 : Int32)), .val (.ref b3), .val (.ref b60), .val (.ref c), .val (.ref c)] [])
  refine w_iconst W92 B d_law_152 (v := (1 : Int32)) rfl ?_
  refine w_goto W92 B d_law_153 ?_
  exact w_ireturnN W92 B d_law_157 (Or.inl rfl) (u := 1) rfl hQ (by decide) (by decide) (F' := []) (fun _ q => nomatch q) rfl
set_option maxRecDepth 65536 in
set_option maxHeartbeats 4000000 in
theorem L12_1 {E : Gl} (hw : Tb E) {c f va qc vc qf vf : Addr} {kv kc kf : ClassId} (Sc : Sta E.Z E.Z.heap "com/example/shapegen/shapegen/ConversionMode" "CONTRACT" "Lcom/example/shapegen/shapegen/ConversionMode;" (.ref c)) (Sf : Sta E.Z E.Z.heap "com/example/shapegen/shapegen/ConversionMode" "FRAMED" "Lcom/example/shapegen/shapegen/ConversionMode;" (.ref f)) (Sv : Sta E.Z E.Z.heap "com/example/shapegen/shapegen/ConversionMode" "$VALUES" "[Lcom/example/shapegen/shapegen/ConversionMode;" (.ref va)) (Xc : Exa E.Z E.Z.heap c "com/example/shapegen/shapegen/ConversionMode") (Xf : Exa E.Z E.Z.heap f "com/example/shapegen/shapegen/ConversionMode") (Av : Arv E.Z E.Z.heap va kv (.object "com/example/shapegen/shapegen/ConversionMode") 2 [.ref c, .ref f] .null) (Xv : Exa E.Z E.Z.heap va "[Lcom/example/shapegen/shapegen/ConversionMode;") (Fc : Fld E.Z E.Z.heap c "com/example/shapegen/shapegen/ConversionMode" "modeName" "Ljava/lang/String;" (.ref qc)) (Ff : Fld E.Z E.Z.heap f "com/example/shapegen/shapegen/ConversionMode" "modeName" "Ljava/lang/String;" (.ref qf)) (Tc : StrL E E.Z.heap qc vc kc csC) (Tf : StrL E E.Z.heap qf vf kf csF) {x : Cx} {T : State} {h : Heap} (hQ : x.Q = fun r _ _ => r = some (.int 1)) (B : Is x "com/example/shapegen/shapegen/ConversionModeFromNamePinLaw" code 6 ({ frames := 7, cells := 24, slots := 1152, locals := 3248 } : Room) (some .boolean) "law") {p0 : Int32} (W : Wk E x T h [] 0 0) : G E x T (fr x 12 #[.val (.int p0), .val (.int (1 : Int32)), .unset, .unset, .unset, .unset] []) := by
  refine w_iloadN W B d_law_12 rfl ?_
  refine w_if_eq W B d_law_13 (fun q => absurd q (by decide)) (fun _ => ?_)
  show G E x T (fr x 16 #[.val (.int p0), .val (.int (1 : Int32)), .unset, .unset, .unset, .unset] [])
  refine w_bipush W B d_law_16 (v := (6 : Int32)) rfl ?_
  refine w_newarray W B d_law_18 rfl (wd hw 0 rfl) (by decide) (cap := 6) (by decide) (by decide) (by decide) (by decide) ?_
  intro T1 h2 b3 k4 W5 g6 X7 A8
  have A9 : Arv E.Z h2 b3 k4 .char (6 : Int32) [(.int (0 : Int32)), (.int (0 : Int32)), (.int (0 : Int32)), (.int (0 : Int32)), (.int (0 : Int32)), (.int (0 : Int32))] (.int (0 : Int32)) := A8.pad (pad_rep [] (.int (0 : Int32)) 6)
  show G E x T1 (fr x 20 #[.val (.int p0), .val (.int (1 : Int32)), .unset, .unset, .unset, .unset] [(.ref b3)])
  refine w_dup W5 B d_law_20 rfl ?_
  refine w_iconst W5 B d_law_21 (v := (0 : Int32)) rfl ?_
  refine w_bipush W5 B d_law_22 (v := (102 : Int32)) rfl ?_
  refine w_castore W5 B d_law_24 (List.Mem.head _) A9 (by decide) (i := 0) rfl (by first | decide | simp) (u := (102 : Int32)) (by decide) ?_
  intro T10 h11 W12 K13 A14
  have A15 : Arv E.Z h11 b3 k4 .char (6 : Int32) [(.int (102 : Int32)), (.int (0 : Int32)), (.int (0 : Int32)), (.int (0 : Int32)), (.int (0 : Int32)), (.int (0 : Int32))] (.int (0 : Int32)) := A14
  refine w_dup W12 B d_law_25 rfl ?_
  refine w_iconst W12 B d_law_26 (v := (1 : Int32)) rfl ?_
  refine w_bipush W12 B d_law_27 (v := (114 : Int32)) rfl ?_
  refine w_castore W12 B d_law_29 (List.Mem.head _) A15 (by decide) (i := 1) rfl (by first | decide | simp) (u := (114 : Int32)) (by decide) ?_
  intro T16 h17 W18 K19 A20
  have A21 : Arv E.Z h17 b3 k4 .char (6 : Int32) [(.int (102 : Int32)), (.int (114 : Int32)), (.int (0 : Int32)), (.int (0 : Int32)), (.int (0 : Int32)), (.int (0 : Int32))] (.int (0 : Int32)) := A20
  refine w_dup W18 B d_law_30 rfl ?_
  refine w_iconst W18 B d_law_31 (v := (2 : Int32)) rfl ?_
  refine w_bipush W18 B d_law_32 (v := (97 : Int32)) rfl ?_
  refine w_castore W18 B d_law_34 (List.Mem.head _) A21 (by decide) (i := 2) rfl (by first | decide | simp) (u := (97 : Int32)) (by decide) ?_
  intro T22 h23 W24 K25 A26
  have A27 : Arv E.Z h23 b3 k4 .char (6 : Int32) [(.int (102 : Int32)), (.int (114 : Int32)), (.int (97 : Int32)), (.int (0 : Int32)), (.int (0 : Int32)), (.int (0 : Int32))] (.int (0 : Int32)) := A26
  refine w_dup W24 B d_law_35 rfl ?_
  refine w_iconst W24 B d_law_36 (v := (3 : Int32)) rfl ?_
  refine w_bipush W24 B d_law_37 (v := (109 : Int32)) rfl ?_
  refine w_castore W24 B d_law_39 (List.Mem.head _) A27 (by decide) (i := 3) rfl (by first | decide | simp) (u := (109 : Int32)) (by decide) ?_
  intro T28 h29 W30 K31 A32
  have A33 : Arv E.Z h29 b3 k4 .char (6 : Int32) [(.int (102 : Int32)), (.int (114 : Int32)), (.int (97 : Int32)), (.int (109 : Int32)), (.int (0 : Int32)), (.int (0 : Int32))] (.int (0 : Int32)) := A32
  refine w_dup W30 B d_law_40 rfl ?_
  refine w_iconst W30 B d_law_41 (v := (4 : Int32)) rfl ?_
  refine w_bipush W30 B d_law_42 (v := (101 : Int32)) rfl ?_
  refine w_castore W30 B d_law_44 (List.Mem.head _) A33 (by decide) (i := 4) rfl (by first | decide | simp) (u := (101 : Int32)) (by decide) ?_
  intro T34 h35 W36 K37 A38
  have A39 : Arv E.Z h35 b3 k4 .char (6 : Int32) [(.int (102 : Int32)), (.int (114 : Int32)), (.int (97 : Int32)), (.int (109 : Int32)), (.int (101 : Int32)), (.int (0 : Int32))] (.int (0 : Int32)) := A38
  refine w_dup W36 B d_law_45 rfl ?_
  refine w_iconst W36 B d_law_46 (v := (5 : Int32)) rfl ?_
  refine w_bipush W36 B d_law_47 (v := (100 : Int32)) rfl ?_
  refine w_castore W36 B d_law_49 (List.Mem.head _) A39 (by decide) (i := 5) rfl (by first | decide | simp) (u := (100 : Int32)) (by decide) ?_
  intro T40 h41 W42 K43 A44
  have A45 : Arv E.Z h41 b3 k4 .char (6 : Int32) [(.int (102 : Int32)), (.int (114 : Int32)), (.int (97 : Int32)), (.int (109 : Int32)), (.int (101 : Int32)), (.int (100 : Int32))] (.int (0 : Int32)) := A44
  refine w_astoreN W42 B d_law_50 rfl (Ls' := #[.val (.int p0), .val (.int (1 : Int32)), .val (.ref b3), .unset, .unset, .unset]) rfl ?_
  refine w_goto W42 B d_law_51 ?_
  refine w_new W42 B d_law_101 (wd hw 1 rfl) (wd hw 2 rfl) (wd hw 3 rfl) (by decide) (by decide) ?_
  intro T46 h47 b48 W49 g50 X51 A52 D53
  have f54 : Fld E.Z h47 b48 "java/lang/String" "coder" "B" (.int (0 : Int32)) := D53 (Or.inr (wd hw 27 rfl)) (ty := .byte) (by decide)
  have f55 : Fld E.Z h47 b48 "java/lang/String" "value" "[B" .null := D53 (Or.inr (wd hw 29 rfl)) (ty := (.array .byte)) (by decide)
  show G E x T46 (fr x 104 #[.val (.int p0), .val (.int (1 : Int32)), .val (.ref b3), .unset, .unset, .unset] [(.ref b48)])
  refine w_dup W49 B d_law_104 rfl ?_
  refine w_aloadN W49 B d_law_105 rfl rfl ?_
  refine w_special W49 B (y := ⟨"java/lang/String", "<init>", "([C)V"⟩) d_law_106 rfl (wd hw 4 rfl) (wd hw 5 rfl) (wd hw 3 rfl) (wd hw 6 rfl) (by decide) pd___C_V325 (argsL := [(.ref b3)]) rfl rfl rfl (Wt := 1) (Nat.le_of_eq rfl) (ini1_met hw (cs := csF) (n := csF.length) rfl (by decide) (by decide) (by unfold Ch csF; decide) (by unfold Lat csF; decide) (List.Mem.head _) A52 f55 f54 (A45.ext X51)) (by decide) (by decide) (by decide) (by decide) ?_
  intro T56 h57 F58 v59 W60 Q61
  obtain ⟨rfl, rfl, K1, sv, V1, hv1⟩ := Q61
  obtain ⟨ks, Ss⟩ := V1.latin (by unfold Lat csF; decide)
  have hc : qc ≠ b48 := ne_new (Nat.lt_of_lt_of_le Tc.1.lt (Nat.le_trans (Nat.le_trans (Nat.le_trans (Nat.le_trans (Nat.le_trans (Nat.le_trans (Nat.le_trans W.old.1 X7.1) K13.1) K19.1) K25.1) K31.1) K37.1) K43.1)) g50
  have hf : qf ≠ b48 := ne_new (Nat.lt_of_lt_of_le Tf.1.lt (Nat.le_trans (Nat.le_trans (Nat.le_trans (Nat.le_trans (Nat.le_trans (Nat.le_trans (Nat.le_trans W.old.1 X7.1) K13.1) K19.1) K25.1) K31.1) K37.1) K43.1)) g50
  show G E x T56 (fr x 109 #[.val (.int p0), .val (.int (1 : Int32)), .val (.ref b3), .unset, .unset, .unset] [(.ref b48)])
  refine w_astoreN W60 B d_law_109 rfl (Ls' := #[.val (.int p0), .val (.int (1 : Int32)), .val (.ref b3), .val (.ref b48), .unset, .unset]) rfl ?_
  refine w_iloadN W60 B d_law_110 rfl ?_
  refine w_if_eq W60 B d_law_111 (fun q => absurd q (by decide)) (fun _ => ?_)
  show G E x T56 (fr x 114 #[.val (.int p0), .val (.int (1 : Int32)), .val (.ref b3), .val (.ref b48), .unset, .unset] [])
  refine w_getS W60 B d_law_114 (wd hw 85 rfl) Via.refl Sf ?_
  intro T62 W63
  refine w_astore W63 B d_law_117 rfl (Ls' := #[.val (.int p0), .val (.int (1 : Int32)), .val (.ref b3), .val (.ref b48), .val (.ref f), .unset]) rfl ?_
  refine w_goto W63 B d_law_119 ?_
  refine w_aloadN W63 B d_law_127 rfl rfl ?_
  refine w_static W63 B (y := ⟨"com/example/shapegen/shapegen/ConversionMode", "fromName", "(Ljava/lang/String;)Lcom/example/shapegen/shapegen/ConversionMode;"⟩) d_law_128 (wd hw 33 rfl) (wd hw 34 rfl) (wd hw 31 rfl) (wd hw 35 rfl) (by decide) pd__Ljava_lang_String__Lcom_example_shapegen_shapegen_ConversionMode_322 (argsL := [(.ref b48)]) rfl rfl rfl (Wt := 0) (Nat.le_of_eq rfl) (frn1_met hw Sc Sf Sv Xc Xf Av Xv Fc Ff Tc Tf ⟨Ss.1, Ss.2.1, Ss.2.2.1, Ss.2.2.2⟩ hc hf) (by decide) (by decide) (by decide) (by decide) ?_
  intro T64 h65 F66 v67 W68 Q69
  obtain ⟨rfl, rfl, KF⟩ := Q69
  show G E x T64 (fr x 131 #[.val (.int p0), .val (.int (1 : Int32)), .val (.ref b3), .val (.ref b48), .val (.ref f), .unset] [(.ref f)])
  refine w_astore W68 B d_law_131 rfl (Ls' := #[.val (.int p0), .val (.int (1 : Int32)), .val (.ref b3), .val (.ref b48), .val (.ref f), .val (.ref f)]) rfl ?_
  refine w_aload W68 B d_law_133 rfl rfl ?_
  refine w_aload W68 B d_law_135 rfl rfl ?_
  refine w_acmp_ne_y W68 B d_law_137 rfl rfl rfl ?_
  show G E x T64 (fr x 140 #[.val (.int p0), .val (.int (1 : Int32)), .val (.ref b3), .val (.ref b48), .val (.ref f), .val (.ref f)] [])
  refine w_aload W68 B d_law_140 rfl rfl ?_
  refine w_virtual W68 B (y := ⟨"com/example/shapegen/shapegen/ConversionMode", "modeName", "()Ljava/lang/String;"⟩) (z := ⟨"com/example/shapegen/shapegen/ConversionMode", "modeName", "()Ljava/lang/String;"⟩) d_law_142 (wd hw 83 rfl) (wd hw 65 rfl) (nf_sel (wd hw 66 rfl)) (wd hw 66 rfl) (wd hw 67 rfl) (wd hw 31 rfl) (wd hw 68 rfl) (by decide) (Xf.ext W68.old) pd___Ljava_lang_String_780 (argsL := []) rfl rfl rfl (Wt := 0) (Nat.le_of_eq rfl) (mdn_met hw (Ff.ext W68.old)) (by decide) (by decide) (by decide) (by decide) ?_
  intro T70 h71 F72 v73 W74 Q75
  obtain ⟨rfl, rfl, rfl⟩ := Q75
  show G E x T70 (fr x 145 #[.val (.int p0), .val (.int (1 : Int32)), .val (.ref b3), .val (.ref b48), .val (.ref f), .val (.ref f)] [(.ref qf)])
  refine w_aloadN W74 B d_law_145 rfl rfl ?_
  refine w_virtual W74 B (y := ⟨"java/lang/String", "equals", "(Ljava/lang/Object;)Z"⟩) (z := ⟨"java/lang/String", "equals", "(Ljava/lang/Object;)Z"⟩) d_law_146 (wd hw 84 rfl) (wd hw 73 rfl) (nf_sel (wd hw 75 rfl)) (wd hw 75 rfl) (wd hw 74 rfl) (wd hw 3 rfl) (wd hw 76 rfl) (by decide) (Tf.ext W74.old).1 pd__Ljava_lang_Object__Z838 (argsL := [(.ref b48)]) rfl rfl rfl (Wt := 0) (Nat.le_of_eq rfl) (seq_met hw (cs := csF) (Tf.ext W74.old) ⟨(Ss.1.keep KF), (Ss.2.1.keep KF nin0), (Ss.2.2.1.keep KF nin0), (Ss.2.2.2.keep KF nin0)⟩ hf (by decide)) (by decide) (by decide) (by decide) (by decide) ?_
  intro T76 h77 F78 v79 W80 Q81
  obtain ⟨rfl, rfl, rfl⟩ := Q81
  show G E x T76 (fr x 149 #[.val (.int p0), .val (.int (1 : Int32)), .val (.ref b3), .val (.ref b48), .val (.ref f), .val (.ref f)] [(.int (1 : Int32))])
  refine w_if_eq W80 B d_law_149 (fun q => absurd q (by decide)) (fun _ => ?_)
  show G E x T76 (fr x 152 #[.val (.int p0), .val (.int (1 : Int32)), .val (.ref b3), .val (.ref b48), .val (.ref f), .val (.ref f)] [])
  refine w_iconst W80 B d_law_152 (v := (1 : Int32)) rfl ?_
  refine w_goto W80 B d_law_153 ?_
  exact w_ireturnN W80 B d_law_157 (Or.inl rfl) (u := 1) rfl hQ (by decide) (by decide) (F' := []) (fun _ q => nomatch q) rfl
set_option maxRecDepth 65536 in
set_option maxHeartbeats 4000000 in
theorem L0 {E : Gl} (hw : Tb E) {c f va qc vc qf vf : Addr} {kv kc kf : ClassId} (Sc : Sta E.Z E.Z.heap "com/example/shapegen/shapegen/ConversionMode" "CONTRACT" "Lcom/example/shapegen/shapegen/ConversionMode;" (.ref c)) (Sf : Sta E.Z E.Z.heap "com/example/shapegen/shapegen/ConversionMode" "FRAMED" "Lcom/example/shapegen/shapegen/ConversionMode;" (.ref f)) (Sv : Sta E.Z E.Z.heap "com/example/shapegen/shapegen/ConversionMode" "$VALUES" "[Lcom/example/shapegen/shapegen/ConversionMode;" (.ref va)) (Xc : Exa E.Z E.Z.heap c "com/example/shapegen/shapegen/ConversionMode") (Xf : Exa E.Z E.Z.heap f "com/example/shapegen/shapegen/ConversionMode") (Av : Arv E.Z E.Z.heap va kv (.object "com/example/shapegen/shapegen/ConversionMode") 2 [.ref c, .ref f] .null) (Xv : Exa E.Z E.Z.heap va "[Lcom/example/shapegen/shapegen/ConversionMode;") (Fc : Fld E.Z E.Z.heap c "com/example/shapegen/shapegen/ConversionMode" "modeName" "Ljava/lang/String;" (.ref qc)) (Ff : Fld E.Z E.Z.heap f "com/example/shapegen/shapegen/ConversionMode" "modeName" "Ljava/lang/String;" (.ref qf)) (Tc : StrL E E.Z.heap qc vc kc csC) (Tf : StrL E E.Z.heap qf vf kf csF) {x : Cx} {T : State} {h : Heap} (hQ : x.Q = fun r _ _ => r = some (.int 1)) (B : Is x "com/example/shapegen/shapegen/ConversionModeFromNamePinLaw" code 6 ({ frames := 7, cells := 24, slots := 1152, locals := 3248 } : Room) (some .boolean) "law") {p0 : Int32} (W : Wk E x T h [] 0 0) : G E x T (fr x 0 #[.val (.int p0), .unset, .unset, .unset, .unset, .unset] []) := by
  refine w_iloadN W B d_law_0 rfl ?_
  refine w_iconst W B d_law_1 (v := (1 : Int32)) rfl ?_
  refine w_iand W B d_law_2 ?_
  refine w_if_eq W B d_law_3 ?_ ?_
  · intro hc3
    show G E x T (fr x 10 #[.val (.int p0), .unset, .unset, .unset, .unset, .unset] [])
    refine w_iconst W B d_law_10 (v := (0 : Int32)) rfl ?_
    refine w_istoreN W B d_law_11 (Ls' := #[.val (.int p0), .val (.int (0 : Int32)), .unset, .unset, .unset, .unset]) rfl ?_
    exact L12_0 hw Sc Sf Sv Xc Xf Av Xv Fc Ff Tc Tf hQ B W
  · intro hc3
    show G E x T (fr x 6 #[.val (.int p0), .unset, .unset, .unset, .unset, .unset] [])
    refine w_iconst W B d_law_6 (v := (1 : Int32)) rfl ?_
    refine w_goto W B d_law_7 ?_
    refine w_istoreN W B d_law_11 (Ls' := #[.val (.int p0), .val (.int (1 : Int32)), .unset, .unset, .unset, .unset]) rfl ?_
    exact L12_1 hw Sc Sf Sv Xc Xf Av Xv Fc Ff Tc Tf hQ B W
set_option maxRecDepth 65536 in
set_option maxHeartbeats 4000000 in
theorem law_met {E : Gl} (hw : Tb E) {c f va qc vc qf vf : Addr} {kv kc kf : ClassId} (Sc : Sta E.Z E.Z.heap "com/example/shapegen/shapegen/ConversionMode" "CONTRACT" "Lcom/example/shapegen/shapegen/ConversionMode;" (.ref c)) (Sf : Sta E.Z E.Z.heap "com/example/shapegen/shapegen/ConversionMode" "FRAMED" "Lcom/example/shapegen/shapegen/ConversionMode;" (.ref f)) (Sv : Sta E.Z E.Z.heap "com/example/shapegen/shapegen/ConversionMode" "$VALUES" "[Lcom/example/shapegen/shapegen/ConversionMode;" (.ref va)) (Xc : Exa E.Z E.Z.heap c "com/example/shapegen/shapegen/ConversionMode") (Xf : Exa E.Z E.Z.heap f "com/example/shapegen/shapegen/ConversionMode") (Av : Arv E.Z E.Z.heap va kv (.object "com/example/shapegen/shapegen/ConversionMode") 2 [.ref c, .ref f] .null) (Xv : Exa E.Z E.Z.heap va "[Lcom/example/shapegen/shapegen/ConversionMode;") (Fc : Fld E.Z E.Z.heap c "com/example/shapegen/shapegen/ConversionMode" "modeName" "Ljava/lang/String;" (.ref qc)) (Ff : Fld E.Z E.Z.heap f "com/example/shapegen/shapegen/ConversionMode" "modeName" "Ljava/lang/String;" (.ref qf)) (Tc : StrL E E.Z.heap qc vc kc csC) (Tf : StrL E E.Z.heap qf vf kf csF) (p0 : Int32) (h : Heap) :
    MetT tables_1 E x code maxLocals ret room_1 #[.int p0] h [] (fun r _ _ => r = some (.int 1)) := by
  refine met_of (by decide +kernel) fun x T hQ B W => ?_
  refine G.cast (g' := fr x 0 #[.val (.int p0), .unset, .unset, .unset, .unset, .unset] []) (by simp [entryFrame, mkF, argsToLocals, Own.cat_i, Own.cat_j, maxLocals]) ?_
  exact L0 hw Sc Sf Sv Xc Xf Av Xv Fc Ff Tc Tf hQ B W
set_option maxRecDepth 65536 in
set_option maxHeartbeats 4000000 in
theorem comes_1 {Post : Tables → Env → Array Value → State → Outcome → State → Prop} (hpost : ∀ tb e args s v u, (limb_1_1.after args s (.returned v) u = true ∧ limb_1_2.after args s (.returned v) u = true ∧ True) → FramedW s (.returned v) u (Jvm.fieldLocs frame_1_writes args s ++ Jvm.arrayLocs frame_1_arrays args s ++ Jvm.staticLocs frame_1_statics s) 24 1152 → Post tb e args s (.returned v) u) :
    ArmFor flags0 classFile x code maxLocals ret World_1 tables_1 room_1 Calls_1 rest_1 Pre_1 Post := by
  intro l hfl _ _ p e ha hc hk s m args below hf hA hF happ hP
  obtain ⟨hcalls, hrest, hpre⟩ := hP
  obtain ⟨-, -, -, hnamed, -, -, -, hat⟩ := (Spec.applies_iff hf).mp happ
  obtain ⟨hg, hn⟩ := and_e (Cond.before_iff.mp (show (Jvm.Cond.and given_1 narrow_1).before args s = true from hpre))
  obtain ⟨hg0, g0⟩ := and_e hg
  have k0 := g0
  obtain ⟨w0, rfl⟩ : ∃ w0 : Value, args = #[w0] := by
    have hs : args.size = 1 := by simpa [Cond.value, given_1] using hg0
    obtain ⟨L⟩ := args
    match L, hs with
    | [w0], _ => exact ⟨w0, rfl⟩
  obtain ⟨p0, e0⟩ := is_v k0
  obtain rfl : w0 = (.int p0) := Option.some.inj e0
  have hw0 := fun d (hd : d ∈ tables_1) => atoms_spec (ws := Jvm.Cond.code x code maxLocals ret :: tables_1) hat d (List.mem_cons_of_mem _ hd)
  obtain ⟨hsets, hown0⟩ := atoms_of _ (rest_1_c_eq ▸ (show rest_1_c.before _ s = true from hrest))
  have hfit : Fit s := fun {y c} hc i hi => by
    obtain ⟨ha, rfl⟩ := Array.getElem?_eq_some_iff.mp hc
    have q := List.all_eq_true.mp ((Array.all_eq_true_iff_forall_mem.mp hF) _ (Array.getElem_mem ha)) i (List.mem_range.mpr hi)
    simpa [Array.getElem?_eq_getElem hi] using q
  let E : Gl := (l, s, #[(.int p0)], s.heap.size, true, [])
  have hw : Tb E := ⟨hw0, hsets, rfl, rfl⟩
  have hEW : EW E.Z E.a E.K := EW.nil
  have hCH : CHv E.Z E.K E.Z.vm E.Z.heap := fun _ hp => nomatch hp
  obtain ⟨n0, g_1⟩ := and_e hn
  obtain ⟨n1, g_2⟩ := and_e g_1
  obtain ⟨n2, g_3⟩ := and_e g_2
  obtain ⟨n3, g_4⟩ := and_e g_3
  obtain ⟨n4, g_5⟩ := and_e g_4
  obtain ⟨n5, g_6⟩ := and_e g_5
  obtain ⟨n6, g_7⟩ := and_e g_6
  obtain ⟨n7, g_8⟩ := and_e g_7
  obtain ⟨n8, g_9⟩ := and_e g_8
  obtain ⟨n9, g_10⟩ := and_e g_9
  obtain ⟨n10, g_11⟩ := and_e g_10
  obtain ⟨n11, g_12⟩ := and_e g_11
  obtain ⟨n12, g_13⟩ := and_e g_12
  obtain ⟨n13, g_14⟩ := and_e g_13
  obtain ⟨n14, g_15⟩ := and_e g_14
  obtain ⟨n15, g_16⟩ := and_e g_15
  obtain ⟨n16, g_17⟩ := and_e g_16
  obtain ⟨n17, g_18⟩ := and_e g_17
  obtain ⟨n18, g_19⟩ := and_e g_18
  obtain ⟨n19, g_20⟩ := and_e g_19
  obtain ⟨n20, g_21⟩ := and_e g_20
  obtain ⟨n21, g_22⟩ := and_e g_21
  obtain ⟨n22, g_23⟩ := and_e g_22
  obtain ⟨n23, g_24⟩ := and_e g_23
  obtain ⟨n24, g_25⟩ := and_e g_24
  obtain ⟨n25, g_26⟩ := and_e g_25
  obtain ⟨n26, g_27⟩ := and_e g_26
  obtain ⟨n27, g_28⟩ := and_e g_27
  have n28 := g_28
  obtain ⟨c, ec⟩ := exa_v n0
  obtain ⟨f, ef⟩ := exa_v n5
  obtain ⟨va, ev⟩ := arr_v n1
  obtain ⟨cva, Aa⟩ := Arr.start ev n1
  obtain ⟨z1, z2⟩ := len_of_eq Aa ev n3
  have Av : Arv E.Z E.Z.heap va cva.cls (.object "com/example/shapegen/shapegen/ConversionMode") 2 [.ref c, .ref f] .null := Arv.start hfit Aa z1 z2 (by decide) rfl ⟨slot_r Aa ev ec n4, slot_r Aa ev ef n6, trivial⟩
  have Xc := Exa.start ec n0
  have Xf := Exa.start ef n5
  have Xv := Exa.start ev n2
  obtain ⟨qc, eqc⟩ := exa_v n7
  obtain ⟨vc, evc⟩ := arr_v n9
  obtain ⟨kc, Ac⟩ := Arr.start evc n9
  obtain ⟨lc, mc⟩ := len_of_eq Ac evc n10
  have Fc := fld_of ec eqc
  have Tc : StrL E E.Z.heap qc vc kc.cls csC := ⟨Exa.start eqc n7, fld_of eqc evc, fld_of eqc (eqv_i (Term.int_eval 0) n8), Arv.start hfit Ac lc mc (by decide) rfl ⟨slot_i Ac evc n15, slot_i Ac evc n16, slot_i Ac evc n17, slot_i Ac evc n18, slot_i Ac evc n19, slot_i Ac evc n20, slot_i Ac evc n21, slot_i Ac evc n22, trivial⟩⟩
  obtain ⟨qf, eqf⟩ := exa_v n11
  obtain ⟨vf, evf⟩ := arr_v n13
  obtain ⟨kf, Af⟩ := Arr.start evf n13
  obtain ⟨lf, mf⟩ := len_of_eq Af evf n14
  have Ff := fld_of ef eqf
  have Tf : StrL E E.Z.heap qf vf kf.cls csF := ⟨Exa.start eqf n11, fld_of eqf evf, fld_of eqf (eqv_i (Term.int_eval 0) n12), Arv.start hfit Af lf mf (by decide) rfl ⟨slot_i Af evf n23, slot_i Af evf n24, slot_i Af evf n25, slot_i Af evf n26, slot_i Af evf n27, slot_i Af evf n28, trivial⟩⟩
  have Sc : Sta E.Z E.Z.heap "com/example/shapegen/shapegen/ConversionMode" "CONTRACT" "Lcom/example/shapegen/shapegen/ConversionMode;" (.ref c) := Sta.start ec (Or.inr ⟨(wd hw 31 rfl), (wd hw 32 rfl)⟩)
  have Sf : Sta E.Z E.Z.heap "com/example/shapegen/shapegen/ConversionMode" "FRAMED" "Lcom/example/shapegen/shapegen/ConversionMode;" (.ref f) := Sta.start ef (Or.inr ⟨(wd hw 31 rfl), (wd hw 48 rfl)⟩)
  have Sv : Sta E.Z E.Z.heap "com/example/shapegen/shapegen/ConversionMode" "$VALUES" "[Lcom/example/shapegen/shapegen/ConversionMode;" (.ref va) := Sta.start ev (Or.inl (wd hw 49 rfl))
  obtain ⟨n, o, h1, h2, h3, v, L, F', rfl, rfl, N, -, -, -, hq⟩ := law_met hw Sc Sf Sv Xc Xf Av Xv Fc Ff Tc Tf p0 _ p e ha hc hk s m _ below hf ((Spec.applies_iff_loose hf).mp happ).1 ⟨rfl, State.Warmed39.refl s, rfl, Old.start s, hCH, (fun _ q => nomatch q), hEW, (fun q => nomatch q)⟩ trivial
  have hq : ReturnedEndW _ _ _ _ _ _ := hq
  exact ⟨n, _, h1, h2, h3, hpost _ _ _ _ _ _ ⟨Cond.after_iff.mpr rfl, Cond.after_iff.mpr (eq_i res_at (Term.int_eval (1)) rfl), trivial⟩ ⟨hq.1, hq.2.1, hq.2.2.1, hq.2.2.2.sift fun y hy => Or.inr (N y hy)⟩⟩
theorem main_1_1 : Claimed_1_1 := comes_1 fun _ _ _ _ _ _ h hF => ⟨h.1, hF⟩
theorem main_1_2 : Claimed_1_2 := comes_1 fun _ _ _ _ _ _ h hF => ⟨h.2.1, hF⟩
end Jvm.Pilot.@@N@@
namespace Jvm.Pilot.@@N@@
open Jvm Jvm.ClassFile Sem Op Lib Jvm.Free Jvm.Stand Jvm.Pilot.@@N@@.Jvm.D
/-! MADE BY PROGRAM (witnessworld.py) out of the Statement's table words and the real class files: 25 classes; the members and pool entries that the words name. The judged class is class 1, her method 1. -/
namespace start1
open Jvm.ClassFile
def u (s : String) : CpInfo := .utf8 (stringToUtf16 s)
/-- a pool by its gaps: so many unusable entries, then the entry; so many at the end -/
def gap : Nat → List CpInfo → List CpInfo
  | 0, r => r
  | n + 1, r => .unusable :: gap n r
def poolList (es : List (Nat × CpInfo)) (last : Nat) : List CpInfo := es.foldr (fun e r => gap e.1 (e.2 :: r)) (gap last [])
def pool (es : List (Nat × CpInfo)) (last : Nat) : Array CpInfo := ⟨poolList es last⟩
def fileOf (pool : Array CpInfo) (this : Nat) (attrs : Array Attribute := #[]) (ms : Array MethodInfo := #[]) (fl : Nat := 33) (sup : Nat := 0) (ifs : Array Nat := #[]) (fds : Array FieldInfo := #[]) : ClassFile where
  minorVersion := 0
  majorVersion := 65
  constantPool := pool
  accessFlags := fl
  thisClass := this
  superClass := sup
  interfaces := ifs
  fields := fds
  methods := ms
  attributes := attrs
def plain (name : String) (sup : Option ClassId) : Class where
  name := name
  kind := .ordinary
  loader := none
  accessFlags := 33
  super := sup
  interfaces := #[]
  cf := none
  fields := #[]
  methods := #[]
  instanceTypes := #[]
  staticTypes := #[]
  resolved := #[]
  callSites := []
  init := .initialized
  statics := none
  mirror := none

def pool0 : Array CpInfo := pool [(5, u "<init>"), (0, u "()V"), (1, .class_ 10), (1, u "java/lang/Object"), (85, u "clone"), (0, u "()Ljava/lang/Object;")] 26

def k0c0 : Code := { maxStack := 0, maxLocals := 1, code := object_method_1_code, exceptionTable := #[], attributes := #[] }
def k0m0 : Method := { name := "<init>", desc := "()V", sig := { parameters := [], returnType := none }, accessFlags := 1, code := some k0c0 }
def k0m1 : Method := { name := "clone", desc := "()Ljava/lang/Object;", sig := { parameters := [], returnType := some (.object "java/lang/Object") }, accessFlags := 260, code := none }
/-- java/lang/Object -/
def k0 : Class := { plain "java/lang/Object" none with
  accessFlags := 33
  interfaces := #[]
  cf := some (fileOf pool0 8 #[] #[{ accessFlags := 1, nameIndex := 5, descriptorIndex := 6, attributes := #[] }, { accessFlags := 260, nameIndex := 96, descriptorIndex := 97, attributes := #[] }] 33 0 #[] #[])
  fields := #[]
  methods := #[k0m0, k0m1]
  instanceTypes := #[]
  staticTypes := #[]
  resolved := Array.replicate 124 none
  statics := none }

def pool1 : Array CpInfo := pool [(2, .class_ 4), (1, u "java/lang/Object"), (0, u "<init>"), (0, u "()V"), (0, .class_ 8), (0, u "java/lang/String"), (0, .methodref 7 10), (0, .nameAndType 5 11), (0, u "([C)V"), (0, .fieldref 13 14), (0, .class_ 15), (0, .nameAndType 16 17), (0, u "com/example/shapegen/shapegen/ConversionMode"), (0, u "FRAMED"), (0, u "Lcom/example/shapegen/shapegen/ConversionMode;"), (0, .fieldref 13 19), (0, .nameAndType 20 17), (0, u "CONTRACT"), (0, .methodref 13 22), (0, .nameAndType 23 24), (0, u "fromName"), (0, u "(Ljava/lang/String;)Lcom/example/shapegen/shapegen/ConversionMode;"), (0, .methodref 13 26), (0, .nameAndType 27 28), (0, u "modeName"), (0, u "()Ljava/lang/String;"), (0, .methodref 7 30), (0, .nameAndType 31 32), (0, u "equals"), (0, u "(Ljava/lang/Object;)Z"), (0, .class_ 34), (0, u "com/example/shapegen/shapegen/ConversionModeFromNamePinLaw"), (2, u "law"), (0, u "(I)Z")] 5

def k1m0 : Method := { name := "<init>", desc := "()V", sig := { parameters := [], returnType := none }, accessFlags := 1, code := none }
def k1c1 : Code := { maxStack := 4, maxLocals := 6, code := code, exceptionTable := #[], attributes := #[] }
def k1m1 : Method := { name := "law", desc := "(I)Z", sig := { parameters := [.int], returnType := some .boolean }, accessFlags := 9, code := some k1c1 }
/-- com/example/shapegen/shapegen/ConversionModeFromNamePinLaw -/
def k1 : Class := { plain "com/example/shapegen/shapegen/ConversionModeFromNamePinLaw" (some 0) with
  accessFlags := 49
  interfaces := #[]
  cf := some (fileOf pool1 33 #[] #[{ accessFlags := 1, nameIndex := 5, descriptorIndex := 6, attributes := #[] }, { accessFlags := 9, nameIndex := 37, descriptorIndex := 38, attributes := #[] }] 49 2 #[] #[])
  fields := #[]
  methods := #[k1m0, k1m1]
  instanceTypes := #[]
  staticTypes := #[]
  resolved := Array.replicate 44 none
  statics := none }

def pool2 : Array CpInfo := pool [(1, .class_ 2), (0, u "java/io/Serializable"), (0, .class_ 4), (0, u "java/lang/Object")] 2

/-- java/io/Serializable -/
def k2 : Class := { plain "java/io/Serializable" (some 0) with
  accessFlags := 1537
  interfaces := #[]
  cf := some (fileOf pool2 1 #[] #[] 1537 3 #[] #[])
  fields := #[]
  methods := #[]
  instanceTypes := #[]
  staticTypes := #[]
  resolved := Array.replicate 7 none
  statics := none }

def pool3 : Array CpInfo := pool [(1, .class_ 2), (0, u "java/lang/Comparable"), (0, .class_ 4), (0, u "java/lang/Object")] 7

/-- java/lang/Comparable -/
def k3 : Class := { plain "java/lang/Comparable" (some 0) with
  accessFlags := 1537
  interfaces := #[]
  cf := some (fileOf pool3 1 #[] #[] 1537 3 #[] #[])
  fields := #[]
  methods := #[]
  instanceTypes := #[]
  staticTypes := #[]
  resolved := Array.replicate 12 none
  statics := none }

def pool4 : Array CpInfo := pool [(2, .class_ 4), (1, u "java/lang/CharSequence"), (42, .class_ 48), (0, u "java/lang/CharSequence$1CodePointIterator"), (10, .class_ 60), (0, u "java/lang/CharSequence$1CharIterator"), (5, .class_ 67), (0, u "java/lang/Object")] 63

/-- java/lang/CharSequence -/
def k4 : Class := { plain "java/lang/CharSequence" (some 0) with
  accessFlags := 1537
  interfaces := #[]
  cf := some (fileOf pool4 2 #[.nestMembers #[47, 59]] #[] 1537 66 #[] #[])
  fields := #[]
  methods := #[]
  instanceTypes := #[]
  staticTypes := #[]
  resolved := Array.replicate 131 none
  statics := none }

def pool5 : Array CpInfo := pool [(1, .class_ 2), (0, u "java/lang/constant/Constable"), (0, .class_ 4), (0, u "java/lang/Object")] 6

/-- java/lang/constant/Constable -/
def k5 : Class := { plain "java/lang/constant/Constable" (some 0) with
  accessFlags := 1537
  interfaces := #[]
  cf := some (fileOf pool5 1 #[] #[] 1537 3 #[] #[])
  fields := #[]
  methods := #[]
  instanceTypes := #[]
  staticTypes := #[]
  resolved := Array.replicate 11 none
  statics := none }

def pool6 : Array CpInfo := pool [(1, .class_ 2), (0, u "java/lang/constant/ConstantDesc"), (0, .class_ 4), (0, u "java/lang/Object")] 32

/-- java/lang/constant/ConstantDesc -/
def k6 : Class := { plain "java/lang/constant/ConstantDesc" (some 0) with
  accessFlags := 1537
  interfaces := #[]
  cf := some (fileOf pool6 1 #[] #[] 1537 3 #[] #[])
  fields := #[]
  methods := #[]
  instanceTypes := #[]
  staticTypes := #[]
  resolved := Array.replicate 37 none
  statics := none }

def pool7 : Array CpInfo := pool [(1, .methodref 2 3), (0, .class_ 4), (0, .nameAndType 5 6), (0, u "java/lang/Object"), (0, u "<init>"), (0, u "()V"), (2, .fieldref 10 11), (0, .class_ 12), (0, .nameAndType 13 14), (0, u "java/lang/String"), (0, u "value"), (0, u "[B"), (0, .fieldref 10 16), (0, .nameAndType 17 18), (0, u "coder"), (0, u "B"), (2, u "hash"), (0, u "I"), (2, u "hashIsZero"), (0, u "Z"), (0, .methodref 10 28), (0, .nameAndType 5 29), (0, u "([CIILjava/lang/Void;)V"), (8, .fieldref 10 39), (0, .nameAndType 40 26), (0, u "COMPACT_STRINGS"), (1, .class_ 44), (1, u "java/lang/StringUTF16"), (0, u "compress"), (1, .methodref 42 48), (0, .nameAndType 49 50), (0, u "coderFromArrayLen"), (0, u "([BI)B"), (56, .class_ 109), (1, u "java/lang/StringLatin1"), (67, .methodref 42 178), (0, .nameAndType 45 179), (0, u "([CII)[B"), (361, .methodref 107 542), (0, .nameAndType 543 544), (0, u "equals"), (0, u "([B[B)Z"), (28, u "(Ljava/lang/Object;)Z"), (1, .class_ 576), (0, u "java/lang/CharSequence"), (22, u "CASE_INSENSITIVE_ORDER"), (0, u "Ljava/util/Comparator;"), (409, u "([C)V"), (90, u "serialPersistentFields"), (0, u "[Ljava/io/ObjectStreamField;"), (0, .class_ 1104), (0, u "java/lang/String$CaseInsensitiveComparator"), (1, .class_ 1107), (0, u "java/io/Serializable"), (0, .class_ 1109), (0, u "java/lang/Comparable"), (0, .class_ 1111), (0, u "java/lang/constant/Constable"), (0, .class_ 1113), (0, u "java/lang/constant/ConstantDesc"), (2, u "serialVersionUID"), (0, u "J"), (3, u "REPL"), (0, u "C"), (2, u "LATIN1"), (1, u "UTF16")] 323

def k7m0 : Method := { name := "<init>", desc := "()V", sig := { parameters := [], returnType := none }, accessFlags := 1, code := none }
def k7c1 : Code := { maxStack := 5, maxLocals := 2, code := jdk_42_method_3_code, exceptionTable := #[], attributes := #[] }
def k7m1 : Method := { name := "<init>", desc := "([C)V", sig := { parameters := [(.array .char)], returnType := none }, accessFlags := 1, code := some k7c1 }
def k7c2 : Code := { maxStack := 2, maxLocals := 3, code := jdk_42_method_66_code, exceptionTable := #[], attributes := #[] }
def k7m2 : Method := { name := "equals", desc := "(Ljava/lang/Object;)Z", sig := { parameters := [(.object "java/lang/Object")], returnType := some .boolean }, accessFlags := 1, code := some k7c2 }
def k7c3 : Code := { maxStack := 4, maxLocals := 6, code := jdk_42_method_149_code, exceptionTable := #[], attributes := #[] }
def k7m3 : Method := { name := "<init>", desc := "([CIILjava/lang/Void;)V", sig := { parameters := [(.array .char), .int, .int, (.object "java/lang/Void")], returnType := none }, accessFlags := 2, code := some k7c3 }
/-- java/lang/String -/
def k7 : Class := { plain "java/lang/String" (some 0) with
  accessFlags := 49
  interfaces := #[2, 3, 4, 5, 6]
  cf := some (fileOf pool7 10 #[.nestMembers #[1103]] #[{ accessFlags := 1, nameIndex := 5, descriptorIndex := 6, attributes := #[] }, { accessFlags := 1, nameIndex := 5, descriptorIndex := 1010, attributes := #[] }, { accessFlags := 1, nameIndex := 543, descriptorIndex := 573, attributes := #[] }, { accessFlags := 2, nameIndex := 5, descriptorIndex := 29, attributes := #[] }] 49 2 #[1106, 1108, 575, 1110, 1112] #[{ accessFlags := 18, nameIndex := 13, descriptorIndex := 14, attributes := #[] }, { accessFlags := 18, nameIndex := 17, descriptorIndex := 18, attributes := #[] }, { accessFlags := 2, nameIndex := 21, descriptorIndex := 22, attributes := #[] }, { accessFlags := 2, nameIndex := 25, descriptorIndex := 26, attributes := #[] }, { accessFlags := 26, nameIndex := 1116, descriptorIndex := 1117, attributes := #[] }, { accessFlags := 24, nameIndex := 40, descriptorIndex := 26, attributes := #[] }, { accessFlags := 26, nameIndex := 1101, descriptorIndex := 1102, attributes := #[] }, { accessFlags := 26, nameIndex := 1121, descriptorIndex := 1122, attributes := #[] }, { accessFlags := 25, nameIndex := 599, descriptorIndex := 600, attributes := #[] }, { accessFlags := 24, nameIndex := 1125, descriptorIndex := 18, attributes := #[] }, { accessFlags := 24, nameIndex := 1127, descriptorIndex := 18, attributes := #[] }])
  fields := #[{ name := "value", type := (.array .byte), accessFlags := 18, slot := 0, constantValue := 0 }, { name := "coder", type := .byte, accessFlags := 18, slot := 1, constantValue := 0 }, { name := "hash", type := .int, accessFlags := 2, slot := 2, constantValue := 0 }, { name := "hashIsZero", type := .boolean, accessFlags := 2, slot := 3, constantValue := 0 }, { name := "serialVersionUID", type := .long, accessFlags := 26, slot := 0, constantValue := 0 }, { name := "COMPACT_STRINGS", type := .boolean, accessFlags := 24, slot := 1, constantValue := 0 }, { name := "serialPersistentFields", type := (.array (.object "java/io/ObjectStreamField")), accessFlags := 26, slot := 2, constantValue := 0 }, { name := "REPL", type := .char, accessFlags := 26, slot := 3, constantValue := 0 }, { name := "CASE_INSENSITIVE_ORDER", type := (.object "java/util/Comparator"), accessFlags := 25, slot := 4, constantValue := 0 }, { name := "LATIN1", type := .byte, accessFlags := 24, slot := 5, constantValue := 0 }, { name := "UTF16", type := .byte, accessFlags := 24, slot := 6, constantValue := 0 }]
  methods := #[k7m0, k7m1, k7m2, k7m3]
  instanceTypes := #[(.array .byte), .byte, .int, .boolean]
  staticTypes := #[.long, .boolean, (.array (.object "java/io/ObjectStreamField")), .char, (.object "java/util/Comparator"), .byte, .byte]
  resolved := Array.replicate 1451 none
  statics := some 0 }

def pool8 : Array CpInfo := pool [(6, .class_ 8), (1, u "java/lang/Object"), (0, u "<init>"), (0, u "()V"), (1, .class_ 14), (1, u "java/lang/StringUTF16"), (31, u "$assertionsDisabled"), (0, u "Z"), (13, u "HI_BYTE_SHIFT"), (0, u "I"), (2, u "LO_BYTE_SHIFT"), (49, .methodref 12 116), (0, .nameAndType 117 118), (0, u "compress"), (0, u "([CI[BII)I"), (3, u "([CII)[B"), (138, u "coderFromArrayLen"), (0, u "([BI)B"), (106, .class_ 371), (1, u "java/lang/StringUTF16$LinesSpliterator"), (58, u "MAX_LENGTH"), (196, .class_ 628), (0, u "java/lang/StringUTF16$CodePointsSpliterator"), (0, .class_ 630), (0, u "java/lang/StringUTF16$CharsSpliterator")] 4

def k8m0 : Method := { name := "<init>", desc := "()V", sig := { parameters := [], returnType := none }, accessFlags := 0, code := none }
def k8c1 : Code := { maxStack := 2, maxLocals := 2, code := jdk_52_method_15_code, exceptionTable := #[], attributes := #[] }
def k8m1 : Method := { name := "coderFromArrayLen", desc := "([BI)B", sig := { parameters := [(.array .byte), .int], returnType := some .byte }, accessFlags := 8, code := some k8c1 }
def k8c2 : Code := { maxStack := 5, maxLocals := 6, code := jdk_52_method_16_code, exceptionTable := #[], attributes := #[] }
def k8m2 : Method := { name := "compress", desc := "([CII)[B", sig := { parameters := [(.array .char), .int, .int], returnType := some (.array .byte) }, accessFlags := 9, code := some k8c2 }
def k8c3 : Code := { maxStack := 3, maxLocals := 7, code := jdk_52_method_21_code, exceptionTable := #[], attributes := #[] }
def k8m3 : Method := { name := "compress", desc := "([CI[BII)I", sig := { parameters := [(.array .char), .int, (.array .byte), .int, .int], returnType := some .int }, accessFlags := 9, code := some k8c3 }
/-- java/lang/StringUTF16 -/
def k8 : Class := { plain "java/lang/StringUTF16" (some 0) with
  accessFlags := 48
  interfaces := #[]
  cf := some (fileOf pool8 12 #[.nestMembers #[627, 629, 369]] #[{ accessFlags := 0, nameIndex := 9, descriptorIndex := 10, attributes := #[] }, { accessFlags := 8, nameIndex := 261, descriptorIndex := 262, attributes := #[] }, { accessFlags := 9, nameIndex := 117, descriptorIndex := 122, attributes := #[] }, { accessFlags := 9, nameIndex := 117, descriptorIndex := 118, attributes := #[] }] 48 6 #[] #[{ accessFlags := 26, nameIndex := 61, descriptorIndex := 62, attributes := #[] }, { accessFlags := 26, nameIndex := 65, descriptorIndex := 62, attributes := #[] }, { accessFlags := 24, nameIndex := 430, descriptorIndex := 62, attributes := #[] }, { accessFlags := 4120, nameIndex := 46, descriptorIndex := 47, attributes := #[] }])
  fields := #[{ name := "HI_BYTE_SHIFT", type := .int, accessFlags := 26, slot := 0, constantValue := 0 }, { name := "LO_BYTE_SHIFT", type := .int, accessFlags := 26, slot := 1, constantValue := 0 }, { name := "MAX_LENGTH", type := .int, accessFlags := 24, slot := 2, constantValue := 0 }, { name := "$assertionsDisabled", type := .boolean, accessFlags := 4120, slot := 3, constantValue := 0 }]
  methods := #[k8m0, k8m1, k8m2, k8m3]
  instanceTypes := #[]
  staticTypes := #[.int, .int, .int, .boolean]
  resolved := Array.replicate 635 none
  statics := none }

def pool9 : Array CpInfo := pool [(2, .class_ 4), (1, u "java/lang/Enum"), (0, u "name"), (0, u "Ljava/lang/String;"), (2, u "ordinal"), (0, u "I"), (1, .class_ 14), (1, u "java/lang/Object"), (4, u "hash"), (86, .class_ 108), (1, u "java/lang/Enum$EnumDesc"), (2, .class_ 112), (0, u "java/lang/constant/Constable"), (0, .class_ 114), (0, u "java/lang/Comparable"), (0, .class_ 116), (0, u "java/io/Serializable")] 87

/-- java/lang/Enum -/
def k9 : Class := { plain "java/lang/Enum" (some 0) with
  accessFlags := 1057
  interfaces := #[5, 3, 2]
  cf := some (fileOf pool9 2 #[.nestMembers #[106]] #[] 1057 12 #[111, 113, 115] #[{ accessFlags := 18, nameIndex := 5, descriptorIndex := 6, attributes := #[] }, { accessFlags := 18, nameIndex := 9, descriptorIndex := 10, attributes := #[] }, { accessFlags := 2, nameIndex := 19, descriptorIndex := 10, attributes := #[] }])
  fields := #[{ name := "name", type := (.object "java/lang/String"), accessFlags := 18, slot := 0, constantValue := 0 }, { name := "ordinal", type := .int, accessFlags := 18, slot := 1, constantValue := 0 }, { name := "hash", type := .int, accessFlags := 2, slot := 2, constantValue := 0 }]
  methods := #[]
  instanceTypes := #[(.object "java/lang/String"), .int, .int]
  staticTypes := #[]
  resolved := Array.replicate 204 none
  statics := none }

def pool10 : Array CpInfo := pool [(1, .class_ 2), (0, u "com/example/shapegen/shapegen/ConversionMode"), (2, u "CONTRACT"), (0, u "Lcom/example/shapegen/shapegen/ConversionMode;"), (2, u "FRAMED"), (0, .fieldref 1 11), (0, .nameAndType 12 13), (0, u "$VALUES"), (0, u "[Lcom/example/shapegen/shapegen/ConversionMode;"), (0, .methodref 15 16), (0, .class_ 13), (0, .nameAndType 17 18), (0, u "clone"), (0, u "()Ljava/lang/Object;"), (1, .class_ 22), (1, u "java/lang/Enum"), (6, .fieldref 1 30), (0, .nameAndType 31 32), (0, u "modeName"), (0, u "Ljava/lang/String;"), (0, .methodref 1 34), (0, .nameAndType 35 36), (0, u "values"), (0, u "()[Lcom/example/shapegen/shapegen/ConversionMode;"), (0, .invokeDynamic 0 38), (0, .nameAndType 39 40), (0, u "apply"), (0, u "()Ljava/util/function/Function;"), (0, .string 42), (0, u "mode"), (0, .methodref 44 45), (0, .class_ 46), (0, .nameAndType 47 48), (0, u "com/example/shapegen/shapegen/Lookup"), (0, u "byName"), (0, u "([Ljava/lang/Object;Ljava/util/function/Function;Ljava/lang/String;Ljava/lang/String;)Ljava/lang/Object;"), (14, u "(Ljava/lang/String;)Lcom/example/shapegen/shapegen/ConversionMode;"), (3, u "()Ljava/lang/String;"), (0, u "fromName"), (6, .methodType 76), (0, u "(Ljava/lang/Object;)Ljava/lang/Object;"), (0, .methodHandle 5 78), (0, .methodref 1 79), (0, .nameAndType 31 67), (0, .methodType 81), (0, u "(Lcom/example/shapegen/shapegen/ConversionMode;)Ljava/lang/String;"), (0, .methodHandle 6 83), (0, .methodref 84 85), (0, .class_ 86), (0, .nameAndType 87 88), (0, u "java/lang/invoke/LambdaMetafactory"), (0, u "metafactory"), (0, u "(Ljava/lang/invoke/MethodHandles$Lookup;Ljava/lang/String;Ljava/lang/invoke/MethodType;Ljava/lang/invoke/MethodType;Ljava/lang/invoke/MethodHandle;Ljava/lang/invoke/MethodType;)Ljava/lang/invoke/CallSite;")] 6

def k10c0 : Code := { maxStack := 1, maxLocals := 0, code := prog_1_method_1_code, exceptionTable := #[], attributes := #[] }
def k10m0 : Method := { name := "values", desc := "()[Lcom/example/shapegen/shapegen/ConversionMode;", sig := { parameters := [], returnType := some (.array (.object "com/example/shapegen/shapegen/ConversionMode")) }, accessFlags := 9, code := some k10c0 }
def k10c1 : Code := { maxStack := 1, maxLocals := 1, code := prog_1_method_4_code, exceptionTable := #[], attributes := #[] }
def k10m1 : Method := { name := "modeName", desc := "()Ljava/lang/String;", sig := { parameters := [], returnType := some (.object "java/lang/String") }, accessFlags := 1, code := some k10c1 }
def k10c2 : Code := { maxStack := 4, maxLocals := 1, code := prog_1_method_5_code, exceptionTable := #[], attributes := #[] }
def k10m2 : Method := { name := "fromName", desc := "(Ljava/lang/String;)Lcom/example/shapegen/shapegen/ConversionMode;", sig := { parameters := [(.object "java/lang/String")], returnType := some (.object "com/example/shapegen/shapegen/ConversionMode") }, accessFlags := 9, code := some k10c2 }
/-- com/example/shapegen/shapegen/ConversionMode -/
def k10 : Class := { plain "com/example/shapegen/shapegen/ConversionMode" (some 9) with
  accessFlags := 16433
  interfaces := #[]
  cf := some (fileOf pool10 1 #[.bootstrapMethods #[⟨82, #[75, 77, 80]⟩]] #[{ accessFlags := 9, nameIndex := 35, descriptorIndex := 36, attributes := #[] }, { accessFlags := 1, nameIndex := 31, descriptorIndex := 67, attributes := #[] }, { accessFlags := 9, nameIndex := 68, descriptorIndex := 63, attributes := #[] }] 16433 20 #[] #[{ accessFlags := 16409, nameIndex := 5, descriptorIndex := 6, attributes := #[] }, { accessFlags := 16409, nameIndex := 9, descriptorIndex := 6, attributes := #[] }, { accessFlags := 18, nameIndex := 31, descriptorIndex := 32, attributes := #[] }, { accessFlags := 4122, nameIndex := 12, descriptorIndex := 13, attributes := #[] }])
  fields := #[{ name := "CONTRACT", type := (.object "com/example/shapegen/shapegen/ConversionMode"), accessFlags := 16409, slot := 0, constantValue := 0 }, { name := "FRAMED", type := (.object "com/example/shapegen/shapegen/ConversionMode"), accessFlags := 16409, slot := 1, constantValue := 0 }, { name := "modeName", type := (.object "java/lang/String"), accessFlags := 18, slot := 3, constantValue := 0 }, { name := "$VALUES", type := (.array (.object "com/example/shapegen/shapegen/ConversionMode")), accessFlags := 4122, slot := 2, constantValue := 0 }]
  methods := #[k10m0, k10m1, k10m2]
  instanceTypes := #[(.object "java/lang/String"), .int, .int, (.object "java/lang/String")]
  staticTypes := #[(.object "com/example/shapegen/shapegen/ConversionMode"), (.object "com/example/shapegen/shapegen/ConversionMode"), (.array (.object "com/example/shapegen/shapegen/ConversionMode"))]
  resolved := Array.replicate 95 none
  callSites := [(2, 3, .constant 3)]
  statics := some 1 }

def pool11 : Array CpInfo := pool [(1, .class_ 2), (0, u "java/lang/Cloneable"), (0, .class_ 4), (0, u "java/lang/Object")] 2

/-- java/lang/Cloneable -/
def k11 : Class := { plain "java/lang/Cloneable" (some 0) with
  accessFlags := 1537
  interfaces := #[]
  cf := some (fileOf pool11 1 #[] #[] 1537 3 #[] #[])
  fields := #[]
  methods := #[]
  instanceTypes := #[]
  staticTypes := #[]
  resolved := Array.replicate 7 none
  statics := none }

def pool12 : Array CpInfo := pool [(6, u "(Ljava/lang/Object;)Ljava/lang/Object;"), (2, u "apply"), (6, .class_ 18), (1, u "java/util/function/Function"), (0, .class_ 20), (0, u "java/lang/Object")] 56

def k12m0 : Method := { name := "apply", desc := "(Ljava/lang/Object;)Ljava/lang/Object;", sig := { parameters := [(.object "java/lang/Object")], returnType := some (.object "java/lang/Object") }, accessFlags := 1025, code := none }
/-- java/util/function/Function -/
def k12 : Class := { plain "java/util/function/Function" (some 0) with
  accessFlags := 1537
  interfaces := #[]
  cf := some (fileOf pool12 16 #[] #[{ accessFlags := 1025, nameIndex := 9, descriptorIndex := 6, attributes := #[] }] 1537 19 #[] #[])
  fields := #[]
  methods := #[k12m0]
  instanceTypes := #[]
  staticTypes := #[]
  resolved := Array.replicate 77 none
  statics := none }

def pool13 : Array CpInfo := pool [(2, .class_ 4), (1, u "java/lang/Object"), (0, u "<init>"), (0, u "()V"), (0, .interfaceMethodref 8 9), (0, .class_ 10), (0, .nameAndType 11 12), (0, u "java/util/function/Function"), (0, u "apply"), (0, u "(Ljava/lang/Object;)Ljava/lang/Object;"), (0, .class_ 14), (0, u "java/lang/String"), (0, .methodref 13 16), (0, .nameAndType 17 18), (0, u "equals"), (0, u "(Ljava/lang/Object;)Z"), (33, .class_ 53), (0, u "com/example/shapegen/shapegen/Lookup"), (2, u "byName"), (0, u "([Ljava/lang/Object;Ljava/util/function/Function;Ljava/lang/String;Ljava/lang/String;)Ljava/lang/Object;")] 22

def k13m0 : Method := { name := "<init>", desc := "()V", sig := { parameters := [], returnType := none }, accessFlags := 2, code := none }
def k13c1 : Code := { maxStack := 5, maxLocals := 8, code := prog_9_method_2_code, exceptionTable := #[], attributes := #[] }
def k13m1 : Method := { name := "byName", desc := "([Ljava/lang/Object;Ljava/util/function/Function;Ljava/lang/String;Ljava/lang/String;)Ljava/lang/Object;", sig := { parameters := [(.array (.object "java/lang/Object")), (.object "java/util/function/Function"), (.object "java/lang/String"), (.object "java/lang/String")], returnType := some (.object "java/lang/Object") }, accessFlags := 8, code := some k13c1 }
/-- com/example/shapegen/shapegen/Lookup -/
def k13 : Class := { plain "com/example/shapegen/shapegen/Lookup" (some 0) with
  accessFlags := 32
  interfaces := #[]
  cf := some (fileOf pool13 52 #[] #[{ accessFlags := 2, nameIndex := 5, descriptorIndex := 6, attributes := #[] }, { accessFlags := 8, nameIndex := 56, descriptorIndex := 57, attributes := #[] }] 32 2 #[] #[])
  fields := #[]
  methods := #[k13m0, k13m1]
  instanceTypes := #[]
  staticTypes := #[]
  resolved := Array.replicate 80 none
  statics := none }

def pool14 : Array CpInfo := pool [(4, .class_ 6), (1, u "java/lang/Object"), (0, u "<init>"), (0, u "()V"), (5, .class_ 16), (1, u "java/lang/StringLatin1"), (104, u "$assertionsDisabled"), (0, u "Z"), (98, .class_ 223), (1, u "java/lang/StringLatin1$LinesSpliterator"), (57, u "equals"), (0, u "([B[B)Z"), (107, .class_ 391), (0, u "java/lang/StringLatin1$CharsSpliterator")] 3

def k14m0 : Method := { name := "<init>", desc := "()V", sig := { parameters := [], returnType := none }, accessFlags := 0, code := none }
def k14c1 : Code := { maxStack := 3, maxLocals := 3, code := jdk_43_method_13_code, exceptionTable := #[], attributes := #[] }
def k14m1 : Method := { name := "equals", desc := "([B[B)Z", sig := { parameters := [(.array .byte), (.array .byte)], returnType := some .boolean }, accessFlags := 9, code := some k14c1 }
/-- java/lang/StringLatin1 -/
def k14 : Class := { plain "java/lang/StringLatin1" (some 0) with
  accessFlags := 48
  interfaces := #[]
  cf := some (fileOf pool14 14 #[.nestMembers #[390, 221]] #[{ accessFlags := 0, nameIndex := 7, descriptorIndex := 8, attributes := #[] }, { accessFlags := 9, nameIndex := 281, descriptorIndex := 282, attributes := #[] }] 48 4 #[] #[{ accessFlags := 4120, nameIndex := 121, descriptorIndex := 122, attributes := #[] }])
  fields := #[{ name := "$assertionsDisabled", type := .boolean, accessFlags := 4120, slot := 0, constantValue := 0 }]
  methods := #[k14m0, k14m1]
  instanceTypes := #[]
  staticTypes := #[.boolean]
  resolved := Array.replicate 395 none
  statics := none }

def pool15 : Array CpInfo := pool [(2, .class_ 4), (1, u "java/lang/Object"), (0, u "<init>"), (0, u "()V"), (17, .class_ 26), (1, u "jdk/internal/util/Preconditions"), (28, .class_ 56), (0, u "jdk/internal/util/Preconditions$4"), (57, .class_ 115), (0, u "jdk/internal/util/Preconditions$1"), (7, u "SIOOBE_FORMATTER"), (0, u "Ljava/util/function/BiFunction;"), (0, .class_ 126), (0, u "jdk/internal/util/Preconditions$2"), (3, u "AIOOBE_FORMATTER"), (0, .class_ 132), (0, u "jdk/internal/util/Preconditions$3"), (3, u "IOOBE_FORMATTER")] 57

def k15m0 : Method := { name := "<init>", desc := "()V", sig := { parameters := [], returnType := none }, accessFlags := 1, code := none }
/-- jdk/internal/util/Preconditions -/
def k15 : Class := { plain "jdk/internal/util/Preconditions" (some 0) with
  accessFlags := 33
  interfaces := #[]
  cf := some (fileOf pool15 24 #[.nestMembers #[55, 131, 125, 114]] #[{ accessFlags := 1, nameIndex := 5, descriptorIndex := 6, attributes := #[] }] 33 2 #[] #[{ accessFlags := 25, nameIndex := 123, descriptorIndex := 124, attributes := #[] }, { accessFlags := 25, nameIndex := 130, descriptorIndex := 124, attributes := #[] }, { accessFlags := 25, nameIndex := 136, descriptorIndex := 124, attributes := #[] }])
  fields := #[{ name := "SIOOBE_FORMATTER", type := (.object "java/util/function/BiFunction"), accessFlags := 25, slot := 0, constantValue := 0 }, { name := "AIOOBE_FORMATTER", type := (.object "java/util/function/BiFunction"), accessFlags := 25, slot := 1, constantValue := 0 }, { name := "IOOBE_FORMATTER", type := (.object "java/util/function/BiFunction"), accessFlags := 25, slot := 2, constantValue := 0 }]
  methods := #[k15m0]
  instanceTypes := #[]
  staticTypes := #[(.object "java/util/function/BiFunction"), (.object "java/util/function/BiFunction"), (.object "java/util/function/BiFunction")]
  resolved := Array.replicate 194 none
  statics := some 2 }

def pool16 : Array CpInfo := pool [(9, u "<init>"), (6, .class_ 18), (1, u "java/lang/Object"), (0, u "()V"), (1, .class_ 23), (1, u "jdk/internal/util/ArraysSupport"), (0, u "LOG2_ARRAY_LONG_INDEX_SCALE"), (0, u "I"), (2, u "U"), (0, u "Ljdk/internal/misc/Unsafe;"), (8, u "BIG_ENDIAN"), (0, u "Z"), (8, u "LOG2_BYTE_BIT_SIZE"), (4, u "LOG2_ARRAY_INT_INDEX_SCALE"), (54, u "JLA"), (0, u "Ljdk/internal/access/JavaLangAccess;"), (11, u "LOG2_ARRAY_BOOLEAN_INDEX_SCALE"), (9, u "LOG2_ARRAY_BYTE_INDEX_SCALE"), (5, u "LOG2_ARRAY_CHAR_INDEX_SCALE"), (5, u "LOG2_ARRAY_SHORT_INDEX_SCALE"), (18, u "LOG2_ARRAY_FLOAT_INDEX_SCALE"), (24, u "LOG2_ARRAY_DOUBLE_INDEX_SCALE"), (89, u "T_BOOLEAN"), (2, u "T_CHAR"), (1, u "T_FLOAT"), (1, u "T_DOUBLE"), (1, u "T_BYTE"), (1, u "T_SHORT"), (1, u "T_INT"), (1, u "T_LONG"), (1, u "SOFT_MAX_ARRAY_LENGTH")] 83

def k16m0 : Method := { name := "<init>", desc := "()V", sig := { parameters := [], returnType := none }, accessFlags := 2, code := none }
/-- jdk/internal/util/ArraysSupport -/
def k16 : Class := { plain "jdk/internal/util/ArraysSupport" (some 0) with
  accessFlags := 33
  interfaces := #[]
  cf := some (fileOf pool16 21 #[] #[{ accessFlags := 2, nameIndex := 9, descriptorIndex := 19, attributes := #[] }] 33 16 #[] #[{ accessFlags := 24, nameIndex := 28, descriptorIndex := 29, attributes := #[] }, { accessFlags := 26, nameIndex := 38, descriptorIndex := 39, attributes := #[] }, { accessFlags := 25, nameIndex := 121, descriptorIndex := 25, attributes := #[] }, { accessFlags := 25, nameIndex := 131, descriptorIndex := 25, attributes := #[] }, { accessFlags := 25, nameIndex := 137, descriptorIndex := 25, attributes := #[] }, { accessFlags := 25, nameIndex := 143, descriptorIndex := 25, attributes := #[] }, { accessFlags := 25, nameIndex := 53, descriptorIndex := 25, attributes := #[] }, { accessFlags := 25, nameIndex := 24, descriptorIndex := 25, attributes := #[] }, { accessFlags := 25, nameIndex := 162, descriptorIndex := 25, attributes := #[] }, { accessFlags := 25, nameIndex := 187, descriptorIndex := 25, attributes := #[] }, { accessFlags := 26, nameIndex := 48, descriptorIndex := 25, attributes := #[] }, { accessFlags := 25, nameIndex := 277, descriptorIndex := 25, attributes := #[] }, { accessFlags := 25, nameIndex := 280, descriptorIndex := 25, attributes := #[] }, { accessFlags := 25, nameIndex := 282, descriptorIndex := 25, attributes := #[] }, { accessFlags := 25, nameIndex := 284, descriptorIndex := 25, attributes := #[] }, { accessFlags := 25, nameIndex := 286, descriptorIndex := 25, attributes := #[] }, { accessFlags := 25, nameIndex := 288, descriptorIndex := 25, attributes := #[] }, { accessFlags := 25, nameIndex := 290, descriptorIndex := 25, attributes := #[] }, { accessFlags := 25, nameIndex := 292, descriptorIndex := 25, attributes := #[] }, { accessFlags := 26, nameIndex := 108, descriptorIndex := 109, attributes := #[] }, { accessFlags := 25, nameIndex := 294, descriptorIndex := 25, attributes := #[] }])
  fields := #[{ name := "U", type := (.object "jdk/internal/misc/Unsafe"), accessFlags := 24, slot := 0, constantValue := 0 }, { name := "BIG_ENDIAN", type := .boolean, accessFlags := 26, slot := 1, constantValue := 0 }, { name := "LOG2_ARRAY_BOOLEAN_INDEX_SCALE", type := .int, accessFlags := 25, slot := 2, constantValue := 0 }, { name := "LOG2_ARRAY_BYTE_INDEX_SCALE", type := .int, accessFlags := 25, slot := 3, constantValue := 0 }, { name := "LOG2_ARRAY_CHAR_INDEX_SCALE", type := .int, accessFlags := 25, slot := 4, constantValue := 0 }, { name := "LOG2_ARRAY_SHORT_INDEX_SCALE", type := .int, accessFlags := 25, slot := 5, constantValue := 0 }, { name := "LOG2_ARRAY_INT_INDEX_SCALE", type := .int, accessFlags := 25, slot := 6, constantValue := 0 }, { name := "LOG2_ARRAY_LONG_INDEX_SCALE", type := .int, accessFlags := 25, slot := 7, constantValue := 0 }, { name := "LOG2_ARRAY_FLOAT_INDEX_SCALE", type := .int, accessFlags := 25, slot := 8, constantValue := 0 }, { name := "LOG2_ARRAY_DOUBLE_INDEX_SCALE", type := .int, accessFlags := 25, slot := 9, constantValue := 0 }, { name := "LOG2_BYTE_BIT_SIZE", type := .int, accessFlags := 26, slot := 10, constantValue := 0 }, { name := "T_BOOLEAN", type := .int, accessFlags := 25, slot := 11, constantValue := 0 }, { name := "T_CHAR", type := .int, accessFlags := 25, slot := 12, constantValue := 0 }, { name := "T_FLOAT", type := .int, accessFlags := 25, slot := 13, constantValue := 0 }, { name := "T_DOUBLE", type := .int, accessFlags := 25, slot := 14, constantValue := 0 }, { name := "T_BYTE", type := .int, accessFlags := 25, slot := 15, constantValue := 0 }, { name := "T_SHORT", type := .int, accessFlags := 25, slot := 16, constantValue := 0 }, { name := "T_INT", type := .int, accessFlags := 25, slot := 17, constantValue := 0 }, { name := "T_LONG", type := .int, accessFlags := 25, slot := 18, constantValue := 0 }, { name := "JLA", type := (.object "jdk/internal/access/JavaLangAccess"), accessFlags := 26, slot := 19, constantValue := 0 }, { name := "SOFT_MAX_ARRAY_LENGTH", type := .int, accessFlags := 25, slot := 20, constantValue := 0 }]
  methods := #[k16m0]
  instanceTypes := #[]
  staticTypes := #[(.object "jdk/internal/misc/Unsafe"), .boolean, .int, .int, .int, .int, .int, .int, .int, .int, .int, .int, .int, .int, .int, .int, .int, .int, .int, (.object "jdk/internal/access/JavaLangAccess"), .int]
  resolved := Array.replicate 378 none
  statics := none }

/-- the primitive byte -/
def k17 : Class := { plain "byte" none with kind := .primitive 'B', accessFlags := 0x411 }
/-- [B -/
def k18 : Class := { plain "[B" (some 0) with kind := .array 17 .byte, interfaces := #[11, 2], accessFlags := 1041 }

/-- the primitive char -/
def k19 : Class := { plain "char" none with kind := .primitive 'C', accessFlags := 0x411 }
/-- [C -/
def k20 : Class := { plain "[C" (some 0) with kind := .array 19 .char, interfaces := #[11, 2], accessFlags := 1041 }

/-- the primitive int -/
def k21 : Class := { plain "int" none with kind := .primitive 'I', accessFlags := 0x411 }
/-- [I -/
def k22 : Class := { plain "[I" (some 0) with kind := .array 21 .int, interfaces := #[11, 2], accessFlags := 1041 }

/-- [Lcom/example/shapegen/shapegen/ConversionMode; -/
def k23 : Class := { plain "[Lcom/example/shapegen/shapegen/ConversionMode;" (some 0) with kind := .array 10 (.object "com/example/shapegen/shapegen/ConversionMode"), interfaces := #[11, 2], accessFlags := 1041 }

def classes0 : Array Class := #[k0, k1, k2, k3, k4, k5, k6, k7, k8, k9, k10, k11, k12, k13, k14, k15, k16, k17, k18, k19, k20, k21, k22, k23]
/-- the class that the rule has made for the site at 3 of com/example/shapegen/shapegen/ConversionMode.fromName -/
def k24 : Class := Jvm.LamKit.madeRec { classes := classes0 } "com/example/shapegen/shapegen/ConversionMode" (Jvm.Lambda.Shape.mk "java/util/function/Function" "apply" (Jvm.ClassFile.MethodDescriptor.mk ([(Jvm.ClassFile.FieldType.object "java/lang/Object")] : List Jvm.ClassFile.FieldType) (Option.some (Jvm.ClassFile.FieldType.object "java/lang/Object"))) ([] : List Jvm.ClassFile.FieldType) (5 : Nat) "com/example/shapegen/shapegen/ConversionMode" "modeName" (Jvm.ClassFile.MethodDescriptor.mk ([] : List Jvm.ClassFile.FieldType) (Option.some (Jvm.ClassFile.FieldType.object "java/lang/String"))) false (Jvm.ClassFile.MethodDescriptor.mk ([(Jvm.ClassFile.FieldType.object "com/example/shapegen/shapegen/ConversionMode")] : List Jvm.ClassFile.FieldType) (Option.some (Jvm.ClassFile.FieldType.object "java/lang/String")))) 24

def heap : Heap := #[{ cls := 7, slots := #[.long 0, .int 1, .null, .int 0, .null, .int 0, .int 0], vm := .statics 7 },
  { cls := 10, slots := #[.ref 5, .ref 6, .ref 4], vm := .statics 10 },
  { cls := 15, slots := #[.null, .null, .null], vm := .statics 15 },
  { cls := 24, slots := #[], vm := .none },
  { cls := 23, slots := #[.ref 5, .ref 6], vm := .none },
  { cls := 10, slots := #[.null, .int 0, .int 0, .ref 7], vm := .none },
  { cls := 10, slots := #[.null, .int 1, .int 0, .ref 8], vm := .none },
  { cls := 7, slots := #[.ref 9, .int 0, .int 0, .int 0], vm := .none },
  { cls := 7, slots := #[.ref 10, .int 0, .int 0, .int 0], vm := .none },
  { cls := 18, slots := #[.int 99, .int 111, .int 110, .int 116, .int 114, .int 97, .int 99, .int 116], vm := .none },
  { cls := 18, slots := #[.int 102, .int 114, .int 97, .int 109, .int 101, .int 100], vm := .none }]
def classes : Array Class := #[k0, k1, k2, k3, k4, k5, k6, k7, k8, k9, k10, k11, k12, k13, k14, k15, k16, k17, k18, k19, k20, k21, k22, k23, k24]
def interned : List (Array UInt16 × Addr) := []
def slotsUsed : Nat := 45
def theMethod : MethodId := ⟨1, 1⟩
def args0 : Array Value := #[.int 1]
def aboutOver (below : List Frame) : State where
  vm := { classes := classes, interned := interned.toArray }
  heap := heap
  slotsUsed := slotsUsed
  threads := #[{ frames := .invoking theMethod args0 :: below }]
def below0 : List Frame := [.native { method := ⟨0, 0⟩, args := #[] }]
def about1 : State := aboutOver below0
def p0 : Program := .bare "" "" ""
def e0 : Env := launch0.env 0 0 0
theorem w_frames : about1.frames = Frame.invoking theMethod args0 :: below0 := rfl
set_option maxRecDepth 65536 in
theorem w_args : argsFit about1.vm theMethod args0 = true := by decide +kernel
set_option maxRecDepth 65536 in
theorem w_heap : heapFits about1 = true := by decide +kernel
set_option maxRecDepth 65536 in
theorem w_runnable : about1.curStatus? = some .runnable := by decide +kernel
set_option maxRecDepth 65536 in
theorem w_alone : about1.alone = true := by decide +kernel
set_option maxRecDepth 65536 in
theorem w_named : about1.methodNamed? x = some theMethod := by decide +kernel
set_option maxRecDepth 65536 in
theorem w_hears : about1.hears theMethod below0 = true := by decide +kernel
set_option maxRecDepth 65536 in
theorem w_ripe : about1.ripe theMethod args0 below0 = true := by decide +kernel
theorem w_running : about1.status = .running := rfl
set_option maxRecDepth 65536 in
theorem w_room : about1.hasRoom e0.platform room_1 = true :=
  launch0.hasRoom_least _ room_1 (by decide +kernel) (by decide +kernel) (by decide +kernel) (by decide +kernel) (by decide +kernel) (by decide +kernel)
theorem allAtoms_all (ts : List Jvm.Cond) (a : Array Jvm.Value) (st : Jvm.State) : (allAtoms ts).before a st = ts.all (fun c => c.before a st) := by
  induction ts with
  | nil => rfl
  | cons c t ih =>
    show (Jvm.Cond.and c (allAtoms t)).before a st = _
    rw [Jvm.Cond.before_and, ih, List.all_cons]
def words1 : List Jvm.Cond := Jvm.Cond.code x code maxLocals ret :: tables_1
/-- a 'code' word, met by the world's own term for the bytes: nothing is compared byte by byte -/
theorem code_word {y : MethodName} {bytes : ByteArray} {mx : Nat} {rt : Option FieldType} {a : Array Value} {s : State} {m : MethodId} {meth : Method} {c : Code} (h1 : s.methodNamed? y = some m) (h2 : s.vm.method? m = some meth) (h3 : meth.code = some c) (h4 : c.code = bytes)
    (h5 : (c.maxLocals == mx && c.exceptionTable.isEmpty && decide (c.maxStack ≤ mostOperands) && decide (meth.sig.returnType = rt) && !meth.locks && decide (parseMethodDescriptor y.desc = some meth.sig)) = true) : (Jvm.Cond.code y bytes mx rt).before a s = true := by
  simp only [Bool.and_eq_true, beq_iff_eq, Bool.not_eq_true', decide_eq_true_eq] at h5
  obtain ⟨⟨⟨⟨⟨g1, g2⟩, g3⟩, g4⟩, g5⟩, g6⟩ := h5
  simp [Cond.before, Cond.holds, Cond.value, h1, h2, h3, h4, g1, g2, g3, g4, g5, g6]
def isCode : Jvm.Cond → Bool
  | .code _ _ _ _ => true
  | _ => false
theorem all_split {L : List Jvm.Cond} {P : Jvm.Cond → Bool} (h1 : L.all (fun c => isCode c || P c) = true) (h2 : ∀ c ∈ L.filter isCode, P c = true) : L.all P = true := by
  refine List.all_eq_true.mpr fun c hc => ?_
  have h := List.all_eq_true.mp h1 c hc
  rcases Bool.eq_false_or_eq_true (isCode c) with hi | hi
  · exact h2 c (List.mem_filter.mpr ⟨hc, hi⟩)
  · simpa [hi] using h
set_option maxRecDepth 65536 in
theorem w_c0 : (Jvm.Cond.code x code maxLocals ret).before args0 about1 = true := code_word (m := ⟨1, 1⟩) (meth := k1m1) (c := k1c1) (by decide +kernel) rfl rfl rfl (by decide +kernel)
set_option maxRecDepth 65536 in
theorem w_c1 : (Jvm.Cond.code ({ cls := "java/lang/String", name := "<init>", desc := "([C)V" } : Jvm.MethodName) jdk_42_method_3_code (2 : Nat) (Option.none : Option Jvm.ClassFile.FieldType)).before args0 about1 = true := code_word (m := ⟨7, 1⟩) (meth := k7m1) (c := k7c1) (by decide +kernel) rfl rfl rfl (by decide +kernel)
set_option maxRecDepth 65536 in
theorem w_c2 : (Jvm.Cond.code ({ cls := "java/lang/String", name := "<init>", desc := "([CIILjava/lang/Void;)V" } : Jvm.MethodName) jdk_42_method_149_code (6 : Nat) (Option.none : Option Jvm.ClassFile.FieldType)).before args0 about1 = true := code_word (m := ⟨7, 3⟩) (meth := k7m3) (c := k7c3) (by decide +kernel) rfl rfl rfl (by decide +kernel)
set_option maxRecDepth 65536 in
theorem w_c3 : (Jvm.Cond.code ({ cls := "java/lang/Object", name := "<init>", desc := "()V" } : Jvm.MethodName) object_method_1_code (1 : Nat) (Option.none : Option Jvm.ClassFile.FieldType)).before args0 about1 = true := code_word (m := ⟨0, 0⟩) (meth := k0m0) (c := k0c0) (by decide +kernel) rfl rfl rfl (by decide +kernel)
set_option maxRecDepth 65536 in
theorem w_c4 : (Jvm.Cond.code ({ cls := "java/lang/StringUTF16", name := "compress", desc := "([CII)[B" } : Jvm.MethodName) jdk_52_method_16_code (6 : Nat) (Option.some (Jvm.ClassFile.FieldType.array Jvm.ClassFile.FieldType.byte))).before args0 about1 = true := code_word (m := ⟨8, 2⟩) (meth := k8m2) (c := k8c2) (by decide +kernel) rfl rfl rfl (by decide +kernel)
set_option maxRecDepth 65536 in
theorem w_c5 : (Jvm.Cond.code ({ cls := "java/lang/StringUTF16", name := "compress", desc := "([CI[BII)I" } : Jvm.MethodName) jdk_52_method_21_code (7 : Nat) (Option.some Jvm.ClassFile.FieldType.int)).before args0 about1 = true := code_word (m := ⟨8, 3⟩) (meth := k8m3) (c := k8c3) (by decide +kernel) rfl rfl rfl (by decide +kernel)
set_option maxRecDepth 65536 in
theorem w_c6 : (Jvm.Cond.code ({ cls := "java/lang/StringUTF16", name := "coderFromArrayLen", desc := "([BI)B" } : Jvm.MethodName) jdk_52_method_15_code (2 : Nat) (Option.some Jvm.ClassFile.FieldType.byte)).before args0 about1 = true := code_word (m := ⟨8, 1⟩) (meth := k8m1) (c := k8c1) (by decide +kernel) rfl rfl rfl (by decide +kernel)
set_option maxRecDepth 65536 in
theorem w_c7 : (Jvm.Cond.code ({ cls := "com/example/shapegen/shapegen/ConversionMode", name := "fromName", desc := "(Ljava/lang/String;)Lcom/example/shapegen/shapegen/ConversionMode;" } : Jvm.MethodName) prog_1_method_5_code (1 : Nat) (Option.some (Jvm.ClassFile.FieldType.object "com/example/shapegen/shapegen/ConversionMode"))).before args0 about1 = true := code_word (m := ⟨10, 2⟩) (meth := k10m2) (c := k10c2) (by decide +kernel) rfl rfl rfl (by decide +kernel)
set_option maxRecDepth 65536 in
theorem w_c8 : (Jvm.Cond.code ({ cls := "com/example/shapegen/shapegen/ConversionMode", name := "values", desc := "()[Lcom/example/shapegen/shapegen/ConversionMode;" } : Jvm.MethodName) prog_1_method_1_code (0 : Nat) (Option.some (Jvm.ClassFile.FieldType.array (Jvm.ClassFile.FieldType.object "com/example/shapegen/shapegen/ConversionMode")))).before args0 about1 = true := code_word (m := ⟨10, 0⟩) (meth := k10m0) (c := k10c0) (by decide +kernel) rfl rfl rfl (by decide +kernel)
set_option maxRecDepth 65536 in
theorem w_c9 : (Jvm.Cond.code ({ cls := "com/example/shapegen/shapegen/Lookup", name := "byName", desc := "([Ljava/lang/Object;Ljava/util/function/Function;Ljava/lang/String;Ljava/lang/String;)Ljava/lang/Object;" } : Jvm.MethodName) prog_9_method_2_code (8 : Nat) (Option.some (Jvm.ClassFile.FieldType.object "java/lang/Object"))).before args0 about1 = true := code_word (m := ⟨13, 1⟩) (meth := k13m1) (c := k13c1) (by decide +kernel) rfl rfl rfl (by decide +kernel)
set_option maxRecDepth 65536 in
theorem w_c10 : (Jvm.Cond.code ({ cls := "com/example/shapegen/shapegen/ConversionMode", name := "modeName", desc := "()Ljava/lang/String;" } : Jvm.MethodName) prog_1_method_4_code (1 : Nat) (Option.some (Jvm.ClassFile.FieldType.object "java/lang/String"))).before args0 about1 = true := code_word (m := ⟨10, 1⟩) (meth := k10m1) (c := k10c1) (by decide +kernel) rfl rfl rfl (by decide +kernel)
set_option maxRecDepth 65536 in
theorem w_c11 : (Jvm.Cond.code ({ cls := "java/lang/String", name := "equals", desc := "(Ljava/lang/Object;)Z" } : Jvm.MethodName) jdk_42_method_66_code (3 : Nat) (Option.some Jvm.ClassFile.FieldType.boolean)).before args0 about1 = true := code_word (m := ⟨7, 2⟩) (meth := k7m2) (c := k7c2) (by decide +kernel) rfl rfl rfl (by decide +kernel)
set_option maxRecDepth 65536 in
theorem w_c12 : (Jvm.Cond.code ({ cls := "java/lang/StringLatin1", name := "equals", desc := "([B[B)Z" } : Jvm.MethodName) jdk_43_method_13_code (3 : Nat) (Option.some Jvm.ClassFile.FieldType.boolean)).before args0 about1 = true := code_word (m := ⟨14, 1⟩) (meth := k14m1) (c := k14c1) (by decide +kernel) rfl rfl rfl (by decide +kernel)
def codes1 : List Jvm.Cond := [Jvm.Cond.code x code maxLocals ret, Jvm.Cond.code ({ cls := "java/lang/String", name := "<init>", desc := "([C)V" } : Jvm.MethodName) jdk_42_method_3_code (2 : Nat) (Option.none : Option Jvm.ClassFile.FieldType), Jvm.Cond.code ({ cls := "java/lang/String", name := "<init>", desc := "([CIILjava/lang/Void;)V" } : Jvm.MethodName) jdk_42_method_149_code (6 : Nat) (Option.none : Option Jvm.ClassFile.FieldType), Jvm.Cond.code ({ cls := "java/lang/Object", name := "<init>", desc := "()V" } : Jvm.MethodName) object_method_1_code (1 : Nat) (Option.none : Option Jvm.ClassFile.FieldType), Jvm.Cond.code ({ cls := "java/lang/StringUTF16", name := "compress", desc := "([CII)[B" } : Jvm.MethodName) jdk_52_method_16_code (6 : Nat) (Option.some (Jvm.ClassFile.FieldType.array Jvm.ClassFile.FieldType.byte)), Jvm.Cond.code ({ cls := "java/lang/StringUTF16", name := "compress", desc := "([CI[BII)I" } : Jvm.MethodName) jdk_52_method_21_code (7 : Nat) (Option.some Jvm.ClassFile.FieldType.int), Jvm.Cond.code ({ cls := "java/lang/StringUTF16", name := "coderFromArrayLen", desc := "([BI)B" } : Jvm.MethodName) jdk_52_method_15_code (2 : Nat) (Option.some Jvm.ClassFile.FieldType.byte), Jvm.Cond.code ({ cls := "com/example/shapegen/shapegen/ConversionMode", name := "fromName", desc := "(Ljava/lang/String;)Lcom/example/shapegen/shapegen/ConversionMode;" } : Jvm.MethodName) prog_1_method_5_code (1 : Nat) (Option.some (Jvm.ClassFile.FieldType.object "com/example/shapegen/shapegen/ConversionMode")), Jvm.Cond.code ({ cls := "com/example/shapegen/shapegen/ConversionMode", name := "values", desc := "()[Lcom/example/shapegen/shapegen/ConversionMode;" } : Jvm.MethodName) prog_1_method_1_code (0 : Nat) (Option.some (Jvm.ClassFile.FieldType.array (Jvm.ClassFile.FieldType.object "com/example/shapegen/shapegen/ConversionMode"))), Jvm.Cond.code ({ cls := "com/example/shapegen/shapegen/Lookup", name := "byName", desc := "([Ljava/lang/Object;Ljava/util/function/Function;Ljava/lang/String;Ljava/lang/String;)Ljava/lang/Object;" } : Jvm.MethodName) prog_9_method_2_code (8 : Nat) (Option.some (Jvm.ClassFile.FieldType.object "java/lang/Object")), Jvm.Cond.code ({ cls := "com/example/shapegen/shapegen/ConversionMode", name := "modeName", desc := "()Ljava/lang/String;" } : Jvm.MethodName) prog_1_method_4_code (1 : Nat) (Option.some (Jvm.ClassFile.FieldType.object "java/lang/String")), Jvm.Cond.code ({ cls := "java/lang/String", name := "equals", desc := "(Ljava/lang/Object;)Z" } : Jvm.MethodName) jdk_42_method_66_code (3 : Nat) (Option.some Jvm.ClassFile.FieldType.boolean), Jvm.Cond.code ({ cls := "java/lang/StringLatin1", name := "equals", desc := "([B[B)Z" } : Jvm.MethodName) jdk_43_method_13_code (3 : Nat) (Option.some Jvm.ClassFile.FieldType.boolean)]
set_option maxRecDepth 65536 in
theorem codes_eq : words1.filter isCode = codes1 := rfl
theorem w_codes : ∀ c ∈ words1.filter isCode, c.before args0 about1 = true := by
  rw [codes_eq]
  intro c hc
  simp only [codes1, List.mem_cons, List.not_mem_nil, or_false] at hc
  rcases hc with rfl | rfl | rfl | rfl | rfl | rfl | rfl | rfl | rfl | rfl | rfl | rfl | rfl
  · exact w_c0
  · exact w_c1
  · exact w_c2
  · exact w_c3
  · exact w_c4
  · exact w_c5
  · exact w_c6
  · exact w_c7
  · exact w_c8
  · exact w_c9
  · exact w_c10
  · exact w_c11
  · exact w_c12
set_option maxRecDepth 65536 in
theorem w_t1 : (words1.take 24).all (fun c => isCode c || c.before args0 about1) = true := by decide +kernel
set_option maxRecDepth 65536 in
theorem w_t2 : ((words1.drop 24).take 24).all (fun c => isCode c || c.before args0 about1) = true := by decide +kernel
set_option maxRecDepth 65536 in
theorem w_t3 : (((words1.drop 24).drop 24).take 24).all (fun c => isCode c || c.before args0 about1) = true := by decide +kernel
set_option maxRecDepth 65536 in
theorem w_t4 : (((words1.drop 24).drop 24).drop 24).all (fun c => isCode c || c.before args0 about1) = true := by decide +kernel
theorem w_tables : (allAtoms (Jvm.Cond.code x code maxLocals ret :: tables_1)).before args0 about1 = true := by
  rw [allAtoms_all]
  show words1.all (fun c => c.before args0 about1) = true
  refine all_split ?_ w_codes
  rw [← List.take_append_drop 24 words1, List.all_append, w_t1, ← List.take_append_drop 24 (words1.drop 24), List.all_append, w_t2, ← List.take_append_drop 24 ((words1.drop 24).drop 24), List.all_append, w_t3, w_t4]
  rfl
set_option maxRecDepth 65536 in
theorem w_rest : rest_1_c.before args0 about1 = true := by decide +kernel
set_option maxRecDepth 65536 in
theorem w_case : (Jvm.Cond.and given_1 narrow_1).before args0 about1 = true := by decide +kernel
theorem w_applies : (headSpec (Jvm.Cond.code x code maxLocals ret :: tables_1) room_1).applies x e0.platform about1 = true :=
  (Spec.applies_iff w_frames).mpr ⟨w_running, w_runnable, w_alone, w_named, w_hears, w_ripe, w_room, w_tables⟩
theorem atStart : AtStart classFile x code maxLocals ret World_1 tables_1 room_1 Calls_1 rest_1 Pre_1 launch0 p0 e0 about1 theMethod args0 below0 :=
  ⟨lists_1, trivial, launch0.admits_env _ _ _, launch0.least_env, fairChoices_fair.cas, fairChoices_fair.clock, w_frames, w_args, w_heap, w_applies, trivial, w_rest, w_case⟩
end start1
theorem witness_1 : WitnessClaimed_1 := ⟨start1.p0, start1.e0, start1.about1, start1.theMethod, start1.args0, start1.below0, start1.atStart⟩
end Jvm.Pilot.@@N@@
