import JvmDerived
import JvmDerived.Pilot.@@N@@Statement
import JvmDerived.Pilot.@@N@@Code
set_option linter.unusedVariables false
set_option linter.unusedSimpArgs false
/-! A small kit of this prover's own: walks in weakest-precondition style, over the library's Stand, its held constants (CHv, CHr, Safe) and its wide ends. General text: no program in it. -/
namespace Jvm.Own
open Sem ClassFile Op Lib Bundle Jvm.Stand Jvm.Free Jvm.LawKit Jvm.RoadKit
/-- what stays the same through the whole law: the launch, the start state, the law's arguments, the start heap's length, whether Strings may come to be interned, the constants held -/
abbrev Gl : Type := Launch × State × Array Value × Nat × Bool × List (String × Nat)
abbrev Gl.l (E : Gl) : Launch := E.1
abbrev Gl.Z (E : Gl) : State := E.2.1
abbrev Gl.a (E : Gl) : Array Value := E.2.2.1
abbrev Gl.n (E : Gl) : Nat := E.2.2.2.1
abbrev Gl.w (E : Gl) : Bool := E.2.2.2.2.1
abbrev Gl.K (E : Gl) : List (String × Nat) := E.2.2.2.2.2
/-- one invocation: program, environment, room, state at the invocation, method, arguments, frames below, record, code, what it promises -/
abbrev Cx : Type := Program × Env × Room × State × MethodId × Array Value × List Frame × Method × Code × (Option Value → Heap → List Addr → Prop)
abbrev Cx.p (x : Cx) : Program := x.1
abbrev Cx.e (x : Cx) : Env := x.2.1
abbrev Cx.R (x : Cx) : Room := x.2.2.1
abbrev Cx.s (x : Cx) : State := x.2.2.2.1
abbrev Cx.m (x : Cx) : MethodId := x.2.2.2.2.1
abbrev Cx.args (x : Cx) : Array Value := x.2.2.2.2.2.1
abbrev Cx.below (x : Cx) : List Frame := x.2.2.2.2.2.2.1
abbrev Cx.meth (x : Cx) : Method := x.2.2.2.2.2.2.2.1
abbrev Cx.c (x : Cx) : Code := x.2.2.2.2.2.2.2.2.1
abbrev Cx.Q (x : Cx) : Option Value → Heap → List Addr → Prop := x.2.2.2.2.2.2.2.2.2
/-- the places that this law's own code may write: made since the start, and no part of a held constant -/
def GOk (E : Gl) : Prop := EW E.Z E.a E.K ∧ (E.w = false → E.K = [])
def FOk (E : Gl) (vm : Vm) (h : Heap) (F : List Addr) : Prop := ∀ x ∈ F, E.n ≤ x ∧ x < h.size ∧ Safe E.Z E.K vm h x
def EndF (w : Bool) (s : State) (o : Outcome) (t : State) (L : List Loc) (k n : Nat) : Prop :=
  match w with
  | true => ReturnedEndW s o t L k n
  | false => FrameEnd s o t L k n
def FinC (E : Gl) (s : State) (R : Room) (Q : Option Value → Heap → List Addr → Prop) (o : Outcome) (t : State) : Prop :=
  ∃ (v : Option Value) (L : List Loc) (F' : List Addr), o = .returned v ∧ Q v t.heap F' ∧ Fr E.n L ∧ Old E.Z E.n t.heap ∧ FOk E t.vm t.heap F' ∧ CHr E.Z E.K s.vm s.heap t.vm t.heap ∧ EndF E.w s o t L R.cells R.slots
/-- A CONTRACT: called with these arguments at this heap it returns; Q says what, the heap then, and the places that may be written behind -/
def MetT (ws : List Cond) (E : Gl) (y : MethodName) (b : ByteArray) (ml : Nat) (ret : Option FieldType) (R : Room) (as' : Array Value) (h : Heap) (F : List Addr) (Q : Option Value → Heap → List Addr → Prop) : Prop :=
  MetFree E.l y (head1 (Cond.code y b ml ret :: ws) R)
    (fun a U => a = as' ∧ E.Z.Warmed39 U.vm ∧ U.heap = h ∧ Old E.Z E.n h ∧ CHv E.Z E.K U.vm h ∧ FOk E U.vm h F ∧ GOk E)
    (fun _ _ _ _ _ => True) (fun _ U o U' => FinC E U R Q o U')
abbrev Met (E : Gl) (y : MethodName) (b : ByteArray) (ml : Nat) (ret : Option FieldType) (R : Room) (as' : Array Value) (h : Heap) (F : List Addr) (Q : Option Value → Heap → List Addr → Prop) : Prop := MetT [] E y b ml ret R as' h F Q
def Is (x : Cx) (own : String) (b : ByteArray) (ml : Nat) (R : Room) (ret : Option FieldType) (nm : String) : Prop :=
  x.c.code = b ∧ x.c.maxLocals = ml ∧ x.R = R ∧ x.meth.sig.returnType = ret ∧ x.meth.name = nm ∧ x.meth.locks = false ∧ x.p.tables.exec = Jvm.exec ∧ x.s.vm.findClass own = some x.m.cls
/-- where a walk stands -/
def Wk (E : Gl) (x : Cx) (T : State) (h : Heap) (F : List Addr) (cs ss : Nat) : Prop :=
  ∃ (vm : Vm) (k : Nat) (L : List Loc), Stand x.p E.l x.e x.R (x.s.setVm vm) x.m x.args x.below x.meth x.c T L cs ss ∧ T.heap = h ∧ x.s.Since vm k ∧ k ≤ h.size ∧ (E.w = false → vm = x.s.vm) ∧
    E.Z.Warmed39 vm ∧ Fr E.n L ∧ Old E.Z E.n h ∧ CHr E.Z E.K x.s.vm x.s.heap vm h ∧ FOk E vm h F ∧ GOk E
/-- what is left to show at a frame of the walk -/
def G (E : Gl) (x : Cx) (T : State) (g : JFrame) : Prop :=
  ∃ (t : State) (o : Outcome), Steps x.p.tables x.e x.below (T.setTop g) t ∧ t.status = .running ∧ Ended t x.below o ∧ FinC E x.s x.R x.Q o t
abbrev fr (x : Cx) (pc : Nat) (Ls : Array Slot) (st : List Value) : JFrame := mkF x.m pc Ls st
/-- an instruction, its length and the next pc -/
def D (b : ByteArray) (pc : Nat) (i : Instr) (len nx : Nat) : Prop := decode b pc = .ok (i, len) ∧ pc + len = nx
/-- a jump: besides, its offset and where it leads -/
def J (b : ByteArray) (pc : Nat) (i : Instr) (len nx : Nat) (o : Int) (tg : Nat) : Prop := decode b pc = .ok (i, len) ∧ pc + len = nx ∧ 0 ≤ (pc : Int) + o ∧ ((pc : Int) + o).toNat = tg
theorem G.of {E : Gl} {x : Cx} {T T' : State} {g g' : JFrame} (hs : ∀ target, Steps x.p.tables x.e x.below (T'.setTop g') target → Steps x.p.tables x.e x.below (T.setTop g) target) (hr : G E x T' g') : G E x T g := by
  obtain ⟨t, o, h1, h2, h3, h4⟩ := hr
  exact ⟨t, o, hs _ h1, h2, h3, h4⟩
theorem G.ofS {E : Gl} {x : Cx} {T T' : State} {g g' : JFrame} (hs : Steps x.p.tables x.e x.below (T.setTop g) (T'.setTop g')) (hr : G E x T' g') : G E x T g := G.of (fun _ h => hs.trans h) hr
theorem G.cast {E : Gl} {x : Cx} {T : State} {g g' : JFrame} (q : g = g') (hr : G E x T g') : G E x T g := q ▸ hr
theorem setVm_same (s : State) : s.setVm s.vm = s := rfl
theorem met_of {ws : List Cond} {E : Gl} {y : MethodName} {b : ByteArray} {ml : Nat} {ret : Option FieldType} {R : Room} {as' : Array Value} {h : Heap} {F : List Addr} {Q : Option Value → Heap → List Addr → Prop} (pn : plainFor y = true)
    (body : ∀ (x : Cx) (T : State), x.Q = Q → Is x y.cls b ml R ret y.name → Wk E x T h F 0 0 → G E x T (entryFrame x.m as' ml)) : MetT ws E y b ml ret R as' h F Q := by
  refine MetFree.of_bodySF pn hisR ?_
  intro p e s m args below meth c s₁ Bd hml0 hP hK
  obtain ⟨rfl, hZ, hh, hO, hC, hF, hE⟩ := hP
  have X0 : Stand p E.l e R s m args below meth c s₁ [] 0 0 := Stand.of_body Bd
  have e0 : s₁.heap = h := by rw [← hh, Bd.state]; rfl
  have hlk : meth.locks = false := BodyLoose.notSynchronized Bd
  have hG := body (p, e, R, s, m, args, below, meth, c, Q) s₁ rfl ⟨Bd.bytes, hml0, rfl, Bd.returns, (name_of_methodNamed Bd.named Bd.method).1, hlk, Bd.exec, findClass_of_methodNamed Bd.named⟩
    ⟨s.vm, 0, [], X0, e0, (State.WarmedH.refl s).since 0, Nat.zero_le _, fun _ => rfl, hZ, Fr.nil _, hO, by subst hh; exact CHr.refl hC, hF, hE⟩
  exact hG
section Steps
variable {E : Gl} {x : Cx} {T : State} {h : Heap} {F : List Addr} {cs ss : Nat} {own : String} {b : ByteArray} {ml : Nat} {R : Room} {ret : Option FieldType} {nm : String} {pc nx tg : Nat} {o : Int} {Ls Ls' : Array Slot} {st : List Value}
theorem Wk.here (W : Wk E x T h F cs ss) : At T x.m x.c x.below := by obtain ⟨_, _, _, X, -⟩ := W; exact X.here
theorem Wk.old (W : Wk E x T h F cs ss) : Ext E.Z.heap h := by obtain ⟨_, _, _, _, _, _, _, _, _, _, hO, -⟩ := W; exact hO.2
theorem Wk.size (W : Wk E x T h F cs ss) : E.n ≤ h.size := by obtain ⟨_, _, _, _, _, _, _, _, _, _, hO, -⟩ := W; rw [← hO.1]; exact hO.2.1
theorem Wk.gok (W : Wk E x T h F cs ss) : GOk E := by obtain ⟨_, _, _, _, _, _, _, _, _, _, _, _, _, hE⟩ := W; exact hE
theorem Wk.mono (W : Wk E x T h F cs ss) {F' : List Addr} {cs' ss' : Nat} (hF : ∀ y ∈ F', y ∈ F) (hc : cs ≤ cs') (hs : ss ≤ ss') : Wk E x T h F' cs' ss' := by
  obtain ⟨vm, k, L, X, h1, h2, h3, h4, h5, h6, h7, h8, h9, h10⟩ := W
  exact ⟨vm, k, L, X.mono hc hs, h1, h2, h3, h4, h5, h6, h7, h8, fun y hy => h9 y (hF y hy), h10⟩
theorem Wk.fOk (W : Wk E x T h F cs ss) {a : Addr} (ha : a ∈ F) : E.n ≤ a ∧ a < h.size := by
  obtain ⟨_, _, _, _, _, _, _, _, _, _, _, _, hF, _⟩ := W; exact ⟨(hF a ha).1, (hF a ha).2.1⟩
theorem pstep (W : Wk E x T h F cs ss) {g g' : JFrame} (hs : ∀ target, At T x.m x.c x.below → Steps x.p.tables x.e x.below (T.setTop g') target → Steps x.p.tables x.e x.below (T.setTop g) target) (hr : G E x T g') : G E x T g := G.of (fun t r => hs t W.here r) hr
theorem w_iloadN (W : Wk E x T h F cs ss) (B : Is x own b ml R ret nm) {k : Fin 4} {v : Int32} (d : D b pc (.iload_n k) 1 nx) (hl : Ls[k.val]? = some (.val (.int v))) (hr : G E x T (fr x nx Ls (.int v :: st))) : G E x T (fr x pc Ls st) := by
  obtain ⟨d1, rfl⟩ := d; exact pstep W (fun _ A r => XS.iloadN A B.2.2.2.2.2.2.1 rfl (by rw [B.1]; exact d1) hl r) hr
theorem w_iload (W : Wk E x T h F cs ss) (B : Is x own b ml R ret nm) {k : Nat} {v : Int32} (d : D b pc (.iload k) 2 nx) (hl : Ls[k]? = some (.val (.int v))) (hr : G E x T (fr x nx Ls (.int v :: st))) : G E x T (fr x pc Ls st) := by
  obtain ⟨d1, rfl⟩ := d; exact pstep W (fun _ A r => XS.iload A B.2.2.2.2.2.2.1 rfl (by rw [B.1]; exact d1) hl r) hr
theorem w_lloadN (W : Wk E x T h F cs ss) (B : Is x own b ml R ret nm) {k : Fin 4} {v : Int64} (d : D b pc (.lload_n k) 1 nx) (hl : Ls[k.val]? = some (.val (.long v))) (hr : G E x T (fr x nx Ls (.long v :: st))) : G E x T (fr x pc Ls st) := by
  obtain ⟨d1, rfl⟩ := d; exact pstep W (fun _ A r => XT.lloadN A B.2.2.2.2.2.2.1 rfl (by rw [B.1]; exact d1) hl r) hr
theorem w_lload (W : Wk E x T h F cs ss) (B : Is x own b ml R ret nm) {k : Nat} {v : Int64} (d : D b pc (.lload k) 2 nx) (hl : Ls[k]? = some (.val (.long v))) (hr : G E x T (fr x nx Ls (.long v :: st))) : G E x T (fr x pc Ls st) := by
  obtain ⟨d1, rfl⟩ := d; exact pstep W (fun _ A r => XT.lload A B.2.2.2.2.2.2.1 rfl (by rw [B.1]; exact d1) hl r) hr
theorem w_aloadN (W : Wk E x T h F cs ss) (B : Is x own b ml R ret nm) {k : Fin 4} {v : Value} (d : D b pc (.aload_n k) 1 nx) (hl : Ls[k.val]? = some (.val v)) (hv : v.isRef = true) (hr : G E x T (fr x nx Ls (v :: st))) : G E x T (fr x pc Ls st) := by
  obtain ⟨d1, rfl⟩ := d; exact pstep W (fun _ A r => XS.aloadN A B.2.2.2.2.2.2.1 rfl (by rw [B.1]; exact d1) hl hv r) hr
theorem w_aload (W : Wk E x T h F cs ss) (B : Is x own b ml R ret nm) {k : Nat} {v : Value} (d : D b pc (.aload k) 2 nx) (hl : Ls[k]? = some (.val v)) (hv : v.isRef = true) (hr : G E x T (fr x nx Ls (v :: st))) : G E x T (fr x pc Ls st) := by
  obtain ⟨d1, rfl⟩ := d; exact pstep W (fun _ A r => XS.aload A B.2.2.2.2.2.2.1 rfl (by rw [B.1]; exact d1) hl hv r) hr
theorem w_istoreN (W : Wk E x T h F cs ss) (B : Is x own b ml R ret nm) {k : Fin 4} {v : Int32} (d : D b pc (.istore_n k) 1 nx) (hl : storeLocals Ls k.val (.int v) = some Ls') (hr : G E x T (fr x nx Ls' st)) : G E x T (fr x pc Ls (.int v :: st)) := by
  obtain ⟨d1, rfl⟩ := d; exact pstep W (fun _ A r => XS.istoreN A B.2.2.2.2.2.2.1 rfl (by rw [B.1]; exact d1) rfl hl r) hr
theorem w_istore (W : Wk E x T h F cs ss) (B : Is x own b ml R ret nm) {k : Nat} {v : Int32} (d : D b pc (.istore k) 2 nx) (hl : storeLocals Ls k (.int v) = some Ls') (hr : G E x T (fr x nx Ls' st)) : G E x T (fr x pc Ls (.int v :: st)) := by
  obtain ⟨d1, rfl⟩ := d; exact pstep W (fun _ A r => XS.istore A B.2.2.2.2.2.2.1 rfl (by rw [B.1]; exact d1) rfl hl r) hr
theorem w_lstoreN (W : Wk E x T h F cs ss) (B : Is x own b ml R ret nm) {k : Fin 4} {v : Int64} (d : D b pc (.lstore_n k) 1 nx) (hl : storeLocals Ls k.val (.long v) = some Ls') (hr : G E x T (fr x nx Ls' st)) : G E x T (fr x pc Ls (.long v :: st)) := by
  obtain ⟨d1, rfl⟩ := d; exact pstep W (fun _ A r => XT.lstoreN A B.2.2.2.2.2.2.1 rfl (by rw [B.1]; exact d1) rfl hl r) hr
theorem w_lstore (W : Wk E x T h F cs ss) (B : Is x own b ml R ret nm) {k : Nat} {v : Int64} (d : D b pc (.lstore k) 2 nx) (hl : storeLocals Ls k (.long v) = some Ls') (hr : G E x T (fr x nx Ls' st)) : G E x T (fr x pc Ls (.long v :: st)) := by
  obtain ⟨d1, rfl⟩ := d; exact pstep W (fun _ A r => XT.lstore A B.2.2.2.2.2.2.1 rfl (by rw [B.1]; exact d1) rfl hl r) hr
theorem w_astoreN (W : Wk E x T h F cs ss) (B : Is x own b ml R ret nm) {k : Fin 4} {v : Value} (d : D b pc (.astore_n k) 1 nx) (hv : v.isRef = true) (hl : storeLocals Ls k.val v = some Ls') (hr : G E x T (fr x nx Ls' st)) : G E x T (fr x pc Ls (v :: st)) := by
  obtain ⟨d1, rfl⟩ := d; exact pstep W (fun _ A r => XS.astoreN A B.2.2.2.2.2.2.1 rfl (by rw [B.1]; exact d1) rfl hv hl r) hr
theorem w_astore (W : Wk E x T h F cs ss) (B : Is x own b ml R ret nm) {k : Nat} {v : Value} (d : D b pc (.astore k) 2 nx) (hv : v.isRef = true) (hl : storeLocals Ls k v = some Ls') (hr : G E x T (fr x nx Ls' st)) : G E x T (fr x pc Ls (v :: st)) := by
  obtain ⟨d1, rfl⟩ := d; exact pstep W (fun _ A r => XS.astore A B.2.2.2.2.2.2.1 rfl (by rw [B.1]; exact d1) rfl hv hl r) hr
theorem w_iconst (W : Wk E x T h F cs ss) (B : Is x own b ml R ret nm) {i : Int} {v : Int32} (d : D b pc (.iconst i) 1 nx) (hv : Int32.ofInt i = v) (hr : G E x T (fr x nx Ls (.int v :: st))) : G E x T (fr x pc Ls st) := by
  obtain ⟨d1, rfl⟩ := d; subst hv; exact pstep W (fun _ A r => XS.iconst A B.2.2.2.2.2.2.1 rfl (by rw [B.1]; exact d1) r) hr
theorem w_bipush (W : Wk E x T h F cs ss) (B : Is x own b ml R ret nm) {i : Int} {v : Int32} (d : D b pc (.bipush i) 2 nx) (hv : (Int8.ofInt i).toInt32 = v) (hr : G E x T (fr x nx Ls (.int v :: st))) : G E x T (fr x pc Ls st) := by
  obtain ⟨d1, rfl⟩ := d; subst hv; exact pstep W (fun _ A r => XS.bipush A B.2.2.2.2.2.2.1 rfl (by rw [B.1]; exact d1) r) hr
theorem w_sipush (W : Wk E x T h F cs ss) (B : Is x own b ml R ret nm) {i : Int} {v : Int32} (d : D b pc (.sipush i) 3 nx) (hv : (Int16.ofInt i).toInt32 = v) (hr : G E x T (fr x nx Ls (.int v :: st))) : G E x T (fr x pc Ls st) := by
  obtain ⟨d1, rfl⟩ := d; subst hv; exact pstep W (fun _ A r => XS.sipush A B.2.2.2.2.2.2.1 rfl (by rw [B.1]; exact d1) r) hr
theorem w_lconst (W : Wk E x T h F cs ss) (B : Is x own b ml R ret nm) {i : Fin 2} {v : Int64} (d : D b pc (.lconst i) 1 nx) (hv : Int64.ofNat i = v) (hr : G E x T (fr x nx Ls (.long v :: st))) : G E x T (fr x pc Ls st) := by
  obtain ⟨d1, rfl⟩ := d; subst hv; exact pstep W (fun _ A r => XT.lconst A B.2.2.2.2.2.2.1 rfl (by rw [B.1]; exact d1) r) hr
theorem w_null (W : Wk E x T h F cs ss) (B : Is x own b ml R ret nm) (d : D b pc .aconst_null 1 nx) (hr : G E x T (fr x nx Ls (.null :: st))) : G E x T (fr x pc Ls st) := by
  obtain ⟨d1, rfl⟩ := d; exact pstep W (fun _ A r => XS.aconstNull A B.2.2.2.2.2.2.1 rfl (by rw [B.1]; exact d1) r) hr
theorem w_dup (W : Wk E x T h F cs ss) (B : Is x own b ml R ret nm) {v : Value} (d : D b pc .dup 1 nx) (hc : v.category = 1) (hr : G E x T (fr x nx Ls (v :: v :: st))) : G E x T (fr x pc Ls (v :: st)) := by
  obtain ⟨d1, rfl⟩ := d; exact pstep W (fun _ A r => XS.dup A B.2.2.2.2.2.2.1 rfl (by rw [B.1]; exact d1) rfl hc r) hr
theorem w_pop (W : Wk E x T h F cs ss) (B : Is x own b ml R ret nm) {v : Value} (d : D b pc .pop 1 nx) (hc : v.category = 1) (hr : G E x T (fr x nx Ls st)) : G E x T (fr x pc Ls (v :: st)) := by
  obtain ⟨d1, rfl⟩ := d; exact pstep W (fun _ A r => XT.pop A B.2.2.2.2.2.2.1 rfl (by rw [B.1]; exact d1) rfl hc r) hr
theorem w_dupX1 (W : Wk E x T h F cs ss) (B : Is x own b ml R ret nm) {v u : Value} (d : D b pc .dup_x1 1 nx) (hc : v.category = 1) (hc' : u.category = 1) (hr : G E x T (fr x nx Ls (v :: u :: v :: st))) : G E x T (fr x pc Ls (v :: u :: st)) := by
  obtain ⟨d1, rfl⟩ := d; exact pstep W (fun _ A r => XT.dupX1 A B.2.2.2.2.2.2.1 rfl (by rw [B.1]; exact d1) rfl hc hc' r) hr
theorem w_dup2 (W : Wk E x T h F cs ss) (B : Is x own b ml R ret nm) {v u : Value} (d : D b pc .dup2 1 nx) (hc : v.category = 1) (hc' : u.category = 1) (hr : G E x T (fr x nx Ls (v :: u :: v :: u :: st))) : G E x T (fr x pc Ls (v :: u :: st)) := by
  obtain ⟨d1, rfl⟩ := d; exact pstep W (fun _ A r => XT.dup2 A B.2.2.2.2.2.2.1 rfl (by rw [B.1]; exact d1) rfl hc hc' r) hr
theorem w_iinc (W : Wk E x T h F cs ss) (B : Is x own b ml R ret nm) {k : Nat} {i : Int} {v w : Int32} (d : D b pc (.iinc k i) 3 nx) (hl : Ls[k]? = some (.val (.int v))) (hw : v + Int32.ofInt i = w) (hl' : storeLocals Ls k (.int w) = some Ls') (hr : G E x T (fr x nx Ls' st)) : G E x T (fr x pc Ls st) := by
  obtain ⟨d1, rfl⟩ := d; subst hw; exact pstep W (fun _ A r => XS.iinc A B.2.2.2.2.2.2.1 rfl (by rw [B.1]; exact d1) hl hl' r) hr
theorem w_goto (W : Wk E x T h F cs ss) (B : Is x own b ml R ret nm) (d : J b pc (.goto o) 3 nx o tg) (hr : G E x T (fr x tg Ls st)) : G E x T (fr x pc Ls st) := by
  obtain ⟨d1, -, d2, d3⟩ := d; exact pstep W (fun _ A r => XS.goto A B.2.2.2.2.2.2.1 rfl (pc0 := pc) rfl (by rw [B.1]; exact d1) d2 d3 r) hr
end Steps
end Jvm.Own
namespace Jvm.Own
open Sem ClassFile Op Lib Bundle Jvm.Stand Jvm.Free Jvm.LawKit Jvm.RoadKit
section StepsB
variable {E : Gl} {x : Cx} {T : State} {h : Heap} {F : List Addr} {cs ss : Nat} {own : String} {b : ByteArray} {ml : Nat} {R : Room} {ret : Option FieldType} {nm : String} {pc nx tg : Nat} {o : Int} {Ls Ls' : Array Slot} {st : List Value}
theorem w_iadd (W : Wk E x T h F cs ss) (B : Is x own b ml R ret nm) {u v : Int32} (d : D b pc .iadd 1 nx) (hr : G E x T (fr x nx Ls (.int (u + v) :: st))) : G E x T (fr x pc Ls (.int v :: .int u :: st)) := by
  obtain ⟨d1, rfl⟩ := d; exact pstep W (fun _ A r => XS.iadd A B.2.2.2.2.2.2.1 rfl (by rw [B.1]; exact d1) rfl r) hr
theorem w_isub (W : Wk E x T h F cs ss) (B : Is x own b ml R ret nm) {u v : Int32} (d : D b pc .isub 1 nx) (hr : G E x T (fr x nx Ls (.int (u - v) :: st))) : G E x T (fr x pc Ls (.int v :: .int u :: st)) := by
  obtain ⟨d1, rfl⟩ := d; exact pstep W (fun _ A r => XS.isub A B.2.2.2.2.2.2.1 rfl (by rw [B.1]; exact d1) rfl r) hr
theorem w_imul (W : Wk E x T h F cs ss) (B : Is x own b ml R ret nm) {u v : Int32} (d : D b pc .imul 1 nx) (hr : G E x T (fr x nx Ls (.int (u * v) :: st))) : G E x T (fr x pc Ls (.int v :: .int u :: st)) := by
  obtain ⟨d1, rfl⟩ := d; exact pstep W (fun _ A r => XS.imul A B.2.2.2.2.2.2.1 rfl (by rw [B.1]; exact d1) rfl r) hr
theorem w_iand (W : Wk E x T h F cs ss) (B : Is x own b ml R ret nm) {u v : Int32} (d : D b pc .iand 1 nx) (hr : G E x T (fr x nx Ls (.int (u &&& v) :: st))) : G E x T (fr x pc Ls (.int v :: .int u :: st)) := by
  obtain ⟨d1, rfl⟩ := d; exact pstep W (fun _ A r => XS.iand A B.2.2.2.2.2.2.1 rfl (by rw [B.1]; exact d1) rfl r) hr
theorem w_ior (W : Wk E x T h F cs ss) (B : Is x own b ml R ret nm) {u v : Int32} (d : D b pc .ior 1 nx) (hr : G E x T (fr x nx Ls (.int (u ||| v) :: st))) : G E x T (fr x pc Ls (.int v :: .int u :: st)) := by
  obtain ⟨d1, rfl⟩ := d; exact pstep W (fun _ A r => XT.ior A B.2.2.2.2.2.2.1 rfl (by rw [B.1]; exact d1) rfl r) hr
theorem w_ixor (W : Wk E x T h F cs ss) (B : Is x own b ml R ret nm) {u v : Int32} (d : D b pc .ixor 1 nx) (hr : G E x T (fr x nx Ls (.int (u ^^^ v) :: st))) : G E x T (fr x pc Ls (.int v :: .int u :: st)) := by
  obtain ⟨d1, rfl⟩ := d; exact pstep W (fun _ A r => XT.ixor A B.2.2.2.2.2.2.1 rfl (by rw [B.1]; exact d1) rfl r) hr
theorem w_idiv (W : Wk E x T h F cs ss) (B : Is x own b ml R ret nm) {u v : Int32} (d : D b pc .idiv 1 nx) (hy : v ≠ 0) (hr : G E x T (fr x nx Ls (.int (u / v) :: st))) : G E x T (fr x pc Ls (.int v :: .int u :: st)) := by
  obtain ⟨d1, rfl⟩ := d; exact pstep W (fun _ A r => XS.idiv A B.2.2.2.2.2.2.1 rfl (by rw [B.1]; exact d1) rfl hy r) hr
theorem w_ladd (W : Wk E x T h F cs ss) (B : Is x own b ml R ret nm) {u v : Int64} (d : D b pc .ladd 1 nx) (hr : G E x T (fr x nx Ls (.long (u + v) :: st))) : G E x T (fr x pc Ls (.long v :: .long u :: st)) := by
  obtain ⟨d1, rfl⟩ := d; exact pstep W (fun _ A r => XT.ladd A B.2.2.2.2.2.2.1 rfl (by rw [B.1]; exact d1) rfl r) hr
theorem w_lsub (W : Wk E x T h F cs ss) (B : Is x own b ml R ret nm) {u v : Int64} (d : D b pc .lsub 1 nx) (hr : G E x T (fr x nx Ls (.long (u - v) :: st))) : G E x T (fr x pc Ls (.long v :: .long u :: st)) := by
  obtain ⟨d1, rfl⟩ := d; exact pstep W (fun _ A r => XT.lsub A B.2.2.2.2.2.2.1 rfl (by rw [B.1]; exact d1) rfl r) hr
theorem w_lmul (W : Wk E x T h F cs ss) (B : Is x own b ml R ret nm) {u v : Int64} (d : D b pc .lmul 1 nx) (hr : G E x T (fr x nx Ls (.long (u * v) :: st))) : G E x T (fr x pc Ls (.long v :: .long u :: st)) := by
  obtain ⟨d1, rfl⟩ := d; exact pstep W (fun _ A r => XT.lmul A B.2.2.2.2.2.2.1 rfl (by rw [B.1]; exact d1) rfl r) hr
theorem w_land (W : Wk E x T h F cs ss) (B : Is x own b ml R ret nm) {u v : Int64} (d : D b pc .land 1 nx) (hr : G E x T (fr x nx Ls (.long (u &&& v) :: st))) : G E x T (fr x pc Ls (.long v :: .long u :: st)) := by
  obtain ⟨d1, rfl⟩ := d; exact pstep W (fun _ A r => XT.land A B.2.2.2.2.2.2.1 rfl (by rw [B.1]; exact d1) rfl r) hr
theorem w_lor (W : Wk E x T h F cs ss) (B : Is x own b ml R ret nm) {u v : Int64} (d : D b pc .lor 1 nx) (hr : G E x T (fr x nx Ls (.long (u ||| v) :: st))) : G E x T (fr x pc Ls (.long v :: .long u :: st)) := by
  obtain ⟨d1, rfl⟩ := d; exact pstep W (fun _ A r => XT.lor A B.2.2.2.2.2.2.1 rfl (by rw [B.1]; exact d1) rfl r) hr
theorem w_lxor (W : Wk E x T h F cs ss) (B : Is x own b ml R ret nm) {u v : Int64} (d : D b pc .lxor 1 nx) (hr : G E x T (fr x nx Ls (.long (u ^^^ v) :: st))) : G E x T (fr x pc Ls (.long v :: .long u :: st)) := by
  obtain ⟨d1, rfl⟩ := d; exact pstep W (fun _ A r => XT.lxor A B.2.2.2.2.2.2.1 rfl (by rw [B.1]; exact d1) rfl r) hr
theorem w_ldiv (W : Wk E x T h F cs ss) (B : Is x own b ml R ret nm) {u v : Int64} (d : D b pc .ldiv 1 nx) (hy : v ≠ 0) (hr : G E x T (fr x nx Ls (.long (u / v) :: st))) : G E x T (fr x pc Ls (.long v :: .long u :: st)) := by
  obtain ⟨d1, rfl⟩ := d; exact pstep W (fun _ A r => XT.ldiv A B.2.2.2.2.2.2.1 rfl (by rw [B.1]; exact d1) rfl hy r) hr
theorem w_irem (W : Wk E x T h F cs ss) (B : Is x own b ml R ret nm) {u v : Int32} (d : D b pc .irem 1 nx) (hy : v ≠ 0) (hr : G E x T (fr x nx Ls (.int (u % v) :: st))) : G E x T (fr x pc Ls (.int v :: .int u :: st)) := by
  obtain ⟨d1, rfl⟩ := d; obtain ⟨_, _, _, X, -⟩ := W; exact G.of (fun _ r => iremM X B.2.2.2.2.2.2.1 rfl (by rw [B.1]; exact d1) rfl hy r) hr
theorem w_lrem (W : Wk E x T h F cs ss) (B : Is x own b ml R ret nm) {u v : Int64} (d : D b pc .lrem 1 nx) (hy : v ≠ 0) (hr : G E x T (fr x nx Ls (.long (u % v) :: st))) : G E x T (fr x pc Ls (.long v :: .long u :: st)) := by
  obtain ⟨d1, rfl⟩ := d; rw [← lrem_mod] at hr; exact pstep W (fun _ A r => XT.lrem A B.2.2.2.2.2.2.1 rfl (by rw [B.1]; exact d1) rfl hy r) hr
theorem w_ineg (W : Wk E x T h F cs ss) (B : Is x own b ml R ret nm) {u : Int32} (d : D b pc .ineg 1 nx) (hr : G E x T (fr x nx Ls (.int (-u) :: st))) : G E x T (fr x pc Ls (.int u :: st)) := by
  obtain ⟨d1, rfl⟩ := d; exact pstep W (fun _ A r => XS.ineg A B.2.2.2.2.2.2.1 rfl (by rw [B.1]; exact d1) rfl r) hr
theorem w_lneg (W : Wk E x T h F cs ss) (B : Is x own b ml R ret nm) {u : Int64} (d : D b pc .lneg 1 nx) (hr : G E x T (fr x nx Ls (.long (-u) :: st))) : G E x T (fr x pc Ls (.long u :: st)) := by
  obtain ⟨d1, rfl⟩ := d; exact pstep W (fun _ A r => XT.lneg A B.2.2.2.2.2.2.1 rfl (by rw [B.1]; exact d1) rfl r) hr
theorem w_i2l (W : Wk E x T h F cs ss) (B : Is x own b ml R ret nm) {u : Int32} (d : D b pc .i2l 1 nx) (hr : G E x T (fr x nx Ls (.long (u.toInt64) :: st))) : G E x T (fr x pc Ls (.int u :: st)) := by
  obtain ⟨d1, rfl⟩ := d; exact pstep W (fun _ A r => XT.i2l A B.2.2.2.2.2.2.1 rfl (by rw [B.1]; exact d1) rfl r) hr
theorem w_l2i (W : Wk E x T h F cs ss) (B : Is x own b ml R ret nm) {u : Int64} (d : D b pc .l2i 1 nx) (hr : G E x T (fr x nx Ls (.int (u.toInt32) :: st))) : G E x T (fr x pc Ls (.long u :: st)) := by
  obtain ⟨d1, rfl⟩ := d; exact pstep W (fun _ A r => XT.l2i A B.2.2.2.2.2.2.1 rfl (by rw [B.1]; exact d1) rfl r) hr
theorem w_i2b (W : Wk E x T h F cs ss) (B : Is x own b ml R ret nm) {u : Int32} (d : D b pc .i2b 1 nx) (hr : G E x T (fr x nx Ls (.int (u.toInt8.toInt32) :: st))) : G E x T (fr x pc Ls (.int u :: st)) := by
  obtain ⟨d1, rfl⟩ := d; exact pstep W (fun _ A r => XT.i2b A B.2.2.2.2.2.2.1 rfl (by rw [B.1]; exact d1) rfl r) hr
theorem w_i2c (W : Wk E x T h F cs ss) (B : Is x own b ml R ret nm) {u : Int32} (d : D b pc .i2c 1 nx) (hr : G E x T (fr x nx Ls (.int (u.toUInt32.toUInt16.toUInt32.toInt32) :: st))) : G E x T (fr x pc Ls (.int u :: st)) := by
  obtain ⟨d1, rfl⟩ := d; exact pstep W (fun _ A r => XT.i2c A B.2.2.2.2.2.2.1 rfl (by rw [B.1]; exact d1) rfl r) hr
theorem w_i2s (W : Wk E x T h F cs ss) (B : Is x own b ml R ret nm) {u : Int32} (d : D b pc .i2s 1 nx) (hr : G E x T (fr x nx Ls (.int (u.toInt16.toInt32) :: st))) : G E x T (fr x pc Ls (.int u :: st)) := by
  obtain ⟨d1, rfl⟩ := d; exact pstep W (fun _ A r => XT.i2s A B.2.2.2.2.2.2.1 rfl (by rw [B.1]; exact d1) rfl r) hr
theorem w_ishl (W : Wk E x T h F cs ss) (B : Is x own b ml R ret nm) {u v : Int32} (d : D b pc .ishl 1 nx) (hr : G E x T (fr x nx Ls (.int (u <<< (v &&& 31)) :: st))) : G E x T (fr x pc Ls (.int v :: .int u :: st)) := by
  obtain ⟨d1, rfl⟩ := d; exact pstep W (fun _ A r => XT.ishl A B.2.2.2.2.2.2.1 rfl (by rw [B.1]; exact d1) rfl r) hr
theorem w_ishr (W : Wk E x T h F cs ss) (B : Is x own b ml R ret nm) {u v : Int32} (d : D b pc .ishr 1 nx) (hr : G E x T (fr x nx Ls (.int (u >>> (v &&& 31)) :: st))) : G E x T (fr x pc Ls (.int v :: .int u :: st)) := by
  obtain ⟨d1, rfl⟩ := d; exact pstep W (fun _ A r => XT.ishr A B.2.2.2.2.2.2.1 rfl (by rw [B.1]; exact d1) rfl r) hr
theorem w_iushr (W : Wk E x T h F cs ss) (B : Is x own b ml R ret nm) {u v : Int32} (d : D b pc .iushr 1 nx) (hr : G E x T (fr x nx Ls (.int (XT.ushr u v) :: st))) : G E x T (fr x pc Ls (.int v :: .int u :: st)) := by
  obtain ⟨d1, rfl⟩ := d; exact pstep W (fun _ A r => XT.iushr A B.2.2.2.2.2.2.1 rfl (by rw [B.1]; exact d1) rfl r) hr
theorem w_lshl (W : Wk E x T h F cs ss) (B : Is x own b ml R ret nm) {u : Int64} {v : Int32} (d : D b pc .lshl 1 nx) (hr : G E x T (fr x nx Ls (.long (u <<< (v.toInt64 &&& 63)) :: st))) : G E x T (fr x pc Ls (.int v :: .long u :: st)) := by
  obtain ⟨d1, rfl⟩ := d; exact pstep W (fun _ A r => XT.lshl A B.2.2.2.2.2.2.1 rfl (by rw [B.1]; exact d1) rfl r) hr
theorem w_lshr (W : Wk E x T h F cs ss) (B : Is x own b ml R ret nm) {u : Int64} {v : Int32} (d : D b pc .lshr 1 nx) (hr : G E x T (fr x nx Ls (.long (u >>> (v.toInt64 &&& 63)) :: st))) : G E x T (fr x pc Ls (.int v :: .long u :: st)) := by
  obtain ⟨d1, rfl⟩ := d; exact pstep W (fun _ A r => XT.lshr A B.2.2.2.2.2.2.1 rfl (by rw [B.1]; exact d1) rfl r) hr
theorem w_lushr (W : Wk E x T h F cs ss) (B : Is x own b ml R ret nm) {u : Int64} {v : Int32} (d : D b pc .lushr 1 nx) (hr : G E x T (fr x nx Ls (.long (XT.ushrL u v) :: st))) : G E x T (fr x pc Ls (.int v :: .long u :: st)) := by
  obtain ⟨d1, rfl⟩ := d; exact pstep W (fun _ A r => XT.lushr A B.2.2.2.2.2.2.1 rfl (by rw [B.1]; exact d1) rfl r) hr
theorem w_lcmp (W : Wk E x T h F cs ss) (B : Is x own b ml R ret nm) {u v : Int64} (d : D b pc .lcmp 1 nx) (hr : G E x T (fr x nx Ls (.int (XT.cmpL u v) :: st))) : G E x T (fr x pc Ls (.long v :: .long u :: st)) := by
  obtain ⟨d1, rfl⟩ := d; exact pstep W (fun _ A r => XT.lcmp A B.2.2.2.2.2.2.1 rfl (by rw [B.1]; exact d1) rfl r) hr
theorem w_if_eq (W : Wk E x T h F cs ss) (B : Is x own b ml R ret nm) {u : Int32} (d : J b pc (.ifCond .eq o) 3 nx o tg) (ht : u = 0 → G E x T (fr x tg Ls st)) (hf : ¬ u = 0 → G E x T (fr x nx Ls st)) : G E x T (fr x pc Ls (.int u :: st)) := by
  obtain ⟨d1, rfl, d2, d3⟩ := d
  by_cases q : u = 0
  · exact pstep W (fun _ A r => XS.ifYes A B.2.2.2.2.2.2.1 rfl (pc0 := pc) rfl (by rw [B.1]; exact d1) rfl ((if0 _ _).trans (teq q).1) d2 d3 r) (ht q)
  · exact pstep W (fun _ A r => XS.ifNo A B.2.2.2.2.2.2.1 rfl (by rw [B.1]; exact d1) rfl ((if0 _ _).trans (feq q).1) r) (hf q)
theorem w_icmp_eq (W : Wk E x T h F cs ss) (B : Is x own b ml R ret nm) {u v : Int32} (d : J b pc (.if_icmp .eq o) 3 nx o tg) (ht : u = v → G E x T (fr x tg Ls st)) (hf : ¬ u = v → G E x T (fr x nx Ls st)) : G E x T (fr x pc Ls (.int v :: .int u :: st)) := by
  obtain ⟨d1, rfl, d2, d3⟩ := d
  by_cases q : u = v
  · exact pstep W (fun _ A r => XS.icmpYes A B.2.2.2.2.2.2.1 rfl (pc0 := pc) rfl (by rw [B.1]; exact d1) rfl (teq q).1 d2 d3 r) (ht q)
  · exact pstep W (fun _ A r => XS.icmpNo A B.2.2.2.2.2.2.1 rfl (by rw [B.1]; exact d1) rfl (feq q).1 r) (hf q)
theorem w_if_ne (W : Wk E x T h F cs ss) (B : Is x own b ml R ret nm) {u : Int32} (d : J b pc (.ifCond .ne o) 3 nx o tg) (ht : ¬ u = 0 → G E x T (fr x tg Ls st)) (hf : u = 0 → G E x T (fr x nx Ls st)) : G E x T (fr x pc Ls (.int u :: st)) := by
  obtain ⟨d1, rfl, d2, d3⟩ := d
  by_cases q : u = 0
  · exact pstep W (fun _ A r => XS.ifNo A B.2.2.2.2.2.2.1 rfl (by rw [B.1]; exact d1) rfl ((if0 _ _).trans (teq q).2) r) (hf q)
  · exact pstep W (fun _ A r => XS.ifYes A B.2.2.2.2.2.2.1 rfl (pc0 := pc) rfl (by rw [B.1]; exact d1) rfl ((if0 _ _).trans (feq q).2) d2 d3 r) (ht q)
theorem w_icmp_ne (W : Wk E x T h F cs ss) (B : Is x own b ml R ret nm) {u v : Int32} (d : J b pc (.if_icmp .ne o) 3 nx o tg) (ht : ¬ u = v → G E x T (fr x tg Ls st)) (hf : u = v → G E x T (fr x nx Ls st)) : G E x T (fr x pc Ls (.int v :: .int u :: st)) := by
  obtain ⟨d1, rfl, d2, d3⟩ := d
  by_cases q : u = v
  · exact pstep W (fun _ A r => XS.icmpNo A B.2.2.2.2.2.2.1 rfl (by rw [B.1]; exact d1) rfl (teq q).2 r) (hf q)
  · exact pstep W (fun _ A r => XS.icmpYes A B.2.2.2.2.2.2.1 rfl (pc0 := pc) rfl (by rw [B.1]; exact d1) rfl (feq q).2 d2 d3 r) (ht q)
theorem w_if_lt (W : Wk E x T h F cs ss) (B : Is x own b ml R ret nm) {u : Int32} (d : J b pc (.ifCond .lt o) 3 nx o tg) (ht : u < 0 → G E x T (fr x tg Ls st)) (hf : ¬ u < 0 → G E x T (fr x nx Ls st)) : G E x T (fr x pc Ls (.int u :: st)) := by
  obtain ⟨d1, rfl, d2, d3⟩ := d
  by_cases q : u < 0
  · exact pstep W (fun _ A r => XS.ifYes A B.2.2.2.2.2.2.1 rfl (pc0 := pc) rfl (by rw [B.1]; exact d1) rfl ((if0 _ _).trans (tlt q).1) d2 d3 r) (ht q)
  · exact pstep W (fun _ A r => XS.ifNo A B.2.2.2.2.2.2.1 rfl (by rw [B.1]; exact d1) rfl ((if0 _ _).trans (flt q).1) r) (hf q)
theorem w_icmp_lt (W : Wk E x T h F cs ss) (B : Is x own b ml R ret nm) {u v : Int32} (d : J b pc (.if_icmp .lt o) 3 nx o tg) (ht : u < v → G E x T (fr x tg Ls st)) (hf : ¬ u < v → G E x T (fr x nx Ls st)) : G E x T (fr x pc Ls (.int v :: .int u :: st)) := by
  obtain ⟨d1, rfl, d2, d3⟩ := d
  by_cases q : u < v
  · exact pstep W (fun _ A r => XS.icmpYes A B.2.2.2.2.2.2.1 rfl (pc0 := pc) rfl (by rw [B.1]; exact d1) rfl (tlt q).1 d2 d3 r) (ht q)
  · exact pstep W (fun _ A r => XS.icmpNo A B.2.2.2.2.2.2.1 rfl (by rw [B.1]; exact d1) rfl (flt q).1 r) (hf q)
theorem w_if_ge (W : Wk E x T h F cs ss) (B : Is x own b ml R ret nm) {u : Int32} (d : J b pc (.ifCond .ge o) 3 nx o tg) (ht : ¬ u < 0 → G E x T (fr x tg Ls st)) (hf : u < 0 → G E x T (fr x nx Ls st)) : G E x T (fr x pc Ls (.int u :: st)) := by
  obtain ⟨d1, rfl, d2, d3⟩ := d
  by_cases q : u < 0
  · exact pstep W (fun _ A r => XS.ifNo A B.2.2.2.2.2.2.1 rfl (by rw [B.1]; exact d1) rfl ((if0 _ _).trans (tlt q).2.1) r) (hf q)
  · exact pstep W (fun _ A r => XS.ifYes A B.2.2.2.2.2.2.1 rfl (pc0 := pc) rfl (by rw [B.1]; exact d1) rfl ((if0 _ _).trans (flt q).2.1) d2 d3 r) (ht q)
theorem w_icmp_ge (W : Wk E x T h F cs ss) (B : Is x own b ml R ret nm) {u v : Int32} (d : J b pc (.if_icmp .ge o) 3 nx o tg) (ht : ¬ u < v → G E x T (fr x tg Ls st)) (hf : u < v → G E x T (fr x nx Ls st)) : G E x T (fr x pc Ls (.int v :: .int u :: st)) := by
  obtain ⟨d1, rfl, d2, d3⟩ := d
  by_cases q : u < v
  · exact pstep W (fun _ A r => XS.icmpNo A B.2.2.2.2.2.2.1 rfl (by rw [B.1]; exact d1) rfl (tlt q).2.1 r) (hf q)
  · exact pstep W (fun _ A r => XS.icmpYes A B.2.2.2.2.2.2.1 rfl (pc0 := pc) rfl (by rw [B.1]; exact d1) rfl (flt q).2.1 d2 d3 r) (ht q)
theorem w_if_gt (W : Wk E x T h F cs ss) (B : Is x own b ml R ret nm) {u : Int32} (d : J b pc (.ifCond .gt o) 3 nx o tg) (ht : 0 < u → G E x T (fr x tg Ls st)) (hf : ¬ 0 < u → G E x T (fr x nx Ls st)) : G E x T (fr x pc Ls (.int u :: st)) := by
  obtain ⟨d1, rfl, d2, d3⟩ := d
  by_cases q : 0 < u
  · exact pstep W (fun _ A r => XS.ifYes A B.2.2.2.2.2.2.1 rfl (pc0 := pc) rfl (by rw [B.1]; exact d1) rfl ((if0 _ _).trans (tlt q).2.2.1) d2 d3 r) (ht q)
  · exact pstep W (fun _ A r => XS.ifNo A B.2.2.2.2.2.2.1 rfl (by rw [B.1]; exact d1) rfl ((if0 _ _).trans (flt q).2.2.1) r) (hf q)
theorem w_icmp_gt (W : Wk E x T h F cs ss) (B : Is x own b ml R ret nm) {u v : Int32} (d : J b pc (.if_icmp .gt o) 3 nx o tg) (ht : v < u → G E x T (fr x tg Ls st)) (hf : ¬ v < u → G E x T (fr x nx Ls st)) : G E x T (fr x pc Ls (.int v :: .int u :: st)) := by
  obtain ⟨d1, rfl, d2, d3⟩ := d
  by_cases q : v < u
  · exact pstep W (fun _ A r => XS.icmpYes A B.2.2.2.2.2.2.1 rfl (pc0 := pc) rfl (by rw [B.1]; exact d1) rfl (tlt q).2.2.1 d2 d3 r) (ht q)
  · exact pstep W (fun _ A r => XS.icmpNo A B.2.2.2.2.2.2.1 rfl (by rw [B.1]; exact d1) rfl (flt q).2.2.1 r) (hf q)
theorem w_if_le (W : Wk E x T h F cs ss) (B : Is x own b ml R ret nm) {u : Int32} (d : J b pc (.ifCond .le o) 3 nx o tg) (ht : ¬ 0 < u → G E x T (fr x tg Ls st)) (hf : 0 < u → G E x T (fr x nx Ls st)) : G E x T (fr x pc Ls (.int u :: st)) := by
  obtain ⟨d1, rfl, d2, d3⟩ := d
  by_cases q : 0 < u
  · exact pstep W (fun _ A r => XS.ifNo A B.2.2.2.2.2.2.1 rfl (by rw [B.1]; exact d1) rfl ((if0 _ _).trans (tlt q).2.2.2) r) (hf q)
  · exact pstep W (fun _ A r => XS.ifYes A B.2.2.2.2.2.2.1 rfl (pc0 := pc) rfl (by rw [B.1]; exact d1) rfl ((if0 _ _).trans (flt q).2.2.2) d2 d3 r) (ht q)
theorem w_icmp_le (W : Wk E x T h F cs ss) (B : Is x own b ml R ret nm) {u v : Int32} (d : J b pc (.if_icmp .le o) 3 nx o tg) (ht : ¬ v < u → G E x T (fr x tg Ls st)) (hf : v < u → G E x T (fr x nx Ls st)) : G E x T (fr x pc Ls (.int v :: .int u :: st)) := by
  obtain ⟨d1, rfl, d2, d3⟩ := d
  by_cases q : v < u
  · exact pstep W (fun _ A r => XS.icmpNo A B.2.2.2.2.2.2.1 rfl (by rw [B.1]; exact d1) rfl (tlt q).2.2.2 r) (hf q)
  · exact pstep W (fun _ A r => XS.icmpYes A B.2.2.2.2.2.2.1 rfl (pc0 := pc) rfl (by rw [B.1]; exact d1) rfl (flt q).2.2.2 d2 d3 r) (ht q)
theorem w_ifnull_null (W : Wk E x T h F cs ss) (B : Is x own b ml R ret nm) (d : J b pc (.ifnull o) 3 nx o tg) (hr : G E x T (fr x tg Ls st)) : G E x T (fr x pc Ls (.null :: st)) := by
  obtain ⟨d1, rfl, d2, d3⟩ := d; exact pstep W (fun _ A r => XS.ifnullYes A B.2.2.2.2.2.2.1 rfl (pc0 := pc) rfl (by rw [B.1]; exact d1) rfl d2 d3 r) hr
theorem w_ifnull_ref (W : Wk E x T h F cs ss) (B : Is x own b ml R ret nm) {a : Addr} (d : J b pc (.ifnull o) 3 nx o tg) (hr : G E x T (fr x nx Ls st)) : G E x T (fr x pc Ls (.ref a :: st)) := by
  obtain ⟨d1, rfl, d2, d3⟩ := d; exact pstep W (fun _ A r => XS.ifnullNo A B.2.2.2.2.2.2.1 rfl (by rw [B.1]; exact d1) rfl r) hr
theorem w_ifnonnull_null (W : Wk E x T h F cs ss) (B : Is x own b ml R ret nm) (d : J b pc (.ifnonnull o) 3 nx o tg) (hr : G E x T (fr x nx Ls st)) : G E x T (fr x pc Ls (.null :: st)) := by
  obtain ⟨d1, rfl, d2, d3⟩ := d; exact pstep W (fun _ A r => XT.ifnonnullNo A B.2.2.2.2.2.2.1 rfl (by rw [B.1]; exact d1) rfl r) hr
theorem w_ifnonnull_ref (W : Wk E x T h F cs ss) (B : Is x own b ml R ret nm) {a : Addr} (d : J b pc (.ifnonnull o) 3 nx o tg) (hr : G E x T (fr x tg Ls st)) : G E x T (fr x pc Ls (.ref a :: st)) := by
  obtain ⟨d1, rfl, d2, d3⟩ := d; exact pstep W (fun _ A r => XT.ifnonnullYes A B.2.2.2.2.2.2.1 rfl (pc0 := pc) rfl (by rw [B.1]; exact d1) rfl d2 d3 r) hr
theorem w_acmp_eq_y (W : Wk E x T h F cs ss) (B : Is x own b ml R ret nm) {u v : Value} (d : J b pc (.if_acmp .eq o) 3 nx o tg) (h1 : u.isRef = true) (h2 : v.isRef = true) (q : u = v) (hr : G E x T (fr x tg Ls st)) : G E x T (fr x pc Ls (v :: u :: st)) := by
  obtain ⟨d1, rfl, d2, d3⟩ := d; exact pstep W (fun _ A r => XT.acmpYes A B.2.2.2.2.2.2.1 rfl (pc0 := pc) rfl (by rw [B.1]; exact d1) rfl h1 h2 (by simp [XT.acmp, q]) d2 d3 r) hr
theorem w_acmp_eq_n (W : Wk E x T h F cs ss) (B : Is x own b ml R ret nm) {u v : Value} (d : J b pc (.if_acmp .eq o) 3 nx o tg) (h1 : u.isRef = true) (h2 : v.isRef = true) (q : u ≠ v) (hr : G E x T (fr x nx Ls st)) : G E x T (fr x pc Ls (v :: u :: st)) := by
  obtain ⟨d1, rfl, d2, d3⟩ := d; exact pstep W (fun _ A r => XT.acmpNo A B.2.2.2.2.2.2.1 rfl (by rw [B.1]; exact d1) rfl h1 h2 (by simp [XT.acmp, q]) r) hr
theorem w_acmp_ne_y (W : Wk E x T h F cs ss) (B : Is x own b ml R ret nm) {u v : Value} (d : J b pc (.if_acmp .ne o) 3 nx o tg) (h1 : u.isRef = true) (h2 : v.isRef = true) (q : u = v) (hr : G E x T (fr x nx Ls st)) : G E x T (fr x pc Ls (v :: u :: st)) := by
  obtain ⟨d1, rfl, d2, d3⟩ := d; exact pstep W (fun _ A r => XT.acmpNo A B.2.2.2.2.2.2.1 rfl (by rw [B.1]; exact d1) rfl h1 h2 (by simp [XT.acmp, q]) r) hr
theorem w_acmp_ne_n (W : Wk E x T h F cs ss) (B : Is x own b ml R ret nm) {u v : Value} (d : J b pc (.if_acmp .ne o) 3 nx o tg) (h1 : u.isRef = true) (h2 : v.isRef = true) (q : u ≠ v) (hr : G E x T (fr x tg Ls st)) : G E x T (fr x pc Ls (v :: u :: st)) := by
  obtain ⟨d1, rfl, d2, d3⟩ := d; exact pstep W (fun _ A r => XT.acmpYes A B.2.2.2.2.2.2.1 rfl (pc0 := pc) rfl (by rw [B.1]; exact d1) rfl h1 h2 (by simp [XT.acmp, q]) d2 d3 r) hr
end StepsB
end Jvm.Own
namespace Jvm.Own
open Sem ClassFile Op Lib Bundle Jvm.Stand Jvm.Free Jvm.LawKit Jvm.RoadKit
theorem chr_nil (Z : State) {vm vm1 : Vm} {h h' : Heap} (q : h.size ≤ h'.size) : CHr Z [] vm h vm1 h' := ⟨(fun _ hp => nomatch hp), q, fun _ B => by obtain ⟨_, hp, _⟩ := B; exact nomatch hp⟩
theorem safe_nil (Z : State) (vm : Vm) (h : Heap) (x : Addr) : Safe Z [] vm h x := fun B => by obtain ⟨_, hp, _⟩ := B; exact nomatch hp
section StepsC
variable {E : Gl} {x : Cx} {T : State} {h : Heap} {F : List Addr} {cs ss : Nat} {own : String} {b : ByteArray} {ml : Nat} {R : Room} {ret : Option FieldType} {nm : String} {pc nx tg : Nat} {o : Int} {Ls Ls' : Array Slot} {st stk : List Value}
/-- a walk opened: the Stand, and how it is closed behind a step that adds cells, and behind one that writes a place that may be written -/
theorem Wk.open (W : Wk E x T h F cs ss) (B : Is x own b ml R ret nm) : ∃ (vm : Vm) (L : List Loc), Stand x.p E.l x.e x.R (x.s.setVm vm) x.m x.args x.below x.meth x.c T L cs ss ∧ T.heap = h ∧ E.Z.Warmed39 (x.s.setVm vm).vm ∧ (x.s.setVm vm).vm.findClass own = some x.m.cls ∧
    (∀ (T' : State) (h' : Heap) (cs' ss' : Nat), Stand x.p E.l x.e x.R (x.s.setVm vm) x.m x.args x.below x.meth x.c T' L cs' ss' → T'.heap = h' → Ext h h' → Wk E x T' h' F cs' ss' ∧ ∀ y, h.size ≤ y → y < h'.size → Wk E x T' h' (y :: F) cs' ss') ∧
    (∀ (a : Addr) (sl : Nat) (v : Value) (T' : State) (h' : Heap), a ∈ F → Stand x.p E.l x.e x.R (x.s.setVm vm) x.m x.args x.below x.meth x.c T' (L ++ [⟨a, sl⟩]) cs ss → T'.heap = h' → Wr h h' a sl v → Wk E x T' h' F cs ss) := by
  obtain ⟨vm, k, L, X, h1, h2, h3, h4, h5, h6, h7, h8, h9, h10⟩ := W
  refine ⟨vm, L, X, h1, h5, ?_, ?_, ?_⟩
  · show vm.findClass own = _
    rw [h2.1.alike.findClass]; exact B.2.2.2.2.2.2.2
  · intro T' h' cs' ss' X' e' Ex
    have c1 : CHr E.Z E.K vm h vm h' := CHr.ext Ex h8.1
    have f1 : FOk E vm h' F := fun y hy => ⟨(h9 y hy).1, Nat.lt_of_lt_of_le (h9 y hy).2.1 Ex.1, c1.safe (h9 y hy).2.1 (h9 y hy).2.2⟩
    have n1 : E.n ≤ h.size := by rw [← h7.1]; exact h7.2.1
    refine ⟨⟨vm, k, L, X', e', h2, Nat.le_trans h3 Ex.1, h4, h5, h6, h7.ext Ex, h8.trans c1, f1, h10⟩, fun y hy1 hy2 => ⟨vm, k, L, X', e', h2, Nat.le_trans h3 Ex.1, h4, h5, h6, h7.ext Ex, h8.trans c1, fun z hz => ?_, h10⟩⟩
    rcases List.mem_cons.mp hz with rfl | hz
    · exact ⟨Nat.le_trans n1 hy1, hy2, Safe.ext Ex h8.1 (Safe.new hy1)⟩
    · exact f1 z hz
  · intro a sl v T' h' ha X' e' Wr'
    have c1 : CHr E.Z E.K vm h vm h' := CHr.wr Wr' (h9 a ha).2.2 h8.1
    exact ⟨vm, k, _, X', e', h2, by rw [Wr'.size]; exact h3, h4, h5, Fr.snoc X' h6 (h9 a ha).1, h7.wr Wr' (h9 a ha).1, h8.trans c1, fun y hy => ⟨(h9 y hy).1, by rw [Wr'.size]; exact (h9 y hy).2.1, c1.safe (h9 y hy).2.1 (h9 y hy).2.2⟩, h10⟩
theorem Wk.openK (W : Wk E x T h F cs ss) (B : Is x own b ml R ret nm) : ∃ (vm : Vm) (L : List Loc), Stand x.p E.l x.e x.R (x.s.setVm vm) x.m x.args x.below x.meth x.c T L cs ss ∧ T.heap = h ∧ E.Z.Warmed39 (x.s.setVm vm).vm ∧ (x.s.setVm vm).vm.findClass own = some x.m.cls ∧ Fr E.n L ∧
    (∀ (T' : State) (h' : Heap) (L' : List Loc) (ws : List Addr) (cs' ss' : Nat), Stand x.p E.l x.e x.R (x.s.setVm vm) x.m x.args x.below x.meth x.c T' L' cs' ss' → T'.heap = h' → Fr E.n L' → Keep h h' ws → (∀ y ∈ ws, y ∈ F) → Wk E x T' h' F cs' ss') := by
  obtain ⟨vm, k, L, X, h1, h2, h3, h4, h5, h6, h7, h8, h9, h10⟩ := W
  refine ⟨vm, L, X, h1, h5, ?_, h6, ?_⟩
  · show vm.findClass own = _
    rw [h2.1.alike.findClass]; exact B.2.2.2.2.2.2.2
  · intro T' h' L' ws cs' ss' X' e' N K hws
    have c1 : CHr E.Z E.K vm h vm h' := CHr.keep K (fun y hy => (h9 y (hws y hy)).2.2) h8.1
    exact ⟨vm, k, L', X', e', h2, Nat.le_trans h3 K.1, h4, h5, N, h7.keep K (fun y hy => (h9 y (hws y hy)).1), h8.trans c1, fun y hy => ⟨(h9 y hy).1, Nat.lt_of_lt_of_le (h9 y hy).2.1 K.1, c1.safe (h9 y hy).2.1 (h9 y hy).2.2⟩, h10⟩
theorem w_arraycopy (W : Wk E x T h F cs ss) (B : Is x own b ml R ret nm) {index : Nat} {a v : Addr} {k k' : ClassId} {ty : FieldType} {z z' sp dp nn : Int32} {vs vd us : List Value} {dv dd : Value} (d : D b pc (.invokestatic index) 3 nx)
    (w1 : (Cond.methodLink own index Jvm.Stand.acN).before E.a E.Z = true) (w2 : (Cond.native Jvm.Stand.acN).before E.a E.Z = true) (w3 : (Cond.static Jvm.Stand.acN).before E.a E.Z = true) (w4 : (Cond.initialized "java/lang/System").before E.a E.Z = true)
    (hF : v ∈ F) (A : Arv E.Z h a k ty z vs dv) (Bd : Arv E.Z h v k' ty z' vd dd) (hty : refKind ty = false) (h1 : ¬ sp < 0) (h2 : ¬ dp < 0) (h3 : ¬ nn < 0) (h4 : sp.toNatClampNeg + nn.toNatClampNeg ≤ z.toNatClampNeg) (h5 : dp.toNatClampNeg + nn.toNatClampNeg ≤ z'.toNatClampNeg)
    (hus : us = (List.range nn.toNatClampNeg).map fun i => vs.getD (sp.toNatClampNeg + i) dv) (hl : dp.toNatClampNeg + nn.toNatClampNeg ≤ vd.length) (hsz : Ls.size = ml) (hf : 1 ≤ R.frames) {Wt : Nat} (hW : (st.map fun v => v.category).sum ≤ Wt) (hlo : Wt + (nativeFrameWords "java/lang/System" "arraycopy" 5 + 11) ≤ R.locals)
    (hr : ∀ (T' : State) (h' : Heap), Wk E x T' h' F cs ss → Keep h h' [v] → Arv E.Z h' v k' ty z' (vd.take dp.toNatClampNeg ++ us ++ vd.drop (dp.toNatClampNeg + nn.toNatClampNeg)) dd → G E x T' (fr x nx Ls st)) : G E x T (fr x pc Ls (.int nn :: .int dp :: .ref v :: .int sp :: .ref a :: st)) := by
  obtain ⟨d1, rfl⟩ := d
  have hge := (W.fOk hF).1
  obtain ⟨vm, L, X, e, hZ, hown, N, cl⟩ := W.openK B
  obtain ⟨T', h', L', X', e', N', K, A', stp⟩ := cpA X B.2.2.2.2.2.2.1 hZ hown w1 w2 w3 w4 e A Bd (Or.inl ⟨rfl, hty⟩) h1 h2 h3 h4 h5 hus hl N hge (g := fr x pc Ls (.int nn :: .int dp :: .ref v :: .int sp :: .ref a :: st)) rfl (hsz.trans B.2.1.symm) rfl (by rw [B.1]; exact d1) (by rw [B.2.2.1]; exact hf) (W := Wt) (by show 2 * 0 + _ ≤ _; omega) (by rw [B.2.2.1]; exact hlo)
  exact G.of stp (hr T' h' (cl T' h' L' [v] cs ss X' e' N' K (fun y hy => by rw [List.mem_singleton.mp hy]; exact hF)) K A')
theorem w_new (W : Wk E x T h F cs ss) (B : Is x own b ml R ret nm) {C : String} {index n : Nat} (d : D b pc (.new index) 3 nx) (w : (Cond.classLink own index C).before E.a E.Z = true) (wi : (Cond.instantiable C n).before E.a E.Z = true) (wz : (Cond.initialized C).before E.a E.Z = true) (hc : cs + 1 ≤ R.cells) (hl : ss + n ≤ R.slots)
    (hr : ∀ (T' : State) (h' : Heap) (a : Addr), Wk E x T' h' (a :: F) (cs + 1) (ss + n) → a = h.size → Ext h h' → Exa E.Z h' a C → (∀ {O f t : String} {ty : FieldType}, Laid E.Z E.a C O f t → parseFieldDescriptor t = some ty → Fld E.Z h' a O f t (defaultValue ty)) → G E x T' (fr x nx Ls (.ref a :: st))) : G E x T (fr x pc Ls st) := by
  obtain ⟨d1, rfl⟩ := d
  obtain ⟨vm, L, X, e, hZ, hown, cl, -⟩ := W.open B
  obtain ⟨T', h', X', e', Ex, A, D, -, stp⟩ := newO X B.2.2.2.2.2.2.1 hZ hown w wi wz e (g := fr x pc Ls st) rfl (by rw [B.1]; exact d1) (by rw [B.2.2.1]; exact hc) (by rw [B.2.2.1]; exact hl)
  exact G.of stp (hr T' h' _ ((cl T' h' _ _ X' e' Ex).2 _ (Nat.le_refl _) A.lt) rfl Ex A D)
theorem w_newarray (W : Wk E x T h F cs ss) (B : Is x own b ml R ret nm) {aty : ArrayType} {ty : FieldType} {n : Int32} {cap : Nat} (d : D b pc (.newarray aty) 2 nx) (ety : newarray.typeOf aty = ty) (w : (Cond.arrayClass ty).before E.a E.Z = true) (hn : ¬ n < 0) (hcap : n.toNatClampNeg ≤ cap) (hb : cap * 8 ≤ 536870912) (hc : cs + 1 ≤ R.cells) (hl : ss + cap ≤ R.slots)
    (hr : ∀ (T' : State) (h' : Heap) (a : Addr) (k : ClassId), Wk E x T' h' (a :: F) (cs + 1) (ss + cap) → a = h.size → Ext h h' → Arv E.Z h' a k ty n [] (defaultValue ty) → G E x T' (fr x nx Ls (.ref a :: st))) : G E x T (fr x pc Ls (.int n :: st)) := by
  obtain ⟨d1, rfl⟩ := d
  subst ety
  obtain ⟨vm, L, X, e, hZ, hown, cl, -⟩ := W.open B
  obtain ⟨T', h', cA, X', e', Ex, A, stp⟩ := newP X B.2.2.2.2.2.2.1 hZ w e (g := fr x pc Ls (.int n :: st)) rfl (by rw [B.1]; exact d1) rfl hn hcap hb (by rw [B.2.2.1]; exact hc) (by rw [B.2.2.1]; exact hl)
  exact G.of stp (hr T' h' _ cA ((cl T' h' _ _ X' e' Ex).2 _ (Nat.le_refl _) A.lt) rfl Ex (Arv.new A hn))
theorem w_anewarray (W : Wk E x T h F cs ss) (B : Is x own b ml R ret nm) {C ad : String} {index : Nat} {n : Int32} {cap : Nat} (d : D b pc (.anewarray index) 3 nx) (w1 : (Cond.classLink own index C).before E.a E.Z = true) (w2 : (Cond.arrayOver (.object C)).before E.a E.Z = true) (hn : ¬ n < 0) (hcap : n.toNatClampNeg ≤ cap) (hb : cap * 8 ≤ 536870912) (hc : cs + 1 ≤ R.cells) (hl : ss + cap ≤ R.slots)
    (hr : ∀ (T' : State) (h' : Heap) (a : Addr) (k : ClassId), Wk E x T' h' (a :: F) (cs + 1) (ss + cap) → a = h.size → Ext h h' → Arv E.Z h' a k (.object C) n [] .null → Ovr E.Z k C → G E x T' (fr x nx Ls (.ref a :: st))) : G E x T (fr x pc Ls (.int n :: st)) := by
  obtain ⟨d1, rfl⟩ := d
  obtain ⟨vm, L, X, e, hZ, hown, cl, -⟩ := W.open B
  obtain ⟨T', h', cA, X', e', Ex, A, O, stp⟩ := newR X B.2.2.2.2.2.2.1 hZ hown w1 w2 e (g := fr x pc Ls (.int n :: st)) rfl (by rw [B.1]; exact d1) rfl hn hcap hb (by rw [B.2.2.1]; exact hc) (by rw [B.2.2.1]; exact hl)
  exact G.of stp (hr T' h' _ cA ((cl T' h' _ _ X' e' Ex).2 _ (Nat.le_refl _) A.lt) rfl Ex (Arv.new A hn) O)
theorem w_getF (W : Wk E x T h F cs ss) (B : Is x own b ml R ret nm) {R0 O n t : String} {index : Nat} {a : Addr} {v : Value} (d : D b pc (.getfield index) 3 nx) (w : (Cond.fieldLink own index R0 n t).before E.a E.Z = true) (via : Via E.Z R0 O n t) (Fl : Fld E.Z h a O n t v)
    (hr : ∀ (T' : State), Wk E x T' h F cs ss → G E x T' (fr x nx Ls (v :: st))) : G E x T (fr x pc Ls (.ref a :: st)) := by
  obtain ⟨d1, rfl⟩ := d
  obtain ⟨vm, L, X, e, hZ, hown, cl, -⟩ := W.open B
  obtain ⟨T', X', e', stp⟩ := getF X B.2.2.2.2.2.2.1 hZ hown (host := "") (Or.inl w) via e Fl (g := fr x pc Ls (.ref a :: st)) rfl rfl (by rw [B.1]; exact d1)
  exact G.of stp (hr T' (cl T' h _ _ X' e' ⟨Nat.le_refl _, fun _ _ q => q⟩).1)
theorem w_getFN (W : Wk E x T h F cs ss) (B : Is x own b ml R ret nm) {R0 O n t host : String} {index : Nat} {a : Addr} {v : Value} (d : D b pc (.getfield index) 3 nx) (w : (Cond.fieldLinkNest own index R0 n t host).before E.a E.Z = true) (via : Via E.Z R0 O n t) (Fl : Fld E.Z h a O n t v)
    (hr : ∀ (T' : State), Wk E x T' h F cs ss → G E x T' (fr x nx Ls (v :: st))) : G E x T (fr x pc Ls (.ref a :: st)) := by
  obtain ⟨d1, rfl⟩ := d
  obtain ⟨vm, L, X, e, hZ, hown, cl, -⟩ := W.open B
  obtain ⟨T', X', e', stp⟩ := getF X B.2.2.2.2.2.2.1 hZ hown (Or.inr w) via e Fl (g := fr x pc Ls (.ref a :: st)) rfl rfl (by rw [B.1]; exact d1)
  exact G.of stp (hr T' (cl T' h _ _ X' e' ⟨Nat.le_refl _, fun _ _ q => q⟩).1)
theorem w_getS (W : Wk E x T h F cs ss) (B : Is x own b ml R ret nm) {R0 O n t : String} {index : Nat} {v : Value} (d : D b pc (.getstatic index) 3 nx) (w : (Cond.fieldLink own index R0 n t).before E.a E.Z = true) (via : Via E.Z R0 O n t) (Fl : Sta E.Z E.Z.heap O n t v)
    (hr : ∀ (T' : State), Wk E x T' h F cs ss → G E x T' (fr x nx Ls (v :: st))) : G E x T (fr x pc Ls st) := by
  obtain ⟨d1, rfl⟩ := d
  have Ol := W.old
  obtain ⟨vm, L, X, e, hZ, hown, cl, -⟩ := W.open B
  obtain ⟨T', X', e', stp⟩ := getS X B.2.2.2.2.2.2.1 hZ hown (host := "") w via e (Fl.ext Ol) (g := fr x pc Ls st) rfl (by rw [B.1]; exact d1)
  exact G.of stp (hr T' (cl T' h _ _ X' e' ⟨Nat.le_refl _, fun _ _ q => q⟩).1)
theorem w_putF (W : Wk E x T h F cs ss) (B : Is x own b ml R ret nm) {R0 O n t C : String} {index kk : Nat} {ty : FieldType} {a : Addr} {v v' old : Value} (d : D b pc (.putfield index) 3 nx) (hF : a ∈ F) (w : (Cond.fieldLink own index R0 n t).before E.a E.Z = true) (via : Via E.Z R0 O n t) (Fl : Fld E.Z h a O n t old) (Ex : Exa E.Z h a C)
    (Ly : (Cond.lays C O n t).before E.a E.Z = true ∨ ((Cond.laysFinal C O n t).before E.a E.Z = true ∧ own = O ∧ nm = "<init>")) (wi : (Cond.instantiable C kk).before E.a E.Z = true) (hty : parseFieldDescriptor t = some ty) (hn : narrow ty v = v') (hf : fits ty v' = true)
    (hr : ∀ (T' : State) (h' : Heap), Wk E x T' h' F cs ss → Wr h h' a (Jvm.RoadKit.slotOf E.Z O n t) v' → Fld E.Z h' a O n t v' → G E x T' (fr x nx Ls st)) : G E x T (fr x pc Ls (v :: .ref a :: st)) := by
  obtain ⟨d1, rfl⟩ := d
  obtain ⟨vm, L, X, e, hZ, hown, -, cl⟩ := W.open B
  obtain ⟨T', h', X', e', Wr', stp⟩ := putFN X B.2.2.2.2.2.2.1 hZ hown w via e Fl Ex (Ly.imp id fun q => ⟨q.1, q.2.1, B.2.2.2.2.1.trans q.2.2⟩) wi hty hn hf (g := fr x pc Ls (v :: .ref a :: st)) rfl rfl (by rw [B.1]; exact d1)
  exact G.of stp (hr T' h' (cl a _ _ T' h' hF X' e' Wr') Wr' (Fl.same Wr'))
theorem w_castY (W : Wk E x T h F cs ss) (B : Is x own b ml R ret nm) {K : String} {index : Nat} {a : Addr} (d : D b pc (.checkcast index) 3 nx) (w : (Cond.classLink own index K).before E.a E.Z = true) (I : Ins E.Z h a K true)
    (hr : ∀ (T' : State), Wk E x T' h F cs ss → G E x T' (fr x nx Ls (.ref a :: st))) : G E x T (fr x pc Ls (.ref a :: st)) := by
  obtain ⟨d1, rfl⟩ := d
  obtain ⟨vm, L, X, e, hZ, hown, cl, -⟩ := W.open B
  obtain ⟨T', X', e', stp⟩ := castY X B.2.2.2.2.2.2.1 hZ hown w e I (g := fr x pc Ls (.ref a :: st)) rfl rfl (by rw [B.1]; exact d1)
  exact G.of stp (hr T' (cl T' h _ _ X' e' ⟨Nat.le_refl _, fun _ _ q => q⟩).1)
theorem w_castNull (W : Wk E x T h F cs ss) (B : Is x own b ml R ret nm) {index : Nat} (d : D b pc (.checkcast index) 3 nx) (hr : G E x T (fr x nx Ls (.null :: st))) : G E x T (fr x pc Ls (.null :: st)) := by
  obtain ⟨d1, rfl⟩ := d
  obtain ⟨vm, L, X, e, hZ, hown, cl, -⟩ := W.open B
  exact G.of (fun t r => X.checkcastNull B.2.2.2.2.2.2.1 (g := fr x pc Ls (.null :: st)) rfl rfl (by rw [B.1]; exact d1) t r) hr
theorem w_instY (W : Wk E x T h F cs ss) (B : Is x own b ml R ret nm) {K : String} {index : Nat} {a : Addr} (d : D b pc (.instanceof index) 3 nx) (w : (Cond.classLink own index K).before E.a E.Z = true) (I : Ins E.Z h a K true)
    (hr : ∀ (T' : State), Wk E x T' h F cs ss → G E x T' (fr x nx Ls (.int 1 :: st))) : G E x T (fr x pc Ls (.ref a :: st)) := by
  obtain ⟨d1, rfl⟩ := d
  obtain ⟨vm, L, X, e, hZ, hown, cl, -⟩ := W.open B
  obtain ⟨T', X', e', stp⟩ := instY X B.2.2.2.2.2.2.1 hZ hown w e I (g := fr x pc Ls (.ref a :: st)) rfl rfl (by rw [B.1]; exact d1)
  exact G.of stp (hr T' (cl T' h _ _ X' e' ⟨Nat.le_refl _, fun _ _ q => q⟩).1)
theorem w_initO (W : Wk E x T h F cs ss) (B : Is x own b ml R ret nm) {index : Nat} {a : Addr} (d : D b pc (.invokespecial index) 3 nx) (w1 : (Cond.methodLink own index Lib.objectInit).before E.a E.Z = true) (w2 : (Cond.instanceMethod Lib.objectInit).before E.a E.Z = true) (w3 : (Cond.code Lib.objectInit ⟨#[0xb1]⟩ 1 none).before E.a E.Z = true)
    (hsz : Ls.size = ml) (hf : 1 ≤ R.frames) {Wt : Nat} (hW : (st.map fun v => v.category).sum ≤ Wt) (hl : Wt + 12 ≤ R.locals) (hr : ∀ (T' : State), Wk E x T' h F cs ss → G E x T' (fr x nx Ls st)) : G E x T (fr x pc Ls (.ref a :: st)) := by
  obtain ⟨d1, rfl⟩ := d
  obtain ⟨vm, L, X, e, hZ, hown, cl, -⟩ := W.open B
  obtain ⟨T', X', e', stp⟩ := initO X B.2.2.2.2.2.2.1 hZ hown w1 w2 w3 e (g := fr x pc Ls (.ref a :: st)) rfl (hsz.trans B.2.1.symm) rfl (by rw [B.1]; exact d1) (by rw [B.2.2.1]; exact hf) (W := Wt) (by show 2 * 0 + _ ≤ _; omega) (by rw [B.2.2.1]; exact hl)
  exact G.of stp (hr T' (cl T' h _ _ X' e' ⟨Nat.le_refl _, fun _ _ q => q⟩).1)
theorem w_arraylength (W : Wk E x T h F cs ss) (B : Is x own b ml R ret nm) {a : Addr} {k : ClassId} {ty : FieldType} {n : Int32} {vs : List Value} {dv : Value} (d : D b pc .arraylength 1 nx) (A : Arv E.Z h a k ty n vs dv) (hr : G E x T (fr x nx Ls (.int n :: st))) : G E x T (fr x pc Ls (.ref a :: st)) := by
  obtain ⟨d1, rfl⟩ := d
  obtain ⟨vm, L, X, e, hZ, hown, -, -⟩ := W.open B
  obtain ⟨c, A, -, S, N, -, -⟩ := A
  refine G.of (fun t r => X.arraylength B.2.2.2.2.2.2.1 (by rw [e]; exact A.1) (State.isArrayOf_alike hZ.alike A.2.1) (g := fr x pc Ls (.ref a :: st)) rfl rfl (by rw [B.1]; exact d1) t ?_) hr
  rw [len_of S N]; exact r
theorem arv_at {Z : State} {h : Heap} {a : Addr} {k : ClassId} {ty : FieldType} {n : Int32} {vs : List Value} {dv : Value} {c : Cell} {j : Int32} {v : Value} (S : c.slots.size = n.toNatClampNeg) (H : Has c vs dv) (hj : ¬ j < 0 ∧ j < n) (hv : vs.getD j.toNatClampNeg dv = v) : ¬ (j < 0 ∨ c.slots.size ≤ j.toNatClampNeg) ∧ c.slots[j.toNatClampNeg]? = some v :=
  ⟨inb_of S hj, Has.at H (inb_of S hj) hv⟩
theorem w_caload (W : Wk E x T h F cs ss) (B : Is x own b ml R ret nm) {a : Addr} {k : ClassId} {n j : Int32} {vs : List Value} {dv v : Value} (d : D b pc .caload 1 nx) (A : Arv E.Z h a k .char n vs dv) (hj : ¬ j < 0 ∧ j < n) (hv : vs.getD j.toNatClampNeg dv = v) (hr : G E x T (fr x nx Ls (v :: st))) : G E x T (fr x pc Ls (.int j :: .ref a :: st)) := by
  obtain ⟨d1, rfl⟩ := d
  obtain ⟨vm, L, X, e, hZ, hown, -, -⟩ := W.open B
  obtain ⟨c, A, -, S, N, H, -⟩ := A
  exact G.of (fun t r => X.caload B.2.2.2.2.2.2.1 (by rw [e]; exact A.1) (State.isArrayOf_alike hZ.alike A.2.1) A.2.2 (inb_of S hj) (Has.at H (inb_of S hj) hv) (g := fr x pc Ls (.int j :: .ref a :: st)) rfl rfl (by rw [B.1]; exact d1) t r) hr
theorem w_baload (W : Wk E x T h F cs ss) (B : Is x own b ml R ret nm) {a : Addr} {k : ClassId} {n j : Int32} {vs : List Value} {dv v : Value} (d : D b pc .baload 1 nx) (A : Arv E.Z h a k .byte n vs dv) (hj : ¬ j < 0 ∧ j < n) (hv : vs.getD j.toNatClampNeg dv = v) (hr : G E x T (fr x nx Ls (v :: st))) : G E x T (fr x pc Ls (.int j :: .ref a :: st)) := by
  obtain ⟨d1, rfl⟩ := d
  obtain ⟨vm, L, X, e, hZ, hown, -, -⟩ := W.open B
  obtain ⟨c, A, -, S, N, H, -⟩ := A
  exact G.of (fun t r => X.baloadBytes B.2.2.2.2.2.2.1 (by rw [e]; exact A.1) (State.isArrayOf_alike hZ.alike A.2.1) A.2.2 (inb_of S hj) (Has.at H (inb_of S hj) hv) (g := fr x pc Ls (.int j :: .ref a :: st)) rfl rfl (by rw [B.1]; exact d1) t r) hr
theorem w_iaload (W : Wk E x T h F cs ss) (B : Is x own b ml R ret nm) {a : Addr} {k : ClassId} {n j : Int32} {vs : List Value} {dv v : Value} (d : D b pc .iaload 1 nx) (A : Arv E.Z h a k .int n vs dv) (hj : ¬ j < 0 ∧ j < n) (hv : vs.getD j.toNatClampNeg dv = v) (hr : G E x T (fr x nx Ls (v :: st))) : G E x T (fr x pc Ls (.int j :: .ref a :: st)) := by
  obtain ⟨d1, rfl⟩ := d
  obtain ⟨vm, L, X, e, hZ, hown, -, -⟩ := W.open B
  obtain ⟨c, A, -, S, N, H, -⟩ := A
  exact G.of (fun t r => X.iaload B.2.2.2.2.2.2.1 (by rw [e]; exact A.1) (State.isArrayOf_alike hZ.alike A.2.1) A.2.2 (inb_of S hj) (Has.at H (inb_of S hj) hv) (g := fr x pc Ls (.int j :: .ref a :: st)) rfl rfl (by rw [B.1]; exact d1) t r) hr
theorem w_laload (W : Wk E x T h F cs ss) (B : Is x own b ml R ret nm) {a : Addr} {k : ClassId} {n j : Int32} {vs : List Value} {dv v : Value} (d : D b pc .laload 1 nx) (A : Arv E.Z h a k .long n vs dv) (hj : ¬ j < 0 ∧ j < n) (hv : vs.getD j.toNatClampNeg dv = v) (hr : G E x T (fr x nx Ls (v :: st))) : G E x T (fr x pc Ls (.int j :: .ref a :: st)) := by
  obtain ⟨d1, rfl⟩ := d
  obtain ⟨vm, L, X, e, hZ, hown, -, -⟩ := W.open B
  obtain ⟨c, A, -, S, N, H, -⟩ := A
  exact G.of (fun t r => X.laload B.2.2.2.2.2.2.1 (by rw [e]; exact A.1) (State.isArrayOf_alike hZ.alike A.2.1) A.2.2 (inb_of S hj) (Has.at H (inb_of S hj) hv) (g := fr x pc Ls (.int j :: .ref a :: st)) rfl rfl (by rw [B.1]; exact d1) t r) hr
theorem w_aaload (W : Wk E x T h F cs ss) (B : Is x own b ml R ret nm) {a : Addr} {k : ClassId} {ty : FieldType} {n j : Int32} {vs : List Value} {dv v : Value} (d : D b pc .aaload 1 nx) (hty : ty.isReference = true) (A : Arv E.Z h a k ty n vs dv) (hj : ¬ j < 0 ∧ j < n) (hv : vs.getD j.toNatClampNeg dv = v) (hr : G E x T (fr x nx Ls (v :: st))) : G E x T (fr x pc Ls (.int j :: .ref a :: st)) := by
  obtain ⟨d1, rfl⟩ := d
  obtain ⟨vm, L, X, e, hZ, hown, -, -⟩ := W.open B
  obtain ⟨c, A, -, S, N, H, -⟩ := A
  exact G.of (fun t r => X.aaload B.2.2.2.2.2.2.1 (by rw [e]; exact A.1) (State.isArrayOf_alike hZ.alike A.2.1) hty A.2.2 (inb_of S hj) (Has.at H (inb_of S hj) hv) (g := fr x pc Ls (.int j :: .ref a :: st)) rfl rfl (by rw [B.1]; exact d1) t r) hr
theorem w_castore (W : Wk E x T h F cs ss) (B : Is x own b ml R ret nm) {a : Addr} {k : ClassId} {n j v u : Int32} {vs : List Value} {dv : Value} (d : D b pc .castore 1 nx) (hF : a ∈ F) (A : Arv E.Z h a k .char n vs dv) (hj : ¬ j < 0 ∧ j < n) {i : Nat} (hi : j.toNatClampNeg = i) (hl : i < vs.length) (hu : nar .char v = u)
    (hr : ∀ (T' : State) (h' : Heap), Wk E x T' h' F cs ss → Keep h h' [a] → Arv E.Z h' a k .char n (vs.set i (.int u)) dv → G E x T' (fr x nx Ls st)) : G E x T (fr x pc Ls (.int v :: .int j :: .ref a :: st)) := by
  obtain ⟨d1, rfl⟩ := d
  subst hu
  obtain ⟨vm, L, X, e, hZ, hown, -, cl⟩ := W.open B
  obtain ⟨c, A, q, S, N, H, Gf⟩ := A
  obtain ⟨T', h', X', e', Wr', stp⟩ := stC X B.2.2.2.2.2.2.1 hZ e A (inb_of S hj) (g := fr x pc Ls (.int v :: .int j :: .ref a :: st)) rfl rfl (by rw [B.1]; exact d1)
  exact G.of stp (hr T' h' (cl a _ _ T' h' hF X' e' Wr') (Keep.of_wr Wr') (Arv.set A q S N H Gf (fits_nar_char _) Wr' i hi hl))
theorem w_bastore (W : Wk E x T h F cs ss) (B : Is x own b ml R ret nm) {a : Addr} {k : ClassId} {n j v u : Int32} {vs : List Value} {dv : Value} (d : D b pc .bastore 1 nx) (hF : a ∈ F) (A : Arv E.Z h a k .byte n vs dv) (hj : ¬ j < 0 ∧ j < n) {i : Nat} (hi : j.toNatClampNeg = i) (hl : i < vs.length) (hu : nar .byte v = u)
    (hr : ∀ (T' : State) (h' : Heap), Wk E x T' h' F cs ss → Keep h h' [a] → Arv E.Z h' a k .byte n (vs.set i (.int u)) dv → G E x T' (fr x nx Ls st)) : G E x T (fr x pc Ls (.int v :: .int j :: .ref a :: st)) := by
  obtain ⟨d1, rfl⟩ := d
  subst hu
  obtain ⟨vm, L, X, e, hZ, hown, -, cl⟩ := W.open B
  obtain ⟨c, A, q, S, N, H, Gf⟩ := A
  obtain ⟨T', h', X', e', Wr', stp⟩ := stB X B.2.2.2.2.2.2.1 hZ e A (inb_of S hj) (g := fr x pc Ls (.int v :: .int j :: .ref a :: st)) rfl rfl (by rw [B.1]; exact d1)
  exact G.of stp (hr T' h' (cl a _ _ T' h' hF X' e' Wr') (Keep.of_wr Wr') (Arv.set A q S N H Gf (fits_nar_byte _) Wr' i hi hl))
theorem w_iastore (W : Wk E x T h F cs ss) (B : Is x own b ml R ret nm) {a : Addr} {k : ClassId} {n j v : Int32} {vs : List Value} {dv : Value} (d : D b pc .iastore 1 nx) (hF : a ∈ F) (A : Arv E.Z h a k .int n vs dv) (hj : ¬ j < 0 ∧ j < n) {i : Nat} (hi : j.toNatClampNeg = i) (hl : i < vs.length)
    (hr : ∀ (T' : State) (h' : Heap), Wk E x T' h' F cs ss → Keep h h' [a] → Arv E.Z h' a k .int n (vs.set i (.int v)) dv → G E x T' (fr x nx Ls st)) : G E x T (fr x pc Ls (.int v :: .int j :: .ref a :: st)) := by
  obtain ⟨d1, rfl⟩ := d
  obtain ⟨vm, L, X, e, hZ, hown, -, cl⟩ := W.open B
  obtain ⟨c, A, q, S, N, H, Gf⟩ := A
  obtain ⟨T', h', X', e', Wr', stp⟩ := stI X B.2.2.2.2.2.2.1 hZ e A (inb_of S hj) (g := fr x pc Ls (.int v :: .int j :: .ref a :: st)) rfl rfl (by rw [B.1]; exact d1)
  exact G.of stp (hr T' h' (cl a _ _ T' h' hF X' e' Wr') (Keep.of_wr Wr') (Arv.set A q S N H Gf rfl Wr' i hi hl))
theorem w_lastore (W : Wk E x T h F cs ss) (B : Is x own b ml R ret nm) {a : Addr} {k : ClassId} {n j : Int32} {v : Int64} {vs : List Value} {dv : Value} (d : D b pc .lastore 1 nx) (hF : a ∈ F) (A : Arv E.Z h a k .long n vs dv) (hj : ¬ j < 0 ∧ j < n) {i : Nat} (hi : j.toNatClampNeg = i) (hl : i < vs.length)
    (hr : ∀ (T' : State) (h' : Heap), Wk E x T' h' F cs ss → Keep h h' [a] → Arv E.Z h' a k .long n (vs.set i (.long v)) dv → G E x T' (fr x nx Ls st)) : G E x T (fr x pc Ls (.long v :: .int j :: .ref a :: st)) := by
  obtain ⟨d1, rfl⟩ := d
  obtain ⟨vm, L, X, e, hZ, hown, -, cl⟩ := W.open B
  obtain ⟨c, A, q, S, N, H, Gf⟩ := A
  obtain ⟨T', h', X', e', Wr', stp⟩ := stJ X B.2.2.2.2.2.2.1 hZ e A (inb_of S hj) (g := fr x pc Ls (.long v :: .int j :: .ref a :: st)) rfl rfl (by rw [B.1]; exact d1)
  exact G.of stp (hr T' h' (cl a _ _ T' h' hF X' e' Wr') (Keep.of_wr Wr') (Arv.set A q S N H Gf rfl Wr' i hi hl))
theorem fits_isRef {ty : FieldType} (hty : ty.isReference = true) {v : Value} (hv : v.isRef = true) : fits ty v = true := by
  cases ty <;> simp [FieldType.isReference] at hty <;> rcases ref_cases hv with rfl | ⟨a, rfl⟩ <;> rfl
theorem w_aastore (W : Wk E x T h F cs ss) (B : Is x own b ml R ret nm) {a : Addr} {k : ClassId} {ty : FieldType} {n j : Int32} {v : Value} {vs : List Value} {dv : Value} (d : D b pc .aastore 1 nx) (hF : a ∈ F) (hty : ty.isReference = true) (A : Arv E.Z h a k ty n vs dv) (hj : ¬ j < 0 ∧ j < n) {i : Nat} (hi : j.toNatClampNeg = i) (hl : i < vs.length) (hv : v.isRef = true) (Sv : Sto E.Z h a v)
    (hr : ∀ (T' : State) (h' : Heap), Wk E x T' h' F cs ss → Keep h h' [a] → Arv E.Z h' a k ty n (vs.set i v) dv → G E x T' (fr x nx Ls st)) : G E x T (fr x pc Ls (v :: .int j :: .ref a :: st)) := by
  obtain ⟨d1, rfl⟩ := d
  obtain ⟨vm, L, X, e, hZ, hown, -, cl⟩ := W.open B
  obtain ⟨c, A, q, S, N, H, Gf⟩ := A
  obtain ⟨T', h', X', e', Wr', stp⟩ := stR X B.2.2.2.2.2.2.1 hZ e A (inb_of S hj) hty Sv (g := fr x pc Ls (v :: .int j :: .ref a :: st)) rfl rfl (by rw [B.1]; exact d1)
  exact G.of stp (hr T' h' (cl a _ _ T' h' hF X' e' Wr') (Keep.of_wr Wr') (Arv.set A q S N H Gf (fits_isRef hty hv) Wr' i hi hl))
theorem w_ldcI (W : Wk E x T h F cs ss) (B : Is x own b ml R ret nm) {index : Nat} {v : Int32} (d : D b pc (.ldc index) 2 nx) (w : (Cond.constant own index v).before E.a E.Z = true) (hr : G E x T (fr x nx Ls (.int v :: st))) : G E x T (fr x pc Ls st) := by
  obtain ⟨d1, rfl⟩ := d
  obtain ⟨vm, L, X, e, hZ, hown, -, -⟩ := W.open B
  exact G.of (fun t r => X.ldcI B.2.2.2.2.2.2.1 hown (mv hZ w) (g := fr x pc Ls st) rfl (by rw [B.1]; exact d1) r) hr
theorem w_ldcWI (W : Wk E x T h F cs ss) (B : Is x own b ml R ret nm) {index : Nat} {v : Int32} (d : D b pc (.ldc_w index) 3 nx) (w : (Cond.constant own index v).before E.a E.Z = true) (hr : G E x T (fr x nx Ls (.int v :: st))) : G E x T (fr x pc Ls st) := by
  obtain ⟨d1, rfl⟩ := d
  obtain ⟨vm, L, X, e, hZ, hown, -, -⟩ := W.open B
  exact G.of (fun t r => X.ldcWI B.2.2.2.2.2.2.1 hown (mv hZ w) (g := fr x pc Ls st) rfl (by rw [B.1]; exact d1) r) hr
theorem w_ldc2J (W : Wk E x T h F cs ss) (B : Is x own b ml R ret nm) {index : Nat} {v : Int64} (d : D b pc (.ldc2_w index) 3 nx) (w : (Cond.constantLong own index v).before E.a E.Z = true) (hr : G E x T (fr x nx Ls (.long v :: st))) : G E x T (fr x pc Ls st) := by
  obtain ⟨d1, rfl⟩ := d
  obtain ⟨vm, L, X, e, hZ, hown, -, -⟩ := W.open B
  exact G.of (fun t r => X.ldc2J B.2.2.2.2.2.2.1 hown (mv hZ w) (g := fr x pc Ls st) rfl (by rw [B.1]; exact d1) r) hr
end StepsC
end Jvm.Own
namespace Jvm.Own
open Sem ClassFile Op Lib Bundle Jvm.Stand Jvm.Free Jvm.LawKit Jvm.RoadKit
section StepsD
variable {E : Gl} {x : Cx} {T : State} {h : Heap} {F : List Addr} {cs ss : Nat} {own : String} {b : ByteArray} {ml : Nat} {R : Room} {ret : Option FieldType} {nm : String} {pc nx tg : Nat} {o : Int} {Ls Ls' : Array Slot} {st stk : List Value}
/-- the end of a walk -/
theorem fin_of (W : Wk E x T h F cs ss) (B : Is x own b ml R ret nm) {v : Option Value} {F' : List Addr} {Q : Option Value → Heap → List Addr → Prop} (hQ : x.Q = Q) (q : Q v h F') (hF' : ∀ y ∈ F', y ∈ F) (hc : cs ≤ R.cells) (hs : ss ≤ R.slots) (hv : ret = none → v = none) {g : JFrame}
    (stp : ∀ (vm : Vm) (L : List Loc) (fs : List Frame), Stand x.p E.l x.e x.R (x.s.setVm vm) x.m x.args x.below x.meth x.c T L cs ss → (∀ (f : JFrame) (acts : List Action), f.method = x.m → f.locked = none → f.entered = [] → (doReturn x.e (T.setTop f) acts v).1 = T.setFrames fs) → Steps x.p.tables x.e x.below (T.setTop g) (T.setFrames fs)) : G E x T g := by
  obtain ⟨vm, k, L, X, h1, h2, h3, h4, h5, h6, h7, h8, h9, h10⟩ := W
  obtain ⟨fs, hr, hrun, hended, hW, hsame⟩ := X.leave (v := v) (fun q => hv (B.2.2.2.1.symm.trans q)) B.2.2.2.2.2.1
  have c : CHr E.Z E.K vm h T.vm h := CHv.at X h5 h10.1 h8.1
  refine ⟨T.setFrames fs, _, stp vm L fs X hr, hrun, hended, v, L, F', rfl, ?_, h6, ?_, ?_, ?_, ?_⟩
  · rw [hQ]; show Q v T.heap F'; rw [h1]; exact q
  · show Old E.Z E.n T.heap; rw [h1]; exact h7
  · show FOk E T.vm T.heap F'; rw [h1]
    exact fun y hy => ⟨(h9 y (hF' y hy)).1, (h9 y (hF' y hy)).2.1, c.safe (h9 y (hF' y hy)).2.1 (h9 y (hF' y hy)).2.2⟩
  · show CHr E.Z E.K x.s.vm x.s.heap T.vm T.heap; rw [h1]; exact h8.trans c
  · have hc' : cs ≤ x.R.cells := by rw [B.2.2.1]; exact hc
    have hs' : ss ≤ x.R.slots := by rw [B.2.2.1]; exact hs
    show EndF E.w _ _ _ _ _ _
    cases hw : E.w with
    | true =>
      obtain ⟨a1, a2, a3⟩ := h2.ended (U := T.setFrames fs) hW (by show k ≤ T.heap.size; rw [h1]; exact h3) hsame
      exact ⟨⟨v, rfl⟩, a1, a2, a3.mono hc' hs'⟩
    | false =>
      have e := h4 hw
      subst e
      exact ⟨⟨v, rfl⟩, hW, hsame.mono hc' hs'⟩
theorem w_ireturn (W : Wk E x T h F cs ss) (B : Is x own b ml R (some .int) nm) {v : Int32} {F' : List Addr} {Q : Option Value → Heap → List Addr → Prop} (d : D b pc .ireturn 1 nx) (hQ : x.Q = Q) (hc : cs ≤ R.cells) (hs : ss ≤ R.slots) (hF' : ∀ y ∈ F', y ∈ F) (q : Q (some (.int v)) h F') : G E x T (fr x pc Ls (.int v :: st)) :=
  fin_of W B hQ q hF' hc hs (fun q => nomatch q) fun _ _ _ X hr => retOut X B.2.2.2.2.2.2.1 B.2.2.2.1 rfl (Or.inl ⟨rfl, Or.inl rfl, _, rfl⟩) (by rw [B.1]; exact d.1) hr
theorem w_ireturnN (W : Wk E x T h F cs ss) {t : FieldType} (B : Is x own b ml R (some t) nm) {v u : Int32} {F' : List Addr} {Q : Option Value → Heap → List Addr → Prop} (d : D b pc .ireturn 1 nx) (ht : t = .boolean ∨ t = .byte ∨ t = .char ∨ t = .short) (hu : nar t v = u) (hQ : x.Q = Q) (hc : cs ≤ R.cells) (hs : ss ≤ R.slots) (hF' : ∀ y ∈ F', y ∈ F) (q : Q (some (.int u)) h F') : G E x T (fr x pc Ls (.int v :: st)) := by
  subst hu
  exact fin_of W B hQ q hF' hc hs (fun q => nomatch q) fun _ _ _ X hr => retN X B.2.2.2.2.2.2.1 B.2.2.2.1 ht (by rw [B.1]; exact d.1) hr
theorem w_lreturn (W : Wk E x T h F cs ss) (B : Is x own b ml R (some .long) nm) {v : Int64} {F' : List Addr} {Q : Option Value → Heap → List Addr → Prop} (d : D b pc .lreturn 1 nx) (hQ : x.Q = Q) (hc : cs ≤ R.cells) (hs : ss ≤ R.slots) (hF' : ∀ y ∈ F', y ∈ F) (q : Q (some (.long v)) h F') : G E x T (fr x pc Ls (.long v :: st)) :=
  fin_of W B hQ q hF' hc hs (fun q => nomatch q) fun _ _ _ X hr => retOut X B.2.2.2.2.2.2.1 B.2.2.2.1 rfl (Or.inr (Or.inl ⟨rfl, rfl, _, rfl⟩)) (by rw [B.1]; exact d.1) hr
theorem w_areturn (W : Wk E x T h F cs ss) {t : FieldType} (B : Is x own b ml R (some t) nm) {v : Value} {F' : List Addr} {Q : Option Value → Heap → List Addr → Prop} (d : D b pc .areturn 1 nx) (ht : t.isReference = true) (hv : v.isRef = true) (hQ : x.Q = Q) (hc : cs ≤ R.cells) (hs : ss ≤ R.slots) (hF' : ∀ y ∈ F', y ∈ F) (q : Q (some v) h F') : G E x T (fr x pc Ls (v :: st)) := by
  have hn : narrow t v = v := by
    rcases ref_cases hv with rfl | ⟨a, rfl⟩ <;> cases t <;> simp [FieldType.isReference] at ht <;> rfl
  exact fin_of W B hQ q hF' hc hs (fun q => nomatch q) fun _ _ _ X hr => retOut X B.2.2.2.2.2.2.1 B.2.2.2.1 hn (Or.inr (Or.inr (Or.inr (Or.inr ⟨rfl, ht, hv⟩)))) (by rw [B.1]; exact d.1) hr
theorem w_return (W : Wk E x T h F cs ss) (B : Is x own b ml R none nm) {F' : List Addr} {Q : Option Value → Heap → List Addr → Prop} (d : D b pc .return_ 1 nx) (hQ : x.Q = Q) (hc : cs ≤ R.cells) (hs : ss ≤ R.slots) (hF' : ∀ y ∈ F', y ∈ F) (q : Q none h F') : G E x T (fr x pc Ls []) :=
  fin_of W B hQ q hF' hc hs (fun _ => rfl) fun _ _ _ X hr => X.returnOut B.2.2.2.2.2.2.1 B.2.2.2.1 (by rw [B.1]; exact d.1) hr
/-- a String constant of those held -/
theorem w_ldcS (W : Wk E x T h F cs ss) (B : Is x own b ml R ret nm) {index n : Nat} {text : String} {vs : List Value} {z : Int32} (d : D b pc (.ldc index) 2 nx) (hw : E.w = true) (hmem : (own, index) ∈ E.K) (w : (Cond.stringLink own index text).before E.a E.Z = true) (wS : ∀ c ∈ Bundle.stringAtoms, c.before E.a E.Z = true)
    (ht : (∀ c ∈ text.toList, c.toNat < 256) ∧ text.toList.map (fun c => Value.int (Jvm.Lit.byteI c.toNat.toUInt16)) = vs) (hz : ¬ z < 0) (hl : z.toNatClampNeg = vs.length) (hn : 4 * text.toList.length ≤ n) (hbig : n ≤ 536870912) (hc : cs + 2 ≤ R.cells) (hs : ss + (n + 4) ≤ R.slots)
    (hr : ∀ (T' : State) (h' : Heap) (a v : Addr) (k : ClassId), Wk E x T' h' F (cs + 2) (ss + (n + 4)) → Ext h h' → Exa E.Z h' a "java/lang/String" → Fld E.Z h' a "java/lang/String" "coder" "B" (.int 0) → Fld E.Z h' a "java/lang/String" "value" "[B" (.ref v) → Arv E.Z h' v k .byte z vs (.int 0) → (∀ y ∈ F, y ≠ a ∧ y ≠ v) → G E x T' (fr x nx Ls (.ref a :: st))) : G E x T (fr x pc Ls st) := by
  obtain ⟨d1, rfl⟩ := d
  obtain ⟨vm, k, L, X, h1, h2, h3, h4, h5, h6, h7, h8, h9, h10⟩ := W
  have hown : vm.findClass own = some x.m.cls := by rw [h2.1.alike.findClass]; exact B.2.2.2.2.2.2.2
  obtain ⟨a, T', h', k1, v, kv, X', e', Ex, S', hk1, hZ', hown', A, C, V, K, la, lb, cr, -, sf, stp⟩ := ldcCH X B.2.2.2.2.2.2.1 h5 hown w wS h1 h2 h3 h10.1 hmem h8.1 ht hz hl (g := fr x pc Ls st) rfl (by rw [B.1]; exact d1) hn hbig (by rw [B.2.2.1]; exact hc) (by rw [B.2.2.1]; exact hs)
  have f1 : FOk E T'.vm h' F := fun y hy => ⟨(h9 y hy).1, Nat.lt_of_lt_of_le (h9 y hy).2.1 Ex.1, cr.safe (h9 y hy).2.1 (h9 y hy).2.2⟩
  exact G.of stp (hr T' h' a v kv ⟨T'.vm, k1, L, X', e', S', hk1, fun q => (Bool.noConfusion (hw.symm.trans q)), hZ', h6, h7.ext Ex, h8.trans cr, f1, h10⟩ Ex A C V K fun y hy => sf y (f1 y hy).2.2)
/-- a String constant of which nothing is said but that a reference is pushed -/
theorem w_ldcO (W : Wk E x T h F cs ss) (B : Is x own b ml R ret nm) {index n : Nat} {text : String} (d : D b pc (.ldc index) 2 nx) (hw : E.w = true) (w : (Cond.stringLink own index text).before E.a E.Z = true) (wS : ∀ c ∈ Bundle.stringAtoms, c.before E.a E.Z = true)
    (hn : 4 * text.toList.length ≤ n) (hbig : n ≤ 536870912) (hc : cs + 2 ≤ R.cells) (hs : ss + (n + 4) ≤ R.slots)
    (hr : ∀ (T' : State) (h' : Heap) (a : Addr), Wk E x T' h' F (cs + 2) (ss + (n + 4)) → Ext h h' → G E x T' (fr x nx Ls (.ref a :: st))) : G E x T (fr x pc Ls st) := by
  obtain ⟨d1, rfl⟩ := d
  obtain ⟨vm, k, L, X, h1, h2, h3, h4, h5, h6, h7, h8, h9, h10⟩ := W
  have hown : vm.findClass own = some x.m.cls := by rw [h2.1.alike.findClass]; exact B.2.2.2.2.2.2.2
  obtain ⟨a, T', h', k1, X', e', Ex, S', hk1, hZ', hown', cr, -, stp⟩ := ldcOH X B.2.2.2.2.2.2.1 h5 hown w wS h1 h2 h3 h10.1 h8.1 (g := fr x pc Ls st) rfl (by rw [B.1]; exact d1) hn hbig (by rw [B.2.2.1]; exact hc) (by rw [B.2.2.1]; exact hs)
  have f1 : FOk E T'.vm h' F := fun y hy => ⟨(h9 y hy).1, Nat.lt_of_lt_of_le (h9 y hy).2.1 Ex.1, cr.safe (h9 y hy).2.1 (h9 y hy).2.2⟩
  exact G.of stp (hr T' h' a ⟨T'.vm, k1, L, X', e', S', hk1, fun q => (Bool.noConfusion (hw.symm.trans q)), hZ', h6, h7.ext Ex, h8.trans cr, f1, h10⟩ Ex)
end StepsD
/-! calls: what a contract leaves, said at a point of the caller's walk -/
def PreC (R rm : Room) (as' : Array Value) (h : Heap) (A : Pt) (a : Array Value) : Prop := a = as' ∧ A.U.heap = h ∧ A.cells + rm.cells ≤ R.cells ∧ A.slots + rm.slots ≤ R.slots
def PostC (E : Gl) (vm : Vm) (h : Heap) (rm : Room) (Q : Option Value → Heap → List Addr → Prop) (A : Pt) (_ : Array Value) (v : Option Value) (B : Pt) : Prop :=
  ∃ (L : List Loc) (F' : List Addr), Q v B.U.heap F' ∧ Fr E.n L ∧ Old E.Z E.n B.U.heap ∧ FOk E B.U.vm B.U.heap F' ∧ CHr E.Z E.K vm h B.U.vm B.U.heap ∧ B.locs = A.locs ++ L ∧ B.cells = A.cells + rm.cells ∧ B.slots = A.slots + rm.slots
section Pay
variable {E : Gl} {p : Program} {e : Env} {R rm : Room} {s : State} {args as' : Array Value} {below : List Frame} {vm : Vm} {h : Heap} {F : List Addr} {y : MethodName} {bytes : ByteArray} {maxL : Nat} {ret : Option FieldType} {Q : Option Value → Heap → List Addr → Prop} {len W : Nat}
theorem fok_at {m : MethodId} {meth : Method} {c : Code} {A : Pt} (Y : Stand p E.l e R (s.setVm vm) m args below meth c A.U A.locs A.cells A.slots) (hZ : E.Z.Warmed39 vm) (hE : EW E.Z E.a E.K) (H : CHv E.Z E.K vm h) (hF : FOk E vm h F) : CHr E.Z E.K vm h A.U.vm h ∧ FOk E A.U.vm h F := by
  have c := CHv.at Y hZ hE H
  exact ⟨c, fun z hz => ⟨(hF z hz).1, (hF z hz).2.1, c.safe (hF z hz).2.1 (hF z hz).2.2⟩⟩
theorem payS (hw : E.w = true) (hM : Met E y bytes maxL ret rm as' h F Q) (hZ : E.Z.Warmed39 vm) (hO : Old E.Z E.n h) (H : CHv E.Z E.K vm h) (hF : FOk E vm h F) (hE : GOk E)
    (wc : (Cond.code y bytes maxL ret).before E.a E.Z = true) (wz : (Cond.initialized y.cls).before E.a E.Z = true) (hf : rm.frames + 1 ≤ R.frames) (hl : W + (maxL + 11) + rm.locals ≤ R.locals) :
    BackS E.l R p e below (s.setVm vm) args y len W (PreC R rm as' h) (PostC E vm h rm Q) :=
  BackS.of_freeW (bytes := bytes) (maxL := maxL) (ret := ret)
    (E := fun _ first o t L k n => k = rm.cells ∧ n = rm.slots ∧ ∃ (v : Option Value) (F' : List Addr), o = .returned v ∧ Q v t.heap F' ∧ Fr E.n L ∧ Old E.Z E.n t.heap ∧ FOk E t.vm t.heap F' ∧ CHr E.Z E.K first.vm first.heap t.vm t.heap) hM hf hl
    (fun m meth c A a Y hp => have hU : E.Z.Warmed39 A.U.vm := wtrans (s := s.setVm vm) hZ Y.warmed
      ⟨by show (Cond.and _ .tt).before a A.U = true; rw [Cond.before_and, mv hU wc]; rfl, mv hU wc, mv hU wz, hp.2.2.1, hp.2.2.2⟩)
    (fun m meth c A a g mk Y hp => ⟨hp.1, wtrans (s := s.setVm vm) hZ Y.warmed, hp.2.1, hO, (fok_at Y hZ hE.1 H hF).1.1, (fok_at Y hZ hE.1 H hF).2, hE⟩) (fun _ _ _ _ _ _ _ _ _ => trivial)
    (fun _ _ _ _ ⟨v, L, F', h1, h2, h3, h4, h5, h6, h7⟩ => ⟨L, _, _, by have h7 : EndF E.w _ _ _ _ _ _ := h7; rw [hw] at h7; exact h7, rfl, rfl, v, F', h1, h2, h3, h4, h5, h6⟩)
    (fun m meth c A a g mk v t L k n Y hp _ _ ⟨e1, e2, v', F', e3, e4, e5, e6, e7, e8⟩ => by
      cases e3; subst e1 e2
      refine ⟨L, F', e4, e5, e6, e7, (fok_at Y hZ hE.1 H hF).1.trans ?_, rfl, rfl, rfl⟩
      rw [← hp.2.1]; exact e8)
theorem payN (hw : E.w = false) (hM : Met E y bytes maxL ret rm as' h F Q) (hZ : E.Z.Warmed39 vm) (hO : Old E.Z E.n h) (H : CHv E.Z E.K vm h) (hF : FOk E vm h F) (hE : GOk E)
    (wc : (Cond.code y bytes maxL ret).before E.a E.Z = true) (wz : (Cond.initialized y.cls).before E.a E.Z = true) (hf : rm.frames + 1 ≤ R.frames) (hl : W + (maxL + 11) + rm.locals ≤ R.locals) :
    Back E.l R p e below (s.setVm vm) args y len W (PreC R rm as' h) (PostC E vm h rm Q) :=
  Back.of_free (bytes := bytes) (maxL := maxL) (ret := ret)
    (E := fun _ first o t L k n => k = rm.cells ∧ n = rm.slots ∧ ∃ (v : Option Value) (F' : List Addr), o = .returned v ∧ Q v t.heap F' ∧ Fr E.n L ∧ Old E.Z E.n t.heap ∧ FOk E t.vm t.heap F' ∧ CHr E.Z E.K first.vm first.heap t.vm t.heap) hM hf hl
    (fun m meth c A a Y hp => have hU : E.Z.Warmed39 A.U.vm := wtrans (s := s.setVm vm) hZ Y.warmed
      ⟨by show (Cond.and _ .tt).before a A.U = true; rw [Cond.before_and, mv hU wc]; rfl, mv hU wc, mv hU wz, hp.2.2.1, hp.2.2.2⟩)
    (fun m meth c A a g mk Y hp => ⟨hp.1, wtrans (s := s.setVm vm) hZ Y.warmed, hp.2.1, hO, (fok_at Y hZ hE.1 H hF).1.1, (fok_at Y hZ hE.1 H hF).2, hE⟩) (fun _ _ _ _ _ _ _ _ _ => trivial)
    (fun _ _ _ _ ⟨v, L, F', h1, h2, h3, h4, h5, h6, h7⟩ => ⟨L, _, _, by have h7 : EndF E.w _ _ _ _ _ _ := h7; rw [hw] at h7; exact h7, rfl, rfl, v, F', h1, h2, h3, h4, h5, h6⟩)
    (fun m meth c A a g mk v t L k n Y hp _ _ ⟨e1, e2, v', F', e3, e4, e5, e6, e7, e8⟩ => by
      cases e3; subst e1 e2
      refine ⟨L, F', e4, e5, e6, e7, (fok_at Y hZ hE.1 H hF).1.trans ?_, rfl, rfl, rfl⟩
      rw [← hp.2.1]; exact e8)
end Pay
section Calls
variable {E : Gl} {x : Cx} {T : State} {h : Heap} {F : List Addr} {cs ss : Nat} {own : String} {b : ByteArray} {ml : Nat} {R : Room} {ret : Option FieldType} {nm : String} {pc nx : Nat} {Ls : Array Slot} {st stk : List Value}
/-- behind a call: the walk stands again -/
theorem back_wk {vm : Vm} {L : List Loc} (W : Wk E x T h F cs ss) {rm : Room} {Q : Option Value → Heap → List Addr → Prop} {vm' : Vm} {BU : State} {BL : List Loc} {Bc Bs k' : Nat} {A : Pt} {a : Array Value} {v : Option Value} (hA : A.locs = L ∧ A.cells = cs ∧ A.slots = ss)
    (h6 : Fr E.n L) (h8 : CHr E.Z E.K x.s.vm x.s.heap vm h) (h10 : GOk E) (X' : Stand x.p E.l x.e x.R (x.s.setVm vm') x.m x.args x.below x.meth x.c BU BL Bc Bs) (S' : x.s.Since vm' k') (hk' : k' ≤ BU.heap.size) (hw : E.w = false → vm' = x.s.vm) (hZ' : E.Z.Warmed39 vm')
    (P : PostC E vm h rm Q A a v (BU, BL, Bc, Bs)) (hv : BU.vm = vm' ∨ (E.K = [] ∧ vm' = vm)) : ∃ F', Wk E x BU BU.heap F' (cs + rm.cells) (ss + rm.slots) ∧ Q v BU.heap F' := by
  obtain ⟨L', F', p1, p2, p3, p4, p5, p6, p7, p8⟩ := P
  dsimp only [Pt.U, Pt.locs, Pt.cells, Pt.slots] at p1 p2 p3 p4 p5 p6 p7 p8
  obtain ⟨q1, q2, q3⟩ := hA
  dsimp only [Pt.U, Pt.locs, Pt.cells, Pt.slots] at q1 q2 q3
  refine ⟨F', ⟨vm', k', BL, ?_, rfl, S', hk', hw, hZ', ?_, p3, ?_, ?_, h10⟩, p1⟩
  · rw [p7, p8, q2, q3] at X'; exact X'
  · rw [p6, q1]; exact Fr.app h6 p2
  · rcases hv with rfl | ⟨hK, rfl⟩
    · exact h8.trans p5
    · rw [hK] at h8 ⊢; exact chr_nil _ (Nat.le_trans h8.2.1 p5.2.1)
  · rcases hv with rfl | ⟨hK, rfl⟩
    · exact p4
    · exact fun z hz => ⟨(p4 z hz).1, (p4 z hz).2.1, by rw [hK]; exact safe_nil _ _ _ _⟩
theorem w_static (W : Wk E x T h F cs ss) (B : Is x own b ml R ret nm) {index : Nat} {y : MethodName} {bytes : ByteArray} {maxL : Nat} {rt : Option FieldType} {rm : Room} {Q : Option Value → Heap → List Addr → Prop} {ps : List FieldType} {r : Option FieldType} {argsL : List Value} {Wt : Nat} (d : D b pc (.invokestatic index) 3 nx)
    (w1 : (Cond.methodLink own index y).before E.a E.Z = true) (w2 : (Cond.static y).before E.a E.Z = true) (w3 : (Cond.initialized y.cls).before E.a E.Z = true) (w4 : (Cond.code y bytes maxL rt).before E.a E.Z = true) (hy : y.cls ≠ "java/lang/invoke/MethodHandle" ∧ y.cls ≠ "java/lang/invoke/VarHandle")
    (pd : parseMethodDescriptor y.desc = some ⟨ps, r⟩) (hl : argsL.length = ps.length) (hsz : Ls.size = ml) (hst : stk = argsL.reverse ++ st) (hW : (st.map fun v => v.category).sum ≤ Wt) (hM : Met E y bytes maxL rt rm argsL.toArray h F Q)
    (hf : rm.frames + 1 ≤ R.frames) (hlo : Wt + (maxL + 11) + rm.locals ≤ R.locals) (hc : cs + rm.cells ≤ R.cells) (hs : ss + rm.slots ≤ R.slots)
    (hr : ∀ (T' : State) (h' : Heap) (F' : List Addr) (v : Option Value), Wk E x T' h' F' (cs + rm.cells) (ss + rm.slots) → Q v h' F' → G E x T' (fr x nx Ls (v.toList ++ st))) : G E x T (fr x pc Ls stk) := by
  obtain ⟨d1, rfl⟩ := d
  subst hst
  have W0 := W
  obtain ⟨vm, k, L, X, h1, h2, h3, h4, h5, h6, h7, h8, h9, h10⟩ := W
  have hown : vm.findClass own = some x.m.cls := by rw [h2.1.alike.findClass]; exact B.2.2.2.2.2.2.2
  rw [← B.2.2.1] at hf hlo hc hs
  cases hw : E.w with
  | true =>
    obtain ⟨v, vm₁, ⟨BU, BL, Bc, Bs⟩, -, X', S', gr, P, stp⟩ := callSS X B.2.2.2.2.2.2.1 hown (mvT (s := x.s.setVm vm) h5 w1) (mvT (s := x.s.setVm vm) h5 w2) (mvT (s := x.s.setVm vm) h5 w3) (mvT (s := x.s.setVm vm) h5 w4) hy (payS (len := 3) (W := Wt) hw hM h5 h7 h8.1 h9 h10 w4 w3 hf hlo) (g := fr x pc Ls (argsL.reverse ++ st)) rfl (hsz.trans B.2.1.symm) (lenOf pd hl) rfl (by show 2 * 0 + _ ≤ _; omega) (by rw [B.1]; exact d1) (fun vm₁ _ => ⟨rfl, h1, hc, hs⟩)
    obtain ⟨F', W', q⟩ := back_wk (vm := vm) W0 ⟨rfl, rfl, rfl⟩ h6 h8 h10 X' (foldS h2 (by rw [h1]; exact h3) S' gr) (Nat.le_refl _) (fun q => Bool.noConfusion (hw.symm.trans q)) (State.Warmed39.trans (t := x.s.setVm vm) h5 S'.1) P (Or.inl rfl)
    exact G.ofS stp (hr BU BU.heap F' v W' q)
  | false =>
    have e := h4 hw
    obtain ⟨v, vm₁, ⟨BU, BL, Bc, Bs⟩, -, X', P, stp⟩ := Jvm.LawKit.callS X B.2.2.2.2.2.2.1 hown (mvT (s := x.s.setVm vm) h5 w1) (mvT (s := x.s.setVm vm) h5 w2) (mvT (s := x.s.setVm vm) h5 w3) (mvT (s := x.s.setVm vm) h5 w4) hy (payN (len := 3) (W := Wt) hw hM h5 h7 h8.1 h9 h10 w4 w3 hf hlo) (g := fr x pc Ls (argsL.reverse ++ st)) rfl (hsz.trans B.2.1.symm) (lenOf pd hl) rfl (by show 2 * 0 + _ ≤ _; omega) (by rw [B.1]; exact d1) (fun vm₁ _ => ⟨rfl, h1, hc, hs⟩)
    have gr : h.size ≤ BU.heap.size := by obtain ⟨_, _, _, _, _, _, c5, _⟩ := P; exact c5.2.1
    obtain ⟨F', W', q⟩ := back_wk (vm := vm) W0 ⟨rfl, rfl, rfl⟩ h6 h8 h10 X' h2 (Nat.le_trans h3 gr) h4 h5 P (Or.inr ⟨h10.2 hw, rfl⟩)
    exact G.of stp (hr BU BU.heap F' v W' q)
theorem w_special (W : Wk E x T h F cs ss) (B : Is x own b ml R ret nm) {index : Nat} {y : MethodName} {bytes : ByteArray} {maxL : Nat} {rm : Room} {Q : Option Value → Heap → List Addr → Prop} {ps : List FieldType} {r : Option FieldType} {a : Addr} {argsL : List Value} {Wt : Nat} (d : D b pc (.invokespecial index) 3 nx) (hy1 : y.name = "<init>")
    (w1 : (Cond.methodLink own index y).before E.a E.Z = true) (w2 : (Cond.instanceMethod y).before E.a E.Z = true) (w3 : (Cond.initialized y.cls).before E.a E.Z = true) (w4 : (Cond.code y bytes maxL none).before E.a E.Z = true) (hy : y.cls ≠ "java/lang/invoke/MethodHandle" ∧ y.cls ≠ "java/lang/invoke/VarHandle")
    (pd : parseMethodDescriptor y.desc = some ⟨ps, r⟩) (hl : argsL.length = ps.length) (hsz : Ls.size = ml) (hst : stk = argsL.reverse ++ .ref a :: st) (hW : (st.map fun v => v.category).sum ≤ Wt) (hM : Met E y bytes maxL none rm (.ref a :: argsL).toArray h F Q)
    (hf : rm.frames + 1 ≤ R.frames) (hlo : Wt + (maxL + 11) + rm.locals ≤ R.locals) (hc : cs + rm.cells ≤ R.cells) (hs : ss + rm.slots ≤ R.slots)
    (hr : ∀ (T' : State) (h' : Heap) (F' : List Addr) (v : Option Value), Wk E x T' h' F' (cs + rm.cells) (ss + rm.slots) → Q v h' F' → G E x T' (fr x nx Ls (v.toList ++ st))) : G E x T (fr x pc Ls stk) := by
  obtain ⟨d1, rfl⟩ := d
  subst hst
  have W0 := W
  obtain ⟨vm, k, L, X, h1, h2, h3, h4, h5, h6, h7, h8, h9, h10⟩ := W
  have hown : vm.findClass own = some x.m.cls := by rw [h2.1.alike.findClass]; exact B.2.2.2.2.2.2.2
  rw [← B.2.2.1] at hf hlo hc hs
  cases hw : E.w with
  | true =>
    obtain ⟨v, vm₁, ⟨BU, BL, Bc, Bs⟩, -, X', S', gr, P, stp⟩ := X.specialBackS B.2.2.2.2.2.2.1 hy1 hown (mvT (s := x.s.setVm vm) h5 w1) (mvT (s := x.s.setVm vm) h5 w2) (mvT (s := x.s.setVm vm) h5 w4) hy (payS (len := 3) (W := Wt) hw hM h5 h7 h8.1 h9 h10 w4 w3 hf hlo) (g := fr x pc Ls (argsL.reverse ++ .ref a :: st)) rfl (hsz.trans B.2.1.symm) (Steps.refl _) (lenOf pd hl) rfl (by show 2 * 0 + _ ≤ _; omega) (by rw [B.1]; exact d1) (fun vm₁ _ => ⟨rfl, h1, hc, hs⟩)
    obtain ⟨F', W', q⟩ := back_wk (vm := vm) W0 ⟨rfl, rfl, rfl⟩ h6 h8 h10 X' (foldS h2 (by rw [h1]; exact h3) S' gr) (Nat.le_refl _) (fun q => Bool.noConfusion (hw.symm.trans q)) (State.Warmed39.trans (t := x.s.setVm vm) h5 S'.1) P (Or.inl rfl)
    exact G.ofS stp (hr BU BU.heap F' v W' q)
  | false =>
    have e := h4 hw
    obtain ⟨v, vm₁, ⟨BU, BL, Bc, Bs⟩, -, X', P, stp⟩ := X.specialBack B.2.2.2.2.2.2.1 hy1 hown (mvT (s := x.s.setVm vm) h5 w1) (mvT (s := x.s.setVm vm) h5 w2) (mvT (s := x.s.setVm vm) h5 w4) hy (payN (len := 3) (W := Wt) hw hM h5 h7 h8.1 h9 h10 w4 w3 hf hlo) (g := fr x pc Ls (argsL.reverse ++ .ref a :: st)) rfl (hsz.trans B.2.1.symm) (Steps.refl _) (lenOf pd hl) rfl (by show 2 * 0 + _ ≤ _; omega) (by rw [B.1]; exact d1) (fun vm₁ _ => ⟨rfl, h1, hc, hs⟩)
    have gr : h.size ≤ BU.heap.size := by obtain ⟨_, _, _, _, _, _, c5, _⟩ := P; exact c5.2.1
    obtain ⟨F', W', q⟩ := back_wk (vm := vm) W0 ⟨rfl, rfl, rfl⟩ h6 h8 h10 X' h2 (Nat.le_trans h3 gr) h4 h5 P (Or.inr ⟨h10.2 hw, rfl⟩)
    exact G.ofS stp (hr BU BU.heap F' v W' q)
theorem w_virtual (W : Wk E x T h F cs ss) (B : Is x own b ml R ret nm) {index : Nat} {C : String} {y z : MethodName} {bytes : ByteArray} {maxL : Nat} {rt : Option FieldType} {rm : Room} {Q : Option Value → Heap → List Addr → Prop} {ps : List FieldType} {r : Option FieldType} {a : Addr} {argsL : List Value} {Wt : Nat} (d : D b pc (.invokevirtual index) 3 nx)
    (w1 : (Cond.methodLink own index y).before E.a E.Z = true) (wd : (Cond.declares y).before E.a E.Z = true) (nf : ∀ s' : State, E.Z.Warmed39 s'.vm → NotFace s' y) (wsel : (Cond.selects C y z).before E.a E.Z = true) (w2 : (Cond.instanceMethod z).before E.a E.Z = true) (w3 : (Cond.initialized z.cls).before E.a E.Z = true) (w4 : (Cond.code z bytes maxL rt).before E.a E.Z = true)
    (hy : y.cls ≠ "java/lang/invoke/MethodHandle" ∧ y.cls ≠ "java/lang/invoke/VarHandle") (Ex : Exa E.Z h a C)
    (pd : parseMethodDescriptor y.desc = some ⟨ps, r⟩) (hl : argsL.length = ps.length) (hsz : Ls.size = ml) (hst : stk = argsL.reverse ++ .ref a :: st) (hW : (st.map fun v => v.category).sum ≤ Wt) (hM : Met E z bytes maxL rt rm (.ref a :: argsL).toArray h F Q)
    (hf : rm.frames + 1 ≤ R.frames) (hlo : Wt + (maxL + 11) + rm.locals ≤ R.locals) (hc : cs + rm.cells ≤ R.cells) (hs : ss + rm.slots ≤ R.slots)
    (hr : ∀ (T' : State) (h' : Heap) (F' : List Addr) (v : Option Value), Wk E x T' h' F' (cs + rm.cells) (ss + rm.slots) → Q v h' F' → G E x T' (fr x nx Ls (v.toList ++ st))) : G E x T (fr x pc Ls stk) := by
  obtain ⟨d1, rfl⟩ := d
  subst hst
  have W0 := W
  obtain ⟨vm, k, L, X, h1, h2, h3, h4, h5, h6, h7, h8, h9, h10⟩ := W
  have hown : vm.findClass own = some x.m.cls := by rw [h2.1.alike.findClass]; exact B.2.2.2.2.2.2.2
  obtain ⟨cB, kB, i1, i2, i3⟩ := isOf (s := x.s.setVm vm) h5 h1 Ex
  rw [← B.2.2.1] at hf hlo hc hs
  cases hw : E.w with
  | true =>
    obtain ⟨v, vm₁, ⟨BU, BL, Bc, Bs⟩, -, X', S', gr, P, stp⟩ := X.virtualBackS B.2.2.2.2.2.2.1 hown (mvT (s := x.s.setVm vm) h5 w1) (mvT (s := x.s.setVm vm) h5 wd) (nf (x.s.setVm vm) h5) (mvT (s := x.s.setVm vm) h5 wsel) (mvT (s := x.s.setVm vm) h5 w2) hy (payS (len := 3) (W := Wt) hw hM h5 h7 h8.1 h9 h10 w4 w3 hf hlo) i1 i3 (g := fr x pc Ls (argsL.reverse ++ .ref a :: st)) rfl (hsz.trans B.2.1.symm) (Steps.refl _) (lenOf pd hl) rfl (by show 2 * 0 + _ ≤ _; omega) (by rw [B.1]; exact d1) (fun vm₁ _ => ⟨rfl, h1, hc, hs⟩)
    obtain ⟨F', W', q⟩ := back_wk (vm := vm) W0 ⟨rfl, rfl, rfl⟩ h6 h8 h10 X' (foldS h2 (by rw [h1]; exact h3) S' gr) (Nat.le_refl _) (fun q => Bool.noConfusion (hw.symm.trans q)) (State.Warmed39.trans (t := x.s.setVm vm) h5 S'.1) P (Or.inl rfl)
    exact G.ofS stp (hr BU BU.heap F' v W' q)
  | false =>
    have e := h4 hw
    obtain ⟨v, vm₁, ⟨BU, BL, Bc, Bs⟩, -, X', P, stp⟩ := X.virtualBack B.2.2.2.2.2.2.1 hown (mvT (s := x.s.setVm vm) h5 w1) (mvT (s := x.s.setVm vm) h5 wd) (nf (x.s.setVm vm) h5) (mvT (s := x.s.setVm vm) h5 wsel) (mvT (s := x.s.setVm vm) h5 w2) hy (payN (len := 3) (W := Wt) hw hM h5 h7 h8.1 h9 h10 w4 w3 hf hlo) i1 i3 (g := fr x pc Ls (argsL.reverse ++ .ref a :: st)) rfl (hsz.trans B.2.1.symm) (Steps.refl _) (lenOf pd hl) rfl (by show 2 * 0 + _ ≤ _; omega) (by rw [B.1]; exact d1) (fun vm₁ _ => ⟨rfl, h1, hc, hs⟩)
    have gr : h.size ≤ BU.heap.size := by obtain ⟨_, _, _, _, _, _, c5, _⟩ := P; exact c5.2.1
    obtain ⟨F', W', q⟩ := back_wk (vm := vm) W0 ⟨rfl, rfl, rfl⟩ h6 h8 h10 X' h2 (Nat.le_trans h3 gr) h4 h5 P (Or.inr ⟨h10.2 hw, rfl⟩)
    exact G.ofS stp (hr BU BU.heap F' v W' q)
theorem nf_sel {Z : State} {a0 : Array Value} {C : String} {y : MethodName} (w : (Cond.selects C y y).before a0 Z = true) : ∀ s' : State, Z.Warmed39 s'.vm → NotFace s' y := fun s' hZ => notFace_of_selects (args := a0) (mvT hZ w)
end Calls
end Jvm.Own
namespace Jvm.Own
open Sem ClassFile Op Lib Bundle Jvm.Stand Jvm.Free Jvm.LawKit Jvm.RoadKit
theorem ne_new {h : Heap} {a b : Addr} (l : a < h.size) (g : b = h.size) : a ≠ b := by subst g; exact Nat.ne_of_lt l
theorem cat_ref {v : Value} (hv : v.isRef = true) : v.category = 1 := by rcases ref_cases hv with rfl | ⟨a, rfl⟩ <;> rfl
theorem cat_r (a : Addr) : (Value.ref a).category = 1 := rfl
theorem cat_i (a : Int32) : (Value.int a).category = 1 := rfl
theorem cat_j (a : Int64) : (Value.long a).category = 2 := rfl
theorem cat_n : Value.null.category = 1 := rfl
theorem nar_ref {C : String} {v : Value} (hv : v.isRef = true) : narrow (.object C) v = v := by rcases ref_cases hv with rfl | ⟨a, rfl⟩ <;> rfl
theorem fits_obj {C : String} {v : Value} (hv : v.isRef = true) : fits (.object C) v = true := by rcases ref_cases hv with rfl | ⟨a, rfl⟩ <;> rfl
/-! ints of small naturals -/
theorem n_int {i : Nat} (h : i < 2 ^ 31) : i.toInt32.toInt = i := len_toInt h
theorem n_clamp {i : Nat} (h : i < 2 ^ 31) : i.toInt32.toNatClampNeg = i := by simp only [Int32.toNatClampNeg, n_int h]; omega
theorem n_nn {i : Nat} (h : i < 2 ^ 31) : ¬ i.toInt32 < 0 := by simp only [Int32.lt_iff_toInt_lt, n_int h, Int32.reduceToInt]; omega
theorem n_lt {i n : Nat} (hi : i < 2 ^ 31) (hn : n < 2 ^ 31) : i.toInt32 < n.toInt32 ↔ i < n := by simp only [Int32.lt_iff_toInt_lt, n_int hi, n_int hn]; omega
theorem n_add (i j : Nat) : i.toInt32 + j.toInt32 = (i + j).toInt32 := (Int32.ofNat_add i j).symm
theorem n_succ (i : Nat) : i.toInt32 + (1 : Int32) = (i + 1).toInt32 := n_add i 1
theorem n_eq {i n : Nat} (hi : i < 2 ^ 31) (hn : n < 2 ^ 31) : i.toInt32 = n.toInt32 ↔ i = n := by rw [← Int32.toInt_inj, n_int hi, n_int hn]; omega
theorem z_nat {z : Int32} (h : ¬ z < 0) : z = z.toNatClampNeg.toInt32 := (back32 h).1.symm
/-! chars -/
def lo8 (c : Int32) : Int32 := c.toInt8.toInt32
def Ch (cs : List Int32) : Prop := ∀ c ∈ cs, 0 ≤ c.toInt ∧ c.toInt ≤ 65535
def Lat (cs : List Int32) : Prop := ∀ c ∈ cs, c.toInt ≤ 255
def b8 (cs : List Int32) : List Value := cs.map fun c => .int (lo8 c)
def b16 (cs : List Int32) : List Value := cs.flatMap fun c => [.int (lo8 c), .int (lo8 (c >>> 8))]
def ints (cs : List Int32) : List Value := cs.map Value.int
theorem i2c_toInt (x : Int32) : x.toUInt32.toUInt16.toUInt32.toInt32.toInt = x.toInt % 65536 := by have := c_i2c x; omega
theorem i2c_id {x : Int32} (h0 : 0 ≤ x.toInt) (h1 : x.toInt ≤ 65535) : x.toUInt32.toUInt16.toUInt32.toInt32 = x := Int32.toInt_inj.mp (by rw [i2c_toInt]; omega)
theorem nar_i2c (x : Int32) : nar .char x.toUInt32.toUInt16.toUInt32.toInt32 = x.toUInt32.toUInt16.toUInt32.toInt32 := i2c_id (by rw [i2c_toInt]; omega) (by rw [i2c_toInt]; omega)
theorem nar_char {x : Int32} (h0 : 0 ≤ x.toInt) (h1 : x.toInt ≤ 65535) : nar .char x = x := i2c_id h0 h1
theorem b8_len (cs : List Int32) : (b8 cs).length = cs.length := by simp [b8]
theorem ints_len (cs : List Int32) : (ints cs).length = cs.length := by simp [ints]
theorem b16_len (cs : List Int32) : (b16 cs).length = 2 * cs.length := by
  induction cs with
  | nil => rfl
  | cons c r ih => simp only [b16, List.flatMap_cons, List.length_append, List.length_cons, List.length_nil] at ih ⊢; omega
theorem b16_at (cs : List Int32) : ∀ i, i < cs.length → (b16 cs).getD (2 * i) (.int 0) = .int (lo8 (cs.getD i 0)) ∧ (b16 cs).getD (2 * i + 1) (.int 0) = .int (lo8 (cs.getD i 0 >>> 8)) := by
  induction cs with
  | nil => intro i hi; exact absurd hi (Nat.not_lt_zero _)
  | cons c r ih =>
    intro i hi
    cases i with
    | zero => exact ⟨rfl, rfl⟩
    | succ j =>
      have q := ih j (by simpa using hi)
      exact q
theorem ints_at {cs : List Int32} {i : Nat} (h : i < cs.length) (d : Value) : (ints cs).getD i d = .int (cs.getD i 0) := by
  simp [ints, List.getD_eq_getElem?_getD, List.getElem?_map, List.getElem?_eq_getElem h]
theorem b8_at {cs : List Int32} {i : Nat} (h : i < cs.length) (d : Value) : (b8 cs).getD i d = .int (lo8 (cs.getD i 0)) := by
  simp [b8, List.getD_eq_getElem?_getD, List.getElem?_map, List.getElem?_eq_getElem h]
theorem ch_at {cs : List Int32} (H : Ch cs) {i : Nat} (h : i < cs.length) : 0 ≤ (cs.getD i 0).toInt ∧ (cs.getD i 0).toInt ≤ 65535 := by
  have : cs.getD i 0 = cs[i] := by simp [List.getD_eq_getElem?_getD, List.getElem?_eq_getElem h]
  rw [this]; exact H _ (List.getElem_mem h)
theorem lo8_toInt (c : Int32) : (lo8 c).toInt = c.toInt.bmod 256 := by
  show (c.toInt8.toInt32).toInt = _
  rw [Int8.toInt_toInt32, Int32.toInt_toInt8]
theorem and255 (x : Int32) : (x &&& 255).toInt = x.toInt % 256 := by
  have h : (x &&& 255).toBitVec.toNat = x.toBitVec.toNat % 256 := by
    show (x.toBitVec &&& (255 : Int32).toBitVec).toNat = _
    rw [BitVec.toNat_and, show (255 : Int32).toBitVec.toNat = 2 ^ 8 - 1 from by decide, Nat.and_two_pow_sub_one_eq_mod]
  have h2 : (x &&& 255).toInt = ((x &&& 255).toBitVec.toNat : Int) := by
    show (x &&& 255).toBitVec.toInt = _
    rw [BitVec.toInt_eq_toNat_cond, if_pos (by rw [h]; omega)]
  rw [h2, h]
  show ((x.toBitVec.toNat % 256 : Nat) : Int) = x.toBitVec.toInt % 256
  rw [BitVec.toInt_eq_toNat_cond]
  split <;> omega
theorem lo8_and (c : Int32) : (lo8 c &&& 255).toInt = c.toInt % 256 := by
  rw [and255, lo8_toInt]
  exact Int.bmod_emod
theorem lo8_mask {c : Int32} (h0 : 0 ≤ c.toInt) (h1 : c.toInt ≤ 255) : lo8 c &&& 255 = c := Int32.toInt_inj.mp (by rw [lo8_and]; omega)
/-- that a method's class is no interface says it of every method of that class -/
theorem nf_class {E : Gl} {y y' : MethodName} (nf : NotFace E.Z y') (w : (Cond.instanceMethod y').before E.a E.Z = true) (hc : y'.cls = y.cls) : NotFace E.Z y := fun r0 h0 => by
  obtain ⟨mk, _, hn, -⟩ := Cond.instanceMethod_spec w
  obtain ⟨kr, hk, hi⟩ := nf mk hn
  have q1 := findClass_of_methodNamed hn
  have q2 := findClass_of_methodNamed h0
  rw [hc] at q1
  have q3 : mk.cls = r0.cls := Option.some.inj (q1.symm.trans q2)
  exact ⟨kr, by rw [← q3]; exact hk, hi⟩
theorem nf_classW {E : Gl} {C : String} {y y' : MethodName} (w : (Cond.selects C y' y').before E.a E.Z = true) (w2 : (Cond.instanceMethod y').before E.a E.Z = true) (hc : y'.cls = y.cls) : ∀ s' : State, E.Z.Warmed39 s'.vm → NotFace s' y := fun s' hZ r0 h0 => by
  obtain ⟨mk, _, hn, -⟩ := Cond.instanceMethod_spec (args := E.a) (mvT hZ w2)
  obtain ⟨kr, hk, hi⟩ := nf_sel w s' hZ mk hn
  have q1 := findClass_of_methodNamed hn
  have q2 := findClass_of_methodNamed h0
  rw [hc] at q1
  have q3 : mk.cls = r0.cls := Option.some.inj (q1.symm.trans q2)
  exact ⟨kr, by rw [← q3]; exact hk, hi⟩
theorem ne_ge {h : Heap} {a b : Addr} (l : a < h.size) (g : h.size ≤ b) : a ≠ b := Nat.ne_of_lt (Nat.lt_of_lt_of_le l g)
theorem shr0 (n : Int32) : n >>> ((0 : Int32) &&& 31) = n := by
  rw [show (0 : Int32) &&& 31 = 0 from by decide]; exact Int32.shiftRight_zero
theorem shl0 (n : Int32) : n <<< ((0 : Int32) &&& 31) = n := by
  rw [show (0 : Int32) &&& 31 = 0 from by decide]; exact Int32.shiftLeft_zero
theorem arv_ne {Z : State} {h : Heap} {a b : Addr} {k k' : ClassId} {t t' : FieldType} {n n' : Int32} {vs vs' : List Value} {d d' : Value} (A : Arv Z h a k t n vs d) (A' : Arv Z h b k' t' n' vs' d') (q : n.toNatClampNeg ≠ n'.toNatClampNeg) : a ≠ b := by
  rintro rfl
  obtain ⟨c, B, -, s, -⟩ := A
  obtain ⟨c', B', -, s', -⟩ := A'
  cases B.1.symm.trans B'.1
  exact q (s.symm.trans s')
theorem fld_of {Z : State} {args : Array Value} {t : Term} {a : Addr} {C n d : String} {v : Value} (e1 : t.eval args Z none [] Z = some (.ref a)) (e2 : (Term.field t C n d).eval args Z none [] Z = some v) : Fld Z Z.heap a C n d v := Fld.start (by simpa [Term.eval, e1] using e2)
/-! longs compared -/
theorem cmpL_lt (x y : Int64) : XT.cmpL x y < 0 ↔ x < y := by
  unfold XT.cmpL; split <;> (try split) <;> simp_all [Int64.lt_iff_toInt_lt, ← Int64.toInt_inj] <;> omega
theorem cmpL_gt (x y : Int64) : 0 < XT.cmpL x y ↔ y < x := by
  unfold XT.cmpL; split <;> (try split) <;> simp_all [Int64.lt_iff_toInt_lt, ← Int64.toInt_inj] <;> omega
theorem cmpL_eq (x y : Int64) : XT.cmpL x y = 0 ↔ x = y := by
  unfold XT.cmpL; split <;> (try split) <;> simp_all [Int64.lt_iff_toInt_lt, ← Int64.toInt_inj] <;> omega
theorem len_of_eq {Z : State} {args : Array Value} {t : Term} {a : Addr} {c : Cell} {ty : FieldType} {k : Int32} (A : Arr Z Z.heap a c ty) (e : t.eval args Z none [] Z = some (.ref a)) (hl : (Cond.eq (.length t) (.int k)).value args Z none Z [] = some true) : c.slots.size < 2 ^ 31 ∧ c.slots.size.toInt32 = k := by
  have hA : Z.arrayAt? a = some c := A.fin (Vm.Alike.refl _)
  have hn : c.slots.size < 2 ^ 31 := by
    by_cases hn : c.slots.size < 2 ^ 31
    · exact hn
    · have hn' : ¬ c.slots.size < 2147483648 := hn
      simp [Cond.value, Term.eval, e, hA, hn'] at hl
  exact ⟨hn, gotT (Cond.eq_ints (len_f e hA hn) (Term.int_eval k)) hl⟩
end Jvm.Own
namespace Jvm.Own
open Sem ClassFile Op Lib Bundle Jvm.Stand Jvm.Free Jvm.LawKit Jvm.RoadKit
section CallsF
variable {E : Gl} {x : Cx} {T : State} {h : Heap} {F : List Addr} {cs ss : Nat} {own : String} {b : ByteArray} {ml : Nat} {R : Room} {ret : Option FieldType} {nm : String} {pc nx : Nat} {Ls : Array Slot} {st stk : List Value}
theorem w_interface (W : Wk E x T h F cs ss) (B : Is x own b ml R ret nm) {index cnt : Nat} {C : String} {y z : MethodName} {bytes : ByteArray} {maxL : Nat} {rt : Option FieldType} {rm : Room} {Q : Option Value → Heap → List Addr → Prop} {ps : List FieldType} {r : Option FieldType} {a : Addr} {argsL : List Value} {Wt : Nat} (d : D b pc (.invokeinterface index cnt) 5 nx)
    (w1 : (Cond.methodLink own index y).before E.a E.Z = true) (wd : (Cond.declares y).before E.a E.Z = true) (wf : (Cond.interfaceMethod y.cls y.cls y.name y.desc).before E.a E.Z = true) (hfa : ((Cond.interfaceMethod y.cls y.cls y.name y.desc).onTables && (Cond.interfaceMethod y.cls y.cls y.name y.desc).keepsFace) = true) (wsel : (Cond.selects C y z).before E.a E.Z = true) (w2 : (Cond.instanceMethod z).before E.a E.Z = true) (wp : (Cond.publicMethod z).before E.a E.Z = true) (wu : (Cond.unhidden C y.name y.desc).before E.a E.Z = true) (wca : (Cond.castable C y.cls).before E.a E.Z = true) (w3 : (Cond.initialized z.cls).before E.a E.Z = true) (w4 : (Cond.code z bytes maxL rt).before E.a E.Z = true) (hy : y.cls ≠ "java/lang/invoke/MethodHandle" ∧ y.cls ≠ "java/lang/invoke/VarHandle") (Ex : Exa E.Z h a C)
    (pd : parseMethodDescriptor y.desc = some ⟨ps, r⟩) (hl : argsL.length = ps.length) (hsz : Ls.size = ml) (hst : stk = argsL.reverse ++ .ref a :: st) (hW : (st.map fun v => v.category).sum ≤ Wt) (hM : Met E z bytes maxL rt rm (.ref a :: argsL).toArray h F Q)
    (hf : rm.frames + 1 ≤ R.frames) (hlo : Wt + (maxL + 11) + rm.locals ≤ R.locals) (hc : cs + rm.cells ≤ R.cells) (hs : ss + rm.slots ≤ R.slots)
    (hr : ∀ (T' : State) (h' : Heap) (F' : List Addr) (v : Option Value), Wk E x T' h' F' (cs + rm.cells) (ss + rm.slots) → Q v h' F' → G E x T' (fr x nx Ls (v.toList ++ st))) : G E x T (fr x pc Ls stk) := by
  obtain ⟨d1, rfl⟩ := d
  subst hst
  have W0 := W
  obtain ⟨vm, k, L, X, h1, h2, h3, h4, h5, h6, h7, h8, h9, h10⟩ := W
  have hown : vm.findClass own = some x.m.cls := by rw [h2.1.alike.findClass]; exact B.2.2.2.2.2.2.2
  obtain ⟨cB, kB, i1, i2, i3⟩ := isOf (s := x.s.setVm vm) h5 h1 Ex
  rw [← B.2.2.1] at hf hlo hc hs
  cases hw : E.w with
  | true =>
    obtain ⟨v, vm₁, ⟨BU, BL, Bc, Bs⟩, -, X', S', gr, P, stp⟩ := X.interfaceBackS B.2.2.2.2.2.2.1 hown (mvT (s := x.s.setVm vm) h5 w1) (mvT (s := x.s.setVm vm) h5 wd) (mvT (s := x.s.setVm vm) h5 wf hfa) (mvT (s := x.s.setVm vm) h5 wsel) (mvT (s := x.s.setVm vm) h5 w2) (mvT (s := x.s.setVm vm) h5 wp) (mvT (s := x.s.setVm vm) h5 wu) (mvT (s := x.s.setVm vm) h5 wca) hy (payS (len := 5) (W := Wt) hw hM h5 h7 h8.1 h9 h10 w4 w3 hf hlo) i1 i2 i3 (g := fr x pc Ls (argsL.reverse ++ .ref a :: st)) rfl (hsz.trans B.2.1.symm) (Steps.refl _) (lenOf pd hl) rfl (by show 2 * 0 + _ ≤ _; omega) (by rw [B.1]; exact d1) (fun vm₁ _ => ⟨rfl, h1, hc, hs⟩)
    obtain ⟨F', W', q⟩ := back_wk (vm := vm) W0 ⟨rfl, rfl, rfl⟩ h6 h8 h10 X' (foldS h2 (by rw [h1]; exact h3) S' gr) (Nat.le_refl _) (fun q => Bool.noConfusion (hw.symm.trans q)) (State.Warmed39.trans (t := x.s.setVm vm) h5 S'.1) P (Or.inl rfl)
    exact G.ofS stp (hr BU BU.heap F' v W' q)
  | false =>
    have e := h4 hw
    obtain ⟨v, vm₁, ⟨BU, BL, Bc, Bs⟩, -, X', P, stp⟩ := X.interfaceBack B.2.2.2.2.2.2.1 hown (mvT (s := x.s.setVm vm) h5 w1) (mvT (s := x.s.setVm vm) h5 wd) (mvT (s := x.s.setVm vm) h5 wf hfa) (mvT (s := x.s.setVm vm) h5 wsel) (mvT (s := x.s.setVm vm) h5 w2) (mvT (s := x.s.setVm vm) h5 wp) (mvT (s := x.s.setVm vm) h5 wu) (mvT (s := x.s.setVm vm) h5 wca) hy (payN (len := 5) (W := Wt) hw hM h5 h7 h8.1 h9 h10 w4 w3 hf hlo) i1 i2 i3 (g := fr x pc Ls (argsL.reverse ++ .ref a :: st)) rfl (hsz.trans B.2.1.symm) (Steps.refl _) (lenOf pd hl) rfl (by show 2 * 0 + _ ≤ _; omega) (by rw [B.1]; exact d1) (fun vm₁ _ => ⟨rfl, h1, hc, hs⟩)
    have gr : h.size ≤ BU.heap.size := by obtain ⟨_, _, _, _, _, _, c5, _⟩ := P; exact c5.2.1
    obtain ⟨F', W', q⟩ := back_wk (vm := vm) W0 ⟨rfl, rfl, rfl⟩ h6 h8 h10 X' h2 (Nat.le_trans h3 gr) h4 h5 P (Or.inr ⟨h10.2 hw, rfl⟩)
    exact G.ofS stp (hr BU BU.heap F' v W' q)
theorem w_private (W : Wk E x T h F cs ss) (B : Is x own b ml R ret nm) {index : Nat} {C : String} {y : MethodName} {bytes : ByteArray} {maxL : Nat} {rt : Option FieldType} {rm : Room} {Q : Option Value → Heap → List Addr → Prop} {ps : List FieldType} {r : Option FieldType} {a : Addr} {argsL : List Value} {Wt : Nat} (d : D b pc (.invokevirtual index) 3 nx)
    (w1 : (Cond.methodLink own index y).before E.a E.Z = true) (w2 : (Cond.instanceMethod y).before E.a E.Z = true) (wpr : (Cond.privateMethod y).before E.a E.Z = true) (nf : NotFace E.Z y) (w3 : (Cond.initialized y.cls).before E.a E.Z = true) (w4 : (Cond.code y bytes maxL rt).before E.a E.Z = true) (hy : y.cls ≠ "java/lang/invoke/MethodHandle" ∧ y.cls ≠ "java/lang/invoke/VarHandle") (Ex : Exa E.Z h a C)
    (pd : parseMethodDescriptor y.desc = some ⟨ps, r⟩) (hl : argsL.length = ps.length) (hsz : Ls.size = ml) (hst : stk = argsL.reverse ++ .ref a :: st) (hW : (st.map fun v => v.category).sum ≤ Wt) (hM : Met E y bytes maxL rt rm (.ref a :: argsL).toArray h F Q)
    (hf : rm.frames + 1 ≤ R.frames) (hlo : Wt + (maxL + 11) + rm.locals ≤ R.locals) (hc : cs + rm.cells ≤ R.cells) (hs : ss + rm.slots ≤ R.slots)
    (hr : ∀ (T' : State) (h' : Heap) (F' : List Addr) (v : Option Value), Wk E x T' h' F' (cs + rm.cells) (ss + rm.slots) → Q v h' F' → G E x T' (fr x nx Ls (v.toList ++ st))) : G E x T (fr x pc Ls stk) := by
  obtain ⟨d1, rfl⟩ := d
  subst hst
  have W0 := W
  obtain ⟨vm, k, L, X, h1, h2, h3, h4, h5, h6, h7, h8, h9, h10⟩ := W
  have hown : vm.findClass own = some x.m.cls := by rw [h2.1.alike.findClass]; exact B.2.2.2.2.2.2.2
  obtain ⟨cl, hcl, hst⟩ := Ex.cell
  have wsel0 : (Cond.selects y.cls y y).before E.a E.Z = true := by
    obtain ⟨mk, _, hn, -⟩ := Cond.instanceMethod_spec w2
    obtain ⟨kr, hk, hi⟩ := nf mk hn
    exact selects_self_of_private (findClass_of_methodNamed hn) hk hi (Cond.privateMethod_at wpr) w2 hy
  have wsel : (Cond.selects y.cls y y).before x.args (x.s.setVm vm) = true := mvT (s := x.s.setVm vm) h5 wsel0
  rw [← B.2.2.1] at hf hlo hc hs
  cases hw : E.w with
  | true =>
    obtain ⟨v, vm₁, ⟨BU, BL, Bc, Bs⟩, -, X', S', gr, P, stp⟩ := X.privateBackS B.2.2.2.2.2.2.1 hown (mvT (s := x.s.setVm vm) h5 w1) (mvT (s := x.s.setVm vm) h5 w2) wsel (Cond.privateMethod_at (mvP (s := x.s.setVm vm) (args := x.args) h5 wpr)) (mvT (s := x.s.setVm vm) h5 w4) hy (payS (len := 3) (W := Wt) hw hM h5 h7 h8.1 h9 h10 w4 w3 hf hlo) (g := fr x pc Ls (argsL.reverse ++ .ref a :: st)) rfl (hsz.trans B.2.1.symm) (Steps.refl _) (by rw [h1]; exact hcl) hst (lenOf pd hl) rfl (by show 2 * 0 + _ ≤ _; omega) (by rw [B.1]; exact d1) (fun vm₁ _ => ⟨rfl, h1, hc, hs⟩)
    obtain ⟨F', W', q⟩ := back_wk (vm := vm) W0 ⟨rfl, rfl, rfl⟩ h6 h8 h10 X' (foldS h2 (by rw [h1]; exact h3) S' gr) (Nat.le_refl _) (fun q => Bool.noConfusion (hw.symm.trans q)) (State.Warmed39.trans (t := x.s.setVm vm) h5 S'.1) P (Or.inl rfl)
    exact G.ofS stp (hr BU BU.heap F' v W' q)
  | false =>
    have e := h4 hw
    obtain ⟨v, vm₁, ⟨BU, BL, Bc, Bs⟩, -, X', P, stp⟩ := X.privateBack B.2.2.2.2.2.2.1 hown (mvT (s := x.s.setVm vm) h5 w1) (mvT (s := x.s.setVm vm) h5 w2) wsel (Cond.privateMethod_at (mvP (s := x.s.setVm vm) (args := x.args) h5 wpr)) (mvT (s := x.s.setVm vm) h5 w4) hy (payN (len := 3) (W := Wt) hw hM h5 h7 h8.1 h9 h10 w4 w3 hf hlo) (g := fr x pc Ls (argsL.reverse ++ .ref a :: st)) rfl (hsz.trans B.2.1.symm) (Steps.refl _) (by rw [h1]; exact hcl) hst (lenOf pd hl) rfl (by show 2 * 0 + _ ≤ _; omega) (by rw [B.1]; exact d1) (fun vm₁ _ => ⟨rfl, h1, hc, hs⟩)
    have gr : h.size ≤ BU.heap.size := by obtain ⟨_, _, _, _, _, _, c5, _⟩ := P; exact c5.2.1
    obtain ⟨F', W', q⟩ := back_wk (vm := vm) W0 ⟨rfl, rfl, rfl⟩ h6 h8 h10 X' h2 (Nat.le_trans h3 gr) h4 h5 P (Or.inr ⟨h10.2 hw, rfl⟩)
    exact G.ofS stp (hr BU BU.heap F' v W' q)
theorem w_super (W : Wk E x T h F cs ss) (B : Is x own b ml R ret nm) {index : Nat} {K : String} {y : MethodName} {bytes : ByteArray} {maxL : Nat} {rt : Option FieldType} {rm : Room} {Q : Option Value → Heap → List Addr → Prop} {ps : List FieldType} {r : Option FieldType} {a : Addr} {argsL : List Value} {Wt : Nat} (d : D b pc (.invokespecial index) 3 nx)
    (hn : y.name ≠ "<init>") (w1 : (Cond.methodLink own index y).before E.a E.Z = true) (w2 : (Cond.instanceMethod y).before E.a E.Z = true) (wsu : (Cond.superclass own y.cls).before E.a E.Z = true) (nf : NotFace E.Z y) (w3 : (Cond.initialized y.cls).before E.a E.Z = true) (w4 : (Cond.code y bytes maxL rt).before E.a E.Z = true) (hy : y.cls ≠ "java/lang/invoke/MethodHandle" ∧ y.cls ≠ "java/lang/invoke/VarHandle") (In : Ins E.Z h a K true)
    (pd : parseMethodDescriptor y.desc = some ⟨ps, r⟩) (hl : argsL.length = ps.length) (hsz : Ls.size = ml) (hst : stk = argsL.reverse ++ .ref a :: st) (hW : (st.map fun v => v.category).sum ≤ Wt) (hM : Met E y bytes maxL rt rm (.ref a :: argsL).toArray h F Q)
    (hf : rm.frames + 1 ≤ R.frames) (hlo : Wt + (maxL + 11) + rm.locals ≤ R.locals) (hc : cs + rm.cells ≤ R.cells) (hs : ss + rm.slots ≤ R.slots)
    (hr : ∀ (T' : State) (h' : Heap) (F' : List Addr) (v : Option Value), Wk E x T' h' F' (cs + rm.cells) (ss + rm.slots) → Q v h' F' → G E x T' (fr x nx Ls (v.toList ++ st))) : G E x T (fr x pc Ls stk) := by
  obtain ⟨d1, rfl⟩ := d
  subst hst
  have W0 := W
  obtain ⟨vm, k, L, X, h1, h2, h3, h4, h5, h6, h7, h8, h9, h10⟩ := W
  have hown : vm.findClass own = some x.m.cls := by rw [h2.1.alike.findClass]; exact B.2.2.2.2.2.2.2
  have wsm : (Cond.sameMethod y.cls y.cls y.name y.desc).before E.a E.Z = true := by
    obtain ⟨mk, _, hnm, -⟩ := Cond.instanceMethod_spec w2
    obtain ⟨kr, hk, hi⟩ := nf mk hnm
    have hc0 := findClass_of_methodNamed hnm
    have hf0 := State.methodFound?_of_named hnm hy
    have hnm' : E.Z.methodNamed? ⟨y.cls, y.name, y.desc⟩ = some mk := hnm
    simp [Cond.before, Cond.holds, Cond.value, hc0, hf0, hnm', hk, hi]
  rw [← B.2.2.1] at hf hlo hc hs
  cases hw : E.w with
  | true =>
    obtain ⟨v, vm₁, ⟨BU, BL, Bc, Bs⟩, -, X', S', gr, P, stp⟩ := superBackS X B.2.2.2.2.2.2.1 (s := x.s.setVm vm) h5 hown w1 wsm w2 wsu hn (payS (len := 3) (W := Wt) hw hM h5 h7 h8.1 h9 h10 w4 w3 hf hlo) h1 In (g := fr x pc Ls (argsL.reverse ++ .ref a :: st)) rfl (hsz.trans B.2.1.symm) w4 (lenOf pd hl) rfl (by show 2 * 0 + _ ≤ _; omega) (by rw [B.1]; exact d1) (fun vm₁ _ => ⟨rfl, h1, hc, hs⟩)
    obtain ⟨F', W', q⟩ := back_wk (vm := vm) W0 ⟨rfl, rfl, rfl⟩ h6 h8 h10 X' (foldS h2 (by rw [h1]; exact h3) S' gr) (Nat.le_refl _) (fun q => Bool.noConfusion (hw.symm.trans q)) (State.Warmed39.trans (t := x.s.setVm vm) h5 S'.1) P (Or.inl rfl)
    exact G.ofS stp (hr BU BU.heap F' v W' q)
  | false =>
    have e := h4 hw
    obtain ⟨v, vm₁, ⟨BU, BL, Bc, Bs⟩, -, X', P, stp⟩ := superBack X B.2.2.2.2.2.2.1 (s := x.s.setVm vm) h5 hown w1 wsm w2 wsu hn (payN (len := 3) (W := Wt) hw hM h5 h7 h8.1 h9 h10 w4 w3 hf hlo) h1 In (g := fr x pc Ls (argsL.reverse ++ .ref a :: st)) rfl (hsz.trans B.2.1.symm) w4 (lenOf pd hl) rfl (by show 2 * 0 + _ ≤ _; omega) (by rw [B.1]; exact d1) (fun vm₁ _ => ⟨rfl, h1, hc, hs⟩)
    have gr : h.size ≤ BU.heap.size := by obtain ⟨_, _, _, _, _, _, c5, _⟩ := P; exact c5.2.1
    obtain ⟨F', W', q⟩ := back_wk (vm := vm) W0 ⟨rfl, rfl, rfl⟩ h6 h8 h10 X' h2 (Nat.le_trans h3 gr) h4 h5 P (Or.inr ⟨h10.2 hw, rfl⟩)
    exact G.ofS stp (hr BU BU.heap F' v W' q)
theorem nf_z {E : Gl} {C : String} {y : MethodName} (w : (Cond.selects C y y).before E.a E.Z = true) : NotFace E.Z y := notFace_of_selects w
theorem w_aaloadC (W : Wk E x T h F cs ss) (B : Is x own b ml R ret nm) {a : Addr} {cl : Cell} {ty : FieldType} {j : Int32} {v : Value} (d : D b pc .aaload 1 nx) (hty : ty.isReference = true) (A : Arr E.Z h a cl ty) (hj : ¬ (j < 0 ∨ cl.slots.size ≤ j.toNatClampNeg)) (hv : cl.slots[j.toNatClampNeg]? = some v) (hr : G E x T (fr x nx Ls (v :: st))) : G E x T (fr x pc Ls (.int j :: .ref a :: st)) := by
  obtain ⟨d1, rfl⟩ := d
  obtain ⟨vm, L, X, e, hZ, hown, -, -⟩ := W.open B
  exact G.of (fun t r => X.aaload B.2.2.2.2.2.2.1 (by rw [e]; exact A.1) (State.isArrayOf_alike hZ.alike A.2.1) hty A.2.2 hj hv (g := fr x pc Ls (.int j :: .ref a :: st)) rfl rfl (by rw [B.1]; exact d1) t r) hr
theorem w_dup2L (W : Wk E x T h F cs ss) (B : Is x own b ml R ret nm) {v : Int64} (d : D b pc .dup2 1 nx) (hr : G E x T (fr x nx Ls (.long v :: .long v :: st))) : G E x T (fr x pc Ls (.long v :: st)) := by
  obtain ⟨d1, rfl⟩ := d; exact pstep W (fun _ A r => XT.dup2L A B.2.2.2.2.2.2.1 rfl (by rw [B.1]; exact d1) rfl r) hr
end CallsF
end Jvm.Own
namespace Jvm.Pilot.@@N@@
open Jvm Jvm.ClassFile Sem Op Lib Jvm.Free Jvm.Stand Jvm.LawKit Jvm.RoadKit Bundle Jvm.Pilot.@@N@@.Jvm.D Jvm.Own
def Tb (E : Gl) : Prop := (∀ c ∈ tables_1, c.before E.a E.Z = true) ∧ (∀ c ∈ jdkStatics_1, c.before E.a E.Z = true) ∧ E.w = true ∧ E.K = consts_1
theorem wd {E : Gl} (hw : Tb E) (k : Nat) {c : Jvm.Cond} (q : tables_1[k]? = some c) : c.before E.a E.Z = true := hw.1 c (List.mem_of_getElem? q)
theorem sd {E : Gl} (hw : Tb E) (k : Nat) {c : Jvm.Cond} (q : jdkStatics_1[k]? = some c) : c.before E.a E.Z = true := hw.2.1 c (List.mem_of_getElem? q)

theorem strAtoms {E : Gl} (hw : Tb E) : ∀ c ∈ Bundle.stringAtoms, c.before E.a E.Z = true := by
  intro c hc
  simp only [Bundle.stringAtoms, List.mem_cons, List.not_mem_nil, or_false] at hc
  rcases hc with rfl | rfl | rfl | rfl | rfl | rfl | rfl
  · exact (wd hw 13 rfl)
  · exact (wd hw 14 rfl)
  · exact (wd hw 15 rfl)
  · exact (wd hw 16 rfl)
  · exact (wd hw 17 rfl)
  · exact (wd hw 18 rfl)
  · exact (wd hw 19 rfl)
theorem d_cmp5_0 : Own.D jdk_52_method_21_code 0 (.iconst 0) 1 1 := ⟨by decide +kernel, rfl⟩
theorem d_cmp5_1 : Own.D jdk_52_method_21_code 1 (.istore 5) 2 3 := ⟨by decide +kernel, rfl⟩
theorem d_cmp5_3 : Own.D jdk_52_method_21_code 3 (.iload 5) 2 5 := ⟨by decide +kernel, rfl⟩
theorem d_cmp5_5 : Own.D jdk_52_method_21_code 5 (.iload 4) 2 7 := ⟨by decide +kernel, rfl⟩
theorem d_cmp5_7 : Own.J jdk_52_method_21_code 7 (.if_icmp .ge 37) 3 10 37 44 := ⟨by decide +kernel, rfl, by decide, by decide⟩
theorem d_cmp5_10 : Own.D jdk_52_method_21_code 10 (.aload_n 0) 1 11 := ⟨by decide +kernel, rfl⟩
theorem d_cmp5_11 : Own.D jdk_52_method_21_code 11 (.iload_n 1) 1 12 := ⟨by decide +kernel, rfl⟩
theorem d_cmp5_12 : Own.D jdk_52_method_21_code 12 .caload 1 13 := ⟨by decide +kernel, rfl⟩
theorem d_cmp5_13 : Own.D jdk_52_method_21_code 13 (.istore 6) 2 15 := ⟨by decide +kernel, rfl⟩
theorem d_cmp5_15 : Own.D jdk_52_method_21_code 15 (.iload 6) 2 17 := ⟨by decide +kernel, rfl⟩
theorem d_cmp5_17 : Own.D jdk_52_method_21_code 17 (.sipush 255) 3 20 := ⟨by decide +kernel, rfl⟩
theorem d_cmp5_20 : Own.J jdk_52_method_21_code 20 (.if_icmp .le 6) 3 23 6 26 := ⟨by decide +kernel, rfl, by decide, by decide⟩
theorem d_cmp5_23 : Own.D jdk_52_method_21_code 23 (.iload 5) 2 25 := ⟨by decide +kernel, rfl⟩
theorem d_cmp5_25 : Own.D jdk_52_method_21_code 25 .ireturn 1 26 := ⟨by decide +kernel, rfl⟩
theorem d_cmp5_26 : Own.D jdk_52_method_21_code 26 (.aload_n 2) 1 27 := ⟨by decide +kernel, rfl⟩
theorem d_cmp5_27 : Own.D jdk_52_method_21_code 27 (.iload_n 3) 1 28 := ⟨by decide +kernel, rfl⟩
theorem d_cmp5_28 : Own.D jdk_52_method_21_code 28 (.iload 6) 2 30 := ⟨by decide +kernel, rfl⟩
theorem d_cmp5_30 : Own.D jdk_52_method_21_code 30 .i2b 1 31 := ⟨by decide +kernel, rfl⟩
theorem d_cmp5_31 : Own.D jdk_52_method_21_code 31 .bastore 1 32 := ⟨by decide +kernel, rfl⟩
theorem d_cmp5_32 : Own.D jdk_52_method_21_code 32 (.iinc 1 1) 3 35 := ⟨by decide +kernel, rfl⟩
theorem d_cmp5_35 : Own.D jdk_52_method_21_code 35 (.iinc 3 1) 3 38 := ⟨by decide +kernel, rfl⟩
theorem d_cmp5_38 : Own.D jdk_52_method_21_code 38 (.iinc 5 1) 3 41 := ⟨by decide +kernel, rfl⟩
theorem d_cmp5_41 : Own.J jdk_52_method_21_code 41 (.goto (-38)) 3 44 (-38) 3 := ⟨by decide +kernel, rfl, by decide, by decide⟩
theorem d_cmp5_44 : Own.D jdk_52_method_21_code 44 (.iload 4) 2 46 := ⟨by decide +kernel, rfl⟩
theorem d_cmp5_46 : Own.D jdk_52_method_21_code 46 .ireturn 1 47 := ⟨by decide +kernel, rfl⟩
/-- what compress leaves: it stopped at i; the places before i hold the low bytes -/
def QC5 (E : Gl) (cs : List Int32) (n : Nat) (a d : Addr) (kd : ClassId) (h0 : Heap) (F : List Addr) (v : Option Value) (h : Heap) (F' : List Addr) : Prop :=
  ∃ (i : Nat) (vs : List Value), v = some (.int i.toInt32) ∧ F = F' ∧ i ≤ n ∧ (i < n → 255 < (cs.getD i 0).toInt) ∧ (∀ j, j < i → (cs.getD j 0).toInt ≤ 255) ∧ Keep h0 h [d] ∧ Arv E.Z h d kd .byte n.toInt32 vs (.int 0) ∧ vs.length = n ∧ ∀ j, j < i → vs.getD j (.int 0) = .int (lo8 (cs.getD j 0))
theorem nar_lo8 (c : Int32) : nar .byte (lo8 c) = lo8 c := Int32.toInt_inj.mp (by show (lo8 (lo8 c)).toInt = _; rw [lo8_toInt, lo8_toInt, Int.bmod_bmod])
theorem set_pre {vs : List Value} {n i : Nat} {f : Nat → Value} {u : Value} (hvl : vs.length = n) (hin : i < n) (hvs : ∀ j, j < i → vs.getD j (.int 0) = f j) (hu : u = f i := by rfl) : ∀ j, j < i + 1 → (vs.set i u).getD j (.int 0) = f j := by
  intro j hj
  rcases Nat.lt_succ_iff_lt_or_eq.mp hj with q | rfl
  · rw [List.getD_eq_getElem?_getD, List.getElem?_set_ne (by omega), ← List.getD_eq_getElem?_getD]; exact hvs j q
  · rw [List.getD_eq_getElem?_getD, List.getElem?_set_self (by omega)]; exact hu
set_option maxRecDepth 65536 in
set_option maxHeartbeats 4000000 in
theorem cmp5_turns {E : Gl} (hw : Tb E) {x : Cx} {a d : Addr} {ka kd : ClassId} {n : Nat} {cs : List Int32} {h0 : Heap} {F : List Addr} (hQ : x.Q = QC5 E cs n a d kd h0 F) (B : Is x "java/lang/StringUTF16" jdk_52_method_21_code 7 ({ frames := 0, cells := 0, slots := 0, locals := 0 } : Room) (some .int) "compress") (hcs : cs.length = n) (hn : n < 2 ^ 31) (had : a ≠ d) (hd : d ∈ F) :
    ∀ (r i : Nat) (T : State) (h : Heap) (s6 : Slot) (vs : List Value), i + r = n → LS s6 → Wk E x T h F 0 0 → Arv E.Z h a ka .char n.toInt32 (ints cs) (.int 0) → Arv E.Z h d kd .byte n.toInt32 vs (.int 0) → vs.length = n →
      (∀ j, j < i → vs.getD j (.int 0) = .int (lo8 (cs.getD j 0))) → (∀ j, j < i → (cs.getD j 0).toInt ≤ 255) → Keep h0 h [d] → G E x T (fr x 3 #[.val (.ref a), .val (.int i.toInt32), .val (.ref d), .val (.int i.toInt32), .val (.int n.toInt32), .val (.int i.toInt32), s6] []) := by
  intro r
  induction r with
  | zero =>
    intro i T h s6 vs hir hs6 W Aa Ad hvl hvs hlat hK
    have hie : i = n := by omega
    have hi31 : i < 2 ^ 31 := by omega
    refine w_iload W B d_cmp5_3 rfl ?_
    refine w_iload W B d_cmp5_5 rfl ?_
    refine w_icmp_ge W B d_cmp5_7 (fun _ => ?_) (fun q => absurd q (by rw [n_lt hi31 hn]; omega))
    show G E x T (fr x 44 #[.val (.ref a), .val (.int i.toInt32), .val (.ref d), .val (.int i.toInt32), .val (.int n.toInt32), .val (.int i.toInt32), s6] [])
    refine w_iload W B d_cmp5_44 rfl ?_
    exact w_ireturn W B d_cmp5_46 hQ (by decide) (by decide) (fun _ q => q) ⟨n, vs, rfl, rfl, Nat.le_refl _, fun q => absurd q (Nat.lt_irrefl _), fun j q => hlat j (by omega), hK, Ad, hvl, fun j q => hvs j (by omega)⟩
  | succ r ih =>
    intro i T h s6 vs hir hs6 W Aa Ad hvl hvs hlat hK
    have hin : i < n := by omega
    have hi31 : i < 2 ^ 31 := by omega
    refine w_iload W B d_cmp5_3 rfl ?_
    refine w_iload W B d_cmp5_5 rfl ?_
    refine w_icmp_ge W B d_cmp5_7 (fun q => q ((n_lt hi31 hn).mpr hin) |>.elim) (fun _ => ?_)
    show G E x T (fr x 10 #[.val (.ref a), .val (.int i.toInt32), .val (.ref d), .val (.int i.toInt32), .val (.int n.toInt32), .val (.int i.toInt32), s6] [])
    refine w_aloadN W B d_cmp5_10 rfl rfl ?_
    refine w_iloadN W B d_cmp5_11 rfl ?_
    refine w_caload W B d_cmp5_12 Aa ⟨n_nn hi31, (n_lt hi31 hn).mpr hin⟩ (v := .int (cs.getD i 0)) (by rw [n_clamp hi31]; exact ints_at (by rw [hcs]; exact hin) _) ?_
    refine w_istore W B d_cmp5_13 (Ls' := #[.val (.ref a), .val (.int i.toInt32), .val (.ref d), .val (.int i.toInt32), .val (.int n.toInt32), .val (.int i.toInt32), .val (.int (cs.getD i 0))]) (store_lit [.val (.ref a), .val (.int i.toInt32), .val (.ref d), .val (.int i.toInt32), .val (.int n.toInt32), .val (.int i.toInt32)] [] hs6 _) ?_
    refine w_iload W B d_cmp5_15 rfl ?_
    refine w_sipush W B d_cmp5_17 (v := (255 : Int32)) rfl ?_
    refine w_icmp_le W B d_cmp5_20 ?_ ?_
    · intro hc20
      show G E x T (fr x 26 #[.val (.ref a), .val (.int i.toInt32), .val (.ref d), .val (.int i.toInt32), .val (.int n.toInt32), .val (.int i.toInt32), .val (.int (cs.getD i 0))] [])
      refine w_aloadN W B d_cmp5_26 rfl rfl ?_
      refine w_iloadN W B d_cmp5_27 rfl ?_
      refine w_iload W B d_cmp5_28 rfl ?_
      refine w_i2b W B d_cmp5_30 ?_
      refine w_bastore W B d_cmp5_31 hd Ad ⟨n_nn hi31, (n_lt hi31 hn).mpr hin⟩ (i := i) (n_clamp hi31) (by rw [hvl]; exact hin) (u := lo8 (cs.getD i 0)) (nar_lo8 _) ?_
      intro T2 h2 W2 K2 A2
      show G E x T2 (fr x 32 #[.val (.ref a), .val (.int i.toInt32), .val (.ref d), .val (.int i.toInt32), .val (.int n.toInt32), .val (.int i.toInt32), .val (.int (cs.getD i 0))] [])
      refine w_iinc W2 B d_cmp5_32 rfl (w := (i + 1).toInt32) (n_succ i) (Ls' := #[.val (.ref a), .val (.int (i + 1).toInt32), .val (.ref d), .val (.int i.toInt32), .val (.int n.toInt32), .val (.int i.toInt32), .val (.int (cs.getD i 0))]) rfl ?_
      refine w_iinc W2 B d_cmp5_35 rfl (w := (i + 1).toInt32) (n_succ i) (Ls' := #[.val (.ref a), .val (.int (i + 1).toInt32), .val (.ref d), .val (.int (i + 1).toInt32), .val (.int n.toInt32), .val (.int i.toInt32), .val (.int (cs.getD i 0))]) rfl ?_
      refine w_iinc W2 B d_cmp5_38 rfl (w := (i + 1).toInt32) (n_succ i) (Ls' := #[.val (.ref a), .val (.int (i + 1).toInt32), .val (.ref d), .val (.int (i + 1).toInt32), .val (.int n.toInt32), .val (.int (i + 1).toInt32), .val (.int (cs.getD i 0))]) rfl ?_
      refine w_goto W2 B d_cmp5_41 ?_
      exact ih (i + 1) T2 h2 _ (vs.set i (.int (lo8 (cs.getD i 0)))) (by omega) (Or.inr ⟨_, rfl⟩) W2 (Aa.keep K2 (ninS had nin0)) A2 (by rw [List.length_set]; exact hvl) (set_pre hvl hin hvs)
        (fun j hj => by rcases Nat.lt_succ_iff_lt_or_eq.mp hj with q | rfl; exact hlat j q; exact Int.not_lt.mp fun q => hc20 (Int32.lt_iff_toInt_lt.mpr q)) (hK.trans K2 (allS (Or.inl (List.Mem.head _)) all0))
    · intro hc20
      show G E x T (fr x 23 #[.val (.ref a), .val (.int i.toInt32), .val (.ref d), .val (.int i.toInt32), .val (.int n.toInt32), .val (.int i.toInt32), .val (.int (cs.getD i 0))] [])
      refine w_iload W B d_cmp5_23 rfl ?_
      exact w_ireturn W B d_cmp5_25 hQ (by decide) (by decide) (fun _ q => q) ⟨i, vs, rfl, rfl, Nat.le_of_lt hin, fun _ => by have := Int32.lt_iff_toInt_lt.mp hc20; exact this, hlat, hK, Ad, hvl, hvs⟩
set_option maxRecDepth 65536 in
set_option maxHeartbeats 4000000 in
theorem cmp5_met {E : Gl} (hw : Tb E) {a d : Addr} {ka kd : ClassId} {n : Nat} {cs : List Int32} {vs : List Value} {h : Heap} {F : List Addr} (hcs : cs.length = n) (hn : n < 2 ^ 31) (had : a ≠ d) (hd : d ∈ F) (Aa : Arv E.Z h a ka .char n.toInt32 (ints cs) (.int 0)) (Ad : Arv E.Z h d kd .byte n.toInt32 vs (.int 0)) (hvl : vs.length = n) :
    Met E (⟨"java/lang/StringUTF16", "compress", "([CI[BII)I"⟩ : MethodName) jdk_52_method_21_code 7 (some .int) ({ frames := 0, cells := 0, slots := 0, locals := 0 } : Room) #[.ref a, .int 0, .ref d, .int 0, .int n.toInt32] h F (QC5 E cs n a d kd h F) := by
  refine met_of (by decide +kernel) fun x T hQ B W => ?_
  refine G.cast (g' := fr x 0 #[.val (.ref a), .val (.int 0), .val (.ref d), .val (.int 0), .val (.int n.toInt32), .unset, .unset] []) (by simp [entryFrame, mkF, argsToLocals, Own.cat_r, Own.cat_i, Own.cat_j, Own.cat_n]) ?_
  refine w_iconst W B d_cmp5_0 (v := (0 : Int32)) rfl ?_
  refine w_istore W B d_cmp5_1 (Ls' := #[.val (.ref a), .val (.int (0 : Int32)), .val (.ref d), .val (.int (0 : Int32)), .val (.int n.toInt32), .val (.int (0 : Int32)), .unset]) rfl ?_
  exact cmp5_turns hw hQ B hcs hn had hd n 0 T h .unset vs (Nat.zero_add n) (Or.inl rfl) W Aa Ad hvl (fun j q => absurd q (Nat.not_lt_zero _)) (fun j q => absurd q (Nat.not_lt_zero _)) (Keep.refl _ _)
/-- the String at s spells cs; v: its byte[] -/
def StrV (E : Gl) (h : Heap) (s v : Addr) (cs : List Int32) : Prop := ∃ k : ClassId, Exa E.Z h s "java/lang/String" ∧ Fld E.Z h s "java/lang/String" "value" "[B" (.ref v) ∧ Ch cs ∧
  ((Lat cs ∧ Fld E.Z h s "java/lang/String" "coder" "B" (.int 0) ∧ Arv E.Z h v k .byte cs.length.toInt32 (b8 cs) (.int 0)) ∨ (¬ Lat cs ∧ Fld E.Z h s "java/lang/String" "coder" "B" (.int 1) ∧ Arv E.Z h v k .byte (2 * cs.length).toInt32 (b16 cs) (.int 0)))
theorem StrV.ext {E : Gl} {h h' : Heap} {s v : Addr} {cs : List Int32} (F : StrV E h s v cs) (X : Ext h h') : StrV E h' s v cs := by
  obtain ⟨k, h1, h2, h3, h4⟩ := F
  exact ⟨k, h1.ext X, h2.ext X, h3, h4.imp (fun q => ⟨q.1, q.2.1.ext X, q.2.2.ext X⟩) (fun q => ⟨q.1, q.2.1.ext X, q.2.2.ext X⟩)⟩
theorem StrV.keep {E : Gl} {h h' : Heap} {s v : Addr} {cs : List Int32} {ws : List Addr} (F : StrV E h s v cs) (K : Keep h h' ws) (q1 : s ∉ ws) (q2 : v ∉ ws) : StrV E h' s v cs := by
  obtain ⟨k, h1, h2, h3, h4⟩ := F
  exact ⟨k, h1.keep K, h2.keep K q1, h3, h4.imp (fun q => ⟨q.1, q.2.1.keep K q1, q.2.2.keep K q2⟩) (fun q => ⟨q.1, q.2.1.keep K q1, q.2.2.keep K q2⟩)⟩
theorem StrV.exa {E : Gl} {h : Heap} {s v : Addr} {cs : List Int32} (F : StrV E h s v cs) : Exa E.Z h s "java/lang/String" := by obtain ⟨k, h1, -⟩ := F; exact h1
theorem StrV.lt {E : Gl} {h : Heap} {s v : Addr} {cs : List Int32} (F : StrV E h s v cs) : s < h.size := F.exa.lt
theorem StrV.ltv {E : Gl} {h : Heap} {s v : Addr} {cs : List Int32} (F : StrV E h s v cs) : v < h.size := by obtain ⟨k, h1, h2, h3, h4⟩ := F; rcases h4 with q | q; exact q.2.2.lt; exact q.2.2.lt
theorem compact {E : Gl} (hw : Tb E) : ∃ z : Int32, Sta E.Z E.Z.heap "java/lang/String" "COMPACT_STRINGS" "Z" (.int z) ∧ ¬ z = 0 := by
  obtain ⟨z, e⟩ := is_v (Cond.before_iff.mp (sd hw 1 rfl))
  exact ⟨z, Sta.start e (Or.inl (sd hw 0 rfl)), gotF (Cond.eq_ints e (Term.int_eval 0)) (not_v (Cond.before_iff.mp (sd hw 2 rfl)))⟩
/-- what a constructor of String leaves -/
def QStr (E : Gl) (cs : List Int32) (s : Addr) (h : Heap) (F : List Addr) (r : Option Value) (h' : Heap) (F' : List Addr) : Prop := r = none ∧ F = F' ∧ Keep h h' [s] ∧ ∃ v : Addr, StrV E h' s v cs ∧ ∀ y ∈ F, y ≠ v
theorem i32_of_mod {x : Int32} {y : Int} (h : (x.toInt - y) % 4294967296 = 0) (h0 : -2147483648 ≤ y) (h1 : y < 2147483648) : x.toInt = y := by
  have a := Int32.le_toInt x
  have b := Int32.toInt_lt x
  omega
theorem shl1 {i : Nat} (h : i ≤ 64) : i.toInt32 <<< ((1 : Int32) &&& 31) = (2 * i).toInt32 := by
  apply Int32.toInt_inj.mp
  have q := c_ishl i.toInt32 1 1 (by decide)
  rw [n_int (by omega)] at q
  rw [n_int (i := 2 * i) (by omega)]
  exact i32_of_mod (by omega) (by omega) (by omega)
theorem shr1 {i : Nat} (h : i ≤ 64) : (2 * i).toInt32 >>> ((1 : Int32) &&& 31) = i.toInt32 := by
  apply Int32.toInt_inj.mp
  rw [c_ishr _ 1 1 (by decide), n_int (by omega), n_int (by omega)]; omega
theorem shr8 {c : Int32} : (c >>> 8).toInt = c.toInt / 256 := by
  have q := c_ishr c 8 8 (by decide)
  rw [show (8 : Int32) &&& 31 = 8 from by decide] at q; rw [q]; rfl
theorem getc {c : Int32} (h0 : 0 ≤ c.toInt) (h1 : c.toInt ≤ 65535) : ((lo8 c &&& 255) <<< ((0 : Int32) &&& 31)) ||| ((lo8 (c >>> 8) &&& 255) <<< ((8 : Int32) &&& 31)) = c := by
  rw [shl0]
  have e1 : (lo8 c &&& 255).toInt = c.toInt % 256 := lo8_and c
  have e2 : (lo8 (c >>> 8) &&& 255).toInt = c.toInt / 256 := by rw [lo8_and, shr8]; omega
  have q := c_ishl (lo8 (c >>> 8) &&& 255) 8 8 (by decide)
  rw [e2] at q
  have e3 : ((lo8 (c >>> 8) &&& 255) <<< ((8 : Int32) &&& 31)).toInt = c.toInt / 256 * 256 := i32_of_mod (by omega) (by omega) (by omega)
  have r := c_or' (lo8 c &&& 255) ((lo8 (c >>> 8) &&& 255) <<< ((8 : Int32) &&& 31)) 8 (by decide) 256 (by decide) (by rw [e3]; omega) (by rw [e1]; omega) (by rw [e1]; omega)
  rw [e1, e3] at r
  apply Int32.toInt_inj.mp
  exact i32_of_mod (by omega) (by omega) (by omega)
/-- no surrogate stands alone -/
def WF (l : List Int32) : Prop := ∀ P : List Int32 → Prop, P [] → (∀ (c : Int32) (r : List Int32), 0 ≤ c.toInt → c.toInt ≤ 65535 → (c.toInt < 55296 ∨ 57343 < c.toInt) → P r → P (c :: r)) →
  (∀ (a b : Int32) (r : List Int32), 55296 ≤ a.toInt → a.toInt ≤ 56319 → 56320 ≤ b.toInt → b.toInt ≤ 57343 → P r → P (a :: b :: r)) → P l
theorem WF.nil : WF [] := fun _ p _ _ => p
theorem WF.one {c : Int32} {r : List Int32} (h0 : 0 ≤ c.toInt) (h1 : c.toInt ≤ 65535) (h2 : c.toInt < 55296 ∨ 57343 < c.toInt) (h : WF r) : WF (c :: r) := fun P p q s => q c r h0 h1 h2 (h P p q s)
theorem WF.two {a b : Int32} {r : List Int32} (h0 : 55296 ≤ a.toInt) (h1 : a.toInt ≤ 56319) (h2 : 56320 ≤ b.toInt) (h3 : b.toInt ≤ 57343) (h : WF r) : WF (a :: b :: r) := fun P p q s => s a b r h0 h1 h2 h3 (h P p q s)
theorem WF.inv {l : List Int32} (h : WF l) : l = [] ∨ (∃ (c : Int32) (r : List Int32), l = c :: r ∧ 0 ≤ c.toInt ∧ c.toInt ≤ 65535 ∧ (c.toInt < 55296 ∨ 57343 < c.toInt) ∧ WF r) ∨ (∃ (a b : Int32) (r : List Int32), l = a :: b :: r ∧ 55296 ≤ a.toInt ∧ a.toInt ≤ 56319 ∧ 56320 ≤ b.toInt ∧ b.toInt ≤ 57343 ∧ WF r) :=
  (h (fun l => WF l ∧ (l = [] ∨ (∃ (c : Int32) (r : List Int32), l = c :: r ∧ 0 ≤ c.toInt ∧ c.toInt ≤ 65535 ∧ (c.toInt < 55296 ∨ 57343 < c.toInt) ∧ WF r) ∨ (∃ (a b : Int32) (r : List Int32), l = a :: b :: r ∧ 55296 ≤ a.toInt ∧ a.toInt ≤ 56319 ∧ 56320 ≤ b.toInt ∧ b.toInt ≤ 57343 ∧ WF r)))
    ⟨WF.nil, Or.inl rfl⟩ (fun c r h0 h1 h2 hr => ⟨WF.one h0 h1 h2 hr.1, Or.inr (Or.inl ⟨c, r, rfl, h0, h1, h2, hr.1⟩)⟩) (fun a b r h0 h1 h2 h3 hr => ⟨WF.two h0 h1 h2 h3 hr.1, Or.inr (Or.inr ⟨a, b, r, rfl, h0, h1, h2, h3, hr.1⟩)⟩)).2
theorem WF.ch {cs : List Int32} (h : WF cs) : Ch cs := by
  refine h Ch (fun _ q => nomatch q) (fun c r h0 h1 _ ih q hq => ?_) (fun a b r h0 h1 h2 h3 ih q hq => ?_)
  · rcases List.mem_cons.mp hq with rfl | hq
    · exact ⟨h0, h1⟩
    · exact ih q hq
  · rcases List.mem_cons.mp hq with rfl | hq
    · omega
    · rcases List.mem_cons.mp hq with rfl | hq
      · omega
      · exact ih q hq
def Pair (a b : Int32) : Prop := (0 ≤ a.toInt ∧ a.toInt ≤ 65535) ∧ (0 ≤ b.toInt ∧ b.toInt ≤ 65535) ∧ ∀ r, WF r → WF (a :: b :: r)
def Pl (c : Int32) : Prop := 0 ≤ c.toInt ∧ c.toInt ≤ 65535 ∧ (c.toInt < 55296 ∨ 57343 < c.toInt)
theorem pair_pl {a b : Int32} (ha : Pl a) (hb : Pl b) : Pair a b := ⟨⟨ha.1, ha.2.1⟩, ⟨hb.1, hb.2.1⟩, fun _ h => WF.one ha.1 ha.2.1 ha.2.2 (WF.one hb.1 hb.2.1 hb.2.2 h)⟩
theorem drop_c {cs r : List Int32} {c : Int32} {i : Nat} (h : cs.drop i = c :: r) : i < cs.length ∧ cs.getD i 0 = c ∧ cs.drop (i + 1) = r := by
  have hi : i < cs.length := by
    apply Nat.lt_of_not_le
    intro q
    rw [List.drop_of_length_le q] at h; exact nomatch h
  rw [List.drop_eq_getElem_cons hi] at h
  injection h with h1 h2
  refine ⟨hi, ?_, h2⟩
  rw [List.getD_eq_getElem?_getD, List.getElem?_eq_getElem hi]; exact h1
theorem drop_n {cs : List Int32} {i : Nat} (h : cs.drop i = []) : cs.length ≤ i := List.drop_eq_nil_iff.mp h
def hi1 (c : Int32) : Prop := 55296 ≤ c.toInt ∧ c.toInt ≤ 56319
instance (c : Int32) : Decidable (hi1 c) := by unfold hi1; infer_instance
def toCp (a b : Int32) : Int32 := ((a <<< ((10 : Int32) &&& 31)) + b) + (-56613888 : Int32)
def cpt (cs : List Int32) (i : Nat) : Int32 := if hi1 (cs.getD i 0) then toCp (cs.getD i 0) (cs.getD (i + 1) 0) else cs.getD i 0
theorem toCp_big {a b : Int32} (ha : hi1 a) (h2 : 56320 ≤ b.toInt) (h3 : b.toInt ≤ 57343) : 65536 ≤ (toCp a b).toInt ∧ (toCp a b).toInt ≤ 1114111 := by
  obtain ⟨h0, h1⟩ := ha
  have q := c_ishl a 10 10 (by decide)
  have e1 : (a <<< ((10 : Int32) &&& 31)).toInt = a.toInt * 1024 := i32_of_mod (by omega) (by omega) (by omega)
  have e2 : ((a <<< ((10 : Int32) &&& 31)) + b).toInt = a.toInt * 1024 + b.toInt := by
    rw [Int32.toInt_add, e1]; exact Int.bmod_eq_of_le (by omega) (by omega)
  have e3 : (toCp a b).toInt = a.toInt * 1024 + b.toInt + -56613888 := by
    unfold toCp
    rw [Int32.toInt_add, e2, show (-56613888 : Int32).toInt = -56613888 from by decide]; exact Int.bmod_eq_of_le (by omega) (by omega)
  rw [e3]; omega
theorem pl_lo {x : Int32} (hx : 0 ≤ x.toInt ∧ x.toInt ≤ 65535) (h : x < 55296 ∨ 57343 < x) : Pl x.toUInt32.toUInt16.toUInt32.toInt32 := by
  rw [i2c_id hx.1 hx.2]
  refine ⟨hx.1, hx.2, h.imp ?_ ?_⟩ <;> exact fun q => Int32.lt_iff_toInt_lt.mp q
theorem pl_hi {x : Int32} (h1 : ¬ x < 55296) (h2 : ¬ 57343 < x) : Pl (x ^^^ 32768).toUInt32.toUInt16.toUInt32.toInt32 := by
  have q1 : 55296 ≤ x.toInt := Int.not_lt.mp fun q => h1 (Int32.lt_iff_toInt_lt.mpr q)
  have q2 : x.toInt ≤ 57343 := Int.not_lt.mp fun q => h2 (Int32.lt_iff_toInt_lt.mpr q)
  have r : ∀ k : Fin 2048, ((55296 + k.val).toInt32 ^^^ 32768).toInt = 22528 + k.val := by decide +kernel
  have e : x = (55296 + (⟨(x.toInt - 55296).toNat, by omega⟩ : Fin 2048).val).toInt32 := by
    apply Int32.toInt_inj.mp
    rw [n_int (by simp only; omega)]; simp only; omega
  have s := r ⟨(x.toInt - 55296).toNat, by omega⟩
  rw [← e] at s
  simp only at s
  exact pl_lo (by omega) (Or.inl (Int32.lt_iff_toInt_lt.mpr (by rw [s, show (55296 : Int32).toInt = 55296 from by decide]; omega)))
theorem and16 (x : Int32) : 0 ≤ (x &&& 65535).toInt ∧ (x &&& 65535).toInt ≤ 65535 := by
  rw [c_mask x 65535 16 (by decide) (by decide)]; omega
theorem and10 (x : Int64) : 0 ≤ ((x &&& 1023).toInt32).toInt ∧ ((x &&& 1023).toInt32).toInt ≤ 1023 := by
  have e := c_maskL x 1023 10 (by decide) (by decide)
  rw [Int64.toInt_toInt32, e, Int.bmod_eq_of_le (by omega) (by omega)]; omega
theorem or10 {a y : Int32} (ha : a.toInt % 1024 = 0) (h0 : 0 ≤ a.toInt) (h1 : a.toInt ≤ 64512) (hy : 0 ≤ y.toInt ∧ y.toInt ≤ 1023) : ((a ||| y).toUInt32.toUInt16.toUInt32.toInt32).toInt = a.toInt + y.toInt := by
  have r := c_or a y 10 (by decide) 1024 (by decide) ha hy.1 (by omega)
  have e : (a ||| y).toInt = a.toInt + y.toInt := i32_of_mod (by omega) (by omega) (by omega)
  rw [i2c_toInt, e]; omega
theorem pair_su (u w : Int64) : Pair ((55296 : Int32) ||| (u &&& 1023).toInt32).toUInt32.toUInt16.toUInt32.toInt32 ((56320 : Int32) ||| (w &&& 1023).toInt32).toUInt32.toUInt16.toUInt32.toInt32 := by
  have h1 := and10 u
  have h2 := and10 w
  have e1 := or10 (a := 55296) (by decide) (by decide) (by decide) h1
  have e2 := or10 (a := 56320) (by decide) (by decide) (by decide) h2
  rw [show (55296 : Int32).toInt = 55296 from by decide] at e1
  rw [show (56320 : Int32).toInt = 56320 from by decide] at e2
  exact ⟨by omega, by omega, fun _ h => WF.two (by omega) (by omega) (by omega) (by omega) h⟩
theorem cod16 {n : Nat} (h1 : 1 ≤ n) (h : n ≤ 32) : lo8 (lo8 (XT.ushr (n.toInt32 - (2 * n).toInt32) 31)) = 1 := by
  have q : ∀ n : Fin 33, 1 ≤ n.val → lo8 (lo8 (XT.ushr (n.val.toInt32 - (2 * n.val).toInt32) 31)) = 1 := by decide
  exact q ⟨n, by omega⟩ h1
theorem vs_b16 {vs : List Value} {cs : List Int32} {n : Nat} (hvl : vs.length = 2 * n) (hcs : cs.length = n) (hvs : ∀ j, j < n → vs.getD (2 * j) (.int 0) = .int (lo8 (cs.getD j 0)) ∧ vs.getD (2 * j + 1) (.int 0) = .int (lo8 (cs.getD j 0 >>> 8))) : vs = b16 cs := by
  apply List.ext_getElem (by rw [b16_len, hvl, hcs])
  intro j h1 h2
  have hq := hvs (j / 2) (by omega)
  have hr := b16_at cs (j / 2) (by omega)
  have e : vs.getD j (.int 0) = (b16 cs).getD j (.int 0) := by
    rcases Nat.mod_two_eq_zero_or_one j with q | q
    · rw [show 2 * (j / 2) = j from by omega] at hq hr; rw [hq.1, hr.1]
    · rw [show 2 * (j / 2) + 1 = j from by omega] at hq hr; rw [hq.2, hr.2]
  rw [List.getD_eq_getElem?_getD, List.getElem?_eq_getElem h1, List.getD_eq_getElem?_getD, List.getElem?_eq_getElem h2] at e
  exact e
theorem put_pre {vs : List Value} {n i : Nat} {f g : Nat → Value} (hvl : vs.length = 2 * n) (hi : i < n) (hvs : ∀ j, j < i → vs.getD (2 * j) (.int 0) = f j ∧ vs.getD (2 * j + 1) (.int 0) = g j) : ∀ j, j < i + 1 → ((vs.set (2 * i) (f i)).set (2 * i + 1) (g i)).getD (2 * j) (.int 0) = f j ∧ ((vs.set (2 * i) (f i)).set (2 * i + 1) (g i)).getD (2 * j + 1) (.int 0) = g j := by
  intro j hj
  rcases Nat.lt_succ_iff_lt_or_eq.mp hj with q | rfl
  · have := hvs j q
    simp only [List.getD_eq_getElem?_getD] at this ⊢
    rw [List.getElem?_set_ne (by omega), List.getElem?_set_ne (by omega), List.getElem?_set_ne (by omega), List.getElem?_set_ne (by omega)]; exact this
  · simp only [List.getD_eq_getElem?_getD]
    rw [List.getElem?_set_ne (by omega), List.getElem?_set_self (by omega), List.getElem?_set_self (by rw [List.length_set]; omega)]; exact ⟨rfl, rfl⟩
theorem u16a {E : Gl} (hw : Tb E) : Sta E.Z E.Z.heap "java/lang/StringUTF16" "$assertionsDisabled" "Z" (.int 1) := by
  have h := Cond.before_iff.mp (sd hw 12 rfl)
  obtain ⟨x, y, e1, e2, k1, k2⟩ := cmp_v (Or.inl h)
  cases (Term.int_eval 1).symm.trans e2
  obtain ⟨z, rfl⟩ : ∃ z, x = .int z := k2
  have q : z = 1 := gotT (Cond.eq_ints e1 (Term.int_eval 1)) h
  subst q
  exact Sta.start e1 (Or.inl (sd hw 11 rfl))
theorem u16h {E : Gl} (hw : Tb E) : Sta E.Z E.Z.heap "java/lang/StringUTF16" "HI_BYTE_SHIFT" "I" (.int 0) := by
  have h := Cond.before_iff.mp (sd hw 15 rfl)
  obtain ⟨x, y, e1, e2, k1, k2⟩ := cmp_v (Or.inl h)
  cases (Term.int_eval 0).symm.trans e2
  obtain ⟨z, rfl⟩ : ∃ z, x = .int z := k2
  have q : z = 0 := gotT (Cond.eq_ints e1 (Term.int_eval 0)) h
  subst q
  exact Sta.start e1 (Or.inl (sd hw 14 rfl))
theorem u16l {E : Gl} (hw : Tb E) : Sta E.Z E.Z.heap "java/lang/StringUTF16" "LO_BYTE_SHIFT" "I" (.int 8) := by
  have h := Cond.before_iff.mp (sd hw 18 rfl)
  obtain ⟨x, y, e1, e2, k1, k2⟩ := cmp_v (Or.inl h)
  cases (Term.int_eval 8).symm.trans e2
  obtain ⟨z, rfl⟩ : ∃ z, x = .int z := k2
  have q : z = 8 := gotT (Cond.eq_ints e1 (Term.int_eval 8)) h
  subst q
  exact Sta.start e1 (Or.inl (sd hw 17 rfl))
theorem pd___B147 : parseMethodDescriptor "()B" = some ⟨[], (some .byte)⟩ := by decide +kernel
theorem pd__I_I227 : parseMethodDescriptor "(I)I" = some ⟨[.int], (some .int)⟩ := by decide +kernel
theorem pd___BII_V470 : parseMethodDescriptor "([BII)V" = some ⟨[(.array .byte), .int, .int], none⟩ := by decide +kernel
theorem pd__I__B311 : parseMethodDescriptor "(I)[B" = some ⟨[.int], (some (.array .byte))⟩ := by decide +kernel
theorem pd___CI_BII_I688 : parseMethodDescriptor "([CI[BII)I" = some ⟨[(.array .char), .int, (.array .byte), .int, .int], (some .int)⟩ := by decide +kernel
theorem pd___CII__B542 : parseMethodDescriptor "([CII)[B" = some ⟨[(.array .char), .int, .int], (some (.array .byte))⟩ := by decide +kernel
theorem pd___BI_C378 : parseMethodDescriptor "([BI)C" = some ⟨[(.array .byte), .int], (some .char)⟩ := by decide +kernel
theorem pd___BI_B377 : parseMethodDescriptor "([BI)B" = some ⟨[(.array .byte), .int], (some .byte)⟩ := by decide +kernel
theorem pd___CIILjava_lang_Void__V941 : parseMethodDescriptor "([CIILjava/lang/Void;)V" = some ⟨[(.array .char), .int, .int, (.object "java/lang/Void")], none⟩ := by decide +kernel
theorem pd__IILjava_util_function_BiFunction__I328 : parseMethodDescriptor "(IILjava/util/function/BiFunction;)I" = some ⟨[.int, .int, (.object "java/util/function/BiFunction")], (some .int)⟩ := by decide +kernel
theorem pd__C_Z238 : parseMethodDescriptor "(C)Z" = some ⟨[.char], (some .boolean)⟩ := by decide +kernel
theorem pd__CC_I288 : parseMethodDescriptor "(CC)I" = some ⟨[.char, .char], (some .int)⟩ := by decide +kernel
theorem pd___BIIZ_I547 : parseMethodDescriptor "([BIIZ)I" = some ⟨[(.array .byte), .int, .int, .boolean], (some .int)⟩ := by decide +kernel
theorem pd___Z171 : parseMethodDescriptor "()Z" = some ⟨[], (some .boolean)⟩ := by decide +kernel
theorem pd__II_V313 : parseMethodDescriptor "(II)V" = some ⟨[.int, .int], none⟩ := by decide +kernel
theorem pd___BII_I457 : parseMethodDescriptor "([BII)I" = some ⟨[(.array .byte), .int, .int], (some .int)⟩ := by decide +kernel
theorem pd___I154 : parseMethodDescriptor "()I" = some ⟨[], (some .int)⟩ := by decide +kernel
theorem pd__I_C221 : parseMethodDescriptor "(I)C" = some ⟨[.int], (some .char)⟩ := by decide +kernel
theorem pd___CIJ_V472 : parseMethodDescriptor "([CIJ)V" = some ⟨[(.array .char), .int, .long], none⟩ := by decide +kernel
theorem pd__Ljava_lang_String_Ljava_lang_String__V568 : parseMethodDescriptor "(Ljava/lang/String;Ljava/lang/String;)V" = some ⟨[(.object "java/lang/String"), (.object "java/lang/String")], none⟩ := by decide +kernel
theorem pd___C_V325 : parseMethodDescriptor "([C)V" = some ⟨[(.array .char)], none⟩ := by decide +kernel
theorem d_cod_0 : Own.D jdk_52_method_15_code 0 (.iload_n 1) 1 1 := ⟨by decide +kernel, rfl⟩
theorem d_cod_1 : Own.D jdk_52_method_15_code 1 (.aload_n 0) 1 2 := ⟨by decide +kernel, rfl⟩
theorem d_cod_2 : Own.D jdk_52_method_15_code 2 .arraylength 1 3 := ⟨by decide +kernel, rfl⟩
theorem d_cod_3 : Own.D jdk_52_method_15_code 3 .isub 1 4 := ⟨by decide +kernel, rfl⟩
theorem d_cod_4 : Own.D jdk_52_method_15_code 4 (.bipush 31) 2 6 := ⟨by decide +kernel, rfl⟩
theorem d_cod_6 : Own.D jdk_52_method_15_code 6 .iushr 1 7 := ⟨by decide +kernel, rfl⟩
theorem d_cod_7 : Own.D jdk_52_method_15_code 7 .i2b 1 8 := ⟨by decide +kernel, rfl⟩
theorem d_cod_8 : Own.D jdk_52_method_15_code 8 .ireturn 1 9 := ⟨by decide +kernel, rfl⟩
theorem d_scod_0 : Own.D jdk_42_method_152_code 0 (.getstatic 38) 3 3 := ⟨by decide +kernel, rfl⟩
theorem d_scod_3 : Own.J jdk_42_method_152_code 3 (.ifCond .eq 10) 3 6 10 13 := ⟨by decide +kernel, rfl, by decide, by decide⟩
theorem d_scod_6 : Own.D jdk_42_method_152_code 6 (.aload_n 0) 1 7 := ⟨by decide +kernel, rfl⟩
theorem d_scod_7 : Own.D jdk_42_method_152_code 7 (.getfield 15) 3 10 := ⟨by decide +kernel, rfl⟩
theorem d_scod_10 : Own.J jdk_42_method_152_code 10 (.goto 4) 3 13 4 14 := ⟨by decide +kernel, rfl, by decide, by decide⟩
theorem d_scod_14 : Own.D jdk_42_method_152_code 14 .ireturn 1 15 := ⟨by decide +kernel, rfl⟩
theorem d_slat_0 : Own.D jdk_42_method_154_code 0 (.getstatic 38) 3 3 := ⟨by decide +kernel, rfl⟩
theorem d_slat_3 : Own.J jdk_42_method_154_code 3 (.ifCond .eq 14) 3 6 14 17 := ⟨by decide +kernel, rfl, by decide, by decide⟩
theorem d_slat_6 : Own.D jdk_42_method_154_code 6 (.aload_n 0) 1 7 := ⟨by decide +kernel, rfl⟩
theorem d_slat_7 : Own.D jdk_42_method_154_code 7 (.getfield 15) 3 10 := ⟨by decide +kernel, rfl⟩
theorem d_slat_10 : Own.J jdk_42_method_154_code 10 (.ifCond .ne 7) 3 13 7 17 := ⟨by decide +kernel, rfl, by decide, by decide⟩
theorem d_slat_13 : Own.D jdk_42_method_154_code 13 (.iconst 1) 1 14 := ⟨by decide +kernel, rfl⟩
theorem d_slat_14 : Own.J jdk_42_method_154_code 14 (.goto 4) 3 17 4 18 := ⟨by decide +kernel, rfl, by decide, by decide⟩
theorem d_slat_18 : Own.D jdk_42_method_154_code 18 .ireturn 1 19 := ⟨by decide +kernel, rfl⟩
theorem d_slat_17 : Own.D jdk_42_method_154_code 17 (.iconst 0) 1 18 := ⟨by decide +kernel, rfl⟩
theorem d_slen_0 : Own.D jdk_42_method_54_code 0 (.aload_n 0) 1 1 := ⟨by decide +kernel, rfl⟩
theorem d_slen_1 : Own.D jdk_42_method_54_code 1 (.getfield 9) 3 4 := ⟨by decide +kernel, rfl⟩
theorem d_slen_4 : Own.D jdk_42_method_54_code 4 .arraylength 1 5 := ⟨by decide +kernel, rfl⟩
theorem d_slen_5 : Own.D jdk_42_method_54_code 5 (.aload_n 0) 1 6 := ⟨by decide +kernel, rfl⟩
theorem d_slen_6 : Own.D jdk_42_method_54_code 6 (.invokevirtual 335) 3 9 := ⟨by decide +kernel, rfl⟩
theorem d_slen_9 : Own.D jdk_42_method_54_code 9 .ishr 1 10 := ⟨by decide +kernel, rfl⟩
theorem d_slen_10 : Own.D jdk_42_method_54_code 10 .ireturn 1 11 := ⟨by decide +kernel, rfl⟩
theorem d_nbl_0 : Own.D jdk_52_method_3_code 0 (.iload_n 0) 1 1 := ⟨by decide +kernel, rfl⟩
theorem d_nbl_1 : Own.J jdk_52_method_3_code 1 (.ifCond .ge 11) 3 4 11 12 := ⟨by decide +kernel, rfl, by decide, by decide⟩
theorem d_nbl_12 : Own.D jdk_52_method_3_code 12 (.iload_n 0) 1 13 := ⟨by decide +kernel, rfl⟩
theorem d_nbl_13 : Own.D jdk_52_method_3_code 13 (.ldc 20) 2 15 := ⟨by decide +kernel, rfl⟩
theorem d_nbl_15 : Own.J jdk_52_method_3_code 15 (.if_icmp .lt 40) 3 18 40 55 := ⟨by decide +kernel, rfl, by decide, by decide⟩
theorem d_nbl_55 : Own.D jdk_52_method_3_code 55 (.iload_n 0) 1 56 := ⟨by decide +kernel, rfl⟩
theorem d_nbl_56 : Own.D jdk_52_method_3_code 56 (.iconst 1) 1 57 := ⟨by decide +kernel, rfl⟩
theorem d_nbl_57 : Own.D jdk_52_method_3_code 57 .ishl 1 58 := ⟨by decide +kernel, rfl⟩
theorem d_nbl_58 : Own.D jdk_52_method_3_code 58 .ireturn 1 59 := ⟨by decide +kernel, rfl⟩
theorem d_nbf_0 : Own.D jdk_52_method_2_code 0 (.iload_n 0) 1 1 := ⟨by decide +kernel, rfl⟩
theorem d_nbf_1 : Own.D jdk_52_method_2_code 1 (.invokestatic 11) 3 4 := ⟨by decide +kernel, rfl⟩
theorem d_nbf_4 : Own.D jdk_52_method_2_code 4 (.newarray .byte) 2 6 := ⟨by decide +kernel, rfl⟩
theorem d_nbf_6 : Own.D jdk_52_method_2_code 6 .areturn 1 7 := ⟨by decide +kernel, rfl⟩
theorem d_ptc_0 : Own.D jdk_52_method_4_code 0 (.getstatic 44) 3 3 := ⟨by decide +kernel, rfl⟩
theorem d_ptc_3 : Own.J jdk_52_method_4_code 3 (.ifCond .ne 25) 3 6 25 28 := ⟨by decide +kernel, rfl, by decide, by decide⟩
theorem d_ptc_28 : Own.D jdk_52_method_4_code 28 (.iload_n 1) 1 29 := ⟨by decide +kernel, rfl⟩
theorem d_ptc_29 : Own.D jdk_52_method_4_code 29 (.iconst 1) 1 30 := ⟨by decide +kernel, rfl⟩
theorem d_ptc_30 : Own.D jdk_52_method_4_code 30 .ishl 1 31 := ⟨by decide +kernel, rfl⟩
theorem d_ptc_31 : Own.D jdk_52_method_4_code 31 (.istore_n 1) 1 32 := ⟨by decide +kernel, rfl⟩
theorem d_ptc_32 : Own.D jdk_52_method_4_code 32 (.aload_n 0) 1 33 := ⟨by decide +kernel, rfl⟩
theorem d_ptc_33 : Own.D jdk_52_method_4_code 33 (.iload_n 1) 1 34 := ⟨by decide +kernel, rfl⟩
theorem d_ptc_34 : Own.D jdk_52_method_4_code 34 (.iinc 1 1) 3 37 := ⟨by decide +kernel, rfl⟩
theorem d_ptc_37 : Own.D jdk_52_method_4_code 37 (.iload_n 2) 1 38 := ⟨by decide +kernel, rfl⟩
theorem d_ptc_38 : Own.D jdk_52_method_4_code 38 (.getstatic 59) 3 41 := ⟨by decide +kernel, rfl⟩
theorem d_ptc_41 : Own.D jdk_52_method_4_code 41 .ishr 1 42 := ⟨by decide +kernel, rfl⟩
theorem d_ptc_42 : Own.D jdk_52_method_4_code 42 .i2b 1 43 := ⟨by decide +kernel, rfl⟩
theorem d_ptc_43 : Own.D jdk_52_method_4_code 43 .bastore 1 44 := ⟨by decide +kernel, rfl⟩
theorem d_ptc_44 : Own.D jdk_52_method_4_code 44 (.aload_n 0) 1 45 := ⟨by decide +kernel, rfl⟩
theorem d_ptc_45 : Own.D jdk_52_method_4_code 45 (.iload_n 1) 1 46 := ⟨by decide +kernel, rfl⟩
theorem d_ptc_46 : Own.D jdk_52_method_4_code 46 (.iload_n 2) 1 47 := ⟨by decide +kernel, rfl⟩
theorem d_ptc_47 : Own.D jdk_52_method_4_code 47 (.getstatic 63) 3 50 := ⟨by decide +kernel, rfl⟩
theorem d_ptc_50 : Own.D jdk_52_method_4_code 50 .ishr 1 51 := ⟨by decide +kernel, rfl⟩
theorem d_ptc_51 : Own.D jdk_52_method_4_code 51 .i2b 1 52 := ⟨by decide +kernel, rfl⟩
theorem d_ptc_52 : Own.D jdk_52_method_4_code 52 .bastore 1 53 := ⟨by decide +kernel, rfl⟩
theorem d_ptc_53 : Own.D jdk_52_method_4_code 53 .return_ 1 54 := ⟨by decide +kernel, rfl⟩
theorem d_gtc_0 : Own.D jdk_52_method_5_code 0 (.getstatic 44) 3 3 := ⟨by decide +kernel, rfl⟩
theorem d_gtc_3 : Own.J jdk_52_method_5_code 3 (.ifCond .ne 25) 3 6 25 28 := ⟨by decide +kernel, rfl, by decide, by decide⟩
theorem d_gtc_28 : Own.D jdk_52_method_5_code 28 (.iload_n 1) 1 29 := ⟨by decide +kernel, rfl⟩
theorem d_gtc_29 : Own.D jdk_52_method_5_code 29 (.iconst 1) 1 30 := ⟨by decide +kernel, rfl⟩
theorem d_gtc_30 : Own.D jdk_52_method_5_code 30 .ishl 1 31 := ⟨by decide +kernel, rfl⟩
theorem d_gtc_31 : Own.D jdk_52_method_5_code 31 (.istore_n 1) 1 32 := ⟨by decide +kernel, rfl⟩
theorem d_gtc_32 : Own.D jdk_52_method_5_code 32 (.aload_n 0) 1 33 := ⟨by decide +kernel, rfl⟩
theorem d_gtc_33 : Own.D jdk_52_method_5_code 33 (.iload_n 1) 1 34 := ⟨by decide +kernel, rfl⟩
theorem d_gtc_34 : Own.D jdk_52_method_5_code 34 (.iinc 1 1) 3 37 := ⟨by decide +kernel, rfl⟩
theorem d_gtc_37 : Own.D jdk_52_method_5_code 37 .baload 1 38 := ⟨by decide +kernel, rfl⟩
theorem d_gtc_38 : Own.D jdk_52_method_5_code 38 (.sipush 255) 3 41 := ⟨by decide +kernel, rfl⟩
theorem d_gtc_41 : Own.D jdk_52_method_5_code 41 .iand 1 42 := ⟨by decide +kernel, rfl⟩
theorem d_gtc_42 : Own.D jdk_52_method_5_code 42 (.getstatic 59) 3 45 := ⟨by decide +kernel, rfl⟩
theorem d_gtc_45 : Own.D jdk_52_method_5_code 45 .ishl 1 46 := ⟨by decide +kernel, rfl⟩
theorem d_gtc_46 : Own.D jdk_52_method_5_code 46 (.aload_n 0) 1 47 := ⟨by decide +kernel, rfl⟩
theorem d_gtc_47 : Own.D jdk_52_method_5_code 47 (.iload_n 1) 1 48 := ⟨by decide +kernel, rfl⟩
theorem d_gtc_48 : Own.D jdk_52_method_5_code 48 .baload 1 49 := ⟨by decide +kernel, rfl⟩
theorem d_gtc_49 : Own.D jdk_52_method_5_code 49 (.sipush 255) 3 52 := ⟨by decide +kernel, rfl⟩
theorem d_gtc_52 : Own.D jdk_52_method_5_code 52 .iand 1 53 := ⟨by decide +kernel, rfl⟩
theorem d_gtc_53 : Own.D jdk_52_method_5_code 53 (.getstatic 63) 3 56 := ⟨by decide +kernel, rfl⟩
theorem d_gtc_56 : Own.D jdk_52_method_5_code 56 .ishl 1 57 := ⟨by decide +kernel, rfl⟩
theorem d_gtc_57 : Own.D jdk_52_method_5_code 57 .ior 1 58 := ⟨by decide +kernel, rfl⟩
theorem d_gtc_58 : Own.D jdk_52_method_5_code 58 .i2c 1 59 := ⟨by decide +kernel, rfl⟩
theorem d_gtc_59 : Own.D jdk_52_method_5_code 59 .ireturn 1 60 := ⟨by decide +kernel, rfl⟩
theorem d_tby_8 : Own.D jdk_52_method_14_code 8 (.iload 4) 2 10 := ⟨by decide +kernel, rfl⟩
theorem d_tby_10 : Own.D jdk_52_method_14_code 10 (.iload_n 2) 1 11 := ⟨by decide +kernel, rfl⟩
theorem d_tby_11 : Own.J jdk_52_method_14_code 11 (.if_icmp .ge 21) 3 14 21 32 := ⟨by decide +kernel, rfl, by decide, by decide⟩
theorem d_tby_32 : Own.D jdk_52_method_14_code 32 (.aload_n 3) 1 33 := ⟨by decide +kernel, rfl⟩
theorem d_tby_33 : Own.D jdk_52_method_14_code 33 .areturn 1 34 := ⟨by decide +kernel, rfl⟩
theorem d_tby_14 : Own.D jdk_52_method_14_code 14 (.aload_n 3) 1 15 := ⟨by decide +kernel, rfl⟩
theorem d_tby_15 : Own.D jdk_52_method_14_code 15 (.iload 4) 2 17 := ⟨by decide +kernel, rfl⟩
theorem d_tby_17 : Own.D jdk_52_method_14_code 17 (.aload_n 0) 1 18 := ⟨by decide +kernel, rfl⟩
theorem d_tby_18 : Own.D jdk_52_method_14_code 18 (.iload_n 1) 1 19 := ⟨by decide +kernel, rfl⟩
theorem d_tby_19 : Own.D jdk_52_method_14_code 19 .caload 1 20 := ⟨by decide +kernel, rfl⟩
theorem d_tby_20 : Own.D jdk_52_method_14_code 20 (.invokestatic 111) 3 23 := ⟨by decide +kernel, rfl⟩
theorem d_tby_23 : Own.D jdk_52_method_14_code 23 (.iinc 1 1) 3 26 := ⟨by decide +kernel, rfl⟩
theorem d_tby_26 : Own.D jdk_52_method_14_code 26 (.iinc 4 1) 3 29 := ⟨by decide +kernel, rfl⟩
theorem d_tby_29 : Own.J jdk_52_method_14_code 29 (.goto (-21)) 3 32 (-21) 8 := ⟨by decide +kernel, rfl, by decide, by decide⟩
theorem d_tby_0 : Own.D jdk_52_method_14_code 0 (.iload_n 2) 1 1 := ⟨by decide +kernel, rfl⟩
theorem d_tby_1 : Own.D jdk_52_method_14_code 1 (.invokestatic 107) 3 4 := ⟨by decide +kernel, rfl⟩
theorem d_tby_4 : Own.D jdk_52_method_14_code 4 (.astore_n 3) 1 5 := ⟨by decide +kernel, rfl⟩
theorem d_tby_5 : Own.D jdk_52_method_14_code 5 (.iconst 0) 1 6 := ⟨by decide +kernel, rfl⟩
theorem d_tby_6 : Own.D jdk_52_method_14_code 6 (.istore 4) 2 8 := ⟨by decide +kernel, rfl⟩
theorem d_cmp3_0 : Own.D jdk_52_method_16_code 0 (.iload_n 2) 1 1 := ⟨by decide +kernel, rfl⟩
theorem d_cmp3_1 : Own.D jdk_52_method_16_code 1 (.newarray .byte) 2 3 := ⟨by decide +kernel, rfl⟩
theorem d_cmp3_3 : Own.D jdk_52_method_16_code 3 (.astore_n 3) 1 4 := ⟨by decide +kernel, rfl⟩
theorem d_cmp3_4 : Own.D jdk_52_method_16_code 4 (.aload_n 0) 1 5 := ⟨by decide +kernel, rfl⟩
theorem d_cmp3_5 : Own.D jdk_52_method_16_code 5 (.iload_n 1) 1 6 := ⟨by decide +kernel, rfl⟩
theorem d_cmp3_6 : Own.D jdk_52_method_16_code 6 (.aload_n 3) 1 7 := ⟨by decide +kernel, rfl⟩
theorem d_cmp3_7 : Own.D jdk_52_method_16_code 7 (.iconst 0) 1 8 := ⟨by decide +kernel, rfl⟩
theorem d_cmp3_8 : Own.D jdk_52_method_16_code 8 (.iload_n 2) 1 9 := ⟨by decide +kernel, rfl⟩
theorem d_cmp3_9 : Own.D jdk_52_method_16_code 9 (.invokestatic 115) 3 12 := ⟨by decide +kernel, rfl⟩
theorem d_cmp3_12 : Own.D jdk_52_method_16_code 12 (.istore 4) 2 14 := ⟨by decide +kernel, rfl⟩
theorem d_cmp3_14 : Own.D jdk_52_method_16_code 14 (.iload 4) 2 16 := ⟨by decide +kernel, rfl⟩
theorem d_cmp3_16 : Own.D jdk_52_method_16_code 16 (.iload_n 2) 1 17 := ⟨by decide +kernel, rfl⟩
theorem d_cmp3_17 : Own.J jdk_52_method_16_code 17 (.if_icmp .eq 40) 3 20 40 57 := ⟨by decide +kernel, rfl, by decide, by decide⟩
theorem d_cmp3_57 : Own.D jdk_52_method_16_code 57 (.aload_n 3) 1 58 := ⟨by decide +kernel, rfl⟩
theorem d_cmp3_58 : Own.D jdk_52_method_16_code 58 .areturn 1 59 := ⟨by decide +kernel, rfl⟩
theorem d_cmp3_20 : Own.D jdk_52_method_16_code 20 (.aload_n 0) 1 21 := ⟨by decide +kernel, rfl⟩
theorem d_cmp3_21 : Own.D jdk_52_method_16_code 21 (.iload_n 1) 1 22 := ⟨by decide +kernel, rfl⟩
theorem d_cmp3_22 : Own.D jdk_52_method_16_code 22 (.iload_n 2) 1 23 := ⟨by decide +kernel, rfl⟩
theorem d_cmp3_23 : Own.D jdk_52_method_16_code 23 (.invokestatic 119) 3 26 := ⟨by decide +kernel, rfl⟩
theorem d_cmp3_26 : Own.D jdk_52_method_16_code 26 (.astore 5) 2 28 := ⟨by decide +kernel, rfl⟩
theorem d_cmp3_28 : Own.D jdk_52_method_16_code 28 (.aload 5) 2 30 := ⟨by decide +kernel, rfl⟩
theorem d_cmp3_30 : Own.D jdk_52_method_16_code 30 (.iload 4) 2 32 := ⟨by decide +kernel, rfl⟩
theorem d_cmp3_32 : Own.D jdk_52_method_16_code 32 (.invokestatic 71) 3 35 := ⟨by decide +kernel, rfl⟩
theorem d_cmp3_35 : Own.D jdk_52_method_16_code 35 (.sipush 255) 3 38 := ⟨by decide +kernel, rfl⟩
theorem d_cmp3_38 : Own.J jdk_52_method_16_code 38 (.if_icmp .gt 16) 3 41 16 54 := ⟨by decide +kernel, rfl, by decide, by decide⟩
theorem d_cmp3_54 : Own.D jdk_52_method_16_code 54 (.aload 5) 2 56 := ⟨by decide +kernel, rfl⟩
theorem d_cmp3_56 : Own.D jdk_52_method_16_code 56 .areturn 1 57 := ⟨by decide +kernel, rfl⟩
theorem d_ini4_0 : Own.D jdk_42_method_149_code 0 (.aload_n 0) 1 1 := ⟨by decide +kernel, rfl⟩
theorem d_ini4_1 : Own.D jdk_42_method_149_code 1 (.invokespecial 1) 3 4 := ⟨by decide +kernel, rfl⟩
theorem d_ini4_4 : Own.D jdk_42_method_149_code 4 (.iload_n 3) 1 5 := ⟨by decide +kernel, rfl⟩
theorem d_ini4_5 : Own.J jdk_42_method_149_code 5 (.ifCond .ne 22) 3 8 22 27 := ⟨by decide +kernel, rfl, by decide, by decide⟩
theorem d_ini4_27 : Own.D jdk_42_method_149_code 27 (.getstatic 38) 3 30 := ⟨by decide +kernel, rfl⟩
theorem d_ini4_30 : Own.J jdk_42_method_149_code 30 (.ifCond .eq 28) 3 33 28 58 := ⟨by decide +kernel, rfl, by decide, by decide⟩
theorem d_ini4_33 : Own.D jdk_42_method_149_code 33 (.aload_n 1) 1 34 := ⟨by decide +kernel, rfl⟩
theorem d_ini4_34 : Own.D jdk_42_method_149_code 34 (.iload_n 2) 1 35 := ⟨by decide +kernel, rfl⟩
theorem d_ini4_35 : Own.D jdk_42_method_149_code 35 (.iload_n 3) 1 36 := ⟨by decide +kernel, rfl⟩
theorem d_ini4_36 : Own.D jdk_42_method_149_code 36 (.invokestatic 177) 3 39 := ⟨by decide +kernel, rfl⟩
theorem d_ini4_39 : Own.D jdk_42_method_149_code 39 (.astore 5) 2 41 := ⟨by decide +kernel, rfl⟩
theorem d_ini4_41 : Own.D jdk_42_method_149_code 41 (.aload_n 0) 1 42 := ⟨by decide +kernel, rfl⟩
theorem d_ini4_42 : Own.D jdk_42_method_149_code 42 (.aload 5) 2 44 := ⟨by decide +kernel, rfl⟩
theorem d_ini4_44 : Own.D jdk_42_method_149_code 44 (.iload_n 3) 1 45 := ⟨by decide +kernel, rfl⟩
theorem d_ini4_45 : Own.D jdk_42_method_149_code 45 (.invokestatic 47) 3 48 := ⟨by decide +kernel, rfl⟩
theorem d_ini4_48 : Own.D jdk_42_method_149_code 48 (.putfield 15) 3 51 := ⟨by decide +kernel, rfl⟩
theorem d_ini4_51 : Own.D jdk_42_method_149_code 51 (.aload_n 0) 1 52 := ⟨by decide +kernel, rfl⟩
theorem d_ini4_52 : Own.D jdk_42_method_149_code 52 (.aload 5) 2 54 := ⟨by decide +kernel, rfl⟩
theorem d_ini4_54 : Own.D jdk_42_method_149_code 54 (.putfield 9) 3 57 := ⟨by decide +kernel, rfl⟩
theorem d_ini4_57 : Own.D jdk_42_method_149_code 57 .return_ 1 58 := ⟨by decide +kernel, rfl⟩
theorem d_ini1_0 : Own.D jdk_42_method_3_code 0 (.aload_n 0) 1 1 := ⟨by decide +kernel, rfl⟩
theorem d_ini1_1 : Own.D jdk_42_method_3_code 1 (.aload_n 1) 1 2 := ⟨by decide +kernel, rfl⟩
theorem d_ini1_2 : Own.D jdk_42_method_3_code 2 (.iconst 0) 1 3 := ⟨by decide +kernel, rfl⟩
theorem d_ini1_3 : Own.D jdk_42_method_3_code 3 (.aload_n 1) 1 4 := ⟨by decide +kernel, rfl⟩
theorem d_ini1_4 : Own.D jdk_42_method_3_code 4 .arraylength 1 5 := ⟨by decide +kernel, rfl⟩
theorem d_ini1_5 : Own.D jdk_42_method_3_code 5 .aconst_null 1 6 := ⟨by decide +kernel, rfl⟩
theorem d_ini1_6 : Own.D jdk_42_method_3_code 6 (.invokespecial 27) 3 9 := ⟨by decide +kernel, rfl⟩
theorem d_ini1_9 : Own.D jdk_42_method_3_code 9 .return_ 1 10 := ⟨by decide +kernel, rfl⟩
theorem d_pchk_0 : Own.D jdk_41_method_11_code 0 (.iload_n 0) 1 1 := ⟨by decide +kernel, rfl⟩
theorem d_pchk_1 : Own.J jdk_41_method_11_code 1 (.ifCond .lt 8) 3 4 8 9 := ⟨by decide +kernel, rfl, by decide, by decide⟩
theorem d_pchk_4 : Own.D jdk_41_method_11_code 4 (.iload_n 0) 1 5 := ⟨by decide +kernel, rfl⟩
theorem d_pchk_5 : Own.D jdk_41_method_11_code 5 (.iload_n 1) 1 6 := ⟨by decide +kernel, rfl⟩
theorem d_pchk_6 : Own.J jdk_41_method_11_code 6 (.if_icmp .lt 10) 3 9 10 16 := ⟨by decide +kernel, rfl, by decide, by decide⟩
theorem d_pchk_16 : Own.D jdk_41_method_11_code 16 (.iload_n 0) 1 17 := ⟨by decide +kernel, rfl⟩
theorem d_pchk_17 : Own.D jdk_41_method_11_code 17 .ireturn 1 18 := ⟨by decide +kernel, rfl⟩
theorem d_schk_0 : Own.D jdk_42_method_155_code 0 (.iload_n 0) 1 1 := ⟨by decide +kernel, rfl⟩
theorem d_schk_1 : Own.D jdk_42_method_155_code 1 (.iload_n 1) 1 2 := ⟨by decide +kernel, rfl⟩
theorem d_schk_2 : Own.D jdk_42_method_155_code 2 (.getstatic 1053) 3 5 := ⟨by decide +kernel, rfl⟩
theorem d_schk_5 : Own.D jdk_42_method_155_code 5 (.invokestatic 1059) 3 8 := ⟨by decide +kernel, rfl⟩
theorem d_schk_8 : Own.D jdk_42_method_155_code 8 .pop 1 9 := ⟨by decide +kernel, rfl⟩
theorem d_schk_9 : Own.D jdk_42_method_155_code 9 .return_ 1 10 := ⟨by decide +kernel, rfl⟩
theorem d_ihs_0 : Own.D jdk_89_method_14_code 0 (.iload_n 0) 1 1 := ⟨by decide +kernel, rfl⟩
theorem d_ihs_1 : Own.D jdk_89_method_14_code 1 (.ldc 75) 2 3 := ⟨by decide +kernel, rfl⟩
theorem d_ihs_3 : Own.J jdk_89_method_14_code 3 (.if_icmp .lt 13) 3 6 13 16 := ⟨by decide +kernel, rfl, by decide, by decide⟩
theorem d_ihs_6 : Own.D jdk_89_method_14_code 6 (.iload_n 0) 1 7 := ⟨by decide +kernel, rfl⟩
theorem d_ihs_7 : Own.D jdk_89_method_14_code 7 (.ldc 76) 2 9 := ⟨by decide +kernel, rfl⟩
theorem d_ihs_9 : Own.J jdk_89_method_14_code 9 (.if_icmp .ge 7) 3 12 7 16 := ⟨by decide +kernel, rfl, by decide, by decide⟩
theorem d_ihs_12 : Own.D jdk_89_method_14_code 12 (.iconst 1) 1 13 := ⟨by decide +kernel, rfl⟩
theorem d_ihs_13 : Own.J jdk_89_method_14_code 13 (.goto 4) 3 16 4 17 := ⟨by decide +kernel, rfl, by decide, by decide⟩
theorem d_ihs_17 : Own.D jdk_89_method_14_code 17 .ireturn 1 18 := ⟨by decide +kernel, rfl⟩
theorem d_ihs_16 : Own.D jdk_89_method_14_code 16 (.iconst 0) 1 17 := ⟨by decide +kernel, rfl⟩
theorem d_ils_0 : Own.D jdk_89_method_15_code 0 (.iload_n 0) 1 1 := ⟨by decide +kernel, rfl⟩
theorem d_ils_1 : Own.D jdk_89_method_15_code 1 (.ldc 76) 2 3 := ⟨by decide +kernel, rfl⟩
theorem d_ils_3 : Own.J jdk_89_method_15_code 3 (.if_icmp .lt 13) 3 6 13 16 := ⟨by decide +kernel, rfl, by decide, by decide⟩
theorem d_ils_6 : Own.D jdk_89_method_15_code 6 (.iload_n 0) 1 7 := ⟨by decide +kernel, rfl⟩
theorem d_ils_7 : Own.D jdk_89_method_15_code 7 (.ldc 77) 2 9 := ⟨by decide +kernel, rfl⟩
theorem d_ils_9 : Own.J jdk_89_method_15_code 9 (.if_icmp .ge 7) 3 12 7 16 := ⟨by decide +kernel, rfl, by decide, by decide⟩
theorem d_ils_12 : Own.D jdk_89_method_15_code 12 (.iconst 1) 1 13 := ⟨by decide +kernel, rfl⟩
theorem d_ils_13 : Own.J jdk_89_method_15_code 13 (.goto 4) 3 16 4 17 := ⟨by decide +kernel, rfl, by decide, by decide⟩
theorem d_ils_17 : Own.D jdk_89_method_15_code 17 .ireturn 1 18 := ⟨by decide +kernel, rfl⟩
theorem d_tcp_0 : Own.D jdk_89_method_19_code 0 (.iload_n 0) 1 1 := ⟨by decide +kernel, rfl⟩
theorem d_tcp_1 : Own.D jdk_89_method_19_code 1 (.bipush 10) 2 3 := ⟨by decide +kernel, rfl⟩
theorem d_tcp_3 : Own.D jdk_89_method_19_code 3 .ishl 1 4 := ⟨by decide +kernel, rfl⟩
theorem d_tcp_4 : Own.D jdk_89_method_19_code 4 (.iload_n 1) 1 5 := ⟨by decide +kernel, rfl⟩
theorem d_tcp_5 : Own.D jdk_89_method_19_code 5 .iadd 1 6 := ⟨by decide +kernel, rfl⟩
theorem d_tcp_6 : Own.D jdk_89_method_19_code 6 (.ldc 85) 2 8 := ⟨by decide +kernel, rfl⟩
theorem d_tcp_8 : Own.D jdk_89_method_19_code 8 .iadd 1 9 := ⟨by decide +kernel, rfl⟩
theorem d_tcp_9 : Own.D jdk_89_method_19_code 9 .ireturn 1 10 := ⟨by decide +kernel, rfl⟩
theorem d_chc_0 : Own.D jdk_89_method_18_code 0 (.iload_n 0) 1 1 := ⟨by decide +kernel, rfl⟩
theorem d_chc_1 : Own.D jdk_89_method_18_code 1 (.ldc 73) 2 3 := ⟨by decide +kernel, rfl⟩
theorem d_chc_3 : Own.J jdk_89_method_18_code 3 (.if_icmp .lt 7) 3 6 7 10 := ⟨by decide +kernel, rfl, by decide, by decide⟩
theorem d_chc_10 : Own.D jdk_89_method_18_code 10 (.iconst 1) 1 11 := ⟨by decide +kernel, rfl⟩
theorem d_chc_11 : Own.D jdk_89_method_18_code 11 .ireturn 1 12 := ⟨by decide +kernel, rfl⟩
theorem d_chc_6 : Own.D jdk_89_method_18_code 6 (.iconst 2) 1 7 := ⟨by decide +kernel, rfl⟩
theorem d_chc_7 : Own.J jdk_89_method_18_code 7 (.goto 4) 3 10 4 11 := ⟨by decide +kernel, rfl, by decide, by decide⟩
theorem d_cpz_0 : Own.D jdk_52_method_7_code 0 (.getstatic 44) 3 3 := ⟨by decide +kernel, rfl⟩
theorem d_cpz_3 : Own.J jdk_52_method_7_code 3 (.ifCond .ne 16) 3 6 16 19 := ⟨by decide +kernel, rfl, by decide, by decide⟩
theorem d_cpz_19 : Own.D jdk_52_method_7_code 19 (.iload_n 3) 1 20 := ⟨by decide +kernel, rfl⟩
theorem d_cpz_20 : Own.J jdk_52_method_7_code 20 (.ifCond .eq 8) 3 23 8 28 := ⟨by decide +kernel, rfl, by decide, by decide⟩
theorem d_cpz_28 : Own.D jdk_52_method_7_code 28 (.aload_n 0) 1 29 := ⟨by decide +kernel, rfl⟩
theorem d_cpz_29 : Own.D jdk_52_method_7_code 29 (.iload_n 1) 1 30 := ⟨by decide +kernel, rfl⟩
theorem d_cpz_30 : Own.D jdk_52_method_7_code 30 (.invokestatic 71) 3 33 := ⟨by decide +kernel, rfl⟩
theorem d_cpz_33 : Own.D jdk_52_method_7_code 33 (.istore 4) 2 35 := ⟨by decide +kernel, rfl⟩
theorem d_cpz_35 : Own.D jdk_52_method_7_code 35 (.iload 4) 2 37 := ⟨by decide +kernel, rfl⟩
theorem d_cpz_37 : Own.D jdk_52_method_7_code 37 (.invokestatic 75) 3 40 := ⟨by decide +kernel, rfl⟩
theorem d_cpz_40 : Own.J jdk_52_method_7_code 40 (.ifCond .eq 43) 3 43 43 83 := ⟨by decide +kernel, rfl, by decide, by decide⟩
theorem d_cpz_43 : Own.D jdk_52_method_7_code 43 (.iinc 1 1) 3 46 := ⟨by decide +kernel, rfl⟩
theorem d_cpz_46 : Own.D jdk_52_method_7_code 46 (.iload_n 1) 1 47 := ⟨by decide +kernel, rfl⟩
theorem d_cpz_47 : Own.D jdk_52_method_7_code 47 (.iload_n 2) 1 48 := ⟨by decide +kernel, rfl⟩
theorem d_cpz_48 : Own.J jdk_52_method_7_code 48 (.if_icmp .ge 35) 3 51 35 83 := ⟨by decide +kernel, rfl, by decide, by decide⟩
theorem d_cpz_51 : Own.D jdk_52_method_7_code 51 (.iload_n 3) 1 52 := ⟨by decide +kernel, rfl⟩
theorem d_cpz_52 : Own.J jdk_52_method_7_code 52 (.ifCond .eq 8) 3 55 8 60 := ⟨by decide +kernel, rfl, by decide, by decide⟩
theorem d_cpz_60 : Own.D jdk_52_method_7_code 60 (.aload_n 0) 1 61 := ⟨by decide +kernel, rfl⟩
theorem d_cpz_61 : Own.D jdk_52_method_7_code 61 (.iload_n 1) 1 62 := ⟨by decide +kernel, rfl⟩
theorem d_cpz_62 : Own.D jdk_52_method_7_code 62 (.invokestatic 71) 3 65 := ⟨by decide +kernel, rfl⟩
theorem d_cpz_65 : Own.D jdk_52_method_7_code 65 (.istore 5) 2 67 := ⟨by decide +kernel, rfl⟩
theorem d_cpz_67 : Own.D jdk_52_method_7_code 67 (.iload 5) 2 69 := ⟨by decide +kernel, rfl⟩
theorem d_cpz_69 : Own.D jdk_52_method_7_code 69 (.invokestatic 81) 3 72 := ⟨by decide +kernel, rfl⟩
theorem d_cpz_72 : Own.J jdk_52_method_7_code 72 (.ifCond .eq 11) 3 75 11 83 := ⟨by decide +kernel, rfl, by decide, by decide⟩
theorem d_cpz_75 : Own.D jdk_52_method_7_code 75 (.iload 4) 2 77 := ⟨by decide +kernel, rfl⟩
theorem d_cpz_77 : Own.D jdk_52_method_7_code 77 (.iload 5) 2 79 := ⟨by decide +kernel, rfl⟩
theorem d_cpz_79 : Own.D jdk_52_method_7_code 79 (.invokestatic 84) 3 82 := ⟨by decide +kernel, rfl⟩
theorem d_cpz_82 : Own.D jdk_52_method_7_code 82 .ireturn 1 83 := ⟨by decide +kernel, rfl⟩
theorem d_cpz_83 : Own.D jdk_52_method_7_code 83 (.iload 4) 2 85 := ⟨by decide +kernel, rfl⟩
theorem d_cpz_85 : Own.D jdk_52_method_7_code 85 .ireturn 1 86 := ⟨by decide +kernel, rfl⟩
theorem d_cpy_0 : Own.D jdk_52_method_8_code 0 (.aload_n 0) 1 1 := ⟨by decide +kernel, rfl⟩
theorem d_cpy_1 : Own.D jdk_52_method_8_code 1 (.iload_n 1) 1 2 := ⟨by decide +kernel, rfl⟩
theorem d_cpy_2 : Own.D jdk_52_method_8_code 2 (.iload_n 2) 1 3 := ⟨by decide +kernel, rfl⟩
theorem d_cpy_3 : Own.D jdk_52_method_8_code 3 (.iconst 0) 1 4 := ⟨by decide +kernel, rfl⟩
theorem d_cpy_4 : Own.D jdk_52_method_8_code 4 (.invokestatic 88) 3 7 := ⟨by decide +kernel, rfl⟩
theorem d_cpy_7 : Own.D jdk_52_method_8_code 7 .ireturn 1 8 := ⟨by decide +kernel, rfl⟩
theorem d_cpx_0 : Own.D jdk_42_method_57_code 0 (.aload_n 0) 1 1 := ⟨by decide +kernel, rfl⟩
theorem d_cpx_1 : Own.D jdk_42_method_57_code 1 (.invokevirtual 492) 3 4 := ⟨by decide +kernel, rfl⟩
theorem d_cpx_4 : Own.J jdk_42_method_57_code 4 (.ifCond .eq 23) 3 7 23 27 := ⟨by decide +kernel, rfl, by decide, by decide⟩
theorem d_cpx_7 : Own.D jdk_42_method_57_code 7 (.iload_n 1) 1 8 := ⟨by decide +kernel, rfl⟩
theorem d_cpx_8 : Own.D jdk_42_method_57_code 8 (.aload_n 0) 1 9 := ⟨by decide +kernel, rfl⟩
theorem d_cpx_9 : Own.D jdk_42_method_57_code 9 (.getfield 9) 3 12 := ⟨by decide +kernel, rfl⟩
theorem d_cpx_12 : Own.D jdk_42_method_57_code 12 .arraylength 1 13 := ⟨by decide +kernel, rfl⟩
theorem d_cpx_13 : Own.D jdk_42_method_57_code 13 (.invokestatic 499) 3 16 := ⟨by decide +kernel, rfl⟩
theorem d_cpx_16 : Own.D jdk_42_method_57_code 16 (.aload_n 0) 1 17 := ⟨by decide +kernel, rfl⟩
theorem d_cpx_17 : Own.D jdk_42_method_57_code 17 (.getfield 9) 3 20 := ⟨by decide +kernel, rfl⟩
theorem d_cpx_20 : Own.D jdk_42_method_57_code 20 (.iload_n 1) 1 21 := ⟨by decide +kernel, rfl⟩
theorem d_cpx_21 : Own.D jdk_42_method_57_code 21 .baload 1 22 := ⟨by decide +kernel, rfl⟩
theorem d_cpx_22 : Own.D jdk_42_method_57_code 22 (.sipush 255) 3 25 := ⟨by decide +kernel, rfl⟩
theorem d_cpx_25 : Own.D jdk_42_method_57_code 25 .iand 1 26 := ⟨by decide +kernel, rfl⟩
theorem d_cpx_26 : Own.D jdk_42_method_57_code 26 .ireturn 1 27 := ⟨by decide +kernel, rfl⟩
theorem d_cpx_27 : Own.D jdk_42_method_57_code 27 (.aload_n 0) 1 28 := ⟨by decide +kernel, rfl⟩
theorem d_cpx_28 : Own.D jdk_42_method_57_code 28 (.getfield 9) 3 31 := ⟨by decide +kernel, rfl⟩
theorem d_cpx_31 : Own.D jdk_42_method_57_code 31 .arraylength 1 32 := ⟨by decide +kernel, rfl⟩
theorem d_cpx_32 : Own.D jdk_42_method_57_code 32 (.iconst 1) 1 33 := ⟨by decide +kernel, rfl⟩
theorem d_cpx_33 : Own.D jdk_42_method_57_code 33 .ishr 1 34 := ⟨by decide +kernel, rfl⟩
theorem d_cpx_34 : Own.D jdk_42_method_57_code 34 (.istore_n 2) 1 35 := ⟨by decide +kernel, rfl⟩
theorem d_cpx_35 : Own.D jdk_42_method_57_code 35 (.iload_n 1) 1 36 := ⟨by decide +kernel, rfl⟩
theorem d_cpx_36 : Own.D jdk_42_method_57_code 36 (.iload_n 2) 1 37 := ⟨by decide +kernel, rfl⟩
theorem d_cpx_37 : Own.D jdk_42_method_57_code 37 (.invokestatic 499) 3 40 := ⟨by decide +kernel, rfl⟩
theorem d_cpx_40 : Own.D jdk_42_method_57_code 40 (.aload_n 0) 1 41 := ⟨by decide +kernel, rfl⟩
theorem d_cpx_41 : Own.D jdk_42_method_57_code 41 (.getfield 9) 3 44 := ⟨by decide +kernel, rfl⟩
theorem d_cpx_44 : Own.D jdk_42_method_57_code 44 (.iload_n 1) 1 45 := ⟨by decide +kernel, rfl⟩
theorem d_cpx_45 : Own.D jdk_42_method_57_code 45 (.iload_n 2) 1 46 := ⟨by decide +kernel, rfl⟩
theorem d_cpx_46 : Own.D jdk_42_method_57_code 46 (.invokestatic 502) 3 49 := ⟨by decide +kernel, rfl⟩
theorem d_cpx_49 : Own.D jdk_42_method_57_code 49 .ireturn 1 50 := ⟨by decide +kernel, rfl⟩
theorem d_req_2 : Own.D prog_14_method_20_code 2 (.iload_n 2) 1 3 := ⟨by decide +kernel, rfl⟩
theorem d_req_3 : Own.D prog_14_method_20_code 3 (.aload_n 0) 1 4 := ⟨by decide +kernel, rfl⟩
theorem d_req_4 : Own.D prog_14_method_20_code 4 (.invokevirtual 138) 3 7 := ⟨by decide +kernel, rfl⟩
theorem d_req_7 : Own.J prog_14_method_20_code 7 (.if_icmp .ge 66) 3 10 66 73 := ⟨by decide +kernel, rfl, by decide, by decide⟩
theorem d_req_73 : Own.D prog_14_method_20_code 73 .return_ 1 74 := ⟨by decide +kernel, rfl⟩
theorem d_req_10 : Own.D prog_14_method_20_code 10 (.aload_n 0) 1 11 := ⟨by decide +kernel, rfl⟩
theorem d_req_11 : Own.D prog_14_method_20_code 11 (.iload_n 2) 1 12 := ⟨by decide +kernel, rfl⟩
theorem d_req_12 : Own.D prog_14_method_20_code 12 (.invokevirtual 142) 3 15 := ⟨by decide +kernel, rfl⟩
theorem d_req_15 : Own.D prog_14_method_20_code 15 (.istore_n 3) 1 16 := ⟨by decide +kernel, rfl⟩
theorem d_req_16 : Own.D prog_14_method_20_code 16 (.iload_n 3) 1 17 := ⟨by decide +kernel, rfl⟩
theorem d_req_17 : Own.D prog_14_method_20_code 17 (.ldc 147) 2 19 := ⟨by decide +kernel, rfl⟩
theorem d_req_19 : Own.J prog_14_method_20_code 19 (.if_icmp .lt 44) 3 22 44 63 := ⟨by decide +kernel, rfl, by decide, by decide⟩
theorem d_req_63 : Own.D prog_14_method_20_code 63 (.iload_n 2) 1 64 := ⟨by decide +kernel, rfl⟩
theorem d_req_64 : Own.D prog_14_method_20_code 64 (.iload_n 3) 1 65 := ⟨by decide +kernel, rfl⟩
theorem d_req_65 : Own.D prog_14_method_20_code 65 (.invokestatic 160) 3 68 := ⟨by decide +kernel, rfl⟩
theorem d_req_68 : Own.D prog_14_method_20_code 68 .iadd 1 69 := ⟨by decide +kernel, rfl⟩
theorem d_req_69 : Own.D prog_14_method_20_code 69 (.istore_n 2) 1 70 := ⟨by decide +kernel, rfl⟩
theorem d_req_70 : Own.J prog_14_method_20_code 70 (.goto (-68)) 3 73 (-68) 2 := ⟨by decide +kernel, rfl, by decide, by decide⟩
theorem d_req_22 : Own.D prog_14_method_20_code 22 (.iload_n 3) 1 23 := ⟨by decide +kernel, rfl⟩
theorem d_req_23 : Own.D prog_14_method_20_code 23 (.ldc 148) 2 25 := ⟨by decide +kernel, rfl⟩
theorem d_req_25 : Own.J prog_14_method_20_code 25 (.if_icmp .gt 38) 3 28 38 63 := ⟨by decide +kernel, rfl, by decide, by decide⟩
theorem d_req_0 : Own.D prog_14_method_20_code 0 (.iconst 0) 1 1 := ⟨by decide +kernel, rfl⟩
theorem d_req_1 : Own.D prog_14_method_20_code 1 (.istore_n 2) 1 2 := ⟨by decide +kernel, rfl⟩
theorem d_pln_0 : Own.D method_3_code 0 (.iload_n 0) 1 1 := ⟨by decide +kernel, rfl⟩
theorem d_pln_1 : Own.D method_3_code 1 (.ldc 32) 2 3 := ⟨by decide +kernel, rfl⟩
theorem d_pln_3 : Own.D method_3_code 3 .iand 1 4 := ⟨by decide +kernel, rfl⟩
theorem d_pln_4 : Own.D method_3_code 4 (.istore_n 1) 1 5 := ⟨by decide +kernel, rfl⟩
theorem d_pln_5 : Own.D method_3_code 5 (.iload_n 1) 1 6 := ⟨by decide +kernel, rfl⟩
theorem d_pln_6 : Own.D method_3_code 6 (.ldc 33) 2 8 := ⟨by decide +kernel, rfl⟩
theorem d_pln_8 : Own.J method_3_code 8 (.if_icmp .lt 14) 3 11 14 22 := ⟨by decide +kernel, rfl, by decide, by decide⟩
theorem d_pln_22 : Own.D method_3_code 22 (.iload_n 1) 1 23 := ⟨by decide +kernel, rfl⟩
theorem d_pln_23 : Own.D method_3_code 23 .i2c 1 24 := ⟨by decide +kernel, rfl⟩
theorem d_pln_24 : Own.D method_3_code 24 .ireturn 1 25 := ⟨by decide +kernel, rfl⟩
theorem d_pln_11 : Own.D method_3_code 11 (.iload_n 1) 1 12 := ⟨by decide +kernel, rfl⟩
theorem d_pln_12 : Own.D method_3_code 12 (.ldc 34) 2 14 := ⟨by decide +kernel, rfl⟩
theorem d_pln_14 : Own.J method_3_code 14 (.if_icmp .gt 8) 3 17 8 22 := ⟨by decide +kernel, rfl, by decide, by decide⟩
theorem d_pln_17 : Own.D method_3_code 17 (.iload_n 1) 1 18 := ⟨by decide +kernel, rfl⟩
theorem d_pln_18 : Own.D method_3_code 18 (.ldc 35) 2 20 := ⟨by decide +kernel, rfl⟩
theorem d_pln_20 : Own.D method_3_code 20 .ixor 1 21 := ⟨by decide +kernel, rfl⟩
theorem d_pln_21 : Own.D method_3_code 21 (.istore_n 1) 1 22 := ⟨by decide +kernel, rfl⟩
theorem d_unt_0 : Own.D method_4_code 0 (.lload_n 2) 1 1 := ⟨by decide +kernel, rfl⟩
theorem d_unt_1 : Own.D method_4_code 1 (.lconst 1) 1 2 := ⟨by decide +kernel, rfl⟩
theorem d_unt_2 : Own.D method_4_code 2 .land 1 3 := ⟨by decide +kernel, rfl⟩
theorem d_unt_3 : Own.D method_4_code 3 (.lconst 0) 1 4 := ⟨by decide +kernel, rfl⟩
theorem d_unt_4 : Own.D method_4_code 4 .lcmp 1 5 := ⟨by decide +kernel, rfl⟩
theorem d_unt_5 : Own.J method_4_code 5 (.ifCond .ne 29) 3 8 29 34 := ⟨by decide +kernel, rfl, by decide, by decide⟩
theorem d_unt_34 : Own.D method_4_code 34 (.aload_n 0) 1 35 := ⟨by decide +kernel, rfl⟩
theorem d_unt_35 : Own.D method_4_code 35 (.iload_n 1) 1 36 := ⟨by decide +kernel, rfl⟩
theorem d_unt_36 : Own.D method_4_code 36 (.ldc 33) 2 38 := ⟨by decide +kernel, rfl⟩
theorem d_unt_38 : Own.D method_4_code 38 (.lload_n 2) 1 39 := ⟨by decide +kernel, rfl⟩
theorem d_unt_39 : Own.D method_4_code 39 (.iconst 1) 1 40 := ⟨by decide +kernel, rfl⟩
theorem d_unt_40 : Own.D method_4_code 40 .lushr 1 41 := ⟨by decide +kernel, rfl⟩
theorem d_unt_41 : Own.D method_4_code 41 (.ldc2_w 36) 3 44 := ⟨by decide +kernel, rfl⟩
theorem d_unt_44 : Own.D method_4_code 44 .land 1 45 := ⟨by decide +kernel, rfl⟩
theorem d_unt_45 : Own.D method_4_code 45 .l2i 1 46 := ⟨by decide +kernel, rfl⟩
theorem d_unt_46 : Own.D method_4_code 46 .ior 1 47 := ⟨by decide +kernel, rfl⟩
theorem d_unt_47 : Own.D method_4_code 47 .i2c 1 48 := ⟨by decide +kernel, rfl⟩
theorem d_unt_48 : Own.D method_4_code 48 .castore 1 49 := ⟨by decide +kernel, rfl⟩
theorem d_unt_49 : Own.D method_4_code 49 (.aload_n 0) 1 50 := ⟨by decide +kernel, rfl⟩
theorem d_unt_50 : Own.D method_4_code 50 (.iload_n 1) 1 51 := ⟨by decide +kernel, rfl⟩
theorem d_unt_51 : Own.D method_4_code 51 (.iconst 1) 1 52 := ⟨by decide +kernel, rfl⟩
theorem d_unt_52 : Own.D method_4_code 52 .iadd 1 53 := ⟨by decide +kernel, rfl⟩
theorem d_unt_53 : Own.D method_4_code 53 (.ldc 38) 2 55 := ⟨by decide +kernel, rfl⟩
theorem d_unt_55 : Own.D method_4_code 55 (.lload_n 2) 1 56 := ⟨by decide +kernel, rfl⟩
theorem d_unt_56 : Own.D method_4_code 56 (.bipush 11) 2 58 := ⟨by decide +kernel, rfl⟩
theorem d_unt_58 : Own.D method_4_code 58 .lushr 1 59 := ⟨by decide +kernel, rfl⟩
theorem d_unt_59 : Own.D method_4_code 59 (.ldc2_w 36) 3 62 := ⟨by decide +kernel, rfl⟩
theorem d_unt_62 : Own.D method_4_code 62 .land 1 63 := ⟨by decide +kernel, rfl⟩
theorem d_unt_63 : Own.D method_4_code 63 .l2i 1 64 := ⟨by decide +kernel, rfl⟩
theorem d_unt_64 : Own.D method_4_code 64 .ior 1 65 := ⟨by decide +kernel, rfl⟩
theorem d_unt_65 : Own.D method_4_code 65 .i2c 1 66 := ⟨by decide +kernel, rfl⟩
theorem d_unt_66 : Own.D method_4_code 66 .castore 1 67 := ⟨by decide +kernel, rfl⟩
theorem d_unt_67 : Own.D method_4_code 67 .return_ 1 68 := ⟨by decide +kernel, rfl⟩
theorem d_unt_8 : Own.D method_4_code 8 (.aload_n 0) 1 9 := ⟨by decide +kernel, rfl⟩
theorem d_unt_9 : Own.D method_4_code 9 (.iload_n 1) 1 10 := ⟨by decide +kernel, rfl⟩
theorem d_unt_10 : Own.D method_4_code 10 (.lload_n 2) 1 11 := ⟨by decide +kernel, rfl⟩
theorem d_unt_11 : Own.D method_4_code 11 (.iconst 1) 1 12 := ⟨by decide +kernel, rfl⟩
theorem d_unt_12 : Own.D method_4_code 12 .lushr 1 13 := ⟨by decide +kernel, rfl⟩
theorem d_unt_13 : Own.D method_4_code 13 .l2i 1 14 := ⟨by decide +kernel, rfl⟩
theorem d_unt_14 : Own.D method_4_code 14 (.invokestatic 13) 3 17 := ⟨by decide +kernel, rfl⟩
theorem d_unt_17 : Own.D method_4_code 17 .castore 1 18 := ⟨by decide +kernel, rfl⟩
theorem d_unt_18 : Own.D method_4_code 18 (.aload_n 0) 1 19 := ⟨by decide +kernel, rfl⟩
theorem d_unt_19 : Own.D method_4_code 19 (.iload_n 1) 1 20 := ⟨by decide +kernel, rfl⟩
theorem d_unt_20 : Own.D method_4_code 20 (.iconst 1) 1 21 := ⟨by decide +kernel, rfl⟩
theorem d_unt_21 : Own.D method_4_code 21 .iadd 1 22 := ⟨by decide +kernel, rfl⟩
theorem d_unt_22 : Own.D method_4_code 22 (.lload_n 2) 1 23 := ⟨by decide +kernel, rfl⟩
theorem d_unt_23 : Own.D method_4_code 23 (.bipush 17) 2 25 := ⟨by decide +kernel, rfl⟩
theorem d_unt_25 : Own.D method_4_code 25 .lushr 1 26 := ⟨by decide +kernel, rfl⟩
theorem d_unt_26 : Own.D method_4_code 26 .l2i 1 27 := ⟨by decide +kernel, rfl⟩
theorem d_unt_27 : Own.D method_4_code 27 (.invokestatic 13) 3 30 := ⟨by decide +kernel, rfl⟩
theorem d_unt_30 : Own.D method_4_code 30 .castore 1 31 := ⟨by decide +kernel, rfl⟩
theorem d_unt_31 : Own.J method_4_code 31 (.goto 36) 3 34 36 67 := ⟨by decide +kernel, rfl, by decide, by decide⟩
theorem d_law_0 : Own.D code 0 (.bipush 6) 2 2 := ⟨by decide +kernel, rfl⟩
theorem d_law_2 : Own.D code 2 (.newarray .char) 2 4 := ⟨by decide +kernel, rfl⟩
theorem d_law_4 : Own.D code 4 (.astore 7) 2 6 := ⟨by decide +kernel, rfl⟩
theorem d_law_6 : Own.D code 6 (.bipush 7) 2 8 := ⟨by decide +kernel, rfl⟩
theorem d_law_8 : Own.D code 8 (.newarray .char) 2 10 := ⟨by decide +kernel, rfl⟩
theorem d_law_10 : Own.D code 10 (.astore 8) 2 12 := ⟨by decide +kernel, rfl⟩
theorem d_law_12 : Own.D code 12 (.aload 7) 2 14 := ⟨by decide +kernel, rfl⟩
theorem d_law_14 : Own.D code 14 (.iconst 0) 1 15 := ⟨by decide +kernel, rfl⟩
theorem d_law_15 : Own.D code 15 (.lload_n 1) 1 16 := ⟨by decide +kernel, rfl⟩
theorem d_law_16 : Own.D code 16 (.invokestatic 7) 3 19 := ⟨by decide +kernel, rfl⟩
theorem d_law_19 : Own.D code 19 (.aload 7) 2 21 := ⟨by decide +kernel, rfl⟩
theorem d_law_21 : Own.D code 21 (.iconst 2) 1 22 := ⟨by decide +kernel, rfl⟩
theorem d_law_22 : Own.D code 22 (.lload_n 3) 1 23 := ⟨by decide +kernel, rfl⟩
theorem d_law_23 : Own.D code 23 (.invokestatic 7) 3 26 := ⟨by decide +kernel, rfl⟩
theorem d_law_26 : Own.D code 26 (.aload 7) 2 28 := ⟨by decide +kernel, rfl⟩
theorem d_law_28 : Own.D code 28 (.iconst 4) 1 29 := ⟨by decide +kernel, rfl⟩
theorem d_law_29 : Own.D code 29 (.lload 5) 2 31 := ⟨by decide +kernel, rfl⟩
theorem d_law_31 : Own.D code 31 (.invokestatic 7) 3 34 := ⟨by decide +kernel, rfl⟩
theorem d_law_34 : Own.D code 34 (.aload 8) 2 36 := ⟨by decide +kernel, rfl⟩
theorem d_law_36 : Own.D code 36 (.iconst 0) 1 37 := ⟨by decide +kernel, rfl⟩
theorem d_law_37 : Own.D code 37 (.iload_n 0) 1 38 := ⟨by decide +kernel, rfl⟩
theorem d_law_38 : Own.D code 38 (.invokestatic 13) 3 41 := ⟨by decide +kernel, rfl⟩
theorem d_law_41 : Own.D code 41 .castore 1 42 := ⟨by decide +kernel, rfl⟩
theorem d_law_42 : Own.D code 42 (.aload 8) 2 44 := ⟨by decide +kernel, rfl⟩
theorem d_law_44 : Own.D code 44 (.iconst 1) 1 45 := ⟨by decide +kernel, rfl⟩
theorem d_law_45 : Own.D code 45 (.lload_n 1) 1 46 := ⟨by decide +kernel, rfl⟩
theorem d_law_46 : Own.D code 46 (.invokestatic 7) 3 49 := ⟨by decide +kernel, rfl⟩
theorem d_law_49 : Own.D code 49 (.aload 8) 2 51 := ⟨by decide +kernel, rfl⟩
theorem d_law_51 : Own.D code 51 (.iconst 3) 1 52 := ⟨by decide +kernel, rfl⟩
theorem d_law_52 : Own.D code 52 (.lload_n 3) 1 53 := ⟨by decide +kernel, rfl⟩
theorem d_law_53 : Own.D code 53 (.invokestatic 7) 3 56 := ⟨by decide +kernel, rfl⟩
theorem d_law_56 : Own.D code 56 (.aload 8) 2 58 := ⟨by decide +kernel, rfl⟩
theorem d_law_58 : Own.D code 58 (.iconst 5) 1 59 := ⟨by decide +kernel, rfl⟩
theorem d_law_59 : Own.D code 59 (.lload 5) 2 61 := ⟨by decide +kernel, rfl⟩
theorem d_law_61 : Own.D code 61 (.invokestatic 7) 3 64 := ⟨by decide +kernel, rfl⟩
theorem d_law_64 : Own.D code 64 (.ldc 17) 2 66 := ⟨by decide +kernel, rfl⟩
theorem d_law_66 : Own.D code 66 (.ldc 19) 2 68 := ⟨by decide +kernel, rfl⟩
theorem d_law_68 : Own.D code 68 (.invokestatic 21) 3 71 := ⟨by decide +kernel, rfl⟩
theorem d_law_71 : Own.D code 71 (.new 27) 3 74 := ⟨by decide +kernel, rfl⟩
theorem d_law_74 : Own.D code 74 .dup 1 75 := ⟨by decide +kernel, rfl⟩
theorem d_law_75 : Own.D code 75 (.aload 7) 2 77 := ⟨by decide +kernel, rfl⟩
theorem d_law_77 : Own.D code 77 (.invokespecial 29) 3 80 := ⟨by decide +kernel, rfl⟩
theorem d_law_80 : Own.D code 80 (.ldc 19) 2 82 := ⟨by decide +kernel, rfl⟩
theorem d_law_82 : Own.D code 82 (.invokestatic 21) 3 85 := ⟨by decide +kernel, rfl⟩
theorem d_law_85 : Own.D code 85 (.new 27) 3 88 := ⟨by decide +kernel, rfl⟩
theorem d_law_88 : Own.D code 88 .dup 1 89 := ⟨by decide +kernel, rfl⟩
theorem d_law_89 : Own.D code 89 (.aload 8) 2 91 := ⟨by decide +kernel, rfl⟩
theorem d_law_91 : Own.D code 91 (.invokespecial 29) 3 94 := ⟨by decide +kernel, rfl⟩
theorem d_law_94 : Own.D code 94 (.ldc 19) 2 96 := ⟨by decide +kernel, rfl⟩
theorem d_law_96 : Own.D code 96 (.invokestatic 21) 3 99 := ⟨by decide +kernel, rfl⟩
theorem d_law_99 : Own.D code 99 (.iconst 1) 1 100 := ⟨by decide +kernel, rfl⟩
theorem d_law_100 : Own.D code 100 .ireturn 1 101 := ⟨by decide +kernel, rfl⟩
set_option maxRecDepth 65536 in
set_option maxHeartbeats 4000000 in
theorem cod_met {E : Gl} (hw : Tb E) {h : Heap} {F : List Addr} {v : Addr} {k : ClassId} {m z : Int32} {vs : List Value} {dv : Value} (Av : Arv E.Z h v k .byte m vs dv) :
    Met E (⟨"java/lang/StringUTF16", "coderFromArrayLen", "([BI)B"⟩ : MethodName) jdk_52_method_15_code 2 (some .byte) ({ frames := 0, cells := 0, slots := 0, locals := 0 } : Room) #[.ref v, .int z] h F (fun r h' F' => r = some (.int (lo8 (lo8 (XT.ushr (z - m) 31)))) ∧ h = h' ∧ F = F') := by
  refine met_of (by decide +kernel) fun x T hQ B W => ?_
  refine G.cast (g' := fr x 0 #[.val (.ref v), .val (.int z)] []) (by simp [entryFrame, mkF, argsToLocals, Own.cat_r, Own.cat_i, Own.cat_j, Own.cat_n]) ?_
  refine w_iloadN W B d_cod_0 rfl ?_
  refine w_aloadN W B d_cod_1 rfl rfl ?_
  refine w_arraylength W B d_cod_2 Av ?_
  refine w_isub W B d_cod_3 ?_
  refine w_bipush W B d_cod_4 (v := (31 : Int32)) rfl ?_
  refine w_iushr W B d_cod_6 ?_
  refine w_i2b W B d_cod_7 ?_
  exact w_ireturnN W B d_cod_8 (Or.inr (Or.inl rfl)) (u := lo8 (lo8 (XT.ushr (z - m) 31))) rfl hQ (by decide) (by decide) (fun _ q => q) ⟨rfl, rfl, rfl⟩
set_option maxRecDepth 65536 in
set_option maxHeartbeats 4000000 in
theorem scod_met {E : Gl} (hw : Tb E) {h : Heap} {F : List Addr} {s : Addr} {c : Int32} (hc : nar .byte c = c) (fc : Fld E.Z h s "java/lang/String" "coder" "B" (.int c)) :
    Met E (⟨"java/lang/String", "coder", "()B"⟩ : MethodName) jdk_42_method_152_code 1 (some .byte) ({ frames := 0, cells := 0, slots := 0, locals := 0 } : Room) #[.ref s] h F (fun r h' F' => r = some (.int c) ∧ h = h' ∧ F = F') := by
  refine met_of (by decide +kernel) fun x T hQ B W => ?_
  refine G.cast (g' := fr x 0 #[.val (.ref s)] []) (by simp [entryFrame, mkF, argsToLocals, Own.cat_r, Own.cat_i, Own.cat_j, Own.cat_n]) ?_
  obtain ⟨z, Sc, hz⟩ := compact hw
  refine w_getS W B d_scod_0 (wd hw 36 rfl) Via.refl Sc ?_
  intro T1 W2
  refine w_if_eq W2 B d_scod_3 (fun q => absurd q hz) (fun _ => ?_)
  show G E x T1 (fr x 6 #[.val (.ref s)] [])
  refine w_aloadN W2 B d_scod_6 rfl rfl ?_
  refine w_getF W2 B d_scod_7 (wd hw 37 rfl) Via.refl fc ?_
  intro T3 W4
  refine w_goto W4 B d_scod_10 ?_
  exact w_ireturnN W4 B d_scod_14 (Or.inr (Or.inl rfl)) (u := c) hc hQ (by decide) (by decide) (fun _ q => q) ⟨rfl, rfl, rfl⟩
set_option maxRecDepth 65536 in
set_option maxHeartbeats 4000000 in
theorem slat_met {E : Gl} (hw : Tb E) {h : Heap} {F : List Addr} {s : Addr} (fc : Fld E.Z h s "java/lang/String" "coder" "B" (.int 0)) :
    Met E (⟨"java/lang/String", "isLatin1", "()Z"⟩ : MethodName) jdk_42_method_154_code 1 (some .boolean) ({ frames := 0, cells := 0, slots := 0, locals := 0 } : Room) #[.ref s] h F (fun r h' F' => r = some (.int 1) ∧ h = h' ∧ F = F') := by
  refine met_of (by decide +kernel) fun x T hQ B W => ?_
  refine G.cast (g' := fr x 0 #[.val (.ref s)] []) (by simp [entryFrame, mkF, argsToLocals, Own.cat_r, Own.cat_i, Own.cat_j, Own.cat_n]) ?_
  obtain ⟨z, Sc, hz⟩ := compact hw
  refine w_getS W B d_slat_0 (wd hw 36 rfl) Via.refl Sc ?_
  intro T1 W2
  refine w_if_eq W2 B d_slat_3 (fun q => absurd q hz) (fun _ => ?_)
  show G E x T1 (fr x 6 #[.val (.ref s)] [])
  refine w_aloadN W2 B d_slat_6 rfl rfl ?_
  refine w_getF W2 B d_slat_7 (wd hw 37 rfl) Via.refl fc ?_
  intro T3 W4
  refine w_if_ne W4 B d_slat_10 (fun q => q rfl |>.elim) (fun _ => ?_)
  show G E x T3 (fr x 13 #[.val (.ref s)] [])
  refine w_iconst W4 B d_slat_13 (v := (1 : Int32)) rfl ?_
  refine w_goto W4 B d_slat_14 ?_
  exact w_ireturnN W4 B d_slat_18 (Or.inl rfl) (u := 1) rfl hQ (by decide) (by decide) (fun _ q => q) ⟨rfl, rfl, rfl⟩
set_option maxRecDepth 65536 in
set_option maxHeartbeats 4000000 in
theorem slat0_met {E : Gl} (hw : Tb E) {h : Heap} {F : List Addr} {s : Addr} (fc : Fld E.Z h s "java/lang/String" "coder" "B" (.int 1)) :
    Met E (⟨"java/lang/String", "isLatin1", "()Z"⟩ : MethodName) jdk_42_method_154_code 1 (some .boolean) ({ frames := 0, cells := 0, slots := 0, locals := 0 } : Room) #[.ref s] h F (fun r h' F' => r = some (.int 0) ∧ h = h' ∧ F = F') := by
  refine met_of (by decide +kernel) fun x T hQ B W => ?_
  refine G.cast (g' := fr x 0 #[.val (.ref s)] []) (by simp [entryFrame, mkF, argsToLocals, Own.cat_r, Own.cat_i, Own.cat_j, Own.cat_n]) ?_
  obtain ⟨z, Sc, hz⟩ := compact hw
  refine w_getS W B d_slat_0 (wd hw 36 rfl) Via.refl Sc ?_
  intro T1 W2
  refine w_if_eq W2 B d_slat_3 (fun q => absurd q hz) (fun _ => ?_)
  show G E x T1 (fr x 6 #[.val (.ref s)] [])
  refine w_aloadN W2 B d_slat_6 rfl rfl ?_
  refine w_getF W2 B d_slat_7 (wd hw 37 rfl) Via.refl fc ?_
  intro T3 W4
  refine w_if_ne W4 B d_slat_10 (fun _ => ?_) (fun q => absurd q (by decide))
  show G E x T3 (fr x 17 #[.val (.ref s)] [])
  refine w_iconst W4 B d_slat_17 (v := (0 : Int32)) rfl ?_
  exact w_ireturnN W4 B d_slat_18 (Or.inl rfl) (u := 0) rfl hQ (by decide) (by decide) (fun _ q => q) ⟨rfl, rfl, rfl⟩
set_option maxRecDepth 65536 in
set_option maxHeartbeats 4000000 in
theorem slenv_met {E : Gl} (hw : Tb E) {h : Heap} {F : List Addr} {s v : Addr} {cs : List Int32} (S : StrV E h s v cs) (hcap : cs.length ≤ 32) :
    Met E (⟨"java/lang/String", "length", "()I"⟩ : MethodName) jdk_42_method_54_code 1 (some .int) ({ frames := 1, cells := 0, slots := 0, locals := 13 } : Room) #[.ref s] h F (fun r h' F' => r = some (.int cs.length.toInt32) ∧ h = h' ∧ F = F') := by
  refine met_of (by decide +kernel) fun x T hQ B W => ?_
  refine G.cast (g' := fr x 0 #[.val (.ref s)] []) (by simp [entryFrame, mkF, argsToLocals, Own.cat_r, Own.cat_i, Own.cat_j, Own.cat_n]) ?_
  obtain ⟨k, h1, h2, h3, h4⟩ := S
  rcases h4 with ⟨hL, fc, A⟩ | ⟨hL, fc, A⟩
  ·
    refine w_aloadN W B d_slen_0 rfl rfl ?_
    refine w_getF W B d_slen_1 (wd hw 30 rfl) Via.refl h2 ?_
    intro T1 W2
    refine w_arraylength W2 B d_slen_4 A ?_
    refine w_aloadN W2 B d_slen_5 rfl rfl ?_
    refine w_virtual W2 B (y := ⟨"java/lang/String", "coder", "()B"⟩) (z := ⟨"java/lang/String", "coder", "()B"⟩) d_slen_6 (wd hw 31 rfl) (wd hw 32 rfl) (nf_sel (wd hw 34 rfl)) (wd hw 34 rfl) (wd hw 33 rfl) (wd hw 13 rfl) (wd hw 35 rfl) (by decide) h1 pd___B147 (argsL := []) rfl rfl rfl (Wt := 1) (Nat.le_of_eq rfl) (scod_met hw (c := 0) rfl fc) (by decide) (by decide) (by decide) (by decide) ?_
    intro T3 h4 F5 v6 W7 Q8
    obtain ⟨rfl, rfl, rfl⟩ := Q8
    show G E x T3 (fr x 9 #[.val (.ref s)] [(.int (0 : Int32)), (.int cs.length.toInt32)])
    refine w_ishr W7 B d_slen_9 ?_
    exact w_ireturn W7 B d_slen_10 hQ (by decide) (by decide) (fun _ q => q) ⟨by rw [shr0], rfl, rfl⟩
  ·
    refine w_aloadN W B d_slen_0 rfl rfl ?_
    refine w_getF W B d_slen_1 (wd hw 30 rfl) Via.refl h2 ?_
    intro T1 W2
    refine w_arraylength W2 B d_slen_4 A ?_
    refine w_aloadN W2 B d_slen_5 rfl rfl ?_
    refine w_virtual W2 B (y := ⟨"java/lang/String", "coder", "()B"⟩) (z := ⟨"java/lang/String", "coder", "()B"⟩) d_slen_6 (wd hw 31 rfl) (wd hw 32 rfl) (nf_sel (wd hw 34 rfl)) (wd hw 34 rfl) (wd hw 33 rfl) (wd hw 13 rfl) (wd hw 35 rfl) (by decide) h1 pd___B147 (argsL := []) rfl rfl rfl (Wt := 1) (Nat.le_of_eq rfl) (scod_met hw (c := 1) rfl fc) (by decide) (by decide) (by decide) (by decide) ?_
    intro T3 h4 F5 v6 W7 Q8
    obtain ⟨rfl, rfl, rfl⟩ := Q8
    show G E x T3 (fr x 9 #[.val (.ref s)] [(.int (1 : Int32)), (.int (2 * cs.length).toInt32)])
    refine w_ishr W7 B d_slen_9 ?_
    exact w_ireturn W7 B d_slen_10 hQ (by decide) (by decide) (fun _ q => q) ⟨by rw [shr1 (by omega)], rfl, rfl⟩
set_option maxRecDepth 65536 in
set_option maxHeartbeats 4000000 in
theorem nbl_met {E : Gl} (hw : Tb E) {h : Heap} {F : List Addr} {n : Nat} (hcap : n ≤ 32) :
    Met E (⟨"java/lang/StringUTF16", "newBytesLength", "(I)I"⟩ : MethodName) jdk_52_method_3_code 1 (some .int) ({ frames := 0, cells := 0, slots := 0, locals := 0 } : Room) #[.int n.toInt32] h F (fun r h' F' => r = some (.int (2 * n).toInt32) ∧ h = h' ∧ F = F') := by
  refine met_of (by decide +kernel) fun x T hQ B W => ?_
  refine G.cast (g' := fr x 0 #[.val (.int n.toInt32)] []) (by simp [entryFrame, mkF, argsToLocals, Own.cat_r, Own.cat_i, Own.cat_j, Own.cat_n]) ?_
  refine w_iloadN W B d_nbl_0 rfl ?_
  refine w_if_ge W B d_nbl_1 (fun _ => ?_) (fun q => absurd q (n_nn (by omega)))
  show G E x T (fr x 12 #[.val (.int n.toInt32)] [])
  refine w_iloadN W B d_nbl_12 rfl ?_
  refine w_ldcI W B d_nbl_13 (wd hw 65 rfl) ?_
  refine w_icmp_lt W B d_nbl_15 (fun _ => ?_) (fun q => q ((n_lt (n := 1073741823) (by omega) (by decide)).mpr (by omega)) |>.elim)
  show G E x T (fr x 55 #[.val (.int n.toInt32)] [])
  refine w_iloadN W B d_nbl_55 rfl ?_
  refine w_iconst W B d_nbl_56 (v := (1 : Int32)) rfl ?_
  refine w_ishl W B d_nbl_57 ?_
  rw [shl1 (by omega)]
  show G E x T (fr x 58 #[.val (.int n.toInt32)] [(.int (2 * n).toInt32)])
  exact w_ireturn W B d_nbl_58 hQ (by decide) (by decide) (fun _ q => q) ⟨rfl, rfl, rfl⟩
set_option maxRecDepth 65536 in
set_option maxHeartbeats 4000000 in
theorem nbf_met {E : Gl} (hw : Tb E) {h : Heap} {F : List Addr} {n : Nat} (hcap : n ≤ 32) :
    Met E (⟨"java/lang/StringUTF16", "newBytesFor", "(I)[B"⟩ : MethodName) jdk_52_method_2_code 1 (some (.array .byte)) ({ frames := 1, cells := 1, slots := 64, locals := 12 } : Room) #[.int n.toInt32] h F (fun r h' F' => ∃ (b : Addr) (k : ClassId), r = some (.ref b) ∧ b :: F = F' ∧ h.size ≤ b ∧ Keep h h' [] ∧ Arv E.Z h' b k .byte (2 * n).toInt32 [] (.int 0)) := by
  refine met_of (by decide +kernel) fun x T hQ B W => ?_
  refine G.cast (g' := fr x 0 #[.val (.int n.toInt32)] []) (by simp [entryFrame, mkF, argsToLocals, Own.cat_r, Own.cat_i, Own.cat_j, Own.cat_n]) ?_
  refine w_iloadN W B d_nbf_0 rfl ?_
  refine w_static W B (y := ⟨"java/lang/StringUTF16", "newBytesLength", "(I)I"⟩) d_nbf_1 (wd hw 62 rfl) (wd hw 63 rfl) (wd hw 51 rfl) (wd hw 64 rfl) (by decide) pd__I_I227 (argsL := [(.int n.toInt32)]) rfl rfl rfl (Wt := 0) (Nat.le_of_eq rfl) (nbl_met hw hcap) (by decide) (by decide) (by decide) (by decide) ?_
  intro T1 h2 F3 v4 W5 Q6
  obtain ⟨rfl, rfl, rfl⟩ := Q6
  show G E x T1 (fr x 4 #[.val (.int n.toInt32)] [(.int (2 * n).toInt32)])
  refine w_newarray W5 B d_nbf_4 rfl (wd hw 15 rfl) (n_nn (by omega)) (cap := 64) (by rw [n_clamp (by omega)]; omega) (by decide) (by decide) (by decide) ?_
  intro T7 h8 b9 k10 W11 g12 X13 A14
  show G E x T7 (fr x 6 #[.val (.int n.toInt32)] [(.ref b9)])
  have KK15 : Keep h h8 [] := (Keep.refl h []).ext X13
  exact w_areturn W11 B d_nbf_6 rfl rfl hQ (by decide) (by decide) (fun _ q => q) ⟨b9, _, rfl, rfl, Nat.le_of_eq g12.symm, KK15, A14⟩
set_option maxRecDepth 65536 in
set_option maxHeartbeats 4000000 in
theorem ptc_met {E : Gl} (hw : Tb E) {h : Heap} {F : List Addr} {b : Addr} {k : ClassId} {n i : Nat} {c : Int32} {vs : List Value} (hcap : n ≤ 32) (hi : i < n) (hb : b ∈ F) (Ab : Arv E.Z h b k .byte (2 * n).toInt32 vs (.int 0)) (hvl : vs.length = 2 * n) :
    Met E (⟨"java/lang/StringUTF16", "putChar", "([BII)V"⟩ : MethodName) jdk_52_method_4_code 3 none ({ frames := 0, cells := 0, slots := 0, locals := 0 } : Room) #[.ref b, .int i.toInt32, .int c] h F (fun r h' F' => r = none ∧ F = F' ∧ Keep h h' [b] ∧ Arv E.Z h' b k .byte (2 * n).toInt32 ((vs.set (2 * i) (.int (lo8 c))).set (2 * i + 1) (.int (lo8 (c >>> 8)))) (.int 0)) := by
  refine met_of (by decide +kernel) fun x T hQ B W => ?_
  refine G.cast (g' := fr x 0 #[.val (.ref b), .val (.int i.toInt32), .val (.int c)] []) (by simp [entryFrame, mkF, argsToLocals, Own.cat_r, Own.cat_i, Own.cat_j, Own.cat_n]) ?_
  refine w_getS W B d_ptc_0 (wd hw 69 rfl) Via.refl (u16a hw) ?_
  intro T1 W2
  refine w_if_ne W2 B d_ptc_3 (fun _ => ?_) (fun q => absurd q (by decide))
  show G E x T1 (fr x 28 #[.val (.ref b), .val (.int i.toInt32), .val (.int c)] [])
  refine w_iloadN W2 B d_ptc_28 rfl ?_
  refine w_iconst W2 B d_ptc_29 (v := (1 : Int32)) rfl ?_
  refine w_ishl W2 B d_ptc_30 ?_
  rw [shl1 (by omega)]
  show G E x T1 (fr x 31 #[.val (.ref b), .val (.int i.toInt32), .val (.int c)] [(.int (2 * i).toInt32)])
  refine w_istoreN W2 B d_ptc_31 (Ls' := #[.val (.ref b), .val (.int (2 * i).toInt32), .val (.int c)]) rfl ?_
  refine w_aloadN W2 B d_ptc_32 rfl rfl ?_
  refine w_iloadN W2 B d_ptc_33 rfl ?_
  refine w_iinc W2 B d_ptc_34 rfl (w := (2 * i + 1).toInt32) (n_succ _) (Ls' := #[.val (.ref b), .val (.int (2 * i + 1).toInt32), .val (.int c)]) rfl ?_
  refine w_iloadN W2 B d_ptc_37 rfl ?_
  refine w_getS W2 B d_ptc_38 (wd hw 70 rfl) Via.refl (u16h hw) ?_
  intro T3 W4
  refine w_ishr W4 B d_ptc_41 ?_
  rw [shr0]
  show G E x T3 (fr x 42 #[.val (.ref b), .val (.int (2 * i + 1).toInt32), .val (.int c)] [(.int c), (.int (2 * i).toInt32), (.ref b)])
  refine w_i2b W4 B d_ptc_42 ?_
  refine w_bastore W4 B d_ptc_43 hb Ab ⟨n_nn (by omega), (n_lt (by omega) (by omega)).mpr (by omega)⟩ (i := 2 * i) (n_clamp (by omega)) (by omega) (u := lo8 (c)) (nar_lo8 _) ?_
  intro Tx hx Wx Kx Ax
  show G E x Tx (fr x 44 #[.val (.ref b), .val (.int (2 * i + 1).toInt32), .val (.int c)] [])
  refine w_aloadN Wx B d_ptc_44 rfl rfl ?_
  refine w_iloadN Wx B d_ptc_45 rfl ?_
  refine w_iloadN Wx B d_ptc_46 rfl ?_
  refine w_getS Wx B d_ptc_47 (wd hw 71 rfl) Via.refl (u16l hw) ?_
  intro T5 W6
  refine w_ishr W6 B d_ptc_50 ?_
  rw [show (8 : Int32) &&& 31 = 8 from by decide]
  show G E x T5 (fr x 51 #[.val (.ref b), .val (.int (2 * i + 1).toInt32), .val (.int c)] [(.int (c >>> 8)), (.int (2 * i + 1).toInt32), (.ref b)])
  refine w_i2b W6 B d_ptc_51 ?_
  refine w_bastore W6 B d_ptc_52 hb Ax ⟨n_nn (by omega), (n_lt (by omega) (by omega)).mpr (by omega)⟩ (i := 2 * i + 1) (n_clamp (by omega)) (by rw [List.length_set]; omega) (u := lo8 (c >>> 8)) (nar_lo8 _) ?_
  intro Ty hy Wy Ky Ay
  show G E x Ty (fr x 53 #[.val (.ref b), .val (.int (2 * i + 1).toInt32), .val (.int c)] [])
  have KK7 : Keep h hx [b] := (Keep.refl h [b]).trans Kx (allS (Or.inl (List.Mem.head _)) all0)
  have KK8 : Keep h hy [b] := KK7.trans Ky (allS (Or.inl (List.Mem.head _)) all0)
  exact w_return Wy B d_ptc_53 hQ (by decide) (by decide) (fun _ q => q) ⟨rfl, rfl, KK8, Ay⟩
set_option maxRecDepth 65536 in
set_option maxHeartbeats 4000000 in
theorem gtc_met {E : Gl} (hw : Tb E) {h : Heap} {F : List Addr} {v : Addr} {k : ClassId} {cs : List Int32} {i : Nat} (hC : Ch cs) (hcap : cs.length ≤ 32) (hi : i < cs.length) (Av : Arv E.Z h v k .byte (2 * cs.length).toInt32 (b16 cs) (.int 0)) :
    Met E (⟨"java/lang/StringUTF16", "getChar", "([BI)C"⟩ : MethodName) jdk_52_method_5_code 2 (some .char) ({ frames := 0, cells := 0, slots := 0, locals := 0 } : Room) #[.ref v, .int i.toInt32] h F (fun r h' F' => r = some (.int (cs.getD i 0)) ∧ h = h' ∧ F = F') := by
  refine met_of (by decide +kernel) fun x T hQ B W => ?_
  refine G.cast (g' := fr x 0 #[.val (.ref v), .val (.int i.toInt32)] []) (by simp [entryFrame, mkF, argsToLocals, Own.cat_r, Own.cat_i, Own.cat_j, Own.cat_n]) ?_
  refine w_getS W B d_gtc_0 (wd hw 69 rfl) Via.refl (u16a hw) ?_
  intro T1 W2
  refine w_if_ne W2 B d_gtc_3 (fun _ => ?_) (fun q => absurd q (by decide))
  show G E x T1 (fr x 28 #[.val (.ref v), .val (.int i.toInt32)] [])
  refine w_iloadN W2 B d_gtc_28 rfl ?_
  refine w_iconst W2 B d_gtc_29 (v := (1 : Int32)) rfl ?_
  refine w_ishl W2 B d_gtc_30 ?_
  rw [shl1 (by omega)]
  show G E x T1 (fr x 31 #[.val (.ref v), .val (.int i.toInt32)] [(.int (2 * i).toInt32)])
  refine w_istoreN W2 B d_gtc_31 (Ls' := #[.val (.ref v), .val (.int (2 * i).toInt32)]) rfl ?_
  refine w_aloadN W2 B d_gtc_32 rfl rfl ?_
  refine w_iloadN W2 B d_gtc_33 rfl ?_
  refine w_iinc W2 B d_gtc_34 rfl (w := (2 * i + 1).toInt32) (n_succ _) (Ls' := #[.val (.ref v), .val (.int (2 * i + 1).toInt32)]) rfl ?_
  refine w_baload W2 B d_gtc_37 Av ⟨n_nn (by omega), (n_lt (by omega) (by omega)).mpr (by omega)⟩ (v := .int (lo8 (cs.getD i 0))) (by rw [n_clamp (by omega)]; exact (b16_at cs i hi).1) ?_
  refine w_sipush W2 B d_gtc_38 (v := (255 : Int32)) rfl ?_
  refine w_iand W2 B d_gtc_41 ?_
  refine w_getS W2 B d_gtc_42 (wd hw 70 rfl) Via.refl (u16h hw) ?_
  intro T3 W4
  refine w_ishl W4 B d_gtc_45 ?_
  refine w_aloadN W4 B d_gtc_46 rfl rfl ?_
  refine w_iloadN W4 B d_gtc_47 rfl ?_
  refine w_baload W4 B d_gtc_48 Av ⟨n_nn (by omega), (n_lt (by omega) (by omega)).mpr (by omega)⟩ (v := .int (lo8 (cs.getD i 0 >>> 8))) (by rw [n_clamp (by omega)]; exact (b16_at cs i hi).2) ?_
  refine w_sipush W4 B d_gtc_49 (v := (255 : Int32)) rfl ?_
  refine w_iand W4 B d_gtc_52 ?_
  refine w_getS W4 B d_gtc_53 (wd hw 71 rfl) Via.refl (u16l hw) ?_
  intro T5 W6
  refine w_ishl W6 B d_gtc_56 ?_
  refine w_ior W6 B d_gtc_57 ?_
  rw [getc (ch_at hC hi).1 (ch_at hC hi).2]
  show G E x T5 (fr x 58 #[.val (.ref v), .val (.int (2 * i + 1).toInt32)] [(.int (cs.getD i 0))])
  refine w_i2c W6 B d_gtc_58 ?_
  rw [i2c_id (ch_at hC hi).1 (ch_at hC hi).2]
  show G E x T5 (fr x 59 #[.val (.ref v), .val (.int (2 * i + 1).toInt32)] [(.int (cs.getD i 0))])
  exact w_ireturnN W6 B d_gtc_59 (Or.inr (Or.inr (Or.inl rfl))) (u := cs.getD i 0) (nar_char (ch_at hC hi).1 (ch_at hC hi).2) hQ (by decide) (by decide) (fun _ q => q) ⟨rfl, rfl, rfl⟩
set_option maxRecDepth 65536 in
set_option maxHeartbeats 4000000 in
theorem tby_turns {E : Gl} (hw : Tb E) {x : Cx} {h0 : Heap} {F : List Addr} {a b : Addr} {ka kb : ClassId} {n : Nat} {cs : List Int32} (hQ : x.Q = (fun r h' F' => ∃ (b : Addr) (k : ClassId), r = some (.ref b) ∧ F = F' ∧ h0.size ≤ b ∧ Keep h0 h' [] ∧ Arv E.Z h' b k .byte (2 * n).toInt32 (b16 cs) (.int 0))) (B : Is x "java/lang/StringUTF16" jdk_52_method_14_code 5 ({ frames := 2, cells := 1, slots := 64, locals := 24 } : Room) (some (.array .byte)) "toBytes") (hcs : cs.length = n) (hcap : n ≤ 32) (hab : a ≠ b) (gb : h0.size ≤ b) :
    ∀ (r i : Nat) (T : State) (h : Heap) (vs : List Value), i + r = n → Wk E x T h (b :: F) 1 64 → Arv E.Z h a ka .char n.toInt32 (ints cs) (.int 0) → Arv E.Z h b kb .byte (2 * n).toInt32 vs (.int 0) → vs.length = 2 * n →
      (∀ j, j < i → vs.getD (2 * j) (.int 0) = .int (lo8 (cs.getD j 0)) ∧ vs.getD (2 * j + 1) (.int 0) = .int (lo8 (cs.getD j 0 >>> 8))) → Keep h0 h [] → G E x T (fr x 8 #[.val (.ref a), .val (.int i.toInt32), .val (.int n.toInt32), .val (.ref b), .val (.int i.toInt32)] []) := by
  intro r
  induction r with
  | zero =>
    intro i T h vs hir W Aa Ab hvl hvs hK
    refine w_iload W B d_tby_8 rfl ?_
    refine w_iloadN W B d_tby_10 rfl ?_
    refine w_icmp_ge W B d_tby_11 (fun _ => ?_) (fun q => absurd q (by rw [n_lt (by omega) (by omega)]; omega))
    show G E x T (fr x 32 #[.val (.ref a), .val (.int i.toInt32), .val (.int n.toInt32), .val (.ref b), .val (.int i.toInt32)] [])
    refine w_aloadN W B d_tby_32 rfl rfl ?_
    have ev : vs = b16 cs := vs_b16 hvl hcs (fun j q => hvs j (by omega))
    exact w_areturn W B d_tby_33 rfl rfl hQ (by decide) (by decide) (fun _ q => List.Mem.tail _ q) ⟨b, kb, rfl, rfl, gb, hK, ev ▸ Ab⟩
  | succ r ih =>
    intro i T h vs hir W Aa Ab hvl hvs hK
    have hi : i < n := by omega
    refine w_iload W B d_tby_8 rfl ?_
    refine w_iloadN W B d_tby_10 rfl ?_
    refine w_icmp_ge W B d_tby_11 (fun q => q ((n_lt (by omega) (by omega)).mpr hi) |>.elim) (fun _ => ?_)
    show G E x T (fr x 14 #[.val (.ref a), .val (.int i.toInt32), .val (.int n.toInt32), .val (.ref b), .val (.int i.toInt32)] [])
    refine w_aloadN W B d_tby_14 rfl rfl ?_
    refine w_iload W B d_tby_15 rfl ?_
    refine w_aloadN W B d_tby_17 rfl rfl ?_
    refine w_iloadN W B d_tby_18 rfl ?_
    refine w_caload W B d_tby_19 Aa ⟨n_nn (by omega), (n_lt (by omega) (by omega)).mpr hi⟩ (v := .int (cs.getD i 0)) (by rw [n_clamp (by omega)]; exact ints_at (by rw [hcs]; exact hi) _) ?_
    refine w_static W B (y := ⟨"java/lang/StringUTF16", "putChar", "([BII)V"⟩) d_tby_20 (wd hw 66 rfl) (wd hw 67 rfl) (wd hw 51 rfl) (wd hw 68 rfl) (by decide) pd___BII_V470 (argsL := [(.ref b), (.int i.toInt32), (.int (cs.getD i 0))]) rfl rfl rfl (Wt := 0) (Nat.le_of_eq rfl) (ptc_met hw hcap hi (List.Mem.head _) Ab hvl) (by decide) (by decide) (by decide) (by decide) ?_
    intro T1 h2 F3 v4 W5 Q6
    obtain ⟨rfl, rfl, K2, A2⟩ := Q6
    show G E x T1 (fr x 23 #[.val (.ref a), .val (.int i.toInt32), .val (.int n.toInt32), .val (.ref b), .val (.int i.toInt32)] [])
    refine w_iinc W5 B d_tby_23 rfl (w := (i + 1).toInt32) (n_succ i) (Ls' := #[.val (.ref a), .val (.int (i + 1).toInt32), .val (.int n.toInt32), .val (.ref b), .val (.int i.toInt32)]) rfl ?_
    refine w_iinc W5 B d_tby_26 rfl (w := (i + 1).toInt32) (n_succ i) (Ls' := #[.val (.ref a), .val (.int (i + 1).toInt32), .val (.int n.toInt32), .val (.ref b), .val (.int (i + 1).toInt32)]) rfl ?_
    refine w_goto W5 B d_tby_29 ?_
    exact ih (i + 1) T1 h2 _ (by omega) W5 (Aa.keep K2 (ninS hab nin0)) A2 (by rw [List.length_set, List.length_set]; exact hvl) (put_pre hvl hi hvs) (hK.trans K2 (allS (Or.inr gb) all0))
set_option maxRecDepth 65536 in
set_option maxHeartbeats 4000000 in
theorem tby_met {E : Gl} (hw : Tb E) {h : Heap} {F : List Addr} {a : Addr} {ka : ClassId} {n : Nat} {cs : List Int32} (hcs : cs.length = n) (hcap : n ≤ 32) (Aa : Arv E.Z h a ka .char n.toInt32 (ints cs) (.int 0)) :
    Met E (⟨"java/lang/StringUTF16", "toBytes", "([CII)[B"⟩ : MethodName) jdk_52_method_14_code 5 (some (.array .byte)) ({ frames := 2, cells := 1, slots := 64, locals := 24 } : Room) #[.ref a, .int 0, .int n.toInt32] h F (fun r h' F' => ∃ (b : Addr) (k : ClassId), r = some (.ref b) ∧ F = F' ∧ h.size ≤ b ∧ Keep h h' [] ∧ Arv E.Z h' b k .byte (2 * n).toInt32 (b16 cs) (.int 0)) := by
  refine met_of (by decide +kernel) fun x T hQ B W => ?_
  refine G.cast (g' := fr x 0 #[.val (.ref a), .val (.int (0 : Int32)), .val (.int n.toInt32), .unset, .unset] []) (by simp [entryFrame, mkF, argsToLocals, Own.cat_r, Own.cat_i, Own.cat_j, Own.cat_n]) ?_
  refine w_iloadN W B d_tby_0 rfl ?_
  refine w_static W B (y := ⟨"java/lang/StringUTF16", "newBytesFor", "(I)[B"⟩) d_tby_1 (wd hw 59 rfl) (wd hw 60 rfl) (wd hw 51 rfl) (wd hw 61 rfl) (by decide) pd__I__B311 (argsL := [(.int n.toInt32)]) rfl rfl rfl (Wt := 0) (Nat.le_of_eq rfl) (nbf_met hw hcap) (by decide) (by decide) (by decide) (by decide) ?_
  intro T1 h2 F3 v4 W5 Q6
  obtain ⟨b, kb, rfl, rfl, gb, KB, Ab⟩ := Q6
  show G E x T1 (fr x 4 #[.val (.ref a), .val (.int (0 : Int32)), .val (.int n.toInt32), .unset, .unset] [(.ref b)])
  refine w_astoreN W5 B d_tby_4 rfl (Ls' := #[.val (.ref a), .val (.int (0 : Int32)), .val (.int n.toInt32), .val (.ref b), .unset]) rfl ?_
  refine w_iconst W5 B d_tby_5 (v := (0 : Int32)) rfl ?_
  refine w_istore W5 B d_tby_6 (Ls' := #[.val (.ref a), .val (.int (0 : Int32)), .val (.int n.toInt32), .val (.ref b), .val (.int (0 : Int32))]) rfl ?_
  exact tby_turns hw hQ B hcs hcap (Own.ne_ge Aa.lt gb) gb n 0 T1 h2 _ (Nat.zero_add _) W5 (Aa.keep KB nin0) (Ab.pad (pad_rep [] _ (2 * n))) (by simp) (fun j q => absurd q (Nat.not_lt_zero _)) KB
theorem lat_at {cs : List Int32} (H : Lat cs) {i : Nat} (h : i < cs.length) : (cs.getD i 0).toInt ≤ 255 := by
  have : cs.getD i 0 = cs[i] := by simp [List.getD_eq_getElem?_getD, List.getElem?_eq_getElem h]
  rw [this]; exact H _ (List.getElem_mem h)
theorem vs_b8 {vs : List Value} {cs : List Int32} {n : Nat} (hvl : vs.length = n) (hcs : cs.length = n) (hvs : ∀ j, j < n → vs.getD j (.int 0) = .int (lo8 (cs.getD j 0))) : vs = b8 cs := by
  apply List.ext_getElem (by rw [hvl, b8_len, hcs])
  intro j h1 h2
  have q := hvs j (by omega)
  rw [List.getD_eq_getElem?_getD, List.getElem?_eq_getElem h1] at q
  have q2 := b8_at (cs := cs) (i := j) (by omega) (.int 0)
  rw [List.getD_eq_getElem?_getD, List.getElem?_eq_getElem h2] at q2
  exact (Option.some.inj (by simpa using q) : vs[j] = _).trans (by simpa using q2.symm)
set_option maxRecDepth 65536 in
set_option maxHeartbeats 4000000 in
theorem cmp3w_met {E : Gl} (hw : Tb E) {h : Heap} {F : List Addr} {a : Addr} {ka : ClassId} {n : Nat} {cs : List Int32} (hcs : cs.length = n) (hcap : n ≤ 32) (hC : Ch cs) (Aa : Arv E.Z h a ka .char n.toInt32 (ints cs) (.int 0)) :
    Met E (⟨"java/lang/StringUTF16", "compress", "([CII)[B"⟩ : MethodName) jdk_52_method_16_code 6 (some (.array .byte)) ({ frames := 3, cells := 2, slots := 96, locals := 40 } : Room) #[.ref a, .int 0, .int n.toInt32] h F (fun r h' F' => ∃ (b : Addr) (k : ClassId), r = some (.ref b) ∧ F = F' ∧ h.size ≤ b ∧ Keep h h' [] ∧ ((Lat cs ∧ Arv E.Z h' b k .byte n.toInt32 (b8 cs) (.int 0)) ∨ (¬ Lat cs ∧ Arv E.Z h' b k .byte (2 * n).toInt32 (b16 cs) (.int 0)))) := by
  refine met_of (by decide +kernel) fun x T hQ B W => ?_
  refine G.cast (g' := fr x 0 #[.val (.ref a), .val (.int (0 : Int32)), .val (.int n.toInt32), .unset, .unset, .unset] []) (by simp [entryFrame, mkF, argsToLocals, Own.cat_r, Own.cat_i, Own.cat_j, Own.cat_n]) ?_
  have hn : n < 2 ^ 31 := by omega
  refine w_iloadN W B d_cmp3_0 rfl ?_
  refine w_newarray W B d_cmp3_1 rfl (wd hw 15 rfl) (n_nn hn) (cap := 32) (by rw [n_clamp hn]; exact hcap) (by decide) (by decide) (by decide) ?_
  intro T1 h2 b3 k4 W5 g6 X7 A8
  show G E x T1 (fr x 3 #[.val (.ref a), .val (.int (0 : Int32)), .val (.int n.toInt32), .unset, .unset, .unset] [(.ref b3)])
  refine w_astoreN W5 B d_cmp3_3 rfl (Ls' := #[.val (.ref a), .val (.int (0 : Int32)), .val (.int n.toInt32), .val (.ref b3), .unset, .unset]) rfl ?_
  refine w_aloadN W5 B d_cmp3_4 rfl rfl ?_
  refine w_iloadN W5 B d_cmp3_5 rfl ?_
  refine w_aloadN W5 B d_cmp3_6 rfl rfl ?_
  refine w_iconst W5 B d_cmp3_7 (v := (0 : Int32)) rfl ?_
  refine w_iloadN W5 B d_cmp3_8 rfl ?_
  refine w_static W5 B (y := ⟨"java/lang/StringUTF16", "compress", "([CI[BII)I"⟩) d_cmp3_9 (wd hw 53 rfl) (wd hw 54 rfl) (wd hw 51 rfl) (wd hw 55 rfl) (by decide) pd___CI_BII_I688 (argsL := [(.ref a), (.int (0 : Int32)), (.ref b3), (.int (0 : Int32)), (.int n.toInt32)]) rfl rfl rfl (Wt := 0) (Nat.le_of_eq rfl) (cmp5_met hw hcs hn (Own.ne_new Aa.lt g6) (List.Mem.head _) (Aa.ext X7) (A8.pad (pad_rep [] _ n)) (by simp)) (by decide) (by decide) (by decide) (by decide) ?_
  intro T9 h10 F11 v12 W13 Q14
  obtain ⟨i, vs, rfl, rfl, hin, hst, hlt, K5, A5, hvl, hvs⟩ := Q14
  show G E x T9 (fr x 12 #[.val (.ref a), .val (.int (0 : Int32)), .val (.int n.toInt32), .val (.ref b3), .unset, .unset] [(.int i.toInt32)])
  refine w_istore W13 B d_cmp3_12 (Ls' := #[.val (.ref a), .val (.int (0 : Int32)), .val (.int n.toInt32), .val (.ref b3), .val (.int i.toInt32), .unset]) rfl ?_
  refine w_iload W13 B d_cmp3_14 rfl ?_
  refine w_iloadN W13 B d_cmp3_16 rfl ?_
  by_cases hie : i = n
  ·
    refine w_icmp_eq W13 B d_cmp3_17 (fun _ => ?_) (fun q => q (congrArg Nat.toInt32 hie) |>.elim)
    show G E x T9 (fr x 57 #[.val (.ref a), .val (.int (0 : Int32)), .val (.int n.toInt32), .val (.ref b3), .val (.int i.toInt32), .unset] [])
    refine w_aloadN W13 B d_cmp3_57 rfl rfl ?_
    have KK15 : Keep h h2 [] := (Keep.refl h []).ext X7
    have KK16 : Keep h h10 [] := KK15.trans K5 (allS (Or.inr (Nat.le_trans (Keep.refl h []).1 (Nat.le_of_eq g6.symm))) all0)
    have hL : Lat cs := fun q hq => by obtain ⟨j, hj, rfl⟩ := List.getElem_of_mem hq; have := hlt j (by omega); simpa [List.getD_eq_getElem?_getD, List.getElem?_eq_getElem hj] using this
    have ev : vs = b8 cs := vs_b8 hvl hcs (fun j q => hvs j (by omega))
    exact w_areturn W13 B d_cmp3_58 rfl rfl hQ (by decide) (by decide) (fun _ q => (List.Mem.tail _ q)) ⟨b3, _, rfl, rfl, Nat.le_of_eq g6.symm, KK16, Or.inl ⟨hL, ev ▸ A5⟩⟩
  ·
    refine w_icmp_eq W13 B d_cmp3_17 (fun q => absurd q (fun q => hie ((n_eq (by omega) hn).mp q))) (fun _ => ?_)
    show G E x T9 (fr x 20 #[.val (.ref a), .val (.int (0 : Int32)), .val (.int n.toInt32), .val (.ref b3), .val (.int i.toInt32), .unset] [])
    refine w_aloadN W13 B d_cmp3_20 rfl rfl ?_
    refine w_iloadN W13 B d_cmp3_21 rfl ?_
    refine w_iloadN W13 B d_cmp3_22 rfl ?_
    refine w_static W13 B (y := ⟨"java/lang/StringUTF16", "toBytes", "([CII)[B"⟩) d_cmp3_23 (wd hw 56 rfl) (wd hw 57 rfl) (wd hw 51 rfl) (wd hw 58 rfl) (by decide) pd___CII__B542 (argsL := [(.ref a), (.int (0 : Int32)), (.int n.toInt32)]) rfl rfl rfl (Wt := 0) (Nat.le_of_eq rfl) (tby_met hw hcs hcap ((Aa.ext X7).keep K5 (ninS (Own.ne_new Aa.lt g6) nin0))) (by decide) (by decide) (by decide) (by decide) ?_
    intro T17 h18 F19 v20 W21 Q22
    obtain ⟨t, kt, rfl, rfl, gt, KT, AT⟩ := Q22
    have AT2 : Arv E.Z h18 t kt .byte (2 * cs.length).toInt32 (b16 cs) (.int 0) := by rw [hcs]; exact AT
    have hi : i < cs.length := by omega
    show G E x T17 (fr x 26 #[.val (.ref a), .val (.int (0 : Int32)), .val (.int n.toInt32), .val (.ref b3), .val (.int i.toInt32), .unset] [(.ref t)])
    refine w_astore W21 B d_cmp3_26 rfl (Ls' := #[.val (.ref a), .val (.int (0 : Int32)), .val (.int n.toInt32), .val (.ref b3), .val (.int i.toInt32), .val (.ref t)]) rfl ?_
    refine w_aload W21 B d_cmp3_28 rfl rfl ?_
    refine w_iload W21 B d_cmp3_30 rfl ?_
    refine w_static W21 B (y := ⟨"java/lang/StringUTF16", "getChar", "([BI)C"⟩) d_cmp3_32 (wd hw 72 rfl) (wd hw 73 rfl) (wd hw 51 rfl) (wd hw 74 rfl) (by decide) pd___BI_C378 (argsL := [(.ref t), (.int i.toInt32)]) rfl rfl rfl (Wt := 0) (Nat.le_of_eq rfl) (gtc_met hw (i := i) hC (by omega) hi AT2) (by decide) (by decide) (by decide) (by decide) ?_
    intro T23 h24 F25 v26 W27 Q28
    obtain ⟨rfl, rfl, rfl⟩ := Q28
    show G E x T23 (fr x 35 #[.val (.ref a), .val (.int (0 : Int32)), .val (.int n.toInt32), .val (.ref b3), .val (.int i.toInt32), .val (.ref t)] [(.int (cs.getD i 0))])
    refine w_sipush W27 B d_cmp3_35 (v := (255 : Int32)) rfl ?_
    refine w_icmp_gt W27 B d_cmp3_38 (fun _ => ?_) (fun q => q (Int32.lt_iff_toInt_lt.mpr (hst (by omega))) |>.elim)
    show G E x T23 (fr x 54 #[.val (.ref a), .val (.int (0 : Int32)), .val (.int n.toInt32), .val (.ref b3), .val (.int i.toInt32), .val (.ref t)] [])
    refine w_aload W27 B d_cmp3_54 rfl rfl ?_
    have KK29 : Keep h h2 [] := (Keep.refl h []).ext X7
    have KK30 : Keep h h10 [] := KK29.trans K5 (allS (Or.inr (Nat.le_trans (Keep.refl h []).1 (Nat.le_of_eq g6.symm))) all0)
    have KK31 : Keep h h18 [] := KK30.trans KT all0
    have hN : ¬ Lat cs := fun q => absurd (hst (by omega)) (Int.not_lt.mpr (lat_at q hi))
    exact w_areturn W27 B d_cmp3_56 rfl rfl hQ (by decide) (by decide) (fun _ q => (List.Mem.tail _ q)) ⟨t, kt, rfl, rfl, Nat.le_trans KK30.1 gt, KK31, Or.inr ⟨hN, AT⟩⟩
set_option maxRecDepth 65536 in
set_option maxHeartbeats 4000000 in
theorem ini4w_met {E : Gl} (hw : Tb E) {h : Heap} {F : List Addr} {s a : Addr} {ka : ClassId} {n : Nat} {cs : List Int32} (hcs : cs.length = n) (h1 : 1 ≤ n) (hcap : n ≤ 32) (hC : Ch cs) (hs : s ∈ F) (Es : Exa E.Z h s "java/lang/String") (fv : Fld E.Z h s "java/lang/String" "value" "[B" .null) (fc : Fld E.Z h s "java/lang/String" "coder" "B" (.int 0)) (Aa : Arv E.Z h a ka .char n.toInt32 (ints cs) (.int 0)) :
    Met E (⟨"java/lang/String", "<init>", "([CIILjava/lang/Void;)V"⟩ : MethodName) jdk_42_method_149_code 6 none ({ frames := 4, cells := 2, slots := 96, locals := 57 } : Room) #[.ref s, .ref a, .int 0, .int n.toInt32, .null] h F (QStr E cs s h F) := by
  refine met_of (by decide +kernel) fun x T hQ B W => ?_
  refine G.cast (g' := fr x 0 #[.val (.ref s), .val (.ref a), .val (.int (0 : Int32)), .val (.int n.toInt32), .val .null, .unset] []) (by simp [entryFrame, mkF, argsToLocals, Own.cat_r, Own.cat_i, Own.cat_j, Own.cat_n]) ?_
  have hn : n < 2 ^ 31 := by omega
  obtain ⟨z, Sc, hz⟩ := compact hw
  refine w_aloadN W B d_ini4_0 rfl rfl ?_
  refine w_initO W B d_ini4_1 (wd hw 46 rfl) (wd hw 47 rfl) (wd hw 48 rfl) rfl (by decide) (Wt := 0) (Nat.le_of_eq rfl) (by decide) ?_
  intro T1 W2
  refine w_iloadN W2 B d_ini4_4 rfl ?_
  refine w_if_ne W2 B d_ini4_5 (fun _ => ?_) (fun q => absurd q (fun q => absurd ((n_eq (i := n) (n := 0) hn (by decide)).mp q) (by omega)))
  show G E x T1 (fr x 27 #[.val (.ref s), .val (.ref a), .val (.int (0 : Int32)), .val (.int n.toInt32), .val .null, .unset] [])
  refine w_getS W2 B d_ini4_27 (wd hw 36 rfl) Via.refl Sc ?_
  intro T3 W4
  refine w_if_eq W4 B d_ini4_30 (fun q => absurd q hz) (fun _ => ?_)
  show G E x T3 (fr x 33 #[.val (.ref s), .val (.ref a), .val (.int (0 : Int32)), .val (.int n.toInt32), .val .null, .unset] [])
  refine w_aloadN W4 B d_ini4_33 rfl rfl ?_
  refine w_iloadN W4 B d_ini4_34 rfl ?_
  refine w_iloadN W4 B d_ini4_35 rfl ?_
  refine w_static W4 B (y := ⟨"java/lang/StringUTF16", "compress", "([CII)[B"⟩) d_ini4_36 (wd hw 49 rfl) (wd hw 50 rfl) (wd hw 51 rfl) (wd hw 52 rfl) (by decide) pd___CII__B542 (argsL := [(.ref a), (.int (0 : Int32)), (.int n.toInt32)]) rfl rfl rfl (Wt := 0) (Nat.le_of_eq rfl) (cmp3w_met hw hcs hcap hC Aa) (by decide) (by decide) (by decide) (by decide) ?_
  intro T5 h6 F7 v8 W9 Q10
  obtain ⟨v, kv, rfl, rfl, gv, K3, A3⟩ := Q10
  rcases A3 with ⟨hL, A3⟩ | ⟨hL, A3⟩
  ·
    show G E x T5 (fr x 39 #[.val (.ref s), .val (.ref a), .val (.int (0 : Int32)), .val (.int n.toInt32), .val .null, .unset] [(.ref v)])
    refine w_astore W9 B d_ini4_39 rfl (Ls' := #[.val (.ref s), .val (.ref a), .val (.int (0 : Int32)), .val (.int n.toInt32), .val .null, .val (.ref v)]) rfl ?_
    refine w_aloadN W9 B d_ini4_41 rfl rfl ?_
    refine w_aload W9 B d_ini4_42 rfl rfl ?_
    refine w_iloadN W9 B d_ini4_44 rfl ?_
    refine w_static W9 B (y := ⟨"java/lang/StringUTF16", "coderFromArrayLen", "([BI)B"⟩) d_ini4_45 (wd hw 75 rfl) (wd hw 76 rfl) (wd hw 51 rfl) (wd hw 77 rfl) (by decide) pd___BI_B377 (argsL := [(.ref v), (.int n.toInt32)]) rfl rfl rfl (Wt := 1) (Nat.le_of_eq rfl) (cod_met hw A3) (by decide) (by decide) (by decide) (by decide) ?_
    intro T11 h12 F13 v14 W15 Q16
    obtain ⟨rfl, rfl, rfl⟩ := Q16
    have ez : lo8 (lo8 (XT.ushr (n.toInt32 - n.toInt32) 31)) = 0 := by rw [Int32.sub_self]; decide
    show G E x T11 (fr x 48 #[.val (.ref s), .val (.ref a), .val (.int (0 : Int32)), .val (.int n.toInt32), .val .null, .val (.ref v)] [(.int (lo8 (lo8 (XT.ushr (n.toInt32 - n.toInt32) 31)))), (.ref s)])
    refine w_putF W15 B d_ini4_48 hs (wd hw 37 rfl) Via.refl (fc.keep K3 nin0) (Es.keep K3) (Or.inr ⟨(wd hw 17 rfl), rfl, rfl⟩) (wd hw 14 rfl) (ty := .byte) (v' := (.int (0 : Int32))) (by decide) (by rw [ez]; rfl) rfl ?_
    intro T17 h18 W19 Y20 f21
    refine w_aloadN W19 B d_ini4_51 rfl rfl ?_
    refine w_aload W19 B d_ini4_52 rfl rfl ?_
    refine w_putF W19 B d_ini4_54 hs (wd hw 30 rfl) Via.refl ((fv.keep K3 nin0).other Y20 (Or.inr (slot_ne (Or.inr (wd hw 16 rfl)) (Or.inr (wd hw 17 rfl)) (t := (.array .byte)) (t' := .byte) (by decide) (by decide) (by decide)))) ((Es.keep K3).wr Y20) (Or.inr ⟨(wd hw 16 rfl), rfl, rfl⟩) (wd hw 14 rfl) (ty := (.array .byte)) (v' := (.ref v)) (by decide) rfl rfl ?_
    intro T22 h23 W24 Y25 f26
    have KK27 : Keep h h6 [s] := (Keep.refl h [s]).trans K3 all0
    have KK28 : Keep h h18 [s] := KK27.wr Y20 (Or.inl (List.Mem.head _))
    have KK29 : Keep h h23 [s] := KK28.wr Y25 (Or.inl (List.Mem.head _))
    exact w_return W24 B d_ini4_57 hQ (by decide) (by decide) (fun _ q => q) ⟨rfl, rfl, KK29, v, ⟨kv, (((Es.keep K3).wr Y20).wr Y25), f26, hC, Or.inl ⟨hL, (f21.other Y25 (Or.inr (slot_ne (Or.inr (wd hw 17 rfl)) (Or.inr (wd hw 16 rfl)) (t := .byte) (t' := (.array .byte)) (by decide) (by decide) (by decide)))), hcs ▸ ((A3.other Y20 (Ne.symm (Nat.ne_of_lt (Nat.lt_of_lt_of_le Es.lt gv)))).other Y25 (Ne.symm (Nat.ne_of_lt (Nat.lt_of_lt_of_le Es.lt gv))))⟩⟩, fun y hy => Nat.ne_of_lt (Nat.lt_of_lt_of_le (W.fOk hy).2 gv)⟩
  ·
    show G E x T5 (fr x 39 #[.val (.ref s), .val (.ref a), .val (.int (0 : Int32)), .val (.int n.toInt32), .val .null, .unset] [(.ref v)])
    refine w_astore W9 B d_ini4_39 rfl (Ls' := #[.val (.ref s), .val (.ref a), .val (.int (0 : Int32)), .val (.int n.toInt32), .val .null, .val (.ref v)]) rfl ?_
    refine w_aloadN W9 B d_ini4_41 rfl rfl ?_
    refine w_aload W9 B d_ini4_42 rfl rfl ?_
    refine w_iloadN W9 B d_ini4_44 rfl ?_
    refine w_static W9 B (y := ⟨"java/lang/StringUTF16", "coderFromArrayLen", "([BI)B"⟩) d_ini4_45 (wd hw 75 rfl) (wd hw 76 rfl) (wd hw 51 rfl) (wd hw 77 rfl) (by decide) pd___BI_B377 (argsL := [(.ref v), (.int n.toInt32)]) rfl rfl rfl (Wt := 1) (Nat.le_of_eq rfl) (cod_met hw A3) (by decide) (by decide) (by decide) (by decide) ?_
    intro T30 h31 F32 v33 W34 Q35
    obtain ⟨rfl, rfl, rfl⟩ := Q35
    have ez : lo8 (lo8 (XT.ushr (n.toInt32 - (2 * n).toInt32) 31)) = 1 := cod16 h1 hcap
    show G E x T30 (fr x 48 #[.val (.ref s), .val (.ref a), .val (.int (0 : Int32)), .val (.int n.toInt32), .val .null, .val (.ref v)] [(.int (lo8 (lo8 (XT.ushr (n.toInt32 - (2 * n).toInt32) 31)))), (.ref s)])
    refine w_putF W34 B d_ini4_48 hs (wd hw 37 rfl) Via.refl (fc.keep K3 nin0) (Es.keep K3) (Or.inr ⟨(wd hw 17 rfl), rfl, rfl⟩) (wd hw 14 rfl) (ty := .byte) (v' := (.int (1 : Int32))) (by decide) (by rw [ez]; rfl) rfl ?_
    intro T36 h37 W38 Y39 f40
    refine w_aloadN W38 B d_ini4_51 rfl rfl ?_
    refine w_aload W38 B d_ini4_52 rfl rfl ?_
    refine w_putF W38 B d_ini4_54 hs (wd hw 30 rfl) Via.refl ((fv.keep K3 nin0).other Y39 (Or.inr (slot_ne (Or.inr (wd hw 16 rfl)) (Or.inr (wd hw 17 rfl)) (t := (.array .byte)) (t' := .byte) (by decide) (by decide) (by decide)))) ((Es.keep K3).wr Y39) (Or.inr ⟨(wd hw 16 rfl), rfl, rfl⟩) (wd hw 14 rfl) (ty := (.array .byte)) (v' := (.ref v)) (by decide) rfl rfl ?_
    intro T41 h42 W43 Y44 f45
    have KK46 : Keep h h6 [s] := (Keep.refl h [s]).trans K3 all0
    have KK47 : Keep h h37 [s] := KK46.wr Y39 (Or.inl (List.Mem.head _))
    have KK48 : Keep h h42 [s] := KK47.wr Y44 (Or.inl (List.Mem.head _))
    exact w_return W43 B d_ini4_57 hQ (by decide) (by decide) (fun _ q => q) ⟨rfl, rfl, KK48, v, ⟨kv, (((Es.keep K3).wr Y39).wr Y44), f45, hC, Or.inr ⟨hL, (f40.other Y44 (Or.inr (slot_ne (Or.inr (wd hw 17 rfl)) (Or.inr (wd hw 16 rfl)) (t := .byte) (t' := (.array .byte)) (by decide) (by decide) (by decide)))), hcs ▸ ((A3.other Y39 (Ne.symm (Nat.ne_of_lt (Nat.lt_of_lt_of_le Es.lt gv)))).other Y44 (Ne.symm (Nat.ne_of_lt (Nat.lt_of_lt_of_le Es.lt gv))))⟩⟩, fun y hy => Nat.ne_of_lt (Nat.lt_of_lt_of_le (W.fOk hy).2 gv)⟩
set_option maxRecDepth 65536 in
set_option maxHeartbeats 4000000 in
theorem ini1w_met {E : Gl} (hw : Tb E) {h : Heap} {F : List Addr} {s a : Addr} {ka : ClassId} {n : Nat} {cs : List Int32} (hcs : cs.length = n) (h1 : 1 ≤ n) (hcap : n ≤ 32) (hC : Ch cs) (hs : s ∈ F) (Es : Exa E.Z h s "java/lang/String") (fv : Fld E.Z h s "java/lang/String" "value" "[B" .null) (fc : Fld E.Z h s "java/lang/String" "coder" "B" (.int 0)) (Aa : Arv E.Z h a ka .char n.toInt32 (ints cs) (.int 0)) :
    Met E (⟨"java/lang/String", "<init>", "([C)V"⟩ : MethodName) jdk_42_method_3_code 2 none ({ frames := 5, cells := 2, slots := 96, locals := 74 } : Room) #[.ref s, .ref a] h F (QStr E cs s h F) := by
  refine met_of (by decide +kernel) fun x T hQ B W => ?_
  refine G.cast (g' := fr x 0 #[.val (.ref s), .val (.ref a)] []) (by simp [entryFrame, mkF, argsToLocals, Own.cat_r, Own.cat_i, Own.cat_j, Own.cat_n]) ?_
  refine w_aloadN W B d_ini1_0 rfl rfl ?_
  refine w_aloadN W B d_ini1_1 rfl rfl ?_
  refine w_iconst W B d_ini1_2 (v := (0 : Int32)) rfl ?_
  refine w_aloadN W B d_ini1_3 rfl rfl ?_
  refine w_arraylength W B d_ini1_4 Aa ?_
  refine w_null W B d_ini1_5 ?_
  refine w_special W B (y := ⟨"java/lang/String", "<init>", "([CIILjava/lang/Void;)V"⟩) d_ini1_6 rfl (wd hw 42 rfl) (wd hw 43 rfl) (wd hw 13 rfl) (wd hw 45 rfl) (by decide) pd___CIILjava_lang_Void__V941 (argsL := [(.ref a), (.int (0 : Int32)), (.int n.toInt32), .null]) rfl rfl rfl (Wt := 0) (Nat.le_of_eq rfl) (ini4w_met hw hcs h1 hcap hC hs Es fv fc Aa) (by decide) (by decide) (by decide) (by decide) ?_
  intro T1 h2 F3 v4 W5 Q6
  obtain ⟨rfl, rfl, K4, v, S4, hv⟩ := Q6
  show G E x T1 (fr x 9 #[.val (.ref s), .val (.ref a)] [])
  exact w_return W5 B d_ini1_9 hQ (by decide) (by decide) (fun _ q => q) ⟨rfl, rfl, K4, v, S4, hv⟩
set_option maxRecDepth 65536 in
set_option maxHeartbeats 4000000 in
theorem pchk_met {E : Gl} (hw : Tb E) {h : Heap} {F : List Addr} {i n : Int32} {f : Value} (rf : f.isRef = true) (hi : ¬ i < 0 ∧ i < n) :
    Met E (⟨"jdk/internal/util/Preconditions", "checkIndex", "(IILjava/util/function/BiFunction;)I"⟩ : MethodName) jdk_41_method_11_code 3 (some .int) ({ frames := 0, cells := 0, slots := 0, locals := 0 } : Room) #[.int i, .int n, f] h F (fun r h' F' => r = some (.int i) ∧ h = h' ∧ F = F') := by
  refine met_of (by decide +kernel) fun x T hQ B W => ?_
  refine G.cast (g' := fr x 0 #[.val (.int i), .val (.int n), .val f] []) (by simp [entryFrame, mkF, argsToLocals, Own.cat_r, Own.cat_i, Own.cat_j, Own.cat_n, cat_ref rf]) ?_
  refine w_iloadN W B d_pchk_0 rfl ?_
  refine w_if_lt W B d_pchk_1 (fun q => absurd q hi.1) (fun _ => ?_)
  show G E x T (fr x 4 #[.val (.int i), .val (.int n), .val f] [])
  refine w_iloadN W B d_pchk_4 rfl ?_
  refine w_iloadN W B d_pchk_5 rfl ?_
  refine w_icmp_lt W B d_pchk_6 (fun _ => ?_) (fun q => q hi.2 |>.elim)
  show G E x T (fr x 16 #[.val (.int i), .val (.int n), .val f] [])
  refine w_iloadN W B d_pchk_16 rfl ?_
  exact w_ireturn W B d_pchk_17 hQ (by decide) (by decide) (fun _ q => q) ⟨rfl, rfl, rfl⟩
theorem sioobe {E : Gl} (hw : Tb E) : ∃ f : Value, f.isRef = true ∧ Sta E.Z E.Z.heap "jdk/internal/util/Preconditions" "SIOOBE_FORMATTER" "Ljava/util/function/BiFunction;" f := by
  obtain ⟨f, e, r⟩ := isR_v (Cond.before_iff.mp (sd hw 8 rfl))
  exact ⟨f, r, Sta.start e (Or.inl (sd hw 7 rfl))⟩
set_option maxRecDepth 65536 in
set_option maxHeartbeats 4000000 in
theorem schk_met {E : Gl} (hw : Tb E) {h : Heap} {F : List Addr} {i n : Int32} (hi : ¬ i < 0 ∧ i < n) :
    Met E (⟨"java/lang/String", "checkIndex", "(II)V"⟩ : MethodName) jdk_42_method_155_code 2 none ({ frames := 1, cells := 0, slots := 0, locals := 14 } : Room) #[.int i, .int n] h F (fun r h' F' => r = none ∧ h = h' ∧ F = F') := by
  refine met_of (by decide +kernel) fun x T hQ B W => ?_
  refine G.cast (g' := fr x 0 #[.val (.int i), .val (.int n)] []) (by simp [entryFrame, mkF, argsToLocals, Own.cat_r, Own.cat_i, Own.cat_j, Own.cat_n]) ?_
  obtain ⟨f, rf, Sf⟩ := sioobe hw
  refine w_iloadN W B d_schk_0 rfl ?_
  refine w_iloadN W B d_schk_1 rfl ?_
  refine w_getS W B d_schk_2 (wd hw 91 rfl) Via.refl Sf ?_
  intro T1 W2
  refine w_static W2 B (y := ⟨"jdk/internal/util/Preconditions", "checkIndex", "(IILjava/util/function/BiFunction;)I"⟩) d_schk_5 (wd hw 93 rfl) (wd hw 94 rfl) (wd hw 92 rfl) (wd hw 95 rfl) (by decide) pd__IILjava_util_function_BiFunction__I328 (argsL := [(.int i), (.int n), f]) rfl rfl rfl (Wt := 0) (Nat.le_of_eq rfl) (pchk_met hw rf hi) (by decide) (by decide) (by decide) (by decide) ?_
  intro T3 h4 F5 v6 W7 Q8
  obtain ⟨rfl, rfl, rfl⟩ := Q8
  show G E x T3 (fr x 8 #[.val (.int i), .val (.int n)] [(.int i)])
  refine w_pop W7 B d_schk_8 rfl ?_
  exact w_return W7 B d_schk_9 hQ (by decide) (by decide) (fun _ q => q) ⟨rfl, rfl, rfl⟩
set_option maxRecDepth 65536 in
set_option maxHeartbeats 4000000 in
theorem ihs1_met {E : Gl} (hw : Tb E) {h : Heap} {F : List Addr} {c : Int32} (hc : 55296 ≤ c.toInt ∧ c.toInt ≤ 56319) :
    Met E (⟨"java/lang/Character", "isHighSurrogate", "(C)Z"⟩ : MethodName) jdk_89_method_14_code 1 (some .boolean) ({ frames := 0, cells := 0, slots := 0, locals := 0 } : Room) #[.int c] h F (fun r h' F' => r = some (.int 1) ∧ h = h' ∧ F = F') := by
  refine met_of (by decide +kernel) fun x T hQ B W => ?_
  refine G.cast (g' := fr x 0 #[.val (.int c)] []) (by simp [entryFrame, mkF, argsToLocals, Own.cat_r, Own.cat_i, Own.cat_j, Own.cat_n]) ?_
  refine w_iloadN W B d_ihs_0 rfl ?_
  refine w_ldcI W B d_ihs_1 (wd hw 106 rfl) ?_
  refine w_icmp_lt W B d_ihs_3 (fun q => absurd q (by rw [Int32.lt_iff_toInt_lt]; exact Int.not_lt.mpr hc.1)) (fun _ => ?_)
  show G E x T (fr x 6 #[.val (.int c)] [])
  refine w_iloadN W B d_ihs_6 rfl ?_
  refine w_ldcI W B d_ihs_7 (wd hw 112 rfl) ?_
  refine w_icmp_ge W B d_ihs_9 (fun q => q (Int32.lt_iff_toInt_lt.mpr (Int.lt_add_one_of_le hc.2)) |>.elim) (fun _ => ?_)
  show G E x T (fr x 12 #[.val (.int c)] [])
  refine w_iconst W B d_ihs_12 (v := (1 : Int32)) rfl ?_
  refine w_goto W B d_ihs_13 ?_
  exact w_ireturnN W B d_ihs_17 (Or.inl rfl) (u := 1) rfl hQ (by decide) (by decide) (fun _ q => q) ⟨rfl, rfl, rfl⟩
set_option maxRecDepth 65536 in
set_option maxHeartbeats 4000000 in
theorem ihs0_met {E : Gl} (hw : Tb E) {h : Heap} {F : List Addr} {c : Int32} (hc : ¬ (55296 ≤ c.toInt ∧ c.toInt ≤ 56319)) :
    Met E (⟨"java/lang/Character", "isHighSurrogate", "(C)Z"⟩ : MethodName) jdk_89_method_14_code 1 (some .boolean) ({ frames := 0, cells := 0, slots := 0, locals := 0 } : Room) #[.int c] h F (fun r h' F' => r = some (.int 0) ∧ h = h' ∧ F = F') := by
  refine met_of (by decide +kernel) fun x T hQ B W => ?_
  refine G.cast (g' := fr x 0 #[.val (.int c)] []) (by simp [entryFrame, mkF, argsToLocals, Own.cat_r, Own.cat_i, Own.cat_j, Own.cat_n]) ?_
  refine w_iloadN W B d_ihs_0 rfl ?_
  refine w_ldcI W B d_ihs_1 (wd hw 106 rfl) ?_
  refine w_icmp_lt W B d_ihs_3 ?_ ?_
  · intro hc3
    show G E x T (fr x 16 #[.val (.int c)] [])
    refine w_iconst W B d_ihs_16 (v := (0 : Int32)) rfl ?_
    exact w_ireturnN W B d_ihs_17 (Or.inl rfl) (u := 0) rfl hQ (by decide) (by decide) (fun _ q => q) ⟨rfl, rfl, rfl⟩
  · intro hc3
    show G E x T (fr x 6 #[.val (.int c)] [])
    refine w_iloadN W B d_ihs_6 rfl ?_
    refine w_ldcI W B d_ihs_7 (wd hw 112 rfl) ?_
    refine w_icmp_ge W B d_ihs_9 (fun _ => ?_) (fun q => absurd q (fun q => hc ⟨Int.not_lt.mp fun r => hc3 (Int32.lt_iff_toInt_lt.mpr r), Int.le_of_lt_add_one (Int32.lt_iff_toInt_lt.mp q)⟩))
    show G E x T (fr x 16 #[.val (.int c)] [])
    refine w_iconst W B d_ihs_16 (v := (0 : Int32)) rfl ?_
    exact w_ireturnN W B d_ihs_17 (Or.inl rfl) (u := 0) rfl hQ (by decide) (by decide) (fun _ q => q) ⟨rfl, rfl, rfl⟩
set_option maxRecDepth 65536 in
set_option maxHeartbeats 4000000 in
theorem ils1_met {E : Gl} (hw : Tb E) {h : Heap} {F : List Addr} {c : Int32} (hc : 56320 ≤ c.toInt ∧ c.toInt ≤ 57343) :
    Met E (⟨"java/lang/Character", "isLowSurrogate", "(C)Z"⟩ : MethodName) jdk_89_method_15_code 1 (some .boolean) ({ frames := 0, cells := 0, slots := 0, locals := 0 } : Room) #[.int c] h F (fun r h' F' => r = some (.int 1) ∧ h = h' ∧ F = F') := by
  refine met_of (by decide +kernel) fun x T hQ B W => ?_
  refine G.cast (g' := fr x 0 #[.val (.int c)] []) (by simp [entryFrame, mkF, argsToLocals, Own.cat_r, Own.cat_i, Own.cat_j, Own.cat_n]) ?_
  refine w_iloadN W B d_ils_0 rfl ?_
  refine w_ldcI W B d_ils_1 (wd hw 112 rfl) ?_
  refine w_icmp_lt W B d_ils_3 (fun q => absurd q (by rw [Int32.lt_iff_toInt_lt]; exact Int.not_lt.mpr hc.1)) (fun _ => ?_)
  show G E x T (fr x 6 #[.val (.int c)] [])
  refine w_iloadN W B d_ils_6 rfl ?_
  refine w_ldcI W B d_ils_7 (wd hw 116 rfl) ?_
  refine w_icmp_ge W B d_ils_9 (fun q => q (Int32.lt_iff_toInt_lt.mpr (Int.lt_add_one_of_le hc.2)) |>.elim) (fun _ => ?_)
  show G E x T (fr x 12 #[.val (.int c)] [])
  refine w_iconst W B d_ils_12 (v := (1 : Int32)) rfl ?_
  refine w_goto W B d_ils_13 ?_
  exact w_ireturnN W B d_ils_17 (Or.inl rfl) (u := 1) rfl hQ (by decide) (by decide) (fun _ q => q) ⟨rfl, rfl, rfl⟩
set_option maxRecDepth 65536 in
set_option maxHeartbeats 4000000 in
theorem tcp_met {E : Gl} (hw : Tb E) {h : Heap} {F : List Addr} {a b : Int32} :
    Met E (⟨"java/lang/Character", "toCodePoint", "(CC)I"⟩ : MethodName) jdk_89_method_19_code 2 (some .int) ({ frames := 0, cells := 0, slots := 0, locals := 0 } : Room) #[.int a, .int b] h F (fun r h' F' => r = some (.int (toCp a b)) ∧ h = h' ∧ F = F') := by
  refine met_of (by decide +kernel) fun x T hQ B W => ?_
  refine G.cast (g' := fr x 0 #[.val (.int a), .val (.int b)] []) (by simp [entryFrame, mkF, argsToLocals, Own.cat_r, Own.cat_i, Own.cat_j, Own.cat_n]) ?_
  refine w_iloadN W B d_tcp_0 rfl ?_
  refine w_bipush W B d_tcp_1 (v := (10 : Int32)) rfl ?_
  refine w_ishl W B d_tcp_3 ?_
  refine w_iloadN W B d_tcp_4 rfl ?_
  refine w_iadd W B d_tcp_5 ?_
  refine w_ldcI W B d_tcp_6 (wd hw 120 rfl) ?_
  refine w_iadd W B d_tcp_8 ?_
  exact w_ireturn W B d_tcp_9 hQ (by decide) (by decide) (fun _ q => q) ⟨rfl, rfl, rfl⟩
set_option maxRecDepth 65536 in
set_option maxHeartbeats 4000000 in
theorem chc1_met {E : Gl} (hw : Tb E) {h : Heap} {F : List Addr} {c : Int32} (hc : c < 65536) :
    Met E (⟨"java/lang/Character", "charCount", "(I)I"⟩ : MethodName) jdk_89_method_18_code 1 (some .int) ({ frames := 0, cells := 0, slots := 0, locals := 0 } : Room) #[.int c] h F (fun r h' F' => r = some (.int 1) ∧ h = h' ∧ F = F') := by
  refine met_of (by decide +kernel) fun x T hQ B W => ?_
  refine G.cast (g' := fr x 0 #[.val (.int c)] []) (by simp [entryFrame, mkF, argsToLocals, Own.cat_r, Own.cat_i, Own.cat_j, Own.cat_n]) ?_
  refine w_iloadN W B d_chc_0 rfl ?_
  refine w_ldcI W B d_chc_1 (wd hw 111 rfl) ?_
  refine w_icmp_lt W B d_chc_3 (fun _ => ?_) (fun q => q hc |>.elim)
  show G E x T (fr x 10 #[.val (.int c)] [])
  refine w_iconst W B d_chc_10 (v := (1 : Int32)) rfl ?_
  exact w_ireturn W B d_chc_11 hQ (by decide) (by decide) (fun _ q => q) ⟨rfl, rfl, rfl⟩
set_option maxRecDepth 65536 in
set_option maxHeartbeats 4000000 in
theorem chc2_met {E : Gl} (hw : Tb E) {h : Heap} {F : List Addr} {c : Int32} (hc : ¬ c < 65536) :
    Met E (⟨"java/lang/Character", "charCount", "(I)I"⟩ : MethodName) jdk_89_method_18_code 1 (some .int) ({ frames := 0, cells := 0, slots := 0, locals := 0 } : Room) #[.int c] h F (fun r h' F' => r = some (.int 2) ∧ h = h' ∧ F = F') := by
  refine met_of (by decide +kernel) fun x T hQ B W => ?_
  refine G.cast (g' := fr x 0 #[.val (.int c)] []) (by simp [entryFrame, mkF, argsToLocals, Own.cat_r, Own.cat_i, Own.cat_j, Own.cat_n]) ?_
  refine w_iloadN W B d_chc_0 rfl ?_
  refine w_ldcI W B d_chc_1 (wd hw 111 rfl) ?_
  refine w_icmp_lt W B d_chc_3 (fun q => absurd q hc) (fun _ => ?_)
  show G E x T (fr x 6 #[.val (.int c)] [])
  refine w_iconst W B d_chc_6 (v := (2 : Int32)) rfl ?_
  refine w_goto W B d_chc_7 ?_
  exact w_ireturn W B d_chc_11 hQ (by decide) (by decide) (fun _ q => q) ⟨rfl, rfl, rfl⟩
set_option maxRecDepth 65536 in
set_option maxHeartbeats 4000000 in
theorem cpz_met {E : Gl} (hw : Tb E) {h : Heap} {F : List Addr} {v : Addr} {k : ClassId} {cs : List Int32} {i : Nat} (hC : Ch cs) (hcap : cs.length ≤ 32) (hi : i < cs.length) (hp : hi1 (cs.getD i 0) → i + 1 < cs.length ∧ 56320 ≤ (cs.getD (i + 1) 0).toInt ∧ (cs.getD (i + 1) 0).toInt ≤ 57343) (Av : Arv E.Z h v k .byte (2 * cs.length).toInt32 (b16 cs) (.int 0)) :
    Met E (⟨"java/lang/StringUTF16", "codePointAt", "([BIIZ)I"⟩ : MethodName) jdk_52_method_7_code 6 (some .int) ({ frames := 1, cells := 0, slots := 0, locals := 13 } : Room) #[.ref v, .int i.toInt32, .int cs.length.toInt32, .int 0] h F (fun r h' F' => r = some (.int (cpt cs i)) ∧ h = h' ∧ F = F') := by
  refine met_of (by decide +kernel) fun x T hQ B W => ?_
  refine G.cast (g' := fr x 0 #[.val (.ref v), .val (.int i.toInt32), .val (.int cs.length.toInt32), .val (.int (0 : Int32)), .unset, .unset] []) (by simp [entryFrame, mkF, argsToLocals, Own.cat_r, Own.cat_i, Own.cat_j, Own.cat_n]) ?_
  refine w_getS W B d_cpz_0 (wd hw 69 rfl) Via.refl (u16a hw) ?_
  intro T1 W2
  refine w_if_ne W2 B d_cpz_3 (fun _ => ?_) (fun q => absurd q (by decide))
  show G E x T1 (fr x 19 #[.val (.ref v), .val (.int i.toInt32), .val (.int cs.length.toInt32), .val (.int (0 : Int32)), .unset, .unset] [])
  refine w_iloadN W2 B d_cpz_19 rfl ?_
  refine w_if_eq W2 B d_cpz_20 (fun _ => ?_) (fun q => q rfl |>.elim)
  show G E x T1 (fr x 28 #[.val (.ref v), .val (.int i.toInt32), .val (.int cs.length.toInt32), .val (.int (0 : Int32)), .unset, .unset] [])
  refine w_aloadN W2 B d_cpz_28 rfl rfl ?_
  refine w_iloadN W2 B d_cpz_29 rfl ?_
  refine w_static W2 B (y := ⟨"java/lang/StringUTF16", "getChar", "([BI)C"⟩) d_cpz_30 (wd hw 72 rfl) (wd hw 73 rfl) (wd hw 51 rfl) (wd hw 74 rfl) (by decide) pd___BI_C378 (argsL := [(.ref v), (.int i.toInt32)]) rfl rfl rfl (Wt := 0) (Nat.le_of_eq rfl) (gtc_met hw (i := i) hC hcap hi Av) (by decide) (by decide) (by decide) (by decide) ?_
  intro T3 h4 F5 v6 W7 Q8
  obtain ⟨rfl, rfl, rfl⟩ := Q8
  show G E x T3 (fr x 33 #[.val (.ref v), .val (.int i.toInt32), .val (.int cs.length.toInt32), .val (.int (0 : Int32)), .unset, .unset] [(.int (cs.getD i 0))])
  refine w_istore W7 B d_cpz_33 (Ls' := #[.val (.ref v), .val (.int i.toInt32), .val (.int cs.length.toInt32), .val (.int (0 : Int32)), .val (.int (cs.getD i 0)), .unset]) rfl ?_
  refine w_iload W7 B d_cpz_35 rfl ?_
  by_cases hh : hi1 (cs.getD i 0)
  ·
    refine w_static W7 B (y := ⟨"java/lang/Character", "isHighSurrogate", "(C)Z"⟩) d_cpz_37 (wd hw 102 rfl) (wd hw 103 rfl) (wd hw 104 rfl) (wd hw 105 rfl) (by decide) pd__C_Z238 (argsL := [(.int (cs.getD i 0))]) rfl rfl rfl (Wt := 0) (Nat.le_of_eq rfl) (ihs1_met hw hh) (by decide) (by decide) (by decide) (by decide) ?_
    intro T9 h10 F11 v12 W13 Q14
    obtain ⟨rfl, rfl, rfl⟩ := Q14
    show G E x T9 (fr x 40 #[.val (.ref v), .val (.int i.toInt32), .val (.int cs.length.toInt32), .val (.int (0 : Int32)), .val (.int (cs.getD i 0)), .unset] [(.int (1 : Int32))])
    refine w_if_eq W13 B d_cpz_40 (fun q => absurd q (by decide)) (fun _ => ?_)
    show G E x T9 (fr x 43 #[.val (.ref v), .val (.int i.toInt32), .val (.int cs.length.toInt32), .val (.int (0 : Int32)), .val (.int (cs.getD i 0)), .unset] [])
    refine w_iinc W13 B d_cpz_43 rfl (w := (i + 1).toInt32) (n_succ i) (Ls' := #[.val (.ref v), .val (.int (i + 1).toInt32), .val (.int cs.length.toInt32), .val (.int (0 : Int32)), .val (.int (cs.getD i 0)), .unset]) rfl ?_
    refine w_iloadN W13 B d_cpz_46 rfl ?_
    refine w_iloadN W13 B d_cpz_47 rfl ?_
    refine w_icmp_ge W13 B d_cpz_48 (fun q => q ((n_lt (by omega) (by omega)).mpr (hp hh).1) |>.elim) (fun _ => ?_)
    show G E x T9 (fr x 51 #[.val (.ref v), .val (.int (i + 1).toInt32), .val (.int cs.length.toInt32), .val (.int (0 : Int32)), .val (.int (cs.getD i 0)), .unset] [])
    refine w_iloadN W13 B d_cpz_51 rfl ?_
    refine w_if_eq W13 B d_cpz_52 (fun _ => ?_) (fun q => q rfl |>.elim)
    show G E x T9 (fr x 60 #[.val (.ref v), .val (.int (i + 1).toInt32), .val (.int cs.length.toInt32), .val (.int (0 : Int32)), .val (.int (cs.getD i 0)), .unset] [])
    refine w_aloadN W13 B d_cpz_60 rfl rfl ?_
    refine w_iloadN W13 B d_cpz_61 rfl ?_
    refine w_static W13 B (y := ⟨"java/lang/StringUTF16", "getChar", "([BI)C"⟩) d_cpz_62 (wd hw 72 rfl) (wd hw 73 rfl) (wd hw 51 rfl) (wd hw 74 rfl) (by decide) pd___BI_C378 (argsL := [(.ref v), (.int (i + 1).toInt32)]) rfl rfl rfl (Wt := 0) (Nat.le_of_eq rfl) (gtc_met hw (i := (i + 1)) hC hcap (hp hh).1 Av) (by decide) (by decide) (by decide) (by decide) ?_
    intro T15 h16 F17 v18 W19 Q20
    obtain ⟨rfl, rfl, rfl⟩ := Q20
    show G E x T15 (fr x 65 #[.val (.ref v), .val (.int (i + 1).toInt32), .val (.int cs.length.toInt32), .val (.int (0 : Int32)), .val (.int (cs.getD i 0)), .unset] [(.int (cs.getD (i + 1) 0))])
    refine w_istore W19 B d_cpz_65 (Ls' := #[.val (.ref v), .val (.int (i + 1).toInt32), .val (.int cs.length.toInt32), .val (.int (0 : Int32)), .val (.int (cs.getD i 0)), .val (.int (cs.getD (i + 1) 0))]) rfl ?_
    refine w_iload W19 B d_cpz_67 rfl ?_
    refine w_static W19 B (y := ⟨"java/lang/Character", "isLowSurrogate", "(C)Z"⟩) d_cpz_69 (wd hw 113 rfl) (wd hw 114 rfl) (wd hw 104 rfl) (wd hw 115 rfl) (by decide) pd__C_Z238 (argsL := [(.int (cs.getD (i + 1) 0))]) rfl rfl rfl (Wt := 0) (Nat.le_of_eq rfl) (ils1_met hw (hp hh).2) (by decide) (by decide) (by decide) (by decide) ?_
    intro T21 h22 F23 v24 W25 Q26
    obtain ⟨rfl, rfl, rfl⟩ := Q26
    show G E x T21 (fr x 72 #[.val (.ref v), .val (.int (i + 1).toInt32), .val (.int cs.length.toInt32), .val (.int (0 : Int32)), .val (.int (cs.getD i 0)), .val (.int (cs.getD (i + 1) 0))] [(.int (1 : Int32))])
    refine w_if_eq W25 B d_cpz_72 (fun q => absurd q (by decide)) (fun _ => ?_)
    show G E x T21 (fr x 75 #[.val (.ref v), .val (.int (i + 1).toInt32), .val (.int cs.length.toInt32), .val (.int (0 : Int32)), .val (.int (cs.getD i 0)), .val (.int (cs.getD (i + 1) 0))] [])
    refine w_iload W25 B d_cpz_75 rfl ?_
    refine w_iload W25 B d_cpz_77 rfl ?_
    refine w_static W25 B (y := ⟨"java/lang/Character", "toCodePoint", "(CC)I"⟩) d_cpz_79 (wd hw 117 rfl) (wd hw 118 rfl) (wd hw 104 rfl) (wd hw 119 rfl) (by decide) pd__CC_I288 (argsL := [(.int (cs.getD i 0)), (.int (cs.getD (i + 1) 0))]) rfl rfl rfl (Wt := 0) (Nat.le_of_eq rfl) (tcp_met hw) (by decide) (by decide) (by decide) (by decide) ?_
    intro T27 h28 F29 v30 W31 Q32
    obtain ⟨rfl, rfl, rfl⟩ := Q32
    show G E x T27 (fr x 82 #[.val (.ref v), .val (.int (i + 1).toInt32), .val (.int cs.length.toInt32), .val (.int (0 : Int32)), .val (.int (cs.getD i 0)), .val (.int (cs.getD (i + 1) 0))] [(.int (toCp (cs.getD i 0) (cs.getD (i + 1) 0)))])
    exact w_ireturn W31 B d_cpz_82 hQ (by decide) (by decide) (fun _ q => q) ⟨by unfold cpt; rw [if_pos hh], rfl, rfl⟩
  ·
    refine w_static W7 B (y := ⟨"java/lang/Character", "isHighSurrogate", "(C)Z"⟩) d_cpz_37 (wd hw 102 rfl) (wd hw 103 rfl) (wd hw 104 rfl) (wd hw 105 rfl) (by decide) pd__C_Z238 (argsL := [(.int (cs.getD i 0))]) rfl rfl rfl (Wt := 0) (Nat.le_of_eq rfl) (ihs0_met hw hh) (by decide) (by decide) (by decide) (by decide) ?_
    intro T33 h34 F35 v36 W37 Q38
    obtain ⟨rfl, rfl, rfl⟩ := Q38
    show G E x T33 (fr x 40 #[.val (.ref v), .val (.int i.toInt32), .val (.int cs.length.toInt32), .val (.int (0 : Int32)), .val (.int (cs.getD i 0)), .unset] [(.int (0 : Int32))])
    refine w_if_eq W37 B d_cpz_40 (fun _ => ?_) (fun q => q (by decide) |>.elim)
    show G E x T33 (fr x 83 #[.val (.ref v), .val (.int i.toInt32), .val (.int cs.length.toInt32), .val (.int (0 : Int32)), .val (.int (cs.getD i 0)), .unset] [])
    refine w_iload W37 B d_cpz_83 rfl ?_
    exact w_ireturn W37 B d_cpz_85 hQ (by decide) (by decide) (fun _ q => q) ⟨by unfold cpt; rw [if_neg hh], rfl, rfl⟩
set_option maxRecDepth 65536 in
set_option maxHeartbeats 4000000 in
theorem cpy_met {E : Gl} (hw : Tb E) {h : Heap} {F : List Addr} {v : Addr} {k : ClassId} {cs : List Int32} {i : Nat} (hC : Ch cs) (hcap : cs.length ≤ 32) (hi : i < cs.length) (hp : hi1 (cs.getD i 0) → i + 1 < cs.length ∧ 56320 ≤ (cs.getD (i + 1) 0).toInt ∧ (cs.getD (i + 1) 0).toInt ≤ 57343) (Av : Arv E.Z h v k .byte (2 * cs.length).toInt32 (b16 cs) (.int 0)) :
    Met E (⟨"java/lang/StringUTF16", "codePointAt", "([BII)I"⟩ : MethodName) jdk_52_method_8_code 3 (some .int) ({ frames := 2, cells := 0, slots := 0, locals := 30 } : Room) #[.ref v, .int i.toInt32, .int cs.length.toInt32] h F (fun r h' F' => r = some (.int (cpt cs i)) ∧ h = h' ∧ F = F') := by
  refine met_of (by decide +kernel) fun x T hQ B W => ?_
  refine G.cast (g' := fr x 0 #[.val (.ref v), .val (.int i.toInt32), .val (.int cs.length.toInt32)] []) (by simp [entryFrame, mkF, argsToLocals, Own.cat_r, Own.cat_i, Own.cat_j, Own.cat_n]) ?_
  refine w_aloadN W B d_cpy_0 rfl rfl ?_
  refine w_iloadN W B d_cpy_1 rfl ?_
  refine w_iloadN W B d_cpy_2 rfl ?_
  refine w_iconst W B d_cpy_3 (v := (0 : Int32)) rfl ?_
  refine w_static W B (y := ⟨"java/lang/StringUTF16", "codePointAt", "([BIIZ)I"⟩) d_cpy_4 (wd hw 99 rfl) (wd hw 100 rfl) (wd hw 51 rfl) (wd hw 101 rfl) (by decide) pd___BIIZ_I547 (argsL := [(.ref v), (.int i.toInt32), (.int cs.length.toInt32), (.int (0 : Int32))]) rfl rfl rfl (Wt := 0) (Nat.le_of_eq rfl) (cpz_met hw hC hcap hi hp Av) (by decide) (by decide) (by decide) (by decide) ?_
  intro T1 h2 F3 v4 W5 Q6
  obtain ⟨rfl, rfl, rfl⟩ := Q6
  show G E x T1 (fr x 7 #[.val (.ref v), .val (.int i.toInt32), .val (.int cs.length.toInt32)] [(.int (cpt cs i))])
  exact w_ireturn W5 B d_cpy_7 hQ (by decide) (by decide) (fun _ q => q) ⟨rfl, rfl, rfl⟩
set_option maxRecDepth 65536 in
set_option maxHeartbeats 4000000 in
theorem cpx_met {E : Gl} (hw : Tb E) {h : Heap} {F : List Addr} {s v : Addr} {cs : List Int32} {i : Nat} (S : StrV E h s v cs) (hcap : cs.length ≤ 32) (hi : i < cs.length) (hp : hi1 (cs.getD i 0) → i + 1 < cs.length ∧ 56320 ≤ (cs.getD (i + 1) 0).toInt ∧ (cs.getD (i + 1) 0).toInt ≤ 57343) :
    Met E (⟨"java/lang/String", "codePointAt", "(I)I"⟩ : MethodName) jdk_42_method_57_code 3 (some .int) ({ frames := 3, cells := 0, slots := 0, locals := 44 } : Room) #[.ref s, .int i.toInt32] h F (fun r h' F' => r = some (.int (cpt cs i)) ∧ h = h' ∧ F = F') := by
  refine met_of (by decide +kernel) fun x T hQ B W => ?_
  refine G.cast (g' := fr x 0 #[.val (.ref s), .val (.int i.toInt32), .unset] []) (by simp [entryFrame, mkF, argsToLocals, Own.cat_r, Own.cat_i, Own.cat_j, Own.cat_n]) ?_
  obtain ⟨k, h1, h2, h3, h4⟩ := S
  rcases h4 with ⟨hL, fc, A⟩ | ⟨hL, fc, A⟩
  ·
    refine w_aloadN W B d_cpx_0 rfl rfl ?_
    refine w_virtual W B (y := ⟨"java/lang/String", "isLatin1", "()Z"⟩) (z := ⟨"java/lang/String", "isLatin1", "()Z"⟩) d_cpx_1 (wd hw 83 rfl) (wd hw 84 rfl) (nf_sel (wd hw 86 rfl)) (wd hw 86 rfl) (wd hw 85 rfl) (wd hw 13 rfl) (wd hw 87 rfl) (by decide) h1 pd___Z171 (argsL := []) rfl rfl rfl (Wt := 0) (Nat.le_of_eq rfl) (slat_met hw fc) (by decide) (by decide) (by decide) (by decide) ?_
    intro T1 h2 F3 v4 W5 Q6
    obtain ⟨rfl, rfl, rfl⟩ := Q6
    show G E x T1 (fr x 4 #[.val (.ref s), .val (.int i.toInt32), .unset] [(.int (1 : Int32))])
    refine w_if_eq W5 B d_cpx_4 (fun q => absurd q (by decide)) (fun _ => ?_)
    show G E x T1 (fr x 7 #[.val (.ref s), .val (.int i.toInt32), .unset] [])
    refine w_iloadN W5 B d_cpx_7 rfl ?_
    refine w_aloadN W5 B d_cpx_8 rfl rfl ?_
    refine w_getF W5 B d_cpx_9 (wd hw 30 rfl) Via.refl h2 ?_
    intro T7 W8
    refine w_arraylength W8 B d_cpx_12 A ?_
    refine w_static W8 B (y := ⟨"java/lang/String", "checkIndex", "(II)V"⟩) d_cpx_13 (wd hw 88 rfl) (wd hw 89 rfl) (wd hw 13 rfl) (wd hw 90 rfl) (by decide) pd__II_V313 (argsL := [(.int i.toInt32), (.int cs.length.toInt32)]) rfl rfl rfl (Wt := 0) (Nat.le_of_eq rfl) (schk_met hw ⟨n_nn (by omega), (n_lt (by omega) (by omega)).mpr hi⟩) (by decide) (by decide) (by decide) (by decide) ?_
    intro T9 h10 F11 v12 W13 Q14
    obtain ⟨rfl, rfl, rfl⟩ := Q14
    show G E x T9 (fr x 16 #[.val (.ref s), .val (.int i.toInt32), .unset] [])
    refine w_aloadN W13 B d_cpx_16 rfl rfl ?_
    refine w_getF W13 B d_cpx_17 (wd hw 30 rfl) Via.refl h2 ?_
    intro T15 W16
    refine w_iloadN W16 B d_cpx_20 rfl ?_
    refine w_baload W16 B d_cpx_21 A ⟨n_nn (by omega), (n_lt (by omega) (by omega)).mpr hi⟩ (v := .int (lo8 (cs.getD i 0))) (by rw [n_clamp (by omega)]; exact b8_at hi _) ?_
    refine w_sipush W16 B d_cpx_22 (v := (255 : Int32)) rfl ?_
    refine w_iand W16 B d_cpx_25 ?_
    rw [lo8_mask (ch_at h3 hi).1 (lat_at hL hi)]
    show G E x T15 (fr x 26 #[.val (.ref s), .val (.int i.toInt32), .unset] [(.int (cs.getD i 0))])
    exact w_ireturn W16 B d_cpx_26 hQ (by decide) (by decide) (fun _ q => q) ⟨by unfold cpt; rw [if_neg (fun q => by have := lat_at hL hi; have := q.1; omega)], rfl, rfl⟩
  ·
    refine w_aloadN W B d_cpx_0 rfl rfl ?_
    refine w_virtual W B (y := ⟨"java/lang/String", "isLatin1", "()Z"⟩) (z := ⟨"java/lang/String", "isLatin1", "()Z"⟩) d_cpx_1 (wd hw 83 rfl) (wd hw 84 rfl) (nf_sel (wd hw 86 rfl)) (wd hw 86 rfl) (wd hw 85 rfl) (wd hw 13 rfl) (wd hw 87 rfl) (by decide) h1 pd___Z171 (argsL := []) rfl rfl rfl (Wt := 0) (Nat.le_of_eq rfl) (slat0_met hw fc) (by decide) (by decide) (by decide) (by decide) ?_
    intro T1 h2 F3 v4 W5 Q6
    obtain ⟨rfl, rfl, rfl⟩ := Q6
    show G E x T1 (fr x 4 #[.val (.ref s), .val (.int i.toInt32), .unset] [(.int (0 : Int32))])
    refine w_if_eq W5 B d_cpx_4 (fun _ => ?_) (fun q => q (by decide) |>.elim)
    show G E x T1 (fr x 27 #[.val (.ref s), .val (.int i.toInt32), .unset] [])
    refine w_aloadN W5 B d_cpx_27 rfl rfl ?_
    refine w_getF W5 B d_cpx_28 (wd hw 30 rfl) Via.refl h2 ?_
    intro T7 W8
    refine w_arraylength W8 B d_cpx_31 A ?_
    refine w_iconst W8 B d_cpx_32 (v := (1 : Int32)) rfl ?_
    refine w_ishr W8 B d_cpx_33 ?_
    rw [shr1 (by omega)]
    show G E x T7 (fr x 34 #[.val (.ref s), .val (.int i.toInt32), .unset] [(.int cs.length.toInt32)])
    refine w_istoreN W8 B d_cpx_34 (Ls' := #[.val (.ref s), .val (.int i.toInt32), .val (.int cs.length.toInt32)]) rfl ?_
    refine w_iloadN W8 B d_cpx_35 rfl ?_
    refine w_iloadN W8 B d_cpx_36 rfl ?_
    refine w_static W8 B (y := ⟨"java/lang/String", "checkIndex", "(II)V"⟩) d_cpx_37 (wd hw 88 rfl) (wd hw 89 rfl) (wd hw 13 rfl) (wd hw 90 rfl) (by decide) pd__II_V313 (argsL := [(.int i.toInt32), (.int cs.length.toInt32)]) rfl rfl rfl (Wt := 0) (Nat.le_of_eq rfl) (schk_met hw ⟨n_nn (by omega), (n_lt (by omega) (by omega)).mpr hi⟩) (by decide) (by decide) (by decide) (by decide) ?_
    intro T9 h10 F11 v12 W13 Q14
    obtain ⟨rfl, rfl, rfl⟩ := Q14
    show G E x T9 (fr x 40 #[.val (.ref s), .val (.int i.toInt32), .val (.int cs.length.toInt32)] [])
    refine w_aloadN W13 B d_cpx_40 rfl rfl ?_
    refine w_getF W13 B d_cpx_41 (wd hw 30 rfl) Via.refl h2 ?_
    intro T15 W16
    refine w_iloadN W16 B d_cpx_44 rfl ?_
    refine w_iloadN W16 B d_cpx_45 rfl ?_
    refine w_static W16 B (y := ⟨"java/lang/StringUTF16", "codePointAt", "([BII)I"⟩) d_cpx_46 (wd hw 96 rfl) (wd hw 97 rfl) (wd hw 51 rfl) (wd hw 98 rfl) (by decide) pd___BII_I457 (argsL := [(.ref v), (.int i.toInt32), (.int cs.length.toInt32)]) rfl rfl rfl (Wt := 0) (Nat.le_of_eq rfl) (cpy_met hw h3 hcap hi hp A) (by decide) (by decide) (by decide) (by decide) ?_
    intro T17 h18 F19 v20 W21 Q22
    obtain ⟨rfl, rfl, rfl⟩ := Q22
    show G E x T17 (fr x 49 #[.val (.ref s), .val (.int i.toInt32), .val (.int cs.length.toInt32)] [(.int (cpt cs i))])
    exact w_ireturn W21 B d_cpx_49 hQ (by decide) (by decide) (fun _ q => q) ⟨rfl, rfl, rfl⟩
set_option maxRecDepth 65536 in
set_option maxHeartbeats 4000000 in
theorem req_turns {E : Gl} (hw : Tb E) {x : Cx} {h : Heap} {F : List Addr} {s v nm : Addr} {cs : List Int32} (hQ : x.Q = (fun r h' F' => r = none ∧ h = h' ∧ F = F')) (B : Is x "com/example/lease/lease/NewJob" prog_14_method_20_code 4 ({ frames := 4, cells := 0, slots := 0, locals := 58 } : Room) none "requireWholeCharacters") (hcap : cs.length ≤ 32) (S : StrV E h s v cs) :
    ∀ (r i : Nat) (T : State) (s3 : Slot), cs.length + 1 ≤ i + r ∧ i ≤ cs.length → LS s3 → Wk E x T h F 0 0 → WF (cs.drop i) → G E x T (fr x 2 #[.val (.ref s), .val (.ref nm), .val (.int i.toInt32), s3] []) := by
  intro r
  induction r with
  | zero => intro i T s3 hir; omega
  | succ r ih =>
    intro i T s3 hir hs3 W hwf
    rcases hwf.inv with hdr | ⟨c, r', hdr, c0, c1, c2, hwr⟩ | ⟨a, b, r', hdr, a0, a1, b0, b1, hwr⟩
    · skip
      have hge := drop_n hdr
      refine w_iloadN W B d_req_2 rfl ?_
      refine w_aloadN W B d_req_3 rfl rfl ?_
      refine w_virtual W B (y := ⟨"java/lang/String", "length", "()I"⟩) (z := ⟨"java/lang/String", "length", "()I"⟩) d_req_4 (wd hw 25 rfl) (wd hw 26 rfl) (nf_sel (wd hw 28 rfl)) (wd hw 28 rfl) (wd hw 27 rfl) (wd hw 13 rfl) (wd hw 29 rfl) (by decide) S.exa pd___I154 (argsL := []) rfl rfl rfl (Wt := 1) (Nat.le_of_eq rfl) (slenv_met hw S hcap) (by decide) (by decide) (by decide) (by decide) ?_
      intro T1 h2 F3 v4 W5 Q6
      obtain ⟨rfl, rfl, rfl⟩ := Q6
      show G E x T1 (fr x 7 #[.val (.ref s), .val (.ref nm), .val (.int i.toInt32), s3] [(.int cs.length.toInt32), (.int i.toInt32)])
      refine w_icmp_ge W5 B d_req_7 (fun _ => ?_) (fun q => absurd q (by rw [n_lt (by omega) (by omega)]; omega))
      show G E x T1 (fr x 73 #[.val (.ref s), .val (.ref nm), .val (.int i.toInt32), s3] [])
      exact w_return W5 B d_req_73 hQ (by decide) (by decide) (fun _ q => q) ⟨rfl, rfl, rfl⟩
    · skip
      obtain ⟨hi, ec, er⟩ := drop_c hdr
      have hp : hi1 (cs.getD i 0) → i + 1 < cs.length ∧ 56320 ≤ (cs.getD (i + 1) 0).toInt ∧ (cs.getD (i + 1) 0).toInt ≤ 57343 := fun q => by rw [ec] at q; have := q.1; have := q.2; omega
      have ecp : cpt cs i = cs.getD i 0 := by unfold cpt; rw [if_neg (fun q => by rw [ec] at q; have := q.1; have := q.2; omega)]
      have hpl : cpt cs i < 55296 ∨ 57343 < cpt cs i := by rw [ecp, ec]; exact c2.imp Int32.lt_iff_toInt_lt.mpr Int32.lt_iff_toInt_lt.mpr
      have hsm : cpt cs i < 65536 := by rw [ecp, ec]; exact Int32.lt_iff_toInt_lt.mpr (Int.lt_of_le_of_lt c1 (by decide))
      rw [← er] at hwr
      refine w_iloadN W B d_req_2 rfl ?_
      refine w_aloadN W B d_req_3 rfl rfl ?_
      refine w_virtual W B (y := ⟨"java/lang/String", "length", "()I"⟩) (z := ⟨"java/lang/String", "length", "()I"⟩) d_req_4 (wd hw 25 rfl) (wd hw 26 rfl) (nf_sel (wd hw 28 rfl)) (wd hw 28 rfl) (wd hw 27 rfl) (wd hw 13 rfl) (wd hw 29 rfl) (by decide) S.exa pd___I154 (argsL := []) rfl rfl rfl (Wt := 1) (Nat.le_of_eq rfl) (slenv_met hw S hcap) (by decide) (by decide) (by decide) (by decide) ?_
      intro T1 h2 F3 v4 W5 Q6
      obtain ⟨rfl, rfl, rfl⟩ := Q6
      show G E x T1 (fr x 7 #[.val (.ref s), .val (.ref nm), .val (.int i.toInt32), s3] [(.int cs.length.toInt32), (.int i.toInt32)])
      refine w_icmp_ge W5 B d_req_7 (fun q => q ((n_lt (by omega) (by omega)).mpr hi) |>.elim) (fun _ => ?_)
      show G E x T1 (fr x 10 #[.val (.ref s), .val (.ref nm), .val (.int i.toInt32), s3] [])
      refine w_aloadN W5 B d_req_10 rfl rfl ?_
      refine w_iloadN W5 B d_req_11 rfl ?_
      refine w_virtual W5 B (y := ⟨"java/lang/String", "codePointAt", "(I)I"⟩) (z := ⟨"java/lang/String", "codePointAt", "(I)I"⟩) d_req_12 (wd hw 78 rfl) (wd hw 79 rfl) (nf_sel (wd hw 81 rfl)) (wd hw 81 rfl) (wd hw 80 rfl) (wd hw 13 rfl) (wd hw 82 rfl) (by decide) S.exa pd__I_I227 (argsL := [(.int i.toInt32)]) rfl rfl rfl (Wt := 0) (Nat.le_of_eq rfl) (cpx_met hw (i := i) S hcap hi hp) (by decide) (by decide) (by decide) (by decide) ?_
      intro T7 h8 F9 v10 W11 Q12
      obtain ⟨rfl, rfl, rfl⟩ := Q12
      show G E x T7 (fr x 15 #[.val (.ref s), .val (.ref nm), .val (.int i.toInt32), s3] [(.int (cpt cs i))])
      refine w_istoreN W11 B d_req_15 (Ls' := #[.val (.ref s), .val (.ref nm), .val (.int i.toInt32), .val (.int (cpt cs i))]) (store_lit [.val (.ref s), .val (.ref nm), .val (.int i.toInt32)] [] hs3 _) ?_
      refine w_iloadN W11 B d_req_16 rfl ?_
      refine w_ldcI W11 B d_req_17 (wd hw 107 rfl) ?_
      refine w_icmp_lt W11 B d_req_19 ?_ ?_
      · intro hc19
        show G E x T7 (fr x 63 #[.val (.ref s), .val (.ref nm), .val (.int i.toInt32), .val (.int (cpt cs i))] [])
        refine w_iloadN W11 B d_req_63 rfl ?_
        refine w_iloadN W11 B d_req_64 rfl ?_
        refine w_static W11 B (y := ⟨"java/lang/Character", "charCount", "(I)I"⟩) d_req_65 (wd hw 108 rfl) (wd hw 109 rfl) (wd hw 104 rfl) (wd hw 110 rfl) (by decide) pd__I_I227 (argsL := [(.int (cpt cs i))]) rfl rfl rfl (Wt := 1) (Nat.le_of_eq rfl) (chc1_met hw hsm) (by decide) (by decide) (by decide) (by decide) ?_
        intro T13 h14 F15 v16 W17 Q18
        obtain ⟨rfl, rfl, rfl⟩ := Q18
        show G E x T13 (fr x 68 #[.val (.ref s), .val (.ref nm), .val (.int i.toInt32), .val (.int (cpt cs i))] [(.int (1 : Int32)), (.int i.toInt32)])
        refine w_iadd W17 B d_req_68 ?_
        rw [show i.toInt32 + (1 : Int32) = (i + 1).toInt32 from n_add i 1]
        show G E x T13 (fr x 69 #[.val (.ref s), .val (.ref nm), .val (.int i.toInt32), .val (.int (cpt cs i))] [(.int (i + 1).toInt32)])
        refine w_istoreN W17 B d_req_69 (Ls' := #[.val (.ref s), .val (.ref nm), .val (.int (i + 1).toInt32), .val (.int (cpt cs i))]) rfl ?_
        refine w_goto W17 B d_req_70 ?_
        exact ih (i + 1) T13 _ (by omega) (Or.inr ⟨_, rfl⟩) W17 hwr
      · intro hc19
        show G E x T7 (fr x 22 #[.val (.ref s), .val (.ref nm), .val (.int i.toInt32), .val (.int (cpt cs i))] [])
        refine w_iloadN W11 B d_req_22 rfl ?_
        refine w_ldcI W11 B d_req_23 (wd hw 121 rfl) ?_
        refine w_icmp_gt W11 B d_req_25 (fun _ => ?_) (fun q => q (hpl.resolve_left hc19) |>.elim)
        show G E x T7 (fr x 63 #[.val (.ref s), .val (.ref nm), .val (.int i.toInt32), .val (.int (cpt cs i))] [])
        refine w_iloadN W11 B d_req_63 rfl ?_
        refine w_iloadN W11 B d_req_64 rfl ?_
        refine w_static W11 B (y := ⟨"java/lang/Character", "charCount", "(I)I"⟩) d_req_65 (wd hw 108 rfl) (wd hw 109 rfl) (wd hw 104 rfl) (wd hw 110 rfl) (by decide) pd__I_I227 (argsL := [(.int (cpt cs i))]) rfl rfl rfl (Wt := 1) (Nat.le_of_eq rfl) (chc1_met hw hsm) (by decide) (by decide) (by decide) (by decide) ?_
        intro T19 h20 F21 v22 W23 Q24
        obtain ⟨rfl, rfl, rfl⟩ := Q24
        show G E x T19 (fr x 68 #[.val (.ref s), .val (.ref nm), .val (.int i.toInt32), .val (.int (cpt cs i))] [(.int (1 : Int32)), (.int i.toInt32)])
        refine w_iadd W23 B d_req_68 ?_
        rw [show i.toInt32 + (1 : Int32) = (i + 1).toInt32 from n_add i 1]
        show G E x T19 (fr x 69 #[.val (.ref s), .val (.ref nm), .val (.int i.toInt32), .val (.int (cpt cs i))] [(.int (i + 1).toInt32)])
        refine w_istoreN W23 B d_req_69 (Ls' := #[.val (.ref s), .val (.ref nm), .val (.int (i + 1).toInt32), .val (.int (cpt cs i))]) rfl ?_
        refine w_goto W23 B d_req_70 ?_
        exact ih (i + 1) T19 _ (by omega) (Or.inr ⟨_, rfl⟩) W23 hwr
    · skip
      obtain ⟨hi, ec, er⟩ := drop_c hdr
      obtain ⟨hi2, ed, er2⟩ := drop_c er
      have hh : hi1 (cs.getD i 0) := by rw [ec]; exact ⟨a0, a1⟩
      have hp : hi1 (cs.getD i 0) → i + 1 < cs.length ∧ 56320 ≤ (cs.getD (i + 1) 0).toInt ∧ (cs.getD (i + 1) 0).toInt ≤ 57343 := fun _ => ⟨hi2, by rw [ed]; exact b0, by rw [ed]; exact b1⟩
      have hbig : 65536 ≤ (cpt cs i).toInt := by unfold cpt; rw [if_pos hh]; exact (toCp_big hh (hp hh).2.1 (hp hh).2.2).1
      rw [← er2] at hwr
      refine w_iloadN W B d_req_2 rfl ?_
      refine w_aloadN W B d_req_3 rfl rfl ?_
      refine w_virtual W B (y := ⟨"java/lang/String", "length", "()I"⟩) (z := ⟨"java/lang/String", "length", "()I"⟩) d_req_4 (wd hw 25 rfl) (wd hw 26 rfl) (nf_sel (wd hw 28 rfl)) (wd hw 28 rfl) (wd hw 27 rfl) (wd hw 13 rfl) (wd hw 29 rfl) (by decide) S.exa pd___I154 (argsL := []) rfl rfl rfl (Wt := 1) (Nat.le_of_eq rfl) (slenv_met hw S hcap) (by decide) (by decide) (by decide) (by decide) ?_
      intro T1 h2 F3 v4 W5 Q6
      obtain ⟨rfl, rfl, rfl⟩ := Q6
      show G E x T1 (fr x 7 #[.val (.ref s), .val (.ref nm), .val (.int i.toInt32), s3] [(.int cs.length.toInt32), (.int i.toInt32)])
      refine w_icmp_ge W5 B d_req_7 (fun q => q ((n_lt (by omega) (by omega)).mpr hi) |>.elim) (fun _ => ?_)
      show G E x T1 (fr x 10 #[.val (.ref s), .val (.ref nm), .val (.int i.toInt32), s3] [])
      refine w_aloadN W5 B d_req_10 rfl rfl ?_
      refine w_iloadN W5 B d_req_11 rfl ?_
      refine w_virtual W5 B (y := ⟨"java/lang/String", "codePointAt", "(I)I"⟩) (z := ⟨"java/lang/String", "codePointAt", "(I)I"⟩) d_req_12 (wd hw 78 rfl) (wd hw 79 rfl) (nf_sel (wd hw 81 rfl)) (wd hw 81 rfl) (wd hw 80 rfl) (wd hw 13 rfl) (wd hw 82 rfl) (by decide) S.exa pd__I_I227 (argsL := [(.int i.toInt32)]) rfl rfl rfl (Wt := 0) (Nat.le_of_eq rfl) (cpx_met hw (i := i) S hcap hi hp) (by decide) (by decide) (by decide) (by decide) ?_
      intro T7 h8 F9 v10 W11 Q12
      obtain ⟨rfl, rfl, rfl⟩ := Q12
      show G E x T7 (fr x 15 #[.val (.ref s), .val (.ref nm), .val (.int i.toInt32), s3] [(.int (cpt cs i))])
      refine w_istoreN W11 B d_req_15 (Ls' := #[.val (.ref s), .val (.ref nm), .val (.int i.toInt32), .val (.int (cpt cs i))]) (store_lit [.val (.ref s), .val (.ref nm), .val (.int i.toInt32)] [] hs3 _) ?_
      refine w_iloadN W11 B d_req_16 rfl ?_
      refine w_ldcI W11 B d_req_17 (wd hw 107 rfl) ?_
      refine w_icmp_lt W11 B d_req_19 (fun q => absurd q (by rw [Int32.lt_iff_toInt_lt]; exact Int.not_lt.mpr (Int.le_trans (by decide) hbig))) (fun _ => ?_)
      show G E x T7 (fr x 22 #[.val (.ref s), .val (.ref nm), .val (.int i.toInt32), .val (.int (cpt cs i))] [])
      refine w_iloadN W11 B d_req_22 rfl ?_
      refine w_ldcI W11 B d_req_23 (wd hw 121 rfl) ?_
      refine w_icmp_gt W11 B d_req_25 (fun _ => ?_) (fun q => q (Int32.lt_iff_toInt_lt.mpr (Int.lt_of_lt_of_le (by decide) hbig)) |>.elim)
      show G E x T7 (fr x 63 #[.val (.ref s), .val (.ref nm), .val (.int i.toInt32), .val (.int (cpt cs i))] [])
      refine w_iloadN W11 B d_req_63 rfl ?_
      refine w_iloadN W11 B d_req_64 rfl ?_
      refine w_static W11 B (y := ⟨"java/lang/Character", "charCount", "(I)I"⟩) d_req_65 (wd hw 108 rfl) (wd hw 109 rfl) (wd hw 104 rfl) (wd hw 110 rfl) (by decide) pd__I_I227 (argsL := [(.int (cpt cs i))]) rfl rfl rfl (Wt := 1) (Nat.le_of_eq rfl) (chc2_met hw (by rw [Int32.lt_iff_toInt_lt]; exact Int.not_lt.mpr hbig)) (by decide) (by decide) (by decide) (by decide) ?_
      intro T13 h14 F15 v16 W17 Q18
      obtain ⟨rfl, rfl, rfl⟩ := Q18
      show G E x T13 (fr x 68 #[.val (.ref s), .val (.ref nm), .val (.int i.toInt32), .val (.int (cpt cs i))] [(.int (2 : Int32)), (.int i.toInt32)])
      refine w_iadd W17 B d_req_68 ?_
      rw [show i.toInt32 + (2 : Int32) = (i + 2).toInt32 from n_add i 2]
      show G E x T13 (fr x 69 #[.val (.ref s), .val (.ref nm), .val (.int i.toInt32), .val (.int (cpt cs i))] [(.int (i + 2).toInt32)])
      refine w_istoreN W17 B d_req_69 (Ls' := #[.val (.ref s), .val (.ref nm), .val (.int (i + 2).toInt32), .val (.int (cpt cs i))]) rfl ?_
      refine w_goto W17 B d_req_70 ?_
      exact ih (i + 2) T13 _ (by omega) (Or.inr ⟨_, rfl⟩) W17 hwr
set_option maxRecDepth 65536 in
set_option maxHeartbeats 4000000 in
theorem req_met {E : Gl} (hw : Tb E) {h : Heap} {F : List Addr} {s v nm : Addr} {cs : List Int32} (hcap : cs.length ≤ 32) (S : StrV E h s v cs) (hwf : WF cs) :
    Met E (⟨"com/example/lease/lease/NewJob", "requireWholeCharacters", "(Ljava/lang/String;Ljava/lang/String;)V"⟩ : MethodName) prog_14_method_20_code 4 none ({ frames := 4, cells := 0, slots := 0, locals := 58 } : Room) #[.ref s, .ref nm] h F (fun r h' F' => r = none ∧ h = h' ∧ F = F') := by
  refine met_of (by decide +kernel) fun x T hQ B W => ?_
  refine G.cast (g' := fr x 0 #[.val (.ref s), .val (.ref nm), .unset, .unset] []) (by simp [entryFrame, mkF, argsToLocals, Own.cat_r, Own.cat_i, Own.cat_j, Own.cat_n]) ?_
  refine w_iconst W B d_req_0 (v := (0 : Int32)) rfl ?_
  refine w_istoreN W B d_req_1 (Ls' := #[.val (.ref s), .val (.ref nm), .val (.int (0 : Int32)), .unset]) rfl ?_
  exact req_turns hw hQ B hcap S (cs.length + 1) 0 T .unset (by omega) (Or.inl rfl) W hwf
set_option maxRecDepth 65536 in
set_option maxHeartbeats 4000000 in
theorem pln_met {E : Gl} (hw : Tb E) {h : Heap} {F : List Addr} {c : Int32} :
    Met E (⟨"com/example/lease/lease/NewJobRequireWholeCharactersPinLaw", "plain", "(I)C"⟩ : MethodName) method_3_code 2 (some .char) ({ frames := 0, cells := 0, slots := 0, locals := 0 } : Room) #[.int c] h F (fun r h' F' => ∃ q : Int32, r = some (.int q) ∧ Pl q ∧ h = h' ∧ F = F') := by
  refine met_of (by decide +kernel) fun x T hQ B W => ?_
  refine G.cast (g' := fr x 0 #[.val (.int c), .unset] []) (by simp [entryFrame, mkF, argsToLocals, Own.cat_r, Own.cat_i, Own.cat_j, Own.cat_n]) ?_
  refine w_iloadN W B d_pln_0 rfl ?_
  refine w_ldcI W B d_pln_1 (wd hw 8 rfl) ?_
  refine w_iand W B d_pln_3 ?_
  refine w_istoreN W B d_pln_4 (Ls' := #[.val (.int c), .val (.int (c &&& (65535 : Int32)))]) rfl ?_
  refine w_iloadN W B d_pln_5 rfl ?_
  refine w_ldcI W B d_pln_6 (wd hw 9 rfl) ?_
  refine w_icmp_lt W B d_pln_8 ?_ ?_
  · intro hc8
    show G E x T (fr x 22 #[.val (.int c), .val (.int (c &&& (65535 : Int32)))] [])
    refine w_iloadN W B d_pln_22 rfl ?_
    refine w_i2c W B d_pln_23 ?_
    have hP := (pl_lo (and16 c) (Or.inl hc8))
    exact w_ireturnN W B d_pln_24 (Or.inr (Or.inr (Or.inl rfl))) (u := ((c &&& (65535 : Int32))).toUInt32.toUInt16.toUInt32.toInt32) (nar_i2c _) hQ (by decide) (by decide) (fun _ q => q) ⟨_, rfl, hP, rfl, rfl⟩
  · intro hc8
    show G E x T (fr x 11 #[.val (.int c), .val (.int (c &&& (65535 : Int32)))] [])
    refine w_iloadN W B d_pln_11 rfl ?_
    refine w_ldcI W B d_pln_12 (wd hw 122 rfl) ?_
    refine w_icmp_gt W B d_pln_14 ?_ ?_
    · intro hc14
      show G E x T (fr x 22 #[.val (.int c), .val (.int (c &&& (65535 : Int32)))] [])
      refine w_iloadN W B d_pln_22 rfl ?_
      refine w_i2c W B d_pln_23 ?_
      have hP := (pl_lo (and16 c) (Or.inr hc14))
      exact w_ireturnN W B d_pln_24 (Or.inr (Or.inr (Or.inl rfl))) (u := ((c &&& (65535 : Int32))).toUInt32.toUInt16.toUInt32.toInt32) (nar_i2c _) hQ (by decide) (by decide) (fun _ q => q) ⟨_, rfl, hP, rfl, rfl⟩
    · intro hc14
      show G E x T (fr x 17 #[.val (.int c), .val (.int (c &&& (65535 : Int32)))] [])
      refine w_iloadN W B d_pln_17 rfl ?_
      refine w_ldcI W B d_pln_18 (wd hw 123 rfl) ?_
      refine w_ixor W B d_pln_20 ?_
      refine w_istoreN W B d_pln_21 (Ls' := #[.val (.int c), .val (.int ((c &&& (65535 : Int32)) ^^^ (32768 : Int32)))]) rfl ?_
      refine w_iloadN W B d_pln_22 rfl ?_
      refine w_i2c W B d_pln_23 ?_
      have hP := (pl_hi hc8 hc14)
      exact w_ireturnN W B d_pln_24 (Or.inr (Or.inr (Or.inl rfl))) (u := (((c &&& (65535 : Int32)) ^^^ (32768 : Int32))).toUInt32.toUInt16.toUInt32.toInt32) (nar_i2c _) hQ (by decide) (by decide) (fun _ q => q) ⟨_, rfl, hP, rfl, rfl⟩
set_option maxRecDepth 65536 in
set_option maxHeartbeats 4000000 in
theorem unt_met {E : Gl} (hw : Tb E) {h : Heap} {F : List Addr} {a : Addr} {k : ClassId} {n : Int32} {i : Nat} {u : Int64} {vs : List Value} (ha : a ∈ F) (hi : i ≤ 32) (hj1 : i.toInt32 < n) (hj2 : (i + 1).toInt32 < n) (hvl : i + 1 < vs.length) (Aa : Arv E.Z h a k .char n vs (.int 0)) :
    Met E (⟨"com/example/lease/lease/NewJobRequireWholeCharactersPinLaw", "unit", "([CIJ)V"⟩ : MethodName) method_4_code 4 none ({ frames := 1, cells := 0, slots := 0, locals := 15 } : Room) #[.ref a, .int i.toInt32, .long u] h F (fun r h' F' => r = none ∧ F = F' ∧ Keep h h' [a] ∧ ∃ c1 c2 : Int32, Pair c1 c2 ∧ Arv E.Z h' a k .char n ((vs.set i (.int c1)).set (i + 1) (.int c2)) (.int 0)) := by
  refine met_of (by decide +kernel) fun x T hQ B W => ?_
  refine G.cast (g' := fr x 0 #[.val (.ref a), .val (.int i.toInt32), .val (.long u), .second] []) (by simp [entryFrame, mkF, argsToLocals, Own.cat_r, Own.cat_i, Own.cat_j, Own.cat_n]) ?_
  refine w_lloadN W B d_unt_0 rfl ?_
  refine w_lconst W B d_unt_1 (v := (1 : Int64)) rfl ?_
  refine w_land W B d_unt_2 ?_
  refine w_lconst W B d_unt_3 (v := (0 : Int64)) rfl ?_
  refine w_lcmp W B d_unt_4 ?_
  refine w_if_ne W B d_unt_5 ?_ ?_
  · intro hc5
    show G E x T (fr x 34 #[.val (.ref a), .val (.int i.toInt32), .val (.long u), .second] [])
    refine w_aloadN W B d_unt_34 rfl rfl ?_
    refine w_iloadN W B d_unt_35 rfl ?_
    refine w_ldcI W B d_unt_36 (wd hw 9 rfl) ?_
    refine w_lloadN W B d_unt_38 rfl ?_
    refine w_iconst W B d_unt_39 (v := (1 : Int32)) rfl ?_
    refine w_lushr W B d_unt_40 ?_
    refine w_ldc2J W B d_unt_41 (wd hw 10 rfl) ?_
    refine w_land W B d_unt_44 ?_
    refine w_l2i W B d_unt_45 ?_
    refine w_ior W B d_unt_46 ?_
    refine w_i2c W B d_unt_47 ?_
    refine w_castore W B d_unt_48 ha Aa ⟨n_nn (by omega), hj1⟩ (i := i) (n_clamp (by omega)) (by omega) (u := (((55296 : Int32) ||| (((XT.ushrL u (1 : Int32)) &&& (1023 : Int64))).toInt32)).toUInt32.toUInt16.toUInt32.toInt32) (nar_i2c _) ?_
    intro Tc1 hc1 Wc1 Kc1 Ac1
    show G E x Tc1 (fr x 49 #[.val (.ref a), .val (.int i.toInt32), .val (.long u), .second] [])
    refine w_aloadN Wc1 B d_unt_49 rfl rfl ?_
    refine w_iloadN Wc1 B d_unt_50 rfl ?_
    refine w_iconst Wc1 B d_unt_51 (v := (1 : Int32)) rfl ?_
    refine w_iadd Wc1 B d_unt_52 ?_
    rw [show i.toInt32 + (1 : Int32) = (i + 1).toInt32 from n_succ i]
    show G E x Tc1 (fr x 53 #[.val (.ref a), .val (.int i.toInt32), .val (.long u), .second] [(.int (i + 1).toInt32), (.ref a)])
    refine w_ldcI Wc1 B d_unt_53 (wd hw 11 rfl) ?_
    refine w_lloadN Wc1 B d_unt_55 rfl ?_
    refine w_bipush Wc1 B d_unt_56 (v := (11 : Int32)) rfl ?_
    refine w_lushr Wc1 B d_unt_58 ?_
    refine w_ldc2J Wc1 B d_unt_59 (wd hw 10 rfl) ?_
    refine w_land Wc1 B d_unt_62 ?_
    refine w_l2i Wc1 B d_unt_63 ?_
    refine w_ior Wc1 B d_unt_64 ?_
    refine w_i2c Wc1 B d_unt_65 ?_
    refine w_castore Wc1 B d_unt_66 ha Ac1 ⟨n_nn (by omega), hj2⟩ (i := i + 1) (n_clamp (by omega)) (by rw [List.length_set]; omega) (u := (((56320 : Int32) ||| (((XT.ushrL u (11 : Int32)) &&& (1023 : Int64))).toInt32)).toUInt32.toUInt16.toUInt32.toInt32) (nar_i2c _) ?_
    intro Tc2 hc2 Wc2 Kc2 Ac2
    show G E x Tc2 (fr x 67 #[.val (.ref a), .val (.int i.toInt32), .val (.long u), .second] [])
    have KK3 : Keep h hc1 [a] := (Keep.refl h [a]).trans Kc1 (allS (Or.inl (List.Mem.head _)) all0)
    have KK4 : Keep h hc2 [a] := KK3.trans Kc2 (allS (Or.inl (List.Mem.head _)) all0)
    exact w_return Wc2 B d_unt_67 hQ (by decide) (by decide) (fun _ q => q) ⟨rfl, rfl, KK4, (((55296 : Int32) ||| (((XT.ushrL u (1 : Int32)) &&& (1023 : Int64))).toInt32)).toUInt32.toUInt16.toUInt32.toInt32, (((56320 : Int32) ||| (((XT.ushrL u (11 : Int32)) &&& (1023 : Int64))).toInt32)).toUInt32.toUInt16.toUInt32.toInt32, (pair_su _ _), Ac2⟩
  · intro hc5
    show G E x T (fr x 8 #[.val (.ref a), .val (.int i.toInt32), .val (.long u), .second] [])
    refine w_aloadN W B d_unt_8 rfl rfl ?_
    refine w_iloadN W B d_unt_9 rfl ?_
    refine w_lloadN W B d_unt_10 rfl ?_
    refine w_iconst W B d_unt_11 (v := (1 : Int32)) rfl ?_
    refine w_lushr W B d_unt_12 ?_
    refine w_l2i W B d_unt_13 ?_
    refine w_static W B (y := ⟨"com/example/lease/lease/NewJobRequireWholeCharactersPinLaw", "plain", "(I)C"⟩) d_unt_14 (wd hw 5 rfl) (wd hw 6 rfl) (wd hw 3 rfl) (wd hw 7 rfl) (by decide) pd__I_C221 (argsL := [(.int ((XT.ushrL u (1 : Int32))).toInt32)]) rfl rfl rfl (Wt := 2) (Nat.le_of_eq rfl) (pln_met hw) (by decide) (by decide) (by decide) (by decide) ?_
    intro T5 h6 F7 v8 W9 Q10
    obtain ⟨q1, rfl, Hq1, rfl, rfl⟩ := Q10
    show G E x T5 (fr x 17 #[.val (.ref a), .val (.int i.toInt32), .val (.long u), .second] [(.int q1), (.int i.toInt32), (.ref a)])
    refine w_castore W9 B d_unt_17 ha Aa ⟨n_nn (by omega), hj1⟩ (i := i) (n_clamp (by omega)) (by omega) (u := q1) (nar_char Hq1.1 Hq1.2.1) ?_
    intro Tc11 hc11 Wc11 Kc11 Ac11
    show G E x Tc11 (fr x 18 #[.val (.ref a), .val (.int i.toInt32), .val (.long u), .second] [])
    refine w_aloadN Wc11 B d_unt_18 rfl rfl ?_
    refine w_iloadN Wc11 B d_unt_19 rfl ?_
    refine w_iconst Wc11 B d_unt_20 (v := (1 : Int32)) rfl ?_
    refine w_iadd Wc11 B d_unt_21 ?_
    rw [show i.toInt32 + (1 : Int32) = (i + 1).toInt32 from n_succ i]
    show G E x Tc11 (fr x 22 #[.val (.ref a), .val (.int i.toInt32), .val (.long u), .second] [(.int (i + 1).toInt32), (.ref a)])
    refine w_lloadN Wc11 B d_unt_22 rfl ?_
    refine w_bipush Wc11 B d_unt_23 (v := (17 : Int32)) rfl ?_
    refine w_lushr Wc11 B d_unt_25 ?_
    refine w_l2i Wc11 B d_unt_26 ?_
    refine w_static Wc11 B (y := ⟨"com/example/lease/lease/NewJobRequireWholeCharactersPinLaw", "plain", "(I)C"⟩) d_unt_27 (wd hw 5 rfl) (wd hw 6 rfl) (wd hw 3 rfl) (wd hw 7 rfl) (by decide) pd__I_C221 (argsL := [(.int ((XT.ushrL u (17 : Int32))).toInt32)]) rfl rfl rfl (Wt := 2) (Nat.le_of_eq rfl) (pln_met hw) (by decide) (by decide) (by decide) (by decide) ?_
    intro T12 h13 F14 v15 W16 Q17
    obtain ⟨q2, rfl, Hq2, rfl, rfl⟩ := Q17
    show G E x T12 (fr x 30 #[.val (.ref a), .val (.int i.toInt32), .val (.long u), .second] [(.int q2), (.int (i + 1).toInt32), (.ref a)])
    refine w_castore W16 B d_unt_30 ha Ac11 ⟨n_nn (by omega), hj2⟩ (i := i + 1) (n_clamp (by omega)) (by rw [List.length_set]; omega) (u := q2) (nar_char Hq2.1 Hq2.2.1) ?_
    intro Tc18 hc18 Wc18 Kc18 Ac18
    show G E x Tc18 (fr x 31 #[.val (.ref a), .val (.int i.toInt32), .val (.long u), .second] [])
    refine w_goto Wc18 B d_unt_31 ?_
    have KK19 : Keep h hc11 [a] := (Keep.refl h [a]).trans Kc11 (allS (Or.inl (List.Mem.head _)) all0)
    have KK20 : Keep h hc18 [a] := KK19.trans Kc18 (allS (Or.inl (List.Mem.head _)) all0)
    exact w_return Wc18 B d_unt_67 hQ (by decide) (by decide) (fun _ q => q) ⟨rfl, rfl, KK20, q1, q2, (pair_pl Hq1 Hq2), Ac18⟩
set_option maxRecDepth 65536 in
set_option maxHeartbeats 4000000 in
theorem law_body {E : Gl} (hw : Tb E) {x : Cx} {T : State} {h : Heap} (hQ : x.Q = fun r _ _ => r = some (.int 1)) (B : Is x "com/example/lease/lease/NewJobRequireWholeCharactersPinLaw" code 9 ({ frames := 9, cells := 32, slots := 2240, locals := 208 } : Room) (some .boolean) "law") {p0 : Int32} {p1 p2 p3 : Int64} (W : Wk E x T h [] 0 0) : G E x T (fr x 0 #[.val (.int p0), .val (.long p1), .second, .val (.long p2), .second, .val (.long p3), .second, .unset, .unset] []) := by
  refine w_bipush W B d_law_0 (v := (6 : Int32)) rfl ?_
  refine w_newarray W B d_law_2 rfl (wd hw 0 rfl) (by decide) (cap := 6) (by decide) (by decide) (by decide) (by decide) ?_
  intro T1 h2 b3 k4 W5 g6 X7 A8
  have A9 : Arv E.Z h2 b3 k4 .char (6 : Int32) [(.int (0 : Int32)), (.int (0 : Int32)), (.int (0 : Int32)), (.int (0 : Int32)), (.int (0 : Int32)), (.int (0 : Int32))] (.int (0 : Int32)) := A8.pad (pad_rep [] (.int (0 : Int32)) 6)
  show G E x T1 (fr x 4 #[.val (.int p0), .val (.long p1), .second, .val (.long p2), .second, .val (.long p3), .second, .unset, .unset] [(.ref b3)])
  refine w_astore W5 B d_law_4 rfl (Ls' := #[.val (.int p0), .val (.long p1), .second, .val (.long p2), .second, .val (.long p3), .second, .val (.ref b3), .unset]) rfl ?_
  refine w_bipush W5 B d_law_6 (v := (7 : Int32)) rfl ?_
  refine w_newarray W5 B d_law_8 rfl (wd hw 0 rfl) (by decide) (cap := 7) (by decide) (by decide) (by decide) (by decide) ?_
  intro T10 h11 b12 k13 W14 g15 X16 A17
  have A18 : Arv E.Z h11 b12 k13 .char (7 : Int32) [(.int (0 : Int32)), (.int (0 : Int32)), (.int (0 : Int32)), (.int (0 : Int32)), (.int (0 : Int32)), (.int (0 : Int32)), (.int (0 : Int32))] (.int (0 : Int32)) := A17.pad (pad_rep [] (.int (0 : Int32)) 7)
  show G E x T10 (fr x 10 #[.val (.int p0), .val (.long p1), .second, .val (.long p2), .second, .val (.long p3), .second, .val (.ref b3), .unset] [(.ref b12)])
  refine w_astore W14 B d_law_10 rfl (Ls' := #[.val (.int p0), .val (.long p1), .second, .val (.long p2), .second, .val (.long p3), .second, .val (.ref b3), .val (.ref b12)]) rfl ?_
  refine w_aload W14 B d_law_12 rfl rfl ?_
  refine w_iconst W14 B d_law_14 (v := (0 : Int32)) rfl ?_
  refine w_lloadN W14 B d_law_15 rfl ?_
  refine w_static W14 B (y := ⟨"com/example/lease/lease/NewJobRequireWholeCharactersPinLaw", "unit", "([CIJ)V"⟩) d_law_16 (wd hw 1 rfl) (wd hw 2 rfl) (wd hw 3 rfl) (wd hw 4 rfl) (by decide) pd___CIJ_V472 (argsL := [(.ref b3), (.int (0 : Int32)), (.long p1)]) rfl rfl rfl (Wt := 0) (Nat.le_of_eq rfl) (unt_met hw (i := 0) (List.Mem.tail _ (List.Mem.head _)) (by decide) (by decide) (by decide) (by simp) (A9.ext X16)) (by decide) (by decide) (by decide) (by decide) ?_
  intro T19 h20 F21 v22 W23 Q24
  obtain ⟨rfl, rfl, KU16, x16, y16, HP16, AU16⟩ := Q24
  have AV16 : Arv E.Z h20 b3 k4 .char (6 : Int32) [(.int x16), (.int y16), (.int (0 : Int32)), (.int (0 : Int32)), (.int (0 : Int32)), (.int (0 : Int32))] (.int (0 : Int32)) := AU16
  show G E x T19 (fr x 19 #[.val (.int p0), .val (.long p1), .second, .val (.long p2), .second, .val (.long p3), .second, .val (.ref b3), .val (.ref b12)] [])
  refine w_aload W23 B d_law_19 rfl rfl ?_
  refine w_iconst W23 B d_law_21 (v := (2 : Int32)) rfl ?_
  refine w_lloadN W23 B d_law_22 rfl ?_
  refine w_static W23 B (y := ⟨"com/example/lease/lease/NewJobRequireWholeCharactersPinLaw", "unit", "([CIJ)V"⟩) d_law_23 (wd hw 1 rfl) (wd hw 2 rfl) (wd hw 3 rfl) (wd hw 4 rfl) (by decide) pd___CIJ_V472 (argsL := [(.ref b3), (.int (2 : Int32)), (.long p2)]) rfl rfl rfl (Wt := 0) (Nat.le_of_eq rfl) (unt_met hw (i := 2) (List.Mem.tail _ (List.Mem.head _)) (by decide) (by decide) (by decide) (by simp) AV16) (by decide) (by decide) (by decide) (by decide) ?_
  intro T25 h26 F27 v28 W29 Q30
  obtain ⟨rfl, rfl, KU23, x23, y23, HP23, AU23⟩ := Q30
  have AV23 : Arv E.Z h26 b3 k4 .char (6 : Int32) [(.int x16), (.int y16), (.int x23), (.int y23), (.int (0 : Int32)), (.int (0 : Int32))] (.int (0 : Int32)) := AU23
  show G E x T25 (fr x 26 #[.val (.int p0), .val (.long p1), .second, .val (.long p2), .second, .val (.long p3), .second, .val (.ref b3), .val (.ref b12)] [])
  refine w_aload W29 B d_law_26 rfl rfl ?_
  refine w_iconst W29 B d_law_28 (v := (4 : Int32)) rfl ?_
  refine w_lload W29 B d_law_29 rfl ?_
  refine w_static W29 B (y := ⟨"com/example/lease/lease/NewJobRequireWholeCharactersPinLaw", "unit", "([CIJ)V"⟩) d_law_31 (wd hw 1 rfl) (wd hw 2 rfl) (wd hw 3 rfl) (wd hw 4 rfl) (by decide) pd___CIJ_V472 (argsL := [(.ref b3), (.int (4 : Int32)), (.long p3)]) rfl rfl rfl (Wt := 0) (Nat.le_of_eq rfl) (unt_met hw (i := 4) (List.Mem.tail _ (List.Mem.head _)) (by decide) (by decide) (by decide) (by simp) AV23) (by decide) (by decide) (by decide) (by decide) ?_
  intro T31 h32 F33 v34 W35 Q36
  obtain ⟨rfl, rfl, KU31, x31, y31, HP31, AU31⟩ := Q36
  have AV31 : Arv E.Z h32 b3 k4 .char (6 : Int32) [(.int x16), (.int y16), (.int x23), (.int y23), (.int x31), (.int y31)] (.int (0 : Int32)) := AU31
  show G E x T31 (fr x 34 #[.val (.int p0), .val (.long p1), .second, .val (.long p2), .second, .val (.long p3), .second, .val (.ref b3), .val (.ref b12)] [])
  refine w_aload W35 B d_law_34 rfl rfl ?_
  refine w_iconst W35 B d_law_36 (v := (0 : Int32)) rfl ?_
  refine w_iloadN W35 B d_law_37 rfl ?_
  refine w_static W35 B (y := ⟨"com/example/lease/lease/NewJobRequireWholeCharactersPinLaw", "plain", "(I)C"⟩) d_law_38 (wd hw 5 rfl) (wd hw 6 rfl) (wd hw 3 rfl) (wd hw 7 rfl) (by decide) pd__I_C221 (argsL := [(.int p0)]) rfl rfl rfl (Wt := 2) (Nat.le_of_eq rfl) (pln_met hw) (by decide) (by decide) (by decide) (by decide) ?_
  intro T37 h38 F39 v40 W41 Q42
  obtain ⟨q0, rfl, Hq0, rfl, rfl⟩ := Q42
  show G E x T37 (fr x 41 #[.val (.int p0), .val (.long p1), .second, .val (.long p2), .second, .val (.long p3), .second, .val (.ref b3), .val (.ref b12)] [(.int q0), (.int (0 : Int32)), (.ref b12)])
  refine w_castore W41 B d_law_41 (List.Mem.head _) (((A18.keep KU16 (ninS (Ne.symm (Own.ne_new A9.lt g15)) nin0)).keep KU23 (ninS (Ne.symm (Own.ne_new A9.lt g15)) nin0)).keep KU31 (ninS (Ne.symm (Own.ne_new A9.lt g15)) nin0)) (by decide) (i := 0) rfl (by first | decide | simp) (u := q0) (nar_char Hq0.1 Hq0.2.1) ?_
  intro T43 h44 W45 K46 A47
  have A48 : Arv E.Z h44 b12 k13 .char (7 : Int32) [(.int q0), (.int (0 : Int32)), (.int (0 : Int32)), (.int (0 : Int32)), (.int (0 : Int32)), (.int (0 : Int32)), (.int (0 : Int32))] (.int (0 : Int32)) := A47
  refine w_aload W45 B d_law_42 rfl rfl ?_
  refine w_iconst W45 B d_law_44 (v := (1 : Int32)) rfl ?_
  refine w_lloadN W45 B d_law_45 rfl ?_
  refine w_static W45 B (y := ⟨"com/example/lease/lease/NewJobRequireWholeCharactersPinLaw", "unit", "([CIJ)V"⟩) d_law_46 (wd hw 1 rfl) (wd hw 2 rfl) (wd hw 3 rfl) (wd hw 4 rfl) (by decide) pd___CIJ_V472 (argsL := [(.ref b12), (.int (1 : Int32)), (.long p1)]) rfl rfl rfl (Wt := 0) (Nat.le_of_eq rfl) (unt_met hw (i := 1) (List.Mem.head _) (by decide) (by decide) (by decide) (by simp) A48) (by decide) (by decide) (by decide) (by decide) ?_
  intro T49 h50 F51 v52 W53 Q54
  obtain ⟨rfl, rfl, KU46, x46, y46, HP46, AU46⟩ := Q54
  have AV46 : Arv E.Z h50 b12 k13 .char (7 : Int32) [(.int q0), (.int x46), (.int y46), (.int (0 : Int32)), (.int (0 : Int32)), (.int (0 : Int32)), (.int (0 : Int32))] (.int (0 : Int32)) := AU46
  show G E x T49 (fr x 49 #[.val (.int p0), .val (.long p1), .second, .val (.long p2), .second, .val (.long p3), .second, .val (.ref b3), .val (.ref b12)] [])
  refine w_aload W53 B d_law_49 rfl rfl ?_
  refine w_iconst W53 B d_law_51 (v := (3 : Int32)) rfl ?_
  refine w_lloadN W53 B d_law_52 rfl ?_
  refine w_static W53 B (y := ⟨"com/example/lease/lease/NewJobRequireWholeCharactersPinLaw", "unit", "([CIJ)V"⟩) d_law_53 (wd hw 1 rfl) (wd hw 2 rfl) (wd hw 3 rfl) (wd hw 4 rfl) (by decide) pd___CIJ_V472 (argsL := [(.ref b12), (.int (3 : Int32)), (.long p2)]) rfl rfl rfl (Wt := 0) (Nat.le_of_eq rfl) (unt_met hw (i := 3) (List.Mem.head _) (by decide) (by decide) (by decide) (by simp) AV46) (by decide) (by decide) (by decide) (by decide) ?_
  intro T55 h56 F57 v58 W59 Q60
  obtain ⟨rfl, rfl, KU53, x53, y53, HP53, AU53⟩ := Q60
  have AV53 : Arv E.Z h56 b12 k13 .char (7 : Int32) [(.int q0), (.int x46), (.int y46), (.int x53), (.int y53), (.int (0 : Int32)), (.int (0 : Int32))] (.int (0 : Int32)) := AU53
  show G E x T55 (fr x 56 #[.val (.int p0), .val (.long p1), .second, .val (.long p2), .second, .val (.long p3), .second, .val (.ref b3), .val (.ref b12)] [])
  refine w_aload W59 B d_law_56 rfl rfl ?_
  refine w_iconst W59 B d_law_58 (v := (5 : Int32)) rfl ?_
  refine w_lload W59 B d_law_59 rfl ?_
  refine w_static W59 B (y := ⟨"com/example/lease/lease/NewJobRequireWholeCharactersPinLaw", "unit", "([CIJ)V"⟩) d_law_61 (wd hw 1 rfl) (wd hw 2 rfl) (wd hw 3 rfl) (wd hw 4 rfl) (by decide) pd___CIJ_V472 (argsL := [(.ref b12), (.int (5 : Int32)), (.long p3)]) rfl rfl rfl (Wt := 0) (Nat.le_of_eq rfl) (unt_met hw (i := 5) (List.Mem.head _) (by decide) (by decide) (by decide) (by simp) AV53) (by decide) (by decide) (by decide) (by decide) ?_
  intro T61 h62 F63 v64 W65 Q66
  obtain ⟨rfl, rfl, KU61, x61, y61, HP61, AU61⟩ := Q66
  have AV61 : Arv E.Z h62 b12 k13 .char (7 : Int32) [(.int q0), (.int x46), (.int y46), (.int x53), (.int y53), (.int x61), (.int y61)] (.int (0 : Int32)) := AU61
  show G E x T61 (fr x 64 #[.val (.int p0), .val (.long p1), .second, .val (.long p2), .second, .val (.long p3), .second, .val (.ref b3), .val (.ref b12)] [])
  refine w_ldcS W65 B (n := 0) (text := "") (vs := []) (z := 0) d_law_64 hw.2.2.1 (by rw [hw.2.2.2]; decide) (wd hw 12 rfl) (strAtoms hw) ⟨by decide, by decide⟩ (by decide) (by decide) (by decide) (by decide) (by decide) (by decide) ?_
  intro T67 h68 c69 v70 k71 W72 X73 E74 f75 f76 A77 n78
  show G E x T67 (fr x 66 #[.val (.int p0), .val (.long p1), .second, .val (.long p2), .second, .val (.long p3), .second, .val (.ref b3), .val (.ref b12)] [(.ref c69)])
  refine w_ldcS W72 B (n := 4) (text := "s") (vs := [(.int (115 : Int32))]) (z := 1) d_law_66 hw.2.2.1 (by rw [hw.2.2.2]; decide) (wd hw 20 rfl) (strAtoms hw) ⟨by decide, by decide⟩ (by decide) (by decide) (by decide) (by decide) (by decide) (by decide) ?_
  intro T79 h80 c81 v82 k83 W84 X85 E86 f87 f88 A89 n90
  show G E x T79 (fr x 68 #[.val (.int p0), .val (.long p1), .second, .val (.long p2), .second, .val (.long p3), .second, .val (.ref b3), .val (.ref b12)] [(.ref c81), (.ref c69)])
  have SE : StrV E h80 c69 v70 [] := ⟨_, (E74.ext X85), (f76.ext X85), (fun _ q => nomatch q), Or.inl ⟨(fun _ q => nomatch q), (f75.ext X85), (A77.ext X85)⟩⟩
  refine w_static W84 B (y := ⟨"com/example/lease/lease/NewJob", "requireWholeCharacters", "(Ljava/lang/String;Ljava/lang/String;)V"⟩) d_law_68 (wd hw 21 rfl) (wd hw 22 rfl) (wd hw 23 rfl) (wd hw 24 rfl) (by decide) pd__Ljava_lang_String_Ljava_lang_String__V568 (argsL := [(.ref c69), (.ref c81)]) rfl rfl rfl (Wt := 0) (Nat.le_of_eq rfl) (req_met hw (by decide) SE WF.nil) (by decide) (by decide) (by decide) (by decide) ?_
  intro T91 h92 F93 v94 W95 Q96
  obtain ⟨rfl, rfl, rfl⟩ := Q96
  show G E x T91 (fr x 71 #[.val (.int p0), .val (.long p1), .second, .val (.long p2), .second, .val (.long p3), .second, .val (.ref b3), .val (.ref b12)] [])
  refine w_new W95 B d_law_71 (wd hw 38 rfl) (wd hw 14 rfl) (wd hw 13 rfl) (by decide) (by decide) ?_
  intro T97 h98 b99 W100 g101 X102 A103 D104
  have f105 : Fld E.Z h98 b99 "java/lang/String" "value" "[B" .null := D104 (Or.inr (wd hw 16 rfl)) (ty := (.array .byte)) (by decide)
  have f106 : Fld E.Z h98 b99 "java/lang/String" "coder" "B" (.int (0 : Int32)) := D104 (Or.inr (wd hw 17 rfl)) (ty := .byte) (by decide)
  show G E x T97 (fr x 74 #[.val (.int p0), .val (.long p1), .second, .val (.long p2), .second, .val (.long p3), .second, .val (.ref b3), .val (.ref b12)] [(.ref b99)])
  refine w_dup W100 B d_law_74 rfl ?_
  refine w_aload W100 B d_law_75 rfl rfl ?_
  have wfs6 : WF [x16, y16, x23, y23, x31, y31] := (HP16.2.2 _ (HP23.2.2 _ (HP31.2.2 _ WF.nil)))
  refine w_special W100 B (y := ⟨"java/lang/String", "<init>", "([C)V"⟩) d_law_77 rfl (wd hw 39 rfl) (wd hw 40 rfl) (wd hw 13 rfl) (wd hw 41 rfl) (by decide) pd___C_V325 (argsL := [(.ref b3)]) rfl rfl rfl (Wt := 1) (Nat.le_of_eq rfl) (ini1w_met hw (cs := [x16, y16, x23, y23, x31, y31]) (n := 6) rfl (by decide) (by decide) wfs6.ch (List.Mem.head _) A103 f105 f106 (((((((AV31.keep K46 (ninS (Own.ne_new A9.lt g15) nin0)).keep KU46 (ninS (Own.ne_new A9.lt g15) nin0)).keep KU53 (ninS (Own.ne_new A9.lt g15) nin0)).keep KU61 (ninS (Own.ne_new A9.lt g15) nin0)).ext X73).ext X85).ext X102)) (by decide) (by decide) (by decide) (by decide) ?_
  intro T107 h108 F109 v110 W111 Q112
  obtain ⟨rfl, rfl, KIs6, vs6, Vs6, hvs6⟩ := Q112
  show G E x T107 (fr x 80 #[.val (.int p0), .val (.long p1), .second, .val (.long p2), .second, .val (.long p3), .second, .val (.ref b3), .val (.ref b12)] [(.ref b99)])
  refine w_ldcS W111 B (n := 4) (text := "s") (vs := [(.int (115 : Int32))]) (z := 1) d_law_80 hw.2.2.1 (by rw [hw.2.2.2]; decide) (wd hw 20 rfl) (strAtoms hw) ⟨by decide, by decide⟩ (by decide) (by decide) (by decide) (by decide) (by decide) (by decide) ?_
  intro T113 h114 c115 v116 k117 W118 X119 E120 f121 f122 A123 n124
  show G E x T113 (fr x 82 #[.val (.int p0), .val (.long p1), .second, .val (.long p2), .second, .val (.long p3), .second, .val (.ref b3), .val (.ref b12)] [(.ref c115), (.ref b99)])
  refine w_static W118 B (y := ⟨"com/example/lease/lease/NewJob", "requireWholeCharacters", "(Ljava/lang/String;Ljava/lang/String;)V"⟩) d_law_82 (wd hw 21 rfl) (wd hw 22 rfl) (wd hw 23 rfl) (wd hw 24 rfl) (by decide) pd__Ljava_lang_String_Ljava_lang_String__V568 (argsL := [(.ref b99), (.ref c115)]) rfl rfl rfl (Wt := 0) (Nat.le_of_eq rfl) (req_met hw (by simp) (Vs6.ext X119) wfs6) (by decide) (by decide) (by decide) (by decide) ?_
  intro T125 h126 F127 v128 W129 Q130
  obtain ⟨rfl, rfl, rfl⟩ := Q130
  show G E x T125 (fr x 85 #[.val (.int p0), .val (.long p1), .second, .val (.long p2), .second, .val (.long p3), .second, .val (.ref b3), .val (.ref b12)] [])
  refine w_new W129 B d_law_85 (wd hw 38 rfl) (wd hw 14 rfl) (wd hw 13 rfl) (by decide) (by decide) ?_
  intro T131 h132 b133 W134 g135 X136 A137 D138
  have f139 : Fld E.Z h132 b133 "java/lang/String" "value" "[B" .null := D138 (Or.inr (wd hw 16 rfl)) (ty := (.array .byte)) (by decide)
  have f140 : Fld E.Z h132 b133 "java/lang/String" "coder" "B" (.int (0 : Int32)) := D138 (Or.inr (wd hw 17 rfl)) (ty := .byte) (by decide)
  show G E x T131 (fr x 88 #[.val (.int p0), .val (.long p1), .second, .val (.long p2), .second, .val (.long p3), .second, .val (.ref b3), .val (.ref b12)] [(.ref b133)])
  refine w_dup W134 B d_law_88 rfl ?_
  refine w_aload W134 B d_law_89 rfl rfl ?_
  have wfs7 : WF [q0, x46, y46, x53, y53, x61, y61] := (WF.one Hq0.1 Hq0.2.1 Hq0.2.2 (HP46.2.2 _ (HP53.2.2 _ (HP61.2.2 _ WF.nil))))
  refine w_special W134 B (y := ⟨"java/lang/String", "<init>", "([C)V"⟩) d_law_91 rfl (wd hw 39 rfl) (wd hw 40 rfl) (wd hw 13 rfl) (wd hw 41 rfl) (by decide) pd___C_V325 (argsL := [(.ref b12)]) rfl rfl rfl (Wt := 1) (Nat.le_of_eq rfl) (ini1w_met hw (cs := [q0, x46, y46, x53, y53, x61, y61]) (n := 7) rfl (by decide) (by decide) wfs7.ch (List.Mem.head _) A137 f139 f140 ((((((AV61.ext X73).ext X85).ext X102).keep KIs6 (ninS (Own.ne_new ((AV61.ext X73).ext X85).lt g101) nin0)).ext X119).ext X136)) (by decide) (by decide) (by decide) (by decide) ?_
  intro T141 h142 F143 v144 W145 Q146
  obtain ⟨rfl, rfl, KIs7, vs7, Vs7, hvs7⟩ := Q146
  show G E x T141 (fr x 94 #[.val (.int p0), .val (.long p1), .second, .val (.long p2), .second, .val (.long p3), .second, .val (.ref b3), .val (.ref b12)] [(.ref b133)])
  refine w_ldcS W145 B (n := 4) (text := "s") (vs := [(.int (115 : Int32))]) (z := 1) d_law_94 hw.2.2.1 (by rw [hw.2.2.2]; decide) (wd hw 20 rfl) (strAtoms hw) ⟨by decide, by decide⟩ (by decide) (by decide) (by decide) (by decide) (by decide) (by decide) ?_
  intro T147 h148 c149 v150 k151 W152 X153 E154 f155 f156 A157 n158
  show G E x T147 (fr x 96 #[.val (.int p0), .val (.long p1), .second, .val (.long p2), .second, .val (.long p3), .second, .val (.ref b3), .val (.ref b12)] [(.ref c149), (.ref b133)])
  refine w_static W152 B (y := ⟨"com/example/lease/lease/NewJob", "requireWholeCharacters", "(Ljava/lang/String;Ljava/lang/String;)V"⟩) d_law_96 (wd hw 21 rfl) (wd hw 22 rfl) (wd hw 23 rfl) (wd hw 24 rfl) (by decide) pd__Ljava_lang_String_Ljava_lang_String__V568 (argsL := [(.ref b133), (.ref c149)]) rfl rfl rfl (Wt := 0) (Nat.le_of_eq rfl) (req_met hw (by simp) (Vs7.ext X153) wfs7) (by decide) (by decide) (by decide) (by decide) ?_
  intro T159 h160 F161 v162 W163 Q164
  obtain ⟨rfl, rfl, rfl⟩ := Q164
  show G E x T159 (fr x 99 #[.val (.int p0), .val (.long p1), .second, .val (.long p2), .second, .val (.long p3), .second, .val (.ref b3), .val (.ref b12)] [])
  refine w_iconst W163 B d_law_99 (v := (1 : Int32)) rfl ?_
  exact w_ireturnN W163 B d_law_100 (Or.inl rfl) (u := 1) rfl hQ (by decide) (by decide) (F' := []) (fun _ q => nomatch q) rfl
set_option maxRecDepth 65536 in
set_option maxHeartbeats 4000000 in
theorem law_met {E : Gl} (hw : Tb E) (p0 : Int32) (p1 p2 p3 : Int64) (h : Heap) :
    MetT tables_1 E x code maxLocals ret room_1 #[.int p0, .long p1, .long p2, .long p3] h [] (fun r _ _ => r = some (.int 1)) := by
  refine met_of (by decide +kernel) fun x T hQ B W => ?_
  refine G.cast (g' := fr x 0 #[.val (.int p0), .val (.long p1), .second, .val (.long p2), .second, .val (.long p3), .second, .unset, .unset] []) (by simp [entryFrame, mkF, argsToLocals, Own.cat_i, Own.cat_j, maxLocals]) ?_
  exact law_body hw hQ B W
set_option maxRecDepth 65536 in
set_option maxHeartbeats 4000000 in
theorem comes_1 {Post : Tables → Env → Array Value → State → Outcome → State → Prop} (hpost : ∀ tb e args s v u, (limb_1_1.after args s (.returned v) u = true ∧ limb_1_2.after args s (.returned v) u = true ∧ True) → FramedW s (.returned v) u (Jvm.fieldLocs frame_1_writes args s ++ Jvm.arrayLocs frame_1_arrays args s ++ Jvm.staticLocs frame_1_statics s) 32 2240 → Post tb e args s (.returned v) u) :
    ArmFor flags0 classFile x code maxLocals ret World_1 tables_1 room_1 Calls_1 rest_1 Pre_1 Post := by
  intro l hfl _ _ p e ha hc hk s m args below hf hA hF happ hP
  obtain ⟨hcalls, hrest, hpre⟩ := hP
  obtain ⟨-, -, -, hnamed, -, -, -, hat⟩ := (Spec.applies_iff hf).mp happ
  obtain ⟨hg, hn⟩ := and_e (Cond.before_iff.mp (show (Jvm.Cond.and given_1 narrow_1).before args s = true from hpre))
  obtain ⟨hg0, g0⟩ := and_e hg
  obtain ⟨k0, g1⟩ := and_e g0
  obtain ⟨k1, g2⟩ := and_e g1
  obtain ⟨k2, g3⟩ := and_e g2
  have k3 := g3
  obtain ⟨w0, w1, w2, w3, rfl⟩ : ∃ w0 w1 w2 w3 : Value, args = #[w0, w1, w2, w3] := by
    have hs : args.size = 4 := by simpa [Cond.value, given_1] using hg0
    obtain ⟨L⟩ := args
    match L, hs with
    | [w0, w1, w2, w3], _ => exact ⟨w0, w1, w2, w3, rfl⟩
  obtain ⟨p0, e0⟩ := is_v k0
  obtain rfl : w0 = (.int p0) := Option.some.inj e0
  obtain ⟨p1, e1⟩ := isL_v k1
  obtain rfl : w1 = (.long p1) := Option.some.inj e1
  obtain ⟨p2, e2⟩ := isL_v k2
  obtain rfl : w2 = (.long p2) := Option.some.inj e2
  obtain ⟨p3, e3⟩ := isL_v k3
  obtain rfl : w3 = (.long p3) := Option.some.inj e3
  have hw0 := fun d (hd : d ∈ tables_1) => atoms_spec (ws := Jvm.Cond.code x code maxLocals ret :: tables_1) hat d (List.mem_cons_of_mem _ hd)
  obtain ⟨hsets, hown0⟩ := atoms_of _ (rest_1_c_eq ▸ (show rest_1_c.before _ s = true from hrest))
  have hfit : Fit s := fun {y c} hc i hi => by
    obtain ⟨ha, rfl⟩ := Array.getElem?_eq_some_iff.mp hc
    have q := List.all_eq_true.mp ((Array.all_eq_true_iff_forall_mem.mp hF) _ (Array.getElem_mem ha)) i (List.mem_range.mpr hi)
    simpa [Array.getElem?_eq_getElem hi] using q
  let E : Gl := (l, s, #[(.int p0), (.long p1), (.long p2), (.long p3)], s.heap.size, true, consts_1)
  have hw : Tb E := ⟨hw0, hsets, rfl, rfl⟩
  have hEW : EW E.Z E.a E.K := (EW.cons (text := "") (wd hw 12 rfl) (by decide) (EW.cons (text := "s") (wd hw 20 rfl) (by decide) EW.nil))
  have hCH : CHv E.Z E.K E.Z.vm E.Z.heap := CHv.start hEW hcalls.1 (sd hw 2 rfl) (wd hw 15 rfl) (wd hw 14 rfl)
  obtain ⟨n, o, h1, h2, h3, v, L, F', rfl, rfl, N, -, -, -, hq⟩ := law_met hw p0 p1 p2 p3 _ p e ha hc hk s m _ below hf ((Spec.applies_iff_loose hf).mp happ).1 ⟨rfl, State.Warmed39.refl s, rfl, Old.start s, hCH, (fun _ q => nomatch q), hEW, (fun q => nomatch q)⟩ trivial
  have hq : ReturnedEndW _ _ _ _ _ _ := hq
  exact ⟨n, _, h1, h2, h3, hpost _ _ _ _ _ _ ⟨Cond.after_iff.mpr rfl, Cond.after_iff.mpr (eq_i res_at (Term.int_eval (1)) rfl), trivial⟩ ⟨hq.1, hq.2.1, hq.2.2.1, hq.2.2.2.sift fun y hy => Or.inr (N y hy)⟩⟩
theorem main_1_1 : Claimed_1_1 := comes_1 fun _ _ _ _ _ _ h hF => ⟨h.1, hF⟩
theorem main_1_2 : Claimed_1_2 := comes_1 fun _ _ _ _ _ _ h hF => ⟨h.2.1, hF⟩
end Jvm.Pilot.@@N@@
namespace Jvm.Pilot.@@N@@
open Jvm Jvm.ClassFile Sem Op Lib Jvm.Free Jvm.Stand Jvm.Pilot.@@N@@.Jvm.D
/-! MADE BY PROGRAM (witnessworld.py) out of the Statement's table words and the real class files: 21 classes; the members and pool entries that the words name. The judged class is class 1, her method 1. -/
namespace start1
open Jvm.ClassFile
def u (s : String) : CpInfo := .utf8 (stringToUtf16 s)
/-- a pool by its gaps: so many unusable entries, then the entry; so many at the end -/
def gap : Nat → List CpInfo → List CpInfo
  | 0, r => r
  | n + 1, r => .unusable :: gap n r
def poolList (es : List (Nat × CpInfo)) (last : Nat) : List CpInfo := es.foldr (fun e r => gap e.1 (e.2 :: r)) (gap last [])
def pool (es : List (Nat × CpInfo)) (last : Nat) : Array CpInfo := ⟨poolList es last⟩
def fileOf (pool : Array CpInfo) (this : Nat) (attrs : Array Attribute := #[]) (ms : Array MethodInfo := #[]) (fl : Nat := 33) (sup : Nat := 0) (ifs : Array Nat := #[]) (fds : Array FieldInfo := #[]) : ClassFile where
  minorVersion := 0
  majorVersion := 65
  constantPool := pool
  accessFlags := fl
  thisClass := this
  superClass := sup
  interfaces := ifs
  fields := fds
  methods := ms
  attributes := attrs
def plain (name : String) (sup : Option ClassId) : Class where
  name := name
  kind := .ordinary
  loader := none
  accessFlags := 33
  super := sup
  interfaces := #[]
  cf := none
  fields := #[]
  methods := #[]
  instanceTypes := #[]
  staticTypes := #[]
  resolved := #[]
  callSites := []
  init := .initialized
  statics := none
  mirror := none

def pool0 : Array CpInfo := pool [(5, u "<init>"), (0, u "()V"), (1, .class_ 10), (1, u "java/lang/Object")] 113

def k0c0 : Code := { maxStack := 0, maxLocals := 1, code := object_method_1_code, exceptionTable := #[], attributes := #[] }
def k0m0 : Method := { name := "<init>", desc := "()V", sig := { parameters := [], returnType := none }, accessFlags := 1, code := some k0c0 }
/-- java/lang/Object -/
def k0 : Class := { plain "java/lang/Object" none with
  accessFlags := 33
  interfaces := #[]
  cf := some (fileOf pool0 8 #[] #[{ accessFlags := 1, nameIndex := 5, descriptorIndex := 6, attributes := #[] }] 33 0 #[] #[])
  fields := #[]
  methods := #[k0m0]
  instanceTypes := #[]
  staticTypes := #[]
  resolved := Array.replicate 124 none
  statics := none }

def pool1 : Array CpInfo := pool [(2, .class_ 4), (1, u "java/lang/Object"), (0, u "<init>"), (0, u "()V"), (0, .methodref 8 9), (0, .class_ 10), (0, .nameAndType 11 12), (0, u "com/example/lease/lease/NewJobRequireWholeCharactersPinLaw"), (0, u "unit"), (0, u "([CIJ)V"), (0, .methodref 8 14), (0, .nameAndType 15 16), (0, u "plain"), (0, u "(I)C"), (0, .string 18), (0, u ""), (0, .string 20), (0, u "s"), (0, .methodref 22 23), (0, .class_ 24), (0, .nameAndType 25 26), (0, u "com/example/lease/lease/NewJob"), (0, u "requireWholeCharacters"), (0, u "(Ljava/lang/String;Ljava/lang/String;)V"), (0, .class_ 28), (0, u "java/lang/String"), (0, .methodref 27 30), (0, .nameAndType 5 31), (0, u "([C)V"), (0, .integer 65535), (0, .integer 55296), (0, .integer 57343), (0, .integer 32768), (0, .long 1023), (1, .integer 56320), (2, u "law"), (0, u "(IJJJ)Z")] 3

def k1m0 : Method := { name := "<init>", desc := "()V", sig := { parameters := [], returnType := none }, accessFlags := 2, code := none }
def k1c1 : Code := { maxStack := 4, maxLocals := 9, code := code, exceptionTable := #[], attributes := #[] }
def k1m1 : Method := { name := "law", desc := "(IJJJ)Z", sig := { parameters := [.int, .long, .long, .long], returnType := some .boolean }, accessFlags := 9, code := some k1c1 }
def k1c2 : Code := { maxStack := 2, maxLocals := 2, code := method_3_code, exceptionTable := #[], attributes := #[] }
def k1m2 : Method := { name := "plain", desc := "(I)C", sig := { parameters := [.int], returnType := some .char }, accessFlags := 10, code := some k1c2 }
def k1c3 : Code := { maxStack := 7, maxLocals := 4, code := method_4_code, exceptionTable := #[], attributes := #[] }
def k1m3 : Method := { name := "unit", desc := "([CIJ)V", sig := { parameters := [(.array .char), .int, .long], returnType := none }, accessFlags := 10, code := some k1c3 }
/-- com/example/lease/lease/NewJobRequireWholeCharactersPinLaw -/
def k1 : Class := { plain "com/example/lease/lease/NewJobRequireWholeCharactersPinLaw" (some 0) with
  accessFlags := 49
  interfaces := #[]
  cf := some (fileOf pool1 8 #[] #[{ accessFlags := 2, nameIndex := 5, descriptorIndex := 6, attributes := #[] }, { accessFlags := 9, nameIndex := 41, descriptorIndex := 42, attributes := #[] }, { accessFlags := 10, nameIndex := 15, descriptorIndex := 16, attributes := #[] }, { accessFlags := 10, nameIndex := 11, descriptorIndex := 12, attributes := #[] }] 49 2 #[] #[])
  fields := #[]
  methods := #[k1m0, k1m1, k1m2, k1m3]
  instanceTypes := #[]
  staticTypes := #[]
  resolved := Array.replicate 46 none
  statics := none }

def pool2 : Array CpInfo := pool [(1, .class_ 2), (0, u "java/io/Serializable"), (0, .class_ 4), (0, u "java/lang/Object")] 2

/-- java/io/Serializable -/
def k2 : Class := { plain "java/io/Serializable" (some 0) with
  accessFlags := 1537
  interfaces := #[]
  cf := some (fileOf pool2 1 #[] #[] 1537 3 #[] #[])
  fields := #[]
  methods := #[]
  instanceTypes := #[]
  staticTypes := #[]
  resolved := Array.replicate 7 none
  statics := none }

def pool3 : Array CpInfo := pool [(1, .class_ 2), (0, u "java/lang/Comparable"), (0, .class_ 4), (0, u "java/lang/Object")] 7

/-- java/lang/Comparable -/
def k3 : Class := { plain "java/lang/Comparable" (some 0) with
  accessFlags := 1537
  interfaces := #[]
  cf := some (fileOf pool3 1 #[] #[] 1537 3 #[] #[])
  fields := #[]
  methods := #[]
  instanceTypes := #[]
  staticTypes := #[]
  resolved := Array.replicate 12 none
  statics := none }

def pool4 : Array CpInfo := pool [(2, .class_ 4), (1, u "java/lang/CharSequence"), (42, .class_ 48), (0, u "java/lang/CharSequence$1CodePointIterator"), (10, .class_ 60), (0, u "java/lang/CharSequence$1CharIterator"), (5, .class_ 67), (0, u "java/lang/Object")] 63

/-- java/lang/CharSequence -/
def k4 : Class := { plain "java/lang/CharSequence" (some 0) with
  accessFlags := 1537
  interfaces := #[]
  cf := some (fileOf pool4 2 #[.nestMembers #[47, 59]] #[] 1537 66 #[] #[])
  fields := #[]
  methods := #[]
  instanceTypes := #[]
  staticTypes := #[]
  resolved := Array.replicate 131 none
  statics := none }

def pool5 : Array CpInfo := pool [(1, .class_ 2), (0, u "java/lang/constant/Constable"), (0, .class_ 4), (0, u "java/lang/Object")] 6

/-- java/lang/constant/Constable -/
def k5 : Class := { plain "java/lang/constant/Constable" (some 0) with
  accessFlags := 1537
  interfaces := #[]
  cf := some (fileOf pool5 1 #[] #[] 1537 3 #[] #[])
  fields := #[]
  methods := #[]
  instanceTypes := #[]
  staticTypes := #[]
  resolved := Array.replicate 11 none
  statics := none }

def pool6 : Array CpInfo := pool [(1, .class_ 2), (0, u "java/lang/constant/ConstantDesc"), (0, .class_ 4), (0, u "java/lang/Object")] 32

/-- java/lang/constant/ConstantDesc -/
def k6 : Class := { plain "java/lang/constant/ConstantDesc" (some 0) with
  accessFlags := 1537
  interfaces := #[]
  cf := some (fileOf pool6 1 #[] #[] 1537 3 #[] #[])
  fields := #[]
  methods := #[]
  instanceTypes := #[]
  staticTypes := #[]
  resolved := Array.replicate 37 none
  statics := none }

def pool7 : Array CpInfo := pool [(1, .methodref 2 3), (0, .class_ 4), (0, .nameAndType 5 6), (0, u "java/lang/Object"), (0, u "<init>"), (0, u "()V"), (2, .fieldref 10 11), (0, .class_ 12), (0, .nameAndType 13 14), (0, u "java/lang/String"), (0, u "value"), (0, u "[B"), (0, .fieldref 10 16), (0, .nameAndType 17 18), (0, u "coder"), (0, u "B"), (2, u "hash"), (0, u "I"), (2, u "hashIsZero"), (0, u "Z"), (0, .methodref 10 28), (0, .nameAndType 5 29), (0, u "([CIILjava/lang/Void;)V"), (8, .fieldref 10 39), (0, .nameAndType 40 26), (0, u "COMPACT_STRINGS"), (1, .class_ 44), (1, u "java/lang/StringUTF16"), (0, u "compress"), (1, .methodref 42 48), (0, .nameAndType 49 50), (0, u "coderFromArrayLen"), (0, u "([BI)B"), (46, u "([BII)I"), (44, u "()Z"), (34, .methodref 42 178), (0, .nameAndType 45 179), (0, u "([CII)[B"), (154, u "()I"), (0, .methodref 10 336), (0, .nameAndType 17 337), (0, u "()B"), (53, u "(II)V"), (100, .methodref 10 493), (0, .nameAndType 494 142), (0, u "isLatin1"), (4, .methodref 10 500), (0, .nameAndType 501 391), (0, u "checkIndex"), (0, .methodref 42 503), (0, .nameAndType 504 97), (0, u "codePointAt"), (2, u "length"), (67, .class_ 576), (0, u "java/lang/CharSequence"), (22, u "CASE_INSENSITIVE_ORDER"), (0, u "Ljava/util/Comparator;"), (164, u "(I)I"), (244, u "([C)V"), (42, .fieldref 1054 1055), (0, .class_ 1056), (0, .nameAndType 1057 1058), (0, u "jdk/internal/util/Preconditions"), (0, u "SIOOBE_FORMATTER"), (0, u "Ljava/util/function/BiFunction;"), (0, .methodref 1054 1060), (0, .nameAndType 501 1061), (0, u "(IILjava/util/function/BiFunction;)I"), (39, u "serialPersistentFields"), (0, u "[Ljava/io/ObjectStreamField;"), (0, .class_ 1104), (0, u "java/lang/String$CaseInsensitiveComparator"), (1, .class_ 1107), (0, u "java/io/Serializable"), (0, .class_ 1109), (0, u "java/lang/Comparable"), (0, .class_ 1111), (0, u "java/lang/constant/Constable"), (0, .class_ 1113), (0, u "java/lang/constant/ConstantDesc"), (2, u "serialVersionUID"), (0, u "J"), (3, u "REPL"), (0, u "C"), (2, u "LATIN1"), (1, u "UTF16")] 323

def k7m0 : Method := { name := "<init>", desc := "()V", sig := { parameters := [], returnType := none }, accessFlags := 1, code := none }
def k7c1 : Code := { maxStack := 5, maxLocals := 2, code := jdk_42_method_3_code, exceptionTable := #[], attributes := #[] }
def k7m1 : Method := { name := "<init>", desc := "([C)V", sig := { parameters := [(.array .char)], returnType := none }, accessFlags := 1, code := some k7c1 }
def k7c2 : Code := { maxStack := 2, maxLocals := 1, code := jdk_42_method_54_code, exceptionTable := #[], attributes := #[] }
def k7m2 : Method := { name := "length", desc := "()I", sig := { parameters := [], returnType := some .int }, accessFlags := 1, code := some k7c2 }
def k7c3 : Code := { maxStack := 3, maxLocals := 3, code := jdk_42_method_57_code, exceptionTable := #[], attributes := #[] }
def k7m3 : Method := { name := "codePointAt", desc := "(I)I", sig := { parameters := [.int], returnType := some .int }, accessFlags := 1, code := some k7c3 }
def k7c4 : Code := { maxStack := 4, maxLocals := 6, code := jdk_42_method_149_code, exceptionTable := #[], attributes := #[] }
def k7m4 : Method := { name := "<init>", desc := "([CIILjava/lang/Void;)V", sig := { parameters := [(.array .char), .int, .int, (.object "java/lang/Void")], returnType := none }, accessFlags := 2, code := some k7c4 }
def k7c5 : Code := { maxStack := 1, maxLocals := 1, code := jdk_42_method_152_code, exceptionTable := #[], attributes := #[] }
def k7m5 : Method := { name := "coder", desc := "()B", sig := { parameters := [], returnType := some .byte }, accessFlags := 0, code := some k7c5 }
def k7c6 : Code := { maxStack := 1, maxLocals := 1, code := jdk_42_method_154_code, exceptionTable := #[], attributes := #[] }
def k7m6 : Method := { name := "isLatin1", desc := "()Z", sig := { parameters := [], returnType := some .boolean }, accessFlags := 0, code := some k7c6 }
def k7c7 : Code := { maxStack := 3, maxLocals := 2, code := jdk_42_method_155_code, exceptionTable := #[], attributes := #[] }
def k7m7 : Method := { name := "checkIndex", desc := "(II)V", sig := { parameters := [.int, .int], returnType := none }, accessFlags := 8, code := some k7c7 }
/-- java/lang/String -/
def k7 : Class := { plain "java/lang/String" (some 0) with
  accessFlags := 49
  interfaces := #[2, 3, 4, 5, 6]
  cf := some (fileOf pool7 10 #[.nestMembers #[1103]] #[{ accessFlags := 1, nameIndex := 5, descriptorIndex := 6, attributes := #[] }, { accessFlags := 1, nameIndex := 5, descriptorIndex := 1010, attributes := #[] }, { accessFlags := 1, nameIndex := 507, descriptorIndex := 334, attributes := #[] }, { accessFlags := 1, nameIndex := 504, descriptorIndex := 765, attributes := #[] }, { accessFlags := 2, nameIndex := 5, descriptorIndex := 29, attributes := #[] }, { accessFlags := 0, nameIndex := 17, descriptorIndex := 337, attributes := #[] }, { accessFlags := 0, nameIndex := 494, descriptorIndex := 142, attributes := #[] }, { accessFlags := 8, nameIndex := 501, descriptorIndex := 391, attributes := #[] }] 49 2 #[1106, 1108, 575, 1110, 1112] #[{ accessFlags := 18, nameIndex := 13, descriptorIndex := 14, attributes := #[] }, { accessFlags := 18, nameIndex := 17, descriptorIndex := 18, attributes := #[] }, { accessFlags := 2, nameIndex := 21, descriptorIndex := 22, attributes := #[] }, { accessFlags := 2, nameIndex := 25, descriptorIndex := 26, attributes := #[] }, { accessFlags := 26, nameIndex := 1116, descriptorIndex := 1117, attributes := #[] }, { accessFlags := 24, nameIndex := 40, descriptorIndex := 26, attributes := #[] }, { accessFlags := 26, nameIndex := 1101, descriptorIndex := 1102, attributes := #[] }, { accessFlags := 26, nameIndex := 1121, descriptorIndex := 1122, attributes := #[] }, { accessFlags := 25, nameIndex := 599, descriptorIndex := 600, attributes := #[] }, { accessFlags := 24, nameIndex := 1125, descriptorIndex := 18, attributes := #[] }, { accessFlags := 24, nameIndex := 1127, descriptorIndex := 18, attributes := #[] }])
  fields := #[{ name := "value", type := (.array .byte), accessFlags := 18, slot := 0, constantValue := 0 }, { name := "coder", type := .byte, accessFlags := 18, slot := 1, constantValue := 0 }, { name := "hash", type := .int, accessFlags := 2, slot := 2, constantValue := 0 }, { name := "hashIsZero", type := .boolean, accessFlags := 2, slot := 3, constantValue := 0 }, { name := "serialVersionUID", type := .long, accessFlags := 26, slot := 0, constantValue := 0 }, { name := "COMPACT_STRINGS", type := .boolean, accessFlags := 24, slot := 1, constantValue := 0 }, { name := "serialPersistentFields", type := (.array (.object "java/io/ObjectStreamField")), accessFlags := 26, slot := 2, constantValue := 0 }, { name := "REPL", type := .char, accessFlags := 26, slot := 3, constantValue := 0 }, { name := "CASE_INSENSITIVE_ORDER", type := (.object "java/util/Comparator"), accessFlags := 25, slot := 4, constantValue := 0 }, { name := "LATIN1", type := .byte, accessFlags := 24, slot := 5, constantValue := 0 }, { name := "UTF16", type := .byte, accessFlags := 24, slot := 6, constantValue := 0 }]
  methods := #[k7m0, k7m1, k7m2, k7m3, k7m4, k7m5, k7m6, k7m7]
  instanceTypes := #[(.array .byte), .byte, .int, .boolean]
  staticTypes := #[.long, .boolean, (.array (.object "java/io/ObjectStreamField")), .char, (.object "java/util/Comparator"), .byte, .byte]
  resolved := Array.replicate 1451 none
  statics := some 0 }

def pool8 : Array CpInfo := pool [(2, .class_ 4), (1, u "java/lang/Object"), (3, .class_ 10), (1, u "com/example/lease/lease/NewJob"), (0, u "kind"), (0, u "Ljava/lang/String;"), (2, u "payload"), (2, u "queue"), (2, u "priority"), (0, u "I"), (2, u "maxAttempts"), (2, u "delay"), (0, u "Ljava/time/Duration;"), (2, u "runAt"), (0, u "Ljava/time/Instant;"), (2, u "key"), (4, u "(Ljava/lang/String;Ljava/lang/String;)V"), (11, u "requireWholeCharacters"), (26, .class_ 82), (1, u "java/lang/String"), (8, u "EARLIEST_RUN_AT"), (8, u "LATEST_RUN_AT"), (35, u "(I)I"), (1, .methodref 80 139), (0, .nameAndType 140 141), (0, u "length"), (0, u "()I"), (0, .methodref 80 143), (0, .nameAndType 144 136), (0, u "codePointAt"), (0, .class_ 146), (0, u "java/lang/Character"), (0, .integer 55296), (0, .integer 57343), (11, .methodref 145 161), (0, .nameAndType 162 136), (0, u "charCount"), (8, u "DEFAULT_QUEUE"), (1, u "DEFAULT_PRIORITY"), (1, u "DEFAULT_MAX_ATTEMPTS")] 53

def k8c0 : Code := { maxStack := 7, maxLocals := 4, code := prog_14_method_20_code, exceptionTable := #[], attributes := #[] }
def k8m0 : Method := { name := "requireWholeCharacters", desc := "(Ljava/lang/String;Ljava/lang/String;)V", sig := { parameters := [(.object "java/lang/String"), (.object "java/lang/String")], returnType := none }, accessFlags := 8, code := some k8c0 }
/-- com/example/lease/lease/NewJob -/
def k8 : Class := { plain "com/example/lease/lease/NewJob" (some 0) with
  accessFlags := 49
  interfaces := #[]
  cf := some (fileOf pool8 8 #[] #[{ accessFlags := 8, nameIndex := 53, descriptorIndex := 41, attributes := #[] }] 49 2 #[] #[{ accessFlags := 24, nameIndex := 171, descriptorIndex := 12, attributes := #[] }, { accessFlags := 26, nameIndex := 173, descriptorIndex := 22, attributes := #[] }, { accessFlags := 26, nameIndex := 175, descriptorIndex := 22, attributes := #[] }, { accessFlags := 26, nameIndex := 91, descriptorIndex := 33, attributes := #[] }, { accessFlags := 26, nameIndex := 100, descriptorIndex := 33, attributes := #[] }, { accessFlags := 18, nameIndex := 11, descriptorIndex := 12, attributes := #[] }, { accessFlags := 18, nameIndex := 15, descriptorIndex := 12, attributes := #[] }, { accessFlags := 18, nameIndex := 18, descriptorIndex := 12, attributes := #[] }, { accessFlags := 18, nameIndex := 21, descriptorIndex := 22, attributes := #[] }, { accessFlags := 18, nameIndex := 25, descriptorIndex := 22, attributes := #[] }, { accessFlags := 18, nameIndex := 28, descriptorIndex := 29, attributes := #[] }, { accessFlags := 18, nameIndex := 32, descriptorIndex := 33, attributes := #[] }, { accessFlags := 18, nameIndex := 36, descriptorIndex := 12, attributes := #[] }])
  fields := #[{ name := "DEFAULT_QUEUE", type := (.object "java/lang/String"), accessFlags := 24, slot := 0, constantValue := 0 }, { name := "DEFAULT_PRIORITY", type := .int, accessFlags := 26, slot := 1, constantValue := 0 }, { name := "DEFAULT_MAX_ATTEMPTS", type := .int, accessFlags := 26, slot := 2, constantValue := 0 }, { name := "EARLIEST_RUN_AT", type := (.object "java/time/Instant"), accessFlags := 26, slot := 3, constantValue := 0 }, { name := "LATEST_RUN_AT", type := (.object "java/time/Instant"), accessFlags := 26, slot := 4, constantValue := 0 }, { name := "kind", type := (.object "java/lang/String"), accessFlags := 18, slot := 0, constantValue := 0 }, { name := "payload", type := (.object "java/lang/String"), accessFlags := 18, slot := 1, constantValue := 0 }, { name := "queue", type := (.object "java/lang/String"), accessFlags := 18, slot := 2, constantValue := 0 }, { name := "priority", type := .int, accessFlags := 18, slot := 3, constantValue := 0 }, { name := "maxAttempts", type := .int, accessFlags := 18, slot := 4, constantValue := 0 }, { name := "delay", type := (.object "java/time/Duration"), accessFlags := 18, slot := 5, constantValue := 0 }, { name := "runAt", type := (.object "java/time/Instant"), accessFlags := 18, slot := 6, constantValue := 0 }, { name := "key", type := (.object "java/lang/String"), accessFlags := 18, slot := 7, constantValue := 0 }]
  methods := #[k8m0]
  instanceTypes := #[(.object "java/lang/String"), (.object "java/lang/String"), (.object "java/lang/String"), .int, .int, (.object "java/time/Duration"), (.object "java/time/Instant"), (.object "java/lang/String")]
  staticTypes := #[(.object "java/lang/String"), .int, .int, (.object "java/time/Instant"), (.object "java/time/Instant")]
  resolved := Array.replicate 229 none
  statics := none }

def pool9 : Array CpInfo := pool [(6, .class_ 8), (1, u "java/lang/Object"), (0, u "<init>"), (0, u "()V"), (0, .methodref 12 13), (0, .class_ 14), (0, .nameAndType 15 16), (0, u "java/lang/StringUTF16"), (0, u "newBytesLength"), (0, u "(I)I"), (3, .integer 1073741823), (23, .fieldref 12 45), (0, .nameAndType 46 47), (0, u "$assertionsDisabled"), (0, u "Z"), (11, .fieldref 12 60), (0, .nameAndType 61 62), (0, u "HI_BYTE_SHIFT"), (0, u "I"), (0, .fieldref 12 64), (0, .nameAndType 65 62), (0, u "LO_BYTE_SHIFT"), (5, .methodref 12 72), (0, .nameAndType 73 74), (0, u "getChar"), (0, u "([BI)C"), (0, .methodref 76 77), (0, .class_ 78), (0, .nameAndType 79 80), (0, u "java/lang/Character"), (0, u "isHighSurrogate"), (0, u "(C)Z"), (0, .methodref 76 82), (0, .nameAndType 83 80), (0, u "isLowSurrogate"), (0, .methodref 76 85), (0, .nameAndType 86 87), (0, u "toCodePoint"), (0, u "(CC)I"), (0, .methodref 12 89), (0, .nameAndType 90 91), (0, u "codePointAt"), (0, u "([BIIZ)I"), (15, .methodref 12 108), (0, .nameAndType 109 110), (0, u "newBytesFor"), (0, u "(I)[B"), (0, .methodref 12 112), (0, .nameAndType 113 114), (0, u "putChar"), (0, u "([BII)V"), (0, .methodref 12 116), (0, .nameAndType 117 118), (0, u "compress"), (0, u "([CI[BII)I"), (0, .methodref 12 120), (0, .nameAndType 121 122), (0, u "toBytes"), (0, u "([CII)[B"), (127, u "([BII)I"), (10, u "coderFromArrayLen"), (0, u "([BI)B"), (106, .class_ 371), (1, u "java/lang/StringUTF16$LinesSpliterator"), (58, u "MAX_LENGTH"), (196, .class_ 628), (0, u "java/lang/StringUTF16$CodePointsSpliterator"), (0, .class_ 630), (0, u "java/lang/StringUTF16$CharsSpliterator")] 4

def k9m0 : Method := { name := "<init>", desc := "()V", sig := { parameters := [], returnType := none }, accessFlags := 0, code := none }
def k9c1 : Code := { maxStack := 1, maxLocals := 1, code := jdk_52_method_2_code, exceptionTable := #[], attributes := #[] }
def k9m1 : Method := { name := "newBytesFor", desc := "(I)[B", sig := { parameters := [.int], returnType := some (.array .byte) }, accessFlags := 9, code := some k9c1 }
def k9c2 : Code := { maxStack := 4, maxLocals := 1, code := jdk_52_method_3_code, exceptionTable := #[], attributes := #[] }
def k9m2 : Method := { name := "newBytesLength", desc := "(I)I", sig := { parameters := [.int], returnType := some .int }, accessFlags := 9, code := some k9c2 }
def k9c3 : Code := { maxStack := 4, maxLocals := 3, code := jdk_52_method_4_code, exceptionTable := #[], attributes := #[] }
def k9m3 : Method := { name := "putChar", desc := "([BII)V", sig := { parameters := [(.array .byte), .int, .int], returnType := none }, accessFlags := 8, code := some k9c3 }
def k9c4 : Code := { maxStack := 3, maxLocals := 2, code := jdk_52_method_5_code, exceptionTable := #[], attributes := #[] }
def k9m4 : Method := { name := "getChar", desc := "([BI)C", sig := { parameters := [(.array .byte), .int], returnType := some .char }, accessFlags := 8, code := some k9c4 }
def k9c5 : Code := { maxStack := 2, maxLocals := 6, code := jdk_52_method_7_code, exceptionTable := #[], attributes := #[] }
def k9m5 : Method := { name := "codePointAt", desc := "([BIIZ)I", sig := { parameters := [(.array .byte), .int, .int, .boolean], returnType := some .int }, accessFlags := 10, code := some k9c5 }
def k9c6 : Code := { maxStack := 4, maxLocals := 3, code := jdk_52_method_8_code, exceptionTable := #[], attributes := #[] }
def k9m6 : Method := { name := "codePointAt", desc := "([BII)I", sig := { parameters := [(.array .byte), .int, .int], returnType := some .int }, accessFlags := 9, code := some k9c6 }
def k9c7 : Code := { maxStack := 4, maxLocals := 5, code := jdk_52_method_14_code, exceptionTable := #[], attributes := #[] }
def k9m7 : Method := { name := "toBytes", desc := "([CII)[B", sig := { parameters := [(.array .char), .int, .int], returnType := some (.array .byte) }, accessFlags := 9, code := some k9c7 }
def k9c8 : Code := { maxStack := 2, maxLocals := 2, code := jdk_52_method_15_code, exceptionTable := #[], attributes := #[] }
def k9m8 : Method := { name := "coderFromArrayLen", desc := "([BI)B", sig := { parameters := [(.array .byte), .int], returnType := some .byte }, accessFlags := 8, code := some k9c8 }
def k9c9 : Code := { maxStack := 5, maxLocals := 6, code := jdk_52_method_16_code, exceptionTable := #[], attributes := #[] }
def k9m9 : Method := { name := "compress", desc := "([CII)[B", sig := { parameters := [(.array .char), .int, .int], returnType := some (.array .byte) }, accessFlags := 9, code := some k9c9 }
def k9c10 : Code := { maxStack := 3, maxLocals := 7, code := jdk_52_method_21_code, exceptionTable := #[], attributes := #[] }
def k9m10 : Method := { name := "compress", desc := "([CI[BII)I", sig := { parameters := [(.array .char), .int, (.array .byte), .int, .int], returnType := some .int }, accessFlags := 9, code := some k9c10 }
/-- java/lang/StringUTF16 -/
def k9 : Class := { plain "java/lang/StringUTF16" (some 0) with
  accessFlags := 48
  interfaces := #[]
  cf := some (fileOf pool9 12 #[.nestMembers #[627, 629, 369]] #[{ accessFlags := 0, nameIndex := 9, descriptorIndex := 10, attributes := #[] }, { accessFlags := 9, nameIndex := 109, descriptorIndex := 110, attributes := #[] }, { accessFlags := 9, nameIndex := 15, descriptorIndex := 16, attributes := #[] }, { accessFlags := 8, nameIndex := 113, descriptorIndex := 114, attributes := #[] }, { accessFlags := 8, nameIndex := 73, descriptorIndex := 74, attributes := #[] }, { accessFlags := 10, nameIndex := 90, descriptorIndex := 91, attributes := #[] }, { accessFlags := 9, nameIndex := 90, descriptorIndex := 250, attributes := #[] }, { accessFlags := 9, nameIndex := 121, descriptorIndex := 122, attributes := #[] }, { accessFlags := 8, nameIndex := 261, descriptorIndex := 262, attributes := #[] }, { accessFlags := 9, nameIndex := 117, descriptorIndex := 122, attributes := #[] }, { accessFlags := 9, nameIndex := 117, descriptorIndex := 118, attributes := #[] }] 48 6 #[] #[{ accessFlags := 26, nameIndex := 61, descriptorIndex := 62, attributes := #[] }, { accessFlags := 26, nameIndex := 65, descriptorIndex := 62, attributes := #[] }, { accessFlags := 24, nameIndex := 430, descriptorIndex := 62, attributes := #[] }, { accessFlags := 4120, nameIndex := 46, descriptorIndex := 47, attributes := #[] }])
  fields := #[{ name := "HI_BYTE_SHIFT", type := .int, accessFlags := 26, slot := 0, constantValue := 0 }, { name := "LO_BYTE_SHIFT", type := .int, accessFlags := 26, slot := 1, constantValue := 0 }, { name := "MAX_LENGTH", type := .int, accessFlags := 24, slot := 2, constantValue := 0 }, { name := "$assertionsDisabled", type := .boolean, accessFlags := 4120, slot := 3, constantValue := 0 }]
  methods := #[k9m0, k9m1, k9m2, k9m3, k9m4, k9m5, k9m6, k9m7, k9m8, k9m9, k9m10]
  instanceTypes := #[]
  staticTypes := #[.int, .int, .int, .boolean]
  resolved := Array.replicate 635 none
  statics := some 1 }

def pool10 : Array CpInfo := pool [(2, .class_ 4), (1, u "java/lang/Object"), (0, u "<init>"), (0, u "()V"), (17, .class_ 26), (1, u "jdk/internal/util/Preconditions"), (6, u "checkIndex"), (21, .class_ 56), (0, u "jdk/internal/util/Preconditions$4"), (57, .class_ 115), (0, u "jdk/internal/util/Preconditions$1"), (7, u "SIOOBE_FORMATTER"), (0, u "Ljava/util/function/BiFunction;"), (0, .class_ 126), (0, u "jdk/internal/util/Preconditions$2"), (3, u "AIOOBE_FORMATTER"), (0, .class_ 132), (0, u "jdk/internal/util/Preconditions$3"), (3, u "IOOBE_FORMATTER"), (41, u "(IILjava/util/function/BiFunction;)I")] 15

def k10m0 : Method := { name := "<init>", desc := "()V", sig := { parameters := [], returnType := none }, accessFlags := 1, code := none }
def k10c1 : Code := { maxStack := 3, maxLocals := 3, code := jdk_41_method_11_code, exceptionTable := #[], attributes := #[] }
def k10m1 : Method := { name := "checkIndex", desc := "(IILjava/util/function/BiFunction;)I", sig := { parameters := [.int, .int, (.object "java/util/function/BiFunction")], returnType := some .int }, accessFlags := 9, code := some k10c1 }
/-- jdk/internal/util/Preconditions -/
def k10 : Class := { plain "jdk/internal/util/Preconditions" (some 0) with
  accessFlags := 33
  interfaces := #[]
  cf := some (fileOf pool10 24 #[.nestMembers #[55, 131, 125, 114]] #[{ accessFlags := 1, nameIndex := 5, descriptorIndex := 6, attributes := #[] }, { accessFlags := 9, nameIndex := 33, descriptorIndex := 178, attributes := #[] }] 33 2 #[] #[{ accessFlags := 25, nameIndex := 123, descriptorIndex := 124, attributes := #[] }, { accessFlags := 25, nameIndex := 130, descriptorIndex := 124, attributes := #[] }, { accessFlags := 25, nameIndex := 136, descriptorIndex := 124, attributes := #[] }])
  fields := #[{ name := "SIOOBE_FORMATTER", type := (.object "java/util/function/BiFunction"), accessFlags := 25, slot := 0, constantValue := 0 }, { name := "AIOOBE_FORMATTER", type := (.object "java/util/function/BiFunction"), accessFlags := 25, slot := 1, constantValue := 0 }, { name := "IOOBE_FORMATTER", type := (.object "java/util/function/BiFunction"), accessFlags := 25, slot := 2, constantValue := 0 }]
  methods := #[k10m0, k10m1]
  instanceTypes := #[]
  staticTypes := #[(.object "java/util/function/BiFunction"), (.object "java/util/function/BiFunction"), (.object "java/util/function/BiFunction")]
  resolved := Array.replicate 194 none
  statics := some 2 }

def pool11 : Array CpInfo := pool [(1, .class_ 2), (0, u "java/lang/Character"), (18, u "value"), (0, u "C"), (19, .class_ 44), (1, u "java/lang/Object"), (3, .class_ 50), (1, u "java/lang/Character$CharacterCache"), (22, .integer 65536), (1, .integer 55296), (0, .integer 56320), (0, .integer 57344), (2, u "isHighSurrogate"), (0, u "(C)Z"), (2, u "isLowSurrogate"), (0, .integer 4238353408), (12, u "toCodePoint"), (0, u "(CC)I"), (74, u "(I)I"), (109, u "$assertionsDisabled"), (0, u "Z"), (21, .class_ 309), (1, u "java/lang/Character$UnicodeBlock"), (73, u "TYPE"), (0, u "Ljava/lang/Class;"), (0, .class_ 386), (0, u "java/io/Serializable"), (0, .class_ 388), (0, u "java/lang/Comparable"), (0, .class_ 390), (0, u "java/lang/constant/Constable"), (0, u "MIN_RADIX"), (0, u "I"), (2, u "MAX_RADIX"), (1, u "MIN_VALUE"), (1, u "MAX_VALUE"), (3, u "UNASSIGNED"), (0, u "B"), (0, u "UPPERCASE_LETTER"), (1, u "LOWERCASE_LETTER"), (0, u "TITLECASE_LETTER"), (1, u "MODIFIER_LETTER"), (1, u "OTHER_LETTER"), (1, u "NON_SPACING_MARK"), (1, u "ENCLOSING_MARK"), (1, u "COMBINING_SPACING_MARK"), (1, u "DECIMAL_DIGIT_NUMBER"), (1, u "LETTER_NUMBER"), (1, u "OTHER_NUMBER"), (1, u "SPACE_SEPARATOR"), (1, u "LINE_SEPARATOR"), (1, u "PARAGRAPH_SEPARATOR"), (1, u "CONTROL"), (1, u "FORMAT"), (1, u "PRIVATE_USE"), (1, u "SURROGATE"), (1, u "DASH_PUNCTUATION"), (1, u "START_PUNCTUATION"), (1, u "END_PUNCTUATION"), (1, u "CONNECTOR_PUNCTUATION"), (1, u "OTHER_PUNCTUATION"), (1, u "MATH_SYMBOL"), (1, u "CURRENCY_SYMBOL"), (1, u "MODIFIER_SYMBOL"), (1, u "OTHER_SYMBOL"), (1, u "INITIAL_QUOTE_PUNCTUATION"), (1, u "FINAL_QUOTE_PUNCTUATION"), (1, u "ERROR"), (1, u "DIRECTIONALITY_UNDEFINED"), (0, u "DIRECTIONALITY_LEFT_TO_RIGHT"), (0, u "DIRECTIONALITY_RIGHT_TO_LEFT"), (0, u "DIRECTIONALITY_RIGHT_TO_LEFT_ARABIC"), (0, u "DIRECTIONALITY_EUROPEAN_NUMBER"), (0, u "DIRECTIONALITY_EUROPEAN_NUMBER_SEPARATOR"), (0, u "DIRECTIONALITY_EUROPEAN_NUMBER_TERMINATOR"), (0, u "DIRECTIONALITY_ARABIC_NUMBER"), (0, u "DIRECTIONALITY_COMMON_NUMBER_SEPARATOR"), (0, u "DIRECTIONALITY_NONSPACING_MARK"), (0, u "DIRECTIONALITY_BOUNDARY_NEUTRAL"), (0, u "DIRECTIONALITY_PARAGRAPH_SEPARATOR"), (0, u "DIRECTIONALITY_SEGMENT_SEPARATOR"), (0, u "DIRECTIONALITY_WHITESPACE"), (0, u "DIRECTIONALITY_OTHER_NEUTRALS"), (0, u "DIRECTIONALITY_LEFT_TO_RIGHT_EMBEDDING"), (0, u "DIRECTIONALITY_LEFT_TO_RIGHT_OVERRIDE"), (0, u "DIRECTIONALITY_RIGHT_TO_LEFT_EMBEDDING"), (0, u "DIRECTIONALITY_RIGHT_TO_LEFT_OVERRIDE"), (1, u "DIRECTIONALITY_POP_DIRECTIONAL_FORMAT"), (0, u "DIRECTIONALITY_LEFT_TO_RIGHT_ISOLATE"), (0, u "DIRECTIONALITY_RIGHT_TO_LEFT_ISOLATE"), (0, u "DIRECTIONALITY_FIRST_STRONG_ISOLATE"), (0, u "DIRECTIONALITY_POP_DIRECTIONAL_ISOLATE"), (0, u "MIN_HIGH_SURROGATE"), (0, u "MAX_HIGH_SURROGATE"), (1, u "MIN_LOW_SURROGATE"), (0, u "MAX_LOW_SURROGATE"), (1, u "MIN_SURROGATE"), (0, u "MAX_SURROGATE"), (0, u "MIN_SUPPLEMENTARY_CODE_POINT"), (0, u "MIN_CODE_POINT"), (0, u "MAX_CODE_POINT"), (1, u "serialVersionUID"), (0, u "J"), (2, u "SIZE"), (0, u "BYTES"), (29, u "charCount"), (58, .class_ 596), (0, u "java/lang/Character$UnicodeScript"), (0, .class_ 598), (0, u "java/lang/Character$Subset")] 5

def k11c0 : Code := { maxStack := 2, maxLocals := 1, code := jdk_89_method_14_code, exceptionTable := #[], attributes := #[] }
def k11m0 : Method := { name := "isHighSurrogate", desc := "(C)Z", sig := { parameters := [.char], returnType := some .boolean }, accessFlags := 9, code := some k11c0 }
def k11c1 : Code := { maxStack := 2, maxLocals := 1, code := jdk_89_method_15_code, exceptionTable := #[], attributes := #[] }
def k11m1 : Method := { name := "isLowSurrogate", desc := "(C)Z", sig := { parameters := [.char], returnType := some .boolean }, accessFlags := 9, code := some k11c1 }
def k11c2 : Code := { maxStack := 2, maxLocals := 1, code := jdk_89_method_18_code, exceptionTable := #[], attributes := #[] }
def k11m2 : Method := { name := "charCount", desc := "(I)I", sig := { parameters := [.int], returnType := some .int }, accessFlags := 9, code := some k11c2 }
def k11c3 : Code := { maxStack := 2, maxLocals := 2, code := jdk_89_method_19_code, exceptionTable := #[], attributes := #[] }
def k11m3 : Method := { name := "toCodePoint", desc := "(CC)I", sig := { parameters := [.char, .char], returnType := some .int }, accessFlags := 9, code := some k11c3 }
/-- java/lang/Character -/
def k11 : Class := { plain "java/lang/Character" (some 0) with
  accessFlags := 49
  interfaces := #[2, 3, 5]
  cf := some (fileOf pool11 1 #[.nestMembers #[48, 595, 307, 597]] #[{ accessFlags := 9, nameIndex := 80, descriptorIndex := 81, attributes := #[] }, { accessFlags := 9, nameIndex := 84, descriptorIndex := 81, attributes := #[] }, { accessFlags := 9, nameIndex := 536, descriptorIndex := 174, attributes := #[] }, { accessFlags := 9, nameIndex := 98, descriptorIndex := 99, attributes := #[] }] 49 42 #[385, 387, 389] #[{ accessFlags := 25, nameIndex := 391, descriptorIndex := 392, attributes := #[] }, { accessFlags := 25, nameIndex := 395, descriptorIndex := 392, attributes := #[] }, { accessFlags := 25, nameIndex := 397, descriptorIndex := 22, attributes := #[] }, { accessFlags := 25, nameIndex := 399, descriptorIndex := 22, attributes := #[] }, { accessFlags := 25, nameIndex := 383, descriptorIndex := 384, attributes := #[] }, { accessFlags := 25, nameIndex := 403, descriptorIndex := 404, attributes := #[] }, { accessFlags := 25, nameIndex := 405, descriptorIndex := 404, attributes := #[] }, { accessFlags := 25, nameIndex := 407, descriptorIndex := 404, attributes := #[] }, { accessFlags := 25, nameIndex := 408, descriptorIndex := 404, attributes := #[] }, { accessFlags := 25, nameIndex := 410, descriptorIndex := 404, attributes := #[] }, { accessFlags := 25, nameIndex := 412, descriptorIndex := 404, attributes := #[] }, { accessFlags := 25, nameIndex := 414, descriptorIndex := 404, attributes := #[] }, { accessFlags := 25, nameIndex := 416, descriptorIndex := 404, attributes := #[] }, { accessFlags := 25, nameIndex := 418, descriptorIndex := 404, attributes := #[] }, { accessFlags := 25, nameIndex := 420, descriptorIndex := 404, attributes := #[] }, { accessFlags := 25, nameIndex := 422, descriptorIndex := 404, attributes := #[] }, { accessFlags := 25, nameIndex := 424, descriptorIndex := 404, attributes := #[] }, { accessFlags := 25, nameIndex := 426, descriptorIndex := 404, attributes := #[] }, { accessFlags := 25, nameIndex := 428, descriptorIndex := 404, attributes := #[] }, { accessFlags := 25, nameIndex := 430, descriptorIndex := 404, attributes := #[] }, { accessFlags := 25, nameIndex := 432, descriptorIndex := 404, attributes := #[] }, { accessFlags := 25, nameIndex := 434, descriptorIndex := 404, attributes := #[] }, { accessFlags := 25, nameIndex := 436, descriptorIndex := 404, attributes := #[] }, { accessFlags := 25, nameIndex := 438, descriptorIndex := 404, attributes := #[] }, { accessFlags := 25, nameIndex := 440, descriptorIndex := 404, attributes := #[] }, { accessFlags := 25, nameIndex := 442, descriptorIndex := 404, attributes := #[] }, { accessFlags := 25, nameIndex := 444, descriptorIndex := 404, attributes := #[] }, { accessFlags := 25, nameIndex := 446, descriptorIndex := 404, attributes := #[] }, { accessFlags := 25, nameIndex := 448, descriptorIndex := 404, attributes := #[] }, { accessFlags := 25, nameIndex := 450, descriptorIndex := 404, attributes := #[] }, { accessFlags := 25, nameIndex := 452, descriptorIndex := 404, attributes := #[] }, { accessFlags := 25, nameIndex := 454, descriptorIndex := 404, attributes := #[] }, { accessFlags := 25, nameIndex := 456, descriptorIndex := 404, attributes := #[] }, { accessFlags := 25, nameIndex := 458, descriptorIndex := 404, attributes := #[] }, { accessFlags := 25, nameIndex := 460, descriptorIndex := 404, attributes := #[] }, { accessFlags := 24, nameIndex := 462, descriptorIndex := 392, attributes := #[] }, { accessFlags := 25, nameIndex := 464, descriptorIndex := 404, attributes := #[] }, { accessFlags := 25, nameIndex := 465, descriptorIndex := 404, attributes := #[] }, { accessFlags := 25, nameIndex := 466, descriptorIndex := 404, attributes := #[] }, { accessFlags := 25, nameIndex := 467, descriptorIndex := 404, attributes := #[] }, { accessFlags := 25, nameIndex := 468, descriptorIndex := 404, attributes := #[] }, { accessFlags := 25, nameIndex := 469, descriptorIndex := 404, attributes := #[] }, { accessFlags := 25, nameIndex := 470, descriptorIndex := 404, attributes := #[] }, { accessFlags := 25, nameIndex := 471, descriptorIndex := 404, attributes := #[] }, { accessFlags := 25, nameIndex := 472, descriptorIndex := 404, attributes := #[] }, { accessFlags := 25, nameIndex := 473, descriptorIndex := 404, attributes := #[] }, { accessFlags := 25, nameIndex := 474, descriptorIndex := 404, attributes := #[] }, { accessFlags := 25, nameIndex := 475, descriptorIndex := 404, attributes := #[] }, { accessFlags := 25, nameIndex := 476, descriptorIndex := 404, attributes := #[] }, { accessFlags := 25, nameIndex := 477, descriptorIndex := 404, attributes := #[] }, { accessFlags := 25, nameIndex := 478, descriptorIndex := 404, attributes := #[] }, { accessFlags := 25, nameIndex := 479, descriptorIndex := 404, attributes := #[] }, { accessFlags := 25, nameIndex := 480, descriptorIndex := 404, attributes := #[] }, { accessFlags := 25, nameIndex := 481, descriptorIndex := 404, attributes := #[] }, { accessFlags := 25, nameIndex := 482, descriptorIndex := 404, attributes := #[] }, { accessFlags := 25, nameIndex := 484, descriptorIndex := 404, attributes := #[] }, { accessFlags := 25, nameIndex := 485, descriptorIndex := 404, attributes := #[] }, { accessFlags := 25, nameIndex := 486, descriptorIndex := 404, attributes := #[] }, { accessFlags := 25, nameIndex := 487, descriptorIndex := 404, attributes := #[] }, { accessFlags := 25, nameIndex := 488, descriptorIndex := 404, attributes := #[] }, { accessFlags := 25, nameIndex := 489, descriptorIndex := 22, attributes := #[] }, { accessFlags := 25, nameIndex := 490, descriptorIndex := 22, attributes := #[] }, { accessFlags := 25, nameIndex := 492, descriptorIndex := 22, attributes := #[] }, { accessFlags := 25, nameIndex := 493, descriptorIndex := 22, attributes := #[] }, { accessFlags := 25, nameIndex := 495, descriptorIndex := 22, attributes := #[] }, { accessFlags := 25, nameIndex := 496, descriptorIndex := 22, attributes := #[] }, { accessFlags := 25, nameIndex := 497, descriptorIndex := 392, attributes := #[] }, { accessFlags := 25, nameIndex := 498, descriptorIndex := 392, attributes := #[] }, { accessFlags := 25, nameIndex := 499, descriptorIndex := 392, attributes := #[] }, { accessFlags := 18, nameIndex := 21, descriptorIndex := 22, attributes := #[] }, { accessFlags := 26, nameIndex := 501, descriptorIndex := 502, attributes := #[] }, { accessFlags := 25, nameIndex := 505, descriptorIndex := 392, attributes := #[] }, { accessFlags := 25, nameIndex := 506, descriptorIndex := 392, attributes := #[] }, { accessFlags := 4120, nameIndex := 284, descriptorIndex := 285, attributes := #[] }])
  fields := #[{ name := "MIN_RADIX", type := .int, accessFlags := 25, slot := 0, constantValue := 0 }, { name := "MAX_RADIX", type := .int, accessFlags := 25, slot := 1, constantValue := 0 }, { name := "MIN_VALUE", type := .char, accessFlags := 25, slot := 2, constantValue := 0 }, { name := "MAX_VALUE", type := .char, accessFlags := 25, slot := 3, constantValue := 0 }, { name := "TYPE", type := (.object "java/lang/Class"), accessFlags := 25, slot := 4, constantValue := 0 }, { name := "UNASSIGNED", type := .byte, accessFlags := 25, slot := 5, constantValue := 0 }, { name := "UPPERCASE_LETTER", type := .byte, accessFlags := 25, slot := 6, constantValue := 0 }, { name := "LOWERCASE_LETTER", type := .byte, accessFlags := 25, slot := 7, constantValue := 0 }, { name := "TITLECASE_LETTER", type := .byte, accessFlags := 25, slot := 8, constantValue := 0 }, { name := "MODIFIER_LETTER", type := .byte, accessFlags := 25, slot := 9, constantValue := 0 }, { name := "OTHER_LETTER", type := .byte, accessFlags := 25, slot := 10, constantValue := 0 }, { name := "NON_SPACING_MARK", type := .byte, accessFlags := 25, slot := 11, constantValue := 0 }, { name := "ENCLOSING_MARK", type := .byte, accessFlags := 25, slot := 12, constantValue := 0 }, { name := "COMBINING_SPACING_MARK", type := .byte, accessFlags := 25, slot := 13, constantValue := 0 }, { name := "DECIMAL_DIGIT_NUMBER", type := .byte, accessFlags := 25, slot := 14, constantValue := 0 }, { name := "LETTER_NUMBER", type := .byte, accessFlags := 25, slot := 15, constantValue := 0 }, { name := "OTHER_NUMBER", type := .byte, accessFlags := 25, slot := 16, constantValue := 0 }, { name := "SPACE_SEPARATOR", type := .byte, accessFlags := 25, slot := 17, constantValue := 0 }, { name := "LINE_SEPARATOR", type := .byte, accessFlags := 25, slot := 18, constantValue := 0 }, { name := "PARAGRAPH_SEPARATOR", type := .byte, accessFlags := 25, slot := 19, constantValue := 0 }, { name := "CONTROL", type := .byte, accessFlags := 25, slot := 20, constantValue := 0 }, { name := "FORMAT", type := .byte, accessFlags := 25, slot := 21, constantValue := 0 }, { name := "PRIVATE_USE", type := .byte, accessFlags := 25, slot := 22, constantValue := 0 }, { name := "SURROGATE", type := .byte, accessFlags := 25, slot := 23, constantValue := 0 }, { name := "DASH_PUNCTUATION", type := .byte, accessFlags := 25, slot := 24, constantValue := 0 }, { name := "START_PUNCTUATION", type := .byte, accessFlags := 25, slot := 25, constantValue := 0 }, { name := "END_PUNCTUATION", type := .byte, accessFlags := 25, slot := 26, constantValue := 0 }, { name := "CONNECTOR_PUNCTUATION", type := .byte, accessFlags := 25, slot := 27, constantValue := 0 }, { name := "OTHER_PUNCTUATION", type := .byte, accessFlags := 25, slot := 28, constantValue := 0 }, { name := "MATH_SYMBOL", type := .byte, accessFlags := 25, slot := 29, constantValue := 0 }, { name := "CURRENCY_SYMBOL", type := .byte, accessFlags := 25, slot := 30, constantValue := 0 }, { name := "MODIFIER_SYMBOL", type := .byte, accessFlags := 25, slot := 31, constantValue := 0 }, { name := "OTHER_SYMBOL", type := .byte, accessFlags := 25, slot := 32, constantValue := 0 }, { name := "INITIAL_QUOTE_PUNCTUATION", type := .byte, accessFlags := 25, slot := 33, constantValue := 0 }, { name := "FINAL_QUOTE_PUNCTUATION", type := .byte, accessFlags := 25, slot := 34, constantValue := 0 }, { name := "ERROR", type := .int, accessFlags := 24, slot := 35, constantValue := 0 }, { name := "DIRECTIONALITY_UNDEFINED", type := .byte, accessFlags := 25, slot := 36, constantValue := 0 }, { name := "DIRECTIONALITY_LEFT_TO_RIGHT", type := .byte, accessFlags := 25, slot := 37, constantValue := 0 }, { name := "DIRECTIONALITY_RIGHT_TO_LEFT", type := .byte, accessFlags := 25, slot := 38, constantValue := 0 }, { name := "DIRECTIONALITY_RIGHT_TO_LEFT_ARABIC", type := .byte, accessFlags := 25, slot := 39, constantValue := 0 }, { name := "DIRECTIONALITY_EUROPEAN_NUMBER", type := .byte, accessFlags := 25, slot := 40, constantValue := 0 }, { name := "DIRECTIONALITY_EUROPEAN_NUMBER_SEPARATOR", type := .byte, accessFlags := 25, slot := 41, constantValue := 0 }, { name := "DIRECTIONALITY_EUROPEAN_NUMBER_TERMINATOR", type := .byte, accessFlags := 25, slot := 42, constantValue := 0 }, { name := "DIRECTIONALITY_ARABIC_NUMBER", type := .byte, accessFlags := 25, slot := 43, constantValue := 0 }, { name := "DIRECTIONALITY_COMMON_NUMBER_SEPARATOR", type := .byte, accessFlags := 25, slot := 44, constantValue := 0 }, { name := "DIRECTIONALITY_NONSPACING_MARK", type := .byte, accessFlags := 25, slot := 45, constantValue := 0 }, { name := "DIRECTIONALITY_BOUNDARY_NEUTRAL", type := .byte, accessFlags := 25, slot := 46, constantValue := 0 }, { name := "DIRECTIONALITY_PARAGRAPH_SEPARATOR", type := .byte, accessFlags := 25, slot := 47, constantValue := 0 }, { name := "DIRECTIONALITY_SEGMENT_SEPARATOR", type := .byte, accessFlags := 25, slot := 48, constantValue := 0 }, { name := "DIRECTIONALITY_WHITESPACE", type := .byte, accessFlags := 25, slot := 49, constantValue := 0 }, { name := "DIRECTIONALITY_OTHER_NEUTRALS", type := .byte, accessFlags := 25, slot := 50, constantValue := 0 }, { name := "DIRECTIONALITY_LEFT_TO_RIGHT_EMBEDDING", type := .byte, accessFlags := 25, slot := 51, constantValue := 0 }, { name := "DIRECTIONALITY_LEFT_TO_RIGHT_OVERRIDE", type := .byte, accessFlags := 25, slot := 52, constantValue := 0 }, { name := "DIRECTIONALITY_RIGHT_TO_LEFT_EMBEDDING", type := .byte, accessFlags := 25, slot := 53, constantValue := 0 }, { name := "DIRECTIONALITY_RIGHT_TO_LEFT_OVERRIDE", type := .byte, accessFlags := 25, slot := 54, constantValue := 0 }, { name := "DIRECTIONALITY_POP_DIRECTIONAL_FORMAT", type := .byte, accessFlags := 25, slot := 55, constantValue := 0 }, { name := "DIRECTIONALITY_LEFT_TO_RIGHT_ISOLATE", type := .byte, accessFlags := 25, slot := 56, constantValue := 0 }, { name := "DIRECTIONALITY_RIGHT_TO_LEFT_ISOLATE", type := .byte, accessFlags := 25, slot := 57, constantValue := 0 }, { name := "DIRECTIONALITY_FIRST_STRONG_ISOLATE", type := .byte, accessFlags := 25, slot := 58, constantValue := 0 }, { name := "DIRECTIONALITY_POP_DIRECTIONAL_ISOLATE", type := .byte, accessFlags := 25, slot := 59, constantValue := 0 }, { name := "MIN_HIGH_SURROGATE", type := .char, accessFlags := 25, slot := 60, constantValue := 0 }, { name := "MAX_HIGH_SURROGATE", type := .char, accessFlags := 25, slot := 61, constantValue := 0 }, { name := "MIN_LOW_SURROGATE", type := .char, accessFlags := 25, slot := 62, constantValue := 0 }, { name := "MAX_LOW_SURROGATE", type := .char, accessFlags := 25, slot := 63, constantValue := 0 }, { name := "MIN_SURROGATE", type := .char, accessFlags := 25, slot := 64, constantValue := 0 }, { name := "MAX_SURROGATE", type := .char, accessFlags := 25, slot := 65, constantValue := 0 }, { name := "MIN_SUPPLEMENTARY_CODE_POINT", type := .int, accessFlags := 25, slot := 66, constantValue := 0 }, { name := "MIN_CODE_POINT", type := .int, accessFlags := 25, slot := 67, constantValue := 0 }, { name := "MAX_CODE_POINT", type := .int, accessFlags := 25, slot := 68, constantValue := 0 }, { name := "value", type := .char, accessFlags := 18, slot := 0, constantValue := 0 }, { name := "serialVersionUID", type := .long, accessFlags := 26, slot := 69, constantValue := 0 }, { name := "SIZE", type := .int, accessFlags := 25, slot := 70, constantValue := 0 }, { name := "BYTES", type := .int, accessFlags := 25, slot := 71, constantValue := 0 }, { name := "$assertionsDisabled", type := .boolean, accessFlags := 4120, slot := 72, constantValue := 0 }]
  methods := #[k11m0, k11m1, k11m2, k11m3]
  instanceTypes := #[.char]
  staticTypes := #[.int, .int, .char, .char, (.object "java/lang/Class"), .byte, .byte, .byte, .byte, .byte, .byte, .byte, .byte, .byte, .byte, .byte, .byte, .byte, .byte, .byte, .byte, .byte, .byte, .byte, .byte, .byte, .byte, .byte, .byte, .byte, .byte, .byte, .byte, .byte, .byte, .int, .byte, .byte, .byte, .byte, .byte, .byte, .byte, .byte, .byte, .byte, .byte, .byte, .byte, .byte, .byte, .byte, .byte, .byte, .byte, .byte, .byte, .byte, .byte, .byte, .char, .char, .char, .char, .char, .char, .int, .int, .int, .long, .int, .int, .boolean]
  resolved := Array.replicate 604 none
  statics := none }

def pool12 : Array CpInfo := pool [(4, .class_ 6), (1, u "java/lang/Object"), (0, u "<init>"), (0, u "()V"), (5, .class_ 16), (1, u "java/lang/StringLatin1"), (104, u "$assertionsDisabled"), (0, u "Z"), (98, .class_ 223), (1, u "java/lang/StringLatin1$LinesSpliterator"), (166, .class_ 391), (0, u "java/lang/StringLatin1$CharsSpliterator")] 3

def k12m0 : Method := { name := "<init>", desc := "()V", sig := { parameters := [], returnType := none }, accessFlags := 0, code := none }
/-- java/lang/StringLatin1 -/
def k12 : Class := { plain "java/lang/StringLatin1" (some 0) with
  accessFlags := 48
  interfaces := #[]
  cf := some (fileOf pool12 14 #[.nestMembers #[390, 221]] #[{ accessFlags := 0, nameIndex := 7, descriptorIndex := 8, attributes := #[] }] 48 4 #[] #[{ accessFlags := 4120, nameIndex := 121, descriptorIndex := 122, attributes := #[] }])
  fields := #[{ name := "$assertionsDisabled", type := .boolean, accessFlags := 4120, slot := 0, constantValue := 0 }]
  methods := #[k12m0]
  instanceTypes := #[]
  staticTypes := #[.boolean]
  resolved := Array.replicate 395 none
  statics := none }

def pool13 : Array CpInfo := pool [(9, u "<init>"), (6, .class_ 18), (1, u "java/lang/Object"), (0, u "()V"), (1, .class_ 23), (1, u "jdk/internal/util/ArraysSupport"), (0, u "LOG2_ARRAY_LONG_INDEX_SCALE"), (0, u "I"), (2, u "U"), (0, u "Ljdk/internal/misc/Unsafe;"), (8, u "BIG_ENDIAN"), (0, u "Z"), (8, u "LOG2_BYTE_BIT_SIZE"), (4, u "LOG2_ARRAY_INT_INDEX_SCALE"), (54, u "JLA"), (0, u "Ljdk/internal/access/JavaLangAccess;"), (11, u "LOG2_ARRAY_BOOLEAN_INDEX_SCALE"), (9, u "LOG2_ARRAY_BYTE_INDEX_SCALE"), (5, u "LOG2_ARRAY_CHAR_INDEX_SCALE"), (5, u "LOG2_ARRAY_SHORT_INDEX_SCALE"), (18, u "LOG2_ARRAY_FLOAT_INDEX_SCALE"), (24, u "LOG2_ARRAY_DOUBLE_INDEX_SCALE"), (89, u "T_BOOLEAN"), (2, u "T_CHAR"), (1, u "T_FLOAT"), (1, u "T_DOUBLE"), (1, u "T_BYTE"), (1, u "T_SHORT"), (1, u "T_INT"), (1, u "T_LONG"), (1, u "SOFT_MAX_ARRAY_LENGTH")] 83

def k13m0 : Method := { name := "<init>", desc := "()V", sig := { parameters := [], returnType := none }, accessFlags := 2, code := none }
/-- jdk/internal/util/ArraysSupport -/
def k13 : Class := { plain "jdk/internal/util/ArraysSupport" (some 0) with
  accessFlags := 33
  interfaces := #[]
  cf := some (fileOf pool13 21 #[] #[{ accessFlags := 2, nameIndex := 9, descriptorIndex := 19, attributes := #[] }] 33 16 #[] #[{ accessFlags := 24, nameIndex := 28, descriptorIndex := 29, attributes := #[] }, { accessFlags := 26, nameIndex := 38, descriptorIndex := 39, attributes := #[] }, { accessFlags := 25, nameIndex := 121, descriptorIndex := 25, attributes := #[] }, { accessFlags := 25, nameIndex := 131, descriptorIndex := 25, attributes := #[] }, { accessFlags := 25, nameIndex := 137, descriptorIndex := 25, attributes := #[] }, { accessFlags := 25, nameIndex := 143, descriptorIndex := 25, attributes := #[] }, { accessFlags := 25, nameIndex := 53, descriptorIndex := 25, attributes := #[] }, { accessFlags := 25, nameIndex := 24, descriptorIndex := 25, attributes := #[] }, { accessFlags := 25, nameIndex := 162, descriptorIndex := 25, attributes := #[] }, { accessFlags := 25, nameIndex := 187, descriptorIndex := 25, attributes := #[] }, { accessFlags := 26, nameIndex := 48, descriptorIndex := 25, attributes := #[] }, { accessFlags := 25, nameIndex := 277, descriptorIndex := 25, attributes := #[] }, { accessFlags := 25, nameIndex := 280, descriptorIndex := 25, attributes := #[] }, { accessFlags := 25, nameIndex := 282, descriptorIndex := 25, attributes := #[] }, { accessFlags := 25, nameIndex := 284, descriptorIndex := 25, attributes := #[] }, { accessFlags := 25, nameIndex := 286, descriptorIndex := 25, attributes := #[] }, { accessFlags := 25, nameIndex := 288, descriptorIndex := 25, attributes := #[] }, { accessFlags := 25, nameIndex := 290, descriptorIndex := 25, attributes := #[] }, { accessFlags := 25, nameIndex := 292, descriptorIndex := 25, attributes := #[] }, { accessFlags := 26, nameIndex := 108, descriptorIndex := 109, attributes := #[] }, { accessFlags := 25, nameIndex := 294, descriptorIndex := 25, attributes := #[] }])
  fields := #[{ name := "U", type := (.object "jdk/internal/misc/Unsafe"), accessFlags := 24, slot := 0, constantValue := 0 }, { name := "BIG_ENDIAN", type := .boolean, accessFlags := 26, slot := 1, constantValue := 0 }, { name := "LOG2_ARRAY_BOOLEAN_INDEX_SCALE", type := .int, accessFlags := 25, slot := 2, constantValue := 0 }, { name := "LOG2_ARRAY_BYTE_INDEX_SCALE", type := .int, accessFlags := 25, slot := 3, constantValue := 0 }, { name := "LOG2_ARRAY_CHAR_INDEX_SCALE", type := .int, accessFlags := 25, slot := 4, constantValue := 0 }, { name := "LOG2_ARRAY_SHORT_INDEX_SCALE", type := .int, accessFlags := 25, slot := 5, constantValue := 0 }, { name := "LOG2_ARRAY_INT_INDEX_SCALE", type := .int, accessFlags := 25, slot := 6, constantValue := 0 }, { name := "LOG2_ARRAY_LONG_INDEX_SCALE", type := .int, accessFlags := 25, slot := 7, constantValue := 0 }, { name := "LOG2_ARRAY_FLOAT_INDEX_SCALE", type := .int, accessFlags := 25, slot := 8, constantValue := 0 }, { name := "LOG2_ARRAY_DOUBLE_INDEX_SCALE", type := .int, accessFlags := 25, slot := 9, constantValue := 0 }, { name := "LOG2_BYTE_BIT_SIZE", type := .int, accessFlags := 26, slot := 10, constantValue := 0 }, { name := "T_BOOLEAN", type := .int, accessFlags := 25, slot := 11, constantValue := 0 }, { name := "T_CHAR", type := .int, accessFlags := 25, slot := 12, constantValue := 0 }, { name := "T_FLOAT", type := .int, accessFlags := 25, slot := 13, constantValue := 0 }, { name := "T_DOUBLE", type := .int, accessFlags := 25, slot := 14, constantValue := 0 }, { name := "T_BYTE", type := .int, accessFlags := 25, slot := 15, constantValue := 0 }, { name := "T_SHORT", type := .int, accessFlags := 25, slot := 16, constantValue := 0 }, { name := "T_INT", type := .int, accessFlags := 25, slot := 17, constantValue := 0 }, { name := "T_LONG", type := .int, accessFlags := 25, slot := 18, constantValue := 0 }, { name := "JLA", type := (.object "jdk/internal/access/JavaLangAccess"), accessFlags := 26, slot := 19, constantValue := 0 }, { name := "SOFT_MAX_ARRAY_LENGTH", type := .int, accessFlags := 25, slot := 20, constantValue := 0 }]
  methods := #[k13m0]
  instanceTypes := #[]
  staticTypes := #[(.object "jdk/internal/misc/Unsafe"), .boolean, .int, .int, .int, .int, .int, .int, .int, .int, .int, .int, .int, .int, .int, .int, .int, .int, .int, (.object "jdk/internal/access/JavaLangAccess"), .int]
  resolved := Array.replicate 378 none
  statics := none }

def pool14 : Array CpInfo := pool [(1, u "java/lang/Cloneable"), (0, .class_ 1), (0, u "java/lang/Object"), (0, .class_ 3)] 3

/-- java/lang/Cloneable -/
def k14 : Class := { plain "java/lang/Cloneable" (some 0) with
  accessFlags := 1537
  interfaces := #[]
  cf := some (fileOf pool14 2 #[] #[] 1537 4 #[] #[])
  fields := #[]
  methods := #[]
  instanceTypes := #[]
  staticTypes := #[]
  resolved := Array.replicate 8 none
  statics := none }

/-- the primitive byte -/
def k15 : Class := { plain "byte" none with kind := .primitive 'B', accessFlags := 0x411 }
/-- [B -/
def k16 : Class := { plain "[B" (some 0) with kind := .array 15 .byte, interfaces := #[14, 2], accessFlags := 1041 }

/-- the primitive char -/
def k17 : Class := { plain "char" none with kind := .primitive 'C', accessFlags := 0x411 }
/-- [C -/
def k18 : Class := { plain "[C" (some 0) with kind := .array 17 .char, interfaces := #[14, 2], accessFlags := 1041 }

/-- the primitive int -/
def k19 : Class := { plain "int" none with kind := .primitive 'I', accessFlags := 0x411 }
/-- [I -/
def k20 : Class := { plain "[I" (some 0) with kind := .array 19 .int, interfaces := #[14, 2], accessFlags := 1041 }

def heap : Heap := #[{ cls := 7, slots := #[.long 0, .int 1, .null, .int 0, .null, .int 0, .int 0], vm := .statics 7 },
  { cls := 9, slots := #[.int 0, .int 8, .int 0, .int 1], vm := .statics 9 },
  { cls := 10, slots := #[.null, .null, .null], vm := .statics 10 }]
def classes : Array Class := #[k0, k1, k2, k3, k4, k5, k6, k7, k8, k9, k10, k11, k12, k13, k14, k15, k16, k17, k18, k19, k20]
def interned : List (Array UInt16 × Addr) := []
def slotsUsed : Nat := 14
def theMethod : MethodId := ⟨1, 1⟩
def args0 : Array Value := #[.int 5, .long 6, .long 7, .long 8]
def aboutOver (below : List Frame) : State where
  vm := { classes := classes, interned := interned.toArray }
  heap := heap
  slotsUsed := slotsUsed
  threads := #[{ frames := .invoking theMethod args0 :: below }]
def below0 : List Frame := [.native { method := ⟨0, 0⟩, args := #[] }]
def about1 : State := aboutOver below0
def p0 : Program := .bare "" "" ""
def e0 : Env := launch0.env 0 0 0
theorem w_frames : about1.frames = Frame.invoking theMethod args0 :: below0 := rfl
set_option maxRecDepth 65536 in
theorem w_args : argsFit about1.vm theMethod args0 = true := by decide +kernel
set_option maxRecDepth 65536 in
theorem w_heap : heapFits about1 = true := by decide +kernel
set_option maxRecDepth 65536 in
theorem w_runnable : about1.curStatus? = some .runnable := by decide +kernel
set_option maxRecDepth 65536 in
theorem w_alone : about1.alone = true := by decide +kernel
set_option maxRecDepth 65536 in
theorem w_named : about1.methodNamed? x = some theMethod := by decide +kernel
set_option maxRecDepth 65536 in
theorem w_hears : about1.hears theMethod below0 = true := by decide +kernel
set_option maxRecDepth 65536 in
theorem w_ripe : about1.ripe theMethod args0 below0 = true := by decide +kernel
theorem w_running : about1.status = .running := rfl
set_option maxRecDepth 65536 in
theorem w_room : about1.hasRoom e0.platform room_1 = true :=
  launch0.hasRoom_least _ room_1 (by decide +kernel) (by decide +kernel) (by decide +kernel) (by decide +kernel) (by decide +kernel) (by decide +kernel)
theorem allAtoms_all (ts : List Jvm.Cond) (a : Array Jvm.Value) (st : Jvm.State) : (allAtoms ts).before a st = ts.all (fun c => c.before a st) := by
  induction ts with
  | nil => rfl
  | cons c t ih =>
    show (Jvm.Cond.and c (allAtoms t)).before a st = _
    rw [Jvm.Cond.before_and, ih, List.all_cons]
def words1 : List Jvm.Cond := Jvm.Cond.code x code maxLocals ret :: tables_1
/-- a 'code' word, met by the world's own term for the bytes: nothing is compared byte by byte -/
theorem code_word {y : MethodName} {bytes : ByteArray} {mx : Nat} {rt : Option FieldType} {a : Array Value} {s : State} {m : MethodId} {meth : Method} {c : Code} (h1 : s.methodNamed? y = some m) (h2 : s.vm.method? m = some meth) (h3 : meth.code = some c) (h4 : c.code = bytes)
    (h5 : (c.maxLocals == mx && c.exceptionTable.isEmpty && decide (c.maxStack ≤ mostOperands) && decide (meth.sig.returnType = rt) && !meth.locks && decide (parseMethodDescriptor y.desc = some meth.sig)) = true) : (Jvm.Cond.code y bytes mx rt).before a s = true := by
  simp only [Bool.and_eq_true, beq_iff_eq, Bool.not_eq_true', decide_eq_true_eq] at h5
  obtain ⟨⟨⟨⟨⟨g1, g2⟩, g3⟩, g4⟩, g5⟩, g6⟩ := h5
  simp [Cond.before, Cond.holds, Cond.value, h1, h2, h3, h4, g1, g2, g3, g4, g5, g6]
def isCode : Jvm.Cond → Bool
  | .code _ _ _ _ => true
  | _ => false
theorem all_split {L : List Jvm.Cond} {P : Jvm.Cond → Bool} (h1 : L.all (fun c => isCode c || P c) = true) (h2 : ∀ c ∈ L.filter isCode, P c = true) : L.all P = true := by
  refine List.all_eq_true.mpr fun c hc => ?_
  have h := List.all_eq_true.mp h1 c hc
  rcases Bool.eq_false_or_eq_true (isCode c) with hi | hi
  · exact h2 c (List.mem_filter.mpr ⟨hc, hi⟩)
  · simpa [hi] using h
set_option maxRecDepth 65536 in
theorem w_c0 : (Jvm.Cond.code x code maxLocals ret).before args0 about1 = true := code_word (m := ⟨1, 1⟩) (meth := k1m1) (c := k1c1) (by decide +kernel) rfl rfl rfl (by decide +kernel)
set_option maxRecDepth 65536 in
theorem w_c1 : (Jvm.Cond.code ({ cls := "com/example/lease/lease/NewJobRequireWholeCharactersPinLaw", name := "unit", desc := "([CIJ)V" } : Jvm.MethodName) method_4_code (4 : Nat) (Option.none : Option Jvm.ClassFile.FieldType)).before args0 about1 = true := code_word (m := ⟨1, 3⟩) (meth := k1m3) (c := k1c3) (by decide +kernel) rfl rfl rfl (by decide +kernel)
set_option maxRecDepth 65536 in
theorem w_c2 : (Jvm.Cond.code ({ cls := "com/example/lease/lease/NewJobRequireWholeCharactersPinLaw", name := "plain", desc := "(I)C" } : Jvm.MethodName) method_3_code (2 : Nat) (Option.some Jvm.ClassFile.FieldType.char)).before args0 about1 = true := code_word (m := ⟨1, 2⟩) (meth := k1m2) (c := k1c2) (by decide +kernel) rfl rfl rfl (by decide +kernel)
set_option maxRecDepth 65536 in
theorem w_c3 : (Jvm.Cond.code ({ cls := "com/example/lease/lease/NewJob", name := "requireWholeCharacters", desc := "(Ljava/lang/String;Ljava/lang/String;)V" } : Jvm.MethodName) prog_14_method_20_code (4 : Nat) (Option.none : Option Jvm.ClassFile.FieldType)).before args0 about1 = true := code_word (m := ⟨8, 0⟩) (meth := k8m0) (c := k8c0) (by decide +kernel) rfl rfl rfl (by decide +kernel)
set_option maxRecDepth 65536 in
theorem w_c4 : (Jvm.Cond.code ({ cls := "java/lang/String", name := "length", desc := "()I" } : Jvm.MethodName) jdk_42_method_54_code (1 : Nat) (Option.some Jvm.ClassFile.FieldType.int)).before args0 about1 = true := code_word (m := ⟨7, 2⟩) (meth := k7m2) (c := k7c2) (by decide +kernel) rfl rfl rfl (by decide +kernel)
set_option maxRecDepth 65536 in
theorem w_c5 : (Jvm.Cond.code ({ cls := "java/lang/String", name := "coder", desc := "()B" } : Jvm.MethodName) jdk_42_method_152_code (1 : Nat) (Option.some Jvm.ClassFile.FieldType.byte)).before args0 about1 = true := code_word (m := ⟨7, 5⟩) (meth := k7m5) (c := k7c5) (by decide +kernel) rfl rfl rfl (by decide +kernel)
set_option maxRecDepth 65536 in
theorem w_c6 : (Jvm.Cond.code ({ cls := "java/lang/String", name := "<init>", desc := "([C)V" } : Jvm.MethodName) jdk_42_method_3_code (2 : Nat) (Option.none : Option Jvm.ClassFile.FieldType)).before args0 about1 = true := code_word (m := ⟨7, 1⟩) (meth := k7m1) (c := k7c1) (by decide +kernel) rfl rfl rfl (by decide +kernel)
set_option maxRecDepth 65536 in
theorem w_c7 : (Jvm.Cond.code ({ cls := "java/lang/String", name := "<init>", desc := "([CIILjava/lang/Void;)V" } : Jvm.MethodName) jdk_42_method_149_code (6 : Nat) (Option.none : Option Jvm.ClassFile.FieldType)).before args0 about1 = true := code_word (m := ⟨7, 4⟩) (meth := k7m4) (c := k7c4) (by decide +kernel) rfl rfl rfl (by decide +kernel)
set_option maxRecDepth 65536 in
theorem w_c8 : (Jvm.Cond.code ({ cls := "java/lang/Object", name := "<init>", desc := "()V" } : Jvm.MethodName) object_method_1_code (1 : Nat) (Option.none : Option Jvm.ClassFile.FieldType)).before args0 about1 = true := code_word (m := ⟨0, 0⟩) (meth := k0m0) (c := k0c0) (by decide +kernel) rfl rfl rfl (by decide +kernel)
set_option maxRecDepth 65536 in
theorem w_c9 : (Jvm.Cond.code ({ cls := "java/lang/StringUTF16", name := "compress", desc := "([CII)[B" } : Jvm.MethodName) jdk_52_method_16_code (6 : Nat) (Option.some (Jvm.ClassFile.FieldType.array Jvm.ClassFile.FieldType.byte))).before args0 about1 = true := code_word (m := ⟨9, 9⟩) (meth := k9m9) (c := k9c9) (by decide +kernel) rfl rfl rfl (by decide +kernel)
set_option maxRecDepth 65536 in
theorem w_c10 : (Jvm.Cond.code ({ cls := "java/lang/StringUTF16", name := "compress", desc := "([CI[BII)I" } : Jvm.MethodName) jdk_52_method_21_code (7 : Nat) (Option.some Jvm.ClassFile.FieldType.int)).before args0 about1 = true := code_word (m := ⟨9, 10⟩) (meth := k9m10) (c := k9c10) (by decide +kernel) rfl rfl rfl (by decide +kernel)
set_option maxRecDepth 65536 in
theorem w_c11 : (Jvm.Cond.code ({ cls := "java/lang/StringUTF16", name := "toBytes", desc := "([CII)[B" } : Jvm.MethodName) jdk_52_method_14_code (5 : Nat) (Option.some (Jvm.ClassFile.FieldType.array Jvm.ClassFile.FieldType.byte))).before args0 about1 = true := code_word (m := ⟨9, 7⟩) (meth := k9m7) (c := k9c7) (by decide +kernel) rfl rfl rfl (by decide +kernel)
set_option maxRecDepth 65536 in
theorem w_c12 : (Jvm.Cond.code ({ cls := "java/lang/StringUTF16", name := "newBytesFor", desc := "(I)[B" } : Jvm.MethodName) jdk_52_method_2_code (1 : Nat) (Option.some (Jvm.ClassFile.FieldType.array Jvm.ClassFile.FieldType.byte))).before args0 about1 = true := code_word (m := ⟨9, 1⟩) (meth := k9m1) (c := k9c1) (by decide +kernel) rfl rfl rfl (by decide +kernel)
set_option maxRecDepth 65536 in
theorem w_c13 : (Jvm.Cond.code ({ cls := "java/lang/StringUTF16", name := "newBytesLength", desc := "(I)I" } : Jvm.MethodName) jdk_52_method_3_code (1 : Nat) (Option.some Jvm.ClassFile.FieldType.int)).before args0 about1 = true := code_word (m := ⟨9, 2⟩) (meth := k9m2) (c := k9c2) (by decide +kernel) rfl rfl rfl (by decide +kernel)
set_option maxRecDepth 65536 in
theorem w_c14 : (Jvm.Cond.code ({ cls := "java/lang/StringUTF16", name := "putChar", desc := "([BII)V" } : Jvm.MethodName) jdk_52_method_4_code (3 : Nat) (Option.none : Option Jvm.ClassFile.FieldType)).before args0 about1 = true := code_word (m := ⟨9, 3⟩) (meth := k9m3) (c := k9c3) (by decide +kernel) rfl rfl rfl (by decide +kernel)
set_option maxRecDepth 65536 in
theorem w_c15 : (Jvm.Cond.code ({ cls := "java/lang/StringUTF16", name := "getChar", desc := "([BI)C" } : Jvm.MethodName) jdk_52_method_5_code (2 : Nat) (Option.some Jvm.ClassFile.FieldType.char)).before args0 about1 = true := code_word (m := ⟨9, 4⟩) (meth := k9m4) (c := k9c4) (by decide +kernel) rfl rfl rfl (by decide +kernel)
set_option maxRecDepth 65536 in
theorem w_c16 : (Jvm.Cond.code ({ cls := "java/lang/StringUTF16", name := "coderFromArrayLen", desc := "([BI)B" } : Jvm.MethodName) jdk_52_method_15_code (2 : Nat) (Option.some Jvm.ClassFile.FieldType.byte)).before args0 about1 = true := code_word (m := ⟨9, 8⟩) (meth := k9m8) (c := k9c8) (by decide +kernel) rfl rfl rfl (by decide +kernel)
set_option maxRecDepth 65536 in
theorem w_c17 : (Jvm.Cond.code ({ cls := "java/lang/String", name := "codePointAt", desc := "(I)I" } : Jvm.MethodName) jdk_42_method_57_code (3 : Nat) (Option.some Jvm.ClassFile.FieldType.int)).before args0 about1 = true := code_word (m := ⟨7, 3⟩) (meth := k7m3) (c := k7c3) (by decide +kernel) rfl rfl rfl (by decide +kernel)
set_option maxRecDepth 65536 in
theorem w_c18 : (Jvm.Cond.code ({ cls := "java/lang/String", name := "isLatin1", desc := "()Z" } : Jvm.MethodName) jdk_42_method_154_code (1 : Nat) (Option.some Jvm.ClassFile.FieldType.boolean)).before args0 about1 = true := code_word (m := ⟨7, 6⟩) (meth := k7m6) (c := k7c6) (by decide +kernel) rfl rfl rfl (by decide +kernel)
set_option maxRecDepth 65536 in
theorem w_c19 : (Jvm.Cond.code ({ cls := "java/lang/String", name := "checkIndex", desc := "(II)V" } : Jvm.MethodName) jdk_42_method_155_code (2 : Nat) (Option.none : Option Jvm.ClassFile.FieldType)).before args0 about1 = true := code_word (m := ⟨7, 7⟩) (meth := k7m7) (c := k7c7) (by decide +kernel) rfl rfl rfl (by decide +kernel)
set_option maxRecDepth 65536 in
theorem w_c20 : (Jvm.Cond.code ({ cls := "jdk/internal/util/Preconditions", name := "checkIndex", desc := "(IILjava/util/function/BiFunction;)I" } : Jvm.MethodName) jdk_41_method_11_code (3 : Nat) (Option.some Jvm.ClassFile.FieldType.int)).before args0 about1 = true := code_word (m := ⟨10, 1⟩) (meth := k10m1) (c := k10c1) (by decide +kernel) rfl rfl rfl (by decide +kernel)
set_option maxRecDepth 65536 in
theorem w_c21 : (Jvm.Cond.code ({ cls := "java/lang/StringUTF16", name := "codePointAt", desc := "([BII)I" } : Jvm.MethodName) jdk_52_method_8_code (3 : Nat) (Option.some Jvm.ClassFile.FieldType.int)).before args0 about1 = true := code_word (m := ⟨9, 6⟩) (meth := k9m6) (c := k9c6) (by decide +kernel) rfl rfl rfl (by decide +kernel)
set_option maxRecDepth 65536 in
theorem w_c22 : (Jvm.Cond.code ({ cls := "java/lang/StringUTF16", name := "codePointAt", desc := "([BIIZ)I" } : Jvm.MethodName) jdk_52_method_7_code (6 : Nat) (Option.some Jvm.ClassFile.FieldType.int)).before args0 about1 = true := code_word (m := ⟨9, 5⟩) (meth := k9m5) (c := k9c5) (by decide +kernel) rfl rfl rfl (by decide +kernel)
set_option maxRecDepth 65536 in
theorem w_c23 : (Jvm.Cond.code ({ cls := "java/lang/Character", name := "isHighSurrogate", desc := "(C)Z" } : Jvm.MethodName) jdk_89_method_14_code (1 : Nat) (Option.some Jvm.ClassFile.FieldType.boolean)).before args0 about1 = true := code_word (m := ⟨11, 0⟩) (meth := k11m0) (c := k11c0) (by decide +kernel) rfl rfl rfl (by decide +kernel)
set_option maxRecDepth 65536 in
theorem w_c24 : (Jvm.Cond.code ({ cls := "java/lang/Character", name := "charCount", desc := "(I)I" } : Jvm.MethodName) jdk_89_method_18_code (1 : Nat) (Option.some Jvm.ClassFile.FieldType.int)).before args0 about1 = true := code_word (m := ⟨11, 2⟩) (meth := k11m2) (c := k11c2) (by decide +kernel) rfl rfl rfl (by decide +kernel)
set_option maxRecDepth 65536 in
theorem w_c25 : (Jvm.Cond.code ({ cls := "java/lang/Character", name := "isLowSurrogate", desc := "(C)Z" } : Jvm.MethodName) jdk_89_method_15_code (1 : Nat) (Option.some Jvm.ClassFile.FieldType.boolean)).before args0 about1 = true := code_word (m := ⟨11, 1⟩) (meth := k11m1) (c := k11c1) (by decide +kernel) rfl rfl rfl (by decide +kernel)
set_option maxRecDepth 65536 in
theorem w_c26 : (Jvm.Cond.code ({ cls := "java/lang/Character", name := "toCodePoint", desc := "(CC)I" } : Jvm.MethodName) jdk_89_method_19_code (2 : Nat) (Option.some Jvm.ClassFile.FieldType.int)).before args0 about1 = true := code_word (m := ⟨11, 3⟩) (meth := k11m3) (c := k11c3) (by decide +kernel) rfl rfl rfl (by decide +kernel)
def codes1 : List Jvm.Cond := [Jvm.Cond.code x code maxLocals ret, Jvm.Cond.code ({ cls := "com/example/lease/lease/NewJobRequireWholeCharactersPinLaw", name := "unit", desc := "([CIJ)V" } : Jvm.MethodName) method_4_code (4 : Nat) (Option.none : Option Jvm.ClassFile.FieldType), Jvm.Cond.code ({ cls := "com/example/lease/lease/NewJobRequireWholeCharactersPinLaw", name := "plain", desc := "(I)C" } : Jvm.MethodName) method_3_code (2 : Nat) (Option.some Jvm.ClassFile.FieldType.char), Jvm.Cond.code ({ cls := "com/example/lease/lease/NewJob", name := "requireWholeCharacters", desc := "(Ljava/lang/String;Ljava/lang/String;)V" } : Jvm.MethodName) prog_14_method_20_code (4 : Nat) (Option.none : Option Jvm.ClassFile.FieldType), Jvm.Cond.code ({ cls := "java/lang/String", name := "length", desc := "()I" } : Jvm.MethodName) jdk_42_method_54_code (1 : Nat) (Option.some Jvm.ClassFile.FieldType.int), Jvm.Cond.code ({ cls := "java/lang/String", name := "coder", desc := "()B" } : Jvm.MethodName) jdk_42_method_152_code (1 : Nat) (Option.some Jvm.ClassFile.FieldType.byte), Jvm.Cond.code ({ cls := "java/lang/String", name := "<init>", desc := "([C)V" } : Jvm.MethodName) jdk_42_method_3_code (2 : Nat) (Option.none : Option Jvm.ClassFile.FieldType), Jvm.Cond.code ({ cls := "java/lang/String", name := "<init>", desc := "([CIILjava/lang/Void;)V" } : Jvm.MethodName) jdk_42_method_149_code (6 : Nat) (Option.none : Option Jvm.ClassFile.FieldType), Jvm.Cond.code ({ cls := "java/lang/Object", name := "<init>", desc := "()V" } : Jvm.MethodName) object_method_1_code (1 : Nat) (Option.none : Option Jvm.ClassFile.FieldType), Jvm.Cond.code ({ cls := "java/lang/StringUTF16", name := "compress", desc := "([CII)[B" } : Jvm.MethodName) jdk_52_method_16_code (6 : Nat) (Option.some (Jvm.ClassFile.FieldType.array Jvm.ClassFile.FieldType.byte)), Jvm.Cond.code ({ cls := "java/lang/StringUTF16", name := "compress", desc := "([CI[BII)I" } : Jvm.MethodName) jdk_52_method_21_code (7 : Nat) (Option.some Jvm.ClassFile.FieldType.int), Jvm.Cond.code ({ cls := "java/lang/StringUTF16", name := "toBytes", desc := "([CII)[B" } : Jvm.MethodName) jdk_52_method_14_code (5 : Nat) (Option.some (Jvm.ClassFile.FieldType.array Jvm.ClassFile.FieldType.byte)), Jvm.Cond.code ({ cls := "java/lang/StringUTF16", name := "newBytesFor", desc := "(I)[B" } : Jvm.MethodName) jdk_52_method_2_code (1 : Nat) (Option.some (Jvm.ClassFile.FieldType.array Jvm.ClassFile.FieldType.byte)), Jvm.Cond.code ({ cls := "java/lang/StringUTF16", name := "newBytesLength", desc := "(I)I" } : Jvm.MethodName) jdk_52_method_3_code (1 : Nat) (Option.some Jvm.ClassFile.FieldType.int), Jvm.Cond.code ({ cls := "java/lang/StringUTF16", name := "putChar", desc := "([BII)V" } : Jvm.MethodName) jdk_52_method_4_code (3 : Nat) (Option.none : Option Jvm.ClassFile.FieldType), Jvm.Cond.code ({ cls := "java/lang/StringUTF16", name := "getChar", desc := "([BI)C" } : Jvm.MethodName) jdk_52_method_5_code (2 : Nat) (Option.some Jvm.ClassFile.FieldType.char), Jvm.Cond.code ({ cls := "java/lang/StringUTF16", name := "coderFromArrayLen", desc := "([BI)B" } : Jvm.MethodName) jdk_52_method_15_code (2 : Nat) (Option.some Jvm.ClassFile.FieldType.byte), Jvm.Cond.code ({ cls := "java/lang/String", name := "codePointAt", desc := "(I)I" } : Jvm.MethodName) jdk_42_method_57_code (3 : Nat) (Option.some Jvm.ClassFile.FieldType.int), Jvm.Cond.code ({ cls := "java/lang/String", name := "isLatin1", desc := "()Z" } : Jvm.MethodName) jdk_42_method_154_code (1 : Nat) (Option.some Jvm.ClassFile.FieldType.boolean), Jvm.Cond.code ({ cls := "java/lang/String", name := "checkIndex", desc := "(II)V" } : Jvm.MethodName) jdk_42_method_155_code (2 : Nat) (Option.none : Option Jvm.ClassFile.FieldType), Jvm.Cond.code ({ cls := "jdk/internal/util/Preconditions", name := "checkIndex", desc := "(IILjava/util/function/BiFunction;)I" } : Jvm.MethodName) jdk_41_method_11_code (3 : Nat) (Option.some Jvm.ClassFile.FieldType.int), Jvm.Cond.code ({ cls := "java/lang/StringUTF16", name := "codePointAt", desc := "([BII)I" } : Jvm.MethodName) jdk_52_method_8_code (3 : Nat) (Option.some Jvm.ClassFile.FieldType.int), Jvm.Cond.code ({ cls := "java/lang/StringUTF16", name := "codePointAt", desc := "([BIIZ)I" } : Jvm.MethodName) jdk_52_method_7_code (6 : Nat) (Option.some Jvm.ClassFile.FieldType.int), Jvm.Cond.code ({ cls := "java/lang/Character", name := "isHighSurrogate", desc := "(C)Z" } : Jvm.MethodName) jdk_89_method_14_code (1 : Nat) (Option.some Jvm.ClassFile.FieldType.boolean), Jvm.Cond.code ({ cls := "java/lang/Character", name := "charCount", desc := "(I)I" } : Jvm.MethodName) jdk_89_method_18_code (1 : Nat) (Option.some Jvm.ClassFile.FieldType.int), Jvm.Cond.code ({ cls := "java/lang/Character", name := "isLowSurrogate", desc := "(C)Z" } : Jvm.MethodName) jdk_89_method_15_code (1 : Nat) (Option.some Jvm.ClassFile.FieldType.boolean), Jvm.Cond.code ({ cls := "java/lang/Character", name := "toCodePoint", desc := "(CC)I" } : Jvm.MethodName) jdk_89_method_19_code (2 : Nat) (Option.some Jvm.ClassFile.FieldType.int)]
set_option maxRecDepth 65536 in
theorem codes_eq : words1.filter isCode = codes1 := rfl
theorem w_codes : ∀ c ∈ words1.filter isCode, c.before args0 about1 = true := by
  rw [codes_eq]
  intro c hc
  simp only [codes1, List.mem_cons, List.not_mem_nil, or_false] at hc
  rcases hc with rfl | rfl | rfl | rfl | rfl | rfl | rfl | rfl | rfl | rfl | rfl | rfl | rfl | rfl | rfl | rfl | rfl | rfl | rfl | rfl | rfl | rfl | rfl | rfl | rfl | rfl | rfl
  · exact w_c0
  · exact w_c1
  · exact w_c2
  · exact w_c3
  · exact w_c4
  · exact w_c5
  · exact w_c6
  · exact w_c7
  · exact w_c8
  · exact w_c9
  · exact w_c10
  · exact w_c11
  · exact w_c12
  · exact w_c13
  · exact w_c14
  · exact w_c15
  · exact w_c16
  · exact w_c17
  · exact w_c18
  · exact w_c19
  · exact w_c20
  · exact w_c21
  · exact w_c22
  · exact w_c23
  · exact w_c24
  · exact w_c25
  · exact w_c26
set_option maxRecDepth 65536 in
theorem w_t1 : (words1.take 24).all (fun c => isCode c || c.before args0 about1) = true := by decide +kernel
set_option maxRecDepth 65536 in
theorem w_t2 : ((words1.drop 24).take 24).all (fun c => isCode c || c.before args0 about1) = true := by decide +kernel
set_option maxRecDepth 65536 in
theorem w_t3 : (((words1.drop 24).drop 24).take 24).all (fun c => isCode c || c.before args0 about1) = true := by decide +kernel
set_option maxRecDepth 65536 in
theorem w_t4 : ((((words1.drop 24).drop 24).drop 24).take 24).all (fun c => isCode c || c.before args0 about1) = true := by decide +kernel
set_option maxRecDepth 65536 in
theorem w_t5 : (((((words1.drop 24).drop 24).drop 24).drop 24).take 24).all (fun c => isCode c || c.before args0 about1) = true := by decide +kernel
set_option maxRecDepth 65536 in
theorem w_t6 : (((((words1.drop 24).drop 24).drop 24).drop 24).drop 24).all (fun c => isCode c || c.before args0 about1) = true := by decide +kernel
theorem w_tables : (allAtoms (Jvm.Cond.code x code maxLocals ret :: tables_1)).before args0 about1 = true := by
  rw [allAtoms_all]
  show words1.all (fun c => c.before args0 about1) = true
  refine all_split ?_ w_codes
  rw [← List.take_append_drop 24 words1, List.all_append, w_t1, ← List.take_append_drop 24 (words1.drop 24), List.all_append, w_t2, ← List.take_append_drop 24 ((words1.drop 24).drop 24), List.all_append, w_t3, ← List.take_append_drop 24 (((words1.drop 24).drop 24).drop 24), List.all_append, w_t4, ← List.take_append_drop 24 ((((words1.drop 24).drop 24).drop 24).drop 24), List.all_append, w_t5, w_t6]
  rfl
set_option maxRecDepth 65536 in
theorem w_rest : rest_1_c.before args0 about1 = true := by decide +kernel
set_option maxRecDepth 65536 in
theorem w_case : (Jvm.Cond.and given_1 narrow_1).before args0 about1 = true := by decide +kernel
set_option maxRecDepth 65536 in
theorem w_consts : constsHeld consts_1 about1 := Jvm.Lit.constsHeldB_iff.mp (by decide +kernel)
theorem w_applies : (headSpec (Jvm.Cond.code x code maxLocals ret :: tables_1) room_1).applies x e0.platform about1 = true :=
  (Spec.applies_iff w_frames).mpr ⟨w_running, w_runnable, w_alone, w_named, w_hears, w_ripe, w_room, w_tables⟩
theorem atStart : AtStart classFile x code maxLocals ret World_1 tables_1 room_1 Calls_1 rest_1 Pre_1 launch0 p0 e0 about1 theMethod args0 below0 :=
  ⟨lists_1, trivial, launch0.admits_env _ _ _, launch0.least_env, fairChoices_fair.cas, fairChoices_fair.clock, w_frames, w_args, w_heap, w_applies, ⟨w_consts, trivial⟩, w_rest, w_case⟩
end start1
theorem witness_1 : WitnessClaimed_1 := ⟨start1.p0, start1.e0, start1.about1, start1.theMethod, start1.args0, start1.below0, start1.atStart⟩
end Jvm.Pilot.@@N@@
