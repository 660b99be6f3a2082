import JvmDerived
import JvmDerived.Pilot.@@N@@Statement
import JvmDerived.Pilot.@@N@@Code
set_option linter.unusedVariables false
set_option linter.unusedSimpArgs false
/-! A small kit of this prover's own: walks in weakest-precondition style, over the library's Stand, its held constants (CHv, CHr, Safe) and its wide ends. General text: no program in it. -/
namespace Jvm.Own
open Sem ClassFile Op Lib Bundle Jvm.Stand Jvm.Free Jvm.LawKit Jvm.RoadKit
/-- what stays the same through the whole law: the launch, the start state, the law's arguments, the start heap's length, whether Strings may come to be interned, the constants held -/
abbrev Gl : Type := Launch × State × Array Value × Nat × Bool × List (String × Nat)
abbrev Gl.l (E : Gl) : Launch := E.1
abbrev Gl.Z (E : Gl) : State := E.2.1
abbrev Gl.a (E : Gl) : Array Value := E.2.2.1
abbrev Gl.n (E : Gl) : Nat := E.2.2.2.1
abbrev Gl.w (E : Gl) : Bool := E.2.2.2.2.1
abbrev Gl.K (E : Gl) : List (String × Nat) := E.2.2.2.2.2
/-- one invocation: program, environment, room, state at the invocation, method, arguments, frames below, record, code, what it promises -/
abbrev Cx : Type := Program × Env × Room × State × MethodId × Array Value × List Frame × Method × Code × (Option Value → Heap → List Addr → Prop)
abbrev Cx.p (x : Cx) : Program := x.1
abbrev Cx.e (x : Cx) : Env := x.2.1
abbrev Cx.R (x : Cx) : Room := x.2.2.1
abbrev Cx.s (x : Cx) : State := x.2.2.2.1
abbrev Cx.m (x : Cx) : MethodId := x.2.2.2.2.1
abbrev Cx.args (x : Cx) : Array Value := x.2.2.2.2.2.1
abbrev Cx.below (x : Cx) : List Frame := x.2.2.2.2.2.2.1
abbrev Cx.meth (x : Cx) : Method := x.2.2.2.2.2.2.2.1
abbrev Cx.c (x : Cx) : Code := x.2.2.2.2.2.2.2.2.1
abbrev Cx.Q (x : Cx) : Option Value → Heap → List Addr → Prop := x.2.2.2.2.2.2.2.2.2
/-- the places that this law's own code may write: made since the start, and no part of a held constant -/
def GOk (E : Gl) : Prop := EW E.Z E.a E.K ∧ (E.w = false → E.K = [])
def FOk (E : Gl) (vm : Vm) (h : Heap) (F : List Addr) : Prop := ∀ x ∈ F, E.n ≤ x ∧ x < h.size ∧ Safe E.Z E.K vm h x
def EndF (w : Bool) (s : State) (o : Outcome) (t : State) (L : List Loc) (k n : Nat) : Prop :=
  match w with
  | true => ReturnedEndW s o t L k n
  | false => FrameEnd s o t L k n
def FinC (E : Gl) (s : State) (R : Room) (Q : Option Value → Heap → List Addr → Prop) (o : Outcome) (t : State) : Prop :=
  ∃ (v : Option Value) (L : List Loc) (F' : List Addr), o = .returned v ∧ Q v t.heap F' ∧ Fr E.n L ∧ Old E.Z E.n t.heap ∧ FOk E t.vm t.heap F' ∧ CHr E.Z E.K s.vm s.heap t.vm t.heap ∧ EndF E.w s o t L R.cells R.slots
/-- A CONTRACT: called with these arguments at this heap it returns; Q says what, the heap then, and the places that may be written behind -/
def MetT (ws : List Cond) (E : Gl) (y : MethodName) (b : ByteArray) (ml : Nat) (ret : Option FieldType) (R : Room) (as' : Array Value) (h : Heap) (F : List Addr) (Q : Option Value → Heap → List Addr → Prop) : Prop :=
  MetFree E.l y (head1 (Cond.code y b ml ret :: ws) R)
    (fun a U => a = as' ∧ E.Z.Warmed39 U.vm ∧ U.heap = h ∧ Old E.Z E.n h ∧ CHv E.Z E.K U.vm h ∧ FOk E U.vm h F ∧ GOk E)
    (fun _ _ _ _ _ => True) (fun _ U o U' => FinC E U R Q o U')
abbrev Met (E : Gl) (y : MethodName) (b : ByteArray) (ml : Nat) (ret : Option FieldType) (R : Room) (as' : Array Value) (h : Heap) (F : List Addr) (Q : Option Value → Heap → List Addr → Prop) : Prop := MetT [] E y b ml ret R as' h F Q
def Is (x : Cx) (own : String) (b : ByteArray) (ml : Nat) (R : Room) (ret : Option FieldType) (nm : String) : Prop :=
  x.c.code = b ∧ x.c.maxLocals = ml ∧ x.R = R ∧ x.meth.sig.returnType = ret ∧ x.meth.name = nm ∧ x.meth.locks = false ∧ x.p.tables.exec = Jvm.exec ∧ x.s.vm.findClass own = some x.m.cls
/-- where a walk stands -/
def Wk (E : Gl) (x : Cx) (T : State) (h : Heap) (F : List Addr) (cs ss : Nat) : Prop :=
  ∃ (vm : Vm) (k : Nat) (L : List Loc), Stand x.p E.l x.e x.R (x.s.setVm vm) x.m x.args x.below x.meth x.c T L cs ss ∧ T.heap = h ∧ x.s.Since vm k ∧ k ≤ h.size ∧ (E.w = false → vm = x.s.vm) ∧
    E.Z.Warmed39 vm ∧ Fr E.n L ∧ Old E.Z E.n h ∧ CHr E.Z E.K x.s.vm x.s.heap vm h ∧ FOk E vm h F ∧ GOk E
/-- what is left to show at a frame of the walk -/
def G (E : Gl) (x : Cx) (T : State) (g : JFrame) : Prop :=
  ∃ (t : State) (o : Outcome), Steps x.p.tables x.e x.below (T.setTop g) t ∧ t.status = .running ∧ Ended t x.below o ∧ FinC E x.s x.R x.Q o t
abbrev fr (x : Cx) (pc : Nat) (Ls : Array Slot) (st : List Value) : JFrame := mkF x.m pc Ls st
/-- an instruction, its length and the next pc -/
def D (b : ByteArray) (pc : Nat) (i : Instr) (len nx : Nat) : Prop := decode b pc = .ok (i, len) ∧ pc + len = nx
/-- a jump: besides, its offset and where it leads -/
def J (b : ByteArray) (pc : Nat) (i : Instr) (len nx : Nat) (o : Int) (tg : Nat) : Prop := decode b pc = .ok (i, len) ∧ pc + len = nx ∧ 0 ≤ (pc : Int) + o ∧ ((pc : Int) + o).toNat = tg
theorem G.of {E : Gl} {x : Cx} {T T' : State} {g g' : JFrame} (hs : ∀ target, Steps x.p.tables x.e x.below (T'.setTop g') target → Steps x.p.tables x.e x.below (T.setTop g) target) (hr : G E x T' g') : G E x T g := by
  obtain ⟨t, o, h1, h2, h3, h4⟩ := hr
  exact ⟨t, o, hs _ h1, h2, h3, h4⟩
theorem G.ofS {E : Gl} {x : Cx} {T T' : State} {g g' : JFrame} (hs : Steps x.p.tables x.e x.below (T.setTop g) (T'.setTop g')) (hr : G E x T' g') : G E x T g := G.of (fun _ h => hs.trans h) hr
theorem G.cast {E : Gl} {x : Cx} {T : State} {g g' : JFrame} (q : g = g') (hr : G E x T g') : G E x T g := q ▸ hr
theorem setVm_same (s : State) : s.setVm s.vm = s := rfl
theorem met_of {ws : List Cond} {E : Gl} {y : MethodName} {b : ByteArray} {ml : Nat} {ret : Option FieldType} {R : Room} {as' : Array Value} {h : Heap} {F : List Addr} {Q : Option Value → Heap → List Addr → Prop} (pn : plainFor y = true)
    (body : ∀ (x : Cx) (T : State), x.Q = Q → Is x y.cls b ml R ret y.name → Wk E x T h F 0 0 → G E x T (entryFrame x.m as' ml)) : MetT ws E y b ml ret R as' h F Q := by
  refine MetFree.of_bodySF pn hisR ?_
  intro p e s m args below meth c s₁ Bd hml0 hP hK
  obtain ⟨rfl, hZ, hh, hO, hC, hF, hE⟩ := hP
  have X0 : Stand p E.l e R s m args below meth c s₁ [] 0 0 := Stand.of_body Bd
  have e0 : s₁.heap = h := by rw [← hh, Bd.state]; rfl
  have hlk : meth.locks = false := BodyLoose.notSynchronized Bd
  have hG := body (p, e, R, s, m, args, below, meth, c, Q) s₁ rfl ⟨Bd.bytes, hml0, rfl, Bd.returns, (name_of_methodNamed Bd.named Bd.method).1, hlk, Bd.exec, findClass_of_methodNamed Bd.named⟩
    ⟨s.vm, 0, [], X0, e0, (State.WarmedH.refl s).since 0, Nat.zero_le _, fun _ => rfl, hZ, Fr.nil _, hO, by subst hh; exact CHr.refl hC, hF, hE⟩
  exact hG
section Steps
variable {E : Gl} {x : Cx} {T : State} {h : Heap} {F : List Addr} {cs ss : Nat} {own : String} {b : ByteArray} {ml : Nat} {R : Room} {ret : Option FieldType} {nm : String} {pc nx tg : Nat} {o : Int} {Ls Ls' : Array Slot} {st : List Value}
theorem Wk.here (W : Wk E x T h F cs ss) : At T x.m x.c x.below := by obtain ⟨_, _, _, X, -⟩ := W; exact X.here
theorem Wk.old (W : Wk E x T h F cs ss) : Ext E.Z.heap h := by obtain ⟨_, _, _, _, _, _, _, _, _, _, hO, -⟩ := W; exact hO.2
theorem Wk.size (W : Wk E x T h F cs ss) : E.n ≤ h.size := by obtain ⟨_, _, _, _, _, _, _, _, _, _, hO, -⟩ := W; rw [← hO.1]; exact hO.2.1
theorem Wk.gok (W : Wk E x T h F cs ss) : GOk E := by obtain ⟨_, _, _, _, _, _, _, _, _, _, _, _, _, hE⟩ := W; exact hE
theorem Wk.mono (W : Wk E x T h F cs ss) {F' : List Addr} {cs' ss' : Nat} (hF : ∀ y ∈ F', y ∈ F) (hc : cs ≤ cs') (hs : ss ≤ ss') : Wk E x T h F' cs' ss' := by
  obtain ⟨vm, k, L, X, h1, h2, h3, h4, h5, h6, h7, h8, h9, h10⟩ := W
  exact ⟨vm, k, L, X.mono hc hs, h1, h2, h3, h4, h5, h6, h7, h8, fun y hy => h9 y (hF y hy), h10⟩
theorem Wk.fOk (W : Wk E x T h F cs ss) {a : Addr} (ha : a ∈ F) : E.n ≤ a ∧ a < h.size := by
  obtain ⟨_, _, _, _, _, _, _, _, _, _, _, _, hF, _⟩ := W; exact ⟨(hF a ha).1, (hF a ha).2.1⟩
theorem pstep (W : Wk E x T h F cs ss) {g g' : JFrame} (hs : ∀ target, At T x.m x.c x.below → Steps x.p.tables x.e x.below (T.setTop g') target → Steps x.p.tables x.e x.below (T.setTop g) target) (hr : G E x T g') : G E x T g := G.of (fun t r => hs t W.here r) hr
theorem w_iloadN (W : Wk E x T h F cs ss) (B : Is x own b ml R ret nm) {k : Fin 4} {v : Int32} (d : D b pc (.iload_n k) 1 nx) (hl : Ls[k.val]? = some (.val (.int v))) (hr : G E x T (fr x nx Ls (.int v :: st))) : G E x T (fr x pc Ls st) := by
  obtain ⟨d1, rfl⟩ := d; exact pstep W (fun _ A r => XS.iloadN A B.2.2.2.2.2.2.1 rfl (by rw [B.1]; exact d1) hl r) hr
theorem w_iload (W : Wk E x T h F cs ss) (B : Is x own b ml R ret nm) {k : Nat} {v : Int32} (d : D b pc (.iload k) 2 nx) (hl : Ls[k]? = some (.val (.int v))) (hr : G E x T (fr x nx Ls (.int v :: st))) : G E x T (fr x pc Ls st) := by
  obtain ⟨d1, rfl⟩ := d; exact pstep W (fun _ A r => XS.iload A B.2.2.2.2.2.2.1 rfl (by rw [B.1]; exact d1) hl r) hr
theorem w_lloadN (W : Wk E x T h F cs ss) (B : Is x own b ml R ret nm) {k : Fin 4} {v : Int64} (d : D b pc (.lload_n k) 1 nx) (hl : Ls[k.val]? = some (.val (.long v))) (hr : G E x T (fr x nx Ls (.long v :: st))) : G E x T (fr x pc Ls st) := by
  obtain ⟨d1, rfl⟩ := d; exact pstep W (fun _ A r => XT.lloadN A B.2.2.2.2.2.2.1 rfl (by rw [B.1]; exact d1) hl r) hr
theorem w_lload (W : Wk E x T h F cs ss) (B : Is x own b ml R ret nm) {k : Nat} {v : Int64} (d : D b pc (.lload k) 2 nx) (hl : Ls[k]? = some (.val (.long v))) (hr : G E x T (fr x nx Ls (.long v :: st))) : G E x T (fr x pc Ls st) := by
  obtain ⟨d1, rfl⟩ := d; exact pstep W (fun _ A r => XT.lload A B.2.2.2.2.2.2.1 rfl (by rw [B.1]; exact d1) hl r) hr
theorem w_aloadN (W : Wk E x T h F cs ss) (B : Is x own b ml R ret nm) {k : Fin 4} {v : Value} (d : D b pc (.aload_n k) 1 nx) (hl : Ls[k.val]? = some (.val v)) (hv : v.isRef = true) (hr : G E x T (fr x nx Ls (v :: st))) : G E x T (fr x pc Ls st) := by
  obtain ⟨d1, rfl⟩ := d; exact pstep W (fun _ A r => XS.aloadN A B.2.2.2.2.2.2.1 rfl (by rw [B.1]; exact d1) hl hv r) hr
theorem w_aload (W : Wk E x T h F cs ss) (B : Is x own b ml R ret nm) {k : Nat} {v : Value} (d : D b pc (.aload k) 2 nx) (hl : Ls[k]? = some (.val v)) (hv : v.isRef = true) (hr : G E x T (fr x nx Ls (v :: st))) : G E x T (fr x pc Ls st) := by
  obtain ⟨d1, rfl⟩ := d; exact pstep W (fun _ A r => XS.aload A B.2.2.2.2.2.2.1 rfl (by rw [B.1]; exact d1) hl hv r) hr
theorem w_istoreN (W : Wk E x T h F cs ss) (B : Is x own b ml R ret nm) {k : Fin 4} {v : Int32} (d : D b pc (.istore_n k) 1 nx) (hl : storeLocals Ls k.val (.int v) = some Ls') (hr : G E x T (fr x nx Ls' st)) : G E x T (fr x pc Ls (.int v :: st)) := by
  obtain ⟨d1, rfl⟩ := d; exact pstep W (fun _ A r => XS.istoreN A B.2.2.2.2.2.2.1 rfl (by rw [B.1]; exact d1) rfl hl r) hr
theorem w_istore (W : Wk E x T h F cs ss) (B : Is x own b ml R ret nm) {k : Nat} {v : Int32} (d : D b pc (.istore k) 2 nx) (hl : storeLocals Ls k (.int v) = some Ls') (hr : G E x T (fr x nx Ls' st)) : G E x T (fr x pc Ls (.int v :: st)) := by
  obtain ⟨d1, rfl⟩ := d; exact pstep W (fun _ A r => XS.istore A B.2.2.2.2.2.2.1 rfl (by rw [B.1]; exact d1) rfl hl r) hr
theorem w_lstoreN (W : Wk E x T h F cs ss) (B : Is x own b ml R ret nm) {k : Fin 4} {v : Int64} (d : D b pc (.lstore_n k) 1 nx) (hl : storeLocals Ls k.val (.long v) = some Ls') (hr : G E x T (fr x nx Ls' st)) : G E x T (fr x pc Ls (.long v :: st)) := by
  obtain ⟨d1, rfl⟩ := d; exact pstep W (fun _ A r => XT.lstoreN A B.2.2.2.2.2.2.1 rfl (by rw [B.1]; exact d1) rfl hl r) hr
theorem w_lstore (W : Wk E x T h F cs ss) (B : Is x own b ml R ret nm) {k : Nat} {v : Int64} (d : D b pc (.lstore k) 2 nx) (hl : storeLocals Ls k (.long v) = some Ls') (hr : G E x T (fr x nx Ls' st)) : G E x T (fr x pc Ls (.long v :: st)) := by
  obtain ⟨d1, rfl⟩ := d; exact pstep W (fun _ A r => XT.lstore A B.2.2.2.2.2.2.1 rfl (by rw [B.1]; exact d1) rfl hl r) hr
theorem w_astoreN (W : Wk E x T h F cs ss) (B : Is x own b ml R ret nm) {k : Fin 4} {v : Value} (d : D b pc (.astore_n k) 1 nx) (hv : v.isRef = true) (hl : storeLocals Ls k.val v = some Ls') (hr : G E x T (fr x nx Ls' st)) : G E x T (fr x pc Ls (v :: st)) := by
  obtain ⟨d1, rfl⟩ := d; exact pstep W (fun _ A r => XS.astoreN A B.2.2.2.2.2.2.1 rfl (by rw [B.1]; exact d1) rfl hv hl r) hr
theorem w_astore (W : Wk E x T h F cs ss) (B : Is x own b ml R ret nm) {k : Nat} {v : Value} (d : D b pc (.astore k) 2 nx) (hv : v.isRef = true) (hl : storeLocals Ls k v = some Ls') (hr : G E x T (fr x nx Ls' st)) : G E x T (fr x pc Ls (v :: st)) := by
  obtain ⟨d1, rfl⟩ := d; exact pstep W (fun _ A r => XS.astore A B.2.2.2.2.2.2.1 rfl (by rw [B.1]; exact d1) rfl hv hl r) hr
theorem w_iconst (W : Wk E x T h F cs ss) (B : Is x own b ml R ret nm) {i : Int} {v : Int32} (d : D b pc (.iconst i) 1 nx) (hv : Int32.ofInt i = v) (hr : G E x T (fr x nx Ls (.int v :: st))) : G E x T (fr x pc Ls st) := by
  obtain ⟨d1, rfl⟩ := d; subst hv; exact pstep W (fun _ A r => XS.iconst A B.2.2.2.2.2.2.1 rfl (by rw [B.1]; exact d1) r) hr
theorem w_bipush (W : Wk E x T h F cs ss) (B : Is x own b ml R ret nm) {i : Int} {v : Int32} (d : D b pc (.bipush i) 2 nx) (hv : (Int8.ofInt i).toInt32 = v) (hr : G E x T (fr x nx Ls (.int v :: st))) : G E x T (fr x pc Ls st) := by
  obtain ⟨d1, rfl⟩ := d; subst hv; exact pstep W (fun _ A r => XS.bipush A B.2.2.2.2.2.2.1 rfl (by rw [B.1]; exact d1) r) hr
theorem w_sipush (W : Wk E x T h F cs ss) (B : Is x own b ml R ret nm) {i : Int} {v : Int32} (d : D b pc (.sipush i) 3 nx) (hv : (Int16.ofInt i).toInt32 = v) (hr : G E x T (fr x nx Ls (.int v :: st))) : G E x T (fr x pc Ls st) := by
  obtain ⟨d1, rfl⟩ := d; subst hv; exact pstep W (fun _ A r => XS.sipush A B.2.2.2.2.2.2.1 rfl (by rw [B.1]; exact d1) r) hr
theorem w_lconst (W : Wk E x T h F cs ss) (B : Is x own b ml R ret nm) {i : Fin 2} {v : Int64} (d : D b pc (.lconst i) 1 nx) (hv : Int64.ofNat i = v) (hr : G E x T (fr x nx Ls (.long v :: st))) : G E x T (fr x pc Ls st) := by
  obtain ⟨d1, rfl⟩ := d; subst hv; exact pstep W (fun _ A r => XT.lconst A B.2.2.2.2.2.2.1 rfl (by rw [B.1]; exact d1) r) hr
theorem w_null (W : Wk E x T h F cs ss) (B : Is x own b ml R ret nm) (d : D b pc .aconst_null 1 nx) (hr : G E x T (fr x nx Ls (.null :: st))) : G E x T (fr x pc Ls st) := by
  obtain ⟨d1, rfl⟩ := d; exact pstep W (fun _ A r => XS.aconstNull A B.2.2.2.2.2.2.1 rfl (by rw [B.1]; exact d1) r) hr
theorem w_dup (W : Wk E x T h F cs ss) (B : Is x own b ml R ret nm) {v : Value} (d : D b pc .dup 1 nx) (hc : v.category = 1) (hr : G E x T (fr x nx Ls (v :: v :: st))) : G E x T (fr x pc Ls (v :: st)) := by
  obtain ⟨d1, rfl⟩ := d; exact pstep W (fun _ A r => XS.dup A B.2.2.2.2.2.2.1 rfl (by rw [B.1]; exact d1) rfl hc r) hr
theorem w_pop (W : Wk E x T h F cs ss) (B : Is x own b ml R ret nm) {v : Value} (d : D b pc .pop 1 nx) (hc : v.category = 1) (hr : G E x T (fr x nx Ls st)) : G E x T (fr x pc Ls (v :: st)) := by
  obtain ⟨d1, rfl⟩ := d; exact pstep W (fun _ A r => XT.pop A B.2.2.2.2.2.2.1 rfl (by rw [B.1]; exact d1) rfl hc r) hr
theorem w_dupX1 (W : Wk E x T h F cs ss) (B : Is x own b ml R ret nm) {v u : Value} (d : D b pc .dup_x1 1 nx) (hc : v.category = 1) (hc' : u.category = 1) (hr : G E x T (fr x nx Ls (v :: u :: v :: st))) : G E x T (fr x pc Ls (v :: u :: st)) := by
  obtain ⟨d1, rfl⟩ := d; exact pstep W (fun _ A r => XT.dupX1 A B.2.2.2.2.2.2.1 rfl (by rw [B.1]; exact d1) rfl hc hc' r) hr
theorem w_dup2 (W : Wk E x T h F cs ss) (B : Is x own b ml R ret nm) {v u : Value} (d : D b pc .dup2 1 nx) (hc : v.category = 1) (hc' : u.category = 1) (hr : G E x T (fr x nx Ls (v :: u :: v :: u :: st))) : G E x T (fr x pc Ls (v :: u :: st)) := by
  obtain ⟨d1, rfl⟩ := d; exact pstep W (fun _ A r => XT.dup2 A B.2.2.2.2.2.2.1 rfl (by rw [B.1]; exact d1) rfl hc hc' r) hr
theorem w_iinc (W : Wk E x T h F cs ss) (B : Is x own b ml R ret nm) {k : Nat} {i : Int} {v w : Int32} (d : D b pc (.iinc k i) 3 nx) (hl : Ls[k]? = some (.val (.int v))) (hw : v + Int32.ofInt i = w) (hl' : storeLocals Ls k (.int w) = some Ls') (hr : G E x T (fr x nx Ls' st)) : G E x T (fr x pc Ls st) := by
  obtain ⟨d1, rfl⟩ := d; subst hw; exact pstep W (fun _ A r => XS.iinc A B.2.2.2.2.2.2.1 rfl (by rw [B.1]; exact d1) hl hl' r) hr
theorem w_goto (W : Wk E x T h F cs ss) (B : Is x own b ml R ret nm) (d : J b pc (.goto o) 3 nx o tg) (hr : G E x T (fr x tg Ls st)) : G E x T (fr x pc Ls st) := by
  obtain ⟨d1, -, d2, d3⟩ := d; exact pstep W (fun _ A r => XS.goto A B.2.2.2.2.2.2.1 rfl (pc0 := pc) rfl (by rw [B.1]; exact d1) d2 d3 r) hr
end Steps
end Jvm.Own
namespace Jvm.Own
open Sem ClassFile Op Lib Bundle Jvm.Stand Jvm.Free Jvm.LawKit Jvm.RoadKit
section StepsB
variable {E : Gl} {x : Cx} {T : State} {h : Heap} {F : List Addr} {cs ss : Nat} {own : String} {b : ByteArray} {ml : Nat} {R : Room} {ret : Option FieldType} {nm : String} {pc nx tg : Nat} {o : Int} {Ls Ls' : Array Slot} {st : List Value}
theorem w_iadd (W : Wk E x T h F cs ss) (B : Is x own b ml R ret nm) {u v : Int32} (d : D b pc .iadd 1 nx) (hr : G E x T (fr x nx Ls (.int (u + v) :: st))) : G E x T (fr x pc Ls (.int v :: .int u :: st)) := by
  obtain ⟨d1, rfl⟩ := d; exact pstep W (fun _ A r => XS.iadd A B.2.2.2.2.2.2.1 rfl (by rw [B.1]; exact d1) rfl r) hr
theorem w_isub (W : Wk E x T h F cs ss) (B : Is x own b ml R ret nm) {u v : Int32} (d : D b pc .isub 1 nx) (hr : G E x T (fr x nx Ls (.int (u - v) :: st))) : G E x T (fr x pc Ls (.int v :: .int u :: st)) := by
  obtain ⟨d1, rfl⟩ := d; exact pstep W (fun _ A r => XS.isub A B.2.2.2.2.2.2.1 rfl (by rw [B.1]; exact d1) rfl r) hr
theorem w_imul (W : Wk E x T h F cs ss) (B : Is x own b ml R ret nm) {u v : Int32} (d : D b pc .imul 1 nx) (hr : G E x T (fr x nx Ls (.int (u * v) :: st))) : G E x T (fr x pc Ls (.int v :: .int u :: st)) := by
  obtain ⟨d1, rfl⟩ := d; exact pstep W (fun _ A r => XS.imul A B.2.2.2.2.2.2.1 rfl (by rw [B.1]; exact d1) rfl r) hr
theorem w_iand (W : Wk E x T h F cs ss) (B : Is x own b ml R ret nm) {u v : Int32} (d : D b pc .iand 1 nx) (hr : G E x T (fr x nx Ls (.int (u &&& v) :: st))) : G E x T (fr x pc Ls (.int v :: .int u :: st)) := by
  obtain ⟨d1, rfl⟩ := d; exact pstep W (fun _ A r => XS.iand A B.2.2.2.2.2.2.1 rfl (by rw [B.1]; exact d1) rfl r) hr
theorem w_ior (W : Wk E x T h F cs ss) (B : Is x own b ml R ret nm) {u v : Int32} (d : D b pc .ior 1 nx) (hr : G E x T (fr x nx Ls (.int (u ||| v) :: st))) : G E x T (fr x pc Ls (.int v :: .int u :: st)) := by
  obtain ⟨d1, rfl⟩ := d; exact pstep W (fun _ A r => XT.ior A B.2.2.2.2.2.2.1 rfl (by rw [B.1]; exact d1) rfl r) hr
theorem w_ixor (W : Wk E x T h F cs ss) (B : Is x own b ml R ret nm) {u v : Int32} (d : D b pc .ixor 1 nx) (hr : G E x T (fr x nx Ls (.int (u ^^^ v) :: st))) : G E x T (fr x pc Ls (.int v :: .int u :: st)) := by
  obtain ⟨d1, rfl⟩ := d; exact pstep W (fun _ A r => XT.ixor A B.2.2.2.2.2.2.1 rfl (by rw [B.1]; exact d1) rfl r) hr
theorem w_idiv (W : Wk E x T h F cs ss) (B : Is x own b ml R ret nm) {u v : Int32} (d : D b pc .idiv 1 nx) (hy : v ≠ 0) (hr : G E x T (fr x nx Ls (.int (u / v) :: st))) : G E x T (fr x pc Ls (.int v :: .int u :: st)) := by
  obtain ⟨d1, rfl⟩ := d; exact pstep W (fun _ A r => XS.idiv A B.2.2.2.2.2.2.1 rfl (by rw [B.1]; exact d1) rfl hy r) hr
theorem w_ladd (W : Wk E x T h F cs ss) (B : Is x own b ml R ret nm) {u v : Int64} (d : D b pc .ladd 1 nx) (hr : G E x T (fr x nx Ls (.long (u + v) :: st))) : G E x T (fr x pc Ls (.long v :: .long u :: st)) := by
  obtain ⟨d1, rfl⟩ := d; exact pstep W (fun _ A r => XT.ladd A B.2.2.2.2.2.2.1 rfl (by rw [B.1]; exact d1) rfl r) hr
theorem w_lsub (W : Wk E x T h F cs ss) (B : Is x own b ml R ret nm) {u v : Int64} (d : D b pc .lsub 1 nx) (hr : G E x T (fr x nx Ls (.long (u - v) :: st))) : G E x T (fr x pc Ls (.long v :: .long u :: st)) := by
  obtain ⟨d1, rfl⟩ := d; exact pstep W (fun _ A r => XT.lsub A B.2.2.2.2.2.2.1 rfl (by rw [B.1]; exact d1) rfl r) hr
theorem w_lmul (W : Wk E x T h F cs ss) (B : Is x own b ml R ret nm) {u v : Int64} (d : D b pc .lmul 1 nx) (hr : G E x T (fr x nx Ls (.long (u * v) :: st))) : G E x T (fr x pc Ls (.long v :: .long u :: st)) := by
  obtain ⟨d1, rfl⟩ := d; exact pstep W (fun _ A r => XT.lmul A B.2.2.2.2.2.2.1 rfl (by rw [B.1]; exact d1) rfl r) hr
theorem w_land (W : Wk E x T h F cs ss) (B : Is x own b ml R ret nm) {u v : Int64} (d : D b pc .land 1 nx) (hr : G E x T (fr x nx Ls (.long (u &&& v) :: st))) : G E x T (fr x pc Ls (.long v :: .long u :: st)) := by
  obtain ⟨d1, rfl⟩ := d; exact pstep W (fun _ A r => XT.land A B.2.2.2.2.2.2.1 rfl (by rw [B.1]; exact d1) rfl r) hr
theorem w_lor (W : Wk E x T h F cs ss) (B : Is x own b ml R ret nm) {u v : Int64} (d : D b pc .lor 1 nx) (hr : G E x T (fr x nx Ls (.long (u ||| v) :: st))) : G E x T (fr x pc Ls (.long v :: .long u :: st)) := by
  obtain ⟨d1, rfl⟩ := d; exact pstep W (fun _ A r => XT.lor A B.2.2.2.2.2.2.1 rfl (by rw [B.1]; exact d1) rfl r) hr
theorem w_lxor (W : Wk E x T h F cs ss) (B : Is x own b ml R ret nm) {u v : Int64} (d : D b pc .lxor 1 nx) (hr : G E x T (fr x nx Ls (.long (u ^^^ v) :: st))) : G E x T (fr x pc Ls (.long v :: .long u :: st)) := by
  obtain ⟨d1, rfl⟩ := d; exact pstep W (fun _ A r => XT.lxor A B.2.2.2.2.2.2.1 rfl (by rw [B.1]; exact d1) rfl r) hr
theorem w_ldiv (W : Wk E x T h F cs ss) (B : Is x own b ml R ret nm) {u v : Int64} (d : D b pc .ldiv 1 nx) (hy : v ≠ 0) (hr : G E x T (fr x nx Ls (.long (u / v) :: st))) : G E x T (fr x pc Ls (.long v :: .long u :: st)) := by
  obtain ⟨d1, rfl⟩ := d; exact pstep W (fun _ A r => XT.ldiv A B.2.2.2.2.2.2.1 rfl (by rw [B.1]; exact d1) rfl hy r) hr
theorem w_irem (W : Wk E x T h F cs ss) (B : Is x own b ml R ret nm) {u v : Int32} (d : D b pc .irem 1 nx) (hy : v ≠ 0) (hr : G E x T (fr x nx Ls (.int (u % v) :: st))) : G E x T (fr x pc Ls (.int v :: .int u :: st)) := by
  obtain ⟨d1, rfl⟩ := d; obtain ⟨_, _, _, X, -⟩ := W; exact G.of (fun _ r => iremM X B.2.2.2.2.2.2.1 rfl (by rw [B.1]; exact d1) rfl hy r) hr
theorem w_lrem (W : Wk E x T h F cs ss) (B : Is x own b ml R ret nm) {u v : Int64} (d : D b pc .lrem 1 nx) (hy : v ≠ 0) (hr : G E x T (fr x nx Ls (.long (u % v) :: st))) : G E x T (fr x pc Ls (.long v :: .long u :: st)) := by
  obtain ⟨d1, rfl⟩ := d; rw [← lrem_mod] at hr; exact pstep W (fun _ A r => XT.lrem A B.2.2.2.2.2.2.1 rfl (by rw [B.1]; exact d1) rfl hy r) hr
theorem w_ineg (W : Wk E x T h F cs ss) (B : Is x own b ml R ret nm) {u : Int32} (d : D b pc .ineg 1 nx) (hr : G E x T (fr x nx Ls (.int (-u) :: st))) : G E x T (fr x pc Ls (.int u :: st)) := by
  obtain ⟨d1, rfl⟩ := d; exact pstep W (fun _ A r => XS.ineg A B.2.2.2.2.2.2.1 rfl (by rw [B.1]; exact d1) rfl r) hr
theorem w_lneg (W : Wk E x T h F cs ss) (B : Is x own b ml R ret nm) {u : Int64} (d : D b pc .lneg 1 nx) (hr : G E x T (fr x nx Ls (.long (-u) :: st))) : G E x T (fr x pc Ls (.long u :: st)) := by
  obtain ⟨d1, rfl⟩ := d; exact pstep W (fun _ A r => XT.lneg A B.2.2.2.2.2.2.1 rfl (by rw [B.1]; exact d1) rfl r) hr
theorem w_i2l (W : Wk E x T h F cs ss) (B : Is x own b ml R ret nm) {u : Int32} (d : D b pc .i2l 1 nx) (hr : G E x T (fr x nx Ls (.long (u.toInt64) :: st))) : G E x T (fr x pc Ls (.int u :: st)) := by
  obtain ⟨d1, rfl⟩ := d; exact pstep W (fun _ A r => XT.i2l A B.2.2.2.2.2.2.1 rfl (by rw [B.1]; exact d1) rfl r) hr
theorem w_l2i (W : Wk E x T h F cs ss) (B : Is x own b ml R ret nm) {u : Int64} (d : D b pc .l2i 1 nx) (hr : G E x T (fr x nx Ls (.int (u.toInt32) :: st))) : G E x T (fr x pc Ls (.long u :: st)) := by
  obtain ⟨d1, rfl⟩ := d; exact pstep W (fun _ A r => XT.l2i A B.2.2.2.2.2.2.1 rfl (by rw [B.1]; exact d1) rfl r) hr
theorem w_i2b (W : Wk E x T h F cs ss) (B : Is x own b ml R ret nm) {u : Int32} (d : D b pc .i2b 1 nx) (hr : G E x T (fr x nx Ls (.int (u.toInt8.toInt32) :: st))) : G E x T (fr x pc Ls (.int u :: st)) := by
  obtain ⟨d1, rfl⟩ := d; exact pstep W (fun _ A r => XT.i2b A B.2.2.2.2.2.2.1 rfl (by rw [B.1]; exact d1) rfl r) hr
theorem w_i2c (W : Wk E x T h F cs ss) (B : Is x own b ml R ret nm) {u : Int32} (d : D b pc .i2c 1 nx) (hr : G E x T (fr x nx Ls (.int (u.toUInt32.toUInt16.toUInt32.toInt32) :: st))) : G E x T (fr x pc Ls (.int u :: st)) := by
  obtain ⟨d1, rfl⟩ := d; exact pstep W (fun _ A r => XT.i2c A B.2.2.2.2.2.2.1 rfl (by rw [B.1]; exact d1) rfl r) hr
theorem w_i2s (W : Wk E x T h F cs ss) (B : Is x own b ml R ret nm) {u : Int32} (d : D b pc .i2s 1 nx) (hr : G E x T (fr x nx Ls (.int (u.toInt16.toInt32) :: st))) : G E x T (fr x pc Ls (.int u :: st)) := by
  obtain ⟨d1, rfl⟩ := d; exact pstep W (fun _ A r => XT.i2s A B.2.2.2.2.2.2.1 rfl (by rw [B.1]; exact d1) rfl r) hr
theorem w_ishl (W : Wk E x T h F cs ss) (B : Is x own b ml R ret nm) {u v : Int32} (d : D b pc .ishl 1 nx) (hr : G E x T (fr x nx Ls (.int (u <<< (v &&& 31)) :: st))) : G E x T (fr x pc Ls (.int v :: .int u :: st)) := by
  obtain ⟨d1, rfl⟩ := d; exact pstep W (fun _ A r => XT.ishl A B.2.2.2.2.2.2.1 rfl (by rw [B.1]; exact d1) rfl r) hr
theorem w_ishr (W : Wk E x T h F cs ss) (B : Is x own b ml R ret nm) {u v : Int32} (d : D b pc .ishr 1 nx) (hr : G E x T (fr x nx Ls (.int (u >>> (v &&& 31)) :: st))) : G E x T (fr x pc Ls (.int v :: .int u :: st)) := by
  obtain ⟨d1, rfl⟩ := d; exact pstep W (fun _ A r => XT.ishr A B.2.2.2.2.2.2.1 rfl (by rw [B.1]; exact d1) rfl r) hr
theorem w_iushr (W : Wk E x T h F cs ss) (B : Is x own b ml R ret nm) {u v : Int32} (d : D b pc .iushr 1 nx) (hr : G E x T (fr x nx Ls (.int (XT.ushr u v) :: st))) : G E x T (fr x pc Ls (.int v :: .int u :: st)) := by
  obtain ⟨d1, rfl⟩ := d; exact pstep W (fun _ A r => XT.iushr A B.2.2.2.2.2.2.1 rfl (by rw [B.1]; exact d1) rfl r) hr
theorem w_lshl (W : Wk E x T h F cs ss) (B : Is x own b ml R ret nm) {u : Int64} {v : Int32} (d : D b pc .lshl 1 nx) (hr : G E x T (fr x nx Ls (.long (u <<< (v.toInt64 &&& 63)) :: st))) : G E x T (fr x pc Ls (.int v :: .long u :: st)) := by
  obtain ⟨d1, rfl⟩ := d; exact pstep W (fun _ A r => XT.lshl A B.2.2.2.2.2.2.1 rfl (by rw [B.1]; exact d1) rfl r) hr
theorem w_lshr (W : Wk E x T h F cs ss) (B : Is x own b ml R ret nm) {u : Int64} {v : Int32} (d : D b pc .lshr 1 nx) (hr : G E x T (fr x nx Ls (.long (u >>> (v.toInt64 &&& 63)) :: st))) : G E x T (fr x pc Ls (.int v :: .long u :: st)) := by
  obtain ⟨d1, rfl⟩ := d; exact pstep W (fun _ A r => XT.lshr A B.2.2.2.2.2.2.1 rfl (by rw [B.1]; exact d1) rfl r) hr
theorem w_lushr (W : Wk E x T h F cs ss) (B : Is x own b ml R ret nm) {u : Int64} {v : Int32} (d : D b pc .lushr 1 nx) (hr : G E x T (fr x nx Ls (.long (XT.ushrL u v) :: st))) : G E x T (fr x pc Ls (.int v :: .long u :: st)) := by
  obtain ⟨d1, rfl⟩ := d; exact pstep W (fun _ A r => XT.lushr A B.2.2.2.2.2.2.1 rfl (by rw [B.1]; exact d1) rfl r) hr
theorem w_lcmp (W : Wk E x T h F cs ss) (B : Is x own b ml R ret nm) {u v : Int64} (d : D b pc .lcmp 1 nx) (hr : G E x T (fr x nx Ls (.int (XT.cmpL u v) :: st))) : G E x T (fr x pc Ls (.long v :: .long u :: st)) := by
  obtain ⟨d1, rfl⟩ := d; exact pstep W (fun _ A r => XT.lcmp A B.2.2.2.2.2.2.1 rfl (by rw [B.1]; exact d1) rfl r) hr
theorem w_if_eq (W : Wk E x T h F cs ss) (B : Is x own b ml R ret nm) {u : Int32} (d : J b pc (.ifCond .eq o) 3 nx o tg) (ht : u = 0 → G E x T (fr x tg Ls st)) (hf : ¬ u = 0 → G E x T (fr x nx Ls st)) : G E x T (fr x pc Ls (.int u :: st)) := by
  obtain ⟨d1, rfl, d2, d3⟩ := d
  by_cases q : u = 0
  · exact pstep W (fun _ A r => XS.ifYes A B.2.2.2.2.2.2.1 rfl (pc0 := pc) rfl (by rw [B.1]; exact d1) rfl ((if0 _ _).trans (teq q).1) d2 d3 r) (ht q)
  · exact pstep W (fun _ A r => XS.ifNo A B.2.2.2.2.2.2.1 rfl (by rw [B.1]; exact d1) rfl ((if0 _ _).trans (feq q).1) r) (hf q)
theorem w_icmp_eq (W : Wk E x T h F cs ss) (B : Is x own b ml R ret nm) {u v : Int32} (d : J b pc (.if_icmp .eq o) 3 nx o tg) (ht : u = v → G E x T (fr x tg Ls st)) (hf : ¬ u = v → G E x T (fr x nx Ls st)) : G E x T (fr x pc Ls (.int v :: .int u :: st)) := by
  obtain ⟨d1, rfl, d2, d3⟩ := d
  by_cases q : u = v
  · exact pstep W (fun _ A r => XS.icmpYes A B.2.2.2.2.2.2.1 rfl (pc0 := pc) rfl (by rw [B.1]; exact d1) rfl (teq q).1 d2 d3 r) (ht q)
  · exact pstep W (fun _ A r => XS.icmpNo A B.2.2.2.2.2.2.1 rfl (by rw [B.1]; exact d1) rfl (feq q).1 r) (hf q)
theorem w_if_ne (W : Wk E x T h F cs ss) (B : Is x own b ml R ret nm) {u : Int32} (d : J b pc (.ifCond .ne o) 3 nx o tg) (ht : ¬ u = 0 → G E x T (fr x tg Ls st)) (hf : u = 0 → G E x T (fr x nx Ls st)) : G E x T (fr x pc Ls (.int u :: st)) := by
  obtain ⟨d1, rfl, d2, d3⟩ := d
  by_cases q : u = 0
  · exact pstep W (fun _ A r => XS.ifNo A B.2.2.2.2.2.2.1 rfl (by rw [B.1]; exact d1) rfl ((if0 _ _).trans (teq q).2) r) (hf q)
  · exact pstep W (fun _ A r => XS.ifYes A B.2.2.2.2.2.2.1 rfl (pc0 := pc) rfl (by rw [B.1]; exact d1) rfl ((if0 _ _).trans (feq q).2) d2 d3 r) (ht q)
theorem w_icmp_ne (W : Wk E x T h F cs ss) (B : Is x own b ml R ret nm) {u v : Int32} (d : J b pc (.if_icmp .ne o) 3 nx o tg) (ht : ¬ u = v → G E x T (fr x tg Ls st)) (hf : u = v → G E x T (fr x nx Ls st)) : G E x T (fr x pc Ls (.int v :: .int u :: st)) := by
  obtain ⟨d1, rfl, d2, d3⟩ := d
  by_cases q : u = v
  · exact pstep W (fun _ A r => XS.icmpNo A B.2.2.2.2.2.2.1 rfl (by rw [B.1]; exact d1) rfl (teq q).2 r) (hf q)
  · exact pstep W (fun _ A r => XS.icmpYes A B.2.2.2.2.2.2.1 rfl (pc0 := pc) rfl (by rw [B.1]; exact d1) rfl (feq q).2 d2 d3 r) (ht q)
theorem w_if_lt (W : Wk E x T h F cs ss) (B : Is x own b ml R ret nm) {u : Int32} (d : J b pc (.ifCond .lt o) 3 nx o tg) (ht : u < 0 → G E x T (fr x tg Ls st)) (hf : ¬ u < 0 → G E x T (fr x nx Ls st)) : G E x T (fr x pc Ls (.int u :: st)) := by
  obtain ⟨d1, rfl, d2, d3⟩ := d
  by_cases q : u < 0
  · exact pstep W (fun _ A r => XS.ifYes A B.2.2.2.2.2.2.1 rfl (pc0 := pc) rfl (by rw [B.1]; exact d1) rfl ((if0 _ _).trans (tlt q).1) d2 d3 r) (ht q)
  · exact pstep W (fun _ A r => XS.ifNo A B.2.2.2.2.2.2.1 rfl (by rw [B.1]; exact d1) rfl ((if0 _ _).trans (flt q).1) r) (hf q)
theorem w_icmp_lt (W : Wk E x T h F cs ss) (B : Is x own b ml R ret nm) {u v : Int32} (d : J b pc (.if_icmp .lt o) 3 nx o tg) (ht : u < v → G E x T (fr x tg Ls st)) (hf : ¬ u < v → G E x T (fr x nx Ls st)) : G E x T (fr x pc Ls (.int v :: .int u :: st)) := by
  obtain ⟨d1, rfl, d2, d3⟩ := d
  by_cases q : u < v
  · exact pstep W (fun _ A r => XS.icmpYes A B.2.2.2.2.2.2.1 rfl (pc0 := pc) rfl (by rw [B.1]; exact d1) rfl (tlt q).1 d2 d3 r) (ht q)
  · exact pstep W (fun _ A r => XS.icmpNo A B.2.2.2.2.2.2.1 rfl (by rw [B.1]; exact d1) rfl (flt q).1 r) (hf q)
theorem w_if_ge (W : Wk E x T h F cs ss) (B : Is x own b ml R ret nm) {u : Int32} (d : J b pc (.ifCond .ge o) 3 nx o tg) (ht : ¬ u < 0 → G E x T (fr x tg Ls st)) (hf : u < 0 → G E x T (fr x nx Ls st)) : G E x T (fr x pc Ls (.int u :: st)) := by
  obtain ⟨d1, rfl, d2, d3⟩ := d
  by_cases q : u < 0
  · exact pstep W (fun _ A r => XS.ifNo A B.2.2.2.2.2.2.1 rfl (by rw [B.1]; exact d1) rfl ((if0 _ _).trans (tlt q).2.1) r) (hf q)
  · exact pstep W (fun _ A r => XS.ifYes A B.2.2.2.2.2.2.1 rfl (pc0 := pc) rfl (by rw [B.1]; exact d1) rfl ((if0 _ _).trans (flt q).2.1) d2 d3 r) (ht q)
theorem w_icmp_ge (W : Wk E x T h F cs ss) (B : Is x own b ml R ret nm) {u v : Int32} (d : J b pc (.if_icmp .ge o) 3 nx o tg) (ht : ¬ u < v → G E x T (fr x tg Ls st)) (hf : u < v → G E x T (fr x nx Ls st)) : G E x T (fr x pc Ls (.int v :: .int u :: st)) := by
  obtain ⟨d1, rfl, d2, d3⟩ := d
  by_cases q : u < v
  · exact pstep W (fun _ A r => XS.icmpNo A B.2.2.2.2.2.2.1 rfl (by rw [B.1]; exact d1) rfl (tlt q).2.1 r) (hf q)
  · exact pstep W (fun _ A r => XS.icmpYes A B.2.2.2.2.2.2.1 rfl (pc0 := pc) rfl (by rw [B.1]; exact d1) rfl (flt q).2.1 d2 d3 r) (ht q)
theorem w_if_gt (W : Wk E x T h F cs ss) (B : Is x own b ml R ret nm) {u : Int32} (d : J b pc (.ifCond .gt o) 3 nx o tg) (ht : 0 < u → G E x T (fr x tg Ls st)) (hf : ¬ 0 < u → G E x T (fr x nx Ls st)) : G E x T (fr x pc Ls (.int u :: st)) := by
  obtain ⟨d1, rfl, d2, d3⟩ := d
  by_cases q : 0 < u
  · exact pstep W (fun _ A r => XS.ifYes A B.2.2.2.2.2.2.1 rfl (pc0 := pc) rfl (by rw [B.1]; exact d1) rfl ((if0 _ _).trans (tlt q).2.2.1) d2 d3 r) (ht q)
  · exact pstep W (fun _ A r => XS.ifNo A B.2.2.2.2.2.2.1 rfl (by rw [B.1]; exact d1) rfl ((if0 _ _).trans (flt q).2.2.1) r) (hf q)
theorem w_icmp_gt (W : Wk E x T h F cs ss) (B : Is x own b ml R ret nm) {u v : Int32} (d : J b pc (.if_icmp .gt o) 3 nx o tg) (ht : v < u → G E x T (fr x tg Ls st)) (hf : ¬ v < u → G E x T (fr x nx Ls st)) : G E x T (fr x pc Ls (.int v :: .int u :: st)) := by
  obtain ⟨d1, rfl, d2, d3⟩ := d
  by_cases q : v < u
  · exact pstep W (fun _ A r => XS.icmpYes A B.2.2.2.2.2.2.1 rfl (pc0 := pc) rfl (by rw [B.1]; exact d1) rfl (tlt q).2.2.1 d2 d3 r) (ht q)
  · exact pstep W (fun _ A r => XS.icmpNo A B.2.2.2.2.2.2.1 rfl (by rw [B.1]; exact d1) rfl (flt q).2.2.1 r) (hf q)
theorem w_if_le (W : Wk E x T h F cs ss) (B : Is x own b ml R ret nm) {u : Int32} (d : J b pc (.ifCond .le o) 3 nx o tg) (ht : ¬ 0 < u → G E x T (fr x tg Ls st)) (hf : 0 < u → G E x T (fr x nx Ls st)) : G E x T (fr x pc Ls (.int u :: st)) := by
  obtain ⟨d1, rfl, d2, d3⟩ := d
  by_cases q : 0 < u
  · exact pstep W (fun _ A r => XS.ifNo A B.2.2.2.2.2.2.1 rfl (by rw [B.1]; exact d1) rfl ((if0 _ _).trans (tlt q).2.2.2) r) (hf q)
  · exact pstep W (fun _ A r => XS.ifYes A B.2.2.2.2.2.2.1 rfl (pc0 := pc) rfl (by rw [B.1]; exact d1) rfl ((if0 _ _).trans (flt q).2.2.2) d2 d3 r) (ht q)
theorem w_icmp_le (W : Wk E x T h F cs ss) (B : Is x own b ml R ret nm) {u v : Int32} (d : J b pc (.if_icmp .le o) 3 nx o tg) (ht : ¬ v < u → G E x T (fr x tg Ls st)) (hf : v < u → G E x T (fr x nx Ls st)) : G E x T (fr x pc Ls (.int v :: .int u :: st)) := by
  obtain ⟨d1, rfl, d2, d3⟩ := d
  by_cases q : v < u
  · exact pstep W (fun _ A r => XS.icmpNo A B.2.2.2.2.2.2.1 rfl (by rw [B.1]; exact d1) rfl (tlt q).2.2.2 r) (hf q)
  · exact pstep W (fun _ A r => XS.icmpYes A B.2.2.2.2.2.2.1 rfl (pc0 := pc) rfl (by rw [B.1]; exact d1) rfl (flt q).2.2.2 d2 d3 r) (ht q)
theorem w_ifnull_null (W : Wk E x T h F cs ss) (B : Is x own b ml R ret nm) (d : J b pc (.ifnull o) 3 nx o tg) (hr : G E x T (fr x tg Ls st)) : G E x T (fr x pc Ls (.null :: st)) := by
  obtain ⟨d1, rfl, d2, d3⟩ := d; exact pstep W (fun _ A r => XS.ifnullYes A B.2.2.2.2.2.2.1 rfl (pc0 := pc) rfl (by rw [B.1]; exact d1) rfl d2 d3 r) hr
theorem w_ifnull_ref (W : Wk E x T h F cs ss) (B : Is x own b ml R ret nm) {a : Addr} (d : J b pc (.ifnull o) 3 nx o tg) (hr : G E x T (fr x nx Ls st)) : G E x T (fr x pc Ls (.ref a :: st)) := by
  obtain ⟨d1, rfl, d2, d3⟩ := d; exact pstep W (fun _ A r => XS.ifnullNo A B.2.2.2.2.2.2.1 rfl (by rw [B.1]; exact d1) rfl r) hr
theorem w_ifnonnull_null (W : Wk E x T h F cs ss) (B : Is x own b ml R ret nm) (d : J b pc (.ifnonnull o) 3 nx o tg) (hr : G E x T (fr x nx Ls st)) : G E x T (fr x pc Ls (.null :: st)) := by
  obtain ⟨d1, rfl, d2, d3⟩ := d; exact pstep W (fun _ A r => XT.ifnonnullNo A B.2.2.2.2.2.2.1 rfl (by rw [B.1]; exact d1) rfl r) hr
theorem w_ifnonnull_ref (W : Wk E x T h F cs ss) (B : Is x own b ml R ret nm) {a : Addr} (d : J b pc (.ifnonnull o) 3 nx o tg) (hr : G E x T (fr x tg Ls st)) : G E x T (fr x pc Ls (.ref a :: st)) := by
  obtain ⟨d1, rfl, d2, d3⟩ := d; exact pstep W (fun _ A r => XT.ifnonnullYes A B.2.2.2.2.2.2.1 rfl (pc0 := pc) rfl (by rw [B.1]; exact d1) rfl d2 d3 r) hr
theorem w_acmp_eq_y (W : Wk E x T h F cs ss) (B : Is x own b ml R ret nm) {u v : Value} (d : J b pc (.if_acmp .eq o) 3 nx o tg) (h1 : u.isRef = true) (h2 : v.isRef = true) (q : u = v) (hr : G E x T (fr x tg Ls st)) : G E x T (fr x pc Ls (v :: u :: st)) := by
  obtain ⟨d1, rfl, d2, d3⟩ := d; exact pstep W (fun _ A r => XT.acmpYes A B.2.2.2.2.2.2.1 rfl (pc0 := pc) rfl (by rw [B.1]; exact d1) rfl h1 h2 (by simp [XT.acmp, q]) d2 d3 r) hr
theorem w_acmp_eq_n (W : Wk E x T h F cs ss) (B : Is x own b ml R ret nm) {u v : Value} (d : J b pc (.if_acmp .eq o) 3 nx o tg) (h1 : u.isRef = true) (h2 : v.isRef = true) (q : u ≠ v) (hr : G E x T (fr x nx Ls st)) : G E x T (fr x pc Ls (v :: u :: st)) := by
  obtain ⟨d1, rfl, d2, d3⟩ := d; exact pstep W (fun _ A r => XT.acmpNo A B.2.2.2.2.2.2.1 rfl (by rw [B.1]; exact d1) rfl h1 h2 (by simp [XT.acmp, q]) r) hr
theorem w_acmp_ne_y (W : Wk E x T h F cs ss) (B : Is x own b ml R ret nm) {u v : Value} (d : J b pc (.if_acmp .ne o) 3 nx o tg) (h1 : u.isRef = true) (h2 : v.isRef = true) (q : u = v) (hr : G E x T (fr x nx Ls st)) : G E x T (fr x pc Ls (v :: u :: st)) := by
  obtain ⟨d1, rfl, d2, d3⟩ := d; exact pstep W (fun _ A r => XT.acmpNo A B.2.2.2.2.2.2.1 rfl (by rw [B.1]; exact d1) rfl h1 h2 (by simp [XT.acmp, q]) r) hr
theorem w_acmp_ne_n (W : Wk E x T h F cs ss) (B : Is x own b ml R ret nm) {u v : Value} (d : J b pc (.if_acmp .ne o) 3 nx o tg) (h1 : u.isRef = true) (h2 : v.isRef = true) (q : u ≠ v) (hr : G E x T (fr x tg Ls st)) : G E x T (fr x pc Ls (v :: u :: st)) := by
  obtain ⟨d1, rfl, d2, d3⟩ := d; exact pstep W (fun _ A r => XT.acmpYes A B.2.2.2.2.2.2.1 rfl (pc0 := pc) rfl (by rw [B.1]; exact d1) rfl h1 h2 (by simp [XT.acmp, q]) d2 d3 r) hr
end StepsB
end Jvm.Own
namespace Jvm.Own
open Sem ClassFile Op Lib Bundle Jvm.Stand Jvm.Free Jvm.LawKit Jvm.RoadKit
theorem chr_nil (Z : State) {vm vm1 : Vm} {h h' : Heap} (q : h.size ≤ h'.size) : CHr Z [] vm h vm1 h' := ⟨(fun _ hp => nomatch hp), q, fun _ B => by obtain ⟨_, hp, _⟩ := B; exact nomatch hp⟩
theorem safe_nil (Z : State) (vm : Vm) (h : Heap) (x : Addr) : Safe Z [] vm h x := fun B => by obtain ⟨_, hp, _⟩ := B; exact nomatch hp
section StepsC
variable {E : Gl} {x : Cx} {T : State} {h : Heap} {F : List Addr} {cs ss : Nat} {own : String} {b : ByteArray} {ml : Nat} {R : Room} {ret : Option FieldType} {nm : String} {pc nx tg : Nat} {o : Int} {Ls Ls' : Array Slot} {st stk : List Value}
/-- a walk opened: the Stand, and how it is closed behind a step that adds cells, and behind one that writes a place that may be written -/
theorem Wk.open (W : Wk E x T h F cs ss) (B : Is x own b ml R ret nm) : ∃ (vm : Vm) (L : List Loc), Stand x.p E.l x.e x.R (x.s.setVm vm) x.m x.args x.below x.meth x.c T L cs ss ∧ T.heap = h ∧ E.Z.Warmed39 (x.s.setVm vm).vm ∧ (x.s.setVm vm).vm.findClass own = some x.m.cls ∧
    (∀ (T' : State) (h' : Heap) (cs' ss' : Nat), Stand x.p E.l x.e x.R (x.s.setVm vm) x.m x.args x.below x.meth x.c T' L cs' ss' → T'.heap = h' → Ext h h' → Wk E x T' h' F cs' ss' ∧ ∀ y, h.size ≤ y → y < h'.size → Wk E x T' h' (y :: F) cs' ss') ∧
    (∀ (a : Addr) (sl : Nat) (v : Value) (T' : State) (h' : Heap), a ∈ F → Stand x.p E.l x.e x.R (x.s.setVm vm) x.m x.args x.below x.meth x.c T' (L ++ [⟨a, sl⟩]) cs ss → T'.heap = h' → Wr h h' a sl v → Wk E x T' h' F cs ss) := by
  obtain ⟨vm, k, L, X, h1, h2, h3, h4, h5, h6, h7, h8, h9, h10⟩ := W
  refine ⟨vm, L, X, h1, h5, ?_, ?_, ?_⟩
  · show vm.findClass own = _
    rw [h2.1.alike.findClass]; exact B.2.2.2.2.2.2.2
  · intro T' h' cs' ss' X' e' Ex
    have c1 : CHr E.Z E.K vm h vm h' := CHr.ext Ex h8.1
    have f1 : FOk E vm h' F := fun y hy => ⟨(h9 y hy).1, Nat.lt_of_lt_of_le (h9 y hy).2.1 Ex.1, c1.safe (h9 y hy).2.1 (h9 y hy).2.2⟩
    have n1 : E.n ≤ h.size := by rw [← h7.1]; exact h7.2.1
    refine ⟨⟨vm, k, L, X', e', h2, Nat.le_trans h3 Ex.1, h4, h5, h6, h7.ext Ex, h8.trans c1, f1, h10⟩, fun y hy1 hy2 => ⟨vm, k, L, X', e', h2, Nat.le_trans h3 Ex.1, h4, h5, h6, h7.ext Ex, h8.trans c1, fun z hz => ?_, h10⟩⟩
    rcases List.mem_cons.mp hz with rfl | hz
    · exact ⟨Nat.le_trans n1 hy1, hy2, Safe.ext Ex h8.1 (Safe.new hy1)⟩
    · exact f1 z hz
  · intro a sl v T' h' ha X' e' Wr'
    have c1 : CHr E.Z E.K vm h vm h' := CHr.wr Wr' (h9 a ha).2.2 h8.1
    exact ⟨vm, k, _, X', e', h2, by rw [Wr'.size]; exact h3, h4, h5, Fr.snoc X' h6 (h9 a ha).1, h7.wr Wr' (h9 a ha).1, h8.trans c1, fun y hy => ⟨(h9 y hy).1, by rw [Wr'.size]; exact (h9 y hy).2.1, c1.safe (h9 y hy).2.1 (h9 y hy).2.2⟩, h10⟩
theorem Wk.openK (W : Wk E x T h F cs ss) (B : Is x own b ml R ret nm) : ∃ (vm : Vm) (L : List Loc), Stand x.p E.l x.e x.R (x.s.setVm vm) x.m x.args x.below x.meth x.c T L cs ss ∧ T.heap = h ∧ E.Z.Warmed39 (x.s.setVm vm).vm ∧ (x.s.setVm vm).vm.findClass own = some x.m.cls ∧ Fr E.n L ∧
    (∀ (T' : State) (h' : Heap) (L' : List Loc) (ws : List Addr) (cs' ss' : Nat), Stand x.p E.l x.e x.R (x.s.setVm vm) x.m x.args x.below x.meth x.c T' L' cs' ss' → T'.heap = h' → Fr E.n L' → Keep h h' ws → (∀ y ∈ ws, y ∈ F) → Wk E x T' h' F cs' ss') := by
  obtain ⟨vm, k, L, X, h1, h2, h3, h4, h5, h6, h7, h8, h9, h10⟩ := W
  refine ⟨vm, L, X, h1, h5, ?_, h6, ?_⟩
  · show vm.findClass own = _
    rw [h2.1.alike.findClass]; exact B.2.2.2.2.2.2.2
  · intro T' h' L' ws cs' ss' X' e' N K hws
    have c1 : CHr E.Z E.K vm h vm h' := CHr.keep K (fun y hy => (h9 y (hws y hy)).2.2) h8.1
    exact ⟨vm, k, L', X', e', h2, Nat.le_trans h3 K.1, h4, h5, N, h7.keep K (fun y hy => (h9 y (hws y hy)).1), h8.trans c1, fun y hy => ⟨(h9 y hy).1, Nat.lt_of_lt_of_le (h9 y hy).2.1 K.1, c1.safe (h9 y hy).2.1 (h9 y hy).2.2⟩, h10⟩
theorem w_arraycopy (W : Wk E x T h F cs ss) (B : Is x own b ml R ret nm) {index : Nat} {a v : Addr} {k k' : ClassId} {ty : FieldType} {z z' sp dp nn : Int32} {vs vd us : List Value} {dv dd : Value} (d : D b pc (.invokestatic index) 3 nx)
    (w1 : (Cond.methodLink own index Jvm.Stand.acN).before E.a E.Z = true) (w2 : (Cond.native Jvm.Stand.acN).before E.a E.Z = true) (w3 : (Cond.static Jvm.Stand.acN).before E.a E.Z = true) (w4 : (Cond.initialized "java/lang/System").before E.a E.Z = true)
    (hF : v ∈ F) (A : Arv E.Z h a k ty z vs dv) (Bd : Arv E.Z h v k' ty z' vd dd) (hty : refKind ty = false) (h1 : ¬ sp < 0) (h2 : ¬ dp < 0) (h3 : ¬ nn < 0) (h4 : sp.toNatClampNeg + nn.toNatClampNeg ≤ z.toNatClampNeg) (h5 : dp.toNatClampNeg + nn.toNatClampNeg ≤ z'.toNatClampNeg)
    (hus : us = (List.range nn.toNatClampNeg).map fun i => vs.getD (sp.toNatClampNeg + i) dv) (hl : dp.toNatClampNeg + nn.toNatClampNeg ≤ vd.length) (hsz : Ls.size = ml) (hf : 1 ≤ R.frames) {Wt : Nat} (hW : (st.map fun v => v.category).sum ≤ Wt) (hlo : Wt + (nativeFrameWords "java/lang/System" "arraycopy" 5 + 11) ≤ R.locals)
    (hr : ∀ (T' : State) (h' : Heap), Wk E x T' h' F cs ss → Keep h h' [v] → Arv E.Z h' v k' ty z' (vd.take dp.toNatClampNeg ++ us ++ vd.drop (dp.toNatClampNeg + nn.toNatClampNeg)) dd → G E x T' (fr x nx Ls st)) : G E x T (fr x pc Ls (.int nn :: .int dp :: .ref v :: .int sp :: .ref a :: st)) := by
  obtain ⟨d1, rfl⟩ := d
  have hge := (W.fOk hF).1
  obtain ⟨vm, L, X, e, hZ, hown, N, cl⟩ := W.openK B
  obtain ⟨T', h', L', X', e', N', K, A', stp⟩ := cpA X B.2.2.2.2.2.2.1 hZ hown w1 w2 w3 w4 e A Bd (Or.inl ⟨rfl, hty⟩) h1 h2 h3 h4 h5 hus hl N hge (g := fr x pc Ls (.int nn :: .int dp :: .ref v :: .int sp :: .ref a :: st)) rfl (hsz.trans B.2.1.symm) rfl (by rw [B.1]; exact d1) (by rw [B.2.2.1]; exact hf) (W := Wt) (by show 2 * 0 + _ ≤ _; omega) (by rw [B.2.2.1]; exact hlo)
  exact G.of stp (hr T' h' (cl T' h' L' [v] cs ss X' e' N' K (fun y hy => by rw [List.mem_singleton.mp hy]; exact hF)) K A')
theorem w_new (W : Wk E x T h F cs ss) (B : Is x own b ml R ret nm) {C : String} {index n : Nat} (d : D b pc (.new index) 3 nx) (w : (Cond.classLink own index C).before E.a E.Z = true) (wi : (Cond.instantiable C n).before E.a E.Z = true) (wz : (Cond.initialized C).before E.a E.Z = true) (hc : cs + 1 ≤ R.cells) (hl : ss + n ≤ R.slots)
    (hr : ∀ (T' : State) (h' : Heap) (a : Addr), Wk E x T' h' (a :: F) (cs + 1) (ss + n) → a = h.size → Ext h h' → Exa E.Z h' a C → (∀ {O f t : String} {ty : FieldType}, Laid E.Z E.a C O f t → parseFieldDescriptor t = some ty → Fld E.Z h' a O f t (defaultValue ty)) → G E x T' (fr x nx Ls (.ref a :: st))) : G E x T (fr x pc Ls st) := by
  obtain ⟨d1, rfl⟩ := d
  obtain ⟨vm, L, X, e, hZ, hown, cl, -⟩ := W.open B
  obtain ⟨T', h', X', e', Ex, A, D, -, stp⟩ := newO X B.2.2.2.2.2.2.1 hZ hown w wi wz e (g := fr x pc Ls st) rfl (by rw [B.1]; exact d1) (by rw [B.2.2.1]; exact hc) (by rw [B.2.2.1]; exact hl)
  exact G.of stp (hr T' h' _ ((cl T' h' _ _ X' e' Ex).2 _ (Nat.le_refl _) A.lt) rfl Ex A D)
theorem w_newarray (W : Wk E x T h F cs ss) (B : Is x own b ml R ret nm) {aty : ArrayType} {ty : FieldType} {n : Int32} {cap : Nat} (d : D b pc (.newarray aty) 2 nx) (ety : newarray.typeOf aty = ty) (w : (Cond.arrayClass ty).before E.a E.Z = true) (hn : ¬ n < 0) (hcap : n.toNatClampNeg ≤ cap) (hb : cap * 8 ≤ 536870912) (hc : cs + 1 ≤ R.cells) (hl : ss + cap ≤ R.slots)
    (hr : ∀ (T' : State) (h' : Heap) (a : Addr) (k : ClassId), Wk E x T' h' (a :: F) (cs + 1) (ss + cap) → a = h.size → Ext h h' → Arv E.Z h' a k ty n [] (defaultValue ty) → G E x T' (fr x nx Ls (.ref a :: st))) : G E x T (fr x pc Ls (.int n :: st)) := by
  obtain ⟨d1, rfl⟩ := d
  subst ety
  obtain ⟨vm, L, X, e, hZ, hown, cl, -⟩ := W.open B
  obtain ⟨T', h', cA, X', e', Ex, A, stp⟩ := newP X B.2.2.2.2.2.2.1 hZ w e (g := fr x pc Ls (.int n :: st)) rfl (by rw [B.1]; exact d1) rfl hn hcap hb (by rw [B.2.2.1]; exact hc) (by rw [B.2.2.1]; exact hl)
  exact G.of stp (hr T' h' _ cA ((cl T' h' _ _ X' e' Ex).2 _ (Nat.le_refl _) A.lt) rfl Ex (Arv.new A hn))
theorem w_anewarray (W : Wk E x T h F cs ss) (B : Is x own b ml R ret nm) {C ad : String} {index : Nat} {n : Int32} {cap : Nat} (d : D b pc (.anewarray index) 3 nx) (w1 : (Cond.classLink own index C).before E.a E.Z = true) (w2 : (Cond.arrayOver (.object C)).before E.a E.Z = true) (hn : ¬ n < 0) (hcap : n.toNatClampNeg ≤ cap) (hb : cap * 8 ≤ 536870912) (hc : cs + 1 ≤ R.cells) (hl : ss + cap ≤ R.slots)
    (hr : ∀ (T' : State) (h' : Heap) (a : Addr) (k : ClassId), Wk E x T' h' (a :: F) (cs + 1) (ss + cap) → a = h.size → Ext h h' → Arv E.Z h' a k (.object C) n [] .null → Ovr E.Z k C → G E x T' (fr x nx Ls (.ref a :: st))) : G E x T (fr x pc Ls (.int n :: st)) := by
  obtain ⟨d1, rfl⟩ := d
  obtain ⟨vm, L, X, e, hZ, hown, cl, -⟩ := W.open B
  obtain ⟨T', h', cA, X', e', Ex, A, O, stp⟩ := newR X B.2.2.2.2.2.2.1 hZ hown w1 w2 e (g := fr x pc Ls (.int n :: st)) rfl (by rw [B.1]; exact d1) rfl hn hcap hb (by rw [B.2.2.1]; exact hc) (by rw [B.2.2.1]; exact hl)
  exact G.of stp (hr T' h' _ cA ((cl T' h' _ _ X' e' Ex).2 _ (Nat.le_refl _) A.lt) rfl Ex (Arv.new A hn) O)
theorem w_getF (W : Wk E x T h F cs ss) (B : Is x own b ml R ret nm) {R0 O n t : String} {index : Nat} {a : Addr} {v : Value} (d : D b pc (.getfield index) 3 nx) (w : (Cond.fieldLink own index R0 n t).before E.a E.Z = true) (via : Via E.Z R0 O n t) (Fl : Fld E.Z h a O n t v)
    (hr : ∀ (T' : State), Wk E x T' h F cs ss → G E x T' (fr x nx Ls (v :: st))) : G E x T (fr x pc Ls (.ref a :: st)) := by
  obtain ⟨d1, rfl⟩ := d
  obtain ⟨vm, L, X, e, hZ, hown, cl, -⟩ := W.open B
  obtain ⟨T', X', e', stp⟩ := getF X B.2.2.2.2.2.2.1 hZ hown (host := "") (Or.inl w) via e Fl (g := fr x pc Ls (.ref a :: st)) rfl rfl (by rw [B.1]; exact d1)
  exact G.of stp (hr T' (cl T' h _ _ X' e' ⟨Nat.le_refl _, fun _ _ q => q⟩).1)
theorem w_getFN (W : Wk E x T h F cs ss) (B : Is x own b ml R ret nm) {R0 O n t host : String} {index : Nat} {a : Addr} {v : Value} (d : D b pc (.getfield index) 3 nx) (w : (Cond.fieldLinkNest own index R0 n t host).before E.a E.Z = true) (via : Via E.Z R0 O n t) (Fl : Fld E.Z h a O n t v)
    (hr : ∀ (T' : State), Wk E x T' h F cs ss → G E x T' (fr x nx Ls (v :: st))) : G E x T (fr x pc Ls (.ref a :: st)) := by
  obtain ⟨d1, rfl⟩ := d
  obtain ⟨vm, L, X, e, hZ, hown, cl, -⟩ := W.open B
  obtain ⟨T', X', e', stp⟩ := getF X B.2.2.2.2.2.2.1 hZ hown (Or.inr w) via e Fl (g := fr x pc Ls (.ref a :: st)) rfl rfl (by rw [B.1]; exact d1)
  exact G.of stp (hr T' (cl T' h _ _ X' e' ⟨Nat.le_refl _, fun _ _ q => q⟩).1)
theorem w_getS (W : Wk E x T h F cs ss) (B : Is x own b ml R ret nm) {R0 O n t : String} {index : Nat} {v : Value} (d : D b pc (.getstatic index) 3 nx) (w : (Cond.fieldLink own index R0 n t).before E.a E.Z = true) (via : Via E.Z R0 O n t) (Fl : Sta E.Z E.Z.heap O n t v)
    (hr : ∀ (T' : State), Wk E x T' h F cs ss → G E x T' (fr x nx Ls (v :: st))) : G E x T (fr x pc Ls st) := by
  obtain ⟨d1, rfl⟩ := d
  have Ol := W.old
  obtain ⟨vm, L, X, e, hZ, hown, cl, -⟩ := W.open B
  obtain ⟨T', X', e', stp⟩ := getS X B.2.2.2.2.2.2.1 hZ hown (host := "") w via e (Fl.ext Ol) (g := fr x pc Ls st) rfl (by rw [B.1]; exact d1)
  exact G.of stp (hr T' (cl T' h _ _ X' e' ⟨Nat.le_refl _, fun _ _ q => q⟩).1)
theorem w_putF (W : Wk E x T h F cs ss) (B : Is x own b ml R ret nm) {R0 O n t C : String} {index kk : Nat} {ty : FieldType} {a : Addr} {v v' old : Value} (d : D b pc (.putfield index) 3 nx) (hF : a ∈ F) (w : (Cond.fieldLink own index R0 n t).before E.a E.Z = true) (via : Via E.Z R0 O n t) (Fl : Fld E.Z h a O n t old) (Ex : Exa E.Z h a C)
    (Ly : (Cond.lays C O n t).before E.a E.Z = true ∨ ((Cond.laysFinal C O n t).before E.a E.Z = true ∧ own = O ∧ nm = "<init>")) (wi : (Cond.instantiable C kk).before E.a E.Z = true) (hty : parseFieldDescriptor t = some ty) (hn : narrow ty v = v') (hf : fits ty v' = true)
    (hr : ∀ (T' : State) (h' : Heap), Wk E x T' h' F cs ss → Wr h h' a (Jvm.RoadKit.slotOf E.Z O n t) v' → Fld E.Z h' a O n t v' → G E x T' (fr x nx Ls st)) : G E x T (fr x pc Ls (v :: .ref a :: st)) := by
  obtain ⟨d1, rfl⟩ := d
  obtain ⟨vm, L, X, e, hZ, hown, -, cl⟩ := W.open B
  obtain ⟨T', h', X', e', Wr', stp⟩ := putFN X B.2.2.2.2.2.2.1 hZ hown w via e Fl Ex (Ly.imp id fun q => ⟨q.1, q.2.1, B.2.2.2.2.1.trans q.2.2⟩) wi hty hn hf (g := fr x pc Ls (v :: .ref a :: st)) rfl rfl (by rw [B.1]; exact d1)
  exact G.of stp (hr T' h' (cl a _ _ T' h' hF X' e' Wr') Wr' (Fl.same Wr'))
theorem w_castY (W : Wk E x T h F cs ss) (B : Is x own b ml R ret nm) {K : String} {index : Nat} {a : Addr} (d : D b pc (.checkcast index) 3 nx) (w : (Cond.classLink own index K).before E.a E.Z = true) (I : Ins E.Z h a K true)
    (hr : ∀ (T' : State), Wk E x T' h F cs ss → G E x T' (fr x nx Ls (.ref a :: st))) : G E x T (fr x pc Ls (.ref a :: st)) := by
  obtain ⟨d1, rfl⟩ := d
  obtain ⟨vm, L, X, e, hZ, hown, cl, -⟩ := W.open B
  obtain ⟨T', X', e', stp⟩ := castY X B.2.2.2.2.2.2.1 hZ hown w e I (g := fr x pc Ls (.ref a :: st)) rfl rfl (by rw [B.1]; exact d1)
  exact G.of stp (hr T' (cl T' h _ _ X' e' ⟨Nat.le_refl _, fun _ _ q => q⟩).1)
theorem w_castNull (W : Wk E x T h F cs ss) (B : Is x own b ml R ret nm) {index : Nat} (d : D b pc (.checkcast index) 3 nx) (hr : G E x T (fr x nx Ls (.null :: st))) : G E x T (fr x pc Ls (.null :: st)) := by
  obtain ⟨d1, rfl⟩ := d
  obtain ⟨vm, L, X, e, hZ, hown, cl, -⟩ := W.open B
  exact G.of (fun t r => X.checkcastNull B.2.2.2.2.2.2.1 (g := fr x pc Ls (.null :: st)) rfl rfl (by rw [B.1]; exact d1) t r) hr
theorem w_instY (W : Wk E x T h F cs ss) (B : Is x own b ml R ret nm) {K : String} {index : Nat} {a : Addr} (d : D b pc (.instanceof index) 3 nx) (w : (Cond.classLink own index K).before E.a E.Z = true) (I : Ins E.Z h a K true)
    (hr : ∀ (T' : State), Wk E x T' h F cs ss → G E x T' (fr x nx Ls (.int 1 :: st))) : G E x T (fr x pc Ls (.ref a :: st)) := by
  obtain ⟨d1, rfl⟩ := d
  obtain ⟨vm, L, X, e, hZ, hown, cl, -⟩ := W.open B
  obtain ⟨T', X', e', stp⟩ := instY X B.2.2.2.2.2.2.1 hZ hown w e I (g := fr x pc Ls (.ref a :: st)) rfl rfl (by rw [B.1]; exact d1)
  exact G.of stp (hr T' (cl T' h _ _ X' e' ⟨Nat.le_refl _, fun _ _ q => q⟩).1)
theorem w_initO (W : Wk E x T h F cs ss) (B : Is x own b ml R ret nm) {index : Nat} {a : Addr} (d : D b pc (.invokespecial index) 3 nx) (w1 : (Cond.methodLink own index Lib.objectInit).before E.a E.Z = true) (w2 : (Cond.instanceMethod Lib.objectInit).before E.a E.Z = true) (w3 : (Cond.code Lib.objectInit ⟨#[0xb1]⟩ 1 none).before E.a E.Z = true)
    (hsz : Ls.size = ml) (hf : 1 ≤ R.frames) {Wt : Nat} (hW : (st.map fun v => v.category).sum ≤ Wt) (hl : Wt + 12 ≤ R.locals) (hr : ∀ (T' : State), Wk E x T' h F cs ss → G E x T' (fr x nx Ls st)) : G E x T (fr x pc Ls (.ref a :: st)) := by
  obtain ⟨d1, rfl⟩ := d
  obtain ⟨vm, L, X, e, hZ, hown, cl, -⟩ := W.open B
  obtain ⟨T', X', e', stp⟩ := initO X B.2.2.2.2.2.2.1 hZ hown w1 w2 w3 e (g := fr x pc Ls (.ref a :: st)) rfl (hsz.trans B.2.1.symm) rfl (by rw [B.1]; exact d1) (by rw [B.2.2.1]; exact hf) (W := Wt) (by show 2 * 0 + _ ≤ _; omega) (by rw [B.2.2.1]; exact hl)
  exact G.of stp (hr T' (cl T' h _ _ X' e' ⟨Nat.le_refl _, fun _ _ q => q⟩).1)
theorem w_arraylength (W : Wk E x T h F cs ss) (B : Is x own b ml R ret nm) {a : Addr} {k : ClassId} {ty : FieldType} {n : Int32} {vs : List Value} {dv : Value} (d : D b pc .arraylength 1 nx) (A : Arv E.Z h a k ty n vs dv) (hr : G E x T (fr x nx Ls (.int n :: st))) : G E x T (fr x pc Ls (.ref a :: st)) := by
  obtain ⟨d1, rfl⟩ := d
  obtain ⟨vm, L, X, e, hZ, hown, -, -⟩ := W.open B
  obtain ⟨c, A, -, S, N, -, -⟩ := A
  refine G.of (fun t r => X.arraylength B.2.2.2.2.2.2.1 (by rw [e]; exact A.1) (State.isArrayOf_alike hZ.alike A.2.1) (g := fr x pc Ls (.ref a :: st)) rfl rfl (by rw [B.1]; exact d1) t ?_) hr
  rw [len_of S N]; exact r
theorem arv_at {Z : State} {h : Heap} {a : Addr} {k : ClassId} {ty : FieldType} {n : Int32} {vs : List Value} {dv : Value} {c : Cell} {j : Int32} {v : Value} (S : c.slots.size = n.toNatClampNeg) (H : Has c vs dv) (hj : ¬ j < 0 ∧ j < n) (hv : vs.getD j.toNatClampNeg dv = v) : ¬ (j < 0 ∨ c.slots.size ≤ j.toNatClampNeg) ∧ c.slots[j.toNatClampNeg]? = some v :=
  ⟨inb_of S hj, Has.at H (inb_of S hj) hv⟩
theorem w_caload (W : Wk E x T h F cs ss) (B : Is x own b ml R ret nm) {a : Addr} {k : ClassId} {n j : Int32} {vs : List Value} {dv v : Value} (d : D b pc .caload 1 nx) (A : Arv E.Z h a k .char n vs dv) (hj : ¬ j < 0 ∧ j < n) (hv : vs.getD j.toNatClampNeg dv = v) (hr : G E x T (fr x nx Ls (v :: st))) : G E x T (fr x pc Ls (.int j :: .ref a :: st)) := by
  obtain ⟨d1, rfl⟩ := d
  obtain ⟨vm, L, X, e, hZ, hown, -, -⟩ := W.open B
  obtain ⟨c, A, -, S, N, H, -⟩ := A
  exact G.of (fun t r => X.caload B.2.2.2.2.2.2.1 (by rw [e]; exact A.1) (State.isArrayOf_alike hZ.alike A.2.1) A.2.2 (inb_of S hj) (Has.at H (inb_of S hj) hv) (g := fr x pc Ls (.int j :: .ref a :: st)) rfl rfl (by rw [B.1]; exact d1) t r) hr
theorem w_baload (W : Wk E x T h F cs ss) (B : Is x own b ml R ret nm) {a : Addr} {k : ClassId} {n j : Int32} {vs : List Value} {dv v : Value} (d : D b pc .baload 1 nx) (A : Arv E.Z h a k .byte n vs dv) (hj : ¬ j < 0 ∧ j < n) (hv : vs.getD j.toNatClampNeg dv = v) (hr : G E x T (fr x nx Ls (v :: st))) : G E x T (fr x pc Ls (.int j :: .ref a :: st)) := by
  obtain ⟨d1, rfl⟩ := d
  obtain ⟨vm, L, X, e, hZ, hown, -, -⟩ := W.open B
  obtain ⟨c, A, -, S, N, H, -⟩ := A
  exact G.of (fun t r => X.baloadBytes B.2.2.2.2.2.2.1 (by rw [e]; exact A.1) (State.isArrayOf_alike hZ.alike A.2.1) A.2.2 (inb_of S hj) (Has.at H (inb_of S hj) hv) (g := fr x pc Ls (.int j :: .ref a :: st)) rfl rfl (by rw [B.1]; exact d1) t r) hr
theorem w_iaload (W : Wk E x T h F cs ss) (B : Is x own b ml R ret nm) {a : Addr} {k : ClassId} {n j : Int32} {vs : List Value} {dv v : Value} (d : D b pc .iaload 1 nx) (A : Arv E.Z h a k .int n vs dv) (hj : ¬ j < 0 ∧ j < n) (hv : vs.getD j.toNatClampNeg dv = v) (hr : G E x T (fr x nx Ls (v :: st))) : G E x T (fr x pc Ls (.int j :: .ref a :: st)) := by
  obtain ⟨d1, rfl⟩ := d
  obtain ⟨vm, L, X, e, hZ, hown, -, -⟩ := W.open B
  obtain ⟨c, A, -, S, N, H, -⟩ := A
  exact G.of (fun t r => X.iaload B.2.2.2.2.2.2.1 (by rw [e]; exact A.1) (State.isArrayOf_alike hZ.alike A.2.1) A.2.2 (inb_of S hj) (Has.at H (inb_of S hj) hv) (g := fr x pc Ls (.int j :: .ref a :: st)) rfl rfl (by rw [B.1]; exact d1) t r) hr
theorem w_laload (W : Wk E x T h F cs ss) (B : Is x own b ml R ret nm) {a : Addr} {k : ClassId} {n j : Int32} {vs : List Value} {dv v : Value} (d : D b pc .laload 1 nx) (A : Arv E.Z h a k .long n vs dv) (hj : ¬ j < 0 ∧ j < n) (hv : vs.getD j.toNatClampNeg dv = v) (hr : G E x T (fr x nx Ls (v :: st))) : G E x T (fr x pc Ls (.int j :: .ref a :: st)) := by
  obtain ⟨d1, rfl⟩ := d
  obtain ⟨vm, L, X, e, hZ, hown, -, -⟩ := W.open B
  obtain ⟨c, A, -, S, N, H, -⟩ := A
  exact G.of (fun t r => X.laload B.2.2.2.2.2.2.1 (by rw [e]; exact A.1) (State.isArrayOf_alike hZ.alike A.2.1) A.2.2 (inb_of S hj) (Has.at H (inb_of S hj) hv) (g := fr x pc Ls (.int j :: .ref a :: st)) rfl rfl (by rw [B.1]; exact d1) t r) hr
theorem w_aaload (W : Wk E x T h F cs ss) (B : Is x own b ml R ret nm) {a : Addr} {k : ClassId} {ty : FieldType} {n j : Int32} {vs : List Value} {dv v : Value} (d : D b pc .aaload 1 nx) (hty : ty.isReference = true) (A : Arv E.Z h a k ty n vs dv) (hj : ¬ j < 0 ∧ j < n) (hv : vs.getD j.toNatClampNeg dv = v) (hr : G E x T (fr x nx Ls (v :: st))) : G E x T (fr x pc Ls (.int j :: .ref a :: st)) := by
  obtain ⟨d1, rfl⟩ := d
  obtain ⟨vm, L, X, e, hZ, hown, -, -⟩ := W.open B
  obtain ⟨c, A, -, S, N, H, -⟩ := A
  exact G.of (fun t r => X.aaload B.2.2.2.2.2.2.1 (by rw [e]; exact A.1) (State.isArrayOf_alike hZ.alike A.2.1) hty A.2.2 (inb_of S hj) (Has.at H (inb_of S hj) hv) (g := fr x pc Ls (.int j :: .ref a :: st)) rfl rfl (by rw [B.1]; exact d1) t r) hr
theorem w_castore (W : Wk E x T h F cs ss) (B : Is x own b ml R ret nm) {a : Addr} {k : ClassId} {n j v u : Int32} {vs : List Value} {dv : Value} (d : D b pc .castore 1 nx) (hF : a ∈ F) (A : Arv E.Z h a k .char n vs dv) (hj : ¬ j < 0 ∧ j < n) {i : Nat} (hi : j.toNatClampNeg = i) (hl : i < vs.length) (hu : nar .char v = u)
    (hr : ∀ (T' : State) (h' : Heap), Wk E x T' h' F cs ss → Keep h h' [a] → Arv E.Z h' a k .char n (vs.set i (.int u)) dv → G E x T' (fr x nx Ls st)) : G E x T (fr x pc Ls (.int v :: .int j :: .ref a :: st)) := by
  obtain ⟨d1, rfl⟩ := d
  subst hu
  obtain ⟨vm, L, X, e, hZ, hown, -, cl⟩ := W.open B
  obtain ⟨c, A, q, S, N, H, Gf⟩ := A
  obtain ⟨T', h', X', e', Wr', stp⟩ := stC X B.2.2.2.2.2.2.1 hZ e A (inb_of S hj) (g := fr x pc Ls (.int v :: .int j :: .ref a :: st)) rfl rfl (by rw [B.1]; exact d1)
  exact G.of stp (hr T' h' (cl a _ _ T' h' hF X' e' Wr') (Keep.of_wr Wr') (Arv.set A q S N H Gf (fits_nar_char _) Wr' i hi hl))
theorem w_bastore (W : Wk E x T h F cs ss) (B : Is x own b ml R ret nm) {a : Addr} {k : ClassId} {n j v u : Int32} {vs : List Value} {dv : Value} (d : D b pc .bastore 1 nx) (hF : a ∈ F) (A : Arv E.Z h a k .byte n vs dv) (hj : ¬ j < 0 ∧ j < n) {i : Nat} (hi : j.toNatClampNeg = i) (hl : i < vs.length) (hu : nar .byte v = u)
    (hr : ∀ (T' : State) (h' : Heap), Wk E x T' h' F cs ss → Keep h h' [a] → Arv E.Z h' a k .byte n (vs.set i (.int u)) dv → G E x T' (fr x nx Ls st)) : G E x T (fr x pc Ls (.int v :: .int j :: .ref a :: st)) := by
  obtain ⟨d1, rfl⟩ := d
  subst hu
  obtain ⟨vm, L, X, e, hZ, hown, -, cl⟩ := W.open B
  obtain ⟨c, A, q, S, N, H, Gf⟩ := A
  obtain ⟨T', h', X', e', Wr', stp⟩ := stB X B.2.2.2.2.2.2.1 hZ e A (inb_of S hj) (g := fr x pc Ls (.int v :: .int j :: .ref a :: st)) rfl rfl (by rw [B.1]; exact d1)
  exact G.of stp (hr T' h' (cl a _ _ T' h' hF X' e' Wr') (Keep.of_wr Wr') (Arv.set A q S N H Gf (fits_nar_byte _) Wr' i hi hl))
theorem w_iastore (W : Wk E x T h F cs ss) (B : Is x own b ml R ret nm) {a : Addr} {k : ClassId} {n j v : Int32} {vs : List Value} {dv : Value} (d : D b pc .iastore 1 nx) (hF : a ∈ F) (A : Arv E.Z h a k .int n vs dv) (hj : ¬ j < 0 ∧ j < n) {i : Nat} (hi : j.toNatClampNeg = i) (hl : i < vs.length)
    (hr : ∀ (T' : State) (h' : Heap), Wk E x T' h' F cs ss → Keep h h' [a] → Arv E.Z h' a k .int n (vs.set i (.int v)) dv → G E x T' (fr x nx Ls st)) : G E x T (fr x pc Ls (.int v :: .int j :: .ref a :: st)) := by
  obtain ⟨d1, rfl⟩ := d
  obtain ⟨vm, L, X, e, hZ, hown, -, cl⟩ := W.open B
  obtain ⟨c, A, q, S, N, H, Gf⟩ := A
  obtain ⟨T', h', X', e', Wr', stp⟩ := stI X B.2.2.2.2.2.2.1 hZ e A (inb_of S hj) (g := fr x pc Ls (.int v :: .int j :: .ref a :: st)) rfl rfl (by rw [B.1]; exact d1)
  exact G.of stp (hr T' h' (cl a _ _ T' h' hF X' e' Wr') (Keep.of_wr Wr') (Arv.set A q S N H Gf rfl Wr' i hi hl))
theorem w_lastore (W : Wk E x T h F cs ss) (B : Is x own b ml R ret nm) {a : Addr} {k : ClassId} {n j : Int32} {v : Int64} {vs : List Value} {dv : Value} (d : D b pc .lastore 1 nx) (hF : a ∈ F) (A : Arv E.Z h a k .long n vs dv) (hj : ¬ j < 0 ∧ j < n) {i : Nat} (hi : j.toNatClampNeg = i) (hl : i < vs.length)
    (hr : ∀ (T' : State) (h' : Heap), Wk E x T' h' F cs ss → Keep h h' [a] → Arv E.Z h' a k .long n (vs.set i (.long v)) dv → G E x T' (fr x nx Ls st)) : G E x T (fr x pc Ls (.long v :: .int j :: .ref a :: st)) := by
  obtain ⟨d1, rfl⟩ := d
  obtain ⟨vm, L, X, e, hZ, hown, -, cl⟩ := W.open B
  obtain ⟨c, A, q, S, N, H, Gf⟩ := A
  obtain ⟨T', h', X', e', Wr', stp⟩ := stJ X B.2.2.2.2.2.2.1 hZ e A (inb_of S hj) (g := fr x pc Ls (.long v :: .int j :: .ref a :: st)) rfl rfl (by rw [B.1]; exact d1)
  exact G.of stp (hr T' h' (cl a _ _ T' h' hF X' e' Wr') (Keep.of_wr Wr') (Arv.set A q S N H Gf rfl Wr' i hi hl))
theorem fits_isRef {ty : FieldType} (hty : ty.isReference = true) {v : Value} (hv : v.isRef = true) : fits ty v = true := by
  cases ty <;> simp [FieldType.isReference] at hty <;> rcases ref_cases hv with rfl | ⟨a, rfl⟩ <;> rfl
theorem w_aastore (W : Wk E x T h F cs ss) (B : Is x own b ml R ret nm) {a : Addr} {k : ClassId} {ty : FieldType} {n j : Int32} {v : Value} {vs : List Value} {dv : Value} (d : D b pc .aastore 1 nx) (hF : a ∈ F) (hty : ty.isReference = true) (A : Arv E.Z h a k ty n vs dv) (hj : ¬ j < 0 ∧ j < n) {i : Nat} (hi : j.toNatClampNeg = i) (hl : i < vs.length) (hv : v.isRef = true) (Sv : Sto E.Z h a v)
    (hr : ∀ (T' : State) (h' : Heap), Wk E x T' h' F cs ss → Keep h h' [a] → Arv E.Z h' a k ty n (vs.set i v) dv → G E x T' (fr x nx Ls st)) : G E x T (fr x pc Ls (v :: .int j :: .ref a :: st)) := by
  obtain ⟨d1, rfl⟩ := d
  obtain ⟨vm, L, X, e, hZ, hown, -, cl⟩ := W.open B
  obtain ⟨c, A, q, S, N, H, Gf⟩ := A
  obtain ⟨T', h', X', e', Wr', stp⟩ := stR X B.2.2.2.2.2.2.1 hZ e A (inb_of S hj) hty Sv (g := fr x pc Ls (v :: .int j :: .ref a :: st)) rfl rfl (by rw [B.1]; exact d1)
  exact G.of stp (hr T' h' (cl a _ _ T' h' hF X' e' Wr') (Keep.of_wr Wr') (Arv.set A q S N H Gf (fits_isRef hty hv) Wr' i hi hl))
theorem w_ldcI (W : Wk E x T h F cs ss) (B : Is x own b ml R ret nm) {index : Nat} {v : Int32} (d : D b pc (.ldc index) 2 nx) (w : (Cond.constant own index v).before E.a E.Z = true) (hr : G E x T (fr x nx Ls (.int v :: st))) : G E x T (fr x pc Ls st) := by
  obtain ⟨d1, rfl⟩ := d
  obtain ⟨vm, L, X, e, hZ, hown, -, -⟩ := W.open B
  exact G.of (fun t r => X.ldcI B.2.2.2.2.2.2.1 hown (mv hZ w) (g := fr x pc Ls st) rfl (by rw [B.1]; exact d1) r) hr
theorem w_ldcWI (W : Wk E x T h F cs ss) (B : Is x own b ml R ret nm) {index : Nat} {v : Int32} (d : D b pc (.ldc_w index) 3 nx) (w : (Cond.constant own index v).before E.a E.Z = true) (hr : G E x T (fr x nx Ls (.int v :: st))) : G E x T (fr x pc Ls st) := by
  obtain ⟨d1, rfl⟩ := d
  obtain ⟨vm, L, X, e, hZ, hown, -, -⟩ := W.open B
  exact G.of (fun t r => X.ldcWI B.2.2.2.2.2.2.1 hown (mv hZ w) (g := fr x pc Ls st) rfl (by rw [B.1]; exact d1) r) hr
theorem w_ldc2J (W : Wk E x T h F cs ss) (B : Is x own b ml R ret nm) {index : Nat} {v : Int64} (d : D b pc (.ldc2_w index) 3 nx) (w : (Cond.constantLong own index v).before E.a E.Z = true) (hr : G E x T (fr x nx Ls (.long v :: st))) : G E x T (fr x pc Ls st) := by
  obtain ⟨d1, rfl⟩ := d
  obtain ⟨vm, L, X, e, hZ, hown, -, -⟩ := W.open B
  exact G.of (fun t r => X.ldc2J B.2.2.2.2.2.2.1 hown (mv hZ w) (g := fr x pc Ls st) rfl (by rw [B.1]; exact d1) r) hr
end StepsC
end Jvm.Own
namespace Jvm.Own
open Sem ClassFile Op Lib Bundle Jvm.Stand Jvm.Free Jvm.LawKit Jvm.RoadKit
section StepsD
variable {E : Gl} {x : Cx} {T : State} {h : Heap} {F : List Addr} {cs ss : Nat} {own : String} {b : ByteArray} {ml : Nat} {R : Room} {ret : Option FieldType} {nm : String} {pc nx tg : Nat} {o : Int} {Ls Ls' : Array Slot} {st stk : List Value}
/-- the end of a walk -/
theorem fin_of (W : Wk E x T h F cs ss) (B : Is x own b ml R ret nm) {v : Option Value} {F' : List Addr} {Q : Option Value → Heap → List Addr → Prop} (hQ : x.Q = Q) (q : Q v h F') (hF' : ∀ y ∈ F', y ∈ F) (hc : cs ≤ R.cells) (hs : ss ≤ R.slots) (hv : ret = none → v = none) {g : JFrame}
    (stp : ∀ (vm : Vm) (L : List Loc) (fs : List Frame), Stand x.p E.l x.e x.R (x.s.setVm vm) x.m x.args x.below x.meth x.c T L cs ss → (∀ (f : JFrame) (acts : List Action), f.method = x.m → f.locked = none → f.entered = [] → (doReturn x.e (T.setTop f) acts v).1 = T.setFrames fs) → Steps x.p.tables x.e x.below (T.setTop g) (T.setFrames fs)) : G E x T g := by
  obtain ⟨vm, k, L, X, h1, h2, h3, h4, h5, h6, h7, h8, h9, h10⟩ := W
  obtain ⟨fs, hr, hrun, hended, hW, hsame⟩ := X.leave (v := v) (fun q => hv (B.2.2.2.1.symm.trans q)) B.2.2.2.2.2.1
  have c : CHr E.Z E.K vm h T.vm h := CHv.at X h5 h10.1 h8.1
  refine ⟨T.setFrames fs, _, stp vm L fs X hr, hrun, hended, v, L, F', rfl, ?_, h6, ?_, ?_, ?_, ?_⟩
  · rw [hQ]; show Q v T.heap F'; rw [h1]; exact q
  · show Old E.Z E.n T.heap; rw [h1]; exact h7
  · show FOk E T.vm T.heap F'; rw [h1]
    exact fun y hy => ⟨(h9 y (hF' y hy)).1, (h9 y (hF' y hy)).2.1, c.safe (h9 y (hF' y hy)).2.1 (h9 y (hF' y hy)).2.2⟩
  · show CHr E.Z E.K x.s.vm x.s.heap T.vm T.heap; rw [h1]; exact h8.trans c
  · have hc' : cs ≤ x.R.cells := by rw [B.2.2.1]; exact hc
    have hs' : ss ≤ x.R.slots := by rw [B.2.2.1]; exact hs
    show EndF E.w _ _ _ _ _ _
    cases hw : E.w with
    | true =>
      obtain ⟨a1, a2, a3⟩ := h2.ended (U := T.setFrames fs) hW (by show k ≤ T.heap.size; rw [h1]; exact h3) hsame
      exact ⟨⟨v, rfl⟩, a1, a2, a3.mono hc' hs'⟩
    | false =>
      have e := h4 hw
      subst e
      exact ⟨⟨v, rfl⟩, hW, hsame.mono hc' hs'⟩
theorem w_ireturn (W : Wk E x T h F cs ss) (B : Is x own b ml R (some .int) nm) {v : Int32} {F' : List Addr} {Q : Option Value → Heap → List Addr → Prop} (d : D b pc .ireturn 1 nx) (hQ : x.Q = Q) (hc : cs ≤ R.cells) (hs : ss ≤ R.slots) (hF' : ∀ y ∈ F', y ∈ F) (q : Q (some (.int v)) h F') : G E x T (fr x pc Ls (.int v :: st)) :=
  fin_of W B hQ q hF' hc hs (fun q => nomatch q) fun _ _ _ X hr => retOut X B.2.2.2.2.2.2.1 B.2.2.2.1 rfl (Or.inl ⟨rfl, Or.inl rfl, _, rfl⟩) (by rw [B.1]; exact d.1) hr
theorem w_ireturnN (W : Wk E x T h F cs ss) {t : FieldType} (B : Is x own b ml R (some t) nm) {v u : Int32} {F' : List Addr} {Q : Option Value → Heap → List Addr → Prop} (d : D b pc .ireturn 1 nx) (ht : t = .boolean ∨ t = .byte ∨ t = .char ∨ t = .short) (hu : nar t v = u) (hQ : x.Q = Q) (hc : cs ≤ R.cells) (hs : ss ≤ R.slots) (hF' : ∀ y ∈ F', y ∈ F) (q : Q (some (.int u)) h F') : G E x T (fr x pc Ls (.int v :: st)) := by
  subst hu
  exact fin_of W B hQ q hF' hc hs (fun q => nomatch q) fun _ _ _ X hr => retN X B.2.2.2.2.2.2.1 B.2.2.2.1 ht (by rw [B.1]; exact d.1) hr
theorem w_lreturn (W : Wk E x T h F cs ss) (B : Is x own b ml R (some .long) nm) {v : Int64} {F' : List Addr} {Q : Option Value → Heap → List Addr → Prop} (d : D b pc .lreturn 1 nx) (hQ : x.Q = Q) (hc : cs ≤ R.cells) (hs : ss ≤ R.slots) (hF' : ∀ y ∈ F', y ∈ F) (q : Q (some (.long v)) h F') : G E x T (fr x pc Ls (.long v :: st)) :=
  fin_of W B hQ q hF' hc hs (fun q => nomatch q) fun _ _ _ X hr => retOut X B.2.2.2.2.2.2.1 B.2.2.2.1 rfl (Or.inr (Or.inl ⟨rfl, rfl, _, rfl⟩)) (by rw [B.1]; exact d.1) hr
theorem w_areturn (W : Wk E x T h F cs ss) {t : FieldType} (B : Is x own b ml R (some t) nm) {v : Value} {F' : List Addr} {Q : Option Value → Heap → List Addr → Prop} (d : D b pc .areturn 1 nx) (ht : t.isReference = true) (hv : v.isRef = true) (hQ : x.Q = Q) (hc : cs ≤ R.cells) (hs : ss ≤ R.slots) (hF' : ∀ y ∈ F', y ∈ F) (q : Q (some v) h F') : G E x T (fr x pc Ls (v :: st)) := by
  have hn : narrow t v = v := by
    rcases ref_cases hv with rfl | ⟨a, rfl⟩ <;> cases t <;> simp [FieldType.isReference] at ht <;> rfl
  exact fin_of W B hQ q hF' hc hs (fun q => nomatch q) fun _ _ _ X hr => retOut X B.2.2.2.2.2.2.1 B.2.2.2.1 hn (Or.inr (Or.inr (Or.inr (Or.inr ⟨rfl, ht, hv⟩)))) (by rw [B.1]; exact d.1) hr
theorem w_return (W : Wk E x T h F cs ss) (B : Is x own b ml R none nm) {F' : List Addr} {Q : Option Value → Heap → List Addr → Prop} (d : D b pc .return_ 1 nx) (hQ : x.Q = Q) (hc : cs ≤ R.cells) (hs : ss ≤ R.slots) (hF' : ∀ y ∈ F', y ∈ F) (q : Q none h F') : G E x T (fr x pc Ls []) :=
  fin_of W B hQ q hF' hc hs (fun _ => rfl) fun _ _ _ X hr => X.returnOut B.2.2.2.2.2.2.1 B.2.2.2.1 (by rw [B.1]; exact d.1) hr
/-- a String constant of those held -/
theorem w_ldcS (W : Wk E x T h F cs ss) (B : Is x own b ml R ret nm) {index n : Nat} {text : String} {vs : List Value} {z : Int32} (d : D b pc (.ldc index) 2 nx) (hw : E.w = true) (hmem : (own, index) ∈ E.K) (w : (Cond.stringLink own index text).before E.a E.Z = true) (wS : ∀ c ∈ Bundle.stringAtoms, c.before E.a E.Z = true)
    (ht : (∀ c ∈ text.toList, c.toNat < 256) ∧ text.toList.map (fun c => Value.int (Jvm.Lit.byteI c.toNat.toUInt16)) = vs) (hz : ¬ z < 0) (hl : z.toNatClampNeg = vs.length) (hn : 4 * text.toList.length ≤ n) (hbig : n ≤ 536870912) (hc : cs + 2 ≤ R.cells) (hs : ss + (n + 4) ≤ R.slots)
    (hr : ∀ (T' : State) (h' : Heap) (a v : Addr) (k : ClassId), Wk E x T' h' F (cs + 2) (ss + (n + 4)) → Ext h h' → Exa E.Z h' a "java/lang/String" → Fld E.Z h' a "java/lang/String" "coder" "B" (.int 0) → Fld E.Z h' a "java/lang/String" "value" "[B" (.ref v) → Arv E.Z h' v k .byte z vs (.int 0) → (∀ y ∈ F, y ≠ a ∧ y ≠ v) → G E x T' (fr x nx Ls (.ref a :: st))) : G E x T (fr x pc Ls st) := by
  obtain ⟨d1, rfl⟩ := d
  obtain ⟨vm, k, L, X, h1, h2, h3, h4, h5, h6, h7, h8, h9, h10⟩ := W
  have hown : vm.findClass own = some x.m.cls := by rw [h2.1.alike.findClass]; exact B.2.2.2.2.2.2.2
  obtain ⟨a, T', h', k1, v, kv, X', e', Ex, S', hk1, hZ', hown', A, C, V, K, la, lb, cr, -, sf, stp⟩ := ldcCH X B.2.2.2.2.2.2.1 h5 hown w wS h1 h2 h3 h10.1 hmem h8.1 ht hz hl (g := fr x pc Ls st) rfl (by rw [B.1]; exact d1) hn hbig (by rw [B.2.2.1]; exact hc) (by rw [B.2.2.1]; exact hs)
  have f1 : FOk E T'.vm h' F := fun y hy => ⟨(h9 y hy).1, Nat.lt_of_lt_of_le (h9 y hy).2.1 Ex.1, cr.safe (h9 y hy).2.1 (h9 y hy).2.2⟩
  exact G.of stp (hr T' h' a v kv ⟨T'.vm, k1, L, X', e', S', hk1, fun q => (Bool.noConfusion (hw.symm.trans q)), hZ', h6, h7.ext Ex, h8.trans cr, f1, h10⟩ Ex A C V K fun y hy => sf y (f1 y hy).2.2)
/-- a String constant of which nothing is said but that a reference is pushed -/
theorem w_ldcO (W : Wk E x T h F cs ss) (B : Is x own b ml R ret nm) {index n : Nat} {text : String} (d : D b pc (.ldc index) 2 nx) (hw : E.w = true) (w : (Cond.stringLink own index text).before E.a E.Z = true) (wS : ∀ c ∈ Bundle.stringAtoms, c.before E.a E.Z = true)
    (hn : 4 * text.toList.length ≤ n) (hbig : n ≤ 536870912) (hc : cs + 2 ≤ R.cells) (hs : ss + (n + 4) ≤ R.slots)
    (hr : ∀ (T' : State) (h' : Heap) (a : Addr), Wk E x T' h' F (cs + 2) (ss + (n + 4)) → Ext h h' → G E x T' (fr x nx Ls (.ref a :: st))) : G E x T (fr x pc Ls st) := by
  obtain ⟨d1, rfl⟩ := d
  obtain ⟨vm, k, L, X, h1, h2, h3, h4, h5, h6, h7, h8, h9, h10⟩ := W
  have hown : vm.findClass own = some x.m.cls := by rw [h2.1.alike.findClass]; exact B.2.2.2.2.2.2.2
  obtain ⟨a, T', h', k1, X', e', Ex, S', hk1, hZ', hown', cr, -, stp⟩ := ldcOH X B.2.2.2.2.2.2.1 h5 hown w wS h1 h2 h3 h10.1 h8.1 (g := fr x pc Ls st) rfl (by rw [B.1]; exact d1) hn hbig (by rw [B.2.2.1]; exact hc) (by rw [B.2.2.1]; exact hs)
  have f1 : FOk E T'.vm h' F := fun y hy => ⟨(h9 y hy).1, Nat.lt_of_lt_of_le (h9 y hy).2.1 Ex.1, cr.safe (h9 y hy).2.1 (h9 y hy).2.2⟩
  exact G.of stp (hr T' h' a ⟨T'.vm, k1, L, X', e', S', hk1, fun q => (Bool.noConfusion (hw.symm.trans q)), hZ', h6, h7.ext Ex, h8.trans cr, f1, h10⟩ Ex)
end StepsD
/-! calls: what a contract leaves, said at a point of the caller's walk -/
def PreC (R rm : Room) (as' : Array Value) (h : Heap) (A : Pt) (a : Array Value) : Prop := a = as' ∧ A.U.heap = h ∧ A.cells + rm.cells ≤ R.cells ∧ A.slots + rm.slots ≤ R.slots
def PostC (E : Gl) (vm : Vm) (h : Heap) (rm : Room) (Q : Option Value → Heap → List Addr → Prop) (A : Pt) (_ : Array Value) (v : Option Value) (B : Pt) : Prop :=
  ∃ (L : List Loc) (F' : List Addr), Q v B.U.heap F' ∧ Fr E.n L ∧ Old E.Z E.n B.U.heap ∧ FOk E B.U.vm B.U.heap F' ∧ CHr E.Z E.K vm h B.U.vm B.U.heap ∧ B.locs = A.locs ++ L ∧ B.cells = A.cells + rm.cells ∧ B.slots = A.slots + rm.slots
section Pay
variable {E : Gl} {p : Program} {e : Env} {R rm : Room} {s : State} {args as' : Array Value} {below : List Frame} {vm : Vm} {h : Heap} {F : List Addr} {y : MethodName} {bytes : ByteArray} {maxL : Nat} {ret : Option FieldType} {Q : Option Value → Heap → List Addr → Prop} {len W : Nat}
theorem fok_at {m : MethodId} {meth : Method} {c : Code} {A : Pt} (Y : Stand p E.l e R (s.setVm vm) m args below meth c A.U A.locs A.cells A.slots) (hZ : E.Z.Warmed39 vm) (hE : EW E.Z E.a E.K) (H : CHv E.Z E.K vm h) (hF : FOk E vm h F) : CHr E.Z E.K vm h A.U.vm h ∧ FOk E A.U.vm h F := by
  have c := CHv.at Y hZ hE H
  exact ⟨c, fun z hz => ⟨(hF z hz).1, (hF z hz).2.1, c.safe (hF z hz).2.1 (hF z hz).2.2⟩⟩
theorem payS (hw : E.w = true) (hM : Met E y bytes maxL ret rm as' h F Q) (hZ : E.Z.Warmed39 vm) (hO : Old E.Z E.n h) (H : CHv E.Z E.K vm h) (hF : FOk E vm h F) (hE : GOk E)
    (wc : (Cond.code y bytes maxL ret).before E.a E.Z = true) (wz : (Cond.initialized y.cls).before E.a E.Z = true) (hf : rm.frames + 1 ≤ R.frames) (hl : W + (maxL + 11) + rm.locals ≤ R.locals) :
    BackS E.l R p e below (s.setVm vm) args y len W (PreC R rm as' h) (PostC E vm h rm Q) :=
  BackS.of_freeW (bytes := bytes) (maxL := maxL) (ret := ret)
    (E := fun _ first o t L k n => k = rm.cells ∧ n = rm.slots ∧ ∃ (v : Option Value) (F' : List Addr), o = .returned v ∧ Q v t.heap F' ∧ Fr E.n L ∧ Old E.Z E.n t.heap ∧ FOk E t.vm t.heap F' ∧ CHr E.Z E.K first.vm first.heap t.vm t.heap) hM hf hl
    (fun m meth c A a Y hp => have hU : E.Z.Warmed39 A.U.vm := wtrans (s := s.setVm vm) hZ Y.warmed
      ⟨by show (Cond.and _ .tt).before a A.U = true; rw [Cond.before_and, mv hU wc]; rfl, mv hU wc, mv hU wz, hp.2.2.1, hp.2.2.2⟩)
    (fun m meth c A a g mk Y hp => ⟨hp.1, wtrans (s := s.setVm vm) hZ Y.warmed, hp.2.1, hO, (fok_at Y hZ hE.1 H hF).1.1, (fok_at Y hZ hE.1 H hF).2, hE⟩) (fun _ _ _ _ _ _ _ _ _ => trivial)
    (fun _ _ _ _ ⟨v, L, F', h1, h2, h3, h4, h5, h6, h7⟩ => ⟨L, _, _, by have h7 : EndF E.w _ _ _ _ _ _ := h7; rw [hw] at h7; exact h7, rfl, rfl, v, F', h1, h2, h3, h4, h5, h6⟩)
    (fun m meth c A a g mk v t L k n Y hp _ _ ⟨e1, e2, v', F', e3, e4, e5, e6, e7, e8⟩ => by
      cases e3; subst e1 e2
      refine ⟨L, F', e4, e5, e6, e7, (fok_at Y hZ hE.1 H hF).1.trans ?_, rfl, rfl, rfl⟩
      rw [← hp.2.1]; exact e8)
theorem payN (hw : E.w = false) (hM : Met E y bytes maxL ret rm as' h F Q) (hZ : E.Z.Warmed39 vm) (hO : Old E.Z E.n h) (H : CHv E.Z E.K vm h) (hF : FOk E vm h F) (hE : GOk E)
    (wc : (Cond.code y bytes maxL ret).before E.a E.Z = true) (wz : (Cond.initialized y.cls).before E.a E.Z = true) (hf : rm.frames + 1 ≤ R.frames) (hl : W + (maxL + 11) + rm.locals ≤ R.locals) :
    Back E.l R p e below (s.setVm vm) args y len W (PreC R rm as' h) (PostC E vm h rm Q) :=
  Back.of_free (bytes := bytes) (maxL := maxL) (ret := ret)
    (E := fun _ first o t L k n => k = rm.cells ∧ n = rm.slots ∧ ∃ (v : Option Value) (F' : List Addr), o = .returned v ∧ Q v t.heap F' ∧ Fr E.n L ∧ Old E.Z E.n t.heap ∧ FOk E t.vm t.heap F' ∧ CHr E.Z E.K first.vm first.heap t.vm t.heap) hM hf hl
    (fun m meth c A a Y hp => have hU : E.Z.Warmed39 A.U.vm := wtrans (s := s.setVm vm) hZ Y.warmed
      ⟨by show (Cond.and _ .tt).before a A.U = true; rw [Cond.before_and, mv hU wc]; rfl, mv hU wc, mv hU wz, hp.2.2.1, hp.2.2.2⟩)
    (fun m meth c A a g mk Y hp => ⟨hp.1, wtrans (s := s.setVm vm) hZ Y.warmed, hp.2.1, hO, (fok_at Y hZ hE.1 H hF).1.1, (fok_at Y hZ hE.1 H hF).2, hE⟩) (fun _ _ _ _ _ _ _ _ _ => trivial)
    (fun _ _ _ _ ⟨v, L, F', h1, h2, h3, h4, h5, h6, h7⟩ => ⟨L, _, _, by have h7 : EndF E.w _ _ _ _ _ _ := h7; rw [hw] at h7; exact h7, rfl, rfl, v, F', h1, h2, h3, h4, h5, h6⟩)
    (fun m meth c A a g mk v t L k n Y hp _ _ ⟨e1, e2, v', F', e3, e4, e5, e6, e7, e8⟩ => by
      cases e3; subst e1 e2
      refine ⟨L, F', e4, e5, e6, e7, (fok_at Y hZ hE.1 H hF).1.trans ?_, rfl, rfl, rfl⟩
      rw [← hp.2.1]; exact e8)
end Pay
section Calls
variable {E : Gl} {x : Cx} {T : State} {h : Heap} {F : List Addr} {cs ss : Nat} {own : String} {b : ByteArray} {ml : Nat} {R : Room} {ret : Option FieldType} {nm : String} {pc nx : Nat} {Ls : Array Slot} {st stk : List Value}
/-- behind a call: the walk stands again -/
theorem back_wk {vm : Vm} {L : List Loc} (W : Wk E x T h F cs ss) {rm : Room} {Q : Option Value → Heap → List Addr → Prop} {vm' : Vm} {BU : State} {BL : List Loc} {Bc Bs k' : Nat} {A : Pt} {a : Array Value} {v : Option Value} (hA : A.locs = L ∧ A.cells = cs ∧ A.slots = ss)
    (h6 : Fr E.n L) (h8 : CHr E.Z E.K x.s.vm x.s.heap vm h) (h10 : GOk E) (X' : Stand x.p E.l x.e x.R (x.s.setVm vm') x.m x.args x.below x.meth x.c BU BL Bc Bs) (S' : x.s.Since vm' k') (hk' : k' ≤ BU.heap.size) (hw : E.w = false → vm' = x.s.vm) (hZ' : E.Z.Warmed39 vm')
    (P : PostC E vm h rm Q A a v (BU, BL, Bc, Bs)) (hv : BU.vm = vm' ∨ (E.K = [] ∧ vm' = vm)) : ∃ F', Wk E x BU BU.heap F' (cs + rm.cells) (ss + rm.slots) ∧ Q v BU.heap F' := by
  obtain ⟨L', F', p1, p2, p3, p4, p5, p6, p7, p8⟩ := P
  dsimp only [Pt.U, Pt.locs, Pt.cells, Pt.slots] at p1 p2 p3 p4 p5 p6 p7 p8
  obtain ⟨q1, q2, q3⟩ := hA
  dsimp only [Pt.U, Pt.locs, Pt.cells, Pt.slots] at q1 q2 q3
  refine ⟨F', ⟨vm', k', BL, ?_, rfl, S', hk', hw, hZ', ?_, p3, ?_, ?_, h10⟩, p1⟩
  · rw [p7, p8, q2, q3] at X'; exact X'
  · rw [p6, q1]; exact Fr.app h6 p2
  · rcases hv with rfl | ⟨hK, rfl⟩
    · exact h8.trans p5
    · rw [hK] at h8 ⊢; exact chr_nil _ (Nat.le_trans h8.2.1 p5.2.1)
  · rcases hv with rfl | ⟨hK, rfl⟩
    · exact p4
    · exact fun z hz => ⟨(p4 z hz).1, (p4 z hz).2.1, by rw [hK]; exact safe_nil _ _ _ _⟩
theorem w_static (W : Wk E x T h F cs ss) (B : Is x own b ml R ret nm) {index : Nat} {y : MethodName} {bytes : ByteArray} {maxL : Nat} {rt : Option FieldType} {rm : Room} {Q : Option Value → Heap → List Addr → Prop} {ps : List FieldType} {r : Option FieldType} {argsL : List Value} {Wt : Nat} (d : D b pc (.invokestatic index) 3 nx)
    (w1 : (Cond.methodLink own index y).before E.a E.Z = true) (w2 : (Cond.static y).before E.a E.Z = true) (w3 : (Cond.initialized y.cls).before E.a E.Z = true) (w4 : (Cond.code y bytes maxL rt).before E.a E.Z = true) (hy : y.cls ≠ "java/lang/invoke/MethodHandle" ∧ y.cls ≠ "java/lang/invoke/VarHandle")
    (pd : parseMethodDescriptor y.desc = some ⟨ps, r⟩) (hl : argsL.length = ps.length) (hsz : Ls.size = ml) (hst : stk = argsL.reverse ++ st) (hW : (st.map fun v => v.category).sum ≤ Wt) (hM : Met E y bytes maxL rt rm argsL.toArray h F Q)
    (hf : rm.frames + 1 ≤ R.frames) (hlo : Wt + (maxL + 11) + rm.locals ≤ R.locals) (hc : cs + rm.cells ≤ R.cells) (hs : ss + rm.slots ≤ R.slots)
    (hr : ∀ (T' : State) (h' : Heap) (F' : List Addr) (v : Option Value), Wk E x T' h' F' (cs + rm.cells) (ss + rm.slots) → Q v h' F' → G E x T' (fr x nx Ls (v.toList ++ st))) : G E x T (fr x pc Ls stk) := by
  obtain ⟨d1, rfl⟩ := d
  subst hst
  have W0 := W
  obtain ⟨vm, k, L, X, h1, h2, h3, h4, h5, h6, h7, h8, h9, h10⟩ := W
  have hown : vm.findClass own = some x.m.cls := by rw [h2.1.alike.findClass]; exact B.2.2.2.2.2.2.2
  rw [← B.2.2.1] at hf hlo hc hs
  cases hw : E.w with
  | true =>
    obtain ⟨v, vm₁, ⟨BU, BL, Bc, Bs⟩, -, X', S', gr, P, stp⟩ := callSS X B.2.2.2.2.2.2.1 hown (mvT (s := x.s.setVm vm) h5 w1) (mvT (s := x.s.setVm vm) h5 w2) (mvT (s := x.s.setVm vm) h5 w3) (mvT (s := x.s.setVm vm) h5 w4) hy (payS (len := 3) (W := Wt) hw hM h5 h7 h8.1 h9 h10 w4 w3 hf hlo) (g := fr x pc Ls (argsL.reverse ++ st)) rfl (hsz.trans B.2.1.symm) (lenOf pd hl) rfl (by show 2 * 0 + _ ≤ _; omega) (by rw [B.1]; exact d1) (fun vm₁ _ => ⟨rfl, h1, hc, hs⟩)
    obtain ⟨F', W', q⟩ := back_wk (vm := vm) W0 ⟨rfl, rfl, rfl⟩ h6 h8 h10 X' (foldS h2 (by rw [h1]; exact h3) S' gr) (Nat.le_refl _) (fun q => Bool.noConfusion (hw.symm.trans q)) (State.Warmed39.trans (t := x.s.setVm vm) h5 S'.1) P (Or.inl rfl)
    exact G.ofS stp (hr BU BU.heap F' v W' q)
  | false =>
    have e := h4 hw
    obtain ⟨v, vm₁, ⟨BU, BL, Bc, Bs⟩, -, X', P, stp⟩ := Jvm.LawKit.callS X B.2.2.2.2.2.2.1 hown (mvT (s := x.s.setVm vm) h5 w1) (mvT (s := x.s.setVm vm) h5 w2) (mvT (s := x.s.setVm vm) h5 w3) (mvT (s := x.s.setVm vm) h5 w4) hy (payN (len := 3) (W := Wt) hw hM h5 h7 h8.1 h9 h10 w4 w3 hf hlo) (g := fr x pc Ls (argsL.reverse ++ st)) rfl (hsz.trans B.2.1.symm) (lenOf pd hl) rfl (by show 2 * 0 + _ ≤ _; omega) (by rw [B.1]; exact d1) (fun vm₁ _ => ⟨rfl, h1, hc, hs⟩)
    have gr : h.size ≤ BU.heap.size := by obtain ⟨_, _, _, _, _, _, c5, _⟩ := P; exact c5.2.1
    obtain ⟨F', W', q⟩ := back_wk (vm := vm) W0 ⟨rfl, rfl, rfl⟩ h6 h8 h10 X' h2 (Nat.le_trans h3 gr) h4 h5 P (Or.inr ⟨h10.2 hw, rfl⟩)
    exact G.of stp (hr BU BU.heap F' v W' q)
theorem w_special (W : Wk E x T h F cs ss) (B : Is x own b ml R ret nm) {index : Nat} {y : MethodName} {bytes : ByteArray} {maxL : Nat} {rm : Room} {Q : Option Value → Heap → List Addr → Prop} {ps : List FieldType} {r : Option FieldType} {a : Addr} {argsL : List Value} {Wt : Nat} (d : D b pc (.invokespecial index) 3 nx) (hy1 : y.name = "<init>")
    (w1 : (Cond.methodLink own index y).before E.a E.Z = true) (w2 : (Cond.instanceMethod y).before E.a E.Z = true) (w3 : (Cond.initialized y.cls).before E.a E.Z = true) (w4 : (Cond.code y bytes maxL none).before E.a E.Z = true) (hy : y.cls ≠ "java/lang/invoke/MethodHandle" ∧ y.cls ≠ "java/lang/invoke/VarHandle")
    (pd : parseMethodDescriptor y.desc = some ⟨ps, r⟩) (hl : argsL.length = ps.length) (hsz : Ls.size = ml) (hst : stk = argsL.reverse ++ .ref a :: st) (hW : (st.map fun v => v.category).sum ≤ Wt) (hM : Met E y bytes maxL none rm (.ref a :: argsL).toArray h F Q)
    (hf : rm.frames + 1 ≤ R.frames) (hlo : Wt + (maxL + 11) + rm.locals ≤ R.locals) (hc : cs + rm.cells ≤ R.cells) (hs : ss + rm.slots ≤ R.slots)
    (hr : ∀ (T' : State) (h' : Heap) (F' : List Addr) (v : Option Value), Wk E x T' h' F' (cs + rm.cells) (ss + rm.slots) → Q v h' F' → G E x T' (fr x nx Ls (v.toList ++ st))) : G E x T (fr x pc Ls stk) := by
  obtain ⟨d1, rfl⟩ := d
  subst hst
  have W0 := W
  obtain ⟨vm, k, L, X, h1, h2, h3, h4, h5, h6, h7, h8, h9, h10⟩ := W
  have hown : vm.findClass own = some x.m.cls := by rw [h2.1.alike.findClass]; exact B.2.2.2.2.2.2.2
  rw [← B.2.2.1] at hf hlo hc hs
  cases hw : E.w with
  | true =>
    obtain ⟨v, vm₁, ⟨BU, BL, Bc, Bs⟩, -, X', S', gr, P, stp⟩ := X.specialBackS B.2.2.2.2.2.2.1 hy1 hown (mvT (s := x.s.setVm vm) h5 w1) (mvT (s := x.s.setVm vm) h5 w2) (mvT (s := x.s.setVm vm) h5 w4) hy (payS (len := 3) (W := Wt) hw hM h5 h7 h8.1 h9 h10 w4 w3 hf hlo) (g := fr x pc Ls (argsL.reverse ++ .ref a :: st)) rfl (hsz.trans B.2.1.symm) (Steps.refl _) (lenOf pd hl) rfl (by show 2 * 0 + _ ≤ _; omega) (by rw [B.1]; exact d1) (fun vm₁ _ => ⟨rfl, h1, hc, hs⟩)
    obtain ⟨F', W', q⟩ := back_wk (vm := vm) W0 ⟨rfl, rfl, rfl⟩ h6 h8 h10 X' (foldS h2 (by rw [h1]; exact h3) S' gr) (Nat.le_refl _) (fun q => Bool.noConfusion (hw.symm.trans q)) (State.Warmed39.trans (t := x.s.setVm vm) h5 S'.1) P (Or.inl rfl)
    exact G.ofS stp (hr BU BU.heap F' v W' q)
  | false =>
    have e := h4 hw
    obtain ⟨v, vm₁, ⟨BU, BL, Bc, Bs⟩, -, X', P, stp⟩ := X.specialBack B.2.2.2.2.2.2.1 hy1 hown (mvT (s := x.s.setVm vm) h5 w1) (mvT (s := x.s.setVm vm) h5 w2) (mvT (s := x.s.setVm vm) h5 w4) hy (payN (len := 3) (W := Wt) hw hM h5 h7 h8.1 h9 h10 w4 w3 hf hlo) (g := fr x pc Ls (argsL.reverse ++ .ref a :: st)) rfl (hsz.trans B.2.1.symm) (Steps.refl _) (lenOf pd hl) rfl (by show 2 * 0 + _ ≤ _; omega) (by rw [B.1]; exact d1) (fun vm₁ _ => ⟨rfl, h1, hc, hs⟩)
    have gr : h.size ≤ BU.heap.size := by obtain ⟨_, _, _, _, _, _, c5, _⟩ := P; exact c5.2.1
    obtain ⟨F', W', q⟩ := back_wk (vm := vm) W0 ⟨rfl, rfl, rfl⟩ h6 h8 h10 X' h2 (Nat.le_trans h3 gr) h4 h5 P (Or.inr ⟨h10.2 hw, rfl⟩)
    exact G.ofS stp (hr BU BU.heap F' v W' q)
theorem w_virtual (W : Wk E x T h F cs ss) (B : Is x own b ml R ret nm) {index : Nat} {C : String} {y z : MethodName} {bytes : ByteArray} {maxL : Nat} {rt : Option FieldType} {rm : Room} {Q : Option Value → Heap → List Addr → Prop} {ps : List FieldType} {r : Option FieldType} {a : Addr} {argsL : List Value} {Wt : Nat} (d : D b pc (.invokevirtual index) 3 nx)
    (w1 : (Cond.methodLink own index y).before E.a E.Z = true) (wd : (Cond.declares y).before E.a E.Z = true) (nf : ∀ s' : State, E.Z.Warmed39 s'.vm → NotFace s' y) (wsel : (Cond.selects C y z).before E.a E.Z = true) (w2 : (Cond.instanceMethod z).before E.a E.Z = true) (w3 : (Cond.initialized z.cls).before E.a E.Z = true) (w4 : (Cond.code z bytes maxL rt).before E.a E.Z = true)
    (hy : y.cls ≠ "java/lang/invoke/MethodHandle" ∧ y.cls ≠ "java/lang/invoke/VarHandle") (Ex : Exa E.Z h a C)
    (pd : parseMethodDescriptor y.desc = some ⟨ps, r⟩) (hl : argsL.length = ps.length) (hsz : Ls.size = ml) (hst : stk = argsL.reverse ++ .ref a :: st) (hW : (st.map fun v => v.category).sum ≤ Wt) (hM : Met E z bytes maxL rt rm (.ref a :: argsL).toArray h F Q)
    (hf : rm.frames + 1 ≤ R.frames) (hlo : Wt + (maxL + 11) + rm.locals ≤ R.locals) (hc : cs + rm.cells ≤ R.cells) (hs : ss + rm.slots ≤ R.slots)
    (hr : ∀ (T' : State) (h' : Heap) (F' : List Addr) (v : Option Value), Wk E x T' h' F' (cs + rm.cells) (ss + rm.slots) → Q v h' F' → G E x T' (fr x nx Ls (v.toList ++ st))) : G E x T (fr x pc Ls stk) := by
  obtain ⟨d1, rfl⟩ := d
  subst hst
  have W0 := W
  obtain ⟨vm, k, L, X, h1, h2, h3, h4, h5, h6, h7, h8, h9, h10⟩ := W
  have hown : vm.findClass own = some x.m.cls := by rw [h2.1.alike.findClass]; exact B.2.2.2.2.2.2.2
  obtain ⟨cB, kB, i1, i2, i3⟩ := isOf (s := x.s.setVm vm) h5 h1 Ex
  rw [← B.2.2.1] at hf hlo hc hs
  cases hw : E.w with
  | true =>
    obtain ⟨v, vm₁, ⟨BU, BL, Bc, Bs⟩, -, X', S', gr, P, stp⟩ := X.virtualBackS B.2.2.2.2.2.2.1 hown (mvT (s := x.s.setVm vm) h5 w1) (mvT (s := x.s.setVm vm) h5 wd) (nf (x.s.setVm vm) h5) (mvT (s := x.s.setVm vm) h5 wsel) (mvT (s := x.s.setVm vm) h5 w2) hy (payS (len := 3) (W := Wt) hw hM h5 h7 h8.1 h9 h10 w4 w3 hf hlo) i1 i3 (g := fr x pc Ls (argsL.reverse ++ .ref a :: st)) rfl (hsz.trans B.2.1.symm) (Steps.refl _) (lenOf pd hl) rfl (by show 2 * 0 + _ ≤ _; omega) (by rw [B.1]; exact d1) (fun vm₁ _ => ⟨rfl, h1, hc, hs⟩)
    obtain ⟨F', W', q⟩ := back_wk (vm := vm) W0 ⟨rfl, rfl, rfl⟩ h6 h8 h10 X' (foldS h2 (by rw [h1]; exact h3) S' gr) (Nat.le_refl _) (fun q => Bool.noConfusion (hw.symm.trans q)) (State.Warmed39.trans (t := x.s.setVm vm) h5 S'.1) P (Or.inl rfl)
    exact G.ofS stp (hr BU BU.heap F' v W' q)
  | false =>
    have e := h4 hw
    obtain ⟨v, vm₁, ⟨BU, BL, Bc, Bs⟩, -, X', P, stp⟩ := X.virtualBack B.2.2.2.2.2.2.1 hown (mvT (s := x.s.setVm vm) h5 w1) (mvT (s := x.s.setVm vm) h5 wd) (nf (x.s.setVm vm) h5) (mvT (s := x.s.setVm vm) h5 wsel) (mvT (s := x.s.setVm vm) h5 w2) hy (payN (len := 3) (W := Wt) hw hM h5 h7 h8.1 h9 h10 w4 w3 hf hlo) i1 i3 (g := fr x pc Ls (argsL.reverse ++ .ref a :: st)) rfl (hsz.trans B.2.1.symm) (Steps.refl _) (lenOf pd hl) rfl (by show 2 * 0 + _ ≤ _; omega) (by rw [B.1]; exact d1) (fun vm₁ _ => ⟨rfl, h1, hc, hs⟩)
    have gr : h.size ≤ BU.heap.size := by obtain ⟨_, _, _, _, _, _, c5, _⟩ := P; exact c5.2.1
    obtain ⟨F', W', q⟩ := back_wk (vm := vm) W0 ⟨rfl, rfl, rfl⟩ h6 h8 h10 X' h2 (Nat.le_trans h3 gr) h4 h5 P (Or.inr ⟨h10.2 hw, rfl⟩)
    exact G.ofS stp (hr BU BU.heap F' v W' q)
theorem nf_sel {Z : State} {a0 : Array Value} {C : String} {y : MethodName} (w : (Cond.selects C y y).before a0 Z = true) : ∀ s' : State, Z.Warmed39 s'.vm → NotFace s' y := fun s' hZ => notFace_of_selects (args := a0) (mvT hZ w)
end Calls
end Jvm.Own
namespace Jvm.Own
open Sem ClassFile Op Lib Bundle Jvm.Stand Jvm.Free Jvm.LawKit Jvm.RoadKit
theorem ne_new {h : Heap} {a b : Addr} (l : a < h.size) (g : b = h.size) : a ≠ b := by subst g; exact Nat.ne_of_lt l
theorem cat_ref {v : Value} (hv : v.isRef = true) : v.category = 1 := by rcases ref_cases hv with rfl | ⟨a, rfl⟩ <;> rfl
theorem cat_r (a : Addr) : (Value.ref a).category = 1 := rfl
theorem cat_i (a : Int32) : (Value.int a).category = 1 := rfl
theorem cat_j (a : Int64) : (Value.long a).category = 2 := rfl
theorem cat_n : Value.null.category = 1 := rfl
theorem nar_ref {C : String} {v : Value} (hv : v.isRef = true) : narrow (.object C) v = v := by rcases ref_cases hv with rfl | ⟨a, rfl⟩ <;> rfl
theorem fits_obj {C : String} {v : Value} (hv : v.isRef = true) : fits (.object C) v = true := by rcases ref_cases hv with rfl | ⟨a, rfl⟩ <;> rfl
/-! ints of small naturals -/
theorem n_int {i : Nat} (h : i < 2 ^ 31) : i.toInt32.toInt = i := len_toInt h
theorem n_clamp {i : Nat} (h : i < 2 ^ 31) : i.toInt32.toNatClampNeg = i := by simp only [Int32.toNatClampNeg, n_int h]; omega
theorem n_nn {i : Nat} (h : i < 2 ^ 31) : ¬ i.toInt32 < 0 := by simp only [Int32.lt_iff_toInt_lt, n_int h, Int32.reduceToInt]; omega
theorem n_lt {i n : Nat} (hi : i < 2 ^ 31) (hn : n < 2 ^ 31) : i.toInt32 < n.toInt32 ↔ i < n := by simp only [Int32.lt_iff_toInt_lt, n_int hi, n_int hn]; omega
theorem n_add (i j : Nat) : i.toInt32 + j.toInt32 = (i + j).toInt32 := (Int32.ofNat_add i j).symm
theorem n_succ (i : Nat) : i.toInt32 + (1 : Int32) = (i + 1).toInt32 := n_add i 1
theorem n_eq {i n : Nat} (hi : i < 2 ^ 31) (hn : n < 2 ^ 31) : i.toInt32 = n.toInt32 ↔ i = n := by rw [← Int32.toInt_inj, n_int hi, n_int hn]; omega
theorem z_nat {z : Int32} (h : ¬ z < 0) : z = z.toNatClampNeg.toInt32 := (back32 h).1.symm
/-! chars -/
def lo8 (c : Int32) : Int32 := c.toInt8.toInt32
def Ch (cs : List Int32) : Prop := ∀ c ∈ cs, 0 ≤ c.toInt ∧ c.toInt ≤ 65535
def Lat (cs : List Int32) : Prop := ∀ c ∈ cs, c.toInt ≤ 255
def b8 (cs : List Int32) : List Value := cs.map fun c => .int (lo8 c)
def b16 (cs : List Int32) : List Value := cs.flatMap fun c => [.int (lo8 c), .int (lo8 (c >>> 8))]
def ints (cs : List Int32) : List Value := cs.map Value.int
theorem i2c_toInt (x : Int32) : x.toUInt32.toUInt16.toUInt32.toInt32.toInt = x.toInt % 65536 := by have := c_i2c x; omega
theorem i2c_id {x : Int32} (h0 : 0 ≤ x.toInt) (h1 : x.toInt ≤ 65535) : x.toUInt32.toUInt16.toUInt32.toInt32 = x := Int32.toInt_inj.mp (by rw [i2c_toInt]; omega)
theorem nar_i2c (x : Int32) : nar .char x.toUInt32.toUInt16.toUInt32.toInt32 = x.toUInt32.toUInt16.toUInt32.toInt32 := i2c_id (by rw [i2c_toInt]; omega) (by rw [i2c_toInt]; omega)
theorem nar_char {x : Int32} (h0 : 0 ≤ x.toInt) (h1 : x.toInt ≤ 65535) : nar .char x = x := i2c_id h0 h1
theorem b8_len (cs : List Int32) : (b8 cs).length = cs.length := by simp [b8]
theorem ints_len (cs : List Int32) : (ints cs).length = cs.length := by simp [ints]
theorem b16_len (cs : List Int32) : (b16 cs).length = 2 * cs.length := by
  induction cs with
  | nil => rfl
  | cons c r ih => simp only [b16, List.flatMap_cons, List.length_append, List.length_cons, List.length_nil] at ih ⊢; omega
theorem b16_at (cs : List Int32) : ∀ i, i < cs.length → (b16 cs).getD (2 * i) (.int 0) = .int (lo8 (cs.getD i 0)) ∧ (b16 cs).getD (2 * i + 1) (.int 0) = .int (lo8 (cs.getD i 0 >>> 8)) := by
  induction cs with
  | nil => intro i hi; exact absurd hi (Nat.not_lt_zero _)
  | cons c r ih =>
    intro i hi
    cases i with
    | zero => exact ⟨rfl, rfl⟩
    | succ j =>
      have q := ih j (by simpa using hi)
      exact q
theorem ints_at {cs : List Int32} {i : Nat} (h : i < cs.length) (d : Value) : (ints cs).getD i d = .int (cs.getD i 0) := by
  simp [ints, List.getD_eq_getElem?_getD, List.getElem?_map, List.getElem?_eq_getElem h]
theorem b8_at {cs : List Int32} {i : Nat} (h : i < cs.length) (d : Value) : (b8 cs).getD i d = .int (lo8 (cs.getD i 0)) := by
  simp [b8, List.getD_eq_getElem?_getD, List.getElem?_map, List.getElem?_eq_getElem h]
theorem ch_at {cs : List Int32} (H : Ch cs) {i : Nat} (h : i < cs.length) : 0 ≤ (cs.getD i 0).toInt ∧ (cs.getD i 0).toInt ≤ 65535 := by
  have : cs.getD i 0 = cs[i] := by simp [List.getD_eq_getElem?_getD, List.getElem?_eq_getElem h]
  rw [this]; exact H _ (List.getElem_mem h)
theorem lo8_toInt (c : Int32) : (lo8 c).toInt = c.toInt.bmod 256 := by
  show (c.toInt8.toInt32).toInt = _
  rw [Int8.toInt_toInt32, Int32.toInt_toInt8]
theorem and255 (x : Int32) : (x &&& 255).toInt = x.toInt % 256 := by
  have h : (x &&& 255).toBitVec.toNat = x.toBitVec.toNat % 256 := by
    show (x.toBitVec &&& (255 : Int32).toBitVec).toNat = _
    rw [BitVec.toNat_and, show (255 : Int32).toBitVec.toNat = 2 ^ 8 - 1 from by decide, Nat.and_two_pow_sub_one_eq_mod]
  have h2 : (x &&& 255).toInt = ((x &&& 255).toBitVec.toNat : Int) := by
    show (x &&& 255).toBitVec.toInt = _
    rw [BitVec.toInt_eq_toNat_cond, if_pos (by rw [h]; omega)]
  rw [h2, h]
  show ((x.toBitVec.toNat % 256 : Nat) : Int) = x.toBitVec.toInt % 256
  rw [BitVec.toInt_eq_toNat_cond]
  split <;> omega
theorem lo8_and (c : Int32) : (lo8 c &&& 255).toInt = c.toInt % 256 := by
  rw [and255, lo8_toInt]
  exact Int.bmod_emod
theorem lo8_mask {c : Int32} (h0 : 0 ≤ c.toInt) (h1 : c.toInt ≤ 255) : lo8 c &&& 255 = c := Int32.toInt_inj.mp (by rw [lo8_and]; omega)
/-- that a method's class is no interface says it of every method of that class -/
theorem nf_class {E : Gl} {y y' : MethodName} (nf : NotFace E.Z y') (w : (Cond.instanceMethod y').before E.a E.Z = true) (hc : y'.cls = y.cls) : NotFace E.Z y := fun r0 h0 => by
  obtain ⟨mk, _, hn, -⟩ := Cond.instanceMethod_spec w
  obtain ⟨kr, hk, hi⟩ := nf mk hn
  have q1 := findClass_of_methodNamed hn
  have q2 := findClass_of_methodNamed h0
  rw [hc] at q1
  have q3 : mk.cls = r0.cls := Option.some.inj (q1.symm.trans q2)
  exact ⟨kr, by rw [← q3]; exact hk, hi⟩
/-! longs compared -/
theorem cmpL_lt (x y : Int64) : XT.cmpL x y < 0 ↔ x < y := by
  unfold XT.cmpL; split <;> (try split) <;> simp_all [Int64.lt_iff_toInt_lt, ← Int64.toInt_inj] <;> omega
theorem cmpL_gt (x y : Int64) : 0 < XT.cmpL x y ↔ y < x := by
  unfold XT.cmpL; split <;> (try split) <;> simp_all [Int64.lt_iff_toInt_lt, ← Int64.toInt_inj] <;> omega
theorem cmpL_eq (x y : Int64) : XT.cmpL x y = 0 ↔ x = y := by
  unfold XT.cmpL; split <;> (try split) <;> simp_all [Int64.lt_iff_toInt_lt, ← Int64.toInt_inj] <;> omega
theorem len_of_eq {Z : State} {args : Array Value} {t : Term} {a : Addr} {c : Cell} {ty : FieldType} {k : Int32} (A : Arr Z Z.heap a c ty) (e : t.eval args Z none [] Z = some (.ref a)) (hl : (Cond.eq (.length t) (.int k)).value args Z none Z [] = some true) : c.slots.size < 2 ^ 31 ∧ c.slots.size.toInt32 = k := by
  have hA : Z.arrayAt? a = some c := A.fin (Vm.Alike.refl _)
  have hn : c.slots.size < 2 ^ 31 := by
    by_cases hn : c.slots.size < 2 ^ 31
    · exact hn
    · have hn' : ¬ c.slots.size < 2147483648 := hn
      simp [Cond.value, Term.eval, e, hA, hn'] at hl
  exact ⟨hn, gotT (Cond.eq_ints (len_f e hA hn) (Term.int_eval k)) hl⟩
end Jvm.Own
namespace Jvm.Own
open Sem ClassFile Op Lib Bundle Jvm.Stand Jvm.Free Jvm.LawKit Jvm.RoadKit
section CallsF
variable {E : Gl} {x : Cx} {T : State} {h : Heap} {F : List Addr} {cs ss : Nat} {own : String} {b : ByteArray} {ml : Nat} {R : Room} {ret : Option FieldType} {nm : String} {pc nx : Nat} {Ls : Array Slot} {st stk : List Value}
theorem w_interface (W : Wk E x T h F cs ss) (B : Is x own b ml R ret nm) {index cnt : Nat} {C : String} {y z : MethodName} {bytes : ByteArray} {maxL : Nat} {rt : Option FieldType} {rm : Room} {Q : Option Value → Heap → List Addr → Prop} {ps : List FieldType} {r : Option FieldType} {a : Addr} {argsL : List Value} {Wt : Nat} (d : D b pc (.invokeinterface index cnt) 5 nx)
    (w1 : (Cond.methodLink own index y).before E.a E.Z = true) (wd : (Cond.declares y).before E.a E.Z = true) (wf : (Cond.interfaceMethod y.cls y.cls y.name y.desc).before E.a E.Z = true) (hfa : ((Cond.interfaceMethod y.cls y.cls y.name y.desc).onTables && (Cond.interfaceMethod y.cls y.cls y.name y.desc).keepsFace) = true) (wsel : (Cond.selects C y z).before E.a E.Z = true) (w2 : (Cond.instanceMethod z).before E.a E.Z = true) (wp : (Cond.publicMethod z).before E.a E.Z = true) (wu : (Cond.unhidden C y.name y.desc).before E.a E.Z = true) (wca : (Cond.castable C y.cls).before E.a E.Z = true) (w3 : (Cond.initialized z.cls).before E.a E.Z = true) (w4 : (Cond.code z bytes maxL rt).before E.a E.Z = true) (hy : y.cls ≠ "java/lang/invoke/MethodHandle" ∧ y.cls ≠ "java/lang/invoke/VarHandle") (Ex : Exa E.Z h a C)
    (pd : parseMethodDescriptor y.desc = some ⟨ps, r⟩) (hl : argsL.length = ps.length) (hsz : Ls.size = ml) (hst : stk = argsL.reverse ++ .ref a :: st) (hW : (st.map fun v => v.category).sum ≤ Wt) (hM : Met E z bytes maxL rt rm (.ref a :: argsL).toArray h F Q)
    (hf : rm.frames + 1 ≤ R.frames) (hlo : Wt + (maxL + 11) + rm.locals ≤ R.locals) (hc : cs + rm.cells ≤ R.cells) (hs : ss + rm.slots ≤ R.slots)
    (hr : ∀ (T' : State) (h' : Heap) (F' : List Addr) (v : Option Value), Wk E x T' h' F' (cs + rm.cells) (ss + rm.slots) → Q v h' F' → G E x T' (fr x nx Ls (v.toList ++ st))) : G E x T (fr x pc Ls stk) := by
  obtain ⟨d1, rfl⟩ := d
  subst hst
  have W0 := W
  obtain ⟨vm, k, L, X, h1, h2, h3, h4, h5, h6, h7, h8, h9, h10⟩ := W
  have hown : vm.findClass own = some x.m.cls := by rw [h2.1.alike.findClass]; exact B.2.2.2.2.2.2.2
  obtain ⟨cB, kB, i1, i2, i3⟩ := isOf (s := x.s.setVm vm) h5 h1 Ex
  rw [← B.2.2.1] at hf hlo hc hs
  cases hw : E.w with
  | true =>
    obtain ⟨v, vm₁, ⟨BU, BL, Bc, Bs⟩, -, X', S', gr, P, stp⟩ := X.interfaceBackS B.2.2.2.2.2.2.1 hown (mvT (s := x.s.setVm vm) h5 w1) (mvT (s := x.s.setVm vm) h5 wd) (mvT (s := x.s.setVm vm) h5 wf hfa) (mvT (s := x.s.setVm vm) h5 wsel) (mvT (s := x.s.setVm vm) h5 w2) (mvT (s := x.s.setVm vm) h5 wp) (mvT (s := x.s.setVm vm) h5 wu) (mvT (s := x.s.setVm vm) h5 wca) hy (payS (len := 5) (W := Wt) hw hM h5 h7 h8.1 h9 h10 w4 w3 hf hlo) i1 i2 i3 (g := fr x pc Ls (argsL.reverse ++ .ref a :: st)) rfl (hsz.trans B.2.1.symm) (Steps.refl _) (lenOf pd hl) rfl (by show 2 * 0 + _ ≤ _; omega) (by rw [B.1]; exact d1) (fun vm₁ _ => ⟨rfl, h1, hc, hs⟩)
    obtain ⟨F', W', q⟩ := back_wk (vm := vm) W0 ⟨rfl, rfl, rfl⟩ h6 h8 h10 X' (foldS h2 (by rw [h1]; exact h3) S' gr) (Nat.le_refl _) (fun q => Bool.noConfusion (hw.symm.trans q)) (State.Warmed39.trans (t := x.s.setVm vm) h5 S'.1) P (Or.inl rfl)
    exact G.ofS stp (hr BU BU.heap F' v W' q)
  | false =>
    have e := h4 hw
    obtain ⟨v, vm₁, ⟨BU, BL, Bc, Bs⟩, -, X', P, stp⟩ := X.interfaceBack B.2.2.2.2.2.2.1 hown (mvT (s := x.s.setVm vm) h5 w1) (mvT (s := x.s.setVm vm) h5 wd) (mvT (s := x.s.setVm vm) h5 wf hfa) (mvT (s := x.s.setVm vm) h5 wsel) (mvT (s := x.s.setVm vm) h5 w2) (mvT (s := x.s.setVm vm) h5 wp) (mvT (s := x.s.setVm vm) h5 wu) (mvT (s := x.s.setVm vm) h5 wca) hy (payN (len := 5) (W := Wt) hw hM h5 h7 h8.1 h9 h10 w4 w3 hf hlo) i1 i2 i3 (g := fr x pc Ls (argsL.reverse ++ .ref a :: st)) rfl (hsz.trans B.2.1.symm) (Steps.refl _) (lenOf pd hl) rfl (by show 2 * 0 + _ ≤ _; omega) (by rw [B.1]; exact d1) (fun vm₁ _ => ⟨rfl, h1, hc, hs⟩)
    have gr : h.size ≤ BU.heap.size := by obtain ⟨_, _, _, _, _, _, c5, _⟩ := P; exact c5.2.1
    obtain ⟨F', W', q⟩ := back_wk (vm := vm) W0 ⟨rfl, rfl, rfl⟩ h6 h8 h10 X' h2 (Nat.le_trans h3 gr) h4 h5 P (Or.inr ⟨h10.2 hw, rfl⟩)
    exact G.ofS stp (hr BU BU.heap F' v W' q)
theorem w_private (W : Wk E x T h F cs ss) (B : Is x own b ml R ret nm) {index : Nat} {C : String} {y : MethodName} {bytes : ByteArray} {maxL : Nat} {rt : Option FieldType} {rm : Room} {Q : Option Value → Heap → List Addr → Prop} {ps : List FieldType} {r : Option FieldType} {a : Addr} {argsL : List Value} {Wt : Nat} (d : D b pc (.invokevirtual index) 3 nx)
    (w1 : (Cond.methodLink own index y).before E.a E.Z = true) (w2 : (Cond.instanceMethod y).before E.a E.Z = true) (wpr : (Cond.privateMethod y).before E.a E.Z = true) (nf : NotFace E.Z y) (w3 : (Cond.initialized y.cls).before E.a E.Z = true) (w4 : (Cond.code y bytes maxL rt).before E.a E.Z = true) (hy : y.cls ≠ "java/lang/invoke/MethodHandle" ∧ y.cls ≠ "java/lang/invoke/VarHandle") (Ex : Exa E.Z h a C)
    (pd : parseMethodDescriptor y.desc = some ⟨ps, r⟩) (hl : argsL.length = ps.length) (hsz : Ls.size = ml) (hst : stk = argsL.reverse ++ .ref a :: st) (hW : (st.map fun v => v.category).sum ≤ Wt) (hM : Met E y bytes maxL rt rm (.ref a :: argsL).toArray h F Q)
    (hf : rm.frames + 1 ≤ R.frames) (hlo : Wt + (maxL + 11) + rm.locals ≤ R.locals) (hc : cs + rm.cells ≤ R.cells) (hs : ss + rm.slots ≤ R.slots)
    (hr : ∀ (T' : State) (h' : Heap) (F' : List Addr) (v : Option Value), Wk E x T' h' F' (cs + rm.cells) (ss + rm.slots) → Q v h' F' → G E x T' (fr x nx Ls (v.toList ++ st))) : G E x T (fr x pc Ls stk) := by
  obtain ⟨d1, rfl⟩ := d
  subst hst
  have W0 := W
  obtain ⟨vm, k, L, X, h1, h2, h3, h4, h5, h6, h7, h8, h9, h10⟩ := W
  have hown : vm.findClass own = some x.m.cls := by rw [h2.1.alike.findClass]; exact B.2.2.2.2.2.2.2
  obtain ⟨cl, hcl, hst⟩ := Ex.cell
  have wsel0 : (Cond.selects y.cls y y).before E.a E.Z = true := by
    obtain ⟨mk, _, hn, -⟩ := Cond.instanceMethod_spec w2
    obtain ⟨kr, hk, hi⟩ := nf mk hn
    exact selects_self_of_private (findClass_of_methodNamed hn) hk hi (Cond.privateMethod_at wpr) w2 hy
  have wsel : (Cond.selects y.cls y y).before x.args (x.s.setVm vm) = true := mvT (s := x.s.setVm vm) h5 wsel0
  rw [← B.2.2.1] at hf hlo hc hs
  cases hw : E.w with
  | true =>
    obtain ⟨v, vm₁, ⟨BU, BL, Bc, Bs⟩, -, X', S', gr, P, stp⟩ := X.privateBackS B.2.2.2.2.2.2.1 hown (mvT (s := x.s.setVm vm) h5 w1) (mvT (s := x.s.setVm vm) h5 w2) wsel (Cond.privateMethod_at (mvP (s := x.s.setVm vm) (args := x.args) h5 wpr)) (mvT (s := x.s.setVm vm) h5 w4) hy (payS (len := 3) (W := Wt) hw hM h5 h7 h8.1 h9 h10 w4 w3 hf hlo) (g := fr x pc Ls (argsL.reverse ++ .ref a :: st)) rfl (hsz.trans B.2.1.symm) (Steps.refl _) (by rw [h1]; exact hcl) hst (lenOf pd hl) rfl (by show 2 * 0 + _ ≤ _; omega) (by rw [B.1]; exact d1) (fun vm₁ _ => ⟨rfl, h1, hc, hs⟩)
    obtain ⟨F', W', q⟩ := back_wk (vm := vm) W0 ⟨rfl, rfl, rfl⟩ h6 h8 h10 X' (foldS h2 (by rw [h1]; exact h3) S' gr) (Nat.le_refl _) (fun q => Bool.noConfusion (hw.symm.trans q)) (State.Warmed39.trans (t := x.s.setVm vm) h5 S'.1) P (Or.inl rfl)
    exact G.ofS stp (hr BU BU.heap F' v W' q)
  | false =>
    have e := h4 hw
    obtain ⟨v, vm₁, ⟨BU, BL, Bc, Bs⟩, -, X', P, stp⟩ := X.privateBack B.2.2.2.2.2.2.1 hown (mvT (s := x.s.setVm vm) h5 w1) (mvT (s := x.s.setVm vm) h5 w2) wsel (Cond.privateMethod_at (mvP (s := x.s.setVm vm) (args := x.args) h5 wpr)) (mvT (s := x.s.setVm vm) h5 w4) hy (payN (len := 3) (W := Wt) hw hM h5 h7 h8.1 h9 h10 w4 w3 hf hlo) (g := fr x pc Ls (argsL.reverse ++ .ref a :: st)) rfl (hsz.trans B.2.1.symm) (Steps.refl _) (by rw [h1]; exact hcl) hst (lenOf pd hl) rfl (by show 2 * 0 + _ ≤ _; omega) (by rw [B.1]; exact d1) (fun vm₁ _ => ⟨rfl, h1, hc, hs⟩)
    have gr : h.size ≤ BU.heap.size := by obtain ⟨_, _, _, _, _, _, c5, _⟩ := P; exact c5.2.1
    obtain ⟨F', W', q⟩ := back_wk (vm := vm) W0 ⟨rfl, rfl, rfl⟩ h6 h8 h10 X' h2 (Nat.le_trans h3 gr) h4 h5 P (Or.inr ⟨h10.2 hw, rfl⟩)
    exact G.ofS stp (hr BU BU.heap F' v W' q)
theorem w_super (W : Wk E x T h F cs ss) (B : Is x own b ml R ret nm) {index : Nat} {K : String} {y : MethodName} {bytes : ByteArray} {maxL : Nat} {rt : Option FieldType} {rm : Room} {Q : Option Value → Heap → List Addr → Prop} {ps : List FieldType} {r : Option FieldType} {a : Addr} {argsL : List Value} {Wt : Nat} (d : D b pc (.invokespecial index) 3 nx)
    (hn : y.name ≠ "<init>") (w1 : (Cond.methodLink own index y).before E.a E.Z = true) (w2 : (Cond.instanceMethod y).before E.a E.Z = true) (wsu : (Cond.superclass own y.cls).before E.a E.Z = true) (nf : NotFace E.Z y) (w3 : (Cond.initialized y.cls).before E.a E.Z = true) (w4 : (Cond.code y bytes maxL rt).before E.a E.Z = true) (hy : y.cls ≠ "java/lang/invoke/MethodHandle" ∧ y.cls ≠ "java/lang/invoke/VarHandle") (In : Ins E.Z h a K true)
    (pd : parseMethodDescriptor y.desc = some ⟨ps, r⟩) (hl : argsL.length = ps.length) (hsz : Ls.size = ml) (hst : stk = argsL.reverse ++ .ref a :: st) (hW : (st.map fun v => v.category).sum ≤ Wt) (hM : Met E y bytes maxL rt rm (.ref a :: argsL).toArray h F Q)
    (hf : rm.frames + 1 ≤ R.frames) (hlo : Wt + (maxL + 11) + rm.locals ≤ R.locals) (hc : cs + rm.cells ≤ R.cells) (hs : ss + rm.slots ≤ R.slots)
    (hr : ∀ (T' : State) (h' : Heap) (F' : List Addr) (v : Option Value), Wk E x T' h' F' (cs + rm.cells) (ss + rm.slots) → Q v h' F' → G E x T' (fr x nx Ls (v.toList ++ st))) : G E x T (fr x pc Ls stk) := by
  obtain ⟨d1, rfl⟩ := d
  subst hst
  have W0 := W
  obtain ⟨vm, k, L, X, h1, h2, h3, h4, h5, h6, h7, h8, h9, h10⟩ := W
  have hown : vm.findClass own = some x.m.cls := by rw [h2.1.alike.findClass]; exact B.2.2.2.2.2.2.2
  have wsm : (Cond.sameMethod y.cls y.cls y.name y.desc).before E.a E.Z = true := by
    obtain ⟨mk, _, hnm, -⟩ := Cond.instanceMethod_spec w2
    obtain ⟨kr, hk, hi⟩ := nf mk hnm
    have hc0 := findClass_of_methodNamed hnm
    have hf0 := State.methodFound?_of_named hnm hy
    have hnm' : E.Z.methodNamed? ⟨y.cls, y.name, y.desc⟩ = some mk := hnm
    simp [Cond.before, Cond.holds, Cond.value, hc0, hf0, hnm', hk, hi]
  rw [← B.2.2.1] at hf hlo hc hs
  cases hw : E.w with
  | true =>
    obtain ⟨v, vm₁, ⟨BU, BL, Bc, Bs⟩, -, X', S', gr, P, stp⟩ := superBackS X B.2.2.2.2.2.2.1 (s := x.s.setVm vm) h5 hown w1 wsm w2 wsu hn (payS (len := 3) (W := Wt) hw hM h5 h7 h8.1 h9 h10 w4 w3 hf hlo) h1 In (g := fr x pc Ls (argsL.reverse ++ .ref a :: st)) rfl (hsz.trans B.2.1.symm) w4 (lenOf pd hl) rfl (by show 2 * 0 + _ ≤ _; omega) (by rw [B.1]; exact d1) (fun vm₁ _ => ⟨rfl, h1, hc, hs⟩)
    obtain ⟨F', W', q⟩ := back_wk (vm := vm) W0 ⟨rfl, rfl, rfl⟩ h6 h8 h10 X' (foldS h2 (by rw [h1]; exact h3) S' gr) (Nat.le_refl _) (fun q => Bool.noConfusion (hw.symm.trans q)) (State.Warmed39.trans (t := x.s.setVm vm) h5 S'.1) P (Or.inl rfl)
    exact G.ofS stp (hr BU BU.heap F' v W' q)
  | false =>
    have e := h4 hw
    obtain ⟨v, vm₁, ⟨BU, BL, Bc, Bs⟩, -, X', P, stp⟩ := superBack X B.2.2.2.2.2.2.1 (s := x.s.setVm vm) h5 hown w1 wsm w2 wsu hn (payN (len := 3) (W := Wt) hw hM h5 h7 h8.1 h9 h10 w4 w3 hf hlo) h1 In (g := fr x pc Ls (argsL.reverse ++ .ref a :: st)) rfl (hsz.trans B.2.1.symm) w4 (lenOf pd hl) rfl (by show 2 * 0 + _ ≤ _; omega) (by rw [B.1]; exact d1) (fun vm₁ _ => ⟨rfl, h1, hc, hs⟩)
    have gr : h.size ≤ BU.heap.size := by obtain ⟨_, _, _, _, _, _, c5, _⟩ := P; exact c5.2.1
    obtain ⟨F', W', q⟩ := back_wk (vm := vm) W0 ⟨rfl, rfl, rfl⟩ h6 h8 h10 X' h2 (Nat.le_trans h3 gr) h4 h5 P (Or.inr ⟨h10.2 hw, rfl⟩)
    exact G.ofS stp (hr BU BU.heap F' v W' q)
theorem nf_z {E : Gl} {C : String} {y : MethodName} (w : (Cond.selects C y y).before E.a E.Z = true) : NotFace E.Z y := notFace_of_selects w
theorem w_aaloadC (W : Wk E x T h F cs ss) (B : Is x own b ml R ret nm) {a : Addr} {cl : Cell} {ty : FieldType} {j : Int32} {v : Value} (d : D b pc .aaload 1 nx) (hty : ty.isReference = true) (A : Arr E.Z h a cl ty) (hj : ¬ (j < 0 ∨ cl.slots.size ≤ j.toNatClampNeg)) (hv : cl.slots[j.toNatClampNeg]? = some v) (hr : G E x T (fr x nx Ls (v :: st))) : G E x T (fr x pc Ls (.int j :: .ref a :: st)) := by
  obtain ⟨d1, rfl⟩ := d
  obtain ⟨vm, L, X, e, hZ, hown, -, -⟩ := W.open B
  exact G.of (fun t r => X.aaload B.2.2.2.2.2.2.1 (by rw [e]; exact A.1) (State.isArrayOf_alike hZ.alike A.2.1) hty A.2.2 hj hv (g := fr x pc Ls (.int j :: .ref a :: st)) rfl rfl (by rw [B.1]; exact d1) t r) hr
theorem w_dup2L (W : Wk E x T h F cs ss) (B : Is x own b ml R ret nm) {v : Int64} (d : D b pc .dup2 1 nx) (hr : G E x T (fr x nx Ls (.long v :: .long v :: st))) : G E x T (fr x pc Ls (.long v :: st)) := by
  obtain ⟨d1, rfl⟩ := d; exact pstep W (fun _ A r => XT.dup2L A B.2.2.2.2.2.2.1 rfl (by rw [B.1]; exact d1) rfl r) hr
end CallsF
end Jvm.Own
namespace Jvm.Pilot.@@N@@
open Jvm Jvm.ClassFile Sem Op Lib Jvm.Free Jvm.Stand Jvm.LawKit Jvm.RoadKit Bundle Jvm.Pilot.@@N@@.Jvm.D Jvm.Own
def Tb (E : Gl) : Prop := (∀ c ∈ tables_1, c.before E.a E.Z = true) ∧ (∀ c ∈ jdkStatics_1, c.before E.a E.Z = true) ∧ E.w = false ∧ E.K = []
theorem wd {E : Gl} (hw : Tb E) (k : Nat) {c : Jvm.Cond} (q : tables_1[k]? = some c) : c.before E.a E.Z = true := hw.1 c (List.mem_of_getElem? q)
theorem sd {E : Gl} (hw : Tb E) (k : Nat) {c : Jvm.Cond} (q : jdkStatics_1[k]? = some c) : c.before E.a E.Z = true := hw.2.1 c (List.mem_of_getElem? q)

theorem d_cmp5_0 : Own.D jdk_52_method_21_code 0 (.iconst 0) 1 1 := ⟨by decide +kernel, rfl⟩
theorem d_cmp5_1 : Own.D jdk_52_method_21_code 1 (.istore 5) 2 3 := ⟨by decide +kernel, rfl⟩
theorem d_cmp5_3 : Own.D jdk_52_method_21_code 3 (.iload 5) 2 5 := ⟨by decide +kernel, rfl⟩
theorem d_cmp5_5 : Own.D jdk_52_method_21_code 5 (.iload 4) 2 7 := ⟨by decide +kernel, rfl⟩
theorem d_cmp5_7 : Own.J jdk_52_method_21_code 7 (.if_icmp .ge 37) 3 10 37 44 := ⟨by decide +kernel, rfl, by decide, by decide⟩
theorem d_cmp5_10 : Own.D jdk_52_method_21_code 10 (.aload_n 0) 1 11 := ⟨by decide +kernel, rfl⟩
theorem d_cmp5_11 : Own.D jdk_52_method_21_code 11 (.iload_n 1) 1 12 := ⟨by decide +kernel, rfl⟩
theorem d_cmp5_12 : Own.D jdk_52_method_21_code 12 .caload 1 13 := ⟨by decide +kernel, rfl⟩
theorem d_cmp5_13 : Own.D jdk_52_method_21_code 13 (.istore 6) 2 15 := ⟨by decide +kernel, rfl⟩
theorem d_cmp5_15 : Own.D jdk_52_method_21_code 15 (.iload 6) 2 17 := ⟨by decide +kernel, rfl⟩
theorem d_cmp5_17 : Own.D jdk_52_method_21_code 17 (.sipush 255) 3 20 := ⟨by decide +kernel, rfl⟩
theorem d_cmp5_20 : Own.J jdk_52_method_21_code 20 (.if_icmp .le 6) 3 23 6 26 := ⟨by decide +kernel, rfl, by decide, by decide⟩
theorem d_cmp5_23 : Own.D jdk_52_method_21_code 23 (.iload 5) 2 25 := ⟨by decide +kernel, rfl⟩
theorem d_cmp5_25 : Own.D jdk_52_method_21_code 25 .ireturn 1 26 := ⟨by decide +kernel, rfl⟩
theorem d_cmp5_26 : Own.D jdk_52_method_21_code 26 (.aload_n 2) 1 27 := ⟨by decide +kernel, rfl⟩
theorem d_cmp5_27 : Own.D jdk_52_method_21_code 27 (.iload_n 3) 1 28 := ⟨by decide +kernel, rfl⟩
theorem d_cmp5_28 : Own.D jdk_52_method_21_code 28 (.iload 6) 2 30 := ⟨by decide +kernel, rfl⟩
theorem d_cmp5_30 : Own.D jdk_52_method_21_code 30 .i2b 1 31 := ⟨by decide +kernel, rfl⟩
theorem d_cmp5_31 : Own.D jdk_52_method_21_code 31 .bastore 1 32 := ⟨by decide +kernel, rfl⟩
theorem d_cmp5_32 : Own.D jdk_52_method_21_code 32 (.iinc 1 1) 3 35 := ⟨by decide +kernel, rfl⟩
theorem d_cmp5_35 : Own.D jdk_52_method_21_code 35 (.iinc 3 1) 3 38 := ⟨by decide +kernel, rfl⟩
theorem d_cmp5_38 : Own.D jdk_52_method_21_code 38 (.iinc 5 1) 3 41 := ⟨by decide +kernel, rfl⟩
theorem d_cmp5_41 : Own.J jdk_52_method_21_code 41 (.goto (-38)) 3 44 (-38) 3 := ⟨by decide +kernel, rfl, by decide, by decide⟩
theorem d_cmp5_44 : Own.D jdk_52_method_21_code 44 (.iload 4) 2 46 := ⟨by decide +kernel, rfl⟩
theorem d_cmp5_46 : Own.D jdk_52_method_21_code 46 .ireturn 1 47 := ⟨by decide +kernel, rfl⟩
/-- what compress leaves: it stopped at i; the places before i hold the low bytes -/
def QC5 (E : Gl) (cs : List Int32) (n : Nat) (a d : Addr) (kd : ClassId) (h0 : Heap) (F : List Addr) (v : Option Value) (h : Heap) (F' : List Addr) : Prop :=
  ∃ (i : Nat) (vs : List Value), v = some (.int i.toInt32) ∧ F = F' ∧ i ≤ n ∧ (i < n → 255 < (cs.getD i 0).toInt) ∧ (∀ j, j < i → (cs.getD j 0).toInt ≤ 255) ∧ Keep h0 h [d] ∧ Arv E.Z h d kd .byte n.toInt32 vs (.int 0) ∧ vs.length = n ∧ ∀ j, j < i → vs.getD j (.int 0) = .int (lo8 (cs.getD j 0))
theorem nar_lo8 (c : Int32) : nar .byte (lo8 c) = lo8 c := Int32.toInt_inj.mp (by show (lo8 (lo8 c)).toInt = _; rw [lo8_toInt, lo8_toInt, Int.bmod_bmod])
theorem set_pre {vs : List Value} {n i : Nat} {f : Nat → Value} {u : Value} (hvl : vs.length = n) (hin : i < n) (hvs : ∀ j, j < i → vs.getD j (.int 0) = f j) (hu : u = f i := by rfl) : ∀ j, j < i + 1 → (vs.set i u).getD j (.int 0) = f j := by
  intro j hj
  rcases Nat.lt_succ_iff_lt_or_eq.mp hj with q | rfl
  · rw [List.getD_eq_getElem?_getD, List.getElem?_set_ne (by omega), ← List.getD_eq_getElem?_getD]; exact hvs j q
  · rw [List.getD_eq_getElem?_getD, List.getElem?_set_self (by omega)]; exact hu
set_option maxRecDepth 65536 in
set_option maxHeartbeats 4000000 in
theorem cmp5_turns {E : Gl} (hw : Tb E) {x : Cx} {a d : Addr} {ka kd : ClassId} {n : Nat} {cs : List Int32} {h0 : Heap} {F : List Addr} (hQ : x.Q = QC5 E cs n a d kd h0 F) (B : Is x "java/lang/StringUTF16" jdk_52_method_21_code 7 ({ frames := 0, cells := 0, slots := 0, locals := 0 } : Room) (some .int) "compress") (hcs : cs.length = n) (hn : n < 2 ^ 31) (had : a ≠ d) (hd : d ∈ F) :
    ∀ (r i : Nat) (T : State) (h : Heap) (s6 : Slot) (vs : List Value), i + r = n → LS s6 → Wk E x T h F 0 0 → Arv E.Z h a ka .char n.toInt32 (ints cs) (.int 0) → Arv E.Z h d kd .byte n.toInt32 vs (.int 0) → vs.length = n →
      (∀ j, j < i → vs.getD j (.int 0) = .int (lo8 (cs.getD j 0))) → (∀ j, j < i → (cs.getD j 0).toInt ≤ 255) → Keep h0 h [d] → G E x T (fr x 3 #[.val (.ref a), .val (.int i.toInt32), .val (.ref d), .val (.int i.toInt32), .val (.int n.toInt32), .val (.int i.toInt32), s6] []) := by
  intro r
  induction r with
  | zero =>
    intro i T h s6 vs hir hs6 W Aa Ad hvl hvs hlat hK
    have hie : i = n := by omega
    have hi31 : i < 2 ^ 31 := by omega
    refine w_iload W B d_cmp5_3 rfl ?_
    refine w_iload W B d_cmp5_5 rfl ?_
    refine w_icmp_ge W B d_cmp5_7 (fun _ => ?_) (fun q => absurd q (by rw [n_lt hi31 hn]; omega))
    show G E x T (fr x 44 #[.val (.ref a), .val (.int i.toInt32), .val (.ref d), .val (.int i.toInt32), .val (.int n.toInt32), .val (.int i.toInt32), s6] [])
    refine w_iload W B d_cmp5_44 rfl ?_
    exact w_ireturn W B d_cmp5_46 hQ (by decide) (by decide) (fun _ q => q) ⟨n, vs, rfl, rfl, Nat.le_refl _, fun q => absurd q (Nat.lt_irrefl _), fun j q => hlat j (by omega), hK, Ad, hvl, fun j q => hvs j (by omega)⟩
  | succ r ih =>
    intro i T h s6 vs hir hs6 W Aa Ad hvl hvs hlat hK
    have hin : i < n := by omega
    have hi31 : i < 2 ^ 31 := by omega
    refine w_iload W B d_cmp5_3 rfl ?_
    refine w_iload W B d_cmp5_5 rfl ?_
    refine w_icmp_ge W B d_cmp5_7 (fun q => q ((n_lt hi31 hn).mpr hin) |>.elim) (fun _ => ?_)
    show G E x T (fr x 10 #[.val (.ref a), .val (.int i.toInt32), .val (.ref d), .val (.int i.toInt32), .val (.int n.toInt32), .val (.int i.toInt32), s6] [])
    refine w_aloadN W B d_cmp5_10 rfl rfl ?_
    refine w_iloadN W B d_cmp5_11 rfl ?_
    refine w_caload W B d_cmp5_12 Aa ⟨n_nn hi31, (n_lt hi31 hn).mpr hin⟩ (v := .int (cs.getD i 0)) (by rw [n_clamp hi31]; exact ints_at (by rw [hcs]; exact hin) _) ?_
    refine w_istore W B d_cmp5_13 (Ls' := #[.val (.ref a), .val (.int i.toInt32), .val (.ref d), .val (.int i.toInt32), .val (.int n.toInt32), .val (.int i.toInt32), .val (.int (cs.getD i 0))]) (store_lit [.val (.ref a), .val (.int i.toInt32), .val (.ref d), .val (.int i.toInt32), .val (.int n.toInt32), .val (.int i.toInt32)] [] hs6 _) ?_
    refine w_iload W B d_cmp5_15 rfl ?_
    refine w_sipush W B d_cmp5_17 (v := (255 : Int32)) rfl ?_
    refine w_icmp_le W B d_cmp5_20 ?_ ?_
    · intro hc20
      show G E x T (fr x 26 #[.val (.ref a), .val (.int i.toInt32), .val (.ref d), .val (.int i.toInt32), .val (.int n.toInt32), .val (.int i.toInt32), .val (.int (cs.getD i 0))] [])
      refine w_aloadN W B d_cmp5_26 rfl rfl ?_
      refine w_iloadN W B d_cmp5_27 rfl ?_
      refine w_iload W B d_cmp5_28 rfl ?_
      refine w_i2b W B d_cmp5_30 ?_
      refine w_bastore W B d_cmp5_31 hd Ad ⟨n_nn hi31, (n_lt hi31 hn).mpr hin⟩ (i := i) (n_clamp hi31) (by rw [hvl]; exact hin) (u := lo8 (cs.getD i 0)) (nar_lo8 _) ?_
      intro T2 h2 W2 K2 A2
      show G E x T2 (fr x 32 #[.val (.ref a), .val (.int i.toInt32), .val (.ref d), .val (.int i.toInt32), .val (.int n.toInt32), .val (.int i.toInt32), .val (.int (cs.getD i 0))] [])
      refine w_iinc W2 B d_cmp5_32 rfl (w := (i + 1).toInt32) (n_succ i) (Ls' := #[.val (.ref a), .val (.int (i + 1).toInt32), .val (.ref d), .val (.int i.toInt32), .val (.int n.toInt32), .val (.int i.toInt32), .val (.int (cs.getD i 0))]) rfl ?_
      refine w_iinc W2 B d_cmp5_35 rfl (w := (i + 1).toInt32) (n_succ i) (Ls' := #[.val (.ref a), .val (.int (i + 1).toInt32), .val (.ref d), .val (.int (i + 1).toInt32), .val (.int n.toInt32), .val (.int i.toInt32), .val (.int (cs.getD i 0))]) rfl ?_
      refine w_iinc W2 B d_cmp5_38 rfl (w := (i + 1).toInt32) (n_succ i) (Ls' := #[.val (.ref a), .val (.int (i + 1).toInt32), .val (.ref d), .val (.int (i + 1).toInt32), .val (.int n.toInt32), .val (.int (i + 1).toInt32), .val (.int (cs.getD i 0))]) rfl ?_
      refine w_goto W2 B d_cmp5_41 ?_
      exact ih (i + 1) T2 h2 _ (vs.set i (.int (lo8 (cs.getD i 0)))) (by omega) (Or.inr ⟨_, rfl⟩) W2 (Aa.keep K2 (ninS had nin0)) A2 (by rw [List.length_set]; exact hvl) (set_pre hvl hin hvs)
        (fun j hj => by rcases Nat.lt_succ_iff_lt_or_eq.mp hj with q | rfl; exact hlat j q; exact Int.not_lt.mp fun q => hc20 (Int32.lt_iff_toInt_lt.mpr q)) (hK.trans K2 (allS (Or.inl (List.Mem.head _)) all0))
    · intro hc20
      show G E x T (fr x 23 #[.val (.ref a), .val (.int i.toInt32), .val (.ref d), .val (.int i.toInt32), .val (.int n.toInt32), .val (.int i.toInt32), .val (.int (cs.getD i 0))] [])
      refine w_iload W B d_cmp5_23 rfl ?_
      exact w_ireturn W B d_cmp5_25 hQ (by decide) (by decide) (fun _ q => q) ⟨i, vs, rfl, rfl, Nat.le_of_lt hin, fun _ => by have := Int32.lt_iff_toInt_lt.mp hc20; exact this, hlat, hK, Ad, hvl, hvs⟩
set_option maxRecDepth 65536 in
set_option maxHeartbeats 4000000 in
theorem cmp5_met {E : Gl} (hw : Tb E) {a d : Addr} {ka kd : ClassId} {n : Nat} {cs : List Int32} {vs : List Value} {h : Heap} {F : List Addr} (hcs : cs.length = n) (hn : n < 2 ^ 31) (had : a ≠ d) (hd : d ∈ F) (Aa : Arv E.Z h a ka .char n.toInt32 (ints cs) (.int 0)) (Ad : Arv E.Z h d kd .byte n.toInt32 vs (.int 0)) (hvl : vs.length = n) :
    Met E (⟨"java/lang/StringUTF16", "compress", "([CI[BII)I"⟩ : MethodName) jdk_52_method_21_code 7 (some .int) ({ frames := 0, cells := 0, slots := 0, locals := 0 } : Room) #[.ref a, .int 0, .ref d, .int 0, .int n.toInt32] h F (QC5 E cs n a d kd h F) := by
  refine met_of (by decide +kernel) fun x T hQ B W => ?_
  refine G.cast (g' := fr x 0 #[.val (.ref a), .val (.int 0), .val (.ref d), .val (.int 0), .val (.int n.toInt32), .unset, .unset] []) (by simp [entryFrame, mkF, argsToLocals, Own.cat_r, Own.cat_i, Own.cat_j, Own.cat_n]) ?_
  refine w_iconst W B d_cmp5_0 (v := (0 : Int32)) rfl ?_
  refine w_istore W B d_cmp5_1 (Ls' := #[.val (.ref a), .val (.int (0 : Int32)), .val (.ref d), .val (.int (0 : Int32)), .val (.int n.toInt32), .val (.int (0 : Int32)), .unset]) rfl ?_
  exact cmp5_turns hw hQ B hcs hn had hd n 0 T h .unset vs (Nat.zero_add n) (Or.inl rfl) W Aa Ad hvl (fun j q => absurd q (Nat.not_lt_zero _)) (fun j q => absurd q (Nat.not_lt_zero _)) (Keep.refl _ _)
/-- the String at s spells cs; v: its byte[] -/
def StrV (E : Gl) (h : Heap) (s v : Addr) (cs : List Int32) : Prop := ∃ k : ClassId, Exa E.Z h s "java/lang/String" ∧ Fld E.Z h s "java/lang/String" "value" "[B" (.ref v) ∧ Ch cs ∧
  ((Lat cs ∧ Fld E.Z h s "java/lang/String" "coder" "B" (.int 0) ∧ Arv E.Z h v k .byte cs.length.toInt32 (b8 cs) (.int 0)) ∨ (¬ Lat cs ∧ Fld E.Z h s "java/lang/String" "coder" "B" (.int 1) ∧ Arv E.Z h v k .byte (2 * cs.length).toInt32 (b16 cs) (.int 0)))
theorem StrV.ext {E : Gl} {h h' : Heap} {s v : Addr} {cs : List Int32} (F : StrV E h s v cs) (X : Ext h h') : StrV E h' s v cs := by
  obtain ⟨k, h1, h2, h3, h4⟩ := F
  exact ⟨k, h1.ext X, h2.ext X, h3, h4.imp (fun q => ⟨q.1, q.2.1.ext X, q.2.2.ext X⟩) (fun q => ⟨q.1, q.2.1.ext X, q.2.2.ext X⟩)⟩
theorem StrV.keep {E : Gl} {h h' : Heap} {s v : Addr} {cs : List Int32} {ws : List Addr} (F : StrV E h s v cs) (K : Keep h h' ws) (q1 : s ∉ ws) (q2 : v ∉ ws) : StrV E h' s v cs := by
  obtain ⟨k, h1, h2, h3, h4⟩ := F
  exact ⟨k, h1.keep K, h2.keep K q1, h3, h4.imp (fun q => ⟨q.1, q.2.1.keep K q1, q.2.2.keep K q2⟩) (fun q => ⟨q.1, q.2.1.keep K q1, q.2.2.keep K q2⟩)⟩
theorem StrV.exa {E : Gl} {h : Heap} {s v : Addr} {cs : List Int32} (F : StrV E h s v cs) : Exa E.Z h s "java/lang/String" := by obtain ⟨k, h1, -⟩ := F; exact h1
theorem StrV.lt {E : Gl} {h : Heap} {s v : Addr} {cs : List Int32} (F : StrV E h s v cs) : s < h.size := F.exa.lt
theorem StrV.ltv {E : Gl} {h : Heap} {s v : Addr} {cs : List Int32} (F : StrV E h s v cs) : v < h.size := by obtain ⟨k, h1, h2, h3, h4⟩ := F; rcases h4 with q | q; exact q.2.2.lt; exact q.2.2.lt
theorem compact {E : Gl} (hw : Tb E) : ∃ z : Int32, Sta E.Z E.Z.heap "java/lang/String" "COMPACT_STRINGS" "Z" (.int z) ∧ ¬ z = 0 := by
  obtain ⟨z, e⟩ := is_v (Cond.before_iff.mp (sd hw 1 rfl))
  exact ⟨z, Sta.start e (Or.inl (sd hw 0 rfl)), gotF (Cond.eq_ints e (Term.int_eval 0)) (not_v (Cond.before_iff.mp (sd hw 2 rfl)))⟩
/-- what a constructor of String leaves -/
def QStr (E : Gl) (cs : List Int32) (s : Addr) (h : Heap) (F : List Addr) (r : Option Value) (h' : Heap) (F' : List Addr) : Prop := r = none ∧ F = F' ∧ Keep h h' [s] ∧ ∃ v : Addr, StrV E h' s v cs ∧ ∀ y ∈ F, y ≠ v
theorem pd___CI_BII_I688 : parseMethodDescriptor "([CI[BII)I" = some ⟨[(.array .char), .int, (.array .byte), .int, .int], (some .int)⟩ := by decide +kernel
theorem pd___CII__B542 : parseMethodDescriptor "([CII)[B" = some ⟨[(.array .char), .int, .int], (some (.array .byte))⟩ := by decide +kernel
theorem pd___BI_B377 : parseMethodDescriptor "([BI)B" = some ⟨[(.array .byte), .int], (some .byte)⟩ := by decide +kernel
theorem pd___CIILjava_lang_Void__V941 : parseMethodDescriptor "([CIILjava/lang/Void;)V" = some ⟨[(.array .char), .int, .int, (.object "java/lang/Void")], none⟩ := by decide +kernel
theorem pd___V167 : parseMethodDescriptor "()V" = some ⟨[], none⟩ := by decide +kernel
theorem pd__J_V241 : parseMethodDescriptor "(J)V" = some ⟨[.long], none⟩ := by decide +kernel
theorem pd__II_I300 : parseMethodDescriptor "(II)I" = some ⟨[.int, .int], (some .int)⟩ := by decide +kernel
theorem pd__I__Ljava_lang_Object_912 : parseMethodDescriptor "(I)[Ljava/lang/Object;" = some ⟨[.int], (some (.array (.object "java/lang/Object")))⟩ := by decide +kernel
theorem pd____Ljava_lang_Object_839 : parseMethodDescriptor "()[Ljava/lang/Object;" = some ⟨[], (some (.array (.object "java/lang/Object")))⟩ := by decide +kernel
theorem pd__Ljava_lang_Object__Ljava_lang_Object_I_V668 : parseMethodDescriptor "(Ljava/lang/Object;[Ljava/lang/Object;I)V" = some ⟨[(.object "java/lang/Object"), (.array (.object "java/lang/Object")), .int], none⟩ := by decide +kernel
theorem pd__IILjava_util_function_BiFunction__I328 : parseMethodDescriptor "(IILjava/util/function/BiFunction;)I" = some ⟨[.int, .int, (.object "java/util/function/BiFunction")], (some .int)⟩ := by decide +kernel
theorem pd__I_Ljava_lang_Object_821 : parseMethodDescriptor "(I)Ljava/lang/Object;" = some ⟨[.int], (some (.object "java/lang/Object"))⟩ := by decide +kernel
theorem pd__J_Ljava_lang_Long_623 : parseMethodDescriptor "(J)Ljava/lang/Long;" = some ⟨[.long], (some (.object "java/lang/Long"))⟩ := by decide +kernel
theorem pd__Ljava_lang_String_Lcom_example_lakebed_lakebed_table_FileGroup_JLjava_lang_Long_Z_V803 : parseMethodDescriptor "(Ljava/lang/String;Lcom/example/lakebed/lakebed/table/FileGroup;JLjava/lang/Long;Z)V" = some ⟨[(.object "java/lang/String"), (.object "com/example/lakebed/lakebed/table/FileGroup"), .long, (.object "java/lang/Long"), .boolean], none⟩ := by decide +kernel
theorem pd__JJ_J303 : parseMethodDescriptor "(JJ)J" = some ⟨[.long, .long], (some .long)⟩ := by decide +kernel
theorem pd__Ljava_lang_Object__Z838 : parseMethodDescriptor "(Ljava/lang/Object;)Z" = some ⟨[(.object "java/lang/Object")], (some .boolean)⟩ := by decide +kernel
theorem pd___Z171 : parseMethodDescriptor "()Z" = some ⟨[], (some .boolean)⟩ := by decide +kernel
theorem pd__Ljava_lang_String_Lcom_example_lakebed_lakebed_table_FileGroup_JJ_Lcom_example_lakebed_lakebed_table_PlannedFile_716 : parseMethodDescriptor "(Ljava/lang/String;Lcom/example/lakebed/lakebed/table/FileGroup;JJ)Lcom/example/lakebed/lakebed/table/PlannedFile;" = some ⟨[(.object "java/lang/String"), (.object "com/example/lakebed/lakebed/table/FileGroup"), .long, .long], (some (.object "com/example/lakebed/lakebed/table/PlannedFile"))⟩ := by decide +kernel
theorem pd__Ljava_lang_String_Lcom_example_lakebed_lakebed_table_FileGroup_J_Ljava_util_List_667 : parseMethodDescriptor "(Ljava/lang/String;Lcom/example/lakebed/lakebed/table/FileGroup;J)Ljava/util/List;" = some ⟨[(.object "java/lang/String"), (.object "com/example/lakebed/lakebed/table/FileGroup"), .long], (some (.object "java/util/List"))⟩ := by decide +kernel
theorem pd___C_V325 : parseMethodDescriptor "([C)V" = some ⟨[(.array .char)], none⟩ := by decide +kernel
theorem d_cod_0 : Own.D jdk_52_method_15_code 0 (.iload_n 1) 1 1 := ⟨by decide +kernel, rfl⟩
theorem d_cod_1 : Own.D jdk_52_method_15_code 1 (.aload_n 0) 1 2 := ⟨by decide +kernel, rfl⟩
theorem d_cod_2 : Own.D jdk_52_method_15_code 2 .arraylength 1 3 := ⟨by decide +kernel, rfl⟩
theorem d_cod_3 : Own.D jdk_52_method_15_code 3 .isub 1 4 := ⟨by decide +kernel, rfl⟩
theorem d_cod_4 : Own.D jdk_52_method_15_code 4 (.bipush 31) 2 6 := ⟨by decide +kernel, rfl⟩
theorem d_cod_6 : Own.D jdk_52_method_15_code 6 .iushr 1 7 := ⟨by decide +kernel, rfl⟩
theorem d_cod_7 : Own.D jdk_52_method_15_code 7 .i2b 1 8 := ⟨by decide +kernel, rfl⟩
theorem d_cod_8 : Own.D jdk_52_method_15_code 8 .ireturn 1 9 := ⟨by decide +kernel, rfl⟩
theorem d_cmp3_0 : Own.D jdk_52_method_16_code 0 (.iload_n 2) 1 1 := ⟨by decide +kernel, rfl⟩
theorem d_cmp3_1 : Own.D jdk_52_method_16_code 1 (.newarray .byte) 2 3 := ⟨by decide +kernel, rfl⟩
theorem d_cmp3_3 : Own.D jdk_52_method_16_code 3 (.astore_n 3) 1 4 := ⟨by decide +kernel, rfl⟩
theorem d_cmp3_4 : Own.D jdk_52_method_16_code 4 (.aload_n 0) 1 5 := ⟨by decide +kernel, rfl⟩
theorem d_cmp3_5 : Own.D jdk_52_method_16_code 5 (.iload_n 1) 1 6 := ⟨by decide +kernel, rfl⟩
theorem d_cmp3_6 : Own.D jdk_52_method_16_code 6 (.aload_n 3) 1 7 := ⟨by decide +kernel, rfl⟩
theorem d_cmp3_7 : Own.D jdk_52_method_16_code 7 (.iconst 0) 1 8 := ⟨by decide +kernel, rfl⟩
theorem d_cmp3_8 : Own.D jdk_52_method_16_code 8 (.iload_n 2) 1 9 := ⟨by decide +kernel, rfl⟩
theorem d_cmp3_9 : Own.D jdk_52_method_16_code 9 (.invokestatic 115) 3 12 := ⟨by decide +kernel, rfl⟩
theorem d_cmp3_12 : Own.D jdk_52_method_16_code 12 (.istore 4) 2 14 := ⟨by decide +kernel, rfl⟩
theorem d_cmp3_14 : Own.D jdk_52_method_16_code 14 (.iload 4) 2 16 := ⟨by decide +kernel, rfl⟩
theorem d_cmp3_16 : Own.D jdk_52_method_16_code 16 (.iload_n 2) 1 17 := ⟨by decide +kernel, rfl⟩
theorem d_cmp3_17 : Own.J jdk_52_method_16_code 17 (.if_icmp .eq 40) 3 20 40 57 := ⟨by decide +kernel, rfl, by decide, by decide⟩
theorem d_cmp3_57 : Own.D jdk_52_method_16_code 57 (.aload_n 3) 1 58 := ⟨by decide +kernel, rfl⟩
theorem d_cmp3_58 : Own.D jdk_52_method_16_code 58 .areturn 1 59 := ⟨by decide +kernel, rfl⟩
theorem d_ini4_0 : Own.D jdk_42_method_149_code 0 (.aload_n 0) 1 1 := ⟨by decide +kernel, rfl⟩
theorem d_ini4_1 : Own.D jdk_42_method_149_code 1 (.invokespecial 1) 3 4 := ⟨by decide +kernel, rfl⟩
theorem d_ini4_4 : Own.D jdk_42_method_149_code 4 (.iload_n 3) 1 5 := ⟨by decide +kernel, rfl⟩
theorem d_ini4_5 : Own.J jdk_42_method_149_code 5 (.ifCond .ne 22) 3 8 22 27 := ⟨by decide +kernel, rfl, by decide, by decide⟩
theorem d_ini4_27 : Own.D jdk_42_method_149_code 27 (.getstatic 38) 3 30 := ⟨by decide +kernel, rfl⟩
theorem d_ini4_30 : Own.J jdk_42_method_149_code 30 (.ifCond .eq 28) 3 33 28 58 := ⟨by decide +kernel, rfl, by decide, by decide⟩
theorem d_ini4_33 : Own.D jdk_42_method_149_code 33 (.aload_n 1) 1 34 := ⟨by decide +kernel, rfl⟩
theorem d_ini4_34 : Own.D jdk_42_method_149_code 34 (.iload_n 2) 1 35 := ⟨by decide +kernel, rfl⟩
theorem d_ini4_35 : Own.D jdk_42_method_149_code 35 (.iload_n 3) 1 36 := ⟨by decide +kernel, rfl⟩
theorem d_ini4_36 : Own.D jdk_42_method_149_code 36 (.invokestatic 177) 3 39 := ⟨by decide +kernel, rfl⟩
theorem d_ini4_39 : Own.D jdk_42_method_149_code 39 (.astore 5) 2 41 := ⟨by decide +kernel, rfl⟩
theorem d_ini4_41 : Own.D jdk_42_method_149_code 41 (.aload_n 0) 1 42 := ⟨by decide +kernel, rfl⟩
theorem d_ini4_42 : Own.D jdk_42_method_149_code 42 (.aload 5) 2 44 := ⟨by decide +kernel, rfl⟩
theorem d_ini4_44 : Own.D jdk_42_method_149_code 44 (.iload_n 3) 1 45 := ⟨by decide +kernel, rfl⟩
theorem d_ini4_45 : Own.D jdk_42_method_149_code 45 (.invokestatic 47) 3 48 := ⟨by decide +kernel, rfl⟩
theorem d_ini4_48 : Own.D jdk_42_method_149_code 48 (.putfield 15) 3 51 := ⟨by decide +kernel, rfl⟩
theorem d_ini4_51 : Own.D jdk_42_method_149_code 51 (.aload_n 0) 1 52 := ⟨by decide +kernel, rfl⟩
theorem d_ini4_52 : Own.D jdk_42_method_149_code 52 (.aload 5) 2 54 := ⟨by decide +kernel, rfl⟩
theorem d_ini4_54 : Own.D jdk_42_method_149_code 54 (.putfield 9) 3 57 := ⟨by decide +kernel, rfl⟩
theorem d_ini4_57 : Own.D jdk_42_method_149_code 57 .return_ 1 58 := ⟨by decide +kernel, rfl⟩
theorem d_ini1_0 : Own.D jdk_42_method_3_code 0 (.aload_n 0) 1 1 := ⟨by decide +kernel, rfl⟩
theorem d_ini1_1 : Own.D jdk_42_method_3_code 1 (.aload_n 1) 1 2 := ⟨by decide +kernel, rfl⟩
theorem d_ini1_2 : Own.D jdk_42_method_3_code 2 (.iconst 0) 1 3 := ⟨by decide +kernel, rfl⟩
theorem d_ini1_3 : Own.D jdk_42_method_3_code 3 (.aload_n 1) 1 4 := ⟨by decide +kernel, rfl⟩
theorem d_ini1_4 : Own.D jdk_42_method_3_code 4 .arraylength 1 5 := ⟨by decide +kernel, rfl⟩
theorem d_ini1_5 : Own.D jdk_42_method_3_code 5 .aconst_null 1 6 := ⟨by decide +kernel, rfl⟩
theorem d_ini1_6 : Own.D jdk_42_method_3_code 6 (.invokespecial 27) 3 9 := ⟨by decide +kernel, rfl⟩
theorem d_ini1_9 : Own.D jdk_42_method_3_code 9 .return_ 1 10 := ⟨by decide +kernel, rfl⟩
theorem d_rec_0 : Own.D jdk_30_method_1_code 0 (.aload_n 0) 1 1 := ⟨by decide +kernel, rfl⟩
theorem d_rec_1 : Own.D jdk_30_method_1_code 1 (.invokespecial 1) 3 4 := ⟨by decide +kernel, rfl⟩
theorem d_rec_4 : Own.D jdk_30_method_1_code 4 .return_ 1 5 := ⟨by decide +kernel, rfl⟩
theorem d_num_0 : Own.D jdk_18_method_1_code 0 (.aload_n 0) 1 1 := ⟨by decide +kernel, rfl⟩
theorem d_num_1 : Own.D jdk_18_method_1_code 1 (.invokespecial 1) 3 4 := ⟨by decide +kernel, rfl⟩
theorem d_num_4 : Own.D jdk_18_method_1_code 4 .return_ 1 5 := ⟨by decide +kernel, rfl⟩
theorem d_abc_0 : Own.D jdk_22_method_1_code 0 (.aload_n 0) 1 1 := ⟨by decide +kernel, rfl⟩
theorem d_abc_1 : Own.D jdk_22_method_1_code 1 (.invokespecial 1) 3 4 := ⟨by decide +kernel, rfl⟩
theorem d_abc_4 : Own.D jdk_22_method_1_code 4 .return_ 1 5 := ⟨by decide +kernel, rfl⟩
theorem d_pf_0 : Own.D prog_84_method_1_code 0 (.aload_n 0) 1 1 := ⟨by decide +kernel, rfl⟩
theorem d_pf_1 : Own.D prog_84_method_1_code 1 (.invokespecial 1) 3 4 := ⟨by decide +kernel, rfl⟩
theorem d_pf_4 : Own.D prog_84_method_1_code 4 (.aload_n 0) 1 5 := ⟨by decide +kernel, rfl⟩
theorem d_pf_5 : Own.D prog_84_method_1_code 5 (.aload_n 1) 1 6 := ⟨by decide +kernel, rfl⟩
theorem d_pf_6 : Own.D prog_84_method_1_code 6 (.putfield 7) 3 9 := ⟨by decide +kernel, rfl⟩
theorem d_pf_9 : Own.D prog_84_method_1_code 9 (.aload_n 0) 1 10 := ⟨by decide +kernel, rfl⟩
theorem d_pf_10 : Own.D prog_84_method_1_code 10 (.aload_n 2) 1 11 := ⟨by decide +kernel, rfl⟩
theorem d_pf_11 : Own.D prog_84_method_1_code 11 (.putfield 13) 3 14 := ⟨by decide +kernel, rfl⟩
theorem d_pf_14 : Own.D prog_84_method_1_code 14 (.aload_n 0) 1 15 := ⟨by decide +kernel, rfl⟩
theorem d_pf_15 : Own.D prog_84_method_1_code 15 (.lload_n 3) 1 16 := ⟨by decide +kernel, rfl⟩
theorem d_pf_16 : Own.D prog_84_method_1_code 16 (.putfield 17) 3 19 := ⟨by decide +kernel, rfl⟩
theorem d_pf_19 : Own.D prog_84_method_1_code 19 (.aload_n 0) 1 20 := ⟨by decide +kernel, rfl⟩
theorem d_pf_20 : Own.D prog_84_method_1_code 20 (.aload 5) 2 22 := ⟨by decide +kernel, rfl⟩
theorem d_pf_22 : Own.D prog_84_method_1_code 22 (.putfield 21) 3 25 := ⟨by decide +kernel, rfl⟩
theorem d_pf_25 : Own.D prog_84_method_1_code 25 (.aload_n 0) 1 26 := ⟨by decide +kernel, rfl⟩
theorem d_pf_26 : Own.D prog_84_method_1_code 26 (.iload 6) 2 28 := ⟨by decide +kernel, rfl⟩
theorem d_pf_28 : Own.D prog_84_method_1_code 28 (.putfield 25) 3 31 := ⟨by decide +kernel, rfl⟩
theorem d_pf_31 : Own.D prog_84_method_1_code 31 .return_ 1 32 := ⟨by decide +kernel, rfl⟩
theorem d_isch_0 : Own.D prog_84_method_5_code 0 (.aload_n 0) 1 1 := ⟨by decide +kernel, rfl⟩
theorem d_isch_1 : Own.D prog_84_method_5_code 1 (.getfield 21) 3 4 := ⟨by decide +kernel, rfl⟩
theorem d_isch_4 : Own.J prog_84_method_5_code 4 (.ifnull 7) 3 7 7 11 := ⟨by decide +kernel, rfl, by decide, by decide⟩
theorem d_isch_11 : Own.D prog_84_method_5_code 11 (.iconst 0) 1 12 := ⟨by decide +kernel, rfl⟩
theorem d_isch_12 : Own.D prog_84_method_5_code 12 .ireturn 1 13 := ⟨by decide +kernel, rfl⟩
theorem d_isch_7 : Own.D prog_84_method_5_code 7 (.iconst 1) 1 8 := ⟨by decide +kernel, rfl⟩
theorem d_isch_8 : Own.J prog_84_method_5_code 8 (.goto 4) 3 11 4 12 := ⟨by decide +kernel, rfl, by decide, by decide⟩
theorem d_linit_0 : Own.D jdk_35_method_26_code 0 (.aload_n 0) 1 1 := ⟨by decide +kernel, rfl⟩
theorem d_linit_1 : Own.D jdk_35_method_26_code 1 (.invokespecial 270) 3 4 := ⟨by decide +kernel, rfl⟩
theorem d_linit_4 : Own.D jdk_35_method_26_code 4 (.aload_n 0) 1 5 := ⟨by decide +kernel, rfl⟩
theorem d_linit_5 : Own.D jdk_35_method_26_code 5 (.lload_n 1) 1 6 := ⟨by decide +kernel, rfl⟩
theorem d_linit_6 : Own.D jdk_35_method_26_code 6 (.putfield 273) 3 9 := ⟨by decide +kernel, rfl⟩
theorem d_linit_9 : Own.D jdk_35_method_26_code 9 .return_ 1 10 := ⟨by decide +kernel, rfl⟩
theorem d_lval_0 : Own.D jdk_35_method_24_code 0 (.sipush 128) 3 3 := ⟨by decide +kernel, rfl⟩
theorem d_lval_3 : Own.D jdk_35_method_24_code 3 (.istore_n 2) 1 4 := ⟨by decide +kernel, rfl⟩
theorem d_lval_4 : Own.D jdk_35_method_24_code 4 (.lload_n 0) 1 5 := ⟨by decide +kernel, rfl⟩
theorem d_lval_5 : Own.D jdk_35_method_24_code 5 (.ldc2_w 230) 3 8 := ⟨by decide +kernel, rfl⟩
theorem d_lval_8 : Own.D jdk_35_method_24_code 8 .lcmp 1 9 := ⟨by decide +kernel, rfl⟩
theorem d_lval_9 : Own.J jdk_35_method_24_code 9 (.ifCond .lt 22) 3 12 22 31 := ⟨by decide +kernel, rfl, by decide, by decide⟩
theorem d_lval_31 : Own.D jdk_35_method_24_code 31 (.new 1) 3 34 := ⟨by decide +kernel, rfl⟩
theorem d_lval_34 : Own.D jdk_35_method_24_code 34 .dup 1 35 := ⟨by decide +kernel, rfl⟩
theorem d_lval_35 : Own.D jdk_35_method_24_code 35 (.lload_n 0) 1 36 := ⟨by decide +kernel, rfl⟩
theorem d_lval_36 : Own.D jdk_35_method_24_code 36 (.invokespecial 240) 3 39 := ⟨by decide +kernel, rfl⟩
theorem d_lval_39 : Own.D jdk_35_method_24_code 39 .areturn 1 40 := ⟨by decide +kernel, rfl⟩
theorem d_lval_12 : Own.D jdk_35_method_24_code 12 (.lload_n 0) 1 13 := ⟨by decide +kernel, rfl⟩
theorem d_lval_13 : Own.D jdk_35_method_24_code 13 (.ldc2_w 232) 3 16 := ⟨by decide +kernel, rfl⟩
theorem d_lval_16 : Own.D jdk_35_method_24_code 16 .lcmp 1 17 := ⟨by decide +kernel, rfl⟩
theorem d_lval_17 : Own.J jdk_35_method_24_code 17 (.ifCond .gt 14) 3 20 14 31 := ⟨by decide +kernel, rfl, by decide, by decide⟩
theorem d_lval_20 : Own.D jdk_35_method_24_code 20 (.getstatic 234) 3 23 := ⟨by decide +kernel, rfl⟩
theorem d_lval_23 : Own.D jdk_35_method_24_code 23 (.lload_n 0) 1 24 := ⟨by decide +kernel, rfl⟩
theorem d_lval_24 : Own.D jdk_35_method_24_code 24 .l2i 1 25 := ⟨by decide +kernel, rfl⟩
theorem d_lval_25 : Own.D jdk_35_method_24_code 25 (.sipush 128) 3 28 := ⟨by decide +kernel, rfl⟩
theorem d_lval_28 : Own.D jdk_35_method_24_code 28 .iadd 1 29 := ⟨by decide +kernel, rfl⟩
theorem d_lval_29 : Own.D jdk_35_method_24_code 29 .aaload 1 30 := ⟨by decide +kernel, rfl⟩
theorem d_lval_30 : Own.D jdk_35_method_24_code 30 .areturn 1 31 := ⟨by decide +kernel, rfl⟩
theorem d_maxl_0 : Own.D jdk_29_method_66_code 0 (.lload_n 0) 1 1 := ⟨by decide +kernel, rfl⟩
theorem d_maxl_1 : Own.D jdk_29_method_66_code 1 (.lload_n 2) 1 2 := ⟨by decide +kernel, rfl⟩
theorem d_maxl_2 : Own.D jdk_29_method_66_code 2 .lcmp 1 3 := ⟨by decide +kernel, rfl⟩
theorem d_maxl_3 : Own.J jdk_29_method_66_code 3 (.ifCond .lt 7) 3 6 7 10 := ⟨by decide +kernel, rfl, by decide, by decide⟩
theorem d_maxl_10 : Own.D jdk_29_method_66_code 10 (.lload_n 2) 1 11 := ⟨by decide +kernel, rfl⟩
theorem d_maxl_11 : Own.D jdk_29_method_66_code 11 .lreturn 1 12 := ⟨by decide +kernel, rfl⟩
theorem d_maxl_6 : Own.D jdk_29_method_66_code 6 (.lload_n 0) 1 7 := ⟨by decide +kernel, rfl⟩
theorem d_maxl_7 : Own.J jdk_29_method_66_code 7 (.goto 4) 3 10 4 11 := ⟨by decide +kernel, rfl, by decide, by decide⟩
theorem d_maxi_0 : Own.D jdk_29_method_65_code 0 (.iload_n 0) 1 1 := ⟨by decide +kernel, rfl⟩
theorem d_maxi_1 : Own.D jdk_29_method_65_code 1 (.iload_n 1) 1 2 := ⟨by decide +kernel, rfl⟩
theorem d_maxi_2 : Own.J jdk_29_method_65_code 2 (.if_icmp .lt 7) 3 5 7 9 := ⟨by decide +kernel, rfl, by decide, by decide⟩
theorem d_maxi_9 : Own.D jdk_29_method_65_code 9 (.iload_n 1) 1 10 := ⟨by decide +kernel, rfl⟩
theorem d_maxi_10 : Own.D jdk_29_method_65_code 10 .ireturn 1 11 := ⟨by decide +kernel, rfl⟩
theorem d_maxi_5 : Own.D jdk_29_method_65_code 5 (.iload_n 0) 1 6 := ⟨by decide +kernel, rfl⟩
theorem d_maxi_6 : Own.J jdk_29_method_65_code 6 (.goto 4) 3 9 4 10 := ⟨by decide +kernel, rfl, by decide, by decide⟩
theorem d_abl_0 : Own.D jdk_39_method_1_code 0 (.aload_n 0) 1 1 := ⟨by decide +kernel, rfl⟩
theorem d_abl_1 : Own.D jdk_39_method_1_code 1 (.invokespecial 1) 3 4 := ⟨by decide +kernel, rfl⟩
theorem d_abl_4 : Own.D jdk_39_method_1_code 4 (.aload_n 0) 1 5 := ⟨by decide +kernel, rfl⟩
theorem d_abl_5 : Own.D jdk_39_method_1_code 5 (.iconst 0) 1 6 := ⟨by decide +kernel, rfl⟩
theorem d_abl_6 : Own.D jdk_39_method_1_code 6 (.putfield 7) 3 9 := ⟨by decide +kernel, rfl⟩
theorem d_abl_9 : Own.D jdk_39_method_1_code 9 .return_ 1 10 := ⟨by decide +kernel, rfl⟩
theorem d_ali_0 : Own.D jdk_38_method_2_code 0 (.aload_n 0) 1 1 := ⟨by decide +kernel, rfl⟩
theorem d_ali_1 : Own.D jdk_38_method_2_code 1 (.invokespecial 1) 3 4 := ⟨by decide +kernel, rfl⟩
theorem d_ali_4 : Own.D jdk_38_method_2_code 4 (.aload_n 0) 1 5 := ⟨by decide +kernel, rfl⟩
theorem d_ali_5 : Own.D jdk_38_method_2_code 5 (.getstatic 39) 3 8 := ⟨by decide +kernel, rfl⟩
theorem d_ali_8 : Own.D jdk_38_method_2_code 8 (.putfield 9) 3 11 := ⟨by decide +kernel, rfl⟩
theorem d_ali_11 : Own.D jdk_38_method_2_code 11 .return_ 1 12 := ⟨by decide +kernel, rfl⟩
theorem d_grow2_0 : Own.D jdk_38_method_6_code 0 (.aload_n 0) 1 1 := ⟨by decide +kernel, rfl⟩
theorem d_grow2_1 : Own.D jdk_38_method_6_code 1 (.getfield 9) 3 4 := ⟨by decide +kernel, rfl⟩
theorem d_grow2_4 : Own.D jdk_38_method_6_code 4 .arraylength 1 5 := ⟨by decide +kernel, rfl⟩
theorem d_grow2_5 : Own.D jdk_38_method_6_code 5 (.istore_n 2) 1 6 := ⟨by decide +kernel, rfl⟩
theorem d_grow2_6 : Own.D jdk_38_method_6_code 6 (.iload_n 2) 1 7 := ⟨by decide +kernel, rfl⟩
theorem d_grow2_7 : Own.J jdk_38_method_6_code 7 (.ifCond .gt 13) 3 10 13 20 := ⟨by decide +kernel, rfl, by decide, by decide⟩
theorem d_grow2_10 : Own.D jdk_38_method_6_code 10 (.aload_n 0) 1 11 := ⟨by decide +kernel, rfl⟩
theorem d_grow2_11 : Own.D jdk_38_method_6_code 11 (.getfield 9) 3 14 := ⟨by decide +kernel, rfl⟩
theorem d_grow2_14 : Own.D jdk_38_method_6_code 14 (.getstatic 39) 3 17 := ⟨by decide +kernel, rfl⟩
theorem d_grow2_17 : Own.J jdk_38_method_6_code 17 (.if_acmp .eq 28) 3 20 28 45 := ⟨by decide +kernel, rfl, by decide, by decide⟩
theorem d_grow2_45 : Own.D jdk_38_method_6_code 45 (.aload_n 0) 1 46 := ⟨by decide +kernel, rfl⟩
theorem d_grow2_46 : Own.D jdk_38_method_6_code 46 (.bipush 10) 2 48 := ⟨by decide +kernel, rfl⟩
theorem d_grow2_48 : Own.D jdk_38_method_6_code 48 (.iload_n 1) 1 49 := ⟨by decide +kernel, rfl⟩
theorem d_grow2_49 : Own.D jdk_38_method_6_code 49 (.invokestatic 79) 3 52 := ⟨by decide +kernel, rfl⟩
theorem d_grow2_52 : Own.D jdk_38_method_6_code 52 (.anewarray 7) 3 55 := ⟨by decide +kernel, rfl⟩
theorem d_grow2_55 : Own.D jdk_38_method_6_code 55 .dup_x1 1 56 := ⟨by decide +kernel, rfl⟩
theorem d_grow2_56 : Own.D jdk_38_method_6_code 56 (.putfield 9) 3 59 := ⟨by decide +kernel, rfl⟩
theorem d_grow2_59 : Own.D jdk_38_method_6_code 59 .areturn 1 60 := ⟨by decide +kernel, rfl⟩
theorem d_grow0_0 : Own.D jdk_38_method_7_code 0 (.aload_n 0) 1 1 := ⟨by decide +kernel, rfl⟩
theorem d_grow0_1 : Own.D jdk_38_method_7_code 1 (.aload_n 0) 1 2 := ⟨by decide +kernel, rfl⟩
theorem d_grow0_2 : Own.D jdk_38_method_7_code 2 (.getfield 48) 3 5 := ⟨by decide +kernel, rfl⟩
theorem d_grow0_5 : Own.D jdk_38_method_7_code 5 (.iconst 1) 1 6 := ⟨by decide +kernel, rfl⟩
theorem d_grow0_6 : Own.D jdk_38_method_7_code 6 .iadd 1 7 := ⟨by decide +kernel, rfl⟩
theorem d_grow0_7 : Own.D jdk_38_method_7_code 7 (.invokevirtual 69) 3 10 := ⟨by decide +kernel, rfl⟩
theorem d_grow0_10 : Own.D jdk_38_method_7_code 10 .areturn 1 11 := ⟨by decide +kernel, rfl⟩
theorem d_add3_0 : Own.D jdk_38_method_24_code 0 (.iload_n 3) 1 1 := ⟨by decide +kernel, rfl⟩
theorem d_add3_1 : Own.D jdk_38_method_24_code 1 (.aload_n 2) 1 2 := ⟨by decide +kernel, rfl⟩
theorem d_add3_2 : Own.D jdk_38_method_24_code 2 .arraylength 1 3 := ⟨by decide +kernel, rfl⟩
theorem d_add3_3 : Own.J jdk_38_method_24_code 3 (.if_icmp .ne 8) 3 6 8 11 := ⟨by decide +kernel, rfl, by decide, by decide⟩
theorem d_add3_6 : Own.D jdk_38_method_24_code 6 (.aload_n 0) 1 7 := ⟨by decide +kernel, rfl⟩
theorem d_add3_7 : Own.D jdk_38_method_24_code 7 (.invokevirtual 129) 3 10 := ⟨by decide +kernel, rfl⟩
theorem d_add3_10 : Own.D jdk_38_method_24_code 10 (.astore_n 2) 1 11 := ⟨by decide +kernel, rfl⟩
theorem d_add3_11 : Own.D jdk_38_method_24_code 11 (.aload_n 2) 1 12 := ⟨by decide +kernel, rfl⟩
theorem d_add3_12 : Own.D jdk_38_method_24_code 12 (.iload_n 3) 1 13 := ⟨by decide +kernel, rfl⟩
theorem d_add3_13 : Own.D jdk_38_method_24_code 13 (.aload_n 1) 1 14 := ⟨by decide +kernel, rfl⟩
theorem d_add3_14 : Own.D jdk_38_method_24_code 14 .aastore 1 15 := ⟨by decide +kernel, rfl⟩
theorem d_add3_15 : Own.D jdk_38_method_24_code 15 (.aload_n 0) 1 16 := ⟨by decide +kernel, rfl⟩
theorem d_add3_16 : Own.D jdk_38_method_24_code 16 (.iload_n 3) 1 17 := ⟨by decide +kernel, rfl⟩
theorem d_add3_17 : Own.D jdk_38_method_24_code 17 (.iconst 1) 1 18 := ⟨by decide +kernel, rfl⟩
theorem d_add3_18 : Own.D jdk_38_method_24_code 18 .iadd 1 19 := ⟨by decide +kernel, rfl⟩
theorem d_add3_19 : Own.D jdk_38_method_24_code 19 (.putfield 48) 3 22 := ⟨by decide +kernel, rfl⟩
theorem d_add3_22 : Own.D jdk_38_method_24_code 22 .return_ 1 23 := ⟨by decide +kernel, rfl⟩
theorem d_add1_0 : Own.D jdk_38_method_25_code 0 (.aload_n 0) 1 1 := ⟨by decide +kernel, rfl⟩
theorem d_add1_1 : Own.D jdk_38_method_25_code 1 .dup 1 2 := ⟨by decide +kernel, rfl⟩
theorem d_add1_2 : Own.D jdk_38_method_25_code 2 (.getfield 63) 3 5 := ⟨by decide +kernel, rfl⟩
theorem d_add1_5 : Own.D jdk_38_method_25_code 5 (.iconst 1) 1 6 := ⟨by decide +kernel, rfl⟩
theorem d_add1_6 : Own.D jdk_38_method_25_code 6 .iadd 1 7 := ⟨by decide +kernel, rfl⟩
theorem d_add1_7 : Own.D jdk_38_method_25_code 7 (.putfield 63) 3 10 := ⟨by decide +kernel, rfl⟩
theorem d_add1_10 : Own.D jdk_38_method_25_code 10 (.aload_n 0) 1 11 := ⟨by decide +kernel, rfl⟩
theorem d_add1_11 : Own.D jdk_38_method_25_code 11 (.aload_n 1) 1 12 := ⟨by decide +kernel, rfl⟩
theorem d_add1_12 : Own.D jdk_38_method_25_code 12 (.aload_n 0) 1 13 := ⟨by decide +kernel, rfl⟩
theorem d_add1_13 : Own.D jdk_38_method_25_code 13 (.getfield 9) 3 16 := ⟨by decide +kernel, rfl⟩
theorem d_add1_16 : Own.D jdk_38_method_25_code 16 (.aload_n 0) 1 17 := ⟨by decide +kernel, rfl⟩
theorem d_add1_17 : Own.D jdk_38_method_25_code 17 (.getfield 48) 3 20 := ⟨by decide +kernel, rfl⟩
theorem d_add1_20 : Own.D jdk_38_method_25_code 20 (.invokevirtual 131) 3 23 := ⟨by decide +kernel, rfl⟩
theorem d_add1_23 : Own.D jdk_38_method_25_code 23 (.iconst 1) 1 24 := ⟨by decide +kernel, rfl⟩
theorem d_add1_24 : Own.D jdk_38_method_25_code 24 .ireturn 1 25 := ⟨by decide +kernel, rfl⟩
theorem d_pchk_0 : Own.D jdk_41_method_11_code 0 (.iload_n 0) 1 1 := ⟨by decide +kernel, rfl⟩
theorem d_pchk_1 : Own.J jdk_41_method_11_code 1 (.ifCond .lt 8) 3 4 8 9 := ⟨by decide +kernel, rfl, by decide, by decide⟩
theorem d_pchk_4 : Own.D jdk_41_method_11_code 4 (.iload_n 0) 1 5 := ⟨by decide +kernel, rfl⟩
theorem d_pchk_5 : Own.D jdk_41_method_11_code 5 (.iload_n 1) 1 6 := ⟨by decide +kernel, rfl⟩
theorem d_pchk_6 : Own.J jdk_41_method_11_code 6 (.if_icmp .lt 10) 3 9 10 16 := ⟨by decide +kernel, rfl, by decide, by decide⟩
theorem d_pchk_16 : Own.D jdk_41_method_11_code 16 (.iload_n 0) 1 17 := ⟨by decide +kernel, rfl⟩
theorem d_pchk_17 : Own.D jdk_41_method_11_code 17 .ireturn 1 18 := ⟨by decide +kernel, rfl⟩
theorem d_ochk_0 : Own.D jdk_31_method_17_code 0 (.iload_n 0) 1 1 := ⟨by decide +kernel, rfl⟩
theorem d_ochk_1 : Own.D jdk_31_method_17_code 1 (.iload_n 1) 1 2 := ⟨by decide +kernel, rfl⟩
theorem d_ochk_2 : Own.D jdk_31_method_17_code 2 .aconst_null 1 3 := ⟨by decide +kernel, rfl⟩
theorem d_ochk_3 : Own.D jdk_31_method_17_code 3 (.invokestatic 105) 3 6 := ⟨by decide +kernel, rfl⟩
theorem d_ochk_6 : Own.D jdk_31_method_17_code 6 .ireturn 1 7 := ⟨by decide +kernel, rfl⟩
theorem d_eld_0 : Own.D jdk_38_method_18_code 0 (.aload_n 0) 1 1 := ⟨by decide +kernel, rfl⟩
theorem d_eld_1 : Own.D jdk_38_method_18_code 1 (.getfield 9) 3 4 := ⟨by decide +kernel, rfl⟩
theorem d_eld_4 : Own.D jdk_38_method_18_code 4 (.iload_n 1) 1 5 := ⟨by decide +kernel, rfl⟩
theorem d_eld_5 : Own.D jdk_38_method_18_code 5 .aaload 1 6 := ⟨by decide +kernel, rfl⟩
theorem d_eld_6 : Own.D jdk_38_method_18_code 6 .areturn 1 7 := ⟨by decide +kernel, rfl⟩
theorem d_get_0 : Own.D jdk_38_method_20_code 0 (.iload_n 1) 1 1 := ⟨by decide +kernel, rfl⟩
theorem d_get_1 : Own.D jdk_38_method_20_code 1 (.aload_n 0) 1 2 := ⟨by decide +kernel, rfl⟩
theorem d_get_2 : Own.D jdk_38_method_20_code 2 (.getfield 48) 3 5 := ⟨by decide +kernel, rfl⟩
theorem d_get_5 : Own.D jdk_38_method_20_code 5 (.invokestatic 118) 3 8 := ⟨by decide +kernel, rfl⟩
theorem d_get_8 : Own.D jdk_38_method_20_code 8 .pop 1 9 := ⟨by decide +kernel, rfl⟩
theorem d_get_9 : Own.D jdk_38_method_20_code 9 (.aload_n 0) 1 10 := ⟨by decide +kernel, rfl⟩
theorem d_get_10 : Own.D jdk_38_method_20_code 10 (.iload_n 1) 1 11 := ⟨by decide +kernel, rfl⟩
theorem d_get_11 : Own.D jdk_38_method_20_code 11 (.invokevirtual 123) 3 14 := ⟨by decide +kernel, rfl⟩
theorem d_get_14 : Own.D jdk_38_method_20_code 14 .areturn 1 15 := ⟨by decide +kernel, rfl⟩
theorem d_chg_0 : Own.D prog_84_method_3_code 0 (.new 8) 3 3 := ⟨by decide +kernel, rfl⟩
theorem d_chg_3 : Own.D prog_84_method_3_code 3 .dup 1 4 := ⟨by decide +kernel, rfl⟩
theorem d_chg_4 : Own.D prog_84_method_3_code 4 (.aload_n 0) 1 5 := ⟨by decide +kernel, rfl⟩
theorem d_chg_5 : Own.D prog_84_method_3_code 5 (.aload_n 1) 1 6 := ⟨by decide +kernel, rfl⟩
theorem d_chg_6 : Own.D prog_84_method_3_code 6 (.lload_n 2) 1 7 := ⟨by decide +kernel, rfl⟩
theorem d_chg_7 : Own.D prog_84_method_3_code 7 (.lload 4) 2 9 := ⟨by decide +kernel, rfl⟩
theorem d_chg_9 : Own.D prog_84_method_3_code 9 (.invokestatic 60) 3 12 := ⟨by decide +kernel, rfl⟩
theorem d_chg_12 : Own.D prog_84_method_3_code 12 (.iconst 0) 1 13 := ⟨by decide +kernel, rfl⟩
theorem d_chg_13 : Own.D prog_84_method_3_code 13 (.invokespecial 51) 3 16 := ⟨by decide +kernel, rfl⟩
theorem d_chg_16 : Own.D prog_84_method_3_code 16 .areturn 1 17 := ⟨by decide +kernel, rfl⟩
theorem d_grp_0 : Own.D prog_84_method_2_code 0 (.lconst 1) 1 1 := ⟨by decide +kernel, rfl⟩
theorem d_grp_1 : Own.D prog_84_method_2_code 1 (.lload_n 2) 1 2 := ⟨by decide +kernel, rfl⟩
theorem d_grp_2 : Own.D prog_84_method_2_code 2 (.ldc2_w 29) 3 5 := ⟨by decide +kernel, rfl⟩
theorem d_grp_5 : Own.D prog_84_method_2_code 5 .ladd 1 6 := ⟨by decide +kernel, rfl⟩
theorem d_grp_6 : Own.D prog_84_method_2_code 6 (.lconst 1) 1 7 := ⟨by decide +kernel, rfl⟩
theorem d_grp_7 : Own.D prog_84_method_2_code 7 .lsub 1 8 := ⟨by decide +kernel, rfl⟩
theorem d_grp_8 : Own.D prog_84_method_2_code 8 (.ldc2_w 29) 3 11 := ⟨by decide +kernel, rfl⟩
theorem d_grp_11 : Own.D prog_84_method_2_code 11 .ldiv 1 12 := ⟨by decide +kernel, rfl⟩
theorem d_grp_12 : Own.D prog_84_method_2_code 12 (.invokestatic 31) 3 15 := ⟨by decide +kernel, rfl⟩
theorem d_grp_15 : Own.D prog_84_method_2_code 15 (.lstore 4) 2 17 := ⟨by decide +kernel, rfl⟩
theorem d_grp_17 : Own.D prog_84_method_2_code 17 (.lload 4) 2 19 := ⟨by decide +kernel, rfl⟩
theorem d_grp_19 : Own.D prog_84_method_2_code 19 (.lconst 1) 1 20 := ⟨by decide +kernel, rfl⟩
theorem d_grp_20 : Own.D prog_84_method_2_code 20 .lcmp 1 21 := ⟨by decide +kernel, rfl⟩
theorem d_grp_21 : Own.J prog_84_method_2_code 21 (.ifCond .ne 23) 3 24 23 44 := ⟨by decide +kernel, rfl, by decide, by decide⟩
theorem d_grp_24 : Own.D prog_84_method_2_code 24 (.aload_n 1) 1 25 := ⟨by decide +kernel, rfl⟩
theorem d_grp_25 : Own.J prog_84_method_2_code 25 (.ifnull 19) 3 28 19 44 := ⟨by decide +kernel, rfl, by decide, by decide⟩
theorem d_grp_44 : Own.D prog_84_method_2_code 44 (.iconst 0) 1 45 := ⟨by decide +kernel, rfl⟩
theorem d_grp_45 : Own.D prog_84_method_2_code 45 (.istore 6) 2 47 := ⟨by decide +kernel, rfl⟩
theorem d_grp_47 : Own.D prog_84_method_2_code 47 (.new 48) 3 50 := ⟨by decide +kernel, rfl⟩
theorem d_grp_50 : Own.D prog_84_method_2_code 50 .dup 1 51 := ⟨by decide +kernel, rfl⟩
theorem d_grp_51 : Own.D prog_84_method_2_code 51 (.invokespecial 50) 3 54 := ⟨by decide +kernel, rfl⟩
theorem d_grp_54 : Own.D prog_84_method_2_code 54 (.astore 7) 2 56 := ⟨by decide +kernel, rfl⟩
theorem d_grp_56 : Own.D prog_84_method_2_code 56 (.lconst 0) 1 57 := ⟨by decide +kernel, rfl⟩
theorem d_grp_57 : Own.D prog_84_method_2_code 57 (.lstore 8) 2 59 := ⟨by decide +kernel, rfl⟩
theorem d_grp_59 : Own.D prog_84_method_2_code 59 (.lload 8) 2 61 := ⟨by decide +kernel, rfl⟩
theorem d_grp_61 : Own.D prog_84_method_2_code 61 (.lload 4) 2 63 := ⟨by decide +kernel, rfl⟩
theorem d_grp_63 : Own.D prog_84_method_2_code 63 .lcmp 1 64 := ⟨by decide +kernel, rfl⟩
theorem d_grp_64 : Own.J prog_84_method_2_code 64 (.ifCond .ge 68) 3 67 68 132 := ⟨by decide +kernel, rfl, by decide, by decide⟩
theorem d_grp_67 : Own.D prog_84_method_2_code 67 (.lload_n 2) 1 68 := ⟨by decide +kernel, rfl⟩
theorem d_grp_68 : Own.D prog_84_method_2_code 68 (.lload 4) 2 70 := ⟨by decide +kernel, rfl⟩
theorem d_grp_70 : Own.D prog_84_method_2_code 70 .ldiv 1 71 := ⟨by decide +kernel, rfl⟩
theorem d_grp_71 : Own.D prog_84_method_2_code 71 (.lload 8) 2 73 := ⟨by decide +kernel, rfl⟩
theorem d_grp_73 : Own.D prog_84_method_2_code 73 (.lload_n 2) 1 74 := ⟨by decide +kernel, rfl⟩
theorem d_grp_74 : Own.D prog_84_method_2_code 74 (.lload 4) 2 76 := ⟨by decide +kernel, rfl⟩
theorem d_grp_76 : Own.D prog_84_method_2_code 76 .lrem 1 77 := ⟨by decide +kernel, rfl⟩
theorem d_grp_77 : Own.D prog_84_method_2_code 77 .lcmp 1 78 := ⟨by decide +kernel, rfl⟩
theorem d_grp_78 : Own.J prog_84_method_2_code 78 (.ifCond .ge 7) 3 81 7 85 := ⟨by decide +kernel, rfl, by decide, by decide⟩
theorem d_grp_85 : Own.D prog_84_method_2_code 85 (.iconst 0) 1 86 := ⟨by decide +kernel, rfl⟩
theorem d_grp_86 : Own.D prog_84_method_2_code 86 .i2l 1 87 := ⟨by decide +kernel, rfl⟩
theorem d_grp_87 : Own.D prog_84_method_2_code 87 .ladd 1 88 := ⟨by decide +kernel, rfl⟩
theorem d_grp_88 : Own.D prog_84_method_2_code 88 (.lstore 10) 2 90 := ⟨by decide +kernel, rfl⟩
theorem d_grp_90 : Own.D prog_84_method_2_code 90 (.aload 7) 2 92 := ⟨by decide +kernel, rfl⟩
theorem d_grp_92 : Own.D prog_84_method_2_code 92 (.new 8) 3 95 := ⟨by decide +kernel, rfl⟩
theorem d_grp_95 : Own.D prog_84_method_2_code 95 .dup 1 96 := ⟨by decide +kernel, rfl⟩
theorem d_grp_96 : Own.D prog_84_method_2_code 96 (.aload_n 0) 1 97 := ⟨by decide +kernel, rfl⟩
theorem d_grp_97 : Own.D prog_84_method_2_code 97 (.lload 8) 2 99 := ⟨by decide +kernel, rfl⟩
theorem d_grp_99 : Own.D prog_84_method_2_code 99 (.lconst 0) 1 100 := ⟨by decide +kernel, rfl⟩
theorem d_grp_100 : Own.D prog_84_method_2_code 100 .lcmp 1 101 := ⟨by decide +kernel, rfl⟩
theorem d_grp_101 : Own.J prog_84_method_2_code 101 (.ifCond .ne 7) 3 104 7 108 := ⟨by decide +kernel, rfl, by decide, by decide⟩
theorem d_grp_104 : Own.D prog_84_method_2_code 104 (.aload_n 1) 1 105 := ⟨by decide +kernel, rfl⟩
theorem d_grp_105 : Own.J prog_84_method_2_code 105 (.goto 4) 3 108 4 109 := ⟨by decide +kernel, rfl, by decide, by decide⟩
theorem d_grp_109 : Own.D prog_84_method_2_code 109 (.lload 10) 2 111 := ⟨by decide +kernel, rfl⟩
theorem d_grp_111 : Own.D prog_84_method_2_code 111 .aconst_null 1 112 := ⟨by decide +kernel, rfl⟩
theorem d_grp_112 : Own.D prog_84_method_2_code 112 (.iload 6) 2 114 := ⟨by decide +kernel, rfl⟩
theorem d_grp_114 : Own.D prog_84_method_2_code 114 (.invokespecial 51) 3 117 := ⟨by decide +kernel, rfl⟩
theorem d_grp_117 : Own.D prog_84_method_2_code 117 (.invokeinterface 54 2) 5 122 := ⟨by decide +kernel, rfl⟩
theorem d_grp_122 : Own.D prog_84_method_2_code 122 .pop 1 123 := ⟨by decide +kernel, rfl⟩
theorem d_grp_123 : Own.D prog_84_method_2_code 123 (.lload 8) 2 125 := ⟨by decide +kernel, rfl⟩
theorem d_grp_125 : Own.D prog_84_method_2_code 125 (.lconst 1) 1 126 := ⟨by decide +kernel, rfl⟩
theorem d_grp_126 : Own.D prog_84_method_2_code 126 .ladd 1 127 := ⟨by decide +kernel, rfl⟩
theorem d_grp_127 : Own.D prog_84_method_2_code 127 (.lstore 8) 2 129 := ⟨by decide +kernel, rfl⟩
theorem d_grp_129 : Own.J prog_84_method_2_code 129 (.goto (-70)) 3 132 (-70) 59 := ⟨by decide +kernel, rfl, by decide, by decide⟩
theorem d_grp_132 : Own.D prog_84_method_2_code 132 (.aload 7) 2 134 := ⟨by decide +kernel, rfl⟩
theorem d_grp_134 : Own.D prog_84_method_2_code 134 .areturn 1 135 := ⟨by decide +kernel, rfl⟩
theorem d_law_67 : Own.D code 67 (.astore 10) 2 69 := ⟨by decide +kernel, rfl⟩
theorem d_law_69 : Own.D code 69 (.new 18) 3 72 := ⟨by decide +kernel, rfl⟩
theorem d_law_72 : Own.D code 72 .dup 1 73 := ⟨by decide +kernel, rfl⟩
theorem d_law_73 : Own.D code 73 (.aload 7) 2 75 := ⟨by decide +kernel, rfl⟩
theorem d_law_75 : Own.D code 75 .aconst_null 1 76 := ⟨by decide +kernel, rfl⟩
theorem d_law_76 : Own.D code 76 (.lload_n 1) 1 77 := ⟨by decide +kernel, rfl⟩
theorem d_law_77 : Own.D code 77 (.aload 10) 2 79 := ⟨by decide +kernel, rfl⟩
theorem d_law_79 : Own.D code 79 (.iload 9) 2 81 := ⟨by decide +kernel, rfl⟩
theorem d_law_81 : Own.D code 81 (.invokespecial 20) 3 84 := ⟨by decide +kernel, rfl⟩
theorem d_law_84 : Own.D code 84 (.astore 11) 2 86 := ⟨by decide +kernel, rfl⟩
theorem d_law_86 : Own.D code 86 (.aload 11) 2 88 := ⟨by decide +kernel, rfl⟩
theorem d_law_88 : Own.D code 88 (.invokevirtual 23) 3 91 := ⟨by decide +kernel, rfl⟩
theorem d_law_91 : Own.D code 91 (.iload 8) 2 93 := ⟨by decide +kernel, rfl⟩
theorem d_law_93 : Own.J code 93 (.if_icmp .ne 7) 3 96 7 100 := ⟨by decide +kernel, rfl, by decide, by decide⟩
theorem d_law_96 : Own.D code 96 (.iconst 1) 1 97 := ⟨by decide +kernel, rfl⟩
theorem d_law_97 : Own.J code 97 (.goto 4) 3 100 4 101 := ⟨by decide +kernel, rfl, by decide, by decide⟩
theorem d_law_101 : Own.D code 101 (.istore 12) 2 103 := ⟨by decide +kernel, rfl⟩
theorem d_law_103 : Own.D code 103 (.aload 7) 2 105 := ⟨by decide +kernel, rfl⟩
theorem d_law_105 : Own.D code 105 .aconst_null 1 106 := ⟨by decide +kernel, rfl⟩
theorem d_law_106 : Own.D code 106 (.lload_n 1) 1 107 := ⟨by decide +kernel, rfl⟩
theorem d_law_107 : Own.D code 107 (.lload_n 3) 1 108 := ⟨by decide +kernel, rfl⟩
theorem d_law_108 : Own.D code 108 (.invokestatic 27) 3 111 := ⟨by decide +kernel, rfl⟩
theorem d_law_111 : Own.D code 111 (.astore 13) 2 113 := ⟨by decide +kernel, rfl⟩
theorem d_law_113 : Own.D code 113 (.aload 13) 2 115 := ⟨by decide +kernel, rfl⟩
theorem d_law_115 : Own.D code 115 (.invokevirtual 23) 3 118 := ⟨by decide +kernel, rfl⟩
theorem d_law_118 : Own.D code 118 (.istore 14) 2 120 := ⟨by decide +kernel, rfl⟩
theorem d_law_120 : Own.D code 120 (.lload_n 1) 1 121 := ⟨by decide +kernel, rfl⟩
theorem d_law_121 : Own.D code 121 (.ldc2_w 31) 3 124 := ⟨by decide +kernel, rfl⟩
theorem d_law_124 : Own.D code 124 .land 1 125 := ⟨by decide +kernel, rfl⟩
theorem d_law_125 : Own.D code 125 (.lstore 15) 2 127 := ⟨by decide +kernel, rfl⟩
theorem d_law_127 : Own.D code 127 (.aload 7) 2 129 := ⟨by decide +kernel, rfl⟩
theorem d_law_129 : Own.D code 129 .aconst_null 1 130 := ⟨by decide +kernel, rfl⟩
theorem d_law_130 : Own.D code 130 (.lload 15) 2 132 := ⟨by decide +kernel, rfl⟩
theorem d_law_132 : Own.D code 132 (.invokestatic 33) 3 135 := ⟨by decide +kernel, rfl⟩
theorem d_law_135 : Own.D code 135 (.astore 17) 2 137 := ⟨by decide +kernel, rfl⟩
theorem d_law_137 : Own.D code 137 (.aload 17) 2 139 := ⟨by decide +kernel, rfl⟩
theorem d_law_139 : Own.D code 139 (.iconst 0) 1 140 := ⟨by decide +kernel, rfl⟩
theorem d_law_140 : Own.D code 140 (.invokeinterface 37 2) 5 145 := ⟨by decide +kernel, rfl⟩
theorem d_law_145 : Own.D code 145 (.checkcast 18) 3 148 := ⟨by decide +kernel, rfl⟩
theorem d_law_148 : Own.D code 148 (.invokevirtual 23) 3 151 := ⟨by decide +kernel, rfl⟩
theorem d_law_151 : Own.J code 151 (.ifCond .ne 7) 3 154 7 158 := ⟨by decide +kernel, rfl, by decide, by decide⟩
theorem d_law_154 : Own.D code 154 (.iconst 1) 1 155 := ⟨by decide +kernel, rfl⟩
theorem d_law_155 : Own.J code 155 (.goto 4) 3 158 4 159 := ⟨by decide +kernel, rfl, by decide, by decide⟩
theorem d_law_159 : Own.D code 159 (.istore 18) 2 161 := ⟨by decide +kernel, rfl⟩
theorem d_law_161 : Own.D code 161 (.iload 12) 2 163 := ⟨by decide +kernel, rfl⟩
theorem d_law_163 : Own.J code 163 (.ifCond .eq 17) 3 166 17 180 := ⟨by decide +kernel, rfl, by decide, by decide⟩
theorem d_law_166 : Own.D code 166 (.iload 14) 2 168 := ⟨by decide +kernel, rfl⟩
theorem d_law_168 : Own.J code 168 (.ifCond .eq 12) 3 171 12 180 := ⟨by decide +kernel, rfl, by decide, by decide⟩
theorem d_law_171 : Own.D code 171 (.iload 18) 2 173 := ⟨by decide +kernel, rfl⟩
theorem d_law_173 : Own.J code 173 (.ifCond .eq 7) 3 176 7 180 := ⟨by decide +kernel, rfl, by decide, by decide⟩
theorem d_law_176 : Own.D code 176 (.iconst 1) 1 177 := ⟨by decide +kernel, rfl⟩
theorem d_law_177 : Own.J code 177 (.goto 4) 3 180 4 181 := ⟨by decide +kernel, rfl, by decide, by decide⟩
theorem d_law_181 : Own.D code 181 .ireturn 1 182 := ⟨by decide +kernel, rfl⟩
theorem d_law_52 : Own.D code 52 (.istore 9) 2 54 := ⟨by decide +kernel, rfl⟩
theorem d_law_54 : Own.D code 54 (.iload 8) 2 56 := ⟨by decide +kernel, rfl⟩
theorem d_law_56 : Own.J code 56 (.ifCond .eq 10) 3 59 10 66 := ⟨by decide +kernel, rfl, by decide, by decide⟩
theorem d_law_66 : Own.D code 66 .aconst_null 1 67 := ⟨by decide +kernel, rfl⟩
theorem d_law_59 : Own.D code 59 (.lload_n 3) 1 60 := ⟨by decide +kernel, rfl⟩
theorem d_law_60 : Own.D code 60 (.invokestatic 12) 3 63 := ⟨by decide +kernel, rfl⟩
theorem d_law_63 : Own.J code 63 (.goto 4) 3 66 4 67 := ⟨by decide +kernel, rfl, by decide, by decide⟩
theorem d_law_38 : Own.D code 38 (.istore 8) 2 40 := ⟨by decide +kernel, rfl⟩
theorem d_law_40 : Own.D code 40 (.iload 5) 2 42 := ⟨by decide +kernel, rfl⟩
theorem d_law_42 : Own.D code 42 (.iconst 2) 1 43 := ⟨by decide +kernel, rfl⟩
theorem d_law_43 : Own.D code 43 .iand 1 44 := ⟨by decide +kernel, rfl⟩
theorem d_law_44 : Own.J code 44 (.ifCond .eq 7) 3 47 7 51 := ⟨by decide +kernel, rfl, by decide, by decide⟩
theorem d_law_51 : Own.D code 51 (.iconst 0) 1 52 := ⟨by decide +kernel, rfl⟩
theorem d_law_47 : Own.D code 47 (.iconst 1) 1 48 := ⟨by decide +kernel, rfl⟩
theorem d_law_48 : Own.J code 48 (.goto 4) 3 51 4 52 := ⟨by decide +kernel, rfl, by decide, by decide⟩
theorem d_law_0 : Own.D code 0 (.iconst 1) 1 1 := ⟨by decide +kernel, rfl⟩
theorem d_law_1 : Own.D code 1 (.newarray .char) 2 3 := ⟨by decide +kernel, rfl⟩
theorem d_law_3 : Own.D code 3 (.astore 6) 2 5 := ⟨by decide +kernel, rfl⟩
theorem d_law_5 : Own.D code 5 (.aload 6) 2 7 := ⟨by decide +kernel, rfl⟩
theorem d_law_7 : Own.D code 7 (.iconst 0) 1 8 := ⟨by decide +kernel, rfl⟩
theorem d_law_8 : Own.D code 8 (.iload_n 0) 1 9 := ⟨by decide +kernel, rfl⟩
theorem d_law_9 : Own.D code 9 (.sipush 255) 3 12 := ⟨by decide +kernel, rfl⟩
theorem d_law_12 : Own.D code 12 .iand 1 13 := ⟨by decide +kernel, rfl⟩
theorem d_law_13 : Own.D code 13 .i2c 1 14 := ⟨by decide +kernel, rfl⟩
theorem d_law_14 : Own.D code 14 .castore 1 15 := ⟨by decide +kernel, rfl⟩
theorem d_law_15 : Own.D code 15 (.new 7) 3 18 := ⟨by decide +kernel, rfl⟩
theorem d_law_18 : Own.D code 18 .dup 1 19 := ⟨by decide +kernel, rfl⟩
theorem d_law_19 : Own.D code 19 (.aload 6) 2 21 := ⟨by decide +kernel, rfl⟩
theorem d_law_21 : Own.D code 21 (.invokespecial 9) 3 24 := ⟨by decide +kernel, rfl⟩
theorem d_law_24 : Own.D code 24 (.astore 7) 2 26 := ⟨by decide +kernel, rfl⟩
theorem d_law_26 : Own.D code 26 (.iload 5) 2 28 := ⟨by decide +kernel, rfl⟩
theorem d_law_28 : Own.D code 28 (.iconst 1) 1 29 := ⟨by decide +kernel, rfl⟩
theorem d_law_29 : Own.D code 29 .iand 1 30 := ⟨by decide +kernel, rfl⟩
theorem d_law_30 : Own.J code 30 (.ifCond .eq 7) 3 33 7 37 := ⟨by decide +kernel, rfl, by decide, by decide⟩
theorem d_law_37 : Own.D code 37 (.iconst 0) 1 38 := ⟨by decide +kernel, rfl⟩
theorem d_law_33 : Own.D code 33 (.iconst 1) 1 34 := ⟨by decide +kernel, rfl⟩
theorem d_law_34 : Own.J code 34 (.goto 4) 3 37 4 38 := ⟨by decide +kernel, rfl, by decide, by decide⟩
set_option maxRecDepth 65536 in
set_option maxHeartbeats 4000000 in
theorem cod_met {E : Gl} (hw : Tb E) {h : Heap} {F : List Addr} {v : Addr} {k : ClassId} {m z : Int32} {vs : List Value} {dv : Value} (Av : Arv E.Z h v k .byte m vs dv) :
    Met E (⟨"java/lang/StringUTF16", "coderFromArrayLen", "([BI)B"⟩ : MethodName) jdk_52_method_15_code 2 (some .byte) ({ frames := 0, cells := 0, slots := 0, locals := 0 } : Room) #[.ref v, .int z] h F (fun r h' F' => r = some (.int (lo8 (lo8 (XT.ushr (z - m) 31)))) ∧ h = h' ∧ F = F') := by
  refine met_of (by decide +kernel) fun x T hQ B W => ?_
  refine G.cast (g' := fr x 0 #[.val (.ref v), .val (.int z)] []) (by simp [entryFrame, mkF, argsToLocals, Own.cat_r, Own.cat_i, Own.cat_j, Own.cat_n]) ?_
  refine w_iloadN W B d_cod_0 rfl ?_
  refine w_aloadN W B d_cod_1 rfl rfl ?_
  refine w_arraylength W B d_cod_2 Av ?_
  refine w_isub W B d_cod_3 ?_
  refine w_bipush W B d_cod_4 (v := (31 : Int32)) rfl ?_
  refine w_iushr W B d_cod_6 ?_
  refine w_i2b W B d_cod_7 ?_
  exact w_ireturnN W B d_cod_8 (Or.inr (Or.inl rfl)) (u := lo8 (lo8 (XT.ushr (z - m) 31))) rfl hQ (by decide) (by decide) (fun _ q => q) ⟨rfl, rfl, rfl⟩
theorem lat_at {cs : List Int32} (H : Lat cs) {i : Nat} (h : i < cs.length) : (cs.getD i 0).toInt ≤ 255 := by
  have : cs.getD i 0 = cs[i] := by simp [List.getD_eq_getElem?_getD, List.getElem?_eq_getElem h]
  rw [this]; exact H _ (List.getElem_mem h)
theorem vs_b8 {vs : List Value} {cs : List Int32} {n : Nat} (hvl : vs.length = n) (hcs : cs.length = n) (hvs : ∀ j, j < n → vs.getD j (.int 0) = .int (lo8 (cs.getD j 0))) : vs = b8 cs := by
  apply List.ext_getElem (by rw [hvl, b8_len, hcs])
  intro j h1 h2
  have q := hvs j (by omega)
  rw [List.getD_eq_getElem?_getD, List.getElem?_eq_getElem h1] at q
  have q2 := b8_at (cs := cs) (i := j) (by omega) (.int 0)
  rw [List.getD_eq_getElem?_getD, List.getElem?_eq_getElem h2] at q2
  exact (Option.some.inj (by simpa using q) : vs[j] = _).trans (by simpa using q2.symm)
set_option maxRecDepth 65536 in
set_option maxHeartbeats 4000000 in
theorem cmp3_met {E : Gl} (hw : Tb E) {h : Heap} {F : List Addr} {a : Addr} {ka : ClassId} {n : Nat} {cs : List Int32} (hcs : cs.length = n) (hcap : n ≤ 32) (hL : Lat cs) (Aa : Arv E.Z h a ka .char n.toInt32 (ints cs) (.int 0)) :
    Met E (⟨"java/lang/StringUTF16", "compress", "([CII)[B"⟩ : MethodName) jdk_52_method_16_code 6 (some (.array .byte)) ({ frames := 1, cells := 1, slots := 32, locals := 18 } : Room) #[.ref a, .int 0, .int n.toInt32] h F (fun r h' F' => ∃ (b : Addr) (k : ClassId), r = some (.ref b) ∧ F = F' ∧ h.size ≤ b ∧ Keep h h' [] ∧ Arv E.Z h' b k .byte n.toInt32 (b8 cs) (.int 0)) := by
  refine met_of (by decide +kernel) fun x T hQ B W => ?_
  refine G.cast (g' := fr x 0 #[.val (.ref a), .val (.int (0 : Int32)), .val (.int n.toInt32), .unset, .unset, .unset] []) (by simp [entryFrame, mkF, argsToLocals, Own.cat_r, Own.cat_i, Own.cat_j, Own.cat_n]) ?_
  have hn : n < 2 ^ 31 := by omega
  refine w_iloadN W B d_cmp3_0 rfl ?_
  refine w_newarray W B d_cmp3_1 rfl (wd hw 19 rfl) (n_nn hn) (cap := 32) (by rw [n_clamp hn]; exact hcap) (by decide) (by decide) (by decide) ?_
  intro T1 h2 b3 k4 W5 g6 X7 A8
  show G E x T1 (fr x 3 #[.val (.ref a), .val (.int (0 : Int32)), .val (.int n.toInt32), .unset, .unset, .unset] [(.ref b3)])
  refine w_astoreN W5 B d_cmp3_3 rfl (Ls' := #[.val (.ref a), .val (.int (0 : Int32)), .val (.int n.toInt32), .val (.ref b3), .unset, .unset]) rfl ?_
  refine w_aloadN W5 B d_cmp3_4 rfl rfl ?_
  refine w_iloadN W5 B d_cmp3_5 rfl ?_
  refine w_aloadN W5 B d_cmp3_6 rfl rfl ?_
  refine w_iconst W5 B d_cmp3_7 (v := (0 : Int32)) rfl ?_
  refine w_iloadN W5 B d_cmp3_8 rfl ?_
  refine w_static W5 B (y := ⟨"java/lang/StringUTF16", "compress", "([CI[BII)I"⟩) d_cmp3_9 (wd hw 20 rfl) (wd hw 21 rfl) (wd hw 17 rfl) (wd hw 22 rfl) (by decide) pd___CI_BII_I688 (argsL := [(.ref a), (.int (0 : Int32)), (.ref b3), (.int (0 : Int32)), (.int n.toInt32)]) rfl rfl rfl (Wt := 0) (Nat.le_of_eq rfl) (cmp5_met hw hcs hn (Own.ne_new Aa.lt g6) (List.Mem.head _) (Aa.ext X7) (A8.pad (pad_rep [] _ n)) (by simp)) (by decide) (by decide) (by decide) (by decide) ?_
  intro T9 h10 F11 v12 W13 Q14
  obtain ⟨i, vs, rfl, rfl, hin, hst, hlt, K5, A5, hvl, hvs⟩ := Q14
  show G E x T9 (fr x 12 #[.val (.ref a), .val (.int (0 : Int32)), .val (.int n.toInt32), .val (.ref b3), .unset, .unset] [(.int i.toInt32)])
  have hie : i = n := Nat.le_antisymm hin (Nat.not_lt.mp fun q => absurd (hst q) (Int.not_lt.mpr (lat_at hL (by omega))))
  refine w_istore W13 B d_cmp3_12 (Ls' := #[.val (.ref a), .val (.int (0 : Int32)), .val (.int n.toInt32), .val (.ref b3), .val (.int i.toInt32), .unset]) rfl ?_
  refine w_iload W13 B d_cmp3_14 rfl ?_
  refine w_iloadN W13 B d_cmp3_16 rfl ?_
  refine w_icmp_eq W13 B d_cmp3_17 (fun _ => ?_) (fun q => q (congrArg Nat.toInt32 hie) |>.elim)
  show G E x T9 (fr x 57 #[.val (.ref a), .val (.int (0 : Int32)), .val (.int n.toInt32), .val (.ref b3), .val (.int i.toInt32), .unset] [])
  refine w_aloadN W13 B d_cmp3_57 rfl rfl ?_
  have KK15 : Keep h h2 [] := (Keep.refl h []).ext X7
  have KK16 : Keep h h10 [] := KK15.trans K5 (allS (Or.inr (Nat.le_trans (Keep.refl h []).1 (Nat.le_of_eq g6.symm))) all0)
  have ev : vs = b8 cs := vs_b8 hvl hcs (fun j q => hvs j (by omega))
  exact w_areturn W13 B d_cmp3_58 rfl rfl hQ (by decide) (by decide) (fun _ q => (List.Mem.tail _ q)) ⟨b3, _, rfl, rfl, Nat.le_of_eq g6.symm, KK16, ev ▸ A5⟩
set_option maxRecDepth 65536 in
set_option maxHeartbeats 4000000 in
theorem ini4_met {E : Gl} (hw : Tb E) {h : Heap} {F : List Addr} {s a : Addr} {ka : ClassId} {n : Nat} {cs : List Int32} (hcs : cs.length = n) (h1 : 1 ≤ n) (hcap : n ≤ 32) (hC : Ch cs) (hL : Lat cs) (hs : s ∈ F) (Es : Exa E.Z h s "java/lang/String") (fv : Fld E.Z h s "java/lang/String" "value" "[B" .null) (fc : Fld E.Z h s "java/lang/String" "coder" "B" (.int 0)) (Aa : Arv E.Z h a ka .char n.toInt32 (ints cs) (.int 0)) :
    Met E (⟨"java/lang/String", "<init>", "([CIILjava/lang/Void;)V"⟩ : MethodName) jdk_42_method_149_code 6 none ({ frames := 2, cells := 1, slots := 32, locals := 35 } : Room) #[.ref s, .ref a, .int 0, .int n.toInt32, .null] h F (QStr E cs s h F) := by
  refine met_of (by decide +kernel) fun x T hQ B W => ?_
  refine G.cast (g' := fr x 0 #[.val (.ref s), .val (.ref a), .val (.int (0 : Int32)), .val (.int n.toInt32), .val .null, .unset] []) (by simp [entryFrame, mkF, argsToLocals, Own.cat_r, Own.cat_i, Own.cat_j, Own.cat_n]) ?_
  have hn : n < 2 ^ 31 := by omega
  obtain ⟨z, Sc, hz⟩ := compact hw
  refine w_aloadN W B d_ini4_0 rfl rfl ?_
  refine w_initO W B d_ini4_1 (wd hw 11 rfl) (wd hw 12 rfl) (wd hw 13 rfl) rfl (by decide) (Wt := 0) (Nat.le_of_eq rfl) (by decide) ?_
  intro T1 W2
  refine w_iloadN W2 B d_ini4_4 rfl ?_
  refine w_if_ne W2 B d_ini4_5 (fun _ => ?_) (fun q => absurd q (fun q => absurd ((n_eq (i := n) (n := 0) hn (by decide)).mp q) (by omega)))
  show G E x T1 (fr x 27 #[.val (.ref s), .val (.ref a), .val (.int (0 : Int32)), .val (.int n.toInt32), .val .null, .unset] [])
  refine w_getS W2 B d_ini4_27 (wd hw 14 rfl) Via.refl Sc ?_
  intro T3 W4
  refine w_if_eq W4 B d_ini4_30 (fun q => absurd q hz) (fun _ => ?_)
  show G E x T3 (fr x 33 #[.val (.ref s), .val (.ref a), .val (.int (0 : Int32)), .val (.int n.toInt32), .val .null, .unset] [])
  refine w_aloadN W4 B d_ini4_33 rfl rfl ?_
  refine w_iloadN W4 B d_ini4_34 rfl ?_
  refine w_iloadN W4 B d_ini4_35 rfl ?_
  refine w_static W4 B (y := ⟨"java/lang/StringUTF16", "compress", "([CII)[B"⟩) d_ini4_36 (wd hw 15 rfl) (wd hw 16 rfl) (wd hw 17 rfl) (wd hw 18 rfl) (by decide) pd___CII__B542 (argsL := [(.ref a), (.int (0 : Int32)), (.int n.toInt32)]) rfl rfl rfl (Wt := 0) (Nat.le_of_eq rfl) (cmp3_met hw hcs hcap hL Aa) (by decide) (by decide) (by decide) (by decide) ?_
  intro T5 h6 F7 v8 W9 Q10
  obtain ⟨v, kv, rfl, rfl, gv, K3, A3⟩ := Q10
  show G E x T5 (fr x 39 #[.val (.ref s), .val (.ref a), .val (.int (0 : Int32)), .val (.int n.toInt32), .val .null, .unset] [(.ref v)])
  refine w_astore W9 B d_ini4_39 rfl (Ls' := #[.val (.ref s), .val (.ref a), .val (.int (0 : Int32)), .val (.int n.toInt32), .val .null, .val (.ref v)]) rfl ?_
  refine w_aloadN W9 B d_ini4_41 rfl rfl ?_
  refine w_aload W9 B d_ini4_42 rfl rfl ?_
  refine w_iloadN W9 B d_ini4_44 rfl ?_
  refine w_static W9 B (y := ⟨"java/lang/StringUTF16", "coderFromArrayLen", "([BI)B"⟩) d_ini4_45 (wd hw 23 rfl) (wd hw 24 rfl) (wd hw 17 rfl) (wd hw 25 rfl) (by decide) pd___BI_B377 (argsL := [(.ref v), (.int n.toInt32)]) rfl rfl rfl (Wt := 1) (Nat.le_of_eq rfl) (cod_met hw A3) (by decide) (by decide) (by decide) (by decide) ?_
  intro T11 h12 F13 v14 W15 Q16
  obtain ⟨rfl, rfl, rfl⟩ := Q16
  have ez : lo8 (lo8 (XT.ushr (n.toInt32 - n.toInt32) 31)) = 0 := by rw [Int32.sub_self]; decide
  show G E x T11 (fr x 48 #[.val (.ref s), .val (.ref a), .val (.int (0 : Int32)), .val (.int n.toInt32), .val .null, .val (.ref v)] [(.int (lo8 (lo8 (XT.ushr (n.toInt32 - n.toInt32) 31)))), (.ref s)])
  refine w_putF W15 B d_ini4_48 hs (wd hw 26 rfl) Via.refl (fc.keep K3 nin0) (Es.keep K3) (Or.inr ⟨(wd hw 27 rfl), rfl, rfl⟩) (wd hw 2 rfl) (ty := .byte) (v' := (.int (0 : Int32))) (by decide) (by rw [ez]; rfl) rfl ?_
  intro T17 h18 W19 Y20 f21
  refine w_aloadN W19 B d_ini4_51 rfl rfl ?_
  refine w_aload W19 B d_ini4_52 rfl rfl ?_
  refine w_putF W19 B d_ini4_54 hs (wd hw 28 rfl) Via.refl ((fv.keep K3 nin0).other Y20 (Or.inr (slot_ne (Or.inr (wd hw 29 rfl)) (Or.inr (wd hw 27 rfl)) (t := (.array .byte)) (t' := .byte) (by decide) (by decide) (by decide)))) ((Es.keep K3).wr Y20) (Or.inr ⟨(wd hw 29 rfl), rfl, rfl⟩) (wd hw 2 rfl) (ty := (.array .byte)) (v' := (.ref v)) (by decide) rfl rfl ?_
  intro T22 h23 W24 Y25 f26
  have KK27 : Keep h h6 [s] := (Keep.refl h [s]).trans K3 all0
  have KK28 : Keep h h18 [s] := KK27.wr Y20 (Or.inl (List.Mem.head _))
  have KK29 : Keep h h23 [s] := KK28.wr Y25 (Or.inl (List.Mem.head _))
  exact w_return W24 B d_ini4_57 hQ (by decide) (by decide) (fun _ q => q) ⟨rfl, rfl, KK29, v, ⟨kv, (((Es.keep K3).wr Y20).wr Y25), f26, hC, Or.inl ⟨hL, (f21.other Y25 (Or.inr (slot_ne (Or.inr (wd hw 27 rfl)) (Or.inr (wd hw 29 rfl)) (t := .byte) (t' := (.array .byte)) (by decide) (by decide) (by decide)))), hcs ▸ ((A3.other Y20 (Ne.symm (Nat.ne_of_lt (Nat.lt_of_lt_of_le Es.lt gv)))).other Y25 (Ne.symm (Nat.ne_of_lt (Nat.lt_of_lt_of_le Es.lt gv))))⟩⟩, fun y hy => Nat.ne_of_lt (Nat.lt_of_lt_of_le (W.fOk hy).2 gv)⟩
set_option maxRecDepth 65536 in
set_option maxHeartbeats 4000000 in
theorem ini1_met {E : Gl} (hw : Tb E) {h : Heap} {F : List Addr} {s a : Addr} {ka : ClassId} {n : Nat} {cs : List Int32} (hcs : cs.length = n) (h1 : 1 ≤ n) (hcap : n ≤ 32) (hC : Ch cs) (hL : Lat cs) (hs : s ∈ F) (Es : Exa E.Z h s "java/lang/String") (fv : Fld E.Z h s "java/lang/String" "value" "[B" .null) (fc : Fld E.Z h s "java/lang/String" "coder" "B" (.int 0)) (Aa : Arv E.Z h a ka .char n.toInt32 (ints cs) (.int 0)) :
    Met E (⟨"java/lang/String", "<init>", "([C)V"⟩ : MethodName) jdk_42_method_3_code 2 none ({ frames := 3, cells := 1, slots := 32, locals := 52 } : Room) #[.ref s, .ref a] h F (QStr E cs s h F) := by
  refine met_of (by decide +kernel) fun x T hQ B W => ?_
  refine G.cast (g' := fr x 0 #[.val (.ref s), .val (.ref a)] []) (by simp [entryFrame, mkF, argsToLocals, Own.cat_r, Own.cat_i, Own.cat_j, Own.cat_n]) ?_
  refine w_aloadN W B d_ini1_0 rfl rfl ?_
  refine w_aloadN W B d_ini1_1 rfl rfl ?_
  refine w_iconst W B d_ini1_2 (v := (0 : Int32)) rfl ?_
  refine w_aloadN W B d_ini1_3 rfl rfl ?_
  refine w_arraylength W B d_ini1_4 Aa ?_
  refine w_null W B d_ini1_5 ?_
  refine w_special W B (y := ⟨"java/lang/String", "<init>", "([CIILjava/lang/Void;)V"⟩) d_ini1_6 rfl (wd hw 7 rfl) (wd hw 8 rfl) (wd hw 3 rfl) (wd hw 10 rfl) (by decide) pd___CIILjava_lang_Void__V941 (argsL := [(.ref a), (.int (0 : Int32)), (.int n.toInt32), .null]) rfl rfl rfl (Wt := 0) (Nat.le_of_eq rfl) (ini4_met hw hcs h1 hcap hC hL hs Es fv fc Aa) (by decide) (by decide) (by decide) (by decide) ?_
  intro T1 h2 F3 v4 W5 Q6
  obtain ⟨rfl, rfl, K4, v, S4, hv⟩ := Q6
  show G E x T1 (fr x 9 #[.val (.ref s), .val (.ref a)] [])
  exact w_return W5 B d_ini1_9 hQ (by decide) (by decide) (fun _ q => q) ⟨rfl, rfl, K4, v, S4, hv⟩
set_option maxRecDepth 65536 in
set_option maxHeartbeats 4000000 in
theorem rec_met {E : Gl} (hw : Tb E) {h : Heap} {F : List Addr} {s : Addr} :
    Met E (⟨"java/lang/Record", "<init>", "()V"⟩ : MethodName) jdk_30_method_1_code 1 none ({ frames := 1, cells := 0, slots := 0, locals := 12 } : Room) #[.ref s] h F (fun r h' F' => r = none ∧ h = h' ∧ F = F') := by
  refine met_of (by decide +kernel) fun x T hQ B W => ?_
  refine G.cast (g' := fr x 0 #[.val (.ref s)] []) (by simp [entryFrame, mkF, argsToLocals, Own.cat_r, Own.cat_i, Own.cat_j, Own.cat_n]) ?_
  refine w_aloadN W B d_rec_0 rfl rfl ?_
  refine w_initO W B d_rec_1 (wd hw 41 rfl) (wd hw 12 rfl) (wd hw 13 rfl) rfl (by decide) (Wt := 0) (Nat.le_of_eq rfl) (by decide) ?_
  intro T1 W2
  exact w_return W2 B d_rec_4 hQ (by decide) (by decide) (fun _ q => q) ⟨rfl, rfl, rfl⟩
set_option maxRecDepth 65536 in
set_option maxHeartbeats 4000000 in
theorem num_met {E : Gl} (hw : Tb E) {h : Heap} {F : List Addr} {s : Addr} :
    Met E (⟨"java/lang/Number", "<init>", "()V"⟩ : MethodName) jdk_18_method_1_code 1 none ({ frames := 1, cells := 0, slots := 0, locals := 12 } : Room) #[.ref s] h F (fun r h' F' => r = none ∧ h = h' ∧ F = F') := by
  refine met_of (by decide +kernel) fun x T hQ B W => ?_
  refine G.cast (g' := fr x 0 #[.val (.ref s)] []) (by simp [entryFrame, mkF, argsToLocals, Own.cat_r, Own.cat_i, Own.cat_j, Own.cat_n]) ?_
  refine w_aloadN W B d_num_0 rfl rfl ?_
  refine w_initO W B d_num_1 (wd hw 78 rfl) (wd hw 12 rfl) (wd hw 13 rfl) rfl (by decide) (Wt := 0) (Nat.le_of_eq rfl) (by decide) ?_
  intro T1 W2
  exact w_return W2 B d_num_4 hQ (by decide) (by decide) (fun _ q => q) ⟨rfl, rfl, rfl⟩
set_option maxRecDepth 65536 in
set_option maxHeartbeats 4000000 in
theorem abc_met {E : Gl} (hw : Tb E) {h : Heap} {F : List Addr} {s : Addr} :
    Met E (⟨"java/util/AbstractCollection", "<init>", "()V"⟩ : MethodName) jdk_22_method_1_code 1 none ({ frames := 1, cells := 0, slots := 0, locals := 12 } : Room) #[.ref s] h F (fun r h' F' => r = none ∧ h = h' ∧ F = F') := by
  refine met_of (by decide +kernel) fun x T hQ B W => ?_
  refine G.cast (g' := fr x 0 #[.val (.ref s)] []) (by simp [entryFrame, mkF, argsToLocals, Own.cat_r, Own.cat_i, Own.cat_j, Own.cat_n]) ?_
  refine w_aloadN W B d_abc_0 rfl rfl ?_
  refine w_initO W B d_abc_1 (wd hw 109 rfl) (wd hw 12 rfl) (wd hw 13 rfl) rfl (by decide) (Wt := 0) (Nat.le_of_eq rfl) (by decide) ?_
  intro T1 W2
  exact w_return W2 B d_abc_4 hQ (by decide) (by decide) (fun _ q => q) ⟨rfl, rfl, rfl⟩
set_option maxRecDepth 65536 in
set_option maxHeartbeats 4000000 in
theorem pf_met {E : Gl} (hw : Tb E) {h : Heap} {F : List Addr} {s : Addr} {u1 u2 u4 : Value} (r1 : u1.isRef = true) (r2 : u2.isRef = true) (p : Int64) (r4 : u4.isRef = true) (z : Int32) (hs : s ∈ F) (Es : Exa E.Z h s "com/example/lakebed/lakebed/table/PlannedFile") (f_folder : Fld E.Z h s "com/example/lakebed/lakebed/table/PlannedFile" "folder" "Ljava/lang/String;" .null) (f_of : Fld E.Z h s "com/example/lakebed/lakebed/table/PlannedFile" "of" "Lcom/example/lakebed/lakebed/table/FileGroup;" .null) (f_rows : Fld E.Z h s "com/example/lakebed/lakebed/table/PlannedFile" "rows" "J" (.long 0)) (f_gains : Fld E.Z h s "com/example/lakebed/lakebed/table/PlannedFile" "gains" "Ljava/lang/Long;" .null) (f_spliced : Fld E.Z h s "com/example/lakebed/lakebed/table/PlannedFile" "spliced" "Z" (.int 0)) :
    Met E (⟨"com/example/lakebed/lakebed/table/PlannedFile", "<init>", "(Ljava/lang/String;Lcom/example/lakebed/lakebed/table/FileGroup;JLjava/lang/Long;Z)V"⟩ : MethodName) prog_84_method_1_code 7 none ({ frames := 2, cells := 0, slots := 0, locals := 24 } : Room) #[.ref s, u1, u2, .long p, u4, .int z] h F (fun r h' F' => r = none ∧ F = F' ∧ Keep h h' [s] ∧ Exa E.Z h' s "com/example/lakebed/lakebed/table/PlannedFile" ∧ Fld E.Z h' s "com/example/lakebed/lakebed/table/PlannedFile" "gains" "Ljava/lang/Long;" u4) := by
  refine met_of (by decide +kernel) fun x T hQ B W => ?_
  refine G.cast (g' := fr x 0 #[.val (.ref s), .val u1, .val u2, .val (.long p), .second, .val u4, .val (.int z)] []) (by simp [entryFrame, mkF, argsToLocals, Own.cat_r, Own.cat_i, Own.cat_j, Own.cat_n, cat_ref r1, cat_ref r2, cat_ref r4]) ?_
  refine w_aloadN W B d_pf_0 rfl rfl ?_
  refine w_special W B (y := ⟨"java/lang/Record", "<init>", "()V"⟩) d_pf_1 rfl (wd hw 36 rfl) (wd hw 37 rfl) (wd hw 39 rfl) (wd hw 40 rfl) (by decide) pd___V167 (argsL := []) rfl rfl rfl (Wt := 0) (Nat.le_of_eq rfl) (rec_met hw) (by decide) (by decide) (by decide) (by decide) ?_
  intro T1 h2 F3 v4 W5 Q6
  obtain ⟨rfl, rfl, rfl⟩ := Q6
  show G E x T1 (fr x 4 #[.val (.ref s), .val u1, .val u2, .val (.long p), .second, .val u4, .val (.int z)] [])
  refine w_aloadN W5 B d_pf_4 rfl rfl ?_
  refine w_aloadN W5 B d_pf_5 rfl r1 ?_
  refine w_putF W5 B d_pf_6 hs (wd hw 42 rfl) Via.refl f_folder Es (Or.inr ⟨(wd hw 43 rfl), rfl, rfl⟩) (wd hw 31 rfl) (ty := (.object "java/lang/String")) (v' := u1) (by decide) (Own.nar_ref r1) (Own.fits_obj r1) ?_
  intro T7 h8 W9 Y10 f11
  refine w_aloadN W9 B d_pf_9 rfl rfl ?_
  refine w_aloadN W9 B d_pf_10 rfl r2 ?_
  refine w_putF W9 B d_pf_11 hs (wd hw 44 rfl) Via.refl (f_of.other Y10 (Or.inr (slot_ne (Or.inr (wd hw 45 rfl)) (Or.inr (wd hw 43 rfl)) (t := (.object "com/example/lakebed/lakebed/table/FileGroup")) (t' := (.object "java/lang/String")) (by decide) (by decide) (by decide)))) (Es.wr Y10) (Or.inr ⟨(wd hw 45 rfl), rfl, rfl⟩) (wd hw 31 rfl) (ty := (.object "com/example/lakebed/lakebed/table/FileGroup")) (v' := u2) (by decide) (Own.nar_ref r2) (Own.fits_obj r2) ?_
  intro T12 h13 W14 Y15 f16
  refine w_aloadN W14 B d_pf_14 rfl rfl ?_
  refine w_lloadN W14 B d_pf_15 rfl ?_
  refine w_putF W14 B d_pf_16 hs (wd hw 46 rfl) Via.refl ((f_rows.other Y10 (Or.inr (slot_ne (Or.inr (wd hw 47 rfl)) (Or.inr (wd hw 43 rfl)) (t := .long) (t' := (.object "java/lang/String")) (by decide) (by decide) (by decide)))).other Y15 (Or.inr (slot_ne (Or.inr (wd hw 47 rfl)) (Or.inr (wd hw 45 rfl)) (t := .long) (t' := (.object "com/example/lakebed/lakebed/table/FileGroup")) (by decide) (by decide) (by decide)))) ((Es.wr Y10).wr Y15) (Or.inr ⟨(wd hw 47 rfl), rfl, rfl⟩) (wd hw 31 rfl) (ty := .long) (v' := (.long p)) (by decide) rfl rfl ?_
  intro T17 h18 W19 Y20 f21
  refine w_aloadN W19 B d_pf_19 rfl rfl ?_
  refine w_aload W19 B d_pf_20 rfl r4 ?_
  refine w_putF W19 B d_pf_22 hs (wd hw 48 rfl) Via.refl (((f_gains.other Y10 (Or.inr (slot_ne (Or.inr (wd hw 49 rfl)) (Or.inr (wd hw 43 rfl)) (t := (.object "java/lang/Long")) (t' := (.object "java/lang/String")) (by decide) (by decide) (by decide)))).other Y15 (Or.inr (slot_ne (Or.inr (wd hw 49 rfl)) (Or.inr (wd hw 45 rfl)) (t := (.object "java/lang/Long")) (t' := (.object "com/example/lakebed/lakebed/table/FileGroup")) (by decide) (by decide) (by decide)))).other Y20 (Or.inr (slot_ne (Or.inr (wd hw 49 rfl)) (Or.inr (wd hw 47 rfl)) (t := (.object "java/lang/Long")) (t' := .long) (by decide) (by decide) (by decide)))) (((Es.wr Y10).wr Y15).wr Y20) (Or.inr ⟨(wd hw 49 rfl), rfl, rfl⟩) (wd hw 31 rfl) (ty := (.object "java/lang/Long")) (v' := u4) (by decide) (Own.nar_ref r4) (Own.fits_obj r4) ?_
  intro T22 h23 W24 Y25 f26
  refine w_aloadN W24 B d_pf_25 rfl rfl ?_
  refine w_iload W24 B d_pf_26 rfl ?_
  refine w_putF W24 B d_pf_28 hs (wd hw 50 rfl) Via.refl ((((f_spliced.other Y10 (Or.inr (slot_ne (Or.inr (wd hw 51 rfl)) (Or.inr (wd hw 43 rfl)) (t := .boolean) (t' := (.object "java/lang/String")) (by decide) (by decide) (by decide)))).other Y15 (Or.inr (slot_ne (Or.inr (wd hw 51 rfl)) (Or.inr (wd hw 45 rfl)) (t := .boolean) (t' := (.object "com/example/lakebed/lakebed/table/FileGroup")) (by decide) (by decide) (by decide)))).other Y20 (Or.inr (slot_ne (Or.inr (wd hw 51 rfl)) (Or.inr (wd hw 47 rfl)) (t := .boolean) (t' := .long) (by decide) (by decide) (by decide)))).other Y25 (Or.inr (slot_ne (Or.inr (wd hw 51 rfl)) (Or.inr (wd hw 49 rfl)) (t := .boolean) (t' := (.object "java/lang/Long")) (by decide) (by decide) (by decide)))) ((((Es.wr Y10).wr Y15).wr Y20).wr Y25) (Or.inr ⟨(wd hw 51 rfl), rfl, rfl⟩) (wd hw 31 rfl) (ty := .boolean) (v' := (.int (z &&& 1))) (by decide) rfl (fits_nar_bool _) ?_
  intro T27 h28 W29 Y30 f31
  have KK32 : Keep h h8 [s] := (Keep.refl h [s]).wr Y10 (Or.inl (List.Mem.head _))
  have KK33 : Keep h h13 [s] := KK32.wr Y15 (Or.inl (List.Mem.head _))
  have KK34 : Keep h h18 [s] := KK33.wr Y20 (Or.inl (List.Mem.head _))
  have KK35 : Keep h h23 [s] := KK34.wr Y25 (Or.inl (List.Mem.head _))
  have KK36 : Keep h h28 [s] := KK35.wr Y30 (Or.inl (List.Mem.head _))
  exact w_return W29 B d_pf_31 hQ (by decide) (by decide) (fun _ q => q) ⟨rfl, rfl, KK36, (((((Es.wr Y10).wr Y15).wr Y20).wr Y25).wr Y30), (f26.other Y30 (Or.inr (slot_ne (Or.inr (wd hw 49 rfl)) (Or.inr (wd hw 51 rfl)) (t := (.object "java/lang/Long")) (t' := .boolean) (by decide) (by decide) (by decide))))⟩
def nn01 (v : Value) : Int32 := match v with
  | .null => 0
  | _ => 1
set_option maxRecDepth 65536 in
set_option maxHeartbeats 4000000 in
theorem isch_met {E : Gl} (hw : Tb E) {h : Heap} {F : List Addr} {s : Addr} {vg : Value} (rg : vg.isRef = true) (fg : Fld E.Z h s "com/example/lakebed/lakebed/table/PlannedFile" "gains" "Ljava/lang/Long;" vg) :
    Met E (⟨"com/example/lakebed/lakebed/table/PlannedFile", "isChange", "()Z"⟩ : MethodName) prog_84_method_5_code 1 (some .boolean) ({ frames := 0, cells := 0, slots := 0, locals := 0 } : Room) #[.ref s] h F (fun r h' F' => r = some (.int (nn01 vg)) ∧ h = h' ∧ F = F') := by
  refine met_of (by decide +kernel) fun x T hQ B W => ?_
  refine G.cast (g' := fr x 0 #[.val (.ref s)] []) (by simp [entryFrame, mkF, argsToLocals, Own.cat_r, Own.cat_i, Own.cat_j, Own.cat_n]) ?_
  rcases ref_cases rg with rfl | ⟨a, rfl⟩
  ·
    refine w_aloadN W B d_isch_0 rfl rfl ?_
    refine w_getF W B d_isch_1 (wd hw 48 rfl) Via.refl fg ?_
    intro T1 W2
    refine w_ifnull_null W2 B d_isch_4 ?_
    refine w_iconst W2 B d_isch_11 (v := (0 : Int32)) rfl ?_
    exact w_ireturnN W2 B d_isch_12 (Or.inl rfl) (u := (0 : Int32)) rfl hQ (by decide) (by decide) (fun _ q => q) ⟨rfl, rfl, rfl⟩
  ·
    refine w_aloadN W B d_isch_0 rfl rfl ?_
    refine w_getF W B d_isch_1 (wd hw 48 rfl) Via.refl fg ?_
    intro T3 W4
    refine w_ifnull_ref W4 B d_isch_4 ?_
    refine w_iconst W4 B d_isch_7 (v := (1 : Int32)) rfl ?_
    refine w_goto W4 B d_isch_8 ?_
    exact w_ireturnN W4 B d_isch_12 (Or.inl rfl) (u := (1 : Int32)) rfl hQ (by decide) (by decide) (fun _ q => q) ⟨rfl, rfl, rfl⟩
set_option maxRecDepth 65536 in
set_option maxHeartbeats 4000000 in
theorem linit_met {E : Gl} (hw : Tb E) {h : Heap} {F : List Addr} {s : Addr} (p : Int64) (hs : s ∈ F) (Es : Exa E.Z h s "java/lang/Long") (fv : Fld E.Z h s "java/lang/Long" "value" "J" (.long 0)) :
    Met E (⟨"java/lang/Long", "<init>", "(J)V"⟩ : MethodName) jdk_35_method_26_code 3 none ({ frames := 2, cells := 0, slots := 0, locals := 24 } : Room) #[.ref s, .long p] h F (fun r h' F' => r = none ∧ F = F' ∧ Keep h h' [s]) := by
  refine met_of (by decide +kernel) fun x T hQ B W => ?_
  refine G.cast (g' := fr x 0 #[.val (.ref s), .val (.long p), .second] []) (by simp [entryFrame, mkF, argsToLocals, Own.cat_r, Own.cat_i, Own.cat_j, Own.cat_n]) ?_
  refine w_aloadN W B d_linit_0 rfl rfl ?_
  refine w_special W B (y := ⟨"java/lang/Number", "<init>", "()V"⟩) d_linit_1 rfl (wd hw 72 rfl) (wd hw 73 rfl) (wd hw 76 rfl) (wd hw 77 rfl) (by decide) pd___V167 (argsL := []) rfl rfl rfl (Wt := 0) (Nat.le_of_eq rfl) (num_met hw) (by decide) (by decide) (by decide) (by decide) ?_
  intro T1 h2 F3 v4 W5 Q6
  obtain ⟨rfl, rfl, rfl⟩ := Q6
  show G E x T1 (fr x 4 #[.val (.ref s), .val (.long p), .second] [])
  refine w_aloadN W5 B d_linit_4 rfl rfl ?_
  refine w_lloadN W5 B d_linit_5 rfl ?_
  refine w_putF W5 B d_linit_6 hs (wd hw 79 rfl) Via.refl fv Es (Or.inr ⟨(wd hw 80 rfl), rfl, rfl⟩) (wd hw 67 rfl) (ty := .long) (v' := (.long p)) (by decide) rfl rfl ?_
  intro T7 h8 W9 Y10 f11
  have KK12 : Keep h h8 [s] := (Keep.refl h [s]).wr Y10 (Or.inl (List.Mem.head _))
  exact w_return W9 B d_linit_9 hQ (by decide) (by decide) (fun _ q => q) ⟨rfl, rfl, KK12⟩
theorem lcache {E : Gl} (hw : Tb E) (hfit : Fit E.Z) : ∃ (ca : Addr) (cc : Cell), Sta E.Z E.Z.heap "java/lang/Long$LongCache" "cache" "[Ljava/lang/Long;" (.ref ca) ∧ Bxs E.Z ca cc "java/lang/Long" "J" 256 (fun j => .long (j - 128).toInt64) := by
  obtain ⟨ca, e⟩ := arr_v (Cond.before_iff.mp (sd hw 20 rfl))
  obtain ⟨cc, A⟩ := Arr.start e (Cond.before_iff.mp (sd hw 20 rfl))
  have hl := Cond.before_iff.mp (sd hw 22 rfl)
  have hsz := len_of_eq A e hl
  refine ⟨ca, cc, Sta.start e (Or.inl (sd hw 19 rfl)), Bxs.start (F := Term.op1 .i2l (.sub (.index 0) (.int 128))) (fun idx => ?_) A hsz.1 hsz.2 (by decide) (Cond.before_iff.mp (sd hw 23 rfl)) ?_⟩
  · exact e
  · intro X j hj hq
    exact eqv_l (i2l_at (Term.sub_int (idx_at hj) (Term.int_eval 128))) hq
set_option maxRecDepth 65536 in
set_option maxHeartbeats 4000000 in
theorem lval_met {E : Gl} (hw : Tb E) {h : Heap} {F : List Addr} {ca : Addr} {cc : Cell} (Sc : Sta E.Z E.Z.heap "java/lang/Long$LongCache" "cache" "[Ljava/lang/Long;" (.ref ca)) (Bx : Bxs E.Z ca cc "java/lang/Long" "J" 256 (fun j => .long (j - 128).toInt64)) (p : Int64) :
    Met E (⟨"java/lang/Long", "valueOf", "(J)Ljava/lang/Long;"⟩ : MethodName) jdk_35_method_24_code 3 (some (.object "java/lang/Long")) ({ frames := 3, cells := 1, slots := 1, locals := 39 } : Room) #[.long p] h F (fun r h' F' => ∃ a : Addr, r = some (.ref a) ∧ F = F' ∧ Keep h h' []) := by
  refine met_of (by decide +kernel) fun x T hQ B W => ?_
  refine G.cast (g' := fr x 0 #[.val (.long p), .second, .unset] []) (by simp [entryFrame, mkF, argsToLocals, Own.cat_r, Own.cat_i, Own.cat_j, Own.cat_n]) ?_
  refine w_sipush W B d_lval_0 (v := (128 : Int32)) rfl ?_
  refine w_istoreN W B d_lval_3 (Ls' := #[.val (.long p), .second, .val (.int (128 : Int32))]) rfl ?_
  refine w_lloadN W B d_lval_4 rfl ?_
  refine w_ldc2J W B d_lval_5 (wd hw 65 rfl) ?_
  refine w_lcmp W B d_lval_8 ?_
  refine w_if_lt W B d_lval_9 ?_ ?_
  · intro hc9
    show G E x T (fr x 31 #[.val (.long p), .second, .val (.int (128 : Int32))] [])
    refine w_new W B d_lval_31 (wd hw 66 rfl) (wd hw 67 rfl) (wd hw 63 rfl) (by decide) (by decide) ?_
    intro T1 h2 b3 W4 g5 X6 A7 D8
    have f9 : Fld E.Z h2 b3 "java/lang/Long" "value" "J" (.long (0 : Int64)) := D8 (Or.inr (wd hw 80 rfl)) (ty := .long) (by decide)
    show G E x T1 (fr x 34 #[.val (.long p), .second, .val (.int (128 : Int32))] [(.ref b3)])
    refine w_dup W4 B d_lval_34 rfl ?_
    refine w_lloadN W4 B d_lval_35 rfl ?_
    refine w_special W4 B (y := ⟨"java/lang/Long", "<init>", "(J)V"⟩) d_lval_36 rfl (wd hw 68 rfl) (wd hw 69 rfl) (wd hw 63 rfl) (wd hw 71 rfl) (by decide) pd__J_V241 (argsL := [(.long p)]) rfl rfl rfl (Wt := 1) (Nat.le_of_eq rfl) (linit_met hw p (List.Mem.head _) A7 f9) (by decide) (by decide) (by decide) (by decide) ?_
    intro T10 h11 F12 v13 W14 Q15
    obtain ⟨rfl, rfl, K1⟩ := Q15
    show G E x T10 (fr x 39 #[.val (.long p), .second, .val (.int (128 : Int32))] [(.ref b3)])
    have KK16 : Keep h h2 [] := (Keep.refl h []).ext X6
    have KK17 : Keep h h11 [] := KK16.trans K1 (allS (Or.inr (Nat.le_trans (Keep.refl h []).1 (Nat.le_of_eq g5.symm))) all0)
    exact w_areturn W14 B d_lval_39 rfl rfl hQ (by decide) (by decide) (fun _ q => (List.Mem.tail _ q)) ⟨b3, rfl, rfl, KK17⟩
  · intro hc9
    show G E x T (fr x 12 #[.val (.long p), .second, .val (.int (128 : Int32))] [])
    refine w_lloadN W B d_lval_12 rfl ?_
    refine w_ldc2J W B d_lval_13 (wd hw 172 rfl) ?_
    refine w_lcmp W B d_lval_16 ?_
    refine w_if_gt W B d_lval_17 ?_ ?_
    · intro hc17
      show G E x T (fr x 31 #[.val (.long p), .second, .val (.int (128 : Int32))] [])
      refine w_new W B d_lval_31 (wd hw 66 rfl) (wd hw 67 rfl) (wd hw 63 rfl) (by decide) (by decide) ?_
      intro T18 h19 b20 W21 g22 X23 A24 D25
      have f26 : Fld E.Z h19 b20 "java/lang/Long" "value" "J" (.long (0 : Int64)) := D25 (Or.inr (wd hw 80 rfl)) (ty := .long) (by decide)
      show G E x T18 (fr x 34 #[.val (.long p), .second, .val (.int (128 : Int32))] [(.ref b20)])
      refine w_dup W21 B d_lval_34 rfl ?_
      refine w_lloadN W21 B d_lval_35 rfl ?_
      refine w_special W21 B (y := ⟨"java/lang/Long", "<init>", "(J)V"⟩) d_lval_36 rfl (wd hw 68 rfl) (wd hw 69 rfl) (wd hw 63 rfl) (wd hw 71 rfl) (by decide) pd__J_V241 (argsL := [(.long p)]) rfl rfl rfl (Wt := 1) (Nat.le_of_eq rfl) (linit_met hw p (List.Mem.head _) A24 f26) (by decide) (by decide) (by decide) (by decide) ?_
      intro T27 h28 F29 v30 W31 Q32
      obtain ⟨rfl, rfl, K1⟩ := Q32
      show G E x T27 (fr x 39 #[.val (.long p), .second, .val (.int (128 : Int32))] [(.ref b20)])
      have KK33 : Keep h h19 [] := (Keep.refl h []).ext X23
      have KK34 : Keep h h28 [] := KK33.trans K1 (allS (Or.inr (Nat.le_trans (Keep.refl h []).1 (Nat.le_of_eq g22.symm))) all0)
      exact w_areturn W31 B d_lval_39 rfl rfl hQ (by decide) (by decide) (fun _ q => (List.Mem.tail _ q)) ⟨b20, rfl, rfl, KK34⟩
    · intro hc17
      show G E x T (fr x 20 #[.val (.long p), .second, .val (.int (128 : Int32))] [])
      refine w_getS W B d_lval_20 (wd hw 173 rfl) Via.refl Sc ?_
      intro T35 W36
      refine w_lloadN W36 B d_lval_23 rfl ?_
      refine w_l2i W36 B d_lval_24 ?_
      refine w_sipush W36 B d_lval_25 (v := (128 : Int32)) rfl ?_
      refine w_iadd W36 B d_lval_28 ?_
      have hlo : -128 ≤ p.toInt := by have := mt (cmpL_lt p (-128)).mpr hc9; rw [Int64.lt_iff_toInt_lt] at this; exact Int.not_lt.mp this
      have hhi : p.toInt ≤ 127 := by have := mt (cmpL_gt p 127).mpr hc17; rw [Int64.lt_iff_toInt_lt] at this; exact Int.not_lt.mp this
      have hj : ((p).toInt32 + (128 : Int32)).toInt = p.toInt + 128 := by
        rw [Int32.toInt_add, Int64.toInt_toInt32, show (128 : Int32).toInt = 128 from by decide]
        have e1 : p.toInt.bmod (2 ^ 32) = p.toInt := Int.bmod_eq_of_le (by omega) (by omega)
        rw [e1]; exact Int.bmod_eq_of_le (by omega) (by omega)
      have hin : ¬ (((p).toInt32 + (128 : Int32)) < 0 ∨ cc.slots.size ≤ ((p).toInt32 + (128 : Int32)).toNatClampNeg) := by
        rw [Bx.2.1, Int32.lt_iff_toInt_lt]; simp only [Int32.toNatClampNeg, hj, show (0 : Int32).toInt = 0 from by decide, show (256 : Int32).toInt = 256 from by decide]; omega
      obtain ⟨bx, hbx, -, -⟩ := Bx.2.2.2 _ hin
      refine w_aaloadC W36 B d_lval_29 rfl (Bx.1.ext W36.old) hin hbx ?_
      exact w_areturn W36 B d_lval_30 rfl rfl hQ (by decide) (by decide) (fun _ q => q) ⟨bx, rfl, rfl, Keep.refl _ _⟩
set_option maxRecDepth 65536 in
set_option maxHeartbeats 4000000 in
theorem maxl_met {E : Gl} (hw : Tb E) {h : Heap} {F : List Addr} (a b : Int64) :
    Met E (⟨"java/lang/Math", "max", "(JJ)J"⟩ : MethodName) jdk_29_method_66_code 4 (some .long) ({ frames := 0, cells := 0, slots := 0, locals := 0 } : Room) #[.long a, .long b] h F (fun r h' F' => r = some (.long (if a < b then b else a)) ∧ h = h' ∧ F = F') := by
  refine met_of (by decide +kernel) fun x T hQ B W => ?_
  refine G.cast (g' := fr x 0 #[.val (.long a), .second, .val (.long b), .second] []) (by simp [entryFrame, mkF, argsToLocals, Own.cat_r, Own.cat_i, Own.cat_j, Own.cat_n]) ?_
  refine w_lloadN W B d_maxl_0 rfl ?_
  refine w_lloadN W B d_maxl_1 rfl ?_
  refine w_lcmp W B d_maxl_2 ?_
  refine w_if_lt W B d_maxl_3 ?_ ?_
  · intro hc3
    show G E x T (fr x 10 #[.val (.long a), .second, .val (.long b), .second] [])
    refine w_lloadN W B d_maxl_10 rfl ?_
    exact w_lreturn W B d_maxl_11 hQ (by decide) (by decide) (fun _ q => q) ⟨by simp only [(cmpL_lt a b).mp hc3, if_true], rfl, rfl⟩
  · intro hc3
    show G E x T (fr x 6 #[.val (.long a), .second, .val (.long b), .second] [])
    refine w_lloadN W B d_maxl_6 rfl ?_
    refine w_goto W B d_maxl_7 ?_
    exact w_lreturn W B d_maxl_11 hQ (by decide) (by decide) (fun _ q => q) ⟨by simp only [mt (cmpL_lt a b).mpr hc3, if_false], rfl, rfl⟩
set_option maxRecDepth 65536 in
set_option maxHeartbeats 4000000 in
theorem maxi_met {E : Gl} (hw : Tb E) {h : Heap} {F : List Addr} (a b : Int32) :
    Met E (⟨"java/lang/Math", "max", "(II)I"⟩ : MethodName) jdk_29_method_65_code 2 (some .int) ({ frames := 0, cells := 0, slots := 0, locals := 0 } : Room) #[.int a, .int b] h F (fun r h' F' => r = some (.int (if a < b then b else a)) ∧ h = h' ∧ F = F') := by
  refine met_of (by decide +kernel) fun x T hQ B W => ?_
  refine G.cast (g' := fr x 0 #[.val (.int a), .val (.int b)] []) (by simp [entryFrame, mkF, argsToLocals, Own.cat_r, Own.cat_i, Own.cat_j, Own.cat_n]) ?_
  refine w_iloadN W B d_maxi_0 rfl ?_
  refine w_iloadN W B d_maxi_1 rfl ?_
  refine w_icmp_lt W B d_maxi_2 ?_ ?_
  · intro hc2
    show G E x T (fr x 9 #[.val (.int a), .val (.int b)] [])
    refine w_iloadN W B d_maxi_9 rfl ?_
    exact w_ireturn W B d_maxi_10 hQ (by decide) (by decide) (fun _ q => q) ⟨by simp only [hc2, if_true], rfl, rfl⟩
  · intro hc2
    show G E x T (fr x 5 #[.val (.int a), .val (.int b)] [])
    refine w_iloadN W B d_maxi_5 rfl ?_
    refine w_goto W B d_maxi_6 ?_
    exact w_ireturn W B d_maxi_10 hQ (by decide) (by decide) (fun _ q => q) ⟨by simp only [hc2, if_false], rfl, rfl⟩
set_option maxRecDepth 65536 in
set_option maxHeartbeats 4000000 in
theorem abl_met {E : Gl} (hw : Tb E) {h : Heap} {F : List Addr} {s : Addr} (hs : s ∈ F) (Es : Exa E.Z h s "java/util/ArrayList") (fm : Fld E.Z h s "java/util/AbstractList" "modCount" "I" (.int 0)) :
    Met E (⟨"java/util/AbstractList", "<init>", "()V"⟩ : MethodName) jdk_39_method_1_code 1 none ({ frames := 2, cells := 0, slots := 0, locals := 24 } : Room) #[.ref s] h F (fun r h' F' => r = none ∧ F = F' ∧ Wr h h' s (Jvm.RoadKit.slotOf E.Z "java/util/AbstractList" "modCount" "I") (.int 0) ∧ Keep h h' [s] ∧ Exa E.Z h' s "java/util/ArrayList" ∧ Fld E.Z h' s "java/util/AbstractList" "modCount" "I" (.int 0)) := by
  refine met_of (by decide +kernel) fun x T hQ B W => ?_
  refine G.cast (g' := fr x 0 #[.val (.ref s)] []) (by simp [entryFrame, mkF, argsToLocals, Own.cat_r, Own.cat_i, Own.cat_j, Own.cat_n]) ?_
  refine w_aloadN W B d_abl_0 rfl rfl ?_
  refine w_special W B (y := ⟨"java/util/AbstractCollection", "<init>", "()V"⟩) d_abl_1 rfl (wd hw 103 rfl) (wd hw 104 rfl) (wd hw 107 rfl) (wd hw 108 rfl) (by decide) pd___V167 (argsL := []) rfl rfl rfl (Wt := 0) (Nat.le_of_eq rfl) (abc_met hw) (by decide) (by decide) (by decide) (by decide) ?_
  intro T1 h2 F3 v4 W5 Q6
  obtain ⟨rfl, rfl, rfl⟩ := Q6
  show G E x T1 (fr x 4 #[.val (.ref s)] [])
  refine w_aloadN W5 B d_abl_4 rfl rfl ?_
  refine w_iconst W5 B d_abl_5 (v := (0 : Int32)) rfl ?_
  refine w_putF W5 B d_abl_6 hs (wd hw 110 rfl) Via.refl fm Es (Or.inl (wd hw 111 rfl)) (wd hw 92 rfl) (ty := .int) (v' := (.int (0 : Int32))) (by decide) rfl rfl ?_
  intro T7 h8 W9 Y10 f11
  have KK12 : Keep h h8 [s] := (Keep.refl h [s]).wr Y10 (Or.inl (List.Mem.head _))
  exact w_return W9 B d_abl_9 hQ (by decide) (by decide) (fun _ q => q) ⟨rfl, rfl, Y10, KK12, (Es.wr Y10), f11⟩
set_option maxRecDepth 65536 in
set_option maxHeartbeats 4000000 in
theorem ali_met {E : Gl} (hw : Tb E) {h : Heap} {F : List Addr} {s de : Addr} (Sd : Sta E.Z E.Z.heap "java/util/ArrayList" "DEFAULTCAPACITY_EMPTY_ELEMENTDATA" "[Ljava/lang/Object;" (.ref de)) (hs : s ∈ F) (Es : Exa E.Z h s "java/util/ArrayList") (fm : Fld E.Z h s "java/util/AbstractList" "modCount" "I" (.int 0)) (fe : Fld E.Z h s "java/util/ArrayList" "elementData" "[Ljava/lang/Object;" .null) (fz : Fld E.Z h s "java/util/ArrayList" "size" "I" (.int 0)) :
    Met E (⟨"java/util/ArrayList", "<init>", "()V"⟩ : MethodName) jdk_38_method_2_code 1 none ({ frames := 3, cells := 0, slots := 0, locals := 36 } : Room) #[.ref s] h F (fun r h' F' => r = none ∧ F = F' ∧ Keep h h' [s] ∧ Exa E.Z h' s "java/util/ArrayList" ∧ Fld E.Z h' s "java/util/AbstractList" "modCount" "I" (.int 0) ∧ Fld E.Z h' s "java/util/ArrayList" "elementData" "[Ljava/lang/Object;" (.ref de) ∧ Fld E.Z h' s "java/util/ArrayList" "size" "I" (.int 0)) := by
  refine met_of (by decide +kernel) fun x T hQ B W => ?_
  refine G.cast (g' := fr x 0 #[.val (.ref s)] []) (by simp [entryFrame, mkF, argsToLocals, Own.cat_r, Own.cat_i, Own.cat_j, Own.cat_n]) ?_
  refine w_aloadN W B d_ali_0 rfl rfl ?_
  refine w_special W B (y := ⟨"java/util/AbstractList", "<init>", "()V"⟩) d_ali_1 rfl (wd hw 97 rfl) (wd hw 98 rfl) (wd hw 101 rfl) (wd hw 102 rfl) (by decide) pd___V167 (argsL := []) rfl rfl rfl (Wt := 0) (Nat.le_of_eq rfl) (abl_met hw hs Es fm) (by decide) (by decide) (by decide) (by decide) ?_
  intro T1 h2 F3 v4 W5 Q6
  obtain ⟨rfl, rfl, Y1, K1, E1, fm1⟩ := Q6
  show G E x T1 (fr x 4 #[.val (.ref s)] [])
  refine w_aloadN W5 B d_ali_4 rfl rfl ?_
  refine w_getS W5 B d_ali_5 (wd hw 112 rfl) Via.refl Sd ?_
  intro T7 W8
  refine w_putF W8 B d_ali_8 hs (wd hw 113 rfl) Via.refl (fe.other Y1 (Or.inr (slot_ne (Or.inl (wd hw 114 rfl)) (Or.inl (wd hw 111 rfl)) (t := (.array (.object "java/lang/Object"))) (t' := .int) (by decide) (by decide) (by decide)))) E1 (Or.inl (wd hw 114 rfl)) (wd hw 92 rfl) (ty := (.array (.object "java/lang/Object"))) (v' := (.ref de)) (by decide) rfl rfl ?_
  intro T9 h10 W11 Y12 f13
  have KK14 : Keep h h2 [s] := (Keep.refl h [s]).wr Y1 (Or.inl (List.Mem.head _))
  have KK15 : Keep h h10 [s] := KK14.wr Y12 (Or.inl (List.Mem.head _))
  exact w_return W11 B d_ali_11 hQ (by decide) (by decide) (fun _ q => q) ⟨rfl, rfl, KK15, (E1.wr Y12), (fm1.other Y12 (Or.inr (slot_ne (Or.inl (wd hw 111 rfl)) (Or.inl (wd hw 114 rfl)) (t := .int) (t' := (.array (.object "java/lang/Object"))) (by decide) (by decide) (by decide)))), f13, ((fz.other Y1 (Or.inr (slot_ne (Or.inl (wd hw 127 rfl)) (Or.inl (wd hw 111 rfl)) (t := .int) (t' := .int) (by decide) (by decide) (by decide)))).other Y12 (Or.inr (slot_ne (Or.inl (wd hw 127 rfl)) (Or.inl (wd hw 114 rfl)) (t := .int) (t' := (.array (.object "java/lang/Object"))) (by decide) (by decide) (by decide))))⟩
set_option maxRecDepth 65536 in
set_option maxHeartbeats 4000000 in
theorem grow2_met {E : Gl} (hw : Tb E) {h : Heap} {F : List Addr} {s de : Addr} {kd : ClassId} {m : Int32} (Sd : Sta E.Z E.Z.heap "java/util/ArrayList" "DEFAULTCAPACITY_EMPTY_ELEMENTDATA" "[Ljava/lang/Object;" (.ref de)) (Ad : Arv E.Z E.Z.heap de kd (.object "java/lang/Object") 0 [] .null) (hs : s ∈ F) (Es : Exa E.Z h s "java/util/ArrayList") (fm : Fld E.Z h s "java/util/AbstractList" "modCount" "I" (.int m)) (fe : Fld E.Z h s "java/util/ArrayList" "elementData" "[Ljava/lang/Object;" (.ref de)) (fz : Fld E.Z h s "java/util/ArrayList" "size" "I" (.int 0)) :
    Met E (⟨"java/util/ArrayList", "grow", "(I)[Ljava/lang/Object;"⟩ : MethodName) jdk_38_method_6_code 4 (some (.array (.object "java/lang/Object"))) ({ frames := 1, cells := 1, slots := 10, locals := 14 } : Room) #[.ref s, .int 1] h F (fun r h' F' => ∃ (ea : Addr) (k : ClassId), r = some (.ref ea) ∧ ea :: F = F' ∧ Keep h h' [s] ∧ h.size ≤ ea ∧ Exa E.Z h' s "java/util/ArrayList" ∧ Fld E.Z h' s "java/util/AbstractList" "modCount" "I" (.int m) ∧ Fld E.Z h' s "java/util/ArrayList" "elementData" "[Ljava/lang/Object;" (.ref ea) ∧ Fld E.Z h' s "java/util/ArrayList" "size" "I" (.int 0) ∧ Arv E.Z h' ea k (.object "java/lang/Object") 10 [.null, .null, .null, .null, .null, .null, .null, .null, .null, .null] .null ∧ Ovr E.Z k "java/lang/Object") := by
  refine met_of (by decide +kernel) fun x T hQ B W => ?_
  refine G.cast (g' := fr x 0 #[.val (.ref s), .val (.int (1 : Int32)), .unset, .unset] []) (by simp [entryFrame, mkF, argsToLocals, Own.cat_r, Own.cat_i, Own.cat_j, Own.cat_n]) ?_
  refine w_aloadN W B d_grow2_0 rfl rfl ?_
  refine w_getF W B d_grow2_1 (wd hw 113 rfl) Via.refl fe ?_
  intro T1 W2
  refine w_arraylength W2 B d_grow2_4 (Ad.ext W.old) ?_
  refine w_istoreN W2 B d_grow2_5 (Ls' := #[.val (.ref s), .val (.int (1 : Int32)), .val (.int (0 : Int32)), .unset]) rfl ?_
  refine w_iloadN W2 B d_grow2_6 rfl ?_
  refine w_if_gt W2 B d_grow2_7 (fun q => absurd q (by decide)) (fun _ => ?_)
  show G E x T1 (fr x 10 #[.val (.ref s), .val (.int (1 : Int32)), .val (.int (0 : Int32)), .unset] [])
  refine w_aloadN W2 B d_grow2_10 rfl rfl ?_
  refine w_getF W2 B d_grow2_11 (wd hw 113 rfl) Via.refl fe ?_
  intro T3 W4
  refine w_getS W4 B d_grow2_14 (wd hw 112 rfl) Via.refl Sd ?_
  intro T5 W6
  refine w_acmp_eq_y W6 B d_grow2_17 rfl rfl rfl ?_
  refine w_aloadN W6 B d_grow2_45 rfl rfl ?_
  refine w_bipush W6 B d_grow2_46 (v := (10 : Int32)) rfl ?_
  refine w_iloadN W6 B d_grow2_48 rfl ?_
  refine w_static W6 B (y := ⟨"java/lang/Math", "max", "(II)I"⟩) d_grow2_49 (wd hw 143 rfl) (wd hw 144 rfl) (wd hw 89 rfl) (wd hw 145 rfl) (by decide) pd__II_I300 (argsL := [(.int (10 : Int32)), (.int (1 : Int32))]) rfl rfl rfl (Wt := 1) (Nat.le_of_eq rfl) (maxi_met hw 10 1) (by decide) (by decide) (by decide) (by decide) ?_
  intro T7 h8 F9 v10 W11 Q12
  obtain ⟨rfl, rfl, rfl⟩ := Q12
  show G E x T7 (fr x 52 #[.val (.ref s), .val (.int (1 : Int32)), .val (.int (0 : Int32)), .unset] [(.int (10 : Int32)), (.ref s)])
  refine w_anewarray W11 B (ad := "") d_grow2_52 (wd hw 146 rfl) (wd hw 147 rfl) (by decide) (cap := 10) (by decide) (by decide) (by decide) (by decide) ?_
  intro T2 h2 ea k2 W2 g2 X2 A2 O2
  have A3 : Arv E.Z h2 ea k2 (.object "java/lang/Object") (10 : Int32) [.null, .null, .null, .null, .null, .null, .null, .null, .null, .null] .null := A2.pad (pad_rep [] .null 10)
  show G E x T2 (fr x 55 #[.val (.ref s), .val (.int (1 : Int32)), .val (.int (0 : Int32)), .unset] [(.ref ea), (.ref s)])
  refine w_dupX1 W2 B d_grow2_55 rfl rfl ?_
  refine w_putF W2 B d_grow2_56 (List.Mem.tail _ hs) (wd hw 113 rfl) Via.refl (fe.ext X2) (Es.ext X2) (Or.inl (wd hw 114 rfl)) (wd hw 92 rfl) (ty := (.array (.object "java/lang/Object"))) (v' := (.ref ea)) (by decide) rfl rfl ?_
  intro T13 h14 W15 Y16 f17
  have KK18 : Keep h h2 [s] := (Keep.refl h [s]).ext X2
  have KK19 : Keep h h14 [s] := KK18.wr Y16 (Or.inl (List.Mem.head _))
  exact w_areturn W15 B d_grow2_59 rfl rfl hQ (by decide) (by decide) (fun _ q => q) ⟨ea, k2, rfl, rfl, KK19, Nat.le_of_eq g2.symm, ((Es.ext X2).wr Y16), ((fm.ext X2).other Y16 (Or.inr (slot_ne (Or.inl (wd hw 111 rfl)) (Or.inl (wd hw 114 rfl)) (t := .int) (t' := (.array (.object "java/lang/Object"))) (by decide) (by decide) (by decide)))), f17, ((fz.ext X2).other Y16 (Or.inr (slot_ne (Or.inl (wd hw 127 rfl)) (Or.inl (wd hw 114 rfl)) (t := .int) (t' := (.array (.object "java/lang/Object"))) (by decide) (by decide) (by decide)))), (A3.other Y16 (Ne.symm (Own.ne_new Es.lt g2))), O2⟩
set_option maxRecDepth 65536 in
set_option maxHeartbeats 4000000 in
theorem grow0_met {E : Gl} (hw : Tb E) {h : Heap} {F : List Addr} {s de : Addr} {kd : ClassId} {m : Int32} (Sd : Sta E.Z E.Z.heap "java/util/ArrayList" "DEFAULTCAPACITY_EMPTY_ELEMENTDATA" "[Ljava/lang/Object;" (.ref de)) (Ad : Arv E.Z E.Z.heap de kd (.object "java/lang/Object") 0 [] .null) (hs : s ∈ F) (Es : Exa E.Z h s "java/util/ArrayList") (fm : Fld E.Z h s "java/util/AbstractList" "modCount" "I" (.int m)) (fe : Fld E.Z h s "java/util/ArrayList" "elementData" "[Ljava/lang/Object;" (.ref de)) (fz : Fld E.Z h s "java/util/ArrayList" "size" "I" (.int 0)) :
    Met E (⟨"java/util/ArrayList", "grow", "()[Ljava/lang/Object;"⟩ : MethodName) jdk_38_method_7_code 1 (some (.array (.object "java/lang/Object"))) ({ frames := 2, cells := 1, slots := 10, locals := 29 } : Room) #[.ref s] h F (fun r h' F' => ∃ (ea : Addr) (k : ClassId), r = some (.ref ea) ∧ ea :: F = F' ∧ Keep h h' [s] ∧ h.size ≤ ea ∧ Exa E.Z h' s "java/util/ArrayList" ∧ Fld E.Z h' s "java/util/AbstractList" "modCount" "I" (.int m) ∧ Fld E.Z h' s "java/util/ArrayList" "elementData" "[Ljava/lang/Object;" (.ref ea) ∧ Fld E.Z h' s "java/util/ArrayList" "size" "I" (.int 0) ∧ Arv E.Z h' ea k (.object "java/lang/Object") 10 [.null, .null, .null, .null, .null, .null, .null, .null, .null, .null] .null ∧ Ovr E.Z k "java/lang/Object") := by
  refine met_of (by decide +kernel) fun x T hQ B W => ?_
  refine G.cast (g' := fr x 0 #[.val (.ref s)] []) (by simp [entryFrame, mkF, argsToLocals, Own.cat_r, Own.cat_i, Own.cat_j, Own.cat_n]) ?_
  refine w_aloadN W B d_grow0_0 rfl rfl ?_
  refine w_aloadN W B d_grow0_1 rfl rfl ?_
  refine w_getF W B d_grow0_2 (wd hw 126 rfl) Via.refl fz ?_
  intro T1 W2
  refine w_iconst W2 B d_grow0_5 (v := (1 : Int32)) rfl ?_
  refine w_iadd W2 B d_grow0_6 ?_
  refine w_private W2 B (y := ⟨"java/util/ArrayList", "grow", "(I)[Ljava/lang/Object;"⟩) d_grow0_7 (wd hw 138 rfl) (wd hw 139 rfl) (wd hw 140 rfl) (nf_z (wd hw 141 rfl)) (wd hw 93 rfl) (wd hw 142 rfl) (by decide) Es pd__I__Ljava_lang_Object_912 (argsL := [(.int ((0 : Int32) + (1 : Int32)))]) rfl rfl rfl (Wt := 0) (Nat.le_of_eq rfl) (grow2_met hw Sd Ad hs Es fm fe fz) (by decide) (by decide) (by decide) (by decide) ?_
  intro T3 h4 F5 v6 W7 Q8
  obtain ⟨ea, k2, rfl, rfl, K2, g2, E2, m2, e2, z2, A2, O2⟩ := Q8
  show G E x T3 (fr x 10 #[.val (.ref s)] [(.ref ea)])
  exact w_areturn W7 B d_grow0_10 rfl rfl hQ (by decide) (by decide) (fun _ q => q) ⟨ea, k2, rfl, rfl, K2, g2, E2, m2, e2, z2, A2, O2⟩
set_option maxRecDepth 65536 in
set_option maxHeartbeats 4000000 in
theorem add3_met {E : Gl} (hw : Tb E) {h : Heap} {F : List Addr} {s p de : Addr} {kd : ClassId} {m : Int32} (Sd : Sta E.Z E.Z.heap "java/util/ArrayList" "DEFAULTCAPACITY_EMPTY_ELEMENTDATA" "[Ljava/lang/Object;" (.ref de)) (Ad : Arv E.Z E.Z.heap de kd (.object "java/lang/Object") 0 [] .null) (hs : s ∈ F) (Es : Exa E.Z h s "java/util/ArrayList") (fm : Fld E.Z h s "java/util/AbstractList" "modCount" "I" (.int m)) (fe : Fld E.Z h s "java/util/ArrayList" "elementData" "[Ljava/lang/Object;" (.ref de)) (fz : Fld E.Z h s "java/util/ArrayList" "size" "I" (.int 0)) (Ep : Exa E.Z h p "com/example/lakebed/lakebed/table/PlannedFile") :
    Met E (⟨"java/util/ArrayList", "add", "(Ljava/lang/Object;[Ljava/lang/Object;I)V"⟩ : MethodName) jdk_38_method_24_code 4 none ({ frames := 3, cells := 1, slots := 10, locals := 41 } : Room) #[.ref s, .ref p, .ref de, .int 0] h F (fun r h' F' => r = none ∧ F = F' ∧ Keep h h' [s] ∧ ∃ (ea : Addr) (k : ClassId), Exa E.Z h' s "java/util/ArrayList" ∧ Fld E.Z h' s "java/util/AbstractList" "modCount" "I" (.int m) ∧ Fld E.Z h' s "java/util/ArrayList" "elementData" "[Ljava/lang/Object;" (.ref ea) ∧ Fld E.Z h' s "java/util/ArrayList" "size" "I" (.int 1) ∧ Arv E.Z h' ea k (.object "java/lang/Object") 10 [(.ref p), .null, .null, .null, .null, .null, .null, .null, .null, .null] .null) := by
  refine met_of (by decide +kernel) fun x T hQ B W => ?_
  refine G.cast (g' := fr x 0 #[.val (.ref s), .val (.ref p), .val (.ref de), .val (.int (0 : Int32))] []) (by simp [entryFrame, mkF, argsToLocals, Own.cat_r, Own.cat_i, Own.cat_j, Own.cat_n]) ?_
  refine w_iloadN W B d_add3_0 rfl ?_
  refine w_aloadN W B d_add3_1 rfl rfl ?_
  refine w_arraylength W B d_add3_2 (Ad.ext W.old) ?_
  refine w_icmp_ne W B d_add3_3 (fun q => q rfl |>.elim) (fun _ => ?_)
  show G E x T (fr x 6 #[.val (.ref s), .val (.ref p), .val (.ref de), .val (.int (0 : Int32))] [])
  refine w_aloadN W B d_add3_6 rfl rfl ?_
  refine w_private W B (y := ⟨"java/util/ArrayList", "grow", "()[Ljava/lang/Object;"⟩) d_add3_7 (wd hw 133 rfl) (wd hw 134 rfl) (wd hw 135 rfl) (nf_z (wd hw 136 rfl)) (wd hw 93 rfl) (wd hw 137 rfl) (by decide) Es pd____Ljava_lang_Object_839 (argsL := []) rfl rfl rfl (Wt := 0) (Nat.le_of_eq rfl) (grow0_met hw Sd Ad hs Es fm fe fz) (by decide) (by decide) (by decide) (by decide) ?_
  intro T1 h2 F3 v4 W5 Q6
  obtain ⟨ea, k2, rfl, rfl, K2, g2, E2, m2, e2, z2, A2, O2⟩ := Q6
  show G E x T1 (fr x 10 #[.val (.ref s), .val (.ref p), .val (.ref de), .val (.int (0 : Int32))] [(.ref ea)])
  refine w_astoreN W5 B d_add3_10 rfl (Ls' := #[.val (.ref s), .val (.ref p), .val (.ref ea), .val (.int (0 : Int32))]) rfl ?_
  refine w_aloadN W5 B d_add3_11 rfl rfl ?_
  refine w_iloadN W5 B d_add3_12 rfl ?_
  refine w_aloadN W5 B d_add3_13 rfl rfl ?_
  obtain ⟨cq, Aq, hq, -⟩ := id A2
  have Sp : Sto E.Z h2 ea (.ref p) := Sto.ofV Aq hq O2 (Ins.of_exa (Ep.keep K2) (wd hw 148 rfl))
  refine w_aastore W5 B d_add3_14 (List.Mem.head _) rfl A2 (by decide) (i := 0) rfl (by decide) rfl Sp ?_
  intro T4 h4 W4 K4 A4
  have A5 : Arv E.Z h4 ea k2 (.object "java/lang/Object") (10 : Int32) [(.ref p), .null, .null, .null, .null, .null, .null, .null, .null, .null] .null := A4
  show G E x T4 (fr x 15 #[.val (.ref s), .val (.ref p), .val (.ref ea), .val (.int (0 : Int32))] [])
  refine w_aloadN W4 B d_add3_15 rfl rfl ?_
  refine w_iloadN W4 B d_add3_16 rfl ?_
  refine w_iconst W4 B d_add3_17 (v := (1 : Int32)) rfl ?_
  refine w_iadd W4 B d_add3_18 ?_
  refine w_putF W4 B d_add3_19 (List.Mem.tail _ hs) (wd hw 126 rfl) Via.refl (z2.keep K4 (ninS (Nat.ne_of_lt (Nat.lt_of_lt_of_le Es.lt g2)) nin0)) (E2.keep K4) (Or.inl (wd hw 127 rfl)) (wd hw 92 rfl) (ty := .int) (v' := (.int ((0 : Int32) + (1 : Int32)))) (by decide) rfl rfl ?_
  intro T7 h8 W9 Y10 f11
  have hea : h.size ≤ ea := g2
  have KA : Keep h h2 [s] := K2
  have KB : Keep h h4 [s] := KA.trans K4 (allS (Or.inr g2) all0)
  have KC : Keep h h8 [s] := KB.wr Y10 (Or.inl (List.Mem.head _))
  exact w_return W9 B d_add3_22 hQ (by decide) (by decide) (fun _ q => (List.Mem.tail _ q)) ⟨rfl, rfl, KC, ea, k2, ((E2.keep K4).wr Y10), ((m2.keep K4 (ninS (Nat.ne_of_lt (Nat.lt_of_lt_of_le Es.lt g2)) nin0)).other Y10 (Or.inr (slot_ne (Or.inl (wd hw 111 rfl)) (Or.inl (wd hw 127 rfl)) (t := .int) (t' := .int) (by decide) (by decide) (by decide)))), ((e2.keep K4 (ninS (Nat.ne_of_lt (Nat.lt_of_lt_of_le Es.lt g2)) nin0)).other Y10 (Or.inr (slot_ne (Or.inl (wd hw 114 rfl)) (Or.inl (wd hw 127 rfl)) (t := (.array (.object "java/lang/Object"))) (t' := .int) (by decide) (by decide) (by decide)))), f11, (A5.other Y10 (Ne.symm (Nat.ne_of_lt (Nat.lt_of_lt_of_le Es.lt g2))))⟩
set_option maxRecDepth 65536 in
set_option maxHeartbeats 4000000 in
theorem add1_met {E : Gl} (hw : Tb E) {h : Heap} {F : List Addr} {s p de : Addr} {kd : ClassId} (Sd : Sta E.Z E.Z.heap "java/util/ArrayList" "DEFAULTCAPACITY_EMPTY_ELEMENTDATA" "[Ljava/lang/Object;" (.ref de)) (Ad : Arv E.Z E.Z.heap de kd (.object "java/lang/Object") 0 [] .null) (hs : s ∈ F) (Es : Exa E.Z h s "java/util/ArrayList") (fm : Fld E.Z h s "java/util/AbstractList" "modCount" "I" (.int 0)) (fe : Fld E.Z h s "java/util/ArrayList" "elementData" "[Ljava/lang/Object;" (.ref de)) (fz : Fld E.Z h s "java/util/ArrayList" "size" "I" (.int 0)) (Ep : Exa E.Z h p "com/example/lakebed/lakebed/table/PlannedFile") :
    Met E (⟨"java/util/ArrayList", "add", "(Ljava/lang/Object;)Z"⟩ : MethodName) jdk_38_method_25_code 2 (some .boolean) ({ frames := 4, cells := 1, slots := 10, locals := 56 } : Room) #[.ref s, .ref p] h F (fun r h' F' => r = some (.int 1) ∧ F = F' ∧ Keep h h' [s] ∧ ∃ (ea : Addr) (k : ClassId), Exa E.Z h' s "java/util/ArrayList" ∧ Fld E.Z h' s "java/util/ArrayList" "elementData" "[Ljava/lang/Object;" (.ref ea) ∧ Fld E.Z h' s "java/util/ArrayList" "size" "I" (.int 1) ∧ Arv E.Z h' ea k (.object "java/lang/Object") 10 [(.ref p), .null, .null, .null, .null, .null, .null, .null, .null, .null] .null) := by
  refine met_of (by decide +kernel) fun x T hQ B W => ?_
  refine G.cast (g' := fr x 0 #[.val (.ref s), .val (.ref p)] []) (by simp [entryFrame, mkF, argsToLocals, Own.cat_r, Own.cat_i, Own.cat_j, Own.cat_n]) ?_
  refine w_aloadN W B d_add1_0 rfl rfl ?_
  refine w_dup W B d_add1_1 rfl ?_
  refine w_getF W B d_add1_2 (wd hw 124 rfl) (Via.of (wd hw 125 rfl)) fm ?_
  intro T1 W2
  refine w_iconst W2 B d_add1_5 (v := (1 : Int32)) rfl ?_
  refine w_iadd W2 B d_add1_6 ?_
  refine w_putF W2 B d_add1_7 hs (wd hw 124 rfl) (Via.of (wd hw 125 rfl)) fm Es (Or.inl (wd hw 111 rfl)) (wd hw 92 rfl) (ty := .int) (v' := (.int ((0 : Int32) + (1 : Int32)))) (by decide) rfl rfl ?_
  intro T3 h4 W5 Y6 f7
  refine w_aloadN W5 B d_add1_10 rfl rfl ?_
  refine w_aloadN W5 B d_add1_11 rfl rfl ?_
  refine w_aloadN W5 B d_add1_12 rfl rfl ?_
  refine w_getF W5 B d_add1_13 (wd hw 113 rfl) Via.refl (fe.other Y6 (Or.inr (slot_ne (Or.inl (wd hw 114 rfl)) (Or.inl (wd hw 111 rfl)) (t := (.array (.object "java/lang/Object"))) (t' := .int) (by decide) (by decide) (by decide)))) ?_
  intro T8 W9
  refine w_aloadN W9 B d_add1_16 rfl rfl ?_
  refine w_getF W9 B d_add1_17 (wd hw 126 rfl) Via.refl (fz.other Y6 (Or.inr (slot_ne (Or.inl (wd hw 127 rfl)) (Or.inl (wd hw 111 rfl)) (t := .int) (t' := .int) (by decide) (by decide) (by decide)))) ?_
  intro T10 W11
  refine w_private W11 B (y := ⟨"java/util/ArrayList", "add", "(Ljava/lang/Object;[Ljava/lang/Object;I)V"⟩) d_add1_20 (wd hw 128 rfl) (wd hw 129 rfl) (wd hw 130 rfl) (nf_z (wd hw 131 rfl)) (wd hw 93 rfl) (wd hw 132 rfl) (by decide) (Es.wr Y6) pd__Ljava_lang_Object__Ljava_lang_Object_I_V668 (argsL := [(.ref p), (.ref de), (.int (0 : Int32))]) rfl rfl rfl (Wt := 0) (Nat.le_of_eq rfl) (add3_met hw Sd Ad hs (Es.wr Y6) f7 (fe.other Y6 (Or.inr (slot_ne (Or.inl (wd hw 114 rfl)) (Or.inl (wd hw 111 rfl)) (t := (.array (.object "java/lang/Object"))) (t' := .int) (by decide) (by decide) (by decide)))) (fz.other Y6 (Or.inr (slot_ne (Or.inl (wd hw 127 rfl)) (Or.inl (wd hw 111 rfl)) (t := .int) (t' := .int) (by decide) (by decide) (by decide)))) (Ep.wr Y6)) (by decide) (by decide) (by decide) (by decide) ?_
  intro T12 h13 F14 v15 W16 Q17
  obtain ⟨rfl, rfl, K2, ea, k2, E2, m2, e2, z2, A2⟩ := Q17
  show G E x T12 (fr x 23 #[.val (.ref s), .val (.ref p)] [])
  refine w_iconst W16 B d_add1_23 (v := (1 : Int32)) rfl ?_
  have KK18 : Keep h h4 [s] := (Keep.refl h [s]).wr Y6 (Or.inl (List.Mem.head _))
  have KK19 : Keep h h13 [s] := KK18.trans K2 (allS (Or.inl (List.Mem.head _)) all0)
  exact w_ireturnN W16 B d_add1_24 (Or.inl rfl) (u := 1) rfl hQ (by decide) (by decide) (fun _ q => q) ⟨rfl, rfl, KK19, ea, k2, E2, e2, z2, A2⟩
set_option maxRecDepth 65536 in
set_option maxHeartbeats 4000000 in
theorem pchk_met {E : Gl} (hw : Tb E) {h : Heap} {F : List Addr} {i n : Int32} {f : Value} (rf : f.isRef = true) (hi : ¬ i < 0 ∧ i < n) :
    Met E (⟨"jdk/internal/util/Preconditions", "checkIndex", "(IILjava/util/function/BiFunction;)I"⟩ : MethodName) jdk_41_method_11_code 3 (some .int) ({ frames := 0, cells := 0, slots := 0, locals := 0 } : Room) #[.int i, .int n, f] h F (fun r h' F' => r = some (.int i) ∧ h = h' ∧ F = F') := by
  refine met_of (by decide +kernel) fun x T hQ B W => ?_
  refine G.cast (g' := fr x 0 #[.val (.int i), .val (.int n), .val f] []) (by simp [entryFrame, mkF, argsToLocals, Own.cat_r, Own.cat_i, Own.cat_j, Own.cat_n, cat_ref rf]) ?_
  refine w_iloadN W B d_pchk_0 rfl ?_
  refine w_if_lt W B d_pchk_1 (fun q => absurd q hi.1) (fun _ => ?_)
  show G E x T (fr x 4 #[.val (.int i), .val (.int n), .val f] [])
  refine w_iloadN W B d_pchk_4 rfl ?_
  refine w_iloadN W B d_pchk_5 rfl ?_
  refine w_icmp_lt W B d_pchk_6 (fun _ => ?_) (fun q => q hi.2 |>.elim)
  show G E x T (fr x 16 #[.val (.int i), .val (.int n), .val f] [])
  refine w_iloadN W B d_pchk_16 rfl ?_
  exact w_ireturn W B d_pchk_17 hQ (by decide) (by decide) (fun _ q => q) ⟨rfl, rfl, rfl⟩
set_option maxRecDepth 65536 in
set_option maxHeartbeats 4000000 in
theorem ochk_met {E : Gl} (hw : Tb E) {h : Heap} {F : List Addr} {i n : Int32} (hi : ¬ i < 0 ∧ i < n) :
    Met E (⟨"java/util/Objects", "checkIndex", "(II)I"⟩ : MethodName) jdk_31_method_17_code 2 (some .int) ({ frames := 1, cells := 0, slots := 0, locals := 14 } : Room) #[.int i, .int n] h F (fun r h' F' => r = some (.int i) ∧ h = h' ∧ F = F') := by
  refine met_of (by decide +kernel) fun x T hQ B W => ?_
  refine G.cast (g' := fr x 0 #[.val (.int i), .val (.int n)] []) (by simp [entryFrame, mkF, argsToLocals, Own.cat_r, Own.cat_i, Own.cat_j, Own.cat_n]) ?_
  refine w_iloadN W B d_ochk_0 rfl ?_
  refine w_iloadN W B d_ochk_1 rfl ?_
  refine w_null W B d_ochk_2 ?_
  refine w_static W B (y := ⟨"jdk/internal/util/Preconditions", "checkIndex", "(IILjava/util/function/BiFunction;)I"⟩) d_ochk_3 (wd hw 161 rfl) (wd hw 162 rfl) (wd hw 163 rfl) (wd hw 164 rfl) (by decide) pd__IILjava_util_function_BiFunction__I328 (argsL := [(.int i), (.int n), .null]) rfl rfl rfl (Wt := 0) (Nat.le_of_eq rfl) (pchk_met hw rfl hi) (by decide) (by decide) (by decide) (by decide) ?_
  intro T1 h2 F3 v4 W5 Q6
  obtain ⟨rfl, rfl, rfl⟩ := Q6
  show G E x T1 (fr x 6 #[.val (.int i), .val (.int n)] [(.int i)])
  exact w_ireturn W5 B d_ochk_6 hQ (by decide) (by decide) (fun _ q => q) ⟨rfl, rfl, rfl⟩
set_option maxRecDepth 65536 in
set_option maxHeartbeats 4000000 in
theorem eld_met {E : Gl} (hw : Tb E) {h : Heap} {F : List Addr} {s p ea : Addr} {k : ClassId} (fe : Fld E.Z h s "java/util/ArrayList" "elementData" "[Ljava/lang/Object;" (.ref ea)) (Ae : Arv E.Z h ea k (.object "java/lang/Object") 10 [(.ref p), .null, .null, .null, .null, .null, .null, .null, .null, .null] .null) :
    Met E (⟨"java/util/ArrayList", "elementData", "(I)Ljava/lang/Object;"⟩ : MethodName) jdk_38_method_18_code 2 (some (.object "java/lang/Object")) ({ frames := 0, cells := 0, slots := 0, locals := 0 } : Room) #[.ref s, .int 0] h F (fun r h' F' => r = some (.ref p) ∧ h = h' ∧ F = F') := by
  refine met_of (by decide +kernel) fun x T hQ B W => ?_
  refine G.cast (g' := fr x 0 #[.val (.ref s), .val (.int (0 : Int32))] []) (by simp [entryFrame, mkF, argsToLocals, Own.cat_r, Own.cat_i, Own.cat_j, Own.cat_n]) ?_
  refine w_aloadN W B d_eld_0 rfl rfl ?_
  refine w_getF W B d_eld_1 (wd hw 113 rfl) Via.refl fe ?_
  intro T1 W2
  refine w_iloadN W2 B d_eld_4 rfl ?_
  refine w_aaload W2 B d_eld_5 rfl Ae (by decide) (v := .ref p) rfl ?_
  exact w_areturn W2 B d_eld_6 rfl rfl hQ (by decide) (by decide) (fun _ q => q) ⟨rfl, rfl, rfl⟩
set_option maxRecDepth 65536 in
set_option maxHeartbeats 4000000 in
theorem get_met {E : Gl} (hw : Tb E) {h : Heap} {F : List Addr} {s p ea : Addr} {k : ClassId} (Es : Exa E.Z h s "java/util/ArrayList") (fz : Fld E.Z h s "java/util/ArrayList" "size" "I" (.int 1)) (fe : Fld E.Z h s "java/util/ArrayList" "elementData" "[Ljava/lang/Object;" (.ref ea)) (Ae : Arv E.Z h ea k (.object "java/lang/Object") 10 [(.ref p), .null, .null, .null, .null, .null, .null, .null, .null, .null] .null) :
    Met E (⟨"java/util/ArrayList", "get", "(I)Ljava/lang/Object;"⟩ : MethodName) jdk_38_method_20_code 2 (some (.object "java/lang/Object")) ({ frames := 2, cells := 0, slots := 0, locals := 27 } : Room) #[.ref s, .int 0] h F (fun r h' F' => r = some (.ref p) ∧ h = h' ∧ F = F') := by
  refine met_of (by decide +kernel) fun x T hQ B W => ?_
  refine G.cast (g' := fr x 0 #[.val (.ref s), .val (.int (0 : Int32))] []) (by simp [entryFrame, mkF, argsToLocals, Own.cat_r, Own.cat_i, Own.cat_j, Own.cat_n]) ?_
  refine w_iloadN W B d_get_0 rfl ?_
  refine w_aloadN W B d_get_1 rfl rfl ?_
  refine w_getF W B d_get_2 (wd hw 126 rfl) Via.refl fz ?_
  intro T1 W2
  refine w_static W2 B (y := ⟨"java/util/Objects", "checkIndex", "(II)I"⟩) d_get_5 (wd hw 157 rfl) (wd hw 158 rfl) (wd hw 159 rfl) (wd hw 160 rfl) (by decide) pd__II_I300 (argsL := [(.int (0 : Int32)), (.int (1 : Int32))]) rfl rfl rfl (Wt := 0) (Nat.le_of_eq rfl) (ochk_met hw (by decide)) (by decide) (by decide) (by decide) (by decide) ?_
  intro T3 h4 F5 v6 W7 Q8
  obtain ⟨rfl, rfl, rfl⟩ := Q8
  show G E x T3 (fr x 8 #[.val (.ref s), .val (.int (0 : Int32))] [(.int (0 : Int32))])
  refine w_pop W7 B d_get_8 rfl ?_
  refine w_aloadN W7 B d_get_9 rfl rfl ?_
  refine w_iloadN W7 B d_get_10 rfl ?_
  refine w_virtual W7 B (y := ⟨"java/util/ArrayList", "elementData", "(I)Ljava/lang/Object;"⟩) (z := ⟨"java/util/ArrayList", "elementData", "(I)Ljava/lang/Object;"⟩) d_get_11 (wd hw 165 rfl) (wd hw 166 rfl) (nf_sel (wd hw 168 rfl)) (wd hw 168 rfl) (wd hw 167 rfl) (wd hw 93 rfl) (wd hw 169 rfl) (by decide) Es pd__I_Ljava_lang_Object_821 (argsL := [(.int (0 : Int32))]) rfl rfl rfl (Wt := 0) (Nat.le_of_eq rfl) (eld_met hw fe Ae) (by decide) (by decide) (by decide) (by decide) ?_
  intro T9 h10 F11 v12 W13 Q14
  obtain ⟨rfl, rfl, rfl⟩ := Q14
  show G E x T9 (fr x 14 #[.val (.ref s), .val (.int (0 : Int32))] [(.ref p)])
  exact w_areturn W13 B d_get_14 rfl rfl hQ (by decide) (by decide) (fun _ q => q) ⟨rfl, rfl, rfl⟩
set_option maxRecDepth 65536 in
set_option maxHeartbeats 4000000 in
theorem chg_met {E : Gl} (hw : Tb E) {h : Heap} {F : List Addr} {ca : Addr} {cc : Cell} (Sc : Sta E.Z E.Z.heap "java/lang/Long$LongCache" "cache" "[Ljava/lang/Long;" (.ref ca)) (Bx : Bxs E.Z ca cc "java/lang/Long" "J" 256 (fun j => .long (j - 128).toInt64)) (fo : Addr) (p g : Int64) :
    Met E (⟨"com/example/lakebed/lakebed/table/PlannedFile", "change", "(Ljava/lang/String;Lcom/example/lakebed/lakebed/table/FileGroup;JJ)Lcom/example/lakebed/lakebed/table/PlannedFile;"⟩ : MethodName) prog_84_method_3_code 6 (some (.object "com/example/lakebed/lakebed/table/PlannedFile")) ({ frames := 4, cells := 2, slots := 6, locals := 59 } : Room) #[.ref fo, .null, .long p, .long g] h F (fun r h' F' => ∃ s la : Addr, r = some (.ref s) ∧ F = F' ∧ Keep h h' [] ∧ Exa E.Z h' s "com/example/lakebed/lakebed/table/PlannedFile" ∧ Fld E.Z h' s "com/example/lakebed/lakebed/table/PlannedFile" "gains" "Ljava/lang/Long;" (.ref la)) := by
  refine met_of (by decide +kernel) fun x T hQ B W => ?_
  refine G.cast (g' := fr x 0 #[.val (.ref fo), .val .null, .val (.long p), .second, .val (.long g), .second] []) (by simp [entryFrame, mkF, argsToLocals, Own.cat_r, Own.cat_i, Own.cat_j, Own.cat_n]) ?_
  refine w_new W B d_chg_0 (wd hw 60 rfl) (wd hw 31 rfl) (wd hw 32 rfl) (by decide) (by decide) ?_
  intro T1 h2 b3 W4 g5 X6 A7 D8
  have f9 : Fld E.Z h2 b3 "com/example/lakebed/lakebed/table/PlannedFile" "folder" "Ljava/lang/String;" .null := D8 (Or.inr (wd hw 43 rfl)) (ty := (.object "java/lang/String")) (by decide)
  have f10 : Fld E.Z h2 b3 "com/example/lakebed/lakebed/table/PlannedFile" "of" "Lcom/example/lakebed/lakebed/table/FileGroup;" .null := D8 (Or.inr (wd hw 45 rfl)) (ty := (.object "com/example/lakebed/lakebed/table/FileGroup")) (by decide)
  have f11 : Fld E.Z h2 b3 "com/example/lakebed/lakebed/table/PlannedFile" "rows" "J" (.long (0 : Int64)) := D8 (Or.inr (wd hw 47 rfl)) (ty := .long) (by decide)
  have f12 : Fld E.Z h2 b3 "com/example/lakebed/lakebed/table/PlannedFile" "gains" "Ljava/lang/Long;" .null := D8 (Or.inr (wd hw 49 rfl)) (ty := (.object "java/lang/Long")) (by decide)
  have f13 : Fld E.Z h2 b3 "com/example/lakebed/lakebed/table/PlannedFile" "spliced" "Z" (.int (0 : Int32)) := D8 (Or.inr (wd hw 51 rfl)) (ty := .boolean) (by decide)
  show G E x T1 (fr x 3 #[.val (.ref fo), .val .null, .val (.long p), .second, .val (.long g), .second] [(.ref b3)])
  refine w_dup W4 B d_chg_3 rfl ?_
  refine w_aloadN W4 B d_chg_4 rfl rfl ?_
  refine w_aloadN W4 B d_chg_5 rfl rfl ?_
  refine w_lloadN W4 B d_chg_6 rfl ?_
  refine w_lload W4 B d_chg_7 rfl ?_
  refine w_static W4 B (y := ⟨"java/lang/Long", "valueOf", "(J)Ljava/lang/Long;"⟩) d_chg_9 (wd hw 61 rfl) (wd hw 62 rfl) (wd hw 63 rfl) (wd hw 64 rfl) (by decide) pd__J_Ljava_lang_Long_623 (argsL := [(.long g)]) rfl rfl rfl (Wt := 6) (Nat.le_of_eq rfl) (lval_met hw Sc Bx g) (by decide) (by decide) (by decide) (by decide) ?_
  intro T14 h15 F16 v17 W18 Q19
  obtain ⟨la, rfl, rfl, KL⟩ := Q19
  show G E x T14 (fr x 12 #[.val (.ref fo), .val .null, .val (.long p), .second, .val (.long g), .second] [(.ref la), (.long p), .null, (.ref fo), (.ref b3), (.ref b3)])
  refine w_iconst W18 B d_chg_12 (v := (0 : Int32)) rfl ?_
  refine w_special W18 B (y := ⟨"com/example/lakebed/lakebed/table/PlannedFile", "<init>", "(Ljava/lang/String;Lcom/example/lakebed/lakebed/table/FileGroup;JLjava/lang/Long;Z)V"⟩) d_chg_13 rfl (wd hw 81 rfl) (wd hw 34 rfl) (wd hw 32 rfl) (wd hw 35 rfl) (by decide) pd__Ljava_lang_String_Lcom_example_lakebed_lakebed_table_FileGroup_JLjava_lang_Long_Z_V803 (argsL := [(.ref fo), .null, (.long p), (.ref la), (.int (0 : Int32))]) rfl rfl rfl (Wt := 1) (Nat.le_of_eq rfl) (pf_met hw rfl rfl p rfl 0 (List.Mem.head _) (A7.keep KL) (f9.keep KL nin0) (f10.keep KL nin0) (f11.keep KL nin0) (f12.keep KL nin0) (f13.keep KL nin0)) (by decide) (by decide) (by decide) (by decide) ?_
  intro T20 h21 F22 v23 W24 Q25
  obtain ⟨rfl, rfl, KP, EP, fg⟩ := Q25
  show G E x T20 (fr x 16 #[.val (.ref fo), .val .null, .val (.long p), .second, .val (.long g), .second] [(.ref b3)])
  have KK26 : Keep h h2 [] := (Keep.refl h []).ext X6
  have KK27 : Keep h h15 [] := KK26.trans KL all0
  have KK28 : Keep h h21 [] := KK27.trans KP (allS (Or.inr (Nat.le_trans (Keep.refl h []).1 (Nat.le_of_eq g5.symm))) all0)
  exact w_areturn W24 B d_chg_16 rfl rfl hQ (by decide) (by decide) (fun _ q => (List.Mem.tail _ q)) ⟨b3, la, rfl, rfl, KK28, EP, fg⟩
theorem one_file {p : Int64} (hp : 0 ≤ p.toInt ∧ p.toInt ≤ 524287) : (if (1 : Int64) < ((p + 524288 - 1) / 524288) then ((p + 524288 - 1) / 524288) else 1) = 1 := by
  have e1 : (p + 524288 - 1).toInt = p.toInt + 524287 := by
    rw [Int64.toInt_sub, Int64.toInt_add, show (524288 : Int64).toInt = 524288 from by decide, show (1 : Int64).toInt = 1 from by decide]
    rw [Int.bmod_eq_of_le (n := p.toInt + 524288) (by omega) (by omega)]
    exact (Int.bmod_eq_of_le (by omega) (by omega)).trans (by omega)
  have e2 := (c_ldiv (p + 524288 - 1) 524288 524288 (by decide) (by decide)).1 (by omega)
  rw [if_neg]
  rw [Int64.lt_iff_toInt_lt, e2, e1, show (1 : Int64).toInt = 1 from by decide]
  omega
theorem rem_one (p : Int64) : p % 1 = 0 := Int64.toInt_inj.mp (by rw [Int64.toInt_mod, show (1 : Int64).toInt = 1 from by decide, show (0 : Int64).toInt = 0 from by decide]; exact Int.tmod_one _)
set_option maxRecDepth 65536 in
set_option maxHeartbeats 4000000 in
theorem grp_met {E : Gl} (hw : Tb E) {h : Heap} {F : List Addr} {de : Addr} {kd : ClassId} (Sd : Sta E.Z E.Z.heap "java/util/ArrayList" "DEFAULTCAPACITY_EMPTY_ELEMENTDATA" "[Ljava/lang/Object;" (.ref de)) (Ad : Arv E.Z E.Z.heap de kd (.object "java/lang/Object") 0 [] .null) (fo : Addr) {p : Int64} (hp : 0 ≤ p.toInt ∧ p.toInt ≤ 524287) :
    Met E (⟨"com/example/lakebed/lakebed/table/PlannedFile", "group", "(Ljava/lang/String;Lcom/example/lakebed/lakebed/table/FileGroup;J)Ljava/util/List;"⟩ : MethodName) prog_84_method_2_code 12 (some (.object "java/util/List")) ({ frames := 5, cells := 3, slots := 18, locals := 71 } : Room) #[.ref fo, .null, .long p] h F (fun r h' F' => ∃ (s p ea : Addr) (k : ClassId), r = some (.ref s) ∧ F = F' ∧ Keep h h' [] ∧ Exa E.Z h' s "java/util/ArrayList" ∧ Fld E.Z h' s "java/util/ArrayList" "elementData" "[Ljava/lang/Object;" (.ref ea) ∧ Fld E.Z h' s "java/util/ArrayList" "size" "I" (.int 1) ∧ Arv E.Z h' ea k (.object "java/lang/Object") 10 [(.ref p), .null, .null, .null, .null, .null, .null, .null, .null, .null] .null ∧ Exa E.Z h' p "com/example/lakebed/lakebed/table/PlannedFile" ∧ Fld E.Z h' p "com/example/lakebed/lakebed/table/PlannedFile" "gains" "Ljava/lang/Long;" .null) := by
  refine met_of (by decide +kernel) fun x T hQ B W => ?_
  refine G.cast (g' := fr x 0 #[.val (.ref fo), .val .null, .val (.long p), .second, .unset, .unset, .unset, .unset, .unset, .unset, .unset, .unset] []) (by simp [entryFrame, mkF, argsToLocals, Own.cat_r, Own.cat_i, Own.cat_j, Own.cat_n]) ?_
  refine w_lconst W B d_grp_0 (v := (1 : Int64)) rfl ?_
  refine w_lloadN W B d_grp_1 rfl ?_
  refine w_ldc2J W B d_grp_2 (wd hw 86 rfl) ?_
  refine w_ladd W B d_grp_5 ?_
  refine w_lconst W B d_grp_6 (v := (1 : Int64)) rfl ?_
  refine w_lsub W B d_grp_7 ?_
  refine w_ldc2J W B d_grp_8 (wd hw 86 rfl) ?_
  refine w_ldiv W B d_grp_11 (by decide) ?_
  refine w_static W B (y := ⟨"java/lang/Math", "max", "(JJ)J"⟩) d_grp_12 (wd hw 87 rfl) (wd hw 88 rfl) (wd hw 89 rfl) (wd hw 90 rfl) (by decide) pd__JJ_J303 (argsL := [(.long (1 : Int64)), (.long (((p + (524288 : Int64)) - (1 : Int64)) / (524288 : Int64)))]) rfl rfl rfl (Wt := 0) (Nat.le_of_eq rfl) (maxl_met hw 1 (((p + (524288 : Int64)) - (1 : Int64)) / (524288 : Int64))) (by decide) (by decide) (by decide) (by decide) ?_
  intro T1 h2 F3 v4 W5 Q6
  obtain ⟨rfl, rfl, rfl⟩ := Q6
  rw [show (if (1 : Int64) < (((p + (524288 : Int64)) - (1 : Int64)) / (524288 : Int64)) then (((p + (524288 : Int64)) - (1 : Int64)) / (524288 : Int64)) else 1) = 1 from one_file hp]
  show G E x T1 (fr x 15 #[.val (.ref fo), .val .null, .val (.long p), .second, .unset, .unset, .unset, .unset, .unset, .unset, .unset, .unset] [(.long (1 : Int64))])
  refine w_lstore W5 B d_grp_15 (Ls' := #[.val (.ref fo), .val .null, .val (.long p), .second, .val (.long (1 : Int64)), .second, .unset, .unset, .unset, .unset, .unset, .unset]) rfl ?_
  refine w_lload W5 B d_grp_17 rfl ?_
  refine w_lconst W5 B d_grp_19 (v := (1 : Int64)) rfl ?_
  refine w_lcmp W5 B d_grp_20 ?_
  refine w_if_ne W5 B d_grp_21 (fun q => q (by decide) |>.elim) (fun _ => ?_)
  show G E x T1 (fr x 24 #[.val (.ref fo), .val .null, .val (.long p), .second, .val (.long (1 : Int64)), .second, .unset, .unset, .unset, .unset, .unset, .unset] [])
  refine w_aloadN W5 B d_grp_24 rfl rfl ?_
  refine w_ifnull_null W5 B d_grp_25 ?_
  refine w_iconst W5 B d_grp_44 (v := (0 : Int32)) rfl ?_
  refine w_istore W5 B d_grp_45 (Ls' := #[.val (.ref fo), .val .null, .val (.long p), .second, .val (.long (1 : Int64)), .second, .val (.int (0 : Int32)), .unset, .unset, .unset, .unset, .unset]) rfl ?_
  refine w_new W5 B d_grp_47 (wd hw 91 rfl) (wd hw 92 rfl) (wd hw 93 rfl) (by decide) (by decide) ?_
  intro T7 h8 b9 W10 g11 X12 A13 D14
  have f15 : Fld E.Z h8 b9 "java/util/AbstractList" "modCount" "I" (.int (0 : Int32)) := D14 (Or.inl (wd hw 111 rfl)) (ty := .int) (by decide)
  have f16 : Fld E.Z h8 b9 "java/util/ArrayList" "elementData" "[Ljava/lang/Object;" .null := D14 (Or.inl (wd hw 114 rfl)) (ty := (.array (.object "java/lang/Object"))) (by decide)
  have f17 : Fld E.Z h8 b9 "java/util/ArrayList" "size" "I" (.int (0 : Int32)) := D14 (Or.inl (wd hw 127 rfl)) (ty := .int) (by decide)
  show G E x T7 (fr x 50 #[.val (.ref fo), .val .null, .val (.long p), .second, .val (.long (1 : Int64)), .second, .val (.int (0 : Int32)), .unset, .unset, .unset, .unset, .unset] [(.ref b9)])
  refine w_dup W10 B d_grp_50 rfl ?_
  refine w_special W10 B (y := ⟨"java/util/ArrayList", "<init>", "()V"⟩) d_grp_51 rfl (wd hw 94 rfl) (wd hw 95 rfl) (wd hw 93 rfl) (wd hw 96 rfl) (by decide) pd___V167 (argsL := []) rfl rfl rfl (Wt := 1) (Nat.le_of_eq rfl) (ali_met hw Sd (List.Mem.head _) A13 f15 f16 f17) (by decide) (by decide) (by decide) (by decide) ?_
  intro T18 h19 F20 v21 W22 Q23
  obtain ⟨rfl, rfl, KI, EI, mI, eI, zI⟩ := Q23
  show G E x T18 (fr x 54 #[.val (.ref fo), .val .null, .val (.long p), .second, .val (.long (1 : Int64)), .second, .val (.int (0 : Int32)), .unset, .unset, .unset, .unset, .unset] [(.ref b9)])
  refine w_astore W22 B d_grp_54 rfl (Ls' := #[.val (.ref fo), .val .null, .val (.long p), .second, .val (.long (1 : Int64)), .second, .val (.int (0 : Int32)), .val (.ref b9), .unset, .unset, .unset, .unset]) rfl ?_
  refine w_lconst W22 B d_grp_56 (v := (0 : Int64)) rfl ?_
  refine w_lstore W22 B d_grp_57 (Ls' := #[.val (.ref fo), .val .null, .val (.long p), .second, .val (.long (1 : Int64)), .second, .val (.int (0 : Int32)), .val (.ref b9), .val (.long (0 : Int64)), .second, .unset, .unset]) rfl ?_
  refine w_lload W22 B d_grp_59 rfl ?_
  refine w_lload W22 B d_grp_61 rfl ?_
  refine w_lcmp W22 B d_grp_63 ?_
  refine w_if_ge W22 B d_grp_64 (fun q => q (by decide) |>.elim) (fun _ => ?_)
  show G E x T18 (fr x 67 #[.val (.ref fo), .val .null, .val (.long p), .second, .val (.long (1 : Int64)), .second, .val (.int (0 : Int32)), .val (.ref b9), .val (.long (0 : Int64)), .second, .unset, .unset] [])
  refine w_lloadN W22 B d_grp_67 rfl ?_
  refine w_lload W22 B d_grp_68 rfl ?_
  refine w_ldiv W22 B d_grp_70 (by decide) ?_
  refine w_lload W22 B d_grp_71 rfl ?_
  refine w_lloadN W22 B d_grp_73 rfl ?_
  refine w_lload W22 B d_grp_74 rfl ?_
  refine w_lrem W22 B d_grp_76 (by decide) ?_
  refine w_lcmp W22 B d_grp_77 ?_
  refine w_if_ge W22 B d_grp_78 (fun _ => ?_) (fun q => absurd q (by rw [rem_one]; decide))
  show G E x T18 (fr x 85 #[.val (.ref fo), .val .null, .val (.long p), .second, .val (.long (1 : Int64)), .second, .val (.int (0 : Int32)), .val (.ref b9), .val (.long (0 : Int64)), .second, .unset, .unset] [(.long (p / (1 : Int64)))])
  refine w_iconst W22 B d_grp_85 (v := (0 : Int32)) rfl ?_
  refine w_i2l W22 B d_grp_86 ?_
  refine w_ladd W22 B d_grp_87 ?_
  refine w_lstore W22 B d_grp_88 (Ls' := #[.val (.ref fo), .val .null, .val (.long p), .second, .val (.long (1 : Int64)), .second, .val (.int (0 : Int32)), .val (.ref b9), .val (.long (0 : Int64)), .second, .val (.long ((p / (1 : Int64)) + ((0 : Int32)).toInt64)), .second]) rfl ?_
  refine w_aload W22 B d_grp_90 rfl rfl ?_
  refine w_new W22 B d_grp_92 (wd hw 60 rfl) (wd hw 31 rfl) (wd hw 32 rfl) (by decide) (by decide) ?_
  intro T24 h25 b26 W27 g28 X29 A30 D31
  have f32 : Fld E.Z h25 b26 "com/example/lakebed/lakebed/table/PlannedFile" "folder" "Ljava/lang/String;" .null := D31 (Or.inr (wd hw 43 rfl)) (ty := (.object "java/lang/String")) (by decide)
  have f33 : Fld E.Z h25 b26 "com/example/lakebed/lakebed/table/PlannedFile" "of" "Lcom/example/lakebed/lakebed/table/FileGroup;" .null := D31 (Or.inr (wd hw 45 rfl)) (ty := (.object "com/example/lakebed/lakebed/table/FileGroup")) (by decide)
  have f34 : Fld E.Z h25 b26 "com/example/lakebed/lakebed/table/PlannedFile" "rows" "J" (.long (0 : Int64)) := D31 (Or.inr (wd hw 47 rfl)) (ty := .long) (by decide)
  have f35 : Fld E.Z h25 b26 "com/example/lakebed/lakebed/table/PlannedFile" "gains" "Ljava/lang/Long;" .null := D31 (Or.inr (wd hw 49 rfl)) (ty := (.object "java/lang/Long")) (by decide)
  have f36 : Fld E.Z h25 b26 "com/example/lakebed/lakebed/table/PlannedFile" "spliced" "Z" (.int (0 : Int32)) := D31 (Or.inr (wd hw 51 rfl)) (ty := .boolean) (by decide)
  show G E x T24 (fr x 95 #[.val (.ref fo), .val .null, .val (.long p), .second, .val (.long (1 : Int64)), .second, .val (.int (0 : Int32)), .val (.ref b9), .val (.long (0 : Int64)), .second, .val (.long ((p / (1 : Int64)) + ((0 : Int32)).toInt64)), .second] [(.ref b26), (.ref b9)])
  refine w_dup W27 B d_grp_95 rfl ?_
  refine w_aloadN W27 B d_grp_96 rfl rfl ?_
  refine w_lload W27 B d_grp_97 rfl ?_
  refine w_lconst W27 B d_grp_99 (v := (0 : Int64)) rfl ?_
  refine w_lcmp W27 B d_grp_100 ?_
  refine w_if_ne W27 B d_grp_101 (fun q => q (by decide) |>.elim) (fun _ => ?_)
  show G E x T24 (fr x 104 #[.val (.ref fo), .val .null, .val (.long p), .second, .val (.long (1 : Int64)), .second, .val (.int (0 : Int32)), .val (.ref b9), .val (.long (0 : Int64)), .second, .val (.long ((p / (1 : Int64)) + ((0 : Int32)).toInt64)), .second] [(.ref fo), (.ref b26), (.ref b26), (.ref b9)])
  refine w_aloadN W27 B d_grp_104 rfl rfl ?_
  refine w_goto W27 B d_grp_105 ?_
  refine w_lload W27 B d_grp_109 rfl ?_
  refine w_null W27 B d_grp_111 ?_
  refine w_iload W27 B d_grp_112 rfl ?_
  refine w_special W27 B (y := ⟨"com/example/lakebed/lakebed/table/PlannedFile", "<init>", "(Ljava/lang/String;Lcom/example/lakebed/lakebed/table/FileGroup;JLjava/lang/Long;Z)V"⟩) d_grp_114 rfl (wd hw 81 rfl) (wd hw 34 rfl) (wd hw 32 rfl) (wd hw 35 rfl) (by decide) pd__Ljava_lang_String_Lcom_example_lakebed_lakebed_table_FileGroup_JLjava_lang_Long_Z_V803 (argsL := [(.ref fo), .null, (.long ((p / (1 : Int64)) + ((0 : Int32)).toInt64)), .null, (.int (0 : Int32))]) rfl rfl rfl (Wt := 2) (Nat.le_of_eq rfl) (pf_met hw rfl rfl _ rfl 0 (List.Mem.head _) A30 f32 f33 f34 f35 f36) (by decide) (by decide) (by decide) (by decide) ?_
  intro T37 h38 F39 v40 W41 Q42
  obtain ⟨rfl, rfl, KP, EP, fg⟩ := Q42
  show G E x T37 (fr x 117 #[.val (.ref fo), .val .null, .val (.long p), .second, .val (.long (1 : Int64)), .second, .val (.int (0 : Int32)), .val (.ref b9), .val (.long (0 : Int64)), .second, .val (.long ((p / (1 : Int64)) + ((0 : Int32)).toInt64)), .second] [(.ref b26), (.ref b9)])
  refine w_interface W41 B (y := ⟨"java/util/List", "add", "(Ljava/lang/Object;)Z"⟩) (z := ⟨"java/util/ArrayList", "add", "(Ljava/lang/Object;)Z"⟩) d_grp_117 (wd hw 115 rfl) (wd hw 116 rfl) (wd hw 117 rfl) (by first | rfl | decide) (wd hw 118 rfl) (wd hw 119 rfl) (wd hw 120 rfl) (wd hw 121 rfl) (wd hw 122 rfl) (wd hw 93 rfl) (wd hw 123 rfl) (by decide) ((EI.ext X29).keep KP) pd__Ljava_lang_Object__Z838 (argsL := [(.ref b26)]) rfl rfl rfl (Wt := 0) (Nat.le_of_eq rfl) (add1_met hw Sd Ad (List.Mem.tail _ (List.Mem.head _)) ((EI.ext X29).keep KP) ((mI.ext X29).keep KP (ninS (Own.ne_new EI.lt g28) nin0)) ((eI.ext X29).keep KP (ninS (Own.ne_new EI.lt g28) nin0)) ((zI.ext X29).keep KP (ninS (Own.ne_new EI.lt g28) nin0)) EP) (by decide) (by decide) (by decide) (by decide) ?_
  intro T43 h44 F45 v46 W47 Q48
  obtain ⟨rfl, rfl, KA, ea, ke, EA, eA, zA, AA⟩ := Q48
  show G E x T43 (fr x 122 #[.val (.ref fo), .val .null, .val (.long p), .second, .val (.long (1 : Int64)), .second, .val (.int (0 : Int32)), .val (.ref b9), .val (.long (0 : Int64)), .second, .val (.long ((p / (1 : Int64)) + ((0 : Int32)).toInt64)), .second] [(.int (1 : Int32))])
  refine w_pop W47 B d_grp_122 rfl ?_
  refine w_lload W47 B d_grp_123 rfl ?_
  refine w_lconst W47 B d_grp_125 (v := (1 : Int64)) rfl ?_
  refine w_ladd W47 B d_grp_126 ?_
  refine w_lstore W47 B d_grp_127 (Ls' := #[.val (.ref fo), .val .null, .val (.long p), .second, .val (.long (1 : Int64)), .second, .val (.int (0 : Int32)), .val (.ref b9), .val (.long ((0 : Int64) + (1 : Int64))), .second, .val (.long ((p / (1 : Int64)) + ((0 : Int32)).toInt64)), .second]) rfl ?_
  refine w_goto W47 B d_grp_129 ?_
  refine w_lload W47 B d_grp_59 rfl ?_
  refine w_lload W47 B d_grp_61 rfl ?_
  refine w_lcmp W47 B d_grp_63 ?_
  refine w_if_ge W47 B d_grp_64 (fun _ => ?_) (fun q => absurd q (by decide))
  show G E x T43 (fr x 132 #[.val (.ref fo), .val .null, .val (.long p), .second, .val (.long (1 : Int64)), .second, .val (.int (0 : Int32)), .val (.ref b9), .val (.long ((0 : Int64) + (1 : Int64))), .second, .val (.long ((p / (1 : Int64)) + ((0 : Int32)).toInt64)), .second] [])
  refine w_aload W47 B d_grp_132 rfl rfl ?_
  have KK49 : Keep h h8 [] := (Keep.refl h []).ext X12
  have KK50 : Keep h h19 [] := KK49.trans KI (allS (Or.inr (Nat.le_trans (Keep.refl h []).1 (Nat.le_of_eq g11.symm))) all0)
  have KK51 : Keep h h25 [] := KK50.ext X29
  have KK52 : Keep h h38 [] := KK51.trans KP (allS (Or.inr (Nat.le_trans KK50.1 (Nat.le_of_eq g28.symm))) all0)
  have KK53 : Keep h h44 [] := KK52.trans KA (allS (Or.inr (Nat.le_trans (Keep.refl h []).1 (Nat.le_of_eq g11.symm))) all0)
  exact w_areturn W47 B d_grp_134 rfl rfl hQ (by decide) (by decide) (fun _ q => (List.Mem.tail _ (List.Mem.tail _ q))) ⟨b9, b26, ea, ke, rfl, rfl, KK53, EA, eA, zA, AA, (EP.keep KA), (fg.keep KA (ninS (Ne.symm (Own.ne_new EI.lt g28)) nin0))⟩
theorem land_range (p : Int64) : 0 ≤ (p &&& 524287).toInt ∧ (p &&& 524287).toInt ≤ 524287 := by
  have h : (p &&& 524287).toBitVec.toNat ≤ 524287 := by
    show (p.toBitVec &&& (524287 : Int64).toBitVec).toNat ≤ _
    rw [BitVec.toNat_and]; exact Nat.and_le_right
  have h2 : (p &&& 524287).toInt = ((p &&& 524287).toBitVec.toNat : Int) := by
    show (p &&& 524287).toBitVec.toInt = _
    rw [BitVec.toInt_eq_toNat_cond, if_pos (by omega)]
  omega
set_option maxRecDepth 65536 in
set_option maxHeartbeats 4000000 in
theorem L67 {E : Gl} (hw : Tb E) {ca de : Addr} {cc : Cell} {kd : ClassId} (Sc : Sta E.Z E.Z.heap "java/lang/Long$LongCache" "cache" "[Ljava/lang/Long;" (.ref ca)) (Bx : Bxs E.Z ca cc "java/lang/Long" "J" 256 (fun j => .long (j - 128).toInt64)) (Sd : Sta E.Z E.Z.heap "java/util/ArrayList" "DEFAULTCAPACITY_EMPTY_ELEMENTDATA" "[Ljava/lang/Object;" (.ref de)) (Ad : Arv E.Z E.Z.heap de kd (.object "java/lang/Object") 0 [] .null) {x : Cx} {T : State} {h : Heap} (hQ : x.Q = fun r _ _ => r = some (.int 1)) (B : Is x "com/example/lakebed/lakebed/table/PlannedFileIsChangePinLaw" code 19 ({ frames := 9, cells := 32, slots := 192, locals := 208 } : Room) (some .boolean) "law") {p0 p5 : Int32} {p1 p3 : Int64} {a6 a7 : Addr} {z8 z9 : Int32} {v : Value} (rv : v.isRef = true) (q8 : (v = .null → z8 = 0) ∧ (v ≠ .null → z8 = 1)) (W : Wk E x T h [] 4 38) : G E x T (fr x 67 #[.val (.int p0), .val (.long p1), .second, .val (.long p3), .second, .val (.int p5), .val (.ref a6), .val (.ref a7), .val (.int z8), .val (.int z9), .unset, .unset, .unset, .unset, .unset, .unset, .unset, .unset, .unset] [v]) := by
  rcases ref_cases rv with rfl | ⟨a10, rfl⟩
  ·
    refine w_astore W B d_law_67 rfl (Ls' := #[.val (.int p0), .val (.long p1), .second, .val (.long p3), .second, .val (.int p5), .val (.ref a6), .val (.ref a7), .val (.int z8), .val (.int z9), .val .null, .unset, .unset, .unset, .unset, .unset, .unset, .unset, .unset]) rfl ?_
    refine w_new W B d_law_69 (wd hw 30 rfl) (wd hw 31 rfl) (wd hw 32 rfl) (by decide) (by decide) ?_
    intro T1 h2 b3 W4 g5 X6 A7 D8
    have f9 : Fld E.Z h2 b3 "com/example/lakebed/lakebed/table/PlannedFile" "folder" "Ljava/lang/String;" .null := D8 (Or.inr (wd hw 43 rfl)) (ty := (.object "java/lang/String")) (by decide)
    have f10 : Fld E.Z h2 b3 "com/example/lakebed/lakebed/table/PlannedFile" "of" "Lcom/example/lakebed/lakebed/table/FileGroup;" .null := D8 (Or.inr (wd hw 45 rfl)) (ty := (.object "com/example/lakebed/lakebed/table/FileGroup")) (by decide)
    have f11 : Fld E.Z h2 b3 "com/example/lakebed/lakebed/table/PlannedFile" "rows" "J" (.long (0 : Int64)) := D8 (Or.inr (wd hw 47 rfl)) (ty := .long) (by decide)
    have f12 : Fld E.Z h2 b3 "com/example/lakebed/lakebed/table/PlannedFile" "gains" "Ljava/lang/Long;" .null := D8 (Or.inr (wd hw 49 rfl)) (ty := (.object "java/lang/Long")) (by decide)
    have f13 : Fld E.Z h2 b3 "com/example/lakebed/lakebed/table/PlannedFile" "spliced" "Z" (.int (0 : Int32)) := D8 (Or.inr (wd hw 51 rfl)) (ty := .boolean) (by decide)
    show G E x T1 (fr x 72 #[.val (.int p0), .val (.long p1), .second, .val (.long p3), .second, .val (.int p5), .val (.ref a6), .val (.ref a7), .val (.int z8), .val (.int z9), .val .null, .unset, .unset, .unset, .unset, .unset, .unset, .unset, .unset] [(.ref b3)])
    refine w_dup W4 B d_law_72 rfl ?_
    refine w_aload W4 B d_law_73 rfl rfl ?_
    refine w_null W4 B d_law_75 ?_
    refine w_lloadN W4 B d_law_76 rfl ?_
    refine w_aload W4 B d_law_77 rfl rfl ?_
    refine w_iload W4 B d_law_79 rfl ?_
    refine w_special W4 B (y := ⟨"com/example/lakebed/lakebed/table/PlannedFile", "<init>", "(Ljava/lang/String;Lcom/example/lakebed/lakebed/table/FileGroup;JLjava/lang/Long;Z)V"⟩) d_law_81 rfl (wd hw 33 rfl) (wd hw 34 rfl) (wd hw 32 rfl) (wd hw 35 rfl) (by decide) pd__Ljava_lang_String_Lcom_example_lakebed_lakebed_table_FileGroup_JLjava_lang_Long_Z_V803 (argsL := [(.ref a7), .null, (.long p1), .null, (.int z9)]) rfl rfl rfl (Wt := 1) (Nat.le_of_eq rfl) (pf_met hw rfl rfl p1 rfl z9 (List.Mem.head _) A7 f9 f10 f11 f12 f13) (by decide) (by decide) (by decide) (by decide) ?_
    intro T14 h15 F16 v17 W18 Q19
    obtain ⟨rfl, rfl, KP, EP, fg⟩ := Q19
    show G E x T14 (fr x 84 #[.val (.int p0), .val (.long p1), .second, .val (.long p3), .second, .val (.int p5), .val (.ref a6), .val (.ref a7), .val (.int z8), .val (.int z9), .val .null, .unset, .unset, .unset, .unset, .unset, .unset, .unset, .unset] [(.ref b3)])
    refine w_astore W18 B d_law_84 rfl (Ls' := #[.val (.int p0), .val (.long p1), .second, .val (.long p3), .second, .val (.int p5), .val (.ref a6), .val (.ref a7), .val (.int z8), .val (.int z9), .val .null, .val (.ref b3), .unset, .unset, .unset, .unset, .unset, .unset, .unset]) rfl ?_
    refine w_aload W18 B d_law_86 rfl rfl ?_
    refine w_virtual W18 B (y := ⟨"com/example/lakebed/lakebed/table/PlannedFile", "isChange", "()Z"⟩) (z := ⟨"com/example/lakebed/lakebed/table/PlannedFile", "isChange", "()Z"⟩) d_law_88 (wd hw 52 rfl) (wd hw 53 rfl) (nf_sel (wd hw 55 rfl)) (wd hw 55 rfl) (wd hw 54 rfl) (wd hw 32 rfl) (wd hw 56 rfl) (by decide) EP pd___Z171 (argsL := []) rfl rfl rfl (Wt := 0) (Nat.le_of_eq rfl) (isch_met hw rfl fg) (by decide) (by decide) (by decide) (by decide) ?_
    intro T20 h21 F22 v23 W24 Q25
    obtain ⟨rfl, rfl, rfl⟩ := Q25
    show G E x T20 (fr x 91 #[.val (.int p0), .val (.long p1), .second, .val (.long p3), .second, .val (.int p5), .val (.ref a6), .val (.ref a7), .val (.int z8), .val (.int z9), .val .null, .val (.ref b3), .unset, .unset, .unset, .unset, .unset, .unset, .unset] [(.int (nn01 .null))])
    refine w_iload W24 B d_law_91 rfl ?_
    refine w_icmp_ne W24 B d_law_93 (fun q => q (show nn01 _ = z8 from (q8.1 rfl).symm) |>.elim) (fun _ => ?_)
    show G E x T20 (fr x 96 #[.val (.int p0), .val (.long p1), .second, .val (.long p3), .second, .val (.int p5), .val (.ref a6), .val (.ref a7), .val (.int z8), .val (.int z9), .val .null, .val (.ref b3), .unset, .unset, .unset, .unset, .unset, .unset, .unset] [])
    refine w_iconst W24 B d_law_96 (v := (1 : Int32)) rfl ?_
    refine w_goto W24 B d_law_97 ?_
    refine w_istore W24 B d_law_101 (Ls' := #[.val (.int p0), .val (.long p1), .second, .val (.long p3), .second, .val (.int p5), .val (.ref a6), .val (.ref a7), .val (.int z8), .val (.int z9), .val .null, .val (.ref b3), .val (.int (1 : Int32)), .unset, .unset, .unset, .unset, .unset, .unset]) rfl ?_
    refine w_aload W24 B d_law_103 rfl rfl ?_
    refine w_null W24 B d_law_105 ?_
    refine w_lloadN W24 B d_law_106 rfl ?_
    refine w_lloadN W24 B d_law_107 rfl ?_
    refine w_static W24 B (y := ⟨"com/example/lakebed/lakebed/table/PlannedFile", "change", "(Ljava/lang/String;Lcom/example/lakebed/lakebed/table/FileGroup;JJ)Lcom/example/lakebed/lakebed/table/PlannedFile;"⟩) d_law_108 (wd hw 57 rfl) (wd hw 58 rfl) (wd hw 32 rfl) (wd hw 59 rfl) (by decide) pd__Ljava_lang_String_Lcom_example_lakebed_lakebed_table_FileGroup_JJ_Lcom_example_lakebed_lakebed_table_PlannedFile_716 (argsL := [(.ref a7), .null, (.long p1), (.long p3)]) rfl rfl rfl (Wt := 0) (Nat.le_of_eq rfl) (chg_met hw Sc Bx a7 p1 p3) (by decide) (by decide) (by decide) (by decide) ?_
    intro T26 h27 F28 v29 W30 Q31
    obtain ⟨sc, la, rfl, rfl, KC, EC, gc⟩ := Q31
    show G E x T26 (fr x 111 #[.val (.int p0), .val (.long p1), .second, .val (.long p3), .second, .val (.int p5), .val (.ref a6), .val (.ref a7), .val (.int z8), .val (.int z9), .val .null, .val (.ref b3), .val (.int (1 : Int32)), .unset, .unset, .unset, .unset, .unset, .unset] [(.ref sc)])
    refine w_astore W30 B d_law_111 rfl (Ls' := #[.val (.int p0), .val (.long p1), .second, .val (.long p3), .second, .val (.int p5), .val (.ref a6), .val (.ref a7), .val (.int z8), .val (.int z9), .val .null, .val (.ref b3), .val (.int (1 : Int32)), .val (.ref sc), .unset, .unset, .unset, .unset, .unset]) rfl ?_
    refine w_aload W30 B d_law_113 rfl rfl ?_
    refine w_virtual W30 B (y := ⟨"com/example/lakebed/lakebed/table/PlannedFile", "isChange", "()Z"⟩) (z := ⟨"com/example/lakebed/lakebed/table/PlannedFile", "isChange", "()Z"⟩) d_law_115 (wd hw 52 rfl) (wd hw 53 rfl) (nf_sel (wd hw 55 rfl)) (wd hw 55 rfl) (wd hw 54 rfl) (wd hw 32 rfl) (wd hw 56 rfl) (by decide) EC pd___Z171 (argsL := []) rfl rfl rfl (Wt := 0) (Nat.le_of_eq rfl) (isch_met hw rfl gc) (by decide) (by decide) (by decide) (by decide) ?_
    intro T32 h33 F34 v35 W36 Q37
    obtain ⟨rfl, rfl, rfl⟩ := Q37
    show G E x T32 (fr x 118 #[.val (.int p0), .val (.long p1), .second, .val (.long p3), .second, .val (.int p5), .val (.ref a6), .val (.ref a7), .val (.int z8), .val (.int z9), .val .null, .val (.ref b3), .val (.int (1 : Int32)), .val (.ref sc), .unset, .unset, .unset, .unset, .unset] [(.int (1 : Int32))])
    refine w_istore W36 B d_law_118 (Ls' := #[.val (.int p0), .val (.long p1), .second, .val (.long p3), .second, .val (.int p5), .val (.ref a6), .val (.ref a7), .val (.int z8), .val (.int z9), .val .null, .val (.ref b3), .val (.int (1 : Int32)), .val (.ref sc), .val (.int (1 : Int32)), .unset, .unset, .unset, .unset]) rfl ?_
    refine w_lloadN W36 B d_law_120 rfl ?_
    refine w_ldc2J W36 B d_law_121 (wd hw 82 rfl) ?_
    refine w_land W36 B d_law_124 ?_
    refine w_lstore W36 B d_law_125 (Ls' := #[.val (.int p0), .val (.long p1), .second, .val (.long p3), .second, .val (.int p5), .val (.ref a6), .val (.ref a7), .val (.int z8), .val (.int z9), .val .null, .val (.ref b3), .val (.int (1 : Int32)), .val (.ref sc), .val (.int (1 : Int32)), .val (.long (p1 &&& (524287 : Int64))), .second, .unset, .unset]) rfl ?_
    refine w_aload W36 B d_law_127 rfl rfl ?_
    refine w_null W36 B d_law_129 ?_
    refine w_lload W36 B d_law_130 rfl ?_
    refine w_static W36 B (y := ⟨"com/example/lakebed/lakebed/table/PlannedFile", "group", "(Ljava/lang/String;Lcom/example/lakebed/lakebed/table/FileGroup;J)Ljava/util/List;"⟩) d_law_132 (wd hw 83 rfl) (wd hw 84 rfl) (wd hw 32 rfl) (wd hw 85 rfl) (by decide) pd__Ljava_lang_String_Lcom_example_lakebed_lakebed_table_FileGroup_J_Ljava_util_List_667 (argsL := [(.ref a7), .null, (.long (p1 &&& (524287 : Int64)))]) rfl rfl rfl (Wt := 0) (Nat.le_of_eq rfl) (grp_met hw Sd Ad a7 (land_range p1)) (by decide) (by decide) (by decide) (by decide) ?_
    intro T38 h39 F40 v41 W42 Q43
    obtain ⟨sl, sp, ea, ke, rfl, rfl, KG, EL, eL, zL, AL, EF, gF⟩ := Q43
    show G E x T38 (fr x 135 #[.val (.int p0), .val (.long p1), .second, .val (.long p3), .second, .val (.int p5), .val (.ref a6), .val (.ref a7), .val (.int z8), .val (.int z9), .val .null, .val (.ref b3), .val (.int (1 : Int32)), .val (.ref sc), .val (.int (1 : Int32)), .val (.long (p1 &&& (524287 : Int64))), .second, .unset, .unset] [(.ref sl)])
    refine w_astore W42 B d_law_135 rfl (Ls' := #[.val (.int p0), .val (.long p1), .second, .val (.long p3), .second, .val (.int p5), .val (.ref a6), .val (.ref a7), .val (.int z8), .val (.int z9), .val .null, .val (.ref b3), .val (.int (1 : Int32)), .val (.ref sc), .val (.int (1 : Int32)), .val (.long (p1 &&& (524287 : Int64))), .second, .val (.ref sl), .unset]) rfl ?_
    refine w_aload W42 B d_law_137 rfl rfl ?_
    refine w_iconst W42 B d_law_139 (v := (0 : Int32)) rfl ?_
    refine w_interface W42 B (y := ⟨"java/util/List", "get", "(I)Ljava/lang/Object;"⟩) (z := ⟨"java/util/ArrayList", "get", "(I)Ljava/lang/Object;"⟩) d_law_140 (wd hw 149 rfl) (wd hw 150 rfl) (wd hw 151 rfl) (by first | rfl | decide) (wd hw 152 rfl) (wd hw 153 rfl) (wd hw 154 rfl) (wd hw 155 rfl) (wd hw 122 rfl) (wd hw 93 rfl) (wd hw 156 rfl) (by decide) EL pd__I_Ljava_lang_Object_821 (argsL := [(.int (0 : Int32))]) rfl rfl rfl (Wt := 0) (Nat.le_of_eq rfl) (get_met hw EL zL eL AL) (by decide) (by decide) (by decide) (by decide) ?_
    intro T44 h45 F46 v47 W48 Q49
    obtain ⟨rfl, rfl, rfl⟩ := Q49
    show G E x T44 (fr x 145 #[.val (.int p0), .val (.long p1), .second, .val (.long p3), .second, .val (.int p5), .val (.ref a6), .val (.ref a7), .val (.int z8), .val (.int z9), .val .null, .val (.ref b3), .val (.int (1 : Int32)), .val (.ref sc), .val (.int (1 : Int32)), .val (.long (p1 &&& (524287 : Int64))), .second, .val (.ref sl), .unset] [(.ref sp)])
    refine w_castY W48 B d_law_145 (wd hw 30 rfl) (Ins.self EF) ?_
    intro T50 W51
    refine w_virtual W51 B (y := ⟨"com/example/lakebed/lakebed/table/PlannedFile", "isChange", "()Z"⟩) (z := ⟨"com/example/lakebed/lakebed/table/PlannedFile", "isChange", "()Z"⟩) d_law_148 (wd hw 52 rfl) (wd hw 53 rfl) (nf_sel (wd hw 55 rfl)) (wd hw 55 rfl) (wd hw 54 rfl) (wd hw 32 rfl) (wd hw 56 rfl) (by decide) EF pd___Z171 (argsL := []) rfl rfl rfl (Wt := 0) (Nat.le_of_eq rfl) (isch_met hw rfl gF) (by decide) (by decide) (by decide) (by decide) ?_
    intro T52 h53 F54 v55 W56 Q57
    obtain ⟨rfl, rfl, rfl⟩ := Q57
    show G E x T52 (fr x 151 #[.val (.int p0), .val (.long p1), .second, .val (.long p3), .second, .val (.int p5), .val (.ref a6), .val (.ref a7), .val (.int z8), .val (.int z9), .val .null, .val (.ref b3), .val (.int (1 : Int32)), .val (.ref sc), .val (.int (1 : Int32)), .val (.long (p1 &&& (524287 : Int64))), .second, .val (.ref sl), .unset] [(.int (0 : Int32))])
    refine w_if_ne W56 B d_law_151 (fun q => q rfl |>.elim) (fun _ => ?_)
    show G E x T52 (fr x 154 #[.val (.int p0), .val (.long p1), .second, .val (.long p3), .second, .val (.int p5), .val (.ref a6), .val (.ref a7), .val (.int z8), .val (.int z9), .val .null, .val (.ref b3), .val (.int (1 : Int32)), .val (.ref sc), .val (.int (1 : Int32)), .val (.long (p1 &&& (524287 : Int64))), .second, .val (.ref sl), .unset] [])
    refine w_iconst W56 B d_law_154 (v := (1 : Int32)) rfl ?_
    refine w_goto W56 B d_law_155 ?_
    refine w_istore W56 B d_law_159 (Ls' := #[.val (.int p0), .val (.long p1), .second, .val (.long p3), .second, .val (.int p5), .val (.ref a6), .val (.ref a7), .val (.int z8), .val (.int z9), .val .null, .val (.ref b3), .val (.int (1 : Int32)), .val (.ref sc), .val (.int (1 : Int32)), .val (.long (p1 &&& (524287 : Int64))), .second, .val (.ref sl), .val (.int (1 : Int32))]) rfl ?_
    refine w_iload W56 B d_law_161 rfl ?_
    refine w_if_eq W56 B d_law_163 (fun q => absurd q (by decide)) (fun _ => ?_)
    show G E x T52 (fr x 166 #[.val (.int p0), .val (.long p1), .second, .val (.long p3), .second, .val (.int p5), .val (.ref a6), .val (.ref a7), .val (.int z8), .val (.int z9), .val .null, .val (.ref b3), .val (.int (1 : Int32)), .val (.ref sc), .val (.int (1 : Int32)), .val (.long (p1 &&& (524287 : Int64))), .second, .val (.ref sl), .val (.int (1 : Int32))] [])
    refine w_iload W56 B d_law_166 rfl ?_
    refine w_if_eq W56 B d_law_168 (fun q => absurd q (by decide)) (fun _ => ?_)
    show G E x T52 (fr x 171 #[.val (.int p0), .val (.long p1), .second, .val (.long p3), .second, .val (.int p5), .val (.ref a6), .val (.ref a7), .val (.int z8), .val (.int z9), .val .null, .val (.ref b3), .val (.int (1 : Int32)), .val (.ref sc), .val (.int (1 : Int32)), .val (.long (p1 &&& (524287 : Int64))), .second, .val (.ref sl), .val (.int (1 : Int32))] [])
    refine w_iload W56 B d_law_171 rfl ?_
    refine w_if_eq W56 B d_law_173 (fun q => absurd q (by decide)) (fun _ => ?_)
    show G E x T52 (fr x 176 #[.val (.int p0), .val (.long p1), .second, .val (.long p3), .second, .val (.int p5), .val (.ref a6), .val (.ref a7), .val (.int z8), .val (.int z9), .val .null, .val (.ref b3), .val (.int (1 : Int32)), .val (.ref sc), .val (.int (1 : Int32)), .val (.long (p1 &&& (524287 : Int64))), .second, .val (.ref sl), .val (.int (1 : Int32))] [])
    refine w_iconst W56 B d_law_176 (v := (1 : Int32)) rfl ?_
    refine w_goto W56 B d_law_177 ?_
    exact w_ireturnN W56 B d_law_181 (Or.inl rfl) (u := 1) rfl hQ (by decide) (by decide) (F' := []) (fun _ q => nomatch q) rfl
  ·
    refine w_astore W B d_law_67 rfl (Ls' := #[.val (.int p0), .val (.long p1), .second, .val (.long p3), .second, .val (.int p5), .val (.ref a6), .val (.ref a7), .val (.int z8), .val (.int z9), .val (.ref a10), .unset, .unset, .unset, .unset, .unset, .unset, .unset, .unset]) rfl ?_
    refine w_new W B d_law_69 (wd hw 30 rfl) (wd hw 31 rfl) (wd hw 32 rfl) (by decide) (by decide) ?_
    intro T58 h59 b60 W61 g62 X63 A64 D65
    have f66 : Fld E.Z h59 b60 "com/example/lakebed/lakebed/table/PlannedFile" "folder" "Ljava/lang/String;" .null := D65 (Or.inr (wd hw 43 rfl)) (ty := (.object "java/lang/String")) (by decide)
    have f67 : Fld E.Z h59 b60 "com/example/lakebed/lakebed/table/PlannedFile" "of" "Lcom/example/lakebed/lakebed/table/FileGroup;" .null := D65 (Or.inr (wd hw 45 rfl)) (ty := (.object "com/example/lakebed/lakebed/table/FileGroup")) (by decide)
    have f68 : Fld E.Z h59 b60 "com/example/lakebed/lakebed/table/PlannedFile" "rows" "J" (.long (0 : Int64)) := D65 (Or.inr (wd hw 47 rfl)) (ty := .long) (by decide)
    have f69 : Fld E.Z h59 b60 "com/example/lakebed/lakebed/table/PlannedFile" "gains" "Ljava/lang/Long;" .null := D65 (Or.inr (wd hw 49 rfl)) (ty := (.object "java/lang/Long")) (by decide)
    have f70 : Fld E.Z h59 b60 "com/example/lakebed/lakebed/table/PlannedFile" "spliced" "Z" (.int (0 : Int32)) := D65 (Or.inr (wd hw 51 rfl)) (ty := .boolean) (by decide)
    show G E x T58 (fr x 72 #[.val (.int p0), .val (.long p1), .second, .val (.long p3), .second, .val (.int p5), .val (.ref a6), .val (.ref a7), .val (.int z8), .val (.int z9), .val (.ref a10), .unset, .unset, .unset, .unset, .unset, .unset, .unset, .unset] [(.ref b60)])
    refine w_dup W61 B d_law_72 rfl ?_
    refine w_aload W61 B d_law_73 rfl rfl ?_
    refine w_null W61 B d_law_75 ?_
    refine w_lloadN W61 B d_law_76 rfl ?_
    refine w_aload W61 B d_law_77 rfl rfl ?_
    refine w_iload W61 B d_law_79 rfl ?_
    refine w_special W61 B (y := ⟨"com/example/lakebed/lakebed/table/PlannedFile", "<init>", "(Ljava/lang/String;Lcom/example/lakebed/lakebed/table/FileGroup;JLjava/lang/Long;Z)V"⟩) d_law_81 rfl (wd hw 33 rfl) (wd hw 34 rfl) (wd hw 32 rfl) (wd hw 35 rfl) (by decide) pd__Ljava_lang_String_Lcom_example_lakebed_lakebed_table_FileGroup_JLjava_lang_Long_Z_V803 (argsL := [(.ref a7), .null, (.long p1), (.ref a10), (.int z9)]) rfl rfl rfl (Wt := 1) (Nat.le_of_eq rfl) (pf_met hw rfl rfl p1 rfl z9 (List.Mem.head _) A64 f66 f67 f68 f69 f70) (by decide) (by decide) (by decide) (by decide) ?_
    intro T71 h72 F73 v74 W75 Q76
    obtain ⟨rfl, rfl, KP, EP, fg⟩ := Q76
    show G E x T71 (fr x 84 #[.val (.int p0), .val (.long p1), .second, .val (.long p3), .second, .val (.int p5), .val (.ref a6), .val (.ref a7), .val (.int z8), .val (.int z9), .val (.ref a10), .unset, .unset, .unset, .unset, .unset, .unset, .unset, .unset] [(.ref b60)])
    refine w_astore W75 B d_law_84 rfl (Ls' := #[.val (.int p0), .val (.long p1), .second, .val (.long p3), .second, .val (.int p5), .val (.ref a6), .val (.ref a7), .val (.int z8), .val (.int z9), .val (.ref a10), .val (.ref b60), .unset, .unset, .unset, .unset, .unset, .unset, .unset]) rfl ?_
    refine w_aload W75 B d_law_86 rfl rfl ?_
    refine w_virtual W75 B (y := ⟨"com/example/lakebed/lakebed/table/PlannedFile", "isChange", "()Z"⟩) (z := ⟨"com/example/lakebed/lakebed/table/PlannedFile", "isChange", "()Z"⟩) d_law_88 (wd hw 52 rfl) (wd hw 53 rfl) (nf_sel (wd hw 55 rfl)) (wd hw 55 rfl) (wd hw 54 rfl) (wd hw 32 rfl) (wd hw 56 rfl) (by decide) EP pd___Z171 (argsL := []) rfl rfl rfl (Wt := 0) (Nat.le_of_eq rfl) (isch_met hw rfl fg) (by decide) (by decide) (by decide) (by decide) ?_
    intro T77 h78 F79 v80 W81 Q82
    obtain ⟨rfl, rfl, rfl⟩ := Q82
    show G E x T77 (fr x 91 #[.val (.int p0), .val (.long p1), .second, .val (.long p3), .second, .val (.int p5), .val (.ref a6), .val (.ref a7), .val (.int z8), .val (.int z9), .val (.ref a10), .val (.ref b60), .unset, .unset, .unset, .unset, .unset, .unset, .unset] [(.int (nn01 (.ref a10)))])
    refine w_iload W81 B d_law_91 rfl ?_
    refine w_icmp_ne W81 B d_law_93 (fun q => q (show nn01 _ = z8 from (q8.2 (fun q => nomatch q)).symm) |>.elim) (fun _ => ?_)
    show G E x T77 (fr x 96 #[.val (.int p0), .val (.long p1), .second, .val (.long p3), .second, .val (.int p5), .val (.ref a6), .val (.ref a7), .val (.int z8), .val (.int z9), .val (.ref a10), .val (.ref b60), .unset, .unset, .unset, .unset, .unset, .unset, .unset] [])
    refine w_iconst W81 B d_law_96 (v := (1 : Int32)) rfl ?_
    refine w_goto W81 B d_law_97 ?_
    refine w_istore W81 B d_law_101 (Ls' := #[.val (.int p0), .val (.long p1), .second, .val (.long p3), .second, .val (.int p5), .val (.ref a6), .val (.ref a7), .val (.int z8), .val (.int z9), .val (.ref a10), .val (.ref b60), .val (.int (1 : Int32)), .unset, .unset, .unset, .unset, .unset, .unset]) rfl ?_
    refine w_aload W81 B d_law_103 rfl rfl ?_
    refine w_null W81 B d_law_105 ?_
    refine w_lloadN W81 B d_law_106 rfl ?_
    refine w_lloadN W81 B d_law_107 rfl ?_
    refine w_static W81 B (y := ⟨"com/example/lakebed/lakebed/table/PlannedFile", "change", "(Ljava/lang/String;Lcom/example/lakebed/lakebed/table/FileGroup;JJ)Lcom/example/lakebed/lakebed/table/PlannedFile;"⟩) d_law_108 (wd hw 57 rfl) (wd hw 58 rfl) (wd hw 32 rfl) (wd hw 59 rfl) (by decide) pd__Ljava_lang_String_Lcom_example_lakebed_lakebed_table_FileGroup_JJ_Lcom_example_lakebed_lakebed_table_PlannedFile_716 (argsL := [(.ref a7), .null, (.long p1), (.long p3)]) rfl rfl rfl (Wt := 0) (Nat.le_of_eq rfl) (chg_met hw Sc Bx a7 p1 p3) (by decide) (by decide) (by decide) (by decide) ?_
    intro T83 h84 F85 v86 W87 Q88
    obtain ⟨sc, la, rfl, rfl, KC, EC, gc⟩ := Q88
    show G E x T83 (fr x 111 #[.val (.int p0), .val (.long p1), .second, .val (.long p3), .second, .val (.int p5), .val (.ref a6), .val (.ref a7), .val (.int z8), .val (.int z9), .val (.ref a10), .val (.ref b60), .val (.int (1 : Int32)), .unset, .unset, .unset, .unset, .unset, .unset] [(.ref sc)])
    refine w_astore W87 B d_law_111 rfl (Ls' := #[.val (.int p0), .val (.long p1), .second, .val (.long p3), .second, .val (.int p5), .val (.ref a6), .val (.ref a7), .val (.int z8), .val (.int z9), .val (.ref a10), .val (.ref b60), .val (.int (1 : Int32)), .val (.ref sc), .unset, .unset, .unset, .unset, .unset]) rfl ?_
    refine w_aload W87 B d_law_113 rfl rfl ?_
    refine w_virtual W87 B (y := ⟨"com/example/lakebed/lakebed/table/PlannedFile", "isChange", "()Z"⟩) (z := ⟨"com/example/lakebed/lakebed/table/PlannedFile", "isChange", "()Z"⟩) d_law_115 (wd hw 52 rfl) (wd hw 53 rfl) (nf_sel (wd hw 55 rfl)) (wd hw 55 rfl) (wd hw 54 rfl) (wd hw 32 rfl) (wd hw 56 rfl) (by decide) EC pd___Z171 (argsL := []) rfl rfl rfl (Wt := 0) (Nat.le_of_eq rfl) (isch_met hw rfl gc) (by decide) (by decide) (by decide) (by decide) ?_
    intro T89 h90 F91 v92 W93 Q94
    obtain ⟨rfl, rfl, rfl⟩ := Q94
    show G E x T89 (fr x 118 #[.val (.int p0), .val (.long p1), .second, .val (.long p3), .second, .val (.int p5), .val (.ref a6), .val (.ref a7), .val (.int z8), .val (.int z9), .val (.ref a10), .val (.ref b60), .val (.int (1 : Int32)), .val (.ref sc), .unset, .unset, .unset, .unset, .unset] [(.int (1 : Int32))])
    refine w_istore W93 B d_law_118 (Ls' := #[.val (.int p0), .val (.long p1), .second, .val (.long p3), .second, .val (.int p5), .val (.ref a6), .val (.ref a7), .val (.int z8), .val (.int z9), .val (.ref a10), .val (.ref b60), .val (.int (1 : Int32)), .val (.ref sc), .val (.int (1 : Int32)), .unset, .unset, .unset, .unset]) rfl ?_
    refine w_lloadN W93 B d_law_120 rfl ?_
    refine w_ldc2J W93 B d_law_121 (wd hw 82 rfl) ?_
    refine w_land W93 B d_law_124 ?_
    refine w_lstore W93 B d_law_125 (Ls' := #[.val (.int p0), .val (.long p1), .second, .val (.long p3), .second, .val (.int p5), .val (.ref a6), .val (.ref a7), .val (.int z8), .val (.int z9), .val (.ref a10), .val (.ref b60), .val (.int (1 : Int32)), .val (.ref sc), .val (.int (1 : Int32)), .val (.long (p1 &&& (524287 : Int64))), .second, .unset, .unset]) rfl ?_
    refine w_aload W93 B d_law_127 rfl rfl ?_
    refine w_null W93 B d_law_129 ?_
    refine w_lload W93 B d_law_130 rfl ?_
    refine w_static W93 B (y := ⟨"com/example/lakebed/lakebed/table/PlannedFile", "group", "(Ljava/lang/String;Lcom/example/lakebed/lakebed/table/FileGroup;J)Ljava/util/List;"⟩) d_law_132 (wd hw 83 rfl) (wd hw 84 rfl) (wd hw 32 rfl) (wd hw 85 rfl) (by decide) pd__Ljava_lang_String_Lcom_example_lakebed_lakebed_table_FileGroup_J_Ljava_util_List_667 (argsL := [(.ref a7), .null, (.long (p1 &&& (524287 : Int64)))]) rfl rfl rfl (Wt := 0) (Nat.le_of_eq rfl) (grp_met hw Sd Ad a7 (land_range p1)) (by decide) (by decide) (by decide) (by decide) ?_
    intro T95 h96 F97 v98 W99 Q100
    obtain ⟨sl, sp, ea, ke, rfl, rfl, KG, EL, eL, zL, AL, EF, gF⟩ := Q100
    show G E x T95 (fr x 135 #[.val (.int p0), .val (.long p1), .second, .val (.long p3), .second, .val (.int p5), .val (.ref a6), .val (.ref a7), .val (.int z8), .val (.int z9), .val (.ref a10), .val (.ref b60), .val (.int (1 : Int32)), .val (.ref sc), .val (.int (1 : Int32)), .val (.long (p1 &&& (524287 : Int64))), .second, .unset, .unset] [(.ref sl)])
    refine w_astore W99 B d_law_135 rfl (Ls' := #[.val (.int p0), .val (.long p1), .second, .val (.long p3), .second, .val (.int p5), .val (.ref a6), .val (.ref a7), .val (.int z8), .val (.int z9), .val (.ref a10), .val (.ref b60), .val (.int (1 : Int32)), .val (.ref sc), .val (.int (1 : Int32)), .val (.long (p1 &&& (524287 : Int64))), .second, .val (.ref sl), .unset]) rfl ?_
    refine w_aload W99 B d_law_137 rfl rfl ?_
    refine w_iconst W99 B d_law_139 (v := (0 : Int32)) rfl ?_
    refine w_interface W99 B (y := ⟨"java/util/List", "get", "(I)Ljava/lang/Object;"⟩) (z := ⟨"java/util/ArrayList", "get", "(I)Ljava/lang/Object;"⟩) d_law_140 (wd hw 149 rfl) (wd hw 150 rfl) (wd hw 151 rfl) (by first | rfl | decide) (wd hw 152 rfl) (wd hw 153 rfl) (wd hw 154 rfl) (wd hw 155 rfl) (wd hw 122 rfl) (wd hw 93 rfl) (wd hw 156 rfl) (by decide) EL pd__I_Ljava_lang_Object_821 (argsL := [(.int (0 : Int32))]) rfl rfl rfl (Wt := 0) (Nat.le_of_eq rfl) (get_met hw EL zL eL AL) (by decide) (by decide) (by decide) (by decide) ?_
    intro T101 h102 F103 v104 W105 Q106
    obtain ⟨rfl, rfl, rfl⟩ := Q106
    show G E x T101 (fr x 145 #[.val (.int p0), .val (.long p1), .second, .val (.long p3), .second, .val (.int p5), .val (.ref a6), .val (.ref a7), .val (.int z8), .val (.int z9), .val (.ref a10), .val (.ref b60), .val (.int (1 : Int32)), .val (.ref sc), .val (.int (1 : Int32)), .val (.long (p1 &&& (524287 : Int64))), .second, .val (.ref sl), .unset] [(.ref sp)])
    refine w_castY W105 B d_law_145 (wd hw 30 rfl) (Ins.self EF) ?_
    intro T107 W108
    refine w_virtual W108 B (y := ⟨"com/example/lakebed/lakebed/table/PlannedFile", "isChange", "()Z"⟩) (z := ⟨"com/example/lakebed/lakebed/table/PlannedFile", "isChange", "()Z"⟩) d_law_148 (wd hw 52 rfl) (wd hw 53 rfl) (nf_sel (wd hw 55 rfl)) (wd hw 55 rfl) (wd hw 54 rfl) (wd hw 32 rfl) (wd hw 56 rfl) (by decide) EF pd___Z171 (argsL := []) rfl rfl rfl (Wt := 0) (Nat.le_of_eq rfl) (isch_met hw rfl gF) (by decide) (by decide) (by decide) (by decide) ?_
    intro T109 h110 F111 v112 W113 Q114
    obtain ⟨rfl, rfl, rfl⟩ := Q114
    show G E x T109 (fr x 151 #[.val (.int p0), .val (.long p1), .second, .val (.long p3), .second, .val (.int p5), .val (.ref a6), .val (.ref a7), .val (.int z8), .val (.int z9), .val (.ref a10), .val (.ref b60), .val (.int (1 : Int32)), .val (.ref sc), .val (.int (1 : Int32)), .val (.long (p1 &&& (524287 : Int64))), .second, .val (.ref sl), .unset] [(.int (0 : Int32))])
    refine w_if_ne W113 B d_law_151 (fun q => q rfl |>.elim) (fun _ => ?_)
    show G E x T109 (fr x 154 #[.val (.int p0), .val (.long p1), .second, .val (.long p3), .second, .val (.int p5), .val (.ref a6), .val (.ref a7), .val (.int z8), .val (.int z9), .val (.ref a10), .val (.ref b60), .val (.int (1 : Int32)), .val (.ref sc), .val (.int (1 : Int32)), .val (.long (p1 &&& (524287 : Int64))), .second, .val (.ref sl), .unset] [])
    refine w_iconst W113 B d_law_154 (v := (1 : Int32)) rfl ?_
    refine w_goto W113 B d_law_155 ?_
    refine w_istore W113 B d_law_159 (Ls' := #[.val (.int p0), .val (.long p1), .second, .val (.long p3), .second, .val (.int p5), .val (.ref a6), .val (.ref a7), .val (.int z8), .val (.int z9), .val (.ref a10), .val (.ref b60), .val (.int (1 : Int32)), .val (.ref sc), .val (.int (1 : Int32)), .val (.long (p1 &&& (524287 : Int64))), .second, .val (.ref sl), .val (.int (1 : Int32))]) rfl ?_
    refine w_iload W113 B d_law_161 rfl ?_
    refine w_if_eq W113 B d_law_163 (fun q => absurd q (by decide)) (fun _ => ?_)
    show G E x T109 (fr x 166 #[.val (.int p0), .val (.long p1), .second, .val (.long p3), .second, .val (.int p5), .val (.ref a6), .val (.ref a7), .val (.int z8), .val (.int z9), .val (.ref a10), .val (.ref b60), .val (.int (1 : Int32)), .val (.ref sc), .val (.int (1 : Int32)), .val (.long (p1 &&& (524287 : Int64))), .second, .val (.ref sl), .val (.int (1 : Int32))] [])
    refine w_iload W113 B d_law_166 rfl ?_
    refine w_if_eq W113 B d_law_168 (fun q => absurd q (by decide)) (fun _ => ?_)
    show G E x T109 (fr x 171 #[.val (.int p0), .val (.long p1), .second, .val (.long p3), .second, .val (.int p5), .val (.ref a6), .val (.ref a7), .val (.int z8), .val (.int z9), .val (.ref a10), .val (.ref b60), .val (.int (1 : Int32)), .val (.ref sc), .val (.int (1 : Int32)), .val (.long (p1 &&& (524287 : Int64))), .second, .val (.ref sl), .val (.int (1 : Int32))] [])
    refine w_iload W113 B d_law_171 rfl ?_
    refine w_if_eq W113 B d_law_173 (fun q => absurd q (by decide)) (fun _ => ?_)
    show G E x T109 (fr x 176 #[.val (.int p0), .val (.long p1), .second, .val (.long p3), .second, .val (.int p5), .val (.ref a6), .val (.ref a7), .val (.int z8), .val (.int z9), .val (.ref a10), .val (.ref b60), .val (.int (1 : Int32)), .val (.ref sc), .val (.int (1 : Int32)), .val (.long (p1 &&& (524287 : Int64))), .second, .val (.ref sl), .val (.int (1 : Int32))] [])
    refine w_iconst W113 B d_law_176 (v := (1 : Int32)) rfl ?_
    refine w_goto W113 B d_law_177 ?_
    exact w_ireturnN W113 B d_law_181 (Or.inl rfl) (u := 1) rfl hQ (by decide) (by decide) (F' := []) (fun _ q => nomatch q) rfl
set_option maxRecDepth 65536 in
set_option maxHeartbeats 4000000 in
theorem L52 {E : Gl} (hw : Tb E) {ca de : Addr} {cc : Cell} {kd : ClassId} (Sc : Sta E.Z E.Z.heap "java/lang/Long$LongCache" "cache" "[Ljava/lang/Long;" (.ref ca)) (Bx : Bxs E.Z ca cc "java/lang/Long" "J" 256 (fun j => .long (j - 128).toInt64)) (Sd : Sta E.Z E.Z.heap "java/util/ArrayList" "DEFAULTCAPACITY_EMPTY_ELEMENTDATA" "[Ljava/lang/Object;" (.ref de)) (Ad : Arv E.Z E.Z.heap de kd (.object "java/lang/Object") 0 [] .null) {x : Cx} {T : State} {h : Heap} (hQ : x.Q = fun r _ _ => r = some (.int 1)) (B : Is x "com/example/lakebed/lakebed/table/PlannedFileIsChangePinLaw" code 19 ({ frames := 9, cells := 32, slots := 192, locals := 208 } : Room) (some .boolean) "law") {p0 p5 : Int32} {p1 p3 : Int64} {a6 a7 : Addr} {z8 z9 : Int32} (h8 : z8 = 0 ∨ z8 = 1) (W : Wk E x T h [] 3 37) : G E x T (fr x 52 #[.val (.int p0), .val (.long p1), .second, .val (.long p3), .second, .val (.int p5), .val (.ref a6), .val (.ref a7), .val (.int z8), .unset, .unset, .unset, .unset, .unset, .unset, .unset, .unset, .unset, .unset] [(.int z9)]) := by
  refine w_istore W B d_law_52 (Ls' := #[.val (.int p0), .val (.long p1), .second, .val (.long p3), .second, .val (.int p5), .val (.ref a6), .val (.ref a7), .val (.int z8), .val (.int z9), .unset, .unset, .unset, .unset, .unset, .unset, .unset, .unset, .unset]) rfl ?_
  refine w_iload W B d_law_54 rfl ?_
  refine w_if_eq W B d_law_56 ?_ ?_
  · intro hc56
    show G E x T (fr x 66 #[.val (.int p0), .val (.long p1), .second, .val (.long p3), .second, .val (.int p5), .val (.ref a6), .val (.ref a7), .val (.int z8), .val (.int z9), .unset, .unset, .unset, .unset, .unset, .unset, .unset, .unset, .unset] [])
    refine w_null W B d_law_66 ?_
    exact L67 hw Sc Bx Sd Ad hQ B (v := .null) rfl ⟨fun _ => hc56, fun q => absurd rfl q⟩ (W.mono (fun _ q => nomatch q) (by decide) (by decide))
  · intro hc56
    show G E x T (fr x 59 #[.val (.int p0), .val (.long p1), .second, .val (.long p3), .second, .val (.int p5), .val (.ref a6), .val (.ref a7), .val (.int z8), .val (.int z9), .unset, .unset, .unset, .unset, .unset, .unset, .unset, .unset, .unset] [])
    refine w_lloadN W B d_law_59 rfl ?_
    refine w_static W B (y := ⟨"java/lang/Long", "valueOf", "(J)Ljava/lang/Long;"⟩) d_law_60 (wd hw 171 rfl) (wd hw 62 rfl) (wd hw 63 rfl) (wd hw 64 rfl) (by decide) pd__J_Ljava_lang_Long_623 (argsL := [(.long p3)]) rfl rfl rfl (Wt := 0) (Nat.le_of_eq rfl) (lval_met hw Sc Bx p3) (by decide) (by decide) (by decide) (by decide) ?_
    intro T1 h2 F3 v4 W5 Q6
    obtain ⟨la, rfl, rfl, KL⟩ := Q6
    show G E x T1 (fr x 63 #[.val (.int p0), .val (.long p1), .second, .val (.long p3), .second, .val (.int p5), .val (.ref a6), .val (.ref a7), .val (.int z8), .val (.int z9), .unset, .unset, .unset, .unset, .unset, .unset, .unset, .unset, .unset] [(.ref la)])
    refine w_goto W5 B d_law_63 ?_
    exact L67 hw Sc Bx Sd Ad hQ B (v := (.ref la)) rfl ⟨(fun q => nomatch q), fun _ => h8.resolve_left hc56⟩ (W5.mono (fun _ q => nomatch q) (by decide) (by decide))
set_option maxRecDepth 65536 in
set_option maxHeartbeats 4000000 in
theorem L38 {E : Gl} (hw : Tb E) {ca de : Addr} {cc : Cell} {kd : ClassId} (Sc : Sta E.Z E.Z.heap "java/lang/Long$LongCache" "cache" "[Ljava/lang/Long;" (.ref ca)) (Bx : Bxs E.Z ca cc "java/lang/Long" "J" 256 (fun j => .long (j - 128).toInt64)) (Sd : Sta E.Z E.Z.heap "java/util/ArrayList" "DEFAULTCAPACITY_EMPTY_ELEMENTDATA" "[Ljava/lang/Object;" (.ref de)) (Ad : Arv E.Z E.Z.heap de kd (.object "java/lang/Object") 0 [] .null) {x : Cx} {T : State} {h : Heap} (hQ : x.Q = fun r _ _ => r = some (.int 1)) (B : Is x "com/example/lakebed/lakebed/table/PlannedFileIsChangePinLaw" code 19 ({ frames := 9, cells := 32, slots := 192, locals := 208 } : Room) (some .boolean) "law") {p0 p5 : Int32} {p1 p3 : Int64} {a6 a7 : Addr} {z8 : Int32} (h8 : z8 = 0 ∨ z8 = 1) (W : Wk E x T h [] 3 37) : G E x T (fr x 38 #[.val (.int p0), .val (.long p1), .second, .val (.long p3), .second, .val (.int p5), .val (.ref a6), .val (.ref a7), .unset, .unset, .unset, .unset, .unset, .unset, .unset, .unset, .unset, .unset, .unset] [(.int z8)]) := by
  refine w_istore W B d_law_38 (Ls' := #[.val (.int p0), .val (.long p1), .second, .val (.long p3), .second, .val (.int p5), .val (.ref a6), .val (.ref a7), .val (.int z8), .unset, .unset, .unset, .unset, .unset, .unset, .unset, .unset, .unset, .unset]) rfl ?_
  refine w_iload W B d_law_40 rfl ?_
  refine w_iconst W B d_law_42 (v := (2 : Int32)) rfl ?_
  refine w_iand W B d_law_43 ?_
  refine w_if_eq W B d_law_44 ?_ ?_
  · intro hc44
    show G E x T (fr x 51 #[.val (.int p0), .val (.long p1), .second, .val (.long p3), .second, .val (.int p5), .val (.ref a6), .val (.ref a7), .val (.int z8), .unset, .unset, .unset, .unset, .unset, .unset, .unset, .unset, .unset, .unset] [])
    refine w_iconst W B d_law_51 (v := (0 : Int32)) rfl ?_
    exact L52 hw Sc Bx Sd Ad hQ B (z9 := (0 : Int32)) h8 W
  · intro hc44
    show G E x T (fr x 47 #[.val (.int p0), .val (.long p1), .second, .val (.long p3), .second, .val (.int p5), .val (.ref a6), .val (.ref a7), .val (.int z8), .unset, .unset, .unset, .unset, .unset, .unset, .unset, .unset, .unset, .unset] [])
    refine w_iconst W B d_law_47 (v := (1 : Int32)) rfl ?_
    refine w_goto W B d_law_48 ?_
    exact L52 hw Sc Bx Sd Ad hQ B (z9 := (1 : Int32)) h8 W
set_option maxRecDepth 65536 in
set_option maxHeartbeats 4000000 in
theorem L0 {E : Gl} (hw : Tb E) {ca de : Addr} {cc : Cell} {kd : ClassId} (Sc : Sta E.Z E.Z.heap "java/lang/Long$LongCache" "cache" "[Ljava/lang/Long;" (.ref ca)) (Bx : Bxs E.Z ca cc "java/lang/Long" "J" 256 (fun j => .long (j - 128).toInt64)) (Sd : Sta E.Z E.Z.heap "java/util/ArrayList" "DEFAULTCAPACITY_EMPTY_ELEMENTDATA" "[Ljava/lang/Object;" (.ref de)) (Ad : Arv E.Z E.Z.heap de kd (.object "java/lang/Object") 0 [] .null) {x : Cx} {T : State} {h : Heap} (hQ : x.Q = fun r _ _ => r = some (.int 1)) (B : Is x "com/example/lakebed/lakebed/table/PlannedFileIsChangePinLaw" code 19 ({ frames := 9, cells := 32, slots := 192, locals := 208 } : Room) (some .boolean) "law") {p0 p5 : Int32} {p1 p3 : Int64}  (W : Wk E x T h [] 0 0) : G E x T (fr x 0 #[.val (.int p0), .val (.long p1), .second, .val (.long p3), .second, .val (.int p5), .unset, .unset, .unset, .unset, .unset, .unset, .unset, .unset, .unset, .unset, .unset, .unset, .unset] []) := by
  refine w_iconst W B d_law_0 (v := (1 : Int32)) rfl ?_
  refine w_newarray W B d_law_1 rfl (wd hw 0 rfl) (by decide) (cap := 1) (by decide) (by decide) (by decide) (by decide) ?_
  intro T1 h2 b3 k4 W5 g6 X7 A8
  have A9 : Arv E.Z h2 b3 k4 .char (1 : Int32) [(.int (0 : Int32))] (.int (0 : Int32)) := A8.pad (pad_rep [] (.int (0 : Int32)) 1)
  show G E x T1 (fr x 3 #[.val (.int p0), .val (.long p1), .second, .val (.long p3), .second, .val (.int p5), .unset, .unset, .unset, .unset, .unset, .unset, .unset, .unset, .unset, .unset, .unset, .unset, .unset] [(.ref b3)])
  refine w_astore W5 B d_law_3 rfl (Ls' := #[.val (.int p0), .val (.long p1), .second, .val (.long p3), .second, .val (.int p5), .val (.ref b3), .unset, .unset, .unset, .unset, .unset, .unset, .unset, .unset, .unset, .unset, .unset, .unset]) rfl ?_
  refine w_aload W5 B d_law_5 rfl rfl ?_
  refine w_iconst W5 B d_law_7 (v := (0 : Int32)) rfl ?_
  refine w_iloadN W5 B d_law_8 rfl ?_
  refine w_sipush W5 B d_law_9 (v := (255 : Int32)) rfl ?_
  refine w_iand W5 B d_law_12 ?_
  refine w_i2c W5 B d_law_13 ?_
  refine w_castore W5 B d_law_14 (List.Mem.head _) A9 (by decide) (i := 0) rfl (by decide) (u := ((p0 &&& (255 : Int32))).toUInt32.toUInt16.toUInt32.toInt32) (Own.nar_i2c _) ?_
  intro T10 h11 W12 K13 A14
  have A15 : Arv E.Z h11 b3 k4 .char (1 : Int32) [(.int ((p0 &&& (255 : Int32))).toUInt32.toUInt16.toUInt32.toInt32)] (.int (0 : Int32)) := A14
  refine w_new W12 B d_law_15 (wd hw 1 rfl) (wd hw 2 rfl) (wd hw 3 rfl) (by decide) (by decide) ?_
  intro T16 h17 b18 W19 g20 X21 A22 D23
  have f24 : Fld E.Z h17 b18 "java/lang/String" "coder" "B" (.int (0 : Int32)) := D23 (Or.inr (wd hw 27 rfl)) (ty := .byte) (by decide)
  have f25 : Fld E.Z h17 b18 "java/lang/String" "value" "[B" .null := D23 (Or.inr (wd hw 29 rfl)) (ty := (.array .byte)) (by decide)
  show G E x T16 (fr x 18 #[.val (.int p0), .val (.long p1), .second, .val (.long p3), .second, .val (.int p5), .val (.ref b3), .unset, .unset, .unset, .unset, .unset, .unset, .unset, .unset, .unset, .unset, .unset, .unset] [(.ref b18)])
  refine w_dup W19 B d_law_18 rfl ?_
  refine w_aload W19 B d_law_19 rfl rfl ?_
  have hc255 : 0 ≤ ((p0 &&& (255 : Int32)).toUInt32.toUInt16.toUInt32.toInt32).toInt ∧ ((p0 &&& (255 : Int32)).toUInt32.toUInt16.toUInt32.toInt32).toInt ≤ 255 := by rw [i2c_toInt, and255]; omega
  refine w_special W19 B (y := ⟨"java/lang/String", "<init>", "([C)V"⟩) d_law_21 rfl (wd hw 4 rfl) (wd hw 5 rfl) (wd hw 3 rfl) (wd hw 6 rfl) (by decide) pd___C_V325 (argsL := [(.ref b3)]) rfl rfl rfl (Wt := 1) (Nat.le_of_eq rfl) (ini1_met hw (n := 1) (cs := [(p0 &&& (255 : Int32)).toUInt32.toUInt16.toUInt32.toInt32]) rfl (by decide) (by decide) (fun q hq => by rw [List.mem_singleton.mp hq]; omega) (fun q hq => by rw [List.mem_singleton.mp hq]; exact hc255.2) (List.Mem.head _) A22 f25 f24 (A15.ext X21)) (by decide) (by decide) (by decide) (by decide) ?_
  intro T26 h27 F28 v29 W30 Q31
  obtain ⟨rfl, rfl, K1, v, S1, hv⟩ := Q31
  show G E x T26 (fr x 24 #[.val (.int p0), .val (.long p1), .second, .val (.long p3), .second, .val (.int p5), .val (.ref b3), .unset, .unset, .unset, .unset, .unset, .unset, .unset, .unset, .unset, .unset, .unset, .unset] [(.ref b18)])
  refine w_astore W30 B d_law_24 rfl (Ls' := #[.val (.int p0), .val (.long p1), .second, .val (.long p3), .second, .val (.int p5), .val (.ref b3), .val (.ref b18), .unset, .unset, .unset, .unset, .unset, .unset, .unset, .unset, .unset, .unset, .unset]) rfl ?_
  refine w_iload W30 B d_law_26 rfl ?_
  refine w_iconst W30 B d_law_28 (v := (1 : Int32)) rfl ?_
  refine w_iand W30 B d_law_29 ?_
  refine w_if_eq W30 B d_law_30 ?_ ?_
  · intro hc30
    show G E x T26 (fr x 37 #[.val (.int p0), .val (.long p1), .second, .val (.long p3), .second, .val (.int p5), .val (.ref b3), .val (.ref b18), .unset, .unset, .unset, .unset, .unset, .unset, .unset, .unset, .unset, .unset, .unset] [])
    refine w_iconst W30 B d_law_37 (v := (0 : Int32)) rfl ?_
    exact L38 hw Sc Bx Sd Ad hQ B (z8 := (0 : Int32)) (by decide) (W30.mono (fun _ q => nomatch q) (by decide) (by decide))
  · intro hc30
    show G E x T26 (fr x 33 #[.val (.int p0), .val (.long p1), .second, .val (.long p3), .second, .val (.int p5), .val (.ref b3), .val (.ref b18), .unset, .unset, .unset, .unset, .unset, .unset, .unset, .unset, .unset, .unset, .unset] [])
    refine w_iconst W30 B d_law_33 (v := (1 : Int32)) rfl ?_
    refine w_goto W30 B d_law_34 ?_
    exact L38 hw Sc Bx Sd Ad hQ B (z8 := (1 : Int32)) (by decide) (W30.mono (fun _ q => nomatch q) (by decide) (by decide))
theorem arv_empty {E : Gl} {t : Term} {de : Addr} {cd : Cell} (A : Arr E.Z E.Z.heap de cd (.object "java/lang/Object")) (e : t.eval E.a E.Z none [] E.Z = some (.ref de)) (hl : (Jvm.Cond.eq (.length t) (.int 0)).value E.a E.Z none E.Z [] = some true) : Arv E.Z E.Z.heap de cd.cls (.object "java/lang/Object") 0 [] .null := by
  obtain ⟨z1, z2⟩ := len_of_eq A e hl
  have h0 : cd.slots.size = 0 := by
    have q : cd.slots.size.toInt32.toInt = (0 : Int32).toInt := by rw [z2]
    rw [n_int z1] at q; simpa using q
  exact ⟨cd, A, rfl, by rw [h0]; rfl, by decide, fun k hk => absurd hk (by omega), fun k hk => absurd hk (by omega)⟩
set_option maxRecDepth 65536 in
set_option maxHeartbeats 4000000 in
theorem law_met {E : Gl} (hw : Tb E) {ca de : Addr} {cc : Cell} {kd : ClassId} (Sc : Sta E.Z E.Z.heap "java/lang/Long$LongCache" "cache" "[Ljava/lang/Long;" (.ref ca)) (Bx : Bxs E.Z ca cc "java/lang/Long" "J" 256 (fun j => .long (j - 128).toInt64)) (Sd : Sta E.Z E.Z.heap "java/util/ArrayList" "DEFAULTCAPACITY_EMPTY_ELEMENTDATA" "[Ljava/lang/Object;" (.ref de)) (Ad : Arv E.Z E.Z.heap de kd (.object "java/lang/Object") 0 [] .null) (p0 : Int32) (p1 p2 : Int64) (p3 : Int32) (h : Heap) :
    MetT tables_1 E x code maxLocals ret room_1 #[.int p0, .long p1, .long p2, .int p3] h [] (fun r _ _ => r = some (.int 1)) := by
  refine met_of (by decide +kernel) fun x T hQ B W => ?_
  refine G.cast (g' := fr x 0 #[.val (.int p0), .val (.long p1), .second, .val (.long p2), .second, .val (.int p3), .unset, .unset, .unset, .unset, .unset, .unset, .unset, .unset, .unset, .unset, .unset, .unset, .unset] []) (by simp [entryFrame, mkF, argsToLocals, Own.cat_i, Own.cat_j, maxLocals]) ?_
  exact L0 hw Sc Bx Sd Ad hQ B W
set_option maxRecDepth 65536 in
set_option maxHeartbeats 4000000 in
theorem comes_1 {Post : Tables → Env → Array Value → State → Outcome → State → Prop} (hpost : ∀ tb e args s v u, (limb_1_1.after args s (.returned v) u = true ∧ limb_1_2.after args s (.returned v) u = true ∧ True) → Framed s (.returned v) u (Jvm.fieldLocs frame_1_writes args s ++ Jvm.arrayLocs frame_1_arrays args s ++ Jvm.staticLocs frame_1_statics s) 32 192 → Post tb e args s (.returned v) u) :
    ArmFor flags0 classFile x code maxLocals ret World_1 tables_1 room_1 Calls_1 rest_1 Pre_1 Post := by
  intro l hfl _ _ p e ha hc hk s m args below hf hA hF happ hP
  obtain ⟨hcalls, hrest, hpre⟩ := hP
  obtain ⟨-, -, -, hnamed, -, -, -, hat⟩ := (Spec.applies_iff hf).mp happ
  obtain ⟨hg, hn⟩ := and_e (Cond.before_iff.mp (show (Jvm.Cond.and given_1 narrow_1).before args s = true from hpre))
  obtain ⟨hg0, g0⟩ := and_e hg
  obtain ⟨k0, g1⟩ := and_e g0
  obtain ⟨k1, g2⟩ := and_e g1
  obtain ⟨k2, g3⟩ := and_e g2
  have k3 := g3
  obtain ⟨w0, w1, w2, w3, rfl⟩ : ∃ w0 w1 w2 w3 : Value, args = #[w0, w1, w2, w3] := by
    have hs : args.size = 4 := by simpa [Cond.value, given_1] using hg0
    obtain ⟨L⟩ := args
    match L, hs with
    | [w0, w1, w2, w3], _ => exact ⟨w0, w1, w2, w3, rfl⟩
  obtain ⟨p0, e0⟩ := is_v k0
  obtain rfl : w0 = (.int p0) := Option.some.inj e0
  obtain ⟨p1, e1⟩ := isL_v k1
  obtain rfl : w1 = (.long p1) := Option.some.inj e1
  obtain ⟨p2, e2⟩ := isL_v k2
  obtain rfl : w2 = (.long p2) := Option.some.inj e2
  obtain ⟨p3, e3⟩ := is_v k3
  obtain rfl : w3 = (.int p3) := Option.some.inj e3
  have hw0 := fun d (hd : d ∈ tables_1) => atoms_spec (ws := Jvm.Cond.code x code maxLocals ret :: tables_1) hat d (List.mem_cons_of_mem _ hd)
  obtain ⟨hsets, hown0⟩ := atoms_of _ (rest_1_c_eq ▸ (show rest_1_c.before _ s = true from hrest))
  have hfit : Fit s := fun {y c} hc i hi => by
    obtain ⟨ha, rfl⟩ := Array.getElem?_eq_some_iff.mp hc
    have q := List.all_eq_true.mp ((Array.all_eq_true_iff_forall_mem.mp hF) _ (Array.getElem_mem ha)) i (List.mem_range.mpr hi)
    simpa [Array.getElem?_eq_getElem hi] using q
  let E : Gl := (l, s, #[(.int p0), (.long p1), (.long p2), (.int p3)], s.heap.size, false, [])
  have hw : Tb E := ⟨hw0, hsets, rfl, rfl⟩
  have hEW : EW E.Z E.a E.K := EW.nil
  have hCH : CHv E.Z E.K E.Z.vm E.Z.heap := fun _ hp => nomatch hp
  obtain ⟨ca, cc, Sc, Bx⟩ := lcache hw hfit
  obtain ⟨de, eD⟩ := arr_v (Cond.before_iff.mp (sd hw 15 rfl))
  obtain ⟨cd, AD⟩ := Arr.start eD (Cond.before_iff.mp (sd hw 15 rfl))
  have Sd : Sta E.Z E.Z.heap "java/util/ArrayList" "DEFAULTCAPACITY_EMPTY_ELEMENTDATA" "[Ljava/lang/Object;" (.ref de) := Sta.start eD (Or.inr ⟨(wd hw 93 rfl), (sd hw 11 rfl)⟩)
  have Ad := arv_empty AD eD (Cond.before_iff.mp (sd hw 17 rfl))
  obtain ⟨n, o, h1, h2, h3, v, L, F', rfl, rfl, N, -, -, -, hq⟩ := law_met hw Sc Bx Sd Ad p0 p1 p2 p3 _ p e ha hc hk s m _ below hf ((Spec.applies_iff_loose hf).mp happ).1 ⟨rfl, State.Warmed39.refl s, rfl, Old.start s, hCH, (fun _ q => nomatch q), hEW, (fun q => rfl)⟩ trivial
  have hq : FrameEnd _ _ _ _ _ _ := hq
  exact ⟨n, _, h1, h2, h3, hpost _ _ _ _ _ _ ⟨Cond.after_iff.mpr rfl, Cond.after_iff.mpr (eq_i res_at (Term.int_eval (1)) rfl), trivial⟩ ⟨hq.1, hq.2.1, hq.2.2.sift fun y hy => Or.inr (N y hy)⟩⟩
theorem main_1_1 : Claimed_1_1 := comes_1 fun _ _ _ _ _ _ h hF => ⟨h.1, hF⟩
theorem main_1_2 : Claimed_1_2 := comes_1 fun _ _ _ _ _ _ h hF => ⟨h.2.1, hF⟩
end Jvm.Pilot.@@N@@
namespace Jvm.Pilot.@@N@@
open Jvm Jvm.ClassFile Sem Op Lib Jvm.Free Jvm.Stand Jvm.Pilot.@@N@@.Jvm.D
/-! MADE BY PROGRAM (witnessworld.py) out of the Statement's table words and the real class files: 36 classes; the members and pool entries that the words name. The judged class is class 1, her method 1. -/
namespace start1
open Jvm.ClassFile
def u (s : String) : CpInfo := .utf8 (stringToUtf16 s)
/-- a pool by its gaps: so many unusable entries, then the entry; so many at the end -/
def gap : Nat → List CpInfo → List CpInfo
  | 0, r => r
  | n + 1, r => .unusable :: gap n r
def poolList (es : List (Nat × CpInfo)) (last : Nat) : List CpInfo := es.foldr (fun e r => gap e.1 (e.2 :: r)) (gap last [])
def pool (es : List (Nat × CpInfo)) (last : Nat) : Array CpInfo := ⟨poolList es last⟩
def fileOf (pool : Array CpInfo) (this : Nat) (attrs : Array Attribute := #[]) (ms : Array MethodInfo := #[]) (fl : Nat := 33) (sup : Nat := 0) (ifs : Array Nat := #[]) (fds : Array FieldInfo := #[]) : ClassFile where
  minorVersion := 0
  majorVersion := 65
  constantPool := pool
  accessFlags := fl
  thisClass := this
  superClass := sup
  interfaces := ifs
  fields := fds
  methods := ms
  attributes := attrs
def plain (name : String) (sup : Option ClassId) : Class where
  name := name
  kind := .ordinary
  loader := none
  accessFlags := 33
  super := sup
  interfaces := #[]
  cf := none
  fields := #[]
  methods := #[]
  instanceTypes := #[]
  staticTypes := #[]
  resolved := #[]
  callSites := []
  init := .initialized
  statics := none
  mirror := none

def pool0 : Array CpInfo := pool [(5, u "<init>"), (0, u "()V"), (1, .class_ 10), (1, u "java/lang/Object")] 113

def k0c0 : Code := { maxStack := 0, maxLocals := 1, code := object_method_1_code, exceptionTable := #[], attributes := #[] }
def k0m0 : Method := { name := "<init>", desc := "()V", sig := { parameters := [], returnType := none }, accessFlags := 1, code := some k0c0 }
/-- java/lang/Object -/
def k0 : Class := { plain "java/lang/Object" none with
  accessFlags := 33
  interfaces := #[]
  cf := some (fileOf pool0 8 #[] #[{ accessFlags := 1, nameIndex := 5, descriptorIndex := 6, attributes := #[] }] 33 0 #[] #[])
  fields := #[]
  methods := #[k0m0]
  instanceTypes := #[]
  staticTypes := #[]
  resolved := Array.replicate 124 none
  statics := none }

def pool1 : Array CpInfo := pool [(2, .class_ 4), (1, u "java/lang/Object"), (0, u "<init>"), (0, u "()V"), (0, .class_ 8), (0, u "java/lang/String"), (0, .methodref 7 10), (0, .nameAndType 5 11), (0, u "([C)V"), (0, .methodref 13 14), (0, .class_ 15), (0, .nameAndType 16 17), (0, u "java/lang/Long"), (0, u "valueOf"), (0, u "(J)Ljava/lang/Long;"), (0, .class_ 19), (0, u "com/example/lakebed/lakebed/table/PlannedFile"), (0, .methodref 18 21), (0, .nameAndType 5 22), (0, u "(Ljava/lang/String;Lcom/example/lakebed/lakebed/table/FileGroup;JLjava/lang/Long;Z)V"), (0, .methodref 18 24), (0, .nameAndType 25 26), (0, u "isChange"), (0, u "()Z"), (0, .methodref 18 28), (0, .nameAndType 29 30), (0, u "change"), (0, u "(Ljava/lang/String;Lcom/example/lakebed/lakebed/table/FileGroup;JJ)Lcom/example/lakebed/lakebed/table/PlannedFile;"), (0, .long 524287), (1, .methodref 18 34), (0, .nameAndType 35 36), (0, u "group"), (0, u "(Ljava/lang/String;Lcom/example/lakebed/lakebed/table/FileGroup;J)Ljava/util/List;"), (0, .interfaceMethodref 38 39), (0, .class_ 40), (0, .nameAndType 41 42), (0, u "java/util/List"), (0, u "get"), (0, u "(I)Ljava/lang/Object;"), (0, .class_ 44), (0, u "com/example/lakebed/lakebed/table/PlannedFileIsChangePinLaw"), (2, u "law"), (0, u "(IJJI)Z")] 5

def k1m0 : Method := { name := "<init>", desc := "()V", sig := { parameters := [], returnType := none }, accessFlags := 2, code := none }
def k1c1 : Code := { maxStack := 8, maxLocals := 19, code := code, exceptionTable := #[], attributes := #[] }
def k1m1 : Method := { name := "law", desc := "(IJJI)Z", sig := { parameters := [.int, .long, .long, .int], returnType := some .boolean }, accessFlags := 9, code := some k1c1 }
/-- com/example/lakebed/lakebed/table/PlannedFileIsChangePinLaw -/
def k1 : Class := { plain "com/example/lakebed/lakebed/table/PlannedFileIsChangePinLaw" (some 0) with
  accessFlags := 49
  interfaces := #[]
  cf := some (fileOf pool1 43 #[] #[{ accessFlags := 2, nameIndex := 5, descriptorIndex := 6, attributes := #[] }, { accessFlags := 9, nameIndex := 47, descriptorIndex := 48, attributes := #[] }] 49 2 #[] #[])
  fields := #[]
  methods := #[k1m0, k1m1]
  instanceTypes := #[]
  staticTypes := #[]
  resolved := Array.replicate 54 none
  statics := none }

def pool2 : Array CpInfo := pool [(1, .class_ 2), (0, u "java/io/Serializable"), (0, .class_ 4), (0, u "java/lang/Object")] 2

/-- java/io/Serializable -/
def k2 : Class := { plain "java/io/Serializable" (some 0) with
  accessFlags := 1537
  interfaces := #[]
  cf := some (fileOf pool2 1 #[] #[] 1537 3 #[] #[])
  fields := #[]
  methods := #[]
  instanceTypes := #[]
  staticTypes := #[]
  resolved := Array.replicate 7 none
  statics := none }

def pool3 : Array CpInfo := pool [(1, .class_ 2), (0, u "java/lang/Comparable"), (0, .class_ 4), (0, u "java/lang/Object")] 7

/-- java/lang/Comparable -/
def k3 : Class := { plain "java/lang/Comparable" (some 0) with
  accessFlags := 1537
  interfaces := #[]
  cf := some (fileOf pool3 1 #[] #[] 1537 3 #[] #[])
  fields := #[]
  methods := #[]
  instanceTypes := #[]
  staticTypes := #[]
  resolved := Array.replicate 12 none
  statics := none }

def pool4 : Array CpInfo := pool [(2, .class_ 4), (1, u "java/lang/CharSequence"), (42, .class_ 48), (0, u "java/lang/CharSequence$1CodePointIterator"), (10, .class_ 60), (0, u "java/lang/CharSequence$1CharIterator"), (5, .class_ 67), (0, u "java/lang/Object")] 63

/-- java/lang/CharSequence -/
def k4 : Class := { plain "java/lang/CharSequence" (some 0) with
  accessFlags := 1537
  interfaces := #[]
  cf := some (fileOf pool4 2 #[.nestMembers #[47, 59]] #[] 1537 66 #[] #[])
  fields := #[]
  methods := #[]
  instanceTypes := #[]
  staticTypes := #[]
  resolved := Array.replicate 131 none
  statics := none }

def pool5 : Array CpInfo := pool [(1, .class_ 2), (0, u "java/lang/constant/Constable"), (0, .class_ 4), (0, u "java/lang/Object")] 6

/-- java/lang/constant/Constable -/
def k5 : Class := { plain "java/lang/constant/Constable" (some 0) with
  accessFlags := 1537
  interfaces := #[]
  cf := some (fileOf pool5 1 #[] #[] 1537 3 #[] #[])
  fields := #[]
  methods := #[]
  instanceTypes := #[]
  staticTypes := #[]
  resolved := Array.replicate 11 none
  statics := none }

def pool6 : Array CpInfo := pool [(1, .class_ 2), (0, u "java/lang/constant/ConstantDesc"), (0, .class_ 4), (0, u "java/lang/Object")] 32

/-- java/lang/constant/ConstantDesc -/
def k6 : Class := { plain "java/lang/constant/ConstantDesc" (some 0) with
  accessFlags := 1537
  interfaces := #[]
  cf := some (fileOf pool6 1 #[] #[] 1537 3 #[] #[])
  fields := #[]
  methods := #[]
  instanceTypes := #[]
  staticTypes := #[]
  resolved := Array.replicate 37 none
  statics := none }

def pool7 : Array CpInfo := pool [(1, .methodref 2 3), (0, .class_ 4), (0, .nameAndType 5 6), (0, u "java/lang/Object"), (0, u "<init>"), (0, u "()V"), (2, .fieldref 10 11), (0, .class_ 12), (0, .nameAndType 13 14), (0, u "java/lang/String"), (0, u "value"), (0, u "[B"), (0, .fieldref 10 16), (0, .nameAndType 17 18), (0, u "coder"), (0, u "B"), (2, u "hash"), (0, u "I"), (2, u "hashIsZero"), (0, u "Z"), (0, .methodref 10 28), (0, .nameAndType 5 29), (0, u "([CIILjava/lang/Void;)V"), (8, .fieldref 10 39), (0, .nameAndType 40 26), (0, u "COMPACT_STRINGS"), (1, .class_ 44), (1, u "java/lang/StringUTF16"), (0, u "compress"), (1, .methodref 42 48), (0, .nameAndType 49 50), (0, u "coderFromArrayLen"), (0, u "([BI)B"), (126, .methodref 42 178), (0, .nameAndType 45 179), (0, u "([CII)[B"), (395, .class_ 576), (0, u "java/lang/CharSequence"), (22, u "CASE_INSENSITIVE_ORDER"), (0, u "Ljava/util/Comparator;"), (409, u "([C)V"), (90, u "serialPersistentFields"), (0, u "[Ljava/io/ObjectStreamField;"), (0, .class_ 1104), (0, u "java/lang/String$CaseInsensitiveComparator"), (1, .class_ 1107), (0, u "java/io/Serializable"), (0, .class_ 1109), (0, u "java/lang/Comparable"), (0, .class_ 1111), (0, u "java/lang/constant/Constable"), (0, .class_ 1113), (0, u "java/lang/constant/ConstantDesc"), (2, u "serialVersionUID"), (0, u "J"), (3, u "REPL"), (0, u "C"), (2, u "LATIN1"), (1, u "UTF16")] 323

def k7m0 : Method := { name := "<init>", desc := "()V", sig := { parameters := [], returnType := none }, accessFlags := 1, code := none }
def k7c1 : Code := { maxStack := 5, maxLocals := 2, code := jdk_42_method_3_code, exceptionTable := #[], attributes := #[] }
def k7m1 : Method := { name := "<init>", desc := "([C)V", sig := { parameters := [(.array .char)], returnType := none }, accessFlags := 1, code := some k7c1 }
def k7c2 : Code := { maxStack := 4, maxLocals := 6, code := jdk_42_method_149_code, exceptionTable := #[], attributes := #[] }
def k7m2 : Method := { name := "<init>", desc := "([CIILjava/lang/Void;)V", sig := { parameters := [(.array .char), .int, .int, (.object "java/lang/Void")], returnType := none }, accessFlags := 2, code := some k7c2 }
/-- java/lang/String -/
def k7 : Class := { plain "java/lang/String" (some 0) with
  accessFlags := 49
  interfaces := #[2, 3, 4, 5, 6]
  cf := some (fileOf pool7 10 #[.nestMembers #[1103]] #[{ accessFlags := 1, nameIndex := 5, descriptorIndex := 6, attributes := #[] }, { accessFlags := 1, nameIndex := 5, descriptorIndex := 1010, attributes := #[] }, { accessFlags := 2, nameIndex := 5, descriptorIndex := 29, attributes := #[] }] 49 2 #[1106, 1108, 575, 1110, 1112] #[{ accessFlags := 18, nameIndex := 13, descriptorIndex := 14, attributes := #[] }, { accessFlags := 18, nameIndex := 17, descriptorIndex := 18, attributes := #[] }, { accessFlags := 2, nameIndex := 21, descriptorIndex := 22, attributes := #[] }, { accessFlags := 2, nameIndex := 25, descriptorIndex := 26, attributes := #[] }, { accessFlags := 26, nameIndex := 1116, descriptorIndex := 1117, attributes := #[] }, { accessFlags := 24, nameIndex := 40, descriptorIndex := 26, attributes := #[] }, { accessFlags := 26, nameIndex := 1101, descriptorIndex := 1102, attributes := #[] }, { accessFlags := 26, nameIndex := 1121, descriptorIndex := 1122, attributes := #[] }, { accessFlags := 25, nameIndex := 599, descriptorIndex := 600, attributes := #[] }, { accessFlags := 24, nameIndex := 1125, descriptorIndex := 18, attributes := #[] }, { accessFlags := 24, nameIndex := 1127, descriptorIndex := 18, attributes := #[] }])
  fields := #[{ name := "value", type := (.array .byte), accessFlags := 18, slot := 0, constantValue := 0 }, { name := "coder", type := .byte, accessFlags := 18, slot := 1, constantValue := 0 }, { name := "hash", type := .int, accessFlags := 2, slot := 2, constantValue := 0 }, { name := "hashIsZero", type := .boolean, accessFlags := 2, slot := 3, constantValue := 0 }, { name := "serialVersionUID", type := .long, accessFlags := 26, slot := 0, constantValue := 0 }, { name := "COMPACT_STRINGS", type := .boolean, accessFlags := 24, slot := 1, constantValue := 0 }, { name := "serialPersistentFields", type := (.array (.object "java/io/ObjectStreamField")), accessFlags := 26, slot := 2, constantValue := 0 }, { name := "REPL", type := .char, accessFlags := 26, slot := 3, constantValue := 0 }, { name := "CASE_INSENSITIVE_ORDER", type := (.object "java/util/Comparator"), accessFlags := 25, slot := 4, constantValue := 0 }, { name := "LATIN1", type := .byte, accessFlags := 24, slot := 5, constantValue := 0 }, { name := "UTF16", type := .byte, accessFlags := 24, slot := 6, constantValue := 0 }]
  methods := #[k7m0, k7m1, k7m2]
  instanceTypes := #[(.array .byte), .byte, .int, .boolean]
  staticTypes := #[.long, .boolean, (.array (.object "java/io/ObjectStreamField")), .char, (.object "java/util/Comparator"), .byte, .byte]
  resolved := Array.replicate 1451 none
  statics := some 0 }

def pool8 : Array CpInfo := pool [(6, .class_ 8), (1, u "java/lang/Object"), (0, u "<init>"), (0, u "()V"), (1, .class_ 14), (1, u "java/lang/StringUTF16"), (31, u "$assertionsDisabled"), (0, u "Z"), (13, u "HI_BYTE_SHIFT"), (0, u "I"), (2, u "LO_BYTE_SHIFT"), (49, .methodref 12 116), (0, .nameAndType 117 118), (0, u "compress"), (0, u "([CI[BII)I"), (3, u "([CII)[B"), (138, u "coderFromArrayLen"), (0, u "([BI)B"), (106, .class_ 371), (1, u "java/lang/StringUTF16$LinesSpliterator"), (58, u "MAX_LENGTH"), (196, .class_ 628), (0, u "java/lang/StringUTF16$CodePointsSpliterator"), (0, .class_ 630), (0, u "java/lang/StringUTF16$CharsSpliterator")] 4

def k8m0 : Method := { name := "<init>", desc := "()V", sig := { parameters := [], returnType := none }, accessFlags := 0, code := none }
def k8c1 : Code := { maxStack := 2, maxLocals := 2, code := jdk_52_method_15_code, exceptionTable := #[], attributes := #[] }
def k8m1 : Method := { name := "coderFromArrayLen", desc := "([BI)B", sig := { parameters := [(.array .byte), .int], returnType := some .byte }, accessFlags := 8, code := some k8c1 }
def k8c2 : Code := { maxStack := 5, maxLocals := 6, code := jdk_52_method_16_code, exceptionTable := #[], attributes := #[] }
def k8m2 : Method := { name := "compress", desc := "([CII)[B", sig := { parameters := [(.array .char), .int, .int], returnType := some (.array .byte) }, accessFlags := 9, code := some k8c2 }
def k8c3 : Code := { maxStack := 3, maxLocals := 7, code := jdk_52_method_21_code, exceptionTable := #[], attributes := #[] }
def k8m3 : Method := { name := "compress", desc := "([CI[BII)I", sig := { parameters := [(.array .char), .int, (.array .byte), .int, .int], returnType := some .int }, accessFlags := 9, code := some k8c3 }
/-- java/lang/StringUTF16 -/
def k8 : Class := { plain "java/lang/StringUTF16" (some 0) with
  accessFlags := 48
  interfaces := #[]
  cf := some (fileOf pool8 12 #[.nestMembers #[627, 629, 369]] #[{ accessFlags := 0, nameIndex := 9, descriptorIndex := 10, attributes := #[] }, { accessFlags := 8, nameIndex := 261, descriptorIndex := 262, attributes := #[] }, { accessFlags := 9, nameIndex := 117, descriptorIndex := 122, attributes := #[] }, { accessFlags := 9, nameIndex := 117, descriptorIndex := 118, attributes := #[] }] 48 6 #[] #[{ accessFlags := 26, nameIndex := 61, descriptorIndex := 62, attributes := #[] }, { accessFlags := 26, nameIndex := 65, descriptorIndex := 62, attributes := #[] }, { accessFlags := 24, nameIndex := 430, descriptorIndex := 62, attributes := #[] }, { accessFlags := 4120, nameIndex := 46, descriptorIndex := 47, attributes := #[] }])
  fields := #[{ name := "HI_BYTE_SHIFT", type := .int, accessFlags := 26, slot := 0, constantValue := 0 }, { name := "LO_BYTE_SHIFT", type := .int, accessFlags := 26, slot := 1, constantValue := 0 }, { name := "MAX_LENGTH", type := .int, accessFlags := 24, slot := 2, constantValue := 0 }, { name := "$assertionsDisabled", type := .boolean, accessFlags := 4120, slot := 3, constantValue := 0 }]
  methods := #[k8m0, k8m1, k8m2, k8m3]
  instanceTypes := #[]
  staticTypes := #[.int, .int, .int, .boolean]
  resolved := Array.replicate 635 none
  statics := none }

def pool9 : Array CpInfo := pool [(1, .methodref 2 3), (0, .class_ 4), (0, .nameAndType 5 6), (0, u "java/lang/Object"), (0, u "<init>"), (0, u "()V"), (0, .class_ 8), (0, u "java/lang/Record")] 13

def k9c0 : Code := { maxStack := 1, maxLocals := 1, code := jdk_30_method_1_code, exceptionTable := #[], attributes := #[] }
def k9m0 : Method := { name := "<init>", desc := "()V", sig := { parameters := [], returnType := none }, accessFlags := 4, code := some k9c0 }
/-- java/lang/Record -/
def k9 : Class := { plain "java/lang/Record" (some 0) with
  accessFlags := 1057
  interfaces := #[]
  cf := some (fileOf pool9 7 #[] #[{ accessFlags := 4, nameIndex := 5, descriptorIndex := 6, attributes := #[] }] 1057 2 #[] #[])
  fields := #[]
  methods := #[k9m0]
  instanceTypes := #[]
  staticTypes := #[]
  resolved := Array.replicate 22 none
  statics := none }

def pool10 : Array CpInfo := pool [(1, .methodref 2 3), (0, .class_ 4), (0, .nameAndType 5 6), (0, u "java/lang/Record"), (0, u "<init>"), (0, u "()V"), (0, .fieldref 8 9), (0, .class_ 10), (0, .nameAndType 11 12), (0, u "com/example/lakebed/lakebed/table/PlannedFile"), (0, u "folder"), (0, u "Ljava/lang/String;"), (0, .fieldref 8 14), (0, .nameAndType 15 16), (0, u "of"), (0, u "Lcom/example/lakebed/lakebed/table/FileGroup;"), (0, .fieldref 8 18), (0, .nameAndType 19 20), (0, u "rows"), (0, u "J"), (0, .fieldref 8 22), (0, .nameAndType 23 24), (0, u "gains"), (0, u "Ljava/lang/Long;"), (0, .fieldref 8 26), (0, .nameAndType 27 28), (0, u "spliced"), (0, u "Z"), (0, .long 524288), (1, .methodref 32 33), (0, .class_ 34), (0, .nameAndType 35 36), (0, u "java/lang/Math"), (0, u "max"), (0, u "(JJ)J"), (11, .class_ 49), (0, u "java/util/ArrayList"), (0, .methodref 48 3), (0, .methodref 8 52), (0, .nameAndType 5 53), (0, u "(Ljava/lang/String;Lcom/example/lakebed/lakebed/table/FileGroup;JLjava/lang/Long;Z)V"), (0, .interfaceMethodref 55 56), (0, .class_ 57), (0, .nameAndType 58 59), (0, u "java/util/List"), (0, u "add"), (0, u "(Ljava/lang/Object;)Z"), (0, .methodref 61 62), (0, .class_ 63), (0, .nameAndType 64 65), (0, u "java/lang/Long"), (0, u "valueOf"), (0, u "(J)Ljava/lang/Long;"), (9, u "()Z"), (13, u "isChange"), (25, u "MOST_ROWS"), (4, u "group"), (0, u "(Ljava/lang/String;Lcom/example/lakebed/lakebed/table/FileGroup;J)Ljava/util/List;"), (5, u "change"), (0, u "(Ljava/lang/String;Lcom/example/lakebed/lakebed/table/FileGroup;JJ)Lcom/example/lakebed/lakebed/table/PlannedFile;")] 30

def k10c0 : Code := { maxStack := 3, maxLocals := 7, code := prog_84_method_1_code, exceptionTable := #[], attributes := #[] }
def k10m0 : Method := { name := "<init>", desc := "(Ljava/lang/String;Lcom/example/lakebed/lakebed/table/FileGroup;JLjava/lang/Long;Z)V", sig := { parameters := [(.object "java/lang/String"), (.object "com/example/lakebed/lakebed/table/FileGroup"), .long, (.object "java/lang/Long"), .boolean], returnType := none }, accessFlags := 0, code := some k10c0 }
def k10c1 : Code := { maxStack := 9, maxLocals := 12, code := prog_84_method_2_code, exceptionTable := #[], attributes := #[] }
def k10m1 : Method := { name := "group", desc := "(Ljava/lang/String;Lcom/example/lakebed/lakebed/table/FileGroup;J)Ljava/util/List;", sig := { parameters := [(.object "java/lang/String"), (.object "com/example/lakebed/lakebed/table/FileGroup"), .long], returnType := some (.object "java/util/List") }, accessFlags := 8, code := some k10c1 }
def k10c2 : Code := { maxStack := 8, maxLocals := 6, code := prog_84_method_3_code, exceptionTable := #[], attributes := #[] }
def k10m2 : Method := { name := "change", desc := "(Ljava/lang/String;Lcom/example/lakebed/lakebed/table/FileGroup;JJ)Lcom/example/lakebed/lakebed/table/PlannedFile;", sig := { parameters := [(.object "java/lang/String"), (.object "com/example/lakebed/lakebed/table/FileGroup"), .long, .long], returnType := some (.object "com/example/lakebed/lakebed/table/PlannedFile") }, accessFlags := 8, code := some k10c2 }
def k10c3 : Code := { maxStack := 1, maxLocals := 1, code := prog_84_method_5_code, exceptionTable := #[], attributes := #[] }
def k10m3 : Method := { name := "isChange", desc := "()Z", sig := { parameters := [], returnType := some .boolean }, accessFlags := 0, code := some k10c3 }
/-- com/example/lakebed/lakebed/table/PlannedFile -/
def k10 : Class := { plain "com/example/lakebed/lakebed/table/PlannedFile" (some 9) with
  accessFlags := 48
  interfaces := #[]
  cf := some (fileOf pool10 8 #[] #[{ accessFlags := 0, nameIndex := 5, descriptorIndex := 53, attributes := #[] }, { accessFlags := 8, nameIndex := 120, descriptorIndex := 121, attributes := #[] }, { accessFlags := 8, nameIndex := 127, descriptorIndex := 128, attributes := #[] }, { accessFlags := 0, nameIndex := 89, descriptorIndex := 75, attributes := #[] }] 48 2 #[] #[{ accessFlags := 18, nameIndex := 11, descriptorIndex := 12, attributes := #[] }, { accessFlags := 18, nameIndex := 15, descriptorIndex := 16, attributes := #[] }, { accessFlags := 18, nameIndex := 19, descriptorIndex := 20, attributes := #[] }, { accessFlags := 18, nameIndex := 23, descriptorIndex := 24, attributes := #[] }, { accessFlags := 18, nameIndex := 27, descriptorIndex := 28, attributes := #[] }, { accessFlags := 24, nameIndex := 115, descriptorIndex := 20, attributes := #[] }])
  fields := #[{ name := "folder", type := (.object "java/lang/String"), accessFlags := 18, slot := 0, constantValue := 0 }, { name := "of", type := (.object "com/example/lakebed/lakebed/table/FileGroup"), accessFlags := 18, slot := 1, constantValue := 0 }, { name := "rows", type := .long, accessFlags := 18, slot := 2, constantValue := 0 }, { name := "gains", type := (.object "java/lang/Long"), accessFlags := 18, slot := 3, constantValue := 0 }, { name := "spliced", type := .boolean, accessFlags := 18, slot := 4, constantValue := 0 }, { name := "MOST_ROWS", type := .long, accessFlags := 24, slot := 0, constantValue := 0 }]
  methods := #[k10m0, k10m1, k10m2, k10m3]
  instanceTypes := #[(.object "java/lang/String"), (.object "com/example/lakebed/lakebed/table/FileGroup"), .long, (.object "java/lang/Long"), .boolean]
  staticTypes := #[.long]
  resolved := Array.replicate 159 none
  statics := none }

def pool11 : Array CpInfo := pool [(1, .methodref 2 3), (0, .class_ 4), (0, .nameAndType 5 6), (0, u "java/lang/Object"), (0, u "<init>"), (0, u "()V"), (1, .class_ 10), (1, u "java/lang/Number"), (2, .class_ 14), (0, u "java/io/Serializable"), (0, u "serialVersionUID"), (0, u "J")] 20

def k11c0 : Code := { maxStack := 1, maxLocals := 1, code := jdk_18_method_1_code, exceptionTable := #[], attributes := #[] }
def k11m0 : Method := { name := "<init>", desc := "()V", sig := { parameters := [], returnType := none }, accessFlags := 1, code := some k11c0 }
/-- java/lang/Number -/
def k11 : Class := { plain "java/lang/Number" (some 0) with
  accessFlags := 1057
  interfaces := #[2]
  cf := some (fileOf pool11 8 #[] #[{ accessFlags := 1, nameIndex := 5, descriptorIndex := 6, attributes := #[] }] 1057 2 #[13] #[{ accessFlags := 26, nameIndex := 15, descriptorIndex := 16, attributes := #[] }])
  fields := #[{ name := "serialVersionUID", type := .long, accessFlags := 26, slot := 0, constantValue := 0 }]
  methods := #[k11m0]
  instanceTypes := #[]
  staticTypes := #[.long]
  resolved := Array.replicate 37 none
  statics := none }

def pool12 : Array CpInfo := pool [(1, .class_ 2), (0, u "java/lang/Long"), (55, .nameAndType 59 60), (0, u "<init>"), (0, u "()V"), (24, u "valueOf"), (143, u "(J)Ljava/lang/Long;"), (0, .long 18446744073709551488), (1, .long 127), (1, .fieldref 235 236), (0, .class_ 237), (0, .nameAndType 238 239), (0, u "java/lang/Long$LongCache"), (0, u "cache"), (0, u "[Ljava/lang/Long;"), (0, .methodref 1 241), (0, .nameAndType 59 242), (0, u "(J)V"), (27, .methodref 271 58), (0, .class_ 272), (0, u "java/lang/Number"), (0, .fieldref 1 274), (0, .nameAndType 275 276), (0, u "value"), (0, u "J"), (84, u "TYPE"), (0, u "Ljava/lang/Class;"), (0, .class_ 364), (0, u "java/lang/Comparable"), (0, .class_ 366), (0, u "java/lang/constant/Constable"), (0, .class_ 368), (0, u "java/lang/constant/ConstantDesc"), (0, u "MIN_VALUE"), (1, u "MAX_VALUE"), (4, u "SIZE"), (0, u "I"), (1, u "BYTES"), (1, u "serialVersionUID")] 142

def k12c0 : Code := { maxStack := 4, maxLocals := 3, code := jdk_35_method_24_code, exceptionTable := #[], attributes := #[] }
def k12m0 : Method := { name := "valueOf", desc := "(J)Ljava/lang/Long;", sig := { parameters := [.long], returnType := some (.object "java/lang/Long") }, accessFlags := 9, code := some k12c0 }
def k12c1 : Code := { maxStack := 3, maxLocals := 3, code := jdk_35_method_26_code, exceptionTable := #[], attributes := #[] }
def k12m1 : Method := { name := "<init>", desc := "(J)V", sig := { parameters := [.long], returnType := none }, accessFlags := 1, code := some k12c1 }
/-- java/lang/Long -/
def k12 : Class := { plain "java/lang/Long" (some 11) with
  accessFlags := 49
  interfaces := #[3, 5, 6]
  cf := some (fileOf pool12 1 #[.nestMembers #[235]] #[{ accessFlags := 9, nameIndex := 85, descriptorIndex := 229, attributes := #[] }, { accessFlags := 1, nameIndex := 59, descriptorIndex := 242, attributes := #[] }] 49 271 #[363, 365, 367] #[{ accessFlags := 25, nameIndex := 369, descriptorIndex := 276, attributes := #[] }, { accessFlags := 25, nameIndex := 371, descriptorIndex := 276, attributes := #[] }, { accessFlags := 25, nameIndex := 361, descriptorIndex := 362, attributes := #[] }, { accessFlags := 18, nameIndex := 275, descriptorIndex := 276, attributes := #[] }, { accessFlags := 25, nameIndex := 376, descriptorIndex := 377, attributes := #[] }, { accessFlags := 25, nameIndex := 379, descriptorIndex := 377, attributes := #[] }, { accessFlags := 26, nameIndex := 381, descriptorIndex := 276, attributes := #[] }])
  fields := #[{ name := "MIN_VALUE", type := .long, accessFlags := 25, slot := 0, constantValue := 0 }, { name := "MAX_VALUE", type := .long, accessFlags := 25, slot := 1, constantValue := 0 }, { name := "TYPE", type := (.object "java/lang/Class"), accessFlags := 25, slot := 2, constantValue := 0 }, { name := "value", type := .long, accessFlags := 18, slot := 0, constantValue := 0 }, { name := "SIZE", type := .int, accessFlags := 25, slot := 3, constantValue := 0 }, { name := "BYTES", type := .int, accessFlags := 25, slot := 4, constantValue := 0 }, { name := "serialVersionUID", type := .long, accessFlags := 26, slot := 5, constantValue := 0 }]
  methods := #[k12m0, k12m1]
  instanceTypes := #[.long]
  staticTypes := #[.long, .long, (.object "java/lang/Class"), .int, .int, .long]
  resolved := Array.replicate 524 none
  statics := none }

def pool13 : Array CpInfo := pool [(1, .class_ 2), (0, u "java/lang/Math"), (1, .class_ 6), (1, u "java/lang/Object"), (0, u "<init>"), (0, u "()V"), (89, .class_ 100), (1, u "java/lang/Math$RandomNumberGeneratorHolder"), (20, u "(JJ)J"), (50, u "negativeZeroFloatBits"), (0, u "J"), (2, u "negativeZeroDoubleBits"), (21, u "max"), (46, u "$assertionsDisabled"), (0, u "Z"), (88, u "(II)I"), (2, u "twoToTheDoubleScaleDown"), (0, u "D"), (4, u "twoToTheDoubleScaleUp"), (9, u "E"), (3, u "PI"), (2, u "TAU"), (2, u "DEGREES_TO_RADIANS"), (0, u "RADIANS_TO_DEGREES")] 94

def k13m0 : Method := { name := "<init>", desc := "()V", sig := { parameters := [], returnType := none }, accessFlags := 2, code := none }
def k13c1 : Code := { maxStack := 2, maxLocals := 2, code := jdk_29_method_65_code, exceptionTable := #[], attributes := #[] }
def k13m1 : Method := { name := "max", desc := "(II)I", sig := { parameters := [.int, .int], returnType := some .int }, accessFlags := 9, code := some k13c1 }
def k13c2 : Code := { maxStack := 4, maxLocals := 4, code := jdk_29_method_66_code, exceptionTable := #[], attributes := #[] }
def k13m2 : Method := { name := "max", desc := "(JJ)J", sig := { parameters := [.long, .long], returnType := some .long }, accessFlags := 9, code := some k13c2 }
/-- java/lang/Math -/
def k13 : Class := { plain "java/lang/Math" (some 0) with
  accessFlags := 49
  interfaces := #[]
  cf := some (fileOf pool13 1 #[.nestMembers #[98]] #[{ accessFlags := 2, nameIndex := 7, descriptorIndex := 8, attributes := #[] }, { accessFlags := 9, nameIndex := 198, descriptorIndex := 335, attributes := #[] }, { accessFlags := 9, nameIndex := 198, descriptorIndex := 121, attributes := #[] }] 49 4 #[] #[{ accessFlags := 25, nameIndex := 354, descriptorIndex := 339, attributes := #[] }, { accessFlags := 25, nameIndex := 358, descriptorIndex := 339, attributes := #[] }, { accessFlags := 25, nameIndex := 361, descriptorIndex := 339, attributes := #[] }, { accessFlags := 26, nameIndex := 364, descriptorIndex := 339, attributes := #[] }, { accessFlags := 26, nameIndex := 365, descriptorIndex := 339, attributes := #[] }, { accessFlags := 26, nameIndex := 172, descriptorIndex := 173, attributes := #[] }, { accessFlags := 26, nameIndex := 176, descriptorIndex := 173, attributes := #[] }, { accessFlags := 8, nameIndex := 344, descriptorIndex := 339, attributes := #[] }, { accessFlags := 8, nameIndex := 338, descriptorIndex := 339, attributes := #[] }, { accessFlags := 4120, nameIndex := 245, descriptorIndex := 246, attributes := #[] }])
  fields := #[{ name := "E", type := .double, accessFlags := 25, slot := 0, constantValue := 0 }, { name := "PI", type := .double, accessFlags := 25, slot := 1, constantValue := 0 }, { name := "TAU", type := .double, accessFlags := 25, slot := 2, constantValue := 0 }, { name := "DEGREES_TO_RADIANS", type := .double, accessFlags := 26, slot := 3, constantValue := 0 }, { name := "RADIANS_TO_DEGREES", type := .double, accessFlags := 26, slot := 4, constantValue := 0 }, { name := "negativeZeroFloatBits", type := .long, accessFlags := 26, slot := 5, constantValue := 0 }, { name := "negativeZeroDoubleBits", type := .long, accessFlags := 26, slot := 6, constantValue := 0 }, { name := "twoToTheDoubleScaleUp", type := .double, accessFlags := 8, slot := 7, constantValue := 0 }, { name := "twoToTheDoubleScaleDown", type := .double, accessFlags := 8, slot := 8, constantValue := 0 }, { name := "$assertionsDisabled", type := .boolean, accessFlags := 4120, slot := 9, constantValue := 0 }]
  methods := #[k13m0, k13m1, k13m2]
  instanceTypes := #[]
  staticTypes := #[.double, .double, .double, .double, .double, .long, .long, .double, .double, .boolean]
  resolved := Array.replicate 460 none
  statics := none }

def pool14 : Array CpInfo := pool [(8, .class_ 10), (1, u "java/lang/Iterable"), (24, .class_ 36), (0, u "java/lang/Object")] 25

/-- java/lang/Iterable -/
def k14 : Class := { plain "java/lang/Iterable" (some 0) with
  accessFlags := 1537
  interfaces := #[]
  cf := some (fileOf pool14 8 #[] #[] 1537 35 #[] #[])
  fields := #[]
  methods := #[]
  instanceTypes := #[]
  staticTypes := #[]
  resolved := Array.replicate 62 none
  statics := none }

def pool15 : Array CpInfo := pool [(10, .class_ 12), (1, u "java/util/Collection"), (47, .class_ 61), (0, u "java/lang/Object"), (0, .class_ 63), (0, u "java/lang/Iterable")] 51

/-- java/util/Collection -/
def k15 : Class := { plain "java/util/Collection" (some 0) with
  accessFlags := 1537
  interfaces := #[14]
  cf := some (fileOf pool15 10 #[] #[] 1537 60 #[62] #[])
  fields := #[]
  methods := #[]
  instanceTypes := #[]
  staticTypes := #[]
  resolved := Array.replicate 115 none
  statics := none }

def pool16 : Array CpInfo := pool [(1, .methodref 2 3), (0, .class_ 4), (0, .nameAndType 5 6), (0, u "java/lang/Object"), (0, u "<init>"), (0, u "()V"), (1, .class_ 10), (1, u "java/util/AbstractCollection"), (66, .class_ 78), (0, u "java/util/Collection")] 81

def k16c0 : Code := { maxStack := 1, maxLocals := 1, code := jdk_22_method_1_code, exceptionTable := #[], attributes := #[] }
def k16m0 : Method := { name := "<init>", desc := "()V", sig := { parameters := [], returnType := none }, accessFlags := 4, code := some k16c0 }
/-- java/util/AbstractCollection -/
def k16 : Class := { plain "java/util/AbstractCollection" (some 0) with
  accessFlags := 1057
  interfaces := #[15]
  cf := some (fileOf pool16 8 #[] #[{ accessFlags := 4, nameIndex := 5, descriptorIndex := 6, attributes := #[] }] 1057 2 #[77] #[])
  fields := #[]
  methods := #[k16m0]
  instanceTypes := #[]
  staticTypes := #[]
  resolved := Array.replicate 160 none
  statics := none }

def pool17 : Array CpInfo := pool [(8, .class_ 10), (1, u "java/util/SequencedCollection"), (15, .class_ 27), (0, u "java/lang/Object"), (0, .class_ 29), (0, u "java/util/Collection")] 27

/-- java/util/SequencedCollection -/
def k17 : Class := { plain "java/util/SequencedCollection" (some 0) with
  accessFlags := 1537
  interfaces := #[15]
  cf := some (fileOf pool17 8 #[] #[] 1537 26 #[28] #[])
  fields := #[]
  methods := #[]
  instanceTypes := #[]
  staticTypes := #[]
  resolved := Array.replicate 57 none
  statics := none }

def pool18 : Array CpInfo := pool [(8, .class_ 10), (1, u "java/util/List"), (49, u "add"), (3, u "(Ljava/lang/Object;)Z"), (10, u "get"), (0, u "(I)Ljava/lang/Object;"), (26, .class_ 104), (0, u "java/lang/Object"), (15, .class_ 121), (0, u "java/util/SequencedCollection")] 129

def k18m0 : Method := { name := "add", desc := "(Ljava/lang/Object;)Z", sig := { parameters := [(.object "java/lang/Object")], returnType := some .boolean }, accessFlags := 1025, code := none }
def k18m1 : Method := { name := "get", desc := "(I)Ljava/lang/Object;", sig := { parameters := [.int], returnType := some (.object "java/lang/Object") }, accessFlags := 1025, code := none }
/-- java/util/List -/
def k18 : Class := { plain "java/util/List" (some 0) with
  accessFlags := 1537
  interfaces := #[17]
  cf := some (fileOf pool18 8 #[] #[{ accessFlags := 1025, nameIndex := 60, descriptorIndex := 64, attributes := #[] }, { accessFlags := 1025, nameIndex := 75, descriptorIndex := 76, attributes := #[] }] 1537 103 #[120] #[])
  fields := #[]
  methods := #[k18m0, k18m1]
  instanceTypes := #[]
  staticTypes := #[]
  resolved := Array.replicate 251 none
  statics := none }

def pool19 : Array CpInfo := pool [(1, .methodref 2 3), (0, .class_ 4), (0, .nameAndType 5 6), (0, u "java/util/AbstractCollection"), (0, u "<init>"), (0, u "()V"), (0, .fieldref 8 9), (0, .class_ 10), (0, .nameAndType 11 12), (0, u "java/util/AbstractList"), (0, u "modCount"), (0, u "I"), (64, .class_ 78), (0, u "java/util/AbstractList$Itr"), (3, .class_ 83), (0, u "java/util/AbstractList$ListItr"), (9, .class_ 94), (0, u "java/util/AbstractList$RandomAccessSubList"), (3, .class_ 99), (0, u "java/util/AbstractList$SubList"), (33, .class_ 134), (0, u "java/util/List"), (73, .class_ 209), (0, u "java/util/AbstractList$SubList$1"), (0, .class_ 211), (0, u "java/util/AbstractList$RandomAccessSpliterator")] 6

def k19c0 : Code := { maxStack := 2, maxLocals := 1, code := jdk_39_method_1_code, exceptionTable := #[], attributes := #[] }
def k19m0 : Method := { name := "<init>", desc := "()V", sig := { parameters := [], returnType := none }, accessFlags := 4, code := some k19c0 }
/-- java/util/AbstractList -/
def k19 : Class := { plain "java/util/AbstractList" (some 16) with
  accessFlags := 1057
  interfaces := #[18]
  cf := some (fileOf pool19 8 #[.nestMembers #[93, 98, 208, 210, 82, 77]] #[{ accessFlags := 4, nameIndex := 5, descriptorIndex := 6, attributes := #[] }] 1057 2 #[133] #[{ accessFlags := 132, nameIndex := 11, descriptorIndex := 12, attributes := #[] }])
  fields := #[{ name := "modCount", type := .int, accessFlags := 132, slot := 0, constantValue := 0 }]
  methods := #[k19m0]
  instanceTypes := #[.int]
  staticTypes := #[]
  resolved := Array.replicate 218 none
  statics := none }

def pool20 : Array CpInfo := pool [(1, .class_ 2), (0, u "java/util/RandomAccess"), (0, .class_ 4), (0, u "java/lang/Object")] 2

/-- java/util/RandomAccess -/
def k20 : Class := { plain "java/util/RandomAccess" (some 0) with
  accessFlags := 1537
  interfaces := #[]
  cf := some (fileOf pool20 1 #[] #[] 1537 3 #[] #[])
  fields := #[]
  methods := #[]
  instanceTypes := #[]
  staticTypes := #[]
  resolved := Array.replicate 7 none
  statics := none }

def pool21 : Array CpInfo := pool [(1, .class_ 2), (0, u "java/lang/Cloneable"), (0, .class_ 4), (0, u "java/lang/Object")] 2

/-- java/lang/Cloneable -/
def k21 : Class := { plain "java/lang/Cloneable" (some 0) with
  accessFlags := 1537
  interfaces := #[]
  cf := some (fileOf pool21 1 #[] #[] 1537 3 #[] #[])
  fields := #[]
  methods := #[]
  instanceTypes := #[]
  staticTypes := #[]
  resolved := Array.replicate 7 none
  statics := none }

def pool22 : Array CpInfo := pool [(1, .methodref 2 3), (0, .class_ 4), (0, .nameAndType 5 6), (0, u "java/util/AbstractList"), (0, u "<init>"), (0, u "()V"), (0, .class_ 8), (0, u "java/lang/Object"), (0, .fieldref 10 11), (0, .class_ 12), (0, .nameAndType 13 14), (0, u "java/util/ArrayList"), (0, u "elementData"), (0, u "[Ljava/lang/Object;"), (2, u "EMPTY_ELEMENTDATA"), (21, .fieldref 10 40), (0, .nameAndType 41 14), (0, u "DEFAULTCAPACITY_EMPTY_ELEMENTDATA"), (5, u "()[Ljava/lang/Object;"), (0, .fieldref 10 49), (0, .nameAndType 50 51), (0, u "size"), (0, u "I"), (11, .fieldref 10 64), (0, .nameAndType 65 51), (0, u "modCount"), (3, .methodref 10 70), (0, .nameAndType 71 72), (0, u "grow"), (0, u "(I)[Ljava/lang/Object;"), (6, .methodref 80 81), (0, .class_ 82), (0, .nameAndType 83 84), (0, u "java/lang/Math"), (0, u "max"), (0, u "(II)I"), (11, u "(Ljava/lang/Object;)Z"), (21, .methodref 119 120), (0, .class_ 121), (0, .nameAndType 122 84), (0, u "java/util/Objects"), (0, u "checkIndex"), (0, .methodref 10 124), (0, .nameAndType 13 125), (0, u "(I)Ljava/lang/Object;"), (3, .methodref 10 130), (0, .nameAndType 71 47), (0, .methodref 10 132), (0, .nameAndType 133 134), (0, u "add"), (0, u "(Ljava/lang/Object;[Ljava/lang/Object;I)V"), (13, .class_ 149), (0, u "java/util/List"), (112, .class_ 263), (0, u "java/util/ArrayList$ListItr"), (3, .class_ 268), (0, u "java/util/ArrayList$Itr"), (7, .class_ 277), (0, u "java/util/ArrayList$SubList"), (12, .class_ 291), (0, u "java/util/ArrayList$ArrayListSpliterator"), (37, .class_ 330), (0, u "java/util/RandomAccess"), (0, .class_ 332), (0, u "java/lang/Cloneable"), (0, .class_ 334), (0, u "java/io/Serializable"), (0, u "serialVersionUID"), (0, u "J"), (3, u "DEFAULT_CAPACITY"), (40, u "get"), (118, .class_ 501), (0, u "java/util/ArrayList$SubList$2"), (0, .class_ 503), (0, u "java/util/ArrayList$SubList$1")] 5

def k22c0 : Code := { maxStack := 2, maxLocals := 1, code := jdk_38_method_2_code, exceptionTable := #[], attributes := #[] }
def k22m0 : Method := { name := "<init>", desc := "()V", sig := { parameters := [], returnType := none }, accessFlags := 1, code := some k22c0 }
def k22c1 : Code := { maxStack := 4, maxLocals := 4, code := jdk_38_method_6_code, exceptionTable := #[], attributes := #[] }
def k22m1 : Method := { name := "grow", desc := "(I)[Ljava/lang/Object;", sig := { parameters := [.int], returnType := some (.array (.object "java/lang/Object")) }, accessFlags := 2, code := some k22c1 }
def k22c2 : Code := { maxStack := 3, maxLocals := 1, code := jdk_38_method_7_code, exceptionTable := #[], attributes := #[] }
def k22m2 : Method := { name := "grow", desc := "()[Ljava/lang/Object;", sig := { parameters := [], returnType := some (.array (.object "java/lang/Object")) }, accessFlags := 2, code := some k22c2 }
def k22c3 : Code := { maxStack := 2, maxLocals := 2, code := jdk_38_method_18_code, exceptionTable := #[], attributes := #[] }
def k22m3 : Method := { name := "elementData", desc := "(I)Ljava/lang/Object;", sig := { parameters := [.int], returnType := some (.object "java/lang/Object") }, accessFlags := 0, code := some k22c3 }
def k22c4 : Code := { maxStack := 2, maxLocals := 2, code := jdk_38_method_20_code, exceptionTable := #[], attributes := #[] }
def k22m4 : Method := { name := "get", desc := "(I)Ljava/lang/Object;", sig := { parameters := [.int], returnType := some (.object "java/lang/Object") }, accessFlags := 1, code := some k22c4 }
def k22c5 : Code := { maxStack := 3, maxLocals := 4, code := jdk_38_method_24_code, exceptionTable := #[], attributes := #[] }
def k22m5 : Method := { name := "add", desc := "(Ljava/lang/Object;[Ljava/lang/Object;I)V", sig := { parameters := [(.object "java/lang/Object"), (.array (.object "java/lang/Object")), .int], returnType := none }, accessFlags := 2, code := some k22c5 }
def k22c6 : Code := { maxStack := 4, maxLocals := 2, code := jdk_38_method_25_code, exceptionTable := #[], attributes := #[] }
def k22m6 : Method := { name := "add", desc := "(Ljava/lang/Object;)Z", sig := { parameters := [(.object "java/lang/Object")], returnType := some .boolean }, accessFlags := 1, code := some k22c6 }
/-- java/util/ArrayList -/
def k22 : Class := { plain "java/util/ArrayList" (some 19) with
  accessFlags := 33
  interfaces := #[18, 20, 21, 2]
  cf := some (fileOf pool22 10 #[.nestMembers #[290, 276, 500, 502, 262, 267]] #[{ accessFlags := 1, nameIndex := 5, descriptorIndex := 6, attributes := #[] }, { accessFlags := 2, nameIndex := 71, descriptorIndex := 72, attributes := #[] }, { accessFlags := 2, nameIndex := 71, descriptorIndex := 47, attributes := #[] }, { accessFlags := 0, nameIndex := 13, descriptorIndex := 125, attributes := #[] }, { accessFlags := 1, nameIndex := 381, descriptorIndex := 125, attributes := #[] }, { accessFlags := 2, nameIndex := 133, descriptorIndex := 134, attributes := #[] }, { accessFlags := 1, nameIndex := 133, descriptorIndex := 96, attributes := #[] }] 33 2 #[148, 329, 331, 333] #[{ accessFlags := 26, nameIndex := 335, descriptorIndex := 336, attributes := #[] }, { accessFlags := 26, nameIndex := 340, descriptorIndex := 51, attributes := #[] }, { accessFlags := 26, nameIndex := 17, descriptorIndex := 14, attributes := #[] }, { accessFlags := 26, nameIndex := 41, descriptorIndex := 14, attributes := #[] }, { accessFlags := 128, nameIndex := 13, descriptorIndex := 14, attributes := #[] }, { accessFlags := 2, nameIndex := 50, descriptorIndex := 51, attributes := #[] }])
  fields := #[{ name := "serialVersionUID", type := .long, accessFlags := 26, slot := 0, constantValue := 0 }, { name := "DEFAULT_CAPACITY", type := .int, accessFlags := 26, slot := 1, constantValue := 0 }, { name := "EMPTY_ELEMENTDATA", type := (.array (.object "java/lang/Object")), accessFlags := 26, slot := 2, constantValue := 0 }, { name := "DEFAULTCAPACITY_EMPTY_ELEMENTDATA", type := (.array (.object "java/lang/Object")), accessFlags := 26, slot := 3, constantValue := 0 }, { name := "elementData", type := (.array (.object "java/lang/Object")), accessFlags := 128, slot := 1, constantValue := 0 }, { name := "size", type := .int, accessFlags := 2, slot := 2, constantValue := 0 }]
  methods := #[k22m0, k22m1, k22m2, k22m3, k22m4, k22m5, k22m6]
  instanceTypes := #[.int, (.array (.object "java/lang/Object")), .int]
  staticTypes := #[.long, .int, (.array (.object "java/lang/Object")), (.array (.object "java/lang/Object"))]
  resolved := Array.replicate 509 none
  statics := some 1 }

def pool23 : Array CpInfo := pool [(2, .class_ 4), (1, u "java/lang/Object"), (0, u "<init>"), (0, u "()V"), (35, .class_ 44), (1, u "java/util/Objects"), (60, .methodref 106 107), (0, .class_ 108), (0, .nameAndType 109 110), (0, u "jdk/internal/util/Preconditions"), (0, u "checkIndex"), (0, u "(IILjava/util/function/BiFunction;)I"), (60, u "(II)I")] 12

def k23m0 : Method := { name := "<init>", desc := "()V", sig := { parameters := [], returnType := none }, accessFlags := 2, code := none }
def k23c1 : Code := { maxStack := 3, maxLocals := 2, code := jdk_31_method_17_code, exceptionTable := #[], attributes := #[] }
def k23m1 : Method := { name := "checkIndex", desc := "(II)I", sig := { parameters := [.int, .int], returnType := some .int }, accessFlags := 9, code := some k23c1 }
/-- java/util/Objects -/
def k23 : Class := { plain "java/util/Objects" (some 0) with
  accessFlags := 49
  interfaces := #[]
  cf := some (fileOf pool23 42 #[] #[{ accessFlags := 2, nameIndex := 5, descriptorIndex := 6, attributes := #[] }, { accessFlags := 9, nameIndex := 109, descriptorIndex := 171, attributes := #[] }] 49 2 #[] #[])
  fields := #[]
  methods := #[k23m0, k23m1]
  instanceTypes := #[]
  staticTypes := #[]
  resolved := Array.replicate 184 none
  statics := none }

def pool24 : Array CpInfo := pool [(2, .class_ 4), (1, u "java/lang/Object"), (0, u "<init>"), (0, u "()V"), (17, .class_ 26), (1, u "jdk/internal/util/Preconditions"), (6, u "checkIndex"), (21, .class_ 56), (0, u "jdk/internal/util/Preconditions$4"), (57, .class_ 115), (0, u "jdk/internal/util/Preconditions$1"), (7, u "SIOOBE_FORMATTER"), (0, u "Ljava/util/function/BiFunction;"), (0, .class_ 126), (0, u "jdk/internal/util/Preconditions$2"), (3, u "AIOOBE_FORMATTER"), (0, .class_ 132), (0, u "jdk/internal/util/Preconditions$3"), (3, u "IOOBE_FORMATTER"), (41, u "(IILjava/util/function/BiFunction;)I")] 15

def k24m0 : Method := { name := "<init>", desc := "()V", sig := { parameters := [], returnType := none }, accessFlags := 1, code := none }
def k24c1 : Code := { maxStack := 3, maxLocals := 3, code := jdk_41_method_11_code, exceptionTable := #[], attributes := #[] }
def k24m1 : Method := { name := "checkIndex", desc := "(IILjava/util/function/BiFunction;)I", sig := { parameters := [.int, .int, (.object "java/util/function/BiFunction")], returnType := some .int }, accessFlags := 9, code := some k24c1 }
/-- jdk/internal/util/Preconditions -/
def k24 : Class := { plain "jdk/internal/util/Preconditions" (some 0) with
  accessFlags := 33
  interfaces := #[]
  cf := some (fileOf pool24 24 #[.nestMembers #[55, 131, 125, 114]] #[{ accessFlags := 1, nameIndex := 5, descriptorIndex := 6, attributes := #[] }, { accessFlags := 9, nameIndex := 33, descriptorIndex := 178, attributes := #[] }] 33 2 #[] #[{ accessFlags := 25, nameIndex := 123, descriptorIndex := 124, attributes := #[] }, { accessFlags := 25, nameIndex := 130, descriptorIndex := 124, attributes := #[] }, { accessFlags := 25, nameIndex := 136, descriptorIndex := 124, attributes := #[] }])
  fields := #[{ name := "SIOOBE_FORMATTER", type := (.object "java/util/function/BiFunction"), accessFlags := 25, slot := 0, constantValue := 0 }, { name := "AIOOBE_FORMATTER", type := (.object "java/util/function/BiFunction"), accessFlags := 25, slot := 1, constantValue := 0 }, { name := "IOOBE_FORMATTER", type := (.object "java/util/function/BiFunction"), accessFlags := 25, slot := 2, constantValue := 0 }]
  methods := #[k24m0, k24m1]
  instanceTypes := #[]
  staticTypes := #[(.object "java/util/function/BiFunction"), (.object "java/util/function/BiFunction"), (.object "java/util/function/BiFunction")]
  resolved := Array.replicate 194 none
  statics := some 2 }

def pool25 : Array CpInfo := pool [(2, .class_ 4), (1, u "java/lang/Object"), (0, u "<init>"), (0, u "()V"), (0, .class_ 8), (0, u "java/lang/Long"), (7, .class_ 18), (1, u "java/lang/Long$LongCache"), (0, u "$assertionsDisabled"), (0, u "Z"), (8, u "archivedCache"), (0, u "[Ljava/lang/Long;"), (7, u "cache")] 24

def k25m0 : Method := { name := "<init>", desc := "()V", sig := { parameters := [], returnType := none }, accessFlags := 2, code := none }
/-- java/lang/Long$LongCache -/
def k25 : Class := { plain "java/lang/Long$LongCache" (some 0) with
  accessFlags := 48
  interfaces := #[]
  cf := some (fileOf pool25 16 #[.nestHost 7] #[{ accessFlags := 2, nameIndex := 5, descriptorIndex := 6, attributes := #[] }] 48 2 #[] #[{ accessFlags := 24, nameIndex := 38, descriptorIndex := 30, attributes := #[] }, { accessFlags := 8, nameIndex := 29, descriptorIndex := 30, attributes := #[] }, { accessFlags := 4120, nameIndex := 19, descriptorIndex := 20, attributes := #[] }])
  fields := #[{ name := "cache", type := (.array (.object "java/lang/Long")), accessFlags := 24, slot := 0, constantValue := 0 }, { name := "archivedCache", type := (.array (.object "java/lang/Long")), accessFlags := 8, slot := 1, constantValue := 0 }, { name := "$assertionsDisabled", type := .boolean, accessFlags := 4120, slot := 2, constantValue := 0 }]
  methods := #[k25m0]
  instanceTypes := #[]
  staticTypes := #[(.array (.object "java/lang/Long")), (.array (.object "java/lang/Long")), .boolean]
  resolved := Array.replicate 63 none
  statics := some 3 }

def pool26 : Array CpInfo := pool [(4, .class_ 6), (1, u "java/lang/Object"), (0, u "<init>"), (0, u "()V"), (5, .class_ 16), (1, u "java/lang/StringLatin1"), (104, u "$assertionsDisabled"), (0, u "Z"), (98, .class_ 223), (1, u "java/lang/StringLatin1$LinesSpliterator"), (166, .class_ 391), (0, u "java/lang/StringLatin1$CharsSpliterator")] 3

def k26m0 : Method := { name := "<init>", desc := "()V", sig := { parameters := [], returnType := none }, accessFlags := 0, code := none }
/-- java/lang/StringLatin1 -/
def k26 : Class := { plain "java/lang/StringLatin1" (some 0) with
  accessFlags := 48
  interfaces := #[]
  cf := some (fileOf pool26 14 #[.nestMembers #[390, 221]] #[{ accessFlags := 0, nameIndex := 7, descriptorIndex := 8, attributes := #[] }] 48 4 #[] #[{ accessFlags := 4120, nameIndex := 121, descriptorIndex := 122, attributes := #[] }])
  fields := #[{ name := "$assertionsDisabled", type := .boolean, accessFlags := 4120, slot := 0, constantValue := 0 }]
  methods := #[k26m0]
  instanceTypes := #[]
  staticTypes := #[.boolean]
  resolved := Array.replicate 395 none
  statics := none }

def pool27 : Array CpInfo := pool [(9, u "<init>"), (6, .class_ 18), (1, u "java/lang/Object"), (0, u "()V"), (1, .class_ 23), (1, u "jdk/internal/util/ArraysSupport"), (0, u "LOG2_ARRAY_LONG_INDEX_SCALE"), (0, u "I"), (2, u "U"), (0, u "Ljdk/internal/misc/Unsafe;"), (8, u "BIG_ENDIAN"), (0, u "Z"), (8, u "LOG2_BYTE_BIT_SIZE"), (4, u "LOG2_ARRAY_INT_INDEX_SCALE"), (54, u "JLA"), (0, u "Ljdk/internal/access/JavaLangAccess;"), (11, u "LOG2_ARRAY_BOOLEAN_INDEX_SCALE"), (9, u "LOG2_ARRAY_BYTE_INDEX_SCALE"), (5, u "LOG2_ARRAY_CHAR_INDEX_SCALE"), (5, u "LOG2_ARRAY_SHORT_INDEX_SCALE"), (18, u "LOG2_ARRAY_FLOAT_INDEX_SCALE"), (24, u "LOG2_ARRAY_DOUBLE_INDEX_SCALE"), (89, u "T_BOOLEAN"), (2, u "T_CHAR"), (1, u "T_FLOAT"), (1, u "T_DOUBLE"), (1, u "T_BYTE"), (1, u "T_SHORT"), (1, u "T_INT"), (1, u "T_LONG"), (1, u "SOFT_MAX_ARRAY_LENGTH")] 83

def k27m0 : Method := { name := "<init>", desc := "()V", sig := { parameters := [], returnType := none }, accessFlags := 2, code := none }
/-- jdk/internal/util/ArraysSupport -/
def k27 : Class := { plain "jdk/internal/util/ArraysSupport" (some 0) with
  accessFlags := 33
  interfaces := #[]
  cf := some (fileOf pool27 21 #[] #[{ accessFlags := 2, nameIndex := 9, descriptorIndex := 19, attributes := #[] }] 33 16 #[] #[{ accessFlags := 24, nameIndex := 28, descriptorIndex := 29, attributes := #[] }, { accessFlags := 26, nameIndex := 38, descriptorIndex := 39, attributes := #[] }, { accessFlags := 25, nameIndex := 121, descriptorIndex := 25, attributes := #[] }, { accessFlags := 25, nameIndex := 131, descriptorIndex := 25, attributes := #[] }, { accessFlags := 25, nameIndex := 137, descriptorIndex := 25, attributes := #[] }, { accessFlags := 25, nameIndex := 143, descriptorIndex := 25, attributes := #[] }, { accessFlags := 25, nameIndex := 53, descriptorIndex := 25, attributes := #[] }, { accessFlags := 25, nameIndex := 24, descriptorIndex := 25, attributes := #[] }, { accessFlags := 25, nameIndex := 162, descriptorIndex := 25, attributes := #[] }, { accessFlags := 25, nameIndex := 187, descriptorIndex := 25, attributes := #[] }, { accessFlags := 26, nameIndex := 48, descriptorIndex := 25, attributes := #[] }, { accessFlags := 25, nameIndex := 277, descriptorIndex := 25, attributes := #[] }, { accessFlags := 25, nameIndex := 280, descriptorIndex := 25, attributes := #[] }, { accessFlags := 25, nameIndex := 282, descriptorIndex := 25, attributes := #[] }, { accessFlags := 25, nameIndex := 284, descriptorIndex := 25, attributes := #[] }, { accessFlags := 25, nameIndex := 286, descriptorIndex := 25, attributes := #[] }, { accessFlags := 25, nameIndex := 288, descriptorIndex := 25, attributes := #[] }, { accessFlags := 25, nameIndex := 290, descriptorIndex := 25, attributes := #[] }, { accessFlags := 25, nameIndex := 292, descriptorIndex := 25, attributes := #[] }, { accessFlags := 26, nameIndex := 108, descriptorIndex := 109, attributes := #[] }, { accessFlags := 25, nameIndex := 294, descriptorIndex := 25, attributes := #[] }])
  fields := #[{ name := "U", type := (.object "jdk/internal/misc/Unsafe"), accessFlags := 24, slot := 0, constantValue := 0 }, { name := "BIG_ENDIAN", type := .boolean, accessFlags := 26, slot := 1, constantValue := 0 }, { name := "LOG2_ARRAY_BOOLEAN_INDEX_SCALE", type := .int, accessFlags := 25, slot := 2, constantValue := 0 }, { name := "LOG2_ARRAY_BYTE_INDEX_SCALE", type := .int, accessFlags := 25, slot := 3, constantValue := 0 }, { name := "LOG2_ARRAY_CHAR_INDEX_SCALE", type := .int, accessFlags := 25, slot := 4, constantValue := 0 }, { name := "LOG2_ARRAY_SHORT_INDEX_SCALE", type := .int, accessFlags := 25, slot := 5, constantValue := 0 }, { name := "LOG2_ARRAY_INT_INDEX_SCALE", type := .int, accessFlags := 25, slot := 6, constantValue := 0 }, { name := "LOG2_ARRAY_LONG_INDEX_SCALE", type := .int, accessFlags := 25, slot := 7, constantValue := 0 }, { name := "LOG2_ARRAY_FLOAT_INDEX_SCALE", type := .int, accessFlags := 25, slot := 8, constantValue := 0 }, { name := "LOG2_ARRAY_DOUBLE_INDEX_SCALE", type := .int, accessFlags := 25, slot := 9, constantValue := 0 }, { name := "LOG2_BYTE_BIT_SIZE", type := .int, accessFlags := 26, slot := 10, constantValue := 0 }, { name := "T_BOOLEAN", type := .int, accessFlags := 25, slot := 11, constantValue := 0 }, { name := "T_CHAR", type := .int, accessFlags := 25, slot := 12, constantValue := 0 }, { name := "T_FLOAT", type := .int, accessFlags := 25, slot := 13, constantValue := 0 }, { name := "T_DOUBLE", type := .int, accessFlags := 25, slot := 14, constantValue := 0 }, { name := "T_BYTE", type := .int, accessFlags := 25, slot := 15, constantValue := 0 }, { name := "T_SHORT", type := .int, accessFlags := 25, slot := 16, constantValue := 0 }, { name := "T_INT", type := .int, accessFlags := 25, slot := 17, constantValue := 0 }, { name := "T_LONG", type := .int, accessFlags := 25, slot := 18, constantValue := 0 }, { name := "JLA", type := (.object "jdk/internal/access/JavaLangAccess"), accessFlags := 26, slot := 19, constantValue := 0 }, { name := "SOFT_MAX_ARRAY_LENGTH", type := .int, accessFlags := 25, slot := 20, constantValue := 0 }]
  methods := #[k27m0]
  instanceTypes := #[]
  staticTypes := #[(.object "jdk/internal/misc/Unsafe"), .boolean, .int, .int, .int, .int, .int, .int, .int, .int, .int, .int, .int, .int, .int, .int, .int, .int, .int, (.object "jdk/internal/access/JavaLangAccess"), .int]
  resolved := Array.replicate 378 none
  statics := none }

/-- the primitive byte -/
def k28 : Class := { plain "byte" none with kind := .primitive 'B', accessFlags := 0x411 }
/-- [B -/
def k29 : Class := { plain "[B" (some 0) with kind := .array 28 .byte, interfaces := #[21, 2], accessFlags := 1041 }

/-- the primitive char -/
def k30 : Class := { plain "char" none with kind := .primitive 'C', accessFlags := 0x411 }
/-- [C -/
def k31 : Class := { plain "[C" (some 0) with kind := .array 30 .char, interfaces := #[21, 2], accessFlags := 1041 }

/-- the primitive int -/
def k32 : Class := { plain "int" none with kind := .primitive 'I', accessFlags := 0x411 }
/-- [I -/
def k33 : Class := { plain "[I" (some 0) with kind := .array 32 .int, interfaces := #[21, 2], accessFlags := 1041 }

/-- [Ljava/lang/Long; -/
def k34 : Class := { plain "[Ljava/lang/Long;" (some 0) with kind := .array 12 (.object "java/lang/Long"), interfaces := #[21, 2], accessFlags := 1041 }

/-- [Ljava/lang/Object; -/
def k35 : Class := { plain "[Ljava/lang/Object;" (some 0) with kind := .array 0 (.object "java/lang/Object"), interfaces := #[21, 2], accessFlags := 1041 }

def heap : Heap := #[{ cls := 7, slots := #[.long 0, .int 1, .null, .int 0, .null, .int 0, .int 0], vm := .statics 7 },
  { cls := 22, slots := #[.long 0, .int 0, .ref 261, .ref 262], vm := .statics 22 },
  { cls := 24, slots := #[.null, .null, .null], vm := .statics 24 },
  { cls := 25, slots := #[.ref 4, .null, .int 0], vm := .statics 25 },
  { cls := 34, slots := #[.ref 5, .ref 6, .ref 7, .ref 8, .ref 9, .ref 10, .ref 11, .ref 12, .ref 13, .ref 14, .ref 15, .ref 16, .ref 17, .ref 18, .ref 19, .ref 20, .ref 21, .ref 22, .ref 23, .ref 24, .ref 25, .ref 26, .ref 27, .ref 28, .ref 29, .ref 30, .ref 31, .ref 32, .ref 33, .ref 34, .ref 35, .ref 36, .ref 37, .ref 38, .ref 39, .ref 40, .ref 41, .ref 42, .ref 43, .ref 44, .ref 45, .ref 46, .ref 47, .ref 48, .ref 49, .ref 50, .ref 51, .ref 52, .ref 53, .ref 54, .ref 55, .ref 56, .ref 57, .ref 58, .ref 59, .ref 60, .ref 61, .ref 62, .ref 63, .ref 64, .ref 65, .ref 66, .ref 67, .ref 68, .ref 69, .ref 70, .ref 71, .ref 72, .ref 73, .ref 74, .ref 75, .ref 76, .ref 77, .ref 78, .ref 79, .ref 80, .ref 81, .ref 82, .ref 83, .ref 84, .ref 85, .ref 86, .ref 87, .ref 88, .ref 89, .ref 90, .ref 91, .ref 92, .ref 93, .ref 94, .ref 95, .ref 96, .ref 97, .ref 98, .ref 99, .ref 100, .ref 101, .ref 102, .ref 103, .ref 104, .ref 105, .ref 106, .ref 107, .ref 108, .ref 109, .ref 110, .ref 111, .ref 112, .ref 113, .ref 114, .ref 115, .ref 116, .ref 117, .ref 118, .ref 119, .ref 120, .ref 121, .ref 122, .ref 123, .ref 124, .ref 125, .ref 126, .ref 127, .ref 128, .ref 129, .ref 130, .ref 131, .ref 132, .ref 133, .ref 134, .ref 135, .ref 136, .ref 137, .ref 138, .ref 139, .ref 140, .ref 141, .ref 142, .ref 143, .ref 144, .ref 145, .ref 146, .ref 147, .ref 148, .ref 149, .ref 150, .ref 151, .ref 152, .ref 153, .ref 154, .ref 155, .ref 156, .ref 157, .ref 158, .ref 159, .ref 160, .ref 161, .ref 162, .ref 163, .ref 164, .ref 165, .ref 166, .ref 167, .ref 168, .ref 169, .ref 170, .ref 171, .ref 172, .ref 173, .ref 174, .ref 175, .ref 176, .ref 177, .ref 178, .ref 179, .ref 180, .ref 181, .ref 182, .ref 183, .ref 184, .ref 185, .ref 186, .ref 187, .ref 188, .ref 189, .ref 190, .ref 191, .ref 192, .ref 193, .ref 194, .ref 195, .ref 196, .ref 197, .ref 198, .ref 199, .ref 200, .ref 201, .ref 202, .ref 203, .ref 204, .ref 205, .ref 206, .ref 207, .ref 208, .ref 209, .ref 210, .ref 211, .ref 212, .ref 213, .ref 214, .ref 215, .ref 216, .ref 217, .ref 218, .ref 219, .ref 220, .ref 221, .ref 222, .ref 223, .ref 224, .ref 225, .ref 226, .ref 227, .ref 228, .ref 229, .ref 230, .ref 231, .ref 232, .ref 233, .ref 234, .ref 235, .ref 236, .ref 237, .ref 238, .ref 239, .ref 240, .ref 241, .ref 242, .ref 243, .ref 244, .ref 245, .ref 246, .ref 247, .ref 248, .ref 249, .ref 250, .ref 251, .ref 252, .ref 253, .ref 254, .ref 255, .ref 256, .ref 257, .ref 258, .ref 259, .ref 260], vm := .none },
  { cls := 12, slots := #[.long (-128)], vm := .none },
  { cls := 12, slots := #[.long (-127)], vm := .none },
  { cls := 12, slots := #[.long (-126)], vm := .none },
  { cls := 12, slots := #[.long (-125)], vm := .none },
  { cls := 12, slots := #[.long (-124)], vm := .none },
  { cls := 12, slots := #[.long (-123)], vm := .none },
  { cls := 12, slots := #[.long (-122)], vm := .none },
  { cls := 12, slots := #[.long (-121)], vm := .none },
  { cls := 12, slots := #[.long (-120)], vm := .none },
  { cls := 12, slots := #[.long (-119)], vm := .none },
  { cls := 12, slots := #[.long (-118)], vm := .none },
  { cls := 12, slots := #[.long (-117)], vm := .none },
  { cls := 12, slots := #[.long (-116)], vm := .none },
  { cls := 12, slots := #[.long (-115)], vm := .none },
  { cls := 12, slots := #[.long (-114)], vm := .none },
  { cls := 12, slots := #[.long (-113)], vm := .none },
  { cls := 12, slots := #[.long (-112)], vm := .none },
  { cls := 12, slots := #[.long (-111)], vm := .none },
  { cls := 12, slots := #[.long (-110)], vm := .none },
  { cls := 12, slots := #[.long (-109)], vm := .none },
  { cls := 12, slots := #[.long (-108)], vm := .none },
  { cls := 12, slots := #[.long (-107)], vm := .none },
  { cls := 12, slots := #[.long (-106)], vm := .none },
  { cls := 12, slots := #[.long (-105)], vm := .none },
  { cls := 12, slots := #[.long (-104)], vm := .none },
  { cls := 12, slots := #[.long (-103)], vm := .none },
  { cls := 12, slots := #[.long (-102)], vm := .none },
  { cls := 12, slots := #[.long (-101)], vm := .none },
  { cls := 12, slots := #[.long (-100)], vm := .none },
  { cls := 12, slots := #[.long (-99)], vm := .none },
  { cls := 12, slots := #[.long (-98)], vm := .none },
  { cls := 12, slots := #[.long (-97)], vm := .none },
  { cls := 12, slots := #[.long (-96)], vm := .none },
  { cls := 12, slots := #[.long (-95)], vm := .none },
  { cls := 12, slots := #[.long (-94)], vm := .none },
  { cls := 12, slots := #[.long (-93)], vm := .none },
  { cls := 12, slots := #[.long (-92)], vm := .none },
  { cls := 12, slots := #[.long (-91)], vm := .none },
  { cls := 12, slots := #[.long (-90)], vm := .none },
  { cls := 12, slots := #[.long (-89)], vm := .none },
  { cls := 12, slots := #[.long (-88)], vm := .none },
  { cls := 12, slots := #[.long (-87)], vm := .none },
  { cls := 12, slots := #[.long (-86)], vm := .none },
  { cls := 12, slots := #[.long (-85)], vm := .none },
  { cls := 12, slots := #[.long (-84)], vm := .none },
  { cls := 12, slots := #[.long (-83)], vm := .none },
  { cls := 12, slots := #[.long (-82)], vm := .none },
  { cls := 12, slots := #[.long (-81)], vm := .none },
  { cls := 12, slots := #[.long (-80)], vm := .none },
  { cls := 12, slots := #[.long (-79)], vm := .none },
  { cls := 12, slots := #[.long (-78)], vm := .none },
  { cls := 12, slots := #[.long (-77)], vm := .none },
  { cls := 12, slots := #[.long (-76)], vm := .none },
  { cls := 12, slots := #[.long (-75)], vm := .none },
  { cls := 12, slots := #[.long (-74)], vm := .none },
  { cls := 12, slots := #[.long (-73)], vm := .none },
  { cls := 12, slots := #[.long (-72)], vm := .none },
  { cls := 12, slots := #[.long (-71)], vm := .none },
  { cls := 12, slots := #[.long (-70)], vm := .none },
  { cls := 12, slots := #[.long (-69)], vm := .none },
  { cls := 12, slots := #[.long (-68)], vm := .none },
  { cls := 12, slots := #[.long (-67)], vm := .none },
  { cls := 12, slots := #[.long (-66)], vm := .none },
  { cls := 12, slots := #[.long (-65)], vm := .none },
  { cls := 12, slots := #[.long (-64)], vm := .none },
  { cls := 12, slots := #[.long (-63)], vm := .none },
  { cls := 12, slots := #[.long (-62)], vm := .none },
  { cls := 12, slots := #[.long (-61)], vm := .none },
  { cls := 12, slots := #[.long (-60)], vm := .none },
  { cls := 12, slots := #[.long (-59)], vm := .none },
  { cls := 12, slots := #[.long (-58)], vm := .none },
  { cls := 12, slots := #[.long (-57)], vm := .none },
  { cls := 12, slots := #[.long (-56)], vm := .none },
  { cls := 12, slots := #[.long (-55)], vm := .none },
  { cls := 12, slots := #[.long (-54)], vm := .none },
  { cls := 12, slots := #[.long (-53)], vm := .none },
  { cls := 12, slots := #[.long (-52)], vm := .none },
  { cls := 12, slots := #[.long (-51)], vm := .none },
  { cls := 12, slots := #[.long (-50)], vm := .none },
  { cls := 12, slots := #[.long (-49)], vm := .none },
  { cls := 12, slots := #[.long (-48)], vm := .none },
  { cls := 12, slots := #[.long (-47)], vm := .none },
  { cls := 12, slots := #[.long (-46)], vm := .none },
  { cls := 12, slots := #[.long (-45)], vm := .none },
  { cls := 12, slots := #[.long (-44)], vm := .none },
  { cls := 12, slots := #[.long (-43)], vm := .none },
  { cls := 12, slots := #[.long (-42)], vm := .none },
  { cls := 12, slots := #[.long (-41)], vm := .none },
  { cls := 12, slots := #[.long (-40)], vm := .none },
  { cls := 12, slots := #[.long (-39)], vm := .none },
  { cls := 12, slots := #[.long (-38)], vm := .none },
  { cls := 12, slots := #[.long (-37)], vm := .none },
  { cls := 12, slots := #[.long (-36)], vm := .none },
  { cls := 12, slots := #[.long (-35)], vm := .none },
  { cls := 12, slots := #[.long (-34)], vm := .none },
  { cls := 12, slots := #[.long (-33)], vm := .none },
  { cls := 12, slots := #[.long (-32)], vm := .none },
  { cls := 12, slots := #[.long (-31)], vm := .none },
  { cls := 12, slots := #[.long (-30)], vm := .none },
  { cls := 12, slots := #[.long (-29)], vm := .none },
  { cls := 12, slots := #[.long (-28)], vm := .none },
  { cls := 12, slots := #[.long (-27)], vm := .none },
  { cls := 12, slots := #[.long (-26)], vm := .none },
  { cls := 12, slots := #[.long (-25)], vm := .none },
  { cls := 12, slots := #[.long (-24)], vm := .none },
  { cls := 12, slots := #[.long (-23)], vm := .none },
  { cls := 12, slots := #[.long (-22)], vm := .none },
  { cls := 12, slots := #[.long (-21)], vm := .none },
  { cls := 12, slots := #[.long (-20)], vm := .none },
  { cls := 12, slots := #[.long (-19)], vm := .none },
  { cls := 12, slots := #[.long (-18)], vm := .none },
  { cls := 12, slots := #[.long (-17)], vm := .none },
  { cls := 12, slots := #[.long (-16)], vm := .none },
  { cls := 12, slots := #[.long (-15)], vm := .none },
  { cls := 12, slots := #[.long (-14)], vm := .none },
  { cls := 12, slots := #[.long (-13)], vm := .none },
  { cls := 12, slots := #[.long (-12)], vm := .none },
  { cls := 12, slots := #[.long (-11)], vm := .none },
  { cls := 12, slots := #[.long (-10)], vm := .none },
  { cls := 12, slots := #[.long (-9)], vm := .none },
  { cls := 12, slots := #[.long (-8)], vm := .none },
  { cls := 12, slots := #[.long (-7)], vm := .none },
  { cls := 12, slots := #[.long (-6)], vm := .none },
  { cls := 12, slots := #[.long (-5)], vm := .none },
  { cls := 12, slots := #[.long (-4)], vm := .none },
  { cls := 12, slots := #[.long (-3)], vm := .none },
  { cls := 12, slots := #[.long (-2)], vm := .none },
  { cls := 12, slots := #[.long (-1)], vm := .none },
  { cls := 12, slots := #[.long (0)], vm := .none },
  { cls := 12, slots := #[.long (1)], vm := .none },
  { cls := 12, slots := #[.long (2)], vm := .none },
  { cls := 12, slots := #[.long (3)], vm := .none },
  { cls := 12, slots := #[.long (4)], vm := .none },
  { cls := 12, slots := #[.long (5)], vm := .none },
  { cls := 12, slots := #[.long (6)], vm := .none },
  { cls := 12, slots := #[.long (7)], vm := .none },
  { cls := 12, slots := #[.long (8)], vm := .none },
  { cls := 12, slots := #[.long (9)], vm := .none },
  { cls := 12, slots := #[.long (10)], vm := .none },
  { cls := 12, slots := #[.long (11)], vm := .none },
  { cls := 12, slots := #[.long (12)], vm := .none },
  { cls := 12, slots := #[.long (13)], vm := .none },
  { cls := 12, slots := #[.long (14)], vm := .none },
  { cls := 12, slots := #[.long (15)], vm := .none },
  { cls := 12, slots := #[.long (16)], vm := .none },
  { cls := 12, slots := #[.long (17)], vm := .none },
  { cls := 12, slots := #[.long (18)], vm := .none },
  { cls := 12, slots := #[.long (19)], vm := .none },
  { cls := 12, slots := #[.long (20)], vm := .none },
  { cls := 12, slots := #[.long (21)], vm := .none },
  { cls := 12, slots := #[.long (22)], vm := .none },
  { cls := 12, slots := #[.long (23)], vm := .none },
  { cls := 12, slots := #[.long (24)], vm := .none },
  { cls := 12, slots := #[.long (25)], vm := .none },
  { cls := 12, slots := #[.long (26)], vm := .none },
  { cls := 12, slots := #[.long (27)], vm := .none },
  { cls := 12, slots := #[.long (28)], vm := .none },
  { cls := 12, slots := #[.long (29)], vm := .none },
  { cls := 12, slots := #[.long (30)], vm := .none },
  { cls := 12, slots := #[.long (31)], vm := .none },
  { cls := 12, slots := #[.long (32)], vm := .none },
  { cls := 12, slots := #[.long (33)], vm := .none },
  { cls := 12, slots := #[.long (34)], vm := .none },
  { cls := 12, slots := #[.long (35)], vm := .none },
  { cls := 12, slots := #[.long (36)], vm := .none },
  { cls := 12, slots := #[.long (37)], vm := .none },
  { cls := 12, slots := #[.long (38)], vm := .none },
  { cls := 12, slots := #[.long (39)], vm := .none },
  { cls := 12, slots := #[.long (40)], vm := .none },
  { cls := 12, slots := #[.long (41)], vm := .none },
  { cls := 12, slots := #[.long (42)], vm := .none },
  { cls := 12, slots := #[.long (43)], vm := .none },
  { cls := 12, slots := #[.long (44)], vm := .none },
  { cls := 12, slots := #[.long (45)], vm := .none },
  { cls := 12, slots := #[.long (46)], vm := .none },
  { cls := 12, slots := #[.long (47)], vm := .none },
  { cls := 12, slots := #[.long (48)], vm := .none },
  { cls := 12, slots := #[.long (49)], vm := .none },
  { cls := 12, slots := #[.long (50)], vm := .none },
  { cls := 12, slots := #[.long (51)], vm := .none },
  { cls := 12, slots := #[.long (52)], vm := .none },
  { cls := 12, slots := #[.long (53)], vm := .none },
  { cls := 12, slots := #[.long (54)], vm := .none },
  { cls := 12, slots := #[.long (55)], vm := .none },
  { cls := 12, slots := #[.long (56)], vm := .none },
  { cls := 12, slots := #[.long (57)], vm := .none },
  { cls := 12, slots := #[.long (58)], vm := .none },
  { cls := 12, slots := #[.long (59)], vm := .none },
  { cls := 12, slots := #[.long (60)], vm := .none },
  { cls := 12, slots := #[.long (61)], vm := .none },
  { cls := 12, slots := #[.long (62)], vm := .none },
  { cls := 12, slots := #[.long (63)], vm := .none },
  { cls := 12, slots := #[.long (64)], vm := .none },
  { cls := 12, slots := #[.long (65)], vm := .none },
  { cls := 12, slots := #[.long (66)], vm := .none },
  { cls := 12, slots := #[.long (67)], vm := .none },
  { cls := 12, slots := #[.long (68)], vm := .none },
  { cls := 12, slots := #[.long (69)], vm := .none },
  { cls := 12, slots := #[.long (70)], vm := .none },
  { cls := 12, slots := #[.long (71)], vm := .none },
  { cls := 12, slots := #[.long (72)], vm := .none },
  { cls := 12, slots := #[.long (73)], vm := .none },
  { cls := 12, slots := #[.long (74)], vm := .none },
  { cls := 12, slots := #[.long (75)], vm := .none },
  { cls := 12, slots := #[.long (76)], vm := .none },
  { cls := 12, slots := #[.long (77)], vm := .none },
  { cls := 12, slots := #[.long (78)], vm := .none },
  { cls := 12, slots := #[.long (79)], vm := .none },
  { cls := 12, slots := #[.long (80)], vm := .none },
  { cls := 12, slots := #[.long (81)], vm := .none },
  { cls := 12, slots := #[.long (82)], vm := .none },
  { cls := 12, slots := #[.long (83)], vm := .none },
  { cls := 12, slots := #[.long (84)], vm := .none },
  { cls := 12, slots := #[.long (85)], vm := .none },
  { cls := 12, slots := #[.long (86)], vm := .none },
  { cls := 12, slots := #[.long (87)], vm := .none },
  { cls := 12, slots := #[.long (88)], vm := .none },
  { cls := 12, slots := #[.long (89)], vm := .none },
  { cls := 12, slots := #[.long (90)], vm := .none },
  { cls := 12, slots := #[.long (91)], vm := .none },
  { cls := 12, slots := #[.long (92)], vm := .none },
  { cls := 12, slots := #[.long (93)], vm := .none },
  { cls := 12, slots := #[.long (94)], vm := .none },
  { cls := 12, slots := #[.long (95)], vm := .none },
  { cls := 12, slots := #[.long (96)], vm := .none },
  { cls := 12, slots := #[.long (97)], vm := .none },
  { cls := 12, slots := #[.long (98)], vm := .none },
  { cls := 12, slots := #[.long (99)], vm := .none },
  { cls := 12, slots := #[.long (100)], vm := .none },
  { cls := 12, slots := #[.long (101)], vm := .none },
  { cls := 12, slots := #[.long (102)], vm := .none },
  { cls := 12, slots := #[.long (103)], vm := .none },
  { cls := 12, slots := #[.long (104)], vm := .none },
  { cls := 12, slots := #[.long (105)], vm := .none },
  { cls := 12, slots := #[.long (106)], vm := .none },
  { cls := 12, slots := #[.long (107)], vm := .none },
  { cls := 12, slots := #[.long (108)], vm := .none },
  { cls := 12, slots := #[.long (109)], vm := .none },
  { cls := 12, slots := #[.long (110)], vm := .none },
  { cls := 12, slots := #[.long (111)], vm := .none },
  { cls := 12, slots := #[.long (112)], vm := .none },
  { cls := 12, slots := #[.long (113)], vm := .none },
  { cls := 12, slots := #[.long (114)], vm := .none },
  { cls := 12, slots := #[.long (115)], vm := .none },
  { cls := 12, slots := #[.long (116)], vm := .none },
  { cls := 12, slots := #[.long (117)], vm := .none },
  { cls := 12, slots := #[.long (118)], vm := .none },
  { cls := 12, slots := #[.long (119)], vm := .none },
  { cls := 12, slots := #[.long (120)], vm := .none },
  { cls := 12, slots := #[.long (121)], vm := .none },
  { cls := 12, slots := #[.long (122)], vm := .none },
  { cls := 12, slots := #[.long (123)], vm := .none },
  { cls := 12, slots := #[.long (124)], vm := .none },
  { cls := 12, slots := #[.long (125)], vm := .none },
  { cls := 12, slots := #[.long (126)], vm := .none },
  { cls := 12, slots := #[.long (127)], vm := .none },
  { cls := 35, slots := #[], vm := .none },
  { cls := 35, slots := #[], vm := .none }]
def classes : Array Class := #[k0, k1, k2, k3, k4, k5, k6, k7, k8, k9, k10, k11, k12, k13, k14, k15, k16, k17, k18, k19, k20, k21, k22, k23, k24, k25, k26, k27, k28, k29, k30, k31, k32, k33, k34, k35]
def interned : List (Array UInt16 × Addr) := []
def slotsUsed : Nat := 529
def theMethod : MethodId := ⟨1, 1⟩
def args0 : Array Value := #[.int 5, .long 6, .long 7, .int 8]
def aboutOver (below : List Frame) : State where
  vm := { classes := classes, interned := interned.toArray }
  heap := heap
  slotsUsed := slotsUsed
  threads := #[{ frames := .invoking theMethod args0 :: below }]
def below0 : List Frame := [.native { method := ⟨0, 0⟩, args := #[] }]
def about1 : State := aboutOver below0
def p0 : Program := .bare "" "" ""
def e0 : Env := launch0.env 0 0 0
theorem w_frames : about1.frames = Frame.invoking theMethod args0 :: below0 := rfl
set_option maxRecDepth 65536 in
theorem w_args : argsFit about1.vm theMethod args0 = true := by decide +kernel
set_option maxRecDepth 65536 in
theorem w_heap : heapFits about1 = true := by decide +kernel
set_option maxRecDepth 65536 in
theorem w_runnable : about1.curStatus? = some .runnable := by decide +kernel
set_option maxRecDepth 65536 in
theorem w_alone : about1.alone = true := by decide +kernel
set_option maxRecDepth 65536 in
theorem w_named : about1.methodNamed? x = some theMethod := by decide +kernel
set_option maxRecDepth 65536 in
theorem w_hears : about1.hears theMethod below0 = true := by decide +kernel
set_option maxRecDepth 65536 in
theorem w_ripe : about1.ripe theMethod args0 below0 = true := by decide +kernel
theorem w_running : about1.status = .running := rfl
set_option maxRecDepth 65536 in
theorem w_room : about1.hasRoom e0.platform room_1 = true :=
  launch0.hasRoom_least _ room_1 (by decide +kernel) (by decide +kernel) (by decide +kernel) (by decide +kernel) (by decide +kernel) (by decide +kernel)
theorem allAtoms_all (ts : List Jvm.Cond) (a : Array Jvm.Value) (st : Jvm.State) : (allAtoms ts).before a st = ts.all (fun c => c.before a st) := by
  induction ts with
  | nil => rfl
  | cons c t ih =>
    show (Jvm.Cond.and c (allAtoms t)).before a st = _
    rw [Jvm.Cond.before_and, ih, List.all_cons]
def words1 : List Jvm.Cond := Jvm.Cond.code x code maxLocals ret :: tables_1
/-- a 'code' word, met by the world's own term for the bytes: nothing is compared byte by byte -/
theorem code_word {y : MethodName} {bytes : ByteArray} {mx : Nat} {rt : Option FieldType} {a : Array Value} {s : State} {m : MethodId} {meth : Method} {c : Code} (h1 : s.methodNamed? y = some m) (h2 : s.vm.method? m = some meth) (h3 : meth.code = some c) (h4 : c.code = bytes)
    (h5 : (c.maxLocals == mx && c.exceptionTable.isEmpty && decide (c.maxStack ≤ mostOperands) && decide (meth.sig.returnType = rt) && !meth.locks && decide (parseMethodDescriptor y.desc = some meth.sig)) = true) : (Jvm.Cond.code y bytes mx rt).before a s = true := by
  simp only [Bool.and_eq_true, beq_iff_eq, Bool.not_eq_true', decide_eq_true_eq] at h5
  obtain ⟨⟨⟨⟨⟨g1, g2⟩, g3⟩, g4⟩, g5⟩, g6⟩ := h5
  simp [Cond.before, Cond.holds, Cond.value, h1, h2, h3, h4, g1, g2, g3, g4, g5, g6]
def isCode : Jvm.Cond → Bool
  | .code _ _ _ _ => true
  | _ => false
theorem all_split {L : List Jvm.Cond} {P : Jvm.Cond → Bool} (h1 : L.all (fun c => isCode c || P c) = true) (h2 : ∀ c ∈ L.filter isCode, P c = true) : L.all P = true := by
  refine List.all_eq_true.mpr fun c hc => ?_
  have h := List.all_eq_true.mp h1 c hc
  rcases Bool.eq_false_or_eq_true (isCode c) with hi | hi
  · exact h2 c (List.mem_filter.mpr ⟨hc, hi⟩)
  · simpa [hi] using h
set_option maxRecDepth 65536 in
theorem w_c0 : (Jvm.Cond.code x code maxLocals ret).before args0 about1 = true := code_word (m := ⟨1, 1⟩) (meth := k1m1) (c := k1c1) (by decide +kernel) rfl rfl rfl (by decide +kernel)
set_option maxRecDepth 65536 in
theorem w_c1 : (Jvm.Cond.code ({ cls := "java/lang/String", name := "<init>", desc := "([C)V" } : Jvm.MethodName) jdk_42_method_3_code (2 : Nat) (Option.none : Option Jvm.ClassFile.FieldType)).before args0 about1 = true := code_word (m := ⟨7, 1⟩) (meth := k7m1) (c := k7c1) (by decide +kernel) rfl rfl rfl (by decide +kernel)
set_option maxRecDepth 65536 in
theorem w_c2 : (Jvm.Cond.code ({ cls := "java/lang/String", name := "<init>", desc := "([CIILjava/lang/Void;)V" } : Jvm.MethodName) jdk_42_method_149_code (6 : Nat) (Option.none : Option Jvm.ClassFile.FieldType)).before args0 about1 = true := code_word (m := ⟨7, 2⟩) (meth := k7m2) (c := k7c2) (by decide +kernel) rfl rfl rfl (by decide +kernel)
set_option maxRecDepth 65536 in
theorem w_c3 : (Jvm.Cond.code ({ cls := "java/lang/Object", name := "<init>", desc := "()V" } : Jvm.MethodName) object_method_1_code (1 : Nat) (Option.none : Option Jvm.ClassFile.FieldType)).before args0 about1 = true := code_word (m := ⟨0, 0⟩) (meth := k0m0) (c := k0c0) (by decide +kernel) rfl rfl rfl (by decide +kernel)
set_option maxRecDepth 65536 in
theorem w_c4 : (Jvm.Cond.code ({ cls := "java/lang/StringUTF16", name := "compress", desc := "([CII)[B" } : Jvm.MethodName) jdk_52_method_16_code (6 : Nat) (Option.some (Jvm.ClassFile.FieldType.array Jvm.ClassFile.FieldType.byte))).before args0 about1 = true := code_word (m := ⟨8, 2⟩) (meth := k8m2) (c := k8c2) (by decide +kernel) rfl rfl rfl (by decide +kernel)
set_option maxRecDepth 65536 in
theorem w_c5 : (Jvm.Cond.code ({ cls := "java/lang/StringUTF16", name := "compress", desc := "([CI[BII)I" } : Jvm.MethodName) jdk_52_method_21_code (7 : Nat) (Option.some Jvm.ClassFile.FieldType.int)).before args0 about1 = true := code_word (m := ⟨8, 3⟩) (meth := k8m3) (c := k8c3) (by decide +kernel) rfl rfl rfl (by decide +kernel)
set_option maxRecDepth 65536 in
theorem w_c6 : (Jvm.Cond.code ({ cls := "java/lang/StringUTF16", name := "coderFromArrayLen", desc := "([BI)B" } : Jvm.MethodName) jdk_52_method_15_code (2 : Nat) (Option.some Jvm.ClassFile.FieldType.byte)).before args0 about1 = true := code_word (m := ⟨8, 1⟩) (meth := k8m1) (c := k8c1) (by decide +kernel) rfl rfl rfl (by decide +kernel)
set_option maxRecDepth 65536 in
theorem w_c7 : (Jvm.Cond.code ({ cls := "com/example/lakebed/lakebed/table/PlannedFile", name := "<init>", desc := "(Ljava/lang/String;Lcom/example/lakebed/lakebed/table/FileGroup;JLjava/lang/Long;Z)V" } : Jvm.MethodName) prog_84_method_1_code (7 : Nat) (Option.none : Option Jvm.ClassFile.FieldType)).before args0 about1 = true := code_word (m := ⟨10, 0⟩) (meth := k10m0) (c := k10c0) (by decide +kernel) rfl rfl rfl (by decide +kernel)
set_option maxRecDepth 65536 in
theorem w_c8 : (Jvm.Cond.code ({ cls := "java/lang/Record", name := "<init>", desc := "()V" } : Jvm.MethodName) jdk_30_method_1_code (1 : Nat) (Option.none : Option Jvm.ClassFile.FieldType)).before args0 about1 = true := code_word (m := ⟨9, 0⟩) (meth := k9m0) (c := k9c0) (by decide +kernel) rfl rfl rfl (by decide +kernel)
set_option maxRecDepth 65536 in
theorem w_c9 : (Jvm.Cond.code ({ cls := "com/example/lakebed/lakebed/table/PlannedFile", name := "isChange", desc := "()Z" } : Jvm.MethodName) prog_84_method_5_code (1 : Nat) (Option.some Jvm.ClassFile.FieldType.boolean)).before args0 about1 = true := code_word (m := ⟨10, 3⟩) (meth := k10m3) (c := k10c3) (by decide +kernel) rfl rfl rfl (by decide +kernel)
set_option maxRecDepth 65536 in
theorem w_c10 : (Jvm.Cond.code ({ cls := "com/example/lakebed/lakebed/table/PlannedFile", name := "change", desc := "(Ljava/lang/String;Lcom/example/lakebed/lakebed/table/FileGroup;JJ)Lcom/example/lakebed/lakebed/table/PlannedFile;" } : Jvm.MethodName) prog_84_method_3_code (6 : Nat) (Option.some (Jvm.ClassFile.FieldType.object "com/example/lakebed/lakebed/table/PlannedFile"))).before args0 about1 = true := code_word (m := ⟨10, 2⟩) (meth := k10m2) (c := k10c2) (by decide +kernel) rfl rfl rfl (by decide +kernel)
set_option maxRecDepth 65536 in
theorem w_c11 : (Jvm.Cond.code ({ cls := "java/lang/Long", name := "valueOf", desc := "(J)Ljava/lang/Long;" } : Jvm.MethodName) jdk_35_method_24_code (3 : Nat) (Option.some (Jvm.ClassFile.FieldType.object "java/lang/Long"))).before args0 about1 = true := code_word (m := ⟨12, 0⟩) (meth := k12m0) (c := k12c0) (by decide +kernel) rfl rfl rfl (by decide +kernel)
set_option maxRecDepth 65536 in
theorem w_c12 : (Jvm.Cond.code ({ cls := "java/lang/Long", name := "<init>", desc := "(J)V" } : Jvm.MethodName) jdk_35_method_26_code (3 : Nat) (Option.none : Option Jvm.ClassFile.FieldType)).before args0 about1 = true := code_word (m := ⟨12, 1⟩) (meth := k12m1) (c := k12c1) (by decide +kernel) rfl rfl rfl (by decide +kernel)
set_option maxRecDepth 65536 in
theorem w_c13 : (Jvm.Cond.code ({ cls := "java/lang/Number", name := "<init>", desc := "()V" } : Jvm.MethodName) jdk_18_method_1_code (1 : Nat) (Option.none : Option Jvm.ClassFile.FieldType)).before args0 about1 = true := code_word (m := ⟨11, 0⟩) (meth := k11m0) (c := k11c0) (by decide +kernel) rfl rfl rfl (by decide +kernel)
set_option maxRecDepth 65536 in
theorem w_c14 : (Jvm.Cond.code ({ cls := "com/example/lakebed/lakebed/table/PlannedFile", name := "group", desc := "(Ljava/lang/String;Lcom/example/lakebed/lakebed/table/FileGroup;J)Ljava/util/List;" } : Jvm.MethodName) prog_84_method_2_code (12 : Nat) (Option.some (Jvm.ClassFile.FieldType.object "java/util/List"))).before args0 about1 = true := code_word (m := ⟨10, 1⟩) (meth := k10m1) (c := k10c1) (by decide +kernel) rfl rfl rfl (by decide +kernel)
set_option maxRecDepth 65536 in
theorem w_c15 : (Jvm.Cond.code ({ cls := "java/lang/Math", name := "max", desc := "(JJ)J" } : Jvm.MethodName) jdk_29_method_66_code (4 : Nat) (Option.some Jvm.ClassFile.FieldType.long)).before args0 about1 = true := code_word (m := ⟨13, 2⟩) (meth := k13m2) (c := k13c2) (by decide +kernel) rfl rfl rfl (by decide +kernel)
set_option maxRecDepth 65536 in
theorem w_c16 : (Jvm.Cond.code ({ cls := "java/util/ArrayList", name := "<init>", desc := "()V" } : Jvm.MethodName) jdk_38_method_2_code (1 : Nat) (Option.none : Option Jvm.ClassFile.FieldType)).before args0 about1 = true := code_word (m := ⟨22, 0⟩) (meth := k22m0) (c := k22c0) (by decide +kernel) rfl rfl rfl (by decide +kernel)
set_option maxRecDepth 65536 in
theorem w_c17 : (Jvm.Cond.code ({ cls := "java/util/AbstractList", name := "<init>", desc := "()V" } : Jvm.MethodName) jdk_39_method_1_code (1 : Nat) (Option.none : Option Jvm.ClassFile.FieldType)).before args0 about1 = true := code_word (m := ⟨19, 0⟩) (meth := k19m0) (c := k19c0) (by decide +kernel) rfl rfl rfl (by decide +kernel)
set_option maxRecDepth 65536 in
theorem w_c18 : (Jvm.Cond.code ({ cls := "java/util/AbstractCollection", name := "<init>", desc := "()V" } : Jvm.MethodName) jdk_22_method_1_code (1 : Nat) (Option.none : Option Jvm.ClassFile.FieldType)).before args0 about1 = true := code_word (m := ⟨16, 0⟩) (meth := k16m0) (c := k16c0) (by decide +kernel) rfl rfl rfl (by decide +kernel)
set_option maxRecDepth 65536 in
theorem w_c19 : (Jvm.Cond.code ({ cls := "java/util/ArrayList", name := "add", desc := "(Ljava/lang/Object;)Z" } : Jvm.MethodName) jdk_38_method_25_code (2 : Nat) (Option.some Jvm.ClassFile.FieldType.boolean)).before args0 about1 = true := code_word (m := ⟨22, 6⟩) (meth := k22m6) (c := k22c6) (by decide +kernel) rfl rfl rfl (by decide +kernel)
set_option maxRecDepth 65536 in
theorem w_c20 : (Jvm.Cond.code ({ cls := "java/util/ArrayList", name := "add", desc := "(Ljava/lang/Object;[Ljava/lang/Object;I)V" } : Jvm.MethodName) jdk_38_method_24_code (4 : Nat) (Option.none : Option Jvm.ClassFile.FieldType)).before args0 about1 = true := code_word (m := ⟨22, 5⟩) (meth := k22m5) (c := k22c5) (by decide +kernel) rfl rfl rfl (by decide +kernel)
set_option maxRecDepth 65536 in
theorem w_c21 : (Jvm.Cond.code ({ cls := "java/util/ArrayList", name := "grow", desc := "()[Ljava/lang/Object;" } : Jvm.MethodName) jdk_38_method_7_code (1 : Nat) (Option.some (Jvm.ClassFile.FieldType.array (Jvm.ClassFile.FieldType.object "java/lang/Object")))).before args0 about1 = true := code_word (m := ⟨22, 2⟩) (meth := k22m2) (c := k22c2) (by decide +kernel) rfl rfl rfl (by decide +kernel)
set_option maxRecDepth 65536 in
theorem w_c22 : (Jvm.Cond.code ({ cls := "java/util/ArrayList", name := "grow", desc := "(I)[Ljava/lang/Object;" } : Jvm.MethodName) jdk_38_method_6_code (4 : Nat) (Option.some (Jvm.ClassFile.FieldType.array (Jvm.ClassFile.FieldType.object "java/lang/Object")))).before args0 about1 = true := code_word (m := ⟨22, 1⟩) (meth := k22m1) (c := k22c1) (by decide +kernel) rfl rfl rfl (by decide +kernel)
set_option maxRecDepth 65536 in
theorem w_c23 : (Jvm.Cond.code ({ cls := "java/lang/Math", name := "max", desc := "(II)I" } : Jvm.MethodName) jdk_29_method_65_code (2 : Nat) (Option.some Jvm.ClassFile.FieldType.int)).before args0 about1 = true := code_word (m := ⟨13, 1⟩) (meth := k13m1) (c := k13c1) (by decide +kernel) rfl rfl rfl (by decide +kernel)
set_option maxRecDepth 65536 in
theorem w_c24 : (Jvm.Cond.code ({ cls := "java/util/ArrayList", name := "get", desc := "(I)Ljava/lang/Object;" } : Jvm.MethodName) jdk_38_method_20_code (2 : Nat) (Option.some (Jvm.ClassFile.FieldType.object "java/lang/Object"))).before args0 about1 = true := code_word (m := ⟨22, 4⟩) (meth := k22m4) (c := k22c4) (by decide +kernel) rfl rfl rfl (by decide +kernel)
set_option maxRecDepth 65536 in
theorem w_c25 : (Jvm.Cond.code ({ cls := "java/util/Objects", name := "checkIndex", desc := "(II)I" } : Jvm.MethodName) jdk_31_method_17_code (2 : Nat) (Option.some Jvm.ClassFile.FieldType.int)).before args0 about1 = true := code_word (m := ⟨23, 1⟩) (meth := k23m1) (c := k23c1) (by decide +kernel) rfl rfl rfl (by decide +kernel)
set_option maxRecDepth 65536 in
theorem w_c26 : (Jvm.Cond.code ({ cls := "jdk/internal/util/Preconditions", name := "checkIndex", desc := "(IILjava/util/function/BiFunction;)I" } : Jvm.MethodName) jdk_41_method_11_code (3 : Nat) (Option.some Jvm.ClassFile.FieldType.int)).before args0 about1 = true := code_word (m := ⟨24, 1⟩) (meth := k24m1) (c := k24c1) (by decide +kernel) rfl rfl rfl (by decide +kernel)
set_option maxRecDepth 65536 in
theorem w_c27 : (Jvm.Cond.code ({ cls := "java/util/ArrayList", name := "elementData", desc := "(I)Ljava/lang/Object;" } : Jvm.MethodName) jdk_38_method_18_code (2 : Nat) (Option.some (Jvm.ClassFile.FieldType.object "java/lang/Object"))).before args0 about1 = true := code_word (m := ⟨22, 3⟩) (meth := k22m3) (c := k22c3) (by decide +kernel) rfl rfl rfl (by decide +kernel)
def codes1 : List Jvm.Cond := [Jvm.Cond.code x code maxLocals ret, Jvm.Cond.code ({ cls := "java/lang/String", name := "<init>", desc := "([C)V" } : Jvm.MethodName) jdk_42_method_3_code (2 : Nat) (Option.none : Option Jvm.ClassFile.FieldType), Jvm.Cond.code ({ cls := "java/lang/String", name := "<init>", desc := "([CIILjava/lang/Void;)V" } : Jvm.MethodName) jdk_42_method_149_code (6 : Nat) (Option.none : Option Jvm.ClassFile.FieldType), Jvm.Cond.code ({ cls := "java/lang/Object", name := "<init>", desc := "()V" } : Jvm.MethodName) object_method_1_code (1 : Nat) (Option.none : Option Jvm.ClassFile.FieldType), Jvm.Cond.code ({ cls := "java/lang/StringUTF16", name := "compress", desc := "([CII)[B" } : Jvm.MethodName) jdk_52_method_16_code (6 : Nat) (Option.some (Jvm.ClassFile.FieldType.array Jvm.ClassFile.FieldType.byte)), Jvm.Cond.code ({ cls := "java/lang/StringUTF16", name := "compress", desc := "([CI[BII)I" } : Jvm.MethodName) jdk_52_method_21_code (7 : Nat) (Option.some Jvm.ClassFile.FieldType.int), Jvm.Cond.code ({ cls := "java/lang/StringUTF16", name := "coderFromArrayLen", desc := "([BI)B" } : Jvm.MethodName) jdk_52_method_15_code (2 : Nat) (Option.some Jvm.ClassFile.FieldType.byte), Jvm.Cond.code ({ cls := "com/example/lakebed/lakebed/table/PlannedFile", name := "<init>", desc := "(Ljava/lang/String;Lcom/example/lakebed/lakebed/table/FileGroup;JLjava/lang/Long;Z)V" } : Jvm.MethodName) prog_84_method_1_code (7 : Nat) (Option.none : Option Jvm.ClassFile.FieldType), Jvm.Cond.code ({ cls := "java/lang/Record", name := "<init>", desc := "()V" } : Jvm.MethodName) jdk_30_method_1_code (1 : Nat) (Option.none : Option Jvm.ClassFile.FieldType), Jvm.Cond.code ({ cls := "com/example/lakebed/lakebed/table/PlannedFile", name := "isChange", desc := "()Z" } : Jvm.MethodName) prog_84_method_5_code (1 : Nat) (Option.some Jvm.ClassFile.FieldType.boolean), Jvm.Cond.code ({ cls := "com/example/lakebed/lakebed/table/PlannedFile", name := "change", desc := "(Ljava/lang/String;Lcom/example/lakebed/lakebed/table/FileGroup;JJ)Lcom/example/lakebed/lakebed/table/PlannedFile;" } : Jvm.MethodName) prog_84_method_3_code (6 : Nat) (Option.some (Jvm.ClassFile.FieldType.object "com/example/lakebed/lakebed/table/PlannedFile")), Jvm.Cond.code ({ cls := "java/lang/Long", name := "valueOf", desc := "(J)Ljava/lang/Long;" } : Jvm.MethodName) jdk_35_method_24_code (3 : Nat) (Option.some (Jvm.ClassFile.FieldType.object "java/lang/Long")), Jvm.Cond.code ({ cls := "java/lang/Long", name := "<init>", desc := "(J)V" } : Jvm.MethodName) jdk_35_method_26_code (3 : Nat) (Option.none : Option Jvm.ClassFile.FieldType), Jvm.Cond.code ({ cls := "java/lang/Number", name := "<init>", desc := "()V" } : Jvm.MethodName) jdk_18_method_1_code (1 : Nat) (Option.none : Option Jvm.ClassFile.FieldType), Jvm.Cond.code ({ cls := "com/example/lakebed/lakebed/table/PlannedFile", name := "group", desc := "(Ljava/lang/String;Lcom/example/lakebed/lakebed/table/FileGroup;J)Ljava/util/List;" } : Jvm.MethodName) prog_84_method_2_code (12 : Nat) (Option.some (Jvm.ClassFile.FieldType.object "java/util/List")), Jvm.Cond.code ({ cls := "java/lang/Math", name := "max", desc := "(JJ)J" } : Jvm.MethodName) jdk_29_method_66_code (4 : Nat) (Option.some Jvm.ClassFile.FieldType.long), Jvm.Cond.code ({ cls := "java/util/ArrayList", name := "<init>", desc := "()V" } : Jvm.MethodName) jdk_38_method_2_code (1 : Nat) (Option.none : Option Jvm.ClassFile.FieldType), Jvm.Cond.code ({ cls := "java/util/AbstractList", name := "<init>", desc := "()V" } : Jvm.MethodName) jdk_39_method_1_code (1 : Nat) (Option.none : Option Jvm.ClassFile.FieldType), Jvm.Cond.code ({ cls := "java/util/AbstractCollection", name := "<init>", desc := "()V" } : Jvm.MethodName) jdk_22_method_1_code (1 : Nat) (Option.none : Option Jvm.ClassFile.FieldType), Jvm.Cond.code ({ cls := "java/util/ArrayList", name := "add", desc := "(Ljava/lang/Object;)Z" } : Jvm.MethodName) jdk_38_method_25_code (2 : Nat) (Option.some Jvm.ClassFile.FieldType.boolean), Jvm.Cond.code ({ cls := "java/util/ArrayList", name := "add", desc := "(Ljava/lang/Object;[Ljava/lang/Object;I)V" } : Jvm.MethodName) jdk_38_method_24_code (4 : Nat) (Option.none : Option Jvm.ClassFile.FieldType), Jvm.Cond.code ({ cls := "java/util/ArrayList", name := "grow", desc := "()[Ljava/lang/Object;" } : Jvm.MethodName) jdk_38_method_7_code (1 : Nat) (Option.some (Jvm.ClassFile.FieldType.array (Jvm.ClassFile.FieldType.object "java/lang/Object"))), Jvm.Cond.code ({ cls := "java/util/ArrayList", name := "grow", desc := "(I)[Ljava/lang/Object;" } : Jvm.MethodName) jdk_38_method_6_code (4 : Nat) (Option.some (Jvm.ClassFile.FieldType.array (Jvm.ClassFile.FieldType.object "java/lang/Object"))), Jvm.Cond.code ({ cls := "java/lang/Math", name := "max", desc := "(II)I" } : Jvm.MethodName) jdk_29_method_65_code (2 : Nat) (Option.some Jvm.ClassFile.FieldType.int), Jvm.Cond.code ({ cls := "java/util/ArrayList", name := "get", desc := "(I)Ljava/lang/Object;" } : Jvm.MethodName) jdk_38_method_20_code (2 : Nat) (Option.some (Jvm.ClassFile.FieldType.object "java/lang/Object")), Jvm.Cond.code ({ cls := "java/util/Objects", name := "checkIndex", desc := "(II)I" } : Jvm.MethodName) jdk_31_method_17_code (2 : Nat) (Option.some Jvm.ClassFile.FieldType.int), Jvm.Cond.code ({ cls := "jdk/internal/util/Preconditions", name := "checkIndex", desc := "(IILjava/util/function/BiFunction;)I" } : Jvm.MethodName) jdk_41_method_11_code (3 : Nat) (Option.some Jvm.ClassFile.FieldType.int), Jvm.Cond.code ({ cls := "java/util/ArrayList", name := "elementData", desc := "(I)Ljava/lang/Object;" } : Jvm.MethodName) jdk_38_method_18_code (2 : Nat) (Option.some (Jvm.ClassFile.FieldType.object "java/lang/Object"))]
set_option maxRecDepth 65536 in
theorem codes_eq : words1.filter isCode = codes1 := rfl
theorem w_codes : ∀ c ∈ words1.filter isCode, c.before args0 about1 = true := by
  rw [codes_eq]
  intro c hc
  simp only [codes1, List.mem_cons, List.not_mem_nil, or_false] at hc
  rcases hc with rfl | rfl | rfl | rfl | rfl | rfl | rfl | rfl | rfl | rfl | rfl | rfl | rfl | rfl | rfl | rfl | rfl | rfl | rfl | rfl | rfl | rfl | rfl | rfl | rfl | rfl | rfl | rfl
  · exact w_c0
  · exact w_c1
  · exact w_c2
  · exact w_c3
  · exact w_c4
  · exact w_c5
  · exact w_c6
  · exact w_c7
  · exact w_c8
  · exact w_c9
  · exact w_c10
  · exact w_c11
  · exact w_c12
  · exact w_c13
  · exact w_c14
  · exact w_c15
  · exact w_c16
  · exact w_c17
  · exact w_c18
  · exact w_c19
  · exact w_c20
  · exact w_c21
  · exact w_c22
  · exact w_c23
  · exact w_c24
  · exact w_c25
  · exact w_c26
  · exact w_c27
set_option maxRecDepth 65536 in
theorem w_t1 : (words1.take 24).all (fun c => isCode c || c.before args0 about1) = true := by decide +kernel
set_option maxRecDepth 65536 in
theorem w_t2 : ((words1.drop 24).take 24).all (fun c => isCode c || c.before args0 about1) = true := by decide +kernel
set_option maxRecDepth 65536 in
theorem w_t3 : (((words1.drop 24).drop 24).take 24).all (fun c => isCode c || c.before args0 about1) = true := by decide +kernel
set_option maxRecDepth 65536 in
theorem w_t4 : ((((words1.drop 24).drop 24).drop 24).take 24).all (fun c => isCode c || c.before args0 about1) = true := by decide +kernel
set_option maxRecDepth 65536 in
theorem w_t5 : (((((words1.drop 24).drop 24).drop 24).drop 24).take 24).all (fun c => isCode c || c.before args0 about1) = true := by decide +kernel
set_option maxRecDepth 65536 in
theorem w_t6 : ((((((words1.drop 24).drop 24).drop 24).drop 24).drop 24).take 24).all (fun c => isCode c || c.before args0 about1) = true := by decide +kernel
set_option maxRecDepth 65536 in
theorem w_t7 : (((((((words1.drop 24).drop 24).drop 24).drop 24).drop 24).drop 24).take 24).all (fun c => isCode c || c.before args0 about1) = true := by decide +kernel
set_option maxRecDepth 65536 in
theorem w_t8 : (((((((words1.drop 24).drop 24).drop 24).drop 24).drop 24).drop 24).drop 24).all (fun c => isCode c || c.before args0 about1) = true := by decide +kernel
theorem w_tables : (allAtoms (Jvm.Cond.code x code maxLocals ret :: tables_1)).before args0 about1 = true := by
  rw [allAtoms_all]
  show words1.all (fun c => c.before args0 about1) = true
  refine all_split ?_ w_codes
  rw [← List.take_append_drop 24 words1, List.all_append, w_t1, ← List.take_append_drop 24 (words1.drop 24), List.all_append, w_t2, ← List.take_append_drop 24 ((words1.drop 24).drop 24), List.all_append, w_t3, ← List.take_append_drop 24 (((words1.drop 24).drop 24).drop 24), List.all_append, w_t4, ← List.take_append_drop 24 ((((words1.drop 24).drop 24).drop 24).drop 24), List.all_append, w_t5, ← List.take_append_drop 24 (((((words1.drop 24).drop 24).drop 24).drop 24).drop 24), List.all_append, w_t6, ← List.take_append_drop 24 ((((((words1.drop 24).drop 24).drop 24).drop 24).drop 24).drop 24), List.all_append, w_t7, w_t8]
  rfl
set_option maxRecDepth 65536 in
theorem w_rest : rest_1_c.before args0 about1 = true := by decide +kernel
set_option maxRecDepth 65536 in
theorem w_case : (Jvm.Cond.and given_1 narrow_1).before args0 about1 = true := by decide +kernel
theorem w_applies : (headSpec (Jvm.Cond.code x code maxLocals ret :: tables_1) room_1).applies x e0.platform about1 = true :=
  (Spec.applies_iff w_frames).mpr ⟨w_running, w_runnable, w_alone, w_named, w_hears, w_ripe, w_room, w_tables⟩
theorem atStart : AtStart classFile x code maxLocals ret World_1 tables_1 room_1 Calls_1 rest_1 Pre_1 launch0 p0 e0 about1 theMethod args0 below0 :=
  ⟨lists_1, trivial, launch0.admits_env _ _ _, launch0.least_env, fairChoices_fair.cas, fairChoices_fair.clock, w_frames, w_args, w_heap, w_applies, trivial, w_rest, w_case⟩
end start1
theorem witness_1 : WitnessClaimed_1 := ⟨start1.p0, start1.e0, start1.about1, start1.theMethod, start1.args0, start1.below0, start1.atStart⟩
end Jvm.Pilot.@@N@@
