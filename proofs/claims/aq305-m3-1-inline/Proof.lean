import JvmDerived
import JvmDerived.Pilot.@@N@@Statement
import JvmDerived.Pilot.@@N@@Code
set_option linter.unusedVariables false
set_option linter.unusedSimpArgs false
/-! A small kit of this prover's own: walks in weakest-precondition style, over the library's Stand, its held constants (CHv, CHr, Safe) and its wide ends. General text: no program in it. -/
namespace Jvm.Own
open Sem ClassFile Op Lib Bundle Jvm.Stand Jvm.Free Jvm.LawKit Jvm.RoadKit
/-- what stays the same through the whole law: the launch, the start state, the law's arguments, the start heap's length, whether Strings may come to be interned, the constants held -/
abbrev Gl : Type := Launch × State × Array Value × Nat × Bool × List (String × Nat)
abbrev Gl.l (E : Gl) : Launch := E.1
abbrev Gl.Z (E : Gl) : State := E.2.1
abbrev Gl.a (E : Gl) : Array Value := E.2.2.1
abbrev Gl.n (E : Gl) : Nat := E.2.2.2.1
abbrev Gl.w (E : Gl) : Bool := E.2.2.2.2.1
abbrev Gl.K (E : Gl) : List (String × Nat) := E.2.2.2.2.2
/-- one invocation: program, environment, room, state at the invocation, method, arguments, frames below, record, code, what it promises -/
abbrev Cx : Type := Program × Env × Room × State × MethodId × Array Value × List Frame × Method × Code × (Option Value → Heap → List Addr → Prop)
abbrev Cx.p (x : Cx) : Program := x.1
abbrev Cx.e (x : Cx) : Env := x.2.1
abbrev Cx.R (x : Cx) : Room := x.2.2.1
abbrev Cx.s (x : Cx) : State := x.2.2.2.1
abbrev Cx.m (x : Cx) : MethodId := x.2.2.2.2.1
abbrev Cx.args (x : Cx) : Array Value := x.2.2.2.2.2.1
abbrev Cx.below (x : Cx) : List Frame := x.2.2.2.2.2.2.1
abbrev Cx.meth (x : Cx) : Method := x.2.2.2.2.2.2.2.1
abbrev Cx.c (x : Cx) : Code := x.2.2.2.2.2.2.2.2.1
abbrev Cx.Q (x : Cx) : Option Value → Heap → List Addr → Prop := x.2.2.2.2.2.2.2.2.2
/-- the places that this law's own code may write: made since the start, and no part of a held constant -/
def GOk (E : Gl) : Prop := EW E.Z E.a E.K ∧ (E.w = false → E.K = [])
def FOk (E : Gl) (vm : Vm) (h : Heap) (F : List Addr) : Prop := ∀ x ∈ F, E.n ≤ x ∧ x < h.size ∧ Safe E.Z E.K vm h x
def EndF (w : Bool) (s : State) (o : Outcome) (t : State) (L : List Loc) (k n : Nat) : Prop :=
  match w with
  | true => ReturnedEndW s o t L k n
  | false => FrameEnd s o t L k n
def FinC (E : Gl) (s : State) (R : Room) (Q : Option Value → Heap → List Addr → Prop) (o : Outcome) (t : State) : Prop :=
  ∃ (v : Option Value) (L : List Loc) (F' : List Addr), o = .returned v ∧ Q v t.heap F' ∧ Fr E.n L ∧ Old E.Z E.n t.heap ∧ FOk E t.vm t.heap F' ∧ CHr E.Z E.K s.vm s.heap t.vm t.heap ∧ EndF E.w s o t L R.cells R.slots
/-- A CONTRACT: called with these arguments at this heap it returns; Q says what, the heap then, and the places that may be written behind -/
def MetT (ws : List Cond) (E : Gl) (y : MethodName) (b : ByteArray) (ml : Nat) (ret : Option FieldType) (R : Room) (as' : Array Value) (h : Heap) (F : List Addr) (Q : Option Value → Heap → List Addr → Prop) : Prop :=
  MetFree E.l y (head1 (Cond.code y b ml ret :: ws) R)
    (fun a U => a = as' ∧ E.Z.Warmed39 U.vm ∧ U.heap = h ∧ Old E.Z E.n h ∧ CHv E.Z E.K U.vm h ∧ FOk E U.vm h F ∧ GOk E)
    (fun _ _ _ _ _ => True) (fun _ U o U' => FinC E U R Q o U')
abbrev Met (E : Gl) (y : MethodName) (b : ByteArray) (ml : Nat) (ret : Option FieldType) (R : Room) (as' : Array Value) (h : Heap) (F : List Addr) (Q : Option Value → Heap → List Addr → Prop) : Prop := MetT [] E y b ml ret R as' h F Q
def Is (x : Cx) (own : String) (b : ByteArray) (ml : Nat) (R : Room) (ret : Option FieldType) (nm : String) : Prop :=
  x.c.code = b ∧ x.c.maxLocals = ml ∧ x.R = R ∧ x.meth.sig.returnType = ret ∧ x.meth.name = nm ∧ x.meth.locks = false ∧ x.p.tables.exec = Jvm.exec ∧ x.s.vm.findClass own = some x.m.cls
/-- where a walk stands -/
def Wk (E : Gl) (x : Cx) (T : State) (h : Heap) (F : List Addr) (cs ss : Nat) : Prop :=
  ∃ (vm : Vm) (k : Nat) (L : List Loc), Stand x.p E.l x.e x.R (x.s.setVm vm) x.m x.args x.below x.meth x.c T L cs ss ∧ T.heap = h ∧ x.s.Since vm k ∧ k ≤ h.size ∧ (E.w = false → vm = x.s.vm) ∧
    E.Z.Warmed39 vm ∧ Fr E.n L ∧ Old E.Z E.n h ∧ CHr E.Z E.K x.s.vm x.s.heap vm h ∧ FOk E vm h F ∧ GOk E
/-- what is left to show at a frame of the walk -/
def G (E : Gl) (x : Cx) (T : State) (g : JFrame) : Prop :=
  ∃ (t : State) (o : Outcome), Steps x.p.tables x.e x.below (T.setTop g) t ∧ t.status = .running ∧ Ended t x.below o ∧ FinC E x.s x.R x.Q o t
abbrev fr (x : Cx) (pc : Nat) (Ls : Array Slot) (st : List Value) : JFrame := mkF x.m pc Ls st
/-- an instruction, its length and the next pc -/
def D (b : ByteArray) (pc : Nat) (i : Instr) (len nx : Nat) : Prop := decode b pc = .ok (i, len) ∧ pc + len = nx
/-- a jump: besides, its offset and where it leads -/
def J (b : ByteArray) (pc : Nat) (i : Instr) (len nx : Nat) (o : Int) (tg : Nat) : Prop := decode b pc = .ok (i, len) ∧ pc + len = nx ∧ 0 ≤ (pc : Int) + o ∧ ((pc : Int) + o).toNat = tg
theorem G.of {E : Gl} {x : Cx} {T T' : State} {g g' : JFrame} (hs : ∀ target, Steps x.p.tables x.e x.below (T'.setTop g') target → Steps x.p.tables x.e x.below (T.setTop g) target) (hr : G E x T' g') : G E x T g := by
  obtain ⟨t, o, h1, h2, h3, h4⟩ := hr
  exact ⟨t, o, hs _ h1, h2, h3, h4⟩
theorem G.ofS {E : Gl} {x : Cx} {T T' : State} {g g' : JFrame} (hs : Steps x.p.tables x.e x.below (T.setTop g) (T'.setTop g')) (hr : G E x T' g') : G E x T g := G.of (fun _ h => hs.trans h) hr
theorem G.cast {E : Gl} {x : Cx} {T : State} {g g' : JFrame} (q : g = g') (hr : G E x T g') : G E x T g := q ▸ hr
theorem setVm_same (s : State) : s.setVm s.vm = s := rfl
theorem met_of {ws : List Cond} {E : Gl} {y : MethodName} {b : ByteArray} {ml : Nat} {ret : Option FieldType} {R : Room} {as' : Array Value} {h : Heap} {F : List Addr} {Q : Option Value → Heap → List Addr → Prop} (pn : plainFor y = true)
    (body : ∀ (x : Cx) (T : State), x.Q = Q → Is x y.cls b ml R ret y.name → Wk E x T h F 0 0 → G E x T (entryFrame x.m as' ml)) : MetT ws E y b ml ret R as' h F Q := by
  refine MetFree.of_bodySF pn hisR ?_
  intro p e s m args below meth c s₁ Bd hml0 hP hK
  obtain ⟨rfl, hZ, hh, hO, hC, hF, hE⟩ := hP
  have X0 : Stand p E.l e R s m args below meth c s₁ [] 0 0 := Stand.of_body Bd
  have e0 : s₁.heap = h := by rw [← hh, Bd.state]; rfl
  have hlk : meth.locks = false := BodyLoose.notSynchronized Bd
  have hG := body (p, e, R, s, m, args, below, meth, c, Q) s₁ rfl ⟨Bd.bytes, hml0, rfl, Bd.returns, (name_of_methodNamed Bd.named Bd.method).1, hlk, Bd.exec, findClass_of_methodNamed Bd.named⟩
    ⟨s.vm, 0, [], X0, e0, (State.WarmedH.refl s).since 0, Nat.zero_le _, fun _ => rfl, hZ, Fr.nil _, hO, by subst hh; exact CHr.refl hC, hF, hE⟩
  exact hG
section Steps
variable {E : Gl} {x : Cx} {T : State} {h : Heap} {F : List Addr} {cs ss : Nat} {own : String} {b : ByteArray} {ml : Nat} {R : Room} {ret : Option FieldType} {nm : String} {pc nx tg : Nat} {o : Int} {Ls Ls' : Array Slot} {st : List Value}
theorem Wk.here (W : Wk E x T h F cs ss) : At T x.m x.c x.below := by obtain ⟨_, _, _, X, -⟩ := W; exact X.here
theorem Wk.old (W : Wk E x T h F cs ss) : Ext E.Z.heap h := by obtain ⟨_, _, _, _, _, _, _, _, _, _, hO, -⟩ := W; exact hO.2
theorem Wk.size (W : Wk E x T h F cs ss) : E.n ≤ h.size := by obtain ⟨_, _, _, _, _, _, _, _, _, _, hO, -⟩ := W; rw [← hO.1]; exact hO.2.1
theorem Wk.gok (W : Wk E x T h F cs ss) : GOk E := by obtain ⟨_, _, _, _, _, _, _, _, _, _, _, _, _, hE⟩ := W; exact hE
theorem Wk.mono (W : Wk E x T h F cs ss) {F' : List Addr} {cs' ss' : Nat} (hF : ∀ y ∈ F', y ∈ F) (hc : cs ≤ cs') (hs : ss ≤ ss') : Wk E x T h F' cs' ss' := by
  obtain ⟨vm, k, L, X, h1, h2, h3, h4, h5, h6, h7, h8, h9, h10⟩ := W
  exact ⟨vm, k, L, X.mono hc hs, h1, h2, h3, h4, h5, h6, h7, h8, fun y hy => h9 y (hF y hy), h10⟩
theorem Wk.fOk (W : Wk E x T h F cs ss) {a : Addr} (ha : a ∈ F) : E.n ≤ a ∧ a < h.size := by
  obtain ⟨_, _, _, _, _, _, _, _, _, _, _, _, hF, _⟩ := W; exact ⟨(hF a ha).1, (hF a ha).2.1⟩
theorem pstep (W : Wk E x T h F cs ss) {g g' : JFrame} (hs : ∀ target, At T x.m x.c x.below → Steps x.p.tables x.e x.below (T.setTop g') target → Steps x.p.tables x.e x.below (T.setTop g) target) (hr : G E x T g') : G E x T g := G.of (fun t r => hs t W.here r) hr
theorem w_iloadN (W : Wk E x T h F cs ss) (B : Is x own b ml R ret nm) {k : Fin 4} {v : Int32} (d : D b pc (.iload_n k) 1 nx) (hl : Ls[k.val]? = some (.val (.int v))) (hr : G E x T (fr x nx Ls (.int v :: st))) : G E x T (fr x pc Ls st) := by
  obtain ⟨d1, rfl⟩ := d; exact pstep W (fun _ A r => XS.iloadN A B.2.2.2.2.2.2.1 rfl (by rw [B.1]; exact d1) hl r) hr
theorem w_iload (W : Wk E x T h F cs ss) (B : Is x own b ml R ret nm) {k : Nat} {v : Int32} (d : D b pc (.iload k) 2 nx) (hl : Ls[k]? = some (.val (.int v))) (hr : G E x T (fr x nx Ls (.int v :: st))) : G E x T (fr x pc Ls st) := by
  obtain ⟨d1, rfl⟩ := d; exact pstep W (fun _ A r => XS.iload A B.2.2.2.2.2.2.1 rfl (by rw [B.1]; exact d1) hl r) hr
theorem w_lloadN (W : Wk E x T h F cs ss) (B : Is x own b ml R ret nm) {k : Fin 4} {v : Int64} (d : D b pc (.lload_n k) 1 nx) (hl : Ls[k.val]? = some (.val (.long v))) (hr : G E x T (fr x nx Ls (.long v :: st))) : G E x T (fr x pc Ls st) := by
  obtain ⟨d1, rfl⟩ := d; exact pstep W (fun _ A r => XT.lloadN A B.2.2.2.2.2.2.1 rfl (by rw [B.1]; exact d1) hl r) hr
theorem w_lload (W : Wk E x T h F cs ss) (B : Is x own b ml R ret nm) {k : Nat} {v : Int64} (d : D b pc (.lload k) 2 nx) (hl : Ls[k]? = some (.val (.long v))) (hr : G E x T (fr x nx Ls (.long v :: st))) : G E x T (fr x pc Ls st) := by
  obtain ⟨d1, rfl⟩ := d; exact pstep W (fun _ A r => XT.lload A B.2.2.2.2.2.2.1 rfl (by rw [B.1]; exact d1) hl r) hr
theorem w_aloadN (W : Wk E x T h F cs ss) (B : Is x own b ml R ret nm) {k : Fin 4} {v : Value} (d : D b pc (.aload_n k) 1 nx) (hl : Ls[k.val]? = some (.val v)) (hv : v.isRef = true) (hr : G E x T (fr x nx Ls (v :: st))) : G E x T (fr x pc Ls st) := by
  obtain ⟨d1, rfl⟩ := d; exact pstep W (fun _ A r => XS.aloadN A B.2.2.2.2.2.2.1 rfl (by rw [B.1]; exact d1) hl hv r) hr
theorem w_aload (W : Wk E x T h F cs ss) (B : Is x own b ml R ret nm) {k : Nat} {v : Value} (d : D b pc (.aload k) 2 nx) (hl : Ls[k]? = some (.val v)) (hv : v.isRef = true) (hr : G E x T (fr x nx Ls (v :: st))) : G E x T (fr x pc Ls st) := by
  obtain ⟨d1, rfl⟩ := d; exact pstep W (fun _ A r => XS.aload A B.2.2.2.2.2.2.1 rfl (by rw [B.1]; exact d1) hl hv r) hr
theorem w_istoreN (W : Wk E x T h F cs ss) (B : Is x own b ml R ret nm) {k : Fin 4} {v : Int32} (d : D b pc (.istore_n k) 1 nx) (hl : storeLocals Ls k.val (.int v) = some Ls') (hr : G E x T (fr x nx Ls' st)) : G E x T (fr x pc Ls (.int v :: st)) := by
  obtain ⟨d1, rfl⟩ := d; exact pstep W (fun _ A r => XS.istoreN A B.2.2.2.2.2.2.1 rfl (by rw [B.1]; exact d1) rfl hl r) hr
theorem w_istore (W : Wk E x T h F cs ss) (B : Is x own b ml R ret nm) {k : Nat} {v : Int32} (d : D b pc (.istore k) 2 nx) (hl : storeLocals Ls k (.int v) = some Ls') (hr : G E x T (fr x nx Ls' st)) : G E x T (fr x pc Ls (.int v :: st)) := by
  obtain ⟨d1, rfl⟩ := d; exact pstep W (fun _ A r => XS.istore A B.2.2.2.2.2.2.1 rfl (by rw [B.1]; exact d1) rfl hl r) hr
theorem w_lstoreN (W : Wk E x T h F cs ss) (B : Is x own b ml R ret nm) {k : Fin 4} {v : Int64} (d : D b pc (.lstore_n k) 1 nx) (hl : storeLocals Ls k.val (.long v) = some Ls') (hr : G E x T (fr x nx Ls' st)) : G E x T (fr x pc Ls (.long v :: st)) := by
  obtain ⟨d1, rfl⟩ := d; exact pstep W (fun _ A r => XT.lstoreN A B.2.2.2.2.2.2.1 rfl (by rw [B.1]; exact d1) rfl hl r) hr
theorem w_lstore (W : Wk E x T h F cs ss) (B : Is x own b ml R ret nm) {k : Nat} {v : Int64} (d : D b pc (.lstore k) 2 nx) (hl : storeLocals Ls k (.long v) = some Ls') (hr : G E x T (fr x nx Ls' st)) : G E x T (fr x pc Ls (.long v :: st)) := by
  obtain ⟨d1, rfl⟩ := d; exact pstep W (fun _ A r => XT.lstore A B.2.2.2.2.2.2.1 rfl (by rw [B.1]; exact d1) rfl hl r) hr
theorem w_astoreN (W : Wk E x T h F cs ss) (B : Is x own b ml R ret nm) {k : Fin 4} {v : Value} (d : D b pc (.astore_n k) 1 nx) (hv : v.isRef = true) (hl : storeLocals Ls k.val v = some Ls') (hr : G E x T (fr x nx Ls' st)) : G E x T (fr x pc Ls (v :: st)) := by
  obtain ⟨d1, rfl⟩ := d; exact pstep W (fun _ A r => XS.astoreN A B.2.2.2.2.2.2.1 rfl (by rw [B.1]; exact d1) rfl hv hl r) hr
theorem w_astore (W : Wk E x T h F cs ss) (B : Is x own b ml R ret nm) {k : Nat} {v : Value} (d : D b pc (.astore k) 2 nx) (hv : v.isRef = true) (hl : storeLocals Ls k v = some Ls') (hr : G E x T (fr x nx Ls' st)) : G E x T (fr x pc Ls (v :: st)) := by
  obtain ⟨d1, rfl⟩ := d; exact pstep W (fun _ A r => XS.astore A B.2.2.2.2.2.2.1 rfl (by rw [B.1]; exact d1) rfl hv hl r) hr
theorem w_iconst (W : Wk E x T h F cs ss) (B : Is x own b ml R ret nm) {i : Int} {v : Int32} (d : D b pc (.iconst i) 1 nx) (hv : Int32.ofInt i = v) (hr : G E x T (fr x nx Ls (.int v :: st))) : G E x T (fr x pc Ls st) := by
  obtain ⟨d1, rfl⟩ := d; subst hv; exact pstep W (fun _ A r => XS.iconst A B.2.2.2.2.2.2.1 rfl (by rw [B.1]; exact d1) r) hr
theorem w_bipush (W : Wk E x T h F cs ss) (B : Is x own b ml R ret nm) {i : Int} {v : Int32} (d : D b pc (.bipush i) 2 nx) (hv : (Int8.ofInt i).toInt32 = v) (hr : G E x T (fr x nx Ls (.int v :: st))) : G E x T (fr x pc Ls st) := by
  obtain ⟨d1, rfl⟩ := d; subst hv; exact pstep W (fun _ A r => XS.bipush A B.2.2.2.2.2.2.1 rfl (by rw [B.1]; exact d1) r) hr
theorem w_sipush (W : Wk E x T h F cs ss) (B : Is x own b ml R ret nm) {i : Int} {v : Int32} (d : D b pc (.sipush i) 3 nx) (hv : (Int16.ofInt i).toInt32 = v) (hr : G E x T (fr x nx Ls (.int v :: st))) : G E x T (fr x pc Ls st) := by
  obtain ⟨d1, rfl⟩ := d; subst hv; exact pstep W (fun _ A r => XS.sipush A B.2.2.2.2.2.2.1 rfl (by rw [B.1]; exact d1) r) hr
theorem w_lconst (W : Wk E x T h F cs ss) (B : Is x own b ml R ret nm) {i : Fin 2} {v : Int64} (d : D b pc (.lconst i) 1 nx) (hv : Int64.ofNat i = v) (hr : G E x T (fr x nx Ls (.long v :: st))) : G E x T (fr x pc Ls st) := by
  obtain ⟨d1, rfl⟩ := d; subst hv; exact pstep W (fun _ A r => XT.lconst A B.2.2.2.2.2.2.1 rfl (by rw [B.1]; exact d1) r) hr
theorem w_null (W : Wk E x T h F cs ss) (B : Is x own b ml R ret nm) (d : D b pc .aconst_null 1 nx) (hr : G E x T (fr x nx Ls (.null :: st))) : G E x T (fr x pc Ls st) := by
  obtain ⟨d1, rfl⟩ := d; exact pstep W (fun _ A r => XS.aconstNull A B.2.2.2.2.2.2.1 rfl (by rw [B.1]; exact d1) r) hr
theorem w_dup (W : Wk E x T h F cs ss) (B : Is x own b ml R ret nm) {v : Value} (d : D b pc .dup 1 nx) (hc : v.category = 1) (hr : G E x T (fr x nx Ls (v :: v :: st))) : G E x T (fr x pc Ls (v :: st)) := by
  obtain ⟨d1, rfl⟩ := d; exact pstep W (fun _ A r => XS.dup A B.2.2.2.2.2.2.1 rfl (by rw [B.1]; exact d1) rfl hc r) hr
theorem w_pop (W : Wk E x T h F cs ss) (B : Is x own b ml R ret nm) {v : Value} (d : D b pc .pop 1 nx) (hc : v.category = 1) (hr : G E x T (fr x nx Ls st)) : G E x T (fr x pc Ls (v :: st)) := by
  obtain ⟨d1, rfl⟩ := d; exact pstep W (fun _ A r => XT.pop A B.2.2.2.2.2.2.1 rfl (by rw [B.1]; exact d1) rfl hc r) hr
theorem w_dupX1 (W : Wk E x T h F cs ss) (B : Is x own b ml R ret nm) {v u : Value} (d : D b pc .dup_x1 1 nx) (hc : v.category = 1) (hc' : u.category = 1) (hr : G E x T (fr x nx Ls (v :: u :: v :: st))) : G E x T (fr x pc Ls (v :: u :: st)) := by
  obtain ⟨d1, rfl⟩ := d; exact pstep W (fun _ A r => XT.dupX1 A B.2.2.2.2.2.2.1 rfl (by rw [B.1]; exact d1) rfl hc hc' r) hr
theorem w_dup2 (W : Wk E x T h F cs ss) (B : Is x own b ml R ret nm) {v u : Value} (d : D b pc .dup2 1 nx) (hc : v.category = 1) (hc' : u.category = 1) (hr : G E x T (fr x nx Ls (v :: u :: v :: u :: st))) : G E x T (fr x pc Ls (v :: u :: st)) := by
  obtain ⟨d1, rfl⟩ := d; exact pstep W (fun _ A r => XT.dup2 A B.2.2.2.2.2.2.1 rfl (by rw [B.1]; exact d1) rfl hc hc' r) hr
theorem w_iinc (W : Wk E x T h F cs ss) (B : Is x own b ml R ret nm) {k : Nat} {i : Int} {v w : Int32} (d : D b pc (.iinc k i) 3 nx) (hl : Ls[k]? = some (.val (.int v))) (hw : v + Int32.ofInt i = w) (hl' : storeLocals Ls k (.int w) = some Ls') (hr : G E x T (fr x nx Ls' st)) : G E x T (fr x pc Ls st) := by
  obtain ⟨d1, rfl⟩ := d; subst hw; exact pstep W (fun _ A r => XS.iinc A B.2.2.2.2.2.2.1 rfl (by rw [B.1]; exact d1) hl hl' r) hr
theorem w_goto (W : Wk E x T h F cs ss) (B : Is x own b ml R ret nm) (d : J b pc (.goto o) 3 nx o tg) (hr : G E x T (fr x tg Ls st)) : G E x T (fr x pc Ls st) := by
  obtain ⟨d1, -, d2, d3⟩ := d; exact pstep W (fun _ A r => XS.goto A B.2.2.2.2.2.2.1 rfl (pc0 := pc) rfl (by rw [B.1]; exact d1) d2 d3 r) hr
end Steps
end Jvm.Own
namespace Jvm.Own
open Sem ClassFile Op Lib Bundle Jvm.Stand Jvm.Free Jvm.LawKit Jvm.RoadKit
section StepsB
variable {E : Gl} {x : Cx} {T : State} {h : Heap} {F : List Addr} {cs ss : Nat} {own : String} {b : ByteArray} {ml : Nat} {R : Room} {ret : Option FieldType} {nm : String} {pc nx tg : Nat} {o : Int} {Ls Ls' : Array Slot} {st : List Value}
theorem w_iadd (W : Wk E x T h F cs ss) (B : Is x own b ml R ret nm) {u v : Int32} (d : D b pc .iadd 1 nx) (hr : G E x T (fr x nx Ls (.int (u + v) :: st))) : G E x T (fr x pc Ls (.int v :: .int u :: st)) := by
  obtain ⟨d1, rfl⟩ := d; exact pstep W (fun _ A r => XS.iadd A B.2.2.2.2.2.2.1 rfl (by rw [B.1]; exact d1) rfl r) hr
theorem w_isub (W : Wk E x T h F cs ss) (B : Is x own b ml R ret nm) {u v : Int32} (d : D b pc .isub 1 nx) (hr : G E x T (fr x nx Ls (.int (u - v) :: st))) : G E x T (fr x pc Ls (.int v :: .int u :: st)) := by
  obtain ⟨d1, rfl⟩ := d; exact pstep W (fun _ A r => XS.isub A B.2.2.2.2.2.2.1 rfl (by rw [B.1]; exact d1) rfl r) hr
theorem w_imul (W : Wk E x T h F cs ss) (B : Is x own b ml R ret nm) {u v : Int32} (d : D b pc .imul 1 nx) (hr : G E x T (fr x nx Ls (.int (u * v) :: st))) : G E x T (fr x pc Ls (.int v :: .int u :: st)) := by
  obtain ⟨d1, rfl⟩ := d; exact pstep W (fun _ A r => XS.imul A B.2.2.2.2.2.2.1 rfl (by rw [B.1]; exact d1) rfl r) hr
theorem w_iand (W : Wk E x T h F cs ss) (B : Is x own b ml R ret nm) {u v : Int32} (d : D b pc .iand 1 nx) (hr : G E x T (fr x nx Ls (.int (u &&& v) :: st))) : G E x T (fr x pc Ls (.int v :: .int u :: st)) := by
  obtain ⟨d1, rfl⟩ := d; exact pstep W (fun _ A r => XS.iand A B.2.2.2.2.2.2.1 rfl (by rw [B.1]; exact d1) rfl r) hr
theorem w_ior (W : Wk E x T h F cs ss) (B : Is x own b ml R ret nm) {u v : Int32} (d : D b pc .ior 1 nx) (hr : G E x T (fr x nx Ls (.int (u ||| v) :: st))) : G E x T (fr x pc Ls (.int v :: .int u :: st)) := by
  obtain ⟨d1, rfl⟩ := d; exact pstep W (fun _ A r => XT.ior A B.2.2.2.2.2.2.1 rfl (by rw [B.1]; exact d1) rfl r) hr
theorem w_ixor (W : Wk E x T h F cs ss) (B : Is x own b ml R ret nm) {u v : Int32} (d : D b pc .ixor 1 nx) (hr : G E x T (fr x nx Ls (.int (u ^^^ v) :: st))) : G E x T (fr x pc Ls (.int v :: .int u :: st)) := by
  obtain ⟨d1, rfl⟩ := d; exact pstep W (fun _ A r => XT.ixor A B.2.2.2.2.2.2.1 rfl (by rw [B.1]; exact d1) rfl r) hr
theorem w_idiv (W : Wk E x T h F cs ss) (B : Is x own b ml R ret nm) {u v : Int32} (d : D b pc .idiv 1 nx) (hy : v ≠ 0) (hr : G E x T (fr x nx Ls (.int (u / v) :: st))) : G E x T (fr x pc Ls (.int v :: .int u :: st)) := by
  obtain ⟨d1, rfl⟩ := d; exact pstep W (fun _ A r => XS.idiv A B.2.2.2.2.2.2.1 rfl (by rw [B.1]; exact d1) rfl hy r) hr
theorem w_ladd (W : Wk E x T h F cs ss) (B : Is x own b ml R ret nm) {u v : Int64} (d : D b pc .ladd 1 nx) (hr : G E x T (fr x nx Ls (.long (u + v) :: st))) : G E x T (fr x pc Ls (.long v :: .long u :: st)) := by
  obtain ⟨d1, rfl⟩ := d; exact pstep W (fun _ A r => XT.ladd A B.2.2.2.2.2.2.1 rfl (by rw [B.1]; exact d1) rfl r) hr
theorem w_lsub (W : Wk E x T h F cs ss) (B : Is x own b ml R ret nm) {u v : Int64} (d : D b pc .lsub 1 nx) (hr : G E x T (fr x nx Ls (.long (u - v) :: st))) : G E x T (fr x pc Ls (.long v :: .long u :: st)) := by
  obtain ⟨d1, rfl⟩ := d; exact pstep W (fun _ A r => XT.lsub A B.2.2.2.2.2.2.1 rfl (by rw [B.1]; exact d1) rfl r) hr
theorem w_lmul (W : Wk E x T h F cs ss) (B : Is x own b ml R ret nm) {u v : Int64} (d : D b pc .lmul 1 nx) (hr : G E x T (fr x nx Ls (.long (u * v) :: st))) : G E x T (fr x pc Ls (.long v :: .long u :: st)) := by
  obtain ⟨d1, rfl⟩ := d; exact pstep W (fun _ A r => XT.lmul A B.2.2.2.2.2.2.1 rfl (by rw [B.1]; exact d1) rfl r) hr
theorem w_land (W : Wk E x T h F cs ss) (B : Is x own b ml R ret nm) {u v : Int64} (d : D b pc .land 1 nx) (hr : G E x T (fr x nx Ls (.long (u &&& v) :: st))) : G E x T (fr x pc Ls (.long v :: .long u :: st)) := by
  obtain ⟨d1, rfl⟩ := d; exact pstep W (fun _ A r => XT.land A B.2.2.2.2.2.2.1 rfl (by rw [B.1]; exact d1) rfl r) hr
theorem w_lor (W : Wk E x T h F cs ss) (B : Is x own b ml R ret nm) {u v : Int64} (d : D b pc .lor 1 nx) (hr : G E x T (fr x nx Ls (.long (u ||| v) :: st))) : G E x T (fr x pc Ls (.long v :: .long u :: st)) := by
  obtain ⟨d1, rfl⟩ := d; exact pstep W (fun _ A r => XT.lor A B.2.2.2.2.2.2.1 rfl (by rw [B.1]; exact d1) rfl r) hr
theorem w_lxor (W : Wk E x T h F cs ss) (B : Is x own b ml R ret nm) {u v : Int64} (d : D b pc .lxor 1 nx) (hr : G E x T (fr x nx Ls (.long (u ^^^ v) :: st))) : G E x T (fr x pc Ls (.long v :: .long u :: st)) := by
  obtain ⟨d1, rfl⟩ := d; exact pstep W (fun _ A r => XT.lxor A B.2.2.2.2.2.2.1 rfl (by rw [B.1]; exact d1) rfl r) hr
theorem w_ldiv (W : Wk E x T h F cs ss) (B : Is x own b ml R ret nm) {u v : Int64} (d : D b pc .ldiv 1 nx) (hy : v ≠ 0) (hr : G E x T (fr x nx Ls (.long (u / v) :: st))) : G E x T (fr x pc Ls (.long v :: .long u :: st)) := by
  obtain ⟨d1, rfl⟩ := d; exact pstep W (fun _ A r => XT.ldiv A B.2.2.2.2.2.2.1 rfl (by rw [B.1]; exact d1) rfl hy r) hr
theorem w_irem (W : Wk E x T h F cs ss) (B : Is x own b ml R ret nm) {u v : Int32} (d : D b pc .irem 1 nx) (hy : v ≠ 0) (hr : G E x T (fr x nx Ls (.int (u % v) :: st))) : G E x T (fr x pc Ls (.int v :: .int u :: st)) := by
  obtain ⟨d1, rfl⟩ := d; obtain ⟨_, _, _, X, -⟩ := W; exact G.of (fun _ r => iremM X B.2.2.2.2.2.2.1 rfl (by rw [B.1]; exact d1) rfl hy r) hr
theorem w_lrem (W : Wk E x T h F cs ss) (B : Is x own b ml R ret nm) {u v : Int64} (d : D b pc .lrem 1 nx) (hy : v ≠ 0) (hr : G E x T (fr x nx Ls (.long (u % v) :: st))) : G E x T (fr x pc Ls (.long v :: .long u :: st)) := by
  obtain ⟨d1, rfl⟩ := d; rw [← lrem_mod] at hr; exact pstep W (fun _ A r => XT.lrem A B.2.2.2.2.2.2.1 rfl (by rw [B.1]; exact d1) rfl hy r) hr
theorem w_ineg (W : Wk E x T h F cs ss) (B : Is x own b ml R ret nm) {u : Int32} (d : D b pc .ineg 1 nx) (hr : G E x T (fr x nx Ls (.int (-u) :: st))) : G E x T (fr x pc Ls (.int u :: st)) := by
  obtain ⟨d1, rfl⟩ := d; exact pstep W (fun _ A r => XS.ineg A B.2.2.2.2.2.2.1 rfl (by rw [B.1]; exact d1) rfl r) hr
theorem w_lneg (W : Wk E x T h F cs ss) (B : Is x own b ml R ret nm) {u : Int64} (d : D b pc .lneg 1 nx) (hr : G E x T (fr x nx Ls (.long (-u) :: st))) : G E x T (fr x pc Ls (.long u :: st)) := by
  obtain ⟨d1, rfl⟩ := d; exact pstep W (fun _ A r => XT.lneg A B.2.2.2.2.2.2.1 rfl (by rw [B.1]; exact d1) rfl r) hr
theorem w_i2l (W : Wk E x T h F cs ss) (B : Is x own b ml R ret nm) {u : Int32} (d : D b pc .i2l 1 nx) (hr : G E x T (fr x nx Ls (.long (u.toInt64) :: st))) : G E x T (fr x pc Ls (.int u :: st)) := by
  obtain ⟨d1, rfl⟩ := d; exact pstep W (fun _ A r => XT.i2l A B.2.2.2.2.2.2.1 rfl (by rw [B.1]; exact d1) rfl r) hr
theorem w_l2i (W : Wk E x T h F cs ss) (B : Is x own b ml R ret nm) {u : Int64} (d : D b pc .l2i 1 nx) (hr : G E x T (fr x nx Ls (.int (u.toInt32) :: st))) : G E x T (fr x pc Ls (.long u :: st)) := by
  obtain ⟨d1, rfl⟩ := d; exact pstep W (fun _ A r => XT.l2i A B.2.2.2.2.2.2.1 rfl (by rw [B.1]; exact d1) rfl r) hr
theorem w_i2b (W : Wk E x T h F cs ss) (B : Is x own b ml R ret nm) {u : Int32} (d : D b pc .i2b 1 nx) (hr : G E x T (fr x nx Ls (.int (u.toInt8.toInt32) :: st))) : G E x T (fr x pc Ls (.int u :: st)) := by
  obtain ⟨d1, rfl⟩ := d; exact pstep W (fun _ A r => XT.i2b A B.2.2.2.2.2.2.1 rfl (by rw [B.1]; exact d1) rfl r) hr
theorem w_i2c (W : Wk E x T h F cs ss) (B : Is x own b ml R ret nm) {u : Int32} (d : D b pc .i2c 1 nx) (hr : G E x T (fr x nx Ls (.int (u.toUInt32.toUInt16.toUInt32.toInt32) :: st))) : G E x T (fr x pc Ls (.int u :: st)) := by
  obtain ⟨d1, rfl⟩ := d; exact pstep W (fun _ A r => XT.i2c A B.2.2.2.2.2.2.1 rfl (by rw [B.1]; exact d1) rfl r) hr
theorem w_i2s (W : Wk E x T h F cs ss) (B : Is x own b ml R ret nm) {u : Int32} (d : D b pc .i2s 1 nx) (hr : G E x T (fr x nx Ls (.int (u.toInt16.toInt32) :: st))) : G E x T (fr x pc Ls (.int u :: st)) := by
  obtain ⟨d1, rfl⟩ := d; exact pstep W (fun _ A r => XT.i2s A B.2.2.2.2.2.2.1 rfl (by rw [B.1]; exact d1) rfl r) hr
theorem w_ishl (W : Wk E x T h F cs ss) (B : Is x own b ml R ret nm) {u v : Int32} (d : D b pc .ishl 1 nx) (hr : G E x T (fr x nx Ls (.int (u <<< (v &&& 31)) :: st))) : G E x T (fr x pc Ls (.int v :: .int u :: st)) := by
  obtain ⟨d1, rfl⟩ := d; exact pstep W (fun _ A r => XT.ishl A B.2.2.2.2.2.2.1 rfl (by rw [B.1]; exact d1) rfl r) hr
theorem w_ishr (W : Wk E x T h F cs ss) (B : Is x own b ml R ret nm) {u v : Int32} (d : D b pc .ishr 1 nx) (hr : G E x T (fr x nx Ls (.int (u >>> (v &&& 31)) :: st))) : G E x T (fr x pc Ls (.int v :: .int u :: st)) := by
  obtain ⟨d1, rfl⟩ := d; exact pstep W (fun _ A r => XT.ishr A B.2.2.2.2.2.2.1 rfl (by rw [B.1]; exact d1) rfl r) hr
theorem w_iushr (W : Wk E x T h F cs ss) (B : Is x own b ml R ret nm) {u v : Int32} (d : D b pc .iushr 1 nx) (hr : G E x T (fr x nx Ls (.int (XT.ushr u v) :: st))) : G E x T (fr x pc Ls (.int v :: .int u :: st)) := by
  obtain ⟨d1, rfl⟩ := d; exact pstep W (fun _ A r => XT.iushr A B.2.2.2.2.2.2.1 rfl (by rw [B.1]; exact d1) rfl r) hr
theorem w_lshl (W : Wk E x T h F cs ss) (B : Is x own b ml R ret nm) {u : Int64} {v : Int32} (d : D b pc .lshl 1 nx) (hr : G E x T (fr x nx Ls (.long (u <<< (v.toInt64 &&& 63)) :: st))) : G E x T (fr x pc Ls (.int v :: .long u :: st)) := by
  obtain ⟨d1, rfl⟩ := d; exact pstep W (fun _ A r => XT.lshl A B.2.2.2.2.2.2.1 rfl (by rw [B.1]; exact d1) rfl r) hr
theorem w_lshr (W : Wk E x T h F cs ss) (B : Is x own b ml R ret nm) {u : Int64} {v : Int32} (d : D b pc .lshr 1 nx) (hr : G E x T (fr x nx Ls (.long (u >>> (v.toInt64 &&& 63)) :: st))) : G E x T (fr x pc Ls (.int v :: .long u :: st)) := by
  obtain ⟨d1, rfl⟩ := d; exact pstep W (fun _ A r => XT.lshr A B.2.2.2.2.2.2.1 rfl (by rw [B.1]; exact d1) rfl r) hr
theorem w_lushr (W : Wk E x T h F cs ss) (B : Is x own b ml R ret nm) {u : Int64} {v : Int32} (d : D b pc .lushr 1 nx) (hr : G E x T (fr x nx Ls (.long (XT.ushrL u v) :: st))) : G E x T (fr x pc Ls (.int v :: .long u :: st)) := by
  obtain ⟨d1, rfl⟩ := d; exact pstep W (fun _ A r => XT.lushr A B.2.2.2.2.2.2.1 rfl (by rw [B.1]; exact d1) rfl r) hr
theorem w_lcmp (W : Wk E x T h F cs ss) (B : Is x own b ml R ret nm) {u v : Int64} (d : D b pc .lcmp 1 nx) (hr : G E x T (fr x nx Ls (.int (XT.cmpL u v) :: st))) : G E x T (fr x pc Ls (.long v :: .long u :: st)) := by
  obtain ⟨d1, rfl⟩ := d; exact pstep W (fun _ A r => XT.lcmp A B.2.2.2.2.2.2.1 rfl (by rw [B.1]; exact d1) rfl r) hr
theorem w_if_eq (W : Wk E x T h F cs ss) (B : Is x own b ml R ret nm) {u : Int32} (d : J b pc (.ifCond .eq o) 3 nx o tg) (ht : u = 0 → G E x T (fr x tg Ls st)) (hf : ¬ u = 0 → G E x T (fr x nx Ls st)) : G E x T (fr x pc Ls (.int u :: st)) := by
  obtain ⟨d1, rfl, d2, d3⟩ := d
  by_cases q : u = 0
  · exact pstep W (fun _ A r => XS.ifYes A B.2.2.2.2.2.2.1 rfl (pc0 := pc) rfl (by rw [B.1]; exact d1) rfl ((if0 _ _).trans (teq q).1) d2 d3 r) (ht q)
  · exact pstep W (fun _ A r => XS.ifNo A B.2.2.2.2.2.2.1 rfl (by rw [B.1]; exact d1) rfl ((if0 _ _).trans (feq q).1) r) (hf q)
theorem w_icmp_eq (W : Wk E x T h F cs ss) (B : Is x own b ml R ret nm) {u v : Int32} (d : J b pc (.if_icmp .eq o) 3 nx o tg) (ht : u = v → G E x T (fr x tg Ls st)) (hf : ¬ u = v → G E x T (fr x nx Ls st)) : G E x T (fr x pc Ls (.int v :: .int u :: st)) := by
  obtain ⟨d1, rfl, d2, d3⟩ := d
  by_cases q : u = v
  · exact pstep W (fun _ A r => XS.icmpYes A B.2.2.2.2.2.2.1 rfl (pc0 := pc) rfl (by rw [B.1]; exact d1) rfl (teq q).1 d2 d3 r) (ht q)
  · exact pstep W (fun _ A r => XS.icmpNo A B.2.2.2.2.2.2.1 rfl (by rw [B.1]; exact d1) rfl (feq q).1 r) (hf q)
theorem w_if_ne (W : Wk E x T h F cs ss) (B : Is x own b ml R ret nm) {u : Int32} (d : J b pc (.ifCond .ne o) 3 nx o tg) (ht : ¬ u = 0 → G E x T (fr x tg Ls st)) (hf : u = 0 → G E x T (fr x nx Ls st)) : G E x T (fr x pc Ls (.int u :: st)) := by
  obtain ⟨d1, rfl, d2, d3⟩ := d
  by_cases q : u = 0
  · exact pstep W (fun _ A r => XS.ifNo A B.2.2.2.2.2.2.1 rfl (by rw [B.1]; exact d1) rfl ((if0 _ _).trans (teq q).2) r) (hf q)
  · exact pstep W (fun _ A r => XS.ifYes A B.2.2.2.2.2.2.1 rfl (pc0 := pc) rfl (by rw [B.1]; exact d1) rfl ((if0 _ _).trans (feq q).2) d2 d3 r) (ht q)
theorem w_icmp_ne (W : Wk E x T h F cs ss) (B : Is x own b ml R ret nm) {u v : Int32} (d : J b pc (.if_icmp .ne o) 3 nx o tg) (ht : ¬ u = v → G E x T (fr x tg Ls st)) (hf : u = v → G E x T (fr x nx Ls st)) : G E x T (fr x pc Ls (.int v :: .int u :: st)) := by
  obtain ⟨d1, rfl, d2, d3⟩ := d
  by_cases q : u = v
  · exact pstep W (fun _ A r => XS.icmpNo A B.2.2.2.2.2.2.1 rfl (by rw [B.1]; exact d1) rfl (teq q).2 r) (hf q)
  · exact pstep W (fun _ A r => XS.icmpYes A B.2.2.2.2.2.2.1 rfl (pc0 := pc) rfl (by rw [B.1]; exact d1) rfl (feq q).2 d2 d3 r) (ht q)
theorem w_if_lt (W : Wk E x T h F cs ss) (B : Is x own b ml R ret nm) {u : Int32} (d : J b pc (.ifCond .lt o) 3 nx o tg) (ht : u < 0 → G E x T (fr x tg Ls st)) (hf : ¬ u < 0 → G E x T (fr x nx Ls st)) : G E x T (fr x pc Ls (.int u :: st)) := by
  obtain ⟨d1, rfl, d2, d3⟩ := d
  by_cases q : u < 0
  · exact pstep W (fun _ A r => XS.ifYes A B.2.2.2.2.2.2.1 rfl (pc0 := pc) rfl (by rw [B.1]; exact d1) rfl ((if0 _ _).trans (tlt q).1) d2 d3 r) (ht q)
  · exact pstep W (fun _ A r => XS.ifNo A B.2.2.2.2.2.2.1 rfl (by rw [B.1]; exact d1) rfl ((if0 _ _).trans (flt q).1) r) (hf q)
theorem w_icmp_lt (W : Wk E x T h F cs ss) (B : Is x own b ml R ret nm) {u v : Int32} (d : J b pc (.if_icmp .lt o) 3 nx o tg) (ht : u < v → G E x T (fr x tg Ls st)) (hf : ¬ u < v → G E x T (fr x nx Ls st)) : G E x T (fr x pc Ls (.int v :: .int u :: st)) := by
  obtain ⟨d1, rfl, d2, d3⟩ := d
  by_cases q : u < v
  · exact pstep W (fun _ A r => XS.icmpYes A B.2.2.2.2.2.2.1 rfl (pc0 := pc) rfl (by rw [B.1]; exact d1) rfl (tlt q).1 d2 d3 r) (ht q)
  · exact pstep W (fun _ A r => XS.icmpNo A B.2.2.2.2.2.2.1 rfl (by rw [B.1]; exact d1) rfl (flt q).1 r) (hf q)
theorem w_if_ge (W : Wk E x T h F cs ss) (B : Is x own b ml R ret nm) {u : Int32} (d : J b pc (.ifCond .ge o) 3 nx o tg) (ht : ¬ u < 0 → G E x T (fr x tg Ls st)) (hf : u < 0 → G E x T (fr x nx Ls st)) : G E x T (fr x pc Ls (.int u :: st)) := by
  obtain ⟨d1, rfl, d2, d3⟩ := d
  by_cases q : u < 0
  · exact pstep W (fun _ A r => XS.ifNo A B.2.2.2.2.2.2.1 rfl (by rw [B.1]; exact d1) rfl ((if0 _ _).trans (tlt q).2.1) r) (hf q)
  · exact pstep W (fun _ A r => XS.ifYes A B.2.2.2.2.2.2.1 rfl (pc0 := pc) rfl (by rw [B.1]; exact d1) rfl ((if0 _ _).trans (flt q).2.1) d2 d3 r) (ht q)
theorem w_icmp_ge (W : Wk E x T h F cs ss) (B : Is x own b ml R ret nm) {u v : Int32} (d : J b pc (.if_icmp .ge o) 3 nx o tg) (ht : ¬ u < v → G E x T (fr x tg Ls st)) (hf : u < v → G E x T (fr x nx Ls st)) : G E x T (fr x pc Ls (.int v :: .int u :: st)) := by
  obtain ⟨d1, rfl, d2, d3⟩ := d
  by_cases q : u < v
  · exact pstep W (fun _ A r => XS.icmpNo A B.2.2.2.2.2.2.1 rfl (by rw [B.1]; exact d1) rfl (tlt q).2.1 r) (hf q)
  · exact pstep W (fun _ A r => XS.icmpYes A B.2.2.2.2.2.2.1 rfl (pc0 := pc) rfl (by rw [B.1]; exact d1) rfl (flt q).2.1 d2 d3 r) (ht q)
theorem w_if_gt (W : Wk E x T h F cs ss) (B : Is x own b ml R ret nm) {u : Int32} (d : J b pc (.ifCond .gt o) 3 nx o tg) (ht : 0 < u → G E x T (fr x tg Ls st)) (hf : ¬ 0 < u → G E x T (fr x nx Ls st)) : G E x T (fr x pc Ls (.int u :: st)) := by
  obtain ⟨d1, rfl, d2, d3⟩ := d
  by_cases q : 0 < u
  · exact pstep W (fun _ A r => XS.ifYes A B.2.2.2.2.2.2.1 rfl (pc0 := pc) rfl (by rw [B.1]; exact d1) rfl ((if0 _ _).trans (tlt q).2.2.1) d2 d3 r) (ht q)
  · exact pstep W (fun _ A r => XS.ifNo A B.2.2.2.2.2.2.1 rfl (by rw [B.1]; exact d1) rfl ((if0 _ _).trans (flt q).2.2.1) r) (hf q)
theorem w_icmp_gt (W : Wk E x T h F cs ss) (B : Is x own b ml R ret nm) {u v : Int32} (d : J b pc (.if_icmp .gt o) 3 nx o tg) (ht : v < u → G E x T (fr x tg Ls st)) (hf : ¬ v < u → G E x T (fr x nx Ls st)) : G E x T (fr x pc Ls (.int v :: .int u :: st)) := by
  obtain ⟨d1, rfl, d2, d3⟩ := d
  by_cases q : v < u
  · exact pstep W (fun _ A r => XS.icmpYes A B.2.2.2.2.2.2.1 rfl (pc0 := pc) rfl (by rw [B.1]; exact d1) rfl (tlt q).2.2.1 d2 d3 r) (ht q)
  · exact pstep W (fun _ A r => XS.icmpNo A B.2.2.2.2.2.2.1 rfl (by rw [B.1]; exact d1) rfl (flt q).2.2.1 r) (hf q)
theorem w_if_le (W : Wk E x T h F cs ss) (B : Is x own b ml R ret nm) {u : Int32} (d : J b pc (.ifCond .le o) 3 nx o tg) (ht : ¬ 0 < u → G E x T (fr x tg Ls st)) (hf : 0 < u → G E x T (fr x nx Ls st)) : G E x T (fr x pc Ls (.int u :: st)) := by
  obtain ⟨d1, rfl, d2, d3⟩ := d
  by_cases q : 0 < u
  · exact pstep W (fun _ A r => XS.ifNo A B.2.2.2.2.2.2.1 rfl (by rw [B.1]; exact d1) rfl ((if0 _ _).trans (tlt q).2.2.2) r) (hf q)
  · exact pstep W (fun _ A r => XS.ifYes A B.2.2.2.2.2.2.1 rfl (pc0 := pc) rfl (by rw [B.1]; exact d1) rfl ((if0 _ _).trans (flt q).2.2.2) d2 d3 r) (ht q)
theorem w_icmp_le (W : Wk E x T h F cs ss) (B : Is x own b ml R ret nm) {u v : Int32} (d : J b pc (.if_icmp .le o) 3 nx o tg) (ht : ¬ v < u → G E x T (fr x tg Ls st)) (hf : v < u → G E x T (fr x nx Ls st)) : G E x T (fr x pc Ls (.int v :: .int u :: st)) := by
  obtain ⟨d1, rfl, d2, d3⟩ := d
  by_cases q : v < u
  · exact pstep W (fun _ A r => XS.icmpNo A B.2.2.2.2.2.2.1 rfl (by rw [B.1]; exact d1) rfl (tlt q).2.2.2 r) (hf q)
  · exact pstep W (fun _ A r => XS.icmpYes A B.2.2.2.2.2.2.1 rfl (pc0 := pc) rfl (by rw [B.1]; exact d1) rfl (flt q).2.2.2 d2 d3 r) (ht q)
theorem w_ifnull_null (W : Wk E x T h F cs ss) (B : Is x own b ml R ret nm) (d : J b pc (.ifnull o) 3 nx o tg) (hr : G E x T (fr x tg Ls st)) : G E x T (fr x pc Ls (.null :: st)) := by
  obtain ⟨d1, rfl, d2, d3⟩ := d; exact pstep W (fun _ A r => XS.ifnullYes A B.2.2.2.2.2.2.1 rfl (pc0 := pc) rfl (by rw [B.1]; exact d1) rfl d2 d3 r) hr
theorem w_ifnull_ref (W : Wk E x T h F cs ss) (B : Is x own b ml R ret nm) {a : Addr} (d : J b pc (.ifnull o) 3 nx o tg) (hr : G E x T (fr x nx Ls st)) : G E x T (fr x pc Ls (.ref a :: st)) := by
  obtain ⟨d1, rfl, d2, d3⟩ := d; exact pstep W (fun _ A r => XS.ifnullNo A B.2.2.2.2.2.2.1 rfl (by rw [B.1]; exact d1) rfl r) hr
theorem w_ifnonnull_null (W : Wk E x T h F cs ss) (B : Is x own b ml R ret nm) (d : J b pc (.ifnonnull o) 3 nx o tg) (hr : G E x T (fr x nx Ls st)) : G E x T (fr x pc Ls (.null :: st)) := by
  obtain ⟨d1, rfl, d2, d3⟩ := d; exact pstep W (fun _ A r => XT.ifnonnullNo A B.2.2.2.2.2.2.1 rfl (by rw [B.1]; exact d1) rfl r) hr
theorem w_ifnonnull_ref (W : Wk E x T h F cs ss) (B : Is x own b ml R ret nm) {a : Addr} (d : J b pc (.ifnonnull o) 3 nx o tg) (hr : G E x T (fr x tg Ls st)) : G E x T (fr x pc Ls (.ref a :: st)) := by
  obtain ⟨d1, rfl, d2, d3⟩ := d; exact pstep W (fun _ A r => XT.ifnonnullYes A B.2.2.2.2.2.2.1 rfl (pc0 := pc) rfl (by rw [B.1]; exact d1) rfl d2 d3 r) hr
theorem w_acmp_eq_y (W : Wk E x T h F cs ss) (B : Is x own b ml R ret nm) {u v : Value} (d : J b pc (.if_acmp .eq o) 3 nx o tg) (h1 : u.isRef = true) (h2 : v.isRef = true) (q : u = v) (hr : G E x T (fr x tg Ls st)) : G E x T (fr x pc Ls (v :: u :: st)) := by
  obtain ⟨d1, rfl, d2, d3⟩ := d; exact pstep W (fun _ A r => XT.acmpYes A B.2.2.2.2.2.2.1 rfl (pc0 := pc) rfl (by rw [B.1]; exact d1) rfl h1 h2 (by simp [XT.acmp, q]) d2 d3 r) hr
theorem w_acmp_eq_n (W : Wk E x T h F cs ss) (B : Is x own b ml R ret nm) {u v : Value} (d : J b pc (.if_acmp .eq o) 3 nx o tg) (h1 : u.isRef = true) (h2 : v.isRef = true) (q : u ≠ v) (hr : G E x T (fr x nx Ls st)) : G E x T (fr x pc Ls (v :: u :: st)) := by
  obtain ⟨d1, rfl, d2, d3⟩ := d; exact pstep W (fun _ A r => XT.acmpNo A B.2.2.2.2.2.2.1 rfl (by rw [B.1]; exact d1) rfl h1 h2 (by simp [XT.acmp, q]) r) hr
theorem w_acmp_ne_y (W : Wk E x T h F cs ss) (B : Is x own b ml R ret nm) {u v : Value} (d : J b pc (.if_acmp .ne o) 3 nx o tg) (h1 : u.isRef = true) (h2 : v.isRef = true) (q : u = v) (hr : G E x T (fr x nx Ls st)) : G E x T (fr x pc Ls (v :: u :: st)) := by
  obtain ⟨d1, rfl, d2, d3⟩ := d; exact pstep W (fun _ A r => XT.acmpNo A B.2.2.2.2.2.2.1 rfl (by rw [B.1]; exact d1) rfl h1 h2 (by simp [XT.acmp, q]) r) hr
theorem w_acmp_ne_n (W : Wk E x T h F cs ss) (B : Is x own b ml R ret nm) {u v : Value} (d : J b pc (.if_acmp .ne o) 3 nx o tg) (h1 : u.isRef = true) (h2 : v.isRef = true) (q : u ≠ v) (hr : G E x T (fr x tg Ls st)) : G E x T (fr x pc Ls (v :: u :: st)) := by
  obtain ⟨d1, rfl, d2, d3⟩ := d; exact pstep W (fun _ A r => XT.acmpYes A B.2.2.2.2.2.2.1 rfl (pc0 := pc) rfl (by rw [B.1]; exact d1) rfl h1 h2 (by simp [XT.acmp, q]) d2 d3 r) hr
end StepsB
end Jvm.Own
namespace Jvm.Own
open Sem ClassFile Op Lib Bundle Jvm.Stand Jvm.Free Jvm.LawKit Jvm.RoadKit
theorem chr_nil (Z : State) {vm vm1 : Vm} {h h' : Heap} (q : h.size ≤ h'.size) : CHr Z [] vm h vm1 h' := ⟨(fun _ hp => nomatch hp), q, fun _ B => by obtain ⟨_, hp, _⟩ := B; exact nomatch hp⟩
theorem safe_nil (Z : State) (vm : Vm) (h : Heap) (x : Addr) : Safe Z [] vm h x := fun B => by obtain ⟨_, hp, _⟩ := B; exact nomatch hp
section StepsC
variable {E : Gl} {x : Cx} {T : State} {h : Heap} {F : List Addr} {cs ss : Nat} {own : String} {b : ByteArray} {ml : Nat} {R : Room} {ret : Option FieldType} {nm : String} {pc nx tg : Nat} {o : Int} {Ls Ls' : Array Slot} {st stk : List Value}
/-- a walk opened: the Stand, and how it is closed behind a step that adds cells, and behind one that writes a place that may be written -/
theorem Wk.open (W : Wk E x T h F cs ss) (B : Is x own b ml R ret nm) : ∃ (vm : Vm) (L : List Loc), Stand x.p E.l x.e x.R (x.s.setVm vm) x.m x.args x.below x.meth x.c T L cs ss ∧ T.heap = h ∧ E.Z.Warmed39 (x.s.setVm vm).vm ∧ (x.s.setVm vm).vm.findClass own = some x.m.cls ∧
    (∀ (T' : State) (h' : Heap) (cs' ss' : Nat), Stand x.p E.l x.e x.R (x.s.setVm vm) x.m x.args x.below x.meth x.c T' L cs' ss' → T'.heap = h' → Ext h h' → Wk E x T' h' F cs' ss' ∧ ∀ y, h.size ≤ y → y < h'.size → Wk E x T' h' (y :: F) cs' ss') ∧
    (∀ (a : Addr) (sl : Nat) (v : Value) (T' : State) (h' : Heap), a ∈ F → Stand x.p E.l x.e x.R (x.s.setVm vm) x.m x.args x.below x.meth x.c T' (L ++ [⟨a, sl⟩]) cs ss → T'.heap = h' → Wr h h' a sl v → Wk E x T' h' F cs ss) := by
  obtain ⟨vm, k, L, X, h1, h2, h3, h4, h5, h6, h7, h8, h9, h10⟩ := W
  refine ⟨vm, L, X, h1, h5, ?_, ?_, ?_⟩
  · show vm.findClass own = _
    rw [h2.1.alike.findClass]; exact B.2.2.2.2.2.2.2
  · intro T' h' cs' ss' X' e' Ex
    have c1 : CHr E.Z E.K vm h vm h' := CHr.ext Ex h8.1
    have f1 : FOk E vm h' F := fun y hy => ⟨(h9 y hy).1, Nat.lt_of_lt_of_le (h9 y hy).2.1 Ex.1, c1.safe (h9 y hy).2.1 (h9 y hy).2.2⟩
    have n1 : E.n ≤ h.size := by rw [← h7.1]; exact h7.2.1
    refine ⟨⟨vm, k, L, X', e', h2, Nat.le_trans h3 Ex.1, h4, h5, h6, h7.ext Ex, h8.trans c1, f1, h10⟩, fun y hy1 hy2 => ⟨vm, k, L, X', e', h2, Nat.le_trans h3 Ex.1, h4, h5, h6, h7.ext Ex, h8.trans c1, fun z hz => ?_, h10⟩⟩
    rcases List.mem_cons.mp hz with rfl | hz
    · exact ⟨Nat.le_trans n1 hy1, hy2, Safe.ext Ex h8.1 (Safe.new hy1)⟩
    · exact f1 z hz
  · intro a sl v T' h' ha X' e' Wr'
    have c1 : CHr E.Z E.K vm h vm h' := CHr.wr Wr' (h9 a ha).2.2 h8.1
    exact ⟨vm, k, _, X', e', h2, by rw [Wr'.size]; exact h3, h4, h5, Fr.snoc X' h6 (h9 a ha).1, h7.wr Wr' (h9 a ha).1, h8.trans c1, fun y hy => ⟨(h9 y hy).1, by rw [Wr'.size]; exact (h9 y hy).2.1, c1.safe (h9 y hy).2.1 (h9 y hy).2.2⟩, h10⟩
theorem Wk.openK (W : Wk E x T h F cs ss) (B : Is x own b ml R ret nm) : ∃ (vm : Vm) (L : List Loc), Stand x.p E.l x.e x.R (x.s.setVm vm) x.m x.args x.below x.meth x.c T L cs ss ∧ T.heap = h ∧ E.Z.Warmed39 (x.s.setVm vm).vm ∧ (x.s.setVm vm).vm.findClass own = some x.m.cls ∧ Fr E.n L ∧
    (∀ (T' : State) (h' : Heap) (L' : List Loc) (ws : List Addr) (cs' ss' : Nat), Stand x.p E.l x.e x.R (x.s.setVm vm) x.m x.args x.below x.meth x.c T' L' cs' ss' → T'.heap = h' → Fr E.n L' → Keep h h' ws → (∀ y ∈ ws, y ∈ F) → Wk E x T' h' F cs' ss') := by
  obtain ⟨vm, k, L, X, h1, h2, h3, h4, h5, h6, h7, h8, h9, h10⟩ := W
  refine ⟨vm, L, X, h1, h5, ?_, h6, ?_⟩
  · show vm.findClass own = _
    rw [h2.1.alike.findClass]; exact B.2.2.2.2.2.2.2
  · intro T' h' L' ws cs' ss' X' e' N K hws
    have c1 : CHr E.Z E.K vm h vm h' := CHr.keep K (fun y hy => (h9 y (hws y hy)).2.2) h8.1
    exact ⟨vm, k, L', X', e', h2, Nat.le_trans h3 K.1, h4, h5, N, h7.keep K (fun y hy => (h9 y (hws y hy)).1), h8.trans c1, fun y hy => ⟨(h9 y hy).1, Nat.lt_of_lt_of_le (h9 y hy).2.1 K.1, c1.safe (h9 y hy).2.1 (h9 y hy).2.2⟩, h10⟩
theorem w_arraycopy (W : Wk E x T h F cs ss) (B : Is x own b ml R ret nm) {index : Nat} {a v : Addr} {k k' : ClassId} {ty : FieldType} {z z' sp dp nn : Int32} {vs vd us : List Value} {dv dd : Value} (d : D b pc (.invokestatic index) 3 nx)
    (w1 : (Cond.methodLink own index Jvm.Stand.acN).before E.a E.Z = true) (w2 : (Cond.native Jvm.Stand.acN).before E.a E.Z = true) (w3 : (Cond.static Jvm.Stand.acN).before E.a E.Z = true) (w4 : (Cond.initialized "java/lang/System").before E.a E.Z = true)
    (hF : v ∈ F) (A : Arv E.Z h a k ty z vs dv) (Bd : Arv E.Z h v k' ty z' vd dd) (hty : refKind ty = false) (h1 : ¬ sp < 0) (h2 : ¬ dp < 0) (h3 : ¬ nn < 0) (h4 : sp.toNatClampNeg + nn.toNatClampNeg ≤ z.toNatClampNeg) (h5 : dp.toNatClampNeg + nn.toNatClampNeg ≤ z'.toNatClampNeg)
    (hus : us = (List.range nn.toNatClampNeg).map fun i => vs.getD (sp.toNatClampNeg + i) dv) (hl : dp.toNatClampNeg + nn.toNatClampNeg ≤ vd.length) (hsz : Ls.size = ml) (hf : 1 ≤ R.frames) {Wt : Nat} (hW : (st.map fun v => v.category).sum ≤ Wt) (hlo : Wt + (nativeFrameWords "java/lang/System" "arraycopy" 5 + 11) ≤ R.locals)
    (hr : ∀ (T' : State) (h' : Heap), Wk E x T' h' F cs ss → Keep h h' [v] → Arv E.Z h' v k' ty z' (vd.take dp.toNatClampNeg ++ us ++ vd.drop (dp.toNatClampNeg + nn.toNatClampNeg)) dd → G E x T' (fr x nx Ls st)) : G E x T (fr x pc Ls (.int nn :: .int dp :: .ref v :: .int sp :: .ref a :: st)) := by
  obtain ⟨d1, rfl⟩ := d
  have hge := (W.fOk hF).1
  obtain ⟨vm, L, X, e, hZ, hown, N, cl⟩ := W.openK B
  obtain ⟨T', h', L', X', e', N', K, A', stp⟩ := cpA X B.2.2.2.2.2.2.1 hZ hown w1 w2 w3 w4 e A Bd (Or.inl ⟨rfl, hty⟩) h1 h2 h3 h4 h5 hus hl N hge (g := fr x pc Ls (.int nn :: .int dp :: .ref v :: .int sp :: .ref a :: st)) rfl (hsz.trans B.2.1.symm) rfl (by rw [B.1]; exact d1) (by rw [B.2.2.1]; exact hf) (W := Wt) (by show 2 * 0 + _ ≤ _; omega) (by rw [B.2.2.1]; exact hlo)
  exact G.of stp (hr T' h' (cl T' h' L' [v] cs ss X' e' N' K (fun y hy => by rw [List.mem_singleton.mp hy]; exact hF)) K A')
theorem w_new (W : Wk E x T h F cs ss) (B : Is x own b ml R ret nm) {C : String} {index n : Nat} (d : D b pc (.new index) 3 nx) (w : (Cond.classLink own index C).before E.a E.Z = true) (wi : (Cond.instantiable C n).before E.a E.Z = true) (wz : (Cond.initialized C).before E.a E.Z = true) (hc : cs + 1 ≤ R.cells) (hl : ss + n ≤ R.slots)
    (hr : ∀ (T' : State) (h' : Heap) (a : Addr), Wk E x T' h' (a :: F) (cs + 1) (ss + n) → a = h.size → Ext h h' → Exa E.Z h' a C → (∀ {O f t : String} {ty : FieldType}, Laid E.Z E.a C O f t → parseFieldDescriptor t = some ty → Fld E.Z h' a O f t (defaultValue ty)) → G E x T' (fr x nx Ls (.ref a :: st))) : G E x T (fr x pc Ls st) := by
  obtain ⟨d1, rfl⟩ := d
  obtain ⟨vm, L, X, e, hZ, hown, cl, -⟩ := W.open B
  obtain ⟨T', h', X', e', Ex, A, D, -, stp⟩ := newO X B.2.2.2.2.2.2.1 hZ hown w wi wz e (g := fr x pc Ls st) rfl (by rw [B.1]; exact d1) (by rw [B.2.2.1]; exact hc) (by rw [B.2.2.1]; exact hl)
  exact G.of stp (hr T' h' _ ((cl T' h' _ _ X' e' Ex).2 _ (Nat.le_refl _) A.lt) rfl Ex A D)
theorem w_newarray (W : Wk E x T h F cs ss) (B : Is x own b ml R ret nm) {aty : ArrayType} {ty : FieldType} {n : Int32} {cap : Nat} (d : D b pc (.newarray aty) 2 nx) (ety : newarray.typeOf aty = ty) (w : (Cond.arrayClass ty).before E.a E.Z = true) (hn : ¬ n < 0) (hcap : n.toNatClampNeg ≤ cap) (hb : cap * 8 ≤ 536870912) (hc : cs + 1 ≤ R.cells) (hl : ss + cap ≤ R.slots)
    (hr : ∀ (T' : State) (h' : Heap) (a : Addr) (k : ClassId), Wk E x T' h' (a :: F) (cs + 1) (ss + cap) → a = h.size → Ext h h' → Arv E.Z h' a k ty n [] (defaultValue ty) → G E x T' (fr x nx Ls (.ref a :: st))) : G E x T (fr x pc Ls (.int n :: st)) := by
  obtain ⟨d1, rfl⟩ := d
  subst ety
  obtain ⟨vm, L, X, e, hZ, hown, cl, -⟩ := W.open B
  obtain ⟨T', h', cA, X', e', Ex, A, stp⟩ := newP X B.2.2.2.2.2.2.1 hZ w e (g := fr x pc Ls (.int n :: st)) rfl (by rw [B.1]; exact d1) rfl hn hcap hb (by rw [B.2.2.1]; exact hc) (by rw [B.2.2.1]; exact hl)
  exact G.of stp (hr T' h' _ cA ((cl T' h' _ _ X' e' Ex).2 _ (Nat.le_refl _) A.lt) rfl Ex (Arv.new A hn))
theorem w_anewarray (W : Wk E x T h F cs ss) (B : Is x own b ml R ret nm) {C ad : String} {index : Nat} {n : Int32} {cap : Nat} (d : D b pc (.anewarray index) 3 nx) (w1 : (Cond.classLink own index C).before E.a E.Z = true) (w2 : (Cond.arrayOver (.object C)).before E.a E.Z = true) (hn : ¬ n < 0) (hcap : n.toNatClampNeg ≤ cap) (hb : cap * 8 ≤ 536870912) (hc : cs + 1 ≤ R.cells) (hl : ss + cap ≤ R.slots)
    (hr : ∀ (T' : State) (h' : Heap) (a : Addr) (k : ClassId), Wk E x T' h' (a :: F) (cs + 1) (ss + cap) → a = h.size → Ext h h' → Arv E.Z h' a k (.object C) n [] .null → Ovr E.Z k C → G E x T' (fr x nx Ls (.ref a :: st))) : G E x T (fr x pc Ls (.int n :: st)) := by
  obtain ⟨d1, rfl⟩ := d
  obtain ⟨vm, L, X, e, hZ, hown, cl, -⟩ := W.open B
  obtain ⟨T', h', cA, X', e', Ex, A, O, stp⟩ := newR X B.2.2.2.2.2.2.1 hZ hown w1 w2 e (g := fr x pc Ls (.int n :: st)) rfl (by rw [B.1]; exact d1) rfl hn hcap hb (by rw [B.2.2.1]; exact hc) (by rw [B.2.2.1]; exact hl)
  exact G.of stp (hr T' h' _ cA ((cl T' h' _ _ X' e' Ex).2 _ (Nat.le_refl _) A.lt) rfl Ex (Arv.new A hn) O)
theorem w_getF (W : Wk E x T h F cs ss) (B : Is x own b ml R ret nm) {R0 O n t : String} {index : Nat} {a : Addr} {v : Value} (d : D b pc (.getfield index) 3 nx) (w : (Cond.fieldLink own index R0 n t).before E.a E.Z = true) (via : Via E.Z R0 O n t) (Fl : Fld E.Z h a O n t v)
    (hr : ∀ (T' : State), Wk E x T' h F cs ss → G E x T' (fr x nx Ls (v :: st))) : G E x T (fr x pc Ls (.ref a :: st)) := by
  obtain ⟨d1, rfl⟩ := d
  obtain ⟨vm, L, X, e, hZ, hown, cl, -⟩ := W.open B
  obtain ⟨T', X', e', stp⟩ := getF X B.2.2.2.2.2.2.1 hZ hown (host := "") (Or.inl w) via e Fl (g := fr x pc Ls (.ref a :: st)) rfl rfl (by rw [B.1]; exact d1)
  exact G.of stp (hr T' (cl T' h _ _ X' e' ⟨Nat.le_refl _, fun _ _ q => q⟩).1)
theorem w_getFN (W : Wk E x T h F cs ss) (B : Is x own b ml R ret nm) {R0 O n t host : String} {index : Nat} {a : Addr} {v : Value} (d : D b pc (.getfield index) 3 nx) (w : (Cond.fieldLinkNest own index R0 n t host).before E.a E.Z = true) (via : Via E.Z R0 O n t) (Fl : Fld E.Z h a O n t v)
    (hr : ∀ (T' : State), Wk E x T' h F cs ss → G E x T' (fr x nx Ls (v :: st))) : G E x T (fr x pc Ls (.ref a :: st)) := by
  obtain ⟨d1, rfl⟩ := d
  obtain ⟨vm, L, X, e, hZ, hown, cl, -⟩ := W.open B
  obtain ⟨T', X', e', stp⟩ := getF X B.2.2.2.2.2.2.1 hZ hown (Or.inr w) via e Fl (g := fr x pc Ls (.ref a :: st)) rfl rfl (by rw [B.1]; exact d1)
  exact G.of stp (hr T' (cl T' h _ _ X' e' ⟨Nat.le_refl _, fun _ _ q => q⟩).1)
theorem w_getS (W : Wk E x T h F cs ss) (B : Is x own b ml R ret nm) {R0 O n t : String} {index : Nat} {v : Value} (d : D b pc (.getstatic index) 3 nx) (w : (Cond.fieldLink own index R0 n t).before E.a E.Z = true) (via : Via E.Z R0 O n t) (Fl : Sta E.Z E.Z.heap O n t v)
    (hr : ∀ (T' : State), Wk E x T' h F cs ss → G E x T' (fr x nx Ls (v :: st))) : G E x T (fr x pc Ls st) := by
  obtain ⟨d1, rfl⟩ := d
  have Ol := W.old
  obtain ⟨vm, L, X, e, hZ, hown, cl, -⟩ := W.open B
  obtain ⟨T', X', e', stp⟩ := getS X B.2.2.2.2.2.2.1 hZ hown (host := "") w via e (Fl.ext Ol) (g := fr x pc Ls st) rfl (by rw [B.1]; exact d1)
  exact G.of stp (hr T' (cl T' h _ _ X' e' ⟨Nat.le_refl _, fun _ _ q => q⟩).1)
theorem w_putF (W : Wk E x T h F cs ss) (B : Is x own b ml R ret nm) {R0 O n t C : String} {index kk : Nat} {ty : FieldType} {a : Addr} {v v' old : Value} (d : D b pc (.putfield index) 3 nx) (hF : a ∈ F) (w : (Cond.fieldLink own index R0 n t).before E.a E.Z = true) (via : Via E.Z R0 O n t) (Fl : Fld E.Z h a O n t old) (Ex : Exa E.Z h a C)
    (Ly : (Cond.lays C O n t).before E.a E.Z = true ∨ ((Cond.laysFinal C O n t).before E.a E.Z = true ∧ own = O ∧ nm = "<init>")) (wi : (Cond.instantiable C kk).before E.a E.Z = true) (hty : parseFieldDescriptor t = some ty) (hn : narrow ty v = v') (hf : fits ty v' = true)
    (hr : ∀ (T' : State) (h' : Heap), Wk E x T' h' F cs ss → Wr h h' a (Jvm.RoadKit.slotOf E.Z O n t) v' → Fld E.Z h' a O n t v' → G E x T' (fr x nx Ls st)) : G E x T (fr x pc Ls (v :: .ref a :: st)) := by
  obtain ⟨d1, rfl⟩ := d
  obtain ⟨vm, L, X, e, hZ, hown, -, cl⟩ := W.open B
  obtain ⟨T', h', X', e', Wr', stp⟩ := putFN X B.2.2.2.2.2.2.1 hZ hown w via e Fl Ex (Ly.imp id fun q => ⟨q.1, q.2.1, B.2.2.2.2.1.trans q.2.2⟩) wi hty hn hf (g := fr x pc Ls (v :: .ref a :: st)) rfl rfl (by rw [B.1]; exact d1)
  exact G.of stp (hr T' h' (cl a _ _ T' h' hF X' e' Wr') Wr' (Fl.same Wr'))
theorem w_castY (W : Wk E x T h F cs ss) (B : Is x own b ml R ret nm) {K : String} {index : Nat} {a : Addr} (d : D b pc (.checkcast index) 3 nx) (w : (Cond.classLink own index K).before E.a E.Z = true) (I : Ins E.Z h a K true)
    (hr : ∀ (T' : State), Wk E x T' h F cs ss → G E x T' (fr x nx Ls (.ref a :: st))) : G E x T (fr x pc Ls (.ref a :: st)) := by
  obtain ⟨d1, rfl⟩ := d
  obtain ⟨vm, L, X, e, hZ, hown, cl, -⟩ := W.open B
  obtain ⟨T', X', e', stp⟩ := castY X B.2.2.2.2.2.2.1 hZ hown w e I (g := fr x pc Ls (.ref a :: st)) rfl rfl (by rw [B.1]; exact d1)
  exact G.of stp (hr T' (cl T' h _ _ X' e' ⟨Nat.le_refl _, fun _ _ q => q⟩).1)
theorem w_castNull (W : Wk E x T h F cs ss) (B : Is x own b ml R ret nm) {index : Nat} (d : D b pc (.checkcast index) 3 nx) (hr : G E x T (fr x nx Ls (.null :: st))) : G E x T (fr x pc Ls (.null :: st)) := by
  obtain ⟨d1, rfl⟩ := d
  obtain ⟨vm, L, X, e, hZ, hown, cl, -⟩ := W.open B
  exact G.of (fun t r => X.checkcastNull B.2.2.2.2.2.2.1 (g := fr x pc Ls (.null :: st)) rfl rfl (by rw [B.1]; exact d1) t r) hr
theorem w_instY (W : Wk E x T h F cs ss) (B : Is x own b ml R ret nm) {K : String} {index : Nat} {a : Addr} (d : D b pc (.instanceof index) 3 nx) (w : (Cond.classLink own index K).before E.a E.Z = true) (I : Ins E.Z h a K true)
    (hr : ∀ (T' : State), Wk E x T' h F cs ss → G E x T' (fr x nx Ls (.int 1 :: st))) : G E x T (fr x pc Ls (.ref a :: st)) := by
  obtain ⟨d1, rfl⟩ := d
  obtain ⟨vm, L, X, e, hZ, hown, cl, -⟩ := W.open B
  obtain ⟨T', X', e', stp⟩ := instY X B.2.2.2.2.2.2.1 hZ hown w e I (g := fr x pc Ls (.ref a :: st)) rfl rfl (by rw [B.1]; exact d1)
  exact G.of stp (hr T' (cl T' h _ _ X' e' ⟨Nat.le_refl _, fun _ _ q => q⟩).1)
theorem w_initO (W : Wk E x T h F cs ss) (B : Is x own b ml R ret nm) {index : Nat} {a : Addr} (d : D b pc (.invokespecial index) 3 nx) (w1 : (Cond.methodLink own index Lib.objectInit).before E.a E.Z = true) (w2 : (Cond.instanceMethod Lib.objectInit).before E.a E.Z = true) (w3 : (Cond.code Lib.objectInit ⟨#[0xb1]⟩ 1 none).before E.a E.Z = true)
    (hsz : Ls.size = ml) (hf : 1 ≤ R.frames) {Wt : Nat} (hW : (st.map fun v => v.category).sum ≤ Wt) (hl : Wt + 12 ≤ R.locals) (hr : ∀ (T' : State), Wk E x T' h F cs ss → G E x T' (fr x nx Ls st)) : G E x T (fr x pc Ls (.ref a :: st)) := by
  obtain ⟨d1, rfl⟩ := d
  obtain ⟨vm, L, X, e, hZ, hown, cl, -⟩ := W.open B
  obtain ⟨T', X', e', stp⟩ := initO X B.2.2.2.2.2.2.1 hZ hown w1 w2 w3 e (g := fr x pc Ls (.ref a :: st)) rfl (hsz.trans B.2.1.symm) rfl (by rw [B.1]; exact d1) (by rw [B.2.2.1]; exact hf) (W := Wt) (by show 2 * 0 + _ ≤ _; omega) (by rw [B.2.2.1]; exact hl)
  exact G.of stp (hr T' (cl T' h _ _ X' e' ⟨Nat.le_refl _, fun _ _ q => q⟩).1)
theorem w_arraylength (W : Wk E x T h F cs ss) (B : Is x own b ml R ret nm) {a : Addr} {k : ClassId} {ty : FieldType} {n : Int32} {vs : List Value} {dv : Value} (d : D b pc .arraylength 1 nx) (A : Arv E.Z h a k ty n vs dv) (hr : G E x T (fr x nx Ls (.int n :: st))) : G E x T (fr x pc Ls (.ref a :: st)) := by
  obtain ⟨d1, rfl⟩ := d
  obtain ⟨vm, L, X, e, hZ, hown, -, -⟩ := W.open B
  obtain ⟨c, A, -, S, N, -, -⟩ := A
  refine G.of (fun t r => X.arraylength B.2.2.2.2.2.2.1 (by rw [e]; exact A.1) (State.isArrayOf_alike hZ.alike A.2.1) (g := fr x pc Ls (.ref a :: st)) rfl rfl (by rw [B.1]; exact d1) t ?_) hr
  rw [len_of S N]; exact r
theorem arv_at {Z : State} {h : Heap} {a : Addr} {k : ClassId} {ty : FieldType} {n : Int32} {vs : List Value} {dv : Value} {c : Cell} {j : Int32} {v : Value} (S : c.slots.size = n.toNatClampNeg) (H : Has c vs dv) (hj : ¬ j < 0 ∧ j < n) (hv : vs.getD j.toNatClampNeg dv = v) : ¬ (j < 0 ∨ c.slots.size ≤ j.toNatClampNeg) ∧ c.slots[j.toNatClampNeg]? = some v :=
  ⟨inb_of S hj, Has.at H (inb_of S hj) hv⟩
theorem w_caload (W : Wk E x T h F cs ss) (B : Is x own b ml R ret nm) {a : Addr} {k : ClassId} {n j : Int32} {vs : List Value} {dv v : Value} (d : D b pc .caload 1 nx) (A : Arv E.Z h a k .char n vs dv) (hj : ¬ j < 0 ∧ j < n) (hv : vs.getD j.toNatClampNeg dv = v) (hr : G E x T (fr x nx Ls (v :: st))) : G E x T (fr x pc Ls (.int j :: .ref a :: st)) := by
  obtain ⟨d1, rfl⟩ := d
  obtain ⟨vm, L, X, e, hZ, hown, -, -⟩ := W.open B
  obtain ⟨c, A, -, S, N, H, -⟩ := A
  exact G.of (fun t r => X.caload B.2.2.2.2.2.2.1 (by rw [e]; exact A.1) (State.isArrayOf_alike hZ.alike A.2.1) A.2.2 (inb_of S hj) (Has.at H (inb_of S hj) hv) (g := fr x pc Ls (.int j :: .ref a :: st)) rfl rfl (by rw [B.1]; exact d1) t r) hr
theorem w_baload (W : Wk E x T h F cs ss) (B : Is x own b ml R ret nm) {a : Addr} {k : ClassId} {n j : Int32} {vs : List Value} {dv v : Value} (d : D b pc .baload 1 nx) (A : Arv E.Z h a k .byte n vs dv) (hj : ¬ j < 0 ∧ j < n) (hv : vs.getD j.toNatClampNeg dv = v) (hr : G E x T (fr x nx Ls (v :: st))) : G E x T (fr x pc Ls (.int j :: .ref a :: st)) := by
  obtain ⟨d1, rfl⟩ := d
  obtain ⟨vm, L, X, e, hZ, hown, -, -⟩ := W.open B
  obtain ⟨c, A, -, S, N, H, -⟩ := A
  exact G.of (fun t r => X.baloadBytes B.2.2.2.2.2.2.1 (by rw [e]; exact A.1) (State.isArrayOf_alike hZ.alike A.2.1) A.2.2 (inb_of S hj) (Has.at H (inb_of S hj) hv) (g := fr x pc Ls (.int j :: .ref a :: st)) rfl rfl (by rw [B.1]; exact d1) t r) hr
theorem w_iaload (W : Wk E x T h F cs ss) (B : Is x own b ml R ret nm) {a : Addr} {k : ClassId} {n j : Int32} {vs : List Value} {dv v : Value} (d : D b pc .iaload 1 nx) (A : Arv E.Z h a k .int n vs dv) (hj : ¬ j < 0 ∧ j < n) (hv : vs.getD j.toNatClampNeg dv = v) (hr : G E x T (fr x nx Ls (v :: st))) : G E x T (fr x pc Ls (.int j :: .ref a :: st)) := by
  obtain ⟨d1, rfl⟩ := d
  obtain ⟨vm, L, X, e, hZ, hown, -, -⟩ := W.open B
  obtain ⟨c, A, -, S, N, H, -⟩ := A
  exact G.of (fun t r => X.iaload B.2.2.2.2.2.2.1 (by rw [e]; exact A.1) (State.isArrayOf_alike hZ.alike A.2.1) A.2.2 (inb_of S hj) (Has.at H (inb_of S hj) hv) (g := fr x pc Ls (.int j :: .ref a :: st)) rfl rfl (by rw [B.1]; exact d1) t r) hr
theorem w_laload (W : Wk E x T h F cs ss) (B : Is x own b ml R ret nm) {a : Addr} {k : ClassId} {n j : Int32} {vs : List Value} {dv v : Value} (d : D b pc .laload 1 nx) (A : Arv E.Z h a k .long n vs dv) (hj : ¬ j < 0 ∧ j < n) (hv : vs.getD j.toNatClampNeg dv = v) (hr : G E x T (fr x nx Ls (v :: st))) : G E x T (fr x pc Ls (.int j :: .ref a :: st)) := by
  obtain ⟨d1, rfl⟩ := d
  obtain ⟨vm, L, X, e, hZ, hown, -, -⟩ := W.open B
  obtain ⟨c, A, -, S, N, H, -⟩ := A
  exact G.of (fun t r => X.laload B.2.2.2.2.2.2.1 (by rw [e]; exact A.1) (State.isArrayOf_alike hZ.alike A.2.1) A.2.2 (inb_of S hj) (Has.at H (inb_of S hj) hv) (g := fr x pc Ls (.int j :: .ref a :: st)) rfl rfl (by rw [B.1]; exact d1) t r) hr
theorem w_aaload (W : Wk E x T h F cs ss) (B : Is x own b ml R ret nm) {a : Addr} {k : ClassId} {ty : FieldType} {n j : Int32} {vs : List Value} {dv v : Value} (d : D b pc .aaload 1 nx) (hty : ty.isReference = true) (A : Arv E.Z h a k ty n vs dv) (hj : ¬ j < 0 ∧ j < n) (hv : vs.getD j.toNatClampNeg dv = v) (hr : G E x T (fr x nx Ls (v :: st))) : G E x T (fr x pc Ls (.int j :: .ref a :: st)) := by
  obtain ⟨d1, rfl⟩ := d
  obtain ⟨vm, L, X, e, hZ, hown, -, -⟩ := W.open B
  obtain ⟨c, A, -, S, N, H, -⟩ := A
  exact G.of (fun t r => X.aaload B.2.2.2.2.2.2.1 (by rw [e]; exact A.1) (State.isArrayOf_alike hZ.alike A.2.1) hty A.2.2 (inb_of S hj) (Has.at H (inb_of S hj) hv) (g := fr x pc Ls (.int j :: .ref a :: st)) rfl rfl (by rw [B.1]; exact d1) t r) hr
theorem w_castore (W : Wk E x T h F cs ss) (B : Is x own b ml R ret nm) {a : Addr} {k : ClassId} {n j v u : Int32} {vs : List Value} {dv : Value} (d : D b pc .castore 1 nx) (hF : a ∈ F) (A : Arv E.Z h a k .char n vs dv) (hj : ¬ j < 0 ∧ j < n) {i : Nat} (hi : j.toNatClampNeg = i) (hl : i < vs.length) (hu : nar .char v = u)
    (hr : ∀ (T' : State) (h' : Heap), Wk E x T' h' F cs ss → Keep h h' [a] → Arv E.Z h' a k .char n (vs.set i (.int u)) dv → G E x T' (fr x nx Ls st)) : G E x T (fr x pc Ls (.int v :: .int j :: .ref a :: st)) := by
  obtain ⟨d1, rfl⟩ := d
  subst hu
  obtain ⟨vm, L, X, e, hZ, hown, -, cl⟩ := W.open B
  obtain ⟨c, A, q, S, N, H, Gf⟩ := A
  obtain ⟨T', h', X', e', Wr', stp⟩ := stC X B.2.2.2.2.2.2.1 hZ e A (inb_of S hj) (g := fr x pc Ls (.int v :: .int j :: .ref a :: st)) rfl rfl (by rw [B.1]; exact d1)
  exact G.of stp (hr T' h' (cl a _ _ T' h' hF X' e' Wr') (Keep.of_wr Wr') (Arv.set A q S N H Gf (fits_nar_char _) Wr' i hi hl))
theorem w_bastore (W : Wk E x T h F cs ss) (B : Is x own b ml R ret nm) {a : Addr} {k : ClassId} {n j v u : Int32} {vs : List Value} {dv : Value} (d : D b pc .bastore 1 nx) (hF : a ∈ F) (A : Arv E.Z h a k .byte n vs dv) (hj : ¬ j < 0 ∧ j < n) {i : Nat} (hi : j.toNatClampNeg = i) (hl : i < vs.length) (hu : nar .byte v = u)
    (hr : ∀ (T' : State) (h' : Heap), Wk E x T' h' F cs ss → Keep h h' [a] → Arv E.Z h' a k .byte n (vs.set i (.int u)) dv → G E x T' (fr x nx Ls st)) : G E x T (fr x pc Ls (.int v :: .int j :: .ref a :: st)) := by
  obtain ⟨d1, rfl⟩ := d
  subst hu
  obtain ⟨vm, L, X, e, hZ, hown, -, cl⟩ := W.open B
  obtain ⟨c, A, q, S, N, H, Gf⟩ := A
  obtain ⟨T', h', X', e', Wr', stp⟩ := stB X B.2.2.2.2.2.2.1 hZ e A (inb_of S hj) (g := fr x pc Ls (.int v :: .int j :: .ref a :: st)) rfl rfl (by rw [B.1]; exact d1)
  exact G.of stp (hr T' h' (cl a _ _ T' h' hF X' e' Wr') (Keep.of_wr Wr') (Arv.set A q S N H Gf (fits_nar_byte _) Wr' i hi hl))
theorem w_iastore (W : Wk E x T h F cs ss) (B : Is x own b ml R ret nm) {a : Addr} {k : ClassId} {n j v : Int32} {vs : List Value} {dv : Value} (d : D b pc .iastore 1 nx) (hF : a ∈ F) (A : Arv E.Z h a k .int n vs dv) (hj : ¬ j < 0 ∧ j < n) {i : Nat} (hi : j.toNatClampNeg = i) (hl : i < vs.length)
    (hr : ∀ (T' : State) (h' : Heap), Wk E x T' h' F cs ss → Keep h h' [a] → Arv E.Z h' a k .int n (vs.set i (.int v)) dv → G E x T' (fr x nx Ls st)) : G E x T (fr x pc Ls (.int v :: .int j :: .ref a :: st)) := by
  obtain ⟨d1, rfl⟩ := d
  obtain ⟨vm, L, X, e, hZ, hown, -, cl⟩ := W.open B
  obtain ⟨c, A, q, S, N, H, Gf⟩ := A
  obtain ⟨T', h', X', e', Wr', stp⟩ := stI X B.2.2.2.2.2.2.1 hZ e A (inb_of S hj) (g := fr x pc Ls (.int v :: .int j :: .ref a :: st)) rfl rfl (by rw [B.1]; exact d1)
  exact G.of stp (hr T' h' (cl a _ _ T' h' hF X' e' Wr') (Keep.of_wr Wr') (Arv.set A q S N H Gf rfl Wr' i hi hl))
theorem w_lastore (W : Wk E x T h F cs ss) (B : Is x own b ml R ret nm) {a : Addr} {k : ClassId} {n j : Int32} {v : Int64} {vs : List Value} {dv : Value} (d : D b pc .lastore 1 nx) (hF : a ∈ F) (A : Arv E.Z h a k .long n vs dv) (hj : ¬ j < 0 ∧ j < n) {i : Nat} (hi : j.toNatClampNeg = i) (hl : i < vs.length)
    (hr : ∀ (T' : State) (h' : Heap), Wk E x T' h' F cs ss → Keep h h' [a] → Arv E.Z h' a k .long n (vs.set i (.long v)) dv → G E x T' (fr x nx Ls st)) : G E x T (fr x pc Ls (.long v :: .int j :: .ref a :: st)) := by
  obtain ⟨d1, rfl⟩ := d
  obtain ⟨vm, L, X, e, hZ, hown, -, cl⟩ := W.open B
  obtain ⟨c, A, q, S, N, H, Gf⟩ := A
  obtain ⟨T', h', X', e', Wr', stp⟩ := stJ X B.2.2.2.2.2.2.1 hZ e A (inb_of S hj) (g := fr x pc Ls (.long v :: .int j :: .ref a :: st)) rfl rfl (by rw [B.1]; exact d1)
  exact G.of stp (hr T' h' (cl a _ _ T' h' hF X' e' Wr') (Keep.of_wr Wr') (Arv.set A q S N H Gf rfl Wr' i hi hl))
theorem fits_isRef {ty : FieldType} (hty : ty.isReference = true) {v : Value} (hv : v.isRef = true) : fits ty v = true := by
  cases ty <;> simp [FieldType.isReference] at hty <;> rcases ref_cases hv with rfl | ⟨a, rfl⟩ <;> rfl
theorem w_aastore (W : Wk E x T h F cs ss) (B : Is x own b ml R ret nm) {a : Addr} {k : ClassId} {ty : FieldType} {n j : Int32} {v : Value} {vs : List Value} {dv : Value} (d : D b pc .aastore 1 nx) (hF : a ∈ F) (hty : ty.isReference = true) (A : Arv E.Z h a k ty n vs dv) (hj : ¬ j < 0 ∧ j < n) {i : Nat} (hi : j.toNatClampNeg = i) (hl : i < vs.length) (hv : v.isRef = true) (Sv : Sto E.Z h a v)
    (hr : ∀ (T' : State) (h' : Heap), Wk E x T' h' F cs ss → Keep h h' [a] → Arv E.Z h' a k ty n (vs.set i v) dv → G E x T' (fr x nx Ls st)) : G E x T (fr x pc Ls (v :: .int j :: .ref a :: st)) := by
  obtain ⟨d1, rfl⟩ := d
  obtain ⟨vm, L, X, e, hZ, hown, -, cl⟩ := W.open B
  obtain ⟨c, A, q, S, N, H, Gf⟩ := A
  obtain ⟨T', h', X', e', Wr', stp⟩ := stR X B.2.2.2.2.2.2.1 hZ e A (inb_of S hj) hty Sv (g := fr x pc Ls (v :: .int j :: .ref a :: st)) rfl rfl (by rw [B.1]; exact d1)
  exact G.of stp (hr T' h' (cl a _ _ T' h' hF X' e' Wr') (Keep.of_wr Wr') (Arv.set A q S N H Gf (fits_isRef hty hv) Wr' i hi hl))
theorem w_ldcI (W : Wk E x T h F cs ss) (B : Is x own b ml R ret nm) {index : Nat} {v : Int32} (d : D b pc (.ldc index) 2 nx) (w : (Cond.constant own index v).before E.a E.Z = true) (hr : G E x T (fr x nx Ls (.int v :: st))) : G E x T (fr x pc Ls st) := by
  obtain ⟨d1, rfl⟩ := d
  obtain ⟨vm, L, X, e, hZ, hown, -, -⟩ := W.open B
  exact G.of (fun t r => X.ldcI B.2.2.2.2.2.2.1 hown (mv hZ w) (g := fr x pc Ls st) rfl (by rw [B.1]; exact d1) r) hr
theorem w_ldcWI (W : Wk E x T h F cs ss) (B : Is x own b ml R ret nm) {index : Nat} {v : Int32} (d : D b pc (.ldc_w index) 3 nx) (w : (Cond.constant own index v).before E.a E.Z = true) (hr : G E x T (fr x nx Ls (.int v :: st))) : G E x T (fr x pc Ls st) := by
  obtain ⟨d1, rfl⟩ := d
  obtain ⟨vm, L, X, e, hZ, hown, -, -⟩ := W.open B
  exact G.of (fun t r => X.ldcWI B.2.2.2.2.2.2.1 hown (mv hZ w) (g := fr x pc Ls st) rfl (by rw [B.1]; exact d1) r) hr
theorem w_ldc2J (W : Wk E x T h F cs ss) (B : Is x own b ml R ret nm) {index : Nat} {v : Int64} (d : D b pc (.ldc2_w index) 3 nx) (w : (Cond.constantLong own index v).before E.a E.Z = true) (hr : G E x T (fr x nx Ls (.long v :: st))) : G E x T (fr x pc Ls st) := by
  obtain ⟨d1, rfl⟩ := d
  obtain ⟨vm, L, X, e, hZ, hown, -, -⟩ := W.open B
  exact G.of (fun t r => X.ldc2J B.2.2.2.2.2.2.1 hown (mv hZ w) (g := fr x pc Ls st) rfl (by rw [B.1]; exact d1) r) hr
end StepsC
end Jvm.Own
namespace Jvm.Own
open Sem ClassFile Op Lib Bundle Jvm.Stand Jvm.Free Jvm.LawKit Jvm.RoadKit
section StepsD
variable {E : Gl} {x : Cx} {T : State} {h : Heap} {F : List Addr} {cs ss : Nat} {own : String} {b : ByteArray} {ml : Nat} {R : Room} {ret : Option FieldType} {nm : String} {pc nx tg : Nat} {o : Int} {Ls Ls' : Array Slot} {st stk : List Value}
/-- the end of a walk -/
theorem fin_of (W : Wk E x T h F cs ss) (B : Is x own b ml R ret nm) {v : Option Value} {F' : List Addr} {Q : Option Value → Heap → List Addr → Prop} (hQ : x.Q = Q) (q : Q v h F') (hF' : ∀ y ∈ F', y ∈ F) (hc : cs ≤ R.cells) (hs : ss ≤ R.slots) (hv : ret = none → v = none) {g : JFrame}
    (stp : ∀ (vm : Vm) (L : List Loc) (fs : List Frame), Stand x.p E.l x.e x.R (x.s.setVm vm) x.m x.args x.below x.meth x.c T L cs ss → (∀ (f : JFrame) (acts : List Action), f.method = x.m → f.locked = none → f.entered = [] → (doReturn x.e (T.setTop f) acts v).1 = T.setFrames fs) → Steps x.p.tables x.e x.below (T.setTop g) (T.setFrames fs)) : G E x T g := by
  obtain ⟨vm, k, L, X, h1, h2, h3, h4, h5, h6, h7, h8, h9, h10⟩ := W
  obtain ⟨fs, hr, hrun, hended, hW, hsame⟩ := X.leave (v := v) (fun q => hv (B.2.2.2.1.symm.trans q)) B.2.2.2.2.2.1
  have c : CHr E.Z E.K vm h T.vm h := CHv.at X h5 h10.1 h8.1
  refine ⟨T.setFrames fs, _, stp vm L fs X hr, hrun, hended, v, L, F', rfl, ?_, h6, ?_, ?_, ?_, ?_⟩
  · rw [hQ]; show Q v T.heap F'; rw [h1]; exact q
  · show Old E.Z E.n T.heap; rw [h1]; exact h7
  · show FOk E T.vm T.heap F'; rw [h1]
    exact fun y hy => ⟨(h9 y (hF' y hy)).1, (h9 y (hF' y hy)).2.1, c.safe (h9 y (hF' y hy)).2.1 (h9 y (hF' y hy)).2.2⟩
  · show CHr E.Z E.K x.s.vm x.s.heap T.vm T.heap; rw [h1]; exact h8.trans c
  · have hc' : cs ≤ x.R.cells := by rw [B.2.2.1]; exact hc
    have hs' : ss ≤ x.R.slots := by rw [B.2.2.1]; exact hs
    show EndF E.w _ _ _ _ _ _
    cases hw : E.w with
    | true =>
      obtain ⟨a1, a2, a3⟩ := h2.ended (U := T.setFrames fs) hW (by show k ≤ T.heap.size; rw [h1]; exact h3) hsame
      exact ⟨⟨v, rfl⟩, a1, a2, a3.mono hc' hs'⟩
    | false =>
      have e := h4 hw
      subst e
      exact ⟨⟨v, rfl⟩, hW, hsame.mono hc' hs'⟩
theorem w_ireturn (W : Wk E x T h F cs ss) (B : Is x own b ml R (some .int) nm) {v : Int32} {F' : List Addr} {Q : Option Value → Heap → List Addr → Prop} (d : D b pc .ireturn 1 nx) (hQ : x.Q = Q) (hc : cs ≤ R.cells) (hs : ss ≤ R.slots) (hF' : ∀ y ∈ F', y ∈ F) (q : Q (some (.int v)) h F') : G E x T (fr x pc Ls (.int v :: st)) :=
  fin_of W B hQ q hF' hc hs (fun q => nomatch q) fun _ _ _ X hr => retOut X B.2.2.2.2.2.2.1 B.2.2.2.1 rfl (Or.inl ⟨rfl, Or.inl rfl, _, rfl⟩) (by rw [B.1]; exact d.1) hr
theorem w_ireturnN (W : Wk E x T h F cs ss) {t : FieldType} (B : Is x own b ml R (some t) nm) {v u : Int32} {F' : List Addr} {Q : Option Value → Heap → List Addr → Prop} (d : D b pc .ireturn 1 nx) (ht : t = .boolean ∨ t = .byte ∨ t = .char ∨ t = .short) (hu : nar t v = u) (hQ : x.Q = Q) (hc : cs ≤ R.cells) (hs : ss ≤ R.slots) (hF' : ∀ y ∈ F', y ∈ F) (q : Q (some (.int u)) h F') : G E x T (fr x pc Ls (.int v :: st)) := by
  subst hu
  exact fin_of W B hQ q hF' hc hs (fun q => nomatch q) fun _ _ _ X hr => retN X B.2.2.2.2.2.2.1 B.2.2.2.1 ht (by rw [B.1]; exact d.1) hr
theorem w_lreturn (W : Wk E x T h F cs ss) (B : Is x own b ml R (some .long) nm) {v : Int64} {F' : List Addr} {Q : Option Value → Heap → List Addr → Prop} (d : D b pc .lreturn 1 nx) (hQ : x.Q = Q) (hc : cs ≤ R.cells) (hs : ss ≤ R.slots) (hF' : ∀ y ∈ F', y ∈ F) (q : Q (some (.long v)) h F') : G E x T (fr x pc Ls (.long v :: st)) :=
  fin_of W B hQ q hF' hc hs (fun q => nomatch q) fun _ _ _ X hr => retOut X B.2.2.2.2.2.2.1 B.2.2.2.1 rfl (Or.inr (Or.inl ⟨rfl, rfl, _, rfl⟩)) (by rw [B.1]; exact d.1) hr
theorem w_areturn (W : Wk E x T h F cs ss) {t : FieldType} (B : Is x own b ml R (some t) nm) {v : Value} {F' : List Addr} {Q : Option Value → Heap → List Addr → Prop} (d : D b pc .areturn 1 nx) (ht : t.isReference = true) (hv : v.isRef = true) (hQ : x.Q = Q) (hc : cs ≤ R.cells) (hs : ss ≤ R.slots) (hF' : ∀ y ∈ F', y ∈ F) (q : Q (some v) h F') : G E x T (fr x pc Ls (v :: st)) := by
  have hn : narrow t v = v := by
    rcases ref_cases hv with rfl | ⟨a, rfl⟩ <;> cases t <;> simp [FieldType.isReference] at ht <;> rfl
  exact fin_of W B hQ q hF' hc hs (fun q => nomatch q) fun _ _ _ X hr => retOut X B.2.2.2.2.2.2.1 B.2.2.2.1 hn (Or.inr (Or.inr (Or.inr (Or.inr ⟨rfl, ht, hv⟩)))) (by rw [B.1]; exact d.1) hr
theorem w_return (W : Wk E x T h F cs ss) (B : Is x own b ml R none nm) {F' : List Addr} {Q : Option Value → Heap → List Addr → Prop} (d : D b pc .return_ 1 nx) (hQ : x.Q = Q) (hc : cs ≤ R.cells) (hs : ss ≤ R.slots) (hF' : ∀ y ∈ F', y ∈ F) (q : Q none h F') : G E x T (fr x pc Ls []) :=
  fin_of W B hQ q hF' hc hs (fun _ => rfl) fun _ _ _ X hr => X.returnOut B.2.2.2.2.2.2.1 B.2.2.2.1 (by rw [B.1]; exact d.1) hr
/-- a String constant of those held -/
theorem w_ldcS (W : Wk E x T h F cs ss) (B : Is x own b ml R ret nm) {index n : Nat} {text : String} {vs : List Value} {z : Int32} (d : D b pc (.ldc index) 2 nx) (hw : E.w = true) (hmem : (own, index) ∈ E.K) (w : (Cond.stringLink own index text).before E.a E.Z = true) (wS : ∀ c ∈ Bundle.stringAtoms, c.before E.a E.Z = true)
    (ht : (∀ c ∈ text.toList, c.toNat < 256) ∧ text.toList.map (fun c => Value.int (Jvm.Lit.byteI c.toNat.toUInt16)) = vs) (hz : ¬ z < 0) (hl : z.toNatClampNeg = vs.length) (hn : 4 * text.toList.length ≤ n) (hbig : n ≤ 536870912) (hc : cs + 2 ≤ R.cells) (hs : ss + (n + 4) ≤ R.slots)
    (hr : ∀ (T' : State) (h' : Heap) (a v : Addr) (k : ClassId), Wk E x T' h' F (cs + 2) (ss + (n + 4)) → Ext h h' → Exa E.Z h' a "java/lang/String" → Fld E.Z h' a "java/lang/String" "coder" "B" (.int 0) → Fld E.Z h' a "java/lang/String" "value" "[B" (.ref v) → Arv E.Z h' v k .byte z vs (.int 0) → (∀ y ∈ F, y ≠ a ∧ y ≠ v) → G E x T' (fr x nx Ls (.ref a :: st))) : G E x T (fr x pc Ls st) := by
  obtain ⟨d1, rfl⟩ := d
  obtain ⟨vm, k, L, X, h1, h2, h3, h4, h5, h6, h7, h8, h9, h10⟩ := W
  have hown : vm.findClass own = some x.m.cls := by rw [h2.1.alike.findClass]; exact B.2.2.2.2.2.2.2
  obtain ⟨a, T', h', k1, v, kv, X', e', Ex, S', hk1, hZ', hown', A, C, V, K, la, lb, cr, -, sf, stp⟩ := ldcCH X B.2.2.2.2.2.2.1 h5 hown w wS h1 h2 h3 h10.1 hmem h8.1 ht hz hl (g := fr x pc Ls st) rfl (by rw [B.1]; exact d1) hn hbig (by rw [B.2.2.1]; exact hc) (by rw [B.2.2.1]; exact hs)
  have f1 : FOk E T'.vm h' F := fun y hy => ⟨(h9 y hy).1, Nat.lt_of_lt_of_le (h9 y hy).2.1 Ex.1, cr.safe (h9 y hy).2.1 (h9 y hy).2.2⟩
  exact G.of stp (hr T' h' a v kv ⟨T'.vm, k1, L, X', e', S', hk1, fun q => (Bool.noConfusion (hw.symm.trans q)), hZ', h6, h7.ext Ex, h8.trans cr, f1, h10⟩ Ex A C V K fun y hy => sf y (f1 y hy).2.2)
/-- a String constant of which nothing is said but that a reference is pushed -/
theorem w_ldcO (W : Wk E x T h F cs ss) (B : Is x own b ml R ret nm) {index n : Nat} {text : String} (d : D b pc (.ldc index) 2 nx) (hw : E.w = true) (w : (Cond.stringLink own index text).before E.a E.Z = true) (wS : ∀ c ∈ Bundle.stringAtoms, c.before E.a E.Z = true)
    (hn : 4 * text.toList.length ≤ n) (hbig : n ≤ 536870912) (hc : cs + 2 ≤ R.cells) (hs : ss + (n + 4) ≤ R.slots)
    (hr : ∀ (T' : State) (h' : Heap) (a : Addr), Wk E x T' h' F (cs + 2) (ss + (n + 4)) → Ext h h' → G E x T' (fr x nx Ls (.ref a :: st))) : G E x T (fr x pc Ls st) := by
  obtain ⟨d1, rfl⟩ := d
  obtain ⟨vm, k, L, X, h1, h2, h3, h4, h5, h6, h7, h8, h9, h10⟩ := W
  have hown : vm.findClass own = some x.m.cls := by rw [h2.1.alike.findClass]; exact B.2.2.2.2.2.2.2
  obtain ⟨a, T', h', k1, X', e', Ex, S', hk1, hZ', hown', cr, -, stp⟩ := ldcOH X B.2.2.2.2.2.2.1 h5 hown w wS h1 h2 h3 h10.1 h8.1 (g := fr x pc Ls st) rfl (by rw [B.1]; exact d1) hn hbig (by rw [B.2.2.1]; exact hc) (by rw [B.2.2.1]; exact hs)
  have f1 : FOk E T'.vm h' F := fun y hy => ⟨(h9 y hy).1, Nat.lt_of_lt_of_le (h9 y hy).2.1 Ex.1, cr.safe (h9 y hy).2.1 (h9 y hy).2.2⟩
  exact G.of stp (hr T' h' a ⟨T'.vm, k1, L, X', e', S', hk1, fun q => (Bool.noConfusion (hw.symm.trans q)), hZ', h6, h7.ext Ex, h8.trans cr, f1, h10⟩ Ex)
end StepsD
/-! calls: what a contract leaves, said at a point of the caller's walk -/
def PreC (R rm : Room) (as' : Array Value) (h : Heap) (A : Pt) (a : Array Value) : Prop := a = as' ∧ A.U.heap = h ∧ A.cells + rm.cells ≤ R.cells ∧ A.slots + rm.slots ≤ R.slots
def PostC (E : Gl) (vm : Vm) (h : Heap) (rm : Room) (Q : Option Value → Heap → List Addr → Prop) (A : Pt) (_ : Array Value) (v : Option Value) (B : Pt) : Prop :=
  ∃ (L : List Loc) (F' : List Addr), Q v B.U.heap F' ∧ Fr E.n L ∧ Old E.Z E.n B.U.heap ∧ FOk E B.U.vm B.U.heap F' ∧ CHr E.Z E.K vm h B.U.vm B.U.heap ∧ B.locs = A.locs ++ L ∧ B.cells = A.cells + rm.cells ∧ B.slots = A.slots + rm.slots
section Pay
variable {E : Gl} {p : Program} {e : Env} {R rm : Room} {s : State} {args as' : Array Value} {below : List Frame} {vm : Vm} {h : Heap} {F : List Addr} {y : MethodName} {bytes : ByteArray} {maxL : Nat} {ret : Option FieldType} {Q : Option Value → Heap → List Addr → Prop} {len W : Nat}
theorem fok_at {m : MethodId} {meth : Method} {c : Code} {A : Pt} (Y : Stand p E.l e R (s.setVm vm) m args below meth c A.U A.locs A.cells A.slots) (hZ : E.Z.Warmed39 vm) (hE : EW E.Z E.a E.K) (H : CHv E.Z E.K vm h) (hF : FOk E vm h F) : CHr E.Z E.K vm h A.U.vm h ∧ FOk E A.U.vm h F := by
  have c := CHv.at Y hZ hE H
  exact ⟨c, fun z hz => ⟨(hF z hz).1, (hF z hz).2.1, c.safe (hF z hz).2.1 (hF z hz).2.2⟩⟩
theorem payS (hw : E.w = true) (hM : Met E y bytes maxL ret rm as' h F Q) (hZ : E.Z.Warmed39 vm) (hO : Old E.Z E.n h) (H : CHv E.Z E.K vm h) (hF : FOk E vm h F) (hE : GOk E)
    (wc : (Cond.code y bytes maxL ret).before E.a E.Z = true) (wz : (Cond.initialized y.cls).before E.a E.Z = true) (hf : rm.frames + 1 ≤ R.frames) (hl : W + (maxL + 11) + rm.locals ≤ R.locals) :
    BackS E.l R p e below (s.setVm vm) args y len W (PreC R rm as' h) (PostC E vm h rm Q) :=
  BackS.of_freeW (bytes := bytes) (maxL := maxL) (ret := ret)
    (E := fun _ first o t L k n => k = rm.cells ∧ n = rm.slots ∧ ∃ (v : Option Value) (F' : List Addr), o = .returned v ∧ Q v t.heap F' ∧ Fr E.n L ∧ Old E.Z E.n t.heap ∧ FOk E t.vm t.heap F' ∧ CHr E.Z E.K first.vm first.heap t.vm t.heap) hM hf hl
    (fun m meth c A a Y hp => have hU : E.Z.Warmed39 A.U.vm := wtrans (s := s.setVm vm) hZ Y.warmed
      ⟨by show (Cond.and _ .tt).before a A.U = true; rw [Cond.before_and, mv hU wc]; rfl, mv hU wc, mv hU wz, hp.2.2.1, hp.2.2.2⟩)
    (fun m meth c A a g mk Y hp => ⟨hp.1, wtrans (s := s.setVm vm) hZ Y.warmed, hp.2.1, hO, (fok_at Y hZ hE.1 H hF).1.1, (fok_at Y hZ hE.1 H hF).2, hE⟩) (fun _ _ _ _ _ _ _ _ _ => trivial)
    (fun _ _ _ _ ⟨v, L, F', h1, h2, h3, h4, h5, h6, h7⟩ => ⟨L, _, _, by have h7 : EndF E.w _ _ _ _ _ _ := h7; rw [hw] at h7; exact h7, rfl, rfl, v, F', h1, h2, h3, h4, h5, h6⟩)
    (fun m meth c A a g mk v t L k n Y hp _ _ ⟨e1, e2, v', F', e3, e4, e5, e6, e7, e8⟩ => by
      cases e3; subst e1 e2
      refine ⟨L, F', e4, e5, e6, e7, (fok_at Y hZ hE.1 H hF).1.trans ?_, rfl, rfl, rfl⟩
      rw [← hp.2.1]; exact e8)
theorem payN (hw : E.w = false) (hM : Met E y bytes maxL ret rm as' h F Q) (hZ : E.Z.Warmed39 vm) (hO : Old E.Z E.n h) (H : CHv E.Z E.K vm h) (hF : FOk E vm h F) (hE : GOk E)
    (wc : (Cond.code y bytes maxL ret).before E.a E.Z = true) (wz : (Cond.initialized y.cls).before E.a E.Z = true) (hf : rm.frames + 1 ≤ R.frames) (hl : W + (maxL + 11) + rm.locals ≤ R.locals) :
    Back E.l R p e below (s.setVm vm) args y len W (PreC R rm as' h) (PostC E vm h rm Q) :=
  Back.of_free (bytes := bytes) (maxL := maxL) (ret := ret)
    (E := fun _ first o t L k n => k = rm.cells ∧ n = rm.slots ∧ ∃ (v : Option Value) (F' : List Addr), o = .returned v ∧ Q v t.heap F' ∧ Fr E.n L ∧ Old E.Z E.n t.heap ∧ FOk E t.vm t.heap F' ∧ CHr E.Z E.K first.vm first.heap t.vm t.heap) hM hf hl
    (fun m meth c A a Y hp => have hU : E.Z.Warmed39 A.U.vm := wtrans (s := s.setVm vm) hZ Y.warmed
      ⟨by show (Cond.and _ .tt).before a A.U = true; rw [Cond.before_and, mv hU wc]; rfl, mv hU wc, mv hU wz, hp.2.2.1, hp.2.2.2⟩)
    (fun m meth c A a g mk Y hp => ⟨hp.1, wtrans (s := s.setVm vm) hZ Y.warmed, hp.2.1, hO, (fok_at Y hZ hE.1 H hF).1.1, (fok_at Y hZ hE.1 H hF).2, hE⟩) (fun _ _ _ _ _ _ _ _ _ => trivial)
    (fun _ _ _ _ ⟨v, L, F', h1, h2, h3, h4, h5, h6, h7⟩ => ⟨L, _, _, by have h7 : EndF E.w _ _ _ _ _ _ := h7; rw [hw] at h7; exact h7, rfl, rfl, v, F', h1, h2, h3, h4, h5, h6⟩)
    (fun m meth c A a g mk v t L k n Y hp _ _ ⟨e1, e2, v', F', e3, e4, e5, e6, e7, e8⟩ => by
      cases e3; subst e1 e2
      refine ⟨L, F', e4, e5, e6, e7, (fok_at Y hZ hE.1 H hF).1.trans ?_, rfl, rfl, rfl⟩
      rw [← hp.2.1]; exact e8)
end Pay
section Calls
variable {E : Gl} {x : Cx} {T : State} {h : Heap} {F : List Addr} {cs ss : Nat} {own : String} {b : ByteArray} {ml : Nat} {R : Room} {ret : Option FieldType} {nm : String} {pc nx : Nat} {Ls : Array Slot} {st stk : List Value}
/-- behind a call: the walk stands again -/
theorem back_wk {vm : Vm} {L : List Loc} (W : Wk E x T h F cs ss) {rm : Room} {Q : Option Value → Heap → List Addr → Prop} {vm' : Vm} {BU : State} {BL : List Loc} {Bc Bs k' : Nat} {A : Pt} {a : Array Value} {v : Option Value} (hA : A.locs = L ∧ A.cells = cs ∧ A.slots = ss)
    (h6 : Fr E.n L) (h8 : CHr E.Z E.K x.s.vm x.s.heap vm h) (h10 : GOk E) (X' : Stand x.p E.l x.e x.R (x.s.setVm vm') x.m x.args x.below x.meth x.c BU BL Bc Bs) (S' : x.s.Since vm' k') (hk' : k' ≤ BU.heap.size) (hw : E.w = false → vm' = x.s.vm) (hZ' : E.Z.Warmed39 vm')
    (P : PostC E vm h rm Q A a v (BU, BL, Bc, Bs)) (hv : BU.vm = vm' ∨ (E.K = [] ∧ vm' = vm)) : ∃ F', Wk E x BU BU.heap F' (cs + rm.cells) (ss + rm.slots) ∧ Q v BU.heap F' := by
  obtain ⟨L', F', p1, p2, p3, p4, p5, p6, p7, p8⟩ := P
  dsimp only [Pt.U, Pt.locs, Pt.cells, Pt.slots] at p1 p2 p3 p4 p5 p6 p7 p8
  obtain ⟨q1, q2, q3⟩ := hA
  dsimp only [Pt.U, Pt.locs, Pt.cells, Pt.slots] at q1 q2 q3
  refine ⟨F', ⟨vm', k', BL, ?_, rfl, S', hk', hw, hZ', ?_, p3, ?_, ?_, h10⟩, p1⟩
  · rw [p7, p8, q2, q3] at X'; exact X'
  · rw [p6, q1]; exact Fr.app h6 p2
  · rcases hv with rfl | ⟨hK, rfl⟩
    · exact h8.trans p5
    · rw [hK] at h8 ⊢; exact chr_nil _ (Nat.le_trans h8.2.1 p5.2.1)
  · rcases hv with rfl | ⟨hK, rfl⟩
    · exact p4
    · exact fun z hz => ⟨(p4 z hz).1, (p4 z hz).2.1, by rw [hK]; exact safe_nil _ _ _ _⟩
theorem w_static (W : Wk E x T h F cs ss) (B : Is x own b ml R ret nm) {index : Nat} {y : MethodName} {bytes : ByteArray} {maxL : Nat} {rt : Option FieldType} {rm : Room} {Q : Option Value → Heap → List Addr → Prop} {ps : List FieldType} {r : Option FieldType} {argsL : List Value} {Wt : Nat} (d : D b pc (.invokestatic index) 3 nx)
    (w1 : (Cond.methodLink own index y).before E.a E.Z = true) (w2 : (Cond.static y).before E.a E.Z = true) (w3 : (Cond.initialized y.cls).before E.a E.Z = true) (w4 : (Cond.code y bytes maxL rt).before E.a E.Z = true) (hy : y.cls ≠ "java/lang/invoke/MethodHandle" ∧ y.cls ≠ "java/lang/invoke/VarHandle")
    (pd : parseMethodDescriptor y.desc = some ⟨ps, r⟩) (hl : argsL.length = ps.length) (hsz : Ls.size = ml) (hst : stk = argsL.reverse ++ st) (hW : (st.map fun v => v.category).sum ≤ Wt) (hM : Met E y bytes maxL rt rm argsL.toArray h F Q)
    (hf : rm.frames + 1 ≤ R.frames) (hlo : Wt + (maxL + 11) + rm.locals ≤ R.locals) (hc : cs + rm.cells ≤ R.cells) (hs : ss + rm.slots ≤ R.slots)
    (hr : ∀ (T' : State) (h' : Heap) (F' : List Addr) (v : Option Value), Wk E x T' h' F' (cs + rm.cells) (ss + rm.slots) → Q v h' F' → G E x T' (fr x nx Ls (v.toList ++ st))) : G E x T (fr x pc Ls stk) := by
  obtain ⟨d1, rfl⟩ := d
  subst hst
  have W0 := W
  obtain ⟨vm, k, L, X, h1, h2, h3, h4, h5, h6, h7, h8, h9, h10⟩ := W
  have hown : vm.findClass own = some x.m.cls := by rw [h2.1.alike.findClass]; exact B.2.2.2.2.2.2.2
  rw [← B.2.2.1] at hf hlo hc hs
  cases hw : E.w with
  | true =>
    obtain ⟨v, vm₁, ⟨BU, BL, Bc, Bs⟩, -, X', S', gr, P, stp⟩ := callSS X B.2.2.2.2.2.2.1 hown (mvT (s := x.s.setVm vm) h5 w1) (mvT (s := x.s.setVm vm) h5 w2) (mvT (s := x.s.setVm vm) h5 w3) (mvT (s := x.s.setVm vm) h5 w4) hy (payS (len := 3) (W := Wt) hw hM h5 h7 h8.1 h9 h10 w4 w3 hf hlo) (g := fr x pc Ls (argsL.reverse ++ st)) rfl (hsz.trans B.2.1.symm) (lenOf pd hl) rfl (by show 2 * 0 + _ ≤ _; omega) (by rw [B.1]; exact d1) (fun vm₁ _ => ⟨rfl, h1, hc, hs⟩)
    obtain ⟨F', W', q⟩ := back_wk (vm := vm) W0 ⟨rfl, rfl, rfl⟩ h6 h8 h10 X' (foldS h2 (by rw [h1]; exact h3) S' gr) (Nat.le_refl _) (fun q => Bool.noConfusion (hw.symm.trans q)) (State.Warmed39.trans (t := x.s.setVm vm) h5 S'.1) P (Or.inl rfl)
    exact G.ofS stp (hr BU BU.heap F' v W' q)
  | false =>
    have e := h4 hw
    obtain ⟨v, vm₁, ⟨BU, BL, Bc, Bs⟩, -, X', P, stp⟩ := Jvm.LawKit.callS X B.2.2.2.2.2.2.1 hown (mvT (s := x.s.setVm vm) h5 w1) (mvT (s := x.s.setVm vm) h5 w2) (mvT (s := x.s.setVm vm) h5 w3) (mvT (s := x.s.setVm vm) h5 w4) hy (payN (len := 3) (W := Wt) hw hM h5 h7 h8.1 h9 h10 w4 w3 hf hlo) (g := fr x pc Ls (argsL.reverse ++ st)) rfl (hsz.trans B.2.1.symm) (lenOf pd hl) rfl (by show 2 * 0 + _ ≤ _; omega) (by rw [B.1]; exact d1) (fun vm₁ _ => ⟨rfl, h1, hc, hs⟩)
    have gr : h.size ≤ BU.heap.size := by obtain ⟨_, _, _, _, _, _, c5, _⟩ := P; exact c5.2.1
    obtain ⟨F', W', q⟩ := back_wk (vm := vm) W0 ⟨rfl, rfl, rfl⟩ h6 h8 h10 X' h2 (Nat.le_trans h3 gr) h4 h5 P (Or.inr ⟨h10.2 hw, rfl⟩)
    exact G.of stp (hr BU BU.heap F' v W' q)
theorem w_special (W : Wk E x T h F cs ss) (B : Is x own b ml R ret nm) {index : Nat} {y : MethodName} {bytes : ByteArray} {maxL : Nat} {rm : Room} {Q : Option Value → Heap → List Addr → Prop} {ps : List FieldType} {r : Option FieldType} {a : Addr} {argsL : List Value} {Wt : Nat} (d : D b pc (.invokespecial index) 3 nx) (hy1 : y.name = "<init>")
    (w1 : (Cond.methodLink own index y).before E.a E.Z = true) (w2 : (Cond.instanceMethod y).before E.a E.Z = true) (w3 : (Cond.initialized y.cls).before E.a E.Z = true) (w4 : (Cond.code y bytes maxL none).before E.a E.Z = true) (hy : y.cls ≠ "java/lang/invoke/MethodHandle" ∧ y.cls ≠ "java/lang/invoke/VarHandle")
    (pd : parseMethodDescriptor y.desc = some ⟨ps, r⟩) (hl : argsL.length = ps.length) (hsz : Ls.size = ml) (hst : stk = argsL.reverse ++ .ref a :: st) (hW : (st.map fun v => v.category).sum ≤ Wt) (hM : Met E y bytes maxL none rm (.ref a :: argsL).toArray h F Q)
    (hf : rm.frames + 1 ≤ R.frames) (hlo : Wt + (maxL + 11) + rm.locals ≤ R.locals) (hc : cs + rm.cells ≤ R.cells) (hs : ss + rm.slots ≤ R.slots)
    (hr : ∀ (T' : State) (h' : Heap) (F' : List Addr) (v : Option Value), Wk E x T' h' F' (cs + rm.cells) (ss + rm.slots) → Q v h' F' → G E x T' (fr x nx Ls (v.toList ++ st))) : G E x T (fr x pc Ls stk) := by
  obtain ⟨d1, rfl⟩ := d
  subst hst
  have W0 := W
  obtain ⟨vm, k, L, X, h1, h2, h3, h4, h5, h6, h7, h8, h9, h10⟩ := W
  have hown : vm.findClass own = some x.m.cls := by rw [h2.1.alike.findClass]; exact B.2.2.2.2.2.2.2
  rw [← B.2.2.1] at hf hlo hc hs
  cases hw : E.w with
  | true =>
    obtain ⟨v, vm₁, ⟨BU, BL, Bc, Bs⟩, -, X', S', gr, P, stp⟩ := X.specialBackS B.2.2.2.2.2.2.1 hy1 hown (mvT (s := x.s.setVm vm) h5 w1) (mvT (s := x.s.setVm vm) h5 w2) (mvT (s := x.s.setVm vm) h5 w4) hy (payS (len := 3) (W := Wt) hw hM h5 h7 h8.1 h9 h10 w4 w3 hf hlo) (g := fr x pc Ls (argsL.reverse ++ .ref a :: st)) rfl (hsz.trans B.2.1.symm) (Steps.refl _) (lenOf pd hl) rfl (by show 2 * 0 + _ ≤ _; omega) (by rw [B.1]; exact d1) (fun vm₁ _ => ⟨rfl, h1, hc, hs⟩)
    obtain ⟨F', W', q⟩ := back_wk (vm := vm) W0 ⟨rfl, rfl, rfl⟩ h6 h8 h10 X' (foldS h2 (by rw [h1]; exact h3) S' gr) (Nat.le_refl _) (fun q => Bool.noConfusion (hw.symm.trans q)) (State.Warmed39.trans (t := x.s.setVm vm) h5 S'.1) P (Or.inl rfl)
    exact G.ofS stp (hr BU BU.heap F' v W' q)
  | false =>
    have e := h4 hw
    obtain ⟨v, vm₁, ⟨BU, BL, Bc, Bs⟩, -, X', P, stp⟩ := X.specialBack B.2.2.2.2.2.2.1 hy1 hown (mvT (s := x.s.setVm vm) h5 w1) (mvT (s := x.s.setVm vm) h5 w2) (mvT (s := x.s.setVm vm) h5 w4) hy (payN (len := 3) (W := Wt) hw hM h5 h7 h8.1 h9 h10 w4 w3 hf hlo) (g := fr x pc Ls (argsL.reverse ++ .ref a :: st)) rfl (hsz.trans B.2.1.symm) (Steps.refl _) (lenOf pd hl) rfl (by show 2 * 0 + _ ≤ _; omega) (by rw [B.1]; exact d1) (fun vm₁ _ => ⟨rfl, h1, hc, hs⟩)
    have gr : h.size ≤ BU.heap.size := by obtain ⟨_, _, _, _, _, _, c5, _⟩ := P; exact c5.2.1
    obtain ⟨F', W', q⟩ := back_wk (vm := vm) W0 ⟨rfl, rfl, rfl⟩ h6 h8 h10 X' h2 (Nat.le_trans h3 gr) h4 h5 P (Or.inr ⟨h10.2 hw, rfl⟩)
    exact G.ofS stp (hr BU BU.heap F' v W' q)
theorem w_virtual (W : Wk E x T h F cs ss) (B : Is x own b ml R ret nm) {index : Nat} {C : String} {y z : MethodName} {bytes : ByteArray} {maxL : Nat} {rt : Option FieldType} {rm : Room} {Q : Option Value → Heap → List Addr → Prop} {ps : List FieldType} {r : Option FieldType} {a : Addr} {argsL : List Value} {Wt : Nat} (d : D b pc (.invokevirtual index) 3 nx)
    (w1 : (Cond.methodLink own index y).before E.a E.Z = true) (wd : (Cond.declares y).before E.a E.Z = true) (nf : ∀ s' : State, E.Z.Warmed39 s'.vm → NotFace s' y) (wsel : (Cond.selects C y z).before E.a E.Z = true) (w2 : (Cond.instanceMethod z).before E.a E.Z = true) (w3 : (Cond.initialized z.cls).before E.a E.Z = true) (w4 : (Cond.code z bytes maxL rt).before E.a E.Z = true)
    (hy : y.cls ≠ "java/lang/invoke/MethodHandle" ∧ y.cls ≠ "java/lang/invoke/VarHandle") (Ex : Exa E.Z h a C)
    (pd : parseMethodDescriptor y.desc = some ⟨ps, r⟩) (hl : argsL.length = ps.length) (hsz : Ls.size = ml) (hst : stk = argsL.reverse ++ .ref a :: st) (hW : (st.map fun v => v.category).sum ≤ Wt) (hM : Met E z bytes maxL rt rm (.ref a :: argsL).toArray h F Q)
    (hf : rm.frames + 1 ≤ R.frames) (hlo : Wt + (maxL + 11) + rm.locals ≤ R.locals) (hc : cs + rm.cells ≤ R.cells) (hs : ss + rm.slots ≤ R.slots)
    (hr : ∀ (T' : State) (h' : Heap) (F' : List Addr) (v : Option Value), Wk E x T' h' F' (cs + rm.cells) (ss + rm.slots) → Q v h' F' → G E x T' (fr x nx Ls (v.toList ++ st))) : G E x T (fr x pc Ls stk) := by
  obtain ⟨d1, rfl⟩ := d
  subst hst
  have W0 := W
  obtain ⟨vm, k, L, X, h1, h2, h3, h4, h5, h6, h7, h8, h9, h10⟩ := W
  have hown : vm.findClass own = some x.m.cls := by rw [h2.1.alike.findClass]; exact B.2.2.2.2.2.2.2
  obtain ⟨cB, kB, i1, i2, i3⟩ := isOf (s := x.s.setVm vm) h5 h1 Ex
  rw [← B.2.2.1] at hf hlo hc hs
  cases hw : E.w with
  | true =>
    obtain ⟨v, vm₁, ⟨BU, BL, Bc, Bs⟩, -, X', S', gr, P, stp⟩ := X.virtualBackS B.2.2.2.2.2.2.1 hown (mvT (s := x.s.setVm vm) h5 w1) (mvT (s := x.s.setVm vm) h5 wd) (nf (x.s.setVm vm) h5) (mvT (s := x.s.setVm vm) h5 wsel) (mvT (s := x.s.setVm vm) h5 w2) hy (payS (len := 3) (W := Wt) hw hM h5 h7 h8.1 h9 h10 w4 w3 hf hlo) i1 i3 (g := fr x pc Ls (argsL.reverse ++ .ref a :: st)) rfl (hsz.trans B.2.1.symm) (Steps.refl _) (lenOf pd hl) rfl (by show 2 * 0 + _ ≤ _; omega) (by rw [B.1]; exact d1) (fun vm₁ _ => ⟨rfl, h1, hc, hs⟩)
    obtain ⟨F', W', q⟩ := back_wk (vm := vm) W0 ⟨rfl, rfl, rfl⟩ h6 h8 h10 X' (foldS h2 (by rw [h1]; exact h3) S' gr) (Nat.le_refl _) (fun q => Bool.noConfusion (hw.symm.trans q)) (State.Warmed39.trans (t := x.s.setVm vm) h5 S'.1) P (Or.inl rfl)
    exact G.ofS stp (hr BU BU.heap F' v W' q)
  | false =>
    have e := h4 hw
    obtain ⟨v, vm₁, ⟨BU, BL, Bc, Bs⟩, -, X', P, stp⟩ := X.virtualBack B.2.2.2.2.2.2.1 hown (mvT (s := x.s.setVm vm) h5 w1) (mvT (s := x.s.setVm vm) h5 wd) (nf (x.s.setVm vm) h5) (mvT (s := x.s.setVm vm) h5 wsel) (mvT (s := x.s.setVm vm) h5 w2) hy (payN (len := 3) (W := Wt) hw hM h5 h7 h8.1 h9 h10 w4 w3 hf hlo) i1 i3 (g := fr x pc Ls (argsL.reverse ++ .ref a :: st)) rfl (hsz.trans B.2.1.symm) (Steps.refl _) (lenOf pd hl) rfl (by show 2 * 0 + _ ≤ _; omega) (by rw [B.1]; exact d1) (fun vm₁ _ => ⟨rfl, h1, hc, hs⟩)
    have gr : h.size ≤ BU.heap.size := by obtain ⟨_, _, _, _, _, _, c5, _⟩ := P; exact c5.2.1
    obtain ⟨F', W', q⟩ := back_wk (vm := vm) W0 ⟨rfl, rfl, rfl⟩ h6 h8 h10 X' h2 (Nat.le_trans h3 gr) h4 h5 P (Or.inr ⟨h10.2 hw, rfl⟩)
    exact G.ofS stp (hr BU BU.heap F' v W' q)
theorem nf_sel {Z : State} {a0 : Array Value} {C : String} {y : MethodName} (w : (Cond.selects C y y).before a0 Z = true) : ∀ s' : State, Z.Warmed39 s'.vm → NotFace s' y := fun s' hZ => notFace_of_selects (args := a0) (mvT hZ w)
end Calls
end Jvm.Own
namespace Jvm.Own
open Sem ClassFile Op Lib Bundle Jvm.Stand Jvm.Free Jvm.LawKit Jvm.RoadKit
theorem ne_new {h : Heap} {a b : Addr} (l : a < h.size) (g : b = h.size) : a ≠ b := by subst g; exact Nat.ne_of_lt l
theorem cat_ref {v : Value} (hv : v.isRef = true) : v.category = 1 := by rcases ref_cases hv with rfl | ⟨a, rfl⟩ <;> rfl
theorem cat_r (a : Addr) : (Value.ref a).category = 1 := rfl
theorem cat_i (a : Int32) : (Value.int a).category = 1 := rfl
theorem cat_j (a : Int64) : (Value.long a).category = 2 := rfl
theorem cat_n : Value.null.category = 1 := rfl
theorem nar_ref {C : String} {v : Value} (hv : v.isRef = true) : narrow (.object C) v = v := by rcases ref_cases hv with rfl | ⟨a, rfl⟩ <;> rfl
theorem fits_obj {C : String} {v : Value} (hv : v.isRef = true) : fits (.object C) v = true := by rcases ref_cases hv with rfl | ⟨a, rfl⟩ <;> rfl
/-! ints of small naturals -/
theorem n_int {i : Nat} (h : i < 2 ^ 31) : i.toInt32.toInt = i := len_toInt h
theorem n_clamp {i : Nat} (h : i < 2 ^ 31) : i.toInt32.toNatClampNeg = i := by simp only [Int32.toNatClampNeg, n_int h]; omega
theorem n_nn {i : Nat} (h : i < 2 ^ 31) : ¬ i.toInt32 < 0 := by simp only [Int32.lt_iff_toInt_lt, n_int h, Int32.reduceToInt]; omega
theorem n_lt {i n : Nat} (hi : i < 2 ^ 31) (hn : n < 2 ^ 31) : i.toInt32 < n.toInt32 ↔ i < n := by simp only [Int32.lt_iff_toInt_lt, n_int hi, n_int hn]; omega
theorem n_add (i j : Nat) : i.toInt32 + j.toInt32 = (i + j).toInt32 := (Int32.ofNat_add i j).symm
theorem n_succ (i : Nat) : i.toInt32 + (1 : Int32) = (i + 1).toInt32 := n_add i 1
theorem n_eq {i n : Nat} (hi : i < 2 ^ 31) (hn : n < 2 ^ 31) : i.toInt32 = n.toInt32 ↔ i = n := by rw [← Int32.toInt_inj, n_int hi, n_int hn]; omega
theorem z_nat {z : Int32} (h : ¬ z < 0) : z = z.toNatClampNeg.toInt32 := (back32 h).1.symm
/-! chars -/
def lo8 (c : Int32) : Int32 := c.toInt8.toInt32
def Ch (cs : List Int32) : Prop := ∀ c ∈ cs, 0 ≤ c.toInt ∧ c.toInt ≤ 65535
def Lat (cs : List Int32) : Prop := ∀ c ∈ cs, c.toInt ≤ 255
def b8 (cs : List Int32) : List Value := cs.map fun c => .int (lo8 c)
def b16 (cs : List Int32) : List Value := cs.flatMap fun c => [.int (lo8 c), .int (lo8 (c >>> 8))]
def ints (cs : List Int32) : List Value := cs.map Value.int
theorem i2c_toInt (x : Int32) : x.toUInt32.toUInt16.toUInt32.toInt32.toInt = x.toInt % 65536 := by have := c_i2c x; omega
theorem i2c_id {x : Int32} (h0 : 0 ≤ x.toInt) (h1 : x.toInt ≤ 65535) : x.toUInt32.toUInt16.toUInt32.toInt32 = x := Int32.toInt_inj.mp (by rw [i2c_toInt]; omega)
theorem nar_i2c (x : Int32) : nar .char x.toUInt32.toUInt16.toUInt32.toInt32 = x.toUInt32.toUInt16.toUInt32.toInt32 := i2c_id (by rw [i2c_toInt]; omega) (by rw [i2c_toInt]; omega)
theorem nar_char {x : Int32} (h0 : 0 ≤ x.toInt) (h1 : x.toInt ≤ 65535) : nar .char x = x := i2c_id h0 h1
theorem b8_len (cs : List Int32) : (b8 cs).length = cs.length := by simp [b8]
theorem ints_len (cs : List Int32) : (ints cs).length = cs.length := by simp [ints]
theorem b16_len (cs : List Int32) : (b16 cs).length = 2 * cs.length := by
  induction cs with
  | nil => rfl
  | cons c r ih => simp only [b16, List.flatMap_cons, List.length_append, List.length_cons, List.length_nil] at ih ⊢; omega
theorem b16_at (cs : List Int32) : ∀ i, i < cs.length → (b16 cs).getD (2 * i) (.int 0) = .int (lo8 (cs.getD i 0)) ∧ (b16 cs).getD (2 * i + 1) (.int 0) = .int (lo8 (cs.getD i 0 >>> 8)) := by
  induction cs with
  | nil => intro i hi; exact absurd hi (Nat.not_lt_zero _)
  | cons c r ih =>
    intro i hi
    cases i with
    | zero => exact ⟨rfl, rfl⟩
    | succ j =>
      have q := ih j (by simpa using hi)
      exact q
theorem ints_at {cs : List Int32} {i : Nat} (h : i < cs.length) (d : Value) : (ints cs).getD i d = .int (cs.getD i 0) := by
  simp [ints, List.getD_eq_getElem?_getD, List.getElem?_map, List.getElem?_eq_getElem h]
theorem b8_at {cs : List Int32} {i : Nat} (h : i < cs.length) (d : Value) : (b8 cs).getD i d = .int (lo8 (cs.getD i 0)) := by
  simp [b8, List.getD_eq_getElem?_getD, List.getElem?_map, List.getElem?_eq_getElem h]
theorem ch_at {cs : List Int32} (H : Ch cs) {i : Nat} (h : i < cs.length) : 0 ≤ (cs.getD i 0).toInt ∧ (cs.getD i 0).toInt ≤ 65535 := by
  have : cs.getD i 0 = cs[i] := by simp [List.getD_eq_getElem?_getD, List.getElem?_eq_getElem h]
  rw [this]; exact H _ (List.getElem_mem h)
theorem lo8_toInt (c : Int32) : (lo8 c).toInt = c.toInt.bmod 256 := by
  show (c.toInt8.toInt32).toInt = _
  rw [Int8.toInt_toInt32, Int32.toInt_toInt8]
theorem and255 (x : Int32) : (x &&& 255).toInt = x.toInt % 256 := by
  have h : (x &&& 255).toBitVec.toNat = x.toBitVec.toNat % 256 := by
    show (x.toBitVec &&& (255 : Int32).toBitVec).toNat = _
    rw [BitVec.toNat_and, show (255 : Int32).toBitVec.toNat = 2 ^ 8 - 1 from by decide, Nat.and_two_pow_sub_one_eq_mod]
  have h2 : (x &&& 255).toInt = ((x &&& 255).toBitVec.toNat : Int) := by
    show (x &&& 255).toBitVec.toInt = _
    rw [BitVec.toInt_eq_toNat_cond, if_pos (by rw [h]; omega)]
  rw [h2, h]
  show ((x.toBitVec.toNat % 256 : Nat) : Int) = x.toBitVec.toInt % 256
  rw [BitVec.toInt_eq_toNat_cond]
  split <;> omega
theorem lo8_and (c : Int32) : (lo8 c &&& 255).toInt = c.toInt % 256 := by
  rw [and255, lo8_toInt]
  exact Int.bmod_emod
theorem lo8_mask {c : Int32} (h0 : 0 ≤ c.toInt) (h1 : c.toInt ≤ 255) : lo8 c &&& 255 = c := Int32.toInt_inj.mp (by rw [lo8_and]; omega)
/-- that a method's class is no interface says it of every method of that class -/
theorem nf_class {E : Gl} {y y' : MethodName} (nf : NotFace E.Z y') (w : (Cond.instanceMethod y').before E.a E.Z = true) (hc : y'.cls = y.cls) : NotFace E.Z y := fun r0 h0 => by
  obtain ⟨mk, _, hn, -⟩ := Cond.instanceMethod_spec w
  obtain ⟨kr, hk, hi⟩ := nf mk hn
  have q1 := findClass_of_methodNamed hn
  have q2 := findClass_of_methodNamed h0
  rw [hc] at q1
  have q3 : mk.cls = r0.cls := Option.some.inj (q1.symm.trans q2)
  exact ⟨kr, by rw [← q3]; exact hk, hi⟩
theorem nf_classW {E : Gl} {C : String} {y y' : MethodName} (w : (Cond.selects C y' y').before E.a E.Z = true) (w2 : (Cond.instanceMethod y').before E.a E.Z = true) (hc : y'.cls = y.cls) : ∀ s' : State, E.Z.Warmed39 s'.vm → NotFace s' y := fun s' hZ r0 h0 => by
  obtain ⟨mk, _, hn, -⟩ := Cond.instanceMethod_spec (args := E.a) (mvT hZ w2)
  obtain ⟨kr, hk, hi⟩ := nf_sel w s' hZ mk hn
  have q1 := findClass_of_methodNamed hn
  have q2 := findClass_of_methodNamed h0
  rw [hc] at q1
  have q3 : mk.cls = r0.cls := Option.some.inj (q1.symm.trans q2)
  exact ⟨kr, by rw [← q3]; exact hk, hi⟩
theorem ne_ge {h : Heap} {a b : Addr} (l : a < h.size) (g : h.size ≤ b) : a ≠ b := Nat.ne_of_lt (Nat.lt_of_lt_of_le l g)
theorem shr0 (n : Int32) : n >>> ((0 : Int32) &&& 31) = n := by
  rw [show (0 : Int32) &&& 31 = 0 from by decide]; exact Int32.shiftRight_zero
theorem shl0 (n : Int32) : n <<< ((0 : Int32) &&& 31) = n := by
  rw [show (0 : Int32) &&& 31 = 0 from by decide]; exact Int32.shiftLeft_zero
theorem arv_ne {Z : State} {h : Heap} {a b : Addr} {k k' : ClassId} {t t' : FieldType} {n n' : Int32} {vs vs' : List Value} {d d' : Value} (A : Arv Z h a k t n vs d) (A' : Arv Z h b k' t' n' vs' d') (q : n.toNatClampNeg ≠ n'.toNatClampNeg) : a ≠ b := by
  rintro rfl
  obtain ⟨c, B, -, s, -⟩ := A
  obtain ⟨c', B', -, s', -⟩ := A'
  cases B.1.symm.trans B'.1
  exact q (s.symm.trans s')
theorem fld_of {Z : State} {args : Array Value} {t : Term} {a : Addr} {C n d : String} {v : Value} (e1 : t.eval args Z none [] Z = some (.ref a)) (e2 : (Term.field t C n d).eval args Z none [] Z = some v) : Fld Z Z.heap a C n d v := Fld.start (by simpa [Term.eval, e1] using e2)
/-! longs compared -/
theorem cmpL_lt (x y : Int64) : XT.cmpL x y < 0 ↔ x < y := by
  unfold XT.cmpL; split <;> (try split) <;> simp_all [Int64.lt_iff_toInt_lt, ← Int64.toInt_inj] <;> omega
theorem cmpL_gt (x y : Int64) : 0 < XT.cmpL x y ↔ y < x := by
  unfold XT.cmpL; split <;> (try split) <;> simp_all [Int64.lt_iff_toInt_lt, ← Int64.toInt_inj] <;> omega
theorem cmpL_eq (x y : Int64) : XT.cmpL x y = 0 ↔ x = y := by
  unfold XT.cmpL; split <;> (try split) <;> simp_all [Int64.lt_iff_toInt_lt, ← Int64.toInt_inj] <;> omega
theorem len_of_eq {Z : State} {args : Array Value} {t : Term} {a : Addr} {c : Cell} {ty : FieldType} {k : Int32} (A : Arr Z Z.heap a c ty) (e : t.eval args Z none [] Z = some (.ref a)) (hl : (Cond.eq (.length t) (.int k)).value args Z none Z [] = some true) : c.slots.size < 2 ^ 31 ∧ c.slots.size.toInt32 = k := by
  have hA : Z.arrayAt? a = some c := A.fin (Vm.Alike.refl _)
  have hn : c.slots.size < 2 ^ 31 := by
    by_cases hn : c.slots.size < 2 ^ 31
    · exact hn
    · have hn' : ¬ c.slots.size < 2147483648 := hn
      simp [Cond.value, Term.eval, e, hA, hn'] at hl
  exact ⟨hn, gotT (Cond.eq_ints (len_f e hA hn) (Term.int_eval k)) hl⟩
end Jvm.Own
namespace Jvm.Own
open Sem ClassFile Op Lib Bundle Jvm.Stand Jvm.Free Jvm.LawKit Jvm.RoadKit
section CallsF
variable {E : Gl} {x : Cx} {T : State} {h : Heap} {F : List Addr} {cs ss : Nat} {own : String} {b : ByteArray} {ml : Nat} {R : Room} {ret : Option FieldType} {nm : String} {pc nx : Nat} {Ls : Array Slot} {st stk : List Value}
theorem w_interface (W : Wk E x T h F cs ss) (B : Is x own b ml R ret nm) {index cnt : Nat} {C : String} {y z : MethodName} {bytes : ByteArray} {maxL : Nat} {rt : Option FieldType} {rm : Room} {Q : Option Value → Heap → List Addr → Prop} {ps : List FieldType} {r : Option FieldType} {a : Addr} {argsL : List Value} {Wt : Nat} (d : D b pc (.invokeinterface index cnt) 5 nx)
    (w1 : (Cond.methodLink own index y).before E.a E.Z = true) (wd : (Cond.declares y).before E.a E.Z = true) (wf : (Cond.interfaceMethod y.cls y.cls y.name y.desc).before E.a E.Z = true) (hfa : ((Cond.interfaceMethod y.cls y.cls y.name y.desc).onTables && (Cond.interfaceMethod y.cls y.cls y.name y.desc).keepsFace) = true) (wsel : (Cond.selects C y z).before E.a E.Z = true) (w2 : (Cond.instanceMethod z).before E.a E.Z = true) (wp : (Cond.publicMethod z).before E.a E.Z = true) (wu : (Cond.unhidden C y.name y.desc).before E.a E.Z = true) (wca : (Cond.castable C y.cls).before E.a E.Z = true) (w3 : (Cond.initialized z.cls).before E.a E.Z = true) (w4 : (Cond.code z bytes maxL rt).before E.a E.Z = true) (hy : y.cls ≠ "java/lang/invoke/MethodHandle" ∧ y.cls ≠ "java/lang/invoke/VarHandle") (Ex : Exa E.Z h a C)
    (pd : parseMethodDescriptor y.desc = some ⟨ps, r⟩) (hl : argsL.length = ps.length) (hsz : Ls.size = ml) (hst : stk = argsL.reverse ++ .ref a :: st) (hW : (st.map fun v => v.category).sum ≤ Wt) (hM : Met E z bytes maxL rt rm (.ref a :: argsL).toArray h F Q)
    (hf : rm.frames + 1 ≤ R.frames) (hlo : Wt + (maxL + 11) + rm.locals ≤ R.locals) (hc : cs + rm.cells ≤ R.cells) (hs : ss + rm.slots ≤ R.slots)
    (hr : ∀ (T' : State) (h' : Heap) (F' : List Addr) (v : Option Value), Wk E x T' h' F' (cs + rm.cells) (ss + rm.slots) → Q v h' F' → G E x T' (fr x nx Ls (v.toList ++ st))) : G E x T (fr x pc Ls stk) := by
  obtain ⟨d1, rfl⟩ := d
  subst hst
  have W0 := W
  obtain ⟨vm, k, L, X, h1, h2, h3, h4, h5, h6, h7, h8, h9, h10⟩ := W
  have hown : vm.findClass own = some x.m.cls := by rw [h2.1.alike.findClass]; exact B.2.2.2.2.2.2.2
  obtain ⟨cB, kB, i1, i2, i3⟩ := isOf (s := x.s.setVm vm) h5 h1 Ex
  rw [← B.2.2.1] at hf hlo hc hs
  cases hw : E.w with
  | true =>
    obtain ⟨v, vm₁, ⟨BU, BL, Bc, Bs⟩, -, X', S', gr, P, stp⟩ := X.interfaceBackS B.2.2.2.2.2.2.1 hown (mvT (s := x.s.setVm vm) h5 w1) (mvT (s := x.s.setVm vm) h5 wd) (mvT (s := x.s.setVm vm) h5 wf hfa) (mvT (s := x.s.setVm vm) h5 wsel) (mvT (s := x.s.setVm vm) h5 w2) (mvT (s := x.s.setVm vm) h5 wp) (mvT (s := x.s.setVm vm) h5 wu) (mvT (s := x.s.setVm vm) h5 wca) hy (payS (len := 5) (W := Wt) hw hM h5 h7 h8.1 h9 h10 w4 w3 hf hlo) i1 i2 i3 (g := fr x pc Ls (argsL.reverse ++ .ref a :: st)) rfl (hsz.trans B.2.1.symm) (Steps.refl _) (lenOf pd hl) rfl (by show 2 * 0 + _ ≤ _; omega) (by rw [B.1]; exact d1) (fun vm₁ _ => ⟨rfl, h1, hc, hs⟩)
    obtain ⟨F', W', q⟩ := back_wk (vm := vm) W0 ⟨rfl, rfl, rfl⟩ h6 h8 h10 X' (foldS h2 (by rw [h1]; exact h3) S' gr) (Nat.le_refl _) (fun q => Bool.noConfusion (hw.symm.trans q)) (State.Warmed39.trans (t := x.s.setVm vm) h5 S'.1) P (Or.inl rfl)
    exact G.ofS stp (hr BU BU.heap F' v W' q)
  | false =>
    have e := h4 hw
    obtain ⟨v, vm₁, ⟨BU, BL, Bc, Bs⟩, -, X', P, stp⟩ := X.interfaceBack B.2.2.2.2.2.2.1 hown (mvT (s := x.s.setVm vm) h5 w1) (mvT (s := x.s.setVm vm) h5 wd) (mvT (s := x.s.setVm vm) h5 wf hfa) (mvT (s := x.s.setVm vm) h5 wsel) (mvT (s := x.s.setVm vm) h5 w2) (mvT (s := x.s.setVm vm) h5 wp) (mvT (s := x.s.setVm vm) h5 wu) (mvT (s := x.s.setVm vm) h5 wca) hy (payN (len := 5) (W := Wt) hw hM h5 h7 h8.1 h9 h10 w4 w3 hf hlo) i1 i2 i3 (g := fr x pc Ls (argsL.reverse ++ .ref a :: st)) rfl (hsz.trans B.2.1.symm) (Steps.refl _) (lenOf pd hl) rfl (by show 2 * 0 + _ ≤ _; omega) (by rw [B.1]; exact d1) (fun vm₁ _ => ⟨rfl, h1, hc, hs⟩)
    have gr : h.size ≤ BU.heap.size := by obtain ⟨_, _, _, _, _, _, c5, _⟩ := P; exact c5.2.1
    obtain ⟨F', W', q⟩ := back_wk (vm := vm) W0 ⟨rfl, rfl, rfl⟩ h6 h8 h10 X' h2 (Nat.le_trans h3 gr) h4 h5 P (Or.inr ⟨h10.2 hw, rfl⟩)
    exact G.ofS stp (hr BU BU.heap F' v W' q)
theorem w_private (W : Wk E x T h F cs ss) (B : Is x own b ml R ret nm) {index : Nat} {C : String} {y : MethodName} {bytes : ByteArray} {maxL : Nat} {rt : Option FieldType} {rm : Room} {Q : Option Value → Heap → List Addr → Prop} {ps : List FieldType} {r : Option FieldType} {a : Addr} {argsL : List Value} {Wt : Nat} (d : D b pc (.invokevirtual index) 3 nx)
    (w1 : (Cond.methodLink own index y).before E.a E.Z = true) (w2 : (Cond.instanceMethod y).before E.a E.Z = true) (wpr : (Cond.privateMethod y).before E.a E.Z = true) (nf : NotFace E.Z y) (w3 : (Cond.initialized y.cls).before E.a E.Z = true) (w4 : (Cond.code y bytes maxL rt).before E.a E.Z = true) (hy : y.cls ≠ "java/lang/invoke/MethodHandle" ∧ y.cls ≠ "java/lang/invoke/VarHandle") (Ex : Exa E.Z h a C)
    (pd : parseMethodDescriptor y.desc = some ⟨ps, r⟩) (hl : argsL.length = ps.length) (hsz : Ls.size = ml) (hst : stk = argsL.reverse ++ .ref a :: st) (hW : (st.map fun v => v.category).sum ≤ Wt) (hM : Met E y bytes maxL rt rm (.ref a :: argsL).toArray h F Q)
    (hf : rm.frames + 1 ≤ R.frames) (hlo : Wt + (maxL + 11) + rm.locals ≤ R.locals) (hc : cs + rm.cells ≤ R.cells) (hs : ss + rm.slots ≤ R.slots)
    (hr : ∀ (T' : State) (h' : Heap) (F' : List Addr) (v : Option Value), Wk E x T' h' F' (cs + rm.cells) (ss + rm.slots) → Q v h' F' → G E x T' (fr x nx Ls (v.toList ++ st))) : G E x T (fr x pc Ls stk) := by
  obtain ⟨d1, rfl⟩ := d
  subst hst
  have W0 := W
  obtain ⟨vm, k, L, X, h1, h2, h3, h4, h5, h6, h7, h8, h9, h10⟩ := W
  have hown : vm.findClass own = some x.m.cls := by rw [h2.1.alike.findClass]; exact B.2.2.2.2.2.2.2
  obtain ⟨cl, hcl, hst⟩ := Ex.cell
  have wsel0 : (Cond.selects y.cls y y).before E.a E.Z = true := by
    obtain ⟨mk, _, hn, -⟩ := Cond.instanceMethod_spec w2
    obtain ⟨kr, hk, hi⟩ := nf mk hn
    exact selects_self_of_private (findClass_of_methodNamed hn) hk hi (Cond.privateMethod_at wpr) w2 hy
  have wsel : (Cond.selects y.cls y y).before x.args (x.s.setVm vm) = true := mvT (s := x.s.setVm vm) h5 wsel0
  rw [← B.2.2.1] at hf hlo hc hs
  cases hw : E.w with
  | true =>
    obtain ⟨v, vm₁, ⟨BU, BL, Bc, Bs⟩, -, X', S', gr, P, stp⟩ := X.privateBackS B.2.2.2.2.2.2.1 hown (mvT (s := x.s.setVm vm) h5 w1) (mvT (s := x.s.setVm vm) h5 w2) wsel (Cond.privateMethod_at (mvP (s := x.s.setVm vm) (args := x.args) h5 wpr)) (mvT (s := x.s.setVm vm) h5 w4) hy (payS (len := 3) (W := Wt) hw hM h5 h7 h8.1 h9 h10 w4 w3 hf hlo) (g := fr x pc Ls (argsL.reverse ++ .ref a :: st)) rfl (hsz.trans B.2.1.symm) (Steps.refl _) (by rw [h1]; exact hcl) hst (lenOf pd hl) rfl (by show 2 * 0 + _ ≤ _; omega) (by rw [B.1]; exact d1) (fun vm₁ _ => ⟨rfl, h1, hc, hs⟩)
    obtain ⟨F', W', q⟩ := back_wk (vm := vm) W0 ⟨rfl, rfl, rfl⟩ h6 h8 h10 X' (foldS h2 (by rw [h1]; exact h3) S' gr) (Nat.le_refl _) (fun q => Bool.noConfusion (hw.symm.trans q)) (State.Warmed39.trans (t := x.s.setVm vm) h5 S'.1) P (Or.inl rfl)
    exact G.ofS stp (hr BU BU.heap F' v W' q)
  | false =>
    have e := h4 hw
    obtain ⟨v, vm₁, ⟨BU, BL, Bc, Bs⟩, -, X', P, stp⟩ := X.privateBack B.2.2.2.2.2.2.1 hown (mvT (s := x.s.setVm vm) h5 w1) (mvT (s := x.s.setVm vm) h5 w2) wsel (Cond.privateMethod_at (mvP (s := x.s.setVm vm) (args := x.args) h5 wpr)) (mvT (s := x.s.setVm vm) h5 w4) hy (payN (len := 3) (W := Wt) hw hM h5 h7 h8.1 h9 h10 w4 w3 hf hlo) (g := fr x pc Ls (argsL.reverse ++ .ref a :: st)) rfl (hsz.trans B.2.1.symm) (Steps.refl _) (by rw [h1]; exact hcl) hst (lenOf pd hl) rfl (by show 2 * 0 + _ ≤ _; omega) (by rw [B.1]; exact d1) (fun vm₁ _ => ⟨rfl, h1, hc, hs⟩)
    have gr : h.size ≤ BU.heap.size := by obtain ⟨_, _, _, _, _, _, c5, _⟩ := P; exact c5.2.1
    obtain ⟨F', W', q⟩ := back_wk (vm := vm) W0 ⟨rfl, rfl, rfl⟩ h6 h8 h10 X' h2 (Nat.le_trans h3 gr) h4 h5 P (Or.inr ⟨h10.2 hw, rfl⟩)
    exact G.ofS stp (hr BU BU.heap F' v W' q)
theorem w_super (W : Wk E x T h F cs ss) (B : Is x own b ml R ret nm) {index : Nat} {K : String} {y : MethodName} {bytes : ByteArray} {maxL : Nat} {rt : Option FieldType} {rm : Room} {Q : Option Value → Heap → List Addr → Prop} {ps : List FieldType} {r : Option FieldType} {a : Addr} {argsL : List Value} {Wt : Nat} (d : D b pc (.invokespecial index) 3 nx)
    (hn : y.name ≠ "<init>") (w1 : (Cond.methodLink own index y).before E.a E.Z = true) (w2 : (Cond.instanceMethod y).before E.a E.Z = true) (wsu : (Cond.superclass own y.cls).before E.a E.Z = true) (nf : NotFace E.Z y) (w3 : (Cond.initialized y.cls).before E.a E.Z = true) (w4 : (Cond.code y bytes maxL rt).before E.a E.Z = true) (hy : y.cls ≠ "java/lang/invoke/MethodHandle" ∧ y.cls ≠ "java/lang/invoke/VarHandle") (In : Ins E.Z h a K true)
    (pd : parseMethodDescriptor y.desc = some ⟨ps, r⟩) (hl : argsL.length = ps.length) (hsz : Ls.size = ml) (hst : stk = argsL.reverse ++ .ref a :: st) (hW : (st.map fun v => v.category).sum ≤ Wt) (hM : Met E y bytes maxL rt rm (.ref a :: argsL).toArray h F Q)
    (hf : rm.frames + 1 ≤ R.frames) (hlo : Wt + (maxL + 11) + rm.locals ≤ R.locals) (hc : cs + rm.cells ≤ R.cells) (hs : ss + rm.slots ≤ R.slots)
    (hr : ∀ (T' : State) (h' : Heap) (F' : List Addr) (v : Option Value), Wk E x T' h' F' (cs + rm.cells) (ss + rm.slots) → Q v h' F' → G E x T' (fr x nx Ls (v.toList ++ st))) : G E x T (fr x pc Ls stk) := by
  obtain ⟨d1, rfl⟩ := d
  subst hst
  have W0 := W
  obtain ⟨vm, k, L, X, h1, h2, h3, h4, h5, h6, h7, h8, h9, h10⟩ := W
  have hown : vm.findClass own = some x.m.cls := by rw [h2.1.alike.findClass]; exact B.2.2.2.2.2.2.2
  have wsm : (Cond.sameMethod y.cls y.cls y.name y.desc).before E.a E.Z = true := by
    obtain ⟨mk, _, hnm, -⟩ := Cond.instanceMethod_spec w2
    obtain ⟨kr, hk, hi⟩ := nf mk hnm
    have hc0 := findClass_of_methodNamed hnm
    have hf0 := State.methodFound?_of_named hnm hy
    have hnm' : E.Z.methodNamed? ⟨y.cls, y.name, y.desc⟩ = some mk := hnm
    simp [Cond.before, Cond.holds, Cond.value, hc0, hf0, hnm', hk, hi]
  rw [← B.2.2.1] at hf hlo hc hs
  cases hw : E.w with
  | true =>
    obtain ⟨v, vm₁, ⟨BU, BL, Bc, Bs⟩, -, X', S', gr, P, stp⟩ := superBackS X B.2.2.2.2.2.2.1 (s := x.s.setVm vm) h5 hown w1 wsm w2 wsu hn (payS (len := 3) (W := Wt) hw hM h5 h7 h8.1 h9 h10 w4 w3 hf hlo) h1 In (g := fr x pc Ls (argsL.reverse ++ .ref a :: st)) rfl (hsz.trans B.2.1.symm) w4 (lenOf pd hl) rfl (by show 2 * 0 + _ ≤ _; omega) (by rw [B.1]; exact d1) (fun vm₁ _ => ⟨rfl, h1, hc, hs⟩)
    obtain ⟨F', W', q⟩ := back_wk (vm := vm) W0 ⟨rfl, rfl, rfl⟩ h6 h8 h10 X' (foldS h2 (by rw [h1]; exact h3) S' gr) (Nat.le_refl _) (fun q => Bool.noConfusion (hw.symm.trans q)) (State.Warmed39.trans (t := x.s.setVm vm) h5 S'.1) P (Or.inl rfl)
    exact G.ofS stp (hr BU BU.heap F' v W' q)
  | false =>
    have e := h4 hw
    obtain ⟨v, vm₁, ⟨BU, BL, Bc, Bs⟩, -, X', P, stp⟩ := superBack X B.2.2.2.2.2.2.1 (s := x.s.setVm vm) h5 hown w1 wsm w2 wsu hn (payN (len := 3) (W := Wt) hw hM h5 h7 h8.1 h9 h10 w4 w3 hf hlo) h1 In (g := fr x pc Ls (argsL.reverse ++ .ref a :: st)) rfl (hsz.trans B.2.1.symm) w4 (lenOf pd hl) rfl (by show 2 * 0 + _ ≤ _; omega) (by rw [B.1]; exact d1) (fun vm₁ _ => ⟨rfl, h1, hc, hs⟩)
    have gr : h.size ≤ BU.heap.size := by obtain ⟨_, _, _, _, _, _, c5, _⟩ := P; exact c5.2.1
    obtain ⟨F', W', q⟩ := back_wk (vm := vm) W0 ⟨rfl, rfl, rfl⟩ h6 h8 h10 X' h2 (Nat.le_trans h3 gr) h4 h5 P (Or.inr ⟨h10.2 hw, rfl⟩)
    exact G.ofS stp (hr BU BU.heap F' v W' q)
theorem nf_z {E : Gl} {C : String} {y : MethodName} (w : (Cond.selects C y y).before E.a E.Z = true) : NotFace E.Z y := notFace_of_selects w
theorem w_aaloadC (W : Wk E x T h F cs ss) (B : Is x own b ml R ret nm) {a : Addr} {cl : Cell} {ty : FieldType} {j : Int32} {v : Value} (d : D b pc .aaload 1 nx) (hty : ty.isReference = true) (A : Arr E.Z h a cl ty) (hj : ¬ (j < 0 ∨ cl.slots.size ≤ j.toNatClampNeg)) (hv : cl.slots[j.toNatClampNeg]? = some v) (hr : G E x T (fr x nx Ls (v :: st))) : G E x T (fr x pc Ls (.int j :: .ref a :: st)) := by
  obtain ⟨d1, rfl⟩ := d
  obtain ⟨vm, L, X, e, hZ, hown, -, -⟩ := W.open B
  exact G.of (fun t r => X.aaload B.2.2.2.2.2.2.1 (by rw [e]; exact A.1) (State.isArrayOf_alike hZ.alike A.2.1) hty A.2.2 hj hv (g := fr x pc Ls (.int j :: .ref a :: st)) rfl rfl (by rw [B.1]; exact d1) t r) hr
theorem w_dup2L (W : Wk E x T h F cs ss) (B : Is x own b ml R ret nm) {v : Int64} (d : D b pc .dup2 1 nx) (hr : G E x T (fr x nx Ls (.long v :: .long v :: st))) : G E x T (fr x pc Ls (.long v :: st)) := by
  obtain ⟨d1, rfl⟩ := d; exact pstep W (fun _ A r => XT.dup2L A B.2.2.2.2.2.2.1 rfl (by rw [B.1]; exact d1) rfl r) hr
end CallsF
end Jvm.Own
namespace Jvm.Pilot.@@N@@
open Jvm Jvm.ClassFile Sem Op Lib Jvm.Free Jvm.Stand Jvm.LawKit Jvm.RoadKit Bundle Jvm.Pilot.@@N@@.Jvm.D Jvm.Own
def Tb (E : Gl) : Prop := (∀ c ∈ tables_1, c.before E.a E.Z = true) ∧ (∀ c ∈ jdkStatics_1, c.before E.a E.Z = true) ∧ E.w = true ∧ E.K = consts_1
theorem wd {E : Gl} (hw : Tb E) (k : Nat) {c : Jvm.Cond} (q : tables_1[k]? = some c) : c.before E.a E.Z = true := hw.1 c (List.mem_of_getElem? q)
theorem sd {E : Gl} (hw : Tb E) (k : Nat) {c : Jvm.Cond} (q : jdkStatics_1[k]? = some c) : c.before E.a E.Z = true := hw.2.1 c (List.mem_of_getElem? q)

theorem strAtoms {E : Gl} (hw : Tb E) : ∀ c ∈ Bundle.stringAtoms, c.before E.a E.Z = true := by
  intro c hc
  simp only [Bundle.stringAtoms, List.mem_cons, List.not_mem_nil, or_false] at hc
  rcases hc with rfl | rfl | rfl | rfl | rfl | rfl | rfl
  · exact (wd hw 25 rfl)
  · exact (wd hw 24 rfl)
  · exact (wd hw 41 rfl)
  · exact (wd hw 51 rfl)
  · exact (wd hw 49 rfl)
  · exact (wd hw 118 rfl)
  · exact (wd hw 119 rfl)
theorem d_cmp5_0 : Own.D jdk_52_method_21_code 0 (.iconst 0) 1 1 := ⟨by decide +kernel, rfl⟩
theorem d_cmp5_1 : Own.D jdk_52_method_21_code 1 (.istore 5) 2 3 := ⟨by decide +kernel, rfl⟩
theorem d_cmp5_3 : Own.D jdk_52_method_21_code 3 (.iload 5) 2 5 := ⟨by decide +kernel, rfl⟩
theorem d_cmp5_5 : Own.D jdk_52_method_21_code 5 (.iload 4) 2 7 := ⟨by decide +kernel, rfl⟩
theorem d_cmp5_7 : Own.J jdk_52_method_21_code 7 (.if_icmp .ge 37) 3 10 37 44 := ⟨by decide +kernel, rfl, by decide, by decide⟩
theorem d_cmp5_10 : Own.D jdk_52_method_21_code 10 (.aload_n 0) 1 11 := ⟨by decide +kernel, rfl⟩
theorem d_cmp5_11 : Own.D jdk_52_method_21_code 11 (.iload_n 1) 1 12 := ⟨by decide +kernel, rfl⟩
theorem d_cmp5_12 : Own.D jdk_52_method_21_code 12 .caload 1 13 := ⟨by decide +kernel, rfl⟩
theorem d_cmp5_13 : Own.D jdk_52_method_21_code 13 (.istore 6) 2 15 := ⟨by decide +kernel, rfl⟩
theorem d_cmp5_15 : Own.D jdk_52_method_21_code 15 (.iload 6) 2 17 := ⟨by decide +kernel, rfl⟩
theorem d_cmp5_17 : Own.D jdk_52_method_21_code 17 (.sipush 255) 3 20 := ⟨by decide +kernel, rfl⟩
theorem d_cmp5_20 : Own.J jdk_52_method_21_code 20 (.if_icmp .le 6) 3 23 6 26 := ⟨by decide +kernel, rfl, by decide, by decide⟩
theorem d_cmp5_23 : Own.D jdk_52_method_21_code 23 (.iload 5) 2 25 := ⟨by decide +kernel, rfl⟩
theorem d_cmp5_25 : Own.D jdk_52_method_21_code 25 .ireturn 1 26 := ⟨by decide +kernel, rfl⟩
theorem d_cmp5_26 : Own.D jdk_52_method_21_code 26 (.aload_n 2) 1 27 := ⟨by decide +kernel, rfl⟩
theorem d_cmp5_27 : Own.D jdk_52_method_21_code 27 (.iload_n 3) 1 28 := ⟨by decide +kernel, rfl⟩
theorem d_cmp5_28 : Own.D jdk_52_method_21_code 28 (.iload 6) 2 30 := ⟨by decide +kernel, rfl⟩
theorem d_cmp5_30 : Own.D jdk_52_method_21_code 30 .i2b 1 31 := ⟨by decide +kernel, rfl⟩
theorem d_cmp5_31 : Own.D jdk_52_method_21_code 31 .bastore 1 32 := ⟨by decide +kernel, rfl⟩
theorem d_cmp5_32 : Own.D jdk_52_method_21_code 32 (.iinc 1 1) 3 35 := ⟨by decide +kernel, rfl⟩
theorem d_cmp5_35 : Own.D jdk_52_method_21_code 35 (.iinc 3 1) 3 38 := ⟨by decide +kernel, rfl⟩
theorem d_cmp5_38 : Own.D jdk_52_method_21_code 38 (.iinc 5 1) 3 41 := ⟨by decide +kernel, rfl⟩
theorem d_cmp5_41 : Own.J jdk_52_method_21_code 41 (.goto (-38)) 3 44 (-38) 3 := ⟨by decide +kernel, rfl, by decide, by decide⟩
theorem d_cmp5_44 : Own.D jdk_52_method_21_code 44 (.iload 4) 2 46 := ⟨by decide +kernel, rfl⟩
theorem d_cmp5_46 : Own.D jdk_52_method_21_code 46 .ireturn 1 47 := ⟨by decide +kernel, rfl⟩
/-- what compress leaves: it stopped at i; the places before i hold the low bytes -/
def QC5 (E : Gl) (cs : List Int32) (n : Nat) (a d : Addr) (kd : ClassId) (h0 : Heap) (F : List Addr) (v : Option Value) (h : Heap) (F' : List Addr) : Prop :=
  ∃ (i : Nat) (vs : List Value), v = some (.int i.toInt32) ∧ F = F' ∧ i ≤ n ∧ (i < n → 255 < (cs.getD i 0).toInt) ∧ (∀ j, j < i → (cs.getD j 0).toInt ≤ 255) ∧ Keep h0 h [d] ∧ Arv E.Z h d kd .byte n.toInt32 vs (.int 0) ∧ vs.length = n ∧ ∀ j, j < i → vs.getD j (.int 0) = .int (lo8 (cs.getD j 0))
theorem nar_lo8 (c : Int32) : nar .byte (lo8 c) = lo8 c := Int32.toInt_inj.mp (by show (lo8 (lo8 c)).toInt = _; rw [lo8_toInt, lo8_toInt, Int.bmod_bmod])
theorem set_pre {vs : List Value} {n i : Nat} {f : Nat → Value} {u : Value} (hvl : vs.length = n) (hin : i < n) (hvs : ∀ j, j < i → vs.getD j (.int 0) = f j) (hu : u = f i := by rfl) : ∀ j, j < i + 1 → (vs.set i u).getD j (.int 0) = f j := by
  intro j hj
  rcases Nat.lt_succ_iff_lt_or_eq.mp hj with q | rfl
  · rw [List.getD_eq_getElem?_getD, List.getElem?_set_ne (by omega), ← List.getD_eq_getElem?_getD]; exact hvs j q
  · rw [List.getD_eq_getElem?_getD, List.getElem?_set_self (by omega)]; exact hu
set_option maxRecDepth 65536 in
set_option maxHeartbeats 4000000 in
theorem cmp5_turns {E : Gl} (hw : Tb E) {x : Cx} {a d : Addr} {ka kd : ClassId} {n : Nat} {cs : List Int32} {h0 : Heap} {F : List Addr} (hQ : x.Q = QC5 E cs n a d kd h0 F) (B : Is x "java/lang/StringUTF16" jdk_52_method_21_code 7 ({ frames := 0, cells := 0, slots := 0, locals := 0 } : Room) (some .int) "compress") (hcs : cs.length = n) (hn : n < 2 ^ 31) (had : a ≠ d) (hd : d ∈ F) :
    ∀ (r i : Nat) (T : State) (h : Heap) (s6 : Slot) (vs : List Value), i + r = n → LS s6 → Wk E x T h F 0 0 → Arv E.Z h a ka .char n.toInt32 (ints cs) (.int 0) → Arv E.Z h d kd .byte n.toInt32 vs (.int 0) → vs.length = n →
      (∀ j, j < i → vs.getD j (.int 0) = .int (lo8 (cs.getD j 0))) → (∀ j, j < i → (cs.getD j 0).toInt ≤ 255) → Keep h0 h [d] → G E x T (fr x 3 #[.val (.ref a), .val (.int i.toInt32), .val (.ref d), .val (.int i.toInt32), .val (.int n.toInt32), .val (.int i.toInt32), s6] []) := by
  intro r
  induction r with
  | zero =>
    intro i T h s6 vs hir hs6 W Aa Ad hvl hvs hlat hK
    have hie : i = n := by omega
    have hi31 : i < 2 ^ 31 := by omega
    refine w_iload W B d_cmp5_3 rfl ?_
    refine w_iload W B d_cmp5_5 rfl ?_
    refine w_icmp_ge W B d_cmp5_7 (fun _ => ?_) (fun q => absurd q (by rw [n_lt hi31 hn]; omega))
    show G E x T (fr x 44 #[.val (.ref a), .val (.int i.toInt32), .val (.ref d), .val (.int i.toInt32), .val (.int n.toInt32), .val (.int i.toInt32), s6] [])
    refine w_iload W B d_cmp5_44 rfl ?_
    exact w_ireturn W B d_cmp5_46 hQ (by decide) (by decide) (fun _ q => q) ⟨n, vs, rfl, rfl, Nat.le_refl _, fun q => absurd q (Nat.lt_irrefl _), fun j q => hlat j (by omega), hK, Ad, hvl, fun j q => hvs j (by omega)⟩
  | succ r ih =>
    intro i T h s6 vs hir hs6 W Aa Ad hvl hvs hlat hK
    have hin : i < n := by omega
    have hi31 : i < 2 ^ 31 := by omega
    refine w_iload W B d_cmp5_3 rfl ?_
    refine w_iload W B d_cmp5_5 rfl ?_
    refine w_icmp_ge W B d_cmp5_7 (fun q => q ((n_lt hi31 hn).mpr hin) |>.elim) (fun _ => ?_)
    show G E x T (fr x 10 #[.val (.ref a), .val (.int i.toInt32), .val (.ref d), .val (.int i.toInt32), .val (.int n.toInt32), .val (.int i.toInt32), s6] [])
    refine w_aloadN W B d_cmp5_10 rfl rfl ?_
    refine w_iloadN W B d_cmp5_11 rfl ?_
    refine w_caload W B d_cmp5_12 Aa ⟨n_nn hi31, (n_lt hi31 hn).mpr hin⟩ (v := .int (cs.getD i 0)) (by rw [n_clamp hi31]; exact ints_at (by rw [hcs]; exact hin) _) ?_
    refine w_istore W B d_cmp5_13 (Ls' := #[.val (.ref a), .val (.int i.toInt32), .val (.ref d), .val (.int i.toInt32), .val (.int n.toInt32), .val (.int i.toInt32), .val (.int (cs.getD i 0))]) (store_lit [.val (.ref a), .val (.int i.toInt32), .val (.ref d), .val (.int i.toInt32), .val (.int n.toInt32), .val (.int i.toInt32)] [] hs6 _) ?_
    refine w_iload W B d_cmp5_15 rfl ?_
    refine w_sipush W B d_cmp5_17 (v := (255 : Int32)) rfl ?_
    refine w_icmp_le W B d_cmp5_20 ?_ ?_
    · intro hc20
      show G E x T (fr x 26 #[.val (.ref a), .val (.int i.toInt32), .val (.ref d), .val (.int i.toInt32), .val (.int n.toInt32), .val (.int i.toInt32), .val (.int (cs.getD i 0))] [])
      refine w_aloadN W B d_cmp5_26 rfl rfl ?_
      refine w_iloadN W B d_cmp5_27 rfl ?_
      refine w_iload W B d_cmp5_28 rfl ?_
      refine w_i2b W B d_cmp5_30 ?_
      refine w_bastore W B d_cmp5_31 hd Ad ⟨n_nn hi31, (n_lt hi31 hn).mpr hin⟩ (i := i) (n_clamp hi31) (by rw [hvl]; exact hin) (u := lo8 (cs.getD i 0)) (nar_lo8 _) ?_
      intro T2 h2 W2 K2 A2
      show G E x T2 (fr x 32 #[.val (.ref a), .val (.int i.toInt32), .val (.ref d), .val (.int i.toInt32), .val (.int n.toInt32), .val (.int i.toInt32), .val (.int (cs.getD i 0))] [])
      refine w_iinc W2 B d_cmp5_32 rfl (w := (i + 1).toInt32) (n_succ i) (Ls' := #[.val (.ref a), .val (.int (i + 1).toInt32), .val (.ref d), .val (.int i.toInt32), .val (.int n.toInt32), .val (.int i.toInt32), .val (.int (cs.getD i 0))]) rfl ?_
      refine w_iinc W2 B d_cmp5_35 rfl (w := (i + 1).toInt32) (n_succ i) (Ls' := #[.val (.ref a), .val (.int (i + 1).toInt32), .val (.ref d), .val (.int (i + 1).toInt32), .val (.int n.toInt32), .val (.int i.toInt32), .val (.int (cs.getD i 0))]) rfl ?_
      refine w_iinc W2 B d_cmp5_38 rfl (w := (i + 1).toInt32) (n_succ i) (Ls' := #[.val (.ref a), .val (.int (i + 1).toInt32), .val (.ref d), .val (.int (i + 1).toInt32), .val (.int n.toInt32), .val (.int (i + 1).toInt32), .val (.int (cs.getD i 0))]) rfl ?_
      refine w_goto W2 B d_cmp5_41 ?_
      exact ih (i + 1) T2 h2 _ (vs.set i (.int (lo8 (cs.getD i 0)))) (by omega) (Or.inr ⟨_, rfl⟩) W2 (Aa.keep K2 (ninS had nin0)) A2 (by rw [List.length_set]; exact hvl) (set_pre hvl hin hvs)
        (fun j hj => by rcases Nat.lt_succ_iff_lt_or_eq.mp hj with q | rfl; exact hlat j q; exact Int.not_lt.mp fun q => hc20 (Int32.lt_iff_toInt_lt.mpr q)) (hK.trans K2 (allS (Or.inl (List.Mem.head _)) all0))
    · intro hc20
      show G E x T (fr x 23 #[.val (.ref a), .val (.int i.toInt32), .val (.ref d), .val (.int i.toInt32), .val (.int n.toInt32), .val (.int i.toInt32), .val (.int (cs.getD i 0))] [])
      refine w_iload W B d_cmp5_23 rfl ?_
      exact w_ireturn W B d_cmp5_25 hQ (by decide) (by decide) (fun _ q => q) ⟨i, vs, rfl, rfl, Nat.le_of_lt hin, fun _ => by have := Int32.lt_iff_toInt_lt.mp hc20; exact this, hlat, hK, Ad, hvl, hvs⟩
set_option maxRecDepth 65536 in
set_option maxHeartbeats 4000000 in
theorem cmp5_met {E : Gl} (hw : Tb E) {a d : Addr} {ka kd : ClassId} {n : Nat} {cs : List Int32} {vs : List Value} {h : Heap} {F : List Addr} (hcs : cs.length = n) (hn : n < 2 ^ 31) (had : a ≠ d) (hd : d ∈ F) (Aa : Arv E.Z h a ka .char n.toInt32 (ints cs) (.int 0)) (Ad : Arv E.Z h d kd .byte n.toInt32 vs (.int 0)) (hvl : vs.length = n) :
    Met E (⟨"java/lang/StringUTF16", "compress", "([CI[BII)I"⟩ : MethodName) jdk_52_method_21_code 7 (some .int) ({ frames := 0, cells := 0, slots := 0, locals := 0 } : Room) #[.ref a, .int 0, .ref d, .int 0, .int n.toInt32] h F (QC5 E cs n a d kd h F) := by
  refine met_of (by decide +kernel) fun x T hQ B W => ?_
  refine G.cast (g' := fr x 0 #[.val (.ref a), .val (.int 0), .val (.ref d), .val (.int 0), .val (.int n.toInt32), .unset, .unset] []) (by simp [entryFrame, mkF, argsToLocals, Own.cat_r, Own.cat_i, Own.cat_j, Own.cat_n]) ?_
  refine w_iconst W B d_cmp5_0 (v := (0 : Int32)) rfl ?_
  refine w_istore W B d_cmp5_1 (Ls' := #[.val (.ref a), .val (.int (0 : Int32)), .val (.ref d), .val (.int (0 : Int32)), .val (.int n.toInt32), .val (.int (0 : Int32)), .unset]) rfl ?_
  exact cmp5_turns hw hQ B hcs hn had hd n 0 T h .unset vs (Nat.zero_add n) (Or.inl rfl) W Aa Ad hvl (fun j q => absurd q (Nat.not_lt_zero _)) (fun j q => absurd q (Nat.not_lt_zero _)) (Keep.refl _ _)
/-- the String at s spells cs; v: its byte[] -/
def StrV (E : Gl) (h : Heap) (s v : Addr) (cs : List Int32) : Prop := ∃ k : ClassId, Exa E.Z h s "java/lang/String" ∧ Fld E.Z h s "java/lang/String" "value" "[B" (.ref v) ∧ Ch cs ∧
  ((Lat cs ∧ Fld E.Z h s "java/lang/String" "coder" "B" (.int 0) ∧ Arv E.Z h v k .byte cs.length.toInt32 (b8 cs) (.int 0)) ∨ (¬ Lat cs ∧ Fld E.Z h s "java/lang/String" "coder" "B" (.int 1) ∧ Arv E.Z h v k .byte (2 * cs.length).toInt32 (b16 cs) (.int 0)))
theorem StrV.ext {E : Gl} {h h' : Heap} {s v : Addr} {cs : List Int32} (F : StrV E h s v cs) (X : Ext h h') : StrV E h' s v cs := by
  obtain ⟨k, h1, h2, h3, h4⟩ := F
  exact ⟨k, h1.ext X, h2.ext X, h3, h4.imp (fun q => ⟨q.1, q.2.1.ext X, q.2.2.ext X⟩) (fun q => ⟨q.1, q.2.1.ext X, q.2.2.ext X⟩)⟩
theorem StrV.keep {E : Gl} {h h' : Heap} {s v : Addr} {cs : List Int32} {ws : List Addr} (F : StrV E h s v cs) (K : Keep h h' ws) (q1 : s ∉ ws) (q2 : v ∉ ws) : StrV E h' s v cs := by
  obtain ⟨k, h1, h2, h3, h4⟩ := F
  exact ⟨k, h1.keep K, h2.keep K q1, h3, h4.imp (fun q => ⟨q.1, q.2.1.keep K q1, q.2.2.keep K q2⟩) (fun q => ⟨q.1, q.2.1.keep K q1, q.2.2.keep K q2⟩)⟩
theorem StrV.exa {E : Gl} {h : Heap} {s v : Addr} {cs : List Int32} (F : StrV E h s v cs) : Exa E.Z h s "java/lang/String" := by obtain ⟨k, h1, -⟩ := F; exact h1
theorem StrV.lt {E : Gl} {h : Heap} {s v : Addr} {cs : List Int32} (F : StrV E h s v cs) : s < h.size := F.exa.lt
theorem StrV.ltv {E : Gl} {h : Heap} {s v : Addr} {cs : List Int32} (F : StrV E h s v cs) : v < h.size := by obtain ⟨k, h1, h2, h3, h4⟩ := F; rcases h4 with q | q; exact q.2.2.lt; exact q.2.2.lt
theorem compact {E : Gl} (hw : Tb E) : ∃ z : Int32, Sta E.Z E.Z.heap "java/lang/String" "COMPACT_STRINGS" "Z" (.int z) ∧ ¬ z = 0 := by
  obtain ⟨z, e⟩ := is_v (Cond.before_iff.mp (sd hw 1 rfl))
  exact ⟨z, Sta.start e (Or.inl (sd hw 0 rfl)), gotF (Cond.eq_ints e (Term.int_eval 0)) (not_v (Cond.before_iff.mp (sd hw 2 rfl)))⟩
/-- what a constructor of String leaves -/
def QStr (E : Gl) (cs : List Int32) (s : Addr) (h : Heap) (F : List Addr) (r : Option Value) (h' : Heap) (F' : List Addr) : Prop := r = none ∧ F = F' ∧ Keep h h' [s] ∧ ∃ v : Addr, StrV E h' s v cs ∧ ∀ y ∈ F, y ≠ v
/-- the Latin-1 String at s spells cs; v: its byte[] -/
def StrL (E : Gl) (h : Heap) (s v : Addr) (k : ClassId) (cs : List Int32) : Prop := Exa E.Z h s "java/lang/String" ∧ Fld E.Z h s "java/lang/String" "value" "[B" (.ref v) ∧ Fld E.Z h s "java/lang/String" "coder" "B" (.int 0) ∧ Arv E.Z h v k .byte cs.length.toInt32 (b8 cs) (.int 0)
theorem StrL.ext {E : Gl} {h h' : Heap} {s v : Addr} {k : ClassId} {cs : List Int32} (F : StrL E h s v k cs) (X : Ext h h') : StrL E h' s v k cs := ⟨F.1.ext X, F.2.1.ext X, F.2.2.1.ext X, F.2.2.2.ext X⟩
theorem StrL.keep {E : Gl} {h h' : Heap} {s v : Addr} {k : ClassId} {cs : List Int32} {ws : List Addr} (F : StrL E h s v k cs) (K : Keep h h' ws) (q1 : s ∉ ws) (q2 : v ∉ ws) : StrL E h' s v k cs := ⟨F.1.keep K, F.2.1.keep K q1, F.2.2.1.keep K q1, F.2.2.2.keep K q2⟩
theorem StrV.latin {E : Gl} {h : Heap} {s v : Addr} {cs : List Int32} (F : StrV E h s v cs) (hL : Lat cs) : ∃ k, StrL E h s v k cs := by
  obtain ⟨k, h1, h2, h3, h4⟩ := F
  rcases h4 with q | q
  · exact ⟨k, h1, h2, q.2.1, q.2.2⟩
  · exact absurd hL q.1
/-- the StringBuilder at s holds cs in the byte[16] at v -/
def SbV (E : Gl) (h : Heap) (s v : Addr) (k : ClassId) (cs : List Int32) : Prop := Exa E.Z h s "java/lang/StringBuilder" ∧ Fld E.Z h s "java/lang/AbstractStringBuilder" "value" "[B" (.ref v) ∧ Fld E.Z h s "java/lang/AbstractStringBuilder" "coder" "B" (.int 0) ∧ Fld E.Z h s "java/lang/AbstractStringBuilder" "count" "I" (.int cs.length.toInt32) ∧ Arv E.Z h v k .byte (16 : Int32) (b8 cs ++ List.replicate (16 - cs.length) (Value.int 0)) (.int 0)
theorem ens_ok {m : Nat} (h : m ≤ 16) : ¬ (0 : Int32) < m.toInt32 - ((16 : Int32) >>> ((0 : Int32) &&& 31)) := by
  have q : ∀ m : Fin 17, ¬ (0 : Int32) < m.val.toInt32 - ((16 : Int32) >>> ((0 : Int32) &&& 31)) := by decide
  exact q ⟨m, by omega⟩
theorem us_all {vs : List Value} {d : Value} {n : Nat} (hn : n < 2 ^ 31) (hl : n ≤ vs.length) : vs.take n = (List.range n.toInt32.toNatClampNeg).map fun i => vs.getD ((0 : Int32).toNatClampNeg + i) d := by
  apply List.ext_getElem
  · simp [n_clamp hn]; omega
  · intro i h1 h2
    have h3 : i < vs.length := by simp at h1; omega
    have e0 : (0 : Int32).toNatClampNeg = 0 := by decide
    simp [e0, List.getD_eq_getElem?_getD, List.getElem?_eq_getElem h3]
theorem put_b8 {cs ds : List Int32} (h : cs.length + ds.length ≤ 16) : (b8 cs ++ List.replicate (16 - cs.length) (Value.int 0)).take cs.length.toInt32.toNatClampNeg ++ (b8 ds).take ds.length ++ (b8 cs ++ List.replicate (16 - cs.length) (Value.int 0)).drop (cs.length.toInt32.toNatClampNeg + ds.length.toInt32.toNatClampNeg) = b8 (cs ++ ds) ++ List.replicate (16 - (cs ++ ds).length) (Value.int 0) := by
  have hc : cs.length < 2 ^ 31 := by omega
  have hd : ds.length < 2 ^ 31 := by omega
  rw [n_clamp hc, n_clamp hd, List.take_left' (b8_len cs), List.take_of_length_le (by rw [b8_len]; exact Nat.le_refl _), List.drop_append, List.drop_of_length_le (by rw [b8_len]; omega), List.drop_replicate, b8_len]
  simp only [b8, List.map_append, List.nil_append, List.append_assoc, List.length_append]
  congr 3
  omega
theorem get_b8 {cs : List Int32} (h : cs.length ≤ 16) : (List.replicate cs.length (Value.int 0)).take (0 : Int32).toNatClampNeg ++ (b8 cs ++ List.replicate (16 - cs.length) (Value.int 0)).take cs.length ++ (List.replicate cs.length (Value.int 0)).drop ((0 : Int32).toNatClampNeg + cs.length.toInt32.toNatClampNeg) = b8 cs := by
  have hc : cs.length < 2 ^ 31 := by omega
  have e0 : (0 : Int32).toNatClampNeg = 0 := by decide
  rw [n_clamp hc, List.take_left' (b8_len cs), e0, List.drop_of_length_le (by simp)]
  simp
def dg (w k : Nat) : Nat := w / 10 ^ k % 10
def dbn (x : Nat) : Nat := 2 * x / 10 + 2 * x % 10
/-- the weighted sum of the first k digits -/
def sm (d : Nat → Nat) : Nat → Nat
  | 0 => 0
  | k + 1 => sm d k + (if k % 2 = 0 then dbn (d k) else d k)
def ckn (s : Nat) : Nat := (10 - s % 10) % 10
theorem dg_le (w k : Nat) : dg w k ≤ 9 := Nat.le_of_lt_succ (Nat.mod_lt _ (by decide))
theorem dg_zero {w n k : Nat} (h : w < 10 ^ n) (hk : n ≤ k) : dg w k = 0 := by
  unfold dg; rw [Nat.div_eq_of_lt (Nat.lt_of_lt_of_le h (Nat.pow_le_pow_right (by decide) hk))]
theorem dbn_le {x : Nat} (h : x ≤ 9) : dbn x ≤ 9 := by unfold dbn; omega
theorem sm_le {d : Nat → Nat} (hd : ∀ k, d k ≤ 9) : ∀ k, sm d k ≤ 9 * k
  | 0 => Nat.le_refl _
  | k + 1 => by
    have h1 := sm_le hd k
    have h2 := dbn_le (hd k)
    have h3 := hd k
    unfold sm; split <;> omega
theorem ckn_le (s : Nat) : ckn s ≤ 9 := Nat.le_of_lt_succ (Nat.mod_lt _ (by decide))
theorem n_mul (i j : Nat) : i.toInt32 * j.toInt32 = (i * j).toInt32 := (Int32.ofNat_mul i j).symm
theorem n_sub {i j : Nat} (hi : i < 2 ^ 31) (h : j ≤ i) : i.toInt32 - j.toInt32 = (i - j).toInt32 := by
  apply Int32.toInt_inj.mp
  rw [Int32.toInt_sub, n_int hi, n_int (by omega), n_int (by omega)]
  exact (Int.bmod_eq_of_le (by omega) (by omega)).trans (by omega)
theorem n_rem {i : Nat} (m : Nat) (hi : i < 2 ^ 31) (hm : m < 2 ^ 31) : i.toInt32 % m.toInt32 = (i % m).toInt32 := by
  apply Int32.toInt_inj.mp
  rw [(c_irem i.toInt32 m.toInt32 m (n_int hm)).1 (by rw [n_int hi]; omega), n_int hi, n_int (Nat.lt_of_le_of_lt (Nat.mod_le _ _) hi)]
  omega
theorem n_div {i : Nat} (m : Nat) (hi : i < 2 ^ 31) (hm : m < 2 ^ 31) : i.toInt32 / m.toInt32 = (i / m).toInt32 := by
  apply Int32.toInt_inj.mp
  have hne : m.toInt32 ≠ -1 := fun q => by
    have := congrArg Int32.toInt q
    rw [n_int hm, show (-1 : Int32).toInt = -1 from by decide] at this; omega
  rw [(c_idiv i.toInt32 m.toInt32 m (n_int hm) hne).1 (by rw [n_int hi]; omega), n_int hi, n_int (Nat.lt_of_le_of_lt (Nat.div_le_self _ _) hi)]
  omega
theorem lrem_nn {x y : Int64} {d : Int} (hy : y.toInt = d) (h0 : 0 ≤ x.toInt) : (x % y).toInt = x.toInt % d := by
  rw [Int64.toInt_mod, hy]; exact Int.tmod_eq_emod_of_nonneg h0
theorem dig_eq {v pk : Int64} {w k : Nat} (hv : v.toInt = (w : Int)) (hp : pk.toInt = ((10 ^ k : Nat) : Int)) : (v / pk % 10).toInt32 = (dg w k).toInt32 := by
  have hne : pk ≠ -1 := fun q => by
    have := congrArg Int64.toInt q
    rw [hp, show (-1 : Int64).toInt = -1 from by decide] at this
    have h0 : (0 : Int) ≤ ((10 ^ k : Nat) : Int) := Int.natCast_nonneg _
    omega
  have e1 : (v / pk).toInt = ((w / 10 ^ k : Nat) : Int) := by
    rw [(c_ldiv v pk _ hp hne).1 (by rw [hv]; omega), hv]; exact (Int.natCast_ediv _ _).symm
  have e2 : (v / pk % 10).toInt = ((dg w k : Nat) : Int) := by
    rw [lrem_nn (d := 10) (by decide) (by rw [e1]; exact Int.natCast_nonneg _), e1]; unfold dg; generalize w / 10 ^ k = z; omega
  apply Int32.toInt_inj.mp
  have h9 := dg_le w k
  rw [Int64.toInt_toInt32, e2, n_int (by omega)]
  exact Int.bmod_eq_of_le (by omega) (by omega)
theorem and31 (x : Int32) : 0 ≤ (x &&& 2147483647).toInt := by
  have h : (x &&& 2147483647).toBitVec.toNat ≤ 2147483647 := by
    show (x.toBitVec &&& (2147483647 : Int32).toBitVec).toNat ≤ _
    rw [BitVec.toNat_and]; exact Nat.and_le_right
  show 0 ≤ (x &&& 2147483647).toBitVec.toInt
  rw [BitVec.toInt_eq_toNat_cond, if_pos (by omega)]; omega
theorem and63 (x : Int64) : 0 ≤ (x &&& 9223372036854775807).toInt := by
  have h : (x &&& 9223372036854775807).toBitVec.toNat ≤ 9223372036854775807 := by
    show (x.toBitVec &&& (9223372036854775807 : Int64).toBitVec).toNat ≤ _
    rw [BitVec.toNat_and]; exact Nat.and_le_right
  show 0 ≤ (x &&& 9223372036854775807).toBitVec.toInt
  rw [BitVec.toInt_eq_toNat_cond, if_pos (by omega)]; omega
theorem num_n (x : Int32) : ∃ n : Nat, 1 ≤ n ∧ n ≤ 14 ∧ (1 : Int32) + (x &&& 2147483647) % 14 = n.toInt32 := by
  have h := and31 x
  have e := (c_irem (x &&& 2147483647) 14 14 (by decide)).1 h
  refine ⟨1 + ((x &&& 2147483647) % 14).toInt.toNat, by omega, by omega, ?_⟩
  apply Int32.toInt_inj.mp
  rw [Int32.toInt_add, n_int (by omega), show (1 : Int32).toInt = 1 from by decide]
  exact (Int.bmod_eq_of_le (by omega) (by omega)).trans (by omega)
theorem num_m (a : Int64) : ∃ w : Nat, w < 10 ^ 14 ∧ ((a &&& 9223372036854775807) % 100000000000000).toInt = (w : Int) := by
  have h := and63 a
  have e := lrem_nn (x := a &&& 9223372036854775807) (y := 100000000000000) (d := 100000000000000) (by decide) h
  exact ⟨((a &&& 9223372036854775807) % 100000000000000).toInt.toNat, by omega, by omega⟩
theorem num_v {m P : Int64} {w n : Nat} (hm : m.toInt = (w : Int)) (hP : P.toInt = ((10 ^ n : Nat) : Int)) : (m % P).toInt = ((w % 10 ^ n : Nat) : Int) := by
  rw [lrem_nn hP (by rw [hm]; omega), hm]; exact (Int.natCast_emod _ _).symm
/-- the char of a digit -/
def dc (x : Nat) : Int32 := (48 + x).toInt32
theorem dc_rng {x : Nat} (h : x ≤ 9) : 48 ≤ (dc x).toInt ∧ (dc x).toInt ≤ 57 := by unfold dc; rw [n_int (by omega)]; omega
theorem dc_i2c {x : Nat} (h : x ≤ 9) : ((48 : Int32) + x.toInt32).toUInt32.toUInt16.toUInt32.toInt32 = dc x := by
  have h1 := dc_rng h
  have e : (48 : Int32) + x.toInt32 = dc x := n_add 48 x
  rw [e]; exact i2c_id (by omega) (by omega)
theorem dc_sub {x : Nat} (h : x ≤ 9) : dc x - 48 = x.toInt32 := (n_sub (i := 48 + x) (j := 48) (by omega) (by omega)).trans (by congr 1; omega)
/-- the fourteen digits, the customer's number, the number with its check digit -/
def pads (d : Nat → Nat) : List Int32 := (List.range 14).map fun i => dc (d (13 - i))
def cust (d : Nat → Nat) (n : Nat) : List Int32 := (List.range n).map fun i => dc (d (n - 1 - i))
def refd (d : Nat → Nat) : List Int32 := pads d ++ [dc (ckn (sm d 14))]
theorem cust_len (d : Nat → Nat) (n : Nat) : (cust d n).length = n := by simp [cust]
theorem pads_len (d : Nat → Nat) : (pads d).length = 14 := by simp [pads]
theorem cust_at (d : Nat → Nat) {n i : Nat} (h : i < n) : (cust d n).getD i 0 = dc (d (n - 1 - i)) := by simp [cust, List.getD_eq_getElem?_getD, h]
theorem pads_at (d : Nat → Nat) {i : Nat} (h : i < 14) : (pads d).getD i 0 = dc (d (13 - i)) := by simp [pads, List.getD_eq_getElem?_getD, h]
theorem cust_rng {d : Nat → Nat} (hd : ∀ k, d k ≤ 9) (n : Nat) : ∀ q ∈ cust d n, 48 ≤ q.toInt ∧ q.toInt ≤ 57 := fun q hq => by
  obtain ⟨i, -, rfl⟩ := List.mem_map.mp hq; exact dc_rng (hd _)
theorem pads_rng {d : Nat → Nat} (hd : ∀ k, d k ≤ 9) : ∀ q ∈ pads d, 48 ≤ q.toInt ∧ q.toInt ≤ 57 := fun q hq => by
  obtain ⟨i, -, rfl⟩ := List.mem_map.mp hq; exact dc_rng (hd _)
theorem refd_rng {d : Nat → Nat} (hd : ∀ k, d k ≤ 9) : ∀ q ∈ refd d, 48 ≤ q.toInt ∧ q.toInt ≤ 57 := fun q hq => by
  rcases List.mem_append.mp hq with h | h
  · exact pads_rng hd q h
  · rw [List.mem_singleton.mp h]; exact dc_rng (ckn_le _)
theorem dgs_ch {cs : List Int32} (h : ∀ q ∈ cs, 48 ≤ q.toInt ∧ q.toInt ≤ 57) : Ch cs := fun q hq => by have := h q hq; omega
theorem dgs_lat {cs : List Int32} (h : ∀ q ∈ cs, 48 ≤ q.toInt ∧ q.toInt ≤ 57) : Lat cs := fun q hq => by have := h q hq; omega
theorem dgs_at {cs : List Int32} (h : ∀ q ∈ cs, 48 ≤ q.toInt ∧ q.toInt ≤ 57) {i : Nat} (hi : i < cs.length) : 48 ≤ (cs.getD i 0).toInt ∧ (cs.getD i 0).toInt ≤ 57 := by
  have : cs.getD i 0 = cs[i] := by simp [List.getD_eq_getElem?_getD, List.getElem?_eq_getElem hi]
  rw [this]; exact h _ (List.getElem_mem hi)
theorem padded {d : Nat → Nat} {n : Nat} (hn : n ≤ 14) (h0 : ∀ k, n ≤ k → d k = 0) : ([] ++ List.replicate (14 - n) 48) ++ cust d n = pads d := by
  apply List.ext_getElem (by simp [cust_len, pads_len]; omega)
  intro i h1 h2
  have h3 : i < 14 := by rw [pads_len] at h2; exact h2
  have e : (pads d)[i]'h2 = dc (d (13 - i)) := by simp only [pads, List.getElem_map, List.getElem_range]
  rw [e]
  by_cases hi : i < 14 - n
  · rw [List.getElem_append_left (by simpa using hi)]
    simp only [List.nil_append, List.getElem_replicate]
    rw [h0 (13 - i) (by omega)]; decide
  · rw [List.getElem_append_right (by simp; omega)]
    simp only [List.nil_append, List.length_replicate, cust, List.getElem_map, List.getElem_range]
    congr 2; omega
/-- checkDigit's parts -/
def fl (k : Nat) : Int32 := if k % 2 = 0 then 1 else 0
theorem pred_i (j : Nat) : (j + 1).toInt32 - (1 : Int32) = j.toInt32 := by rw [← n_succ, Int32.add_sub_cancel]
theorem dbl_hi {x : Nat} (h9 : x ≤ 9) (h : (9 : Int32) < (x * 2).toInt32) : (x * 2).toInt32 + (-9 : Int32) = (dbn x).toInt32 := by
  have q : ∀ x : Fin 10, (9 : Int32) < (x.val * 2).toInt32 → (x.val * 2).toInt32 + (-9 : Int32) = (dbn x.val).toInt32 := by decide
  exact q ⟨x, by omega⟩ h
theorem dbl_lo {x : Nat} (h9 : x ≤ 9) (h : ¬ (9 : Int32) < (x * 2).toInt32) : (x * 2).toInt32 = (dbn x).toInt32 := by
  have q : ∀ x : Fin 10, ¬ (9 : Int32) < (x.val * 2).toInt32 → (x.val * 2).toInt32 = (dbn x.val).toInt32 := by decide
  exact q ⟨x, by omega⟩ h
theorem dbl_ok {x : Nat} (h9 : x ≤ 9) : ((2 : Int32) * x.toInt32) / 10 + ((2 : Int32) * x.toInt32) % 10 = (dbn x).toInt32 := by
  have q : ∀ x : Fin 10, ((2 : Int32) * x.val.toInt32) / 10 + ((2 : Int32) * x.val.toInt32) % 10 = (dbn x.val).toInt32 := by decide
  exact q ⟨x, by omega⟩
theorem ck_eq {s : Nat} (h : s < 2 ^ 31) : ((10 : Int32) - s.toInt32 % 10) % 10 = (ckn s).toInt32 := by
  have h1 : s % 10 < 10 := Nat.mod_lt _ (by decide)
  have e1 : s.toInt32 % (10 : Int32) = (s % 10).toInt32 := n_rem 10 h (by decide)
  rw [e1]
  have e2 : (10 : Int32) - (s % 10).toInt32 = (10 - s % 10).toInt32 := n_sub (i := 10) (by decide) (by omega)
  rw [e2]
  exact n_rem 10 (by omega) (by decide)
theorem rep_ok {m : Nat} (h : 2 ≤ m) (h2 : m ≤ 13) : ¬ (2147483647 : Int32) / m.toInt32 < 1 := by
  have q : ∀ m : Fin 14, 2 ≤ m.val → ¬ (2147483647 : Int32) / m.val.toInt32 < 1 := by decide
  exact q ⟨m, by omega⟩ h
theorem dec_i (j : Int32) : j + Int32.ofInt (-1) = j - 1 := by rw [show Int32.ofInt (-1) = -1 from by decide]; exact (Int32.sub_eq_add_neg ..).symm
theorem nar_dc {x : Nat} (h : x ≤ 9) : nar .char (dc x) = dc x := nar_char (by have := dc_rng h; omega) (by have := dc_rng h; omega)
theorem rep_b8 (m : Nat) : b8 (List.replicate m 48) = List.replicate m (Value.int 48) := by simp [b8, show lo8 48 = 48 from by decide]
theorem fl_even {k : Nat} (h : k % 2 = 0) : fl k = 1 ∧ fl (k + 1) = 0 := by unfold fl; rw [if_pos h, if_neg (by omega)]; exact ⟨rfl, rfl⟩
theorem fl_odd {k : Nat} (h : ¬ k % 2 = 0) : fl k = 0 ∧ fl (k + 1) = 1 := by unfold fl; rw [if_neg h, if_pos (by omega)]; exact ⟨rfl, rfl⟩
theorem sm_even {d : Nat → Nat} {k : Nat} (h : k % 2 = 0) : sm d k + dbn (d k) = sm d (k + 1) := by rw [sm, if_pos h]
theorem sm_odd {d : Nat → Nat} {k : Nat} (h : ¬ k % 2 = 0) : sm d k + d k = sm d (k + 1) := by rw [sm, if_neg h]
theorem vs_cust {vs : List Value} {d : Nat → Nat} {n : Nat} (hvl : vs.length = n) (hn : n ≤ 14) (hvs : ∀ j, j < 14 → j < n → vs.getD (n - 1 - j) (.int 0) = .int (dc (d j))) : vs = ints (cust d n) := by
  apply List.ext_getElem (by rw [ints_len, cust_len, hvl])
  intro i h1 h2
  have q := hvs (n - 1 - i) (by omega) (by omega)
  rw [show n - 1 - (n - 1 - i) = i from by omega, List.getD_eq_getElem?_getD, List.getElem?_eq_getElem h1] at q
  have q : vs[i] = .int (dc (d (n - 1 - i))) := by simpa using q
  rw [q]; simp [ints, cust]
theorem c_step {vs : List Value} {d : Nat → Nat} {n k : Nat} (hvl : vs.length = n) (hk : k < n) (hvs : ∀ j, j < k → j < n → vs.getD (n - 1 - j) (.int 0) = .int (dc (d j))) : ∀ j, j < k + 1 → j < n → (vs.set (n - (k + 1)) (.int (dc (d k)))).getD (n - 1 - j) (.int 0) = .int (dc (d j)) := by
  intro j hj hn
  rcases Nat.lt_succ_iff_lt_or_eq.mp hj with q | rfl
  · rw [List.getD_eq_getElem?_getD, List.getElem?_set_ne (by omega), ← List.getD_eq_getElem?_getD]; exact hvs j q hn
  · rw [show n - 1 - j = n - (j + 1) from by omega, List.getD_eq_getElem?_getD, List.getElem?_set_self (by omega)]; rfl
theorem pd___CI_BII_I688 : parseMethodDescriptor "([CI[BII)I" = some ⟨[(.array .char), .int, (.array .byte), .int, .int], (some .int)⟩ := by decide +kernel
theorem pd___CII__B542 : parseMethodDescriptor "([CII)[B" = some ⟨[(.array .char), .int, .int], (some (.array .byte))⟩ := by decide +kernel
theorem pd___BI_B377 : parseMethodDescriptor "([BI)B" = some ⟨[(.array .byte), .int], (some .byte)⟩ := by decide +kernel
theorem pd___CIILjava_lang_Void__V941 : parseMethodDescriptor "([CIILjava/lang/Void;)V" = some ⟨[(.array .char), .int, .int, (.object "java/lang/Void")], none⟩ := by decide +kernel
theorem pd___B147 : parseMethodDescriptor "()B" = some ⟨[], (some .byte)⟩ := by decide +kernel
theorem pd__I_V240 : parseMethodDescriptor "(I)V" = some ⟨[.int], none⟩ := by decide +kernel
theorem pd__Ljava_lang_String__V866 : parseMethodDescriptor "(Ljava/lang/String;)V" = some ⟨[(.object "java/lang/String")], none⟩ := by decide +kernel
theorem pd___BIB_V463 : parseMethodDescriptor "([BIB)V" = some ⟨[(.array .byte), .int, .byte], none⟩ := by decide +kernel
theorem pd___I154 : parseMethodDescriptor "()I" = some ⟨[], (some .int)⟩ := by decide +kernel
theorem pd__ILjava_lang_String__V939 : parseMethodDescriptor "(ILjava/lang/String;)V" = some ⟨[.int, (.object "java/lang/String")], none⟩ := by decide +kernel
theorem pd__Ljava_lang_String__Ljava_lang_AbstractStringBuilder_19 : parseMethodDescriptor "(Ljava/lang/String;)Ljava/lang/AbstractStringBuilder;" = some ⟨[(.object "java/lang/String")], (some (.object "java/lang/AbstractStringBuilder"))⟩ := by decide +kernel
theorem pd__II_V313 : parseMethodDescriptor "(II)V" = some ⟨[.int, .int], none⟩ := by decide +kernel
theorem pd__II_I300 : parseMethodDescriptor "(II)I" = some ⟨[.int, .int], (some .int)⟩ := by decide +kernel
theorem pd___BII__B541 : parseMethodDescriptor "([BII)[B" = some ⟨[(.array .byte), .int, .int], (some (.array .byte))⟩ := by decide +kernel
theorem pd____B238 : parseMethodDescriptor "()[B" = some ⟨[], (some (.array .byte))⟩ := by decide +kernel
theorem pd___Z171 : parseMethodDescriptor "()Z" = some ⟨[], (some .boolean)⟩ := by decide +kernel
theorem pd__Ljava_lang_AbstractStringBuilder_Ljava_lang_Void__V873 : parseMethodDescriptor "(Ljava/lang/AbstractStringBuilder;Ljava/lang/Void;)V" = some ⟨[(.object "java/lang/AbstractStringBuilder"), (.object "java/lang/Void")], none⟩ := by decide +kernel
theorem pd__Ljava_lang_StringBuilder__V580 : parseMethodDescriptor "(Ljava/lang/StringBuilder;)V" = some ⟨[(.object "java/lang/StringBuilder")], none⟩ := by decide +kernel
theorem pd__IILjava_util_function_BiFunction__I328 : parseMethodDescriptor "(IILjava/util/function/BiFunction;)I" = some ⟨[.int, .int, (.object "java/util/function/BiFunction")], (some .int)⟩ := by decide +kernel
theorem pd___BI_C378 : parseMethodDescriptor "([BI)C" = some ⟨[(.array .byte), .int], (some .char)⟩ := by decide +kernel
theorem pd__C_Z238 : parseMethodDescriptor "(C)Z" = some ⟨[.char], (some .boolean)⟩ := by decide +kernel
theorem pd__C_Ljava_lang_AbstractStringBuilder_384 : parseMethodDescriptor "(C)Ljava/lang/AbstractStringBuilder;" = some ⟨[.char], (some (.object "java/lang/AbstractStringBuilder"))⟩ := by decide +kernel
theorem pd___B_B_Z485 : parseMethodDescriptor "([B[B)Z" = some ⟨[(.array .byte), (.array .byte)], (some .boolean)⟩ := by decide +kernel
theorem pd__I_C221 : parseMethodDescriptor "(I)C" = some ⟨[.int], (some .char)⟩ := by decide +kernel
theorem pd___BB_V390 : parseMethodDescriptor "([BB)V" = some ⟨[(.array .byte), .byte], none⟩ := by decide +kernel
theorem pd__Ljava_lang_String__Z870 : parseMethodDescriptor "(Ljava/lang/String;)Z" = some ⟨[(.object "java/lang/String")], (some .boolean)⟩ := by decide +kernel
theorem pd___V167 : parseMethodDescriptor "()V" = some ⟨[], none⟩ := by decide +kernel
theorem pd__I_Ljava_lang_String_853 : parseMethodDescriptor "(I)Ljava/lang/String;" = some ⟨[.int], (some (.object "java/lang/String"))⟩ := by decide +kernel
theorem pd__Ljava_lang_String__Ljava_lang_StringBuilder_196 : parseMethodDescriptor "(Ljava/lang/String;)Ljava/lang/StringBuilder;" = some ⟨[(.object "java/lang/String")], (some (.object "java/lang/StringBuilder"))⟩ := by decide +kernel
theorem pd___Ljava_lang_String_780 : parseMethodDescriptor "()Ljava/lang/String;" = some ⟨[], (some (.object "java/lang/String"))⟩ := by decide +kernel
theorem pd__Ljava_lang_String__C847 : parseMethodDescriptor "(Ljava/lang/String;)C" = some ⟨[(.object "java/lang/String")], (some .char)⟩ := by decide +kernel
theorem pd__C_Ljava_lang_StringBuilder_561 : parseMethodDescriptor "(C)Ljava/lang/StringBuilder;" = some ⟨[.char], (some (.object "java/lang/StringBuilder"))⟩ := by decide +kernel
theorem pd___C_V325 : parseMethodDescriptor "([C)V" = some ⟨[(.array .char)], none⟩ := by decide +kernel
theorem pd__I_I227 : parseMethodDescriptor "(I)I" = some ⟨[.int], (some .int)⟩ := by decide +kernel
theorem pd__Ljava_lang_String__Lcom_example_fordring_fordring_account_PaymentReference_347 : parseMethodDescriptor "(Ljava/lang/String;)Lcom/example/fordring/fordring/account/PaymentReference;" = some ⟨[(.object "java/lang/String")], (some (.object "com/example/fordring/fordring/account/PaymentReference"))⟩ := by decide +kernel
theorem pd__Ljava_lang_Object__Z838 : parseMethodDescriptor "(Ljava/lang/Object;)Z" = some ⟨[(.object "java/lang/Object")], (some .boolean)⟩ := by decide +kernel
theorem pd__JJ_I302 : parseMethodDescriptor "(JJ)I" = some ⟨[.long, .long], (some .int)⟩ := by decide +kernel
theorem d_cod_0 : Own.D jdk_52_method_15_code 0 (.iload_n 1) 1 1 := ⟨by decide +kernel, rfl⟩
theorem d_cod_1 : Own.D jdk_52_method_15_code 1 (.aload_n 0) 1 2 := ⟨by decide +kernel, rfl⟩
theorem d_cod_2 : Own.D jdk_52_method_15_code 2 .arraylength 1 3 := ⟨by decide +kernel, rfl⟩
theorem d_cod_3 : Own.D jdk_52_method_15_code 3 .isub 1 4 := ⟨by decide +kernel, rfl⟩
theorem d_cod_4 : Own.D jdk_52_method_15_code 4 (.bipush 31) 2 6 := ⟨by decide +kernel, rfl⟩
theorem d_cod_6 : Own.D jdk_52_method_15_code 6 .iushr 1 7 := ⟨by decide +kernel, rfl⟩
theorem d_cod_7 : Own.D jdk_52_method_15_code 7 .i2b 1 8 := ⟨by decide +kernel, rfl⟩
theorem d_cod_8 : Own.D jdk_52_method_15_code 8 .ireturn 1 9 := ⟨by decide +kernel, rfl⟩
theorem d_cmp3_0 : Own.D jdk_52_method_16_code 0 (.iload_n 2) 1 1 := ⟨by decide +kernel, rfl⟩
theorem d_cmp3_1 : Own.D jdk_52_method_16_code 1 (.newarray .byte) 2 3 := ⟨by decide +kernel, rfl⟩
theorem d_cmp3_3 : Own.D jdk_52_method_16_code 3 (.astore_n 3) 1 4 := ⟨by decide +kernel, rfl⟩
theorem d_cmp3_4 : Own.D jdk_52_method_16_code 4 (.aload_n 0) 1 5 := ⟨by decide +kernel, rfl⟩
theorem d_cmp3_5 : Own.D jdk_52_method_16_code 5 (.iload_n 1) 1 6 := ⟨by decide +kernel, rfl⟩
theorem d_cmp3_6 : Own.D jdk_52_method_16_code 6 (.aload_n 3) 1 7 := ⟨by decide +kernel, rfl⟩
theorem d_cmp3_7 : Own.D jdk_52_method_16_code 7 (.iconst 0) 1 8 := ⟨by decide +kernel, rfl⟩
theorem d_cmp3_8 : Own.D jdk_52_method_16_code 8 (.iload_n 2) 1 9 := ⟨by decide +kernel, rfl⟩
theorem d_cmp3_9 : Own.D jdk_52_method_16_code 9 (.invokestatic 115) 3 12 := ⟨by decide +kernel, rfl⟩
theorem d_cmp3_12 : Own.D jdk_52_method_16_code 12 (.istore 4) 2 14 := ⟨by decide +kernel, rfl⟩
theorem d_cmp3_14 : Own.D jdk_52_method_16_code 14 (.iload 4) 2 16 := ⟨by decide +kernel, rfl⟩
theorem d_cmp3_16 : Own.D jdk_52_method_16_code 16 (.iload_n 2) 1 17 := ⟨by decide +kernel, rfl⟩
theorem d_cmp3_17 : Own.J jdk_52_method_16_code 17 (.if_icmp .eq 40) 3 20 40 57 := ⟨by decide +kernel, rfl, by decide, by decide⟩
theorem d_cmp3_57 : Own.D jdk_52_method_16_code 57 (.aload_n 3) 1 58 := ⟨by decide +kernel, rfl⟩
theorem d_cmp3_58 : Own.D jdk_52_method_16_code 58 .areturn 1 59 := ⟨by decide +kernel, rfl⟩
theorem d_ini4_0 : Own.D jdk_42_method_149_code 0 (.aload_n 0) 1 1 := ⟨by decide +kernel, rfl⟩
theorem d_ini4_1 : Own.D jdk_42_method_149_code 1 (.invokespecial 1) 3 4 := ⟨by decide +kernel, rfl⟩
theorem d_ini4_4 : Own.D jdk_42_method_149_code 4 (.iload_n 3) 1 5 := ⟨by decide +kernel, rfl⟩
theorem d_ini4_5 : Own.J jdk_42_method_149_code 5 (.ifCond .ne 22) 3 8 22 27 := ⟨by decide +kernel, rfl, by decide, by decide⟩
theorem d_ini4_27 : Own.D jdk_42_method_149_code 27 (.getstatic 38) 3 30 := ⟨by decide +kernel, rfl⟩
theorem d_ini4_30 : Own.J jdk_42_method_149_code 30 (.ifCond .eq 28) 3 33 28 58 := ⟨by decide +kernel, rfl, by decide, by decide⟩
theorem d_ini4_33 : Own.D jdk_42_method_149_code 33 (.aload_n 1) 1 34 := ⟨by decide +kernel, rfl⟩
theorem d_ini4_34 : Own.D jdk_42_method_149_code 34 (.iload_n 2) 1 35 := ⟨by decide +kernel, rfl⟩
theorem d_ini4_35 : Own.D jdk_42_method_149_code 35 (.iload_n 3) 1 36 := ⟨by decide +kernel, rfl⟩
theorem d_ini4_36 : Own.D jdk_42_method_149_code 36 (.invokestatic 177) 3 39 := ⟨by decide +kernel, rfl⟩
theorem d_ini4_39 : Own.D jdk_42_method_149_code 39 (.astore 5) 2 41 := ⟨by decide +kernel, rfl⟩
theorem d_ini4_41 : Own.D jdk_42_method_149_code 41 (.aload_n 0) 1 42 := ⟨by decide +kernel, rfl⟩
theorem d_ini4_42 : Own.D jdk_42_method_149_code 42 (.aload 5) 2 44 := ⟨by decide +kernel, rfl⟩
theorem d_ini4_44 : Own.D jdk_42_method_149_code 44 (.iload_n 3) 1 45 := ⟨by decide +kernel, rfl⟩
theorem d_ini4_45 : Own.D jdk_42_method_149_code 45 (.invokestatic 47) 3 48 := ⟨by decide +kernel, rfl⟩
theorem d_ini4_48 : Own.D jdk_42_method_149_code 48 (.putfield 15) 3 51 := ⟨by decide +kernel, rfl⟩
theorem d_ini4_51 : Own.D jdk_42_method_149_code 51 (.aload_n 0) 1 52 := ⟨by decide +kernel, rfl⟩
theorem d_ini4_52 : Own.D jdk_42_method_149_code 52 (.aload 5) 2 54 := ⟨by decide +kernel, rfl⟩
theorem d_ini4_54 : Own.D jdk_42_method_149_code 54 (.putfield 9) 3 57 := ⟨by decide +kernel, rfl⟩
theorem d_ini4_57 : Own.D jdk_42_method_149_code 57 .return_ 1 58 := ⟨by decide +kernel, rfl⟩
theorem d_ini1_0 : Own.D jdk_42_method_3_code 0 (.aload_n 0) 1 1 := ⟨by decide +kernel, rfl⟩
theorem d_ini1_1 : Own.D jdk_42_method_3_code 1 (.aload_n 1) 1 2 := ⟨by decide +kernel, rfl⟩
theorem d_ini1_2 : Own.D jdk_42_method_3_code 2 (.iconst 0) 1 3 := ⟨by decide +kernel, rfl⟩
theorem d_ini1_3 : Own.D jdk_42_method_3_code 3 (.aload_n 1) 1 4 := ⟨by decide +kernel, rfl⟩
theorem d_ini1_4 : Own.D jdk_42_method_3_code 4 .arraylength 1 5 := ⟨by decide +kernel, rfl⟩
theorem d_ini1_5 : Own.D jdk_42_method_3_code 5 .aconst_null 1 6 := ⟨by decide +kernel, rfl⟩
theorem d_ini1_6 : Own.D jdk_42_method_3_code 6 (.invokespecial 27) 3 9 := ⟨by decide +kernel, rfl⟩
theorem d_ini1_9 : Own.D jdk_42_method_3_code 9 .return_ 1 10 := ⟨by decide +kernel, rfl⟩
theorem d_scod_0 : Own.D jdk_42_method_152_code 0 (.getstatic 38) 3 3 := ⟨by decide +kernel, rfl⟩
theorem d_scod_3 : Own.J jdk_42_method_152_code 3 (.ifCond .eq 10) 3 6 10 13 := ⟨by decide +kernel, rfl, by decide, by decide⟩
theorem d_scod_6 : Own.D jdk_42_method_152_code 6 (.aload_n 0) 1 7 := ⟨by decide +kernel, rfl⟩
theorem d_scod_7 : Own.D jdk_42_method_152_code 7 (.getfield 15) 3 10 := ⟨by decide +kernel, rfl⟩
theorem d_scod_10 : Own.J jdk_42_method_152_code 10 (.goto 4) 3 13 4 14 := ⟨by decide +kernel, rfl, by decide, by decide⟩
theorem d_scod_14 : Own.D jdk_42_method_152_code 14 .ireturn 1 15 := ⟨by decide +kernel, rfl⟩
theorem d_slat_0 : Own.D jdk_42_method_154_code 0 (.getstatic 38) 3 3 := ⟨by decide +kernel, rfl⟩
theorem d_slat_3 : Own.J jdk_42_method_154_code 3 (.ifCond .eq 14) 3 6 14 17 := ⟨by decide +kernel, rfl, by decide, by decide⟩
theorem d_slat_6 : Own.D jdk_42_method_154_code 6 (.aload_n 0) 1 7 := ⟨by decide +kernel, rfl⟩
theorem d_slat_7 : Own.D jdk_42_method_154_code 7 (.getfield 15) 3 10 := ⟨by decide +kernel, rfl⟩
theorem d_slat_10 : Own.J jdk_42_method_154_code 10 (.ifCond .ne 7) 3 13 7 17 := ⟨by decide +kernel, rfl, by decide, by decide⟩
theorem d_slat_13 : Own.D jdk_42_method_154_code 13 (.iconst 1) 1 14 := ⟨by decide +kernel, rfl⟩
theorem d_slat_14 : Own.J jdk_42_method_154_code 14 (.goto 4) 3 17 4 18 := ⟨by decide +kernel, rfl, by decide, by decide⟩
theorem d_slat_18 : Own.D jdk_42_method_154_code 18 .ireturn 1 19 := ⟨by decide +kernel, rfl⟩
theorem d_slen_0 : Own.D jdk_42_method_54_code 0 (.aload_n 0) 1 1 := ⟨by decide +kernel, rfl⟩
theorem d_slen_1 : Own.D jdk_42_method_54_code 1 (.getfield 9) 3 4 := ⟨by decide +kernel, rfl⟩
theorem d_slen_4 : Own.D jdk_42_method_54_code 4 .arraylength 1 5 := ⟨by decide +kernel, rfl⟩
theorem d_slen_5 : Own.D jdk_42_method_54_code 5 (.aload_n 0) 1 6 := ⟨by decide +kernel, rfl⟩
theorem d_slen_6 : Own.D jdk_42_method_54_code 6 (.invokevirtual 335) 3 9 := ⟨by decide +kernel, rfl⟩
theorem d_slen_9 : Own.D jdk_42_method_54_code 9 .ishr 1 10 := ⟨by decide +kernel, rfl⟩
theorem d_slen_10 : Own.D jdk_42_method_54_code 10 .ireturn 1 11 := ⟨by decide +kernel, rfl⟩
theorem d_asbi_0 : Own.D jdk_68_method_2_code 0 (.aload_n 0) 1 1 := ⟨by decide +kernel, rfl⟩
theorem d_asbi_1 : Own.D jdk_68_method_2_code 1 (.invokespecial 3) 3 4 := ⟨by decide +kernel, rfl⟩
theorem d_asbi_4 : Own.D jdk_68_method_2_code 4 (.getstatic 18) 3 7 := ⟨by decide +kernel, rfl⟩
theorem d_asbi_7 : Own.J jdk_68_method_2_code 7 (.ifCond .eq 18) 3 10 18 25 := ⟨by decide +kernel, rfl, by decide, by decide⟩
theorem d_asbi_10 : Own.D jdk_68_method_2_code 10 (.aload_n 0) 1 11 := ⟨by decide +kernel, rfl⟩
theorem d_asbi_11 : Own.D jdk_68_method_2_code 11 (.iload_n 1) 1 12 := ⟨by decide +kernel, rfl⟩
theorem d_asbi_12 : Own.D jdk_68_method_2_code 12 (.newarray .byte) 2 14 := ⟨by decide +kernel, rfl⟩
theorem d_asbi_14 : Own.D jdk_68_method_2_code 14 (.putfield 15) 3 17 := ⟨by decide +kernel, rfl⟩
theorem d_asbi_17 : Own.D jdk_68_method_2_code 17 (.aload_n 0) 1 18 := ⟨by decide +kernel, rfl⟩
theorem d_asbi_18 : Own.D jdk_68_method_2_code 18 (.iconst 0) 1 19 := ⟨by decide +kernel, rfl⟩
theorem d_asbi_19 : Own.D jdk_68_method_2_code 19 (.putfield 22) 3 22 := ⟨by decide +kernel, rfl⟩
theorem d_asbi_22 : Own.J jdk_68_method_2_code 22 (.goto 16) 3 25 16 38 := ⟨by decide +kernel, rfl, by decide, by decide⟩
theorem d_asbi_38 : Own.D jdk_68_method_2_code 38 .return_ 1 39 := ⟨by decide +kernel, rfl⟩
theorem d_sbi_0 : Own.D jdk_67_method_1_code 0 (.aload_n 0) 1 1 := ⟨by decide +kernel, rfl⟩
theorem d_sbi_1 : Own.D jdk_67_method_1_code 1 (.bipush 16) 2 3 := ⟨by decide +kernel, rfl⟩
theorem d_sbi_3 : Own.D jdk_67_method_1_code 3 (.invokespecial 1) 3 6 := ⟨by decide +kernel, rfl⟩
theorem d_sbi_6 : Own.D jdk_67_method_1_code 6 .return_ 1 7 := ⟨by decide +kernel, rfl⟩
theorem d_ens_0 : Own.D jdk_68_method_9_code 0 (.aload_n 0) 1 1 := ⟨by decide +kernel, rfl⟩
theorem d_ens_1 : Own.D jdk_68_method_9_code 1 (.getfield 15) 3 4 := ⟨by decide +kernel, rfl⟩
theorem d_ens_4 : Own.D jdk_68_method_9_code 4 .arraylength 1 5 := ⟨by decide +kernel, rfl⟩
theorem d_ens_5 : Own.D jdk_68_method_9_code 5 (.aload_n 0) 1 6 := ⟨by decide +kernel, rfl⟩
theorem d_ens_6 : Own.D jdk_68_method_9_code 6 (.getfield 22) 3 9 := ⟨by decide +kernel, rfl⟩
theorem d_ens_9 : Own.D jdk_68_method_9_code 9 .ishr 1 10 := ⟨by decide +kernel, rfl⟩
theorem d_ens_10 : Own.D jdk_68_method_9_code 10 (.istore_n 2) 1 11 := ⟨by decide +kernel, rfl⟩
theorem d_ens_11 : Own.D jdk_68_method_9_code 11 (.iload_n 1) 1 12 := ⟨by decide +kernel, rfl⟩
theorem d_ens_12 : Own.D jdk_68_method_9_code 12 (.iload_n 2) 1 13 := ⟨by decide +kernel, rfl⟩
theorem d_ens_13 : Own.D jdk_68_method_9_code 13 .isub 1 14 := ⟨by decide +kernel, rfl⟩
theorem d_ens_14 : Own.J jdk_68_method_9_code 14 (.ifCond .le 24) 3 17 24 38 := ⟨by decide +kernel, rfl, by decide, by decide⟩
theorem d_ens_38 : Own.D jdk_68_method_9_code 38 .return_ 1 39 := ⟨by decide +kernel, rfl⟩
theorem d_infl_0 : Own.D jdk_68_method_71_code 0 (.getstatic 18) 3 3 := ⟨by decide +kernel, rfl⟩
theorem d_infl_3 : Own.J jdk_68_method_71_code 3 (.ifCond .eq 18) 3 6 18 21 := ⟨by decide +kernel, rfl, by decide, by decide⟩
theorem d_infl_6 : Own.D jdk_68_method_71_code 6 (.aload_n 0) 1 7 := ⟨by decide +kernel, rfl⟩
theorem d_infl_7 : Own.D jdk_68_method_71_code 7 (.getfield 22) 3 10 := ⟨by decide +kernel, rfl⟩
theorem d_infl_10 : Own.D jdk_68_method_71_code 10 (.aload_n 1) 1 11 := ⟨by decide +kernel, rfl⟩
theorem d_infl_11 : Own.D jdk_68_method_71_code 11 (.invokevirtual 40) 3 14 := ⟨by decide +kernel, rfl⟩
theorem d_infl_14 : Own.J jdk_68_method_71_code 14 (.if_icmp .eq 7) 3 17 7 21 := ⟨by decide +kernel, rfl, by decide, by decide⟩
theorem d_infl_21 : Own.D jdk_68_method_71_code 21 .return_ 1 22 := ⟨by decide +kernel, rfl⟩
theorem d_gby_0 : Own.D jdk_42_method_147_code 0 (.aload_n 0) 1 1 := ⟨by decide +kernel, rfl⟩
theorem d_gby_1 : Own.D jdk_42_method_147_code 1 (.invokevirtual 335) 3 4 := ⟨by decide +kernel, rfl⟩
theorem d_gby_4 : Own.D jdk_42_method_147_code 4 (.iload_n 3) 1 5 := ⟨by decide +kernel, rfl⟩
theorem d_gby_5 : Own.J jdk_42_method_147_code 5 (.if_icmp .ne 23) 3 8 23 28 := ⟨by decide +kernel, rfl, by decide, by decide⟩
theorem d_gby_8 : Own.D jdk_42_method_147_code 8 (.aload_n 0) 1 9 := ⟨by decide +kernel, rfl⟩
theorem d_gby_9 : Own.D jdk_42_method_147_code 9 (.getfield 9) 3 12 := ⟨by decide +kernel, rfl⟩
theorem d_gby_12 : Own.D jdk_42_method_147_code 12 (.iconst 0) 1 13 := ⟨by decide +kernel, rfl⟩
theorem d_gby_13 : Own.D jdk_42_method_147_code 13 (.aload_n 1) 1 14 := ⟨by decide +kernel, rfl⟩
theorem d_gby_14 : Own.D jdk_42_method_147_code 14 (.iload_n 2) 1 15 := ⟨by decide +kernel, rfl⟩
theorem d_gby_15 : Own.D jdk_42_method_147_code 15 (.iload_n 3) 1 16 := ⟨by decide +kernel, rfl⟩
theorem d_gby_16 : Own.D jdk_42_method_147_code 16 .ishl 1 17 := ⟨by decide +kernel, rfl⟩
theorem d_gby_17 : Own.D jdk_42_method_147_code 17 (.aload_n 0) 1 18 := ⟨by decide +kernel, rfl⟩
theorem d_gby_18 : Own.D jdk_42_method_147_code 18 (.getfield 9) 3 21 := ⟨by decide +kernel, rfl⟩
theorem d_gby_21 : Own.D jdk_42_method_147_code 21 .arraylength 1 22 := ⟨by decide +kernel, rfl⟩
theorem d_gby_22 : Own.D jdk_42_method_147_code 22 (.invokestatic 212) 3 25 := ⟨by decide +kernel, rfl⟩
theorem d_gby_25 : Own.J jdk_42_method_147_code 25 (.goto 18) 3 28 18 43 := ⟨by decide +kernel, rfl, by decide, by decide⟩
theorem d_gby_43 : Own.D jdk_42_method_147_code 43 .return_ 1 44 := ⟨by decide +kernel, rfl⟩
theorem d_pst_0 : Own.D jdk_68_method_73_code 0 (.aload_n 0) 1 1 := ⟨by decide +kernel, rfl⟩
theorem d_pst_1 : Own.D jdk_68_method_73_code 1 (.aload_n 2) 1 2 := ⟨by decide +kernel, rfl⟩
theorem d_pst_2 : Own.D jdk_68_method_73_code 2 (.invokevirtual 397) 3 5 := ⟨by decide +kernel, rfl⟩
theorem d_pst_5 : Own.D jdk_68_method_73_code 5 (.aload_n 2) 1 6 := ⟨by decide +kernel, rfl⟩
theorem d_pst_6 : Own.D jdk_68_method_73_code 6 (.aload_n 0) 1 7 := ⟨by decide +kernel, rfl⟩
theorem d_pst_7 : Own.D jdk_68_method_73_code 7 (.getfield 15) 3 10 := ⟨by decide +kernel, rfl⟩
theorem d_pst_10 : Own.D jdk_68_method_73_code 10 (.iload_n 1) 1 11 := ⟨by decide +kernel, rfl⟩
theorem d_pst_11 : Own.D jdk_68_method_73_code 11 (.aload_n 0) 1 12 := ⟨by decide +kernel, rfl⟩
theorem d_pst_12 : Own.D jdk_68_method_73_code 12 (.getfield 22) 3 15 := ⟨by decide +kernel, rfl⟩
theorem d_pst_15 : Own.D jdk_68_method_73_code 15 (.invokevirtual 399) 3 18 := ⟨by decide +kernel, rfl⟩
theorem d_pst_18 : Own.D jdk_68_method_73_code 18 .return_ 1 19 := ⟨by decide +kernel, rfl⟩
theorem d_aap_0 : Own.D jdk_68_method_22_code 0 (.aload_n 1) 1 1 := ⟨by decide +kernel, rfl⟩
theorem d_aap_1 : Own.J jdk_68_method_22_code 1 (.ifnonnull 8) 3 4 8 9 := ⟨by decide +kernel, rfl, by decide, by decide⟩
theorem d_aap_9 : Own.D jdk_68_method_22_code 9 (.aload_n 1) 1 10 := ⟨by decide +kernel, rfl⟩
theorem d_aap_10 : Own.D jdk_68_method_22_code 10 (.invokevirtual 32) 3 13 := ⟨by decide +kernel, rfl⟩
theorem d_aap_13 : Own.D jdk_68_method_22_code 13 (.istore_n 2) 1 14 := ⟨by decide +kernel, rfl⟩
theorem d_aap_14 : Own.D jdk_68_method_22_code 14 (.aload_n 0) 1 15 := ⟨by decide +kernel, rfl⟩
theorem d_aap_15 : Own.D jdk_68_method_22_code 15 (.aload_n 0) 1 16 := ⟨by decide +kernel, rfl⟩
theorem d_aap_16 : Own.D jdk_68_method_22_code 16 (.getfield 79) 3 19 := ⟨by decide +kernel, rfl⟩
theorem d_aap_19 : Own.D jdk_68_method_22_code 19 (.iload_n 2) 1 20 := ⟨by decide +kernel, rfl⟩
theorem d_aap_20 : Own.D jdk_68_method_22_code 20 .iadd 1 21 := ⟨by decide +kernel, rfl⟩
theorem d_aap_21 : Own.D jdk_68_method_22_code 21 (.invokevirtual 100) 3 24 := ⟨by decide +kernel, rfl⟩
theorem d_aap_24 : Own.D jdk_68_method_22_code 24 (.aload_n 0) 1 25 := ⟨by decide +kernel, rfl⟩
theorem d_aap_25 : Own.D jdk_68_method_22_code 25 (.aload_n 0) 1 26 := ⟨by decide +kernel, rfl⟩
theorem d_aap_26 : Own.D jdk_68_method_22_code 26 (.getfield 79) 3 29 := ⟨by decide +kernel, rfl⟩
theorem d_aap_29 : Own.D jdk_68_method_22_code 29 (.aload_n 1) 1 30 := ⟨by decide +kernel, rfl⟩
theorem d_aap_30 : Own.D jdk_68_method_22_code 30 (.invokevirtual 208) 3 33 := ⟨by decide +kernel, rfl⟩
theorem d_aap_33 : Own.D jdk_68_method_22_code 33 (.aload_n 0) 1 34 := ⟨by decide +kernel, rfl⟩
theorem d_aap_34 : Own.D jdk_68_method_22_code 34 .dup 1 35 := ⟨by decide +kernel, rfl⟩
theorem d_aap_35 : Own.D jdk_68_method_22_code 35 (.getfield 79) 3 38 := ⟨by decide +kernel, rfl⟩
theorem d_aap_38 : Own.D jdk_68_method_22_code 38 (.iload_n 2) 1 39 := ⟨by decide +kernel, rfl⟩
theorem d_aap_39 : Own.D jdk_68_method_22_code 39 .iadd 1 40 := ⟨by decide +kernel, rfl⟩
theorem d_aap_40 : Own.D jdk_68_method_22_code 40 (.putfield 79) 3 43 := ⟨by decide +kernel, rfl⟩
theorem d_aap_43 : Own.D jdk_68_method_22_code 43 (.aload_n 0) 1 44 := ⟨by decide +kernel, rfl⟩
theorem d_aap_44 : Own.D jdk_68_method_22_code 44 .areturn 1 45 := ⟨by decide +kernel, rfl⟩
theorem d_sap_0 : Own.D jdk_67_method_7_code 0 (.aload_n 0) 1 1 := ⟨by decide +kernel, rfl⟩
theorem d_sap_1 : Own.D jdk_67_method_7_code 1 (.aload_n 1) 1 2 := ⟨by decide +kernel, rfl⟩
theorem d_sap_2 : Own.D jdk_67_method_7_code 2 (.invokespecial 29) 3 5 := ⟨by decide +kernel, rfl⟩
theorem d_sap_5 : Own.D jdk_67_method_7_code 5 .pop 1 6 := ⟨by decide +kernel, rfl⟩
theorem d_sap_6 : Own.D jdk_67_method_7_code 6 (.aload_n 0) 1 7 := ⟨by decide +kernel, rfl⟩
theorem d_sap_7 : Own.D jdk_67_method_7_code 7 .areturn 1 8 := ⟨by decide +kernel, rfl⟩
theorem d_getv_0 : Own.D jdk_68_method_64_code 0 (.aload_n 0) 1 1 := ⟨by decide +kernel, rfl⟩
theorem d_getv_1 : Own.D jdk_68_method_64_code 1 (.getfield 15) 3 4 := ⟨by decide +kernel, rfl⟩
theorem d_getv_4 : Own.D jdk_68_method_64_code 4 .areturn 1 5 := ⟨by decide +kernel, rfl⟩
theorem d_alen_0 : Own.D jdk_68_method_6_code 0 (.aload_n 0) 1 1 := ⟨by decide +kernel, rfl⟩
theorem d_alen_1 : Own.D jdk_68_method_6_code 1 (.getfield 79) 3 4 := ⟨by decide +kernel, rfl⟩
theorem d_alen_4 : Own.D jdk_68_method_6_code 4 .ireturn 1 5 := ⟨by decide +kernel, rfl⟩
theorem d_blen_0 : Own.D jdk_67_method_93_code 0 (.aload_n 0) 1 1 := ⟨by decide +kernel, rfl⟩
theorem d_blen_1 : Own.D jdk_67_method_93_code 1 (.invokespecial 343) 3 4 := ⟨by decide +kernel, rfl⟩
theorem d_blen_4 : Own.D jdk_67_method_93_code 4 .ireturn 1 5 := ⟨by decide +kernel, rfl⟩
theorem d_alat_0 : Own.D jdk_68_method_68_code 0 (.getstatic 18) 3 3 := ⟨by decide +kernel, rfl⟩
theorem d_alat_3 : Own.J jdk_68_method_68_code 3 (.ifCond .eq 14) 3 6 14 17 := ⟨by decide +kernel, rfl, by decide, by decide⟩
theorem d_alat_6 : Own.D jdk_68_method_68_code 6 (.aload_n 0) 1 7 := ⟨by decide +kernel, rfl⟩
theorem d_alat_7 : Own.D jdk_68_method_68_code 7 (.getfield 22) 3 10 := ⟨by decide +kernel, rfl⟩
theorem d_alat_10 : Own.J jdk_68_method_68_code 10 (.ifCond .ne 7) 3 13 7 17 := ⟨by decide +kernel, rfl, by decide, by decide⟩
theorem d_alat_13 : Own.D jdk_68_method_68_code 13 (.iconst 1) 1 14 := ⟨by decide +kernel, rfl⟩
theorem d_alat_14 : Own.J jdk_68_method_68_code 14 (.goto 4) 3 17 4 18 := ⟨by decide +kernel, rfl, by decide, by decide⟩
theorem d_alat_18 : Own.D jdk_68_method_68_code 18 .ireturn 1 19 := ⟨by decide +kernel, rfl⟩
theorem d_mmin_0 : Own.D jdk_29_method_69_code 0 (.iload_n 0) 1 1 := ⟨by decide +kernel, rfl⟩
theorem d_mmin_1 : Own.D jdk_29_method_69_code 1 (.iload_n 1) 1 2 := ⟨by decide +kernel, rfl⟩
theorem d_mmin_2 : Own.J jdk_29_method_69_code 2 (.if_icmp .gt 7) 3 5 7 9 := ⟨by decide +kernel, rfl, by decide, by decide⟩
theorem d_mmin_9 : Own.D jdk_29_method_69_code 9 (.iload_n 1) 1 10 := ⟨by decide +kernel, rfl⟩
theorem d_mmin_10 : Own.D jdk_29_method_69_code 10 .ireturn 1 11 := ⟨by decide +kernel, rfl⟩
theorem d_ckl_0 : Own.D jdk_65_method_131_code 0 (.iload_n 1) 1 1 := ⟨by decide +kernel, rfl⟩
theorem d_ckl_1 : Own.D jdk_65_method_131_code 1 (.iload_n 0) 1 2 := ⟨by decide +kernel, rfl⟩
theorem d_ckl_2 : Own.J jdk_65_method_131_code 2 (.if_icmp .ge 35) 3 5 35 37 := ⟨by decide +kernel, rfl, by decide, by decide⟩
theorem d_ckl_37 : Own.D jdk_65_method_131_code 37 .return_ 1 38 := ⟨by decide +kernel, rfl⟩
theorem d_cprb_0 : Own.D jdk_65_method_133_code 0 (.iload_n 1) 1 1 := ⟨by decide +kernel, rfl⟩
theorem d_cprb_1 : Own.D jdk_65_method_133_code 1 (.iload_n 2) 1 2 := ⟨by decide +kernel, rfl⟩
theorem d_cprb_2 : Own.D jdk_65_method_133_code 2 (.invokestatic 343) 3 5 := ⟨by decide +kernel, rfl⟩
theorem d_cprb_5 : Own.D jdk_65_method_133_code 5 (.iload_n 2) 1 6 := ⟨by decide +kernel, rfl⟩
theorem d_cprb_6 : Own.D jdk_65_method_133_code 6 (.iload_n 1) 1 7 := ⟨by decide +kernel, rfl⟩
theorem d_cprb_7 : Own.D jdk_65_method_133_code 7 .isub 1 8 := ⟨by decide +kernel, rfl⟩
theorem d_cprb_8 : Own.D jdk_65_method_133_code 8 (.istore_n 3) 1 9 := ⟨by decide +kernel, rfl⟩
theorem d_cprb_9 : Own.D jdk_65_method_133_code 9 (.iload_n 3) 1 10 := ⟨by decide +kernel, rfl⟩
theorem d_cprb_10 : Own.D jdk_65_method_133_code 10 (.newarray .byte) 2 12 := ⟨by decide +kernel, rfl⟩
theorem d_cprb_12 : Own.D jdk_65_method_133_code 12 (.astore 4) 2 14 := ⟨by decide +kernel, rfl⟩
theorem d_cprb_14 : Own.D jdk_65_method_133_code 14 (.aload_n 0) 1 15 := ⟨by decide +kernel, rfl⟩
theorem d_cprb_15 : Own.D jdk_65_method_133_code 15 (.iload_n 1) 1 16 := ⟨by decide +kernel, rfl⟩
theorem d_cprb_16 : Own.D jdk_65_method_133_code 16 (.aload 4) 2 18 := ⟨by decide +kernel, rfl⟩
theorem d_cprb_18 : Own.D jdk_65_method_133_code 18 (.iconst 0) 1 19 := ⟨by decide +kernel, rfl⟩
theorem d_cprb_19 : Own.D jdk_65_method_133_code 19 (.aload_n 0) 1 20 := ⟨by decide +kernel, rfl⟩
theorem d_cprb_20 : Own.D jdk_65_method_133_code 20 .arraylength 1 21 := ⟨by decide +kernel, rfl⟩
theorem d_cprb_21 : Own.D jdk_65_method_133_code 21 (.iload_n 1) 1 22 := ⟨by decide +kernel, rfl⟩
theorem d_cprb_22 : Own.D jdk_65_method_133_code 22 .isub 1 23 := ⟨by decide +kernel, rfl⟩
theorem d_cprb_23 : Own.D jdk_65_method_133_code 23 (.iload_n 3) 1 24 := ⟨by decide +kernel, rfl⟩
theorem d_cprb_24 : Own.D jdk_65_method_133_code 24 (.invokestatic 304) 3 27 := ⟨by decide +kernel, rfl⟩
theorem d_cprb_27 : Own.D jdk_65_method_133_code 27 (.invokestatic 150) 3 30 := ⟨by decide +kernel, rfl⟩
theorem d_cprb_30 : Own.D jdk_65_method_133_code 30 (.aload 4) 2 32 := ⟨by decide +kernel, rfl⟩
theorem d_cprb_32 : Own.D jdk_65_method_133_code 32 .areturn 1 33 := ⟨by decide +kernel, rfl⟩
theorem d_cpr_0 : Own.D jdk_65_method_132_code 0 (.iload_n 1) 1 1 := ⟨by decide +kernel, rfl⟩
theorem d_cpr_1 : Own.J jdk_65_method_132_code 1 (.ifCond .ne 9) 3 4 9 10 := ⟨by decide +kernel, rfl, by decide, by decide⟩
theorem d_cpr_4 : Own.D jdk_65_method_132_code 4 (.iload_n 2) 1 5 := ⟨by decide +kernel, rfl⟩
theorem d_cpr_5 : Own.D jdk_65_method_132_code 5 (.aload_n 0) 1 6 := ⟨by decide +kernel, rfl⟩
theorem d_cpr_6 : Own.D jdk_65_method_132_code 6 .arraylength 1 7 := ⟨by decide +kernel, rfl⟩
theorem d_cpr_7 : Own.J jdk_65_method_132_code 7 (.if_icmp .eq 10) 3 10 10 17 := ⟨by decide +kernel, rfl, by decide, by decide⟩
theorem d_cpr_10 : Own.D jdk_65_method_132_code 10 (.aload_n 0) 1 11 := ⟨by decide +kernel, rfl⟩
theorem d_cpr_11 : Own.D jdk_65_method_132_code 11 (.iload_n 1) 1 12 := ⟨by decide +kernel, rfl⟩
theorem d_cpr_12 : Own.D jdk_65_method_132_code 12 (.iload_n 2) 1 13 := ⟨by decide +kernel, rfl⟩
theorem d_cpr_13 : Own.D jdk_65_method_132_code 13 (.invokestatic 339) 3 16 := ⟨by decide +kernel, rfl⟩
theorem d_cpr_16 : Own.D jdk_65_method_132_code 16 .areturn 1 17 := ⟨by decide +kernel, rfl⟩
theorem d_inia_0 : Own.D jdk_42_method_150_code 0 (.aload_n 0) 1 1 := ⟨by decide +kernel, rfl⟩
theorem d_inia_1 : Own.D jdk_42_method_150_code 1 (.invokespecial 1) 3 4 := ⟨by decide +kernel, rfl⟩
theorem d_inia_4 : Own.D jdk_42_method_150_code 4 (.aload_n 1) 1 5 := ⟨by decide +kernel, rfl⟩
theorem d_inia_5 : Own.D jdk_42_method_150_code 5 (.invokevirtual 552) 3 8 := ⟨by decide +kernel, rfl⟩
theorem d_inia_8 : Own.D jdk_42_method_150_code 8 (.astore_n 3) 1 9 := ⟨by decide +kernel, rfl⟩
theorem d_inia_9 : Own.D jdk_42_method_150_code 9 (.aload_n 1) 1 10 := ⟨by decide +kernel, rfl⟩
theorem d_inia_10 : Own.D jdk_42_method_150_code 10 (.invokevirtual 549) 3 13 := ⟨by decide +kernel, rfl⟩
theorem d_inia_13 : Own.D jdk_42_method_150_code 13 (.istore 4) 2 15 := ⟨by decide +kernel, rfl⟩
theorem d_inia_15 : Own.D jdk_42_method_150_code 15 (.aload_n 1) 1 16 := ⟨by decide +kernel, rfl⟩
theorem d_inia_16 : Own.D jdk_42_method_150_code 16 (.invokevirtual 1047) 3 19 := ⟨by decide +kernel, rfl⟩
theorem d_inia_19 : Own.J jdk_42_method_150_code 19 (.ifCond .eq 22) 3 22 22 41 := ⟨by decide +kernel, rfl, by decide, by decide⟩
theorem d_inia_22 : Own.D jdk_42_method_150_code 22 (.aload_n 0) 1 23 := ⟨by decide +kernel, rfl⟩
theorem d_inia_23 : Own.D jdk_42_method_150_code 23 (.iconst 0) 1 24 := ⟨by decide +kernel, rfl⟩
theorem d_inia_24 : Own.D jdk_42_method_150_code 24 (.putfield 15) 3 27 := ⟨by decide +kernel, rfl⟩
theorem d_inia_27 : Own.D jdk_42_method_150_code 27 (.aload_n 0) 1 28 := ⟨by decide +kernel, rfl⟩
theorem d_inia_28 : Own.D jdk_42_method_150_code 28 (.aload_n 3) 1 29 := ⟨by decide +kernel, rfl⟩
theorem d_inia_29 : Own.D jdk_42_method_150_code 29 (.iconst 0) 1 30 := ⟨by decide +kernel, rfl⟩
theorem d_inia_30 : Own.D jdk_42_method_150_code 30 (.iload 4) 2 32 := ⟨by decide +kernel, rfl⟩
theorem d_inia_32 : Own.D jdk_42_method_150_code 32 (.invokestatic 54) 3 35 := ⟨by decide +kernel, rfl⟩
theorem d_inia_35 : Own.D jdk_42_method_150_code 35 (.putfield 9) 3 38 := ⟨by decide +kernel, rfl⟩
theorem d_inia_38 : Own.J jdk_42_method_150_code 38 (.goto 59) 3 41 59 97 := ⟨by decide +kernel, rfl, by decide, by decide⟩
theorem d_inia_97 : Own.D jdk_42_method_150_code 97 .return_ 1 98 := ⟨by decide +kernel, rfl⟩
theorem d_inib_0 : Own.D jdk_42_method_53_code 0 (.aload_n 0) 1 1 := ⟨by decide +kernel, rfl⟩
theorem d_inib_1 : Own.D jdk_42_method_53_code 1 (.aload_n 1) 1 2 := ⟨by decide +kernel, rfl⟩
theorem d_inib_2 : Own.D jdk_42_method_53_code 2 .aconst_null 1 3 := ⟨by decide +kernel, rfl⟩
theorem d_inib_3 : Own.D jdk_42_method_53_code 3 (.invokespecial 489) 3 6 := ⟨by decide +kernel, rfl⟩
theorem d_inib_6 : Own.D jdk_42_method_53_code 6 .return_ 1 7 := ⟨by decide +kernel, rfl⟩
theorem d_tos_0 : Own.D jdk_67_method_42_code 0 (.new 18) 3 3 := ⟨by decide +kernel, rfl⟩
theorem d_tos_3 : Own.D jdk_67_method_42_code 3 .dup 1 4 := ⟨by decide +kernel, rfl⟩
theorem d_tos_4 : Own.D jdk_67_method_42_code 4 (.aload_n 0) 1 5 := ⟨by decide +kernel, rfl⟩
theorem d_tos_5 : Own.D jdk_67_method_42_code 5 (.invokespecial 137) 3 8 := ⟨by decide +kernel, rfl⟩
theorem d_tos_8 : Own.D jdk_67_method_42_code 8 .areturn 1 9 := ⟨by decide +kernel, rfl⟩
theorem d_pchk_0 : Own.D jdk_41_method_11_code 0 (.iload_n 0) 1 1 := ⟨by decide +kernel, rfl⟩
theorem d_pchk_1 : Own.J jdk_41_method_11_code 1 (.ifCond .lt 8) 3 4 8 9 := ⟨by decide +kernel, rfl, by decide, by decide⟩
theorem d_pchk_4 : Own.D jdk_41_method_11_code 4 (.iload_n 0) 1 5 := ⟨by decide +kernel, rfl⟩
theorem d_pchk_5 : Own.D jdk_41_method_11_code 5 (.iload_n 1) 1 6 := ⟨by decide +kernel, rfl⟩
theorem d_pchk_6 : Own.J jdk_41_method_11_code 6 (.if_icmp .lt 10) 3 9 10 16 := ⟨by decide +kernel, rfl, by decide, by decide⟩
theorem d_pchk_16 : Own.D jdk_41_method_11_code 16 (.iload_n 0) 1 17 := ⟨by decide +kernel, rfl⟩
theorem d_pchk_17 : Own.D jdk_41_method_11_code 17 .ireturn 1 18 := ⟨by decide +kernel, rfl⟩
theorem d_schk_0 : Own.D jdk_42_method_155_code 0 (.iload_n 0) 1 1 := ⟨by decide +kernel, rfl⟩
theorem d_schk_1 : Own.D jdk_42_method_155_code 1 (.iload_n 1) 1 2 := ⟨by decide +kernel, rfl⟩
theorem d_schk_2 : Own.D jdk_42_method_155_code 2 (.getstatic 1053) 3 5 := ⟨by decide +kernel, rfl⟩
theorem d_schk_5 : Own.D jdk_42_method_155_code 5 (.invokestatic 1059) 3 8 := ⟨by decide +kernel, rfl⟩
theorem d_schk_8 : Own.D jdk_42_method_155_code 8 .pop 1 9 := ⟨by decide +kernel, rfl⟩
theorem d_schk_9 : Own.D jdk_42_method_155_code 9 .return_ 1 10 := ⟨by decide +kernel, rfl⟩
theorem d_lca_0 : Own.D jdk_43_method_2_code 0 (.iload_n 1) 1 1 := ⟨by decide +kernel, rfl⟩
theorem d_lca_1 : Own.D jdk_43_method_2_code 1 (.aload_n 0) 1 2 := ⟨by decide +kernel, rfl⟩
theorem d_lca_2 : Own.D jdk_43_method_2_code 2 .arraylength 1 3 := ⟨by decide +kernel, rfl⟩
theorem d_lca_3 : Own.D jdk_43_method_2_code 3 (.invokestatic 9) 3 6 := ⟨by decide +kernel, rfl⟩
theorem d_lca_6 : Own.D jdk_43_method_2_code 6 (.aload_n 0) 1 7 := ⟨by decide +kernel, rfl⟩
theorem d_lca_7 : Own.D jdk_43_method_2_code 7 (.iload_n 1) 1 8 := ⟨by decide +kernel, rfl⟩
theorem d_lca_8 : Own.D jdk_43_method_2_code 8 .baload 1 9 := ⟨by decide +kernel, rfl⟩
theorem d_lca_9 : Own.D jdk_43_method_2_code 9 (.sipush 255) 3 12 := ⟨by decide +kernel, rfl⟩
theorem d_lca_12 : Own.D jdk_43_method_2_code 12 .iand 1 13 := ⟨by decide +kernel, rfl⟩
theorem d_lca_13 : Own.D jdk_43_method_2_code 13 .i2c 1 14 := ⟨by decide +kernel, rfl⟩
theorem d_lca_14 : Own.D jdk_43_method_2_code 14 .ireturn 1 15 := ⟨by decide +kernel, rfl⟩
theorem d_sca_0 : Own.D jdk_42_method_56_code 0 (.aload_n 0) 1 1 := ⟨by decide +kernel, rfl⟩
theorem d_sca_1 : Own.D jdk_42_method_56_code 1 (.invokevirtual 492) 3 4 := ⟨by decide +kernel, rfl⟩
theorem d_sca_4 : Own.J jdk_42_method_56_code 4 (.ifCond .eq 12) 3 7 12 16 := ⟨by decide +kernel, rfl, by decide, by decide⟩
theorem d_sca_7 : Own.D jdk_42_method_56_code 7 (.aload_n 0) 1 8 := ⟨by decide +kernel, rfl⟩
theorem d_sca_8 : Own.D jdk_42_method_56_code 8 (.getfield 9) 3 11 := ⟨by decide +kernel, rfl⟩
theorem d_sca_11 : Own.D jdk_42_method_56_code 11 (.iload_n 1) 1 12 := ⟨by decide +kernel, rfl⟩
theorem d_sca_12 : Own.D jdk_42_method_56_code 12 (.invokestatic 495) 3 15 := ⟨by decide +kernel, rfl⟩
theorem d_sca_15 : Own.D jdk_42_method_56_code 15 .ireturn 1 16 := ⟨by decide +kernel, rfl⟩
theorem d_inibb_0 : Own.D jdk_42_method_151_code 0 (.aload_n 0) 1 1 := ⟨by decide +kernel, rfl⟩
theorem d_inibb_1 : Own.D jdk_42_method_151_code 1 (.invokespecial 1) 3 4 := ⟨by decide +kernel, rfl⟩
theorem d_inibb_4 : Own.D jdk_42_method_151_code 4 (.aload_n 0) 1 5 := ⟨by decide +kernel, rfl⟩
theorem d_inibb_5 : Own.D jdk_42_method_151_code 5 (.aload_n 1) 1 6 := ⟨by decide +kernel, rfl⟩
theorem d_inibb_6 : Own.D jdk_42_method_151_code 6 (.putfield 9) 3 9 := ⟨by decide +kernel, rfl⟩
theorem d_inibb_9 : Own.D jdk_42_method_151_code 9 (.aload_n 0) 1 10 := ⟨by decide +kernel, rfl⟩
theorem d_inibb_10 : Own.D jdk_42_method_151_code 10 (.iload_n 2) 1 11 := ⟨by decide +kernel, rfl⟩
theorem d_inibb_11 : Own.D jdk_42_method_151_code 11 (.putfield 15) 3 14 := ⟨by decide +kernel, rfl⟩
theorem d_inibb_14 : Own.D jdk_42_method_151_code 14 .return_ 1 15 := ⟨by decide +kernel, rfl⟩
theorem d_semp_0 : Own.D jdk_42_method_55_code 0 (.aload_n 0) 1 1 := ⟨by decide +kernel, rfl⟩
theorem d_semp_1 : Own.D jdk_42_method_55_code 1 (.getfield 9) 3 4 := ⟨by decide +kernel, rfl⟩
theorem d_semp_4 : Own.D jdk_42_method_55_code 4 .arraylength 1 5 := ⟨by decide +kernel, rfl⟩
theorem d_semp_5 : Own.J jdk_42_method_55_code 5 (.ifCond .ne 7) 3 8 7 12 := ⟨by decide +kernel, rfl, by decide, by decide⟩
theorem d_semp_12 : Own.D jdk_42_method_55_code 12 (.iconst 0) 1 13 := ⟨by decide +kernel, rfl⟩
theorem d_semp_13 : Own.D jdk_42_method_55_code 13 .ireturn 1 14 := ⟨by decide +kernel, rfl⟩
theorem d_cenc_0 : Own.D jdk_43_method_3_code 0 (.iload_n 0) 1 1 := ⟨by decide +kernel, rfl⟩
theorem d_cenc_1 : Own.D jdk_43_method_3_code 1 (.sipush 255) 3 4 := ⟨by decide +kernel, rfl⟩
theorem d_cenc_4 : Own.J jdk_43_method_3_code 4 (.if_icmp .gt 7) 3 7 7 11 := ⟨by decide +kernel, rfl, by decide, by decide⟩
theorem d_cenc_7 : Own.D jdk_43_method_3_code 7 (.iconst 1) 1 8 := ⟨by decide +kernel, rfl⟩
theorem d_cenc_8 : Own.J jdk_43_method_3_code 8 (.goto 4) 3 11 4 12 := ⟨by decide +kernel, rfl, by decide, by decide⟩
theorem d_cenc_12 : Own.D jdk_43_method_3_code 12 .ireturn 1 13 := ⟨by decide +kernel, rfl⟩
theorem d_aac_0 : Own.D jdk_68_method_31_code 0 (.aload_n 0) 1 1 := ⟨by decide +kernel, rfl⟩
theorem d_aac_1 : Own.D jdk_68_method_31_code 1 (.aload_n 0) 1 2 := ⟨by decide +kernel, rfl⟩
theorem d_aac_2 : Own.D jdk_68_method_31_code 2 (.getfield 79) 3 5 := ⟨by decide +kernel, rfl⟩
theorem d_aac_5 : Own.D jdk_68_method_31_code 5 (.iconst 1) 1 6 := ⟨by decide +kernel, rfl⟩
theorem d_aac_6 : Own.D jdk_68_method_31_code 6 .iadd 1 7 := ⟨by decide +kernel, rfl⟩
theorem d_aac_7 : Own.D jdk_68_method_31_code 7 (.invokevirtual 100) 3 10 := ⟨by decide +kernel, rfl⟩
theorem d_aac_10 : Own.D jdk_68_method_31_code 10 (.aload_n 0) 1 11 := ⟨by decide +kernel, rfl⟩
theorem d_aac_11 : Own.D jdk_68_method_31_code 11 (.invokevirtual 83) 3 14 := ⟨by decide +kernel, rfl⟩
theorem d_aac_14 : Own.J jdk_68_method_31_code 14 (.ifCond .eq 31) 3 17 31 45 := ⟨by decide +kernel, rfl, by decide, by decide⟩
theorem d_aac_17 : Own.D jdk_68_method_31_code 17 (.iload_n 1) 1 18 := ⟨by decide +kernel, rfl⟩
theorem d_aac_18 : Own.D jdk_68_method_31_code 18 (.invokestatic 191) 3 21 := ⟨by decide +kernel, rfl⟩
theorem d_aac_21 : Own.J jdk_68_method_31_code 21 (.ifCond .eq 24) 3 24 24 45 := ⟨by decide +kernel, rfl, by decide, by decide⟩
theorem d_aac_24 : Own.D jdk_68_method_31_code 24 (.aload_n 0) 1 25 := ⟨by decide +kernel, rfl⟩
theorem d_aac_25 : Own.D jdk_68_method_31_code 25 (.getfield 15) 3 28 := ⟨by decide +kernel, rfl⟩
theorem d_aac_28 : Own.D jdk_68_method_31_code 28 (.aload_n 0) 1 29 := ⟨by decide +kernel, rfl⟩
theorem d_aac_29 : Own.D jdk_68_method_31_code 29 .dup 1 30 := ⟨by decide +kernel, rfl⟩
theorem d_aac_30 : Own.D jdk_68_method_31_code 30 (.getfield 79) 3 33 := ⟨by decide +kernel, rfl⟩
theorem d_aac_33 : Own.D jdk_68_method_31_code 33 .dup_x1 1 34 := ⟨by decide +kernel, rfl⟩
theorem d_aac_34 : Own.D jdk_68_method_31_code 34 (.iconst 1) 1 35 := ⟨by decide +kernel, rfl⟩
theorem d_aac_35 : Own.D jdk_68_method_31_code 35 .iadd 1 36 := ⟨by decide +kernel, rfl⟩
theorem d_aac_36 : Own.D jdk_68_method_31_code 36 (.putfield 79) 3 39 := ⟨by decide +kernel, rfl⟩
theorem d_aac_39 : Own.D jdk_68_method_31_code 39 (.iload_n 1) 1 40 := ⟨by decide +kernel, rfl⟩
theorem d_aac_40 : Own.D jdk_68_method_31_code 40 .i2b 1 41 := ⟨by decide +kernel, rfl⟩
theorem d_aac_41 : Own.D jdk_68_method_31_code 41 .bastore 1 42 := ⟨by decide +kernel, rfl⟩
theorem d_aac_42 : Own.J jdk_68_method_31_code 42 (.goto 33) 3 45 33 75 := ⟨by decide +kernel, rfl, by decide, by decide⟩
theorem d_aac_75 : Own.D jdk_68_method_31_code 75 (.aload_n 0) 1 76 := ⟨by decide +kernel, rfl⟩
theorem d_aac_76 : Own.D jdk_68_method_31_code 76 .areturn 1 77 := ⟨by decide +kernel, rfl⟩
theorem d_sac_0 : Own.D jdk_67_method_14_code 0 (.aload_n 0) 1 1 := ⟨by decide +kernel, rfl⟩
theorem d_sac_1 : Own.D jdk_67_method_14_code 1 (.iload_n 1) 1 2 := ⟨by decide +kernel, rfl⟩
theorem d_sac_2 : Own.D jdk_67_method_14_code 2 (.invokespecial 50) 3 5 := ⟨by decide +kernel, rfl⟩
theorem d_sac_5 : Own.D jdk_67_method_14_code 5 .pop 1 6 := ⟨by decide +kernel, rfl⟩
theorem d_sac_6 : Own.D jdk_67_method_14_code 6 (.aload_n 0) 1 7 := ⟨by decide +kernel, rfl⟩
theorem d_sac_7 : Own.D jdk_67_method_14_code 7 .areturn 1 8 := ⟨by decide +kernel, rfl⟩
theorem d_leq_9 : Own.D jdk_43_method_13_code 9 (.iload_n 2) 1 10 := ⟨by decide +kernel, rfl⟩
theorem d_leq_10 : Own.D jdk_43_method_13_code 10 (.aload_n 0) 1 11 := ⟨by decide +kernel, rfl⟩
theorem d_leq_11 : Own.D jdk_43_method_13_code 11 .arraylength 1 12 := ⟨by decide +kernel, rfl⟩
theorem d_leq_12 : Own.J jdk_43_method_13_code 12 (.if_icmp .ge 20) 3 15 20 32 := ⟨by decide +kernel, rfl, by decide, by decide⟩
theorem d_leq_32 : Own.D jdk_43_method_13_code 32 (.iconst 1) 1 33 := ⟨by decide +kernel, rfl⟩
theorem d_leq_33 : Own.D jdk_43_method_13_code 33 .ireturn 1 34 := ⟨by decide +kernel, rfl⟩
theorem d_leq_15 : Own.D jdk_43_method_13_code 15 (.aload_n 0) 1 16 := ⟨by decide +kernel, rfl⟩
theorem d_leq_16 : Own.D jdk_43_method_13_code 16 (.iload_n 2) 1 17 := ⟨by decide +kernel, rfl⟩
theorem d_leq_17 : Own.D jdk_43_method_13_code 17 .baload 1 18 := ⟨by decide +kernel, rfl⟩
theorem d_leq_18 : Own.D jdk_43_method_13_code 18 (.aload_n 1) 1 19 := ⟨by decide +kernel, rfl⟩
theorem d_leq_19 : Own.D jdk_43_method_13_code 19 (.iload_n 2) 1 20 := ⟨by decide +kernel, rfl⟩
theorem d_leq_20 : Own.D jdk_43_method_13_code 20 .baload 1 21 := ⟨by decide +kernel, rfl⟩
theorem d_leq_21 : Own.J jdk_43_method_13_code 21 (.if_icmp .eq 5) 3 24 5 26 := ⟨by decide +kernel, rfl, by decide, by decide⟩
theorem d_leq_26 : Own.D jdk_43_method_13_code 26 (.iinc 2 1) 3 29 := ⟨by decide +kernel, rfl⟩
theorem d_leq_29 : Own.J jdk_43_method_13_code 29 (.goto (-20)) 3 32 (-20) 9 := ⟨by decide +kernel, rfl, by decide, by decide⟩
theorem d_leq_0 : Own.D jdk_43_method_13_code 0 (.aload_n 0) 1 1 := ⟨by decide +kernel, rfl⟩
theorem d_leq_1 : Own.D jdk_43_method_13_code 1 .arraylength 1 2 := ⟨by decide +kernel, rfl⟩
theorem d_leq_2 : Own.D jdk_43_method_13_code 2 (.aload_n 1) 1 3 := ⟨by decide +kernel, rfl⟩
theorem d_leq_3 : Own.D jdk_43_method_13_code 3 .arraylength 1 4 := ⟨by decide +kernel, rfl⟩
theorem d_leq_4 : Own.J jdk_43_method_13_code 4 (.if_icmp .ne 30) 3 7 30 34 := ⟨by decide +kernel, rfl, by decide, by decide⟩
theorem d_leq_7 : Own.D jdk_43_method_13_code 7 (.iconst 0) 1 8 := ⟨by decide +kernel, rfl⟩
theorem d_leq_8 : Own.D jdk_43_method_13_code 8 (.istore_n 2) 1 9 := ⟨by decide +kernel, rfl⟩
theorem d_seq_0 : Own.D jdk_42_method_66_code 0 (.aload_n 0) 1 1 := ⟨by decide +kernel, rfl⟩
theorem d_seq_1 : Own.D jdk_42_method_66_code 1 (.aload_n 1) 1 2 := ⟨by decide +kernel, rfl⟩
theorem d_seq_2 : Own.J jdk_42_method_66_code 2 (.if_acmp .ne 5) 3 5 5 7 := ⟨by decide +kernel, rfl, by decide, by decide⟩
theorem d_seq_7 : Own.D jdk_42_method_66_code 7 (.aload_n 1) 1 8 := ⟨by decide +kernel, rfl⟩
theorem d_seq_8 : Own.D jdk_42_method_66_code 8 (.instanceof 10) 3 11 := ⟨by decide +kernel, rfl⟩
theorem d_seq_11 : Own.J jdk_42_method_66_code 11 (.ifCond .eq 43) 3 14 43 54 := ⟨by decide +kernel, rfl, by decide, by decide⟩
theorem d_seq_14 : Own.D jdk_42_method_66_code 14 (.aload_n 1) 1 15 := ⟨by decide +kernel, rfl⟩
theorem d_seq_15 : Own.D jdk_42_method_66_code 15 (.checkcast 10) 3 18 := ⟨by decide +kernel, rfl⟩
theorem d_seq_18 : Own.D jdk_42_method_66_code 18 (.astore_n 2) 1 19 := ⟨by decide +kernel, rfl⟩
theorem d_seq_19 : Own.D jdk_42_method_66_code 19 (.getstatic 38) 3 22 := ⟨by decide +kernel, rfl⟩
theorem d_seq_22 : Own.J jdk_42_method_66_code 22 (.ifCond .eq 14) 3 25 14 36 := ⟨by decide +kernel, rfl, by decide, by decide⟩
theorem d_seq_25 : Own.D jdk_42_method_66_code 25 (.aload_n 0) 1 26 := ⟨by decide +kernel, rfl⟩
theorem d_seq_26 : Own.D jdk_42_method_66_code 26 (.getfield 15) 3 29 := ⟨by decide +kernel, rfl⟩
theorem d_seq_29 : Own.D jdk_42_method_66_code 29 (.aload_n 2) 1 30 := ⟨by decide +kernel, rfl⟩
theorem d_seq_30 : Own.D jdk_42_method_66_code 30 (.getfield 15) 3 33 := ⟨by decide +kernel, rfl⟩
theorem d_seq_33 : Own.J jdk_42_method_66_code 33 (.if_icmp .ne 21) 3 36 21 54 := ⟨by decide +kernel, rfl, by decide, by decide⟩
theorem d_seq_36 : Own.D jdk_42_method_66_code 36 (.aload_n 0) 1 37 := ⟨by decide +kernel, rfl⟩
theorem d_seq_37 : Own.D jdk_42_method_66_code 37 (.getfield 9) 3 40 := ⟨by decide +kernel, rfl⟩
theorem d_seq_40 : Own.D jdk_42_method_66_code 40 (.aload_n 2) 1 41 := ⟨by decide +kernel, rfl⟩
theorem d_seq_41 : Own.D jdk_42_method_66_code 41 (.getfield 9) 3 44 := ⟨by decide +kernel, rfl⟩
theorem d_seq_44 : Own.D jdk_42_method_66_code 44 (.invokestatic 541) 3 47 := ⟨by decide +kernel, rfl⟩
theorem d_seq_47 : Own.J jdk_42_method_66_code 47 (.ifCond .eq 7) 3 50 7 54 := ⟨by decide +kernel, rfl, by decide, by decide⟩
theorem d_seq_50 : Own.D jdk_42_method_66_code 50 (.iconst 1) 1 51 := ⟨by decide +kernel, rfl⟩
theorem d_seq_51 : Own.J jdk_42_method_66_code 51 (.goto 4) 3 54 4 55 := ⟨by decide +kernel, rfl, by decide, by decide⟩
theorem d_seq_55 : Own.D jdk_42_method_66_code 55 .ireturn 1 56 := ⟨by decide +kernel, rfl⟩
theorem d_iad_2 : Own.D prog_2_method_5_code 2 (.iload_n 1) 1 3 := ⟨by decide +kernel, rfl⟩
theorem d_iad_3 : Own.D prog_2_method_5_code 3 (.aload_n 0) 1 4 := ⟨by decide +kernel, rfl⟩
theorem d_iad_4 : Own.D prog_2_method_5_code 4 (.invokevirtual 19) 3 7 := ⟨by decide +kernel, rfl⟩
theorem d_iad_7 : Own.J prog_2_method_5_code 7 (.if_icmp .ge 29) 3 10 29 36 := ⟨by decide +kernel, rfl, by decide, by decide⟩
theorem d_iad_36 : Own.D prog_2_method_5_code 36 (.iconst 1) 1 37 := ⟨by decide +kernel, rfl⟩
theorem d_iad_37 : Own.D prog_2_method_5_code 37 .ireturn 1 38 := ⟨by decide +kernel, rfl⟩
theorem d_iad_10 : Own.D prog_2_method_5_code 10 (.aload_n 0) 1 11 := ⟨by decide +kernel, rfl⟩
theorem d_iad_11 : Own.D prog_2_method_5_code 11 (.iload_n 1) 1 12 := ⟨by decide +kernel, rfl⟩
theorem d_iad_12 : Own.D prog_2_method_5_code 12 (.invokevirtual 79) 3 15 := ⟨by decide +kernel, rfl⟩
theorem d_iad_15 : Own.D prog_2_method_5_code 15 (.istore_n 2) 1 16 := ⟨by decide +kernel, rfl⟩
theorem d_iad_16 : Own.D prog_2_method_5_code 16 (.iload_n 2) 1 17 := ⟨by decide +kernel, rfl⟩
theorem d_iad_17 : Own.D prog_2_method_5_code 17 (.bipush 48) 2 19 := ⟨by decide +kernel, rfl⟩
theorem d_iad_19 : Own.J prog_2_method_5_code 19 (.if_icmp .lt 9) 3 22 9 28 := ⟨by decide +kernel, rfl, by decide, by decide⟩
theorem d_iad_22 : Own.D prog_2_method_5_code 22 (.iload_n 2) 1 23 := ⟨by decide +kernel, rfl⟩
theorem d_iad_23 : Own.D prog_2_method_5_code 23 (.bipush 57) 2 25 := ⟨by decide +kernel, rfl⟩
theorem d_iad_25 : Own.J prog_2_method_5_code 25 (.if_icmp .le 5) 3 28 5 30 := ⟨by decide +kernel, rfl, by decide, by decide⟩
theorem d_iad_30 : Own.D prog_2_method_5_code 30 (.iinc 1 1) 3 33 := ⟨by decide +kernel, rfl⟩
theorem d_iad_33 : Own.J prog_2_method_5_code 33 (.goto (-31)) 3 36 (-31) 2 := ⟨by decide +kernel, rfl, by decide, by decide⟩
theorem d_iad_0 : Own.D prog_2_method_5_code 0 (.iconst 0) 1 1 := ⟨by decide +kernel, rfl⟩
theorem d_iad_1 : Own.D prog_2_method_5_code 1 (.istore_n 1) 1 2 := ⟨by decide +kernel, rfl⟩
theorem d_fil_5 : Own.D jdk_65_method_109_code 5 (.iload_n 2) 1 6 := ⟨by decide +kernel, rfl⟩
theorem d_fil_6 : Own.D jdk_65_method_109_code 6 (.iload_n 3) 1 7 := ⟨by decide +kernel, rfl⟩
theorem d_fil_7 : Own.J jdk_65_method_109_code 7 (.if_icmp .ge 13) 3 10 13 20 := ⟨by decide +kernel, rfl, by decide, by decide⟩
theorem d_fil_20 : Own.D jdk_65_method_109_code 20 .return_ 1 21 := ⟨by decide +kernel, rfl⟩
theorem d_fil_10 : Own.D jdk_65_method_109_code 10 (.aload_n 0) 1 11 := ⟨by decide +kernel, rfl⟩
theorem d_fil_11 : Own.D jdk_65_method_109_code 11 (.iload_n 2) 1 12 := ⟨by decide +kernel, rfl⟩
theorem d_fil_12 : Own.D jdk_65_method_109_code 12 (.iload_n 1) 1 13 := ⟨by decide +kernel, rfl⟩
theorem d_fil_13 : Own.D jdk_65_method_109_code 13 .bastore 1 14 := ⟨by decide +kernel, rfl⟩
theorem d_fil_14 : Own.D jdk_65_method_109_code 14 (.iinc 2 1) 3 17 := ⟨by decide +kernel, rfl⟩
theorem d_fil_17 : Own.J jdk_65_method_109_code 17 (.goto (-12)) 3 20 (-12) 5 := ⟨by decide +kernel, rfl, by decide, by decide⟩
theorem d_fil_0 : Own.D jdk_65_method_109_code 0 (.iconst 0) 1 1 := ⟨by decide +kernel, rfl⟩
theorem d_fil_1 : Own.D jdk_65_method_109_code 1 (.istore_n 2) 1 2 := ⟨by decide +kernel, rfl⟩
theorem d_fil_2 : Own.D jdk_65_method_109_code 2 (.aload_n 0) 1 3 := ⟨by decide +kernel, rfl⟩
theorem d_fil_3 : Own.D jdk_65_method_109_code 3 .arraylength 1 4 := ⟨by decide +kernel, rfl⟩
theorem d_fil_4 : Own.D jdk_65_method_109_code 4 (.istore_n 3) 1 5 := ⟨by decide +kernel, rfl⟩
theorem d_rep_0 : Own.D jdk_42_method_145_code 0 (.iload_n 1) 1 1 := ⟨by decide +kernel, rfl⟩
theorem d_rep_1 : Own.J jdk_42_method_145_code 1 (.ifCond .ge 31) 3 4 31 32 := ⟨by decide +kernel, rfl, by decide, by decide⟩
theorem d_rep_32 : Own.D jdk_42_method_145_code 32 (.iload_n 1) 1 33 := ⟨by decide +kernel, rfl⟩
theorem d_rep_33 : Own.D jdk_42_method_145_code 33 (.iconst 1) 1 34 := ⟨by decide +kernel, rfl⟩
theorem d_rep_34 : Own.J jdk_42_method_145_code 34 (.if_icmp .ne 5) 3 37 5 39 := ⟨by decide +kernel, rfl, by decide, by decide⟩
theorem d_rep_39 : Own.D jdk_42_method_145_code 39 (.aload_n 0) 1 40 := ⟨by decide +kernel, rfl⟩
theorem d_rep_40 : Own.D jdk_42_method_145_code 40 (.getfield 9) 3 43 := ⟨by decide +kernel, rfl⟩
theorem d_rep_43 : Own.D jdk_42_method_145_code 43 .arraylength 1 44 := ⟨by decide +kernel, rfl⟩
theorem d_rep_44 : Own.D jdk_42_method_145_code 44 (.istore_n 2) 1 45 := ⟨by decide +kernel, rfl⟩
theorem d_rep_45 : Own.D jdk_42_method_145_code 45 (.iload_n 2) 1 46 := ⟨by decide +kernel, rfl⟩
theorem d_rep_46 : Own.J jdk_42_method_145_code 46 (.ifCond .eq 7) 3 49 7 53 := ⟨by decide +kernel, rfl, by decide, by decide⟩
theorem d_rep_49 : Own.D jdk_42_method_145_code 49 (.iload_n 1) 1 50 := ⟨by decide +kernel, rfl⟩
theorem d_rep_50 : Own.J jdk_42_method_145_code 50 (.ifCond .ne 6) 3 53 6 56 := ⟨by decide +kernel, rfl, by decide, by decide⟩
theorem d_rep_56 : Own.D jdk_42_method_145_code 56 (.ldc_w 943) 3 59 := ⟨by decide +kernel, rfl⟩
theorem d_rep_59 : Own.D jdk_42_method_145_code 59 (.iload_n 1) 1 60 := ⟨by decide +kernel, rfl⟩
theorem d_rep_60 : Own.D jdk_42_method_145_code 60 .idiv 1 61 := ⟨by decide +kernel, rfl⟩
theorem d_rep_61 : Own.D jdk_42_method_145_code 61 (.iload_n 2) 1 62 := ⟨by decide +kernel, rfl⟩
theorem d_rep_62 : Own.J jdk_42_method_145_code 62 (.if_icmp .ge 14) 3 65 14 76 := ⟨by decide +kernel, rfl, by decide, by decide⟩
theorem d_rep_76 : Own.D jdk_42_method_145_code 76 (.iload_n 2) 1 77 := ⟨by decide +kernel, rfl⟩
theorem d_rep_77 : Own.D jdk_42_method_145_code 77 (.iconst 1) 1 78 := ⟨by decide +kernel, rfl⟩
theorem d_rep_78 : Own.J jdk_42_method_145_code 78 (.if_icmp .ne 30) 3 81 30 108 := ⟨by decide +kernel, rfl, by decide, by decide⟩
theorem d_rep_81 : Own.D jdk_42_method_145_code 81 (.iload_n 1) 1 82 := ⟨by decide +kernel, rfl⟩
theorem d_rep_82 : Own.D jdk_42_method_145_code 82 (.newarray .byte) 2 84 := ⟨by decide +kernel, rfl⟩
theorem d_rep_84 : Own.D jdk_42_method_145_code 84 (.astore_n 3) 1 85 := ⟨by decide +kernel, rfl⟩
theorem d_rep_85 : Own.D jdk_42_method_145_code 85 (.aload_n 3) 1 86 := ⟨by decide +kernel, rfl⟩
theorem d_rep_86 : Own.D jdk_42_method_145_code 86 (.aload_n 0) 1 87 := ⟨by decide +kernel, rfl⟩
theorem d_rep_87 : Own.D jdk_42_method_145_code 87 (.getfield 9) 3 90 := ⟨by decide +kernel, rfl⟩
theorem d_rep_90 : Own.D jdk_42_method_145_code 90 (.iconst 0) 1 91 := ⟨by decide +kernel, rfl⟩
theorem d_rep_91 : Own.D jdk_42_method_145_code 91 .baload 1 92 := ⟨by decide +kernel, rfl⟩
theorem d_rep_92 : Own.D jdk_42_method_145_code 92 (.invokestatic 1041) 3 95 := ⟨by decide +kernel, rfl⟩
theorem d_rep_95 : Own.D jdk_42_method_145_code 95 (.new 10) 3 98 := ⟨by decide +kernel, rfl⟩
theorem d_rep_98 : Own.D jdk_42_method_145_code 98 .dup 1 99 := ⟨by decide +kernel, rfl⟩
theorem d_rep_99 : Own.D jdk_42_method_145_code 99 (.aload_n 3) 1 100 := ⟨by decide +kernel, rfl⟩
theorem d_rep_100 : Own.D jdk_42_method_145_code 100 (.aload_n 0) 1 101 := ⟨by decide +kernel, rfl⟩
theorem d_rep_101 : Own.D jdk_42_method_145_code 101 (.getfield 15) 3 104 := ⟨by decide +kernel, rfl⟩
theorem d_rep_104 : Own.D jdk_42_method_145_code 104 (.invokespecial 209) 3 107 := ⟨by decide +kernel, rfl⟩
theorem d_rep_107 : Own.D jdk_42_method_145_code 107 .areturn 1 108 := ⟨by decide +kernel, rfl⟩
theorem d_rep_53 : Own.D jdk_42_method_145_code 53 (.ldc 7) 2 55 := ⟨by decide +kernel, rfl⟩
theorem d_rep_55 : Own.D jdk_42_method_145_code 55 .areturn 1 56 := ⟨by decide +kernel, rfl⟩
theorem d_rep_37 : Own.D jdk_42_method_145_code 37 (.aload_n 0) 1 38 := ⟨by decide +kernel, rfl⟩
theorem d_rep_38 : Own.D jdk_42_method_145_code 38 .areturn 1 39 := ⟨by decide +kernel, rfl⟩
theorem d_ckd_11 : Own.D prog_2_method_4_code 11 (.iload_n 3) 1 12 := ⟨by decide +kernel, rfl⟩
theorem d_ckd_12 : Own.J prog_2_method_4_code 12 (.ifCond .lt 54) 3 15 54 66 := ⟨by decide +kernel, rfl, by decide, by decide⟩
theorem d_ckd_66 : Own.D prog_2_method_4_code 66 (.bipush 48) 2 68 := ⟨by decide +kernel, rfl⟩
theorem d_ckd_68 : Own.D prog_2_method_4_code 68 (.bipush 10) 2 70 := ⟨by decide +kernel, rfl⟩
theorem d_ckd_70 : Own.D prog_2_method_4_code 70 (.iload_n 1) 1 71 := ⟨by decide +kernel, rfl⟩
theorem d_ckd_71 : Own.D prog_2_method_4_code 71 (.bipush 10) 2 73 := ⟨by decide +kernel, rfl⟩
theorem d_ckd_73 : Own.D prog_2_method_4_code 73 .irem 1 74 := ⟨by decide +kernel, rfl⟩
theorem d_ckd_74 : Own.D prog_2_method_4_code 74 .isub 1 75 := ⟨by decide +kernel, rfl⟩
theorem d_ckd_75 : Own.D prog_2_method_4_code 75 (.bipush 10) 2 77 := ⟨by decide +kernel, rfl⟩
theorem d_ckd_77 : Own.D prog_2_method_4_code 77 .irem 1 78 := ⟨by decide +kernel, rfl⟩
theorem d_ckd_78 : Own.D prog_2_method_4_code 78 .iadd 1 79 := ⟨by decide +kernel, rfl⟩
theorem d_ckd_79 : Own.D prog_2_method_4_code 79 .i2c 1 80 := ⟨by decide +kernel, rfl⟩
theorem d_ckd_80 : Own.D prog_2_method_4_code 80 .ireturn 1 81 := ⟨by decide +kernel, rfl⟩
theorem d_ckd_15 : Own.D prog_2_method_4_code 15 (.aload_n 0) 1 16 := ⟨by decide +kernel, rfl⟩
theorem d_ckd_16 : Own.D prog_2_method_4_code 16 (.iload_n 3) 1 17 := ⟨by decide +kernel, rfl⟩
theorem d_ckd_17 : Own.D prog_2_method_4_code 17 (.invokevirtual 79) 3 20 := ⟨by decide +kernel, rfl⟩
theorem d_ckd_20 : Own.D prog_2_method_4_code 20 (.bipush 48) 2 22 := ⟨by decide +kernel, rfl⟩
theorem d_ckd_22 : Own.D prog_2_method_4_code 22 .isub 1 23 := ⟨by decide +kernel, rfl⟩
theorem d_ckd_23 : Own.D prog_2_method_4_code 23 (.istore 4) 2 25 := ⟨by decide +kernel, rfl⟩
theorem d_ckd_25 : Own.D prog_2_method_4_code 25 (.iload_n 2) 1 26 := ⟨by decide +kernel, rfl⟩
theorem d_ckd_26 : Own.J prog_2_method_4_code 26 (.ifCond .eq 19) 3 29 19 45 := ⟨by decide +kernel, rfl, by decide, by decide⟩
theorem d_ckd_29 : Own.D prog_2_method_4_code 29 (.iload 4) 2 31 := ⟨by decide +kernel, rfl⟩
theorem d_ckd_31 : Own.D prog_2_method_4_code 31 (.iconst 2) 1 32 := ⟨by decide +kernel, rfl⟩
theorem d_ckd_32 : Own.D prog_2_method_4_code 32 .imul 1 33 := ⟨by decide +kernel, rfl⟩
theorem d_ckd_33 : Own.D prog_2_method_4_code 33 (.istore 4) 2 35 := ⟨by decide +kernel, rfl⟩
theorem d_ckd_35 : Own.D prog_2_method_4_code 35 (.iload 4) 2 37 := ⟨by decide +kernel, rfl⟩
theorem d_ckd_37 : Own.D prog_2_method_4_code 37 (.bipush 9) 2 39 := ⟨by decide +kernel, rfl⟩
theorem d_ckd_39 : Own.J prog_2_method_4_code 39 (.if_icmp .le 6) 3 42 6 45 := ⟨by decide +kernel, rfl, by decide, by decide⟩
theorem d_ckd_45 : Own.D prog_2_method_4_code 45 (.iload_n 1) 1 46 := ⟨by decide +kernel, rfl⟩
theorem d_ckd_46 : Own.D prog_2_method_4_code 46 (.iload 4) 2 48 := ⟨by decide +kernel, rfl⟩
theorem d_ckd_48 : Own.D prog_2_method_4_code 48 .iadd 1 49 := ⟨by decide +kernel, rfl⟩
theorem d_ckd_49 : Own.D prog_2_method_4_code 49 (.istore_n 1) 1 50 := ⟨by decide +kernel, rfl⟩
theorem d_ckd_50 : Own.D prog_2_method_4_code 50 (.iload_n 2) 1 51 := ⟨by decide +kernel, rfl⟩
theorem d_ckd_51 : Own.J prog_2_method_4_code 51 (.ifCond .ne 7) 3 54 7 58 := ⟨by decide +kernel, rfl, by decide, by decide⟩
theorem d_ckd_58 : Own.D prog_2_method_4_code 58 (.iconst 0) 1 59 := ⟨by decide +kernel, rfl⟩
theorem d_ckd_59 : Own.D prog_2_method_4_code 59 (.istore_n 2) 1 60 := ⟨by decide +kernel, rfl⟩
theorem d_ckd_60 : Own.D prog_2_method_4_code 60 (.iinc 3 (-1)) 3 63 := ⟨by decide +kernel, rfl⟩
theorem d_ckd_63 : Own.J prog_2_method_4_code 63 (.goto (-52)) 3 66 (-52) 11 := ⟨by decide +kernel, rfl, by decide, by decide⟩
theorem d_ckd_42 : Own.D prog_2_method_4_code 42 (.iinc 4 (-9)) 3 45 := ⟨by decide +kernel, rfl⟩
theorem d_ckd_54 : Own.D prog_2_method_4_code 54 (.iconst 1) 1 55 := ⟨by decide +kernel, rfl⟩
theorem d_ckd_55 : Own.J prog_2_method_4_code 55 (.goto 4) 3 58 4 59 := ⟨by decide +kernel, rfl, by decide, by decide⟩
theorem d_ckd_0 : Own.D prog_2_method_4_code 0 (.iconst 0) 1 1 := ⟨by decide +kernel, rfl⟩
theorem d_ckd_1 : Own.D prog_2_method_4_code 1 (.istore_n 1) 1 2 := ⟨by decide +kernel, rfl⟩
theorem d_ckd_2 : Own.D prog_2_method_4_code 2 (.iconst 1) 1 3 := ⟨by decide +kernel, rfl⟩
theorem d_ckd_3 : Own.D prog_2_method_4_code 3 (.istore_n 2) 1 4 := ⟨by decide +kernel, rfl⟩
theorem d_ckd_4 : Own.D prog_2_method_4_code 4 (.aload_n 0) 1 5 := ⟨by decide +kernel, rfl⟩
theorem d_ckd_5 : Own.D prog_2_method_4_code 5 (.invokevirtual 19) 3 8 := ⟨by decide +kernel, rfl⟩
theorem d_ckd_8 : Own.D prog_2_method_4_code 8 (.iconst 1) 1 9 := ⟨by decide +kernel, rfl⟩
theorem d_ckd_9 : Own.D prog_2_method_4_code 9 .isub 1 10 := ⟨by decide +kernel, rfl⟩
theorem d_ckd_10 : Own.D prog_2_method_4_code 10 (.istore_n 3) 1 11 := ⟨by decide +kernel, rfl⟩
theorem d_pri_0 : Own.D prog_2_method_1_code 0 (.aload_n 0) 1 1 := ⟨by decide +kernel, rfl⟩
theorem d_pri_1 : Own.D prog_2_method_1_code 1 (.invokespecial 3) 3 4 := ⟨by decide +kernel, rfl⟩
theorem d_pri_4 : Own.D prog_2_method_1_code 4 (.aload_n 0) 1 5 := ⟨by decide +kernel, rfl⟩
theorem d_pri_5 : Own.D prog_2_method_1_code 5 (.aload_n 1) 1 6 := ⟨by decide +kernel, rfl⟩
theorem d_pri_6 : Own.D prog_2_method_1_code 6 (.putfield 9) 3 9 := ⟨by decide +kernel, rfl⟩
theorem d_pri_9 : Own.D prog_2_method_1_code 9 .return_ 1 10 := ⟨by decide +kernel, rfl⟩
theorem d_prs_0 : Own.D prog_2_method_8_code 0 (.aload_n 0) 1 1 := ⟨by decide +kernel, rfl⟩
theorem d_prs_1 : Own.D prog_2_method_8_code 1 (.getfield 9) 3 4 := ⟨by decide +kernel, rfl⟩
theorem d_prs_4 : Own.D prog_2_method_8_code 4 .areturn 1 5 := ⟨by decide +kernel, rfl⟩
theorem d_dig_0 : Own.D method_3_code 0 (.lload_n 0) 1 1 := ⟨by decide +kernel, rfl⟩
theorem d_dig_1 : Own.D method_3_code 1 (.lload_n 2) 1 2 := ⟨by decide +kernel, rfl⟩
theorem d_dig_2 : Own.D method_3_code 2 .ldiv 1 3 := ⟨by decide +kernel, rfl⟩
theorem d_dig_3 : Own.D method_3_code 3 (.ldc2_w 7) 3 6 := ⟨by decide +kernel, rfl⟩
theorem d_dig_6 : Own.D method_3_code 6 .lrem 1 7 := ⟨by decide +kernel, rfl⟩
theorem d_dig_7 : Own.D method_3_code 7 .l2i 1 8 := ⟨by decide +kernel, rfl⟩
theorem d_dig_8 : Own.D method_3_code 8 .ireturn 1 9 := ⟨by decide +kernel, rfl⟩
theorem d_dbl_0 : Own.D method_2_code 0 (.iconst 2) 1 1 := ⟨by decide +kernel, rfl⟩
theorem d_dbl_1 : Own.D method_2_code 1 (.iload_n 0) 1 2 := ⟨by decide +kernel, rfl⟩
theorem d_dbl_2 : Own.D method_2_code 2 .imul 1 3 := ⟨by decide +kernel, rfl⟩
theorem d_dbl_3 : Own.D method_2_code 3 (.istore_n 1) 1 4 := ⟨by decide +kernel, rfl⟩
theorem d_dbl_4 : Own.D method_2_code 4 (.iload_n 1) 1 5 := ⟨by decide +kernel, rfl⟩
theorem d_dbl_5 : Own.D method_2_code 5 (.bipush 10) 2 7 := ⟨by decide +kernel, rfl⟩
theorem d_dbl_7 : Own.D method_2_code 7 .idiv 1 8 := ⟨by decide +kernel, rfl⟩
theorem d_dbl_8 : Own.D method_2_code 8 (.iload_n 1) 1 9 := ⟨by decide +kernel, rfl⟩
theorem d_dbl_9 : Own.D method_2_code 9 (.bipush 10) 2 11 := ⟨by decide +kernel, rfl⟩
theorem d_dbl_11 : Own.D method_2_code 11 .irem 1 12 := ⟨by decide +kernel, rfl⟩
theorem d_dbl_12 : Own.D method_2_code 12 .iadd 1 13 := ⟨by decide +kernel, rfl⟩
theorem d_dbl_13 : Own.D method_2_code 13 .ireturn 1 14 := ⟨by decide +kernel, rfl⟩
theorem d_forc_0 : Own.D prog_2_method_2_code 0 (.aload_n 0) 1 1 := ⟨by decide +kernel, rfl⟩
theorem d_forc_1 : Own.D prog_2_method_2_code 1 (.invokevirtual 13) 3 4 := ⟨by decide +kernel, rfl⟩
theorem d_forc_4 : Own.J prog_2_method_2_code 4 (.ifCond .ne 19) 3 7 19 23 := ⟨by decide +kernel, rfl, by decide, by decide⟩
theorem d_forc_7 : Own.D prog_2_method_2_code 7 (.aload_n 0) 1 8 := ⟨by decide +kernel, rfl⟩
theorem d_forc_8 : Own.D prog_2_method_2_code 8 (.invokevirtual 19) 3 11 := ⟨by decide +kernel, rfl⟩
theorem d_forc_11 : Own.D prog_2_method_2_code 11 (.bipush 14) 2 13 := ⟨by decide +kernel, rfl⟩
theorem d_forc_13 : Own.J prog_2_method_2_code 13 (.if_icmp .gt 10) 3 16 10 23 := ⟨by decide +kernel, rfl, by decide, by decide⟩
theorem d_forc_16 : Own.D prog_2_method_2_code 16 (.aload_n 0) 1 17 := ⟨by decide +kernel, rfl⟩
theorem d_forc_17 : Own.D prog_2_method_2_code 17 (.invokestatic 23) 3 20 := ⟨by decide +kernel, rfl⟩
theorem d_forc_20 : Own.J prog_2_method_2_code 20 (.ifCond .ne 32) 3 23 32 52 := ⟨by decide +kernel, rfl, by decide, by decide⟩
theorem d_forc_52 : Own.D prog_2_method_2_code 52 (.new 44) 3 55 := ⟨by decide +kernel, rfl⟩
theorem d_forc_55 : Own.D prog_2_method_2_code 55 .dup 1 56 := ⟨by decide +kernel, rfl⟩
theorem d_forc_56 : Own.D prog_2_method_2_code 56 (.invokespecial 46) 3 59 := ⟨by decide +kernel, rfl⟩
theorem d_forc_59 : Own.D prog_2_method_2_code 59 (.ldc 47) 2 61 := ⟨by decide +kernel, rfl⟩
theorem d_forc_61 : Own.D prog_2_method_2_code 61 (.bipush 14) 2 63 := ⟨by decide +kernel, rfl⟩
theorem d_forc_63 : Own.D prog_2_method_2_code 63 (.aload_n 0) 1 64 := ⟨by decide +kernel, rfl⟩
theorem d_forc_64 : Own.D prog_2_method_2_code 64 (.invokevirtual 19) 3 67 := ⟨by decide +kernel, rfl⟩
theorem d_forc_67 : Own.D prog_2_method_2_code 67 .isub 1 68 := ⟨by decide +kernel, rfl⟩
theorem d_forc_68 : Own.D prog_2_method_2_code 68 (.invokevirtual 49) 3 71 := ⟨by decide +kernel, rfl⟩
theorem d_forc_71 : Own.D prog_2_method_2_code 71 (.invokevirtual 53) 3 74 := ⟨by decide +kernel, rfl⟩
theorem d_forc_74 : Own.D prog_2_method_2_code 74 (.aload_n 0) 1 75 := ⟨by decide +kernel, rfl⟩
theorem d_forc_75 : Own.D prog_2_method_2_code 75 (.invokevirtual 53) 3 78 := ⟨by decide +kernel, rfl⟩
theorem d_forc_78 : Own.D prog_2_method_2_code 78 (.invokevirtual 57) 3 81 := ⟨by decide +kernel, rfl⟩
theorem d_forc_81 : Own.D prog_2_method_2_code 81 (.astore_n 1) 1 82 := ⟨by decide +kernel, rfl⟩
theorem d_forc_82 : Own.D prog_2_method_2_code 82 (.new 1) 3 85 := ⟨by decide +kernel, rfl⟩
theorem d_forc_85 : Own.D prog_2_method_2_code 85 .dup 1 86 := ⟨by decide +kernel, rfl⟩
theorem d_forc_86 : Own.D prog_2_method_2_code 86 (.new 44) 3 89 := ⟨by decide +kernel, rfl⟩
theorem d_forc_89 : Own.D prog_2_method_2_code 89 .dup 1 90 := ⟨by decide +kernel, rfl⟩
theorem d_forc_90 : Own.D prog_2_method_2_code 90 (.invokespecial 46) 3 93 := ⟨by decide +kernel, rfl⟩
theorem d_forc_93 : Own.D prog_2_method_2_code 93 (.aload_n 1) 1 94 := ⟨by decide +kernel, rfl⟩
theorem d_forc_94 : Own.D prog_2_method_2_code 94 (.invokevirtual 53) 3 97 := ⟨by decide +kernel, rfl⟩
theorem d_forc_97 : Own.D prog_2_method_2_code 97 (.aload_n 1) 1 98 := ⟨by decide +kernel, rfl⟩
theorem d_forc_98 : Own.D prog_2_method_2_code 98 (.invokestatic 61) 3 101 := ⟨by decide +kernel, rfl⟩
theorem d_forc_101 : Own.D prog_2_method_2_code 101 (.invokevirtual 65) 3 104 := ⟨by decide +kernel, rfl⟩
theorem d_forc_104 : Own.D prog_2_method_2_code 104 (.invokevirtual 57) 3 107 := ⟨by decide +kernel, rfl⟩
theorem d_forc_107 : Own.D prog_2_method_2_code 107 (.invokespecial 68) 3 110 := ⟨by decide +kernel, rfl⟩
theorem d_forc_110 : Own.D prog_2_method_2_code 110 .areturn 1 111 := ⟨by decide +kernel, rfl⟩
theorem d_law_647 : Own.D code 647 (.new 46) 3 650 := ⟨by decide +kernel, rfl⟩
theorem d_law_650 : Own.D code 650 .dup 1 651 := ⟨by decide +kernel, rfl⟩
theorem d_law_651 : Own.D code 651 (.aload 10) 2 653 := ⟨by decide +kernel, rfl⟩
theorem d_law_653 : Own.D code 653 (.invokespecial 48) 3 656 := ⟨by decide +kernel, rfl⟩
theorem d_law_656 : Own.D code 656 (.astore 11) 2 658 := ⟨by decide +kernel, rfl⟩
theorem d_law_658 : Own.D code 658 (.aload 9) 2 660 := ⟨by decide +kernel, rfl⟩
theorem d_law_660 : Own.D code 660 (.iconst 0) 1 661 := ⟨by decide +kernel, rfl⟩
theorem d_law_661 : Own.D code 661 .iaload 1 662 := ⟨by decide +kernel, rfl⟩
theorem d_law_662 : Own.D code 662 (.invokestatic 51) 3 665 := ⟨by decide +kernel, rfl⟩
theorem d_law_665 : Own.D code 665 (.aload 9) 2 667 := ⟨by decide +kernel, rfl⟩
theorem d_law_667 : Own.D code 667 (.iconst 1) 1 668 := ⟨by decide +kernel, rfl⟩
theorem d_law_668 : Own.D code 668 .iaload 1 669 := ⟨by decide +kernel, rfl⟩
theorem d_law_669 : Own.D code 669 .iadd 1 670 := ⟨by decide +kernel, rfl⟩
theorem d_law_670 : Own.D code 670 (.aload 9) 2 672 := ⟨by decide +kernel, rfl⟩
theorem d_law_672 : Own.D code 672 (.iconst 2) 1 673 := ⟨by decide +kernel, rfl⟩
theorem d_law_673 : Own.D code 673 .iaload 1 674 := ⟨by decide +kernel, rfl⟩
theorem d_law_674 : Own.D code 674 (.invokestatic 51) 3 677 := ⟨by decide +kernel, rfl⟩
theorem d_law_677 : Own.D code 677 .iadd 1 678 := ⟨by decide +kernel, rfl⟩
theorem d_law_678 : Own.D code 678 (.aload 9) 2 680 := ⟨by decide +kernel, rfl⟩
theorem d_law_680 : Own.D code 680 (.iconst 3) 1 681 := ⟨by decide +kernel, rfl⟩
theorem d_law_681 : Own.D code 681 .iaload 1 682 := ⟨by decide +kernel, rfl⟩
theorem d_law_682 : Own.D code 682 .iadd 1 683 := ⟨by decide +kernel, rfl⟩
theorem d_law_683 : Own.D code 683 (.aload 9) 2 685 := ⟨by decide +kernel, rfl⟩
theorem d_law_685 : Own.D code 685 (.iconst 4) 1 686 := ⟨by decide +kernel, rfl⟩
theorem d_law_686 : Own.D code 686 .iaload 1 687 := ⟨by decide +kernel, rfl⟩
theorem d_law_687 : Own.D code 687 (.invokestatic 51) 3 690 := ⟨by decide +kernel, rfl⟩
theorem d_law_690 : Own.D code 690 .iadd 1 691 := ⟨by decide +kernel, rfl⟩
theorem d_law_691 : Own.D code 691 (.aload 9) 2 693 := ⟨by decide +kernel, rfl⟩
theorem d_law_693 : Own.D code 693 (.iconst 5) 1 694 := ⟨by decide +kernel, rfl⟩
theorem d_law_694 : Own.D code 694 .iaload 1 695 := ⟨by decide +kernel, rfl⟩
theorem d_law_695 : Own.D code 695 .iadd 1 696 := ⟨by decide +kernel, rfl⟩
theorem d_law_696 : Own.D code 696 (.aload 9) 2 698 := ⟨by decide +kernel, rfl⟩
theorem d_law_698 : Own.D code 698 (.bipush 6) 2 700 := ⟨by decide +kernel, rfl⟩
theorem d_law_700 : Own.D code 700 .iaload 1 701 := ⟨by decide +kernel, rfl⟩
theorem d_law_701 : Own.D code 701 (.invokestatic 51) 3 704 := ⟨by decide +kernel, rfl⟩
theorem d_law_704 : Own.D code 704 .iadd 1 705 := ⟨by decide +kernel, rfl⟩
theorem d_law_705 : Own.D code 705 (.aload 9) 2 707 := ⟨by decide +kernel, rfl⟩
theorem d_law_707 : Own.D code 707 (.bipush 7) 2 709 := ⟨by decide +kernel, rfl⟩
theorem d_law_709 : Own.D code 709 .iaload 1 710 := ⟨by decide +kernel, rfl⟩
theorem d_law_710 : Own.D code 710 .iadd 1 711 := ⟨by decide +kernel, rfl⟩
theorem d_law_711 : Own.D code 711 (.aload 9) 2 713 := ⟨by decide +kernel, rfl⟩
theorem d_law_713 : Own.D code 713 (.bipush 8) 2 715 := ⟨by decide +kernel, rfl⟩
theorem d_law_715 : Own.D code 715 .iaload 1 716 := ⟨by decide +kernel, rfl⟩
theorem d_law_716 : Own.D code 716 (.invokestatic 51) 3 719 := ⟨by decide +kernel, rfl⟩
theorem d_law_719 : Own.D code 719 .iadd 1 720 := ⟨by decide +kernel, rfl⟩
theorem d_law_720 : Own.D code 720 (.aload 9) 2 722 := ⟨by decide +kernel, rfl⟩
theorem d_law_722 : Own.D code 722 (.bipush 9) 2 724 := ⟨by decide +kernel, rfl⟩
theorem d_law_724 : Own.D code 724 .iaload 1 725 := ⟨by decide +kernel, rfl⟩
theorem d_law_725 : Own.D code 725 .iadd 1 726 := ⟨by decide +kernel, rfl⟩
theorem d_law_726 : Own.D code 726 (.aload 9) 2 728 := ⟨by decide +kernel, rfl⟩
theorem d_law_728 : Own.D code 728 (.bipush 10) 2 730 := ⟨by decide +kernel, rfl⟩
theorem d_law_730 : Own.D code 730 .iaload 1 731 := ⟨by decide +kernel, rfl⟩
theorem d_law_731 : Own.D code 731 (.invokestatic 51) 3 734 := ⟨by decide +kernel, rfl⟩
theorem d_law_734 : Own.D code 734 .iadd 1 735 := ⟨by decide +kernel, rfl⟩
theorem d_law_735 : Own.D code 735 (.aload 9) 2 737 := ⟨by decide +kernel, rfl⟩
theorem d_law_737 : Own.D code 737 (.bipush 11) 2 739 := ⟨by decide +kernel, rfl⟩
theorem d_law_739 : Own.D code 739 .iaload 1 740 := ⟨by decide +kernel, rfl⟩
theorem d_law_740 : Own.D code 740 .iadd 1 741 := ⟨by decide +kernel, rfl⟩
theorem d_law_741 : Own.D code 741 (.aload 9) 2 743 := ⟨by decide +kernel, rfl⟩
theorem d_law_743 : Own.D code 743 (.bipush 12) 2 745 := ⟨by decide +kernel, rfl⟩
theorem d_law_745 : Own.D code 745 .iaload 1 746 := ⟨by decide +kernel, rfl⟩
theorem d_law_746 : Own.D code 746 (.invokestatic 51) 3 749 := ⟨by decide +kernel, rfl⟩
theorem d_law_749 : Own.D code 749 .iadd 1 750 := ⟨by decide +kernel, rfl⟩
theorem d_law_750 : Own.D code 750 (.aload 9) 2 752 := ⟨by decide +kernel, rfl⟩
theorem d_law_752 : Own.D code 752 (.bipush 13) 2 754 := ⟨by decide +kernel, rfl⟩
theorem d_law_754 : Own.D code 754 .iaload 1 755 := ⟨by decide +kernel, rfl⟩
theorem d_law_755 : Own.D code 755 .iadd 1 756 := ⟨by decide +kernel, rfl⟩
theorem d_law_756 : Own.D code 756 (.istore 12) 2 758 := ⟨by decide +kernel, rfl⟩
theorem d_law_758 : Own.D code 758 (.bipush 10) 2 760 := ⟨by decide +kernel, rfl⟩
theorem d_law_760 : Own.D code 760 (.iload 12) 2 762 := ⟨by decide +kernel, rfl⟩
theorem d_law_762 : Own.D code 762 (.bipush 10) 2 764 := ⟨by decide +kernel, rfl⟩
theorem d_law_764 : Own.D code 764 .irem 1 765 := ⟨by decide +kernel, rfl⟩
theorem d_law_765 : Own.D code 765 .isub 1 766 := ⟨by decide +kernel, rfl⟩
theorem d_law_766 : Own.D code 766 (.bipush 10) 2 768 := ⟨by decide +kernel, rfl⟩
theorem d_law_768 : Own.D code 768 .irem 1 769 := ⟨by decide +kernel, rfl⟩
theorem d_law_769 : Own.D code 769 (.istore 13) 2 771 := ⟨by decide +kernel, rfl⟩
theorem d_law_771 : Own.D code 771 (.bipush 15) 2 773 := ⟨by decide +kernel, rfl⟩
theorem d_law_773 : Own.D code 773 (.newarray .char) 2 775 := ⟨by decide +kernel, rfl⟩
theorem d_law_775 : Own.D code 775 (.astore 14) 2 777 := ⟨by decide +kernel, rfl⟩
theorem d_law_777 : Own.D code 777 (.aload 14) 2 779 := ⟨by decide +kernel, rfl⟩
theorem d_law_779 : Own.D code 779 (.iconst 0) 1 780 := ⟨by decide +kernel, rfl⟩
theorem d_law_780 : Own.D code 780 (.bipush 48) 2 782 := ⟨by decide +kernel, rfl⟩
theorem d_law_782 : Own.D code 782 (.aload 9) 2 784 := ⟨by decide +kernel, rfl⟩
theorem d_law_784 : Own.D code 784 (.bipush 13) 2 786 := ⟨by decide +kernel, rfl⟩
theorem d_law_786 : Own.D code 786 .iaload 1 787 := ⟨by decide +kernel, rfl⟩
theorem d_law_787 : Own.D code 787 .iadd 1 788 := ⟨by decide +kernel, rfl⟩
theorem d_law_788 : Own.D code 788 .i2c 1 789 := ⟨by decide +kernel, rfl⟩
theorem d_law_789 : Own.D code 789 .castore 1 790 := ⟨by decide +kernel, rfl⟩
theorem d_law_790 : Own.D code 790 (.aload 14) 2 792 := ⟨by decide +kernel, rfl⟩
theorem d_law_792 : Own.D code 792 (.iconst 1) 1 793 := ⟨by decide +kernel, rfl⟩
theorem d_law_793 : Own.D code 793 (.bipush 48) 2 795 := ⟨by decide +kernel, rfl⟩
theorem d_law_795 : Own.D code 795 (.aload 9) 2 797 := ⟨by decide +kernel, rfl⟩
theorem d_law_797 : Own.D code 797 (.bipush 12) 2 799 := ⟨by decide +kernel, rfl⟩
theorem d_law_799 : Own.D code 799 .iaload 1 800 := ⟨by decide +kernel, rfl⟩
theorem d_law_800 : Own.D code 800 .iadd 1 801 := ⟨by decide +kernel, rfl⟩
theorem d_law_801 : Own.D code 801 .i2c 1 802 := ⟨by decide +kernel, rfl⟩
theorem d_law_802 : Own.D code 802 .castore 1 803 := ⟨by decide +kernel, rfl⟩
theorem d_law_803 : Own.D code 803 (.aload 14) 2 805 := ⟨by decide +kernel, rfl⟩
theorem d_law_805 : Own.D code 805 (.iconst 2) 1 806 := ⟨by decide +kernel, rfl⟩
theorem d_law_806 : Own.D code 806 (.bipush 48) 2 808 := ⟨by decide +kernel, rfl⟩
theorem d_law_808 : Own.D code 808 (.aload 9) 2 810 := ⟨by decide +kernel, rfl⟩
theorem d_law_810 : Own.D code 810 (.bipush 11) 2 812 := ⟨by decide +kernel, rfl⟩
theorem d_law_812 : Own.D code 812 .iaload 1 813 := ⟨by decide +kernel, rfl⟩
theorem d_law_813 : Own.D code 813 .iadd 1 814 := ⟨by decide +kernel, rfl⟩
theorem d_law_814 : Own.D code 814 .i2c 1 815 := ⟨by decide +kernel, rfl⟩
theorem d_law_815 : Own.D code 815 .castore 1 816 := ⟨by decide +kernel, rfl⟩
theorem d_law_816 : Own.D code 816 (.aload 14) 2 818 := ⟨by decide +kernel, rfl⟩
theorem d_law_818 : Own.D code 818 (.iconst 3) 1 819 := ⟨by decide +kernel, rfl⟩
theorem d_law_819 : Own.D code 819 (.bipush 48) 2 821 := ⟨by decide +kernel, rfl⟩
theorem d_law_821 : Own.D code 821 (.aload 9) 2 823 := ⟨by decide +kernel, rfl⟩
theorem d_law_823 : Own.D code 823 (.bipush 10) 2 825 := ⟨by decide +kernel, rfl⟩
theorem d_law_825 : Own.D code 825 .iaload 1 826 := ⟨by decide +kernel, rfl⟩
theorem d_law_826 : Own.D code 826 .iadd 1 827 := ⟨by decide +kernel, rfl⟩
theorem d_law_827 : Own.D code 827 .i2c 1 828 := ⟨by decide +kernel, rfl⟩
theorem d_law_828 : Own.D code 828 .castore 1 829 := ⟨by decide +kernel, rfl⟩
theorem d_law_829 : Own.D code 829 (.aload 14) 2 831 := ⟨by decide +kernel, rfl⟩
theorem d_law_831 : Own.D code 831 (.iconst 4) 1 832 := ⟨by decide +kernel, rfl⟩
theorem d_law_832 : Own.D code 832 (.bipush 48) 2 834 := ⟨by decide +kernel, rfl⟩
theorem d_law_834 : Own.D code 834 (.aload 9) 2 836 := ⟨by decide +kernel, rfl⟩
theorem d_law_836 : Own.D code 836 (.bipush 9) 2 838 := ⟨by decide +kernel, rfl⟩
theorem d_law_838 : Own.D code 838 .iaload 1 839 := ⟨by decide +kernel, rfl⟩
theorem d_law_839 : Own.D code 839 .iadd 1 840 := ⟨by decide +kernel, rfl⟩
theorem d_law_840 : Own.D code 840 .i2c 1 841 := ⟨by decide +kernel, rfl⟩
theorem d_law_841 : Own.D code 841 .castore 1 842 := ⟨by decide +kernel, rfl⟩
theorem d_law_842 : Own.D code 842 (.aload 14) 2 844 := ⟨by decide +kernel, rfl⟩
theorem d_law_844 : Own.D code 844 (.iconst 5) 1 845 := ⟨by decide +kernel, rfl⟩
theorem d_law_845 : Own.D code 845 (.bipush 48) 2 847 := ⟨by decide +kernel, rfl⟩
theorem d_law_847 : Own.D code 847 (.aload 9) 2 849 := ⟨by decide +kernel, rfl⟩
theorem d_law_849 : Own.D code 849 (.bipush 8) 2 851 := ⟨by decide +kernel, rfl⟩
theorem d_law_851 : Own.D code 851 .iaload 1 852 := ⟨by decide +kernel, rfl⟩
theorem d_law_852 : Own.D code 852 .iadd 1 853 := ⟨by decide +kernel, rfl⟩
theorem d_law_853 : Own.D code 853 .i2c 1 854 := ⟨by decide +kernel, rfl⟩
theorem d_law_854 : Own.D code 854 .castore 1 855 := ⟨by decide +kernel, rfl⟩
theorem d_law_855 : Own.D code 855 (.aload 14) 2 857 := ⟨by decide +kernel, rfl⟩
theorem d_law_857 : Own.D code 857 (.bipush 6) 2 859 := ⟨by decide +kernel, rfl⟩
theorem d_law_859 : Own.D code 859 (.bipush 48) 2 861 := ⟨by decide +kernel, rfl⟩
theorem d_law_861 : Own.D code 861 (.aload 9) 2 863 := ⟨by decide +kernel, rfl⟩
theorem d_law_863 : Own.D code 863 (.bipush 7) 2 865 := ⟨by decide +kernel, rfl⟩
theorem d_law_865 : Own.D code 865 .iaload 1 866 := ⟨by decide +kernel, rfl⟩
theorem d_law_866 : Own.D code 866 .iadd 1 867 := ⟨by decide +kernel, rfl⟩
theorem d_law_867 : Own.D code 867 .i2c 1 868 := ⟨by decide +kernel, rfl⟩
theorem d_law_868 : Own.D code 868 .castore 1 869 := ⟨by decide +kernel, rfl⟩
theorem d_law_869 : Own.D code 869 (.aload 14) 2 871 := ⟨by decide +kernel, rfl⟩
theorem d_law_871 : Own.D code 871 (.bipush 7) 2 873 := ⟨by decide +kernel, rfl⟩
theorem d_law_873 : Own.D code 873 (.bipush 48) 2 875 := ⟨by decide +kernel, rfl⟩
theorem d_law_875 : Own.D code 875 (.aload 9) 2 877 := ⟨by decide +kernel, rfl⟩
theorem d_law_877 : Own.D code 877 (.bipush 6) 2 879 := ⟨by decide +kernel, rfl⟩
theorem d_law_879 : Own.D code 879 .iaload 1 880 := ⟨by decide +kernel, rfl⟩
theorem d_law_880 : Own.D code 880 .iadd 1 881 := ⟨by decide +kernel, rfl⟩
theorem d_law_881 : Own.D code 881 .i2c 1 882 := ⟨by decide +kernel, rfl⟩
theorem d_law_882 : Own.D code 882 .castore 1 883 := ⟨by decide +kernel, rfl⟩
theorem d_law_883 : Own.D code 883 (.aload 14) 2 885 := ⟨by decide +kernel, rfl⟩
theorem d_law_885 : Own.D code 885 (.bipush 8) 2 887 := ⟨by decide +kernel, rfl⟩
theorem d_law_887 : Own.D code 887 (.bipush 48) 2 889 := ⟨by decide +kernel, rfl⟩
theorem d_law_889 : Own.D code 889 (.aload 9) 2 891 := ⟨by decide +kernel, rfl⟩
theorem d_law_891 : Own.D code 891 (.iconst 5) 1 892 := ⟨by decide +kernel, rfl⟩
theorem d_law_892 : Own.D code 892 .iaload 1 893 := ⟨by decide +kernel, rfl⟩
theorem d_law_893 : Own.D code 893 .iadd 1 894 := ⟨by decide +kernel, rfl⟩
theorem d_law_894 : Own.D code 894 .i2c 1 895 := ⟨by decide +kernel, rfl⟩
theorem d_law_895 : Own.D code 895 .castore 1 896 := ⟨by decide +kernel, rfl⟩
theorem d_law_896 : Own.D code 896 (.aload 14) 2 898 := ⟨by decide +kernel, rfl⟩
theorem d_law_898 : Own.D code 898 (.bipush 9) 2 900 := ⟨by decide +kernel, rfl⟩
theorem d_law_900 : Own.D code 900 (.bipush 48) 2 902 := ⟨by decide +kernel, rfl⟩
theorem d_law_902 : Own.D code 902 (.aload 9) 2 904 := ⟨by decide +kernel, rfl⟩
theorem d_law_904 : Own.D code 904 (.iconst 4) 1 905 := ⟨by decide +kernel, rfl⟩
theorem d_law_905 : Own.D code 905 .iaload 1 906 := ⟨by decide +kernel, rfl⟩
theorem d_law_906 : Own.D code 906 .iadd 1 907 := ⟨by decide +kernel, rfl⟩
theorem d_law_907 : Own.D code 907 .i2c 1 908 := ⟨by decide +kernel, rfl⟩
theorem d_law_908 : Own.D code 908 .castore 1 909 := ⟨by decide +kernel, rfl⟩
theorem d_law_909 : Own.D code 909 (.aload 14) 2 911 := ⟨by decide +kernel, rfl⟩
theorem d_law_911 : Own.D code 911 (.bipush 10) 2 913 := ⟨by decide +kernel, rfl⟩
theorem d_law_913 : Own.D code 913 (.bipush 48) 2 915 := ⟨by decide +kernel, rfl⟩
theorem d_law_915 : Own.D code 915 (.aload 9) 2 917 := ⟨by decide +kernel, rfl⟩
theorem d_law_917 : Own.D code 917 (.iconst 3) 1 918 := ⟨by decide +kernel, rfl⟩
theorem d_law_918 : Own.D code 918 .iaload 1 919 := ⟨by decide +kernel, rfl⟩
theorem d_law_919 : Own.D code 919 .iadd 1 920 := ⟨by decide +kernel, rfl⟩
theorem d_law_920 : Own.D code 920 .i2c 1 921 := ⟨by decide +kernel, rfl⟩
theorem d_law_921 : Own.D code 921 .castore 1 922 := ⟨by decide +kernel, rfl⟩
theorem d_law_922 : Own.D code 922 (.aload 14) 2 924 := ⟨by decide +kernel, rfl⟩
theorem d_law_924 : Own.D code 924 (.bipush 11) 2 926 := ⟨by decide +kernel, rfl⟩
theorem d_law_926 : Own.D code 926 (.bipush 48) 2 928 := ⟨by decide +kernel, rfl⟩
theorem d_law_928 : Own.D code 928 (.aload 9) 2 930 := ⟨by decide +kernel, rfl⟩
theorem d_law_930 : Own.D code 930 (.iconst 2) 1 931 := ⟨by decide +kernel, rfl⟩
theorem d_law_931 : Own.D code 931 .iaload 1 932 := ⟨by decide +kernel, rfl⟩
theorem d_law_932 : Own.D code 932 .iadd 1 933 := ⟨by decide +kernel, rfl⟩
theorem d_law_933 : Own.D code 933 .i2c 1 934 := ⟨by decide +kernel, rfl⟩
theorem d_law_934 : Own.D code 934 .castore 1 935 := ⟨by decide +kernel, rfl⟩
theorem d_law_935 : Own.D code 935 (.aload 14) 2 937 := ⟨by decide +kernel, rfl⟩
theorem d_law_937 : Own.D code 937 (.bipush 12) 2 939 := ⟨by decide +kernel, rfl⟩
theorem d_law_939 : Own.D code 939 (.bipush 48) 2 941 := ⟨by decide +kernel, rfl⟩
theorem d_law_941 : Own.D code 941 (.aload 9) 2 943 := ⟨by decide +kernel, rfl⟩
theorem d_law_943 : Own.D code 943 (.iconst 1) 1 944 := ⟨by decide +kernel, rfl⟩
theorem d_law_944 : Own.D code 944 .iaload 1 945 := ⟨by decide +kernel, rfl⟩
theorem d_law_945 : Own.D code 945 .iadd 1 946 := ⟨by decide +kernel, rfl⟩
theorem d_law_946 : Own.D code 946 .i2c 1 947 := ⟨by decide +kernel, rfl⟩
theorem d_law_947 : Own.D code 947 .castore 1 948 := ⟨by decide +kernel, rfl⟩
theorem d_law_948 : Own.D code 948 (.aload 14) 2 950 := ⟨by decide +kernel, rfl⟩
theorem d_law_950 : Own.D code 950 (.bipush 13) 2 952 := ⟨by decide +kernel, rfl⟩
theorem d_law_952 : Own.D code 952 (.bipush 48) 2 954 := ⟨by decide +kernel, rfl⟩
theorem d_law_954 : Own.D code 954 (.aload 9) 2 956 := ⟨by decide +kernel, rfl⟩
theorem d_law_956 : Own.D code 956 (.iconst 0) 1 957 := ⟨by decide +kernel, rfl⟩
theorem d_law_957 : Own.D code 957 .iaload 1 958 := ⟨by decide +kernel, rfl⟩
theorem d_law_958 : Own.D code 958 .iadd 1 959 := ⟨by decide +kernel, rfl⟩
theorem d_law_959 : Own.D code 959 .i2c 1 960 := ⟨by decide +kernel, rfl⟩
theorem d_law_960 : Own.D code 960 .castore 1 961 := ⟨by decide +kernel, rfl⟩
theorem d_law_961 : Own.D code 961 (.aload 14) 2 963 := ⟨by decide +kernel, rfl⟩
theorem d_law_963 : Own.D code 963 (.bipush 14) 2 965 := ⟨by decide +kernel, rfl⟩
theorem d_law_965 : Own.D code 965 (.bipush 48) 2 967 := ⟨by decide +kernel, rfl⟩
theorem d_law_967 : Own.D code 967 (.iload 13) 2 969 := ⟨by decide +kernel, rfl⟩
theorem d_law_969 : Own.D code 969 .iadd 1 970 := ⟨by decide +kernel, rfl⟩
theorem d_law_970 : Own.D code 970 .i2c 1 971 := ⟨by decide +kernel, rfl⟩
theorem d_law_971 : Own.D code 971 .castore 1 972 := ⟨by decide +kernel, rfl⟩
theorem d_law_972 : Own.D code 972 (.aload 11) 2 974 := ⟨by decide +kernel, rfl⟩
theorem d_law_974 : Own.D code 974 (.invokestatic 55) 3 977 := ⟨by decide +kernel, rfl⟩
theorem d_law_977 : Own.D code 977 (.invokevirtual 61) 3 980 := ⟨by decide +kernel, rfl⟩
theorem d_law_980 : Own.D code 980 (.astore 15) 2 982 := ⟨by decide +kernel, rfl⟩
theorem d_law_982 : Own.D code 982 (.aload 15) 2 984 := ⟨by decide +kernel, rfl⟩
theorem d_law_984 : Own.D code 984 (.new 46) 3 987 := ⟨by decide +kernel, rfl⟩
theorem d_law_987 : Own.D code 987 .dup 1 988 := ⟨by decide +kernel, rfl⟩
theorem d_law_988 : Own.D code 988 (.aload 14) 2 990 := ⟨by decide +kernel, rfl⟩
theorem d_law_990 : Own.D code 990 (.invokespecial 48) 3 993 := ⟨by decide +kernel, rfl⟩
theorem d_law_993 : Own.D code 993 (.invokevirtual 65) 3 996 := ⟨by decide +kernel, rfl⟩
theorem d_law_996 : Own.D code 996 .ireturn 1 997 := ⟨by decide +kernel, rfl⟩
theorem d_law_623 : Own.D code 623 (.iload 4) 2 625 := ⟨by decide +kernel, rfl⟩
theorem d_law_625 : Own.D code 625 (.bipush 13) 2 627 := ⟨by decide +kernel, rfl⟩
theorem d_law_627 : Own.J code 627 (.if_icmp .le 20) 3 630 20 647 := ⟨by decide +kernel, rfl, by decide, by decide⟩
theorem d_law_630 : Own.D code 630 (.aload 10) 2 632 := ⟨by decide +kernel, rfl⟩
theorem d_law_632 : Own.D code 632 (.iload 4) 2 634 := ⟨by decide +kernel, rfl⟩
theorem d_law_634 : Own.D code 634 (.bipush 14) 2 636 := ⟨by decide +kernel, rfl⟩
theorem d_law_636 : Own.D code 636 .isub 1 637 := ⟨by decide +kernel, rfl⟩
theorem d_law_637 : Own.D code 637 (.bipush 48) 2 639 := ⟨by decide +kernel, rfl⟩
theorem d_law_639 : Own.D code 639 (.aload 9) 2 641 := ⟨by decide +kernel, rfl⟩
theorem d_law_641 : Own.D code 641 (.bipush 13) 2 643 := ⟨by decide +kernel, rfl⟩
theorem d_law_643 : Own.D code 643 .iaload 1 644 := ⟨by decide +kernel, rfl⟩
theorem d_law_644 : Own.D code 644 .iadd 1 645 := ⟨by decide +kernel, rfl⟩
theorem d_law_645 : Own.D code 645 .i2c 1 646 := ⟨by decide +kernel, rfl⟩
theorem d_law_646 : Own.D code 646 .castore 1 647 := ⟨by decide +kernel, rfl⟩
theorem d_law_599 : Own.D code 599 (.iload 4) 2 601 := ⟨by decide +kernel, rfl⟩
theorem d_law_601 : Own.D code 601 (.bipush 12) 2 603 := ⟨by decide +kernel, rfl⟩
theorem d_law_603 : Own.J code 603 (.if_icmp .le 20) 3 606 20 623 := ⟨by decide +kernel, rfl, by decide, by decide⟩
theorem d_law_606 : Own.D code 606 (.aload 10) 2 608 := ⟨by decide +kernel, rfl⟩
theorem d_law_608 : Own.D code 608 (.iload 4) 2 610 := ⟨by decide +kernel, rfl⟩
theorem d_law_610 : Own.D code 610 (.bipush 13) 2 612 := ⟨by decide +kernel, rfl⟩
theorem d_law_612 : Own.D code 612 .isub 1 613 := ⟨by decide +kernel, rfl⟩
theorem d_law_613 : Own.D code 613 (.bipush 48) 2 615 := ⟨by decide +kernel, rfl⟩
theorem d_law_615 : Own.D code 615 (.aload 9) 2 617 := ⟨by decide +kernel, rfl⟩
theorem d_law_617 : Own.D code 617 (.bipush 12) 2 619 := ⟨by decide +kernel, rfl⟩
theorem d_law_619 : Own.D code 619 .iaload 1 620 := ⟨by decide +kernel, rfl⟩
theorem d_law_620 : Own.D code 620 .iadd 1 621 := ⟨by decide +kernel, rfl⟩
theorem d_law_621 : Own.D code 621 .i2c 1 622 := ⟨by decide +kernel, rfl⟩
theorem d_law_622 : Own.D code 622 .castore 1 623 := ⟨by decide +kernel, rfl⟩
theorem d_law_575 : Own.D code 575 (.iload 4) 2 577 := ⟨by decide +kernel, rfl⟩
theorem d_law_577 : Own.D code 577 (.bipush 11) 2 579 := ⟨by decide +kernel, rfl⟩
theorem d_law_579 : Own.J code 579 (.if_icmp .le 20) 3 582 20 599 := ⟨by decide +kernel, rfl, by decide, by decide⟩
theorem d_law_582 : Own.D code 582 (.aload 10) 2 584 := ⟨by decide +kernel, rfl⟩
theorem d_law_584 : Own.D code 584 (.iload 4) 2 586 := ⟨by decide +kernel, rfl⟩
theorem d_law_586 : Own.D code 586 (.bipush 12) 2 588 := ⟨by decide +kernel, rfl⟩
theorem d_law_588 : Own.D code 588 .isub 1 589 := ⟨by decide +kernel, rfl⟩
theorem d_law_589 : Own.D code 589 (.bipush 48) 2 591 := ⟨by decide +kernel, rfl⟩
theorem d_law_591 : Own.D code 591 (.aload 9) 2 593 := ⟨by decide +kernel, rfl⟩
theorem d_law_593 : Own.D code 593 (.bipush 11) 2 595 := ⟨by decide +kernel, rfl⟩
theorem d_law_595 : Own.D code 595 .iaload 1 596 := ⟨by decide +kernel, rfl⟩
theorem d_law_596 : Own.D code 596 .iadd 1 597 := ⟨by decide +kernel, rfl⟩
theorem d_law_597 : Own.D code 597 .i2c 1 598 := ⟨by decide +kernel, rfl⟩
theorem d_law_598 : Own.D code 598 .castore 1 599 := ⟨by decide +kernel, rfl⟩
theorem d_law_551 : Own.D code 551 (.iload 4) 2 553 := ⟨by decide +kernel, rfl⟩
theorem d_law_553 : Own.D code 553 (.bipush 10) 2 555 := ⟨by decide +kernel, rfl⟩
theorem d_law_555 : Own.J code 555 (.if_icmp .le 20) 3 558 20 575 := ⟨by decide +kernel, rfl, by decide, by decide⟩
theorem d_law_558 : Own.D code 558 (.aload 10) 2 560 := ⟨by decide +kernel, rfl⟩
theorem d_law_560 : Own.D code 560 (.iload 4) 2 562 := ⟨by decide +kernel, rfl⟩
theorem d_law_562 : Own.D code 562 (.bipush 11) 2 564 := ⟨by decide +kernel, rfl⟩
theorem d_law_564 : Own.D code 564 .isub 1 565 := ⟨by decide +kernel, rfl⟩
theorem d_law_565 : Own.D code 565 (.bipush 48) 2 567 := ⟨by decide +kernel, rfl⟩
theorem d_law_567 : Own.D code 567 (.aload 9) 2 569 := ⟨by decide +kernel, rfl⟩
theorem d_law_569 : Own.D code 569 (.bipush 10) 2 571 := ⟨by decide +kernel, rfl⟩
theorem d_law_571 : Own.D code 571 .iaload 1 572 := ⟨by decide +kernel, rfl⟩
theorem d_law_572 : Own.D code 572 .iadd 1 573 := ⟨by decide +kernel, rfl⟩
theorem d_law_573 : Own.D code 573 .i2c 1 574 := ⟨by decide +kernel, rfl⟩
theorem d_law_574 : Own.D code 574 .castore 1 575 := ⟨by decide +kernel, rfl⟩
theorem d_law_527 : Own.D code 527 (.iload 4) 2 529 := ⟨by decide +kernel, rfl⟩
theorem d_law_529 : Own.D code 529 (.bipush 9) 2 531 := ⟨by decide +kernel, rfl⟩
theorem d_law_531 : Own.J code 531 (.if_icmp .le 20) 3 534 20 551 := ⟨by decide +kernel, rfl, by decide, by decide⟩
theorem d_law_534 : Own.D code 534 (.aload 10) 2 536 := ⟨by decide +kernel, rfl⟩
theorem d_law_536 : Own.D code 536 (.iload 4) 2 538 := ⟨by decide +kernel, rfl⟩
theorem d_law_538 : Own.D code 538 (.bipush 10) 2 540 := ⟨by decide +kernel, rfl⟩
theorem d_law_540 : Own.D code 540 .isub 1 541 := ⟨by decide +kernel, rfl⟩
theorem d_law_541 : Own.D code 541 (.bipush 48) 2 543 := ⟨by decide +kernel, rfl⟩
theorem d_law_543 : Own.D code 543 (.aload 9) 2 545 := ⟨by decide +kernel, rfl⟩
theorem d_law_545 : Own.D code 545 (.bipush 9) 2 547 := ⟨by decide +kernel, rfl⟩
theorem d_law_547 : Own.D code 547 .iaload 1 548 := ⟨by decide +kernel, rfl⟩
theorem d_law_548 : Own.D code 548 .iadd 1 549 := ⟨by decide +kernel, rfl⟩
theorem d_law_549 : Own.D code 549 .i2c 1 550 := ⟨by decide +kernel, rfl⟩
theorem d_law_550 : Own.D code 550 .castore 1 551 := ⟨by decide +kernel, rfl⟩
theorem d_law_503 : Own.D code 503 (.iload 4) 2 505 := ⟨by decide +kernel, rfl⟩
theorem d_law_505 : Own.D code 505 (.bipush 8) 2 507 := ⟨by decide +kernel, rfl⟩
theorem d_law_507 : Own.J code 507 (.if_icmp .le 20) 3 510 20 527 := ⟨by decide +kernel, rfl, by decide, by decide⟩
theorem d_law_510 : Own.D code 510 (.aload 10) 2 512 := ⟨by decide +kernel, rfl⟩
theorem d_law_512 : Own.D code 512 (.iload 4) 2 514 := ⟨by decide +kernel, rfl⟩
theorem d_law_514 : Own.D code 514 (.bipush 9) 2 516 := ⟨by decide +kernel, rfl⟩
theorem d_law_516 : Own.D code 516 .isub 1 517 := ⟨by decide +kernel, rfl⟩
theorem d_law_517 : Own.D code 517 (.bipush 48) 2 519 := ⟨by decide +kernel, rfl⟩
theorem d_law_519 : Own.D code 519 (.aload 9) 2 521 := ⟨by decide +kernel, rfl⟩
theorem d_law_521 : Own.D code 521 (.bipush 8) 2 523 := ⟨by decide +kernel, rfl⟩
theorem d_law_523 : Own.D code 523 .iaload 1 524 := ⟨by decide +kernel, rfl⟩
theorem d_law_524 : Own.D code 524 .iadd 1 525 := ⟨by decide +kernel, rfl⟩
theorem d_law_525 : Own.D code 525 .i2c 1 526 := ⟨by decide +kernel, rfl⟩
theorem d_law_526 : Own.D code 526 .castore 1 527 := ⟨by decide +kernel, rfl⟩
theorem d_law_479 : Own.D code 479 (.iload 4) 2 481 := ⟨by decide +kernel, rfl⟩
theorem d_law_481 : Own.D code 481 (.bipush 7) 2 483 := ⟨by decide +kernel, rfl⟩
theorem d_law_483 : Own.J code 483 (.if_icmp .le 20) 3 486 20 503 := ⟨by decide +kernel, rfl, by decide, by decide⟩
theorem d_law_486 : Own.D code 486 (.aload 10) 2 488 := ⟨by decide +kernel, rfl⟩
theorem d_law_488 : Own.D code 488 (.iload 4) 2 490 := ⟨by decide +kernel, rfl⟩
theorem d_law_490 : Own.D code 490 (.bipush 8) 2 492 := ⟨by decide +kernel, rfl⟩
theorem d_law_492 : Own.D code 492 .isub 1 493 := ⟨by decide +kernel, rfl⟩
theorem d_law_493 : Own.D code 493 (.bipush 48) 2 495 := ⟨by decide +kernel, rfl⟩
theorem d_law_495 : Own.D code 495 (.aload 9) 2 497 := ⟨by decide +kernel, rfl⟩
theorem d_law_497 : Own.D code 497 (.bipush 7) 2 499 := ⟨by decide +kernel, rfl⟩
theorem d_law_499 : Own.D code 499 .iaload 1 500 := ⟨by decide +kernel, rfl⟩
theorem d_law_500 : Own.D code 500 .iadd 1 501 := ⟨by decide +kernel, rfl⟩
theorem d_law_501 : Own.D code 501 .i2c 1 502 := ⟨by decide +kernel, rfl⟩
theorem d_law_502 : Own.D code 502 .castore 1 503 := ⟨by decide +kernel, rfl⟩
theorem d_law_455 : Own.D code 455 (.iload 4) 2 457 := ⟨by decide +kernel, rfl⟩
theorem d_law_457 : Own.D code 457 (.bipush 6) 2 459 := ⟨by decide +kernel, rfl⟩
theorem d_law_459 : Own.J code 459 (.if_icmp .le 20) 3 462 20 479 := ⟨by decide +kernel, rfl, by decide, by decide⟩
theorem d_law_462 : Own.D code 462 (.aload 10) 2 464 := ⟨by decide +kernel, rfl⟩
theorem d_law_464 : Own.D code 464 (.iload 4) 2 466 := ⟨by decide +kernel, rfl⟩
theorem d_law_466 : Own.D code 466 (.bipush 7) 2 468 := ⟨by decide +kernel, rfl⟩
theorem d_law_468 : Own.D code 468 .isub 1 469 := ⟨by decide +kernel, rfl⟩
theorem d_law_469 : Own.D code 469 (.bipush 48) 2 471 := ⟨by decide +kernel, rfl⟩
theorem d_law_471 : Own.D code 471 (.aload 9) 2 473 := ⟨by decide +kernel, rfl⟩
theorem d_law_473 : Own.D code 473 (.bipush 6) 2 475 := ⟨by decide +kernel, rfl⟩
theorem d_law_475 : Own.D code 475 .iaload 1 476 := ⟨by decide +kernel, rfl⟩
theorem d_law_476 : Own.D code 476 .iadd 1 477 := ⟨by decide +kernel, rfl⟩
theorem d_law_477 : Own.D code 477 .i2c 1 478 := ⟨by decide +kernel, rfl⟩
theorem d_law_478 : Own.D code 478 .castore 1 479 := ⟨by decide +kernel, rfl⟩
theorem d_law_433 : Own.D code 433 (.iload 4) 2 435 := ⟨by decide +kernel, rfl⟩
theorem d_law_435 : Own.D code 435 (.iconst 5) 1 436 := ⟨by decide +kernel, rfl⟩
theorem d_law_436 : Own.J code 436 (.if_icmp .le 19) 3 439 19 455 := ⟨by decide +kernel, rfl, by decide, by decide⟩
theorem d_law_439 : Own.D code 439 (.aload 10) 2 441 := ⟨by decide +kernel, rfl⟩
theorem d_law_441 : Own.D code 441 (.iload 4) 2 443 := ⟨by decide +kernel, rfl⟩
theorem d_law_443 : Own.D code 443 (.bipush 6) 2 445 := ⟨by decide +kernel, rfl⟩
theorem d_law_445 : Own.D code 445 .isub 1 446 := ⟨by decide +kernel, rfl⟩
theorem d_law_446 : Own.D code 446 (.bipush 48) 2 448 := ⟨by decide +kernel, rfl⟩
theorem d_law_448 : Own.D code 448 (.aload 9) 2 450 := ⟨by decide +kernel, rfl⟩
theorem d_law_450 : Own.D code 450 (.iconst 5) 1 451 := ⟨by decide +kernel, rfl⟩
theorem d_law_451 : Own.D code 451 .iaload 1 452 := ⟨by decide +kernel, rfl⟩
theorem d_law_452 : Own.D code 452 .iadd 1 453 := ⟨by decide +kernel, rfl⟩
theorem d_law_453 : Own.D code 453 .i2c 1 454 := ⟨by decide +kernel, rfl⟩
theorem d_law_454 : Own.D code 454 .castore 1 455 := ⟨by decide +kernel, rfl⟩
theorem d_law_412 : Own.D code 412 (.iload 4) 2 414 := ⟨by decide +kernel, rfl⟩
theorem d_law_414 : Own.D code 414 (.iconst 4) 1 415 := ⟨by decide +kernel, rfl⟩
theorem d_law_415 : Own.J code 415 (.if_icmp .le 18) 3 418 18 433 := ⟨by decide +kernel, rfl, by decide, by decide⟩
theorem d_law_418 : Own.D code 418 (.aload 10) 2 420 := ⟨by decide +kernel, rfl⟩
theorem d_law_420 : Own.D code 420 (.iload 4) 2 422 := ⟨by decide +kernel, rfl⟩
theorem d_law_422 : Own.D code 422 (.iconst 5) 1 423 := ⟨by decide +kernel, rfl⟩
theorem d_law_423 : Own.D code 423 .isub 1 424 := ⟨by decide +kernel, rfl⟩
theorem d_law_424 : Own.D code 424 (.bipush 48) 2 426 := ⟨by decide +kernel, rfl⟩
theorem d_law_426 : Own.D code 426 (.aload 9) 2 428 := ⟨by decide +kernel, rfl⟩
theorem d_law_428 : Own.D code 428 (.iconst 4) 1 429 := ⟨by decide +kernel, rfl⟩
theorem d_law_429 : Own.D code 429 .iaload 1 430 := ⟨by decide +kernel, rfl⟩
theorem d_law_430 : Own.D code 430 .iadd 1 431 := ⟨by decide +kernel, rfl⟩
theorem d_law_431 : Own.D code 431 .i2c 1 432 := ⟨by decide +kernel, rfl⟩
theorem d_law_432 : Own.D code 432 .castore 1 433 := ⟨by decide +kernel, rfl⟩
theorem d_law_391 : Own.D code 391 (.iload 4) 2 393 := ⟨by decide +kernel, rfl⟩
theorem d_law_393 : Own.D code 393 (.iconst 3) 1 394 := ⟨by decide +kernel, rfl⟩
theorem d_law_394 : Own.J code 394 (.if_icmp .le 18) 3 397 18 412 := ⟨by decide +kernel, rfl, by decide, by decide⟩
theorem d_law_397 : Own.D code 397 (.aload 10) 2 399 := ⟨by decide +kernel, rfl⟩
theorem d_law_399 : Own.D code 399 (.iload 4) 2 401 := ⟨by decide +kernel, rfl⟩
theorem d_law_401 : Own.D code 401 (.iconst 4) 1 402 := ⟨by decide +kernel, rfl⟩
theorem d_law_402 : Own.D code 402 .isub 1 403 := ⟨by decide +kernel, rfl⟩
theorem d_law_403 : Own.D code 403 (.bipush 48) 2 405 := ⟨by decide +kernel, rfl⟩
theorem d_law_405 : Own.D code 405 (.aload 9) 2 407 := ⟨by decide +kernel, rfl⟩
theorem d_law_407 : Own.D code 407 (.iconst 3) 1 408 := ⟨by decide +kernel, rfl⟩
theorem d_law_408 : Own.D code 408 .iaload 1 409 := ⟨by decide +kernel, rfl⟩
theorem d_law_409 : Own.D code 409 .iadd 1 410 := ⟨by decide +kernel, rfl⟩
theorem d_law_410 : Own.D code 410 .i2c 1 411 := ⟨by decide +kernel, rfl⟩
theorem d_law_411 : Own.D code 411 .castore 1 412 := ⟨by decide +kernel, rfl⟩
theorem d_law_370 : Own.D code 370 (.iload 4) 2 372 := ⟨by decide +kernel, rfl⟩
theorem d_law_372 : Own.D code 372 (.iconst 2) 1 373 := ⟨by decide +kernel, rfl⟩
theorem d_law_373 : Own.J code 373 (.if_icmp .le 18) 3 376 18 391 := ⟨by decide +kernel, rfl, by decide, by decide⟩
theorem d_law_376 : Own.D code 376 (.aload 10) 2 378 := ⟨by decide +kernel, rfl⟩
theorem d_law_378 : Own.D code 378 (.iload 4) 2 380 := ⟨by decide +kernel, rfl⟩
theorem d_law_380 : Own.D code 380 (.iconst 3) 1 381 := ⟨by decide +kernel, rfl⟩
theorem d_law_381 : Own.D code 381 .isub 1 382 := ⟨by decide +kernel, rfl⟩
theorem d_law_382 : Own.D code 382 (.bipush 48) 2 384 := ⟨by decide +kernel, rfl⟩
theorem d_law_384 : Own.D code 384 (.aload 9) 2 386 := ⟨by decide +kernel, rfl⟩
theorem d_law_386 : Own.D code 386 (.iconst 2) 1 387 := ⟨by decide +kernel, rfl⟩
theorem d_law_387 : Own.D code 387 .iaload 1 388 := ⟨by decide +kernel, rfl⟩
theorem d_law_388 : Own.D code 388 .iadd 1 389 := ⟨by decide +kernel, rfl⟩
theorem d_law_389 : Own.D code 389 .i2c 1 390 := ⟨by decide +kernel, rfl⟩
theorem d_law_390 : Own.D code 390 .castore 1 391 := ⟨by decide +kernel, rfl⟩
theorem d_law_349 : Own.D code 349 (.iload 4) 2 351 := ⟨by decide +kernel, rfl⟩
theorem d_law_351 : Own.D code 351 (.iconst 1) 1 352 := ⟨by decide +kernel, rfl⟩
theorem d_law_352 : Own.J code 352 (.if_icmp .le 18) 3 355 18 370 := ⟨by decide +kernel, rfl, by decide, by decide⟩
theorem d_law_355 : Own.D code 355 (.aload 10) 2 357 := ⟨by decide +kernel, rfl⟩
theorem d_law_357 : Own.D code 357 (.iload 4) 2 359 := ⟨by decide +kernel, rfl⟩
theorem d_law_359 : Own.D code 359 (.iconst 2) 1 360 := ⟨by decide +kernel, rfl⟩
theorem d_law_360 : Own.D code 360 .isub 1 361 := ⟨by decide +kernel, rfl⟩
theorem d_law_361 : Own.D code 361 (.bipush 48) 2 363 := ⟨by decide +kernel, rfl⟩
theorem d_law_363 : Own.D code 363 (.aload 9) 2 365 := ⟨by decide +kernel, rfl⟩
theorem d_law_365 : Own.D code 365 (.iconst 1) 1 366 := ⟨by decide +kernel, rfl⟩
theorem d_law_366 : Own.D code 366 .iaload 1 367 := ⟨by decide +kernel, rfl⟩
theorem d_law_367 : Own.D code 367 .iadd 1 368 := ⟨by decide +kernel, rfl⟩
theorem d_law_368 : Own.D code 368 .i2c 1 369 := ⟨by decide +kernel, rfl⟩
theorem d_law_369 : Own.D code 369 .castore 1 370 := ⟨by decide +kernel, rfl⟩
theorem d_law_334 : Own.D code 334 (.aload 10) 2 336 := ⟨by decide +kernel, rfl⟩
theorem d_law_336 : Own.D code 336 (.iload 4) 2 338 := ⟨by decide +kernel, rfl⟩
theorem d_law_338 : Own.D code 338 (.iconst 1) 1 339 := ⟨by decide +kernel, rfl⟩
theorem d_law_339 : Own.D code 339 .isub 1 340 := ⟨by decide +kernel, rfl⟩
theorem d_law_340 : Own.D code 340 (.bipush 48) 2 342 := ⟨by decide +kernel, rfl⟩
theorem d_law_342 : Own.D code 342 (.aload 9) 2 344 := ⟨by decide +kernel, rfl⟩
theorem d_law_344 : Own.D code 344 (.iconst 0) 1 345 := ⟨by decide +kernel, rfl⟩
theorem d_law_345 : Own.D code 345 .iaload 1 346 := ⟨by decide +kernel, rfl⟩
theorem d_law_346 : Own.D code 346 .iadd 1 347 := ⟨by decide +kernel, rfl⟩
theorem d_law_347 : Own.D code 347 .i2c 1 348 := ⟨by decide +kernel, rfl⟩
theorem d_law_348 : Own.D code 348 .castore 1 349 := ⟨by decide +kernel, rfl⟩
theorem d_law_328 : Own.D code 328 (.iload 4) 2 330 := ⟨by decide +kernel, rfl⟩
theorem d_law_330 : Own.D code 330 (.newarray .char) 2 332 := ⟨by decide +kernel, rfl⟩
theorem d_law_332 : Own.D code 332 (.astore 10) 2 334 := ⟨by decide +kernel, rfl⟩
theorem d_law_136 : Own.D code 136 (.lstore 7) 2 138 := ⟨by decide +kernel, rfl⟩
theorem d_law_138 : Own.D code 138 (.bipush 14) 2 140 := ⟨by decide +kernel, rfl⟩
theorem d_law_140 : Own.D code 140 (.newarray .int) 2 142 := ⟨by decide +kernel, rfl⟩
theorem d_law_142 : Own.D code 142 (.astore 9) 2 144 := ⟨by decide +kernel, rfl⟩
theorem d_law_144 : Own.D code 144 (.aload 9) 2 146 := ⟨by decide +kernel, rfl⟩
theorem d_law_146 : Own.D code 146 (.iconst 0) 1 147 := ⟨by decide +kernel, rfl⟩
theorem d_law_147 : Own.D code 147 (.lload 7) 2 149 := ⟨by decide +kernel, rfl⟩
theorem d_law_149 : Own.D code 149 (.aload_n 3) 1 150 := ⟨by decide +kernel, rfl⟩
theorem d_law_150 : Own.D code 150 (.iconst 0) 1 151 := ⟨by decide +kernel, rfl⟩
theorem d_law_151 : Own.D code 151 .laload 1 152 := ⟨by decide +kernel, rfl⟩
theorem d_law_152 : Own.D code 152 (.invokestatic 40) 3 155 := ⟨by decide +kernel, rfl⟩
theorem d_law_155 : Own.D code 155 .iastore 1 156 := ⟨by decide +kernel, rfl⟩
theorem d_law_156 : Own.D code 156 (.aload 9) 2 158 := ⟨by decide +kernel, rfl⟩
theorem d_law_158 : Own.D code 158 (.iconst 1) 1 159 := ⟨by decide +kernel, rfl⟩
theorem d_law_159 : Own.D code 159 (.lload 7) 2 161 := ⟨by decide +kernel, rfl⟩
theorem d_law_161 : Own.D code 161 (.aload_n 3) 1 162 := ⟨by decide +kernel, rfl⟩
theorem d_law_162 : Own.D code 162 (.iconst 1) 1 163 := ⟨by decide +kernel, rfl⟩
theorem d_law_163 : Own.D code 163 .laload 1 164 := ⟨by decide +kernel, rfl⟩
theorem d_law_164 : Own.D code 164 (.invokestatic 40) 3 167 := ⟨by decide +kernel, rfl⟩
theorem d_law_167 : Own.D code 167 .iastore 1 168 := ⟨by decide +kernel, rfl⟩
theorem d_law_168 : Own.D code 168 (.aload 9) 2 170 := ⟨by decide +kernel, rfl⟩
theorem d_law_170 : Own.D code 170 (.iconst 2) 1 171 := ⟨by decide +kernel, rfl⟩
theorem d_law_171 : Own.D code 171 (.lload 7) 2 173 := ⟨by decide +kernel, rfl⟩
theorem d_law_173 : Own.D code 173 (.aload_n 3) 1 174 := ⟨by decide +kernel, rfl⟩
theorem d_law_174 : Own.D code 174 (.iconst 2) 1 175 := ⟨by decide +kernel, rfl⟩
theorem d_law_175 : Own.D code 175 .laload 1 176 := ⟨by decide +kernel, rfl⟩
theorem d_law_176 : Own.D code 176 (.invokestatic 40) 3 179 := ⟨by decide +kernel, rfl⟩
theorem d_law_179 : Own.D code 179 .iastore 1 180 := ⟨by decide +kernel, rfl⟩
theorem d_law_180 : Own.D code 180 (.aload 9) 2 182 := ⟨by decide +kernel, rfl⟩
theorem d_law_182 : Own.D code 182 (.iconst 3) 1 183 := ⟨by decide +kernel, rfl⟩
theorem d_law_183 : Own.D code 183 (.lload 7) 2 185 := ⟨by decide +kernel, rfl⟩
theorem d_law_185 : Own.D code 185 (.aload_n 3) 1 186 := ⟨by decide +kernel, rfl⟩
theorem d_law_186 : Own.D code 186 (.iconst 3) 1 187 := ⟨by decide +kernel, rfl⟩
theorem d_law_187 : Own.D code 187 .laload 1 188 := ⟨by decide +kernel, rfl⟩
theorem d_law_188 : Own.D code 188 (.invokestatic 40) 3 191 := ⟨by decide +kernel, rfl⟩
theorem d_law_191 : Own.D code 191 .iastore 1 192 := ⟨by decide +kernel, rfl⟩
theorem d_law_192 : Own.D code 192 (.aload 9) 2 194 := ⟨by decide +kernel, rfl⟩
theorem d_law_194 : Own.D code 194 (.iconst 4) 1 195 := ⟨by decide +kernel, rfl⟩
theorem d_law_195 : Own.D code 195 (.lload 7) 2 197 := ⟨by decide +kernel, rfl⟩
theorem d_law_197 : Own.D code 197 (.aload_n 3) 1 198 := ⟨by decide +kernel, rfl⟩
theorem d_law_198 : Own.D code 198 (.iconst 4) 1 199 := ⟨by decide +kernel, rfl⟩
theorem d_law_199 : Own.D code 199 .laload 1 200 := ⟨by decide +kernel, rfl⟩
theorem d_law_200 : Own.D code 200 (.invokestatic 40) 3 203 := ⟨by decide +kernel, rfl⟩
theorem d_law_203 : Own.D code 203 .iastore 1 204 := ⟨by decide +kernel, rfl⟩
theorem d_law_204 : Own.D code 204 (.aload 9) 2 206 := ⟨by decide +kernel, rfl⟩
theorem d_law_206 : Own.D code 206 (.iconst 5) 1 207 := ⟨by decide +kernel, rfl⟩
theorem d_law_207 : Own.D code 207 (.lload 7) 2 209 := ⟨by decide +kernel, rfl⟩
theorem d_law_209 : Own.D code 209 (.aload_n 3) 1 210 := ⟨by decide +kernel, rfl⟩
theorem d_law_210 : Own.D code 210 (.iconst 5) 1 211 := ⟨by decide +kernel, rfl⟩
theorem d_law_211 : Own.D code 211 .laload 1 212 := ⟨by decide +kernel, rfl⟩
theorem d_law_212 : Own.D code 212 (.invokestatic 40) 3 215 := ⟨by decide +kernel, rfl⟩
theorem d_law_215 : Own.D code 215 .iastore 1 216 := ⟨by decide +kernel, rfl⟩
theorem d_law_216 : Own.D code 216 (.aload 9) 2 218 := ⟨by decide +kernel, rfl⟩
theorem d_law_218 : Own.D code 218 (.bipush 6) 2 220 := ⟨by decide +kernel, rfl⟩
theorem d_law_220 : Own.D code 220 (.lload 7) 2 222 := ⟨by decide +kernel, rfl⟩
theorem d_law_222 : Own.D code 222 (.aload_n 3) 1 223 := ⟨by decide +kernel, rfl⟩
theorem d_law_223 : Own.D code 223 (.bipush 6) 2 225 := ⟨by decide +kernel, rfl⟩
theorem d_law_225 : Own.D code 225 .laload 1 226 := ⟨by decide +kernel, rfl⟩
theorem d_law_226 : Own.D code 226 (.invokestatic 40) 3 229 := ⟨by decide +kernel, rfl⟩
theorem d_law_229 : Own.D code 229 .iastore 1 230 := ⟨by decide +kernel, rfl⟩
theorem d_law_230 : Own.D code 230 (.aload 9) 2 232 := ⟨by decide +kernel, rfl⟩
theorem d_law_232 : Own.D code 232 (.bipush 7) 2 234 := ⟨by decide +kernel, rfl⟩
theorem d_law_234 : Own.D code 234 (.lload 7) 2 236 := ⟨by decide +kernel, rfl⟩
theorem d_law_236 : Own.D code 236 (.aload_n 3) 1 237 := ⟨by decide +kernel, rfl⟩
theorem d_law_237 : Own.D code 237 (.bipush 7) 2 239 := ⟨by decide +kernel, rfl⟩
theorem d_law_239 : Own.D code 239 .laload 1 240 := ⟨by decide +kernel, rfl⟩
theorem d_law_240 : Own.D code 240 (.invokestatic 40) 3 243 := ⟨by decide +kernel, rfl⟩
theorem d_law_243 : Own.D code 243 .iastore 1 244 := ⟨by decide +kernel, rfl⟩
theorem d_law_244 : Own.D code 244 (.aload 9) 2 246 := ⟨by decide +kernel, rfl⟩
theorem d_law_246 : Own.D code 246 (.bipush 8) 2 248 := ⟨by decide +kernel, rfl⟩
theorem d_law_248 : Own.D code 248 (.lload 7) 2 250 := ⟨by decide +kernel, rfl⟩
theorem d_law_250 : Own.D code 250 (.aload_n 3) 1 251 := ⟨by decide +kernel, rfl⟩
theorem d_law_251 : Own.D code 251 (.bipush 8) 2 253 := ⟨by decide +kernel, rfl⟩
theorem d_law_253 : Own.D code 253 .laload 1 254 := ⟨by decide +kernel, rfl⟩
theorem d_law_254 : Own.D code 254 (.invokestatic 40) 3 257 := ⟨by decide +kernel, rfl⟩
theorem d_law_257 : Own.D code 257 .iastore 1 258 := ⟨by decide +kernel, rfl⟩
theorem d_law_258 : Own.D code 258 (.aload 9) 2 260 := ⟨by decide +kernel, rfl⟩
theorem d_law_260 : Own.D code 260 (.bipush 9) 2 262 := ⟨by decide +kernel, rfl⟩
theorem d_law_262 : Own.D code 262 (.lload 7) 2 264 := ⟨by decide +kernel, rfl⟩
theorem d_law_264 : Own.D code 264 (.aload_n 3) 1 265 := ⟨by decide +kernel, rfl⟩
theorem d_law_265 : Own.D code 265 (.bipush 9) 2 267 := ⟨by decide +kernel, rfl⟩
theorem d_law_267 : Own.D code 267 .laload 1 268 := ⟨by decide +kernel, rfl⟩
theorem d_law_268 : Own.D code 268 (.invokestatic 40) 3 271 := ⟨by decide +kernel, rfl⟩
theorem d_law_271 : Own.D code 271 .iastore 1 272 := ⟨by decide +kernel, rfl⟩
theorem d_law_272 : Own.D code 272 (.aload 9) 2 274 := ⟨by decide +kernel, rfl⟩
theorem d_law_274 : Own.D code 274 (.bipush 10) 2 276 := ⟨by decide +kernel, rfl⟩
theorem d_law_276 : Own.D code 276 (.lload 7) 2 278 := ⟨by decide +kernel, rfl⟩
theorem d_law_278 : Own.D code 278 (.aload_n 3) 1 279 := ⟨by decide +kernel, rfl⟩
theorem d_law_279 : Own.D code 279 (.bipush 10) 2 281 := ⟨by decide +kernel, rfl⟩
theorem d_law_281 : Own.D code 281 .laload 1 282 := ⟨by decide +kernel, rfl⟩
theorem d_law_282 : Own.D code 282 (.invokestatic 40) 3 285 := ⟨by decide +kernel, rfl⟩
theorem d_law_285 : Own.D code 285 .iastore 1 286 := ⟨by decide +kernel, rfl⟩
theorem d_law_286 : Own.D code 286 (.aload 9) 2 288 := ⟨by decide +kernel, rfl⟩
theorem d_law_288 : Own.D code 288 (.bipush 11) 2 290 := ⟨by decide +kernel, rfl⟩
theorem d_law_290 : Own.D code 290 (.lload 7) 2 292 := ⟨by decide +kernel, rfl⟩
theorem d_law_292 : Own.D code 292 (.aload_n 3) 1 293 := ⟨by decide +kernel, rfl⟩
theorem d_law_293 : Own.D code 293 (.bipush 11) 2 295 := ⟨by decide +kernel, rfl⟩
theorem d_law_295 : Own.D code 295 .laload 1 296 := ⟨by decide +kernel, rfl⟩
theorem d_law_296 : Own.D code 296 (.invokestatic 40) 3 299 := ⟨by decide +kernel, rfl⟩
theorem d_law_299 : Own.D code 299 .iastore 1 300 := ⟨by decide +kernel, rfl⟩
theorem d_law_300 : Own.D code 300 (.aload 9) 2 302 := ⟨by decide +kernel, rfl⟩
theorem d_law_302 : Own.D code 302 (.bipush 12) 2 304 := ⟨by decide +kernel, rfl⟩
theorem d_law_304 : Own.D code 304 (.lload 7) 2 306 := ⟨by decide +kernel, rfl⟩
theorem d_law_306 : Own.D code 306 (.aload_n 3) 1 307 := ⟨by decide +kernel, rfl⟩
theorem d_law_307 : Own.D code 307 (.bipush 12) 2 309 := ⟨by decide +kernel, rfl⟩
theorem d_law_309 : Own.D code 309 .laload 1 310 := ⟨by decide +kernel, rfl⟩
theorem d_law_310 : Own.D code 310 (.invokestatic 40) 3 313 := ⟨by decide +kernel, rfl⟩
theorem d_law_313 : Own.D code 313 .iastore 1 314 := ⟨by decide +kernel, rfl⟩
theorem d_law_314 : Own.D code 314 (.aload 9) 2 316 := ⟨by decide +kernel, rfl⟩
theorem d_law_316 : Own.D code 316 (.bipush 13) 2 318 := ⟨by decide +kernel, rfl⟩
theorem d_law_318 : Own.D code 318 (.lload 7) 2 320 := ⟨by decide +kernel, rfl⟩
theorem d_law_320 : Own.D code 320 (.aload_n 3) 1 321 := ⟨by decide +kernel, rfl⟩
theorem d_law_321 : Own.D code 321 (.bipush 13) 2 323 := ⟨by decide +kernel, rfl⟩
theorem d_law_323 : Own.D code 323 .laload 1 324 := ⟨by decide +kernel, rfl⟩
theorem d_law_324 : Own.D code 324 (.invokestatic 40) 3 327 := ⟨by decide +kernel, rfl⟩
theorem d_law_327 : Own.D code 327 .iastore 1 328 := ⟨by decide +kernel, rfl⟩
theorem d_law_0 : Own.D code 0 (.bipush 14) 2 2 := ⟨by decide +kernel, rfl⟩
theorem d_law_2 : Own.D code 2 (.newarray .long) 2 4 := ⟨by decide +kernel, rfl⟩
theorem d_law_4 : Own.D code 4 .dup 1 5 := ⟨by decide +kernel, rfl⟩
theorem d_law_5 : Own.D code 5 (.iconst 0) 1 6 := ⟨by decide +kernel, rfl⟩
theorem d_law_6 : Own.D code 6 (.lconst 1) 1 7 := ⟨by decide +kernel, rfl⟩
theorem d_law_7 : Own.D code 7 .lastore 1 8 := ⟨by decide +kernel, rfl⟩
theorem d_law_8 : Own.D code 8 .dup 1 9 := ⟨by decide +kernel, rfl⟩
theorem d_law_9 : Own.D code 9 (.iconst 1) 1 10 := ⟨by decide +kernel, rfl⟩
theorem d_law_10 : Own.D code 10 (.ldc2_w 7) 3 13 := ⟨by decide +kernel, rfl⟩
theorem d_law_13 : Own.D code 13 .lastore 1 14 := ⟨by decide +kernel, rfl⟩
theorem d_law_14 : Own.D code 14 .dup 1 15 := ⟨by decide +kernel, rfl⟩
theorem d_law_15 : Own.D code 15 (.iconst 2) 1 16 := ⟨by decide +kernel, rfl⟩
theorem d_law_16 : Own.D code 16 (.ldc2_w 9) 3 19 := ⟨by decide +kernel, rfl⟩
theorem d_law_19 : Own.D code 19 .lastore 1 20 := ⟨by decide +kernel, rfl⟩
theorem d_law_20 : Own.D code 20 .dup 1 21 := ⟨by decide +kernel, rfl⟩
theorem d_law_21 : Own.D code 21 (.iconst 3) 1 22 := ⟨by decide +kernel, rfl⟩
theorem d_law_22 : Own.D code 22 (.ldc2_w 11) 3 25 := ⟨by decide +kernel, rfl⟩
theorem d_law_25 : Own.D code 25 .lastore 1 26 := ⟨by decide +kernel, rfl⟩
theorem d_law_26 : Own.D code 26 .dup 1 27 := ⟨by decide +kernel, rfl⟩
theorem d_law_27 : Own.D code 27 (.iconst 4) 1 28 := ⟨by decide +kernel, rfl⟩
theorem d_law_28 : Own.D code 28 (.ldc2_w 13) 3 31 := ⟨by decide +kernel, rfl⟩
theorem d_law_31 : Own.D code 31 .lastore 1 32 := ⟨by decide +kernel, rfl⟩
theorem d_law_32 : Own.D code 32 .dup 1 33 := ⟨by decide +kernel, rfl⟩
theorem d_law_33 : Own.D code 33 (.iconst 5) 1 34 := ⟨by decide +kernel, rfl⟩
theorem d_law_34 : Own.D code 34 (.ldc2_w 15) 3 37 := ⟨by decide +kernel, rfl⟩
theorem d_law_37 : Own.D code 37 .lastore 1 38 := ⟨by decide +kernel, rfl⟩
theorem d_law_38 : Own.D code 38 .dup 1 39 := ⟨by decide +kernel, rfl⟩
theorem d_law_39 : Own.D code 39 (.bipush 6) 2 41 := ⟨by decide +kernel, rfl⟩
theorem d_law_41 : Own.D code 41 (.ldc2_w 17) 3 44 := ⟨by decide +kernel, rfl⟩
theorem d_law_44 : Own.D code 44 .lastore 1 45 := ⟨by decide +kernel, rfl⟩
theorem d_law_45 : Own.D code 45 .dup 1 46 := ⟨by decide +kernel, rfl⟩
theorem d_law_46 : Own.D code 46 (.bipush 7) 2 48 := ⟨by decide +kernel, rfl⟩
theorem d_law_48 : Own.D code 48 (.ldc2_w 19) 3 51 := ⟨by decide +kernel, rfl⟩
theorem d_law_51 : Own.D code 51 .lastore 1 52 := ⟨by decide +kernel, rfl⟩
theorem d_law_52 : Own.D code 52 .dup 1 53 := ⟨by decide +kernel, rfl⟩
theorem d_law_53 : Own.D code 53 (.bipush 8) 2 55 := ⟨by decide +kernel, rfl⟩
theorem d_law_55 : Own.D code 55 (.ldc2_w 21) 3 58 := ⟨by decide +kernel, rfl⟩
theorem d_law_58 : Own.D code 58 .lastore 1 59 := ⟨by decide +kernel, rfl⟩
theorem d_law_59 : Own.D code 59 .dup 1 60 := ⟨by decide +kernel, rfl⟩
theorem d_law_60 : Own.D code 60 (.bipush 9) 2 62 := ⟨by decide +kernel, rfl⟩
theorem d_law_62 : Own.D code 62 (.ldc2_w 23) 3 65 := ⟨by decide +kernel, rfl⟩
theorem d_law_65 : Own.D code 65 .lastore 1 66 := ⟨by decide +kernel, rfl⟩
theorem d_law_66 : Own.D code 66 .dup 1 67 := ⟨by decide +kernel, rfl⟩
theorem d_law_67 : Own.D code 67 (.bipush 10) 2 69 := ⟨by decide +kernel, rfl⟩
theorem d_law_69 : Own.D code 69 (.ldc2_w 25) 3 72 := ⟨by decide +kernel, rfl⟩
theorem d_law_72 : Own.D code 72 .lastore 1 73 := ⟨by decide +kernel, rfl⟩
theorem d_law_73 : Own.D code 73 .dup 1 74 := ⟨by decide +kernel, rfl⟩
theorem d_law_74 : Own.D code 74 (.bipush 11) 2 76 := ⟨by decide +kernel, rfl⟩
theorem d_law_76 : Own.D code 76 (.ldc2_w 27) 3 79 := ⟨by decide +kernel, rfl⟩
theorem d_law_79 : Own.D code 79 .lastore 1 80 := ⟨by decide +kernel, rfl⟩
theorem d_law_80 : Own.D code 80 .dup 1 81 := ⟨by decide +kernel, rfl⟩
theorem d_law_81 : Own.D code 81 (.bipush 12) 2 83 := ⟨by decide +kernel, rfl⟩
theorem d_law_83 : Own.D code 83 (.ldc2_w 29) 3 86 := ⟨by decide +kernel, rfl⟩
theorem d_law_86 : Own.D code 86 .lastore 1 87 := ⟨by decide +kernel, rfl⟩
theorem d_law_87 : Own.D code 87 .dup 1 88 := ⟨by decide +kernel, rfl⟩
theorem d_law_88 : Own.D code 88 (.bipush 13) 2 90 := ⟨by decide +kernel, rfl⟩
theorem d_law_90 : Own.D code 90 (.ldc2_w 31) 3 93 := ⟨by decide +kernel, rfl⟩
theorem d_law_93 : Own.D code 93 .lastore 1 94 := ⟨by decide +kernel, rfl⟩
theorem d_law_94 : Own.D code 94 (.astore_n 3) 1 95 := ⟨by decide +kernel, rfl⟩
theorem d_law_95 : Own.D code 95 (.iconst 1) 1 96 := ⟨by decide +kernel, rfl⟩
theorem d_law_96 : Own.D code 96 (.iload_n 2) 1 97 := ⟨by decide +kernel, rfl⟩
theorem d_law_97 : Own.D code 97 (.ldc 33) 2 99 := ⟨by decide +kernel, rfl⟩
theorem d_law_99 : Own.D code 99 .iand 1 100 := ⟨by decide +kernel, rfl⟩
theorem d_law_100 : Own.D code 100 (.bipush 14) 2 102 := ⟨by decide +kernel, rfl⟩
theorem d_law_102 : Own.D code 102 .irem 1 103 := ⟨by decide +kernel, rfl⟩
theorem d_law_103 : Own.D code 103 .iadd 1 104 := ⟨by decide +kernel, rfl⟩
theorem d_law_104 : Own.D code 104 (.istore 4) 2 106 := ⟨by decide +kernel, rfl⟩
theorem d_law_106 : Own.D code 106 (.lload_n 0) 1 107 := ⟨by decide +kernel, rfl⟩
theorem d_law_107 : Own.D code 107 (.ldc2_w 36) 3 110 := ⟨by decide +kernel, rfl⟩
theorem d_law_110 : Own.D code 110 .land 1 111 := ⟨by decide +kernel, rfl⟩
theorem d_law_111 : Own.D code 111 (.ldc2_w 38) 3 114 := ⟨by decide +kernel, rfl⟩
theorem d_law_114 : Own.D code 114 .lrem 1 115 := ⟨by decide +kernel, rfl⟩
theorem d_law_115 : Own.D code 115 (.lstore 5) 2 117 := ⟨by decide +kernel, rfl⟩
theorem d_law_117 : Own.D code 117 (.iload 4) 2 119 := ⟨by decide +kernel, rfl⟩
theorem d_law_119 : Own.D code 119 (.bipush 14) 2 121 := ⟨by decide +kernel, rfl⟩
theorem d_law_121 : Own.J code 121 (.if_icmp .ne 8) 3 124 8 129 := ⟨by decide +kernel, rfl, by decide, by decide⟩
theorem d_law_124 : Own.D code 124 (.lload 5) 2 126 := ⟨by decide +kernel, rfl⟩
theorem d_law_126 : Own.J code 126 (.goto 10) 3 129 10 136 := ⟨by decide +kernel, rfl, by decide, by decide⟩
theorem d_law_129 : Own.D code 129 (.lload 5) 2 131 := ⟨by decide +kernel, rfl⟩
theorem d_law_131 : Own.D code 131 (.aload_n 3) 1 132 := ⟨by decide +kernel, rfl⟩
theorem d_law_132 : Own.D code 132 (.iload 4) 2 134 := ⟨by decide +kernel, rfl⟩
theorem d_law_134 : Own.D code 134 .laload 1 135 := ⟨by decide +kernel, rfl⟩
theorem d_law_135 : Own.D code 135 .lrem 1 136 := ⟨by decide +kernel, rfl⟩
set_option maxRecDepth 65536 in
set_option maxHeartbeats 4000000 in
theorem cod_met {E : Gl} (hw : Tb E) {h : Heap} {F : List Addr} {v : Addr} {k : ClassId} {m z : Int32} {vs : List Value} {dv : Value} (Av : Arv E.Z h v k .byte m vs dv) :
    Met E (⟨"java/lang/StringUTF16", "coderFromArrayLen", "([BI)B"⟩ : MethodName) jdk_52_method_15_code 2 (some .byte) ({ frames := 0, cells := 0, slots := 0, locals := 0 } : Room) #[.ref v, .int z] h F (fun r h' F' => r = some (.int (lo8 (lo8 (XT.ushr (z - m) 31)))) ∧ h = h' ∧ F = F') := by
  refine met_of (by decide +kernel) fun x T hQ B W => ?_
  refine G.cast (g' := fr x 0 #[.val (.ref v), .val (.int z)] []) (by simp [entryFrame, mkF, argsToLocals, Own.cat_r, Own.cat_i, Own.cat_j, Own.cat_n]) ?_
  refine w_iloadN W B d_cod_0 rfl ?_
  refine w_aloadN W B d_cod_1 rfl rfl ?_
  refine w_arraylength W B d_cod_2 Av ?_
  refine w_isub W B d_cod_3 ?_
  refine w_bipush W B d_cod_4 (v := (31 : Int32)) rfl ?_
  refine w_iushr W B d_cod_6 ?_
  refine w_i2b W B d_cod_7 ?_
  exact w_ireturnN W B d_cod_8 (Or.inr (Or.inl rfl)) (u := lo8 (lo8 (XT.ushr (z - m) 31))) rfl hQ (by decide) (by decide) (fun _ q => q) ⟨rfl, rfl, rfl⟩
theorem lat_at {cs : List Int32} (H : Lat cs) {i : Nat} (h : i < cs.length) : (cs.getD i 0).toInt ≤ 255 := by
  have : cs.getD i 0 = cs[i] := by simp [List.getD_eq_getElem?_getD, List.getElem?_eq_getElem h]
  rw [this]; exact H _ (List.getElem_mem h)
theorem vs_b8 {vs : List Value} {cs : List Int32} {n : Nat} (hvl : vs.length = n) (hcs : cs.length = n) (hvs : ∀ j, j < n → vs.getD j (.int 0) = .int (lo8 (cs.getD j 0))) : vs = b8 cs := by
  apply List.ext_getElem (by rw [hvl, b8_len, hcs])
  intro j h1 h2
  have q := hvs j (by omega)
  rw [List.getD_eq_getElem?_getD, List.getElem?_eq_getElem h1] at q
  have q2 := b8_at (cs := cs) (i := j) (by omega) (.int 0)
  rw [List.getD_eq_getElem?_getD, List.getElem?_eq_getElem h2] at q2
  exact (Option.some.inj (by simpa using q) : vs[j] = _).trans (by simpa using q2.symm)
set_option maxRecDepth 65536 in
set_option maxHeartbeats 4000000 in
theorem cmp3_met {E : Gl} (hw : Tb E) {h : Heap} {F : List Addr} {a : Addr} {ka : ClassId} {n : Nat} {cs : List Int32} (hcs : cs.length = n) (hcap : n ≤ 32) (hL : Lat cs) (Aa : Arv E.Z h a ka .char n.toInt32 (ints cs) (.int 0)) :
    Met E (⟨"java/lang/StringUTF16", "compress", "([CII)[B"⟩ : MethodName) jdk_52_method_16_code 6 (some (.array .byte)) ({ frames := 1, cells := 1, slots := 32, locals := 18 } : Room) #[.ref a, .int 0, .int n.toInt32] h F (fun r h' F' => ∃ (b : Addr) (k : ClassId), r = some (.ref b) ∧ F = F' ∧ h.size ≤ b ∧ Keep h h' [] ∧ Arv E.Z h' b k .byte n.toInt32 (b8 cs) (.int 0)) := by
  refine met_of (by decide +kernel) fun x T hQ B W => ?_
  refine G.cast (g' := fr x 0 #[.val (.ref a), .val (.int (0 : Int32)), .val (.int n.toInt32), .unset, .unset, .unset] []) (by simp [entryFrame, mkF, argsToLocals, Own.cat_r, Own.cat_i, Own.cat_j, Own.cat_n]) ?_
  have hn : n < 2 ^ 31 := by omega
  refine w_iloadN W B d_cmp3_0 rfl ?_
  refine w_newarray W B d_cmp3_1 rfl (wd hw 41 rfl) (n_nn hn) (cap := 32) (by rw [n_clamp hn]; exact hcap) (by decide) (by decide) (by decide) ?_
  intro T1 h2 b3 k4 W5 g6 X7 A8
  show G E x T1 (fr x 3 #[.val (.ref a), .val (.int (0 : Int32)), .val (.int n.toInt32), .unset, .unset, .unset] [(.ref b3)])
  refine w_astoreN W5 B d_cmp3_3 rfl (Ls' := #[.val (.ref a), .val (.int (0 : Int32)), .val (.int n.toInt32), .val (.ref b3), .unset, .unset]) rfl ?_
  refine w_aloadN W5 B d_cmp3_4 rfl rfl ?_
  refine w_iloadN W5 B d_cmp3_5 rfl ?_
  refine w_aloadN W5 B d_cmp3_6 rfl rfl ?_
  refine w_iconst W5 B d_cmp3_7 (v := (0 : Int32)) rfl ?_
  refine w_iloadN W5 B d_cmp3_8 rfl ?_
  refine w_static W5 B (y := ⟨"java/lang/StringUTF16", "compress", "([CI[BII)I"⟩) d_cmp3_9 (wd hw 42 rfl) (wd hw 43 rfl) (wd hw 39 rfl) (wd hw 44 rfl) (by decide) pd___CI_BII_I688 (argsL := [(.ref a), (.int (0 : Int32)), (.ref b3), (.int (0 : Int32)), (.int n.toInt32)]) rfl rfl rfl (Wt := 0) (Nat.le_of_eq rfl) (cmp5_met hw hcs hn (Own.ne_new Aa.lt g6) (List.Mem.head _) (Aa.ext X7) (A8.pad (pad_rep [] _ n)) (by simp)) (by decide) (by decide) (by decide) (by decide) ?_
  intro T9 h10 F11 v12 W13 Q14
  obtain ⟨i, vs, rfl, rfl, hin, hst, hlt, K5, A5, hvl, hvs⟩ := Q14
  show G E x T9 (fr x 12 #[.val (.ref a), .val (.int (0 : Int32)), .val (.int n.toInt32), .val (.ref b3), .unset, .unset] [(.int i.toInt32)])
  have hie : i = n := Nat.le_antisymm hin (Nat.not_lt.mp fun q => absurd (hst q) (Int.not_lt.mpr (lat_at hL (by omega))))
  refine w_istore W13 B d_cmp3_12 (Ls' := #[.val (.ref a), .val (.int (0 : Int32)), .val (.int n.toInt32), .val (.ref b3), .val (.int i.toInt32), .unset]) rfl ?_
  refine w_iload W13 B d_cmp3_14 rfl ?_
  refine w_iloadN W13 B d_cmp3_16 rfl ?_
  refine w_icmp_eq W13 B d_cmp3_17 (fun _ => ?_) (fun q => q (congrArg Nat.toInt32 hie) |>.elim)
  show G E x T9 (fr x 57 #[.val (.ref a), .val (.int (0 : Int32)), .val (.int n.toInt32), .val (.ref b3), .val (.int i.toInt32), .unset] [])
  refine w_aloadN W13 B d_cmp3_57 rfl rfl ?_
  have KK15 : Keep h h2 [] := (Keep.refl h []).ext X7
  have KK16 : Keep h h10 [] := KK15.trans K5 (allS (Or.inr (Nat.le_trans (Keep.refl h []).1 (Nat.le_of_eq g6.symm))) all0)
  have ev : vs = b8 cs := vs_b8 hvl hcs (fun j q => hvs j (by omega))
  exact w_areturn W13 B d_cmp3_58 rfl rfl hQ (by decide) (by decide) (fun _ q => (List.Mem.tail _ q)) ⟨b3, _, rfl, rfl, Nat.le_of_eq g6.symm, KK16, ev ▸ A5⟩
set_option maxRecDepth 65536 in
set_option maxHeartbeats 4000000 in
theorem ini4_met {E : Gl} (hw : Tb E) {h : Heap} {F : List Addr} {s a : Addr} {ka : ClassId} {n : Nat} {cs : List Int32} (hcs : cs.length = n) (h1 : 1 ≤ n) (hcap : n ≤ 32) (hC : Ch cs) (hL : Lat cs) (hs : s ∈ F) (Es : Exa E.Z h s "java/lang/String") (fv : Fld E.Z h s "java/lang/String" "value" "[B" .null) (fc : Fld E.Z h s "java/lang/String" "coder" "B" (.int 0)) (Aa : Arv E.Z h a ka .char n.toInt32 (ints cs) (.int 0)) :
    Met E (⟨"java/lang/String", "<init>", "([CIILjava/lang/Void;)V"⟩ : MethodName) jdk_42_method_149_code 6 none ({ frames := 2, cells := 1, slots := 32, locals := 35 } : Room) #[.ref s, .ref a, .int 0, .int n.toInt32, .null] h F (QStr E cs s h F) := by
  refine met_of (by decide +kernel) fun x T hQ B W => ?_
  refine G.cast (g' := fr x 0 #[.val (.ref s), .val (.ref a), .val (.int (0 : Int32)), .val (.int n.toInt32), .val .null, .unset] []) (by simp [entryFrame, mkF, argsToLocals, Own.cat_r, Own.cat_i, Own.cat_j, Own.cat_n]) ?_
  have hn : n < 2 ^ 31 := by omega
  obtain ⟨z, Sc, hz⟩ := compact hw
  refine w_aloadN W B d_ini4_0 rfl rfl ?_
  refine w_initO W B d_ini4_1 (wd hw 33 rfl) (wd hw 34 rfl) (wd hw 35 rfl) rfl (by decide) (Wt := 0) (Nat.le_of_eq rfl) (by decide) ?_
  intro T1 W2
  refine w_iloadN W2 B d_ini4_4 rfl ?_
  refine w_if_ne W2 B d_ini4_5 (fun _ => ?_) (fun q => absurd q (fun q => absurd ((n_eq (i := n) (n := 0) hn (by decide)).mp q) (by omega)))
  show G E x T1 (fr x 27 #[.val (.ref s), .val (.ref a), .val (.int (0 : Int32)), .val (.int n.toInt32), .val .null, .unset] [])
  refine w_getS W2 B d_ini4_27 (wd hw 36 rfl) Via.refl Sc ?_
  intro T3 W4
  refine w_if_eq W4 B d_ini4_30 (fun q => absurd q hz) (fun _ => ?_)
  show G E x T3 (fr x 33 #[.val (.ref s), .val (.ref a), .val (.int (0 : Int32)), .val (.int n.toInt32), .val .null, .unset] [])
  refine w_aloadN W4 B d_ini4_33 rfl rfl ?_
  refine w_iloadN W4 B d_ini4_34 rfl ?_
  refine w_iloadN W4 B d_ini4_35 rfl ?_
  refine w_static W4 B (y := ⟨"java/lang/StringUTF16", "compress", "([CII)[B"⟩) d_ini4_36 (wd hw 37 rfl) (wd hw 38 rfl) (wd hw 39 rfl) (wd hw 40 rfl) (by decide) pd___CII__B542 (argsL := [(.ref a), (.int (0 : Int32)), (.int n.toInt32)]) rfl rfl rfl (Wt := 0) (Nat.le_of_eq rfl) (cmp3_met hw hcs hcap hL Aa) (by decide) (by decide) (by decide) (by decide) ?_
  intro T5 h6 F7 v8 W9 Q10
  obtain ⟨v, kv, rfl, rfl, gv, K3, A3⟩ := Q10
  show G E x T5 (fr x 39 #[.val (.ref s), .val (.ref a), .val (.int (0 : Int32)), .val (.int n.toInt32), .val .null, .unset] [(.ref v)])
  refine w_astore W9 B d_ini4_39 rfl (Ls' := #[.val (.ref s), .val (.ref a), .val (.int (0 : Int32)), .val (.int n.toInt32), .val .null, .val (.ref v)]) rfl ?_
  refine w_aloadN W9 B d_ini4_41 rfl rfl ?_
  refine w_aload W9 B d_ini4_42 rfl rfl ?_
  refine w_iloadN W9 B d_ini4_44 rfl ?_
  refine w_static W9 B (y := ⟨"java/lang/StringUTF16", "coderFromArrayLen", "([BI)B"⟩) d_ini4_45 (wd hw 45 rfl) (wd hw 46 rfl) (wd hw 39 rfl) (wd hw 47 rfl) (by decide) pd___BI_B377 (argsL := [(.ref v), (.int n.toInt32)]) rfl rfl rfl (Wt := 1) (Nat.le_of_eq rfl) (cod_met hw A3) (by decide) (by decide) (by decide) (by decide) ?_
  intro T11 h12 F13 v14 W15 Q16
  obtain ⟨rfl, rfl, rfl⟩ := Q16
  have ez : lo8 (lo8 (XT.ushr (n.toInt32 - n.toInt32) 31)) = 0 := by rw [Int32.sub_self]; decide
  show G E x T11 (fr x 48 #[.val (.ref s), .val (.ref a), .val (.int (0 : Int32)), .val (.int n.toInt32), .val .null, .val (.ref v)] [(.int (lo8 (lo8 (XT.ushr (n.toInt32 - n.toInt32) 31)))), (.ref s)])
  refine w_putF W15 B d_ini4_48 hs (wd hw 48 rfl) Via.refl (fc.keep K3 nin0) (Es.keep K3) (Or.inr ⟨(wd hw 49 rfl), rfl, rfl⟩) (wd hw 24 rfl) (ty := .byte) (v' := (.int (0 : Int32))) (by decide) (by rw [ez]; rfl) rfl ?_
  intro T17 h18 W19 Y20 f21
  refine w_aloadN W19 B d_ini4_51 rfl rfl ?_
  refine w_aload W19 B d_ini4_52 rfl rfl ?_
  refine w_putF W19 B d_ini4_54 hs (wd hw 50 rfl) Via.refl ((fv.keep K3 nin0).other Y20 (Or.inr (slot_ne (Or.inr (wd hw 51 rfl)) (Or.inr (wd hw 49 rfl)) (t := (.array .byte)) (t' := .byte) (by decide) (by decide) (by decide)))) ((Es.keep K3).wr Y20) (Or.inr ⟨(wd hw 51 rfl), rfl, rfl⟩) (wd hw 24 rfl) (ty := (.array .byte)) (v' := (.ref v)) (by decide) rfl rfl ?_
  intro T22 h23 W24 Y25 f26
  have KK27 : Keep h h6 [s] := (Keep.refl h [s]).trans K3 all0
  have KK28 : Keep h h18 [s] := KK27.wr Y20 (Or.inl (List.Mem.head _))
  have KK29 : Keep h h23 [s] := KK28.wr Y25 (Or.inl (List.Mem.head _))
  exact w_return W24 B d_ini4_57 hQ (by decide) (by decide) (fun _ q => q) ⟨rfl, rfl, KK29, v, ⟨kv, (((Es.keep K3).wr Y20).wr Y25), f26, hC, Or.inl ⟨hL, (f21.other Y25 (Or.inr (slot_ne (Or.inr (wd hw 49 rfl)) (Or.inr (wd hw 51 rfl)) (t := .byte) (t' := (.array .byte)) (by decide) (by decide) (by decide)))), hcs ▸ ((A3.other Y20 (Ne.symm (Nat.ne_of_lt (Nat.lt_of_lt_of_le Es.lt gv)))).other Y25 (Ne.symm (Nat.ne_of_lt (Nat.lt_of_lt_of_le Es.lt gv))))⟩⟩, fun y hy => Nat.ne_of_lt (Nat.lt_of_lt_of_le (W.fOk hy).2 gv)⟩
set_option maxRecDepth 65536 in
set_option maxHeartbeats 4000000 in
theorem ini1_met {E : Gl} (hw : Tb E) {h : Heap} {F : List Addr} {s a : Addr} {ka : ClassId} {n : Nat} {cs : List Int32} (hcs : cs.length = n) (h1 : 1 ≤ n) (hcap : n ≤ 32) (hC : Ch cs) (hL : Lat cs) (hs : s ∈ F) (Es : Exa E.Z h s "java/lang/String") (fv : Fld E.Z h s "java/lang/String" "value" "[B" .null) (fc : Fld E.Z h s "java/lang/String" "coder" "B" (.int 0)) (Aa : Arv E.Z h a ka .char n.toInt32 (ints cs) (.int 0)) :
    Met E (⟨"java/lang/String", "<init>", "([C)V"⟩ : MethodName) jdk_42_method_3_code 2 none ({ frames := 3, cells := 1, slots := 32, locals := 52 } : Room) #[.ref s, .ref a] h F (QStr E cs s h F) := by
  refine met_of (by decide +kernel) fun x T hQ B W => ?_
  refine G.cast (g' := fr x 0 #[.val (.ref s), .val (.ref a)] []) (by simp [entryFrame, mkF, argsToLocals, Own.cat_r, Own.cat_i, Own.cat_j, Own.cat_n]) ?_
  refine w_aloadN W B d_ini1_0 rfl rfl ?_
  refine w_aloadN W B d_ini1_1 rfl rfl ?_
  refine w_iconst W B d_ini1_2 (v := (0 : Int32)) rfl ?_
  refine w_aloadN W B d_ini1_3 rfl rfl ?_
  refine w_arraylength W B d_ini1_4 Aa ?_
  refine w_null W B d_ini1_5 ?_
  refine w_special W B (y := ⟨"java/lang/String", "<init>", "([CIILjava/lang/Void;)V"⟩) d_ini1_6 rfl (wd hw 29 rfl) (wd hw 30 rfl) (wd hw 25 rfl) (wd hw 32 rfl) (by decide) pd___CIILjava_lang_Void__V941 (argsL := [(.ref a), (.int (0 : Int32)), (.int n.toInt32), .null]) rfl rfl rfl (Wt := 0) (Nat.le_of_eq rfl) (ini4_met hw hcs h1 hcap hC hL hs Es fv fc Aa) (by decide) (by decide) (by decide) (by decide) ?_
  intro T1 h2 F3 v4 W5 Q6
  obtain ⟨rfl, rfl, K4, v, S4, hv⟩ := Q6
  show G E x T1 (fr x 9 #[.val (.ref s), .val (.ref a)] [])
  exact w_return W5 B d_ini1_9 hQ (by decide) (by decide) (fun _ q => q) ⟨rfl, rfl, K4, v, S4, hv⟩
set_option maxRecDepth 65536 in
set_option maxHeartbeats 4000000 in
theorem scod_met {E : Gl} (hw : Tb E) {h : Heap} {F : List Addr} {s : Addr} {c : Int32} (hc : nar .byte c = c) (fc : Fld E.Z h s "java/lang/String" "coder" "B" (.int c)) :
    Met E (⟨"java/lang/String", "coder", "()B"⟩ : MethodName) jdk_42_method_152_code 1 (some .byte) ({ frames := 0, cells := 0, slots := 0, locals := 0 } : Room) #[.ref s] h F (fun r h' F' => r = some (.int c) ∧ h = h' ∧ F = F') := by
  refine met_of (by decide +kernel) fun x T hQ B W => ?_
  refine G.cast (g' := fr x 0 #[.val (.ref s)] []) (by simp [entryFrame, mkF, argsToLocals, Own.cat_r, Own.cat_i, Own.cat_j, Own.cat_n]) ?_
  obtain ⟨z, Sc, hz⟩ := compact hw
  refine w_getS W B d_scod_0 (wd hw 36 rfl) Via.refl Sc ?_
  intro T1 W2
  refine w_if_eq W2 B d_scod_3 (fun q => absurd q hz) (fun _ => ?_)
  show G E x T1 (fr x 6 #[.val (.ref s)] [])
  refine w_aloadN W2 B d_scod_6 rfl rfl ?_
  refine w_getF W2 B d_scod_7 (wd hw 48 rfl) Via.refl fc ?_
  intro T3 W4
  refine w_goto W4 B d_scod_10 ?_
  exact w_ireturnN W4 B d_scod_14 (Or.inr (Or.inl rfl)) (u := c) hc hQ (by decide) (by decide) (fun _ q => q) ⟨rfl, rfl, rfl⟩
set_option maxRecDepth 65536 in
set_option maxHeartbeats 4000000 in
theorem slat_met {E : Gl} (hw : Tb E) {h : Heap} {F : List Addr} {s : Addr} (fc : Fld E.Z h s "java/lang/String" "coder" "B" (.int 0)) :
    Met E (⟨"java/lang/String", "isLatin1", "()Z"⟩ : MethodName) jdk_42_method_154_code 1 (some .boolean) ({ frames := 0, cells := 0, slots := 0, locals := 0 } : Room) #[.ref s] h F (fun r h' F' => r = some (.int 1) ∧ h = h' ∧ F = F') := by
  refine met_of (by decide +kernel) fun x T hQ B W => ?_
  refine G.cast (g' := fr x 0 #[.val (.ref s)] []) (by simp [entryFrame, mkF, argsToLocals, Own.cat_r, Own.cat_i, Own.cat_j, Own.cat_n]) ?_
  obtain ⟨z, Sc, hz⟩ := compact hw
  refine w_getS W B d_slat_0 (wd hw 36 rfl) Via.refl Sc ?_
  intro T1 W2
  refine w_if_eq W2 B d_slat_3 (fun q => absurd q hz) (fun _ => ?_)
  show G E x T1 (fr x 6 #[.val (.ref s)] [])
  refine w_aloadN W2 B d_slat_6 rfl rfl ?_
  refine w_getF W2 B d_slat_7 (wd hw 48 rfl) Via.refl fc ?_
  intro T3 W4
  refine w_if_ne W4 B d_slat_10 (fun q => q rfl |>.elim) (fun _ => ?_)
  show G E x T3 (fr x 13 #[.val (.ref s)] [])
  refine w_iconst W4 B d_slat_13 (v := (1 : Int32)) rfl ?_
  refine w_goto W4 B d_slat_14 ?_
  exact w_ireturnN W4 B d_slat_18 (Or.inl rfl) (u := 1) rfl hQ (by decide) (by decide) (fun _ q => q) ⟨rfl, rfl, rfl⟩
set_option maxRecDepth 65536 in
set_option maxHeartbeats 4000000 in
theorem slen_met {E : Gl} (hw : Tb E) {h : Heap} {F : List Addr} {s v : Addr} {k : ClassId} {cs : List Int32} (S : StrL E h s v k cs) :
    Met E (⟨"java/lang/String", "length", "()I"⟩ : MethodName) jdk_42_method_54_code 1 (some .int) ({ frames := 1, cells := 0, slots := 0, locals := 13 } : Room) #[.ref s] h F (fun r h' F' => r = some (.int cs.length.toInt32) ∧ h = h' ∧ F = F') := by
  refine met_of (by decide +kernel) fun x T hQ B W => ?_
  refine G.cast (g' := fr x 0 #[.val (.ref s)] []) (by simp [entryFrame, mkF, argsToLocals, Own.cat_r, Own.cat_i, Own.cat_j, Own.cat_n]) ?_
  refine w_aloadN W B d_slen_0 rfl rfl ?_
  refine w_getF W B d_slen_1 (wd hw 50 rfl) Via.refl S.2.1 ?_
  intro T1 W2
  refine w_arraylength W2 B d_slen_4 S.2.2.2 ?_
  refine w_aloadN W2 B d_slen_5 rfl rfl ?_
  refine w_virtual W2 B (y := ⟨"java/lang/String", "coder", "()B"⟩) (z := ⟨"java/lang/String", "coder", "()B"⟩) d_slen_6 (wd hw 69 rfl) (wd hw 70 rfl) (nf_sel (wd hw 72 rfl)) (wd hw 72 rfl) (wd hw 71 rfl) (wd hw 25 rfl) (wd hw 73 rfl) (by decide) S.1 pd___B147 (argsL := []) rfl rfl rfl (Wt := 1) (Nat.le_of_eq rfl) (scod_met hw (c := 0) rfl S.2.2.1) (by decide) (by decide) (by decide) (by decide) ?_
  intro T3 h4 F5 v6 W7 Q8
  obtain ⟨rfl, rfl, rfl⟩ := Q8
  show G E x T3 (fr x 9 #[.val (.ref s)] [(.int (0 : Int32)), (.int cs.length.toInt32)])
  refine w_ishr W7 B d_slen_9 ?_
  exact w_ireturn W7 B d_slen_10 hQ (by decide) (by decide) (fun _ q => q) ⟨by rw [shr0], rfl, rfl⟩
set_option maxRecDepth 65536 in
set_option maxHeartbeats 4000000 in
theorem asbi_met {E : Gl} (hw : Tb E) {h : Heap} {F : List Addr} {s : Addr} (hs : s ∈ F) (Es : Exa E.Z h s "java/lang/StringBuilder") (fv : Fld E.Z h s "java/lang/AbstractStringBuilder" "value" "[B" .null) (fc : Fld E.Z h s "java/lang/AbstractStringBuilder" "coder" "B" (.int 0)) (fn : Fld E.Z h s "java/lang/AbstractStringBuilder" "count" "I" (.int 0)) :
    Met E (⟨"java/lang/AbstractStringBuilder", "<init>", "(I)V"⟩ : MethodName) jdk_68_method_2_code 2 none ({ frames := 1, cells := 1, slots := 16, locals := 12 } : Room) #[.ref s, .int 16] h F (fun r h' F' => ∃ (v : Addr) (k : ClassId), r = none ∧ v :: F = F' ∧ Keep h h' [s] ∧ h.size ≤ v ∧ SbV E h' s v k []) := by
  refine met_of (by decide +kernel) fun x T hQ B W => ?_
  refine G.cast (g' := fr x 0 #[.val (.ref s), .val (.int (16 : Int32))] []) (by simp [entryFrame, mkF, argsToLocals, Own.cat_r, Own.cat_i, Own.cat_j, Own.cat_n]) ?_
  obtain ⟨z, Sc, hz⟩ := compact hw
  refine w_aloadN W B d_asbi_0 rfl rfl ?_
  refine w_initO W B d_asbi_1 (wd hw 111 rfl) (wd hw 34 rfl) (wd hw 35 rfl) rfl (by decide) (Wt := 0) (Nat.le_of_eq rfl) (by decide) ?_
  intro T1 W2
  refine w_getS W2 B d_asbi_4 (wd hw 112 rfl) Via.refl Sc ?_
  intro T3 W4
  refine w_if_eq W4 B d_asbi_7 (fun q => absurd q hz) (fun _ => ?_)
  show G E x T3 (fr x 10 #[.val (.ref s), .val (.int (16 : Int32))] [])
  refine w_aloadN W4 B d_asbi_10 rfl rfl ?_
  refine w_iloadN W4 B d_asbi_11 rfl ?_
  refine w_newarray W4 B d_asbi_12 rfl (wd hw 41 rfl) (by decide) (cap := 16) (by decide) (by decide) (by decide) (by decide) ?_
  intro T5 h6 b7 k8 W9 g10 X11 A12
  have A13 : Arv E.Z h6 b7 k8 .byte (16 : Int32) [(.int (0 : Int32)), (.int (0 : Int32)), (.int (0 : Int32)), (.int (0 : Int32)), (.int (0 : Int32)), (.int (0 : Int32)), (.int (0 : Int32)), (.int (0 : Int32)), (.int (0 : Int32)), (.int (0 : Int32)), (.int (0 : Int32)), (.int (0 : Int32)), (.int (0 : Int32)), (.int (0 : Int32)), (.int (0 : Int32)), (.int (0 : Int32))] (.int (0 : Int32)) := A12.pad (pad_rep [] (.int (0 : Int32)) 16)
  show G E x T5 (fr x 14 #[.val (.ref s), .val (.int (16 : Int32))] [(.ref b7), (.ref s)])
  refine w_putF W9 B d_asbi_14 (List.Mem.tail _ hs) (wd hw 113 rfl) Via.refl (fv.ext X11) (Es.ext X11) (Or.inl (wd hw 114 rfl)) (wd hw 100 rfl) (ty := (.array .byte)) (v' := (.ref b7)) (by decide) rfl rfl ?_
  intro T14 h15 W16 Y17 f18
  refine w_aloadN W16 B d_asbi_17 rfl rfl ?_
  refine w_iconst W16 B d_asbi_18 (v := (0 : Int32)) rfl ?_
  refine w_putF W16 B d_asbi_19 (List.Mem.tail _ hs) (wd hw 115 rfl) Via.refl ((fc.ext X11).other Y17 (Or.inr (slot_ne (Or.inl (wd hw 116 rfl)) (Or.inl (wd hw 114 rfl)) (t := .byte) (t' := (.array .byte)) (by decide) (by decide) (by decide)))) ((Es.ext X11).wr Y17) (Or.inl (wd hw 116 rfl)) (wd hw 100 rfl) (ty := .byte) (v' := (.int (0 : Int32))) (by decide) rfl rfl ?_
  intro T19 h20 W21 Y22 f23
  refine w_goto W21 B d_asbi_22 ?_
  have KK24 : Keep h h6 [s] := (Keep.refl h [s]).ext X11
  have KK25 : Keep h h15 [s] := KK24.wr Y17 (Or.inl (List.Mem.head _))
  have KK26 : Keep h h20 [s] := KK25.wr Y22 (Or.inl (List.Mem.head _))
  exact w_return W21 B d_asbi_38 hQ (by decide) (by decide) (fun _ q => q) ⟨b7, _, rfl, rfl, KK26, Nat.le_of_eq g10.symm, ⟨(((Es.ext X11).wr Y17).wr Y22), (f18.other Y22 (Or.inr (slot_ne (Or.inl (wd hw 114 rfl)) (Or.inl (wd hw 116 rfl)) (t := (.array .byte)) (t' := .byte) (by decide) (by decide) (by decide)))), f23, (((fn.ext X11).other Y17 (Or.inr (slot_ne (Or.inl (wd hw 146 rfl)) (Or.inl (wd hw 114 rfl)) (t := .int) (t' := (.array .byte)) (by decide) (by decide) (by decide)))).other Y22 (Or.inr (slot_ne (Or.inl (wd hw 146 rfl)) (Or.inl (wd hw 116 rfl)) (t := .int) (t' := .byte) (by decide) (by decide) (by decide)))), ((A13.other Y17 (Ne.symm (Own.ne_new Es.lt g10))).other Y22 (Ne.symm (Own.ne_new Es.lt g10)))⟩⟩
set_option maxRecDepth 65536 in
set_option maxHeartbeats 4000000 in
theorem sbi_met {E : Gl} (hw : Tb E) {h : Heap} {F : List Addr} {s : Addr} (hs : s ∈ F) (Es : Exa E.Z h s "java/lang/StringBuilder") (fv : Fld E.Z h s "java/lang/AbstractStringBuilder" "value" "[B" .null) (fc : Fld E.Z h s "java/lang/AbstractStringBuilder" "coder" "B" (.int 0)) (fn : Fld E.Z h s "java/lang/AbstractStringBuilder" "count" "I" (.int 0)) :
    Met E (⟨"java/lang/StringBuilder", "<init>", "()V"⟩ : MethodName) jdk_67_method_1_code 1 none ({ frames := 2, cells := 1, slots := 16, locals := 25 } : Room) #[.ref s] h F (fun r h' F' => ∃ (v : Addr) (k : ClassId), r = none ∧ v :: F = F' ∧ Keep h h' [s] ∧ h.size ≤ v ∧ SbV E h' s v k []) := by
  refine met_of (by decide +kernel) fun x T hQ B W => ?_
  refine G.cast (g' := fr x 0 #[.val (.ref s)] []) (by simp [entryFrame, mkF, argsToLocals, Own.cat_r, Own.cat_i, Own.cat_j, Own.cat_n]) ?_
  refine w_aloadN W B d_sbi_0 rfl rfl ?_
  refine w_bipush W B d_sbi_1 (v := (16 : Int32)) rfl ?_
  refine w_special W B (y := ⟨"java/lang/AbstractStringBuilder", "<init>", "(I)V"⟩) d_sbi_3 rfl (wd hw 105 rfl) (wd hw 106 rfl) (wd hw 109 rfl) (wd hw 110 rfl) (by decide) pd__I_V240 (argsL := [(.int (16 : Int32))]) rfl rfl rfl (Wt := 0) (Nat.le_of_eq rfl) (asbi_met hw hs Es fv fc fn) (by decide) (by decide) (by decide) (by decide) ?_
  intro T1 h2 F3 v4 W5 Q6
  obtain ⟨v, k, rfl, rfl, K, g, S⟩ := Q6
  show G E x T1 (fr x 6 #[.val (.ref s)] [])
  exact w_return W5 B d_sbi_6 hQ (by decide) (by decide) (fun _ q => q) ⟨v, k, rfl, rfl, K, g, S⟩
set_option maxRecDepth 65536 in
set_option maxHeartbeats 4000000 in
theorem ens_met {E : Gl} (hw : Tb E) {h : Heap} {F : List Addr} {s v : Addr} {k : ClassId} {cs : List Int32} {m : Int32} (S : SbV E h s v k cs) (hm : ¬ (0 : Int32) < m - ((16 : Int32) >>> ((0 : Int32) &&& 31))) :
    Met E (⟨"java/lang/AbstractStringBuilder", "ensureCapacityInternal", "(I)V"⟩ : MethodName) jdk_68_method_9_code 3 none ({ frames := 0, cells := 0, slots := 0, locals := 0 } : Room) #[.ref s, .int m] h F (fun r h' F' => r = none ∧ h = h' ∧ F = F') := by
  refine met_of (by decide +kernel) fun x T hQ B W => ?_
  refine G.cast (g' := fr x 0 #[.val (.ref s), .val (.int m), .unset] []) (by simp [entryFrame, mkF, argsToLocals, Own.cat_r, Own.cat_i, Own.cat_j, Own.cat_n]) ?_
  refine w_aloadN W B d_ens_0 rfl rfl ?_
  refine w_getF W B d_ens_1 (wd hw 113 rfl) Via.refl S.2.1 ?_
  intro T1 W2
  refine w_arraylength W2 B d_ens_4 S.2.2.2.2 ?_
  refine w_aloadN W2 B d_ens_5 rfl rfl ?_
  refine w_getF W2 B d_ens_6 (wd hw 115 rfl) Via.refl S.2.2.1 ?_
  intro T3 W4
  refine w_ishr W4 B d_ens_9 ?_
  refine w_istoreN W4 B d_ens_10 (Ls' := #[.val (.ref s), .val (.int m), .val (.int ((16 : Int32) >>> ((0 : Int32) &&& 31)))]) rfl ?_
  refine w_iloadN W4 B d_ens_11 rfl ?_
  refine w_iloadN W4 B d_ens_12 rfl ?_
  refine w_isub W4 B d_ens_13 ?_
  refine w_if_le W4 B d_ens_14 (fun _ => ?_) (fun q => absurd q hm)
  show G E x T3 (fr x 38 #[.val (.ref s), .val (.int m), .val (.int ((16 : Int32) >>> ((0 : Int32) &&& 31)))] [])
  exact w_return W4 B d_ens_38 hQ (by decide) (by decide) (fun _ q => q) ⟨rfl, rfl, rfl⟩
set_option maxRecDepth 65536 in
set_option maxHeartbeats 4000000 in
theorem infl_met {E : Gl} (hw : Tb E) {h : Heap} {F : List Addr} {s v t tv : Addr} {k kt : ClassId} {cs ds : List Int32} (S : SbV E h s v k cs) (St : StrL E h t tv kt ds) :
    Met E (⟨"java/lang/AbstractStringBuilder", "inflateIfNeededFor", "(Ljava/lang/String;)V"⟩ : MethodName) jdk_68_method_71_code 2 none ({ frames := 1, cells := 0, slots := 0, locals := 13 } : Room) #[.ref s, .ref t] h F (fun r h' F' => r = none ∧ h = h' ∧ F = F') := by
  refine met_of (by decide +kernel) fun x T hQ B W => ?_
  refine G.cast (g' := fr x 0 #[.val (.ref s), .val (.ref t)] []) (by simp [entryFrame, mkF, argsToLocals, Own.cat_r, Own.cat_i, Own.cat_j, Own.cat_n]) ?_
  obtain ⟨z, Sc, hz⟩ := compact hw
  refine w_getS W B d_infl_0 (wd hw 112 rfl) Via.refl Sc ?_
  intro T1 W2
  refine w_if_eq W2 B d_infl_3 (fun q => absurd q hz) (fun _ => ?_)
  show G E x T1 (fr x 6 #[.val (.ref s), .val (.ref t)] [])
  refine w_aloadN W2 B d_infl_6 rfl rfl ?_
  refine w_getF W2 B d_infl_7 (wd hw 115 rfl) Via.refl S.2.2.1 ?_
  intro T3 W4
  refine w_aloadN W4 B d_infl_10 rfl rfl ?_
  refine w_virtual W4 B (y := ⟨"java/lang/String", "coder", "()B"⟩) (z := ⟨"java/lang/String", "coder", "()B"⟩) d_infl_11 (wd hw 162 rfl) (wd hw 70 rfl) (nf_sel (wd hw 72 rfl)) (wd hw 72 rfl) (wd hw 71 rfl) (wd hw 25 rfl) (wd hw 73 rfl) (by decide) St.1 pd___B147 (argsL := []) rfl rfl rfl (Wt := 1) (Nat.le_of_eq rfl) (scod_met hw (c := 0) rfl St.2.2.1) (by decide) (by decide) (by decide) (by decide) ?_
  intro T5 h6 F7 v8 W9 Q10
  obtain ⟨rfl, rfl, rfl⟩ := Q10
  show G E x T5 (fr x 14 #[.val (.ref s), .val (.ref t)] [(.int (0 : Int32)), (.int (0 : Int32))])
  refine w_icmp_eq W9 B d_infl_14 (fun _ => ?_) (fun q => q rfl |>.elim)
  show G E x T5 (fr x 21 #[.val (.ref s), .val (.ref t)] [])
  exact w_return W9 B d_infl_21 hQ (by decide) (by decide) (fun _ q => q) ⟨rfl, rfl, rfl⟩
set_option maxRecDepth 65536 in
set_option maxHeartbeats 4000000 in
theorem gby_met {E : Gl} (hw : Tb E) {h : Heap} {F : List Addr} {v t tv : Addr} {k kt : ClassId} {cs ds : List Int32} (hv : v ∈ F) (St : StrL E h t tv kt ds) (Av : Arv E.Z h v k .byte (16 : Int32) (b8 cs ++ List.replicate (16 - cs.length) (Value.int 0)) (.int 0)) (hlen : cs.length + ds.length ≤ 16) :
    Met E (⟨"java/lang/String", "getBytes", "([BIB)V"⟩ : MethodName) jdk_42_method_147_code 4 none ({ frames := 1, cells := 0, slots := 0, locals := 18 } : Room) #[.ref t, .ref v, .int cs.length.toInt32, .int 0] h F (fun r h' F' => r = none ∧ F = F' ∧ Keep h h' [v] ∧ Arv E.Z h' v k .byte (16 : Int32) (b8 (cs ++ ds) ++ List.replicate (16 - (cs ++ ds).length) (Value.int 0)) (.int 0)) := by
  refine met_of (by decide +kernel) fun x T hQ B W => ?_
  refine G.cast (g' := fr x 0 #[.val (.ref t), .val (.ref v), .val (.int cs.length.toInt32), .val (.int (0 : Int32))] []) (by simp [entryFrame, mkF, argsToLocals, Own.cat_r, Own.cat_i, Own.cat_j, Own.cat_n]) ?_
  have hc : cs.length < 2 ^ 31 := by omega
  have hd : ds.length < 2 ^ 31 := by omega
  refine w_aloadN W B d_gby_0 rfl rfl ?_
  refine w_virtual W B (y := ⟨"java/lang/String", "coder", "()B"⟩) (z := ⟨"java/lang/String", "coder", "()B"⟩) d_gby_1 (wd hw 69 rfl) (wd hw 70 rfl) (nf_sel (wd hw 72 rfl)) (wd hw 72 rfl) (wd hw 71 rfl) (wd hw 25 rfl) (wd hw 73 rfl) (by decide) St.1 pd___B147 (argsL := []) rfl rfl rfl (Wt := 0) (Nat.le_of_eq rfl) (scod_met hw (c := 0) rfl St.2.2.1) (by decide) (by decide) (by decide) (by decide) ?_
  intro T1 h2 F3 v4 W5 Q6
  obtain ⟨rfl, rfl, rfl⟩ := Q6
  show G E x T1 (fr x 4 #[.val (.ref t), .val (.ref v), .val (.int cs.length.toInt32), .val (.int (0 : Int32))] [(.int (0 : Int32))])
  refine w_iloadN W5 B d_gby_4 rfl ?_
  refine w_icmp_ne W5 B d_gby_5 (fun q => q rfl |>.elim) (fun _ => ?_)
  show G E x T1 (fr x 8 #[.val (.ref t), .val (.ref v), .val (.int cs.length.toInt32), .val (.int (0 : Int32))] [])
  refine w_aloadN W5 B d_gby_8 rfl rfl ?_
  refine w_getF W5 B d_gby_9 (wd hw 50 rfl) Via.refl St.2.1 ?_
  intro T7 W8
  refine w_iconst W8 B d_gby_12 (v := (0 : Int32)) rfl ?_
  refine w_aloadN W8 B d_gby_13 rfl rfl ?_
  refine w_iloadN W8 B d_gby_14 rfl ?_
  refine w_iloadN W8 B d_gby_15 rfl ?_
  refine w_ishl W8 B d_gby_16 ?_
  rw [shl0]
  show G E x T7 (fr x 17 #[.val (.ref t), .val (.ref v), .val (.int cs.length.toInt32), .val (.int (0 : Int32))] [(.int cs.length.toInt32), (.ref v), (.int (0 : Int32)), (.ref tv)])
  refine w_aloadN W8 B d_gby_17 rfl rfl ?_
  refine w_getF W8 B d_gby_18 (wd hw 50 rfl) Via.refl St.2.1 ?_
  intro T9 W10
  refine w_arraylength W10 B d_gby_21 St.2.2.2 ?_
  refine w_arraycopy W10 B d_gby_22 (wd hw 168 rfl) (wd hw 171 rfl) (wd hw 169 rfl) (wd hw 170 rfl) hv St.2.2.2 Av rfl (by decide) (n_nn hc) (n_nn hd) (by rw [n_clamp hd]; exact Nat.le_of_eq (Nat.zero_add _)) (by rw [n_clamp hc, n_clamp hd]; exact hlen) (us := (b8 ds).take ds.length) (us_all hd (Nat.le_of_eq (b8_len ds).symm)) (by rw [n_clamp hc, n_clamp hd, List.length_append, b8_len, List.length_replicate]; omega) rfl (by decide) (Wt := 0) (Nat.le_of_eq rfl) (by decide) ?_
  intro T11 h12 W13 K14 A15
  have A16 : Arv E.Z h12 v k .byte (16 : Int32) (b8 (cs ++ ds) ++ List.replicate (16 - (cs ++ ds).length) (Value.int 0)) (.int 0) := (put_b8 hlen) ▸ A15
  show G E x T11 (fr x 25 #[.val (.ref t), .val (.ref v), .val (.int cs.length.toInt32), .val (.int (0 : Int32))] [])
  refine w_goto W13 B d_gby_25 ?_
  have KK17 : Keep h h12 [v] := (Keep.refl h [v]).trans K14 (allS (Or.inl (List.Mem.head _)) all0)
  exact w_return W13 B d_gby_43 hQ (by decide) (by decide) (fun _ q => q) ⟨rfl, rfl, KK17, A16⟩
set_option maxRecDepth 65536 in
set_option maxHeartbeats 4000000 in
theorem pst_met {E : Gl} (hw : Tb E) {h : Heap} {F : List Addr} {s v t tv : Addr} {k kt : ClassId} {cs ds : List Int32} (hv : v ∈ F) (S : SbV E h s v k cs) (St : StrL E h t tv kt ds) (hlen : cs.length + ds.length ≤ 16) :
    Met E (⟨"java/lang/AbstractStringBuilder", "putStringAt", "(ILjava/lang/String;)V"⟩ : MethodName) jdk_68_method_73_code 3 none ({ frames := 2, cells := 0, slots := 0, locals := 33 } : Room) #[.ref s, .int cs.length.toInt32, .ref t] h F (fun r h' F' => r = none ∧ F = F' ∧ Keep h h' [v] ∧ Arv E.Z h' v k .byte (16 : Int32) (b8 (cs ++ ds) ++ List.replicate (16 - (cs ++ ds).length) (Value.int 0)) (.int 0)) := by
  refine met_of (by decide +kernel) fun x T hQ B W => ?_
  refine G.cast (g' := fr x 0 #[.val (.ref s), .val (.int cs.length.toInt32), .val (.ref t)] []) (by simp [entryFrame, mkF, argsToLocals, Own.cat_r, Own.cat_i, Own.cat_j, Own.cat_n]) ?_
  refine w_aloadN W B d_pst_0 rfl rfl ?_
  refine w_aloadN W B d_pst_1 rfl rfl ?_
  refine w_private W B (y := ⟨"java/lang/AbstractStringBuilder", "inflateIfNeededFor", "(Ljava/lang/String;)V"⟩) d_pst_2 (wd hw 157 rfl) (wd hw 158 rfl) (wd hw 159 rfl) (nf_z (wd hw 160 rfl)) (wd hw 109 rfl) (wd hw 161 rfl) (by decide) S.1 pd__Ljava_lang_String__V866 (argsL := [(.ref t)]) rfl rfl rfl (Wt := 0) (Nat.le_of_eq rfl) (infl_met hw S St) (by decide) (by decide) (by decide) (by decide) ?_
  intro T1 h2 F3 v4 W5 Q6
  obtain ⟨rfl, rfl, rfl⟩ := Q6
  show G E x T1 (fr x 5 #[.val (.ref s), .val (.int cs.length.toInt32), .val (.ref t)] [])
  refine w_aloadN W5 B d_pst_5 rfl rfl ?_
  refine w_aloadN W5 B d_pst_6 rfl rfl ?_
  refine w_getF W5 B d_pst_7 (wd hw 113 rfl) Via.refl S.2.1 ?_
  intro T7 W8
  refine w_iloadN W8 B d_pst_10 rfl ?_
  refine w_aloadN W8 B d_pst_11 rfl rfl ?_
  refine w_getF W8 B d_pst_12 (wd hw 115 rfl) Via.refl S.2.2.1 ?_
  intro T9 W10
  refine w_virtual W10 B (y := ⟨"java/lang/String", "getBytes", "([BIB)V"⟩) (z := ⟨"java/lang/String", "getBytes", "([BIB)V"⟩) d_pst_15 (wd hw 163 rfl) (wd hw 164 rfl) (nf_sel (wd hw 166 rfl)) (wd hw 166 rfl) (wd hw 165 rfl) (wd hw 25 rfl) (wd hw 167 rfl) (by decide) St.1 pd___BIB_V463 (argsL := [(.ref v), (.int cs.length.toInt32), (.int (0 : Int32))]) rfl rfl rfl (Wt := 0) (Nat.le_of_eq rfl) (gby_met hw hv St S.2.2.2.2 hlen) (by decide) (by decide) (by decide) (by decide) ?_
  intro T11 h12 F13 v14 W15 Q16
  obtain ⟨rfl, rfl, K1, A1⟩ := Q16
  show G E x T11 (fr x 18 #[.val (.ref s), .val (.int cs.length.toInt32), .val (.ref t)] [])
  exact w_return W15 B d_pst_18 hQ (by decide) (by decide) (fun _ q => q) ⟨rfl, rfl, K1, A1⟩
set_option maxRecDepth 65536 in
set_option maxHeartbeats 4000000 in
theorem aap_met {E : Gl} (hw : Tb E) {h : Heap} {F : List Addr} {s v t tv : Addr} {k kt : ClassId} {cs ds : List Int32} (hs : s ∈ F) (hv : v ∈ F) (S : SbV E h s v k cs) (St : StrL E h t tv kt ds) (hlen : cs.length + ds.length ≤ 16) :
    Met E (⟨"java/lang/AbstractStringBuilder", "append", "(Ljava/lang/String;)Ljava/lang/AbstractStringBuilder;"⟩ : MethodName) jdk_68_method_22_code 3 (some (.object "java/lang/AbstractStringBuilder")) ({ frames := 3, cells := 0, slots := 0, locals := 47 } : Room) #[.ref s, .ref t] h F (fun r h' F' => r = some (.ref s) ∧ F = F' ∧ Keep h h' [s, v] ∧ SbV E h' s v k (cs ++ ds)) := by
  refine met_of (by decide +kernel) fun x T hQ B W => ?_
  refine G.cast (g' := fr x 0 #[.val (.ref s), .val (.ref t), .unset] []) (by simp [entryFrame, mkF, argsToLocals, Own.cat_r, Own.cat_i, Own.cat_j, Own.cat_n]) ?_
  refine w_aloadN W B d_aap_0 rfl rfl ?_
  refine w_ifnonnull_ref W B d_aap_1 ?_
  refine w_aloadN W B d_aap_9 rfl rfl ?_
  refine w_virtual W B (y := ⟨"java/lang/String", "length", "()I"⟩) (z := ⟨"java/lang/String", "length", "()I"⟩) d_aap_10 (wd hw 144 rfl) (wd hw 65 rfl) (nf_sel (wd hw 67 rfl)) (wd hw 67 rfl) (wd hw 66 rfl) (wd hw 25 rfl) (wd hw 68 rfl) (by decide) St.1 pd___I154 (argsL := []) rfl rfl rfl (Wt := 0) (Nat.le_of_eq rfl) (slen_met hw St) (by decide) (by decide) (by decide) (by decide) ?_
  intro T1 h2 F3 v4 W5 Q6
  obtain ⟨rfl, rfl, rfl⟩ := Q6
  show G E x T1 (fr x 13 #[.val (.ref s), .val (.ref t), .unset] [(.int ds.length.toInt32)])
  refine w_istoreN W5 B d_aap_13 (Ls' := #[.val (.ref s), .val (.ref t), .val (.int ds.length.toInt32)]) rfl ?_
  refine w_aloadN W5 B d_aap_14 rfl rfl ?_
  refine w_aloadN W5 B d_aap_15 rfl rfl ?_
  refine w_getF W5 B d_aap_16 (wd hw 145 rfl) Via.refl S.2.2.2.1 ?_
  intro T7 W8
  refine w_iloadN W8 B d_aap_19 rfl ?_
  refine w_iadd W8 B d_aap_20 ?_
  refine w_private W8 B (y := ⟨"java/lang/AbstractStringBuilder", "ensureCapacityInternal", "(I)V"⟩) d_aap_21 (wd hw 147 rfl) (wd hw 148 rfl) (wd hw 149 rfl) (nf_z (wd hw 150 rfl)) (wd hw 109 rfl) (wd hw 151 rfl) (by decide) S.1 pd__I_V240 (argsL := [(.int (cs.length.toInt32 + ds.length.toInt32))]) rfl rfl rfl (Wt := 0) (Nat.le_of_eq rfl) (ens_met hw S (by rw [n_add]; exact ens_ok hlen)) (by decide) (by decide) (by decide) (by decide) ?_
  intro T9 h10 F11 v12 W13 Q14
  obtain ⟨rfl, rfl, rfl⟩ := Q14
  show G E x T9 (fr x 24 #[.val (.ref s), .val (.ref t), .val (.int ds.length.toInt32)] [])
  refine w_aloadN W13 B d_aap_24 rfl rfl ?_
  refine w_aloadN W13 B d_aap_25 rfl rfl ?_
  refine w_getF W13 B d_aap_26 (wd hw 145 rfl) Via.refl S.2.2.2.1 ?_
  intro T15 W16
  refine w_aloadN W16 B d_aap_29 rfl rfl ?_
  refine w_private W16 B (y := ⟨"java/lang/AbstractStringBuilder", "putStringAt", "(ILjava/lang/String;)V"⟩) d_aap_30 (wd hw 152 rfl) (wd hw 153 rfl) (wd hw 154 rfl) (nf_z (wd hw 155 rfl)) (wd hw 109 rfl) (wd hw 156 rfl) (by decide) S.1 pd__ILjava_lang_String__V939 (argsL := [(.int cs.length.toInt32), (.ref t)]) rfl rfl rfl (Wt := 0) (Nat.le_of_eq rfl) (pst_met hw hv S St hlen) (by decide) (by decide) (by decide) (by decide) ?_
  intro T17 h18 F19 v20 W21 Q22
  obtain ⟨rfl, rfl, K1, A1⟩ := Q22
  show G E x T17 (fr x 33 #[.val (.ref s), .val (.ref t), .val (.int ds.length.toInt32)] [])
  refine w_aloadN W21 B d_aap_33 rfl rfl ?_
  refine w_dup W21 B d_aap_34 rfl ?_
  refine w_getF W21 B d_aap_35 (wd hw 145 rfl) Via.refl (S.2.2.2.1.keep K1 (ninS (Exa.neArv S.1 S.2.2.2.2 (wd hw 100 rfl)) nin0)) ?_
  intro T23 W24
  refine w_iloadN W24 B d_aap_38 rfl ?_
  refine w_iadd W24 B d_aap_39 ?_
  refine w_putF W24 B d_aap_40 hs (wd hw 145 rfl) Via.refl (S.2.2.2.1.keep K1 (ninS (Exa.neArv S.1 S.2.2.2.2 (wd hw 100 rfl)) nin0)) (S.1.keep K1) (Or.inl (wd hw 146 rfl)) (wd hw 100 rfl) (ty := .int) (v' := (.int (cs.length.toInt32 + ds.length.toInt32))) (by decide) rfl rfl ?_
  intro T25 h26 W27 Y28 f29
  refine w_aloadN W27 B d_aap_43 rfl rfl ?_
  have KK30 : Keep h h18 [s, v] := (Keep.refl h [s, v]).trans K1 (allS (Or.inl (List.Mem.tail _ (List.Mem.head _))) all0)
  have KK31 : Keep h h26 [s, v] := KK30.wr Y28 (Or.inl (List.Mem.head _))
  have fN : Fld E.Z h26 s "java/lang/AbstractStringBuilder" "count" "I" (.int (cs ++ ds).length.toInt32) := by rw [List.length_append, ← n_add]; exact f29
  exact w_areturn W27 B d_aap_44 rfl rfl hQ (by decide) (by decide) (fun _ q => q) ⟨rfl, rfl, KK31, ⟨((S.1.keep K1).wr Y28), ((S.2.1.keep K1 (ninS (Exa.neArv S.1 S.2.2.2.2 (wd hw 100 rfl)) nin0)).other Y28 (Or.inr (slot_ne (Or.inl (wd hw 114 rfl)) (Or.inl (wd hw 146 rfl)) (t := (.array .byte)) (t' := .int) (by decide) (by decide) (by decide)))), ((S.2.2.1.keep K1 (ninS (Exa.neArv S.1 S.2.2.2.2 (wd hw 100 rfl)) nin0)).other Y28 (Or.inr (slot_ne (Or.inl (wd hw 116 rfl)) (Or.inl (wd hw 146 rfl)) (t := .byte) (t' := .int) (by decide) (by decide) (by decide)))), fN, (A1.other Y28 (Ne.symm (Exa.neArv S.1 S.2.2.2.2 (wd hw 100 rfl))))⟩⟩
set_option maxRecDepth 65536 in
set_option maxHeartbeats 4000000 in
theorem sap_met {E : Gl} (hw : Tb E) {h : Heap} {F : List Addr} {s v t tv : Addr} {k kt : ClassId} {cs ds : List Int32} (hs : s ∈ F) (hv : v ∈ F) (S : SbV E h s v k cs) (St : StrL E h t tv kt ds) (hlen : cs.length + ds.length ≤ 16) :
    Met E (⟨"java/lang/StringBuilder", "append", "(Ljava/lang/String;)Ljava/lang/StringBuilder;"⟩ : MethodName) jdk_67_method_7_code 2 (some (.object "java/lang/StringBuilder")) ({ frames := 4, cells := 0, slots := 0, locals := 61 } : Room) #[.ref s, .ref t] h F (fun r h' F' => r = some (.ref s) ∧ F = F' ∧ Keep h h' [s, v] ∧ SbV E h' s v k (cs ++ ds)) := by
  refine met_of (by decide +kernel) fun x T hQ B W => ?_
  refine G.cast (g' := fr x 0 #[.val (.ref s), .val (.ref t)] []) (by simp [entryFrame, mkF, argsToLocals, Own.cat_r, Own.cat_i, Own.cat_j, Own.cat_n]) ?_
  refine w_aloadN W B d_sap_0 rfl rfl ?_
  refine w_aloadN W B d_sap_1 rfl rfl ?_
  refine w_super W B (y := ⟨"java/lang/AbstractStringBuilder", "append", "(Ljava/lang/String;)Ljava/lang/AbstractStringBuilder;"⟩) d_sap_2 (by decide) (wd hw 139 rfl) (wd hw 140 rfl) (wd hw 141 rfl) (Own.nf_class (nf_z (wd hw 150 rfl)) (wd hw 148 rfl) rfl) (wd hw 109 rfl) (wd hw 143 rfl) (by decide) (Ins.self S.1) pd__Ljava_lang_String__Ljava_lang_AbstractStringBuilder_19 (argsL := [(.ref t)]) rfl rfl rfl (Wt := 0) (Nat.le_of_eq rfl) (aap_met hw hs hv S St hlen) (by decide) (by decide) (by decide) (by decide) ?_
  intro T1 h2 F3 v4 W5 Q6
  obtain ⟨rfl, rfl, K, S2⟩ := Q6
  show G E x T1 (fr x 5 #[.val (.ref s), .val (.ref t)] [(.ref s)])
  refine w_pop W5 B d_sap_5 rfl ?_
  refine w_aloadN W5 B d_sap_6 rfl rfl ?_
  exact w_areturn W5 B d_sap_7 rfl rfl hQ (by decide) (by decide) (fun _ q => q) ⟨rfl, rfl, K, S2⟩
set_option maxRecDepth 65536 in
set_option maxHeartbeats 4000000 in
theorem getv_met {E : Gl} (hw : Tb E) {h : Heap} {F : List Addr} {s v : Addr} {k : ClassId} {cs : List Int32} (S : SbV E h s v k cs) :
    Met E (⟨"java/lang/AbstractStringBuilder", "getValue", "()[B"⟩ : MethodName) jdk_68_method_64_code 1 (some (.array .byte)) ({ frames := 0, cells := 0, slots := 0, locals := 0 } : Room) #[.ref s] h F (fun r h' F' => r = some (.ref v) ∧ h = h' ∧ F = F') := by
  refine met_of (by decide +kernel) fun x T hQ B W => ?_
  refine G.cast (g' := fr x 0 #[.val (.ref s)] []) (by simp [entryFrame, mkF, argsToLocals, Own.cat_r, Own.cat_i, Own.cat_j, Own.cat_n]) ?_
  refine w_aloadN W B d_getv_0 rfl rfl ?_
  refine w_getF W B d_getv_1 (wd hw 113 rfl) Via.refl S.2.1 ?_
  intro T1 W2
  exact w_areturn W2 B d_getv_4 rfl rfl hQ (by decide) (by decide) (fun _ q => q) ⟨rfl, rfl, rfl⟩
set_option maxRecDepth 65536 in
set_option maxHeartbeats 4000000 in
theorem alen_met {E : Gl} (hw : Tb E) {h : Heap} {F : List Addr} {s v : Addr} {k : ClassId} {cs : List Int32} (S : SbV E h s v k cs) :
    Met E (⟨"java/lang/AbstractStringBuilder", "length", "()I"⟩ : MethodName) jdk_68_method_6_code 1 (some .int) ({ frames := 0, cells := 0, slots := 0, locals := 0 } : Room) #[.ref s] h F (fun r h' F' => r = some (.int cs.length.toInt32) ∧ h = h' ∧ F = F') := by
  refine met_of (by decide +kernel) fun x T hQ B W => ?_
  refine G.cast (g' := fr x 0 #[.val (.ref s)] []) (by simp [entryFrame, mkF, argsToLocals, Own.cat_r, Own.cat_i, Own.cat_j, Own.cat_n]) ?_
  refine w_aloadN W B d_alen_0 rfl rfl ?_
  refine w_getF W B d_alen_1 (wd hw 145 rfl) Via.refl S.2.2.2.1 ?_
  intro T1 W2
  exact w_ireturn W2 B d_alen_4 hQ (by decide) (by decide) (fun _ q => q) ⟨rfl, rfl, rfl⟩
set_option maxRecDepth 65536 in
set_option maxHeartbeats 4000000 in
theorem blen_met {E : Gl} (hw : Tb E) {h : Heap} {F : List Addr} {s v : Addr} {k : ClassId} {cs : List Int32} (S : SbV E h s v k cs) :
    Met E (⟨"java/lang/StringBuilder", "length", "()I"⟩ : MethodName) jdk_67_method_93_code 1 (some .int) ({ frames := 1, cells := 0, slots := 0, locals := 12 } : Room) #[.ref s] h F (fun r h' F' => r = some (.int cs.length.toInt32) ∧ h = h' ∧ F = F') := by
  refine met_of (by decide +kernel) fun x T hQ B W => ?_
  refine G.cast (g' := fr x 0 #[.val (.ref s)] []) (by simp [entryFrame, mkF, argsToLocals, Own.cat_r, Own.cat_i, Own.cat_j, Own.cat_n]) ?_
  refine w_aloadN W B d_blen_0 rfl rfl ?_
  refine w_super W B (y := ⟨"java/lang/AbstractStringBuilder", "length", "()I"⟩) d_blen_1 (by decide) (wd hw 195 rfl) (wd hw 191 rfl) (wd hw 141 rfl) (Own.nf_class (nf_z (wd hw 150 rfl)) (wd hw 148 rfl) rfl) (wd hw 109 rfl) (wd hw 196 rfl) (by decide) (Ins.self S.1) pd___I154 (argsL := []) rfl rfl rfl (Wt := 0) (Nat.le_of_eq rfl) (alen_met hw S) (by decide) (by decide) (by decide) (by decide) ?_
  intro T1 h2 F3 v4 W5 Q6
  obtain ⟨rfl, rfl, rfl⟩ := Q6
  show G E x T1 (fr x 4 #[.val (.ref s)] [(.int cs.length.toInt32)])
  exact w_ireturn W5 B d_blen_4 hQ (by decide) (by decide) (fun _ q => q) ⟨rfl, rfl, rfl⟩
set_option maxRecDepth 65536 in
set_option maxHeartbeats 4000000 in
theorem alat_met {E : Gl} (hw : Tb E) {h : Heap} {F : List Addr} {s v : Addr} {k : ClassId} {cs : List Int32} (S : SbV E h s v k cs) :
    Met E (⟨"java/lang/AbstractStringBuilder", "isLatin1", "()Z"⟩ : MethodName) jdk_68_method_68_code 1 (some .boolean) ({ frames := 0, cells := 0, slots := 0, locals := 0 } : Room) #[.ref s] h F (fun r h' F' => r = some (.int 1) ∧ h = h' ∧ F = F') := by
  refine met_of (by decide +kernel) fun x T hQ B W => ?_
  refine G.cast (g' := fr x 0 #[.val (.ref s)] []) (by simp [entryFrame, mkF, argsToLocals, Own.cat_r, Own.cat_i, Own.cat_j, Own.cat_n]) ?_
  obtain ⟨z, Sc, hz⟩ := compact hw
  refine w_getS W B d_alat_0 (wd hw 112 rfl) Via.refl Sc ?_
  intro T1 W2
  refine w_if_eq W2 B d_alat_3 (fun q => absurd q hz) (fun _ => ?_)
  show G E x T1 (fr x 6 #[.val (.ref s)] [])
  refine w_aloadN W2 B d_alat_6 rfl rfl ?_
  refine w_getF W2 B d_alat_7 (wd hw 115 rfl) Via.refl S.2.2.1 ?_
  intro T3 W4
  refine w_if_ne W4 B d_alat_10 (fun q => q rfl |>.elim) (fun _ => ?_)
  show G E x T3 (fr x 13 #[.val (.ref s)] [])
  refine w_iconst W4 B d_alat_13 (v := (1 : Int32)) rfl ?_
  refine w_goto W4 B d_alat_14 ?_
  exact w_ireturnN W4 B d_alat_18 (Or.inl rfl) (u := 1) rfl hQ (by decide) (by decide) (fun _ q => q) ⟨rfl, rfl, rfl⟩
set_option maxRecDepth 65536 in
set_option maxHeartbeats 4000000 in
theorem mmin_met {E : Gl} (hw : Tb E) {h : Heap} {F : List Addr} {a b : Int32} (hab : b < a) :
    Met E (⟨"java/lang/Math", "min", "(II)I"⟩ : MethodName) jdk_29_method_69_code 2 (some .int) ({ frames := 0, cells := 0, slots := 0, locals := 0 } : Room) #[.int a, .int b] h F (fun r h' F' => r = some (.int b) ∧ h = h' ∧ F = F') := by
  refine met_of (by decide +kernel) fun x T hQ B W => ?_
  refine G.cast (g' := fr x 0 #[.val (.int a), .val (.int b)] []) (by simp [entryFrame, mkF, argsToLocals, Own.cat_r, Own.cat_i, Own.cat_j, Own.cat_n]) ?_
  refine w_iloadN W B d_mmin_0 rfl ?_
  refine w_iloadN W B d_mmin_1 rfl ?_
  refine w_icmp_gt W B d_mmin_2 (fun _ => ?_) (fun q => q hab |>.elim)
  show G E x T (fr x 9 #[.val (.int a), .val (.int b)] [])
  refine w_iloadN W B d_mmin_9 rfl ?_
  exact w_ireturn W B d_mmin_10 hQ (by decide) (by decide) (fun _ q => q) ⟨rfl, rfl, rfl⟩
set_option maxRecDepth 65536 in
set_option maxHeartbeats 4000000 in
theorem ckl_met {E : Gl} (hw : Tb E) {h : Heap} {F : List Addr} {a b : Int32} (hab : ¬ b < a) :
    Met E (⟨"java/util/Arrays", "checkLength", "(II)V"⟩ : MethodName) jdk_65_method_131_code 2 none ({ frames := 0, cells := 0, slots := 0, locals := 0 } : Room) #[.int a, .int b] h F (fun r h' F' => r = none ∧ h = h' ∧ F = F') := by
  refine met_of (by decide +kernel) fun x T hQ B W => ?_
  refine G.cast (g' := fr x 0 #[.val (.int a), .val (.int b)] []) (by simp [entryFrame, mkF, argsToLocals, Own.cat_r, Own.cat_i, Own.cat_j, Own.cat_n]) ?_
  refine w_iloadN W B d_ckl_0 rfl ?_
  refine w_iloadN W B d_ckl_1 rfl ?_
  refine w_icmp_ge W B d_ckl_2 (fun _ => ?_) (fun q => absurd q hab)
  show G E x T (fr x 37 #[.val (.int a), .val (.int b)] [])
  exact w_return W B d_ckl_37 hQ (by decide) (by decide) (fun _ q => q) ⟨rfl, rfl, rfl⟩
set_option maxRecDepth 65536 in
set_option maxHeartbeats 4000000 in
theorem cprb_met {E : Gl} (hw : Tb E) {h : Heap} {F : List Addr} {v : Addr} {k : ClassId} {cs : List Int32} (Av : Arv E.Z h v k .byte (16 : Int32) (b8 cs ++ List.replicate (16 - cs.length) (Value.int 0)) (.int 0)) (hlen : cs.length < 16) :
    Met E (⟨"java/util/Arrays", "copyOfRangeByte", "([BII)[B"⟩ : MethodName) jdk_65_method_133_code 5 (some (.array .byte)) ({ frames := 1, cells := 1, slots := 16, locals := 18 } : Room) #[.ref v, .int 0, .int cs.length.toInt32] h F (fun r h' F' => ∃ (b : Addr) (k : ClassId), r = some (.ref b) ∧ F = F' ∧ h.size ≤ b ∧ Keep h h' [] ∧ Arv E.Z h' b k .byte cs.length.toInt32 (b8 cs) (.int 0)) := by
  refine met_of (by decide +kernel) fun x T hQ B W => ?_
  refine G.cast (g' := fr x 0 #[.val (.ref v), .val (.int (0 : Int32)), .val (.int cs.length.toInt32), .unset, .unset] []) (by simp [entryFrame, mkF, argsToLocals, Own.cat_r, Own.cat_i, Own.cat_j, Own.cat_n]) ?_
  have hc : cs.length < 2 ^ 31 := by omega
  refine w_iloadN W B d_cprb_0 rfl ?_
  refine w_iloadN W B d_cprb_1 rfl ?_
  refine w_static W B (y := ⟨"java/util/Arrays", "checkLength", "(II)V"⟩) d_cprb_2 (wd hw 208 rfl) (wd hw 209 rfl) (wd hw 128 rfl) (wd hw 210 rfl) (by decide) pd__II_V313 (argsL := [(.int (0 : Int32)), (.int cs.length.toInt32)]) rfl rfl rfl (Wt := 0) (Nat.le_of_eq rfl) (ckl_met hw (n_nn hc)) (by decide) (by decide) (by decide) (by decide) ?_
  intro T1 h2 F3 v4 W5 Q6
  obtain ⟨rfl, rfl, rfl⟩ := Q6
  show G E x T1 (fr x 5 #[.val (.ref v), .val (.int (0 : Int32)), .val (.int cs.length.toInt32), .unset, .unset] [])
  refine w_iloadN W5 B d_cprb_5 rfl ?_
  refine w_iloadN W5 B d_cprb_6 rfl ?_
  refine w_isub W5 B d_cprb_7 ?_
  rw [Int32.sub_zero]
  show G E x T1 (fr x 8 #[.val (.ref v), .val (.int (0 : Int32)), .val (.int cs.length.toInt32), .unset, .unset] [(.int cs.length.toInt32)])
  refine w_istoreN W5 B d_cprb_8 (Ls' := #[.val (.ref v), .val (.int (0 : Int32)), .val (.int cs.length.toInt32), .val (.int cs.length.toInt32), .unset]) rfl ?_
  refine w_iloadN W5 B d_cprb_9 rfl ?_
  refine w_newarray W5 B d_cprb_10 rfl (wd hw 41 rfl) (n_nn hc) (cap := 16) (by rw [n_clamp hc]; omega) (by decide) (by decide) (by decide) ?_
  intro T7 h8 b9 k10 W11 g12 X13 A14
  show G E x T7 (fr x 12 #[.val (.ref v), .val (.int (0 : Int32)), .val (.int cs.length.toInt32), .val (.int cs.length.toInt32), .unset] [(.ref b9)])
  refine w_astore W11 B d_cprb_12 rfl (Ls' := #[.val (.ref v), .val (.int (0 : Int32)), .val (.int cs.length.toInt32), .val (.int cs.length.toInt32), .val (.ref b9)]) rfl ?_
  refine w_aloadN W11 B d_cprb_14 rfl rfl ?_
  refine w_iloadN W11 B d_cprb_15 rfl ?_
  refine w_aload W11 B d_cprb_16 rfl rfl ?_
  refine w_iconst W11 B d_cprb_18 (v := (0 : Int32)) rfl ?_
  refine w_aloadN W11 B d_cprb_19 rfl rfl ?_
  refine w_arraylength W11 B d_cprb_20 (Av.ext X13) ?_
  refine w_iloadN W11 B d_cprb_21 rfl ?_
  refine w_isub W11 B d_cprb_22 ?_
  rw [Int32.sub_zero]
  show G E x T7 (fr x 23 #[.val (.ref v), .val (.int (0 : Int32)), .val (.int cs.length.toInt32), .val (.int cs.length.toInt32), .val (.ref b9)] [(.int (16 : Int32)), (.int (0 : Int32)), (.ref b9), (.int (0 : Int32)), (.ref v)])
  refine w_iloadN W11 B d_cprb_23 rfl ?_
  refine w_static W11 B (y := ⟨"java/lang/Math", "min", "(II)I"⟩) d_cprb_24 (wd hw 211 rfl) (wd hw 212 rfl) (wd hw 213 rfl) (wd hw 214 rfl) (by decide) pd__II_I300 (argsL := [(.int (16 : Int32)), (.int cs.length.toInt32)]) rfl rfl rfl (Wt := 4) (Nat.le_of_eq rfl) (mmin_met hw (show cs.length.toInt32 < 16 from (n_lt hc (n := 16) (by decide)).mpr hlen)) (by decide) (by decide) (by decide) (by decide) ?_
  intro T15 h16 F17 v18 W19 Q20
  obtain ⟨rfl, rfl, rfl⟩ := Q20
  show G E x T15 (fr x 27 #[.val (.ref v), .val (.int (0 : Int32)), .val (.int cs.length.toInt32), .val (.int cs.length.toInt32), .val (.ref b9)] [(.int cs.length.toInt32), (.int (0 : Int32)), (.ref b9), (.int (0 : Int32)), (.ref v)])
  have A21 := A14.pad (pad_rep [] _ cs.length)
  refine w_arraycopy W19 B d_cprb_27 (wd hw 215 rfl) (wd hw 171 rfl) (wd hw 169 rfl) (wd hw 170 rfl) (List.Mem.head _) (Av.ext X13) A21 rfl (by decide) (by decide) (n_nn hc) (by rw [n_clamp hc]; show 0 + cs.length ≤ 16; omega) (by rw [n_clamp hc]; exact Nat.le_of_eq (Nat.zero_add _)) (us := (b8 cs ++ List.replicate (16 - cs.length) (Value.int 0)).take cs.length) (us_all hc (by rw [List.length_append, b8_len]; omega)) (by rw [n_clamp hc, List.nil_append, List.length_replicate]; exact Nat.le_of_eq (Nat.zero_add _)) rfl (by decide) (Wt := 0) (Nat.le_of_eq rfl) (by decide) ?_
  intro T22 h23 W24 K25 A26
  have A27 : Arv E.Z h23 b9 k10 .byte cs.length.toInt32 (b8 cs) (.int (0 : Int32)) := (get_b8 (Nat.le_of_lt hlen)) ▸ A26
  show G E x T22 (fr x 30 #[.val (.ref v), .val (.int (0 : Int32)), .val (.int cs.length.toInt32), .val (.int cs.length.toInt32), .val (.ref b9)] [])
  refine w_aload W24 B d_cprb_30 rfl rfl ?_
  have KK28 : Keep h h8 [] := (Keep.refl h []).ext X13
  have KK29 : Keep h h23 [] := KK28.trans K25 (allS (Or.inr (Nat.le_trans (Keep.refl h []).1 (Nat.le_of_eq g12.symm))) all0)
  exact w_areturn W24 B d_cprb_32 rfl rfl hQ (by decide) (by decide) (fun _ q => (List.Mem.tail _ q)) ⟨b9, _, rfl, rfl, Nat.le_of_eq g12.symm, KK29, A27⟩
set_option maxRecDepth 65536 in
set_option maxHeartbeats 4000000 in
theorem cpr_met {E : Gl} (hw : Tb E) {h : Heap} {F : List Addr} {v : Addr} {k : ClassId} {cs : List Int32} (Av : Arv E.Z h v k .byte (16 : Int32) (b8 cs ++ List.replicate (16 - cs.length) (Value.int 0)) (.int 0)) (hlen : cs.length < 16) :
    Met E (⟨"java/util/Arrays", "copyOfRange", "([BII)[B"⟩ : MethodName) jdk_65_method_132_code 3 (some (.array .byte)) ({ frames := 2, cells := 1, slots := 16, locals := 34 } : Room) #[.ref v, .int 0, .int cs.length.toInt32] h F (fun r h' F' => ∃ (b : Addr) (k : ClassId), r = some (.ref b) ∧ F = F' ∧ h.size ≤ b ∧ Keep h h' [] ∧ Arv E.Z h' b k .byte cs.length.toInt32 (b8 cs) (.int 0)) := by
  refine met_of (by decide +kernel) fun x T hQ B W => ?_
  refine G.cast (g' := fr x 0 #[.val (.ref v), .val (.int (0 : Int32)), .val (.int cs.length.toInt32)] []) (by simp [entryFrame, mkF, argsToLocals, Own.cat_r, Own.cat_i, Own.cat_j, Own.cat_n]) ?_
  have hc : cs.length < 2 ^ 31 := by omega
  refine w_iloadN W B d_cpr_0 rfl ?_
  refine w_if_ne W B d_cpr_1 (fun q => q rfl |>.elim) (fun _ => ?_)
  show G E x T (fr x 4 #[.val (.ref v), .val (.int (0 : Int32)), .val (.int cs.length.toInt32)] [])
  refine w_iloadN W B d_cpr_4 rfl ?_
  refine w_aloadN W B d_cpr_5 rfl rfl ?_
  refine w_arraylength W B d_cpr_6 Av ?_
  refine w_icmp_eq W B d_cpr_7 (fun q => absurd q (fun q => absurd ((n_eq hc (n := 16) (by decide)).mp q) (by omega))) (fun _ => ?_)
  show G E x T (fr x 10 #[.val (.ref v), .val (.int (0 : Int32)), .val (.int cs.length.toInt32)] [])
  refine w_aloadN W B d_cpr_10 rfl rfl ?_
  refine w_iloadN W B d_cpr_11 rfl ?_
  refine w_iloadN W B d_cpr_12 rfl ?_
  refine w_static W B (y := ⟨"java/util/Arrays", "copyOfRangeByte", "([BII)[B"⟩) d_cpr_13 (wd hw 205 rfl) (wd hw 206 rfl) (wd hw 128 rfl) (wd hw 207 rfl) (by decide) pd___BII__B541 (argsL := [(.ref v), (.int (0 : Int32)), (.int cs.length.toInt32)]) rfl rfl rfl (Wt := 0) (Nat.le_of_eq rfl) (cprb_met hw Av hlen) (by decide) (by decide) (by decide) (by decide) ?_
  intro T1 h2 F3 v4 W5 Q6
  obtain ⟨b, kb, rfl, rfl, g, K, A⟩ := Q6
  show G E x T1 (fr x 16 #[.val (.ref v), .val (.int (0 : Int32)), .val (.int cs.length.toInt32)] [(.ref b)])
  exact w_areturn W5 B d_cpr_16 rfl rfl hQ (by decide) (by decide) (fun _ q => q) ⟨b, kb, rfl, rfl, g, K, A⟩
set_option maxRecDepth 65536 in
set_option maxHeartbeats 4000000 in
theorem inia_met {E : Gl} (hw : Tb E) {h : Heap} {F : List Addr} {t s v : Addr} {k : ClassId} {cs : List Int32} (ht : t ∈ F) (Et : Exa E.Z h t "java/lang/String") (fv : Fld E.Z h t "java/lang/String" "value" "[B" .null) (fc : Fld E.Z h t "java/lang/String" "coder" "B" (.int 0)) (S : SbV E h s v k cs) (hlen : cs.length < 16) :
    Met E (⟨"java/lang/String", "<init>", "(Ljava/lang/AbstractStringBuilder;Ljava/lang/Void;)V"⟩ : MethodName) jdk_42_method_150_code 5 none ({ frames := 3, cells := 1, slots := 16, locals := 49 } : Room) #[.ref t, .ref s, .null] h F (fun r h' F' => r = none ∧ F = F' ∧ Keep h h' [t] ∧ ∃ (tv : Addr) (kt : ClassId), h.size ≤ tv ∧ StrL E h' t tv kt cs) := by
  refine met_of (by decide +kernel) fun x T hQ B W => ?_
  refine G.cast (g' := fr x 0 #[.val (.ref t), .val (.ref s), .val .null, .unset, .unset] []) (by simp [entryFrame, mkF, argsToLocals, Own.cat_r, Own.cat_i, Own.cat_j, Own.cat_n]) ?_
  refine w_aloadN W B d_inia_0 rfl rfl ?_
  refine w_initO W B d_inia_1 (wd hw 33 rfl) (wd hw 34 rfl) (wd hw 35 rfl) rfl (by decide) (Wt := 0) (Nat.le_of_eq rfl) (by decide) ?_
  intro T1 W2
  refine w_aloadN W2 B d_inia_4 rfl rfl ?_
  refine w_virtual W2 B (y := ⟨"java/lang/AbstractStringBuilder", "getValue", "()[B"⟩) (z := ⟨"java/lang/AbstractStringBuilder", "getValue", "()[B"⟩) d_inia_5 (wd hw 184 rfl) (wd hw 185 rfl) (nf_sel (wd hw 187 rfl)) (wd hw 187 rfl) (wd hw 186 rfl) (wd hw 109 rfl) (wd hw 188 rfl) (by decide) S.1 pd____B238 (argsL := []) rfl rfl rfl (Wt := 0) (Nat.le_of_eq rfl) (getv_met hw S) (by decide) (by decide) (by decide) (by decide) ?_
  intro T3 h4 F5 v6 W7 Q8
  obtain ⟨rfl, rfl, rfl⟩ := Q8
  show G E x T3 (fr x 8 #[.val (.ref t), .val (.ref s), .val .null, .unset, .unset] [(.ref v)])
  refine w_astoreN W7 B d_inia_8 rfl (Ls' := #[.val (.ref t), .val (.ref s), .val .null, .val (.ref v), .unset]) rfl ?_
  refine w_aloadN W7 B d_inia_9 rfl rfl ?_
  refine w_virtual W7 B (y := ⟨"java/lang/AbstractStringBuilder", "length", "()I"⟩) (z := ⟨"java/lang/StringBuilder", "length", "()I"⟩) d_inia_10 (wd hw 189 rfl) (wd hw 190 rfl) (Own.nf_classW (wd hw 150 rfl) (wd hw 148 rfl) rfl) (wd hw 192 rfl) (wd hw 193 rfl) (wd hw 101 rfl) (wd hw 194 rfl) (by decide) S.1 pd___I154 (argsL := []) rfl rfl rfl (Wt := 0) (Nat.le_of_eq rfl) (blen_met hw S) (by decide) (by decide) (by decide) (by decide) ?_
  intro T9 h10 F11 v12 W13 Q14
  obtain ⟨rfl, rfl, rfl⟩ := Q14
  show G E x T9 (fr x 13 #[.val (.ref t), .val (.ref s), .val .null, .val (.ref v), .unset] [(.int cs.length.toInt32)])
  refine w_istore W13 B d_inia_13 (Ls' := #[.val (.ref t), .val (.ref s), .val .null, .val (.ref v), .val (.int cs.length.toInt32)]) rfl ?_
  refine w_aloadN W13 B d_inia_15 rfl rfl ?_
  refine w_virtual W13 B (y := ⟨"java/lang/AbstractStringBuilder", "isLatin1", "()Z"⟩) (z := ⟨"java/lang/AbstractStringBuilder", "isLatin1", "()Z"⟩) d_inia_16 (wd hw 197 rfl) (wd hw 198 rfl) (nf_sel (wd hw 200 rfl)) (wd hw 200 rfl) (wd hw 199 rfl) (wd hw 109 rfl) (wd hw 201 rfl) (by decide) S.1 pd___Z171 (argsL := []) rfl rfl rfl (Wt := 0) (Nat.le_of_eq rfl) (alat_met hw S) (by decide) (by decide) (by decide) (by decide) ?_
  intro T15 h16 F17 v18 W19 Q20
  obtain ⟨rfl, rfl, rfl⟩ := Q20
  show G E x T15 (fr x 19 #[.val (.ref t), .val (.ref s), .val .null, .val (.ref v), .val (.int cs.length.toInt32)] [(.int (1 : Int32))])
  refine w_if_eq W19 B d_inia_19 (fun q => absurd q (by decide)) (fun _ => ?_)
  show G E x T15 (fr x 22 #[.val (.ref t), .val (.ref s), .val .null, .val (.ref v), .val (.int cs.length.toInt32)] [])
  refine w_aloadN W19 B d_inia_22 rfl rfl ?_
  refine w_iconst W19 B d_inia_23 (v := (0 : Int32)) rfl ?_
  refine w_putF W19 B d_inia_24 ht (wd hw 48 rfl) Via.refl fc Et (Or.inr ⟨(wd hw 49 rfl), rfl, rfl⟩) (wd hw 24 rfl) (ty := .byte) (v' := (.int (0 : Int32))) (by decide) rfl rfl ?_
  intro T21 h22 W23 Y24 f25
  refine w_aloadN W23 B d_inia_27 rfl rfl ?_
  refine w_aloadN W23 B d_inia_28 rfl rfl ?_
  refine w_iconst W23 B d_inia_29 (v := (0 : Int32)) rfl ?_
  refine w_iload W23 B d_inia_30 rfl ?_
  refine w_static W23 B (y := ⟨"java/util/Arrays", "copyOfRange", "([BII)[B"⟩) d_inia_32 (wd hw 202 rfl) (wd hw 203 rfl) (wd hw 128 rfl) (wd hw 204 rfl) (by decide) pd___BII__B541 (argsL := [(.ref v), (.int (0 : Int32)), (.int cs.length.toInt32)]) rfl rfl rfl (Wt := 1) (Nat.le_of_eq rfl) (cpr_met hw (S.2.2.2.2.other Y24 (Ne.symm (Exa.neArv Et S.2.2.2.2 (wd hw 24 rfl)))) hlen) (by decide) (by decide) (by decide) (by decide) ?_
  intro T26 h27 F28 v29 W30 Q31
  obtain ⟨b, kb, rfl, rfl, g, K, A⟩ := Q31
  show G E x T26 (fr x 35 #[.val (.ref t), .val (.ref s), .val .null, .val (.ref v), .val (.int cs.length.toInt32)] [(.ref b), (.ref t)])
  refine w_putF W30 B d_inia_35 ht (wd hw 50 rfl) Via.refl ((fv.other Y24 (Or.inr (slot_ne (Or.inr (wd hw 51 rfl)) (Or.inr (wd hw 49 rfl)) (t := (.array .byte)) (t' := .byte) (by decide) (by decide) (by decide)))).keep K nin0) ((Et.wr Y24).keep K) (Or.inr ⟨(wd hw 51 rfl), rfl, rfl⟩) (wd hw 24 rfl) (ty := (.array .byte)) (v' := (.ref b)) (by decide) rfl rfl ?_
  intro T32 h33 W34 Y35 f36
  refine w_goto W34 B d_inia_38 ?_
  have KK37 : Keep h h22 [t] := (Keep.refl h [t]).wr Y24 (Or.inl (List.Mem.head _))
  have KK38 : Keep h h27 [t] := KK37.trans K all0
  have KK39 : Keep h h33 [t] := KK38.wr Y35 (Or.inl (List.Mem.head _))
  have gb : h.size ≤ b := Nat.le_trans KK37.1 g
  exact w_return W34 B d_inia_97 hQ (by decide) (by decide) (fun _ q => q) ⟨rfl, rfl, KK39, b, kb, gb, ⟨(((Et.wr Y24).keep K).wr Y35), f36, ((f25.keep K nin0).other Y35 (Or.inr (slot_ne (Or.inr (wd hw 49 rfl)) (Or.inr (wd hw 51 rfl)) (t := .byte) (t' := (.array .byte)) (by decide) (by decide) (by decide)))), (A.other Y35 (Ne.symm (Own.ne_ge (Et.wr Y24).lt g)))⟩⟩
set_option maxRecDepth 65536 in
set_option maxHeartbeats 4000000 in
theorem inib_met {E : Gl} (hw : Tb E) {h : Heap} {F : List Addr} {t s v : Addr} {k : ClassId} {cs : List Int32} (ht : t ∈ F) (Et : Exa E.Z h t "java/lang/String") (fv : Fld E.Z h t "java/lang/String" "value" "[B" .null) (fc : Fld E.Z h t "java/lang/String" "coder" "B" (.int 0)) (S : SbV E h s v k cs) (hlen : cs.length < 16) :
    Met E (⟨"java/lang/String", "<init>", "(Ljava/lang/StringBuilder;)V"⟩ : MethodName) jdk_42_method_53_code 2 none ({ frames := 4, cells := 1, slots := 16, locals := 65 } : Room) #[.ref t, .ref s] h F (fun r h' F' => r = none ∧ F = F' ∧ Keep h h' [t] ∧ ∃ (tv : Addr) (kt : ClassId), h.size ≤ tv ∧ StrL E h' t tv kt cs) := by
  refine met_of (by decide +kernel) fun x T hQ B W => ?_
  refine G.cast (g' := fr x 0 #[.val (.ref t), .val (.ref s)] []) (by simp [entryFrame, mkF, argsToLocals, Own.cat_r, Own.cat_i, Own.cat_j, Own.cat_n]) ?_
  refine w_aloadN W B d_inib_0 rfl rfl ?_
  refine w_aloadN W B d_inib_1 rfl rfl ?_
  refine w_null W B d_inib_2 ?_
  refine w_special W B (y := ⟨"java/lang/String", "<init>", "(Ljava/lang/AbstractStringBuilder;Ljava/lang/Void;)V"⟩) d_inib_3 rfl (wd hw 181 rfl) (wd hw 182 rfl) (wd hw 25 rfl) (wd hw 183 rfl) (by decide) pd__Ljava_lang_AbstractStringBuilder_Ljava_lang_Void__V873 (argsL := [(.ref s), .null]) rfl rfl rfl (Wt := 0) (Nat.le_of_eq rfl) (inia_met hw ht Et fv fc S hlen) (by decide) (by decide) (by decide) (by decide) ?_
  intro T1 h2 F3 v4 W5 Q6
  obtain ⟨rfl, rfl, K, tv, kt, g, St⟩ := Q6
  show G E x T1 (fr x 6 #[.val (.ref t), .val (.ref s)] [])
  exact w_return W5 B d_inib_6 hQ (by decide) (by decide) (fun _ q => q) ⟨rfl, rfl, K, tv, kt, g, St⟩
set_option maxRecDepth 65536 in
set_option maxHeartbeats 4000000 in
theorem tos_met {E : Gl} (hw : Tb E) {h : Heap} {F : List Addr} {s v : Addr} {k : ClassId} {cs : List Int32} (S : SbV E h s v k cs) (hlen : cs.length < 16) :
    Met E (⟨"java/lang/StringBuilder", "toString", "()Ljava/lang/String;"⟩ : MethodName) jdk_67_method_42_code 1 (some (.object "java/lang/String")) ({ frames := 5, cells := 2, slots := 20, locals := 79 } : Room) #[.ref s] h F (fun r h' F' => ∃ (t tv : Addr) (kt : ClassId), r = some (.ref t) ∧ F = F' ∧ Keep h h' [] ∧ h.size ≤ t ∧ h.size ≤ tv ∧ StrL E h' t tv kt cs) := by
  refine met_of (by decide +kernel) fun x T hQ B W => ?_
  refine G.cast (g' := fr x 0 #[.val (.ref s)] []) (by simp [entryFrame, mkF, argsToLocals, Own.cat_r, Own.cat_i, Own.cat_j, Own.cat_n]) ?_
  refine w_new W B d_tos_0 (wd hw 177 rfl) (wd hw 24 rfl) (wd hw 25 rfl) (by decide) (by decide) ?_
  intro T1 h2 b3 W4 g5 X6 A7 D8
  have f9 : Fld E.Z h2 b3 "java/lang/String" "coder" "B" (.int (0 : Int32)) := D8 (Or.inr (wd hw 49 rfl)) (ty := .byte) (by decide)
  have f10 : Fld E.Z h2 b3 "java/lang/String" "value" "[B" .null := D8 (Or.inr (wd hw 51 rfl)) (ty := (.array .byte)) (by decide)
  show G E x T1 (fr x 3 #[.val (.ref s)] [(.ref b3)])
  refine w_dup W4 B d_tos_3 rfl ?_
  refine w_aloadN W4 B d_tos_4 rfl rfl ?_
  refine w_special W4 B (y := ⟨"java/lang/String", "<init>", "(Ljava/lang/StringBuilder;)V"⟩) d_tos_5 rfl (wd hw 178 rfl) (wd hw 179 rfl) (wd hw 25 rfl) (wd hw 180 rfl) (by decide) pd__Ljava_lang_StringBuilder__V580 (argsL := [(.ref s)]) rfl rfl rfl (Wt := 1) (Nat.le_of_eq rfl) (inib_met hw (List.Mem.head _) A7 f10 f9 ⟨(S.1.ext X6), (S.2.1.ext X6), (S.2.2.1.ext X6), (S.2.2.2.1.ext X6), (S.2.2.2.2.ext X6)⟩ hlen) (by decide) (by decide) (by decide) (by decide) ?_
  intro T11 h12 F13 v14 W15 Q16
  obtain ⟨rfl, rfl, K, tv, kt, g, St⟩ := Q16
  show G E x T11 (fr x 8 #[.val (.ref s)] [(.ref b3)])
  have KK17 : Keep h h2 [] := (Keep.refl h []).ext X6
  have KK18 : Keep h h12 [] := KK17.trans K (allS (Or.inr (Nat.le_trans (Keep.refl h []).1 (Nat.le_of_eq g5.symm))) all0)
  exact w_areturn W15 B d_tos_8 rfl rfl hQ (by decide) (by decide) (fun _ q => (List.Mem.tail _ q)) ⟨b3, tv, kt, rfl, rfl, KK18, Nat.le_of_eq g5.symm, Nat.le_trans X6.1 g, St⟩
set_option maxRecDepth 65536 in
set_option maxHeartbeats 4000000 in
theorem pchk_met {E : Gl} (hw : Tb E) {h : Heap} {F : List Addr} {i n : Int32} {f : Value} (rf : f.isRef = true) (hi : ¬ i < 0 ∧ i < n) :
    Met E (⟨"jdk/internal/util/Preconditions", "checkIndex", "(IILjava/util/function/BiFunction;)I"⟩ : MethodName) jdk_41_method_11_code 3 (some .int) ({ frames := 0, cells := 0, slots := 0, locals := 0 } : Room) #[.int i, .int n, f] h F (fun r h' F' => r = some (.int i) ∧ h = h' ∧ F = F') := by
  refine met_of (by decide +kernel) fun x T hQ B W => ?_
  refine G.cast (g' := fr x 0 #[.val (.int i), .val (.int n), .val f] []) (by simp [entryFrame, mkF, argsToLocals, Own.cat_r, Own.cat_i, Own.cat_j, Own.cat_n, cat_ref rf]) ?_
  refine w_iloadN W B d_pchk_0 rfl ?_
  refine w_if_lt W B d_pchk_1 (fun q => absurd q hi.1) (fun _ => ?_)
  show G E x T (fr x 4 #[.val (.int i), .val (.int n), .val f] [])
  refine w_iloadN W B d_pchk_4 rfl ?_
  refine w_iloadN W B d_pchk_5 rfl ?_
  refine w_icmp_lt W B d_pchk_6 (fun _ => ?_) (fun q => q hi.2 |>.elim)
  show G E x T (fr x 16 #[.val (.int i), .val (.int n), .val f] [])
  refine w_iloadN W B d_pchk_16 rfl ?_
  exact w_ireturn W B d_pchk_17 hQ (by decide) (by decide) (fun _ q => q) ⟨rfl, rfl, rfl⟩
theorem sioobe {E : Gl} (hw : Tb E) : ∃ f : Value, f.isRef = true ∧ Sta E.Z E.Z.heap "jdk/internal/util/Preconditions" "SIOOBE_FORMATTER" "Ljava/util/function/BiFunction;" f := by
  obtain ⟨f, e, r⟩ := isR_v (Cond.before_iff.mp (sd hw 8 rfl))
  exact ⟨f, r, Sta.start e (Or.inl (sd hw 7 rfl))⟩
set_option maxRecDepth 65536 in
set_option maxHeartbeats 4000000 in
theorem schk_met {E : Gl} (hw : Tb E) {h : Heap} {F : List Addr} {i n : Int32} (hi : ¬ i < 0 ∧ i < n) :
    Met E (⟨"java/lang/String", "checkIndex", "(II)V"⟩ : MethodName) jdk_42_method_155_code 2 none ({ frames := 1, cells := 0, slots := 0, locals := 14 } : Room) #[.int i, .int n] h F (fun r h' F' => r = none ∧ h = h' ∧ F = F') := by
  refine met_of (by decide +kernel) fun x T hQ B W => ?_
  refine G.cast (g' := fr x 0 #[.val (.int i), .val (.int n)] []) (by simp [entryFrame, mkF, argsToLocals, Own.cat_r, Own.cat_i, Own.cat_j, Own.cat_n]) ?_
  obtain ⟨f, rf, Sf⟩ := sioobe hw
  refine w_iloadN W B d_schk_0 rfl ?_
  refine w_iloadN W B d_schk_1 rfl ?_
  refine w_getS W B d_schk_2 (wd hw 94 rfl) Via.refl Sf ?_
  intro T1 W2
  refine w_static W2 B (y := ⟨"jdk/internal/util/Preconditions", "checkIndex", "(IILjava/util/function/BiFunction;)I"⟩) d_schk_5 (wd hw 96 rfl) (wd hw 97 rfl) (wd hw 95 rfl) (wd hw 98 rfl) (by decide) pd__IILjava_util_function_BiFunction__I328 (argsL := [(.int i), (.int n), f]) rfl rfl rfl (Wt := 0) (Nat.le_of_eq rfl) (pchk_met hw rf hi) (by decide) (by decide) (by decide) (by decide) ?_
  intro T3 h4 F5 v6 W7 Q8
  obtain ⟨rfl, rfl, rfl⟩ := Q8
  show G E x T3 (fr x 8 #[.val (.int i), .val (.int n)] [(.int i)])
  refine w_pop W7 B d_schk_8 rfl ?_
  exact w_return W7 B d_schk_9 hQ (by decide) (by decide) (fun _ q => q) ⟨rfl, rfl, rfl⟩
set_option maxRecDepth 65536 in
set_option maxHeartbeats 4000000 in
theorem lca_met {E : Gl} (hw : Tb E) {h : Heap} {F : List Addr} {v : Addr} {k : ClassId} {cs : List Int32} {i : Nat} (A : Arv E.Z h v k .byte cs.length.toInt32 (b8 cs) (.int 0)) (hC : Ch cs) (hL : Lat cs) (hc : cs.length < 2 ^ 31) (hi : i < cs.length) :
    Met E (⟨"java/lang/StringLatin1", "charAt", "([BI)C"⟩ : MethodName) jdk_43_method_2_code 2 (some .char) ({ frames := 2, cells := 0, slots := 0, locals := 27 } : Room) #[.ref v, .int i.toInt32] h F (fun r h' F' => r = some (.int (cs.getD i 0)) ∧ h = h' ∧ F = F') := by
  refine met_of (by decide +kernel) fun x T hQ B W => ?_
  refine G.cast (g' := fr x 0 #[.val (.ref v), .val (.int i.toInt32)] []) (by simp [entryFrame, mkF, argsToLocals, Own.cat_r, Own.cat_i, Own.cat_j, Own.cat_n]) ?_
  have hi31 : i < 2 ^ 31 := by omega
  have hin : ¬ i.toInt32 < 0 ∧ i.toInt32 < cs.length.toInt32 := ⟨n_nn hi31, (n_lt hi31 hc).mpr hi⟩
  refine w_iloadN W B d_lca_0 rfl ?_
  refine w_aloadN W B d_lca_1 rfl rfl ?_
  refine w_arraylength W B d_lca_2 A ?_
  refine w_static W B (y := ⟨"java/lang/String", "checkIndex", "(II)V"⟩) d_lca_3 (wd hw 91 rfl) (wd hw 92 rfl) (wd hw 25 rfl) (wd hw 93 rfl) (by decide) pd__II_V313 (argsL := [(.int i.toInt32), (.int cs.length.toInt32)]) rfl rfl rfl (Wt := 0) (Nat.le_of_eq rfl) (schk_met hw hin) (by decide) (by decide) (by decide) (by decide) ?_
  intro T1 h2 F3 v4 W5 Q6
  obtain ⟨rfl, rfl, rfl⟩ := Q6
  show G E x T1 (fr x 6 #[.val (.ref v), .val (.int i.toInt32)] [])
  refine w_aloadN W5 B d_lca_6 rfl rfl ?_
  refine w_iloadN W5 B d_lca_7 rfl ?_
  refine w_baload W5 B d_lca_8 A hin (v := .int (lo8 (cs.getD i 0))) (by rw [n_clamp hi31]; exact b8_at hi _) ?_
  refine w_sipush W5 B d_lca_9 (v := (255 : Int32)) rfl ?_
  refine w_iand W5 B d_lca_12 ?_
  rw [lo8_mask (ch_at hC hi).1 (lat_at hL hi)]
  show G E x T1 (fr x 13 #[.val (.ref v), .val (.int i.toInt32)] [(.int (cs.getD i 0))])
  refine w_i2c W5 B d_lca_13 ?_
  rw [i2c_id (ch_at hC hi).1 (ch_at hC hi).2]
  show G E x T1 (fr x 14 #[.val (.ref v), .val (.int i.toInt32)] [(.int (cs.getD i 0))])
  exact w_ireturnN W5 B d_lca_14 (Or.inr (Or.inr (Or.inl rfl))) (u := cs.getD i 0) (nar_char (ch_at hC hi).1 (ch_at hC hi).2) hQ (by decide) (by decide) (fun _ q => q) ⟨rfl, rfl, rfl⟩
set_option maxRecDepth 65536 in
set_option maxHeartbeats 4000000 in
theorem sca_met {E : Gl} (hw : Tb E) {h : Heap} {F : List Addr} {s v : Addr} {k : ClassId} {cs : List Int32} {i : Nat} (S : StrL E h s v k cs) (hC : Ch cs) (hL : Lat cs) (hc : cs.length < 2 ^ 31) (hi : i < cs.length) :
    Met E (⟨"java/lang/String", "charAt", "(I)C"⟩ : MethodName) jdk_42_method_56_code 2 (some .char) ({ frames := 3, cells := 0, slots := 0, locals := 40 } : Room) #[.ref s, .int i.toInt32] h F (fun r h' F' => r = some (.int (cs.getD i 0)) ∧ h = h' ∧ F = F') := by
  refine met_of (by decide +kernel) fun x T hQ B W => ?_
  refine G.cast (g' := fr x 0 #[.val (.ref s), .val (.int i.toInt32)] []) (by simp [entryFrame, mkF, argsToLocals, Own.cat_r, Own.cat_i, Own.cat_j, Own.cat_n]) ?_
  refine w_aloadN W B d_sca_0 rfl rfl ?_
  refine w_virtual W B (y := ⟨"java/lang/String", "isLatin1", "()Z"⟩) (z := ⟨"java/lang/String", "isLatin1", "()Z"⟩) d_sca_1 (wd hw 82 rfl) (wd hw 83 rfl) (nf_sel (wd hw 85 rfl)) (wd hw 85 rfl) (wd hw 84 rfl) (wd hw 25 rfl) (wd hw 86 rfl) (by decide) S.1 pd___Z171 (argsL := []) rfl rfl rfl (Wt := 0) (Nat.le_of_eq rfl) (slat_met hw S.2.2.1) (by decide) (by decide) (by decide) (by decide) ?_
  intro T1 h2 F3 v4 W5 Q6
  obtain ⟨rfl, rfl, rfl⟩ := Q6
  show G E x T1 (fr x 4 #[.val (.ref s), .val (.int i.toInt32)] [(.int (1 : Int32))])
  refine w_if_eq W5 B d_sca_4 (fun q => absurd q (by decide)) (fun _ => ?_)
  show G E x T1 (fr x 7 #[.val (.ref s), .val (.int i.toInt32)] [])
  refine w_aloadN W5 B d_sca_7 rfl rfl ?_
  refine w_getF W5 B d_sca_8 (wd hw 50 rfl) Via.refl S.2.1 ?_
  intro T7 W8
  refine w_iloadN W8 B d_sca_11 rfl ?_
  refine w_static W8 B (y := ⟨"java/lang/StringLatin1", "charAt", "([BI)C"⟩) d_sca_12 (wd hw 87 rfl) (wd hw 88 rfl) (wd hw 89 rfl) (wd hw 90 rfl) (by decide) pd___BI_C378 (argsL := [(.ref v), (.int i.toInt32)]) rfl rfl rfl (Wt := 0) (Nat.le_of_eq rfl) (lca_met hw S.2.2.2 hC hL hc hi) (by decide) (by decide) (by decide) (by decide) ?_
  intro T9 h10 F11 v12 W13 Q14
  obtain ⟨rfl, rfl, rfl⟩ := Q14
  show G E x T9 (fr x 15 #[.val (.ref s), .val (.int i.toInt32)] [(.int (cs.getD i 0))])
  exact w_ireturnN W13 B d_sca_15 (Or.inr (Or.inr (Or.inl rfl))) (u := cs.getD i 0) (nar_char (ch_at hC hi).1 (ch_at hC hi).2) hQ (by decide) (by decide) (fun _ q => q) ⟨rfl, rfl, rfl⟩
set_option maxRecDepth 65536 in
set_option maxHeartbeats 4000000 in
theorem inibb_met {E : Gl} (hw : Tb E) {h : Heap} {F : List Addr} {t v : Addr} {k : ClassId} {cs : List Int32} (ht : t ∈ F) (Et : Exa E.Z h t "java/lang/String") (fv : Fld E.Z h t "java/lang/String" "value" "[B" .null) (fc : Fld E.Z h t "java/lang/String" "coder" "B" (.int 0)) (Av : Arv E.Z h v k .byte cs.length.toInt32 (b8 cs) (.int 0)) :
    Met E (⟨"java/lang/String", "<init>", "([BB)V"⟩ : MethodName) jdk_42_method_151_code 3 none ({ frames := 1, cells := 0, slots := 0, locals := 12 } : Room) #[.ref t, .ref v, .int 0] h F (fun r h' F' => r = none ∧ F = F' ∧ Keep h h' [t] ∧ StrL E h' t v k cs) := by
  refine met_of (by decide +kernel) fun x T hQ B W => ?_
  refine G.cast (g' := fr x 0 #[.val (.ref t), .val (.ref v), .val (.int (0 : Int32))] []) (by simp [entryFrame, mkF, argsToLocals, Own.cat_r, Own.cat_i, Own.cat_j, Own.cat_n]) ?_
  refine w_aloadN W B d_inibb_0 rfl rfl ?_
  refine w_initO W B d_inibb_1 (wd hw 33 rfl) (wd hw 34 rfl) (wd hw 35 rfl) rfl (by decide) (Wt := 0) (Nat.le_of_eq rfl) (by decide) ?_
  intro T1 W2
  refine w_aloadN W2 B d_inibb_4 rfl rfl ?_
  refine w_aloadN W2 B d_inibb_5 rfl rfl ?_
  refine w_putF W2 B d_inibb_6 ht (wd hw 50 rfl) Via.refl fv Et (Or.inr ⟨(wd hw 51 rfl), rfl, rfl⟩) (wd hw 24 rfl) (ty := (.array .byte)) (v' := (.ref v)) (by decide) rfl rfl ?_
  intro T3 h4 W5 Y6 f7
  refine w_aloadN W5 B d_inibb_9 rfl rfl ?_
  refine w_iloadN W5 B d_inibb_10 rfl ?_
  refine w_putF W5 B d_inibb_11 ht (wd hw 48 rfl) Via.refl (fc.other Y6 (Or.inr (slot_ne (Or.inr (wd hw 49 rfl)) (Or.inr (wd hw 51 rfl)) (t := .byte) (t' := (.array .byte)) (by decide) (by decide) (by decide)))) (Et.wr Y6) (Or.inr ⟨(wd hw 49 rfl), rfl, rfl⟩) (wd hw 24 rfl) (ty := .byte) (v' := (.int (0 : Int32))) (by decide) rfl rfl ?_
  intro T8 h9 W10 Y11 f12
  have KK13 : Keep h h4 [t] := (Keep.refl h [t]).wr Y6 (Or.inl (List.Mem.head _))
  have KK14 : Keep h h9 [t] := KK13.wr Y11 (Or.inl (List.Mem.head _))
  exact w_return W10 B d_inibb_14 hQ (by decide) (by decide) (fun _ q => q) ⟨rfl, rfl, KK14, ⟨((Et.wr Y6).wr Y11), (f7.other Y11 (Or.inr (slot_ne (Or.inr (wd hw 51 rfl)) (Or.inr (wd hw 49 rfl)) (t := (.array .byte)) (t' := .byte) (by decide) (by decide) (by decide)))), f12, ((Av.other Y6 (Ne.symm (Exa.neArv Et Av (wd hw 24 rfl)))).other Y11 (Ne.symm (Exa.neArv Et Av (wd hw 24 rfl))))⟩⟩
set_option maxRecDepth 65536 in
set_option maxHeartbeats 4000000 in
theorem semp_met {E : Gl} (hw : Tb E) {h : Heap} {F : List Addr} {s v : Addr} {k : ClassId} {cs : List Int32} (S : StrL E h s v k cs) (h1 : 1 ≤ cs.length) (hc : cs.length < 2 ^ 31) :
    Met E (⟨"java/lang/String", "isEmpty", "()Z"⟩ : MethodName) jdk_42_method_55_code 1 (some .boolean) ({ frames := 0, cells := 0, slots := 0, locals := 0 } : Room) #[.ref s] h F (fun r h' F' => r = some (.int 0) ∧ h = h' ∧ F = F') := by
  refine met_of (by decide +kernel) fun x T hQ B W => ?_
  refine G.cast (g' := fr x 0 #[.val (.ref s)] []) (by simp [entryFrame, mkF, argsToLocals, Own.cat_r, Own.cat_i, Own.cat_j, Own.cat_n]) ?_
  refine w_aloadN W B d_semp_0 rfl rfl ?_
  refine w_getF W B d_semp_1 (wd hw 50 rfl) Via.refl S.2.1 ?_
  intro T1 W2
  refine w_arraylength W2 B d_semp_4 S.2.2.2 ?_
  refine w_if_ne W2 B d_semp_5 (fun _ => ?_) (fun q => absurd q (fun q => absurd ((n_eq (i := cs.length) (n := 0) hc (by decide)).mp q) (by omega)))
  show G E x T1 (fr x 12 #[.val (.ref s)] [])
  refine w_iconst W2 B d_semp_12 (v := (0 : Int32)) rfl ?_
  exact w_ireturnN W2 B d_semp_13 (Or.inl rfl) (u := 0) rfl hQ (by decide) (by decide) (fun _ q => q) ⟨rfl, rfl, rfl⟩
set_option maxRecDepth 65536 in
set_option maxHeartbeats 4000000 in
theorem cenC_met {E : Gl} (hw : Tb E) {h : Heap} {F : List Addr} {c : Int32} (hc : c.toInt ≤ 255) :
    Met E (⟨"java/lang/StringLatin1", "canEncode", "(C)Z"⟩ : MethodName) jdk_43_method_3_code 1 (some .boolean) ({ frames := 0, cells := 0, slots := 0, locals := 0 } : Room) #[.int c] h F (fun r h' F' => r = some (.int 1) ∧ h = h' ∧ F = F') := by
  refine met_of (by decide +kernel) fun x T hQ B W => ?_
  refine G.cast (g' := fr x 0 #[.val (.int c)] []) (by simp [entryFrame, mkF, argsToLocals, Own.cat_r, Own.cat_i, Own.cat_j, Own.cat_n]) ?_
  refine w_iloadN W B d_cenc_0 rfl ?_
  refine w_sipush W B d_cenc_1 (v := (255 : Int32)) rfl ?_
  refine w_icmp_gt W B d_cenc_4 (fun q => absurd q (by rw [Int32.lt_iff_toInt_lt]; exact Int.not_lt.mpr hc)) (fun _ => ?_)
  show G E x T (fr x 7 #[.val (.int c)] [])
  refine w_iconst W B d_cenc_7 (v := (1 : Int32)) rfl ?_
  refine w_goto W B d_cenc_8 ?_
  exact w_ireturnN W B d_cenc_12 (Or.inl rfl) (u := 1) rfl hQ (by decide) (by decide) (fun _ q => q) ⟨rfl, rfl, rfl⟩
theorem set_b8 {cs : List Int32} {c : Int32} (h : cs.length < 16) : (b8 cs ++ List.replicate (16 - cs.length) (Value.int 0)).set cs.length (.int (lo8 c)) = b8 (cs ++ [c]) ++ List.replicate (16 - (cs ++ [c]).length) (Value.int 0) := by
  rw [List.set_append_right _ _ (by rw [b8_len]; exact Nat.le_refl _), b8_len, Nat.sub_self, show 16 - cs.length = (16 - (cs ++ [c]).length) + 1 from by simp; omega, List.replicate_succ, List.set_cons_zero]
  simp [b8]
set_option maxRecDepth 65536 in
set_option maxHeartbeats 4000000 in
theorem aac_met {E : Gl} (hw : Tb E) {h : Heap} {F : List Addr} {s v : Addr} {k : ClassId} {cs : List Int32} {c : Int32} (hs : s ∈ F) (hv : v ∈ F) (S : SbV E h s v k cs) (hc : c.toInt ≤ 255) (hlen : cs.length < 16) :
    Met E (⟨"java/lang/AbstractStringBuilder", "append", "(C)Ljava/lang/AbstractStringBuilder;"⟩ : MethodName) jdk_68_method_31_code 2 (some (.object "java/lang/AbstractStringBuilder")) ({ frames := 1, cells := 0, slots := 0, locals := 14 } : Room) #[.ref s, .int c] h F (fun r h' F' => r = some (.ref s) ∧ F = F' ∧ Keep h h' [s, v] ∧ SbV E h' s v k (cs ++ [c])) := by
  refine met_of (by decide +kernel) fun x T hQ B W => ?_
  refine G.cast (g' := fr x 0 #[.val (.ref s), .val (.int c)] []) (by simp [entryFrame, mkF, argsToLocals, Own.cat_r, Own.cat_i, Own.cat_j, Own.cat_n]) ?_
  have h31 : cs.length < 2 ^ 31 := by omega
  refine w_aloadN W B d_aac_0 rfl rfl ?_
  refine w_aloadN W B d_aac_1 rfl rfl ?_
  refine w_getF W B d_aac_2 (wd hw 145 rfl) Via.refl S.2.2.2.1 ?_
  intro T1 W2
  refine w_iconst W2 B d_aac_5 (v := (1 : Int32)) rfl ?_
  refine w_iadd W2 B d_aac_6 ?_
  refine w_private W2 B (y := ⟨"java/lang/AbstractStringBuilder", "ensureCapacityInternal", "(I)V"⟩) d_aac_7 (wd hw 147 rfl) (wd hw 148 rfl) (wd hw 149 rfl) (nf_z (wd hw 150 rfl)) (wd hw 109 rfl) (wd hw 151 rfl) (by decide) S.1 pd__I_V240 (argsL := [(.int (cs.length.toInt32 + (1 : Int32)))]) rfl rfl rfl (Wt := 0) (Nat.le_of_eq rfl) (ens_met hw S (by rw [n_succ]; exact ens_ok hlen)) (by decide) (by decide) (by decide) (by decide) ?_
  intro T3 h4 F5 v6 W7 Q8
  obtain ⟨rfl, rfl, rfl⟩ := Q8
  show G E x T3 (fr x 10 #[.val (.ref s), .val (.int c)] [])
  refine w_aloadN W7 B d_aac_10 rfl rfl ?_
  refine w_virtual W7 B (y := ⟨"java/lang/AbstractStringBuilder", "isLatin1", "()Z"⟩) (z := ⟨"java/lang/AbstractStringBuilder", "isLatin1", "()Z"⟩) d_aac_11 (wd hw 230 rfl) (wd hw 198 rfl) (nf_sel (wd hw 200 rfl)) (wd hw 200 rfl) (wd hw 199 rfl) (wd hw 109 rfl) (wd hw 201 rfl) (by decide) S.1 pd___Z171 (argsL := []) rfl rfl rfl (Wt := 0) (Nat.le_of_eq rfl) (alat_met hw S) (by decide) (by decide) (by decide) (by decide) ?_
  intro T9 h10 F11 v12 W13 Q14
  obtain ⟨rfl, rfl, rfl⟩ := Q14
  show G E x T9 (fr x 14 #[.val (.ref s), .val (.int c)] [(.int (1 : Int32))])
  refine w_if_eq W13 B d_aac_14 (fun q => absurd q (by decide)) (fun _ => ?_)
  show G E x T9 (fr x 17 #[.val (.ref s), .val (.int c)] [])
  refine w_iloadN W13 B d_aac_17 rfl ?_
  refine w_static W13 B (y := ⟨"java/lang/StringLatin1", "canEncode", "(C)Z"⟩) d_aac_18 (wd hw 231 rfl) (wd hw 232 rfl) (wd hw 89 rfl) (wd hw 233 rfl) (by decide) pd__C_Z238 (argsL := [(.int c)]) rfl rfl rfl (Wt := 0) (Nat.le_of_eq rfl) (cenC_met hw hc) (by decide) (by decide) (by decide) (by decide) ?_
  intro T15 h16 F17 v18 W19 Q20
  obtain ⟨rfl, rfl, rfl⟩ := Q20
  show G E x T15 (fr x 21 #[.val (.ref s), .val (.int c)] [(.int (1 : Int32))])
  refine w_if_eq W19 B d_aac_21 (fun q => absurd q (by decide)) (fun _ => ?_)
  show G E x T15 (fr x 24 #[.val (.ref s), .val (.int c)] [])
  refine w_aloadN W19 B d_aac_24 rfl rfl ?_
  refine w_getF W19 B d_aac_25 (wd hw 113 rfl) Via.refl S.2.1 ?_
  intro T21 W22
  refine w_aloadN W22 B d_aac_28 rfl rfl ?_
  refine w_dup W22 B d_aac_29 rfl ?_
  refine w_getF W22 B d_aac_30 (wd hw 145 rfl) Via.refl S.2.2.2.1 ?_
  intro T23 W24
  refine w_dupX1 W24 B d_aac_33 rfl rfl ?_
  refine w_iconst W24 B d_aac_34 (v := (1 : Int32)) rfl ?_
  refine w_iadd W24 B d_aac_35 ?_
  refine w_putF W24 B d_aac_36 hs (wd hw 145 rfl) Via.refl S.2.2.2.1 S.1 (Or.inl (wd hw 146 rfl)) (wd hw 100 rfl) (ty := .int) (v' := (.int (cs.length.toInt32 + (1 : Int32)))) (by decide) rfl rfl ?_
  intro T25 h26 W27 Y28 f29
  refine w_iloadN W27 B d_aac_39 rfl ?_
  refine w_i2b W27 B d_aac_40 ?_
  refine w_bastore W27 B d_aac_41 hv (S.2.2.2.2.other Y28 (Ne.symm (Exa.neArv S.1 S.2.2.2.2 (wd hw 100 rfl)))) ⟨n_nn h31, (n_lt h31 (n := 16) (by decide)).mpr hlen⟩ (i := cs.length) (n_clamp h31) (by rw [List.length_append, b8_len, List.length_replicate]; omega) (u := lo8 c) (nar_lo8 c) ?_
  intro T30 h31 W32 K33 A34
  rw [set_b8 hlen] at A34
  show G E x T30 (fr x 42 #[.val (.ref s), .val (.int c)] [])
  refine w_goto W32 B d_aac_42 ?_
  refine w_aloadN W32 B d_aac_75 rfl rfl ?_
  have KK35 : Keep h h26 [s, v] := (Keep.refl h [s, v]).wr Y28 (Or.inl (List.Mem.head _))
  have KK36 : Keep h h31 [s, v] := KK35.trans K33 (allS (Or.inl (List.Mem.tail _ (List.Mem.head _))) all0)
  have fN : Fld E.Z h31 s "java/lang/AbstractStringBuilder" "count" "I" (.int (cs ++ [c]).length.toInt32) := by rw [List.length_append, ← n_add]; exact (f29.keep K33 (ninS (Exa.neArv S.1 S.2.2.2.2 (wd hw 100 rfl)) nin0))
  exact w_areturn W32 B d_aac_76 rfl rfl hQ (by decide) (by decide) (fun _ q => q) ⟨rfl, rfl, KK36, ⟨((S.1.wr Y28).keep K33), ((S.2.1.other Y28 (Or.inr (slot_ne (Or.inl (wd hw 114 rfl)) (Or.inl (wd hw 146 rfl)) (t := (.array .byte)) (t' := .int) (by decide) (by decide) (by decide)))).keep K33 (ninS (Exa.neArv S.1 S.2.2.2.2 (wd hw 100 rfl)) nin0)), ((S.2.2.1.other Y28 (Or.inr (slot_ne (Or.inl (wd hw 116 rfl)) (Or.inl (wd hw 146 rfl)) (t := .byte) (t' := .int) (by decide) (by decide) (by decide)))).keep K33 (ninS (Exa.neArv S.1 S.2.2.2.2 (wd hw 100 rfl)) nin0)), fN, A34⟩⟩
set_option maxRecDepth 65536 in
set_option maxHeartbeats 4000000 in
theorem sac_met {E : Gl} (hw : Tb E) {h : Heap} {F : List Addr} {s v : Addr} {k : ClassId} {cs : List Int32} {c : Int32} (hs : s ∈ F) (hv : v ∈ F) (S : SbV E h s v k cs) (hc : c.toInt ≤ 255) (hlen : cs.length < 16) :
    Met E (⟨"java/lang/StringBuilder", "append", "(C)Ljava/lang/StringBuilder;"⟩ : MethodName) jdk_67_method_14_code 2 (some (.object "java/lang/StringBuilder")) ({ frames := 2, cells := 0, slots := 0, locals := 27 } : Room) #[.ref s, .int c] h F (fun r h' F' => r = some (.ref s) ∧ F = F' ∧ Keep h h' [s, v] ∧ SbV E h' s v k (cs ++ [c])) := by
  refine met_of (by decide +kernel) fun x T hQ B W => ?_
  refine G.cast (g' := fr x 0 #[.val (.ref s), .val (.int c)] []) (by simp [entryFrame, mkF, argsToLocals, Own.cat_r, Own.cat_i, Own.cat_j, Own.cat_n]) ?_
  refine w_aloadN W B d_sac_0 rfl rfl ?_
  refine w_iloadN W B d_sac_1 rfl ?_
  refine w_super W B (y := ⟨"java/lang/AbstractStringBuilder", "append", "(C)Ljava/lang/AbstractStringBuilder;"⟩) d_sac_2 (by decide) (wd hw 226 rfl) (wd hw 227 rfl) (wd hw 141 rfl) (Own.nf_class (nf_z (wd hw 150 rfl)) (wd hw 148 rfl) rfl) (wd hw 109 rfl) (wd hw 229 rfl) (by decide) (Ins.self S.1) pd__C_Ljava_lang_AbstractStringBuilder_384 (argsL := [(.int c)]) rfl rfl rfl (Wt := 0) (Nat.le_of_eq rfl) (aac_met hw hs hv S hc hlen) (by decide) (by decide) (by decide) (by decide) ?_
  intro T1 h2 F3 v4 W5 Q6
  obtain ⟨rfl, rfl, K, S2⟩ := Q6
  show G E x T1 (fr x 5 #[.val (.ref s), .val (.int c)] [(.ref s)])
  refine w_pop W5 B d_sac_5 rfl ?_
  refine w_aloadN W5 B d_sac_6 rfl rfl ?_
  exact w_areturn W5 B d_sac_7 rfl rfl hQ (by decide) (by decide) (fun _ q => q) ⟨rfl, rfl, K, S2⟩
set_option maxRecDepth 65536 in
set_option maxHeartbeats 4000000 in
theorem leq_turns {E : Gl} (hw : Tb E) {x : Cx} {T : State} {h : Heap} {F : List Addr} {a b : Addr} {ka kb : ClassId} {cs : List Int32} (hQ : x.Q = (fun r h' F' => r = some (.int 1) ∧ h = h' ∧ F = F')) (B : Is x "java/lang/StringLatin1" jdk_43_method_13_code 3 ({ frames := 0, cells := 0, slots := 0, locals := 0 } : Room) (some .boolean) "equals") (hc : cs.length < 2 ^ 31) (Aa : Arv E.Z h a ka .byte cs.length.toInt32 (b8 cs) (.int 0)) (Ab : Arv E.Z h b kb .byte cs.length.toInt32 (b8 cs) (.int 0)) (W : Wk E x T h F 0 0) :
    ∀ (r i : Nat), i + r = cs.length → G E x T (fr x 9 #[.val (.ref a), .val (.ref b), .val (.int i.toInt32)] []) := by
  intro r
  induction r with
  | zero =>
    intro i hir
    have hi31 : i < 2 ^ 31 := by omega
    refine w_iloadN W B d_leq_9 rfl ?_
    refine w_aloadN W B d_leq_10 rfl rfl ?_
    refine w_arraylength W B d_leq_11 Aa ?_
    refine w_icmp_ge W B d_leq_12 (fun _ => ?_) (fun q => absurd q (by rw [n_lt hi31 hc]; omega))
    show G E x T (fr x 32 #[.val (.ref a), .val (.ref b), .val (.int i.toInt32)] [])
    refine w_iconst W B d_leq_32 (v := (1 : Int32)) rfl ?_
    exact w_ireturnN W B d_leq_33 (Or.inl rfl) (u := 1) rfl hQ (by decide) (by decide) (fun _ q => q) ⟨rfl, rfl, rfl⟩
  | succ r ih =>
    intro i hir
    have hi : i < cs.length := by omega
    have hi31 : i < 2 ^ 31 := by omega
    refine w_iloadN W B d_leq_9 rfl ?_
    refine w_aloadN W B d_leq_10 rfl rfl ?_
    refine w_arraylength W B d_leq_11 Aa ?_
    refine w_icmp_ge W B d_leq_12 (fun q => q ((n_lt hi31 hc).mpr hi) |>.elim) (fun _ => ?_)
    show G E x T (fr x 15 #[.val (.ref a), .val (.ref b), .val (.int i.toInt32)] [])
    refine w_aloadN W B d_leq_15 rfl rfl ?_
    refine w_iloadN W B d_leq_16 rfl ?_
    refine w_baload W B d_leq_17 Aa ⟨n_nn hi31, (n_lt hi31 hc).mpr hi⟩ (v := .int (lo8 (cs.getD i 0))) (by rw [n_clamp hi31]; exact b8_at hi _) ?_
    refine w_aloadN W B d_leq_18 rfl rfl ?_
    refine w_iloadN W B d_leq_19 rfl ?_
    refine w_baload W B d_leq_20 Ab ⟨n_nn hi31, (n_lt hi31 hc).mpr hi⟩ (v := .int (lo8 (cs.getD i 0))) (by rw [n_clamp hi31]; exact b8_at hi _) ?_
    refine w_icmp_eq W B d_leq_21 (fun _ => ?_) (fun q => q rfl |>.elim)
    show G E x T (fr x 26 #[.val (.ref a), .val (.ref b), .val (.int i.toInt32)] [])
    refine w_iinc W B d_leq_26 rfl (w := (i + 1).toInt32) (n_succ i) (Ls' := #[.val (.ref a), .val (.ref b), .val (.int (i + 1).toInt32)]) rfl ?_
    refine w_goto W B d_leq_29 ?_
    exact ih (i + 1) (by omega)
set_option maxRecDepth 65536 in
set_option maxHeartbeats 4000000 in
theorem leq_met {E : Gl} (hw : Tb E) {h : Heap} {F : List Addr} {a b : Addr} {ka kb : ClassId} {cs : List Int32} (hc : cs.length < 2 ^ 31) (Aa : Arv E.Z h a ka .byte cs.length.toInt32 (b8 cs) (.int 0)) (Ab : Arv E.Z h b kb .byte cs.length.toInt32 (b8 cs) (.int 0)) :
    Met E (⟨"java/lang/StringLatin1", "equals", "([B[B)Z"⟩ : MethodName) jdk_43_method_13_code 3 (some .boolean) ({ frames := 0, cells := 0, slots := 0, locals := 0 } : Room) #[.ref a, .ref b] h F (fun r h' F' => r = some (.int 1) ∧ h = h' ∧ F = F') := by
  refine met_of (by decide +kernel) fun x T hQ B W => ?_
  refine G.cast (g' := fr x 0 #[.val (.ref a), .val (.ref b), .unset] []) (by simp [entryFrame, mkF, argsToLocals, Own.cat_r, Own.cat_i, Own.cat_j, Own.cat_n]) ?_
  refine w_aloadN W B d_leq_0 rfl rfl ?_
  refine w_arraylength W B d_leq_1 Aa ?_
  refine w_aloadN W B d_leq_2 rfl rfl ?_
  refine w_arraylength W B d_leq_3 Ab ?_
  refine w_icmp_ne W B d_leq_4 (fun q => q rfl |>.elim) (fun _ => ?_)
  show G E x T (fr x 7 #[.val (.ref a), .val (.ref b), .unset] [])
  refine w_iconst W B d_leq_7 (v := (0 : Int32)) rfl ?_
  refine w_istoreN W B d_leq_8 (Ls' := #[.val (.ref a), .val (.ref b), .val (.int (0 : Int32))]) rfl ?_
  exact leq_turns hw hQ B hc Aa Ab W cs.length 0 (Nat.zero_add _)
set_option maxRecDepth 65536 in
set_option maxHeartbeats 4000000 in
theorem seq_met {E : Gl} (hw : Tb E) {h : Heap} {F : List Addr} {a av b bv : Addr} {ka kb : ClassId} {cs : List Int32} (S1 : StrL E h a av ka cs) (S2 : StrL E h b bv kb cs) (hab : a ≠ b) (hc : cs.length < 2 ^ 31) :
    Met E (⟨"java/lang/String", "equals", "(Ljava/lang/Object;)Z"⟩ : MethodName) jdk_42_method_66_code 3 (some .boolean) ({ frames := 1, cells := 0, slots := 0, locals := 14 } : Room) #[.ref a, .ref b] h F (fun r h' F' => r = some (.int 1) ∧ h = h' ∧ F = F') := by
  refine met_of (by decide +kernel) fun x T hQ B W => ?_
  refine G.cast (g' := fr x 0 #[.val (.ref a), .val (.ref b), .unset] []) (by simp [entryFrame, mkF, argsToLocals, Own.cat_r, Own.cat_i, Own.cat_j, Own.cat_n]) ?_
  obtain ⟨z, Sc, hz⟩ := compact hw
  refine w_aloadN W B d_seq_0 rfl rfl ?_
  refine w_aloadN W B d_seq_1 rfl rfl ?_
  refine w_acmp_ne_n W B d_seq_2 rfl rfl (fun q => absurd (Value.ref.inj q) hab) ?_
  show G E x T (fr x 7 #[.val (.ref a), .val (.ref b), .unset] [])
  refine w_aloadN W B d_seq_7 rfl rfl ?_
  refine w_instY W B d_seq_8 (wd hw 130 rfl) (Ins.self S2.1) ?_
  intro T1 W2
  show G E x T1 (fr x 11 #[.val (.ref a), .val (.ref b), .unset] [(.int (1 : Int32))])
  refine w_if_eq W2 B d_seq_11 (fun q => absurd q (by decide)) (fun _ => ?_)
  show G E x T1 (fr x 14 #[.val (.ref a), .val (.ref b), .unset] [])
  refine w_aloadN W2 B d_seq_14 rfl rfl ?_
  refine w_castY W2 B d_seq_15 (wd hw 130 rfl) (Ins.self S2.1) ?_
  intro T3 W4
  refine w_astoreN W4 B d_seq_18 rfl (Ls' := #[.val (.ref a), .val (.ref b), .val (.ref b)]) rfl ?_
  refine w_getS W4 B d_seq_19 (wd hw 36 rfl) Via.refl Sc ?_
  intro T5 W6
  refine w_if_eq W6 B d_seq_22 (fun q => absurd q hz) (fun _ => ?_)
  show G E x T5 (fr x 25 #[.val (.ref a), .val (.ref b), .val (.ref b)] [])
  refine w_aloadN W6 B d_seq_25 rfl rfl ?_
  refine w_getF W6 B d_seq_26 (wd hw 48 rfl) Via.refl S1.2.2.1 ?_
  intro T7 W8
  refine w_aloadN W8 B d_seq_29 rfl rfl ?_
  refine w_getF W8 B d_seq_30 (wd hw 48 rfl) Via.refl S2.2.2.1 ?_
  intro T9 W10
  refine w_icmp_ne W10 B d_seq_33 (fun q => q rfl |>.elim) (fun _ => ?_)
  show G E x T9 (fr x 36 #[.val (.ref a), .val (.ref b), .val (.ref b)] [])
  refine w_aloadN W10 B d_seq_36 rfl rfl ?_
  refine w_getF W10 B d_seq_37 (wd hw 50 rfl) Via.refl S1.2.1 ?_
  intro T11 W12
  refine w_aloadN W12 B d_seq_40 rfl rfl ?_
  refine w_getF W12 B d_seq_41 (wd hw 50 rfl) Via.refl S2.2.1 ?_
  intro T13 W14
  refine w_static W14 B (y := ⟨"java/lang/StringLatin1", "equals", "([B[B)Z"⟩) d_seq_44 (wd hw 250 rfl) (wd hw 251 rfl) (wd hw 89 rfl) (wd hw 252 rfl) (by decide) pd___B_B_Z485 (argsL := [(.ref av), (.ref bv)]) rfl rfl rfl (Wt := 0) (Nat.le_of_eq rfl) (leq_met hw hc S1.2.2.2 S2.2.2.2) (by decide) (by decide) (by decide) (by decide) ?_
  intro T15 h16 F17 v18 W19 Q20
  obtain ⟨rfl, rfl, rfl⟩ := Q20
  show G E x T15 (fr x 47 #[.val (.ref a), .val (.ref b), .val (.ref b)] [(.int (1 : Int32))])
  refine w_if_eq W19 B d_seq_47 (fun q => absurd q (by decide)) (fun _ => ?_)
  show G E x T15 (fr x 50 #[.val (.ref a), .val (.ref b), .val (.ref b)] [])
  refine w_iconst W19 B d_seq_50 (v := (1 : Int32)) rfl ?_
  refine w_goto W19 B d_seq_51 ?_
  exact w_ireturnN W19 B d_seq_55 (Or.inl rfl) (u := 1) rfl hQ (by decide) (by decide) (fun _ q => q) ⟨rfl, rfl, rfl⟩
set_option maxRecDepth 65536 in
set_option maxHeartbeats 4000000 in
theorem iad_turns {E : Gl} (hw : Tb E) {x : Cx} {h : Heap} {F : List Addr} {s v : Addr} {k : ClassId} {cs : List Int32} (hQ : x.Q = (fun r h' F' => r = some (.int 1) ∧ h = h' ∧ F = F')) (B : Is x "com/example/fordring/fordring/account/PaymentReference" prog_2_method_5_code 3 ({ frames := 4, cells := 0, slots := 0, locals := 53 } : Room) (some .boolean) "isAsciiDigits") (hc : cs.length < 2 ^ 31) (hd : ∀ q ∈ cs, 48 ≤ q.toInt ∧ q.toInt ≤ 57) (S : StrL E h s v k cs) :
    ∀ (r i : Nat) (T : State) (s2 : Slot), i + r = cs.length → LS s2 → Wk E x T h F 0 0 → G E x T (fr x 2 #[.val (.ref s), .val (.int i.toInt32), s2] []) := by
  intro r
  induction r with
  | zero =>
    intro i T s2 hir hs2 W
    have hi31 : i < 2 ^ 31 := by omega
    refine w_iloadN W B d_iad_2 rfl ?_
    refine w_aloadN W B d_iad_3 rfl rfl ?_
    refine w_virtual W B (y := ⟨"java/lang/String", "length", "()I"⟩) (z := ⟨"java/lang/String", "length", "()I"⟩) d_iad_4 (wd hw 64 rfl) (wd hw 65 rfl) (nf_sel (wd hw 67 rfl)) (wd hw 67 rfl) (wd hw 66 rfl) (wd hw 25 rfl) (wd hw 68 rfl) (by decide) S.1 pd___I154 (argsL := []) rfl rfl rfl (Wt := 1) (Nat.le_of_eq rfl) (slen_met hw S) (by decide) (by decide) (by decide) (by decide) ?_
    intro T1 h2 F3 v4 W5 Q6
    obtain ⟨rfl, rfl, rfl⟩ := Q6
    show G E x T1 (fr x 7 #[.val (.ref s), .val (.int i.toInt32), s2] [(.int cs.length.toInt32), (.int i.toInt32)])
    refine w_icmp_ge W5 B d_iad_7 (fun _ => ?_) (fun q => absurd q (by rw [n_lt hi31 hc]; omega))
    show G E x T1 (fr x 36 #[.val (.ref s), .val (.int i.toInt32), s2] [])
    refine w_iconst W5 B d_iad_36 (v := (1 : Int32)) rfl ?_
    exact w_ireturnN W5 B d_iad_37 (Or.inl rfl) (u := 1) rfl hQ (by decide) (by decide) (fun _ q => q) ⟨rfl, rfl, rfl⟩
  | succ r ih =>
    intro i T s2 hir hs2 W
    have hi : i < cs.length := by omega
    have hi31 : i < 2 ^ 31 := by omega
    refine w_iloadN W B d_iad_2 rfl ?_
    refine w_aloadN W B d_iad_3 rfl rfl ?_
    refine w_virtual W B (y := ⟨"java/lang/String", "length", "()I"⟩) (z := ⟨"java/lang/String", "length", "()I"⟩) d_iad_4 (wd hw 64 rfl) (wd hw 65 rfl) (nf_sel (wd hw 67 rfl)) (wd hw 67 rfl) (wd hw 66 rfl) (wd hw 25 rfl) (wd hw 68 rfl) (by decide) S.1 pd___I154 (argsL := []) rfl rfl rfl (Wt := 1) (Nat.le_of_eq rfl) (slen_met hw S) (by decide) (by decide) (by decide) (by decide) ?_
    intro T1 h2 F3 v4 W5 Q6
    obtain ⟨rfl, rfl, rfl⟩ := Q6
    show G E x T1 (fr x 7 #[.val (.ref s), .val (.int i.toInt32), s2] [(.int cs.length.toInt32), (.int i.toInt32)])
    refine w_icmp_ge W5 B d_iad_7 (fun q => q ((n_lt hi31 hc).mpr hi) |>.elim) (fun _ => ?_)
    show G E x T1 (fr x 10 #[.val (.ref s), .val (.int i.toInt32), s2] [])
    refine w_aloadN W5 B d_iad_10 rfl rfl ?_
    refine w_iloadN W5 B d_iad_11 rfl ?_
    refine w_virtual W5 B (y := ⟨"java/lang/String", "charAt", "(I)C"⟩) (z := ⟨"java/lang/String", "charAt", "(I)C"⟩) d_iad_12 (wd hw 77 rfl) (wd hw 78 rfl) (nf_sel (wd hw 80 rfl)) (wd hw 80 rfl) (wd hw 79 rfl) (wd hw 25 rfl) (wd hw 81 rfl) (by decide) S.1 pd__I_C221 (argsL := [(.int i.toInt32)]) rfl rfl rfl (Wt := 0) (Nat.le_of_eq rfl) (sca_met hw (i := i) S (dgs_ch hd) (dgs_lat hd) hc hi) (by decide) (by decide) (by decide) (by decide) ?_
    intro T7 h8 F9 v10 W11 Q12
    obtain ⟨rfl, rfl, rfl⟩ := Q12
    show G E x T7 (fr x 15 #[.val (.ref s), .val (.int i.toInt32), s2] [(.int (cs.getD i 0))])
    refine w_istoreN W11 B d_iad_15 (Ls' := #[.val (.ref s), .val (.int i.toInt32), .val (.int (cs.getD i 0))]) (store_lit [.val (.ref s), .val (.int i.toInt32)] [] hs2 _) ?_
    refine w_iloadN W11 B d_iad_16 rfl ?_
    refine w_bipush W11 B d_iad_17 (v := (48 : Int32)) rfl ?_
    refine w_icmp_lt W11 B d_iad_19 (fun q => absurd q (by rw [Int32.lt_iff_toInt_lt]; exact Int.not_lt.mpr (dgs_at hd hi).1)) (fun _ => ?_)
    show G E x T7 (fr x 22 #[.val (.ref s), .val (.int i.toInt32), .val (.int (cs.getD i 0))] [])
    refine w_iloadN W11 B d_iad_22 rfl ?_
    refine w_bipush W11 B d_iad_23 (v := (57 : Int32)) rfl ?_
    refine w_icmp_le W11 B d_iad_25 (fun _ => ?_) (fun q => absurd q (by rw [Int32.lt_iff_toInt_lt]; exact Int.not_lt.mpr (dgs_at hd hi).2))
    show G E x T7 (fr x 30 #[.val (.ref s), .val (.int i.toInt32), .val (.int (cs.getD i 0))] [])
    refine w_iinc W11 B d_iad_30 rfl (w := (i + 1).toInt32) (n_succ i) (Ls' := #[.val (.ref s), .val (.int (i + 1).toInt32), .val (.int (cs.getD i 0))]) rfl ?_
    refine w_goto W11 B d_iad_33 ?_
    exact ih (i + 1) T7 _ (by omega) (Or.inr ⟨_, rfl⟩) W11
set_option maxRecDepth 65536 in
set_option maxHeartbeats 4000000 in
theorem iad_met {E : Gl} (hw : Tb E) {h : Heap} {F : List Addr} {s v : Addr} {k : ClassId} {cs : List Int32} (S : StrL E h s v k cs) (hc : cs.length < 2 ^ 31) (hd : ∀ q ∈ cs, 48 ≤ q.toInt ∧ q.toInt ≤ 57) :
    Met E (⟨"com/example/fordring/fordring/account/PaymentReference", "isAsciiDigits", "(Ljava/lang/String;)Z"⟩ : MethodName) prog_2_method_5_code 3 (some .boolean) ({ frames := 4, cells := 0, slots := 0, locals := 53 } : Room) #[.ref s] h F (fun r h' F' => r = some (.int 1) ∧ h = h' ∧ F = F') := by
  refine met_of (by decide +kernel) fun x T hQ B W => ?_
  refine G.cast (g' := fr x 0 #[.val (.ref s), .unset, .unset] []) (by simp [entryFrame, mkF, argsToLocals, Own.cat_r, Own.cat_i, Own.cat_j, Own.cat_n]) ?_
  refine w_iconst W B d_iad_0 (v := (0 : Int32)) rfl ?_
  refine w_istoreN W B d_iad_1 (Ls' := #[.val (.ref s), .val (.int (0 : Int32)), .unset]) rfl ?_
  exact iad_turns hw hQ B hc hd S cs.length 0 T .unset (Nat.zero_add _) (Or.inl rfl) W
set_option maxRecDepth 65536 in
set_option maxHeartbeats 4000000 in
theorem fil_turns {E : Gl} (hw : Tb E) {x : Cx} {h0 : Heap} {F : List Addr} {a : Addr} {k : ClassId} {n : Nat} {u : Int32} (hQ : x.Q = (fun r h' F' => r = none ∧ F = F' ∧ Keep h0 h' [a] ∧ Arv E.Z h' a k .byte n.toInt32 (List.replicate n (.int u)) (.int 0))) (B : Is x "java/util/Arrays" jdk_65_method_109_code 4 ({ frames := 0, cells := 0, slots := 0, locals := 0 } : Room) none "fill") (hn : n < 2 ^ 31) (hu : nar .byte u = u) (ha : a ∈ F) :
    ∀ (r i : Nat) (T : State) (h : Heap) (vs : List Value), i + r = n → Wk E x T h F 0 0 → Arv E.Z h a k .byte n.toInt32 vs (.int 0) → vs.length = n → (∀ j, j < i → vs.getD j (.int 0) = .int u) → Keep h0 h [a] → G E x T (fr x 5 #[.val (.ref a), .val (.int u), .val (.int i.toInt32), .val (.int n.toInt32)] []) := by
  intro r
  induction r with
  | zero =>
    intro i T h vs hir W Aa hvl hvs hK
    have hi31 : i < 2 ^ 31 := by omega
    refine w_iloadN W B d_fil_5 rfl ?_
    refine w_iloadN W B d_fil_6 rfl ?_
    refine w_icmp_ge W B d_fil_7 (fun _ => ?_) (fun q => absurd q (by rw [n_lt hi31 hn]; omega))
    show G E x T (fr x 20 #[.val (.ref a), .val (.int u), .val (.int i.toInt32), .val (.int n.toInt32)] [])
    have ev : vs = List.replicate n (.int u) := by
      apply List.ext_getElem (by simp [hvl])
      intro j h1 h2
      have q := hvs j (by omega)
      rw [List.getD_eq_getElem?_getD, List.getElem?_eq_getElem h1] at q
      simpa using q
    exact w_return W B d_fil_20 hQ (by decide) (by decide) (fun _ q => q) ⟨rfl, rfl, hK, ev ▸ Aa⟩
  | succ r ih =>
    intro i T h vs hir W Aa hvl hvs hK
    have hi : i < n := by omega
    have hi31 : i < 2 ^ 31 := by omega
    refine w_iloadN W B d_fil_5 rfl ?_
    refine w_iloadN W B d_fil_6 rfl ?_
    refine w_icmp_ge W B d_fil_7 (fun q => q ((n_lt hi31 hn).mpr hi) |>.elim) (fun _ => ?_)
    show G E x T (fr x 10 #[.val (.ref a), .val (.int u), .val (.int i.toInt32), .val (.int n.toInt32)] [])
    refine w_aloadN W B d_fil_10 rfl rfl ?_
    refine w_iloadN W B d_fil_11 rfl ?_
    refine w_iloadN W B d_fil_12 rfl ?_
    refine w_bastore W B d_fil_13 ha Aa ⟨n_nn hi31, (n_lt hi31 hn).mpr hi⟩ (i := i) (n_clamp hi31) (by rw [hvl]; exact hi) (u := u) hu ?_
    intro T2 h2 W2 K2 A2
    show G E x T2 (fr x 14 #[.val (.ref a), .val (.int u), .val (.int i.toInt32), .val (.int n.toInt32)] [])
    refine w_iinc W2 B d_fil_14 rfl (w := (i + 1).toInt32) (n_succ i) (Ls' := #[.val (.ref a), .val (.int u), .val (.int (i + 1).toInt32), .val (.int n.toInt32)]) rfl ?_
    refine w_goto W2 B d_fil_17 ?_
    exact ih (i + 1) T2 h2 (vs.set i (.int u)) (by omega) W2 A2 (by rw [List.length_set]; exact hvl) (set_pre (f := fun _ => .int u) hvl hi hvs) (hK.trans K2 (allS (Or.inl (List.Mem.head _)) all0))
set_option maxRecDepth 65536 in
set_option maxHeartbeats 4000000 in
theorem fil_met {E : Gl} (hw : Tb E) {h : Heap} {F : List Addr} {a : Addr} {k : ClassId} {n : Nat} {u : Int32} {vs : List Value} (hn : n < 2 ^ 31) (hu : nar .byte u = u) (ha : a ∈ F) (Aa : Arv E.Z h a k .byte n.toInt32 vs (.int 0)) (hvl : vs.length = n) :
    Met E (⟨"java/util/Arrays", "fill", "([BB)V"⟩ : MethodName) jdk_65_method_109_code 4 none ({ frames := 0, cells := 0, slots := 0, locals := 0 } : Room) #[.ref a, .int u] h F (fun r h' F' => r = none ∧ F = F' ∧ Keep h h' [a] ∧ Arv E.Z h' a k .byte n.toInt32 (List.replicate n (.int u)) (.int 0)) := by
  refine met_of (by decide +kernel) fun x T hQ B W => ?_
  refine G.cast (g' := fr x 0 #[.val (.ref a), .val (.int u), .unset, .unset] []) (by simp [entryFrame, mkF, argsToLocals, Own.cat_r, Own.cat_i, Own.cat_j, Own.cat_n]) ?_
  refine w_iconst W B d_fil_0 (v := (0 : Int32)) rfl ?_
  refine w_istoreN W B d_fil_1 (Ls' := #[.val (.ref a), .val (.int u), .val (.int (0 : Int32)), .unset]) rfl ?_
  refine w_aloadN W B d_fil_2 rfl rfl ?_
  refine w_arraylength W B d_fil_3 Aa ?_
  refine w_istoreN W B d_fil_4 (Ls' := #[.val (.ref a), .val (.int u), .val (.int (0 : Int32)), .val (.int n.toInt32)]) rfl ?_
  exact fil_turns hw hQ B hn hu ha n 0 T h vs (Nat.zero_add _) W Aa hvl (fun j q => absurd q (Nat.not_lt_zero _)) (Keep.refl _ _)
set_option maxRecDepth 65536 in
set_option maxHeartbeats 4000000 in
theorem rep_met {E : Gl} (hw : Tb E) {h : Heap} {F : List Addr} {s v : Addr} {k : ClassId} {m : Nat} (S : StrL E h s v k [48]) (hm : m ≤ 13) :
    Met E (⟨"java/lang/String", "repeat", "(I)Ljava/lang/String;"⟩ : MethodName) jdk_42_method_145_code 5 (some (.object "java/lang/String")) ({ frames := 2, cells := 2, slots := 20, locals := 27 } : Room) #[.ref s, .int m.toInt32] h F (fun r h' F' => ∃ (q qv : Addr) (kq : ClassId), r = some (.ref q) ∧ F = F' ∧ Keep h h' [] ∧ StrL E h' q qv kq (List.replicate m 48)) := by
  refine met_of (by decide +kernel) fun x T hQ B W => ?_
  refine G.cast (g' := fr x 0 #[.val (.ref s), .val (.int m.toInt32), .unset, .unset, .unset] []) (by simp [entryFrame, mkF, argsToLocals, Own.cat_r, Own.cat_i, Own.cat_j, Own.cat_n]) ?_
  have hm31 : m < 2 ^ 31 := by omega
  have S1 : Arv E.Z h v k .byte (1 : Int32) (b8 [48]) (.int 0) := S.2.2.2
  refine w_iloadN W B d_rep_0 rfl ?_
  refine w_if_ge W B d_rep_1 (fun _ => ?_) (fun q => absurd q (n_nn hm31))
  show G E x T (fr x 32 #[.val (.ref s), .val (.int m.toInt32), .unset, .unset, .unset] [])
  refine w_iloadN W B d_rep_32 rfl ?_
  refine w_iconst W B d_rep_33 (v := (1 : Int32)) rfl ?_
  refine w_icmp_ne W B d_rep_34 ?_ ?_
  · intro hc34
    show G E x T (fr x 39 #[.val (.ref s), .val (.int m.toInt32), .unset, .unset, .unset] [])
    refine w_aloadN W B d_rep_39 rfl rfl ?_
    refine w_getF W B d_rep_40 (wd hw 50 rfl) Via.refl S.2.1 ?_
    intro T1 W2
    refine w_arraylength W2 B d_rep_43 S1 ?_
    refine w_istoreN W2 B d_rep_44 (Ls' := #[.val (.ref s), .val (.int m.toInt32), .val (.int (1 : Int32)), .unset, .unset]) rfl ?_
    refine w_iloadN W2 B d_rep_45 rfl ?_
    refine w_if_eq W2 B d_rep_46 (fun q => absurd q (by decide)) (fun _ => ?_)
    show G E x T1 (fr x 49 #[.val (.ref s), .val (.int m.toInt32), .val (.int (1 : Int32)), .unset, .unset] [])
    refine w_iloadN W2 B d_rep_49 rfl ?_
    refine w_if_ne W2 B d_rep_50 ?_ ?_
    · intro hc50
      show G E x T1 (fr x 56 #[.val (.ref s), .val (.int m.toInt32), .val (.int (1 : Int32)), .unset, .unset] [])
      have hm2 : 2 ≤ m := by have q0 := mt (n_eq hm31 (n := 0) (by decide)).mpr hc50; have q1 := mt (n_eq hm31 (n := 1) (by decide)).mpr hc34; omega
      refine w_ldcWI W2 B d_rep_56 (wd hw 125 rfl) ?_
      refine w_iloadN W2 B d_rep_59 rfl ?_
      refine w_idiv W2 B d_rep_60 hc50 ?_
      refine w_iloadN W2 B d_rep_61 rfl ?_
      refine w_icmp_ge W2 B d_rep_62 (fun _ => ?_) (fun q => absurd q (rep_ok hm2 hm))
      show G E x T1 (fr x 76 #[.val (.ref s), .val (.int m.toInt32), .val (.int (1 : Int32)), .unset, .unset] [])
      refine w_iloadN W2 B d_rep_76 rfl ?_
      refine w_iconst W2 B d_rep_77 (v := (1 : Int32)) rfl ?_
      refine w_icmp_ne W2 B d_rep_78 (fun q => q rfl |>.elim) (fun _ => ?_)
      show G E x T1 (fr x 81 #[.val (.ref s), .val (.int m.toInt32), .val (.int (1 : Int32)), .unset, .unset] [])
      refine w_iloadN W2 B d_rep_81 rfl ?_
      refine w_newarray W2 B d_rep_82 rfl (wd hw 41 rfl) (n_nn hm31) (cap := 16) (by rw [n_clamp hm31]; omega) (by decide) (by decide) (by decide) ?_
      intro T3 h4 b5 k6 W7 g8 X9 A10
      show G E x T3 (fr x 84 #[.val (.ref s), .val (.int m.toInt32), .val (.int (1 : Int32)), .unset, .unset] [(.ref b5)])
      refine w_astoreN W7 B d_rep_84 rfl (Ls' := #[.val (.ref s), .val (.int m.toInt32), .val (.int (1 : Int32)), .val (.ref b5), .unset]) rfl ?_
      refine w_aloadN W7 B d_rep_85 rfl rfl ?_
      refine w_aloadN W7 B d_rep_86 rfl rfl ?_
      refine w_getF W7 B d_rep_87 (wd hw 50 rfl) Via.refl (S.2.1.ext X9) ?_
      intro T11 W12
      refine w_iconst W12 B d_rep_90 (v := (0 : Int32)) rfl ?_
      refine w_baload W12 B d_rep_91 (S1.ext X9) ⟨by decide, by decide⟩ (v := .int 48) (by decide) ?_
      refine w_static W12 B (y := ⟨"java/util/Arrays", "fill", "([BB)V"⟩) d_rep_92 (wd hw 126 rfl) (wd hw 127 rfl) (wd hw 128 rfl) (wd hw 129 rfl) (by decide) pd___BB_V390 (argsL := [(.ref b5), (.int (48 : Int32))]) rfl rfl rfl (Wt := 0) (Nat.le_of_eq rfl) (fil_met hw (n := m) (u := 48) hm31 rfl (List.Mem.head _) (A10.pad (pad_rep [] _ m)) (by simp)) (by decide) (by decide) (by decide) (by decide) ?_
      intro T13 h14 F15 v16 W17 Q18
      obtain ⟨rfl, rfl, KF, AF⟩ := Q18
      have AG : Arv E.Z h14 b5 k6 .byte (List.replicate m (48 : Int32)).length.toInt32 (b8 (List.replicate m 48)) (.int 0) := by rw [List.length_replicate, rep_b8]; exact AF
      show G E x T13 (fr x 95 #[.val (.ref s), .val (.int m.toInt32), .val (.int (1 : Int32)), .val (.ref b5), .unset] [])
      refine w_new W17 B d_rep_95 (wd hw 130 rfl) (wd hw 24 rfl) (wd hw 25 rfl) (by decide) (by decide) ?_
      intro T19 h20 b21 W22 g23 X24 A25 D26
      have f27 : Fld E.Z h20 b21 "java/lang/String" "coder" "B" (.int (0 : Int32)) := D26 (Or.inr (wd hw 49 rfl)) (ty := .byte) (by decide)
      have f28 : Fld E.Z h20 b21 "java/lang/String" "value" "[B" .null := D26 (Or.inr (wd hw 51 rfl)) (ty := (.array .byte)) (by decide)
      show G E x T19 (fr x 98 #[.val (.ref s), .val (.int m.toInt32), .val (.int (1 : Int32)), .val (.ref b5), .unset] [(.ref b21)])
      refine w_dup W22 B d_rep_98 rfl ?_
      refine w_aloadN W22 B d_rep_99 rfl rfl ?_
      refine w_aloadN W22 B d_rep_100 rfl rfl ?_
      refine w_getF W22 B d_rep_101 (wd hw 48 rfl) Via.refl (((S.2.2.1.ext X9).keep KF (ninS (Own.ne_new S.1.lt g8) nin0)).ext X24) ?_
      intro T29 W30
      refine w_special W30 B (y := ⟨"java/lang/String", "<init>", "([BB)V"⟩) d_rep_104 rfl (wd hw 131 rfl) (wd hw 132 rfl) (wd hw 25 rfl) (wd hw 133 rfl) (by decide) pd___BB_V390 (argsL := [(.ref b5), (.int (0 : Int32))]) rfl rfl rfl (Wt := 1) (Nat.le_of_eq rfl) (inibb_met hw (List.Mem.head _) A25 f28 f27 (AG.ext X24)) (by decide) (by decide) (by decide) (by decide) ?_
      intro T31 h32 F33 v34 W35 Q36
      obtain ⟨rfl, rfl, KS, SS⟩ := Q36
      show G E x T31 (fr x 107 #[.val (.ref s), .val (.int m.toInt32), .val (.int (1 : Int32)), .val (.ref b5), .unset] [(.ref b21)])
      have KK37 : Keep h h4 [] := (Keep.refl h []).ext X9
      have KK38 : Keep h h14 [] := KK37.trans KF (allS (Or.inr (Nat.le_trans (Keep.refl h []).1 (Nat.le_of_eq g8.symm))) all0)
      have KK39 : Keep h h20 [] := KK38.ext X24
      have KK40 : Keep h h32 [] := KK39.trans KS (allS (Or.inr (Nat.le_trans KK38.1 (Nat.le_of_eq g23.symm))) all0)
      exact w_areturn W35 B d_rep_107 rfl rfl hQ (by decide) (by decide) (fun _ q => (List.Mem.tail _ (List.Mem.tail _ q))) ⟨b21, b5, _, rfl, rfl, KK40, SS⟩
    · intro hc50
      show G E x T1 (fr x 53 #[.val (.ref s), .val (.int m.toInt32), .val (.int (1 : Int32)), .unset, .unset] [])
      refine w_ldcS W2 B (n := 0) (text := "") (vs := []) (z := 0) d_rep_53 hw.2.2.1 (by rw [hw.2.2.2]; decide) (wd hw 253 rfl) (strAtoms hw) ⟨by decide, by decide⟩ (by decide) (by decide) (by decide) (by decide) (by decide) (by decide) ?_
      intro T41 h42 c43 v44 k45 W46 X47 E48 f49 f50 A51 n52
      show G E x T41 (fr x 55 #[.val (.ref s), .val (.int m.toInt32), .val (.int (1 : Int32)), .unset, .unset] [(.ref c43)])
      have KK53 : Keep h h42 [] := (Keep.refl h []).ext X47
      exact w_areturn W46 B d_rep_55 rfl rfl hQ (by decide) (by decide) (fun _ q => q) ⟨c43, v44, _, rfl, rfl, KK53, by rw [show m = 0 from (n_eq hm31 (n := 0) (by decide)).mp hc50]; exact ⟨E48, f50, f49, A51⟩⟩
  · intro hc34
    show G E x T (fr x 37 #[.val (.ref s), .val (.int m.toInt32), .unset, .unset, .unset] [])
    refine w_aloadN W B d_rep_37 rfl rfl ?_
    exact w_areturn W B d_rep_38 rfl rfl hQ (by decide) (by decide) (fun _ q => q) ⟨s, v, k, rfl, rfl, Keep.refl _ _, by rw [show m = 1 from (n_eq hm31 (n := 1) (by decide)).mp hc34]; exact S⟩
set_option maxRecDepth 65536 in
set_option maxHeartbeats 4000000 in
theorem ckd_turns {E : Gl} (hw : Tb E) {x : Cx} {h : Heap} {F : List Addr} {s v : Addr} {k : ClassId} {d : Nat → Nat} (hQ : x.Q = (fun r h' F' => r = some (.int (dc (ckn (sm d 14)))) ∧ h = h' ∧ F = F')) (B : Is x "com/example/fordring/fordring/account/PaymentReference" prog_2_method_4_code 5 ({ frames := 4, cells := 0, slots := 0, locals := 53 } : Room) (some .char) "checkDigit") (hd : ∀ k, d k ≤ 9) (S : StrL E h s v k (pads d)) :
    ∀ (j : Nat) (T : State) (s4 : Slot), j ≤ 14 → LS s4 → Wk E x T h F 0 0 → G E x T (fr x 11 #[.val (.ref s), .val (.int (sm d (14 - j)).toInt32), .val (.int (fl (14 - j))), .val (.int (j.toInt32 - (1 : Int32))), s4] []) := by
  intro j
  induction j with
  | zero =>
    intro T s4 hj hs4 W
    show G E x T (fr x 11 #[.val (.ref s), .val (.int (sm d 14).toInt32), .val (.int (fl 14)), .val (.int ((0 : Nat).toInt32 - (1 : Int32))), s4] [])
    refine w_iloadN W B d_ckd_11 rfl ?_
    refine w_if_lt W B d_ckd_12 (fun _ => ?_) (fun q => q (by decide) |>.elim)
    show G E x T (fr x 66 #[.val (.ref s), .val (.int (sm d 14).toInt32), .val (.int (fl 14)), .val (.int ((0 : Nat).toInt32 - (1 : Int32))), s4] [])
    refine w_bipush W B d_ckd_66 (v := (48 : Int32)) rfl ?_
    refine w_bipush W B d_ckd_68 (v := (10 : Int32)) rfl ?_
    refine w_iloadN W B d_ckd_70 rfl ?_
    refine w_bipush W B d_ckd_71 (v := (10 : Int32)) rfl ?_
    refine w_irem W B d_ckd_73 (by decide) ?_
    refine w_isub W B d_ckd_74 ?_
    refine w_bipush W B d_ckd_75 (v := (10 : Int32)) rfl ?_
    refine w_irem W B d_ckd_77 (by decide) ?_
    rw [ck_eq (by have := sm_le hd 14; omega)]
    show G E x T (fr x 78 #[.val (.ref s), .val (.int (sm d 14).toInt32), .val (.int (fl 14)), .val (.int ((0 : Nat).toInt32 - (1 : Int32))), s4] [(.int (ckn (sm d 14)).toInt32), (.int (48 : Int32))])
    refine w_iadd W B d_ckd_78 ?_
    refine w_i2c W B d_ckd_79 ?_
    rw [dc_i2c (ckn_le _)]
    show G E x T (fr x 80 #[.val (.ref s), .val (.int (sm d 14).toInt32), .val (.int (fl 14)), .val (.int ((0 : Nat).toInt32 - (1 : Int32))), s4] [(.int (dc (ckn (sm d 14))))])
    exact w_ireturnN W B d_ckd_80 (Or.inr (Or.inr (Or.inl rfl))) (u := dc (ckn (sm d 14))) (nar_dc (ckn_le _)) hQ (by decide) (by decide) (fun _ q => q) ⟨rfl, rfl, rfl⟩
  | succ j ih =>
    intro T s4 hj hs4 W
    have hj31 : j < 2 ^ 31 := by omega
    rw [show (j + 1).toInt32 - (1 : Int32) = j.toInt32 from pred_i j, show 14 - (j + 1) = (13 - j) from by omega]
    refine w_iloadN W B d_ckd_11 rfl ?_
    refine w_if_lt W B d_ckd_12 (fun q => absurd q (n_nn hj31)) (fun _ => ?_)
    show G E x T (fr x 15 #[.val (.ref s), .val (.int (sm d (13 - j)).toInt32), .val (.int (fl (13 - j))), .val (.int j.toInt32), s4] [])
    refine w_aloadN W B d_ckd_15 rfl rfl ?_
    refine w_iloadN W B d_ckd_16 rfl ?_
    refine w_virtual W B (y := ⟨"java/lang/String", "charAt", "(I)C"⟩) (z := ⟨"java/lang/String", "charAt", "(I)C"⟩) d_ckd_17 (wd hw 77 rfl) (wd hw 78 rfl) (nf_sel (wd hw 80 rfl)) (wd hw 80 rfl) (wd hw 79 rfl) (wd hw 25 rfl) (wd hw 81 rfl) (by decide) S.1 pd__I_C221 (argsL := [(.int j.toInt32)]) rfl rfl rfl (Wt := 0) (Nat.le_of_eq rfl) (sca_met hw (i := j) S (dgs_ch (pads_rng hd)) (dgs_lat (pads_rng hd)) (by rw [pads_len]; decide) (by rw [pads_len]; omega)) (by decide) (by decide) (by decide) (by decide) ?_
    intro T1 h2 F3 v4 W5 Q6
    obtain ⟨rfl, rfl, rfl⟩ := Q6
    show G E x T1 (fr x 20 #[.val (.ref s), .val (.int (sm d (13 - j)).toInt32), .val (.int (fl (13 - j))), .val (.int j.toInt32), s4] [(.int ((pads d).getD j 0))])
    refine w_bipush W5 B d_ckd_20 (v := (48 : Int32)) rfl ?_
    refine w_isub W5 B d_ckd_22 ?_
    rw [pads_at d (show j < 14 by omega), dc_sub (hd _)]
    show G E x T1 (fr x 23 #[.val (.ref s), .val (.int (sm d (13 - j)).toInt32), .val (.int (fl (13 - j))), .val (.int j.toInt32), s4] [(.int (d (13 - j)).toInt32)])
    refine w_istore W5 B d_ckd_23 (Ls' := #[.val (.ref s), .val (.int (sm d (13 - j)).toInt32), .val (.int (fl (13 - j))), .val (.int j.toInt32), .val (.int (d (13 - j)).toInt32)]) (store_lit [.val (.ref s), .val (.int (sm d (13 - j)).toInt32), .val (.int (fl (13 - j))), .val (.int j.toInt32)] [] hs4 _) ?_
    by_cases hp : (13 - j) % 2 = 0
    ·
      rw [(fl_even hp).1]
      show G E x T1 (fr x 25 #[.val (.ref s), .val (.int (sm d (13 - j)).toInt32), .val (.int (1 : Int32)), .val (.int j.toInt32), .val (.int (d (13 - j)).toInt32)] [])
      refine w_iloadN W5 B d_ckd_25 rfl ?_
      refine w_if_eq W5 B d_ckd_26 (fun q => absurd q (by decide)) (fun _ => ?_)
      show G E x T1 (fr x 29 #[.val (.ref s), .val (.int (sm d (13 - j)).toInt32), .val (.int (1 : Int32)), .val (.int j.toInt32), .val (.int (d (13 - j)).toInt32)] [])
      refine w_iload W5 B d_ckd_29 rfl ?_
      refine w_iconst W5 B d_ckd_31 (v := (2 : Int32)) rfl ?_
      refine w_imul W5 B d_ckd_32 ?_
      rw [show (d (13 - j)).toInt32 * (2 : Int32) = (d (13 - j) * 2).toInt32 from n_mul _ 2]
      show G E x T1 (fr x 33 #[.val (.ref s), .val (.int (sm d (13 - j)).toInt32), .val (.int (1 : Int32)), .val (.int j.toInt32), .val (.int (d (13 - j)).toInt32)] [(.int (d (13 - j) * 2).toInt32)])
      refine w_istore W5 B d_ckd_33 (Ls' := #[.val (.ref s), .val (.int (sm d (13 - j)).toInt32), .val (.int (1 : Int32)), .val (.int j.toInt32), .val (.int (d (13 - j) * 2).toInt32)]) rfl ?_
      refine w_iload W5 B d_ckd_35 rfl ?_
      refine w_bipush W5 B d_ckd_37 (v := (9 : Int32)) rfl ?_
      refine w_icmp_le W5 B d_ckd_39 ?_ ?_
      · intro hc39
        show G E x T1 (fr x 45 #[.val (.ref s), .val (.int (sm d (13 - j)).toInt32), .val (.int (1 : Int32)), .val (.int j.toInt32), .val (.int (d (13 - j) * 2).toInt32)] [])
        rw [dbl_lo (hd _) hc39]
        show G E x T1 (fr x 45 #[.val (.ref s), .val (.int (sm d (13 - j)).toInt32), .val (.int (1 : Int32)), .val (.int j.toInt32), .val (.int (dbn (d (13 - j))).toInt32)] [])
        refine w_iloadN W5 B d_ckd_45 rfl ?_
        refine w_iload W5 B d_ckd_46 rfl ?_
        refine w_iadd W5 B d_ckd_48 ?_
        rw [n_add, show sm d (13 - j) + dbn (d (13 - j)) = sm d ((13 - j) + 1) from sm_even hp]
        show G E x T1 (fr x 49 #[.val (.ref s), .val (.int (sm d (13 - j)).toInt32), .val (.int (1 : Int32)), .val (.int j.toInt32), .val (.int (dbn (d (13 - j))).toInt32)] [(.int (sm d ((13 - j) + 1)).toInt32)])
        refine w_istoreN W5 B d_ckd_49 (Ls' := #[.val (.ref s), .val (.int (sm d ((13 - j) + 1)).toInt32), .val (.int (1 : Int32)), .val (.int j.toInt32), .val (.int (dbn (d (13 - j))).toInt32)]) rfl ?_
        refine w_iloadN W5 B d_ckd_50 rfl ?_
        refine w_if_ne W5 B d_ckd_51 (fun _ => ?_) (fun q => absurd q (by decide))
        show G E x T1 (fr x 58 #[.val (.ref s), .val (.int (sm d ((13 - j) + 1)).toInt32), .val (.int (1 : Int32)), .val (.int j.toInt32), .val (.int (dbn (d (13 - j))).toInt32)] [])
        refine w_iconst W5 B d_ckd_58 (v := (0 : Int32)) rfl ?_
        refine w_istoreN W5 B d_ckd_59 (Ls' := #[.val (.ref s), .val (.int (sm d ((13 - j) + 1)).toInt32), .val (.int (0 : Int32)), .val (.int j.toInt32), .val (.int (dbn (d (13 - j))).toInt32)]) rfl ?_
        refine w_iinc W5 B d_ckd_60 rfl (w := j.toInt32 - (1 : Int32)) (dec_i _) (Ls' := #[.val (.ref s), .val (.int (sm d ((13 - j) + 1)).toInt32), .val (.int (0 : Int32)), .val (.int (j.toInt32 - (1 : Int32))), .val (.int (dbn (d (13 - j))).toInt32)]) rfl ?_
        refine w_goto W5 B d_ckd_63 ?_
        have e1 : 14 - j = (13 - j) + 1 := by omega
        have q := ih T1 (.val (.int (dbn (d (13 - j))).toInt32)) (by omega) (Or.inr ⟨_, rfl⟩) W5
        rw [e1, (fl_even hp).2] at q
        exact q
      · intro hc39
        show G E x T1 (fr x 42 #[.val (.ref s), .val (.int (sm d (13 - j)).toInt32), .val (.int (1 : Int32)), .val (.int j.toInt32), .val (.int (d (13 - j) * 2).toInt32)] [])
        refine w_iinc W5 B d_ckd_42 rfl (w := (dbn (d (13 - j))).toInt32) (dbl_hi (hd _) hc39) (Ls' := #[.val (.ref s), .val (.int (sm d (13 - j)).toInt32), .val (.int (1 : Int32)), .val (.int j.toInt32), .val (.int (dbn (d (13 - j))).toInt32)]) rfl ?_
        refine w_iloadN W5 B d_ckd_45 rfl ?_
        refine w_iload W5 B d_ckd_46 rfl ?_
        refine w_iadd W5 B d_ckd_48 ?_
        rw [n_add, show sm d (13 - j) + dbn (d (13 - j)) = sm d ((13 - j) + 1) from sm_even hp]
        show G E x T1 (fr x 49 #[.val (.ref s), .val (.int (sm d (13 - j)).toInt32), .val (.int (1 : Int32)), .val (.int j.toInt32), .val (.int (dbn (d (13 - j))).toInt32)] [(.int (sm d ((13 - j) + 1)).toInt32)])
        refine w_istoreN W5 B d_ckd_49 (Ls' := #[.val (.ref s), .val (.int (sm d ((13 - j) + 1)).toInt32), .val (.int (1 : Int32)), .val (.int j.toInt32), .val (.int (dbn (d (13 - j))).toInt32)]) rfl ?_
        refine w_iloadN W5 B d_ckd_50 rfl ?_
        refine w_if_ne W5 B d_ckd_51 (fun _ => ?_) (fun q => absurd q (by decide))
        show G E x T1 (fr x 58 #[.val (.ref s), .val (.int (sm d ((13 - j) + 1)).toInt32), .val (.int (1 : Int32)), .val (.int j.toInt32), .val (.int (dbn (d (13 - j))).toInt32)] [])
        refine w_iconst W5 B d_ckd_58 (v := (0 : Int32)) rfl ?_
        refine w_istoreN W5 B d_ckd_59 (Ls' := #[.val (.ref s), .val (.int (sm d ((13 - j) + 1)).toInt32), .val (.int (0 : Int32)), .val (.int j.toInt32), .val (.int (dbn (d (13 - j))).toInt32)]) rfl ?_
        refine w_iinc W5 B d_ckd_60 rfl (w := j.toInt32 - (1 : Int32)) (dec_i _) (Ls' := #[.val (.ref s), .val (.int (sm d ((13 - j) + 1)).toInt32), .val (.int (0 : Int32)), .val (.int (j.toInt32 - (1 : Int32))), .val (.int (dbn (d (13 - j))).toInt32)]) rfl ?_
        refine w_goto W5 B d_ckd_63 ?_
        have e1 : 14 - j = (13 - j) + 1 := by omega
        have q := ih T1 (.val (.int (dbn (d (13 - j))).toInt32)) (by omega) (Or.inr ⟨_, rfl⟩) W5
        rw [e1, (fl_even hp).2] at q
        exact q
    ·
      rw [(fl_odd hp).1]
      show G E x T1 (fr x 25 #[.val (.ref s), .val (.int (sm d (13 - j)).toInt32), .val (.int (0 : Int32)), .val (.int j.toInt32), .val (.int (d (13 - j)).toInt32)] [])
      refine w_iloadN W5 B d_ckd_25 rfl ?_
      refine w_if_eq W5 B d_ckd_26 (fun _ => ?_) (fun q => q (by decide) |>.elim)
      show G E x T1 (fr x 45 #[.val (.ref s), .val (.int (sm d (13 - j)).toInt32), .val (.int (0 : Int32)), .val (.int j.toInt32), .val (.int (d (13 - j)).toInt32)] [])
      refine w_iloadN W5 B d_ckd_45 rfl ?_
      refine w_iload W5 B d_ckd_46 rfl ?_
      refine w_iadd W5 B d_ckd_48 ?_
      rw [n_add, show sm d (13 - j) + d (13 - j) = sm d ((13 - j) + 1) from sm_odd hp]
      show G E x T1 (fr x 49 #[.val (.ref s), .val (.int (sm d (13 - j)).toInt32), .val (.int (0 : Int32)), .val (.int j.toInt32), .val (.int (d (13 - j)).toInt32)] [(.int (sm d ((13 - j) + 1)).toInt32)])
      refine w_istoreN W5 B d_ckd_49 (Ls' := #[.val (.ref s), .val (.int (sm d ((13 - j) + 1)).toInt32), .val (.int (0 : Int32)), .val (.int j.toInt32), .val (.int (d (13 - j)).toInt32)]) rfl ?_
      refine w_iloadN W5 B d_ckd_50 rfl ?_
      refine w_if_ne W5 B d_ckd_51 (fun q => q (by decide) |>.elim) (fun _ => ?_)
      show G E x T1 (fr x 54 #[.val (.ref s), .val (.int (sm d ((13 - j) + 1)).toInt32), .val (.int (0 : Int32)), .val (.int j.toInt32), .val (.int (d (13 - j)).toInt32)] [])
      refine w_iconst W5 B d_ckd_54 (v := (1 : Int32)) rfl ?_
      refine w_goto W5 B d_ckd_55 ?_
      refine w_istoreN W5 B d_ckd_59 (Ls' := #[.val (.ref s), .val (.int (sm d ((13 - j) + 1)).toInt32), .val (.int (1 : Int32)), .val (.int j.toInt32), .val (.int (d (13 - j)).toInt32)]) rfl ?_
      refine w_iinc W5 B d_ckd_60 rfl (w := j.toInt32 - (1 : Int32)) (dec_i _) (Ls' := #[.val (.ref s), .val (.int (sm d ((13 - j) + 1)).toInt32), .val (.int (1 : Int32)), .val (.int (j.toInt32 - (1 : Int32))), .val (.int (d (13 - j)).toInt32)]) rfl ?_
      refine w_goto W5 B d_ckd_63 ?_
      have e1 : 14 - j = (13 - j) + 1 := by omega
      have q := ih T1 (.val (.int (d (13 - j)).toInt32)) (by omega) (Or.inr ⟨_, rfl⟩) W5
      rw [e1, (fl_odd hp).2] at q
      exact q
set_option maxRecDepth 65536 in
set_option maxHeartbeats 4000000 in
theorem ckd_met {E : Gl} (hw : Tb E) {h : Heap} {F : List Addr} {s v : Addr} {k : ClassId} {d : Nat → Nat} (hd : ∀ k, d k ≤ 9) (S : StrL E h s v k (pads d)) :
    Met E (⟨"com/example/fordring/fordring/account/PaymentReference", "checkDigit", "(Ljava/lang/String;)C"⟩ : MethodName) prog_2_method_4_code 5 (some .char) ({ frames := 4, cells := 0, slots := 0, locals := 53 } : Room) #[.ref s] h F (fun r h' F' => r = some (.int (dc (ckn (sm d 14)))) ∧ h = h' ∧ F = F') := by
  refine met_of (by decide +kernel) fun x T hQ B W => ?_
  refine G.cast (g' := fr x 0 #[.val (.ref s), .unset, .unset, .unset, .unset] []) (by simp [entryFrame, mkF, argsToLocals, Own.cat_r, Own.cat_i, Own.cat_j, Own.cat_n]) ?_
  refine w_iconst W B d_ckd_0 (v := (0 : Int32)) rfl ?_
  refine w_istoreN W B d_ckd_1 (Ls' := #[.val (.ref s), .val (.int (0 : Int32)), .unset, .unset, .unset]) rfl ?_
  refine w_iconst W B d_ckd_2 (v := (1 : Int32)) rfl ?_
  refine w_istoreN W B d_ckd_3 (Ls' := #[.val (.ref s), .val (.int (0 : Int32)), .val (.int (1 : Int32)), .unset, .unset]) rfl ?_
  refine w_aloadN W B d_ckd_4 rfl rfl ?_
  refine w_virtual W B (y := ⟨"java/lang/String", "length", "()I"⟩) (z := ⟨"java/lang/String", "length", "()I"⟩) d_ckd_5 (wd hw 64 rfl) (wd hw 65 rfl) (nf_sel (wd hw 67 rfl)) (wd hw 67 rfl) (wd hw 66 rfl) (wd hw 25 rfl) (wd hw 68 rfl) (by decide) S.1 pd___I154 (argsL := []) rfl rfl rfl (Wt := 0) (Nat.le_of_eq rfl) (slen_met hw S) (by decide) (by decide) (by decide) (by decide) ?_
  intro T1 h2 F3 v4 W5 Q6
  obtain ⟨rfl, rfl, rfl⟩ := Q6
  show G E x T1 (fr x 8 #[.val (.ref s), .val (.int (0 : Int32)), .val (.int (1 : Int32)), .unset, .unset] [(.int (pads d).length.toInt32)])
  refine w_iconst W5 B d_ckd_8 (v := (1 : Int32)) rfl ?_
  refine w_isub W5 B d_ckd_9 ?_
  refine w_istoreN W5 B d_ckd_10 (Ls' := #[.val (.ref s), .val (.int (0 : Int32)), .val (.int (1 : Int32)), .val (.int ((pads d).length.toInt32 - (1 : Int32))), .unset]) rfl ?_
  have q := ckd_turns hw hQ B hd S 14 T1 .unset (by decide) (Or.inl rfl) W5
  rw [pads_len]; exact q
set_option maxRecDepth 65536 in
set_option maxHeartbeats 4000000 in
theorem pri_met {E : Gl} (hw : Tb E) {h : Heap} {F : List Addr} {o q : Addr} (ho : o ∈ F) (Eo : Exa E.Z h o "com/example/fordring/fordring/account/PaymentReference") (fo : Fld E.Z h o "com/example/fordring/fordring/account/PaymentReference" "digits" "Ljava/lang/String;" .null) :
    Met E (⟨"com/example/fordring/fordring/account/PaymentReference", "<init>", "(Ljava/lang/String;)V"⟩ : MethodName) prog_2_method_1_code 2 none ({ frames := 1, cells := 0, slots := 0, locals := 12 } : Room) #[.ref o, .ref q] h F (fun r h' F' => r = none ∧ F = F' ∧ Keep h h' [o] ∧ Exa E.Z h' o "com/example/fordring/fordring/account/PaymentReference" ∧ Fld E.Z h' o "com/example/fordring/fordring/account/PaymentReference" "digits" "Ljava/lang/String;" (.ref q)) := by
  refine met_of (by decide +kernel) fun x T hQ B W => ?_
  refine G.cast (g' := fr x 0 #[.val (.ref o), .val (.ref q)] []) (by simp [entryFrame, mkF, argsToLocals, Own.cat_r, Own.cat_i, Own.cat_j, Own.cat_n]) ?_
  refine w_aloadN W B d_pri_0 rfl rfl ?_
  refine w_initO W B d_pri_1 (wd hw 237 rfl) (wd hw 34 rfl) (wd hw 35 rfl) rfl (by decide) (Wt := 0) (Nat.le_of_eq rfl) (by decide) ?_
  intro T1 W2
  refine w_aloadN W2 B d_pri_4 rfl rfl ?_
  refine w_aloadN W2 B d_pri_5 rfl rfl ?_
  refine w_putF W2 B d_pri_6 ho (wd hw 238 rfl) Via.refl fo Eo (Or.inr ⟨(wd hw 239 rfl), rfl, rfl⟩) (wd hw 217 rfl) (ty := (.object "java/lang/String")) (v' := (.ref q)) (by decide) rfl rfl ?_
  intro T3 h4 W5 Y6 f7
  have KK8 : Keep h h4 [o] := (Keep.refl h [o]).wr Y6 (Or.inl (List.Mem.head _))
  exact w_return W5 B d_pri_9 hQ (by decide) (by decide) (fun _ q => q) ⟨rfl, rfl, KK8, (Eo.wr Y6), f7⟩
set_option maxRecDepth 65536 in
set_option maxHeartbeats 4000000 in
theorem prs_met {E : Gl} (hw : Tb E) {h : Heap} {F : List Addr} {o q : Addr} (fo : Fld E.Z h o "com/example/fordring/fordring/account/PaymentReference" "digits" "Ljava/lang/String;" (.ref q)) :
    Met E (⟨"com/example/fordring/fordring/account/PaymentReference", "toString", "()Ljava/lang/String;"⟩ : MethodName) prog_2_method_8_code 1 (some (.object "java/lang/String")) ({ frames := 0, cells := 0, slots := 0, locals := 0 } : Room) #[.ref o] h F (fun r h' F' => r = some (.ref q) ∧ h = h' ∧ F = F') := by
  refine met_of (by decide +kernel) fun x T hQ B W => ?_
  refine G.cast (g' := fr x 0 #[.val (.ref o)] []) (by simp [entryFrame, mkF, argsToLocals, Own.cat_r, Own.cat_i, Own.cat_j, Own.cat_n]) ?_
  refine w_aloadN W B d_prs_0 rfl rfl ?_
  refine w_getF W B d_prs_1 (wd hw 238 rfl) Via.refl fo ?_
  intro T1 W2
  exact w_areturn W2 B d_prs_4 rfl rfl hQ (by decide) (by decide) (fun _ q => q) ⟨rfl, rfl, rfl⟩
set_option maxRecDepth 65536 in
set_option maxHeartbeats 4000000 in
theorem dig_met {E : Gl} (hw : Tb E) {h : Heap} {F : List Addr} {v pk : Int64} {w k : Nat} (hv : v.toInt = (w : Int)) (hp : pk.toInt = ((10 ^ k : Nat) : Int)) (hne : pk ≠ 0) :
    Met E (⟨"com/example/fordring/fordring/account/PaymentReferenceForCustomerPinLaw", "dig", "(JJ)I"⟩ : MethodName) method_3_code 4 (some .int) ({ frames := 0, cells := 0, slots := 0, locals := 0 } : Room) #[.long v, .long pk] h F (fun r h' F' => r = some (.int (dg w k).toInt32) ∧ h = h' ∧ F = F') := by
  refine met_of (by decide +kernel) fun x T hQ B W => ?_
  refine G.cast (g' := fr x 0 #[.val (.long v), .second, .val (.long pk), .second] []) (by simp [entryFrame, mkF, argsToLocals, Own.cat_r, Own.cat_i, Own.cat_j, Own.cat_n]) ?_
  refine w_lloadN W B d_dig_0 rfl ?_
  refine w_lloadN W B d_dig_1 rfl ?_
  refine w_ldiv W B d_dig_2 hne ?_
  refine w_ldc2J W B d_dig_3 (wd hw 1 rfl) ?_
  refine w_lrem W B d_dig_6 (by decide) ?_
  refine w_l2i W B d_dig_7 ?_
  rw [dig_eq hv hp]
  show G E x T (fr x 8 #[.val (.long v), .second, .val (.long pk), .second] [(.int (dg w k).toInt32)])
  exact w_ireturn W B d_dig_8 hQ (by decide) (by decide) (fun _ q => q) ⟨rfl, rfl, rfl⟩
set_option maxRecDepth 65536 in
set_option maxHeartbeats 4000000 in
theorem dbl_met {E : Gl} (hw : Tb E) {h : Heap} {F : List Addr} {x0 : Nat} (hx : x0 ≤ 9) :
    Met E (⟨"com/example/fordring/fordring/account/PaymentReferenceForCustomerPinLaw", "dbl", "(I)I"⟩ : MethodName) method_2_code 2 (some .int) ({ frames := 0, cells := 0, slots := 0, locals := 0 } : Room) #[.int x0.toInt32] h F (fun r h' F' => r = some (.int (dbn x0).toInt32) ∧ h = h' ∧ F = F') := by
  refine met_of (by decide +kernel) fun x T hQ B W => ?_
  refine G.cast (g' := fr x 0 #[.val (.int x0.toInt32), .unset] []) (by simp [entryFrame, mkF, argsToLocals, Own.cat_r, Own.cat_i, Own.cat_j, Own.cat_n]) ?_
  refine w_iconst W B d_dbl_0 (v := (2 : Int32)) rfl ?_
  refine w_iloadN W B d_dbl_1 rfl ?_
  refine w_imul W B d_dbl_2 ?_
  refine w_istoreN W B d_dbl_3 (Ls' := #[.val (.int x0.toInt32), .val (.int ((2 : Int32) * x0.toInt32))]) rfl ?_
  refine w_iloadN W B d_dbl_4 rfl ?_
  refine w_bipush W B d_dbl_5 (v := (10 : Int32)) rfl ?_
  refine w_idiv W B d_dbl_7 (by decide) ?_
  refine w_iloadN W B d_dbl_8 rfl ?_
  refine w_bipush W B d_dbl_9 (v := (10 : Int32)) rfl ?_
  refine w_irem W B d_dbl_11 (by decide) ?_
  refine w_iadd W B d_dbl_12 ?_
  rw [dbl_ok hx]
  show G E x T (fr x 13 #[.val (.int x0.toInt32), .val (.int ((2 : Int32) * x0.toInt32))] [(.int (dbn x0).toInt32)])
  exact w_ireturn W B d_dbl_13 hQ (by decide) (by decide) (fun _ q => q) ⟨rfl, rfl, rfl⟩
set_option maxRecDepth 65536 in
set_option maxHeartbeats 4000000 in
theorem forc_met {E : Gl} (hw : Tb E) {h : Heap} {F : List Addr} {s sv : Addr} {ks : ClassId} {d : Nat → Nat} {n : Nat} (hd : ∀ k, d k ≤ 9) (h0 : ∀ k, n ≤ k → d k = 0) (h1 : 1 ≤ n) (hn : n ≤ 14) (S : StrL E h s sv ks (cust d n)) :
    Met E (⟨"com/example/fordring/fordring/account/PaymentReference", "forCustomer", "(Ljava/lang/String;)Lcom/example/fordring/fordring/account/PaymentReference;"⟩ : MethodName) prog_2_method_2_code 2 (some (.object "com/example/fordring/fordring/account/PaymentReference")) ({ frames := 6, cells := 13, slots := 109, locals := 93 } : Room) #[.ref s] h F (fun r h' F' => ∃ (o q qv : Addr) (kq : ClassId), r = some (.ref o) ∧ F = F' ∧ Keep h h' [] ∧ Exa E.Z h' o "com/example/fordring/fordring/account/PaymentReference" ∧ Fld E.Z h' o "com/example/fordring/fordring/account/PaymentReference" "digits" "Ljava/lang/String;" (.ref q) ∧ StrL E h' q qv kq (refd d)) := by
  refine met_of (by decide +kernel) fun x T hQ B W => ?_
  refine G.cast (g' := fr x 0 #[.val (.ref s), .unset] []) (by simp [entryFrame, mkF, argsToLocals, Own.cat_r, Own.cat_i, Own.cat_j, Own.cat_n]) ?_
  refine w_aloadN W B d_forc_0 rfl rfl ?_
  refine w_virtual W B (y := ⟨"java/lang/String", "isEmpty", "()Z"⟩) (z := ⟨"java/lang/String", "isEmpty", "()Z"⟩) d_forc_1 (wd hw 59 rfl) (wd hw 60 rfl) (nf_sel (wd hw 62 rfl)) (wd hw 62 rfl) (wd hw 61 rfl) (wd hw 25 rfl) (wd hw 63 rfl) (by decide) S.1 pd___Z171 (argsL := []) rfl rfl rfl (Wt := 0) (Nat.le_of_eq rfl) (semp_met hw S (by rw [cust_len]; exact h1) (by rw [cust_len]; omega)) (by decide) (by decide) (by decide) (by decide) ?_
  intro T1 h2 F3 v4 W5 Q6
  obtain ⟨rfl, rfl, rfl⟩ := Q6
  show G E x T1 (fr x 4 #[.val (.ref s), .unset] [(.int (0 : Int32))])
  refine w_if_ne W5 B d_forc_4 (fun q => q rfl |>.elim) (fun _ => ?_)
  show G E x T1 (fr x 7 #[.val (.ref s), .unset] [])
  refine w_aloadN W5 B d_forc_7 rfl rfl ?_
  refine w_virtual W5 B (y := ⟨"java/lang/String", "length", "()I"⟩) (z := ⟨"java/lang/String", "length", "()I"⟩) d_forc_8 (wd hw 64 rfl) (wd hw 65 rfl) (nf_sel (wd hw 67 rfl)) (wd hw 67 rfl) (wd hw 66 rfl) (wd hw 25 rfl) (wd hw 68 rfl) (by decide) S.1 pd___I154 (argsL := []) rfl rfl rfl (Wt := 0) (Nat.le_of_eq rfl) (slen_met hw ⟨S.1, S.2.1, S.2.2.1, S.2.2.2⟩) (by decide) (by decide) (by decide) (by decide) ?_
  intro T7 h8 F9 v10 W11 Q12
  obtain ⟨rfl, rfl, rfl⟩ := Q12
  show G E x T7 (fr x 11 #[.val (.ref s), .unset] [(.int (cust d n).length.toInt32)])
  refine w_bipush W11 B d_forc_11 (v := (14 : Int32)) rfl ?_
  refine w_icmp_gt W11 B d_forc_13 (fun q => absurd q (by rw [cust_len]; exact fun q => absurd ((n_lt (i := 14) (n := n) (by decide) (by omega)).mp q) (by omega))) (fun _ => ?_)
  show G E x T7 (fr x 16 #[.val (.ref s), .unset] [])
  refine w_aloadN W11 B d_forc_16 rfl rfl ?_
  refine w_static W11 B (y := ⟨"com/example/fordring/fordring/account/PaymentReference", "isAsciiDigits", "(Ljava/lang/String;)Z"⟩) d_forc_17 (wd hw 74 rfl) (wd hw 75 rfl) (wd hw 57 rfl) (wd hw 76 rfl) (by decide) pd__Ljava_lang_String__Z870 (argsL := [(.ref s)]) rfl rfl rfl (Wt := 0) (Nat.le_of_eq rfl) (iad_met hw S (by rw [cust_len]; omega) (cust_rng hd n)) (by decide) (by decide) (by decide) (by decide) ?_
  intro T13 h14 F15 v16 W17 Q18
  obtain ⟨rfl, rfl, rfl⟩ := Q18
  show G E x T13 (fr x 20 #[.val (.ref s), .unset] [(.int (1 : Int32))])
  refine w_if_ne W17 B d_forc_20 (fun _ => ?_) (fun q => absurd q (by decide))
  show G E x T13 (fr x 52 #[.val (.ref s), .unset] [])
  refine w_new W17 B d_forc_52 (wd hw 99 rfl) (wd hw 100 rfl) (wd hw 101 rfl) (by decide) (by decide) ?_
  intro T19 h20 b21 W22 g23 X24 A25 D26
  have f27 : Fld E.Z h20 b21 "java/lang/AbstractStringBuilder" "value" "[B" .null := D26 (Or.inl (wd hw 114 rfl)) (ty := (.array .byte)) (by decide)
  have f28 : Fld E.Z h20 b21 "java/lang/AbstractStringBuilder" "coder" "B" (.int (0 : Int32)) := D26 (Or.inl (wd hw 116 rfl)) (ty := .byte) (by decide)
  have f29 : Fld E.Z h20 b21 "java/lang/AbstractStringBuilder" "count" "I" (.int (0 : Int32)) := D26 (Or.inl (wd hw 146 rfl)) (ty := .int) (by decide)
  show G E x T19 (fr x 55 #[.val (.ref s), .unset] [(.ref b21)])
  refine w_dup W22 B d_forc_55 rfl ?_
  refine w_special W22 B (y := ⟨"java/lang/StringBuilder", "<init>", "()V"⟩) d_forc_56 rfl (wd hw 102 rfl) (wd hw 103 rfl) (wd hw 101 rfl) (wd hw 104 rfl) (by decide) pd___V167 (argsL := []) rfl rfl rfl (Wt := 1) (Nat.le_of_eq rfl) (sbi_met hw (List.Mem.head _) A25 f27 f28 f29) (by decide) (by decide) (by decide) (by decide) ?_
  intro T30 h31 F32 v33 W34 Q35
  obtain ⟨v1_, k1_, rfl, rfl, KI1, gI1, S1a⟩ := Q35
  show G E x T30 (fr x 59 #[.val (.ref s), .unset] [(.ref b21)])
  refine w_ldcS W34 B (n := 4) (text := "0") (vs := [(.int (48 : Int32))]) (z := 1) d_forc_59 hw.2.2.1 (by rw [hw.2.2.2]; decide) (wd hw 117 rfl) (strAtoms hw) ⟨by decide, by decide⟩ (by decide) (by decide) (by decide) (by decide) (by decide) (by decide) ?_
  intro T36 h37 c38 v39 k40 W41 X42 E43 f44 f45 A46 n47
  show G E x T36 (fr x 61 #[.val (.ref s), .unset] [(.ref c38), (.ref b21)])
  refine w_bipush W41 B d_forc_61 (v := (14 : Int32)) rfl ?_
  refine w_aloadN W41 B d_forc_63 rfl rfl ?_
  refine w_virtual W41 B (y := ⟨"java/lang/String", "length", "()I"⟩) (z := ⟨"java/lang/String", "length", "()I"⟩) d_forc_64 (wd hw 64 rfl) (wd hw 65 rfl) (nf_sel (wd hw 67 rfl)) (wd hw 67 rfl) (wd hw 66 rfl) (wd hw 25 rfl) (wd hw 68 rfl) (by decide) (((S.1.ext X24).keep KI1).ext X42) pd___I154 (argsL := []) rfl rfl rfl (Wt := 3) (Nat.le_of_eq rfl) (slen_met hw ⟨(((S.1.ext X24).keep KI1).ext X42), (((S.2.1.ext X24).keep KI1 (ninS (Own.ne_new S.1.lt g23) nin0)).ext X42), (((S.2.2.1.ext X24).keep KI1 (ninS (Own.ne_new S.1.lt g23) nin0)).ext X42), (((S.2.2.2.ext X24).keep KI1 (ninS (Own.ne_new S.2.2.2.lt g23) nin0)).ext X42)⟩) (by decide) (by decide) (by decide) (by decide) ?_
  intro T48 h49 F50 v51 W52 Q53
  obtain ⟨rfl, rfl, rfl⟩ := Q53
  show G E x T48 (fr x 67 #[.val (.ref s), .unset] [(.int (cust d n).length.toInt32), (.int (14 : Int32)), (.ref c38), (.ref b21)])
  refine w_isub W52 B d_forc_67 ?_
  rw [cust_len, show (14 : Int32) - n.toInt32 = (14 - n).toInt32 from n_sub (i := 14) (by decide) hn]
  show G E x T48 (fr x 68 #[.val (.ref s), .unset] [(.int (14 - n).toInt32), (.ref c38), (.ref b21)])
  refine w_virtual W52 B (y := ⟨"java/lang/String", "repeat", "(I)Ljava/lang/String;"⟩) (z := ⟨"java/lang/String", "repeat", "(I)Ljava/lang/String;"⟩) d_forc_68 (wd hw 120 rfl) (wd hw 121 rfl) (nf_sel (wd hw 123 rfl)) (wd hw 123 rfl) (wd hw 122 rfl) (wd hw 25 rfl) (wd hw 124 rfl) (by decide) E43 pd__I_Ljava_lang_String_853 (argsL := [(.int (14 - n).toInt32)]) rfl rfl rfl (Wt := 1) (Nat.le_of_eq rfl) (rep_met hw (m := 14 - n) ⟨E43, f45, f44, A46⟩ (by omega)) (by decide) (by decide) (by decide) (by decide) ?_
  intro T54 h55 F56 v57 W58 Q59
  obtain ⟨z, zv, kz, rfl, rfl, KZ, SZ⟩ := Q59
  show G E x T54 (fr x 71 #[.val (.ref s), .unset] [(.ref z), (.ref b21)])
  refine w_virtual W58 B (y := ⟨"java/lang/StringBuilder", "append", "(Ljava/lang/String;)Ljava/lang/StringBuilder;"⟩) (z := ⟨"java/lang/StringBuilder", "append", "(Ljava/lang/String;)Ljava/lang/StringBuilder;"⟩) d_forc_71 (wd hw 134 rfl) (wd hw 135 rfl) (nf_sel (wd hw 137 rfl)) (wd hw 137 rfl) (wd hw 136 rfl) (wd hw 101 rfl) (wd hw 138 rfl) (by decide) ((S1a.1.ext X42).keep KZ) pd__Ljava_lang_String__Ljava_lang_StringBuilder_196 (argsL := [(.ref z)]) rfl rfl rfl (Wt := 0) (Nat.le_of_eq rfl) (sap_met hw (cs := []) (List.Mem.tail _ (List.Mem.head _)) (List.Mem.head _) ⟨((S1a.1.ext X42).keep KZ), ((S1a.2.1.ext X42).keep KZ nin0), ((S1a.2.2.1.ext X42).keep KZ nin0), ((S1a.2.2.2.1.ext X42).keep KZ nin0), ((S1a.2.2.2.2.ext X42).keep KZ nin0)⟩ ⟨SZ.1, SZ.2.1, SZ.2.2.1, SZ.2.2.2⟩ (by simp; omega)) (by decide) (by decide) (by decide) (by decide) ?_
  intro T60 h61 F62 v63 W64 Q65
  obtain ⟨rfl, rfl, K1b, S1b⟩ := Q65
  show G E x T60 (fr x 74 #[.val (.ref s), .unset] [(.ref b21)])
  refine w_aloadN W64 B d_forc_74 rfl rfl ?_
  refine w_virtual W64 B (y := ⟨"java/lang/StringBuilder", "append", "(Ljava/lang/String;)Ljava/lang/StringBuilder;"⟩) (z := ⟨"java/lang/StringBuilder", "append", "(Ljava/lang/String;)Ljava/lang/StringBuilder;"⟩) d_forc_75 (wd hw 134 rfl) (wd hw 135 rfl) (nf_sel (wd hw 137 rfl)) (wd hw 137 rfl) (wd hw 136 rfl) (wd hw 101 rfl) (wd hw 138 rfl) (by decide) S1b.1 pd__Ljava_lang_String__Ljava_lang_StringBuilder_196 (argsL := [(.ref s)]) rfl rfl rfl (Wt := 0) (Nat.le_of_eq rfl) (sap_met hw (cs := ([] ++ List.replicate (14 - n) 48)) (List.Mem.tail _ (List.Mem.head _)) (List.Mem.head _) ⟨S1b.1, S1b.2.1, S1b.2.2.1, S1b.2.2.2.1, S1b.2.2.2.2⟩ ⟨(((((S.1.ext X24).keep KI1).ext X42).keep KZ).keep K1b), (((((S.2.1.ext X24).keep KI1 (ninS (Own.ne_new S.1.lt g23) nin0)).ext X42).keep KZ nin0).keep K1b (ninS (Own.ne_new S.1.lt g23) (ninS (Own.ne_ge (S.1.ext X24).lt gI1) nin0))), (((((S.2.2.1.ext X24).keep KI1 (ninS (Own.ne_new S.1.lt g23) nin0)).ext X42).keep KZ nin0).keep K1b (ninS (Own.ne_new S.1.lt g23) (ninS (Own.ne_ge (S.1.ext X24).lt gI1) nin0))), (((((S.2.2.2.ext X24).keep KI1 (ninS (Own.ne_new S.2.2.2.lt g23) nin0)).ext X42).keep KZ nin0).keep K1b (ninS (Own.ne_new S.2.2.2.lt g23) (ninS (Own.ne_ge (S.2.2.2.ext X24).lt gI1) nin0)))⟩ (by simp [cust_len]; omega)) (by decide) (by decide) (by decide) (by decide) ?_
  intro T66 h67 F68 v69 W70 Q71
  obtain ⟨rfl, rfl, K1c, S1c⟩ := Q71
  show G E x T66 (fr x 78 #[.val (.ref s), .unset] [(.ref b21)])
  refine w_virtual W70 B (y := ⟨"java/lang/StringBuilder", "toString", "()Ljava/lang/String;"⟩) (z := ⟨"java/lang/StringBuilder", "toString", "()Ljava/lang/String;"⟩) d_forc_78 (wd hw 172 rfl) (wd hw 173 rfl) (nf_sel (wd hw 175 rfl)) (wd hw 175 rfl) (wd hw 174 rfl) (wd hw 101 rfl) (wd hw 176 rfl) (by decide) S1c.1 pd___Ljava_lang_String_780 (argsL := []) rfl rfl rfl (Wt := 0) (Nat.le_of_eq rfl) (tos_met hw (cs := pads d) (padded hn h0 ▸ S1c) (by rw [pads_len]; decide)) (by decide) (by decide) (by decide) (by decide) ?_
  intro T72 h73 F74 v75 W76 Q77
  obtain ⟨u, uv, ku, rfl, rfl, KT1, gT1, gV1, SU1⟩ := Q77
  show G E x T72 (fr x 81 #[.val (.ref s), .unset] [(.ref u)])
  refine w_astoreN W76 B d_forc_81 rfl (Ls' := #[.val (.ref s), .val (.ref u)]) rfl ?_
  refine w_new W76 B d_forc_82 (wd hw 216 rfl) (wd hw 217 rfl) (wd hw 57 rfl) (by decide) (by decide) ?_
  intro T78 h79 b80 W81 g82 X83 A84 D85
  have f86 : Fld E.Z h79 b80 "com/example/fordring/fordring/account/PaymentReference" "digits" "Ljava/lang/String;" .null := D85 (Or.inr (wd hw 239 rfl)) (ty := (.object "java/lang/String")) (by decide)
  show G E x T78 (fr x 85 #[.val (.ref s), .val (.ref u)] [(.ref b80)])
  refine w_dup W81 B d_forc_85 rfl ?_
  refine w_new W81 B d_forc_86 (wd hw 99 rfl) (wd hw 100 rfl) (wd hw 101 rfl) (by decide) (by decide) ?_
  intro T87 h88 b89 W90 g91 X92 A93 D94
  have f95 : Fld E.Z h88 b89 "java/lang/AbstractStringBuilder" "value" "[B" .null := D94 (Or.inl (wd hw 114 rfl)) (ty := (.array .byte)) (by decide)
  have f96 : Fld E.Z h88 b89 "java/lang/AbstractStringBuilder" "coder" "B" (.int (0 : Int32)) := D94 (Or.inl (wd hw 116 rfl)) (ty := .byte) (by decide)
  have f97 : Fld E.Z h88 b89 "java/lang/AbstractStringBuilder" "count" "I" (.int (0 : Int32)) := D94 (Or.inl (wd hw 146 rfl)) (ty := .int) (by decide)
  show G E x T87 (fr x 89 #[.val (.ref s), .val (.ref u)] [(.ref b89), (.ref b80), (.ref b80)])
  refine w_dup W90 B d_forc_89 rfl ?_
  refine w_special W90 B (y := ⟨"java/lang/StringBuilder", "<init>", "()V"⟩) d_forc_90 rfl (wd hw 102 rfl) (wd hw 103 rfl) (wd hw 101 rfl) (wd hw 104 rfl) (by decide) pd___V167 (argsL := []) rfl rfl rfl (Wt := 3) (Nat.le_of_eq rfl) (sbi_met hw (List.Mem.head _) A93 f95 f96 f97) (by decide) (by decide) (by decide) (by decide) ?_
  intro T98 h99 F100 v101 W102 Q103
  obtain ⟨v2_, k2_, rfl, rfl, KI2, gI2, S2a⟩ := Q103
  show G E x T98 (fr x 93 #[.val (.ref s), .val (.ref u)] [(.ref b89), (.ref b80), (.ref b80)])
  refine w_aloadN W102 B d_forc_93 rfl rfl ?_
  refine w_virtual W102 B (y := ⟨"java/lang/StringBuilder", "append", "(Ljava/lang/String;)Ljava/lang/StringBuilder;"⟩) (z := ⟨"java/lang/StringBuilder", "append", "(Ljava/lang/String;)Ljava/lang/StringBuilder;"⟩) d_forc_94 (wd hw 134 rfl) (wd hw 135 rfl) (nf_sel (wd hw 137 rfl)) (wd hw 137 rfl) (wd hw 136 rfl) (wd hw 101 rfl) (wd hw 138 rfl) (by decide) S2a.1 pd__Ljava_lang_String__Ljava_lang_StringBuilder_196 (argsL := [(.ref u)]) rfl rfl rfl (Wt := 2) (Nat.le_of_eq rfl) (sap_met hw (cs := []) (List.Mem.tail _ (List.Mem.head _)) (List.Mem.head _) ⟨S2a.1, S2a.2.1, S2a.2.2.1, S2a.2.2.2.1, S2a.2.2.2.2⟩ ⟨(((SU1.1.ext X83).ext X92).keep KI2), (((SU1.2.1.ext X83).ext X92).keep KI2 (ninS (Own.ne_new (SU1.1.ext X83).lt g91) nin0)), (((SU1.2.2.1.ext X83).ext X92).keep KI2 (ninS (Own.ne_new (SU1.1.ext X83).lt g91) nin0)), (((SU1.2.2.2.ext X83).ext X92).keep KI2 (ninS (Own.ne_new (SU1.2.2.2.ext X83).lt g91) nin0))⟩ (by simp [pads_len])) (by decide) (by decide) (by decide) (by decide) ?_
  intro T104 h105 F106 v107 W108 Q109
  obtain ⟨rfl, rfl, K2b, S2b⟩ := Q109
  show G E x T104 (fr x 97 #[.val (.ref s), .val (.ref u)] [(.ref b89), (.ref b80), (.ref b80)])
  refine w_aloadN W108 B d_forc_97 rfl rfl ?_
  refine w_static W108 B (y := ⟨"com/example/fordring/fordring/account/PaymentReference", "checkDigit", "(Ljava/lang/String;)C"⟩) d_forc_98 (wd hw 218 rfl) (wd hw 219 rfl) (wd hw 57 rfl) (wd hw 220 rfl) (by decide) pd__Ljava_lang_String__C847 (argsL := [(.ref u)]) rfl rfl rfl (Wt := 3) (Nat.le_of_eq rfl) (ckd_met hw hd ⟨((((SU1.1.ext X83).ext X92).keep KI2).keep K2b), ((((SU1.2.1.ext X83).ext X92).keep KI2 (ninS (Own.ne_new (SU1.1.ext X83).lt g91) nin0)).keep K2b (ninS (Own.ne_new (SU1.1.ext X83).lt g91) (ninS (Own.ne_ge ((SU1.1.ext X83).ext X92).lt gI2) nin0))), ((((SU1.2.2.1.ext X83).ext X92).keep KI2 (ninS (Own.ne_new (SU1.1.ext X83).lt g91) nin0)).keep K2b (ninS (Own.ne_new (SU1.1.ext X83).lt g91) (ninS (Own.ne_ge ((SU1.1.ext X83).ext X92).lt gI2) nin0))), ((((SU1.2.2.2.ext X83).ext X92).keep KI2 (ninS (Own.ne_new (SU1.2.2.2.ext X83).lt g91) nin0)).keep K2b (ninS (Own.ne_new (SU1.2.2.2.ext X83).lt g91) (ninS (Own.ne_ge ((SU1.2.2.2.ext X83).ext X92).lt gI2) nin0)))⟩) (by decide) (by decide) (by decide) (by decide) ?_
  intro T110 h111 F112 v113 W114 Q115
  obtain ⟨rfl, rfl, rfl⟩ := Q115
  show G E x T110 (fr x 101 #[.val (.ref s), .val (.ref u)] [(.int (dc (ckn (sm d 14)))), (.ref b89), (.ref b80), (.ref b80)])
  refine w_virtual W114 B (y := ⟨"java/lang/StringBuilder", "append", "(C)Ljava/lang/StringBuilder;"⟩) (z := ⟨"java/lang/StringBuilder", "append", "(C)Ljava/lang/StringBuilder;"⟩) d_forc_101 (wd hw 221 rfl) (wd hw 222 rfl) (nf_sel (wd hw 224 rfl)) (wd hw 224 rfl) (wd hw 223 rfl) (wd hw 101 rfl) (wd hw 225 rfl) (by decide) S2b.1 pd__C_Ljava_lang_StringBuilder_561 (argsL := [(.int (dc (ckn (sm d 14))))]) rfl rfl rfl (Wt := 2) (Nat.le_of_eq rfl) (sac_met hw (cs := ([] ++ pads d)) (List.Mem.tail _ (List.Mem.head _)) (List.Mem.head _) ⟨S2b.1, S2b.2.1, S2b.2.2.1, S2b.2.2.2.1, S2b.2.2.2.2⟩ (by have := dc_rng (ckn_le (sm d 14)); omega) (by simp [pads_len])) (by decide) (by decide) (by decide) (by decide) ?_
  intro T116 h117 F118 v119 W120 Q121
  obtain ⟨rfl, rfl, K2c, S2c⟩ := Q121
  show G E x T116 (fr x 104 #[.val (.ref s), .val (.ref u)] [(.ref b89), (.ref b80), (.ref b80)])
  refine w_virtual W120 B (y := ⟨"java/lang/StringBuilder", "toString", "()Ljava/lang/String;"⟩) (z := ⟨"java/lang/StringBuilder", "toString", "()Ljava/lang/String;"⟩) d_forc_104 (wd hw 172 rfl) (wd hw 173 rfl) (nf_sel (wd hw 175 rfl)) (wd hw 175 rfl) (wd hw 174 rfl) (wd hw 101 rfl) (wd hw 176 rfl) (by decide) S2c.1 pd___Ljava_lang_String_780 (argsL := []) rfl rfl rfl (Wt := 2) (Nat.le_of_eq rfl) (tos_met hw (cs := refd d) S2c (by simp [refd, pads_len])) (by decide) (by decide) (by decide) (by decide) ?_
  intro T122 h123 F124 v125 W126 Q127
  obtain ⟨q, qv, kq, rfl, rfl, KT2, gT2, gV2, SU2⟩ := Q127
  show G E x T122 (fr x 107 #[.val (.ref s), .val (.ref u)] [(.ref q), (.ref b80), (.ref b80)])
  refine w_special W126 B (y := ⟨"com/example/fordring/fordring/account/PaymentReference", "<init>", "(Ljava/lang/String;)V"⟩) d_forc_107 rfl (wd hw 234 rfl) (wd hw 235 rfl) (wd hw 57 rfl) (wd hw 236 rfl) (by decide) pd__Ljava_lang_String__V866 (argsL := [(.ref q)]) rfl rfl rfl (Wt := 1) (Nat.le_of_eq rfl) (pri_met hw (List.Mem.tail _ (List.Mem.tail _ (List.Mem.head _))) (((((A84.ext X92).keep KI2).keep K2b).keep K2c).keep KT2) (((((f86.ext X92).keep KI2 (ninS (Own.ne_new A84.lt g91) nin0)).keep K2b (ninS (Own.ne_new A84.lt g91) (ninS (Own.ne_ge (A84.ext X92).lt gI2) nin0))).keep K2c (ninS (Own.ne_new A84.lt g91) (ninS (Own.ne_ge (A84.ext X92).lt gI2) nin0))).keep KT2 nin0)) (by decide) (by decide) (by decide) (by decide) ?_
  intro T128 h129 F130 v131 W132 Q133
  obtain ⟨rfl, rfl, KP, EP, fP⟩ := Q133
  show G E x T128 (fr x 110 #[.val (.ref s), .val (.ref u)] [(.ref b80)])
  have Sq : StrL E h129 q qv kq (refd d) := SU2.keep KP (ninS (Exa.ne SU2.1 (((((A84.ext X92).keep KI2).keep K2b).keep K2c).keep KT2) (by decide)) nin0) (ninS (Ne.symm (Exa.neArv (((((A84.ext X92).keep KI2).keep K2b).keep K2c).keep KT2) SU2.2.2.2 (wd hw 217 rfl))) nin0)
  have KK134 : Keep h h20 [] := (Keep.refl h []).ext X24
  have KK135 : Keep h h31 [] := KK134.trans KI1 (allS (Or.inr (Nat.le_trans (Keep.refl h []).1 (Nat.le_of_eq g23.symm))) all0)
  have KK136 : Keep h h37 [] := KK135.ext X42
  have KK137 : Keep h h55 [] := KK136.trans KZ all0
  have KK138 : Keep h h61 [] := KK137.trans K1b (allS (Or.inr (Nat.le_trans (Keep.refl h []).1 (Nat.le_of_eq g23.symm))) (allS (Or.inr (Nat.le_trans KK134.1 gI1)) all0))
  have KK139 : Keep h h67 [] := KK138.trans K1c (allS (Or.inr (Nat.le_trans (Keep.refl h []).1 (Nat.le_of_eq g23.symm))) (allS (Or.inr (Nat.le_trans KK134.1 gI1)) all0))
  have KK140 : Keep h h73 [] := KK139.trans KT1 all0
  have KK141 : Keep h h79 [] := KK140.ext X83
  have KK142 : Keep h h88 [] := KK141.ext X92
  have KK143 : Keep h h99 [] := KK142.trans KI2 (allS (Or.inr (Nat.le_trans KK141.1 (Nat.le_of_eq g91.symm))) all0)
  have KK144 : Keep h h105 [] := KK143.trans K2b (allS (Or.inr (Nat.le_trans KK141.1 (Nat.le_of_eq g91.symm))) (allS (Or.inr (Nat.le_trans KK142.1 gI2)) all0))
  have KK145 : Keep h h117 [] := KK144.trans K2c (allS (Or.inr (Nat.le_trans KK141.1 (Nat.le_of_eq g91.symm))) (allS (Or.inr (Nat.le_trans KK142.1 gI2)) all0))
  have KK146 : Keep h h123 [] := KK145.trans KT2 all0
  have KK147 : Keep h h129 [] := KK146.trans KP (allS (Or.inr (Nat.le_trans KK140.1 (Nat.le_of_eq g82.symm))) all0)
  exact w_areturn W132 B d_forc_110 rfl rfl hQ (by decide) (by decide) (fun _ q => (List.Mem.tail _ (List.Mem.tail _ (List.Mem.tail _ (List.Mem.tail _ (List.Mem.tail _ q)))))) ⟨b80, q, qv, kq, rfl, rfl, KK147, EP, fP, Sq⟩
set_option maxRecDepth 65536 in
set_option maxHeartbeats 4000000 in
theorem L647 {E : Gl} (hw : Tb E) {x : Cx} {T : State} {h : Heap} (hQ : x.Q = fun r _ _ => r = some (.int 1)) (B : Is x "com/example/fordring/fordring/account/PaymentReferenceForCustomerPinLaw" code 16 ({ frames := 10, cells := 56, slots := 2496, locals := 224 } : Room) (some .boolean) "law") {p0 m v : Int64} {p1 : Int32} {n : Nat} (h1 : 1 ≤ n) (hn : n ≤ 14) {d : Nat → Nat} (hd : ∀ k, d k ≤ 9) (h0 : ∀ k, n ≤ k → d k = 0) {pa ra : Addr} {kr : ClassId} (Ar : Arv E.Z h ra kr .int (14 : Int32) [(.int (d 0).toInt32), (.int (d 1).toInt32), (.int (d 2).toInt32), (.int (d 3).toInt32), (.int (d 4).toInt32), (.int (d 5).toInt32), (.int (d 6).toInt32), (.int (d 7).toInt32), (.int (d 8).toInt32), (.int (d 9).toInt32), (.int (d 10).toInt32), (.int (d 11).toInt32), (.int (d 12).toInt32), (.int (d 13).toInt32)] (.int (0 : Int32))) {ca : Addr} {kc : ClassId} (Ac : Arv E.Z h ca kc .char n.toInt32 (ints (cust d n)) (.int 0)) (W : Wk E x T h [] 3 42) : G E x T (fr x 647 #[.val (.long p0), .second, .val (.int p1), .val (.ref pa), .val (.int n.toInt32), .val (.long m), .second, .val (.long v), .second, .val (.ref ra), .val (.ref ca), .unset, .unset, .unset, .unset, .unset] []) := by
  refine w_new W B d_law_647 (wd hw 23 rfl) (wd hw 24 rfl) (wd hw 25 rfl) (by decide) (by decide) ?_
  intro T1 h2 b3 W4 g5 X6 A7 D8
  have f9 : Fld E.Z h2 b3 "java/lang/String" "coder" "B" (.int (0 : Int32)) := D8 (Or.inr (wd hw 49 rfl)) (ty := .byte) (by decide)
  have f10 : Fld E.Z h2 b3 "java/lang/String" "value" "[B" .null := D8 (Or.inr (wd hw 51 rfl)) (ty := (.array .byte)) (by decide)
  show G E x T1 (fr x 650 #[.val (.long p0), .second, .val (.int p1), .val (.ref pa), .val (.int n.toInt32), .val (.long m), .second, .val (.long v), .second, .val (.ref ra), .val (.ref ca), .unset, .unset, .unset, .unset, .unset] [(.ref b3)])
  refine w_dup W4 B d_law_650 rfl ?_
  refine w_aload W4 B d_law_651 rfl rfl ?_
  refine w_special W4 B (y := ⟨"java/lang/String", "<init>", "([C)V"⟩) d_law_653 rfl (wd hw 26 rfl) (wd hw 27 rfl) (wd hw 25 rfl) (wd hw 28 rfl) (by decide) pd___C_V325 (argsL := [(.ref ca)]) rfl rfl rfl (Wt := 1) (Nat.le_of_eq rfl) (ini1_met hw (cs := cust d n) (n := n) (cust_len d n) h1 (by omega) (dgs_ch (cust_rng hd n)) (dgs_lat (cust_rng hd n)) (List.Mem.head _) A7 f10 f9 (Ac.ext X6)) (by decide) (by decide) (by decide) (by decide) ?_
  intro T11 h12 F13 v14 W15 Q16
  obtain ⟨rfl, rfl, Kcu, cuv, Vcu, hvcu⟩ := Q16
  obtain ⟨kcu, Scu⟩ := Vcu.latin (dgs_lat (cust_rng hd n))
  show G E x T11 (fr x 656 #[.val (.long p0), .second, .val (.int p1), .val (.ref pa), .val (.int n.toInt32), .val (.long m), .second, .val (.long v), .second, .val (.ref ra), .val (.ref ca), .unset, .unset, .unset, .unset, .unset] [(.ref b3)])
  refine w_astore W15 B d_law_656 rfl (Ls' := #[.val (.long p0), .second, .val (.int p1), .val (.ref pa), .val (.int n.toInt32), .val (.long m), .second, .val (.long v), .second, .val (.ref ra), .val (.ref ca), .val (.ref b3), .unset, .unset, .unset, .unset]) rfl ?_
  refine w_aload W15 B d_law_658 rfl rfl ?_
  refine w_iconst W15 B d_law_660 (v := (0 : Int32)) rfl ?_
  refine w_iaload W15 B d_law_661 ((Ar.ext X6).keep Kcu (ninS (Own.ne_new Ar.lt g5) nin0)) ⟨by decide, by decide⟩ (v := (.int (d 0).toInt32)) rfl ?_
  refine w_static W15 B (y := ⟨"com/example/fordring/fordring/account/PaymentReferenceForCustomerPinLaw", "dbl", "(I)I"⟩) d_law_662 (wd hw 52 rfl) (wd hw 53 rfl) (wd hw 20 rfl) (wd hw 54 rfl) (by decide) pd__I_I227 (argsL := [(.int (d 0).toInt32)]) rfl rfl rfl (Wt := 0) (Nat.le_of_eq rfl) (dbl_met hw (hd 0)) (by decide) (by decide) (by decide) (by decide) ?_
  intro T17 h18 F19 v20 W21 Q22
  obtain ⟨rfl, rfl, rfl⟩ := Q22
  show G E x T17 (fr x 665 #[.val (.long p0), .second, .val (.int p1), .val (.ref pa), .val (.int n.toInt32), .val (.long m), .second, .val (.long v), .second, .val (.ref ra), .val (.ref ca), .val (.ref b3), .unset, .unset, .unset, .unset] [(.int (dbn (d 0)).toInt32)])
  refine w_aload W21 B d_law_665 rfl rfl ?_
  refine w_iconst W21 B d_law_667 (v := (1 : Int32)) rfl ?_
  refine w_iaload W21 B d_law_668 ((Ar.ext X6).keep Kcu (ninS (Own.ne_new Ar.lt g5) nin0)) ⟨by decide, by decide⟩ (v := (.int (d 1).toInt32)) rfl ?_
  refine w_iadd W21 B d_law_669 ?_
  rw [n_add]
  show G E x T17 (fr x 670 #[.val (.long p0), .second, .val (.int p1), .val (.ref pa), .val (.int n.toInt32), .val (.long m), .second, .val (.long v), .second, .val (.ref ra), .val (.ref ca), .val (.ref b3), .unset, .unset, .unset, .unset] [(.int (dbn (d 0) + d 1).toInt32)])
  refine w_aload W21 B d_law_670 rfl rfl ?_
  refine w_iconst W21 B d_law_672 (v := (2 : Int32)) rfl ?_
  refine w_iaload W21 B d_law_673 ((Ar.ext X6).keep Kcu (ninS (Own.ne_new Ar.lt g5) nin0)) ⟨by decide, by decide⟩ (v := (.int (d 2).toInt32)) rfl ?_
  refine w_static W21 B (y := ⟨"com/example/fordring/fordring/account/PaymentReferenceForCustomerPinLaw", "dbl", "(I)I"⟩) d_law_674 (wd hw 52 rfl) (wd hw 53 rfl) (wd hw 20 rfl) (wd hw 54 rfl) (by decide) pd__I_I227 (argsL := [(.int (d 2).toInt32)]) rfl rfl rfl (Wt := 1) (Nat.le_of_eq rfl) (dbl_met hw (hd 2)) (by decide) (by decide) (by decide) (by decide) ?_
  intro T23 h24 F25 v26 W27 Q28
  obtain ⟨rfl, rfl, rfl⟩ := Q28
  show G E x T23 (fr x 677 #[.val (.long p0), .second, .val (.int p1), .val (.ref pa), .val (.int n.toInt32), .val (.long m), .second, .val (.long v), .second, .val (.ref ra), .val (.ref ca), .val (.ref b3), .unset, .unset, .unset, .unset] [(.int (dbn (d 2)).toInt32), (.int (dbn (d 0) + d 1).toInt32)])
  refine w_iadd W27 B d_law_677 ?_
  rw [n_add]
  show G E x T23 (fr x 678 #[.val (.long p0), .second, .val (.int p1), .val (.ref pa), .val (.int n.toInt32), .val (.long m), .second, .val (.long v), .second, .val (.ref ra), .val (.ref ca), .val (.ref b3), .unset, .unset, .unset, .unset] [(.int ((dbn (d 0) + d 1) + dbn (d 2)).toInt32)])
  refine w_aload W27 B d_law_678 rfl rfl ?_
  refine w_iconst W27 B d_law_680 (v := (3 : Int32)) rfl ?_
  refine w_iaload W27 B d_law_681 ((Ar.ext X6).keep Kcu (ninS (Own.ne_new Ar.lt g5) nin0)) ⟨by decide, by decide⟩ (v := (.int (d 3).toInt32)) rfl ?_
  refine w_iadd W27 B d_law_682 ?_
  rw [n_add]
  show G E x T23 (fr x 683 #[.val (.long p0), .second, .val (.int p1), .val (.ref pa), .val (.int n.toInt32), .val (.long m), .second, .val (.long v), .second, .val (.ref ra), .val (.ref ca), .val (.ref b3), .unset, .unset, .unset, .unset] [(.int (((dbn (d 0) + d 1) + dbn (d 2)) + d 3).toInt32)])
  refine w_aload W27 B d_law_683 rfl rfl ?_
  refine w_iconst W27 B d_law_685 (v := (4 : Int32)) rfl ?_
  refine w_iaload W27 B d_law_686 ((Ar.ext X6).keep Kcu (ninS (Own.ne_new Ar.lt g5) nin0)) ⟨by decide, by decide⟩ (v := (.int (d 4).toInt32)) rfl ?_
  refine w_static W27 B (y := ⟨"com/example/fordring/fordring/account/PaymentReferenceForCustomerPinLaw", "dbl", "(I)I"⟩) d_law_687 (wd hw 52 rfl) (wd hw 53 rfl) (wd hw 20 rfl) (wd hw 54 rfl) (by decide) pd__I_I227 (argsL := [(.int (d 4).toInt32)]) rfl rfl rfl (Wt := 1) (Nat.le_of_eq rfl) (dbl_met hw (hd 4)) (by decide) (by decide) (by decide) (by decide) ?_
  intro T29 h30 F31 v32 W33 Q34
  obtain ⟨rfl, rfl, rfl⟩ := Q34
  show G E x T29 (fr x 690 #[.val (.long p0), .second, .val (.int p1), .val (.ref pa), .val (.int n.toInt32), .val (.long m), .second, .val (.long v), .second, .val (.ref ra), .val (.ref ca), .val (.ref b3), .unset, .unset, .unset, .unset] [(.int (dbn (d 4)).toInt32), (.int (((dbn (d 0) + d 1) + dbn (d 2)) + d 3).toInt32)])
  refine w_iadd W33 B d_law_690 ?_
  rw [n_add]
  show G E x T29 (fr x 691 #[.val (.long p0), .second, .val (.int p1), .val (.ref pa), .val (.int n.toInt32), .val (.long m), .second, .val (.long v), .second, .val (.ref ra), .val (.ref ca), .val (.ref b3), .unset, .unset, .unset, .unset] [(.int ((((dbn (d 0) + d 1) + dbn (d 2)) + d 3) + dbn (d 4)).toInt32)])
  refine w_aload W33 B d_law_691 rfl rfl ?_
  refine w_iconst W33 B d_law_693 (v := (5 : Int32)) rfl ?_
  refine w_iaload W33 B d_law_694 ((Ar.ext X6).keep Kcu (ninS (Own.ne_new Ar.lt g5) nin0)) ⟨by decide, by decide⟩ (v := (.int (d 5).toInt32)) rfl ?_
  refine w_iadd W33 B d_law_695 ?_
  rw [n_add]
  show G E x T29 (fr x 696 #[.val (.long p0), .second, .val (.int p1), .val (.ref pa), .val (.int n.toInt32), .val (.long m), .second, .val (.long v), .second, .val (.ref ra), .val (.ref ca), .val (.ref b3), .unset, .unset, .unset, .unset] [(.int (((((dbn (d 0) + d 1) + dbn (d 2)) + d 3) + dbn (d 4)) + d 5).toInt32)])
  refine w_aload W33 B d_law_696 rfl rfl ?_
  refine w_bipush W33 B d_law_698 (v := (6 : Int32)) rfl ?_
  refine w_iaload W33 B d_law_700 ((Ar.ext X6).keep Kcu (ninS (Own.ne_new Ar.lt g5) nin0)) ⟨by decide, by decide⟩ (v := (.int (d 6).toInt32)) rfl ?_
  refine w_static W33 B (y := ⟨"com/example/fordring/fordring/account/PaymentReferenceForCustomerPinLaw", "dbl", "(I)I"⟩) d_law_701 (wd hw 52 rfl) (wd hw 53 rfl) (wd hw 20 rfl) (wd hw 54 rfl) (by decide) pd__I_I227 (argsL := [(.int (d 6).toInt32)]) rfl rfl rfl (Wt := 1) (Nat.le_of_eq rfl) (dbl_met hw (hd 6)) (by decide) (by decide) (by decide) (by decide) ?_
  intro T35 h36 F37 v38 W39 Q40
  obtain ⟨rfl, rfl, rfl⟩ := Q40
  show G E x T35 (fr x 704 #[.val (.long p0), .second, .val (.int p1), .val (.ref pa), .val (.int n.toInt32), .val (.long m), .second, .val (.long v), .second, .val (.ref ra), .val (.ref ca), .val (.ref b3), .unset, .unset, .unset, .unset] [(.int (dbn (d 6)).toInt32), (.int (((((dbn (d 0) + d 1) + dbn (d 2)) + d 3) + dbn (d 4)) + d 5).toInt32)])
  refine w_iadd W39 B d_law_704 ?_
  rw [n_add]
  show G E x T35 (fr x 705 #[.val (.long p0), .second, .val (.int p1), .val (.ref pa), .val (.int n.toInt32), .val (.long m), .second, .val (.long v), .second, .val (.ref ra), .val (.ref ca), .val (.ref b3), .unset, .unset, .unset, .unset] [(.int ((((((dbn (d 0) + d 1) + dbn (d 2)) + d 3) + dbn (d 4)) + d 5) + dbn (d 6)).toInt32)])
  refine w_aload W39 B d_law_705 rfl rfl ?_
  refine w_bipush W39 B d_law_707 (v := (7 : Int32)) rfl ?_
  refine w_iaload W39 B d_law_709 ((Ar.ext X6).keep Kcu (ninS (Own.ne_new Ar.lt g5) nin0)) ⟨by decide, by decide⟩ (v := (.int (d 7).toInt32)) rfl ?_
  refine w_iadd W39 B d_law_710 ?_
  rw [n_add]
  show G E x T35 (fr x 711 #[.val (.long p0), .second, .val (.int p1), .val (.ref pa), .val (.int n.toInt32), .val (.long m), .second, .val (.long v), .second, .val (.ref ra), .val (.ref ca), .val (.ref b3), .unset, .unset, .unset, .unset] [(.int (((((((dbn (d 0) + d 1) + dbn (d 2)) + d 3) + dbn (d 4)) + d 5) + dbn (d 6)) + d 7).toInt32)])
  refine w_aload W39 B d_law_711 rfl rfl ?_
  refine w_bipush W39 B d_law_713 (v := (8 : Int32)) rfl ?_
  refine w_iaload W39 B d_law_715 ((Ar.ext X6).keep Kcu (ninS (Own.ne_new Ar.lt g5) nin0)) ⟨by decide, by decide⟩ (v := (.int (d 8).toInt32)) rfl ?_
  refine w_static W39 B (y := ⟨"com/example/fordring/fordring/account/PaymentReferenceForCustomerPinLaw", "dbl", "(I)I"⟩) d_law_716 (wd hw 52 rfl) (wd hw 53 rfl) (wd hw 20 rfl) (wd hw 54 rfl) (by decide) pd__I_I227 (argsL := [(.int (d 8).toInt32)]) rfl rfl rfl (Wt := 1) (Nat.le_of_eq rfl) (dbl_met hw (hd 8)) (by decide) (by decide) (by decide) (by decide) ?_
  intro T41 h42 F43 v44 W45 Q46
  obtain ⟨rfl, rfl, rfl⟩ := Q46
  show G E x T41 (fr x 719 #[.val (.long p0), .second, .val (.int p1), .val (.ref pa), .val (.int n.toInt32), .val (.long m), .second, .val (.long v), .second, .val (.ref ra), .val (.ref ca), .val (.ref b3), .unset, .unset, .unset, .unset] [(.int (dbn (d 8)).toInt32), (.int (((((((dbn (d 0) + d 1) + dbn (d 2)) + d 3) + dbn (d 4)) + d 5) + dbn (d 6)) + d 7).toInt32)])
  refine w_iadd W45 B d_law_719 ?_
  rw [n_add]
  show G E x T41 (fr x 720 #[.val (.long p0), .second, .val (.int p1), .val (.ref pa), .val (.int n.toInt32), .val (.long m), .second, .val (.long v), .second, .val (.ref ra), .val (.ref ca), .val (.ref b3), .unset, .unset, .unset, .unset] [(.int ((((((((dbn (d 0) + d 1) + dbn (d 2)) + d 3) + dbn (d 4)) + d 5) + dbn (d 6)) + d 7) + dbn (d 8)).toInt32)])
  refine w_aload W45 B d_law_720 rfl rfl ?_
  refine w_bipush W45 B d_law_722 (v := (9 : Int32)) rfl ?_
  refine w_iaload W45 B d_law_724 ((Ar.ext X6).keep Kcu (ninS (Own.ne_new Ar.lt g5) nin0)) ⟨by decide, by decide⟩ (v := (.int (d 9).toInt32)) rfl ?_
  refine w_iadd W45 B d_law_725 ?_
  rw [n_add]
  show G E x T41 (fr x 726 #[.val (.long p0), .second, .val (.int p1), .val (.ref pa), .val (.int n.toInt32), .val (.long m), .second, .val (.long v), .second, .val (.ref ra), .val (.ref ca), .val (.ref b3), .unset, .unset, .unset, .unset] [(.int (((((((((dbn (d 0) + d 1) + dbn (d 2)) + d 3) + dbn (d 4)) + d 5) + dbn (d 6)) + d 7) + dbn (d 8)) + d 9).toInt32)])
  refine w_aload W45 B d_law_726 rfl rfl ?_
  refine w_bipush W45 B d_law_728 (v := (10 : Int32)) rfl ?_
  refine w_iaload W45 B d_law_730 ((Ar.ext X6).keep Kcu (ninS (Own.ne_new Ar.lt g5) nin0)) ⟨by decide, by decide⟩ (v := (.int (d 10).toInt32)) rfl ?_
  refine w_static W45 B (y := ⟨"com/example/fordring/fordring/account/PaymentReferenceForCustomerPinLaw", "dbl", "(I)I"⟩) d_law_731 (wd hw 52 rfl) (wd hw 53 rfl) (wd hw 20 rfl) (wd hw 54 rfl) (by decide) pd__I_I227 (argsL := [(.int (d 10).toInt32)]) rfl rfl rfl (Wt := 1) (Nat.le_of_eq rfl) (dbl_met hw (hd 10)) (by decide) (by decide) (by decide) (by decide) ?_
  intro T47 h48 F49 v50 W51 Q52
  obtain ⟨rfl, rfl, rfl⟩ := Q52
  show G E x T47 (fr x 734 #[.val (.long p0), .second, .val (.int p1), .val (.ref pa), .val (.int n.toInt32), .val (.long m), .second, .val (.long v), .second, .val (.ref ra), .val (.ref ca), .val (.ref b3), .unset, .unset, .unset, .unset] [(.int (dbn (d 10)).toInt32), (.int (((((((((dbn (d 0) + d 1) + dbn (d 2)) + d 3) + dbn (d 4)) + d 5) + dbn (d 6)) + d 7) + dbn (d 8)) + d 9).toInt32)])
  refine w_iadd W51 B d_law_734 ?_
  rw [n_add]
  show G E x T47 (fr x 735 #[.val (.long p0), .second, .val (.int p1), .val (.ref pa), .val (.int n.toInt32), .val (.long m), .second, .val (.long v), .second, .val (.ref ra), .val (.ref ca), .val (.ref b3), .unset, .unset, .unset, .unset] [(.int ((((((((((dbn (d 0) + d 1) + dbn (d 2)) + d 3) + dbn (d 4)) + d 5) + dbn (d 6)) + d 7) + dbn (d 8)) + d 9) + dbn (d 10)).toInt32)])
  refine w_aload W51 B d_law_735 rfl rfl ?_
  refine w_bipush W51 B d_law_737 (v := (11 : Int32)) rfl ?_
  refine w_iaload W51 B d_law_739 ((Ar.ext X6).keep Kcu (ninS (Own.ne_new Ar.lt g5) nin0)) ⟨by decide, by decide⟩ (v := (.int (d 11).toInt32)) rfl ?_
  refine w_iadd W51 B d_law_740 ?_
  rw [n_add]
  show G E x T47 (fr x 741 #[.val (.long p0), .second, .val (.int p1), .val (.ref pa), .val (.int n.toInt32), .val (.long m), .second, .val (.long v), .second, .val (.ref ra), .val (.ref ca), .val (.ref b3), .unset, .unset, .unset, .unset] [(.int (((((((((((dbn (d 0) + d 1) + dbn (d 2)) + d 3) + dbn (d 4)) + d 5) + dbn (d 6)) + d 7) + dbn (d 8)) + d 9) + dbn (d 10)) + d 11).toInt32)])
  refine w_aload W51 B d_law_741 rfl rfl ?_
  refine w_bipush W51 B d_law_743 (v := (12 : Int32)) rfl ?_
  refine w_iaload W51 B d_law_745 ((Ar.ext X6).keep Kcu (ninS (Own.ne_new Ar.lt g5) nin0)) ⟨by decide, by decide⟩ (v := (.int (d 12).toInt32)) rfl ?_
  refine w_static W51 B (y := ⟨"com/example/fordring/fordring/account/PaymentReferenceForCustomerPinLaw", "dbl", "(I)I"⟩) d_law_746 (wd hw 52 rfl) (wd hw 53 rfl) (wd hw 20 rfl) (wd hw 54 rfl) (by decide) pd__I_I227 (argsL := [(.int (d 12).toInt32)]) rfl rfl rfl (Wt := 1) (Nat.le_of_eq rfl) (dbl_met hw (hd 12)) (by decide) (by decide) (by decide) (by decide) ?_
  intro T53 h54 F55 v56 W57 Q58
  obtain ⟨rfl, rfl, rfl⟩ := Q58
  show G E x T53 (fr x 749 #[.val (.long p0), .second, .val (.int p1), .val (.ref pa), .val (.int n.toInt32), .val (.long m), .second, .val (.long v), .second, .val (.ref ra), .val (.ref ca), .val (.ref b3), .unset, .unset, .unset, .unset] [(.int (dbn (d 12)).toInt32), (.int (((((((((((dbn (d 0) + d 1) + dbn (d 2)) + d 3) + dbn (d 4)) + d 5) + dbn (d 6)) + d 7) + dbn (d 8)) + d 9) + dbn (d 10)) + d 11).toInt32)])
  refine w_iadd W57 B d_law_749 ?_
  rw [n_add]
  show G E x T53 (fr x 750 #[.val (.long p0), .second, .val (.int p1), .val (.ref pa), .val (.int n.toInt32), .val (.long m), .second, .val (.long v), .second, .val (.ref ra), .val (.ref ca), .val (.ref b3), .unset, .unset, .unset, .unset] [(.int ((((((((((((dbn (d 0) + d 1) + dbn (d 2)) + d 3) + dbn (d 4)) + d 5) + dbn (d 6)) + d 7) + dbn (d 8)) + d 9) + dbn (d 10)) + d 11) + dbn (d 12)).toInt32)])
  refine w_aload W57 B d_law_750 rfl rfl ?_
  refine w_bipush W57 B d_law_752 (v := (13 : Int32)) rfl ?_
  refine w_iaload W57 B d_law_754 ((Ar.ext X6).keep Kcu (ninS (Own.ne_new Ar.lt g5) nin0)) ⟨by decide, by decide⟩ (v := (.int (d 13).toInt32)) rfl ?_
  refine w_iadd W57 B d_law_755 ?_
  rw [n_add, show (((((((((((((dbn (d 0) + d 1) + dbn (d 2)) + d 3) + dbn (d 4)) + d 5) + dbn (d 6)) + d 7) + dbn (d 8)) + d 9) + dbn (d 10)) + d 11) + dbn (d 12)) + d 13) = sm d 14 from by simp [sm]]
  show G E x T53 (fr x 756 #[.val (.long p0), .second, .val (.int p1), .val (.ref pa), .val (.int n.toInt32), .val (.long m), .second, .val (.long v), .second, .val (.ref ra), .val (.ref ca), .val (.ref b3), .unset, .unset, .unset, .unset] [(.int (sm d 14).toInt32)])
  refine w_istore W57 B d_law_756 (Ls' := #[.val (.long p0), .second, .val (.int p1), .val (.ref pa), .val (.int n.toInt32), .val (.long m), .second, .val (.long v), .second, .val (.ref ra), .val (.ref ca), .val (.ref b3), .val (.int (sm d 14).toInt32), .unset, .unset, .unset]) rfl ?_
  refine w_bipush W57 B d_law_758 (v := (10 : Int32)) rfl ?_
  refine w_iload W57 B d_law_760 rfl ?_
  refine w_bipush W57 B d_law_762 (v := (10 : Int32)) rfl ?_
  refine w_irem W57 B d_law_764 (by decide) ?_
  refine w_isub W57 B d_law_765 ?_
  refine w_bipush W57 B d_law_766 (v := (10 : Int32)) rfl ?_
  refine w_irem W57 B d_law_768 (by decide) ?_
  rw [ck_eq (by have := sm_le hd 14; omega)]
  show G E x T53 (fr x 769 #[.val (.long p0), .second, .val (.int p1), .val (.ref pa), .val (.int n.toInt32), .val (.long m), .second, .val (.long v), .second, .val (.ref ra), .val (.ref ca), .val (.ref b3), .val (.int (sm d 14).toInt32), .unset, .unset, .unset] [(.int (ckn (sm d 14)).toInt32)])
  refine w_istore W57 B d_law_769 (Ls' := #[.val (.long p0), .second, .val (.int p1), .val (.ref pa), .val (.int n.toInt32), .val (.long m), .second, .val (.long v), .second, .val (.ref ra), .val (.ref ca), .val (.ref b3), .val (.int (sm d 14).toInt32), .val (.int (ckn (sm d 14)).toInt32), .unset, .unset]) rfl ?_
  refine w_bipush W57 B d_law_771 (v := (15 : Int32)) rfl ?_
  refine w_newarray W57 B d_law_773 rfl (wd hw 22 rfl) (by decide) (cap := 15) (by decide) (by decide) (by decide) (by decide) ?_
  intro T59 h60 b61 k62 W63 g64 X65 A66
  have A67 : Arv E.Z h60 b61 k62 .char (15 : Int32) [(.int (0 : Int32)), (.int (0 : Int32)), (.int (0 : Int32)), (.int (0 : Int32)), (.int (0 : Int32)), (.int (0 : Int32)), (.int (0 : Int32)), (.int (0 : Int32)), (.int (0 : Int32)), (.int (0 : Int32)), (.int (0 : Int32)), (.int (0 : Int32)), (.int (0 : Int32)), (.int (0 : Int32)), (.int (0 : Int32))] (.int (0 : Int32)) := A66.pad (pad_rep [] (.int (0 : Int32)) 15)
  show G E x T59 (fr x 775 #[.val (.long p0), .second, .val (.int p1), .val (.ref pa), .val (.int n.toInt32), .val (.long m), .second, .val (.long v), .second, .val (.ref ra), .val (.ref ca), .val (.ref b3), .val (.int (sm d 14).toInt32), .val (.int (ckn (sm d 14)).toInt32), .unset, .unset] [(.ref b61)])
  refine w_astore W63 B d_law_775 rfl (Ls' := #[.val (.long p0), .second, .val (.int p1), .val (.ref pa), .val (.int n.toInt32), .val (.long m), .second, .val (.long v), .second, .val (.ref ra), .val (.ref ca), .val (.ref b3), .val (.int (sm d 14).toInt32), .val (.int (ckn (sm d 14)).toInt32), .val (.ref b61), .unset]) rfl ?_
  refine w_aload W63 B d_law_777 rfl rfl ?_
  refine w_iconst W63 B d_law_779 (v := (0 : Int32)) rfl ?_
  refine w_bipush W63 B d_law_780 (v := (48 : Int32)) rfl ?_
  refine w_aload W63 B d_law_782 rfl rfl ?_
  refine w_bipush W63 B d_law_784 (v := (13 : Int32)) rfl ?_
  refine w_iaload W63 B d_law_786 (((Ar.ext X6).keep Kcu (ninS (Own.ne_new Ar.lt g5) nin0)).ext X65) ⟨by decide, by decide⟩ (v := (.int (d 13).toInt32)) rfl ?_
  refine w_iadd W63 B d_law_787 ?_
  refine w_i2c W63 B d_law_788 ?_
  rw [dc_i2c (hd 13)]
  show G E x T59 (fr x 789 #[.val (.long p0), .second, .val (.int p1), .val (.ref pa), .val (.int n.toInt32), .val (.long m), .second, .val (.long v), .second, .val (.ref ra), .val (.ref ca), .val (.ref b3), .val (.int (sm d 14).toInt32), .val (.int (ckn (sm d 14)).toInt32), .val (.ref b61), .unset] [(.int (dc (d 13))), (.int (0 : Int32)), (.ref b61)])
  refine w_castore W63 B d_law_789 (List.Mem.head _) A67 (by decide) (i := 0) rfl (by first | decide | simp) (u := (dc (d 13))) (nar_dc (hd _)) ?_
  intro T68 h69 W70 K71 A72
  have A73 : Arv E.Z h69 b61 k62 .char (15 : Int32) [(.int (dc (d 13))), (.int (0 : Int32)), (.int (0 : Int32)), (.int (0 : Int32)), (.int (0 : Int32)), (.int (0 : Int32)), (.int (0 : Int32)), (.int (0 : Int32)), (.int (0 : Int32)), (.int (0 : Int32)), (.int (0 : Int32)), (.int (0 : Int32)), (.int (0 : Int32)), (.int (0 : Int32)), (.int (0 : Int32))] (.int (0 : Int32)) := A72
  refine w_aload W70 B d_law_790 rfl rfl ?_
  refine w_iconst W70 B d_law_792 (v := (1 : Int32)) rfl ?_
  refine w_bipush W70 B d_law_793 (v := (48 : Int32)) rfl ?_
  refine w_aload W70 B d_law_795 rfl rfl ?_
  refine w_bipush W70 B d_law_797 (v := (12 : Int32)) rfl ?_
  refine w_iaload W70 B d_law_799 ((((Ar.ext X6).keep Kcu (ninS (Own.ne_new Ar.lt g5) nin0)).ext X65).keep K71 (ninS (Own.ne_new ((Ar.ext X6).keep Kcu (ninS (Own.ne_new Ar.lt g5) nin0)).lt g64) nin0)) ⟨by decide, by decide⟩ (v := (.int (d 12).toInt32)) rfl ?_
  refine w_iadd W70 B d_law_800 ?_
  refine w_i2c W70 B d_law_801 ?_
  rw [dc_i2c (hd 12)]
  show G E x T68 (fr x 802 #[.val (.long p0), .second, .val (.int p1), .val (.ref pa), .val (.int n.toInt32), .val (.long m), .second, .val (.long v), .second, .val (.ref ra), .val (.ref ca), .val (.ref b3), .val (.int (sm d 14).toInt32), .val (.int (ckn (sm d 14)).toInt32), .val (.ref b61), .unset] [(.int (dc (d 12))), (.int (1 : Int32)), (.ref b61)])
  refine w_castore W70 B d_law_802 (List.Mem.head _) A73 (by decide) (i := 1) rfl (by first | decide | simp) (u := (dc (d 12))) (nar_dc (hd _)) ?_
  intro T74 h75 W76 K77 A78
  have A79 : Arv E.Z h75 b61 k62 .char (15 : Int32) [(.int (dc (d 13))), (.int (dc (d 12))), (.int (0 : Int32)), (.int (0 : Int32)), (.int (0 : Int32)), (.int (0 : Int32)), (.int (0 : Int32)), (.int (0 : Int32)), (.int (0 : Int32)), (.int (0 : Int32)), (.int (0 : Int32)), (.int (0 : Int32)), (.int (0 : Int32)), (.int (0 : Int32)), (.int (0 : Int32))] (.int (0 : Int32)) := A78
  refine w_aload W76 B d_law_803 rfl rfl ?_
  refine w_iconst W76 B d_law_805 (v := (2 : Int32)) rfl ?_
  refine w_bipush W76 B d_law_806 (v := (48 : Int32)) rfl ?_
  refine w_aload W76 B d_law_808 rfl rfl ?_
  refine w_bipush W76 B d_law_810 (v := (11 : Int32)) rfl ?_
  refine w_iaload W76 B d_law_812 (((((Ar.ext X6).keep Kcu (ninS (Own.ne_new Ar.lt g5) nin0)).ext X65).keep K71 (ninS (Own.ne_new ((Ar.ext X6).keep Kcu (ninS (Own.ne_new Ar.lt g5) nin0)).lt g64) nin0)).keep K77 (ninS (Own.ne_new ((Ar.ext X6).keep Kcu (ninS (Own.ne_new Ar.lt g5) nin0)).lt g64) nin0)) ⟨by decide, by decide⟩ (v := (.int (d 11).toInt32)) rfl ?_
  refine w_iadd W76 B d_law_813 ?_
  refine w_i2c W76 B d_law_814 ?_
  rw [dc_i2c (hd 11)]
  show G E x T74 (fr x 815 #[.val (.long p0), .second, .val (.int p1), .val (.ref pa), .val (.int n.toInt32), .val (.long m), .second, .val (.long v), .second, .val (.ref ra), .val (.ref ca), .val (.ref b3), .val (.int (sm d 14).toInt32), .val (.int (ckn (sm d 14)).toInt32), .val (.ref b61), .unset] [(.int (dc (d 11))), (.int (2 : Int32)), (.ref b61)])
  refine w_castore W76 B d_law_815 (List.Mem.head _) A79 (by decide) (i := 2) rfl (by first | decide | simp) (u := (dc (d 11))) (nar_dc (hd _)) ?_
  intro T80 h81 W82 K83 A84
  have A85 : Arv E.Z h81 b61 k62 .char (15 : Int32) [(.int (dc (d 13))), (.int (dc (d 12))), (.int (dc (d 11))), (.int (0 : Int32)), (.int (0 : Int32)), (.int (0 : Int32)), (.int (0 : Int32)), (.int (0 : Int32)), (.int (0 : Int32)), (.int (0 : Int32)), (.int (0 : Int32)), (.int (0 : Int32)), (.int (0 : Int32)), (.int (0 : Int32)), (.int (0 : Int32))] (.int (0 : Int32)) := A84
  refine w_aload W82 B d_law_816 rfl rfl ?_
  refine w_iconst W82 B d_law_818 (v := (3 : Int32)) rfl ?_
  refine w_bipush W82 B d_law_819 (v := (48 : Int32)) rfl ?_
  refine w_aload W82 B d_law_821 rfl rfl ?_
  refine w_bipush W82 B d_law_823 (v := (10 : Int32)) rfl ?_
  refine w_iaload W82 B d_law_825 ((((((Ar.ext X6).keep Kcu (ninS (Own.ne_new Ar.lt g5) nin0)).ext X65).keep K71 (ninS (Own.ne_new ((Ar.ext X6).keep Kcu (ninS (Own.ne_new Ar.lt g5) nin0)).lt g64) nin0)).keep K77 (ninS (Own.ne_new ((Ar.ext X6).keep Kcu (ninS (Own.ne_new Ar.lt g5) nin0)).lt g64) nin0)).keep K83 (ninS (Own.ne_new ((Ar.ext X6).keep Kcu (ninS (Own.ne_new Ar.lt g5) nin0)).lt g64) nin0)) ⟨by decide, by decide⟩ (v := (.int (d 10).toInt32)) rfl ?_
  refine w_iadd W82 B d_law_826 ?_
  refine w_i2c W82 B d_law_827 ?_
  rw [dc_i2c (hd 10)]
  show G E x T80 (fr x 828 #[.val (.long p0), .second, .val (.int p1), .val (.ref pa), .val (.int n.toInt32), .val (.long m), .second, .val (.long v), .second, .val (.ref ra), .val (.ref ca), .val (.ref b3), .val (.int (sm d 14).toInt32), .val (.int (ckn (sm d 14)).toInt32), .val (.ref b61), .unset] [(.int (dc (d 10))), (.int (3 : Int32)), (.ref b61)])
  refine w_castore W82 B d_law_828 (List.Mem.head _) A85 (by decide) (i := 3) rfl (by first | decide | simp) (u := (dc (d 10))) (nar_dc (hd _)) ?_
  intro T86 h87 W88 K89 A90
  have A91 : Arv E.Z h87 b61 k62 .char (15 : Int32) [(.int (dc (d 13))), (.int (dc (d 12))), (.int (dc (d 11))), (.int (dc (d 10))), (.int (0 : Int32)), (.int (0 : Int32)), (.int (0 : Int32)), (.int (0 : Int32)), (.int (0 : Int32)), (.int (0 : Int32)), (.int (0 : Int32)), (.int (0 : Int32)), (.int (0 : Int32)), (.int (0 : Int32)), (.int (0 : Int32))] (.int (0 : Int32)) := A90
  refine w_aload W88 B d_law_829 rfl rfl ?_
  refine w_iconst W88 B d_law_831 (v := (4 : Int32)) rfl ?_
  refine w_bipush W88 B d_law_832 (v := (48 : Int32)) rfl ?_
  refine w_aload W88 B d_law_834 rfl rfl ?_
  refine w_bipush W88 B d_law_836 (v := (9 : Int32)) rfl ?_
  refine w_iaload W88 B d_law_838 (((((((Ar.ext X6).keep Kcu (ninS (Own.ne_new Ar.lt g5) nin0)).ext X65).keep K71 (ninS (Own.ne_new ((Ar.ext X6).keep Kcu (ninS (Own.ne_new Ar.lt g5) nin0)).lt g64) nin0)).keep K77 (ninS (Own.ne_new ((Ar.ext X6).keep Kcu (ninS (Own.ne_new Ar.lt g5) nin0)).lt g64) nin0)).keep K83 (ninS (Own.ne_new ((Ar.ext X6).keep Kcu (ninS (Own.ne_new Ar.lt g5) nin0)).lt g64) nin0)).keep K89 (ninS (Own.ne_new ((Ar.ext X6).keep Kcu (ninS (Own.ne_new Ar.lt g5) nin0)).lt g64) nin0)) ⟨by decide, by decide⟩ (v := (.int (d 9).toInt32)) rfl ?_
  refine w_iadd W88 B d_law_839 ?_
  refine w_i2c W88 B d_law_840 ?_
  rw [dc_i2c (hd 9)]
  show G E x T86 (fr x 841 #[.val (.long p0), .second, .val (.int p1), .val (.ref pa), .val (.int n.toInt32), .val (.long m), .second, .val (.long v), .second, .val (.ref ra), .val (.ref ca), .val (.ref b3), .val (.int (sm d 14).toInt32), .val (.int (ckn (sm d 14)).toInt32), .val (.ref b61), .unset] [(.int (dc (d 9))), (.int (4 : Int32)), (.ref b61)])
  refine w_castore W88 B d_law_841 (List.Mem.head _) A91 (by decide) (i := 4) rfl (by first | decide | simp) (u := (dc (d 9))) (nar_dc (hd _)) ?_
  intro T92 h93 W94 K95 A96
  have A97 : Arv E.Z h93 b61 k62 .char (15 : Int32) [(.int (dc (d 13))), (.int (dc (d 12))), (.int (dc (d 11))), (.int (dc (d 10))), (.int (dc (d 9))), (.int (0 : Int32)), (.int (0 : Int32)), (.int (0 : Int32)), (.int (0 : Int32)), (.int (0 : Int32)), (.int (0 : Int32)), (.int (0 : Int32)), (.int (0 : Int32)), (.int (0 : Int32)), (.int (0 : Int32))] (.int (0 : Int32)) := A96
  refine w_aload W94 B d_law_842 rfl rfl ?_
  refine w_iconst W94 B d_law_844 (v := (5 : Int32)) rfl ?_
  refine w_bipush W94 B d_law_845 (v := (48 : Int32)) rfl ?_
  refine w_aload W94 B d_law_847 rfl rfl ?_
  refine w_bipush W94 B d_law_849 (v := (8 : Int32)) rfl ?_
  refine w_iaload W94 B d_law_851 ((((((((Ar.ext X6).keep Kcu (ninS (Own.ne_new Ar.lt g5) nin0)).ext X65).keep K71 (ninS (Own.ne_new ((Ar.ext X6).keep Kcu (ninS (Own.ne_new Ar.lt g5) nin0)).lt g64) nin0)).keep K77 (ninS (Own.ne_new ((Ar.ext X6).keep Kcu (ninS (Own.ne_new Ar.lt g5) nin0)).lt g64) nin0)).keep K83 (ninS (Own.ne_new ((Ar.ext X6).keep Kcu (ninS (Own.ne_new Ar.lt g5) nin0)).lt g64) nin0)).keep K89 (ninS (Own.ne_new ((Ar.ext X6).keep Kcu (ninS (Own.ne_new Ar.lt g5) nin0)).lt g64) nin0)).keep K95 (ninS (Own.ne_new ((Ar.ext X6).keep Kcu (ninS (Own.ne_new Ar.lt g5) nin0)).lt g64) nin0)) ⟨by decide, by decide⟩ (v := (.int (d 8).toInt32)) rfl ?_
  refine w_iadd W94 B d_law_852 ?_
  refine w_i2c W94 B d_law_853 ?_
  rw [dc_i2c (hd 8)]
  show G E x T92 (fr x 854 #[.val (.long p0), .second, .val (.int p1), .val (.ref pa), .val (.int n.toInt32), .val (.long m), .second, .val (.long v), .second, .val (.ref ra), .val (.ref ca), .val (.ref b3), .val (.int (sm d 14).toInt32), .val (.int (ckn (sm d 14)).toInt32), .val (.ref b61), .unset] [(.int (dc (d 8))), (.int (5 : Int32)), (.ref b61)])
  refine w_castore W94 B d_law_854 (List.Mem.head _) A97 (by decide) (i := 5) rfl (by first | decide | simp) (u := (dc (d 8))) (nar_dc (hd _)) ?_
  intro T98 h99 W100 K101 A102
  have A103 : Arv E.Z h99 b61 k62 .char (15 : Int32) [(.int (dc (d 13))), (.int (dc (d 12))), (.int (dc (d 11))), (.int (dc (d 10))), (.int (dc (d 9))), (.int (dc (d 8))), (.int (0 : Int32)), (.int (0 : Int32)), (.int (0 : Int32)), (.int (0 : Int32)), (.int (0 : Int32)), (.int (0 : Int32)), (.int (0 : Int32)), (.int (0 : Int32)), (.int (0 : Int32))] (.int (0 : Int32)) := A102
  refine w_aload W100 B d_law_855 rfl rfl ?_
  refine w_bipush W100 B d_law_857 (v := (6 : Int32)) rfl ?_
  refine w_bipush W100 B d_law_859 (v := (48 : Int32)) rfl ?_
  refine w_aload W100 B d_law_861 rfl rfl ?_
  refine w_bipush W100 B d_law_863 (v := (7 : Int32)) rfl ?_
  refine w_iaload W100 B d_law_865 (((((((((Ar.ext X6).keep Kcu (ninS (Own.ne_new Ar.lt g5) nin0)).ext X65).keep K71 (ninS (Own.ne_new ((Ar.ext X6).keep Kcu (ninS (Own.ne_new Ar.lt g5) nin0)).lt g64) nin0)).keep K77 (ninS (Own.ne_new ((Ar.ext X6).keep Kcu (ninS (Own.ne_new Ar.lt g5) nin0)).lt g64) nin0)).keep K83 (ninS (Own.ne_new ((Ar.ext X6).keep Kcu (ninS (Own.ne_new Ar.lt g5) nin0)).lt g64) nin0)).keep K89 (ninS (Own.ne_new ((Ar.ext X6).keep Kcu (ninS (Own.ne_new Ar.lt g5) nin0)).lt g64) nin0)).keep K95 (ninS (Own.ne_new ((Ar.ext X6).keep Kcu (ninS (Own.ne_new Ar.lt g5) nin0)).lt g64) nin0)).keep K101 (ninS (Own.ne_new ((Ar.ext X6).keep Kcu (ninS (Own.ne_new Ar.lt g5) nin0)).lt g64) nin0)) ⟨by decide, by decide⟩ (v := (.int (d 7).toInt32)) rfl ?_
  refine w_iadd W100 B d_law_866 ?_
  refine w_i2c W100 B d_law_867 ?_
  rw [dc_i2c (hd 7)]
  show G E x T98 (fr x 868 #[.val (.long p0), .second, .val (.int p1), .val (.ref pa), .val (.int n.toInt32), .val (.long m), .second, .val (.long v), .second, .val (.ref ra), .val (.ref ca), .val (.ref b3), .val (.int (sm d 14).toInt32), .val (.int (ckn (sm d 14)).toInt32), .val (.ref b61), .unset] [(.int (dc (d 7))), (.int (6 : Int32)), (.ref b61)])
  refine w_castore W100 B d_law_868 (List.Mem.head _) A103 (by decide) (i := 6) rfl (by first | decide | simp) (u := (dc (d 7))) (nar_dc (hd _)) ?_
  intro T104 h105 W106 K107 A108
  have A109 : Arv E.Z h105 b61 k62 .char (15 : Int32) [(.int (dc (d 13))), (.int (dc (d 12))), (.int (dc (d 11))), (.int (dc (d 10))), (.int (dc (d 9))), (.int (dc (d 8))), (.int (dc (d 7))), (.int (0 : Int32)), (.int (0 : Int32)), (.int (0 : Int32)), (.int (0 : Int32)), (.int (0 : Int32)), (.int (0 : Int32)), (.int (0 : Int32)), (.int (0 : Int32))] (.int (0 : Int32)) := A108
  refine w_aload W106 B d_law_869 rfl rfl ?_
  refine w_bipush W106 B d_law_871 (v := (7 : Int32)) rfl ?_
  refine w_bipush W106 B d_law_873 (v := (48 : Int32)) rfl ?_
  refine w_aload W106 B d_law_875 rfl rfl ?_
  refine w_bipush W106 B d_law_877 (v := (6 : Int32)) rfl ?_
  refine w_iaload W106 B d_law_879 ((((((((((Ar.ext X6).keep Kcu (ninS (Own.ne_new Ar.lt g5) nin0)).ext X65).keep K71 (ninS (Own.ne_new ((Ar.ext X6).keep Kcu (ninS (Own.ne_new Ar.lt g5) nin0)).lt g64) nin0)).keep K77 (ninS (Own.ne_new ((Ar.ext X6).keep Kcu (ninS (Own.ne_new Ar.lt g5) nin0)).lt g64) nin0)).keep K83 (ninS (Own.ne_new ((Ar.ext X6).keep Kcu (ninS (Own.ne_new Ar.lt g5) nin0)).lt g64) nin0)).keep K89 (ninS (Own.ne_new ((Ar.ext X6).keep Kcu (ninS (Own.ne_new Ar.lt g5) nin0)).lt g64) nin0)).keep K95 (ninS (Own.ne_new ((Ar.ext X6).keep Kcu (ninS (Own.ne_new Ar.lt g5) nin0)).lt g64) nin0)).keep K101 (ninS (Own.ne_new ((Ar.ext X6).keep Kcu (ninS (Own.ne_new Ar.lt g5) nin0)).lt g64) nin0)).keep K107 (ninS (Own.ne_new ((Ar.ext X6).keep Kcu (ninS (Own.ne_new Ar.lt g5) nin0)).lt g64) nin0)) ⟨by decide, by decide⟩ (v := (.int (d 6).toInt32)) rfl ?_
  refine w_iadd W106 B d_law_880 ?_
  refine w_i2c W106 B d_law_881 ?_
  rw [dc_i2c (hd 6)]
  show G E x T104 (fr x 882 #[.val (.long p0), .second, .val (.int p1), .val (.ref pa), .val (.int n.toInt32), .val (.long m), .second, .val (.long v), .second, .val (.ref ra), .val (.ref ca), .val (.ref b3), .val (.int (sm d 14).toInt32), .val (.int (ckn (sm d 14)).toInt32), .val (.ref b61), .unset] [(.int (dc (d 6))), (.int (7 : Int32)), (.ref b61)])
  refine w_castore W106 B d_law_882 (List.Mem.head _) A109 (by decide) (i := 7) rfl (by first | decide | simp) (u := (dc (d 6))) (nar_dc (hd _)) ?_
  intro T110 h111 W112 K113 A114
  have A115 : Arv E.Z h111 b61 k62 .char (15 : Int32) [(.int (dc (d 13))), (.int (dc (d 12))), (.int (dc (d 11))), (.int (dc (d 10))), (.int (dc (d 9))), (.int (dc (d 8))), (.int (dc (d 7))), (.int (dc (d 6))), (.int (0 : Int32)), (.int (0 : Int32)), (.int (0 : Int32)), (.int (0 : Int32)), (.int (0 : Int32)), (.int (0 : Int32)), (.int (0 : Int32))] (.int (0 : Int32)) := A114
  refine w_aload W112 B d_law_883 rfl rfl ?_
  refine w_bipush W112 B d_law_885 (v := (8 : Int32)) rfl ?_
  refine w_bipush W112 B d_law_887 (v := (48 : Int32)) rfl ?_
  refine w_aload W112 B d_law_889 rfl rfl ?_
  refine w_iconst W112 B d_law_891 (v := (5 : Int32)) rfl ?_
  refine w_iaload W112 B d_law_892 (((((((((((Ar.ext X6).keep Kcu (ninS (Own.ne_new Ar.lt g5) nin0)).ext X65).keep K71 (ninS (Own.ne_new ((Ar.ext X6).keep Kcu (ninS (Own.ne_new Ar.lt g5) nin0)).lt g64) nin0)).keep K77 (ninS (Own.ne_new ((Ar.ext X6).keep Kcu (ninS (Own.ne_new Ar.lt g5) nin0)).lt g64) nin0)).keep K83 (ninS (Own.ne_new ((Ar.ext X6).keep Kcu (ninS (Own.ne_new Ar.lt g5) nin0)).lt g64) nin0)).keep K89 (ninS (Own.ne_new ((Ar.ext X6).keep Kcu (ninS (Own.ne_new Ar.lt g5) nin0)).lt g64) nin0)).keep K95 (ninS (Own.ne_new ((Ar.ext X6).keep Kcu (ninS (Own.ne_new Ar.lt g5) nin0)).lt g64) nin0)).keep K101 (ninS (Own.ne_new ((Ar.ext X6).keep Kcu (ninS (Own.ne_new Ar.lt g5) nin0)).lt g64) nin0)).keep K107 (ninS (Own.ne_new ((Ar.ext X6).keep Kcu (ninS (Own.ne_new Ar.lt g5) nin0)).lt g64) nin0)).keep K113 (ninS (Own.ne_new ((Ar.ext X6).keep Kcu (ninS (Own.ne_new Ar.lt g5) nin0)).lt g64) nin0)) ⟨by decide, by decide⟩ (v := (.int (d 5).toInt32)) rfl ?_
  refine w_iadd W112 B d_law_893 ?_
  refine w_i2c W112 B d_law_894 ?_
  rw [dc_i2c (hd 5)]
  show G E x T110 (fr x 895 #[.val (.long p0), .second, .val (.int p1), .val (.ref pa), .val (.int n.toInt32), .val (.long m), .second, .val (.long v), .second, .val (.ref ra), .val (.ref ca), .val (.ref b3), .val (.int (sm d 14).toInt32), .val (.int (ckn (sm d 14)).toInt32), .val (.ref b61), .unset] [(.int (dc (d 5))), (.int (8 : Int32)), (.ref b61)])
  refine w_castore W112 B d_law_895 (List.Mem.head _) A115 (by decide) (i := 8) rfl (by first | decide | simp) (u := (dc (d 5))) (nar_dc (hd _)) ?_
  intro T116 h117 W118 K119 A120
  have A121 : Arv E.Z h117 b61 k62 .char (15 : Int32) [(.int (dc (d 13))), (.int (dc (d 12))), (.int (dc (d 11))), (.int (dc (d 10))), (.int (dc (d 9))), (.int (dc (d 8))), (.int (dc (d 7))), (.int (dc (d 6))), (.int (dc (d 5))), (.int (0 : Int32)), (.int (0 : Int32)), (.int (0 : Int32)), (.int (0 : Int32)), (.int (0 : Int32)), (.int (0 : Int32))] (.int (0 : Int32)) := A120
  refine w_aload W118 B d_law_896 rfl rfl ?_
  refine w_bipush W118 B d_law_898 (v := (9 : Int32)) rfl ?_
  refine w_bipush W118 B d_law_900 (v := (48 : Int32)) rfl ?_
  refine w_aload W118 B d_law_902 rfl rfl ?_
  refine w_iconst W118 B d_law_904 (v := (4 : Int32)) rfl ?_
  refine w_iaload W118 B d_law_905 ((((((((((((Ar.ext X6).keep Kcu (ninS (Own.ne_new Ar.lt g5) nin0)).ext X65).keep K71 (ninS (Own.ne_new ((Ar.ext X6).keep Kcu (ninS (Own.ne_new Ar.lt g5) nin0)).lt g64) nin0)).keep K77 (ninS (Own.ne_new ((Ar.ext X6).keep Kcu (ninS (Own.ne_new Ar.lt g5) nin0)).lt g64) nin0)).keep K83 (ninS (Own.ne_new ((Ar.ext X6).keep Kcu (ninS (Own.ne_new Ar.lt g5) nin0)).lt g64) nin0)).keep K89 (ninS (Own.ne_new ((Ar.ext X6).keep Kcu (ninS (Own.ne_new Ar.lt g5) nin0)).lt g64) nin0)).keep K95 (ninS (Own.ne_new ((Ar.ext X6).keep Kcu (ninS (Own.ne_new Ar.lt g5) nin0)).lt g64) nin0)).keep K101 (ninS (Own.ne_new ((Ar.ext X6).keep Kcu (ninS (Own.ne_new Ar.lt g5) nin0)).lt g64) nin0)).keep K107 (ninS (Own.ne_new ((Ar.ext X6).keep Kcu (ninS (Own.ne_new Ar.lt g5) nin0)).lt g64) nin0)).keep K113 (ninS (Own.ne_new ((Ar.ext X6).keep Kcu (ninS (Own.ne_new Ar.lt g5) nin0)).lt g64) nin0)).keep K119 (ninS (Own.ne_new ((Ar.ext X6).keep Kcu (ninS (Own.ne_new Ar.lt g5) nin0)).lt g64) nin0)) ⟨by decide, by decide⟩ (v := (.int (d 4).toInt32)) rfl ?_
  refine w_iadd W118 B d_law_906 ?_
  refine w_i2c W118 B d_law_907 ?_
  rw [dc_i2c (hd 4)]
  show G E x T116 (fr x 908 #[.val (.long p0), .second, .val (.int p1), .val (.ref pa), .val (.int n.toInt32), .val (.long m), .second, .val (.long v), .second, .val (.ref ra), .val (.ref ca), .val (.ref b3), .val (.int (sm d 14).toInt32), .val (.int (ckn (sm d 14)).toInt32), .val (.ref b61), .unset] [(.int (dc (d 4))), (.int (9 : Int32)), (.ref b61)])
  refine w_castore W118 B d_law_908 (List.Mem.head _) A121 (by decide) (i := 9) rfl (by first | decide | simp) (u := (dc (d 4))) (nar_dc (hd _)) ?_
  intro T122 h123 W124 K125 A126
  have A127 : Arv E.Z h123 b61 k62 .char (15 : Int32) [(.int (dc (d 13))), (.int (dc (d 12))), (.int (dc (d 11))), (.int (dc (d 10))), (.int (dc (d 9))), (.int (dc (d 8))), (.int (dc (d 7))), (.int (dc (d 6))), (.int (dc (d 5))), (.int (dc (d 4))), (.int (0 : Int32)), (.int (0 : Int32)), (.int (0 : Int32)), (.int (0 : Int32)), (.int (0 : Int32))] (.int (0 : Int32)) := A126
  refine w_aload W124 B d_law_909 rfl rfl ?_
  refine w_bipush W124 B d_law_911 (v := (10 : Int32)) rfl ?_
  refine w_bipush W124 B d_law_913 (v := (48 : Int32)) rfl ?_
  refine w_aload W124 B d_law_915 rfl rfl ?_
  refine w_iconst W124 B d_law_917 (v := (3 : Int32)) rfl ?_
  refine w_iaload W124 B d_law_918 (((((((((((((Ar.ext X6).keep Kcu (ninS (Own.ne_new Ar.lt g5) nin0)).ext X65).keep K71 (ninS (Own.ne_new ((Ar.ext X6).keep Kcu (ninS (Own.ne_new Ar.lt g5) nin0)).lt g64) nin0)).keep K77 (ninS (Own.ne_new ((Ar.ext X6).keep Kcu (ninS (Own.ne_new Ar.lt g5) nin0)).lt g64) nin0)).keep K83 (ninS (Own.ne_new ((Ar.ext X6).keep Kcu (ninS (Own.ne_new Ar.lt g5) nin0)).lt g64) nin0)).keep K89 (ninS (Own.ne_new ((Ar.ext X6).keep Kcu (ninS (Own.ne_new Ar.lt g5) nin0)).lt g64) nin0)).keep K95 (ninS (Own.ne_new ((Ar.ext X6).keep Kcu (ninS (Own.ne_new Ar.lt g5) nin0)).lt g64) nin0)).keep K101 (ninS (Own.ne_new ((Ar.ext X6).keep Kcu (ninS (Own.ne_new Ar.lt g5) nin0)).lt g64) nin0)).keep K107 (ninS (Own.ne_new ((Ar.ext X6).keep Kcu (ninS (Own.ne_new Ar.lt g5) nin0)).lt g64) nin0)).keep K113 (ninS (Own.ne_new ((Ar.ext X6).keep Kcu (ninS (Own.ne_new Ar.lt g5) nin0)).lt g64) nin0)).keep K119 (ninS (Own.ne_new ((Ar.ext X6).keep Kcu (ninS (Own.ne_new Ar.lt g5) nin0)).lt g64) nin0)).keep K125 (ninS (Own.ne_new ((Ar.ext X6).keep Kcu (ninS (Own.ne_new Ar.lt g5) nin0)).lt g64) nin0)) ⟨by decide, by decide⟩ (v := (.int (d 3).toInt32)) rfl ?_
  refine w_iadd W124 B d_law_919 ?_
  refine w_i2c W124 B d_law_920 ?_
  rw [dc_i2c (hd 3)]
  show G E x T122 (fr x 921 #[.val (.long p0), .second, .val (.int p1), .val (.ref pa), .val (.int n.toInt32), .val (.long m), .second, .val (.long v), .second, .val (.ref ra), .val (.ref ca), .val (.ref b3), .val (.int (sm d 14).toInt32), .val (.int (ckn (sm d 14)).toInt32), .val (.ref b61), .unset] [(.int (dc (d 3))), (.int (10 : Int32)), (.ref b61)])
  refine w_castore W124 B d_law_921 (List.Mem.head _) A127 (by decide) (i := 10) rfl (by first | decide | simp) (u := (dc (d 3))) (nar_dc (hd _)) ?_
  intro T128 h129 W130 K131 A132
  have A133 : Arv E.Z h129 b61 k62 .char (15 : Int32) [(.int (dc (d 13))), (.int (dc (d 12))), (.int (dc (d 11))), (.int (dc (d 10))), (.int (dc (d 9))), (.int (dc (d 8))), (.int (dc (d 7))), (.int (dc (d 6))), (.int (dc (d 5))), (.int (dc (d 4))), (.int (dc (d 3))), (.int (0 : Int32)), (.int (0 : Int32)), (.int (0 : Int32)), (.int (0 : Int32))] (.int (0 : Int32)) := A132
  refine w_aload W130 B d_law_922 rfl rfl ?_
  refine w_bipush W130 B d_law_924 (v := (11 : Int32)) rfl ?_
  refine w_bipush W130 B d_law_926 (v := (48 : Int32)) rfl ?_
  refine w_aload W130 B d_law_928 rfl rfl ?_
  refine w_iconst W130 B d_law_930 (v := (2 : Int32)) rfl ?_
  refine w_iaload W130 B d_law_931 ((((((((((((((Ar.ext X6).keep Kcu (ninS (Own.ne_new Ar.lt g5) nin0)).ext X65).keep K71 (ninS (Own.ne_new ((Ar.ext X6).keep Kcu (ninS (Own.ne_new Ar.lt g5) nin0)).lt g64) nin0)).keep K77 (ninS (Own.ne_new ((Ar.ext X6).keep Kcu (ninS (Own.ne_new Ar.lt g5) nin0)).lt g64) nin0)).keep K83 (ninS (Own.ne_new ((Ar.ext X6).keep Kcu (ninS (Own.ne_new Ar.lt g5) nin0)).lt g64) nin0)).keep K89 (ninS (Own.ne_new ((Ar.ext X6).keep Kcu (ninS (Own.ne_new Ar.lt g5) nin0)).lt g64) nin0)).keep K95 (ninS (Own.ne_new ((Ar.ext X6).keep Kcu (ninS (Own.ne_new Ar.lt g5) nin0)).lt g64) nin0)).keep K101 (ninS (Own.ne_new ((Ar.ext X6).keep Kcu (ninS (Own.ne_new Ar.lt g5) nin0)).lt g64) nin0)).keep K107 (ninS (Own.ne_new ((Ar.ext X6).keep Kcu (ninS (Own.ne_new Ar.lt g5) nin0)).lt g64) nin0)).keep K113 (ninS (Own.ne_new ((Ar.ext X6).keep Kcu (ninS (Own.ne_new Ar.lt g5) nin0)).lt g64) nin0)).keep K119 (ninS (Own.ne_new ((Ar.ext X6).keep Kcu (ninS (Own.ne_new Ar.lt g5) nin0)).lt g64) nin0)).keep K125 (ninS (Own.ne_new ((Ar.ext X6).keep Kcu (ninS (Own.ne_new Ar.lt g5) nin0)).lt g64) nin0)).keep K131 (ninS (Own.ne_new ((Ar.ext X6).keep Kcu (ninS (Own.ne_new Ar.lt g5) nin0)).lt g64) nin0)) ⟨by decide, by decide⟩ (v := (.int (d 2).toInt32)) rfl ?_
  refine w_iadd W130 B d_law_932 ?_
  refine w_i2c W130 B d_law_933 ?_
  rw [dc_i2c (hd 2)]
  show G E x T128 (fr x 934 #[.val (.long p0), .second, .val (.int p1), .val (.ref pa), .val (.int n.toInt32), .val (.long m), .second, .val (.long v), .second, .val (.ref ra), .val (.ref ca), .val (.ref b3), .val (.int (sm d 14).toInt32), .val (.int (ckn (sm d 14)).toInt32), .val (.ref b61), .unset] [(.int (dc (d 2))), (.int (11 : Int32)), (.ref b61)])
  refine w_castore W130 B d_law_934 (List.Mem.head _) A133 (by decide) (i := 11) rfl (by first | decide | simp) (u := (dc (d 2))) (nar_dc (hd _)) ?_
  intro T134 h135 W136 K137 A138
  have A139 : Arv E.Z h135 b61 k62 .char (15 : Int32) [(.int (dc (d 13))), (.int (dc (d 12))), (.int (dc (d 11))), (.int (dc (d 10))), (.int (dc (d 9))), (.int (dc (d 8))), (.int (dc (d 7))), (.int (dc (d 6))), (.int (dc (d 5))), (.int (dc (d 4))), (.int (dc (d 3))), (.int (dc (d 2))), (.int (0 : Int32)), (.int (0 : Int32)), (.int (0 : Int32))] (.int (0 : Int32)) := A138
  refine w_aload W136 B d_law_935 rfl rfl ?_
  refine w_bipush W136 B d_law_937 (v := (12 : Int32)) rfl ?_
  refine w_bipush W136 B d_law_939 (v := (48 : Int32)) rfl ?_
  refine w_aload W136 B d_law_941 rfl rfl ?_
  refine w_iconst W136 B d_law_943 (v := (1 : Int32)) rfl ?_
  refine w_iaload W136 B d_law_944 (((((((((((((((Ar.ext X6).keep Kcu (ninS (Own.ne_new Ar.lt g5) nin0)).ext X65).keep K71 (ninS (Own.ne_new ((Ar.ext X6).keep Kcu (ninS (Own.ne_new Ar.lt g5) nin0)).lt g64) nin0)).keep K77 (ninS (Own.ne_new ((Ar.ext X6).keep Kcu (ninS (Own.ne_new Ar.lt g5) nin0)).lt g64) nin0)).keep K83 (ninS (Own.ne_new ((Ar.ext X6).keep Kcu (ninS (Own.ne_new Ar.lt g5) nin0)).lt g64) nin0)).keep K89 (ninS (Own.ne_new ((Ar.ext X6).keep Kcu (ninS (Own.ne_new Ar.lt g5) nin0)).lt g64) nin0)).keep K95 (ninS (Own.ne_new ((Ar.ext X6).keep Kcu (ninS (Own.ne_new Ar.lt g5) nin0)).lt g64) nin0)).keep K101 (ninS (Own.ne_new ((Ar.ext X6).keep Kcu (ninS (Own.ne_new Ar.lt g5) nin0)).lt g64) nin0)).keep K107 (ninS (Own.ne_new ((Ar.ext X6).keep Kcu (ninS (Own.ne_new Ar.lt g5) nin0)).lt g64) nin0)).keep K113 (ninS (Own.ne_new ((Ar.ext X6).keep Kcu (ninS (Own.ne_new Ar.lt g5) nin0)).lt g64) nin0)).keep K119 (ninS (Own.ne_new ((Ar.ext X6).keep Kcu (ninS (Own.ne_new Ar.lt g5) nin0)).lt g64) nin0)).keep K125 (ninS (Own.ne_new ((Ar.ext X6).keep Kcu (ninS (Own.ne_new Ar.lt g5) nin0)).lt g64) nin0)).keep K131 (ninS (Own.ne_new ((Ar.ext X6).keep Kcu (ninS (Own.ne_new Ar.lt g5) nin0)).lt g64) nin0)).keep K137 (ninS (Own.ne_new ((Ar.ext X6).keep Kcu (ninS (Own.ne_new Ar.lt g5) nin0)).lt g64) nin0)) ⟨by decide, by decide⟩ (v := (.int (d 1).toInt32)) rfl ?_
  refine w_iadd W136 B d_law_945 ?_
  refine w_i2c W136 B d_law_946 ?_
  rw [dc_i2c (hd 1)]
  show G E x T134 (fr x 947 #[.val (.long p0), .second, .val (.int p1), .val (.ref pa), .val (.int n.toInt32), .val (.long m), .second, .val (.long v), .second, .val (.ref ra), .val (.ref ca), .val (.ref b3), .val (.int (sm d 14).toInt32), .val (.int (ckn (sm d 14)).toInt32), .val (.ref b61), .unset] [(.int (dc (d 1))), (.int (12 : Int32)), (.ref b61)])
  refine w_castore W136 B d_law_947 (List.Mem.head _) A139 (by decide) (i := 12) rfl (by first | decide | simp) (u := (dc (d 1))) (nar_dc (hd _)) ?_
  intro T140 h141 W142 K143 A144
  have A145 : Arv E.Z h141 b61 k62 .char (15 : Int32) [(.int (dc (d 13))), (.int (dc (d 12))), (.int (dc (d 11))), (.int (dc (d 10))), (.int (dc (d 9))), (.int (dc (d 8))), (.int (dc (d 7))), (.int (dc (d 6))), (.int (dc (d 5))), (.int (dc (d 4))), (.int (dc (d 3))), (.int (dc (d 2))), (.int (dc (d 1))), (.int (0 : Int32)), (.int (0 : Int32))] (.int (0 : Int32)) := A144
  refine w_aload W142 B d_law_948 rfl rfl ?_
  refine w_bipush W142 B d_law_950 (v := (13 : Int32)) rfl ?_
  refine w_bipush W142 B d_law_952 (v := (48 : Int32)) rfl ?_
  refine w_aload W142 B d_law_954 rfl rfl ?_
  refine w_iconst W142 B d_law_956 (v := (0 : Int32)) rfl ?_
  refine w_iaload W142 B d_law_957 ((((((((((((((((Ar.ext X6).keep Kcu (ninS (Own.ne_new Ar.lt g5) nin0)).ext X65).keep K71 (ninS (Own.ne_new ((Ar.ext X6).keep Kcu (ninS (Own.ne_new Ar.lt g5) nin0)).lt g64) nin0)).keep K77 (ninS (Own.ne_new ((Ar.ext X6).keep Kcu (ninS (Own.ne_new Ar.lt g5) nin0)).lt g64) nin0)).keep K83 (ninS (Own.ne_new ((Ar.ext X6).keep Kcu (ninS (Own.ne_new Ar.lt g5) nin0)).lt g64) nin0)).keep K89 (ninS (Own.ne_new ((Ar.ext X6).keep Kcu (ninS (Own.ne_new Ar.lt g5) nin0)).lt g64) nin0)).keep K95 (ninS (Own.ne_new ((Ar.ext X6).keep Kcu (ninS (Own.ne_new Ar.lt g5) nin0)).lt g64) nin0)).keep K101 (ninS (Own.ne_new ((Ar.ext X6).keep Kcu (ninS (Own.ne_new Ar.lt g5) nin0)).lt g64) nin0)).keep K107 (ninS (Own.ne_new ((Ar.ext X6).keep Kcu (ninS (Own.ne_new Ar.lt g5) nin0)).lt g64) nin0)).keep K113 (ninS (Own.ne_new ((Ar.ext X6).keep Kcu (ninS (Own.ne_new Ar.lt g5) nin0)).lt g64) nin0)).keep K119 (ninS (Own.ne_new ((Ar.ext X6).keep Kcu (ninS (Own.ne_new Ar.lt g5) nin0)).lt g64) nin0)).keep K125 (ninS (Own.ne_new ((Ar.ext X6).keep Kcu (ninS (Own.ne_new Ar.lt g5) nin0)).lt g64) nin0)).keep K131 (ninS (Own.ne_new ((Ar.ext X6).keep Kcu (ninS (Own.ne_new Ar.lt g5) nin0)).lt g64) nin0)).keep K137 (ninS (Own.ne_new ((Ar.ext X6).keep Kcu (ninS (Own.ne_new Ar.lt g5) nin0)).lt g64) nin0)).keep K143 (ninS (Own.ne_new ((Ar.ext X6).keep Kcu (ninS (Own.ne_new Ar.lt g5) nin0)).lt g64) nin0)) ⟨by decide, by decide⟩ (v := (.int (d 0).toInt32)) rfl ?_
  refine w_iadd W142 B d_law_958 ?_
  refine w_i2c W142 B d_law_959 ?_
  rw [dc_i2c (hd 0)]
  show G E x T140 (fr x 960 #[.val (.long p0), .second, .val (.int p1), .val (.ref pa), .val (.int n.toInt32), .val (.long m), .second, .val (.long v), .second, .val (.ref ra), .val (.ref ca), .val (.ref b3), .val (.int (sm d 14).toInt32), .val (.int (ckn (sm d 14)).toInt32), .val (.ref b61), .unset] [(.int (dc (d 0))), (.int (13 : Int32)), (.ref b61)])
  refine w_castore W142 B d_law_960 (List.Mem.head _) A145 (by decide) (i := 13) rfl (by first | decide | simp) (u := (dc (d 0))) (nar_dc (hd _)) ?_
  intro T146 h147 W148 K149 A150
  have A151 : Arv E.Z h147 b61 k62 .char (15 : Int32) [(.int (dc (d 13))), (.int (dc (d 12))), (.int (dc (d 11))), (.int (dc (d 10))), (.int (dc (d 9))), (.int (dc (d 8))), (.int (dc (d 7))), (.int (dc (d 6))), (.int (dc (d 5))), (.int (dc (d 4))), (.int (dc (d 3))), (.int (dc (d 2))), (.int (dc (d 1))), (.int (dc (d 0))), (.int (0 : Int32))] (.int (0 : Int32)) := A150
  refine w_aload W148 B d_law_961 rfl rfl ?_
  refine w_bipush W148 B d_law_963 (v := (14 : Int32)) rfl ?_
  refine w_bipush W148 B d_law_965 (v := (48 : Int32)) rfl ?_
  refine w_iload W148 B d_law_967 rfl ?_
  refine w_iadd W148 B d_law_969 ?_
  refine w_i2c W148 B d_law_970 ?_
  rw [dc_i2c (ckn_le _)]
  show G E x T146 (fr x 971 #[.val (.long p0), .second, .val (.int p1), .val (.ref pa), .val (.int n.toInt32), .val (.long m), .second, .val (.long v), .second, .val (.ref ra), .val (.ref ca), .val (.ref b3), .val (.int (sm d 14).toInt32), .val (.int (ckn (sm d 14)).toInt32), .val (.ref b61), .unset] [(.int (dc (ckn (sm d 14)))), (.int (14 : Int32)), (.ref b61)])
  refine w_castore W148 B d_law_971 (List.Mem.head _) A151 (by decide) (i := 14) rfl (by first | decide | simp) (u := (dc (ckn (sm d 14)))) (nar_dc (ckn_le _)) ?_
  intro T152 h153 W154 K155 A156
  have A157 : Arv E.Z h153 b61 k62 .char (15 : Int32) [(.int (dc (d 13))), (.int (dc (d 12))), (.int (dc (d 11))), (.int (dc (d 10))), (.int (dc (d 9))), (.int (dc (d 8))), (.int (dc (d 7))), (.int (dc (d 6))), (.int (dc (d 5))), (.int (dc (d 4))), (.int (dc (d 3))), (.int (dc (d 2))), (.int (dc (d 1))), (.int (dc (d 0))), (.int (dc (ckn (sm d 14))))] (.int (0 : Int32)) := A156
  refine w_aload W154 B d_law_972 rfl rfl ?_
  refine w_static W154 B (y := ⟨"com/example/fordring/fordring/account/PaymentReference", "forCustomer", "(Ljava/lang/String;)Lcom/example/fordring/fordring/account/PaymentReference;"⟩) d_law_974 (wd hw 55 rfl) (wd hw 56 rfl) (wd hw 57 rfl) (wd hw 58 rfl) (by decide) pd__Ljava_lang_String__Lcom_example_fordring_fordring_account_PaymentReference_347 (argsL := [(.ref b3)]) rfl rfl rfl (Wt := 0) (Nat.le_of_eq rfl) (forc_met hw hd h0 h1 hn ⟨((((((((((((((((Scu.1.ext X65).keep K71).keep K77).keep K83).keep K89).keep K95).keep K101).keep K107).keep K113).keep K119).keep K125).keep K131).keep K137).keep K143).keep K149).keep K155), ((((((((((((((((Scu.2.1.ext X65).keep K71 (ninS (Own.ne_new Scu.1.lt g64) nin0)).keep K77 (ninS (Own.ne_new Scu.1.lt g64) nin0)).keep K83 (ninS (Own.ne_new Scu.1.lt g64) nin0)).keep K89 (ninS (Own.ne_new Scu.1.lt g64) nin0)).keep K95 (ninS (Own.ne_new Scu.1.lt g64) nin0)).keep K101 (ninS (Own.ne_new Scu.1.lt g64) nin0)).keep K107 (ninS (Own.ne_new Scu.1.lt g64) nin0)).keep K113 (ninS (Own.ne_new Scu.1.lt g64) nin0)).keep K119 (ninS (Own.ne_new Scu.1.lt g64) nin0)).keep K125 (ninS (Own.ne_new Scu.1.lt g64) nin0)).keep K131 (ninS (Own.ne_new Scu.1.lt g64) nin0)).keep K137 (ninS (Own.ne_new Scu.1.lt g64) nin0)).keep K143 (ninS (Own.ne_new Scu.1.lt g64) nin0)).keep K149 (ninS (Own.ne_new Scu.1.lt g64) nin0)).keep K155 (ninS (Own.ne_new Scu.1.lt g64) nin0)), ((((((((((((((((Scu.2.2.1.ext X65).keep K71 (ninS (Own.ne_new Scu.1.lt g64) nin0)).keep K77 (ninS (Own.ne_new Scu.1.lt g64) nin0)).keep K83 (ninS (Own.ne_new Scu.1.lt g64) nin0)).keep K89 (ninS (Own.ne_new Scu.1.lt g64) nin0)).keep K95 (ninS (Own.ne_new Scu.1.lt g64) nin0)).keep K101 (ninS (Own.ne_new Scu.1.lt g64) nin0)).keep K107 (ninS (Own.ne_new Scu.1.lt g64) nin0)).keep K113 (ninS (Own.ne_new Scu.1.lt g64) nin0)).keep K119 (ninS (Own.ne_new Scu.1.lt g64) nin0)).keep K125 (ninS (Own.ne_new Scu.1.lt g64) nin0)).keep K131 (ninS (Own.ne_new Scu.1.lt g64) nin0)).keep K137 (ninS (Own.ne_new Scu.1.lt g64) nin0)).keep K143 (ninS (Own.ne_new Scu.1.lt g64) nin0)).keep K149 (ninS (Own.ne_new Scu.1.lt g64) nin0)).keep K155 (ninS (Own.ne_new Scu.1.lt g64) nin0)), ((((((((((((((((Scu.2.2.2.ext X65).keep K71 (ninS (Own.ne_new Scu.2.2.2.lt g64) nin0)).keep K77 (ninS (Own.ne_new Scu.2.2.2.lt g64) nin0)).keep K83 (ninS (Own.ne_new Scu.2.2.2.lt g64) nin0)).keep K89 (ninS (Own.ne_new Scu.2.2.2.lt g64) nin0)).keep K95 (ninS (Own.ne_new Scu.2.2.2.lt g64) nin0)).keep K101 (ninS (Own.ne_new Scu.2.2.2.lt g64) nin0)).keep K107 (ninS (Own.ne_new Scu.2.2.2.lt g64) nin0)).keep K113 (ninS (Own.ne_new Scu.2.2.2.lt g64) nin0)).keep K119 (ninS (Own.ne_new Scu.2.2.2.lt g64) nin0)).keep K125 (ninS (Own.ne_new Scu.2.2.2.lt g64) nin0)).keep K131 (ninS (Own.ne_new Scu.2.2.2.lt g64) nin0)).keep K137 (ninS (Own.ne_new Scu.2.2.2.lt g64) nin0)).keep K143 (ninS (Own.ne_new Scu.2.2.2.lt g64) nin0)).keep K149 (ninS (Own.ne_new Scu.2.2.2.lt g64) nin0)).keep K155 (ninS (Own.ne_new Scu.2.2.2.lt g64) nin0))⟩) (by decide) (by decide) (by decide) (by decide) ?_
  intro T158 h159 F160 v161 W162 Q163
  obtain ⟨o, q, qv, kq, rfl, rfl, KO, EO, fO, SO⟩ := Q163
  show G E x T158 (fr x 977 #[.val (.long p0), .second, .val (.int p1), .val (.ref pa), .val (.int n.toInt32), .val (.long m), .second, .val (.long v), .second, .val (.ref ra), .val (.ref ca), .val (.ref b3), .val (.int (sm d 14).toInt32), .val (.int (ckn (sm d 14)).toInt32), .val (.ref b61), .unset] [(.ref o)])
  refine w_virtual W162 B (y := ⟨"com/example/fordring/fordring/account/PaymentReference", "toString", "()Ljava/lang/String;"⟩) (z := ⟨"com/example/fordring/fordring/account/PaymentReference", "toString", "()Ljava/lang/String;"⟩) d_law_977 (wd hw 240 rfl) (wd hw 241 rfl) (nf_sel (wd hw 243 rfl)) (wd hw 243 rfl) (wd hw 242 rfl) (wd hw 57 rfl) (wd hw 244 rfl) (by decide) EO pd___Ljava_lang_String_780 (argsL := []) rfl rfl rfl (Wt := 0) (Nat.le_of_eq rfl) (prs_met hw fO) (by decide) (by decide) (by decide) (by decide) ?_
  intro T164 h165 F166 v167 W168 Q169
  obtain ⟨rfl, rfl, rfl⟩ := Q169
  show G E x T164 (fr x 980 #[.val (.long p0), .second, .val (.int p1), .val (.ref pa), .val (.int n.toInt32), .val (.long m), .second, .val (.long v), .second, .val (.ref ra), .val (.ref ca), .val (.ref b3), .val (.int (sm d 14).toInt32), .val (.int (ckn (sm d 14)).toInt32), .val (.ref b61), .unset] [(.ref q)])
  refine w_astore W168 B d_law_980 rfl (Ls' := #[.val (.long p0), .second, .val (.int p1), .val (.ref pa), .val (.int n.toInt32), .val (.long m), .second, .val (.long v), .second, .val (.ref ra), .val (.ref ca), .val (.ref b3), .val (.int (sm d 14).toInt32), .val (.int (ckn (sm d 14)).toInt32), .val (.ref b61), .val (.ref q)]) rfl ?_
  refine w_aload W168 B d_law_982 rfl rfl ?_
  refine w_new W168 B d_law_984 (wd hw 23 rfl) (wd hw 24 rfl) (wd hw 25 rfl) (by decide) (by decide) ?_
  intro T170 h171 b172 W173 g174 X175 A176 D177
  have f178 : Fld E.Z h171 b172 "java/lang/String" "coder" "B" (.int (0 : Int32)) := D177 (Or.inr (wd hw 49 rfl)) (ty := .byte) (by decide)
  have f179 : Fld E.Z h171 b172 "java/lang/String" "value" "[B" .null := D177 (Or.inr (wd hw 51 rfl)) (ty := (.array .byte)) (by decide)
  show G E x T170 (fr x 987 #[.val (.long p0), .second, .val (.int p1), .val (.ref pa), .val (.int n.toInt32), .val (.long m), .second, .val (.long v), .second, .val (.ref ra), .val (.ref ca), .val (.ref b3), .val (.int (sm d 14).toInt32), .val (.int (ckn (sm d 14)).toInt32), .val (.ref b61), .val (.ref q)] [(.ref b172), (.ref q)])
  refine w_dup W173 B d_law_987 rfl ?_
  refine w_aload W173 B d_law_988 rfl rfl ?_
  refine w_special W173 B (y := ⟨"java/lang/String", "<init>", "([C)V"⟩) d_law_990 rfl (wd hw 26 rfl) (wd hw 27 rfl) (wd hw 25 rfl) (wd hw 28 rfl) (by decide) pd___C_V325 (argsL := [(.ref b61)]) rfl rfl rfl (Wt := 2) (Nat.le_of_eq rfl) (ini1_met hw (cs := refd d) (n := 15) rfl (by decide) (by decide) (dgs_ch (refd_rng hd)) (dgs_lat (refd_rng hd)) (List.Mem.head _) A176 f179 f178 (show Arv E.Z h171 b61 k62 .char (15 : Nat).toInt32 (ints (refd d)) (.int 0) from ((A157.keep KO nin0).ext X175))) (by decide) (by decide) (by decide) (by decide) ?_
  intro T180 h181 F182 v183 W184 Q185
  obtain ⟨rfl, rfl, Kex, exv, Vex, hvex⟩ := Q185
  obtain ⟨kex, Sex⟩ := Vex.latin (dgs_lat (refd_rng hd))
  show G E x T180 (fr x 993 #[.val (.long p0), .second, .val (.int p1), .val (.ref pa), .val (.int n.toInt32), .val (.long m), .second, .val (.long v), .second, .val (.ref ra), .val (.ref ca), .val (.ref b3), .val (.int (sm d 14).toInt32), .val (.int (ckn (sm d 14)).toInt32), .val (.ref b61), .val (.ref q)] [(.ref b172), (.ref q)])
  refine w_virtual W184 B (y := ⟨"java/lang/String", "equals", "(Ljava/lang/Object;)Z"⟩) (z := ⟨"java/lang/String", "equals", "(Ljava/lang/Object;)Z"⟩) d_law_993 (wd hw 245 rfl) (wd hw 246 rfl) (nf_sel (wd hw 248 rfl)) (wd hw 248 rfl) (wd hw 247 rfl) (wd hw 25 rfl) (wd hw 249 rfl) (by decide) ((SO.1.ext X175).keep Kex) pd__Ljava_lang_Object__Z838 (argsL := [(.ref b172)]) rfl rfl rfl (Wt := 0) (Nat.le_of_eq rfl) (seq_met hw ⟨((SO.1.ext X175).keep Kex), ((SO.2.1.ext X175).keep Kex (ninS (Own.ne_new SO.1.lt g174) nin0)), ((SO.2.2.1.ext X175).keep Kex (ninS (Own.ne_new SO.1.lt g174) nin0)), ((SO.2.2.2.ext X175).keep Kex (ninS (Own.ne_new SO.2.2.2.lt g174) nin0))⟩ ⟨Sex.1, Sex.2.1, Sex.2.2.1, Sex.2.2.2⟩ (Own.ne_new SO.1.lt g174) (by simp [refd, pads_len])) (by decide) (by decide) (by decide) (by decide) ?_
  intro T186 h187 F188 v189 W190 Q191
  obtain ⟨rfl, rfl, rfl⟩ := Q191
  show G E x T186 (fr x 996 #[.val (.long p0), .second, .val (.int p1), .val (.ref pa), .val (.int n.toInt32), .val (.long m), .second, .val (.long v), .second, .val (.ref ra), .val (.ref ca), .val (.ref b3), .val (.int (sm d 14).toInt32), .val (.int (ckn (sm d 14)).toInt32), .val (.ref b61), .val (.ref q)] [(.int (1 : Int32))])
  exact w_ireturnN W190 B d_law_996 (Or.inl rfl) (u := 1) rfl hQ (by decide) (by decide) (F' := []) (fun _ q => nomatch q) rfl
set_option maxRecDepth 65536 in
set_option maxHeartbeats 4000000 in
theorem B13 {E : Gl} (hw : Tb E) {x : Cx} {T : State} {h : Heap} (hQ : x.Q = fun r _ _ => r = some (.int 1)) (B : Is x "com/example/fordring/fordring/account/PaymentReferenceForCustomerPinLaw" code 16 ({ frames := 10, cells := 56, slots := 2496, locals := 224 } : Room) (some .boolean) "law") {p0 m v : Int64} {p1 : Int32} {n : Nat} (h1 : 1 ≤ n) (hn : n ≤ 14) {d : Nat → Nat} (hd : ∀ k, d k ≤ 9) (h0 : ∀ k, n ≤ k → d k = 0) {pa ra : Addr} {kr : ClassId} (Ar : Arv E.Z h ra kr .int (14 : Int32) [(.int (d 0).toInt32), (.int (d 1).toInt32), (.int (d 2).toInt32), (.int (d 3).toInt32), (.int (d 4).toInt32), (.int (d 5).toInt32), (.int (d 6).toInt32), (.int (d 7).toInt32), (.int (d 8).toInt32), (.int (d 9).toInt32), (.int (d 10).toInt32), (.int (d 11).toInt32), (.int (d 12).toInt32), (.int (d 13).toInt32)] (.int (0 : Int32))) {ca : Addr} {kc : ClassId} {vs : List Value} (hra : ra ≠ ca) (Ac : Arv E.Z h ca kc .char n.toInt32 vs (.int 0)) (hvl : vs.length = n) (hvs : ∀ j, j < 13 → j < n → vs.getD (n - 1 - j) (.int 0) = .int (dc (d j))) (W : Wk E x T h [ca] 3 42) : G E x T (fr x 623 #[.val (.long p0), .second, .val (.int p1), .val (.ref pa), .val (.int n.toInt32), .val (.long m), .second, .val (.long v), .second, .val (.ref ra), .val (.ref ca), .unset, .unset, .unset, .unset, .unset] []) := by
  refine w_iload W B d_law_623 rfl ?_
  refine w_bipush W B d_law_625 (v := (13 : Int32)) rfl ?_
  by_cases hk : 13 < n
  ·
    refine w_icmp_le W B d_law_627 (fun q => q ((n_lt (i := 13) (by decide) (by omega)).mpr hk) |>.elim) (fun _ => ?_)
    show G E x T (fr x 630 #[.val (.long p0), .second, .val (.int p1), .val (.ref pa), .val (.int n.toInt32), .val (.long m), .second, .val (.long v), .second, .val (.ref ra), .val (.ref ca), .unset, .unset, .unset, .unset, .unset] [])
    refine w_aload W B d_law_630 rfl rfl ?_
    refine w_iload W B d_law_632 rfl ?_
    refine w_bipush W B d_law_634 (v := (14 : Int32)) rfl ?_
    refine w_isub W B d_law_636 ?_
    rw [show n.toInt32 - (14 : Int32) = (n - 14).toInt32 from n_sub (j := 14) (by omega) (by omega)]
    show G E x T (fr x 637 #[.val (.long p0), .second, .val (.int p1), .val (.ref pa), .val (.int n.toInt32), .val (.long m), .second, .val (.long v), .second, .val (.ref ra), .val (.ref ca), .unset, .unset, .unset, .unset, .unset] [(.int (n - 14).toInt32), (.ref ca)])
    refine w_bipush W B d_law_637 (v := (48 : Int32)) rfl ?_
    refine w_aload W B d_law_639 rfl rfl ?_
    refine w_bipush W B d_law_641 (v := (13 : Int32)) rfl ?_
    refine w_iaload W B d_law_643 Ar ⟨by decide, by decide⟩ (v := (.int (d 13).toInt32)) rfl ?_
    refine w_iadd W B d_law_644 ?_
    refine w_i2c W B d_law_645 ?_
    rw [dc_i2c (hd 13)]
    show G E x T (fr x 646 #[.val (.long p0), .second, .val (.int p1), .val (.ref pa), .val (.int n.toInt32), .val (.long m), .second, .val (.long v), .second, .val (.ref ra), .val (.ref ca), .unset, .unset, .unset, .unset, .unset] [(.int (dc (d 13))), (.int (n - 14).toInt32), (.ref ca)])
    refine w_castore W B d_law_646 (List.Mem.head _) Ac ⟨n_nn (by omega), (n_lt (by omega) (by omega)).mpr (by omega)⟩ (i := n - 14) (n_clamp (by omega)) (by omega) (u := dc (d 13)) (nar_dc (hd _)) ?_
    intro T2 h2 W2 K2 A2
    show G E x T2 (fr x 647 #[.val (.long p0), .second, .val (.int p1), .val (.ref pa), .val (.int n.toInt32), .val (.long m), .second, .val (.long v), .second, .val (.ref ra), .val (.ref ca), .unset, .unset, .unset, .unset, .unset] [])
    exact L647 hw hQ B h1 hn hd h0 (Ar.keep K2 (ninS hra nin0)) (vs_cust (by rw [List.length_set]; exact hvl) (by omega) (c_step hvl (by omega) hvs) ▸ A2) (W2.mono (fun _ q => nomatch q) (by decide) (by decide))
  ·
    refine w_icmp_le W B d_law_627 (fun _ => ?_) (fun q => absurd q (fun q => hk ((n_lt (i := 13) (by decide) (by omega)).mp q)))
    show G E x T (fr x 647 #[.val (.long p0), .second, .val (.int p1), .val (.ref pa), .val (.int n.toInt32), .val (.long m), .second, .val (.long v), .second, .val (.ref ra), .val (.ref ca), .unset, .unset, .unset, .unset, .unset] [])
    exact L647 hw hQ B h1 hn hd h0 Ar (vs_cust hvl (by omega) (fun j q1 q2 => hvs j (by omega) q2) ▸ Ac) (W.mono (fun _ q => nomatch q) (by decide) (by decide))
set_option maxRecDepth 65536 in
set_option maxHeartbeats 4000000 in
theorem B12 {E : Gl} (hw : Tb E) {x : Cx} {T : State} {h : Heap} (hQ : x.Q = fun r _ _ => r = some (.int 1)) (B : Is x "com/example/fordring/fordring/account/PaymentReferenceForCustomerPinLaw" code 16 ({ frames := 10, cells := 56, slots := 2496, locals := 224 } : Room) (some .boolean) "law") {p0 m v : Int64} {p1 : Int32} {n : Nat} (h1 : 1 ≤ n) (hn : n ≤ 14) {d : Nat → Nat} (hd : ∀ k, d k ≤ 9) (h0 : ∀ k, n ≤ k → d k = 0) {pa ra : Addr} {kr : ClassId} (Ar : Arv E.Z h ra kr .int (14 : Int32) [(.int (d 0).toInt32), (.int (d 1).toInt32), (.int (d 2).toInt32), (.int (d 3).toInt32), (.int (d 4).toInt32), (.int (d 5).toInt32), (.int (d 6).toInt32), (.int (d 7).toInt32), (.int (d 8).toInt32), (.int (d 9).toInt32), (.int (d 10).toInt32), (.int (d 11).toInt32), (.int (d 12).toInt32), (.int (d 13).toInt32)] (.int (0 : Int32))) {ca : Addr} {kc : ClassId} {vs : List Value} (hra : ra ≠ ca) (Ac : Arv E.Z h ca kc .char n.toInt32 vs (.int 0)) (hvl : vs.length = n) (hvs : ∀ j, j < 12 → j < n → vs.getD (n - 1 - j) (.int 0) = .int (dc (d j))) (W : Wk E x T h [ca] 3 42) : G E x T (fr x 599 #[.val (.long p0), .second, .val (.int p1), .val (.ref pa), .val (.int n.toInt32), .val (.long m), .second, .val (.long v), .second, .val (.ref ra), .val (.ref ca), .unset, .unset, .unset, .unset, .unset] []) := by
  refine w_iload W B d_law_599 rfl ?_
  refine w_bipush W B d_law_601 (v := (12 : Int32)) rfl ?_
  by_cases hk : 12 < n
  ·
    refine w_icmp_le W B d_law_603 (fun q => q ((n_lt (i := 12) (by decide) (by omega)).mpr hk) |>.elim) (fun _ => ?_)
    show G E x T (fr x 606 #[.val (.long p0), .second, .val (.int p1), .val (.ref pa), .val (.int n.toInt32), .val (.long m), .second, .val (.long v), .second, .val (.ref ra), .val (.ref ca), .unset, .unset, .unset, .unset, .unset] [])
    refine w_aload W B d_law_606 rfl rfl ?_
    refine w_iload W B d_law_608 rfl ?_
    refine w_bipush W B d_law_610 (v := (13 : Int32)) rfl ?_
    refine w_isub W B d_law_612 ?_
    rw [show n.toInt32 - (13 : Int32) = (n - 13).toInt32 from n_sub (j := 13) (by omega) (by omega)]
    show G E x T (fr x 613 #[.val (.long p0), .second, .val (.int p1), .val (.ref pa), .val (.int n.toInt32), .val (.long m), .second, .val (.long v), .second, .val (.ref ra), .val (.ref ca), .unset, .unset, .unset, .unset, .unset] [(.int (n - 13).toInt32), (.ref ca)])
    refine w_bipush W B d_law_613 (v := (48 : Int32)) rfl ?_
    refine w_aload W B d_law_615 rfl rfl ?_
    refine w_bipush W B d_law_617 (v := (12 : Int32)) rfl ?_
    refine w_iaload W B d_law_619 Ar ⟨by decide, by decide⟩ (v := (.int (d 12).toInt32)) rfl ?_
    refine w_iadd W B d_law_620 ?_
    refine w_i2c W B d_law_621 ?_
    rw [dc_i2c (hd 12)]
    show G E x T (fr x 622 #[.val (.long p0), .second, .val (.int p1), .val (.ref pa), .val (.int n.toInt32), .val (.long m), .second, .val (.long v), .second, .val (.ref ra), .val (.ref ca), .unset, .unset, .unset, .unset, .unset] [(.int (dc (d 12))), (.int (n - 13).toInt32), (.ref ca)])
    refine w_castore W B d_law_622 (List.Mem.head _) Ac ⟨n_nn (by omega), (n_lt (by omega) (by omega)).mpr (by omega)⟩ (i := n - 13) (n_clamp (by omega)) (by omega) (u := dc (d 12)) (nar_dc (hd _)) ?_
    intro T2 h2 W2 K2 A2
    show G E x T2 (fr x 623 #[.val (.long p0), .second, .val (.int p1), .val (.ref pa), .val (.int n.toInt32), .val (.long m), .second, .val (.long v), .second, .val (.ref ra), .val (.ref ca), .unset, .unset, .unset, .unset, .unset] [])
    exact B13 hw hQ B h1 hn hd h0 (Ar.keep K2 (ninS hra nin0)) hra A2 (by rw [List.length_set]; exact hvl) (c_step hvl (by omega) hvs) W2
  ·
    refine w_icmp_le W B d_law_603 (fun _ => ?_) (fun q => absurd q (fun q => hk ((n_lt (i := 12) (by decide) (by omega)).mp q)))
    show G E x T (fr x 623 #[.val (.long p0), .second, .val (.int p1), .val (.ref pa), .val (.int n.toInt32), .val (.long m), .second, .val (.long v), .second, .val (.ref ra), .val (.ref ca), .unset, .unset, .unset, .unset, .unset] [])
    exact B13 hw hQ B h1 hn hd h0 Ar hra Ac hvl (fun j q1 q2 => hvs j (by omega) q2) W
set_option maxRecDepth 65536 in
set_option maxHeartbeats 4000000 in
theorem B11 {E : Gl} (hw : Tb E) {x : Cx} {T : State} {h : Heap} (hQ : x.Q = fun r _ _ => r = some (.int 1)) (B : Is x "com/example/fordring/fordring/account/PaymentReferenceForCustomerPinLaw" code 16 ({ frames := 10, cells := 56, slots := 2496, locals := 224 } : Room) (some .boolean) "law") {p0 m v : Int64} {p1 : Int32} {n : Nat} (h1 : 1 ≤ n) (hn : n ≤ 14) {d : Nat → Nat} (hd : ∀ k, d k ≤ 9) (h0 : ∀ k, n ≤ k → d k = 0) {pa ra : Addr} {kr : ClassId} (Ar : Arv E.Z h ra kr .int (14 : Int32) [(.int (d 0).toInt32), (.int (d 1).toInt32), (.int (d 2).toInt32), (.int (d 3).toInt32), (.int (d 4).toInt32), (.int (d 5).toInt32), (.int (d 6).toInt32), (.int (d 7).toInt32), (.int (d 8).toInt32), (.int (d 9).toInt32), (.int (d 10).toInt32), (.int (d 11).toInt32), (.int (d 12).toInt32), (.int (d 13).toInt32)] (.int (0 : Int32))) {ca : Addr} {kc : ClassId} {vs : List Value} (hra : ra ≠ ca) (Ac : Arv E.Z h ca kc .char n.toInt32 vs (.int 0)) (hvl : vs.length = n) (hvs : ∀ j, j < 11 → j < n → vs.getD (n - 1 - j) (.int 0) = .int (dc (d j))) (W : Wk E x T h [ca] 3 42) : G E x T (fr x 575 #[.val (.long p0), .second, .val (.int p1), .val (.ref pa), .val (.int n.toInt32), .val (.long m), .second, .val (.long v), .second, .val (.ref ra), .val (.ref ca), .unset, .unset, .unset, .unset, .unset] []) := by
  refine w_iload W B d_law_575 rfl ?_
  refine w_bipush W B d_law_577 (v := (11 : Int32)) rfl ?_
  by_cases hk : 11 < n
  ·
    refine w_icmp_le W B d_law_579 (fun q => q ((n_lt (i := 11) (by decide) (by omega)).mpr hk) |>.elim) (fun _ => ?_)
    show G E x T (fr x 582 #[.val (.long p0), .second, .val (.int p1), .val (.ref pa), .val (.int n.toInt32), .val (.long m), .second, .val (.long v), .second, .val (.ref ra), .val (.ref ca), .unset, .unset, .unset, .unset, .unset] [])
    refine w_aload W B d_law_582 rfl rfl ?_
    refine w_iload W B d_law_584 rfl ?_
    refine w_bipush W B d_law_586 (v := (12 : Int32)) rfl ?_
    refine w_isub W B d_law_588 ?_
    rw [show n.toInt32 - (12 : Int32) = (n - 12).toInt32 from n_sub (j := 12) (by omega) (by omega)]
    show G E x T (fr x 589 #[.val (.long p0), .second, .val (.int p1), .val (.ref pa), .val (.int n.toInt32), .val (.long m), .second, .val (.long v), .second, .val (.ref ra), .val (.ref ca), .unset, .unset, .unset, .unset, .unset] [(.int (n - 12).toInt32), (.ref ca)])
    refine w_bipush W B d_law_589 (v := (48 : Int32)) rfl ?_
    refine w_aload W B d_law_591 rfl rfl ?_
    refine w_bipush W B d_law_593 (v := (11 : Int32)) rfl ?_
    refine w_iaload W B d_law_595 Ar ⟨by decide, by decide⟩ (v := (.int (d 11).toInt32)) rfl ?_
    refine w_iadd W B d_law_596 ?_
    refine w_i2c W B d_law_597 ?_
    rw [dc_i2c (hd 11)]
    show G E x T (fr x 598 #[.val (.long p0), .second, .val (.int p1), .val (.ref pa), .val (.int n.toInt32), .val (.long m), .second, .val (.long v), .second, .val (.ref ra), .val (.ref ca), .unset, .unset, .unset, .unset, .unset] [(.int (dc (d 11))), (.int (n - 12).toInt32), (.ref ca)])
    refine w_castore W B d_law_598 (List.Mem.head _) Ac ⟨n_nn (by omega), (n_lt (by omega) (by omega)).mpr (by omega)⟩ (i := n - 12) (n_clamp (by omega)) (by omega) (u := dc (d 11)) (nar_dc (hd _)) ?_
    intro T2 h2 W2 K2 A2
    show G E x T2 (fr x 599 #[.val (.long p0), .second, .val (.int p1), .val (.ref pa), .val (.int n.toInt32), .val (.long m), .second, .val (.long v), .second, .val (.ref ra), .val (.ref ca), .unset, .unset, .unset, .unset, .unset] [])
    exact B12 hw hQ B h1 hn hd h0 (Ar.keep K2 (ninS hra nin0)) hra A2 (by rw [List.length_set]; exact hvl) (c_step hvl (by omega) hvs) W2
  ·
    refine w_icmp_le W B d_law_579 (fun _ => ?_) (fun q => absurd q (fun q => hk ((n_lt (i := 11) (by decide) (by omega)).mp q)))
    show G E x T (fr x 599 #[.val (.long p0), .second, .val (.int p1), .val (.ref pa), .val (.int n.toInt32), .val (.long m), .second, .val (.long v), .second, .val (.ref ra), .val (.ref ca), .unset, .unset, .unset, .unset, .unset] [])
    exact B12 hw hQ B h1 hn hd h0 Ar hra Ac hvl (fun j q1 q2 => hvs j (by omega) q2) W
set_option maxRecDepth 65536 in
set_option maxHeartbeats 4000000 in
theorem B10 {E : Gl} (hw : Tb E) {x : Cx} {T : State} {h : Heap} (hQ : x.Q = fun r _ _ => r = some (.int 1)) (B : Is x "com/example/fordring/fordring/account/PaymentReferenceForCustomerPinLaw" code 16 ({ frames := 10, cells := 56, slots := 2496, locals := 224 } : Room) (some .boolean) "law") {p0 m v : Int64} {p1 : Int32} {n : Nat} (h1 : 1 ≤ n) (hn : n ≤ 14) {d : Nat → Nat} (hd : ∀ k, d k ≤ 9) (h0 : ∀ k, n ≤ k → d k = 0) {pa ra : Addr} {kr : ClassId} (Ar : Arv E.Z h ra kr .int (14 : Int32) [(.int (d 0).toInt32), (.int (d 1).toInt32), (.int (d 2).toInt32), (.int (d 3).toInt32), (.int (d 4).toInt32), (.int (d 5).toInt32), (.int (d 6).toInt32), (.int (d 7).toInt32), (.int (d 8).toInt32), (.int (d 9).toInt32), (.int (d 10).toInt32), (.int (d 11).toInt32), (.int (d 12).toInt32), (.int (d 13).toInt32)] (.int (0 : Int32))) {ca : Addr} {kc : ClassId} {vs : List Value} (hra : ra ≠ ca) (Ac : Arv E.Z h ca kc .char n.toInt32 vs (.int 0)) (hvl : vs.length = n) (hvs : ∀ j, j < 10 → j < n → vs.getD (n - 1 - j) (.int 0) = .int (dc (d j))) (W : Wk E x T h [ca] 3 42) : G E x T (fr x 551 #[.val (.long p0), .second, .val (.int p1), .val (.ref pa), .val (.int n.toInt32), .val (.long m), .second, .val (.long v), .second, .val (.ref ra), .val (.ref ca), .unset, .unset, .unset, .unset, .unset] []) := by
  refine w_iload W B d_law_551 rfl ?_
  refine w_bipush W B d_law_553 (v := (10 : Int32)) rfl ?_
  by_cases hk : 10 < n
  ·
    refine w_icmp_le W B d_law_555 (fun q => q ((n_lt (i := 10) (by decide) (by omega)).mpr hk) |>.elim) (fun _ => ?_)
    show G E x T (fr x 558 #[.val (.long p0), .second, .val (.int p1), .val (.ref pa), .val (.int n.toInt32), .val (.long m), .second, .val (.long v), .second, .val (.ref ra), .val (.ref ca), .unset, .unset, .unset, .unset, .unset] [])
    refine w_aload W B d_law_558 rfl rfl ?_
    refine w_iload W B d_law_560 rfl ?_
    refine w_bipush W B d_law_562 (v := (11 : Int32)) rfl ?_
    refine w_isub W B d_law_564 ?_
    rw [show n.toInt32 - (11 : Int32) = (n - 11).toInt32 from n_sub (j := 11) (by omega) (by omega)]
    show G E x T (fr x 565 #[.val (.long p0), .second, .val (.int p1), .val (.ref pa), .val (.int n.toInt32), .val (.long m), .second, .val (.long v), .second, .val (.ref ra), .val (.ref ca), .unset, .unset, .unset, .unset, .unset] [(.int (n - 11).toInt32), (.ref ca)])
    refine w_bipush W B d_law_565 (v := (48 : Int32)) rfl ?_
    refine w_aload W B d_law_567 rfl rfl ?_
    refine w_bipush W B d_law_569 (v := (10 : Int32)) rfl ?_
    refine w_iaload W B d_law_571 Ar ⟨by decide, by decide⟩ (v := (.int (d 10).toInt32)) rfl ?_
    refine w_iadd W B d_law_572 ?_
    refine w_i2c W B d_law_573 ?_
    rw [dc_i2c (hd 10)]
    show G E x T (fr x 574 #[.val (.long p0), .second, .val (.int p1), .val (.ref pa), .val (.int n.toInt32), .val (.long m), .second, .val (.long v), .second, .val (.ref ra), .val (.ref ca), .unset, .unset, .unset, .unset, .unset] [(.int (dc (d 10))), (.int (n - 11).toInt32), (.ref ca)])
    refine w_castore W B d_law_574 (List.Mem.head _) Ac ⟨n_nn (by omega), (n_lt (by omega) (by omega)).mpr (by omega)⟩ (i := n - 11) (n_clamp (by omega)) (by omega) (u := dc (d 10)) (nar_dc (hd _)) ?_
    intro T2 h2 W2 K2 A2
    show G E x T2 (fr x 575 #[.val (.long p0), .second, .val (.int p1), .val (.ref pa), .val (.int n.toInt32), .val (.long m), .second, .val (.long v), .second, .val (.ref ra), .val (.ref ca), .unset, .unset, .unset, .unset, .unset] [])
    exact B11 hw hQ B h1 hn hd h0 (Ar.keep K2 (ninS hra nin0)) hra A2 (by rw [List.length_set]; exact hvl) (c_step hvl (by omega) hvs) W2
  ·
    refine w_icmp_le W B d_law_555 (fun _ => ?_) (fun q => absurd q (fun q => hk ((n_lt (i := 10) (by decide) (by omega)).mp q)))
    show G E x T (fr x 575 #[.val (.long p0), .second, .val (.int p1), .val (.ref pa), .val (.int n.toInt32), .val (.long m), .second, .val (.long v), .second, .val (.ref ra), .val (.ref ca), .unset, .unset, .unset, .unset, .unset] [])
    exact B11 hw hQ B h1 hn hd h0 Ar hra Ac hvl (fun j q1 q2 => hvs j (by omega) q2) W
set_option maxRecDepth 65536 in
set_option maxHeartbeats 4000000 in
theorem B9 {E : Gl} (hw : Tb E) {x : Cx} {T : State} {h : Heap} (hQ : x.Q = fun r _ _ => r = some (.int 1)) (B : Is x "com/example/fordring/fordring/account/PaymentReferenceForCustomerPinLaw" code 16 ({ frames := 10, cells := 56, slots := 2496, locals := 224 } : Room) (some .boolean) "law") {p0 m v : Int64} {p1 : Int32} {n : Nat} (h1 : 1 ≤ n) (hn : n ≤ 14) {d : Nat → Nat} (hd : ∀ k, d k ≤ 9) (h0 : ∀ k, n ≤ k → d k = 0) {pa ra : Addr} {kr : ClassId} (Ar : Arv E.Z h ra kr .int (14 : Int32) [(.int (d 0).toInt32), (.int (d 1).toInt32), (.int (d 2).toInt32), (.int (d 3).toInt32), (.int (d 4).toInt32), (.int (d 5).toInt32), (.int (d 6).toInt32), (.int (d 7).toInt32), (.int (d 8).toInt32), (.int (d 9).toInt32), (.int (d 10).toInt32), (.int (d 11).toInt32), (.int (d 12).toInt32), (.int (d 13).toInt32)] (.int (0 : Int32))) {ca : Addr} {kc : ClassId} {vs : List Value} (hra : ra ≠ ca) (Ac : Arv E.Z h ca kc .char n.toInt32 vs (.int 0)) (hvl : vs.length = n) (hvs : ∀ j, j < 9 → j < n → vs.getD (n - 1 - j) (.int 0) = .int (dc (d j))) (W : Wk E x T h [ca] 3 42) : G E x T (fr x 527 #[.val (.long p0), .second, .val (.int p1), .val (.ref pa), .val (.int n.toInt32), .val (.long m), .second, .val (.long v), .second, .val (.ref ra), .val (.ref ca), .unset, .unset, .unset, .unset, .unset] []) := by
  refine w_iload W B d_law_527 rfl ?_
  refine w_bipush W B d_law_529 (v := (9 : Int32)) rfl ?_
  by_cases hk : 9 < n
  ·
    refine w_icmp_le W B d_law_531 (fun q => q ((n_lt (i := 9) (by decide) (by omega)).mpr hk) |>.elim) (fun _ => ?_)
    show G E x T (fr x 534 #[.val (.long p0), .second, .val (.int p1), .val (.ref pa), .val (.int n.toInt32), .val (.long m), .second, .val (.long v), .second, .val (.ref ra), .val (.ref ca), .unset, .unset, .unset, .unset, .unset] [])
    refine w_aload W B d_law_534 rfl rfl ?_
    refine w_iload W B d_law_536 rfl ?_
    refine w_bipush W B d_law_538 (v := (10 : Int32)) rfl ?_
    refine w_isub W B d_law_540 ?_
    rw [show n.toInt32 - (10 : Int32) = (n - 10).toInt32 from n_sub (j := 10) (by omega) (by omega)]
    show G E x T (fr x 541 #[.val (.long p0), .second, .val (.int p1), .val (.ref pa), .val (.int n.toInt32), .val (.long m), .second, .val (.long v), .second, .val (.ref ra), .val (.ref ca), .unset, .unset, .unset, .unset, .unset] [(.int (n - 10).toInt32), (.ref ca)])
    refine w_bipush W B d_law_541 (v := (48 : Int32)) rfl ?_
    refine w_aload W B d_law_543 rfl rfl ?_
    refine w_bipush W B d_law_545 (v := (9 : Int32)) rfl ?_
    refine w_iaload W B d_law_547 Ar ⟨by decide, by decide⟩ (v := (.int (d 9).toInt32)) rfl ?_
    refine w_iadd W B d_law_548 ?_
    refine w_i2c W B d_law_549 ?_
    rw [dc_i2c (hd 9)]
    show G E x T (fr x 550 #[.val (.long p0), .second, .val (.int p1), .val (.ref pa), .val (.int n.toInt32), .val (.long m), .second, .val (.long v), .second, .val (.ref ra), .val (.ref ca), .unset, .unset, .unset, .unset, .unset] [(.int (dc (d 9))), (.int (n - 10).toInt32), (.ref ca)])
    refine w_castore W B d_law_550 (List.Mem.head _) Ac ⟨n_nn (by omega), (n_lt (by omega) (by omega)).mpr (by omega)⟩ (i := n - 10) (n_clamp (by omega)) (by omega) (u := dc (d 9)) (nar_dc (hd _)) ?_
    intro T2 h2 W2 K2 A2
    show G E x T2 (fr x 551 #[.val (.long p0), .second, .val (.int p1), .val (.ref pa), .val (.int n.toInt32), .val (.long m), .second, .val (.long v), .second, .val (.ref ra), .val (.ref ca), .unset, .unset, .unset, .unset, .unset] [])
    exact B10 hw hQ B h1 hn hd h0 (Ar.keep K2 (ninS hra nin0)) hra A2 (by rw [List.length_set]; exact hvl) (c_step hvl (by omega) hvs) W2
  ·
    refine w_icmp_le W B d_law_531 (fun _ => ?_) (fun q => absurd q (fun q => hk ((n_lt (i := 9) (by decide) (by omega)).mp q)))
    show G E x T (fr x 551 #[.val (.long p0), .second, .val (.int p1), .val (.ref pa), .val (.int n.toInt32), .val (.long m), .second, .val (.long v), .second, .val (.ref ra), .val (.ref ca), .unset, .unset, .unset, .unset, .unset] [])
    exact B10 hw hQ B h1 hn hd h0 Ar hra Ac hvl (fun j q1 q2 => hvs j (by omega) q2) W
set_option maxRecDepth 65536 in
set_option maxHeartbeats 4000000 in
theorem B8 {E : Gl} (hw : Tb E) {x : Cx} {T : State} {h : Heap} (hQ : x.Q = fun r _ _ => r = some (.int 1)) (B : Is x "com/example/fordring/fordring/account/PaymentReferenceForCustomerPinLaw" code 16 ({ frames := 10, cells := 56, slots := 2496, locals := 224 } : Room) (some .boolean) "law") {p0 m v : Int64} {p1 : Int32} {n : Nat} (h1 : 1 ≤ n) (hn : n ≤ 14) {d : Nat → Nat} (hd : ∀ k, d k ≤ 9) (h0 : ∀ k, n ≤ k → d k = 0) {pa ra : Addr} {kr : ClassId} (Ar : Arv E.Z h ra kr .int (14 : Int32) [(.int (d 0).toInt32), (.int (d 1).toInt32), (.int (d 2).toInt32), (.int (d 3).toInt32), (.int (d 4).toInt32), (.int (d 5).toInt32), (.int (d 6).toInt32), (.int (d 7).toInt32), (.int (d 8).toInt32), (.int (d 9).toInt32), (.int (d 10).toInt32), (.int (d 11).toInt32), (.int (d 12).toInt32), (.int (d 13).toInt32)] (.int (0 : Int32))) {ca : Addr} {kc : ClassId} {vs : List Value} (hra : ra ≠ ca) (Ac : Arv E.Z h ca kc .char n.toInt32 vs (.int 0)) (hvl : vs.length = n) (hvs : ∀ j, j < 8 → j < n → vs.getD (n - 1 - j) (.int 0) = .int (dc (d j))) (W : Wk E x T h [ca] 3 42) : G E x T (fr x 503 #[.val (.long p0), .second, .val (.int p1), .val (.ref pa), .val (.int n.toInt32), .val (.long m), .second, .val (.long v), .second, .val (.ref ra), .val (.ref ca), .unset, .unset, .unset, .unset, .unset] []) := by
  refine w_iload W B d_law_503 rfl ?_
  refine w_bipush W B d_law_505 (v := (8 : Int32)) rfl ?_
  by_cases hk : 8 < n
  ·
    refine w_icmp_le W B d_law_507 (fun q => q ((n_lt (i := 8) (by decide) (by omega)).mpr hk) |>.elim) (fun _ => ?_)
    show G E x T (fr x 510 #[.val (.long p0), .second, .val (.int p1), .val (.ref pa), .val (.int n.toInt32), .val (.long m), .second, .val (.long v), .second, .val (.ref ra), .val (.ref ca), .unset, .unset, .unset, .unset, .unset] [])
    refine w_aload W B d_law_510 rfl rfl ?_
    refine w_iload W B d_law_512 rfl ?_
    refine w_bipush W B d_law_514 (v := (9 : Int32)) rfl ?_
    refine w_isub W B d_law_516 ?_
    rw [show n.toInt32 - (9 : Int32) = (n - 9).toInt32 from n_sub (j := 9) (by omega) (by omega)]
    show G E x T (fr x 517 #[.val (.long p0), .second, .val (.int p1), .val (.ref pa), .val (.int n.toInt32), .val (.long m), .second, .val (.long v), .second, .val (.ref ra), .val (.ref ca), .unset, .unset, .unset, .unset, .unset] [(.int (n - 9).toInt32), (.ref ca)])
    refine w_bipush W B d_law_517 (v := (48 : Int32)) rfl ?_
    refine w_aload W B d_law_519 rfl rfl ?_
    refine w_bipush W B d_law_521 (v := (8 : Int32)) rfl ?_
    refine w_iaload W B d_law_523 Ar ⟨by decide, by decide⟩ (v := (.int (d 8).toInt32)) rfl ?_
    refine w_iadd W B d_law_524 ?_
    refine w_i2c W B d_law_525 ?_
    rw [dc_i2c (hd 8)]
    show G E x T (fr x 526 #[.val (.long p0), .second, .val (.int p1), .val (.ref pa), .val (.int n.toInt32), .val (.long m), .second, .val (.long v), .second, .val (.ref ra), .val (.ref ca), .unset, .unset, .unset, .unset, .unset] [(.int (dc (d 8))), (.int (n - 9).toInt32), (.ref ca)])
    refine w_castore W B d_law_526 (List.Mem.head _) Ac ⟨n_nn (by omega), (n_lt (by omega) (by omega)).mpr (by omega)⟩ (i := n - 9) (n_clamp (by omega)) (by omega) (u := dc (d 8)) (nar_dc (hd _)) ?_
    intro T2 h2 W2 K2 A2
    show G E x T2 (fr x 527 #[.val (.long p0), .second, .val (.int p1), .val (.ref pa), .val (.int n.toInt32), .val (.long m), .second, .val (.long v), .second, .val (.ref ra), .val (.ref ca), .unset, .unset, .unset, .unset, .unset] [])
    exact B9 hw hQ B h1 hn hd h0 (Ar.keep K2 (ninS hra nin0)) hra A2 (by rw [List.length_set]; exact hvl) (c_step hvl (by omega) hvs) W2
  ·
    refine w_icmp_le W B d_law_507 (fun _ => ?_) (fun q => absurd q (fun q => hk ((n_lt (i := 8) (by decide) (by omega)).mp q)))
    show G E x T (fr x 527 #[.val (.long p0), .second, .val (.int p1), .val (.ref pa), .val (.int n.toInt32), .val (.long m), .second, .val (.long v), .second, .val (.ref ra), .val (.ref ca), .unset, .unset, .unset, .unset, .unset] [])
    exact B9 hw hQ B h1 hn hd h0 Ar hra Ac hvl (fun j q1 q2 => hvs j (by omega) q2) W
set_option maxRecDepth 65536 in
set_option maxHeartbeats 4000000 in
theorem B7 {E : Gl} (hw : Tb E) {x : Cx} {T : State} {h : Heap} (hQ : x.Q = fun r _ _ => r = some (.int 1)) (B : Is x "com/example/fordring/fordring/account/PaymentReferenceForCustomerPinLaw" code 16 ({ frames := 10, cells := 56, slots := 2496, locals := 224 } : Room) (some .boolean) "law") {p0 m v : Int64} {p1 : Int32} {n : Nat} (h1 : 1 ≤ n) (hn : n ≤ 14) {d : Nat → Nat} (hd : ∀ k, d k ≤ 9) (h0 : ∀ k, n ≤ k → d k = 0) {pa ra : Addr} {kr : ClassId} (Ar : Arv E.Z h ra kr .int (14 : Int32) [(.int (d 0).toInt32), (.int (d 1).toInt32), (.int (d 2).toInt32), (.int (d 3).toInt32), (.int (d 4).toInt32), (.int (d 5).toInt32), (.int (d 6).toInt32), (.int (d 7).toInt32), (.int (d 8).toInt32), (.int (d 9).toInt32), (.int (d 10).toInt32), (.int (d 11).toInt32), (.int (d 12).toInt32), (.int (d 13).toInt32)] (.int (0 : Int32))) {ca : Addr} {kc : ClassId} {vs : List Value} (hra : ra ≠ ca) (Ac : Arv E.Z h ca kc .char n.toInt32 vs (.int 0)) (hvl : vs.length = n) (hvs : ∀ j, j < 7 → j < n → vs.getD (n - 1 - j) (.int 0) = .int (dc (d j))) (W : Wk E x T h [ca] 3 42) : G E x T (fr x 479 #[.val (.long p0), .second, .val (.int p1), .val (.ref pa), .val (.int n.toInt32), .val (.long m), .second, .val (.long v), .second, .val (.ref ra), .val (.ref ca), .unset, .unset, .unset, .unset, .unset] []) := by
  refine w_iload W B d_law_479 rfl ?_
  refine w_bipush W B d_law_481 (v := (7 : Int32)) rfl ?_
  by_cases hk : 7 < n
  ·
    refine w_icmp_le W B d_law_483 (fun q => q ((n_lt (i := 7) (by decide) (by omega)).mpr hk) |>.elim) (fun _ => ?_)
    show G E x T (fr x 486 #[.val (.long p0), .second, .val (.int p1), .val (.ref pa), .val (.int n.toInt32), .val (.long m), .second, .val (.long v), .second, .val (.ref ra), .val (.ref ca), .unset, .unset, .unset, .unset, .unset] [])
    refine w_aload W B d_law_486 rfl rfl ?_
    refine w_iload W B d_law_488 rfl ?_
    refine w_bipush W B d_law_490 (v := (8 : Int32)) rfl ?_
    refine w_isub W B d_law_492 ?_
    rw [show n.toInt32 - (8 : Int32) = (n - 8).toInt32 from n_sub (j := 8) (by omega) (by omega)]
    show G E x T (fr x 493 #[.val (.long p0), .second, .val (.int p1), .val (.ref pa), .val (.int n.toInt32), .val (.long m), .second, .val (.long v), .second, .val (.ref ra), .val (.ref ca), .unset, .unset, .unset, .unset, .unset] [(.int (n - 8).toInt32), (.ref ca)])
    refine w_bipush W B d_law_493 (v := (48 : Int32)) rfl ?_
    refine w_aload W B d_law_495 rfl rfl ?_
    refine w_bipush W B d_law_497 (v := (7 : Int32)) rfl ?_
    refine w_iaload W B d_law_499 Ar ⟨by decide, by decide⟩ (v := (.int (d 7).toInt32)) rfl ?_
    refine w_iadd W B d_law_500 ?_
    refine w_i2c W B d_law_501 ?_
    rw [dc_i2c (hd 7)]
    show G E x T (fr x 502 #[.val (.long p0), .second, .val (.int p1), .val (.ref pa), .val (.int n.toInt32), .val (.long m), .second, .val (.long v), .second, .val (.ref ra), .val (.ref ca), .unset, .unset, .unset, .unset, .unset] [(.int (dc (d 7))), (.int (n - 8).toInt32), (.ref ca)])
    refine w_castore W B d_law_502 (List.Mem.head _) Ac ⟨n_nn (by omega), (n_lt (by omega) (by omega)).mpr (by omega)⟩ (i := n - 8) (n_clamp (by omega)) (by omega) (u := dc (d 7)) (nar_dc (hd _)) ?_
    intro T2 h2 W2 K2 A2
    show G E x T2 (fr x 503 #[.val (.long p0), .second, .val (.int p1), .val (.ref pa), .val (.int n.toInt32), .val (.long m), .second, .val (.long v), .second, .val (.ref ra), .val (.ref ca), .unset, .unset, .unset, .unset, .unset] [])
    exact B8 hw hQ B h1 hn hd h0 (Ar.keep K2 (ninS hra nin0)) hra A2 (by rw [List.length_set]; exact hvl) (c_step hvl (by omega) hvs) W2
  ·
    refine w_icmp_le W B d_law_483 (fun _ => ?_) (fun q => absurd q (fun q => hk ((n_lt (i := 7) (by decide) (by omega)).mp q)))
    show G E x T (fr x 503 #[.val (.long p0), .second, .val (.int p1), .val (.ref pa), .val (.int n.toInt32), .val (.long m), .second, .val (.long v), .second, .val (.ref ra), .val (.ref ca), .unset, .unset, .unset, .unset, .unset] [])
    exact B8 hw hQ B h1 hn hd h0 Ar hra Ac hvl (fun j q1 q2 => hvs j (by omega) q2) W
set_option maxRecDepth 65536 in
set_option maxHeartbeats 4000000 in
theorem B6 {E : Gl} (hw : Tb E) {x : Cx} {T : State} {h : Heap} (hQ : x.Q = fun r _ _ => r = some (.int 1)) (B : Is x "com/example/fordring/fordring/account/PaymentReferenceForCustomerPinLaw" code 16 ({ frames := 10, cells := 56, slots := 2496, locals := 224 } : Room) (some .boolean) "law") {p0 m v : Int64} {p1 : Int32} {n : Nat} (h1 : 1 ≤ n) (hn : n ≤ 14) {d : Nat → Nat} (hd : ∀ k, d k ≤ 9) (h0 : ∀ k, n ≤ k → d k = 0) {pa ra : Addr} {kr : ClassId} (Ar : Arv E.Z h ra kr .int (14 : Int32) [(.int (d 0).toInt32), (.int (d 1).toInt32), (.int (d 2).toInt32), (.int (d 3).toInt32), (.int (d 4).toInt32), (.int (d 5).toInt32), (.int (d 6).toInt32), (.int (d 7).toInt32), (.int (d 8).toInt32), (.int (d 9).toInt32), (.int (d 10).toInt32), (.int (d 11).toInt32), (.int (d 12).toInt32), (.int (d 13).toInt32)] (.int (0 : Int32))) {ca : Addr} {kc : ClassId} {vs : List Value} (hra : ra ≠ ca) (Ac : Arv E.Z h ca kc .char n.toInt32 vs (.int 0)) (hvl : vs.length = n) (hvs : ∀ j, j < 6 → j < n → vs.getD (n - 1 - j) (.int 0) = .int (dc (d j))) (W : Wk E x T h [ca] 3 42) : G E x T (fr x 455 #[.val (.long p0), .second, .val (.int p1), .val (.ref pa), .val (.int n.toInt32), .val (.long m), .second, .val (.long v), .second, .val (.ref ra), .val (.ref ca), .unset, .unset, .unset, .unset, .unset] []) := by
  refine w_iload W B d_law_455 rfl ?_
  refine w_bipush W B d_law_457 (v := (6 : Int32)) rfl ?_
  by_cases hk : 6 < n
  ·
    refine w_icmp_le W B d_law_459 (fun q => q ((n_lt (i := 6) (by decide) (by omega)).mpr hk) |>.elim) (fun _ => ?_)
    show G E x T (fr x 462 #[.val (.long p0), .second, .val (.int p1), .val (.ref pa), .val (.int n.toInt32), .val (.long m), .second, .val (.long v), .second, .val (.ref ra), .val (.ref ca), .unset, .unset, .unset, .unset, .unset] [])
    refine w_aload W B d_law_462 rfl rfl ?_
    refine w_iload W B d_law_464 rfl ?_
    refine w_bipush W B d_law_466 (v := (7 : Int32)) rfl ?_
    refine w_isub W B d_law_468 ?_
    rw [show n.toInt32 - (7 : Int32) = (n - 7).toInt32 from n_sub (j := 7) (by omega) (by omega)]
    show G E x T (fr x 469 #[.val (.long p0), .second, .val (.int p1), .val (.ref pa), .val (.int n.toInt32), .val (.long m), .second, .val (.long v), .second, .val (.ref ra), .val (.ref ca), .unset, .unset, .unset, .unset, .unset] [(.int (n - 7).toInt32), (.ref ca)])
    refine w_bipush W B d_law_469 (v := (48 : Int32)) rfl ?_
    refine w_aload W B d_law_471 rfl rfl ?_
    refine w_bipush W B d_law_473 (v := (6 : Int32)) rfl ?_
    refine w_iaload W B d_law_475 Ar ⟨by decide, by decide⟩ (v := (.int (d 6).toInt32)) rfl ?_
    refine w_iadd W B d_law_476 ?_
    refine w_i2c W B d_law_477 ?_
    rw [dc_i2c (hd 6)]
    show G E x T (fr x 478 #[.val (.long p0), .second, .val (.int p1), .val (.ref pa), .val (.int n.toInt32), .val (.long m), .second, .val (.long v), .second, .val (.ref ra), .val (.ref ca), .unset, .unset, .unset, .unset, .unset] [(.int (dc (d 6))), (.int (n - 7).toInt32), (.ref ca)])
    refine w_castore W B d_law_478 (List.Mem.head _) Ac ⟨n_nn (by omega), (n_lt (by omega) (by omega)).mpr (by omega)⟩ (i := n - 7) (n_clamp (by omega)) (by omega) (u := dc (d 6)) (nar_dc (hd _)) ?_
    intro T2 h2 W2 K2 A2
    show G E x T2 (fr x 479 #[.val (.long p0), .second, .val (.int p1), .val (.ref pa), .val (.int n.toInt32), .val (.long m), .second, .val (.long v), .second, .val (.ref ra), .val (.ref ca), .unset, .unset, .unset, .unset, .unset] [])
    exact B7 hw hQ B h1 hn hd h0 (Ar.keep K2 (ninS hra nin0)) hra A2 (by rw [List.length_set]; exact hvl) (c_step hvl (by omega) hvs) W2
  ·
    refine w_icmp_le W B d_law_459 (fun _ => ?_) (fun q => absurd q (fun q => hk ((n_lt (i := 6) (by decide) (by omega)).mp q)))
    show G E x T (fr x 479 #[.val (.long p0), .second, .val (.int p1), .val (.ref pa), .val (.int n.toInt32), .val (.long m), .second, .val (.long v), .second, .val (.ref ra), .val (.ref ca), .unset, .unset, .unset, .unset, .unset] [])
    exact B7 hw hQ B h1 hn hd h0 Ar hra Ac hvl (fun j q1 q2 => hvs j (by omega) q2) W
set_option maxRecDepth 65536 in
set_option maxHeartbeats 4000000 in
theorem B5 {E : Gl} (hw : Tb E) {x : Cx} {T : State} {h : Heap} (hQ : x.Q = fun r _ _ => r = some (.int 1)) (B : Is x "com/example/fordring/fordring/account/PaymentReferenceForCustomerPinLaw" code 16 ({ frames := 10, cells := 56, slots := 2496, locals := 224 } : Room) (some .boolean) "law") {p0 m v : Int64} {p1 : Int32} {n : Nat} (h1 : 1 ≤ n) (hn : n ≤ 14) {d : Nat → Nat} (hd : ∀ k, d k ≤ 9) (h0 : ∀ k, n ≤ k → d k = 0) {pa ra : Addr} {kr : ClassId} (Ar : Arv E.Z h ra kr .int (14 : Int32) [(.int (d 0).toInt32), (.int (d 1).toInt32), (.int (d 2).toInt32), (.int (d 3).toInt32), (.int (d 4).toInt32), (.int (d 5).toInt32), (.int (d 6).toInt32), (.int (d 7).toInt32), (.int (d 8).toInt32), (.int (d 9).toInt32), (.int (d 10).toInt32), (.int (d 11).toInt32), (.int (d 12).toInt32), (.int (d 13).toInt32)] (.int (0 : Int32))) {ca : Addr} {kc : ClassId} {vs : List Value} (hra : ra ≠ ca) (Ac : Arv E.Z h ca kc .char n.toInt32 vs (.int 0)) (hvl : vs.length = n) (hvs : ∀ j, j < 5 → j < n → vs.getD (n - 1 - j) (.int 0) = .int (dc (d j))) (W : Wk E x T h [ca] 3 42) : G E x T (fr x 433 #[.val (.long p0), .second, .val (.int p1), .val (.ref pa), .val (.int n.toInt32), .val (.long m), .second, .val (.long v), .second, .val (.ref ra), .val (.ref ca), .unset, .unset, .unset, .unset, .unset] []) := by
  refine w_iload W B d_law_433 rfl ?_
  refine w_iconst W B d_law_435 (v := (5 : Int32)) rfl ?_
  by_cases hk : 5 < n
  ·
    refine w_icmp_le W B d_law_436 (fun q => q ((n_lt (i := 5) (by decide) (by omega)).mpr hk) |>.elim) (fun _ => ?_)
    show G E x T (fr x 439 #[.val (.long p0), .second, .val (.int p1), .val (.ref pa), .val (.int n.toInt32), .val (.long m), .second, .val (.long v), .second, .val (.ref ra), .val (.ref ca), .unset, .unset, .unset, .unset, .unset] [])
    refine w_aload W B d_law_439 rfl rfl ?_
    refine w_iload W B d_law_441 rfl ?_
    refine w_bipush W B d_law_443 (v := (6 : Int32)) rfl ?_
    refine w_isub W B d_law_445 ?_
    rw [show n.toInt32 - (6 : Int32) = (n - 6).toInt32 from n_sub (j := 6) (by omega) (by omega)]
    show G E x T (fr x 446 #[.val (.long p0), .second, .val (.int p1), .val (.ref pa), .val (.int n.toInt32), .val (.long m), .second, .val (.long v), .second, .val (.ref ra), .val (.ref ca), .unset, .unset, .unset, .unset, .unset] [(.int (n - 6).toInt32), (.ref ca)])
    refine w_bipush W B d_law_446 (v := (48 : Int32)) rfl ?_
    refine w_aload W B d_law_448 rfl rfl ?_
    refine w_iconst W B d_law_450 (v := (5 : Int32)) rfl ?_
    refine w_iaload W B d_law_451 Ar ⟨by decide, by decide⟩ (v := (.int (d 5).toInt32)) rfl ?_
    refine w_iadd W B d_law_452 ?_
    refine w_i2c W B d_law_453 ?_
    rw [dc_i2c (hd 5)]
    show G E x T (fr x 454 #[.val (.long p0), .second, .val (.int p1), .val (.ref pa), .val (.int n.toInt32), .val (.long m), .second, .val (.long v), .second, .val (.ref ra), .val (.ref ca), .unset, .unset, .unset, .unset, .unset] [(.int (dc (d 5))), (.int (n - 6).toInt32), (.ref ca)])
    refine w_castore W B d_law_454 (List.Mem.head _) Ac ⟨n_nn (by omega), (n_lt (by omega) (by omega)).mpr (by omega)⟩ (i := n - 6) (n_clamp (by omega)) (by omega) (u := dc (d 5)) (nar_dc (hd _)) ?_
    intro T2 h2 W2 K2 A2
    show G E x T2 (fr x 455 #[.val (.long p0), .second, .val (.int p1), .val (.ref pa), .val (.int n.toInt32), .val (.long m), .second, .val (.long v), .second, .val (.ref ra), .val (.ref ca), .unset, .unset, .unset, .unset, .unset] [])
    exact B6 hw hQ B h1 hn hd h0 (Ar.keep K2 (ninS hra nin0)) hra A2 (by rw [List.length_set]; exact hvl) (c_step hvl (by omega) hvs) W2
  ·
    refine w_icmp_le W B d_law_436 (fun _ => ?_) (fun q => absurd q (fun q => hk ((n_lt (i := 5) (by decide) (by omega)).mp q)))
    show G E x T (fr x 455 #[.val (.long p0), .second, .val (.int p1), .val (.ref pa), .val (.int n.toInt32), .val (.long m), .second, .val (.long v), .second, .val (.ref ra), .val (.ref ca), .unset, .unset, .unset, .unset, .unset] [])
    exact B6 hw hQ B h1 hn hd h0 Ar hra Ac hvl (fun j q1 q2 => hvs j (by omega) q2) W
set_option maxRecDepth 65536 in
set_option maxHeartbeats 4000000 in
theorem B4 {E : Gl} (hw : Tb E) {x : Cx} {T : State} {h : Heap} (hQ : x.Q = fun r _ _ => r = some (.int 1)) (B : Is x "com/example/fordring/fordring/account/PaymentReferenceForCustomerPinLaw" code 16 ({ frames := 10, cells := 56, slots := 2496, locals := 224 } : Room) (some .boolean) "law") {p0 m v : Int64} {p1 : Int32} {n : Nat} (h1 : 1 ≤ n) (hn : n ≤ 14) {d : Nat → Nat} (hd : ∀ k, d k ≤ 9) (h0 : ∀ k, n ≤ k → d k = 0) {pa ra : Addr} {kr : ClassId} (Ar : Arv E.Z h ra kr .int (14 : Int32) [(.int (d 0).toInt32), (.int (d 1).toInt32), (.int (d 2).toInt32), (.int (d 3).toInt32), (.int (d 4).toInt32), (.int (d 5).toInt32), (.int (d 6).toInt32), (.int (d 7).toInt32), (.int (d 8).toInt32), (.int (d 9).toInt32), (.int (d 10).toInt32), (.int (d 11).toInt32), (.int (d 12).toInt32), (.int (d 13).toInt32)] (.int (0 : Int32))) {ca : Addr} {kc : ClassId} {vs : List Value} (hra : ra ≠ ca) (Ac : Arv E.Z h ca kc .char n.toInt32 vs (.int 0)) (hvl : vs.length = n) (hvs : ∀ j, j < 4 → j < n → vs.getD (n - 1 - j) (.int 0) = .int (dc (d j))) (W : Wk E x T h [ca] 3 42) : G E x T (fr x 412 #[.val (.long p0), .second, .val (.int p1), .val (.ref pa), .val (.int n.toInt32), .val (.long m), .second, .val (.long v), .second, .val (.ref ra), .val (.ref ca), .unset, .unset, .unset, .unset, .unset] []) := by
  refine w_iload W B d_law_412 rfl ?_
  refine w_iconst W B d_law_414 (v := (4 : Int32)) rfl ?_
  by_cases hk : 4 < n
  ·
    refine w_icmp_le W B d_law_415 (fun q => q ((n_lt (i := 4) (by decide) (by omega)).mpr hk) |>.elim) (fun _ => ?_)
    show G E x T (fr x 418 #[.val (.long p0), .second, .val (.int p1), .val (.ref pa), .val (.int n.toInt32), .val (.long m), .second, .val (.long v), .second, .val (.ref ra), .val (.ref ca), .unset, .unset, .unset, .unset, .unset] [])
    refine w_aload W B d_law_418 rfl rfl ?_
    refine w_iload W B d_law_420 rfl ?_
    refine w_iconst W B d_law_422 (v := (5 : Int32)) rfl ?_
    refine w_isub W B d_law_423 ?_
    rw [show n.toInt32 - (5 : Int32) = (n - 5).toInt32 from n_sub (j := 5) (by omega) (by omega)]
    show G E x T (fr x 424 #[.val (.long p0), .second, .val (.int p1), .val (.ref pa), .val (.int n.toInt32), .val (.long m), .second, .val (.long v), .second, .val (.ref ra), .val (.ref ca), .unset, .unset, .unset, .unset, .unset] [(.int (n - 5).toInt32), (.ref ca)])
    refine w_bipush W B d_law_424 (v := (48 : Int32)) rfl ?_
    refine w_aload W B d_law_426 rfl rfl ?_
    refine w_iconst W B d_law_428 (v := (4 : Int32)) rfl ?_
    refine w_iaload W B d_law_429 Ar ⟨by decide, by decide⟩ (v := (.int (d 4).toInt32)) rfl ?_
    refine w_iadd W B d_law_430 ?_
    refine w_i2c W B d_law_431 ?_
    rw [dc_i2c (hd 4)]
    show G E x T (fr x 432 #[.val (.long p0), .second, .val (.int p1), .val (.ref pa), .val (.int n.toInt32), .val (.long m), .second, .val (.long v), .second, .val (.ref ra), .val (.ref ca), .unset, .unset, .unset, .unset, .unset] [(.int (dc (d 4))), (.int (n - 5).toInt32), (.ref ca)])
    refine w_castore W B d_law_432 (List.Mem.head _) Ac ⟨n_nn (by omega), (n_lt (by omega) (by omega)).mpr (by omega)⟩ (i := n - 5) (n_clamp (by omega)) (by omega) (u := dc (d 4)) (nar_dc (hd _)) ?_
    intro T2 h2 W2 K2 A2
    show G E x T2 (fr x 433 #[.val (.long p0), .second, .val (.int p1), .val (.ref pa), .val (.int n.toInt32), .val (.long m), .second, .val (.long v), .second, .val (.ref ra), .val (.ref ca), .unset, .unset, .unset, .unset, .unset] [])
    exact B5 hw hQ B h1 hn hd h0 (Ar.keep K2 (ninS hra nin0)) hra A2 (by rw [List.length_set]; exact hvl) (c_step hvl (by omega) hvs) W2
  ·
    refine w_icmp_le W B d_law_415 (fun _ => ?_) (fun q => absurd q (fun q => hk ((n_lt (i := 4) (by decide) (by omega)).mp q)))
    show G E x T (fr x 433 #[.val (.long p0), .second, .val (.int p1), .val (.ref pa), .val (.int n.toInt32), .val (.long m), .second, .val (.long v), .second, .val (.ref ra), .val (.ref ca), .unset, .unset, .unset, .unset, .unset] [])
    exact B5 hw hQ B h1 hn hd h0 Ar hra Ac hvl (fun j q1 q2 => hvs j (by omega) q2) W
set_option maxRecDepth 65536 in
set_option maxHeartbeats 4000000 in
theorem B3 {E : Gl} (hw : Tb E) {x : Cx} {T : State} {h : Heap} (hQ : x.Q = fun r _ _ => r = some (.int 1)) (B : Is x "com/example/fordring/fordring/account/PaymentReferenceForCustomerPinLaw" code 16 ({ frames := 10, cells := 56, slots := 2496, locals := 224 } : Room) (some .boolean) "law") {p0 m v : Int64} {p1 : Int32} {n : Nat} (h1 : 1 ≤ n) (hn : n ≤ 14) {d : Nat → Nat} (hd : ∀ k, d k ≤ 9) (h0 : ∀ k, n ≤ k → d k = 0) {pa ra : Addr} {kr : ClassId} (Ar : Arv E.Z h ra kr .int (14 : Int32) [(.int (d 0).toInt32), (.int (d 1).toInt32), (.int (d 2).toInt32), (.int (d 3).toInt32), (.int (d 4).toInt32), (.int (d 5).toInt32), (.int (d 6).toInt32), (.int (d 7).toInt32), (.int (d 8).toInt32), (.int (d 9).toInt32), (.int (d 10).toInt32), (.int (d 11).toInt32), (.int (d 12).toInt32), (.int (d 13).toInt32)] (.int (0 : Int32))) {ca : Addr} {kc : ClassId} {vs : List Value} (hra : ra ≠ ca) (Ac : Arv E.Z h ca kc .char n.toInt32 vs (.int 0)) (hvl : vs.length = n) (hvs : ∀ j, j < 3 → j < n → vs.getD (n - 1 - j) (.int 0) = .int (dc (d j))) (W : Wk E x T h [ca] 3 42) : G E x T (fr x 391 #[.val (.long p0), .second, .val (.int p1), .val (.ref pa), .val (.int n.toInt32), .val (.long m), .second, .val (.long v), .second, .val (.ref ra), .val (.ref ca), .unset, .unset, .unset, .unset, .unset] []) := by
  refine w_iload W B d_law_391 rfl ?_
  refine w_iconst W B d_law_393 (v := (3 : Int32)) rfl ?_
  by_cases hk : 3 < n
  ·
    refine w_icmp_le W B d_law_394 (fun q => q ((n_lt (i := 3) (by decide) (by omega)).mpr hk) |>.elim) (fun _ => ?_)
    show G E x T (fr x 397 #[.val (.long p0), .second, .val (.int p1), .val (.ref pa), .val (.int n.toInt32), .val (.long m), .second, .val (.long v), .second, .val (.ref ra), .val (.ref ca), .unset, .unset, .unset, .unset, .unset] [])
    refine w_aload W B d_law_397 rfl rfl ?_
    refine w_iload W B d_law_399 rfl ?_
    refine w_iconst W B d_law_401 (v := (4 : Int32)) rfl ?_
    refine w_isub W B d_law_402 ?_
    rw [show n.toInt32 - (4 : Int32) = (n - 4).toInt32 from n_sub (j := 4) (by omega) (by omega)]
    show G E x T (fr x 403 #[.val (.long p0), .second, .val (.int p1), .val (.ref pa), .val (.int n.toInt32), .val (.long m), .second, .val (.long v), .second, .val (.ref ra), .val (.ref ca), .unset, .unset, .unset, .unset, .unset] [(.int (n - 4).toInt32), (.ref ca)])
    refine w_bipush W B d_law_403 (v := (48 : Int32)) rfl ?_
    refine w_aload W B d_law_405 rfl rfl ?_
    refine w_iconst W B d_law_407 (v := (3 : Int32)) rfl ?_
    refine w_iaload W B d_law_408 Ar ⟨by decide, by decide⟩ (v := (.int (d 3).toInt32)) rfl ?_
    refine w_iadd W B d_law_409 ?_
    refine w_i2c W B d_law_410 ?_
    rw [dc_i2c (hd 3)]
    show G E x T (fr x 411 #[.val (.long p0), .second, .val (.int p1), .val (.ref pa), .val (.int n.toInt32), .val (.long m), .second, .val (.long v), .second, .val (.ref ra), .val (.ref ca), .unset, .unset, .unset, .unset, .unset] [(.int (dc (d 3))), (.int (n - 4).toInt32), (.ref ca)])
    refine w_castore W B d_law_411 (List.Mem.head _) Ac ⟨n_nn (by omega), (n_lt (by omega) (by omega)).mpr (by omega)⟩ (i := n - 4) (n_clamp (by omega)) (by omega) (u := dc (d 3)) (nar_dc (hd _)) ?_
    intro T2 h2 W2 K2 A2
    show G E x T2 (fr x 412 #[.val (.long p0), .second, .val (.int p1), .val (.ref pa), .val (.int n.toInt32), .val (.long m), .second, .val (.long v), .second, .val (.ref ra), .val (.ref ca), .unset, .unset, .unset, .unset, .unset] [])
    exact B4 hw hQ B h1 hn hd h0 (Ar.keep K2 (ninS hra nin0)) hra A2 (by rw [List.length_set]; exact hvl) (c_step hvl (by omega) hvs) W2
  ·
    refine w_icmp_le W B d_law_394 (fun _ => ?_) (fun q => absurd q (fun q => hk ((n_lt (i := 3) (by decide) (by omega)).mp q)))
    show G E x T (fr x 412 #[.val (.long p0), .second, .val (.int p1), .val (.ref pa), .val (.int n.toInt32), .val (.long m), .second, .val (.long v), .second, .val (.ref ra), .val (.ref ca), .unset, .unset, .unset, .unset, .unset] [])
    exact B4 hw hQ B h1 hn hd h0 Ar hra Ac hvl (fun j q1 q2 => hvs j (by omega) q2) W
set_option maxRecDepth 65536 in
set_option maxHeartbeats 4000000 in
theorem B2 {E : Gl} (hw : Tb E) {x : Cx} {T : State} {h : Heap} (hQ : x.Q = fun r _ _ => r = some (.int 1)) (B : Is x "com/example/fordring/fordring/account/PaymentReferenceForCustomerPinLaw" code 16 ({ frames := 10, cells := 56, slots := 2496, locals := 224 } : Room) (some .boolean) "law") {p0 m v : Int64} {p1 : Int32} {n : Nat} (h1 : 1 ≤ n) (hn : n ≤ 14) {d : Nat → Nat} (hd : ∀ k, d k ≤ 9) (h0 : ∀ k, n ≤ k → d k = 0) {pa ra : Addr} {kr : ClassId} (Ar : Arv E.Z h ra kr .int (14 : Int32) [(.int (d 0).toInt32), (.int (d 1).toInt32), (.int (d 2).toInt32), (.int (d 3).toInt32), (.int (d 4).toInt32), (.int (d 5).toInt32), (.int (d 6).toInt32), (.int (d 7).toInt32), (.int (d 8).toInt32), (.int (d 9).toInt32), (.int (d 10).toInt32), (.int (d 11).toInt32), (.int (d 12).toInt32), (.int (d 13).toInt32)] (.int (0 : Int32))) {ca : Addr} {kc : ClassId} {vs : List Value} (hra : ra ≠ ca) (Ac : Arv E.Z h ca kc .char n.toInt32 vs (.int 0)) (hvl : vs.length = n) (hvs : ∀ j, j < 2 → j < n → vs.getD (n - 1 - j) (.int 0) = .int (dc (d j))) (W : Wk E x T h [ca] 3 42) : G E x T (fr x 370 #[.val (.long p0), .second, .val (.int p1), .val (.ref pa), .val (.int n.toInt32), .val (.long m), .second, .val (.long v), .second, .val (.ref ra), .val (.ref ca), .unset, .unset, .unset, .unset, .unset] []) := by
  refine w_iload W B d_law_370 rfl ?_
  refine w_iconst W B d_law_372 (v := (2 : Int32)) rfl ?_
  by_cases hk : 2 < n
  ·
    refine w_icmp_le W B d_law_373 (fun q => q ((n_lt (i := 2) (by decide) (by omega)).mpr hk) |>.elim) (fun _ => ?_)
    show G E x T (fr x 376 #[.val (.long p0), .second, .val (.int p1), .val (.ref pa), .val (.int n.toInt32), .val (.long m), .second, .val (.long v), .second, .val (.ref ra), .val (.ref ca), .unset, .unset, .unset, .unset, .unset] [])
    refine w_aload W B d_law_376 rfl rfl ?_
    refine w_iload W B d_law_378 rfl ?_
    refine w_iconst W B d_law_380 (v := (3 : Int32)) rfl ?_
    refine w_isub W B d_law_381 ?_
    rw [show n.toInt32 - (3 : Int32) = (n - 3).toInt32 from n_sub (j := 3) (by omega) (by omega)]
    show G E x T (fr x 382 #[.val (.long p0), .second, .val (.int p1), .val (.ref pa), .val (.int n.toInt32), .val (.long m), .second, .val (.long v), .second, .val (.ref ra), .val (.ref ca), .unset, .unset, .unset, .unset, .unset] [(.int (n - 3).toInt32), (.ref ca)])
    refine w_bipush W B d_law_382 (v := (48 : Int32)) rfl ?_
    refine w_aload W B d_law_384 rfl rfl ?_
    refine w_iconst W B d_law_386 (v := (2 : Int32)) rfl ?_
    refine w_iaload W B d_law_387 Ar ⟨by decide, by decide⟩ (v := (.int (d 2).toInt32)) rfl ?_
    refine w_iadd W B d_law_388 ?_
    refine w_i2c W B d_law_389 ?_
    rw [dc_i2c (hd 2)]
    show G E x T (fr x 390 #[.val (.long p0), .second, .val (.int p1), .val (.ref pa), .val (.int n.toInt32), .val (.long m), .second, .val (.long v), .second, .val (.ref ra), .val (.ref ca), .unset, .unset, .unset, .unset, .unset] [(.int (dc (d 2))), (.int (n - 3).toInt32), (.ref ca)])
    refine w_castore W B d_law_390 (List.Mem.head _) Ac ⟨n_nn (by omega), (n_lt (by omega) (by omega)).mpr (by omega)⟩ (i := n - 3) (n_clamp (by omega)) (by omega) (u := dc (d 2)) (nar_dc (hd _)) ?_
    intro T2 h2 W2 K2 A2
    show G E x T2 (fr x 391 #[.val (.long p0), .second, .val (.int p1), .val (.ref pa), .val (.int n.toInt32), .val (.long m), .second, .val (.long v), .second, .val (.ref ra), .val (.ref ca), .unset, .unset, .unset, .unset, .unset] [])
    exact B3 hw hQ B h1 hn hd h0 (Ar.keep K2 (ninS hra nin0)) hra A2 (by rw [List.length_set]; exact hvl) (c_step hvl (by omega) hvs) W2
  ·
    refine w_icmp_le W B d_law_373 (fun _ => ?_) (fun q => absurd q (fun q => hk ((n_lt (i := 2) (by decide) (by omega)).mp q)))
    show G E x T (fr x 391 #[.val (.long p0), .second, .val (.int p1), .val (.ref pa), .val (.int n.toInt32), .val (.long m), .second, .val (.long v), .second, .val (.ref ra), .val (.ref ca), .unset, .unset, .unset, .unset, .unset] [])
    exact B3 hw hQ B h1 hn hd h0 Ar hra Ac hvl (fun j q1 q2 => hvs j (by omega) q2) W
set_option maxRecDepth 65536 in
set_option maxHeartbeats 4000000 in
theorem B1 {E : Gl} (hw : Tb E) {x : Cx} {T : State} {h : Heap} (hQ : x.Q = fun r _ _ => r = some (.int 1)) (B : Is x "com/example/fordring/fordring/account/PaymentReferenceForCustomerPinLaw" code 16 ({ frames := 10, cells := 56, slots := 2496, locals := 224 } : Room) (some .boolean) "law") {p0 m v : Int64} {p1 : Int32} {n : Nat} (h1 : 1 ≤ n) (hn : n ≤ 14) {d : Nat → Nat} (hd : ∀ k, d k ≤ 9) (h0 : ∀ k, n ≤ k → d k = 0) {pa ra : Addr} {kr : ClassId} (Ar : Arv E.Z h ra kr .int (14 : Int32) [(.int (d 0).toInt32), (.int (d 1).toInt32), (.int (d 2).toInt32), (.int (d 3).toInt32), (.int (d 4).toInt32), (.int (d 5).toInt32), (.int (d 6).toInt32), (.int (d 7).toInt32), (.int (d 8).toInt32), (.int (d 9).toInt32), (.int (d 10).toInt32), (.int (d 11).toInt32), (.int (d 12).toInt32), (.int (d 13).toInt32)] (.int (0 : Int32))) {ca : Addr} {kc : ClassId} {vs : List Value} (hra : ra ≠ ca) (Ac : Arv E.Z h ca kc .char n.toInt32 vs (.int 0)) (hvl : vs.length = n) (hvs : ∀ j, j < 1 → j < n → vs.getD (n - 1 - j) (.int 0) = .int (dc (d j))) (W : Wk E x T h [ca] 3 42) : G E x T (fr x 349 #[.val (.long p0), .second, .val (.int p1), .val (.ref pa), .val (.int n.toInt32), .val (.long m), .second, .val (.long v), .second, .val (.ref ra), .val (.ref ca), .unset, .unset, .unset, .unset, .unset] []) := by
  refine w_iload W B d_law_349 rfl ?_
  refine w_iconst W B d_law_351 (v := (1 : Int32)) rfl ?_
  by_cases hk : 1 < n
  ·
    refine w_icmp_le W B d_law_352 (fun q => q ((n_lt (i := 1) (by decide) (by omega)).mpr hk) |>.elim) (fun _ => ?_)
    show G E x T (fr x 355 #[.val (.long p0), .second, .val (.int p1), .val (.ref pa), .val (.int n.toInt32), .val (.long m), .second, .val (.long v), .second, .val (.ref ra), .val (.ref ca), .unset, .unset, .unset, .unset, .unset] [])
    refine w_aload W B d_law_355 rfl rfl ?_
    refine w_iload W B d_law_357 rfl ?_
    refine w_iconst W B d_law_359 (v := (2 : Int32)) rfl ?_
    refine w_isub W B d_law_360 ?_
    rw [show n.toInt32 - (2 : Int32) = (n - 2).toInt32 from n_sub (j := 2) (by omega) (by omega)]
    show G E x T (fr x 361 #[.val (.long p0), .second, .val (.int p1), .val (.ref pa), .val (.int n.toInt32), .val (.long m), .second, .val (.long v), .second, .val (.ref ra), .val (.ref ca), .unset, .unset, .unset, .unset, .unset] [(.int (n - 2).toInt32), (.ref ca)])
    refine w_bipush W B d_law_361 (v := (48 : Int32)) rfl ?_
    refine w_aload W B d_law_363 rfl rfl ?_
    refine w_iconst W B d_law_365 (v := (1 : Int32)) rfl ?_
    refine w_iaload W B d_law_366 Ar ⟨by decide, by decide⟩ (v := (.int (d 1).toInt32)) rfl ?_
    refine w_iadd W B d_law_367 ?_
    refine w_i2c W B d_law_368 ?_
    rw [dc_i2c (hd 1)]
    show G E x T (fr x 369 #[.val (.long p0), .second, .val (.int p1), .val (.ref pa), .val (.int n.toInt32), .val (.long m), .second, .val (.long v), .second, .val (.ref ra), .val (.ref ca), .unset, .unset, .unset, .unset, .unset] [(.int (dc (d 1))), (.int (n - 2).toInt32), (.ref ca)])
    refine w_castore W B d_law_369 (List.Mem.head _) Ac ⟨n_nn (by omega), (n_lt (by omega) (by omega)).mpr (by omega)⟩ (i := n - 2) (n_clamp (by omega)) (by omega) (u := dc (d 1)) (nar_dc (hd _)) ?_
    intro T2 h2 W2 K2 A2
    show G E x T2 (fr x 370 #[.val (.long p0), .second, .val (.int p1), .val (.ref pa), .val (.int n.toInt32), .val (.long m), .second, .val (.long v), .second, .val (.ref ra), .val (.ref ca), .unset, .unset, .unset, .unset, .unset] [])
    exact B2 hw hQ B h1 hn hd h0 (Ar.keep K2 (ninS hra nin0)) hra A2 (by rw [List.length_set]; exact hvl) (c_step hvl (by omega) hvs) W2
  ·
    refine w_icmp_le W B d_law_352 (fun _ => ?_) (fun q => absurd q (fun q => hk ((n_lt (i := 1) (by decide) (by omega)).mp q)))
    show G E x T (fr x 370 #[.val (.long p0), .second, .val (.int p1), .val (.ref pa), .val (.int n.toInt32), .val (.long m), .second, .val (.long v), .second, .val (.ref ra), .val (.ref ca), .unset, .unset, .unset, .unset, .unset] [])
    exact B2 hw hQ B h1 hn hd h0 Ar hra Ac hvl (fun j q1 q2 => hvs j (by omega) q2) W
set_option maxRecDepth 65536 in
set_option maxHeartbeats 4000000 in
theorem B0 {E : Gl} (hw : Tb E) {x : Cx} {T : State} {h : Heap} (hQ : x.Q = fun r _ _ => r = some (.int 1)) (B : Is x "com/example/fordring/fordring/account/PaymentReferenceForCustomerPinLaw" code 16 ({ frames := 10, cells := 56, slots := 2496, locals := 224 } : Room) (some .boolean) "law") {p0 m v : Int64} {p1 : Int32} {n : Nat} (h1 : 1 ≤ n) (hn : n ≤ 14) {d : Nat → Nat} (hd : ∀ k, d k ≤ 9) (h0 : ∀ k, n ≤ k → d k = 0) {pa ra : Addr} {kr : ClassId} (Ar : Arv E.Z h ra kr .int (14 : Int32) [(.int (d 0).toInt32), (.int (d 1).toInt32), (.int (d 2).toInt32), (.int (d 3).toInt32), (.int (d 4).toInt32), (.int (d 5).toInt32), (.int (d 6).toInt32), (.int (d 7).toInt32), (.int (d 8).toInt32), (.int (d 9).toInt32), (.int (d 10).toInt32), (.int (d 11).toInt32), (.int (d 12).toInt32), (.int (d 13).toInt32)] (.int (0 : Int32))) {ca : Addr} {kc : ClassId} {vs : List Value} (hra : ra ≠ ca) (Ac : Arv E.Z h ca kc .char n.toInt32 vs (.int 0)) (hvl : vs.length = n) (hvs : ∀ j, j < 0 → j < n → vs.getD (n - 1 - j) (.int 0) = .int (dc (d j))) (W : Wk E x T h [ca] 3 42) : G E x T (fr x 334 #[.val (.long p0), .second, .val (.int p1), .val (.ref pa), .val (.int n.toInt32), .val (.long m), .second, .val (.long v), .second, .val (.ref ra), .val (.ref ca), .unset, .unset, .unset, .unset, .unset] []) := by
  have hk : 0 < n := h1
  refine w_aload W B d_law_334 rfl rfl ?_
  refine w_iload W B d_law_336 rfl ?_
  refine w_iconst W B d_law_338 (v := (1 : Int32)) rfl ?_
  refine w_isub W B d_law_339 ?_
  rw [show n.toInt32 - (1 : Int32) = (n - 1).toInt32 from n_sub (j := 1) (by omega) (by omega)]
  show G E x T (fr x 340 #[.val (.long p0), .second, .val (.int p1), .val (.ref pa), .val (.int n.toInt32), .val (.long m), .second, .val (.long v), .second, .val (.ref ra), .val (.ref ca), .unset, .unset, .unset, .unset, .unset] [(.int (n - 1).toInt32), (.ref ca)])
  refine w_bipush W B d_law_340 (v := (48 : Int32)) rfl ?_
  refine w_aload W B d_law_342 rfl rfl ?_
  refine w_iconst W B d_law_344 (v := (0 : Int32)) rfl ?_
  refine w_iaload W B d_law_345 Ar ⟨by decide, by decide⟩ (v := (.int (d 0).toInt32)) rfl ?_
  refine w_iadd W B d_law_346 ?_
  refine w_i2c W B d_law_347 ?_
  rw [dc_i2c (hd 0)]
  show G E x T (fr x 348 #[.val (.long p0), .second, .val (.int p1), .val (.ref pa), .val (.int n.toInt32), .val (.long m), .second, .val (.long v), .second, .val (.ref ra), .val (.ref ca), .unset, .unset, .unset, .unset, .unset] [(.int (dc (d 0))), (.int (n - 1).toInt32), (.ref ca)])
  refine w_castore W B d_law_348 (List.Mem.head _) Ac ⟨n_nn (by omega), (n_lt (by omega) (by omega)).mpr (by omega)⟩ (i := n - 1) (n_clamp (by omega)) (by omega) (u := dc (d 0)) (nar_dc (hd _)) ?_
  intro T2 h2 W2 K2 A2
  show G E x T2 (fr x 349 #[.val (.long p0), .second, .val (.int p1), .val (.ref pa), .val (.int n.toInt32), .val (.long m), .second, .val (.long v), .second, .val (.ref ra), .val (.ref ca), .unset, .unset, .unset, .unset, .unset] [])
  exact B1 hw hQ B h1 hn hd h0 (Ar.keep K2 (ninS hra nin0)) hra A2 (by rw [List.length_set]; exact hvl) (c_step hvl (by omega) hvs) W2
set_option maxRecDepth 65536 in
set_option maxHeartbeats 4000000 in
theorem L328 {E : Gl} (hw : Tb E) {x : Cx} {T : State} {h : Heap} (hQ : x.Q = fun r _ _ => r = some (.int 1)) (B : Is x "com/example/fordring/fordring/account/PaymentReferenceForCustomerPinLaw" code 16 ({ frames := 10, cells := 56, slots := 2496, locals := 224 } : Room) (some .boolean) "law") {p0 m v : Int64} {p1 : Int32} {n : Nat} (h1 : 1 ≤ n) (hn : n ≤ 14) {d : Nat → Nat} (hd : ∀ k, d k ≤ 9) (h0 : ∀ k, n ≤ k → d k = 0) {pa ra : Addr} {kr : ClassId} (Ar : Arv E.Z h ra kr .int (14 : Int32) [(.int (d 0).toInt32), (.int (d 1).toInt32), (.int (d 2).toInt32), (.int (d 3).toInt32), (.int (d 4).toInt32), (.int (d 5).toInt32), (.int (d 6).toInt32), (.int (d 7).toInt32), (.int (d 8).toInt32), (.int (d 9).toInt32), (.int (d 10).toInt32), (.int (d 11).toInt32), (.int (d 12).toInt32), (.int (d 13).toInt32)] (.int (0 : Int32))) (W : Wk E x T h [] 2 28) : G E x T (fr x 328 #[.val (.long p0), .second, .val (.int p1), .val (.ref pa), .val (.int n.toInt32), .val (.long m), .second, .val (.long v), .second, .val (.ref ra), .unset, .unset, .unset, .unset, .unset, .unset] []) := by
  refine w_iload W B d_law_328 rfl ?_
  refine w_newarray W B d_law_330 rfl (wd hw 22 rfl) (n_nn (by omega)) (cap := 14) (by rw [n_clamp (by omega)]; omega) (by decide) (by decide) (by decide) ?_
  intro T1 h2 b3 k4 W5 g6 X7 A8
  show G E x T1 (fr x 332 #[.val (.long p0), .second, .val (.int p1), .val (.ref pa), .val (.int n.toInt32), .val (.long m), .second, .val (.long v), .second, .val (.ref ra), .unset, .unset, .unset, .unset, .unset, .unset] [(.ref b3)])
  refine w_astore W5 B d_law_332 rfl (Ls' := #[.val (.long p0), .second, .val (.int p1), .val (.ref pa), .val (.int n.toInt32), .val (.long m), .second, .val (.long v), .second, .val (.ref ra), .val (.ref b3), .unset, .unset, .unset, .unset, .unset]) rfl ?_
  exact B0 hw hQ B h1 hn hd h0 (Ar.ext X7) (Own.ne_new Ar.lt g6) (A8.pad (pad_rep [] _ n)) (by simp) (fun j q => absurd q (Nat.not_lt_zero _)) W5
set_option maxRecDepth 65536 in
set_option maxHeartbeats 4000000 in
theorem L136 {E : Gl} (hw : Tb E) {x : Cx} {T : State} {h : Heap} (hQ : x.Q = fun r _ _ => r = some (.int 1)) (B : Is x "com/example/fordring/fordring/account/PaymentReferenceForCustomerPinLaw" code 16 ({ frames := 10, cells := 56, slots := 2496, locals := 224 } : Room) (some .boolean) "law") {p0 m v : Int64} {p1 : Int32} {n : Nat} (h1 : 1 ≤ n) (hn : n ≤ 14) {pa : Addr} {kp : ClassId} (Ap : Arv E.Z h pa kp .long (14 : Int32) [(.long (1 : Int64)), (.long (10 : Int64)), (.long (100 : Int64)), (.long (1000 : Int64)), (.long (10000 : Int64)), (.long (100000 : Int64)), (.long (1000000 : Int64)), (.long (10000000 : Int64)), (.long (100000000 : Int64)), (.long (1000000000 : Int64)), (.long (10000000000 : Int64)), (.long (100000000000 : Int64)), (.long (1000000000000 : Int64)), (.long (10000000000000 : Int64))] (.long (0 : Int64))) {w : Nat} (hv : v.toInt = (w : Int)) (hwn : w < 10 ^ n) (W : Wk E x T h [] 1 14) : G E x T (fr x 136 #[.val (.long p0), .second, .val (.int p1), .val (.ref pa), .val (.int n.toInt32), .val (.long m), .second, .unset, .unset, .unset, .unset, .unset, .unset, .unset, .unset, .unset] [(.long v)]) := by
  have h0 : ∀ k, n ≤ k → dg w k = 0 := fun k hk => dg_zero hwn hk
  refine w_lstore W B d_law_136 (Ls' := #[.val (.long p0), .second, .val (.int p1), .val (.ref pa), .val (.int n.toInt32), .val (.long m), .second, .val (.long v), .second, .unset, .unset, .unset, .unset, .unset, .unset, .unset]) rfl ?_
  refine w_bipush W B d_law_138 (v := (14 : Int32)) rfl ?_
  refine w_newarray W B d_law_140 rfl (wd hw 17 rfl) (by decide) (cap := 14) (by decide) (by decide) (by decide) (by decide) ?_
  intro T1 h2 b3 k4 W5 g6 X7 A8
  have A9 : Arv E.Z h2 b3 k4 .int (14 : Int32) [(.int (0 : Int32)), (.int (0 : Int32)), (.int (0 : Int32)), (.int (0 : Int32)), (.int (0 : Int32)), (.int (0 : Int32)), (.int (0 : Int32)), (.int (0 : Int32)), (.int (0 : Int32)), (.int (0 : Int32)), (.int (0 : Int32)), (.int (0 : Int32)), (.int (0 : Int32)), (.int (0 : Int32))] (.int (0 : Int32)) := A8.pad (pad_rep [] (.int (0 : Int32)) 14)
  show G E x T1 (fr x 142 #[.val (.long p0), .second, .val (.int p1), .val (.ref pa), .val (.int n.toInt32), .val (.long m), .second, .val (.long v), .second, .unset, .unset, .unset, .unset, .unset, .unset, .unset] [(.ref b3)])
  refine w_astore W5 B d_law_142 rfl (Ls' := #[.val (.long p0), .second, .val (.int p1), .val (.ref pa), .val (.int n.toInt32), .val (.long m), .second, .val (.long v), .second, .val (.ref b3), .unset, .unset, .unset, .unset, .unset, .unset]) rfl ?_
  refine w_aload W5 B d_law_144 rfl rfl ?_
  refine w_iconst W5 B d_law_146 (v := (0 : Int32)) rfl ?_
  refine w_lload W5 B d_law_147 rfl ?_
  refine w_aloadN W5 B d_law_149 rfl rfl ?_
  refine w_iconst W5 B d_law_150 (v := (0 : Int32)) rfl ?_
  refine w_laload W5 B d_law_151 (Ap.ext X7) ⟨by decide, by decide⟩ (v := (.long (1 : Int64))) rfl ?_
  refine w_static W5 B (y := ⟨"com/example/fordring/fordring/account/PaymentReferenceForCustomerPinLaw", "dig", "(JJ)I"⟩) d_law_152 (wd hw 18 rfl) (wd hw 19 rfl) (wd hw 20 rfl) (wd hw 21 rfl) (by decide) pd__JJ_I302 (argsL := [(.long v), (.long (1 : Int64))]) rfl rfl rfl (Wt := 2) (Nat.le_of_eq rfl) (dig_met hw (w := w) (k := 0) hv (by decide) (by decide)) (by decide) (by decide) (by decide) (by decide) ?_
  intro T10 h11 F12 v13 W14 Q15
  obtain ⟨rfl, rfl, rfl⟩ := Q15
  show G E x T10 (fr x 155 #[.val (.long p0), .second, .val (.int p1), .val (.ref pa), .val (.int n.toInt32), .val (.long m), .second, .val (.long v), .second, .val (.ref b3), .unset, .unset, .unset, .unset, .unset, .unset] [(.int (dg w 0).toInt32), (.int (0 : Int32)), (.ref b3)])
  refine w_iastore W14 B d_law_155 (List.Mem.head _) A9 (by decide) (i := 0) rfl (by first | decide | simp) ?_
  intro T16 h17 W18 K19 A20
  have A21 : Arv E.Z h17 b3 k4 .int (14 : Int32) [(.int (dg w 0).toInt32), (.int (0 : Int32)), (.int (0 : Int32)), (.int (0 : Int32)), (.int (0 : Int32)), (.int (0 : Int32)), (.int (0 : Int32)), (.int (0 : Int32)), (.int (0 : Int32)), (.int (0 : Int32)), (.int (0 : Int32)), (.int (0 : Int32)), (.int (0 : Int32)), (.int (0 : Int32))] (.int (0 : Int32)) := A20
  refine w_aload W18 B d_law_156 rfl rfl ?_
  refine w_iconst W18 B d_law_158 (v := (1 : Int32)) rfl ?_
  refine w_lload W18 B d_law_159 rfl ?_
  refine w_aloadN W18 B d_law_161 rfl rfl ?_
  refine w_iconst W18 B d_law_162 (v := (1 : Int32)) rfl ?_
  refine w_laload W18 B d_law_163 ((Ap.ext X7).keep K19 (ninS (Own.ne_new Ap.lt g6) nin0)) ⟨by decide, by decide⟩ (v := (.long (10 : Int64))) rfl ?_
  refine w_static W18 B (y := ⟨"com/example/fordring/fordring/account/PaymentReferenceForCustomerPinLaw", "dig", "(JJ)I"⟩) d_law_164 (wd hw 18 rfl) (wd hw 19 rfl) (wd hw 20 rfl) (wd hw 21 rfl) (by decide) pd__JJ_I302 (argsL := [(.long v), (.long (10 : Int64))]) rfl rfl rfl (Wt := 2) (Nat.le_of_eq rfl) (dig_met hw (w := w) (k := 1) hv (by decide) (by decide)) (by decide) (by decide) (by decide) (by decide) ?_
  intro T22 h23 F24 v25 W26 Q27
  obtain ⟨rfl, rfl, rfl⟩ := Q27
  show G E x T22 (fr x 167 #[.val (.long p0), .second, .val (.int p1), .val (.ref pa), .val (.int n.toInt32), .val (.long m), .second, .val (.long v), .second, .val (.ref b3), .unset, .unset, .unset, .unset, .unset, .unset] [(.int (dg w 1).toInt32), (.int (1 : Int32)), (.ref b3)])
  refine w_iastore W26 B d_law_167 (List.Mem.head _) A21 (by decide) (i := 1) rfl (by first | decide | simp) ?_
  intro T28 h29 W30 K31 A32
  have A33 : Arv E.Z h29 b3 k4 .int (14 : Int32) [(.int (dg w 0).toInt32), (.int (dg w 1).toInt32), (.int (0 : Int32)), (.int (0 : Int32)), (.int (0 : Int32)), (.int (0 : Int32)), (.int (0 : Int32)), (.int (0 : Int32)), (.int (0 : Int32)), (.int (0 : Int32)), (.int (0 : Int32)), (.int (0 : Int32)), (.int (0 : Int32)), (.int (0 : Int32))] (.int (0 : Int32)) := A32
  refine w_aload W30 B d_law_168 rfl rfl ?_
  refine w_iconst W30 B d_law_170 (v := (2 : Int32)) rfl ?_
  refine w_lload W30 B d_law_171 rfl ?_
  refine w_aloadN W30 B d_law_173 rfl rfl ?_
  refine w_iconst W30 B d_law_174 (v := (2 : Int32)) rfl ?_
  refine w_laload W30 B d_law_175 (((Ap.ext X7).keep K19 (ninS (Own.ne_new Ap.lt g6) nin0)).keep K31 (ninS (Own.ne_new Ap.lt g6) nin0)) ⟨by decide, by decide⟩ (v := (.long (100 : Int64))) rfl ?_
  refine w_static W30 B (y := ⟨"com/example/fordring/fordring/account/PaymentReferenceForCustomerPinLaw", "dig", "(JJ)I"⟩) d_law_176 (wd hw 18 rfl) (wd hw 19 rfl) (wd hw 20 rfl) (wd hw 21 rfl) (by decide) pd__JJ_I302 (argsL := [(.long v), (.long (100 : Int64))]) rfl rfl rfl (Wt := 2) (Nat.le_of_eq rfl) (dig_met hw (w := w) (k := 2) hv (by decide) (by decide)) (by decide) (by decide) (by decide) (by decide) ?_
  intro T34 h35 F36 v37 W38 Q39
  obtain ⟨rfl, rfl, rfl⟩ := Q39
  show G E x T34 (fr x 179 #[.val (.long p0), .second, .val (.int p1), .val (.ref pa), .val (.int n.toInt32), .val (.long m), .second, .val (.long v), .second, .val (.ref b3), .unset, .unset, .unset, .unset, .unset, .unset] [(.int (dg w 2).toInt32), (.int (2 : Int32)), (.ref b3)])
  refine w_iastore W38 B d_law_179 (List.Mem.head _) A33 (by decide) (i := 2) rfl (by first | decide | simp) ?_
  intro T40 h41 W42 K43 A44
  have A45 : Arv E.Z h41 b3 k4 .int (14 : Int32) [(.int (dg w 0).toInt32), (.int (dg w 1).toInt32), (.int (dg w 2).toInt32), (.int (0 : Int32)), (.int (0 : Int32)), (.int (0 : Int32)), (.int (0 : Int32)), (.int (0 : Int32)), (.int (0 : Int32)), (.int (0 : Int32)), (.int (0 : Int32)), (.int (0 : Int32)), (.int (0 : Int32)), (.int (0 : Int32))] (.int (0 : Int32)) := A44
  refine w_aload W42 B d_law_180 rfl rfl ?_
  refine w_iconst W42 B d_law_182 (v := (3 : Int32)) rfl ?_
  refine w_lload W42 B d_law_183 rfl ?_
  refine w_aloadN W42 B d_law_185 rfl rfl ?_
  refine w_iconst W42 B d_law_186 (v := (3 : Int32)) rfl ?_
  refine w_laload W42 B d_law_187 ((((Ap.ext X7).keep K19 (ninS (Own.ne_new Ap.lt g6) nin0)).keep K31 (ninS (Own.ne_new Ap.lt g6) nin0)).keep K43 (ninS (Own.ne_new Ap.lt g6) nin0)) ⟨by decide, by decide⟩ (v := (.long (1000 : Int64))) rfl ?_
  refine w_static W42 B (y := ⟨"com/example/fordring/fordring/account/PaymentReferenceForCustomerPinLaw", "dig", "(JJ)I"⟩) d_law_188 (wd hw 18 rfl) (wd hw 19 rfl) (wd hw 20 rfl) (wd hw 21 rfl) (by decide) pd__JJ_I302 (argsL := [(.long v), (.long (1000 : Int64))]) rfl rfl rfl (Wt := 2) (Nat.le_of_eq rfl) (dig_met hw (w := w) (k := 3) hv (by decide) (by decide)) (by decide) (by decide) (by decide) (by decide) ?_
  intro T46 h47 F48 v49 W50 Q51
  obtain ⟨rfl, rfl, rfl⟩ := Q51
  show G E x T46 (fr x 191 #[.val (.long p0), .second, .val (.int p1), .val (.ref pa), .val (.int n.toInt32), .val (.long m), .second, .val (.long v), .second, .val (.ref b3), .unset, .unset, .unset, .unset, .unset, .unset] [(.int (dg w 3).toInt32), (.int (3 : Int32)), (.ref b3)])
  refine w_iastore W50 B d_law_191 (List.Mem.head _) A45 (by decide) (i := 3) rfl (by first | decide | simp) ?_
  intro T52 h53 W54 K55 A56
  have A57 : Arv E.Z h53 b3 k4 .int (14 : Int32) [(.int (dg w 0).toInt32), (.int (dg w 1).toInt32), (.int (dg w 2).toInt32), (.int (dg w 3).toInt32), (.int (0 : Int32)), (.int (0 : Int32)), (.int (0 : Int32)), (.int (0 : Int32)), (.int (0 : Int32)), (.int (0 : Int32)), (.int (0 : Int32)), (.int (0 : Int32)), (.int (0 : Int32)), (.int (0 : Int32))] (.int (0 : Int32)) := A56
  refine w_aload W54 B d_law_192 rfl rfl ?_
  refine w_iconst W54 B d_law_194 (v := (4 : Int32)) rfl ?_
  refine w_lload W54 B d_law_195 rfl ?_
  refine w_aloadN W54 B d_law_197 rfl rfl ?_
  refine w_iconst W54 B d_law_198 (v := (4 : Int32)) rfl ?_
  refine w_laload W54 B d_law_199 (((((Ap.ext X7).keep K19 (ninS (Own.ne_new Ap.lt g6) nin0)).keep K31 (ninS (Own.ne_new Ap.lt g6) nin0)).keep K43 (ninS (Own.ne_new Ap.lt g6) nin0)).keep K55 (ninS (Own.ne_new Ap.lt g6) nin0)) ⟨by decide, by decide⟩ (v := (.long (10000 : Int64))) rfl ?_
  refine w_static W54 B (y := ⟨"com/example/fordring/fordring/account/PaymentReferenceForCustomerPinLaw", "dig", "(JJ)I"⟩) d_law_200 (wd hw 18 rfl) (wd hw 19 rfl) (wd hw 20 rfl) (wd hw 21 rfl) (by decide) pd__JJ_I302 (argsL := [(.long v), (.long (10000 : Int64))]) rfl rfl rfl (Wt := 2) (Nat.le_of_eq rfl) (dig_met hw (w := w) (k := 4) hv (by decide) (by decide)) (by decide) (by decide) (by decide) (by decide) ?_
  intro T58 h59 F60 v61 W62 Q63
  obtain ⟨rfl, rfl, rfl⟩ := Q63
  show G E x T58 (fr x 203 #[.val (.long p0), .second, .val (.int p1), .val (.ref pa), .val (.int n.toInt32), .val (.long m), .second, .val (.long v), .second, .val (.ref b3), .unset, .unset, .unset, .unset, .unset, .unset] [(.int (dg w 4).toInt32), (.int (4 : Int32)), (.ref b3)])
  refine w_iastore W62 B d_law_203 (List.Mem.head _) A57 (by decide) (i := 4) rfl (by first | decide | simp) ?_
  intro T64 h65 W66 K67 A68
  have A69 : Arv E.Z h65 b3 k4 .int (14 : Int32) [(.int (dg w 0).toInt32), (.int (dg w 1).toInt32), (.int (dg w 2).toInt32), (.int (dg w 3).toInt32), (.int (dg w 4).toInt32), (.int (0 : Int32)), (.int (0 : Int32)), (.int (0 : Int32)), (.int (0 : Int32)), (.int (0 : Int32)), (.int (0 : Int32)), (.int (0 : Int32)), (.int (0 : Int32)), (.int (0 : Int32))] (.int (0 : Int32)) := A68
  refine w_aload W66 B d_law_204 rfl rfl ?_
  refine w_iconst W66 B d_law_206 (v := (5 : Int32)) rfl ?_
  refine w_lload W66 B d_law_207 rfl ?_
  refine w_aloadN W66 B d_law_209 rfl rfl ?_
  refine w_iconst W66 B d_law_210 (v := (5 : Int32)) rfl ?_
  refine w_laload W66 B d_law_211 ((((((Ap.ext X7).keep K19 (ninS (Own.ne_new Ap.lt g6) nin0)).keep K31 (ninS (Own.ne_new Ap.lt g6) nin0)).keep K43 (ninS (Own.ne_new Ap.lt g6) nin0)).keep K55 (ninS (Own.ne_new Ap.lt g6) nin0)).keep K67 (ninS (Own.ne_new Ap.lt g6) nin0)) ⟨by decide, by decide⟩ (v := (.long (100000 : Int64))) rfl ?_
  refine w_static W66 B (y := ⟨"com/example/fordring/fordring/account/PaymentReferenceForCustomerPinLaw", "dig", "(JJ)I"⟩) d_law_212 (wd hw 18 rfl) (wd hw 19 rfl) (wd hw 20 rfl) (wd hw 21 rfl) (by decide) pd__JJ_I302 (argsL := [(.long v), (.long (100000 : Int64))]) rfl rfl rfl (Wt := 2) (Nat.le_of_eq rfl) (dig_met hw (w := w) (k := 5) hv (by decide) (by decide)) (by decide) (by decide) (by decide) (by decide) ?_
  intro T70 h71 F72 v73 W74 Q75
  obtain ⟨rfl, rfl, rfl⟩ := Q75
  show G E x T70 (fr x 215 #[.val (.long p0), .second, .val (.int p1), .val (.ref pa), .val (.int n.toInt32), .val (.long m), .second, .val (.long v), .second, .val (.ref b3), .unset, .unset, .unset, .unset, .unset, .unset] [(.int (dg w 5).toInt32), (.int (5 : Int32)), (.ref b3)])
  refine w_iastore W74 B d_law_215 (List.Mem.head _) A69 (by decide) (i := 5) rfl (by first | decide | simp) ?_
  intro T76 h77 W78 K79 A80
  have A81 : Arv E.Z h77 b3 k4 .int (14 : Int32) [(.int (dg w 0).toInt32), (.int (dg w 1).toInt32), (.int (dg w 2).toInt32), (.int (dg w 3).toInt32), (.int (dg w 4).toInt32), (.int (dg w 5).toInt32), (.int (0 : Int32)), (.int (0 : Int32)), (.int (0 : Int32)), (.int (0 : Int32)), (.int (0 : Int32)), (.int (0 : Int32)), (.int (0 : Int32)), (.int (0 : Int32))] (.int (0 : Int32)) := A80
  refine w_aload W78 B d_law_216 rfl rfl ?_
  refine w_bipush W78 B d_law_218 (v := (6 : Int32)) rfl ?_
  refine w_lload W78 B d_law_220 rfl ?_
  refine w_aloadN W78 B d_law_222 rfl rfl ?_
  refine w_bipush W78 B d_law_223 (v := (6 : Int32)) rfl ?_
  refine w_laload W78 B d_law_225 (((((((Ap.ext X7).keep K19 (ninS (Own.ne_new Ap.lt g6) nin0)).keep K31 (ninS (Own.ne_new Ap.lt g6) nin0)).keep K43 (ninS (Own.ne_new Ap.lt g6) nin0)).keep K55 (ninS (Own.ne_new Ap.lt g6) nin0)).keep K67 (ninS (Own.ne_new Ap.lt g6) nin0)).keep K79 (ninS (Own.ne_new Ap.lt g6) nin0)) ⟨by decide, by decide⟩ (v := (.long (1000000 : Int64))) rfl ?_
  refine w_static W78 B (y := ⟨"com/example/fordring/fordring/account/PaymentReferenceForCustomerPinLaw", "dig", "(JJ)I"⟩) d_law_226 (wd hw 18 rfl) (wd hw 19 rfl) (wd hw 20 rfl) (wd hw 21 rfl) (by decide) pd__JJ_I302 (argsL := [(.long v), (.long (1000000 : Int64))]) rfl rfl rfl (Wt := 2) (Nat.le_of_eq rfl) (dig_met hw (w := w) (k := 6) hv (by decide) (by decide)) (by decide) (by decide) (by decide) (by decide) ?_
  intro T82 h83 F84 v85 W86 Q87
  obtain ⟨rfl, rfl, rfl⟩ := Q87
  show G E x T82 (fr x 229 #[.val (.long p0), .second, .val (.int p1), .val (.ref pa), .val (.int n.toInt32), .val (.long m), .second, .val (.long v), .second, .val (.ref b3), .unset, .unset, .unset, .unset, .unset, .unset] [(.int (dg w 6).toInt32), (.int (6 : Int32)), (.ref b3)])
  refine w_iastore W86 B d_law_229 (List.Mem.head _) A81 (by decide) (i := 6) rfl (by first | decide | simp) ?_
  intro T88 h89 W90 K91 A92
  have A93 : Arv E.Z h89 b3 k4 .int (14 : Int32) [(.int (dg w 0).toInt32), (.int (dg w 1).toInt32), (.int (dg w 2).toInt32), (.int (dg w 3).toInt32), (.int (dg w 4).toInt32), (.int (dg w 5).toInt32), (.int (dg w 6).toInt32), (.int (0 : Int32)), (.int (0 : Int32)), (.int (0 : Int32)), (.int (0 : Int32)), (.int (0 : Int32)), (.int (0 : Int32)), (.int (0 : Int32))] (.int (0 : Int32)) := A92
  refine w_aload W90 B d_law_230 rfl rfl ?_
  refine w_bipush W90 B d_law_232 (v := (7 : Int32)) rfl ?_
  refine w_lload W90 B d_law_234 rfl ?_
  refine w_aloadN W90 B d_law_236 rfl rfl ?_
  refine w_bipush W90 B d_law_237 (v := (7 : Int32)) rfl ?_
  refine w_laload W90 B d_law_239 ((((((((Ap.ext X7).keep K19 (ninS (Own.ne_new Ap.lt g6) nin0)).keep K31 (ninS (Own.ne_new Ap.lt g6) nin0)).keep K43 (ninS (Own.ne_new Ap.lt g6) nin0)).keep K55 (ninS (Own.ne_new Ap.lt g6) nin0)).keep K67 (ninS (Own.ne_new Ap.lt g6) nin0)).keep K79 (ninS (Own.ne_new Ap.lt g6) nin0)).keep K91 (ninS (Own.ne_new Ap.lt g6) nin0)) ⟨by decide, by decide⟩ (v := (.long (10000000 : Int64))) rfl ?_
  refine w_static W90 B (y := ⟨"com/example/fordring/fordring/account/PaymentReferenceForCustomerPinLaw", "dig", "(JJ)I"⟩) d_law_240 (wd hw 18 rfl) (wd hw 19 rfl) (wd hw 20 rfl) (wd hw 21 rfl) (by decide) pd__JJ_I302 (argsL := [(.long v), (.long (10000000 : Int64))]) rfl rfl rfl (Wt := 2) (Nat.le_of_eq rfl) (dig_met hw (w := w) (k := 7) hv (by decide) (by decide)) (by decide) (by decide) (by decide) (by decide) ?_
  intro T94 h95 F96 v97 W98 Q99
  obtain ⟨rfl, rfl, rfl⟩ := Q99
  show G E x T94 (fr x 243 #[.val (.long p0), .second, .val (.int p1), .val (.ref pa), .val (.int n.toInt32), .val (.long m), .second, .val (.long v), .second, .val (.ref b3), .unset, .unset, .unset, .unset, .unset, .unset] [(.int (dg w 7).toInt32), (.int (7 : Int32)), (.ref b3)])
  refine w_iastore W98 B d_law_243 (List.Mem.head _) A93 (by decide) (i := 7) rfl (by first | decide | simp) ?_
  intro T100 h101 W102 K103 A104
  have A105 : Arv E.Z h101 b3 k4 .int (14 : Int32) [(.int (dg w 0).toInt32), (.int (dg w 1).toInt32), (.int (dg w 2).toInt32), (.int (dg w 3).toInt32), (.int (dg w 4).toInt32), (.int (dg w 5).toInt32), (.int (dg w 6).toInt32), (.int (dg w 7).toInt32), (.int (0 : Int32)), (.int (0 : Int32)), (.int (0 : Int32)), (.int (0 : Int32)), (.int (0 : Int32)), (.int (0 : Int32))] (.int (0 : Int32)) := A104
  refine w_aload W102 B d_law_244 rfl rfl ?_
  refine w_bipush W102 B d_law_246 (v := (8 : Int32)) rfl ?_
  refine w_lload W102 B d_law_248 rfl ?_
  refine w_aloadN W102 B d_law_250 rfl rfl ?_
  refine w_bipush W102 B d_law_251 (v := (8 : Int32)) rfl ?_
  refine w_laload W102 B d_law_253 (((((((((Ap.ext X7).keep K19 (ninS (Own.ne_new Ap.lt g6) nin0)).keep K31 (ninS (Own.ne_new Ap.lt g6) nin0)).keep K43 (ninS (Own.ne_new Ap.lt g6) nin0)).keep K55 (ninS (Own.ne_new Ap.lt g6) nin0)).keep K67 (ninS (Own.ne_new Ap.lt g6) nin0)).keep K79 (ninS (Own.ne_new Ap.lt g6) nin0)).keep K91 (ninS (Own.ne_new Ap.lt g6) nin0)).keep K103 (ninS (Own.ne_new Ap.lt g6) nin0)) ⟨by decide, by decide⟩ (v := (.long (100000000 : Int64))) rfl ?_
  refine w_static W102 B (y := ⟨"com/example/fordring/fordring/account/PaymentReferenceForCustomerPinLaw", "dig", "(JJ)I"⟩) d_law_254 (wd hw 18 rfl) (wd hw 19 rfl) (wd hw 20 rfl) (wd hw 21 rfl) (by decide) pd__JJ_I302 (argsL := [(.long v), (.long (100000000 : Int64))]) rfl rfl rfl (Wt := 2) (Nat.le_of_eq rfl) (dig_met hw (w := w) (k := 8) hv (by decide) (by decide)) (by decide) (by decide) (by decide) (by decide) ?_
  intro T106 h107 F108 v109 W110 Q111
  obtain ⟨rfl, rfl, rfl⟩ := Q111
  show G E x T106 (fr x 257 #[.val (.long p0), .second, .val (.int p1), .val (.ref pa), .val (.int n.toInt32), .val (.long m), .second, .val (.long v), .second, .val (.ref b3), .unset, .unset, .unset, .unset, .unset, .unset] [(.int (dg w 8).toInt32), (.int (8 : Int32)), (.ref b3)])
  refine w_iastore W110 B d_law_257 (List.Mem.head _) A105 (by decide) (i := 8) rfl (by first | decide | simp) ?_
  intro T112 h113 W114 K115 A116
  have A117 : Arv E.Z h113 b3 k4 .int (14 : Int32) [(.int (dg w 0).toInt32), (.int (dg w 1).toInt32), (.int (dg w 2).toInt32), (.int (dg w 3).toInt32), (.int (dg w 4).toInt32), (.int (dg w 5).toInt32), (.int (dg w 6).toInt32), (.int (dg w 7).toInt32), (.int (dg w 8).toInt32), (.int (0 : Int32)), (.int (0 : Int32)), (.int (0 : Int32)), (.int (0 : Int32)), (.int (0 : Int32))] (.int (0 : Int32)) := A116
  refine w_aload W114 B d_law_258 rfl rfl ?_
  refine w_bipush W114 B d_law_260 (v := (9 : Int32)) rfl ?_
  refine w_lload W114 B d_law_262 rfl ?_
  refine w_aloadN W114 B d_law_264 rfl rfl ?_
  refine w_bipush W114 B d_law_265 (v := (9 : Int32)) rfl ?_
  refine w_laload W114 B d_law_267 ((((((((((Ap.ext X7).keep K19 (ninS (Own.ne_new Ap.lt g6) nin0)).keep K31 (ninS (Own.ne_new Ap.lt g6) nin0)).keep K43 (ninS (Own.ne_new Ap.lt g6) nin0)).keep K55 (ninS (Own.ne_new Ap.lt g6) nin0)).keep K67 (ninS (Own.ne_new Ap.lt g6) nin0)).keep K79 (ninS (Own.ne_new Ap.lt g6) nin0)).keep K91 (ninS (Own.ne_new Ap.lt g6) nin0)).keep K103 (ninS (Own.ne_new Ap.lt g6) nin0)).keep K115 (ninS (Own.ne_new Ap.lt g6) nin0)) ⟨by decide, by decide⟩ (v := (.long (1000000000 : Int64))) rfl ?_
  refine w_static W114 B (y := ⟨"com/example/fordring/fordring/account/PaymentReferenceForCustomerPinLaw", "dig", "(JJ)I"⟩) d_law_268 (wd hw 18 rfl) (wd hw 19 rfl) (wd hw 20 rfl) (wd hw 21 rfl) (by decide) pd__JJ_I302 (argsL := [(.long v), (.long (1000000000 : Int64))]) rfl rfl rfl (Wt := 2) (Nat.le_of_eq rfl) (dig_met hw (w := w) (k := 9) hv (by decide) (by decide)) (by decide) (by decide) (by decide) (by decide) ?_
  intro T118 h119 F120 v121 W122 Q123
  obtain ⟨rfl, rfl, rfl⟩ := Q123
  show G E x T118 (fr x 271 #[.val (.long p0), .second, .val (.int p1), .val (.ref pa), .val (.int n.toInt32), .val (.long m), .second, .val (.long v), .second, .val (.ref b3), .unset, .unset, .unset, .unset, .unset, .unset] [(.int (dg w 9).toInt32), (.int (9 : Int32)), (.ref b3)])
  refine w_iastore W122 B d_law_271 (List.Mem.head _) A117 (by decide) (i := 9) rfl (by first | decide | simp) ?_
  intro T124 h125 W126 K127 A128
  have A129 : Arv E.Z h125 b3 k4 .int (14 : Int32) [(.int (dg w 0).toInt32), (.int (dg w 1).toInt32), (.int (dg w 2).toInt32), (.int (dg w 3).toInt32), (.int (dg w 4).toInt32), (.int (dg w 5).toInt32), (.int (dg w 6).toInt32), (.int (dg w 7).toInt32), (.int (dg w 8).toInt32), (.int (dg w 9).toInt32), (.int (0 : Int32)), (.int (0 : Int32)), (.int (0 : Int32)), (.int (0 : Int32))] (.int (0 : Int32)) := A128
  refine w_aload W126 B d_law_272 rfl rfl ?_
  refine w_bipush W126 B d_law_274 (v := (10 : Int32)) rfl ?_
  refine w_lload W126 B d_law_276 rfl ?_
  refine w_aloadN W126 B d_law_278 rfl rfl ?_
  refine w_bipush W126 B d_law_279 (v := (10 : Int32)) rfl ?_
  refine w_laload W126 B d_law_281 (((((((((((Ap.ext X7).keep K19 (ninS (Own.ne_new Ap.lt g6) nin0)).keep K31 (ninS (Own.ne_new Ap.lt g6) nin0)).keep K43 (ninS (Own.ne_new Ap.lt g6) nin0)).keep K55 (ninS (Own.ne_new Ap.lt g6) nin0)).keep K67 (ninS (Own.ne_new Ap.lt g6) nin0)).keep K79 (ninS (Own.ne_new Ap.lt g6) nin0)).keep K91 (ninS (Own.ne_new Ap.lt g6) nin0)).keep K103 (ninS (Own.ne_new Ap.lt g6) nin0)).keep K115 (ninS (Own.ne_new Ap.lt g6) nin0)).keep K127 (ninS (Own.ne_new Ap.lt g6) nin0)) ⟨by decide, by decide⟩ (v := (.long (10000000000 : Int64))) rfl ?_
  refine w_static W126 B (y := ⟨"com/example/fordring/fordring/account/PaymentReferenceForCustomerPinLaw", "dig", "(JJ)I"⟩) d_law_282 (wd hw 18 rfl) (wd hw 19 rfl) (wd hw 20 rfl) (wd hw 21 rfl) (by decide) pd__JJ_I302 (argsL := [(.long v), (.long (10000000000 : Int64))]) rfl rfl rfl (Wt := 2) (Nat.le_of_eq rfl) (dig_met hw (w := w) (k := 10) hv (by decide) (by decide)) (by decide) (by decide) (by decide) (by decide) ?_
  intro T130 h131 F132 v133 W134 Q135
  obtain ⟨rfl, rfl, rfl⟩ := Q135
  show G E x T130 (fr x 285 #[.val (.long p0), .second, .val (.int p1), .val (.ref pa), .val (.int n.toInt32), .val (.long m), .second, .val (.long v), .second, .val (.ref b3), .unset, .unset, .unset, .unset, .unset, .unset] [(.int (dg w 10).toInt32), (.int (10 : Int32)), (.ref b3)])
  refine w_iastore W134 B d_law_285 (List.Mem.head _) A129 (by decide) (i := 10) rfl (by first | decide | simp) ?_
  intro T136 h137 W138 K139 A140
  have A141 : Arv E.Z h137 b3 k4 .int (14 : Int32) [(.int (dg w 0).toInt32), (.int (dg w 1).toInt32), (.int (dg w 2).toInt32), (.int (dg w 3).toInt32), (.int (dg w 4).toInt32), (.int (dg w 5).toInt32), (.int (dg w 6).toInt32), (.int (dg w 7).toInt32), (.int (dg w 8).toInt32), (.int (dg w 9).toInt32), (.int (dg w 10).toInt32), (.int (0 : Int32)), (.int (0 : Int32)), (.int (0 : Int32))] (.int (0 : Int32)) := A140
  refine w_aload W138 B d_law_286 rfl rfl ?_
  refine w_bipush W138 B d_law_288 (v := (11 : Int32)) rfl ?_
  refine w_lload W138 B d_law_290 rfl ?_
  refine w_aloadN W138 B d_law_292 rfl rfl ?_
  refine w_bipush W138 B d_law_293 (v := (11 : Int32)) rfl ?_
  refine w_laload W138 B d_law_295 ((((((((((((Ap.ext X7).keep K19 (ninS (Own.ne_new Ap.lt g6) nin0)).keep K31 (ninS (Own.ne_new Ap.lt g6) nin0)).keep K43 (ninS (Own.ne_new Ap.lt g6) nin0)).keep K55 (ninS (Own.ne_new Ap.lt g6) nin0)).keep K67 (ninS (Own.ne_new Ap.lt g6) nin0)).keep K79 (ninS (Own.ne_new Ap.lt g6) nin0)).keep K91 (ninS (Own.ne_new Ap.lt g6) nin0)).keep K103 (ninS (Own.ne_new Ap.lt g6) nin0)).keep K115 (ninS (Own.ne_new Ap.lt g6) nin0)).keep K127 (ninS (Own.ne_new Ap.lt g6) nin0)).keep K139 (ninS (Own.ne_new Ap.lt g6) nin0)) ⟨by decide, by decide⟩ (v := (.long (100000000000 : Int64))) rfl ?_
  refine w_static W138 B (y := ⟨"com/example/fordring/fordring/account/PaymentReferenceForCustomerPinLaw", "dig", "(JJ)I"⟩) d_law_296 (wd hw 18 rfl) (wd hw 19 rfl) (wd hw 20 rfl) (wd hw 21 rfl) (by decide) pd__JJ_I302 (argsL := [(.long v), (.long (100000000000 : Int64))]) rfl rfl rfl (Wt := 2) (Nat.le_of_eq rfl) (dig_met hw (w := w) (k := 11) hv (by decide) (by decide)) (by decide) (by decide) (by decide) (by decide) ?_
  intro T142 h143 F144 v145 W146 Q147
  obtain ⟨rfl, rfl, rfl⟩ := Q147
  show G E x T142 (fr x 299 #[.val (.long p0), .second, .val (.int p1), .val (.ref pa), .val (.int n.toInt32), .val (.long m), .second, .val (.long v), .second, .val (.ref b3), .unset, .unset, .unset, .unset, .unset, .unset] [(.int (dg w 11).toInt32), (.int (11 : Int32)), (.ref b3)])
  refine w_iastore W146 B d_law_299 (List.Mem.head _) A141 (by decide) (i := 11) rfl (by first | decide | simp) ?_
  intro T148 h149 W150 K151 A152
  have A153 : Arv E.Z h149 b3 k4 .int (14 : Int32) [(.int (dg w 0).toInt32), (.int (dg w 1).toInt32), (.int (dg w 2).toInt32), (.int (dg w 3).toInt32), (.int (dg w 4).toInt32), (.int (dg w 5).toInt32), (.int (dg w 6).toInt32), (.int (dg w 7).toInt32), (.int (dg w 8).toInt32), (.int (dg w 9).toInt32), (.int (dg w 10).toInt32), (.int (dg w 11).toInt32), (.int (0 : Int32)), (.int (0 : Int32))] (.int (0 : Int32)) := A152
  refine w_aload W150 B d_law_300 rfl rfl ?_
  refine w_bipush W150 B d_law_302 (v := (12 : Int32)) rfl ?_
  refine w_lload W150 B d_law_304 rfl ?_
  refine w_aloadN W150 B d_law_306 rfl rfl ?_
  refine w_bipush W150 B d_law_307 (v := (12 : Int32)) rfl ?_
  refine w_laload W150 B d_law_309 (((((((((((((Ap.ext X7).keep K19 (ninS (Own.ne_new Ap.lt g6) nin0)).keep K31 (ninS (Own.ne_new Ap.lt g6) nin0)).keep K43 (ninS (Own.ne_new Ap.lt g6) nin0)).keep K55 (ninS (Own.ne_new Ap.lt g6) nin0)).keep K67 (ninS (Own.ne_new Ap.lt g6) nin0)).keep K79 (ninS (Own.ne_new Ap.lt g6) nin0)).keep K91 (ninS (Own.ne_new Ap.lt g6) nin0)).keep K103 (ninS (Own.ne_new Ap.lt g6) nin0)).keep K115 (ninS (Own.ne_new Ap.lt g6) nin0)).keep K127 (ninS (Own.ne_new Ap.lt g6) nin0)).keep K139 (ninS (Own.ne_new Ap.lt g6) nin0)).keep K151 (ninS (Own.ne_new Ap.lt g6) nin0)) ⟨by decide, by decide⟩ (v := (.long (1000000000000 : Int64))) rfl ?_
  refine w_static W150 B (y := ⟨"com/example/fordring/fordring/account/PaymentReferenceForCustomerPinLaw", "dig", "(JJ)I"⟩) d_law_310 (wd hw 18 rfl) (wd hw 19 rfl) (wd hw 20 rfl) (wd hw 21 rfl) (by decide) pd__JJ_I302 (argsL := [(.long v), (.long (1000000000000 : Int64))]) rfl rfl rfl (Wt := 2) (Nat.le_of_eq rfl) (dig_met hw (w := w) (k := 12) hv (by decide) (by decide)) (by decide) (by decide) (by decide) (by decide) ?_
  intro T154 h155 F156 v157 W158 Q159
  obtain ⟨rfl, rfl, rfl⟩ := Q159
  show G E x T154 (fr x 313 #[.val (.long p0), .second, .val (.int p1), .val (.ref pa), .val (.int n.toInt32), .val (.long m), .second, .val (.long v), .second, .val (.ref b3), .unset, .unset, .unset, .unset, .unset, .unset] [(.int (dg w 12).toInt32), (.int (12 : Int32)), (.ref b3)])
  refine w_iastore W158 B d_law_313 (List.Mem.head _) A153 (by decide) (i := 12) rfl (by first | decide | simp) ?_
  intro T160 h161 W162 K163 A164
  have A165 : Arv E.Z h161 b3 k4 .int (14 : Int32) [(.int (dg w 0).toInt32), (.int (dg w 1).toInt32), (.int (dg w 2).toInt32), (.int (dg w 3).toInt32), (.int (dg w 4).toInt32), (.int (dg w 5).toInt32), (.int (dg w 6).toInt32), (.int (dg w 7).toInt32), (.int (dg w 8).toInt32), (.int (dg w 9).toInt32), (.int (dg w 10).toInt32), (.int (dg w 11).toInt32), (.int (dg w 12).toInt32), (.int (0 : Int32))] (.int (0 : Int32)) := A164
  refine w_aload W162 B d_law_314 rfl rfl ?_
  refine w_bipush W162 B d_law_316 (v := (13 : Int32)) rfl ?_
  refine w_lload W162 B d_law_318 rfl ?_
  refine w_aloadN W162 B d_law_320 rfl rfl ?_
  refine w_bipush W162 B d_law_321 (v := (13 : Int32)) rfl ?_
  refine w_laload W162 B d_law_323 ((((((((((((((Ap.ext X7).keep K19 (ninS (Own.ne_new Ap.lt g6) nin0)).keep K31 (ninS (Own.ne_new Ap.lt g6) nin0)).keep K43 (ninS (Own.ne_new Ap.lt g6) nin0)).keep K55 (ninS (Own.ne_new Ap.lt g6) nin0)).keep K67 (ninS (Own.ne_new Ap.lt g6) nin0)).keep K79 (ninS (Own.ne_new Ap.lt g6) nin0)).keep K91 (ninS (Own.ne_new Ap.lt g6) nin0)).keep K103 (ninS (Own.ne_new Ap.lt g6) nin0)).keep K115 (ninS (Own.ne_new Ap.lt g6) nin0)).keep K127 (ninS (Own.ne_new Ap.lt g6) nin0)).keep K139 (ninS (Own.ne_new Ap.lt g6) nin0)).keep K151 (ninS (Own.ne_new Ap.lt g6) nin0)).keep K163 (ninS (Own.ne_new Ap.lt g6) nin0)) ⟨by decide, by decide⟩ (v := (.long (10000000000000 : Int64))) rfl ?_
  refine w_static W162 B (y := ⟨"com/example/fordring/fordring/account/PaymentReferenceForCustomerPinLaw", "dig", "(JJ)I"⟩) d_law_324 (wd hw 18 rfl) (wd hw 19 rfl) (wd hw 20 rfl) (wd hw 21 rfl) (by decide) pd__JJ_I302 (argsL := [(.long v), (.long (10000000000000 : Int64))]) rfl rfl rfl (Wt := 2) (Nat.le_of_eq rfl) (dig_met hw (w := w) (k := 13) hv (by decide) (by decide)) (by decide) (by decide) (by decide) (by decide) ?_
  intro T166 h167 F168 v169 W170 Q171
  obtain ⟨rfl, rfl, rfl⟩ := Q171
  show G E x T166 (fr x 327 #[.val (.long p0), .second, .val (.int p1), .val (.ref pa), .val (.int n.toInt32), .val (.long m), .second, .val (.long v), .second, .val (.ref b3), .unset, .unset, .unset, .unset, .unset, .unset] [(.int (dg w 13).toInt32), (.int (13 : Int32)), (.ref b3)])
  refine w_iastore W170 B d_law_327 (List.Mem.head _) A165 (by decide) (i := 13) rfl (by first | decide | simp) ?_
  intro T172 h173 W174 K175 A176
  have A177 : Arv E.Z h173 b3 k4 .int (14 : Int32) [(.int (dg w 0).toInt32), (.int (dg w 1).toInt32), (.int (dg w 2).toInt32), (.int (dg w 3).toInt32), (.int (dg w 4).toInt32), (.int (dg w 5).toInt32), (.int (dg w 6).toInt32), (.int (dg w 7).toInt32), (.int (dg w 8).toInt32), (.int (dg w 9).toInt32), (.int (dg w 10).toInt32), (.int (dg w 11).toInt32), (.int (dg w 12).toInt32), (.int (dg w 13).toInt32)] (.int (0 : Int32)) := A176
  exact L328 hw hQ B h1 hn (d := dg w) (dg_le w) h0 A177 (W174.mono (fun _ q => nomatch q) (by decide) (by decide))
set_option maxRecDepth 65536 in
set_option maxHeartbeats 4000000 in
theorem L0 {E : Gl} (hw : Tb E) {x : Cx} {T : State} {h : Heap} (hQ : x.Q = fun r _ _ => r = some (.int 1)) (B : Is x "com/example/fordring/fordring/account/PaymentReferenceForCustomerPinLaw" code 16 ({ frames := 10, cells := 56, slots := 2496, locals := 224 } : Room) (some .boolean) "law") {p0 : Int64} {p1 : Int32} (W : Wk E x T h [] 0 0) : G E x T (fr x 0 #[.val (.long p0), .second, .val (.int p1), .unset, .unset, .unset, .unset, .unset, .unset, .unset, .unset, .unset, .unset, .unset, .unset, .unset] []) := by
  obtain ⟨n, h1, hn, en⟩ := num_n p1
  obtain ⟨w, hw14, em⟩ := num_m p0
  refine w_bipush W B d_law_0 (v := (14 : Int32)) rfl ?_
  refine w_newarray W B d_law_2 rfl (wd hw 0 rfl) (by decide) (cap := 14) (by decide) (by decide) (by decide) (by decide) ?_
  intro T1 h2 b3 k4 W5 g6 X7 A8
  have A9 : Arv E.Z h2 b3 k4 .long (14 : Int32) [(.long (0 : Int64)), (.long (0 : Int64)), (.long (0 : Int64)), (.long (0 : Int64)), (.long (0 : Int64)), (.long (0 : Int64)), (.long (0 : Int64)), (.long (0 : Int64)), (.long (0 : Int64)), (.long (0 : Int64)), (.long (0 : Int64)), (.long (0 : Int64)), (.long (0 : Int64)), (.long (0 : Int64))] (.long (0 : Int64)) := A8.pad (pad_rep [] (.long (0 : Int64)) 14)
  show G E x T1 (fr x 4 #[.val (.long p0), .second, .val (.int p1), .unset, .unset, .unset, .unset, .unset, .unset, .unset, .unset, .unset, .unset, .unset, .unset, .unset] [(.ref b3)])
  refine w_dup W5 B d_law_4 rfl ?_
  refine w_iconst W5 B d_law_5 (v := (0 : Int32)) rfl ?_
  refine w_lconst W5 B d_law_6 (v := (1 : Int64)) rfl ?_
  refine w_lastore W5 B d_law_7 (List.Mem.head _) A9 (by decide) (i := 0) rfl (by first | decide | simp) ?_
  intro T10 h11 W12 K13 A14
  have A15 : Arv E.Z h11 b3 k4 .long (14 : Int32) [(.long (1 : Int64)), (.long (0 : Int64)), (.long (0 : Int64)), (.long (0 : Int64)), (.long (0 : Int64)), (.long (0 : Int64)), (.long (0 : Int64)), (.long (0 : Int64)), (.long (0 : Int64)), (.long (0 : Int64)), (.long (0 : Int64)), (.long (0 : Int64)), (.long (0 : Int64)), (.long (0 : Int64))] (.long (0 : Int64)) := A14
  refine w_dup W12 B d_law_8 rfl ?_
  refine w_iconst W12 B d_law_9 (v := (1 : Int32)) rfl ?_
  refine w_ldc2J W12 B d_law_10 (wd hw 1 rfl) ?_
  refine w_lastore W12 B d_law_13 (List.Mem.head _) A15 (by decide) (i := 1) rfl (by first | decide | simp) ?_
  intro T16 h17 W18 K19 A20
  have A21 : Arv E.Z h17 b3 k4 .long (14 : Int32) [(.long (1 : Int64)), (.long (10 : Int64)), (.long (0 : Int64)), (.long (0 : Int64)), (.long (0 : Int64)), (.long (0 : Int64)), (.long (0 : Int64)), (.long (0 : Int64)), (.long (0 : Int64)), (.long (0 : Int64)), (.long (0 : Int64)), (.long (0 : Int64)), (.long (0 : Int64)), (.long (0 : Int64))] (.long (0 : Int64)) := A20
  refine w_dup W18 B d_law_14 rfl ?_
  refine w_iconst W18 B d_law_15 (v := (2 : Int32)) rfl ?_
  refine w_ldc2J W18 B d_law_16 (wd hw 2 rfl) ?_
  refine w_lastore W18 B d_law_19 (List.Mem.head _) A21 (by decide) (i := 2) rfl (by first | decide | simp) ?_
  intro T22 h23 W24 K25 A26
  have A27 : Arv E.Z h23 b3 k4 .long (14 : Int32) [(.long (1 : Int64)), (.long (10 : Int64)), (.long (100 : Int64)), (.long (0 : Int64)), (.long (0 : Int64)), (.long (0 : Int64)), (.long (0 : Int64)), (.long (0 : Int64)), (.long (0 : Int64)), (.long (0 : Int64)), (.long (0 : Int64)), (.long (0 : Int64)), (.long (0 : Int64)), (.long (0 : Int64))] (.long (0 : Int64)) := A26
  refine w_dup W24 B d_law_20 rfl ?_
  refine w_iconst W24 B d_law_21 (v := (3 : Int32)) rfl ?_
  refine w_ldc2J W24 B d_law_22 (wd hw 3 rfl) ?_
  refine w_lastore W24 B d_law_25 (List.Mem.head _) A27 (by decide) (i := 3) rfl (by first | decide | simp) ?_
  intro T28 h29 W30 K31 A32
  have A33 : Arv E.Z h29 b3 k4 .long (14 : Int32) [(.long (1 : Int64)), (.long (10 : Int64)), (.long (100 : Int64)), (.long (1000 : Int64)), (.long (0 : Int64)), (.long (0 : Int64)), (.long (0 : Int64)), (.long (0 : Int64)), (.long (0 : Int64)), (.long (0 : Int64)), (.long (0 : Int64)), (.long (0 : Int64)), (.long (0 : Int64)), (.long (0 : Int64))] (.long (0 : Int64)) := A32
  refine w_dup W30 B d_law_26 rfl ?_
  refine w_iconst W30 B d_law_27 (v := (4 : Int32)) rfl ?_
  refine w_ldc2J W30 B d_law_28 (wd hw 4 rfl) ?_
  refine w_lastore W30 B d_law_31 (List.Mem.head _) A33 (by decide) (i := 4) rfl (by first | decide | simp) ?_
  intro T34 h35 W36 K37 A38
  have A39 : Arv E.Z h35 b3 k4 .long (14 : Int32) [(.long (1 : Int64)), (.long (10 : Int64)), (.long (100 : Int64)), (.long (1000 : Int64)), (.long (10000 : Int64)), (.long (0 : Int64)), (.long (0 : Int64)), (.long (0 : Int64)), (.long (0 : Int64)), (.long (0 : Int64)), (.long (0 : Int64)), (.long (0 : Int64)), (.long (0 : Int64)), (.long (0 : Int64))] (.long (0 : Int64)) := A38
  refine w_dup W36 B d_law_32 rfl ?_
  refine w_iconst W36 B d_law_33 (v := (5 : Int32)) rfl ?_
  refine w_ldc2J W36 B d_law_34 (wd hw 5 rfl) ?_
  refine w_lastore W36 B d_law_37 (List.Mem.head _) A39 (by decide) (i := 5) rfl (by first | decide | simp) ?_
  intro T40 h41 W42 K43 A44
  have A45 : Arv E.Z h41 b3 k4 .long (14 : Int32) [(.long (1 : Int64)), (.long (10 : Int64)), (.long (100 : Int64)), (.long (1000 : Int64)), (.long (10000 : Int64)), (.long (100000 : Int64)), (.long (0 : Int64)), (.long (0 : Int64)), (.long (0 : Int64)), (.long (0 : Int64)), (.long (0 : Int64)), (.long (0 : Int64)), (.long (0 : Int64)), (.long (0 : Int64))] (.long (0 : Int64)) := A44
  refine w_dup W42 B d_law_38 rfl ?_
  refine w_bipush W42 B d_law_39 (v := (6 : Int32)) rfl ?_
  refine w_ldc2J W42 B d_law_41 (wd hw 6 rfl) ?_
  refine w_lastore W42 B d_law_44 (List.Mem.head _) A45 (by decide) (i := 6) rfl (by first | decide | simp) ?_
  intro T46 h47 W48 K49 A50
  have A51 : Arv E.Z h47 b3 k4 .long (14 : Int32) [(.long (1 : Int64)), (.long (10 : Int64)), (.long (100 : Int64)), (.long (1000 : Int64)), (.long (10000 : Int64)), (.long (100000 : Int64)), (.long (1000000 : Int64)), (.long (0 : Int64)), (.long (0 : Int64)), (.long (0 : Int64)), (.long (0 : Int64)), (.long (0 : Int64)), (.long (0 : Int64)), (.long (0 : Int64))] (.long (0 : Int64)) := A50
  refine w_dup W48 B d_law_45 rfl ?_
  refine w_bipush W48 B d_law_46 (v := (7 : Int32)) rfl ?_
  refine w_ldc2J W48 B d_law_48 (wd hw 7 rfl) ?_
  refine w_lastore W48 B d_law_51 (List.Mem.head _) A51 (by decide) (i := 7) rfl (by first | decide | simp) ?_
  intro T52 h53 W54 K55 A56
  have A57 : Arv E.Z h53 b3 k4 .long (14 : Int32) [(.long (1 : Int64)), (.long (10 : Int64)), (.long (100 : Int64)), (.long (1000 : Int64)), (.long (10000 : Int64)), (.long (100000 : Int64)), (.long (1000000 : Int64)), (.long (10000000 : Int64)), (.long (0 : Int64)), (.long (0 : Int64)), (.long (0 : Int64)), (.long (0 : Int64)), (.long (0 : Int64)), (.long (0 : Int64))] (.long (0 : Int64)) := A56
  refine w_dup W54 B d_law_52 rfl ?_
  refine w_bipush W54 B d_law_53 (v := (8 : Int32)) rfl ?_
  refine w_ldc2J W54 B d_law_55 (wd hw 8 rfl) ?_
  refine w_lastore W54 B d_law_58 (List.Mem.head _) A57 (by decide) (i := 8) rfl (by first | decide | simp) ?_
  intro T58 h59 W60 K61 A62
  have A63 : Arv E.Z h59 b3 k4 .long (14 : Int32) [(.long (1 : Int64)), (.long (10 : Int64)), (.long (100 : Int64)), (.long (1000 : Int64)), (.long (10000 : Int64)), (.long (100000 : Int64)), (.long (1000000 : Int64)), (.long (10000000 : Int64)), (.long (100000000 : Int64)), (.long (0 : Int64)), (.long (0 : Int64)), (.long (0 : Int64)), (.long (0 : Int64)), (.long (0 : Int64))] (.long (0 : Int64)) := A62
  refine w_dup W60 B d_law_59 rfl ?_
  refine w_bipush W60 B d_law_60 (v := (9 : Int32)) rfl ?_
  refine w_ldc2J W60 B d_law_62 (wd hw 9 rfl) ?_
  refine w_lastore W60 B d_law_65 (List.Mem.head _) A63 (by decide) (i := 9) rfl (by first | decide | simp) ?_
  intro T64 h65 W66 K67 A68
  have A69 : Arv E.Z h65 b3 k4 .long (14 : Int32) [(.long (1 : Int64)), (.long (10 : Int64)), (.long (100 : Int64)), (.long (1000 : Int64)), (.long (10000 : Int64)), (.long (100000 : Int64)), (.long (1000000 : Int64)), (.long (10000000 : Int64)), (.long (100000000 : Int64)), (.long (1000000000 : Int64)), (.long (0 : Int64)), (.long (0 : Int64)), (.long (0 : Int64)), (.long (0 : Int64))] (.long (0 : Int64)) := A68
  refine w_dup W66 B d_law_66 rfl ?_
  refine w_bipush W66 B d_law_67 (v := (10 : Int32)) rfl ?_
  refine w_ldc2J W66 B d_law_69 (wd hw 10 rfl) ?_
  refine w_lastore W66 B d_law_72 (List.Mem.head _) A69 (by decide) (i := 10) rfl (by first | decide | simp) ?_
  intro T70 h71 W72 K73 A74
  have A75 : Arv E.Z h71 b3 k4 .long (14 : Int32) [(.long (1 : Int64)), (.long (10 : Int64)), (.long (100 : Int64)), (.long (1000 : Int64)), (.long (10000 : Int64)), (.long (100000 : Int64)), (.long (1000000 : Int64)), (.long (10000000 : Int64)), (.long (100000000 : Int64)), (.long (1000000000 : Int64)), (.long (10000000000 : Int64)), (.long (0 : Int64)), (.long (0 : Int64)), (.long (0 : Int64))] (.long (0 : Int64)) := A74
  refine w_dup W72 B d_law_73 rfl ?_
  refine w_bipush W72 B d_law_74 (v := (11 : Int32)) rfl ?_
  refine w_ldc2J W72 B d_law_76 (wd hw 11 rfl) ?_
  refine w_lastore W72 B d_law_79 (List.Mem.head _) A75 (by decide) (i := 11) rfl (by first | decide | simp) ?_
  intro T76 h77 W78 K79 A80
  have A81 : Arv E.Z h77 b3 k4 .long (14 : Int32) [(.long (1 : Int64)), (.long (10 : Int64)), (.long (100 : Int64)), (.long (1000 : Int64)), (.long (10000 : Int64)), (.long (100000 : Int64)), (.long (1000000 : Int64)), (.long (10000000 : Int64)), (.long (100000000 : Int64)), (.long (1000000000 : Int64)), (.long (10000000000 : Int64)), (.long (100000000000 : Int64)), (.long (0 : Int64)), (.long (0 : Int64))] (.long (0 : Int64)) := A80
  refine w_dup W78 B d_law_80 rfl ?_
  refine w_bipush W78 B d_law_81 (v := (12 : Int32)) rfl ?_
  refine w_ldc2J W78 B d_law_83 (wd hw 12 rfl) ?_
  refine w_lastore W78 B d_law_86 (List.Mem.head _) A81 (by decide) (i := 12) rfl (by first | decide | simp) ?_
  intro T82 h83 W84 K85 A86
  have A87 : Arv E.Z h83 b3 k4 .long (14 : Int32) [(.long (1 : Int64)), (.long (10 : Int64)), (.long (100 : Int64)), (.long (1000 : Int64)), (.long (10000 : Int64)), (.long (100000 : Int64)), (.long (1000000 : Int64)), (.long (10000000 : Int64)), (.long (100000000 : Int64)), (.long (1000000000 : Int64)), (.long (10000000000 : Int64)), (.long (100000000000 : Int64)), (.long (1000000000000 : Int64)), (.long (0 : Int64))] (.long (0 : Int64)) := A86
  refine w_dup W84 B d_law_87 rfl ?_
  refine w_bipush W84 B d_law_88 (v := (13 : Int32)) rfl ?_
  refine w_ldc2J W84 B d_law_90 (wd hw 13 rfl) ?_
  refine w_lastore W84 B d_law_93 (List.Mem.head _) A87 (by decide) (i := 13) rfl (by first | decide | simp) ?_
  intro T88 h89 W90 K91 A92
  have A93 : Arv E.Z h89 b3 k4 .long (14 : Int32) [(.long (1 : Int64)), (.long (10 : Int64)), (.long (100 : Int64)), (.long (1000 : Int64)), (.long (10000 : Int64)), (.long (100000 : Int64)), (.long (1000000 : Int64)), (.long (10000000 : Int64)), (.long (100000000 : Int64)), (.long (1000000000 : Int64)), (.long (10000000000 : Int64)), (.long (100000000000 : Int64)), (.long (1000000000000 : Int64)), (.long (10000000000000 : Int64))] (.long (0 : Int64)) := A92
  refine w_astoreN W90 B d_law_94 rfl (Ls' := #[.val (.long p0), .second, .val (.int p1), .val (.ref b3), .unset, .unset, .unset, .unset, .unset, .unset, .unset, .unset, .unset, .unset, .unset, .unset]) rfl ?_
  refine w_iconst W90 B d_law_95 (v := (1 : Int32)) rfl ?_
  refine w_iloadN W90 B d_law_96 rfl ?_
  refine w_ldcI W90 B d_law_97 (wd hw 14 rfl) ?_
  refine w_iand W90 B d_law_99 ?_
  refine w_bipush W90 B d_law_100 (v := (14 : Int32)) rfl ?_
  refine w_irem W90 B d_law_102 (by decide) ?_
  refine w_iadd W90 B d_law_103 ?_
  rw [en]
  show G E x T88 (fr x 104 #[.val (.long p0), .second, .val (.int p1), .val (.ref b3), .unset, .unset, .unset, .unset, .unset, .unset, .unset, .unset, .unset, .unset, .unset, .unset] [(.int n.toInt32)])
  refine w_istore W90 B d_law_104 (Ls' := #[.val (.long p0), .second, .val (.int p1), .val (.ref b3), .val (.int n.toInt32), .unset, .unset, .unset, .unset, .unset, .unset, .unset, .unset, .unset, .unset, .unset]) rfl ?_
  refine w_lloadN W90 B d_law_106 rfl ?_
  refine w_ldc2J W90 B d_law_107 (wd hw 15 rfl) ?_
  refine w_land W90 B d_law_110 ?_
  refine w_ldc2J W90 B d_law_111 (wd hw 16 rfl) ?_
  refine w_lrem W90 B d_law_114 (by decide) ?_
  generalize (p0 &&& (9223372036854775807 : Int64)) % (100000000000000 : Int64) = m at em ⊢
  show G E x T88 (fr x 115 #[.val (.long p0), .second, .val (.int p1), .val (.ref b3), .val (.int n.toInt32), .unset, .unset, .unset, .unset, .unset, .unset, .unset, .unset, .unset, .unset, .unset] [(.long m)])
  refine w_lstore W90 B d_law_115 (Ls' := #[.val (.long p0), .second, .val (.int p1), .val (.ref b3), .val (.int n.toInt32), .val (.long m), .second, .unset, .unset, .unset, .unset, .unset, .unset, .unset, .unset, .unset]) rfl ?_
  refine w_iload W90 B d_law_117 rfl ?_
  refine w_bipush W90 B d_law_119 (v := (14 : Int32)) rfl ?_
  by_cases hk : n = 14
  ·
    refine w_icmp_ne W90 B d_law_121 (fun q => q (by rw [hk]; rfl) |>.elim) (fun _ => ?_)
    show G E x T88 (fr x 124 #[.val (.long p0), .second, .val (.int p1), .val (.ref b3), .val (.int n.toInt32), .val (.long m), .second, .unset, .unset, .unset, .unset, .unset, .unset, .unset, .unset, .unset] [])
    refine w_lload W90 B d_law_124 rfl ?_
    refine w_goto W90 B d_law_126 ?_
    exact L136 hw hQ B h1 hn A93 (w := w) em (by rw [hk]; exact hw14) (W90.mono (fun _ q => nomatch q) (by decide) (by decide))
  ·
    refine w_icmp_ne W90 B d_law_121 (fun _ => ?_) (fun q => absurd q (fun q => hk ((n_eq (n := 14) (by omega) (by decide)).mp q)))
    show G E x T88 (fr x 129 #[.val (.long p0), .second, .val (.int p1), .val (.ref b3), .val (.int n.toInt32), .val (.long m), .second, .unset, .unset, .unset, .unset, .unset, .unset, .unset, .unset, .unset] [])
    refine w_lload W90 B d_law_129 rfl ?_
    refine w_aloadN W90 B d_law_131 rfl rfl ?_
    refine w_iload W90 B d_law_132 rfl ?_
    obtain ⟨P, e1, e2, e3⟩ : ∃ P : Int64, ([(.long (1 : Int64)), (.long (10 : Int64)), (.long (100 : Int64)), (.long (1000 : Int64)), (.long (10000 : Int64)), (.long (100000 : Int64)), (.long (1000000 : Int64)), (.long (10000000 : Int64)), (.long (100000000 : Int64)), (.long (1000000000 : Int64)), (.long (10000000000 : Int64)), (.long (100000000000 : Int64)), (.long (1000000000000 : Int64)), (.long (10000000000000 : Int64))] : List Value).getD n (.long (0 : Int64)) = .long P ∧ P.toInt = ((10 ^ n : Nat) : Int) ∧ P ≠ 0 := by
      obtain rfl | rfl | rfl | rfl | rfl | rfl | rfl | rfl | rfl | rfl | rfl | rfl | rfl : n = 1 ∨ n = 2 ∨ n = 3 ∨ n = 4 ∨ n = 5 ∨ n = 6 ∨ n = 7 ∨ n = 8 ∨ n = 9 ∨ n = 10 ∨ n = 11 ∨ n = 12 ∨ n = 13 := by omega
      all_goals exact ⟨_, rfl, by decide, by decide⟩
    refine w_laload W90 B d_law_134 A93 ⟨n_nn (by omega), (n_lt (n := 14) (by omega) (by decide)).mpr (by omega)⟩ (v := .long P) (by rw [n_clamp (by omega)]; exact e1) ?_
    refine w_lrem W90 B d_law_135 e3 ?_
    exact L136 hw hQ B h1 hn A93 (w := w % 10 ^ n) (num_v em e2) (Nat.mod_lt _ (Nat.pow_pos (by decide))) (W90.mono (fun _ q => nomatch q) (by decide) (by decide))
set_option maxRecDepth 65536 in
set_option maxHeartbeats 4000000 in
theorem law_met {E : Gl} (hw : Tb E) (p0 : Int64) (p1 : Int32) (h : Heap) :
    MetT tables_1 E x code maxLocals ret room_1 #[.long p0, .int p1] h [] (fun r _ _ => r = some (.int 1)) := by
  refine met_of (by decide +kernel) fun x T hQ B W => ?_
  refine G.cast (g' := fr x 0 #[.val (.long p0), .second, .val (.int p1), .unset, .unset, .unset, .unset, .unset, .unset, .unset, .unset, .unset, .unset, .unset, .unset, .unset] []) (by simp [entryFrame, mkF, argsToLocals, Own.cat_i, Own.cat_j, maxLocals]) ?_
  exact L0 hw hQ B W
set_option maxRecDepth 65536 in
set_option maxHeartbeats 4000000 in
theorem comes_1 {Post : Tables → Env → Array Value → State → Outcome → State → Prop} (hpost : ∀ tb e args s v u, (limb_1_1.after args s (.returned v) u = true ∧ limb_1_2.after args s (.returned v) u = true ∧ True) → FramedW s (.returned v) u (Jvm.fieldLocs frame_1_writes args s ++ Jvm.arrayLocs frame_1_arrays args s ++ Jvm.staticLocs frame_1_statics s) 56 2496 → Post tb e args s (.returned v) u) :
    ArmFor flags0 classFile x code maxLocals ret World_1 tables_1 room_1 Calls_1 rest_1 Pre_1 Post := by
  intro l hfl _ _ p e ha hc hk s m args below hf hA hF happ hP
  obtain ⟨hcalls, hrest, hpre⟩ := hP
  obtain ⟨-, -, -, hnamed, -, -, -, hat⟩ := (Spec.applies_iff hf).mp happ
  obtain ⟨hg, hn⟩ := and_e (Cond.before_iff.mp (show (Jvm.Cond.and given_1 narrow_1).before args s = true from hpre))
  obtain ⟨hg0, g0⟩ := and_e hg
  obtain ⟨k0, g1⟩ := and_e g0
  have k1 := g1
  obtain ⟨w0, w1, rfl⟩ : ∃ w0 w1 : Value, args = #[w0, w1] := by
    have hs : args.size = 2 := by simpa [Cond.value, given_1] using hg0
    obtain ⟨L⟩ := args
    match L, hs with
    | [w0, w1], _ => exact ⟨w0, w1, rfl⟩
  obtain ⟨p0, e0⟩ := isL_v k0
  obtain rfl : w0 = (.long p0) := Option.some.inj e0
  obtain ⟨p1, e1⟩ := is_v k1
  obtain rfl : w1 = (.int p1) := Option.some.inj e1
  have hw0 := fun d (hd : d ∈ tables_1) => atoms_spec (ws := Jvm.Cond.code x code maxLocals ret :: tables_1) hat d (List.mem_cons_of_mem _ hd)
  obtain ⟨hsets, hown0⟩ := atoms_of _ (rest_1_c_eq ▸ (show rest_1_c.before _ s = true from hrest))
  have hfit : Fit s := fun {y c} hc i hi => by
    obtain ⟨ha, rfl⟩ := Array.getElem?_eq_some_iff.mp hc
    have q := List.all_eq_true.mp ((Array.all_eq_true_iff_forall_mem.mp hF) _ (Array.getElem_mem ha)) i (List.mem_range.mpr hi)
    simpa [Array.getElem?_eq_getElem hi] using q
  let E : Gl := (l, s, #[(.long p0), (.int p1)], s.heap.size, true, consts_1)
  have hw : Tb E := ⟨hw0, hsets, rfl, rfl⟩
  have hEW : EW E.Z E.a E.K := (EW.cons (text := "0") (wd hw 117 rfl) (by decide) (EW.cons (text := "") (wd hw 253 rfl) (by decide) EW.nil))
  have hCH : CHv E.Z E.K E.Z.vm E.Z.heap := CHv.start hEW hcalls.1 (sd hw 2 rfl) (wd hw 41 rfl) (wd hw 24 rfl)
  obtain ⟨n, o, h1, h2, h3, v, L, F', rfl, rfl, N, -, -, -, hq⟩ := law_met hw p0 p1 _ p e ha hc hk s m _ below hf ((Spec.applies_iff_loose hf).mp happ).1 ⟨rfl, State.Warmed39.refl s, rfl, Old.start s, hCH, (fun _ q => nomatch q), hEW, (fun q => nomatch q)⟩ trivial
  have hq : ReturnedEndW _ _ _ _ _ _ := hq
  exact ⟨n, _, h1, h2, h3, hpost _ _ _ _ _ _ ⟨Cond.after_iff.mpr rfl, Cond.after_iff.mpr (eq_i res_at (Term.int_eval (1)) rfl), trivial⟩ ⟨hq.1, hq.2.1, hq.2.2.1, hq.2.2.2.sift fun y hy => Or.inr (N y hy)⟩⟩
theorem main_1_1 : Claimed_1_1 := comes_1 fun _ _ _ _ _ _ h hF => ⟨h.1, hF⟩
theorem main_1_2 : Claimed_1_2 := comes_1 fun _ _ _ _ _ _ h hF => ⟨h.2.1, hF⟩
end Jvm.Pilot.@@N@@
namespace Jvm.Pilot.@@N@@
open Jvm Jvm.ClassFile Sem Op Lib Jvm.Free Jvm.Stand Jvm.Pilot.@@N@@.Jvm.D
/-! MADE BY PROGRAM (witnessworld.py) out of the Statement's table words and the real class files: 28 classes; the members and pool entries that the words name. The judged class is class 1, her method 3. -/
namespace start1
open Jvm.ClassFile
def u (s : String) : CpInfo := .utf8 (stringToUtf16 s)
/-- a pool by its gaps: so many unusable entries, then the entry; so many at the end -/
def gap : Nat → List CpInfo → List CpInfo
  | 0, r => r
  | n + 1, r => .unusable :: gap n r
def poolList (es : List (Nat × CpInfo)) (last : Nat) : List CpInfo := es.foldr (fun e r => gap e.1 (e.2 :: r)) (gap last [])
def pool (es : List (Nat × CpInfo)) (last : Nat) : Array CpInfo := ⟨poolList es last⟩
def fileOf (pool : Array CpInfo) (this : Nat) (attrs : Array Attribute := #[]) (ms : Array MethodInfo := #[]) (fl : Nat := 33) (sup : Nat := 0) (ifs : Array Nat := #[]) (fds : Array FieldInfo := #[]) : ClassFile where
  minorVersion := 0
  majorVersion := 65
  constantPool := pool
  accessFlags := fl
  thisClass := this
  superClass := sup
  interfaces := ifs
  fields := fds
  methods := ms
  attributes := attrs
def plain (name : String) (sup : Option ClassId) : Class where
  name := name
  kind := .ordinary
  loader := none
  accessFlags := 33
  super := sup
  interfaces := #[]
  cf := none
  fields := #[]
  methods := #[]
  instanceTypes := #[]
  staticTypes := #[]
  resolved := #[]
  callSites := []
  init := .initialized
  statics := none
  mirror := none

def pool0 : Array CpInfo := pool [(5, u "<init>"), (0, u "()V"), (1, .class_ 10), (1, u "java/lang/Object")] 113

def k0c0 : Code := { maxStack := 0, maxLocals := 1, code := object_method_1_code, exceptionTable := #[], attributes := #[] }
def k0m0 : Method := { name := "<init>", desc := "()V", sig := { parameters := [], returnType := none }, accessFlags := 1, code := some k0c0 }
/-- java/lang/Object -/
def k0 : Class := { plain "java/lang/Object" none with
  accessFlags := 33
  interfaces := #[]
  cf := some (fileOf pool0 8 #[] #[{ accessFlags := 1, nameIndex := 5, descriptorIndex := 6, attributes := #[] }] 33 0 #[] #[])
  fields := #[]
  methods := #[k0m0]
  instanceTypes := #[]
  staticTypes := #[]
  resolved := Array.replicate 124 none
  statics := none }

def pool1 : Array CpInfo := pool [(2, .class_ 4), (1, u "java/lang/Object"), (0, u "<init>"), (0, u "()V"), (0, .long 10), (1, .long 100), (1, .long 1000), (1, .long 10000), (1, .long 100000), (1, .long 1000000), (1, .long 10000000), (1, .long 100000000), (1, .long 1000000000), (1, .long 10000000000), (1, .long 100000000000), (1, .long 1000000000000), (1, .long 10000000000000), (1, .integer 2147483647), (2, .long 9223372036854775807), (1, .long 100000000000000), (1, .methodref 41 42), (0, .class_ 43), (0, .nameAndType 44 45), (0, u "com/example/fordring/fordring/account/PaymentReferenceForCustomerPinLaw"), (0, u "dig"), (0, u "(JJ)I"), (0, .class_ 47), (0, u "java/lang/String"), (0, .methodref 46 49), (0, .nameAndType 5 50), (0, u "([C)V"), (0, .methodref 41 52), (0, .nameAndType 53 54), (0, u "dbl"), (0, u "(I)I"), (0, .methodref 56 57), (0, .class_ 58), (0, .nameAndType 59 60), (0, u "com/example/fordring/fordring/account/PaymentReference"), (0, u "forCustomer"), (0, u "(Ljava/lang/String;)Lcom/example/fordring/fordring/account/PaymentReference;"), (0, .methodref 56 62), (0, .nameAndType 63 64), (0, u "toString"), (0, u "()Ljava/lang/String;"), (0, .methodref 46 66), (0, .nameAndType 67 68), (0, u "equals"), (0, u "(Ljava/lang/Object;)Z"), (2, u "law"), (0, u "(JI)Z")] 9

def k1m0 : Method := { name := "<init>", desc := "()V", sig := { parameters := [], returnType := none }, accessFlags := 1, code := none }
def k1c1 : Code := { maxStack := 3, maxLocals := 2, code := method_2_code, exceptionTable := #[], attributes := #[] }
def k1m1 : Method := { name := "dbl", desc := "(I)I", sig := { parameters := [.int], returnType := some .int }, accessFlags := 10, code := some k1c1 }
def k1c2 : Code := { maxStack := 4, maxLocals := 4, code := method_3_code, exceptionTable := #[], attributes := #[] }
def k1m2 : Method := { name := "dig", desc := "(JJ)I", sig := { parameters := [.long, .long], returnType := some .int }, accessFlags := 10, code := some k1c2 }
def k1c3 : Code := { maxStack := 6, maxLocals := 16, code := code, exceptionTable := #[], attributes := #[] }
def k1m3 : Method := { name := "law", desc := "(JI)Z", sig := { parameters := [.long, .int], returnType := some .boolean }, accessFlags := 9, code := some k1c3 }
/-- com/example/fordring/fordring/account/PaymentReferenceForCustomerPinLaw -/
def k1 : Class := { plain "com/example/fordring/fordring/account/PaymentReferenceForCustomerPinLaw" (some 0) with
  accessFlags := 49
  interfaces := #[]
  cf := some (fileOf pool1 41 #[] #[{ accessFlags := 1, nameIndex := 5, descriptorIndex := 6, attributes := #[] }, { accessFlags := 10, nameIndex := 53, descriptorIndex := 54, attributes := #[] }, { accessFlags := 10, nameIndex := 44, descriptorIndex := 45, attributes := #[] }, { accessFlags := 9, nameIndex := 71, descriptorIndex := 72, attributes := #[] }] 49 2 #[] #[])
  fields := #[]
  methods := #[k1m0, k1m1, k1m2, k1m3]
  instanceTypes := #[]
  staticTypes := #[]
  resolved := Array.replicate 82 none
  statics := none }

def pool2 : Array CpInfo := pool [(1, .class_ 2), (0, u "java/io/Serializable"), (0, .class_ 4), (0, u "java/lang/Object")] 2

/-- java/io/Serializable -/
def k2 : Class := { plain "java/io/Serializable" (some 0) with
  accessFlags := 1537
  interfaces := #[]
  cf := some (fileOf pool2 1 #[] #[] 1537 3 #[] #[])
  fields := #[]
  methods := #[]
  instanceTypes := #[]
  staticTypes := #[]
  resolved := Array.replicate 7 none
  statics := none }

def pool3 : Array CpInfo := pool [(1, .class_ 2), (0, u "java/lang/Comparable"), (0, .class_ 4), (0, u "java/lang/Object")] 7

/-- java/lang/Comparable -/
def k3 : Class := { plain "java/lang/Comparable" (some 0) with
  accessFlags := 1537
  interfaces := #[]
  cf := some (fileOf pool3 1 #[] #[] 1537 3 #[] #[])
  fields := #[]
  methods := #[]
  instanceTypes := #[]
  staticTypes := #[]
  resolved := Array.replicate 12 none
  statics := none }

def pool4 : Array CpInfo := pool [(2, .class_ 4), (1, u "java/lang/CharSequence"), (42, .class_ 48), (0, u "java/lang/CharSequence$1CodePointIterator"), (10, .class_ 60), (0, u "java/lang/CharSequence$1CharIterator"), (5, .class_ 67), (0, u "java/lang/Object")] 63

/-- java/lang/CharSequence -/
def k4 : Class := { plain "java/lang/CharSequence" (some 0) with
  accessFlags := 1537
  interfaces := #[]
  cf := some (fileOf pool4 2 #[.nestMembers #[47, 59]] #[] 1537 66 #[] #[])
  fields := #[]
  methods := #[]
  instanceTypes := #[]
  staticTypes := #[]
  resolved := Array.replicate 131 none
  statics := none }

def pool5 : Array CpInfo := pool [(1, .class_ 2), (0, u "java/lang/constant/Constable"), (0, .class_ 4), (0, u "java/lang/Object")] 6

/-- java/lang/constant/Constable -/
def k5 : Class := { plain "java/lang/constant/Constable" (some 0) with
  accessFlags := 1537
  interfaces := #[]
  cf := some (fileOf pool5 1 #[] #[] 1537 3 #[] #[])
  fields := #[]
  methods := #[]
  instanceTypes := #[]
  staticTypes := #[]
  resolved := Array.replicate 11 none
  statics := none }

def pool6 : Array CpInfo := pool [(1, .class_ 2), (0, u "java/lang/constant/ConstantDesc"), (0, .class_ 4), (0, u "java/lang/Object")] 32

/-- java/lang/constant/ConstantDesc -/
def k6 : Class := { plain "java/lang/constant/ConstantDesc" (some 0) with
  accessFlags := 1537
  interfaces := #[]
  cf := some (fileOf pool6 1 #[] #[] 1537 3 #[] #[])
  fields := #[]
  methods := #[]
  instanceTypes := #[]
  staticTypes := #[]
  resolved := Array.replicate 37 none
  statics := none }

def pool7 : Array CpInfo := pool [(1, .methodref 2 3), (0, .class_ 4), (0, .nameAndType 5 6), (0, u "java/lang/Object"), (0, u "<init>"), (0, u "()V"), (0, .string 8), (0, u ""), (0, .fieldref 10 11), (0, .class_ 12), (0, .nameAndType 13 14), (0, u "java/lang/String"), (0, u "value"), (0, u "[B"), (0, .fieldref 10 16), (0, .nameAndType 17 18), (0, u "coder"), (0, u "B"), (2, u "hash"), (0, u "I"), (2, u "hashIsZero"), (0, u "Z"), (0, .methodref 10 28), (0, .nameAndType 5 29), (0, u "([CIILjava/lang/Void;)V"), (8, .fieldref 10 39), (0, .nameAndType 40 26), (0, u "COMPACT_STRINGS"), (1, .class_ 44), (1, u "java/lang/StringUTF16"), (0, u "compress"), (1, .methodref 42 48), (0, .nameAndType 49 50), (0, u "coderFromArrayLen"), (0, u "([BI)B"), (3, .methodref 55 56), (0, .class_ 57), (0, .nameAndType 58 59), (0, u "java/util/Arrays"), (0, u "copyOfRange"), (0, u "([BII)[B"), (47, .class_ 109), (1, u "java/lang/StringLatin1"), (32, u "()Z"), (34, .methodref 42 178), (0, .nameAndType 45 179), (0, u "([CII)[B"), (13, .class_ 195), (1, u "java/lang/System"), (13, .methodref 10 210), (0, .nameAndType 5 211), (0, u "([BB)V"), (0, .methodref 193 213), (0, .nameAndType 214 215), (0, u "arraycopy"), (0, u "(Ljava/lang/Object;ILjava/lang/Object;II)V"), (118, u "()I"), (0, .methodref 10 336), (0, .nameAndType 17 337), (0, u "()B"), (2, u "()[B"), (22, u "([BI)C"), (27, u "(II)V"), (35, u "(I)C"), (61, .methodref 10 490), (0, .nameAndType 5 491), (0, u "(Ljava/lang/AbstractStringBuilder;Ljava/lang/Void;)V"), (0, .methodref 10 493), (0, .nameAndType 494 142), (0, u "isLatin1"), (0, .methodref 107 496), (0, .nameAndType 497 363), (0, u "charAt"), (3, u "checkIndex"), (4, .nameAndType 507 334), (0, u "length"), (24, u "getBytes"), (8, .methodref 107 542), (0, .nameAndType 543 544), (0, u "equals"), (0, u "([B[B)Z"), (4, .methodref 550 506), (0, .class_ 551), (0, u "java/lang/AbstractStringBuilder"), (0, .methodref 550 553), (0, .nameAndType 554 340), (0, u "getValue"), (18, u "(Ljava/lang/Object;)Z"), (1, .class_ 576), (0, u "java/lang/CharSequence"), (22, u "CASE_INSENSITIVE_ORDER"), (0, u "Ljava/util/Comparator;"), (91, u "isEmpty"), (128, u "([BIB)V"), (69, u "repeat"), (0, u "(I)Ljava/lang/String;"), (50, .integer 2147483647), (66, u "([C)V"), (30, .methodref 55 1042), (0, .nameAndType 1043 211), (0, u "fill"), (3, .methodref 550 493), (5, .fieldref 1054 1055), (0, .class_ 1056), (0, .nameAndType 1057 1058), (0, u "jdk/internal/util/Preconditions"), (0, u "SIOOBE_FORMATTER"), (0, u "Ljava/util/function/BiFunction;"), (0, .methodref 1054 1060), (0, .nameAndType 501 1061), (0, u "(IILjava/util/function/BiFunction;)I"), (39, u "serialPersistentFields"), (0, u "[Ljava/io/ObjectStreamField;"), (0, .class_ 1104), (0, u "java/lang/String$CaseInsensitiveComparator"), (1, .class_ 1107), (0, u "java/io/Serializable"), (0, .class_ 1109), (0, u "java/lang/Comparable"), (0, .class_ 1111), (0, u "java/lang/constant/Constable"), (0, .class_ 1113), (0, u "java/lang/constant/ConstantDesc"), (2, u "serialVersionUID"), (0, u "J"), (3, u "REPL"), (0, u "C"), (2, u "LATIN1"), (1, u "UTF16"), (105, u "(Ljava/lang/StringBuilder;)V")] 217

def k7m0 : Method := { name := "<init>", desc := "()V", sig := { parameters := [], returnType := none }, accessFlags := 1, code := none }
def k7c1 : Code := { maxStack := 5, maxLocals := 2, code := jdk_42_method_3_code, exceptionTable := #[], attributes := #[] }
def k7m1 : Method := { name := "<init>", desc := "([C)V", sig := { parameters := [(.array .char)], returnType := none }, accessFlags := 1, code := some k7c1 }
def k7c2 : Code := { maxStack := 3, maxLocals := 2, code := jdk_42_method_53_code, exceptionTable := #[], attributes := #[] }
def k7m2 : Method := { name := "<init>", desc := "(Ljava/lang/StringBuilder;)V", sig := { parameters := [(.object "java/lang/StringBuilder")], returnType := none }, accessFlags := 1, code := some k7c2 }
def k7c3 : Code := { maxStack := 2, maxLocals := 1, code := jdk_42_method_54_code, exceptionTable := #[], attributes := #[] }
def k7m3 : Method := { name := "length", desc := "()I", sig := { parameters := [], returnType := some .int }, accessFlags := 1, code := some k7c3 }
def k7c4 : Code := { maxStack := 1, maxLocals := 1, code := jdk_42_method_55_code, exceptionTable := #[], attributes := #[] }
def k7m4 : Method := { name := "isEmpty", desc := "()Z", sig := { parameters := [], returnType := some .boolean }, accessFlags := 1, code := some k7c4 }
def k7c5 : Code := { maxStack := 2, maxLocals := 2, code := jdk_42_method_56_code, exceptionTable := #[], attributes := #[] }
def k7m5 : Method := { name := "charAt", desc := "(I)C", sig := { parameters := [.int], returnType := some .char }, accessFlags := 1, code := some k7c5 }
def k7c6 : Code := { maxStack := 2, maxLocals := 3, code := jdk_42_method_66_code, exceptionTable := #[], attributes := #[] }
def k7m6 : Method := { name := "equals", desc := "(Ljava/lang/Object;)Z", sig := { parameters := [(.object "java/lang/Object")], returnType := some .boolean }, accessFlags := 1, code := some k7c6 }
def k7c7 : Code := { maxStack := 5, maxLocals := 5, code := jdk_42_method_145_code, exceptionTable := #[], attributes := #[] }
def k7m7 : Method := { name := "repeat", desc := "(I)Ljava/lang/String;", sig := { parameters := [.int], returnType := some (.object "java/lang/String") }, accessFlags := 1, code := some k7c7 }
def k7c8 : Code := { maxStack := 5, maxLocals := 4, code := jdk_42_method_147_code, exceptionTable := #[], attributes := #[] }
def k7m8 : Method := { name := "getBytes", desc := "([BIB)V", sig := { parameters := [(.array .byte), .int, .byte], returnType := none }, accessFlags := 0, code := some k7c8 }
def k7c9 : Code := { maxStack := 4, maxLocals := 6, code := jdk_42_method_149_code, exceptionTable := #[], attributes := #[] }
def k7m9 : Method := { name := "<init>", desc := "([CIILjava/lang/Void;)V", sig := { parameters := [(.array .char), .int, .int, (.object "java/lang/Void")], returnType := none }, accessFlags := 2, code := some k7c9 }
def k7c10 : Code := { maxStack := 5, maxLocals := 5, code := jdk_42_method_150_code, exceptionTable := #[], attributes := #[] }
def k7m10 : Method := { name := "<init>", desc := "(Ljava/lang/AbstractStringBuilder;Ljava/lang/Void;)V", sig := { parameters := [(.object "java/lang/AbstractStringBuilder"), (.object "java/lang/Void")], returnType := none }, accessFlags := 0, code := some k7c10 }
def k7c11 : Code := { maxStack := 2, maxLocals := 3, code := jdk_42_method_151_code, exceptionTable := #[], attributes := #[] }
def k7m11 : Method := { name := "<init>", desc := "([BB)V", sig := { parameters := [(.array .byte), .byte], returnType := none }, accessFlags := 0, code := some k7c11 }
def k7c12 : Code := { maxStack := 1, maxLocals := 1, code := jdk_42_method_152_code, exceptionTable := #[], attributes := #[] }
def k7m12 : Method := { name := "coder", desc := "()B", sig := { parameters := [], returnType := some .byte }, accessFlags := 0, code := some k7c12 }
def k7c13 : Code := { maxStack := 1, maxLocals := 1, code := jdk_42_method_154_code, exceptionTable := #[], attributes := #[] }
def k7m13 : Method := { name := "isLatin1", desc := "()Z", sig := { parameters := [], returnType := some .boolean }, accessFlags := 0, code := some k7c13 }
def k7c14 : Code := { maxStack := 3, maxLocals := 2, code := jdk_42_method_155_code, exceptionTable := #[], attributes := #[] }
def k7m14 : Method := { name := "checkIndex", desc := "(II)V", sig := { parameters := [.int, .int], returnType := none }, accessFlags := 8, code := some k7c14 }
/-- java/lang/String -/
def k7 : Class := { plain "java/lang/String" (some 0) with
  accessFlags := 49
  interfaces := #[2, 3, 4, 5, 6]
  cf := some (fileOf pool7 10 #[.nestMembers #[1103]] #[{ accessFlags := 1, nameIndex := 5, descriptorIndex := 6, attributes := #[] }, { accessFlags := 1, nameIndex := 5, descriptorIndex := 1010, attributes := #[] }, { accessFlags := 1, nameIndex := 5, descriptorIndex := 1233, attributes := #[] }, { accessFlags := 1, nameIndex := 507, descriptorIndex := 334, attributes := #[] }, { accessFlags := 1, nameIndex := 692, descriptorIndex := 142, attributes := #[] }, { accessFlags := 1, nameIndex := 497, descriptorIndex := 427, attributes := #[] }, { accessFlags := 1, nameIndex := 543, descriptorIndex := 573, attributes := #[] }, { accessFlags := 1, nameIndex := 891, descriptorIndex := 892, attributes := #[] }, { accessFlags := 0, nameIndex := 532, descriptorIndex := 821, attributes := #[] }, { accessFlags := 2, nameIndex := 5, descriptorIndex := 29, attributes := #[] }, { accessFlags := 0, nameIndex := 5, descriptorIndex := 491, attributes := #[] }, { accessFlags := 0, nameIndex := 5, descriptorIndex := 211, attributes := #[] }, { accessFlags := 0, nameIndex := 17, descriptorIndex := 337, attributes := #[] }, { accessFlags := 0, nameIndex := 494, descriptorIndex := 142, attributes := #[] }, { accessFlags := 8, nameIndex := 501, descriptorIndex := 391, attributes := #[] }] 49 2 #[1106, 1108, 575, 1110, 1112] #[{ accessFlags := 18, nameIndex := 13, descriptorIndex := 14, attributes := #[] }, { accessFlags := 18, nameIndex := 17, descriptorIndex := 18, attributes := #[] }, { accessFlags := 2, nameIndex := 21, descriptorIndex := 22, attributes := #[] }, { accessFlags := 2, nameIndex := 25, descriptorIndex := 26, attributes := #[] }, { accessFlags := 26, nameIndex := 1116, descriptorIndex := 1117, attributes := #[] }, { accessFlags := 24, nameIndex := 40, descriptorIndex := 26, attributes := #[] }, { accessFlags := 26, nameIndex := 1101, descriptorIndex := 1102, attributes := #[] }, { accessFlags := 26, nameIndex := 1121, descriptorIndex := 1122, attributes := #[] }, { accessFlags := 25, nameIndex := 599, descriptorIndex := 600, attributes := #[] }, { accessFlags := 24, nameIndex := 1125, descriptorIndex := 18, attributes := #[] }, { accessFlags := 24, nameIndex := 1127, descriptorIndex := 18, attributes := #[] }])
  fields := #[{ name := "value", type := (.array .byte), accessFlags := 18, slot := 0, constantValue := 0 }, { name := "coder", type := .byte, accessFlags := 18, slot := 1, constantValue := 0 }, { name := "hash", type := .int, accessFlags := 2, slot := 2, constantValue := 0 }, { name := "hashIsZero", type := .boolean, accessFlags := 2, slot := 3, constantValue := 0 }, { name := "serialVersionUID", type := .long, accessFlags := 26, slot := 0, constantValue := 0 }, { name := "COMPACT_STRINGS", type := .boolean, accessFlags := 24, slot := 1, constantValue := 0 }, { name := "serialPersistentFields", type := (.array (.object "java/io/ObjectStreamField")), accessFlags := 26, slot := 2, constantValue := 0 }, { name := "REPL", type := .char, accessFlags := 26, slot := 3, constantValue := 0 }, { name := "CASE_INSENSITIVE_ORDER", type := (.object "java/util/Comparator"), accessFlags := 25, slot := 4, constantValue := 0 }, { name := "LATIN1", type := .byte, accessFlags := 24, slot := 5, constantValue := 0 }, { name := "UTF16", type := .byte, accessFlags := 24, slot := 6, constantValue := 0 }]
  methods := #[k7m0, k7m1, k7m2, k7m3, k7m4, k7m5, k7m6, k7m7, k7m8, k7m9, k7m10, k7m11, k7m12, k7m13, k7m14]
  instanceTypes := #[(.array .byte), .byte, .int, .boolean]
  staticTypes := #[.long, .boolean, (.array (.object "java/io/ObjectStreamField")), .char, (.object "java/util/Comparator"), .byte, .byte]
  resolved := Array.replicate 1451 none
  statics := some 0 }

def pool8 : Array CpInfo := pool [(6, .class_ 8), (1, u "java/lang/Object"), (0, u "<init>"), (0, u "()V"), (1, .class_ 14), (1, u "java/lang/StringUTF16"), (31, u "$assertionsDisabled"), (0, u "Z"), (13, u "HI_BYTE_SHIFT"), (0, u "I"), (2, u "LO_BYTE_SHIFT"), (49, .methodref 12 116), (0, .nameAndType 117 118), (0, u "compress"), (0, u "([CI[BII)I"), (3, u "([CII)[B"), (138, u "coderFromArrayLen"), (0, u "([BI)B"), (106, .class_ 371), (1, u "java/lang/StringUTF16$LinesSpliterator"), (58, u "MAX_LENGTH"), (196, .class_ 628), (0, u "java/lang/StringUTF16$CodePointsSpliterator"), (0, .class_ 630), (0, u "java/lang/StringUTF16$CharsSpliterator")] 4

def k8m0 : Method := { name := "<init>", desc := "()V", sig := { parameters := [], returnType := none }, accessFlags := 0, code := none }
def k8c1 : Code := { maxStack := 2, maxLocals := 2, code := jdk_52_method_15_code, exceptionTable := #[], attributes := #[] }
def k8m1 : Method := { name := "coderFromArrayLen", desc := "([BI)B", sig := { parameters := [(.array .byte), .int], returnType := some .byte }, accessFlags := 8, code := some k8c1 }
def k8c2 : Code := { maxStack := 5, maxLocals := 6, code := jdk_52_method_16_code, exceptionTable := #[], attributes := #[] }
def k8m2 : Method := { name := "compress", desc := "([CII)[B", sig := { parameters := [(.array .char), .int, .int], returnType := some (.array .byte) }, accessFlags := 9, code := some k8c2 }
def k8c3 : Code := { maxStack := 3, maxLocals := 7, code := jdk_52_method_21_code, exceptionTable := #[], attributes := #[] }
def k8m3 : Method := { name := "compress", desc := "([CI[BII)I", sig := { parameters := [(.array .char), .int, (.array .byte), .int, .int], returnType := some .int }, accessFlags := 9, code := some k8c3 }
/-- java/lang/StringUTF16 -/
def k8 : Class := { plain "java/lang/StringUTF16" (some 0) with
  accessFlags := 48
  interfaces := #[]
  cf := some (fileOf pool8 12 #[.nestMembers #[627, 629, 369]] #[{ accessFlags := 0, nameIndex := 9, descriptorIndex := 10, attributes := #[] }, { accessFlags := 8, nameIndex := 261, descriptorIndex := 262, attributes := #[] }, { accessFlags := 9, nameIndex := 117, descriptorIndex := 122, attributes := #[] }, { accessFlags := 9, nameIndex := 117, descriptorIndex := 118, attributes := #[] }] 48 6 #[] #[{ accessFlags := 26, nameIndex := 61, descriptorIndex := 62, attributes := #[] }, { accessFlags := 26, nameIndex := 65, descriptorIndex := 62, attributes := #[] }, { accessFlags := 24, nameIndex := 430, descriptorIndex := 62, attributes := #[] }, { accessFlags := 4120, nameIndex := 46, descriptorIndex := 47, attributes := #[] }])
  fields := #[{ name := "HI_BYTE_SHIFT", type := .int, accessFlags := 26, slot := 0, constantValue := 0 }, { name := "LO_BYTE_SHIFT", type := .int, accessFlags := 26, slot := 1, constantValue := 0 }, { name := "MAX_LENGTH", type := .int, accessFlags := 24, slot := 2, constantValue := 0 }, { name := "$assertionsDisabled", type := .boolean, accessFlags := 4120, slot := 3, constantValue := 0 }]
  methods := #[k8m0, k8m1, k8m2, k8m3]
  instanceTypes := #[]
  staticTypes := #[.int, .int, .int, .boolean]
  resolved := Array.replicate 635 none
  statics := none }

def pool9 : Array CpInfo := pool [(1, .class_ 2), (0, u "com/example/fordring/fordring/account/PaymentReference"), (0, .methodref 4 5), (0, .class_ 6), (0, .nameAndType 7 8), (0, u "java/lang/Object"), (0, u "<init>"), (0, u "()V"), (0, .fieldref 1 10), (0, .nameAndType 11 12), (0, u "digits"), (0, u "Ljava/lang/String;"), (0, .methodref 14 15), (0, .class_ 16), (0, .nameAndType 17 18), (0, u "java/lang/String"), (0, u "isEmpty"), (0, u "()Z"), (0, .methodref 14 20), (0, .nameAndType 21 22), (0, u "length"), (0, u "()I"), (0, .methodref 1 24), (0, .nameAndType 25 26), (0, u "isAsciiDigits"), (0, u "(Ljava/lang/String;)Z"), (15, .nameAndType 7 43), (0, u "(Ljava/lang/String;)V"), (0, .class_ 45), (0, u "java/lang/StringBuilder"), (0, .methodref 44 5), (0, .string 48), (0, u "0"), (0, .methodref 14 50), (0, .nameAndType 51 52), (0, u "repeat"), (0, u "(I)Ljava/lang/String;"), (0, .methodref 44 54), (0, .nameAndType 55 56), (0, u "append"), (0, u "(Ljava/lang/String;)Ljava/lang/StringBuilder;"), (0, .methodref 44 58), (0, .nameAndType 59 60), (0, u "toString"), (0, u "()Ljava/lang/String;"), (0, .methodref 1 62), (0, .nameAndType 63 64), (0, u "checkDigit"), (0, u "(Ljava/lang/String;)C"), (0, .methodref 44 66), (0, .nameAndType 55 67), (0, u "(C)Ljava/lang/StringBuilder;"), (0, .methodref 1 42), (10, .methodref 14 80), (0, .nameAndType 81 82), (0, u "charAt"), (0, u "(I)C"), (11, u "LENGTH"), (0, u "I"), (2, u "PAYLOAD_LENGTH"), (3, u "forCustomer"), (0, u "(Ljava/lang/String;)Lcom/example/fordring/fordring/account/PaymentReference;")] 7

def k9c0 : Code := { maxStack := 2, maxLocals := 2, code := prog_2_method_1_code, exceptionTable := #[], attributes := #[] }
def k9m0 : Method := { name := "<init>", desc := "(Ljava/lang/String;)V", sig := { parameters := [(.object "java/lang/String")], returnType := none }, accessFlags := 2, code := some k9c0 }
def k9c1 : Code := { maxStack := 7, maxLocals := 2, code := prog_2_method_2_code, exceptionTable := #[], attributes := #[] }
def k9m1 : Method := { name := "forCustomer", desc := "(Ljava/lang/String;)Lcom/example/fordring/fordring/account/PaymentReference;", sig := { parameters := [(.object "java/lang/String")], returnType := some (.object "com/example/fordring/fordring/account/PaymentReference") }, accessFlags := 9, code := some k9c1 }
def k9c2 : Code := { maxStack := 4, maxLocals := 5, code := prog_2_method_4_code, exceptionTable := #[], attributes := #[] }
def k9m2 : Method := { name := "checkDigit", desc := "(Ljava/lang/String;)C", sig := { parameters := [(.object "java/lang/String")], returnType := some .char }, accessFlags := 10, code := some k9c2 }
def k9c3 : Code := { maxStack := 2, maxLocals := 3, code := prog_2_method_5_code, exceptionTable := #[], attributes := #[] }
def k9m3 : Method := { name := "isAsciiDigits", desc := "(Ljava/lang/String;)Z", sig := { parameters := [(.object "java/lang/String")], returnType := some .boolean }, accessFlags := 10, code := some k9c3 }
def k9c4 : Code := { maxStack := 1, maxLocals := 1, code := prog_2_method_8_code, exceptionTable := #[], attributes := #[] }
def k9m4 : Method := { name := "toString", desc := "()Ljava/lang/String;", sig := { parameters := [], returnType := some (.object "java/lang/String") }, accessFlags := 1, code := some k9c4 }
/-- com/example/fordring/fordring/account/PaymentReference -/
def k9 : Class := { plain "com/example/fordring/fordring/account/PaymentReference" (some 0) with
  accessFlags := 33
  interfaces := #[]
  cf := some (fileOf pool9 1 #[] #[{ accessFlags := 2, nameIndex := 7, descriptorIndex := 43, attributes := #[] }, { accessFlags := 9, nameIndex := 102, descriptorIndex := 103, attributes := #[] }, { accessFlags := 10, nameIndex := 63, descriptorIndex := 64, attributes := #[] }, { accessFlags := 10, nameIndex := 25, descriptorIndex := 26, attributes := #[] }, { accessFlags := 1, nameIndex := 59, descriptorIndex := 60, attributes := #[] }] 33 4 #[] #[{ accessFlags := 26, nameIndex := 94, descriptorIndex := 95, attributes := #[] }, { accessFlags := 26, nameIndex := 98, descriptorIndex := 95, attributes := #[] }, { accessFlags := 18, nameIndex := 11, descriptorIndex := 12, attributes := #[] }])
  fields := #[{ name := "LENGTH", type := .int, accessFlags := 26, slot := 0, constantValue := 0 }, { name := "PAYLOAD_LENGTH", type := .int, accessFlags := 26, slot := 1, constantValue := 0 }, { name := "digits", type := (.object "java/lang/String"), accessFlags := 18, slot := 0, constantValue := 0 }]
  methods := #[k9m0, k9m1, k9m2, k9m3, k9m4]
  instanceTypes := #[(.object "java/lang/String")]
  staticTypes := #[.int, .int]
  resolved := Array.replicate 111 none
  statics := none }

def pool10 : Array CpInfo := pool [(1, .class_ 2), (0, u "java/lang/String"), (1, .class_ 6), (1, u "java/lang/Object"), (0, u "<init>"), (0, u "()V"), (0, .methodref 1 10), (0, .nameAndType 11 12), (0, u "checkIndex"), (0, u "(II)V"), (1, .class_ 16), (1, u "java/lang/StringLatin1"), (36, u "([BI)C"), (36, u "canEncode"), (14, u "(C)Z"), (15, u "$assertionsDisabled"), (0, u "Z"), (98, .class_ 223), (1, u "java/lang/StringLatin1$LinesSpliterator"), (28, u "charAt"), (28, u "equals"), (0, u "([B[B)Z"), (107, .class_ 391), (0, u "java/lang/StringLatin1$CharsSpliterator")] 3

def k10m0 : Method := { name := "<init>", desc := "()V", sig := { parameters := [], returnType := none }, accessFlags := 0, code := none }
def k10c1 : Code := { maxStack := 2, maxLocals := 2, code := jdk_43_method_2_code, exceptionTable := #[], attributes := #[] }
def k10m1 : Method := { name := "charAt", desc := "([BI)C", sig := { parameters := [(.array .byte), .int], returnType := some .char }, accessFlags := 9, code := some k10c1 }
def k10c2 : Code := { maxStack := 2, maxLocals := 1, code := jdk_43_method_3_code, exceptionTable := #[], attributes := #[] }
def k10m2 : Method := { name := "canEncode", desc := "(C)Z", sig := { parameters := [.char], returnType := some .boolean }, accessFlags := 9, code := some k10c2 }
def k10c3 : Code := { maxStack := 3, maxLocals := 3, code := jdk_43_method_13_code, exceptionTable := #[], attributes := #[] }
def k10m3 : Method := { name := "equals", desc := "([B[B)Z", sig := { parameters := [(.array .byte), (.array .byte)], returnType := some .boolean }, accessFlags := 9, code := some k10c3 }
/-- java/lang/StringLatin1 -/
def k10 : Class := { plain "java/lang/StringLatin1" (some 0) with
  accessFlags := 48
  interfaces := #[]
  cf := some (fileOf pool10 14 #[.nestMembers #[390, 221]] #[{ accessFlags := 0, nameIndex := 7, descriptorIndex := 8, attributes := #[] }, { accessFlags := 9, nameIndex := 252, descriptorIndex := 53, attributes := #[] }, { accessFlags := 9, nameIndex := 90, descriptorIndex := 105, attributes := #[] }, { accessFlags := 9, nameIndex := 281, descriptorIndex := 282, attributes := #[] }] 48 4 #[] #[{ accessFlags := 4120, nameIndex := 121, descriptorIndex := 122, attributes := #[] }])
  fields := #[{ name := "$assertionsDisabled", type := .boolean, accessFlags := 4120, slot := 0, constantValue := 0 }]
  methods := #[k10m0, k10m1, k10m2, k10m3]
  instanceTypes := #[]
  staticTypes := #[.boolean]
  resolved := Array.replicate 395 none
  statics := none }

def pool11 : Array CpInfo := pool [(2, .class_ 4), (1, u "java/lang/Object"), (0, u "<init>"), (0, u "()V"), (17, .class_ 26), (1, u "jdk/internal/util/Preconditions"), (6, u "checkIndex"), (21, .class_ 56), (0, u "jdk/internal/util/Preconditions$4"), (57, .class_ 115), (0, u "jdk/internal/util/Preconditions$1"), (7, u "SIOOBE_FORMATTER"), (0, u "Ljava/util/function/BiFunction;"), (0, .class_ 126), (0, u "jdk/internal/util/Preconditions$2"), (3, u "AIOOBE_FORMATTER"), (0, .class_ 132), (0, u "jdk/internal/util/Preconditions$3"), (3, u "IOOBE_FORMATTER"), (41, u "(IILjava/util/function/BiFunction;)I")] 15

def k11m0 : Method := { name := "<init>", desc := "()V", sig := { parameters := [], returnType := none }, accessFlags := 1, code := none }
def k11c1 : Code := { maxStack := 3, maxLocals := 3, code := jdk_41_method_11_code, exceptionTable := #[], attributes := #[] }
def k11m1 : Method := { name := "checkIndex", desc := "(IILjava/util/function/BiFunction;)I", sig := { parameters := [.int, .int, (.object "java/util/function/BiFunction")], returnType := some .int }, accessFlags := 9, code := some k11c1 }
/-- jdk/internal/util/Preconditions -/
def k11 : Class := { plain "jdk/internal/util/Preconditions" (some 0) with
  accessFlags := 33
  interfaces := #[]
  cf := some (fileOf pool11 24 #[.nestMembers #[55, 131, 125, 114]] #[{ accessFlags := 1, nameIndex := 5, descriptorIndex := 6, attributes := #[] }, { accessFlags := 9, nameIndex := 33, descriptorIndex := 178, attributes := #[] }] 33 2 #[] #[{ accessFlags := 25, nameIndex := 123, descriptorIndex := 124, attributes := #[] }, { accessFlags := 25, nameIndex := 130, descriptorIndex := 124, attributes := #[] }, { accessFlags := 25, nameIndex := 136, descriptorIndex := 124, attributes := #[] }])
  fields := #[{ name := "SIOOBE_FORMATTER", type := (.object "java/util/function/BiFunction"), accessFlags := 25, slot := 0, constantValue := 0 }, { name := "AIOOBE_FORMATTER", type := (.object "java/util/function/BiFunction"), accessFlags := 25, slot := 1, constantValue := 0 }, { name := "IOOBE_FORMATTER", type := (.object "java/util/function/BiFunction"), accessFlags := 25, slot := 2, constantValue := 0 }]
  methods := #[k11m0, k11m1]
  instanceTypes := #[]
  staticTypes := #[(.object "java/util/function/BiFunction"), (.object "java/util/function/BiFunction"), (.object "java/util/function/BiFunction")]
  resolved := Array.replicate 194 none
  statics := some 1 }

def pool12 : Array CpInfo := pool [(1, .class_ 2), (0, u "java/lang/Appendable"), (0, .class_ 4), (0, u "java/lang/Object")] 9

/-- java/lang/Appendable -/
def k12 : Class := { plain "java/lang/Appendable" (some 0) with
  accessFlags := 1537
  interfaces := #[]
  cf := some (fileOf pool12 1 #[] #[] 1537 3 #[] #[])
  fields := #[]
  methods := #[]
  instanceTypes := #[]
  staticTypes := #[]
  resolved := Array.replicate 14 none
  statics := none }

def pool13 : Array CpInfo := pool [(1, .class_ 2), (0, u "java/lang/String"), (0, .methodref 4 5), (0, .class_ 6), (0, .nameAndType 7 8), (0, u "java/lang/Object"), (0, u "<init>"), (0, u "()V"), (1, .class_ 12), (1, u "java/lang/AbstractStringBuilder"), (0, u "EMPTYVALUE"), (0, u "[B"), (0, .fieldref 10 16), (0, .nameAndType 17 14), (0, u "value"), (0, .fieldref 1 19), (0, .nameAndType 20 21), (0, u "COMPACT_STRINGS"), (0, u "Z"), (0, .fieldref 10 23), (0, .nameAndType 24 25), (0, u "coder"), (0, u "B"), (6, .methodref 1 33), (0, .nameAndType 34 35), (0, u "length"), (0, u "()I"), (4, .methodref 1 41), (0, .nameAndType 24 42), (0, u "()B"), (2, u "append"), (0, u "(Ljava/lang/String;)Ljava/lang/AbstractStringBuilder;"), (1, .class_ 49), (0, u "java/lang/CharSequence"), (19, u "(Ljava/lang/String;)V"), (5, u "maybeLatin1"), (3, .fieldref 10 80), (0, .nameAndType 81 82), (0, u "count"), (0, u "I"), (0, .methodref 10 84), (0, .nameAndType 85 86), (0, u "isLatin1"), (0, u "()Z"), (1, .class_ 90), (1, u "java/lang/StringLatin1"), (9, .methodref 10 101), (0, .nameAndType 102 103), (0, u "ensureCapacityInternal"), (0, u "(I)V"), (87, .methodref 88 192), (0, .nameAndType 193 194), (0, u "canEncode"), (0, u "(C)Z"), (13, .methodref 10 209), (0, .nameAndType 210 211), (0, u "putStringAt"), (0, u "(ILjava/lang/String;)V"), (5, u "inflateIfNeededFor"), (2, .nameAndType 221 222), (0, u "getBytes"), (0, u "([BIB)V"), (69, u "(C)Ljava/lang/AbstractStringBuilder;"), (104, .methodref 10 398), (0, .nameAndType 217 69), (0, .methodref 1 220), (3, u "()[B"), (40, .class_ 445), (0, u "java/lang/Appendable"), (106, u "getValue")] 56

def k13m0 : Method := { name := "<init>", desc := "()V", sig := { parameters := [], returnType := none }, accessFlags := 0, code := none }
def k13c1 : Code := { maxStack := 2, maxLocals := 2, code := jdk_68_method_2_code, exceptionTable := #[], attributes := #[] }
def k13m1 : Method := { name := "<init>", desc := "(I)V", sig := { parameters := [.int], returnType := none }, accessFlags := 0, code := some k13c1 }
def k13c2 : Code := { maxStack := 1, maxLocals := 1, code := jdk_68_method_6_code, exceptionTable := #[], attributes := #[] }
def k13m2 : Method := { name := "length", desc := "()I", sig := { parameters := [], returnType := some .int }, accessFlags := 1, code := some k13c2 }
def k13c3 : Code := { maxStack := 4, maxLocals := 3, code := jdk_68_method_9_code, exceptionTable := #[], attributes := #[] }
def k13m3 : Method := { name := "ensureCapacityInternal", desc := "(I)V", sig := { parameters := [.int], returnType := none }, accessFlags := 2, code := some k13c3 }
def k13c4 : Code := { maxStack := 3, maxLocals := 3, code := jdk_68_method_22_code, exceptionTable := #[], attributes := #[] }
def k13m4 : Method := { name := "append", desc := "(Ljava/lang/String;)Ljava/lang/AbstractStringBuilder;", sig := { parameters := [(.object "java/lang/String")], returnType := some (.object "java/lang/AbstractStringBuilder") }, accessFlags := 1, code := some k13c4 }
def k13c5 : Code := { maxStack := 5, maxLocals := 2, code := jdk_68_method_31_code, exceptionTable := #[], attributes := #[] }
def k13m5 : Method := { name := "append", desc := "(C)Ljava/lang/AbstractStringBuilder;", sig := { parameters := [.char], returnType := some (.object "java/lang/AbstractStringBuilder") }, accessFlags := 1, code := some k13c5 }
def k13c6 : Code := { maxStack := 1, maxLocals := 1, code := jdk_68_method_64_code, exceptionTable := #[], attributes := #[] }
def k13m6 : Method := { name := "getValue", desc := "()[B", sig := { parameters := [], returnType := some (.array .byte) }, accessFlags := 16, code := some k13c6 }
def k13c7 : Code := { maxStack := 1, maxLocals := 1, code := jdk_68_method_68_code, exceptionTable := #[], attributes := #[] }
def k13m7 : Method := { name := "isLatin1", desc := "()Z", sig := { parameters := [], returnType := some .boolean }, accessFlags := 16, code := some k13c7 }
def k13c8 : Code := { maxStack := 2, maxLocals := 2, code := jdk_68_method_71_code, exceptionTable := #[], attributes := #[] }
def k13m8 : Method := { name := "inflateIfNeededFor", desc := "(Ljava/lang/String;)V", sig := { parameters := [(.object "java/lang/String")], returnType := none }, accessFlags := 2, code := some k13c8 }
def k13c9 : Code := { maxStack := 4, maxLocals := 3, code := jdk_68_method_73_code, exceptionTable := #[], attributes := #[] }
def k13m9 : Method := { name := "putStringAt", desc := "(ILjava/lang/String;)V", sig := { parameters := [.int, (.object "java/lang/String")], returnType := none }, accessFlags := 2, code := some k13c9 }
/-- java/lang/AbstractStringBuilder -/
def k13 : Class := { plain "java/lang/AbstractStringBuilder" (some 0) with
  accessFlags := 1056
  interfaces := #[12, 4]
  cf := some (fileOf pool13 10 #[] #[{ accessFlags := 0, nameIndex := 7, descriptorIndex := 8, attributes := #[] }, { accessFlags := 0, nameIndex := 7, descriptorIndex := 103, attributes := #[] }, { accessFlags := 1, nameIndex := 34, descriptorIndex := 35, attributes := #[] }, { accessFlags := 2, nameIndex := 102, descriptorIndex := 103, attributes := #[] }, { accessFlags := 1, nameIndex := 45, descriptorIndex := 46, attributes := #[] }, { accessFlags := 1, nameIndex := 45, descriptorIndex := 292, attributes := #[] }, { accessFlags := 16, nameIndex := 552, descriptorIndex := 403, attributes := #[] }, { accessFlags := 16, nameIndex := 85, descriptorIndex := 86, attributes := #[] }, { accessFlags := 2, nameIndex := 217, descriptorIndex := 69, attributes := #[] }, { accessFlags := 2, nameIndex := 210, descriptorIndex := 211, attributes := #[] }] 1056 4 #[444, 48] #[{ accessFlags := 0, nameIndex := 17, descriptorIndex := 14, attributes := #[] }, { accessFlags := 0, nameIndex := 24, descriptorIndex := 25, attributes := #[] }, { accessFlags := 0, nameIndex := 75, descriptorIndex := 21, attributes := #[] }, { accessFlags := 0, nameIndex := 81, descriptorIndex := 82, attributes := #[] }, { accessFlags := 26, nameIndex := 13, descriptorIndex := 14, attributes := #[] }])
  fields := #[{ name := "value", type := (.array .byte), accessFlags := 0, slot := 0, constantValue := 0 }, { name := "coder", type := .byte, accessFlags := 0, slot := 1, constantValue := 0 }, { name := "maybeLatin1", type := .boolean, accessFlags := 0, slot := 2, constantValue := 0 }, { name := "count", type := .int, accessFlags := 0, slot := 3, constantValue := 0 }, { name := "EMPTYVALUE", type := (.array .byte), accessFlags := 26, slot := 0, constantValue := 0 }]
  methods := #[k13m0, k13m1, k13m2, k13m3, k13m4, k13m5, k13m6, k13m7, k13m8, k13m9]
  instanceTypes := #[(.array .byte), .byte, .boolean, .int]
  staticTypes := #[(.array .byte)]
  resolved := Array.replicate 609 none
  statics := none }

def pool14 : Array CpInfo := pool [(1, .methodref 2 3), (0, .class_ 4), (0, .nameAndType 5 6), (0, u "java/lang/AbstractStringBuilder"), (0, u "<init>"), (0, u "(I)V"), (11, .class_ 20), (1, u "java/lang/String"), (3, .class_ 26), (1, u "java/lang/StringBuilder"), (0, u "append"), (0, u "(Ljava/lang/String;)Ljava/lang/StringBuilder;"), (0, .methodref 2 30), (0, .nameAndType 27 31), (0, u "(Ljava/lang/String;)Ljava/lang/AbstractStringBuilder;"), (18, .methodref 2 51), (0, .nameAndType 27 52), (0, u "(C)Ljava/lang/AbstractStringBuilder;"), (84, .methodref 18 138), (0, .nameAndType 5 139), (0, u "(Ljava/lang/StringBuilder;)V"), (5, u "()V"), (10, u "()I"), (129, u "(C)Ljava/lang/StringBuilder;"), (56, .methodref 2 344), (0, .nameAndType 345 156), (0, u "length"), (3, .class_ 350), (0, u "java/lang/Appendable"), (0, .class_ 352), (0, u "java/io/Serializable"), (0, .class_ 354), (0, u "java/lang/Comparable"), (0, .class_ 356), (0, u "java/lang/CharSequence"), (0, u "serialVersionUID"), (0, u "J"), (40, u "toString"), (0, u "()Ljava/lang/String;")] 21

def k14c0 : Code := { maxStack := 2, maxLocals := 1, code := jdk_67_method_1_code, exceptionTable := #[], attributes := #[] }
def k14m0 : Method := { name := "<init>", desc := "()V", sig := { parameters := [], returnType := none }, accessFlags := 1, code := some k14c0 }
def k14c1 : Code := { maxStack := 2, maxLocals := 2, code := jdk_67_method_7_code, exceptionTable := #[], attributes := #[] }
def k14m1 : Method := { name := "append", desc := "(Ljava/lang/String;)Ljava/lang/StringBuilder;", sig := { parameters := [(.object "java/lang/String")], returnType := some (.object "java/lang/StringBuilder") }, accessFlags := 1, code := some k14c1 }
def k14c2 : Code := { maxStack := 2, maxLocals := 2, code := jdk_67_method_14_code, exceptionTable := #[], attributes := #[] }
def k14m2 : Method := { name := "append", desc := "(C)Ljava/lang/StringBuilder;", sig := { parameters := [.char], returnType := some (.object "java/lang/StringBuilder") }, accessFlags := 1, code := some k14c2 }
def k14c3 : Code := { maxStack := 3, maxLocals := 1, code := jdk_67_method_42_code, exceptionTable := #[], attributes := #[] }
def k14m3 : Method := { name := "toString", desc := "()Ljava/lang/String;", sig := { parameters := [], returnType := some (.object "java/lang/String") }, accessFlags := 1, code := some k14c3 }
def k14c4 : Code := { maxStack := 1, maxLocals := 1, code := jdk_67_method_93_code, exceptionTable := #[], attributes := #[] }
def k14m4 : Method := { name := "length", desc := "()I", sig := { parameters := [], returnType := some .int }, accessFlags := 4161, code := some k14c4 }
/-- java/lang/StringBuilder -/
def k14 : Class := { plain "java/lang/StringBuilder" (some 13) with
  accessFlags := 49
  interfaces := #[12, 2, 3, 4]
  cf := some (fileOf pool14 24 #[] #[{ accessFlags := 1, nameIndex := 5, descriptorIndex := 145, attributes := #[] }, { accessFlags := 1, nameIndex := 27, descriptorIndex := 28, attributes := #[] }, { accessFlags := 1, nameIndex := 27, descriptorIndex := 286, attributes := #[] }, { accessFlags := 1, nameIndex := 399, descriptorIndex := 400, attributes := #[] }, { accessFlags := 4161, nameIndex := 345, descriptorIndex := 156, attributes := #[] }] 49 2 #[349, 351, 353, 355] #[{ accessFlags := 24, nameIndex := 357, descriptorIndex := 358, attributes := #[] }])
  fields := #[{ name := "serialVersionUID", type := .long, accessFlags := 24, slot := 0, constantValue := 0 }]
  methods := #[k14m0, k14m1, k14m2, k14m3, k14m4]
  instanceTypes := #[(.array .byte), .byte, .boolean, .int]
  staticTypes := #[.long]
  resolved := Array.replicate 422 none
  statics := none }

def pool15 : Array CpInfo := pool [(2, .class_ 4), (1, u "java/lang/Object"), (0, u "<init>"), (0, u "()V"), (7, .class_ 16), (1, u "java/util/Arrays"), (57, .class_ 76), (1, u "java/util/Arrays$NaturalOrder"), (36, .class_ 115), (1, u "java/util/Arrays$LegacyMergeSort"), (1, u "Z"), (21, u "copyOfRange"), (10, .methodref 151 152), (0, .class_ 153), (0, .nameAndType 154 155), (0, u "java/lang/System"), (0, u "arraycopy"), (0, u "(Ljava/lang/Object;ILjava/lang/Object;II)V"), (148, .methodref 305 306), (0, .class_ 307), (0, .nameAndType 308 309), (0, u "java/lang/Math"), (0, u "min"), (0, u "(II)I"), (29, .methodref 14 340), (0, .nameAndType 341 342), (0, u "copyOfRangeByte"), (0, u "([BII)[B"), (0, .methodref 14 344), (0, .nameAndType 345 346), (0, u "checkLength"), (0, u "(II)V"), (28, .class_ 376), (0, u "java/util/Arrays$ArrayList"), (68, u "$assertionsDisabled"), (269, u "MIN_ARRAY_SORT_GRAN"), (0, u "I"), (2, u "INSERTIONSORT_THRESHOLD"), (120, u "fill"), (9, u "([BB)V"), (124, .class_ 976), (0, u "java/util/Arrays$ArrayItr")] 52

def k15m0 : Method := { name := "<init>", desc := "()V", sig := { parameters := [], returnType := none }, accessFlags := 2, code := none }
def k15c1 : Code := { maxStack := 3, maxLocals := 4, code := jdk_65_method_109_code, exceptionTable := #[], attributes := #[] }
def k15m1 : Method := { name := "fill", desc := "([BB)V", sig := { parameters := [(.array .byte), .byte], returnType := none }, accessFlags := 9, code := some k15c1 }
def k15c2 : Code := { maxStack := 4, maxLocals := 2, code := jdk_65_method_131_code, exceptionTable := #[], attributes := #[] }
def k15m2 : Method := { name := "checkLength", desc := "(II)V", sig := { parameters := [.int, .int], returnType := none }, accessFlags := 10, code := some k15c2 }
def k15c3 : Code := { maxStack := 3, maxLocals := 3, code := jdk_65_method_132_code, exceptionTable := #[], attributes := #[] }
def k15m3 : Method := { name := "copyOfRange", desc := "([BII)[B", sig := { parameters := [(.array .byte), .int, .int], returnType := some (.array .byte) }, accessFlags := 9, code := some k15c3 }
def k15c4 : Code := { maxStack := 6, maxLocals := 5, code := jdk_65_method_133_code, exceptionTable := #[], attributes := #[] }
def k15m4 : Method := { name := "copyOfRangeByte", desc := "([BII)[B", sig := { parameters := [(.array .byte), .int, .int], returnType := some (.array .byte) }, accessFlags := 10, code := some k15c4 }
/-- java/util/Arrays -/
def k15 : Class := { plain "java/util/Arrays" (some 0) with
  accessFlags := 49
  interfaces := #[]
  cf := some (fileOf pool15 14 #[.nestMembers #[975, 375, 113, 74]] #[{ accessFlags := 2, nameIndex := 5, descriptorIndex := 6, attributes := #[] }, { accessFlags := 9, nameIndex := 840, descriptorIndex := 850, attributes := #[] }, { accessFlags := 10, nameIndex := 345, descriptorIndex := 346, attributes := #[] }, { accessFlags := 9, nameIndex := 139, descriptorIndex := 342, attributes := #[] }, { accessFlags := 10, nameIndex := 341, descriptorIndex := 342, attributes := #[] }] 49 2 #[] #[{ accessFlags := 26, nameIndex := 715, descriptorIndex := 716, attributes := #[] }, { accessFlags := 26, nameIndex := 719, descriptorIndex := 716, attributes := #[] }, { accessFlags := 4120, nameIndex := 445, descriptorIndex := 117, attributes := #[] }])
  fields := #[{ name := "MIN_ARRAY_SORT_GRAN", type := .int, accessFlags := 26, slot := 0, constantValue := 0 }, { name := "INSERTIONSORT_THRESHOLD", type := .int, accessFlags := 26, slot := 1, constantValue := 0 }, { name := "$assertionsDisabled", type := .boolean, accessFlags := 4120, slot := 2, constantValue := 0 }]
  methods := #[k15m0, k15m1, k15m2, k15m3, k15m4]
  instanceTypes := #[]
  staticTypes := #[.int, .int, .boolean]
  resolved := Array.replicate 1029 none
  statics := none }

def pool16 : Array CpInfo := pool [(2, .class_ 4), (1, u "java/lang/Object"), (0, u "<init>"), (0, u "()V"), (1, .class_ 10), (1, u "java/lang/System"), (0, u "allowSecurityManager"), (0, u "I"), (16, u "cons"), (0, u "Ljava/io/Console;"), (77, .class_ 110), (1, u "java/lang/System$CallersHolder"), (43, u "initialErrStream"), (0, u "Ljava/io/PrintStream;"), (19, u "security"), (0, u "Ljava/lang/SecurityManager;"), (31, .class_ 209), (0, u "java/lang/System$1"), (7, u "props"), (0, u "Ljava/util/Properties;"), (2, u "lineSeparator"), (0, u "Ljava/lang/String;"), (96, .class_ 321), (1, u "java/lang/System$LoggerFinder"), (5, .class_ 328), (0, u "java/lang/System$Logger"), (67, u "err"), (2, u "out"), (91, u "notSupportedJnuEncoding"), (15, u "in"), (17, u "initialIn"), (0, u "Ljava/io/InputStream;"), (35, u "bootLayer"), (0, u "Ljava/lang/ModuleLayer;"), (99, .class_ 664), (0, u "java/lang/System$2"), (9, u "NEVER"), (2, u "MAYBE"), (49, u "arraycopy"), (0, u "(Ljava/lang/Object;ILjava/lang/Object;II)V"), (72, .class_ 802), (0, u "java/lang/System$Logger$Level")] 31

def k16m0 : Method := { name := "<init>", desc := "()V", sig := { parameters := [], returnType := none }, accessFlags := 2, code := none }
def k16m1 : Method := { name := "arraycopy", desc := "(Ljava/lang/Object;ILjava/lang/Object;II)V", sig := { parameters := [(.object "java/lang/Object"), .int, (.object "java/lang/Object"), .int, .int], returnType := none }, accessFlags := 265, code := none }
/-- java/lang/System -/
def k16 : Class := { plain "java/lang/System" (some 0) with
  accessFlags := 49
  interfaces := #[]
  cf := some (fileOf pool16 8 #[.nestMembers #[319, 327, 801, 108, 663, 208]] #[{ accessFlags := 2, nameIndex := 5, descriptorIndex := 6, attributes := #[] }, { accessFlags := 265, nameIndex := 727, descriptorIndex := 728, attributes := #[] }] 49 2 #[] #[{ accessFlags := 25, nameIndex := 507, descriptorIndex := 526, attributes := #[] }, { accessFlags := 25, nameIndex := 399, descriptorIndex := 155, attributes := #[] }, { accessFlags := 25, nameIndex := 396, descriptorIndex := 155, attributes := #[] }, { accessFlags := 10, nameIndex := 525, descriptorIndex := 526, attributes := #[] }, { accessFlags := 26, nameIndex := 674, descriptorIndex := 12, attributes := #[] }, { accessFlags := 26, nameIndex := 677, descriptorIndex := 12, attributes := #[] }, { accessFlags := 10, nameIndex := 11, descriptorIndex := 12, attributes := #[] }, { accessFlags := 74, nameIndex := 175, descriptorIndex := 176, attributes := #[] }, { accessFlags := 10, nameIndex := 491, descriptorIndex := 222, attributes := #[] }, { accessFlags := 74, nameIndex := 29, descriptorIndex := 30, attributes := #[] }, { accessFlags := 74, nameIndex := 154, descriptorIndex := 155, attributes := #[] }, { accessFlags := 10, nameIndex := 217, descriptorIndex := 218, attributes := #[] }, { accessFlags := 10, nameIndex := 221, descriptorIndex := 222, attributes := #[] }, { accessFlags := 8, nameIndex := 562, descriptorIndex := 563, attributes := #[] }])
  fields := #[{ name := "in", type := (.object "java/io/InputStream"), accessFlags := 25, slot := 0, constantValue := 0 }, { name := "out", type := (.object "java/io/PrintStream"), accessFlags := 25, slot := 1, constantValue := 0 }, { name := "err", type := (.object "java/io/PrintStream"), accessFlags := 25, slot := 2, constantValue := 0 }, { name := "initialIn", type := (.object "java/io/InputStream"), accessFlags := 10, slot := 3, constantValue := 0 }, { name := "NEVER", type := .int, accessFlags := 26, slot := 4, constantValue := 0 }, { name := "MAYBE", type := .int, accessFlags := 26, slot := 5, constantValue := 0 }, { name := "allowSecurityManager", type := .int, accessFlags := 10, slot := 6, constantValue := 0 }, { name := "security", type := (.object "java/lang/SecurityManager"), accessFlags := 74, slot := 7, constantValue := 0 }, { name := "notSupportedJnuEncoding", type := (.object "java/lang/String"), accessFlags := 10, slot := 8, constantValue := 0 }, { name := "cons", type := (.object "java/io/Console"), accessFlags := 74, slot := 9, constantValue := 0 }, { name := "initialErrStream", type := (.object "java/io/PrintStream"), accessFlags := 74, slot := 10, constantValue := 0 }, { name := "props", type := (.object "java/util/Properties"), accessFlags := 10, slot := 11, constantValue := 0 }, { name := "lineSeparator", type := (.object "java/lang/String"), accessFlags := 10, slot := 12, constantValue := 0 }, { name := "bootLayer", type := (.object "java/lang/ModuleLayer"), accessFlags := 8, slot := 13, constantValue := 0 }]
  methods := #[k16m0, k16m1]
  instanceTypes := #[]
  staticTypes := #[(.object "java/io/InputStream"), (.object "java/io/PrintStream"), (.object "java/io/PrintStream"), (.object "java/io/InputStream"), .int, .int, .int, (.object "java/lang/SecurityManager"), (.object "java/lang/String"), (.object "java/io/Console"), (.object "java/io/PrintStream"), (.object "java/util/Properties"), (.object "java/lang/String"), (.object "java/lang/ModuleLayer")]
  resolved := Array.replicate 834 none
  statics := none }

def pool17 : Array CpInfo := pool [(1, .class_ 2), (0, u "java/lang/Math"), (1, .class_ 6), (1, u "java/lang/Object"), (0, u "<init>"), (0, u "()V"), (89, .class_ 100), (1, u "java/lang/Math$RandomNumberGeneratorHolder"), (71, u "negativeZeroFloatBits"), (0, u "J"), (2, u "negativeZeroDoubleBits"), (24, u "min"), (43, u "$assertionsDisabled"), (0, u "Z"), (88, u "(II)I"), (2, u "twoToTheDoubleScaleDown"), (0, u "D"), (4, u "twoToTheDoubleScaleUp"), (9, u "E"), (3, u "PI"), (2, u "TAU"), (2, u "DEGREES_TO_RADIANS"), (0, u "RADIANS_TO_DEGREES")] 94

def k17m0 : Method := { name := "<init>", desc := "()V", sig := { parameters := [], returnType := none }, accessFlags := 2, code := none }
def k17c1 : Code := { maxStack := 2, maxLocals := 2, code := jdk_29_method_69_code, exceptionTable := #[], attributes := #[] }
def k17m1 : Method := { name := "min", desc := "(II)I", sig := { parameters := [.int, .int], returnType := some .int }, accessFlags := 9, code := some k17c1 }
/-- java/lang/Math -/
def k17 : Class := { plain "java/lang/Math" (some 0) with
  accessFlags := 49
  interfaces := #[]
  cf := some (fileOf pool17 1 #[.nestMembers #[98]] #[{ accessFlags := 2, nameIndex := 7, descriptorIndex := 8, attributes := #[] }, { accessFlags := 9, nameIndex := 201, descriptorIndex := 335, attributes := #[] }] 49 4 #[] #[{ accessFlags := 25, nameIndex := 354, descriptorIndex := 339, attributes := #[] }, { accessFlags := 25, nameIndex := 358, descriptorIndex := 339, attributes := #[] }, { accessFlags := 25, nameIndex := 361, descriptorIndex := 339, attributes := #[] }, { accessFlags := 26, nameIndex := 364, descriptorIndex := 339, attributes := #[] }, { accessFlags := 26, nameIndex := 365, descriptorIndex := 339, attributes := #[] }, { accessFlags := 26, nameIndex := 172, descriptorIndex := 173, attributes := #[] }, { accessFlags := 26, nameIndex := 176, descriptorIndex := 173, attributes := #[] }, { accessFlags := 8, nameIndex := 344, descriptorIndex := 339, attributes := #[] }, { accessFlags := 8, nameIndex := 338, descriptorIndex := 339, attributes := #[] }, { accessFlags := 4120, nameIndex := 245, descriptorIndex := 246, attributes := #[] }])
  fields := #[{ name := "E", type := .double, accessFlags := 25, slot := 0, constantValue := 0 }, { name := "PI", type := .double, accessFlags := 25, slot := 1, constantValue := 0 }, { name := "TAU", type := .double, accessFlags := 25, slot := 2, constantValue := 0 }, { name := "DEGREES_TO_RADIANS", type := .double, accessFlags := 26, slot := 3, constantValue := 0 }, { name := "RADIANS_TO_DEGREES", type := .double, accessFlags := 26, slot := 4, constantValue := 0 }, { name := "negativeZeroFloatBits", type := .long, accessFlags := 26, slot := 5, constantValue := 0 }, { name := "negativeZeroDoubleBits", type := .long, accessFlags := 26, slot := 6, constantValue := 0 }, { name := "twoToTheDoubleScaleUp", type := .double, accessFlags := 8, slot := 7, constantValue := 0 }, { name := "twoToTheDoubleScaleDown", type := .double, accessFlags := 8, slot := 8, constantValue := 0 }, { name := "$assertionsDisabled", type := .boolean, accessFlags := 4120, slot := 9, constantValue := 0 }]
  methods := #[k17m0, k17m1]
  instanceTypes := #[]
  staticTypes := #[.double, .double, .double, .double, .double, .long, .long, .double, .double, .boolean]
  resolved := Array.replicate 460 none
  statics := none }

def pool18 : Array CpInfo := pool [(9, u "<init>"), (6, .class_ 18), (1, u "java/lang/Object"), (0, u "()V"), (1, .class_ 23), (1, u "jdk/internal/util/ArraysSupport"), (0, u "LOG2_ARRAY_LONG_INDEX_SCALE"), (0, u "I"), (2, u "U"), (0, u "Ljdk/internal/misc/Unsafe;"), (8, u "BIG_ENDIAN"), (0, u "Z"), (8, u "LOG2_BYTE_BIT_SIZE"), (4, u "LOG2_ARRAY_INT_INDEX_SCALE"), (54, u "JLA"), (0, u "Ljdk/internal/access/JavaLangAccess;"), (11, u "LOG2_ARRAY_BOOLEAN_INDEX_SCALE"), (9, u "LOG2_ARRAY_BYTE_INDEX_SCALE"), (5, u "LOG2_ARRAY_CHAR_INDEX_SCALE"), (5, u "LOG2_ARRAY_SHORT_INDEX_SCALE"), (18, u "LOG2_ARRAY_FLOAT_INDEX_SCALE"), (24, u "LOG2_ARRAY_DOUBLE_INDEX_SCALE"), (89, u "T_BOOLEAN"), (2, u "T_CHAR"), (1, u "T_FLOAT"), (1, u "T_DOUBLE"), (1, u "T_BYTE"), (1, u "T_SHORT"), (1, u "T_INT"), (1, u "T_LONG"), (1, u "SOFT_MAX_ARRAY_LENGTH")] 83

def k18m0 : Method := { name := "<init>", desc := "()V", sig := { parameters := [], returnType := none }, accessFlags := 2, code := none }
/-- jdk/internal/util/ArraysSupport -/
def k18 : Class := { plain "jdk/internal/util/ArraysSupport" (some 0) with
  accessFlags := 33
  interfaces := #[]
  cf := some (fileOf pool18 21 #[] #[{ accessFlags := 2, nameIndex := 9, descriptorIndex := 19, attributes := #[] }] 33 16 #[] #[{ accessFlags := 24, nameIndex := 28, descriptorIndex := 29, attributes := #[] }, { accessFlags := 26, nameIndex := 38, descriptorIndex := 39, attributes := #[] }, { accessFlags := 25, nameIndex := 121, descriptorIndex := 25, attributes := #[] }, { accessFlags := 25, nameIndex := 131, descriptorIndex := 25, attributes := #[] }, { accessFlags := 25, nameIndex := 137, descriptorIndex := 25, attributes := #[] }, { accessFlags := 25, nameIndex := 143, descriptorIndex := 25, attributes := #[] }, { accessFlags := 25, nameIndex := 53, descriptorIndex := 25, attributes := #[] }, { accessFlags := 25, nameIndex := 24, descriptorIndex := 25, attributes := #[] }, { accessFlags := 25, nameIndex := 162, descriptorIndex := 25, attributes := #[] }, { accessFlags := 25, nameIndex := 187, descriptorIndex := 25, attributes := #[] }, { accessFlags := 26, nameIndex := 48, descriptorIndex := 25, attributes := #[] }, { accessFlags := 25, nameIndex := 277, descriptorIndex := 25, attributes := #[] }, { accessFlags := 25, nameIndex := 280, descriptorIndex := 25, attributes := #[] }, { accessFlags := 25, nameIndex := 282, descriptorIndex := 25, attributes := #[] }, { accessFlags := 25, nameIndex := 284, descriptorIndex := 25, attributes := #[] }, { accessFlags := 25, nameIndex := 286, descriptorIndex := 25, attributes := #[] }, { accessFlags := 25, nameIndex := 288, descriptorIndex := 25, attributes := #[] }, { accessFlags := 25, nameIndex := 290, descriptorIndex := 25, attributes := #[] }, { accessFlags := 25, nameIndex := 292, descriptorIndex := 25, attributes := #[] }, { accessFlags := 26, nameIndex := 108, descriptorIndex := 109, attributes := #[] }, { accessFlags := 25, nameIndex := 294, descriptorIndex := 25, attributes := #[] }])
  fields := #[{ name := "U", type := (.object "jdk/internal/misc/Unsafe"), accessFlags := 24, slot := 0, constantValue := 0 }, { name := "BIG_ENDIAN", type := .boolean, accessFlags := 26, slot := 1, constantValue := 0 }, { name := "LOG2_ARRAY_BOOLEAN_INDEX_SCALE", type := .int, accessFlags := 25, slot := 2, constantValue := 0 }, { name := "LOG2_ARRAY_BYTE_INDEX_SCALE", type := .int, accessFlags := 25, slot := 3, constantValue := 0 }, { name := "LOG2_ARRAY_CHAR_INDEX_SCALE", type := .int, accessFlags := 25, slot := 4, constantValue := 0 }, { name := "LOG2_ARRAY_SHORT_INDEX_SCALE", type := .int, accessFlags := 25, slot := 5, constantValue := 0 }, { name := "LOG2_ARRAY_INT_INDEX_SCALE", type := .int, accessFlags := 25, slot := 6, constantValue := 0 }, { name := "LOG2_ARRAY_LONG_INDEX_SCALE", type := .int, accessFlags := 25, slot := 7, constantValue := 0 }, { name := "LOG2_ARRAY_FLOAT_INDEX_SCALE", type := .int, accessFlags := 25, slot := 8, constantValue := 0 }, { name := "LOG2_ARRAY_DOUBLE_INDEX_SCALE", type := .int, accessFlags := 25, slot := 9, constantValue := 0 }, { name := "LOG2_BYTE_BIT_SIZE", type := .int, accessFlags := 26, slot := 10, constantValue := 0 }, { name := "T_BOOLEAN", type := .int, accessFlags := 25, slot := 11, constantValue := 0 }, { name := "T_CHAR", type := .int, accessFlags := 25, slot := 12, constantValue := 0 }, { name := "T_FLOAT", type := .int, accessFlags := 25, slot := 13, constantValue := 0 }, { name := "T_DOUBLE", type := .int, accessFlags := 25, slot := 14, constantValue := 0 }, { name := "T_BYTE", type := .int, accessFlags := 25, slot := 15, constantValue := 0 }, { name := "T_SHORT", type := .int, accessFlags := 25, slot := 16, constantValue := 0 }, { name := "T_INT", type := .int, accessFlags := 25, slot := 17, constantValue := 0 }, { name := "T_LONG", type := .int, accessFlags := 25, slot := 18, constantValue := 0 }, { name := "JLA", type := (.object "jdk/internal/access/JavaLangAccess"), accessFlags := 26, slot := 19, constantValue := 0 }, { name := "SOFT_MAX_ARRAY_LENGTH", type := .int, accessFlags := 25, slot := 20, constantValue := 0 }]
  methods := #[k18m0]
  instanceTypes := #[]
  staticTypes := #[(.object "jdk/internal/misc/Unsafe"), .boolean, .int, .int, .int, .int, .int, .int, .int, .int, .int, .int, .int, .int, .int, .int, .int, .int, .int, (.object "jdk/internal/access/JavaLangAccess"), .int]
  resolved := Array.replicate 378 none
  statics := none }

def pool19 : Array CpInfo := pool [(1, u "java/lang/Cloneable"), (0, .class_ 1), (0, u "java/lang/Object"), (0, .class_ 3)] 3

/-- java/lang/Cloneable -/
def k19 : Class := { plain "java/lang/Cloneable" (some 0) with
  accessFlags := 1537
  interfaces := #[]
  cf := some (fileOf pool19 2 #[] #[] 1537 4 #[] #[])
  fields := #[]
  methods := #[]
  instanceTypes := #[]
  staticTypes := #[]
  resolved := Array.replicate 8 none
  statics := none }

/-- the primitive byte -/
def k20 : Class := { plain "byte" none with kind := .primitive 'B', accessFlags := 0x411 }
/-- [B -/
def k21 : Class := { plain "[B" (some 0) with kind := .array 20 .byte, interfaces := #[19, 2], accessFlags := 1041 }

/-- the primitive char -/
def k22 : Class := { plain "char" none with kind := .primitive 'C', accessFlags := 0x411 }
/-- [C -/
def k23 : Class := { plain "[C" (some 0) with kind := .array 22 .char, interfaces := #[19, 2], accessFlags := 1041 }

/-- the primitive int -/
def k24 : Class := { plain "int" none with kind := .primitive 'I', accessFlags := 0x411 }
/-- [I -/
def k25 : Class := { plain "[I" (some 0) with kind := .array 24 .int, interfaces := #[19, 2], accessFlags := 1041 }

/-- the primitive long -/
def k26 : Class := { plain "long" none with kind := .primitive 'J', accessFlags := 0x411 }
/-- [J -/
def k27 : Class := { plain "[J" (some 0) with kind := .array 26 .long, interfaces := #[19, 2], accessFlags := 1041 }

def heap : Heap := #[{ cls := 7, slots := #[.long 0, .int 1, .null, .int 0, .null, .int 0, .int 0], vm := .statics 7 },
  { cls := 11, slots := #[.null, .null, .null], vm := .statics 11 }]
def classes : Array Class := #[k0, k1, k2, k3, k4, k5, k6, k7, k8, k9, k10, k11, k12, k13, k14, k15, k16, k17, k18, k19, k20, k21, k22, k23, k24, k25, k26, k27]
def interned : List (Array UInt16 × Addr) := []
def slotsUsed : Nat := 10
def theMethod : MethodId := ⟨1, 3⟩
def args0 : Array Value := #[.long 12345, .int 4]
def aboutOver (below : List Frame) : State where
  vm := { classes := classes, interned := interned.toArray }
  heap := heap
  slotsUsed := slotsUsed
  threads := #[{ frames := .invoking theMethod args0 :: below }]
def below0 : List Frame := [.native { method := ⟨0, 0⟩, args := #[] }]
def about1 : State := aboutOver below0
def p0 : Program := .bare "" "" ""
def e0 : Env := launch0.env 0 0 0
theorem w_frames : about1.frames = Frame.invoking theMethod args0 :: below0 := rfl
set_option maxRecDepth 65536 in
theorem w_args : argsFit about1.vm theMethod args0 = true := by decide +kernel
set_option maxRecDepth 65536 in
theorem w_heap : heapFits about1 = true := by decide +kernel
set_option maxRecDepth 65536 in
theorem w_runnable : about1.curStatus? = some .runnable := by decide +kernel
set_option maxRecDepth 65536 in
theorem w_alone : about1.alone = true := by decide +kernel
set_option maxRecDepth 65536 in
theorem w_named : about1.methodNamed? x = some theMethod := by decide +kernel
set_option maxRecDepth 65536 in
theorem w_hears : about1.hears theMethod below0 = true := by decide +kernel
set_option maxRecDepth 65536 in
theorem w_ripe : about1.ripe theMethod args0 below0 = true := by decide +kernel
theorem w_running : about1.status = .running := rfl
set_option maxRecDepth 65536 in
theorem w_room : about1.hasRoom e0.platform room_1 = true :=
  launch0.hasRoom_least _ room_1 (by decide +kernel) (by decide +kernel) (by decide +kernel) (by decide +kernel) (by decide +kernel) (by decide +kernel)
theorem allAtoms_all (ts : List Jvm.Cond) (a : Array Jvm.Value) (st : Jvm.State) : (allAtoms ts).before a st = ts.all (fun c => c.before a st) := by
  induction ts with
  | nil => rfl
  | cons c t ih =>
    show (Jvm.Cond.and c (allAtoms t)).before a st = _
    rw [Jvm.Cond.before_and, ih, List.all_cons]
def words1 : List Jvm.Cond := Jvm.Cond.code x code maxLocals ret :: tables_1
/-- a 'code' word, met by the world's own term for the bytes: nothing is compared byte by byte -/
theorem code_word {y : MethodName} {bytes : ByteArray} {mx : Nat} {rt : Option FieldType} {a : Array Value} {s : State} {m : MethodId} {meth : Method} {c : Code} (h1 : s.methodNamed? y = some m) (h2 : s.vm.method? m = some meth) (h3 : meth.code = some c) (h4 : c.code = bytes)
    (h5 : (c.maxLocals == mx && c.exceptionTable.isEmpty && decide (c.maxStack ≤ mostOperands) && decide (meth.sig.returnType = rt) && !meth.locks && decide (parseMethodDescriptor y.desc = some meth.sig)) = true) : (Jvm.Cond.code y bytes mx rt).before a s = true := by
  simp only [Bool.and_eq_true, beq_iff_eq, Bool.not_eq_true', decide_eq_true_eq] at h5
  obtain ⟨⟨⟨⟨⟨g1, g2⟩, g3⟩, g4⟩, g5⟩, g6⟩ := h5
  simp [Cond.before, Cond.holds, Cond.value, h1, h2, h3, h4, g1, g2, g3, g4, g5, g6]
def isCode : Jvm.Cond → Bool
  | .code _ _ _ _ => true
  | _ => false
theorem all_split {L : List Jvm.Cond} {P : Jvm.Cond → Bool} (h1 : L.all (fun c => isCode c || P c) = true) (h2 : ∀ c ∈ L.filter isCode, P c = true) : L.all P = true := by
  refine List.all_eq_true.mpr fun c hc => ?_
  have h := List.all_eq_true.mp h1 c hc
  rcases Bool.eq_false_or_eq_true (isCode c) with hi | hi
  · exact h2 c (List.mem_filter.mpr ⟨hc, hi⟩)
  · simpa [hi] using h
set_option maxRecDepth 65536 in
theorem w_c0 : (Jvm.Cond.code x code maxLocals ret).before args0 about1 = true := code_word (m := ⟨1, 3⟩) (meth := k1m3) (c := k1c3) (by decide +kernel) rfl rfl rfl (by decide +kernel)
set_option maxRecDepth 65536 in
theorem w_c1 : (Jvm.Cond.code ({ cls := "com/example/fordring/fordring/account/PaymentReferenceForCustomerPinLaw", name := "dig", desc := "(JJ)I" } : Jvm.MethodName) method_3_code (4 : Nat) (Option.some Jvm.ClassFile.FieldType.int)).before args0 about1 = true := code_word (m := ⟨1, 2⟩) (meth := k1m2) (c := k1c2) (by decide +kernel) rfl rfl rfl (by decide +kernel)
set_option maxRecDepth 65536 in
theorem w_c2 : (Jvm.Cond.code ({ cls := "java/lang/String", name := "<init>", desc := "([C)V" } : Jvm.MethodName) jdk_42_method_3_code (2 : Nat) (Option.none : Option Jvm.ClassFile.FieldType)).before args0 about1 = true := code_word (m := ⟨7, 1⟩) (meth := k7m1) (c := k7c1) (by decide +kernel) rfl rfl rfl (by decide +kernel)
set_option maxRecDepth 65536 in
theorem w_c3 : (Jvm.Cond.code ({ cls := "java/lang/String", name := "<init>", desc := "([CIILjava/lang/Void;)V" } : Jvm.MethodName) jdk_42_method_149_code (6 : Nat) (Option.none : Option Jvm.ClassFile.FieldType)).before args0 about1 = true := code_word (m := ⟨7, 9⟩) (meth := k7m9) (c := k7c9) (by decide +kernel) rfl rfl rfl (by decide +kernel)
set_option maxRecDepth 65536 in
theorem w_c4 : (Jvm.Cond.code ({ cls := "java/lang/Object", name := "<init>", desc := "()V" } : Jvm.MethodName) object_method_1_code (1 : Nat) (Option.none : Option Jvm.ClassFile.FieldType)).before args0 about1 = true := code_word (m := ⟨0, 0⟩) (meth := k0m0) (c := k0c0) (by decide +kernel) rfl rfl rfl (by decide +kernel)
set_option maxRecDepth 65536 in
theorem w_c5 : (Jvm.Cond.code ({ cls := "java/lang/StringUTF16", name := "compress", desc := "([CII)[B" } : Jvm.MethodName) jdk_52_method_16_code (6 : Nat) (Option.some (Jvm.ClassFile.FieldType.array Jvm.ClassFile.FieldType.byte))).before args0 about1 = true := code_word (m := ⟨8, 2⟩) (meth := k8m2) (c := k8c2) (by decide +kernel) rfl rfl rfl (by decide +kernel)
set_option maxRecDepth 65536 in
theorem w_c6 : (Jvm.Cond.code ({ cls := "java/lang/StringUTF16", name := "compress", desc := "([CI[BII)I" } : Jvm.MethodName) jdk_52_method_21_code (7 : Nat) (Option.some Jvm.ClassFile.FieldType.int)).before args0 about1 = true := code_word (m := ⟨8, 3⟩) (meth := k8m3) (c := k8c3) (by decide +kernel) rfl rfl rfl (by decide +kernel)
set_option maxRecDepth 65536 in
theorem w_c7 : (Jvm.Cond.code ({ cls := "java/lang/StringUTF16", name := "coderFromArrayLen", desc := "([BI)B" } : Jvm.MethodName) jdk_52_method_15_code (2 : Nat) (Option.some Jvm.ClassFile.FieldType.byte)).before args0 about1 = true := code_word (m := ⟨8, 1⟩) (meth := k8m1) (c := k8c1) (by decide +kernel) rfl rfl rfl (by decide +kernel)
set_option maxRecDepth 65536 in
theorem w_c8 : (Jvm.Cond.code ({ cls := "com/example/fordring/fordring/account/PaymentReferenceForCustomerPinLaw", name := "dbl", desc := "(I)I" } : Jvm.MethodName) method_2_code (2 : Nat) (Option.some Jvm.ClassFile.FieldType.int)).before args0 about1 = true := code_word (m := ⟨1, 1⟩) (meth := k1m1) (c := k1c1) (by decide +kernel) rfl rfl rfl (by decide +kernel)
set_option maxRecDepth 65536 in
theorem w_c9 : (Jvm.Cond.code ({ cls := "com/example/fordring/fordring/account/PaymentReference", name := "forCustomer", desc := "(Ljava/lang/String;)Lcom/example/fordring/fordring/account/PaymentReference;" } : Jvm.MethodName) prog_2_method_2_code (2 : Nat) (Option.some (Jvm.ClassFile.FieldType.object "com/example/fordring/fordring/account/PaymentReference"))).before args0 about1 = true := code_word (m := ⟨9, 1⟩) (meth := k9m1) (c := k9c1) (by decide +kernel) rfl rfl rfl (by decide +kernel)
set_option maxRecDepth 65536 in
theorem w_c10 : (Jvm.Cond.code ({ cls := "java/lang/String", name := "isEmpty", desc := "()Z" } : Jvm.MethodName) jdk_42_method_55_code (1 : Nat) (Option.some Jvm.ClassFile.FieldType.boolean)).before args0 about1 = true := code_word (m := ⟨7, 4⟩) (meth := k7m4) (c := k7c4) (by decide +kernel) rfl rfl rfl (by decide +kernel)
set_option maxRecDepth 65536 in
theorem w_c11 : (Jvm.Cond.code ({ cls := "java/lang/String", name := "length", desc := "()I" } : Jvm.MethodName) jdk_42_method_54_code (1 : Nat) (Option.some Jvm.ClassFile.FieldType.int)).before args0 about1 = true := code_word (m := ⟨7, 3⟩) (meth := k7m3) (c := k7c3) (by decide +kernel) rfl rfl rfl (by decide +kernel)
set_option maxRecDepth 65536 in
theorem w_c12 : (Jvm.Cond.code ({ cls := "java/lang/String", name := "coder", desc := "()B" } : Jvm.MethodName) jdk_42_method_152_code (1 : Nat) (Option.some Jvm.ClassFile.FieldType.byte)).before args0 about1 = true := code_word (m := ⟨7, 12⟩) (meth := k7m12) (c := k7c12) (by decide +kernel) rfl rfl rfl (by decide +kernel)
set_option maxRecDepth 65536 in
theorem w_c13 : (Jvm.Cond.code ({ cls := "com/example/fordring/fordring/account/PaymentReference", name := "isAsciiDigits", desc := "(Ljava/lang/String;)Z" } : Jvm.MethodName) prog_2_method_5_code (3 : Nat) (Option.some Jvm.ClassFile.FieldType.boolean)).before args0 about1 = true := code_word (m := ⟨9, 3⟩) (meth := k9m3) (c := k9c3) (by decide +kernel) rfl rfl rfl (by decide +kernel)
set_option maxRecDepth 65536 in
theorem w_c14 : (Jvm.Cond.code ({ cls := "java/lang/String", name := "charAt", desc := "(I)C" } : Jvm.MethodName) jdk_42_method_56_code (2 : Nat) (Option.some Jvm.ClassFile.FieldType.char)).before args0 about1 = true := code_word (m := ⟨7, 5⟩) (meth := k7m5) (c := k7c5) (by decide +kernel) rfl rfl rfl (by decide +kernel)
set_option maxRecDepth 65536 in
theorem w_c15 : (Jvm.Cond.code ({ cls := "java/lang/String", name := "isLatin1", desc := "()Z" } : Jvm.MethodName) jdk_42_method_154_code (1 : Nat) (Option.some Jvm.ClassFile.FieldType.boolean)).before args0 about1 = true := code_word (m := ⟨7, 13⟩) (meth := k7m13) (c := k7c13) (by decide +kernel) rfl rfl rfl (by decide +kernel)
set_option maxRecDepth 65536 in
theorem w_c16 : (Jvm.Cond.code ({ cls := "java/lang/StringLatin1", name := "charAt", desc := "([BI)C" } : Jvm.MethodName) jdk_43_method_2_code (2 : Nat) (Option.some Jvm.ClassFile.FieldType.char)).before args0 about1 = true := code_word (m := ⟨10, 1⟩) (meth := k10m1) (c := k10c1) (by decide +kernel) rfl rfl rfl (by decide +kernel)
set_option maxRecDepth 65536 in
theorem w_c17 : (Jvm.Cond.code ({ cls := "java/lang/String", name := "checkIndex", desc := "(II)V" } : Jvm.MethodName) jdk_42_method_155_code (2 : Nat) (Option.none : Option Jvm.ClassFile.FieldType)).before args0 about1 = true := code_word (m := ⟨7, 14⟩) (meth := k7m14) (c := k7c14) (by decide +kernel) rfl rfl rfl (by decide +kernel)
set_option maxRecDepth 65536 in
theorem w_c18 : (Jvm.Cond.code ({ cls := "jdk/internal/util/Preconditions", name := "checkIndex", desc := "(IILjava/util/function/BiFunction;)I" } : Jvm.MethodName) jdk_41_method_11_code (3 : Nat) (Option.some Jvm.ClassFile.FieldType.int)).before args0 about1 = true := code_word (m := ⟨11, 1⟩) (meth := k11m1) (c := k11c1) (by decide +kernel) rfl rfl rfl (by decide +kernel)
set_option maxRecDepth 65536 in
theorem w_c19 : (Jvm.Cond.code ({ cls := "java/lang/StringBuilder", name := "<init>", desc := "()V" } : Jvm.MethodName) jdk_67_method_1_code (1 : Nat) (Option.none : Option Jvm.ClassFile.FieldType)).before args0 about1 = true := code_word (m := ⟨14, 0⟩) (meth := k14m0) (c := k14c0) (by decide +kernel) rfl rfl rfl (by decide +kernel)
set_option maxRecDepth 65536 in
theorem w_c20 : (Jvm.Cond.code ({ cls := "java/lang/AbstractStringBuilder", name := "<init>", desc := "(I)V" } : Jvm.MethodName) jdk_68_method_2_code (2 : Nat) (Option.none : Option Jvm.ClassFile.FieldType)).before args0 about1 = true := code_word (m := ⟨13, 1⟩) (meth := k13m1) (c := k13c1) (by decide +kernel) rfl rfl rfl (by decide +kernel)
set_option maxRecDepth 65536 in
theorem w_c21 : (Jvm.Cond.code ({ cls := "java/lang/String", name := "repeat", desc := "(I)Ljava/lang/String;" } : Jvm.MethodName) jdk_42_method_145_code (5 : Nat) (Option.some (Jvm.ClassFile.FieldType.object "java/lang/String"))).before args0 about1 = true := code_word (m := ⟨7, 7⟩) (meth := k7m7) (c := k7c7) (by decide +kernel) rfl rfl rfl (by decide +kernel)
set_option maxRecDepth 65536 in
theorem w_c22 : (Jvm.Cond.code ({ cls := "java/util/Arrays", name := "fill", desc := "([BB)V" } : Jvm.MethodName) jdk_65_method_109_code (4 : Nat) (Option.none : Option Jvm.ClassFile.FieldType)).before args0 about1 = true := code_word (m := ⟨15, 1⟩) (meth := k15m1) (c := k15c1) (by decide +kernel) rfl rfl rfl (by decide +kernel)
set_option maxRecDepth 65536 in
theorem w_c23 : (Jvm.Cond.code ({ cls := "java/lang/String", name := "<init>", desc := "([BB)V" } : Jvm.MethodName) jdk_42_method_151_code (3 : Nat) (Option.none : Option Jvm.ClassFile.FieldType)).before args0 about1 = true := code_word (m := ⟨7, 11⟩) (meth := k7m11) (c := k7c11) (by decide +kernel) rfl rfl rfl (by decide +kernel)
set_option maxRecDepth 65536 in
theorem w_c24 : (Jvm.Cond.code ({ cls := "java/lang/StringBuilder", name := "append", desc := "(Ljava/lang/String;)Ljava/lang/StringBuilder;" } : Jvm.MethodName) jdk_67_method_7_code (2 : Nat) (Option.some (Jvm.ClassFile.FieldType.object "java/lang/StringBuilder"))).before args0 about1 = true := code_word (m := ⟨14, 1⟩) (meth := k14m1) (c := k14c1) (by decide +kernel) rfl rfl rfl (by decide +kernel)
set_option maxRecDepth 65536 in
theorem w_c25 : (Jvm.Cond.code ({ cls := "java/lang/AbstractStringBuilder", name := "append", desc := "(Ljava/lang/String;)Ljava/lang/AbstractStringBuilder;" } : Jvm.MethodName) jdk_68_method_22_code (3 : Nat) (Option.some (Jvm.ClassFile.FieldType.object "java/lang/AbstractStringBuilder"))).before args0 about1 = true := code_word (m := ⟨13, 4⟩) (meth := k13m4) (c := k13c4) (by decide +kernel) rfl rfl rfl (by decide +kernel)
set_option maxRecDepth 65536 in
theorem w_c26 : (Jvm.Cond.code ({ cls := "java/lang/AbstractStringBuilder", name := "ensureCapacityInternal", desc := "(I)V" } : Jvm.MethodName) jdk_68_method_9_code (3 : Nat) (Option.none : Option Jvm.ClassFile.FieldType)).before args0 about1 = true := code_word (m := ⟨13, 3⟩) (meth := k13m3) (c := k13c3) (by decide +kernel) rfl rfl rfl (by decide +kernel)
set_option maxRecDepth 65536 in
theorem w_c27 : (Jvm.Cond.code ({ cls := "java/lang/AbstractStringBuilder", name := "putStringAt", desc := "(ILjava/lang/String;)V" } : Jvm.MethodName) jdk_68_method_73_code (3 : Nat) (Option.none : Option Jvm.ClassFile.FieldType)).before args0 about1 = true := code_word (m := ⟨13, 9⟩) (meth := k13m9) (c := k13c9) (by decide +kernel) rfl rfl rfl (by decide +kernel)
set_option maxRecDepth 65536 in
theorem w_c28 : (Jvm.Cond.code ({ cls := "java/lang/AbstractStringBuilder", name := "inflateIfNeededFor", desc := "(Ljava/lang/String;)V" } : Jvm.MethodName) jdk_68_method_71_code (2 : Nat) (Option.none : Option Jvm.ClassFile.FieldType)).before args0 about1 = true := code_word (m := ⟨13, 8⟩) (meth := k13m8) (c := k13c8) (by decide +kernel) rfl rfl rfl (by decide +kernel)
set_option maxRecDepth 65536 in
theorem w_c29 : (Jvm.Cond.code ({ cls := "java/lang/String", name := "getBytes", desc := "([BIB)V" } : Jvm.MethodName) jdk_42_method_147_code (4 : Nat) (Option.none : Option Jvm.ClassFile.FieldType)).before args0 about1 = true := code_word (m := ⟨7, 8⟩) (meth := k7m8) (c := k7c8) (by decide +kernel) rfl rfl rfl (by decide +kernel)
set_option maxRecDepth 65536 in
theorem w_c30 : (Jvm.Cond.code ({ cls := "java/lang/StringBuilder", name := "toString", desc := "()Ljava/lang/String;" } : Jvm.MethodName) jdk_67_method_42_code (1 : Nat) (Option.some (Jvm.ClassFile.FieldType.object "java/lang/String"))).before args0 about1 = true := code_word (m := ⟨14, 3⟩) (meth := k14m3) (c := k14c3) (by decide +kernel) rfl rfl rfl (by decide +kernel)
set_option maxRecDepth 65536 in
theorem w_c31 : (Jvm.Cond.code ({ cls := "java/lang/String", name := "<init>", desc := "(Ljava/lang/StringBuilder;)V" } : Jvm.MethodName) jdk_42_method_53_code (2 : Nat) (Option.none : Option Jvm.ClassFile.FieldType)).before args0 about1 = true := code_word (m := ⟨7, 2⟩) (meth := k7m2) (c := k7c2) (by decide +kernel) rfl rfl rfl (by decide +kernel)
set_option maxRecDepth 65536 in
theorem w_c32 : (Jvm.Cond.code ({ cls := "java/lang/String", name := "<init>", desc := "(Ljava/lang/AbstractStringBuilder;Ljava/lang/Void;)V" } : Jvm.MethodName) jdk_42_method_150_code (5 : Nat) (Option.none : Option Jvm.ClassFile.FieldType)).before args0 about1 = true := code_word (m := ⟨7, 10⟩) (meth := k7m10) (c := k7c10) (by decide +kernel) rfl rfl rfl (by decide +kernel)
set_option maxRecDepth 65536 in
theorem w_c33 : (Jvm.Cond.code ({ cls := "java/lang/AbstractStringBuilder", name := "getValue", desc := "()[B" } : Jvm.MethodName) jdk_68_method_64_code (1 : Nat) (Option.some (Jvm.ClassFile.FieldType.array Jvm.ClassFile.FieldType.byte))).before args0 about1 = true := code_word (m := ⟨13, 6⟩) (meth := k13m6) (c := k13c6) (by decide +kernel) rfl rfl rfl (by decide +kernel)
set_option maxRecDepth 65536 in
theorem w_c34 : (Jvm.Cond.code ({ cls := "java/lang/StringBuilder", name := "length", desc := "()I" } : Jvm.MethodName) jdk_67_method_93_code (1 : Nat) (Option.some Jvm.ClassFile.FieldType.int)).before args0 about1 = true := code_word (m := ⟨14, 4⟩) (meth := k14m4) (c := k14c4) (by decide +kernel) rfl rfl rfl (by decide +kernel)
set_option maxRecDepth 65536 in
theorem w_c35 : (Jvm.Cond.code ({ cls := "java/lang/AbstractStringBuilder", name := "length", desc := "()I" } : Jvm.MethodName) jdk_68_method_6_code (1 : Nat) (Option.some Jvm.ClassFile.FieldType.int)).before args0 about1 = true := code_word (m := ⟨13, 2⟩) (meth := k13m2) (c := k13c2) (by decide +kernel) rfl rfl rfl (by decide +kernel)
set_option maxRecDepth 65536 in
theorem w_c36 : (Jvm.Cond.code ({ cls := "java/lang/AbstractStringBuilder", name := "isLatin1", desc := "()Z" } : Jvm.MethodName) jdk_68_method_68_code (1 : Nat) (Option.some Jvm.ClassFile.FieldType.boolean)).before args0 about1 = true := code_word (m := ⟨13, 7⟩) (meth := k13m7) (c := k13c7) (by decide +kernel) rfl rfl rfl (by decide +kernel)
set_option maxRecDepth 65536 in
theorem w_c37 : (Jvm.Cond.code ({ cls := "java/util/Arrays", name := "copyOfRange", desc := "([BII)[B" } : Jvm.MethodName) jdk_65_method_132_code (3 : Nat) (Option.some (Jvm.ClassFile.FieldType.array Jvm.ClassFile.FieldType.byte))).before args0 about1 = true := code_word (m := ⟨15, 3⟩) (meth := k15m3) (c := k15c3) (by decide +kernel) rfl rfl rfl (by decide +kernel)
set_option maxRecDepth 65536 in
theorem w_c38 : (Jvm.Cond.code ({ cls := "java/util/Arrays", name := "copyOfRangeByte", desc := "([BII)[B" } : Jvm.MethodName) jdk_65_method_133_code (5 : Nat) (Option.some (Jvm.ClassFile.FieldType.array Jvm.ClassFile.FieldType.byte))).before args0 about1 = true := code_word (m := ⟨15, 4⟩) (meth := k15m4) (c := k15c4) (by decide +kernel) rfl rfl rfl (by decide +kernel)
set_option maxRecDepth 65536 in
theorem w_c39 : (Jvm.Cond.code ({ cls := "java/util/Arrays", name := "checkLength", desc := "(II)V" } : Jvm.MethodName) jdk_65_method_131_code (2 : Nat) (Option.none : Option Jvm.ClassFile.FieldType)).before args0 about1 = true := code_word (m := ⟨15, 2⟩) (meth := k15m2) (c := k15c2) (by decide +kernel) rfl rfl rfl (by decide +kernel)
set_option maxRecDepth 65536 in
theorem w_c40 : (Jvm.Cond.code ({ cls := "java/lang/Math", name := "min", desc := "(II)I" } : Jvm.MethodName) jdk_29_method_69_code (2 : Nat) (Option.some Jvm.ClassFile.FieldType.int)).before args0 about1 = true := code_word (m := ⟨17, 1⟩) (meth := k17m1) (c := k17c1) (by decide +kernel) rfl rfl rfl (by decide +kernel)
set_option maxRecDepth 65536 in
theorem w_c41 : (Jvm.Cond.code ({ cls := "com/example/fordring/fordring/account/PaymentReference", name := "checkDigit", desc := "(Ljava/lang/String;)C" } : Jvm.MethodName) prog_2_method_4_code (5 : Nat) (Option.some Jvm.ClassFile.FieldType.char)).before args0 about1 = true := code_word (m := ⟨9, 2⟩) (meth := k9m2) (c := k9c2) (by decide +kernel) rfl rfl rfl (by decide +kernel)
set_option maxRecDepth 65536 in
theorem w_c42 : (Jvm.Cond.code ({ cls := "java/lang/StringBuilder", name := "append", desc := "(C)Ljava/lang/StringBuilder;" } : Jvm.MethodName) jdk_67_method_14_code (2 : Nat) (Option.some (Jvm.ClassFile.FieldType.object "java/lang/StringBuilder"))).before args0 about1 = true := code_word (m := ⟨14, 2⟩) (meth := k14m2) (c := k14c2) (by decide +kernel) rfl rfl rfl (by decide +kernel)
set_option maxRecDepth 65536 in
theorem w_c43 : (Jvm.Cond.code ({ cls := "java/lang/AbstractStringBuilder", name := "append", desc := "(C)Ljava/lang/AbstractStringBuilder;" } : Jvm.MethodName) jdk_68_method_31_code (2 : Nat) (Option.some (Jvm.ClassFile.FieldType.object "java/lang/AbstractStringBuilder"))).before args0 about1 = true := code_word (m := ⟨13, 5⟩) (meth := k13m5) (c := k13c5) (by decide +kernel) rfl rfl rfl (by decide +kernel)
set_option maxRecDepth 65536 in
theorem w_c44 : (Jvm.Cond.code ({ cls := "java/lang/StringLatin1", name := "canEncode", desc := "(C)Z" } : Jvm.MethodName) jdk_43_method_3_code (1 : Nat) (Option.some Jvm.ClassFile.FieldType.boolean)).before args0 about1 = true := code_word (m := ⟨10, 2⟩) (meth := k10m2) (c := k10c2) (by decide +kernel) rfl rfl rfl (by decide +kernel)
set_option maxRecDepth 65536 in
theorem w_c45 : (Jvm.Cond.code ({ cls := "com/example/fordring/fordring/account/PaymentReference", name := "<init>", desc := "(Ljava/lang/String;)V" } : Jvm.MethodName) prog_2_method_1_code (2 : Nat) (Option.none : Option Jvm.ClassFile.FieldType)).before args0 about1 = true := code_word (m := ⟨9, 0⟩) (meth := k9m0) (c := k9c0) (by decide +kernel) rfl rfl rfl (by decide +kernel)
set_option maxRecDepth 65536 in
theorem w_c46 : (Jvm.Cond.code ({ cls := "com/example/fordring/fordring/account/PaymentReference", name := "toString", desc := "()Ljava/lang/String;" } : Jvm.MethodName) prog_2_method_8_code (1 : Nat) (Option.some (Jvm.ClassFile.FieldType.object "java/lang/String"))).before args0 about1 = true := code_word (m := ⟨9, 4⟩) (meth := k9m4) (c := k9c4) (by decide +kernel) rfl rfl rfl (by decide +kernel)
set_option maxRecDepth 65536 in
theorem w_c47 : (Jvm.Cond.code ({ cls := "java/lang/String", name := "equals", desc := "(Ljava/lang/Object;)Z" } : Jvm.MethodName) jdk_42_method_66_code (3 : Nat) (Option.some Jvm.ClassFile.FieldType.boolean)).before args0 about1 = true := code_word (m := ⟨7, 6⟩) (meth := k7m6) (c := k7c6) (by decide +kernel) rfl rfl rfl (by decide +kernel)
set_option maxRecDepth 65536 in
theorem w_c48 : (Jvm.Cond.code ({ cls := "java/lang/StringLatin1", name := "equals", desc := "([B[B)Z" } : Jvm.MethodName) jdk_43_method_13_code (3 : Nat) (Option.some Jvm.ClassFile.FieldType.boolean)).before args0 about1 = true := code_word (m := ⟨10, 3⟩) (meth := k10m3) (c := k10c3) (by decide +kernel) rfl rfl rfl (by decide +kernel)
def codes1 : List Jvm.Cond := [Jvm.Cond.code x code maxLocals ret, Jvm.Cond.code ({ cls := "com/example/fordring/fordring/account/PaymentReferenceForCustomerPinLaw", name := "dig", desc := "(JJ)I" } : Jvm.MethodName) method_3_code (4 : Nat) (Option.some Jvm.ClassFile.FieldType.int), Jvm.Cond.code ({ cls := "java/lang/String", name := "<init>", desc := "([C)V" } : Jvm.MethodName) jdk_42_method_3_code (2 : Nat) (Option.none : Option Jvm.ClassFile.FieldType), Jvm.Cond.code ({ cls := "java/lang/String", name := "<init>", desc := "([CIILjava/lang/Void;)V" } : Jvm.MethodName) jdk_42_method_149_code (6 : Nat) (Option.none : Option Jvm.ClassFile.FieldType), Jvm.Cond.code ({ cls := "java/lang/Object", name := "<init>", desc := "()V" } : Jvm.MethodName) object_method_1_code (1 : Nat) (Option.none : Option Jvm.ClassFile.FieldType), Jvm.Cond.code ({ cls := "java/lang/StringUTF16", name := "compress", desc := "([CII)[B" } : Jvm.MethodName) jdk_52_method_16_code (6 : Nat) (Option.some (Jvm.ClassFile.FieldType.array Jvm.ClassFile.FieldType.byte)), Jvm.Cond.code ({ cls := "java/lang/StringUTF16", name := "compress", desc := "([CI[BII)I" } : Jvm.MethodName) jdk_52_method_21_code (7 : Nat) (Option.some Jvm.ClassFile.FieldType.int), Jvm.Cond.code ({ cls := "java/lang/StringUTF16", name := "coderFromArrayLen", desc := "([BI)B" } : Jvm.MethodName) jdk_52_method_15_code (2 : Nat) (Option.some Jvm.ClassFile.FieldType.byte), Jvm.Cond.code ({ cls := "com/example/fordring/fordring/account/PaymentReferenceForCustomerPinLaw", name := "dbl", desc := "(I)I" } : Jvm.MethodName) method_2_code (2 : Nat) (Option.some Jvm.ClassFile.FieldType.int), Jvm.Cond.code ({ cls := "com/example/fordring/fordring/account/PaymentReference", name := "forCustomer", desc := "(Ljava/lang/String;)Lcom/example/fordring/fordring/account/PaymentReference;" } : Jvm.MethodName) prog_2_method_2_code (2 : Nat) (Option.some (Jvm.ClassFile.FieldType.object "com/example/fordring/fordring/account/PaymentReference")), Jvm.Cond.code ({ cls := "java/lang/String", name := "isEmpty", desc := "()Z" } : Jvm.MethodName) jdk_42_method_55_code (1 : Nat) (Option.some Jvm.ClassFile.FieldType.boolean), Jvm.Cond.code ({ cls := "java/lang/String", name := "length", desc := "()I" } : Jvm.MethodName) jdk_42_method_54_code (1 : Nat) (Option.some Jvm.ClassFile.FieldType.int), Jvm.Cond.code ({ cls := "java/lang/String", name := "coder", desc := "()B" } : Jvm.MethodName) jdk_42_method_152_code (1 : Nat) (Option.some Jvm.ClassFile.FieldType.byte), Jvm.Cond.code ({ cls := "com/example/fordring/fordring/account/PaymentReference", name := "isAsciiDigits", desc := "(Ljava/lang/String;)Z" } : Jvm.MethodName) prog_2_method_5_code (3 : Nat) (Option.some Jvm.ClassFile.FieldType.boolean), Jvm.Cond.code ({ cls := "java/lang/String", name := "charAt", desc := "(I)C" } : Jvm.MethodName) jdk_42_method_56_code (2 : Nat) (Option.some Jvm.ClassFile.FieldType.char), Jvm.Cond.code ({ cls := "java/lang/String", name := "isLatin1", desc := "()Z" } : Jvm.MethodName) jdk_42_method_154_code (1 : Nat) (Option.some Jvm.ClassFile.FieldType.boolean), Jvm.Cond.code ({ cls := "java/lang/StringLatin1", name := "charAt", desc := "([BI)C" } : Jvm.MethodName) jdk_43_method_2_code (2 : Nat) (Option.some Jvm.ClassFile.FieldType.char), Jvm.Cond.code ({ cls := "java/lang/String", name := "checkIndex", desc := "(II)V" } : Jvm.MethodName) jdk_42_method_155_code (2 : Nat) (Option.none : Option Jvm.ClassFile.FieldType), Jvm.Cond.code ({ cls := "jdk/internal/util/Preconditions", name := "checkIndex", desc := "(IILjava/util/function/BiFunction;)I" } : Jvm.MethodName) jdk_41_method_11_code (3 : Nat) (Option.some Jvm.ClassFile.FieldType.int), Jvm.Cond.code ({ cls := "java/lang/StringBuilder", name := "<init>", desc := "()V" } : Jvm.MethodName) jdk_67_method_1_code (1 : Nat) (Option.none : Option Jvm.ClassFile.FieldType), Jvm.Cond.code ({ cls := "java/lang/AbstractStringBuilder", name := "<init>", desc := "(I)V" } : Jvm.MethodName) jdk_68_method_2_code (2 : Nat) (Option.none : Option Jvm.ClassFile.FieldType), Jvm.Cond.code ({ cls := "java/lang/String", name := "repeat", desc := "(I)Ljava/lang/String;" } : Jvm.MethodName) jdk_42_method_145_code (5 : Nat) (Option.some (Jvm.ClassFile.FieldType.object "java/lang/String")), Jvm.Cond.code ({ cls := "java/util/Arrays", name := "fill", desc := "([BB)V" } : Jvm.MethodName) jdk_65_method_109_code (4 : Nat) (Option.none : Option Jvm.ClassFile.FieldType), Jvm.Cond.code ({ cls := "java/lang/String", name := "<init>", desc := "([BB)V" } : Jvm.MethodName) jdk_42_method_151_code (3 : Nat) (Option.none : Option Jvm.ClassFile.FieldType), Jvm.Cond.code ({ cls := "java/lang/StringBuilder", name := "append", desc := "(Ljava/lang/String;)Ljava/lang/StringBuilder;" } : Jvm.MethodName) jdk_67_method_7_code (2 : Nat) (Option.some (Jvm.ClassFile.FieldType.object "java/lang/StringBuilder")), Jvm.Cond.code ({ cls := "java/lang/AbstractStringBuilder", name := "append", desc := "(Ljava/lang/String;)Ljava/lang/AbstractStringBuilder;" } : Jvm.MethodName) jdk_68_method_22_code (3 : Nat) (Option.some (Jvm.ClassFile.FieldType.object "java/lang/AbstractStringBuilder")), Jvm.Cond.code ({ cls := "java/lang/AbstractStringBuilder", name := "ensureCapacityInternal", desc := "(I)V" } : Jvm.MethodName) jdk_68_method_9_code (3 : Nat) (Option.none : Option Jvm.ClassFile.FieldType), Jvm.Cond.code ({ cls := "java/lang/AbstractStringBuilder", name := "putStringAt", desc := "(ILjava/lang/String;)V" } : Jvm.MethodName) jdk_68_method_73_code (3 : Nat) (Option.none : Option Jvm.ClassFile.FieldType), Jvm.Cond.code ({ cls := "java/lang/AbstractStringBuilder", name := "inflateIfNeededFor", desc := "(Ljava/lang/String;)V" } : Jvm.MethodName) jdk_68_method_71_code (2 : Nat) (Option.none : Option Jvm.ClassFile.FieldType), Jvm.Cond.code ({ cls := "java/lang/String", name := "getBytes", desc := "([BIB)V" } : Jvm.MethodName) jdk_42_method_147_code (4 : Nat) (Option.none : Option Jvm.ClassFile.FieldType), Jvm.Cond.code ({ cls := "java/lang/StringBuilder", name := "toString", desc := "()Ljava/lang/String;" } : Jvm.MethodName) jdk_67_method_42_code (1 : Nat) (Option.some (Jvm.ClassFile.FieldType.object "java/lang/String")), Jvm.Cond.code ({ cls := "java/lang/String", name := "<init>", desc := "(Ljava/lang/StringBuilder;)V" } : Jvm.MethodName) jdk_42_method_53_code (2 : Nat) (Option.none : Option Jvm.ClassFile.FieldType), Jvm.Cond.code ({ cls := "java/lang/String", name := "<init>", desc := "(Ljava/lang/AbstractStringBuilder;Ljava/lang/Void;)V" } : Jvm.MethodName) jdk_42_method_150_code (5 : Nat) (Option.none : Option Jvm.ClassFile.FieldType), Jvm.Cond.code ({ cls := "java/lang/AbstractStringBuilder", name := "getValue", desc := "()[B" } : Jvm.MethodName) jdk_68_method_64_code (1 : Nat) (Option.some (Jvm.ClassFile.FieldType.array Jvm.ClassFile.FieldType.byte)), Jvm.Cond.code ({ cls := "java/lang/StringBuilder", name := "length", desc := "()I" } : Jvm.MethodName) jdk_67_method_93_code (1 : Nat) (Option.some Jvm.ClassFile.FieldType.int), Jvm.Cond.code ({ cls := "java/lang/AbstractStringBuilder", name := "length", desc := "()I" } : Jvm.MethodName) jdk_68_method_6_code (1 : Nat) (Option.some Jvm.ClassFile.FieldType.int), Jvm.Cond.code ({ cls := "java/lang/AbstractStringBuilder", name := "isLatin1", desc := "()Z" } : Jvm.MethodName) jdk_68_method_68_code (1 : Nat) (Option.some Jvm.ClassFile.FieldType.boolean), Jvm.Cond.code ({ cls := "java/util/Arrays", name := "copyOfRange", desc := "([BII)[B" } : Jvm.MethodName) jdk_65_method_132_code (3 : Nat) (Option.some (Jvm.ClassFile.FieldType.array Jvm.ClassFile.FieldType.byte)), Jvm.Cond.code ({ cls := "java/util/Arrays", name := "copyOfRangeByte", desc := "([BII)[B" } : Jvm.MethodName) jdk_65_method_133_code (5 : Nat) (Option.some (Jvm.ClassFile.FieldType.array Jvm.ClassFile.FieldType.byte)), Jvm.Cond.code ({ cls := "java/util/Arrays", name := "checkLength", desc := "(II)V" } : Jvm.MethodName) jdk_65_method_131_code (2 : Nat) (Option.none : Option Jvm.ClassFile.FieldType), Jvm.Cond.code ({ cls := "java/lang/Math", name := "min", desc := "(II)I" } : Jvm.MethodName) jdk_29_method_69_code (2 : Nat) (Option.some Jvm.ClassFile.FieldType.int), Jvm.Cond.code ({ cls := "com/example/fordring/fordring/account/PaymentReference", name := "checkDigit", desc := "(Ljava/lang/String;)C" } : Jvm.MethodName) prog_2_method_4_code (5 : Nat) (Option.some Jvm.ClassFile.FieldType.char), Jvm.Cond.code ({ cls := "java/lang/StringBuilder", name := "append", desc := "(C)Ljava/lang/StringBuilder;" } : Jvm.MethodName) jdk_67_method_14_code (2 : Nat) (Option.some (Jvm.ClassFile.FieldType.object "java/lang/StringBuilder")), Jvm.Cond.code ({ cls := "java/lang/AbstractStringBuilder", name := "append", desc := "(C)Ljava/lang/AbstractStringBuilder;" } : Jvm.MethodName) jdk_68_method_31_code (2 : Nat) (Option.some (Jvm.ClassFile.FieldType.object "java/lang/AbstractStringBuilder")), Jvm.Cond.code ({ cls := "java/lang/StringLatin1", name := "canEncode", desc := "(C)Z" } : Jvm.MethodName) jdk_43_method_3_code (1 : Nat) (Option.some Jvm.ClassFile.FieldType.boolean), Jvm.Cond.code ({ cls := "com/example/fordring/fordring/account/PaymentReference", name := "<init>", desc := "(Ljava/lang/String;)V" } : Jvm.MethodName) prog_2_method_1_code (2 : Nat) (Option.none : Option Jvm.ClassFile.FieldType), Jvm.Cond.code ({ cls := "com/example/fordring/fordring/account/PaymentReference", name := "toString", desc := "()Ljava/lang/String;" } : Jvm.MethodName) prog_2_method_8_code (1 : Nat) (Option.some (Jvm.ClassFile.FieldType.object "java/lang/String")), Jvm.Cond.code ({ cls := "java/lang/String", name := "equals", desc := "(Ljava/lang/Object;)Z" } : Jvm.MethodName) jdk_42_method_66_code (3 : Nat) (Option.some Jvm.ClassFile.FieldType.boolean), Jvm.Cond.code ({ cls := "java/lang/StringLatin1", name := "equals", desc := "([B[B)Z" } : Jvm.MethodName) jdk_43_method_13_code (3 : Nat) (Option.some Jvm.ClassFile.FieldType.boolean)]
set_option maxRecDepth 65536 in
theorem codes_eq : words1.filter isCode = codes1 := rfl
theorem w_codes : ∀ c ∈ words1.filter isCode, c.before args0 about1 = true := by
  rw [codes_eq]
  intro c hc
  simp only [codes1, List.mem_cons, List.not_mem_nil, or_false] at hc
  rcases hc with rfl | rfl | rfl | rfl | rfl | rfl | rfl | rfl | rfl | rfl | rfl | rfl | rfl | rfl | rfl | rfl | rfl | rfl | rfl | rfl | rfl | rfl | rfl | rfl | rfl | rfl | rfl | rfl | rfl | rfl | rfl | rfl | rfl | rfl | rfl | rfl | rfl | rfl | rfl | rfl | rfl | rfl | rfl | rfl | rfl | rfl | rfl | rfl | rfl
  · exact w_c0
  · exact w_c1
  · exact w_c2
  · exact w_c3
  · exact w_c4
  · exact w_c5
  · exact w_c6
  · exact w_c7
  · exact w_c8
  · exact w_c9
  · exact w_c10
  · exact w_c11
  · exact w_c12
  · exact w_c13
  · exact w_c14
  · exact w_c15
  · exact w_c16
  · exact w_c17
  · exact w_c18
  · exact w_c19
  · exact w_c20
  · exact w_c21
  · exact w_c22
  · exact w_c23
  · exact w_c24
  · exact w_c25
  · exact w_c26
  · exact w_c27
  · exact w_c28
  · exact w_c29
  · exact w_c30
  · exact w_c31
  · exact w_c32
  · exact w_c33
  · exact w_c34
  · exact w_c35
  · exact w_c36
  · exact w_c37
  · exact w_c38
  · exact w_c39
  · exact w_c40
  · exact w_c41
  · exact w_c42
  · exact w_c43
  · exact w_c44
  · exact w_c45
  · exact w_c46
  · exact w_c47
  · exact w_c48
set_option maxRecDepth 65536 in
theorem w_t1 : (words1.take 24).all (fun c => isCode c || c.before args0 about1) = true := by decide +kernel
set_option maxRecDepth 65536 in
theorem w_t2 : ((words1.drop 24).take 24).all (fun c => isCode c || c.before args0 about1) = true := by decide +kernel
set_option maxRecDepth 65536 in
theorem w_t3 : (((words1.drop 24).drop 24).take 24).all (fun c => isCode c || c.before args0 about1) = true := by decide +kernel
set_option maxRecDepth 65536 in
theorem w_t4 : ((((words1.drop 24).drop 24).drop 24).take 24).all (fun c => isCode c || c.before args0 about1) = true := by decide +kernel
set_option maxRecDepth 65536 in
theorem w_t5 : (((((words1.drop 24).drop 24).drop 24).drop 24).take 24).all (fun c => isCode c || c.before args0 about1) = true := by decide +kernel
set_option maxRecDepth 65536 in
theorem w_t6 : ((((((words1.drop 24).drop 24).drop 24).drop 24).drop 24).take 24).all (fun c => isCode c || c.before args0 about1) = true := by decide +kernel
set_option maxRecDepth 65536 in
theorem w_t7 : (((((((words1.drop 24).drop 24).drop 24).drop 24).drop 24).drop 24).take 24).all (fun c => isCode c || c.before args0 about1) = true := by decide +kernel
set_option maxRecDepth 65536 in
theorem w_t8 : ((((((((words1.drop 24).drop 24).drop 24).drop 24).drop 24).drop 24).drop 24).take 24).all (fun c => isCode c || c.before args0 about1) = true := by decide +kernel
set_option maxRecDepth 65536 in
theorem w_t9 : (((((((((words1.drop 24).drop 24).drop 24).drop 24).drop 24).drop 24).drop 24).drop 24).take 24).all (fun c => isCode c || c.before args0 about1) = true := by decide +kernel
set_option maxRecDepth 65536 in
theorem w_t10 : ((((((((((words1.drop 24).drop 24).drop 24).drop 24).drop 24).drop 24).drop 24).drop 24).drop 24).take 24).all (fun c => isCode c || c.before args0 about1) = true := by decide +kernel
set_option maxRecDepth 65536 in
theorem w_t11 : ((((((((((words1.drop 24).drop 24).drop 24).drop 24).drop 24).drop 24).drop 24).drop 24).drop 24).drop 24).all (fun c => isCode c || c.before args0 about1) = true := by decide +kernel
theorem w_tables : (allAtoms (Jvm.Cond.code x code maxLocals ret :: tables_1)).before args0 about1 = true := by
  rw [allAtoms_all]
  show words1.all (fun c => c.before args0 about1) = true
  refine all_split ?_ w_codes
  rw [← List.take_append_drop 24 words1, List.all_append, w_t1, ← List.take_append_drop 24 (words1.drop 24), List.all_append, w_t2, ← List.take_append_drop 24 ((words1.drop 24).drop 24), List.all_append, w_t3, ← List.take_append_drop 24 (((words1.drop 24).drop 24).drop 24), List.all_append, w_t4, ← List.take_append_drop 24 ((((words1.drop 24).drop 24).drop 24).drop 24), List.all_append, w_t5, ← List.take_append_drop 24 (((((words1.drop 24).drop 24).drop 24).drop 24).drop 24), List.all_append, w_t6, ← List.take_append_drop 24 ((((((words1.drop 24).drop 24).drop 24).drop 24).drop 24).drop 24), List.all_append, w_t7, ← List.take_append_drop 24 (((((((words1.drop 24).drop 24).drop 24).drop 24).drop 24).drop 24).drop 24), List.all_append, w_t8, ← List.take_append_drop 24 ((((((((words1.drop 24).drop 24).drop 24).drop 24).drop 24).drop 24).drop 24).drop 24), List.all_append, w_t9, ← List.take_append_drop 24 (((((((((words1.drop 24).drop 24).drop 24).drop 24).drop 24).drop 24).drop 24).drop 24).drop 24), List.all_append, w_t10, w_t11]
  rfl
set_option maxRecDepth 65536 in
theorem w_rest : rest_1_c.before args0 about1 = true := by decide +kernel
set_option maxRecDepth 65536 in
theorem w_case : (Jvm.Cond.and given_1 narrow_1).before args0 about1 = true := by decide +kernel
set_option maxRecDepth 65536 in
theorem w_consts : constsHeld consts_1 about1 := Jvm.Lit.constsHeldB_iff.mp (by decide +kernel)
theorem w_applies : (headSpec (Jvm.Cond.code x code maxLocals ret :: tables_1) room_1).applies x e0.platform about1 = true :=
  (Spec.applies_iff w_frames).mpr ⟨w_running, w_runnable, w_alone, w_named, w_hears, w_ripe, w_room, w_tables⟩
theorem atStart : AtStart classFile x code maxLocals ret World_1 tables_1 room_1 Calls_1 rest_1 Pre_1 launch0 p0 e0 about1 theMethod args0 below0 :=
  ⟨lists_1, trivial, launch0.admits_env _ _ _, launch0.least_env, fairChoices_fair.cas, fairChoices_fair.clock, w_frames, w_args, w_heap, w_applies, ⟨w_consts, trivial⟩, w_rest, w_case⟩
end start1
theorem witness_1 : WitnessClaimed_1 := ⟨start1.p0, start1.e0, start1.about1, start1.theMethod, start1.args0, start1.below0, start1.atStart⟩
end Jvm.Pilot.@@N@@
