import JvmDerived
import JvmDerived.Pilot.@@N@@Statement
import JvmDerived.Pilot.@@N@@Code
set_option linter.unusedVariables false
set_option linter.unusedSimpArgs false
/-! A small kit of this prover's own: walks in weakest-precondition style, over the library's Stand, its held constants (CHv, CHr, Safe) and its wide ends. General text: no program in it. -/
namespace Jvm.Own
open Sem ClassFile Op Lib Bundle Jvm.Stand Jvm.Free Jvm.LawKit Jvm.RoadKit
/-- what stays the same through the whole law: the launch, the start state, the law's arguments, the start heap's length, whether Strings may come to be interned, the constants held -/
abbrev Gl : Type := Launch × State × Array Value × Nat × Bool × List (String × Nat)
abbrev Gl.l (E : Gl) : Launch := E.1
abbrev Gl.Z (E : Gl) : State := E.2.1
abbrev Gl.a (E : Gl) : Array Value := E.2.2.1
abbrev Gl.n (E : Gl) : Nat := E.2.2.2.1
abbrev Gl.w (E : Gl) : Bool := E.2.2.2.2.1
abbrev Gl.K (E : Gl) : List (String × Nat) := E.2.2.2.2.2
/-- one invocation: program, environment, room, state at the invocation, method, arguments, frames below, record, code, what it promises -/
abbrev Cx : Type := Program × Env × Room × State × MethodId × Array Value × List Frame × Method × Code × (Option Value → Heap → List Addr → Prop)
abbrev Cx.p (x : Cx) : Program := x.1
abbrev Cx.e (x : Cx) : Env := x.2.1
abbrev Cx.R (x : Cx) : Room := x.2.2.1
abbrev Cx.s (x : Cx) : State := x.2.2.2.1
abbrev Cx.m (x : Cx) : MethodId := x.2.2.2.2.1
abbrev Cx.args (x : Cx) : Array Value := x.2.2.2.2.2.1
abbrev Cx.below (x : Cx) : List Frame := x.2.2.2.2.2.2.1
abbrev Cx.meth (x : Cx) : Method := x.2.2.2.2.2.2.2.1
abbrev Cx.c (x : Cx) : Code := x.2.2.2.2.2.2.2.2.1
abbrev Cx.Q (x : Cx) : Option Value → Heap → List Addr → Prop := x.2.2.2.2.2.2.2.2.2
/-- the places that this law's own code may write: made since the start, and no part of a held constant -/
def GOk (E : Gl) : Prop := EW E.Z E.a E.K ∧ (E.w = false → E.K = [])
def FOk (E : Gl) (vm : Vm) (h : Heap) (F : List Addr) : Prop := ∀ x ∈ F, E.n ≤ x ∧ x < h.size ∧ Safe E.Z E.K vm h x
def EndF (w : Bool) (s : State) (o : Outcome) (t : State) (L : List Loc) (k n : Nat) : Prop :=
  match w with
  | true => ReturnedEndW s o t L k n
  | false => FrameEnd s o t L k n
def FinC (E : Gl) (s : State) (R : Room) (Q : Option Value → Heap → List Addr → Prop) (o : Outcome) (t : State) : Prop :=
  ∃ (v : Option Value) (L : List Loc) (F' : List Addr), o = .returned v ∧ Q v t.heap F' ∧ Fr E.n L ∧ Old E.Z E.n t.heap ∧ FOk E t.vm t.heap F' ∧ CHr E.Z E.K s.vm s.heap t.vm t.heap ∧ EndF E.w s o t L R.cells R.slots
/-- A CONTRACT: called with these arguments at this heap it returns; Q says what, the heap then, and the places that may be written behind -/
def MetT (ws : List Cond) (E : Gl) (y : MethodName) (b : ByteArray) (ml : Nat) (ret : Option FieldType) (R : Room) (as' : Array Value) (h : Heap) (F : List Addr) (Q : Option Value → Heap → List Addr → Prop) : Prop :=
  MetFree E.l y (head1 (Cond.code y b ml ret :: ws) R)
    (fun a U => a = as' ∧ E.Z.Warmed39 U.vm ∧ U.heap = h ∧ Old E.Z E.n h ∧ CHv E.Z E.K U.vm h ∧ FOk E U.vm h F ∧ GOk E)
    (fun _ _ _ _ _ => True) (fun _ U o U' => FinC E U R Q o U')
abbrev Met (E : Gl) (y : MethodName) (b : ByteArray) (ml : Nat) (ret : Option FieldType) (R : Room) (as' : Array Value) (h : Heap) (F : List Addr) (Q : Option Value → Heap → List Addr → Prop) : Prop := MetT [] E y b ml ret R as' h F Q
def Is (x : Cx) (own : String) (b : ByteArray) (ml : Nat) (R : Room) (ret : Option FieldType) (nm : String) : Prop :=
  x.c.code = b ∧ x.c.maxLocals = ml ∧ x.R = R ∧ x.meth.sig.returnType = ret ∧ x.meth.name = nm ∧ x.meth.locks = false ∧ x.p.tables.exec = Jvm.exec ∧ x.s.vm.findClass own = some x.m.cls
/-- where a walk stands -/
def Wk (E : Gl) (x : Cx) (T : State) (h : Heap) (F : List Addr) (cs ss : Nat) : Prop :=
  ∃ (vm : Vm) (k : Nat) (L : List Loc), Stand x.p E.l x.e x.R (x.s.setVm vm) x.m x.args x.below x.meth x.c T L cs ss ∧ T.heap = h ∧ x.s.Since vm k ∧ k ≤ h.size ∧ (E.w = false → vm = x.s.vm) ∧
    E.Z.Warmed39 vm ∧ Fr E.n L ∧ Old E.Z E.n h ∧ CHr E.Z E.K x.s.vm x.s.heap vm h ∧ FOk E vm h F ∧ GOk E
/-- what is left to show at a frame of the walk -/
def G (E : Gl) (x : Cx) (T : State) (g : JFrame) : Prop :=
  ∃ (t : State) (o : Outcome), Steps x.p.tables x.e x.below (T.setTop g) t ∧ t.status = .running ∧ Ended t x.below o ∧ FinC E x.s x.R x.Q o t
abbrev fr (x : Cx) (pc : Nat) (Ls : Array Slot) (st : List Value) : JFrame := mkF x.m pc Ls st
/-- an instruction, its length and the next pc -/
def D (b : ByteArray) (pc : Nat) (i : Instr) (len nx : Nat) : Prop := decode b pc = .ok (i, len) ∧ pc + len = nx
/-- a jump: besides, its offset and where it leads -/
def J (b : ByteArray) (pc : Nat) (i : Instr) (len nx : Nat) (o : Int) (tg : Nat) : Prop := decode b pc = .ok (i, len) ∧ pc + len = nx ∧ 0 ≤ (pc : Int) + o ∧ ((pc : Int) + o).toNat = tg
theorem G.of {E : Gl} {x : Cx} {T T' : State} {g g' : JFrame} (hs : ∀ target, Steps x.p.tables x.e x.below (T'.setTop g') target → Steps x.p.tables x.e x.below (T.setTop g) target) (hr : G E x T' g') : G E x T g := by
  obtain ⟨t, o, h1, h2, h3, h4⟩ := hr
  exact ⟨t, o, hs _ h1, h2, h3, h4⟩
theorem G.ofS {E : Gl} {x : Cx} {T T' : State} {g g' : JFrame} (hs : Steps x.p.tables x.e x.below (T.setTop g) (T'.setTop g')) (hr : G E x T' g') : G E x T g := G.of (fun _ h => hs.trans h) hr
theorem G.cast {E : Gl} {x : Cx} {T : State} {g g' : JFrame} (q : g = g') (hr : G E x T g') : G E x T g := q ▸ hr
theorem setVm_same (s : State) : s.setVm s.vm = s := rfl
theorem met_of {ws : List Cond} {E : Gl} {y : MethodName} {b : ByteArray} {ml : Nat} {ret : Option FieldType} {R : Room} {as' : Array Value} {h : Heap} {F : List Addr} {Q : Option Value → Heap → List Addr → Prop} (pn : plainFor y = true)
    (body : ∀ (x : Cx) (T : State), x.Q = Q → Is x y.cls b ml R ret y.name → Wk E x T h F 0 0 → G E x T (entryFrame x.m as' ml)) : MetT ws E y b ml ret R as' h F Q := by
  refine MetFree.of_bodySF pn hisR ?_
  intro p e s m args below meth c s₁ Bd hml0 hP hK
  obtain ⟨rfl, hZ, hh, hO, hC, hF, hE⟩ := hP
  have X0 : Stand p E.l e R s m args below meth c s₁ [] 0 0 := Stand.of_body Bd
  have e0 : s₁.heap = h := by rw [← hh, Bd.state]; rfl
  have hlk : meth.locks = false := BodyLoose.notSynchronized Bd
  have hG := body (p, e, R, s, m, args, below, meth, c, Q) s₁ rfl ⟨Bd.bytes, hml0, rfl, Bd.returns, (name_of_methodNamed Bd.named Bd.method).1, hlk, Bd.exec, findClass_of_methodNamed Bd.named⟩
    ⟨s.vm, 0, [], X0, e0, (State.WarmedH.refl s).since 0, Nat.zero_le _, fun _ => rfl, hZ, Fr.nil _, hO, by subst hh; exact CHr.refl hC, hF, hE⟩
  exact hG
section Steps
variable {E : Gl} {x : Cx} {T : State} {h : Heap} {F : List Addr} {cs ss : Nat} {own : String} {b : ByteArray} {ml : Nat} {R : Room} {ret : Option FieldType} {nm : String} {pc nx tg : Nat} {o : Int} {Ls Ls' : Array Slot} {st : List Value}
theorem Wk.here (W : Wk E x T h F cs ss) : At T x.m x.c x.below := by obtain ⟨_, _, _, X, -⟩ := W; exact X.here
theorem Wk.old (W : Wk E x T h F cs ss) : Ext E.Z.heap h := by obtain ⟨_, _, _, _, _, _, _, _, _, _, hO, -⟩ := W; exact hO.2
theorem Wk.size (W : Wk E x T h F cs ss) : E.n ≤ h.size := by obtain ⟨_, _, _, _, _, _, _, _, _, _, hO, -⟩ := W; rw [← hO.1]; exact hO.2.1
theorem Wk.gok (W : Wk E x T h F cs ss) : GOk E := by obtain ⟨_, _, _, _, _, _, _, _, _, _, _, _, _, hE⟩ := W; exact hE
theorem Wk.mono (W : Wk E x T h F cs ss) {F' : List Addr} {cs' ss' : Nat} (hF : ∀ y ∈ F', y ∈ F) (hc : cs ≤ cs') (hs : ss ≤ ss') : Wk E x T h F' cs' ss' := by
  obtain ⟨vm, k, L, X, h1, h2, h3, h4, h5, h6, h7, h8, h9, h10⟩ := W
  exact ⟨vm, k, L, X.mono hc hs, h1, h2, h3, h4, h5, h6, h7, h8, fun y hy => h9 y (hF y hy), h10⟩
theorem Wk.fOk (W : Wk E x T h F cs ss) {a : Addr} (ha : a ∈ F) : E.n ≤ a ∧ a < h.size := by
  obtain ⟨_, _, _, _, _, _, _, _, _, _, _, _, hF, _⟩ := W; exact ⟨(hF a ha).1, (hF a ha).2.1⟩
theorem pstep (W : Wk E x T h F cs ss) {g g' : JFrame} (hs : ∀ target, At T x.m x.c x.below → Steps x.p.tables x.e x.below (T.setTop g') target → Steps x.p.tables x.e x.below (T.setTop g) target) (hr : G E x T g') : G E x T g := G.of (fun t r => hs t W.here r) hr
theorem w_iloadN (W : Wk E x T h F cs ss) (B : Is x own b ml R ret nm) {k : Fin 4} {v : Int32} (d : D b pc (.iload_n k) 1 nx) (hl : Ls[k.val]? = some (.val (.int v))) (hr : G E x T (fr x nx Ls (.int v :: st))) : G E x T (fr x pc Ls st) := by
  obtain ⟨d1, rfl⟩ := d; exact pstep W (fun _ A r => XS.iloadN A B.2.2.2.2.2.2.1 rfl (by rw [B.1]; exact d1) hl r) hr
theorem w_iload (W : Wk E x T h F cs ss) (B : Is x own b ml R ret nm) {k : Nat} {v : Int32} (d : D b pc (.iload k) 2 nx) (hl : Ls[k]? = some (.val (.int v))) (hr : G E x T (fr x nx Ls (.int v :: st))) : G E x T (fr x pc Ls st) := by
  obtain ⟨d1, rfl⟩ := d; exact pstep W (fun _ A r => XS.iload A B.2.2.2.2.2.2.1 rfl (by rw [B.1]; exact d1) hl r) hr
theorem w_lloadN (W : Wk E x T h F cs ss) (B : Is x own b ml R ret nm) {k : Fin 4} {v : Int64} (d : D b pc (.lload_n k) 1 nx) (hl : Ls[k.val]? = some (.val (.long v))) (hr : G E x T (fr x nx Ls (.long v :: st))) : G E x T (fr x pc Ls st) := by
  obtain ⟨d1, rfl⟩ := d; exact pstep W (fun _ A r => XT.lloadN A B.2.2.2.2.2.2.1 rfl (by rw [B.1]; exact d1) hl r) hr
theorem w_lload (W : Wk E x T h F cs ss) (B : Is x own b ml R ret nm) {k : Nat} {v : Int64} (d : D b pc (.lload k) 2 nx) (hl : Ls[k]? = some (.val (.long v))) (hr : G E x T (fr x nx Ls (.long v :: st))) : G E x T (fr x pc Ls st) := by
  obtain ⟨d1, rfl⟩ := d; exact pstep W (fun _ A r => XT.lload A B.2.2.2.2.2.2.1 rfl (by rw [B.1]; exact d1) hl r) hr
theorem w_aloadN (W : Wk E x T h F cs ss) (B : Is x own b ml R ret nm) {k : Fin 4} {v : Value} (d : D b pc (.aload_n k) 1 nx) (hl : Ls[k.val]? = some (.val v)) (hv : v.isRef = true) (hr : G E x T (fr x nx Ls (v :: st))) : G E x T (fr x pc Ls st) := by
  obtain ⟨d1, rfl⟩ := d; exact pstep W (fun _ A r => XS.aloadN A B.2.2.2.2.2.2.1 rfl (by rw [B.1]; exact d1) hl hv r) hr
theorem w_aload (W : Wk E x T h F cs ss) (B : Is x own b ml R ret nm) {k : Nat} {v : Value} (d : D b pc (.aload k) 2 nx) (hl : Ls[k]? = some (.val v)) (hv : v.isRef = true) (hr : G E x T (fr x nx Ls (v :: st))) : G E x T (fr x pc Ls st) := by
  obtain ⟨d1, rfl⟩ := d; exact pstep W (fun _ A r => XS.aload A B.2.2.2.2.2.2.1 rfl (by rw [B.1]; exact d1) hl hv r) hr
theorem w_istoreN (W : Wk E x T h F cs ss) (B : Is x own b ml R ret nm) {k : Fin 4} {v : Int32} (d : D b pc (.istore_n k) 1 nx) (hl : storeLocals Ls k.val (.int v) = some Ls') (hr : G E x T (fr x nx Ls' st)) : G E x T (fr x pc Ls (.int v :: st)) := by
  obtain ⟨d1, rfl⟩ := d; exact pstep W (fun _ A r => XS.istoreN A B.2.2.2.2.2.2.1 rfl (by rw [B.1]; exact d1) rfl hl r) hr
theorem w_istore (W : Wk E x T h F cs ss) (B : Is x own b ml R ret nm) {k : Nat} {v : Int32} (d : D b pc (.istore k) 2 nx) (hl : storeLocals Ls k (.int v) = some Ls') (hr : G E x T (fr x nx Ls' st)) : G E x T (fr x pc Ls (.int v :: st)) := by
  obtain ⟨d1, rfl⟩ := d; exact pstep W (fun _ A r => XS.istore A B.2.2.2.2.2.2.1 rfl (by rw [B.1]; exact d1) rfl hl r) hr
theorem w_lstoreN (W : Wk E x T h F cs ss) (B : Is x own b ml R ret nm) {k : Fin 4} {v : Int64} (d : D b pc (.lstore_n k) 1 nx) (hl : storeLocals Ls k.val (.long v) = some Ls') (hr : G E x T (fr x nx Ls' st)) : G E x T (fr x pc Ls (.long v :: st)) := by
  obtain ⟨d1, rfl⟩ := d; exact pstep W (fun _ A r => XT.lstoreN A B.2.2.2.2.2.2.1 rfl (by rw [B.1]; exact d1) rfl hl r) hr
theorem w_lstore (W : Wk E x T h F cs ss) (B : Is x own b ml R ret nm) {k : Nat} {v : Int64} (d : D b pc (.lstore k) 2 nx) (hl : storeLocals Ls k (.long v) = some Ls') (hr : G E x T (fr x nx Ls' st)) : G E x T (fr x pc Ls (.long v :: st)) := by
  obtain ⟨d1, rfl⟩ := d; exact pstep W (fun _ A r => XT.lstore A B.2.2.2.2.2.2.1 rfl (by rw [B.1]; exact d1) rfl hl r) hr
theorem w_astoreN (W : Wk E x T h F cs ss) (B : Is x own b ml R ret nm) {k : Fin 4} {v : Value} (d : D b pc (.astore_n k) 1 nx) (hv : v.isRef = true) (hl : storeLocals Ls k.val v = some Ls') (hr : G E x T (fr x nx Ls' st)) : G E x T (fr x pc Ls (v :: st)) := by
  obtain ⟨d1, rfl⟩ := d; exact pstep W (fun _ A r => XS.astoreN A B.2.2.2.2.2.2.1 rfl (by rw [B.1]; exact d1) rfl hv hl r) hr
theorem w_astore (W : Wk E x T h F cs ss) (B : Is x own b ml R ret nm) {k : Nat} {v : Value} (d : D b pc (.astore k) 2 nx) (hv : v.isRef = true) (hl : storeLocals Ls k v = some Ls') (hr : G E x T (fr x nx Ls' st)) : G E x T (fr x pc Ls (v :: st)) := by
  obtain ⟨d1, rfl⟩ := d; exact pstep W (fun _ A r => XS.astore A B.2.2.2.2.2.2.1 rfl (by rw [B.1]; exact d1) rfl hv hl r) hr
theorem w_iconst (W : Wk E x T h F cs ss) (B : Is x own b ml R ret nm) {i : Int} {v : Int32} (d : D b pc (.iconst i) 1 nx) (hv : Int32.ofInt i = v) (hr : G E x T (fr x nx Ls (.int v :: st))) : G E x T (fr x pc Ls st) := by
  obtain ⟨d1, rfl⟩ := d; subst hv; exact pstep W (fun _ A r => XS.iconst A B.2.2.2.2.2.2.1 rfl (by rw [B.1]; exact d1) r) hr
theorem w_bipush (W : Wk E x T h F cs ss) (B : Is x own b ml R ret nm) {i : Int} {v : Int32} (d : D b pc (.bipush i) 2 nx) (hv : (Int8.ofInt i).toInt32 = v) (hr : G E x T (fr x nx Ls (.int v :: st))) : G E x T (fr x pc Ls st) := by
  obtain ⟨d1, rfl⟩ := d; subst hv; exact pstep W (fun _ A r => XS.bipush A B.2.2.2.2.2.2.1 rfl (by rw [B.1]; exact d1) r) hr
theorem w_sipush (W : Wk E x T h F cs ss) (B : Is x own b ml R ret nm) {i : Int} {v : Int32} (d : D b pc (.sipush i) 3 nx) (hv : (Int16.ofInt i).toInt32 = v) (hr : G E x T (fr x nx Ls (.int v :: st))) : G E x T (fr x pc Ls st) := by
  obtain ⟨d1, rfl⟩ := d; subst hv; exact pstep W (fun _ A r => XS.sipush A B.2.2.2.2.2.2.1 rfl (by rw [B.1]; exact d1) r) hr
theorem w_lconst (W : Wk E x T h F cs ss) (B : Is x own b ml R ret nm) {i : Fin 2} {v : Int64} (d : D b pc (.lconst i) 1 nx) (hv : Int64.ofNat i = v) (hr : G E x T (fr x nx Ls (.long v :: st))) : G E x T (fr x pc Ls st) := by
  obtain ⟨d1, rfl⟩ := d; subst hv; exact pstep W (fun _ A r => XT.lconst A B.2.2.2.2.2.2.1 rfl (by rw [B.1]; exact d1) r) hr
theorem w_null (W : Wk E x T h F cs ss) (B : Is x own b ml R ret nm) (d : D b pc .aconst_null 1 nx) (hr : G E x T (fr x nx Ls (.null :: st))) : G E x T (fr x pc Ls st) := by
  obtain ⟨d1, rfl⟩ := d; exact pstep W (fun _ A r => XS.aconstNull A B.2.2.2.2.2.2.1 rfl (by rw [B.1]; exact d1) r) hr
theorem w_dup (W : Wk E x T h F cs ss) (B : Is x own b ml R ret nm) {v : Value} (d : D b pc .dup 1 nx) (hc : v.category = 1) (hr : G E x T (fr x nx Ls (v :: v :: st))) : G E x T (fr x pc Ls (v :: st)) := by
  obtain ⟨d1, rfl⟩ := d; exact pstep W (fun _ A r => XS.dup A B.2.2.2.2.2.2.1 rfl (by rw [B.1]; exact d1) rfl hc r) hr
theorem w_pop (W : Wk E x T h F cs ss) (B : Is x own b ml R ret nm) {v : Value} (d : D b pc .pop 1 nx) (hc : v.category = 1) (hr : G E x T (fr x nx Ls st)) : G E x T (fr x pc Ls (v :: st)) := by
  obtain ⟨d1, rfl⟩ := d; exact pstep W (fun _ A r => XT.pop A B.2.2.2.2.2.2.1 rfl (by rw [B.1]; exact d1) rfl hc r) hr
theorem w_dupX1 (W : Wk E x T h F cs ss) (B : Is x own b ml R ret nm) {v u : Value} (d : D b pc .dup_x1 1 nx) (hc : v.category = 1) (hc' : u.category = 1) (hr : G E x T (fr x nx Ls (v :: u :: v :: st))) : G E x T (fr x pc Ls (v :: u :: st)) := by
  obtain ⟨d1, rfl⟩ := d; exact pstep W (fun _ A r => XT.dupX1 A B.2.2.2.2.2.2.1 rfl (by rw [B.1]; exact d1) rfl hc hc' r) hr
theorem w_dup2 (W : Wk E x T h F cs ss) (B : Is x own b ml R ret nm) {v u : Value} (d : D b pc .dup2 1 nx) (hc : v.category = 1) (hc' : u.category = 1) (hr : G E x T (fr x nx Ls (v :: u :: v :: u :: st))) : G E x T (fr x pc Ls (v :: u :: st)) := by
  obtain ⟨d1, rfl⟩ := d; exact pstep W (fun _ A r => XT.dup2 A B.2.2.2.2.2.2.1 rfl (by rw [B.1]; exact d1) rfl hc hc' r) hr
theorem w_iinc (W : Wk E x T h F cs ss) (B : Is x own b ml R ret nm) {k : Nat} {i : Int} {v w : Int32} (d : D b pc (.iinc k i) 3 nx) (hl : Ls[k]? = some (.val (.int v))) (hw : v + Int32.ofInt i = w) (hl' : storeLocals Ls k (.int w) = some Ls') (hr : G E x T (fr x nx Ls' st)) : G E x T (fr x pc Ls st) := by
  obtain ⟨d1, rfl⟩ := d; subst hw; exact pstep W (fun _ A r => XS.iinc A B.2.2.2.2.2.2.1 rfl (by rw [B.1]; exact d1) hl hl' r) hr
theorem w_goto (W : Wk E x T h F cs ss) (B : Is x own b ml R ret nm) (d : J b pc (.goto o) 3 nx o tg) (hr : G E x T (fr x tg Ls st)) : G E x T (fr x pc Ls st) := by
  obtain ⟨d1, -, d2, d3⟩ := d; exact pstep W (fun _ A r => XS.goto A B.2.2.2.2.2.2.1 rfl (pc0 := pc) rfl (by rw [B.1]; exact d1) d2 d3 r) hr
end Steps
end Jvm.Own
namespace Jvm.Own
open Sem ClassFile Op Lib Bundle Jvm.Stand Jvm.Free Jvm.LawKit Jvm.RoadKit
section StepsB
variable {E : Gl} {x : Cx} {T : State} {h : Heap} {F : List Addr} {cs ss : Nat} {own : String} {b : ByteArray} {ml : Nat} {R : Room} {ret : Option FieldType} {nm : String} {pc nx tg : Nat} {o : Int} {Ls Ls' : Array Slot} {st : List Value}
theorem w_iadd (W : Wk E x T h F cs ss) (B : Is x own b ml R ret nm) {u v : Int32} (d : D b pc .iadd 1 nx) (hr : G E x T (fr x nx Ls (.int (u + v) :: st))) : G E x T (fr x pc Ls (.int v :: .int u :: st)) := by
  obtain ⟨d1, rfl⟩ := d; exact pstep W (fun _ A r => XS.iadd A B.2.2.2.2.2.2.1 rfl (by rw [B.1]; exact d1) rfl r) hr
theorem w_isub (W : Wk E x T h F cs ss) (B : Is x own b ml R ret nm) {u v : Int32} (d : D b pc .isub 1 nx) (hr : G E x T (fr x nx Ls (.int (u - v) :: st))) : G E x T (fr x pc Ls (.int v :: .int u :: st)) := by
  obtain ⟨d1, rfl⟩ := d; exact pstep W (fun _ A r => XS.isub A B.2.2.2.2.2.2.1 rfl (by rw [B.1]; exact d1) rfl r) hr
theorem w_imul (W : Wk E x T h F cs ss) (B : Is x own b ml R ret nm) {u v : Int32} (d : D b pc .imul 1 nx) (hr : G E x T (fr x nx Ls (.int (u * v) :: st))) : G E x T (fr x pc Ls (.int v :: .int u :: st)) := by
  obtain ⟨d1, rfl⟩ := d; exact pstep W (fun _ A r => XS.imul A B.2.2.2.2.2.2.1 rfl (by rw [B.1]; exact d1) rfl r) hr
theorem w_iand (W : Wk E x T h F cs ss) (B : Is x own b ml R ret nm) {u v : Int32} (d : D b pc .iand 1 nx) (hr : G E x T (fr x nx Ls (.int (u &&& v) :: st))) : G E x T (fr x pc Ls (.int v :: .int u :: st)) := by
  obtain ⟨d1, rfl⟩ := d; exact pstep W (fun _ A r => XS.iand A B.2.2.2.2.2.2.1 rfl (by rw [B.1]; exact d1) rfl r) hr
theorem w_ior (W : Wk E x T h F cs ss) (B : Is x own b ml R ret nm) {u v : Int32} (d : D b pc .ior 1 nx) (hr : G E x T (fr x nx Ls (.int (u ||| v) :: st))) : G E x T (fr x pc Ls (.int v :: .int u :: st)) := by
  obtain ⟨d1, rfl⟩ := d; exact pstep W (fun _ A r => XT.ior A B.2.2.2.2.2.2.1 rfl (by rw [B.1]; exact d1) rfl r) hr
theorem w_ixor (W : Wk E x T h F cs ss) (B : Is x own b ml R ret nm) {u v : Int32} (d : D b pc .ixor 1 nx) (hr : G E x T (fr x nx Ls (.int (u ^^^ v) :: st))) : G E x T (fr x pc Ls (.int v :: .int u :: st)) := by
  obtain ⟨d1, rfl⟩ := d; exact pstep W (fun _ A r => XT.ixor A B.2.2.2.2.2.2.1 rfl (by rw [B.1]; exact d1) rfl r) hr
theorem w_idiv (W : Wk E x T h F cs ss) (B : Is x own b ml R ret nm) {u v : Int32} (d : D b pc .idiv 1 nx) (hy : v ≠ 0) (hr : G E x T (fr x nx Ls (.int (u / v) :: st))) : G E x T (fr x pc Ls (.int v :: .int u :: st)) := by
  obtain ⟨d1, rfl⟩ := d; exact pstep W (fun _ A r => XS.idiv A B.2.2.2.2.2.2.1 rfl (by rw [B.1]; exact d1) rfl hy r) hr
theorem w_ladd (W : Wk E x T h F cs ss) (B : Is x own b ml R ret nm) {u v : Int64} (d : D b pc .ladd 1 nx) (hr : G E x T (fr x nx Ls (.long (u + v) :: st))) : G E x T (fr x pc Ls (.long v :: .long u :: st)) := by
  obtain ⟨d1, rfl⟩ := d; exact pstep W (fun _ A r => XT.ladd A B.2.2.2.2.2.2.1 rfl (by rw [B.1]; exact d1) rfl r) hr
theorem w_lsub (W : Wk E x T h F cs ss) (B : Is x own b ml R ret nm) {u v : Int64} (d : D b pc .lsub 1 nx) (hr : G E x T (fr x nx Ls (.long (u - v) :: st))) : G E x T (fr x pc Ls (.long v :: .long u :: st)) := by
  obtain ⟨d1, rfl⟩ := d; exact pstep W (fun _ A r => XT.lsub A B.2.2.2.2.2.2.1 rfl (by rw [B.1]; exact d1) rfl r) hr
theorem w_lmul (W : Wk E x T h F cs ss) (B : Is x own b ml R ret nm) {u v : Int64} (d : D b pc .lmul 1 nx) (hr : G E x T (fr x nx Ls (.long (u * v) :: st))) : G E x T (fr x pc Ls (.long v :: .long u :: st)) := by
  obtain ⟨d1, rfl⟩ := d; exact pstep W (fun _ A r => XT.lmul A B.2.2.2.2.2.2.1 rfl (by rw [B.1]; exact d1) rfl r) hr
theorem w_land (W : Wk E x T h F cs ss) (B : Is x own b ml R ret nm) {u v : Int64} (d : D b pc .land 1 nx) (hr : G E x T (fr x nx Ls (.long (u &&& v) :: st))) : G E x T (fr x pc Ls (.long v :: .long u :: st)) := by
  obtain ⟨d1, rfl⟩ := d; exact pstep W (fun _ A r => XT.land A B.2.2.2.2.2.2.1 rfl (by rw [B.1]; exact d1) rfl r) hr
theorem w_lor (W : Wk E x T h F cs ss) (B : Is x own b ml R ret nm) {u v : Int64} (d : D b pc .lor 1 nx) (hr : G E x T (fr x nx Ls (.long (u ||| v) :: st))) : G E x T (fr x pc Ls (.long v :: .long u :: st)) := by
  obtain ⟨d1, rfl⟩ := d; exact pstep W (fun _ A r => XT.lor A B.2.2.2.2.2.2.1 rfl (by rw [B.1]; exact d1) rfl r) hr
theorem w_lxor (W : Wk E x T h F cs ss) (B : Is x own b ml R ret nm) {u v : Int64} (d : D b pc .lxor 1 nx) (hr : G E x T (fr x nx Ls (.long (u ^^^ v) :: st))) : G E x T (fr x pc Ls (.long v :: .long u :: st)) := by
  obtain ⟨d1, rfl⟩ := d; exact pstep W (fun _ A r => XT.lxor A B.2.2.2.2.2.2.1 rfl (by rw [B.1]; exact d1) rfl r) hr
theorem w_ldiv (W : Wk E x T h F cs ss) (B : Is x own b ml R ret nm) {u v : Int64} (d : D b pc .ldiv 1 nx) (hy : v ≠ 0) (hr : G E x T (fr x nx Ls (.long (u / v) :: st))) : G E x T (fr x pc Ls (.long v :: .long u :: st)) := by
  obtain ⟨d1, rfl⟩ := d; exact pstep W (fun _ A r => XT.ldiv A B.2.2.2.2.2.2.1 rfl (by rw [B.1]; exact d1) rfl hy r) hr
theorem w_irem (W : Wk E x T h F cs ss) (B : Is x own b ml R ret nm) {u v : Int32} (d : D b pc .irem 1 nx) (hy : v ≠ 0) (hr : G E x T (fr x nx Ls (.int (u % v) :: st))) : G E x T (fr x pc Ls (.int v :: .int u :: st)) := by
  obtain ⟨d1, rfl⟩ := d; obtain ⟨_, _, _, X, -⟩ := W; exact G.of (fun _ r => iremM X B.2.2.2.2.2.2.1 rfl (by rw [B.1]; exact d1) rfl hy r) hr
theorem w_lrem (W : Wk E x T h F cs ss) (B : Is x own b ml R ret nm) {u v : Int64} (d : D b pc .lrem 1 nx) (hy : v ≠ 0) (hr : G E x T (fr x nx Ls (.long (u % v) :: st))) : G E x T (fr x pc Ls (.long v :: .long u :: st)) := by
  obtain ⟨d1, rfl⟩ := d; rw [← lrem_mod] at hr; exact pstep W (fun _ A r => XT.lrem A B.2.2.2.2.2.2.1 rfl (by rw [B.1]; exact d1) rfl hy r) hr
theorem w_ineg (W : Wk E x T h F cs ss) (B : Is x own b ml R ret nm) {u : Int32} (d : D b pc .ineg 1 nx) (hr : G E x T (fr x nx Ls (.int (-u) :: st))) : G E x T (fr x pc Ls (.int u :: st)) := by
  obtain ⟨d1, rfl⟩ := d; exact pstep W (fun _ A r => XS.ineg A B.2.2.2.2.2.2.1 rfl (by rw [B.1]; exact d1) rfl r) hr
theorem w_lneg (W : Wk E x T h F cs ss) (B : Is x own b ml R ret nm) {u : Int64} (d : D b pc .lneg 1 nx) (hr : G E x T (fr x nx Ls (.long (-u) :: st))) : G E x T (fr x pc Ls (.long u :: st)) := by
  obtain ⟨d1, rfl⟩ := d; exact pstep W (fun _ A r => XT.lneg A B.2.2.2.2.2.2.1 rfl (by rw [B.1]; exact d1) rfl r) hr
theorem w_i2l (W : Wk E x T h F cs ss) (B : Is x own b ml R ret nm) {u : Int32} (d : D b pc .i2l 1 nx) (hr : G E x T (fr x nx Ls (.long (u.toInt64) :: st))) : G E x T (fr x pc Ls (.int u :: st)) := by
  obtain ⟨d1, rfl⟩ := d; exact pstep W (fun _ A r => XT.i2l A B.2.2.2.2.2.2.1 rfl (by rw [B.1]; exact d1) rfl r) hr
theorem w_l2i (W : Wk E x T h F cs ss) (B : Is x own b ml R ret nm) {u : Int64} (d : D b pc .l2i 1 nx) (hr : G E x T (fr x nx Ls (.int (u.toInt32) :: st))) : G E x T (fr x pc Ls (.long u :: st)) := by
  obtain ⟨d1, rfl⟩ := d; exact pstep W (fun _ A r => XT.l2i A B.2.2.2.2.2.2.1 rfl (by rw [B.1]; exact d1) rfl r) hr
theorem w_i2b (W : Wk E x T h F cs ss) (B : Is x own b ml R ret nm) {u : Int32} (d : D b pc .i2b 1 nx) (hr : G E x T (fr x nx Ls (.int (u.toInt8.toInt32) :: st))) : G E x T (fr x pc Ls (.int u :: st)) := by
  obtain ⟨d1, rfl⟩ := d; exact pstep W (fun _ A r => XT.i2b A B.2.2.2.2.2.2.1 rfl (by rw [B.1]; exact d1) rfl r) hr
theorem w_i2c (W : Wk E x T h F cs ss) (B : Is x own b ml R ret nm) {u : Int32} (d : D b pc .i2c 1 nx) (hr : G E x T (fr x nx Ls (.int (u.toUInt32.toUInt16.toUInt32.toInt32) :: st))) : G E x T (fr x pc Ls (.int u :: st)) := by
  obtain ⟨d1, rfl⟩ := d; exact pstep W (fun _ A r => XT.i2c A B.2.2.2.2.2.2.1 rfl (by rw [B.1]; exact d1) rfl r) hr
theorem w_i2s (W : Wk E x T h F cs ss) (B : Is x own b ml R ret nm) {u : Int32} (d : D b pc .i2s 1 nx) (hr : G E x T (fr x nx Ls (.int (u.toInt16.toInt32) :: st))) : G E x T (fr x pc Ls (.int u :: st)) := by
  obtain ⟨d1, rfl⟩ := d; exact pstep W (fun _ A r => XT.i2s A B.2.2.2.2.2.2.1 rfl (by rw [B.1]; exact d1) rfl r) hr
theorem w_ishl (W : Wk E x T h F cs ss) (B : Is x own b ml R ret nm) {u v : Int32} (d : D b pc .ishl 1 nx) (hr : G E x T (fr x nx Ls (.int (u <<< (v &&& 31)) :: st))) : G E x T (fr x pc Ls (.int v :: .int u :: st)) := by
  obtain ⟨d1, rfl⟩ := d; exact pstep W (fun _ A r => XT.ishl A B.2.2.2.2.2.2.1 rfl (by rw [B.1]; exact d1) rfl r) hr
theorem w_ishr (W : Wk E x T h F cs ss) (B : Is x own b ml R ret nm) {u v : Int32} (d : D b pc .ishr 1 nx) (hr : G E x T (fr x nx Ls (.int (u >>> (v &&& 31)) :: st))) : G E x T (fr x pc Ls (.int v :: .int u :: st)) := by
  obtain ⟨d1, rfl⟩ := d; exact pstep W (fun _ A r => XT.ishr A B.2.2.2.2.2.2.1 rfl (by rw [B.1]; exact d1) rfl r) hr
theorem w_iushr (W : Wk E x T h F cs ss) (B : Is x own b ml R ret nm) {u v : Int32} (d : D b pc .iushr 1 nx) (hr : G E x T (fr x nx Ls (.int (XT.ushr u v) :: st))) : G E x T (fr x pc Ls (.int v :: .int u :: st)) := by
  obtain ⟨d1, rfl⟩ := d; exact pstep W (fun _ A r => XT.iushr A B.2.2.2.2.2.2.1 rfl (by rw [B.1]; exact d1) rfl r) hr
theorem w_lshl (W : Wk E x T h F cs ss) (B : Is x own b ml R ret nm) {u : Int64} {v : Int32} (d : D b pc .lshl 1 nx) (hr : G E x T (fr x nx Ls (.long (u <<< (v.toInt64 &&& 63)) :: st))) : G E x T (fr x pc Ls (.int v :: .long u :: st)) := by
  obtain ⟨d1, rfl⟩ := d; exact pstep W (fun _ A r => XT.lshl A B.2.2.2.2.2.2.1 rfl (by rw [B.1]; exact d1) rfl r) hr
theorem w_lshr (W : Wk E x T h F cs ss) (B : Is x own b ml R ret nm) {u : Int64} {v : Int32} (d : D b pc .lshr 1 nx) (hr : G E x T (fr x nx Ls (.long (u >>> (v.toInt64 &&& 63)) :: st))) : G E x T (fr x pc Ls (.int v :: .long u :: st)) := by
  obtain ⟨d1, rfl⟩ := d; exact pstep W (fun _ A r => XT.lshr A B.2.2.2.2.2.2.1 rfl (by rw [B.1]; exact d1) rfl r) hr
theorem w_lushr (W : Wk E x T h F cs ss) (B : Is x own b ml R ret nm) {u : Int64} {v : Int32} (d : D b pc .lushr 1 nx) (hr : G E x T (fr x nx Ls (.long (XT.ushrL u v) :: st))) : G E x T (fr x pc Ls (.int v :: .long u :: st)) := by
  obtain ⟨d1, rfl⟩ := d; exact pstep W (fun _ A r => XT.lushr A B.2.2.2.2.2.2.1 rfl (by rw [B.1]; exact d1) rfl r) hr
theorem w_lcmp (W : Wk E x T h F cs ss) (B : Is x own b ml R ret nm) {u v : Int64} (d : D b pc .lcmp 1 nx) (hr : G E x T (fr x nx Ls (.int (XT.cmpL u v) :: st))) : G E x T (fr x pc Ls (.long v :: .long u :: st)) := by
  obtain ⟨d1, rfl⟩ := d; exact pstep W (fun _ A r => XT.lcmp A B.2.2.2.2.2.2.1 rfl (by rw [B.1]; exact d1) rfl r) hr
theorem w_if_eq (W : Wk E x T h F cs ss) (B : Is x own b ml R ret nm) {u : Int32} (d : J b pc (.ifCond .eq o) 3 nx o tg) (ht : u = 0 → G E x T (fr x tg Ls st)) (hf : ¬ u = 0 → G E x T (fr x nx Ls st)) : G E x T (fr x pc Ls (.int u :: st)) := by
  obtain ⟨d1, rfl, d2, d3⟩ := d
  by_cases q : u = 0
  · exact pstep W (fun _ A r => XS.ifYes A B.2.2.2.2.2.2.1 rfl (pc0 := pc) rfl (by rw [B.1]; exact d1) rfl ((if0 _ _).trans (teq q).1) d2 d3 r) (ht q)
  · exact pstep W (fun _ A r => XS.ifNo A B.2.2.2.2.2.2.1 rfl (by rw [B.1]; exact d1) rfl ((if0 _ _).trans (feq q).1) r) (hf q)
theorem w_icmp_eq (W : Wk E x T h F cs ss) (B : Is x own b ml R ret nm) {u v : Int32} (d : J b pc (.if_icmp .eq o) 3 nx o tg) (ht : u = v → G E x T (fr x tg Ls st)) (hf : ¬ u = v → G E x T (fr x nx Ls st)) : G E x T (fr x pc Ls (.int v :: .int u :: st)) := by
  obtain ⟨d1, rfl, d2, d3⟩ := d
  by_cases q : u = v
  · exact pstep W (fun _ A r => XS.icmpYes A B.2.2.2.2.2.2.1 rfl (pc0 := pc) rfl (by rw [B.1]; exact d1) rfl (teq q).1 d2 d3 r) (ht q)
  · exact pstep W (fun _ A r => XS.icmpNo A B.2.2.2.2.2.2.1 rfl (by rw [B.1]; exact d1) rfl (feq q).1 r) (hf q)
theorem w_if_ne (W : Wk E x T h F cs ss) (B : Is x own b ml R ret nm) {u : Int32} (d : J b pc (.ifCond .ne o) 3 nx o tg) (ht : ¬ u = 0 → G E x T (fr x tg Ls st)) (hf : u = 0 → G E x T (fr x nx Ls st)) : G E x T (fr x pc Ls (.int u :: st)) := by
  obtain ⟨d1, rfl, d2, d3⟩ := d
  by_cases q : u = 0
  · exact pstep W (fun _ A r => XS.ifNo A B.2.2.2.2.2.2.1 rfl (by rw [B.1]; exact d1) rfl ((if0 _ _).trans (teq q).2) r) (hf q)
  · exact pstep W (fun _ A r => XS.ifYes A B.2.2.2.2.2.2.1 rfl (pc0 := pc) rfl (by rw [B.1]; exact d1) rfl ((if0 _ _).trans (feq q).2) d2 d3 r) (ht q)
theorem w_icmp_ne (W : Wk E x T h F cs ss) (B : Is x own b ml R ret nm) {u v : Int32} (d : J b pc (.if_icmp .ne o) 3 nx o tg) (ht : ¬ u = v → G E x T (fr x tg Ls st)) (hf : u = v → G E x T (fr x nx Ls st)) : G E x T (fr x pc Ls (.int v :: .int u :: st)) := by
  obtain ⟨d1, rfl, d2, d3⟩ := d
  by_cases q : u = v
  · exact pstep W (fun _ A r => XS.icmpNo A B.2.2.2.2.2.2.1 rfl (by rw [B.1]; exact d1) rfl (teq q).2 r) (hf q)
  · exact pstep W (fun _ A r => XS.icmpYes A B.2.2.2.2.2.2.1 rfl (pc0 := pc) rfl (by rw [B.1]; exact d1) rfl (feq q).2 d2 d3 r) (ht q)
theorem w_if_lt (W : Wk E x T h F cs ss) (B : Is x own b ml R ret nm) {u : Int32} (d : J b pc (.ifCond .lt o) 3 nx o tg) (ht : u < 0 → G E x T (fr x tg Ls st)) (hf : ¬ u < 0 → G E x T (fr x nx Ls st)) : G E x T (fr x pc Ls (.int u :: st)) := by
  obtain ⟨d1, rfl, d2, d3⟩ := d
  by_cases q : u < 0
  · exact pstep W (fun _ A r => XS.ifYes A B.2.2.2.2.2.2.1 rfl (pc0 := pc) rfl (by rw [B.1]; exact d1) rfl ((if0 _ _).trans (tlt q).1) d2 d3 r) (ht q)
  · exact pstep W (fun _ A r => XS.ifNo A B.2.2.2.2.2.2.1 rfl (by rw [B.1]; exact d1) rfl ((if0 _ _).trans (flt q).1) r) (hf q)
theorem w_icmp_lt (W : Wk E x T h F cs ss) (B : Is x own b ml R ret nm) {u v : Int32} (d : J b pc (.if_icmp .lt o) 3 nx o tg) (ht : u < v → G E x T (fr x tg Ls st)) (hf : ¬ u < v → G E x T (fr x nx Ls st)) : G E x T (fr x pc Ls (.int v :: .int u :: st)) := by
  obtain ⟨d1, rfl, d2, d3⟩ := d
  by_cases q : u < v
  · exact pstep W (fun _ A r => XS.icmpYes A B.2.2.2.2.2.2.1 rfl (pc0 := pc) rfl (by rw [B.1]; exact d1) rfl (tlt q).1 d2 d3 r) (ht q)
  · exact pstep W (fun _ A r => XS.icmpNo A B.2.2.2.2.2.2.1 rfl (by rw [B.1]; exact d1) rfl (flt q).1 r) (hf q)
theorem w_if_ge (W : Wk E x T h F cs ss) (B : Is x own b ml R ret nm) {u : Int32} (d : J b pc (.ifCond .ge o) 3 nx o tg) (ht : ¬ u < 0 → G E x T (fr x tg Ls st)) (hf : u < 0 → G E x T (fr x nx Ls st)) : G E x T (fr x pc Ls (.int u :: st)) := by
  obtain ⟨d1, rfl, d2, d3⟩ := d
  by_cases q : u < 0
  · exact pstep W (fun _ A r => XS.ifNo A B.2.2.2.2.2.2.1 rfl (by rw [B.1]; exact d1) rfl ((if0 _ _).trans (tlt q).2.1) r) (hf q)
  · exact pstep W (fun _ A r => XS.ifYes A B.2.2.2.2.2.2.1 rfl (pc0 := pc) rfl (by rw [B.1]; exact d1) rfl ((if0 _ _).trans (flt q).2.1) d2 d3 r) (ht q)
theorem w_icmp_ge (W : Wk E x T h F cs ss) (B : Is x own b ml R ret nm) {u v : Int32} (d : J b pc (.if_icmp .ge o) 3 nx o tg) (ht : ¬ u < v → G E x T (fr x tg Ls st)) (hf : u < v → G E x T (fr x nx Ls st)) : G E x T (fr x pc Ls (.int v :: .int u :: st)) := by
  obtain ⟨d1, rfl, d2, d3⟩ := d
  by_cases q : u < v
  · exact pstep W (fun _ A r => XS.icmpNo A B.2.2.2.2.2.2.1 rfl (by rw [B.1]; exact d1) rfl (tlt q).2.1 r) (hf q)
  · exact pstep W (fun _ A r => XS.icmpYes A B.2.2.2.2.2.2.1 rfl (pc0 := pc) rfl (by rw [B.1]; exact d1) rfl (flt q).2.1 d2 d3 r) (ht q)
theorem w_if_gt (W : Wk E x T h F cs ss) (B : Is x own b ml R ret nm) {u : Int32} (d : J b pc (.ifCond .gt o) 3 nx o tg) (ht : 0 < u → G E x T (fr x tg Ls st)) (hf : ¬ 0 < u → G E x T (fr x nx Ls st)) : G E x T (fr x pc Ls (.int u :: st)) := by
  obtain ⟨d1, rfl, d2, d3⟩ := d
  by_cases q : 0 < u
  · exact pstep W (fun _ A r => XS.ifYes A B.2.2.2.2.2.2.1 rfl (pc0 := pc) rfl (by rw [B.1]; exact d1) rfl ((if0 _ _).trans (tlt q).2.2.1) d2 d3 r) (ht q)
  · exact pstep W (fun _ A r => XS.ifNo A B.2.2.2.2.2.2.1 rfl (by rw [B.1]; exact d1) rfl ((if0 _ _).trans (flt q).2.2.1) r) (hf q)
theorem w_icmp_gt (W : Wk E x T h F cs ss) (B : Is x own b ml R ret nm) {u v : Int32} (d : J b pc (.if_icmp .gt o) 3 nx o tg) (ht : v < u → G E x T (fr x tg Ls st)) (hf : ¬ v < u → G E x T (fr x nx Ls st)) : G E x T (fr x pc Ls (.int v :: .int u :: st)) := by
  obtain ⟨d1, rfl, d2, d3⟩ := d
  by_cases q : v < u
  · exact pstep W (fun _ A r => XS.icmpYes A B.2.2.2.2.2.2.1 rfl (pc0 := pc) rfl (by rw [B.1]; exact d1) rfl (tlt q).2.2.1 d2 d3 r) (ht q)
  · exact pstep W (fun _ A r => XS.icmpNo A B.2.2.2.2.2.2.1 rfl (by rw [B.1]; exact d1) rfl (flt q).2.2.1 r) (hf q)
theorem w_if_le (W : Wk E x T h F cs ss) (B : Is x own b ml R ret nm) {u : Int32} (d : J b pc (.ifCond .le o) 3 nx o tg) (ht : ¬ 0 < u → G E x T (fr x tg Ls st)) (hf : 0 < u → G E x T (fr x nx Ls st)) : G E x T (fr x pc Ls (.int u :: st)) := by
  obtain ⟨d1, rfl, d2, d3⟩ := d
  by_cases q : 0 < u
  · exact pstep W (fun _ A r => XS.ifNo A B.2.2.2.2.2.2.1 rfl (by rw [B.1]; exact d1) rfl ((if0 _ _).trans (tlt q).2.2.2) r) (hf q)
  · exact pstep W (fun _ A r => XS.ifYes A B.2.2.2.2.2.2.1 rfl (pc0 := pc) rfl (by rw [B.1]; exact d1) rfl ((if0 _ _).trans (flt q).2.2.2) d2 d3 r) (ht q)
theorem w_icmp_le (W : Wk E x T h F cs ss) (B : Is x own b ml R ret nm) {u v : Int32} (d : J b pc (.if_icmp .le o) 3 nx o tg) (ht : ¬ v < u → G E x T (fr x tg Ls st)) (hf : v < u → G E x T (fr x nx Ls st)) : G E x T (fr x pc Ls (.int v :: .int u :: st)) := by
  obtain ⟨d1, rfl, d2, d3⟩ := d
  by_cases q : v < u
  · exact pstep W (fun _ A r => XS.icmpNo A B.2.2.2.2.2.2.1 rfl (by rw [B.1]; exact d1) rfl (tlt q).2.2.2 r) (hf q)
  · exact pstep W (fun _ A r => XS.icmpYes A B.2.2.2.2.2.2.1 rfl (pc0 := pc) rfl (by rw [B.1]; exact d1) rfl (flt q).2.2.2 d2 d3 r) (ht q)
theorem w_ifnull_null (W : Wk E x T h F cs ss) (B : Is x own b ml R ret nm) (d : J b pc (.ifnull o) 3 nx o tg) (hr : G E x T (fr x tg Ls st)) : G E x T (fr x pc Ls (.null :: st)) := by
  obtain ⟨d1, rfl, d2, d3⟩ := d; exact pstep W (fun _ A r => XS.ifnullYes A B.2.2.2.2.2.2.1 rfl (pc0 := pc) rfl (by rw [B.1]; exact d1) rfl d2 d3 r) hr
theorem w_ifnull_ref (W : Wk E x T h F cs ss) (B : Is x own b ml R ret nm) {a : Addr} (d : J b pc (.ifnull o) 3 nx o tg) (hr : G E x T (fr x nx Ls st)) : G E x T (fr x pc Ls (.ref a :: st)) := by
  obtain ⟨d1, rfl, d2, d3⟩ := d; exact pstep W (fun _ A r => XS.ifnullNo A B.2.2.2.2.2.2.1 rfl (by rw [B.1]; exact d1) rfl r) hr
theorem w_ifnonnull_null (W : Wk E x T h F cs ss) (B : Is x own b ml R ret nm) (d : J b pc (.ifnonnull o) 3 nx o tg) (hr : G E x T (fr x nx Ls st)) : G E x T (fr x pc Ls (.null :: st)) := by
  obtain ⟨d1, rfl, d2, d3⟩ := d; exact pstep W (fun _ A r => XT.ifnonnullNo A B.2.2.2.2.2.2.1 rfl (by rw [B.1]; exact d1) rfl r) hr
theorem w_ifnonnull_ref (W : Wk E x T h F cs ss) (B : Is x own b ml R ret nm) {a : Addr} (d : J b pc (.ifnonnull o) 3 nx o tg) (hr : G E x T (fr x tg Ls st)) : G E x T (fr x pc Ls (.ref a :: st)) := by
  obtain ⟨d1, rfl, d2, d3⟩ := d; exact pstep W (fun _ A r => XT.ifnonnullYes A B.2.2.2.2.2.2.1 rfl (pc0 := pc) rfl (by rw [B.1]; exact d1) rfl d2 d3 r) hr
theorem w_acmp_eq_y (W : Wk E x T h F cs ss) (B : Is x own b ml R ret nm) {u v : Value} (d : J b pc (.if_acmp .eq o) 3 nx o tg) (h1 : u.isRef = true) (h2 : v.isRef = true) (q : u = v) (hr : G E x T (fr x tg Ls st)) : G E x T (fr x pc Ls (v :: u :: st)) := by
  obtain ⟨d1, rfl, d2, d3⟩ := d; exact pstep W (fun _ A r => XT.acmpYes A B.2.2.2.2.2.2.1 rfl (pc0 := pc) rfl (by rw [B.1]; exact d1) rfl h1 h2 (by simp [XT.acmp, q]) d2 d3 r) hr
theorem w_acmp_eq_n (W : Wk E x T h F cs ss) (B : Is x own b ml R ret nm) {u v : Value} (d : J b pc (.if_acmp .eq o) 3 nx o tg) (h1 : u.isRef = true) (h2 : v.isRef = true) (q : u ≠ v) (hr : G E x T (fr x nx Ls st)) : G E x T (fr x pc Ls (v :: u :: st)) := by
  obtain ⟨d1, rfl, d2, d3⟩ := d; exact pstep W (fun _ A r => XT.acmpNo A B.2.2.2.2.2.2.1 rfl (by rw [B.1]; exact d1) rfl h1 h2 (by simp [XT.acmp, q]) r) hr
theorem w_acmp_ne_y (W : Wk E x T h F cs ss) (B : Is x own b ml R ret nm) {u v : Value} (d : J b pc (.if_acmp .ne o) 3 nx o tg) (h1 : u.isRef = true) (h2 : v.isRef = true) (q : u = v) (hr : G E x T (fr x nx Ls st)) : G E x T (fr x pc Ls (v :: u :: st)) := by
  obtain ⟨d1, rfl, d2, d3⟩ := d; exact pstep W (fun _ A r => XT.acmpNo A B.2.2.2.2.2.2.1 rfl (by rw [B.1]; exact d1) rfl h1 h2 (by simp [XT.acmp, q]) r) hr
theorem w_acmp_ne_n (W : Wk E x T h F cs ss) (B : Is x own b ml R ret nm) {u v : Value} (d : J b pc (.if_acmp .ne o) 3 nx o tg) (h1 : u.isRef = true) (h2 : v.isRef = true) (q : u ≠ v) (hr : G E x T (fr x tg Ls st)) : G E x T (fr x pc Ls (v :: u :: st)) := by
  obtain ⟨d1, rfl, d2, d3⟩ := d; exact pstep W (fun _ A r => XT.acmpYes A B.2.2.2.2.2.2.1 rfl (pc0 := pc) rfl (by rw [B.1]; exact d1) rfl h1 h2 (by simp [XT.acmp, q]) d2 d3 r) hr
end StepsB
end Jvm.Own
namespace Jvm.Own
open Sem ClassFile Op Lib Bundle Jvm.Stand Jvm.Free Jvm.LawKit Jvm.RoadKit
theorem chr_nil (Z : State) {vm vm1 : Vm} {h h' : Heap} (q : h.size ≤ h'.size) : CHr Z [] vm h vm1 h' := ⟨(fun _ hp => nomatch hp), q, fun _ B => by obtain ⟨_, hp, _⟩ := B; exact nomatch hp⟩
theorem safe_nil (Z : State) (vm : Vm) (h : Heap) (x : Addr) : Safe Z [] vm h x := fun B => by obtain ⟨_, hp, _⟩ := B; exact nomatch hp
section StepsC
variable {E : Gl} {x : Cx} {T : State} {h : Heap} {F : List Addr} {cs ss : Nat} {own : String} {b : ByteArray} {ml : Nat} {R : Room} {ret : Option FieldType} {nm : String} {pc nx tg : Nat} {o : Int} {Ls Ls' : Array Slot} {st stk : List Value}
/-- a walk opened: the Stand, and how it is closed behind a step that adds cells, and behind one that writes a place that may be written -/
theorem Wk.open (W : Wk E x T h F cs ss) (B : Is x own b ml R ret nm) : ∃ (vm : Vm) (L : List Loc), Stand x.p E.l x.e x.R (x.s.setVm vm) x.m x.args x.below x.meth x.c T L cs ss ∧ T.heap = h ∧ E.Z.Warmed39 (x.s.setVm vm).vm ∧ (x.s.setVm vm).vm.findClass own = some x.m.cls ∧
    (∀ (T' : State) (h' : Heap) (cs' ss' : Nat), Stand x.p E.l x.e x.R (x.s.setVm vm) x.m x.args x.below x.meth x.c T' L cs' ss' → T'.heap = h' → Ext h h' → Wk E x T' h' F cs' ss' ∧ ∀ y, h.size ≤ y → y < h'.size → Wk E x T' h' (y :: F) cs' ss') ∧
    (∀ (a : Addr) (sl : Nat) (v : Value) (T' : State) (h' : Heap), a ∈ F → Stand x.p E.l x.e x.R (x.s.setVm vm) x.m x.args x.below x.meth x.c T' (L ++ [⟨a, sl⟩]) cs ss → T'.heap = h' → Wr h h' a sl v → Wk E x T' h' F cs ss) := by
  obtain ⟨vm, k, L, X, h1, h2, h3, h4, h5, h6, h7, h8, h9, h10⟩ := W
  refine ⟨vm, L, X, h1, h5, ?_, ?_, ?_⟩
  · show vm.findClass own = _
    rw [h2.1.alike.findClass]; exact B.2.2.2.2.2.2.2
  · intro T' h' cs' ss' X' e' Ex
    have c1 : CHr E.Z E.K vm h vm h' := CHr.ext Ex h8.1
    have f1 : FOk E vm h' F := fun y hy => ⟨(h9 y hy).1, Nat.lt_of_lt_of_le (h9 y hy).2.1 Ex.1, c1.safe (h9 y hy).2.1 (h9 y hy).2.2⟩
    have n1 : E.n ≤ h.size := by rw [← h7.1]; exact h7.2.1
    refine ⟨⟨vm, k, L, X', e', h2, Nat.le_trans h3 Ex.1, h4, h5, h6, h7.ext Ex, h8.trans c1, f1, h10⟩, fun y hy1 hy2 => ⟨vm, k, L, X', e', h2, Nat.le_trans h3 Ex.1, h4, h5, h6, h7.ext Ex, h8.trans c1, fun z hz => ?_, h10⟩⟩
    rcases List.mem_cons.mp hz with rfl | hz
    · exact ⟨Nat.le_trans n1 hy1, hy2, Safe.ext Ex h8.1 (Safe.new hy1)⟩
    · exact f1 z hz
  · intro a sl v T' h' ha X' e' Wr'
    have c1 : CHr E.Z E.K vm h vm h' := CHr.wr Wr' (h9 a ha).2.2 h8.1
    exact ⟨vm, k, _, X', e', h2, by rw [Wr'.size]; exact h3, h4, h5, Fr.snoc X' h6 (h9 a ha).1, h7.wr Wr' (h9 a ha).1, h8.trans c1, fun y hy => ⟨(h9 y hy).1, by rw [Wr'.size]; exact (h9 y hy).2.1, c1.safe (h9 y hy).2.1 (h9 y hy).2.2⟩, h10⟩
theorem Wk.openK (W : Wk E x T h F cs ss) (B : Is x own b ml R ret nm) : ∃ (vm : Vm) (L : List Loc), Stand x.p E.l x.e x.R (x.s.setVm vm) x.m x.args x.below x.meth x.c T L cs ss ∧ T.heap = h ∧ E.Z.Warmed39 (x.s.setVm vm).vm ∧ (x.s.setVm vm).vm.findClass own = some x.m.cls ∧ Fr E.n L ∧
    (∀ (T' : State) (h' : Heap) (L' : List Loc) (ws : List Addr) (cs' ss' : Nat), Stand x.p E.l x.e x.R (x.s.setVm vm) x.m x.args x.below x.meth x.c T' L' cs' ss' → T'.heap = h' → Fr E.n L' → Keep h h' ws → (∀ y ∈ ws, y ∈ F) → Wk E x T' h' F cs' ss') := by
  obtain ⟨vm, k, L, X, h1, h2, h3, h4, h5, h6, h7, h8, h9, h10⟩ := W
  refine ⟨vm, L, X, h1, h5, ?_, h6, ?_⟩
  · show vm.findClass own = _
    rw [h2.1.alike.findClass]; exact B.2.2.2.2.2.2.2
  · intro T' h' L' ws cs' ss' X' e' N K hws
    have c1 : CHr E.Z E.K vm h vm h' := CHr.keep K (fun y hy => (h9 y (hws y hy)).2.2) h8.1
    exact ⟨vm, k, L', X', e', h2, Nat.le_trans h3 K.1, h4, h5, N, h7.keep K (fun y hy => (h9 y (hws y hy)).1), h8.trans c1, fun y hy => ⟨(h9 y hy).1, Nat.lt_of_lt_of_le (h9 y hy).2.1 K.1, c1.safe (h9 y hy).2.1 (h9 y hy).2.2⟩, h10⟩
theorem w_arraycopy (W : Wk E x T h F cs ss) (B : Is x own b ml R ret nm) {index : Nat} {a v : Addr} {k k' : ClassId} {ty : FieldType} {z z' sp dp nn : Int32} {vs vd us : List Value} {dv dd : Value} (d : D b pc (.invokestatic index) 3 nx)
    (w1 : (Cond.methodLink own index Jvm.Stand.acN).before E.a E.Z = true) (w2 : (Cond.native Jvm.Stand.acN).before E.a E.Z = true) (w3 : (Cond.static Jvm.Stand.acN).before E.a E.Z = true) (w4 : (Cond.initialized "java/lang/System").before E.a E.Z = true)
    (hF : v ∈ F) (A : Arv E.Z h a k ty z vs dv) (Bd : Arv E.Z h v k' ty z' vd dd) (hty : refKind ty = false) (h1 : ¬ sp < 0) (h2 : ¬ dp < 0) (h3 : ¬ nn < 0) (h4 : sp.toNatClampNeg + nn.toNatClampNeg ≤ z.toNatClampNeg) (h5 : dp.toNatClampNeg + nn.toNatClampNeg ≤ z'.toNatClampNeg)
    (hus : us = (List.range nn.toNatClampNeg).map fun i => vs.getD (sp.toNatClampNeg + i) dv) (hl : dp.toNatClampNeg + nn.toNatClampNeg ≤ vd.length) (hsz : Ls.size = ml) (hf : 1 ≤ R.frames) {Wt : Nat} (hW : (st.map fun v => v.category).sum ≤ Wt) (hlo : Wt + (nativeFrameWords "java/lang/System" "arraycopy" 5 + 11) ≤ R.locals)
    (hr : ∀ (T' : State) (h' : Heap), Wk E x T' h' F cs ss → Keep h h' [v] → Arv E.Z h' v k' ty z' (vd.take dp.toNatClampNeg ++ us ++ vd.drop (dp.toNatClampNeg + nn.toNatClampNeg)) dd → G E x T' (fr x nx Ls st)) : G E x T (fr x pc Ls (.int nn :: .int dp :: .ref v :: .int sp :: .ref a :: st)) := by
  obtain ⟨d1, rfl⟩ := d
  have hge := (W.fOk hF).1
  obtain ⟨vm, L, X, e, hZ, hown, N, cl⟩ := W.openK B
  obtain ⟨T', h', L', X', e', N', K, A', stp⟩ := cpA X B.2.2.2.2.2.2.1 hZ hown w1 w2 w3 w4 e A Bd (Or.inl ⟨rfl, hty⟩) h1 h2 h3 h4 h5 hus hl N hge (g := fr x pc Ls (.int nn :: .int dp :: .ref v :: .int sp :: .ref a :: st)) rfl (hsz.trans B.2.1.symm) rfl (by rw [B.1]; exact d1) (by rw [B.2.2.1]; exact hf) (W := Wt) (by show 2 * 0 + _ ≤ _; omega) (by rw [B.2.2.1]; exact hlo)
  exact G.of stp (hr T' h' (cl T' h' L' [v] cs ss X' e' N' K (fun y hy => by rw [List.mem_singleton.mp hy]; exact hF)) K A')
theorem w_new (W : Wk E x T h F cs ss) (B : Is x own b ml R ret nm) {C : String} {index n : Nat} (d : D b pc (.new index) 3 nx) (w : (Cond.classLink own index C).before E.a E.Z = true) (wi : (Cond.instantiable C n).before E.a E.Z = true) (wz : (Cond.initialized C).before E.a E.Z = true) (hc : cs + 1 ≤ R.cells) (hl : ss + n ≤ R.slots)
    (hr : ∀ (T' : State) (h' : Heap) (a : Addr), Wk E x T' h' (a :: F) (cs + 1) (ss + n) → a = h.size → Ext h h' → Exa E.Z h' a C → (∀ {O f t : String} {ty : FieldType}, Laid E.Z E.a C O f t → parseFieldDescriptor t = some ty → Fld E.Z h' a O f t (defaultValue ty)) → G E x T' (fr x nx Ls (.ref a :: st))) : G E x T (fr x pc Ls st) := by
  obtain ⟨d1, rfl⟩ := d
  obtain ⟨vm, L, X, e, hZ, hown, cl, -⟩ := W.open B
  obtain ⟨T', h', X', e', Ex, A, D, -, stp⟩ := newO X B.2.2.2.2.2.2.1 hZ hown w wi wz e (g := fr x pc Ls st) rfl (by rw [B.1]; exact d1) (by rw [B.2.2.1]; exact hc) (by rw [B.2.2.1]; exact hl)
  exact G.of stp (hr T' h' _ ((cl T' h' _ _ X' e' Ex).2 _ (Nat.le_refl _) A.lt) rfl Ex A D)
theorem w_newarray (W : Wk E x T h F cs ss) (B : Is x own b ml R ret nm) {aty : ArrayType} {ty : FieldType} {n : Int32} {cap : Nat} (d : D b pc (.newarray aty) 2 nx) (ety : newarray.typeOf aty = ty) (w : (Cond.arrayClass ty).before E.a E.Z = true) (hn : ¬ n < 0) (hcap : n.toNatClampNeg ≤ cap) (hb : cap * 8 ≤ 536870912) (hc : cs + 1 ≤ R.cells) (hl : ss + cap ≤ R.slots)
    (hr : ∀ (T' : State) (h' : Heap) (a : Addr) (k : ClassId), Wk E x T' h' (a :: F) (cs + 1) (ss + cap) → a = h.size → Ext h h' → Arv E.Z h' a k ty n [] (defaultValue ty) → G E x T' (fr x nx Ls (.ref a :: st))) : G E x T (fr x pc Ls (.int n :: st)) := by
  obtain ⟨d1, rfl⟩ := d
  subst ety
  obtain ⟨vm, L, X, e, hZ, hown, cl, -⟩ := W.open B
  obtain ⟨T', h', cA, X', e', Ex, A, stp⟩ := newP X B.2.2.2.2.2.2.1 hZ w e (g := fr x pc Ls (.int n :: st)) rfl (by rw [B.1]; exact d1) rfl hn hcap hb (by rw [B.2.2.1]; exact hc) (by rw [B.2.2.1]; exact hl)
  exact G.of stp (hr T' h' _ cA ((cl T' h' _ _ X' e' Ex).2 _ (Nat.le_refl _) A.lt) rfl Ex (Arv.new A hn))
theorem w_anewarray (W : Wk E x T h F cs ss) (B : Is x own b ml R ret nm) {C ad : String} {index : Nat} {n : Int32} {cap : Nat} (d : D b pc (.anewarray index) 3 nx) (w1 : (Cond.classLink own index C).before E.a E.Z = true) (w2 : (Cond.arrayOver (.object C)).before E.a E.Z = true) (hn : ¬ n < 0) (hcap : n.toNatClampNeg ≤ cap) (hb : cap * 8 ≤ 536870912) (hc : cs + 1 ≤ R.cells) (hl : ss + cap ≤ R.slots)
    (hr : ∀ (T' : State) (h' : Heap) (a : Addr) (k : ClassId), Wk E x T' h' (a :: F) (cs + 1) (ss + cap) → a = h.size → Ext h h' → Arv E.Z h' a k (.object C) n [] .null → Ovr E.Z k C → G E x T' (fr x nx Ls (.ref a :: st))) : G E x T (fr x pc Ls (.int n :: st)) := by
  obtain ⟨d1, rfl⟩ := d
  obtain ⟨vm, L, X, e, hZ, hown, cl, -⟩ := W.open B
  obtain ⟨T', h', cA, X', e', Ex, A, O, stp⟩ := newR X B.2.2.2.2.2.2.1 hZ hown w1 w2 e (g := fr x pc Ls (.int n :: st)) rfl (by rw [B.1]; exact d1) rfl hn hcap hb (by rw [B.2.2.1]; exact hc) (by rw [B.2.2.1]; exact hl)
  exact G.of stp (hr T' h' _ cA ((cl T' h' _ _ X' e' Ex).2 _ (Nat.le_refl _) A.lt) rfl Ex (Arv.new A hn) O)
theorem w_getF (W : Wk E x T h F cs ss) (B : Is x own b ml R ret nm) {R0 O n t : String} {index : Nat} {a : Addr} {v : Value} (d : D b pc (.getfield index) 3 nx) (w : (Cond.fieldLink own index R0 n t).before E.a E.Z = true) (via : Via E.Z R0 O n t) (Fl : Fld E.Z h a O n t v)
    (hr : ∀ (T' : State), Wk E x T' h F cs ss → G E x T' (fr x nx Ls (v :: st))) : G E x T (fr x pc Ls (.ref a :: st)) := by
  obtain ⟨d1, rfl⟩ := d
  obtain ⟨vm, L, X, e, hZ, hown, cl, -⟩ := W.open B
  obtain ⟨T', X', e', stp⟩ := getF X B.2.2.2.2.2.2.1 hZ hown (host := "") (Or.inl w) via e Fl (g := fr x pc Ls (.ref a :: st)) rfl rfl (by rw [B.1]; exact d1)
  exact G.of stp (hr T' (cl T' h _ _ X' e' ⟨Nat.le_refl _, fun _ _ q => q⟩).1)
theorem w_getFN (W : Wk E x T h F cs ss) (B : Is x own b ml R ret nm) {R0 O n t host : String} {index : Nat} {a : Addr} {v : Value} (d : D b pc (.getfield index) 3 nx) (w : (Cond.fieldLinkNest own index R0 n t host).before E.a E.Z = true) (via : Via E.Z R0 O n t) (Fl : Fld E.Z h a O n t v)
    (hr : ∀ (T' : State), Wk E x T' h F cs ss → G E x T' (fr x nx Ls (v :: st))) : G E x T (fr x pc Ls (.ref a :: st)) := by
  obtain ⟨d1, rfl⟩ := d
  obtain ⟨vm, L, X, e, hZ, hown, cl, -⟩ := W.open B
  obtain ⟨T', X', e', stp⟩ := getF X B.2.2.2.2.2.2.1 hZ hown (Or.inr w) via e Fl (g := fr x pc Ls (.ref a :: st)) rfl rfl (by rw [B.1]; exact d1)
  exact G.of stp (hr T' (cl T' h _ _ X' e' ⟨Nat.le_refl _, fun _ _ q => q⟩).1)
theorem w_getS (W : Wk E x T h F cs ss) (B : Is x own b ml R ret nm) {R0 O n t : String} {index : Nat} {v : Value} (d : D b pc (.getstatic index) 3 nx) (w : (Cond.fieldLink own index R0 n t).before E.a E.Z = true) (via : Via E.Z R0 O n t) (Fl : Sta E.Z E.Z.heap O n t v)
    (hr : ∀ (T' : State), Wk E x T' h F cs ss → G E x T' (fr x nx Ls (v :: st))) : G E x T (fr x pc Ls st) := by
  obtain ⟨d1, rfl⟩ := d
  have Ol := W.old
  obtain ⟨vm, L, X, e, hZ, hown, cl, -⟩ := W.open B
  obtain ⟨T', X', e', stp⟩ := getS X B.2.2.2.2.2.2.1 hZ hown (host := "") w via e (Fl.ext Ol) (g := fr x pc Ls st) rfl (by rw [B.1]; exact d1)
  exact G.of stp (hr T' (cl T' h _ _ X' e' ⟨Nat.le_refl _, fun _ _ q => q⟩).1)
theorem w_putF (W : Wk E x T h F cs ss) (B : Is x own b ml R ret nm) {R0 O n t C : String} {index kk : Nat} {ty : FieldType} {a : Addr} {v v' old : Value} (d : D b pc (.putfield index) 3 nx) (hF : a ∈ F) (w : (Cond.fieldLink own index R0 n t).before E.a E.Z = true) (via : Via E.Z R0 O n t) (Fl : Fld E.Z h a O n t old) (Ex : Exa E.Z h a C)
    (Ly : (Cond.lays C O n t).before E.a E.Z = true ∨ ((Cond.laysFinal C O n t).before E.a E.Z = true ∧ own = O ∧ nm = "<init>")) (wi : (Cond.instantiable C kk).before E.a E.Z = true) (hty : parseFieldDescriptor t = some ty) (hn : narrow ty v = v') (hf : fits ty v' = true)
    (hr : ∀ (T' : State) (h' : Heap), Wk E x T' h' F cs ss → Wr h h' a (Jvm.RoadKit.slotOf E.Z O n t) v' → Fld E.Z h' a O n t v' → G E x T' (fr x nx Ls st)) : G E x T (fr x pc Ls (v :: .ref a :: st)) := by
  obtain ⟨d1, rfl⟩ := d
  obtain ⟨vm, L, X, e, hZ, hown, -, cl⟩ := W.open B
  obtain ⟨T', h', X', e', Wr', stp⟩ := putFN X B.2.2.2.2.2.2.1 hZ hown w via e Fl Ex (Ly.imp id fun q => ⟨q.1, q.2.1, B.2.2.2.2.1.trans q.2.2⟩) wi hty hn hf (g := fr x pc Ls (v :: .ref a :: st)) rfl rfl (by rw [B.1]; exact d1)
  exact G.of stp (hr T' h' (cl a _ _ T' h' hF X' e' Wr') Wr' (Fl.same Wr'))
theorem w_castY (W : Wk E x T h F cs ss) (B : Is x own b ml R ret nm) {K : String} {index : Nat} {a : Addr} (d : D b pc (.checkcast index) 3 nx) (w : (Cond.classLink own index K).before E.a E.Z = true) (I : Ins E.Z h a K true)
    (hr : ∀ (T' : State), Wk E x T' h F cs ss → G E x T' (fr x nx Ls (.ref a :: st))) : G E x T (fr x pc Ls (.ref a :: st)) := by
  obtain ⟨d1, rfl⟩ := d
  obtain ⟨vm, L, X, e, hZ, hown, cl, -⟩ := W.open B
  obtain ⟨T', X', e', stp⟩ := castY X B.2.2.2.2.2.2.1 hZ hown w e I (g := fr x pc Ls (.ref a :: st)) rfl rfl (by rw [B.1]; exact d1)
  exact G.of stp (hr T' (cl T' h _ _ X' e' ⟨Nat.le_refl _, fun _ _ q => q⟩).1)
theorem w_castNull (W : Wk E x T h F cs ss) (B : Is x own b ml R ret nm) {index : Nat} (d : D b pc (.checkcast index) 3 nx) (hr : G E x T (fr x nx Ls (.null :: st))) : G E x T (fr x pc Ls (.null :: st)) := by
  obtain ⟨d1, rfl⟩ := d
  obtain ⟨vm, L, X, e, hZ, hown, cl, -⟩ := W.open B
  exact G.of (fun t r => X.checkcastNull B.2.2.2.2.2.2.1 (g := fr x pc Ls (.null :: st)) rfl rfl (by rw [B.1]; exact d1) t r) hr
theorem w_instY (W : Wk E x T h F cs ss) (B : Is x own b ml R ret nm) {K : String} {index : Nat} {a : Addr} (d : D b pc (.instanceof index) 3 nx) (w : (Cond.classLink own index K).before E.a E.Z = true) (I : Ins E.Z h a K true)
    (hr : ∀ (T' : State), Wk E x T' h F cs ss → G E x T' (fr x nx Ls (.int 1 :: st))) : G E x T (fr x pc Ls (.ref a :: st)) := by
  obtain ⟨d1, rfl⟩ := d
  obtain ⟨vm, L, X, e, hZ, hown, cl, -⟩ := W.open B
  obtain ⟨T', X', e', stp⟩ := instY X B.2.2.2.2.2.2.1 hZ hown w e I (g := fr x pc Ls (.ref a :: st)) rfl rfl (by rw [B.1]; exact d1)
  exact G.of stp (hr T' (cl T' h _ _ X' e' ⟨Nat.le_refl _, fun _ _ q => q⟩).1)
theorem w_initO (W : Wk E x T h F cs ss) (B : Is x own b ml R ret nm) {index : Nat} {a : Addr} (d : D b pc (.invokespecial index) 3 nx) (w1 : (Cond.methodLink own index Lib.objectInit).before E.a E.Z = true) (w2 : (Cond.instanceMethod Lib.objectInit).before E.a E.Z = true) (w3 : (Cond.code Lib.objectInit ⟨#[0xb1]⟩ 1 none).before E.a E.Z = true)
    (hsz : Ls.size = ml) (hf : 1 ≤ R.frames) {Wt : Nat} (hW : (st.map fun v => v.category).sum ≤ Wt) (hl : Wt + 12 ≤ R.locals) (hr : ∀ (T' : State), Wk E x T' h F cs ss → G E x T' (fr x nx Ls st)) : G E x T (fr x pc Ls (.ref a :: st)) := by
  obtain ⟨d1, rfl⟩ := d
  obtain ⟨vm, L, X, e, hZ, hown, cl, -⟩ := W.open B
  obtain ⟨T', X', e', stp⟩ := initO X B.2.2.2.2.2.2.1 hZ hown w1 w2 w3 e (g := fr x pc Ls (.ref a :: st)) rfl (hsz.trans B.2.1.symm) rfl (by rw [B.1]; exact d1) (by rw [B.2.2.1]; exact hf) (W := Wt) (by show 2 * 0 + _ ≤ _; omega) (by rw [B.2.2.1]; exact hl)
  exact G.of stp (hr T' (cl T' h _ _ X' e' ⟨Nat.le_refl _, fun _ _ q => q⟩).1)
theorem w_arraylength (W : Wk E x T h F cs ss) (B : Is x own b ml R ret nm) {a : Addr} {k : ClassId} {ty : FieldType} {n : Int32} {vs : List Value} {dv : Value} (d : D b pc .arraylength 1 nx) (A : Arv E.Z h a k ty n vs dv) (hr : G E x T (fr x nx Ls (.int n :: st))) : G E x T (fr x pc Ls (.ref a :: st)) := by
  obtain ⟨d1, rfl⟩ := d
  obtain ⟨vm, L, X, e, hZ, hown, -, -⟩ := W.open B
  obtain ⟨c, A, -, S, N, -, -⟩ := A
  refine G.of (fun t r => X.arraylength B.2.2.2.2.2.2.1 (by rw [e]; exact A.1) (State.isArrayOf_alike hZ.alike A.2.1) (g := fr x pc Ls (.ref a :: st)) rfl rfl (by rw [B.1]; exact d1) t ?_) hr
  rw [len_of S N]; exact r
theorem arv_at {Z : State} {h : Heap} {a : Addr} {k : ClassId} {ty : FieldType} {n : Int32} {vs : List Value} {dv : Value} {c : Cell} {j : Int32} {v : Value} (S : c.slots.size = n.toNatClampNeg) (H : Has c vs dv) (hj : ¬ j < 0 ∧ j < n) (hv : vs.getD j.toNatClampNeg dv = v) : ¬ (j < 0 ∨ c.slots.size ≤ j.toNatClampNeg) ∧ c.slots[j.toNatClampNeg]? = some v :=
  ⟨inb_of S hj, Has.at H (inb_of S hj) hv⟩
theorem w_caload (W : Wk E x T h F cs ss) (B : Is x own b ml R ret nm) {a : Addr} {k : ClassId} {n j : Int32} {vs : List Value} {dv v : Value} (d : D b pc .caload 1 nx) (A : Arv E.Z h a k .char n vs dv) (hj : ¬ j < 0 ∧ j < n) (hv : vs.getD j.toNatClampNeg dv = v) (hr : G E x T (fr x nx Ls (v :: st))) : G E x T (fr x pc Ls (.int j :: .ref a :: st)) := by
  obtain ⟨d1, rfl⟩ := d
  obtain ⟨vm, L, X, e, hZ, hown, -, -⟩ := W.open B
  obtain ⟨c, A, -, S, N, H, -⟩ := A
  exact G.of (fun t r => X.caload B.2.2.2.2.2.2.1 (by rw [e]; exact A.1) (State.isArrayOf_alike hZ.alike A.2.1) A.2.2 (inb_of S hj) (Has.at H (inb_of S hj) hv) (g := fr x pc Ls (.int j :: .ref a :: st)) rfl rfl (by rw [B.1]; exact d1) t r) hr
theorem w_baload (W : Wk E x T h F cs ss) (B : Is x own b ml R ret nm) {a : Addr} {k : ClassId} {n j : Int32} {vs : List Value} {dv v : Value} (d : D b pc .baload 1 nx) (A : Arv E.Z h a k .byte n vs dv) (hj : ¬ j < 0 ∧ j < n) (hv : vs.getD j.toNatClampNeg dv = v) (hr : G E x T (fr x nx Ls (v :: st))) : G E x T (fr x pc Ls (.int j :: .ref a :: st)) := by
  obtain ⟨d1, rfl⟩ := d
  obtain ⟨vm, L, X, e, hZ, hown, -, -⟩ := W.open B
  obtain ⟨c, A, -, S, N, H, -⟩ := A
  exact G.of (fun t r => X.baloadBytes B.2.2.2.2.2.2.1 (by rw [e]; exact A.1) (State.isArrayOf_alike hZ.alike A.2.1) A.2.2 (inb_of S hj) (Has.at H (inb_of S hj) hv) (g := fr x pc Ls (.int j :: .ref a :: st)) rfl rfl (by rw [B.1]; exact d1) t r) hr
theorem w_iaload (W : Wk E x T h F cs ss) (B : Is x own b ml R ret nm) {a : Addr} {k : ClassId} {n j : Int32} {vs : List Value} {dv v : Value} (d : D b pc .iaload 1 nx) (A : Arv E.Z h a k .int n vs dv) (hj : ¬ j < 0 ∧ j < n) (hv : vs.getD j.toNatClampNeg dv = v) (hr : G E x T (fr x nx Ls (v :: st))) : G E x T (fr x pc Ls (.int j :: .ref a :: st)) := by
  obtain ⟨d1, rfl⟩ := d
  obtain ⟨vm, L, X, e, hZ, hown, -, -⟩ := W.open B
  obtain ⟨c, A, -, S, N, H, -⟩ := A
  exact G.of (fun t r => X.iaload B.2.2.2.2.2.2.1 (by rw [e]; exact A.1) (State.isArrayOf_alike hZ.alike A.2.1) A.2.2 (inb_of S hj) (Has.at H (inb_of S hj) hv) (g := fr x pc Ls (.int j :: .ref a :: st)) rfl rfl (by rw [B.1]; exact d1) t r) hr
theorem w_laload (W : Wk E x T h F cs ss) (B : Is x own b ml R ret nm) {a : Addr} {k : ClassId} {n j : Int32} {vs : List Value} {dv v : Value} (d : D b pc .laload 1 nx) (A : Arv E.Z h a k .long n vs dv) (hj : ¬ j < 0 ∧ j < n) (hv : vs.getD j.toNatClampNeg dv = v) (hr : G E x T (fr x nx Ls (v :: st))) : G E x T (fr x pc Ls (.int j :: .ref a :: st)) := by
  obtain ⟨d1, rfl⟩ := d
  obtain ⟨vm, L, X, e, hZ, hown, -, -⟩ := W.open B
  obtain ⟨c, A, -, S, N, H, -⟩ := A
  exact G.of (fun t r => X.laload B.2.2.2.2.2.2.1 (by rw [e]; exact A.1) (State.isArrayOf_alike hZ.alike A.2.1) A.2.2 (inb_of S hj) (Has.at H (inb_of S hj) hv) (g := fr x pc Ls (.int j :: .ref a :: st)) rfl rfl (by rw [B.1]; exact d1) t r) hr
theorem w_aaload (W : Wk E x T h F cs ss) (B : Is x own b ml R ret nm) {a : Addr} {k : ClassId} {ty : FieldType} {n j : Int32} {vs : List Value} {dv v : Value} (d : D b pc .aaload 1 nx) (hty : ty.isReference = true) (A : Arv E.Z h a k ty n vs dv) (hj : ¬ j < 0 ∧ j < n) (hv : vs.getD j.toNatClampNeg dv = v) (hr : G E x T (fr x nx Ls (v :: st))) : G E x T (fr x pc Ls (.int j :: .ref a :: st)) := by
  obtain ⟨d1, rfl⟩ := d
  obtain ⟨vm, L, X, e, hZ, hown, -, -⟩ := W.open B
  obtain ⟨c, A, -, S, N, H, -⟩ := A
  exact G.of (fun t r => X.aaload B.2.2.2.2.2.2.1 (by rw [e]; exact A.1) (State.isArrayOf_alike hZ.alike A.2.1) hty A.2.2 (inb_of S hj) (Has.at H (inb_of S hj) hv) (g := fr x pc Ls (.int j :: .ref a :: st)) rfl rfl (by rw [B.1]; exact d1) t r) hr
theorem w_castore (W : Wk E x T h F cs ss) (B : Is x own b ml R ret nm) {a : Addr} {k : ClassId} {n j v u : Int32} {vs : List Value} {dv : Value} (d : D b pc .castore 1 nx) (hF : a ∈ F) (A : Arv E.Z h a k .char n vs dv) (hj : ¬ j < 0 ∧ j < n) {i : Nat} (hi : j.toNatClampNeg = i) (hl : i < vs.length) (hu : nar .char v = u)
    (hr : ∀ (T' : State) (h' : Heap), Wk E x T' h' F cs ss → Keep h h' [a] → Arv E.Z h' a k .char n (vs.set i (.int u)) dv → G E x T' (fr x nx Ls st)) : G E x T (fr x pc Ls (.int v :: .int j :: .ref a :: st)) := by
  obtain ⟨d1, rfl⟩ := d
  subst hu
  obtain ⟨vm, L, X, e, hZ, hown, -, cl⟩ := W.open B
  obtain ⟨c, A, q, S, N, H, Gf⟩ := A
  obtain ⟨T', h', X', e', Wr', stp⟩ := stC X B.2.2.2.2.2.2.1 hZ e A (inb_of S hj) (g := fr x pc Ls (.int v :: .int j :: .ref a :: st)) rfl rfl (by rw [B.1]; exact d1)
  exact G.of stp (hr T' h' (cl a _ _ T' h' hF X' e' Wr') (Keep.of_wr Wr') (Arv.set A q S N H Gf (fits_nar_char _) Wr' i hi hl))
theorem w_bastore (W : Wk E x T h F cs ss) (B : Is x own b ml R ret nm) {a : Addr} {k : ClassId} {n j v u : Int32} {vs : List Value} {dv : Value} (d : D b pc .bastore 1 nx) (hF : a ∈ F) (A : Arv E.Z h a k .byte n vs dv) (hj : ¬ j < 0 ∧ j < n) {i : Nat} (hi : j.toNatClampNeg = i) (hl : i < vs.length) (hu : nar .byte v = u)
    (hr : ∀ (T' : State) (h' : Heap), Wk E x T' h' F cs ss → Keep h h' [a] → Arv E.Z h' a k .byte n (vs.set i (.int u)) dv → G E x T' (fr x nx Ls st)) : G E x T (fr x pc Ls (.int v :: .int j :: .ref a :: st)) := by
  obtain ⟨d1, rfl⟩ := d
  subst hu
  obtain ⟨vm, L, X, e, hZ, hown, -, cl⟩ := W.open B
  obtain ⟨c, A, q, S, N, H, Gf⟩ := A
  obtain ⟨T', h', X', e', Wr', stp⟩ := stB X B.2.2.2.2.2.2.1 hZ e A (inb_of S hj) (g := fr x pc Ls (.int v :: .int j :: .ref a :: st)) rfl rfl (by rw [B.1]; exact d1)
  exact G.of stp (hr T' h' (cl a _ _ T' h' hF X' e' Wr') (Keep.of_wr Wr') (Arv.set A q S N H Gf (fits_nar_byte _) Wr' i hi hl))
theorem w_iastore (W : Wk E x T h F cs ss) (B : Is x own b ml R ret nm) {a : Addr} {k : ClassId} {n j v : Int32} {vs : List Value} {dv : Value} (d : D b pc .iastore 1 nx) (hF : a ∈ F) (A : Arv E.Z h a k .int n vs dv) (hj : ¬ j < 0 ∧ j < n) {i : Nat} (hi : j.toNatClampNeg = i) (hl : i < vs.length)
    (hr : ∀ (T' : State) (h' : Heap), Wk E x T' h' F cs ss → Keep h h' [a] → Arv E.Z h' a k .int n (vs.set i (.int v)) dv → G E x T' (fr x nx Ls st)) : G E x T (fr x pc Ls (.int v :: .int j :: .ref a :: st)) := by
  obtain ⟨d1, rfl⟩ := d
  obtain ⟨vm, L, X, e, hZ, hown, -, cl⟩ := W.open B
  obtain ⟨c, A, q, S, N, H, Gf⟩ := A
  obtain ⟨T', h', X', e', Wr', stp⟩ := stI X B.2.2.2.2.2.2.1 hZ e A (inb_of S hj) (g := fr x pc Ls (.int v :: .int j :: .ref a :: st)) rfl rfl (by rw [B.1]; exact d1)
  exact G.of stp (hr T' h' (cl a _ _ T' h' hF X' e' Wr') (Keep.of_wr Wr') (Arv.set A q S N H Gf rfl Wr' i hi hl))
theorem w_lastore (W : Wk E x T h F cs ss) (B : Is x own b ml R ret nm) {a : Addr} {k : ClassId} {n j : Int32} {v : Int64} {vs : List Value} {dv : Value} (d : D b pc .lastore 1 nx) (hF : a ∈ F) (A : Arv E.Z h a k .long n vs dv) (hj : ¬ j < 0 ∧ j < n) {i : Nat} (hi : j.toNatClampNeg = i) (hl : i < vs.length)
    (hr : ∀ (T' : State) (h' : Heap), Wk E x T' h' F cs ss → Keep h h' [a] → Arv E.Z h' a k .long n (vs.set i (.long v)) dv → G E x T' (fr x nx Ls st)) : G E x T (fr x pc Ls (.long v :: .int j :: .ref a :: st)) := by
  obtain ⟨d1, rfl⟩ := d
  obtain ⟨vm, L, X, e, hZ, hown, -, cl⟩ := W.open B
  obtain ⟨c, A, q, S, N, H, Gf⟩ := A
  obtain ⟨T', h', X', e', Wr', stp⟩ := stJ X B.2.2.2.2.2.2.1 hZ e A (inb_of S hj) (g := fr x pc Ls (.long v :: .int j :: .ref a :: st)) rfl rfl (by rw [B.1]; exact d1)
  exact G.of stp (hr T' h' (cl a _ _ T' h' hF X' e' Wr') (Keep.of_wr Wr') (Arv.set A q S N H Gf rfl Wr' i hi hl))
theorem fits_isRef {ty : FieldType} (hty : ty.isReference = true) {v : Value} (hv : v.isRef = true) : fits ty v = true := by
  cases ty <;> simp [FieldType.isReference] at hty <;> rcases ref_cases hv with rfl | ⟨a, rfl⟩ <;> rfl
theorem w_aastore (W : Wk E x T h F cs ss) (B : Is x own b ml R ret nm) {a : Addr} {k : ClassId} {ty : FieldType} {n j : Int32} {v : Value} {vs : List Value} {dv : Value} (d : D b pc .aastore 1 nx) (hF : a ∈ F) (hty : ty.isReference = true) (A : Arv E.Z h a k ty n vs dv) (hj : ¬ j < 0 ∧ j < n) {i : Nat} (hi : j.toNatClampNeg = i) (hl : i < vs.length) (hv : v.isRef = true) (Sv : Sto E.Z h a v)
    (hr : ∀ (T' : State) (h' : Heap), Wk E x T' h' F cs ss → Keep h h' [a] → Arv E.Z h' a k ty n (vs.set i v) dv → G E x T' (fr x nx Ls st)) : G E x T (fr x pc Ls (v :: .int j :: .ref a :: st)) := by
  obtain ⟨d1, rfl⟩ := d
  obtain ⟨vm, L, X, e, hZ, hown, -, cl⟩ := W.open B
  obtain ⟨c, A, q, S, N, H, Gf⟩ := A
  obtain ⟨T', h', X', e', Wr', stp⟩ := stR X B.2.2.2.2.2.2.1 hZ e A (inb_of S hj) hty Sv (g := fr x pc Ls (v :: .int j :: .ref a :: st)) rfl rfl (by rw [B.1]; exact d1)
  exact G.of stp (hr T' h' (cl a _ _ T' h' hF X' e' Wr') (Keep.of_wr Wr') (Arv.set A q S N H Gf (fits_isRef hty hv) Wr' i hi hl))
theorem w_ldcI (W : Wk E x T h F cs ss) (B : Is x own b ml R ret nm) {index : Nat} {v : Int32} (d : D b pc (.ldc index) 2 nx) (w : (Cond.constant own index v).before E.a E.Z = true) (hr : G E x T (fr x nx Ls (.int v :: st))) : G E x T (fr x pc Ls st) := by
  obtain ⟨d1, rfl⟩ := d
  obtain ⟨vm, L, X, e, hZ, hown, -, -⟩ := W.open B
  exact G.of (fun t r => X.ldcI B.2.2.2.2.2.2.1 hown (mv hZ w) (g := fr x pc Ls st) rfl (by rw [B.1]; exact d1) r) hr
theorem w_ldcWI (W : Wk E x T h F cs ss) (B : Is x own b ml R ret nm) {index : Nat} {v : Int32} (d : D b pc (.ldc_w index) 3 nx) (w : (Cond.constant own index v).before E.a E.Z = true) (hr : G E x T (fr x nx Ls (.int v :: st))) : G E x T (fr x pc Ls st) := by
  obtain ⟨d1, rfl⟩ := d
  obtain ⟨vm, L, X, e, hZ, hown, -, -⟩ := W.open B
  exact G.of (fun t r => X.ldcWI B.2.2.2.2.2.2.1 hown (mv hZ w) (g := fr x pc Ls st) rfl (by rw [B.1]; exact d1) r) hr
theorem w_ldc2J (W : Wk E x T h F cs ss) (B : Is x own b ml R ret nm) {index : Nat} {v : Int64} (d : D b pc (.ldc2_w index) 3 nx) (w : (Cond.constantLong own index v).before E.a E.Z = true) (hr : G E x T (fr x nx Ls (.long v :: st))) : G E x T (fr x pc Ls st) := by
  obtain ⟨d1, rfl⟩ := d
  obtain ⟨vm, L, X, e, hZ, hown, -, -⟩ := W.open B
  exact G.of (fun t r => X.ldc2J B.2.2.2.2.2.2.1 hown (mv hZ w) (g := fr x pc Ls st) rfl (by rw [B.1]; exact d1) r) hr
end StepsC
end Jvm.Own
namespace Jvm.Own
open Sem ClassFile Op Lib Bundle Jvm.Stand Jvm.Free Jvm.LawKit Jvm.RoadKit
section StepsD
variable {E : Gl} {x : Cx} {T : State} {h : Heap} {F : List Addr} {cs ss : Nat} {own : String} {b : ByteArray} {ml : Nat} {R : Room} {ret : Option FieldType} {nm : String} {pc nx tg : Nat} {o : Int} {Ls Ls' : Array Slot} {st stk : List Value}
/-- the end of a walk -/
theorem fin_of (W : Wk E x T h F cs ss) (B : Is x own b ml R ret nm) {v : Option Value} {F' : List Addr} {Q : Option Value → Heap → List Addr → Prop} (hQ : x.Q = Q) (q : Q v h F') (hF' : ∀ y ∈ F', y ∈ F) (hc : cs ≤ R.cells) (hs : ss ≤ R.slots) (hv : ret = none → v = none) {g : JFrame}
    (stp : ∀ (vm : Vm) (L : List Loc) (fs : List Frame), Stand x.p E.l x.e x.R (x.s.setVm vm) x.m x.args x.below x.meth x.c T L cs ss → (∀ (f : JFrame) (acts : List Action), f.method = x.m → f.locked = none → f.entered = [] → (doReturn x.e (T.setTop f) acts v).1 = T.setFrames fs) → Steps x.p.tables x.e x.below (T.setTop g) (T.setFrames fs)) : G E x T g := by
  obtain ⟨vm, k, L, X, h1, h2, h3, h4, h5, h6, h7, h8, h9, h10⟩ := W
  obtain ⟨fs, hr, hrun, hended, hW, hsame⟩ := X.leave (v := v) (fun q => hv (B.2.2.2.1.symm.trans q)) B.2.2.2.2.2.1
  have c : CHr E.Z E.K vm h T.vm h := CHv.at X h5 h10.1 h8.1
  refine ⟨T.setFrames fs, _, stp vm L fs X hr, hrun, hended, v, L, F', rfl, ?_, h6, ?_, ?_, ?_, ?_⟩
  · rw [hQ]; show Q v T.heap F'; rw [h1]; exact q
  · show Old E.Z E.n T.heap; rw [h1]; exact h7
  · show FOk E T.vm T.heap F'; rw [h1]
    exact fun y hy => ⟨(h9 y (hF' y hy)).1, (h9 y (hF' y hy)).2.1, c.safe (h9 y (hF' y hy)).2.1 (h9 y (hF' y hy)).2.2⟩
  · show CHr E.Z E.K x.s.vm x.s.heap T.vm T.heap; rw [h1]; exact h8.trans c
  · have hc' : cs ≤ x.R.cells := by rw [B.2.2.1]; exact hc
    have hs' : ss ≤ x.R.slots := by rw [B.2.2.1]; exact hs
    show EndF E.w _ _ _ _ _ _
    cases hw : E.w with
    | true =>
      obtain ⟨a1, a2, a3⟩ := h2.ended (U := T.setFrames fs) hW (by show k ≤ T.heap.size; rw [h1]; exact h3) hsame
      exact ⟨⟨v, rfl⟩, a1, a2, a3.mono hc' hs'⟩
    | false =>
      have e := h4 hw
      subst e
      exact ⟨⟨v, rfl⟩, hW, hsame.mono hc' hs'⟩
theorem w_ireturn (W : Wk E x T h F cs ss) (B : Is x own b ml R (some .int) nm) {v : Int32} {F' : List Addr} {Q : Option Value → Heap → List Addr → Prop} (d : D b pc .ireturn 1 nx) (hQ : x.Q = Q) (hc : cs ≤ R.cells) (hs : ss ≤ R.slots) (hF' : ∀ y ∈ F', y ∈ F) (q : Q (some (.int v)) h F') : G E x T (fr x pc Ls (.int v :: st)) :=
  fin_of W B hQ q hF' hc hs (fun q => nomatch q) fun _ _ _ X hr => retOut X B.2.2.2.2.2.2.1 B.2.2.2.1 rfl (Or.inl ⟨rfl, Or.inl rfl, _, rfl⟩) (by rw [B.1]; exact d.1) hr
theorem w_ireturnN (W : Wk E x T h F cs ss) {t : FieldType} (B : Is x own b ml R (some t) nm) {v u : Int32} {F' : List Addr} {Q : Option Value → Heap → List Addr → Prop} (d : D b pc .ireturn 1 nx) (ht : t = .boolean ∨ t = .byte ∨ t = .char ∨ t = .short) (hu : nar t v = u) (hQ : x.Q = Q) (hc : cs ≤ R.cells) (hs : ss ≤ R.slots) (hF' : ∀ y ∈ F', y ∈ F) (q : Q (some (.int u)) h F') : G E x T (fr x pc Ls (.int v :: st)) := by
  subst hu
  exact fin_of W B hQ q hF' hc hs (fun q => nomatch q) fun _ _ _ X hr => retN X B.2.2.2.2.2.2.1 B.2.2.2.1 ht (by rw [B.1]; exact d.1) hr
theorem w_lreturn (W : Wk E x T h F cs ss) (B : Is x own b ml R (some .long) nm) {v : Int64} {F' : List Addr} {Q : Option Value → Heap → List Addr → Prop} (d : D b pc .lreturn 1 nx) (hQ : x.Q = Q) (hc : cs ≤ R.cells) (hs : ss ≤ R.slots) (hF' : ∀ y ∈ F', y ∈ F) (q : Q (some (.long v)) h F') : G E x T (fr x pc Ls (.long v :: st)) :=
  fin_of W B hQ q hF' hc hs (fun q => nomatch q) fun _ _ _ X hr => retOut X B.2.2.2.2.2.2.1 B.2.2.2.1 rfl (Or.inr (Or.inl ⟨rfl, rfl, _, rfl⟩)) (by rw [B.1]; exact d.1) hr
theorem w_areturn (W : Wk E x T h F cs ss) {t : FieldType} (B : Is x own b ml R (some t) nm) {v : Value} {F' : List Addr} {Q : Option Value → Heap → List Addr → Prop} (d : D b pc .areturn 1 nx) (ht : t.isReference = true) (hv : v.isRef = true) (hQ : x.Q = Q) (hc : cs ≤ R.cells) (hs : ss ≤ R.slots) (hF' : ∀ y ∈ F', y ∈ F) (q : Q (some v) h F') : G E x T (fr x pc Ls (v :: st)) := by
  have hn : narrow t v = v := by
    rcases ref_cases hv with rfl | ⟨a, rfl⟩ <;> cases t <;> simp [FieldType.isReference] at ht <;> rfl
  exact fin_of W B hQ q hF' hc hs (fun q => nomatch q) fun _ _ _ X hr => retOut X B.2.2.2.2.2.2.1 B.2.2.2.1 hn (Or.inr (Or.inr (Or.inr (Or.inr ⟨rfl, ht, hv⟩)))) (by rw [B.1]; exact d.1) hr
theorem w_return (W : Wk E x T h F cs ss) (B : Is x own b ml R none nm) {F' : List Addr} {Q : Option Value → Heap → List Addr → Prop} (d : D b pc .return_ 1 nx) (hQ : x.Q = Q) (hc : cs ≤ R.cells) (hs : ss ≤ R.slots) (hF' : ∀ y ∈ F', y ∈ F) (q : Q none h F') : G E x T (fr x pc Ls []) :=
  fin_of W B hQ q hF' hc hs (fun _ => rfl) fun _ _ _ X hr => X.returnOut B.2.2.2.2.2.2.1 B.2.2.2.1 (by rw [B.1]; exact d.1) hr
/-- a String constant of those held -/
theorem w_ldcS (W : Wk E x T h F cs ss) (B : Is x own b ml R ret nm) {index n : Nat} {text : String} {vs : List Value} {z : Int32} (d : D b pc (.ldc index) 2 nx) (hw : E.w = true) (hmem : (own, index) ∈ E.K) (w : (Cond.stringLink own index text).before E.a E.Z = true) (wS : ∀ c ∈ Bundle.stringAtoms, c.before E.a E.Z = true)
    (ht : (∀ c ∈ text.toList, c.toNat < 256) ∧ text.toList.map (fun c => Value.int (Jvm.Lit.byteI c.toNat.toUInt16)) = vs) (hz : ¬ z < 0) (hl : z.toNatClampNeg = vs.length) (hn : 4 * text.toList.length ≤ n) (hbig : n ≤ 536870912) (hc : cs + 2 ≤ R.cells) (hs : ss + (n + 4) ≤ R.slots)
    (hr : ∀ (T' : State) (h' : Heap) (a v : Addr) (k : ClassId), Wk E x T' h' F (cs + 2) (ss + (n + 4)) → Ext h h' → Exa E.Z h' a "java/lang/String" → Fld E.Z h' a "java/lang/String" "coder" "B" (.int 0) → Fld E.Z h' a "java/lang/String" "value" "[B" (.ref v) → Arv E.Z h' v k .byte z vs (.int 0) → (∀ y ∈ F, y ≠ a ∧ y ≠ v) → G E x T' (fr x nx Ls (.ref a :: st))) : G E x T (fr x pc Ls st) := by
  obtain ⟨d1, rfl⟩ := d
  obtain ⟨vm, k, L, X, h1, h2, h3, h4, h5, h6, h7, h8, h9, h10⟩ := W
  have hown : vm.findClass own = some x.m.cls := by rw [h2.1.alike.findClass]; exact B.2.2.2.2.2.2.2
  obtain ⟨a, T', h', k1, v, kv, X', e', Ex, S', hk1, hZ', hown', A, C, V, K, la, lb, cr, -, sf, stp⟩ := ldcCH X B.2.2.2.2.2.2.1 h5 hown w wS h1 h2 h3 h10.1 hmem h8.1 ht hz hl (g := fr x pc Ls st) rfl (by rw [B.1]; exact d1) hn hbig (by rw [B.2.2.1]; exact hc) (by rw [B.2.2.1]; exact hs)
  have f1 : FOk E T'.vm h' F := fun y hy => ⟨(h9 y hy).1, Nat.lt_of_lt_of_le (h9 y hy).2.1 Ex.1, cr.safe (h9 y hy).2.1 (h9 y hy).2.2⟩
  exact G.of stp (hr T' h' a v kv ⟨T'.vm, k1, L, X', e', S', hk1, fun q => (Bool.noConfusion (hw.symm.trans q)), hZ', h6, h7.ext Ex, h8.trans cr, f1, h10⟩ Ex A C V K fun y hy => sf y (f1 y hy).2.2)
/-- a String constant of which nothing is said but that a reference is pushed -/
theorem w_ldcO (W : Wk E x T h F cs ss) (B : Is x own b ml R ret nm) {index n : Nat} {text : String} (d : D b pc (.ldc index) 2 nx) (hw : E.w = true) (w : (Cond.stringLink own index text).before E.a E.Z = true) (wS : ∀ c ∈ Bundle.stringAtoms, c.before E.a E.Z = true)
    (hn : 4 * text.toList.length ≤ n) (hbig : n ≤ 536870912) (hc : cs + 2 ≤ R.cells) (hs : ss + (n + 4) ≤ R.slots)
    (hr : ∀ (T' : State) (h' : Heap) (a : Addr), Wk E x T' h' F (cs + 2) (ss + (n + 4)) → Ext h h' → G E x T' (fr x nx Ls (.ref a :: st))) : G E x T (fr x pc Ls st) := by
  obtain ⟨d1, rfl⟩ := d
  obtain ⟨vm, k, L, X, h1, h2, h3, h4, h5, h6, h7, h8, h9, h10⟩ := W
  have hown : vm.findClass own = some x.m.cls := by rw [h2.1.alike.findClass]; exact B.2.2.2.2.2.2.2
  obtain ⟨a, T', h', k1, X', e', Ex, S', hk1, hZ', hown', cr, -, stp⟩ := ldcOH X B.2.2.2.2.2.2.1 h5 hown w wS h1 h2 h3 h10.1 h8.1 (g := fr x pc Ls st) rfl (by rw [B.1]; exact d1) hn hbig (by rw [B.2.2.1]; exact hc) (by rw [B.2.2.1]; exact hs)
  have f1 : FOk E T'.vm h' F := fun y hy => ⟨(h9 y hy).1, Nat.lt_of_lt_of_le (h9 y hy).2.1 Ex.1, cr.safe (h9 y hy).2.1 (h9 y hy).2.2⟩
  exact G.of stp (hr T' h' a ⟨T'.vm, k1, L, X', e', S', hk1, fun q => (Bool.noConfusion (hw.symm.trans q)), hZ', h6, h7.ext Ex, h8.trans cr, f1, h10⟩ Ex)
end StepsD
/-! calls: what a contract leaves, said at a point of the caller's walk -/
def PreC (R rm : Room) (as' : Array Value) (h : Heap) (A : Pt) (a : Array Value) : Prop := a = as' ∧ A.U.heap = h ∧ A.cells + rm.cells ≤ R.cells ∧ A.slots + rm.slots ≤ R.slots
def PostC (E : Gl) (vm : Vm) (h : Heap) (rm : Room) (Q : Option Value → Heap → List Addr → Prop) (A : Pt) (_ : Array Value) (v : Option Value) (B : Pt) : Prop :=
  ∃ (L : List Loc) (F' : List Addr), Q v B.U.heap F' ∧ Fr E.n L ∧ Old E.Z E.n B.U.heap ∧ FOk E B.U.vm B.U.heap F' ∧ CHr E.Z E.K vm h B.U.vm B.U.heap ∧ B.locs = A.locs ++ L ∧ B.cells = A.cells + rm.cells ∧ B.slots = A.slots + rm.slots
section Pay
variable {E : Gl} {p : Program} {e : Env} {R rm : Room} {s : State} {args as' : Array Value} {below : List Frame} {vm : Vm} {h : Heap} {F : List Addr} {y : MethodName} {bytes : ByteArray} {maxL : Nat} {ret : Option FieldType} {Q : Option Value → Heap → List Addr → Prop} {len W : Nat}
theorem fok_at {m : MethodId} {meth : Method} {c : Code} {A : Pt} (Y : Stand p E.l e R (s.setVm vm) m args below meth c A.U A.locs A.cells A.slots) (hZ : E.Z.Warmed39 vm) (hE : EW E.Z E.a E.K) (H : CHv E.Z E.K vm h) (hF : FOk E vm h F) : CHr E.Z E.K vm h A.U.vm h ∧ FOk E A.U.vm h F := by
  have c := CHv.at Y hZ hE H
  exact ⟨c, fun z hz => ⟨(hF z hz).1, (hF z hz).2.1, c.safe (hF z hz).2.1 (hF z hz).2.2⟩⟩
theorem payS (hw : E.w = true) (hM : Met E y bytes maxL ret rm as' h F Q) (hZ : E.Z.Warmed39 vm) (hO : Old E.Z E.n h) (H : CHv E.Z E.K vm h) (hF : FOk E vm h F) (hE : GOk E)
    (wc : (Cond.code y bytes maxL ret).before E.a E.Z = true) (wz : (Cond.initialized y.cls).before E.a E.Z = true) (hf : rm.frames + 1 ≤ R.frames) (hl : W + (maxL + 11) + rm.locals ≤ R.locals) :
    BackS E.l R p e below (s.setVm vm) args y len W (PreC R rm as' h) (PostC E vm h rm Q) :=
  BackS.of_freeW (bytes := bytes) (maxL := maxL) (ret := ret)
    (E := fun _ first o t L k n => k = rm.cells ∧ n = rm.slots ∧ ∃ (v : Option Value) (F' : List Addr), o = .returned v ∧ Q v t.heap F' ∧ Fr E.n L ∧ Old E.Z E.n t.heap ∧ FOk E t.vm t.heap F' ∧ CHr E.Z E.K first.vm first.heap t.vm t.heap) hM hf hl
    (fun m meth c A a Y hp => have hU : E.Z.Warmed39 A.U.vm := wtrans (s := s.setVm vm) hZ Y.warmed
      ⟨by show (Cond.and _ .tt).before a A.U = true; rw [Cond.before_and, mv hU wc]; rfl, mv hU wc, mv hU wz, hp.2.2.1, hp.2.2.2⟩)
    (fun m meth c A a g mk Y hp => ⟨hp.1, wtrans (s := s.setVm vm) hZ Y.warmed, hp.2.1, hO, (fok_at Y hZ hE.1 H hF).1.1, (fok_at Y hZ hE.1 H hF).2, hE⟩) (fun _ _ _ _ _ _ _ _ _ => trivial)
    (fun _ _ _ _ ⟨v, L, F', h1, h2, h3, h4, h5, h6, h7⟩ => ⟨L, _, _, by have h7 : EndF E.w _ _ _ _ _ _ := h7; rw [hw] at h7; exact h7, rfl, rfl, v, F', h1, h2, h3, h4, h5, h6⟩)
    (fun m meth c A a g mk v t L k n Y hp _ _ ⟨e1, e2, v', F', e3, e4, e5, e6, e7, e8⟩ => by
      cases e3; subst e1 e2
      refine ⟨L, F', e4, e5, e6, e7, (fok_at Y hZ hE.1 H hF).1.trans ?_, rfl, rfl, rfl⟩
      rw [← hp.2.1]; exact e8)
theorem payN (hw : E.w = false) (hM : Met E y bytes maxL ret rm as' h F Q) (hZ : E.Z.Warmed39 vm) (hO : Old E.Z E.n h) (H : CHv E.Z E.K vm h) (hF : FOk E vm h F) (hE : GOk E)
    (wc : (Cond.code y bytes maxL ret).before E.a E.Z = true) (wz : (Cond.initialized y.cls).before E.a E.Z = true) (hf : rm.frames + 1 ≤ R.frames) (hl : W + (maxL + 11) + rm.locals ≤ R.locals) :
    Back E.l R p e below (s.setVm vm) args y len W (PreC R rm as' h) (PostC E vm h rm Q) :=
  Back.of_free (bytes := bytes) (maxL := maxL) (ret := ret)
    (E := fun _ first o t L k n => k = rm.cells ∧ n = rm.slots ∧ ∃ (v : Option Value) (F' : List Addr), o = .returned v ∧ Q v t.heap F' ∧ Fr E.n L ∧ Old E.Z E.n t.heap ∧ FOk E t.vm t.heap F' ∧ CHr E.Z E.K first.vm first.heap t.vm t.heap) hM hf hl
    (fun m meth c A a Y hp => have hU : E.Z.Warmed39 A.U.vm := wtrans (s := s.setVm vm) hZ Y.warmed
      ⟨by show (Cond.and _ .tt).before a A.U = true; rw [Cond.before_and, mv hU wc]; rfl, mv hU wc, mv hU wz, hp.2.2.1, hp.2.2.2⟩)
    (fun m meth c A a g mk Y hp => ⟨hp.1, wtrans (s := s.setVm vm) hZ Y.warmed, hp.2.1, hO, (fok_at Y hZ hE.1 H hF).1.1, (fok_at Y hZ hE.1 H hF).2, hE⟩) (fun _ _ _ _ _ _ _ _ _ => trivial)
    (fun _ _ _ _ ⟨v, L, F', h1, h2, h3, h4, h5, h6, h7⟩ => ⟨L, _, _, by have h7 : EndF E.w _ _ _ _ _ _ := h7; rw [hw] at h7; exact h7, rfl, rfl, v, F', h1, h2, h3, h4, h5, h6⟩)
    (fun m meth c A a g mk v t L k n Y hp _ _ ⟨e1, e2, v', F', e3, e4, e5, e6, e7, e8⟩ => by
      cases e3; subst e1 e2
      refine ⟨L, F', e4, e5, e6, e7, (fok_at Y hZ hE.1 H hF).1.trans ?_, rfl, rfl, rfl⟩
      rw [← hp.2.1]; exact e8)
end Pay
section Calls
variable {E : Gl} {x : Cx} {T : State} {h : Heap} {F : List Addr} {cs ss : Nat} {own : String} {b : ByteArray} {ml : Nat} {R : Room} {ret : Option FieldType} {nm : String} {pc nx : Nat} {Ls : Array Slot} {st stk : List Value}
/-- behind a call: the walk stands again -/
theorem back_wk {vm : Vm} {L : List Loc} (W : Wk E x T h F cs ss) {rm : Room} {Q : Option Value → Heap → List Addr → Prop} {vm' : Vm} {BU : State} {BL : List Loc} {Bc Bs k' : Nat} {A : Pt} {a : Array Value} {v : Option Value} (hA : A.locs = L ∧ A.cells = cs ∧ A.slots = ss)
    (h6 : Fr E.n L) (h8 : CHr E.Z E.K x.s.vm x.s.heap vm h) (h10 : GOk E) (X' : Stand x.p E.l x.e x.R (x.s.setVm vm') x.m x.args x.below x.meth x.c BU BL Bc Bs) (S' : x.s.Since vm' k') (hk' : k' ≤ BU.heap.size) (hw : E.w = false → vm' = x.s.vm) (hZ' : E.Z.Warmed39 vm')
    (P : PostC E vm h rm Q A a v (BU, BL, Bc, Bs)) (hv : BU.vm = vm' ∨ (E.K = [] ∧ vm' = vm)) : ∃ F', Wk E x BU BU.heap F' (cs + rm.cells) (ss + rm.slots) ∧ Q v BU.heap F' := by
  obtain ⟨L', F', p1, p2, p3, p4, p5, p6, p7, p8⟩ := P
  dsimp only [Pt.U, Pt.locs, Pt.cells, Pt.slots] at p1 p2 p3 p4 p5 p6 p7 p8
  obtain ⟨q1, q2, q3⟩ := hA
  dsimp only [Pt.U, Pt.locs, Pt.cells, Pt.slots] at q1 q2 q3
  refine ⟨F', ⟨vm', k', BL, ?_, rfl, S', hk', hw, hZ', ?_, p3, ?_, ?_, h10⟩, p1⟩
  · rw [p7, p8, q2, q3] at X'; exact X'
  · rw [p6, q1]; exact Fr.app h6 p2
  · rcases hv with rfl | ⟨hK, rfl⟩
    · exact h8.trans p5
    · rw [hK] at h8 ⊢; exact chr_nil _ (Nat.le_trans h8.2.1 p5.2.1)
  · rcases hv with rfl | ⟨hK, rfl⟩
    · exact p4
    · exact fun z hz => ⟨(p4 z hz).1, (p4 z hz).2.1, by rw [hK]; exact safe_nil _ _ _ _⟩
theorem w_static (W : Wk E x T h F cs ss) (B : Is x own b ml R ret nm) {index : Nat} {y : MethodName} {bytes : ByteArray} {maxL : Nat} {rt : Option FieldType} {rm : Room} {Q : Option Value → Heap → List Addr → Prop} {ps : List FieldType} {r : Option FieldType} {argsL : List Value} {Wt : Nat} (d : D b pc (.invokestatic index) 3 nx)
    (w1 : (Cond.methodLink own index y).before E.a E.Z = true) (w2 : (Cond.static y).before E.a E.Z = true) (w3 : (Cond.initialized y.cls).before E.a E.Z = true) (w4 : (Cond.code y bytes maxL rt).before E.a E.Z = true) (hy : y.cls ≠ "java/lang/invoke/MethodHandle" ∧ y.cls ≠ "java/lang/invoke/VarHandle")
    (pd : parseMethodDescriptor y.desc = some ⟨ps, r⟩) (hl : argsL.length = ps.length) (hsz : Ls.size = ml) (hst : stk = argsL.reverse ++ st) (hW : (st.map fun v => v.category).sum ≤ Wt) (hM : Met E y bytes maxL rt rm argsL.toArray h F Q)
    (hf : rm.frames + 1 ≤ R.frames) (hlo : Wt + (maxL + 11) + rm.locals ≤ R.locals) (hc : cs + rm.cells ≤ R.cells) (hs : ss + rm.slots ≤ R.slots)
    (hr : ∀ (T' : State) (h' : Heap) (F' : List Addr) (v : Option Value), Wk E x T' h' F' (cs + rm.cells) (ss + rm.slots) → Q v h' F' → G E x T' (fr x nx Ls (v.toList ++ st))) : G E x T (fr x pc Ls stk) := by
  obtain ⟨d1, rfl⟩ := d
  subst hst
  have W0 := W
  obtain ⟨vm, k, L, X, h1, h2, h3, h4, h5, h6, h7, h8, h9, h10⟩ := W
  have hown : vm.findClass own = some x.m.cls := by rw [h2.1.alike.findClass]; exact B.2.2.2.2.2.2.2
  rw [← B.2.2.1] at hf hlo hc hs
  cases hw : E.w with
  | true =>
    obtain ⟨v, vm₁, ⟨BU, BL, Bc, Bs⟩, -, X', S', gr, P, stp⟩ := callSS X B.2.2.2.2.2.2.1 hown (mvT (s := x.s.setVm vm) h5 w1) (mvT (s := x.s.setVm vm) h5 w2) (mvT (s := x.s.setVm vm) h5 w3) (mvT (s := x.s.setVm vm) h5 w4) hy (payS (len := 3) (W := Wt) hw hM h5 h7 h8.1 h9 h10 w4 w3 hf hlo) (g := fr x pc Ls (argsL.reverse ++ st)) rfl (hsz.trans B.2.1.symm) (lenOf pd hl) rfl (by show 2 * 0 + _ ≤ _; omega) (by rw [B.1]; exact d1) (fun vm₁ _ => ⟨rfl, h1, hc, hs⟩)
    obtain ⟨F', W', q⟩ := back_wk (vm := vm) W0 ⟨rfl, rfl, rfl⟩ h6 h8 h10 X' (foldS h2 (by rw [h1]; exact h3) S' gr) (Nat.le_refl _) (fun q => Bool.noConfusion (hw.symm.trans q)) (State.Warmed39.trans (t := x.s.setVm vm) h5 S'.1) P (Or.inl rfl)
    exact G.ofS stp (hr BU BU.heap F' v W' q)
  | false =>
    have e := h4 hw
    obtain ⟨v, vm₁, ⟨BU, BL, Bc, Bs⟩, -, X', P, stp⟩ := Jvm.LawKit.callS X B.2.2.2.2.2.2.1 hown (mvT (s := x.s.setVm vm) h5 w1) (mvT (s := x.s.setVm vm) h5 w2) (mvT (s := x.s.setVm vm) h5 w3) (mvT (s := x.s.setVm vm) h5 w4) hy (payN (len := 3) (W := Wt) hw hM h5 h7 h8.1 h9 h10 w4 w3 hf hlo) (g := fr x pc Ls (argsL.reverse ++ st)) rfl (hsz.trans B.2.1.symm) (lenOf pd hl) rfl (by show 2 * 0 + _ ≤ _; omega) (by rw [B.1]; exact d1) (fun vm₁ _ => ⟨rfl, h1, hc, hs⟩)
    have gr : h.size ≤ BU.heap.size := by obtain ⟨_, _, _, _, _, _, c5, _⟩ := P; exact c5.2.1
    obtain ⟨F', W', q⟩ := back_wk (vm := vm) W0 ⟨rfl, rfl, rfl⟩ h6 h8 h10 X' h2 (Nat.le_trans h3 gr) h4 h5 P (Or.inr ⟨h10.2 hw, rfl⟩)
    exact G.of stp (hr BU BU.heap F' v W' q)
theorem w_special (W : Wk E x T h F cs ss) (B : Is x own b ml R ret nm) {index : Nat} {y : MethodName} {bytes : ByteArray} {maxL : Nat} {rm : Room} {Q : Option Value → Heap → List Addr → Prop} {ps : List FieldType} {r : Option FieldType} {a : Addr} {argsL : List Value} {Wt : Nat} (d : D b pc (.invokespecial index) 3 nx) (hy1 : y.name = "<init>")
    (w1 : (Cond.methodLink own index y).before E.a E.Z = true) (w2 : (Cond.instanceMethod y).before E.a E.Z = true) (w3 : (Cond.initialized y.cls).before E.a E.Z = true) (w4 : (Cond.code y bytes maxL none).before E.a E.Z = true) (hy : y.cls ≠ "java/lang/invoke/MethodHandle" ∧ y.cls ≠ "java/lang/invoke/VarHandle")
    (pd : parseMethodDescriptor y.desc = some ⟨ps, r⟩) (hl : argsL.length = ps.length) (hsz : Ls.size = ml) (hst : stk = argsL.reverse ++ .ref a :: st) (hW : (st.map fun v => v.category).sum ≤ Wt) (hM : Met E y bytes maxL none rm (.ref a :: argsL).toArray h F Q)
    (hf : rm.frames + 1 ≤ R.frames) (hlo : Wt + (maxL + 11) + rm.locals ≤ R.locals) (hc : cs + rm.cells ≤ R.cells) (hs : ss + rm.slots ≤ R.slots)
    (hr : ∀ (T' : State) (h' : Heap) (F' : List Addr) (v : Option Value), Wk E x T' h' F' (cs + rm.cells) (ss + rm.slots) → Q v h' F' → G E x T' (fr x nx Ls (v.toList ++ st))) : G E x T (fr x pc Ls stk) := by
  obtain ⟨d1, rfl⟩ := d
  subst hst
  have W0 := W
  obtain ⟨vm, k, L, X, h1, h2, h3, h4, h5, h6, h7, h8, h9, h10⟩ := W
  have hown : vm.findClass own = some x.m.cls := by rw [h2.1.alike.findClass]; exact B.2.2.2.2.2.2.2
  rw [← B.2.2.1] at hf hlo hc hs
  cases hw : E.w with
  | true =>
    obtain ⟨v, vm₁, ⟨BU, BL, Bc, Bs⟩, -, X', S', gr, P, stp⟩ := X.specialBackS B.2.2.2.2.2.2.1 hy1 hown (mvT (s := x.s.setVm vm) h5 w1) (mvT (s := x.s.setVm vm) h5 w2) (mvT (s := x.s.setVm vm) h5 w4) hy (payS (len := 3) (W := Wt) hw hM h5 h7 h8.1 h9 h10 w4 w3 hf hlo) (g := fr x pc Ls (argsL.reverse ++ .ref a :: st)) rfl (hsz.trans B.2.1.symm) (Steps.refl _) (lenOf pd hl) rfl (by show 2 * 0 + _ ≤ _; omega) (by rw [B.1]; exact d1) (fun vm₁ _ => ⟨rfl, h1, hc, hs⟩)
    obtain ⟨F', W', q⟩ := back_wk (vm := vm) W0 ⟨rfl, rfl, rfl⟩ h6 h8 h10 X' (foldS h2 (by rw [h1]; exact h3) S' gr) (Nat.le_refl _) (fun q => Bool.noConfusion (hw.symm.trans q)) (State.Warmed39.trans (t := x.s.setVm vm) h5 S'.1) P (Or.inl rfl)
    exact G.ofS stp (hr BU BU.heap F' v W' q)
  | false =>
    have e := h4 hw
    obtain ⟨v, vm₁, ⟨BU, BL, Bc, Bs⟩, -, X', P, stp⟩ := X.specialBack B.2.2.2.2.2.2.1 hy1 hown (mvT (s := x.s.setVm vm) h5 w1) (mvT (s := x.s.setVm vm) h5 w2) (mvT (s := x.s.setVm vm) h5 w4) hy (payN (len := 3) (W := Wt) hw hM h5 h7 h8.1 h9 h10 w4 w3 hf hlo) (g := fr x pc Ls (argsL.reverse ++ .ref a :: st)) rfl (hsz.trans B.2.1.symm) (Steps.refl _) (lenOf pd hl) rfl (by show 2 * 0 + _ ≤ _; omega) (by rw [B.1]; exact d1) (fun vm₁ _ => ⟨rfl, h1, hc, hs⟩)
    have gr : h.size ≤ BU.heap.size := by obtain ⟨_, _, _, _, _, _, c5, _⟩ := P; exact c5.2.1
    obtain ⟨F', W', q⟩ := back_wk (vm := vm) W0 ⟨rfl, rfl, rfl⟩ h6 h8 h10 X' h2 (Nat.le_trans h3 gr) h4 h5 P (Or.inr ⟨h10.2 hw, rfl⟩)
    exact G.ofS stp (hr BU BU.heap F' v W' q)
theorem w_virtual (W : Wk E x T h F cs ss) (B : Is x own b ml R ret nm) {index : Nat} {C : String} {y z : MethodName} {bytes : ByteArray} {maxL : Nat} {rt : Option FieldType} {rm : Room} {Q : Option Value → Heap → List Addr → Prop} {ps : List FieldType} {r : Option FieldType} {a : Addr} {argsL : List Value} {Wt : Nat} (d : D b pc (.invokevirtual index) 3 nx)
    (w1 : (Cond.methodLink own index y).before E.a E.Z = true) (wd : (Cond.declares y).before E.a E.Z = true) (nf : ∀ s' : State, E.Z.Warmed39 s'.vm → NotFace s' y) (wsel : (Cond.selects C y z).before E.a E.Z = true) (w2 : (Cond.instanceMethod z).before E.a E.Z = true) (w3 : (Cond.initialized z.cls).before E.a E.Z = true) (w4 : (Cond.code z bytes maxL rt).before E.a E.Z = true)
    (hy : y.cls ≠ "java/lang/invoke/MethodHandle" ∧ y.cls ≠ "java/lang/invoke/VarHandle") (Ex : Exa E.Z h a C)
    (pd : parseMethodDescriptor y.desc = some ⟨ps, r⟩) (hl : argsL.length = ps.length) (hsz : Ls.size = ml) (hst : stk = argsL.reverse ++ .ref a :: st) (hW : (st.map fun v => v.category).sum ≤ Wt) (hM : Met E z bytes maxL rt rm (.ref a :: argsL).toArray h F Q)
    (hf : rm.frames + 1 ≤ R.frames) (hlo : Wt + (maxL + 11) + rm.locals ≤ R.locals) (hc : cs + rm.cells ≤ R.cells) (hs : ss + rm.slots ≤ R.slots)
    (hr : ∀ (T' : State) (h' : Heap) (F' : List Addr) (v : Option Value), Wk E x T' h' F' (cs + rm.cells) (ss + rm.slots) → Q v h' F' → G E x T' (fr x nx Ls (v.toList ++ st))) : G E x T (fr x pc Ls stk) := by
  obtain ⟨d1, rfl⟩ := d
  subst hst
  have W0 := W
  obtain ⟨vm, k, L, X, h1, h2, h3, h4, h5, h6, h7, h8, h9, h10⟩ := W
  have hown : vm.findClass own = some x.m.cls := by rw [h2.1.alike.findClass]; exact B.2.2.2.2.2.2.2
  obtain ⟨cB, kB, i1, i2, i3⟩ := isOf (s := x.s.setVm vm) h5 h1 Ex
  rw [← B.2.2.1] at hf hlo hc hs
  cases hw : E.w with
  | true =>
    obtain ⟨v, vm₁, ⟨BU, BL, Bc, Bs⟩, -, X', S', gr, P, stp⟩ := X.virtualBackS B.2.2.2.2.2.2.1 hown (mvT (s := x.s.setVm vm) h5 w1) (mvT (s := x.s.setVm vm) h5 wd) (nf (x.s.setVm vm) h5) (mvT (s := x.s.setVm vm) h5 wsel) (mvT (s := x.s.setVm vm) h5 w2) hy (payS (len := 3) (W := Wt) hw hM h5 h7 h8.1 h9 h10 w4 w3 hf hlo) i1 i3 (g := fr x pc Ls (argsL.reverse ++ .ref a :: st)) rfl (hsz.trans B.2.1.symm) (Steps.refl _) (lenOf pd hl) rfl (by show 2 * 0 + _ ≤ _; omega) (by rw [B.1]; exact d1) (fun vm₁ _ => ⟨rfl, h1, hc, hs⟩)
    obtain ⟨F', W', q⟩ := back_wk (vm := vm) W0 ⟨rfl, rfl, rfl⟩ h6 h8 h10 X' (foldS h2 (by rw [h1]; exact h3) S' gr) (Nat.le_refl _) (fun q => Bool.noConfusion (hw.symm.trans q)) (State.Warmed39.trans (t := x.s.setVm vm) h5 S'.1) P (Or.inl rfl)
    exact G.ofS stp (hr BU BU.heap F' v W' q)
  | false =>
    have e := h4 hw
    obtain ⟨v, vm₁, ⟨BU, BL, Bc, Bs⟩, -, X', P, stp⟩ := X.virtualBack B.2.2.2.2.2.2.1 hown (mvT (s := x.s.setVm vm) h5 w1) (mvT (s := x.s.setVm vm) h5 wd) (nf (x.s.setVm vm) h5) (mvT (s := x.s.setVm vm) h5 wsel) (mvT (s := x.s.setVm vm) h5 w2) hy (payN (len := 3) (W := Wt) hw hM h5 h7 h8.1 h9 h10 w4 w3 hf hlo) i1 i3 (g := fr x pc Ls (argsL.reverse ++ .ref a :: st)) rfl (hsz.trans B.2.1.symm) (Steps.refl _) (lenOf pd hl) rfl (by show 2 * 0 + _ ≤ _; omega) (by rw [B.1]; exact d1) (fun vm₁ _ => ⟨rfl, h1, hc, hs⟩)
    have gr : h.size ≤ BU.heap.size := by obtain ⟨_, _, _, _, _, _, c5, _⟩ := P; exact c5.2.1
    obtain ⟨F', W', q⟩ := back_wk (vm := vm) W0 ⟨rfl, rfl, rfl⟩ h6 h8 h10 X' h2 (Nat.le_trans h3 gr) h4 h5 P (Or.inr ⟨h10.2 hw, rfl⟩)
    exact G.ofS stp (hr BU BU.heap F' v W' q)
theorem nf_sel {Z : State} {a0 : Array Value} {C : String} {y : MethodName} (w : (Cond.selects C y y).before a0 Z = true) : ∀ s' : State, Z.Warmed39 s'.vm → NotFace s' y := fun s' hZ => notFace_of_selects (args := a0) (mvT hZ w)
end Calls
end Jvm.Own
namespace Jvm.Own
open Sem ClassFile Op Lib Bundle Jvm.Stand Jvm.Free Jvm.LawKit Jvm.RoadKit
theorem ne_new {h : Heap} {a b : Addr} (l : a < h.size) (g : b = h.size) : a ≠ b := by subst g; exact Nat.ne_of_lt l
theorem cat_ref {v : Value} (hv : v.isRef = true) : v.category = 1 := by rcases ref_cases hv with rfl | ⟨a, rfl⟩ <;> rfl
theorem cat_r (a : Addr) : (Value.ref a).category = 1 := rfl
theorem cat_i (a : Int32) : (Value.int a).category = 1 := rfl
theorem cat_j (a : Int64) : (Value.long a).category = 2 := rfl
theorem cat_n : Value.null.category = 1 := rfl
theorem nar_ref {C : String} {v : Value} (hv : v.isRef = true) : narrow (.object C) v = v := by rcases ref_cases hv with rfl | ⟨a, rfl⟩ <;> rfl
theorem fits_obj {C : String} {v : Value} (hv : v.isRef = true) : fits (.object C) v = true := by rcases ref_cases hv with rfl | ⟨a, rfl⟩ <;> rfl
/-! ints of small naturals -/
theorem n_int {i : Nat} (h : i < 2 ^ 31) : i.toInt32.toInt = i := len_toInt h
theorem n_clamp {i : Nat} (h : i < 2 ^ 31) : i.toInt32.toNatClampNeg = i := by simp only [Int32.toNatClampNeg, n_int h]; omega
theorem n_nn {i : Nat} (h : i < 2 ^ 31) : ¬ i.toInt32 < 0 := by simp only [Int32.lt_iff_toInt_lt, n_int h, Int32.reduceToInt]; omega
theorem n_lt {i n : Nat} (hi : i < 2 ^ 31) (hn : n < 2 ^ 31) : i.toInt32 < n.toInt32 ↔ i < n := by simp only [Int32.lt_iff_toInt_lt, n_int hi, n_int hn]; omega
theorem n_add (i j : Nat) : i.toInt32 + j.toInt32 = (i + j).toInt32 := (Int32.ofNat_add i j).symm
theorem n_succ (i : Nat) : i.toInt32 + (1 : Int32) = (i + 1).toInt32 := n_add i 1
theorem n_eq {i n : Nat} (hi : i < 2 ^ 31) (hn : n < 2 ^ 31) : i.toInt32 = n.toInt32 ↔ i = n := by rw [← Int32.toInt_inj, n_int hi, n_int hn]; omega
theorem z_nat {z : Int32} (h : ¬ z < 0) : z = z.toNatClampNeg.toInt32 := (back32 h).1.symm
/-! chars -/
def lo8 (c : Int32) : Int32 := c.toInt8.toInt32
def Ch (cs : List Int32) : Prop := ∀ c ∈ cs, 0 ≤ c.toInt ∧ c.toInt ≤ 65535
def Lat (cs : List Int32) : Prop := ∀ c ∈ cs, c.toInt ≤ 255
def b8 (cs : List Int32) : List Value := cs.map fun c => .int (lo8 c)
def b16 (cs : List Int32) : List Value := cs.flatMap fun c => [.int (lo8 c), .int (lo8 (c >>> 8))]
def ints (cs : List Int32) : List Value := cs.map Value.int
theorem i2c_toInt (x : Int32) : x.toUInt32.toUInt16.toUInt32.toInt32.toInt = x.toInt % 65536 := by have := c_i2c x; omega
theorem i2c_id {x : Int32} (h0 : 0 ≤ x.toInt) (h1 : x.toInt ≤ 65535) : x.toUInt32.toUInt16.toUInt32.toInt32 = x := Int32.toInt_inj.mp (by rw [i2c_toInt]; omega)
theorem nar_i2c (x : Int32) : nar .char x.toUInt32.toUInt16.toUInt32.toInt32 = x.toUInt32.toUInt16.toUInt32.toInt32 := i2c_id (by rw [i2c_toInt]; omega) (by rw [i2c_toInt]; omega)
theorem nar_char {x : Int32} (h0 : 0 ≤ x.toInt) (h1 : x.toInt ≤ 65535) : nar .char x = x := i2c_id h0 h1
theorem b8_len (cs : List Int32) : (b8 cs).length = cs.length := by simp [b8]
theorem ints_len (cs : List Int32) : (ints cs).length = cs.length := by simp [ints]
theorem b16_len (cs : List Int32) : (b16 cs).length = 2 * cs.length := by
  induction cs with
  | nil => rfl
  | cons c r ih => simp only [b16, List.flatMap_cons, List.length_append, List.length_cons, List.length_nil] at ih ⊢; omega
theorem b16_at (cs : List Int32) : ∀ i, i < cs.length → (b16 cs).getD (2 * i) (.int 0) = .int (lo8 (cs.getD i 0)) ∧ (b16 cs).getD (2 * i + 1) (.int 0) = .int (lo8 (cs.getD i 0 >>> 8)) := by
  induction cs with
  | nil => intro i hi; exact absurd hi (Nat.not_lt_zero _)
  | cons c r ih =>
    intro i hi
    cases i with
    | zero => exact ⟨rfl, rfl⟩
    | succ j =>
      have q := ih j (by simpa using hi)
      exact q
theorem ints_at {cs : List Int32} {i : Nat} (h : i < cs.length) (d : Value) : (ints cs).getD i d = .int (cs.getD i 0) := by
  simp [ints, List.getD_eq_getElem?_getD, List.getElem?_map, List.getElem?_eq_getElem h]
theorem b8_at {cs : List Int32} {i : Nat} (h : i < cs.length) (d : Value) : (b8 cs).getD i d = .int (lo8 (cs.getD i 0)) := by
  simp [b8, List.getD_eq_getElem?_getD, List.getElem?_map, List.getElem?_eq_getElem h]
theorem ch_at {cs : List Int32} (H : Ch cs) {i : Nat} (h : i < cs.length) : 0 ≤ (cs.getD i 0).toInt ∧ (cs.getD i 0).toInt ≤ 65535 := by
  have : cs.getD i 0 = cs[i] := by simp [List.getD_eq_getElem?_getD, List.getElem?_eq_getElem h]
  rw [this]; exact H _ (List.getElem_mem h)
theorem lo8_toInt (c : Int32) : (lo8 c).toInt = c.toInt.bmod 256 := by
  show (c.toInt8.toInt32).toInt = _
  rw [Int8.toInt_toInt32, Int32.toInt_toInt8]
theorem and255 (x : Int32) : (x &&& 255).toInt = x.toInt % 256 := by
  have h : (x &&& 255).toBitVec.toNat = x.toBitVec.toNat % 256 := by
    show (x.toBitVec &&& (255 : Int32).toBitVec).toNat = _
    rw [BitVec.toNat_and, show (255 : Int32).toBitVec.toNat = 2 ^ 8 - 1 from by decide, Nat.and_two_pow_sub_one_eq_mod]
  have h2 : (x &&& 255).toInt = ((x &&& 255).toBitVec.toNat : Int) := by
    show (x &&& 255).toBitVec.toInt = _
    rw [BitVec.toInt_eq_toNat_cond, if_pos (by rw [h]; omega)]
  rw [h2, h]
  show ((x.toBitVec.toNat % 256 : Nat) : Int) = x.toBitVec.toInt % 256
  rw [BitVec.toInt_eq_toNat_cond]
  split <;> omega
theorem lo8_and (c : Int32) : (lo8 c &&& 255).toInt = c.toInt % 256 := by
  rw [and255, lo8_toInt]
  exact Int.bmod_emod
theorem lo8_mask {c : Int32} (h0 : 0 ≤ c.toInt) (h1 : c.toInt ≤ 255) : lo8 c &&& 255 = c := Int32.toInt_inj.mp (by rw [lo8_and]; omega)
/-- that a method's class is no interface says it of every method of that class -/
theorem nf_class {E : Gl} {y y' : MethodName} (nf : NotFace E.Z y') (w : (Cond.instanceMethod y').before E.a E.Z = true) (hc : y'.cls = y.cls) : NotFace E.Z y := fun r0 h0 => by
  obtain ⟨mk, _, hn, -⟩ := Cond.instanceMethod_spec w
  obtain ⟨kr, hk, hi⟩ := nf mk hn
  have q1 := findClass_of_methodNamed hn
  have q2 := findClass_of_methodNamed h0
  rw [hc] at q1
  have q3 : mk.cls = r0.cls := Option.some.inj (q1.symm.trans q2)
  exact ⟨kr, by rw [← q3]; exact hk, hi⟩
theorem nf_classW {E : Gl} {C : String} {y y' : MethodName} (w : (Cond.selects C y' y').before E.a E.Z = true) (w2 : (Cond.instanceMethod y').before E.a E.Z = true) (hc : y'.cls = y.cls) : ∀ s' : State, E.Z.Warmed39 s'.vm → NotFace s' y := fun s' hZ r0 h0 => by
  obtain ⟨mk, _, hn, -⟩ := Cond.instanceMethod_spec (args := E.a) (mvT hZ w2)
  obtain ⟨kr, hk, hi⟩ := nf_sel w s' hZ mk hn
  have q1 := findClass_of_methodNamed hn
  have q2 := findClass_of_methodNamed h0
  rw [hc] at q1
  have q3 : mk.cls = r0.cls := Option.some.inj (q1.symm.trans q2)
  exact ⟨kr, by rw [← q3]; exact hk, hi⟩
theorem ne_ge {h : Heap} {a b : Addr} (l : a < h.size) (g : h.size ≤ b) : a ≠ b := Nat.ne_of_lt (Nat.lt_of_lt_of_le l g)
theorem shr0 (n : Int32) : n >>> ((0 : Int32) &&& 31) = n := by
  rw [show (0 : Int32) &&& 31 = 0 from by decide]; exact Int32.shiftRight_zero
theorem shl0 (n : Int32) : n <<< ((0 : Int32) &&& 31) = n := by
  rw [show (0 : Int32) &&& 31 = 0 from by decide]; exact Int32.shiftLeft_zero
theorem arv_ne {Z : State} {h : Heap} {a b : Addr} {k k' : ClassId} {t t' : FieldType} {n n' : Int32} {vs vs' : List Value} {d d' : Value} (A : Arv Z h a k t n vs d) (A' : Arv Z h b k' t' n' vs' d') (q : n.toNatClampNeg ≠ n'.toNatClampNeg) : a ≠ b := by
  rintro rfl
  obtain ⟨c, B, -, s, -⟩ := A
  obtain ⟨c', B', -, s', -⟩ := A'
  cases B.1.symm.trans B'.1
  exact q (s.symm.trans s')
theorem fld_of {Z : State} {args : Array Value} {t : Term} {a : Addr} {C n d : String} {v : Value} (e1 : t.eval args Z none [] Z = some (.ref a)) (e2 : (Term.field t C n d).eval args Z none [] Z = some v) : Fld Z Z.heap a C n d v := Fld.start (by simpa [Term.eval, e1] using e2)
/-! longs compared -/
theorem cmpL_lt (x y : Int64) : XT.cmpL x y < 0 ↔ x < y := by
  unfold XT.cmpL; split <;> (try split) <;> simp_all [Int64.lt_iff_toInt_lt, ← Int64.toInt_inj] <;> omega
theorem cmpL_gt (x y : Int64) : 0 < XT.cmpL x y ↔ y < x := by
  unfold XT.cmpL; split <;> (try split) <;> simp_all [Int64.lt_iff_toInt_lt, ← Int64.toInt_inj] <;> omega
theorem cmpL_eq (x y : Int64) : XT.cmpL x y = 0 ↔ x = y := by
  unfold XT.cmpL; split <;> (try split) <;> simp_all [Int64.lt_iff_toInt_lt, ← Int64.toInt_inj] <;> omega
theorem len_of_eq {Z : State} {args : Array Value} {t : Term} {a : Addr} {c : Cell} {ty : FieldType} {k : Int32} (A : Arr Z Z.heap a c ty) (e : t.eval args Z none [] Z = some (.ref a)) (hl : (Cond.eq (.length t) (.int k)).value args Z none Z [] = some true) : c.slots.size < 2 ^ 31 ∧ c.slots.size.toInt32 = k := by
  have hA : Z.arrayAt? a = some c := A.fin (Vm.Alike.refl _)
  have hn : c.slots.size < 2 ^ 31 := by
    by_cases hn : c.slots.size < 2 ^ 31
    · exact hn
    · have hn' : ¬ c.slots.size < 2147483648 := hn
      simp [Cond.value, Term.eval, e, hA, hn'] at hl
  exact ⟨hn, gotT (Cond.eq_ints (len_f e hA hn) (Term.int_eval k)) hl⟩
end Jvm.Own
namespace Jvm.Own
open Sem ClassFile Op Lib Bundle Jvm.Stand Jvm.Free Jvm.LawKit Jvm.RoadKit
section CallsF
variable {E : Gl} {x : Cx} {T : State} {h : Heap} {F : List Addr} {cs ss : Nat} {own : String} {b : ByteArray} {ml : Nat} {R : Room} {ret : Option FieldType} {nm : String} {pc nx : Nat} {Ls : Array Slot} {st stk : List Value}
theorem w_interface (W : Wk E x T h F cs ss) (B : Is x own b ml R ret nm) {index cnt : Nat} {C : String} {y z : MethodName} {bytes : ByteArray} {maxL : Nat} {rt : Option FieldType} {rm : Room} {Q : Option Value → Heap → List Addr → Prop} {ps : List FieldType} {r : Option FieldType} {a : Addr} {argsL : List Value} {Wt : Nat} (d : D b pc (.invokeinterface index cnt) 5 nx)
    (w1 : (Cond.methodLink own index y).before E.a E.Z = true) (wd : (Cond.declares y).before E.a E.Z = true) (wf : (Cond.interfaceMethod y.cls y.cls y.name y.desc).before E.a E.Z = true) (hfa : ((Cond.interfaceMethod y.cls y.cls y.name y.desc).onTables && (Cond.interfaceMethod y.cls y.cls y.name y.desc).keepsFace) = true) (wsel : (Cond.selects C y z).before E.a E.Z = true) (w2 : (Cond.instanceMethod z).before E.a E.Z = true) (wp : (Cond.publicMethod z).before E.a E.Z = true) (wu : (Cond.unhidden C y.name y.desc).before E.a E.Z = true) (wca : (Cond.castable C y.cls).before E.a E.Z = true) (w3 : (Cond.initialized z.cls).before E.a E.Z = true) (w4 : (Cond.code z bytes maxL rt).before E.a E.Z = true) (hy : y.cls ≠ "java/lang/invoke/MethodHandle" ∧ y.cls ≠ "java/lang/invoke/VarHandle") (Ex : Exa E.Z h a C)
    (pd : parseMethodDescriptor y.desc = some ⟨ps, r⟩) (hl : argsL.length = ps.length) (hsz : Ls.size = ml) (hst : stk = argsL.reverse ++ .ref a :: st) (hW : (st.map fun v => v.category).sum ≤ Wt) (hM : Met E z bytes maxL rt rm (.ref a :: argsL).toArray h F Q)
    (hf : rm.frames + 1 ≤ R.frames) (hlo : Wt + (maxL + 11) + rm.locals ≤ R.locals) (hc : cs + rm.cells ≤ R.cells) (hs : ss + rm.slots ≤ R.slots)
    (hr : ∀ (T' : State) (h' : Heap) (F' : List Addr) (v : Option Value), Wk E x T' h' F' (cs + rm.cells) (ss + rm.slots) → Q v h' F' → G E x T' (fr x nx Ls (v.toList ++ st))) : G E x T (fr x pc Ls stk) := by
  obtain ⟨d1, rfl⟩ := d
  subst hst
  have W0 := W
  obtain ⟨vm, k, L, X, h1, h2, h3, h4, h5, h6, h7, h8, h9, h10⟩ := W
  have hown : vm.findClass own = some x.m.cls := by rw [h2.1.alike.findClass]; exact B.2.2.2.2.2.2.2
  obtain ⟨cB, kB, i1, i2, i3⟩ := isOf (s := x.s.setVm vm) h5 h1 Ex
  rw [← B.2.2.1] at hf hlo hc hs
  cases hw : E.w with
  | true =>
    obtain ⟨v, vm₁, ⟨BU, BL, Bc, Bs⟩, -, X', S', gr, P, stp⟩ := X.interfaceBackS B.2.2.2.2.2.2.1 hown (mvT (s := x.s.setVm vm) h5 w1) (mvT (s := x.s.setVm vm) h5 wd) (mvT (s := x.s.setVm vm) h5 wf hfa) (mvT (s := x.s.setVm vm) h5 wsel) (mvT (s := x.s.setVm vm) h5 w2) (mvT (s := x.s.setVm vm) h5 wp) (mvT (s := x.s.setVm vm) h5 wu) (mvT (s := x.s.setVm vm) h5 wca) hy (payS (len := 5) (W := Wt) hw hM h5 h7 h8.1 h9 h10 w4 w3 hf hlo) i1 i2 i3 (g := fr x pc Ls (argsL.reverse ++ .ref a :: st)) rfl (hsz.trans B.2.1.symm) (Steps.refl _) (lenOf pd hl) rfl (by show 2 * 0 + _ ≤ _; omega) (by rw [B.1]; exact d1) (fun vm₁ _ => ⟨rfl, h1, hc, hs⟩)
    obtain ⟨F', W', q⟩ := back_wk (vm := vm) W0 ⟨rfl, rfl, rfl⟩ h6 h8 h10 X' (foldS h2 (by rw [h1]; exact h3) S' gr) (Nat.le_refl _) (fun q => Bool.noConfusion (hw.symm.trans q)) (State.Warmed39.trans (t := x.s.setVm vm) h5 S'.1) P (Or.inl rfl)
    exact G.ofS stp (hr BU BU.heap F' v W' q)
  | false =>
    have e := h4 hw
    obtain ⟨v, vm₁, ⟨BU, BL, Bc, Bs⟩, -, X', P, stp⟩ := X.interfaceBack B.2.2.2.2.2.2.1 hown (mvT (s := x.s.setVm vm) h5 w1) (mvT (s := x.s.setVm vm) h5 wd) (mvT (s := x.s.setVm vm) h5 wf hfa) (mvT (s := x.s.setVm vm) h5 wsel) (mvT (s := x.s.setVm vm) h5 w2) (mvT (s := x.s.setVm vm) h5 wp) (mvT (s := x.s.setVm vm) h5 wu) (mvT (s := x.s.setVm vm) h5 wca) hy (payN (len := 5) (W := Wt) hw hM h5 h7 h8.1 h9 h10 w4 w3 hf hlo) i1 i2 i3 (g := fr x pc Ls (argsL.reverse ++ .ref a :: st)) rfl (hsz.trans B.2.1.symm) (Steps.refl _) (lenOf pd hl) rfl (by show 2 * 0 + _ ≤ _; omega) (by rw [B.1]; exact d1) (fun vm₁ _ => ⟨rfl, h1, hc, hs⟩)
    have gr : h.size ≤ BU.heap.size := by obtain ⟨_, _, _, _, _, _, c5, _⟩ := P; exact c5.2.1
    obtain ⟨F', W', q⟩ := back_wk (vm := vm) W0 ⟨rfl, rfl, rfl⟩ h6 h8 h10 X' h2 (Nat.le_trans h3 gr) h4 h5 P (Or.inr ⟨h10.2 hw, rfl⟩)
    exact G.ofS stp (hr BU BU.heap F' v W' q)
theorem w_private (W : Wk E x T h F cs ss) (B : Is x own b ml R ret nm) {index : Nat} {C : String} {y : MethodName} {bytes : ByteArray} {maxL : Nat} {rt : Option FieldType} {rm : Room} {Q : Option Value → Heap → List Addr → Prop} {ps : List FieldType} {r : Option FieldType} {a : Addr} {argsL : List Value} {Wt : Nat} (d : D b pc (.invokevirtual index) 3 nx)
    (w1 : (Cond.methodLink own index y).before E.a E.Z = true) (w2 : (Cond.instanceMethod y).before E.a E.Z = true) (wpr : (Cond.privateMethod y).before E.a E.Z = true) (nf : NotFace E.Z y) (w3 : (Cond.initialized y.cls).before E.a E.Z = true) (w4 : (Cond.code y bytes maxL rt).before E.a E.Z = true) (hy : y.cls ≠ "java/lang/invoke/MethodHandle" ∧ y.cls ≠ "java/lang/invoke/VarHandle") (Ex : Exa E.Z h a C)
    (pd : parseMethodDescriptor y.desc = some ⟨ps, r⟩) (hl : argsL.length = ps.length) (hsz : Ls.size = ml) (hst : stk = argsL.reverse ++ .ref a :: st) (hW : (st.map fun v => v.category).sum ≤ Wt) (hM : Met E y bytes maxL rt rm (.ref a :: argsL).toArray h F Q)
    (hf : rm.frames + 1 ≤ R.frames) (hlo : Wt + (maxL + 11) + rm.locals ≤ R.locals) (hc : cs + rm.cells ≤ R.cells) (hs : ss + rm.slots ≤ R.slots)
    (hr : ∀ (T' : State) (h' : Heap) (F' : List Addr) (v : Option Value), Wk E x T' h' F' (cs + rm.cells) (ss + rm.slots) → Q v h' F' → G E x T' (fr x nx Ls (v.toList ++ st))) : G E x T (fr x pc Ls stk) := by
  obtain ⟨d1, rfl⟩ := d
  subst hst
  have W0 := W
  obtain ⟨vm, k, L, X, h1, h2, h3, h4, h5, h6, h7, h8, h9, h10⟩ := W
  have hown : vm.findClass own = some x.m.cls := by rw [h2.1.alike.findClass]; exact B.2.2.2.2.2.2.2
  obtain ⟨cl, hcl, hst⟩ := Ex.cell
  have wsel0 : (Cond.selects y.cls y y).before E.a E.Z = true := by
    obtain ⟨mk, _, hn, -⟩ := Cond.instanceMethod_spec w2
    obtain ⟨kr, hk, hi⟩ := nf mk hn
    exact selects_self_of_private (findClass_of_methodNamed hn) hk hi (Cond.privateMethod_at wpr) w2 hy
  have wsel : (Cond.selects y.cls y y).before x.args (x.s.setVm vm) = true := mvT (s := x.s.setVm vm) h5 wsel0
  rw [← B.2.2.1] at hf hlo hc hs
  cases hw : E.w with
  | true =>
    obtain ⟨v, vm₁, ⟨BU, BL, Bc, Bs⟩, -, X', S', gr, P, stp⟩ := X.privateBackS B.2.2.2.2.2.2.1 hown (mvT (s := x.s.setVm vm) h5 w1) (mvT (s := x.s.setVm vm) h5 w2) wsel (Cond.privateMethod_at (mvP (s := x.s.setVm vm) (args := x.args) h5 wpr)) (mvT (s := x.s.setVm vm) h5 w4) hy (payS (len := 3) (W := Wt) hw hM h5 h7 h8.1 h9 h10 w4 w3 hf hlo) (g := fr x pc Ls (argsL.reverse ++ .ref a :: st)) rfl (hsz.trans B.2.1.symm) (Steps.refl _) (by rw [h1]; exact hcl) hst (lenOf pd hl) rfl (by show 2 * 0 + _ ≤ _; omega) (by rw [B.1]; exact d1) (fun vm₁ _ => ⟨rfl, h1, hc, hs⟩)
    obtain ⟨F', W', q⟩ := back_wk (vm := vm) W0 ⟨rfl, rfl, rfl⟩ h6 h8 h10 X' (foldS h2 (by rw [h1]; exact h3) S' gr) (Nat.le_refl _) (fun q => Bool.noConfusion (hw.symm.trans q)) (State.Warmed39.trans (t := x.s.setVm vm) h5 S'.1) P (Or.inl rfl)
    exact G.ofS stp (hr BU BU.heap F' v W' q)
  | false =>
    have e := h4 hw
    obtain ⟨v, vm₁, ⟨BU, BL, Bc, Bs⟩, -, X', P, stp⟩ := X.privateBack B.2.2.2.2.2.2.1 hown (mvT (s := x.s.setVm vm) h5 w1) (mvT (s := x.s.setVm vm) h5 w2) wsel (Cond.privateMethod_at (mvP (s := x.s.setVm vm) (args := x.args) h5 wpr)) (mvT (s := x.s.setVm vm) h5 w4) hy (payN (len := 3) (W := Wt) hw hM h5 h7 h8.1 h9 h10 w4 w3 hf hlo) (g := fr x pc Ls (argsL.reverse ++ .ref a :: st)) rfl (hsz.trans B.2.1.symm) (Steps.refl _) (by rw [h1]; exact hcl) hst (lenOf pd hl) rfl (by show 2 * 0 + _ ≤ _; omega) (by rw [B.1]; exact d1) (fun vm₁ _ => ⟨rfl, h1, hc, hs⟩)
    have gr : h.size ≤ BU.heap.size := by obtain ⟨_, _, _, _, _, _, c5, _⟩ := P; exact c5.2.1
    obtain ⟨F', W', q⟩ := back_wk (vm := vm) W0 ⟨rfl, rfl, rfl⟩ h6 h8 h10 X' h2 (Nat.le_trans h3 gr) h4 h5 P (Or.inr ⟨h10.2 hw, rfl⟩)
    exact G.ofS stp (hr BU BU.heap F' v W' q)
theorem w_super (W : Wk E x T h F cs ss) (B : Is x own b ml R ret nm) {index : Nat} {K : String} {y : MethodName} {bytes : ByteArray} {maxL : Nat} {rt : Option FieldType} {rm : Room} {Q : Option Value → Heap → List Addr → Prop} {ps : List FieldType} {r : Option FieldType} {a : Addr} {argsL : List Value} {Wt : Nat} (d : D b pc (.invokespecial index) 3 nx)
    (hn : y.name ≠ "<init>") (w1 : (Cond.methodLink own index y).before E.a E.Z = true) (w2 : (Cond.instanceMethod y).before E.a E.Z = true) (wsu : (Cond.superclass own y.cls).before E.a E.Z = true) (nf : NotFace E.Z y) (w3 : (Cond.initialized y.cls).before E.a E.Z = true) (w4 : (Cond.code y bytes maxL rt).before E.a E.Z = true) (hy : y.cls ≠ "java/lang/invoke/MethodHandle" ∧ y.cls ≠ "java/lang/invoke/VarHandle") (In : Ins E.Z h a K true)
    (pd : parseMethodDescriptor y.desc = some ⟨ps, r⟩) (hl : argsL.length = ps.length) (hsz : Ls.size = ml) (hst : stk = argsL.reverse ++ .ref a :: st) (hW : (st.map fun v => v.category).sum ≤ Wt) (hM : Met E y bytes maxL rt rm (.ref a :: argsL).toArray h F Q)
    (hf : rm.frames + 1 ≤ R.frames) (hlo : Wt + (maxL + 11) + rm.locals ≤ R.locals) (hc : cs + rm.cells ≤ R.cells) (hs : ss + rm.slots ≤ R.slots)
    (hr : ∀ (T' : State) (h' : Heap) (F' : List Addr) (v : Option Value), Wk E x T' h' F' (cs + rm.cells) (ss + rm.slots) → Q v h' F' → G E x T' (fr x nx Ls (v.toList ++ st))) : G E x T (fr x pc Ls stk) := by
  obtain ⟨d1, rfl⟩ := d
  subst hst
  have W0 := W
  obtain ⟨vm, k, L, X, h1, h2, h3, h4, h5, h6, h7, h8, h9, h10⟩ := W
  have hown : vm.findClass own = some x.m.cls := by rw [h2.1.alike.findClass]; exact B.2.2.2.2.2.2.2
  have wsm : (Cond.sameMethod y.cls y.cls y.name y.desc).before E.a E.Z = true := by
    obtain ⟨mk, _, hnm, -⟩ := Cond.instanceMethod_spec w2
    obtain ⟨kr, hk, hi⟩ := nf mk hnm
    have hc0 := findClass_of_methodNamed hnm
    have hf0 := State.methodFound?_of_named hnm hy
    have hnm' : E.Z.methodNamed? ⟨y.cls, y.name, y.desc⟩ = some mk := hnm
    simp [Cond.before, Cond.holds, Cond.value, hc0, hf0, hnm', hk, hi]
  rw [← B.2.2.1] at hf hlo hc hs
  cases hw : E.w with
  | true =>
    obtain ⟨v, vm₁, ⟨BU, BL, Bc, Bs⟩, -, X', S', gr, P, stp⟩ := superBackS X B.2.2.2.2.2.2.1 (s := x.s.setVm vm) h5 hown w1 wsm w2 wsu hn (payS (len := 3) (W := Wt) hw hM h5 h7 h8.1 h9 h10 w4 w3 hf hlo) h1 In (g := fr x pc Ls (argsL.reverse ++ .ref a :: st)) rfl (hsz.trans B.2.1.symm) w4 (lenOf pd hl) rfl (by show 2 * 0 + _ ≤ _; omega) (by rw [B.1]; exact d1) (fun vm₁ _ => ⟨rfl, h1, hc, hs⟩)
    obtain ⟨F', W', q⟩ := back_wk (vm := vm) W0 ⟨rfl, rfl, rfl⟩ h6 h8 h10 X' (foldS h2 (by rw [h1]; exact h3) S' gr) (Nat.le_refl _) (fun q => Bool.noConfusion (hw.symm.trans q)) (State.Warmed39.trans (t := x.s.setVm vm) h5 S'.1) P (Or.inl rfl)
    exact G.ofS stp (hr BU BU.heap F' v W' q)
  | false =>
    have e := h4 hw
    obtain ⟨v, vm₁, ⟨BU, BL, Bc, Bs⟩, -, X', P, stp⟩ := superBack X B.2.2.2.2.2.2.1 (s := x.s.setVm vm) h5 hown w1 wsm w2 wsu hn (payN (len := 3) (W := Wt) hw hM h5 h7 h8.1 h9 h10 w4 w3 hf hlo) h1 In (g := fr x pc Ls (argsL.reverse ++ .ref a :: st)) rfl (hsz.trans B.2.1.symm) w4 (lenOf pd hl) rfl (by show 2 * 0 + _ ≤ _; omega) (by rw [B.1]; exact d1) (fun vm₁ _ => ⟨rfl, h1, hc, hs⟩)
    have gr : h.size ≤ BU.heap.size := by obtain ⟨_, _, _, _, _, _, c5, _⟩ := P; exact c5.2.1
    obtain ⟨F', W', q⟩ := back_wk (vm := vm) W0 ⟨rfl, rfl, rfl⟩ h6 h8 h10 X' h2 (Nat.le_trans h3 gr) h4 h5 P (Or.inr ⟨h10.2 hw, rfl⟩)
    exact G.ofS stp (hr BU BU.heap F' v W' q)
theorem nf_z {E : Gl} {C : String} {y : MethodName} (w : (Cond.selects C y y).before E.a E.Z = true) : NotFace E.Z y := notFace_of_selects w
theorem w_aaloadC (W : Wk E x T h F cs ss) (B : Is x own b ml R ret nm) {a : Addr} {cl : Cell} {ty : FieldType} {j : Int32} {v : Value} (d : D b pc .aaload 1 nx) (hty : ty.isReference = true) (A : Arr E.Z h a cl ty) (hj : ¬ (j < 0 ∨ cl.slots.size ≤ j.toNatClampNeg)) (hv : cl.slots[j.toNatClampNeg]? = some v) (hr : G E x T (fr x nx Ls (v :: st))) : G E x T (fr x pc Ls (.int j :: .ref a :: st)) := by
  obtain ⟨d1, rfl⟩ := d
  obtain ⟨vm, L, X, e, hZ, hown, -, -⟩ := W.open B
  exact G.of (fun t r => X.aaload B.2.2.2.2.2.2.1 (by rw [e]; exact A.1) (State.isArrayOf_alike hZ.alike A.2.1) hty A.2.2 hj hv (g := fr x pc Ls (.int j :: .ref a :: st)) rfl rfl (by rw [B.1]; exact d1) t r) hr
theorem w_dup2L (W : Wk E x T h F cs ss) (B : Is x own b ml R ret nm) {v : Int64} (d : D b pc .dup2 1 nx) (hr : G E x T (fr x nx Ls (.long v :: .long v :: st))) : G E x T (fr x pc Ls (.long v :: st)) := by
  obtain ⟨d1, rfl⟩ := d; exact pstep W (fun _ A r => XT.dup2L A B.2.2.2.2.2.2.1 rfl (by rw [B.1]; exact d1) rfl r) hr
end CallsF
end Jvm.Own
namespace Jvm.Pilot.@@N@@
open Jvm Jvm.ClassFile Sem Op Lib Jvm.Free Jvm.Stand Jvm.LawKit Jvm.RoadKit Bundle Jvm.Pilot.@@N@@.Jvm.D Jvm.Own
def Tb (E : Gl) : Prop := (∀ c ∈ tables_1, c.before E.a E.Z = true) ∧ (∀ c ∈ jdkStatics_1, c.before E.a E.Z = true) ∧ E.w = true ∧ E.K = consts_1
theorem wd {E : Gl} (hw : Tb E) (k : Nat) {c : Jvm.Cond} (q : tables_1[k]? = some c) : c.before E.a E.Z = true := hw.1 c (List.mem_of_getElem? q)
theorem sd {E : Gl} (hw : Tb E) (k : Nat) {c : Jvm.Cond} (q : jdkStatics_1[k]? = some c) : c.before E.a E.Z = true := hw.2.1 c (List.mem_of_getElem? q)

theorem strAtoms {E : Gl} (hw : Tb E) : ∀ c ∈ Bundle.stringAtoms, c.before E.a E.Z = true := by
  intro c hc
  simp only [Bundle.stringAtoms, List.mem_cons, List.not_mem_nil, or_false] at hc
  rcases hc with rfl | rfl | rfl | rfl | rfl | rfl | rfl
  · exact (wd hw 6 rfl)
  · exact (wd hw 5 rfl)
  · exact (wd hw 19 rfl)
  · exact (wd hw 20 rfl)
  · exact (wd hw 21 rfl)
  · exact (wd hw 22 rfl)
  · exact (wd hw 23 rfl)
theorem d_cmp5_0 : Own.D jdk_52_method_21_code 0 (.iconst 0) 1 1 := ⟨by decide +kernel, rfl⟩
theorem d_cmp5_1 : Own.D jdk_52_method_21_code 1 (.istore 5) 2 3 := ⟨by decide +kernel, rfl⟩
theorem d_cmp5_3 : Own.D jdk_52_method_21_code 3 (.iload 5) 2 5 := ⟨by decide +kernel, rfl⟩
theorem d_cmp5_5 : Own.D jdk_52_method_21_code 5 (.iload 4) 2 7 := ⟨by decide +kernel, rfl⟩
theorem d_cmp5_7 : Own.J jdk_52_method_21_code 7 (.if_icmp .ge 37) 3 10 37 44 := ⟨by decide +kernel, rfl, by decide, by decide⟩
theorem d_cmp5_10 : Own.D jdk_52_method_21_code 10 (.aload_n 0) 1 11 := ⟨by decide +kernel, rfl⟩
theorem d_cmp5_11 : Own.D jdk_52_method_21_code 11 (.iload_n 1) 1 12 := ⟨by decide +kernel, rfl⟩
theorem d_cmp5_12 : Own.D jdk_52_method_21_code 12 .caload 1 13 := ⟨by decide +kernel, rfl⟩
theorem d_cmp5_13 : Own.D jdk_52_method_21_code 13 (.istore 6) 2 15 := ⟨by decide +kernel, rfl⟩
theorem d_cmp5_15 : Own.D jdk_52_method_21_code 15 (.iload 6) 2 17 := ⟨by decide +kernel, rfl⟩
theorem d_cmp5_17 : Own.D jdk_52_method_21_code 17 (.sipush 255) 3 20 := ⟨by decide +kernel, rfl⟩
theorem d_cmp5_20 : Own.J jdk_52_method_21_code 20 (.if_icmp .le 6) 3 23 6 26 := ⟨by decide +kernel, rfl, by decide, by decide⟩
theorem d_cmp5_23 : Own.D jdk_52_method_21_code 23 (.iload 5) 2 25 := ⟨by decide +kernel, rfl⟩
theorem d_cmp5_25 : Own.D jdk_52_method_21_code 25 .ireturn 1 26 := ⟨by decide +kernel, rfl⟩
theorem d_cmp5_26 : Own.D jdk_52_method_21_code 26 (.aload_n 2) 1 27 := ⟨by decide +kernel, rfl⟩
theorem d_cmp5_27 : Own.D jdk_52_method_21_code 27 (.iload_n 3) 1 28 := ⟨by decide +kernel, rfl⟩
theorem d_cmp5_28 : Own.D jdk_52_method_21_code 28 (.iload 6) 2 30 := ⟨by decide +kernel, rfl⟩
theorem d_cmp5_30 : Own.D jdk_52_method_21_code 30 .i2b 1 31 := ⟨by decide +kernel, rfl⟩
theorem d_cmp5_31 : Own.D jdk_52_method_21_code 31 .bastore 1 32 := ⟨by decide +kernel, rfl⟩
theorem d_cmp5_32 : Own.D jdk_52_method_21_code 32 (.iinc 1 1) 3 35 := ⟨by decide +kernel, rfl⟩
theorem d_cmp5_35 : Own.D jdk_52_method_21_code 35 (.iinc 3 1) 3 38 := ⟨by decide +kernel, rfl⟩
theorem d_cmp5_38 : Own.D jdk_52_method_21_code 38 (.iinc 5 1) 3 41 := ⟨by decide +kernel, rfl⟩
theorem d_cmp5_41 : Own.J jdk_52_method_21_code 41 (.goto (-38)) 3 44 (-38) 3 := ⟨by decide +kernel, rfl, by decide, by decide⟩
theorem d_cmp5_44 : Own.D jdk_52_method_21_code 44 (.iload 4) 2 46 := ⟨by decide +kernel, rfl⟩
theorem d_cmp5_46 : Own.D jdk_52_method_21_code 46 .ireturn 1 47 := ⟨by decide +kernel, rfl⟩
/-- what compress leaves: it stopped at i; the places before i hold the low bytes -/
def QC5 (E : Gl) (cs : List Int32) (n : Nat) (a d : Addr) (kd : ClassId) (h0 : Heap) (F : List Addr) (v : Option Value) (h : Heap) (F' : List Addr) : Prop :=
  ∃ (i : Nat) (vs : List Value), v = some (.int i.toInt32) ∧ F = F' ∧ i ≤ n ∧ (i < n → 255 < (cs.getD i 0).toInt) ∧ (∀ j, j < i → (cs.getD j 0).toInt ≤ 255) ∧ Keep h0 h [d] ∧ Arv E.Z h d kd .byte n.toInt32 vs (.int 0) ∧ vs.length = n ∧ ∀ j, j < i → vs.getD j (.int 0) = .int (lo8 (cs.getD j 0))
theorem nar_lo8 (c : Int32) : nar .byte (lo8 c) = lo8 c := Int32.toInt_inj.mp (by show (lo8 (lo8 c)).toInt = _; rw [lo8_toInt, lo8_toInt, Int.bmod_bmod])
theorem set_pre {vs : List Value} {n i : Nat} {f : Nat → Value} {u : Value} (hvl : vs.length = n) (hin : i < n) (hvs : ∀ j, j < i → vs.getD j (.int 0) = f j) (hu : u = f i := by rfl) : ∀ j, j < i + 1 → (vs.set i u).getD j (.int 0) = f j := by
  intro j hj
  rcases Nat.lt_succ_iff_lt_or_eq.mp hj with q | rfl
  · rw [List.getD_eq_getElem?_getD, List.getElem?_set_ne (by omega), ← List.getD_eq_getElem?_getD]; exact hvs j q
  · rw [List.getD_eq_getElem?_getD, List.getElem?_set_self (by omega)]; exact hu
set_option maxRecDepth 65536 in
set_option maxHeartbeats 4000000 in
theorem cmp5_turns {E : Gl} (hw : Tb E) {x : Cx} {a d : Addr} {ka kd : ClassId} {n : Nat} {cs : List Int32} {h0 : Heap} {F : List Addr} (hQ : x.Q = QC5 E cs n a d kd h0 F) (B : Is x "java/lang/StringUTF16" jdk_52_method_21_code 7 ({ frames := 0, cells := 0, slots := 0, locals := 0 } : Room) (some .int) "compress") (hcs : cs.length = n) (hn : n < 2 ^ 31) (had : a ≠ d) (hd : d ∈ F) :
    ∀ (r i : Nat) (T : State) (h : Heap) (s6 : Slot) (vs : List Value), i + r = n → LS s6 → Wk E x T h F 0 0 → Arv E.Z h a ka .char n.toInt32 (ints cs) (.int 0) → Arv E.Z h d kd .byte n.toInt32 vs (.int 0) → vs.length = n →
      (∀ j, j < i → vs.getD j (.int 0) = .int (lo8 (cs.getD j 0))) → (∀ j, j < i → (cs.getD j 0).toInt ≤ 255) → Keep h0 h [d] → G E x T (fr x 3 #[.val (.ref a), .val (.int i.toInt32), .val (.ref d), .val (.int i.toInt32), .val (.int n.toInt32), .val (.int i.toInt32), s6] []) := by
  intro r
  induction r with
  | zero =>
    intro i T h s6 vs hir hs6 W Aa Ad hvl hvs hlat hK
    have hie : i = n := by omega
    have hi31 : i < 2 ^ 31 := by omega
    refine w_iload W B d_cmp5_3 rfl ?_
    refine w_iload W B d_cmp5_5 rfl ?_
    refine w_icmp_ge W B d_cmp5_7 (fun _ => ?_) (fun q => absurd q (by rw [n_lt hi31 hn]; omega))
    show G E x T (fr x 44 #[.val (.ref a), .val (.int i.toInt32), .val (.ref d), .val (.int i.toInt32), .val (.int n.toInt32), .val (.int i.toInt32), s6] [])
    refine w_iload W B d_cmp5_44 rfl ?_
    exact w_ireturn W B d_cmp5_46 hQ (by decide) (by decide) (fun _ q => q) ⟨n, vs, rfl, rfl, Nat.le_refl _, fun q => absurd q (Nat.lt_irrefl _), fun j q => hlat j (by omega), hK, Ad, hvl, fun j q => hvs j (by omega)⟩
  | succ r ih =>
    intro i T h s6 vs hir hs6 W Aa Ad hvl hvs hlat hK
    have hin : i < n := by omega
    have hi31 : i < 2 ^ 31 := by omega
    refine w_iload W B d_cmp5_3 rfl ?_
    refine w_iload W B d_cmp5_5 rfl ?_
    refine w_icmp_ge W B d_cmp5_7 (fun q => q ((n_lt hi31 hn).mpr hin) |>.elim) (fun _ => ?_)
    show G E x T (fr x 10 #[.val (.ref a), .val (.int i.toInt32), .val (.ref d), .val (.int i.toInt32), .val (.int n.toInt32), .val (.int i.toInt32), s6] [])
    refine w_aloadN W B d_cmp5_10 rfl rfl ?_
    refine w_iloadN W B d_cmp5_11 rfl ?_
    refine w_caload W B d_cmp5_12 Aa ⟨n_nn hi31, (n_lt hi31 hn).mpr hin⟩ (v := .int (cs.getD i 0)) (by rw [n_clamp hi31]; exact ints_at (by rw [hcs]; exact hin) _) ?_
    refine w_istore W B d_cmp5_13 (Ls' := #[.val (.ref a), .val (.int i.toInt32), .val (.ref d), .val (.int i.toInt32), .val (.int n.toInt32), .val (.int i.toInt32), .val (.int (cs.getD i 0))]) (store_lit [.val (.ref a), .val (.int i.toInt32), .val (.ref d), .val (.int i.toInt32), .val (.int n.toInt32), .val (.int i.toInt32)] [] hs6 _) ?_
    refine w_iload W B d_cmp5_15 rfl ?_
    refine w_sipush W B d_cmp5_17 (v := (255 : Int32)) rfl ?_
    refine w_icmp_le W B d_cmp5_20 ?_ ?_
    · intro hc20
      show G E x T (fr x 26 #[.val (.ref a), .val (.int i.toInt32), .val (.ref d), .val (.int i.toInt32), .val (.int n.toInt32), .val (.int i.toInt32), .val (.int (cs.getD i 0))] [])
      refine w_aloadN W B d_cmp5_26 rfl rfl ?_
      refine w_iloadN W B d_cmp5_27 rfl ?_
      refine w_iload W B d_cmp5_28 rfl ?_
      refine w_i2b W B d_cmp5_30 ?_
      refine w_bastore W B d_cmp5_31 hd Ad ⟨n_nn hi31, (n_lt hi31 hn).mpr hin⟩ (i := i) (n_clamp hi31) (by rw [hvl]; exact hin) (u := lo8 (cs.getD i 0)) (nar_lo8 _) ?_
      intro T2 h2 W2 K2 A2
      show G E x T2 (fr x 32 #[.val (.ref a), .val (.int i.toInt32), .val (.ref d), .val (.int i.toInt32), .val (.int n.toInt32), .val (.int i.toInt32), .val (.int (cs.getD i 0))] [])
      refine w_iinc W2 B d_cmp5_32 rfl (w := (i + 1).toInt32) (n_succ i) (Ls' := #[.val (.ref a), .val (.int (i + 1).toInt32), .val (.ref d), .val (.int i.toInt32), .val (.int n.toInt32), .val (.int i.toInt32), .val (.int (cs.getD i 0))]) rfl ?_
      refine w_iinc W2 B d_cmp5_35 rfl (w := (i + 1).toInt32) (n_succ i) (Ls' := #[.val (.ref a), .val (.int (i + 1).toInt32), .val (.ref d), .val (.int (i + 1).toInt32), .val (.int n.toInt32), .val (.int i.toInt32), .val (.int (cs.getD i 0))]) rfl ?_
      refine w_iinc W2 B d_cmp5_38 rfl (w := (i + 1).toInt32) (n_succ i) (Ls' := #[.val (.ref a), .val (.int (i + 1).toInt32), .val (.ref d), .val (.int (i + 1).toInt32), .val (.int n.toInt32), .val (.int (i + 1).toInt32), .val (.int (cs.getD i 0))]) rfl ?_
      refine w_goto W2 B d_cmp5_41 ?_
      exact ih (i + 1) T2 h2 _ (vs.set i (.int (lo8 (cs.getD i 0)))) (by omega) (Or.inr ⟨_, rfl⟩) W2 (Aa.keep K2 (ninS had nin0)) A2 (by rw [List.length_set]; exact hvl) (set_pre hvl hin hvs)
        (fun j hj => by rcases Nat.lt_succ_iff_lt_or_eq.mp hj with q | rfl; exact hlat j q; exact Int.not_lt.mp fun q => hc20 (Int32.lt_iff_toInt_lt.mpr q)) (hK.trans K2 (allS (Or.inl (List.Mem.head _)) all0))
    · intro hc20
      show G E x T (fr x 23 #[.val (.ref a), .val (.int i.toInt32), .val (.ref d), .val (.int i.toInt32), .val (.int n.toInt32), .val (.int i.toInt32), .val (.int (cs.getD i 0))] [])
      refine w_iload W B d_cmp5_23 rfl ?_
      exact w_ireturn W B d_cmp5_25 hQ (by decide) (by decide) (fun _ q => q) ⟨i, vs, rfl, rfl, Nat.le_of_lt hin, fun _ => by have := Int32.lt_iff_toInt_lt.mp hc20; exact this, hlat, hK, Ad, hvl, hvs⟩
set_option maxRecDepth 65536 in
set_option maxHeartbeats 4000000 in
theorem cmp5_met {E : Gl} (hw : Tb E) {a d : Addr} {ka kd : ClassId} {n : Nat} {cs : List Int32} {vs : List Value} {h : Heap} {F : List Addr} (hcs : cs.length = n) (hn : n < 2 ^ 31) (had : a ≠ d) (hd : d ∈ F) (Aa : Arv E.Z h a ka .char n.toInt32 (ints cs) (.int 0)) (Ad : Arv E.Z h d kd .byte n.toInt32 vs (.int 0)) (hvl : vs.length = n) :
    Met E (⟨"java/lang/StringUTF16", "compress", "([CI[BII)I"⟩ : MethodName) jdk_52_method_21_code 7 (some .int) ({ frames := 0, cells := 0, slots := 0, locals := 0 } : Room) #[.ref a, .int 0, .ref d, .int 0, .int n.toInt32] h F (QC5 E cs n a d kd h F) := by
  refine met_of (by decide +kernel) fun x T hQ B W => ?_
  refine G.cast (g' := fr x 0 #[.val (.ref a), .val (.int 0), .val (.ref d), .val (.int 0), .val (.int n.toInt32), .unset, .unset] []) (by simp [entryFrame, mkF, argsToLocals, Own.cat_r, Own.cat_i, Own.cat_j, Own.cat_n]) ?_
  refine w_iconst W B d_cmp5_0 (v := (0 : Int32)) rfl ?_
  refine w_istore W B d_cmp5_1 (Ls' := #[.val (.ref a), .val (.int (0 : Int32)), .val (.ref d), .val (.int (0 : Int32)), .val (.int n.toInt32), .val (.int (0 : Int32)), .unset]) rfl ?_
  exact cmp5_turns hw hQ B hcs hn had hd n 0 T h .unset vs (Nat.zero_add n) (Or.inl rfl) W Aa Ad hvl (fun j q => absurd q (Nat.not_lt_zero _)) (fun j q => absurd q (Nat.not_lt_zero _)) (Keep.refl _ _)
/-- the String at s spells cs; v: its byte[] -/
def StrV (E : Gl) (h : Heap) (s v : Addr) (cs : List Int32) : Prop := ∃ k : ClassId, Exa E.Z h s "java/lang/String" ∧ Fld E.Z h s "java/lang/String" "value" "[B" (.ref v) ∧ Ch cs ∧
  ((Lat cs ∧ Fld E.Z h s "java/lang/String" "coder" "B" (.int 0) ∧ Arv E.Z h v k .byte cs.length.toInt32 (b8 cs) (.int 0)) ∨ (¬ Lat cs ∧ Fld E.Z h s "java/lang/String" "coder" "B" (.int 1) ∧ Arv E.Z h v k .byte (2 * cs.length).toInt32 (b16 cs) (.int 0)))
theorem StrV.ext {E : Gl} {h h' : Heap} {s v : Addr} {cs : List Int32} (F : StrV E h s v cs) (X : Ext h h') : StrV E h' s v cs := by
  obtain ⟨k, h1, h2, h3, h4⟩ := F
  exact ⟨k, h1.ext X, h2.ext X, h3, h4.imp (fun q => ⟨q.1, q.2.1.ext X, q.2.2.ext X⟩) (fun q => ⟨q.1, q.2.1.ext X, q.2.2.ext X⟩)⟩
theorem StrV.keep {E : Gl} {h h' : Heap} {s v : Addr} {cs : List Int32} {ws : List Addr} (F : StrV E h s v cs) (K : Keep h h' ws) (q1 : s ∉ ws) (q2 : v ∉ ws) : StrV E h' s v cs := by
  obtain ⟨k, h1, h2, h3, h4⟩ := F
  exact ⟨k, h1.keep K, h2.keep K q1, h3, h4.imp (fun q => ⟨q.1, q.2.1.keep K q1, q.2.2.keep K q2⟩) (fun q => ⟨q.1, q.2.1.keep K q1, q.2.2.keep K q2⟩)⟩
theorem StrV.exa {E : Gl} {h : Heap} {s v : Addr} {cs : List Int32} (F : StrV E h s v cs) : Exa E.Z h s "java/lang/String" := by obtain ⟨k, h1, -⟩ := F; exact h1
theorem StrV.lt {E : Gl} {h : Heap} {s v : Addr} {cs : List Int32} (F : StrV E h s v cs) : s < h.size := F.exa.lt
theorem StrV.ltv {E : Gl} {h : Heap} {s v : Addr} {cs : List Int32} (F : StrV E h s v cs) : v < h.size := by obtain ⟨k, h1, h2, h3, h4⟩ := F; rcases h4 with q | q; exact q.2.2.lt; exact q.2.2.lt
theorem compact {E : Gl} (hw : Tb E) : ∃ z : Int32, Sta E.Z E.Z.heap "java/lang/String" "COMPACT_STRINGS" "Z" (.int z) ∧ ¬ z = 0 := by
  obtain ⟨z, e⟩ := is_v (Cond.before_iff.mp (sd hw 1 rfl))
  exact ⟨z, Sta.start e (Or.inl (sd hw 0 rfl)), gotF (Cond.eq_ints e (Term.int_eval 0)) (not_v (Cond.before_iff.mp (sd hw 2 rfl)))⟩
/-- what a constructor of String leaves -/
def QStr (E : Gl) (cs : List Int32) (s : Addr) (h : Heap) (F : List Addr) (r : Option Value) (h' : Heap) (F' : List Addr) : Prop := r = none ∧ F = F' ∧ Keep h h' [s] ∧ ∃ v : Addr, StrV E h' s v cs ∧ ∀ y ∈ F, y ≠ v
/-- the Latin-1 String at s spells cs; v: its byte[] -/
def StrL (E : Gl) (h : Heap) (s v : Addr) (k : ClassId) (cs : List Int32) : Prop := Exa E.Z h s "java/lang/String" ∧ Fld E.Z h s "java/lang/String" "value" "[B" (.ref v) ∧ Fld E.Z h s "java/lang/String" "coder" "B" (.int 0) ∧ Arv E.Z h v k .byte cs.length.toInt32 (b8 cs) (.int 0)
theorem StrL.ext {E : Gl} {h h' : Heap} {s v : Addr} {k : ClassId} {cs : List Int32} (F : StrL E h s v k cs) (X : Ext h h') : StrL E h' s v k cs := ⟨F.1.ext X, F.2.1.ext X, F.2.2.1.ext X, F.2.2.2.ext X⟩
theorem StrL.keep {E : Gl} {h h' : Heap} {s v : Addr} {k : ClassId} {cs : List Int32} {ws : List Addr} (F : StrL E h s v k cs) (K : Keep h h' ws) (q1 : s ∉ ws) (q2 : v ∉ ws) : StrL E h' s v k cs := ⟨F.1.keep K, F.2.1.keep K q1, F.2.2.1.keep K q1, F.2.2.2.keep K q2⟩
theorem StrV.latin {E : Gl} {h : Heap} {s v : Addr} {cs : List Int32} (F : StrV E h s v cs) (hL : Lat cs) : ∃ k, StrL E h s v k cs := by
  obtain ⟨k, h1, h2, h3, h4⟩ := F
  rcases h4 with q | q
  · exact ⟨k, h1, h2, q.2.1, q.2.2⟩
  · exact absurd hL q.1
/-- the StringBuilder at s holds cs in the byte[16] at v -/
def SbV (E : Gl) (h : Heap) (s v : Addr) (k : ClassId) (cs : List Int32) : Prop := Exa E.Z h s "java/lang/StringBuilder" ∧ Fld E.Z h s "java/lang/AbstractStringBuilder" "value" "[B" (.ref v) ∧ Fld E.Z h s "java/lang/AbstractStringBuilder" "coder" "B" (.int 0) ∧ Fld E.Z h s "java/lang/AbstractStringBuilder" "count" "I" (.int cs.length.toInt32) ∧ Arv E.Z h v k .byte (16 : Int32) (b8 cs ++ List.replicate (16 - cs.length) (Value.int 0)) (.int 0)
theorem ens_ok {m : Nat} (h : m ≤ 16) : ¬ (0 : Int32) < m.toInt32 - ((16 : Int32) >>> ((0 : Int32) &&& 31)) := by
  have q : ∀ m : Fin 17, ¬ (0 : Int32) < m.val.toInt32 - ((16 : Int32) >>> ((0 : Int32) &&& 31)) := by decide
  exact q ⟨m, by omega⟩
theorem us_all {vs : List Value} {d : Value} {n : Nat} (hn : n < 2 ^ 31) (hl : n ≤ vs.length) : vs.take n = (List.range n.toInt32.toNatClampNeg).map fun i => vs.getD ((0 : Int32).toNatClampNeg + i) d := by
  apply List.ext_getElem
  · simp [n_clamp hn]; omega
  · intro i h1 h2
    have h3 : i < vs.length := by simp at h1; omega
    have e0 : (0 : Int32).toNatClampNeg = 0 := by decide
    simp [e0, List.getD_eq_getElem?_getD, List.getElem?_eq_getElem h3]
theorem put_b8 {cs ds : List Int32} (h : cs.length + ds.length ≤ 16) : (b8 cs ++ List.replicate (16 - cs.length) (Value.int 0)).take cs.length.toInt32.toNatClampNeg ++ (b8 ds).take ds.length ++ (b8 cs ++ List.replicate (16 - cs.length) (Value.int 0)).drop (cs.length.toInt32.toNatClampNeg + ds.length.toInt32.toNatClampNeg) = b8 (cs ++ ds) ++ List.replicate (16 - (cs ++ ds).length) (Value.int 0) := by
  have hc : cs.length < 2 ^ 31 := by omega
  have hd : ds.length < 2 ^ 31 := by omega
  rw [n_clamp hc, n_clamp hd, List.take_left' (b8_len cs), List.take_of_length_le (by rw [b8_len]; exact Nat.le_refl _), List.drop_append, List.drop_of_length_le (by rw [b8_len]; omega), List.drop_replicate, b8_len]
  simp only [b8, List.map_append, List.nil_append, List.append_assoc, List.length_append]
  congr 3
  omega
theorem get_b8 {cs : List Int32} (h : cs.length ≤ 16) : (List.replicate cs.length (Value.int 0)).take (0 : Int32).toNatClampNeg ++ (b8 cs ++ List.replicate (16 - cs.length) (Value.int 0)).take cs.length ++ (List.replicate cs.length (Value.int 0)).drop ((0 : Int32).toNatClampNeg + cs.length.toInt32.toNatClampNeg) = b8 cs := by
  have hc : cs.length < 2 ^ 31 := by omega
  have e0 : (0 : Int32).toNatClampNeg = 0 := by decide
  rw [n_clamp hc, List.take_left' (b8_len cs), e0, List.drop_of_length_le (by simp)]
  simp
def lowc (c : Int32) : Int32 := if c < 65 then c else if ¬ 122 < (c ||| 32) then (c ||| 32) else if (c ||| 32) < 224 then c else if 254 < (c ||| 32) then c else if (c ||| 32) = 247 then c else (c ||| 32)
def i2c (c : Int32) : Int32 := c.toUInt32.toUInt16.toUInt32.toInt32
def lowl (c : Int32) : Int32 := if c < 65 then (if c < 192 then c else if 222 < c then c else if c = 215 then c else i2c (c + 32)) else if 90 < c then (if c < 192 then c else if 222 < c then c else if c = 215 then c else i2c (c + 32)) else i2c (c + 32)
theorem byte_all {P : Int32 → Prop} (H : ∀ k : Fin 256, P (Int32.ofNat k.val)) {c : Int32} (h0 : 0 ≤ c.toInt) (h1 : c.toInt ≤ 255) : P c := by
  have e : c = Int32.ofNat (⟨c.toInt.toNat, by omega⟩ : Fin 256).val := by
    apply Int32.toInt_inj.mp
    show c.toInt = (c.toInt.toNat).toInt32.toInt
    rw [n_int (by omega)]; omega
  rw [e]; exact H _
theorem low_ok {c : Int32} (h0 : 0 ≤ c.toInt) (h1 : c.toInt ≤ 255) : nar .char (lowl c) = lowc c := byte_all (P := fun c => nar .char (lowl c) = lowc c) (by decide +kernel) h0 h1
theorem lowc_rng {c : Int32} (h0 : 0 ≤ c.toInt) (h1 : c.toInt ≤ 255) : 0 ≤ (lowc c).toInt ∧ (lowc c).toInt ≤ 255 := byte_all (P := fun c => 0 ≤ (lowc c).toInt ∧ (lowc c).toInt ≤ 255) (by decide +kernel) h0 h1
def chv (x i : Int32) : Int32 := (XT.ushr x ((8 : Int32) * i) &&& 255).toUInt32.toUInt16.toUInt32.toInt32
theorem chv_rng (x i : Int32) : 0 ≤ (chv x i).toInt ∧ (chv x i).toInt ≤ 255 := by unfold chv; rw [i2c_toInt, and255]; omega
def lnv (x : Int32) : Int32 := XT.ushr x 24 &&& 3
theorem and3 (x : Int32) : (x &&& 3).toInt = x.toInt % 4 := by
  have h : (x &&& 3).toBitVec.toNat = x.toBitVec.toNat % 4 := by
    show (x.toBitVec &&& (3 : Int32).toBitVec).toNat = _
    rw [BitVec.toNat_and, show (3 : Int32).toBitVec.toNat = 2 ^ 2 - 1 from by decide, Nat.and_two_pow_sub_one_eq_mod]
  have h2 : (x &&& 3).toInt = ((x &&& 3).toBitVec.toNat : Int) := by
    show (x &&& 3).toBitVec.toInt = _
    rw [BitVec.toInt_eq_toNat_cond, if_pos (by rw [h]; omega)]
  rw [h2, h]
  show ((x.toBitVec.toNat % 4 : Nat) : Int) = x.toBitVec.toInt % 4
  rw [BitVec.toInt_eq_toNat_cond]
  split <;> omega
theorem lnv_cases (x : Int32) : lnv x = 0 ∨ lnv x = 1 ∨ lnv x = 2 ∨ lnv x = 3 := by
  have h := and3 (XT.ushr x 24)
  have e : (lnv x).toInt = (XT.ushr x 24).toInt % 4 := h
  have q : ∀ k : Int32, (lnv x).toInt = k.toInt → lnv x = k := fun k hk => Int32.toInt_inj.mp hk
  have r : (lnv x).toInt = 0 ∨ (lnv x).toInt = 1 ∨ (lnv x).toInt = 2 ∨ (lnv x).toInt = 3 := by omega
  rcases r with r | r | r | r
  · exact Or.inl (q 0 r)
  · exact Or.inr (Or.inl (q 1 r))
  · exact Or.inr (Or.inr (Or.inl (q 2 r)))
  · exact Or.inr (Or.inr (Or.inr (q 3 r)))
/-- what mk spells -/
def mkcs (x : Int32) : List Int32 := [chv x 0, chv x 1, chv x 2].take (lnv x).toNatClampNeg
theorem mkcs_len (x : Int32) : lnv x = (mkcs x).length.toInt32 := by
  rcases lnv_cases x with h | h | h | h <;> rw [mkcs, h] <;> rfl
theorem mkcs_le (x : Int32) : (mkcs x).length ≤ 3 := by
  rw [mkcs, List.length_take]; exact Nat.min_le_right _ _
theorem mkcs_rng (x : Int32) : ∀ c ∈ mkcs x, 0 ≤ c.toInt ∧ c.toInt ≤ 255 := by
  intro c hc
  have := List.mem_of_mem_take hc
  simp only [List.mem_cons, List.not_mem_nil, or_false] at this
  rcases this with rfl | rfl | rfl <;> exact chv_rng _ _
theorem mkcs_at (x : Int32) {j : Nat} (hj : j < (mkcs x).length) : (mkcs x).getD j 0 = chv x j.toInt32 := by
  have h3 := mkcs_le x
  have e : (mkcs x).getD j 0 = [chv x 0, chv x 1, chv x 2].getD j 0 := by
    rw [mkcs, List.length_take] at hj
    rw [mkcs, List.getD_eq_getElem?_getD, List.getD_eq_getElem?_getD, List.getElem?_take_of_lt (by omega)]
  rw [e]
  have : j = 0 ∨ j = 1 ∨ j = 2 := by omega
  rcases this with rfl | rfl | rfl <;> rfl
/-- the name's chars before they are lowered, and behind -/
def joined (a b c : Int32) : List Int32 := ((((([] ++ mkcs a) ++ [46]) ++ mkcs b) ++ [46]) ++ mkcs c)
def named (a b c : Int32) : List Int32 := (joined a b c).map lowc
theorem joined_len (a b c : Int32) : (joined a b c).length = (mkcs a).length + (mkcs b).length + (mkcs c).length + 2 := by simp [joined]; omega
theorem named_len (a b c : Int32) : (named a b c).length = (mkcs a).length + (mkcs b).length + (mkcs c).length + 2 := by rw [named, List.length_map, joined_len]
theorem joined_rng (a b c : Int32) : ∀ q ∈ joined a b c, 0 ≤ q.toInt ∧ q.toInt ≤ 255 := by
  intro q hq
  simp only [joined, List.mem_append, List.mem_singleton, List.nil_append] at hq
  rcases hq with (((hq | rfl) | hq) | rfl) | hq
  · exact mkcs_rng _ _ hq
  · decide
  · exact mkcs_rng _ _ hq
  · decide
  · exact mkcs_rng _ _ hq
theorem rng_ch {cs : List Int32} (h : ∀ q ∈ cs, 0 ≤ q.toInt ∧ q.toInt ≤ 255) : Ch cs := fun q hq => ⟨(h q hq).1, by have := (h q hq).2; omega⟩
theorem rng_lat {cs : List Int32} (h : ∀ q ∈ cs, 0 ≤ q.toInt ∧ q.toInt ≤ 255) : Lat cs := fun q hq => (h q hq).2
theorem rng_low {cs : List Int32} (h : ∀ q ∈ cs, 0 ≤ q.toInt ∧ q.toInt ≤ 255) : ∀ q ∈ cs.map lowc, 0 ≤ q.toInt ∧ q.toInt ≤ 255 := fun q hq => by
  obtain ⟨d, hd, rfl⟩ := List.mem_map.mp hq
  exact lowc_rng (h d hd).1 (h d hd).2
theorem getD_lo {l r : List Int32} {i : Nat} (h : i < l.length) : (l ++ r).getD i 0 = l.getD i 0 := by rw [List.getD_eq_getElem?_getD, List.getElem?_append_left h, List.getD_eq_getElem?_getD]
theorem getD_hi {l r : List Int32} {n i : Nat} (h : l.length = n) : (l ++ r).getD (n + i) 0 = r.getD i 0 := by subst h; rw [List.getD_eq_getElem?_getD, List.getElem?_append_right (Nat.le_add_right _ _), Nat.add_sub_cancel_left, List.getD_eq_getElem?_getD]
theorem map_at {cs : List Int32} {i : Nat} (h : i < cs.length) : (cs.map lowc).getD i 0 = lowc (cs.getD i 0) := by simp [List.getD_eq_getElem?_getD, List.getElem?_map, List.getElem?_eq_getElem h]
theorem named_a (a b c : Int32) {j : Nat} (hj : j < (mkcs a).length) : (named a b c).getD (0 + j) 0 = lowc (chv a j.toInt32) := by
  rw [Nat.zero_add, named, map_at (by rw [joined_len]; omega), ← mkcs_at a hj]
  congr 1
  simp only [joined, List.nil_append, List.append_assoc]; exact getD_lo hj
theorem named_d1 (a b c : Int32) : (named a b c).getD (mkcs a).length 0 = 46 := by
  rw [named, map_at (by rw [joined_len]; omega)]
  have : (joined a b c).getD (mkcs a).length 0 = 46 := by
    simp only [joined, List.nil_append, List.append_assoc]; exact (getD_hi (i := 0) rfl).trans rfl
  rw [this]; decide
theorem named_b (a b c : Int32) {j : Nat} (hj : j < (mkcs b).length) : (named a b c).getD ((mkcs a).length + 1 + j) 0 = lowc (chv b j.toInt32) := by
  rw [named, map_at (by rw [joined_len]; omega), ← mkcs_at b hj]
  congr 1
  simp only [joined, List.nil_append]; rw [List.append_assoc, List.append_assoc, getD_hi (n := (mkcs a).length + 1) (by simp)]; exact getD_lo hj
theorem named_d2 (a b c : Int32) : (named a b c).getD ((mkcs a).length + 1 + (mkcs b).length) 0 = 46 := by
  rw [named, map_at (by rw [joined_len]; omega)]
  have : (joined a b c).getD ((mkcs a).length + 1 + (mkcs b).length) 0 = 46 := by
    simp only [joined, List.nil_append]; rw [List.append_assoc, ]; exact (getD_hi (n := (mkcs a).length + 1 + (mkcs b).length) (i := 0) (by simp; omega)).trans rfl
  rw [this]; decide
theorem named_c (a b c : Int32) {j : Nat} (hj : j < (mkcs c).length) : (named a b c).getD ((mkcs a).length + (mkcs b).length + 2 + j) 0 = lowc (chv c j.toInt32) := by
  rw [named, map_at (by rw [joined_len]; omega), ← mkcs_at c hj]
  congr 1
  simp only [joined, List.nil_append]; exact getD_hi (by simp; omega)
/-- Locale.ROOT: its language is a String of no char -/
def LocV (E : Gl) (lo bl la lv : Addr) (kl : ClassId) : Prop := Exa E.Z E.Z.heap lo "java/util/Locale" ∧ Fld E.Z E.Z.heap lo "java/util/Locale" "baseLocale" "Lsun/util/locale/BaseLocale;" (.ref bl) ∧ Exa E.Z E.Z.heap bl "sun/util/locale/BaseLocale" ∧ Fld E.Z E.Z.heap bl "sun/util/locale/BaseLocale" "language" "Ljava/lang/String;" (.ref la) ∧ Fld E.Z E.Z.heap la "java/lang/String" "value" "[B" (.ref lv) ∧ Arv E.Z E.Z.heap lv kl .byte 0 [] (.int 0)
theorem pd___CI_BII_I688 : parseMethodDescriptor "([CI[BII)I" = some ⟨[(.array .char), .int, (.array .byte), .int, .int], (some .int)⟩ := by decide +kernel
theorem pd___CII__B542 : parseMethodDescriptor "([CII)[B" = some ⟨[(.array .char), .int, .int], (some (.array .byte))⟩ := by decide +kernel
theorem pd___BI_B377 : parseMethodDescriptor "([BI)B" = some ⟨[(.array .byte), .int], (some .byte)⟩ := by decide +kernel
theorem pd___CIILjava_lang_Void__V941 : parseMethodDescriptor "([CIILjava/lang/Void;)V" = some ⟨[(.array .char), .int, .int, (.object "java/lang/Void")], none⟩ := by decide +kernel
theorem pd___B147 : parseMethodDescriptor "()B" = some ⟨[], (some .byte)⟩ := by decide +kernel
theorem pd__I_V240 : parseMethodDescriptor "(I)V" = some ⟨[.int], none⟩ := by decide +kernel
theorem pd__Ljava_lang_String__V866 : parseMethodDescriptor "(Ljava/lang/String;)V" = some ⟨[(.object "java/lang/String")], none⟩ := by decide +kernel
theorem pd___BIB_V463 : parseMethodDescriptor "([BIB)V" = some ⟨[(.array .byte), .int, .byte], none⟩ := by decide +kernel
theorem pd___I154 : parseMethodDescriptor "()I" = some ⟨[], (some .int)⟩ := by decide +kernel
theorem pd__ILjava_lang_String__V939 : parseMethodDescriptor "(ILjava/lang/String;)V" = some ⟨[.int, (.object "java/lang/String")], none⟩ := by decide +kernel
theorem pd__Ljava_lang_String__Ljava_lang_AbstractStringBuilder_19 : parseMethodDescriptor "(Ljava/lang/String;)Ljava/lang/AbstractStringBuilder;" = some ⟨[(.object "java/lang/String")], (some (.object "java/lang/AbstractStringBuilder"))⟩ := by decide +kernel
theorem pd__II_V313 : parseMethodDescriptor "(II)V" = some ⟨[.int, .int], none⟩ := by decide +kernel
theorem pd__II_I300 : parseMethodDescriptor "(II)I" = some ⟨[.int, .int], (some .int)⟩ := by decide +kernel
theorem pd___BII__B541 : parseMethodDescriptor "([BII)[B" = some ⟨[(.array .byte), .int, .int], (some (.array .byte))⟩ := by decide +kernel
theorem pd____B238 : parseMethodDescriptor "()[B" = some ⟨[], (some (.array .byte))⟩ := by decide +kernel
theorem pd___Z171 : parseMethodDescriptor "()Z" = some ⟨[], (some .boolean)⟩ := by decide +kernel
theorem pd__Ljava_lang_AbstractStringBuilder_Ljava_lang_Void__V873 : parseMethodDescriptor "(Ljava/lang/AbstractStringBuilder;Ljava/lang/Void;)V" = some ⟨[(.object "java/lang/AbstractStringBuilder"), (.object "java/lang/Void")], none⟩ := by decide +kernel
theorem pd__Ljava_lang_StringBuilder__V580 : parseMethodDescriptor "(Ljava/lang/StringBuilder;)V" = some ⟨[(.object "java/lang/StringBuilder")], none⟩ := by decide +kernel
theorem pd__IILjava_util_function_BiFunction__I328 : parseMethodDescriptor "(IILjava/util/function/BiFunction;)I" = some ⟨[.int, .int, (.object "java/util/function/BiFunction")], (some .int)⟩ := by decide +kernel
theorem pd___BI_C378 : parseMethodDescriptor "([BI)C" = some ⟨[(.array .byte), .int], (some .char)⟩ := by decide +kernel
theorem pd___Ljava_lang_String_780 : parseMethodDescriptor "()Ljava/lang/String;" = some ⟨[], (some (.object "java/lang/String"))⟩ := by decide +kernel
theorem pd___BB_V390 : parseMethodDescriptor "([BB)V" = some ⟨[(.array .byte), .byte], none⟩ := by decide +kernel
theorem pd__I_I227 : parseMethodDescriptor "(I)I" = some ⟨[.int], (some .int)⟩ := by decide +kernel
theorem pd__I_Z244 : parseMethodDescriptor "(I)Z" = some ⟨[.int], (some .boolean)⟩ := by decide +kernel
theorem pd__Ljava_lang_String__BLjava_util_Locale__Ljava_lang_String_330 : parseMethodDescriptor "(Ljava/lang/String;[BLjava/util/Locale;)Ljava/lang/String;" = some ⟨[(.object "java/lang/String"), (.array .byte), (.object "java/util/Locale")], (some (.object "java/lang/String"))⟩ := by decide +kernel
theorem pd___V167 : parseMethodDescriptor "()V" = some ⟨[], none⟩ := by decide +kernel
theorem pd__Ljava_lang_String__Ljava_lang_StringBuilder_196 : parseMethodDescriptor "(Ljava/lang/String;)Ljava/lang/StringBuilder;" = some ⟨[(.object "java/lang/String")], (some (.object "java/lang/StringBuilder"))⟩ := by decide +kernel
theorem pd__Ljava_util_Locale__Ljava_lang_String_471 : parseMethodDescriptor "(Ljava/util/Locale;)Ljava/lang/String;" = some ⟨[(.object "java/util/Locale")], (some (.object "java/lang/String"))⟩ := by decide +kernel
theorem pd__II_C294 : parseMethodDescriptor "(II)C" = some ⟨[.int, .int], (some .char)⟩ := by decide +kernel
theorem pd___C_V325 : parseMethodDescriptor "([C)V" = some ⟨[(.array .char)], none⟩ := by decide +kernel
theorem pd__I_C221 : parseMethodDescriptor "(I)C" = some ⟨[.int], (some .char)⟩ := by decide +kernel
theorem pd__C_C215 : parseMethodDescriptor "(C)C" = some ⟨[.char], (some .char)⟩ := by decide +kernel
theorem pd__I_Ljava_lang_String_853 : parseMethodDescriptor "(I)Ljava/lang/String;" = some ⟨[.int], (some (.object "java/lang/String"))⟩ := by decide +kernel
theorem pd__Ljava_lang_String_Ljava_lang_String_Ljava_lang_String__Ljava_lang_String_883 : parseMethodDescriptor "(Ljava/lang/String;Ljava/lang/String;Ljava/lang/String;)Ljava/lang/String;" = some ⟨[(.object "java/lang/String"), (.object "java/lang/String"), (.object "java/lang/String")], (some (.object "java/lang/String"))⟩ := by decide +kernel
theorem pd__Ljava_lang_String_III_Z92 : parseMethodDescriptor "(Ljava/lang/String;III)Z" = some ⟨[(.object "java/lang/String"), .int, .int, .int], (some .boolean)⟩ := by decide +kernel
theorem d_cod_0 : Own.D jdk_52_method_15_code 0 (.iload_n 1) 1 1 := ⟨by decide +kernel, rfl⟩
theorem d_cod_1 : Own.D jdk_52_method_15_code 1 (.aload_n 0) 1 2 := ⟨by decide +kernel, rfl⟩
theorem d_cod_2 : Own.D jdk_52_method_15_code 2 .arraylength 1 3 := ⟨by decide +kernel, rfl⟩
theorem d_cod_3 : Own.D jdk_52_method_15_code 3 .isub 1 4 := ⟨by decide +kernel, rfl⟩
theorem d_cod_4 : Own.D jdk_52_method_15_code 4 (.bipush 31) 2 6 := ⟨by decide +kernel, rfl⟩
theorem d_cod_6 : Own.D jdk_52_method_15_code 6 .iushr 1 7 := ⟨by decide +kernel, rfl⟩
theorem d_cod_7 : Own.D jdk_52_method_15_code 7 .i2b 1 8 := ⟨by decide +kernel, rfl⟩
theorem d_cod_8 : Own.D jdk_52_method_15_code 8 .ireturn 1 9 := ⟨by decide +kernel, rfl⟩
theorem d_cmp3_0 : Own.D jdk_52_method_16_code 0 (.iload_n 2) 1 1 := ⟨by decide +kernel, rfl⟩
theorem d_cmp3_1 : Own.D jdk_52_method_16_code 1 (.newarray .byte) 2 3 := ⟨by decide +kernel, rfl⟩
theorem d_cmp3_3 : Own.D jdk_52_method_16_code 3 (.astore_n 3) 1 4 := ⟨by decide +kernel, rfl⟩
theorem d_cmp3_4 : Own.D jdk_52_method_16_code 4 (.aload_n 0) 1 5 := ⟨by decide +kernel, rfl⟩
theorem d_cmp3_5 : Own.D jdk_52_method_16_code 5 (.iload_n 1) 1 6 := ⟨by decide +kernel, rfl⟩
theorem d_cmp3_6 : Own.D jdk_52_method_16_code 6 (.aload_n 3) 1 7 := ⟨by decide +kernel, rfl⟩
theorem d_cmp3_7 : Own.D jdk_52_method_16_code 7 (.iconst 0) 1 8 := ⟨by decide +kernel, rfl⟩
theorem d_cmp3_8 : Own.D jdk_52_method_16_code 8 (.iload_n 2) 1 9 := ⟨by decide +kernel, rfl⟩
theorem d_cmp3_9 : Own.D jdk_52_method_16_code 9 (.invokestatic 115) 3 12 := ⟨by decide +kernel, rfl⟩
theorem d_cmp3_12 : Own.D jdk_52_method_16_code 12 (.istore 4) 2 14 := ⟨by decide +kernel, rfl⟩
theorem d_cmp3_14 : Own.D jdk_52_method_16_code 14 (.iload 4) 2 16 := ⟨by decide +kernel, rfl⟩
theorem d_cmp3_16 : Own.D jdk_52_method_16_code 16 (.iload_n 2) 1 17 := ⟨by decide +kernel, rfl⟩
theorem d_cmp3_17 : Own.J jdk_52_method_16_code 17 (.if_icmp .eq 40) 3 20 40 57 := ⟨by decide +kernel, rfl, by decide, by decide⟩
theorem d_cmp3_57 : Own.D jdk_52_method_16_code 57 (.aload_n 3) 1 58 := ⟨by decide +kernel, rfl⟩
theorem d_cmp3_58 : Own.D jdk_52_method_16_code 58 .areturn 1 59 := ⟨by decide +kernel, rfl⟩
theorem d_ini4_0 : Own.D jdk_42_method_149_code 0 (.aload_n 0) 1 1 := ⟨by decide +kernel, rfl⟩
theorem d_ini4_1 : Own.D jdk_42_method_149_code 1 (.invokespecial 1) 3 4 := ⟨by decide +kernel, rfl⟩
theorem d_ini4_4 : Own.D jdk_42_method_149_code 4 (.iload_n 3) 1 5 := ⟨by decide +kernel, rfl⟩
theorem d_ini4_5 : Own.J jdk_42_method_149_code 5 (.ifCond .ne 22) 3 8 22 27 := ⟨by decide +kernel, rfl, by decide, by decide⟩
theorem d_ini4_27 : Own.D jdk_42_method_149_code 27 (.getstatic 38) 3 30 := ⟨by decide +kernel, rfl⟩
theorem d_ini4_30 : Own.J jdk_42_method_149_code 30 (.ifCond .eq 28) 3 33 28 58 := ⟨by decide +kernel, rfl, by decide, by decide⟩
theorem d_ini4_33 : Own.D jdk_42_method_149_code 33 (.aload_n 1) 1 34 := ⟨by decide +kernel, rfl⟩
theorem d_ini4_34 : Own.D jdk_42_method_149_code 34 (.iload_n 2) 1 35 := ⟨by decide +kernel, rfl⟩
theorem d_ini4_35 : Own.D jdk_42_method_149_code 35 (.iload_n 3) 1 36 := ⟨by decide +kernel, rfl⟩
theorem d_ini4_36 : Own.D jdk_42_method_149_code 36 (.invokestatic 177) 3 39 := ⟨by decide +kernel, rfl⟩
theorem d_ini4_39 : Own.D jdk_42_method_149_code 39 (.astore 5) 2 41 := ⟨by decide +kernel, rfl⟩
theorem d_ini4_41 : Own.D jdk_42_method_149_code 41 (.aload_n 0) 1 42 := ⟨by decide +kernel, rfl⟩
theorem d_ini4_42 : Own.D jdk_42_method_149_code 42 (.aload 5) 2 44 := ⟨by decide +kernel, rfl⟩
theorem d_ini4_44 : Own.D jdk_42_method_149_code 44 (.iload_n 3) 1 45 := ⟨by decide +kernel, rfl⟩
theorem d_ini4_45 : Own.D jdk_42_method_149_code 45 (.invokestatic 47) 3 48 := ⟨by decide +kernel, rfl⟩
theorem d_ini4_48 : Own.D jdk_42_method_149_code 48 (.putfield 15) 3 51 := ⟨by decide +kernel, rfl⟩
theorem d_ini4_51 : Own.D jdk_42_method_149_code 51 (.aload_n 0) 1 52 := ⟨by decide +kernel, rfl⟩
theorem d_ini4_52 : Own.D jdk_42_method_149_code 52 (.aload 5) 2 54 := ⟨by decide +kernel, rfl⟩
theorem d_ini4_54 : Own.D jdk_42_method_149_code 54 (.putfield 9) 3 57 := ⟨by decide +kernel, rfl⟩
theorem d_ini4_57 : Own.D jdk_42_method_149_code 57 .return_ 1 58 := ⟨by decide +kernel, rfl⟩
theorem d_ini1_0 : Own.D jdk_42_method_3_code 0 (.aload_n 0) 1 1 := ⟨by decide +kernel, rfl⟩
theorem d_ini1_1 : Own.D jdk_42_method_3_code 1 (.aload_n 1) 1 2 := ⟨by decide +kernel, rfl⟩
theorem d_ini1_2 : Own.D jdk_42_method_3_code 2 (.iconst 0) 1 3 := ⟨by decide +kernel, rfl⟩
theorem d_ini1_3 : Own.D jdk_42_method_3_code 3 (.aload_n 1) 1 4 := ⟨by decide +kernel, rfl⟩
theorem d_ini1_4 : Own.D jdk_42_method_3_code 4 .arraylength 1 5 := ⟨by decide +kernel, rfl⟩
theorem d_ini1_5 : Own.D jdk_42_method_3_code 5 .aconst_null 1 6 := ⟨by decide +kernel, rfl⟩
theorem d_ini1_6 : Own.D jdk_42_method_3_code 6 (.invokespecial 27) 3 9 := ⟨by decide +kernel, rfl⟩
theorem d_ini1_9 : Own.D jdk_42_method_3_code 9 .return_ 1 10 := ⟨by decide +kernel, rfl⟩
theorem d_ini4_8 : Own.D jdk_42_method_149_code 8 (.aload_n 0) 1 9 := ⟨by decide +kernel, rfl⟩
theorem d_ini4_9 : Own.D jdk_42_method_149_code 9 (.ldc 7) 2 11 := ⟨by decide +kernel, rfl⟩
theorem d_ini4_11 : Own.D jdk_42_method_149_code 11 (.getfield 9) 3 14 := ⟨by decide +kernel, rfl⟩
theorem d_ini4_14 : Own.D jdk_42_method_149_code 14 (.putfield 9) 3 17 := ⟨by decide +kernel, rfl⟩
theorem d_ini4_17 : Own.D jdk_42_method_149_code 17 (.aload_n 0) 1 18 := ⟨by decide +kernel, rfl⟩
theorem d_ini4_18 : Own.D jdk_42_method_149_code 18 (.ldc 7) 2 20 := ⟨by decide +kernel, rfl⟩
theorem d_ini4_20 : Own.D jdk_42_method_149_code 20 (.getfield 15) 3 23 := ⟨by decide +kernel, rfl⟩
theorem d_ini4_23 : Own.D jdk_42_method_149_code 23 (.putfield 15) 3 26 := ⟨by decide +kernel, rfl⟩
theorem d_ini4_26 : Own.D jdk_42_method_149_code 26 .return_ 1 27 := ⟨by decide +kernel, rfl⟩
theorem d_scod_0 : Own.D jdk_42_method_152_code 0 (.getstatic 38) 3 3 := ⟨by decide +kernel, rfl⟩
theorem d_scod_3 : Own.J jdk_42_method_152_code 3 (.ifCond .eq 10) 3 6 10 13 := ⟨by decide +kernel, rfl, by decide, by decide⟩
theorem d_scod_6 : Own.D jdk_42_method_152_code 6 (.aload_n 0) 1 7 := ⟨by decide +kernel, rfl⟩
theorem d_scod_7 : Own.D jdk_42_method_152_code 7 (.getfield 15) 3 10 := ⟨by decide +kernel, rfl⟩
theorem d_scod_10 : Own.J jdk_42_method_152_code 10 (.goto 4) 3 13 4 14 := ⟨by decide +kernel, rfl, by decide, by decide⟩
theorem d_scod_14 : Own.D jdk_42_method_152_code 14 .ireturn 1 15 := ⟨by decide +kernel, rfl⟩
theorem d_slat_0 : Own.D jdk_42_method_154_code 0 (.getstatic 38) 3 3 := ⟨by decide +kernel, rfl⟩
theorem d_slat_3 : Own.J jdk_42_method_154_code 3 (.ifCond .eq 14) 3 6 14 17 := ⟨by decide +kernel, rfl, by decide, by decide⟩
theorem d_slat_6 : Own.D jdk_42_method_154_code 6 (.aload_n 0) 1 7 := ⟨by decide +kernel, rfl⟩
theorem d_slat_7 : Own.D jdk_42_method_154_code 7 (.getfield 15) 3 10 := ⟨by decide +kernel, rfl⟩
theorem d_slat_10 : Own.J jdk_42_method_154_code 10 (.ifCond .ne 7) 3 13 7 17 := ⟨by decide +kernel, rfl, by decide, by decide⟩
theorem d_slat_13 : Own.D jdk_42_method_154_code 13 (.iconst 1) 1 14 := ⟨by decide +kernel, rfl⟩
theorem d_slat_14 : Own.J jdk_42_method_154_code 14 (.goto 4) 3 17 4 18 := ⟨by decide +kernel, rfl, by decide, by decide⟩
theorem d_slat_18 : Own.D jdk_42_method_154_code 18 .ireturn 1 19 := ⟨by decide +kernel, rfl⟩
theorem d_slen_0 : Own.D jdk_42_method_54_code 0 (.aload_n 0) 1 1 := ⟨by decide +kernel, rfl⟩
theorem d_slen_1 : Own.D jdk_42_method_54_code 1 (.getfield 9) 3 4 := ⟨by decide +kernel, rfl⟩
theorem d_slen_4 : Own.D jdk_42_method_54_code 4 .arraylength 1 5 := ⟨by decide +kernel, rfl⟩
theorem d_slen_5 : Own.D jdk_42_method_54_code 5 (.aload_n 0) 1 6 := ⟨by decide +kernel, rfl⟩
theorem d_slen_6 : Own.D jdk_42_method_54_code 6 (.invokevirtual 335) 3 9 := ⟨by decide +kernel, rfl⟩
theorem d_slen_9 : Own.D jdk_42_method_54_code 9 .ishr 1 10 := ⟨by decide +kernel, rfl⟩
theorem d_slen_10 : Own.D jdk_42_method_54_code 10 .ireturn 1 11 := ⟨by decide +kernel, rfl⟩
theorem d_asbi_0 : Own.D jdk_68_method_2_code 0 (.aload_n 0) 1 1 := ⟨by decide +kernel, rfl⟩
theorem d_asbi_1 : Own.D jdk_68_method_2_code 1 (.invokespecial 3) 3 4 := ⟨by decide +kernel, rfl⟩
theorem d_asbi_4 : Own.D jdk_68_method_2_code 4 (.getstatic 18) 3 7 := ⟨by decide +kernel, rfl⟩
theorem d_asbi_7 : Own.J jdk_68_method_2_code 7 (.ifCond .eq 18) 3 10 18 25 := ⟨by decide +kernel, rfl, by decide, by decide⟩
theorem d_asbi_10 : Own.D jdk_68_method_2_code 10 (.aload_n 0) 1 11 := ⟨by decide +kernel, rfl⟩
theorem d_asbi_11 : Own.D jdk_68_method_2_code 11 (.iload_n 1) 1 12 := ⟨by decide +kernel, rfl⟩
theorem d_asbi_12 : Own.D jdk_68_method_2_code 12 (.newarray .byte) 2 14 := ⟨by decide +kernel, rfl⟩
theorem d_asbi_14 : Own.D jdk_68_method_2_code 14 (.putfield 15) 3 17 := ⟨by decide +kernel, rfl⟩
theorem d_asbi_17 : Own.D jdk_68_method_2_code 17 (.aload_n 0) 1 18 := ⟨by decide +kernel, rfl⟩
theorem d_asbi_18 : Own.D jdk_68_method_2_code 18 (.iconst 0) 1 19 := ⟨by decide +kernel, rfl⟩
theorem d_asbi_19 : Own.D jdk_68_method_2_code 19 (.putfield 22) 3 22 := ⟨by decide +kernel, rfl⟩
theorem d_asbi_22 : Own.J jdk_68_method_2_code 22 (.goto 16) 3 25 16 38 := ⟨by decide +kernel, rfl, by decide, by decide⟩
theorem d_asbi_38 : Own.D jdk_68_method_2_code 38 .return_ 1 39 := ⟨by decide +kernel, rfl⟩
theorem d_sbi_0 : Own.D jdk_67_method_1_code 0 (.aload_n 0) 1 1 := ⟨by decide +kernel, rfl⟩
theorem d_sbi_1 : Own.D jdk_67_method_1_code 1 (.bipush 16) 2 3 := ⟨by decide +kernel, rfl⟩
theorem d_sbi_3 : Own.D jdk_67_method_1_code 3 (.invokespecial 1) 3 6 := ⟨by decide +kernel, rfl⟩
theorem d_sbi_6 : Own.D jdk_67_method_1_code 6 .return_ 1 7 := ⟨by decide +kernel, rfl⟩
theorem d_ens_0 : Own.D jdk_68_method_9_code 0 (.aload_n 0) 1 1 := ⟨by decide +kernel, rfl⟩
theorem d_ens_1 : Own.D jdk_68_method_9_code 1 (.getfield 15) 3 4 := ⟨by decide +kernel, rfl⟩
theorem d_ens_4 : Own.D jdk_68_method_9_code 4 .arraylength 1 5 := ⟨by decide +kernel, rfl⟩
theorem d_ens_5 : Own.D jdk_68_method_9_code 5 (.aload_n 0) 1 6 := ⟨by decide +kernel, rfl⟩
theorem d_ens_6 : Own.D jdk_68_method_9_code 6 (.getfield 22) 3 9 := ⟨by decide +kernel, rfl⟩
theorem d_ens_9 : Own.D jdk_68_method_9_code 9 .ishr 1 10 := ⟨by decide +kernel, rfl⟩
theorem d_ens_10 : Own.D jdk_68_method_9_code 10 (.istore_n 2) 1 11 := ⟨by decide +kernel, rfl⟩
theorem d_ens_11 : Own.D jdk_68_method_9_code 11 (.iload_n 1) 1 12 := ⟨by decide +kernel, rfl⟩
theorem d_ens_12 : Own.D jdk_68_method_9_code 12 (.iload_n 2) 1 13 := ⟨by decide +kernel, rfl⟩
theorem d_ens_13 : Own.D jdk_68_method_9_code 13 .isub 1 14 := ⟨by decide +kernel, rfl⟩
theorem d_ens_14 : Own.J jdk_68_method_9_code 14 (.ifCond .le 24) 3 17 24 38 := ⟨by decide +kernel, rfl, by decide, by decide⟩
theorem d_ens_38 : Own.D jdk_68_method_9_code 38 .return_ 1 39 := ⟨by decide +kernel, rfl⟩
theorem d_infl_0 : Own.D jdk_68_method_71_code 0 (.getstatic 18) 3 3 := ⟨by decide +kernel, rfl⟩
theorem d_infl_3 : Own.J jdk_68_method_71_code 3 (.ifCond .eq 18) 3 6 18 21 := ⟨by decide +kernel, rfl, by decide, by decide⟩
theorem d_infl_6 : Own.D jdk_68_method_71_code 6 (.aload_n 0) 1 7 := ⟨by decide +kernel, rfl⟩
theorem d_infl_7 : Own.D jdk_68_method_71_code 7 (.getfield 22) 3 10 := ⟨by decide +kernel, rfl⟩
theorem d_infl_10 : Own.D jdk_68_method_71_code 10 (.aload_n 1) 1 11 := ⟨by decide +kernel, rfl⟩
theorem d_infl_11 : Own.D jdk_68_method_71_code 11 (.invokevirtual 40) 3 14 := ⟨by decide +kernel, rfl⟩
theorem d_infl_14 : Own.J jdk_68_method_71_code 14 (.if_icmp .eq 7) 3 17 7 21 := ⟨by decide +kernel, rfl, by decide, by decide⟩
theorem d_infl_21 : Own.D jdk_68_method_71_code 21 .return_ 1 22 := ⟨by decide +kernel, rfl⟩
theorem d_gby_0 : Own.D jdk_42_method_147_code 0 (.aload_n 0) 1 1 := ⟨by decide +kernel, rfl⟩
theorem d_gby_1 : Own.D jdk_42_method_147_code 1 (.invokevirtual 335) 3 4 := ⟨by decide +kernel, rfl⟩
theorem d_gby_4 : Own.D jdk_42_method_147_code 4 (.iload_n 3) 1 5 := ⟨by decide +kernel, rfl⟩
theorem d_gby_5 : Own.J jdk_42_method_147_code 5 (.if_icmp .ne 23) 3 8 23 28 := ⟨by decide +kernel, rfl, by decide, by decide⟩
theorem d_gby_8 : Own.D jdk_42_method_147_code 8 (.aload_n 0) 1 9 := ⟨by decide +kernel, rfl⟩
theorem d_gby_9 : Own.D jdk_42_method_147_code 9 (.getfield 9) 3 12 := ⟨by decide +kernel, rfl⟩
theorem d_gby_12 : Own.D jdk_42_method_147_code 12 (.iconst 0) 1 13 := ⟨by decide +kernel, rfl⟩
theorem d_gby_13 : Own.D jdk_42_method_147_code 13 (.aload_n 1) 1 14 := ⟨by decide +kernel, rfl⟩
theorem d_gby_14 : Own.D jdk_42_method_147_code 14 (.iload_n 2) 1 15 := ⟨by decide +kernel, rfl⟩
theorem d_gby_15 : Own.D jdk_42_method_147_code 15 (.iload_n 3) 1 16 := ⟨by decide +kernel, rfl⟩
theorem d_gby_16 : Own.D jdk_42_method_147_code 16 .ishl 1 17 := ⟨by decide +kernel, rfl⟩
theorem d_gby_17 : Own.D jdk_42_method_147_code 17 (.aload_n 0) 1 18 := ⟨by decide +kernel, rfl⟩
theorem d_gby_18 : Own.D jdk_42_method_147_code 18 (.getfield 9) 3 21 := ⟨by decide +kernel, rfl⟩
theorem d_gby_21 : Own.D jdk_42_method_147_code 21 .arraylength 1 22 := ⟨by decide +kernel, rfl⟩
theorem d_gby_22 : Own.D jdk_42_method_147_code 22 (.invokestatic 212) 3 25 := ⟨by decide +kernel, rfl⟩
theorem d_gby_25 : Own.J jdk_42_method_147_code 25 (.goto 18) 3 28 18 43 := ⟨by decide +kernel, rfl, by decide, by decide⟩
theorem d_gby_43 : Own.D jdk_42_method_147_code 43 .return_ 1 44 := ⟨by decide +kernel, rfl⟩
theorem d_pst_0 : Own.D jdk_68_method_73_code 0 (.aload_n 0) 1 1 := ⟨by decide +kernel, rfl⟩
theorem d_pst_1 : Own.D jdk_68_method_73_code 1 (.aload_n 2) 1 2 := ⟨by decide +kernel, rfl⟩
theorem d_pst_2 : Own.D jdk_68_method_73_code 2 (.invokevirtual 397) 3 5 := ⟨by decide +kernel, rfl⟩
theorem d_pst_5 : Own.D jdk_68_method_73_code 5 (.aload_n 2) 1 6 := ⟨by decide +kernel, rfl⟩
theorem d_pst_6 : Own.D jdk_68_method_73_code 6 (.aload_n 0) 1 7 := ⟨by decide +kernel, rfl⟩
theorem d_pst_7 : Own.D jdk_68_method_73_code 7 (.getfield 15) 3 10 := ⟨by decide +kernel, rfl⟩
theorem d_pst_10 : Own.D jdk_68_method_73_code 10 (.iload_n 1) 1 11 := ⟨by decide +kernel, rfl⟩
theorem d_pst_11 : Own.D jdk_68_method_73_code 11 (.aload_n 0) 1 12 := ⟨by decide +kernel, rfl⟩
theorem d_pst_12 : Own.D jdk_68_method_73_code 12 (.getfield 22) 3 15 := ⟨by decide +kernel, rfl⟩
theorem d_pst_15 : Own.D jdk_68_method_73_code 15 (.invokevirtual 399) 3 18 := ⟨by decide +kernel, rfl⟩
theorem d_pst_18 : Own.D jdk_68_method_73_code 18 .return_ 1 19 := ⟨by decide +kernel, rfl⟩
theorem d_aap_0 : Own.D jdk_68_method_22_code 0 (.aload_n 1) 1 1 := ⟨by decide +kernel, rfl⟩
theorem d_aap_1 : Own.J jdk_68_method_22_code 1 (.ifnonnull 8) 3 4 8 9 := ⟨by decide +kernel, rfl, by decide, by decide⟩
theorem d_aap_9 : Own.D jdk_68_method_22_code 9 (.aload_n 1) 1 10 := ⟨by decide +kernel, rfl⟩
theorem d_aap_10 : Own.D jdk_68_method_22_code 10 (.invokevirtual 32) 3 13 := ⟨by decide +kernel, rfl⟩
theorem d_aap_13 : Own.D jdk_68_method_22_code 13 (.istore_n 2) 1 14 := ⟨by decide +kernel, rfl⟩
theorem d_aap_14 : Own.D jdk_68_method_22_code 14 (.aload_n 0) 1 15 := ⟨by decide +kernel, rfl⟩
theorem d_aap_15 : Own.D jdk_68_method_22_code 15 (.aload_n 0) 1 16 := ⟨by decide +kernel, rfl⟩
theorem d_aap_16 : Own.D jdk_68_method_22_code 16 (.getfield 79) 3 19 := ⟨by decide +kernel, rfl⟩
theorem d_aap_19 : Own.D jdk_68_method_22_code 19 (.iload_n 2) 1 20 := ⟨by decide +kernel, rfl⟩
theorem d_aap_20 : Own.D jdk_68_method_22_code 20 .iadd 1 21 := ⟨by decide +kernel, rfl⟩
theorem d_aap_21 : Own.D jdk_68_method_22_code 21 (.invokevirtual 100) 3 24 := ⟨by decide +kernel, rfl⟩
theorem d_aap_24 : Own.D jdk_68_method_22_code 24 (.aload_n 0) 1 25 := ⟨by decide +kernel, rfl⟩
theorem d_aap_25 : Own.D jdk_68_method_22_code 25 (.aload_n 0) 1 26 := ⟨by decide +kernel, rfl⟩
theorem d_aap_26 : Own.D jdk_68_method_22_code 26 (.getfield 79) 3 29 := ⟨by decide +kernel, rfl⟩
theorem d_aap_29 : Own.D jdk_68_method_22_code 29 (.aload_n 1) 1 30 := ⟨by decide +kernel, rfl⟩
theorem d_aap_30 : Own.D jdk_68_method_22_code 30 (.invokevirtual 208) 3 33 := ⟨by decide +kernel, rfl⟩
theorem d_aap_33 : Own.D jdk_68_method_22_code 33 (.aload_n 0) 1 34 := ⟨by decide +kernel, rfl⟩
theorem d_aap_34 : Own.D jdk_68_method_22_code 34 .dup 1 35 := ⟨by decide +kernel, rfl⟩
theorem d_aap_35 : Own.D jdk_68_method_22_code 35 (.getfield 79) 3 38 := ⟨by decide +kernel, rfl⟩
theorem d_aap_38 : Own.D jdk_68_method_22_code 38 (.iload_n 2) 1 39 := ⟨by decide +kernel, rfl⟩
theorem d_aap_39 : Own.D jdk_68_method_22_code 39 .iadd 1 40 := ⟨by decide +kernel, rfl⟩
theorem d_aap_40 : Own.D jdk_68_method_22_code 40 (.putfield 79) 3 43 := ⟨by decide +kernel, rfl⟩
theorem d_aap_43 : Own.D jdk_68_method_22_code 43 (.aload_n 0) 1 44 := ⟨by decide +kernel, rfl⟩
theorem d_aap_44 : Own.D jdk_68_method_22_code 44 .areturn 1 45 := ⟨by decide +kernel, rfl⟩
theorem d_sap_0 : Own.D jdk_67_method_7_code 0 (.aload_n 0) 1 1 := ⟨by decide +kernel, rfl⟩
theorem d_sap_1 : Own.D jdk_67_method_7_code 1 (.aload_n 1) 1 2 := ⟨by decide +kernel, rfl⟩
theorem d_sap_2 : Own.D jdk_67_method_7_code 2 (.invokespecial 29) 3 5 := ⟨by decide +kernel, rfl⟩
theorem d_sap_5 : Own.D jdk_67_method_7_code 5 .pop 1 6 := ⟨by decide +kernel, rfl⟩
theorem d_sap_6 : Own.D jdk_67_method_7_code 6 (.aload_n 0) 1 7 := ⟨by decide +kernel, rfl⟩
theorem d_sap_7 : Own.D jdk_67_method_7_code 7 .areturn 1 8 := ⟨by decide +kernel, rfl⟩
theorem d_getv_0 : Own.D jdk_68_method_64_code 0 (.aload_n 0) 1 1 := ⟨by decide +kernel, rfl⟩
theorem d_getv_1 : Own.D jdk_68_method_64_code 1 (.getfield 15) 3 4 := ⟨by decide +kernel, rfl⟩
theorem d_getv_4 : Own.D jdk_68_method_64_code 4 .areturn 1 5 := ⟨by decide +kernel, rfl⟩
theorem d_alen_0 : Own.D jdk_68_method_6_code 0 (.aload_n 0) 1 1 := ⟨by decide +kernel, rfl⟩
theorem d_alen_1 : Own.D jdk_68_method_6_code 1 (.getfield 79) 3 4 := ⟨by decide +kernel, rfl⟩
theorem d_alen_4 : Own.D jdk_68_method_6_code 4 .ireturn 1 5 := ⟨by decide +kernel, rfl⟩
theorem d_blen_0 : Own.D jdk_67_method_93_code 0 (.aload_n 0) 1 1 := ⟨by decide +kernel, rfl⟩
theorem d_blen_1 : Own.D jdk_67_method_93_code 1 (.invokespecial 343) 3 4 := ⟨by decide +kernel, rfl⟩
theorem d_blen_4 : Own.D jdk_67_method_93_code 4 .ireturn 1 5 := ⟨by decide +kernel, rfl⟩
theorem d_alat_0 : Own.D jdk_68_method_68_code 0 (.getstatic 18) 3 3 := ⟨by decide +kernel, rfl⟩
theorem d_alat_3 : Own.J jdk_68_method_68_code 3 (.ifCond .eq 14) 3 6 14 17 := ⟨by decide +kernel, rfl, by decide, by decide⟩
theorem d_alat_6 : Own.D jdk_68_method_68_code 6 (.aload_n 0) 1 7 := ⟨by decide +kernel, rfl⟩
theorem d_alat_7 : Own.D jdk_68_method_68_code 7 (.getfield 22) 3 10 := ⟨by decide +kernel, rfl⟩
theorem d_alat_10 : Own.J jdk_68_method_68_code 10 (.ifCond .ne 7) 3 13 7 17 := ⟨by decide +kernel, rfl, by decide, by decide⟩
theorem d_alat_13 : Own.D jdk_68_method_68_code 13 (.iconst 1) 1 14 := ⟨by decide +kernel, rfl⟩
theorem d_alat_14 : Own.J jdk_68_method_68_code 14 (.goto 4) 3 17 4 18 := ⟨by decide +kernel, rfl, by decide, by decide⟩
theorem d_alat_18 : Own.D jdk_68_method_68_code 18 .ireturn 1 19 := ⟨by decide +kernel, rfl⟩
theorem d_mmin_0 : Own.D jdk_29_method_69_code 0 (.iload_n 0) 1 1 := ⟨by decide +kernel, rfl⟩
theorem d_mmin_1 : Own.D jdk_29_method_69_code 1 (.iload_n 1) 1 2 := ⟨by decide +kernel, rfl⟩
theorem d_mmin_2 : Own.J jdk_29_method_69_code 2 (.if_icmp .gt 7) 3 5 7 9 := ⟨by decide +kernel, rfl, by decide, by decide⟩
theorem d_mmin_9 : Own.D jdk_29_method_69_code 9 (.iload_n 1) 1 10 := ⟨by decide +kernel, rfl⟩
theorem d_mmin_10 : Own.D jdk_29_method_69_code 10 .ireturn 1 11 := ⟨by decide +kernel, rfl⟩
theorem d_ckl_0 : Own.D jdk_65_method_131_code 0 (.iload_n 1) 1 1 := ⟨by decide +kernel, rfl⟩
theorem d_ckl_1 : Own.D jdk_65_method_131_code 1 (.iload_n 0) 1 2 := ⟨by decide +kernel, rfl⟩
theorem d_ckl_2 : Own.J jdk_65_method_131_code 2 (.if_icmp .ge 35) 3 5 35 37 := ⟨by decide +kernel, rfl, by decide, by decide⟩
theorem d_ckl_37 : Own.D jdk_65_method_131_code 37 .return_ 1 38 := ⟨by decide +kernel, rfl⟩
theorem d_cprb_0 : Own.D jdk_65_method_133_code 0 (.iload_n 1) 1 1 := ⟨by decide +kernel, rfl⟩
theorem d_cprb_1 : Own.D jdk_65_method_133_code 1 (.iload_n 2) 1 2 := ⟨by decide +kernel, rfl⟩
theorem d_cprb_2 : Own.D jdk_65_method_133_code 2 (.invokestatic 343) 3 5 := ⟨by decide +kernel, rfl⟩
theorem d_cprb_5 : Own.D jdk_65_method_133_code 5 (.iload_n 2) 1 6 := ⟨by decide +kernel, rfl⟩
theorem d_cprb_6 : Own.D jdk_65_method_133_code 6 (.iload_n 1) 1 7 := ⟨by decide +kernel, rfl⟩
theorem d_cprb_7 : Own.D jdk_65_method_133_code 7 .isub 1 8 := ⟨by decide +kernel, rfl⟩
theorem d_cprb_8 : Own.D jdk_65_method_133_code 8 (.istore_n 3) 1 9 := ⟨by decide +kernel, rfl⟩
theorem d_cprb_9 : Own.D jdk_65_method_133_code 9 (.iload_n 3) 1 10 := ⟨by decide +kernel, rfl⟩
theorem d_cprb_10 : Own.D jdk_65_method_133_code 10 (.newarray .byte) 2 12 := ⟨by decide +kernel, rfl⟩
theorem d_cprb_12 : Own.D jdk_65_method_133_code 12 (.astore 4) 2 14 := ⟨by decide +kernel, rfl⟩
theorem d_cprb_14 : Own.D jdk_65_method_133_code 14 (.aload_n 0) 1 15 := ⟨by decide +kernel, rfl⟩
theorem d_cprb_15 : Own.D jdk_65_method_133_code 15 (.iload_n 1) 1 16 := ⟨by decide +kernel, rfl⟩
theorem d_cprb_16 : Own.D jdk_65_method_133_code 16 (.aload 4) 2 18 := ⟨by decide +kernel, rfl⟩
theorem d_cprb_18 : Own.D jdk_65_method_133_code 18 (.iconst 0) 1 19 := ⟨by decide +kernel, rfl⟩
theorem d_cprb_19 : Own.D jdk_65_method_133_code 19 (.aload_n 0) 1 20 := ⟨by decide +kernel, rfl⟩
theorem d_cprb_20 : Own.D jdk_65_method_133_code 20 .arraylength 1 21 := ⟨by decide +kernel, rfl⟩
theorem d_cprb_21 : Own.D jdk_65_method_133_code 21 (.iload_n 1) 1 22 := ⟨by decide +kernel, rfl⟩
theorem d_cprb_22 : Own.D jdk_65_method_133_code 22 .isub 1 23 := ⟨by decide +kernel, rfl⟩
theorem d_cprb_23 : Own.D jdk_65_method_133_code 23 (.iload_n 3) 1 24 := ⟨by decide +kernel, rfl⟩
theorem d_cprb_24 : Own.D jdk_65_method_133_code 24 (.invokestatic 304) 3 27 := ⟨by decide +kernel, rfl⟩
theorem d_cprb_27 : Own.D jdk_65_method_133_code 27 (.invokestatic 150) 3 30 := ⟨by decide +kernel, rfl⟩
theorem d_cprb_30 : Own.D jdk_65_method_133_code 30 (.aload 4) 2 32 := ⟨by decide +kernel, rfl⟩
theorem d_cprb_32 : Own.D jdk_65_method_133_code 32 .areturn 1 33 := ⟨by decide +kernel, rfl⟩
theorem d_cpr_0 : Own.D jdk_65_method_132_code 0 (.iload_n 1) 1 1 := ⟨by decide +kernel, rfl⟩
theorem d_cpr_1 : Own.J jdk_65_method_132_code 1 (.ifCond .ne 9) 3 4 9 10 := ⟨by decide +kernel, rfl, by decide, by decide⟩
theorem d_cpr_4 : Own.D jdk_65_method_132_code 4 (.iload_n 2) 1 5 := ⟨by decide +kernel, rfl⟩
theorem d_cpr_5 : Own.D jdk_65_method_132_code 5 (.aload_n 0) 1 6 := ⟨by decide +kernel, rfl⟩
theorem d_cpr_6 : Own.D jdk_65_method_132_code 6 .arraylength 1 7 := ⟨by decide +kernel, rfl⟩
theorem d_cpr_7 : Own.J jdk_65_method_132_code 7 (.if_icmp .eq 10) 3 10 10 17 := ⟨by decide +kernel, rfl, by decide, by decide⟩
theorem d_cpr_10 : Own.D jdk_65_method_132_code 10 (.aload_n 0) 1 11 := ⟨by decide +kernel, rfl⟩
theorem d_cpr_11 : Own.D jdk_65_method_132_code 11 (.iload_n 1) 1 12 := ⟨by decide +kernel, rfl⟩
theorem d_cpr_12 : Own.D jdk_65_method_132_code 12 (.iload_n 2) 1 13 := ⟨by decide +kernel, rfl⟩
theorem d_cpr_13 : Own.D jdk_65_method_132_code 13 (.invokestatic 339) 3 16 := ⟨by decide +kernel, rfl⟩
theorem d_cpr_16 : Own.D jdk_65_method_132_code 16 .areturn 1 17 := ⟨by decide +kernel, rfl⟩
theorem d_inia_0 : Own.D jdk_42_method_150_code 0 (.aload_n 0) 1 1 := ⟨by decide +kernel, rfl⟩
theorem d_inia_1 : Own.D jdk_42_method_150_code 1 (.invokespecial 1) 3 4 := ⟨by decide +kernel, rfl⟩
theorem d_inia_4 : Own.D jdk_42_method_150_code 4 (.aload_n 1) 1 5 := ⟨by decide +kernel, rfl⟩
theorem d_inia_5 : Own.D jdk_42_method_150_code 5 (.invokevirtual 552) 3 8 := ⟨by decide +kernel, rfl⟩
theorem d_inia_8 : Own.D jdk_42_method_150_code 8 (.astore_n 3) 1 9 := ⟨by decide +kernel, rfl⟩
theorem d_inia_9 : Own.D jdk_42_method_150_code 9 (.aload_n 1) 1 10 := ⟨by decide +kernel, rfl⟩
theorem d_inia_10 : Own.D jdk_42_method_150_code 10 (.invokevirtual 549) 3 13 := ⟨by decide +kernel, rfl⟩
theorem d_inia_13 : Own.D jdk_42_method_150_code 13 (.istore 4) 2 15 := ⟨by decide +kernel, rfl⟩
theorem d_inia_15 : Own.D jdk_42_method_150_code 15 (.aload_n 1) 1 16 := ⟨by decide +kernel, rfl⟩
theorem d_inia_16 : Own.D jdk_42_method_150_code 16 (.invokevirtual 1047) 3 19 := ⟨by decide +kernel, rfl⟩
theorem d_inia_19 : Own.J jdk_42_method_150_code 19 (.ifCond .eq 22) 3 22 22 41 := ⟨by decide +kernel, rfl, by decide, by decide⟩
theorem d_inia_22 : Own.D jdk_42_method_150_code 22 (.aload_n 0) 1 23 := ⟨by decide +kernel, rfl⟩
theorem d_inia_23 : Own.D jdk_42_method_150_code 23 (.iconst 0) 1 24 := ⟨by decide +kernel, rfl⟩
theorem d_inia_24 : Own.D jdk_42_method_150_code 24 (.putfield 15) 3 27 := ⟨by decide +kernel, rfl⟩
theorem d_inia_27 : Own.D jdk_42_method_150_code 27 (.aload_n 0) 1 28 := ⟨by decide +kernel, rfl⟩
theorem d_inia_28 : Own.D jdk_42_method_150_code 28 (.aload_n 3) 1 29 := ⟨by decide +kernel, rfl⟩
theorem d_inia_29 : Own.D jdk_42_method_150_code 29 (.iconst 0) 1 30 := ⟨by decide +kernel, rfl⟩
theorem d_inia_30 : Own.D jdk_42_method_150_code 30 (.iload 4) 2 32 := ⟨by decide +kernel, rfl⟩
theorem d_inia_32 : Own.D jdk_42_method_150_code 32 (.invokestatic 54) 3 35 := ⟨by decide +kernel, rfl⟩
theorem d_inia_35 : Own.D jdk_42_method_150_code 35 (.putfield 9) 3 38 := ⟨by decide +kernel, rfl⟩
theorem d_inia_38 : Own.J jdk_42_method_150_code 38 (.goto 59) 3 41 59 97 := ⟨by decide +kernel, rfl, by decide, by decide⟩
theorem d_inia_97 : Own.D jdk_42_method_150_code 97 .return_ 1 98 := ⟨by decide +kernel, rfl⟩
theorem d_inib_0 : Own.D jdk_42_method_53_code 0 (.aload_n 0) 1 1 := ⟨by decide +kernel, rfl⟩
theorem d_inib_1 : Own.D jdk_42_method_53_code 1 (.aload_n 1) 1 2 := ⟨by decide +kernel, rfl⟩
theorem d_inib_2 : Own.D jdk_42_method_53_code 2 .aconst_null 1 3 := ⟨by decide +kernel, rfl⟩
theorem d_inib_3 : Own.D jdk_42_method_53_code 3 (.invokespecial 489) 3 6 := ⟨by decide +kernel, rfl⟩
theorem d_inib_6 : Own.D jdk_42_method_53_code 6 .return_ 1 7 := ⟨by decide +kernel, rfl⟩
theorem d_tos_0 : Own.D jdk_67_method_42_code 0 (.new 18) 3 3 := ⟨by decide +kernel, rfl⟩
theorem d_tos_3 : Own.D jdk_67_method_42_code 3 .dup 1 4 := ⟨by decide +kernel, rfl⟩
theorem d_tos_4 : Own.D jdk_67_method_42_code 4 (.aload_n 0) 1 5 := ⟨by decide +kernel, rfl⟩
theorem d_tos_5 : Own.D jdk_67_method_42_code 5 (.invokespecial 137) 3 8 := ⟨by decide +kernel, rfl⟩
theorem d_tos_8 : Own.D jdk_67_method_42_code 8 .areturn 1 9 := ⟨by decide +kernel, rfl⟩
theorem d_pchk_0 : Own.D jdk_41_method_11_code 0 (.iload_n 0) 1 1 := ⟨by decide +kernel, rfl⟩
theorem d_pchk_1 : Own.J jdk_41_method_11_code 1 (.ifCond .lt 8) 3 4 8 9 := ⟨by decide +kernel, rfl, by decide, by decide⟩
theorem d_pchk_4 : Own.D jdk_41_method_11_code 4 (.iload_n 0) 1 5 := ⟨by decide +kernel, rfl⟩
theorem d_pchk_5 : Own.D jdk_41_method_11_code 5 (.iload_n 1) 1 6 := ⟨by decide +kernel, rfl⟩
theorem d_pchk_6 : Own.J jdk_41_method_11_code 6 (.if_icmp .lt 10) 3 9 10 16 := ⟨by decide +kernel, rfl, by decide, by decide⟩
theorem d_pchk_16 : Own.D jdk_41_method_11_code 16 (.iload_n 0) 1 17 := ⟨by decide +kernel, rfl⟩
theorem d_pchk_17 : Own.D jdk_41_method_11_code 17 .ireturn 1 18 := ⟨by decide +kernel, rfl⟩
theorem d_schk_0 : Own.D jdk_42_method_155_code 0 (.iload_n 0) 1 1 := ⟨by decide +kernel, rfl⟩
theorem d_schk_1 : Own.D jdk_42_method_155_code 1 (.iload_n 1) 1 2 := ⟨by decide +kernel, rfl⟩
theorem d_schk_2 : Own.D jdk_42_method_155_code 2 (.getstatic 1053) 3 5 := ⟨by decide +kernel, rfl⟩
theorem d_schk_5 : Own.D jdk_42_method_155_code 5 (.invokestatic 1059) 3 8 := ⟨by decide +kernel, rfl⟩
theorem d_schk_8 : Own.D jdk_42_method_155_code 8 .pop 1 9 := ⟨by decide +kernel, rfl⟩
theorem d_schk_9 : Own.D jdk_42_method_155_code 9 .return_ 1 10 := ⟨by decide +kernel, rfl⟩
theorem d_lca_0 : Own.D jdk_43_method_2_code 0 (.iload_n 1) 1 1 := ⟨by decide +kernel, rfl⟩
theorem d_lca_1 : Own.D jdk_43_method_2_code 1 (.aload_n 0) 1 2 := ⟨by decide +kernel, rfl⟩
theorem d_lca_2 : Own.D jdk_43_method_2_code 2 .arraylength 1 3 := ⟨by decide +kernel, rfl⟩
theorem d_lca_3 : Own.D jdk_43_method_2_code 3 (.invokestatic 9) 3 6 := ⟨by decide +kernel, rfl⟩
theorem d_lca_6 : Own.D jdk_43_method_2_code 6 (.aload_n 0) 1 7 := ⟨by decide +kernel, rfl⟩
theorem d_lca_7 : Own.D jdk_43_method_2_code 7 (.iload_n 1) 1 8 := ⟨by decide +kernel, rfl⟩
theorem d_lca_8 : Own.D jdk_43_method_2_code 8 .baload 1 9 := ⟨by decide +kernel, rfl⟩
theorem d_lca_9 : Own.D jdk_43_method_2_code 9 (.sipush 255) 3 12 := ⟨by decide +kernel, rfl⟩
theorem d_lca_12 : Own.D jdk_43_method_2_code 12 .iand 1 13 := ⟨by decide +kernel, rfl⟩
theorem d_lca_13 : Own.D jdk_43_method_2_code 13 .i2c 1 14 := ⟨by decide +kernel, rfl⟩
theorem d_lca_14 : Own.D jdk_43_method_2_code 14 .ireturn 1 15 := ⟨by decide +kernel, rfl⟩
theorem d_sca_0 : Own.D jdk_42_method_56_code 0 (.aload_n 0) 1 1 := ⟨by decide +kernel, rfl⟩
theorem d_sca_1 : Own.D jdk_42_method_56_code 1 (.invokevirtual 492) 3 4 := ⟨by decide +kernel, rfl⟩
theorem d_sca_4 : Own.J jdk_42_method_56_code 4 (.ifCond .eq 12) 3 7 12 16 := ⟨by decide +kernel, rfl, by decide, by decide⟩
theorem d_sca_7 : Own.D jdk_42_method_56_code 7 (.aload_n 0) 1 8 := ⟨by decide +kernel, rfl⟩
theorem d_sca_8 : Own.D jdk_42_method_56_code 8 (.getfield 9) 3 11 := ⟨by decide +kernel, rfl⟩
theorem d_sca_11 : Own.D jdk_42_method_56_code 11 (.iload_n 1) 1 12 := ⟨by decide +kernel, rfl⟩
theorem d_sca_12 : Own.D jdk_42_method_56_code 12 (.invokestatic 495) 3 15 := ⟨by decide +kernel, rfl⟩
theorem d_sca_15 : Own.D jdk_42_method_56_code 15 .ireturn 1 16 := ⟨by decide +kernel, rfl⟩
theorem d_cdl_0 : Own.D jdk_116_method_20_code 0 (.iload_n 1) 1 1 := ⟨by decide +kernel, rfl⟩
theorem d_cdl_1 : Own.D jdk_116_method_20_code 1 (.bipush 65) 2 3 := ⟨by decide +kernel, rfl⟩
theorem d_cdl_3 : Own.J jdk_116_method_20_code 3 (.if_icmp .ge 5) 3 6 5 8 := ⟨by decide +kernel, rfl, by decide, by decide⟩
theorem d_cdl_8 : Own.D jdk_116_method_20_code 8 (.iload_n 1) 1 9 := ⟨by decide +kernel, rfl⟩
theorem d_cdl_9 : Own.D jdk_116_method_20_code 9 (.bipush 32) 2 11 := ⟨by decide +kernel, rfl⟩
theorem d_cdl_11 : Own.D jdk_116_method_20_code 11 .ior 1 12 := ⟨by decide +kernel, rfl⟩
theorem d_cdl_12 : Own.D jdk_116_method_20_code 12 (.istore_n 2) 1 13 := ⟨by decide +kernel, rfl⟩
theorem d_cdl_13 : Own.D jdk_116_method_20_code 13 (.iload_n 2) 1 14 := ⟨by decide +kernel, rfl⟩
theorem d_cdl_14 : Own.D jdk_116_method_20_code 14 (.bipush 122) 2 16 := ⟨by decide +kernel, rfl⟩
theorem d_cdl_16 : Own.J jdk_116_method_20_code 16 (.if_icmp .le 24) 3 19 24 40 := ⟨by decide +kernel, rfl, by decide, by decide⟩
theorem d_cdl_40 : Own.D jdk_116_method_20_code 40 (.iload_n 2) 1 41 := ⟨by decide +kernel, rfl⟩
theorem d_cdl_41 : Own.D jdk_116_method_20_code 41 .ireturn 1 42 := ⟨by decide +kernel, rfl⟩
theorem d_cdl_19 : Own.D jdk_116_method_20_code 19 (.iload_n 2) 1 20 := ⟨by decide +kernel, rfl⟩
theorem d_cdl_20 : Own.D jdk_116_method_20_code 20 (.sipush 224) 3 23 := ⟨by decide +kernel, rfl⟩
theorem d_cdl_23 : Own.J jdk_116_method_20_code 23 (.if_icmp .lt 19) 3 26 19 42 := ⟨by decide +kernel, rfl, by decide, by decide⟩
theorem d_cdl_42 : Own.D jdk_116_method_20_code 42 (.iload_n 1) 1 43 := ⟨by decide +kernel, rfl⟩
theorem d_cdl_43 : Own.D jdk_116_method_20_code 43 .ireturn 1 44 := ⟨by decide +kernel, rfl⟩
theorem d_cdl_26 : Own.D jdk_116_method_20_code 26 (.iload_n 2) 1 27 := ⟨by decide +kernel, rfl⟩
theorem d_cdl_27 : Own.D jdk_116_method_20_code 27 (.sipush 254) 3 30 := ⟨by decide +kernel, rfl⟩
theorem d_cdl_30 : Own.J jdk_116_method_20_code 30 (.if_icmp .gt 12) 3 33 12 42 := ⟨by decide +kernel, rfl, by decide, by decide⟩
theorem d_cdl_33 : Own.D jdk_116_method_20_code 33 (.iload_n 2) 1 34 := ⟨by decide +kernel, rfl⟩
theorem d_cdl_34 : Own.D jdk_116_method_20_code 34 (.sipush 247) 3 37 := ⟨by decide +kernel, rfl⟩
theorem d_cdl_37 : Own.J jdk_116_method_20_code 37 (.if_icmp .eq 5) 3 40 5 42 := ⟨by decide +kernel, rfl, by decide, by decide⟩
theorem d_cdl_6 : Own.D jdk_116_method_20_code 6 (.iload_n 1) 1 7 := ⟨by decide +kernel, rfl⟩
theorem d_cdl_7 : Own.D jdk_116_method_20_code 7 .ireturn 1 8 := ⟨by decide +kernel, rfl⟩
theorem d_blan_0 : Own.D jdk_3003_method_5_code 0 (.aload_n 0) 1 1 := ⟨by decide +kernel, rfl⟩
theorem d_blan_1 : Own.D jdk_3003_method_5_code 1 (.getfield 19) 3 4 := ⟨by decide +kernel, rfl⟩
theorem d_blan_4 : Own.D jdk_3003_method_5_code 4 .areturn 1 5 := ⟨by decide +kernel, rfl⟩
theorem d_llan_0 : Own.D jdk_2628_method_27_code 0 (.aload_n 0) 1 1 := ⟨by decide +kernel, rfl⟩
theorem d_llan_1 : Own.D jdk_2628_method_27_code 1 (.getfield 28) 3 4 := ⟨by decide +kernel, rfl⟩
theorem d_llan_4 : Own.D jdk_2628_method_27_code 4 (.invokevirtual 293) 3 7 := ⟨by decide +kernel, rfl⟩
theorem d_llan_7 : Own.D jdk_2628_method_27_code 7 .areturn 1 8 := ⟨by decide +kernel, rfl⟩
theorem d_cenc_0 : Own.D jdk_43_method_4_code 0 (.iload_n 0) 1 1 := ⟨by decide +kernel, rfl⟩
theorem d_cenc_1 : Own.J jdk_43_method_4_code 1 (.ifCond .lt 14) 3 4 14 15 := ⟨by decide +kernel, rfl, by decide, by decide⟩
theorem d_cenc_4 : Own.D jdk_43_method_4_code 4 (.iload_n 0) 1 5 := ⟨by decide +kernel, rfl⟩
theorem d_cenc_5 : Own.D jdk_43_method_4_code 5 (.sipush 255) 3 8 := ⟨by decide +kernel, rfl⟩
theorem d_cenc_8 : Own.J jdk_43_method_4_code 8 (.if_icmp .gt 7) 3 11 7 15 := ⟨by decide +kernel, rfl, by decide, by decide⟩
theorem d_cenc_11 : Own.D jdk_43_method_4_code 11 (.iconst 1) 1 12 := ⟨by decide +kernel, rfl⟩
theorem d_cenc_12 : Own.J jdk_43_method_4_code 12 (.goto 4) 3 15 4 16 := ⟨by decide +kernel, rfl, by decide, by decide⟩
theorem d_cenc_16 : Own.D jdk_43_method_4_code 16 .ireturn 1 17 := ⟨by decide +kernel, rfl⟩
theorem d_inibb_0 : Own.D jdk_42_method_151_code 0 (.aload_n 0) 1 1 := ⟨by decide +kernel, rfl⟩
theorem d_inibb_1 : Own.D jdk_42_method_151_code 1 (.invokespecial 1) 3 4 := ⟨by decide +kernel, rfl⟩
theorem d_inibb_4 : Own.D jdk_42_method_151_code 4 (.aload_n 0) 1 5 := ⟨by decide +kernel, rfl⟩
theorem d_inibb_5 : Own.D jdk_42_method_151_code 5 (.aload_n 1) 1 6 := ⟨by decide +kernel, rfl⟩
theorem d_inibb_6 : Own.D jdk_42_method_151_code 6 (.putfield 9) 3 9 := ⟨by decide +kernel, rfl⟩
theorem d_inibb_9 : Own.D jdk_42_method_151_code 9 (.aload_n 0) 1 10 := ⟨by decide +kernel, rfl⟩
theorem d_inibb_10 : Own.D jdk_42_method_151_code 10 (.iload_n 2) 1 11 := ⟨by decide +kernel, rfl⟩
theorem d_inibb_11 : Own.D jdk_42_method_151_code 11 (.putfield 15) 3 14 := ⟨by decide +kernel, rfl⟩
theorem d_inibb_14 : Own.D jdk_42_method_151_code 14 .return_ 1 15 := ⟨by decide +kernel, rfl⟩
theorem d_tl_117 : Own.D jdk_43_method_32_code 117 (.iload 7) 2 119 := ⟨by decide +kernel, rfl⟩
theorem d_tl_119 : Own.D jdk_43_method_32_code 119 (.iload 4) 2 121 := ⟨by decide +kernel, rfl⟩
theorem d_tl_121 : Own.J jdk_43_method_32_code 121 (.if_icmp .ge 54) 3 124 54 175 := ⟨by decide +kernel, rfl, by decide, by decide⟩
theorem d_tl_175 : Own.D jdk_43_method_32_code 175 (.new 1) 3 178 := ⟨by decide +kernel, rfl⟩
theorem d_tl_178 : Own.D jdk_43_method_32_code 178 .dup 1 179 := ⟨by decide +kernel, rfl⟩
theorem d_tl_179 : Own.D jdk_43_method_32_code 179 (.aload 6) 2 181 := ⟨by decide +kernel, rfl⟩
theorem d_tl_181 : Own.D jdk_43_method_32_code 181 (.iconst 0) 1 182 := ⟨by decide +kernel, rfl⟩
theorem d_tl_182 : Own.D jdk_43_method_32_code 182 (.invokespecial 112) 3 185 := ⟨by decide +kernel, rfl⟩
theorem d_tl_185 : Own.D jdk_43_method_32_code 185 .areturn 1 186 := ⟨by decide +kernel, rfl⟩
theorem d_tl_124 : Own.D jdk_43_method_32_code 124 (.aload_n 1) 1 125 := ⟨by decide +kernel, rfl⟩
theorem d_tl_125 : Own.D jdk_43_method_32_code 125 (.iload 7) 2 127 := ⟨by decide +kernel, rfl⟩
theorem d_tl_127 : Own.D jdk_43_method_32_code 127 .baload 1 128 := ⟨by decide +kernel, rfl⟩
theorem d_tl_128 : Own.D jdk_43_method_32_code 128 (.sipush 255) 3 131 := ⟨by decide +kernel, rfl⟩
theorem d_tl_131 : Own.D jdk_43_method_32_code 131 .iand 1 132 := ⟨by decide +kernel, rfl⟩
theorem d_tl_132 : Own.D jdk_43_method_32_code 132 (.istore 8) 2 134 := ⟨by decide +kernel, rfl⟩
theorem d_tl_134 : Own.D jdk_43_method_32_code 134 (.getstatic 66) 3 137 := ⟨by decide +kernel, rfl⟩
theorem d_tl_137 : Own.D jdk_43_method_32_code 137 (.iload 8) 2 139 := ⟨by decide +kernel, rfl⟩
theorem d_tl_139 : Own.D jdk_43_method_32_code 139 (.invokevirtual 160) 3 142 := ⟨by decide +kernel, rfl⟩
theorem d_tl_142 : Own.D jdk_43_method_32_code 142 (.istore 8) 2 144 := ⟨by decide +kernel, rfl⟩
theorem d_tl_144 : Own.D jdk_43_method_32_code 144 (.iload 8) 2 146 := ⟨by decide +kernel, rfl⟩
theorem d_tl_146 : Own.D jdk_43_method_32_code 146 (.invokestatic 88) 3 149 := ⟨by decide +kernel, rfl⟩
theorem d_tl_149 : Own.J jdk_43_method_32_code 149 (.ifCond .ne 12) 3 152 12 161 := ⟨by decide +kernel, rfl, by decide, by decide⟩
theorem d_tl_161 : Own.D jdk_43_method_32_code 161 (.aload 6) 2 163 := ⟨by decide +kernel, rfl⟩
theorem d_tl_163 : Own.D jdk_43_method_32_code 163 (.iload 7) 2 165 := ⟨by decide +kernel, rfl⟩
theorem d_tl_165 : Own.D jdk_43_method_32_code 165 (.iload 8) 2 167 := ⟨by decide +kernel, rfl⟩
theorem d_tl_167 : Own.D jdk_43_method_32_code 167 .i2b 1 168 := ⟨by decide +kernel, rfl⟩
theorem d_tl_168 : Own.D jdk_43_method_32_code 168 .bastore 1 169 := ⟨by decide +kernel, rfl⟩
theorem d_tl_169 : Own.D jdk_43_method_32_code 169 (.iinc 7 1) 3 172 := ⟨by decide +kernel, rfl⟩
theorem d_tl_172 : Own.J jdk_43_method_32_code 172 (.goto (-55)) 3 175 (-55) 117 := ⟨by decide +kernel, rfl, by decide, by decide⟩
theorem d_tl_63 : Own.D jdk_43_method_32_code 63 (.aload_n 2) 1 64 := ⟨by decide +kernel, rfl⟩
theorem d_tl_64 : Own.D jdk_43_method_32_code 64 (.invokevirtual 162) 3 67 := ⟨by decide +kernel, rfl⟩
theorem d_tl_67 : Own.D jdk_43_method_32_code 67 (.astore 5) 2 69 := ⟨by decide +kernel, rfl⟩
theorem d_tl_69 : Own.D jdk_43_method_32_code 69 (.aload 5) 2 71 := ⟨by decide +kernel, rfl⟩
theorem d_tl_71 : Own.D jdk_43_method_32_code 71 (.ldc 168) 2 73 := ⟨by decide +kernel, rfl⟩
theorem d_tl_73 : Own.J jdk_43_method_32_code 73 (.if_acmp .eq 17) 3 76 17 90 := ⟨by decide +kernel, rfl, by decide, by decide⟩
theorem d_tl_76 : Own.D jdk_43_method_32_code 76 (.aload 5) 2 78 := ⟨by decide +kernel, rfl⟩
theorem d_tl_78 : Own.D jdk_43_method_32_code 78 (.ldc 170) 2 80 := ⟨by decide +kernel, rfl⟩
theorem d_tl_80 : Own.J jdk_43_method_32_code 80 (.if_acmp .eq 10) 3 83 10 90 := ⟨by decide +kernel, rfl, by decide, by decide⟩
theorem d_tl_83 : Own.D jdk_43_method_32_code 83 (.aload 5) 2 85 := ⟨by decide +kernel, rfl⟩
theorem d_tl_85 : Own.D jdk_43_method_32_code 85 (.ldc 172) 2 87 := ⟨by decide +kernel, rfl⟩
theorem d_tl_87 : Own.J jdk_43_method_32_code 87 (.if_acmp .ne 12) 3 90 12 99 := ⟨by decide +kernel, rfl, by decide, by decide⟩
theorem d_tl_99 : Own.D jdk_43_method_32_code 99 (.iload 4) 2 101 := ⟨by decide +kernel, rfl⟩
theorem d_tl_101 : Own.D jdk_43_method_32_code 101 (.newarray .byte) 2 103 := ⟨by decide +kernel, rfl⟩
theorem d_tl_103 : Own.D jdk_43_method_32_code 103 (.astore 6) 2 105 := ⟨by decide +kernel, rfl⟩
theorem d_tl_105 : Own.D jdk_43_method_32_code 105 (.aload_n 1) 1 106 := ⟨by decide +kernel, rfl⟩
theorem d_tl_106 : Own.D jdk_43_method_32_code 106 (.iconst 0) 1 107 := ⟨by decide +kernel, rfl⟩
theorem d_tl_107 : Own.D jdk_43_method_32_code 107 (.aload 6) 2 109 := ⟨by decide +kernel, rfl⟩
theorem d_tl_109 : Own.D jdk_43_method_32_code 109 (.iconst 0) 1 110 := ⟨by decide +kernel, rfl⟩
theorem d_tl_110 : Own.D jdk_43_method_32_code 110 (.iload_n 3) 1 111 := ⟨by decide +kernel, rfl⟩
theorem d_tl_111 : Own.D jdk_43_method_32_code 111 (.invokestatic 28) 3 114 := ⟨by decide +kernel, rfl⟩
theorem d_tl_114 : Own.D jdk_43_method_32_code 114 (.iload_n 3) 1 115 := ⟨by decide +kernel, rfl⟩
theorem d_tl_115 : Own.D jdk_43_method_32_code 115 (.istore 7) 2 117 := ⟨by decide +kernel, rfl⟩
theorem d_tl_18 : Own.D jdk_43_method_32_code 18 (.iload_n 3) 1 19 := ⟨by decide +kernel, rfl⟩
theorem d_tl_19 : Own.D jdk_43_method_32_code 19 (.iload 4) 2 21 := ⟨by decide +kernel, rfl⟩
theorem d_tl_21 : Own.J jdk_43_method_32_code 21 (.if_icmp .ge 34) 3 24 34 55 := ⟨by decide +kernel, rfl, by decide, by decide⟩
theorem d_tl_55 : Own.D jdk_43_method_32_code 55 (.iload_n 3) 1 56 := ⟨by decide +kernel, rfl⟩
theorem d_tl_56 : Own.D jdk_43_method_32_code 56 (.iload 4) 2 58 := ⟨by decide +kernel, rfl⟩
theorem d_tl_58 : Own.J jdk_43_method_32_code 58 (.if_icmp .ne 5) 3 61 5 63 := ⟨by decide +kernel, rfl, by decide, by decide⟩
theorem d_tl_61 : Own.D jdk_43_method_32_code 61 (.aload_n 0) 1 62 := ⟨by decide +kernel, rfl⟩
theorem d_tl_62 : Own.D jdk_43_method_32_code 62 .areturn 1 63 := ⟨by decide +kernel, rfl⟩
theorem d_tl_24 : Own.D jdk_43_method_32_code 24 (.aload_n 1) 1 25 := ⟨by decide +kernel, rfl⟩
theorem d_tl_25 : Own.D jdk_43_method_32_code 25 (.iload_n 3) 1 26 := ⟨by decide +kernel, rfl⟩
theorem d_tl_26 : Own.D jdk_43_method_32_code 26 .baload 1 27 := ⟨by decide +kernel, rfl⟩
theorem d_tl_27 : Own.D jdk_43_method_32_code 27 (.sipush 255) 3 30 := ⟨by decide +kernel, rfl⟩
theorem d_tl_30 : Own.D jdk_43_method_32_code 30 .iand 1 31 := ⟨by decide +kernel, rfl⟩
theorem d_tl_31 : Own.D jdk_43_method_32_code 31 (.istore 5) 2 33 := ⟨by decide +kernel, rfl⟩
theorem d_tl_33 : Own.D jdk_43_method_32_code 33 (.iload 5) 2 35 := ⟨by decide +kernel, rfl⟩
theorem d_tl_35 : Own.D jdk_43_method_32_code 35 (.getstatic 66) 3 38 := ⟨by decide +kernel, rfl⟩
theorem d_tl_38 : Own.D jdk_43_method_32_code 38 (.iload 5) 2 40 := ⟨by decide +kernel, rfl⟩
theorem d_tl_40 : Own.D jdk_43_method_32_code 40 (.invokevirtual 160) 3 43 := ⟨by decide +kernel, rfl⟩
theorem d_tl_43 : Own.J jdk_43_method_32_code 43 (.if_icmp .eq 6) 3 46 6 49 := ⟨by decide +kernel, rfl, by decide, by decide⟩
theorem d_tl_49 : Own.D jdk_43_method_32_code 49 (.iinc 3 1) 3 52 := ⟨by decide +kernel, rfl⟩
theorem d_tl_52 : Own.J jdk_43_method_32_code 52 (.goto (-34)) 3 55 (-34) 18 := ⟨by decide +kernel, rfl, by decide, by decide⟩
theorem d_tl_46 : Own.J jdk_43_method_32_code 46 (.goto 9) 3 49 9 55 := ⟨by decide +kernel, rfl, by decide, by decide⟩
theorem d_tl_0 : Own.D jdk_43_method_32_code 0 (.aload_n 2) 1 1 := ⟨by decide +kernel, rfl⟩
theorem d_tl_1 : Own.J jdk_43_method_32_code 1 (.ifnonnull 11) 3 4 11 12 := ⟨by decide +kernel, rfl, by decide, by decide⟩
theorem d_tl_12 : Own.D jdk_43_method_32_code 12 (.aload_n 1) 1 13 := ⟨by decide +kernel, rfl⟩
theorem d_tl_13 : Own.D jdk_43_method_32_code 13 .arraylength 1 14 := ⟨by decide +kernel, rfl⟩
theorem d_tl_14 : Own.D jdk_43_method_32_code 14 (.istore 4) 2 16 := ⟨by decide +kernel, rfl⟩
theorem d_tl_16 : Own.D jdk_43_method_32_code 16 (.iconst 0) 1 17 := ⟨by decide +kernel, rfl⟩
theorem d_tl_17 : Own.D jdk_43_method_32_code 17 (.istore_n 3) 1 18 := ⟨by decide +kernel, rfl⟩
theorem d_stl_0 : Own.D jdk_42_method_109_code 0 (.aload_n 0) 1 1 := ⟨by decide +kernel, rfl⟩
theorem d_stl_1 : Own.D jdk_42_method_109_code 1 (.invokevirtual 492) 3 4 := ⟨by decide +kernel, rfl⟩
theorem d_stl_4 : Own.J jdk_42_method_109_code 4 (.ifCond .eq 15) 3 7 15 19 := ⟨by decide +kernel, rfl, by decide, by decide⟩
theorem d_stl_7 : Own.D jdk_42_method_109_code 7 (.aload_n 0) 1 8 := ⟨by decide +kernel, rfl⟩
theorem d_stl_8 : Own.D jdk_42_method_109_code 8 (.aload_n 0) 1 9 := ⟨by decide +kernel, rfl⟩
theorem d_stl_9 : Own.D jdk_42_method_109_code 9 (.getfield 9) 3 12 := ⟨by decide +kernel, rfl⟩
theorem d_stl_12 : Own.D jdk_42_method_109_code 12 (.aload_n 1) 1 13 := ⟨by decide +kernel, rfl⟩
theorem d_stl_13 : Own.D jdk_42_method_109_code 13 (.invokestatic 839) 3 16 := ⟨by decide +kernel, rfl⟩
theorem d_stl_16 : Own.J jdk_42_method_109_code 16 (.goto 12) 3 19 12 28 := ⟨by decide +kernel, rfl, by decide, by decide⟩
theorem d_stl_28 : Own.D jdk_42_method_109_code 28 .areturn 1 29 := ⟨by decide +kernel, rfl⟩
theorem d_fort_0 : Own.D prog_25_method_2_code 0 (.new 7) 3 3 := ⟨by decide +kernel, rfl⟩
theorem d_fort_3 : Own.D prog_25_method_2_code 3 .dup 1 4 := ⟨by decide +kernel, rfl⟩
theorem d_fort_4 : Own.D prog_25_method_2_code 4 (.invokespecial 9) 3 7 := ⟨by decide +kernel, rfl⟩
theorem d_fort_7 : Own.D prog_25_method_2_code 7 (.aload_n 0) 1 8 := ⟨by decide +kernel, rfl⟩
theorem d_fort_8 : Own.D prog_25_method_2_code 8 (.invokevirtual 10) 3 11 := ⟨by decide +kernel, rfl⟩
theorem d_fort_11 : Own.D prog_25_method_2_code 11 (.ldc 14) 2 13 := ⟨by decide +kernel, rfl⟩
theorem d_fort_13 : Own.D prog_25_method_2_code 13 (.invokevirtual 10) 3 16 := ⟨by decide +kernel, rfl⟩
theorem d_fort_16 : Own.D prog_25_method_2_code 16 (.aload_n 1) 1 17 := ⟨by decide +kernel, rfl⟩
theorem d_fort_17 : Own.D prog_25_method_2_code 17 (.invokevirtual 10) 3 20 := ⟨by decide +kernel, rfl⟩
theorem d_fort_20 : Own.D prog_25_method_2_code 20 (.ldc 14) 2 22 := ⟨by decide +kernel, rfl⟩
theorem d_fort_22 : Own.D prog_25_method_2_code 22 (.invokevirtual 10) 3 25 := ⟨by decide +kernel, rfl⟩
theorem d_fort_25 : Own.D prog_25_method_2_code 25 (.aload_n 2) 1 26 := ⟨by decide +kernel, rfl⟩
theorem d_fort_26 : Own.D prog_25_method_2_code 26 (.invokevirtual 10) 3 29 := ⟨by decide +kernel, rfl⟩
theorem d_fort_29 : Own.D prog_25_method_2_code 29 (.invokevirtual 16) 3 32 := ⟨by decide +kernel, rfl⟩
theorem d_fort_32 : Own.D prog_25_method_2_code 32 (.getstatic 20) 3 35 := ⟨by decide +kernel, rfl⟩
theorem d_fort_35 : Own.D prog_25_method_2_code 35 (.invokevirtual 26) 3 38 := ⟨by decide +kernel, rfl⟩
theorem d_fort_38 : Own.D prog_25_method_2_code 38 .areturn 1 39 := ⟨by decide +kernel, rfl⟩
theorem d_ch_0 : Own.D method_3_code 0 (.iload_n 0) 1 1 := ⟨by decide +kernel, rfl⟩
theorem d_ch_1 : Own.D method_3_code 1 (.bipush 8) 2 3 := ⟨by decide +kernel, rfl⟩
theorem d_ch_3 : Own.D method_3_code 3 (.iload_n 1) 1 4 := ⟨by decide +kernel, rfl⟩
theorem d_ch_4 : Own.D method_3_code 4 .imul 1 5 := ⟨by decide +kernel, rfl⟩
theorem d_ch_5 : Own.D method_3_code 5 .iushr 1 6 := ⟨by decide +kernel, rfl⟩
theorem d_ch_6 : Own.D method_3_code 6 (.sipush 255) 3 9 := ⟨by decide +kernel, rfl⟩
theorem d_ch_9 : Own.D method_3_code 9 .iand 1 10 := ⟨by decide +kernel, rfl⟩
theorem d_ch_10 : Own.D method_3_code 10 .i2c 1 11 := ⟨by decide +kernel, rfl⟩
theorem d_ch_11 : Own.D method_3_code 11 .ireturn 1 12 := ⟨by decide +kernel, rfl⟩
theorem d_low_0 : Own.D method_5_code 0 (.iload_n 0) 1 1 := ⟨by decide +kernel, rfl⟩
theorem d_low_1 : Own.D method_5_code 1 (.bipush 65) 2 3 := ⟨by decide +kernel, rfl⟩
theorem d_low_3 : Own.J method_5_code 3 (.if_icmp .lt 15) 3 6 15 18 := ⟨by decide +kernel, rfl, by decide, by decide⟩
theorem d_low_18 : Own.D method_5_code 18 (.iload_n 0) 1 19 := ⟨by decide +kernel, rfl⟩
theorem d_low_19 : Own.D method_5_code 19 (.sipush 192) 3 22 := ⟨by decide +kernel, rfl⟩
theorem d_low_22 : Own.J method_5_code 22 (.if_icmp .lt 23) 3 25 23 45 := ⟨by decide +kernel, rfl, by decide, by decide⟩
theorem d_low_45 : Own.D method_5_code 45 (.iload_n 0) 1 46 := ⟨by decide +kernel, rfl⟩
theorem d_low_46 : Own.D method_5_code 46 .ireturn 1 47 := ⟨by decide +kernel, rfl⟩
theorem d_low_25 : Own.D method_5_code 25 (.iload_n 0) 1 26 := ⟨by decide +kernel, rfl⟩
theorem d_low_26 : Own.D method_5_code 26 (.sipush 222) 3 29 := ⟨by decide +kernel, rfl⟩
theorem d_low_29 : Own.J method_5_code 29 (.if_icmp .gt 16) 3 32 16 45 := ⟨by decide +kernel, rfl, by decide, by decide⟩
theorem d_low_32 : Own.D method_5_code 32 (.iload_n 0) 1 33 := ⟨by decide +kernel, rfl⟩
theorem d_low_33 : Own.D method_5_code 33 (.sipush 215) 3 36 := ⟨by decide +kernel, rfl⟩
theorem d_low_36 : Own.J method_5_code 36 (.if_icmp .eq 9) 3 39 9 45 := ⟨by decide +kernel, rfl, by decide, by decide⟩
theorem d_low_39 : Own.D method_5_code 39 (.iload_n 0) 1 40 := ⟨by decide +kernel, rfl⟩
theorem d_low_40 : Own.D method_5_code 40 (.bipush 32) 2 42 := ⟨by decide +kernel, rfl⟩
theorem d_low_42 : Own.D method_5_code 42 .iadd 1 43 := ⟨by decide +kernel, rfl⟩
theorem d_low_43 : Own.D method_5_code 43 .i2c 1 44 := ⟨by decide +kernel, rfl⟩
theorem d_low_44 : Own.D method_5_code 44 .ireturn 1 45 := ⟨by decide +kernel, rfl⟩
theorem d_low_6 : Own.D method_5_code 6 (.iload_n 0) 1 7 := ⟨by decide +kernel, rfl⟩
theorem d_low_7 : Own.D method_5_code 7 (.bipush 90) 2 9 := ⟨by decide +kernel, rfl⟩
theorem d_low_9 : Own.J method_5_code 9 (.if_icmp .gt 9) 3 12 9 18 := ⟨by decide +kernel, rfl, by decide, by decide⟩
theorem d_low_12 : Own.D method_5_code 12 (.iload_n 0) 1 13 := ⟨by decide +kernel, rfl⟩
theorem d_low_13 : Own.D method_5_code 13 (.bipush 32) 2 15 := ⟨by decide +kernel, rfl⟩
theorem d_low_15 : Own.D method_5_code 15 .iadd 1 16 := ⟨by decide +kernel, rfl⟩
theorem d_low_16 : Own.D method_5_code 16 .i2c 1 17 := ⟨by decide +kernel, rfl⟩
theorem d_low_17 : Own.D method_5_code 17 .ireturn 1 18 := ⟨by decide +kernel, rfl⟩
theorem d_mk_0 : Own.D method_4_code 0 (.iload_n 0) 1 1 := ⟨by decide +kernel, rfl⟩
theorem d_mk_1 : Own.D method_4_code 1 (.bipush 24) 2 3 := ⟨by decide +kernel, rfl⟩
theorem d_mk_3 : Own.D method_4_code 3 .iushr 1 4 := ⟨by decide +kernel, rfl⟩
theorem d_mk_4 : Own.D method_4_code 4 (.iconst 3) 1 5 := ⟨by decide +kernel, rfl⟩
theorem d_mk_5 : Own.D method_4_code 5 .iand 1 6 := ⟨by decide +kernel, rfl⟩
theorem d_mk_6 : Own.D method_4_code 6 (.istore_n 1) 1 7 := ⟨by decide +kernel, rfl⟩
theorem d_mk_7 : Own.D method_4_code 7 (.iload_n 1) 1 8 := ⟨by decide +kernel, rfl⟩
theorem d_mk_8 : Own.J method_4_code 8 (.ifCond .ne 14) 3 11 14 22 := ⟨by decide +kernel, rfl, by decide, by decide⟩
theorem d_mk_22 : Own.D method_4_code 22 (.iload_n 1) 1 23 := ⟨by decide +kernel, rfl⟩
theorem d_mk_23 : Own.D method_4_code 23 (.iconst 1) 1 24 := ⟨by decide +kernel, rfl⟩
theorem d_mk_24 : Own.J method_4_code 24 (.if_icmp .ne 22) 3 27 22 46 := ⟨by decide +kernel, rfl, by decide, by decide⟩
theorem d_mk_46 : Own.D method_4_code 46 (.iload_n 1) 1 47 := ⟨by decide +kernel, rfl⟩
theorem d_mk_47 : Own.D method_4_code 47 (.iconst 2) 1 48 := ⟨by decide +kernel, rfl⟩
theorem d_mk_48 : Own.J method_4_code 48 (.if_icmp .ne 30) 3 51 30 78 := ⟨by decide +kernel, rfl, by decide, by decide⟩
theorem d_mk_78 : Own.D method_4_code 78 (.new 20) 3 81 := ⟨by decide +kernel, rfl⟩
theorem d_mk_81 : Own.D method_4_code 81 .dup 1 82 := ⟨by decide +kernel, rfl⟩
theorem d_mk_82 : Own.D method_4_code 82 (.iconst 3) 1 83 := ⟨by decide +kernel, rfl⟩
theorem d_mk_83 : Own.D method_4_code 83 (.newarray .char) 2 85 := ⟨by decide +kernel, rfl⟩
theorem d_mk_85 : Own.D method_4_code 85 .dup 1 86 := ⟨by decide +kernel, rfl⟩
theorem d_mk_86 : Own.D method_4_code 86 (.iconst 0) 1 87 := ⟨by decide +kernel, rfl⟩
theorem d_mk_87 : Own.D method_4_code 87 (.iload_n 0) 1 88 := ⟨by decide +kernel, rfl⟩
theorem d_mk_88 : Own.D method_4_code 88 (.iconst 0) 1 89 := ⟨by decide +kernel, rfl⟩
theorem d_mk_89 : Own.D method_4_code 89 (.invokestatic 36) 3 92 := ⟨by decide +kernel, rfl⟩
theorem d_mk_92 : Own.D method_4_code 92 .castore 1 93 := ⟨by decide +kernel, rfl⟩
theorem d_mk_93 : Own.D method_4_code 93 .dup 1 94 := ⟨by decide +kernel, rfl⟩
theorem d_mk_94 : Own.D method_4_code 94 (.iconst 1) 1 95 := ⟨by decide +kernel, rfl⟩
theorem d_mk_95 : Own.D method_4_code 95 (.iload_n 0) 1 96 := ⟨by decide +kernel, rfl⟩
theorem d_mk_96 : Own.D method_4_code 96 (.iconst 1) 1 97 := ⟨by decide +kernel, rfl⟩
theorem d_mk_97 : Own.D method_4_code 97 (.invokestatic 36) 3 100 := ⟨by decide +kernel, rfl⟩
theorem d_mk_100 : Own.D method_4_code 100 .castore 1 101 := ⟨by decide +kernel, rfl⟩
theorem d_mk_101 : Own.D method_4_code 101 .dup 1 102 := ⟨by decide +kernel, rfl⟩
theorem d_mk_102 : Own.D method_4_code 102 (.iconst 2) 1 103 := ⟨by decide +kernel, rfl⟩
theorem d_mk_103 : Own.D method_4_code 103 (.iload_n 0) 1 104 := ⟨by decide +kernel, rfl⟩
theorem d_mk_104 : Own.D method_4_code 104 (.iconst 2) 1 105 := ⟨by decide +kernel, rfl⟩
theorem d_mk_105 : Own.D method_4_code 105 (.invokestatic 36) 3 108 := ⟨by decide +kernel, rfl⟩
theorem d_mk_108 : Own.D method_4_code 108 .castore 1 109 := ⟨by decide +kernel, rfl⟩
theorem d_mk_109 : Own.D method_4_code 109 (.invokespecial 33) 3 112 := ⟨by decide +kernel, rfl⟩
theorem d_mk_112 : Own.D method_4_code 112 .areturn 1 113 := ⟨by decide +kernel, rfl⟩
theorem d_mk_51 : Own.D method_4_code 51 (.new 20) 3 54 := ⟨by decide +kernel, rfl⟩
theorem d_mk_54 : Own.D method_4_code 54 .dup 1 55 := ⟨by decide +kernel, rfl⟩
theorem d_mk_55 : Own.D method_4_code 55 (.iconst 2) 1 56 := ⟨by decide +kernel, rfl⟩
theorem d_mk_56 : Own.D method_4_code 56 (.newarray .char) 2 58 := ⟨by decide +kernel, rfl⟩
theorem d_mk_58 : Own.D method_4_code 58 .dup 1 59 := ⟨by decide +kernel, rfl⟩
theorem d_mk_59 : Own.D method_4_code 59 (.iconst 0) 1 60 := ⟨by decide +kernel, rfl⟩
theorem d_mk_60 : Own.D method_4_code 60 (.iload_n 0) 1 61 := ⟨by decide +kernel, rfl⟩
theorem d_mk_61 : Own.D method_4_code 61 (.iconst 0) 1 62 := ⟨by decide +kernel, rfl⟩
theorem d_mk_62 : Own.D method_4_code 62 (.invokestatic 36) 3 65 := ⟨by decide +kernel, rfl⟩
theorem d_mk_65 : Own.D method_4_code 65 .castore 1 66 := ⟨by decide +kernel, rfl⟩
theorem d_mk_66 : Own.D method_4_code 66 .dup 1 67 := ⟨by decide +kernel, rfl⟩
theorem d_mk_67 : Own.D method_4_code 67 (.iconst 1) 1 68 := ⟨by decide +kernel, rfl⟩
theorem d_mk_68 : Own.D method_4_code 68 (.iload_n 0) 1 69 := ⟨by decide +kernel, rfl⟩
theorem d_mk_69 : Own.D method_4_code 69 (.iconst 1) 1 70 := ⟨by decide +kernel, rfl⟩
theorem d_mk_70 : Own.D method_4_code 70 (.invokestatic 36) 3 73 := ⟨by decide +kernel, rfl⟩
theorem d_mk_73 : Own.D method_4_code 73 .castore 1 74 := ⟨by decide +kernel, rfl⟩
theorem d_mk_74 : Own.D method_4_code 74 (.invokespecial 33) 3 77 := ⟨by decide +kernel, rfl⟩
theorem d_mk_77 : Own.D method_4_code 77 .areturn 1 78 := ⟨by decide +kernel, rfl⟩
theorem d_mk_27 : Own.D method_4_code 27 (.new 20) 3 30 := ⟨by decide +kernel, rfl⟩
theorem d_mk_30 : Own.D method_4_code 30 .dup 1 31 := ⟨by decide +kernel, rfl⟩
theorem d_mk_31 : Own.D method_4_code 31 (.iconst 1) 1 32 := ⟨by decide +kernel, rfl⟩
theorem d_mk_32 : Own.D method_4_code 32 (.newarray .char) 2 34 := ⟨by decide +kernel, rfl⟩
theorem d_mk_34 : Own.D method_4_code 34 .dup 1 35 := ⟨by decide +kernel, rfl⟩
theorem d_mk_35 : Own.D method_4_code 35 (.iconst 0) 1 36 := ⟨by decide +kernel, rfl⟩
theorem d_mk_36 : Own.D method_4_code 36 (.iload_n 0) 1 37 := ⟨by decide +kernel, rfl⟩
theorem d_mk_37 : Own.D method_4_code 37 (.iconst 0) 1 38 := ⟨by decide +kernel, rfl⟩
theorem d_mk_38 : Own.D method_4_code 38 (.invokestatic 36) 3 41 := ⟨by decide +kernel, rfl⟩
theorem d_mk_41 : Own.D method_4_code 41 .castore 1 42 := ⟨by decide +kernel, rfl⟩
theorem d_mk_42 : Own.D method_4_code 42 (.invokespecial 33) 3 45 := ⟨by decide +kernel, rfl⟩
theorem d_mk_45 : Own.D method_4_code 45 .areturn 1 46 := ⟨by decide +kernel, rfl⟩
theorem d_mk_11 : Own.D method_4_code 11 (.new 20) 3 14 := ⟨by decide +kernel, rfl⟩
theorem d_mk_14 : Own.D method_4_code 14 .dup 1 15 := ⟨by decide +kernel, rfl⟩
theorem d_mk_15 : Own.D method_4_code 15 (.iconst 0) 1 16 := ⟨by decide +kernel, rfl⟩
theorem d_mk_16 : Own.D method_4_code 16 (.newarray .char) 2 18 := ⟨by decide +kernel, rfl⟩
theorem d_mk_18 : Own.D method_4_code 18 (.invokespecial 33) 3 21 := ⟨by decide +kernel, rfl⟩
theorem d_mk_21 : Own.D method_4_code 21 .areturn 1 22 := ⟨by decide +kernel, rfl⟩
theorem d_seg_0 : Own.D method_6_code 0 (.iload_n 2) 1 1 := ⟨by decide +kernel, rfl⟩
theorem d_seg_1 : Own.J method_6_code 1 (.ifCond .le 21) 3 4 21 22 := ⟨by decide +kernel, rfl, by decide, by decide⟩
theorem d_seg_22 : Own.D method_6_code 22 (.iload_n 2) 1 23 := ⟨by decide +kernel, rfl⟩
theorem d_seg_23 : Own.D method_6_code 23 (.iconst 1) 1 24 := ⟨by decide +kernel, rfl⟩
theorem d_seg_24 : Own.J method_6_code 24 (.if_icmp .le 23) 3 27 23 47 := ⟨by decide +kernel, rfl, by decide, by decide⟩
theorem d_seg_47 : Own.D method_6_code 47 (.iload_n 2) 1 48 := ⟨by decide +kernel, rfl⟩
theorem d_seg_48 : Own.D method_6_code 48 (.iconst 2) 1 49 := ⟨by decide +kernel, rfl⟩
theorem d_seg_49 : Own.J method_6_code 49 (.if_icmp .le 23) 3 52 23 72 := ⟨by decide +kernel, rfl, by decide, by decide⟩
theorem d_seg_72 : Own.D method_6_code 72 (.iconst 1) 1 73 := ⟨by decide +kernel, rfl⟩
theorem d_seg_73 : Own.D method_6_code 73 .ireturn 1 74 := ⟨by decide +kernel, rfl⟩
theorem d_seg_4 : Own.D method_6_code 4 (.aload_n 0) 1 5 := ⟨by decide +kernel, rfl⟩
theorem d_seg_5 : Own.D method_6_code 5 (.iload_n 1) 1 6 := ⟨by decide +kernel, rfl⟩
theorem d_seg_6 : Own.D method_6_code 6 (.invokevirtual 29) 3 9 := ⟨by decide +kernel, rfl⟩
theorem d_seg_9 : Own.D method_6_code 9 (.iload_n 3) 1 10 := ⟨by decide +kernel, rfl⟩
theorem d_seg_10 : Own.D method_6_code 10 (.iconst 0) 1 11 := ⟨by decide +kernel, rfl⟩
theorem d_seg_11 : Own.D method_6_code 11 (.invokestatic 36) 3 14 := ⟨by decide +kernel, rfl⟩
theorem d_seg_14 : Own.D method_6_code 14 (.invokestatic 40) 3 17 := ⟨by decide +kernel, rfl⟩
theorem d_seg_17 : Own.J method_6_code 17 (.if_icmp .eq 5) 3 20 5 22 := ⟨by decide +kernel, rfl, by decide, by decide⟩
theorem d_seg_27 : Own.D method_6_code 27 (.aload_n 0) 1 28 := ⟨by decide +kernel, rfl⟩
theorem d_seg_28 : Own.D method_6_code 28 (.iload_n 1) 1 29 := ⟨by decide +kernel, rfl⟩
theorem d_seg_29 : Own.D method_6_code 29 (.iconst 1) 1 30 := ⟨by decide +kernel, rfl⟩
theorem d_seg_30 : Own.D method_6_code 30 .iadd 1 31 := ⟨by decide +kernel, rfl⟩
theorem d_seg_31 : Own.D method_6_code 31 (.invokevirtual 29) 3 34 := ⟨by decide +kernel, rfl⟩
theorem d_seg_34 : Own.D method_6_code 34 (.iload_n 3) 1 35 := ⟨by decide +kernel, rfl⟩
theorem d_seg_35 : Own.D method_6_code 35 (.iconst 1) 1 36 := ⟨by decide +kernel, rfl⟩
theorem d_seg_36 : Own.D method_6_code 36 (.invokestatic 36) 3 39 := ⟨by decide +kernel, rfl⟩
theorem d_seg_39 : Own.D method_6_code 39 (.invokestatic 40) 3 42 := ⟨by decide +kernel, rfl⟩
theorem d_seg_42 : Own.J method_6_code 42 (.if_icmp .eq 5) 3 45 5 47 := ⟨by decide +kernel, rfl, by decide, by decide⟩
theorem d_seg_52 : Own.D method_6_code 52 (.aload_n 0) 1 53 := ⟨by decide +kernel, rfl⟩
theorem d_seg_53 : Own.D method_6_code 53 (.iload_n 1) 1 54 := ⟨by decide +kernel, rfl⟩
theorem d_seg_54 : Own.D method_6_code 54 (.iconst 2) 1 55 := ⟨by decide +kernel, rfl⟩
theorem d_seg_55 : Own.D method_6_code 55 .iadd 1 56 := ⟨by decide +kernel, rfl⟩
theorem d_seg_56 : Own.D method_6_code 56 (.invokevirtual 29) 3 59 := ⟨by decide +kernel, rfl⟩
theorem d_seg_59 : Own.D method_6_code 59 (.iload_n 3) 1 60 := ⟨by decide +kernel, rfl⟩
theorem d_seg_60 : Own.D method_6_code 60 (.iconst 2) 1 61 := ⟨by decide +kernel, rfl⟩
theorem d_seg_61 : Own.D method_6_code 61 (.invokestatic 36) 3 64 := ⟨by decide +kernel, rfl⟩
theorem d_seg_64 : Own.D method_6_code 64 (.invokestatic 40) 3 67 := ⟨by decide +kernel, rfl⟩
theorem d_seg_67 : Own.J method_6_code 67 (.if_icmp .eq 5) 3 70 5 72 := ⟨by decide +kernel, rfl, by decide, by decide⟩
theorem d_law_0 : Own.D code 0 (.iload_n 0) 1 1 := ⟨by decide +kernel, rfl⟩
theorem d_law_1 : Own.D code 1 (.bipush 24) 2 3 := ⟨by decide +kernel, rfl⟩
theorem d_law_3 : Own.D code 3 .iushr 1 4 := ⟨by decide +kernel, rfl⟩
theorem d_law_4 : Own.D code 4 (.iconst 3) 1 5 := ⟨by decide +kernel, rfl⟩
theorem d_law_5 : Own.D code 5 .iand 1 6 := ⟨by decide +kernel, rfl⟩
theorem d_law_6 : Own.D code 6 (.istore_n 3) 1 7 := ⟨by decide +kernel, rfl⟩
theorem d_law_7 : Own.D code 7 (.iload_n 1) 1 8 := ⟨by decide +kernel, rfl⟩
theorem d_law_8 : Own.D code 8 (.bipush 24) 2 10 := ⟨by decide +kernel, rfl⟩
theorem d_law_10 : Own.D code 10 .iushr 1 11 := ⟨by decide +kernel, rfl⟩
theorem d_law_11 : Own.D code 11 (.iconst 3) 1 12 := ⟨by decide +kernel, rfl⟩
theorem d_law_12 : Own.D code 12 .iand 1 13 := ⟨by decide +kernel, rfl⟩
theorem d_law_13 : Own.D code 13 (.istore 4) 2 15 := ⟨by decide +kernel, rfl⟩
theorem d_law_15 : Own.D code 15 (.iload_n 2) 1 16 := ⟨by decide +kernel, rfl⟩
theorem d_law_16 : Own.D code 16 (.bipush 24) 2 18 := ⟨by decide +kernel, rfl⟩
theorem d_law_18 : Own.D code 18 .iushr 1 19 := ⟨by decide +kernel, rfl⟩
theorem d_law_19 : Own.D code 19 (.iconst 3) 1 20 := ⟨by decide +kernel, rfl⟩
theorem d_law_20 : Own.D code 20 .iand 1 21 := ⟨by decide +kernel, rfl⟩
theorem d_law_21 : Own.D code 21 (.istore 5) 2 23 := ⟨by decide +kernel, rfl⟩
theorem d_law_23 : Own.D code 23 (.iload_n 0) 1 24 := ⟨by decide +kernel, rfl⟩
theorem d_law_24 : Own.D code 24 (.invokestatic 7) 3 27 := ⟨by decide +kernel, rfl⟩
theorem d_law_27 : Own.D code 27 (.astore 6) 2 29 := ⟨by decide +kernel, rfl⟩
theorem d_law_29 : Own.D code 29 (.iload_n 1) 1 30 := ⟨by decide +kernel, rfl⟩
theorem d_law_30 : Own.D code 30 (.invokestatic 7) 3 33 := ⟨by decide +kernel, rfl⟩
theorem d_law_33 : Own.D code 33 (.astore 7) 2 35 := ⟨by decide +kernel, rfl⟩
theorem d_law_35 : Own.D code 35 (.iload_n 2) 1 36 := ⟨by decide +kernel, rfl⟩
theorem d_law_36 : Own.D code 36 (.invokestatic 7) 3 39 := ⟨by decide +kernel, rfl⟩
theorem d_law_39 : Own.D code 39 (.astore 8) 2 41 := ⟨by decide +kernel, rfl⟩
theorem d_law_41 : Own.D code 41 (.aload 6) 2 43 := ⟨by decide +kernel, rfl⟩
theorem d_law_43 : Own.D code 43 (.aload 7) 2 45 := ⟨by decide +kernel, rfl⟩
theorem d_law_45 : Own.D code 45 (.aload 8) 2 47 := ⟨by decide +kernel, rfl⟩
theorem d_law_47 : Own.D code 47 (.invokestatic 13) 3 50 := ⟨by decide +kernel, rfl⟩
theorem d_law_50 : Own.D code 50 (.astore 9) 2 52 := ⟨by decide +kernel, rfl⟩
theorem d_law_52 : Own.D code 52 (.aload 9) 2 54 := ⟨by decide +kernel, rfl⟩
theorem d_law_54 : Own.J code 54 (.ifnonnull 5) 3 57 5 59 := ⟨by decide +kernel, rfl, by decide, by decide⟩
theorem d_law_59 : Own.D code 59 (.aload 9) 2 61 := ⟨by decide +kernel, rfl⟩
theorem d_law_61 : Own.D code 61 (.invokevirtual 19) 3 64 := ⟨by decide +kernel, rfl⟩
theorem d_law_64 : Own.D code 64 (.iload_n 3) 1 65 := ⟨by decide +kernel, rfl⟩
theorem d_law_65 : Own.D code 65 (.iload 4) 2 67 := ⟨by decide +kernel, rfl⟩
theorem d_law_67 : Own.D code 67 .iadd 1 68 := ⟨by decide +kernel, rfl⟩
theorem d_law_68 : Own.D code 68 (.iload 5) 2 70 := ⟨by decide +kernel, rfl⟩
theorem d_law_70 : Own.D code 70 .iadd 1 71 := ⟨by decide +kernel, rfl⟩
theorem d_law_71 : Own.D code 71 (.iconst 2) 1 72 := ⟨by decide +kernel, rfl⟩
theorem d_law_72 : Own.D code 72 .iadd 1 73 := ⟨by decide +kernel, rfl⟩
theorem d_law_73 : Own.J code 73 (.if_icmp .eq 5) 3 76 5 78 := ⟨by decide +kernel, rfl, by decide, by decide⟩
theorem d_law_78 : Own.D code 78 (.aload 9) 2 80 := ⟨by decide +kernel, rfl⟩
theorem d_law_80 : Own.D code 80 (.iconst 0) 1 81 := ⟨by decide +kernel, rfl⟩
theorem d_law_81 : Own.D code 81 (.iload_n 3) 1 82 := ⟨by decide +kernel, rfl⟩
theorem d_law_82 : Own.D code 82 (.iload_n 0) 1 83 := ⟨by decide +kernel, rfl⟩
theorem d_law_83 : Own.D code 83 (.invokestatic 25) 3 86 := ⟨by decide +kernel, rfl⟩
theorem d_law_86 : Own.J code 86 (.ifCond .ne 5) 3 89 5 91 := ⟨by decide +kernel, rfl, by decide, by decide⟩
theorem d_law_91 : Own.D code 91 (.aload 9) 2 93 := ⟨by decide +kernel, rfl⟩
theorem d_law_93 : Own.D code 93 (.iload_n 3) 1 94 := ⟨by decide +kernel, rfl⟩
theorem d_law_94 : Own.D code 94 (.invokevirtual 29) 3 97 := ⟨by decide +kernel, rfl⟩
theorem d_law_97 : Own.D code 97 (.bipush 46) 2 99 := ⟨by decide +kernel, rfl⟩
theorem d_law_99 : Own.J code 99 (.if_icmp .eq 5) 3 102 5 104 := ⟨by decide +kernel, rfl, by decide, by decide⟩
theorem d_law_104 : Own.D code 104 (.aload 9) 2 106 := ⟨by decide +kernel, rfl⟩
theorem d_law_106 : Own.D code 106 (.iload_n 3) 1 107 := ⟨by decide +kernel, rfl⟩
theorem d_law_107 : Own.D code 107 (.iconst 1) 1 108 := ⟨by decide +kernel, rfl⟩
theorem d_law_108 : Own.D code 108 .iadd 1 109 := ⟨by decide +kernel, rfl⟩
theorem d_law_109 : Own.D code 109 (.iload 4) 2 111 := ⟨by decide +kernel, rfl⟩
theorem d_law_111 : Own.D code 111 (.iload_n 1) 1 112 := ⟨by decide +kernel, rfl⟩
theorem d_law_112 : Own.D code 112 (.invokestatic 25) 3 115 := ⟨by decide +kernel, rfl⟩
theorem d_law_115 : Own.J code 115 (.ifCond .ne 5) 3 118 5 120 := ⟨by decide +kernel, rfl, by decide, by decide⟩
theorem d_law_120 : Own.D code 120 (.aload 9) 2 122 := ⟨by decide +kernel, rfl⟩
theorem d_law_122 : Own.D code 122 (.iload_n 3) 1 123 := ⟨by decide +kernel, rfl⟩
theorem d_law_123 : Own.D code 123 (.iconst 1) 1 124 := ⟨by decide +kernel, rfl⟩
theorem d_law_124 : Own.D code 124 .iadd 1 125 := ⟨by decide +kernel, rfl⟩
theorem d_law_125 : Own.D code 125 (.iload 4) 2 127 := ⟨by decide +kernel, rfl⟩
theorem d_law_127 : Own.D code 127 .iadd 1 128 := ⟨by decide +kernel, rfl⟩
theorem d_law_128 : Own.D code 128 (.invokevirtual 29) 3 131 := ⟨by decide +kernel, rfl⟩
theorem d_law_131 : Own.D code 131 (.bipush 46) 2 133 := ⟨by decide +kernel, rfl⟩
theorem d_law_133 : Own.J code 133 (.if_icmp .eq 5) 3 136 5 138 := ⟨by decide +kernel, rfl, by decide, by decide⟩
theorem d_law_138 : Own.D code 138 (.aload 9) 2 140 := ⟨by decide +kernel, rfl⟩
theorem d_law_140 : Own.D code 140 (.iload_n 3) 1 141 := ⟨by decide +kernel, rfl⟩
theorem d_law_141 : Own.D code 141 (.iload 4) 2 143 := ⟨by decide +kernel, rfl⟩
theorem d_law_143 : Own.D code 143 .iadd 1 144 := ⟨by decide +kernel, rfl⟩
theorem d_law_144 : Own.D code 144 (.iconst 2) 1 145 := ⟨by decide +kernel, rfl⟩
theorem d_law_145 : Own.D code 145 .iadd 1 146 := ⟨by decide +kernel, rfl⟩
theorem d_law_146 : Own.D code 146 (.iload 5) 2 148 := ⟨by decide +kernel, rfl⟩
theorem d_law_148 : Own.D code 148 (.iload_n 2) 1 149 := ⟨by decide +kernel, rfl⟩
theorem d_law_149 : Own.D code 149 (.invokestatic 25) 3 152 := ⟨by decide +kernel, rfl⟩
theorem d_law_152 : Own.D code 152 .ireturn 1 153 := ⟨by decide +kernel, rfl⟩
set_option maxRecDepth 65536 in
set_option maxHeartbeats 4000000 in
theorem cod_met {E : Gl} (hw : Tb E) {h : Heap} {F : List Addr} {v : Addr} {k : ClassId} {m z : Int32} {vs : List Value} {dv : Value} (Av : Arv E.Z h v k .byte m vs dv) :
    Met E (⟨"java/lang/StringUTF16", "coderFromArrayLen", "([BI)B"⟩ : MethodName) jdk_52_method_15_code 2 (some .byte) ({ frames := 0, cells := 0, slots := 0, locals := 0 } : Room) #[.ref v, .int z] h F (fun r h' F' => r = some (.int (lo8 (lo8 (XT.ushr (z - m) 31)))) ∧ h = h' ∧ F = F') := by
  refine met_of (by decide +kernel) fun x T hQ B W => ?_
  refine G.cast (g' := fr x 0 #[.val (.ref v), .val (.int z)] []) (by simp [entryFrame, mkF, argsToLocals, Own.cat_r, Own.cat_i, Own.cat_j, Own.cat_n]) ?_
  refine w_iloadN W B d_cod_0 rfl ?_
  refine w_aloadN W B d_cod_1 rfl rfl ?_
  refine w_arraylength W B d_cod_2 Av ?_
  refine w_isub W B d_cod_3 ?_
  refine w_bipush W B d_cod_4 (v := (31 : Int32)) rfl ?_
  refine w_iushr W B d_cod_6 ?_
  refine w_i2b W B d_cod_7 ?_
  exact w_ireturnN W B d_cod_8 (Or.inr (Or.inl rfl)) (u := lo8 (lo8 (XT.ushr (z - m) 31))) rfl hQ (by decide) (by decide) (fun _ q => q) ⟨rfl, rfl, rfl⟩
theorem lat_at {cs : List Int32} (H : Lat cs) {i : Nat} (h : i < cs.length) : (cs.getD i 0).toInt ≤ 255 := by
  have : cs.getD i 0 = cs[i] := by simp [List.getD_eq_getElem?_getD, List.getElem?_eq_getElem h]
  rw [this]; exact H _ (List.getElem_mem h)
theorem vs_b8 {vs : List Value} {cs : List Int32} {n : Nat} (hvl : vs.length = n) (hcs : cs.length = n) (hvs : ∀ j, j < n → vs.getD j (.int 0) = .int (lo8 (cs.getD j 0))) : vs = b8 cs := by
  apply List.ext_getElem (by rw [hvl, b8_len, hcs])
  intro j h1 h2
  have q := hvs j (by omega)
  rw [List.getD_eq_getElem?_getD, List.getElem?_eq_getElem h1] at q
  have q2 := b8_at (cs := cs) (i := j) (by omega) (.int 0)
  rw [List.getD_eq_getElem?_getD, List.getElem?_eq_getElem h2] at q2
  exact (Option.some.inj (by simpa using q) : vs[j] = _).trans (by simpa using q2.symm)
set_option maxRecDepth 65536 in
set_option maxHeartbeats 4000000 in
theorem cmp3_met {E : Gl} (hw : Tb E) {h : Heap} {F : List Addr} {a : Addr} {ka : ClassId} {n : Nat} {cs : List Int32} (hcs : cs.length = n) (hcap : n ≤ 32) (hL : Lat cs) (Aa : Arv E.Z h a ka .char n.toInt32 (ints cs) (.int 0)) :
    Met E (⟨"java/lang/StringUTF16", "compress", "([CII)[B"⟩ : MethodName) jdk_52_method_16_code 6 (some (.array .byte)) ({ frames := 1, cells := 1, slots := 32, locals := 18 } : Room) #[.ref a, .int 0, .int n.toInt32] h F (fun r h' F' => ∃ (b : Addr) (k : ClassId), r = some (.ref b) ∧ F = F' ∧ h.size ≤ b ∧ Keep h h' [] ∧ Arv E.Z h' b k .byte n.toInt32 (b8 cs) (.int 0)) := by
  refine met_of (by decide +kernel) fun x T hQ B W => ?_
  refine G.cast (g' := fr x 0 #[.val (.ref a), .val (.int (0 : Int32)), .val (.int n.toInt32), .unset, .unset, .unset] []) (by simp [entryFrame, mkF, argsToLocals, Own.cat_r, Own.cat_i, Own.cat_j, Own.cat_n]) ?_
  have hn : n < 2 ^ 31 := by omega
  refine w_iloadN W B d_cmp3_0 rfl ?_
  refine w_newarray W B d_cmp3_1 rfl (wd hw 19 rfl) (n_nn hn) (cap := 32) (by rw [n_clamp hn]; exact hcap) (by decide) (by decide) (by decide) ?_
  intro T1 h2 b3 k4 W5 g6 X7 A8
  show G E x T1 (fr x 3 #[.val (.ref a), .val (.int (0 : Int32)), .val (.int n.toInt32), .unset, .unset, .unset] [(.ref b3)])
  refine w_astoreN W5 B d_cmp3_3 rfl (Ls' := #[.val (.ref a), .val (.int (0 : Int32)), .val (.int n.toInt32), .val (.ref b3), .unset, .unset]) rfl ?_
  refine w_aloadN W5 B d_cmp3_4 rfl rfl ?_
  refine w_iloadN W5 B d_cmp3_5 rfl ?_
  refine w_aloadN W5 B d_cmp3_6 rfl rfl ?_
  refine w_iconst W5 B d_cmp3_7 (v := (0 : Int32)) rfl ?_
  refine w_iloadN W5 B d_cmp3_8 rfl ?_
  refine w_static W5 B (y := ⟨"java/lang/StringUTF16", "compress", "([CI[BII)I"⟩) d_cmp3_9 (wd hw 192 rfl) (wd hw 193 rfl) (wd hw 190 rfl) (wd hw 194 rfl) (by decide) pd___CI_BII_I688 (argsL := [(.ref a), (.int (0 : Int32)), (.ref b3), (.int (0 : Int32)), (.int n.toInt32)]) rfl rfl rfl (Wt := 0) (Nat.le_of_eq rfl) (cmp5_met hw hcs hn (Own.ne_new Aa.lt g6) (List.Mem.head _) (Aa.ext X7) (A8.pad (pad_rep [] _ n)) (by simp)) (by decide) (by decide) (by decide) (by decide) ?_
  intro T9 h10 F11 v12 W13 Q14
  obtain ⟨i, vs, rfl, rfl, hin, hst, hlt, K5, A5, hvl, hvs⟩ := Q14
  show G E x T9 (fr x 12 #[.val (.ref a), .val (.int (0 : Int32)), .val (.int n.toInt32), .val (.ref b3), .unset, .unset] [(.int i.toInt32)])
  have hie : i = n := Nat.le_antisymm hin (Nat.not_lt.mp fun q => absurd (hst q) (Int.not_lt.mpr (lat_at hL (by omega))))
  refine w_istore W13 B d_cmp3_12 (Ls' := #[.val (.ref a), .val (.int (0 : Int32)), .val (.int n.toInt32), .val (.ref b3), .val (.int i.toInt32), .unset]) rfl ?_
  refine w_iload W13 B d_cmp3_14 rfl ?_
  refine w_iloadN W13 B d_cmp3_16 rfl ?_
  refine w_icmp_eq W13 B d_cmp3_17 (fun _ => ?_) (fun q => q (congrArg Nat.toInt32 hie) |>.elim)
  show G E x T9 (fr x 57 #[.val (.ref a), .val (.int (0 : Int32)), .val (.int n.toInt32), .val (.ref b3), .val (.int i.toInt32), .unset] [])
  refine w_aloadN W13 B d_cmp3_57 rfl rfl ?_
  have KK15 : Keep h h2 [] := (Keep.refl h []).ext X7
  have KK16 : Keep h h10 [] := KK15.trans K5 (allS (Or.inr (Nat.le_trans (Keep.refl h []).1 (Nat.le_of_eq g6.symm))) all0)
  have ev : vs = b8 cs := vs_b8 hvl hcs (fun j q => hvs j (by omega))
  exact w_areturn W13 B d_cmp3_58 rfl rfl hQ (by decide) (by decide) (fun _ q => (List.Mem.tail _ q)) ⟨b3, _, rfl, rfl, Nat.le_of_eq g6.symm, KK16, ev ▸ A5⟩
set_option maxRecDepth 65536 in
set_option maxHeartbeats 4000000 in
theorem ini4_met {E : Gl} (hw : Tb E) {h : Heap} {F : List Addr} {s a : Addr} {ka : ClassId} {n : Nat} {cs : List Int32} (hcs : cs.length = n) (h1 : 1 ≤ n) (hcap : n ≤ 32) (hC : Ch cs) (hL : Lat cs) (hs : s ∈ F) (Es : Exa E.Z h s "java/lang/String") (fv : Fld E.Z h s "java/lang/String" "value" "[B" .null) (fc : Fld E.Z h s "java/lang/String" "coder" "B" (.int 0)) (Aa : Arv E.Z h a ka .char n.toInt32 (ints cs) (.int 0)) :
    Met E (⟨"java/lang/String", "<init>", "([CIILjava/lang/Void;)V"⟩ : MethodName) jdk_42_method_149_code 6 none ({ frames := 2, cells := 1, slots := 32, locals := 35 } : Room) #[.ref s, .ref a, .int 0, .int n.toInt32, .null] h F (QStr E cs s h F) := by
  refine met_of (by decide +kernel) fun x T hQ B W => ?_
  refine G.cast (g' := fr x 0 #[.val (.ref s), .val (.ref a), .val (.int (0 : Int32)), .val (.int n.toInt32), .val .null, .unset] []) (by simp [entryFrame, mkF, argsToLocals, Own.cat_r, Own.cat_i, Own.cat_j, Own.cat_n]) ?_
  have hn : n < 2 ^ 31 := by omega
  obtain ⟨z, Sc, hz⟩ := compact hw
  refine w_aloadN W B d_ini4_0 rfl rfl ?_
  refine w_initO W B d_ini4_1 (wd hw 15 rfl) (wd hw 16 rfl) (wd hw 17 rfl) rfl (by decide) (Wt := 0) (Nat.le_of_eq rfl) (by decide) ?_
  intro T1 W2
  refine w_iloadN W2 B d_ini4_4 rfl ?_
  refine w_if_ne W2 B d_ini4_5 (fun _ => ?_) (fun q => absurd q (fun q => absurd ((n_eq (i := n) (n := 0) hn (by decide)).mp q) (by omega)))
  show G E x T1 (fr x 27 #[.val (.ref s), .val (.ref a), .val (.int (0 : Int32)), .val (.int n.toInt32), .val .null, .unset] [])
  refine w_getS W2 B d_ini4_27 (wd hw 68 rfl) Via.refl Sc ?_
  intro T3 W4
  refine w_if_eq W4 B d_ini4_30 (fun q => absurd q hz) (fun _ => ?_)
  show G E x T3 (fr x 33 #[.val (.ref s), .val (.ref a), .val (.int (0 : Int32)), .val (.int n.toInt32), .val .null, .unset] [])
  refine w_aloadN W4 B d_ini4_33 rfl rfl ?_
  refine w_iloadN W4 B d_ini4_34 rfl ?_
  refine w_iloadN W4 B d_ini4_35 rfl ?_
  refine w_static W4 B (y := ⟨"java/lang/StringUTF16", "compress", "([CII)[B"⟩) d_ini4_36 (wd hw 188 rfl) (wd hw 189 rfl) (wd hw 190 rfl) (wd hw 191 rfl) (by decide) pd___CII__B542 (argsL := [(.ref a), (.int (0 : Int32)), (.int n.toInt32)]) rfl rfl rfl (Wt := 0) (Nat.le_of_eq rfl) (cmp3_met hw hcs hcap hL Aa) (by decide) (by decide) (by decide) (by decide) ?_
  intro T5 h6 F7 v8 W9 Q10
  obtain ⟨v, kv, rfl, rfl, gv, K3, A3⟩ := Q10
  show G E x T5 (fr x 39 #[.val (.ref s), .val (.ref a), .val (.int (0 : Int32)), .val (.int n.toInt32), .val .null, .unset] [(.ref v)])
  refine w_astore W9 B d_ini4_39 rfl (Ls' := #[.val (.ref s), .val (.ref a), .val (.int (0 : Int32)), .val (.int n.toInt32), .val .null, .val (.ref v)]) rfl ?_
  refine w_aloadN W9 B d_ini4_41 rfl rfl ?_
  refine w_aload W9 B d_ini4_42 rfl rfl ?_
  refine w_iloadN W9 B d_ini4_44 rfl ?_
  refine w_static W9 B (y := ⟨"java/lang/StringUTF16", "coderFromArrayLen", "([BI)B"⟩) d_ini4_45 (wd hw 195 rfl) (wd hw 196 rfl) (wd hw 190 rfl) (wd hw 197 rfl) (by decide) pd___BI_B377 (argsL := [(.ref v), (.int n.toInt32)]) rfl rfl rfl (Wt := 1) (Nat.le_of_eq rfl) (cod_met hw A3) (by decide) (by decide) (by decide) (by decide) ?_
  intro T11 h12 F13 v14 W15 Q16
  obtain ⟨rfl, rfl, rfl⟩ := Q16
  have ez : lo8 (lo8 (XT.ushr (n.toInt32 - n.toInt32) 31)) = 0 := by rw [Int32.sub_self]; decide
  show G E x T11 (fr x 48 #[.val (.ref s), .val (.ref a), .val (.int (0 : Int32)), .val (.int n.toInt32), .val .null, .val (.ref v)] [(.int (lo8 (lo8 (XT.ushr (n.toInt32 - n.toInt32) 31)))), (.ref s)])
  refine w_putF W15 B d_ini4_48 hs (wd hw 25 rfl) Via.refl (fc.keep K3 nin0) (Es.keep K3) (Or.inr ⟨(wd hw 21 rfl), rfl, rfl⟩) (wd hw 5 rfl) (ty := .byte) (v' := (.int (0 : Int32))) (by decide) (by rw [ez]; rfl) rfl ?_
  intro T17 h18 W19 Y20 f21
  refine w_aloadN W19 B d_ini4_51 rfl rfl ?_
  refine w_aload W19 B d_ini4_52 rfl rfl ?_
  refine w_putF W19 B d_ini4_54 hs (wd hw 24 rfl) Via.refl ((fv.keep K3 nin0).other Y20 (Or.inr (slot_ne (Or.inr (wd hw 20 rfl)) (Or.inr (wd hw 21 rfl)) (t := (.array .byte)) (t' := .byte) (by decide) (by decide) (by decide)))) ((Es.keep K3).wr Y20) (Or.inr ⟨(wd hw 20 rfl), rfl, rfl⟩) (wd hw 5 rfl) (ty := (.array .byte)) (v' := (.ref v)) (by decide) rfl rfl ?_
  intro T22 h23 W24 Y25 f26
  have KK27 : Keep h h6 [s] := (Keep.refl h [s]).trans K3 all0
  have KK28 : Keep h h18 [s] := KK27.wr Y20 (Or.inl (List.Mem.head _))
  have KK29 : Keep h h23 [s] := KK28.wr Y25 (Or.inl (List.Mem.head _))
  exact w_return W24 B d_ini4_57 hQ (by decide) (by decide) (fun _ q => q) ⟨rfl, rfl, KK29, v, ⟨kv, (((Es.keep K3).wr Y20).wr Y25), f26, hC, Or.inl ⟨hL, (f21.other Y25 (Or.inr (slot_ne (Or.inr (wd hw 21 rfl)) (Or.inr (wd hw 20 rfl)) (t := .byte) (t' := (.array .byte)) (by decide) (by decide) (by decide)))), hcs ▸ ((A3.other Y20 (Ne.symm (Nat.ne_of_lt (Nat.lt_of_lt_of_le Es.lt gv)))).other Y25 (Ne.symm (Nat.ne_of_lt (Nat.lt_of_lt_of_le Es.lt gv))))⟩⟩, fun y hy => Nat.ne_of_lt (Nat.lt_of_lt_of_le (W.fOk hy).2 gv)⟩
set_option maxRecDepth 65536 in
set_option maxHeartbeats 4000000 in
theorem ini1_met {E : Gl} (hw : Tb E) {h : Heap} {F : List Addr} {s a : Addr} {ka : ClassId} {n : Nat} {cs : List Int32} (hcs : cs.length = n) (h1 : 1 ≤ n) (hcap : n ≤ 32) (hC : Ch cs) (hL : Lat cs) (hs : s ∈ F) (Es : Exa E.Z h s "java/lang/String") (fv : Fld E.Z h s "java/lang/String" "value" "[B" .null) (fc : Fld E.Z h s "java/lang/String" "coder" "B" (.int 0)) (Aa : Arv E.Z h a ka .char n.toInt32 (ints cs) (.int 0)) :
    Met E (⟨"java/lang/String", "<init>", "([C)V"⟩ : MethodName) jdk_42_method_3_code 2 none ({ frames := 3, cells := 1, slots := 32, locals := 52 } : Room) #[.ref s, .ref a] h F (QStr E cs s h F) := by
  refine met_of (by decide +kernel) fun x T hQ B W => ?_
  refine G.cast (g' := fr x 0 #[.val (.ref s), .val (.ref a)] []) (by simp [entryFrame, mkF, argsToLocals, Own.cat_r, Own.cat_i, Own.cat_j, Own.cat_n]) ?_
  refine w_aloadN W B d_ini1_0 rfl rfl ?_
  refine w_aloadN W B d_ini1_1 rfl rfl ?_
  refine w_iconst W B d_ini1_2 (v := (0 : Int32)) rfl ?_
  refine w_aloadN W B d_ini1_3 rfl rfl ?_
  refine w_arraylength W B d_ini1_4 Aa ?_
  refine w_null W B d_ini1_5 ?_
  refine w_special W B (y := ⟨"java/lang/String", "<init>", "([CIILjava/lang/Void;)V"⟩) d_ini1_6 rfl (wd hw 11 rfl) (wd hw 12 rfl) (wd hw 6 rfl) (wd hw 14 rfl) (by decide) pd___CIILjava_lang_Void__V941 (argsL := [(.ref a), (.int (0 : Int32)), (.int n.toInt32), .null]) rfl rfl rfl (Wt := 0) (Nat.le_of_eq rfl) (ini4_met hw hcs h1 hcap hC hL hs Es fv fc Aa) (by decide) (by decide) (by decide) (by decide) ?_
  intro T1 h2 F3 v4 W5 Q6
  obtain ⟨rfl, rfl, K4, v, S4, hv⟩ := Q6
  show G E x T1 (fr x 9 #[.val (.ref s), .val (.ref a)] [])
  exact w_return W5 B d_ini1_9 hQ (by decide) (by decide) (fun _ q => q) ⟨rfl, rfl, K4, v, S4, hv⟩
set_option maxRecDepth 65536 in
set_option maxHeartbeats 4000000 in
theorem ini4e_met {E : Gl} (hw : Tb E) {h : Heap} {F : List Addr} {s a : Addr} (hs : s ∈ F) (Es : Exa E.Z h s "java/lang/String") (fv : Fld E.Z h s "java/lang/String" "value" "[B" .null) (fc : Fld E.Z h s "java/lang/String" "coder" "B" (.int 0)) :
    Met E (⟨"java/lang/String", "<init>", "([CIILjava/lang/Void;)V"⟩ : MethodName) jdk_42_method_149_code 6 none ({ frames := 1, cells := 4, slots := 8, locals := 12 } : Room) #[.ref s, .ref a, .int 0, .int 0, .null] h F (QStr E [] s h F) := by
  refine met_of (by decide +kernel) fun x T hQ B W => ?_
  refine G.cast (g' := fr x 0 #[.val (.ref s), .val (.ref a), .val (.int (0 : Int32)), .val (.int (0 : Int32)), .val .null, .unset] []) (by simp [entryFrame, mkF, argsToLocals, Own.cat_r, Own.cat_i, Own.cat_j, Own.cat_n]) ?_
  refine w_aloadN W B d_ini4_0 rfl rfl ?_
  refine w_initO W B d_ini4_1 (wd hw 15 rfl) (wd hw 16 rfl) (wd hw 17 rfl) rfl (by decide) (Wt := 0) (Nat.le_of_eq rfl) (by decide) ?_
  intro T1 W2
  refine w_iloadN W2 B d_ini4_4 rfl ?_
  refine w_if_ne W2 B d_ini4_5 (fun q => q rfl |>.elim) (fun _ => ?_)
  show G E x T1 (fr x 8 #[.val (.ref s), .val (.ref a), .val (.int (0 : Int32)), .val (.int (0 : Int32)), .val .null, .unset] [])
  refine w_aloadN W2 B d_ini4_8 rfl rfl ?_
  refine w_ldcS W2 B (n := 0) (text := "") (vs := []) (z := 0) d_ini4_9 hw.2.2.1 (by rw [hw.2.2.2]; decide) (wd hw 18 rfl) (strAtoms hw) ⟨by decide, by decide⟩ (by decide) (by decide) (by decide) (by decide) (by decide) (by decide) ?_
  intro T3 h4 c5 v6 k7 W8 X9 E10 f11 f12 A13 n14
  show G E x T3 (fr x 11 #[.val (.ref s), .val (.ref a), .val (.int (0 : Int32)), .val (.int (0 : Int32)), .val .null, .unset] [(.ref c5), (.ref s)])
  refine w_getF W8 B d_ini4_11 (wd hw 24 rfl) Via.refl f12 ?_
  intro T15 W16
  refine w_putF W16 B d_ini4_14 hs (wd hw 24 rfl) Via.refl (fv.ext X9) (Es.ext X9) (Or.inr ⟨(wd hw 20 rfl), rfl, rfl⟩) (wd hw 5 rfl) (ty := (.array .byte)) (v' := (.ref v6)) (by decide) rfl rfl ?_
  intro T17 h18 W19 Y20 f21
  refine w_aloadN W19 B d_ini4_17 rfl rfl ?_
  refine w_ldcS W19 B (n := 0) (text := "") (vs := []) (z := 0) d_ini4_18 hw.2.2.1 (by rw [hw.2.2.2]; decide) (wd hw 18 rfl) (strAtoms hw) ⟨by decide, by decide⟩ (by decide) (by decide) (by decide) (by decide) (by decide) (by decide) ?_
  intro T22 h23 c24 v25 k26 W27 X28 E29 f30 f31 A32 n33
  show G E x T22 (fr x 20 #[.val (.ref s), .val (.ref a), .val (.int (0 : Int32)), .val (.int (0 : Int32)), .val .null, .unset] [(.ref c24), (.ref s)])
  refine w_getF W27 B d_ini4_20 (wd hw 25 rfl) Via.refl f30 ?_
  intro T34 W35
  refine w_putF W35 B d_ini4_23 hs (wd hw 25 rfl) Via.refl (((fc.ext X9).other Y20 (Or.inr (slot_ne (Or.inr (wd hw 21 rfl)) (Or.inr (wd hw 20 rfl)) (t := .byte) (t' := (.array .byte)) (by decide) (by decide) (by decide)))).ext X28) (((Es.ext X9).wr Y20).ext X28) (Or.inr ⟨(wd hw 21 rfl), rfl, rfl⟩) (wd hw 5 rfl) (ty := .byte) (v' := (.int (0 : Int32))) (by decide) rfl rfl ?_
  intro T36 h37 W38 Y39 f40
  have KK41 : Keep h h4 [s] := (Keep.refl h [s]).ext X9
  have KK42 : Keep h h18 [s] := KK41.wr Y20 (Or.inl (List.Mem.head _))
  have KK43 : Keep h h23 [s] := KK42.ext X28
  have KK44 : Keep h h37 [s] := KK43.wr Y39 (Or.inl (List.Mem.head _))
  exact w_return W38 B d_ini4_26 hQ (by decide) (by decide) (fun _ q => q) ⟨rfl, rfl, KK44, v6, ⟨_, ((((Es.ext X9).wr Y20).ext X28).wr Y39), ((f21.ext X28).other Y39 (Or.inr (slot_ne (Or.inr (wd hw 20 rfl)) (Or.inr (wd hw 21 rfl)) (t := (.array .byte)) (t' := .byte) (by decide) (by decide) (by decide)))), (fun _ q => nomatch q), Or.inl ⟨(fun _ q => nomatch q), f40, (((A13.other Y20 (Ne.symm (n14 _ hs).2)).ext X28).other Y39 (Ne.symm (n14 _ hs).2))⟩⟩, fun y hy => (n14 y hy).2⟩
set_option maxRecDepth 65536 in
set_option maxHeartbeats 4000000 in
theorem ini1e_met {E : Gl} (hw : Tb E) {h : Heap} {F : List Addr} {s a : Addr} {ka : ClassId} {vs : List Value} {dv : Value} (hs : s ∈ F) (Es : Exa E.Z h s "java/lang/String") (fv : Fld E.Z h s "java/lang/String" "value" "[B" .null) (fc : Fld E.Z h s "java/lang/String" "coder" "B" (.int 0)) (Aa : Arv E.Z h a ka .char (0 : Int32) vs dv) :
    Met E (⟨"java/lang/String", "<init>", "([C)V"⟩ : MethodName) jdk_42_method_3_code 2 none ({ frames := 2, cells := 4, slots := 8, locals := 29 } : Room) #[.ref s, .ref a] h F (QStr E [] s h F) := by
  refine met_of (by decide +kernel) fun x T hQ B W => ?_
  refine G.cast (g' := fr x 0 #[.val (.ref s), .val (.ref a)] []) (by simp [entryFrame, mkF, argsToLocals, Own.cat_r, Own.cat_i, Own.cat_j, Own.cat_n]) ?_
  refine w_aloadN W B d_ini1_0 rfl rfl ?_
  refine w_aloadN W B d_ini1_1 rfl rfl ?_
  refine w_iconst W B d_ini1_2 (v := (0 : Int32)) rfl ?_
  refine w_aloadN W B d_ini1_3 rfl rfl ?_
  refine w_arraylength W B d_ini1_4 Aa ?_
  refine w_null W B d_ini1_5 ?_
  refine w_special W B (y := ⟨"java/lang/String", "<init>", "([CIILjava/lang/Void;)V"⟩) d_ini1_6 rfl (wd hw 11 rfl) (wd hw 12 rfl) (wd hw 6 rfl) (wd hw 14 rfl) (by decide) pd___CIILjava_lang_Void__V941 (argsL := [(.ref a), (.int (0 : Int32)), (.int (0 : Int32)), .null]) rfl rfl rfl (Wt := 0) (Nat.le_of_eq rfl) (ini4e_met hw hs Es fv fc) (by decide) (by decide) (by decide) (by decide) ?_
  intro T1 h2 F3 v4 W5 Q6
  obtain ⟨rfl, rfl, K4, v, S4, hv⟩ := Q6
  show G E x T1 (fr x 9 #[.val (.ref s), .val (.ref a)] [])
  exact w_return W5 B d_ini1_9 hQ (by decide) (by decide) (fun _ q => q) ⟨rfl, rfl, K4, v, S4, hv⟩
set_option maxRecDepth 65536 in
set_option maxHeartbeats 4000000 in
theorem scod_met {E : Gl} (hw : Tb E) {h : Heap} {F : List Addr} {s : Addr} {c : Int32} (hc : nar .byte c = c) (fc : Fld E.Z h s "java/lang/String" "coder" "B" (.int c)) :
    Met E (⟨"java/lang/String", "coder", "()B"⟩ : MethodName) jdk_42_method_152_code 1 (some .byte) ({ frames := 0, cells := 0, slots := 0, locals := 0 } : Room) #[.ref s] h F (fun r h' F' => r = some (.int c) ∧ h = h' ∧ F = F') := by
  refine met_of (by decide +kernel) fun x T hQ B W => ?_
  refine G.cast (g' := fr x 0 #[.val (.ref s)] []) (by simp [entryFrame, mkF, argsToLocals, Own.cat_r, Own.cat_i, Own.cat_j, Own.cat_n]) ?_
  obtain ⟨z, Sc, hz⟩ := compact hw
  refine w_getS W B d_scod_0 (wd hw 68 rfl) Via.refl Sc ?_
  intro T1 W2
  refine w_if_eq W2 B d_scod_3 (fun q => absurd q hz) (fun _ => ?_)
  show G E x T1 (fr x 6 #[.val (.ref s)] [])
  refine w_aloadN W2 B d_scod_6 rfl rfl ?_
  refine w_getF W2 B d_scod_7 (wd hw 25 rfl) Via.refl fc ?_
  intro T3 W4
  refine w_goto W4 B d_scod_10 ?_
  exact w_ireturnN W4 B d_scod_14 (Or.inr (Or.inl rfl)) (u := c) hc hQ (by decide) (by decide) (fun _ q => q) ⟨rfl, rfl, rfl⟩
set_option maxRecDepth 65536 in
set_option maxHeartbeats 4000000 in
theorem slat_met {E : Gl} (hw : Tb E) {h : Heap} {F : List Addr} {s : Addr} (fc : Fld E.Z h s "java/lang/String" "coder" "B" (.int 0)) :
    Met E (⟨"java/lang/String", "isLatin1", "()Z"⟩ : MethodName) jdk_42_method_154_code 1 (some .boolean) ({ frames := 0, cells := 0, slots := 0, locals := 0 } : Room) #[.ref s] h F (fun r h' F' => r = some (.int 1) ∧ h = h' ∧ F = F') := by
  refine met_of (by decide +kernel) fun x T hQ B W => ?_
  refine G.cast (g' := fr x 0 #[.val (.ref s)] []) (by simp [entryFrame, mkF, argsToLocals, Own.cat_r, Own.cat_i, Own.cat_j, Own.cat_n]) ?_
  obtain ⟨z, Sc, hz⟩ := compact hw
  refine w_getS W B d_slat_0 (wd hw 68 rfl) Via.refl Sc ?_
  intro T1 W2
  refine w_if_eq W2 B d_slat_3 (fun q => absurd q hz) (fun _ => ?_)
  show G E x T1 (fr x 6 #[.val (.ref s)] [])
  refine w_aloadN W2 B d_slat_6 rfl rfl ?_
  refine w_getF W2 B d_slat_7 (wd hw 25 rfl) Via.refl fc ?_
  intro T3 W4
  refine w_if_ne W4 B d_slat_10 (fun q => q rfl |>.elim) (fun _ => ?_)
  show G E x T3 (fr x 13 #[.val (.ref s)] [])
  refine w_iconst W4 B d_slat_13 (v := (1 : Int32)) rfl ?_
  refine w_goto W4 B d_slat_14 ?_
  exact w_ireturnN W4 B d_slat_18 (Or.inl rfl) (u := 1) rfl hQ (by decide) (by decide) (fun _ q => q) ⟨rfl, rfl, rfl⟩
set_option maxRecDepth 65536 in
set_option maxHeartbeats 4000000 in
theorem slen_met {E : Gl} (hw : Tb E) {h : Heap} {F : List Addr} {s v : Addr} {k : ClassId} {cs : List Int32} (S : StrL E h s v k cs) :
    Met E (⟨"java/lang/String", "length", "()I"⟩ : MethodName) jdk_42_method_54_code 1 (some .int) ({ frames := 1, cells := 0, slots := 0, locals := 13 } : Room) #[.ref s] h F (fun r h' F' => r = some (.int cs.length.toInt32) ∧ h = h' ∧ F = F') := by
  refine met_of (by decide +kernel) fun x T hQ B W => ?_
  refine G.cast (g' := fr x 0 #[.val (.ref s)] []) (by simp [entryFrame, mkF, argsToLocals, Own.cat_r, Own.cat_i, Own.cat_j, Own.cat_n]) ?_
  refine w_aloadN W B d_slen_0 rfl rfl ?_
  refine w_getF W B d_slen_1 (wd hw 24 rfl) Via.refl S.2.1 ?_
  intro T1 W2
  refine w_arraylength W2 B d_slen_4 S.2.2.2 ?_
  refine w_aloadN W2 B d_slen_5 rfl rfl ?_
  refine w_virtual W2 B (y := ⟨"java/lang/String", "coder", "()B"⟩) (z := ⟨"java/lang/String", "coder", "()B"⟩) d_slen_6 (wd hw 63 rfl) (wd hw 64 rfl) (nf_sel (wd hw 66 rfl)) (wd hw 66 rfl) (wd hw 65 rfl) (wd hw 6 rfl) (wd hw 67 rfl) (by decide) S.1 pd___B147 (argsL := []) rfl rfl rfl (Wt := 1) (Nat.le_of_eq rfl) (scod_met hw (c := 0) rfl S.2.2.1) (by decide) (by decide) (by decide) (by decide) ?_
  intro T3 h4 F5 v6 W7 Q8
  obtain ⟨rfl, rfl, rfl⟩ := Q8
  show G E x T3 (fr x 9 #[.val (.ref s)] [(.int (0 : Int32)), (.int cs.length.toInt32)])
  refine w_ishr W7 B d_slen_9 ?_
  exact w_ireturn W7 B d_slen_10 hQ (by decide) (by decide) (fun _ q => q) ⟨by rw [shr0], rfl, rfl⟩
set_option maxRecDepth 65536 in
set_option maxHeartbeats 4000000 in
theorem asbi_met {E : Gl} (hw : Tb E) {h : Heap} {F : List Addr} {s : Addr} (hs : s ∈ F) (Es : Exa E.Z h s "java/lang/StringBuilder") (fv : Fld E.Z h s "java/lang/AbstractStringBuilder" "value" "[B" .null) (fc : Fld E.Z h s "java/lang/AbstractStringBuilder" "coder" "B" (.int 0)) (fn : Fld E.Z h s "java/lang/AbstractStringBuilder" "count" "I" (.int 0)) :
    Met E (⟨"java/lang/AbstractStringBuilder", "<init>", "(I)V"⟩ : MethodName) jdk_68_method_2_code 2 none ({ frames := 1, cells := 1, slots := 16, locals := 12 } : Room) #[.ref s, .int 16] h F (fun r h' F' => ∃ (v : Addr) (k : ClassId), r = none ∧ v :: F = F' ∧ Keep h h' [s] ∧ h.size ≤ v ∧ SbV E h' s v k []) := by
  refine met_of (by decide +kernel) fun x T hQ B W => ?_
  refine G.cast (g' := fr x 0 #[.val (.ref s), .val (.int (16 : Int32))] []) (by simp [entryFrame, mkF, argsToLocals, Own.cat_r, Own.cat_i, Own.cat_j, Own.cat_n]) ?_
  obtain ⟨z, Sc, hz⟩ := compact hw
  refine w_aloadN W B d_asbi_0 rfl rfl ?_
  refine w_initO W B d_asbi_1 (wd hw 42 rfl) (wd hw 16 rfl) (wd hw 17 rfl) rfl (by decide) (Wt := 0) (Nat.le_of_eq rfl) (by decide) ?_
  intro T1 W2
  refine w_getS W2 B d_asbi_4 (wd hw 43 rfl) Via.refl Sc ?_
  intro T3 W4
  refine w_if_eq W4 B d_asbi_7 (fun q => absurd q hz) (fun _ => ?_)
  show G E x T3 (fr x 10 #[.val (.ref s), .val (.int (16 : Int32))] [])
  refine w_aloadN W4 B d_asbi_10 rfl rfl ?_
  refine w_iloadN W4 B d_asbi_11 rfl ?_
  refine w_newarray W4 B d_asbi_12 rfl (wd hw 19 rfl) (by decide) (cap := 16) (by decide) (by decide) (by decide) (by decide) ?_
  intro T5 h6 b7 k8 W9 g10 X11 A12
  have A13 : Arv E.Z h6 b7 k8 .byte (16 : Int32) [(.int (0 : Int32)), (.int (0 : Int32)), (.int (0 : Int32)), (.int (0 : Int32)), (.int (0 : Int32)), (.int (0 : Int32)), (.int (0 : Int32)), (.int (0 : Int32)), (.int (0 : Int32)), (.int (0 : Int32)), (.int (0 : Int32)), (.int (0 : Int32)), (.int (0 : Int32)), (.int (0 : Int32)), (.int (0 : Int32)), (.int (0 : Int32))] (.int (0 : Int32)) := A12.pad (pad_rep [] (.int (0 : Int32)) 16)
  show G E x T5 (fr x 14 #[.val (.ref s), .val (.int (16 : Int32))] [(.ref b7), (.ref s)])
  refine w_putF W9 B d_asbi_14 (List.Mem.tail _ hs) (wd hw 44 rfl) Via.refl (fv.ext X11) (Es.ext X11) (Or.inl (wd hw 45 rfl)) (wd hw 31 rfl) (ty := (.array .byte)) (v' := (.ref b7)) (by decide) rfl rfl ?_
  intro T14 h15 W16 Y17 f18
  refine w_aloadN W16 B d_asbi_17 rfl rfl ?_
  refine w_iconst W16 B d_asbi_18 (v := (0 : Int32)) rfl ?_
  refine w_putF W16 B d_asbi_19 (List.Mem.tail _ hs) (wd hw 46 rfl) Via.refl ((fc.ext X11).other Y17 (Or.inr (slot_ne (Or.inl (wd hw 47 rfl)) (Or.inl (wd hw 45 rfl)) (t := .byte) (t' := (.array .byte)) (by decide) (by decide) (by decide)))) ((Es.ext X11).wr Y17) (Or.inl (wd hw 47 rfl)) (wd hw 31 rfl) (ty := .byte) (v' := (.int (0 : Int32))) (by decide) rfl rfl ?_
  intro T19 h20 W21 Y22 f23
  refine w_goto W21 B d_asbi_22 ?_
  have KK24 : Keep h h6 [s] := (Keep.refl h [s]).ext X11
  have KK25 : Keep h h15 [s] := KK24.wr Y17 (Or.inl (List.Mem.head _))
  have KK26 : Keep h h20 [s] := KK25.wr Y22 (Or.inl (List.Mem.head _))
  exact w_return W21 B d_asbi_38 hQ (by decide) (by decide) (fun _ q => q) ⟨b7, _, rfl, rfl, KK26, Nat.le_of_eq g10.symm, ⟨(((Es.ext X11).wr Y17).wr Y22), (f18.other Y22 (Or.inr (slot_ne (Or.inl (wd hw 45 rfl)) (Or.inl (wd hw 47 rfl)) (t := (.array .byte)) (t' := .byte) (by decide) (by decide) (by decide)))), f23, (((fn.ext X11).other Y17 (Or.inr (slot_ne (Or.inl (wd hw 70 rfl)) (Or.inl (wd hw 45 rfl)) (t := .int) (t' := (.array .byte)) (by decide) (by decide) (by decide)))).other Y22 (Or.inr (slot_ne (Or.inl (wd hw 70 rfl)) (Or.inl (wd hw 47 rfl)) (t := .int) (t' := .byte) (by decide) (by decide) (by decide)))), ((A13.other Y17 (Ne.symm (Own.ne_new Es.lt g10))).other Y22 (Ne.symm (Own.ne_new Es.lt g10)))⟩⟩
set_option maxRecDepth 65536 in
set_option maxHeartbeats 4000000 in
theorem sbi_met {E : Gl} (hw : Tb E) {h : Heap} {F : List Addr} {s : Addr} (hs : s ∈ F) (Es : Exa E.Z h s "java/lang/StringBuilder") (fv : Fld E.Z h s "java/lang/AbstractStringBuilder" "value" "[B" .null) (fc : Fld E.Z h s "java/lang/AbstractStringBuilder" "coder" "B" (.int 0)) (fn : Fld E.Z h s "java/lang/AbstractStringBuilder" "count" "I" (.int 0)) :
    Met E (⟨"java/lang/StringBuilder", "<init>", "()V"⟩ : MethodName) jdk_67_method_1_code 1 none ({ frames := 2, cells := 1, slots := 16, locals := 25 } : Room) #[.ref s] h F (fun r h' F' => ∃ (v : Addr) (k : ClassId), r = none ∧ v :: F = F' ∧ Keep h h' [s] ∧ h.size ≤ v ∧ SbV E h' s v k []) := by
  refine met_of (by decide +kernel) fun x T hQ B W => ?_
  refine G.cast (g' := fr x 0 #[.val (.ref s)] []) (by simp [entryFrame, mkF, argsToLocals, Own.cat_r, Own.cat_i, Own.cat_j, Own.cat_n]) ?_
  refine w_aloadN W B d_sbi_0 rfl rfl ?_
  refine w_bipush W B d_sbi_1 (v := (16 : Int32)) rfl ?_
  refine w_special W B (y := ⟨"java/lang/AbstractStringBuilder", "<init>", "(I)V"⟩) d_sbi_3 rfl (wd hw 36 rfl) (wd hw 37 rfl) (wd hw 40 rfl) (wd hw 41 rfl) (by decide) pd__I_V240 (argsL := [(.int (16 : Int32))]) rfl rfl rfl (Wt := 0) (Nat.le_of_eq rfl) (asbi_met hw hs Es fv fc fn) (by decide) (by decide) (by decide) (by decide) ?_
  intro T1 h2 F3 v4 W5 Q6
  obtain ⟨v, k, rfl, rfl, K, g, S⟩ := Q6
  show G E x T1 (fr x 6 #[.val (.ref s)] [])
  exact w_return W5 B d_sbi_6 hQ (by decide) (by decide) (fun _ q => q) ⟨v, k, rfl, rfl, K, g, S⟩
set_option maxRecDepth 65536 in
set_option maxHeartbeats 4000000 in
theorem ens_met {E : Gl} (hw : Tb E) {h : Heap} {F : List Addr} {s v : Addr} {k : ClassId} {cs : List Int32} {m : Int32} (S : SbV E h s v k cs) (hm : ¬ (0 : Int32) < m - ((16 : Int32) >>> ((0 : Int32) &&& 31))) :
    Met E (⟨"java/lang/AbstractStringBuilder", "ensureCapacityInternal", "(I)V"⟩ : MethodName) jdk_68_method_9_code 3 none ({ frames := 0, cells := 0, slots := 0, locals := 0 } : Room) #[.ref s, .int m] h F (fun r h' F' => r = none ∧ h = h' ∧ F = F') := by
  refine met_of (by decide +kernel) fun x T hQ B W => ?_
  refine G.cast (g' := fr x 0 #[.val (.ref s), .val (.int m), .unset] []) (by simp [entryFrame, mkF, argsToLocals, Own.cat_r, Own.cat_i, Own.cat_j, Own.cat_n]) ?_
  refine w_aloadN W B d_ens_0 rfl rfl ?_
  refine w_getF W B d_ens_1 (wd hw 44 rfl) Via.refl S.2.1 ?_
  intro T1 W2
  refine w_arraylength W2 B d_ens_4 S.2.2.2.2 ?_
  refine w_aloadN W2 B d_ens_5 rfl rfl ?_
  refine w_getF W2 B d_ens_6 (wd hw 46 rfl) Via.refl S.2.2.1 ?_
  intro T3 W4
  refine w_ishr W4 B d_ens_9 ?_
  refine w_istoreN W4 B d_ens_10 (Ls' := #[.val (.ref s), .val (.int m), .val (.int ((16 : Int32) >>> ((0 : Int32) &&& 31)))]) rfl ?_
  refine w_iloadN W4 B d_ens_11 rfl ?_
  refine w_iloadN W4 B d_ens_12 rfl ?_
  refine w_isub W4 B d_ens_13 ?_
  refine w_if_le W4 B d_ens_14 (fun _ => ?_) (fun q => absurd q hm)
  show G E x T3 (fr x 38 #[.val (.ref s), .val (.int m), .val (.int ((16 : Int32) >>> ((0 : Int32) &&& 31)))] [])
  exact w_return W4 B d_ens_38 hQ (by decide) (by decide) (fun _ q => q) ⟨rfl, rfl, rfl⟩
set_option maxRecDepth 65536 in
set_option maxHeartbeats 4000000 in
theorem infl_met {E : Gl} (hw : Tb E) {h : Heap} {F : List Addr} {s v t tv : Addr} {k kt : ClassId} {cs ds : List Int32} (S : SbV E h s v k cs) (St : StrL E h t tv kt ds) :
    Met E (⟨"java/lang/AbstractStringBuilder", "inflateIfNeededFor", "(Ljava/lang/String;)V"⟩ : MethodName) jdk_68_method_71_code 2 none ({ frames := 1, cells := 0, slots := 0, locals := 13 } : Room) #[.ref s, .ref t] h F (fun r h' F' => r = none ∧ h = h' ∧ F = F') := by
  refine met_of (by decide +kernel) fun x T hQ B W => ?_
  refine G.cast (g' := fr x 0 #[.val (.ref s), .val (.ref t)] []) (by simp [entryFrame, mkF, argsToLocals, Own.cat_r, Own.cat_i, Own.cat_j, Own.cat_n]) ?_
  obtain ⟨z, Sc, hz⟩ := compact hw
  refine w_getS W B d_infl_0 (wd hw 43 rfl) Via.refl Sc ?_
  intro T1 W2
  refine w_if_eq W2 B d_infl_3 (fun q => absurd q hz) (fun _ => ?_)
  show G E x T1 (fr x 6 #[.val (.ref s), .val (.ref t)] [])
  refine w_aloadN W2 B d_infl_6 rfl rfl ?_
  refine w_getF W2 B d_infl_7 (wd hw 46 rfl) Via.refl S.2.2.1 ?_
  intro T3 W4
  refine w_aloadN W4 B d_infl_10 rfl rfl ?_
  refine w_virtual W4 B (y := ⟨"java/lang/String", "coder", "()B"⟩) (z := ⟨"java/lang/String", "coder", "()B"⟩) d_infl_11 (wd hw 86 rfl) (wd hw 64 rfl) (nf_sel (wd hw 66 rfl)) (wd hw 66 rfl) (wd hw 65 rfl) (wd hw 6 rfl) (wd hw 67 rfl) (by decide) St.1 pd___B147 (argsL := []) rfl rfl rfl (Wt := 1) (Nat.le_of_eq rfl) (scod_met hw (c := 0) rfl St.2.2.1) (by decide) (by decide) (by decide) (by decide) ?_
  intro T5 h6 F7 v8 W9 Q10
  obtain ⟨rfl, rfl, rfl⟩ := Q10
  show G E x T5 (fr x 14 #[.val (.ref s), .val (.ref t)] [(.int (0 : Int32)), (.int (0 : Int32))])
  refine w_icmp_eq W9 B d_infl_14 (fun _ => ?_) (fun q => q rfl |>.elim)
  show G E x T5 (fr x 21 #[.val (.ref s), .val (.ref t)] [])
  exact w_return W9 B d_infl_21 hQ (by decide) (by decide) (fun _ q => q) ⟨rfl, rfl, rfl⟩
set_option maxRecDepth 65536 in
set_option maxHeartbeats 4000000 in
theorem gby_met {E : Gl} (hw : Tb E) {h : Heap} {F : List Addr} {v t tv : Addr} {k kt : ClassId} {cs ds : List Int32} (hv : v ∈ F) (St : StrL E h t tv kt ds) (Av : Arv E.Z h v k .byte (16 : Int32) (b8 cs ++ List.replicate (16 - cs.length) (Value.int 0)) (.int 0)) (hlen : cs.length + ds.length ≤ 16) :
    Met E (⟨"java/lang/String", "getBytes", "([BIB)V"⟩ : MethodName) jdk_42_method_147_code 4 none ({ frames := 1, cells := 0, slots := 0, locals := 18 } : Room) #[.ref t, .ref v, .int cs.length.toInt32, .int 0] h F (fun r h' F' => r = none ∧ F = F' ∧ Keep h h' [v] ∧ Arv E.Z h' v k .byte (16 : Int32) (b8 (cs ++ ds) ++ List.replicate (16 - (cs ++ ds).length) (Value.int 0)) (.int 0)) := by
  refine met_of (by decide +kernel) fun x T hQ B W => ?_
  refine G.cast (g' := fr x 0 #[.val (.ref t), .val (.ref v), .val (.int cs.length.toInt32), .val (.int (0 : Int32))] []) (by simp [entryFrame, mkF, argsToLocals, Own.cat_r, Own.cat_i, Own.cat_j, Own.cat_n]) ?_
  have hc : cs.length < 2 ^ 31 := by omega
  have hd : ds.length < 2 ^ 31 := by omega
  refine w_aloadN W B d_gby_0 rfl rfl ?_
  refine w_virtual W B (y := ⟨"java/lang/String", "coder", "()B"⟩) (z := ⟨"java/lang/String", "coder", "()B"⟩) d_gby_1 (wd hw 63 rfl) (wd hw 64 rfl) (nf_sel (wd hw 66 rfl)) (wd hw 66 rfl) (wd hw 65 rfl) (wd hw 6 rfl) (wd hw 67 rfl) (by decide) St.1 pd___B147 (argsL := []) rfl rfl rfl (Wt := 0) (Nat.le_of_eq rfl) (scod_met hw (c := 0) rfl St.2.2.1) (by decide) (by decide) (by decide) (by decide) ?_
  intro T1 h2 F3 v4 W5 Q6
  obtain ⟨rfl, rfl, rfl⟩ := Q6
  show G E x T1 (fr x 4 #[.val (.ref t), .val (.ref v), .val (.int cs.length.toInt32), .val (.int (0 : Int32))] [(.int (0 : Int32))])
  refine w_iloadN W5 B d_gby_4 rfl ?_
  refine w_icmp_ne W5 B d_gby_5 (fun q => q rfl |>.elim) (fun _ => ?_)
  show G E x T1 (fr x 8 #[.val (.ref t), .val (.ref v), .val (.int cs.length.toInt32), .val (.int (0 : Int32))] [])
  refine w_aloadN W5 B d_gby_8 rfl rfl ?_
  refine w_getF W5 B d_gby_9 (wd hw 24 rfl) Via.refl St.2.1 ?_
  intro T7 W8
  refine w_iconst W8 B d_gby_12 (v := (0 : Int32)) rfl ?_
  refine w_aloadN W8 B d_gby_13 rfl rfl ?_
  refine w_iloadN W8 B d_gby_14 rfl ?_
  refine w_iloadN W8 B d_gby_15 rfl ?_
  refine w_ishl W8 B d_gby_16 ?_
  rw [shl0]
  show G E x T7 (fr x 17 #[.val (.ref t), .val (.ref v), .val (.int cs.length.toInt32), .val (.int (0 : Int32))] [(.int cs.length.toInt32), (.ref v), (.int (0 : Int32)), (.ref tv)])
  refine w_aloadN W8 B d_gby_17 rfl rfl ?_
  refine w_getF W8 B d_gby_18 (wd hw 24 rfl) Via.refl St.2.1 ?_
  intro T9 W10
  refine w_arraylength W10 B d_gby_21 St.2.2.2 ?_
  refine w_arraycopy W10 B d_gby_22 (wd hw 92 rfl) (wd hw 95 rfl) (wd hw 93 rfl) (wd hw 94 rfl) hv St.2.2.2 Av rfl (by decide) (n_nn hc) (n_nn hd) (by rw [n_clamp hd]; exact Nat.le_of_eq (Nat.zero_add _)) (by rw [n_clamp hc, n_clamp hd]; exact hlen) (us := (b8 ds).take ds.length) (us_all hd (Nat.le_of_eq (b8_len ds).symm)) (by rw [n_clamp hc, n_clamp hd, List.length_append, b8_len, List.length_replicate]; omega) rfl (by decide) (Wt := 0) (Nat.le_of_eq rfl) (by decide) ?_
  intro T11 h12 W13 K14 A15
  have A16 : Arv E.Z h12 v k .byte (16 : Int32) (b8 (cs ++ ds) ++ List.replicate (16 - (cs ++ ds).length) (Value.int 0)) (.int 0) := (put_b8 hlen) ▸ A15
  show G E x T11 (fr x 25 #[.val (.ref t), .val (.ref v), .val (.int cs.length.toInt32), .val (.int (0 : Int32))] [])
  refine w_goto W13 B d_gby_25 ?_
  have KK17 : Keep h h12 [v] := (Keep.refl h [v]).trans K14 (allS (Or.inl (List.Mem.head _)) all0)
  exact w_return W13 B d_gby_43 hQ (by decide) (by decide) (fun _ q => q) ⟨rfl, rfl, KK17, A16⟩
set_option maxRecDepth 65536 in
set_option maxHeartbeats 4000000 in
theorem pst_met {E : Gl} (hw : Tb E) {h : Heap} {F : List Addr} {s v t tv : Addr} {k kt : ClassId} {cs ds : List Int32} (hv : v ∈ F) (S : SbV E h s v k cs) (St : StrL E h t tv kt ds) (hlen : cs.length + ds.length ≤ 16) :
    Met E (⟨"java/lang/AbstractStringBuilder", "putStringAt", "(ILjava/lang/String;)V"⟩ : MethodName) jdk_68_method_73_code 3 none ({ frames := 2, cells := 0, slots := 0, locals := 33 } : Room) #[.ref s, .int cs.length.toInt32, .ref t] h F (fun r h' F' => r = none ∧ F = F' ∧ Keep h h' [v] ∧ Arv E.Z h' v k .byte (16 : Int32) (b8 (cs ++ ds) ++ List.replicate (16 - (cs ++ ds).length) (Value.int 0)) (.int 0)) := by
  refine met_of (by decide +kernel) fun x T hQ B W => ?_
  refine G.cast (g' := fr x 0 #[.val (.ref s), .val (.int cs.length.toInt32), .val (.ref t)] []) (by simp [entryFrame, mkF, argsToLocals, Own.cat_r, Own.cat_i, Own.cat_j, Own.cat_n]) ?_
  refine w_aloadN W B d_pst_0 rfl rfl ?_
  refine w_aloadN W B d_pst_1 rfl rfl ?_
  refine w_private W B (y := ⟨"java/lang/AbstractStringBuilder", "inflateIfNeededFor", "(Ljava/lang/String;)V"⟩) d_pst_2 (wd hw 81 rfl) (wd hw 82 rfl) (wd hw 83 rfl) (nf_z (wd hw 84 rfl)) (wd hw 40 rfl) (wd hw 85 rfl) (by decide) S.1 pd__Ljava_lang_String__V866 (argsL := [(.ref t)]) rfl rfl rfl (Wt := 0) (Nat.le_of_eq rfl) (infl_met hw S St) (by decide) (by decide) (by decide) (by decide) ?_
  intro T1 h2 F3 v4 W5 Q6
  obtain ⟨rfl, rfl, rfl⟩ := Q6
  show G E x T1 (fr x 5 #[.val (.ref s), .val (.int cs.length.toInt32), .val (.ref t)] [])
  refine w_aloadN W5 B d_pst_5 rfl rfl ?_
  refine w_aloadN W5 B d_pst_6 rfl rfl ?_
  refine w_getF W5 B d_pst_7 (wd hw 44 rfl) Via.refl S.2.1 ?_
  intro T7 W8
  refine w_iloadN W8 B d_pst_10 rfl ?_
  refine w_aloadN W8 B d_pst_11 rfl rfl ?_
  refine w_getF W8 B d_pst_12 (wd hw 46 rfl) Via.refl S.2.2.1 ?_
  intro T9 W10
  refine w_virtual W10 B (y := ⟨"java/lang/String", "getBytes", "([BIB)V"⟩) (z := ⟨"java/lang/String", "getBytes", "([BIB)V"⟩) d_pst_15 (wd hw 87 rfl) (wd hw 88 rfl) (nf_sel (wd hw 90 rfl)) (wd hw 90 rfl) (wd hw 89 rfl) (wd hw 6 rfl) (wd hw 91 rfl) (by decide) St.1 pd___BIB_V463 (argsL := [(.ref v), (.int cs.length.toInt32), (.int (0 : Int32))]) rfl rfl rfl (Wt := 0) (Nat.le_of_eq rfl) (gby_met hw hv St S.2.2.2.2 hlen) (by decide) (by decide) (by decide) (by decide) ?_
  intro T11 h12 F13 v14 W15 Q16
  obtain ⟨rfl, rfl, K1, A1⟩ := Q16
  show G E x T11 (fr x 18 #[.val (.ref s), .val (.int cs.length.toInt32), .val (.ref t)] [])
  exact w_return W15 B d_pst_18 hQ (by decide) (by decide) (fun _ q => q) ⟨rfl, rfl, K1, A1⟩
set_option maxRecDepth 65536 in
set_option maxHeartbeats 4000000 in
theorem aap_met {E : Gl} (hw : Tb E) {h : Heap} {F : List Addr} {s v t tv : Addr} {k kt : ClassId} {cs ds : List Int32} (hs : s ∈ F) (hv : v ∈ F) (S : SbV E h s v k cs) (St : StrL E h t tv kt ds) (hlen : cs.length + ds.length ≤ 16) :
    Met E (⟨"java/lang/AbstractStringBuilder", "append", "(Ljava/lang/String;)Ljava/lang/AbstractStringBuilder;"⟩ : MethodName) jdk_68_method_22_code 3 (some (.object "java/lang/AbstractStringBuilder")) ({ frames := 3, cells := 0, slots := 0, locals := 47 } : Room) #[.ref s, .ref t] h F (fun r h' F' => r = some (.ref s) ∧ F = F' ∧ Keep h h' [s, v] ∧ SbV E h' s v k (cs ++ ds)) := by
  refine met_of (by decide +kernel) fun x T hQ B W => ?_
  refine G.cast (g' := fr x 0 #[.val (.ref s), .val (.ref t), .unset] []) (by simp [entryFrame, mkF, argsToLocals, Own.cat_r, Own.cat_i, Own.cat_j, Own.cat_n]) ?_
  refine w_aloadN W B d_aap_0 rfl rfl ?_
  refine w_ifnonnull_ref W B d_aap_1 ?_
  refine w_aloadN W B d_aap_9 rfl rfl ?_
  refine w_virtual W B (y := ⟨"java/lang/String", "length", "()I"⟩) (z := ⟨"java/lang/String", "length", "()I"⟩) d_aap_10 (wd hw 58 rfl) (wd hw 59 rfl) (nf_sel (wd hw 61 rfl)) (wd hw 61 rfl) (wd hw 60 rfl) (wd hw 6 rfl) (wd hw 62 rfl) (by decide) St.1 pd___I154 (argsL := []) rfl rfl rfl (Wt := 0) (Nat.le_of_eq rfl) (slen_met hw St) (by decide) (by decide) (by decide) (by decide) ?_
  intro T1 h2 F3 v4 W5 Q6
  obtain ⟨rfl, rfl, rfl⟩ := Q6
  show G E x T1 (fr x 13 #[.val (.ref s), .val (.ref t), .unset] [(.int ds.length.toInt32)])
  refine w_istoreN W5 B d_aap_13 (Ls' := #[.val (.ref s), .val (.ref t), .val (.int ds.length.toInt32)]) rfl ?_
  refine w_aloadN W5 B d_aap_14 rfl rfl ?_
  refine w_aloadN W5 B d_aap_15 rfl rfl ?_
  refine w_getF W5 B d_aap_16 (wd hw 69 rfl) Via.refl S.2.2.2.1 ?_
  intro T7 W8
  refine w_iloadN W8 B d_aap_19 rfl ?_
  refine w_iadd W8 B d_aap_20 ?_
  refine w_private W8 B (y := ⟨"java/lang/AbstractStringBuilder", "ensureCapacityInternal", "(I)V"⟩) d_aap_21 (wd hw 71 rfl) (wd hw 72 rfl) (wd hw 73 rfl) (nf_z (wd hw 74 rfl)) (wd hw 40 rfl) (wd hw 75 rfl) (by decide) S.1 pd__I_V240 (argsL := [(.int (cs.length.toInt32 + ds.length.toInt32))]) rfl rfl rfl (Wt := 0) (Nat.le_of_eq rfl) (ens_met hw S (by rw [n_add]; exact ens_ok hlen)) (by decide) (by decide) (by decide) (by decide) ?_
  intro T9 h10 F11 v12 W13 Q14
  obtain ⟨rfl, rfl, rfl⟩ := Q14
  show G E x T9 (fr x 24 #[.val (.ref s), .val (.ref t), .val (.int ds.length.toInt32)] [])
  refine w_aloadN W13 B d_aap_24 rfl rfl ?_
  refine w_aloadN W13 B d_aap_25 rfl rfl ?_
  refine w_getF W13 B d_aap_26 (wd hw 69 rfl) Via.refl S.2.2.2.1 ?_
  intro T15 W16
  refine w_aloadN W16 B d_aap_29 rfl rfl ?_
  refine w_private W16 B (y := ⟨"java/lang/AbstractStringBuilder", "putStringAt", "(ILjava/lang/String;)V"⟩) d_aap_30 (wd hw 76 rfl) (wd hw 77 rfl) (wd hw 78 rfl) (nf_z (wd hw 79 rfl)) (wd hw 40 rfl) (wd hw 80 rfl) (by decide) S.1 pd__ILjava_lang_String__V939 (argsL := [(.int cs.length.toInt32), (.ref t)]) rfl rfl rfl (Wt := 0) (Nat.le_of_eq rfl) (pst_met hw hv S St hlen) (by decide) (by decide) (by decide) (by decide) ?_
  intro T17 h18 F19 v20 W21 Q22
  obtain ⟨rfl, rfl, K1, A1⟩ := Q22
  show G E x T17 (fr x 33 #[.val (.ref s), .val (.ref t), .val (.int ds.length.toInt32)] [])
  refine w_aloadN W21 B d_aap_33 rfl rfl ?_
  refine w_dup W21 B d_aap_34 rfl ?_
  refine w_getF W21 B d_aap_35 (wd hw 69 rfl) Via.refl (S.2.2.2.1.keep K1 (ninS (Exa.neArv S.1 S.2.2.2.2 (wd hw 31 rfl)) nin0)) ?_
  intro T23 W24
  refine w_iloadN W24 B d_aap_38 rfl ?_
  refine w_iadd W24 B d_aap_39 ?_
  refine w_putF W24 B d_aap_40 hs (wd hw 69 rfl) Via.refl (S.2.2.2.1.keep K1 (ninS (Exa.neArv S.1 S.2.2.2.2 (wd hw 31 rfl)) nin0)) (S.1.keep K1) (Or.inl (wd hw 70 rfl)) (wd hw 31 rfl) (ty := .int) (v' := (.int (cs.length.toInt32 + ds.length.toInt32))) (by decide) rfl rfl ?_
  intro T25 h26 W27 Y28 f29
  refine w_aloadN W27 B d_aap_43 rfl rfl ?_
  have KK30 : Keep h h18 [s, v] := (Keep.refl h [s, v]).trans K1 (allS (Or.inl (List.Mem.tail _ (List.Mem.head _))) all0)
  have KK31 : Keep h h26 [s, v] := KK30.wr Y28 (Or.inl (List.Mem.head _))
  have fN : Fld E.Z h26 s "java/lang/AbstractStringBuilder" "count" "I" (.int (cs ++ ds).length.toInt32) := by rw [List.length_append, ← n_add]; exact f29
  exact w_areturn W27 B d_aap_44 rfl rfl hQ (by decide) (by decide) (fun _ q => q) ⟨rfl, rfl, KK31, ⟨((S.1.keep K1).wr Y28), ((S.2.1.keep K1 (ninS (Exa.neArv S.1 S.2.2.2.2 (wd hw 31 rfl)) nin0)).other Y28 (Or.inr (slot_ne (Or.inl (wd hw 45 rfl)) (Or.inl (wd hw 70 rfl)) (t := (.array .byte)) (t' := .int) (by decide) (by decide) (by decide)))), ((S.2.2.1.keep K1 (ninS (Exa.neArv S.1 S.2.2.2.2 (wd hw 31 rfl)) nin0)).other Y28 (Or.inr (slot_ne (Or.inl (wd hw 47 rfl)) (Or.inl (wd hw 70 rfl)) (t := .byte) (t' := .int) (by decide) (by decide) (by decide)))), fN, (A1.other Y28 (Ne.symm (Exa.neArv S.1 S.2.2.2.2 (wd hw 31 rfl))))⟩⟩
set_option maxRecDepth 65536 in
set_option maxHeartbeats 4000000 in
theorem sap_met {E : Gl} (hw : Tb E) {h : Heap} {F : List Addr} {s v t tv : Addr} {k kt : ClassId} {cs ds : List Int32} (hs : s ∈ F) (hv : v ∈ F) (S : SbV E h s v k cs) (St : StrL E h t tv kt ds) (hlen : cs.length + ds.length ≤ 16) :
    Met E (⟨"java/lang/StringBuilder", "append", "(Ljava/lang/String;)Ljava/lang/StringBuilder;"⟩ : MethodName) jdk_67_method_7_code 2 (some (.object "java/lang/StringBuilder")) ({ frames := 4, cells := 0, slots := 0, locals := 61 } : Room) #[.ref s, .ref t] h F (fun r h' F' => r = some (.ref s) ∧ F = F' ∧ Keep h h' [s, v] ∧ SbV E h' s v k (cs ++ ds)) := by
  refine met_of (by decide +kernel) fun x T hQ B W => ?_
  refine G.cast (g' := fr x 0 #[.val (.ref s), .val (.ref t)] []) (by simp [entryFrame, mkF, argsToLocals, Own.cat_r, Own.cat_i, Own.cat_j, Own.cat_n]) ?_
  refine w_aloadN W B d_sap_0 rfl rfl ?_
  refine w_aloadN W B d_sap_1 rfl rfl ?_
  refine w_super W B (y := ⟨"java/lang/AbstractStringBuilder", "append", "(Ljava/lang/String;)Ljava/lang/AbstractStringBuilder;"⟩) d_sap_2 (by decide) (wd hw 53 rfl) (wd hw 54 rfl) (wd hw 55 rfl) (Own.nf_class (nf_z (wd hw 74 rfl)) (wd hw 72 rfl) rfl) (wd hw 40 rfl) (wd hw 57 rfl) (by decide) (Ins.self S.1) pd__Ljava_lang_String__Ljava_lang_AbstractStringBuilder_19 (argsL := [(.ref t)]) rfl rfl rfl (Wt := 0) (Nat.le_of_eq rfl) (aap_met hw hs hv S St hlen) (by decide) (by decide) (by decide) (by decide) ?_
  intro T1 h2 F3 v4 W5 Q6
  obtain ⟨rfl, rfl, K, S2⟩ := Q6
  show G E x T1 (fr x 5 #[.val (.ref s), .val (.ref t)] [(.ref s)])
  refine w_pop W5 B d_sap_5 rfl ?_
  refine w_aloadN W5 B d_sap_6 rfl rfl ?_
  exact w_areturn W5 B d_sap_7 rfl rfl hQ (by decide) (by decide) (fun _ q => q) ⟨rfl, rfl, K, S2⟩
set_option maxRecDepth 65536 in
set_option maxHeartbeats 4000000 in
theorem getv_met {E : Gl} (hw : Tb E) {h : Heap} {F : List Addr} {s v : Addr} {k : ClassId} {cs : List Int32} (S : SbV E h s v k cs) :
    Met E (⟨"java/lang/AbstractStringBuilder", "getValue", "()[B"⟩ : MethodName) jdk_68_method_64_code 1 (some (.array .byte)) ({ frames := 0, cells := 0, slots := 0, locals := 0 } : Room) #[.ref s] h F (fun r h' F' => r = some (.ref v) ∧ h = h' ∧ F = F') := by
  refine met_of (by decide +kernel) fun x T hQ B W => ?_
  refine G.cast (g' := fr x 0 #[.val (.ref s)] []) (by simp [entryFrame, mkF, argsToLocals, Own.cat_r, Own.cat_i, Own.cat_j, Own.cat_n]) ?_
  refine w_aloadN W B d_getv_0 rfl rfl ?_
  refine w_getF W B d_getv_1 (wd hw 44 rfl) Via.refl S.2.1 ?_
  intro T1 W2
  exact w_areturn W2 B d_getv_4 rfl rfl hQ (by decide) (by decide) (fun _ q => q) ⟨rfl, rfl, rfl⟩
set_option maxRecDepth 65536 in
set_option maxHeartbeats 4000000 in
theorem alen_met {E : Gl} (hw : Tb E) {h : Heap} {F : List Addr} {s v : Addr} {k : ClassId} {cs : List Int32} (S : SbV E h s v k cs) :
    Met E (⟨"java/lang/AbstractStringBuilder", "length", "()I"⟩ : MethodName) jdk_68_method_6_code 1 (some .int) ({ frames := 0, cells := 0, slots := 0, locals := 0 } : Room) #[.ref s] h F (fun r h' F' => r = some (.int cs.length.toInt32) ∧ h = h' ∧ F = F') := by
  refine met_of (by decide +kernel) fun x T hQ B W => ?_
  refine G.cast (g' := fr x 0 #[.val (.ref s)] []) (by simp [entryFrame, mkF, argsToLocals, Own.cat_r, Own.cat_i, Own.cat_j, Own.cat_n]) ?_
  refine w_aloadN W B d_alen_0 rfl rfl ?_
  refine w_getF W B d_alen_1 (wd hw 69 rfl) Via.refl S.2.2.2.1 ?_
  intro T1 W2
  exact w_ireturn W2 B d_alen_4 hQ (by decide) (by decide) (fun _ q => q) ⟨rfl, rfl, rfl⟩
set_option maxRecDepth 65536 in
set_option maxHeartbeats 4000000 in
theorem blen_met {E : Gl} (hw : Tb E) {h : Heap} {F : List Addr} {s v : Addr} {k : ClassId} {cs : List Int32} (S : SbV E h s v k cs) :
    Met E (⟨"java/lang/StringBuilder", "length", "()I"⟩ : MethodName) jdk_67_method_93_code 1 (some .int) ({ frames := 1, cells := 0, slots := 0, locals := 12 } : Room) #[.ref s] h F (fun r h' F' => r = some (.int cs.length.toInt32) ∧ h = h' ∧ F = F') := by
  refine met_of (by decide +kernel) fun x T hQ B W => ?_
  refine G.cast (g' := fr x 0 #[.val (.ref s)] []) (by simp [entryFrame, mkF, argsToLocals, Own.cat_r, Own.cat_i, Own.cat_j, Own.cat_n]) ?_
  refine w_aloadN W B d_blen_0 rfl rfl ?_
  refine w_super W B (y := ⟨"java/lang/AbstractStringBuilder", "length", "()I"⟩) d_blen_1 (by decide) (wd hw 120 rfl) (wd hw 116 rfl) (wd hw 55 rfl) (Own.nf_class (nf_z (wd hw 74 rfl)) (wd hw 72 rfl) rfl) (wd hw 40 rfl) (wd hw 121 rfl) (by decide) (Ins.self S.1) pd___I154 (argsL := []) rfl rfl rfl (Wt := 0) (Nat.le_of_eq rfl) (alen_met hw S) (by decide) (by decide) (by decide) (by decide) ?_
  intro T1 h2 F3 v4 W5 Q6
  obtain ⟨rfl, rfl, rfl⟩ := Q6
  show G E x T1 (fr x 4 #[.val (.ref s)] [(.int cs.length.toInt32)])
  exact w_ireturn W5 B d_blen_4 hQ (by decide) (by decide) (fun _ q => q) ⟨rfl, rfl, rfl⟩
set_option maxRecDepth 65536 in
set_option maxHeartbeats 4000000 in
theorem alat_met {E : Gl} (hw : Tb E) {h : Heap} {F : List Addr} {s v : Addr} {k : ClassId} {cs : List Int32} (S : SbV E h s v k cs) :
    Met E (⟨"java/lang/AbstractStringBuilder", "isLatin1", "()Z"⟩ : MethodName) jdk_68_method_68_code 1 (some .boolean) ({ frames := 0, cells := 0, slots := 0, locals := 0 } : Room) #[.ref s] h F (fun r h' F' => r = some (.int 1) ∧ h = h' ∧ F = F') := by
  refine met_of (by decide +kernel) fun x T hQ B W => ?_
  refine G.cast (g' := fr x 0 #[.val (.ref s)] []) (by simp [entryFrame, mkF, argsToLocals, Own.cat_r, Own.cat_i, Own.cat_j, Own.cat_n]) ?_
  obtain ⟨z, Sc, hz⟩ := compact hw
  refine w_getS W B d_alat_0 (wd hw 43 rfl) Via.refl Sc ?_
  intro T1 W2
  refine w_if_eq W2 B d_alat_3 (fun q => absurd q hz) (fun _ => ?_)
  show G E x T1 (fr x 6 #[.val (.ref s)] [])
  refine w_aloadN W2 B d_alat_6 rfl rfl ?_
  refine w_getF W2 B d_alat_7 (wd hw 46 rfl) Via.refl S.2.2.1 ?_
  intro T3 W4
  refine w_if_ne W4 B d_alat_10 (fun q => q rfl |>.elim) (fun _ => ?_)
  show G E x T3 (fr x 13 #[.val (.ref s)] [])
  refine w_iconst W4 B d_alat_13 (v := (1 : Int32)) rfl ?_
  refine w_goto W4 B d_alat_14 ?_
  exact w_ireturnN W4 B d_alat_18 (Or.inl rfl) (u := 1) rfl hQ (by decide) (by decide) (fun _ q => q) ⟨rfl, rfl, rfl⟩
set_option maxRecDepth 65536 in
set_option maxHeartbeats 4000000 in
theorem mmin_met {E : Gl} (hw : Tb E) {h : Heap} {F : List Addr} {a b : Int32} (hab : b < a) :
    Met E (⟨"java/lang/Math", "min", "(II)I"⟩ : MethodName) jdk_29_method_69_code 2 (some .int) ({ frames := 0, cells := 0, slots := 0, locals := 0 } : Room) #[.int a, .int b] h F (fun r h' F' => r = some (.int b) ∧ h = h' ∧ F = F') := by
  refine met_of (by decide +kernel) fun x T hQ B W => ?_
  refine G.cast (g' := fr x 0 #[.val (.int a), .val (.int b)] []) (by simp [entryFrame, mkF, argsToLocals, Own.cat_r, Own.cat_i, Own.cat_j, Own.cat_n]) ?_
  refine w_iloadN W B d_mmin_0 rfl ?_
  refine w_iloadN W B d_mmin_1 rfl ?_
  refine w_icmp_gt W B d_mmin_2 (fun _ => ?_) (fun q => q hab |>.elim)
  show G E x T (fr x 9 #[.val (.int a), .val (.int b)] [])
  refine w_iloadN W B d_mmin_9 rfl ?_
  exact w_ireturn W B d_mmin_10 hQ (by decide) (by decide) (fun _ q => q) ⟨rfl, rfl, rfl⟩
set_option maxRecDepth 65536 in
set_option maxHeartbeats 4000000 in
theorem ckl_met {E : Gl} (hw : Tb E) {h : Heap} {F : List Addr} {a b : Int32} (hab : ¬ b < a) :
    Met E (⟨"java/util/Arrays", "checkLength", "(II)V"⟩ : MethodName) jdk_65_method_131_code 2 none ({ frames := 0, cells := 0, slots := 0, locals := 0 } : Room) #[.int a, .int b] h F (fun r h' F' => r = none ∧ h = h' ∧ F = F') := by
  refine met_of (by decide +kernel) fun x T hQ B W => ?_
  refine G.cast (g' := fr x 0 #[.val (.int a), .val (.int b)] []) (by simp [entryFrame, mkF, argsToLocals, Own.cat_r, Own.cat_i, Own.cat_j, Own.cat_n]) ?_
  refine w_iloadN W B d_ckl_0 rfl ?_
  refine w_iloadN W B d_ckl_1 rfl ?_
  refine w_icmp_ge W B d_ckl_2 (fun _ => ?_) (fun q => absurd q hab)
  show G E x T (fr x 37 #[.val (.int a), .val (.int b)] [])
  exact w_return W B d_ckl_37 hQ (by decide) (by decide) (fun _ q => q) ⟨rfl, rfl, rfl⟩
set_option maxRecDepth 65536 in
set_option maxHeartbeats 4000000 in
theorem cprb_met {E : Gl} (hw : Tb E) {h : Heap} {F : List Addr} {v : Addr} {k : ClassId} {cs : List Int32} (Av : Arv E.Z h v k .byte (16 : Int32) (b8 cs ++ List.replicate (16 - cs.length) (Value.int 0)) (.int 0)) (hlen : cs.length < 16) :
    Met E (⟨"java/util/Arrays", "copyOfRangeByte", "([BII)[B"⟩ : MethodName) jdk_65_method_133_code 5 (some (.array .byte)) ({ frames := 1, cells := 1, slots := 16, locals := 18 } : Room) #[.ref v, .int 0, .int cs.length.toInt32] h F (fun r h' F' => ∃ (b : Addr) (k : ClassId), r = some (.ref b) ∧ F = F' ∧ h.size ≤ b ∧ Keep h h' [] ∧ Arv E.Z h' b k .byte cs.length.toInt32 (b8 cs) (.int 0)) := by
  refine met_of (by decide +kernel) fun x T hQ B W => ?_
  refine G.cast (g' := fr x 0 #[.val (.ref v), .val (.int (0 : Int32)), .val (.int cs.length.toInt32), .unset, .unset] []) (by simp [entryFrame, mkF, argsToLocals, Own.cat_r, Own.cat_i, Own.cat_j, Own.cat_n]) ?_
  have hc : cs.length < 2 ^ 31 := by omega
  refine w_iloadN W B d_cprb_0 rfl ?_
  refine w_iloadN W B d_cprb_1 rfl ?_
  refine w_static W B (y := ⟨"java/util/Arrays", "checkLength", "(II)V"⟩) d_cprb_2 (wd hw 134 rfl) (wd hw 135 rfl) (wd hw 129 rfl) (wd hw 136 rfl) (by decide) pd__II_V313 (argsL := [(.int (0 : Int32)), (.int cs.length.toInt32)]) rfl rfl rfl (Wt := 0) (Nat.le_of_eq rfl) (ckl_met hw (n_nn hc)) (by decide) (by decide) (by decide) (by decide) ?_
  intro T1 h2 F3 v4 W5 Q6
  obtain ⟨rfl, rfl, rfl⟩ := Q6
  show G E x T1 (fr x 5 #[.val (.ref v), .val (.int (0 : Int32)), .val (.int cs.length.toInt32), .unset, .unset] [])
  refine w_iloadN W5 B d_cprb_5 rfl ?_
  refine w_iloadN W5 B d_cprb_6 rfl ?_
  refine w_isub W5 B d_cprb_7 ?_
  rw [Int32.sub_zero]
  show G E x T1 (fr x 8 #[.val (.ref v), .val (.int (0 : Int32)), .val (.int cs.length.toInt32), .unset, .unset] [(.int cs.length.toInt32)])
  refine w_istoreN W5 B d_cprb_8 (Ls' := #[.val (.ref v), .val (.int (0 : Int32)), .val (.int cs.length.toInt32), .val (.int cs.length.toInt32), .unset]) rfl ?_
  refine w_iloadN W5 B d_cprb_9 rfl ?_
  refine w_newarray W5 B d_cprb_10 rfl (wd hw 19 rfl) (n_nn hc) (cap := 16) (by rw [n_clamp hc]; omega) (by decide) (by decide) (by decide) ?_
  intro T7 h8 b9 k10 W11 g12 X13 A14
  show G E x T7 (fr x 12 #[.val (.ref v), .val (.int (0 : Int32)), .val (.int cs.length.toInt32), .val (.int cs.length.toInt32), .unset] [(.ref b9)])
  refine w_astore W11 B d_cprb_12 rfl (Ls' := #[.val (.ref v), .val (.int (0 : Int32)), .val (.int cs.length.toInt32), .val (.int cs.length.toInt32), .val (.ref b9)]) rfl ?_
  refine w_aloadN W11 B d_cprb_14 rfl rfl ?_
  refine w_iloadN W11 B d_cprb_15 rfl ?_
  refine w_aload W11 B d_cprb_16 rfl rfl ?_
  refine w_iconst W11 B d_cprb_18 (v := (0 : Int32)) rfl ?_
  refine w_aloadN W11 B d_cprb_19 rfl rfl ?_
  refine w_arraylength W11 B d_cprb_20 (Av.ext X13) ?_
  refine w_iloadN W11 B d_cprb_21 rfl ?_
  refine w_isub W11 B d_cprb_22 ?_
  rw [Int32.sub_zero]
  show G E x T7 (fr x 23 #[.val (.ref v), .val (.int (0 : Int32)), .val (.int cs.length.toInt32), .val (.int cs.length.toInt32), .val (.ref b9)] [(.int (16 : Int32)), (.int (0 : Int32)), (.ref b9), (.int (0 : Int32)), (.ref v)])
  refine w_iloadN W11 B d_cprb_23 rfl ?_
  refine w_static W11 B (y := ⟨"java/lang/Math", "min", "(II)I"⟩) d_cprb_24 (wd hw 137 rfl) (wd hw 138 rfl) (wd hw 139 rfl) (wd hw 140 rfl) (by decide) pd__II_I300 (argsL := [(.int (16 : Int32)), (.int cs.length.toInt32)]) rfl rfl rfl (Wt := 4) (Nat.le_of_eq rfl) (mmin_met hw (show cs.length.toInt32 < 16 from (n_lt hc (n := 16) (by decide)).mpr hlen)) (by decide) (by decide) (by decide) (by decide) ?_
  intro T15 h16 F17 v18 W19 Q20
  obtain ⟨rfl, rfl, rfl⟩ := Q20
  show G E x T15 (fr x 27 #[.val (.ref v), .val (.int (0 : Int32)), .val (.int cs.length.toInt32), .val (.int cs.length.toInt32), .val (.ref b9)] [(.int cs.length.toInt32), (.int (0 : Int32)), (.ref b9), (.int (0 : Int32)), (.ref v)])
  have A21 := A14.pad (pad_rep [] _ cs.length)
  refine w_arraycopy W19 B d_cprb_27 (wd hw 141 rfl) (wd hw 95 rfl) (wd hw 93 rfl) (wd hw 94 rfl) (List.Mem.head _) (Av.ext X13) A21 rfl (by decide) (by decide) (n_nn hc) (by rw [n_clamp hc]; show 0 + cs.length ≤ 16; omega) (by rw [n_clamp hc]; exact Nat.le_of_eq (Nat.zero_add _)) (us := (b8 cs ++ List.replicate (16 - cs.length) (Value.int 0)).take cs.length) (us_all hc (by rw [List.length_append, b8_len]; omega)) (by rw [n_clamp hc, List.nil_append, List.length_replicate]; exact Nat.le_of_eq (Nat.zero_add _)) rfl (by decide) (Wt := 0) (Nat.le_of_eq rfl) (by decide) ?_
  intro T22 h23 W24 K25 A26
  have A27 : Arv E.Z h23 b9 k10 .byte cs.length.toInt32 (b8 cs) (.int (0 : Int32)) := (get_b8 (Nat.le_of_lt hlen)) ▸ A26
  show G E x T22 (fr x 30 #[.val (.ref v), .val (.int (0 : Int32)), .val (.int cs.length.toInt32), .val (.int cs.length.toInt32), .val (.ref b9)] [])
  refine w_aload W24 B d_cprb_30 rfl rfl ?_
  have KK28 : Keep h h8 [] := (Keep.refl h []).ext X13
  have KK29 : Keep h h23 [] := KK28.trans K25 (allS (Or.inr (Nat.le_trans (Keep.refl h []).1 (Nat.le_of_eq g12.symm))) all0)
  exact w_areturn W24 B d_cprb_32 rfl rfl hQ (by decide) (by decide) (fun _ q => (List.Mem.tail _ q)) ⟨b9, _, rfl, rfl, Nat.le_of_eq g12.symm, KK29, A27⟩
set_option maxRecDepth 65536 in
set_option maxHeartbeats 4000000 in
theorem cpr_met {E : Gl} (hw : Tb E) {h : Heap} {F : List Addr} {v : Addr} {k : ClassId} {cs : List Int32} (Av : Arv E.Z h v k .byte (16 : Int32) (b8 cs ++ List.replicate (16 - cs.length) (Value.int 0)) (.int 0)) (hlen : cs.length < 16) :
    Met E (⟨"java/util/Arrays", "copyOfRange", "([BII)[B"⟩ : MethodName) jdk_65_method_132_code 3 (some (.array .byte)) ({ frames := 2, cells := 1, slots := 16, locals := 34 } : Room) #[.ref v, .int 0, .int cs.length.toInt32] h F (fun r h' F' => ∃ (b : Addr) (k : ClassId), r = some (.ref b) ∧ F = F' ∧ h.size ≤ b ∧ Keep h h' [] ∧ Arv E.Z h' b k .byte cs.length.toInt32 (b8 cs) (.int 0)) := by
  refine met_of (by decide +kernel) fun x T hQ B W => ?_
  refine G.cast (g' := fr x 0 #[.val (.ref v), .val (.int (0 : Int32)), .val (.int cs.length.toInt32)] []) (by simp [entryFrame, mkF, argsToLocals, Own.cat_r, Own.cat_i, Own.cat_j, Own.cat_n]) ?_
  have hc : cs.length < 2 ^ 31 := by omega
  refine w_iloadN W B d_cpr_0 rfl ?_
  refine w_if_ne W B d_cpr_1 (fun q => q rfl |>.elim) (fun _ => ?_)
  show G E x T (fr x 4 #[.val (.ref v), .val (.int (0 : Int32)), .val (.int cs.length.toInt32)] [])
  refine w_iloadN W B d_cpr_4 rfl ?_
  refine w_aloadN W B d_cpr_5 rfl rfl ?_
  refine w_arraylength W B d_cpr_6 Av ?_
  refine w_icmp_eq W B d_cpr_7 (fun q => absurd q (fun q => absurd ((n_eq hc (n := 16) (by decide)).mp q) (by omega))) (fun _ => ?_)
  show G E x T (fr x 10 #[.val (.ref v), .val (.int (0 : Int32)), .val (.int cs.length.toInt32)] [])
  refine w_aloadN W B d_cpr_10 rfl rfl ?_
  refine w_iloadN W B d_cpr_11 rfl ?_
  refine w_iloadN W B d_cpr_12 rfl ?_
  refine w_static W B (y := ⟨"java/util/Arrays", "copyOfRangeByte", "([BII)[B"⟩) d_cpr_13 (wd hw 131 rfl) (wd hw 132 rfl) (wd hw 129 rfl) (wd hw 133 rfl) (by decide) pd___BII__B541 (argsL := [(.ref v), (.int (0 : Int32)), (.int cs.length.toInt32)]) rfl rfl rfl (Wt := 0) (Nat.le_of_eq rfl) (cprb_met hw Av hlen) (by decide) (by decide) (by decide) (by decide) ?_
  intro T1 h2 F3 v4 W5 Q6
  obtain ⟨b, kb, rfl, rfl, g, K, A⟩ := Q6
  show G E x T1 (fr x 16 #[.val (.ref v), .val (.int (0 : Int32)), .val (.int cs.length.toInt32)] [(.ref b)])
  exact w_areturn W5 B d_cpr_16 rfl rfl hQ (by decide) (by decide) (fun _ q => q) ⟨b, kb, rfl, rfl, g, K, A⟩
set_option maxRecDepth 65536 in
set_option maxHeartbeats 4000000 in
theorem inia_met {E : Gl} (hw : Tb E) {h : Heap} {F : List Addr} {t s v : Addr} {k : ClassId} {cs : List Int32} (ht : t ∈ F) (Et : Exa E.Z h t "java/lang/String") (fv : Fld E.Z h t "java/lang/String" "value" "[B" .null) (fc : Fld E.Z h t "java/lang/String" "coder" "B" (.int 0)) (S : SbV E h s v k cs) (hlen : cs.length < 16) :
    Met E (⟨"java/lang/String", "<init>", "(Ljava/lang/AbstractStringBuilder;Ljava/lang/Void;)V"⟩ : MethodName) jdk_42_method_150_code 5 none ({ frames := 3, cells := 1, slots := 16, locals := 49 } : Room) #[.ref t, .ref s, .null] h F (fun r h' F' => r = none ∧ F = F' ∧ Keep h h' [t] ∧ ∃ (tv : Addr) (kt : ClassId), h.size ≤ tv ∧ StrL E h' t tv kt cs) := by
  refine met_of (by decide +kernel) fun x T hQ B W => ?_
  refine G.cast (g' := fr x 0 #[.val (.ref t), .val (.ref s), .val .null, .unset, .unset] []) (by simp [entryFrame, mkF, argsToLocals, Own.cat_r, Own.cat_i, Own.cat_j, Own.cat_n]) ?_
  refine w_aloadN W B d_inia_0 rfl rfl ?_
  refine w_initO W B d_inia_1 (wd hw 15 rfl) (wd hw 16 rfl) (wd hw 17 rfl) rfl (by decide) (Wt := 0) (Nat.le_of_eq rfl) (by decide) ?_
  intro T1 W2
  refine w_aloadN W2 B d_inia_4 rfl rfl ?_
  refine w_virtual W2 B (y := ⟨"java/lang/AbstractStringBuilder", "getValue", "()[B"⟩) (z := ⟨"java/lang/AbstractStringBuilder", "getValue", "()[B"⟩) d_inia_5 (wd hw 109 rfl) (wd hw 110 rfl) (nf_sel (wd hw 112 rfl)) (wd hw 112 rfl) (wd hw 111 rfl) (wd hw 40 rfl) (wd hw 113 rfl) (by decide) S.1 pd____B238 (argsL := []) rfl rfl rfl (Wt := 0) (Nat.le_of_eq rfl) (getv_met hw S) (by decide) (by decide) (by decide) (by decide) ?_
  intro T3 h4 F5 v6 W7 Q8
  obtain ⟨rfl, rfl, rfl⟩ := Q8
  show G E x T3 (fr x 8 #[.val (.ref t), .val (.ref s), .val .null, .unset, .unset] [(.ref v)])
  refine w_astoreN W7 B d_inia_8 rfl (Ls' := #[.val (.ref t), .val (.ref s), .val .null, .val (.ref v), .unset]) rfl ?_
  refine w_aloadN W7 B d_inia_9 rfl rfl ?_
  refine w_virtual W7 B (y := ⟨"java/lang/AbstractStringBuilder", "length", "()I"⟩) (z := ⟨"java/lang/StringBuilder", "length", "()I"⟩) d_inia_10 (wd hw 114 rfl) (wd hw 115 rfl) (Own.nf_classW (wd hw 74 rfl) (wd hw 72 rfl) rfl) (wd hw 117 rfl) (wd hw 118 rfl) (wd hw 32 rfl) (wd hw 119 rfl) (by decide) S.1 pd___I154 (argsL := []) rfl rfl rfl (Wt := 0) (Nat.le_of_eq rfl) (blen_met hw S) (by decide) (by decide) (by decide) (by decide) ?_
  intro T9 h10 F11 v12 W13 Q14
  obtain ⟨rfl, rfl, rfl⟩ := Q14
  show G E x T9 (fr x 13 #[.val (.ref t), .val (.ref s), .val .null, .val (.ref v), .unset] [(.int cs.length.toInt32)])
  refine w_istore W13 B d_inia_13 (Ls' := #[.val (.ref t), .val (.ref s), .val .null, .val (.ref v), .val (.int cs.length.toInt32)]) rfl ?_
  refine w_aloadN W13 B d_inia_15 rfl rfl ?_
  refine w_virtual W13 B (y := ⟨"java/lang/AbstractStringBuilder", "isLatin1", "()Z"⟩) (z := ⟨"java/lang/AbstractStringBuilder", "isLatin1", "()Z"⟩) d_inia_16 (wd hw 122 rfl) (wd hw 123 rfl) (nf_sel (wd hw 125 rfl)) (wd hw 125 rfl) (wd hw 124 rfl) (wd hw 40 rfl) (wd hw 126 rfl) (by decide) S.1 pd___Z171 (argsL := []) rfl rfl rfl (Wt := 0) (Nat.le_of_eq rfl) (alat_met hw S) (by decide) (by decide) (by decide) (by decide) ?_
  intro T15 h16 F17 v18 W19 Q20
  obtain ⟨rfl, rfl, rfl⟩ := Q20
  show G E x T15 (fr x 19 #[.val (.ref t), .val (.ref s), .val .null, .val (.ref v), .val (.int cs.length.toInt32)] [(.int (1 : Int32))])
  refine w_if_eq W19 B d_inia_19 (fun q => absurd q (by decide)) (fun _ => ?_)
  show G E x T15 (fr x 22 #[.val (.ref t), .val (.ref s), .val .null, .val (.ref v), .val (.int cs.length.toInt32)] [])
  refine w_aloadN W19 B d_inia_22 rfl rfl ?_
  refine w_iconst W19 B d_inia_23 (v := (0 : Int32)) rfl ?_
  refine w_putF W19 B d_inia_24 ht (wd hw 25 rfl) Via.refl fc Et (Or.inr ⟨(wd hw 21 rfl), rfl, rfl⟩) (wd hw 5 rfl) (ty := .byte) (v' := (.int (0 : Int32))) (by decide) rfl rfl ?_
  intro T21 h22 W23 Y24 f25
  refine w_aloadN W23 B d_inia_27 rfl rfl ?_
  refine w_aloadN W23 B d_inia_28 rfl rfl ?_
  refine w_iconst W23 B d_inia_29 (v := (0 : Int32)) rfl ?_
  refine w_iload W23 B d_inia_30 rfl ?_
  refine w_static W23 B (y := ⟨"java/util/Arrays", "copyOfRange", "([BII)[B"⟩) d_inia_32 (wd hw 127 rfl) (wd hw 128 rfl) (wd hw 129 rfl) (wd hw 130 rfl) (by decide) pd___BII__B541 (argsL := [(.ref v), (.int (0 : Int32)), (.int cs.length.toInt32)]) rfl rfl rfl (Wt := 1) (Nat.le_of_eq rfl) (cpr_met hw (S.2.2.2.2.other Y24 (Ne.symm (Exa.neArv Et S.2.2.2.2 (wd hw 5 rfl)))) hlen) (by decide) (by decide) (by decide) (by decide) ?_
  intro T26 h27 F28 v29 W30 Q31
  obtain ⟨b, kb, rfl, rfl, g, K, A⟩ := Q31
  show G E x T26 (fr x 35 #[.val (.ref t), .val (.ref s), .val .null, .val (.ref v), .val (.int cs.length.toInt32)] [(.ref b), (.ref t)])
  refine w_putF W30 B d_inia_35 ht (wd hw 24 rfl) Via.refl ((fv.other Y24 (Or.inr (slot_ne (Or.inr (wd hw 20 rfl)) (Or.inr (wd hw 21 rfl)) (t := (.array .byte)) (t' := .byte) (by decide) (by decide) (by decide)))).keep K nin0) ((Et.wr Y24).keep K) (Or.inr ⟨(wd hw 20 rfl), rfl, rfl⟩) (wd hw 5 rfl) (ty := (.array .byte)) (v' := (.ref b)) (by decide) rfl rfl ?_
  intro T32 h33 W34 Y35 f36
  refine w_goto W34 B d_inia_38 ?_
  have KK37 : Keep h h22 [t] := (Keep.refl h [t]).wr Y24 (Or.inl (List.Mem.head _))
  have KK38 : Keep h h27 [t] := KK37.trans K all0
  have KK39 : Keep h h33 [t] := KK38.wr Y35 (Or.inl (List.Mem.head _))
  have gb : h.size ≤ b := Nat.le_trans KK37.1 g
  exact w_return W34 B d_inia_97 hQ (by decide) (by decide) (fun _ q => q) ⟨rfl, rfl, KK39, b, kb, gb, ⟨(((Et.wr Y24).keep K).wr Y35), f36, ((f25.keep K nin0).other Y35 (Or.inr (slot_ne (Or.inr (wd hw 21 rfl)) (Or.inr (wd hw 20 rfl)) (t := .byte) (t' := (.array .byte)) (by decide) (by decide) (by decide)))), (A.other Y35 (Ne.symm (Own.ne_ge (Et.wr Y24).lt g)))⟩⟩
set_option maxRecDepth 65536 in
set_option maxHeartbeats 4000000 in
theorem inib_met {E : Gl} (hw : Tb E) {h : Heap} {F : List Addr} {t s v : Addr} {k : ClassId} {cs : List Int32} (ht : t ∈ F) (Et : Exa E.Z h t "java/lang/String") (fv : Fld E.Z h t "java/lang/String" "value" "[B" .null) (fc : Fld E.Z h t "java/lang/String" "coder" "B" (.int 0)) (S : SbV E h s v k cs) (hlen : cs.length < 16) :
    Met E (⟨"java/lang/String", "<init>", "(Ljava/lang/StringBuilder;)V"⟩ : MethodName) jdk_42_method_53_code 2 none ({ frames := 4, cells := 1, slots := 16, locals := 65 } : Room) #[.ref t, .ref s] h F (fun r h' F' => r = none ∧ F = F' ∧ Keep h h' [t] ∧ ∃ (tv : Addr) (kt : ClassId), h.size ≤ tv ∧ StrL E h' t tv kt cs) := by
  refine met_of (by decide +kernel) fun x T hQ B W => ?_
  refine G.cast (g' := fr x 0 #[.val (.ref t), .val (.ref s)] []) (by simp [entryFrame, mkF, argsToLocals, Own.cat_r, Own.cat_i, Own.cat_j, Own.cat_n]) ?_
  refine w_aloadN W B d_inib_0 rfl rfl ?_
  refine w_aloadN W B d_inib_1 rfl rfl ?_
  refine w_null W B d_inib_2 ?_
  refine w_special W B (y := ⟨"java/lang/String", "<init>", "(Ljava/lang/AbstractStringBuilder;Ljava/lang/Void;)V"⟩) d_inib_3 rfl (wd hw 106 rfl) (wd hw 107 rfl) (wd hw 6 rfl) (wd hw 108 rfl) (by decide) pd__Ljava_lang_AbstractStringBuilder_Ljava_lang_Void__V873 (argsL := [(.ref s), .null]) rfl rfl rfl (Wt := 0) (Nat.le_of_eq rfl) (inia_met hw ht Et fv fc S hlen) (by decide) (by decide) (by decide) (by decide) ?_
  intro T1 h2 F3 v4 W5 Q6
  obtain ⟨rfl, rfl, K, tv, kt, g, St⟩ := Q6
  show G E x T1 (fr x 6 #[.val (.ref t), .val (.ref s)] [])
  exact w_return W5 B d_inib_6 hQ (by decide) (by decide) (fun _ q => q) ⟨rfl, rfl, K, tv, kt, g, St⟩
set_option maxRecDepth 65536 in
set_option maxHeartbeats 4000000 in
theorem tos_met {E : Gl} (hw : Tb E) {h : Heap} {F : List Addr} {s v : Addr} {k : ClassId} {cs : List Int32} (S : SbV E h s v k cs) (hlen : cs.length < 16) :
    Met E (⟨"java/lang/StringBuilder", "toString", "()Ljava/lang/String;"⟩ : MethodName) jdk_67_method_42_code 1 (some (.object "java/lang/String")) ({ frames := 5, cells := 2, slots := 20, locals := 79 } : Room) #[.ref s] h F (fun r h' F' => ∃ (t tv : Addr) (kt : ClassId), r = some (.ref t) ∧ F = F' ∧ Keep h h' [] ∧ h.size ≤ t ∧ h.size ≤ tv ∧ StrL E h' t tv kt cs) := by
  refine met_of (by decide +kernel) fun x T hQ B W => ?_
  refine G.cast (g' := fr x 0 #[.val (.ref s)] []) (by simp [entryFrame, mkF, argsToLocals, Own.cat_r, Own.cat_i, Own.cat_j, Own.cat_n]) ?_
  refine w_new W B d_tos_0 (wd hw 102 rfl) (wd hw 5 rfl) (wd hw 6 rfl) (by decide) (by decide) ?_
  intro T1 h2 b3 W4 g5 X6 A7 D8
  have f9 : Fld E.Z h2 b3 "java/lang/String" "value" "[B" .null := D8 (Or.inr (wd hw 20 rfl)) (ty := (.array .byte)) (by decide)
  have f10 : Fld E.Z h2 b3 "java/lang/String" "coder" "B" (.int (0 : Int32)) := D8 (Or.inr (wd hw 21 rfl)) (ty := .byte) (by decide)
  show G E x T1 (fr x 3 #[.val (.ref s)] [(.ref b3)])
  refine w_dup W4 B d_tos_3 rfl ?_
  refine w_aloadN W4 B d_tos_4 rfl rfl ?_
  refine w_special W4 B (y := ⟨"java/lang/String", "<init>", "(Ljava/lang/StringBuilder;)V"⟩) d_tos_5 rfl (wd hw 103 rfl) (wd hw 104 rfl) (wd hw 6 rfl) (wd hw 105 rfl) (by decide) pd__Ljava_lang_StringBuilder__V580 (argsL := [(.ref s)]) rfl rfl rfl (Wt := 1) (Nat.le_of_eq rfl) (inib_met hw (List.Mem.head _) A7 f9 f10 ⟨(S.1.ext X6), (S.2.1.ext X6), (S.2.2.1.ext X6), (S.2.2.2.1.ext X6), (S.2.2.2.2.ext X6)⟩ hlen) (by decide) (by decide) (by decide) (by decide) ?_
  intro T11 h12 F13 v14 W15 Q16
  obtain ⟨rfl, rfl, K, tv, kt, g, St⟩ := Q16
  show G E x T11 (fr x 8 #[.val (.ref s)] [(.ref b3)])
  have KK17 : Keep h h2 [] := (Keep.refl h []).ext X6
  have KK18 : Keep h h12 [] := KK17.trans K (allS (Or.inr (Nat.le_trans (Keep.refl h []).1 (Nat.le_of_eq g5.symm))) all0)
  exact w_areturn W15 B d_tos_8 rfl rfl hQ (by decide) (by decide) (fun _ q => (List.Mem.tail _ q)) ⟨b3, tv, kt, rfl, rfl, KK18, Nat.le_of_eq g5.symm, Nat.le_trans X6.1 g, St⟩
set_option maxRecDepth 65536 in
set_option maxHeartbeats 4000000 in
theorem pchk_met {E : Gl} (hw : Tb E) {h : Heap} {F : List Addr} {i n : Int32} {f : Value} (rf : f.isRef = true) (hi : ¬ i < 0 ∧ i < n) :
    Met E (⟨"jdk/internal/util/Preconditions", "checkIndex", "(IILjava/util/function/BiFunction;)I"⟩ : MethodName) jdk_41_method_11_code 3 (some .int) ({ frames := 0, cells := 0, slots := 0, locals := 0 } : Room) #[.int i, .int n, f] h F (fun r h' F' => r = some (.int i) ∧ h = h' ∧ F = F') := by
  refine met_of (by decide +kernel) fun x T hQ B W => ?_
  refine G.cast (g' := fr x 0 #[.val (.int i), .val (.int n), .val f] []) (by simp [entryFrame, mkF, argsToLocals, Own.cat_r, Own.cat_i, Own.cat_j, Own.cat_n, cat_ref rf]) ?_
  refine w_iloadN W B d_pchk_0 rfl ?_
  refine w_if_lt W B d_pchk_1 (fun q => absurd q hi.1) (fun _ => ?_)
  show G E x T (fr x 4 #[.val (.int i), .val (.int n), .val f] [])
  refine w_iloadN W B d_pchk_4 rfl ?_
  refine w_iloadN W B d_pchk_5 rfl ?_
  refine w_icmp_lt W B d_pchk_6 (fun _ => ?_) (fun q => q hi.2 |>.elim)
  show G E x T (fr x 16 #[.val (.int i), .val (.int n), .val f] [])
  refine w_iloadN W B d_pchk_16 rfl ?_
  exact w_ireturn W B d_pchk_17 hQ (by decide) (by decide) (fun _ q => q) ⟨rfl, rfl, rfl⟩
theorem sioobe {E : Gl} (hw : Tb E) : ∃ f : Value, f.isRef = true ∧ Sta E.Z E.Z.heap "jdk/internal/util/Preconditions" "SIOOBE_FORMATTER" "Ljava/util/function/BiFunction;" f := by
  obtain ⟨f, e, r⟩ := isR_v (Cond.before_iff.mp (sd hw 8 rfl))
  exact ⟨f, r, Sta.start e (Or.inl (sd hw 7 rfl))⟩
set_option maxRecDepth 65536 in
set_option maxHeartbeats 4000000 in
theorem schk_met {E : Gl} (hw : Tb E) {h : Heap} {F : List Addr} {i n : Int32} (hi : ¬ i < 0 ∧ i < n) :
    Met E (⟨"java/lang/String", "checkIndex", "(II)V"⟩ : MethodName) jdk_42_method_155_code 2 none ({ frames := 1, cells := 0, slots := 0, locals := 14 } : Room) #[.int i, .int n] h F (fun r h' F' => r = none ∧ h = h' ∧ F = F') := by
  refine met_of (by decide +kernel) fun x T hQ B W => ?_
  refine G.cast (g' := fr x 0 #[.val (.int i), .val (.int n)] []) (by simp [entryFrame, mkF, argsToLocals, Own.cat_r, Own.cat_i, Own.cat_j, Own.cat_n]) ?_
  obtain ⟨f, rf, Sf⟩ := sioobe hw
  refine w_iloadN W B d_schk_0 rfl ?_
  refine w_iloadN W B d_schk_1 rfl ?_
  refine w_getS W B d_schk_2 (wd hw 180 rfl) Via.refl Sf ?_
  intro T1 W2
  refine w_static W2 B (y := ⟨"jdk/internal/util/Preconditions", "checkIndex", "(IILjava/util/function/BiFunction;)I"⟩) d_schk_5 (wd hw 182 rfl) (wd hw 183 rfl) (wd hw 181 rfl) (wd hw 184 rfl) (by decide) pd__IILjava_util_function_BiFunction__I328 (argsL := [(.int i), (.int n), f]) rfl rfl rfl (Wt := 0) (Nat.le_of_eq rfl) (pchk_met hw rf hi) (by decide) (by decide) (by decide) (by decide) ?_
  intro T3 h4 F5 v6 W7 Q8
  obtain ⟨rfl, rfl, rfl⟩ := Q8
  show G E x T3 (fr x 8 #[.val (.int i), .val (.int n)] [(.int i)])
  refine w_pop W7 B d_schk_8 rfl ?_
  exact w_return W7 B d_schk_9 hQ (by decide) (by decide) (fun _ q => q) ⟨rfl, rfl, rfl⟩
set_option maxRecDepth 65536 in
set_option maxHeartbeats 4000000 in
theorem lca_met {E : Gl} (hw : Tb E) {h : Heap} {F : List Addr} {v : Addr} {k : ClassId} {cs : List Int32} {i : Nat} (A : Arv E.Z h v k .byte cs.length.toInt32 (b8 cs) (.int 0)) (hC : Ch cs) (hL : Lat cs) (hc : cs.length < 2 ^ 31) (hi : i < cs.length) :
    Met E (⟨"java/lang/StringLatin1", "charAt", "([BI)C"⟩ : MethodName) jdk_43_method_2_code 2 (some .char) ({ frames := 2, cells := 0, slots := 0, locals := 27 } : Room) #[.ref v, .int i.toInt32] h F (fun r h' F' => r = some (.int (cs.getD i 0)) ∧ h = h' ∧ F = F') := by
  refine met_of (by decide +kernel) fun x T hQ B W => ?_
  refine G.cast (g' := fr x 0 #[.val (.ref v), .val (.int i.toInt32)] []) (by simp [entryFrame, mkF, argsToLocals, Own.cat_r, Own.cat_i, Own.cat_j, Own.cat_n]) ?_
  have hi31 : i < 2 ^ 31 := by omega
  have hin : ¬ i.toInt32 < 0 ∧ i.toInt32 < cs.length.toInt32 := ⟨n_nn hi31, (n_lt hi31 hc).mpr hi⟩
  refine w_iloadN W B d_lca_0 rfl ?_
  refine w_aloadN W B d_lca_1 rfl rfl ?_
  refine w_arraylength W B d_lca_2 A ?_
  refine w_static W B (y := ⟨"java/lang/String", "checkIndex", "(II)V"⟩) d_lca_3 (wd hw 177 rfl) (wd hw 178 rfl) (wd hw 6 rfl) (wd hw 179 rfl) (by decide) pd__II_V313 (argsL := [(.int i.toInt32), (.int cs.length.toInt32)]) rfl rfl rfl (Wt := 0) (Nat.le_of_eq rfl) (schk_met hw hin) (by decide) (by decide) (by decide) (by decide) ?_
  intro T1 h2 F3 v4 W5 Q6
  obtain ⟨rfl, rfl, rfl⟩ := Q6
  show G E x T1 (fr x 6 #[.val (.ref v), .val (.int i.toInt32)] [])
  refine w_aloadN W5 B d_lca_6 rfl rfl ?_
  refine w_iloadN W5 B d_lca_7 rfl ?_
  refine w_baload W5 B d_lca_8 A hin (v := .int (lo8 (cs.getD i 0))) (by rw [n_clamp hi31]; exact b8_at hi _) ?_
  refine w_sipush W5 B d_lca_9 (v := (255 : Int32)) rfl ?_
  refine w_iand W5 B d_lca_12 ?_
  rw [lo8_mask (ch_at hC hi).1 (lat_at hL hi)]
  show G E x T1 (fr x 13 #[.val (.ref v), .val (.int i.toInt32)] [(.int (cs.getD i 0))])
  refine w_i2c W5 B d_lca_13 ?_
  rw [i2c_id (ch_at hC hi).1 (ch_at hC hi).2]
  show G E x T1 (fr x 14 #[.val (.ref v), .val (.int i.toInt32)] [(.int (cs.getD i 0))])
  exact w_ireturnN W5 B d_lca_14 (Or.inr (Or.inr (Or.inl rfl))) (u := cs.getD i 0) (nar_char (ch_at hC hi).1 (ch_at hC hi).2) hQ (by decide) (by decide) (fun _ q => q) ⟨rfl, rfl, rfl⟩
set_option maxRecDepth 65536 in
set_option maxHeartbeats 4000000 in
theorem sca_met {E : Gl} (hw : Tb E) {h : Heap} {F : List Addr} {s v : Addr} {k : ClassId} {cs : List Int32} {i : Nat} (S : StrL E h s v k cs) (hC : Ch cs) (hL : Lat cs) (hc : cs.length < 2 ^ 31) (hi : i < cs.length) :
    Met E (⟨"java/lang/String", "charAt", "(I)C"⟩ : MethodName) jdk_42_method_56_code 2 (some .char) ({ frames := 3, cells := 0, slots := 0, locals := 40 } : Room) #[.ref s, .int i.toInt32] h F (fun r h' F' => r = some (.int (cs.getD i 0)) ∧ h = h' ∧ F = F') := by
  refine met_of (by decide +kernel) fun x T hQ B W => ?_
  refine G.cast (g' := fr x 0 #[.val (.ref s), .val (.int i.toInt32)] []) (by simp [entryFrame, mkF, argsToLocals, Own.cat_r, Own.cat_i, Own.cat_j, Own.cat_n]) ?_
  refine w_aloadN W B d_sca_0 rfl rfl ?_
  refine w_virtual W B (y := ⟨"java/lang/String", "isLatin1", "()Z"⟩) (z := ⟨"java/lang/String", "isLatin1", "()Z"⟩) d_sca_1 (wd hw 149 rfl) (wd hw 150 rfl) (nf_sel (wd hw 152 rfl)) (wd hw 152 rfl) (wd hw 151 rfl) (wd hw 6 rfl) (wd hw 153 rfl) (by decide) S.1 pd___Z171 (argsL := []) rfl rfl rfl (Wt := 0) (Nat.le_of_eq rfl) (slat_met hw S.2.2.1) (by decide) (by decide) (by decide) (by decide) ?_
  intro T1 h2 F3 v4 W5 Q6
  obtain ⟨rfl, rfl, rfl⟩ := Q6
  show G E x T1 (fr x 4 #[.val (.ref s), .val (.int i.toInt32)] [(.int (1 : Int32))])
  refine w_if_eq W5 B d_sca_4 (fun q => absurd q (by decide)) (fun _ => ?_)
  show G E x T1 (fr x 7 #[.val (.ref s), .val (.int i.toInt32)] [])
  refine w_aloadN W5 B d_sca_7 rfl rfl ?_
  refine w_getF W5 B d_sca_8 (wd hw 24 rfl) Via.refl S.2.1 ?_
  intro T7 W8
  refine w_iloadN W8 B d_sca_11 rfl ?_
  refine w_static W8 B (y := ⟨"java/lang/StringLatin1", "charAt", "([BI)C"⟩) d_sca_12 (wd hw 174 rfl) (wd hw 175 rfl) (wd hw 156 rfl) (wd hw 176 rfl) (by decide) pd___BI_C378 (argsL := [(.ref v), (.int i.toInt32)]) rfl rfl rfl (Wt := 0) (Nat.le_of_eq rfl) (lca_met hw S.2.2.2 hC hL hc hi) (by decide) (by decide) (by decide) (by decide) ?_
  intro T9 h10 F11 v12 W13 Q14
  obtain ⟨rfl, rfl, rfl⟩ := Q14
  show G E x T9 (fr x 15 #[.val (.ref s), .val (.int i.toInt32)] [(.int (cs.getD i 0))])
  exact w_ireturnN W13 B d_sca_15 (Or.inr (Or.inr (Or.inl rfl))) (u := cs.getD i 0) (nar_char (ch_at hC hi).1 (ch_at hC hi).2) hQ (by decide) (by decide) (fun _ q => q) ⟨rfl, rfl, rfl⟩
set_option maxRecDepth 65536 in
set_option maxHeartbeats 4000000 in
theorem cdl_met {E : Gl} (hw : Tb E) {h : Heap} {F : List Addr} {ci : Addr} {c : Int32} :
    Met E (⟨"java/lang/CharacterDataLatin1", "toLowerCase", "(I)I"⟩ : MethodName) jdk_116_method_20_code 3 (some .int) ({ frames := 0, cells := 0, slots := 0, locals := 0 } : Room) #[.ref ci, .int c] h F (fun r h' F' => r = some (.int (lowc c)) ∧ h = h' ∧ F = F') := by
  refine met_of (by decide +kernel) fun x T hQ B W => ?_
  refine G.cast (g' := fr x 0 #[.val (.ref ci), .val (.int c), .unset] []) (by simp [entryFrame, mkF, argsToLocals, Own.cat_r, Own.cat_i, Own.cat_j, Own.cat_n]) ?_
  refine w_iloadN W B d_cdl_0 rfl ?_
  refine w_bipush W B d_cdl_1 (v := (65 : Int32)) rfl ?_
  refine w_icmp_ge W B d_cdl_3 ?_ ?_
  · intro hc3
    show G E x T (fr x 8 #[.val (.ref ci), .val (.int c), .unset] [])
    refine w_iloadN W B d_cdl_8 rfl ?_
    refine w_bipush W B d_cdl_9 (v := (32 : Int32)) rfl ?_
    refine w_ior W B d_cdl_11 ?_
    refine w_istoreN W B d_cdl_12 (Ls' := #[.val (.ref ci), .val (.int c), .val (.int (c ||| (32 : Int32)))]) rfl ?_
    refine w_iloadN W B d_cdl_13 rfl ?_
    refine w_bipush W B d_cdl_14 (v := (122 : Int32)) rfl ?_
    refine w_icmp_le W B d_cdl_16 ?_ ?_
    · intro hc16
      show G E x T (fr x 40 #[.val (.ref ci), .val (.int c), .val (.int (c ||| (32 : Int32)))] [])
      refine w_iloadN W B d_cdl_40 rfl ?_
      exact w_ireturn W B d_cdl_41 hQ (by decide) (by decide) (fun _ q => q) ⟨by unfold lowc; simp [*], rfl, rfl⟩
    · intro hc16
      show G E x T (fr x 19 #[.val (.ref ci), .val (.int c), .val (.int (c ||| (32 : Int32)))] [])
      refine w_iloadN W B d_cdl_19 rfl ?_
      refine w_sipush W B d_cdl_20 (v := (224 : Int32)) rfl ?_
      refine w_icmp_lt W B d_cdl_23 ?_ ?_
      · intro hc23
        show G E x T (fr x 42 #[.val (.ref ci), .val (.int c), .val (.int (c ||| (32 : Int32)))] [])
        refine w_iloadN W B d_cdl_42 rfl ?_
        exact w_ireturn W B d_cdl_43 hQ (by decide) (by decide) (fun _ q => q) ⟨by unfold lowc; simp [*], rfl, rfl⟩
      · intro hc23
        show G E x T (fr x 26 #[.val (.ref ci), .val (.int c), .val (.int (c ||| (32 : Int32)))] [])
        refine w_iloadN W B d_cdl_26 rfl ?_
        refine w_sipush W B d_cdl_27 (v := (254 : Int32)) rfl ?_
        refine w_icmp_gt W B d_cdl_30 ?_ ?_
        · intro hc30
          show G E x T (fr x 42 #[.val (.ref ci), .val (.int c), .val (.int (c ||| (32 : Int32)))] [])
          refine w_iloadN W B d_cdl_42 rfl ?_
          exact w_ireturn W B d_cdl_43 hQ (by decide) (by decide) (fun _ q => q) ⟨by unfold lowc; simp [*], rfl, rfl⟩
        · intro hc30
          show G E x T (fr x 33 #[.val (.ref ci), .val (.int c), .val (.int (c ||| (32 : Int32)))] [])
          refine w_iloadN W B d_cdl_33 rfl ?_
          refine w_sipush W B d_cdl_34 (v := (247 : Int32)) rfl ?_
          refine w_icmp_eq W B d_cdl_37 ?_ ?_
          · intro hc37
            show G E x T (fr x 42 #[.val (.ref ci), .val (.int c), .val (.int (c ||| (32 : Int32)))] [])
            refine w_iloadN W B d_cdl_42 rfl ?_
            exact w_ireturn W B d_cdl_43 hQ (by decide) (by decide) (fun _ q => q) ⟨by unfold lowc; simp [*], rfl, rfl⟩
          · intro hc37
            show G E x T (fr x 40 #[.val (.ref ci), .val (.int c), .val (.int (c ||| (32 : Int32)))] [])
            refine w_iloadN W B d_cdl_40 rfl ?_
            exact w_ireturn W B d_cdl_41 hQ (by decide) (by decide) (fun _ q => q) ⟨by unfold lowc; simp [*], rfl, rfl⟩
  · intro hc3
    show G E x T (fr x 6 #[.val (.ref ci), .val (.int c), .unset] [])
    refine w_iloadN W B d_cdl_6 rfl ?_
    exact w_ireturn W B d_cdl_7 hQ (by decide) (by decide) (fun _ q => q) ⟨by unfold lowc; simp [*], rfl, rfl⟩
set_option maxRecDepth 65536 in
set_option maxHeartbeats 4000000 in
theorem blan_met {E : Gl} (hw : Tb E) {h : Heap} {F : List Addr} {bl la : Addr} (f : Fld E.Z h bl "sun/util/locale/BaseLocale" "language" "Ljava/lang/String;" (.ref la)) :
    Met E (⟨"sun/util/locale/BaseLocale", "getLanguage", "()Ljava/lang/String;"⟩ : MethodName) jdk_3003_method_5_code 1 (some (.object "java/lang/String")) ({ frames := 0, cells := 0, slots := 0, locals := 0 } : Room) #[.ref bl] h F (fun r h' F' => r = some (.ref la) ∧ h = h' ∧ F = F') := by
  refine met_of (by decide +kernel) fun x T hQ B W => ?_
  refine G.cast (g' := fr x 0 #[.val (.ref bl)] []) (by simp [entryFrame, mkF, argsToLocals, Own.cat_r, Own.cat_i, Own.cat_j, Own.cat_n]) ?_
  refine w_aloadN W B d_blan_0 rfl rfl ?_
  refine w_getF W B d_blan_1 (wd hw 211 rfl) Via.refl f ?_
  intro T1 W2
  exact w_areturn W2 B d_blan_4 rfl rfl hQ (by decide) (by decide) (fun _ q => q) ⟨rfl, rfl, rfl⟩
set_option maxRecDepth 65536 in
set_option maxHeartbeats 4000000 in
theorem llan_met {E : Gl} (hw : Tb E) {h : Heap} {F : List Addr} {lo bl la lv : Addr} {kl : ClassId} (Lo : LocV E lo bl la lv kl) :
    Met E (⟨"java/util/Locale", "getLanguage", "()Ljava/lang/String;"⟩ : MethodName) jdk_2628_method_27_code 1 (some (.object "java/lang/String")) ({ frames := 1, cells := 0, slots := 0, locals := 12 } : Room) #[.ref lo] h F (fun r h' F' => r = some (.ref la) ∧ h = h' ∧ F = F') := by
  refine met_of (by decide +kernel) fun x T hQ B W => ?_
  refine G.cast (g' := fr x 0 #[.val (.ref lo)] []) (by simp [entryFrame, mkF, argsToLocals, Own.cat_r, Own.cat_i, Own.cat_j, Own.cat_n]) ?_
  refine w_aloadN W B d_llan_0 rfl rfl ?_
  refine w_getF W B d_llan_1 (wd hw 203 rfl) Via.refl (Lo.2.1.ext W.old) ?_
  intro T1 W2
  refine w_virtual W2 B (y := ⟨"sun/util/locale/BaseLocale", "getLanguage", "()Ljava/lang/String;"⟩) (z := ⟨"sun/util/locale/BaseLocale", "getLanguage", "()Ljava/lang/String;"⟩) d_llan_4 (wd hw 205 rfl) (wd hw 206 rfl) (nf_sel (wd hw 208 rfl)) (wd hw 208 rfl) (wd hw 207 rfl) (wd hw 209 rfl) (wd hw 210 rfl) (by decide) (Lo.2.2.1.ext W.old) pd___Ljava_lang_String_780 (argsL := []) rfl rfl rfl (Wt := 0) (Nat.le_of_eq rfl) (blan_met hw (Lo.2.2.2.1.ext W.old)) (by decide) (by decide) (by decide) (by decide) ?_
  intro T3 h4 F5 v6 W7 Q8
  obtain ⟨rfl, rfl, rfl⟩ := Q8
  show G E x T3 (fr x 7 #[.val (.ref lo)] [(.ref la)])
  exact w_areturn W7 B d_llan_7 rfl rfl hQ (by decide) (by decide) (fun _ q => q) ⟨rfl, rfl, rfl⟩
set_option maxRecDepth 65536 in
set_option maxHeartbeats 4000000 in
theorem cenc_met {E : Gl} (hw : Tb E) {h : Heap} {F : List Addr} {c : Int32} (hc : 0 ≤ c.toInt ∧ c.toInt ≤ 255) :
    Met E (⟨"java/lang/StringLatin1", "canEncode", "(I)Z"⟩ : MethodName) jdk_43_method_4_code 1 (some .boolean) ({ frames := 0, cells := 0, slots := 0, locals := 0 } : Room) #[.int c] h F (fun r h' F' => r = some (.int 1) ∧ h = h' ∧ F = F') := by
  refine met_of (by decide +kernel) fun x T hQ B W => ?_
  refine G.cast (g' := fr x 0 #[.val (.int c)] []) (by simp [entryFrame, mkF, argsToLocals, Own.cat_r, Own.cat_i, Own.cat_j, Own.cat_n]) ?_
  refine w_iloadN W B d_cenc_0 rfl ?_
  refine w_if_lt W B d_cenc_1 (fun q => absurd q (by rw [Int32.lt_iff_toInt_lt]; exact Int.not_lt.mpr hc.1)) (fun _ => ?_)
  show G E x T (fr x 4 #[.val (.int c)] [])
  refine w_iloadN W B d_cenc_4 rfl ?_
  refine w_sipush W B d_cenc_5 (v := (255 : Int32)) rfl ?_
  refine w_icmp_gt W B d_cenc_8 (fun q => absurd q (by rw [Int32.lt_iff_toInt_lt]; exact Int.not_lt.mpr hc.2)) (fun _ => ?_)
  show G E x T (fr x 11 #[.val (.int c)] [])
  refine w_iconst W B d_cenc_11 (v := (1 : Int32)) rfl ?_
  refine w_goto W B d_cenc_12 ?_
  exact w_ireturnN W B d_cenc_16 (Or.inl rfl) (u := 1) rfl hQ (by decide) (by decide) (fun _ q => q) ⟨rfl, rfl, rfl⟩
set_option maxRecDepth 65536 in
set_option maxHeartbeats 4000000 in
theorem inibb_met {E : Gl} (hw : Tb E) {h : Heap} {F : List Addr} {t v : Addr} {k : ClassId} {cs : List Int32} (ht : t ∈ F) (Et : Exa E.Z h t "java/lang/String") (fv : Fld E.Z h t "java/lang/String" "value" "[B" .null) (fc : Fld E.Z h t "java/lang/String" "coder" "B" (.int 0)) (Av : Arv E.Z h v k .byte cs.length.toInt32 (b8 cs) (.int 0)) :
    Met E (⟨"java/lang/String", "<init>", "([BB)V"⟩ : MethodName) jdk_42_method_151_code 3 none ({ frames := 1, cells := 0, slots := 0, locals := 12 } : Room) #[.ref t, .ref v, .int 0] h F (fun r h' F' => r = none ∧ F = F' ∧ Keep h h' [t] ∧ StrL E h' t v k cs) := by
  refine met_of (by decide +kernel) fun x T hQ B W => ?_
  refine G.cast (g' := fr x 0 #[.val (.ref t), .val (.ref v), .val (.int (0 : Int32))] []) (by simp [entryFrame, mkF, argsToLocals, Own.cat_r, Own.cat_i, Own.cat_j, Own.cat_n]) ?_
  refine w_aloadN W B d_inibb_0 rfl rfl ?_
  refine w_initO W B d_inibb_1 (wd hw 15 rfl) (wd hw 16 rfl) (wd hw 17 rfl) rfl (by decide) (Wt := 0) (Nat.le_of_eq rfl) (by decide) ?_
  intro T1 W2
  refine w_aloadN W2 B d_inibb_4 rfl rfl ?_
  refine w_aloadN W2 B d_inibb_5 rfl rfl ?_
  refine w_putF W2 B d_inibb_6 ht (wd hw 24 rfl) Via.refl fv Et (Or.inr ⟨(wd hw 20 rfl), rfl, rfl⟩) (wd hw 5 rfl) (ty := (.array .byte)) (v' := (.ref v)) (by decide) rfl rfl ?_
  intro T3 h4 W5 Y6 f7
  refine w_aloadN W5 B d_inibb_9 rfl rfl ?_
  refine w_iloadN W5 B d_inibb_10 rfl ?_
  refine w_putF W5 B d_inibb_11 ht (wd hw 25 rfl) Via.refl (fc.other Y6 (Or.inr (slot_ne (Or.inr (wd hw 21 rfl)) (Or.inr (wd hw 20 rfl)) (t := .byte) (t' := (.array .byte)) (by decide) (by decide) (by decide)))) (Et.wr Y6) (Or.inr ⟨(wd hw 21 rfl), rfl, rfl⟩) (wd hw 5 rfl) (ty := .byte) (v' := (.int (0 : Int32))) (by decide) rfl rfl ?_
  intro T8 h9 W10 Y11 f12
  have KK13 : Keep h h4 [t] := (Keep.refl h [t]).wr Y6 (Or.inl (List.Mem.head _))
  have KK14 : Keep h h9 [t] := KK13.wr Y11 (Or.inl (List.Mem.head _))
  exact w_return W10 B d_inibb_14 hQ (by decide) (by decide) (fun _ q => q) ⟨rfl, rfl, KK14, ⟨((Et.wr Y6).wr Y11), (f7.other Y11 (Or.inr (slot_ne (Or.inr (wd hw 20 rfl)) (Or.inr (wd hw 21 rfl)) (t := (.array .byte)) (t' := .byte) (by decide) (by decide) (by decide)))), f12, ((Av.other Y6 (Ne.symm (Exa.neArv Et Av (wd hw 5 rfl)))).other Y11 (Ne.symm (Exa.neArv Et Av (wd hw 5 rfl))))⟩⟩
set_option maxRecDepth 65536 in
set_option maxHeartbeats 4000000 in
theorem tl2_turns {E : Gl} (hw : Tb E) {x : Cx} {t tv lo la d ci : Addr} {kt kd : ClassId} {cs : List Int32} {f : Int32} {h0 : Heap} {F : List Addr} (hQ : x.Q = fun r h' F' => ∃ (q qv : Addr) (kq : ClassId), r = some (.ref q) ∧ F = F' ∧ Keep h0 h' [] ∧ StrL E h' q qv kq (cs.map lowc)) (B : Is x "java/lang/StringLatin1" jdk_43_method_32_code 9 ({ frames := 2, cells := 8, slots := 56, locals := 27 } : Room) (some (.object "java/lang/String")) "toLowerCase") (hRi : ∀ i, i < cs.length → 0 ≤ (cs.getD i 0).toInt ∧ (cs.getD i 0).toInt ≤ 255) (hc : cs.length < 2 ^ 31) (Si : Sta E.Z E.Z.heap "java/lang/CharacterDataLatin1" "instance" "Ljava/lang/CharacterDataLatin1;" (.ref ci)) (Xi : Exa E.Z E.Z.heap ci "java/lang/CharacterDataLatin1") (htd : tv ≠ d) (hd0 : h0.size ≤ d) :
    ∀ (r i : Nat) (T : State) (h : Heap) (s8 : Slot) (vs : List Value), i + r = cs.length → LS s8 → Wk E x T h (d :: F) 7 52 → Arv E.Z h tv kt .byte cs.length.toInt32 (b8 cs) (.int 0) → Arv E.Z h d kd .byte cs.length.toInt32 vs (.int 0) → vs.length = cs.length →
      (∀ j, j < i → vs.getD j (.int 0) = .int (lo8 (lowc (cs.getD j 0)))) → Keep h0 h [] → G E x T (fr x 117 #[.val (.ref t), .val (.ref tv), .val (.ref lo), .val (.int f), .val (.int cs.length.toInt32), .val (.ref la), .val (.ref d), .val (.int i.toInt32), s8] []) := by
  intro r
  induction r with
  | zero =>
    intro i T h s8 vs hir hs8 W At Ad hvl hvs hK
    have hi31 : i < 2 ^ 31 := by omega
    refine w_iload W B d_tl_117 rfl ?_
    refine w_iload W B d_tl_119 rfl ?_
    refine w_icmp_ge W B d_tl_121 (fun _ => ?_) (fun q => absurd q (by rw [n_lt hi31 hc]; omega))
    show G E x T (fr x 175 #[.val (.ref t), .val (.ref tv), .val (.ref lo), .val (.int f), .val (.int cs.length.toInt32), .val (.ref la), .val (.ref d), .val (.int i.toInt32), s8] [])
    refine w_new W B d_tl_175 (wd hw 220 rfl) (wd hw 5 rfl) (wd hw 6 rfl) (by decide) (by decide) ?_
    intro T1 h2 b3 W4 g5 X6 A7 D8
    have f9 : Fld E.Z h2 b3 "java/lang/String" "value" "[B" .null := D8 (Or.inr (wd hw 20 rfl)) (ty := (.array .byte)) (by decide)
    have f10 : Fld E.Z h2 b3 "java/lang/String" "coder" "B" (.int (0 : Int32)) := D8 (Or.inr (wd hw 21 rfl)) (ty := .byte) (by decide)
    show G E x T1 (fr x 178 #[.val (.ref t), .val (.ref tv), .val (.ref lo), .val (.int f), .val (.int cs.length.toInt32), .val (.ref la), .val (.ref d), .val (.int i.toInt32), s8] [(.ref b3)])
    refine w_dup W4 B d_tl_178 rfl ?_
    refine w_aload W4 B d_tl_179 rfl rfl ?_
    refine w_iconst W4 B d_tl_181 (v := (0 : Int32)) rfl ?_
    have ev : vs = b8 (cs.map lowc) := vs_b8 hvl (List.length_map ..) (fun j q => (hvs j (by omega)).trans (by rw [map_at q]))
    have Ae : Arv E.Z h d kd .byte (cs.map lowc).length.toInt32 (b8 (cs.map lowc)) (.int 0) := by rw [List.length_map, ← ev]; exact Ad
    refine w_special W4 B (y := ⟨"java/lang/String", "<init>", "([BB)V"⟩) d_tl_182 rfl (wd hw 221 rfl) (wd hw 222 rfl) (wd hw 6 rfl) (wd hw 223 rfl) (by decide) pd___BB_V390 (argsL := [(.ref d), (.int (0 : Int32))]) rfl rfl rfl (Wt := 1) (Nat.le_of_eq rfl) (inibb_met hw (List.Mem.head _) A7 f9 f10 (Ae.ext X6)) (by decide) (by decide) (by decide) (by decide) ?_
    intro T11 h12 F13 v14 W15 Q16
    obtain ⟨rfl, rfl, KS, SS⟩ := Q16
    show G E x T11 (fr x 185 #[.val (.ref t), .val (.ref tv), .val (.ref lo), .val (.int f), .val (.int cs.length.toInt32), .val (.ref la), .val (.ref d), .val (.int i.toInt32), s8] [(.ref b3)])
    have KK17 : Keep h h2 [] := (Keep.refl h []).ext X6
    have KK18 : Keep h h12 [] := KK17.trans KS (allS (Or.inr (Nat.le_trans (Keep.refl h []).1 (Nat.le_of_eq g5.symm))) all0)
    exact w_areturn W15 B d_tl_185 rfl rfl hQ (by decide) (by decide) (fun _ q => List.Mem.tail _ (List.Mem.tail _ q)) ⟨b3, d, kd, rfl, rfl, hK.trans KK18 (fun _ q => nomatch q), SS⟩
  | succ r ih =>
    intro i T h s8 vs hir hs8 W At Ad hvl hvs hK
    have hi : i < cs.length := by omega
    have hi31 : i < 2 ^ 31 := by omega
    refine w_iload W B d_tl_117 rfl ?_
    refine w_iload W B d_tl_119 rfl ?_
    refine w_icmp_ge W B d_tl_121 (fun q => q ((n_lt hi31 hc).mpr hi) |>.elim) (fun _ => ?_)
    show G E x T (fr x 124 #[.val (.ref t), .val (.ref tv), .val (.ref lo), .val (.int f), .val (.int cs.length.toInt32), .val (.ref la), .val (.ref d), .val (.int i.toInt32), s8] [])
    refine w_aloadN W B d_tl_124 rfl rfl ?_
    refine w_iload W B d_tl_125 rfl ?_
    refine w_baload W B d_tl_127 At ⟨n_nn hi31, (n_lt hi31 hc).mpr hi⟩ (v := .int (lo8 (cs.getD i 0))) (by rw [n_clamp hi31]; exact b8_at hi _) ?_
    refine w_sipush W B d_tl_128 (v := (255 : Int32)) rfl ?_
    refine w_iand W B d_tl_131 ?_
    rw [lo8_mask (hRi i hi).1 (hRi i hi).2]
    show G E x T (fr x 132 #[.val (.ref t), .val (.ref tv), .val (.ref lo), .val (.int f), .val (.int cs.length.toInt32), .val (.ref la), .val (.ref d), .val (.int i.toInt32), s8] [(.int (cs.getD i 0))])
    refine w_istore W B d_tl_132 (Ls' := #[.val (.ref t), .val (.ref tv), .val (.ref lo), .val (.int f), .val (.int cs.length.toInt32), .val (.ref la), .val (.ref d), .val (.int i.toInt32), .val (.int (cs.getD i 0))]) (store_lit [.val (.ref t), .val (.ref tv), .val (.ref lo), .val (.int f), .val (.int cs.length.toInt32), .val (.ref la), .val (.ref d), .val (.int i.toInt32)] [] hs8 _) ?_
    refine w_getS W B d_tl_134 (wd hw 158 rfl) Via.refl Si ?_
    intro T1 W2
    refine w_iload W2 B d_tl_137 rfl ?_
    refine w_virtual W2 B (y := ⟨"java/lang/CharacterDataLatin1", "toLowerCase", "(I)I"⟩) (z := ⟨"java/lang/CharacterDataLatin1", "toLowerCase", "(I)I"⟩) d_tl_139 (wd hw 160 rfl) (wd hw 161 rfl) (nf_sel (wd hw 163 rfl)) (wd hw 163 rfl) (wd hw 162 rfl) (wd hw 159 rfl) (wd hw 164 rfl) (by decide) (Xi.ext W.old) pd__I_I227 (argsL := [(.int (cs.getD i 0))]) rfl rfl rfl (Wt := 0) (Nat.le_of_eq rfl) (cdl_met hw) (by decide) (by decide) (by decide) (by decide) ?_
    intro T3 h4 F5 v6 W7 Q8
    obtain ⟨rfl, rfl, rfl⟩ := Q8
    show G E x T3 (fr x 142 #[.val (.ref t), .val (.ref tv), .val (.ref lo), .val (.int f), .val (.int cs.length.toInt32), .val (.ref la), .val (.ref d), .val (.int i.toInt32), .val (.int (cs.getD i 0))] [(.int (lowc (cs.getD i 0)))])
    refine w_istore W7 B d_tl_142 (Ls' := #[.val (.ref t), .val (.ref tv), .val (.ref lo), .val (.int f), .val (.int cs.length.toInt32), .val (.ref la), .val (.ref d), .val (.int i.toInt32), .val (.int (lowc (cs.getD i 0)))]) rfl ?_
    refine w_iload W7 B d_tl_144 rfl ?_
    refine w_static W7 B (y := ⟨"java/lang/StringLatin1", "canEncode", "(I)Z"⟩) d_tl_146 (wd hw 217 rfl) (wd hw 218 rfl) (wd hw 156 rfl) (wd hw 219 rfl) (by decide) pd__I_Z244 (argsL := [(.int (lowc (cs.getD i 0)))]) rfl rfl rfl (Wt := 0) (Nat.le_of_eq rfl) (cenc_met hw (lowc_rng (hRi i hi).1 (hRi i hi).2)) (by decide) (by decide) (by decide) (by decide) ?_
    intro T9 h10 F11 v12 W13 Q14
    obtain ⟨rfl, rfl, rfl⟩ := Q14
    show G E x T9 (fr x 149 #[.val (.ref t), .val (.ref tv), .val (.ref lo), .val (.int f), .val (.int cs.length.toInt32), .val (.ref la), .val (.ref d), .val (.int i.toInt32), .val (.int (lowc (cs.getD i 0)))] [(.int (1 : Int32))])
    refine w_if_ne W13 B d_tl_149 (fun _ => ?_) (fun q => absurd q (by decide))
    show G E x T9 (fr x 161 #[.val (.ref t), .val (.ref tv), .val (.ref lo), .val (.int f), .val (.int cs.length.toInt32), .val (.ref la), .val (.ref d), .val (.int i.toInt32), .val (.int (lowc (cs.getD i 0)))] [])
    refine w_aload W13 B d_tl_161 rfl rfl ?_
    refine w_iload W13 B d_tl_163 rfl ?_
    refine w_iload W13 B d_tl_165 rfl ?_
    refine w_i2b W13 B d_tl_167 ?_
    refine w_bastore W13 B d_tl_168 (List.Mem.head _) Ad ⟨n_nn hi31, (n_lt hi31 hc).mpr hi⟩ (i := i) (n_clamp hi31) (by rw [hvl]; exact hi) (u := lo8 (lowc (cs.getD i 0))) (nar_lo8 _) ?_
    intro T2 h2 W2 K2 A2
    show G E x T2 (fr x 169 #[.val (.ref t), .val (.ref tv), .val (.ref lo), .val (.int f), .val (.int cs.length.toInt32), .val (.ref la), .val (.ref d), .val (.int i.toInt32), .val (.int (lowc (cs.getD i 0)))] [])
    refine w_iinc W2 B d_tl_169 rfl (w := (i + 1).toInt32) (n_succ i) (Ls' := #[.val (.ref t), .val (.ref tv), .val (.ref lo), .val (.int f), .val (.int cs.length.toInt32), .val (.ref la), .val (.ref d), .val (.int (i + 1).toInt32), .val (.int (lowc (cs.getD i 0)))]) rfl ?_
    refine w_goto W2 B d_tl_172 ?_
    exact ih (i + 1) T2 h2 _ (vs.set i (.int (lo8 (lowc (cs.getD i 0))))) (by omega) (Or.inr ⟨_, rfl⟩) W2 (At.keep K2 (ninS htd nin0)) A2 (by rw [List.length_set]; exact hvl) (set_pre hvl hi hvs) (hK.trans K2 (allS (Or.inr hd0) all0))
theorem mid_b8 {cs : List Int32} {i : Nat} (hi : i < cs.length) (h31 : i < 2 ^ 31) : ([] ++ List.replicate cs.length (Value.int 0)).take (0 : Int32).toNatClampNeg ++ (b8 cs).take i ++ ([] ++ List.replicate cs.length (Value.int 0)).drop ((0 : Int32).toNatClampNeg + i.toInt32.toNatClampNeg) = (b8 cs).take i ++ List.replicate (cs.length - i) (Value.int 0) := by
  have e0 : (0 : Int32).toNatClampNeg = 0 := by decide
  rw [n_clamp h31, e0]; simp
theorem mid_at {cs : List Int32} {i j : Nat} (hi : i < cs.length) (hj : j < i) (e : lowc (cs.getD j 0) = cs.getD j 0) : ((b8 cs).take i ++ List.replicate (cs.length - i) (Value.int 0)).getD j (.int 0) = .int (lo8 (lowc (cs.getD j 0))) := by
  rw [e, ← b8_at (by omega) (.int 0), List.getD_eq_getElem?_getD, List.getElem?_append_left (by rw [List.length_take, b8_len]; omega), List.getElem?_take_of_lt hj, List.getD_eq_getElem?_getD]
set_option maxRecDepth 65536 in
set_option maxHeartbeats 4000000 in
theorem tl63 {E : Gl} (hw : Tb E) {x : Cx} {t tv lo la ci : Addr} {kt : ClassId} {cs : List Int32} {h0 : Heap} {F : List Addr} (hQ : x.Q = fun r h' F' => ∃ (q qv : Addr) (kq : ClassId), r = some (.ref q) ∧ F = F' ∧ Keep h0 h' [] ∧ StrL E h' q qv kq (cs.map lowc)) (B : Is x "java/lang/StringLatin1" jdk_43_method_32_code 9 ({ frames := 2, cells := 8, slots := 56, locals := 27 } : Room) (some (.object "java/lang/String")) "toLowerCase") (hRi : ∀ i, i < cs.length → 0 ≤ (cs.getD i 0).toInt ∧ (cs.getD i 0).toInt ≤ 255) (hc : cs.length < 2 ^ 31) (Si : Sta E.Z E.Z.heap "java/lang/CharacterDataLatin1" "instance" "Ljava/lang/CharacterDataLatin1;" (.ref ci)) (Xi : Exa E.Z E.Z.heap ci "java/lang/CharacterDataLatin1") {bl lv : Addr} {kl : ClassId} (Lo : LocV E lo bl la lv kl) {T : State} (St : StrL E h0 t tv kt cs) (hlen : cs.length < 16) {i : Nat} (hi : i < cs.length) (hlo : ∀ j, j < i → lowc (cs.getD j 0) = cs.getD j 0) {c5 : Int32} (W : Wk E x T h0 F 0 0) : G E x T (fr x 63 #[.val (.ref t), .val (.ref tv), .val (.ref lo), .val (.int i.toInt32), .val (.int cs.length.toInt32), .val (.int c5), .unset, .unset, .unset] []) := by
  have hi31 : i < 2 ^ 31 := by omega
  refine w_aloadN W B d_tl_63 rfl rfl ?_
  refine w_virtual W B (y := ⟨"java/util/Locale", "getLanguage", "()Ljava/lang/String;"⟩) (z := ⟨"java/util/Locale", "getLanguage", "()Ljava/lang/String;"⟩) d_tl_64 (wd hw 198 rfl) (wd hw 199 rfl) (nf_sel (wd hw 201 rfl)) (wd hw 201 rfl) (wd hw 200 rfl) (wd hw 143 rfl) (wd hw 202 rfl) (by decide) (Lo.1.ext W.old) pd___Ljava_lang_String_780 (argsL := []) rfl rfl rfl (Wt := 0) (Nat.le_of_eq rfl) (llan_met hw Lo) (by decide) (by decide) (by decide) (by decide) ?_
  intro T1 h2 F3 v4 W5 Q6
  obtain ⟨rfl, rfl, rfl⟩ := Q6
  show G E x T1 (fr x 67 #[.val (.ref t), .val (.ref tv), .val (.ref lo), .val (.int i.toInt32), .val (.int cs.length.toInt32), .val (.int c5), .unset, .unset, .unset] [(.ref la)])
  refine w_astore W5 B d_tl_67 rfl (Ls' := #[.val (.ref t), .val (.ref tv), .val (.ref lo), .val (.int i.toInt32), .val (.int cs.length.toInt32), .val (.ref la), .unset, .unset, .unset]) rfl ?_
  refine w_aload W5 B d_tl_69 rfl rfl ?_
  refine w_ldcS W5 B (n := 8) (text := "tr") (vs := [(.int (116 : Int32)), (.int (114 : Int32))]) (z := 2) d_tl_71 hw.2.2.1 (by rw [hw.2.2.2]; decide) (wd hw 213 rfl) (strAtoms hw) ⟨by decide, by decide⟩ (by decide) (by decide) (by decide) (by decide) (by decide) (by decide) ?_
  intro T7 h8 c9 v10 k11 W12 X13 E14 f15 f16 A17 n18
  show G E x T7 (fr x 73 #[.val (.ref t), .val (.ref tv), .val (.ref lo), .val (.int i.toInt32), .val (.int cs.length.toInt32), .val (.ref la), .unset, .unset, .unset] [(.ref c9), (.ref la)])
  refine w_acmp_eq_n W12 B d_tl_73 rfl rfl (fun q => absurd (Value.ref.inj q) (Fld.ne ((Lo.2.2.2.2.1.ext W.old).ext X13) f16 (fun q => absurd (Value.ref.inj q) (Own.arv_ne ((Lo.2.2.2.2.2.ext W.old).ext X13) A17 (by decide))))) ?_
  show G E x T7 (fr x 76 #[.val (.ref t), .val (.ref tv), .val (.ref lo), .val (.int i.toInt32), .val (.int cs.length.toInt32), .val (.ref la), .unset, .unset, .unset] [])
  refine w_aload W12 B d_tl_76 rfl rfl ?_
  refine w_ldcS W12 B (n := 8) (text := "az") (vs := [(.int (97 : Int32)), (.int (122 : Int32))]) (z := 2) d_tl_78 hw.2.2.1 (by rw [hw.2.2.2]; decide) (wd hw 214 rfl) (strAtoms hw) ⟨by decide, by decide⟩ (by decide) (by decide) (by decide) (by decide) (by decide) (by decide) ?_
  intro T19 h20 c21 v22 k23 W24 X25 E26 f27 f28 A29 n30
  show G E x T19 (fr x 80 #[.val (.ref t), .val (.ref tv), .val (.ref lo), .val (.int i.toInt32), .val (.int cs.length.toInt32), .val (.ref la), .unset, .unset, .unset] [(.ref c21), (.ref la)])
  refine w_acmp_eq_n W24 B d_tl_80 rfl rfl (fun q => absurd (Value.ref.inj q) (Fld.ne (((Lo.2.2.2.2.1.ext W.old).ext X13).ext X25) f28 (fun q => absurd (Value.ref.inj q) (Own.arv_ne (((Lo.2.2.2.2.2.ext W.old).ext X13).ext X25) A29 (by decide))))) ?_
  show G E x T19 (fr x 83 #[.val (.ref t), .val (.ref tv), .val (.ref lo), .val (.int i.toInt32), .val (.int cs.length.toInt32), .val (.ref la), .unset, .unset, .unset] [])
  refine w_aload W24 B d_tl_83 rfl rfl ?_
  refine w_ldcS W24 B (n := 8) (text := "lt") (vs := [(.int (108 : Int32)), (.int (116 : Int32))]) (z := 2) d_tl_85 hw.2.2.1 (by rw [hw.2.2.2]; decide) (wd hw 215 rfl) (strAtoms hw) ⟨by decide, by decide⟩ (by decide) (by decide) (by decide) (by decide) (by decide) (by decide) ?_
  intro T31 h32 c33 v34 k35 W36 X37 E38 f39 f40 A41 n42
  show G E x T31 (fr x 87 #[.val (.ref t), .val (.ref tv), .val (.ref lo), .val (.int i.toInt32), .val (.int cs.length.toInt32), .val (.ref la), .unset, .unset, .unset] [(.ref c33), (.ref la)])
  refine w_acmp_ne_n W36 B d_tl_87 rfl rfl (fun q => absurd (Value.ref.inj q) (Fld.ne ((((Lo.2.2.2.2.1.ext W.old).ext X13).ext X25).ext X37) f40 (fun q => absurd (Value.ref.inj q) (Own.arv_ne ((((Lo.2.2.2.2.2.ext W.old).ext X13).ext X25).ext X37) A41 (by decide))))) ?_
  show G E x T31 (fr x 99 #[.val (.ref t), .val (.ref tv), .val (.ref lo), .val (.int i.toInt32), .val (.int cs.length.toInt32), .val (.ref la), .unset, .unset, .unset] [])
  refine w_iload W36 B d_tl_99 rfl ?_
  refine w_newarray W36 B d_tl_101 rfl (wd hw 19 rfl) (n_nn hc) (cap := 16) (by rw [n_clamp hc]; omega) (by decide) (by decide) (by decide) ?_
  intro T43 h44 b45 k46 W47 g48 X49 A50
  show G E x T43 (fr x 103 #[.val (.ref t), .val (.ref tv), .val (.ref lo), .val (.int i.toInt32), .val (.int cs.length.toInt32), .val (.ref la), .unset, .unset, .unset] [(.ref b45)])
  refine w_astore W47 B d_tl_103 rfl (Ls' := #[.val (.ref t), .val (.ref tv), .val (.ref lo), .val (.int i.toInt32), .val (.int cs.length.toInt32), .val (.ref la), .val (.ref b45), .unset, .unset]) rfl ?_
  refine w_aloadN W47 B d_tl_105 rfl rfl ?_
  refine w_iconst W47 B d_tl_106 (v := (0 : Int32)) rfl ?_
  refine w_aload W47 B d_tl_107 rfl rfl ?_
  refine w_iconst W47 B d_tl_109 (v := (0 : Int32)) rfl ?_
  refine w_iloadN W47 B d_tl_110 rfl ?_
  have A51 := A50.pad (pad_rep [] _ cs.length)
  refine w_arraycopy W47 B d_tl_111 (wd hw 216 rfl) (wd hw 95 rfl) (wd hw 93 rfl) (wd hw 94 rfl) (List.Mem.head _) ((((St.2.2.2.ext X13).ext X25).ext X37).ext X49) A51 rfl (by decide) (by decide) (n_nn hi31) (by rw [n_clamp hi31, n_clamp hc]; show 0 + i ≤ _; omega) (by rw [n_clamp hi31, n_clamp hc]; show 0 + i ≤ _; omega) (us := (b8 cs).take i) (us_all hi31 (by rw [b8_len]; omega)) (by rw [n_clamp hi31, List.nil_append, List.length_replicate]; show 0 + i ≤ _; omega) rfl (by decide) (Wt := 0) (Nat.le_of_eq rfl) (by decide) ?_
  intro T52 h53 W54 K55 A56
  have A57 : Arv E.Z h53 b45 k46 .byte cs.length.toInt32 ((b8 cs).take i ++ List.replicate (cs.length - i) (Value.int 0)) (.int (0 : Int32)) := (mid_b8 hi hi31) ▸ A56
  show G E x T52 (fr x 114 #[.val (.ref t), .val (.ref tv), .val (.ref lo), .val (.int i.toInt32), .val (.int cs.length.toInt32), .val (.ref la), .val (.ref b45), .unset, .unset] [])
  refine w_iloadN W54 B d_tl_114 rfl ?_
  refine w_istore W54 B d_tl_115 (Ls' := #[.val (.ref t), .val (.ref tv), .val (.ref lo), .val (.int i.toInt32), .val (.int cs.length.toInt32), .val (.ref la), .val (.ref b45), .val (.int i.toInt32), .unset]) rfl ?_
  have KK58 : Keep h0 h8 [] := (Keep.refl h0 []).ext X13
  have KK59 : Keep h0 h20 [] := KK58.ext X25
  have KK60 : Keep h0 h32 [] := KK59.ext X37
  have KK61 : Keep h0 h44 [] := KK60.ext X49
  have KK62 : Keep h0 h53 [] := KK61.trans K55 (allS (Or.inr (Nat.le_trans KK60.1 (Nat.le_of_eq g48.symm))) all0)
  have gd : h0.size ≤ b45 := Nat.le_trans KK60.1 (Nat.le_of_eq g48.symm)
  exact tl2_turns hw hQ B hRi hc Si Xi (Own.ne_new (((St.2.2.2.ext X13).ext X25).ext X37).lt g48) gd (cs.length - i) i T52 h53 .unset _ (by omega) (Or.inl rfl) (W54.mono (fun _ q => q) (by decide) (by decide)) (((((St.2.2.2.ext X13).ext X25).ext X37).ext X49).keep K55 (ninS (Own.ne_new (((St.2.2.2.ext X13).ext X25).ext X37).lt g48) nin0)) A57 (by rw [List.length_append, List.length_take, b8_len, List.length_replicate]; omega) (fun j hj => mid_at hi hj (hlo j hj)) KK62
theorem low_same {cs : List Int32} (h : ∀ j, j < cs.length → lowc (cs.getD j 0) = cs.getD j 0) : cs.map lowc = cs := by
  apply List.ext_getElem (by simp)
  intro j h1 h2
  have := h j h2
  simpa [List.getD_eq_getElem?_getD, List.getElem?_eq_getElem h2] using this
set_option maxRecDepth 65536 in
set_option maxHeartbeats 4000000 in
theorem tl_turns {E : Gl} (hw : Tb E) {x : Cx} {t tv lo la ci : Addr} {kt : ClassId} {cs : List Int32} {h0 : Heap} {F : List Addr} (hQ : x.Q = fun r h' F' => ∃ (q qv : Addr) (kq : ClassId), r = some (.ref q) ∧ F = F' ∧ Keep h0 h' [] ∧ StrL E h' q qv kq (cs.map lowc)) (B : Is x "java/lang/StringLatin1" jdk_43_method_32_code 9 ({ frames := 2, cells := 8, slots := 56, locals := 27 } : Room) (some (.object "java/lang/String")) "toLowerCase") (hRi : ∀ i, i < cs.length → 0 ≤ (cs.getD i 0).toInt ∧ (cs.getD i 0).toInt ≤ 255) (hc : cs.length < 2 ^ 31) (Si : Sta E.Z E.Z.heap "java/lang/CharacterDataLatin1" "instance" "Ljava/lang/CharacterDataLatin1;" (.ref ci)) (Xi : Exa E.Z E.Z.heap ci "java/lang/CharacterDataLatin1") {bl lv : Addr} {kl : ClassId} (Lo : LocV E lo bl la lv kl) (St : StrL E h0 t tv kt cs) (hlen : cs.length < 16) :
    ∀ (r i : Nat) (T : State) (s5 : Slot), i + r = cs.length → LS s5 → Wk E x T h0 F 0 0 → (∀ j, j < i → lowc (cs.getD j 0) = cs.getD j 0) → G E x T (fr x 18 #[.val (.ref t), .val (.ref tv), .val (.ref lo), .val (.int i.toInt32), .val (.int cs.length.toInt32), s5, .unset, .unset, .unset] []) := by
  intro r
  induction r with
  | zero =>
    intro i T s5 hir hs5 W hlo
    have hi31 : i < 2 ^ 31 := by omega
    refine w_iloadN W B d_tl_18 rfl ?_
    refine w_iload W B d_tl_19 rfl ?_
    refine w_icmp_ge W B d_tl_21 (fun _ => ?_) (fun q => absurd q (by rw [n_lt hi31 hc]; omega))
    show G E x T (fr x 55 #[.val (.ref t), .val (.ref tv), .val (.ref lo), .val (.int i.toInt32), .val (.int cs.length.toInt32), s5, .unset, .unset, .unset] [])
    refine w_iloadN W B d_tl_55 rfl ?_
    refine w_iload W B d_tl_56 rfl ?_
    refine w_icmp_ne W B d_tl_58 (fun q => q (by rw [show i = cs.length from by omega]) |>.elim) (fun _ => ?_)
    show G E x T (fr x 61 #[.val (.ref t), .val (.ref tv), .val (.ref lo), .val (.int i.toInt32), .val (.int cs.length.toInt32), s5, .unset, .unset, .unset] [])
    refine w_aloadN W B d_tl_61 rfl rfl ?_
    exact w_areturn W B d_tl_62 rfl rfl hQ (by decide) (by decide) (fun _ q => q) ⟨t, tv, kt, rfl, rfl, Keep.refl _ _, (low_same (fun j hj => hlo j (by omega))).symm ▸ St⟩
  | succ r ih =>
    intro i T s5 hir hs5 W hlo
    have hi : i < cs.length := by omega
    have hi31 : i < 2 ^ 31 := by omega
    refine w_iloadN W B d_tl_18 rfl ?_
    refine w_iload W B d_tl_19 rfl ?_
    refine w_icmp_ge W B d_tl_21 (fun q => q ((n_lt hi31 hc).mpr hi) |>.elim) (fun _ => ?_)
    show G E x T (fr x 24 #[.val (.ref t), .val (.ref tv), .val (.ref lo), .val (.int i.toInt32), .val (.int cs.length.toInt32), s5, .unset, .unset, .unset] [])
    refine w_aloadN W B d_tl_24 rfl rfl ?_
    refine w_iloadN W B d_tl_25 rfl ?_
    refine w_baload W B d_tl_26 St.2.2.2 ⟨n_nn hi31, (n_lt hi31 hc).mpr hi⟩ (v := .int (lo8 (cs.getD i 0))) (by rw [n_clamp hi31]; exact b8_at hi _) ?_
    refine w_sipush W B d_tl_27 (v := (255 : Int32)) rfl ?_
    refine w_iand W B d_tl_30 ?_
    rw [lo8_mask (hRi i hi).1 (hRi i hi).2]
    show G E x T (fr x 31 #[.val (.ref t), .val (.ref tv), .val (.ref lo), .val (.int i.toInt32), .val (.int cs.length.toInt32), s5, .unset, .unset, .unset] [(.int (cs.getD i 0))])
    refine w_istore W B d_tl_31 (Ls' := #[.val (.ref t), .val (.ref tv), .val (.ref lo), .val (.int i.toInt32), .val (.int cs.length.toInt32), .val (.int (cs.getD i 0)), .unset, .unset, .unset]) (store_lit [.val (.ref t), .val (.ref tv), .val (.ref lo), .val (.int i.toInt32), .val (.int cs.length.toInt32)] [.unset, .unset, .unset] hs5 _) ?_
    refine w_iload W B d_tl_33 rfl ?_
    refine w_getS W B d_tl_35 (wd hw 158 rfl) Via.refl Si ?_
    intro T1 W2
    refine w_iload W2 B d_tl_38 rfl ?_
    refine w_virtual W2 B (y := ⟨"java/lang/CharacterDataLatin1", "toLowerCase", "(I)I"⟩) (z := ⟨"java/lang/CharacterDataLatin1", "toLowerCase", "(I)I"⟩) d_tl_40 (wd hw 160 rfl) (wd hw 161 rfl) (nf_sel (wd hw 163 rfl)) (wd hw 163 rfl) (wd hw 162 rfl) (wd hw 159 rfl) (wd hw 164 rfl) (by decide) (Xi.ext W.old) pd__I_I227 (argsL := [(.int (cs.getD i 0))]) rfl rfl rfl (Wt := 1) (Nat.le_of_eq rfl) (cdl_met hw) (by decide) (by decide) (by decide) (by decide) ?_
    intro T3 h4 F5 v6 W7 Q8
    obtain ⟨rfl, rfl, rfl⟩ := Q8
    show G E x T3 (fr x 43 #[.val (.ref t), .val (.ref tv), .val (.ref lo), .val (.int i.toInt32), .val (.int cs.length.toInt32), .val (.int (cs.getD i 0)), .unset, .unset, .unset] [(.int (lowc (cs.getD i 0))), (.int (cs.getD i 0))])
    refine w_icmp_eq W7 B d_tl_43 ?_ ?_
    · intro hc43
      show G E x T3 (fr x 49 #[.val (.ref t), .val (.ref tv), .val (.ref lo), .val (.int i.toInt32), .val (.int cs.length.toInt32), .val (.int (cs.getD i 0)), .unset, .unset, .unset] [])
      refine w_iinc W7 B d_tl_49 rfl (w := (i + 1).toInt32) (n_succ i) (Ls' := #[.val (.ref t), .val (.ref tv), .val (.ref lo), .val (.int (i + 1).toInt32), .val (.int cs.length.toInt32), .val (.int (cs.getD i 0)), .unset, .unset, .unset]) rfl ?_
      refine w_goto W7 B d_tl_52 ?_
      exact ih (i + 1) T3 _ (by omega) (Or.inr ⟨_, rfl⟩) W7 (fun j hj => by rcases Nat.lt_succ_iff_lt_or_eq.mp hj with q | rfl; exact hlo j q; exact hc43.symm)
    · intro hc43
      show G E x T3 (fr x 46 #[.val (.ref t), .val (.ref tv), .val (.ref lo), .val (.int i.toInt32), .val (.int cs.length.toInt32), .val (.int (cs.getD i 0)), .unset, .unset, .unset] [])
      refine w_goto W7 B d_tl_46 ?_
      refine w_iloadN W7 B d_tl_55 rfl ?_
      refine w_iload W7 B d_tl_56 rfl ?_
      refine w_icmp_ne W7 B d_tl_58 (fun _ => ?_) (fun q => absurd q (fun q => absurd ((n_eq hi31 hc).mp q) (by omega)))
      show G E x T3 (fr x 63 #[.val (.ref t), .val (.ref tv), .val (.ref lo), .val (.int i.toInt32), .val (.int cs.length.toInt32), .val (.int (cs.getD i 0)), .unset, .unset, .unset] [])
      exact tl63 hw hQ B hRi hc Si Xi Lo St hlen hi hlo W7
set_option maxRecDepth 65536 in
set_option maxHeartbeats 4000000 in
theorem tl_met {E : Gl} (hw : Tb E) {h : Heap} {F : List Addr} {t tv : Addr} {kt : ClassId} {cs : List Int32} {lo bl la lv : Addr} {kl : ClassId} (Lo : LocV E lo bl la lv kl) {ci : Addr} (Si : Sta E.Z E.Z.heap "java/lang/CharacterDataLatin1" "instance" "Ljava/lang/CharacterDataLatin1;" (.ref ci)) (Xi : Exa E.Z E.Z.heap ci "java/lang/CharacterDataLatin1") (St : StrL E h t tv kt cs) (hR : ∀ q ∈ cs, 0 ≤ q.toInt ∧ q.toInt ≤ 255) (hlen : cs.length < 16) :
    Met E (⟨"java/lang/StringLatin1", "toLowerCase", "(Ljava/lang/String;[BLjava/util/Locale;)Ljava/lang/String;"⟩ : MethodName) jdk_43_method_32_code 9 (some (.object "java/lang/String")) ({ frames := 2, cells := 8, slots := 56, locals := 27 } : Room) #[.ref t, .ref tv, .ref lo] h F (fun r h' F' => ∃ (q qv : Addr) (kq : ClassId), r = some (.ref q) ∧ F = F' ∧ Keep h h' [] ∧ StrL E h' q qv kq (cs.map lowc)) := by
  refine met_of (by decide +kernel) fun x T hQ B W => ?_
  refine G.cast (g' := fr x 0 #[.val (.ref t), .val (.ref tv), .val (.ref lo), .unset, .unset, .unset, .unset, .unset, .unset] []) (by simp [entryFrame, mkF, argsToLocals, Own.cat_r, Own.cat_i, Own.cat_j, Own.cat_n]) ?_
  have hc : cs.length < 2 ^ 31 := by omega
  have hRi : ∀ i, i < cs.length → 0 ≤ (cs.getD i 0).toInt ∧ (cs.getD i 0).toInt ≤ 255 := fun i hi => ⟨(ch_at (rng_ch hR) hi).1, lat_at (rng_lat hR) hi⟩
  refine w_aloadN W B d_tl_0 rfl rfl ?_
  refine w_ifnonnull_ref W B d_tl_1 ?_
  refine w_aloadN W B d_tl_12 rfl rfl ?_
  refine w_arraylength W B d_tl_13 St.2.2.2 ?_
  refine w_istore W B d_tl_14 (Ls' := #[.val (.ref t), .val (.ref tv), .val (.ref lo), .unset, .val (.int cs.length.toInt32), .unset, .unset, .unset, .unset]) rfl ?_
  refine w_iconst W B d_tl_16 (v := (0 : Int32)) rfl ?_
  refine w_istoreN W B d_tl_17 (Ls' := #[.val (.ref t), .val (.ref tv), .val (.ref lo), .val (.int (0 : Int32)), .val (.int cs.length.toInt32), .unset, .unset, .unset, .unset]) rfl ?_
  exact tl_turns hw hQ B hRi hc Si Xi Lo St hlen cs.length 0 T .unset (Nat.zero_add _) (Or.inl rfl) W (fun j q => absurd q (Nat.not_lt_zero _))
set_option maxRecDepth 65536 in
set_option maxHeartbeats 4000000 in
theorem stl_met {E : Gl} (hw : Tb E) {h : Heap} {F : List Addr} {t tv : Addr} {kt : ClassId} {cs : List Int32} {lo bl la lv : Addr} {kl : ClassId} (Lo : LocV E lo bl la lv kl) {ci : Addr} (Si : Sta E.Z E.Z.heap "java/lang/CharacterDataLatin1" "instance" "Ljava/lang/CharacterDataLatin1;" (.ref ci)) (Xi : Exa E.Z E.Z.heap ci "java/lang/CharacterDataLatin1") (St : StrL E h t tv kt cs) (hR : ∀ q ∈ cs, 0 ≤ q.toInt ∧ q.toInt ≤ 255) (hlen : cs.length < 16) :
    Met E (⟨"java/lang/String", "toLowerCase", "(Ljava/util/Locale;)Ljava/lang/String;"⟩ : MethodName) jdk_42_method_109_code 2 (some (.object "java/lang/String")) ({ frames := 3, cells := 8, slots := 56, locals := 47 } : Room) #[.ref t, .ref lo] h F (fun r h' F' => ∃ (q qv : Addr) (kq : ClassId), r = some (.ref q) ∧ F = F' ∧ Keep h h' [] ∧ StrL E h' q qv kq (cs.map lowc)) := by
  refine met_of (by decide +kernel) fun x T hQ B W => ?_
  refine G.cast (g' := fr x 0 #[.val (.ref t), .val (.ref lo)] []) (by simp [entryFrame, mkF, argsToLocals, Own.cat_r, Own.cat_i, Own.cat_j, Own.cat_n]) ?_
  refine w_aloadN W B d_stl_0 rfl rfl ?_
  refine w_virtual W B (y := ⟨"java/lang/String", "isLatin1", "()Z"⟩) (z := ⟨"java/lang/String", "isLatin1", "()Z"⟩) d_stl_1 (wd hw 149 rfl) (wd hw 150 rfl) (nf_sel (wd hw 152 rfl)) (wd hw 152 rfl) (wd hw 151 rfl) (wd hw 6 rfl) (wd hw 153 rfl) (by decide) St.1 pd___Z171 (argsL := []) rfl rfl rfl (Wt := 0) (Nat.le_of_eq rfl) (slat_met hw St.2.2.1) (by decide) (by decide) (by decide) (by decide) ?_
  intro T1 h2 F3 v4 W5 Q6
  obtain ⟨rfl, rfl, rfl⟩ := Q6
  show G E x T1 (fr x 4 #[.val (.ref t), .val (.ref lo)] [(.int (1 : Int32))])
  refine w_if_eq W5 B d_stl_4 (fun q => absurd q (by decide)) (fun _ => ?_)
  show G E x T1 (fr x 7 #[.val (.ref t), .val (.ref lo)] [])
  refine w_aloadN W5 B d_stl_7 rfl rfl ?_
  refine w_aloadN W5 B d_stl_8 rfl rfl ?_
  refine w_getF W5 B d_stl_9 (wd hw 24 rfl) Via.refl St.2.1 ?_
  intro T7 W8
  refine w_aloadN W8 B d_stl_12 rfl rfl ?_
  refine w_static W8 B (y := ⟨"java/lang/StringLatin1", "toLowerCase", "(Ljava/lang/String;[BLjava/util/Locale;)Ljava/lang/String;"⟩) d_stl_13 (wd hw 154 rfl) (wd hw 155 rfl) (wd hw 156 rfl) (wd hw 157 rfl) (by decide) pd__Ljava_lang_String__BLjava_util_Locale__Ljava_lang_String_330 (argsL := [(.ref t), (.ref tv), (.ref lo)]) rfl rfl rfl (Wt := 0) (Nat.le_of_eq rfl) (tl_met hw Lo Si Xi St hR hlen) (by decide) (by decide) (by decide) (by decide) ?_
  intro T9 h10 F11 v12 W13 Q14
  obtain ⟨q, qv, kq, rfl, rfl, K, Sq⟩ := Q14
  show G E x T9 (fr x 16 #[.val (.ref t), .val (.ref lo)] [(.ref q)])
  refine w_goto W13 B d_stl_16 ?_
  exact w_areturn W13 B d_stl_28 rfl rfl hQ (by decide) (by decide) (fun _ q => q) ⟨q, qv, kq, rfl, rfl, K, Sq⟩
set_option maxRecDepth 65536 in
set_option maxHeartbeats 4000000 in
theorem fort_met {E : Gl} (hw : Tb E) {h : Heap} {F : List Addr} {p pv s sv t tv : Addr} {kp ks kt : ClassId} {a b c : Int32} {lo bl la lv : Addr} {kl : ClassId} (Lo : LocV E lo bl la lv kl) (Sl : Sta E.Z E.Z.heap "java/util/Locale" "ROOT" "Ljava/util/Locale;" (.ref lo)) {ci : Addr} (Si : Sta E.Z E.Z.heap "java/lang/CharacterDataLatin1" "instance" "Ljava/lang/CharacterDataLatin1;" (.ref ci)) (Xi : Exa E.Z E.Z.heap ci "java/lang/CharacterDataLatin1") (Sp : StrL E h p pv kp (mkcs a)) (Ss : StrL E h s sv ks (mkcs b)) (St : StrL E h t tv kt (mkcs c)) :
    Met E (⟨"com/example/wakeline/index/IndexNames", "forTable", "(Ljava/lang/String;Ljava/lang/String;Ljava/lang/String;)Ljava/lang/String;"⟩ : MethodName) prog_25_method_2_code 3 (some (.object "java/lang/String")) ({ frames := 6, cells := 16, slots := 112, locals := 91 } : Room) #[.ref p, .ref s, .ref t] h F (fun r h' F' => ∃ (q qv : Addr) (kq : ClassId), r = some (.ref q) ∧ F = F' ∧ Keep h h' [] ∧ StrL E h' q qv kq (named a b c)) := by
  refine met_of (by decide +kernel) fun x T hQ B W => ?_
  refine G.cast (g' := fr x 0 #[.val (.ref p), .val (.ref s), .val (.ref t)] []) (by simp [entryFrame, mkF, argsToLocals, Own.cat_r, Own.cat_i, Own.cat_j, Own.cat_n]) ?_
  have ha := mkcs_le a
  have hb := mkcs_le b
  have hc := mkcs_le c
  refine w_new W B d_fort_0 (wd hw 30 rfl) (wd hw 31 rfl) (wd hw 32 rfl) (by decide) (by decide) ?_
  intro T1 h2 b3 W4 g5 X6 A7 D8
  have f9 : Fld E.Z h2 b3 "java/lang/AbstractStringBuilder" "value" "[B" .null := D8 (Or.inl (wd hw 45 rfl)) (ty := (.array .byte)) (by decide)
  have f10 : Fld E.Z h2 b3 "java/lang/AbstractStringBuilder" "coder" "B" (.int (0 : Int32)) := D8 (Or.inl (wd hw 47 rfl)) (ty := .byte) (by decide)
  have f11 : Fld E.Z h2 b3 "java/lang/AbstractStringBuilder" "count" "I" (.int (0 : Int32)) := D8 (Or.inl (wd hw 70 rfl)) (ty := .int) (by decide)
  show G E x T1 (fr x 3 #[.val (.ref p), .val (.ref s), .val (.ref t)] [(.ref b3)])
  refine w_dup W4 B d_fort_3 rfl ?_
  refine w_special W4 B (y := ⟨"java/lang/StringBuilder", "<init>", "()V"⟩) d_fort_4 rfl (wd hw 33 rfl) (wd hw 34 rfl) (wd hw 32 rfl) (wd hw 35 rfl) (by decide) pd___V167 (argsL := []) rfl rfl rfl (Wt := 1) (Nat.le_of_eq rfl) (sbi_met hw (List.Mem.head _) A7 f9 f10 f11) (by decide) (by decide) (by decide) (by decide) ?_
  intro T12 h13 F14 v15 W16 Q17
  obtain ⟨v0, k0, rfl, rfl, K0, g0, S0⟩ := Q17
  show G E x T12 (fr x 7 #[.val (.ref p), .val (.ref s), .val (.ref t)] [(.ref b3)])
  refine w_aloadN W16 B d_fort_7 rfl rfl ?_
  refine w_virtual W16 B (y := ⟨"java/lang/StringBuilder", "append", "(Ljava/lang/String;)Ljava/lang/StringBuilder;"⟩) (z := ⟨"java/lang/StringBuilder", "append", "(Ljava/lang/String;)Ljava/lang/StringBuilder;"⟩) d_fort_8 (wd hw 48 rfl) (wd hw 49 rfl) (nf_sel (wd hw 51 rfl)) (wd hw 51 rfl) (wd hw 50 rfl) (wd hw 32 rfl) (wd hw 52 rfl) (by decide) S0.1 pd__Ljava_lang_String__Ljava_lang_StringBuilder_196 (argsL := [(.ref p)]) rfl rfl rfl (Wt := 0) (Nat.le_of_eq rfl) (sap_met hw (cs := []) (ds := mkcs a) (List.Mem.tail _ (List.Mem.head _)) (List.Mem.head _) ⟨S0.1, S0.2.1, S0.2.2.1, S0.2.2.2.1, S0.2.2.2.2⟩ ⟨((Sp.1.ext X6).keep K0), ((Sp.2.1.ext X6).keep K0 (ninS (Own.ne_new Sp.1.lt g5) nin0)), ((Sp.2.2.1.ext X6).keep K0 (ninS (Own.ne_new Sp.1.lt g5) nin0)), ((Sp.2.2.2.ext X6).keep K0 (ninS (Own.ne_new Sp.2.2.2.lt g5) nin0))⟩ (by simp; omega)) (by decide) (by decide) (by decide) (by decide) ?_
  intro T18 h19 F20 v21 W22 Q23
  obtain ⟨rfl, rfl, K1, S1⟩ := Q23
  show G E x T18 (fr x 11 #[.val (.ref p), .val (.ref s), .val (.ref t)] [(.ref b3)])
  refine w_ldcS W22 B (n := 4) (text := ".") (vs := [(.int (46 : Int32))]) (z := 1) d_fort_11 hw.2.2.1 (by rw [hw.2.2.2]; decide) (wd hw 96 rfl) (strAtoms hw) ⟨by decide, by decide⟩ (by decide) (by decide) (by decide) (by decide) (by decide) (by decide) ?_
  intro T24 h25 c26 v27 k28 W29 X30 E31 f32 f33 A34 n35
  show G E x T24 (fr x 13 #[.val (.ref p), .val (.ref s), .val (.ref t)] [(.ref c26), (.ref b3)])
  refine w_virtual W29 B (y := ⟨"java/lang/StringBuilder", "append", "(Ljava/lang/String;)Ljava/lang/StringBuilder;"⟩) (z := ⟨"java/lang/StringBuilder", "append", "(Ljava/lang/String;)Ljava/lang/StringBuilder;"⟩) d_fort_13 (wd hw 48 rfl) (wd hw 49 rfl) (nf_sel (wd hw 51 rfl)) (wd hw 51 rfl) (wd hw 50 rfl) (wd hw 32 rfl) (wd hw 52 rfl) (by decide) (S1.1.ext X30) pd__Ljava_lang_String__Ljava_lang_StringBuilder_196 (argsL := [(.ref c26)]) rfl rfl rfl (Wt := 0) (Nat.le_of_eq rfl) (sap_met hw (cs := ([] ++ mkcs a)) (ds := [46]) (List.Mem.tail _ (List.Mem.head _)) (List.Mem.head _) ⟨(S1.1.ext X30), (S1.2.1.ext X30), (S1.2.2.1.ext X30), (S1.2.2.2.1.ext X30), (S1.2.2.2.2.ext X30)⟩ ⟨E31, f33, f32, A34⟩ (by simp; omega)) (by decide) (by decide) (by decide) (by decide) ?_
  intro T36 h37 F38 v39 W40 Q41
  obtain ⟨rfl, rfl, K2, S2⟩ := Q41
  show G E x T36 (fr x 16 #[.val (.ref p), .val (.ref s), .val (.ref t)] [(.ref b3)])
  refine w_aloadN W40 B d_fort_16 rfl rfl ?_
  refine w_virtual W40 B (y := ⟨"java/lang/StringBuilder", "append", "(Ljava/lang/String;)Ljava/lang/StringBuilder;"⟩) (z := ⟨"java/lang/StringBuilder", "append", "(Ljava/lang/String;)Ljava/lang/StringBuilder;"⟩) d_fort_17 (wd hw 48 rfl) (wd hw 49 rfl) (nf_sel (wd hw 51 rfl)) (wd hw 51 rfl) (wd hw 50 rfl) (wd hw 32 rfl) (wd hw 52 rfl) (by decide) S2.1 pd__Ljava_lang_String__Ljava_lang_StringBuilder_196 (argsL := [(.ref s)]) rfl rfl rfl (Wt := 0) (Nat.le_of_eq rfl) (sap_met hw (cs := (([] ++ mkcs a) ++ [46])) (ds := mkcs b) (List.Mem.tail _ (List.Mem.head _)) (List.Mem.head _) ⟨S2.1, S2.2.1, S2.2.2.1, S2.2.2.2.1, S2.2.2.2.2⟩ ⟨(((((Ss.1.ext X6).keep K0).keep K1).ext X30).keep K2), (((((Ss.2.1.ext X6).keep K0 (ninS (Own.ne_new Ss.1.lt g5) nin0)).keep K1 (ninS (Own.ne_new Ss.1.lt g5) (ninS (Own.ne_ge (Ss.1.ext X6).lt g0) nin0))).ext X30).keep K2 (ninS (Own.ne_new Ss.1.lt g5) (ninS (Own.ne_ge (Ss.1.ext X6).lt g0) nin0))), (((((Ss.2.2.1.ext X6).keep K0 (ninS (Own.ne_new Ss.1.lt g5) nin0)).keep K1 (ninS (Own.ne_new Ss.1.lt g5) (ninS (Own.ne_ge (Ss.1.ext X6).lt g0) nin0))).ext X30).keep K2 (ninS (Own.ne_new Ss.1.lt g5) (ninS (Own.ne_ge (Ss.1.ext X6).lt g0) nin0))), (((((Ss.2.2.2.ext X6).keep K0 (ninS (Own.ne_new Ss.2.2.2.lt g5) nin0)).keep K1 (ninS (Own.ne_new Ss.2.2.2.lt g5) (ninS (Own.ne_ge (Ss.2.2.2.ext X6).lt g0) nin0))).ext X30).keep K2 (ninS (Own.ne_new Ss.2.2.2.lt g5) (ninS (Own.ne_ge (Ss.2.2.2.ext X6).lt g0) nin0)))⟩ (by simp; omega)) (by decide) (by decide) (by decide) (by decide) ?_
  intro T42 h43 F44 v45 W46 Q47
  obtain ⟨rfl, rfl, K3, S3⟩ := Q47
  show G E x T42 (fr x 20 #[.val (.ref p), .val (.ref s), .val (.ref t)] [(.ref b3)])
  refine w_ldcS W46 B (n := 4) (text := ".") (vs := [(.int (46 : Int32))]) (z := 1) d_fort_20 hw.2.2.1 (by rw [hw.2.2.2]; decide) (wd hw 96 rfl) (strAtoms hw) ⟨by decide, by decide⟩ (by decide) (by decide) (by decide) (by decide) (by decide) (by decide) ?_
  intro T48 h49 c50 v51 k52 W53 X54 E55 f56 f57 A58 n59
  show G E x T48 (fr x 22 #[.val (.ref p), .val (.ref s), .val (.ref t)] [(.ref c50), (.ref b3)])
  refine w_virtual W53 B (y := ⟨"java/lang/StringBuilder", "append", "(Ljava/lang/String;)Ljava/lang/StringBuilder;"⟩) (z := ⟨"java/lang/StringBuilder", "append", "(Ljava/lang/String;)Ljava/lang/StringBuilder;"⟩) d_fort_22 (wd hw 48 rfl) (wd hw 49 rfl) (nf_sel (wd hw 51 rfl)) (wd hw 51 rfl) (wd hw 50 rfl) (wd hw 32 rfl) (wd hw 52 rfl) (by decide) (S3.1.ext X54) pd__Ljava_lang_String__Ljava_lang_StringBuilder_196 (argsL := [(.ref c50)]) rfl rfl rfl (Wt := 0) (Nat.le_of_eq rfl) (sap_met hw (cs := ((([] ++ mkcs a) ++ [46]) ++ mkcs b)) (ds := [46]) (List.Mem.tail _ (List.Mem.head _)) (List.Mem.head _) ⟨(S3.1.ext X54), (S3.2.1.ext X54), (S3.2.2.1.ext X54), (S3.2.2.2.1.ext X54), (S3.2.2.2.2.ext X54)⟩ ⟨E55, f57, f56, A58⟩ (by simp; omega)) (by decide) (by decide) (by decide) (by decide) ?_
  intro T60 h61 F62 v63 W64 Q65
  obtain ⟨rfl, rfl, K4, S4⟩ := Q65
  show G E x T60 (fr x 25 #[.val (.ref p), .val (.ref s), .val (.ref t)] [(.ref b3)])
  refine w_aloadN W64 B d_fort_25 rfl rfl ?_
  refine w_virtual W64 B (y := ⟨"java/lang/StringBuilder", "append", "(Ljava/lang/String;)Ljava/lang/StringBuilder;"⟩) (z := ⟨"java/lang/StringBuilder", "append", "(Ljava/lang/String;)Ljava/lang/StringBuilder;"⟩) d_fort_26 (wd hw 48 rfl) (wd hw 49 rfl) (nf_sel (wd hw 51 rfl)) (wd hw 51 rfl) (wd hw 50 rfl) (wd hw 32 rfl) (wd hw 52 rfl) (by decide) S4.1 pd__Ljava_lang_String__Ljava_lang_StringBuilder_196 (argsL := [(.ref t)]) rfl rfl rfl (Wt := 0) (Nat.le_of_eq rfl) (sap_met hw (cs := (((([] ++ mkcs a) ++ [46]) ++ mkcs b) ++ [46])) (ds := mkcs c) (List.Mem.tail _ (List.Mem.head _)) (List.Mem.head _) ⟨S4.1, S4.2.1, S4.2.2.1, S4.2.2.2.1, S4.2.2.2.2⟩ ⟨((((((((St.1.ext X6).keep K0).keep K1).ext X30).keep K2).keep K3).ext X54).keep K4), ((((((((St.2.1.ext X6).keep K0 (ninS (Own.ne_new St.1.lt g5) nin0)).keep K1 (ninS (Own.ne_new St.1.lt g5) (ninS (Own.ne_ge (St.1.ext X6).lt g0) nin0))).ext X30).keep K2 (ninS (Own.ne_new St.1.lt g5) (ninS (Own.ne_ge (St.1.ext X6).lt g0) nin0))).keep K3 (ninS (Own.ne_new St.1.lt g5) (ninS (Own.ne_ge (St.1.ext X6).lt g0) nin0))).ext X54).keep K4 (ninS (Own.ne_new St.1.lt g5) (ninS (Own.ne_ge (St.1.ext X6).lt g0) nin0))), ((((((((St.2.2.1.ext X6).keep K0 (ninS (Own.ne_new St.1.lt g5) nin0)).keep K1 (ninS (Own.ne_new St.1.lt g5) (ninS (Own.ne_ge (St.1.ext X6).lt g0) nin0))).ext X30).keep K2 (ninS (Own.ne_new St.1.lt g5) (ninS (Own.ne_ge (St.1.ext X6).lt g0) nin0))).keep K3 (ninS (Own.ne_new St.1.lt g5) (ninS (Own.ne_ge (St.1.ext X6).lt g0) nin0))).ext X54).keep K4 (ninS (Own.ne_new St.1.lt g5) (ninS (Own.ne_ge (St.1.ext X6).lt g0) nin0))), ((((((((St.2.2.2.ext X6).keep K0 (ninS (Own.ne_new St.2.2.2.lt g5) nin0)).keep K1 (ninS (Own.ne_new St.2.2.2.lt g5) (ninS (Own.ne_ge (St.2.2.2.ext X6).lt g0) nin0))).ext X30).keep K2 (ninS (Own.ne_new St.2.2.2.lt g5) (ninS (Own.ne_ge (St.2.2.2.ext X6).lt g0) nin0))).keep K3 (ninS (Own.ne_new St.2.2.2.lt g5) (ninS (Own.ne_ge (St.2.2.2.ext X6).lt g0) nin0))).ext X54).keep K4 (ninS (Own.ne_new St.2.2.2.lt g5) (ninS (Own.ne_ge (St.2.2.2.ext X6).lt g0) nin0)))⟩ (by simp; omega)) (by decide) (by decide) (by decide) (by decide) ?_
  intro T66 h67 F68 v69 W70 Q71
  obtain ⟨rfl, rfl, K5, S5⟩ := Q71
  show G E x T66 (fr x 29 #[.val (.ref p), .val (.ref s), .val (.ref t)] [(.ref b3)])
  refine w_virtual W70 B (y := ⟨"java/lang/StringBuilder", "toString", "()Ljava/lang/String;"⟩) (z := ⟨"java/lang/StringBuilder", "toString", "()Ljava/lang/String;"⟩) d_fort_29 (wd hw 97 rfl) (wd hw 98 rfl) (nf_sel (wd hw 100 rfl)) (wd hw 100 rfl) (wd hw 99 rfl) (wd hw 32 rfl) (wd hw 101 rfl) (by decide) S5.1 pd___Ljava_lang_String_780 (argsL := []) rfl rfl rfl (Wt := 0) (Nat.le_of_eq rfl) (tos_met hw (cs := joined a b c) ⟨S5.1, S5.2.1, S5.2.2.1, S5.2.2.2.1, S5.2.2.2.2⟩ (by rw [joined_len]; omega)) (by decide) (by decide) (by decide) (by decide) ?_
  intro T72 h73 F74 v75 W76 Q77
  obtain ⟨u, uv, ku, rfl, rfl, KT, gu, guv, SU⟩ := Q77
  show G E x T72 (fr x 32 #[.val (.ref p), .val (.ref s), .val (.ref t)] [(.ref u)])
  refine w_getS W76 B d_fort_32 (wd hw 142 rfl) Via.refl Sl ?_
  intro T78 W79
  refine w_virtual W79 B (y := ⟨"java/lang/String", "toLowerCase", "(Ljava/util/Locale;)Ljava/lang/String;"⟩) (z := ⟨"java/lang/String", "toLowerCase", "(Ljava/util/Locale;)Ljava/lang/String;"⟩) d_fort_35 (wd hw 144 rfl) (wd hw 145 rfl) (nf_sel (wd hw 147 rfl)) (wd hw 147 rfl) (wd hw 146 rfl) (wd hw 6 rfl) (wd hw 148 rfl) (by decide) SU.1 pd__Ljava_util_Locale__Ljava_lang_String_471 (argsL := [(.ref lo)]) rfl rfl rfl (Wt := 0) (Nat.le_of_eq rfl) (stl_met hw Lo Si Xi SU (joined_rng a b c) (by rw [joined_len]; omega)) (by decide) (by decide) (by decide) (by decide) ?_
  intro T80 h81 F82 v83 W84 Q85
  obtain ⟨q, qv, kq, rfl, rfl, KL, Sq⟩ := Q85
  show G E x T80 (fr x 38 #[.val (.ref p), .val (.ref s), .val (.ref t)] [(.ref q)])
  have KK86 : Keep h h2 [] := (Keep.refl h []).ext X6
  have KK87 : Keep h h13 [] := KK86.trans K0 (allS (Or.inr (Nat.le_trans (Keep.refl h []).1 (Nat.le_of_eq g5.symm))) all0)
  have KK88 : Keep h h19 [] := KK87.trans K1 (allS (Or.inr (Nat.le_trans (Keep.refl h []).1 (Nat.le_of_eq g5.symm))) (allS (Or.inr (Nat.le_trans KK86.1 g0)) all0))
  have KK89 : Keep h h25 [] := KK88.ext X30
  have KK90 : Keep h h37 [] := KK89.trans K2 (allS (Or.inr (Nat.le_trans (Keep.refl h []).1 (Nat.le_of_eq g5.symm))) (allS (Or.inr (Nat.le_trans KK86.1 g0)) all0))
  have KK91 : Keep h h43 [] := KK90.trans K3 (allS (Or.inr (Nat.le_trans (Keep.refl h []).1 (Nat.le_of_eq g5.symm))) (allS (Or.inr (Nat.le_trans KK86.1 g0)) all0))
  have KK92 : Keep h h49 [] := KK91.ext X54
  have KK93 : Keep h h61 [] := KK92.trans K4 (allS (Or.inr (Nat.le_trans (Keep.refl h []).1 (Nat.le_of_eq g5.symm))) (allS (Or.inr (Nat.le_trans KK86.1 g0)) all0))
  have KK94 : Keep h h67 [] := KK93.trans K5 (allS (Or.inr (Nat.le_trans (Keep.refl h []).1 (Nat.le_of_eq g5.symm))) (allS (Or.inr (Nat.le_trans KK86.1 g0)) all0))
  have KK95 : Keep h h73 [] := KK94.trans KT all0
  have KK96 : Keep h h81 [] := KK95.trans KL all0
  exact w_areturn W84 B d_fort_38 rfl rfl hQ (by decide) (by decide) (fun _ q => (List.Mem.tail _ (List.Mem.tail _ q))) ⟨q, qv, kq, rfl, rfl, KK96, Sq⟩
set_option maxRecDepth 65536 in
set_option maxHeartbeats 4000000 in
theorem ch_met {E : Gl} (hw : Tb E) {h : Heap} {F : List Addr} {y i : Int32} :
    Met E (⟨"com/example/wakeline/index/IndexNamesForTablePinLaw", "ch", "(II)C"⟩ : MethodName) method_3_code 2 (some .char) ({ frames := 0, cells := 0, slots := 0, locals := 0 } : Room) #[.int y, .int i] h F (fun r h' F' => r = some (.int (chv y i)) ∧ h = h' ∧ F = F') := by
  refine met_of (by decide +kernel) fun x T hQ B W => ?_
  refine G.cast (g' := fr x 0 #[.val (.int y), .val (.int i)] []) (by simp [entryFrame, mkF, argsToLocals, Own.cat_r, Own.cat_i, Own.cat_j, Own.cat_n]) ?_
  refine w_iloadN W B d_ch_0 rfl ?_
  refine w_bipush W B d_ch_1 (v := (8 : Int32)) rfl ?_
  refine w_iloadN W B d_ch_3 rfl ?_
  refine w_imul W B d_ch_4 ?_
  refine w_iushr W B d_ch_5 ?_
  refine w_sipush W B d_ch_6 (v := (255 : Int32)) rfl ?_
  refine w_iand W B d_ch_9 ?_
  refine w_i2c W B d_ch_10 ?_
  exact w_ireturnN W B d_ch_11 (Or.inr (Or.inr (Or.inl rfl))) (u := chv y i) (nar_i2c _) hQ (by decide) (by decide) (fun _ q => q) ⟨rfl, rfl, rfl⟩
set_option maxRecDepth 65536 in
set_option maxHeartbeats 4000000 in
theorem low_met {E : Gl} (hw : Tb E) {h : Heap} {F : List Addr} {c : Int32} (hc : 0 ≤ c.toInt ∧ c.toInt ≤ 255) :
    Met E (⟨"com/example/wakeline/index/IndexNamesForTablePinLaw", "low", "(C)C"⟩ : MethodName) method_5_code 1 (some .char) ({ frames := 0, cells := 0, slots := 0, locals := 0 } : Room) #[.int c] h F (fun r h' F' => r = some (.int (lowc c)) ∧ h = h' ∧ F = F') := by
  refine met_of (by decide +kernel) fun x T hQ B W => ?_
  refine G.cast (g' := fr x 0 #[.val (.int c)] []) (by simp [entryFrame, mkF, argsToLocals, Own.cat_r, Own.cat_i, Own.cat_j, Own.cat_n]) ?_
  refine w_iloadN W B d_low_0 rfl ?_
  refine w_bipush W B d_low_1 (v := (65 : Int32)) rfl ?_
  refine w_icmp_lt W B d_low_3 ?_ ?_
  · intro hc3
    show G E x T (fr x 18 #[.val (.int c)] [])
    refine w_iloadN W B d_low_18 rfl ?_
    refine w_sipush W B d_low_19 (v := (192 : Int32)) rfl ?_
    refine w_icmp_lt W B d_low_22 ?_ ?_
    · intro hc22
      show G E x T (fr x 45 #[.val (.int c)] [])
      refine w_iloadN W B d_low_45 rfl ?_
      exact w_ireturnN W B d_low_46 (Or.inr (Or.inr (Or.inl rfl))) (u := lowc c) (by rw [← low_ok hc.1 hc.2]; unfold lowl i2c; simp [*]) hQ (by decide) (by decide) (fun _ q => q) ⟨rfl, rfl, rfl⟩
    · intro hc22
      show G E x T (fr x 25 #[.val (.int c)] [])
      refine w_iloadN W B d_low_25 rfl ?_
      refine w_sipush W B d_low_26 (v := (222 : Int32)) rfl ?_
      refine w_icmp_gt W B d_low_29 ?_ ?_
      · intro hc29
        show G E x T (fr x 45 #[.val (.int c)] [])
        refine w_iloadN W B d_low_45 rfl ?_
        exact w_ireturnN W B d_low_46 (Or.inr (Or.inr (Or.inl rfl))) (u := lowc c) (by rw [← low_ok hc.1 hc.2]; unfold lowl i2c; simp [*]) hQ (by decide) (by decide) (fun _ q => q) ⟨rfl, rfl, rfl⟩
      · intro hc29
        show G E x T (fr x 32 #[.val (.int c)] [])
        refine w_iloadN W B d_low_32 rfl ?_
        refine w_sipush W B d_low_33 (v := (215 : Int32)) rfl ?_
        refine w_icmp_eq W B d_low_36 ?_ ?_
        · intro hc36
          show G E x T (fr x 45 #[.val (.int c)] [])
          refine w_iloadN W B d_low_45 rfl ?_
          exact w_ireturnN W B d_low_46 (Or.inr (Or.inr (Or.inl rfl))) (u := lowc c) (by rw [← low_ok hc.1 hc.2]; unfold lowl i2c; simp [*]) hQ (by decide) (by decide) (fun _ q => q) ⟨rfl, rfl, rfl⟩
        · intro hc36
          show G E x T (fr x 39 #[.val (.int c)] [])
          refine w_iloadN W B d_low_39 rfl ?_
          refine w_bipush W B d_low_40 (v := (32 : Int32)) rfl ?_
          refine w_iadd W B d_low_42 ?_
          refine w_i2c W B d_low_43 ?_
          exact w_ireturnN W B d_low_44 (Or.inr (Or.inr (Or.inl rfl))) (u := lowc c) (by rw [← low_ok hc.1 hc.2]; unfold lowl i2c; simp [*]) hQ (by decide) (by decide) (fun _ q => q) ⟨rfl, rfl, rfl⟩
  · intro hc3
    show G E x T (fr x 6 #[.val (.int c)] [])
    refine w_iloadN W B d_low_6 rfl ?_
    refine w_bipush W B d_low_7 (v := (90 : Int32)) rfl ?_
    refine w_icmp_gt W B d_low_9 ?_ ?_
    · intro hc9
      show G E x T (fr x 18 #[.val (.int c)] [])
      refine w_iloadN W B d_low_18 rfl ?_
      refine w_sipush W B d_low_19 (v := (192 : Int32)) rfl ?_
      refine w_icmp_lt W B d_low_22 ?_ ?_
      · intro hc22
        show G E x T (fr x 45 #[.val (.int c)] [])
        refine w_iloadN W B d_low_45 rfl ?_
        exact w_ireturnN W B d_low_46 (Or.inr (Or.inr (Or.inl rfl))) (u := lowc c) (by rw [← low_ok hc.1 hc.2]; unfold lowl i2c; simp [*]) hQ (by decide) (by decide) (fun _ q => q) ⟨rfl, rfl, rfl⟩
      · intro hc22
        show G E x T (fr x 25 #[.val (.int c)] [])
        refine w_iloadN W B d_low_25 rfl ?_
        refine w_sipush W B d_low_26 (v := (222 : Int32)) rfl ?_
        refine w_icmp_gt W B d_low_29 ?_ ?_
        · intro hc29
          show G E x T (fr x 45 #[.val (.int c)] [])
          refine w_iloadN W B d_low_45 rfl ?_
          exact w_ireturnN W B d_low_46 (Or.inr (Or.inr (Or.inl rfl))) (u := lowc c) (by rw [← low_ok hc.1 hc.2]; unfold lowl i2c; simp [*]) hQ (by decide) (by decide) (fun _ q => q) ⟨rfl, rfl, rfl⟩
        · intro hc29
          show G E x T (fr x 32 #[.val (.int c)] [])
          refine w_iloadN W B d_low_32 rfl ?_
          refine w_sipush W B d_low_33 (v := (215 : Int32)) rfl ?_
          refine w_icmp_eq W B d_low_36 ?_ ?_
          · intro hc36
            show G E x T (fr x 45 #[.val (.int c)] [])
            refine w_iloadN W B d_low_45 rfl ?_
            exact w_ireturnN W B d_low_46 (Or.inr (Or.inr (Or.inl rfl))) (u := lowc c) (by rw [← low_ok hc.1 hc.2]; unfold lowl i2c; simp [*]) hQ (by decide) (by decide) (fun _ q => q) ⟨rfl, rfl, rfl⟩
          · intro hc36
            show G E x T (fr x 39 #[.val (.int c)] [])
            refine w_iloadN W B d_low_39 rfl ?_
            refine w_bipush W B d_low_40 (v := (32 : Int32)) rfl ?_
            refine w_iadd W B d_low_42 ?_
            refine w_i2c W B d_low_43 ?_
            exact w_ireturnN W B d_low_44 (Or.inr (Or.inr (Or.inl rfl))) (u := lowc c) (by rw [← low_ok hc.1 hc.2]; unfold lowl i2c; simp [*]) hQ (by decide) (by decide) (fun _ q => q) ⟨rfl, rfl, rfl⟩
    · intro hc9
      show G E x T (fr x 12 #[.val (.int c)] [])
      refine w_iloadN W B d_low_12 rfl ?_
      refine w_bipush W B d_low_13 (v := (32 : Int32)) rfl ?_
      refine w_iadd W B d_low_15 ?_
      refine w_i2c W B d_low_16 ?_
      exact w_ireturnN W B d_low_17 (Or.inr (Or.inr (Or.inl rfl))) (u := lowc c) (by rw [← low_ok hc.1 hc.2]; unfold lowl i2c; simp [*]) hQ (by decide) (by decide) (fun _ q => q) ⟨rfl, rfl, rfl⟩
set_option maxRecDepth 65536 in
set_option maxHeartbeats 4000000 in
theorem mk_met {E : Gl} (hw : Tb E) {h : Heap} {F : List Addr} {y : Int32} :
    Met E (⟨"com/example/wakeline/index/IndexNamesForTablePinLaw", "mk", "(I)Ljava/lang/String;"⟩ : MethodName) method_4_code 2 (some (.object "java/lang/String")) ({ frames := 4, cells := 6, slots := 39, locals := 66 } : Room) #[.int y] h F (fun r h' F' => ∃ (s v : Addr) (k : ClassId), r = some (.ref s) ∧ F = F' ∧ Keep h h' [] ∧ StrL E h' s v k (mkcs y)) := by
  refine met_of (by decide +kernel) fun x T hQ B W => ?_
  refine G.cast (g' := fr x 0 #[.val (.int y), .unset] []) (by simp [entryFrame, mkF, argsToLocals, Own.cat_r, Own.cat_i, Own.cat_j, Own.cat_n]) ?_
  refine w_iloadN W B d_mk_0 rfl ?_
  refine w_bipush W B d_mk_1 (v := (24 : Int32)) rfl ?_
  refine w_iushr W B d_mk_3 ?_
  refine w_iconst W B d_mk_4 (v := (3 : Int32)) rfl ?_
  refine w_iand W B d_mk_5 ?_
  show G E x T (fr x 6 #[.val (.int y), .unset] [(.int (lnv y))])
  refine w_istoreN W B d_mk_6 (Ls' := #[.val (.int y), .val (.int (lnv y))]) rfl ?_
  refine w_iloadN W B d_mk_7 rfl ?_
  refine w_if_ne W B d_mk_8 ?_ ?_
  · intro hc8
    show G E x T (fr x 22 #[.val (.int y), .val (.int (lnv y))] [])
    refine w_iloadN W B d_mk_22 rfl ?_
    refine w_iconst W B d_mk_23 (v := (1 : Int32)) rfl ?_
    refine w_icmp_ne W B d_mk_24 ?_ ?_
    · intro hc24
      show G E x T (fr x 46 #[.val (.int y), .val (.int (lnv y))] [])
      refine w_iloadN W B d_mk_46 rfl ?_
      refine w_iconst W B d_mk_47 (v := (2 : Int32)) rfl ?_
      refine w_icmp_ne W B d_mk_48 ?_ ?_
      · intro hc48
        show G E x T (fr x 78 #[.val (.int y), .val (.int (lnv y))] [])
        refine w_new W B d_mk_78 (wd hw 4 rfl) (wd hw 5 rfl) (wd hw 6 rfl) (by decide) (by decide) ?_
        intro T1 h2 b3 W4 g5 X6 A7 D8
        have f9 : Fld E.Z h2 b3 "java/lang/String" "value" "[B" .null := D8 (Or.inr (wd hw 20 rfl)) (ty := (.array .byte)) (by decide)
        have f10 : Fld E.Z h2 b3 "java/lang/String" "coder" "B" (.int (0 : Int32)) := D8 (Or.inr (wd hw 21 rfl)) (ty := .byte) (by decide)
        show G E x T1 (fr x 81 #[.val (.int y), .val (.int (lnv y))] [(.ref b3)])
        refine w_dup W4 B d_mk_81 rfl ?_
        refine w_iconst W4 B d_mk_82 (v := (3 : Int32)) rfl ?_
        refine w_newarray W4 B d_mk_83 rfl (wd hw 7 rfl) (by decide) (cap := 3) (by decide) (by decide) (by decide) (by decide) ?_
        intro T11 h12 b13 k14 W15 g16 X17 A18
        have A19 : Arv E.Z h12 b13 k14 .char (3 : Int32) [(.int (0 : Int32)), (.int (0 : Int32)), (.int (0 : Int32))] (.int (0 : Int32)) := A18.pad (pad_rep [] (.int (0 : Int32)) 3)
        show G E x T11 (fr x 85 #[.val (.int y), .val (.int (lnv y))] [(.ref b13), (.ref b3), (.ref b3)])
        refine w_dup W15 B d_mk_85 rfl ?_
        refine w_iconst W15 B d_mk_86 (v := (0 : Int32)) rfl ?_
        refine w_iloadN W15 B d_mk_87 rfl ?_
        refine w_iconst W15 B d_mk_88 (v := (0 : Int32)) rfl ?_
        refine w_static W15 B (y := ⟨"com/example/wakeline/index/IndexNamesForTablePinLaw", "ch", "(II)C"⟩) d_mk_89 (wd hw 185 rfl) (wd hw 186 rfl) (wd hw 2 rfl) (wd hw 187 rfl) (by decide) pd__II_C294 (argsL := [(.int y), (.int (0 : Int32))]) rfl rfl rfl (Wt := 5) (Nat.le_of_eq rfl) (ch_met hw) (by decide) (by decide) (by decide) (by decide) ?_
        intro T20 h21 F22 v23 W24 Q25
        obtain ⟨rfl, rfl, rfl⟩ := Q25
        show G E x T20 (fr x 92 #[.val (.int y), .val (.int (lnv y))] [(.int (chv y (0 : Int32))), (.int (0 : Int32)), (.ref b13), (.ref b13), (.ref b3), (.ref b3)])
        refine w_castore W24 B d_mk_92 (List.Mem.head _) A19 (by decide) (i := 0) rfl (by first | decide | simp) (u := (chv y (0 : Int32))) (nar_char (chv_rng _ _).1 (Int.le_trans (chv_rng _ _).2 (by decide))) ?_
        intro T26 h27 W28 K29 A30
        have A31 : Arv E.Z h27 b13 k14 .char (3 : Int32) [(.int (chv y (0 : Int32))), (.int (0 : Int32)), (.int (0 : Int32))] (.int (0 : Int32)) := A30
        refine w_dup W28 B d_mk_93 rfl ?_
        refine w_iconst W28 B d_mk_94 (v := (1 : Int32)) rfl ?_
        refine w_iloadN W28 B d_mk_95 rfl ?_
        refine w_iconst W28 B d_mk_96 (v := (1 : Int32)) rfl ?_
        refine w_static W28 B (y := ⟨"com/example/wakeline/index/IndexNamesForTablePinLaw", "ch", "(II)C"⟩) d_mk_97 (wd hw 185 rfl) (wd hw 186 rfl) (wd hw 2 rfl) (wd hw 187 rfl) (by decide) pd__II_C294 (argsL := [(.int y), (.int (1 : Int32))]) rfl rfl rfl (Wt := 5) (Nat.le_of_eq rfl) (ch_met hw) (by decide) (by decide) (by decide) (by decide) ?_
        intro T32 h33 F34 v35 W36 Q37
        obtain ⟨rfl, rfl, rfl⟩ := Q37
        show G E x T32 (fr x 100 #[.val (.int y), .val (.int (lnv y))] [(.int (chv y (1 : Int32))), (.int (1 : Int32)), (.ref b13), (.ref b13), (.ref b3), (.ref b3)])
        refine w_castore W36 B d_mk_100 (List.Mem.head _) A31 (by decide) (i := 1) rfl (by first | decide | simp) (u := (chv y (1 : Int32))) (nar_char (chv_rng _ _).1 (Int.le_trans (chv_rng _ _).2 (by decide))) ?_
        intro T38 h39 W40 K41 A42
        have A43 : Arv E.Z h39 b13 k14 .char (3 : Int32) [(.int (chv y (0 : Int32))), (.int (chv y (1 : Int32))), (.int (0 : Int32))] (.int (0 : Int32)) := A42
        refine w_dup W40 B d_mk_101 rfl ?_
        refine w_iconst W40 B d_mk_102 (v := (2 : Int32)) rfl ?_
        refine w_iloadN W40 B d_mk_103 rfl ?_
        refine w_iconst W40 B d_mk_104 (v := (2 : Int32)) rfl ?_
        refine w_static W40 B (y := ⟨"com/example/wakeline/index/IndexNamesForTablePinLaw", "ch", "(II)C"⟩) d_mk_105 (wd hw 185 rfl) (wd hw 186 rfl) (wd hw 2 rfl) (wd hw 187 rfl) (by decide) pd__II_C294 (argsL := [(.int y), (.int (2 : Int32))]) rfl rfl rfl (Wt := 5) (Nat.le_of_eq rfl) (ch_met hw) (by decide) (by decide) (by decide) (by decide) ?_
        intro T44 h45 F46 v47 W48 Q49
        obtain ⟨rfl, rfl, rfl⟩ := Q49
        show G E x T44 (fr x 108 #[.val (.int y), .val (.int (lnv y))] [(.int (chv y (2 : Int32))), (.int (2 : Int32)), (.ref b13), (.ref b13), (.ref b3), (.ref b3)])
        refine w_castore W48 B d_mk_108 (List.Mem.head _) A43 (by decide) (i := 2) rfl (by first | decide | simp) (u := (chv y (2 : Int32))) (nar_char (chv_rng _ _).1 (Int.le_trans (chv_rng _ _).2 (by decide))) ?_
        intro T50 h51 W52 K53 A54
        have A55 : Arv E.Z h51 b13 k14 .char (3 : Int32) [(.int (chv y (0 : Int32))), (.int (chv y (1 : Int32))), (.int (chv y (2 : Int32)))] (.int (0 : Int32)) := A54
        have em : mkcs y = [chv y 0, chv y 1, chv y 2] := by rw [mkcs, show lnv y = 3 from by rcases lnv_cases y with q | q | q | q; exact absurd q hc8; exact absurd q hc24; exact absurd q hc48; exact q]; rfl
        refine w_special W52 B (y := ⟨"java/lang/String", "<init>", "([C)V"⟩) d_mk_109 rfl (wd hw 8 rfl) (wd hw 9 rfl) (wd hw 6 rfl) (wd hw 10 rfl) (by decide) pd___C_V325 (argsL := [(.ref b13)]) rfl rfl rfl (Wt := 1) (Nat.le_of_eq rfl) (ini1_met hw (cs := mkcs y) (n := (mkcs y).length) rfl (by rw [em]; simp) (Nat.le_trans (mkcs_le y) (by decide)) (rng_ch (mkcs_rng y)) (rng_lat (mkcs_rng y)) (List.Mem.tail _ (List.Mem.head _)) ((((A7.ext X17).keep K29).keep K41).keep K53) ((((f9.ext X17).keep K29 (ninS (Own.ne_new A7.lt g16) nin0)).keep K41 (ninS (Own.ne_new A7.lt g16) nin0)).keep K53 (ninS (Own.ne_new A7.lt g16) nin0)) ((((f10.ext X17).keep K29 (ninS (Own.ne_new A7.lt g16) nin0)).keep K41 (ninS (Own.ne_new A7.lt g16) nin0)).keep K53 (ninS (Own.ne_new A7.lt g16) nin0)) (by rw [em]; exact A55)) (by decide) (by decide) (by decide) (by decide) ?_
        intro T56 h57 F58 v59 W60 Q61
        obtain ⟨rfl, rfl, K1, v, S1, hv⟩ := Q61
        show G E x T56 (fr x 112 #[.val (.int y), .val (.int (lnv y))] [(.ref b3)])
        obtain ⟨k1, L1⟩ := S1.latin (rng_lat (mkcs_rng y))
        have KK62 : Keep h h2 [] := (Keep.refl h []).ext X6
        have KK63 : Keep h h12 [] := KK62.ext X17
        have KK64 : Keep h h27 [] := KK63.trans K29 (allS (Or.inr (Nat.le_trans KK62.1 (Nat.le_of_eq g16.symm))) all0)
        have KK65 : Keep h h39 [] := KK64.trans K41 (allS (Or.inr (Nat.le_trans KK62.1 (Nat.le_of_eq g16.symm))) all0)
        have KK66 : Keep h h51 [] := KK65.trans K53 (allS (Or.inr (Nat.le_trans KK62.1 (Nat.le_of_eq g16.symm))) all0)
        have KK67 : Keep h h57 [] := KK66.trans K1 (allS (Or.inr (Nat.le_trans (Keep.refl h []).1 (Nat.le_of_eq g5.symm))) all0)
        exact w_areturn W60 B d_mk_112 rfl rfl hQ (by decide) (by decide) (fun _ q => (List.Mem.tail _ (List.Mem.tail _ q))) ⟨b3, v, k1, rfl, rfl, KK67, L1⟩
      · intro hc48
        show G E x T (fr x 51 #[.val (.int y), .val (.int (lnv y))] [])
        refine w_new W B d_mk_51 (wd hw 4 rfl) (wd hw 5 rfl) (wd hw 6 rfl) (by decide) (by decide) ?_
        intro T68 h69 b70 W71 g72 X73 A74 D75
        have f76 : Fld E.Z h69 b70 "java/lang/String" "value" "[B" .null := D75 (Or.inr (wd hw 20 rfl)) (ty := (.array .byte)) (by decide)
        have f77 : Fld E.Z h69 b70 "java/lang/String" "coder" "B" (.int (0 : Int32)) := D75 (Or.inr (wd hw 21 rfl)) (ty := .byte) (by decide)
        show G E x T68 (fr x 54 #[.val (.int y), .val (.int (lnv y))] [(.ref b70)])
        refine w_dup W71 B d_mk_54 rfl ?_
        refine w_iconst W71 B d_mk_55 (v := (2 : Int32)) rfl ?_
        refine w_newarray W71 B d_mk_56 rfl (wd hw 7 rfl) (by decide) (cap := 2) (by decide) (by decide) (by decide) (by decide) ?_
        intro T78 h79 b80 k81 W82 g83 X84 A85
        have A86 : Arv E.Z h79 b80 k81 .char (2 : Int32) [(.int (0 : Int32)), (.int (0 : Int32))] (.int (0 : Int32)) := A85.pad (pad_rep [] (.int (0 : Int32)) 2)
        show G E x T78 (fr x 58 #[.val (.int y), .val (.int (lnv y))] [(.ref b80), (.ref b70), (.ref b70)])
        refine w_dup W82 B d_mk_58 rfl ?_
        refine w_iconst W82 B d_mk_59 (v := (0 : Int32)) rfl ?_
        refine w_iloadN W82 B d_mk_60 rfl ?_
        refine w_iconst W82 B d_mk_61 (v := (0 : Int32)) rfl ?_
        refine w_static W82 B (y := ⟨"com/example/wakeline/index/IndexNamesForTablePinLaw", "ch", "(II)C"⟩) d_mk_62 (wd hw 185 rfl) (wd hw 186 rfl) (wd hw 2 rfl) (wd hw 187 rfl) (by decide) pd__II_C294 (argsL := [(.int y), (.int (0 : Int32))]) rfl rfl rfl (Wt := 5) (Nat.le_of_eq rfl) (ch_met hw) (by decide) (by decide) (by decide) (by decide) ?_
        intro T87 h88 F89 v90 W91 Q92
        obtain ⟨rfl, rfl, rfl⟩ := Q92
        show G E x T87 (fr x 65 #[.val (.int y), .val (.int (lnv y))] [(.int (chv y (0 : Int32))), (.int (0 : Int32)), (.ref b80), (.ref b80), (.ref b70), (.ref b70)])
        refine w_castore W91 B d_mk_65 (List.Mem.head _) A86 (by decide) (i := 0) rfl (by first | decide | simp) (u := (chv y (0 : Int32))) (nar_char (chv_rng _ _).1 (Int.le_trans (chv_rng _ _).2 (by decide))) ?_
        intro T93 h94 W95 K96 A97
        have A98 : Arv E.Z h94 b80 k81 .char (2 : Int32) [(.int (chv y (0 : Int32))), (.int (0 : Int32))] (.int (0 : Int32)) := A97
        refine w_dup W95 B d_mk_66 rfl ?_
        refine w_iconst W95 B d_mk_67 (v := (1 : Int32)) rfl ?_
        refine w_iloadN W95 B d_mk_68 rfl ?_
        refine w_iconst W95 B d_mk_69 (v := (1 : Int32)) rfl ?_
        refine w_static W95 B (y := ⟨"com/example/wakeline/index/IndexNamesForTablePinLaw", "ch", "(II)C"⟩) d_mk_70 (wd hw 185 rfl) (wd hw 186 rfl) (wd hw 2 rfl) (wd hw 187 rfl) (by decide) pd__II_C294 (argsL := [(.int y), (.int (1 : Int32))]) rfl rfl rfl (Wt := 5) (Nat.le_of_eq rfl) (ch_met hw) (by decide) (by decide) (by decide) (by decide) ?_
        intro T99 h100 F101 v102 W103 Q104
        obtain ⟨rfl, rfl, rfl⟩ := Q104
        show G E x T99 (fr x 73 #[.val (.int y), .val (.int (lnv y))] [(.int (chv y (1 : Int32))), (.int (1 : Int32)), (.ref b80), (.ref b80), (.ref b70), (.ref b70)])
        refine w_castore W103 B d_mk_73 (List.Mem.head _) A98 (by decide) (i := 1) rfl (by first | decide | simp) (u := (chv y (1 : Int32))) (nar_char (chv_rng _ _).1 (Int.le_trans (chv_rng _ _).2 (by decide))) ?_
        intro T105 h106 W107 K108 A109
        have A110 : Arv E.Z h106 b80 k81 .char (2 : Int32) [(.int (chv y (0 : Int32))), (.int (chv y (1 : Int32)))] (.int (0 : Int32)) := A109
        have em : mkcs y = [chv y 0, chv y 1] := by rw [mkcs, show lnv y = 2 from hc48]; rfl
        refine w_special W107 B (y := ⟨"java/lang/String", "<init>", "([C)V"⟩) d_mk_74 rfl (wd hw 8 rfl) (wd hw 9 rfl) (wd hw 6 rfl) (wd hw 10 rfl) (by decide) pd___C_V325 (argsL := [(.ref b80)]) rfl rfl rfl (Wt := 1) (Nat.le_of_eq rfl) (ini1_met hw (cs := mkcs y) (n := (mkcs y).length) rfl (by rw [em]; simp) (Nat.le_trans (mkcs_le y) (by decide)) (rng_ch (mkcs_rng y)) (rng_lat (mkcs_rng y)) (List.Mem.tail _ (List.Mem.head _)) (((A74.ext X84).keep K96).keep K108) (((f76.ext X84).keep K96 (ninS (Own.ne_new A74.lt g83) nin0)).keep K108 (ninS (Own.ne_new A74.lt g83) nin0)) (((f77.ext X84).keep K96 (ninS (Own.ne_new A74.lt g83) nin0)).keep K108 (ninS (Own.ne_new A74.lt g83) nin0)) (by rw [em]; exact A110)) (by decide) (by decide) (by decide) (by decide) ?_
        intro T111 h112 F113 v114 W115 Q116
        obtain ⟨rfl, rfl, K1, v, S1, hv⟩ := Q116
        show G E x T111 (fr x 77 #[.val (.int y), .val (.int (lnv y))] [(.ref b70)])
        obtain ⟨k1, L1⟩ := S1.latin (rng_lat (mkcs_rng y))
        have KK117 : Keep h h69 [] := (Keep.refl h []).ext X73
        have KK118 : Keep h h79 [] := KK117.ext X84
        have KK119 : Keep h h94 [] := KK118.trans K96 (allS (Or.inr (Nat.le_trans KK117.1 (Nat.le_of_eq g83.symm))) all0)
        have KK120 : Keep h h106 [] := KK119.trans K108 (allS (Or.inr (Nat.le_trans KK117.1 (Nat.le_of_eq g83.symm))) all0)
        have KK121 : Keep h h112 [] := KK120.trans K1 (allS (Or.inr (Nat.le_trans (Keep.refl h []).1 (Nat.le_of_eq g72.symm))) all0)
        exact w_areturn W115 B d_mk_77 rfl rfl hQ (by decide) (by decide) (fun _ q => (List.Mem.tail _ (List.Mem.tail _ q))) ⟨b70, v, k1, rfl, rfl, KK121, L1⟩
    · intro hc24
      show G E x T (fr x 27 #[.val (.int y), .val (.int (lnv y))] [])
      refine w_new W B d_mk_27 (wd hw 4 rfl) (wd hw 5 rfl) (wd hw 6 rfl) (by decide) (by decide) ?_
      intro T122 h123 b124 W125 g126 X127 A128 D129
      have f130 : Fld E.Z h123 b124 "java/lang/String" "value" "[B" .null := D129 (Or.inr (wd hw 20 rfl)) (ty := (.array .byte)) (by decide)
      have f131 : Fld E.Z h123 b124 "java/lang/String" "coder" "B" (.int (0 : Int32)) := D129 (Or.inr (wd hw 21 rfl)) (ty := .byte) (by decide)
      show G E x T122 (fr x 30 #[.val (.int y), .val (.int (lnv y))] [(.ref b124)])
      refine w_dup W125 B d_mk_30 rfl ?_
      refine w_iconst W125 B d_mk_31 (v := (1 : Int32)) rfl ?_
      refine w_newarray W125 B d_mk_32 rfl (wd hw 7 rfl) (by decide) (cap := 1) (by decide) (by decide) (by decide) (by decide) ?_
      intro T132 h133 b134 k135 W136 g137 X138 A139
      have A140 : Arv E.Z h133 b134 k135 .char (1 : Int32) [(.int (0 : Int32))] (.int (0 : Int32)) := A139.pad (pad_rep [] (.int (0 : Int32)) 1)
      show G E x T132 (fr x 34 #[.val (.int y), .val (.int (lnv y))] [(.ref b134), (.ref b124), (.ref b124)])
      refine w_dup W136 B d_mk_34 rfl ?_
      refine w_iconst W136 B d_mk_35 (v := (0 : Int32)) rfl ?_
      refine w_iloadN W136 B d_mk_36 rfl ?_
      refine w_iconst W136 B d_mk_37 (v := (0 : Int32)) rfl ?_
      refine w_static W136 B (y := ⟨"com/example/wakeline/index/IndexNamesForTablePinLaw", "ch", "(II)C"⟩) d_mk_38 (wd hw 185 rfl) (wd hw 186 rfl) (wd hw 2 rfl) (wd hw 187 rfl) (by decide) pd__II_C294 (argsL := [(.int y), (.int (0 : Int32))]) rfl rfl rfl (Wt := 5) (Nat.le_of_eq rfl) (ch_met hw) (by decide) (by decide) (by decide) (by decide) ?_
      intro T141 h142 F143 v144 W145 Q146
      obtain ⟨rfl, rfl, rfl⟩ := Q146
      show G E x T141 (fr x 41 #[.val (.int y), .val (.int (lnv y))] [(.int (chv y (0 : Int32))), (.int (0 : Int32)), (.ref b134), (.ref b134), (.ref b124), (.ref b124)])
      refine w_castore W145 B d_mk_41 (List.Mem.head _) A140 (by decide) (i := 0) rfl (by first | decide | simp) (u := (chv y (0 : Int32))) (nar_char (chv_rng _ _).1 (Int.le_trans (chv_rng _ _).2 (by decide))) ?_
      intro T147 h148 W149 K150 A151
      have A152 : Arv E.Z h148 b134 k135 .char (1 : Int32) [(.int (chv y (0 : Int32)))] (.int (0 : Int32)) := A151
      have em : mkcs y = [chv y 0] := by rw [mkcs, show lnv y = 1 from hc24]; rfl
      refine w_special W149 B (y := ⟨"java/lang/String", "<init>", "([C)V"⟩) d_mk_42 rfl (wd hw 8 rfl) (wd hw 9 rfl) (wd hw 6 rfl) (wd hw 10 rfl) (by decide) pd___C_V325 (argsL := [(.ref b134)]) rfl rfl rfl (Wt := 1) (Nat.le_of_eq rfl) (ini1_met hw (cs := mkcs y) (n := (mkcs y).length) rfl (by rw [em]; simp) (Nat.le_trans (mkcs_le y) (by decide)) (rng_ch (mkcs_rng y)) (rng_lat (mkcs_rng y)) (List.Mem.tail _ (List.Mem.head _)) ((A128.ext X138).keep K150) ((f130.ext X138).keep K150 (ninS (Own.ne_new A128.lt g137) nin0)) ((f131.ext X138).keep K150 (ninS (Own.ne_new A128.lt g137) nin0)) (by rw [em]; exact A152)) (by decide) (by decide) (by decide) (by decide) ?_
      intro T153 h154 F155 v156 W157 Q158
      obtain ⟨rfl, rfl, K1, v, S1, hv⟩ := Q158
      show G E x T153 (fr x 45 #[.val (.int y), .val (.int (lnv y))] [(.ref b124)])
      obtain ⟨k1, L1⟩ := S1.latin (rng_lat (mkcs_rng y))
      have KK159 : Keep h h123 [] := (Keep.refl h []).ext X127
      have KK160 : Keep h h133 [] := KK159.ext X138
      have KK161 : Keep h h148 [] := KK160.trans K150 (allS (Or.inr (Nat.le_trans KK159.1 (Nat.le_of_eq g137.symm))) all0)
      have KK162 : Keep h h154 [] := KK161.trans K1 (allS (Or.inr (Nat.le_trans (Keep.refl h []).1 (Nat.le_of_eq g126.symm))) all0)
      exact w_areturn W157 B d_mk_45 rfl rfl hQ (by decide) (by decide) (fun _ q => (List.Mem.tail _ (List.Mem.tail _ q))) ⟨b124, v, k1, rfl, rfl, KK162, L1⟩
  · intro hc8
    show G E x T (fr x 11 #[.val (.int y), .val (.int (lnv y))] [])
    refine w_new W B d_mk_11 (wd hw 4 rfl) (wd hw 5 rfl) (wd hw 6 rfl) (by decide) (by decide) ?_
    intro T163 h164 b165 W166 g167 X168 A169 D170
    have f171 : Fld E.Z h164 b165 "java/lang/String" "value" "[B" .null := D170 (Or.inr (wd hw 20 rfl)) (ty := (.array .byte)) (by decide)
    have f172 : Fld E.Z h164 b165 "java/lang/String" "coder" "B" (.int (0 : Int32)) := D170 (Or.inr (wd hw 21 rfl)) (ty := .byte) (by decide)
    show G E x T163 (fr x 14 #[.val (.int y), .val (.int (lnv y))] [(.ref b165)])
    refine w_dup W166 B d_mk_14 rfl ?_
    refine w_iconst W166 B d_mk_15 (v := (0 : Int32)) rfl ?_
    refine w_newarray W166 B d_mk_16 rfl (wd hw 7 rfl) (by decide) (cap := 0) (by decide) (by decide) (by decide) (by decide) ?_
    intro T173 h174 b175 k176 W177 g178 X179 A180
    have A181 : Arv E.Z h174 b175 k176 .char (0 : Int32) [] (.int (0 : Int32)) := A180.pad (pad_rep [] (.int (0 : Int32)) 0)
    show G E x T173 (fr x 18 #[.val (.int y), .val (.int (lnv y))] [(.ref b175), (.ref b165), (.ref b165)])
    have em : mkcs y = [] := by rw [mkcs, show lnv y = 0 from hc8]; rfl
    refine w_special W177 B (y := ⟨"java/lang/String", "<init>", "([C)V"⟩) d_mk_18 rfl (wd hw 8 rfl) (wd hw 9 rfl) (wd hw 6 rfl) (wd hw 10 rfl) (by decide) pd___C_V325 (argsL := [(.ref b175)]) rfl rfl rfl (Wt := 1) (Nat.le_of_eq rfl) (ini1e_met hw (List.Mem.tail _ (List.Mem.head _)) (A169.ext X179) (f171.ext X179) (f172.ext X179) A181) (by decide) (by decide) (by decide) (by decide) ?_
    intro T182 h183 F184 v185 W186 Q187
    obtain ⟨rfl, rfl, K1, v, S1, hv⟩ := Q187
    show G E x T182 (fr x 21 #[.val (.int y), .val (.int (lnv y))] [(.ref b165)])
    obtain ⟨k1, L1⟩ := S1.latin (fun _ q => nomatch q)
    rw [← em] at L1
    have KK188 : Keep h h164 [] := (Keep.refl h []).ext X168
    have KK189 : Keep h h174 [] := KK188.ext X179
    have KK190 : Keep h h183 [] := KK189.trans K1 (allS (Or.inr (Nat.le_trans (Keep.refl h []).1 (Nat.le_of_eq g167.symm))) all0)
    exact w_areturn W186 B d_mk_21 rfl rfl hQ (by decide) (by decide) (fun _ q => (List.Mem.tail _ (List.Mem.tail _ q))) ⟨b165, v, k1, rfl, rfl, KK190, L1⟩
set_option maxRecDepth 65536 in
set_option maxHeartbeats 4000000 in
theorem seg_met {E : Gl} (hw : Tb E) {h : Heap} {F : List Addr} {s v : Addr} {k : ClassId} {cs : List Int32} {p l : Nat} {y : Int32} (S : StrL E h s v k cs) (hC : Ch cs) (hL : Lat cs) (hn : cs.length < 2 ^ 31) (hl : l ≤ 3) (hp : p + l ≤ cs.length) (hv : ∀ j, j < l → cs.getD (p + j) 0 = lowc (chv y j.toInt32)) :
    Met E (⟨"com/example/wakeline/index/IndexNamesForTablePinLaw", "seg", "(Ljava/lang/String;III)Z"⟩ : MethodName) method_6_code 4 (some .boolean) ({ frames := 4, cells := 0, slots := 0, locals := 53 } : Room) #[.ref s, .int p.toInt32, .int l.toInt32, .int y] h F (fun r h' F' => r = some (.int 1) ∧ h = h' ∧ F = F') := by
  refine met_of (by decide +kernel) fun x T hQ B W => ?_
  refine G.cast (g' := fr x 0 #[.val (.ref s), .val (.int p.toInt32), .val (.int l.toInt32), .val (.int y)] []) (by simp [entryFrame, mkF, argsToLocals, Own.cat_r, Own.cat_i, Own.cat_j, Own.cat_n]) ?_
  obtain rfl | rfl | rfl | rfl : l = 0 ∨ l = 1 ∨ l = 2 ∨ l = 3 := by omega
  ·
    refine w_iloadN W B d_seg_0 rfl ?_
    refine w_if_le W B d_seg_1 (fun _ => ?_) (fun q => absurd q (by decide))
    show G E x T (fr x 22 #[.val (.ref s), .val (.int p.toInt32), .val (.int (0 : Int32)), .val (.int y)] [])
    refine w_iloadN W B d_seg_22 rfl ?_
    refine w_iconst W B d_seg_23 (v := (1 : Int32)) rfl ?_
    refine w_icmp_le W B d_seg_24 (fun _ => ?_) (fun q => absurd q (by decide))
    show G E x T (fr x 47 #[.val (.ref s), .val (.int p.toInt32), .val (.int (0 : Int32)), .val (.int y)] [])
    refine w_iloadN W B d_seg_47 rfl ?_
    refine w_iconst W B d_seg_48 (v := (2 : Int32)) rfl ?_
    refine w_icmp_le W B d_seg_49 (fun _ => ?_) (fun q => absurd q (by decide))
    show G E x T (fr x 72 #[.val (.ref s), .val (.int p.toInt32), .val (.int (0 : Int32)), .val (.int y)] [])
    refine w_iconst W B d_seg_72 (v := (1 : Int32)) rfl ?_
    exact w_ireturnN W B d_seg_73 (Or.inl rfl) (u := 1) rfl hQ (by decide) (by decide) (fun _ q => q) ⟨rfl, rfl, rfl⟩
  ·
    refine w_iloadN W B d_seg_0 rfl ?_
    refine w_if_le W B d_seg_1 (fun q => q (by decide) |>.elim) (fun _ => ?_)
    show G E x T (fr x 4 #[.val (.ref s), .val (.int p.toInt32), .val (.int (1 : Int32)), .val (.int y)] [])
    refine w_aloadN W B d_seg_4 rfl rfl ?_
    refine w_iloadN W B d_seg_5 rfl ?_
    refine w_virtual W B (y := ⟨"java/lang/String", "charAt", "(I)C"⟩) (z := ⟨"java/lang/String", "charAt", "(I)C"⟩) d_seg_6 (wd hw 169 rfl) (wd hw 170 rfl) (nf_sel (wd hw 172 rfl)) (wd hw 172 rfl) (wd hw 171 rfl) (wd hw 6 rfl) (wd hw 173 rfl) (by decide) S.1 pd__I_C221 (argsL := [(.int p.toInt32)]) rfl rfl rfl (Wt := 0) (Nat.le_of_eq rfl) (sca_met hw (i := p + 0) S hC hL hn (by omega)) (by decide) (by decide) (by decide) (by decide) ?_
    intro T1 h2 F3 v4 W5 Q6
    obtain ⟨rfl, rfl, rfl⟩ := Q6
    show G E x T1 (fr x 9 #[.val (.ref s), .val (.int p.toInt32), .val (.int (1 : Int32)), .val (.int y)] [(.int (cs.getD (p + 0) 0))])
    refine w_iloadN W5 B d_seg_9 rfl ?_
    refine w_iconst W5 B d_seg_10 (v := (0 : Int32)) rfl ?_
    refine w_static W5 B (y := ⟨"com/example/wakeline/index/IndexNamesForTablePinLaw", "ch", "(II)C"⟩) d_seg_11 (wd hw 185 rfl) (wd hw 186 rfl) (wd hw 2 rfl) (wd hw 187 rfl) (by decide) pd__II_C294 (argsL := [(.int y), (.int (0 : Int32))]) rfl rfl rfl (Wt := 1) (Nat.le_of_eq rfl) (ch_met hw) (by decide) (by decide) (by decide) (by decide) ?_
    intro T7 h8 F9 v10 W11 Q12
    obtain ⟨rfl, rfl, rfl⟩ := Q12
    show G E x T7 (fr x 14 #[.val (.ref s), .val (.int p.toInt32), .val (.int (1 : Int32)), .val (.int y)] [(.int (chv y (0 : Int32))), (.int (cs.getD (p + 0) 0))])
    refine w_static W11 B (y := ⟨"com/example/wakeline/index/IndexNamesForTablePinLaw", "low", "(C)C"⟩) d_seg_14 (wd hw 224 rfl) (wd hw 225 rfl) (wd hw 2 rfl) (wd hw 226 rfl) (by decide) pd__C_C215 (argsL := [(.int (chv y (0 : Int32)))]) rfl rfl rfl (Wt := 1) (Nat.le_of_eq rfl) (low_met hw (chv_rng _ _)) (by decide) (by decide) (by decide) (by decide) ?_
    intro T13 h14 F15 v16 W17 Q18
    obtain ⟨rfl, rfl, rfl⟩ := Q18
    show G E x T13 (fr x 17 #[.val (.ref s), .val (.int p.toInt32), .val (.int (1 : Int32)), .val (.int y)] [(.int (lowc (chv y (0 : Int32)))), (.int (cs.getD (p + 0) 0))])
    refine w_icmp_eq W17 B d_seg_17 (fun _ => ?_) (fun q => q (hv 0 (by decide)) |>.elim)
    show G E x T13 (fr x 22 #[.val (.ref s), .val (.int p.toInt32), .val (.int (1 : Int32)), .val (.int y)] [])
    refine w_iloadN W17 B d_seg_22 rfl ?_
    refine w_iconst W17 B d_seg_23 (v := (1 : Int32)) rfl ?_
    refine w_icmp_le W17 B d_seg_24 (fun _ => ?_) (fun q => absurd q (by decide))
    show G E x T13 (fr x 47 #[.val (.ref s), .val (.int p.toInt32), .val (.int (1 : Int32)), .val (.int y)] [])
    refine w_iloadN W17 B d_seg_47 rfl ?_
    refine w_iconst W17 B d_seg_48 (v := (2 : Int32)) rfl ?_
    refine w_icmp_le W17 B d_seg_49 (fun _ => ?_) (fun q => absurd q (by decide))
    show G E x T13 (fr x 72 #[.val (.ref s), .val (.int p.toInt32), .val (.int (1 : Int32)), .val (.int y)] [])
    refine w_iconst W17 B d_seg_72 (v := (1 : Int32)) rfl ?_
    exact w_ireturnN W17 B d_seg_73 (Or.inl rfl) (u := 1) rfl hQ (by decide) (by decide) (fun _ q => q) ⟨rfl, rfl, rfl⟩
  ·
    refine w_iloadN W B d_seg_0 rfl ?_
    refine w_if_le W B d_seg_1 (fun q => q (by decide) |>.elim) (fun _ => ?_)
    show G E x T (fr x 4 #[.val (.ref s), .val (.int p.toInt32), .val (.int (2 : Int32)), .val (.int y)] [])
    refine w_aloadN W B d_seg_4 rfl rfl ?_
    refine w_iloadN W B d_seg_5 rfl ?_
    refine w_virtual W B (y := ⟨"java/lang/String", "charAt", "(I)C"⟩) (z := ⟨"java/lang/String", "charAt", "(I)C"⟩) d_seg_6 (wd hw 169 rfl) (wd hw 170 rfl) (nf_sel (wd hw 172 rfl)) (wd hw 172 rfl) (wd hw 171 rfl) (wd hw 6 rfl) (wd hw 173 rfl) (by decide) S.1 pd__I_C221 (argsL := [(.int p.toInt32)]) rfl rfl rfl (Wt := 0) (Nat.le_of_eq rfl) (sca_met hw (i := p + 0) S hC hL hn (by omega)) (by decide) (by decide) (by decide) (by decide) ?_
    intro T1 h2 F3 v4 W5 Q6
    obtain ⟨rfl, rfl, rfl⟩ := Q6
    show G E x T1 (fr x 9 #[.val (.ref s), .val (.int p.toInt32), .val (.int (2 : Int32)), .val (.int y)] [(.int (cs.getD (p + 0) 0))])
    refine w_iloadN W5 B d_seg_9 rfl ?_
    refine w_iconst W5 B d_seg_10 (v := (0 : Int32)) rfl ?_
    refine w_static W5 B (y := ⟨"com/example/wakeline/index/IndexNamesForTablePinLaw", "ch", "(II)C"⟩) d_seg_11 (wd hw 185 rfl) (wd hw 186 rfl) (wd hw 2 rfl) (wd hw 187 rfl) (by decide) pd__II_C294 (argsL := [(.int y), (.int (0 : Int32))]) rfl rfl rfl (Wt := 1) (Nat.le_of_eq rfl) (ch_met hw) (by decide) (by decide) (by decide) (by decide) ?_
    intro T7 h8 F9 v10 W11 Q12
    obtain ⟨rfl, rfl, rfl⟩ := Q12
    show G E x T7 (fr x 14 #[.val (.ref s), .val (.int p.toInt32), .val (.int (2 : Int32)), .val (.int y)] [(.int (chv y (0 : Int32))), (.int (cs.getD (p + 0) 0))])
    refine w_static W11 B (y := ⟨"com/example/wakeline/index/IndexNamesForTablePinLaw", "low", "(C)C"⟩) d_seg_14 (wd hw 224 rfl) (wd hw 225 rfl) (wd hw 2 rfl) (wd hw 226 rfl) (by decide) pd__C_C215 (argsL := [(.int (chv y (0 : Int32)))]) rfl rfl rfl (Wt := 1) (Nat.le_of_eq rfl) (low_met hw (chv_rng _ _)) (by decide) (by decide) (by decide) (by decide) ?_
    intro T13 h14 F15 v16 W17 Q18
    obtain ⟨rfl, rfl, rfl⟩ := Q18
    show G E x T13 (fr x 17 #[.val (.ref s), .val (.int p.toInt32), .val (.int (2 : Int32)), .val (.int y)] [(.int (lowc (chv y (0 : Int32)))), (.int (cs.getD (p + 0) 0))])
    refine w_icmp_eq W17 B d_seg_17 (fun _ => ?_) (fun q => q (hv 0 (by decide)) |>.elim)
    show G E x T13 (fr x 22 #[.val (.ref s), .val (.int p.toInt32), .val (.int (2 : Int32)), .val (.int y)] [])
    refine w_iloadN W17 B d_seg_22 rfl ?_
    refine w_iconst W17 B d_seg_23 (v := (1 : Int32)) rfl ?_
    refine w_icmp_le W17 B d_seg_24 (fun q => q (by decide) |>.elim) (fun _ => ?_)
    show G E x T13 (fr x 27 #[.val (.ref s), .val (.int p.toInt32), .val (.int (2 : Int32)), .val (.int y)] [])
    refine w_aloadN W17 B d_seg_27 rfl rfl ?_
    refine w_iloadN W17 B d_seg_28 rfl ?_
    refine w_iconst W17 B d_seg_29 (v := (1 : Int32)) rfl ?_
    refine w_iadd W17 B d_seg_30 ?_
    rw [show p.toInt32 + (1 : Int32) = (p + 1).toInt32 from n_add p 1]
    show G E x T13 (fr x 31 #[.val (.ref s), .val (.int p.toInt32), .val (.int (2 : Int32)), .val (.int y)] [(.int (p + 1).toInt32), (.ref s)])
    refine w_virtual W17 B (y := ⟨"java/lang/String", "charAt", "(I)C"⟩) (z := ⟨"java/lang/String", "charAt", "(I)C"⟩) d_seg_31 (wd hw 169 rfl) (wd hw 170 rfl) (nf_sel (wd hw 172 rfl)) (wd hw 172 rfl) (wd hw 171 rfl) (wd hw 6 rfl) (wd hw 173 rfl) (by decide) S.1 pd__I_C221 (argsL := [(.int (p + 1).toInt32)]) rfl rfl rfl (Wt := 0) (Nat.le_of_eq rfl) (sca_met hw (i := p + 1) S hC hL hn (by omega)) (by decide) (by decide) (by decide) (by decide) ?_
    intro T19 h20 F21 v22 W23 Q24
    obtain ⟨rfl, rfl, rfl⟩ := Q24
    show G E x T19 (fr x 34 #[.val (.ref s), .val (.int p.toInt32), .val (.int (2 : Int32)), .val (.int y)] [(.int (cs.getD (p + 1) 0))])
    refine w_iloadN W23 B d_seg_34 rfl ?_
    refine w_iconst W23 B d_seg_35 (v := (1 : Int32)) rfl ?_
    refine w_static W23 B (y := ⟨"com/example/wakeline/index/IndexNamesForTablePinLaw", "ch", "(II)C"⟩) d_seg_36 (wd hw 185 rfl) (wd hw 186 rfl) (wd hw 2 rfl) (wd hw 187 rfl) (by decide) pd__II_C294 (argsL := [(.int y), (.int (1 : Int32))]) rfl rfl rfl (Wt := 1) (Nat.le_of_eq rfl) (ch_met hw) (by decide) (by decide) (by decide) (by decide) ?_
    intro T25 h26 F27 v28 W29 Q30
    obtain ⟨rfl, rfl, rfl⟩ := Q30
    show G E x T25 (fr x 39 #[.val (.ref s), .val (.int p.toInt32), .val (.int (2 : Int32)), .val (.int y)] [(.int (chv y (1 : Int32))), (.int (cs.getD (p + 1) 0))])
    refine w_static W29 B (y := ⟨"com/example/wakeline/index/IndexNamesForTablePinLaw", "low", "(C)C"⟩) d_seg_39 (wd hw 224 rfl) (wd hw 225 rfl) (wd hw 2 rfl) (wd hw 226 rfl) (by decide) pd__C_C215 (argsL := [(.int (chv y (1 : Int32)))]) rfl rfl rfl (Wt := 1) (Nat.le_of_eq rfl) (low_met hw (chv_rng _ _)) (by decide) (by decide) (by decide) (by decide) ?_
    intro T31 h32 F33 v34 W35 Q36
    obtain ⟨rfl, rfl, rfl⟩ := Q36
    show G E x T31 (fr x 42 #[.val (.ref s), .val (.int p.toInt32), .val (.int (2 : Int32)), .val (.int y)] [(.int (lowc (chv y (1 : Int32)))), (.int (cs.getD (p + 1) 0))])
    refine w_icmp_eq W35 B d_seg_42 (fun _ => ?_) (fun q => q (hv 1 (by decide)) |>.elim)
    show G E x T31 (fr x 47 #[.val (.ref s), .val (.int p.toInt32), .val (.int (2 : Int32)), .val (.int y)] [])
    refine w_iloadN W35 B d_seg_47 rfl ?_
    refine w_iconst W35 B d_seg_48 (v := (2 : Int32)) rfl ?_
    refine w_icmp_le W35 B d_seg_49 (fun _ => ?_) (fun q => absurd q (by decide))
    show G E x T31 (fr x 72 #[.val (.ref s), .val (.int p.toInt32), .val (.int (2 : Int32)), .val (.int y)] [])
    refine w_iconst W35 B d_seg_72 (v := (1 : Int32)) rfl ?_
    exact w_ireturnN W35 B d_seg_73 (Or.inl rfl) (u := 1) rfl hQ (by decide) (by decide) (fun _ q => q) ⟨rfl, rfl, rfl⟩
  ·
    refine w_iloadN W B d_seg_0 rfl ?_
    refine w_if_le W B d_seg_1 (fun q => q (by decide) |>.elim) (fun _ => ?_)
    show G E x T (fr x 4 #[.val (.ref s), .val (.int p.toInt32), .val (.int (3 : Int32)), .val (.int y)] [])
    refine w_aloadN W B d_seg_4 rfl rfl ?_
    refine w_iloadN W B d_seg_5 rfl ?_
    refine w_virtual W B (y := ⟨"java/lang/String", "charAt", "(I)C"⟩) (z := ⟨"java/lang/String", "charAt", "(I)C"⟩) d_seg_6 (wd hw 169 rfl) (wd hw 170 rfl) (nf_sel (wd hw 172 rfl)) (wd hw 172 rfl) (wd hw 171 rfl) (wd hw 6 rfl) (wd hw 173 rfl) (by decide) S.1 pd__I_C221 (argsL := [(.int p.toInt32)]) rfl rfl rfl (Wt := 0) (Nat.le_of_eq rfl) (sca_met hw (i := p + 0) S hC hL hn (by omega)) (by decide) (by decide) (by decide) (by decide) ?_
    intro T1 h2 F3 v4 W5 Q6
    obtain ⟨rfl, rfl, rfl⟩ := Q6
    show G E x T1 (fr x 9 #[.val (.ref s), .val (.int p.toInt32), .val (.int (3 : Int32)), .val (.int y)] [(.int (cs.getD (p + 0) 0))])
    refine w_iloadN W5 B d_seg_9 rfl ?_
    refine w_iconst W5 B d_seg_10 (v := (0 : Int32)) rfl ?_
    refine w_static W5 B (y := ⟨"com/example/wakeline/index/IndexNamesForTablePinLaw", "ch", "(II)C"⟩) d_seg_11 (wd hw 185 rfl) (wd hw 186 rfl) (wd hw 2 rfl) (wd hw 187 rfl) (by decide) pd__II_C294 (argsL := [(.int y), (.int (0 : Int32))]) rfl rfl rfl (Wt := 1) (Nat.le_of_eq rfl) (ch_met hw) (by decide) (by decide) (by decide) (by decide) ?_
    intro T7 h8 F9 v10 W11 Q12
    obtain ⟨rfl, rfl, rfl⟩ := Q12
    show G E x T7 (fr x 14 #[.val (.ref s), .val (.int p.toInt32), .val (.int (3 : Int32)), .val (.int y)] [(.int (chv y (0 : Int32))), (.int (cs.getD (p + 0) 0))])
    refine w_static W11 B (y := ⟨"com/example/wakeline/index/IndexNamesForTablePinLaw", "low", "(C)C"⟩) d_seg_14 (wd hw 224 rfl) (wd hw 225 rfl) (wd hw 2 rfl) (wd hw 226 rfl) (by decide) pd__C_C215 (argsL := [(.int (chv y (0 : Int32)))]) rfl rfl rfl (Wt := 1) (Nat.le_of_eq rfl) (low_met hw (chv_rng _ _)) (by decide) (by decide) (by decide) (by decide) ?_
    intro T13 h14 F15 v16 W17 Q18
    obtain ⟨rfl, rfl, rfl⟩ := Q18
    show G E x T13 (fr x 17 #[.val (.ref s), .val (.int p.toInt32), .val (.int (3 : Int32)), .val (.int y)] [(.int (lowc (chv y (0 : Int32)))), (.int (cs.getD (p + 0) 0))])
    refine w_icmp_eq W17 B d_seg_17 (fun _ => ?_) (fun q => q (hv 0 (by decide)) |>.elim)
    show G E x T13 (fr x 22 #[.val (.ref s), .val (.int p.toInt32), .val (.int (3 : Int32)), .val (.int y)] [])
    refine w_iloadN W17 B d_seg_22 rfl ?_
    refine w_iconst W17 B d_seg_23 (v := (1 : Int32)) rfl ?_
    refine w_icmp_le W17 B d_seg_24 (fun q => q (by decide) |>.elim) (fun _ => ?_)
    show G E x T13 (fr x 27 #[.val (.ref s), .val (.int p.toInt32), .val (.int (3 : Int32)), .val (.int y)] [])
    refine w_aloadN W17 B d_seg_27 rfl rfl ?_
    refine w_iloadN W17 B d_seg_28 rfl ?_
    refine w_iconst W17 B d_seg_29 (v := (1 : Int32)) rfl ?_
    refine w_iadd W17 B d_seg_30 ?_
    rw [show p.toInt32 + (1 : Int32) = (p + 1).toInt32 from n_add p 1]
    show G E x T13 (fr x 31 #[.val (.ref s), .val (.int p.toInt32), .val (.int (3 : Int32)), .val (.int y)] [(.int (p + 1).toInt32), (.ref s)])
    refine w_virtual W17 B (y := ⟨"java/lang/String", "charAt", "(I)C"⟩) (z := ⟨"java/lang/String", "charAt", "(I)C"⟩) d_seg_31 (wd hw 169 rfl) (wd hw 170 rfl) (nf_sel (wd hw 172 rfl)) (wd hw 172 rfl) (wd hw 171 rfl) (wd hw 6 rfl) (wd hw 173 rfl) (by decide) S.1 pd__I_C221 (argsL := [(.int (p + 1).toInt32)]) rfl rfl rfl (Wt := 0) (Nat.le_of_eq rfl) (sca_met hw (i := p + 1) S hC hL hn (by omega)) (by decide) (by decide) (by decide) (by decide) ?_
    intro T19 h20 F21 v22 W23 Q24
    obtain ⟨rfl, rfl, rfl⟩ := Q24
    show G E x T19 (fr x 34 #[.val (.ref s), .val (.int p.toInt32), .val (.int (3 : Int32)), .val (.int y)] [(.int (cs.getD (p + 1) 0))])
    refine w_iloadN W23 B d_seg_34 rfl ?_
    refine w_iconst W23 B d_seg_35 (v := (1 : Int32)) rfl ?_
    refine w_static W23 B (y := ⟨"com/example/wakeline/index/IndexNamesForTablePinLaw", "ch", "(II)C"⟩) d_seg_36 (wd hw 185 rfl) (wd hw 186 rfl) (wd hw 2 rfl) (wd hw 187 rfl) (by decide) pd__II_C294 (argsL := [(.int y), (.int (1 : Int32))]) rfl rfl rfl (Wt := 1) (Nat.le_of_eq rfl) (ch_met hw) (by decide) (by decide) (by decide) (by decide) ?_
    intro T25 h26 F27 v28 W29 Q30
    obtain ⟨rfl, rfl, rfl⟩ := Q30
    show G E x T25 (fr x 39 #[.val (.ref s), .val (.int p.toInt32), .val (.int (3 : Int32)), .val (.int y)] [(.int (chv y (1 : Int32))), (.int (cs.getD (p + 1) 0))])
    refine w_static W29 B (y := ⟨"com/example/wakeline/index/IndexNamesForTablePinLaw", "low", "(C)C"⟩) d_seg_39 (wd hw 224 rfl) (wd hw 225 rfl) (wd hw 2 rfl) (wd hw 226 rfl) (by decide) pd__C_C215 (argsL := [(.int (chv y (1 : Int32)))]) rfl rfl rfl (Wt := 1) (Nat.le_of_eq rfl) (low_met hw (chv_rng _ _)) (by decide) (by decide) (by decide) (by decide) ?_
    intro T31 h32 F33 v34 W35 Q36
    obtain ⟨rfl, rfl, rfl⟩ := Q36
    show G E x T31 (fr x 42 #[.val (.ref s), .val (.int p.toInt32), .val (.int (3 : Int32)), .val (.int y)] [(.int (lowc (chv y (1 : Int32)))), (.int (cs.getD (p + 1) 0))])
    refine w_icmp_eq W35 B d_seg_42 (fun _ => ?_) (fun q => q (hv 1 (by decide)) |>.elim)
    show G E x T31 (fr x 47 #[.val (.ref s), .val (.int p.toInt32), .val (.int (3 : Int32)), .val (.int y)] [])
    refine w_iloadN W35 B d_seg_47 rfl ?_
    refine w_iconst W35 B d_seg_48 (v := (2 : Int32)) rfl ?_
    refine w_icmp_le W35 B d_seg_49 (fun q => q (by decide) |>.elim) (fun _ => ?_)
    show G E x T31 (fr x 52 #[.val (.ref s), .val (.int p.toInt32), .val (.int (3 : Int32)), .val (.int y)] [])
    refine w_aloadN W35 B d_seg_52 rfl rfl ?_
    refine w_iloadN W35 B d_seg_53 rfl ?_
    refine w_iconst W35 B d_seg_54 (v := (2 : Int32)) rfl ?_
    refine w_iadd W35 B d_seg_55 ?_
    rw [show p.toInt32 + (2 : Int32) = (p + 2).toInt32 from n_add p 2]
    show G E x T31 (fr x 56 #[.val (.ref s), .val (.int p.toInt32), .val (.int (3 : Int32)), .val (.int y)] [(.int (p + 2).toInt32), (.ref s)])
    refine w_virtual W35 B (y := ⟨"java/lang/String", "charAt", "(I)C"⟩) (z := ⟨"java/lang/String", "charAt", "(I)C"⟩) d_seg_56 (wd hw 169 rfl) (wd hw 170 rfl) (nf_sel (wd hw 172 rfl)) (wd hw 172 rfl) (wd hw 171 rfl) (wd hw 6 rfl) (wd hw 173 rfl) (by decide) S.1 pd__I_C221 (argsL := [(.int (p + 2).toInt32)]) rfl rfl rfl (Wt := 0) (Nat.le_of_eq rfl) (sca_met hw (i := p + 2) S hC hL hn (by omega)) (by decide) (by decide) (by decide) (by decide) ?_
    intro T37 h38 F39 v40 W41 Q42
    obtain ⟨rfl, rfl, rfl⟩ := Q42
    show G E x T37 (fr x 59 #[.val (.ref s), .val (.int p.toInt32), .val (.int (3 : Int32)), .val (.int y)] [(.int (cs.getD (p + 2) 0))])
    refine w_iloadN W41 B d_seg_59 rfl ?_
    refine w_iconst W41 B d_seg_60 (v := (2 : Int32)) rfl ?_
    refine w_static W41 B (y := ⟨"com/example/wakeline/index/IndexNamesForTablePinLaw", "ch", "(II)C"⟩) d_seg_61 (wd hw 185 rfl) (wd hw 186 rfl) (wd hw 2 rfl) (wd hw 187 rfl) (by decide) pd__II_C294 (argsL := [(.int y), (.int (2 : Int32))]) rfl rfl rfl (Wt := 1) (Nat.le_of_eq rfl) (ch_met hw) (by decide) (by decide) (by decide) (by decide) ?_
    intro T43 h44 F45 v46 W47 Q48
    obtain ⟨rfl, rfl, rfl⟩ := Q48
    show G E x T43 (fr x 64 #[.val (.ref s), .val (.int p.toInt32), .val (.int (3 : Int32)), .val (.int y)] [(.int (chv y (2 : Int32))), (.int (cs.getD (p + 2) 0))])
    refine w_static W47 B (y := ⟨"com/example/wakeline/index/IndexNamesForTablePinLaw", "low", "(C)C"⟩) d_seg_64 (wd hw 224 rfl) (wd hw 225 rfl) (wd hw 2 rfl) (wd hw 226 rfl) (by decide) pd__C_C215 (argsL := [(.int (chv y (2 : Int32)))]) rfl rfl rfl (Wt := 1) (Nat.le_of_eq rfl) (low_met hw (chv_rng _ _)) (by decide) (by decide) (by decide) (by decide) ?_
    intro T49 h50 F51 v52 W53 Q54
    obtain ⟨rfl, rfl, rfl⟩ := Q54
    show G E x T49 (fr x 67 #[.val (.ref s), .val (.int p.toInt32), .val (.int (3 : Int32)), .val (.int y)] [(.int (lowc (chv y (2 : Int32)))), (.int (cs.getD (p + 2) 0))])
    refine w_icmp_eq W53 B d_seg_67 (fun _ => ?_) (fun q => q (hv 2 (by decide)) |>.elim)
    show G E x T49 (fr x 72 #[.val (.ref s), .val (.int p.toInt32), .val (.int (3 : Int32)), .val (.int y)] [])
    refine w_iconst W53 B d_seg_72 (v := (1 : Int32)) rfl ?_
    exact w_ireturnN W53 B d_seg_73 (Or.inl rfl) (u := 1) rfl hQ (by decide) (by decide) (fun _ q => q) ⟨rfl, rfl, rfl⟩
set_option maxRecDepth 65536 in
set_option maxHeartbeats 4000000 in
theorem law_body {E : Gl} (hw : Tb E) {lo bl la lv : Addr} {kl : ClassId} (Lo : LocV E lo bl la lv kl) (Sl : Sta E.Z E.Z.heap "java/util/Locale" "ROOT" "Ljava/util/Locale;" (.ref lo)) {ci : Addr} (Si : Sta E.Z E.Z.heap "java/lang/CharacterDataLatin1" "instance" "Ljava/lang/CharacterDataLatin1;" (.ref ci)) (Xi : Exa E.Z E.Z.heap ci "java/lang/CharacterDataLatin1") {x : Cx} {T : State} {h : Heap} (hQ : x.Q = fun r _ _ => r = some (.int 1)) (B : Is x "com/example/wakeline/index/IndexNamesForTablePinLaw" code 10 ({ frames := 10, cells := 48, slots := 5376, locals := 208 } : Room) (some .boolean) "law") {p0 p1 p2 : Int32} (W : Wk E x T h [] 0 0) : G E x T (fr x 0 #[.val (.int p0), .val (.int p1), .val (.int p2), .unset, .unset, .unset, .unset, .unset, .unset, .unset] []) := by
  have h0 := mkcs_le p0
  have h1 := mkcs_le p1
  have h2 := mkcs_le p2
  have hN : (named p0 p1 p2).length < 2 ^ 31 := by rw [named_len]; omega
  refine w_iloadN W B d_law_0 rfl ?_
  refine w_bipush W B d_law_1 (v := (24 : Int32)) rfl ?_
  refine w_iushr W B d_law_3 ?_
  refine w_iconst W B d_law_4 (v := (3 : Int32)) rfl ?_
  refine w_iand W B d_law_5 ?_
  rw [show XT.ushr p0 (24 : Int32) &&& 3 = (mkcs p0).length.toInt32 from mkcs_len p0]
  show G E x T (fr x 6 #[.val (.int p0), .val (.int p1), .val (.int p2), .unset, .unset, .unset, .unset, .unset, .unset, .unset] [(.int (mkcs p0).length.toInt32)])
  refine w_istoreN W B d_law_6 (Ls' := #[.val (.int p0), .val (.int p1), .val (.int p2), .val (.int (mkcs p0).length.toInt32), .unset, .unset, .unset, .unset, .unset, .unset]) rfl ?_
  refine w_iloadN W B d_law_7 rfl ?_
  refine w_bipush W B d_law_8 (v := (24 : Int32)) rfl ?_
  refine w_iushr W B d_law_10 ?_
  refine w_iconst W B d_law_11 (v := (3 : Int32)) rfl ?_
  refine w_iand W B d_law_12 ?_
  rw [show XT.ushr p1 (24 : Int32) &&& 3 = (mkcs p1).length.toInt32 from mkcs_len p1]
  show G E x T (fr x 13 #[.val (.int p0), .val (.int p1), .val (.int p2), .val (.int (mkcs p0).length.toInt32), .unset, .unset, .unset, .unset, .unset, .unset] [(.int (mkcs p1).length.toInt32)])
  refine w_istore W B d_law_13 (Ls' := #[.val (.int p0), .val (.int p1), .val (.int p2), .val (.int (mkcs p0).length.toInt32), .val (.int (mkcs p1).length.toInt32), .unset, .unset, .unset, .unset, .unset]) rfl ?_
  refine w_iloadN W B d_law_15 rfl ?_
  refine w_bipush W B d_law_16 (v := (24 : Int32)) rfl ?_
  refine w_iushr W B d_law_18 ?_
  refine w_iconst W B d_law_19 (v := (3 : Int32)) rfl ?_
  refine w_iand W B d_law_20 ?_
  rw [show XT.ushr p2 (24 : Int32) &&& 3 = (mkcs p2).length.toInt32 from mkcs_len p2]
  show G E x T (fr x 21 #[.val (.int p0), .val (.int p1), .val (.int p2), .val (.int (mkcs p0).length.toInt32), .val (.int (mkcs p1).length.toInt32), .unset, .unset, .unset, .unset, .unset] [(.int (mkcs p2).length.toInt32)])
  refine w_istore W B d_law_21 (Ls' := #[.val (.int p0), .val (.int p1), .val (.int p2), .val (.int (mkcs p0).length.toInt32), .val (.int (mkcs p1).length.toInt32), .val (.int (mkcs p2).length.toInt32), .unset, .unset, .unset, .unset]) rfl ?_
  refine w_iloadN W B d_law_23 rfl ?_
  refine w_static W B (y := ⟨"com/example/wakeline/index/IndexNamesForTablePinLaw", "mk", "(I)Ljava/lang/String;"⟩) d_law_24 (wd hw 0 rfl) (wd hw 1 rfl) (wd hw 2 rfl) (wd hw 3 rfl) (by decide) pd__I_Ljava_lang_String_853 (argsL := [(.int p0)]) rfl rfl rfl (Wt := 0) (Nat.le_of_eq rfl) (mk_met hw) (by decide) (by decide) (by decide) (by decide) ?_
  intro T1 h2 F3 v4 W5 Q6
  obtain ⟨s0, v0, k0, rfl, rfl, KM0, SM0⟩ := Q6
  show G E x T1 (fr x 27 #[.val (.int p0), .val (.int p1), .val (.int p2), .val (.int (mkcs p0).length.toInt32), .val (.int (mkcs p1).length.toInt32), .val (.int (mkcs p2).length.toInt32), .unset, .unset, .unset, .unset] [(.ref s0)])
  refine w_astore W5 B d_law_27 rfl (Ls' := #[.val (.int p0), .val (.int p1), .val (.int p2), .val (.int (mkcs p0).length.toInt32), .val (.int (mkcs p1).length.toInt32), .val (.int (mkcs p2).length.toInt32), .val (.ref s0), .unset, .unset, .unset]) rfl ?_
  refine w_iloadN W5 B d_law_29 rfl ?_
  refine w_static W5 B (y := ⟨"com/example/wakeline/index/IndexNamesForTablePinLaw", "mk", "(I)Ljava/lang/String;"⟩) d_law_30 (wd hw 0 rfl) (wd hw 1 rfl) (wd hw 2 rfl) (wd hw 3 rfl) (by decide) pd__I_Ljava_lang_String_853 (argsL := [(.int p1)]) rfl rfl rfl (Wt := 0) (Nat.le_of_eq rfl) (mk_met hw) (by decide) (by decide) (by decide) (by decide) ?_
  intro T7 h8 F9 v10 W11 Q12
  obtain ⟨s1, v1, k1, rfl, rfl, KM1, SM1⟩ := Q12
  show G E x T7 (fr x 33 #[.val (.int p0), .val (.int p1), .val (.int p2), .val (.int (mkcs p0).length.toInt32), .val (.int (mkcs p1).length.toInt32), .val (.int (mkcs p2).length.toInt32), .val (.ref s0), .unset, .unset, .unset] [(.ref s1)])
  refine w_astore W11 B d_law_33 rfl (Ls' := #[.val (.int p0), .val (.int p1), .val (.int p2), .val (.int (mkcs p0).length.toInt32), .val (.int (mkcs p1).length.toInt32), .val (.int (mkcs p2).length.toInt32), .val (.ref s0), .val (.ref s1), .unset, .unset]) rfl ?_
  refine w_iloadN W11 B d_law_35 rfl ?_
  refine w_static W11 B (y := ⟨"com/example/wakeline/index/IndexNamesForTablePinLaw", "mk", "(I)Ljava/lang/String;"⟩) d_law_36 (wd hw 0 rfl) (wd hw 1 rfl) (wd hw 2 rfl) (wd hw 3 rfl) (by decide) pd__I_Ljava_lang_String_853 (argsL := [(.int p2)]) rfl rfl rfl (Wt := 0) (Nat.le_of_eq rfl) (mk_met hw) (by decide) (by decide) (by decide) (by decide) ?_
  intro T13 h14 F15 v16 W17 Q18
  obtain ⟨s2, v2, k2, rfl, rfl, KM2, SM2⟩ := Q18
  show G E x T13 (fr x 39 #[.val (.int p0), .val (.int p1), .val (.int p2), .val (.int (mkcs p0).length.toInt32), .val (.int (mkcs p1).length.toInt32), .val (.int (mkcs p2).length.toInt32), .val (.ref s0), .val (.ref s1), .unset, .unset] [(.ref s2)])
  refine w_astore W17 B d_law_39 rfl (Ls' := #[.val (.int p0), .val (.int p1), .val (.int p2), .val (.int (mkcs p0).length.toInt32), .val (.int (mkcs p1).length.toInt32), .val (.int (mkcs p2).length.toInt32), .val (.ref s0), .val (.ref s1), .val (.ref s2), .unset]) rfl ?_
  refine w_aload W17 B d_law_41 rfl rfl ?_
  refine w_aload W17 B d_law_43 rfl rfl ?_
  refine w_aload W17 B d_law_45 rfl rfl ?_
  refine w_static W17 B (y := ⟨"com/example/wakeline/index/IndexNames", "forTable", "(Ljava/lang/String;Ljava/lang/String;Ljava/lang/String;)Ljava/lang/String;"⟩) d_law_47 (wd hw 26 rfl) (wd hw 27 rfl) (wd hw 28 rfl) (wd hw 29 rfl) (by decide) pd__Ljava_lang_String_Ljava_lang_String_Ljava_lang_String__Ljava_lang_String_883 (argsL := [(.ref s0), (.ref s1), (.ref s2)]) rfl rfl rfl (Wt := 0) (Nat.le_of_eq rfl) (fort_met hw Lo Sl Si Xi ⟨((SM0.1.keep KM1).keep KM2), ((SM0.2.1.keep KM1 nin0).keep KM2 nin0), ((SM0.2.2.1.keep KM1 nin0).keep KM2 nin0), ((SM0.2.2.2.keep KM1 nin0).keep KM2 nin0)⟩ ⟨(SM1.1.keep KM2), (SM1.2.1.keep KM2 nin0), (SM1.2.2.1.keep KM2 nin0), (SM1.2.2.2.keep KM2 nin0)⟩ ⟨SM2.1, SM2.2.1, SM2.2.2.1, SM2.2.2.2⟩) (by decide) (by decide) (by decide) (by decide) ?_
  intro T19 h20 F21 v22 W23 Q24
  obtain ⟨q, qv, kq, rfl, rfl, KF, Sq⟩ := Q24
  show G E x T19 (fr x 50 #[.val (.int p0), .val (.int p1), .val (.int p2), .val (.int (mkcs p0).length.toInt32), .val (.int (mkcs p1).length.toInt32), .val (.int (mkcs p2).length.toInt32), .val (.ref s0), .val (.ref s1), .val (.ref s2), .unset] [(.ref q)])
  refine w_astore W23 B d_law_50 rfl (Ls' := #[.val (.int p0), .val (.int p1), .val (.int p2), .val (.int (mkcs p0).length.toInt32), .val (.int (mkcs p1).length.toInt32), .val (.int (mkcs p2).length.toInt32), .val (.ref s0), .val (.ref s1), .val (.ref s2), .val (.ref q)]) rfl ?_
  refine w_aload W23 B d_law_52 rfl rfl ?_
  refine w_ifnonnull_ref W23 B d_law_54 ?_
  refine w_aload W23 B d_law_59 rfl rfl ?_
  refine w_virtual W23 B (y := ⟨"java/lang/String", "length", "()I"⟩) (z := ⟨"java/lang/String", "length", "()I"⟩) d_law_61 (wd hw 165 rfl) (wd hw 59 rfl) (nf_sel (wd hw 61 rfl)) (wd hw 61 rfl) (wd hw 60 rfl) (wd hw 6 rfl) (wd hw 62 rfl) (by decide) Sq.1 pd___I154 (argsL := []) rfl rfl rfl (Wt := 0) (Nat.le_of_eq rfl) (slen_met hw Sq) (by decide) (by decide) (by decide) (by decide) ?_
  intro T25 h26 F27 v28 W29 Q30
  obtain ⟨rfl, rfl, rfl⟩ := Q30
  show G E x T25 (fr x 64 #[.val (.int p0), .val (.int p1), .val (.int p2), .val (.int (mkcs p0).length.toInt32), .val (.int (mkcs p1).length.toInt32), .val (.int (mkcs p2).length.toInt32), .val (.ref s0), .val (.ref s1), .val (.ref s2), .val (.ref q)] [(.int (named p0 p1 p2).length.toInt32)])
  refine w_iloadN W29 B d_law_64 rfl ?_
  refine w_iload W29 B d_law_65 rfl ?_
  refine w_iadd W29 B d_law_67 ?_
  refine w_iload W29 B d_law_68 rfl ?_
  refine w_iadd W29 B d_law_70 ?_
  refine w_iconst W29 B d_law_71 (v := (2 : Int32)) rfl ?_
  refine w_iadd W29 B d_law_72 ?_
  refine w_icmp_eq W29 B d_law_73 (fun _ => ?_) (fun q => q (by rw [named_len, ← n_add, ← n_add, ← n_add]; rfl) |>.elim)
  show G E x T25 (fr x 78 #[.val (.int p0), .val (.int p1), .val (.int p2), .val (.int (mkcs p0).length.toInt32), .val (.int (mkcs p1).length.toInt32), .val (.int (mkcs p2).length.toInt32), .val (.ref s0), .val (.ref s1), .val (.ref s2), .val (.ref q)] [])
  refine w_aload W29 B d_law_78 rfl rfl ?_
  refine w_iconst W29 B d_law_80 (v := (0 : Int32)) rfl ?_
  refine w_iloadN W29 B d_law_81 rfl ?_
  refine w_iloadN W29 B d_law_82 rfl ?_
  refine w_static W29 B (y := ⟨"com/example/wakeline/index/IndexNamesForTablePinLaw", "seg", "(Ljava/lang/String;III)Z"⟩) d_law_83 (wd hw 166 rfl) (wd hw 167 rfl) (wd hw 2 rfl) (wd hw 168 rfl) (by decide) pd__Ljava_lang_String_III_Z92 (argsL := [(.ref q), (.int (0 : Int32)), (.int (mkcs p0).length.toInt32), (.int p0)]) rfl rfl rfl (Wt := 0) (Nat.le_of_eq rfl) (seg_met hw (p := 0) (l := (mkcs p0).length) Sq (rng_ch (rng_low (joined_rng _ _ _))) (rng_lat (rng_low (joined_rng _ _ _))) hN (mkcs_le _) (by rw [named_len]; omega) (fun j hj => named_a p0 p1 p2 hj)) (by decide) (by decide) (by decide) (by decide) ?_
  intro T31 h32 F33 v34 W35 Q36
  obtain ⟨rfl, rfl, rfl⟩ := Q36
  show G E x T31 (fr x 86 #[.val (.int p0), .val (.int p1), .val (.int p2), .val (.int (mkcs p0).length.toInt32), .val (.int (mkcs p1).length.toInt32), .val (.int (mkcs p2).length.toInt32), .val (.ref s0), .val (.ref s1), .val (.ref s2), .val (.ref q)] [(.int (1 : Int32))])
  refine w_if_ne W35 B d_law_86 (fun _ => ?_) (fun q => absurd q (by decide))
  show G E x T31 (fr x 91 #[.val (.int p0), .val (.int p1), .val (.int p2), .val (.int (mkcs p0).length.toInt32), .val (.int (mkcs p1).length.toInt32), .val (.int (mkcs p2).length.toInt32), .val (.ref s0), .val (.ref s1), .val (.ref s2), .val (.ref q)] [])
  refine w_aload W35 B d_law_91 rfl rfl ?_
  refine w_iloadN W35 B d_law_93 rfl ?_
  refine w_virtual W35 B (y := ⟨"java/lang/String", "charAt", "(I)C"⟩) (z := ⟨"java/lang/String", "charAt", "(I)C"⟩) d_law_94 (wd hw 169 rfl) (wd hw 170 rfl) (nf_sel (wd hw 172 rfl)) (wd hw 172 rfl) (wd hw 171 rfl) (wd hw 6 rfl) (wd hw 173 rfl) (by decide) Sq.1 pd__I_C221 (argsL := [(.int (mkcs p0).length.toInt32)]) rfl rfl rfl (Wt := 0) (Nat.le_of_eq rfl) (sca_met hw (i := (mkcs p0).length) Sq (rng_ch (rng_low (joined_rng _ _ _))) (rng_lat (rng_low (joined_rng _ _ _))) hN (by rw [named_len]; omega)) (by decide) (by decide) (by decide) (by decide) ?_
  intro T37 h38 F39 v40 W41 Q42
  obtain ⟨rfl, rfl, rfl⟩ := Q42
  show G E x T37 (fr x 97 #[.val (.int p0), .val (.int p1), .val (.int p2), .val (.int (mkcs p0).length.toInt32), .val (.int (mkcs p1).length.toInt32), .val (.int (mkcs p2).length.toInt32), .val (.ref s0), .val (.ref s1), .val (.ref s2), .val (.ref q)] [(.int ((named p0 p1 p2).getD ((mkcs p0).length) 0))])
  refine w_bipush W41 B d_law_97 (v := (46 : Int32)) rfl ?_
  refine w_icmp_eq W41 B d_law_99 (fun _ => ?_) (fun q => q (named_d1 p0 p1 p2) |>.elim)
  show G E x T37 (fr x 104 #[.val (.int p0), .val (.int p1), .val (.int p2), .val (.int (mkcs p0).length.toInt32), .val (.int (mkcs p1).length.toInt32), .val (.int (mkcs p2).length.toInt32), .val (.ref s0), .val (.ref s1), .val (.ref s2), .val (.ref q)] [])
  refine w_aload W41 B d_law_104 rfl rfl ?_
  refine w_iloadN W41 B d_law_106 rfl ?_
  refine w_iconst W41 B d_law_107 (v := (1 : Int32)) rfl ?_
  refine w_iadd W41 B d_law_108 ?_
  rw [show (mkcs p0).length.toInt32 + (1 : Int32) = ((mkcs p0).length + 1).toInt32 from n_add _ _]
  show G E x T37 (fr x 109 #[.val (.int p0), .val (.int p1), .val (.int p2), .val (.int (mkcs p0).length.toInt32), .val (.int (mkcs p1).length.toInt32), .val (.int (mkcs p2).length.toInt32), .val (.ref s0), .val (.ref s1), .val (.ref s2), .val (.ref q)] [(.int ((mkcs p0).length + 1).toInt32), (.ref q)])
  refine w_iload W41 B d_law_109 rfl ?_
  refine w_iloadN W41 B d_law_111 rfl ?_
  refine w_static W41 B (y := ⟨"com/example/wakeline/index/IndexNamesForTablePinLaw", "seg", "(Ljava/lang/String;III)Z"⟩) d_law_112 (wd hw 166 rfl) (wd hw 167 rfl) (wd hw 2 rfl) (wd hw 168 rfl) (by decide) pd__Ljava_lang_String_III_Z92 (argsL := [(.ref q), (.int ((mkcs p0).length + 1).toInt32), (.int (mkcs p1).length.toInt32), (.int p1)]) rfl rfl rfl (Wt := 0) (Nat.le_of_eq rfl) (seg_met hw (p := (mkcs p0).length + 1) (l := (mkcs p1).length) Sq (rng_ch (rng_low (joined_rng _ _ _))) (rng_lat (rng_low (joined_rng _ _ _))) hN (mkcs_le _) (by rw [named_len]; omega) (fun j hj => named_b p0 p1 p2 hj)) (by decide) (by decide) (by decide) (by decide) ?_
  intro T43 h44 F45 v46 W47 Q48
  obtain ⟨rfl, rfl, rfl⟩ := Q48
  show G E x T43 (fr x 115 #[.val (.int p0), .val (.int p1), .val (.int p2), .val (.int (mkcs p0).length.toInt32), .val (.int (mkcs p1).length.toInt32), .val (.int (mkcs p2).length.toInt32), .val (.ref s0), .val (.ref s1), .val (.ref s2), .val (.ref q)] [(.int (1 : Int32))])
  refine w_if_ne W47 B d_law_115 (fun _ => ?_) (fun q => absurd q (by decide))
  show G E x T43 (fr x 120 #[.val (.int p0), .val (.int p1), .val (.int p2), .val (.int (mkcs p0).length.toInt32), .val (.int (mkcs p1).length.toInt32), .val (.int (mkcs p2).length.toInt32), .val (.ref s0), .val (.ref s1), .val (.ref s2), .val (.ref q)] [])
  refine w_aload W47 B d_law_120 rfl rfl ?_
  refine w_iloadN W47 B d_law_122 rfl ?_
  refine w_iconst W47 B d_law_123 (v := (1 : Int32)) rfl ?_
  refine w_iadd W47 B d_law_124 ?_
  rw [show (mkcs p0).length.toInt32 + (1 : Int32) = ((mkcs p0).length + 1).toInt32 from n_add _ _]
  show G E x T43 (fr x 125 #[.val (.int p0), .val (.int p1), .val (.int p2), .val (.int (mkcs p0).length.toInt32), .val (.int (mkcs p1).length.toInt32), .val (.int (mkcs p2).length.toInt32), .val (.ref s0), .val (.ref s1), .val (.ref s2), .val (.ref q)] [(.int ((mkcs p0).length + 1).toInt32), (.ref q)])
  refine w_iload W47 B d_law_125 rfl ?_
  refine w_iadd W47 B d_law_127 ?_
  rw [show ((mkcs p0).length + 1).toInt32 + (mkcs p1).length.toInt32 = ((mkcs p0).length + 1 + (mkcs p1).length).toInt32 from n_add _ _]
  show G E x T43 (fr x 128 #[.val (.int p0), .val (.int p1), .val (.int p2), .val (.int (mkcs p0).length.toInt32), .val (.int (mkcs p1).length.toInt32), .val (.int (mkcs p2).length.toInt32), .val (.ref s0), .val (.ref s1), .val (.ref s2), .val (.ref q)] [(.int ((mkcs p0).length + 1 + (mkcs p1).length).toInt32), (.ref q)])
  refine w_virtual W47 B (y := ⟨"java/lang/String", "charAt", "(I)C"⟩) (z := ⟨"java/lang/String", "charAt", "(I)C"⟩) d_law_128 (wd hw 169 rfl) (wd hw 170 rfl) (nf_sel (wd hw 172 rfl)) (wd hw 172 rfl) (wd hw 171 rfl) (wd hw 6 rfl) (wd hw 173 rfl) (by decide) Sq.1 pd__I_C221 (argsL := [(.int ((mkcs p0).length + 1 + (mkcs p1).length).toInt32)]) rfl rfl rfl (Wt := 0) (Nat.le_of_eq rfl) (sca_met hw (i := (mkcs p0).length + 1 + (mkcs p1).length) Sq (rng_ch (rng_low (joined_rng _ _ _))) (rng_lat (rng_low (joined_rng _ _ _))) hN (by rw [named_len]; omega)) (by decide) (by decide) (by decide) (by decide) ?_
  intro T49 h50 F51 v52 W53 Q54
  obtain ⟨rfl, rfl, rfl⟩ := Q54
  show G E x T49 (fr x 131 #[.val (.int p0), .val (.int p1), .val (.int p2), .val (.int (mkcs p0).length.toInt32), .val (.int (mkcs p1).length.toInt32), .val (.int (mkcs p2).length.toInt32), .val (.ref s0), .val (.ref s1), .val (.ref s2), .val (.ref q)] [(.int ((named p0 p1 p2).getD ((mkcs p0).length + 1 + (mkcs p1).length) 0))])
  refine w_bipush W53 B d_law_131 (v := (46 : Int32)) rfl ?_
  refine w_icmp_eq W53 B d_law_133 (fun _ => ?_) (fun q => q (named_d2 p0 p1 p2) |>.elim)
  show G E x T49 (fr x 138 #[.val (.int p0), .val (.int p1), .val (.int p2), .val (.int (mkcs p0).length.toInt32), .val (.int (mkcs p1).length.toInt32), .val (.int (mkcs p2).length.toInt32), .val (.ref s0), .val (.ref s1), .val (.ref s2), .val (.ref q)] [])
  refine w_aload W53 B d_law_138 rfl rfl ?_
  refine w_iloadN W53 B d_law_140 rfl ?_
  refine w_iload W53 B d_law_141 rfl ?_
  refine w_iadd W53 B d_law_143 ?_
  rw [show (mkcs p0).length.toInt32 + (mkcs p1).length.toInt32 = ((mkcs p0).length + (mkcs p1).length).toInt32 from n_add _ _]
  show G E x T49 (fr x 144 #[.val (.int p0), .val (.int p1), .val (.int p2), .val (.int (mkcs p0).length.toInt32), .val (.int (mkcs p1).length.toInt32), .val (.int (mkcs p2).length.toInt32), .val (.ref s0), .val (.ref s1), .val (.ref s2), .val (.ref q)] [(.int ((mkcs p0).length + (mkcs p1).length).toInt32), (.ref q)])
  refine w_iconst W53 B d_law_144 (v := (2 : Int32)) rfl ?_
  refine w_iadd W53 B d_law_145 ?_
  rw [show ((mkcs p0).length + (mkcs p1).length).toInt32 + (2 : Int32) = ((mkcs p0).length + (mkcs p1).length + 2).toInt32 from n_add _ _]
  show G E x T49 (fr x 146 #[.val (.int p0), .val (.int p1), .val (.int p2), .val (.int (mkcs p0).length.toInt32), .val (.int (mkcs p1).length.toInt32), .val (.int (mkcs p2).length.toInt32), .val (.ref s0), .val (.ref s1), .val (.ref s2), .val (.ref q)] [(.int ((mkcs p0).length + (mkcs p1).length + 2).toInt32), (.ref q)])
  refine w_iload W53 B d_law_146 rfl ?_
  refine w_iloadN W53 B d_law_148 rfl ?_
  refine w_static W53 B (y := ⟨"com/example/wakeline/index/IndexNamesForTablePinLaw", "seg", "(Ljava/lang/String;III)Z"⟩) d_law_149 (wd hw 166 rfl) (wd hw 167 rfl) (wd hw 2 rfl) (wd hw 168 rfl) (by decide) pd__Ljava_lang_String_III_Z92 (argsL := [(.ref q), (.int ((mkcs p0).length + (mkcs p1).length + 2).toInt32), (.int (mkcs p2).length.toInt32), (.int p2)]) rfl rfl rfl (Wt := 0) (Nat.le_of_eq rfl) (seg_met hw (p := (mkcs p0).length + (mkcs p1).length + 2) (l := (mkcs p2).length) Sq (rng_ch (rng_low (joined_rng _ _ _))) (rng_lat (rng_low (joined_rng _ _ _))) hN (mkcs_le _) (by rw [named_len]; omega) (fun j hj => named_c p0 p1 p2 hj)) (by decide) (by decide) (by decide) (by decide) ?_
  intro T55 h56 F57 v58 W59 Q60
  obtain ⟨rfl, rfl, rfl⟩ := Q60
  show G E x T55 (fr x 152 #[.val (.int p0), .val (.int p1), .val (.int p2), .val (.int (mkcs p0).length.toInt32), .val (.int (mkcs p1).length.toInt32), .val (.int (mkcs p2).length.toInt32), .val (.ref s0), .val (.ref s1), .val (.ref s2), .val (.ref q)] [(.int (1 : Int32))])
  exact w_ireturnN W59 B d_law_152 (Or.inl rfl) (u := 1) rfl hQ (by decide) (by decide) (F' := []) (fun _ q => nomatch q) rfl
set_option maxRecDepth 65536 in
set_option maxHeartbeats 4000000 in
theorem law_met {E : Gl} (hw : Tb E) {lo bl la lv : Addr} {kl : ClassId} (Lo : LocV E lo bl la lv kl) (Sl : Sta E.Z E.Z.heap "java/util/Locale" "ROOT" "Ljava/util/Locale;" (.ref lo)) {ci : Addr} (Si : Sta E.Z E.Z.heap "java/lang/CharacterDataLatin1" "instance" "Ljava/lang/CharacterDataLatin1;" (.ref ci)) (Xi : Exa E.Z E.Z.heap ci "java/lang/CharacterDataLatin1") (p0 p1 p2 : Int32) (h : Heap) :
    MetT tables_1 E x code maxLocals ret room_1 #[.int p0, .int p1, .int p2] h [] (fun r _ _ => r = some (.int 1)) := by
  refine met_of (by decide +kernel) fun x T hQ B W => ?_
  refine G.cast (g' := fr x 0 #[.val (.int p0), .val (.int p1), .val (.int p2), .unset, .unset, .unset, .unset, .unset, .unset, .unset] []) (by simp [entryFrame, mkF, argsToLocals, Own.cat_i, Own.cat_j, maxLocals]) ?_
  exact law_body hw Lo Sl Si Xi hQ B W
theorem arv_empty {E : Gl} {t : Term} {de : Addr} {cd : Cell} (A : Arr E.Z E.Z.heap de cd .byte) (e : t.eval E.a E.Z none [] E.Z = some (.ref de)) (hl : (Jvm.Cond.eq (.length t) (.int 0)).value E.a E.Z none E.Z [] = some true) : Arv E.Z E.Z.heap de cd.cls .byte 0 [] (.int 0) := by
  obtain ⟨z1, z2⟩ := len_of_eq A e hl
  have h0 : cd.slots.size = 0 := by
    have q : cd.slots.size.toInt32.toInt = (0 : Int32).toInt := by rw [z2]
    rw [n_int z1] at q; simpa using q
  exact ⟨cd, A, rfl, by rw [h0]; rfl, by decide, fun k hk => absurd hk (by omega), fun k hk => absurd hk (by omega)⟩
set_option maxRecDepth 65536 in
set_option maxHeartbeats 4000000 in
theorem comes_1 {Post : Tables → Env → Array Value → State → Outcome → State → Prop} (hpost : ∀ tb e args s v u, (limb_1_1.after args s (.returned v) u = true ∧ limb_1_2.after args s (.returned v) u = true ∧ True) → FramedW s (.returned v) u (Jvm.fieldLocs frame_1_writes args s ++ Jvm.arrayLocs frame_1_arrays args s ++ Jvm.staticLocs frame_1_statics s) 48 5376 → Post tb e args s (.returned v) u) :
    ArmFor flags0 classFile x code maxLocals ret World_1 tables_1 room_1 Calls_1 rest_1 Pre_1 Post := by
  intro l hfl _ _ p e ha hc hk s m args below hf hA hF happ hP
  obtain ⟨hcalls, hrest, hpre⟩ := hP
  obtain ⟨-, -, -, hnamed, -, -, -, hat⟩ := (Spec.applies_iff hf).mp happ
  obtain ⟨hg, hn⟩ := and_e (Cond.before_iff.mp (show (Jvm.Cond.and given_1 narrow_1).before args s = true from hpre))
  obtain ⟨hg0, g0⟩ := and_e hg
  obtain ⟨k0, g1⟩ := and_e g0
  obtain ⟨k1, g2⟩ := and_e g1
  have k2 := g2
  obtain ⟨w0, w1, w2, rfl⟩ : ∃ w0 w1 w2 : Value, args = #[w0, w1, w2] := by
    have hs : args.size = 3 := by simpa [Cond.value, given_1] using hg0
    obtain ⟨L⟩ := args
    match L, hs with
    | [w0, w1, w2], _ => exact ⟨w0, w1, w2, rfl⟩
  obtain ⟨p0, e0⟩ := is_v k0
  obtain rfl : w0 = (.int p0) := Option.some.inj e0
  obtain ⟨p1, e1⟩ := is_v k1
  obtain rfl : w1 = (.int p1) := Option.some.inj e1
  obtain ⟨p2, e2⟩ := is_v k2
  obtain rfl : w2 = (.int p2) := Option.some.inj e2
  have hw0 := fun d (hd : d ∈ tables_1) => atoms_spec (ws := Jvm.Cond.code x code maxLocals ret :: tables_1) hat d (List.mem_cons_of_mem _ hd)
  obtain ⟨hsets, hown0⟩ := atoms_of _ (rest_1_c_eq ▸ (show rest_1_c.before _ s = true from hrest))
  have hfit : Fit s := fun {y c} hc i hi => by
    obtain ⟨ha, rfl⟩ := Array.getElem?_eq_some_iff.mp hc
    have q := List.all_eq_true.mp ((Array.all_eq_true_iff_forall_mem.mp hF) _ (Array.getElem_mem ha)) i (List.mem_range.mpr hi)
    simpa [Array.getElem?_eq_getElem hi] using q
  let E : Gl := (l, s, #[(.int p0), (.int p1), (.int p2)], s.heap.size, true, consts_1)
  have hw : Tb E := ⟨hw0, hsets, rfl, rfl⟩
  have hEW : EW E.Z E.a E.K := (EW.cons (text := ".") (wd hw 96 rfl) (by decide) (EW.cons (text := "") (wd hw 18 rfl) (by decide) (EW.cons (text := "tr") (wd hw 213 rfl) (by decide) (EW.cons (text := "az") (wd hw 214 rfl) (by decide) (EW.cons (text := "lt") (wd hw 215 rfl) (by decide) EW.nil)))))
  have hCH : CHv E.Z E.K E.Z.vm E.Z.heap := CHv.start hEW hcalls.1 (sd hw 2 rfl) (wd hw 19 rfl) (wd hw 5 rfl)
  obtain ⟨lo, e1⟩ := exa_v (Cond.before_iff.mp (sd hw 11 rfl))
  obtain ⟨bl, e2⟩ := exa_v (Cond.before_iff.mp (sd hw 12 rfl))
  obtain ⟨la, e3⟩ := exa_v (Cond.before_iff.mp (sd hw 13 rfl))
  obtain ⟨lv, e4⟩ := arr_v (Cond.before_iff.mp (sd hw 15 rfl))
  obtain ⟨cl, Al⟩ := Arr.start e4 (Cond.before_iff.mp (sd hw 15 rfl))
  have Sl : Sta E.Z E.Z.heap "java/util/Locale" "ROOT" "Ljava/util/Locale;" (.ref lo) := Sta.start e1 (Or.inl (sd hw 10 rfl))
  have Lo : LocV E lo bl la lv cl.cls := ⟨Exa.start e1 (Cond.before_iff.mp (sd hw 11 rfl)), fld_of e1 e2, Exa.start e2 (Cond.before_iff.mp (sd hw 12 rfl)), fld_of e2 e3, fld_of e3 e4, arv_empty Al e4 (Cond.before_iff.mp (sd hw 17 rfl))⟩
  obtain ⟨ci, e5⟩ := exa_v (Cond.before_iff.mp (sd hw 20 rfl))
  have Si : Sta E.Z E.Z.heap "java/lang/CharacterDataLatin1" "instance" "Ljava/lang/CharacterDataLatin1;" (.ref ci) := Sta.start e5 (Or.inl (sd hw 19 rfl))
  have Xi := Exa.start e5 (Cond.before_iff.mp (sd hw 20 rfl))
  obtain ⟨n, o, h1, h2, h3, v, L, F', rfl, rfl, N, -, -, -, hq⟩ := law_met hw Lo Sl Si Xi p0 p1 p2 _ p e ha hc hk s m _ below hf ((Spec.applies_iff_loose hf).mp happ).1 ⟨rfl, State.Warmed39.refl s, rfl, Old.start s, hCH, (fun _ q => nomatch q), hEW, (fun q => nomatch q)⟩ trivial
  have hq : ReturnedEndW _ _ _ _ _ _ := hq
  exact ⟨n, _, h1, h2, h3, hpost _ _ _ _ _ _ ⟨Cond.after_iff.mpr rfl, Cond.after_iff.mpr (eq_i res_at (Term.int_eval (1)) rfl), trivial⟩ ⟨hq.1, hq.2.1, hq.2.2.1, hq.2.2.2.sift fun y hy => Or.inr (N y hy)⟩⟩
theorem main_1_1 : Claimed_1_1 := comes_1 fun _ _ _ _ _ _ h hF => ⟨h.1, hF⟩
theorem main_1_2 : Claimed_1_2 := comes_1 fun _ _ _ _ _ _ h hF => ⟨h.2.1, hF⟩
end Jvm.Pilot.@@N@@
namespace Jvm.Pilot.@@N@@
open Jvm Jvm.ClassFile Sem Op Lib Jvm.Free Jvm.Stand Jvm.Pilot.@@N@@.Jvm.D
/-! MADE BY PROGRAM (witnessworld.py) out of the Statement's table words and the real class files: 30 classes; the members and pool entries that the words name. The judged class is class 1, her method 1. -/
namespace start1
open Jvm.ClassFile
def u (s : String) : CpInfo := .utf8 (stringToUtf16 s)
/-- a pool by its gaps: so many unusable entries, then the entry; so many at the end -/
def gap : Nat → List CpInfo → List CpInfo
  | 0, r => r
  | n + 1, r => .unusable :: gap n r
def poolList (es : List (Nat × CpInfo)) (last : Nat) : List CpInfo := es.foldr (fun e r => gap e.1 (e.2 :: r)) (gap last [])
def pool (es : List (Nat × CpInfo)) (last : Nat) : Array CpInfo := ⟨poolList es last⟩
def fileOf (pool : Array CpInfo) (this : Nat) (attrs : Array Attribute := #[]) (ms : Array MethodInfo := #[]) (fl : Nat := 33) (sup : Nat := 0) (ifs : Array Nat := #[]) (fds : Array FieldInfo := #[]) : ClassFile where
  minorVersion := 0
  majorVersion := 65
  constantPool := pool
  accessFlags := fl
  thisClass := this
  superClass := sup
  interfaces := ifs
  fields := fds
  methods := ms
  attributes := attrs
def plain (name : String) (sup : Option ClassId) : Class where
  name := name
  kind := .ordinary
  loader := none
  accessFlags := 33
  super := sup
  interfaces := #[]
  cf := none
  fields := #[]
  methods := #[]
  instanceTypes := #[]
  staticTypes := #[]
  resolved := #[]
  callSites := []
  init := .initialized
  statics := none
  mirror := none

def pool0 : Array CpInfo := pool [(5, u "<init>"), (0, u "()V"), (1, .class_ 10), (1, u "java/lang/Object")] 113

def k0c0 : Code := { maxStack := 0, maxLocals := 1, code := object_method_1_code, exceptionTable := #[], attributes := #[] }
def k0m0 : Method := { name := "<init>", desc := "()V", sig := { parameters := [], returnType := none }, accessFlags := 1, code := some k0c0 }
/-- java/lang/Object -/
def k0 : Class := { plain "java/lang/Object" none with
  accessFlags := 33
  interfaces := #[]
  cf := some (fileOf pool0 8 #[] #[{ accessFlags := 1, nameIndex := 5, descriptorIndex := 6, attributes := #[] }] 33 0 #[] #[])
  fields := #[]
  methods := #[k0m0]
  instanceTypes := #[]
  staticTypes := #[]
  resolved := Array.replicate 124 none
  statics := none }

def pool1 : Array CpInfo := pool [(2, .class_ 4), (1, u "java/lang/Object"), (0, u "<init>"), (0, u "()V"), (0, .methodref 8 9), (0, .class_ 10), (0, .nameAndType 11 12), (0, u "com/example/wakeline/index/IndexNamesForTablePinLaw"), (0, u "mk"), (0, u "(I)Ljava/lang/String;"), (0, .methodref 14 15), (0, .class_ 16), (0, .nameAndType 17 18), (0, u "com/example/wakeline/index/IndexNames"), (0, u "forTable"), (0, u "(Ljava/lang/String;Ljava/lang/String;Ljava/lang/String;)Ljava/lang/String;"), (0, .methodref 20 21), (0, .class_ 22), (0, .nameAndType 23 24), (0, u "java/lang/String"), (0, u "length"), (0, u "()I"), (0, .methodref 8 26), (0, .nameAndType 27 28), (0, u "seg"), (0, u "(Ljava/lang/String;III)Z"), (0, .methodref 20 30), (0, .nameAndType 31 32), (0, u "charAt"), (0, u "(I)C"), (0, .methodref 20 34), (0, .nameAndType 5 35), (0, u "([C)V"), (0, .methodref 8 37), (0, .nameAndType 38 39), (0, u "ch"), (0, u "(II)C"), (0, .methodref 8 41), (0, .nameAndType 42 43), (0, u "low"), (0, u "(C)C"), (2, u "law"), (0, u "(III)Z")] 3

def k1m0 : Method := { name := "<init>", desc := "()V", sig := { parameters := [], returnType := none }, accessFlags := 1, code := none }
def k1c1 : Code := { maxStack := 4, maxLocals := 10, code := code, exceptionTable := #[], attributes := #[] }
def k1m1 : Method := { name := "law", desc := "(III)Z", sig := { parameters := [.int, .int, .int], returnType := some .boolean }, accessFlags := 9, code := some k1c1 }
def k1c2 : Code := { maxStack := 3, maxLocals := 2, code := method_3_code, exceptionTable := #[], attributes := #[] }
def k1m2 : Method := { name := "ch", desc := "(II)C", sig := { parameters := [.int, .int], returnType := some .char }, accessFlags := 10, code := some k1c2 }
def k1c3 : Code := { maxStack := 7, maxLocals := 2, code := method_4_code, exceptionTable := #[], attributes := #[] }
def k1m3 : Method := { name := "mk", desc := "(I)Ljava/lang/String;", sig := { parameters := [.int], returnType := some (.object "java/lang/String") }, accessFlags := 10, code := some k1c3 }
def k1c4 : Code := { maxStack := 2, maxLocals := 1, code := method_5_code, exceptionTable := #[], attributes := #[] }
def k1m4 : Method := { name := "low", desc := "(C)C", sig := { parameters := [.char], returnType := some .char }, accessFlags := 10, code := some k1c4 }
def k1c5 : Code := { maxStack := 3, maxLocals := 4, code := method_6_code, exceptionTable := #[], attributes := #[] }
def k1m5 : Method := { name := "seg", desc := "(Ljava/lang/String;III)Z", sig := { parameters := [(.object "java/lang/String"), .int, .int, .int], returnType := some .boolean }, accessFlags := 10, code := some k1c5 }
/-- com/example/wakeline/index/IndexNamesForTablePinLaw -/
def k1 : Class := { plain "com/example/wakeline/index/IndexNamesForTablePinLaw" (some 0) with
  accessFlags := 49
  interfaces := #[]
  cf := some (fileOf pool1 8 #[] #[{ accessFlags := 1, nameIndex := 5, descriptorIndex := 6, attributes := #[] }, { accessFlags := 9, nameIndex := 46, descriptorIndex := 47, attributes := #[] }, { accessFlags := 10, nameIndex := 38, descriptorIndex := 39, attributes := #[] }, { accessFlags := 10, nameIndex := 11, descriptorIndex := 12, attributes := #[] }, { accessFlags := 10, nameIndex := 42, descriptorIndex := 43, attributes := #[] }, { accessFlags := 10, nameIndex := 27, descriptorIndex := 28, attributes := #[] }] 49 2 #[] #[])
  fields := #[]
  methods := #[k1m0, k1m1, k1m2, k1m3, k1m4, k1m5]
  instanceTypes := #[]
  staticTypes := #[]
  resolved := Array.replicate 51 none
  statics := none }

def pool2 : Array CpInfo := pool [(1, .class_ 2), (0, u "java/io/Serializable"), (0, .class_ 4), (0, u "java/lang/Object")] 2

/-- java/io/Serializable -/
def k2 : Class := { plain "java/io/Serializable" (some 0) with
  accessFlags := 1537
  interfaces := #[]
  cf := some (fileOf pool2 1 #[] #[] 1537 3 #[] #[])
  fields := #[]
  methods := #[]
  instanceTypes := #[]
  staticTypes := #[]
  resolved := Array.replicate 7 none
  statics := none }

def pool3 : Array CpInfo := pool [(1, .class_ 2), (0, u "java/lang/Comparable"), (0, .class_ 4), (0, u "java/lang/Object")] 7

/-- java/lang/Comparable -/
def k3 : Class := { plain "java/lang/Comparable" (some 0) with
  accessFlags := 1537
  interfaces := #[]
  cf := some (fileOf pool3 1 #[] #[] 1537 3 #[] #[])
  fields := #[]
  methods := #[]
  instanceTypes := #[]
  staticTypes := #[]
  resolved := Array.replicate 12 none
  statics := none }

def pool4 : Array CpInfo := pool [(2, .class_ 4), (1, u "java/lang/CharSequence"), (42, .class_ 48), (0, u "java/lang/CharSequence$1CodePointIterator"), (10, .class_ 60), (0, u "java/lang/CharSequence$1CharIterator"), (5, .class_ 67), (0, u "java/lang/Object")] 63

/-- java/lang/CharSequence -/
def k4 : Class := { plain "java/lang/CharSequence" (some 0) with
  accessFlags := 1537
  interfaces := #[]
  cf := some (fileOf pool4 2 #[.nestMembers #[47, 59]] #[] 1537 66 #[] #[])
  fields := #[]
  methods := #[]
  instanceTypes := #[]
  staticTypes := #[]
  resolved := Array.replicate 131 none
  statics := none }

def pool5 : Array CpInfo := pool [(1, .class_ 2), (0, u "java/lang/constant/Constable"), (0, .class_ 4), (0, u "java/lang/Object")] 6

/-- java/lang/constant/Constable -/
def k5 : Class := { plain "java/lang/constant/Constable" (some 0) with
  accessFlags := 1537
  interfaces := #[]
  cf := some (fileOf pool5 1 #[] #[] 1537 3 #[] #[])
  fields := #[]
  methods := #[]
  instanceTypes := #[]
  staticTypes := #[]
  resolved := Array.replicate 11 none
  statics := none }

def pool6 : Array CpInfo := pool [(1, .class_ 2), (0, u "java/lang/constant/ConstantDesc"), (0, .class_ 4), (0, u "java/lang/Object")] 32

/-- java/lang/constant/ConstantDesc -/
def k6 : Class := { plain "java/lang/constant/ConstantDesc" (some 0) with
  accessFlags := 1537
  interfaces := #[]
  cf := some (fileOf pool6 1 #[] #[] 1537 3 #[] #[])
  fields := #[]
  methods := #[]
  instanceTypes := #[]
  staticTypes := #[]
  resolved := Array.replicate 37 none
  statics := none }

def pool7 : Array CpInfo := pool [(1, .methodref 2 3), (0, .class_ 4), (0, .nameAndType 5 6), (0, u "java/lang/Object"), (0, u "<init>"), (0, u "()V"), (0, .string 8), (0, u ""), (0, .fieldref 10 11), (0, .class_ 12), (0, .nameAndType 13 14), (0, u "java/lang/String"), (0, u "value"), (0, u "[B"), (0, .fieldref 10 16), (0, .nameAndType 17 18), (0, u "coder"), (0, u "B"), (2, u "hash"), (0, u "I"), (2, u "hashIsZero"), (0, u "Z"), (0, .methodref 10 28), (0, .nameAndType 5 29), (0, u "([CIILjava/lang/Void;)V"), (8, .fieldref 10 39), (0, .nameAndType 40 26), (0, u "COMPACT_STRINGS"), (1, .class_ 44), (1, u "java/lang/StringUTF16"), (0, u "compress"), (1, .methodref 42 48), (0, .nameAndType 49 50), (0, u "coderFromArrayLen"), (0, u "([BI)B"), (3, .methodref 55 56), (0, .class_ 57), (0, .nameAndType 58 59), (0, u "java/util/Arrays"), (0, u "copyOfRange"), (0, u "([BII)[B"), (47, .class_ 109), (1, u "java/lang/StringLatin1"), (32, u "()Z"), (34, .methodref 42 178), (0, .nameAndType 45 179), (0, u "([CII)[B"), (13, .class_ 195), (1, u "java/lang/System"), (15, u "([BB)V"), (0, .methodref 193 213), (0, .nameAndType 214 215), (0, u "arraycopy"), (0, u "(Ljava/lang/Object;ILjava/lang/Object;II)V"), (118, u "()I"), (0, .methodref 10 336), (0, .nameAndType 17 337), (0, u "()B"), (2, u "()[B"), (22, u "([BI)C"), (27, u "(II)V"), (35, u "(I)C"), (61, .methodref 10 490), (0, .nameAndType 5 491), (0, u "(Ljava/lang/AbstractStringBuilder;Ljava/lang/Void;)V"), (0, .methodref 10 493), (0, .nameAndType 494 142), (0, u "isLatin1"), (0, .methodref 107 496), (0, .nameAndType 497 363), (0, u "charAt"), (3, u "checkIndex"), (4, .nameAndType 507 334), (0, u "length"), (24, u "getBytes"), (16, .methodref 550 506), (0, .class_ 551), (0, u "java/lang/AbstractStringBuilder"), (0, .methodref 550 553), (0, .nameAndType 554 340), (0, u "getValue"), (20, .class_ 576), (0, u "java/lang/CharSequence"), (22, u "CASE_INSENSITIVE_ORDER"), (0, u "Ljava/util/Comparator;"), (220, u "([BIB)V"), (17, .methodref 107 840), (0, .nameAndType 841 842), (0, u "toLowerCase"), (0, u "(Ljava/lang/String;[BLjava/util/Locale;)Ljava/lang/String;"), (9, u "(Ljava/util/Locale;)Ljava/lang/String;"), (157, u "([C)V"), (36, .methodref 550 493), (5, .fieldref 1054 1055), (0, .class_ 1056), (0, .nameAndType 1057 1058), (0, u "jdk/internal/util/Preconditions"), (0, u "SIOOBE_FORMATTER"), (0, u "Ljava/util/function/BiFunction;"), (0, .methodref 1054 1060), (0, .nameAndType 501 1061), (0, u "(IILjava/util/function/BiFunction;)I"), (39, u "serialPersistentFields"), (0, u "[Ljava/io/ObjectStreamField;"), (0, .class_ 1104), (0, u "java/lang/String$CaseInsensitiveComparator"), (1, .class_ 1107), (0, u "java/io/Serializable"), (0, .class_ 1109), (0, u "java/lang/Comparable"), (0, .class_ 1111), (0, u "java/lang/constant/Constable"), (0, .class_ 1113), (0, u "java/lang/constant/ConstantDesc"), (2, u "serialVersionUID"), (0, u "J"), (3, u "REPL"), (0, u "C"), (2, u "LATIN1"), (1, u "UTF16"), (105, u "(Ljava/lang/StringBuilder;)V")] 217

def k7m0 : Method := { name := "<init>", desc := "()V", sig := { parameters := [], returnType := none }, accessFlags := 1, code := none }
def k7c1 : Code := { maxStack := 5, maxLocals := 2, code := jdk_42_method_3_code, exceptionTable := #[], attributes := #[] }
def k7m1 : Method := { name := "<init>", desc := "([C)V", sig := { parameters := [(.array .char)], returnType := none }, accessFlags := 1, code := some k7c1 }
def k7c2 : Code := { maxStack := 3, maxLocals := 2, code := jdk_42_method_53_code, exceptionTable := #[], attributes := #[] }
def k7m2 : Method := { name := "<init>", desc := "(Ljava/lang/StringBuilder;)V", sig := { parameters := [(.object "java/lang/StringBuilder")], returnType := none }, accessFlags := 1, code := some k7c2 }
def k7c3 : Code := { maxStack := 2, maxLocals := 1, code := jdk_42_method_54_code, exceptionTable := #[], attributes := #[] }
def k7m3 : Method := { name := "length", desc := "()I", sig := { parameters := [], returnType := some .int }, accessFlags := 1, code := some k7c3 }
def k7c4 : Code := { maxStack := 2, maxLocals := 2, code := jdk_42_method_56_code, exceptionTable := #[], attributes := #[] }
def k7m4 : Method := { name := "charAt", desc := "(I)C", sig := { parameters := [.int], returnType := some .char }, accessFlags := 1, code := some k7c4 }
def k7c5 : Code := { maxStack := 3, maxLocals := 2, code := jdk_42_method_109_code, exceptionTable := #[], attributes := #[] }
def k7m5 : Method := { name := "toLowerCase", desc := "(Ljava/util/Locale;)Ljava/lang/String;", sig := { parameters := [(.object "java/util/Locale")], returnType := some (.object "java/lang/String") }, accessFlags := 1, code := some k7c5 }
def k7c6 : Code := { maxStack := 5, maxLocals := 4, code := jdk_42_method_147_code, exceptionTable := #[], attributes := #[] }
def k7m6 : Method := { name := "getBytes", desc := "([BIB)V", sig := { parameters := [(.array .byte), .int, .byte], returnType := none }, accessFlags := 0, code := some k7c6 }
def k7c7 : Code := { maxStack := 4, maxLocals := 6, code := jdk_42_method_149_code, exceptionTable := #[], attributes := #[] }
def k7m7 : Method := { name := "<init>", desc := "([CIILjava/lang/Void;)V", sig := { parameters := [(.array .char), .int, .int, (.object "java/lang/Void")], returnType := none }, accessFlags := 2, code := some k7c7 }
def k7c8 : Code := { maxStack := 5, maxLocals := 5, code := jdk_42_method_150_code, exceptionTable := #[], attributes := #[] }
def k7m8 : Method := { name := "<init>", desc := "(Ljava/lang/AbstractStringBuilder;Ljava/lang/Void;)V", sig := { parameters := [(.object "java/lang/AbstractStringBuilder"), (.object "java/lang/Void")], returnType := none }, accessFlags := 0, code := some k7c8 }
def k7c9 : Code := { maxStack := 2, maxLocals := 3, code := jdk_42_method_151_code, exceptionTable := #[], attributes := #[] }
def k7m9 : Method := { name := "<init>", desc := "([BB)V", sig := { parameters := [(.array .byte), .byte], returnType := none }, accessFlags := 0, code := some k7c9 }
def k7c10 : Code := { maxStack := 1, maxLocals := 1, code := jdk_42_method_152_code, exceptionTable := #[], attributes := #[] }
def k7m10 : Method := { name := "coder", desc := "()B", sig := { parameters := [], returnType := some .byte }, accessFlags := 0, code := some k7c10 }
def k7c11 : Code := { maxStack := 1, maxLocals := 1, code := jdk_42_method_154_code, exceptionTable := #[], attributes := #[] }
def k7m11 : Method := { name := "isLatin1", desc := "()Z", sig := { parameters := [], returnType := some .boolean }, accessFlags := 0, code := some k7c11 }
def k7c12 : Code := { maxStack := 3, maxLocals := 2, code := jdk_42_method_155_code, exceptionTable := #[], attributes := #[] }
def k7m12 : Method := { name := "checkIndex", desc := "(II)V", sig := { parameters := [.int, .int], returnType := none }, accessFlags := 8, code := some k7c12 }
/-- java/lang/String -/
def k7 : Class := { plain "java/lang/String" (some 0) with
  accessFlags := 49
  interfaces := #[2, 3, 4, 5, 6]
  cf := some (fileOf pool7 10 #[.nestMembers #[1103]] #[{ accessFlags := 1, nameIndex := 5, descriptorIndex := 6, attributes := #[] }, { accessFlags := 1, nameIndex := 5, descriptorIndex := 1010, attributes := #[] }, { accessFlags := 1, nameIndex := 5, descriptorIndex := 1233, attributes := #[] }, { accessFlags := 1, nameIndex := 507, descriptorIndex := 334, attributes := #[] }, { accessFlags := 1, nameIndex := 497, descriptorIndex := 427, attributes := #[] }, { accessFlags := 1, nameIndex := 841, descriptorIndex := 852, attributes := #[] }, { accessFlags := 0, nameIndex := 532, descriptorIndex := 821, attributes := #[] }, { accessFlags := 2, nameIndex := 5, descriptorIndex := 29, attributes := #[] }, { accessFlags := 0, nameIndex := 5, descriptorIndex := 491, attributes := #[] }, { accessFlags := 0, nameIndex := 5, descriptorIndex := 211, attributes := #[] }, { accessFlags := 0, nameIndex := 17, descriptorIndex := 337, attributes := #[] }, { accessFlags := 0, nameIndex := 494, descriptorIndex := 142, attributes := #[] }, { accessFlags := 8, nameIndex := 501, descriptorIndex := 391, attributes := #[] }] 49 2 #[1106, 1108, 575, 1110, 1112] #[{ accessFlags := 18, nameIndex := 13, descriptorIndex := 14, attributes := #[] }, { accessFlags := 18, nameIndex := 17, descriptorIndex := 18, attributes := #[] }, { accessFlags := 2, nameIndex := 21, descriptorIndex := 22, attributes := #[] }, { accessFlags := 2, nameIndex := 25, descriptorIndex := 26, attributes := #[] }, { accessFlags := 26, nameIndex := 1116, descriptorIndex := 1117, attributes := #[] }, { accessFlags := 24, nameIndex := 40, descriptorIndex := 26, attributes := #[] }, { accessFlags := 26, nameIndex := 1101, descriptorIndex := 1102, attributes := #[] }, { accessFlags := 26, nameIndex := 1121, descriptorIndex := 1122, attributes := #[] }, { accessFlags := 25, nameIndex := 599, descriptorIndex := 600, attributes := #[] }, { accessFlags := 24, nameIndex := 1125, descriptorIndex := 18, attributes := #[] }, { accessFlags := 24, nameIndex := 1127, descriptorIndex := 18, attributes := #[] }])
  fields := #[{ name := "value", type := (.array .byte), accessFlags := 18, slot := 0, constantValue := 0 }, { name := "coder", type := .byte, accessFlags := 18, slot := 1, constantValue := 0 }, { name := "hash", type := .int, accessFlags := 2, slot := 2, constantValue := 0 }, { name := "hashIsZero", type := .boolean, accessFlags := 2, slot := 3, constantValue := 0 }, { name := "serialVersionUID", type := .long, accessFlags := 26, slot := 0, constantValue := 0 }, { name := "COMPACT_STRINGS", type := .boolean, accessFlags := 24, slot := 1, constantValue := 0 }, { name := "serialPersistentFields", type := (.array (.object "java/io/ObjectStreamField")), accessFlags := 26, slot := 2, constantValue := 0 }, { name := "REPL", type := .char, accessFlags := 26, slot := 3, constantValue := 0 }, { name := "CASE_INSENSITIVE_ORDER", type := (.object "java/util/Comparator"), accessFlags := 25, slot := 4, constantValue := 0 }, { name := "LATIN1", type := .byte, accessFlags := 24, slot := 5, constantValue := 0 }, { name := "UTF16", type := .byte, accessFlags := 24, slot := 6, constantValue := 0 }]
  methods := #[k7m0, k7m1, k7m2, k7m3, k7m4, k7m5, k7m6, k7m7, k7m8, k7m9, k7m10, k7m11, k7m12]
  instanceTypes := #[(.array .byte), .byte, .int, .boolean]
  staticTypes := #[.long, .boolean, (.array (.object "java/io/ObjectStreamField")), .char, (.object "java/util/Comparator"), .byte, .byte]
  resolved := Array.replicate 1451 none
  statics := some 0 }

def pool8 : Array CpInfo := pool [(2, .class_ 4), (0, .nameAndType 5 6), (0, u "java/lang/Object"), (0, u "<init>"), (0, u "()V"), (0, .class_ 8), (0, u "java/lang/StringBuilder"), (0, .methodref 7 3), (0, .methodref 7 11), (0, .nameAndType 12 13), (0, u "append"), (0, u "(Ljava/lang/String;)Ljava/lang/StringBuilder;"), (0, .string 15), (0, u "."), (0, .methodref 7 17), (0, .nameAndType 18 19), (0, u "toString"), (0, u "()Ljava/lang/String;"), (0, .fieldref 21 22), (0, .class_ 23), (0, .nameAndType 24 25), (0, u "java/util/Locale"), (0, u "ROOT"), (0, u "Ljava/util/Locale;"), (0, .methodref 27 28), (0, .class_ 29), (0, .nameAndType 30 31), (0, u "java/lang/String"), (0, u "toLowerCase"), (0, u "(Ljava/util/Locale;)Ljava/lang/String;"), (0, .class_ 33), (0, u "com/example/wakeline/index/IndexNames"), (2, u "forTable"), (0, u "(Ljava/lang/String;Ljava/lang/String;Ljava/lang/String;)Ljava/lang/String;")] 2

def k8m0 : Method := { name := "<init>", desc := "()V", sig := { parameters := [], returnType := none }, accessFlags := 2, code := none }
def k8c1 : Code := { maxStack := 2, maxLocals := 3, code := prog_25_method_2_code, exceptionTable := #[], attributes := #[] }
def k8m1 : Method := { name := "forTable", desc := "(Ljava/lang/String;Ljava/lang/String;Ljava/lang/String;)Ljava/lang/String;", sig := { parameters := [(.object "java/lang/String"), (.object "java/lang/String"), (.object "java/lang/String")], returnType := some (.object "java/lang/String") }, accessFlags := 9, code := some k8c1 }
/-- com/example/wakeline/index/IndexNames -/
def k8 : Class := { plain "com/example/wakeline/index/IndexNames" (some 0) with
  accessFlags := 49
  interfaces := #[]
  cf := some (fileOf pool8 32 #[] #[{ accessFlags := 2, nameIndex := 5, descriptorIndex := 6, attributes := #[] }, { accessFlags := 9, nameIndex := 36, descriptorIndex := 37, attributes := #[] }] 49 2 #[] #[])
  fields := #[]
  methods := #[k8m0, k8m1]
  instanceTypes := #[]
  staticTypes := #[]
  resolved := Array.replicate 40 none
  statics := none }

def pool9 : Array CpInfo := pool [(1, .class_ 2), (0, u "java/lang/Appendable"), (0, .class_ 4), (0, u "java/lang/Object")] 9

/-- java/lang/Appendable -/
def k9 : Class := { plain "java/lang/Appendable" (some 0) with
  accessFlags := 1537
  interfaces := #[]
  cf := some (fileOf pool9 1 #[] #[] 1537 3 #[] #[])
  fields := #[]
  methods := #[]
  instanceTypes := #[]
  staticTypes := #[]
  resolved := Array.replicate 14 none
  statics := none }

def pool10 : Array CpInfo := pool [(1, .class_ 2), (0, u "java/lang/String"), (0, .methodref 4 5), (0, .class_ 6), (0, .nameAndType 7 8), (0, u "java/lang/Object"), (0, u "<init>"), (0, u "()V"), (1, .class_ 12), (1, u "java/lang/AbstractStringBuilder"), (0, u "EMPTYVALUE"), (0, u "[B"), (0, .fieldref 10 16), (0, .nameAndType 17 14), (0, u "value"), (0, .fieldref 1 19), (0, .nameAndType 20 21), (0, u "COMPACT_STRINGS"), (0, u "Z"), (0, .fieldref 10 23), (0, .nameAndType 24 25), (0, u "coder"), (0, u "B"), (6, .methodref 1 33), (0, .nameAndType 34 35), (0, u "length"), (0, u "()I"), (4, .methodref 1 41), (0, .nameAndType 24 42), (0, u "()B"), (2, u "append"), (0, u "(Ljava/lang/String;)Ljava/lang/AbstractStringBuilder;"), (1, .class_ 49), (0, u "java/lang/CharSequence"), (19, u "(Ljava/lang/String;)V"), (5, u "maybeLatin1"), (3, .fieldref 10 80), (0, .nameAndType 81 82), (0, u "count"), (0, u "I"), (2, u "isLatin1"), (0, u "()Z"), (13, .methodref 10 101), (0, .nameAndType 102 103), (0, u "ensureCapacityInternal"), (0, u "(I)V"), (104, .methodref 10 209), (0, .nameAndType 210 211), (0, u "putStringAt"), (0, u "(ILjava/lang/String;)V"), (5, u "inflateIfNeededFor"), (2, .nameAndType 221 222), (0, u "getBytes"), (0, u "([BIB)V"), (174, .methodref 10 398), (0, .nameAndType 217 69), (0, .methodref 1 220), (3, u "()[B"), (40, .class_ 445), (0, u "java/lang/Appendable"), (106, u "getValue")] 56

def k10m0 : Method := { name := "<init>", desc := "()V", sig := { parameters := [], returnType := none }, accessFlags := 0, code := none }
def k10c1 : Code := { maxStack := 2, maxLocals := 2, code := jdk_68_method_2_code, exceptionTable := #[], attributes := #[] }
def k10m1 : Method := { name := "<init>", desc := "(I)V", sig := { parameters := [.int], returnType := none }, accessFlags := 0, code := some k10c1 }
def k10c2 : Code := { maxStack := 1, maxLocals := 1, code := jdk_68_method_6_code, exceptionTable := #[], attributes := #[] }
def k10m2 : Method := { name := "length", desc := "()I", sig := { parameters := [], returnType := some .int }, accessFlags := 1, code := some k10c2 }
def k10c3 : Code := { maxStack := 4, maxLocals := 3, code := jdk_68_method_9_code, exceptionTable := #[], attributes := #[] }
def k10m3 : Method := { name := "ensureCapacityInternal", desc := "(I)V", sig := { parameters := [.int], returnType := none }, accessFlags := 2, code := some k10c3 }
def k10c4 : Code := { maxStack := 3, maxLocals := 3, code := jdk_68_method_22_code, exceptionTable := #[], attributes := #[] }
def k10m4 : Method := { name := "append", desc := "(Ljava/lang/String;)Ljava/lang/AbstractStringBuilder;", sig := { parameters := [(.object "java/lang/String")], returnType := some (.object "java/lang/AbstractStringBuilder") }, accessFlags := 1, code := some k10c4 }
def k10c5 : Code := { maxStack := 1, maxLocals := 1, code := jdk_68_method_64_code, exceptionTable := #[], attributes := #[] }
def k10m5 : Method := { name := "getValue", desc := "()[B", sig := { parameters := [], returnType := some (.array .byte) }, accessFlags := 16, code := some k10c5 }
def k10c6 : Code := { maxStack := 1, maxLocals := 1, code := jdk_68_method_68_code, exceptionTable := #[], attributes := #[] }
def k10m6 : Method := { name := "isLatin1", desc := "()Z", sig := { parameters := [], returnType := some .boolean }, accessFlags := 16, code := some k10c6 }
def k10c7 : Code := { maxStack := 2, maxLocals := 2, code := jdk_68_method_71_code, exceptionTable := #[], attributes := #[] }
def k10m7 : Method := { name := "inflateIfNeededFor", desc := "(Ljava/lang/String;)V", sig := { parameters := [(.object "java/lang/String")], returnType := none }, accessFlags := 2, code := some k10c7 }
def k10c8 : Code := { maxStack := 4, maxLocals := 3, code := jdk_68_method_73_code, exceptionTable := #[], attributes := #[] }
def k10m8 : Method := { name := "putStringAt", desc := "(ILjava/lang/String;)V", sig := { parameters := [.int, (.object "java/lang/String")], returnType := none }, accessFlags := 2, code := some k10c8 }
/-- java/lang/AbstractStringBuilder -/
def k10 : Class := { plain "java/lang/AbstractStringBuilder" (some 0) with
  accessFlags := 1056
  interfaces := #[9, 4]
  cf := some (fileOf pool10 10 #[] #[{ accessFlags := 0, nameIndex := 7, descriptorIndex := 8, attributes := #[] }, { accessFlags := 0, nameIndex := 7, descriptorIndex := 103, attributes := #[] }, { accessFlags := 1, nameIndex := 34, descriptorIndex := 35, attributes := #[] }, { accessFlags := 2, nameIndex := 102, descriptorIndex := 103, attributes := #[] }, { accessFlags := 1, nameIndex := 45, descriptorIndex := 46, attributes := #[] }, { accessFlags := 16, nameIndex := 552, descriptorIndex := 403, attributes := #[] }, { accessFlags := 16, nameIndex := 85, descriptorIndex := 86, attributes := #[] }, { accessFlags := 2, nameIndex := 217, descriptorIndex := 69, attributes := #[] }, { accessFlags := 2, nameIndex := 210, descriptorIndex := 211, attributes := #[] }] 1056 4 #[444, 48] #[{ accessFlags := 0, nameIndex := 17, descriptorIndex := 14, attributes := #[] }, { accessFlags := 0, nameIndex := 24, descriptorIndex := 25, attributes := #[] }, { accessFlags := 0, nameIndex := 75, descriptorIndex := 21, attributes := #[] }, { accessFlags := 0, nameIndex := 81, descriptorIndex := 82, attributes := #[] }, { accessFlags := 26, nameIndex := 13, descriptorIndex := 14, attributes := #[] }])
  fields := #[{ name := "value", type := (.array .byte), accessFlags := 0, slot := 0, constantValue := 0 }, { name := "coder", type := .byte, accessFlags := 0, slot := 1, constantValue := 0 }, { name := "maybeLatin1", type := .boolean, accessFlags := 0, slot := 2, constantValue := 0 }, { name := "count", type := .int, accessFlags := 0, slot := 3, constantValue := 0 }, { name := "EMPTYVALUE", type := (.array .byte), accessFlags := 26, slot := 0, constantValue := 0 }]
  methods := #[k10m0, k10m1, k10m2, k10m3, k10m4, k10m5, k10m6, k10m7, k10m8]
  instanceTypes := #[(.array .byte), .byte, .boolean, .int]
  staticTypes := #[(.array .byte)]
  resolved := Array.replicate 609 none
  statics := none }

def pool11 : Array CpInfo := pool [(1, .methodref 2 3), (0, .class_ 4), (0, .nameAndType 5 6), (0, u "java/lang/AbstractStringBuilder"), (0, u "<init>"), (0, u "(I)V"), (11, .class_ 20), (1, u "java/lang/String"), (3, .class_ 26), (1, u "java/lang/StringBuilder"), (0, u "append"), (0, u "(Ljava/lang/String;)Ljava/lang/StringBuilder;"), (0, .methodref 2 30), (0, .nameAndType 27 31), (0, u "(Ljava/lang/String;)Ljava/lang/AbstractStringBuilder;"), (105, .methodref 18 138), (0, .nameAndType 5 139), (0, u "(Ljava/lang/StringBuilder;)V"), (5, u "()V"), (10, u "()I"), (186, .methodref 2 344), (0, .nameAndType 345 156), (0, u "length"), (3, .class_ 350), (0, u "java/lang/Appendable"), (0, .class_ 352), (0, u "java/io/Serializable"), (0, .class_ 354), (0, u "java/lang/Comparable"), (0, .class_ 356), (0, u "java/lang/CharSequence"), (0, u "serialVersionUID"), (0, u "J"), (40, u "toString"), (0, u "()Ljava/lang/String;")] 21

def k11c0 : Code := { maxStack := 2, maxLocals := 1, code := jdk_67_method_1_code, exceptionTable := #[], attributes := #[] }
def k11m0 : Method := { name := "<init>", desc := "()V", sig := { parameters := [], returnType := none }, accessFlags := 1, code := some k11c0 }
def k11c1 : Code := { maxStack := 2, maxLocals := 2, code := jdk_67_method_7_code, exceptionTable := #[], attributes := #[] }
def k11m1 : Method := { name := "append", desc := "(Ljava/lang/String;)Ljava/lang/StringBuilder;", sig := { parameters := [(.object "java/lang/String")], returnType := some (.object "java/lang/StringBuilder") }, accessFlags := 1, code := some k11c1 }
def k11c2 : Code := { maxStack := 3, maxLocals := 1, code := jdk_67_method_42_code, exceptionTable := #[], attributes := #[] }
def k11m2 : Method := { name := "toString", desc := "()Ljava/lang/String;", sig := { parameters := [], returnType := some (.object "java/lang/String") }, accessFlags := 1, code := some k11c2 }
def k11c3 : Code := { maxStack := 1, maxLocals := 1, code := jdk_67_method_93_code, exceptionTable := #[], attributes := #[] }
def k11m3 : Method := { name := "length", desc := "()I", sig := { parameters := [], returnType := some .int }, accessFlags := 4161, code := some k11c3 }
/-- java/lang/StringBuilder -/
def k11 : Class := { plain "java/lang/StringBuilder" (some 10) with
  accessFlags := 49
  interfaces := #[9, 2, 3, 4]
  cf := some (fileOf pool11 24 #[] #[{ accessFlags := 1, nameIndex := 5, descriptorIndex := 145, attributes := #[] }, { accessFlags := 1, nameIndex := 27, descriptorIndex := 28, attributes := #[] }, { accessFlags := 1, nameIndex := 399, descriptorIndex := 400, attributes := #[] }, { accessFlags := 4161, nameIndex := 345, descriptorIndex := 156, attributes := #[] }] 49 2 #[349, 351, 353, 355] #[{ accessFlags := 24, nameIndex := 357, descriptorIndex := 358, attributes := #[] }])
  fields := #[{ name := "serialVersionUID", type := .long, accessFlags := 24, slot := 0, constantValue := 0 }]
  methods := #[k11m0, k11m1, k11m2, k11m3]
  instanceTypes := #[(.array .byte), .byte, .boolean, .int]
  staticTypes := #[.long]
  resolved := Array.replicate 422 none
  statics := none }

def pool12 : Array CpInfo := pool [(2, .class_ 4), (1, u "java/lang/Object"), (0, u "<init>"), (0, u "()V"), (1, .class_ 10), (1, u "java/lang/System"), (0, u "allowSecurityManager"), (0, u "I"), (16, u "cons"), (0, u "Ljava/io/Console;"), (77, .class_ 110), (1, u "java/lang/System$CallersHolder"), (43, u "initialErrStream"), (0, u "Ljava/io/PrintStream;"), (19, u "security"), (0, u "Ljava/lang/SecurityManager;"), (31, .class_ 209), (0, u "java/lang/System$1"), (7, u "props"), (0, u "Ljava/util/Properties;"), (2, u "lineSeparator"), (0, u "Ljava/lang/String;"), (96, .class_ 321), (1, u "java/lang/System$LoggerFinder"), (5, .class_ 328), (0, u "java/lang/System$Logger"), (67, u "err"), (2, u "out"), (91, u "notSupportedJnuEncoding"), (15, u "in"), (17, u "initialIn"), (0, u "Ljava/io/InputStream;"), (35, u "bootLayer"), (0, u "Ljava/lang/ModuleLayer;"), (99, .class_ 664), (0, u "java/lang/System$2"), (9, u "NEVER"), (2, u "MAYBE"), (49, u "arraycopy"), (0, u "(Ljava/lang/Object;ILjava/lang/Object;II)V"), (72, .class_ 802), (0, u "java/lang/System$Logger$Level")] 31

def k12m0 : Method := { name := "<init>", desc := "()V", sig := { parameters := [], returnType := none }, accessFlags := 2, code := none }
def k12m1 : Method := { name := "arraycopy", desc := "(Ljava/lang/Object;ILjava/lang/Object;II)V", sig := { parameters := [(.object "java/lang/Object"), .int, (.object "java/lang/Object"), .int, .int], returnType := none }, accessFlags := 265, code := none }
/-- java/lang/System -/
def k12 : Class := { plain "java/lang/System" (some 0) with
  accessFlags := 49
  interfaces := #[]
  cf := some (fileOf pool12 8 #[.nestMembers #[319, 327, 801, 108, 663, 208]] #[{ accessFlags := 2, nameIndex := 5, descriptorIndex := 6, attributes := #[] }, { accessFlags := 265, nameIndex := 727, descriptorIndex := 728, attributes := #[] }] 49 2 #[] #[{ accessFlags := 25, nameIndex := 507, descriptorIndex := 526, attributes := #[] }, { accessFlags := 25, nameIndex := 399, descriptorIndex := 155, attributes := #[] }, { accessFlags := 25, nameIndex := 396, descriptorIndex := 155, attributes := #[] }, { accessFlags := 10, nameIndex := 525, descriptorIndex := 526, attributes := #[] }, { accessFlags := 26, nameIndex := 674, descriptorIndex := 12, attributes := #[] }, { accessFlags := 26, nameIndex := 677, descriptorIndex := 12, attributes := #[] }, { accessFlags := 10, nameIndex := 11, descriptorIndex := 12, attributes := #[] }, { accessFlags := 74, nameIndex := 175, descriptorIndex := 176, attributes := #[] }, { accessFlags := 10, nameIndex := 491, descriptorIndex := 222, attributes := #[] }, { accessFlags := 74, nameIndex := 29, descriptorIndex := 30, attributes := #[] }, { accessFlags := 74, nameIndex := 154, descriptorIndex := 155, attributes := #[] }, { accessFlags := 10, nameIndex := 217, descriptorIndex := 218, attributes := #[] }, { accessFlags := 10, nameIndex := 221, descriptorIndex := 222, attributes := #[] }, { accessFlags := 8, nameIndex := 562, descriptorIndex := 563, attributes := #[] }])
  fields := #[{ name := "in", type := (.object "java/io/InputStream"), accessFlags := 25, slot := 0, constantValue := 0 }, { name := "out", type := (.object "java/io/PrintStream"), accessFlags := 25, slot := 1, constantValue := 0 }, { name := "err", type := (.object "java/io/PrintStream"), accessFlags := 25, slot := 2, constantValue := 0 }, { name := "initialIn", type := (.object "java/io/InputStream"), accessFlags := 10, slot := 3, constantValue := 0 }, { name := "NEVER", type := .int, accessFlags := 26, slot := 4, constantValue := 0 }, { name := "MAYBE", type := .int, accessFlags := 26, slot := 5, constantValue := 0 }, { name := "allowSecurityManager", type := .int, accessFlags := 10, slot := 6, constantValue := 0 }, { name := "security", type := (.object "java/lang/SecurityManager"), accessFlags := 74, slot := 7, constantValue := 0 }, { name := "notSupportedJnuEncoding", type := (.object "java/lang/String"), accessFlags := 10, slot := 8, constantValue := 0 }, { name := "cons", type := (.object "java/io/Console"), accessFlags := 74, slot := 9, constantValue := 0 }, { name := "initialErrStream", type := (.object "java/io/PrintStream"), accessFlags := 74, slot := 10, constantValue := 0 }, { name := "props", type := (.object "java/util/Properties"), accessFlags := 10, slot := 11, constantValue := 0 }, { name := "lineSeparator", type := (.object "java/lang/String"), accessFlags := 10, slot := 12, constantValue := 0 }, { name := "bootLayer", type := (.object "java/lang/ModuleLayer"), accessFlags := 8, slot := 13, constantValue := 0 }]
  methods := #[k12m0, k12m1]
  instanceTypes := #[]
  staticTypes := #[(.object "java/io/InputStream"), (.object "java/io/PrintStream"), (.object "java/io/PrintStream"), (.object "java/io/InputStream"), .int, .int, .int, (.object "java/lang/SecurityManager"), (.object "java/lang/String"), (.object "java/io/Console"), (.object "java/io/PrintStream"), (.object "java/util/Properties"), (.object "java/lang/String"), (.object "java/lang/ModuleLayer")]
  resolved := Array.replicate 834 none
  statics := none }

def pool13 : Array CpInfo := pool [(2, .class_ 4), (1, u "java/lang/Object"), (0, u "<init>"), (0, u "()V"), (7, .class_ 16), (1, u "java/util/Arrays"), (57, .class_ 76), (1, u "java/util/Arrays$NaturalOrder"), (36, .class_ 115), (1, u "java/util/Arrays$LegacyMergeSort"), (1, u "Z"), (21, u "copyOfRange"), (10, .methodref 151 152), (0, .class_ 153), (0, .nameAndType 154 155), (0, u "java/lang/System"), (0, u "arraycopy"), (0, u "(Ljava/lang/Object;ILjava/lang/Object;II)V"), (148, .methodref 305 306), (0, .class_ 307), (0, .nameAndType 308 309), (0, u "java/lang/Math"), (0, u "min"), (0, u "(II)I"), (29, .methodref 14 340), (0, .nameAndType 341 342), (0, u "copyOfRangeByte"), (0, u "([BII)[B"), (0, .methodref 14 344), (0, .nameAndType 345 346), (0, u "checkLength"), (0, u "(II)V"), (28, .class_ 376), (0, u "java/util/Arrays$ArrayList"), (68, u "$assertionsDisabled"), (269, u "MIN_ARRAY_SORT_GRAN"), (0, u "I"), (2, u "INSERTIONSORT_THRESHOLD"), (255, .class_ 976), (0, u "java/util/Arrays$ArrayItr")] 52

def k13m0 : Method := { name := "<init>", desc := "()V", sig := { parameters := [], returnType := none }, accessFlags := 2, code := none }
def k13c1 : Code := { maxStack := 4, maxLocals := 2, code := jdk_65_method_131_code, exceptionTable := #[], attributes := #[] }
def k13m1 : Method := { name := "checkLength", desc := "(II)V", sig := { parameters := [.int, .int], returnType := none }, accessFlags := 10, code := some k13c1 }
def k13c2 : Code := { maxStack := 3, maxLocals := 3, code := jdk_65_method_132_code, exceptionTable := #[], attributes := #[] }
def k13m2 : Method := { name := "copyOfRange", desc := "([BII)[B", sig := { parameters := [(.array .byte), .int, .int], returnType := some (.array .byte) }, accessFlags := 9, code := some k13c2 }
def k13c3 : Code := { maxStack := 6, maxLocals := 5, code := jdk_65_method_133_code, exceptionTable := #[], attributes := #[] }
def k13m3 : Method := { name := "copyOfRangeByte", desc := "([BII)[B", sig := { parameters := [(.array .byte), .int, .int], returnType := some (.array .byte) }, accessFlags := 10, code := some k13c3 }
/-- java/util/Arrays -/
def k13 : Class := { plain "java/util/Arrays" (some 0) with
  accessFlags := 49
  interfaces := #[]
  cf := some (fileOf pool13 14 #[.nestMembers #[975, 375, 113, 74]] #[{ accessFlags := 2, nameIndex := 5, descriptorIndex := 6, attributes := #[] }, { accessFlags := 10, nameIndex := 345, descriptorIndex := 346, attributes := #[] }, { accessFlags := 9, nameIndex := 139, descriptorIndex := 342, attributes := #[] }, { accessFlags := 10, nameIndex := 341, descriptorIndex := 342, attributes := #[] }] 49 2 #[] #[{ accessFlags := 26, nameIndex := 715, descriptorIndex := 716, attributes := #[] }, { accessFlags := 26, nameIndex := 719, descriptorIndex := 716, attributes := #[] }, { accessFlags := 4120, nameIndex := 445, descriptorIndex := 117, attributes := #[] }])
  fields := #[{ name := "MIN_ARRAY_SORT_GRAN", type := .int, accessFlags := 26, slot := 0, constantValue := 0 }, { name := "INSERTIONSORT_THRESHOLD", type := .int, accessFlags := 26, slot := 1, constantValue := 0 }, { name := "$assertionsDisabled", type := .boolean, accessFlags := 4120, slot := 2, constantValue := 0 }]
  methods := #[k13m0, k13m1, k13m2, k13m3]
  instanceTypes := #[]
  staticTypes := #[.int, .int, .boolean]
  resolved := Array.replicate 1029 none
  statics := none }

def pool14 : Array CpInfo := pool [(1, .class_ 2), (0, u "java/lang/Math"), (1, .class_ 6), (1, u "java/lang/Object"), (0, u "<init>"), (0, u "()V"), (89, .class_ 100), (1, u "java/lang/Math$RandomNumberGeneratorHolder"), (71, u "negativeZeroFloatBits"), (0, u "J"), (2, u "negativeZeroDoubleBits"), (24, u "min"), (43, u "$assertionsDisabled"), (0, u "Z"), (88, u "(II)I"), (2, u "twoToTheDoubleScaleDown"), (0, u "D"), (4, u "twoToTheDoubleScaleUp"), (9, u "E"), (3, u "PI"), (2, u "TAU"), (2, u "DEGREES_TO_RADIANS"), (0, u "RADIANS_TO_DEGREES")] 94

def k14m0 : Method := { name := "<init>", desc := "()V", sig := { parameters := [], returnType := none }, accessFlags := 2, code := none }
def k14c1 : Code := { maxStack := 2, maxLocals := 2, code := jdk_29_method_69_code, exceptionTable := #[], attributes := #[] }
def k14m1 : Method := { name := "min", desc := "(II)I", sig := { parameters := [.int, .int], returnType := some .int }, accessFlags := 9, code := some k14c1 }
/-- java/lang/Math -/
def k14 : Class := { plain "java/lang/Math" (some 0) with
  accessFlags := 49
  interfaces := #[]
  cf := some (fileOf pool14 1 #[.nestMembers #[98]] #[{ accessFlags := 2, nameIndex := 7, descriptorIndex := 8, attributes := #[] }, { accessFlags := 9, nameIndex := 201, descriptorIndex := 335, attributes := #[] }] 49 4 #[] #[{ accessFlags := 25, nameIndex := 354, descriptorIndex := 339, attributes := #[] }, { accessFlags := 25, nameIndex := 358, descriptorIndex := 339, attributes := #[] }, { accessFlags := 25, nameIndex := 361, descriptorIndex := 339, attributes := #[] }, { accessFlags := 26, nameIndex := 364, descriptorIndex := 339, attributes := #[] }, { accessFlags := 26, nameIndex := 365, descriptorIndex := 339, attributes := #[] }, { accessFlags := 26, nameIndex := 172, descriptorIndex := 173, attributes := #[] }, { accessFlags := 26, nameIndex := 176, descriptorIndex := 173, attributes := #[] }, { accessFlags := 8, nameIndex := 344, descriptorIndex := 339, attributes := #[] }, { accessFlags := 8, nameIndex := 338, descriptorIndex := 339, attributes := #[] }, { accessFlags := 4120, nameIndex := 245, descriptorIndex := 246, attributes := #[] }])
  fields := #[{ name := "E", type := .double, accessFlags := 25, slot := 0, constantValue := 0 }, { name := "PI", type := .double, accessFlags := 25, slot := 1, constantValue := 0 }, { name := "TAU", type := .double, accessFlags := 25, slot := 2, constantValue := 0 }, { name := "DEGREES_TO_RADIANS", type := .double, accessFlags := 26, slot := 3, constantValue := 0 }, { name := "RADIANS_TO_DEGREES", type := .double, accessFlags := 26, slot := 4, constantValue := 0 }, { name := "negativeZeroFloatBits", type := .long, accessFlags := 26, slot := 5, constantValue := 0 }, { name := "negativeZeroDoubleBits", type := .long, accessFlags := 26, slot := 6, constantValue := 0 }, { name := "twoToTheDoubleScaleUp", type := .double, accessFlags := 8, slot := 7, constantValue := 0 }, { name := "twoToTheDoubleScaleDown", type := .double, accessFlags := 8, slot := 8, constantValue := 0 }, { name := "$assertionsDisabled", type := .boolean, accessFlags := 4120, slot := 9, constantValue := 0 }]
  methods := #[k14m0, k14m1]
  instanceTypes := #[]
  staticTypes := #[.double, .double, .double, .double, .double, .long, .long, .double, .double, .boolean]
  resolved := Array.replicate 460 none
  statics := none }

def pool15 : Array CpInfo := pool [(1, .class_ 2), (0, u "java/lang/Cloneable"), (0, .class_ 4), (0, u "java/lang/Object")] 2

/-- java/lang/Cloneable -/
def k15 : Class := { plain "java/lang/Cloneable" (some 0) with
  accessFlags := 1537
  interfaces := #[]
  cf := some (fileOf pool15 1 #[] #[] 1537 3 #[] #[])
  fields := #[]
  methods := #[]
  instanceTypes := #[]
  staticTypes := #[]
  resolved := Array.replicate 7 none
  statics := none }

def pool16 : Array CpInfo := pool [(2, .class_ 4), (1, u "sun/util/locale/BaseLocale"), (2, .class_ 8), (0, u "java/util/Locale"), (6, u "CONSTANT_LOCALES"), (0, u "Ljava/util/Map;"), (7, .class_ 26), (1, u "java/lang/Object"), (1, .fieldref 7 29), (0, .nameAndType 30 31), (0, u "baseLocale"), (0, u "Lsun/util/locale/BaseLocale;"), (2, u "localeExtensions"), (0, u "Lsun/util/locale/LocaleExtensions;"), (31, .class_ 69), (1, u "java/util/Locale$Cache"), (3, .class_ 74), (0, u "java/util/Locale$LocaleKey"), (3, u "defaultLocale"), (0, u "Ljava/util/Locale;"), (6, .class_ 88), (1, u "java/util/Locale$Category"), (4, u "defaultDisplayLocale"), (6, u "$assertionsDisabled"), (0, u "Z"), (12, u "defaultFormatLocale"), (12, u "Ljava/lang/String;"), (131, u "isoCountries"), (0, u "[Ljava/lang/String;"), (15, .class_ 278), (1, u "java/util/Locale$IsoCountryCode"), (4, u "isoLanguages"), (9, .methodref 2 294), (0, .nameAndType 295 296), (0, u "getLanguage"), (0, u "()Ljava/lang/String;"), (78, u "languageTag"), (114, .class_ 492), (1, u "java/util/Locale$LocaleNameGetter"), (125, u "hashCodeValue"), (0, u "I"), (29, u "ROOT"), (129, .class_ 781), (1, u "java/util/Locale$FilteringMode"), (39, u "ENGLISH"), (2, u "FRENCH"), (2, u "GERMAN"), (2, u "ITALIAN"), (2, u "JAPANESE"), (2, u "KOREAN"), (2, u "CHINESE"), (2, u "SIMPLIFIED_CHINESE"), (2, u "TRADITIONAL_CHINESE"), (2, u "FRANCE"), (2, u "GERMANY"), (2, u "ITALY"), (2, u "JAPAN"), (2, u "KOREA"), (2, u "UK"), (2, u "US"), (2, u "CANADA"), (2, u "CANADA_FRENCH"), (2, u "CHINA"), (2, u "PRC"), (2, u "TAIWAN"), (13, u "serialPersistentFields"), (0, u "[Ljava/io/ObjectStreamField;"), (0, .class_ 898), (0, u "java/lang/Cloneable"), (0, .class_ 900), (0, u "java/io/Serializable"), (2, u "PRIVATE_USE_EXTENSION"), (0, u "C"), (2, u "UNICODE_LOCALE_EXTENSION"), (1, u "serialVersionUID"), (0, u "J"), (2, u "DISPLAY_LANGUAGE"), (1, u "DISPLAY_COUNTRY"), (1, u "DISPLAY_VARIANT"), (1, u "DISPLAY_SCRIPT"), (1, u "DISPLAY_UEXT_KEY"), (1, u "DISPLAY_UEXT_TYPE"), (174, .class_ 1099), (0, u "java/util/Locale$LanguageRange"), (0, .class_ 1101), (0, u "java/util/Locale$Builder"), (0, .class_ 1103), (0, u "java/util/Locale$IsoCountryCode$3"), (0, .class_ 1105), (0, u "java/util/Locale$IsoCountryCode$2"), (0, .class_ 1107), (0, u "java/util/Locale$IsoCountryCode$1")] 46

def k16c0 : Code := { maxStack := 1, maxLocals := 1, code := jdk_2628_method_27_code, exceptionTable := #[], attributes := #[] }
def k16m0 : Method := { name := "getLanguage", desc := "()Ljava/lang/String;", sig := { parameters := [], returnType := some (.object "java/lang/String") }, accessFlags := 1, code := some k16c0 }
/-- java/util/Locale -/
def k16 : Class := { plain "java/util/Locale" (some 0) with
  accessFlags := 49
  interfaces := #[15, 2]
  cf := some (fileOf pool16 7 #[.nestMembers #[1098, 779, 1100, 86, 490, 73, 67, 276, 1102, 1104, 1106]] #[{ accessFlags := 1, nameIndex := 295, descriptorIndex := 296, attributes := #[] }] 49 24 #[897, 899] #[{ accessFlags := 25, nameIndex := 821, descriptorIndex := 79, attributes := #[] }, { accessFlags := 25, nameIndex := 824, descriptorIndex := 79, attributes := #[] }, { accessFlags := 25, nameIndex := 827, descriptorIndex := 79, attributes := #[] }, { accessFlags := 25, nameIndex := 830, descriptorIndex := 79, attributes := #[] }, { accessFlags := 25, nameIndex := 833, descriptorIndex := 79, attributes := #[] }, { accessFlags := 25, nameIndex := 836, descriptorIndex := 79, attributes := #[] }, { accessFlags := 25, nameIndex := 839, descriptorIndex := 79, attributes := #[] }, { accessFlags := 25, nameIndex := 842, descriptorIndex := 79, attributes := #[] }, { accessFlags := 25, nameIndex := 845, descriptorIndex := 79, attributes := #[] }, { accessFlags := 25, nameIndex := 848, descriptorIndex := 79, attributes := #[] }, { accessFlags := 25, nameIndex := 851, descriptorIndex := 79, attributes := #[] }, { accessFlags := 25, nameIndex := 854, descriptorIndex := 79, attributes := #[] }, { accessFlags := 25, nameIndex := 857, descriptorIndex := 79, attributes := #[] }, { accessFlags := 25, nameIndex := 860, descriptorIndex := 79, attributes := #[] }, { accessFlags := 25, nameIndex := 863, descriptorIndex := 79, attributes := #[] }, { accessFlags := 25, nameIndex := 866, descriptorIndex := 79, attributes := #[] }, { accessFlags := 25, nameIndex := 869, descriptorIndex := 79, attributes := #[] }, { accessFlags := 25, nameIndex := 872, descriptorIndex := 79, attributes := #[] }, { accessFlags := 25, nameIndex := 649, descriptorIndex := 79, attributes := #[] }, { accessFlags := 26, nameIndex := 15, descriptorIndex := 16, attributes := #[] }, { accessFlags := 25, nameIndex := 875, descriptorIndex := 79, attributes := #[] }, { accessFlags := 25, nameIndex := 878, descriptorIndex := 79, attributes := #[] }, { accessFlags := 25, nameIndex := 881, descriptorIndex := 79, attributes := #[] }, { accessFlags := 25, nameIndex := 903, descriptorIndex := 904, attributes := #[] }, { accessFlags := 25, nameIndex := 907, descriptorIndex := 904, attributes := #[] }, { accessFlags := 24, nameIndex := 909, descriptorIndex := 910, attributes := #[] }, { accessFlags := 26, nameIndex := 913, descriptorIndex := 619, attributes := #[] }, { accessFlags := 26, nameIndex := 915, descriptorIndex := 619, attributes := #[] }, { accessFlags := 26, nameIndex := 917, descriptorIndex := 619, attributes := #[] }, { accessFlags := 26, nameIndex := 919, descriptorIndex := 619, attributes := #[] }, { accessFlags := 26, nameIndex := 921, descriptorIndex := 619, attributes := #[] }, { accessFlags := 26, nameIndex := 923, descriptorIndex := 619, attributes := #[] }, { accessFlags := 130, nameIndex := 30, descriptorIndex := 31, attributes := #[] }, { accessFlags := 130, nameIndex := 34, descriptorIndex := 35, attributes := #[] }, { accessFlags := 130, nameIndex := 618, descriptorIndex := 619, attributes := #[] }, { accessFlags := 74, nameIndex := 78, descriptorIndex := 79, attributes := #[] }, { accessFlags := 74, nameIndex := 93, descriptorIndex := 79, attributes := #[] }, { accessFlags := 74, nameIndex := 114, descriptorIndex := 79, attributes := #[] }, { accessFlags := 194, nameIndex := 375, descriptorIndex := 127, attributes := #[] }, { accessFlags := 26, nameIndex := 895, descriptorIndex := 896, attributes := #[] }, { accessFlags := 74, nameIndex := 283, descriptorIndex := 260, attributes := #[] }, { accessFlags := 74, nameIndex := 259, descriptorIndex := 260, attributes := #[] }, { accessFlags := 4120, nameIndex := 100, descriptorIndex := 101, attributes := #[] }])
  fields := #[{ name := "ENGLISH", type := (.object "java/util/Locale"), accessFlags := 25, slot := 0, constantValue := 0 }, { name := "FRENCH", type := (.object "java/util/Locale"), accessFlags := 25, slot := 1, constantValue := 0 }, { name := "GERMAN", type := (.object "java/util/Locale"), accessFlags := 25, slot := 2, constantValue := 0 }, { name := "ITALIAN", type := (.object "java/util/Locale"), accessFlags := 25, slot := 3, constantValue := 0 }, { name := "JAPANESE", type := (.object "java/util/Locale"), accessFlags := 25, slot := 4, constantValue := 0 }, { name := "KOREAN", type := (.object "java/util/Locale"), accessFlags := 25, slot := 5, constantValue := 0 }, { name := "CHINESE", type := (.object "java/util/Locale"), accessFlags := 25, slot := 6, constantValue := 0 }, { name := "SIMPLIFIED_CHINESE", type := (.object "java/util/Locale"), accessFlags := 25, slot := 7, constantValue := 0 }, { name := "TRADITIONAL_CHINESE", type := (.object "java/util/Locale"), accessFlags := 25, slot := 8, constantValue := 0 }, { name := "FRANCE", type := (.object "java/util/Locale"), accessFlags := 25, slot := 9, constantValue := 0 }, { name := "GERMANY", type := (.object "java/util/Locale"), accessFlags := 25, slot := 10, constantValue := 0 }, { name := "ITALY", type := (.object "java/util/Locale"), accessFlags := 25, slot := 11, constantValue := 0 }, { name := "JAPAN", type := (.object "java/util/Locale"), accessFlags := 25, slot := 12, constantValue := 0 }, { name := "KOREA", type := (.object "java/util/Locale"), accessFlags := 25, slot := 13, constantValue := 0 }, { name := "UK", type := (.object "java/util/Locale"), accessFlags := 25, slot := 14, constantValue := 0 }, { name := "US", type := (.object "java/util/Locale"), accessFlags := 25, slot := 15, constantValue := 0 }, { name := "CANADA", type := (.object "java/util/Locale"), accessFlags := 25, slot := 16, constantValue := 0 }, { name := "CANADA_FRENCH", type := (.object "java/util/Locale"), accessFlags := 25, slot := 17, constantValue := 0 }, { name := "ROOT", type := (.object "java/util/Locale"), accessFlags := 25, slot := 18, constantValue := 0 }, { name := "CONSTANT_LOCALES", type := (.object "java/util/Map"), accessFlags := 26, slot := 19, constantValue := 0 }, { name := "CHINA", type := (.object "java/util/Locale"), accessFlags := 25, slot := 20, constantValue := 0 }, { name := "PRC", type := (.object "java/util/Locale"), accessFlags := 25, slot := 21, constantValue := 0 }, { name := "TAIWAN", type := (.object "java/util/Locale"), accessFlags := 25, slot := 22, constantValue := 0 }, { name := "PRIVATE_USE_EXTENSION", type := .char, accessFlags := 25, slot := 23, constantValue := 0 }, { name := "UNICODE_LOCALE_EXTENSION", type := .char, accessFlags := 25, slot := 24, constantValue := 0 }, { name := "serialVersionUID", type := .long, accessFlags := 24, slot := 25, constantValue := 0 }, { name := "DISPLAY_LANGUAGE", type := .int, accessFlags := 26, slot := 26, constantValue := 0 }, { name := "DISPLAY_COUNTRY", type := .int, accessFlags := 26, slot := 27, constantValue := 0 }, { name := "DISPLAY_VARIANT", type := .int, accessFlags := 26, slot := 28, constantValue := 0 }, { name := "DISPLAY_SCRIPT", type := .int, accessFlags := 26, slot := 29, constantValue := 0 }, { name := "DISPLAY_UEXT_KEY", type := .int, accessFlags := 26, slot := 30, constantValue := 0 }, { name := "DISPLAY_UEXT_TYPE", type := .int, accessFlags := 26, slot := 31, constantValue := 0 }, { name := "baseLocale", type := (.object "sun/util/locale/BaseLocale"), accessFlags := 130, slot := 0, constantValue := 0 }, { name := "localeExtensions", type := (.object "sun/util/locale/LocaleExtensions"), accessFlags := 130, slot := 1, constantValue := 0 }, { name := "hashCodeValue", type := .int, accessFlags := 130, slot := 2, constantValue := 0 }, { name := "defaultLocale", type := (.object "java/util/Locale"), accessFlags := 74, slot := 32, constantValue := 0 }, { name := "defaultDisplayLocale", type := (.object "java/util/Locale"), accessFlags := 74, slot := 33, constantValue := 0 }, { name := "defaultFormatLocale", type := (.object "java/util/Locale"), accessFlags := 74, slot := 34, constantValue := 0 }, { name := "languageTag", type := (.object "java/lang/String"), accessFlags := 194, slot := 3, constantValue := 0 }, { name := "serialPersistentFields", type := (.array (.object "java/io/ObjectStreamField")), accessFlags := 26, slot := 35, constantValue := 0 }, { name := "isoLanguages", type := (.array (.object "java/lang/String")), accessFlags := 74, slot := 36, constantValue := 0 }, { name := "isoCountries", type := (.array (.object "java/lang/String")), accessFlags := 74, slot := 37, constantValue := 0 }, { name := "$assertionsDisabled", type := .boolean, accessFlags := 4120, slot := 38, constantValue := 0 }]
  methods := #[k16m0]
  instanceTypes := #[(.object "sun/util/locale/BaseLocale"), (.object "sun/util/locale/LocaleExtensions"), .int, (.object "java/lang/String")]
  staticTypes := #[(.object "java/util/Locale"), (.object "java/util/Locale"), (.object "java/util/Locale"), (.object "java/util/Locale"), (.object "java/util/Locale"), (.object "java/util/Locale"), (.object "java/util/Locale"), (.object "java/util/Locale"), (.object "java/util/Locale"), (.object "java/util/Locale"), (.object "java/util/Locale"), (.object "java/util/Locale"), (.object "java/util/Locale"), (.object "java/util/Locale"), (.object "java/util/Locale"), (.object "java/util/Locale"), (.object "java/util/Locale"), (.object "java/util/Locale"), (.object "java/util/Locale"), (.object "java/util/Map"), (.object "java/util/Locale"), (.object "java/util/Locale"), (.object "java/util/Locale"), .char, .char, .long, .int, .int, .int, .int, .int, .int, (.object "java/util/Locale"), (.object "java/util/Locale"), (.object "java/util/Locale"), (.array (.object "java/io/ObjectStreamField")), (.array (.object "java/lang/String")), (.array (.object "java/lang/String")), .boolean]
  resolved := Array.replicate 1154 none
  statics := some 1 }

def pool17 : Array CpInfo := pool [(1, .class_ 2), (0, u "java/lang/String"), (1, .class_ 6), (1, u "java/lang/Object"), (0, u "<init>"), (0, u "()V"), (0, .methodref 1 10), (0, .nameAndType 11 12), (0, u "checkIndex"), (0, u "(II)V"), (1, .class_ 16), (1, u "java/lang/StringLatin1"), (11, .methodref 29 30), (0, .class_ 31), (0, .nameAndType 32 33), (0, u "java/lang/System"), (0, u "arraycopy"), (0, u "(Ljava/lang/Object;ILjava/lang/Object;II)V"), (19, u "([BI)C"), (12, .fieldref 67 68), (0, .class_ 69), (0, .nameAndType 70 71), (0, u "java/lang/CharacterDataLatin1"), (0, u "instance"), (0, u "Ljava/lang/CharacterDataLatin1;"), (3, u "(I)I"), (4, u "toLowerCase"), (7, .methodref 14 89), (0, .nameAndType 90 91), (0, u "canEncode"), (0, u "(I)Z"), (20, .methodref 1 113), (0, .nameAndType 7 114), (0, u "([BB)V"), (6, u "$assertionsDisabled"), (0, u "Z"), (37, .methodref 67 161), (0, .nameAndType 80 75), (0, .methodref 163 164), (0, .class_ 165), (0, .nameAndType 166 167), (0, u "java/util/Locale"), (0, u "getLanguage"), (0, u "()Ljava/lang/String;"), (0, .string 169), (0, u "tr"), (0, .string 171), (0, u "az"), (0, .string 173), (0, u "lt"), (47, .class_ 223), (1, u "java/lang/StringLatin1$LinesSpliterator"), (28, u "charAt"), (97, u "(Ljava/lang/String;[BLjava/util/Locale;)Ljava/lang/String;"), (39, .class_ 391), (0, u "java/lang/StringLatin1$CharsSpliterator")] 3

def k17m0 : Method := { name := "<init>", desc := "()V", sig := { parameters := [], returnType := none }, accessFlags := 0, code := none }
def k17c1 : Code := { maxStack := 2, maxLocals := 2, code := jdk_43_method_2_code, exceptionTable := #[], attributes := #[] }
def k17m1 : Method := { name := "charAt", desc := "([BI)C", sig := { parameters := [(.array .byte), .int], returnType := some .char }, accessFlags := 9, code := some k17c1 }
def k17c2 : Code := { maxStack := 2, maxLocals := 1, code := jdk_43_method_4_code, exceptionTable := #[], attributes := #[] }
def k17m2 : Method := { name := "canEncode", desc := "(I)Z", sig := { parameters := [.int], returnType := some .boolean }, accessFlags := 9, code := some k17c2 }
def k17c3 : Code := { maxStack := 5, maxLocals := 9, code := jdk_43_method_32_code, exceptionTable := #[], attributes := #[] }
def k17m3 : Method := { name := "toLowerCase", desc := "(Ljava/lang/String;[BLjava/util/Locale;)Ljava/lang/String;", sig := { parameters := [(.object "java/lang/String"), (.array .byte), (.object "java/util/Locale")], returnType := some (.object "java/lang/String") }, accessFlags := 9, code := some k17c3 }
/-- java/lang/StringLatin1 -/
def k17 : Class := { plain "java/lang/StringLatin1" (some 0) with
  accessFlags := 48
  interfaces := #[]
  cf := some (fileOf pool17 14 #[.nestMembers #[390, 221]] #[{ accessFlags := 0, nameIndex := 7, descriptorIndex := 8, attributes := #[] }, { accessFlags := 9, nameIndex := 252, descriptorIndex := 53, attributes := #[] }, { accessFlags := 9, nameIndex := 90, descriptorIndex := 91, attributes := #[] }, { accessFlags := 9, nameIndex := 80, descriptorIndex := 350, attributes := #[] }] 48 4 #[] #[{ accessFlags := 4120, nameIndex := 121, descriptorIndex := 122, attributes := #[] }])
  fields := #[{ name := "$assertionsDisabled", type := .boolean, accessFlags := 4120, slot := 0, constantValue := 0 }]
  methods := #[k17m0, k17m1, k17m2, k17m3]
  instanceTypes := #[]
  staticTypes := #[.boolean]
  resolved := Array.replicate 395 none
  statics := none }

def pool18 : Array CpInfo := pool [(2, .class_ 4), (1, u "java/lang/Object"), (0, u "<init>"), (0, u "()V"), (1, .class_ 10), (1, u "java/lang/CharacterData")] 75

def k18m0 : Method := { name := "<init>", desc := "()V", sig := { parameters := [], returnType := none }, accessFlags := 0, code := none }
/-- java/lang/CharacterData -/
def k18 : Class := { plain "java/lang/CharacterData" (some 0) with
  accessFlags := 1056
  interfaces := #[]
  cf := some (fileOf pool18 8 #[] #[{ accessFlags := 0, nameIndex := 5, descriptorIndex := 6, attributes := #[] }] 1056 2 #[] #[])
  fields := #[]
  methods := #[k18m0]
  instanceTypes := #[]
  staticTypes := #[]
  resolved := Array.replicate 86 none
  statics := none }

def pool19 : Array CpInfo := pool [(2, .class_ 4), (1, u "java/lang/CharacterDataLatin1"), (0, u "A"), (0, u "[I"), (2, u "B"), (0, u "[C"), (3, u "(I)I"), (12, u "DIGITS"), (0, u "[B"), (8, u "sharpsMap"), (1, .class_ 41), (1, u "java/lang/CharacterData"), (0, u "<init>"), (0, u "()V"), (3, u "instance"), (0, u "Ljava/lang/CharacterDataLatin1;"), (63, u "toLowerCase")] 28

def k19c0 : Code := { maxStack := 2, maxLocals := 3, code := jdk_116_method_20_code, exceptionTable := #[], attributes := #[] }
def k19m0 : Method := { name := "toLowerCase", desc := "(I)I", sig := { parameters := [.int], returnType := some .int }, accessFlags := 0, code := some k19c0 }
def k19m1 : Method := { name := "<init>", desc := "()V", sig := { parameters := [], returnType := none }, accessFlags := 2, code := none }
/-- java/lang/CharacterDataLatin1 -/
def k19 : Class := { plain "java/lang/CharacterDataLatin1" (some 18) with
  accessFlags := 32
  interfaces := #[]
  cf := some (fileOf pool19 2 #[] #[{ accessFlags := 0, nameIndex := 112, descriptorIndex := 14, attributes := #[] }, { accessFlags := 2, nameIndex := 42, descriptorIndex := 43, attributes := #[] }] 32 39 #[] #[{ accessFlags := 26, nameIndex := 27, descriptorIndex := 28, attributes := #[] }, { accessFlags := 8, nameIndex := 37, descriptorIndex := 10, attributes := #[] }, { accessFlags := 24, nameIndex := 47, descriptorIndex := 48, attributes := #[] }, { accessFlags := 24, nameIndex := 5, descriptorIndex := 6, attributes := #[] }, { accessFlags := 24, nameIndex := 9, descriptorIndex := 10, attributes := #[] }])
  fields := #[{ name := "DIGITS", type := (.array .byte), accessFlags := 26, slot := 0, constantValue := 0 }, { name := "sharpsMap", type := (.array .char), accessFlags := 8, slot := 1, constantValue := 0 }, { name := "instance", type := (.object "java/lang/CharacterDataLatin1"), accessFlags := 24, slot := 2, constantValue := 0 }, { name := "A", type := (.array .int), accessFlags := 24, slot := 3, constantValue := 0 }, { name := "B", type := (.array .char), accessFlags := 24, slot := 4, constantValue := 0 }]
  methods := #[k19m0, k19m1]
  instanceTypes := #[]
  staticTypes := #[(.array .byte), (.array .char), (.object "java/lang/CharacterDataLatin1"), (.array .int), (.array .char)]
  resolved := Array.replicate 141 none
  statics := some 2 }

def pool20 : Array CpInfo := pool [(2, .class_ 4), (1, u "java/lang/Object"), (0, u "<init>"), (0, u "()V"), (17, .class_ 26), (1, u "jdk/internal/util/Preconditions"), (6, u "checkIndex"), (21, .class_ 56), (0, u "jdk/internal/util/Preconditions$4"), (57, .class_ 115), (0, u "jdk/internal/util/Preconditions$1"), (7, u "SIOOBE_FORMATTER"), (0, u "Ljava/util/function/BiFunction;"), (0, .class_ 126), (0, u "jdk/internal/util/Preconditions$2"), (3, u "AIOOBE_FORMATTER"), (0, .class_ 132), (0, u "jdk/internal/util/Preconditions$3"), (3, u "IOOBE_FORMATTER"), (41, u "(IILjava/util/function/BiFunction;)I")] 15

def k20m0 : Method := { name := "<init>", desc := "()V", sig := { parameters := [], returnType := none }, accessFlags := 1, code := none }
def k20c1 : Code := { maxStack := 3, maxLocals := 3, code := jdk_41_method_11_code, exceptionTable := #[], attributes := #[] }
def k20m1 : Method := { name := "checkIndex", desc := "(IILjava/util/function/BiFunction;)I", sig := { parameters := [.int, .int, (.object "java/util/function/BiFunction")], returnType := some .int }, accessFlags := 9, code := some k20c1 }
/-- jdk/internal/util/Preconditions -/
def k20 : Class := { plain "jdk/internal/util/Preconditions" (some 0) with
  accessFlags := 33
  interfaces := #[]
  cf := some (fileOf pool20 24 #[.nestMembers #[55, 131, 125, 114]] #[{ accessFlags := 1, nameIndex := 5, descriptorIndex := 6, attributes := #[] }, { accessFlags := 9, nameIndex := 33, descriptorIndex := 178, attributes := #[] }] 33 2 #[] #[{ accessFlags := 25, nameIndex := 123, descriptorIndex := 124, attributes := #[] }, { accessFlags := 25, nameIndex := 130, descriptorIndex := 124, attributes := #[] }, { accessFlags := 25, nameIndex := 136, descriptorIndex := 124, attributes := #[] }])
  fields := #[{ name := "SIOOBE_FORMATTER", type := (.object "java/util/function/BiFunction"), accessFlags := 25, slot := 0, constantValue := 0 }, { name := "AIOOBE_FORMATTER", type := (.object "java/util/function/BiFunction"), accessFlags := 25, slot := 1, constantValue := 0 }, { name := "IOOBE_FORMATTER", type := (.object "java/util/function/BiFunction"), accessFlags := 25, slot := 2, constantValue := 0 }]
  methods := #[k20m0, k20m1]
  instanceTypes := #[]
  staticTypes := #[(.object "java/util/function/BiFunction"), (.object "java/util/function/BiFunction"), (.object "java/util/function/BiFunction")]
  resolved := Array.replicate 194 none
  statics := some 3 }

def pool21 : Array CpInfo := pool [(6, .class_ 8), (1, u "java/lang/Object"), (0, u "<init>"), (0, u "()V"), (1, .class_ 14), (1, u "java/lang/StringUTF16"), (31, u "$assertionsDisabled"), (0, u "Z"), (13, u "HI_BYTE_SHIFT"), (0, u "I"), (2, u "LO_BYTE_SHIFT"), (49, .methodref 12 116), (0, .nameAndType 117 118), (0, u "compress"), (0, u "([CI[BII)I"), (3, u "([CII)[B"), (138, u "coderFromArrayLen"), (0, u "([BI)B"), (106, .class_ 371), (1, u "java/lang/StringUTF16$LinesSpliterator"), (58, u "MAX_LENGTH"), (196, .class_ 628), (0, u "java/lang/StringUTF16$CodePointsSpliterator"), (0, .class_ 630), (0, u "java/lang/StringUTF16$CharsSpliterator")] 4

def k21m0 : Method := { name := "<init>", desc := "()V", sig := { parameters := [], returnType := none }, accessFlags := 0, code := none }
def k21c1 : Code := { maxStack := 2, maxLocals := 2, code := jdk_52_method_15_code, exceptionTable := #[], attributes := #[] }
def k21m1 : Method := { name := "coderFromArrayLen", desc := "([BI)B", sig := { parameters := [(.array .byte), .int], returnType := some .byte }, accessFlags := 8, code := some k21c1 }
def k21c2 : Code := { maxStack := 5, maxLocals := 6, code := jdk_52_method_16_code, exceptionTable := #[], attributes := #[] }
def k21m2 : Method := { name := "compress", desc := "([CII)[B", sig := { parameters := [(.array .char), .int, .int], returnType := some (.array .byte) }, accessFlags := 9, code := some k21c2 }
def k21c3 : Code := { maxStack := 3, maxLocals := 7, code := jdk_52_method_21_code, exceptionTable := #[], attributes := #[] }
def k21m3 : Method := { name := "compress", desc := "([CI[BII)I", sig := { parameters := [(.array .char), .int, (.array .byte), .int, .int], returnType := some .int }, accessFlags := 9, code := some k21c3 }
/-- java/lang/StringUTF16 -/
def k21 : Class := { plain "java/lang/StringUTF16" (some 0) with
  accessFlags := 48
  interfaces := #[]
  cf := some (fileOf pool21 12 #[.nestMembers #[627, 629, 369]] #[{ accessFlags := 0, nameIndex := 9, descriptorIndex := 10, attributes := #[] }, { accessFlags := 8, nameIndex := 261, descriptorIndex := 262, attributes := #[] }, { accessFlags := 9, nameIndex := 117, descriptorIndex := 122, attributes := #[] }, { accessFlags := 9, nameIndex := 117, descriptorIndex := 118, attributes := #[] }] 48 6 #[] #[{ accessFlags := 26, nameIndex := 61, descriptorIndex := 62, attributes := #[] }, { accessFlags := 26, nameIndex := 65, descriptorIndex := 62, attributes := #[] }, { accessFlags := 24, nameIndex := 430, descriptorIndex := 62, attributes := #[] }, { accessFlags := 4120, nameIndex := 46, descriptorIndex := 47, attributes := #[] }])
  fields := #[{ name := "HI_BYTE_SHIFT", type := .int, accessFlags := 26, slot := 0, constantValue := 0 }, { name := "LO_BYTE_SHIFT", type := .int, accessFlags := 26, slot := 1, constantValue := 0 }, { name := "MAX_LENGTH", type := .int, accessFlags := 24, slot := 2, constantValue := 0 }, { name := "$assertionsDisabled", type := .boolean, accessFlags := 4120, slot := 3, constantValue := 0 }]
  methods := #[k21m0, k21m1, k21m2, k21m3]
  instanceTypes := #[]
  staticTypes := #[.int, .int, .int, .boolean]
  resolved := Array.replicate 635 none
  statics := none }

def pool22 : Array CpInfo := pool [(2, .class_ 4), (1, u "java/lang/Object"), (13, u "()Ljava/lang/String;"), (0, .fieldref 20 21), (0, .class_ 22), (0, .nameAndType 23 24), (0, u "sun/util/locale/BaseLocale"), (0, u "language"), (0, u "Ljava/lang/String;"), (5, u "script"), (5, u "region"), (2, u "variant"), (11, u "constantBaseLocales"), (0, u "[Lsun/util/locale/BaseLocale;"), (2, u "getLanguage"), (10, .class_ 67), (0, u "sun/util/locale/BaseLocale$Key"), (2, .class_ 72), (1, u "sun/util/locale/BaseLocale$Cache"), (24, u "OLD_ISO_CODES"), (0, u "Z"), (32, u "hash"), (0, u "I"), (41, u "US"), (15, u "ENGLISH"), (0, u "B"), (2, u "FRENCH"), (1, u "GERMAN"), (1, u "ITALIAN"), (1, u "JAPANESE"), (1, u "KOREAN"), (1, u "CHINESE"), (1, u "SIMPLIFIED_CHINESE"), (1, u "TRADITIONAL_CHINESE"), (1, u "FRANCE"), (1, u "GERMANY"), (1, u "ITALY"), (1, u "JAPAN"), (1, u "KOREA"), (1, u "UK"), (2, u "CANADA"), (1, u "CANADA_FRENCH"), (1, u "ROOT"), (1, u "NUM_CONSTANTS"), (1, u "SEP")] 31

def k22c0 : Code := { maxStack := 1, maxLocals := 1, code := jdk_3003_method_5_code, exceptionTable := #[], attributes := #[] }
def k22m0 : Method := { name := "getLanguage", desc := "()Ljava/lang/String;", sig := { parameters := [], returnType := some (.object "java/lang/String") }, accessFlags := 1, code := some k22c0 }
/-- sun/util/locale/BaseLocale -/
def k22 : Class := { plain "sun/util/locale/BaseLocale" (some 0) with
  accessFlags := 49
  interfaces := #[]
  cf := some (fileOf pool22 20 #[.nestMembers #[70, 66]] #[{ accessFlags := 1, nameIndex := 55, descriptorIndex := 18, attributes := #[] }] 49 2 #[] #[{ accessFlags := 9, nameIndex := 51, descriptorIndex := 52, attributes := #[] }, { accessFlags := 25, nameIndex := 190, descriptorIndex := 191, attributes := #[] }, { accessFlags := 25, nameIndex := 194, descriptorIndex := 191, attributes := #[] }, { accessFlags := 25, nameIndex := 196, descriptorIndex := 191, attributes := #[] }, { accessFlags := 25, nameIndex := 198, descriptorIndex := 191, attributes := #[] }, { accessFlags := 25, nameIndex := 200, descriptorIndex := 191, attributes := #[] }, { accessFlags := 25, nameIndex := 202, descriptorIndex := 191, attributes := #[] }, { accessFlags := 25, nameIndex := 204, descriptorIndex := 191, attributes := #[] }, { accessFlags := 25, nameIndex := 206, descriptorIndex := 191, attributes := #[] }, { accessFlags := 25, nameIndex := 208, descriptorIndex := 191, attributes := #[] }, { accessFlags := 25, nameIndex := 210, descriptorIndex := 191, attributes := #[] }, { accessFlags := 25, nameIndex := 212, descriptorIndex := 191, attributes := #[] }, { accessFlags := 25, nameIndex := 214, descriptorIndex := 191, attributes := #[] }, { accessFlags := 25, nameIndex := 216, descriptorIndex := 191, attributes := #[] }, { accessFlags := 25, nameIndex := 218, descriptorIndex := 191, attributes := #[] }, { accessFlags := 25, nameIndex := 220, descriptorIndex := 191, attributes := #[] }, { accessFlags := 25, nameIndex := 174, descriptorIndex := 191, attributes := #[] }, { accessFlags := 25, nameIndex := 223, descriptorIndex := 191, attributes := #[] }, { accessFlags := 25, nameIndex := 225, descriptorIndex := 191, attributes := #[] }, { accessFlags := 25, nameIndex := 227, descriptorIndex := 191, attributes := #[] }, { accessFlags := 25, nameIndex := 229, descriptorIndex := 191, attributes := #[] }, { accessFlags := 25, nameIndex := 231, descriptorIndex := 24, attributes := #[] }, { accessFlags := 18, nameIndex := 23, descriptorIndex := 24, attributes := #[] }, { accessFlags := 18, nameIndex := 30, descriptorIndex := 24, attributes := #[] }, { accessFlags := 18, nameIndex := 36, descriptorIndex := 24, attributes := #[] }, { accessFlags := 18, nameIndex := 39, descriptorIndex := 24, attributes := #[] }, { accessFlags := 2, nameIndex := 131, descriptorIndex := 132, attributes := #[] }, { accessFlags := 26, nameIndex := 97, descriptorIndex := 98, attributes := #[] }])
  fields := #[{ name := "constantBaseLocales", type := (.array (.object "sun/util/locale/BaseLocale")), accessFlags := 9, slot := 0, constantValue := 0 }, { name := "ENGLISH", type := .byte, accessFlags := 25, slot := 1, constantValue := 0 }, { name := "FRENCH", type := .byte, accessFlags := 25, slot := 2, constantValue := 0 }, { name := "GERMAN", type := .byte, accessFlags := 25, slot := 3, constantValue := 0 }, { name := "ITALIAN", type := .byte, accessFlags := 25, slot := 4, constantValue := 0 }, { name := "JAPANESE", type := .byte, accessFlags := 25, slot := 5, constantValue := 0 }, { name := "KOREAN", type := .byte, accessFlags := 25, slot := 6, constantValue := 0 }, { name := "CHINESE", type := .byte, accessFlags := 25, slot := 7, constantValue := 0 }, { name := "SIMPLIFIED_CHINESE", type := .byte, accessFlags := 25, slot := 8, constantValue := 0 }, { name := "TRADITIONAL_CHINESE", type := .byte, accessFlags := 25, slot := 9, constantValue := 0 }, { name := "FRANCE", type := .byte, accessFlags := 25, slot := 10, constantValue := 0 }, { name := "GERMANY", type := .byte, accessFlags := 25, slot := 11, constantValue := 0 }, { name := "ITALY", type := .byte, accessFlags := 25, slot := 12, constantValue := 0 }, { name := "JAPAN", type := .byte, accessFlags := 25, slot := 13, constantValue := 0 }, { name := "KOREA", type := .byte, accessFlags := 25, slot := 14, constantValue := 0 }, { name := "UK", type := .byte, accessFlags := 25, slot := 15, constantValue := 0 }, { name := "US", type := .byte, accessFlags := 25, slot := 16, constantValue := 0 }, { name := "CANADA", type := .byte, accessFlags := 25, slot := 17, constantValue := 0 }, { name := "CANADA_FRENCH", type := .byte, accessFlags := 25, slot := 18, constantValue := 0 }, { name := "ROOT", type := .byte, accessFlags := 25, slot := 19, constantValue := 0 }, { name := "NUM_CONSTANTS", type := .byte, accessFlags := 25, slot := 20, constantValue := 0 }, { name := "SEP", type := (.object "java/lang/String"), accessFlags := 25, slot := 21, constantValue := 0 }, { name := "language", type := (.object "java/lang/String"), accessFlags := 18, slot := 0, constantValue := 0 }, { name := "script", type := (.object "java/lang/String"), accessFlags := 18, slot := 1, constantValue := 0 }, { name := "region", type := (.object "java/lang/String"), accessFlags := 18, slot := 2, constantValue := 0 }, { name := "variant", type := (.object "java/lang/String"), accessFlags := 18, slot := 3, constantValue := 0 }, { name := "hash", type := .int, accessFlags := 2, slot := 4, constantValue := 0 }, { name := "OLD_ISO_CODES", type := .boolean, accessFlags := 26, slot := 22, constantValue := 0 }]
  methods := #[k22m0]
  instanceTypes := #[(.object "java/lang/String"), (.object "java/lang/String"), (.object "java/lang/String"), (.object "java/lang/String"), .int]
  staticTypes := #[(.array (.object "sun/util/locale/BaseLocale")), .byte, .byte, .byte, .byte, .byte, .byte, .byte, .byte, .byte, .byte, .byte, .byte, .byte, .byte, .byte, .byte, .byte, .byte, .byte, .byte, (.object "java/lang/String"), .boolean]
  resolved := Array.replicate 263 none
  statics := none }

def pool23 : Array CpInfo := pool [(9, u "<init>"), (6, .class_ 18), (1, u "java/lang/Object"), (0, u "()V"), (1, .class_ 23), (1, u "jdk/internal/util/ArraysSupport"), (0, u "LOG2_ARRAY_LONG_INDEX_SCALE"), (0, u "I"), (2, u "U"), (0, u "Ljdk/internal/misc/Unsafe;"), (8, u "BIG_ENDIAN"), (0, u "Z"), (8, u "LOG2_BYTE_BIT_SIZE"), (4, u "LOG2_ARRAY_INT_INDEX_SCALE"), (54, u "JLA"), (0, u "Ljdk/internal/access/JavaLangAccess;"), (11, u "LOG2_ARRAY_BOOLEAN_INDEX_SCALE"), (9, u "LOG2_ARRAY_BYTE_INDEX_SCALE"), (5, u "LOG2_ARRAY_CHAR_INDEX_SCALE"), (5, u "LOG2_ARRAY_SHORT_INDEX_SCALE"), (18, u "LOG2_ARRAY_FLOAT_INDEX_SCALE"), (24, u "LOG2_ARRAY_DOUBLE_INDEX_SCALE"), (89, u "T_BOOLEAN"), (2, u "T_CHAR"), (1, u "T_FLOAT"), (1, u "T_DOUBLE"), (1, u "T_BYTE"), (1, u "T_SHORT"), (1, u "T_INT"), (1, u "T_LONG"), (1, u "SOFT_MAX_ARRAY_LENGTH")] 83

def k23m0 : Method := { name := "<init>", desc := "()V", sig := { parameters := [], returnType := none }, accessFlags := 2, code := none }
/-- jdk/internal/util/ArraysSupport -/
def k23 : Class := { plain "jdk/internal/util/ArraysSupport" (some 0) with
  accessFlags := 33
  interfaces := #[]
  cf := some (fileOf pool23 21 #[] #[{ accessFlags := 2, nameIndex := 9, descriptorIndex := 19, attributes := #[] }] 33 16 #[] #[{ accessFlags := 24, nameIndex := 28, descriptorIndex := 29, attributes := #[] }, { accessFlags := 26, nameIndex := 38, descriptorIndex := 39, attributes := #[] }, { accessFlags := 25, nameIndex := 121, descriptorIndex := 25, attributes := #[] }, { accessFlags := 25, nameIndex := 131, descriptorIndex := 25, attributes := #[] }, { accessFlags := 25, nameIndex := 137, descriptorIndex := 25, attributes := #[] }, { accessFlags := 25, nameIndex := 143, descriptorIndex := 25, attributes := #[] }, { accessFlags := 25, nameIndex := 53, descriptorIndex := 25, attributes := #[] }, { accessFlags := 25, nameIndex := 24, descriptorIndex := 25, attributes := #[] }, { accessFlags := 25, nameIndex := 162, descriptorIndex := 25, attributes := #[] }, { accessFlags := 25, nameIndex := 187, descriptorIndex := 25, attributes := #[] }, { accessFlags := 26, nameIndex := 48, descriptorIndex := 25, attributes := #[] }, { accessFlags := 25, nameIndex := 277, descriptorIndex := 25, attributes := #[] }, { accessFlags := 25, nameIndex := 280, descriptorIndex := 25, attributes := #[] }, { accessFlags := 25, nameIndex := 282, descriptorIndex := 25, attributes := #[] }, { accessFlags := 25, nameIndex := 284, descriptorIndex := 25, attributes := #[] }, { accessFlags := 25, nameIndex := 286, descriptorIndex := 25, attributes := #[] }, { accessFlags := 25, nameIndex := 288, descriptorIndex := 25, attributes := #[] }, { accessFlags := 25, nameIndex := 290, descriptorIndex := 25, attributes := #[] }, { accessFlags := 25, nameIndex := 292, descriptorIndex := 25, attributes := #[] }, { accessFlags := 26, nameIndex := 108, descriptorIndex := 109, attributes := #[] }, { accessFlags := 25, nameIndex := 294, descriptorIndex := 25, attributes := #[] }])
  fields := #[{ name := "U", type := (.object "jdk/internal/misc/Unsafe"), accessFlags := 24, slot := 0, constantValue := 0 }, { name := "BIG_ENDIAN", type := .boolean, accessFlags := 26, slot := 1, constantValue := 0 }, { name := "LOG2_ARRAY_BOOLEAN_INDEX_SCALE", type := .int, accessFlags := 25, slot := 2, constantValue := 0 }, { name := "LOG2_ARRAY_BYTE_INDEX_SCALE", type := .int, accessFlags := 25, slot := 3, constantValue := 0 }, { name := "LOG2_ARRAY_CHAR_INDEX_SCALE", type := .int, accessFlags := 25, slot := 4, constantValue := 0 }, { name := "LOG2_ARRAY_SHORT_INDEX_SCALE", type := .int, accessFlags := 25, slot := 5, constantValue := 0 }, { name := "LOG2_ARRAY_INT_INDEX_SCALE", type := .int, accessFlags := 25, slot := 6, constantValue := 0 }, { name := "LOG2_ARRAY_LONG_INDEX_SCALE", type := .int, accessFlags := 25, slot := 7, constantValue := 0 }, { name := "LOG2_ARRAY_FLOAT_INDEX_SCALE", type := .int, accessFlags := 25, slot := 8, constantValue := 0 }, { name := "LOG2_ARRAY_DOUBLE_INDEX_SCALE", type := .int, accessFlags := 25, slot := 9, constantValue := 0 }, { name := "LOG2_BYTE_BIT_SIZE", type := .int, accessFlags := 26, slot := 10, constantValue := 0 }, { name := "T_BOOLEAN", type := .int, accessFlags := 25, slot := 11, constantValue := 0 }, { name := "T_CHAR", type := .int, accessFlags := 25, slot := 12, constantValue := 0 }, { name := "T_FLOAT", type := .int, accessFlags := 25, slot := 13, constantValue := 0 }, { name := "T_DOUBLE", type := .int, accessFlags := 25, slot := 14, constantValue := 0 }, { name := "T_BYTE", type := .int, accessFlags := 25, slot := 15, constantValue := 0 }, { name := "T_SHORT", type := .int, accessFlags := 25, slot := 16, constantValue := 0 }, { name := "T_INT", type := .int, accessFlags := 25, slot := 17, constantValue := 0 }, { name := "T_LONG", type := .int, accessFlags := 25, slot := 18, constantValue := 0 }, { name := "JLA", type := (.object "jdk/internal/access/JavaLangAccess"), accessFlags := 26, slot := 19, constantValue := 0 }, { name := "SOFT_MAX_ARRAY_LENGTH", type := .int, accessFlags := 25, slot := 20, constantValue := 0 }]
  methods := #[k23m0]
  instanceTypes := #[]
  staticTypes := #[(.object "jdk/internal/misc/Unsafe"), .boolean, .int, .int, .int, .int, .int, .int, .int, .int, .int, .int, .int, .int, .int, .int, .int, .int, .int, (.object "jdk/internal/access/JavaLangAccess"), .int]
  resolved := Array.replicate 378 none
  statics := none }

/-- the primitive byte -/
def k24 : Class := { plain "byte" none with kind := .primitive 'B', accessFlags := 0x411 }
/-- [B -/
def k25 : Class := { plain "[B" (some 0) with kind := .array 24 .byte, interfaces := #[15, 2], accessFlags := 1041 }

/-- the primitive char -/
def k26 : Class := { plain "char" none with kind := .primitive 'C', accessFlags := 0x411 }
/-- [C -/
def k27 : Class := { plain "[C" (some 0) with kind := .array 26 .char, interfaces := #[15, 2], accessFlags := 1041 }

/-- the primitive int -/
def k28 : Class := { plain "int" none with kind := .primitive 'I', accessFlags := 0x411 }
/-- [I -/
def k29 : Class := { plain "[I" (some 0) with kind := .array 28 .int, interfaces := #[15, 2], accessFlags := 1041 }

def heap : Heap := #[{ cls := 7, slots := #[.long 0, .int 1, .null, .int 0, .null, .int 0, .int 0], vm := .statics 7 },
  { cls := 16, slots := #[.null, .null, .null, .null, .null, .null, .null, .null, .null, .null, .null, .null, .null, .null, .null, .null, .null, .null, .ref 4, .null, .null, .null, .null, .int 0, .int 0, .long 0, .int 0, .int 0, .int 0, .int 0, .int 0, .int 0, .null, .null, .null, .null, .null, .null, .int 0], vm := .statics 16 },
  { cls := 19, slots := #[.null, .null, .ref 8, .null, .null], vm := .statics 19 },
  { cls := 20, slots := #[.null, .null, .null], vm := .statics 20 },
  { cls := 16, slots := #[.ref 5, .null, .int 0, .null], vm := .none },
  { cls := 22, slots := #[.ref 6, .null, .null, .null, .int 0], vm := .none },
  { cls := 7, slots := #[.ref 7, .int 0, .int 0, .int 0], vm := .none },
  { cls := 25, slots := #[], vm := .none },
  { cls := 19, slots := #[], vm := .none }]
def classes : Array Class := #[k0, k1, k2, k3, k4, k5, k6, k7, k8, k9, k10, k11, k12, k13, k14, k15, k16, k17, k18, k19, k20, k21, k22, k23, k24, k25, k26, k27, k28, k29]
def interned : List (Array UInt16 × Addr) := []
def slotsUsed : Nat := 67
def theMethod : MethodId := ⟨1, 1⟩
def args0 : Array Value := #[.int 5, .int 33554438, .int 50331655]
def aboutOver (below : List Frame) : State where
  vm := { classes := classes, interned := interned.toArray }
  heap := heap
  slotsUsed := slotsUsed
  threads := #[{ frames := .invoking theMethod args0 :: below }]
def below0 : List Frame := [.native { method := ⟨0, 0⟩, args := #[] }]
def about1 : State := aboutOver below0
def p0 : Program := .bare "" "" ""
def e0 : Env := launch0.env 0 0 0
theorem w_frames : about1.frames = Frame.invoking theMethod args0 :: below0 := rfl
set_option maxRecDepth 65536 in
theorem w_args : argsFit about1.vm theMethod args0 = true := by decide +kernel
set_option maxRecDepth 65536 in
theorem w_heap : heapFits about1 = true := by decide +kernel
set_option maxRecDepth 65536 in
theorem w_runnable : about1.curStatus? = some .runnable := by decide +kernel
set_option maxRecDepth 65536 in
theorem w_alone : about1.alone = true := by decide +kernel
set_option maxRecDepth 65536 in
theorem w_named : about1.methodNamed? x = some theMethod := by decide +kernel
set_option maxRecDepth 65536 in
theorem w_hears : about1.hears theMethod below0 = true := by decide +kernel
set_option maxRecDepth 65536 in
theorem w_ripe : about1.ripe theMethod args0 below0 = true := by decide +kernel
theorem w_running : about1.status = .running := rfl
set_option maxRecDepth 65536 in
theorem w_room : about1.hasRoom e0.platform room_1 = true :=
  launch0.hasRoom_least _ room_1 (by decide +kernel) (by decide +kernel) (by decide +kernel) (by decide +kernel) (by decide +kernel) (by decide +kernel)
theorem allAtoms_all (ts : List Jvm.Cond) (a : Array Jvm.Value) (st : Jvm.State) : (allAtoms ts).before a st = ts.all (fun c => c.before a st) := by
  induction ts with
  | nil => rfl
  | cons c t ih =>
    show (Jvm.Cond.and c (allAtoms t)).before a st = _
    rw [Jvm.Cond.before_and, ih, List.all_cons]
def words1 : List Jvm.Cond := Jvm.Cond.code x code maxLocals ret :: tables_1
/-- a 'code' word, met by the world's own term for the bytes: nothing is compared byte by byte -/
theorem code_word {y : MethodName} {bytes : ByteArray} {mx : Nat} {rt : Option FieldType} {a : Array Value} {s : State} {m : MethodId} {meth : Method} {c : Code} (h1 : s.methodNamed? y = some m) (h2 : s.vm.method? m = some meth) (h3 : meth.code = some c) (h4 : c.code = bytes)
    (h5 : (c.maxLocals == mx && c.exceptionTable.isEmpty && decide (c.maxStack ≤ mostOperands) && decide (meth.sig.returnType = rt) && !meth.locks && decide (parseMethodDescriptor y.desc = some meth.sig)) = true) : (Jvm.Cond.code y bytes mx rt).before a s = true := by
  simp only [Bool.and_eq_true, beq_iff_eq, Bool.not_eq_true', decide_eq_true_eq] at h5
  obtain ⟨⟨⟨⟨⟨g1, g2⟩, g3⟩, g4⟩, g5⟩, g6⟩ := h5
  simp [Cond.before, Cond.holds, Cond.value, h1, h2, h3, h4, g1, g2, g3, g4, g5, g6]
def isCode : Jvm.Cond → Bool
  | .code _ _ _ _ => true
  | _ => false
theorem all_split {L : List Jvm.Cond} {P : Jvm.Cond → Bool} (h1 : L.all (fun c => isCode c || P c) = true) (h2 : ∀ c ∈ L.filter isCode, P c = true) : L.all P = true := by
  refine List.all_eq_true.mpr fun c hc => ?_
  have h := List.all_eq_true.mp h1 c hc
  rcases Bool.eq_false_or_eq_true (isCode c) with hi | hi
  · exact h2 c (List.mem_filter.mpr ⟨hc, hi⟩)
  · simpa [hi] using h
set_option maxRecDepth 65536 in
theorem w_c0 : (Jvm.Cond.code x code maxLocals ret).before args0 about1 = true := code_word (m := ⟨1, 1⟩) (meth := k1m1) (c := k1c1) (by decide +kernel) rfl rfl rfl (by decide +kernel)
set_option maxRecDepth 65536 in
theorem w_c1 : (Jvm.Cond.code ({ cls := "com/example/wakeline/index/IndexNamesForTablePinLaw", name := "mk", desc := "(I)Ljava/lang/String;" } : Jvm.MethodName) method_4_code (2 : Nat) (Option.some (Jvm.ClassFile.FieldType.object "java/lang/String"))).before args0 about1 = true := code_word (m := ⟨1, 3⟩) (meth := k1m3) (c := k1c3) (by decide +kernel) rfl rfl rfl (by decide +kernel)
set_option maxRecDepth 65536 in
theorem w_c2 : (Jvm.Cond.code ({ cls := "java/lang/String", name := "<init>", desc := "([C)V" } : Jvm.MethodName) jdk_42_method_3_code (2 : Nat) (Option.none : Option Jvm.ClassFile.FieldType)).before args0 about1 = true := code_word (m := ⟨7, 1⟩) (meth := k7m1) (c := k7c1) (by decide +kernel) rfl rfl rfl (by decide +kernel)
set_option maxRecDepth 65536 in
theorem w_c3 : (Jvm.Cond.code ({ cls := "java/lang/String", name := "<init>", desc := "([CIILjava/lang/Void;)V" } : Jvm.MethodName) jdk_42_method_149_code (6 : Nat) (Option.none : Option Jvm.ClassFile.FieldType)).before args0 about1 = true := code_word (m := ⟨7, 7⟩) (meth := k7m7) (c := k7c7) (by decide +kernel) rfl rfl rfl (by decide +kernel)
set_option maxRecDepth 65536 in
theorem w_c4 : (Jvm.Cond.code ({ cls := "java/lang/Object", name := "<init>", desc := "()V" } : Jvm.MethodName) object_method_1_code (1 : Nat) (Option.none : Option Jvm.ClassFile.FieldType)).before args0 about1 = true := code_word (m := ⟨0, 0⟩) (meth := k0m0) (c := k0c0) (by decide +kernel) rfl rfl rfl (by decide +kernel)
set_option maxRecDepth 65536 in
theorem w_c5 : (Jvm.Cond.code ({ cls := "com/example/wakeline/index/IndexNames", name := "forTable", desc := "(Ljava/lang/String;Ljava/lang/String;Ljava/lang/String;)Ljava/lang/String;" } : Jvm.MethodName) prog_25_method_2_code (3 : Nat) (Option.some (Jvm.ClassFile.FieldType.object "java/lang/String"))).before args0 about1 = true := code_word (m := ⟨8, 1⟩) (meth := k8m1) (c := k8c1) (by decide +kernel) rfl rfl rfl (by decide +kernel)
set_option maxRecDepth 65536 in
theorem w_c6 : (Jvm.Cond.code ({ cls := "java/lang/StringBuilder", name := "<init>", desc := "()V" } : Jvm.MethodName) jdk_67_method_1_code (1 : Nat) (Option.none : Option Jvm.ClassFile.FieldType)).before args0 about1 = true := code_word (m := ⟨11, 0⟩) (meth := k11m0) (c := k11c0) (by decide +kernel) rfl rfl rfl (by decide +kernel)
set_option maxRecDepth 65536 in
theorem w_c7 : (Jvm.Cond.code ({ cls := "java/lang/AbstractStringBuilder", name := "<init>", desc := "(I)V" } : Jvm.MethodName) jdk_68_method_2_code (2 : Nat) (Option.none : Option Jvm.ClassFile.FieldType)).before args0 about1 = true := code_word (m := ⟨10, 1⟩) (meth := k10m1) (c := k10c1) (by decide +kernel) rfl rfl rfl (by decide +kernel)
set_option maxRecDepth 65536 in
theorem w_c8 : (Jvm.Cond.code ({ cls := "java/lang/StringBuilder", name := "append", desc := "(Ljava/lang/String;)Ljava/lang/StringBuilder;" } : Jvm.MethodName) jdk_67_method_7_code (2 : Nat) (Option.some (Jvm.ClassFile.FieldType.object "java/lang/StringBuilder"))).before args0 about1 = true := code_word (m := ⟨11, 1⟩) (meth := k11m1) (c := k11c1) (by decide +kernel) rfl rfl rfl (by decide +kernel)
set_option maxRecDepth 65536 in
theorem w_c9 : (Jvm.Cond.code ({ cls := "java/lang/AbstractStringBuilder", name := "append", desc := "(Ljava/lang/String;)Ljava/lang/AbstractStringBuilder;" } : Jvm.MethodName) jdk_68_method_22_code (3 : Nat) (Option.some (Jvm.ClassFile.FieldType.object "java/lang/AbstractStringBuilder"))).before args0 about1 = true := code_word (m := ⟨10, 4⟩) (meth := k10m4) (c := k10c4) (by decide +kernel) rfl rfl rfl (by decide +kernel)
set_option maxRecDepth 65536 in
theorem w_c10 : (Jvm.Cond.code ({ cls := "java/lang/String", name := "length", desc := "()I" } : Jvm.MethodName) jdk_42_method_54_code (1 : Nat) (Option.some Jvm.ClassFile.FieldType.int)).before args0 about1 = true := code_word (m := ⟨7, 3⟩) (meth := k7m3) (c := k7c3) (by decide +kernel) rfl rfl rfl (by decide +kernel)
set_option maxRecDepth 65536 in
theorem w_c11 : (Jvm.Cond.code ({ cls := "java/lang/String", name := "coder", desc := "()B" } : Jvm.MethodName) jdk_42_method_152_code (1 : Nat) (Option.some Jvm.ClassFile.FieldType.byte)).before args0 about1 = true := code_word (m := ⟨7, 10⟩) (meth := k7m10) (c := k7c10) (by decide +kernel) rfl rfl rfl (by decide +kernel)
set_option maxRecDepth 65536 in
theorem w_c12 : (Jvm.Cond.code ({ cls := "java/lang/AbstractStringBuilder", name := "ensureCapacityInternal", desc := "(I)V" } : Jvm.MethodName) jdk_68_method_9_code (3 : Nat) (Option.none : Option Jvm.ClassFile.FieldType)).before args0 about1 = true := code_word (m := ⟨10, 3⟩) (meth := k10m3) (c := k10c3) (by decide +kernel) rfl rfl rfl (by decide +kernel)
set_option maxRecDepth 65536 in
theorem w_c13 : (Jvm.Cond.code ({ cls := "java/lang/AbstractStringBuilder", name := "putStringAt", desc := "(ILjava/lang/String;)V" } : Jvm.MethodName) jdk_68_method_73_code (3 : Nat) (Option.none : Option Jvm.ClassFile.FieldType)).before args0 about1 = true := code_word (m := ⟨10, 8⟩) (meth := k10m8) (c := k10c8) (by decide +kernel) rfl rfl rfl (by decide +kernel)
set_option maxRecDepth 65536 in
theorem w_c14 : (Jvm.Cond.code ({ cls := "java/lang/AbstractStringBuilder", name := "inflateIfNeededFor", desc := "(Ljava/lang/String;)V" } : Jvm.MethodName) jdk_68_method_71_code (2 : Nat) (Option.none : Option Jvm.ClassFile.FieldType)).before args0 about1 = true := code_word (m := ⟨10, 7⟩) (meth := k10m7) (c := k10c7) (by decide +kernel) rfl rfl rfl (by decide +kernel)
set_option maxRecDepth 65536 in
theorem w_c15 : (Jvm.Cond.code ({ cls := "java/lang/String", name := "getBytes", desc := "([BIB)V" } : Jvm.MethodName) jdk_42_method_147_code (4 : Nat) (Option.none : Option Jvm.ClassFile.FieldType)).before args0 about1 = true := code_word (m := ⟨7, 6⟩) (meth := k7m6) (c := k7c6) (by decide +kernel) rfl rfl rfl (by decide +kernel)
set_option maxRecDepth 65536 in
theorem w_c16 : (Jvm.Cond.code ({ cls := "java/lang/StringBuilder", name := "toString", desc := "()Ljava/lang/String;" } : Jvm.MethodName) jdk_67_method_42_code (1 : Nat) (Option.some (Jvm.ClassFile.FieldType.object "java/lang/String"))).before args0 about1 = true := code_word (m := ⟨11, 2⟩) (meth := k11m2) (c := k11c2) (by decide +kernel) rfl rfl rfl (by decide +kernel)
set_option maxRecDepth 65536 in
theorem w_c17 : (Jvm.Cond.code ({ cls := "java/lang/String", name := "<init>", desc := "(Ljava/lang/StringBuilder;)V" } : Jvm.MethodName) jdk_42_method_53_code (2 : Nat) (Option.none : Option Jvm.ClassFile.FieldType)).before args0 about1 = true := code_word (m := ⟨7, 2⟩) (meth := k7m2) (c := k7c2) (by decide +kernel) rfl rfl rfl (by decide +kernel)
set_option maxRecDepth 65536 in
theorem w_c18 : (Jvm.Cond.code ({ cls := "java/lang/String", name := "<init>", desc := "(Ljava/lang/AbstractStringBuilder;Ljava/lang/Void;)V" } : Jvm.MethodName) jdk_42_method_150_code (5 : Nat) (Option.none : Option Jvm.ClassFile.FieldType)).before args0 about1 = true := code_word (m := ⟨7, 8⟩) (meth := k7m8) (c := k7c8) (by decide +kernel) rfl rfl rfl (by decide +kernel)
set_option maxRecDepth 65536 in
theorem w_c19 : (Jvm.Cond.code ({ cls := "java/lang/AbstractStringBuilder", name := "getValue", desc := "()[B" } : Jvm.MethodName) jdk_68_method_64_code (1 : Nat) (Option.some (Jvm.ClassFile.FieldType.array Jvm.ClassFile.FieldType.byte))).before args0 about1 = true := code_word (m := ⟨10, 5⟩) (meth := k10m5) (c := k10c5) (by decide +kernel) rfl rfl rfl (by decide +kernel)
set_option maxRecDepth 65536 in
theorem w_c20 : (Jvm.Cond.code ({ cls := "java/lang/StringBuilder", name := "length", desc := "()I" } : Jvm.MethodName) jdk_67_method_93_code (1 : Nat) (Option.some Jvm.ClassFile.FieldType.int)).before args0 about1 = true := code_word (m := ⟨11, 3⟩) (meth := k11m3) (c := k11c3) (by decide +kernel) rfl rfl rfl (by decide +kernel)
set_option maxRecDepth 65536 in
theorem w_c21 : (Jvm.Cond.code ({ cls := "java/lang/AbstractStringBuilder", name := "length", desc := "()I" } : Jvm.MethodName) jdk_68_method_6_code (1 : Nat) (Option.some Jvm.ClassFile.FieldType.int)).before args0 about1 = true := code_word (m := ⟨10, 2⟩) (meth := k10m2) (c := k10c2) (by decide +kernel) rfl rfl rfl (by decide +kernel)
set_option maxRecDepth 65536 in
theorem w_c22 : (Jvm.Cond.code ({ cls := "java/lang/AbstractStringBuilder", name := "isLatin1", desc := "()Z" } : Jvm.MethodName) jdk_68_method_68_code (1 : Nat) (Option.some Jvm.ClassFile.FieldType.boolean)).before args0 about1 = true := code_word (m := ⟨10, 6⟩) (meth := k10m6) (c := k10c6) (by decide +kernel) rfl rfl rfl (by decide +kernel)
set_option maxRecDepth 65536 in
theorem w_c23 : (Jvm.Cond.code ({ cls := "java/util/Arrays", name := "copyOfRange", desc := "([BII)[B" } : Jvm.MethodName) jdk_65_method_132_code (3 : Nat) (Option.some (Jvm.ClassFile.FieldType.array Jvm.ClassFile.FieldType.byte))).before args0 about1 = true := code_word (m := ⟨13, 2⟩) (meth := k13m2) (c := k13c2) (by decide +kernel) rfl rfl rfl (by decide +kernel)
set_option maxRecDepth 65536 in
theorem w_c24 : (Jvm.Cond.code ({ cls := "java/util/Arrays", name := "copyOfRangeByte", desc := "([BII)[B" } : Jvm.MethodName) jdk_65_method_133_code (5 : Nat) (Option.some (Jvm.ClassFile.FieldType.array Jvm.ClassFile.FieldType.byte))).before args0 about1 = true := code_word (m := ⟨13, 3⟩) (meth := k13m3) (c := k13c3) (by decide +kernel) rfl rfl rfl (by decide +kernel)
set_option maxRecDepth 65536 in
theorem w_c25 : (Jvm.Cond.code ({ cls := "java/util/Arrays", name := "checkLength", desc := "(II)V" } : Jvm.MethodName) jdk_65_method_131_code (2 : Nat) (Option.none : Option Jvm.ClassFile.FieldType)).before args0 about1 = true := code_word (m := ⟨13, 1⟩) (meth := k13m1) (c := k13c1) (by decide +kernel) rfl rfl rfl (by decide +kernel)
set_option maxRecDepth 65536 in
theorem w_c26 : (Jvm.Cond.code ({ cls := "java/lang/Math", name := "min", desc := "(II)I" } : Jvm.MethodName) jdk_29_method_69_code (2 : Nat) (Option.some Jvm.ClassFile.FieldType.int)).before args0 about1 = true := code_word (m := ⟨14, 1⟩) (meth := k14m1) (c := k14c1) (by decide +kernel) rfl rfl rfl (by decide +kernel)
set_option maxRecDepth 65536 in
theorem w_c27 : (Jvm.Cond.code ({ cls := "java/lang/String", name := "toLowerCase", desc := "(Ljava/util/Locale;)Ljava/lang/String;" } : Jvm.MethodName) jdk_42_method_109_code (2 : Nat) (Option.some (Jvm.ClassFile.FieldType.object "java/lang/String"))).before args0 about1 = true := code_word (m := ⟨7, 5⟩) (meth := k7m5) (c := k7c5) (by decide +kernel) rfl rfl rfl (by decide +kernel)
set_option maxRecDepth 65536 in
theorem w_c28 : (Jvm.Cond.code ({ cls := "java/lang/String", name := "isLatin1", desc := "()Z" } : Jvm.MethodName) jdk_42_method_154_code (1 : Nat) (Option.some Jvm.ClassFile.FieldType.boolean)).before args0 about1 = true := code_word (m := ⟨7, 11⟩) (meth := k7m11) (c := k7c11) (by decide +kernel) rfl rfl rfl (by decide +kernel)
set_option maxRecDepth 65536 in
theorem w_c29 : (Jvm.Cond.code ({ cls := "java/lang/StringLatin1", name := "toLowerCase", desc := "(Ljava/lang/String;[BLjava/util/Locale;)Ljava/lang/String;" } : Jvm.MethodName) jdk_43_method_32_code (9 : Nat) (Option.some (Jvm.ClassFile.FieldType.object "java/lang/String"))).before args0 about1 = true := code_word (m := ⟨17, 3⟩) (meth := k17m3) (c := k17c3) (by decide +kernel) rfl rfl rfl (by decide +kernel)
set_option maxRecDepth 65536 in
theorem w_c30 : (Jvm.Cond.code ({ cls := "java/lang/CharacterDataLatin1", name := "toLowerCase", desc := "(I)I" } : Jvm.MethodName) jdk_116_method_20_code (3 : Nat) (Option.some Jvm.ClassFile.FieldType.int)).before args0 about1 = true := code_word (m := ⟨19, 0⟩) (meth := k19m0) (c := k19c0) (by decide +kernel) rfl rfl rfl (by decide +kernel)
set_option maxRecDepth 65536 in
theorem w_c31 : (Jvm.Cond.code ({ cls := "com/example/wakeline/index/IndexNamesForTablePinLaw", name := "seg", desc := "(Ljava/lang/String;III)Z" } : Jvm.MethodName) method_6_code (4 : Nat) (Option.some Jvm.ClassFile.FieldType.boolean)).before args0 about1 = true := code_word (m := ⟨1, 5⟩) (meth := k1m5) (c := k1c5) (by decide +kernel) rfl rfl rfl (by decide +kernel)
set_option maxRecDepth 65536 in
theorem w_c32 : (Jvm.Cond.code ({ cls := "java/lang/String", name := "charAt", desc := "(I)C" } : Jvm.MethodName) jdk_42_method_56_code (2 : Nat) (Option.some Jvm.ClassFile.FieldType.char)).before args0 about1 = true := code_word (m := ⟨7, 4⟩) (meth := k7m4) (c := k7c4) (by decide +kernel) rfl rfl rfl (by decide +kernel)
set_option maxRecDepth 65536 in
theorem w_c33 : (Jvm.Cond.code ({ cls := "java/lang/StringLatin1", name := "charAt", desc := "([BI)C" } : Jvm.MethodName) jdk_43_method_2_code (2 : Nat) (Option.some Jvm.ClassFile.FieldType.char)).before args0 about1 = true := code_word (m := ⟨17, 1⟩) (meth := k17m1) (c := k17c1) (by decide +kernel) rfl rfl rfl (by decide +kernel)
set_option maxRecDepth 65536 in
theorem w_c34 : (Jvm.Cond.code ({ cls := "java/lang/String", name := "checkIndex", desc := "(II)V" } : Jvm.MethodName) jdk_42_method_155_code (2 : Nat) (Option.none : Option Jvm.ClassFile.FieldType)).before args0 about1 = true := code_word (m := ⟨7, 12⟩) (meth := k7m12) (c := k7c12) (by decide +kernel) rfl rfl rfl (by decide +kernel)
set_option maxRecDepth 65536 in
theorem w_c35 : (Jvm.Cond.code ({ cls := "jdk/internal/util/Preconditions", name := "checkIndex", desc := "(IILjava/util/function/BiFunction;)I" } : Jvm.MethodName) jdk_41_method_11_code (3 : Nat) (Option.some Jvm.ClassFile.FieldType.int)).before args0 about1 = true := code_word (m := ⟨20, 1⟩) (meth := k20m1) (c := k20c1) (by decide +kernel) rfl rfl rfl (by decide +kernel)
set_option maxRecDepth 65536 in
theorem w_c36 : (Jvm.Cond.code ({ cls := "com/example/wakeline/index/IndexNamesForTablePinLaw", name := "ch", desc := "(II)C" } : Jvm.MethodName) method_3_code (2 : Nat) (Option.some Jvm.ClassFile.FieldType.char)).before args0 about1 = true := code_word (m := ⟨1, 2⟩) (meth := k1m2) (c := k1c2) (by decide +kernel) rfl rfl rfl (by decide +kernel)
set_option maxRecDepth 65536 in
theorem w_c37 : (Jvm.Cond.code ({ cls := "java/lang/StringUTF16", name := "compress", desc := "([CII)[B" } : Jvm.MethodName) jdk_52_method_16_code (6 : Nat) (Option.some (Jvm.ClassFile.FieldType.array Jvm.ClassFile.FieldType.byte))).before args0 about1 = true := code_word (m := ⟨21, 2⟩) (meth := k21m2) (c := k21c2) (by decide +kernel) rfl rfl rfl (by decide +kernel)
set_option maxRecDepth 65536 in
theorem w_c38 : (Jvm.Cond.code ({ cls := "java/lang/StringUTF16", name := "compress", desc := "([CI[BII)I" } : Jvm.MethodName) jdk_52_method_21_code (7 : Nat) (Option.some Jvm.ClassFile.FieldType.int)).before args0 about1 = true := code_word (m := ⟨21, 3⟩) (meth := k21m3) (c := k21c3) (by decide +kernel) rfl rfl rfl (by decide +kernel)
set_option maxRecDepth 65536 in
theorem w_c39 : (Jvm.Cond.code ({ cls := "java/lang/StringUTF16", name := "coderFromArrayLen", desc := "([BI)B" } : Jvm.MethodName) jdk_52_method_15_code (2 : Nat) (Option.some Jvm.ClassFile.FieldType.byte)).before args0 about1 = true := code_word (m := ⟨21, 1⟩) (meth := k21m1) (c := k21c1) (by decide +kernel) rfl rfl rfl (by decide +kernel)
set_option maxRecDepth 65536 in
theorem w_c40 : (Jvm.Cond.code ({ cls := "java/util/Locale", name := "getLanguage", desc := "()Ljava/lang/String;" } : Jvm.MethodName) jdk_2628_method_27_code (1 : Nat) (Option.some (Jvm.ClassFile.FieldType.object "java/lang/String"))).before args0 about1 = true := code_word (m := ⟨16, 0⟩) (meth := k16m0) (c := k16c0) (by decide +kernel) rfl rfl rfl (by decide +kernel)
set_option maxRecDepth 65536 in
theorem w_c41 : (Jvm.Cond.code ({ cls := "sun/util/locale/BaseLocale", name := "getLanguage", desc := "()Ljava/lang/String;" } : Jvm.MethodName) jdk_3003_method_5_code (1 : Nat) (Option.some (Jvm.ClassFile.FieldType.object "java/lang/String"))).before args0 about1 = true := code_word (m := ⟨22, 0⟩) (meth := k22m0) (c := k22c0) (by decide +kernel) rfl rfl rfl (by decide +kernel)
set_option maxRecDepth 65536 in
theorem w_c42 : (Jvm.Cond.code ({ cls := "java/lang/StringLatin1", name := "canEncode", desc := "(I)Z" } : Jvm.MethodName) jdk_43_method_4_code (1 : Nat) (Option.some Jvm.ClassFile.FieldType.boolean)).before args0 about1 = true := code_word (m := ⟨17, 2⟩) (meth := k17m2) (c := k17c2) (by decide +kernel) rfl rfl rfl (by decide +kernel)
set_option maxRecDepth 65536 in
theorem w_c43 : (Jvm.Cond.code ({ cls := "java/lang/String", name := "<init>", desc := "([BB)V" } : Jvm.MethodName) jdk_42_method_151_code (3 : Nat) (Option.none : Option Jvm.ClassFile.FieldType)).before args0 about1 = true := code_word (m := ⟨7, 9⟩) (meth := k7m9) (c := k7c9) (by decide +kernel) rfl rfl rfl (by decide +kernel)
set_option maxRecDepth 65536 in
theorem w_c44 : (Jvm.Cond.code ({ cls := "com/example/wakeline/index/IndexNamesForTablePinLaw", name := "low", desc := "(C)C" } : Jvm.MethodName) method_5_code (1 : Nat) (Option.some Jvm.ClassFile.FieldType.char)).before args0 about1 = true := code_word (m := ⟨1, 4⟩) (meth := k1m4) (c := k1c4) (by decide +kernel) rfl rfl rfl (by decide +kernel)
def codes1 : List Jvm.Cond := [Jvm.Cond.code x code maxLocals ret, Jvm.Cond.code ({ cls := "com/example/wakeline/index/IndexNamesForTablePinLaw", name := "mk", desc := "(I)Ljava/lang/String;" } : Jvm.MethodName) method_4_code (2 : Nat) (Option.some (Jvm.ClassFile.FieldType.object "java/lang/String")), Jvm.Cond.code ({ cls := "java/lang/String", name := "<init>", desc := "([C)V" } : Jvm.MethodName) jdk_42_method_3_code (2 : Nat) (Option.none : Option Jvm.ClassFile.FieldType), Jvm.Cond.code ({ cls := "java/lang/String", name := "<init>", desc := "([CIILjava/lang/Void;)V" } : Jvm.MethodName) jdk_42_method_149_code (6 : Nat) (Option.none : Option Jvm.ClassFile.FieldType), Jvm.Cond.code ({ cls := "java/lang/Object", name := "<init>", desc := "()V" } : Jvm.MethodName) object_method_1_code (1 : Nat) (Option.none : Option Jvm.ClassFile.FieldType), Jvm.Cond.code ({ cls := "com/example/wakeline/index/IndexNames", name := "forTable", desc := "(Ljava/lang/String;Ljava/lang/String;Ljava/lang/String;)Ljava/lang/String;" } : Jvm.MethodName) prog_25_method_2_code (3 : Nat) (Option.some (Jvm.ClassFile.FieldType.object "java/lang/String")), Jvm.Cond.code ({ cls := "java/lang/StringBuilder", name := "<init>", desc := "()V" } : Jvm.MethodName) jdk_67_method_1_code (1 : Nat) (Option.none : Option Jvm.ClassFile.FieldType), Jvm.Cond.code ({ cls := "java/lang/AbstractStringBuilder", name := "<init>", desc := "(I)V" } : Jvm.MethodName) jdk_68_method_2_code (2 : Nat) (Option.none : Option Jvm.ClassFile.FieldType), Jvm.Cond.code ({ cls := "java/lang/StringBuilder", name := "append", desc := "(Ljava/lang/String;)Ljava/lang/StringBuilder;" } : Jvm.MethodName) jdk_67_method_7_code (2 : Nat) (Option.some (Jvm.ClassFile.FieldType.object "java/lang/StringBuilder")), Jvm.Cond.code ({ cls := "java/lang/AbstractStringBuilder", name := "append", desc := "(Ljava/lang/String;)Ljava/lang/AbstractStringBuilder;" } : Jvm.MethodName) jdk_68_method_22_code (3 : Nat) (Option.some (Jvm.ClassFile.FieldType.object "java/lang/AbstractStringBuilder")), Jvm.Cond.code ({ cls := "java/lang/String", name := "length", desc := "()I" } : Jvm.MethodName) jdk_42_method_54_code (1 : Nat) (Option.some Jvm.ClassFile.FieldType.int), Jvm.Cond.code ({ cls := "java/lang/String", name := "coder", desc := "()B" } : Jvm.MethodName) jdk_42_method_152_code (1 : Nat) (Option.some Jvm.ClassFile.FieldType.byte), Jvm.Cond.code ({ cls := "java/lang/AbstractStringBuilder", name := "ensureCapacityInternal", desc := "(I)V" } : Jvm.MethodName) jdk_68_method_9_code (3 : Nat) (Option.none : Option Jvm.ClassFile.FieldType), Jvm.Cond.code ({ cls := "java/lang/AbstractStringBuilder", name := "putStringAt", desc := "(ILjava/lang/String;)V" } : Jvm.MethodName) jdk_68_method_73_code (3 : Nat) (Option.none : Option Jvm.ClassFile.FieldType), Jvm.Cond.code ({ cls := "java/lang/AbstractStringBuilder", name := "inflateIfNeededFor", desc := "(Ljava/lang/String;)V" } : Jvm.MethodName) jdk_68_method_71_code (2 : Nat) (Option.none : Option Jvm.ClassFile.FieldType), Jvm.Cond.code ({ cls := "java/lang/String", name := "getBytes", desc := "([BIB)V" } : Jvm.MethodName) jdk_42_method_147_code (4 : Nat) (Option.none : Option Jvm.ClassFile.FieldType), Jvm.Cond.code ({ cls := "java/lang/StringBuilder", name := "toString", desc := "()Ljava/lang/String;" } : Jvm.MethodName) jdk_67_method_42_code (1 : Nat) (Option.some (Jvm.ClassFile.FieldType.object "java/lang/String")), Jvm.Cond.code ({ cls := "java/lang/String", name := "<init>", desc := "(Ljava/lang/StringBuilder;)V" } : Jvm.MethodName) jdk_42_method_53_code (2 : Nat) (Option.none : Option Jvm.ClassFile.FieldType), Jvm.Cond.code ({ cls := "java/lang/String", name := "<init>", desc := "(Ljava/lang/AbstractStringBuilder;Ljava/lang/Void;)V" } : Jvm.MethodName) jdk_42_method_150_code (5 : Nat) (Option.none : Option Jvm.ClassFile.FieldType), Jvm.Cond.code ({ cls := "java/lang/AbstractStringBuilder", name := "getValue", desc := "()[B" } : Jvm.MethodName) jdk_68_method_64_code (1 : Nat) (Option.some (Jvm.ClassFile.FieldType.array Jvm.ClassFile.FieldType.byte)), Jvm.Cond.code ({ cls := "java/lang/StringBuilder", name := "length", desc := "()I" } : Jvm.MethodName) jdk_67_method_93_code (1 : Nat) (Option.some Jvm.ClassFile.FieldType.int), Jvm.Cond.code ({ cls := "java/lang/AbstractStringBuilder", name := "length", desc := "()I" } : Jvm.MethodName) jdk_68_method_6_code (1 : Nat) (Option.some Jvm.ClassFile.FieldType.int), Jvm.Cond.code ({ cls := "java/lang/AbstractStringBuilder", name := "isLatin1", desc := "()Z" } : Jvm.MethodName) jdk_68_method_68_code (1 : Nat) (Option.some Jvm.ClassFile.FieldType.boolean), Jvm.Cond.code ({ cls := "java/util/Arrays", name := "copyOfRange", desc := "([BII)[B" } : Jvm.MethodName) jdk_65_method_132_code (3 : Nat) (Option.some (Jvm.ClassFile.FieldType.array Jvm.ClassFile.FieldType.byte)), Jvm.Cond.code ({ cls := "java/util/Arrays", name := "copyOfRangeByte", desc := "([BII)[B" } : Jvm.MethodName) jdk_65_method_133_code (5 : Nat) (Option.some (Jvm.ClassFile.FieldType.array Jvm.ClassFile.FieldType.byte)), Jvm.Cond.code ({ cls := "java/util/Arrays", name := "checkLength", desc := "(II)V" } : Jvm.MethodName) jdk_65_method_131_code (2 : Nat) (Option.none : Option Jvm.ClassFile.FieldType), Jvm.Cond.code ({ cls := "java/lang/Math", name := "min", desc := "(II)I" } : Jvm.MethodName) jdk_29_method_69_code (2 : Nat) (Option.some Jvm.ClassFile.FieldType.int), Jvm.Cond.code ({ cls := "java/lang/String", name := "toLowerCase", desc := "(Ljava/util/Locale;)Ljava/lang/String;" } : Jvm.MethodName) jdk_42_method_109_code (2 : Nat) (Option.some (Jvm.ClassFile.FieldType.object "java/lang/String")), Jvm.Cond.code ({ cls := "java/lang/String", name := "isLatin1", desc := "()Z" } : Jvm.MethodName) jdk_42_method_154_code (1 : Nat) (Option.some Jvm.ClassFile.FieldType.boolean), Jvm.Cond.code ({ cls := "java/lang/StringLatin1", name := "toLowerCase", desc := "(Ljava/lang/String;[BLjava/util/Locale;)Ljava/lang/String;" } : Jvm.MethodName) jdk_43_method_32_code (9 : Nat) (Option.some (Jvm.ClassFile.FieldType.object "java/lang/String")), Jvm.Cond.code ({ cls := "java/lang/CharacterDataLatin1", name := "toLowerCase", desc := "(I)I" } : Jvm.MethodName) jdk_116_method_20_code (3 : Nat) (Option.some Jvm.ClassFile.FieldType.int), Jvm.Cond.code ({ cls := "com/example/wakeline/index/IndexNamesForTablePinLaw", name := "seg", desc := "(Ljava/lang/String;III)Z" } : Jvm.MethodName) method_6_code (4 : Nat) (Option.some Jvm.ClassFile.FieldType.boolean), Jvm.Cond.code ({ cls := "java/lang/String", name := "charAt", desc := "(I)C" } : Jvm.MethodName) jdk_42_method_56_code (2 : Nat) (Option.some Jvm.ClassFile.FieldType.char), Jvm.Cond.code ({ cls := "java/lang/StringLatin1", name := "charAt", desc := "([BI)C" } : Jvm.MethodName) jdk_43_method_2_code (2 : Nat) (Option.some Jvm.ClassFile.FieldType.char), Jvm.Cond.code ({ cls := "java/lang/String", name := "checkIndex", desc := "(II)V" } : Jvm.MethodName) jdk_42_method_155_code (2 : Nat) (Option.none : Option Jvm.ClassFile.FieldType), Jvm.Cond.code ({ cls := "jdk/internal/util/Preconditions", name := "checkIndex", desc := "(IILjava/util/function/BiFunction;)I" } : Jvm.MethodName) jdk_41_method_11_code (3 : Nat) (Option.some Jvm.ClassFile.FieldType.int), Jvm.Cond.code ({ cls := "com/example/wakeline/index/IndexNamesForTablePinLaw", name := "ch", desc := "(II)C" } : Jvm.MethodName) method_3_code (2 : Nat) (Option.some Jvm.ClassFile.FieldType.char), Jvm.Cond.code ({ cls := "java/lang/StringUTF16", name := "compress", desc := "([CII)[B" } : Jvm.MethodName) jdk_52_method_16_code (6 : Nat) (Option.some (Jvm.ClassFile.FieldType.array Jvm.ClassFile.FieldType.byte)), Jvm.Cond.code ({ cls := "java/lang/StringUTF16", name := "compress", desc := "([CI[BII)I" } : Jvm.MethodName) jdk_52_method_21_code (7 : Nat) (Option.some Jvm.ClassFile.FieldType.int), Jvm.Cond.code ({ cls := "java/lang/StringUTF16", name := "coderFromArrayLen", desc := "([BI)B" } : Jvm.MethodName) jdk_52_method_15_code (2 : Nat) (Option.some Jvm.ClassFile.FieldType.byte), Jvm.Cond.code ({ cls := "java/util/Locale", name := "getLanguage", desc := "()Ljava/lang/String;" } : Jvm.MethodName) jdk_2628_method_27_code (1 : Nat) (Option.some (Jvm.ClassFile.FieldType.object "java/lang/String")), Jvm.Cond.code ({ cls := "sun/util/locale/BaseLocale", name := "getLanguage", desc := "()Ljava/lang/String;" } : Jvm.MethodName) jdk_3003_method_5_code (1 : Nat) (Option.some (Jvm.ClassFile.FieldType.object "java/lang/String")), Jvm.Cond.code ({ cls := "java/lang/StringLatin1", name := "canEncode", desc := "(I)Z" } : Jvm.MethodName) jdk_43_method_4_code (1 : Nat) (Option.some Jvm.ClassFile.FieldType.boolean), Jvm.Cond.code ({ cls := "java/lang/String", name := "<init>", desc := "([BB)V" } : Jvm.MethodName) jdk_42_method_151_code (3 : Nat) (Option.none : Option Jvm.ClassFile.FieldType), Jvm.Cond.code ({ cls := "com/example/wakeline/index/IndexNamesForTablePinLaw", name := "low", desc := "(C)C" } : Jvm.MethodName) method_5_code (1 : Nat) (Option.some Jvm.ClassFile.FieldType.char)]
set_option maxRecDepth 65536 in
theorem codes_eq : words1.filter isCode = codes1 := rfl
theorem w_codes : ∀ c ∈ words1.filter isCode, c.before args0 about1 = true := by
  rw [codes_eq]
  intro c hc
  simp only [codes1, List.mem_cons, List.not_mem_nil, or_false] at hc
  rcases hc with rfl | rfl | rfl | rfl | rfl | rfl | rfl | rfl | rfl | rfl | rfl | rfl | rfl | rfl | rfl | rfl | rfl | rfl | rfl | rfl | rfl | rfl | rfl | rfl | rfl | rfl | rfl | rfl | rfl | rfl | rfl | rfl | rfl | rfl | rfl | rfl | rfl | rfl | rfl | rfl | rfl | rfl | rfl | rfl | rfl
  · exact w_c0
  · exact w_c1
  · exact w_c2
  · exact w_c3
  · exact w_c4
  · exact w_c5
  · exact w_c6
  · exact w_c7
  · exact w_c8
  · exact w_c9
  · exact w_c10
  · exact w_c11
  · exact w_c12
  · exact w_c13
  · exact w_c14
  · exact w_c15
  · exact w_c16
  · exact w_c17
  · exact w_c18
  · exact w_c19
  · exact w_c20
  · exact w_c21
  · exact w_c22
  · exact w_c23
  · exact w_c24
  · exact w_c25
  · exact w_c26
  · exact w_c27
  · exact w_c28
  · exact w_c29
  · exact w_c30
  · exact w_c31
  · exact w_c32
  · exact w_c33
  · exact w_c34
  · exact w_c35
  · exact w_c36
  · exact w_c37
  · exact w_c38
  · exact w_c39
  · exact w_c40
  · exact w_c41
  · exact w_c42
  · exact w_c43
  · exact w_c44
set_option maxRecDepth 65536 in
theorem w_t1 : (words1.take 24).all (fun c => isCode c || c.before args0 about1) = true := by decide +kernel
set_option maxRecDepth 65536 in
theorem w_t2 : ((words1.drop 24).take 24).all (fun c => isCode c || c.before args0 about1) = true := by decide +kernel
set_option maxRecDepth 65536 in
theorem w_t3 : (((words1.drop 24).drop 24).take 24).all (fun c => isCode c || c.before args0 about1) = true := by decide +kernel
set_option maxRecDepth 65536 in
theorem w_t4 : ((((words1.drop 24).drop 24).drop 24).take 24).all (fun c => isCode c || c.before args0 about1) = true := by decide +kernel
set_option maxRecDepth 65536 in
theorem w_t5 : (((((words1.drop 24).drop 24).drop 24).drop 24).take 24).all (fun c => isCode c || c.before args0 about1) = true := by decide +kernel
set_option maxRecDepth 65536 in
theorem w_t6 : ((((((words1.drop 24).drop 24).drop 24).drop 24).drop 24).take 24).all (fun c => isCode c || c.before args0 about1) = true := by decide +kernel
set_option maxRecDepth 65536 in
theorem w_t7 : (((((((words1.drop 24).drop 24).drop 24).drop 24).drop 24).drop 24).take 24).all (fun c => isCode c || c.before args0 about1) = true := by decide +kernel
set_option maxRecDepth 65536 in
theorem w_t8 : ((((((((words1.drop 24).drop 24).drop 24).drop 24).drop 24).drop 24).drop 24).take 24).all (fun c => isCode c || c.before args0 about1) = true := by decide +kernel
set_option maxRecDepth 65536 in
theorem w_t9 : (((((((((words1.drop 24).drop 24).drop 24).drop 24).drop 24).drop 24).drop 24).drop 24).take 24).all (fun c => isCode c || c.before args0 about1) = true := by decide +kernel
set_option maxRecDepth 65536 in
theorem w_t10 : (((((((((words1.drop 24).drop 24).drop 24).drop 24).drop 24).drop 24).drop 24).drop 24).drop 24).all (fun c => isCode c || c.before args0 about1) = true := by decide +kernel
theorem w_tables : (allAtoms (Jvm.Cond.code x code maxLocals ret :: tables_1)).before args0 about1 = true := by
  rw [allAtoms_all]
  show words1.all (fun c => c.before args0 about1) = true
  refine all_split ?_ w_codes
  rw [← List.take_append_drop 24 words1, List.all_append, w_t1, ← List.take_append_drop 24 (words1.drop 24), List.all_append, w_t2, ← List.take_append_drop 24 ((words1.drop 24).drop 24), List.all_append, w_t3, ← List.take_append_drop 24 (((words1.drop 24).drop 24).drop 24), List.all_append, w_t4, ← List.take_append_drop 24 ((((words1.drop 24).drop 24).drop 24).drop 24), List.all_append, w_t5, ← List.take_append_drop 24 (((((words1.drop 24).drop 24).drop 24).drop 24).drop 24), List.all_append, w_t6, ← List.take_append_drop 24 ((((((words1.drop 24).drop 24).drop 24).drop 24).drop 24).drop 24), List.all_append, w_t7, ← List.take_append_drop 24 (((((((words1.drop 24).drop 24).drop 24).drop 24).drop 24).drop 24).drop 24), List.all_append, w_t8, ← List.take_append_drop 24 ((((((((words1.drop 24).drop 24).drop 24).drop 24).drop 24).drop 24).drop 24).drop 24), List.all_append, w_t9, w_t10]
  rfl
set_option maxRecDepth 65536 in
theorem w_rest : rest_1_c.before args0 about1 = true := by decide +kernel
set_option maxRecDepth 65536 in
theorem w_case : (Jvm.Cond.and given_1 narrow_1).before args0 about1 = true := by decide +kernel
set_option maxRecDepth 65536 in
theorem w_consts : constsHeld consts_1 about1 := Jvm.Lit.constsHeldB_iff.mp (by decide +kernel)
theorem w_applies : (headSpec (Jvm.Cond.code x code maxLocals ret :: tables_1) room_1).applies x e0.platform about1 = true :=
  (Spec.applies_iff w_frames).mpr ⟨w_running, w_runnable, w_alone, w_named, w_hears, w_ripe, w_room, w_tables⟩
theorem atStart : AtStart classFile x code maxLocals ret World_1 tables_1 room_1 Calls_1 rest_1 Pre_1 launch0 p0 e0 about1 theMethod args0 below0 :=
  ⟨lists_1, trivial, launch0.admits_env _ _ _, launch0.least_env, fairChoices_fair.cas, fairChoices_fair.clock, w_frames, w_args, w_heap, w_applies, ⟨w_consts, trivial⟩, w_rest, w_case⟩
end start1
theorem witness_1 : WitnessClaimed_1 := ⟨start1.p0, start1.e0, start1.about1, start1.theMethod, start1.args0, start1.below0, start1.atStart⟩
end Jvm.Pilot.@@N@@
