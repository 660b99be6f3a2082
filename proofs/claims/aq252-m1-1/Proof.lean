import JvmDerived
import JvmDerived.Pilot.@@N@@Statement
import JvmDerived.Pilot.@@N@@Code
set_option linter.unusedVariables false
set_option linter.unusedSimpArgs false
/-! A small kit of this prover's own: walks in weakest-precondition style, over the library's Stand, its held constants (CHv, CHr, Safe) and its wide ends. General text: no program in it. -/
namespace Jvm.Own
open Sem ClassFile Op Lib Bundle Jvm.Stand Jvm.Free Jvm.LawKit Jvm.RoadKit
/-- what stays the same through the whole law: the launch, the start state, the law's arguments, the start heap's length, whether Strings may come to be interned, the constants held -/
abbrev Gl : Type := Launch × State × Array Value × Nat × Bool × List (String × Nat)
abbrev Gl.l (E : Gl) : Launch := E.1
abbrev Gl.Z (E : Gl) : State := E.2.1
abbrev Gl.a (E : Gl) : Array Value := E.2.2.1
abbrev Gl.n (E : Gl) : Nat := E.2.2.2.1
abbrev Gl.w (E : Gl) : Bool := E.2.2.2.2.1
abbrev Gl.K (E : Gl) : List (String × Nat) := E.2.2.2.2.2
/-- one invocation: program, environment, room, state at the invocation, method, arguments, frames below, record, code, what it promises -/
abbrev Cx : Type := Program × Env × Room × State × MethodId × Array Value × List Frame × Method × Code × (Option Value → Heap → List Addr → Prop)
abbrev Cx.p (x : Cx) : Program := x.1
abbrev Cx.e (x : Cx) : Env := x.2.1
abbrev Cx.R (x : Cx) : Room := x.2.2.1
abbrev Cx.s (x : Cx) : State := x.2.2.2.1
abbrev Cx.m (x : Cx) : MethodId := x.2.2.2.2.1
abbrev Cx.args (x : Cx) : Array Value := x.2.2.2.2.2.1
abbrev Cx.below (x : Cx) : List Frame := x.2.2.2.2.2.2.1
abbrev Cx.meth (x : Cx) : Method := x.2.2.2.2.2.2.2.1
abbrev Cx.c (x : Cx) : Code := x.2.2.2.2.2.2.2.2.1
abbrev Cx.Q (x : Cx) : Option Value → Heap → List Addr → Prop := x.2.2.2.2.2.2.2.2.2
/-- the places that this law's own code may write: made since the start, and no part of a held constant -/
def GOk (E : Gl) : Prop := EW E.Z E.a E.K ∧ (E.w = false → E.K = [])
def FOk (E : Gl) (vm : Vm) (h : Heap) (F : List Addr) : Prop := ∀ x ∈ F, E.n ≤ x ∧ x < h.size ∧ Safe E.Z E.K vm h x
def EndF (w : Bool) (s : State) (o : Outcome) (t : State) (L : List Loc) (k n : Nat) : Prop :=
  match w with
  | true => ReturnedEndW s o t L k n
  | false => FrameEnd s o t L k n
def FinC (E : Gl) (s : State) (R : Room) (Q : Option Value → Heap → List Addr → Prop) (o : Outcome) (t : State) : Prop :=
  ∃ (v : Option Value) (L : List Loc) (F' : List Addr), o = .returned v ∧ Q v t.heap F' ∧ Fr E.n L ∧ Old E.Z E.n t.heap ∧ FOk E t.vm t.heap F' ∧ CHr E.Z E.K s.vm s.heap t.vm t.heap ∧ EndF E.w s o t L R.cells R.slots
/-- A CONTRACT: called with these arguments at this heap it returns; Q says what, the heap then, and the places that may be written behind -/
def MetT (ws : List Cond) (E : Gl) (y : MethodName) (b : ByteArray) (ml : Nat) (ret : Option FieldType) (R : Room) (as' : Array Value) (h : Heap) (F : List Addr) (Q : Option Value → Heap → List Addr → Prop) : Prop :=
  MetFree E.l y (head1 (Cond.code y b ml ret :: ws) R)
    (fun a U => a = as' ∧ E.Z.Warmed39 U.vm ∧ U.heap = h ∧ Old E.Z E.n h ∧ CHv E.Z E.K U.vm h ∧ FOk E U.vm h F ∧ GOk E)
    (fun _ _ _ _ _ => True) (fun _ U o U' => FinC E U R Q o U')
abbrev Met (E : Gl) (y : MethodName) (b : ByteArray) (ml : Nat) (ret : Option FieldType) (R : Room) (as' : Array Value) (h : Heap) (F : List Addr) (Q : Option Value → Heap → List Addr → Prop) : Prop := MetT [] E y b ml ret R as' h F Q
def Is (x : Cx) (own : String) (b : ByteArray) (ml : Nat) (R : Room) (ret : Option FieldType) (nm : String) : Prop :=
  x.c.code = b ∧ x.c.maxLocals = ml ∧ x.R = R ∧ x.meth.sig.returnType = ret ∧ x.meth.name = nm ∧ x.meth.locks = false ∧ x.p.tables.exec = Jvm.exec ∧ x.s.vm.findClass own = some x.m.cls
/-- where a walk stands -/
def Wk (E : Gl) (x : Cx) (T : State) (h : Heap) (F : List Addr) (cs ss : Nat) : Prop :=
  ∃ (vm : Vm) (k : Nat) (L : List Loc), Stand x.p E.l x.e x.R (x.s.setVm vm) x.m x.args x.below x.meth x.c T L cs ss ∧ T.heap = h ∧ x.s.Since vm k ∧ k ≤ h.size ∧ (E.w = false → vm = x.s.vm) ∧
    E.Z.Warmed39 vm ∧ Fr E.n L ∧ Old E.Z E.n h ∧ CHr E.Z E.K x.s.vm x.s.heap vm h ∧ FOk E vm h F ∧ GOk E
/-- what is left to show at a frame of the walk -/
def G (E : Gl) (x : Cx) (T : State) (g : JFrame) : Prop :=
  ∃ (t : State) (o : Outcome), Steps x.p.tables x.e x.below (T.setTop g) t ∧ t.status = .running ∧ Ended t x.below o ∧ FinC E x.s x.R x.Q o t
abbrev fr (x : Cx) (pc : Nat) (Ls : Array Slot) (st : List Value) : JFrame := mkF x.m pc Ls st
/-- an instruction, its length and the next pc -/
def D (b : ByteArray) (pc : Nat) (i : Instr) (len nx : Nat) : Prop := decode b pc = .ok (i, len) ∧ pc + len = nx
/-- a jump: besides, its offset and where it leads -/
def J (b : ByteArray) (pc : Nat) (i : Instr) (len nx : Nat) (o : Int) (tg : Nat) : Prop := decode b pc = .ok (i, len) ∧ pc + len = nx ∧ 0 ≤ (pc : Int) + o ∧ ((pc : Int) + o).toNat = tg
theorem G.of {E : Gl} {x : Cx} {T T' : State} {g g' : JFrame} (hs : ∀ target, Steps x.p.tables x.e x.below (T'.setTop g') target → Steps x.p.tables x.e x.below (T.setTop g) target) (hr : G E x T' g') : G E x T g := by
  obtain ⟨t, o, h1, h2, h3, h4⟩ := hr
  exact ⟨t, o, hs _ h1, h2, h3, h4⟩
theorem G.ofS {E : Gl} {x : Cx} {T T' : State} {g g' : JFrame} (hs : Steps x.p.tables x.e x.below (T.setTop g) (T'.setTop g')) (hr : G E x T' g') : G E x T g := G.of (fun _ h => hs.trans h) hr
theorem G.cast {E : Gl} {x : Cx} {T : State} {g g' : JFrame} (q : g = g') (hr : G E x T g') : G E x T g := q ▸ hr
theorem setVm_same (s : State) : s.setVm s.vm = s := rfl
theorem met_of {ws : List Cond} {E : Gl} {y : MethodName} {b : ByteArray} {ml : Nat} {ret : Option FieldType} {R : Room} {as' : Array Value} {h : Heap} {F : List Addr} {Q : Option Value → Heap → List Addr → Prop} (pn : plainName y.cls = true)
    (body : ∀ (x : Cx) (T : State), x.Q = Q → Is x y.cls b ml R ret y.name → Wk E x T h F 0 0 → G E x T (entryFrame x.m as' ml)) : MetT ws E y b ml ret R as' h F Q := by
  refine MetFree.of_bodySF (plainFor_of_name pn) hisR ?_
  intro p e s m args below meth c s₁ Bd hml0 hP hK
  obtain ⟨rfl, hZ, hh, hO, hC, hF, hE⟩ := hP
  have X0 : Stand p E.l e R s m args below meth c s₁ [] 0 0 := Stand.of_body Bd
  have e0 : s₁.heap = h := by rw [← hh, Bd.state]; rfl
  have hlk : meth.locks = false := BodyLoose.notSynchronized Bd
  have hG := body (p, e, R, s, m, args, below, meth, c, Q) s₁ rfl ⟨Bd.bytes, hml0, rfl, Bd.returns, (name_of_methodNamed Bd.named Bd.method).1, hlk, Bd.exec, findClass_of_methodNamed Bd.named⟩
    ⟨s.vm, 0, [], X0, e0, (State.WarmedH.refl s).since 0, Nat.zero_le _, fun _ => rfl, hZ, Fr.nil _, hO, by subst hh; exact CHr.refl hC, hF, hE⟩
  exact hG
section Steps
variable {E : Gl} {x : Cx} {T : State} {h : Heap} {F : List Addr} {cs ss : Nat} {own : String} {b : ByteArray} {ml : Nat} {R : Room} {ret : Option FieldType} {nm : String} {pc nx tg : Nat} {o : Int} {Ls Ls' : Array Slot} {st : List Value}
theorem Wk.here (W : Wk E x T h F cs ss) : At T x.m x.c x.below := by obtain ⟨_, _, _, X, -⟩ := W; exact X.here
theorem Wk.old (W : Wk E x T h F cs ss) : Ext E.Z.heap h := by obtain ⟨_, _, _, _, _, _, _, _, _, _, hO, -⟩ := W; exact hO.2
theorem Wk.size (W : Wk E x T h F cs ss) : E.n ≤ h.size := by obtain ⟨_, _, _, _, _, _, _, _, _, _, hO, -⟩ := W; rw [← hO.1]; exact hO.2.1
theorem Wk.gok (W : Wk E x T h F cs ss) : GOk E := by obtain ⟨_, _, _, _, _, _, _, _, _, _, _, _, _, hE⟩ := W; exact hE
theorem Wk.mono (W : Wk E x T h F cs ss) {F' : List Addr} {cs' ss' : Nat} (hF : ∀ y ∈ F', y ∈ F) (hc : cs ≤ cs') (hs : ss ≤ ss') : Wk E x T h F' cs' ss' := by
  obtain ⟨vm, k, L, X, h1, h2, h3, h4, h5, h6, h7, h8, h9, h10⟩ := W
  exact ⟨vm, k, L, X.mono hc hs, h1, h2, h3, h4, h5, h6, h7, h8, fun y hy => h9 y (hF y hy), h10⟩
theorem Wk.fOk (W : Wk E x T h F cs ss) {a : Addr} (ha : a ∈ F) : E.n ≤ a ∧ a < h.size := by
  obtain ⟨_, _, _, _, _, _, _, _, _, _, _, _, hF, _⟩ := W; exact ⟨(hF a ha).1, (hF a ha).2.1⟩
theorem pstep (W : Wk E x T h F cs ss) {g g' : JFrame} (hs : ∀ target, At T x.m x.c x.below → Steps x.p.tables x.e x.below (T.setTop g') target → Steps x.p.tables x.e x.below (T.setTop g) target) (hr : G E x T g') : G E x T g := G.of (fun t r => hs t W.here r) hr
theorem w_iloadN (W : Wk E x T h F cs ss) (B : Is x own b ml R ret nm) {k : Fin 4} {v : Int32} (d : D b pc (.iload_n k) 1 nx) (hl : Ls[k.val]? = some (.val (.int v))) (hr : G E x T (fr x nx Ls (.int v :: st))) : G E x T (fr x pc Ls st) := by
  obtain ⟨d1, rfl⟩ := d; exact pstep W (fun _ A r => XS.iloadN A B.2.2.2.2.2.2.1 rfl (by rw [B.1]; exact d1) hl r) hr
theorem w_iload (W : Wk E x T h F cs ss) (B : Is x own b ml R ret nm) {k : Nat} {v : Int32} (d : D b pc (.iload k) 2 nx) (hl : Ls[k]? = some (.val (.int v))) (hr : G E x T (fr x nx Ls (.int v :: st))) : G E x T (fr x pc Ls st) := by
  obtain ⟨d1, rfl⟩ := d; exact pstep W (fun _ A r => XS.iload A B.2.2.2.2.2.2.1 rfl (by rw [B.1]; exact d1) hl r) hr
theorem w_lloadN (W : Wk E x T h F cs ss) (B : Is x own b ml R ret nm) {k : Fin 4} {v : Int64} (d : D b pc (.lload_n k) 1 nx) (hl : Ls[k.val]? = some (.val (.long v))) (hr : G E x T (fr x nx Ls (.long v :: st))) : G E x T (fr x pc Ls st) := by
  obtain ⟨d1, rfl⟩ := d; exact pstep W (fun _ A r => XT.lloadN A B.2.2.2.2.2.2.1 rfl (by rw [B.1]; exact d1) hl r) hr
theorem w_lload (W : Wk E x T h F cs ss) (B : Is x own b ml R ret nm) {k : Nat} {v : Int64} (d : D b pc (.lload k) 2 nx) (hl : Ls[k]? = some (.val (.long v))) (hr : G E x T (fr x nx Ls (.long v :: st))) : G E x T (fr x pc Ls st) := by
  obtain ⟨d1, rfl⟩ := d; exact pstep W (fun _ A r => XT.lload A B.2.2.2.2.2.2.1 rfl (by rw [B.1]; exact d1) hl r) hr
theorem w_aloadN (W : Wk E x T h F cs ss) (B : Is x own b ml R ret nm) {k : Fin 4} {v : Value} (d : D b pc (.aload_n k) 1 nx) (hl : Ls[k.val]? = some (.val v)) (hv : v.isRef = true) (hr : G E x T (fr x nx Ls (v :: st))) : G E x T (fr x pc Ls st) := by
  obtain ⟨d1, rfl⟩ := d; exact pstep W (fun _ A r => XS.aloadN A B.2.2.2.2.2.2.1 rfl (by rw [B.1]; exact d1) hl hv r) hr
theorem w_aload (W : Wk E x T h F cs ss) (B : Is x own b ml R ret nm) {k : Nat} {v : Value} (d : D b pc (.aload k) 2 nx) (hl : Ls[k]? = some (.val v)) (hv : v.isRef = true) (hr : G E x T (fr x nx Ls (v :: st))) : G E x T (fr x pc Ls st) := by
  obtain ⟨d1, rfl⟩ := d; exact pstep W (fun _ A r => XS.aload A B.2.2.2.2.2.2.1 rfl (by rw [B.1]; exact d1) hl hv r) hr
theorem w_istoreN (W : Wk E x T h F cs ss) (B : Is x own b ml R ret nm) {k : Fin 4} {v : Int32} (d : D b pc (.istore_n k) 1 nx) (hl : storeLocals Ls k.val (.int v) = some Ls') (hr : G E x T (fr x nx Ls' st)) : G E x T (fr x pc Ls (.int v :: st)) := by
  obtain ⟨d1, rfl⟩ := d; exact pstep W (fun _ A r => XS.istoreN A B.2.2.2.2.2.2.1 rfl (by rw [B.1]; exact d1) rfl hl r) hr
theorem w_istore (W : Wk E x T h F cs ss) (B : Is x own b ml R ret nm) {k : Nat} {v : Int32} (d : D b pc (.istore k) 2 nx) (hl : storeLocals Ls k (.int v) = some Ls') (hr : G E x T (fr x nx Ls' st)) : G E x T (fr x pc Ls (.int v :: st)) := by
  obtain ⟨d1, rfl⟩ := d; exact pstep W (fun _ A r => XS.istore A B.2.2.2.2.2.2.1 rfl (by rw [B.1]; exact d1) rfl hl r) hr
theorem w_lstoreN (W : Wk E x T h F cs ss) (B : Is x own b ml R ret nm) {k : Fin 4} {v : Int64} (d : D b pc (.lstore_n k) 1 nx) (hl : storeLocals Ls k.val (.long v) = some Ls') (hr : G E x T (fr x nx Ls' st)) : G E x T (fr x pc Ls (.long v :: st)) := by
  obtain ⟨d1, rfl⟩ := d; exact pstep W (fun _ A r => XT.lstoreN A B.2.2.2.2.2.2.1 rfl (by rw [B.1]; exact d1) rfl hl r) hr
theorem w_lstore (W : Wk E x T h F cs ss) (B : Is x own b ml R ret nm) {k : Nat} {v : Int64} (d : D b pc (.lstore k) 2 nx) (hl : storeLocals Ls k (.long v) = some Ls') (hr : G E x T (fr x nx Ls' st)) : G E x T (fr x pc Ls (.long v :: st)) := by
  obtain ⟨d1, rfl⟩ := d; exact pstep W (fun _ A r => XT.lstore A B.2.2.2.2.2.2.1 rfl (by rw [B.1]; exact d1) rfl hl r) hr
theorem w_astoreN (W : Wk E x T h F cs ss) (B : Is x own b ml R ret nm) {k : Fin 4} {v : Value} (d : D b pc (.astore_n k) 1 nx) (hv : v.isRef = true) (hl : storeLocals Ls k.val v = some Ls') (hr : G E x T (fr x nx Ls' st)) : G E x T (fr x pc Ls (v :: st)) := by
  obtain ⟨d1, rfl⟩ := d; exact pstep W (fun _ A r => XS.astoreN A B.2.2.2.2.2.2.1 rfl (by rw [B.1]; exact d1) rfl hv hl r) hr
theorem w_astore (W : Wk E x T h F cs ss) (B : Is x own b ml R ret nm) {k : Nat} {v : Value} (d : D b pc (.astore k) 2 nx) (hv : v.isRef = true) (hl : storeLocals Ls k v = some Ls') (hr : G E x T (fr x nx Ls' st)) : G E x T (fr x pc Ls (v :: st)) := by
  obtain ⟨d1, rfl⟩ := d; exact pstep W (fun _ A r => XS.astore A B.2.2.2.2.2.2.1 rfl (by rw [B.1]; exact d1) rfl hv hl r) hr
theorem w_iconst (W : Wk E x T h F cs ss) (B : Is x own b ml R ret nm) {i : Int} {v : Int32} (d : D b pc (.iconst i) 1 nx) (hv : Int32.ofInt i = v) (hr : G E x T (fr x nx Ls (.int v :: st))) : G E x T (fr x pc Ls st) := by
  obtain ⟨d1, rfl⟩ := d; subst hv; exact pstep W (fun _ A r => XS.iconst A B.2.2.2.2.2.2.1 rfl (by rw [B.1]; exact d1) r) hr
theorem w_bipush (W : Wk E x T h F cs ss) (B : Is x own b ml R ret nm) {i : Int} {v : Int32} (d : D b pc (.bipush i) 2 nx) (hv : (Int8.ofInt i).toInt32 = v) (hr : G E x T (fr x nx Ls (.int v :: st))) : G E x T (fr x pc Ls st) := by
  obtain ⟨d1, rfl⟩ := d; subst hv; exact pstep W (fun _ A r => XS.bipush A B.2.2.2.2.2.2.1 rfl (by rw [B.1]; exact d1) r) hr
theorem w_sipush (W : Wk E x T h F cs ss) (B : Is x own b ml R ret nm) {i : Int} {v : Int32} (d : D b pc (.sipush i) 3 nx) (hv : (Int16.ofInt i).toInt32 = v) (hr : G E x T (fr x nx Ls (.int v :: st))) : G E x T (fr x pc Ls st) := by
  obtain ⟨d1, rfl⟩ := d; subst hv; exact pstep W (fun _ A r => XS.sipush A B.2.2.2.2.2.2.1 rfl (by rw [B.1]; exact d1) r) hr
theorem w_lconst (W : Wk E x T h F cs ss) (B : Is x own b ml R ret nm) {i : Fin 2} {v : Int64} (d : D b pc (.lconst i) 1 nx) (hv : Int64.ofNat i = v) (hr : G E x T (fr x nx Ls (.long v :: st))) : G E x T (fr x pc Ls st) := by
  obtain ⟨d1, rfl⟩ := d; subst hv; exact pstep W (fun _ A r => XT.lconst A B.2.2.2.2.2.2.1 rfl (by rw [B.1]; exact d1) r) hr
theorem w_null (W : Wk E x T h F cs ss) (B : Is x own b ml R ret nm) (d : D b pc .aconst_null 1 nx) (hr : G E x T (fr x nx Ls (.null :: st))) : G E x T (fr x pc Ls st) := by
  obtain ⟨d1, rfl⟩ := d; exact pstep W (fun _ A r => XS.aconstNull A B.2.2.2.2.2.2.1 rfl (by rw [B.1]; exact d1) r) hr
theorem w_dup (W : Wk E x T h F cs ss) (B : Is x own b ml R ret nm) {v : Value} (d : D b pc .dup 1 nx) (hc : v.category = 1) (hr : G E x T (fr x nx Ls (v :: v :: st))) : G E x T (fr x pc Ls (v :: st)) := by
  obtain ⟨d1, rfl⟩ := d; exact pstep W (fun _ A r => XS.dup A B.2.2.2.2.2.2.1 rfl (by rw [B.1]; exact d1) rfl hc r) hr
theorem w_pop (W : Wk E x T h F cs ss) (B : Is x own b ml R ret nm) {v : Value} (d : D b pc .pop 1 nx) (hc : v.category = 1) (hr : G E x T (fr x nx Ls st)) : G E x T (fr x pc Ls (v :: st)) := by
  obtain ⟨d1, rfl⟩ := d; exact pstep W (fun _ A r => XT.pop A B.2.2.2.2.2.2.1 rfl (by rw [B.1]; exact d1) rfl hc r) hr
theorem w_dupX1 (W : Wk E x T h F cs ss) (B : Is x own b ml R ret nm) {v u : Value} (d : D b pc .dup_x1 1 nx) (hc : v.category = 1) (hc' : u.category = 1) (hr : G E x T (fr x nx Ls (v :: u :: v :: st))) : G E x T (fr x pc Ls (v :: u :: st)) := by
  obtain ⟨d1, rfl⟩ := d; exact pstep W (fun _ A r => XT.dupX1 A B.2.2.2.2.2.2.1 rfl (by rw [B.1]; exact d1) rfl hc hc' r) hr
theorem w_dup2 (W : Wk E x T h F cs ss) (B : Is x own b ml R ret nm) {v u : Value} (d : D b pc .dup2 1 nx) (hc : v.category = 1) (hc' : u.category = 1) (hr : G E x T (fr x nx Ls (v :: u :: v :: u :: st))) : G E x T (fr x pc Ls (v :: u :: st)) := by
  obtain ⟨d1, rfl⟩ := d; exact pstep W (fun _ A r => XT.dup2 A B.2.2.2.2.2.2.1 rfl (by rw [B.1]; exact d1) rfl hc hc' r) hr
theorem w_iinc (W : Wk E x T h F cs ss) (B : Is x own b ml R ret nm) {k : Nat} {i : Int} {v w : Int32} (d : D b pc (.iinc k i) 3 nx) (hl : Ls[k]? = some (.val (.int v))) (hw : v + Int32.ofInt i = w) (hl' : storeLocals Ls k (.int w) = some Ls') (hr : G E x T (fr x nx Ls' st)) : G E x T (fr x pc Ls st) := by
  obtain ⟨d1, rfl⟩ := d; subst hw; exact pstep W (fun _ A r => XS.iinc A B.2.2.2.2.2.2.1 rfl (by rw [B.1]; exact d1) hl hl' r) hr
theorem w_goto (W : Wk E x T h F cs ss) (B : Is x own b ml R ret nm) (d : J b pc (.goto o) 3 nx o tg) (hr : G E x T (fr x tg Ls st)) : G E x T (fr x pc Ls st) := by
  obtain ⟨d1, -, d2, d3⟩ := d; exact pstep W (fun _ A r => XS.goto A B.2.2.2.2.2.2.1 rfl (pc0 := pc) rfl (by rw [B.1]; exact d1) d2 d3 r) hr
end Steps
end Jvm.Own
namespace Jvm.Own
open Sem ClassFile Op Lib Bundle Jvm.Stand Jvm.Free Jvm.LawKit Jvm.RoadKit
section StepsB
variable {E : Gl} {x : Cx} {T : State} {h : Heap} {F : List Addr} {cs ss : Nat} {own : String} {b : ByteArray} {ml : Nat} {R : Room} {ret : Option FieldType} {nm : String} {pc nx tg : Nat} {o : Int} {Ls Ls' : Array Slot} {st : List Value}
theorem w_iadd (W : Wk E x T h F cs ss) (B : Is x own b ml R ret nm) {u v : Int32} (d : D b pc .iadd 1 nx) (hr : G E x T (fr x nx Ls (.int (u + v) :: st))) : G E x T (fr x pc Ls (.int v :: .int u :: st)) := by
  obtain ⟨d1, rfl⟩ := d; exact pstep W (fun _ A r => XS.iadd A B.2.2.2.2.2.2.1 rfl (by rw [B.1]; exact d1) rfl r) hr
theorem w_isub (W : Wk E x T h F cs ss) (B : Is x own b ml R ret nm) {u v : Int32} (d : D b pc .isub 1 nx) (hr : G E x T (fr x nx Ls (.int (u - v) :: st))) : G E x T (fr x pc Ls (.int v :: .int u :: st)) := by
  obtain ⟨d1, rfl⟩ := d; exact pstep W (fun _ A r => XS.isub A B.2.2.2.2.2.2.1 rfl (by rw [B.1]; exact d1) rfl r) hr
theorem w_imul (W : Wk E x T h F cs ss) (B : Is x own b ml R ret nm) {u v : Int32} (d : D b pc .imul 1 nx) (hr : G E x T (fr x nx Ls (.int (u * v) :: st))) : G E x T (fr x pc Ls (.int v :: .int u :: st)) := by
  obtain ⟨d1, rfl⟩ := d; exact pstep W (fun _ A r => XS.imul A B.2.2.2.2.2.2.1 rfl (by rw [B.1]; exact d1) rfl r) hr
theorem w_iand (W : Wk E x T h F cs ss) (B : Is x own b ml R ret nm) {u v : Int32} (d : D b pc .iand 1 nx) (hr : G E x T (fr x nx Ls (.int (u &&& v) :: st))) : G E x T (fr x pc Ls (.int v :: .int u :: st)) := by
  obtain ⟨d1, rfl⟩ := d; exact pstep W (fun _ A r => XS.iand A B.2.2.2.2.2.2.1 rfl (by rw [B.1]; exact d1) rfl r) hr
theorem w_ior (W : Wk E x T h F cs ss) (B : Is x own b ml R ret nm) {u v : Int32} (d : D b pc .ior 1 nx) (hr : G E x T (fr x nx Ls (.int (u ||| v) :: st))) : G E x T (fr x pc Ls (.int v :: .int u :: st)) := by
  obtain ⟨d1, rfl⟩ := d; exact pstep W (fun _ A r => XT.ior A B.2.2.2.2.2.2.1 rfl (by rw [B.1]; exact d1) rfl r) hr
theorem w_ixor (W : Wk E x T h F cs ss) (B : Is x own b ml R ret nm) {u v : Int32} (d : D b pc .ixor 1 nx) (hr : G E x T (fr x nx Ls (.int (u ^^^ v) :: st))) : G E x T (fr x pc Ls (.int v :: .int u :: st)) := by
  obtain ⟨d1, rfl⟩ := d; exact pstep W (fun _ A r => XT.ixor A B.2.2.2.2.2.2.1 rfl (by rw [B.1]; exact d1) rfl r) hr
theorem w_idiv (W : Wk E x T h F cs ss) (B : Is x own b ml R ret nm) {u v : Int32} (d : D b pc .idiv 1 nx) (hy : v ≠ 0) (hr : G E x T (fr x nx Ls (.int (u / v) :: st))) : G E x T (fr x pc Ls (.int v :: .int u :: st)) := by
  obtain ⟨d1, rfl⟩ := d; exact pstep W (fun _ A r => XS.idiv A B.2.2.2.2.2.2.1 rfl (by rw [B.1]; exact d1) rfl hy r) hr
theorem w_ladd (W : Wk E x T h F cs ss) (B : Is x own b ml R ret nm) {u v : Int64} (d : D b pc .ladd 1 nx) (hr : G E x T (fr x nx Ls (.long (u + v) :: st))) : G E x T (fr x pc Ls (.long v :: .long u :: st)) := by
  obtain ⟨d1, rfl⟩ := d; exact pstep W (fun _ A r => XT.ladd A B.2.2.2.2.2.2.1 rfl (by rw [B.1]; exact d1) rfl r) hr
theorem w_lsub (W : Wk E x T h F cs ss) (B : Is x own b ml R ret nm) {u v : Int64} (d : D b pc .lsub 1 nx) (hr : G E x T (fr x nx Ls (.long (u - v) :: st))) : G E x T (fr x pc Ls (.long v :: .long u :: st)) := by
  obtain ⟨d1, rfl⟩ := d; exact pstep W (fun _ A r => XT.lsub A B.2.2.2.2.2.2.1 rfl (by rw [B.1]; exact d1) rfl r) hr
theorem w_lmul (W : Wk E x T h F cs ss) (B : Is x own b ml R ret nm) {u v : Int64} (d : D b pc .lmul 1 nx) (hr : G E x T (fr x nx Ls (.long (u * v) :: st))) : G E x T (fr x pc Ls (.long v :: .long u :: st)) := by
  obtain ⟨d1, rfl⟩ := d; exact pstep W (fun _ A r => XT.lmul A B.2.2.2.2.2.2.1 rfl (by rw [B.1]; exact d1) rfl r) hr
theorem w_land (W : Wk E x T h F cs ss) (B : Is x own b ml R ret nm) {u v : Int64} (d : D b pc .land 1 nx) (hr : G E x T (fr x nx Ls (.long (u &&& v) :: st))) : G E x T (fr x pc Ls (.long v :: .long u :: st)) := by
  obtain ⟨d1, rfl⟩ := d; exact pstep W (fun _ A r => XT.land A B.2.2.2.2.2.2.1 rfl (by rw [B.1]; exact d1) rfl r) hr
theorem w_lor (W : Wk E x T h F cs ss) (B : Is x own b ml R ret nm) {u v : Int64} (d : D b pc .lor 1 nx) (hr : G E x T (fr x nx Ls (.long (u ||| v) :: st))) : G E x T (fr x pc Ls (.long v :: .long u :: st)) := by
  obtain ⟨d1, rfl⟩ := d; exact pstep W (fun _ A r => XT.lor A B.2.2.2.2.2.2.1 rfl (by rw [B.1]; exact d1) rfl r) hr
theorem w_lxor (W : Wk E x T h F cs ss) (B : Is x own b ml R ret nm) {u v : Int64} (d : D b pc .lxor 1 nx) (hr : G E x T (fr x nx Ls (.long (u ^^^ v) :: st))) : G E x T (fr x pc Ls (.long v :: .long u :: st)) := by
  obtain ⟨d1, rfl⟩ := d; exact pstep W (fun _ A r => XT.lxor A B.2.2.2.2.2.2.1 rfl (by rw [B.1]; exact d1) rfl r) hr
theorem w_ldiv (W : Wk E x T h F cs ss) (B : Is x own b ml R ret nm) {u v : Int64} (d : D b pc .ldiv 1 nx) (hy : v ≠ 0) (hr : G E x T (fr x nx Ls (.long (u / v) :: st))) : G E x T (fr x pc Ls (.long v :: .long u :: st)) := by
  obtain ⟨d1, rfl⟩ := d; exact pstep W (fun _ A r => XT.ldiv A B.2.2.2.2.2.2.1 rfl (by rw [B.1]; exact d1) rfl hy r) hr
theorem w_irem (W : Wk E x T h F cs ss) (B : Is x own b ml R ret nm) {u v : Int32} (d : D b pc .irem 1 nx) (hy : v ≠ 0) (hr : G E x T (fr x nx Ls (.int (u % v) :: st))) : G E x T (fr x pc Ls (.int v :: .int u :: st)) := by
  obtain ⟨d1, rfl⟩ := d; obtain ⟨_, _, _, X, -⟩ := W; exact G.of (fun _ r => iremM X B.2.2.2.2.2.2.1 rfl (by rw [B.1]; exact d1) rfl hy r) hr
theorem w_lrem (W : Wk E x T h F cs ss) (B : Is x own b ml R ret nm) {u v : Int64} (d : D b pc .lrem 1 nx) (hy : v ≠ 0) (hr : G E x T (fr x nx Ls (.long (u % v) :: st))) : G E x T (fr x pc Ls (.long v :: .long u :: st)) := by
  obtain ⟨d1, rfl⟩ := d; rw [← lrem_mod] at hr; exact pstep W (fun _ A r => XT.lrem A B.2.2.2.2.2.2.1 rfl (by rw [B.1]; exact d1) rfl hy r) hr
theorem w_ineg (W : Wk E x T h F cs ss) (B : Is x own b ml R ret nm) {u : Int32} (d : D b pc .ineg 1 nx) (hr : G E x T (fr x nx Ls (.int (-u) :: st))) : G E x T (fr x pc Ls (.int u :: st)) := by
  obtain ⟨d1, rfl⟩ := d; exact pstep W (fun _ A r => XS.ineg A B.2.2.2.2.2.2.1 rfl (by rw [B.1]; exact d1) rfl r) hr
theorem w_lneg (W : Wk E x T h F cs ss) (B : Is x own b ml R ret nm) {u : Int64} (d : D b pc .lneg 1 nx) (hr : G E x T (fr x nx Ls (.long (-u) :: st))) : G E x T (fr x pc Ls (.long u :: st)) := by
  obtain ⟨d1, rfl⟩ := d; exact pstep W (fun _ A r => XT.lneg A B.2.2.2.2.2.2.1 rfl (by rw [B.1]; exact d1) rfl r) hr
theorem w_i2l (W : Wk E x T h F cs ss) (B : Is x own b ml R ret nm) {u : Int32} (d : D b pc .i2l 1 nx) (hr : G E x T (fr x nx Ls (.long (u.toInt64) :: st))) : G E x T (fr x pc Ls (.int u :: st)) := by
  obtain ⟨d1, rfl⟩ := d; exact pstep W (fun _ A r => XT.i2l A B.2.2.2.2.2.2.1 rfl (by rw [B.1]; exact d1) rfl r) hr
theorem w_l2i (W : Wk E x T h F cs ss) (B : Is x own b ml R ret nm) {u : Int64} (d : D b pc .l2i 1 nx) (hr : G E x T (fr x nx Ls (.int (u.toInt32) :: st))) : G E x T (fr x pc Ls (.long u :: st)) := by
  obtain ⟨d1, rfl⟩ := d; exact pstep W (fun _ A r => XT.l2i A B.2.2.2.2.2.2.1 rfl (by rw [B.1]; exact d1) rfl r) hr
theorem w_i2b (W : Wk E x T h F cs ss) (B : Is x own b ml R ret nm) {u : Int32} (d : D b pc .i2b 1 nx) (hr : G E x T (fr x nx Ls (.int (u.toInt8.toInt32) :: st))) : G E x T (fr x pc Ls (.int u :: st)) := by
  obtain ⟨d1, rfl⟩ := d; exact pstep W (fun _ A r => XT.i2b A B.2.2.2.2.2.2.1 rfl (by rw [B.1]; exact d1) rfl r) hr
theorem w_i2c (W : Wk E x T h F cs ss) (B : Is x own b ml R ret nm) {u : Int32} (d : D b pc .i2c 1 nx) (hr : G E x T (fr x nx Ls (.int (u.toUInt32.toUInt16.toUInt32.toInt32) :: st))) : G E x T (fr x pc Ls (.int u :: st)) := by
  obtain ⟨d1, rfl⟩ := d; exact pstep W (fun _ A r => XT.i2c A B.2.2.2.2.2.2.1 rfl (by rw [B.1]; exact d1) rfl r) hr
theorem w_i2s (W : Wk E x T h F cs ss) (B : Is x own b ml R ret nm) {u : Int32} (d : D b pc .i2s 1 nx) (hr : G E x T (fr x nx Ls (.int (u.toInt16.toInt32) :: st))) : G E x T (fr x pc Ls (.int u :: st)) := by
  obtain ⟨d1, rfl⟩ := d; exact pstep W (fun _ A r => XT.i2s A B.2.2.2.2.2.2.1 rfl (by rw [B.1]; exact d1) rfl r) hr
theorem w_ishl (W : Wk E x T h F cs ss) (B : Is x own b ml R ret nm) {u v : Int32} (d : D b pc .ishl 1 nx) (hr : G E x T (fr x nx Ls (.int (u <<< (v &&& 31)) :: st))) : G E x T (fr x pc Ls (.int v :: .int u :: st)) := by
  obtain ⟨d1, rfl⟩ := d; exact pstep W (fun _ A r => XT.ishl A B.2.2.2.2.2.2.1 rfl (by rw [B.1]; exact d1) rfl r) hr
theorem w_ishr (W : Wk E x T h F cs ss) (B : Is x own b ml R ret nm) {u v : Int32} (d : D b pc .ishr 1 nx) (hr : G E x T (fr x nx Ls (.int (u >>> (v &&& 31)) :: st))) : G E x T (fr x pc Ls (.int v :: .int u :: st)) := by
  obtain ⟨d1, rfl⟩ := d; exact pstep W (fun _ A r => XT.ishr A B.2.2.2.2.2.2.1 rfl (by rw [B.1]; exact d1) rfl r) hr
theorem w_iushr (W : Wk E x T h F cs ss) (B : Is x own b ml R ret nm) {u v : Int32} (d : D b pc .iushr 1 nx) (hr : G E x T (fr x nx Ls (.int (XT.ushr u v) :: st))) : G E x T (fr x pc Ls (.int v :: .int u :: st)) := by
  obtain ⟨d1, rfl⟩ := d; exact pstep W (fun _ A r => XT.iushr A B.2.2.2.2.2.2.1 rfl (by rw [B.1]; exact d1) rfl r) hr
theorem w_lshl (W : Wk E x T h F cs ss) (B : Is x own b ml R ret nm) {u : Int64} {v : Int32} (d : D b pc .lshl 1 nx) (hr : G E x T (fr x nx Ls (.long (u <<< (v.toInt64 &&& 63)) :: st))) : G E x T (fr x pc Ls (.int v :: .long u :: st)) := by
  obtain ⟨d1, rfl⟩ := d; exact pstep W (fun _ A r => XT.lshl A B.2.2.2.2.2.2.1 rfl (by rw [B.1]; exact d1) rfl r) hr
theorem w_lshr (W : Wk E x T h F cs ss) (B : Is x own b ml R ret nm) {u : Int64} {v : Int32} (d : D b pc .lshr 1 nx) (hr : G E x T (fr x nx Ls (.long (u >>> (v.toInt64 &&& 63)) :: st))) : G E x T (fr x pc Ls (.int v :: .long u :: st)) := by
  obtain ⟨d1, rfl⟩ := d; exact pstep W (fun _ A r => XT.lshr A B.2.2.2.2.2.2.1 rfl (by rw [B.1]; exact d1) rfl r) hr
theorem w_lushr (W : Wk E x T h F cs ss) (B : Is x own b ml R ret nm) {u : Int64} {v : Int32} (d : D b pc .lushr 1 nx) (hr : G E x T (fr x nx Ls (.long (XT.ushrL u v) :: st))) : G E x T (fr x pc Ls (.int v :: .long u :: st)) := by
  obtain ⟨d1, rfl⟩ := d; exact pstep W (fun _ A r => XT.lushr A B.2.2.2.2.2.2.1 rfl (by rw [B.1]; exact d1) rfl r) hr
theorem w_lcmp (W : Wk E x T h F cs ss) (B : Is x own b ml R ret nm) {u v : Int64} (d : D b pc .lcmp 1 nx) (hr : G E x T (fr x nx Ls (.int (XT.cmpL u v) :: st))) : G E x T (fr x pc Ls (.long v :: .long u :: st)) := by
  obtain ⟨d1, rfl⟩ := d; exact pstep W (fun _ A r => XT.lcmp A B.2.2.2.2.2.2.1 rfl (by rw [B.1]; exact d1) rfl r) hr
theorem w_if_eq (W : Wk E x T h F cs ss) (B : Is x own b ml R ret nm) {u : Int32} (d : J b pc (.ifCond .eq o) 3 nx o tg) (ht : u = 0 → G E x T (fr x tg Ls st)) (hf : ¬ u = 0 → G E x T (fr x nx Ls st)) : G E x T (fr x pc Ls (.int u :: st)) := by
  obtain ⟨d1, rfl, d2, d3⟩ := d
  by_cases q : u = 0
  · exact pstep W (fun _ A r => XS.ifYes A B.2.2.2.2.2.2.1 rfl (pc0 := pc) rfl (by rw [B.1]; exact d1) rfl ((if0 _ _).trans (teq q).1) d2 d3 r) (ht q)
  · exact pstep W (fun _ A r => XS.ifNo A B.2.2.2.2.2.2.1 rfl (by rw [B.1]; exact d1) rfl ((if0 _ _).trans (feq q).1) r) (hf q)
theorem w_icmp_eq (W : Wk E x T h F cs ss) (B : Is x own b ml R ret nm) {u v : Int32} (d : J b pc (.if_icmp .eq o) 3 nx o tg) (ht : u = v → G E x T (fr x tg Ls st)) (hf : ¬ u = v → G E x T (fr x nx Ls st)) : G E x T (fr x pc Ls (.int v :: .int u :: st)) := by
  obtain ⟨d1, rfl, d2, d3⟩ := d
  by_cases q : u = v
  · exact pstep W (fun _ A r => XS.icmpYes A B.2.2.2.2.2.2.1 rfl (pc0 := pc) rfl (by rw [B.1]; exact d1) rfl (teq q).1 d2 d3 r) (ht q)
  · exact pstep W (fun _ A r => XS.icmpNo A B.2.2.2.2.2.2.1 rfl (by rw [B.1]; exact d1) rfl (feq q).1 r) (hf q)
theorem w_if_ne (W : Wk E x T h F cs ss) (B : Is x own b ml R ret nm) {u : Int32} (d : J b pc (.ifCond .ne o) 3 nx o tg) (ht : ¬ u = 0 → G E x T (fr x tg Ls st)) (hf : u = 0 → G E x T (fr x nx Ls st)) : G E x T (fr x pc Ls (.int u :: st)) := by
  obtain ⟨d1, rfl, d2, d3⟩ := d
  by_cases q : u = 0
  · exact pstep W (fun _ A r => XS.ifNo A B.2.2.2.2.2.2.1 rfl (by rw [B.1]; exact d1) rfl ((if0 _ _).trans (teq q).2) r) (hf q)
  · exact pstep W (fun _ A r => XS.ifYes A B.2.2.2.2.2.2.1 rfl (pc0 := pc) rfl (by rw [B.1]; exact d1) rfl ((if0 _ _).trans (feq q).2) d2 d3 r) (ht q)
theorem w_icmp_ne (W : Wk E x T h F cs ss) (B : Is x own b ml R ret nm) {u v : Int32} (d : J b pc (.if_icmp .ne o) 3 nx o tg) (ht : ¬ u = v → G E x T (fr x tg Ls st)) (hf : u = v → G E x T (fr x nx Ls st)) : G E x T (fr x pc Ls (.int v :: .int u :: st)) := by
  obtain ⟨d1, rfl, d2, d3⟩ := d
  by_cases q : u = v
  · exact pstep W (fun _ A r => XS.icmpNo A B.2.2.2.2.2.2.1 rfl (by rw [B.1]; exact d1) rfl (teq q).2 r) (hf q)
  · exact pstep W (fun _ A r => XS.icmpYes A B.2.2.2.2.2.2.1 rfl (pc0 := pc) rfl (by rw [B.1]; exact d1) rfl (feq q).2 d2 d3 r) (ht q)
theorem w_if_lt (W : Wk E x T h F cs ss) (B : Is x own b ml R ret nm) {u : Int32} (d : J b pc (.ifCond .lt o) 3 nx o tg) (ht : u < 0 → G E x T (fr x tg Ls st)) (hf : ¬ u < 0 → G E x T (fr x nx Ls st)) : G E x T (fr x pc Ls (.int u :: st)) := by
  obtain ⟨d1, rfl, d2, d3⟩ := d
  by_cases q : u < 0
  · exact pstep W (fun _ A r => XS.ifYes A B.2.2.2.2.2.2.1 rfl (pc0 := pc) rfl (by rw [B.1]; exact d1) rfl ((if0 _ _).trans (tlt q).1) d2 d3 r) (ht q)
  · exact pstep W (fun _ A r => XS.ifNo A B.2.2.2.2.2.2.1 rfl (by rw [B.1]; exact d1) rfl ((if0 _ _).trans (flt q).1) r) (hf q)
theorem w_icmp_lt (W : Wk E x T h F cs ss) (B : Is x own b ml R ret nm) {u v : Int32} (d : J b pc (.if_icmp .lt o) 3 nx o tg) (ht : u < v → G E x T (fr x tg Ls st)) (hf : ¬ u < v → G E x T (fr x nx Ls st)) : G E x T (fr x pc Ls (.int v :: .int u :: st)) := by
  obtain ⟨d1, rfl, d2, d3⟩ := d
  by_cases q : u < v
  · exact pstep W (fun _ A r => XS.icmpYes A B.2.2.2.2.2.2.1 rfl (pc0 := pc) rfl (by rw [B.1]; exact d1) rfl (tlt q).1 d2 d3 r) (ht q)
  · exact pstep W (fun _ A r => XS.icmpNo A B.2.2.2.2.2.2.1 rfl (by rw [B.1]; exact d1) rfl (flt q).1 r) (hf q)
theorem w_if_ge (W : Wk E x T h F cs ss) (B : Is x own b ml R ret nm) {u : Int32} (d : J b pc (.ifCond .ge o) 3 nx o tg) (ht : ¬ u < 0 → G E x T (fr x tg Ls st)) (hf : u < 0 → G E x T (fr x nx Ls st)) : G E x T (fr x pc Ls (.int u :: st)) := by
  obtain ⟨d1, rfl, d2, d3⟩ := d
  by_cases q : u < 0
  · exact pstep W (fun _ A r => XS.ifNo A B.2.2.2.2.2.2.1 rfl (by rw [B.1]; exact d1) rfl ((if0 _ _).trans (tlt q).2.1) r) (hf q)
  · exact pstep W (fun _ A r => XS.ifYes A B.2.2.2.2.2.2.1 rfl (pc0 := pc) rfl (by rw [B.1]; exact d1) rfl ((if0 _ _).trans (flt q).2.1) d2 d3 r) (ht q)
theorem w_icmp_ge (W : Wk E x T h F cs ss) (B : Is x own b ml R ret nm) {u v : Int32} (d : J b pc (.if_icmp .ge o) 3 nx o tg) (ht : ¬ u < v → G E x T (fr x tg Ls st)) (hf : u < v → G E x T (fr x nx Ls st)) : G E x T (fr x pc Ls (.int v :: .int u :: st)) := by
  obtain ⟨d1, rfl, d2, d3⟩ := d
  by_cases q : u < v
  · exact pstep W (fun _ A r => XS.icmpNo A B.2.2.2.2.2.2.1 rfl (by rw [B.1]; exact d1) rfl (tlt q).2.1 r) (hf q)
  · exact pstep W (fun _ A r => XS.icmpYes A B.2.2.2.2.2.2.1 rfl (pc0 := pc) rfl (by rw [B.1]; exact d1) rfl (flt q).2.1 d2 d3 r) (ht q)
theorem w_if_gt (W : Wk E x T h F cs ss) (B : Is x own b ml R ret nm) {u : Int32} (d : J b pc (.ifCond .gt o) 3 nx o tg) (ht : 0 < u → G E x T (fr x tg Ls st)) (hf : ¬ 0 < u → G E x T (fr x nx Ls st)) : G E x T (fr x pc Ls (.int u :: st)) := by
  obtain ⟨d1, rfl, d2, d3⟩ := d
  by_cases q : 0 < u
  · exact pstep W (fun _ A r => XS.ifYes A B.2.2.2.2.2.2.1 rfl (pc0 := pc) rfl (by rw [B.1]; exact d1) rfl ((if0 _ _).trans (tlt q).2.2.1) d2 d3 r) (ht q)
  · exact pstep W (fun _ A r => XS.ifNo A B.2.2.2.2.2.2.1 rfl (by rw [B.1]; exact d1) rfl ((if0 _ _).trans (flt q).2.2.1) r) (hf q)
theorem w_icmp_gt (W : Wk E x T h F cs ss) (B : Is x own b ml R ret nm) {u v : Int32} (d : J b pc (.if_icmp .gt o) 3 nx o tg) (ht : v < u → G E x T (fr x tg Ls st)) (hf : ¬ v < u → G E x T (fr x nx Ls st)) : G E x T (fr x pc Ls (.int v :: .int u :: st)) := by
  obtain ⟨d1, rfl, d2, d3⟩ := d
  by_cases q : v < u
  · exact pstep W (fun _ A r => XS.icmpYes A B.2.2.2.2.2.2.1 rfl (pc0 := pc) rfl (by rw [B.1]; exact d1) rfl (tlt q).2.2.1 d2 d3 r) (ht q)
  · exact pstep W (fun _ A r => XS.icmpNo A B.2.2.2.2.2.2.1 rfl (by rw [B.1]; exact d1) rfl (flt q).2.2.1 r) (hf q)
theorem w_if_le (W : Wk E x T h F cs ss) (B : Is x own b ml R ret nm) {u : Int32} (d : J b pc (.ifCond .le o) 3 nx o tg) (ht : ¬ 0 < u → G E x T (fr x tg Ls st)) (hf : 0 < u → G E x T (fr x nx Ls st)) : G E x T (fr x pc Ls (.int u :: st)) := by
  obtain ⟨d1, rfl, d2, d3⟩ := d
  by_cases q : 0 < u
  · exact pstep W (fun _ A r => XS.ifNo A B.2.2.2.2.2.2.1 rfl (by rw [B.1]; exact d1) rfl ((if0 _ _).trans (tlt q).2.2.2) r) (hf q)
  · exact pstep W (fun _ A r => XS.ifYes A B.2.2.2.2.2.2.1 rfl (pc0 := pc) rfl (by rw [B.1]; exact d1) rfl ((if0 _ _).trans (flt q).2.2.2) d2 d3 r) (ht q)
theorem w_icmp_le (W : Wk E x T h F cs ss) (B : Is x own b ml R ret nm) {u v : Int32} (d : J b pc (.if_icmp .le o) 3 nx o tg) (ht : ¬ v < u → G E x T (fr x tg Ls st)) (hf : v < u → G E x T (fr x nx Ls st)) : G E x T (fr x pc Ls (.int v :: .int u :: st)) := by
  obtain ⟨d1, rfl, d2, d3⟩ := d
  by_cases q : v < u
  · exact pstep W (fun _ A r => XS.icmpNo A B.2.2.2.2.2.2.1 rfl (by rw [B.1]; exact d1) rfl (tlt q).2.2.2 r) (hf q)
  · exact pstep W (fun _ A r => XS.icmpYes A B.2.2.2.2.2.2.1 rfl (pc0 := pc) rfl (by rw [B.1]; exact d1) rfl (flt q).2.2.2 d2 d3 r) (ht q)
theorem w_ifnull_null (W : Wk E x T h F cs ss) (B : Is x own b ml R ret nm) (d : J b pc (.ifnull o) 3 nx o tg) (hr : G E x T (fr x tg Ls st)) : G E x T (fr x pc Ls (.null :: st)) := by
  obtain ⟨d1, rfl, d2, d3⟩ := d; exact pstep W (fun _ A r => XS.ifnullYes A B.2.2.2.2.2.2.1 rfl (pc0 := pc) rfl (by rw [B.1]; exact d1) rfl d2 d3 r) hr
theorem w_ifnull_ref (W : Wk E x T h F cs ss) (B : Is x own b ml R ret nm) {a : Addr} (d : J b pc (.ifnull o) 3 nx o tg) (hr : G E x T (fr x nx Ls st)) : G E x T (fr x pc Ls (.ref a :: st)) := by
  obtain ⟨d1, rfl, d2, d3⟩ := d; exact pstep W (fun _ A r => XS.ifnullNo A B.2.2.2.2.2.2.1 rfl (by rw [B.1]; exact d1) rfl r) hr
theorem w_ifnonnull_null (W : Wk E x T h F cs ss) (B : Is x own b ml R ret nm) (d : J b pc (.ifnonnull o) 3 nx o tg) (hr : G E x T (fr x nx Ls st)) : G E x T (fr x pc Ls (.null :: st)) := by
  obtain ⟨d1, rfl, d2, d3⟩ := d; exact pstep W (fun _ A r => XT.ifnonnullNo A B.2.2.2.2.2.2.1 rfl (by rw [B.1]; exact d1) rfl r) hr
theorem w_ifnonnull_ref (W : Wk E x T h F cs ss) (B : Is x own b ml R ret nm) {a : Addr} (d : J b pc (.ifnonnull o) 3 nx o tg) (hr : G E x T (fr x tg Ls st)) : G E x T (fr x pc Ls (.ref a :: st)) := by
  obtain ⟨d1, rfl, d2, d3⟩ := d; exact pstep W (fun _ A r => XT.ifnonnullYes A B.2.2.2.2.2.2.1 rfl (pc0 := pc) rfl (by rw [B.1]; exact d1) rfl d2 d3 r) hr
theorem w_acmp_eq_y (W : Wk E x T h F cs ss) (B : Is x own b ml R ret nm) {u v : Value} (d : J b pc (.if_acmp .eq o) 3 nx o tg) (h1 : u.isRef = true) (h2 : v.isRef = true) (q : u = v) (hr : G E x T (fr x tg Ls st)) : G E x T (fr x pc Ls (v :: u :: st)) := by
  obtain ⟨d1, rfl, d2, d3⟩ := d; exact pstep W (fun _ A r => XT.acmpYes A B.2.2.2.2.2.2.1 rfl (pc0 := pc) rfl (by rw [B.1]; exact d1) rfl h1 h2 (by simp [XT.acmp, q]) d2 d3 r) hr
theorem w_acmp_eq_n (W : Wk E x T h F cs ss) (B : Is x own b ml R ret nm) {u v : Value} (d : J b pc (.if_acmp .eq o) 3 nx o tg) (h1 : u.isRef = true) (h2 : v.isRef = true) (q : u ≠ v) (hr : G E x T (fr x nx Ls st)) : G E x T (fr x pc Ls (v :: u :: st)) := by
  obtain ⟨d1, rfl, d2, d3⟩ := d; exact pstep W (fun _ A r => XT.acmpNo A B.2.2.2.2.2.2.1 rfl (by rw [B.1]; exact d1) rfl h1 h2 (by simp [XT.acmp, q]) r) hr
theorem w_acmp_ne_y (W : Wk E x T h F cs ss) (B : Is x own b ml R ret nm) {u v : Value} (d : J b pc (.if_acmp .ne o) 3 nx o tg) (h1 : u.isRef = true) (h2 : v.isRef = true) (q : u = v) (hr : G E x T (fr x nx Ls st)) : G E x T (fr x pc Ls (v :: u :: st)) := by
  obtain ⟨d1, rfl, d2, d3⟩ := d; exact pstep W (fun _ A r => XT.acmpNo A B.2.2.2.2.2.2.1 rfl (by rw [B.1]; exact d1) rfl h1 h2 (by simp [XT.acmp, q]) r) hr
theorem w_acmp_ne_n (W : Wk E x T h F cs ss) (B : Is x own b ml R ret nm) {u v : Value} (d : J b pc (.if_acmp .ne o) 3 nx o tg) (h1 : u.isRef = true) (h2 : v.isRef = true) (q : u ≠ v) (hr : G E x T (fr x tg Ls st)) : G E x T (fr x pc Ls (v :: u :: st)) := by
  obtain ⟨d1, rfl, d2, d3⟩ := d; exact pstep W (fun _ A r => XT.acmpYes A B.2.2.2.2.2.2.1 rfl (pc0 := pc) rfl (by rw [B.1]; exact d1) rfl h1 h2 (by simp [XT.acmp, q]) d2 d3 r) hr
end StepsB
end Jvm.Own
namespace Jvm.Own
open Sem ClassFile Op Lib Bundle Jvm.Stand Jvm.Free Jvm.LawKit Jvm.RoadKit
theorem chr_nil (Z : State) {vm vm1 : Vm} {h h' : Heap} (q : h.size ≤ h'.size) : CHr Z [] vm h vm1 h' := ⟨(fun _ hp => nomatch hp), q, fun _ B => by obtain ⟨_, hp, _⟩ := B; exact nomatch hp⟩
theorem safe_nil (Z : State) (vm : Vm) (h : Heap) (x : Addr) : Safe Z [] vm h x := fun B => by obtain ⟨_, hp, _⟩ := B; exact nomatch hp
section StepsC
variable {E : Gl} {x : Cx} {T : State} {h : Heap} {F : List Addr} {cs ss : Nat} {own : String} {b : ByteArray} {ml : Nat} {R : Room} {ret : Option FieldType} {nm : String} {pc nx tg : Nat} {o : Int} {Ls Ls' : Array Slot} {st stk : List Value}
/-- a walk opened: the Stand, and how it is closed behind a step that adds cells, and behind one that writes a place that may be written -/
theorem Wk.open (W : Wk E x T h F cs ss) (B : Is x own b ml R ret nm) : ∃ (vm : Vm) (L : List Loc), Stand x.p E.l x.e x.R (x.s.setVm vm) x.m x.args x.below x.meth x.c T L cs ss ∧ T.heap = h ∧ E.Z.Warmed39 (x.s.setVm vm).vm ∧ (x.s.setVm vm).vm.findClass own = some x.m.cls ∧
    (∀ (T' : State) (h' : Heap) (cs' ss' : Nat), Stand x.p E.l x.e x.R (x.s.setVm vm) x.m x.args x.below x.meth x.c T' L cs' ss' → T'.heap = h' → Ext h h' → Wk E x T' h' F cs' ss' ∧ ∀ y, h.size ≤ y → y < h'.size → Wk E x T' h' (y :: F) cs' ss') ∧
    (∀ (a : Addr) (sl : Nat) (v : Value) (T' : State) (h' : Heap), a ∈ F → Stand x.p E.l x.e x.R (x.s.setVm vm) x.m x.args x.below x.meth x.c T' (L ++ [⟨a, sl⟩]) cs ss → T'.heap = h' → Wr h h' a sl v → Wk E x T' h' F cs ss) := by
  obtain ⟨vm, k, L, X, h1, h2, h3, h4, h5, h6, h7, h8, h9, h10⟩ := W
  refine ⟨vm, L, X, h1, h5, ?_, ?_, ?_⟩
  · show vm.findClass own = _
    rw [h2.1.alike.findClass]; exact B.2.2.2.2.2.2.2
  · intro T' h' cs' ss' X' e' Ex
    have c1 : CHr E.Z E.K vm h vm h' := CHr.ext Ex h8.1
    have f1 : FOk E vm h' F := fun y hy => ⟨(h9 y hy).1, Nat.lt_of_lt_of_le (h9 y hy).2.1 Ex.1, c1.safe (h9 y hy).2.1 (h9 y hy).2.2⟩
    have n1 : E.n ≤ h.size := by rw [← h7.1]; exact h7.2.1
    refine ⟨⟨vm, k, L, X', e', h2, Nat.le_trans h3 Ex.1, h4, h5, h6, h7.ext Ex, h8.trans c1, f1, h10⟩, fun y hy1 hy2 => ⟨vm, k, L, X', e', h2, Nat.le_trans h3 Ex.1, h4, h5, h6, h7.ext Ex, h8.trans c1, fun z hz => ?_, h10⟩⟩
    rcases List.mem_cons.mp hz with rfl | hz
    · exact ⟨Nat.le_trans n1 hy1, hy2, Safe.ext Ex h8.1 (Safe.new hy1)⟩
    · exact f1 z hz
  · intro a sl v T' h' ha X' e' Wr'
    have c1 : CHr E.Z E.K vm h vm h' := CHr.wr Wr' (h9 a ha).2.2 h8.1
    exact ⟨vm, k, _, X', e', h2, by rw [Wr'.size]; exact h3, h4, h5, Fr.snoc X' h6 (h9 a ha).1, h7.wr Wr' (h9 a ha).1, h8.trans c1, fun y hy => ⟨(h9 y hy).1, by rw [Wr'.size]; exact (h9 y hy).2.1, c1.safe (h9 y hy).2.1 (h9 y hy).2.2⟩, h10⟩
theorem Wk.openK (W : Wk E x T h F cs ss) (B : Is x own b ml R ret nm) : ∃ (vm : Vm) (L : List Loc), Stand x.p E.l x.e x.R (x.s.setVm vm) x.m x.args x.below x.meth x.c T L cs ss ∧ T.heap = h ∧ E.Z.Warmed39 (x.s.setVm vm).vm ∧ (x.s.setVm vm).vm.findClass own = some x.m.cls ∧ Fr E.n L ∧
    (∀ (T' : State) (h' : Heap) (L' : List Loc) (ws : List Addr) (cs' ss' : Nat), Stand x.p E.l x.e x.R (x.s.setVm vm) x.m x.args x.below x.meth x.c T' L' cs' ss' → T'.heap = h' → Fr E.n L' → Keep h h' ws → (∀ y ∈ ws, y ∈ F) → Wk E x T' h' F cs' ss') := by
  obtain ⟨vm, k, L, X, h1, h2, h3, h4, h5, h6, h7, h8, h9, h10⟩ := W
  refine ⟨vm, L, X, h1, h5, ?_, h6, ?_⟩
  · show vm.findClass own = _
    rw [h2.1.alike.findClass]; exact B.2.2.2.2.2.2.2
  · intro T' h' L' ws cs' ss' X' e' N K hws
    have c1 : CHr E.Z E.K vm h vm h' := CHr.keep K (fun y hy => (h9 y (hws y hy)).2.2) h8.1
    exact ⟨vm, k, L', X', e', h2, Nat.le_trans h3 K.1, h4, h5, N, h7.keep K (fun y hy => (h9 y (hws y hy)).1), h8.trans c1, fun y hy => ⟨(h9 y hy).1, Nat.lt_of_lt_of_le (h9 y hy).2.1 K.1, c1.safe (h9 y hy).2.1 (h9 y hy).2.2⟩, h10⟩
theorem w_arraycopy (W : Wk E x T h F cs ss) (B : Is x own b ml R ret nm) {index : Nat} {a v : Addr} {k k' : ClassId} {ty : FieldType} {z z' sp dp nn : Int32} {vs vd us : List Value} {dv dd : Value} (d : D b pc (.invokestatic index) 3 nx)
    (w1 : (Cond.methodLink own index Jvm.Stand.acN).before E.a E.Z = true) (w2 : (Cond.native Jvm.Stand.acN).before E.a E.Z = true) (w3 : (Cond.static Jvm.Stand.acN).before E.a E.Z = true) (w4 : (Cond.initialized "java/lang/System").before E.a E.Z = true)
    (hF : v ∈ F) (A : Arv E.Z h a k ty z vs dv) (Bd : Arv E.Z h v k' ty z' vd dd) (hty : refKind ty = false) (h1 : ¬ sp < 0) (h2 : ¬ dp < 0) (h3 : ¬ nn < 0) (h4 : sp.toNatClampNeg + nn.toNatClampNeg ≤ z.toNatClampNeg) (h5 : dp.toNatClampNeg + nn.toNatClampNeg ≤ z'.toNatClampNeg)
    (hus : us = (List.range nn.toNatClampNeg).map fun i => vs.getD (sp.toNatClampNeg + i) dv) (hl : dp.toNatClampNeg + nn.toNatClampNeg ≤ vd.length) (hsz : Ls.size = ml) (hf : 1 ≤ R.frames) {Wt : Nat} (hW : (st.map fun v => v.category).sum ≤ Wt) (hlo : Wt + (nativeFrameWords "java/lang/System" "arraycopy" 5 + 11) ≤ R.locals)
    (hr : ∀ (T' : State) (h' : Heap), Wk E x T' h' F cs ss → Keep h h' [v] → Arv E.Z h' v k' ty z' (vd.take dp.toNatClampNeg ++ us ++ vd.drop (dp.toNatClampNeg + nn.toNatClampNeg)) dd → G E x T' (fr x nx Ls st)) : G E x T (fr x pc Ls (.int nn :: .int dp :: .ref v :: .int sp :: .ref a :: st)) := by
  obtain ⟨d1, rfl⟩ := d
  have hge := (W.fOk hF).1
  obtain ⟨vm, L, X, e, hZ, hown, N, cl⟩ := W.openK B
  obtain ⟨T', h', L', X', e', N', K, A', stp⟩ := cpA X B.2.2.2.2.2.2.1 hZ hown w1 w2 w3 w4 e A Bd (Or.inl ⟨rfl, hty⟩) h1 h2 h3 h4 h5 hus hl N hge (g := fr x pc Ls (.int nn :: .int dp :: .ref v :: .int sp :: .ref a :: st)) rfl (hsz.trans B.2.1.symm) rfl (by rw [B.1]; exact d1) (by rw [B.2.2.1]; exact hf) (W := Wt) (by show 2 * 0 + _ ≤ _; omega) (by rw [B.2.2.1]; exact hlo)
  exact G.of stp (hr T' h' (cl T' h' L' [v] cs ss X' e' N' K (fun y hy => by rw [List.mem_singleton.mp hy]; exact hF)) K A')
theorem w_new (W : Wk E x T h F cs ss) (B : Is x own b ml R ret nm) {C : String} {index n : Nat} (d : D b pc (.new index) 3 nx) (w : (Cond.classLink own index C).before E.a E.Z = true) (wi : (Cond.instantiable C n).before E.a E.Z = true) (wz : (Cond.initialized C).before E.a E.Z = true) (hc : cs + 1 ≤ R.cells) (hl : ss + n ≤ R.slots)
    (hr : ∀ (T' : State) (h' : Heap) (a : Addr), Wk E x T' h' (a :: F) (cs + 1) (ss + n) → a = h.size → Ext h h' → Exa E.Z h' a C → (∀ {O f t : String} {ty : FieldType}, Laid E.Z E.a C O f t → parseFieldDescriptor t = some ty → Fld E.Z h' a O f t (defaultValue ty)) → G E x T' (fr x nx Ls (.ref a :: st))) : G E x T (fr x pc Ls st) := by
  obtain ⟨d1, rfl⟩ := d
  obtain ⟨vm, L, X, e, hZ, hown, cl, -⟩ := W.open B
  obtain ⟨T', h', X', e', Ex, A, D, -, stp⟩ := newO X B.2.2.2.2.2.2.1 hZ hown w wi wz e (g := fr x pc Ls st) rfl (by rw [B.1]; exact d1) (by rw [B.2.2.1]; exact hc) (by rw [B.2.2.1]; exact hl)
  exact G.of stp (hr T' h' _ ((cl T' h' _ _ X' e' Ex).2 _ (Nat.le_refl _) A.lt) rfl Ex A D)
theorem w_newarray (W : Wk E x T h F cs ss) (B : Is x own b ml R ret nm) {aty : ArrayType} {ty : FieldType} {n : Int32} {cap : Nat} (d : D b pc (.newarray aty) 2 nx) (ety : newarray.typeOf aty = ty) (w : (Cond.arrayClass ty).before E.a E.Z = true) (hn : ¬ n < 0) (hcap : n.toNatClampNeg ≤ cap) (hb : cap * 8 ≤ 536870912) (hc : cs + 1 ≤ R.cells) (hl : ss + cap ≤ R.slots)
    (hr : ∀ (T' : State) (h' : Heap) (a : Addr) (k : ClassId), Wk E x T' h' (a :: F) (cs + 1) (ss + cap) → a = h.size → Ext h h' → Arv E.Z h' a k ty n [] (defaultValue ty) → G E x T' (fr x nx Ls (.ref a :: st))) : G E x T (fr x pc Ls (.int n :: st)) := by
  obtain ⟨d1, rfl⟩ := d
  subst ety
  obtain ⟨vm, L, X, e, hZ, hown, cl, -⟩ := W.open B
  obtain ⟨T', h', cA, X', e', Ex, A, stp⟩ := newP X B.2.2.2.2.2.2.1 hZ w e (g := fr x pc Ls (.int n :: st)) rfl (by rw [B.1]; exact d1) rfl hn hcap hb (by rw [B.2.2.1]; exact hc) (by rw [B.2.2.1]; exact hl)
  exact G.of stp (hr T' h' _ cA ((cl T' h' _ _ X' e' Ex).2 _ (Nat.le_refl _) A.lt) rfl Ex (Arv.new A hn))
theorem w_anewarray (W : Wk E x T h F cs ss) (B : Is x own b ml R ret nm) {C ad : String} {index : Nat} {n : Int32} {cap : Nat} (d : D b pc (.anewarray index) 3 nx) (w1 : (Cond.classLink own index C).before E.a E.Z = true) (w2 : (Cond.arrayOver (.object C)).before E.a E.Z = true) (hn : ¬ n < 0) (hcap : n.toNatClampNeg ≤ cap) (hb : cap * 8 ≤ 536870912) (hc : cs + 1 ≤ R.cells) (hl : ss + cap ≤ R.slots)
    (hr : ∀ (T' : State) (h' : Heap) (a : Addr) (k : ClassId), Wk E x T' h' (a :: F) (cs + 1) (ss + cap) → a = h.size → Ext h h' → Arv E.Z h' a k (.object C) n [] .null → Ovr E.Z k C → G E x T' (fr x nx Ls (.ref a :: st))) : G E x T (fr x pc Ls (.int n :: st)) := by
  obtain ⟨d1, rfl⟩ := d
  obtain ⟨vm, L, X, e, hZ, hown, cl, -⟩ := W.open B
  obtain ⟨T', h', cA, X', e', Ex, A, O, stp⟩ := newR X B.2.2.2.2.2.2.1 hZ hown w1 w2 e (g := fr x pc Ls (.int n :: st)) rfl (by rw [B.1]; exact d1) rfl hn hcap hb (by rw [B.2.2.1]; exact hc) (by rw [B.2.2.1]; exact hl)
  exact G.of stp (hr T' h' _ cA ((cl T' h' _ _ X' e' Ex).2 _ (Nat.le_refl _) A.lt) rfl Ex (Arv.new A hn) O)
theorem w_getF (W : Wk E x T h F cs ss) (B : Is x own b ml R ret nm) {R0 O n t : String} {index : Nat} {a : Addr} {v : Value} (d : D b pc (.getfield index) 3 nx) (w : (Cond.fieldLink own index R0 n t).before E.a E.Z = true) (via : Via E.Z R0 O n t) (Fl : Fld E.Z h a O n t v)
    (hr : ∀ (T' : State), Wk E x T' h F cs ss → G E x T' (fr x nx Ls (v :: st))) : G E x T (fr x pc Ls (.ref a :: st)) := by
  obtain ⟨d1, rfl⟩ := d
  obtain ⟨vm, L, X, e, hZ, hown, cl, -⟩ := W.open B
  obtain ⟨T', X', e', stp⟩ := getF X B.2.2.2.2.2.2.1 hZ hown (host := "") (Or.inl w) via e Fl (g := fr x pc Ls (.ref a :: st)) rfl rfl (by rw [B.1]; exact d1)
  exact G.of stp (hr T' (cl T' h _ _ X' e' ⟨Nat.le_refl _, fun _ _ q => q⟩).1)
theorem w_getFN (W : Wk E x T h F cs ss) (B : Is x own b ml R ret nm) {R0 O n t host : String} {index : Nat} {a : Addr} {v : Value} (d : D b pc (.getfield index) 3 nx) (w : (Cond.fieldLinkNest own index R0 n t host).before E.a E.Z = true) (via : Via E.Z R0 O n t) (Fl : Fld E.Z h a O n t v)
    (hr : ∀ (T' : State), Wk E x T' h F cs ss → G E x T' (fr x nx Ls (v :: st))) : G E x T (fr x pc Ls (.ref a :: st)) := by
  obtain ⟨d1, rfl⟩ := d
  obtain ⟨vm, L, X, e, hZ, hown, cl, -⟩ := W.open B
  obtain ⟨T', X', e', stp⟩ := getF X B.2.2.2.2.2.2.1 hZ hown (Or.inr w) via e Fl (g := fr x pc Ls (.ref a :: st)) rfl rfl (by rw [B.1]; exact d1)
  exact G.of stp (hr T' (cl T' h _ _ X' e' ⟨Nat.le_refl _, fun _ _ q => q⟩).1)
theorem w_getS (W : Wk E x T h F cs ss) (B : Is x own b ml R ret nm) {R0 O n t : String} {index : Nat} {v : Value} (d : D b pc (.getstatic index) 3 nx) (w : (Cond.fieldLink own index R0 n t).before E.a E.Z = true) (via : Via E.Z R0 O n t) (Fl : Sta E.Z E.Z.heap O n t v)
    (hr : ∀ (T' : State), Wk E x T' h F cs ss → G E x T' (fr x nx Ls (v :: st))) : G E x T (fr x pc Ls st) := by
  obtain ⟨d1, rfl⟩ := d
  have Ol := W.old
  obtain ⟨vm, L, X, e, hZ, hown, cl, -⟩ := W.open B
  obtain ⟨T', X', e', stp⟩ := getS X B.2.2.2.2.2.2.1 hZ hown (host := "") w via e (Fl.ext Ol) (g := fr x pc Ls st) rfl (by rw [B.1]; exact d1)
  exact G.of stp (hr T' (cl T' h _ _ X' e' ⟨Nat.le_refl _, fun _ _ q => q⟩).1)
theorem w_putF (W : Wk E x T h F cs ss) (B : Is x own b ml R ret nm) {R0 O n t C : String} {index kk : Nat} {ty : FieldType} {a : Addr} {v v' old : Value} (d : D b pc (.putfield index) 3 nx) (hF : a ∈ F) (w : (Cond.fieldLink own index R0 n t).before E.a E.Z = true) (via : Via E.Z R0 O n t) (Fl : Fld E.Z h a O n t old) (Ex : Exa E.Z h a C)
    (Ly : (Cond.lays C O n t).before E.a E.Z = true ∨ ((Cond.laysFinal C O n t).before E.a E.Z = true ∧ own = O ∧ nm = "<init>")) (wi : (Cond.instantiable C kk).before E.a E.Z = true) (hty : parseFieldDescriptor t = some ty) (hn : narrow ty v = v') (hf : fits ty v' = true)
    (hr : ∀ (T' : State) (h' : Heap), Wk E x T' h' F cs ss → Wr h h' a (Jvm.RoadKit.slotOf E.Z O n t) v' → Fld E.Z h' a O n t v' → G E x T' (fr x nx Ls st)) : G E x T (fr x pc Ls (v :: .ref a :: st)) := by
  obtain ⟨d1, rfl⟩ := d
  obtain ⟨vm, L, X, e, hZ, hown, -, cl⟩ := W.open B
  obtain ⟨T', h', X', e', Wr', stp⟩ := putFN X B.2.2.2.2.2.2.1 hZ hown w via e Fl Ex (Ly.imp id fun q => ⟨q.1, q.2.1, B.2.2.2.2.1.trans q.2.2⟩) wi hty hn hf (g := fr x pc Ls (v :: .ref a :: st)) rfl rfl (by rw [B.1]; exact d1)
  exact G.of stp (hr T' h' (cl a _ _ T' h' hF X' e' Wr') Wr' (Fl.same Wr'))
theorem w_castY (W : Wk E x T h F cs ss) (B : Is x own b ml R ret nm) {K : String} {index : Nat} {a : Addr} (d : D b pc (.checkcast index) 3 nx) (w : (Cond.classLink own index K).before E.a E.Z = true) (I : Ins E.Z h a K true)
    (hr : ∀ (T' : State), Wk E x T' h F cs ss → G E x T' (fr x nx Ls (.ref a :: st))) : G E x T (fr x pc Ls (.ref a :: st)) := by
  obtain ⟨d1, rfl⟩ := d
  obtain ⟨vm, L, X, e, hZ, hown, cl, -⟩ := W.open B
  obtain ⟨T', X', e', stp⟩ := castY X B.2.2.2.2.2.2.1 hZ hown w e I (g := fr x pc Ls (.ref a :: st)) rfl rfl (by rw [B.1]; exact d1)
  exact G.of stp (hr T' (cl T' h _ _ X' e' ⟨Nat.le_refl _, fun _ _ q => q⟩).1)
theorem w_castNull (W : Wk E x T h F cs ss) (B : Is x own b ml R ret nm) {index : Nat} (d : D b pc (.checkcast index) 3 nx) (hr : G E x T (fr x nx Ls (.null :: st))) : G E x T (fr x pc Ls (.null :: st)) := by
  obtain ⟨d1, rfl⟩ := d
  obtain ⟨vm, L, X, e, hZ, hown, cl, -⟩ := W.open B
  exact G.of (fun t r => X.checkcastNull B.2.2.2.2.2.2.1 (g := fr x pc Ls (.null :: st)) rfl rfl (by rw [B.1]; exact d1) t r) hr
theorem w_instY (W : Wk E x T h F cs ss) (B : Is x own b ml R ret nm) {K : String} {index : Nat} {a : Addr} (d : D b pc (.instanceof index) 3 nx) (w : (Cond.classLink own index K).before E.a E.Z = true) (I : Ins E.Z h a K true)
    (hr : ∀ (T' : State), Wk E x T' h F cs ss → G E x T' (fr x nx Ls (.int 1 :: st))) : G E x T (fr x pc Ls (.ref a :: st)) := by
  obtain ⟨d1, rfl⟩ := d
  obtain ⟨vm, L, X, e, hZ, hown, cl, -⟩ := W.open B
  obtain ⟨T', X', e', stp⟩ := instY X B.2.2.2.2.2.2.1 hZ hown w e I (g := fr x pc Ls (.ref a :: st)) rfl rfl (by rw [B.1]; exact d1)
  exact G.of stp (hr T' (cl T' h _ _ X' e' ⟨Nat.le_refl _, fun _ _ q => q⟩).1)
theorem w_initO (W : Wk E x T h F cs ss) (B : Is x own b ml R ret nm) {index : Nat} {a : Addr} (d : D b pc (.invokespecial index) 3 nx) (w1 : (Cond.methodLink own index Lib.objectInit).before E.a E.Z = true) (w2 : (Cond.instanceMethod Lib.objectInit).before E.a E.Z = true) (w3 : (Cond.code Lib.objectInit ⟨#[0xb1]⟩ 1 none).before E.a E.Z = true)
    (hsz : Ls.size = ml) (hf : 1 ≤ R.frames) {Wt : Nat} (hW : (st.map fun v => v.category).sum ≤ Wt) (hl : Wt + 12 ≤ R.locals) (hr : ∀ (T' : State), Wk E x T' h F cs ss → G E x T' (fr x nx Ls st)) : G E x T (fr x pc Ls (.ref a :: st)) := by
  obtain ⟨d1, rfl⟩ := d
  obtain ⟨vm, L, X, e, hZ, hown, cl, -⟩ := W.open B
  obtain ⟨T', X', e', stp⟩ := initO X B.2.2.2.2.2.2.1 hZ hown w1 w2 w3 e (g := fr x pc Ls (.ref a :: st)) rfl (hsz.trans B.2.1.symm) rfl (by rw [B.1]; exact d1) (by rw [B.2.2.1]; exact hf) (W := Wt) (by show 2 * 0 + _ ≤ _; omega) (by rw [B.2.2.1]; exact hl)
  exact G.of stp (hr T' (cl T' h _ _ X' e' ⟨Nat.le_refl _, fun _ _ q => q⟩).1)
theorem w_arraylength (W : Wk E x T h F cs ss) (B : Is x own b ml R ret nm) {a : Addr} {k : ClassId} {ty : FieldType} {n : Int32} {vs : List Value} {dv : Value} (d : D b pc .arraylength 1 nx) (A : Arv E.Z h a k ty n vs dv) (hr : G E x T (fr x nx Ls (.int n :: st))) : G E x T (fr x pc Ls (.ref a :: st)) := by
  obtain ⟨d1, rfl⟩ := d
  obtain ⟨vm, L, X, e, hZ, hown, -, -⟩ := W.open B
  obtain ⟨c, A, -, S, N, -, -⟩ := A
  refine G.of (fun t r => X.arraylength B.2.2.2.2.2.2.1 (by rw [e]; exact A.1) (State.isArrayOf_alike hZ.alike A.2.1) (g := fr x pc Ls (.ref a :: st)) rfl rfl (by rw [B.1]; exact d1) t ?_) hr
  rw [len_of S N]; exact r
theorem arv_at {Z : State} {h : Heap} {a : Addr} {k : ClassId} {ty : FieldType} {n : Int32} {vs : List Value} {dv : Value} {c : Cell} {j : Int32} {v : Value} (S : c.slots.size = n.toNatClampNeg) (H : Has c vs dv) (hj : ¬ j < 0 ∧ j < n) (hv : vs.getD j.toNatClampNeg dv = v) : ¬ (j < 0 ∨ c.slots.size ≤ j.toNatClampNeg) ∧ c.slots[j.toNatClampNeg]? = some v :=
  ⟨inb_of S hj, Has.at H (inb_of S hj) hv⟩
theorem w_caload (W : Wk E x T h F cs ss) (B : Is x own b ml R ret nm) {a : Addr} {k : ClassId} {n j : Int32} {vs : List Value} {dv v : Value} (d : D b pc .caload 1 nx) (A : Arv E.Z h a k .char n vs dv) (hj : ¬ j < 0 ∧ j < n) (hv : vs.getD j.toNatClampNeg dv = v) (hr : G E x T (fr x nx Ls (v :: st))) : G E x T (fr x pc Ls (.int j :: .ref a :: st)) := by
  obtain ⟨d1, rfl⟩ := d
  obtain ⟨vm, L, X, e, hZ, hown, -, -⟩ := W.open B
  obtain ⟨c, A, -, S, N, H, -⟩ := A
  exact G.of (fun t r => X.caload B.2.2.2.2.2.2.1 (by rw [e]; exact A.1) (State.isArrayOf_alike hZ.alike A.2.1) A.2.2 (inb_of S hj) (Has.at H (inb_of S hj) hv) (g := fr x pc Ls (.int j :: .ref a :: st)) rfl rfl (by rw [B.1]; exact d1) t r) hr
theorem w_baload (W : Wk E x T h F cs ss) (B : Is x own b ml R ret nm) {a : Addr} {k : ClassId} {n j : Int32} {vs : List Value} {dv v : Value} (d : D b pc .baload 1 nx) (A : Arv E.Z h a k .byte n vs dv) (hj : ¬ j < 0 ∧ j < n) (hv : vs.getD j.toNatClampNeg dv = v) (hr : G E x T (fr x nx Ls (v :: st))) : G E x T (fr x pc Ls (.int j :: .ref a :: st)) := by
  obtain ⟨d1, rfl⟩ := d
  obtain ⟨vm, L, X, e, hZ, hown, -, -⟩ := W.open B
  obtain ⟨c, A, -, S, N, H, -⟩ := A
  exact G.of (fun t r => X.baloadBytes B.2.2.2.2.2.2.1 (by rw [e]; exact A.1) (State.isArrayOf_alike hZ.alike A.2.1) A.2.2 (inb_of S hj) (Has.at H (inb_of S hj) hv) (g := fr x pc Ls (.int j :: .ref a :: st)) rfl rfl (by rw [B.1]; exact d1) t r) hr
theorem w_iaload (W : Wk E x T h F cs ss) (B : Is x own b ml R ret nm) {a : Addr} {k : ClassId} {n j : Int32} {vs : List Value} {dv v : Value} (d : D b pc .iaload 1 nx) (A : Arv E.Z h a k .int n vs dv) (hj : ¬ j < 0 ∧ j < n) (hv : vs.getD j.toNatClampNeg dv = v) (hr : G E x T (fr x nx Ls (v :: st))) : G E x T (fr x pc Ls (.int j :: .ref a :: st)) := by
  obtain ⟨d1, rfl⟩ := d
  obtain ⟨vm, L, X, e, hZ, hown, -, -⟩ := W.open B
  obtain ⟨c, A, -, S, N, H, -⟩ := A
  exact G.of (fun t r => X.iaload B.2.2.2.2.2.2.1 (by rw [e]; exact A.1) (State.isArrayOf_alike hZ.alike A.2.1) A.2.2 (inb_of S hj) (Has.at H (inb_of S hj) hv) (g := fr x pc Ls (.int j :: .ref a :: st)) rfl rfl (by rw [B.1]; exact d1) t r) hr
theorem w_laload (W : Wk E x T h F cs ss) (B : Is x own b ml R ret nm) {a : Addr} {k : ClassId} {n j : Int32} {vs : List Value} {dv v : Value} (d : D b pc .laload 1 nx) (A : Arv E.Z h a k .long n vs dv) (hj : ¬ j < 0 ∧ j < n) (hv : vs.getD j.toNatClampNeg dv = v) (hr : G E x T (fr x nx Ls (v :: st))) : G E x T (fr x pc Ls (.int j :: .ref a :: st)) := by
  obtain ⟨d1, rfl⟩ := d
  obtain ⟨vm, L, X, e, hZ, hown, -, -⟩ := W.open B
  obtain ⟨c, A, -, S, N, H, -⟩ := A
  exact G.of (fun t r => X.laload B.2.2.2.2.2.2.1 (by rw [e]; exact A.1) (State.isArrayOf_alike hZ.alike A.2.1) A.2.2 (inb_of S hj) (Has.at H (inb_of S hj) hv) (g := fr x pc Ls (.int j :: .ref a :: st)) rfl rfl (by rw [B.1]; exact d1) t r) hr
theorem w_aaload (W : Wk E x T h F cs ss) (B : Is x own b ml R ret nm) {a : Addr} {k : ClassId} {ty : FieldType} {n j : Int32} {vs : List Value} {dv v : Value} (d : D b pc .aaload 1 nx) (hty : ty.isReference = true) (A : Arv E.Z h a k ty n vs dv) (hj : ¬ j < 0 ∧ j < n) (hv : vs.getD j.toNatClampNeg dv = v) (hr : G E x T (fr x nx Ls (v :: st))) : G E x T (fr x pc Ls (.int j :: .ref a :: st)) := by
  obtain ⟨d1, rfl⟩ := d
  obtain ⟨vm, L, X, e, hZ, hown, -, -⟩ := W.open B
  obtain ⟨c, A, -, S, N, H, -⟩ := A
  exact G.of (fun t r => X.aaload B.2.2.2.2.2.2.1 (by rw [e]; exact A.1) (State.isArrayOf_alike hZ.alike A.2.1) hty A.2.2 (inb_of S hj) (Has.at H (inb_of S hj) hv) (g := fr x pc Ls (.int j :: .ref a :: st)) rfl rfl (by rw [B.1]; exact d1) t r) hr
theorem w_castore (W : Wk E x T h F cs ss) (B : Is x own b ml R ret nm) {a : Addr} {k : ClassId} {n j v u : Int32} {vs : List Value} {dv : Value} (d : D b pc .castore 1 nx) (hF : a ∈ F) (A : Arv E.Z h a k .char n vs dv) (hj : ¬ j < 0 ∧ j < n) {i : Nat} (hi : j.toNatClampNeg = i) (hl : i < vs.length) (hu : nar .char v = u)
    (hr : ∀ (T' : State) (h' : Heap), Wk E x T' h' F cs ss → Keep h h' [a] → Arv E.Z h' a k .char n (vs.set i (.int u)) dv → G E x T' (fr x nx Ls st)) : G E x T (fr x pc Ls (.int v :: .int j :: .ref a :: st)) := by
  obtain ⟨d1, rfl⟩ := d
  subst hu
  obtain ⟨vm, L, X, e, hZ, hown, -, cl⟩ := W.open B
  obtain ⟨c, A, q, S, N, H, Gf⟩ := A
  obtain ⟨T', h', X', e', Wr', stp⟩ := stC X B.2.2.2.2.2.2.1 hZ e A (inb_of S hj) (g := fr x pc Ls (.int v :: .int j :: .ref a :: st)) rfl rfl (by rw [B.1]; exact d1)
  exact G.of stp (hr T' h' (cl a _ _ T' h' hF X' e' Wr') (Keep.of_wr Wr') (Arv.set A q S N H Gf (fits_nar_char _) Wr' i hi hl))
theorem w_bastore (W : Wk E x T h F cs ss) (B : Is x own b ml R ret nm) {a : Addr} {k : ClassId} {n j v u : Int32} {vs : List Value} {dv : Value} (d : D b pc .bastore 1 nx) (hF : a ∈ F) (A : Arv E.Z h a k .byte n vs dv) (hj : ¬ j < 0 ∧ j < n) {i : Nat} (hi : j.toNatClampNeg = i) (hl : i < vs.length) (hu : nar .byte v = u)
    (hr : ∀ (T' : State) (h' : Heap), Wk E x T' h' F cs ss → Keep h h' [a] → Arv E.Z h' a k .byte n (vs.set i (.int u)) dv → G E x T' (fr x nx Ls st)) : G E x T (fr x pc Ls (.int v :: .int j :: .ref a :: st)) := by
  obtain ⟨d1, rfl⟩ := d
  subst hu
  obtain ⟨vm, L, X, e, hZ, hown, -, cl⟩ := W.open B
  obtain ⟨c, A, q, S, N, H, Gf⟩ := A
  obtain ⟨T', h', X', e', Wr', stp⟩ := stB X B.2.2.2.2.2.2.1 hZ e A (inb_of S hj) (g := fr x pc Ls (.int v :: .int j :: .ref a :: st)) rfl rfl (by rw [B.1]; exact d1)
  exact G.of stp (hr T' h' (cl a _ _ T' h' hF X' e' Wr') (Keep.of_wr Wr') (Arv.set A q S N H Gf (fits_nar_byte _) Wr' i hi hl))
theorem w_iastore (W : Wk E x T h F cs ss) (B : Is x own b ml R ret nm) {a : Addr} {k : ClassId} {n j v : Int32} {vs : List Value} {dv : Value} (d : D b pc .iastore 1 nx) (hF : a ∈ F) (A : Arv E.Z h a k .int n vs dv) (hj : ¬ j < 0 ∧ j < n) {i : Nat} (hi : j.toNatClampNeg = i) (hl : i < vs.length)
    (hr : ∀ (T' : State) (h' : Heap), Wk E x T' h' F cs ss → Keep h h' [a] → Arv E.Z h' a k .int n (vs.set i (.int v)) dv → G E x T' (fr x nx Ls st)) : G E x T (fr x pc Ls (.int v :: .int j :: .ref a :: st)) := by
  obtain ⟨d1, rfl⟩ := d
  obtain ⟨vm, L, X, e, hZ, hown, -, cl⟩ := W.open B
  obtain ⟨c, A, q, S, N, H, Gf⟩ := A
  obtain ⟨T', h', X', e', Wr', stp⟩ := stI X B.2.2.2.2.2.2.1 hZ e A (inb_of S hj) (g := fr x pc Ls (.int v :: .int j :: .ref a :: st)) rfl rfl (by rw [B.1]; exact d1)
  exact G.of stp (hr T' h' (cl a _ _ T' h' hF X' e' Wr') (Keep.of_wr Wr') (Arv.set A q S N H Gf rfl Wr' i hi hl))
theorem w_lastore (W : Wk E x T h F cs ss) (B : Is x own b ml R ret nm) {a : Addr} {k : ClassId} {n j : Int32} {v : Int64} {vs : List Value} {dv : Value} (d : D b pc .lastore 1 nx) (hF : a ∈ F) (A : Arv E.Z h a k .long n vs dv) (hj : ¬ j < 0 ∧ j < n) {i : Nat} (hi : j.toNatClampNeg = i) (hl : i < vs.length)
    (hr : ∀ (T' : State) (h' : Heap), Wk E x T' h' F cs ss → Keep h h' [a] → Arv E.Z h' a k .long n (vs.set i (.long v)) dv → G E x T' (fr x nx Ls st)) : G E x T (fr x pc Ls (.long v :: .int j :: .ref a :: st)) := by
  obtain ⟨d1, rfl⟩ := d
  obtain ⟨vm, L, X, e, hZ, hown, -, cl⟩ := W.open B
  obtain ⟨c, A, q, S, N, H, Gf⟩ := A
  obtain ⟨T', h', X', e', Wr', stp⟩ := stJ X B.2.2.2.2.2.2.1 hZ e A (inb_of S hj) (g := fr x pc Ls (.long v :: .int j :: .ref a :: st)) rfl rfl (by rw [B.1]; exact d1)
  exact G.of stp (hr T' h' (cl a _ _ T' h' hF X' e' Wr') (Keep.of_wr Wr') (Arv.set A q S N H Gf rfl Wr' i hi hl))
theorem fits_isRef {ty : FieldType} (hty : ty.isReference = true) {v : Value} (hv : v.isRef = true) : fits ty v = true := by
  cases ty <;> simp [FieldType.isReference] at hty <;> rcases ref_cases hv with rfl | ⟨a, rfl⟩ <;> rfl
theorem w_aastore (W : Wk E x T h F cs ss) (B : Is x own b ml R ret nm) {a : Addr} {k : ClassId} {ty : FieldType} {n j : Int32} {v : Value} {vs : List Value} {dv : Value} (d : D b pc .aastore 1 nx) (hF : a ∈ F) (hty : ty.isReference = true) (A : Arv E.Z h a k ty n vs dv) (hj : ¬ j < 0 ∧ j < n) {i : Nat} (hi : j.toNatClampNeg = i) (hl : i < vs.length) (hv : v.isRef = true) (Sv : Sto E.Z h a v)
    (hr : ∀ (T' : State) (h' : Heap), Wk E x T' h' F cs ss → Keep h h' [a] → Arv E.Z h' a k ty n (vs.set i v) dv → G E x T' (fr x nx Ls st)) : G E x T (fr x pc Ls (v :: .int j :: .ref a :: st)) := by
  obtain ⟨d1, rfl⟩ := d
  obtain ⟨vm, L, X, e, hZ, hown, -, cl⟩ := W.open B
  obtain ⟨c, A, q, S, N, H, Gf⟩ := A
  obtain ⟨T', h', X', e', Wr', stp⟩ := stR X B.2.2.2.2.2.2.1 hZ e A (inb_of S hj) hty Sv (g := fr x pc Ls (v :: .int j :: .ref a :: st)) rfl rfl (by rw [B.1]; exact d1)
  exact G.of stp (hr T' h' (cl a _ _ T' h' hF X' e' Wr') (Keep.of_wr Wr') (Arv.set A q S N H Gf (fits_isRef hty hv) Wr' i hi hl))
theorem w_ldcI (W : Wk E x T h F cs ss) (B : Is x own b ml R ret nm) {index : Nat} {v : Int32} (d : D b pc (.ldc index) 2 nx) (w : (Cond.constant own index v).before E.a E.Z = true) (hr : G E x T (fr x nx Ls (.int v :: st))) : G E x T (fr x pc Ls st) := by
  obtain ⟨d1, rfl⟩ := d
  obtain ⟨vm, L, X, e, hZ, hown, -, -⟩ := W.open B
  exact G.of (fun t r => X.ldcI B.2.2.2.2.2.2.1 hown (mv hZ w) (g := fr x pc Ls st) rfl (by rw [B.1]; exact d1) r) hr
theorem w_ldcWI (W : Wk E x T h F cs ss) (B : Is x own b ml R ret nm) {index : Nat} {v : Int32} (d : D b pc (.ldc_w index) 3 nx) (w : (Cond.constant own index v).before E.a E.Z = true) (hr : G E x T (fr x nx Ls (.int v :: st))) : G E x T (fr x pc Ls st) := by
  obtain ⟨d1, rfl⟩ := d
  obtain ⟨vm, L, X, e, hZ, hown, -, -⟩ := W.open B
  exact G.of (fun t r => X.ldcWI B.2.2.2.2.2.2.1 hown (mv hZ w) (g := fr x pc Ls st) rfl (by rw [B.1]; exact d1) r) hr
theorem w_ldc2J (W : Wk E x T h F cs ss) (B : Is x own b ml R ret nm) {index : Nat} {v : Int64} (d : D b pc (.ldc2_w index) 3 nx) (w : (Cond.constantLong own index v).before E.a E.Z = true) (hr : G E x T (fr x nx Ls (.long v :: st))) : G E x T (fr x pc Ls st) := by
  obtain ⟨d1, rfl⟩ := d
  obtain ⟨vm, L, X, e, hZ, hown, -, -⟩ := W.open B
  exact G.of (fun t r => X.ldc2J B.2.2.2.2.2.2.1 hown (mv hZ w) (g := fr x pc Ls st) rfl (by rw [B.1]; exact d1) r) hr
end StepsC
end Jvm.Own
namespace Jvm.Own
open Sem ClassFile Op Lib Bundle Jvm.Stand Jvm.Free Jvm.LawKit Jvm.RoadKit
section StepsD
variable {E : Gl} {x : Cx} {T : State} {h : Heap} {F : List Addr} {cs ss : Nat} {own : String} {b : ByteArray} {ml : Nat} {R : Room} {ret : Option FieldType} {nm : String} {pc nx tg : Nat} {o : Int} {Ls Ls' : Array Slot} {st stk : List Value}
/-- the end of a walk -/
theorem fin_of (W : Wk E x T h F cs ss) (B : Is x own b ml R ret nm) {v : Option Value} {F' : List Addr} {Q : Option Value → Heap → List Addr → Prop} (hQ : x.Q = Q) (q : Q v h F') (hF' : ∀ y ∈ F', y ∈ F) (hc : cs ≤ R.cells) (hs : ss ≤ R.slots) (hv : ret = none → v = none) {g : JFrame}
    (stp : ∀ (vm : Vm) (L : List Loc) (fs : List Frame), Stand x.p E.l x.e x.R (x.s.setVm vm) x.m x.args x.below x.meth x.c T L cs ss → (∀ (f : JFrame) (acts : List Action), f.method = x.m → f.locked = none → f.entered = [] → (doReturn x.e (T.setTop f) acts v).1 = T.setFrames fs) → Steps x.p.tables x.e x.below (T.setTop g) (T.setFrames fs)) : G E x T g := by
  obtain ⟨vm, k, L, X, h1, h2, h3, h4, h5, h6, h7, h8, h9, h10⟩ := W
  obtain ⟨fs, hr, hrun, hended, hW, hsame⟩ := X.leave (v := v) (fun q => hv (B.2.2.2.1.symm.trans q)) B.2.2.2.2.2.1
  have c : CHr E.Z E.K vm h T.vm h := CHv.at X h5 h10.1 h8.1
  refine ⟨T.setFrames fs, _, stp vm L fs X hr, hrun, hended, v, L, F', rfl, ?_, h6, ?_, ?_, ?_, ?_⟩
  · rw [hQ]; show Q v T.heap F'; rw [h1]; exact q
  · show Old E.Z E.n T.heap; rw [h1]; exact h7
  · show FOk E T.vm T.heap F'; rw [h1]
    exact fun y hy => ⟨(h9 y (hF' y hy)).1, (h9 y (hF' y hy)).2.1, c.safe (h9 y (hF' y hy)).2.1 (h9 y (hF' y hy)).2.2⟩
  · show CHr E.Z E.K x.s.vm x.s.heap T.vm T.heap; rw [h1]; exact h8.trans c
  · have hc' : cs ≤ x.R.cells := by rw [B.2.2.1]; exact hc
    have hs' : ss ≤ x.R.slots := by rw [B.2.2.1]; exact hs
    show EndF E.w _ _ _ _ _ _
    cases hw : E.w with
    | true =>
      obtain ⟨a1, a2, a3⟩ := h2.ended (U := T.setFrames fs) hW (by show k ≤ T.heap.size; rw [h1]; exact h3) hsame
      exact ⟨⟨v, rfl⟩, a1, a2, a3.mono hc' hs'⟩
    | false =>
      have e := h4 hw
      subst e
      exact ⟨⟨v, rfl⟩, hW, hsame.mono hc' hs'⟩
theorem w_ireturn (W : Wk E x T h F cs ss) (B : Is x own b ml R (some .int) nm) {v : Int32} {F' : List Addr} {Q : Option Value → Heap → List Addr → Prop} (d : D b pc .ireturn 1 nx) (hQ : x.Q = Q) (hc : cs ≤ R.cells) (hs : ss ≤ R.slots) (hF' : ∀ y ∈ F', y ∈ F) (q : Q (some (.int v)) h F') : G E x T (fr x pc Ls (.int v :: st)) :=
  fin_of W B hQ q hF' hc hs (fun q => nomatch q) fun _ _ _ X hr => retOut X B.2.2.2.2.2.2.1 B.2.2.2.1 rfl (Or.inl ⟨rfl, Or.inl rfl, _, rfl⟩) (by rw [B.1]; exact d.1) hr
theorem w_ireturnN (W : Wk E x T h F cs ss) {t : FieldType} (B : Is x own b ml R (some t) nm) {v u : Int32} {F' : List Addr} {Q : Option Value → Heap → List Addr → Prop} (d : D b pc .ireturn 1 nx) (ht : t = .boolean ∨ t = .byte ∨ t = .char ∨ t = .short) (hu : nar t v = u) (hQ : x.Q = Q) (hc : cs ≤ R.cells) (hs : ss ≤ R.slots) (hF' : ∀ y ∈ F', y ∈ F) (q : Q (some (.int u)) h F') : G E x T (fr x pc Ls (.int v :: st)) := by
  subst hu
  exact fin_of W B hQ q hF' hc hs (fun q => nomatch q) fun _ _ _ X hr => retN X B.2.2.2.2.2.2.1 B.2.2.2.1 ht (by rw [B.1]; exact d.1) hr
theorem w_lreturn (W : Wk E x T h F cs ss) (B : Is x own b ml R (some .long) nm) {v : Int64} {F' : List Addr} {Q : Option Value → Heap → List Addr → Prop} (d : D b pc .lreturn 1 nx) (hQ : x.Q = Q) (hc : cs ≤ R.cells) (hs : ss ≤ R.slots) (hF' : ∀ y ∈ F', y ∈ F) (q : Q (some (.long v)) h F') : G E x T (fr x pc Ls (.long v :: st)) :=
  fin_of W B hQ q hF' hc hs (fun q => nomatch q) fun _ _ _ X hr => retOut X B.2.2.2.2.2.2.1 B.2.2.2.1 rfl (Or.inr (Or.inl ⟨rfl, rfl, _, rfl⟩)) (by rw [B.1]; exact d.1) hr
theorem w_areturn (W : Wk E x T h F cs ss) {t : FieldType} (B : Is x own b ml R (some t) nm) {v : Value} {F' : List Addr} {Q : Option Value → Heap → List Addr → Prop} (d : D b pc .areturn 1 nx) (ht : t.isReference = true) (hv : v.isRef = true) (hQ : x.Q = Q) (hc : cs ≤ R.cells) (hs : ss ≤ R.slots) (hF' : ∀ y ∈ F', y ∈ F) (q : Q (some v) h F') : G E x T (fr x pc Ls (v :: st)) := by
  have hn : narrow t v = v := by
    rcases ref_cases hv with rfl | ⟨a, rfl⟩ <;> cases t <;> simp [FieldType.isReference] at ht <;> rfl
  exact fin_of W B hQ q hF' hc hs (fun q => nomatch q) fun _ _ _ X hr => retOut X B.2.2.2.2.2.2.1 B.2.2.2.1 hn (Or.inr (Or.inr (Or.inr (Or.inr ⟨rfl, ht, hv⟩)))) (by rw [B.1]; exact d.1) hr
theorem w_return (W : Wk E x T h F cs ss) (B : Is x own b ml R none nm) {F' : List Addr} {Q : Option Value → Heap → List Addr → Prop} (d : D b pc .return_ 1 nx) (hQ : x.Q = Q) (hc : cs ≤ R.cells) (hs : ss ≤ R.slots) (hF' : ∀ y ∈ F', y ∈ F) (q : Q none h F') : G E x T (fr x pc Ls []) :=
  fin_of W B hQ q hF' hc hs (fun _ => rfl) fun _ _ _ X hr => X.returnOut B.2.2.2.2.2.2.1 B.2.2.2.1 (by rw [B.1]; exact d.1) hr
/-- a String constant of those held -/
theorem w_ldcS (W : Wk E x T h F cs ss) (B : Is x own b ml R ret nm) {index n : Nat} {text : String} {vs : List Value} {z : Int32} (d : D b pc (.ldc index) 2 nx) (hw : E.w = true) (hmem : (own, index) ∈ E.K) (w : (Cond.stringLink own index text).before E.a E.Z = true) (wS : ∀ c ∈ Bundle.stringAtoms, c.before E.a E.Z = true)
    (ht : (∀ c ∈ text.toList, c.toNat < 256) ∧ text.toList.map (fun c => Value.int (Jvm.Lit.byteI c.toNat.toUInt16)) = vs) (hz : ¬ z < 0) (hl : z.toNatClampNeg = vs.length) (hn : 4 * text.toList.length ≤ n) (hbig : n ≤ 536870912) (hc : cs + 2 ≤ R.cells) (hs : ss + (n + 4) ≤ R.slots)
    (hr : ∀ (T' : State) (h' : Heap) (a v : Addr) (k : ClassId), Wk E x T' h' F (cs + 2) (ss + (n + 4)) → Ext h h' → Exa E.Z h' a "java/lang/String" → Fld E.Z h' a "java/lang/String" "coder" "B" (.int 0) → Fld E.Z h' a "java/lang/String" "value" "[B" (.ref v) → Arv E.Z h' v k .byte z vs (.int 0) → (∀ y ∈ F, y ≠ a ∧ y ≠ v) → G E x T' (fr x nx Ls (.ref a :: st))) : G E x T (fr x pc Ls st) := by
  obtain ⟨d1, rfl⟩ := d
  obtain ⟨vm, k, L, X, h1, h2, h3, h4, h5, h6, h7, h8, h9, h10⟩ := W
  have hown : vm.findClass own = some x.m.cls := by rw [h2.1.alike.findClass]; exact B.2.2.2.2.2.2.2
  obtain ⟨a, T', h', k1, v, kv, X', e', Ex, S', hk1, hZ', hown', A, C, V, K, la, lb, cr, -, sf, stp⟩ := ldcCH X B.2.2.2.2.2.2.1 h5 hown w wS h1 h2 h3 h10.1 hmem h8.1 ht hz hl (g := fr x pc Ls st) rfl (by rw [B.1]; exact d1) hn hbig (by rw [B.2.2.1]; exact hc) (by rw [B.2.2.1]; exact hs)
  have f1 : FOk E T'.vm h' F := fun y hy => ⟨(h9 y hy).1, Nat.lt_of_lt_of_le (h9 y hy).2.1 Ex.1, cr.safe (h9 y hy).2.1 (h9 y hy).2.2⟩
  exact G.of stp (hr T' h' a v kv ⟨T'.vm, k1, L, X', e', S', hk1, fun q => (Bool.noConfusion (hw.symm.trans q)), hZ', h6, h7.ext Ex, h8.trans cr, f1, h10⟩ Ex A C V K fun y hy => sf y (f1 y hy).2.2)
/-- a String constant of which nothing is said but that a reference is pushed -/
theorem w_ldcO (W : Wk E x T h F cs ss) (B : Is x own b ml R ret nm) {index n : Nat} {text : String} (d : D b pc (.ldc index) 2 nx) (hw : E.w = true) (w : (Cond.stringLink own index text).before E.a E.Z = true) (wS : ∀ c ∈ Bundle.stringAtoms, c.before E.a E.Z = true)
    (hn : 4 * text.toList.length ≤ n) (hbig : n ≤ 536870912) (hc : cs + 2 ≤ R.cells) (hs : ss + (n + 4) ≤ R.slots)
    (hr : ∀ (T' : State) (h' : Heap) (a : Addr), Wk E x T' h' F (cs + 2) (ss + (n + 4)) → Ext h h' → G E x T' (fr x nx Ls (.ref a :: st))) : G E x T (fr x pc Ls st) := by
  obtain ⟨d1, rfl⟩ := d
  obtain ⟨vm, k, L, X, h1, h2, h3, h4, h5, h6, h7, h8, h9, h10⟩ := W
  have hown : vm.findClass own = some x.m.cls := by rw [h2.1.alike.findClass]; exact B.2.2.2.2.2.2.2
  obtain ⟨a, T', h', k1, X', e', Ex, S', hk1, hZ', hown', cr, -, stp⟩ := ldcOH X B.2.2.2.2.2.2.1 h5 hown w wS h1 h2 h3 h10.1 h8.1 (g := fr x pc Ls st) rfl (by rw [B.1]; exact d1) hn hbig (by rw [B.2.2.1]; exact hc) (by rw [B.2.2.1]; exact hs)
  have f1 : FOk E T'.vm h' F := fun y hy => ⟨(h9 y hy).1, Nat.lt_of_lt_of_le (h9 y hy).2.1 Ex.1, cr.safe (h9 y hy).2.1 (h9 y hy).2.2⟩
  exact G.of stp (hr T' h' a ⟨T'.vm, k1, L, X', e', S', hk1, fun q => (Bool.noConfusion (hw.symm.trans q)), hZ', h6, h7.ext Ex, h8.trans cr, f1, h10⟩ Ex)
end StepsD
/-! calls: what a contract leaves, said at a point of the caller's walk -/
def PreC (R rm : Room) (as' : Array Value) (h : Heap) (A : Pt) (a : Array Value) : Prop := a = as' ∧ A.U.heap = h ∧ A.cells + rm.cells ≤ R.cells ∧ A.slots + rm.slots ≤ R.slots
def PostC (E : Gl) (vm : Vm) (h : Heap) (rm : Room) (Q : Option Value → Heap → List Addr → Prop) (A : Pt) (_ : Array Value) (v : Option Value) (B : Pt) : Prop :=
  ∃ (L : List Loc) (F' : List Addr), Q v B.U.heap F' ∧ Fr E.n L ∧ Old E.Z E.n B.U.heap ∧ FOk E B.U.vm B.U.heap F' ∧ CHr E.Z E.K vm h B.U.vm B.U.heap ∧ B.locs = A.locs ++ L ∧ B.cells = A.cells + rm.cells ∧ B.slots = A.slots + rm.slots
section Pay
variable {E : Gl} {p : Program} {e : Env} {R rm : Room} {s : State} {args as' : Array Value} {below : List Frame} {vm : Vm} {h : Heap} {F : List Addr} {y : MethodName} {bytes : ByteArray} {maxL : Nat} {ret : Option FieldType} {Q : Option Value → Heap → List Addr → Prop} {len W : Nat}
theorem fok_at {m : MethodId} {meth : Method} {c : Code} {A : Pt} (Y : Stand p E.l e R (s.setVm vm) m args below meth c A.U A.locs A.cells A.slots) (hZ : E.Z.Warmed39 vm) (hE : EW E.Z E.a E.K) (H : CHv E.Z E.K vm h) (hF : FOk E vm h F) : CHr E.Z E.K vm h A.U.vm h ∧ FOk E A.U.vm h F := by
  have c := CHv.at Y hZ hE H
  exact ⟨c, fun z hz => ⟨(hF z hz).1, (hF z hz).2.1, c.safe (hF z hz).2.1 (hF z hz).2.2⟩⟩
theorem payS (hw : E.w = true) (hM : Met E y bytes maxL ret rm as' h F Q) (hZ : E.Z.Warmed39 vm) (hO : Old E.Z E.n h) (H : CHv E.Z E.K vm h) (hF : FOk E vm h F) (hE : GOk E)
    (wc : (Cond.code y bytes maxL ret).before E.a E.Z = true) (wz : (Cond.initialized y.cls).before E.a E.Z = true) (hf : rm.frames + 1 ≤ R.frames) (hl : W + (maxL + 11) + rm.locals ≤ R.locals) :
    BackS E.l R p e below (s.setVm vm) args y len W (PreC R rm as' h) (PostC E vm h rm Q) :=
  BackS.of_freeW (bytes := bytes) (maxL := maxL) (ret := ret)
    (E := fun _ first o t L k n => k = rm.cells ∧ n = rm.slots ∧ ∃ (v : Option Value) (F' : List Addr), o = .returned v ∧ Q v t.heap F' ∧ Fr E.n L ∧ Old E.Z E.n t.heap ∧ FOk E t.vm t.heap F' ∧ CHr E.Z E.K first.vm first.heap t.vm t.heap) hM hf hl
    (fun m meth c A a Y hp => have hU : E.Z.Warmed39 A.U.vm := wtrans (s := s.setVm vm) hZ Y.warmed
      ⟨by show (Cond.and _ .tt).before a A.U = true; rw [Cond.before_and, mv hU wc]; rfl, mv hU wc, mv hU wz, hp.2.2.1, hp.2.2.2⟩)
    (fun m meth c A a g mk Y hp => ⟨hp.1, wtrans (s := s.setVm vm) hZ Y.warmed, hp.2.1, hO, (fok_at Y hZ hE.1 H hF).1.1, (fok_at Y hZ hE.1 H hF).2, hE⟩) (fun _ _ _ _ _ _ _ _ _ => trivial)
    (fun _ _ _ _ ⟨v, L, F', h1, h2, h3, h4, h5, h6, h7⟩ => ⟨L, _, _, by have h7 : EndF E.w _ _ _ _ _ _ := h7; rw [hw] at h7; exact h7, rfl, rfl, v, F', h1, h2, h3, h4, h5, h6⟩)
    (fun m meth c A a g mk v t L k n Y hp _ _ ⟨e1, e2, v', F', e3, e4, e5, e6, e7, e8⟩ => by
      cases e3; subst e1 e2
      refine ⟨L, F', e4, e5, e6, e7, (fok_at Y hZ hE.1 H hF).1.trans ?_, rfl, rfl, rfl⟩
      rw [← hp.2.1]; exact e8)
theorem payN (hw : E.w = false) (hM : Met E y bytes maxL ret rm as' h F Q) (hZ : E.Z.Warmed39 vm) (hO : Old E.Z E.n h) (H : CHv E.Z E.K vm h) (hF : FOk E vm h F) (hE : GOk E)
    (wc : (Cond.code y bytes maxL ret).before E.a E.Z = true) (wz : (Cond.initialized y.cls).before E.a E.Z = true) (hf : rm.frames + 1 ≤ R.frames) (hl : W + (maxL + 11) + rm.locals ≤ R.locals) :
    Back E.l R p e below (s.setVm vm) args y len W (PreC R rm as' h) (PostC E vm h rm Q) :=
  Back.of_free (bytes := bytes) (maxL := maxL) (ret := ret)
    (E := fun _ first o t L k n => k = rm.cells ∧ n = rm.slots ∧ ∃ (v : Option Value) (F' : List Addr), o = .returned v ∧ Q v t.heap F' ∧ Fr E.n L ∧ Old E.Z E.n t.heap ∧ FOk E t.vm t.heap F' ∧ CHr E.Z E.K first.vm first.heap t.vm t.heap) hM hf hl
    (fun m meth c A a Y hp => have hU : E.Z.Warmed39 A.U.vm := wtrans (s := s.setVm vm) hZ Y.warmed
      ⟨by show (Cond.and _ .tt).before a A.U = true; rw [Cond.before_and, mv hU wc]; rfl, mv hU wc, mv hU wz, hp.2.2.1, hp.2.2.2⟩)
    (fun m meth c A a g mk Y hp => ⟨hp.1, wtrans (s := s.setVm vm) hZ Y.warmed, hp.2.1, hO, (fok_at Y hZ hE.1 H hF).1.1, (fok_at Y hZ hE.1 H hF).2, hE⟩) (fun _ _ _ _ _ _ _ _ _ => trivial)
    (fun _ _ _ _ ⟨v, L, F', h1, h2, h3, h4, h5, h6, h7⟩ => ⟨L, _, _, by have h7 : EndF E.w _ _ _ _ _ _ := h7; rw [hw] at h7; exact h7, rfl, rfl, v, F', h1, h2, h3, h4, h5, h6⟩)
    (fun m meth c A a g mk v t L k n Y hp _ _ ⟨e1, e2, v', F', e3, e4, e5, e6, e7, e8⟩ => by
      cases e3; subst e1 e2
      refine ⟨L, F', e4, e5, e6, e7, (fok_at Y hZ hE.1 H hF).1.trans ?_, rfl, rfl, rfl⟩
      rw [← hp.2.1]; exact e8)
end Pay
section Calls
variable {E : Gl} {x : Cx} {T : State} {h : Heap} {F : List Addr} {cs ss : Nat} {own : String} {b : ByteArray} {ml : Nat} {R : Room} {ret : Option FieldType} {nm : String} {pc nx : Nat} {Ls : Array Slot} {st stk : List Value}
/-- behind a call: the walk stands again -/
theorem back_wk {vm : Vm} {L : List Loc} (W : Wk E x T h F cs ss) {rm : Room} {Q : Option Value → Heap → List Addr → Prop} {vm' : Vm} {BU : State} {BL : List Loc} {Bc Bs k' : Nat} {A : Pt} {a : Array Value} {v : Option Value} (hA : A.locs = L ∧ A.cells = cs ∧ A.slots = ss)
    (h6 : Fr E.n L) (h8 : CHr E.Z E.K x.s.vm x.s.heap vm h) (h10 : GOk E) (X' : Stand x.p E.l x.e x.R (x.s.setVm vm') x.m x.args x.below x.meth x.c BU BL Bc Bs) (S' : x.s.Since vm' k') (hk' : k' ≤ BU.heap.size) (hw : E.w = false → vm' = x.s.vm) (hZ' : E.Z.Warmed39 vm')
    (P : PostC E vm h rm Q A a v (BU, BL, Bc, Bs)) (hv : BU.vm = vm' ∨ (E.K = [] ∧ vm' = vm)) : ∃ F', Wk E x BU BU.heap F' (cs + rm.cells) (ss + rm.slots) ∧ Q v BU.heap F' := by
  obtain ⟨L', F', p1, p2, p3, p4, p5, p6, p7, p8⟩ := P
  dsimp only [Pt.U, Pt.locs, Pt.cells, Pt.slots] at p1 p2 p3 p4 p5 p6 p7 p8
  obtain ⟨q1, q2, q3⟩ := hA
  dsimp only [Pt.U, Pt.locs, Pt.cells, Pt.slots] at q1 q2 q3
  refine ⟨F', ⟨vm', k', BL, ?_, rfl, S', hk', hw, hZ', ?_, p3, ?_, ?_, h10⟩, p1⟩
  · rw [p7, p8, q2, q3] at X'; exact X'
  · rw [p6, q1]; exact Fr.app h6 p2
  · rcases hv with rfl | ⟨hK, rfl⟩
    · exact h8.trans p5
    · rw [hK] at h8 ⊢; exact chr_nil _ (Nat.le_trans h8.2.1 p5.2.1)
  · rcases hv with rfl | ⟨hK, rfl⟩
    · exact p4
    · exact fun z hz => ⟨(p4 z hz).1, (p4 z hz).2.1, by rw [hK]; exact safe_nil _ _ _ _⟩
theorem w_static (W : Wk E x T h F cs ss) (B : Is x own b ml R ret nm) {index : Nat} {y : MethodName} {bytes : ByteArray} {maxL : Nat} {rt : Option FieldType} {rm : Room} {Q : Option Value → Heap → List Addr → Prop} {ps : List FieldType} {r : Option FieldType} {argsL : List Value} {Wt : Nat} (d : D b pc (.invokestatic index) 3 nx)
    (w1 : (Cond.methodLink own index y).before E.a E.Z = true) (w2 : (Cond.static y).before E.a E.Z = true) (w3 : (Cond.initialized y.cls).before E.a E.Z = true) (w4 : (Cond.code y bytes maxL rt).before E.a E.Z = true) (hy : y.cls ≠ "java/lang/invoke/MethodHandle" ∧ y.cls ≠ "java/lang/invoke/VarHandle")
    (pd : parseMethodDescriptor y.desc = some ⟨ps, r⟩) (hl : argsL.length = ps.length) (hsz : Ls.size = ml) (hst : stk = argsL.reverse ++ st) (hW : (st.map fun v => v.category).sum ≤ Wt) (hM : Met E y bytes maxL rt rm argsL.toArray h F Q)
    (hf : rm.frames + 1 ≤ R.frames) (hlo : Wt + (maxL + 11) + rm.locals ≤ R.locals) (hc : cs + rm.cells ≤ R.cells) (hs : ss + rm.slots ≤ R.slots)
    (hr : ∀ (T' : State) (h' : Heap) (F' : List Addr) (v : Option Value), Wk E x T' h' F' (cs + rm.cells) (ss + rm.slots) → Q v h' F' → G E x T' (fr x nx Ls (v.toList ++ st))) : G E x T (fr x pc Ls stk) := by
  obtain ⟨d1, rfl⟩ := d
  subst hst
  have W0 := W
  obtain ⟨vm, k, L, X, h1, h2, h3, h4, h5, h6, h7, h8, h9, h10⟩ := W
  have hown : vm.findClass own = some x.m.cls := by rw [h2.1.alike.findClass]; exact B.2.2.2.2.2.2.2
  rw [← B.2.2.1] at hf hlo hc hs
  cases hw : E.w with
  | true =>
    obtain ⟨v, vm₁, ⟨BU, BL, Bc, Bs⟩, -, X', S', gr, P, stp⟩ := callSS X B.2.2.2.2.2.2.1 hown (mvT (s := x.s.setVm vm) h5 w1) (mvT (s := x.s.setVm vm) h5 w2) (mvT (s := x.s.setVm vm) h5 w3) (mvT (s := x.s.setVm vm) h5 w4) hy (payS (len := 3) (W := Wt) hw hM h5 h7 h8.1 h9 h10 w4 w3 hf hlo) (g := fr x pc Ls (argsL.reverse ++ st)) rfl (hsz.trans B.2.1.symm) (lenOf pd hl) rfl (by show 2 * 0 + _ ≤ _; omega) (by rw [B.1]; exact d1) (fun vm₁ _ => ⟨rfl, h1, hc, hs⟩)
    obtain ⟨F', W', q⟩ := back_wk (vm := vm) W0 ⟨rfl, rfl, rfl⟩ h6 h8 h10 X' (foldS h2 (by rw [h1]; exact h3) S' gr) (Nat.le_refl _) (fun q => Bool.noConfusion (hw.symm.trans q)) (State.Warmed39.trans (t := x.s.setVm vm) h5 S'.1) P (Or.inl rfl)
    exact G.ofS stp (hr BU BU.heap F' v W' q)
  | false =>
    have e := h4 hw
    obtain ⟨v, vm₁, ⟨BU, BL, Bc, Bs⟩, -, X', P, stp⟩ := Jvm.LawKit.callS X B.2.2.2.2.2.2.1 hown (mvT (s := x.s.setVm vm) h5 w1) (mvT (s := x.s.setVm vm) h5 w2) (mvT (s := x.s.setVm vm) h5 w3) (mvT (s := x.s.setVm vm) h5 w4) hy (payN (len := 3) (W := Wt) hw hM h5 h7 h8.1 h9 h10 w4 w3 hf hlo) (g := fr x pc Ls (argsL.reverse ++ st)) rfl (hsz.trans B.2.1.symm) (lenOf pd hl) rfl (by show 2 * 0 + _ ≤ _; omega) (by rw [B.1]; exact d1) (fun vm₁ _ => ⟨rfl, h1, hc, hs⟩)
    have gr : h.size ≤ BU.heap.size := by obtain ⟨_, _, _, _, _, _, c5, _⟩ := P; exact c5.2.1
    obtain ⟨F', W', q⟩ := back_wk (vm := vm) W0 ⟨rfl, rfl, rfl⟩ h6 h8 h10 X' h2 (Nat.le_trans h3 gr) h4 h5 P (Or.inr ⟨h10.2 hw, rfl⟩)
    exact G.of stp (hr BU BU.heap F' v W' q)
theorem w_special (W : Wk E x T h F cs ss) (B : Is x own b ml R ret nm) {index : Nat} {y : MethodName} {bytes : ByteArray} {maxL : Nat} {rm : Room} {Q : Option Value → Heap → List Addr → Prop} {ps : List FieldType} {r : Option FieldType} {a : Addr} {argsL : List Value} {Wt : Nat} (d : D b pc (.invokespecial index) 3 nx) (hy1 : y.name = "<init>")
    (w1 : (Cond.methodLink own index y).before E.a E.Z = true) (w2 : (Cond.instanceMethod y).before E.a E.Z = true) (w3 : (Cond.initialized y.cls).before E.a E.Z = true) (w4 : (Cond.code y bytes maxL none).before E.a E.Z = true) (hy : y.cls ≠ "java/lang/invoke/MethodHandle" ∧ y.cls ≠ "java/lang/invoke/VarHandle")
    (pd : parseMethodDescriptor y.desc = some ⟨ps, r⟩) (hl : argsL.length = ps.length) (hsz : Ls.size = ml) (hst : stk = argsL.reverse ++ .ref a :: st) (hW : (st.map fun v => v.category).sum ≤ Wt) (hM : Met E y bytes maxL none rm (.ref a :: argsL).toArray h F Q)
    (hf : rm.frames + 1 ≤ R.frames) (hlo : Wt + (maxL + 11) + rm.locals ≤ R.locals) (hc : cs + rm.cells ≤ R.cells) (hs : ss + rm.slots ≤ R.slots)
    (hr : ∀ (T' : State) (h' : Heap) (F' : List Addr) (v : Option Value), Wk E x T' h' F' (cs + rm.cells) (ss + rm.slots) → Q v h' F' → G E x T' (fr x nx Ls (v.toList ++ st))) : G E x T (fr x pc Ls stk) := by
  obtain ⟨d1, rfl⟩ := d
  subst hst
  have W0 := W
  obtain ⟨vm, k, L, X, h1, h2, h3, h4, h5, h6, h7, h8, h9, h10⟩ := W
  have hown : vm.findClass own = some x.m.cls := by rw [h2.1.alike.findClass]; exact B.2.2.2.2.2.2.2
  rw [← B.2.2.1] at hf hlo hc hs
  cases hw : E.w with
  | true =>
    obtain ⟨v, vm₁, ⟨BU, BL, Bc, Bs⟩, -, X', S', gr, P, stp⟩ := X.specialBackS B.2.2.2.2.2.2.1 hy1 hown (mvT (s := x.s.setVm vm) h5 w1) (mvT (s := x.s.setVm vm) h5 w2) (mvT (s := x.s.setVm vm) h5 w4) hy (payS (len := 3) (W := Wt) hw hM h5 h7 h8.1 h9 h10 w4 w3 hf hlo) (g := fr x pc Ls (argsL.reverse ++ .ref a :: st)) rfl (hsz.trans B.2.1.symm) (Steps.refl _) (lenOf pd hl) rfl (by show 2 * 0 + _ ≤ _; omega) (by rw [B.1]; exact d1) (fun vm₁ _ => ⟨rfl, h1, hc, hs⟩)
    obtain ⟨F', W', q⟩ := back_wk (vm := vm) W0 ⟨rfl, rfl, rfl⟩ h6 h8 h10 X' (foldS h2 (by rw [h1]; exact h3) S' gr) (Nat.le_refl _) (fun q => Bool.noConfusion (hw.symm.trans q)) (State.Warmed39.trans (t := x.s.setVm vm) h5 S'.1) P (Or.inl rfl)
    exact G.ofS stp (hr BU BU.heap F' v W' q)
  | false =>
    have e := h4 hw
    obtain ⟨v, vm₁, ⟨BU, BL, Bc, Bs⟩, -, X', P, stp⟩ := X.specialBack B.2.2.2.2.2.2.1 hy1 hown (mvT (s := x.s.setVm vm) h5 w1) (mvT (s := x.s.setVm vm) h5 w2) (mvT (s := x.s.setVm vm) h5 w4) hy (payN (len := 3) (W := Wt) hw hM h5 h7 h8.1 h9 h10 w4 w3 hf hlo) (g := fr x pc Ls (argsL.reverse ++ .ref a :: st)) rfl (hsz.trans B.2.1.symm) (Steps.refl _) (lenOf pd hl) rfl (by show 2 * 0 + _ ≤ _; omega) (by rw [B.1]; exact d1) (fun vm₁ _ => ⟨rfl, h1, hc, hs⟩)
    have gr : h.size ≤ BU.heap.size := by obtain ⟨_, _, _, _, _, _, c5, _⟩ := P; exact c5.2.1
    obtain ⟨F', W', q⟩ := back_wk (vm := vm) W0 ⟨rfl, rfl, rfl⟩ h6 h8 h10 X' h2 (Nat.le_trans h3 gr) h4 h5 P (Or.inr ⟨h10.2 hw, rfl⟩)
    exact G.ofS stp (hr BU BU.heap F' v W' q)
theorem w_virtual (W : Wk E x T h F cs ss) (B : Is x own b ml R ret nm) {index : Nat} {C : String} {y z : MethodName} {bytes : ByteArray} {maxL : Nat} {rt : Option FieldType} {rm : Room} {Q : Option Value → Heap → List Addr → Prop} {ps : List FieldType} {r : Option FieldType} {a : Addr} {argsL : List Value} {Wt : Nat} (d : D b pc (.invokevirtual index) 3 nx)
    (w1 : (Cond.methodLink own index y).before E.a E.Z = true) (wd : (Cond.declares y).before E.a E.Z = true) (nf : ∀ s' : State, E.Z.Warmed39 s'.vm → NotFace s' y) (wsel : (Cond.selects C y z).before E.a E.Z = true) (w2 : (Cond.instanceMethod z).before E.a E.Z = true) (w3 : (Cond.initialized z.cls).before E.a E.Z = true) (w4 : (Cond.code z bytes maxL rt).before E.a E.Z = true)
    (hy : y.cls ≠ "java/lang/invoke/MethodHandle" ∧ y.cls ≠ "java/lang/invoke/VarHandle") (Ex : Exa E.Z h a C)
    (pd : parseMethodDescriptor y.desc = some ⟨ps, r⟩) (hl : argsL.length = ps.length) (hsz : Ls.size = ml) (hst : stk = argsL.reverse ++ .ref a :: st) (hW : (st.map fun v => v.category).sum ≤ Wt) (hM : Met E z bytes maxL rt rm (.ref a :: argsL).toArray h F Q)
    (hf : rm.frames + 1 ≤ R.frames) (hlo : Wt + (maxL + 11) + rm.locals ≤ R.locals) (hc : cs + rm.cells ≤ R.cells) (hs : ss + rm.slots ≤ R.slots)
    (hr : ∀ (T' : State) (h' : Heap) (F' : List Addr) (v : Option Value), Wk E x T' h' F' (cs + rm.cells) (ss + rm.slots) → Q v h' F' → G E x T' (fr x nx Ls (v.toList ++ st))) : G E x T (fr x pc Ls stk) := by
  obtain ⟨d1, rfl⟩ := d
  subst hst
  have W0 := W
  obtain ⟨vm, k, L, X, h1, h2, h3, h4, h5, h6, h7, h8, h9, h10⟩ := W
  have hown : vm.findClass own = some x.m.cls := by rw [h2.1.alike.findClass]; exact B.2.2.2.2.2.2.2
  obtain ⟨cB, kB, i1, i2, i3⟩ := isOf (s := x.s.setVm vm) h5 h1 Ex
  rw [← B.2.2.1] at hf hlo hc hs
  cases hw : E.w with
  | true =>
    obtain ⟨v, vm₁, ⟨BU, BL, Bc, Bs⟩, -, X', S', gr, P, stp⟩ := X.virtualBackS B.2.2.2.2.2.2.1 hown (mvT (s := x.s.setVm vm) h5 w1) (mvT (s := x.s.setVm vm) h5 wd) (nf (x.s.setVm vm) h5) (mvT (s := x.s.setVm vm) h5 wsel) (mvT (s := x.s.setVm vm) h5 w2) hy (payS (len := 3) (W := Wt) hw hM h5 h7 h8.1 h9 h10 w4 w3 hf hlo) i1 i3 (g := fr x pc Ls (argsL.reverse ++ .ref a :: st)) rfl (hsz.trans B.2.1.symm) (Steps.refl _) (lenOf pd hl) rfl (by show 2 * 0 + _ ≤ _; omega) (by rw [B.1]; exact d1) (fun vm₁ _ => ⟨rfl, h1, hc, hs⟩)
    obtain ⟨F', W', q⟩ := back_wk (vm := vm) W0 ⟨rfl, rfl, rfl⟩ h6 h8 h10 X' (foldS h2 (by rw [h1]; exact h3) S' gr) (Nat.le_refl _) (fun q => Bool.noConfusion (hw.symm.trans q)) (State.Warmed39.trans (t := x.s.setVm vm) h5 S'.1) P (Or.inl rfl)
    exact G.ofS stp (hr BU BU.heap F' v W' q)
  | false =>
    have e := h4 hw
    obtain ⟨v, vm₁, ⟨BU, BL, Bc, Bs⟩, -, X', P, stp⟩ := X.virtualBack B.2.2.2.2.2.2.1 hown (mvT (s := x.s.setVm vm) h5 w1) (mvT (s := x.s.setVm vm) h5 wd) (nf (x.s.setVm vm) h5) (mvT (s := x.s.setVm vm) h5 wsel) (mvT (s := x.s.setVm vm) h5 w2) hy (payN (len := 3) (W := Wt) hw hM h5 h7 h8.1 h9 h10 w4 w3 hf hlo) i1 i3 (g := fr x pc Ls (argsL.reverse ++ .ref a :: st)) rfl (hsz.trans B.2.1.symm) (Steps.refl _) (lenOf pd hl) rfl (by show 2 * 0 + _ ≤ _; omega) (by rw [B.1]; exact d1) (fun vm₁ _ => ⟨rfl, h1, hc, hs⟩)
    have gr : h.size ≤ BU.heap.size := by obtain ⟨_, _, _, _, _, _, c5, _⟩ := P; exact c5.2.1
    obtain ⟨F', W', q⟩ := back_wk (vm := vm) W0 ⟨rfl, rfl, rfl⟩ h6 h8 h10 X' h2 (Nat.le_trans h3 gr) h4 h5 P (Or.inr ⟨h10.2 hw, rfl⟩)
    exact G.ofS stp (hr BU BU.heap F' v W' q)
theorem nf_sel {Z : State} {a0 : Array Value} {C : String} {y : MethodName} (w : (Cond.selects C y y).before a0 Z = true) : ∀ s' : State, Z.Warmed39 s'.vm → NotFace s' y := fun s' hZ => notFace_of_selects (args := a0) (mvT hZ w)
end Calls
end Jvm.Own
namespace Jvm.Own
open Sem ClassFile Op Lib Bundle Jvm.Stand Jvm.Free Jvm.LawKit Jvm.RoadKit
theorem ne_new {h : Heap} {a b : Addr} (l : a < h.size) (g : b = h.size) : a ≠ b := by subst g; exact Nat.ne_of_lt l
theorem cat_ref {v : Value} (hv : v.isRef = true) : v.category = 1 := by rcases ref_cases hv with rfl | ⟨a, rfl⟩ <;> rfl
theorem cat_r (a : Addr) : (Value.ref a).category = 1 := rfl
theorem cat_i (a : Int32) : (Value.int a).category = 1 := rfl
theorem cat_j (a : Int64) : (Value.long a).category = 2 := rfl
theorem cat_n : Value.null.category = 1 := rfl
theorem nar_ref {C : String} {v : Value} (hv : v.isRef = true) : narrow (.object C) v = v := by rcases ref_cases hv with rfl | ⟨a, rfl⟩ <;> rfl
theorem fits_obj {C : String} {v : Value} (hv : v.isRef = true) : fits (.object C) v = true := by rcases ref_cases hv with rfl | ⟨a, rfl⟩ <;> rfl
/-! ints of small naturals -/
theorem n_int {i : Nat} (h : i < 2 ^ 31) : i.toInt32.toInt = i := len_toInt h
theorem n_clamp {i : Nat} (h : i < 2 ^ 31) : i.toInt32.toNatClampNeg = i := by simp only [Int32.toNatClampNeg, n_int h]; omega
theorem n_nn {i : Nat} (h : i < 2 ^ 31) : ¬ i.toInt32 < 0 := by simp only [Int32.lt_iff_toInt_lt, n_int h, Int32.reduceToInt]; omega
theorem n_lt {i n : Nat} (hi : i < 2 ^ 31) (hn : n < 2 ^ 31) : i.toInt32 < n.toInt32 ↔ i < n := by simp only [Int32.lt_iff_toInt_lt, n_int hi, n_int hn]; omega
theorem n_add (i j : Nat) : i.toInt32 + j.toInt32 = (i + j).toInt32 := (Int32.ofNat_add i j).symm
theorem n_succ (i : Nat) : i.toInt32 + (1 : Int32) = (i + 1).toInt32 := n_add i 1
theorem n_eq {i n : Nat} (hi : i < 2 ^ 31) (hn : n < 2 ^ 31) : i.toInt32 = n.toInt32 ↔ i = n := by rw [← Int32.toInt_inj, n_int hi, n_int hn]; omega
theorem z_nat {z : Int32} (h : ¬ z < 0) : z = z.toNatClampNeg.toInt32 := (back32 h).1.symm
/-! chars -/
def lo8 (c : Int32) : Int32 := c.toInt8.toInt32
def Ch (cs : List Int32) : Prop := ∀ c ∈ cs, 0 ≤ c.toInt ∧ c.toInt ≤ 65535
def Lat (cs : List Int32) : Prop := ∀ c ∈ cs, c.toInt ≤ 255
def b8 (cs : List Int32) : List Value := cs.map fun c => .int (lo8 c)
def b16 (cs : List Int32) : List Value := cs.flatMap fun c => [.int (lo8 c), .int (lo8 (c >>> 8))]
def ints (cs : List Int32) : List Value := cs.map Value.int
theorem i2c_toInt (x : Int32) : x.toUInt32.toUInt16.toUInt32.toInt32.toInt = x.toInt % 65536 := by have := c_i2c x; omega
theorem i2c_id {x : Int32} (h0 : 0 ≤ x.toInt) (h1 : x.toInt ≤ 65535) : x.toUInt32.toUInt16.toUInt32.toInt32 = x := Int32.toInt_inj.mp (by rw [i2c_toInt]; omega)
theorem nar_i2c (x : Int32) : nar .char x.toUInt32.toUInt16.toUInt32.toInt32 = x.toUInt32.toUInt16.toUInt32.toInt32 := i2c_id (by rw [i2c_toInt]; omega) (by rw [i2c_toInt]; omega)
theorem nar_char {x : Int32} (h0 : 0 ≤ x.toInt) (h1 : x.toInt ≤ 65535) : nar .char x = x := i2c_id h0 h1
theorem b8_len (cs : List Int32) : (b8 cs).length = cs.length := by simp [b8]
theorem ints_len (cs : List Int32) : (ints cs).length = cs.length := by simp [ints]
theorem b16_len (cs : List Int32) : (b16 cs).length = 2 * cs.length := by
  induction cs with
  | nil => rfl
  | cons c r ih => simp only [b16, List.flatMap_cons, List.length_append, List.length_cons, List.length_nil] at ih ⊢; omega
theorem b16_at (cs : List Int32) : ∀ i, i < cs.length → (b16 cs).getD (2 * i) (.int 0) = .int (lo8 (cs.getD i 0)) ∧ (b16 cs).getD (2 * i + 1) (.int 0) = .int (lo8 (cs.getD i 0 >>> 8)) := by
  induction cs with
  | nil => intro i hi; exact absurd hi (Nat.not_lt_zero _)
  | cons c r ih =>
    intro i hi
    cases i with
    | zero => exact ⟨rfl, rfl⟩
    | succ j =>
      have q := ih j (by simpa using hi)
      exact q
theorem ints_at {cs : List Int32} {i : Nat} (h : i < cs.length) (d : Value) : (ints cs).getD i d = .int (cs.getD i 0) := by
  simp [ints, List.getD_eq_getElem?_getD, List.getElem?_map, List.getElem?_eq_getElem h]
theorem b8_at {cs : List Int32} {i : Nat} (h : i < cs.length) (d : Value) : (b8 cs).getD i d = .int (lo8 (cs.getD i 0)) := by
  simp [b8, List.getD_eq_getElem?_getD, List.getElem?_map, List.getElem?_eq_getElem h]
theorem ch_at {cs : List Int32} (H : Ch cs) {i : Nat} (h : i < cs.length) : 0 ≤ (cs.getD i 0).toInt ∧ (cs.getD i 0).toInt ≤ 65535 := by
  have : cs.getD i 0 = cs[i] := by simp [List.getD_eq_getElem?_getD, List.getElem?_eq_getElem h]
  rw [this]; exact H _ (List.getElem_mem h)
theorem lo8_toInt (c : Int32) : (lo8 c).toInt = c.toInt.bmod 256 := by
  show (c.toInt8.toInt32).toInt = _
  rw [Int8.toInt_toInt32, Int32.toInt_toInt8]
theorem and255 (x : Int32) : (x &&& 255).toInt = x.toInt % 256 := by
  have h : (x &&& 255).toBitVec.toNat = x.toBitVec.toNat % 256 := by
    show (x.toBitVec &&& (255 : Int32).toBitVec).toNat = _
    rw [BitVec.toNat_and, show (255 : Int32).toBitVec.toNat = 2 ^ 8 - 1 from by decide, Nat.and_two_pow_sub_one_eq_mod]
  have h2 : (x &&& 255).toInt = ((x &&& 255).toBitVec.toNat : Int) := by
    show (x &&& 255).toBitVec.toInt = _
    rw [BitVec.toInt_eq_toNat_cond, if_pos (by rw [h]; omega)]
  rw [h2, h]
  show ((x.toBitVec.toNat % 256 : Nat) : Int) = x.toBitVec.toInt % 256
  rw [BitVec.toInt_eq_toNat_cond]
  split <;> omega
theorem lo8_and (c : Int32) : (lo8 c &&& 255).toInt = c.toInt % 256 := by
  rw [and255, lo8_toInt]
  exact Int.bmod_emod
theorem lo8_mask {c : Int32} (h0 : 0 ≤ c.toInt) (h1 : c.toInt ≤ 255) : lo8 c &&& 255 = c := Int32.toInt_inj.mp (by rw [lo8_and]; omega)
end Jvm.Own
namespace Jvm.Pilot.@@N@@
open Jvm Jvm.ClassFile Sem Op Lib Jvm.Free Jvm.Stand Jvm.LawKit Jvm.RoadKit Bundle Jvm.Pilot.@@N@@.Jvm.D Jvm.Own
def Tb (E : Gl) : Prop := (∀ c ∈ tables_1, c.before E.a E.Z = true) ∧ (∀ c ∈ jdkStatics_1, c.before E.a E.Z = true) ∧ E.w = true ∧ E.K = consts_1
theorem wd {E : Gl} (hw : Tb E) (k : Nat) {c : Jvm.Cond} (q : tables_1[k]? = some c) : c.before E.a E.Z = true := hw.1 c (List.mem_of_getElem? q)
theorem sd {E : Gl} (hw : Tb E) (k : Nat) {c : Jvm.Cond} (q : jdkStatics_1[k]? = some c) : c.before E.a E.Z = true := hw.2.1 c (List.mem_of_getElem? q)

theorem strAtoms {E : Gl} (hw : Tb E) : ∀ c ∈ Bundle.stringAtoms, c.before E.a E.Z = true := by
  intro c hc
  simp only [Bundle.stringAtoms, List.mem_cons, List.not_mem_nil, or_false] at hc
  rcases hc with rfl | rfl | rfl | rfl | rfl | rfl | rfl
  · exact (wd hw 41 rfl)
  · exact (wd hw 40 rfl)
  · exact (wd hw 55 rfl)
  · exact (wd hw 65 rfl)
  · exact (wd hw 63 rfl)
  · exact (wd hw 80 rfl)
  · exact (wd hw 81 rfl)
theorem d_cmp5_0 : Own.D jdk_52_method_21_code 0 (.iconst 0) 1 1 := ⟨by decide +kernel, rfl⟩
theorem d_cmp5_1 : Own.D jdk_52_method_21_code 1 (.istore 5) 2 3 := ⟨by decide +kernel, rfl⟩
theorem d_cmp5_3 : Own.D jdk_52_method_21_code 3 (.iload 5) 2 5 := ⟨by decide +kernel, rfl⟩
theorem d_cmp5_5 : Own.D jdk_52_method_21_code 5 (.iload 4) 2 7 := ⟨by decide +kernel, rfl⟩
theorem d_cmp5_7 : Own.J jdk_52_method_21_code 7 (.if_icmp .ge 37) 3 10 37 44 := ⟨by decide +kernel, rfl, by decide, by decide⟩
theorem d_cmp5_10 : Own.D jdk_52_method_21_code 10 (.aload_n 0) 1 11 := ⟨by decide +kernel, rfl⟩
theorem d_cmp5_11 : Own.D jdk_52_method_21_code 11 (.iload_n 1) 1 12 := ⟨by decide +kernel, rfl⟩
theorem d_cmp5_12 : Own.D jdk_52_method_21_code 12 .caload 1 13 := ⟨by decide +kernel, rfl⟩
theorem d_cmp5_13 : Own.D jdk_52_method_21_code 13 (.istore 6) 2 15 := ⟨by decide +kernel, rfl⟩
theorem d_cmp5_15 : Own.D jdk_52_method_21_code 15 (.iload 6) 2 17 := ⟨by decide +kernel, rfl⟩
theorem d_cmp5_17 : Own.D jdk_52_method_21_code 17 (.sipush 255) 3 20 := ⟨by decide +kernel, rfl⟩
theorem d_cmp5_20 : Own.J jdk_52_method_21_code 20 (.if_icmp .le 6) 3 23 6 26 := ⟨by decide +kernel, rfl, by decide, by decide⟩
theorem d_cmp5_23 : Own.D jdk_52_method_21_code 23 (.iload 5) 2 25 := ⟨by decide +kernel, rfl⟩
theorem d_cmp5_25 : Own.D jdk_52_method_21_code 25 .ireturn 1 26 := ⟨by decide +kernel, rfl⟩
theorem d_cmp5_26 : Own.D jdk_52_method_21_code 26 (.aload_n 2) 1 27 := ⟨by decide +kernel, rfl⟩
theorem d_cmp5_27 : Own.D jdk_52_method_21_code 27 (.iload_n 3) 1 28 := ⟨by decide +kernel, rfl⟩
theorem d_cmp5_28 : Own.D jdk_52_method_21_code 28 (.iload 6) 2 30 := ⟨by decide +kernel, rfl⟩
theorem d_cmp5_30 : Own.D jdk_52_method_21_code 30 .i2b 1 31 := ⟨by decide +kernel, rfl⟩
theorem d_cmp5_31 : Own.D jdk_52_method_21_code 31 .bastore 1 32 := ⟨by decide +kernel, rfl⟩
theorem d_cmp5_32 : Own.D jdk_52_method_21_code 32 (.iinc 1 1) 3 35 := ⟨by decide +kernel, rfl⟩
theorem d_cmp5_35 : Own.D jdk_52_method_21_code 35 (.iinc 3 1) 3 38 := ⟨by decide +kernel, rfl⟩
theorem d_cmp5_38 : Own.D jdk_52_method_21_code 38 (.iinc 5 1) 3 41 := ⟨by decide +kernel, rfl⟩
theorem d_cmp5_41 : Own.J jdk_52_method_21_code 41 (.goto (-38)) 3 44 (-38) 3 := ⟨by decide +kernel, rfl, by decide, by decide⟩
theorem d_cmp5_44 : Own.D jdk_52_method_21_code 44 (.iload 4) 2 46 := ⟨by decide +kernel, rfl⟩
theorem d_cmp5_46 : Own.D jdk_52_method_21_code 46 .ireturn 1 47 := ⟨by decide +kernel, rfl⟩
/-- what compress leaves: it stopped at i; the places before i hold the low bytes -/
def QC5 (E : Gl) (cs : List Int32) (n : Nat) (a d : Addr) (kd : ClassId) (h0 : Heap) (F : List Addr) (v : Option Value) (h : Heap) (F' : List Addr) : Prop :=
  ∃ (i : Nat) (vs : List Value), v = some (.int i.toInt32) ∧ F = F' ∧ i ≤ n ∧ (i < n → 255 < (cs.getD i 0).toInt) ∧ (∀ j, j < i → (cs.getD j 0).toInt ≤ 255) ∧ Keep h0 h [d] ∧ Arv E.Z h d kd .byte n.toInt32 vs (.int 0) ∧ vs.length = n ∧ ∀ j, j < i → vs.getD j (.int 0) = .int (lo8 (cs.getD j 0))
theorem nar_lo8 (c : Int32) : nar .byte (lo8 c) = lo8 c := Int32.toInt_inj.mp (by show (lo8 (lo8 c)).toInt = _; rw [lo8_toInt, lo8_toInt, Int.bmod_bmod])
theorem set_pre {vs : List Value} {n i : Nat} {f : Nat → Value} {u : Value} (hvl : vs.length = n) (hin : i < n) (hvs : ∀ j, j < i → vs.getD j (.int 0) = f j) (hu : u = f i := by rfl) : ∀ j, j < i + 1 → (vs.set i u).getD j (.int 0) = f j := by
  intro j hj
  rcases Nat.lt_succ_iff_lt_or_eq.mp hj with q | rfl
  · rw [List.getD_eq_getElem?_getD, List.getElem?_set_ne (by omega), ← List.getD_eq_getElem?_getD]; exact hvs j q
  · rw [List.getD_eq_getElem?_getD, List.getElem?_set_self (by omega)]; exact hu
set_option maxRecDepth 65536 in
set_option maxHeartbeats 4000000 in
theorem cmp5_turns {E : Gl} (hw : Tb E) {x : Cx} {a d : Addr} {ka kd : ClassId} {n : Nat} {cs : List Int32} {h0 : Heap} {F : List Addr} (hQ : x.Q = QC5 E cs n a d kd h0 F) (B : Is x "java/lang/StringUTF16" jdk_52_method_21_code 7 ({ frames := 0, cells := 0, slots := 0, locals := 0 } : Room) (some .int) "compress") (hcs : cs.length = n) (hn : n < 2 ^ 31) (had : a ≠ d) (hd : d ∈ F) :
    ∀ (r i : Nat) (T : State) (h : Heap) (s6 : Slot) (vs : List Value), i + r = n → LS s6 → Wk E x T h F 0 0 → Arv E.Z h a ka .char n.toInt32 (ints cs) (.int 0) → Arv E.Z h d kd .byte n.toInt32 vs (.int 0) → vs.length = n →
      (∀ j, j < i → vs.getD j (.int 0) = .int (lo8 (cs.getD j 0))) → (∀ j, j < i → (cs.getD j 0).toInt ≤ 255) → Keep h0 h [d] → G E x T (fr x 3 #[.val (.ref a), .val (.int i.toInt32), .val (.ref d), .val (.int i.toInt32), .val (.int n.toInt32), .val (.int i.toInt32), s6] []) := by
  intro r
  induction r with
  | zero =>
    intro i T h s6 vs hir hs6 W Aa Ad hvl hvs hlat hK
    have hie : i = n := by omega
    have hi31 : i < 2 ^ 31 := by omega
    refine w_iload W B d_cmp5_3 rfl ?_
    refine w_iload W B d_cmp5_5 rfl ?_
    refine w_icmp_ge W B d_cmp5_7 (fun _ => ?_) (fun q => absurd q (by rw [n_lt hi31 hn]; omega))
    show G E x T (fr x 44 #[.val (.ref a), .val (.int i.toInt32), .val (.ref d), .val (.int i.toInt32), .val (.int n.toInt32), .val (.int i.toInt32), s6] [])
    refine w_iload W B d_cmp5_44 rfl ?_
    exact w_ireturn W B d_cmp5_46 hQ (by decide) (by decide) (fun _ q => q) ⟨n, vs, rfl, rfl, Nat.le_refl _, fun q => absurd q (Nat.lt_irrefl _), fun j q => hlat j (by omega), hK, Ad, hvl, fun j q => hvs j (by omega)⟩
  | succ r ih =>
    intro i T h s6 vs hir hs6 W Aa Ad hvl hvs hlat hK
    have hin : i < n := by omega
    have hi31 : i < 2 ^ 31 := by omega
    refine w_iload W B d_cmp5_3 rfl ?_
    refine w_iload W B d_cmp5_5 rfl ?_
    refine w_icmp_ge W B d_cmp5_7 (fun q => q ((n_lt hi31 hn).mpr hin) |>.elim) (fun _ => ?_)
    show G E x T (fr x 10 #[.val (.ref a), .val (.int i.toInt32), .val (.ref d), .val (.int i.toInt32), .val (.int n.toInt32), .val (.int i.toInt32), s6] [])
    refine w_aloadN W B d_cmp5_10 rfl rfl ?_
    refine w_iloadN W B d_cmp5_11 rfl ?_
    refine w_caload W B d_cmp5_12 Aa ⟨n_nn hi31, (n_lt hi31 hn).mpr hin⟩ (v := .int (cs.getD i 0)) (by rw [n_clamp hi31]; exact ints_at (by rw [hcs]; exact hin) _) ?_
    refine w_istore W B d_cmp5_13 (Ls' := #[.val (.ref a), .val (.int i.toInt32), .val (.ref d), .val (.int i.toInt32), .val (.int n.toInt32), .val (.int i.toInt32), .val (.int (cs.getD i 0))]) (store_lit [.val (.ref a), .val (.int i.toInt32), .val (.ref d), .val (.int i.toInt32), .val (.int n.toInt32), .val (.int i.toInt32)] [] hs6 _) ?_
    refine w_iload W B d_cmp5_15 rfl ?_
    refine w_sipush W B d_cmp5_17 (v := (255 : Int32)) rfl ?_
    refine w_icmp_le W B d_cmp5_20 ?_ ?_
    · intro hc20
      show G E x T (fr x 26 #[.val (.ref a), .val (.int i.toInt32), .val (.ref d), .val (.int i.toInt32), .val (.int n.toInt32), .val (.int i.toInt32), .val (.int (cs.getD i 0))] [])
      refine w_aloadN W B d_cmp5_26 rfl rfl ?_
      refine w_iloadN W B d_cmp5_27 rfl ?_
      refine w_iload W B d_cmp5_28 rfl ?_
      refine w_i2b W B d_cmp5_30 ?_
      refine w_bastore W B d_cmp5_31 hd Ad ⟨n_nn hi31, (n_lt hi31 hn).mpr hin⟩ (i := i) (n_clamp hi31) (by rw [hvl]; exact hin) (u := lo8 (cs.getD i 0)) (nar_lo8 _) ?_
      intro T2 h2 W2 K2 A2
      show G E x T2 (fr x 32 #[.val (.ref a), .val (.int i.toInt32), .val (.ref d), .val (.int i.toInt32), .val (.int n.toInt32), .val (.int i.toInt32), .val (.int (cs.getD i 0))] [])
      refine w_iinc W2 B d_cmp5_32 rfl (w := (i + 1).toInt32) (n_succ i) (Ls' := #[.val (.ref a), .val (.int (i + 1).toInt32), .val (.ref d), .val (.int i.toInt32), .val (.int n.toInt32), .val (.int i.toInt32), .val (.int (cs.getD i 0))]) rfl ?_
      refine w_iinc W2 B d_cmp5_35 rfl (w := (i + 1).toInt32) (n_succ i) (Ls' := #[.val (.ref a), .val (.int (i + 1).toInt32), .val (.ref d), .val (.int (i + 1).toInt32), .val (.int n.toInt32), .val (.int i.toInt32), .val (.int (cs.getD i 0))]) rfl ?_
      refine w_iinc W2 B d_cmp5_38 rfl (w := (i + 1).toInt32) (n_succ i) (Ls' := #[.val (.ref a), .val (.int (i + 1).toInt32), .val (.ref d), .val (.int (i + 1).toInt32), .val (.int n.toInt32), .val (.int (i + 1).toInt32), .val (.int (cs.getD i 0))]) rfl ?_
      refine w_goto W2 B d_cmp5_41 ?_
      exact ih (i + 1) T2 h2 _ (vs.set i (.int (lo8 (cs.getD i 0)))) (by omega) (Or.inr ⟨_, rfl⟩) W2 (Aa.keep K2 (ninS had nin0)) A2 (by rw [List.length_set]; exact hvl) (set_pre hvl hin hvs)
        (fun j hj => by rcases Nat.lt_succ_iff_lt_or_eq.mp hj with q | rfl; exact hlat j q; exact Int.not_lt.mp fun q => hc20 (Int32.lt_iff_toInt_lt.mpr q)) (hK.trans K2 (allS (Or.inl (List.Mem.head _)) all0))
    · intro hc20
      show G E x T (fr x 23 #[.val (.ref a), .val (.int i.toInt32), .val (.ref d), .val (.int i.toInt32), .val (.int n.toInt32), .val (.int i.toInt32), .val (.int (cs.getD i 0))] [])
      refine w_iload W B d_cmp5_23 rfl ?_
      exact w_ireturn W B d_cmp5_25 hQ (by decide) (by decide) (fun _ q => q) ⟨i, vs, rfl, rfl, Nat.le_of_lt hin, fun _ => by have := Int32.lt_iff_toInt_lt.mp hc20; exact this, hlat, hK, Ad, hvl, hvs⟩
set_option maxRecDepth 65536 in
set_option maxHeartbeats 4000000 in
theorem cmp5_met {E : Gl} (hw : Tb E) {a d : Addr} {ka kd : ClassId} {n : Nat} {cs : List Int32} {vs : List Value} {h : Heap} {F : List Addr} (hcs : cs.length = n) (hn : n < 2 ^ 31) (had : a ≠ d) (hd : d ∈ F) (Aa : Arv E.Z h a ka .char n.toInt32 (ints cs) (.int 0)) (Ad : Arv E.Z h d kd .byte n.toInt32 vs (.int 0)) (hvl : vs.length = n) :
    Met E (⟨"java/lang/StringUTF16", "compress", "([CI[BII)I"⟩ : MethodName) jdk_52_method_21_code 7 (some .int) ({ frames := 0, cells := 0, slots := 0, locals := 0 } : Room) #[.ref a, .int 0, .ref d, .int 0, .int n.toInt32] h F (QC5 E cs n a d kd h F) := by
  refine met_of (by decide +kernel) fun x T hQ B W => ?_
  refine G.cast (g' := fr x 0 #[.val (.ref a), .val (.int 0), .val (.ref d), .val (.int 0), .val (.int n.toInt32), .unset, .unset] []) (by simp [entryFrame, mkF, argsToLocals, Own.cat_r, Own.cat_i, Own.cat_j, Own.cat_n]) ?_
  refine w_iconst W B d_cmp5_0 (v := (0 : Int32)) rfl ?_
  refine w_istore W B d_cmp5_1 (Ls' := #[.val (.ref a), .val (.int (0 : Int32)), .val (.ref d), .val (.int (0 : Int32)), .val (.int n.toInt32), .val (.int (0 : Int32)), .unset]) rfl ?_
  exact cmp5_turns hw hQ B hcs hn had hd n 0 T h .unset vs (Nat.zero_add n) (Or.inl rfl) W Aa Ad hvl (fun j q => absurd q (Nat.not_lt_zero _)) (fun j q => absurd q (Nat.not_lt_zero _)) (Keep.refl _ _)
/-- the String at s spells cs; v: its byte[] -/
def StrV (E : Gl) (h : Heap) (s v : Addr) (cs : List Int32) : Prop := ∃ k : ClassId, Exa E.Z h s "java/lang/String" ∧ Fld E.Z h s "java/lang/String" "value" "[B" (.ref v) ∧ Ch cs ∧
  ((Lat cs ∧ Fld E.Z h s "java/lang/String" "coder" "B" (.int 0) ∧ Arv E.Z h v k .byte cs.length.toInt32 (b8 cs) (.int 0)) ∨ (¬ Lat cs ∧ Fld E.Z h s "java/lang/String" "coder" "B" (.int 1) ∧ Arv E.Z h v k .byte (2 * cs.length).toInt32 (b16 cs) (.int 0)))
theorem StrV.ext {E : Gl} {h h' : Heap} {s v : Addr} {cs : List Int32} (F : StrV E h s v cs) (X : Ext h h') : StrV E h' s v cs := by
  obtain ⟨k, h1, h2, h3, h4⟩ := F
  exact ⟨k, h1.ext X, h2.ext X, h3, h4.imp (fun q => ⟨q.1, q.2.1.ext X, q.2.2.ext X⟩) (fun q => ⟨q.1, q.2.1.ext X, q.2.2.ext X⟩)⟩
theorem StrV.keep {E : Gl} {h h' : Heap} {s v : Addr} {cs : List Int32} {ws : List Addr} (F : StrV E h s v cs) (K : Keep h h' ws) (q1 : s ∉ ws) (q2 : v ∉ ws) : StrV E h' s v cs := by
  obtain ⟨k, h1, h2, h3, h4⟩ := F
  exact ⟨k, h1.keep K, h2.keep K q1, h3, h4.imp (fun q => ⟨q.1, q.2.1.keep K q1, q.2.2.keep K q2⟩) (fun q => ⟨q.1, q.2.1.keep K q1, q.2.2.keep K q2⟩)⟩
theorem StrV.exa {E : Gl} {h : Heap} {s v : Addr} {cs : List Int32} (F : StrV E h s v cs) : Exa E.Z h s "java/lang/String" := by obtain ⟨k, h1, -⟩ := F; exact h1
theorem StrV.lt {E : Gl} {h : Heap} {s v : Addr} {cs : List Int32} (F : StrV E h s v cs) : s < h.size := F.exa.lt
theorem StrV.ltv {E : Gl} {h : Heap} {s v : Addr} {cs : List Int32} (F : StrV E h s v cs) : v < h.size := by obtain ⟨k, h1, h2, h3, h4⟩ := F; rcases h4 with q | q; exact q.2.2.lt; exact q.2.2.lt
theorem compact {E : Gl} (hw : Tb E) : ∃ z : Int32, Sta E.Z E.Z.heap "java/lang/String" "COMPACT_STRINGS" "Z" (.int z) ∧ ¬ z = 0 := by
  obtain ⟨z, e⟩ := is_v (Cond.before_iff.mp (sd hw 1 rfl))
  exact ⟨z, Sta.start e (Or.inl (sd hw 0 rfl)), gotF (Cond.eq_ints e (Term.int_eval 0)) (not_v (Cond.before_iff.mp (sd hw 2 rfl)))⟩
/-- what a constructor of String leaves -/
def QStr (E : Gl) (cs : List Int32) (s : Addr) (h : Heap) (F : List Addr) (r : Option Value) (h' : Heap) (F' : List Addr) : Prop := r = none ∧ F = F' ∧ Keep h h' [s] ∧ ∃ v : Addr, StrV E h' s v cs ∧ ∀ y ∈ F, y ≠ v
theorem pd___CI_BII_I688 : parseMethodDescriptor "([CI[BII)I" = some ⟨[(.array .char), .int, (.array .byte), .int, .int], (some .int)⟩ := by decide +kernel
theorem pd___CII__B542 : parseMethodDescriptor "([CII)[B" = some ⟨[(.array .char), .int, .int], (some (.array .byte))⟩ := by decide +kernel
theorem pd___BI_B377 : parseMethodDescriptor "([BI)B" = some ⟨[(.array .byte), .int], (some .byte)⟩ := by decide +kernel
theorem pd___CIILjava_lang_Void__V941 : parseMethodDescriptor "([CIILjava/lang/Void;)V" = some ⟨[(.array .char), .int, .int, (.object "java/lang/Void")], none⟩ := by decide +kernel
theorem pd___V167 : parseMethodDescriptor "()V" = some ⟨[], none⟩ := by decide +kernel
theorem pd___C_V325 : parseMethodDescriptor "([C)V" = some ⟨[(.array .char)], none⟩ := by decide +kernel
theorem pd__Lcom_example_keryx_keryx_audit_AuditedProcess_Lcom_example_keryx_keryx_audit_CertificateIdentity_Ljava_lang_String_Ljava_lang_String_Ljava_lang_String__V897 : parseMethodDescriptor "(Lcom/example/keryx/keryx/audit/AuditedProcess;Lcom/example/keryx/keryx/audit/CertificateIdentity;Ljava/lang/String;Ljava/lang/String;Ljava/lang/String;)V" = some ⟨[(.object "com/example/keryx/keryx/audit/AuditedProcess"), (.object "com/example/keryx/keryx/audit/CertificateIdentity"), (.object "java/lang/String"), (.object "java/lang/String"), (.object "java/lang/String")], none⟩ := by decide +kernel
theorem pd___Z171 : parseMethodDescriptor "()Z" = some ⟨[], (some .boolean)⟩ := by decide +kernel
theorem pd__I_Ljava_lang_String_853 : parseMethodDescriptor "(I)Ljava/lang/String;" = some ⟨[.int], (some (.object "java/lang/String"))⟩ := by decide +kernel
theorem pd__Ljava_lang_String_Ljava_lang_String_Ljava_lang_String__V270 : parseMethodDescriptor "(Ljava/lang/String;Ljava/lang/String;Ljava/lang/String;)V" = some ⟨[(.object "java/lang/String"), (.object "java/lang/String"), (.object "java/lang/String")], none⟩ := by decide +kernel
theorem d_cod_0 : Own.D jdk_52_method_15_code 0 (.iload_n 1) 1 1 := ⟨by decide +kernel, rfl⟩
theorem d_cod_1 : Own.D jdk_52_method_15_code 1 (.aload_n 0) 1 2 := ⟨by decide +kernel, rfl⟩
theorem d_cod_2 : Own.D jdk_52_method_15_code 2 .arraylength 1 3 := ⟨by decide +kernel, rfl⟩
theorem d_cod_3 : Own.D jdk_52_method_15_code 3 .isub 1 4 := ⟨by decide +kernel, rfl⟩
theorem d_cod_4 : Own.D jdk_52_method_15_code 4 (.bipush 31) 2 6 := ⟨by decide +kernel, rfl⟩
theorem d_cod_6 : Own.D jdk_52_method_15_code 6 .iushr 1 7 := ⟨by decide +kernel, rfl⟩
theorem d_cod_7 : Own.D jdk_52_method_15_code 7 .i2b 1 8 := ⟨by decide +kernel, rfl⟩
theorem d_cod_8 : Own.D jdk_52_method_15_code 8 .ireturn 1 9 := ⟨by decide +kernel, rfl⟩
theorem d_cmp3_0 : Own.D jdk_52_method_16_code 0 (.iload_n 2) 1 1 := ⟨by decide +kernel, rfl⟩
theorem d_cmp3_1 : Own.D jdk_52_method_16_code 1 (.newarray .byte) 2 3 := ⟨by decide +kernel, rfl⟩
theorem d_cmp3_3 : Own.D jdk_52_method_16_code 3 (.astore_n 3) 1 4 := ⟨by decide +kernel, rfl⟩
theorem d_cmp3_4 : Own.D jdk_52_method_16_code 4 (.aload_n 0) 1 5 := ⟨by decide +kernel, rfl⟩
theorem d_cmp3_5 : Own.D jdk_52_method_16_code 5 (.iload_n 1) 1 6 := ⟨by decide +kernel, rfl⟩
theorem d_cmp3_6 : Own.D jdk_52_method_16_code 6 (.aload_n 3) 1 7 := ⟨by decide +kernel, rfl⟩
theorem d_cmp3_7 : Own.D jdk_52_method_16_code 7 (.iconst 0) 1 8 := ⟨by decide +kernel, rfl⟩
theorem d_cmp3_8 : Own.D jdk_52_method_16_code 8 (.iload_n 2) 1 9 := ⟨by decide +kernel, rfl⟩
theorem d_cmp3_9 : Own.D jdk_52_method_16_code 9 (.invokestatic 115) 3 12 := ⟨by decide +kernel, rfl⟩
theorem d_cmp3_12 : Own.D jdk_52_method_16_code 12 (.istore 4) 2 14 := ⟨by decide +kernel, rfl⟩
theorem d_cmp3_14 : Own.D jdk_52_method_16_code 14 (.iload 4) 2 16 := ⟨by decide +kernel, rfl⟩
theorem d_cmp3_16 : Own.D jdk_52_method_16_code 16 (.iload_n 2) 1 17 := ⟨by decide +kernel, rfl⟩
theorem d_cmp3_17 : Own.J jdk_52_method_16_code 17 (.if_icmp .eq 40) 3 20 40 57 := ⟨by decide +kernel, rfl, by decide, by decide⟩
theorem d_cmp3_57 : Own.D jdk_52_method_16_code 57 (.aload_n 3) 1 58 := ⟨by decide +kernel, rfl⟩
theorem d_cmp3_58 : Own.D jdk_52_method_16_code 58 .areturn 1 59 := ⟨by decide +kernel, rfl⟩
theorem d_ini4_0 : Own.D jdk_42_method_149_code 0 (.aload_n 0) 1 1 := ⟨by decide +kernel, rfl⟩
theorem d_ini4_1 : Own.D jdk_42_method_149_code 1 (.invokespecial 1) 3 4 := ⟨by decide +kernel, rfl⟩
theorem d_ini4_4 : Own.D jdk_42_method_149_code 4 (.iload_n 3) 1 5 := ⟨by decide +kernel, rfl⟩
theorem d_ini4_5 : Own.J jdk_42_method_149_code 5 (.ifCond .ne 22) 3 8 22 27 := ⟨by decide +kernel, rfl, by decide, by decide⟩
theorem d_ini4_27 : Own.D jdk_42_method_149_code 27 (.getstatic 38) 3 30 := ⟨by decide +kernel, rfl⟩
theorem d_ini4_30 : Own.J jdk_42_method_149_code 30 (.ifCond .eq 28) 3 33 28 58 := ⟨by decide +kernel, rfl, by decide, by decide⟩
theorem d_ini4_33 : Own.D jdk_42_method_149_code 33 (.aload_n 1) 1 34 := ⟨by decide +kernel, rfl⟩
theorem d_ini4_34 : Own.D jdk_42_method_149_code 34 (.iload_n 2) 1 35 := ⟨by decide +kernel, rfl⟩
theorem d_ini4_35 : Own.D jdk_42_method_149_code 35 (.iload_n 3) 1 36 := ⟨by decide +kernel, rfl⟩
theorem d_ini4_36 : Own.D jdk_42_method_149_code 36 (.invokestatic 177) 3 39 := ⟨by decide +kernel, rfl⟩
theorem d_ini4_39 : Own.D jdk_42_method_149_code 39 (.astore 5) 2 41 := ⟨by decide +kernel, rfl⟩
theorem d_ini4_41 : Own.D jdk_42_method_149_code 41 (.aload_n 0) 1 42 := ⟨by decide +kernel, rfl⟩
theorem d_ini4_42 : Own.D jdk_42_method_149_code 42 (.aload 5) 2 44 := ⟨by decide +kernel, rfl⟩
theorem d_ini4_44 : Own.D jdk_42_method_149_code 44 (.iload_n 3) 1 45 := ⟨by decide +kernel, rfl⟩
theorem d_ini4_45 : Own.D jdk_42_method_149_code 45 (.invokestatic 47) 3 48 := ⟨by decide +kernel, rfl⟩
theorem d_ini4_48 : Own.D jdk_42_method_149_code 48 (.putfield 15) 3 51 := ⟨by decide +kernel, rfl⟩
theorem d_ini4_51 : Own.D jdk_42_method_149_code 51 (.aload_n 0) 1 52 := ⟨by decide +kernel, rfl⟩
theorem d_ini4_52 : Own.D jdk_42_method_149_code 52 (.aload 5) 2 54 := ⟨by decide +kernel, rfl⟩
theorem d_ini4_54 : Own.D jdk_42_method_149_code 54 (.putfield 9) 3 57 := ⟨by decide +kernel, rfl⟩
theorem d_ini4_57 : Own.D jdk_42_method_149_code 57 .return_ 1 58 := ⟨by decide +kernel, rfl⟩
theorem d_ini1_0 : Own.D jdk_42_method_3_code 0 (.aload_n 0) 1 1 := ⟨by decide +kernel, rfl⟩
theorem d_ini1_1 : Own.D jdk_42_method_3_code 1 (.aload_n 1) 1 2 := ⟨by decide +kernel, rfl⟩
theorem d_ini1_2 : Own.D jdk_42_method_3_code 2 (.iconst 0) 1 3 := ⟨by decide +kernel, rfl⟩
theorem d_ini1_3 : Own.D jdk_42_method_3_code 3 (.aload_n 1) 1 4 := ⟨by decide +kernel, rfl⟩
theorem d_ini1_4 : Own.D jdk_42_method_3_code 4 .arraylength 1 5 := ⟨by decide +kernel, rfl⟩
theorem d_ini1_5 : Own.D jdk_42_method_3_code 5 .aconst_null 1 6 := ⟨by decide +kernel, rfl⟩
theorem d_ini1_6 : Own.D jdk_42_method_3_code 6 (.invokespecial 27) 3 9 := ⟨by decide +kernel, rfl⟩
theorem d_ini1_9 : Own.D jdk_42_method_3_code 9 .return_ 1 10 := ⟨by decide +kernel, rfl⟩
theorem d_ini4_8 : Own.D jdk_42_method_149_code 8 (.aload_n 0) 1 9 := ⟨by decide +kernel, rfl⟩
theorem d_ini4_9 : Own.D jdk_42_method_149_code 9 (.ldc 7) 2 11 := ⟨by decide +kernel, rfl⟩
theorem d_ini4_11 : Own.D jdk_42_method_149_code 11 (.getfield 9) 3 14 := ⟨by decide +kernel, rfl⟩
theorem d_ini4_14 : Own.D jdk_42_method_149_code 14 (.putfield 9) 3 17 := ⟨by decide +kernel, rfl⟩
theorem d_ini4_17 : Own.D jdk_42_method_149_code 17 (.aload_n 0) 1 18 := ⟨by decide +kernel, rfl⟩
theorem d_ini4_18 : Own.D jdk_42_method_149_code 18 (.ldc 7) 2 20 := ⟨by decide +kernel, rfl⟩
theorem d_ini4_20 : Own.D jdk_42_method_149_code 20 (.getfield 15) 3 23 := ⟨by decide +kernel, rfl⟩
theorem d_ini4_23 : Own.D jdk_42_method_149_code 23 (.putfield 15) 3 26 := ⟨by decide +kernel, rfl⟩
theorem d_ini4_26 : Own.D jdk_42_method_149_code 26 .return_ 1 27 := ⟨by decide +kernel, rfl⟩
theorem d_rec_0 : Own.D jdk_30_method_1_code 0 (.aload_n 0) 1 1 := ⟨by decide +kernel, rfl⟩
theorem d_rec_1 : Own.D jdk_30_method_1_code 1 (.invokespecial 1) 3 4 := ⟨by decide +kernel, rfl⟩
theorem d_rec_4 : Own.D jdk_30_method_1_code 4 .return_ 1 5 := ⟨by decide +kernel, rfl⟩
theorem d_pu_0 : Own.D prog_3_method_1_code 0 (.aload_n 0) 1 1 := ⟨by decide +kernel, rfl⟩
theorem d_pu_1 : Own.D prog_3_method_1_code 1 (.invokespecial 1) 3 4 := ⟨by decide +kernel, rfl⟩
theorem d_pu_4 : Own.D prog_3_method_1_code 4 (.aload_n 0) 1 5 := ⟨by decide +kernel, rfl⟩
theorem d_pu_5 : Own.D prog_3_method_1_code 5 (.aload_n 1) 1 6 := ⟨by decide +kernel, rfl⟩
theorem d_pu_6 : Own.D prog_3_method_1_code 6 (.putfield 7) 3 9 := ⟨by decide +kernel, rfl⟩
theorem d_pu_9 : Own.D prog_3_method_1_code 9 (.aload_n 0) 1 10 := ⟨by decide +kernel, rfl⟩
theorem d_pu_10 : Own.D prog_3_method_1_code 10 (.aload_n 2) 1 11 := ⟨by decide +kernel, rfl⟩
theorem d_pu_11 : Own.D prog_3_method_1_code 11 (.putfield 13) 3 14 := ⟨by decide +kernel, rfl⟩
theorem d_pu_14 : Own.D prog_3_method_1_code 14 (.aload_n 0) 1 15 := ⟨by decide +kernel, rfl⟩
theorem d_pu_15 : Own.D prog_3_method_1_code 15 (.aload_n 3) 1 16 := ⟨by decide +kernel, rfl⟩
theorem d_pu_16 : Own.D prog_3_method_1_code 16 (.putfield 17) 3 19 := ⟨by decide +kernel, rfl⟩
theorem d_pu_19 : Own.D prog_3_method_1_code 19 (.aload_n 0) 1 20 := ⟨by decide +kernel, rfl⟩
theorem d_pu_20 : Own.D prog_3_method_1_code 20 (.aload 4) 2 22 := ⟨by decide +kernel, rfl⟩
theorem d_pu_22 : Own.D prog_3_method_1_code 22 (.putfield 21) 3 25 := ⟨by decide +kernel, rfl⟩
theorem d_pu_25 : Own.D prog_3_method_1_code 25 (.aload_n 0) 1 26 := ⟨by decide +kernel, rfl⟩
theorem d_pu_26 : Own.D prog_3_method_1_code 26 (.aload 5) 2 28 := ⟨by decide +kernel, rfl⟩
theorem d_pu_28 : Own.D prog_3_method_1_code 28 (.putfield 24) 3 31 := ⟨by decide +kernel, rfl⟩
theorem d_pu_31 : Own.D prog_3_method_1_code 31 .return_ 1 32 := ⟨by decide +kernel, rfl⟩
theorem d_ci_0 : Own.D prog_2_method_1_code 0 (.aload_n 0) 1 1 := ⟨by decide +kernel, rfl⟩
theorem d_ci_1 : Own.D prog_2_method_1_code 1 (.invokespecial 1) 3 4 := ⟨by decide +kernel, rfl⟩
theorem d_ci_4 : Own.D prog_2_method_1_code 4 (.aload_n 0) 1 5 := ⟨by decide +kernel, rfl⟩
theorem d_ci_5 : Own.D prog_2_method_1_code 5 (.aload_n 1) 1 6 := ⟨by decide +kernel, rfl⟩
theorem d_ci_6 : Own.D prog_2_method_1_code 6 (.putfield 7) 3 9 := ⟨by decide +kernel, rfl⟩
theorem d_ci_9 : Own.D prog_2_method_1_code 9 (.aload_n 0) 1 10 := ⟨by decide +kernel, rfl⟩
theorem d_ci_10 : Own.D prog_2_method_1_code 10 (.aload_n 2) 1 11 := ⟨by decide +kernel, rfl⟩
theorem d_ci_11 : Own.D prog_2_method_1_code 11 (.putfield 13) 3 14 := ⟨by decide +kernel, rfl⟩
theorem d_ci_14 : Own.D prog_2_method_1_code 14 (.aload_n 0) 1 15 := ⟨by decide +kernel, rfl⟩
theorem d_ci_15 : Own.D prog_2_method_1_code 15 (.aload_n 3) 1 16 := ⟨by decide +kernel, rfl⟩
theorem d_ci_16 : Own.D prog_2_method_1_code 16 (.putfield 16) 3 19 := ⟨by decide +kernel, rfl⟩
theorem d_ci_19 : Own.D prog_2_method_1_code 19 .return_ 1 20 := ⟨by decide +kernel, rfl⟩
theorem d_anon_0 : Own.D prog_3_method_6_code 0 (.aload_n 0) 1 1 := ⟨by decide +kernel, rfl⟩
theorem d_anon_1 : Own.D prog_3_method_6_code 1 (.getfield 24) 3 4 := ⟨by decide +kernel, rfl⟩
theorem d_anon_4 : Own.J prog_3_method_6_code 4 (.ifnull 21) 3 7 21 25 := ⟨by decide +kernel, rfl, by decide, by decide⟩
theorem d_anon_25 : Own.D prog_3_method_6_code 25 (.iconst 0) 1 26 := ⟨by decide +kernel, rfl⟩
theorem d_anon_26 : Own.D prog_3_method_6_code 26 .ireturn 1 27 := ⟨by decide +kernel, rfl⟩
theorem d_anon_7 : Own.D prog_3_method_6_code 7 (.aload_n 0) 1 8 := ⟨by decide +kernel, rfl⟩
theorem d_anon_8 : Own.D prog_3_method_6_code 8 (.getfield 13) 3 11 := ⟨by decide +kernel, rfl⟩
theorem d_anon_11 : Own.J prog_3_method_6_code 11 (.ifnonnull 14) 3 14 14 25 := ⟨by decide +kernel, rfl, by decide, by decide⟩
theorem d_anon_14 : Own.D prog_3_method_6_code 14 (.aload_n 0) 1 15 := ⟨by decide +kernel, rfl⟩
theorem d_anon_15 : Own.D prog_3_method_6_code 15 (.getfield 17) 3 18 := ⟨by decide +kernel, rfl⟩
theorem d_anon_18 : Own.J prog_3_method_6_code 18 (.ifnonnull 7) 3 21 7 25 := ⟨by decide +kernel, rfl, by decide, by decide⟩
theorem d_anon_21 : Own.D prog_3_method_6_code 21 (.iconst 1) 1 22 := ⟨by decide +kernel, rfl⟩
theorem d_anon_22 : Own.J prog_3_method_6_code 22 (.goto 4) 3 25 4 26 := ⟨by decide +kernel, rfl, by decide, by decide⟩
theorem d_str_0 : Own.D method_3_code 0 (.iload_n 0) 1 1 := ⟨by decide +kernel, rfl⟩
theorem d_str_1 : Own.D method_3_code 1 (.sipush 256) 3 4 := ⟨by decide +kernel, rfl⟩
theorem d_str_4 : Own.D method_3_code 4 .iand 1 5 := ⟨by decide +kernel, rfl⟩
theorem d_str_5 : Own.J method_3_code 5 (.ifCond .eq 14) 3 8 14 19 := ⟨by decide +kernel, rfl, by decide, by decide⟩
theorem d_str_19 : Own.D method_3_code 19 (.iconst 1) 1 20 := ⟨by decide +kernel, rfl⟩
theorem d_str_20 : Own.D method_3_code 20 (.newarray .char) 2 22 := ⟨by decide +kernel, rfl⟩
theorem d_str_22 : Own.D method_3_code 22 (.astore_n 1) 1 23 := ⟨by decide +kernel, rfl⟩
theorem d_str_23 : Own.D method_3_code 23 (.aload_n 1) 1 24 := ⟨by decide +kernel, rfl⟩
theorem d_str_24 : Own.D method_3_code 24 (.iconst 0) 1 25 := ⟨by decide +kernel, rfl⟩
theorem d_str_25 : Own.D method_3_code 25 (.iload_n 0) 1 26 := ⟨by decide +kernel, rfl⟩
theorem d_str_26 : Own.D method_3_code 26 (.sipush 255) 3 29 := ⟨by decide +kernel, rfl⟩
theorem d_str_29 : Own.D method_3_code 29 .iand 1 30 := ⟨by decide +kernel, rfl⟩
theorem d_str_30 : Own.D method_3_code 30 .i2c 1 31 := ⟨by decide +kernel, rfl⟩
theorem d_str_31 : Own.D method_3_code 31 .castore 1 32 := ⟨by decide +kernel, rfl⟩
theorem d_str_32 : Own.D method_3_code 32 (.new 36) 3 35 := ⟨by decide +kernel, rfl⟩
theorem d_str_35 : Own.D method_3_code 35 .dup 1 36 := ⟨by decide +kernel, rfl⟩
theorem d_str_36 : Own.D method_3_code 36 (.aload_n 1) 1 37 := ⟨by decide +kernel, rfl⟩
theorem d_str_37 : Own.D method_3_code 37 (.invokespecial 38) 3 40 := ⟨by decide +kernel, rfl⟩
theorem d_str_40 : Own.D method_3_code 40 .areturn 1 41 := ⟨by decide +kernel, rfl⟩
theorem d_str_8 : Own.D method_3_code 8 (.new 36) 3 11 := ⟨by decide +kernel, rfl⟩
theorem d_str_11 : Own.D method_3_code 11 .dup 1 12 := ⟨by decide +kernel, rfl⟩
theorem d_str_12 : Own.D method_3_code 12 (.iconst 0) 1 13 := ⟨by decide +kernel, rfl⟩
theorem d_str_13 : Own.D method_3_code 13 (.newarray .char) 2 15 := ⟨by decide +kernel, rfl⟩
theorem d_str_15 : Own.D method_3_code 15 (.invokespecial 38) 3 18 := ⟨by decide +kernel, rfl⟩
theorem d_str_18 : Own.D method_3_code 18 .areturn 1 19 := ⟨by decide +kernel, rfl⟩
theorem d_law_143 : Own.D code 143 (.new 27) 3 146 := ⟨by decide +kernel, rfl⟩
theorem d_law_146 : Own.D code 146 .dup 1 147 := ⟨by decide +kernel, rfl⟩
theorem d_law_147 : Own.D code 147 (.aload 7) 2 149 := ⟨by decide +kernel, rfl⟩
theorem d_law_149 : Own.D code 149 (.aload 9) 2 151 := ⟨by decide +kernel, rfl⟩
theorem d_law_151 : Own.D code 151 (.aload 10) 2 153 := ⟨by decide +kernel, rfl⟩
theorem d_law_153 : Own.D code 153 (.aload 11) 2 155 := ⟨by decide +kernel, rfl⟩
theorem d_law_155 : Own.D code 155 (.aload 8) 2 157 := ⟨by decide +kernel, rfl⟩
theorem d_law_157 : Own.D code 157 (.invokespecial 29) 3 160 := ⟨by decide +kernel, rfl⟩
theorem d_law_160 : Own.D code 160 (.astore 12) 2 162 := ⟨by decide +kernel, rfl⟩
theorem d_law_162 : Own.D code 162 (.iload 4) 2 164 := ⟨by decide +kernel, rfl⟩
theorem d_law_164 : Own.J code 164 (.ifCond .eq 17) 3 167 17 181 := ⟨by decide +kernel, rfl, by decide, by decide⟩
theorem d_law_181 : Own.D code 181 (.iconst 0) 1 182 := ⟨by decide +kernel, rfl⟩
theorem d_law_182 : Own.D code 182 (.istore 13) 2 184 := ⟨by decide +kernel, rfl⟩
theorem d_law_184 : Own.D code 184 (.aload 12) 2 186 := ⟨by decide +kernel, rfl⟩
theorem d_law_186 : Own.D code 186 (.invokevirtual 32) 3 189 := ⟨by decide +kernel, rfl⟩
theorem d_law_189 : Own.D code 189 (.iload 13) 2 191 := ⟨by decide +kernel, rfl⟩
theorem d_law_191 : Own.J code 191 (.if_icmp .ne 7) 3 194 7 198 := ⟨by decide +kernel, rfl, by decide, by decide⟩
theorem d_law_194 : Own.D code 194 (.iconst 1) 1 195 := ⟨by decide +kernel, rfl⟩
theorem d_law_195 : Own.J code 195 (.goto 4) 3 198 4 199 := ⟨by decide +kernel, rfl, by decide, by decide⟩
theorem d_law_199 : Own.D code 199 .ireturn 1 200 := ⟨by decide +kernel, rfl⟩
theorem d_law_167 : Own.D code 167 (.iload 5) 2 169 := ⟨by decide +kernel, rfl⟩
theorem d_law_169 : Own.J code 169 (.ifCond .ne 12) 3 172 12 181 := ⟨by decide +kernel, rfl, by decide, by decide⟩
theorem d_law_172 : Own.D code 172 (.iload 6) 2 174 := ⟨by decide +kernel, rfl⟩
theorem d_law_174 : Own.J code 174 (.ifCond .ne 7) 3 177 7 181 := ⟨by decide +kernel, rfl, by decide, by decide⟩
theorem d_law_177 : Own.D code 177 (.iconst 1) 1 178 := ⟨by decide +kernel, rfl⟩
theorem d_law_178 : Own.J code 178 (.goto 4) 3 181 4 182 := ⟨by decide +kernel, rfl, by decide, by decide⟩
theorem d_law_141 : Own.D code 141 (.astore 11) 2 143 := ⟨by decide +kernel, rfl⟩
theorem d_law_121 : Own.D code 121 (.astore 10) 2 123 := ⟨by decide +kernel, rfl⟩
theorem d_law_123 : Own.D code 123 (.iload_n 0) 1 124 := ⟨by decide +kernel, rfl⟩
theorem d_law_124 : Own.D code 124 (.bipush 16) 2 126 := ⟨by decide +kernel, rfl⟩
theorem d_law_126 : Own.D code 126 .iand 1 127 := ⟨by decide +kernel, rfl⟩
theorem d_law_127 : Own.J code 127 (.ifCond .eq 13) 3 130 13 140 := ⟨by decide +kernel, rfl, by decide, by decide⟩
theorem d_law_140 : Own.D code 140 .aconst_null 1 141 := ⟨by decide +kernel, rfl⟩
theorem d_law_130 : Own.D code 130 (.iload_n 0) 1 131 := ⟨by decide +kernel, rfl⟩
theorem d_law_131 : Own.D code 131 (.bipush 8) 2 133 := ⟨by decide +kernel, rfl⟩
theorem d_law_133 : Own.D code 133 .iushr 1 134 := ⟨by decide +kernel, rfl⟩
theorem d_law_134 : Own.D code 134 (.invokestatic 16) 3 137 := ⟨by decide +kernel, rfl⟩
theorem d_law_137 : Own.J code 137 (.goto 4) 3 140 4 141 := ⟨by decide +kernel, rfl, by decide, by decide⟩
theorem d_law_106 : Own.D code 106 (.astore 9) 2 108 := ⟨by decide +kernel, rfl⟩
theorem d_law_108 : Own.D code 108 (.iload 6) 2 110 := ⟨by decide +kernel, rfl⟩
theorem d_law_110 : Own.J code 110 (.ifCond .eq 10) 3 113 10 120 := ⟨by decide +kernel, rfl, by decide, by decide⟩
theorem d_law_120 : Own.D code 120 .aconst_null 1 121 := ⟨by decide +kernel, rfl⟩
theorem d_law_113 : Own.D code 113 (.iload_n 3) 1 114 := ⟨by decide +kernel, rfl⟩
theorem d_law_114 : Own.D code 114 (.invokestatic 16) 3 117 := ⟨by decide +kernel, rfl⟩
theorem d_law_117 : Own.J code 117 (.goto 4) 3 120 4 121 := ⟨by decide +kernel, rfl, by decide, by decide⟩
theorem d_law_70 : Own.D code 70 (.astore 8) 2 72 := ⟨by decide +kernel, rfl⟩
theorem d_law_72 : Own.D code 72 (.iload 5) 2 74 := ⟨by decide +kernel, rfl⟩
theorem d_law_74 : Own.J code 74 (.ifCond .eq 31) 3 77 31 105 := ⟨by decide +kernel, rfl, by decide, by decide⟩
theorem d_law_105 : Own.D code 105 .aconst_null 1 106 := ⟨by decide +kernel, rfl⟩
theorem d_law_77 : Own.D code 77 (.new 22) 3 80 := ⟨by decide +kernel, rfl⟩
theorem d_law_80 : Own.D code 80 .dup 1 81 := ⟨by decide +kernel, rfl⟩
theorem d_law_81 : Own.D code 81 (.iload_n 2) 1 82 := ⟨by decide +kernel, rfl⟩
theorem d_law_82 : Own.D code 82 (.invokestatic 16) 3 85 := ⟨by decide +kernel, rfl⟩
theorem d_law_85 : Own.D code 85 (.iload_n 2) 1 86 := ⟨by decide +kernel, rfl⟩
theorem d_law_86 : Own.D code 86 (.bipush 9) 2 88 := ⟨by decide +kernel, rfl⟩
theorem d_law_88 : Own.D code 88 .iushr 1 89 := ⟨by decide +kernel, rfl⟩
theorem d_law_89 : Own.D code 89 (.invokestatic 16) 3 92 := ⟨by decide +kernel, rfl⟩
theorem d_law_92 : Own.D code 92 (.iload_n 2) 1 93 := ⟨by decide +kernel, rfl⟩
theorem d_law_93 : Own.D code 93 (.bipush 18) 2 95 := ⟨by decide +kernel, rfl⟩
theorem d_law_95 : Own.D code 95 .iushr 1 96 := ⟨by decide +kernel, rfl⟩
theorem d_law_96 : Own.D code 96 (.invokestatic 16) 3 99 := ⟨by decide +kernel, rfl⟩
theorem d_law_99 : Own.D code 99 (.invokespecial 24) 3 102 := ⟨by decide +kernel, rfl⟩
theorem d_law_102 : Own.J code 102 (.goto 4) 3 105 4 106 := ⟨by decide +kernel, rfl, by decide, by decide⟩
theorem d_law_55 : Own.D code 55 (.astore 7) 2 57 := ⟨by decide +kernel, rfl⟩
theorem d_law_57 : Own.D code 57 (.iload 4) 2 59 := ⟨by decide +kernel, rfl⟩
theorem d_law_59 : Own.J code 59 (.ifCond .eq 10) 3 62 10 69 := ⟨by decide +kernel, rfl, by decide, by decide⟩
theorem d_law_69 : Own.D code 69 .aconst_null 1 70 := ⟨by decide +kernel, rfl⟩
theorem d_law_62 : Own.D code 62 (.iload_n 1) 1 63 := ⟨by decide +kernel, rfl⟩
theorem d_law_63 : Own.D code 63 (.invokestatic 16) 3 66 := ⟨by decide +kernel, rfl⟩
theorem d_law_66 : Own.J code 66 (.goto 4) 3 69 4 70 := ⟨by decide +kernel, rfl, by decide, by decide⟩
theorem d_law_37 : Own.D code 37 (.istore 6) 2 39 := ⟨by decide +kernel, rfl⟩
theorem d_law_39 : Own.D code 39 (.iload_n 0) 1 40 := ⟨by decide +kernel, rfl⟩
theorem d_law_40 : Own.D code 40 (.bipush 8) 2 42 := ⟨by decide +kernel, rfl⟩
theorem d_law_42 : Own.D code 42 .iand 1 43 := ⟨by decide +kernel, rfl⟩
theorem d_law_43 : Own.J code 43 (.ifCond .eq 9) 3 46 9 52 := ⟨by decide +kernel, rfl, by decide, by decide⟩
theorem d_law_52 : Own.D code 52 (.getstatic 13) 3 55 := ⟨by decide +kernel, rfl⟩
theorem d_law_46 : Own.D code 46 (.getstatic 7) 3 49 := ⟨by decide +kernel, rfl⟩
theorem d_law_49 : Own.J code 49 (.goto 6) 3 52 6 55 := ⟨by decide +kernel, rfl, by decide, by decide⟩
theorem d_law_24 : Own.D code 24 (.istore 5) 2 26 := ⟨by decide +kernel, rfl⟩
theorem d_law_26 : Own.D code 26 (.iload_n 0) 1 27 := ⟨by decide +kernel, rfl⟩
theorem d_law_27 : Own.D code 27 (.iconst 4) 1 28 := ⟨by decide +kernel, rfl⟩
theorem d_law_28 : Own.D code 28 .iand 1 29 := ⟨by decide +kernel, rfl⟩
theorem d_law_29 : Own.J code 29 (.ifCond .eq 7) 3 32 7 36 := ⟨by decide +kernel, rfl, by decide, by decide⟩
theorem d_law_36 : Own.D code 36 (.iconst 0) 1 37 := ⟨by decide +kernel, rfl⟩
theorem d_law_32 : Own.D code 32 (.iconst 1) 1 33 := ⟨by decide +kernel, rfl⟩
theorem d_law_33 : Own.J code 33 (.goto 4) 3 36 4 37 := ⟨by decide +kernel, rfl, by decide, by decide⟩
theorem d_law_11 : Own.D code 11 (.istore 4) 2 13 := ⟨by decide +kernel, rfl⟩
theorem d_law_13 : Own.D code 13 (.iload_n 0) 1 14 := ⟨by decide +kernel, rfl⟩
theorem d_law_14 : Own.D code 14 (.iconst 2) 1 15 := ⟨by decide +kernel, rfl⟩
theorem d_law_15 : Own.D code 15 .iand 1 16 := ⟨by decide +kernel, rfl⟩
theorem d_law_16 : Own.J code 16 (.ifCond .eq 7) 3 19 7 23 := ⟨by decide +kernel, rfl, by decide, by decide⟩
theorem d_law_23 : Own.D code 23 (.iconst 0) 1 24 := ⟨by decide +kernel, rfl⟩
theorem d_law_19 : Own.D code 19 (.iconst 1) 1 20 := ⟨by decide +kernel, rfl⟩
theorem d_law_20 : Own.J code 20 (.goto 4) 3 23 4 24 := ⟨by decide +kernel, rfl, by decide, by decide⟩
theorem d_law_0 : Own.D code 0 (.iload_n 0) 1 1 := ⟨by decide +kernel, rfl⟩
theorem d_law_1 : Own.D code 1 (.iconst 1) 1 2 := ⟨by decide +kernel, rfl⟩
theorem d_law_2 : Own.D code 2 .iand 1 3 := ⟨by decide +kernel, rfl⟩
theorem d_law_3 : Own.J code 3 (.ifCond .eq 7) 3 6 7 10 := ⟨by decide +kernel, rfl, by decide, by decide⟩
theorem d_law_10 : Own.D code 10 (.iconst 0) 1 11 := ⟨by decide +kernel, rfl⟩
theorem d_law_6 : Own.D code 6 (.iconst 1) 1 7 := ⟨by decide +kernel, rfl⟩
theorem d_law_7 : Own.J code 7 (.goto 4) 3 10 4 11 := ⟨by decide +kernel, rfl, by decide, by decide⟩
set_option maxRecDepth 65536 in
set_option maxHeartbeats 4000000 in
theorem cod_met {E : Gl} (hw : Tb E) {h : Heap} {F : List Addr} {v : Addr} {k : ClassId} {m z : Int32} {vs : List Value} {dv : Value} (Av : Arv E.Z h v k .byte m vs dv) :
    Met E (⟨"java/lang/StringUTF16", "coderFromArrayLen", "([BI)B"⟩ : MethodName) jdk_52_method_15_code 2 (some .byte) ({ frames := 0, cells := 0, slots := 0, locals := 0 } : Room) #[.ref v, .int z] h F (fun r h' F' => r = some (.int (lo8 (lo8 (XT.ushr (z - m) 31)))) ∧ h = h' ∧ F = F') := by
  refine met_of (by decide +kernel) fun x T hQ B W => ?_
  refine G.cast (g' := fr x 0 #[.val (.ref v), .val (.int z)] []) (by simp [entryFrame, mkF, argsToLocals, Own.cat_r, Own.cat_i, Own.cat_j, Own.cat_n]) ?_
  refine w_iloadN W B d_cod_0 rfl ?_
  refine w_aloadN W B d_cod_1 rfl rfl ?_
  refine w_arraylength W B d_cod_2 Av ?_
  refine w_isub W B d_cod_3 ?_
  refine w_bipush W B d_cod_4 (v := (31 : Int32)) rfl ?_
  refine w_iushr W B d_cod_6 ?_
  refine w_i2b W B d_cod_7 ?_
  exact w_ireturnN W B d_cod_8 (Or.inr (Or.inl rfl)) (u := lo8 (lo8 (XT.ushr (z - m) 31))) rfl hQ (by decide) (by decide) (fun _ q => q) ⟨rfl, rfl, rfl⟩
theorem lat_at {cs : List Int32} (H : Lat cs) {i : Nat} (h : i < cs.length) : (cs.getD i 0).toInt ≤ 255 := by
  have : cs.getD i 0 = cs[i] := by simp [List.getD_eq_getElem?_getD, List.getElem?_eq_getElem h]
  rw [this]; exact H _ (List.getElem_mem h)
theorem vs_b8 {vs : List Value} {cs : List Int32} {n : Nat} (hvl : vs.length = n) (hcs : cs.length = n) (hvs : ∀ j, j < n → vs.getD j (.int 0) = .int (lo8 (cs.getD j 0))) : vs = b8 cs := by
  apply List.ext_getElem (by rw [hvl, b8_len, hcs])
  intro j h1 h2
  have q := hvs j (by omega)
  rw [List.getD_eq_getElem?_getD, List.getElem?_eq_getElem h1] at q
  have q2 := b8_at (cs := cs) (i := j) (by omega) (.int 0)
  rw [List.getD_eq_getElem?_getD, List.getElem?_eq_getElem h2] at q2
  exact (Option.some.inj (by simpa using q) : vs[j] = _).trans (by simpa using q2.symm)
set_option maxRecDepth 65536 in
set_option maxHeartbeats 4000000 in
theorem cmp3_met {E : Gl} (hw : Tb E) {h : Heap} {F : List Addr} {a : Addr} {ka : ClassId} {n : Nat} {cs : List Int32} (hcs : cs.length = n) (hcap : n ≤ 32) (hL : Lat cs) (Aa : Arv E.Z h a ka .char n.toInt32 (ints cs) (.int 0)) :
    Met E (⟨"java/lang/StringUTF16", "compress", "([CII)[B"⟩ : MethodName) jdk_52_method_16_code 6 (some (.array .byte)) ({ frames := 1, cells := 1, slots := 32, locals := 18 } : Room) #[.ref a, .int 0, .int n.toInt32] h F (fun r h' F' => ∃ (b : Addr) (k : ClassId), r = some (.ref b) ∧ F = F' ∧ h.size ≤ b ∧ Keep h h' [] ∧ Arv E.Z h' b k .byte n.toInt32 (b8 cs) (.int 0)) := by
  refine met_of (by decide +kernel) fun x T hQ B W => ?_
  refine G.cast (g' := fr x 0 #[.val (.ref a), .val (.int (0 : Int32)), .val (.int n.toInt32), .unset, .unset, .unset] []) (by simp [entryFrame, mkF, argsToLocals, Own.cat_r, Own.cat_i, Own.cat_j, Own.cat_n]) ?_
  have hn : n < 2 ^ 31 := by omega
  refine w_iloadN W B d_cmp3_0 rfl ?_
  refine w_newarray W B d_cmp3_1 rfl (wd hw 55 rfl) (n_nn hn) (cap := 32) (by rw [n_clamp hn]; exact hcap) (by decide) (by decide) (by decide) ?_
  intro T1 h2 b3 k4 W5 g6 X7 A8
  show G E x T1 (fr x 3 #[.val (.ref a), .val (.int (0 : Int32)), .val (.int n.toInt32), .unset, .unset, .unset] [(.ref b3)])
  refine w_astoreN W5 B d_cmp3_3 rfl (Ls' := #[.val (.ref a), .val (.int (0 : Int32)), .val (.int n.toInt32), .val (.ref b3), .unset, .unset]) rfl ?_
  refine w_aloadN W5 B d_cmp3_4 rfl rfl ?_
  refine w_iloadN W5 B d_cmp3_5 rfl ?_
  refine w_aloadN W5 B d_cmp3_6 rfl rfl ?_
  refine w_iconst W5 B d_cmp3_7 (v := (0 : Int32)) rfl ?_
  refine w_iloadN W5 B d_cmp3_8 rfl ?_
  refine w_static W5 B (y := ⟨"java/lang/StringUTF16", "compress", "([CI[BII)I"⟩) d_cmp3_9 (wd hw 56 rfl) (wd hw 57 rfl) (wd hw 53 rfl) (wd hw 58 rfl) (by decide) pd___CI_BII_I688 (argsL := [(.ref a), (.int (0 : Int32)), (.ref b3), (.int (0 : Int32)), (.int n.toInt32)]) rfl rfl rfl (Wt := 0) (Nat.le_of_eq rfl) (cmp5_met hw hcs hn (Own.ne_new Aa.lt g6) (List.Mem.head _) (Aa.ext X7) (A8.pad (pad_rep [] _ n)) (by simp)) (by decide) (by decide) (by decide) (by decide) ?_
  intro T9 h10 F11 v12 W13 Q14
  obtain ⟨i, vs, rfl, rfl, hin, hst, hlt, K5, A5, hvl, hvs⟩ := Q14
  show G E x T9 (fr x 12 #[.val (.ref a), .val (.int (0 : Int32)), .val (.int n.toInt32), .val (.ref b3), .unset, .unset] [(.int i.toInt32)])
  have hie : i = n := Nat.le_antisymm hin (Nat.not_lt.mp fun q => absurd (hst q) (Int.not_lt.mpr (lat_at hL (by omega))))
  refine w_istore W13 B d_cmp3_12 (Ls' := #[.val (.ref a), .val (.int (0 : Int32)), .val (.int n.toInt32), .val (.ref b3), .val (.int i.toInt32), .unset]) rfl ?_
  refine w_iload W13 B d_cmp3_14 rfl ?_
  refine w_iloadN W13 B d_cmp3_16 rfl ?_
  refine w_icmp_eq W13 B d_cmp3_17 (fun _ => ?_) (fun q => q (congrArg Nat.toInt32 hie) |>.elim)
  show G E x T9 (fr x 57 #[.val (.ref a), .val (.int (0 : Int32)), .val (.int n.toInt32), .val (.ref b3), .val (.int i.toInt32), .unset] [])
  refine w_aloadN W13 B d_cmp3_57 rfl rfl ?_
  have KK15 : Keep h h2 [] := (Keep.refl h []).ext X7
  have KK16 : Keep h h10 [] := KK15.trans K5 (allS (Or.inr (Nat.le_trans (Keep.refl h []).1 (Nat.le_of_eq g6.symm))) all0)
  have ev : vs = b8 cs := vs_b8 hvl hcs (fun j q => hvs j (by omega))
  exact w_areturn W13 B d_cmp3_58 rfl rfl hQ (by decide) (by decide) (fun _ q => (List.Mem.tail _ q)) ⟨b3, _, rfl, rfl, Nat.le_of_eq g6.symm, KK16, ev ▸ A5⟩
set_option maxRecDepth 65536 in
set_option maxHeartbeats 4000000 in
theorem ini4_met {E : Gl} (hw : Tb E) {h : Heap} {F : List Addr} {s a : Addr} {ka : ClassId} {n : Nat} {cs : List Int32} (hcs : cs.length = n) (h1 : 1 ≤ n) (hcap : n ≤ 32) (hC : Ch cs) (hL : Lat cs) (hs : s ∈ F) (Es : Exa E.Z h s "java/lang/String") (fv : Fld E.Z h s "java/lang/String" "value" "[B" .null) (fc : Fld E.Z h s "java/lang/String" "coder" "B" (.int 0)) (Aa : Arv E.Z h a ka .char n.toInt32 (ints cs) (.int 0)) :
    Met E (⟨"java/lang/String", "<init>", "([CIILjava/lang/Void;)V"⟩ : MethodName) jdk_42_method_149_code 6 none ({ frames := 2, cells := 1, slots := 32, locals := 35 } : Room) #[.ref s, .ref a, .int 0, .int n.toInt32, .null] h F (QStr E cs s h F) := by
  refine met_of (by decide +kernel) fun x T hQ B W => ?_
  refine G.cast (g' := fr x 0 #[.val (.ref s), .val (.ref a), .val (.int (0 : Int32)), .val (.int n.toInt32), .val .null, .unset] []) (by simp [entryFrame, mkF, argsToLocals, Own.cat_r, Own.cat_i, Own.cat_j, Own.cat_n]) ?_
  have hn : n < 2 ^ 31 := by omega
  obtain ⟨z, Sc, hz⟩ := compact hw
  refine w_aloadN W B d_ini4_0 rfl rfl ?_
  refine w_initO W B d_ini4_1 (wd hw 49 rfl) (wd hw 15 rfl) (wd hw 16 rfl) rfl (by decide) (Wt := 0) (Nat.le_of_eq rfl) (by decide) ?_
  intro T1 W2
  refine w_iloadN W2 B d_ini4_4 rfl ?_
  refine w_if_ne W2 B d_ini4_5 (fun _ => ?_) (fun q => absurd q (fun q => absurd ((n_eq (i := n) (n := 0) hn (by decide)).mp q) (by omega)))
  show G E x T1 (fr x 27 #[.val (.ref s), .val (.ref a), .val (.int (0 : Int32)), .val (.int n.toInt32), .val .null, .unset] [])
  refine w_getS W2 B d_ini4_27 (wd hw 50 rfl) Via.refl Sc ?_
  intro T3 W4
  refine w_if_eq W4 B d_ini4_30 (fun q => absurd q hz) (fun _ => ?_)
  show G E x T3 (fr x 33 #[.val (.ref s), .val (.ref a), .val (.int (0 : Int32)), .val (.int n.toInt32), .val .null, .unset] [])
  refine w_aloadN W4 B d_ini4_33 rfl rfl ?_
  refine w_iloadN W4 B d_ini4_34 rfl ?_
  refine w_iloadN W4 B d_ini4_35 rfl ?_
  refine w_static W4 B (y := ⟨"java/lang/StringUTF16", "compress", "([CII)[B"⟩) d_ini4_36 (wd hw 51 rfl) (wd hw 52 rfl) (wd hw 53 rfl) (wd hw 54 rfl) (by decide) pd___CII__B542 (argsL := [(.ref a), (.int (0 : Int32)), (.int n.toInt32)]) rfl rfl rfl (Wt := 0) (Nat.le_of_eq rfl) (cmp3_met hw hcs hcap hL Aa) (by decide) (by decide) (by decide) (by decide) ?_
  intro T5 h6 F7 v8 W9 Q10
  obtain ⟨v, kv, rfl, rfl, gv, K3, A3⟩ := Q10
  show G E x T5 (fr x 39 #[.val (.ref s), .val (.ref a), .val (.int (0 : Int32)), .val (.int n.toInt32), .val .null, .unset] [(.ref v)])
  refine w_astore W9 B d_ini4_39 rfl (Ls' := #[.val (.ref s), .val (.ref a), .val (.int (0 : Int32)), .val (.int n.toInt32), .val .null, .val (.ref v)]) rfl ?_
  refine w_aloadN W9 B d_ini4_41 rfl rfl ?_
  refine w_aload W9 B d_ini4_42 rfl rfl ?_
  refine w_iloadN W9 B d_ini4_44 rfl ?_
  refine w_static W9 B (y := ⟨"java/lang/StringUTF16", "coderFromArrayLen", "([BI)B"⟩) d_ini4_45 (wd hw 59 rfl) (wd hw 60 rfl) (wd hw 53 rfl) (wd hw 61 rfl) (by decide) pd___BI_B377 (argsL := [(.ref v), (.int n.toInt32)]) rfl rfl rfl (Wt := 1) (Nat.le_of_eq rfl) (cod_met hw A3) (by decide) (by decide) (by decide) (by decide) ?_
  intro T11 h12 F13 v14 W15 Q16
  obtain ⟨rfl, rfl, rfl⟩ := Q16
  have ez : lo8 (lo8 (XT.ushr (n.toInt32 - n.toInt32) 31)) = 0 := by rw [Int32.sub_self]; decide
  show G E x T11 (fr x 48 #[.val (.ref s), .val (.ref a), .val (.int (0 : Int32)), .val (.int n.toInt32), .val .null, .val (.ref v)] [(.int (lo8 (lo8 (XT.ushr (n.toInt32 - n.toInt32) 31)))), (.ref s)])
  refine w_putF W15 B d_ini4_48 hs (wd hw 62 rfl) Via.refl (fc.keep K3 nin0) (Es.keep K3) (Or.inr ⟨(wd hw 63 rfl), rfl, rfl⟩) (wd hw 40 rfl) (ty := .byte) (v' := (.int (0 : Int32))) (by decide) (by rw [ez]; rfl) rfl ?_
  intro T17 h18 W19 Y20 f21
  refine w_aloadN W19 B d_ini4_51 rfl rfl ?_
  refine w_aload W19 B d_ini4_52 rfl rfl ?_
  refine w_putF W19 B d_ini4_54 hs (wd hw 64 rfl) Via.refl ((fv.keep K3 nin0).other Y20 (Or.inr (slot_ne (Or.inr (wd hw 65 rfl)) (Or.inr (wd hw 63 rfl)) (t := (.array .byte)) (t' := .byte) (by decide) (by decide) (by decide)))) ((Es.keep K3).wr Y20) (Or.inr ⟨(wd hw 65 rfl), rfl, rfl⟩) (wd hw 40 rfl) (ty := (.array .byte)) (v' := (.ref v)) (by decide) rfl rfl ?_
  intro T22 h23 W24 Y25 f26
  have KK27 : Keep h h6 [s] := (Keep.refl h [s]).trans K3 all0
  have KK28 : Keep h h18 [s] := KK27.wr Y20 (Or.inl (List.Mem.head _))
  have KK29 : Keep h h23 [s] := KK28.wr Y25 (Or.inl (List.Mem.head _))
  exact w_return W24 B d_ini4_57 hQ (by decide) (by decide) (fun _ q => q) ⟨rfl, rfl, KK29, v, ⟨kv, (((Es.keep K3).wr Y20).wr Y25), f26, hC, Or.inl ⟨hL, (f21.other Y25 (Or.inr (slot_ne (Or.inr (wd hw 63 rfl)) (Or.inr (wd hw 65 rfl)) (t := .byte) (t' := (.array .byte)) (by decide) (by decide) (by decide)))), hcs ▸ ((A3.other Y20 (Ne.symm (Nat.ne_of_lt (Nat.lt_of_lt_of_le Es.lt gv)))).other Y25 (Ne.symm (Nat.ne_of_lt (Nat.lt_of_lt_of_le Es.lt gv))))⟩⟩, fun y hy => Nat.ne_of_lt (Nat.lt_of_lt_of_le (W.fOk hy).2 gv)⟩
set_option maxRecDepth 65536 in
set_option maxHeartbeats 4000000 in
theorem ini1_met {E : Gl} (hw : Tb E) {h : Heap} {F : List Addr} {s a : Addr} {ka : ClassId} {n : Nat} {cs : List Int32} (hcs : cs.length = n) (h1 : 1 ≤ n) (hcap : n ≤ 32) (hC : Ch cs) (hL : Lat cs) (hs : s ∈ F) (Es : Exa E.Z h s "java/lang/String") (fv : Fld E.Z h s "java/lang/String" "value" "[B" .null) (fc : Fld E.Z h s "java/lang/String" "coder" "B" (.int 0)) (Aa : Arv E.Z h a ka .char n.toInt32 (ints cs) (.int 0)) :
    Met E (⟨"java/lang/String", "<init>", "([C)V"⟩ : MethodName) jdk_42_method_3_code 2 none ({ frames := 3, cells := 1, slots := 32, locals := 52 } : Room) #[.ref s, .ref a] h F (QStr E cs s h F) := by
  refine met_of (by decide +kernel) fun x T hQ B W => ?_
  refine G.cast (g' := fr x 0 #[.val (.ref s), .val (.ref a)] []) (by simp [entryFrame, mkF, argsToLocals, Own.cat_r, Own.cat_i, Own.cat_j, Own.cat_n]) ?_
  refine w_aloadN W B d_ini1_0 rfl rfl ?_
  refine w_aloadN W B d_ini1_1 rfl rfl ?_
  refine w_iconst W B d_ini1_2 (v := (0 : Int32)) rfl ?_
  refine w_aloadN W B d_ini1_3 rfl rfl ?_
  refine w_arraylength W B d_ini1_4 Aa ?_
  refine w_null W B d_ini1_5 ?_
  refine w_special W B (y := ⟨"java/lang/String", "<init>", "([CIILjava/lang/Void;)V"⟩) d_ini1_6 rfl (wd hw 45 rfl) (wd hw 46 rfl) (wd hw 41 rfl) (wd hw 48 rfl) (by decide) pd___CIILjava_lang_Void__V941 (argsL := [(.ref a), (.int (0 : Int32)), (.int n.toInt32), .null]) rfl rfl rfl (Wt := 0) (Nat.le_of_eq rfl) (ini4_met hw hcs h1 hcap hC hL hs Es fv fc Aa) (by decide) (by decide) (by decide) (by decide) ?_
  intro T1 h2 F3 v4 W5 Q6
  obtain ⟨rfl, rfl, K4, v, S4, hv⟩ := Q6
  show G E x T1 (fr x 9 #[.val (.ref s), .val (.ref a)] [])
  exact w_return W5 B d_ini1_9 hQ (by decide) (by decide) (fun _ q => q) ⟨rfl, rfl, K4, v, S4, hv⟩
set_option maxRecDepth 65536 in
set_option maxHeartbeats 4000000 in
theorem ini4e_met {E : Gl} (hw : Tb E) {h : Heap} {F : List Addr} {s a : Addr} (hs : s ∈ F) (Es : Exa E.Z h s "java/lang/String") (fv : Fld E.Z h s "java/lang/String" "value" "[B" .null) (fc : Fld E.Z h s "java/lang/String" "coder" "B" (.int 0)) :
    Met E (⟨"java/lang/String", "<init>", "([CIILjava/lang/Void;)V"⟩ : MethodName) jdk_42_method_149_code 6 none ({ frames := 1, cells := 4, slots := 8, locals := 12 } : Room) #[.ref s, .ref a, .int 0, .int 0, .null] h F (QStr E [] s h F) := by
  refine met_of (by decide +kernel) fun x T hQ B W => ?_
  refine G.cast (g' := fr x 0 #[.val (.ref s), .val (.ref a), .val (.int (0 : Int32)), .val (.int (0 : Int32)), .val .null, .unset] []) (by simp [entryFrame, mkF, argsToLocals, Own.cat_r, Own.cat_i, Own.cat_j, Own.cat_n]) ?_
  refine w_aloadN W B d_ini4_0 rfl rfl ?_
  refine w_initO W B d_ini4_1 (wd hw 49 rfl) (wd hw 15 rfl) (wd hw 16 rfl) rfl (by decide) (Wt := 0) (Nat.le_of_eq rfl) (by decide) ?_
  intro T1 W2
  refine w_iloadN W2 B d_ini4_4 rfl ?_
  refine w_if_ne W2 B d_ini4_5 (fun q => q rfl |>.elim) (fun _ => ?_)
  show G E x T1 (fr x 8 #[.val (.ref s), .val (.ref a), .val (.int (0 : Int32)), .val (.int (0 : Int32)), .val .null, .unset] [])
  refine w_aloadN W2 B d_ini4_8 rfl rfl ?_
  refine w_ldcS W2 B (n := 0) (text := "") (vs := []) (z := 0) d_ini4_9 hw.2.2.1 (by rw [hw.2.2.2]; decide) (wd hw 79 rfl) (strAtoms hw) ⟨by decide, by decide⟩ (by decide) (by decide) (by decide) (by decide) (by decide) (by decide) ?_
  intro T3 h4 c5 v6 k7 W8 X9 E10 f11 f12 A13 n14
  show G E x T3 (fr x 11 #[.val (.ref s), .val (.ref a), .val (.int (0 : Int32)), .val (.int (0 : Int32)), .val .null, .unset] [(.ref c5), (.ref s)])
  refine w_getF W8 B d_ini4_11 (wd hw 64 rfl) Via.refl f12 ?_
  intro T15 W16
  refine w_putF W16 B d_ini4_14 hs (wd hw 64 rfl) Via.refl (fv.ext X9) (Es.ext X9) (Or.inr ⟨(wd hw 65 rfl), rfl, rfl⟩) (wd hw 40 rfl) (ty := (.array .byte)) (v' := (.ref v6)) (by decide) rfl rfl ?_
  intro T17 h18 W19 Y20 f21
  refine w_aloadN W19 B d_ini4_17 rfl rfl ?_
  refine w_ldcS W19 B (n := 0) (text := "") (vs := []) (z := 0) d_ini4_18 hw.2.2.1 (by rw [hw.2.2.2]; decide) (wd hw 79 rfl) (strAtoms hw) ⟨by decide, by decide⟩ (by decide) (by decide) (by decide) (by decide) (by decide) (by decide) ?_
  intro T22 h23 c24 v25 k26 W27 X28 E29 f30 f31 A32 n33
  show G E x T22 (fr x 20 #[.val (.ref s), .val (.ref a), .val (.int (0 : Int32)), .val (.int (0 : Int32)), .val .null, .unset] [(.ref c24), (.ref s)])
  refine w_getF W27 B d_ini4_20 (wd hw 62 rfl) Via.refl f30 ?_
  intro T34 W35
  refine w_putF W35 B d_ini4_23 hs (wd hw 62 rfl) Via.refl (((fc.ext X9).other Y20 (Or.inr (slot_ne (Or.inr (wd hw 63 rfl)) (Or.inr (wd hw 65 rfl)) (t := .byte) (t' := (.array .byte)) (by decide) (by decide) (by decide)))).ext X28) (((Es.ext X9).wr Y20).ext X28) (Or.inr ⟨(wd hw 63 rfl), rfl, rfl⟩) (wd hw 40 rfl) (ty := .byte) (v' := (.int (0 : Int32))) (by decide) rfl rfl ?_
  intro T36 h37 W38 Y39 f40
  have KK41 : Keep h h4 [s] := (Keep.refl h [s]).ext X9
  have KK42 : Keep h h18 [s] := KK41.wr Y20 (Or.inl (List.Mem.head _))
  have KK43 : Keep h h23 [s] := KK42.ext X28
  have KK44 : Keep h h37 [s] := KK43.wr Y39 (Or.inl (List.Mem.head _))
  exact w_return W38 B d_ini4_26 hQ (by decide) (by decide) (fun _ q => q) ⟨rfl, rfl, KK44, v6, ⟨_, ((((Es.ext X9).wr Y20).ext X28).wr Y39), ((f21.ext X28).other Y39 (Or.inr (slot_ne (Or.inr (wd hw 65 rfl)) (Or.inr (wd hw 63 rfl)) (t := (.array .byte)) (t' := .byte) (by decide) (by decide) (by decide)))), (fun _ q => nomatch q), Or.inl ⟨(fun _ q => nomatch q), f40, (((A13.other Y20 (Ne.symm (n14 _ hs).2)).ext X28).other Y39 (Ne.symm (n14 _ hs).2))⟩⟩, fun y hy => (n14 y hy).2⟩
set_option maxRecDepth 65536 in
set_option maxHeartbeats 4000000 in
theorem ini1e_met {E : Gl} (hw : Tb E) {h : Heap} {F : List Addr} {s a : Addr} {ka : ClassId} {vs : List Value} {dv : Value} (hs : s ∈ F) (Es : Exa E.Z h s "java/lang/String") (fv : Fld E.Z h s "java/lang/String" "value" "[B" .null) (fc : Fld E.Z h s "java/lang/String" "coder" "B" (.int 0)) (Aa : Arv E.Z h a ka .char (0 : Int32) vs dv) :
    Met E (⟨"java/lang/String", "<init>", "([C)V"⟩ : MethodName) jdk_42_method_3_code 2 none ({ frames := 2, cells := 4, slots := 8, locals := 29 } : Room) #[.ref s, .ref a] h F (QStr E [] s h F) := by
  refine met_of (by decide +kernel) fun x T hQ B W => ?_
  refine G.cast (g' := fr x 0 #[.val (.ref s), .val (.ref a)] []) (by simp [entryFrame, mkF, argsToLocals, Own.cat_r, Own.cat_i, Own.cat_j, Own.cat_n]) ?_
  refine w_aloadN W B d_ini1_0 rfl rfl ?_
  refine w_aloadN W B d_ini1_1 rfl rfl ?_
  refine w_iconst W B d_ini1_2 (v := (0 : Int32)) rfl ?_
  refine w_aloadN W B d_ini1_3 rfl rfl ?_
  refine w_arraylength W B d_ini1_4 Aa ?_
  refine w_null W B d_ini1_5 ?_
  refine w_special W B (y := ⟨"java/lang/String", "<init>", "([CIILjava/lang/Void;)V"⟩) d_ini1_6 rfl (wd hw 45 rfl) (wd hw 46 rfl) (wd hw 41 rfl) (wd hw 48 rfl) (by decide) pd___CIILjava_lang_Void__V941 (argsL := [(.ref a), (.int (0 : Int32)), (.int (0 : Int32)), .null]) rfl rfl rfl (Wt := 0) (Nat.le_of_eq rfl) (ini4e_met hw hs Es fv fc) (by decide) (by decide) (by decide) (by decide) ?_
  intro T1 h2 F3 v4 W5 Q6
  obtain ⟨rfl, rfl, K4, v, S4, hv⟩ := Q6
  show G E x T1 (fr x 9 #[.val (.ref s), .val (.ref a)] [])
  exact w_return W5 B d_ini1_9 hQ (by decide) (by decide) (fun _ q => q) ⟨rfl, rfl, K4, v, S4, hv⟩
set_option maxRecDepth 65536 in
set_option maxHeartbeats 4000000 in
theorem rec_met {E : Gl} (hw : Tb E) {h : Heap} {F : List Addr} {s : Addr} :
    Met E (⟨"java/lang/Record", "<init>", "()V"⟩ : MethodName) jdk_30_method_1_code 1 none ({ frames := 1, cells := 0, slots := 0, locals := 12 } : Room) #[.ref s] h F (fun r h' F' => r = none ∧ h = h' ∧ F = F') := by
  refine met_of (by decide +kernel) fun x T hQ B W => ?_
  refine G.cast (g' := fr x 0 #[.val (.ref s)] []) (by simp [entryFrame, mkF, argsToLocals, Own.cat_r, Own.cat_i, Own.cat_j, Own.cat_n]) ?_
  refine w_aloadN W B d_rec_0 rfl rfl ?_
  refine w_initO W B d_rec_1 (wd hw 14 rfl) (wd hw 15 rfl) (wd hw 16 rfl) rfl (by decide) (Wt := 0) (Nat.le_of_eq rfl) (by decide) ?_
  intro T1 W2
  exact w_return W2 B d_rec_4 hQ (by decide) (by decide) (fun _ q => q) ⟨rfl, rfl, rfl⟩
set_option maxRecDepth 65536 in
set_option maxHeartbeats 4000000 in
theorem pu_met {E : Gl} (hw : Tb E) {h : Heap} {F : List Addr} {s : Addr} {u1 u2 u3 u4 u5 : Value} (r1 : u1.isRef = true) (r2 : u2.isRef = true) (r3 : u3.isRef = true) (r4 : u4.isRef = true) (r5 : u5.isRef = true) (hs : s ∈ F) (Es : Exa E.Z h s "com/example/keryx/keryx/audit/ProcessUse") (f_process : Fld E.Z h s "com/example/keryx/keryx/audit/ProcessUse" "process" "Lcom/example/keryx/keryx/audit/AuditedProcess;" .null) (f_certificate : Fld E.Z h s "com/example/keryx/keryx/audit/ProcessUse" "certificate" "Lcom/example/keryx/keryx/audit/CertificateIdentity;" .null) (f_caller : Fld E.Z h s "com/example/keryx/keryx/audit/ProcessUse" "caller" "Ljava/lang/String;" .null) (f_target : Fld E.Z h s "com/example/keryx/keryx/audit/ProcessUse" "target" "Ljava/lang/String;" .null) (f_reason : Fld E.Z h s "com/example/keryx/keryx/audit/ProcessUse" "reason" "Ljava/lang/String;" .null) :
    Met E (⟨"com/example/keryx/keryx/audit/ProcessUse", "<init>", "(Lcom/example/keryx/keryx/audit/AuditedProcess;Lcom/example/keryx/keryx/audit/CertificateIdentity;Ljava/lang/String;Ljava/lang/String;Ljava/lang/String;)V"⟩ : MethodName) prog_3_method_1_code 6 none ({ frames := 2, cells := 0, slots := 0, locals := 24 } : Room) #[.ref s, u1, u2, u3, u4, u5] h F (fun r h' F' => r = none ∧ F = F' ∧ Keep h h' [s] ∧ Exa E.Z h' s "com/example/keryx/keryx/audit/ProcessUse" ∧ Fld E.Z h' s "com/example/keryx/keryx/audit/ProcessUse" "process" "Lcom/example/keryx/keryx/audit/AuditedProcess;" u1 ∧ Fld E.Z h' s "com/example/keryx/keryx/audit/ProcessUse" "certificate" "Lcom/example/keryx/keryx/audit/CertificateIdentity;" u2 ∧ Fld E.Z h' s "com/example/keryx/keryx/audit/ProcessUse" "caller" "Ljava/lang/String;" u3 ∧ Fld E.Z h' s "com/example/keryx/keryx/audit/ProcessUse" "target" "Ljava/lang/String;" u4 ∧ Fld E.Z h' s "com/example/keryx/keryx/audit/ProcessUse" "reason" "Ljava/lang/String;" u5) := by
  refine met_of (by decide +kernel) fun x T hQ B W => ?_
  refine G.cast (g' := fr x 0 #[.val (.ref s), .val u1, .val u2, .val u3, .val u4, .val u5] []) (by simp [entryFrame, mkF, argsToLocals, Own.cat_r, Own.cat_i, Own.cat_j, Own.cat_n, cat_ref r1, cat_ref r2, cat_ref r3, cat_ref r4, cat_ref r5]) ?_
  refine w_aloadN W B d_pu_0 rfl rfl ?_
  refine w_special W B (y := ⟨"java/lang/Record", "<init>", "()V"⟩) d_pu_1 rfl (wd hw 9 rfl) (wd hw 10 rfl) (wd hw 12 rfl) (wd hw 13 rfl) (by decide) pd___V167 (argsL := []) rfl rfl rfl (Wt := 0) (Nat.le_of_eq rfl) (rec_met hw) (by decide) (by decide) (by decide) (by decide) ?_
  intro T1 h2 F3 v4 W5 Q6
  obtain ⟨rfl, rfl, rfl⟩ := Q6
  show G E x T1 (fr x 4 #[.val (.ref s), .val u1, .val u2, .val u3, .val u4, .val u5] [])
  refine w_aloadN W5 B d_pu_4 rfl rfl ?_
  refine w_aloadN W5 B d_pu_5 rfl r1 ?_
  refine w_putF W5 B d_pu_6 hs (wd hw 17 rfl) Via.refl f_process Es (Or.inr ⟨(wd hw 18 rfl), rfl, rfl⟩) (wd hw 4 rfl) (ty := (.object "com/example/keryx/keryx/audit/AuditedProcess")) (v' := u1) (by decide) (Own.nar_ref r1) (Own.fits_obj r1) ?_
  intro T7 h8 W9 Y10 f11
  refine w_aloadN W9 B d_pu_9 rfl rfl ?_
  refine w_aloadN W9 B d_pu_10 rfl r2 ?_
  refine w_putF W9 B d_pu_11 hs (wd hw 19 rfl) Via.refl (f_certificate.other Y10 (Or.inr (slot_ne (Or.inr (wd hw 20 rfl)) (Or.inr (wd hw 18 rfl)) (t := (.object "com/example/keryx/keryx/audit/CertificateIdentity")) (t' := (.object "com/example/keryx/keryx/audit/AuditedProcess")) (by decide) (by decide) (by decide)))) (Es.wr Y10) (Or.inr ⟨(wd hw 20 rfl), rfl, rfl⟩) (wd hw 4 rfl) (ty := (.object "com/example/keryx/keryx/audit/CertificateIdentity")) (v' := u2) (by decide) (Own.nar_ref r2) (Own.fits_obj r2) ?_
  intro T12 h13 W14 Y15 f16
  refine w_aloadN W14 B d_pu_14 rfl rfl ?_
  refine w_aloadN W14 B d_pu_15 rfl r3 ?_
  refine w_putF W14 B d_pu_16 hs (wd hw 21 rfl) Via.refl ((f_caller.other Y10 (Or.inr (slot_ne (Or.inr (wd hw 22 rfl)) (Or.inr (wd hw 18 rfl)) (t := (.object "java/lang/String")) (t' := (.object "com/example/keryx/keryx/audit/AuditedProcess")) (by decide) (by decide) (by decide)))).other Y15 (Or.inr (slot_ne (Or.inr (wd hw 22 rfl)) (Or.inr (wd hw 20 rfl)) (t := (.object "java/lang/String")) (t' := (.object "com/example/keryx/keryx/audit/CertificateIdentity")) (by decide) (by decide) (by decide)))) ((Es.wr Y10).wr Y15) (Or.inr ⟨(wd hw 22 rfl), rfl, rfl⟩) (wd hw 4 rfl) (ty := (.object "java/lang/String")) (v' := u3) (by decide) (Own.nar_ref r3) (Own.fits_obj r3) ?_
  intro T17 h18 W19 Y20 f21
  refine w_aloadN W19 B d_pu_19 rfl rfl ?_
  refine w_aload W19 B d_pu_20 rfl r4 ?_
  refine w_putF W19 B d_pu_22 hs (wd hw 23 rfl) Via.refl (((f_target.other Y10 (Or.inr (slot_ne (Or.inr (wd hw 24 rfl)) (Or.inr (wd hw 18 rfl)) (t := (.object "java/lang/String")) (t' := (.object "com/example/keryx/keryx/audit/AuditedProcess")) (by decide) (by decide) (by decide)))).other Y15 (Or.inr (slot_ne (Or.inr (wd hw 24 rfl)) (Or.inr (wd hw 20 rfl)) (t := (.object "java/lang/String")) (t' := (.object "com/example/keryx/keryx/audit/CertificateIdentity")) (by decide) (by decide) (by decide)))).other Y20 (Or.inr (slot_ne (Or.inr (wd hw 24 rfl)) (Or.inr (wd hw 22 rfl)) (t := (.object "java/lang/String")) (t' := (.object "java/lang/String")) (by decide) (by decide) (by decide)))) (((Es.wr Y10).wr Y15).wr Y20) (Or.inr ⟨(wd hw 24 rfl), rfl, rfl⟩) (wd hw 4 rfl) (ty := (.object "java/lang/String")) (v' := u4) (by decide) (Own.nar_ref r4) (Own.fits_obj r4) ?_
  intro T22 h23 W24 Y25 f26
  refine w_aloadN W24 B d_pu_25 rfl rfl ?_
  refine w_aload W24 B d_pu_26 rfl r5 ?_
  refine w_putF W24 B d_pu_28 hs (wd hw 25 rfl) Via.refl ((((f_reason.other Y10 (Or.inr (slot_ne (Or.inr (wd hw 26 rfl)) (Or.inr (wd hw 18 rfl)) (t := (.object "java/lang/String")) (t' := (.object "com/example/keryx/keryx/audit/AuditedProcess")) (by decide) (by decide) (by decide)))).other Y15 (Or.inr (slot_ne (Or.inr (wd hw 26 rfl)) (Or.inr (wd hw 20 rfl)) (t := (.object "java/lang/String")) (t' := (.object "com/example/keryx/keryx/audit/CertificateIdentity")) (by decide) (by decide) (by decide)))).other Y20 (Or.inr (slot_ne (Or.inr (wd hw 26 rfl)) (Or.inr (wd hw 22 rfl)) (t := (.object "java/lang/String")) (t' := (.object "java/lang/String")) (by decide) (by decide) (by decide)))).other Y25 (Or.inr (slot_ne (Or.inr (wd hw 26 rfl)) (Or.inr (wd hw 24 rfl)) (t := (.object "java/lang/String")) (t' := (.object "java/lang/String")) (by decide) (by decide) (by decide)))) ((((Es.wr Y10).wr Y15).wr Y20).wr Y25) (Or.inr ⟨(wd hw 26 rfl), rfl, rfl⟩) (wd hw 4 rfl) (ty := (.object "java/lang/String")) (v' := u5) (by decide) (Own.nar_ref r5) (Own.fits_obj r5) ?_
  intro T27 h28 W29 Y30 f31
  have KK32 : Keep h h8 [s] := (Keep.refl h [s]).wr Y10 (Or.inl (List.Mem.head _))
  have KK33 : Keep h h13 [s] := KK32.wr Y15 (Or.inl (List.Mem.head _))
  have KK34 : Keep h h18 [s] := KK33.wr Y20 (Or.inl (List.Mem.head _))
  have KK35 : Keep h h23 [s] := KK34.wr Y25 (Or.inl (List.Mem.head _))
  have KK36 : Keep h h28 [s] := KK35.wr Y30 (Or.inl (List.Mem.head _))
  exact w_return W29 B d_pu_31 hQ (by decide) (by decide) (fun _ q => q) ⟨rfl, rfl, KK36, (((((Es.wr Y10).wr Y15).wr Y20).wr Y25).wr Y30), ((((f11.other Y15 (Or.inr (slot_ne (Or.inr (wd hw 18 rfl)) (Or.inr (wd hw 20 rfl)) (t := (.object "com/example/keryx/keryx/audit/AuditedProcess")) (t' := (.object "com/example/keryx/keryx/audit/CertificateIdentity")) (by decide) (by decide) (by decide)))).other Y20 (Or.inr (slot_ne (Or.inr (wd hw 18 rfl)) (Or.inr (wd hw 22 rfl)) (t := (.object "com/example/keryx/keryx/audit/AuditedProcess")) (t' := (.object "java/lang/String")) (by decide) (by decide) (by decide)))).other Y25 (Or.inr (slot_ne (Or.inr (wd hw 18 rfl)) (Or.inr (wd hw 24 rfl)) (t := (.object "com/example/keryx/keryx/audit/AuditedProcess")) (t' := (.object "java/lang/String")) (by decide) (by decide) (by decide)))).other Y30 (Or.inr (slot_ne (Or.inr (wd hw 18 rfl)) (Or.inr (wd hw 26 rfl)) (t := (.object "com/example/keryx/keryx/audit/AuditedProcess")) (t' := (.object "java/lang/String")) (by decide) (by decide) (by decide)))), (((f16.other Y20 (Or.inr (slot_ne (Or.inr (wd hw 20 rfl)) (Or.inr (wd hw 22 rfl)) (t := (.object "com/example/keryx/keryx/audit/CertificateIdentity")) (t' := (.object "java/lang/String")) (by decide) (by decide) (by decide)))).other Y25 (Or.inr (slot_ne (Or.inr (wd hw 20 rfl)) (Or.inr (wd hw 24 rfl)) (t := (.object "com/example/keryx/keryx/audit/CertificateIdentity")) (t' := (.object "java/lang/String")) (by decide) (by decide) (by decide)))).other Y30 (Or.inr (slot_ne (Or.inr (wd hw 20 rfl)) (Or.inr (wd hw 26 rfl)) (t := (.object "com/example/keryx/keryx/audit/CertificateIdentity")) (t' := (.object "java/lang/String")) (by decide) (by decide) (by decide)))), ((f21.other Y25 (Or.inr (slot_ne (Or.inr (wd hw 22 rfl)) (Or.inr (wd hw 24 rfl)) (t := (.object "java/lang/String")) (t' := (.object "java/lang/String")) (by decide) (by decide) (by decide)))).other Y30 (Or.inr (slot_ne (Or.inr (wd hw 22 rfl)) (Or.inr (wd hw 26 rfl)) (t := (.object "java/lang/String")) (t' := (.object "java/lang/String")) (by decide) (by decide) (by decide)))), (f26.other Y30 (Or.inr (slot_ne (Or.inr (wd hw 24 rfl)) (Or.inr (wd hw 26 rfl)) (t := (.object "java/lang/String")) (t' := (.object "java/lang/String")) (by decide) (by decide) (by decide)))), f31⟩
set_option maxRecDepth 65536 in
set_option maxHeartbeats 4000000 in
theorem ci_met {E : Gl} (hw : Tb E) {h : Heap} {F : List Addr} {s : Addr} {u1 u2 u3 : Value} (r1 : u1.isRef = true) (r2 : u2.isRef = true) (r3 : u3.isRef = true) (hs : s ∈ F) (Es : Exa E.Z h s "com/example/keryx/keryx/audit/CertificateIdentity") (f_serial : Fld E.Z h s "com/example/keryx/keryx/audit/CertificateIdentity" "serial" "Ljava/lang/String;" .null) (f_issuer : Fld E.Z h s "com/example/keryx/keryx/audit/CertificateIdentity" "issuer" "Ljava/lang/String;" .null) (f_subject : Fld E.Z h s "com/example/keryx/keryx/audit/CertificateIdentity" "subject" "Ljava/lang/String;" .null) :
    Met E (⟨"com/example/keryx/keryx/audit/CertificateIdentity", "<init>", "(Ljava/lang/String;Ljava/lang/String;Ljava/lang/String;)V"⟩ : MethodName) prog_2_method_1_code 4 none ({ frames := 2, cells := 0, slots := 0, locals := 24 } : Room) #[.ref s, u1, u2, u3] h F (fun r h' F' => r = none ∧ F = F' ∧ Keep h h' [s] ∧ Exa E.Z h' s "com/example/keryx/keryx/audit/CertificateIdentity" ∧ Fld E.Z h' s "com/example/keryx/keryx/audit/CertificateIdentity" "serial" "Ljava/lang/String;" u1 ∧ Fld E.Z h' s "com/example/keryx/keryx/audit/CertificateIdentity" "issuer" "Ljava/lang/String;" u2 ∧ Fld E.Z h' s "com/example/keryx/keryx/audit/CertificateIdentity" "subject" "Ljava/lang/String;" u3) := by
  refine met_of (by decide +kernel) fun x T hQ B W => ?_
  refine G.cast (g' := fr x 0 #[.val (.ref s), .val u1, .val u2, .val u3] []) (by simp [entryFrame, mkF, argsToLocals, Own.cat_r, Own.cat_i, Own.cat_j, Own.cat_n, cat_ref r1, cat_ref r2, cat_ref r3]) ?_
  refine w_aloadN W B d_ci_0 rfl rfl ?_
  refine w_special W B (y := ⟨"java/lang/Record", "<init>", "()V"⟩) d_ci_1 rfl (wd hw 72 rfl) (wd hw 10 rfl) (wd hw 12 rfl) (wd hw 13 rfl) (by decide) pd___V167 (argsL := []) rfl rfl rfl (Wt := 0) (Nat.le_of_eq rfl) (rec_met hw) (by decide) (by decide) (by decide) (by decide) ?_
  intro T1 h2 F3 v4 W5 Q6
  obtain ⟨rfl, rfl, rfl⟩ := Q6
  show G E x T1 (fr x 4 #[.val (.ref s), .val u1, .val u2, .val u3] [])
  refine w_aloadN W5 B d_ci_4 rfl rfl ?_
  refine w_aloadN W5 B d_ci_5 rfl r1 ?_
  refine w_putF W5 B d_ci_6 hs (wd hw 73 rfl) Via.refl f_serial Es (Or.inr ⟨(wd hw 74 rfl), rfl, rfl⟩) (wd hw 67 rfl) (ty := (.object "java/lang/String")) (v' := u1) (by decide) (Own.nar_ref r1) (Own.fits_obj r1) ?_
  intro T7 h8 W9 Y10 f11
  refine w_aloadN W9 B d_ci_9 rfl rfl ?_
  refine w_aloadN W9 B d_ci_10 rfl r2 ?_
  refine w_putF W9 B d_ci_11 hs (wd hw 75 rfl) Via.refl (f_issuer.other Y10 (Or.inr (slot_ne (Or.inr (wd hw 76 rfl)) (Or.inr (wd hw 74 rfl)) (t := (.object "java/lang/String")) (t' := (.object "java/lang/String")) (by decide) (by decide) (by decide)))) (Es.wr Y10) (Or.inr ⟨(wd hw 76 rfl), rfl, rfl⟩) (wd hw 67 rfl) (ty := (.object "java/lang/String")) (v' := u2) (by decide) (Own.nar_ref r2) (Own.fits_obj r2) ?_
  intro T12 h13 W14 Y15 f16
  refine w_aloadN W14 B d_ci_14 rfl rfl ?_
  refine w_aloadN W14 B d_ci_15 rfl r3 ?_
  refine w_putF W14 B d_ci_16 hs (wd hw 77 rfl) Via.refl ((f_subject.other Y10 (Or.inr (slot_ne (Or.inr (wd hw 78 rfl)) (Or.inr (wd hw 74 rfl)) (t := (.object "java/lang/String")) (t' := (.object "java/lang/String")) (by decide) (by decide) (by decide)))).other Y15 (Or.inr (slot_ne (Or.inr (wd hw 78 rfl)) (Or.inr (wd hw 76 rfl)) (t := (.object "java/lang/String")) (t' := (.object "java/lang/String")) (by decide) (by decide) (by decide)))) ((Es.wr Y10).wr Y15) (Or.inr ⟨(wd hw 78 rfl), rfl, rfl⟩) (wd hw 67 rfl) (ty := (.object "java/lang/String")) (v' := u3) (by decide) (Own.nar_ref r3) (Own.fits_obj r3) ?_
  intro T17 h18 W19 Y20 f21
  have KK22 : Keep h h8 [s] := (Keep.refl h [s]).wr Y10 (Or.inl (List.Mem.head _))
  have KK23 : Keep h h13 [s] := KK22.wr Y15 (Or.inl (List.Mem.head _))
  have KK24 : Keep h h18 [s] := KK23.wr Y20 (Or.inl (List.Mem.head _))
  exact w_return W19 B d_ci_19 hQ (by decide) (by decide) (fun _ q => q) ⟨rfl, rfl, KK24, (((Es.wr Y10).wr Y15).wr Y20), ((f11.other Y15 (Or.inr (slot_ne (Or.inr (wd hw 74 rfl)) (Or.inr (wd hw 76 rfl)) (t := (.object "java/lang/String")) (t' := (.object "java/lang/String")) (by decide) (by decide) (by decide)))).other Y20 (Or.inr (slot_ne (Or.inr (wd hw 74 rfl)) (Or.inr (wd hw 78 rfl)) (t := (.object "java/lang/String")) (t' := (.object "java/lang/String")) (by decide) (by decide) (by decide)))), (f16.other Y20 (Or.inr (slot_ne (Or.inr (wd hw 76 rfl)) (Or.inr (wd hw 78 rfl)) (t := (.object "java/lang/String")) (t' := (.object "java/lang/String")) (by decide) (by decide) (by decide)))), f21⟩
def anonV (a b c : Value) : Int32 := match a, b, c with
  | .null, _, _ => 0
  | _, .null, .null => 1
  | _, _, _ => 0
set_option maxRecDepth 65536 in
set_option maxHeartbeats 4000000 in
theorem anon_met {E : Gl} (hw : Tb E) {h : Heap} {F : List Addr} {s : Addr} {vr vc vk : Value} (r_reason : vr.isRef = true) (r_certificate : vc.isRef = true) (r_caller : vk.isRef = true) (f_reason : Fld E.Z h s "com/example/keryx/keryx/audit/ProcessUse" "reason" "Ljava/lang/String;" vr) (f_certificate : Fld E.Z h s "com/example/keryx/keryx/audit/ProcessUse" "certificate" "Lcom/example/keryx/keryx/audit/CertificateIdentity;" vc) (f_caller : Fld E.Z h s "com/example/keryx/keryx/audit/ProcessUse" "caller" "Ljava/lang/String;" vk) :
    Met E (⟨"com/example/keryx/keryx/audit/ProcessUse", "anonymousRefusal", "()Z"⟩ : MethodName) prog_3_method_6_code 1 (some .boolean) ({ frames := 0, cells := 0, slots := 0, locals := 0 } : Room) #[.ref s] h F (fun r h' F' => r = some (.int (anonV vr vc vk)) ∧ h = h' ∧ F = F') := by
  refine met_of (by decide +kernel) fun x T hQ B W => ?_
  refine G.cast (g' := fr x 0 #[.val (.ref s)] []) (by simp [entryFrame, mkF, argsToLocals, Own.cat_r, Own.cat_i, Own.cat_j, Own.cat_n]) ?_
  rcases ref_cases r_reason with rfl | ⟨a_reason, rfl⟩
  ·
    refine w_aloadN W B d_anon_0 rfl rfl ?_
    refine w_getF W B d_anon_1 (wd hw 25 rfl) Via.refl f_reason ?_
    intro T1 W2
    refine w_ifnull_null W2 B d_anon_4 ?_
    refine w_iconst W2 B d_anon_25 (v := (0 : Int32)) rfl ?_
    exact w_ireturnN W2 B d_anon_26 (Or.inl rfl) (u := (0 : Int32)) rfl hQ (by decide) (by decide) (fun _ q => q) ⟨rfl, rfl, rfl⟩
  ·
    rcases ref_cases r_certificate with rfl | ⟨a_certificate, rfl⟩
    ·
      rcases ref_cases r_caller with rfl | ⟨a_caller, rfl⟩
      ·
        refine w_aloadN W B d_anon_0 rfl rfl ?_
        refine w_getF W B d_anon_1 (wd hw 25 rfl) Via.refl f_reason ?_
        intro T3 W4
        refine w_ifnull_ref W4 B d_anon_4 ?_
        refine w_aloadN W4 B d_anon_7 rfl rfl ?_
        refine w_getF W4 B d_anon_8 (wd hw 19 rfl) Via.refl f_certificate ?_
        intro T5 W6
        refine w_ifnonnull_null W6 B d_anon_11 ?_
        refine w_aloadN W6 B d_anon_14 rfl rfl ?_
        refine w_getF W6 B d_anon_15 (wd hw 21 rfl) Via.refl f_caller ?_
        intro T7 W8
        refine w_ifnonnull_null W8 B d_anon_18 ?_
        refine w_iconst W8 B d_anon_21 (v := (1 : Int32)) rfl ?_
        refine w_goto W8 B d_anon_22 ?_
        exact w_ireturnN W8 B d_anon_26 (Or.inl rfl) (u := (1 : Int32)) rfl hQ (by decide) (by decide) (fun _ q => q) ⟨rfl, rfl, rfl⟩
      ·
        refine w_aloadN W B d_anon_0 rfl rfl ?_
        refine w_getF W B d_anon_1 (wd hw 25 rfl) Via.refl f_reason ?_
        intro T9 W10
        refine w_ifnull_ref W10 B d_anon_4 ?_
        refine w_aloadN W10 B d_anon_7 rfl rfl ?_
        refine w_getF W10 B d_anon_8 (wd hw 19 rfl) Via.refl f_certificate ?_
        intro T11 W12
        refine w_ifnonnull_null W12 B d_anon_11 ?_
        refine w_aloadN W12 B d_anon_14 rfl rfl ?_
        refine w_getF W12 B d_anon_15 (wd hw 21 rfl) Via.refl f_caller ?_
        intro T13 W14
        refine w_ifnonnull_ref W14 B d_anon_18 ?_
        refine w_iconst W14 B d_anon_25 (v := (0 : Int32)) rfl ?_
        exact w_ireturnN W14 B d_anon_26 (Or.inl rfl) (u := (0 : Int32)) rfl hQ (by decide) (by decide) (fun _ q => q) ⟨rfl, rfl, rfl⟩
    ·
      refine w_aloadN W B d_anon_0 rfl rfl ?_
      refine w_getF W B d_anon_1 (wd hw 25 rfl) Via.refl f_reason ?_
      intro T15 W16
      refine w_ifnull_ref W16 B d_anon_4 ?_
      refine w_aloadN W16 B d_anon_7 rfl rfl ?_
      refine w_getF W16 B d_anon_8 (wd hw 19 rfl) Via.refl f_certificate ?_
      intro T17 W18
      refine w_ifnonnull_ref W18 B d_anon_11 ?_
      refine w_iconst W18 B d_anon_25 (v := (0 : Int32)) rfl ?_
      exact w_ireturnN W18 B d_anon_26 (Or.inl rfl) (u := (0 : Int32)) rfl hQ (by decide) (by decide) (fun _ q => q) ⟨rfl, rfl, rfl⟩
set_option maxRecDepth 65536 in
set_option maxHeartbeats 4000000 in
theorem str_met {E : Gl} (hw : Tb E) {h : Heap} {F : List Addr} (p : Int32) :
    Met E (⟨"com/example/keryx/keryx/audit/ProcessUseAnonymousRefusalPinLaw", "str", "(I)Ljava/lang/String;"⟩ : MethodName) method_3_code 2 (some (.object "java/lang/String")) ({ frames := 4, cells := 6, slots := 37, locals := 66 } : Room) #[.int p] h F (fun r h' F' => ∃ s : Addr, r = some (.ref s) ∧ F = F' ∧ Keep h h' []) := by
  refine met_of (by decide +kernel) fun x T hQ B W => ?_
  refine G.cast (g' := fr x 0 #[.val (.int p), .unset] []) (by simp [entryFrame, mkF, argsToLocals, Own.cat_r, Own.cat_i, Own.cat_j, Own.cat_n]) ?_
  refine w_iloadN W B d_str_0 rfl ?_
  refine w_sipush W B d_str_1 (v := (256 : Int32)) rfl ?_
  refine w_iand W B d_str_4 ?_
  refine w_if_eq W B d_str_5 ?_ ?_
  · intro hc5
    show G E x T (fr x 19 #[.val (.int p), .unset] [])
    refine w_iconst W B d_str_19 (v := (1 : Int32)) rfl ?_
    refine w_newarray W B d_str_20 rfl (wd hw 38 rfl) (by decide) (cap := 1) (by decide) (by decide) (by decide) (by decide) ?_
    intro T1 h2 b3 k4 W5 g6 X7 A8
    have A9 : Arv E.Z h2 b3 k4 .char (1 : Int32) [(.int (0 : Int32))] (.int (0 : Int32)) := A8.pad (pad_rep [] (.int (0 : Int32)) 1)
    show G E x T1 (fr x 22 #[.val (.int p), .unset] [(.ref b3)])
    refine w_astoreN W5 B d_str_22 rfl (Ls' := #[.val (.int p), .val (.ref b3)]) rfl ?_
    refine w_aloadN W5 B d_str_23 rfl rfl ?_
    refine w_iconst W5 B d_str_24 (v := (0 : Int32)) rfl ?_
    refine w_iloadN W5 B d_str_25 rfl ?_
    refine w_sipush W5 B d_str_26 (v := (255 : Int32)) rfl ?_
    refine w_iand W5 B d_str_29 ?_
    refine w_i2c W5 B d_str_30 ?_
    refine w_castore W5 B d_str_31 (List.Mem.head _) A9 (by decide) (i := 0) rfl (by decide) (u := ((p &&& (255 : Int32))).toUInt32.toUInt16.toUInt32.toInt32) (Own.nar_i2c _) ?_
    intro T10 h11 W12 K13 A14
    have A15 : Arv E.Z h11 b3 k4 .char (1 : Int32) [(.int ((p &&& (255 : Int32))).toUInt32.toUInt16.toUInt32.toInt32)] (.int (0 : Int32)) := A14
    refine w_new W12 B d_str_32 (wd hw 39 rfl) (wd hw 40 rfl) (wd hw 41 rfl) (by decide) (by decide) ?_
    intro T16 h17 b18 W19 g20 X21 A22 D23
    have f24 : Fld E.Z h17 b18 "java/lang/String" "coder" "B" (.int (0 : Int32)) := D23 (Or.inr (wd hw 63 rfl)) (ty := .byte) (by decide)
    have f25 : Fld E.Z h17 b18 "java/lang/String" "value" "[B" .null := D23 (Or.inr (wd hw 65 rfl)) (ty := (.array .byte)) (by decide)
    show G E x T16 (fr x 35 #[.val (.int p), .val (.ref b3)] [(.ref b18)])
    refine w_dup W19 B d_str_35 rfl ?_
    refine w_aloadN W19 B d_str_36 rfl rfl ?_
    have hc255 : 0 ≤ ((p &&& (255 : Int32)).toUInt32.toUInt16.toUInt32.toInt32).toInt ∧ ((p &&& (255 : Int32)).toUInt32.toUInt16.toUInt32.toInt32).toInt ≤ 255 := by rw [i2c_toInt, and255]; omega
    refine w_special W19 B (y := ⟨"java/lang/String", "<init>", "([C)V"⟩) d_str_37 rfl (wd hw 42 rfl) (wd hw 43 rfl) (wd hw 41 rfl) (wd hw 44 rfl) (by decide) pd___C_V325 (argsL := [(.ref b3)]) rfl rfl rfl (Wt := 1) (Nat.le_of_eq rfl) (ini1_met hw (n := 1) (cs := [(p &&& (255 : Int32)).toUInt32.toUInt16.toUInt32.toInt32]) rfl (by decide) (by decide) (fun q hq => by rw [List.mem_singleton.mp hq]; omega) (fun q hq => by rw [List.mem_singleton.mp hq]; exact hc255.2) (List.Mem.head _) A22 f25 f24 (A15.ext X21)) (by decide) (by decide) (by decide) (by decide) ?_
    intro T26 h27 F28 v29 W30 Q31
    obtain ⟨rfl, rfl, K1, v, S1, hv⟩ := Q31
    show G E x T26 (fr x 40 #[.val (.int p), .val (.ref b3)] [(.ref b18)])
    have KK32 : Keep h h2 [] := (Keep.refl h []).ext X7
    have KK33 : Keep h h11 [] := KK32.trans K13 (allS (Or.inr (Nat.le_trans (Keep.refl h []).1 (Nat.le_of_eq g6.symm))) all0)
    have KK34 : Keep h h17 [] := KK33.ext X21
    have KK35 : Keep h h27 [] := KK34.trans K1 (allS (Or.inr (Nat.le_trans KK33.1 (Nat.le_of_eq g20.symm))) all0)
    exact w_areturn W30 B d_str_40 rfl rfl hQ (by decide) (by decide) (fun _ q => (List.Mem.tail _ (List.Mem.tail _ q))) ⟨b18, rfl, rfl, KK35⟩
  · intro hc5
    show G E x T (fr x 8 #[.val (.int p), .unset] [])
    refine w_new W B d_str_8 (wd hw 39 rfl) (wd hw 40 rfl) (wd hw 41 rfl) (by decide) (by decide) ?_
    intro T36 h37 b38 W39 g40 X41 A42 D43
    have f44 : Fld E.Z h37 b38 "java/lang/String" "coder" "B" (.int (0 : Int32)) := D43 (Or.inr (wd hw 63 rfl)) (ty := .byte) (by decide)
    have f45 : Fld E.Z h37 b38 "java/lang/String" "value" "[B" .null := D43 (Or.inr (wd hw 65 rfl)) (ty := (.array .byte)) (by decide)
    show G E x T36 (fr x 11 #[.val (.int p), .unset] [(.ref b38)])
    refine w_dup W39 B d_str_11 rfl ?_
    refine w_iconst W39 B d_str_12 (v := (0 : Int32)) rfl ?_
    refine w_newarray W39 B d_str_13 rfl (wd hw 38 rfl) (by decide) (cap := 0) (by decide) (by decide) (by decide) (by decide) ?_
    intro T46 h47 b48 k49 W50 g51 X52 A53
    have A54 : Arv E.Z h47 b48 k49 .char (0 : Int32) [] (.int (0 : Int32)) := A53.pad (pad_rep [] (.int (0 : Int32)) 0)
    show G E x T46 (fr x 15 #[.val (.int p), .unset] [(.ref b48), (.ref b38), (.ref b38)])
    refine w_special W50 B (y := ⟨"java/lang/String", "<init>", "([C)V"⟩) d_str_15 rfl (wd hw 42 rfl) (wd hw 43 rfl) (wd hw 41 rfl) (wd hw 44 rfl) (by decide) pd___C_V325 (argsL := [(.ref b48)]) rfl rfl rfl (Wt := 1) (Nat.le_of_eq rfl) (ini1e_met hw (List.Mem.tail _ (List.Mem.head _)) (A42.ext X52) (f45.ext X52) (f44.ext X52) A54) (by decide) (by decide) (by decide) (by decide) ?_
    intro T55 h56 F57 v58 W59 Q60
    obtain ⟨rfl, rfl, K1, v, S1, hv⟩ := Q60
    show G E x T55 (fr x 18 #[.val (.int p), .unset] [(.ref b38)])
    have KK61 : Keep h h37 [] := (Keep.refl h []).ext X41
    have KK62 : Keep h h47 [] := KK61.ext X52
    have KK63 : Keep h h56 [] := KK62.trans K1 (allS (Or.inr (Nat.le_trans (Keep.refl h []).1 (Nat.le_of_eq g40.symm))) all0)
    exact w_areturn W59 B d_str_18 rfl rfl hQ (by decide) (by decide) (fun _ q => (List.Mem.tail _ (List.Mem.tail _ q))) ⟨b38, rfl, rfl, KK63⟩
theorem anon_1 {a b c : Value} (ra : a.isRef = true) (h1 : a ≠ .null) (h2 : b = .null) (h3 : c = .null) : anonV a b c = 1 := by
  subst h2 h3; rcases ref_cases ra with rfl | ⟨_, rfl⟩; exact absurd rfl h1; rfl
theorem anon_c {a b c : Value} (h : b ≠ .null) : anonV a b c = 0 := by
  unfold anonV; split <;> first | rfl | exact absurd rfl h
theorem anon_k {a b c : Value} (h : c ≠ .null) : anonV a b c = 0 := by
  unfold anonV; split <;> first | rfl | exact absurd rfl h
set_option maxRecDepth 65536 in
set_option maxHeartbeats 4000000 in
theorem L143 {E : Gl} (hw : Tb E) {x : Cx} {T : State} {h : Heap} (hQ : x.Q = fun r _ _ => r = some (.int 1)) (B : Is x "com/example/keryx/keryx/audit/ProcessUseAnonymousRefusalPinLaw" code 14 ({ frames := 8, cells := 56, slots := 1216, locals := 192 } : Room) (some .boolean) "law") {p0 p1 p2 p3 : Int32} {f4 : Int32} {f5 : Int32} {f6 : Int32} {v7 : Value} (r7 : v7.isRef = true) {v8 : Value} (r8 : v8.isRef = true) {v9 : Value} (r9 : v9.isRef = true) {v10 : Value} (r10 : v10.isRef = true) {v11 : Value} (r11 : v11.isRef = true) (q8 : (f4 = 0 → v8 = .null) ∧ (¬ f4 = 0 → v8 ≠ .null)) (q9 : (f5 = 0 → v9 = .null) ∧ (¬ f5 = 0 → v9 ≠ .null)) (q10 : (f6 = 0 → v10 = .null) ∧ (¬ f6 = 0 → v10 ≠ .null)) (W : Wk E x T h [] 37 225) : G E x T (fr x 143 #[.val (.int p0), .val (.int p1), .val (.int p2), .val (.int p3), .val (.int f4), .val (.int f5), .val (.int f6), .val v7, .val v8, .val v9, .val v10, .val v11, .unset, .unset] []) := by
  refine w_new W B d_law_143 (wd hw 3 rfl) (wd hw 4 rfl) (wd hw 5 rfl) (by decide) (by decide) ?_
  intro T1 h2 b3 W4 g5 X6 A7 D8
  have f9 : Fld E.Z h2 b3 "com/example/keryx/keryx/audit/ProcessUse" "process" "Lcom/example/keryx/keryx/audit/AuditedProcess;" .null := D8 (Or.inr (wd hw 18 rfl)) (ty := (.object "com/example/keryx/keryx/audit/AuditedProcess")) (by decide)
  have f10 : Fld E.Z h2 b3 "com/example/keryx/keryx/audit/ProcessUse" "certificate" "Lcom/example/keryx/keryx/audit/CertificateIdentity;" .null := D8 (Or.inr (wd hw 20 rfl)) (ty := (.object "com/example/keryx/keryx/audit/CertificateIdentity")) (by decide)
  have f11 : Fld E.Z h2 b3 "com/example/keryx/keryx/audit/ProcessUse" "caller" "Ljava/lang/String;" .null := D8 (Or.inr (wd hw 22 rfl)) (ty := (.object "java/lang/String")) (by decide)
  have f12 : Fld E.Z h2 b3 "com/example/keryx/keryx/audit/ProcessUse" "target" "Ljava/lang/String;" .null := D8 (Or.inr (wd hw 24 rfl)) (ty := (.object "java/lang/String")) (by decide)
  have f13 : Fld E.Z h2 b3 "com/example/keryx/keryx/audit/ProcessUse" "reason" "Ljava/lang/String;" .null := D8 (Or.inr (wd hw 26 rfl)) (ty := (.object "java/lang/String")) (by decide)
  show G E x T1 (fr x 146 #[.val (.int p0), .val (.int p1), .val (.int p2), .val (.int p3), .val (.int f4), .val (.int f5), .val (.int f6), .val v7, .val v8, .val v9, .val v10, .val v11, .unset, .unset] [(.ref b3)])
  refine w_dup W4 B d_law_146 rfl ?_
  refine w_aload W4 B d_law_147 rfl r7 ?_
  refine w_aload W4 B d_law_149 rfl r9 ?_
  refine w_aload W4 B d_law_151 rfl r10 ?_
  refine w_aload W4 B d_law_153 rfl r11 ?_
  refine w_aload W4 B d_law_155 rfl r8 ?_
  refine w_special W4 B (y := ⟨"com/example/keryx/keryx/audit/ProcessUse", "<init>", "(Lcom/example/keryx/keryx/audit/AuditedProcess;Lcom/example/keryx/keryx/audit/CertificateIdentity;Ljava/lang/String;Ljava/lang/String;Ljava/lang/String;)V"⟩) d_law_157 rfl (wd hw 6 rfl) (wd hw 7 rfl) (wd hw 5 rfl) (wd hw 8 rfl) (by decide) pd__Lcom_example_keryx_keryx_audit_AuditedProcess_Lcom_example_keryx_keryx_audit_CertificateIdentity_Ljava_lang_String_Ljava_lang_String_Ljava_lang_String__V897 (argsL := [v7, v9, v10, v11, v8]) rfl rfl rfl (Wt := 1) (Nat.le_of_eq rfl) (pu_met hw r7 r9 r10 r11 r8 (List.Mem.head _) A7 f9 f10 f11 f12 f13) (by decide) (by decide) (by decide) (by decide) ?_
  intro T14 h15 F16 v17 W18 Q19
  obtain ⟨rfl, rfl, KP, EP, fp1, fp2, fp3, fp4, fp5⟩ := Q19
  show G E x T14 (fr x 160 #[.val (.int p0), .val (.int p1), .val (.int p2), .val (.int p3), .val (.int f4), .val (.int f5), .val (.int f6), .val v7, .val v8, .val v9, .val v10, .val v11, .unset, .unset] [(.ref b3)])
  refine w_astore W18 B d_law_160 rfl (Ls' := #[.val (.int p0), .val (.int p1), .val (.int p2), .val (.int p3), .val (.int f4), .val (.int f5), .val (.int f6), .val v7, .val v8, .val v9, .val v10, .val v11, .val (.ref b3), .unset]) rfl ?_
  refine w_iload W18 B d_law_162 rfl ?_
  refine w_if_eq W18 B d_law_164 ?_ ?_
  · intro hc164
    show G E x T14 (fr x 181 #[.val (.int p0), .val (.int p1), .val (.int p2), .val (.int p3), .val (.int f4), .val (.int f5), .val (.int f6), .val v7, .val v8, .val v9, .val v10, .val v11, .val (.ref b3), .unset] [])
    refine w_iconst W18 B d_law_181 (v := (0 : Int32)) rfl ?_
    refine w_istore W18 B d_law_182 (Ls' := #[.val (.int p0), .val (.int p1), .val (.int p2), .val (.int p3), .val (.int f4), .val (.int f5), .val (.int f6), .val v7, .val v8, .val v9, .val v10, .val v11, .val (.ref b3), .val (.int (0 : Int32))]) rfl ?_
    refine w_aload W18 B d_law_184 rfl rfl ?_
    refine w_virtual W18 B (y := ⟨"com/example/keryx/keryx/audit/ProcessUse", "anonymousRefusal", "()Z"⟩) (z := ⟨"com/example/keryx/keryx/audit/ProcessUse", "anonymousRefusal", "()Z"⟩) d_law_186 (wd hw 27 rfl) (wd hw 28 rfl) (nf_sel (wd hw 30 rfl)) (wd hw 30 rfl) (wd hw 29 rfl) (wd hw 5 rfl) (wd hw 31 rfl) (by decide) EP pd___Z171 (argsL := []) rfl rfl rfl (Wt := 0) (Nat.le_of_eq rfl) (anon_met hw r8 r9 r10 fp5 fp2 fp3) (by decide) (by decide) (by decide) (by decide) ?_
    intro T20 h21 F22 v23 W24 Q25
    obtain ⟨rfl, rfl, rfl⟩ := Q25
    show G E x T20 (fr x 189 #[.val (.int p0), .val (.int p1), .val (.int p2), .val (.int p3), .val (.int f4), .val (.int f5), .val (.int f6), .val v7, .val v8, .val v9, .val v10, .val v11, .val (.ref b3), .val (.int (0 : Int32))] [(.int (anonV v8 v9 v10))])
    refine w_iload W24 B d_law_189 rfl ?_
    refine w_icmp_ne W24 B d_law_191 (fun q => q (show anonV v8 v9 v10 = (0 : Int32) from by rw [q8.1 hc164]; rfl) |>.elim) (fun _ => ?_)
    show G E x T20 (fr x 194 #[.val (.int p0), .val (.int p1), .val (.int p2), .val (.int p3), .val (.int f4), .val (.int f5), .val (.int f6), .val v7, .val v8, .val v9, .val v10, .val v11, .val (.ref b3), .val (.int (0 : Int32))] [])
    refine w_iconst W24 B d_law_194 (v := (1 : Int32)) rfl ?_
    refine w_goto W24 B d_law_195 ?_
    exact w_ireturnN W24 B d_law_199 (Or.inl rfl) (u := 1) rfl hQ (by decide) (by decide) (F' := []) (fun _ q => nomatch q) rfl
  · intro hc164
    show G E x T14 (fr x 167 #[.val (.int p0), .val (.int p1), .val (.int p2), .val (.int p3), .val (.int f4), .val (.int f5), .val (.int f6), .val v7, .val v8, .val v9, .val v10, .val v11, .val (.ref b3), .unset] [])
    refine w_iload W18 B d_law_167 rfl ?_
    refine w_if_ne W18 B d_law_169 ?_ ?_
    · intro hc169
      show G E x T14 (fr x 181 #[.val (.int p0), .val (.int p1), .val (.int p2), .val (.int p3), .val (.int f4), .val (.int f5), .val (.int f6), .val v7, .val v8, .val v9, .val v10, .val v11, .val (.ref b3), .unset] [])
      refine w_iconst W18 B d_law_181 (v := (0 : Int32)) rfl ?_
      refine w_istore W18 B d_law_182 (Ls' := #[.val (.int p0), .val (.int p1), .val (.int p2), .val (.int p3), .val (.int f4), .val (.int f5), .val (.int f6), .val v7, .val v8, .val v9, .val v10, .val v11, .val (.ref b3), .val (.int (0 : Int32))]) rfl ?_
      refine w_aload W18 B d_law_184 rfl rfl ?_
      refine w_virtual W18 B (y := ⟨"com/example/keryx/keryx/audit/ProcessUse", "anonymousRefusal", "()Z"⟩) (z := ⟨"com/example/keryx/keryx/audit/ProcessUse", "anonymousRefusal", "()Z"⟩) d_law_186 (wd hw 27 rfl) (wd hw 28 rfl) (nf_sel (wd hw 30 rfl)) (wd hw 30 rfl) (wd hw 29 rfl) (wd hw 5 rfl) (wd hw 31 rfl) (by decide) EP pd___Z171 (argsL := []) rfl rfl rfl (Wt := 0) (Nat.le_of_eq rfl) (anon_met hw r8 r9 r10 fp5 fp2 fp3) (by decide) (by decide) (by decide) (by decide) ?_
      intro T26 h27 F28 v29 W30 Q31
      obtain ⟨rfl, rfl, rfl⟩ := Q31
      show G E x T26 (fr x 189 #[.val (.int p0), .val (.int p1), .val (.int p2), .val (.int p3), .val (.int f4), .val (.int f5), .val (.int f6), .val v7, .val v8, .val v9, .val v10, .val v11, .val (.ref b3), .val (.int (0 : Int32))] [(.int (anonV v8 v9 v10))])
      refine w_iload W30 B d_law_189 rfl ?_
      refine w_icmp_ne W30 B d_law_191 (fun q => q (show anonV v8 v9 v10 = (0 : Int32) from anon_c (q9.2 hc169)) |>.elim) (fun _ => ?_)
      show G E x T26 (fr x 194 #[.val (.int p0), .val (.int p1), .val (.int p2), .val (.int p3), .val (.int f4), .val (.int f5), .val (.int f6), .val v7, .val v8, .val v9, .val v10, .val v11, .val (.ref b3), .val (.int (0 : Int32))] [])
      refine w_iconst W30 B d_law_194 (v := (1 : Int32)) rfl ?_
      refine w_goto W30 B d_law_195 ?_
      exact w_ireturnN W30 B d_law_199 (Or.inl rfl) (u := 1) rfl hQ (by decide) (by decide) (F' := []) (fun _ q => nomatch q) rfl
    · intro hc169
      show G E x T14 (fr x 172 #[.val (.int p0), .val (.int p1), .val (.int p2), .val (.int p3), .val (.int f4), .val (.int f5), .val (.int f6), .val v7, .val v8, .val v9, .val v10, .val v11, .val (.ref b3), .unset] [])
      refine w_iload W18 B d_law_172 rfl ?_
      refine w_if_ne W18 B d_law_174 ?_ ?_
      · intro hc174
        show G E x T14 (fr x 181 #[.val (.int p0), .val (.int p1), .val (.int p2), .val (.int p3), .val (.int f4), .val (.int f5), .val (.int f6), .val v7, .val v8, .val v9, .val v10, .val v11, .val (.ref b3), .unset] [])
        refine w_iconst W18 B d_law_181 (v := (0 : Int32)) rfl ?_
        refine w_istore W18 B d_law_182 (Ls' := #[.val (.int p0), .val (.int p1), .val (.int p2), .val (.int p3), .val (.int f4), .val (.int f5), .val (.int f6), .val v7, .val v8, .val v9, .val v10, .val v11, .val (.ref b3), .val (.int (0 : Int32))]) rfl ?_
        refine w_aload W18 B d_law_184 rfl rfl ?_
        refine w_virtual W18 B (y := ⟨"com/example/keryx/keryx/audit/ProcessUse", "anonymousRefusal", "()Z"⟩) (z := ⟨"com/example/keryx/keryx/audit/ProcessUse", "anonymousRefusal", "()Z"⟩) d_law_186 (wd hw 27 rfl) (wd hw 28 rfl) (nf_sel (wd hw 30 rfl)) (wd hw 30 rfl) (wd hw 29 rfl) (wd hw 5 rfl) (wd hw 31 rfl) (by decide) EP pd___Z171 (argsL := []) rfl rfl rfl (Wt := 0) (Nat.le_of_eq rfl) (anon_met hw r8 r9 r10 fp5 fp2 fp3) (by decide) (by decide) (by decide) (by decide) ?_
        intro T32 h33 F34 v35 W36 Q37
        obtain ⟨rfl, rfl, rfl⟩ := Q37
        show G E x T32 (fr x 189 #[.val (.int p0), .val (.int p1), .val (.int p2), .val (.int p3), .val (.int f4), .val (.int f5), .val (.int f6), .val v7, .val v8, .val v9, .val v10, .val v11, .val (.ref b3), .val (.int (0 : Int32))] [(.int (anonV v8 v9 v10))])
        refine w_iload W36 B d_law_189 rfl ?_
        refine w_icmp_ne W36 B d_law_191 (fun q => q (show anonV v8 v9 v10 = (0 : Int32) from anon_k (q10.2 hc174)) |>.elim) (fun _ => ?_)
        show G E x T32 (fr x 194 #[.val (.int p0), .val (.int p1), .val (.int p2), .val (.int p3), .val (.int f4), .val (.int f5), .val (.int f6), .val v7, .val v8, .val v9, .val v10, .val v11, .val (.ref b3), .val (.int (0 : Int32))] [])
        refine w_iconst W36 B d_law_194 (v := (1 : Int32)) rfl ?_
        refine w_goto W36 B d_law_195 ?_
        exact w_ireturnN W36 B d_law_199 (Or.inl rfl) (u := 1) rfl hQ (by decide) (by decide) (F' := []) (fun _ q => nomatch q) rfl
      · intro hc174
        show G E x T14 (fr x 177 #[.val (.int p0), .val (.int p1), .val (.int p2), .val (.int p3), .val (.int f4), .val (.int f5), .val (.int f6), .val v7, .val v8, .val v9, .val v10, .val v11, .val (.ref b3), .unset] [])
        refine w_iconst W18 B d_law_177 (v := (1 : Int32)) rfl ?_
        refine w_goto W18 B d_law_178 ?_
        refine w_istore W18 B d_law_182 (Ls' := #[.val (.int p0), .val (.int p1), .val (.int p2), .val (.int p3), .val (.int f4), .val (.int f5), .val (.int f6), .val v7, .val v8, .val v9, .val v10, .val v11, .val (.ref b3), .val (.int (1 : Int32))]) rfl ?_
        refine w_aload W18 B d_law_184 rfl rfl ?_
        refine w_virtual W18 B (y := ⟨"com/example/keryx/keryx/audit/ProcessUse", "anonymousRefusal", "()Z"⟩) (z := ⟨"com/example/keryx/keryx/audit/ProcessUse", "anonymousRefusal", "()Z"⟩) d_law_186 (wd hw 27 rfl) (wd hw 28 rfl) (nf_sel (wd hw 30 rfl)) (wd hw 30 rfl) (wd hw 29 rfl) (wd hw 5 rfl) (wd hw 31 rfl) (by decide) EP pd___Z171 (argsL := []) rfl rfl rfl (Wt := 0) (Nat.le_of_eq rfl) (anon_met hw r8 r9 r10 fp5 fp2 fp3) (by decide) (by decide) (by decide) (by decide) ?_
        intro T38 h39 F40 v41 W42 Q43
        obtain ⟨rfl, rfl, rfl⟩ := Q43
        show G E x T38 (fr x 189 #[.val (.int p0), .val (.int p1), .val (.int p2), .val (.int p3), .val (.int f4), .val (.int f5), .val (.int f6), .val v7, .val v8, .val v9, .val v10, .val v11, .val (.ref b3), .val (.int (1 : Int32))] [(.int (anonV v8 v9 v10))])
        refine w_iload W42 B d_law_189 rfl ?_
        refine w_icmp_ne W42 B d_law_191 (fun q => q (show anonV v8 v9 v10 = (1 : Int32) from anon_1 r8 (q8.2 hc164) (q9.1 hc169) (q10.1 hc174)) |>.elim) (fun _ => ?_)
        show G E x T38 (fr x 194 #[.val (.int p0), .val (.int p1), .val (.int p2), .val (.int p3), .val (.int f4), .val (.int f5), .val (.int f6), .val v7, .val v8, .val v9, .val v10, .val v11, .val (.ref b3), .val (.int (1 : Int32))] [])
        refine w_iconst W42 B d_law_194 (v := (1 : Int32)) rfl ?_
        refine w_goto W42 B d_law_195 ?_
        exact w_ireturnN W42 B d_law_199 (Or.inl rfl) (u := 1) rfl hQ (by decide) (by decide) (F' := []) (fun _ q => nomatch q) rfl
set_option maxRecDepth 65536 in
set_option maxHeartbeats 4000000 in
theorem L141 {E : Gl} (hw : Tb E) {x : Cx} {T : State} {h : Heap} (hQ : x.Q = fun r _ _ => r = some (.int 1)) (B : Is x "com/example/keryx/keryx/audit/ProcessUseAnonymousRefusalPinLaw" code 14 ({ frames := 8, cells := 56, slots := 1216, locals := 192 } : Room) (some .boolean) "law") {p0 p1 p2 p3 : Int32} {f4 : Int32} {f5 : Int32} {f6 : Int32} {v7 : Value} (r7 : v7.isRef = true) {v8 : Value} (r8 : v8.isRef = true) {v9 : Value} (r9 : v9.isRef = true) {v10 : Value} (r10 : v10.isRef = true) (q8 : (f4 = 0 → v8 = .null) ∧ (¬ f4 = 0 → v8 ≠ .null)) (q9 : (f5 = 0 → v9 = .null) ∧ (¬ f5 = 0 → v9 ≠ .null)) (q10 : (f6 = 0 → v10 = .null) ∧ (¬ f6 = 0 → v10 ≠ .null)) {v11 : Value} (r11 : v11.isRef = true) (W : Wk E x T h [] 37 225) : G E x T (fr x 141 #[.val (.int p0), .val (.int p1), .val (.int p2), .val (.int p3), .val (.int f4), .val (.int f5), .val (.int f6), .val v7, .val v8, .val v9, .val v10, .unset, .unset, .unset] [v11]) := by
  rcases ref_cases r11 with rfl | ⟨a11, rfl⟩
  ·
    refine w_astore W B d_law_141 rfl (Ls' := #[.val (.int p0), .val (.int p1), .val (.int p2), .val (.int p3), .val (.int f4), .val (.int f5), .val (.int f6), .val v7, .val v8, .val v9, .val v10, .val .null, .unset, .unset]) rfl ?_
    exact L143 hw hQ B r7 r8 r9 r10 rfl q8 q9 q10 (W.mono (fun _ q => nomatch q) (by decide) (by decide))
  ·
    refine w_astore W B d_law_141 rfl (Ls' := #[.val (.int p0), .val (.int p1), .val (.int p2), .val (.int p3), .val (.int f4), .val (.int f5), .val (.int f6), .val v7, .val v8, .val v9, .val v10, .val (.ref a11), .unset, .unset]) rfl ?_
    exact L143 hw hQ B r7 r8 r9 r10 rfl q8 q9 q10 (W.mono (fun _ q => nomatch q) (by decide) (by decide))
set_option maxRecDepth 65536 in
set_option maxHeartbeats 4000000 in
theorem L121 {E : Gl} (hw : Tb E) {x : Cx} {T : State} {h : Heap} (hQ : x.Q = fun r _ _ => r = some (.int 1)) (B : Is x "com/example/keryx/keryx/audit/ProcessUseAnonymousRefusalPinLaw" code 14 ({ frames := 8, cells := 56, slots := 1216, locals := 192 } : Room) (some .boolean) "law") {p0 p1 p2 p3 : Int32} {f4 : Int32} {f5 : Int32} {f6 : Int32} {v7 : Value} (r7 : v7.isRef = true) {v8 : Value} (r8 : v8.isRef = true) {v9 : Value} (r9 : v9.isRef = true) (q8 : (f4 = 0 → v8 = .null) ∧ (¬ f4 = 0 → v8 ≠ .null)) (q9 : (f5 = 0 → v9 = .null) ∧ (¬ f5 = 0 → v9 ≠ .null)) {v10 : Value} (r10 : v10.isRef = true) (q10 : (f6 = 0 → v10 = .null) ∧ (¬ f6 = 0 → v10 ≠ .null)) (W : Wk E x T h [] 31 188) : G E x T (fr x 121 #[.val (.int p0), .val (.int p1), .val (.int p2), .val (.int p3), .val (.int f4), .val (.int f5), .val (.int f6), .val v7, .val v8, .val v9, .unset, .unset, .unset, .unset] [v10]) := by
  rcases ref_cases r10 with rfl | ⟨a10, rfl⟩
  ·
    refine w_astore W B d_law_121 rfl (Ls' := #[.val (.int p0), .val (.int p1), .val (.int p2), .val (.int p3), .val (.int f4), .val (.int f5), .val (.int f6), .val v7, .val v8, .val v9, .val .null, .unset, .unset, .unset]) rfl ?_
    refine w_iloadN W B d_law_123 rfl ?_
    refine w_bipush W B d_law_124 (v := (16 : Int32)) rfl ?_
    refine w_iand W B d_law_126 ?_
    refine w_if_eq W B d_law_127 ?_ ?_
    · intro hc127
      show G E x T (fr x 140 #[.val (.int p0), .val (.int p1), .val (.int p2), .val (.int p3), .val (.int f4), .val (.int f5), .val (.int f6), .val v7, .val v8, .val v9, .val .null, .unset, .unset, .unset] [])
      refine w_null W B d_law_140 ?_
      exact L141 hw hQ B (v11 := .null) r7 r8 r9 rfl q8 q9 q10 rfl  (W.mono (fun _ q => nomatch q) (by decide) (by decide))
    · intro hc127
      show G E x T (fr x 130 #[.val (.int p0), .val (.int p1), .val (.int p2), .val (.int p3), .val (.int f4), .val (.int f5), .val (.int f6), .val v7, .val v8, .val v9, .val .null, .unset, .unset, .unset] [])
      refine w_iloadN W B d_law_130 rfl ?_
      refine w_bipush W B d_law_131 (v := (8 : Int32)) rfl ?_
      refine w_iushr W B d_law_133 ?_
      refine w_static W B (y := ⟨"com/example/keryx/keryx/audit/ProcessUseAnonymousRefusalPinLaw", "str", "(I)Ljava/lang/String;"⟩) d_law_134 (wd hw 34 rfl) (wd hw 35 rfl) (wd hw 36 rfl) (wd hw 37 rfl) (by decide) pd__I_Ljava_lang_String_853 (argsL := [(.int (XT.ushr p0 (8 : Int32)))]) rfl rfl rfl (Wt := 0) (Nat.le_of_eq rfl) (str_met hw (XT.ushr p0 (8 : Int32))) (by decide) (by decide) (by decide) (by decide) ?_
      intro T1 h2 F3 v4 W5 Q6
      obtain ⟨s134, rfl, rfl, K134⟩ := Q6
      show G E x T1 (fr x 137 #[.val (.int p0), .val (.int p1), .val (.int p2), .val (.int p3), .val (.int f4), .val (.int f5), .val (.int f6), .val v7, .val v8, .val v9, .val .null, .unset, .unset, .unset] [(.ref s134)])
      refine w_goto W5 B d_law_137 ?_
      exact L141 hw hQ B (v11 := (.ref s134)) r7 r8 r9 rfl q8 q9 q10 rfl  (W5.mono (fun _ q => nomatch q) (by decide) (by decide))
  ·
    refine w_astore W B d_law_121 rfl (Ls' := #[.val (.int p0), .val (.int p1), .val (.int p2), .val (.int p3), .val (.int f4), .val (.int f5), .val (.int f6), .val v7, .val v8, .val v9, .val (.ref a10), .unset, .unset, .unset]) rfl ?_
    refine w_iloadN W B d_law_123 rfl ?_
    refine w_bipush W B d_law_124 (v := (16 : Int32)) rfl ?_
    refine w_iand W B d_law_126 ?_
    refine w_if_eq W B d_law_127 ?_ ?_
    · intro hc127
      show G E x T (fr x 140 #[.val (.int p0), .val (.int p1), .val (.int p2), .val (.int p3), .val (.int f4), .val (.int f5), .val (.int f6), .val v7, .val v8, .val v9, .val (.ref a10), .unset, .unset, .unset] [])
      refine w_null W B d_law_140 ?_
      exact L141 hw hQ B (v11 := .null) r7 r8 r9 rfl q8 q9 q10 rfl  (W.mono (fun _ q => nomatch q) (by decide) (by decide))
    · intro hc127
      show G E x T (fr x 130 #[.val (.int p0), .val (.int p1), .val (.int p2), .val (.int p3), .val (.int f4), .val (.int f5), .val (.int f6), .val v7, .val v8, .val v9, .val (.ref a10), .unset, .unset, .unset] [])
      refine w_iloadN W B d_law_130 rfl ?_
      refine w_bipush W B d_law_131 (v := (8 : Int32)) rfl ?_
      refine w_iushr W B d_law_133 ?_
      refine w_static W B (y := ⟨"com/example/keryx/keryx/audit/ProcessUseAnonymousRefusalPinLaw", "str", "(I)Ljava/lang/String;"⟩) d_law_134 (wd hw 34 rfl) (wd hw 35 rfl) (wd hw 36 rfl) (wd hw 37 rfl) (by decide) pd__I_Ljava_lang_String_853 (argsL := [(.int (XT.ushr p0 (8 : Int32)))]) rfl rfl rfl (Wt := 0) (Nat.le_of_eq rfl) (str_met hw (XT.ushr p0 (8 : Int32))) (by decide) (by decide) (by decide) (by decide) ?_
      intro T7 h8 F9 v10 W11 Q12
      obtain ⟨s134, rfl, rfl, K134⟩ := Q12
      show G E x T7 (fr x 137 #[.val (.int p0), .val (.int p1), .val (.int p2), .val (.int p3), .val (.int f4), .val (.int f5), .val (.int f6), .val v7, .val v8, .val v9, .val (.ref a10), .unset, .unset, .unset] [(.ref s134)])
      refine w_goto W11 B d_law_137 ?_
      exact L141 hw hQ B (v11 := (.ref s134)) r7 r8 r9 rfl q8 q9 q10 rfl  (W11.mono (fun _ q => nomatch q) (by decide) (by decide))
set_option maxRecDepth 65536 in
set_option maxHeartbeats 4000000 in
theorem L106 {E : Gl} (hw : Tb E) {x : Cx} {T : State} {h : Heap} (hQ : x.Q = fun r _ _ => r = some (.int 1)) (B : Is x "com/example/keryx/keryx/audit/ProcessUseAnonymousRefusalPinLaw" code 14 ({ frames := 8, cells := 56, slots := 1216, locals := 192 } : Room) (some .boolean) "law") {p0 p1 p2 p3 : Int32} {f4 : Int32} {f5 : Int32} {f6 : Int32} {v7 : Value} (r7 : v7.isRef = true) {v8 : Value} (r8 : v8.isRef = true) (q8 : (f4 = 0 → v8 = .null) ∧ (¬ f4 = 0 → v8 ≠ .null)) {v9 : Value} (r9 : v9.isRef = true) (q9 : (f5 = 0 → v9 = .null) ∧ (¬ f5 = 0 → v9 ≠ .null)) (W : Wk E x T h [] 25 151) : G E x T (fr x 106 #[.val (.int p0), .val (.int p1), .val (.int p2), .val (.int p3), .val (.int f4), .val (.int f5), .val (.int f6), .val v7, .val v8, .unset, .unset, .unset, .unset, .unset] [v9]) := by
  rcases ref_cases r9 with rfl | ⟨a9, rfl⟩
  ·
    refine w_astore W B d_law_106 rfl (Ls' := #[.val (.int p0), .val (.int p1), .val (.int p2), .val (.int p3), .val (.int f4), .val (.int f5), .val (.int f6), .val v7, .val v8, .val .null, .unset, .unset, .unset, .unset]) rfl ?_
    refine w_iload W B d_law_108 rfl ?_
    refine w_if_eq W B d_law_110 ?_ ?_
    · intro hc110
      show G E x T (fr x 120 #[.val (.int p0), .val (.int p1), .val (.int p2), .val (.int p3), .val (.int f4), .val (.int f5), .val (.int f6), .val v7, .val v8, .val .null, .unset, .unset, .unset, .unset] [])
      refine w_null W B d_law_120 ?_
      exact L121 hw hQ B (v10 := .null) r7 r8 rfl q8 q9 rfl ⟨fun _ => rfl, fun q => absurd hc110 q⟩ (W.mono (fun _ q => nomatch q) (by decide) (by decide))
    · intro hc110
      show G E x T (fr x 113 #[.val (.int p0), .val (.int p1), .val (.int p2), .val (.int p3), .val (.int f4), .val (.int f5), .val (.int f6), .val v7, .val v8, .val .null, .unset, .unset, .unset, .unset] [])
      refine w_iloadN W B d_law_113 rfl ?_
      refine w_static W B (y := ⟨"com/example/keryx/keryx/audit/ProcessUseAnonymousRefusalPinLaw", "str", "(I)Ljava/lang/String;"⟩) d_law_114 (wd hw 34 rfl) (wd hw 35 rfl) (wd hw 36 rfl) (wd hw 37 rfl) (by decide) pd__I_Ljava_lang_String_853 (argsL := [(.int p3)]) rfl rfl rfl (Wt := 0) (Nat.le_of_eq rfl) (str_met hw p3) (by decide) (by decide) (by decide) (by decide) ?_
      intro T1 h2 F3 v4 W5 Q6
      obtain ⟨s114, rfl, rfl, K114⟩ := Q6
      show G E x T1 (fr x 117 #[.val (.int p0), .val (.int p1), .val (.int p2), .val (.int p3), .val (.int f4), .val (.int f5), .val (.int f6), .val v7, .val v8, .val .null, .unset, .unset, .unset, .unset] [(.ref s114)])
      refine w_goto W5 B d_law_117 ?_
      exact L121 hw hQ B (v10 := (.ref s114)) r7 r8 rfl q8 q9 rfl ⟨fun q => absurd q hc110, fun _ q => nomatch q⟩ (W5.mono (fun _ q => nomatch q) (by decide) (by decide))
  ·
    refine w_astore W B d_law_106 rfl (Ls' := #[.val (.int p0), .val (.int p1), .val (.int p2), .val (.int p3), .val (.int f4), .val (.int f5), .val (.int f6), .val v7, .val v8, .val (.ref a9), .unset, .unset, .unset, .unset]) rfl ?_
    refine w_iload W B d_law_108 rfl ?_
    refine w_if_eq W B d_law_110 ?_ ?_
    · intro hc110
      show G E x T (fr x 120 #[.val (.int p0), .val (.int p1), .val (.int p2), .val (.int p3), .val (.int f4), .val (.int f5), .val (.int f6), .val v7, .val v8, .val (.ref a9), .unset, .unset, .unset, .unset] [])
      refine w_null W B d_law_120 ?_
      exact L121 hw hQ B (v10 := .null) r7 r8 rfl q8 q9 rfl ⟨fun _ => rfl, fun q => absurd hc110 q⟩ (W.mono (fun _ q => nomatch q) (by decide) (by decide))
    · intro hc110
      show G E x T (fr x 113 #[.val (.int p0), .val (.int p1), .val (.int p2), .val (.int p3), .val (.int f4), .val (.int f5), .val (.int f6), .val v7, .val v8, .val (.ref a9), .unset, .unset, .unset, .unset] [])
      refine w_iloadN W B d_law_113 rfl ?_
      refine w_static W B (y := ⟨"com/example/keryx/keryx/audit/ProcessUseAnonymousRefusalPinLaw", "str", "(I)Ljava/lang/String;"⟩) d_law_114 (wd hw 34 rfl) (wd hw 35 rfl) (wd hw 36 rfl) (wd hw 37 rfl) (by decide) pd__I_Ljava_lang_String_853 (argsL := [(.int p3)]) rfl rfl rfl (Wt := 0) (Nat.le_of_eq rfl) (str_met hw p3) (by decide) (by decide) (by decide) (by decide) ?_
      intro T7 h8 F9 v10 W11 Q12
      obtain ⟨s114, rfl, rfl, K114⟩ := Q12
      show G E x T7 (fr x 117 #[.val (.int p0), .val (.int p1), .val (.int p2), .val (.int p3), .val (.int f4), .val (.int f5), .val (.int f6), .val v7, .val v8, .val (.ref a9), .unset, .unset, .unset, .unset] [(.ref s114)])
      refine w_goto W11 B d_law_117 ?_
      exact L121 hw hQ B (v10 := (.ref s114)) r7 r8 rfl q8 q9 rfl ⟨fun q => absurd q hc110, fun _ q => nomatch q⟩ (W11.mono (fun _ q => nomatch q) (by decide) (by decide))
set_option maxRecDepth 65536 in
set_option maxHeartbeats 4000000 in
theorem L70 {E : Gl} (hw : Tb E) {x : Cx} {T : State} {h : Heap} (hQ : x.Q = fun r _ _ => r = some (.int 1)) (B : Is x "com/example/keryx/keryx/audit/ProcessUseAnonymousRefusalPinLaw" code 14 ({ frames := 8, cells := 56, slots := 1216, locals := 192 } : Room) (some .boolean) "law") {p0 p1 p2 p3 : Int32} {f4 : Int32} {f5 : Int32} {f6 : Int32} {v7 : Value} (r7 : v7.isRef = true) {v8 : Value} (r8 : v8.isRef = true) (q8 : (f4 = 0 → v8 = .null) ∧ (¬ f4 = 0 → v8 ≠ .null)) (W : Wk E x T h [] 6 37) : G E x T (fr x 70 #[.val (.int p0), .val (.int p1), .val (.int p2), .val (.int p3), .val (.int f4), .val (.int f5), .val (.int f6), .val v7, .unset, .unset, .unset, .unset, .unset, .unset] [v8]) := by
  rcases ref_cases r8 with rfl | ⟨a8, rfl⟩
  ·
    refine w_astore W B d_law_70 rfl (Ls' := #[.val (.int p0), .val (.int p1), .val (.int p2), .val (.int p3), .val (.int f4), .val (.int f5), .val (.int f6), .val v7, .val .null, .unset, .unset, .unset, .unset, .unset]) rfl ?_
    refine w_iload W B d_law_72 rfl ?_
    refine w_if_eq W B d_law_74 ?_ ?_
    · intro hc74
      show G E x T (fr x 105 #[.val (.int p0), .val (.int p1), .val (.int p2), .val (.int p3), .val (.int f4), .val (.int f5), .val (.int f6), .val v7, .val .null, .unset, .unset, .unset, .unset, .unset] [])
      refine w_null W B d_law_105 ?_
      exact L106 hw hQ B (v9 := .null) r7 rfl q8 rfl ⟨fun _ => rfl, fun q => absurd hc74 q⟩ (W.mono (fun _ q => nomatch q) (by decide) (by decide))
    · intro hc74
      show G E x T (fr x 77 #[.val (.int p0), .val (.int p1), .val (.int p2), .val (.int p3), .val (.int f4), .val (.int f5), .val (.int f6), .val v7, .val .null, .unset, .unset, .unset, .unset, .unset] [])
      refine w_new W B d_law_77 (wd hw 66 rfl) (wd hw 67 rfl) (wd hw 68 rfl) (by decide) (by decide) ?_
      intro T1 h2 b3 W4 g5 X6 A7 D8
      have f9 : Fld E.Z h2 b3 "com/example/keryx/keryx/audit/CertificateIdentity" "serial" "Ljava/lang/String;" .null := D8 (Or.inr (wd hw 74 rfl)) (ty := (.object "java/lang/String")) (by decide)
      have f10 : Fld E.Z h2 b3 "com/example/keryx/keryx/audit/CertificateIdentity" "issuer" "Ljava/lang/String;" .null := D8 (Or.inr (wd hw 76 rfl)) (ty := (.object "java/lang/String")) (by decide)
      have f11 : Fld E.Z h2 b3 "com/example/keryx/keryx/audit/CertificateIdentity" "subject" "Ljava/lang/String;" .null := D8 (Or.inr (wd hw 78 rfl)) (ty := (.object "java/lang/String")) (by decide)
      show G E x T1 (fr x 80 #[.val (.int p0), .val (.int p1), .val (.int p2), .val (.int p3), .val (.int f4), .val (.int f5), .val (.int f6), .val v7, .val .null, .unset, .unset, .unset, .unset, .unset] [(.ref b3)])
      refine w_dup W4 B d_law_80 rfl ?_
      refine w_iloadN W4 B d_law_81 rfl ?_
      refine w_static W4 B (y := ⟨"com/example/keryx/keryx/audit/ProcessUseAnonymousRefusalPinLaw", "str", "(I)Ljava/lang/String;"⟩) d_law_82 (wd hw 34 rfl) (wd hw 35 rfl) (wd hw 36 rfl) (wd hw 37 rfl) (by decide) pd__I_Ljava_lang_String_853 (argsL := [(.int p2)]) rfl rfl rfl (Wt := 2) (Nat.le_of_eq rfl) (str_met hw p2) (by decide) (by decide) (by decide) (by decide) ?_
      intro T12 h13 F14 v15 W16 Q17
      obtain ⟨s82, rfl, rfl, K82⟩ := Q17
      show G E x T12 (fr x 85 #[.val (.int p0), .val (.int p1), .val (.int p2), .val (.int p3), .val (.int f4), .val (.int f5), .val (.int f6), .val v7, .val .null, .unset, .unset, .unset, .unset, .unset] [(.ref s82), (.ref b3), (.ref b3)])
      refine w_iloadN W16 B d_law_85 rfl ?_
      refine w_bipush W16 B d_law_86 (v := (9 : Int32)) rfl ?_
      refine w_iushr W16 B d_law_88 ?_
      refine w_static W16 B (y := ⟨"com/example/keryx/keryx/audit/ProcessUseAnonymousRefusalPinLaw", "str", "(I)Ljava/lang/String;"⟩) d_law_89 (wd hw 34 rfl) (wd hw 35 rfl) (wd hw 36 rfl) (wd hw 37 rfl) (by decide) pd__I_Ljava_lang_String_853 (argsL := [(.int (XT.ushr p2 (9 : Int32)))]) rfl rfl rfl (Wt := 3) (Nat.le_of_eq rfl) (str_met hw (XT.ushr p2 (9 : Int32))) (by decide) (by decide) (by decide) (by decide) ?_
      intro T18 h19 F20 v21 W22 Q23
      obtain ⟨s89, rfl, rfl, K89⟩ := Q23
      show G E x T18 (fr x 92 #[.val (.int p0), .val (.int p1), .val (.int p2), .val (.int p3), .val (.int f4), .val (.int f5), .val (.int f6), .val v7, .val .null, .unset, .unset, .unset, .unset, .unset] [(.ref s89), (.ref s82), (.ref b3), (.ref b3)])
      refine w_iloadN W22 B d_law_92 rfl ?_
      refine w_bipush W22 B d_law_93 (v := (18 : Int32)) rfl ?_
      refine w_iushr W22 B d_law_95 ?_
      refine w_static W22 B (y := ⟨"com/example/keryx/keryx/audit/ProcessUseAnonymousRefusalPinLaw", "str", "(I)Ljava/lang/String;"⟩) d_law_96 (wd hw 34 rfl) (wd hw 35 rfl) (wd hw 36 rfl) (wd hw 37 rfl) (by decide) pd__I_Ljava_lang_String_853 (argsL := [(.int (XT.ushr p2 (18 : Int32)))]) rfl rfl rfl (Wt := 4) (Nat.le_of_eq rfl) (str_met hw (XT.ushr p2 (18 : Int32))) (by decide) (by decide) (by decide) (by decide) ?_
      intro T24 h25 F26 v27 W28 Q29
      obtain ⟨s96, rfl, rfl, K96⟩ := Q29
      show G E x T24 (fr x 99 #[.val (.int p0), .val (.int p1), .val (.int p2), .val (.int p3), .val (.int f4), .val (.int f5), .val (.int f6), .val v7, .val .null, .unset, .unset, .unset, .unset, .unset] [(.ref s96), (.ref s89), (.ref s82), (.ref b3), (.ref b3)])
      refine w_special W28 B (y := ⟨"com/example/keryx/keryx/audit/CertificateIdentity", "<init>", "(Ljava/lang/String;Ljava/lang/String;Ljava/lang/String;)V"⟩) d_law_99 rfl (wd hw 69 rfl) (wd hw 70 rfl) (wd hw 68 rfl) (wd hw 71 rfl) (by decide) pd__Ljava_lang_String_Ljava_lang_String_Ljava_lang_String__V270 (argsL := [(.ref s82), (.ref s89), (.ref s96)]) rfl rfl rfl (Wt := 1) (Nat.le_of_eq rfl) (ci_met hw rfl rfl rfl (List.Mem.head _) (((A7.keep K82).keep K89).keep K96) (((f9.keep K82 nin0).keep K89 nin0).keep K96 nin0) (((f10.keep K82 nin0).keep K89 nin0).keep K96 nin0) (((f11.keep K82 nin0).keep K89 nin0).keep K96 nin0)) (by decide) (by decide) (by decide) (by decide) ?_
      intro T30 h31 F32 v33 W34 Q35
      obtain ⟨rfl, rfl, KC, EC, fc1, fc2, fc3⟩ := Q35
      show G E x T30 (fr x 102 #[.val (.int p0), .val (.int p1), .val (.int p2), .val (.int p3), .val (.int f4), .val (.int f5), .val (.int f6), .val v7, .val .null, .unset, .unset, .unset, .unset, .unset] [(.ref b3)])
      refine w_goto W34 B d_law_102 ?_
      exact L106 hw hQ B (v9 := (.ref b3)) r7 rfl q8 rfl ⟨fun q => absurd q hc74, fun _ q => nomatch q⟩ (W34.mono (fun _ q => nomatch q) (by decide) (by decide))
  ·
    refine w_astore W B d_law_70 rfl (Ls' := #[.val (.int p0), .val (.int p1), .val (.int p2), .val (.int p3), .val (.int f4), .val (.int f5), .val (.int f6), .val v7, .val (.ref a8), .unset, .unset, .unset, .unset, .unset]) rfl ?_
    refine w_iload W B d_law_72 rfl ?_
    refine w_if_eq W B d_law_74 ?_ ?_
    · intro hc74
      show G E x T (fr x 105 #[.val (.int p0), .val (.int p1), .val (.int p2), .val (.int p3), .val (.int f4), .val (.int f5), .val (.int f6), .val v7, .val (.ref a8), .unset, .unset, .unset, .unset, .unset] [])
      refine w_null W B d_law_105 ?_
      exact L106 hw hQ B (v9 := .null) r7 rfl q8 rfl ⟨fun _ => rfl, fun q => absurd hc74 q⟩ (W.mono (fun _ q => nomatch q) (by decide) (by decide))
    · intro hc74
      show G E x T (fr x 77 #[.val (.int p0), .val (.int p1), .val (.int p2), .val (.int p3), .val (.int f4), .val (.int f5), .val (.int f6), .val v7, .val (.ref a8), .unset, .unset, .unset, .unset, .unset] [])
      refine w_new W B d_law_77 (wd hw 66 rfl) (wd hw 67 rfl) (wd hw 68 rfl) (by decide) (by decide) ?_
      intro T36 h37 b38 W39 g40 X41 A42 D43
      have f44 : Fld E.Z h37 b38 "com/example/keryx/keryx/audit/CertificateIdentity" "serial" "Ljava/lang/String;" .null := D43 (Or.inr (wd hw 74 rfl)) (ty := (.object "java/lang/String")) (by decide)
      have f45 : Fld E.Z h37 b38 "com/example/keryx/keryx/audit/CertificateIdentity" "issuer" "Ljava/lang/String;" .null := D43 (Or.inr (wd hw 76 rfl)) (ty := (.object "java/lang/String")) (by decide)
      have f46 : Fld E.Z h37 b38 "com/example/keryx/keryx/audit/CertificateIdentity" "subject" "Ljava/lang/String;" .null := D43 (Or.inr (wd hw 78 rfl)) (ty := (.object "java/lang/String")) (by decide)
      show G E x T36 (fr x 80 #[.val (.int p0), .val (.int p1), .val (.int p2), .val (.int p3), .val (.int f4), .val (.int f5), .val (.int f6), .val v7, .val (.ref a8), .unset, .unset, .unset, .unset, .unset] [(.ref b38)])
      refine w_dup W39 B d_law_80 rfl ?_
      refine w_iloadN W39 B d_law_81 rfl ?_
      refine w_static W39 B (y := ⟨"com/example/keryx/keryx/audit/ProcessUseAnonymousRefusalPinLaw", "str", "(I)Ljava/lang/String;"⟩) d_law_82 (wd hw 34 rfl) (wd hw 35 rfl) (wd hw 36 rfl) (wd hw 37 rfl) (by decide) pd__I_Ljava_lang_String_853 (argsL := [(.int p2)]) rfl rfl rfl (Wt := 2) (Nat.le_of_eq rfl) (str_met hw p2) (by decide) (by decide) (by decide) (by decide) ?_
      intro T47 h48 F49 v50 W51 Q52
      obtain ⟨s82, rfl, rfl, K82⟩ := Q52
      show G E x T47 (fr x 85 #[.val (.int p0), .val (.int p1), .val (.int p2), .val (.int p3), .val (.int f4), .val (.int f5), .val (.int f6), .val v7, .val (.ref a8), .unset, .unset, .unset, .unset, .unset] [(.ref s82), (.ref b38), (.ref b38)])
      refine w_iloadN W51 B d_law_85 rfl ?_
      refine w_bipush W51 B d_law_86 (v := (9 : Int32)) rfl ?_
      refine w_iushr W51 B d_law_88 ?_
      refine w_static W51 B (y := ⟨"com/example/keryx/keryx/audit/ProcessUseAnonymousRefusalPinLaw", "str", "(I)Ljava/lang/String;"⟩) d_law_89 (wd hw 34 rfl) (wd hw 35 rfl) (wd hw 36 rfl) (wd hw 37 rfl) (by decide) pd__I_Ljava_lang_String_853 (argsL := [(.int (XT.ushr p2 (9 : Int32)))]) rfl rfl rfl (Wt := 3) (Nat.le_of_eq rfl) (str_met hw (XT.ushr p2 (9 : Int32))) (by decide) (by decide) (by decide) (by decide) ?_
      intro T53 h54 F55 v56 W57 Q58
      obtain ⟨s89, rfl, rfl, K89⟩ := Q58
      show G E x T53 (fr x 92 #[.val (.int p0), .val (.int p1), .val (.int p2), .val (.int p3), .val (.int f4), .val (.int f5), .val (.int f6), .val v7, .val (.ref a8), .unset, .unset, .unset, .unset, .unset] [(.ref s89), (.ref s82), (.ref b38), (.ref b38)])
      refine w_iloadN W57 B d_law_92 rfl ?_
      refine w_bipush W57 B d_law_93 (v := (18 : Int32)) rfl ?_
      refine w_iushr W57 B d_law_95 ?_
      refine w_static W57 B (y := ⟨"com/example/keryx/keryx/audit/ProcessUseAnonymousRefusalPinLaw", "str", "(I)Ljava/lang/String;"⟩) d_law_96 (wd hw 34 rfl) (wd hw 35 rfl) (wd hw 36 rfl) (wd hw 37 rfl) (by decide) pd__I_Ljava_lang_String_853 (argsL := [(.int (XT.ushr p2 (18 : Int32)))]) rfl rfl rfl (Wt := 4) (Nat.le_of_eq rfl) (str_met hw (XT.ushr p2 (18 : Int32))) (by decide) (by decide) (by decide) (by decide) ?_
      intro T59 h60 F61 v62 W63 Q64
      obtain ⟨s96, rfl, rfl, K96⟩ := Q64
      show G E x T59 (fr x 99 #[.val (.int p0), .val (.int p1), .val (.int p2), .val (.int p3), .val (.int f4), .val (.int f5), .val (.int f6), .val v7, .val (.ref a8), .unset, .unset, .unset, .unset, .unset] [(.ref s96), (.ref s89), (.ref s82), (.ref b38), (.ref b38)])
      refine w_special W63 B (y := ⟨"com/example/keryx/keryx/audit/CertificateIdentity", "<init>", "(Ljava/lang/String;Ljava/lang/String;Ljava/lang/String;)V"⟩) d_law_99 rfl (wd hw 69 rfl) (wd hw 70 rfl) (wd hw 68 rfl) (wd hw 71 rfl) (by decide) pd__Ljava_lang_String_Ljava_lang_String_Ljava_lang_String__V270 (argsL := [(.ref s82), (.ref s89), (.ref s96)]) rfl rfl rfl (Wt := 1) (Nat.le_of_eq rfl) (ci_met hw rfl rfl rfl (List.Mem.head _) (((A42.keep K82).keep K89).keep K96) (((f44.keep K82 nin0).keep K89 nin0).keep K96 nin0) (((f45.keep K82 nin0).keep K89 nin0).keep K96 nin0) (((f46.keep K82 nin0).keep K89 nin0).keep K96 nin0)) (by decide) (by decide) (by decide) (by decide) ?_
      intro T65 h66 F67 v68 W69 Q70
      obtain ⟨rfl, rfl, KC, EC, fc1, fc2, fc3⟩ := Q70
      show G E x T65 (fr x 102 #[.val (.int p0), .val (.int p1), .val (.int p2), .val (.int p3), .val (.int f4), .val (.int f5), .val (.int f6), .val v7, .val (.ref a8), .unset, .unset, .unset, .unset, .unset] [(.ref b38)])
      refine w_goto W69 B d_law_102 ?_
      exact L106 hw hQ B (v9 := (.ref b38)) r7 rfl q8 rfl ⟨fun q => absurd q hc74, fun _ q => nomatch q⟩ (W69.mono (fun _ q => nomatch q) (by decide) (by decide))
set_option maxRecDepth 65536 in
set_option maxHeartbeats 4000000 in
theorem L55 {E : Gl} (hw : Tb E) {x : Cx} {T : State} {h : Heap} (hQ : x.Q = fun r _ _ => r = some (.int 1)) (B : Is x "com/example/keryx/keryx/audit/ProcessUseAnonymousRefusalPinLaw" code 14 ({ frames := 8, cells := 56, slots := 1216, locals := 192 } : Room) (some .boolean) "law") {p0 p1 p2 p3 : Int32} {f4 : Int32} {f5 : Int32} {f6 : Int32} {v7 : Value} (r7 : v7.isRef = true) (W : Wk E x T h [] 0 0) : G E x T (fr x 55 #[.val (.int p0), .val (.int p1), .val (.int p2), .val (.int p3), .val (.int f4), .val (.int f5), .val (.int f6), .unset, .unset, .unset, .unset, .unset, .unset, .unset] [v7]) := by
  rcases ref_cases r7 with rfl | ⟨a7, rfl⟩
  ·
    refine w_astore W B d_law_55 rfl (Ls' := #[.val (.int p0), .val (.int p1), .val (.int p2), .val (.int p3), .val (.int f4), .val (.int f5), .val (.int f6), .val .null, .unset, .unset, .unset, .unset, .unset, .unset]) rfl ?_
    refine w_iload W B d_law_57 rfl ?_
    refine w_if_eq W B d_law_59 ?_ ?_
    · intro hc59
      show G E x T (fr x 69 #[.val (.int p0), .val (.int p1), .val (.int p2), .val (.int p3), .val (.int f4), .val (.int f5), .val (.int f6), .val .null, .unset, .unset, .unset, .unset, .unset, .unset] [])
      refine w_null W B d_law_69 ?_
      exact L70 hw hQ B (v8 := .null) rfl  rfl ⟨fun _ => rfl, fun q => absurd hc59 q⟩ (W.mono (fun _ q => nomatch q) (by decide) (by decide))
    · intro hc59
      show G E x T (fr x 62 #[.val (.int p0), .val (.int p1), .val (.int p2), .val (.int p3), .val (.int f4), .val (.int f5), .val (.int f6), .val .null, .unset, .unset, .unset, .unset, .unset, .unset] [])
      refine w_iloadN W B d_law_62 rfl ?_
      refine w_static W B (y := ⟨"com/example/keryx/keryx/audit/ProcessUseAnonymousRefusalPinLaw", "str", "(I)Ljava/lang/String;"⟩) d_law_63 (wd hw 34 rfl) (wd hw 35 rfl) (wd hw 36 rfl) (wd hw 37 rfl) (by decide) pd__I_Ljava_lang_String_853 (argsL := [(.int p1)]) rfl rfl rfl (Wt := 0) (Nat.le_of_eq rfl) (str_met hw p1) (by decide) (by decide) (by decide) (by decide) ?_
      intro T1 h2 F3 v4 W5 Q6
      obtain ⟨s63, rfl, rfl, K63⟩ := Q6
      show G E x T1 (fr x 66 #[.val (.int p0), .val (.int p1), .val (.int p2), .val (.int p3), .val (.int f4), .val (.int f5), .val (.int f6), .val .null, .unset, .unset, .unset, .unset, .unset, .unset] [(.ref s63)])
      refine w_goto W5 B d_law_66 ?_
      exact L70 hw hQ B (v8 := (.ref s63)) rfl  rfl ⟨fun q => absurd q hc59, fun _ q => nomatch q⟩ (W5.mono (fun _ q => nomatch q) (by decide) (by decide))
  ·
    refine w_astore W B d_law_55 rfl (Ls' := #[.val (.int p0), .val (.int p1), .val (.int p2), .val (.int p3), .val (.int f4), .val (.int f5), .val (.int f6), .val (.ref a7), .unset, .unset, .unset, .unset, .unset, .unset]) rfl ?_
    refine w_iload W B d_law_57 rfl ?_
    refine w_if_eq W B d_law_59 ?_ ?_
    · intro hc59
      show G E x T (fr x 69 #[.val (.int p0), .val (.int p1), .val (.int p2), .val (.int p3), .val (.int f4), .val (.int f5), .val (.int f6), .val (.ref a7), .unset, .unset, .unset, .unset, .unset, .unset] [])
      refine w_null W B d_law_69 ?_
      exact L70 hw hQ B (v8 := .null) rfl  rfl ⟨fun _ => rfl, fun q => absurd hc59 q⟩ (W.mono (fun _ q => nomatch q) (by decide) (by decide))
    · intro hc59
      show G E x T (fr x 62 #[.val (.int p0), .val (.int p1), .val (.int p2), .val (.int p3), .val (.int f4), .val (.int f5), .val (.int f6), .val (.ref a7), .unset, .unset, .unset, .unset, .unset, .unset] [])
      refine w_iloadN W B d_law_62 rfl ?_
      refine w_static W B (y := ⟨"com/example/keryx/keryx/audit/ProcessUseAnonymousRefusalPinLaw", "str", "(I)Ljava/lang/String;"⟩) d_law_63 (wd hw 34 rfl) (wd hw 35 rfl) (wd hw 36 rfl) (wd hw 37 rfl) (by decide) pd__I_Ljava_lang_String_853 (argsL := [(.int p1)]) rfl rfl rfl (Wt := 0) (Nat.le_of_eq rfl) (str_met hw p1) (by decide) (by decide) (by decide) (by decide) ?_
      intro T7 h8 F9 v10 W11 Q12
      obtain ⟨s63, rfl, rfl, K63⟩ := Q12
      show G E x T7 (fr x 66 #[.val (.int p0), .val (.int p1), .val (.int p2), .val (.int p3), .val (.int f4), .val (.int f5), .val (.int f6), .val (.ref a7), .unset, .unset, .unset, .unset, .unset, .unset] [(.ref s63)])
      refine w_goto W11 B d_law_66 ?_
      exact L70 hw hQ B (v8 := (.ref s63)) rfl  rfl ⟨fun q => absurd q hc59, fun _ q => nomatch q⟩ (W11.mono (fun _ q => nomatch q) (by decide) (by decide))
set_option maxRecDepth 65536 in
set_option maxHeartbeats 4000000 in
theorem L37 {E : Gl} (hw : Tb E) {x : Cx} {T : State} {h : Heap} {t1 t2 : Addr} (S1 : Sta E.Z E.Z.heap "com/example/keryx/keryx/audit/AuditedProcess" "TOKEN" "Lcom/example/keryx/keryx/audit/AuditedProcess;" (.ref t1)) (S2 : Sta E.Z E.Z.heap "com/example/keryx/keryx/audit/AuditedProcess" "DECIDE" "Lcom/example/keryx/keryx/audit/AuditedProcess;" (.ref t2)) (hQ : x.Q = fun r _ _ => r = some (.int 1)) (B : Is x "com/example/keryx/keryx/audit/ProcessUseAnonymousRefusalPinLaw" code 14 ({ frames := 8, cells := 56, slots := 1216, locals := 192 } : Room) (some .boolean) "law") {p0 p1 p2 p3 : Int32} {f4 : Int32} {f5 : Int32} {f6 : Int32} (W : Wk E x T h [] 0 0) : G E x T (fr x 37 #[.val (.int p0), .val (.int p1), .val (.int p2), .val (.int p3), .val (.int f4), .val (.int f5), .unset, .unset, .unset, .unset, .unset, .unset, .unset, .unset] [(.int f6)]) := by
  refine w_istore W B d_law_37 (Ls' := #[.val (.int p0), .val (.int p1), .val (.int p2), .val (.int p3), .val (.int f4), .val (.int f5), .val (.int f6), .unset, .unset, .unset, .unset, .unset, .unset, .unset]) rfl ?_
  refine w_iloadN W B d_law_39 rfl ?_
  refine w_bipush W B d_law_40 (v := (8 : Int32)) rfl ?_
  refine w_iand W B d_law_42 ?_
  refine w_if_eq W B d_law_43 ?_ ?_
  · intro hc43
    show G E x T (fr x 52 #[.val (.int p0), .val (.int p1), .val (.int p2), .val (.int p3), .val (.int f4), .val (.int f5), .val (.int f6), .unset, .unset, .unset, .unset, .unset, .unset, .unset] [])
    refine w_getS W B d_law_52 (wd hw 0 rfl) Via.refl S2 ?_
    intro T1 W2
    exact L55 hw hQ B (v7 := (.ref t2)) rfl W2
  · intro hc43
    show G E x T (fr x 46 #[.val (.int p0), .val (.int p1), .val (.int p2), .val (.int p3), .val (.int f4), .val (.int f5), .val (.int f6), .unset, .unset, .unset, .unset, .unset, .unset, .unset] [])
    refine w_getS W B d_law_46 (wd hw 32 rfl) Via.refl S1 ?_
    intro T3 W4
    refine w_goto W4 B d_law_49 ?_
    exact L55 hw hQ B (v7 := (.ref t1)) rfl W4
set_option maxRecDepth 65536 in
set_option maxHeartbeats 4000000 in
theorem L24 {E : Gl} (hw : Tb E) {x : Cx} {T : State} {h : Heap} {t1 t2 : Addr} (S1 : Sta E.Z E.Z.heap "com/example/keryx/keryx/audit/AuditedProcess" "TOKEN" "Lcom/example/keryx/keryx/audit/AuditedProcess;" (.ref t1)) (S2 : Sta E.Z E.Z.heap "com/example/keryx/keryx/audit/AuditedProcess" "DECIDE" "Lcom/example/keryx/keryx/audit/AuditedProcess;" (.ref t2)) (hQ : x.Q = fun r _ _ => r = some (.int 1)) (B : Is x "com/example/keryx/keryx/audit/ProcessUseAnonymousRefusalPinLaw" code 14 ({ frames := 8, cells := 56, slots := 1216, locals := 192 } : Room) (some .boolean) "law") {p0 p1 p2 p3 : Int32} {f4 : Int32} {f5 : Int32} (W : Wk E x T h [] 0 0) : G E x T (fr x 24 #[.val (.int p0), .val (.int p1), .val (.int p2), .val (.int p3), .val (.int f4), .unset, .unset, .unset, .unset, .unset, .unset, .unset, .unset, .unset] [(.int f5)]) := by
  refine w_istore W B d_law_24 (Ls' := #[.val (.int p0), .val (.int p1), .val (.int p2), .val (.int p3), .val (.int f4), .val (.int f5), .unset, .unset, .unset, .unset, .unset, .unset, .unset, .unset]) rfl ?_
  refine w_iloadN W B d_law_26 rfl ?_
  refine w_iconst W B d_law_27 (v := (4 : Int32)) rfl ?_
  refine w_iand W B d_law_28 ?_
  refine w_if_eq W B d_law_29 ?_ ?_
  · intro hc29
    show G E x T (fr x 36 #[.val (.int p0), .val (.int p1), .val (.int p2), .val (.int p3), .val (.int f4), .val (.int f5), .unset, .unset, .unset, .unset, .unset, .unset, .unset, .unset] [])
    refine w_iconst W B d_law_36 (v := (0 : Int32)) rfl ?_
    exact L37 hw S1 S2 hQ B (f6 := (0 : Int32)) W
  · intro hc29
    show G E x T (fr x 32 #[.val (.int p0), .val (.int p1), .val (.int p2), .val (.int p3), .val (.int f4), .val (.int f5), .unset, .unset, .unset, .unset, .unset, .unset, .unset, .unset] [])
    refine w_iconst W B d_law_32 (v := (1 : Int32)) rfl ?_
    refine w_goto W B d_law_33 ?_
    exact L37 hw S1 S2 hQ B (f6 := (1 : Int32)) W
set_option maxRecDepth 65536 in
set_option maxHeartbeats 4000000 in
theorem L11 {E : Gl} (hw : Tb E) {x : Cx} {T : State} {h : Heap} {t1 t2 : Addr} (S1 : Sta E.Z E.Z.heap "com/example/keryx/keryx/audit/AuditedProcess" "TOKEN" "Lcom/example/keryx/keryx/audit/AuditedProcess;" (.ref t1)) (S2 : Sta E.Z E.Z.heap "com/example/keryx/keryx/audit/AuditedProcess" "DECIDE" "Lcom/example/keryx/keryx/audit/AuditedProcess;" (.ref t2)) (hQ : x.Q = fun r _ _ => r = some (.int 1)) (B : Is x "com/example/keryx/keryx/audit/ProcessUseAnonymousRefusalPinLaw" code 14 ({ frames := 8, cells := 56, slots := 1216, locals := 192 } : Room) (some .boolean) "law") {p0 p1 p2 p3 : Int32} {f4 : Int32} (W : Wk E x T h [] 0 0) : G E x T (fr x 11 #[.val (.int p0), .val (.int p1), .val (.int p2), .val (.int p3), .unset, .unset, .unset, .unset, .unset, .unset, .unset, .unset, .unset, .unset] [(.int f4)]) := by
  refine w_istore W B d_law_11 (Ls' := #[.val (.int p0), .val (.int p1), .val (.int p2), .val (.int p3), .val (.int f4), .unset, .unset, .unset, .unset, .unset, .unset, .unset, .unset, .unset]) rfl ?_
  refine w_iloadN W B d_law_13 rfl ?_
  refine w_iconst W B d_law_14 (v := (2 : Int32)) rfl ?_
  refine w_iand W B d_law_15 ?_
  refine w_if_eq W B d_law_16 ?_ ?_
  · intro hc16
    show G E x T (fr x 23 #[.val (.int p0), .val (.int p1), .val (.int p2), .val (.int p3), .val (.int f4), .unset, .unset, .unset, .unset, .unset, .unset, .unset, .unset, .unset] [])
    refine w_iconst W B d_law_23 (v := (0 : Int32)) rfl ?_
    exact L24 hw S1 S2 hQ B (f5 := (0 : Int32)) W
  · intro hc16
    show G E x T (fr x 19 #[.val (.int p0), .val (.int p1), .val (.int p2), .val (.int p3), .val (.int f4), .unset, .unset, .unset, .unset, .unset, .unset, .unset, .unset, .unset] [])
    refine w_iconst W B d_law_19 (v := (1 : Int32)) rfl ?_
    refine w_goto W B d_law_20 ?_
    exact L24 hw S1 S2 hQ B (f5 := (1 : Int32)) W
set_option maxRecDepth 65536 in
set_option maxHeartbeats 4000000 in
theorem L0 {E : Gl} (hw : Tb E) {x : Cx} {T : State} {h : Heap} {t1 t2 : Addr} (S1 : Sta E.Z E.Z.heap "com/example/keryx/keryx/audit/AuditedProcess" "TOKEN" "Lcom/example/keryx/keryx/audit/AuditedProcess;" (.ref t1)) (S2 : Sta E.Z E.Z.heap "com/example/keryx/keryx/audit/AuditedProcess" "DECIDE" "Lcom/example/keryx/keryx/audit/AuditedProcess;" (.ref t2)) (hQ : x.Q = fun r _ _ => r = some (.int 1)) (B : Is x "com/example/keryx/keryx/audit/ProcessUseAnonymousRefusalPinLaw" code 14 ({ frames := 8, cells := 56, slots := 1216, locals := 192 } : Room) (some .boolean) "law") {p0 p1 p2 p3 : Int32} (W : Wk E x T h [] 0 0) : G E x T (fr x 0 #[.val (.int p0), .val (.int p1), .val (.int p2), .val (.int p3), .unset, .unset, .unset, .unset, .unset, .unset, .unset, .unset, .unset, .unset] []) := by
  refine w_iloadN W B d_law_0 rfl ?_
  refine w_iconst W B d_law_1 (v := (1 : Int32)) rfl ?_
  refine w_iand W B d_law_2 ?_
  refine w_if_eq W B d_law_3 ?_ ?_
  · intro hc3
    show G E x T (fr x 10 #[.val (.int p0), .val (.int p1), .val (.int p2), .val (.int p3), .unset, .unset, .unset, .unset, .unset, .unset, .unset, .unset, .unset, .unset] [])
    refine w_iconst W B d_law_10 (v := (0 : Int32)) rfl ?_
    exact L11 hw S1 S2 hQ B (f4 := (0 : Int32)) W
  · intro hc3
    show G E x T (fr x 6 #[.val (.int p0), .val (.int p1), .val (.int p2), .val (.int p3), .unset, .unset, .unset, .unset, .unset, .unset, .unset, .unset, .unset, .unset] [])
    refine w_iconst W B d_law_6 (v := (1 : Int32)) rfl ?_
    refine w_goto W B d_law_7 ?_
    exact L11 hw S1 S2 hQ B (f4 := (1 : Int32)) W
set_option maxRecDepth 65536 in
set_option maxHeartbeats 4000000 in
theorem law_met {E : Gl} (hw : Tb E) {t1 t2 : Addr} (S1 : Sta E.Z E.Z.heap "com/example/keryx/keryx/audit/AuditedProcess" "TOKEN" "Lcom/example/keryx/keryx/audit/AuditedProcess;" (.ref t1)) (S2 : Sta E.Z E.Z.heap "com/example/keryx/keryx/audit/AuditedProcess" "DECIDE" "Lcom/example/keryx/keryx/audit/AuditedProcess;" (.ref t2)) (p0 p1 p2 p3 : Int32) (h : Heap) :
    MetT tables_1 E x code maxLocals ret room_1 #[.int p0, .int p1, .int p2, .int p3] h [] (fun r _ _ => r = some (.int 1)) := by
  refine met_of (by decide +kernel) fun x T hQ B W => ?_
  refine G.cast (g' := fr x 0 #[.val (.int p0), .val (.int p1), .val (.int p2), .val (.int p3), .unset, .unset, .unset, .unset, .unset, .unset, .unset, .unset, .unset, .unset] []) (by simp [entryFrame, mkF, argsToLocals, Value.category, maxLocals]) ?_
  exact L0 hw S1 S2 hQ B W
theorem comes_1 {Post : Tables → Env → Array Value → State → Outcome → State → Prop} (hpost : ∀ tb e args s v u, (limb_1_1.after args s (.returned v) u = true ∧ limb_1_2.after args s (.returned v) u = true ∧ True) → FramedW s (.returned v) u (Jvm.fieldLocs frame_1_writes args s ++ Jvm.arrayLocs frame_1_arrays args s ++ Jvm.staticLocs frame_1_statics s) 56 1216 → Post tb e args s (.returned v) u) :
    ArmFor flags0 classFile x code maxLocals ret World_1 tables_1 room_1 Calls_1 rest_1 Pre_1 Post := by
  intro l hfl _ _ p e ha hc hk s m args below hf hA hF happ hP
  obtain ⟨hcalls, hrest, hpre⟩ := hP
  obtain ⟨-, -, -, hnamed, -, -, -, hat⟩ := (Spec.applies_iff hf).mp happ
  obtain ⟨hg, hn⟩ := and_e (Cond.before_iff.mp (show (Jvm.Cond.and given_1 narrow_1).before args s = true from hpre))
  obtain ⟨hg0, g0⟩ := and_e hg
  obtain ⟨k0, g1⟩ := and_e g0
  obtain ⟨k1, g2⟩ := and_e g1
  obtain ⟨k2, g3⟩ := and_e g2
  have k3 := g3
  obtain ⟨w0, w1, w2, w3, rfl⟩ : ∃ w0 w1 w2 w3 : Value, args = #[w0, w1, w2, w3] := by
    have hs : args.size = 4 := by simpa [Cond.value, given_1] using hg0
    obtain ⟨L⟩ := args
    match L, hs with
    | [w0, w1, w2, w3], _ => exact ⟨w0, w1, w2, w3, rfl⟩
  obtain ⟨p0, e0⟩ := is_v k0
  obtain rfl : w0 = (.int p0) := Option.some.inj e0
  obtain ⟨p1, e1⟩ := is_v k1
  obtain rfl : w1 = (.int p1) := Option.some.inj e1
  obtain ⟨p2, e2⟩ := is_v k2
  obtain rfl : w2 = (.int p2) := Option.some.inj e2
  obtain ⟨p3, e3⟩ := is_v k3
  obtain rfl : w3 = (.int p3) := Option.some.inj e3
  have hw0 := fun d (hd : d ∈ tables_1) => atoms_spec (ws := Jvm.Cond.code x code maxLocals ret :: tables_1) hat d (List.mem_cons_of_mem _ hd)
  obtain ⟨hsets, hown0⟩ := atoms_of _ (rest_1_c_eq ▸ (show rest_1_c.before _ s = true from hrest))
  have hfit : Fit s := fun {y c} hc i hi => by
    obtain ⟨ha, rfl⟩ := Array.getElem?_eq_some_iff.mp hc
    have q := List.all_eq_true.mp ((Array.all_eq_true_iff_forall_mem.mp hF) _ (Array.getElem_mem ha)) i (List.mem_range.mpr hi)
    simpa [Array.getElem?_eq_getElem hi] using q
  let E : Gl := (l, s, #[(.int p0), (.int p1), (.int p2), (.int p3)], s.heap.size, true, consts_1)
  have hw : Tb E := ⟨hw0, hsets, rfl, rfl⟩
  have hEW : EW E.Z E.a E.K := (EW.cons (text := "") (wd hw 79 rfl) (by decide) EW.nil)
  have hCH : CHv E.Z E.K E.Z.vm E.Z.heap := CHv.start hEW hcalls.1 (sd hw 2 rfl) (wd hw 55 rfl) (wd hw 40 rfl)
  obtain ⟨m1, m2⟩ := and_e hn
  obtain ⟨t2, q2⟩ := exa_v m1
  obtain ⟨t1, q1⟩ := exa_v m2
  have S1 : Sta E.Z E.Z.heap "com/example/keryx/keryx/audit/AuditedProcess" "TOKEN" "Lcom/example/keryx/keryx/audit/AuditedProcess;" (.ref t1) := Sta.start q1 (Or.inr ⟨(wd hw 1 rfl), (wd hw 33 rfl)⟩)
  have S2 : Sta E.Z E.Z.heap "com/example/keryx/keryx/audit/AuditedProcess" "DECIDE" "Lcom/example/keryx/keryx/audit/AuditedProcess;" (.ref t2) := Sta.start q2 (Or.inr ⟨(wd hw 1 rfl), (wd hw 2 rfl)⟩)
  obtain ⟨n, o, h1, h2, h3, v, L, F', rfl, rfl, N, -, -, -, hq⟩ := law_met hw S1 S2 p0 p1 p2 p3 _ p e ha hc hk s m _ below hf ((Spec.applies_iff_loose hf).mp happ).1 ⟨rfl, State.Warmed39.refl s, rfl, Old.start s, hCH, (fun _ q => nomatch q), hEW, (fun q => nomatch q)⟩ trivial
  have hq : ReturnedEndW _ _ _ _ _ _ := hq
  exact ⟨n, _, h1, h2, h3, hpost _ _ _ _ _ _ ⟨Cond.after_iff.mpr rfl, Cond.after_iff.mpr (eq_i res_at (Term.int_eval (1)) rfl), trivial⟩ ⟨hq.1, hq.2.1, hq.2.2.1, hq.2.2.2.sift fun y hy => Or.inr (N y hy)⟩⟩
theorem main_1_1 : Claimed_1_1 := comes_1 fun _ _ _ _ _ _ h hF => ⟨h.1, hF⟩
theorem main_1_2 : Claimed_1_2 := comes_1 fun _ _ _ _ _ _ h hF => ⟨h.2.1, hF⟩
end Jvm.Pilot.@@N@@
namespace Jvm.Pilot.@@N@@
open Jvm Jvm.ClassFile Sem Op Lib Jvm.Free Jvm.Stand Jvm.Pilot.@@N@@.Jvm.D
/-! MADE BY PROGRAM (witnessworld.py) out of the Statement's table words and the real class files: 24 classes; the members and pool entries that the words name. The judged class is class 1, her method 1. -/
namespace start1
open Jvm.ClassFile
def u (s : String) : CpInfo := .utf8 (stringToUtf16 s)
/-- a pool by its gaps: so many unusable entries, then the entry; so many at the end -/
def gap : Nat → List CpInfo → List CpInfo
  | 0, r => r
  | n + 1, r => .unusable :: gap n r
def poolList (es : List (Nat × CpInfo)) (last : Nat) : List CpInfo := es.foldr (fun e r => gap e.1 (e.2 :: r)) (gap last [])
def pool (es : List (Nat × CpInfo)) (last : Nat) : Array CpInfo := ⟨poolList es last⟩
def fileOf (pool : Array CpInfo) (this : Nat) (attrs : Array Attribute := #[]) (ms : Array MethodInfo := #[]) (fl : Nat := 33) (sup : Nat := 0) (ifs : Array Nat := #[]) (fds : Array FieldInfo := #[]) : ClassFile where
  minorVersion := 0
  majorVersion := 65
  constantPool := pool
  accessFlags := fl
  thisClass := this
  superClass := sup
  interfaces := ifs
  fields := fds
  methods := ms
  attributes := attrs
def plain (name : String) (sup : Option ClassId) : Class where
  name := name
  kind := .ordinary
  loader := none
  accessFlags := 33
  super := sup
  interfaces := #[]
  cf := none
  fields := #[]
  methods := #[]
  instanceTypes := #[]
  staticTypes := #[]
  resolved := #[]
  callSites := []
  init := .initialized
  statics := none
  mirror := none

def pool0 : Array CpInfo := pool [(5, u "<init>"), (0, u "()V"), (1, .class_ 10), (1, u "java/lang/Object")] 113

def k0c0 : Code := { maxStack := 0, maxLocals := 1, code := object_method_1_code, exceptionTable := #[], attributes := #[] }
def k0m0 : Method := { name := "<init>", desc := "()V", sig := { parameters := [], returnType := none }, accessFlags := 1, code := some k0c0 }
/-- java/lang/Object -/
def k0 : Class := { plain "java/lang/Object" none with
  accessFlags := 33
  interfaces := #[]
  cf := some (fileOf pool0 8 #[] #[{ accessFlags := 1, nameIndex := 5, descriptorIndex := 6, attributes := #[] }] 33 0 #[] #[])
  fields := #[]
  methods := #[k0m0]
  instanceTypes := #[]
  staticTypes := #[]
  resolved := Array.replicate 124 none
  statics := none }

def pool1 : Array CpInfo := pool [(2, .class_ 4), (1, u "java/lang/Object"), (0, u "<init>"), (0, u "()V"), (0, .fieldref 8 9), (0, .class_ 10), (0, .nameAndType 11 12), (0, u "com/example/keryx/keryx/audit/AuditedProcess"), (0, u "TOKEN"), (0, u "Lcom/example/keryx/keryx/audit/AuditedProcess;"), (0, .fieldref 8 14), (0, .nameAndType 15 12), (0, u "DECIDE"), (0, .methodref 17 18), (0, .class_ 19), (0, .nameAndType 20 21), (0, u "com/example/keryx/keryx/audit/ProcessUseAnonymousRefusalPinLaw"), (0, u "str"), (0, u "(I)Ljava/lang/String;"), (0, .class_ 23), (0, u "com/example/keryx/keryx/audit/CertificateIdentity"), (0, .methodref 22 25), (0, .nameAndType 5 26), (0, u "(Ljava/lang/String;Ljava/lang/String;Ljava/lang/String;)V"), (0, .class_ 28), (0, u "com/example/keryx/keryx/audit/ProcessUse"), (0, .methodref 27 30), (0, .nameAndType 5 31), (0, u "(Lcom/example/keryx/keryx/audit/AuditedProcess;Lcom/example/keryx/keryx/audit/CertificateIdentity;Ljava/lang/String;Ljava/lang/String;Ljava/lang/String;)V"), (0, .methodref 27 33), (0, .nameAndType 34 35), (0, u "anonymousRefusal"), (0, u "()Z"), (0, .class_ 37), (0, u "java/lang/String"), (0, .methodref 36 39), (0, .nameAndType 5 40), (0, u "([C)V"), (2, u "law"), (0, u "(IIII)Z")] 3

def k1m0 : Method := { name := "<init>", desc := "()V", sig := { parameters := [], returnType := none }, accessFlags := 1, code := none }
def k1c1 : Code := { maxStack := 7, maxLocals := 14, code := code, exceptionTable := #[], attributes := #[] }
def k1m1 : Method := { name := "law", desc := "(IIII)Z", sig := { parameters := [.int, .int, .int, .int], returnType := some .boolean }, accessFlags := 9, code := some k1c1 }
def k1c2 : Code := { maxStack := 4, maxLocals := 2, code := method_3_code, exceptionTable := #[], attributes := #[] }
def k1m2 : Method := { name := "str", desc := "(I)Ljava/lang/String;", sig := { parameters := [.int], returnType := some (.object "java/lang/String") }, accessFlags := 10, code := some k1c2 }
/-- com/example/keryx/keryx/audit/ProcessUseAnonymousRefusalPinLaw -/
def k1 : Class := { plain "com/example/keryx/keryx/audit/ProcessUseAnonymousRefusalPinLaw" (some 0) with
  accessFlags := 49
  interfaces := #[]
  cf := some (fileOf pool1 17 #[] #[{ accessFlags := 1, nameIndex := 5, descriptorIndex := 6, attributes := #[] }, { accessFlags := 9, nameIndex := 43, descriptorIndex := 44, attributes := #[] }, { accessFlags := 10, nameIndex := 20, descriptorIndex := 21, attributes := #[] }] 49 2 #[] #[])
  fields := #[]
  methods := #[k1m0, k1m1, k1m2]
  instanceTypes := #[]
  staticTypes := #[]
  resolved := Array.replicate 48 none
  statics := none }

def pool2 : Array CpInfo := pool [(1, .class_ 2), (0, u "java/lang/constant/Constable"), (0, .class_ 4), (0, u "java/lang/Object")] 6

/-- java/lang/constant/Constable -/
def k2 : Class := { plain "java/lang/constant/Constable" (some 0) with
  accessFlags := 1537
  interfaces := #[]
  cf := some (fileOf pool2 1 #[] #[] 1537 3 #[] #[])
  fields := #[]
  methods := #[]
  instanceTypes := #[]
  staticTypes := #[]
  resolved := Array.replicate 11 none
  statics := none }

def pool3 : Array CpInfo := pool [(1, .class_ 2), (0, u "java/lang/Comparable"), (0, .class_ 4), (0, u "java/lang/Object")] 7

/-- java/lang/Comparable -/
def k3 : Class := { plain "java/lang/Comparable" (some 0) with
  accessFlags := 1537
  interfaces := #[]
  cf := some (fileOf pool3 1 #[] #[] 1537 3 #[] #[])
  fields := #[]
  methods := #[]
  instanceTypes := #[]
  staticTypes := #[]
  resolved := Array.replicate 12 none
  statics := none }

def pool4 : Array CpInfo := pool [(1, .class_ 2), (0, u "java/io/Serializable"), (0, .class_ 4), (0, u "java/lang/Object")] 2

/-- java/io/Serializable -/
def k4 : Class := { plain "java/io/Serializable" (some 0) with
  accessFlags := 1537
  interfaces := #[]
  cf := some (fileOf pool4 1 #[] #[] 1537 3 #[] #[])
  fields := #[]
  methods := #[]
  instanceTypes := #[]
  staticTypes := #[]
  resolved := Array.replicate 7 none
  statics := none }

def pool5 : Array CpInfo := pool [(2, .class_ 4), (1, u "java/lang/Enum"), (0, u "name"), (0, u "Ljava/lang/String;"), (2, u "ordinal"), (0, u "I"), (1, .class_ 14), (1, u "java/lang/Object"), (4, u "hash"), (86, .class_ 108), (1, u "java/lang/Enum$EnumDesc"), (2, .class_ 112), (0, u "java/lang/constant/Constable"), (0, .class_ 114), (0, u "java/lang/Comparable"), (0, .class_ 116), (0, u "java/io/Serializable")] 87

/-- java/lang/Enum -/
def k5 : Class := { plain "java/lang/Enum" (some 0) with
  accessFlags := 1057
  interfaces := #[2, 3, 4]
  cf := some (fileOf pool5 2 #[.nestMembers #[106]] #[] 1057 12 #[111, 113, 115] #[{ accessFlags := 18, nameIndex := 5, descriptorIndex := 6, attributes := #[] }, { accessFlags := 18, nameIndex := 9, descriptorIndex := 10, attributes := #[] }, { accessFlags := 2, nameIndex := 19, descriptorIndex := 10, attributes := #[] }])
  fields := #[{ name := "name", type := (.object "java/lang/String"), accessFlags := 18, slot := 0, constantValue := 0 }, { name := "ordinal", type := .int, accessFlags := 18, slot := 1, constantValue := 0 }, { name := "hash", type := .int, accessFlags := 2, slot := 2, constantValue := 0 }]
  methods := #[]
  instanceTypes := #[(.object "java/lang/String"), .int, .int]
  staticTypes := #[]
  resolved := Array.replicate 204 none
  statics := none }

def pool6 : Array CpInfo := pool [(1, .class_ 2), (0, u "com/example/keryx/keryx/audit/AuditedProcess"), (2, u "TOKEN"), (0, u "Lcom/example/keryx/keryx/audit/AuditedProcess;"), (2, u "REGISTER_RESPONSIBLE_BODY"), (2, u "CHANGE_AUTHORITY_FUNCTIONS"), (2, u "REGISTER_OPERATOR"), (2, u "REGISTER_COMPONENT"), (2, u "CONFIRM_COMPONENT"), (2, u "REJECT_COMPONENT"), (2, u "WITHDRAW_COMPONENT"), (2, u "CHANGE_COMPONENT"), (2, u "CHANGE_OPERATOR"), (2, u "READ_COMPONENT"), (2, u "EXPIRE_COMPONENT"), (2, u "READ_AUDIT"), (2, u "READ_CHANGES"), (2, u "DECIDE"), (2, u "MAINTAIN_ADMINISTRATIVE_AREA"), (2, u "MAINTAIN_ROLE"), (2, u "MAINTAIN_PARTICIPATION_TYPE"), (2, u "MAINTAIN_TRUST_ANCHOR"), (2, u "MAINTAIN_TOKEN_LIFETIME"), (2, u "MAINTAIN_CONFIRMATION_PERIOD"), (2, u "READ_MAINTAINED_DATA"), (2, u "MAINTAIN_LEGAL_NORM"), (2, u "MAINTAIN_AUTHORITY_FUNCTION"), (2, u "READ_AUTHORITY_FUNCTIONS"), (2, u "ADMINISTER_STAFF"), (2, u "ADMINISTER_GROUP"), (2, u "ADMINISTER_INHERITANCE"), (2, u "READ_ORGANISATION"), (2, u "$VALUES"), (0, u "[Lcom/example/keryx/keryx/audit/AuditedProcess;"), (6, .class_ 103), (1, u "java/lang/Enum"), (8, u "code"), (0, u "Ljava/lang/String;")] 107

/-- com/example/keryx/keryx/audit/AuditedProcess -/
def k6 : Class := { plain "com/example/keryx/keryx/audit/AuditedProcess" (some 5) with
  accessFlags := 16433
  interfaces := #[]
  cf := some (fileOf pool6 1 #[] #[] 16433 101 #[] #[{ accessFlags := 16409, nameIndex := 5, descriptorIndex := 6, attributes := #[] }, { accessFlags := 16409, nameIndex := 9, descriptorIndex := 6, attributes := #[] }, { accessFlags := 16409, nameIndex := 12, descriptorIndex := 6, attributes := #[] }, { accessFlags := 16409, nameIndex := 15, descriptorIndex := 6, attributes := #[] }, { accessFlags := 16409, nameIndex := 18, descriptorIndex := 6, attributes := #[] }, { accessFlags := 16409, nameIndex := 21, descriptorIndex := 6, attributes := #[] }, { accessFlags := 16409, nameIndex := 24, descriptorIndex := 6, attributes := #[] }, { accessFlags := 16409, nameIndex := 27, descriptorIndex := 6, attributes := #[] }, { accessFlags := 16409, nameIndex := 30, descriptorIndex := 6, attributes := #[] }, { accessFlags := 16409, nameIndex := 33, descriptorIndex := 6, attributes := #[] }, { accessFlags := 16409, nameIndex := 36, descriptorIndex := 6, attributes := #[] }, { accessFlags := 16409, nameIndex := 39, descriptorIndex := 6, attributes := #[] }, { accessFlags := 16409, nameIndex := 42, descriptorIndex := 6, attributes := #[] }, { accessFlags := 16409, nameIndex := 45, descriptorIndex := 6, attributes := #[] }, { accessFlags := 16409, nameIndex := 48, descriptorIndex := 6, attributes := #[] }, { accessFlags := 16409, nameIndex := 51, descriptorIndex := 6, attributes := #[] }, { accessFlags := 16409, nameIndex := 54, descriptorIndex := 6, attributes := #[] }, { accessFlags := 16409, nameIndex := 57, descriptorIndex := 6, attributes := #[] }, { accessFlags := 16409, nameIndex := 60, descriptorIndex := 6, attributes := #[] }, { accessFlags := 16409, nameIndex := 63, descriptorIndex := 6, attributes := #[] }, { accessFlags := 16409, nameIndex := 66, descriptorIndex := 6, attributes := #[] }, { accessFlags := 16409, nameIndex := 69, descriptorIndex := 6, attributes := #[] }, { accessFlags := 16409, nameIndex := 72, descriptorIndex := 6, attributes := #[] }, { accessFlags := 16409, nameIndex := 75, descriptorIndex := 6, attributes := #[] }, { accessFlags := 16409, nameIndex := 78, descriptorIndex := 6, attributes := #[] }, { accessFlags := 16409, nameIndex := 81, descriptorIndex := 6, attributes := #[] }, { accessFlags := 16409, nameIndex := 84, descriptorIndex := 6, attributes := #[] }, { accessFlags := 16409, nameIndex := 87, descriptorIndex := 6, attributes := #[] }, { accessFlags := 16409, nameIndex := 90, descriptorIndex := 6, attributes := #[] }, { accessFlags := 18, nameIndex := 112, descriptorIndex := 113, attributes := #[] }, { accessFlags := 4122, nameIndex := 93, descriptorIndex := 94, attributes := #[] }])
  fields := #[{ name := "TOKEN", type := (.object "com/example/keryx/keryx/audit/AuditedProcess"), accessFlags := 16409, slot := 0, constantValue := 0 }, { name := "REGISTER_RESPONSIBLE_BODY", type := (.object "com/example/keryx/keryx/audit/AuditedProcess"), accessFlags := 16409, slot := 1, constantValue := 0 }, { name := "CHANGE_AUTHORITY_FUNCTIONS", type := (.object "com/example/keryx/keryx/audit/AuditedProcess"), accessFlags := 16409, slot := 2, constantValue := 0 }, { name := "REGISTER_OPERATOR", type := (.object "com/example/keryx/keryx/audit/AuditedProcess"), accessFlags := 16409, slot := 3, constantValue := 0 }, { name := "REGISTER_COMPONENT", type := (.object "com/example/keryx/keryx/audit/AuditedProcess"), accessFlags := 16409, slot := 4, constantValue := 0 }, { name := "CONFIRM_COMPONENT", type := (.object "com/example/keryx/keryx/audit/AuditedProcess"), accessFlags := 16409, slot := 5, constantValue := 0 }, { name := "REJECT_COMPONENT", type := (.object "com/example/keryx/keryx/audit/AuditedProcess"), accessFlags := 16409, slot := 6, constantValue := 0 }, { name := "WITHDRAW_COMPONENT", type := (.object "com/example/keryx/keryx/audit/AuditedProcess"), accessFlags := 16409, slot := 7, constantValue := 0 }, { name := "CHANGE_COMPONENT", type := (.object "com/example/keryx/keryx/audit/AuditedProcess"), accessFlags := 16409, slot := 8, constantValue := 0 }, { name := "CHANGE_OPERATOR", type := (.object "com/example/keryx/keryx/audit/AuditedProcess"), accessFlags := 16409, slot := 9, constantValue := 0 }, { name := "READ_COMPONENT", type := (.object "com/example/keryx/keryx/audit/AuditedProcess"), accessFlags := 16409, slot := 10, constantValue := 0 }, { name := "EXPIRE_COMPONENT", type := (.object "com/example/keryx/keryx/audit/AuditedProcess"), accessFlags := 16409, slot := 11, constantValue := 0 }, { name := "READ_AUDIT", type := (.object "com/example/keryx/keryx/audit/AuditedProcess"), accessFlags := 16409, slot := 12, constantValue := 0 }, { name := "READ_CHANGES", type := (.object "com/example/keryx/keryx/audit/AuditedProcess"), accessFlags := 16409, slot := 13, constantValue := 0 }, { name := "DECIDE", type := (.object "com/example/keryx/keryx/audit/AuditedProcess"), accessFlags := 16409, slot := 14, constantValue := 0 }, { name := "MAINTAIN_ADMINISTRATIVE_AREA", type := (.object "com/example/keryx/keryx/audit/AuditedProcess"), accessFlags := 16409, slot := 15, constantValue := 0 }, { name := "MAINTAIN_ROLE", type := (.object "com/example/keryx/keryx/audit/AuditedProcess"), accessFlags := 16409, slot := 16, constantValue := 0 }, { name := "MAINTAIN_PARTICIPATION_TYPE", type := (.object "com/example/keryx/keryx/audit/AuditedProcess"), accessFlags := 16409, slot := 17, constantValue := 0 }, { name := "MAINTAIN_TRUST_ANCHOR", type := (.object "com/example/keryx/keryx/audit/AuditedProcess"), accessFlags := 16409, slot := 18, constantValue := 0 }, { name := "MAINTAIN_TOKEN_LIFETIME", type := (.object "com/example/keryx/keryx/audit/AuditedProcess"), accessFlags := 16409, slot := 19, constantValue := 0 }, { name := "MAINTAIN_CONFIRMATION_PERIOD", type := (.object "com/example/keryx/keryx/audit/AuditedProcess"), accessFlags := 16409, slot := 20, constantValue := 0 }, { name := "READ_MAINTAINED_DATA", type := (.object "com/example/keryx/keryx/audit/AuditedProcess"), accessFlags := 16409, slot := 21, constantValue := 0 }, { name := "MAINTAIN_LEGAL_NORM", type := (.object "com/example/keryx/keryx/audit/AuditedProcess"), accessFlags := 16409, slot := 22, constantValue := 0 }, { name := "MAINTAIN_AUTHORITY_FUNCTION", type := (.object "com/example/keryx/keryx/audit/AuditedProcess"), accessFlags := 16409, slot := 23, constantValue := 0 }, { name := "READ_AUTHORITY_FUNCTIONS", type := (.object "com/example/keryx/keryx/audit/AuditedProcess"), accessFlags := 16409, slot := 24, constantValue := 0 }, { name := "ADMINISTER_STAFF", type := (.object "com/example/keryx/keryx/audit/AuditedProcess"), accessFlags := 16409, slot := 25, constantValue := 0 }, { name := "ADMINISTER_GROUP", type := (.object "com/example/keryx/keryx/audit/AuditedProcess"), accessFlags := 16409, slot := 26, constantValue := 0 }, { name := "ADMINISTER_INHERITANCE", type := (.object "com/example/keryx/keryx/audit/AuditedProcess"), accessFlags := 16409, slot := 27, constantValue := 0 }, { name := "READ_ORGANISATION", type := (.object "com/example/keryx/keryx/audit/AuditedProcess"), accessFlags := 16409, slot := 28, constantValue := 0 }, { name := "code", type := (.object "java/lang/String"), accessFlags := 18, slot := 3, constantValue := 0 }, { name := "$VALUES", type := (.array (.object "com/example/keryx/keryx/audit/AuditedProcess")), accessFlags := 4122, slot := 29, constantValue := 0 }]
  methods := #[]
  instanceTypes := #[(.object "java/lang/String"), .int, .int, (.object "java/lang/String")]
  staticTypes := #[(.object "com/example/keryx/keryx/audit/AuditedProcess"), (.object "com/example/keryx/keryx/audit/AuditedProcess"), (.object "com/example/keryx/keryx/audit/AuditedProcess"), (.object "com/example/keryx/keryx/audit/AuditedProcess"), (.object "com/example/keryx/keryx/audit/AuditedProcess"), (.object "com/example/keryx/keryx/audit/AuditedProcess"), (.object "com/example/keryx/keryx/audit/AuditedProcess"), (.object "com/example/keryx/keryx/audit/AuditedProcess"), (.object "com/example/keryx/keryx/audit/AuditedProcess"), (.object "com/example/keryx/keryx/audit/AuditedProcess"), (.object "com/example/keryx/keryx/audit/AuditedProcess"), (.object "com/example/keryx/keryx/audit/AuditedProcess"), (.object "com/example/keryx/keryx/audit/AuditedProcess"), (.object "com/example/keryx/keryx/audit/AuditedProcess"), (.object "com/example/keryx/keryx/audit/AuditedProcess"), (.object "com/example/keryx/keryx/audit/AuditedProcess"), (.object "com/example/keryx/keryx/audit/AuditedProcess"), (.object "com/example/keryx/keryx/audit/AuditedProcess"), (.object "com/example/keryx/keryx/audit/AuditedProcess"), (.object "com/example/keryx/keryx/audit/AuditedProcess"), (.object "com/example/keryx/keryx/audit/AuditedProcess"), (.object "com/example/keryx/keryx/audit/AuditedProcess"), (.object "com/example/keryx/keryx/audit/AuditedProcess"), (.object "com/example/keryx/keryx/audit/AuditedProcess"), (.object "com/example/keryx/keryx/audit/AuditedProcess"), (.object "com/example/keryx/keryx/audit/AuditedProcess"), (.object "com/example/keryx/keryx/audit/AuditedProcess"), (.object "com/example/keryx/keryx/audit/AuditedProcess"), (.object "com/example/keryx/keryx/audit/AuditedProcess"), (.array (.object "com/example/keryx/keryx/audit/AuditedProcess"))]
  resolved := Array.replicate 221 none
  statics := some 0 }

def pool7 : Array CpInfo := pool [(1, .methodref 2 3), (0, .class_ 4), (0, .nameAndType 5 6), (0, u "java/lang/Object"), (0, u "<init>"), (0, u "()V"), (0, .class_ 8), (0, u "java/lang/Record")] 13

def k7c0 : Code := { maxStack := 1, maxLocals := 1, code := jdk_30_method_1_code, exceptionTable := #[], attributes := #[] }
def k7m0 : Method := { name := "<init>", desc := "()V", sig := { parameters := [], returnType := none }, accessFlags := 4, code := some k7c0 }
/-- java/lang/Record -/
def k7 : Class := { plain "java/lang/Record" (some 0) with
  accessFlags := 1057
  interfaces := #[]
  cf := some (fileOf pool7 7 #[] #[{ accessFlags := 4, nameIndex := 5, descriptorIndex := 6, attributes := #[] }] 1057 2 #[] #[])
  fields := #[]
  methods := #[k7m0]
  instanceTypes := #[]
  staticTypes := #[]
  resolved := Array.replicate 22 none
  statics := none }

def pool8 : Array CpInfo := pool [(1, .methodref 2 3), (0, .class_ 4), (0, .nameAndType 5 6), (0, u "java/lang/Record"), (0, u "<init>"), (0, u "()V"), (0, .fieldref 8 9), (0, .class_ 10), (0, .nameAndType 11 12), (0, u "com/example/keryx/keryx/audit/ProcessUse"), (0, u "process"), (0, u "Lcom/example/keryx/keryx/audit/AuditedProcess;"), (0, .fieldref 8 14), (0, .nameAndType 15 16), (0, u "certificate"), (0, u "Lcom/example/keryx/keryx/audit/CertificateIdentity;"), (0, .fieldref 8 18), (0, .nameAndType 19 20), (0, u "caller"), (0, u "Ljava/lang/String;"), (0, .fieldref 8 22), (0, .nameAndType 23 20), (0, u "target"), (0, .fieldref 8 25), (0, .nameAndType 26 20), (0, u "reason"), (6, u "(Lcom/example/keryx/keryx/audit/AuditedProcess;Lcom/example/keryx/keryx/audit/CertificateIdentity;Ljava/lang/String;Ljava/lang/String;Ljava/lang/String;)V"), (9, u "()Z"), (39, u "anonymousRefusal")] 29

def k8c0 : Code := { maxStack := 2, maxLocals := 6, code := prog_3_method_1_code, exceptionTable := #[], attributes := #[] }
def k8m0 : Method := { name := "<init>", desc := "(Lcom/example/keryx/keryx/audit/AuditedProcess;Lcom/example/keryx/keryx/audit/CertificateIdentity;Ljava/lang/String;Ljava/lang/String;Ljava/lang/String;)V", sig := { parameters := [(.object "com/example/keryx/keryx/audit/AuditedProcess"), (.object "com/example/keryx/keryx/audit/CertificateIdentity"), (.object "java/lang/String"), (.object "java/lang/String"), (.object "java/lang/String")], returnType := none }, accessFlags := 1, code := some k8c0 }
def k8c1 : Code := { maxStack := 1, maxLocals := 1, code := prog_3_method_6_code, exceptionTable := #[], attributes := #[] }
def k8m1 : Method := { name := "anonymousRefusal", desc := "()Z", sig := { parameters := [], returnType := some .boolean }, accessFlags := 1, code := some k8c1 }
/-- com/example/keryx/keryx/audit/ProcessUse -/
def k8 : Class := { plain "com/example/keryx/keryx/audit/ProcessUse" (some 7) with
  accessFlags := 49
  interfaces := #[]
  cf := some (fileOf pool8 8 #[] #[{ accessFlags := 1, nameIndex := 5, descriptorIndex := 33, attributes := #[] }, { accessFlags := 1, nameIndex := 83, descriptorIndex := 43, attributes := #[] }] 49 2 #[] #[{ accessFlags := 18, nameIndex := 11, descriptorIndex := 12, attributes := #[] }, { accessFlags := 18, nameIndex := 15, descriptorIndex := 16, attributes := #[] }, { accessFlags := 18, nameIndex := 19, descriptorIndex := 20, attributes := #[] }, { accessFlags := 18, nameIndex := 23, descriptorIndex := 20, attributes := #[] }, { accessFlags := 18, nameIndex := 26, descriptorIndex := 20, attributes := #[] }])
  fields := #[{ name := "process", type := (.object "com/example/keryx/keryx/audit/AuditedProcess"), accessFlags := 18, slot := 0, constantValue := 0 }, { name := "certificate", type := (.object "com/example/keryx/keryx/audit/CertificateIdentity"), accessFlags := 18, slot := 1, constantValue := 0 }, { name := "caller", type := (.object "java/lang/String"), accessFlags := 18, slot := 2, constantValue := 0 }, { name := "target", type := (.object "java/lang/String"), accessFlags := 18, slot := 3, constantValue := 0 }, { name := "reason", type := (.object "java/lang/String"), accessFlags := 18, slot := 4, constantValue := 0 }]
  methods := #[k8m0, k8m1]
  instanceTypes := #[(.object "com/example/keryx/keryx/audit/AuditedProcess"), (.object "com/example/keryx/keryx/audit/CertificateIdentity"), (.object "java/lang/String"), (.object "java/lang/String"), (.object "java/lang/String")]
  staticTypes := #[]
  resolved := Array.replicate 113 none
  statics := none }

def pool9 : Array CpInfo := pool [(2, .class_ 4), (1, u "java/lang/CharSequence"), (42, .class_ 48), (0, u "java/lang/CharSequence$1CodePointIterator"), (10, .class_ 60), (0, u "java/lang/CharSequence$1CharIterator"), (5, .class_ 67), (0, u "java/lang/Object")] 63

/-- java/lang/CharSequence -/
def k9 : Class := { plain "java/lang/CharSequence" (some 0) with
  accessFlags := 1537
  interfaces := #[]
  cf := some (fileOf pool9 2 #[.nestMembers #[47, 59]] #[] 1537 66 #[] #[])
  fields := #[]
  methods := #[]
  instanceTypes := #[]
  staticTypes := #[]
  resolved := Array.replicate 131 none
  statics := none }

def pool10 : Array CpInfo := pool [(1, .class_ 2), (0, u "java/lang/constant/ConstantDesc"), (0, .class_ 4), (0, u "java/lang/Object")] 32

/-- java/lang/constant/ConstantDesc -/
def k10 : Class := { plain "java/lang/constant/ConstantDesc" (some 0) with
  accessFlags := 1537
  interfaces := #[]
  cf := some (fileOf pool10 1 #[] #[] 1537 3 #[] #[])
  fields := #[]
  methods := #[]
  instanceTypes := #[]
  staticTypes := #[]
  resolved := Array.replicate 37 none
  statics := none }

def pool11 : Array CpInfo := pool [(1, .methodref 2 3), (0, .class_ 4), (0, .nameAndType 5 6), (0, u "java/lang/Object"), (0, u "<init>"), (0, u "()V"), (0, .string 8), (0, u ""), (0, .fieldref 10 11), (0, .class_ 12), (0, .nameAndType 13 14), (0, u "java/lang/String"), (0, u "value"), (0, u "[B"), (0, .fieldref 10 16), (0, .nameAndType 17 18), (0, u "coder"), (0, u "B"), (2, u "hash"), (0, u "I"), (2, u "hashIsZero"), (0, u "Z"), (0, .methodref 10 28), (0, .nameAndType 5 29), (0, u "([CIILjava/lang/Void;)V"), (8, .fieldref 10 39), (0, .nameAndType 40 26), (0, u "COMPACT_STRINGS"), (1, .class_ 44), (1, u "java/lang/StringUTF16"), (0, u "compress"), (1, .methodref 42 48), (0, .nameAndType 49 50), (0, u "coderFromArrayLen"), (0, u "([BI)B"), (126, .methodref 42 178), (0, .nameAndType 45 179), (0, u "([CII)[B"), (395, .class_ 576), (0, u "java/lang/CharSequence"), (22, u "CASE_INSENSITIVE_ORDER"), (0, u "Ljava/util/Comparator;"), (409, u "([C)V"), (90, u "serialPersistentFields"), (0, u "[Ljava/io/ObjectStreamField;"), (0, .class_ 1104), (0, u "java/lang/String$CaseInsensitiveComparator"), (1, .class_ 1107), (0, u "java/io/Serializable"), (0, .class_ 1109), (0, u "java/lang/Comparable"), (0, .class_ 1111), (0, u "java/lang/constant/Constable"), (0, .class_ 1113), (0, u "java/lang/constant/ConstantDesc"), (2, u "serialVersionUID"), (0, u "J"), (3, u "REPL"), (0, u "C"), (2, u "LATIN1"), (1, u "UTF16")] 323

def k11m0 : Method := { name := "<init>", desc := "()V", sig := { parameters := [], returnType := none }, accessFlags := 1, code := none }
def k11c1 : Code := { maxStack := 5, maxLocals := 2, code := jdk_42_method_3_code, exceptionTable := #[], attributes := #[] }
def k11m1 : Method := { name := "<init>", desc := "([C)V", sig := { parameters := [(.array .char)], returnType := none }, accessFlags := 1, code := some k11c1 }
def k11c2 : Code := { maxStack := 4, maxLocals := 6, code := jdk_42_method_149_code, exceptionTable := #[], attributes := #[] }
def k11m2 : Method := { name := "<init>", desc := "([CIILjava/lang/Void;)V", sig := { parameters := [(.array .char), .int, .int, (.object "java/lang/Void")], returnType := none }, accessFlags := 2, code := some k11c2 }
/-- java/lang/String -/
def k11 : Class := { plain "java/lang/String" (some 0) with
  accessFlags := 49
  interfaces := #[4, 3, 9, 2, 10]
  cf := some (fileOf pool11 10 #[.nestMembers #[1103]] #[{ accessFlags := 1, nameIndex := 5, descriptorIndex := 6, attributes := #[] }, { accessFlags := 1, nameIndex := 5, descriptorIndex := 1010, attributes := #[] }, { accessFlags := 2, nameIndex := 5, descriptorIndex := 29, attributes := #[] }] 49 2 #[1106, 1108, 575, 1110, 1112] #[{ accessFlags := 18, nameIndex := 13, descriptorIndex := 14, attributes := #[] }, { accessFlags := 18, nameIndex := 17, descriptorIndex := 18, attributes := #[] }, { accessFlags := 2, nameIndex := 21, descriptorIndex := 22, attributes := #[] }, { accessFlags := 2, nameIndex := 25, descriptorIndex := 26, attributes := #[] }, { accessFlags := 26, nameIndex := 1116, descriptorIndex := 1117, attributes := #[] }, { accessFlags := 24, nameIndex := 40, descriptorIndex := 26, attributes := #[] }, { accessFlags := 26, nameIndex := 1101, descriptorIndex := 1102, attributes := #[] }, { accessFlags := 26, nameIndex := 1121, descriptorIndex := 1122, attributes := #[] }, { accessFlags := 25, nameIndex := 599, descriptorIndex := 600, attributes := #[] }, { accessFlags := 24, nameIndex := 1125, descriptorIndex := 18, attributes := #[] }, { accessFlags := 24, nameIndex := 1127, descriptorIndex := 18, attributes := #[] }])
  fields := #[{ name := "value", type := (.array .byte), accessFlags := 18, slot := 0, constantValue := 0 }, { name := "coder", type := .byte, accessFlags := 18, slot := 1, constantValue := 0 }, { name := "hash", type := .int, accessFlags := 2, slot := 2, constantValue := 0 }, { name := "hashIsZero", type := .boolean, accessFlags := 2, slot := 3, constantValue := 0 }, { name := "serialVersionUID", type := .long, accessFlags := 26, slot := 0, constantValue := 0 }, { name := "COMPACT_STRINGS", type := .boolean, accessFlags := 24, slot := 1, constantValue := 0 }, { name := "serialPersistentFields", type := (.array (.object "java/io/ObjectStreamField")), accessFlags := 26, slot := 2, constantValue := 0 }, { name := "REPL", type := .char, accessFlags := 26, slot := 3, constantValue := 0 }, { name := "CASE_INSENSITIVE_ORDER", type := (.object "java/util/Comparator"), accessFlags := 25, slot := 4, constantValue := 0 }, { name := "LATIN1", type := .byte, accessFlags := 24, slot := 5, constantValue := 0 }, { name := "UTF16", type := .byte, accessFlags := 24, slot := 6, constantValue := 0 }]
  methods := #[k11m0, k11m1, k11m2]
  instanceTypes := #[(.array .byte), .byte, .int, .boolean]
  staticTypes := #[.long, .boolean, (.array (.object "java/io/ObjectStreamField")), .char, (.object "java/util/Comparator"), .byte, .byte]
  resolved := Array.replicate 1451 none
  statics := some 1 }

def pool12 : Array CpInfo := pool [(6, .class_ 8), (1, u "java/lang/Object"), (0, u "<init>"), (0, u "()V"), (1, .class_ 14), (1, u "java/lang/StringUTF16"), (31, u "$assertionsDisabled"), (0, u "Z"), (13, u "HI_BYTE_SHIFT"), (0, u "I"), (2, u "LO_BYTE_SHIFT"), (49, .methodref 12 116), (0, .nameAndType 117 118), (0, u "compress"), (0, u "([CI[BII)I"), (3, u "([CII)[B"), (138, u "coderFromArrayLen"), (0, u "([BI)B"), (106, .class_ 371), (1, u "java/lang/StringUTF16$LinesSpliterator"), (58, u "MAX_LENGTH"), (196, .class_ 628), (0, u "java/lang/StringUTF16$CodePointsSpliterator"), (0, .class_ 630), (0, u "java/lang/StringUTF16$CharsSpliterator")] 4

def k12m0 : Method := { name := "<init>", desc := "()V", sig := { parameters := [], returnType := none }, accessFlags := 0, code := none }
def k12c1 : Code := { maxStack := 2, maxLocals := 2, code := jdk_52_method_15_code, exceptionTable := #[], attributes := #[] }
def k12m1 : Method := { name := "coderFromArrayLen", desc := "([BI)B", sig := { parameters := [(.array .byte), .int], returnType := some .byte }, accessFlags := 8, code := some k12c1 }
def k12c2 : Code := { maxStack := 5, maxLocals := 6, code := jdk_52_method_16_code, exceptionTable := #[], attributes := #[] }
def k12m2 : Method := { name := "compress", desc := "([CII)[B", sig := { parameters := [(.array .char), .int, .int], returnType := some (.array .byte) }, accessFlags := 9, code := some k12c2 }
def k12c3 : Code := { maxStack := 3, maxLocals := 7, code := jdk_52_method_21_code, exceptionTable := #[], attributes := #[] }
def k12m3 : Method := { name := "compress", desc := "([CI[BII)I", sig := { parameters := [(.array .char), .int, (.array .byte), .int, .int], returnType := some .int }, accessFlags := 9, code := some k12c3 }
/-- java/lang/StringUTF16 -/
def k12 : Class := { plain "java/lang/StringUTF16" (some 0) with
  accessFlags := 48
  interfaces := #[]
  cf := some (fileOf pool12 12 #[.nestMembers #[627, 629, 369]] #[{ accessFlags := 0, nameIndex := 9, descriptorIndex := 10, attributes := #[] }, { accessFlags := 8, nameIndex := 261, descriptorIndex := 262, attributes := #[] }, { accessFlags := 9, nameIndex := 117, descriptorIndex := 122, attributes := #[] }, { accessFlags := 9, nameIndex := 117, descriptorIndex := 118, attributes := #[] }] 48 6 #[] #[{ accessFlags := 26, nameIndex := 61, descriptorIndex := 62, attributes := #[] }, { accessFlags := 26, nameIndex := 65, descriptorIndex := 62, attributes := #[] }, { accessFlags := 24, nameIndex := 430, descriptorIndex := 62, attributes := #[] }, { accessFlags := 4120, nameIndex := 46, descriptorIndex := 47, attributes := #[] }])
  fields := #[{ name := "HI_BYTE_SHIFT", type := .int, accessFlags := 26, slot := 0, constantValue := 0 }, { name := "LO_BYTE_SHIFT", type := .int, accessFlags := 26, slot := 1, constantValue := 0 }, { name := "MAX_LENGTH", type := .int, accessFlags := 24, slot := 2, constantValue := 0 }, { name := "$assertionsDisabled", type := .boolean, accessFlags := 4120, slot := 3, constantValue := 0 }]
  methods := #[k12m0, k12m1, k12m2, k12m3]
  instanceTypes := #[]
  staticTypes := #[.int, .int, .int, .boolean]
  resolved := Array.replicate 635 none
  statics := none }

def pool13 : Array CpInfo := pool [(1, .methodref 2 3), (0, .class_ 4), (0, .nameAndType 5 6), (0, u "java/lang/Record"), (0, u "<init>"), (0, u "()V"), (0, .fieldref 8 9), (0, .class_ 10), (0, .nameAndType 11 12), (0, u "com/example/keryx/keryx/audit/CertificateIdentity"), (0, u "serial"), (0, u "Ljava/lang/String;"), (0, .fieldref 8 14), (0, .nameAndType 15 12), (0, u "issuer"), (0, .fieldref 8 17), (0, .nameAndType 18 12), (0, u "subject"), (25, u "(Ljava/lang/String;Ljava/lang/String;Ljava/lang/String;)V"), (6, u "DESCRIPTORS"), (0, u "Ljava/util/Map;")] 77

def k13c0 : Code := { maxStack := 2, maxLocals := 4, code := prog_2_method_1_code, exceptionTable := #[], attributes := #[] }
def k13m0 : Method := { name := "<init>", desc := "(Ljava/lang/String;Ljava/lang/String;Ljava/lang/String;)V", sig := { parameters := [(.object "java/lang/String"), (.object "java/lang/String"), (.object "java/lang/String")], returnType := none }, accessFlags := 1, code := some k13c0 }
/-- com/example/keryx/keryx/audit/CertificateIdentity -/
def k13 : Class := { plain "com/example/keryx/keryx/audit/CertificateIdentity" (some 7) with
  accessFlags := 49
  interfaces := #[]
  cf := some (fileOf pool13 8 #[] #[{ accessFlags := 1, nameIndex := 5, descriptorIndex := 44, attributes := #[] }] 49 2 #[] #[{ accessFlags := 18, nameIndex := 11, descriptorIndex := 12, attributes := #[] }, { accessFlags := 18, nameIndex := 15, descriptorIndex := 12, attributes := #[] }, { accessFlags := 18, nameIndex := 18, descriptorIndex := 12, attributes := #[] }, { accessFlags := 26, nameIndex := 51, descriptorIndex := 52, attributes := #[] }])
  fields := #[{ name := "serial", type := (.object "java/lang/String"), accessFlags := 18, slot := 0, constantValue := 0 }, { name := "issuer", type := (.object "java/lang/String"), accessFlags := 18, slot := 1, constantValue := 0 }, { name := "subject", type := (.object "java/lang/String"), accessFlags := 18, slot := 2, constantValue := 0 }, { name := "DESCRIPTORS", type := (.object "java/util/Map"), accessFlags := 26, slot := 0, constantValue := 0 }]
  methods := #[k13m0]
  instanceTypes := #[(.object "java/lang/String"), (.object "java/lang/String"), (.object "java/lang/String")]
  staticTypes := #[(.object "java/util/Map")]
  resolved := Array.replicate 130 none
  statics := none }

def pool14 : Array CpInfo := pool [(4, .class_ 6), (1, u "java/lang/Object"), (0, u "<init>"), (0, u "()V"), (5, .class_ 16), (1, u "java/lang/StringLatin1"), (104, u "$assertionsDisabled"), (0, u "Z"), (98, .class_ 223), (1, u "java/lang/StringLatin1$LinesSpliterator"), (166, .class_ 391), (0, u "java/lang/StringLatin1$CharsSpliterator")] 3

def k14m0 : Method := { name := "<init>", desc := "()V", sig := { parameters := [], returnType := none }, accessFlags := 0, code := none }
/-- java/lang/StringLatin1 -/
def k14 : Class := { plain "java/lang/StringLatin1" (some 0) with
  accessFlags := 48
  interfaces := #[]
  cf := some (fileOf pool14 14 #[.nestMembers #[390, 221]] #[{ accessFlags := 0, nameIndex := 7, descriptorIndex := 8, attributes := #[] }] 48 4 #[] #[{ accessFlags := 4120, nameIndex := 121, descriptorIndex := 122, attributes := #[] }])
  fields := #[{ name := "$assertionsDisabled", type := .boolean, accessFlags := 4120, slot := 0, constantValue := 0 }]
  methods := #[k14m0]
  instanceTypes := #[]
  staticTypes := #[.boolean]
  resolved := Array.replicate 395 none
  statics := none }

def pool15 : Array CpInfo := pool [(2, .class_ 4), (1, u "java/lang/Object"), (0, u "<init>"), (0, u "()V"), (17, .class_ 26), (1, u "jdk/internal/util/Preconditions"), (28, .class_ 56), (0, u "jdk/internal/util/Preconditions$4"), (57, .class_ 115), (0, u "jdk/internal/util/Preconditions$1"), (7, u "SIOOBE_FORMATTER"), (0, u "Ljava/util/function/BiFunction;"), (0, .class_ 126), (0, u "jdk/internal/util/Preconditions$2"), (3, u "AIOOBE_FORMATTER"), (0, .class_ 132), (0, u "jdk/internal/util/Preconditions$3"), (3, u "IOOBE_FORMATTER")] 57

def k15m0 : Method := { name := "<init>", desc := "()V", sig := { parameters := [], returnType := none }, accessFlags := 1, code := none }
/-- jdk/internal/util/Preconditions -/
def k15 : Class := { plain "jdk/internal/util/Preconditions" (some 0) with
  accessFlags := 33
  interfaces := #[]
  cf := some (fileOf pool15 24 #[.nestMembers #[55, 131, 125, 114]] #[{ accessFlags := 1, nameIndex := 5, descriptorIndex := 6, attributes := #[] }] 33 2 #[] #[{ accessFlags := 25, nameIndex := 123, descriptorIndex := 124, attributes := #[] }, { accessFlags := 25, nameIndex := 130, descriptorIndex := 124, attributes := #[] }, { accessFlags := 25, nameIndex := 136, descriptorIndex := 124, attributes := #[] }])
  fields := #[{ name := "SIOOBE_FORMATTER", type := (.object "java/util/function/BiFunction"), accessFlags := 25, slot := 0, constantValue := 0 }, { name := "AIOOBE_FORMATTER", type := (.object "java/util/function/BiFunction"), accessFlags := 25, slot := 1, constantValue := 0 }, { name := "IOOBE_FORMATTER", type := (.object "java/util/function/BiFunction"), accessFlags := 25, slot := 2, constantValue := 0 }]
  methods := #[k15m0]
  instanceTypes := #[]
  staticTypes := #[(.object "java/util/function/BiFunction"), (.object "java/util/function/BiFunction"), (.object "java/util/function/BiFunction")]
  resolved := Array.replicate 194 none
  statics := some 2 }

def pool16 : Array CpInfo := pool [(9, u "<init>"), (6, .class_ 18), (1, u "java/lang/Object"), (0, u "()V"), (1, .class_ 23), (1, u "jdk/internal/util/ArraysSupport"), (0, u "LOG2_ARRAY_LONG_INDEX_SCALE"), (0, u "I"), (2, u "U"), (0, u "Ljdk/internal/misc/Unsafe;"), (8, u "BIG_ENDIAN"), (0, u "Z"), (8, u "LOG2_BYTE_BIT_SIZE"), (4, u "LOG2_ARRAY_INT_INDEX_SCALE"), (54, u "JLA"), (0, u "Ljdk/internal/access/JavaLangAccess;"), (11, u "LOG2_ARRAY_BOOLEAN_INDEX_SCALE"), (9, u "LOG2_ARRAY_BYTE_INDEX_SCALE"), (5, u "LOG2_ARRAY_CHAR_INDEX_SCALE"), (5, u "LOG2_ARRAY_SHORT_INDEX_SCALE"), (18, u "LOG2_ARRAY_FLOAT_INDEX_SCALE"), (24, u "LOG2_ARRAY_DOUBLE_INDEX_SCALE"), (89, u "T_BOOLEAN"), (2, u "T_CHAR"), (1, u "T_FLOAT"), (1, u "T_DOUBLE"), (1, u "T_BYTE"), (1, u "T_SHORT"), (1, u "T_INT"), (1, u "T_LONG"), (1, u "SOFT_MAX_ARRAY_LENGTH")] 83

def k16m0 : Method := { name := "<init>", desc := "()V", sig := { parameters := [], returnType := none }, accessFlags := 2, code := none }
/-- jdk/internal/util/ArraysSupport -/
def k16 : Class := { plain "jdk/internal/util/ArraysSupport" (some 0) with
  accessFlags := 33
  interfaces := #[]
  cf := some (fileOf pool16 21 #[] #[{ accessFlags := 2, nameIndex := 9, descriptorIndex := 19, attributes := #[] }] 33 16 #[] #[{ accessFlags := 24, nameIndex := 28, descriptorIndex := 29, attributes := #[] }, { accessFlags := 26, nameIndex := 38, descriptorIndex := 39, attributes := #[] }, { accessFlags := 25, nameIndex := 121, descriptorIndex := 25, attributes := #[] }, { accessFlags := 25, nameIndex := 131, descriptorIndex := 25, attributes := #[] }, { accessFlags := 25, nameIndex := 137, descriptorIndex := 25, attributes := #[] }, { accessFlags := 25, nameIndex := 143, descriptorIndex := 25, attributes := #[] }, { accessFlags := 25, nameIndex := 53, descriptorIndex := 25, attributes := #[] }, { accessFlags := 25, nameIndex := 24, descriptorIndex := 25, attributes := #[] }, { accessFlags := 25, nameIndex := 162, descriptorIndex := 25, attributes := #[] }, { accessFlags := 25, nameIndex := 187, descriptorIndex := 25, attributes := #[] }, { accessFlags := 26, nameIndex := 48, descriptorIndex := 25, attributes := #[] }, { accessFlags := 25, nameIndex := 277, descriptorIndex := 25, attributes := #[] }, { accessFlags := 25, nameIndex := 280, descriptorIndex := 25, attributes := #[] }, { accessFlags := 25, nameIndex := 282, descriptorIndex := 25, attributes := #[] }, { accessFlags := 25, nameIndex := 284, descriptorIndex := 25, attributes := #[] }, { accessFlags := 25, nameIndex := 286, descriptorIndex := 25, attributes := #[] }, { accessFlags := 25, nameIndex := 288, descriptorIndex := 25, attributes := #[] }, { accessFlags := 25, nameIndex := 290, descriptorIndex := 25, attributes := #[] }, { accessFlags := 25, nameIndex := 292, descriptorIndex := 25, attributes := #[] }, { accessFlags := 26, nameIndex := 108, descriptorIndex := 109, attributes := #[] }, { accessFlags := 25, nameIndex := 294, descriptorIndex := 25, attributes := #[] }])
  fields := #[{ name := "U", type := (.object "jdk/internal/misc/Unsafe"), accessFlags := 24, slot := 0, constantValue := 0 }, { name := "BIG_ENDIAN", type := .boolean, accessFlags := 26, slot := 1, constantValue := 0 }, { name := "LOG2_ARRAY_BOOLEAN_INDEX_SCALE", type := .int, accessFlags := 25, slot := 2, constantValue := 0 }, { name := "LOG2_ARRAY_BYTE_INDEX_SCALE", type := .int, accessFlags := 25, slot := 3, constantValue := 0 }, { name := "LOG2_ARRAY_CHAR_INDEX_SCALE", type := .int, accessFlags := 25, slot := 4, constantValue := 0 }, { name := "LOG2_ARRAY_SHORT_INDEX_SCALE", type := .int, accessFlags := 25, slot := 5, constantValue := 0 }, { name := "LOG2_ARRAY_INT_INDEX_SCALE", type := .int, accessFlags := 25, slot := 6, constantValue := 0 }, { name := "LOG2_ARRAY_LONG_INDEX_SCALE", type := .int, accessFlags := 25, slot := 7, constantValue := 0 }, { name := "LOG2_ARRAY_FLOAT_INDEX_SCALE", type := .int, accessFlags := 25, slot := 8, constantValue := 0 }, { name := "LOG2_ARRAY_DOUBLE_INDEX_SCALE", type := .int, accessFlags := 25, slot := 9, constantValue := 0 }, { name := "LOG2_BYTE_BIT_SIZE", type := .int, accessFlags := 26, slot := 10, constantValue := 0 }, { name := "T_BOOLEAN", type := .int, accessFlags := 25, slot := 11, constantValue := 0 }, { name := "T_CHAR", type := .int, accessFlags := 25, slot := 12, constantValue := 0 }, { name := "T_FLOAT", type := .int, accessFlags := 25, slot := 13, constantValue := 0 }, { name := "T_DOUBLE", type := .int, accessFlags := 25, slot := 14, constantValue := 0 }, { name := "T_BYTE", type := .int, accessFlags := 25, slot := 15, constantValue := 0 }, { name := "T_SHORT", type := .int, accessFlags := 25, slot := 16, constantValue := 0 }, { name := "T_INT", type := .int, accessFlags := 25, slot := 17, constantValue := 0 }, { name := "T_LONG", type := .int, accessFlags := 25, slot := 18, constantValue := 0 }, { name := "JLA", type := (.object "jdk/internal/access/JavaLangAccess"), accessFlags := 26, slot := 19, constantValue := 0 }, { name := "SOFT_MAX_ARRAY_LENGTH", type := .int, accessFlags := 25, slot := 20, constantValue := 0 }]
  methods := #[k16m0]
  instanceTypes := #[]
  staticTypes := #[(.object "jdk/internal/misc/Unsafe"), .boolean, .int, .int, .int, .int, .int, .int, .int, .int, .int, .int, .int, .int, .int, .int, .int, .int, .int, (.object "jdk/internal/access/JavaLangAccess"), .int]
  resolved := Array.replicate 378 none
  statics := none }

def pool17 : Array CpInfo := pool [(1, u "java/lang/Cloneable"), (0, .class_ 1), (0, u "java/lang/Object"), (0, .class_ 3)] 3

/-- java/lang/Cloneable -/
def k17 : Class := { plain "java/lang/Cloneable" (some 0) with
  accessFlags := 1537
  interfaces := #[]
  cf := some (fileOf pool17 2 #[] #[] 1537 4 #[] #[])
  fields := #[]
  methods := #[]
  instanceTypes := #[]
  staticTypes := #[]
  resolved := Array.replicate 8 none
  statics := none }

/-- the primitive byte -/
def k18 : Class := { plain "byte" none with kind := .primitive 'B', accessFlags := 0x411 }
/-- [B -/
def k19 : Class := { plain "[B" (some 0) with kind := .array 18 .byte, interfaces := #[17, 4], accessFlags := 1041 }

/-- the primitive char -/
def k20 : Class := { plain "char" none with kind := .primitive 'C', accessFlags := 0x411 }
/-- [C -/
def k21 : Class := { plain "[C" (some 0) with kind := .array 20 .char, interfaces := #[17, 4], accessFlags := 1041 }

/-- the primitive int -/
def k22 : Class := { plain "int" none with kind := .primitive 'I', accessFlags := 0x411 }
/-- [I -/
def k23 : Class := { plain "[I" (some 0) with kind := .array 22 .int, interfaces := #[17, 4], accessFlags := 1041 }

def heap : Heap := #[{ cls := 6, slots := #[.ref 3, .null, .null, .null, .null, .null, .null, .null, .null, .null, .null, .null, .null, .null, .ref 3, .null, .null, .null, .null, .null, .null, .null, .null, .null, .null, .null, .null, .null, .null, .null], vm := .statics 6 },
  { cls := 11, slots := #[.long 0, .int 1, .null, .int 0, .null, .int 0, .int 0], vm := .statics 11 },
  { cls := 15, slots := #[.null, .null, .null], vm := .statics 15 },
  { cls := 6, slots := #[.null, .int 0, .int 0, .null], vm := .none }]
def classes : Array Class := #[k0, k1, k2, k3, k4, k5, k6, k7, k8, k9, k10, k11, k12, k13, k14, k15, k16, k17, k18, k19, k20, k21, k22, k23]
def interned : List (Array UInt16 × Addr) := []
def slotsUsed : Nat := 44
def theMethod : MethodId := ⟨1, 1⟩
def args0 : Array Value := #[.int 5, .int 6, .int 7, .int 8]
def aboutOver (below : List Frame) : State where
  vm := { classes := classes, interned := interned.toArray }
  heap := heap
  slotsUsed := slotsUsed
  threads := #[{ frames := .invoking theMethod args0 :: below }]
def below0 : List Frame := [.native { method := ⟨0, 0⟩, args := #[] }]
def about1 : State := aboutOver below0
def p0 : Program := .bare "" "" ""
def e0 : Env := launch0.env 0 0 0
theorem w_frames : about1.frames = Frame.invoking theMethod args0 :: below0 := rfl
set_option maxRecDepth 65536 in
theorem w_args : argsFit about1.vm theMethod args0 = true := by decide +kernel
set_option maxRecDepth 65536 in
theorem w_heap : heapFits about1 = true := by decide +kernel
set_option maxRecDepth 65536 in
theorem w_runnable : about1.curStatus? = some .runnable := by decide +kernel
set_option maxRecDepth 65536 in
theorem w_alone : about1.alone = true := by decide +kernel
set_option maxRecDepth 65536 in
theorem w_named : about1.methodNamed? x = some theMethod := by decide +kernel
set_option maxRecDepth 65536 in
theorem w_hears : about1.hears theMethod below0 = true := by decide +kernel
set_option maxRecDepth 65536 in
theorem w_ripe : about1.ripe theMethod args0 below0 = true := by decide +kernel
theorem w_running : about1.status = .running := rfl
set_option maxRecDepth 65536 in
theorem w_room : about1.hasRoom e0.platform room_1 = true :=
  launch0.hasRoom_least _ room_1 (by decide +kernel) (by decide +kernel) (by decide +kernel) (by decide +kernel) (by decide +kernel) (by decide +kernel)
theorem allAtoms_all (ts : List Jvm.Cond) (a : Array Jvm.Value) (st : Jvm.State) : (allAtoms ts).before a st = ts.all (fun c => c.before a st) := by
  induction ts with
  | nil => rfl
  | cons c t ih =>
    show (Jvm.Cond.and c (allAtoms t)).before a st = _
    rw [Jvm.Cond.before_and, ih, List.all_cons]
def words1 : List Jvm.Cond := Jvm.Cond.code x code maxLocals ret :: tables_1
/-- a 'code' word, met by the world's own term for the bytes: nothing is compared byte by byte -/
theorem code_word {y : MethodName} {bytes : ByteArray} {mx : Nat} {rt : Option FieldType} {a : Array Value} {s : State} {m : MethodId} {meth : Method} {c : Code} (h1 : s.methodNamed? y = some m) (h2 : s.vm.method? m = some meth) (h3 : meth.code = some c) (h4 : c.code = bytes)
    (h5 : (c.maxLocals == mx && c.exceptionTable.isEmpty && decide (c.maxStack ≤ mostOperands) && decide (meth.sig.returnType = rt) && !meth.locks && decide (parseMethodDescriptor y.desc = some meth.sig)) = true) : (Jvm.Cond.code y bytes mx rt).before a s = true := by
  simp only [Bool.and_eq_true, beq_iff_eq, Bool.not_eq_true', decide_eq_true_eq] at h5
  obtain ⟨⟨⟨⟨⟨g1, g2⟩, g3⟩, g4⟩, g5⟩, g6⟩ := h5
  simp [Cond.before, Cond.holds, Cond.value, h1, h2, h3, h4, g1, g2, g3, g4, g5, g6]
def isCode : Jvm.Cond → Bool
  | .code _ _ _ _ => true
  | _ => false
theorem all_split {L : List Jvm.Cond} {P : Jvm.Cond → Bool} (h1 : L.all (fun c => isCode c || P c) = true) (h2 : ∀ c ∈ L.filter isCode, P c = true) : L.all P = true := by
  refine List.all_eq_true.mpr fun c hc => ?_
  have h := List.all_eq_true.mp h1 c hc
  rcases Bool.eq_false_or_eq_true (isCode c) with hi | hi
  · exact h2 c (List.mem_filter.mpr ⟨hc, hi⟩)
  · simpa [hi] using h
set_option maxRecDepth 65536 in
theorem w_c0 : (Jvm.Cond.code x code maxLocals ret).before args0 about1 = true := code_word (m := ⟨1, 1⟩) (meth := k1m1) (c := k1c1) (by decide +kernel) rfl rfl rfl (by decide +kernel)
set_option maxRecDepth 65536 in
theorem w_c1 : (Jvm.Cond.code ({ cls := "com/example/keryx/keryx/audit/ProcessUse", name := "<init>", desc := "(Lcom/example/keryx/keryx/audit/AuditedProcess;Lcom/example/keryx/keryx/audit/CertificateIdentity;Ljava/lang/String;Ljava/lang/String;Ljava/lang/String;)V" } : Jvm.MethodName) prog_3_method_1_code (6 : Nat) (Option.none : Option Jvm.ClassFile.FieldType)).before args0 about1 = true := code_word (m := ⟨8, 0⟩) (meth := k8m0) (c := k8c0) (by decide +kernel) rfl rfl rfl (by decide +kernel)
set_option maxRecDepth 65536 in
theorem w_c2 : (Jvm.Cond.code ({ cls := "java/lang/Record", name := "<init>", desc := "()V" } : Jvm.MethodName) jdk_30_method_1_code (1 : Nat) (Option.none : Option Jvm.ClassFile.FieldType)).before args0 about1 = true := code_word (m := ⟨7, 0⟩) (meth := k7m0) (c := k7c0) (by decide +kernel) rfl rfl rfl (by decide +kernel)
set_option maxRecDepth 65536 in
theorem w_c3 : (Jvm.Cond.code ({ cls := "java/lang/Object", name := "<init>", desc := "()V" } : Jvm.MethodName) object_method_1_code (1 : Nat) (Option.none : Option Jvm.ClassFile.FieldType)).before args0 about1 = true := code_word (m := ⟨0, 0⟩) (meth := k0m0) (c := k0c0) (by decide +kernel) rfl rfl rfl (by decide +kernel)
set_option maxRecDepth 65536 in
theorem w_c4 : (Jvm.Cond.code ({ cls := "com/example/keryx/keryx/audit/ProcessUse", name := "anonymousRefusal", desc := "()Z" } : Jvm.MethodName) prog_3_method_6_code (1 : Nat) (Option.some Jvm.ClassFile.FieldType.boolean)).before args0 about1 = true := code_word (m := ⟨8, 1⟩) (meth := k8m1) (c := k8c1) (by decide +kernel) rfl rfl rfl (by decide +kernel)
set_option maxRecDepth 65536 in
theorem w_c5 : (Jvm.Cond.code ({ cls := "com/example/keryx/keryx/audit/ProcessUseAnonymousRefusalPinLaw", name := "str", desc := "(I)Ljava/lang/String;" } : Jvm.MethodName) method_3_code (2 : Nat) (Option.some (Jvm.ClassFile.FieldType.object "java/lang/String"))).before args0 about1 = true := code_word (m := ⟨1, 2⟩) (meth := k1m2) (c := k1c2) (by decide +kernel) rfl rfl rfl (by decide +kernel)
set_option maxRecDepth 65536 in
theorem w_c6 : (Jvm.Cond.code ({ cls := "java/lang/String", name := "<init>", desc := "([C)V" } : Jvm.MethodName) jdk_42_method_3_code (2 : Nat) (Option.none : Option Jvm.ClassFile.FieldType)).before args0 about1 = true := code_word (m := ⟨11, 1⟩) (meth := k11m1) (c := k11c1) (by decide +kernel) rfl rfl rfl (by decide +kernel)
set_option maxRecDepth 65536 in
theorem w_c7 : (Jvm.Cond.code ({ cls := "java/lang/String", name := "<init>", desc := "([CIILjava/lang/Void;)V" } : Jvm.MethodName) jdk_42_method_149_code (6 : Nat) (Option.none : Option Jvm.ClassFile.FieldType)).before args0 about1 = true := code_word (m := ⟨11, 2⟩) (meth := k11m2) (c := k11c2) (by decide +kernel) rfl rfl rfl (by decide +kernel)
set_option maxRecDepth 65536 in
theorem w_c8 : (Jvm.Cond.code ({ cls := "java/lang/StringUTF16", name := "compress", desc := "([CII)[B" } : Jvm.MethodName) jdk_52_method_16_code (6 : Nat) (Option.some (Jvm.ClassFile.FieldType.array Jvm.ClassFile.FieldType.byte))).before args0 about1 = true := code_word (m := ⟨12, 2⟩) (meth := k12m2) (c := k12c2) (by decide +kernel) rfl rfl rfl (by decide +kernel)
set_option maxRecDepth 65536 in
theorem w_c9 : (Jvm.Cond.code ({ cls := "java/lang/StringUTF16", name := "compress", desc := "([CI[BII)I" } : Jvm.MethodName) jdk_52_method_21_code (7 : Nat) (Option.some Jvm.ClassFile.FieldType.int)).before args0 about1 = true := code_word (m := ⟨12, 3⟩) (meth := k12m3) (c := k12c3) (by decide +kernel) rfl rfl rfl (by decide +kernel)
set_option maxRecDepth 65536 in
theorem w_c10 : (Jvm.Cond.code ({ cls := "java/lang/StringUTF16", name := "coderFromArrayLen", desc := "([BI)B" } : Jvm.MethodName) jdk_52_method_15_code (2 : Nat) (Option.some Jvm.ClassFile.FieldType.byte)).before args0 about1 = true := code_word (m := ⟨12, 1⟩) (meth := k12m1) (c := k12c1) (by decide +kernel) rfl rfl rfl (by decide +kernel)
set_option maxRecDepth 65536 in
theorem w_c11 : (Jvm.Cond.code ({ cls := "com/example/keryx/keryx/audit/CertificateIdentity", name := "<init>", desc := "(Ljava/lang/String;Ljava/lang/String;Ljava/lang/String;)V" } : Jvm.MethodName) prog_2_method_1_code (4 : Nat) (Option.none : Option Jvm.ClassFile.FieldType)).before args0 about1 = true := code_word (m := ⟨13, 0⟩) (meth := k13m0) (c := k13c0) (by decide +kernel) rfl rfl rfl (by decide +kernel)
def codes1 : List Jvm.Cond := [Jvm.Cond.code x code maxLocals ret, Jvm.Cond.code ({ cls := "com/example/keryx/keryx/audit/ProcessUse", name := "<init>", desc := "(Lcom/example/keryx/keryx/audit/AuditedProcess;Lcom/example/keryx/keryx/audit/CertificateIdentity;Ljava/lang/String;Ljava/lang/String;Ljava/lang/String;)V" } : Jvm.MethodName) prog_3_method_1_code (6 : Nat) (Option.none : Option Jvm.ClassFile.FieldType), Jvm.Cond.code ({ cls := "java/lang/Record", name := "<init>", desc := "()V" } : Jvm.MethodName) jdk_30_method_1_code (1 : Nat) (Option.none : Option Jvm.ClassFile.FieldType), Jvm.Cond.code ({ cls := "java/lang/Object", name := "<init>", desc := "()V" } : Jvm.MethodName) object_method_1_code (1 : Nat) (Option.none : Option Jvm.ClassFile.FieldType), Jvm.Cond.code ({ cls := "com/example/keryx/keryx/audit/ProcessUse", name := "anonymousRefusal", desc := "()Z" } : Jvm.MethodName) prog_3_method_6_code (1 : Nat) (Option.some Jvm.ClassFile.FieldType.boolean), Jvm.Cond.code ({ cls := "com/example/keryx/keryx/audit/ProcessUseAnonymousRefusalPinLaw", name := "str", desc := "(I)Ljava/lang/String;" } : Jvm.MethodName) method_3_code (2 : Nat) (Option.some (Jvm.ClassFile.FieldType.object "java/lang/String")), Jvm.Cond.code ({ cls := "java/lang/String", name := "<init>", desc := "([C)V" } : Jvm.MethodName) jdk_42_method_3_code (2 : Nat) (Option.none : Option Jvm.ClassFile.FieldType), Jvm.Cond.code ({ cls := "java/lang/String", name := "<init>", desc := "([CIILjava/lang/Void;)V" } : Jvm.MethodName) jdk_42_method_149_code (6 : Nat) (Option.none : Option Jvm.ClassFile.FieldType), Jvm.Cond.code ({ cls := "java/lang/StringUTF16", name := "compress", desc := "([CII)[B" } : Jvm.MethodName) jdk_52_method_16_code (6 : Nat) (Option.some (Jvm.ClassFile.FieldType.array Jvm.ClassFile.FieldType.byte)), Jvm.Cond.code ({ cls := "java/lang/StringUTF16", name := "compress", desc := "([CI[BII)I" } : Jvm.MethodName) jdk_52_method_21_code (7 : Nat) (Option.some Jvm.ClassFile.FieldType.int), Jvm.Cond.code ({ cls := "java/lang/StringUTF16", name := "coderFromArrayLen", desc := "([BI)B" } : Jvm.MethodName) jdk_52_method_15_code (2 : Nat) (Option.some Jvm.ClassFile.FieldType.byte), Jvm.Cond.code ({ cls := "com/example/keryx/keryx/audit/CertificateIdentity", name := "<init>", desc := "(Ljava/lang/String;Ljava/lang/String;Ljava/lang/String;)V" } : Jvm.MethodName) prog_2_method_1_code (4 : Nat) (Option.none : Option Jvm.ClassFile.FieldType)]
set_option maxRecDepth 65536 in
theorem codes_eq : words1.filter isCode = codes1 := rfl
theorem w_codes : ∀ c ∈ words1.filter isCode, c.before args0 about1 = true := by
  rw [codes_eq]
  intro c hc
  simp only [codes1, List.mem_cons, List.not_mem_nil, or_false] at hc
  rcases hc with rfl | rfl | rfl | rfl | rfl | rfl | rfl | rfl | rfl | rfl | rfl | rfl
  · exact w_c0
  · exact w_c1
  · exact w_c2
  · exact w_c3
  · exact w_c4
  · exact w_c5
  · exact w_c6
  · exact w_c7
  · exact w_c8
  · exact w_c9
  · exact w_c10
  · exact w_c11
set_option maxRecDepth 65536 in
theorem w_t1 : (words1.take 24).all (fun c => isCode c || c.before args0 about1) = true := by decide +kernel
set_option maxRecDepth 65536 in
theorem w_t2 : ((words1.drop 24).take 24).all (fun c => isCode c || c.before args0 about1) = true := by decide +kernel
set_option maxRecDepth 65536 in
theorem w_t3 : (((words1.drop 24).drop 24).take 24).all (fun c => isCode c || c.before args0 about1) = true := by decide +kernel
set_option maxRecDepth 65536 in
theorem w_t4 : (((words1.drop 24).drop 24).drop 24).all (fun c => isCode c || c.before args0 about1) = true := by decide +kernel
theorem w_tables : (allAtoms (Jvm.Cond.code x code maxLocals ret :: tables_1)).before args0 about1 = true := by
  rw [allAtoms_all]
  show words1.all (fun c => c.before args0 about1) = true
  refine all_split ?_ w_codes
  rw [← List.take_append_drop 24 words1, List.all_append, w_t1, ← List.take_append_drop 24 (words1.drop 24), List.all_append, w_t2, ← List.take_append_drop 24 ((words1.drop 24).drop 24), List.all_append, w_t3, w_t4]
  rfl
set_option maxRecDepth 65536 in
theorem w_rest : rest_1_c.before args0 about1 = true := by decide +kernel
set_option maxRecDepth 65536 in
theorem w_case : (Jvm.Cond.and given_1 narrow_1).before args0 about1 = true := by decide +kernel
set_option maxRecDepth 65536 in
theorem w_consts : constsHeld consts_1 about1 := Jvm.Lit.constsHeldB_iff.mp (by decide +kernel)
theorem w_applies : (headSpec (Jvm.Cond.code x code maxLocals ret :: tables_1) room_1).applies x e0.platform about1 = true :=
  (Spec.applies_iff w_frames).mpr ⟨w_running, w_runnable, w_alone, w_named, w_hears, w_ripe, w_room, w_tables⟩
theorem atStart : AtStart classFile x code maxLocals ret World_1 tables_1 room_1 Calls_1 rest_1 Pre_1 launch0 p0 e0 about1 theMethod args0 below0 :=
  ⟨lists_1, trivial, launch0.admits_env _ _ _, launch0.least_env, fairChoices_fair.cas, fairChoices_fair.clock, w_frames, w_args, w_heap, w_applies, ⟨w_consts, trivial⟩, w_rest, w_case⟩
end start1
theorem witness_1 : WitnessClaimed_1 := ⟨start1.p0, start1.e0, start1.about1, start1.theMethod, start1.args0, start1.below0, start1.atStart⟩
end Jvm.Pilot.@@N@@
