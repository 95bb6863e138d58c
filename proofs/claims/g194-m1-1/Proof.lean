import JvmDerived
import JvmDerived.Pilot.@@N@@Statement
import JvmDerived.Pilot.@@N@@Code
set_option linter.unusedVariables false
set_option linter.unusedSimpArgs false
namespace Jvm.RoadKit
section OwnKeep
variable {h h' h0 : Heap} {ws : List Addr} {a : Addr}
theorem Keep.otr0 (K : Keep h0 h ws) (K' : Keep h h' []) : Keep h0 h' ws := K.trans K' fun _ q => nomatch q
theorem Keep.otrN (K : Keep h0 h ws) (K' : Keep h h' [a]) (q : h0.size ≤ a) : Keep h0 h' ws := K.trans K' fun x hx => by cases List.mem_singleton.mp hx; exact Or.inr q
theorem Keep.otrM (K : Keep h0 h ws) (K' : Keep h h' [a]) (q : a ∈ ws) : Keep h0 h' ws := K.trans K' fun x hx => by cases List.mem_singleton.mp hx; exact Or.inl q
end OwnKeep
end Jvm.RoadKit
namespace Jvm.Own
open Sem ClassFile Op Lib Bundle Jvm.Stand Jvm.Free Jvm.LawKit Jvm.RoadKit
section Walk
variable {p : Program} {l : Launch} {e : Env} {R : Room} {s : State} {m : MethodId} {args : Array Value} {below : List Frame} {meth : Method} {c : Code} {T T' : State} {cells slots : Nat} {Z : State} {a0 : Array Value} {EL : List (String × Nat)} {h h' : Heap} {vm0 vm1 : Vm} {y : MethodName} {bytes : ByteArray} {ml : Nat} {ret : Option FieldType} {KC KS : Nat} {Q : Option Value → Heap → Prop} {g g' : JFrame} {pc : Nat} {Ls : Array Slot} {st rest : List Value}
/-- from T with the top frame g the body returns, and what it leaves is Q -/
def Go (p : Program) (e : Env) (below : List Frame) (s Z : State) (EL : List (String × Nat)) (KC KS : Nat) (Q : Option Value → Heap → Prop) (T : State) (g : JFrame) : Prop :=
  ∃ s₂ o, Steps p.tables e below (T.setTop g) s₂ ∧ s₂.status = .running ∧ Ended s₂ below o ∧ ∃ v L, o = .returned v ∧ (Q v s₂.heap ∧ Fr Z.heap.size L ∧ Ext Z.heap s₂.heap) ∧ CHr Z EL s.vm s.heap s₂.vm s₂.heap ∧ ReturnedEndW s o s₂ L KC KS
theorem Go.step (f : ∀ t, Steps p.tables e below (T'.setTop g') t → Steps p.tables e below (T.setTop g) t) (k : Go p e below s Z EL KC KS Q T' g') : Go p e below s Z EL KC KS Q T g := by
  obtain ⟨s₂, o, h1, r⟩ := k
  exact ⟨s₂, o, f _ h1, r⟩
theorem Go.cast (q : g = g') (k : Go p e below s Z EL KC KS Q T g') : Go p e below s Z EL KC KS Q T g := q ▸ k
/-- the contract of a body: any start whose heap is h -/
def Con (l : Launch) (Z : State) (EL : List (String × Nat)) (y : MethodName) (bytes : ByteArray) (ml : Nat) (ret : Option FieldType) (ws : List Cond) (rm : Room) (as' : Array Value) (h : Heap) (Q : Option Value → Heap → Prop) : Prop :=
  MetFree l y (head1 (Cond.code y bytes ml ret :: ws) rm) (fun a U => a = as' ∧ Z.Warmed39 U.vm ∧ U.heap = h ∧ CHv Z EL U.vm h) (fun _ _ _ _ _ => True)
    (fun _ U o U' => ∃ v L, o = .returned v ∧ (Q v U'.heap ∧ Fr Z.heap.size L ∧ Ext Z.heap U'.heap) ∧ CHr Z EL U.vm U.heap U'.vm U'.heap ∧ ReturnedEndW U o U' L rm.cells rm.slots)
/-- where a walk stands -/
def Wk (p : Program) (l : Launch) (e : Env) (R : Room) (s : State) (m : MethodId) (args : Array Value) (below : List Frame) (meth : Method) (c : Code) (Z : State) (a0 : Array Value) (EL : List (String × Nat)) (y : MethodName) (bytes : ByteArray) (ml : Nat) (ret : Option FieldType) (T : State) (h : Heap) (vm0 : Vm) (cells slots : Nat) : Prop :=
  ∃ locs : List Loc, Stand p l e R (s.setVm vm0) m args below meth c T locs cells slots ∧ T.heap = h ∧ Z.Warmed39 (s.setVm vm0).vm ∧ (s.setVm vm0).vm.findClass y.cls = some m.cls ∧ (∃ k0, s.Since vm0 k0 ∧ k0 ≤ h.size) ∧ CHr Z EL s.vm s.heap vm0 h ∧ Fr Z.heap.size locs ∧ Ext Z.heap h ∧
    p.tables.exec = Jvm.exec ∧ c.code = bytes ∧ c.maxLocals = ml ∧ meth.sig.returnType = ret ∧ meth.locks = false ∧ meth.name = y.name ∧ EW Z a0 EL
theorem ext_trans {h1 h2 h3 : Heap} (A : Ext h1 h2) (B : Ext h2 h3) : Ext h1 h3 := ⟨Nat.le_trans A.1 B.1, fun a c q => B.2 a c (A.2 a c q)⟩
theorem ext_keep {ws : List Addr} (A : Ext Z.heap h) (K : Keep h h' ws) (q : ∀ x ∈ ws, Z.heap.size ≤ x) : Ext Z.heap h' := (Old.keep (show Old Z Z.heap.size h from ⟨rfl, A⟩) K q).2
theorem keep_ext (E : Ext h h') : Keep h h' [] := (Keep.refl h []).ext E
theorem ext_keep0 (K : Keep h h' []) : Ext h h' := ⟨K.1, fun a c q => K.2.1 a c q nin0⟩
theorem Wk.here (W : Wk p l e R s m args below meth c Z a0 EL y bytes ml ret T h vm0 cells slots) : At T m c below := by obtain ⟨_, X, -⟩ := W; exact X.here
theorem Wk.hx (W : Wk p l e R s m args below meth c Z a0 EL y bytes ml ret T h vm0 cells slots) : p.tables.exec = Jvm.exec := by obtain ⟨_, -, -, -, -, -, -, -, -, r, -⟩ := W; exact r
theorem Wk.d (W : Wk p l e R s m args below meth c Z a0 EL y bytes ml ret T h vm0 cells slots) {r : Except DecodeError (Instr × Nat)} (q : decode bytes pc = r) : decode c.code pc = r := by obtain ⟨_, -, -, -, -, -, -, -, -, -, u, -⟩ := W; exact hb u q
theorem Wk.ext (W : Wk p l e R s m args below meth c Z a0 EL y bytes ml ret T h vm0 cells slots) : Ext Z.heap h := by obtain ⟨_, -, -, -, -, -, -, -, r, -⟩ := W; exact r
theorem Wk.hZ (W : Wk p l e R s m args below meth c Z a0 EL y bytes ml ret T h vm0 cells slots) : Z.Warmed39 (s.setVm vm0).vm := by obtain ⟨_, -, -, r, -⟩ := W; exact r
theorem Wk.chr (W : Wk p l e R s m args below meth c Z a0 EL y bytes ml ret T h vm0 cells slots) : CHr Z EL s.vm s.heap vm0 h := by obtain ⟨_, -, -, -, -, -, r, -⟩ := W; exact r
theorem Wk.size (W : Wk p l e R s m args below meth c Z a0 EL y bytes ml ret T h vm0 cells slots) : Z.heap.size ≤ h.size := W.ext.1
theorem Wk.more (W : Wk p l e R s m args below meth c Z a0 EL y bytes ml ret T h vm0 cells slots) {cells' slots' : Nat} (hc : cells ≤ cells') (hs : slots ≤ slots') : Wk p l e R s m args below meth c Z a0 EL y bytes ml ret T h vm0 cells' slots' := by
  obtain ⟨locs, X, r⟩ := W
  exact ⟨locs, X.mono hc hs, r⟩
/-- a body's walk gives its contract -/
theorem Con.intro {rm : Room} {as' : Array Value} {ws : List Cond} (hpl : plainFor y = true) (hE : Ext Z.heap h) (hEL : EW Z a0 EL)
    (body : ∀ (p : Program) (e : Env) (s : State) (m : MethodId) (below : List Frame) (meth : Method) (c : Code) (T : State), Wk p l e rm s m as' below meth c Z a0 EL y bytes ml ret T h s.vm 0 0 → Go p e below s Z EL rm.cells rm.slots Q T (entryFrame m as' ml)) :
    Con l Z EL y bytes ml ret ws rm as' h Q := by
  refine MetFree.of_bodySF hpl hisR ?_
  intro p e s m args below meth c s₁ Bd hml0 hP hK
  obtain ⟨rfl, hZ, hh, hC⟩ := hP
  have hown : s.vm.findClass y.cls = some m.cls := findClass_of_methodNamed Bd.named
  have hnm := (name_of_methodNamed Bd.named Bd.method).1
  have X0 : Stand p l e rm s m args below meth c s₁ [] 0 0 := Stand.of_body Bd
  have e0 : s₁.heap = h := by rw [← hh, Bd.state]; rfl
  exact body p e s m below meth c s₁ ⟨[], X0, e0, hZ, hown, ⟨0, (State.WarmedH.refl s).since 0, Nat.zero_le _⟩, by rw [hh]; exact CHr.refl hC, Fr.nil _, hE, Bd.exec, Bd.bytes, hml0, Bd.returns, Bd.notSynchronized, hnm, hEL⟩
/-- a step that leaves the heap as it is -/
theorem Wk.stay (W : Wk p l e R s m args below meth c Z a0 EL y bytes ml ret T h vm0 cells slots) (f : ∀ locs, Stand p l e R (s.setVm vm0) m args below meth c T locs cells slots → ∃ T', Stand p l e R (s.setVm vm0) m args below meth c T' locs cells slots ∧ T'.heap = h ∧ ∀ target, Steps p.tables e below (T'.setTop g') target → Steps p.tables e below (T.setTop g) target)
    (K : ∀ T', Wk p l e R s m args below meth c Z a0 EL y bytes ml ret T' h vm0 cells slots → Go p e below s Z EL KC KS Q T' g') : Go p e below s Z EL KC KS Q T g := by
  obtain ⟨locs, X, hT, r⟩ := W
  obtain ⟨T', X', hT', st⟩ := f locs X
  exact Go.step st (K T' ⟨locs, X', hT', r⟩)
theorem Wk.getF (W : Wk p l e R s m args below meth c Z a0 EL y bytes ml ret T h vm0 cells slots) {R0 O n d host : String} {index : Nat} (w : (Cond.fieldLink y.cls index R0 n d).before a0 Z = true ∨ (Cond.fieldLinkNest y.cls index R0 n d host).before a0 Z = true) (via : Via Z R0 O n d) {a : Addr} {v : Value} (F : Fld Z h a O n d v) (hd : decode bytes pc = .ok (.getfield index, 3))
    (K : ∀ T', Wk p l e R s m args below meth c Z a0 EL y bytes ml ret T' h vm0 cells slots → Go p e below s Z EL KC KS Q T' (mkF m (pc + 3) Ls (v :: rest))) : Go p e below s Z EL KC KS Q T (mkF m pc Ls (.ref a :: rest)) := by
  refine W.stay (fun locs X => ?_) K
  obtain ⟨_, -, hT, hZ, hown, -⟩ := id W
  exact RoadKit.getF X W.hx hZ hown w via hT F (g := mkF m pc Ls (.ref a :: rest)) rfl rfl (W.d hd)
theorem Wk.getS (W : Wk p l e R s m args below meth c Z a0 EL y bytes ml ret T h vm0 cells slots) {R0 O n d host : String} {index : Nat} (w : (Cond.fieldLink y.cls index R0 n d).before a0 Z = true ∨ (Cond.fieldLinkNest y.cls index R0 n d host).before a0 Z = true) (via : Via Z R0 O n d) {v : Value} (F : Sta Z Z.heap O n d v) (hd : decode bytes pc = .ok (.getstatic index, 3))
    (K : ∀ T', Wk p l e R s m args below meth c Z a0 EL y bytes ml ret T' h vm0 cells slots → Go p e below s Z EL KC KS Q T' (mkF m (pc + 3) Ls (v :: rest))) : Go p e below s Z EL KC KS Q T (mkF m pc Ls rest) := by
  refine W.stay (fun locs X => ?_) K
  obtain ⟨_, -, hT, hZ, hown, -⟩ := id W
  exact getS2 X W.hx hZ hown w via hT (F.ext W.ext) (g := mkF m pc Ls rest) rfl (W.d hd)
theorem Wk.cast (W : Wk p l e R s m args below meth c Z a0 EL y bytes ml ret T h vm0 cells slots) {K' : String} {index : Nat} (w : (Cond.classLink y.cls index K').before a0 Z = true) {a : Addr} (F : Ins Z h a K' true) (hd : decode bytes pc = .ok (.checkcast index, 3))
    (K : ∀ T', Wk p l e R s m args below meth c Z a0 EL y bytes ml ret T' h vm0 cells slots → Go p e below s Z EL KC KS Q T' (mkF m (pc + 3) Ls (.ref a :: rest))) : Go p e below s Z EL KC KS Q T (mkF m pc Ls (.ref a :: rest)) := by
  refine W.stay (fun locs X => ?_) K
  obtain ⟨_, -, hT, hZ, hown, -⟩ := id W
  exact castY X W.hx hZ hown w hT F (g := mkF m pc Ls (.ref a :: rest)) rfl rfl (W.d hd)
theorem Wk.instY (W : Wk p l e R s m args below meth c Z a0 EL y bytes ml ret T h vm0 cells slots) {K' : String} {index : Nat} (w : (Cond.classLink y.cls index K').before a0 Z = true) {a : Addr} (F : Ins Z h a K' true) (hd : decode bytes pc = .ok (.instanceof index, 3))
    (K : ∀ T', Wk p l e R s m args below meth c Z a0 EL y bytes ml ret T' h vm0 cells slots → Go p e below s Z EL KC KS Q T' (mkF m (pc + 3) Ls (.int 1 :: rest))) : Go p e below s Z EL KC KS Q T (mkF m pc Ls (.ref a :: rest)) := by
  refine W.stay (fun locs X => ?_) K
  obtain ⟨_, -, hT, hZ, hown, -⟩ := id W
  exact RoadKit.instY X W.hx hZ hown w hT F (g := mkF m pc Ls (.ref a :: rest)) rfl rfl (W.d hd)
theorem Wk.instN (W : Wk p l e R s m args below meth c Z a0 EL y bytes ml ret T h vm0 cells slots) {K' C : String} {index : Nat} (w : (Cond.classLink y.cls index K').before a0 Z = true) {a : Addr} (E : Exa Z h a C) (F : ∃ c t, Z.vm.findClass C = some c ∧ Z.vm.findClass K' = some t ∧ Z.vm.assignable c t = false) (hd : decode bytes pc = .ok (.instanceof index, 3))
    (K : ∀ T', Wk p l e R s m args below meth c Z a0 EL y bytes ml ret T' h vm0 cells slots → Go p e below s Z EL KC KS Q T' (mkF m (pc + 3) Ls (.int 0 :: rest))) : Go p e below s Z EL KC KS Q T (mkF m pc Ls (.ref a :: rest)) := by
  refine W.stay (fun locs X => ?_) K
  obtain ⟨_, -, hT, hZ, hown, -⟩ := id W
  exact instNo X W.hx hZ hown w hT E F (g := mkF m pc Ls (.ref a :: rest)) rfl rfl (W.d hd)
theorem Wk.instNull (W : Wk p l e R s m args below meth c Z a0 EL y bytes ml ret T h vm0 cells slots) {index : Nat} (hd : decode bytes pc = .ok (.instanceof index, 3)) (K : Go p e below s Z EL KC KS Q T (mkF m (pc + 3) Ls (.int 0 :: rest))) : Go p e below s Z EL KC KS Q T (mkF m pc Ls (.null :: rest)) := by
  obtain ⟨_, X, -⟩ := id W
  exact Go.step (X.instanceofNull W.hx (g := mkF m pc Ls (.null :: rest)) rfl rfl (W.d hd)) K
theorem Wk.castNull (W : Wk p l e R s m args below meth c Z a0 EL y bytes ml ret T h vm0 cells slots) {index : Nat} (hd : decode bytes pc = .ok (.checkcast index, 3)) (K : Go p e below s Z EL KC KS Q T (mkF m (pc + 3) Ls (.null :: rest))) : Go p e below s Z EL KC KS Q T (mkF m pc Ls (.null :: rest)) := by
  obtain ⟨_, X, -⟩ := id W
  exact Go.step (X.checkcastNull W.hx (g := mkF m pc Ls (.null :: rest)) rfl rfl (W.d hd)) K
theorem Wk.acmp (W : Wk p l e R s m args below meth c Z a0 EL y bytes ml ret T h vm0 cells slots) {cd : ACond} {u v : Value} (h1 : u.isRef = true) (h2 : v.isRef = true) {o : Int} {pc' : Nat} {same : Bool} (hd : decode bytes pc = .ok (.if_acmp cd o, 3)) (hq : decide (u = v) = same) (ho : 0 ≤ (pc : Int) + o) (hp : pc' = if acV cd same = true then ((pc : Int) + o).toNat else pc + 3)
    (K : Go p e below s Z EL KC KS Q T (mkF m pc' Ls rest)) : Go p e below s Z EL KC KS Q T (mkF m pc Ls (v :: u :: rest)) := by
  obtain ⟨_, X, -⟩ := id W
  exact Go.step (fun _ k => RoadKit.acmp (g := mkF m pc Ls (v :: u :: rest)) X W.hx rfl h1 h2 rfl (W.d hd) rfl hq ho hp k) K
theorem Wk.initO (W : Wk p l e R s m args below meth c Z a0 EL y bytes ml ret T h vm0 cells slots) {idx : Nat} (w1 : (Cond.methodLink y.cls idx Lib.objectInit).before a0 Z = true) (w2 : (Cond.instanceMethod Lib.objectInit).before a0 Z = true) (w3 : (Cond.code Lib.objectInit ⟨#[0xb1]⟩ 1 none).before a0 Z = true) {a : Addr} (hsz : Ls.size = ml) (hd : decode bytes pc = .ok (.invokespecial idx, 3))
    (hf : 1 ≤ R.frames) {Wd : Nat} (hW : (rest.map fun v => v.category).sum ≤ Wd) (hl : Wd + 12 ≤ R.locals)
    (K : ∀ T', Wk p l e R s m args below meth c Z a0 EL y bytes ml ret T' h vm0 cells slots → Go p e below s Z EL KC KS Q T' (mkF m (pc + 3) Ls rest)) : Go p e below s Z EL KC KS Q T (mkF m pc Ls (.ref a :: rest)) := by
  refine W.stay (fun locs X => ?_) K
  obtain ⟨_, -, hT, hZ, hown, -, -, -, -, -, -, hml, -⟩ := id W
  exact RoadKit.initO X W.hx hZ hown w1 w2 w3 hT (g := mkF m pc Ls (.ref a :: rest)) rfl (by rw [hml]; exact hsz) rfl (W.d hd) hf (W := Wd) (by show 2 * 0 + _ ≤ _; omega) hl
theorem Wk.new (W : Wk p l e R s m args below meth c Z a0 EL y bytes ml ret T h vm0 cells slots) {C : String} {index n : Nat} (w : (Cond.classLink y.cls index C).before a0 Z = true) (wi : (Cond.instantiable C n).before a0 Z = true) (wz : (Cond.initialized C).before a0 Z = true) (hd : decode bytes pc = .ok (.new index, 3)) (hc : cells + 1 ≤ R.cells) (hl : slots + n ≤ R.slots)
    (K : ∀ T' h' a, a = h.size → Wk p l e R s m args below meth c Z a0 EL y bytes ml ret T' h' vm0 (cells + 1) (slots + n) → Ext h h' → Exa Z h' a C → (∀ {O nm d : String} {ty : FieldType}, Laid Z a0 C O nm d → parseFieldDescriptor d = some ty → Fld Z h' a O nm d (defaultValue ty)) → Go p e below s Z EL KC KS Q T' (mkF m (pc + 3) Ls (.ref a :: rest))) : Go p e below s Z EL KC KS Q T (mkF m pc Ls rest) := by
  have hx := W.hx; have hd' := W.d hd
  obtain ⟨locs, X, hT, hZ, hown, ⟨k0, hS, hk⟩, hC, hF, hE, r⟩ := W
  obtain ⟨T', h', X', e', E, A, D, -, st⟩ := newO X hx hZ hown w wi wz hT (g := mkF m pc Ls rest) rfl hd' hc hl
  exact Go.step st (K T' h' _ rfl ⟨locs, X', e', hZ, hown, ⟨k0, hS, Nat.le_trans hk E.1⟩, hC.trans (CHr.ext E hC.1), hF, ext_trans hE E, r⟩ E A D)
theorem Wk.newarr (W : Wk p l e R s m args below meth c Z a0 EL y bytes ml ret T h vm0 cells slots) {aty : ArrayType} (w : (Cond.arrayClass (newarray.typeOf aty)).before a0 Z = true) {n : Int32} (hd : decode bytes pc = .ok (.newarray aty, 2)) (hn : ¬ n < 0) {cap : Nat} (hcap : n.toNatClampNeg ≤ cap) (hb : cap * 8 ≤ 536870912) (hc : cells + 1 ≤ R.cells) (hl : slots + cap ≤ R.slots)
    (K : ∀ T' h' a k, a = h.size → Wk p l e R s m args below meth c Z a0 EL y bytes ml ret T' h' vm0 (cells + 1) (slots + cap) → Ext h h' → Arv Z h' a k (newarray.typeOf aty) n [] (defaultValue (newarray.typeOf aty)) → Safe Z EL vm0 h' a → Go p e below s Z EL KC KS Q T' (mkF m (pc + 2) Ls (.ref a :: rest))) : Go p e below s Z EL KC KS Q T (mkF m pc Ls (.int n :: rest)) := by
  have hx := W.hx; have hd' := W.d hd
  obtain ⟨locs, X, hT, hZ, hown, ⟨k0, hS, hk⟩, hC, hF, hE, r⟩ := W
  obtain ⟨T', h', cA, X', e', E, A, st⟩ := newP X hx hZ w hT (g := mkF m pc Ls (.int n :: rest)) rfl hd' rfl hn hcap hb hc hl
  exact Go.step st (K T' h' _ cA rfl ⟨locs, X', e', hZ, hown, ⟨k0, hS, Nat.le_trans hk E.1⟩, hC.trans (CHr.ext E hC.1), hF, ext_trans hE E, r⟩ E (Arv.new A hn) (Safe.ext E hC.1 (Safe.new (Nat.le_refl _))))
/-- a write into one cell made since the law began -/
theorem Wk.wrote (W : Wk p l e R s m args below meth c Z a0 EL y bytes ml ret T h vm0 cells slots) {a : Addr} {sl : Nat} {v : Value} (ha : Z.heap.size ≤ a) (S : Safe Z EL vm0 h a)
    (f : ∀ locs, Stand p l e R (s.setVm vm0) m args below meth c T locs cells slots → ∃ T' h', Stand p l e R (s.setVm vm0) m args below meth c T' (locs ++ [⟨a, sl⟩]) cells slots ∧ T'.heap = h' ∧ Wr h h' a sl v ∧ ∀ target, Steps p.tables e below (T'.setTop g') target → Steps p.tables e below (T.setTop g) target)
    (K : ∀ T' h', Wk p l e R s m args below meth c Z a0 EL y bytes ml ret T' h' vm0 cells slots → Wr h h' a sl v → Go p e below s Z EL KC KS Q T' g') : Go p e below s Z EL KC KS Q T g := by
  obtain ⟨locs, X, hT, hZ, hown, ⟨k0, hS, hk⟩, hC, hF, hE, r⟩ := W
  obtain ⟨T', h', X', e', Ww, st⟩ := f locs X
  exact Go.step st (K T' h' ⟨_, X', e', hZ, hown, ⟨k0, hS, by rw [Ww.size]; exact hk⟩, hC.trans (CHr.wr Ww S hC.1), Fr.snoc X' hF ha, ext_keep hE (Keep.of_wr Ww) (allS ha all0), r⟩ Ww)
theorem Wk.putF (W : Wk p l e R s m args below meth c Z a0 EL y bytes ml ret T h vm0 cells slots) {R0 O n d host C : String} {index kk : Nat} {ty : FieldType} (w : (Cond.fieldLink y.cls index R0 n d).before a0 Z = true ∨ (Cond.fieldLinkNest y.cls index R0 n d host).before a0 Z = true) (via : Via Z R0 O n d)
    {a : Addr} {v old : Value} (F : Fld Z h a O n d old) (E : Exa Z h a C) (L : (Cond.lays C O n d).before a0 Z = true ∨ ((Cond.laysFinal C O n d).before a0 Z = true ∧ y.cls = O ∧ y.name = "<init>")) (wi : (Cond.instantiable C kk).before a0 Z = true) (hty : parseFieldDescriptor d = some ty) (hn : narrow ty v = v) (hf : fits ty v = true)
    (ha : Z.heap.size ≤ a) (S : Safe Z EL vm0 h a) (hd : decode bytes pc = .ok (.putfield index, 3))
    (K : ∀ T' h', Wk p l e R s m args below meth c Z a0 EL y bytes ml ret T' h' vm0 cells slots → Wr h h' a (RoadKit.slotOf Z O n d) v → Fld Z h' a O n d v → Go p e below s Z EL KC KS Q T' (mkF m (pc + 3) Ls rest)) : Go p e below s Z EL KC KS Q T (mkF m pc Ls (v :: .ref a :: rest)) := by
  refine W.wrote (sl := RoadKit.slotOf Z O n d) (v := v) ha S (fun locs X => ?_) (fun T' h' W' Ww => K T' h' W' Ww (F.same Ww))
  obtain ⟨_, -, hT, hZ, hown, -, -, -, -, -, -, -, -, -, hnm, -⟩ := id W
  exact RoadKit.putF X W.hx hZ hown w via hT F E (L.imp id fun q => ⟨q.1, q.2.1, hnm.trans q.2.2⟩) wi hty hn hf (g := mkF m pc Ls (v :: .ref a :: rest)) rfl rfl (W.d hd)
theorem Wk.castore (W : Wk p l e R s m args below meth c Z a0 EL y bytes ml ret T h vm0 cells slots) {a : Addr} {k : ClassId} {n j x : Int32} {vs : List Value} {dv : Value} (V : Arv Z h a k .char n vs dv) (i : Nat) (hj : j.toNatClampNeg = i) (hi : i < vs.length) (hin : ¬ j < 0 ∧ j < n) (ha : Z.heap.size ≤ a) (hd : decode bytes pc = .ok (.castore, 1))
    (K : ∀ T' h', Wk p l e R s m args below meth c Z a0 EL y bytes ml ret T' h' vm0 cells slots → Keep h h' [a] → Arv Z h' a k .char n (vs.set i (.int (nar .char x))) dv → Go p e below s Z EL KC KS Q T' (mkF m (pc + 1) Ls rest)) : Go p e below s Z EL KC KS Q T (mkF m pc Ls (.int x :: .int j :: .ref a :: rest)) := by
  have S : Safe Z EL vm0 h a := Safe.arv W.hZ.alike V (by decide)
  obtain ⟨cl, A, q1, S1, q3, H, G⟩ := id V
  refine W.wrote (sl := j.toNatClampNeg) (v := .int (nar .char x)) ha S (fun locs X => ?_) (fun T' h' W' Ww => K T' h' W' (Keep.of_wr Ww) (Arv.set A q1 S1 q3 H G (fits_nar_char _) Ww i hj hi))
  obtain ⟨_, -, hT, hZ, -⟩ := id W
  exact stC X W.hx hZ hT A (inb_of S1 hin) (g := mkF m pc Ls (.int x :: .int j :: .ref a :: rest)) rfl rfl (W.d hd)
theorem Wk.bastore (W : Wk p l e R s m args below meth c Z a0 EL y bytes ml ret T h vm0 cells slots) {a : Addr} {k : ClassId} {n j x : Int32} {vs : List Value} {dv : Value} (V : Arv Z h a k .byte n vs dv) (i : Nat) (hj : j.toNatClampNeg = i) (hi : i < vs.length) (hin : ¬ j < 0 ∧ j < n) (ha : Z.heap.size ≤ a) (S : Safe Z EL vm0 h a) (hd : decode bytes pc = .ok (.bastore, 1))
    (K : ∀ T' h', Wk p l e R s m args below meth c Z a0 EL y bytes ml ret T' h' vm0 cells slots → Keep h h' [a] → Arv Z h' a k .byte n (vs.set i (.int (nar .byte x))) dv → Go p e below s Z EL KC KS Q T' (mkF m (pc + 1) Ls rest)) : Go p e below s Z EL KC KS Q T (mkF m pc Ls (.int x :: .int j :: .ref a :: rest)) := by
  obtain ⟨cl, A, q1, S1, q3, H, G⟩ := id V
  refine W.wrote (sl := j.toNatClampNeg) (v := .int (nar .byte x)) ha S (fun locs X => ?_) (fun T' h' W' Ww => K T' h' W' (Keep.of_wr Ww) (Arv.set A q1 S1 q3 H G (fits_nar_byte _) Ww i hj hi))
  obtain ⟨_, -, hT, hZ, -⟩ := id W
  exact stB X W.hx hZ hT A (inb_of S1 hin) (g := mkF m pc Ls (.int x :: .int j :: .ref a :: rest)) rfl rfl (W.d hd)
theorem Wk.baload (W : Wk p l e R s m args below meth c Z a0 EL y bytes ml ret T h vm0 cells slots) {a : Addr} {k : ClassId} {n j : Int32} {vs : List Value} {dv v : Value} (V : Arv Z h a k .byte n vs dv) (hin : ¬ j < 0 ∧ j < n) (hv : vs.getD j.toNatClampNeg dv = v) (hd : decode bytes pc = .ok (.baload, 1))
    (K : Go p e below s Z EL KC KS Q T (mkF m (pc + 1) Ls (v :: rest))) : Go p e below s Z EL KC KS Q T (mkF m pc Ls (.int j :: .ref a :: rest)) := by
  obtain ⟨cl, A, q1, S1, q3, H, G⟩ := id V
  obtain ⟨_, X, hT, hZ, -⟩ := id W
  exact Go.step (X.baloadBytes W.hx (j := j) (v := v) (by rw [hT]; exact A.1) (State.isArrayOf_alike hZ.alike A.2.1) A.2.2 (inb_of S1 hin) (H.at (inb_of S1 hin) hv) (g := mkF m pc Ls (.int j :: .ref a :: rest)) rfl rfl (W.d hd)) K
theorem Wk.caload (W : Wk p l e R s m args below meth c Z a0 EL y bytes ml ret T h vm0 cells slots) {a : Addr} {k : ClassId} {n j : Int32} {vs : List Value} {dv v : Value} (V : Arv Z h a k .char n vs dv) (hin : ¬ j < 0 ∧ j < n) (hv : vs.getD j.toNatClampNeg dv = v) (hd : decode bytes pc = .ok (.caload, 1))
    (K : Go p e below s Z EL KC KS Q T (mkF m (pc + 1) Ls (v :: rest))) : Go p e below s Z EL KC KS Q T (mkF m pc Ls (.int j :: .ref a :: rest)) := by
  obtain ⟨cl, A, q1, S1, q3, H, G⟩ := id V
  obtain ⟨_, X, hT, hZ, -⟩ := id W
  exact Go.step (X.caload W.hx (j := j) (v := v) (by rw [hT]; exact A.1) (State.isArrayOf_alike hZ.alike A.2.1) A.2.2 (inb_of S1 hin) (H.at (inb_of S1 hin) hv) (g := mkF m pc Ls (.int j :: .ref a :: rest)) rfl rfl (W.d hd)) K
theorem Wk.aaload (W : Wk p l e R s m args below meth c Z a0 EL y bytes ml ret T h vm0 cells slots) {a : Addr} {k : ClassId} {ty : FieldType} {n j : Int32} {vs : List Value} {dv v : Value} (V : Arv Z h a k ty n vs dv) (ht : ty.isReference = true) (hin : ¬ j < 0 ∧ j < n) (hv : vs.getD j.toNatClampNeg dv = v) (hd : decode bytes pc = .ok (.aaload, 1))
    (K : Go p e below s Z EL KC KS Q T (mkF m (pc + 1) Ls (v :: rest))) : Go p e below s Z EL KC KS Q T (mkF m pc Ls (.int j :: .ref a :: rest)) := by
  obtain ⟨cl, A, q1, S1, q3, H, G⟩ := id V
  obtain ⟨_, X, hT, hZ, -⟩ := id W
  exact Go.step (X.aaload W.hx (j := j) (v := v) (by rw [hT]; exact A.1) (State.isArrayOf_alike hZ.alike A.2.1) ht A.2.2 (inb_of S1 hin) (H.at (inb_of S1 hin) hv) (g := mkF m pc Ls (.int j :: .ref a :: rest)) rfl rfl (W.d hd)) K
/-- clone() of an array -/
theorem Wk.clone (W : Wk p l e R s m args below meth c Z a0 EL y bytes ml ret T h vm0 cells slots) {ad : String} {index : Nat} (w1 : (Cond.methodLink y.cls index ⟨ad, "clone", "()Ljava/lang/Object;"⟩).before a0 Z = true) (w2 : (Cond.sameMethod ad "java/lang/Object" "clone" "()Ljava/lang/Object;").before a0 Z = true) (w3 : (Cond.native ⟨"java/lang/Object", "clone", "()Ljava/lang/Object;"⟩).before a0 Z = true)
    (w4 : (Cond.instanceMethod ⟨"java/lang/Object", "clone", "()Ljava/lang/Object;"⟩).before a0 Z = true) (w5 : (Cond.selects ad ⟨ad, "clone", "()Ljava/lang/Object;"⟩ ⟨"java/lang/Object", "clone", "()Ljava/lang/Object;"⟩).before a0 Z = true) (w6 : (Cond.castable ad "java/lang/Cloneable").before a0 Z = true)
    {a : Addr} {k : ClassId} {ty : FieldType} {n : Int32} {vs : List Value} {dv : Value} (V : Arv Z h a k ty n vs dv) (E : Exa Z h a ad) (hsz : Ls.size = ml) (hd : decode bytes pc = .ok (.invokevirtual index, 3)) (hf : 1 ≤ R.frames) {Wd cap : Nat} (hW : (rest.map fun v => v.category).sum ≤ Wd) (hl : Wd + 14 ≤ R.locals) (hcap : n.toNatClampNeg ≤ cap) (hc : cells + 1 ≤ R.cells) (hsl : slots + cap ≤ R.slots)
    (K : ∀ T' h' b, b = h.size → Wk p l e R s m args below meth c Z a0 EL y bytes ml ret T' h' vm0 (cells + 1) (slots + cap) → Ext h h' → Exa Z h' b ad → Arv Z h' b k ty n vs dv → Go p e below s Z EL KC KS Q T' (mkF m (pc + 3) Ls (.ref b :: rest))) : Go p e below s Z EL KC KS Q T (mkF m pc Ls (.ref a :: rest)) := by
  have hx := W.hx; have hd' := W.d hd
  obtain ⟨locs, X, hT, hZ, hown, ⟨k0, hS, hk⟩, hC, hF, hE, r1, r2, hml, r⟩ := W
  obtain ⟨cl, A, q1, S, q3, H, G⟩ := V
  have FC : FitC Z cl := fitC_of A fun i hi v hv => by rw [H i hi] at hv; cases hv; exact G i hi
  obtain ⟨T', h', X', e', Ex, A', E', st⟩ := cloneA X hx hZ hown w1 w2 w3 w4 w5 w6 hT A E FC (g := mkF m pc Ls (.ref a :: rest)) rfl (by rw [hml]; exact hsz) rfl hd' hf (W := Wd) (by show 2 * 0 + _ ≤ _; omega) hl (by rw [S]; exact hcap) hc hsl
  exact Go.step st (K T' h' _ rfl ⟨locs, X', e', hZ, hown, ⟨k0, hS, Nat.le_trans hk Ex.1⟩, hC.trans (CHr.ext Ex hC.1), hF, ext_trans hE Ex, r1, r2, hml, r⟩ Ex E' ⟨cloneOf cl, A', q1, S, q3, H, G⟩)
theorem Wk.arraylength (W : Wk p l e R s m args below meth c Z a0 EL y bytes ml ret T h vm0 cells slots) {a : Addr} {k : ClassId} {ty : FieldType} {n : Int32} {vs : List Value} {dv : Value} (V : Arv Z h a k ty n vs dv) (hd : decode bytes pc = .ok (.arraylength, 1))
    (K : Go p e below s Z EL KC KS Q T (mkF m (pc + 1) Ls (.int n :: rest))) : Go p e below s Z EL KC KS Q T (mkF m pc Ls (.ref a :: rest)) := by
  obtain ⟨cl, A, q1, S1, q3, H, G⟩ := id V
  obtain ⟨_, X, hT, hZ, -⟩ := id W
  refine Go.step (X.arraylength W.hx (by rw [hT]; exact A.1) (State.isArrayOf_alike hZ.alike A.2.1) (g := mkF m pc Ls (.ref a :: rest)) rfl rfl (W.d hd)) ?_
  rw [len_of S1 q3]; exact K
/-- ldc of a String constant, not read -/
theorem Wk.ldcO (W : Wk p l e R s m args below meth c Z a0 EL y bytes ml ret T h vm0 cells slots) {text : String} {index : Nat} (w : (Cond.stringLink y.cls index text).before a0 Z = true) (wS : ∀ a ∈ Bundle.stringAtoms, a.before a0 Z = true) (hd : decode bytes pc = .ok (.ldc index, 2)) {n : Nat} (hn : 4 * text.toList.length ≤ n) (hbig : n ≤ 536870912) (hc : cells + 2 ≤ R.cells) (hl : slots + (n + 4) ≤ R.slots)
    (K : ∀ T' h' vm1 a, Wk p l e R s m args below meth c Z a0 EL y bytes ml ret T' h' vm1 (cells + 2) (slots + (n + 4)) → Ext h h' → CHr Z EL vm0 h vm1 h' → Go p e below s Z EL KC KS Q T' (mkF m (pc + 2) Ls (.ref a :: rest))) : Go p e below s Z EL KC KS Q T (mkF m pc Ls rest) := by
  have hx := W.hx; have hd' := W.d hd
  obtain ⟨locs, X, hT, hZ, hown, ⟨k0, hS, hk⟩, hC, hF, hE, r1, r2, r3, r4, r5, r6, hEL⟩ := W
  obtain ⟨a, T', h', k1, X', e', E, hS', hk', hZ', hown', hC', -, st⟩ := ldcOH X hx hZ hown w wS hT hS hk hEL hC.1 (g := mkF m pc Ls rest) rfl hd' hn hbig hc hl
  exact Go.step st (K T' h' T'.vm a ⟨locs, X', e', hZ', hown', ⟨k1, hS', hk'⟩, hC.trans hC', hF, ext_trans hE E, r1, r2, r3, r4, r5, r6, hEL⟩ E hC')
/-- ldc of a String constant, read -/
theorem Wk.ldcR (W : Wk p l e R s m args below meth c Z a0 EL y bytes ml ret T h vm0 cells slots) {text : String} {index : Nat} (w : (Cond.stringLink y.cls index text).before a0 Z = true) (wS : ∀ a ∈ Bundle.stringAtoms, a.before a0 Z = true) (hmem : (y.cls, index) ∈ EL) {vs : List Value} {z : Int32} (ht : (∀ c ∈ text.toList, c.toNat < 256) ∧ text.toList.map (fun c => Value.int (Jvm.Lit.byteI c.toNat.toUInt16)) = vs) (hz : ¬ z < 0) (hlz : z.toNatClampNeg = vs.length)
    (hd : decode bytes pc = .ok (.ldc index, 2)) {n : Nat} (hn : 4 * text.toList.length ≤ n) (hbig : n ≤ 536870912) (hc : cells + 2 ≤ R.cells) (hl : slots + (n + 4) ≤ R.slots)
    (K : ∀ T' h' vm1 a b k, Wk p l e R s m args below meth c Z a0 EL y bytes ml ret T' h' vm1 (cells + 2) (slots + (n + 4)) → Ext h h' → CHr Z EL vm0 h vm1 h' → Exa Z h' a "java/lang/String" → Fld Z h' a "java/lang/String" "coder" "B" (.int 0) → Fld Z h' a "java/lang/String" "value" "[B" (.ref b) → Arv Z h' b k .byte z vs (.int 0) → (∀ x, Safe Z EL vm1 h' x → x ≠ a ∧ x ≠ b) → Go p e below s Z EL KC KS Q T' (mkF m (pc + 2) Ls (.ref a :: rest))) : Go p e below s Z EL KC KS Q T (mkF m pc Ls rest) := by
  have hx := W.hx; have hd' := W.d hd
  obtain ⟨locs, X, hT, hZ, hown, ⟨k0, hS, hk⟩, hC, hF, hE, r1, r2, r3, r4, r5, r6, hEL⟩ := W
  obtain ⟨a, T', h', k1, b, k, X', e', E, hS', hk', hZ', hown', q1, q2, q3, q4, -, -, hC', -, q5, st⟩ := ldcCH X hx hZ hown w wS hT hS hk hEL hmem hC.1 ht hz hlz (g := mkF m pc Ls rest) rfl hd' hn hbig hc hl
  exact Go.step st (K T' h' T'.vm a b k ⟨locs, X', e', hZ', hown', ⟨k1, hS', hk'⟩, hC.trans hC', hF, ext_trans hE E, r1, r2, r3, r4, r5, r6, hEL⟩ E hC' q1 q2 q3 q4 q5)
/-- what a call by a contract gives back -/
theorem Wk.back (W : Wk p l e R s m args below meth c Z a0 EL y bytes ml ret T h vm0 cells slots) {y' : MethodName} {bytes' : ByteArray} {ml' : Nat} {ret' : Option FieldType} {rm : Room} {as' : Array Value} {Qc : Option Value → Heap → Prop} {len Wd : Nat} (C : Con l Z EL y' bytes' ml' ret' [] rm as' h Qc) (wc : (Cond.code y' bytes' ml' ret').before a0 Z = true) (wz : (Cond.initialized y'.cls).before a0 Z = true) (hfr : rm.frames + 1 ≤ R.frames) (hlo : Wd + (ml' + 11) + rm.locals ≤ R.locals) :
    BackS l R p e below (s.setVm vm0) args y' len Wd (fun A a => a = as' ∧ A.U.heap = h ∧ A.cells + rm.cells ≤ R.cells ∧ A.slots + rm.slots ≤ R.slots)
      (fun A _ v B => ∃ L, (Qc v B.U.heap ∧ Fr Z.heap.size L ∧ Ext Z.heap B.U.heap) ∧ B.locs = A.locs ++ L ∧ B.cells = A.cells + rm.cells ∧ B.slots = A.slots + rm.slots ∧ CHr Z EL vm0 h B.U.vm B.U.heap) := by
  obtain ⟨locs, X, hT, hZ, hown, -, hC, hF, hE, r1, r2, r3, r4, r5, r6, hEL⟩ := W
  exact backOfSH (Q := fun v h' L => Qc v h' ∧ Fr Z.heap.size L ∧ Ext Z.heap h') C hZ wc wz hfr hlo hEL hC.1
/-- behind such a call -/
theorem Wk.behind (W : Wk p l e R s m args below meth c Z a0 EL y bytes ml ret T h vm0 cells slots) {rm : Room} {Qc : Option Value → Heap → Prop} {locs : List Loc} (hF : Fr Z.heap.size locs) {v : Option Value} {B : Pt}
    (X' : Stand p l e R ((s.setVm vm0).setVm B.U.vm) m args below meth c B.U B.locs B.cells B.slots) (h2 : (s.setVm vm0).Since B.U.vm B.U.heap.size) (hg : T.heap.size ≤ B.U.heap.size) {L : List Loc} (hl : B.locs = locs ++ L) (hq : Qc v B.U.heap ∧ Fr Z.heap.size L ∧ Ext Z.heap B.U.heap) (hc : B.cells = cells + rm.cells) (hs : B.slots = slots + rm.slots) (hC' : CHr Z EL vm0 h B.U.vm B.U.heap) :
    Wk p l e R s m args below meth c Z a0 EL y bytes ml ret B.U B.U.heap B.U.vm (cells + rm.cells) (slots + rm.slots) := by
  obtain ⟨_, X, hT, hZ, hown, ⟨k0, hS, hk⟩, hC, -, hE, r⟩ := W
  obtain ⟨Y, hS', hZ', hown'⟩ := rebS hS (by rw [← hT] at hk; exact hk) X' h2 hg hZ hown
  rw [hl, hc, hs] at Y
  exact ⟨_, Y, rfl, hZ', hown', ⟨_, hS', Nat.le_refl _⟩, hC.trans hC', hF.app hq.2.1, hq.2.2, r⟩
theorem Wk.callS (W : Wk p l e R s m args below meth c Z a0 EL y bytes ml ret T h vm0 cells slots) {index : Nat} {y' : MethodName} {bytes' : ByteArray} {ml' : Nat} {ret' : Option FieldType} {rm : Room} {as' : Array Value} {Qc : Option Value → Heap → Prop} {Wd : Nat}
    (wl : (Cond.methodLink y.cls index y').before a0 Z = true) (wst : (Cond.static y').before a0 Z = true) (wz : (Cond.initialized y'.cls).before a0 Z = true) (wc : (Cond.code y' bytes' ml' ret').before a0 Z = true) (hy : y'.cls ≠ "java/lang/invoke/MethodHandle" ∧ y'.cls ≠ "java/lang/invoke/VarHandle")
    (C : Con l Z EL y' bytes' ml' ret' [] rm as' h Qc) (hfr : rm.frames + 1 ≤ R.frames) (hlo : Wd + (ml' + 11) + rm.locals ≤ R.locals) (argsL : List Value) (rest : List Value) (has : argsL.toArray = as') {ps : List FieldType} {r' : Option FieldType} (hdesc : parseMethodDescriptor y'.desc = some ⟨ps, r'⟩) (hlen : argsL.length = ps.length) (hsz : Ls.size = ml) (hst : st = argsL.reverse ++ rest) (hW : (rest.map fun v => v.category).sum ≤ Wd)
    (hd : decode bytes pc = .ok (.invokestatic index, 3)) (hc : cells + rm.cells ≤ R.cells) (hs : slots + rm.slots ≤ R.slots)
    (K : ∀ v T' h' vm1, Wk p l e R s m args below meth c Z a0 EL y bytes ml ret T' h' vm1 (cells + rm.cells) (slots + rm.slots) → Qc v h' → CHr Z EL vm0 h vm1 h' → Go p e below s Z EL KC KS Q T' (mkF m (pc + 3) Ls (v.toList ++ rest))) : Go p e below s Z EL KC KS Q T (mkF m pc Ls st) := by
  have bk := W.back (len := 3) (Wd := Wd) C wc wz hfr hlo
  have hx := W.hx; have hd' := W.d hd
  obtain ⟨locs, X, hT, hZ, hown, -, -, hF, -, -, -, hml, -⟩ := id W
  obtain ⟨v, vm₁, B, -, X', h2, hg, ⟨L, hq, hl, hcc, hss, hC'⟩, stp⟩ := callSS X hx hown (mvT hZ wl) (mvT hZ wst) (mvT hZ wz) (mvT hZ wc) hy bk (g := mkF m pc Ls st) rfl (by rw [hml]; exact hsz) (argsL := argsL) (rest := rest) (lenOf hdesc hlen) hst (by show 2 * 0 + _ ≤ _; omega) hd' (fun vm₁ _ => ⟨has, hT, hc, hs⟩)
  exact Go.step (fun _ k => stp.trans k) (K v B.U B.U.heap B.U.vm (W.behind (rm := rm) (Qc := Qc) hF X' h2 hg hl hq hcc hss hC') hq.1 hC')
theorem Wk.special (W : Wk p l e R s m args below meth c Z a0 EL y bytes ml ret T h vm0 cells slots) {index : Nat} {y' : MethodName} {bytes' : ByteArray} {ml' : Nat} {rm : Room} {as' : Array Value} {Qc : Option Value → Heap → Prop} {Wd : Nat} (hin : y'.name = "<init>")
    (wl : (Cond.methodLink y.cls index y').before a0 Z = true) (wi : (Cond.instanceMethod y').before a0 Z = true) (wz : (Cond.initialized y'.cls).before a0 Z = true) (wc : (Cond.code y' bytes' ml' none).before a0 Z = true) (hy : y'.cls ≠ "java/lang/invoke/MethodHandle" ∧ y'.cls ≠ "java/lang/invoke/VarHandle")
    (C : Con l Z EL y' bytes' ml' none [] rm as' h Qc) (hfr : rm.frames + 1 ≤ R.frames) (hlo : Wd + (ml' + 11) + rm.locals ≤ R.locals) (a : Addr) (argsL : List Value) (rest : List Value) (has : (.ref a :: argsL).toArray = as') {ps : List FieldType} {r' : Option FieldType} (hdesc : parseMethodDescriptor y'.desc = some ⟨ps, r'⟩) (hlen : argsL.length = ps.length) (hsz : Ls.size = ml) (hst : st = argsL.reverse ++ .ref a :: rest) (hW : (rest.map fun v => v.category).sum ≤ Wd)
    (hd : decode bytes pc = .ok (.invokespecial index, 3)) (hc : cells + rm.cells ≤ R.cells) (hs : slots + rm.slots ≤ R.slots)
    (K : ∀ v T' h' vm1, Wk p l e R s m args below meth c Z a0 EL y bytes ml ret T' h' vm1 (cells + rm.cells) (slots + rm.slots) → Qc v h' → CHr Z EL vm0 h vm1 h' → Go p e below s Z EL KC KS Q T' (mkF m (pc + 3) Ls (v.toList ++ rest))) : Go p e below s Z EL KC KS Q T (mkF m pc Ls st) := by
  have bk := W.back (len := 3) (Wd := Wd) C wc wz hfr hlo
  have hx := W.hx; have hd' := W.d hd
  obtain ⟨locs, X, hT, hZ, hown, -, -, hF, -, -, -, hml, -⟩ := id W
  obtain ⟨v, vm₁, B, -, X', h2, hg, ⟨L, hq, hl, hcc, hss, hC'⟩, stp⟩ := X.specialBackS hx hin hown (mvT hZ wl) (mvT hZ wi) (mvT hZ wc) hy bk (g := mkF m pc Ls st) rfl (by rw [hml]; exact hsz) (Steps.refl _) (a := a) (argsL := argsL) (rest := rest) (lenOf hdesc hlen) hst (by show 2 * 0 + _ ≤ _; omega) hd' (fun vm₁ _ => ⟨has, hT, hc, hs⟩)
  exact Go.step (fun _ k => stp.trans k) (K v B.U B.U.heap B.U.vm (W.behind (rm := rm) (Qc := Qc) hF X' h2 hg hl hq hcc hss hC') hq.1 hC')
theorem Wk.virtual (W : Wk p l e R s m args below meth c Z a0 EL y bytes ml ret T h vm0 cells slots) {index : Nat} {yr y' : MethodName} {D : String} {bytes' : ByteArray} {ml' : Nat} {ret' : Option FieldType} {rm : Room} {as' : Array Value} {Qc : Option Value → Heap → Prop} {Wd : Nat}
    (wl : (Cond.methodLink y.cls index yr).before a0 Z = true) (wd : (Cond.declares yr).before a0 Z = true) (hnf : NotFace (s.setVm vm0) yr) (wsel : (Cond.selects D yr y').before a0 Z = true) (wi : (Cond.instanceMethod y').before a0 Z = true) (wz : (Cond.initialized y'.cls).before a0 Z = true) (wc : (Cond.code y' bytes' ml' ret').before a0 Z = true) (hy : yr.cls ≠ "java/lang/invoke/MethodHandle" ∧ yr.cls ≠ "java/lang/invoke/VarHandle")
    (C : Con l Z EL y' bytes' ml' ret' [] rm as' h Qc) (hfr : rm.frames + 1 ≤ R.frames) (hlo : Wd + (ml' + 11) + rm.locals ≤ R.locals) (a : Addr) (E : Exa Z h a D) (argsL : List Value) (rest : List Value) (has : (.ref a :: argsL).toArray = as') {ps : List FieldType} {r' : Option FieldType} (hdesc : parseMethodDescriptor yr.desc = some ⟨ps, r'⟩) (hlen : argsL.length = ps.length) (hsz : Ls.size = ml) (hst : st = argsL.reverse ++ .ref a :: rest) (hW : (rest.map fun v => v.category).sum ≤ Wd)
    (hd : decode bytes pc = .ok (.invokevirtual index, 3)) (hc : cells + rm.cells ≤ R.cells) (hs : slots + rm.slots ≤ R.slots)
    (K : ∀ v T' h' vm1, Wk p l e R s m args below meth c Z a0 EL y bytes ml ret T' h' vm1 (cells + rm.cells) (slots + rm.slots) → Qc v h' → CHr Z EL vm0 h vm1 h' → Go p e below s Z EL KC KS Q T' (mkF m (pc + 3) Ls (v.toList ++ rest))) : Go p e below s Z EL KC KS Q T (mkF m pc Ls st) := by
  have bk := W.back (len := 3) (Wd := Wd) C wc wz hfr hlo
  have hx := W.hx; have hd' := W.d hd
  obtain ⟨locs, X, hT, hZ, hown, -, -, hF, -, -, -, hml, -⟩ := id W
  obtain ⟨cB, kB, i1, -, i3⟩ := isOf hZ hT E
  obtain ⟨v, vm₁, B, -, X', h2, hg, ⟨L, hq, hl, hcc, hss, hC'⟩, stp⟩ := X.virtualBackS hx hown (mvT hZ wl) (mvT hZ wd) hnf (mvT hZ wsel) (mvT hZ wi) hy bk i1 i3 (g := mkF m pc Ls st) rfl (by rw [hml]; exact hsz) (Steps.refl _) (argsL := argsL) (rest := rest) (lenOf hdesc hlen) hst (by show 2 * 0 + _ ≤ _; omega) hd' (fun vm₁ _ => ⟨has, hT, hc, hs⟩)
  exact Go.step (fun _ k => stp.trans k) (K v B.U B.U.heap B.U.vm (W.behind (rm := rm) (Qc := Qc) hF X' h2 hg hl hq hcc hss hC') hq.1 hC')
theorem Wk.iface (W : Wk p l e R s m args below meth c Z a0 EL y bytes ml ret T h vm0 cells slots) {index count : Nat} {yr y' : MethodName} {D : String} {bytes' : ByteArray} {ml' : Nat} {ret' : Option FieldType} {rm : Room} {as' : Array Value} {Qc : Option Value → Heap → Prop} {Wd : Nat}
    (wl : (Cond.methodLink y.cls index yr).before a0 Z = true) (wd : (Cond.declares yr).before a0 Z = true) (wf : (Cond.interfaceMethod yr.cls yr.cls yr.name yr.desc).before a0 Z = true) (wsel : (Cond.selects D yr y').before a0 Z = true) (wi : (Cond.instanceMethod y').before a0 Z = true) (wp : (Cond.publicMethod y').before a0 Z = true) (wu : (Cond.unhidden D yr.name yr.desc).before a0 Z = true) (wk : (Cond.castable D yr.cls).before a0 Z = true) (wz : (Cond.initialized y'.cls).before a0 Z = true) (wc : (Cond.code y' bytes' ml' ret').before a0 Z = true) (hy : yr.cls ≠ "java/lang/invoke/MethodHandle" ∧ yr.cls ≠ "java/lang/invoke/VarHandle")
    (C : Con l Z EL y' bytes' ml' ret' [] rm as' h Qc) (hfr : rm.frames + 1 ≤ R.frames) (hlo : Wd + (ml' + 11) + rm.locals ≤ R.locals) (a : Addr) (E : Exa Z h a D) (argsL : List Value) (rest : List Value) (has : (.ref a :: argsL).toArray = as') {ps : List FieldType} {r' : Option FieldType} (hdesc : parseMethodDescriptor yr.desc = some ⟨ps, r'⟩) (hlen : argsL.length = ps.length) (hsz : Ls.size = ml) (hst : st = argsL.reverse ++ .ref a :: rest) (hW : (rest.map fun v => v.category).sum ≤ Wd)
    (hd : decode bytes pc = .ok (.invokeinterface index count, 5)) (hc : cells + rm.cells ≤ R.cells) (hs : slots + rm.slots ≤ R.slots)
    (K : ∀ v T' h' vm1, Wk p l e R s m args below meth c Z a0 EL y bytes ml ret T' h' vm1 (cells + rm.cells) (slots + rm.slots) → Qc v h' → CHr Z EL vm0 h vm1 h' → Go p e below s Z EL KC KS Q T' (mkF m (pc + 5) Ls (v.toList ++ rest))) : Go p e below s Z EL KC KS Q T (mkF m pc Ls st) := by
  have bk := W.back (len := 5) (Wd := Wd) C wc wz hfr hlo
  have hx := W.hx; have hd' := W.d hd
  obtain ⟨locs, X, hT, hZ, hown, -, -, hF, -, -, -, hml, -⟩ := id W
  obtain ⟨cB, kB, i1, i2, i3⟩ := isOf hZ hT E
  obtain ⟨v, vm₁, B, -, X', h2, hg, ⟨L, hq, hl, hcc, hss, hC'⟩, stp⟩ := X.interfaceBackS hx hown (mvT hZ wl) (mvT hZ wd) (mvT hZ wf (by simp [Cond.onTables, Cond.keepsFace, Cond.faceAtom, Cond.keeps, Cond.steady, hy.1, hy.2])) (mvT hZ wsel) (mvT hZ wi) (mvT hZ wp) (mvT hZ wu) (mvT hZ wk) hy bk i1 i2 i3 (g := mkF m pc Ls st) rfl (by rw [hml]; exact hsz) (Steps.refl _) (argsL := argsL) (rest := rest) (lenOf hdesc hlen) hst (by show 2 * 0 + _ ≤ _; omega) hd' (fun vm₁ _ => ⟨has, hT, hc, hs⟩)
  exact Go.step (fun _ k => stp.trans k) (K v B.U B.U.heap B.U.vm (W.behind (rm := rm) (Qc := Qc) hF X' h2 hg hl hq hcc hss hC') hq.1 hC')
/-- behind a call by a law that interns nothing -/
theorem Wk.behindB (W : Wk p l e R s m args below meth c Z a0 EL y bytes ml ret T h vm0 cells slots) {kc ks : Nat} {locs L : List Loc} {ws : List Addr} (hF : Fr Z.heap.size locs) {B : Pt} (X' : Stand p l e R (s.setVm vm0) m args below meth c B.U B.locs B.cells B.slots) (hl : B.locs = locs ++ L) (hc : B.cells = cells + kc) (hs : B.slots = slots + ks) (hFL : Fr Z.heap.size L) (Kp : Keep h B.U.heap ws) (hsf : ∀ x ∈ ws, Safe Z EL vm0 h x) (hge : ∀ x ∈ ws, Z.heap.size ≤ x) :
    Wk p l e R s m args below meth c Z a0 EL y bytes ml ret B.U B.U.heap vm0 (cells + kc) (slots + ks) := by
  obtain ⟨_, X, hT, hZ, hown, ⟨k0, hS, hk⟩, hC, -, hE, r⟩ := W
  rw [hl, hc, hs] at X'
  exact ⟨_, X', rfl, hZ, hown, ⟨k0, hS, Nat.le_trans hk Kp.1⟩, hC.trans (CHr.keep Kp hsf hC.1), hF.app hFL, ext_keep hE Kp hge, r⟩
theorem Wk.specialB (W : Wk p l e R s m args below meth c Z a0 EL y bytes ml ret T h vm0 cells slots) {index : Nat} {y' : MethodName} {bytes' : ByteArray} {ml' : Nat} {as' : Array Value} {Qb : Option Value → Heap → List Loc → Prop} {kc ks Wd : Nat} (hin : y'.name = "<init>")
    (wl : (Cond.methodLink y.cls index y').before a0 Z = true) (wi : (Cond.instanceMethod y').before a0 Z = true) (wc : (Cond.code y' bytes' ml' none).before a0 Z = true) (hy : y'.cls ≠ "java/lang/invoke/MethodHandle" ∧ y'.cls ≠ "java/lang/invoke/VarHandle")
    (bk : Back l R p e below (s.setVm vm0) args y' 3 Wd (fun A a => a = as' ∧ A.U.heap = h ∧ A.cells + kc ≤ R.cells ∧ A.slots + ks ≤ R.slots) (fun A _ v B => ∃ L, Qb v B.U.heap L ∧ B.locs = A.locs ++ L ∧ B.cells = A.cells + kc ∧ B.slots = A.slots + ks))
    (ws : List Addr) (hQ : ∀ v h' L, Qb v h' L → Fr Z.heap.size L ∧ Keep h h' ws) (hsf : ∀ x ∈ ws, Safe Z EL vm0 h x) (hge : ∀ x ∈ ws, Z.heap.size ≤ x)
    (a : Addr) (argsL : List Value) (rest : List Value) (has : (.ref a :: argsL).toArray = as') {ps : List FieldType} {r' : Option FieldType} (hdesc : parseMethodDescriptor y'.desc = some ⟨ps, r'⟩) (hlen : argsL.length = ps.length) (hsz : Ls.size = ml) (hst : st = argsL.reverse ++ .ref a :: rest) (hW : (rest.map fun v => v.category).sum ≤ Wd)
    (hd : decode bytes pc = .ok (.invokespecial index, 3)) (hc : cells + kc ≤ R.cells) (hs : slots + ks ≤ R.slots)
    (K : ∀ v T' h' L, Wk p l e R s m args below meth c Z a0 EL y bytes ml ret T' h' vm0 (cells + kc) (slots + ks) → Qb v h' L → Go p e below s Z EL KC KS Q T' (mkF m (pc + 3) Ls (v.toList ++ rest))) : Go p e below s Z EL KC KS Q T (mkF m pc Ls st) := by
  have hx := W.hx; have hd' := W.d hd
  obtain ⟨locs, X, hT, hZ, hown, -, -, hF, -, -, -, hml, -⟩ := id W
  obtain ⟨v, vm₁, B, -, X', ⟨L, hq, hl, hcc, hss⟩, stp⟩ := X.specialBack hx hin hown (mvT hZ wl) (mvT hZ wi) (mvT hZ wc) hy bk (g := mkF m pc Ls st) rfl (by rw [hml]; exact hsz) (Steps.refl _) (a := a) (argsL := argsL) (rest := rest) (lenOf hdesc hlen) hst (by show 2 * 0 + _ ≤ _; omega) hd' (fun vm₁ _ => ⟨has, hT, hc, hs⟩)
  obtain ⟨f1, f2⟩ := hQ _ _ _ hq
  exact Go.step (fun _ k => stp.trans k) (K v B.U B.U.heap L (W.behindB hF X' hl hcc hss f1 f2 hsf hge) hq)
theorem Wk.virtualB (W : Wk p l e R s m args below meth c Z a0 EL y bytes ml ret T h vm0 cells slots) {index : Nat} {yr y' : MethodName} {D : String} {as' : Array Value} {Qb : Option Value → Heap → List Loc → Prop} {kc ks Wd : Nat}
    (wl : (Cond.methodLink y.cls index yr).before a0 Z = true) (wd : (Cond.declares yr).before a0 Z = true) (hnf : NotFace (s.setVm vm0) yr) (wsel : (Cond.selects D yr y').before a0 Z = true) (wi : (Cond.instanceMethod y').before a0 Z = true) (hy : yr.cls ≠ "java/lang/invoke/MethodHandle" ∧ yr.cls ≠ "java/lang/invoke/VarHandle")
    (bk : Back l R p e below (s.setVm vm0) args y' 3 Wd (fun A a => a = as' ∧ A.U.heap = h ∧ A.cells + kc ≤ R.cells ∧ A.slots + ks ≤ R.slots) (fun A _ v B => ∃ L, Qb v B.U.heap L ∧ B.locs = A.locs ++ L ∧ B.cells = A.cells + kc ∧ B.slots = A.slots + ks))
    (ws : List Addr) (hQ : ∀ v h' L, Qb v h' L → Fr Z.heap.size L ∧ Keep h h' ws) (hsf : ∀ x ∈ ws, Safe Z EL vm0 h x) (hge : ∀ x ∈ ws, Z.heap.size ≤ x)
    (a : Addr) (E : Exa Z h a D) (argsL : List Value) (rest : List Value) (has : (.ref a :: argsL).toArray = as') {ps : List FieldType} {r' : Option FieldType} (hdesc : parseMethodDescriptor yr.desc = some ⟨ps, r'⟩) (hlen : argsL.length = ps.length) (hsz : Ls.size = ml) (hst : st = argsL.reverse ++ .ref a :: rest) (hW : (rest.map fun v => v.category).sum ≤ Wd)
    (hd : decode bytes pc = .ok (.invokevirtual index, 3)) (hc : cells + kc ≤ R.cells) (hs : slots + ks ≤ R.slots)
    (K : ∀ v T' h' L, Wk p l e R s m args below meth c Z a0 EL y bytes ml ret T' h' vm0 (cells + kc) (slots + ks) → Qb v h' L → Go p e below s Z EL KC KS Q T' (mkF m (pc + 3) Ls (v.toList ++ rest))) : Go p e below s Z EL KC KS Q T (mkF m pc Ls st) := by
  have hx := W.hx; have hd' := W.d hd
  obtain ⟨locs, X, hT, hZ, hown, -, -, hF, -, -, -, hml, -⟩ := id W
  obtain ⟨cB, kB, i1, -, i3⟩ := isOf hZ hT E
  obtain ⟨v, vm₁, B, -, X', ⟨L, hq, hl, hcc, hss⟩, stp⟩ := X.virtualBack hx hown (mvT hZ wl) (mvT hZ wd) hnf (mvT hZ wsel) (mvT hZ wi) hy bk i1 i3 (g := mkF m pc Ls st) rfl (by rw [hml]; exact hsz) (Steps.refl _) (argsL := argsL) (rest := rest) (lenOf hdesc hlen) hst (by show 2 * 0 + _ ≤ _; omega) hd' (fun vm₁ _ => ⟨has, hT, hc, hs⟩)
  obtain ⟨f1, f2⟩ := hQ _ _ _ hq
  exact Go.step (fun _ k => stp.trans k) (K v B.U B.U.heap L (W.behindB hF X' hl hcc hss f1 f2 hsf hge) hq)
theorem Wk.ldcI (W : Wk p l e R s m args below meth c Z a0 EL y bytes ml ret T h vm0 cells slots) {index : Nat} {v : Int32} (w : (Cond.constant y.cls index v).before a0 Z = true) (hd : decode bytes pc = .ok (.ldc index, 2)) (K : Go p e below s Z EL KC KS Q T (mkF m (pc + 2) Ls (.int v :: rest))) : Go p e below s Z EL KC KS Q T (mkF m pc Ls rest) := by
  obtain ⟨_, X, -, hZ, hown, -⟩ := id W
  exact Go.step (X.ldcInt W.hx hown (mvT hZ w) (g := mkF m pc Ls rest) rfl (W.d hd)) K
theorem Wk.ldc2 (W : Wk p l e R s m args below meth c Z a0 EL y bytes ml ret T h vm0 cells slots) {index : Nat} {v : Int64} (w : (Cond.constantLong y.cls index v).before a0 Z = true) (hd : decode bytes pc = .ok (.ldc2_w index, 3)) (K : Go p e below s Z EL KC KS Q T (mkF m (pc + 3) Ls (.long v :: rest))) : Go p e below s Z EL KC KS Q T (mkF m pc Ls rest) := by
  obtain ⟨_, X, -, hZ, hown, -⟩ := id W
  exact Go.step (X.ldc2Long W.hx hown (mvT hZ w) (g := mkF m pc Ls rest) rfl (W.d hd)) K
/-- the end of a walk -/
theorem Wk.leave (W : Wk p l e R s m args below meth c Z a0 EL y bytes ml ret T h vm0 cells slots) {v : Option Value} (hv : ret = none → v = none) (hq : Q v h) (hc : cells ≤ KC) (hs : slots ≤ KS)
    (f : ∀ (locs : List Loc) (fs : List Frame), Stand p l e R (s.setVm vm0) m args below meth c T locs cells slots → meth.sig.returnType = ret → (∀ (f : JFrame) (acts : List Action), f.method = m → f.locked = none → f.entered = [] → (doReturn e (T.setTop f) acts v).1 = T.setFrames fs) → Steps p.tables e below (T.setTop g) (T.setFrames fs)) : Go p e below s Z EL KC KS Q T g := by
  obtain ⟨locs, X, hT, hZ, hown, ⟨k0, hS, hk⟩, hC, hF, hE, r1, r2, r3, r4, r5, r6, hEL⟩ := W
  obtain ⟨fs, hr, hrun, hended, hW⟩ := X.leaveW hS (by rw [hT]; exact hk) (v := v) (fun q => hv (r4.symm.trans q))
  refine ⟨_, _, f locs fs X r4 hr, hrun, hended, v, locs, rfl, ⟨?_, hF, ?_⟩, ?_, hW.1, hW.2.1, hW.2.2.1, hW.2.2.2.mono hc hs⟩
  · show Q v T.heap
    rw [hT]; exact hq
  · show Ext Z.heap T.heap
    rw [hT]; exact hE
  · show CHr Z EL s.vm s.heap T.vm T.heap
    rw [hT]; exact hC.trans (CHv.at X hZ hEL hC.1)
theorem Wk.retV (W : Wk p l e R s m args below meth c Z a0 EL y bytes ml none T h vm0 cells slots) (hd : decode bytes pc = .ok (.return_, 1)) (hq : Q none h) (hc : cells ≤ KC) (hs : slots ≤ KS) : Go p e below s Z EL KC KS Q T (mkF m pc Ls []) :=
  W.leave (fun _ => rfl) hq hc hs fun locs fs X hret hr => X.returnOut W.hx hret (W.d hd) hr
theorem Wk.retN {t : FieldType} (W : Wk p l e R s m args below meth c Z a0 EL y bytes ml (some t) T h vm0 cells slots) (ht : t = .boolean ∨ t = .byte ∨ t = .char ∨ t = .short) {z : Int32} (hd : decode bytes pc = .ok (.ireturn, 1)) (hq : Q (some (.int (nar t z))) h) (hc : cells ≤ KC) (hs : slots ≤ KS) : Go p e below s Z EL KC KS Q T (mkF m pc Ls (.int z :: rest)) :=
  W.leave (fun q => by cases q) hq hc hs fun locs fs X hret hr => RoadKit.retN X W.hx hret ht (W.d hd) hr
theorem Wk.retI (W : Wk p l e R s m args below meth c Z a0 EL y bytes ml (some .int) T h vm0 cells slots) {z : Int32} (hd : decode bytes pc = .ok (.ireturn, 1)) (hq : Q (some (.int z)) h) (hc : cells ≤ KC) (hs : slots ≤ KS) : Go p e below s Z EL KC KS Q T (mkF m pc Ls (.int z :: rest)) :=
  W.leave (fun q => by cases q) hq hc hs fun locs fs X hret hr => retOut X W.hx hret rfl (Or.inl ⟨rfl, Or.inl rfl, z, rfl⟩) (W.d hd) hr
theorem Wk.retL (W : Wk p l e R s m args below meth c Z a0 EL y bytes ml (some .long) T h vm0 cells slots) {z : Int64} (hd : decode bytes pc = .ok (.lreturn, 1)) (hq : Q (some (.long z)) h) (hc : cells ≤ KC) (hs : slots ≤ KS) : Go p e below s Z EL KC KS Q T (mkF m pc Ls (.long z :: rest)) :=
  W.leave (fun q => by cases q) hq hc hs fun locs fs X hret hr => retOut X W.hx hret rfl (Or.inr (Or.inl ⟨rfl, rfl, z, rfl⟩)) (W.d hd) hr
theorem Wk.retR {t : FieldType} (W : Wk p l e R s m args below meth c Z a0 EL y bytes ml (some t) T h vm0 cells slots) (ht : t.isReference = true) {v : Value} (hv : v.isRef = true) (hnr : narrow t v = v) (hd : decode bytes pc = .ok (.areturn, 1)) (hq : Q (some v) h) (hc : cells ≤ KC) (hs : slots ≤ KS) : Go p e below s Z EL KC KS Q T (mkF m pc Ls (v :: rest)) :=
  W.leave (fun q => by cases q) hq hc hs fun locs fs X hret hr => retOut X W.hx hret hnr (Or.inr (Or.inr (Or.inr (Or.inr ⟨rfl, ht, hv⟩)))) (W.d hd) hr
end Walk
section Facts
variable {Z : State} {h h' : Heap} {a b o : Addr} {C K S : String} {a0 : Array Value} {EL : List (String × Nat)} {vm : Vm}
theorem nin1 {x y : Addr} (q : x ≠ y) : x ∉ [y] := ninS q nin0
/-- K is no interface -/
def NoFace (Z : State) (K : String) : Prop := ∃ (t : ClassId) (kt : Class), Z.vm.findClass K = some t ∧ Z.vm.classes[t]? = some kt ∧ kt.isInterface = false
theorem nf_inst {n : Nat} (wk : (Cond.instantiable K n).before a0 Z = true) : NoFace Z K := by
  obtain ⟨t, kt, g1, g2, -, g4, -⟩ := Cond.instantiable_spec wk
  exact ⟨t, kt, g1, g2, by simp only [Bool.or_eq_false_iff] at g4; exact g4.1⟩
theorem nf_sel {y : MethodName} (w : (Cond.selects y.cls y y).before a0 Z = true) : NoFace Z y.cls := by
  obtain ⟨c, r, m, -, -, h3, -, mk, h5, h6⟩ := Cond.selects_spec w
  exact ⟨m.cls, mk, findClass_of_methodNamed h3, h5, h6⟩
/-- C's chain of superclasses does not meet K -/
theorem NSr {O : String} (w : (Cond.noSuperclass O).before a0 Z = true) (wk : NoFace Z K) (hn : O ≠ K) : NS Z O K := by
  obtain ⟨c, k, h1, h2, h3, -, -⟩ := Cond.noSuperclass_spec w
  obtain ⟨t, kt, g1, -⟩ := wk
  have ne := ids_ne h1 g1 hn
  refine ⟨c, t, h1, g1, fun fuel => ?_⟩
  cases fuel with
  | zero => rfl
  | succ f => simp [Vm.isSubclassAux, ne, h2, h3]
theorem NSno (w : (Cond.superclass C S).before a0 Z = true) (wk : NoFace Z K) (q : NS Z C K) (hn : C ≠ K) : ∃ c t, Z.vm.findClass C = some c ∧ Z.vm.findClass K = some t ∧ Z.vm.assignable c t = false := by
  obtain ⟨c, t, h0, g0, n3⟩ := q
  obtain ⟨p, k, kp, h1, h2, h3, h4, h5, -, h7⟩ := Cond.superclass_spec h0 w
  obtain ⟨t', kt, g1, g2, g7⟩ := wk
  cases g0.symm.trans g1
  have ne := ids_ne h0 g0 hn
  refine ⟨c, t, h0, g0, ?_⟩
  show Z.vm.assignableAux (255 + 1) c t = false
  cases hk : kt.kind <;> simp [Vm.assignableAux, ne, h2, g2, h5, hk, g7, Vm.isSubclass, n3]
/-- a String that is being made is none that the tables book: it has no array yet -/
theorem Safe.blank (hal : Z.vm.Alike vm) (E : Exa Z h a "java/lang/String") (F : Fld Z h a "java/lang/String" "value" "[B" .null) : Safe Z EL vm h a := fun B => by
  obtain ⟨cell, k, e1, e2, e3, -, -⟩ := E
  obtain ⟨cell', cf, kf, i, f, f1, f2, -, -, -, -, f7⟩ := F
  cases f1.symm.trans e1
  obtain ⟨pp, -, u, a', -, q, -, F', hy⟩ := B
  rcases hy with rfl | rfl
  · cases (show h[q.sa]? = some q.sC from F'.ha).symm.trans e1
    obtain ⟨cS, ⟨⟨-, -, -, ⟨c1, k1, i1, g1, -⟩, -, -, -, v1, -⟩, -⟩, -⟩ := F'
    obtain ⟨k3, g3, -⟩ := State.fieldFound?_setVm (s := Z) hal f2
    have g4 := (show (Wst Z vm h).fieldFound? "java/lang/String" "value" "[B" = _ from g3).symm.trans g1
    simp only [Option.some.injEq, Prod.mk.injEq] at g4
    rw [← g4.2.2.2, f7] at v1
    cases v1
  · cases (show h[q.sd]? = some q.SA from F'.hd).symm.trans e1
    obtain ⟨cS, ⟨⟨-, -, -, -, -, -, -, -, -, -, ⟨-, kB, hkB, compB, hkindB⟩, -⟩, -, -⟩, -, hB, -⟩ := F'
    have hB' : vm.findClass "[B" = some q.SA.cls := hB
    rw [hal.findClass] at hB'
    exact (ids_ne (C := "[B") (K := "java/lang/String") hB' e2 (by decide)) rfl
/-- a String: its signs, each below 256 -/
def Str (Z : State) (h : Heap) (a : Addr) (cs : List Int32) : Prop := ∃ (t : Addr) (kb : ClassId), Exa Z h a "java/lang/String" ∧ Fld Z h a "java/lang/String" "value" "[B" (.ref t) ∧ Fld Z h a "java/lang/String" "coder" "B" (.int 0) ∧ Arv Z h t kb .byte (Int32.ofNat cs.length) (cs.map fun c => Value.int c.toInt8.toInt32) (.int 0) ∧ (∀ c ∈ cs, ¬ c < 0 ∧ ¬ (255 : Int32) < c) ∧ cs.length ≤ 4000
variable {cs : List Int32} {ws : List Addr}
theorem Str.exa (F : Str Z h a cs) : Exa Z h a "java/lang/String" := by obtain ⟨_, _, r, -⟩ := F; exact r
theorem Str.ext (F : Str Z h a cs) (E : Ext h h') : Str Z h' a cs := by
  obtain ⟨t, kb, q1, q2, q3, q4, r⟩ := F
  exact ⟨t, kb, q1.ext E, q2.ext E, q3.ext E, q4.ext E, r⟩
theorem Str.keep0 (F : Str Z h a cs) (K : Keep h h' []) : Str Z h' a cs := F.ext (ext_keep0 K)
theorem Str.keepE {n : Nat} (F : Str Z h a cs) (K : Keep h h' [o]) (E : Exa Z h o C) (hn : C ≠ "java/lang/String") (wi : (Cond.instantiable C n).before a0 Z = true) : Str Z h' a cs := by
  obtain ⟨t, kb, q1, q2, q3, q4, r⟩ := F
  have n1 : a ≠ o := fun q => (Exa.ne E q1 hn) q.symm
  have n2 : t ≠ o := fun q => (Exa.neArv E q4 wi) q.symm
  exact ⟨t, kb, q1.keep K, q2.keep K (nin1 n1), q3.keep K (nin1 n1), q4.keep K (nin1 n2), r⟩
theorem arv_sort {k k' : ClassId} {ty ty' : FieldType} {z z' : Int32} {vs vs' : List Value} {d d' : Value} (A : Arv Z h a k ty z vs d) (B : Arv Z h b k' ty' z' vs' d') (hn : ty ≠ ty') : a ≠ b := fun q => by
  subst q
  obtain ⟨c1, ⟨e1, ⟨-, k1, f1, m1, g1⟩, -⟩, -⟩ := A
  obtain ⟨c2, ⟨e2, ⟨-, k2, f2, m2, g2⟩, -⟩, -⟩ := B
  cases e1.symm.trans e2
  cases f1.symm.trans f2
  have := g1.symm.trans g2
  injection this with _ e
  exact hn e
theorem Str.keepC {n : Nat} {k : ClassId} {ty : FieldType} {z : Int32} {vs : List Value} {d : Value} (F : Str Z h a cs) (K : Keep h h' [o]) (V : Arv Z h o k ty z vs d) (ht : FieldType.byte ≠ ty) (wi : (Cond.instantiable "java/lang/String" n).before a0 Z = true) : Str Z h' a cs := by
  obtain ⟨t, kb, q1, q2, q3, q4, r⟩ := F
  have n1 : a ≠ o := Exa.neArv q1 V wi
  have n2 : t ≠ o := arv_sort q4 V ht
  exact ⟨t, kb, q1.keep K, q2.keep K (nin1 n1), q3.keep K (nin1 n1), q4.keep K (nin1 n2), r⟩
theorem Str.keepS {n : Nat} (F : Str Z h a cs) (K : Keep h h' [o]) (E : Exa Z h o C) (wi : (Cond.instantiable C n).before a0 Z = true) (n1 : a ≠ o) : Str Z h' a cs := by
  obtain ⟨t, kb, q1, q2, q3, q4, r⟩ := F
  have n2 : t ≠ o := fun q => (Exa.neArv E q4 wi) q.symm
  exact ⟨t, kb, q1.keep K, q2.keep K (nin1 n1), q3.keep K (nin1 n1), q4.keep K (nin1 n2), r⟩
abbrev Sm (c : Int32) : Prop := ¬ c < 0 ∧ ¬ (255 : Int32) < c
theorem sm0 {P : Int32 → Prop} : ∀ x ∈ ([] : List Int32), P x := fun _ q => nomatch q
theorem smS {P : Int32 → Prop} {y : Int32} {L : List Int32} (q : P y) (r : ∀ x ∈ L, P x) : ∀ x ∈ y :: L, P x := fun x z => (List.mem_cons.mp z).elim (fun u => u ▸ q) (r x)
abbrev B2 (z : Int32) : Prop := z = 0 ∨ z = 1
abbrev T3 (z : Int32) : Prop := z = 0 ∨ z = 1 ∨ z = 2
/-- the signs of a text of at most two -/
def sel (n c0 c1 : Int32) : List Int32 := if n = 0 then [] else if n = 1 then [c0] else [c0, c1]
theorem sel_eq {n k a b c d : Int32} (hn : T3 n) (hk : T3 k) : sel n a b = sel k c d ↔ n = k ∧ (n < 1 ∨ a = c) ∧ (n < 2 ∨ b = d) := by
  rcases hn with rfl | rfl | rfl <;> rcases hk with rfl | rfl | rfl <;> simp [sel] <;> decide
theorem sel_sm {n a b : Int32} (ha : Sm a) (hb : Sm b) : ∀ c ∈ sel n a b, Sm c := by
  unfold sel
  split
  · exact sm0
  · split
    · exact smS ha sm0
    · exact smS ha (smS hb sm0)
/-- numbers below 256 -/
theorem fin256 {P : Int32 → Prop} (t : ∀ k : Fin 256, P (Int32.ofNat k.val)) {c : Int32} (h0 : ¬ c < 0) (h1 : ¬ (255 : Int32) < c) : P c := by
  rw [Int32.lt_iff_toInt_lt] at h0 h1
  have e0 : (0 : Int32).toInt = 0 := rfl
  have e1 : (255 : Int32).toInt = 255 := rfl
  have e : Int32.ofNat c.toInt.toNat = c := by
    rw [show Int32.ofNat c.toInt.toNat = Int32.ofInt (c.toInt.toNat : Int) from rfl, Int.toNat_of_nonneg (by omega)]; exact Int32.ofInt_toInt c
  have q := t ⟨c.toInt.toNat, by omega⟩
  rw [e] at q; exact q
theorem nar_small {c : Int32} (h : ¬ c < 0 ∧ ¬ (255 : Int32) < c) : nar .char c = c := fin256 (P := fun c => nar .char c = c) (by decide +kernel) h.1 h.2
theorem nar_byte8 {c : Int32} (h : ¬ c < 0 ∧ ¬ (255 : Int32) < c) : nar .byte (c.toInt8.toInt32) = c.toInt8.toInt32 := fin256 (P := fun c => nar .byte (c.toInt8.toInt32) = c.toInt8.toInt32) (by decide +kernel) h.1 h.2
theorem low_back {c : Int32} (h : ¬ c < 0 ∧ ¬ (255 : Int32) < c) : c.toInt8.toInt32 &&& 255 = c := fin256 (P := fun c => c.toInt8.toInt32 &&& 255 = c) (by decide +kernel) h.1 h.2
theorem low_inj {x y : Int32} (hx : Sm x) (hy : Sm y) (e : x.toInt8.toInt32 = y.toInt8.toInt32) : x = y := by
  have q := low_back hx
  rw [e, low_back hy] at q; exact q.symm
theorem Str.uniq {ds : List Int32} (F : Str Z h a cs) (G : Str Z h a ds) : cs = ds := by
  obtain ⟨t, kb, -, q2, -, q4, q5, q6⟩ := F
  obtain ⟨t', kb', -, r2, -, r4, r5, r6⟩ := G
  have et : t = t' := by
    obtain ⟨c1, _, _, _, _, h1, h2, -, -, -, -, h7⟩ := q2
    obtain ⟨c2, _, _, _, _, g1, g2, -, -, -, -, g7⟩ := r2
    cases h1.symm.trans g1; cases h2.symm.trans g2
    have := h7.symm.trans g7
    simpa using this
  subst et
  obtain ⟨c1, A1, -, s1, -, H1, -⟩ := q4
  obtain ⟨c2, A2, -, s2, -, H2, -⟩ := r4
  cases A1.1.symm.trans A2.1
  have n32 : ∀ n : Nat, n ≤ 4000 → (Int32.ofNat n).toNatClampNeg = n := fun n hn => by
    rw [Int32.toNatClampNeg, Int32.toInt_ofNat_of_lt (by omega)]; rfl
  rw [n32 _ q6] at s1
  rw [n32 _ r6] at s2
  have hl : cs.length = ds.length := s1.symm.trans s2
  apply List.ext_getElem hl
  intro i h1 h2
  have e1 := H1 i (by omega)
  have e2 := H2 i (by omega)
  rw [e1] at e2
  simp only [List.getD_eq_getElem?_getD, List.getElem?_map, List.getElem?_eq_getElem h1, List.getElem?_eq_getElem h2, Option.map_some, Option.getD_some, Option.some.injEq, Value.int.injEq] at e2
  exact low_inj (q5 _ (List.getElem_mem h1)) (r5 _ (List.getElem_mem h2)) e2
theorem maskN (k : Nat) (m : Int32) (hm : m.toBitVec.toNat = k) (x : Int32) : ∃ j : Nat, j ≤ k ∧ x &&& m = Int32.ofNat j := by
  refine ⟨(x &&& m).toBitVec.toNat, ?_, ?_⟩
  · simp only [Int32.toBitVec_and, BitVec.toNat_and]
    rw [hm]; exact Nat.and_le_right
  · apply Int32.toBitVec_inj.mp
    show _ = BitVec.ofNat 32 _
    rw [BitVec.ofNat_toNat]; simp
theorem maskL (k : Nat) (m : Int64) (hm : m.toBitVec.toNat = k) (x : Int64) : ∃ j : Nat, j ≤ k ∧ x &&& m = Int64.ofNat j := by
  refine ⟨(x &&& m).toBitVec.toNat, ?_, ?_⟩
  · simp only [Int64.toBitVec_and, BitVec.toNat_and]
    rw [hm]; exact Nat.and_le_right
  · apply Int64.toBitVec_inj.mp
    show _ = BitVec.ofNat 64 _
    rw [BitVec.ofNat_toNat]; simp
/-- (char) (x & 255) -/
theorem chr255 (x : Int32) : ¬ ((x &&& (255 : Int32)).toUInt32.toUInt16.toUInt32.toInt32) < 0 ∧ ¬ (255 : Int32) < ((x &&& (255 : Int32)).toUInt32.toUInt16.toUInt32.toInt32) := by
  have t : ∀ k : Fin 256, ¬ ((Int32.ofNat k.val).toUInt32.toUInt16.toUInt32.toInt32) < 0 ∧ ¬ (255 : Int32) < ((Int32.ofNat k.val).toUInt32.toUInt16.toUInt32.toInt32) := by decide +kernel
  obtain ⟨j, hj, e⟩ := maskN 255 255 rfl x
  rw [e]; exact t ⟨j, by omega⟩
theorem rem3 (x : Int32) : (x &&& (3 : Int32)) - ((x &&& (3 : Int32)) / (3 : Int32)) * (3 : Int32) = 0 ∨ (x &&& (3 : Int32)) - ((x &&& (3 : Int32)) / (3 : Int32)) * (3 : Int32) = 1 ∨ (x &&& (3 : Int32)) - ((x &&& (3 : Int32)) / (3 : Int32)) * (3 : Int32) = 2 := by
  have t : ∀ k : Fin 4, (Int32.ofNat k.val) - ((Int32.ofNat k.val) / (3 : Int32)) * (3 : Int32) = 0 ∨ (Int32.ofNat k.val) - ((Int32.ofNat k.val) / (3 : Int32)) * (3 : Int32) = 1 ∨ (Int32.ofNat k.val) - ((Int32.ofNat k.val) / (3 : Int32)) * (3 : Int32) = 2 := by decide +kernel
  obtain ⟨j, hj, e⟩ := maskN 3 3 rfl x
  rw [e]; exact t ⟨j, by omega⟩
end Facts
end Jvm.Own
/- laws to paste: Road.backV (cut by pick.py; bodies as the Statement names them) -/
namespace Jvm.Pilot.@@N@@
namespace StrChars
open Jvm Sem ClassFile Op Lib Jvm.Stand Jvm.Free.XT Jvm.Free.ALB Jvm.Free.JM Jvm.Free
open Jvm.Lib.Cold (StaticIs)
/-- a char array whose places are chars -/
def Ch (a : Addr) (A : Cell) (U : State) : Prop := Arr .char a A U ∧ Typed .char A
theorem Ch.mv {a : Addr} {A : Cell} {U U' : State} (h : Ch a A U) (hal : U.vm.Alike U'.vm) (hh : U'.heap = U.heap) : Ch a A U' := ⟨h.1.mv hal hh, h.2⟩
theorem Ch.keep {a : Addr} {A : Cell} {U U' : State} (h : Ch a A U) (hal : U.vm.Alike U'.vm) (hk : U'.heap[a]? = some A) : Ch a A U' := ⟨h.1.keep hal hk, h.2⟩
/-- what place i of a char[]'s cell holds -/
def cv (A : Cell) (i : Nat) : Int32 := match A.slots[i]? with | some (.int x) => x | _ => 0
theorem Ch.get {a : Addr} {A : Cell} {U : State} (h : Ch a A U) {i : Nat} (hi : i < A.slots.size) : A.slots[i]? = some (.int (cv A i)) := by
  have e := Array.getElem?_eq_getElem hi
  have f := h.2 i _ e
  unfold cv; rw [e]
  generalize A.slots[i] = v at f
  cases v <;> simp [fits] at f ⊢
/-- the byte that i2b leaves of a char -/
def lo8 (x : Int32) : Int32 := x.toInt8.toInt32
theorem fits_lo8 (y : Int32) : fits .byte (.int (lo8 y)) = true := by
  have h1 := y.toInt8.le_toInt
  have h2 := y.toInt8.toInt_lt
  simp only [lo8, fits, Bool.and_eq_true, decide_eq_true_eq, Int32.le_iff_toInt_le, Int8.toInt_toInt32, show (-128 : Int32).toInt = -128 from by decide, show (127 : Int32).toInt = 127 from by decide]
  omega
/-- A' is A but that each place j of lo .. hi - 1 holds f j -/
def Laid (A A' : Cell) (lo hi : Nat) (f : Nat → Value) : Prop := A'.cls = A.cls ∧ A'.vm = A.vm ∧ A'.slots.size = A.slots.size ∧ ∀ i, A'.slots[i]? = if lo ≤ i ∧ i < hi then some (f i) else A.slots[i]?
theorem Laid.zero (A : Cell) (lo : Nat) (f : Nat → Value) : Laid A A lo (lo + 0) f := ⟨rfl, rfl, rfl, fun i => by rw [if_neg (by omega)]⟩
theorem Laid.step {A Ak : Cell} {lo k : Nat} {f : Nat → Value} {v : Value} (h : Laid A Ak lo k f) (hlo : lo ≤ k) (hk : k < Ak.slots.size) (hv : v = f k) : Laid A (Ak.setSlot k v) lo (k + 1) f := by
  refine ⟨h.1, h.2.1, by simpa [Cell.setSlot] using h.2.2.1, fun i => ?_⟩
  by_cases e : k = i
  · subst e; rw [Cell.slots_setSlot_self v hk, if_pos (by omega), hv]
  · rw [Cell.slots_setSlot_ne v e, h.2.2.2 i]
    by_cases q : lo ≤ i ∧ i < k
    · rw [if_pos q, if_pos (by omega)]
    · rw [if_neg q, if_neg (by omega)]
def U16 : String := "java/lang/StringUTF16"
namespace Cmp5
def yN : MethodName := ⟨"java/lang/StringUTF16", "compress", "([CI[BII)I"⟩
abbrev yB : ByteArray := jdk_52_method_21_code
theorem d0 : decode yB 0 = .ok (.iconst 0, 1) := by decide +kernel
theorem d1 : decode yB 1 = .ok (.istore 5, 2) := by decide +kernel
theorem d3 : decode yB 3 = .ok (.iload 5, 2) := by decide +kernel
theorem d5 : decode yB 5 = .ok (.iload 4, 2) := by decide +kernel
theorem d7 : decode yB 7 = .ok (.if_icmp (.ge) 37, 3) := by decide +kernel
theorem d10 : decode yB 10 = .ok (.aload_n 0, 1) := by decide +kernel
theorem d11 : decode yB 11 = .ok (.iload_n 1, 1) := by decide +kernel
theorem d12 : decode yB 12 = .ok (.caload, 1) := by decide +kernel
theorem d13 : decode yB 13 = .ok (.istore 6, 2) := by decide +kernel
theorem d15 : decode yB 15 = .ok (.iload 6, 2) := by decide +kernel
theorem d17 : decode yB 17 = .ok (.sipush 255, 3) := by decide +kernel
theorem d20 : decode yB 20 = .ok (.if_icmp (.le) 6, 3) := by decide +kernel
theorem d26 : decode yB 26 = .ok (.aload_n 2, 1) := by decide +kernel
theorem d27 : decode yB 27 = .ok (.iload_n 3, 1) := by decide +kernel
theorem d28 : decode yB 28 = .ok (.iload 6, 2) := by decide +kernel
theorem d30 : decode yB 30 = .ok (.i2b, 1) := by decide +kernel
theorem d31 : decode yB 31 = .ok (.bastore, 1) := by decide +kernel
theorem d32 : decode yB 32 = .ok (.iinc 1 1, 3) := by decide +kernel
theorem d35 : decode yB 35 = .ok (.iinc 3 1, 3) := by decide +kernel
theorem d38 : decode yB 38 = .ok (.iinc 5 1, 3) := by decide +kernel
theorem d41 : decode yB 41 = .ok (.goto (-38), 3) := by decide +kernel
theorem d44 : decode yB 44 = .ok (.iload 4, 2) := by decide +kernel
theorem d46 : decode yB 46 = .ok (.ireturn, 1) := by decide +kernel
def site : List Cond := []
def tab : Cond := tabOf yN yB 7 (some .int) site
def P (b : Addr) (A : Cell) (d : Addr) (B : Cell) (o q len : Nat) (args : Array Value) (s : State) : Prop := args = #[.ref b, .int (Int32.ofNat o), .ref d, .int (Int32.ofNat q), .int (Int32.ofNat len)] ∧ Ch b A s ∧ Arr .byte d B s ∧ b ≠ d ∧ o + len ≤ A.slots.size ∧ q + len ≤ B.slots.size ∧ ∀ i, i < len → ¬ 255 < cv A (o + i)
def E (b : Addr) (A : Cell) (d : Addr) (B : Cell) (o q len : Nat) (r : Option Value) (s u : State) : Prop := r = some (.int (Int32.ofNat len)) ∧ ∃ B', Put d B' s u ∧ Laid B B' q (q + len) (fun j => Value.int (lo8 (cv A (o + (j - q)))))
/-- no char of the range above 255: len; the places written hold each char's low byte -/
theorem law (l : Launch) (b : Addr) (A : Cell) (d : Addr) (B : Cell) (o q len : Nat) : Law l yN 5 5 0 0 yB 7 (some .int) site (P b A d B o q len) (E b A d B o q len) (copyLocs d q len) 0 0 := by
  refine Law.of_walk (plainFor_of_name (by decide +kernel)) (by decide +kernel) (by decide +kernel) (by decide) (fun _ _ h => by rw [h.1]; rfl) (fun _ U U' hal hh h => ⟨h.1, h.2.1.mv hal hh, h.2.2.1.mv hal hh, h.2.2.2⟩) (fun r U U' V V' h1 hal h2 h => ⟨h.1, h.2.elim fun B' q => ⟨B', q.1.mv h1 h2, q.2⟩⟩) ?_
  intro p e s m args below meth c s₁ X0 hexec hbytes hml hret hlk hnm hown hh0 W hP
  obtain ⟨rfl, hA, hB, hne, l1, l2, hp⟩ := hP
  have c1 : Steps p.tables e below (s₁.setTop (entryFrame m #[.ref b, .int (Int32.ofNat o), .ref d, .int (Int32.ofNat q), .int (Int32.ofNat len)] 7)) (s₁.setTop (mkF m 0 #[.val (.ref b), .val (.int (Int32.ofNat o)), .val (.ref d), .val (.int (Int32.ofNat q)), .val (.int (Int32.ofNat len)), .unset, .unset] [])) := entry rfl
  have hA0 := hA.1.mv X0.warmed.alike hh0
  have hB0 := hB.mv X0.warmed.alike hh0
  have a31 := hA.1.2.2.2
  have c2 : Steps p.tables e below (s₁.setTop (entryFrame m #[.ref b, .int (Int32.ofNat o), .ref d, .int (Int32.ofNat q), .int (Int32.ofNat len)] 7)) (s₁.setTop (mkF m 3 #[.val (.ref b), .val (.int (Int32.ofNat o)), .val (.ref d), .val (.int (Int32.ofNat q)), .val (.int (Int32.ofNat len)), .val (.int 0), .unset] [])) := c1.trans (by
    refine iconstV X0.here hexec rfl 0 (hb hbytes d0) (by decide) ?_
    refine XS.istore X0.here hexec rfl (hb hbytes d1) rfl rfl ?_
    exact Steps.refl _)
  have loop : ∀ (r i : Nat), i + r = len → ∀ (z : Slot), (z = .unset ∨ ∃ w, z = .val w ∧ w.category = 1) → ∀ (Tl : State) (Bk : Cell), Stand p l e { frames := 0, locals := 0, cells := 0, slots := 0 } s m #[.ref b, .int (Int32.ofNat o), .ref d, .int (Int32.ofNat q), .int (Int32.ofNat len)] below meth c Tl ([] ++ copyLocs d q i) 0 0 → Put d Bk s₁ Tl → Laid B Bk q (q + i) (fun j => Value.int (lo8 (cv A (o + (j - q))))) →
      Steps p.tables e below (s₁.setTop (entryFrame m #[.ref b, .int (Int32.ofNat o), .ref d, .int (Int32.ofNat q), .int (Int32.ofNat len)] 7)) (Tl.setTop (mkF m 3 #[.val (.ref b), .val (.int (Int32.ofNat (o + i))), .val (.ref d), .val (.int (Int32.ofNat (q + i))), .val (.int (Int32.ofNat len)), .val (.int (Int32.ofNat i)), z] [])) → ∃ (T' : State) (B' : Cell) (z' : Slot), Stand p l e { frames := 0, locals := 0, cells := 0, slots := 0 } s m #[.ref b, .int (Int32.ofNat o), .ref d, .int (Int32.ofNat q), .int (Int32.ofNat len)] below meth c T' ([] ++ copyLocs d q len) 0 0 ∧ Put d B' s₁ T' ∧ Laid B B' q (q + len) (fun j => Value.int (lo8 (cv A (o + (j - q))))) ∧
      Steps p.tables e below (s₁.setTop (entryFrame m #[.ref b, .int (Int32.ofNat o), .ref d, .int (Int32.ofNat q), .int (Int32.ofNat len)] 7)) (T'.setTop (mkF m 3 #[.val (.ref b), .val (.int (Int32.ofNat (o + len))), .val (.ref d), .val (.int (Int32.ofNat (q + len))), .val (.int (Int32.ofNat len)), .val (.int (Int32.ofNat len)), z'] [])) := by
    intro r
    induction r with
    | zero =>
      intro i hi z hz Tl Bk Xl pl fl cl
      have hil : i = len := by omega
      rw [hil] at Xl fl cl
      exact ⟨Tl, Bk, z, Xl, pl, fl, cl⟩
    | succ r ih =>
      intro i hi z hz Tl Bk Xl pl fl cl
      have all := X0.warmed.alike.symm.trans Xl.warmed.alike
      have hAl := hA0.keep all (pl.other hne hA0.1)
      have hBk := hB0.like all pl.1 fl.1 fl.2.1 fl.2.2.1
      have hlt : q + i < Bk.slots.size := by rw [fl.2.2.1]; omega
      have c3 : Steps p.tables e below (s₁.setTop (entryFrame m #[.ref b, .int (Int32.ofNat o), .ref d, .int (Int32.ofNat q), .int (Int32.ofNat len)] 7)) (Tl.setTop (mkF m 12 #[.val (.ref b), .val (.int (Int32.ofNat (o + i))), .val (.ref d), .val (.int (Int32.ofNat (q + i))), .val (.int (Int32.ofNat len)), .val (.int (Int32.ofNat i)), z] [.int (Int32.ofNat (o + i)), .ref b])) := cl.trans (by
        refine XS.iload Xl.here hexec rfl (hb hbytes d3) rfl ?_
        refine XS.iload Xl.here hexec rfl (hb hbytes d5) rfl ?_
        refine XS.icmpNo Xl.here hexec rfl (hb hbytes d7) rfl (ii_ge_f (lt32 (by omega) (by omega))) ?_
        refine XS.aloadN Xl.here hexec rfl (hb hbytes d10) rfl rfl ?_
        refine XS.iloadN Xl.here hexec rfl (hb hbytes d11) rfl ?_
        exact Steps.refl _)
      have c4 : Steps p.tables e below (s₁.setTop (entryFrame m #[.ref b, .int (Int32.ofNat o), .ref d, .int (Int32.ofNat q), .int (Int32.ofNat len)] 7)) (Tl.setTop (mkF m 13 #[.val (.ref b), .val (.int (Int32.ofNat (o + i))), .val (.ref d), .val (.int (Int32.ofNat (q + i))), .val (.int (Int32.ofNat len)), .val (.int (Int32.ofNat i)), z] [.int (cv A (o + i))])) := c3.trans (by
        refine Xl.aget hexec hAl rfl (hA.get (i := o + i) (by omega)) rfl rfl (hb hbytes d12) ?_
        exact Steps.refl _)
      have c5 : Steps p.tables e below (s₁.setTop (entryFrame m #[.ref b, .int (Int32.ofNat o), .ref d, .int (Int32.ofNat q), .int (Int32.ofNat len)] 7)) (Tl.setTop (mkF m 15 #[.val (.ref b), .val (.int (Int32.ofNat (o + i))), .val (.ref d), .val (.int (Int32.ofNat (q + i))), .val (.int (Int32.ofNat len)), .val (.int (Int32.ofNat i)), .val (.int (cv A (o + i)))] [])) := c4.trans (by
        refine XS.istoreS Xl.here hexec rfl (hb hbytes d13) rfl rfl hz ?_
        exact Steps.refl _)
      have c6 : Steps p.tables e below (s₁.setTop (entryFrame m #[.ref b, .int (Int32.ofNat o), .ref d, .int (Int32.ofNat q), .int (Int32.ofNat len)] 7)) (Tl.setTop (mkF m 31 #[.val (.ref b), .val (.int (Int32.ofNat (o + i))), .val (.ref d), .val (.int (Int32.ofNat (q + i))), .val (.int (Int32.ofNat len)), .val (.int (Int32.ofNat i)), .val (.int (cv A (o + i)))] [.int (lo8 (cv A (o + i))), .int (Int32.ofNat (q + i)), .ref d])) := c5.trans (by
        refine XS.iload Xl.here hexec rfl (hb hbytes d15) rfl ?_
        refine sipushV Xl.here hexec rfl 255 (hb hbytes d17) (by decide) ?_
        refine XS.icmpYes Xl.here hexec rfl (pc0 := 20) rfl (hb hbytes d20) rfl (ii_le_t (hp i (by omega))) (by decide) rfl ?_
        refine XS.aloadN Xl.here hexec rfl (hb hbytes d26) rfl rfl ?_
        refine XS.iloadN Xl.here hexec rfl (hb hbytes d27) rfl ?_
        refine XS.iload Xl.here hexec rfl (hb hbytes d28) rfl ?_
        refine i2b Xl.here hexec rfl (hb hbytes d30) rfl ?_
        exact Steps.refl _)
      obtain ⟨T7, X7, p7, st7⟩ := Xl.aput hexec hBk rfl hlt rfl (fits_lo8 (cv A (o + i))) (g := (mkF m 31 #[.val (.ref b), .val (.int (Int32.ofNat (o + i))), .val (.ref d), .val (.int (Int32.ofNat (q + i))), .val (.int (Int32.ofNat len)), .val (.int (Int32.ofNat i)), .val (.int (cv A (o + i)))] [.int (lo8 (cv A (o + i))), .int (Int32.ofNat (q + i)), .ref d])) rfl (rest := []) rfl (hb hbytes d31)
      have c8 : Steps p.tables e below (s₁.setTop (entryFrame m #[.ref b, .int (Int32.ofNat o), .ref d, .int (Int32.ofNat q), .int (Int32.ofNat len)] 7)) (T7.setTop (mkF m 32 #[.val (.ref b), .val (.int (Int32.ofNat (o + i))), .val (.ref d), .val (.int (Int32.ofNat (q + i))), .val (.int (Int32.ofNat len)), .val (.int (Int32.ofNat i)), .val (.int (cv A (o + i)))] [])) := c6.trans (st7 _ (Steps.refl _))
      have c9 : Steps p.tables e below (s₁.setTop (entryFrame m #[.ref b, .int (Int32.ofNat o), .ref d, .int (Int32.ofNat q), .int (Int32.ofNat len)] 7)) (T7.setTop (mkF m 3 #[.val (.ref b), .val (.int (Int32.ofNat (o + i) + 1)), .val (.ref d), .val (.int (Int32.ofNat (q + i) + 1)), .val (.int (Int32.ofNat len)), .val (.int (Int32.ofNat i + 1)), .val (.int (cv A (o + i)))] [])) := c8.trans (by
        refine iincV X7.here hexec rfl 1 (hb hbytes d32) (by decide) rfl rfl ?_
        refine iincV X7.here hexec rfl 1 (hb hbytes d35) (by decide) rfl rfl ?_
        refine iincV X7.here hexec rfl 1 (hb hbytes d38) (by decide) rfl rfl ?_
        refine XS.goto X7.here hexec rfl (pc0 := 41) rfl (hb hbytes d41) (by decide) rfl ?_
        exact Steps.refl _)
      have c10 : Steps p.tables e below (s₁.setTop (entryFrame m #[.ref b, .int (Int32.ofNat o), .ref d, .int (Int32.ofNat q), .int (Int32.ofNat len)] 7)) (T7.setTop (mkF m 3 #[.val (.ref b), .val (.int (Int32.ofNat (o + (i + 1)))), .val (.ref d), .val (.int (Int32.ofNat (q + (i + 1)))), .val (.int (Int32.ofNat len)), .val (.int (Int32.ofNat (i + 1))), .val (.int (cv A (o + i)))] [])) := by
        have := c9
        rw [succ32, succ32, succ32] at this
        exact this
      exact ih (i + 1) (by omega) _ (Or.inr ⟨_, rfl, rfl⟩) T7 _ (by rw [copyLocs_step, ← List.append_assoc]; exact X7) (pl.trans p7) (fl.step (by omega) hlt (by simp)) c10
  obtain ⟨T9, B9, z9, X9, p9, f9, g9⟩ := loop len 0 (by omega) .unset (Or.inl rfl) s₁ B (by simpa [copyLocs] using X0) ⟨hB0.1, fun _ _ => rfl, rfl⟩ (Laid.zero _ _ _) c2
  have c11 : Steps p.tables e below (s₁.setTop (entryFrame m #[.ref b, .int (Int32.ofNat o), .ref d, .int (Int32.ofNat q), .int (Int32.ofNat len)] 7)) (T9.setTop (mkF m 46 #[.val (.ref b), .val (.int (Int32.ofNat (o + len))), .val (.ref d), .val (.int (Int32.ofNat (q + len))), .val (.int (Int32.ofNat len)), .val (.int (Int32.ofNat len)), z9] [.int (Int32.ofNat len)])) := g9.trans (by
    refine XS.iload X9.here hexec rfl (hb hbytes d3) rfl ?_
    refine XS.iload X9.here hexec rfl (hb hbytes d5) rfl ?_
    refine XS.icmpYes X9.here hexec rfl (pc0 := 7) rfl (hb hbytes d7) rfl (ii_ge_t (nlt32 (by omega) (Nat.le_refl _))) (by decide) rfl ?_
    refine XS.iload X9.here hexec rfl (hb hbytes d44) rfl ?_
    exact Steps.refl _)
  exact ⟨T9, some (.int (Int32.ofNat len)), _, _, _, X9, by simp, rfl, rfl, (fun h => by cases h), ⟨rfl, B9, p9.from hh0, f9⟩, fun fs hl => c11.trans (X9.ireturnOut hexec hret rfl (Or.inl rfl) (hb hbytes d46) hl)⟩
end Cmp5
namespace Cmp3
def yN : MethodName := ⟨"java/lang/StringUTF16", "compress", "([CII)[B"⟩
abbrev yB : ByteArray := jdk_52_method_16_code
theorem d0 : decode yB 0 = .ok (.iload_n 2, 1) := by decide +kernel
theorem d1 : decode yB 1 = .ok (.newarray .byte, 2) := by decide +kernel
theorem d3 : decode yB 3 = .ok (.astore_n 3, 1) := by decide +kernel
theorem d4 : decode yB 4 = .ok (.aload_n 0, 1) := by decide +kernel
theorem d5 : decode yB 5 = .ok (.iload_n 1, 1) := by decide +kernel
theorem d6 : decode yB 6 = .ok (.aload_n 3, 1) := by decide +kernel
theorem d7 : decode yB 7 = .ok (.iconst 0, 1) := by decide +kernel
theorem d8 : decode yB 8 = .ok (.iload_n 2, 1) := by decide +kernel
theorem d9 : decode yB 9 = .ok (.invokestatic 115, 3) := by decide +kernel
theorem d12 : decode yB 12 = .ok (.istore 4, 2) := by decide +kernel
theorem d14 : decode yB 14 = .ok (.iload 4, 2) := by decide +kernel
theorem d16 : decode yB 16 = .ok (.iload_n 2, 1) := by decide +kernel
theorem d17 : decode yB 17 = .ok (.if_icmp (.eq) 40, 3) := by decide +kernel
theorem d57 : decode yB 57 = .ok (.aload_n 3, 1) := by decide +kernel
theorem d58 : decode yB 58 = .ok (.areturn, 1) := by decide +kernel
def site : List Cond := [.arrayClass .byte, Cmp5.tab] ++ staticW U16 115 Cmp5.yN
def tab : Cond := tabOf yN yB 6 (some (.array .byte)) site
def P (b : Addr) (A : Cell) (o len : Nat) (args : Array Value) (s : State) : Prop := args = #[.ref b, .int (Int32.ofNat o), .int (Int32.ofNat len)] ∧ Ch b A s ∧ o + len ≤ A.slots.size ∧ len ≤ 536870912 ∧ ∀ i, i < len → ¬ 255 < cv A (o + i)
def E (b : Addr) (A : Cell) (o len : Nat) (r : Option Value) (s u : State) : Prop := NewArr .byte "[B" len (fun j => .int (lo8 (cv A (o + j)))) r s u ∧ u.heap.size = s.heap.size + 1
/-- no char of the range above 255: a new byte[] of their low bytes -/
theorem law (l : Launch) (b : Addr) (A : Cell) (o len : Nat) : Law l yN 3 3 1 18 yB 6 (some (.array .byte)) site (P b A o len) (E b A o len) [] 1 len := by
  refine Law.of_walk (plainFor_of_name (by decide +kernel)) (by decide +kernel) (by decide +kernel) (by decide) (fun _ _ h => by rw [h.1]; rfl) (fun _ U U' hal hh h => ⟨h.1, h.2.1.mv hal hh, h.2.2⟩) (fun r U U' V V' h1 hal h2 h => ⟨NewArr.mv r U U' V V' h1 hal h2 h.1, by rw [h1, h2]; exact h.2⟩) ?_
  intro p e s m args below meth c s₁ X0 hexec hbytes hml hret hlk hnm hown hh0 W hP
  obtain ⟨rfl, hA, l1, l2, hp⟩ := hP
  have a31 := hA.1.2.2.2
  have c1 : Steps p.tables e below (s₁.setTop (entryFrame m #[.ref b, .int (Int32.ofNat o), .int (Int32.ofNat len)] 6)) (s₁.setTop (mkF m 0 #[.val (.ref b), .val (.int (Int32.ofNat o)), .val (.int (Int32.ofNat len)), .unset, .unset, .unset] [])) := entry rfl
  have c2 : Steps p.tables e below (s₁.setTop (entryFrame m #[.ref b, .int (Int32.ofNat o), .int (Int32.ofNat len)] 6)) (s₁.setTop (mkF m 1 #[.val (.ref b), .val (.int (Int32.ofNat o)), .val (.int (Int32.ofNat len)), .unset, .unset, .unset] [.int (Int32.ofNat len)])) := c1.trans (by
    refine XS.iloadN X0.here hexec rfl (hb hbytes d0) rfl ?_
    exact Steps.refl _)
  obtain ⟨T3, B3, X3, ba3, bs3, bv3, bh3, bf3, st3⟩ := X0.anew hexec (atype := .byte) (wk W (.arrayClass .byte)) rfl (by show len * 1 ≤ _; omega) (by omega) (g := (mkF m 1 #[.val (.ref b), .val (.int (Int32.ofNat o)), .val (.int (Int32.ofNat len)), .unset, .unset, .unset] [.int (Int32.ofNat len)])) rfl (hb hbytes d1) (rest := []) rfl (Nat.le_refl _) (by show 0 + len ≤ len; omega)
  rw [hh0] at ba3 st3
  have kp3 : XT.Kept s T3 := (XT.Kept.of_eq hh0).push bh3
  have hA3 := hA.keep X3.warmed.alike (kp3 _ _ hA.1.1)
  have hne : b ≠ s.heap.size := hA.1.ne
  have c4 : Steps p.tables e below (s₁.setTop (entryFrame m #[.ref b, .int (Int32.ofNat o), .int (Int32.ofNat len)] 6)) (T3.setTop (mkF m 3 #[.val (.ref b), .val (.int (Int32.ofNat o)), .val (.int (Int32.ofNat len)), .unset, .unset, .unset] [.ref s.heap.size])) := c2.trans (st3 _ (Steps.refl _))
  have c5 : Steps p.tables e below (s₁.setTop (entryFrame m #[.ref b, .int (Int32.ofNat o), .int (Int32.ofNat len)] 6)) (T3.setTop (mkF m 9 #[.val (.ref b), .val (.int (Int32.ofNat o)), .val (.int (Int32.ofNat len)), .val (.ref s.heap.size), .unset, .unset] [.int (Int32.ofNat len), .int 0, .ref s.heap.size, .int (Int32.ofNat o), .ref b])) := c4.trans (by
    refine XS.astoreN X3.here hexec rfl (hb hbytes d3) rfl rfl rfl ?_
    refine XS.aloadN X3.here hexec rfl (hb hbytes d4) rfl rfl ?_
    refine XS.iloadN X3.here hexec rfl (hb hbytes d5) rfl ?_
    refine XS.aloadN X3.here hexec rfl (hb hbytes d6) rfl rfl ?_
    refine iconstV X3.here hexec rfl 0 (hb hbytes d7) (by decide) ?_
    refine XS.iloadN X3.here hexec rfl (hb hbytes d8) rfl ?_
    exact Steps.refl _)
  obtain ⟨v6, T6, X6, E6, g6⟩ := X3.callS hexec (Cmp5.law l b A s.heap.size B3 o 0 len) hown (wks W (staticW U16 115 Cmp5.yN)) (wk W Cmp5.tab) (W := 0) (Nat.le_of_ble_eq_true rfl) (Nat.le_of_ble_eq_true rfl) (Nat.le_refl _) (by show 0 + len + 0 ≤ len; omega) (g := (mkF m 9 #[.val (.ref b), .val (.int (Int32.ofNat o)), .val (.int (Int32.ofNat len)), .val (.ref s.heap.size), .unset, .unset] [.int (Int32.ofNat len), .int (Int32.ofNat 0), .ref s.heap.size, .int (Int32.ofNat o), .ref b])) rfl (by rw [hml]; rfl) c5 (argsL := [.ref b, .int (Int32.ofNat o), .ref s.heap.size, .int (Int32.ofNat 0), .int (Int32.ofNat len)]) (rest := []) rfl rfl (by show 2 * 0 + 0 ≤ _; decide) (hb hbytes d9) (⟨rfl, hA3, ba3, hne, l1, by rw [bs3]; simp, hp⟩)
  obtain ⟨rfl, B6, p6, f6⟩ := E6
  have c7 : Steps p.tables e below (s₁.setTop (entryFrame m #[.ref b, .int (Int32.ofNat o), .int (Int32.ofNat len)] 6)) (T6.setTop (mkF m 12 #[.val (.ref b), .val (.int (Int32.ofNat o)), .val (.int (Int32.ofNat len)), .val (.ref s.heap.size), .unset, .unset] [.int (Int32.ofNat len)])) := g6
  have c8 : Steps p.tables e below (s₁.setTop (entryFrame m #[.ref b, .int (Int32.ofNat o), .int (Int32.ofNat len)] 6)) (T6.setTop (mkF m 58 #[.val (.ref b), .val (.int (Int32.ofNat o)), .val (.int (Int32.ofNat len)), .val (.ref s.heap.size), .val (.int (Int32.ofNat len)), .unset] [.ref s.heap.size])) := c7.trans (by
    refine XS.istore X6.here hexec rfl (hb hbytes d12) rfl rfl ?_
    refine XS.iload X6.here hexec rfl (hb hbytes d14) rfl ?_
    refine XS.iloadN X6.here hexec rfl (hb hbytes d16) rfl ?_
    refine XS.icmpYes X6.here hexec rfl (pc0 := 17) rfl (hb hbytes d17) rfl (ii_eq_t rfl) (by decide) rfl ?_
    refine XS.aloadN X6.here hexec rfl (hb hbytes d57) rfl rfl ?_
    exact Steps.refl _)
  have X8 := X6.wide (L' := []) (cells' := 1) (slots' := len) (fun x hx hlt => by
    simp only [List.nil_append, copyLocs, List.mem_map, List.mem_range] at hx
    obtain ⟨i, -, rfl⟩ := hx
    exact absurd hlt (Nat.lt_irrefl _)) (Nat.le_refl _) (by omega)
  exact ⟨T6, some (.ref s.heap.size), _, _, _, X8, rfl, rfl, rfl, (fun h => by cases h), ⟨⟨rfl, B6, ba3.like (X3.warmed.alike.symm.trans X6.warmed.alike) p6.1 f6.1 f6.2.1 f6.2.2.1, f6.2.1.trans bv3, by rw [X6.warmed.alike.findClass, f6.1]; exact bf3, by rw [f6.2.2.1, bs3]; simp, fun j hj => by rw [f6.2.2.2 j, if_pos (by omega)]; rfl, kp3.put p6 (Nat.le_refl _)⟩, by rw [p6.2.2, bh3, hh0]; simp⟩, fun fs hl => c8.trans (X8.areturnOut hexec rfl hret rfl (hb hbytes d58) hl)⟩
end Cmp3
namespace CodL
def yN : MethodName := ⟨"java/lang/StringUTF16", "coderFromArrayLen", "([BI)B"⟩
abbrev yB : ByteArray := jdk_52_method_15_code
theorem d0 : decode yB 0 = .ok (.iload_n 1, 1) := by decide +kernel
theorem d1 : decode yB 1 = .ok (.aload_n 0, 1) := by decide +kernel
theorem d2 : decode yB 2 = .ok (.arraylength, 1) := by decide +kernel
theorem d3 : decode yB 3 = .ok (.isub, 1) := by decide +kernel
theorem d4 : decode yB 4 = .ok (.bipush 31, 2) := by decide +kernel
theorem d6 : decode yB 6 = .ok (.iushr, 1) := by decide +kernel
theorem d7 : decode yB 7 = .ok (.i2b, 1) := by decide +kernel
theorem d8 : decode yB 8 = .ok (.ireturn, 1) := by decide +kernel
def site : List Cond := []
def tab : Cond := tabOf yN yB 2 (some .byte) site
def P (d : Addr) (B : Cell) (args : Array Value) (s : State) : Prop := args = #[.ref d, .int (Int32.ofNat B.slots.size)] ∧ Arr .byte d B s
def E (r : Option Value) (s u : State) : Prop := XT.PureE (some (.int 0)) r s u
/-- an array as long as the number of chars: LATIN1 -/
theorem law (l : Launch) (d : Addr) (B : Cell) : Law l yN 2 2 0 0 yB 2 (some .byte) site (P d B) E [] 0 0 := by
  refine Law.of_walk (plainFor_of_name (by decide +kernel)) (by decide +kernel) (by decide +kernel) (by decide) (fun _ _ h => by rw [h.1]; rfl) (fun _ U U' hal hh h => ⟨h.1, h.2.mv hal hh⟩) (fun r U U' V V' h1 hal h2 h => XT.PureE.mv r U U' V V' h1 hal h2 h) ?_
  intro p e s m args below meth c s₁ X0 hexec hbytes hml hret hlk hnm hown hh0 W hP
  obtain ⟨rfl, hB⟩ := hP
  have hB0 := hB.mv X0.warmed.alike hh0
  have c1 : Steps p.tables e below (s₁.setTop (entryFrame m #[.ref d, .int (Int32.ofNat B.slots.size)] 2)) (s₁.setTop (mkF m 0 #[.val (.ref d), .val (.int (Int32.ofNat B.slots.size))] [])) := entry rfl
  have c2 : Steps p.tables e below (s₁.setTop (entryFrame m #[.ref d, .int (Int32.ofNat B.slots.size)] 2)) (s₁.setTop (mkF m 2 #[.val (.ref d), .val (.int (Int32.ofNat B.slots.size))] [.ref d, .int (Int32.ofNat B.slots.size)])) := c1.trans (by
    refine XS.iloadN X0.here hexec rfl (hb hbytes d0) rfl ?_
    refine XS.aloadN X0.here hexec rfl (hb hbytes d1) rfl rfl ?_
    exact Steps.refl _)
  have c3 : Steps p.tables e below (s₁.setTop (entryFrame m #[.ref d, .int (Int32.ofNat B.slots.size)] 2)) (s₁.setTop (mkF m 8 #[.val (.ref d), .val (.int (Int32.ofNat B.slots.size))] [.int (lo8 (ushr (Int32.ofNat B.slots.size - Int32.ofNat B.slots.size) 31))])) := c2.trans (by
    refine X0.alen hexec hB0 rfl rfl (hb hbytes d2) ?_
    refine XS.isub X0.here hexec rfl (hb hbytes d3) rfl ?_
    refine bipushV X0.here hexec rfl 31 (hb hbytes d4) (by decide) ?_
    refine iushr X0.here hexec rfl (hb hbytes d6) rfl ?_
    refine i2b X0.here hexec rfl (hb hbytes d7) rfl ?_
    exact Steps.refl _)
  have e0 : lo8 (ushr (Int32.ofNat B.slots.size - Int32.ofNat B.slots.size) 31) = 0 := by rw [Int32.sub_self]; decide
  rw [e0] at c3
  exact ⟨s₁, some (.int 0), _, _, _, X0, rfl, rfl, rfl, (fun h => by cases h), ⟨rfl, hh0⟩, fun fs hl => c3.trans (X0.ireturnOut hexec hret rfl (Or.inr (Or.inr (Or.inl rfl))) (hb hbytes d8) hl)⟩
end CodL
/-- the String at a is Latin-1 over a new byte[] (the heap's one new cell): the low bytes of the len chars of A from o on; every cell but a is kept -/
def Got (a : Addr) (D : Cell) (fV fC : Field) (A : Cell) (o len : Nat) (r : Option Value) (s u : State) : Prop := r = none ∧ ∃ D' V : Cell, Blank "java/lang/String" a D' u ∧ Same D D' [fV.slot, fC.slot] ∧ D'.slots[fV.slot]? = some (.ref s.heap.size) ∧ D'.slots[fC.slot]? = some (.int 0) ∧ Arr .byte s.heap.size V u ∧ V.vm = .none ∧ u.vm.findClass "[B" = some V.cls ∧ V.slots.size = len ∧ (∀ j, j < len → V.slots[j]? = some (.int (lo8 (cv A (o + j))))) ∧ (∀ (y : Addr) (c : Cell), y ≠ a → s.heap[y]? = some c → u.heap[y]? = some c) ∧ u.heap.size = s.heap.size + 1
theorem Got.mv {a : Addr} {D A : Cell} {fV fC : Field} {o len : Nat} : ∀ r (U U' V V' : State), U'.heap = U.heap → V.vm.Alike V'.vm → V'.heap = V.heap → Got a D fV fC A o len r U V → Got a D fV fC A o len r U' V' :=
  fun r U U' V V' h1 hal h2 ⟨e0, D', X, a1, a2, a3, a4, a5, a6, a7, a8, a9, a10, a11⟩ => ⟨e0, D', X, a1.mv hal h2, a2, by rw [h1]; exact a3, a4, by rw [h1]; exact a5.mv hal h2, a6, by rw [hal.findClass]; exact a7, a8, a9, by rw [h1, h2]; exact a10, by rw [h1, h2]; exact a11⟩
namespace New4
def yN : MethodName := ⟨"java/lang/String", "<init>", "([CIILjava/lang/Void;)V"⟩
abbrev yB : ByteArray := jdk_42_method_149_code
theorem d0 : decode yB 0 = .ok (.aload_n 0, 1) := by decide +kernel
theorem d1 : decode yB 1 = .ok (.invokespecial 1, 3) := by decide +kernel
theorem d4 : decode yB 4 = .ok (.iload_n 3, 1) := by decide +kernel
theorem d5 : decode yB 5 = .ok (.ifCond (.ne) 22, 3) := by decide +kernel
theorem d27 : decode yB 27 = .ok (.getstatic 38, 3) := by decide +kernel
theorem d30 : decode yB 30 = .ok (.ifCond (.eq) 28, 3) := by decide +kernel
theorem d33 : decode yB 33 = .ok (.aload_n 1, 1) := by decide +kernel
theorem d34 : decode yB 34 = .ok (.iload_n 2, 1) := by decide +kernel
theorem d35 : decode yB 35 = .ok (.iload_n 3, 1) := by decide +kernel
theorem d36 : decode yB 36 = .ok (.invokestatic 177, 3) := by decide +kernel
theorem d39 : decode yB 39 = .ok (.astore 5, 2) := by decide +kernel
theorem d41 : decode yB 41 = .ok (.aload_n 0, 1) := by decide +kernel
theorem d42 : decode yB 42 = .ok (.aload 5, 2) := by decide +kernel
theorem d44 : decode yB 44 = .ok (.iload_n 3, 1) := by decide +kernel
theorem d45 : decode yB 45 = .ok (.invokestatic 47, 3) := by decide +kernel
theorem d48 : decode yB 48 = .ok (.putfield 15, 3) := by decide +kernel
theorem d51 : decode yB 51 = .ok (.aload_n 0, 1) := by decide +kernel
theorem d52 : decode yB 52 = .ok (.aload 5, 2) := by decide +kernel
theorem d54 : decode yB 54 = .ok (.putfield 9, 3) := by decide +kernel
theorem d57 : decode yB 57 = .ok (.return_, 1) := by decide +kernel
def site : List Cond := [.fieldLink "java/lang/String" 38 "java/lang/String" "COMPACT_STRINGS" "Z", Cmp3.tab, CodL.tab, .laysFinal "java/lang/String" "java/lang/String" "value" "[B", .fieldLink "java/lang/String" 9 "java/lang/String" "value" "[B", .laysFinal "java/lang/String" "java/lang/String" "coder" "B", .fieldLink "java/lang/String" 15 "java/lang/String" "coder" "B"] ++ objW "java/lang/String" 1 ++ staticW "java/lang/String" 177 Cmp3.yN ++ staticW "java/lang/String" 47 CodL.yN
def tab : Cond := tabOf yN yB 6 none site
def P (a : Addr) (D : Cell) (fV fC : Field) (b : Addr) (A : Cell) (z : Int32) (o len : Nat) (args : Array Value) (s : State) : Prop := args = #[.ref a, .ref b, .int (Int32.ofNat o), .int (Int32.ofNat len), .null] ∧ Blank "java/lang/String" a D s ∧ Found "java/lang/String" "value" "[B" fV s ∧ Found "java/lang/String" "coder" "B" fC s ∧ Ch b A s ∧ StaticIs s "java/lang/String" "COMPACT_STRINGS" "Z" (.int z) ∧ ¬ z = 0 ∧ 0 < len ∧ o + len ≤ A.slots.size ∧ len ≤ 536870912 ∧ ∀ i, i < len → ¬ 255 < cv A (o + i)
def E (a : Addr) (D : Cell) (fV fC : Field) (A : Cell) (o len : Nat) (r : Option Value) (s u : State) : Prop := Got a D fV fC A o len r s u
/-- len > 0, no char of the range above 255: a Latin-1 String of their low bytes -/
theorem law (l : Launch) (a : Addr) (D : Cell) (fV fC : Field) (b : Addr) (A : Cell) (z : Int32) (o len : Nat) : Law l yN 5 4 2 35 yB 6 none site (P a D fV fC b A z o len) (E a D fV fC A o len) [⟨a, fC.slot⟩, ⟨a, fV.slot⟩] 1 len := by
  refine Law.of_walk (plainFor_of_name (by decide +kernel)) (by decide +kernel) (by decide +kernel) (by decide) (fun _ _ h => by rw [h.1]; rfl) (fun _ U U' hal hh h => ⟨h.1, h.2.1.mv hal hh, h.2.2.1.al hal, h.2.2.2.1.al hal, h.2.2.2.2.1.mv hal hh, h.2.2.2.2.2.1.there hal hh, h.2.2.2.2.2.2⟩) (fun r U U' V V' h1 hal h2 h => Got.mv r U U' V V' h1 hal h2 h) ?_
  intro p e s m args below meth c s₁ X0 hexec hbytes hml hret hlk hnm hown hh0 W hP
  obtain ⟨rfl, hB, f1, f2, hA, s1, hz, l0, l1, l2, hp⟩ := hP
  have a31 := hA.1.2.2.2
  have c1 : Steps p.tables e below (s₁.setTop (entryFrame m #[.ref a, .ref b, .int (Int32.ofNat o), .int (Int32.ofNat len), .null] 6)) (s₁.setTop (mkF m 0 #[.val (.ref a), .val (.ref b), .val (.int (Int32.ofNat o)), .val (.int (Int32.ofNat len)), .val .null, .unset] [])) := entry rfl
  have c2 : Steps p.tables e below (s₁.setTop (entryFrame m #[.ref a, .ref b, .int (Int32.ofNat o), .int (Int32.ofNat len), .null] 6)) (s₁.setTop (mkF m 1 #[.val (.ref a), .val (.ref b), .val (.int (Int32.ofNat o)), .val (.int (Int32.ofNat len)), .val .null, .unset] [.ref a])) := c1.trans (by
    refine XS.aloadN X0.here hexec rfl (hb hbytes d0) rfl rfl ?_
    exact Steps.refl _)
  obtain ⟨T3, X3, q3, st3⟩ := X0.oinit hexec hown (wks W (objW "java/lang/String" 1)) (g := (mkF m 1 #[.val (.ref a), .val (.ref b), .val (.int (Int32.ofNat o)), .val (.int (Int32.ofNat len)), .val .null, .unset] [.ref a])) rfl (by rw [hml]; rfl) (rest := []) rfl (hb hbytes d1) (W := 0) (by show 2 * 0 + 0 ≤ _; decide) (Nat.le_of_ble_eq_true rfl) (Nat.le_of_ble_eq_true rfl)
  have hh3 := q3.trans hh0
  have c4 : Steps p.tables e below (s₁.setTop (entryFrame m #[.ref a, .ref b, .int (Int32.ofNat o), .int (Int32.ofNat len), .null] 6)) (T3.setTop (mkF m 27 #[.val (.ref a), .val (.ref b), .val (.int (Int32.ofNat o)), .val (.int (Int32.ofNat len)), .val .null, .unset] [])) := (c2.trans (st3 _ (Steps.refl _))).trans (by
    refine XS.iloadN X3.here hexec rfl (hb hbytes d4) rfl ?_
    refine XS.ifYes X3.here hexec rfl (pc0 := 5) rfl (hb hbytes d5) rfl (i0_ne_t (nz32 (by omega) l0)) (by decide) rfl ?_
    exact Steps.refl _)
  obtain ⟨T5, X5, q5, st5⟩ := X3.sget hexec hown (wk W (.fieldLink "java/lang/String" 38 "java/lang/String" "COMPACT_STRINGS" "Z")) s1 (fun _ _ h => by rw [hh3]; exact h) (g := (mkF m 27 #[.val (.ref a), .val (.ref b), .val (.int (Int32.ofNat o)), .val (.int (Int32.ofNat len)), .val .null, .unset] [])) rfl (hb hbytes d27)
  have hh5 := q5.trans hh3
  have c6 : Steps p.tables e below (s₁.setTop (entryFrame m #[.ref a, .ref b, .int (Int32.ofNat o), .int (Int32.ofNat len), .null] 6)) (T5.setTop (mkF m 30 #[.val (.ref a), .val (.ref b), .val (.int (Int32.ofNat o)), .val (.int (Int32.ofNat len)), .val .null, .unset] [.int z])) := c4.trans (st5 _ (Steps.refl _))
  have c7 : Steps p.tables e below (s₁.setTop (entryFrame m #[.ref a, .ref b, .int (Int32.ofNat o), .int (Int32.ofNat len), .null] 6)) (T5.setTop (mkF m 36 #[.val (.ref a), .val (.ref b), .val (.int (Int32.ofNat o)), .val (.int (Int32.ofNat len)), .val .null, .unset] [.int (Int32.ofNat len), .int (Int32.ofNat o), .ref b])) := c6.trans (by
    refine XS.ifNo X5.here hexec rfl (hb hbytes d30) rfl (i0_eq_f hz) ?_
    refine XS.aloadN X5.here hexec rfl (hb hbytes d33) rfl rfl ?_
    refine XS.iloadN X5.here hexec rfl (hb hbytes d34) rfl ?_
    refine XS.iloadN X5.here hexec rfl (hb hbytes d35) rfl ?_
    exact Steps.refl _)
  obtain ⟨v8, T8, X8, E8, g8⟩ := X5.callS hexec (Cmp3.law l b A o len) hown (wks W (staticW "java/lang/String" 177 Cmp3.yN)) (wk W Cmp3.tab) (W := 0) (Nat.le_of_ble_eq_true rfl) (Nat.le_of_ble_eq_true rfl) (Nat.le_refl _) (by show 0 + len ≤ len; omega) (g := (mkF m 36 #[.val (.ref a), .val (.ref b), .val (.int (Int32.ofNat o)), .val (.int (Int32.ofNat len)), .val .null, .unset] [.int (Int32.ofNat len), .int (Int32.ofNat o), .ref b])) rfl (by rw [hml]; rfl) c7 (argsL := [.ref b, .int (Int32.ofNat o), .int (Int32.ofNat len)]) (rest := []) rfl rfl (by show 2 * 0 + 0 ≤ _; decide) (hb hbytes d36) (⟨rfl, hA.mv X5.warmed.alike hh5, l1, l2, hp⟩)
  obtain ⟨e8, z8⟩ := E8
  obtain ⟨rfl, N, n1, n2, n3, n4, n5, n6⟩ := NewArr.mv _ T5 s _ _ hh5.symm (Vm.Alike.refl _) rfl e8
  rw [hh5] at z8
  have hB1 := hB.keep X8.warmed.alike (n6 _ _ hB.1)
  have hne : s.heap.size ≠ a := (Nat.ne_of_lt (Array.getElem?_eq_some_iff.mp hB.1).1).symm
  have c9 : Steps p.tables e below (s₁.setTop (entryFrame m #[.ref a, .ref b, .int (Int32.ofNat o), .int (Int32.ofNat len), .null] 6)) (T8.setTop (mkF m 39 #[.val (.ref a), .val (.ref b), .val (.int (Int32.ofNat o)), .val (.int (Int32.ofNat len)), .val .null, .unset] [.ref s.heap.size])) := g8
  have c10 : Steps p.tables e below (s₁.setTop (entryFrame m #[.ref a, .ref b, .int (Int32.ofNat o), .int (Int32.ofNat len), .null] 6)) (T8.setTop (mkF m 45 #[.val (.ref a), .val (.ref b), .val (.int (Int32.ofNat o)), .val (.int (Int32.ofNat len)), .val .null, .val (.ref s.heap.size)] [.int (Int32.ofNat N.slots.size), .ref s.heap.size, .ref a])) := by
    have hc : Steps p.tables e below (s₁.setTop (entryFrame m #[.ref a, .ref b, .int (Int32.ofNat o), .int (Int32.ofNat len), .null] 6)) (T8.setTop (mkF m 45 #[.val (.ref a), .val (.ref b), .val (.int (Int32.ofNat o)), .val (.int (Int32.ofNat len)), .val .null, .val (.ref s.heap.size)] [.int (Int32.ofNat len), .ref s.heap.size, .ref a])) := c9.trans (by
      refine XS.astore X8.here hexec rfl (hb hbytes d39) rfl rfl rfl ?_
      refine XS.aloadN X8.here hexec rfl (hb hbytes d41) rfl rfl ?_
      refine XS.aload X8.here hexec rfl (hb hbytes d42) rfl rfl ?_
      refine XS.iloadN X8.here hexec rfl (hb hbytes d44) rfl ?_
      exact Steps.refl _)
    rw [n4]; exact hc
  obtain ⟨v11, T11, X11, E11, g11⟩ := X8.callS hexec (CodL.law l s.heap.size N) hown (wks W (staticW "java/lang/String" 47 CodL.yN)) (wk W CodL.tab) (W := 1) (Nat.le_of_ble_eq_true rfl) (Nat.le_of_ble_eq_true rfl) (Nat.le_refl _) (by show 0 + len + 0 ≤ len; omega) (g := (mkF m 45 #[.val (.ref a), .val (.ref b), .val (.int (Int32.ofNat o)), .val (.int (Int32.ofNat len)), .val .null, .val (.ref s.heap.size)] [.int (Int32.ofNat N.slots.size), .ref s.heap.size, .ref a])) rfl (by rw [hml]; rfl) c10 (argsL := [.ref s.heap.size, .int (Int32.ofNat N.slots.size)]) (rest := [.ref a]) rfl rfl (by show 2 * 0 + (1 + 0) ≤ _; decide) (hb hbytes d45) (⟨rfl, n1⟩)
  obtain ⟨rfl, q11⟩ := E11
  have hB11 := hB1.mv (X8.warmed.alike.symm.trans X11.warmed.alike) q11
  have c12 : Steps p.tables e below (s₁.setTop (entryFrame m #[.ref a, .ref b, .int (Int32.ofNat o), .int (Int32.ofNat len), .null] 6)) (T11.setTop (mkF m 48 #[.val (.ref a), .val (.ref b), .val (.int (Int32.ofNat o)), .val (.int (Int32.ofNat len)), .val .null, .val (.ref s.heap.size)] [.int 0, .ref a])) := g11
  obtain ⟨T13, X13, p13, bl13, sl13, st13⟩ := X11.finit hexec hown (wk W (.fieldLink "java/lang/String" 15 "java/lang/String" "coder" "B")) (Or.inr ⟨_, (wk W (.laysFinal "java/lang/String" "java/lang/String" "coder" "B"))⟩) (Or.inl ⟨rfl, hnm⟩) f2 (Or.inl rfl) hB11 (t := .byte) (by decide +kernel) rfl (g := (mkF m 48 #[.val (.ref a), .val (.ref b), .val (.int (Int32.ofNat o)), .val (.int (Int32.ofNat len)), .val .null, .val (.ref s.heap.size)] [.int 0, .ref a])) rfl (rest := []) rfl (hb hbytes d48)
  have c14 : Steps p.tables e below (s₁.setTop (entryFrame m #[.ref a, .ref b, .int (Int32.ofNat o), .int (Int32.ofNat len), .null] 6)) (T13.setTop (mkF m 54 #[.val (.ref a), .val (.ref b), .val (.int (Int32.ofNat o)), .val (.int (Int32.ofNat len)), .val .null, .val (.ref s.heap.size)] [.ref s.heap.size, .ref a])) := (c12.trans (st13 _ (Steps.refl _))).trans (by
    refine XS.aloadN X13.here hexec rfl (hb hbytes d51) rfl rfl ?_
    refine XS.aload X13.here hexec rfl (hb hbytes d52) rfl rfl ?_
    exact Steps.refl _)
  obtain ⟨T15, X15, p15, bl15, sl15, st15⟩ := X13.finit hexec hown (wk W (.fieldLink "java/lang/String" 9 "java/lang/String" "value" "[B")) (Or.inr ⟨_, (wk W (.laysFinal "java/lang/String" "java/lang/String" "value" "[B"))⟩) (Or.inl ⟨rfl, hnm⟩) f1 (Or.inl rfl) bl13 (t := (.array .byte)) (by decide +kernel) rfl (g := (mkF m 54 #[.val (.ref a), .val (.ref b), .val (.int (Int32.ofNat o)), .val (.int (Int32.ofNat len)), .val .null, .val (.ref s.heap.size)] [.ref s.heap.size, .ref a])) rfl (rest := []) rfl (hb hbytes d54)
  have c16 : Steps p.tables e below (s₁.setTop (entryFrame m #[.ref a, .ref b, .int (Int32.ofNat o), .int (Int32.ofNat len), .null] 6)) (T15.setTop (mkF m 57 #[.val (.ref a), .val (.ref b), .val (.int (Int32.ofNat o)), .val (.int (Int32.ofNat len)), .val .null, .val (.ref s.heap.size)] [])) := c14.trans (st15 _ (Steps.refl _))
  have ap := apart (Or.inr ⟨_, (wk W (.laysFinal "java/lang/String" "java/lang/String" "value" "[B"))⟩) (Or.inr ⟨_, (wk W (.laysFinal "java/lang/String" "java/lang/String" "coder" "B"))⟩) f1 f2 (t₁ := .array .byte) (t₂ := .byte) (by decide +kernel) (by decide +kernel) (by decide)
  have al := X8.warmed.alike.symm.trans X15.warmed.alike
  have n7 : T11.heap[s.heap.size]? = some N := by rw [q11]; exact n1.1
  exact ⟨T15, none, _, _, _, X15, by simp, rfl, by omega, (fun _ => rfl), ⟨rfl, _, N, bl15, ((Same.refl D _).set _ (by simp)).set _ (by simp), sl15, (Cell.slots_setSlot_ne _ ap).trans sl13, n1.keep al (p15.other hne (p13.other hne n7)), n2, by rw [al.findClass]; exact n3, n4, n5, fun y c h1 h2 => p15.other h1 (p13.other h1 (by rw [q11]; exact n6 y c h2)), by rw [p15.2.2, p13.2.2, q11]; exact z8⟩, fun fs hl => c16.trans (X15.returnOut hexec hret (hb hbytes d57) hl)⟩
end New4
namespace New1
def yN : MethodName := ⟨"java/lang/String", "<init>", "([C)V"⟩
abbrev yB : ByteArray := jdk_42_method_3_code
theorem d0 : decode yB 0 = .ok (.aload_n 0, 1) := by decide +kernel
theorem d1 : decode yB 1 = .ok (.aload_n 1, 1) := by decide +kernel
theorem d2 : decode yB 2 = .ok (.iconst 0, 1) := by decide +kernel
theorem d3 : decode yB 3 = .ok (.aload_n 1, 1) := by decide +kernel
theorem d4 : decode yB 4 = .ok (.arraylength, 1) := by decide +kernel
theorem d5 : decode yB 5 = .ok (.aconst_null, 1) := by decide +kernel
theorem d6 : decode yB 6 = .ok (.invokespecial 27, 3) := by decide +kernel
theorem d9 : decode yB 9 = .ok (.return_, 1) := by decide +kernel
def site : List Cond := [New4.tab] ++ initW "java/lang/String" 27 New4.yN
def tab : Cond := tabOf yN yB 2 none site
def P (a : Addr) (D : Cell) (fV fC : Field) (b : Addr) (A : Cell) (z : Int32) (args : Array Value) (s : State) : Prop := args = #[.ref a, .ref b] ∧ Blank "java/lang/String" a D s ∧ Found "java/lang/String" "value" "[B" fV s ∧ Found "java/lang/String" "coder" "B" fC s ∧ Ch b A s ∧ StaticIs s "java/lang/String" "COMPACT_STRINGS" "Z" (.int z) ∧ ¬ z = 0 ∧ 0 < A.slots.size ∧ A.slots.size ≤ 536870912 ∧ ∀ i, i < A.slots.size → ¬ 255 < cv A i
def E (a : Addr) (D : Cell) (fV fC : Field) (A : Cell) (r : Option Value) (s u : State) : Prop := Got a D fV fC A 0 A.slots.size r s u
/-- new String(chars), not empty, no char above 255: a Latin-1 String of their low bytes -/
theorem law (l : Launch) (a : Addr) (D : Cell) (fV fC : Field) (b : Addr) (A : Cell) (z : Int32) : Law l yN 2 1 3 52 yB 2 none site (P a D fV fC b A z) (E a D fV fC A) [⟨a, fC.slot⟩, ⟨a, fV.slot⟩] 1 A.slots.size := by
  refine Law.of_walk (plainFor_of_name (by decide +kernel)) (by decide +kernel) (by decide +kernel) (by decide) (fun _ _ h => by rw [h.1]; rfl) (fun _ U U' hal hh h => ⟨h.1, h.2.1.mv hal hh, h.2.2.1.al hal, h.2.2.2.1.al hal, h.2.2.2.2.1.mv hal hh, h.2.2.2.2.2.1.there hal hh, h.2.2.2.2.2.2⟩) (fun r U U' V V' h1 hal h2 h => Got.mv r U U' V V' h1 hal h2 h) ?_
  intro p e s m args below meth c s₁ X0 hexec hbytes hml hret hlk hnm hown hh0 W hP
  obtain ⟨rfl, hB, f1, f2, hA, s1, hz, l0, l2, hp⟩ := hP
  have c1 : Steps p.tables e below (s₁.setTop (entryFrame m #[.ref a, .ref b] 2)) (s₁.setTop (mkF m 0 #[.val (.ref a), .val (.ref b)] [])) := entry rfl
  have c2 : Steps p.tables e below (s₁.setTop (entryFrame m #[.ref a, .ref b] 2)) (s₁.setTop (mkF m 6 #[.val (.ref a), .val (.ref b)] [.null, .int (Int32.ofNat A.slots.size), .int 0, .ref b, .ref a])) := c1.trans (by
    refine XS.aloadN X0.here hexec rfl (hb hbytes d0) rfl rfl ?_
    refine XS.aloadN X0.here hexec rfl (hb hbytes d1) rfl rfl ?_
    refine iconstV X0.here hexec rfl 0 (hb hbytes d2) (by decide) ?_
    refine XS.aloadN X0.here hexec rfl (hb hbytes d3) rfl rfl ?_
    refine X0.alen hexec (hA.1.mv X0.warmed.alike hh0) rfl rfl (hb hbytes d4) ?_
    refine XS.aconstNull X0.here hexec rfl (hb hbytes d5) ?_
    exact Steps.refl _)
  obtain ⟨v3, T3, X3, E3, g3⟩ := X0.callN hexec (New4.law l a D fV fC b A z 0 A.slots.size) rfl hown (wks W (initW "java/lang/String" 27 New4.yN)) (W New4.tab (by simp only [site, List.mem_cons, List.mem_append, true_or, or_true])) (W := 0) (Nat.le_of_ble_eq_true rfl) (Nat.le_of_ble_eq_true rfl) (Nat.le_refl _) (by show 0 + A.slots.size ≤ A.slots.size; omega) (g := (mkF m 6 #[.val (.ref a), .val (.ref b)] [.null, .int (Int32.ofNat A.slots.size), .int (Int32.ofNat 0), .ref b, .ref a])) rfl (by rw [hml]; rfl) c2 (argsL := [.ref b, .int (Int32.ofNat 0), .int (Int32.ofNat A.slots.size), .null]) (rest := []) rfl rfl (by show 2 * 0 + 0 ≤ _; decide) (hb hbytes d6) (⟨rfl, hB.mv X0.warmed.alike hh0, f1.al X0.warmed.alike, f2.al X0.warmed.alike, hA.mv X0.warmed.alike hh0, s1.there X0.warmed.alike hh0, hz, l0, by omega, l2, fun i hi => by rw [Nat.zero_add]; exact hp i hi⟩)
  have e0 := Got.mv _ s₁ s _ _ hh0.symm (Vm.Alike.refl _) rfl E3
  obtain rfl := e0.1
  have c4 : Steps p.tables e below (s₁.setTop (entryFrame m #[.ref a, .ref b] 2)) (T3.setTop (mkF m 9 #[.val (.ref a), .val (.ref b)] [])) := g3
  exact ⟨T3, none, _, _, _, X3, by simp, rfl, by omega, (fun _ => rfl), e0, fun fs hl => c4.trans (X3.returnOut hexec hret (hb hbytes d9) hl)⟩
theorem pays {l : Launch} {R : Room} {p : Program} {e : Env} {below : List Frame} {s : State} {sargs : Array Value} {len W : Nat} (a : Addr) (D : Cell) (fV fC : Field) (b : Addr) (A : Cell) (z : Int32) (htab : tab.before sargs s = true) (hfr : 4 ≤ R.frames) (hlo : W + 65 ≤ R.locals) :
    Back l R p e below s sargs yN len W (fun A₁ a₁ => A₁.cells + 1 ≤ R.cells ∧ A₁.slots + A.slots.size ≤ R.slots ∧ P a D fV fC b A z a₁ A₁.U) (fun A₁ _ v₁ B₁ => E a D fV fC A v₁ A₁.U B₁.U ∧ B₁.locs = A₁.locs ++ [⟨a, fC.slot⟩, ⟨a, fV.slot⟩] ∧ B₁.cells = A₁.cells + 1 ∧ B₁.slots = A₁.slots + A.slots.size) :=
  (law l a D fV fC b A z).pays htab hfr (by omega)
end New1
end StrChars
namespace StrChars.Road
open Jvm Sem ClassFile Op Lib Jvm.Stand Jvm.Free Jvm.Free.XT
open Jvm.Lib.Cold (StaticIs)
abbrev ST : String := "java/lang/String"
/-- every table word that New1's law asks, flat -/
abbrev words : List Jvm.Cond := [.code New1.yN New1.yB 2 none, .initialized ST, .methodLink ST 27 New4.yN, .instanceMethod New4.yN,
  .code New4.yN New4.yB 6 none, .fieldLink ST 38 ST "COMPACT_STRINGS" "Z", .laysFinal ST ST "value" "[B", .fieldLink ST 9 ST "value" "[B", .laysFinal ST ST "coder" "B", .fieldLink ST 15 ST "coder" "B",
  .methodLink ST 1 Lib.objectInit, .instanceMethod Lib.objectInit, .code Lib.objectInit ⟨#[0xb1]⟩ 1 none, .methodLink ST 177 Cmp3.yN, .static Cmp3.yN, .methodLink ST 47 CodL.yN, .static CodL.yN,
  .code Cmp3.yN Cmp3.yB 6 (some (.array .byte)), .initialized U16, .arrayClass .byte, .methodLink U16 115 Cmp5.yN, .static Cmp5.yN, .code Cmp5.yN Cmp5.yB 7 (some .int), .code CodL.yN CodL.yB 2 (some .byte)]
theorem tab_of {a : Array Value} {s : State} (h : ∀ w ∈ words, w.before a s = true) : New1.tab.before a s = true := by
  have h5 : Cmp5.tab.before a s = true := unparts (wk h (.code Cmp5.yN Cmp5.yB 7 (some .int))) (wks h (.initialized Cmp5.yN.cls :: Cmp5.site))
  have hc : CodL.tab.before a s = true := unparts (wk h (.code CodL.yN CodL.yB 2 (some .byte))) (wks h (.initialized CodL.yN.cls :: CodL.site))
  have q5 : ∀ w ∈ Cmp5.tab :: words, w.before a s = true := fun w hw => (List.mem_cons.mp hw).elim (fun e => e ▸ h5) (h w)
  have h3 : Cmp3.tab.before a s = true := unparts (wk q5 (.code Cmp3.yN Cmp3.yB 6 (some (.array .byte)))) (wks q5 (.initialized Cmp3.yN.cls :: Cmp3.site))
  have q3 : ∀ w ∈ Cmp3.tab :: CodL.tab :: words, w.before a s = true := fun w hw => (List.mem_cons.mp hw).elim (fun e => e ▸ h3) fun hw => (List.mem_cons.mp hw).elim (fun e => e ▸ hc) (h w)
  have h4 : New4.tab.before a s = true := unparts (wk q3 (.code New4.yN New4.yB 6 none)) (wks q3 (.initialized New4.yN.cls :: New4.site))
  have q4 : ∀ w ∈ New4.tab :: words, w.before a s = true := fun w hw => (List.mem_cons.mp hw).elim (fun e => e ▸ h4) (h w)
  exact unparts (wk q4 (.code New1.yN New1.yB 2 none)) (wks q4 (.initialized New1.yN.cls :: New1.site))
/-- the words ride from the start Z to the walk's own state -/
theorem moved {Z s : State} {a0 args : Array Value} (hZ : Z.Warmed39 s.vm) (hw : ∀ d ∈ words, d.before a0 Z = true) : ∀ d ∈ words, d.before args s = true := fun d hd => by
  have q := hw d hd
  have t : ∀ d ∈ words, d = .arrayClass .byte ∨ (d.onTables && d.keepsFace) = true := by decide +kernel
  rcases t d hd with rfl | t
  · exact RoadKit.mvA hZ q
  · exact RoadKit.mv hZ q t
/-- WHAT COMES BACK, over the tables of the start Z: h the heap at the call, h' behind it -/
def Q (Z : State) (x : Addr) (A : Cell) (h : Heap) (v : Option Value) (h' : Heap) (L : List Loc) : Prop := v = none ∧ (∀ y ∈ L, y.base = x) ∧ RoadKit.Keep h h' [x] ∧ h'.size = h.size + 1 ∧ RoadKit.Exa Z h' x ST ∧ RoadKit.Fld Z h' x ST "value" "[B" (.ref h.size) ∧ RoadKit.Fld Z h' x ST "coder" "B" (.int 0) ∧
  (∃ V : Cell, RoadKit.Arr Z h' h.size V .byte ∧ V.vm = .none ∧ Z.vm.findClass "[B" = some V.cls ∧ V.slots.size = A.slots.size ∧ ∀ j, j < A.slots.size → V.slots[j]? = some (.int (lo8 (cv A j)))) ∧
  ∀ (O n d : String) (w : Value), RoadKit.Fld Z h x O n d w → RoadKit.slotOf Z O n d ≠ RoadKit.slotOf Z ST "value" "[B" → RoadKit.slotOf Z O n d ≠ RoadKit.slotOf Z ST "coder" "B" → RoadKit.Fld Z h' x O n d w
/-- **new String(chars) AT A CALL, IN THE ROAD'S FORM**: for specialBack behind newO: x the fresh String, b the char[] with the cell A -/
theorem back {p : Program} {l : Launch} {e : Env} {R : Room} {s : State} {args : Array Value} {below : List Frame} {len W : Nat} {Z : State} {a0 : Array Value} {h : Heap} (hZ : Z.Warmed39 s.vm) (hw : ∀ d ∈ words, d.before a0 Z = true) {kI : Nat} (wi : (Jvm.Cond.instantiable ST kI).before a0 Z = true)
    {x b : Addr} {A : Cell} {z : Int32} {v0 c0 : Value} (E : RoadKit.Exa Z h x ST) (V : RoadKit.Fld Z h x ST "value" "[B" v0) (C : RoadKit.Fld Z h x ST "coder" "B" c0) (K : RoadKit.Arr Z h b A .char) (hty : Typed .char A) (S : RoadKit.Sta Z h ST "COMPACT_STRINGS" "Z" (.int z)) (hz : ¬ z = 0)
    (l0 : 0 < A.slots.size) (l2 : A.slots.size ≤ 536870912) (hp : ∀ i, i < A.slots.size → ¬ 255 < cv A i) (hfr : 4 ≤ R.frames) (hlo : W + 65 ≤ R.locals) :
    Back l R p e below s args New1.yN len W (fun P a => a = #[.ref x, .ref b] ∧ P.U.heap = h ∧ P.cells + 1 ≤ R.cells ∧ P.slots + A.slots.size ≤ R.slots)
      (fun P _ v B => ∃ L, Q Z x A h v B.U.heap L ∧ B.locs = P.locs ++ L ∧ B.cells = P.cells + 1 ∧ B.slots = P.slots + A.slots.size) := by
  intro m meth c P g ig mk a X hg hsize hdg hW hn hp'
  obtain ⟨rfl, rfl, r1, r2⟩ := hp'
  have al : Z.vm.Alike P.U.vm := hZ.alike.trans X.warmed.alike
  obtain ⟨D, cfV, kV, iV, fV, hD, gV, stV, knV, obV, asV, slV⟩ := id V
  obtain ⟨D', cfC, kC, iC, fC, hD', gC, stC, -, -, asC, slC⟩ := id C
  cases hD.symm.trans hD'
  obtain ⟨D2, kD, e1, e2, e3, e4, e5⟩ := id E
  cases hD.symm.trans e1
  obtain ⟨c2, k2, i1, i2, i3, -⟩ := Cond.instantiable_spec wi
  cases e2.symm.trans i1
  cases e3.symm.trans i2
  obtain ⟨kU, u1, u2⟩ := al.2.2 _ _ e3
  have hB : Blank ST x D P.U := ⟨hD, ⟨knV, fun q hq => by rw [hq] at obV; cases obV⟩, by rw [al.findClass]; exact e2, kU, u1, by rw [u2]; exact i3, by rw [u2]; exact e5 i3⟩
  have F1 : Found ST "value" "[B" fV P.U := ⟨SBG.found_only al ⟨cfV, kV, iV, gV⟩, stV⟩
  have F2 : Found ST "coder" "B" fC P.U := ⟨SBG.found_only al ⟨cfC, kC, iC, gC⟩, stC⟩
  have hA : Ch b A P.U := ⟨⟨K.1, State.isArrayOf_alike al K.2.1, K.2.2, by omega⟩, hty⟩
  have hS : StaticIs P.U ST "COMPACT_STRINGS" "Z" (.int z) := by
    obtain ⟨cfS, iS, kS, fS, st, cS, t1, t2, t3, t4, t5, t6, t7⟩ := S
    exact StaticIs.there (s := { Z with heap := P.U.heap }) ⟨cfS, iS, kS, fS, st, cS, t1, t2, t3, t4, t5, (fun q => by rw [q] at t6; cases t6), t7⟩ al rfl
  obtain ⟨v, B, X', ⟨⟨hv, E', V', q1, q2, q3, q4, q5, q6, q7, q8, q9, q10, q11⟩, hl, hc, hs⟩, st⟩ := New1.pays x D fV fC b A z (tab_of (moved hZ hw)) hfr hlo m meth c P g ig mk _ X hg hsize hdg hW hn ⟨r1, r2, rfl, hB, F1, F2, hA, hS, hz, l0, l2, hp⟩
  have al' : Z.vm.Alike B.U.vm := hZ.alike.trans X'.warmed.alike
  have hsz : E'.slots.size = D.slots.size := by
    obtain ⟨-, -, -, kB, w1, w2, w3⟩ := q1
    obtain ⟨kB', y1, y2⟩ := al'.2.2 _ _ e3
    rw [q2.2.1] at w1
    cases w1.symm.trans y1
    rw [w3, e5 i3, y2]
  refine ⟨v, B, X', ⟨_, ⟨hv, ?_, ⟨by omega, fun y cy hy hn' => q10 y cy (by simpa using hn') hy, fun y cy hy => ?_⟩, q11, ⟨E', _, q1.1, by rw [q2.2.1]; exact e2, by rw [q2.2.1]; exact e3, by rw [q2.1]; exact obV, fun _ => by rw [hsz]; exact e5 i3⟩,
    ⟨E', cfV, kV, iV, fV, q1.1, gV, stV, by rw [q2.1]; exact knV, by rw [q2.1]; exact obV, by rw [q2.2.1]; exact asV, q3⟩, ⟨E', cfC, kC, iC, fC, q1.1, gC, stC, by rw [q2.1]; exact knV, by rw [q2.1]; exact obV, by rw [q2.2.1]; exact asC, q4⟩,
    ⟨V', ⟨q5.1, State.isArrayOf_alike al'.symm q5.2.1, q5.2.2.1⟩, q6, by rw [← al'.findClass]; exact q7, q8, fun j hj => by have := q9 j hj; rwa [Nat.zero_add] at this⟩, fun O n d w F n1 n2 => ?_⟩, hl, hc, hs⟩, st⟩
  · intro y hy
    simp only [List.mem_cons, List.not_mem_nil, or_false] at hy
    rcases hy with rfl | rfl <;> rfl
  · by_cases q : y = x
    · subst q
      cases hD.symm.trans hy
      exact ⟨E', q1.1, q2.2.1, q2.1, hsz⟩
    · exact ⟨cy, q10 y cy q hy, rfl, rfl, rfl⟩
  · obtain ⟨D3, cf, k, i, f, g1, g2, g3, g4, g5, g6, g7⟩ := F
    cases hD.symm.trans g1
    simp only [RoadKit.slotOf, g2, gV, gC, Option.map_some, Option.getD_some] at n1 n2
    exact ⟨E', cf, k, i, f, q1.1, g2, g3, by rw [q2.1]; exact g4, by rw [q2.1]; exact g5, by rw [q2.2.1]; exact g6, by rw [q2.2.2 f.slot (by simp [n1, n2])]; exact g7⟩
end StrChars.Road
namespace StrChars.Road
open Jvm Sem ClassFile Op Lib Jvm.Stand Jvm.Free Jvm.Free.XT
/-- WHAT COMES BACK, the byte[] as a list of values -/
def QA (Z : State) (x : Addr) (zn : Int32) (cs : List Int32) (h : Heap) (v : Option Value) (h' : Heap) (L : List Loc) : Prop := v = none ∧ (∀ y ∈ L, y.base = x) ∧ RoadKit.Keep h h' [x] ∧ h'.size = h.size + 1 ∧ RoadKit.Exa Z h' x ST ∧ RoadKit.Fld Z h' x ST "value" "[B" (.ref h.size) ∧ RoadKit.Fld Z h' x ST "coder" "B" (.int 0) ∧
  (∃ kb, Z.vm.findClass "[B" = some kb ∧ RoadKit.Arv Z h' h.size kb .byte zn (cs.map fun c => .int (lo8 c)) (.int 0)) ∧
  ∀ (O n d : String) (w : Value), RoadKit.Fld Z h x O n d w → RoadKit.slotOf Z O n d ≠ RoadKit.slotOf Z ST "value" "[B" → RoadKit.slotOf Z O n d ≠ RoadKit.slotOf Z ST "coder" "B" → RoadKit.Fld Z h' x O n d w
/-- **new String(chars) AT A CALL, THE ARRAYS AS LISTS**: the char[] at b holds cs, not empty, no char above 255 -/
theorem backArv {p : Program} {l : Launch} {e : Env} {R : Room} {s : State} {args : Array Value} {below : List Frame} {len W : Nat} {Z : State} {a0 : Array Value} {h : Heap} (hZ : Z.Warmed39 s.vm) (hw : ∀ d ∈ words, d.before a0 Z = true) {kI : Nat} (wi : (Jvm.Cond.instantiable ST kI).before a0 Z = true)
    {x b : Addr} {k : ClassId} {zn z : Int32} {cs : List Int32} {dv v0 c0 : Value} (E : RoadKit.Exa Z h x ST) (V : RoadKit.Fld Z h x ST "value" "[B" v0) (C : RoadKit.Fld Z h x ST "coder" "B" c0) (K : RoadKit.Arv Z h b k .char zn (cs.map Value.int) dv) (S : RoadKit.Sta Z h ST "COMPACT_STRINGS" "Z" (.int z)) (hz : ¬ z = 0)
    (hlen : zn.toNatClampNeg = cs.length) (h0 : 0 < cs.length) (hbig : cs.length ≤ 536870912) (hall : ∀ c ∈ cs, ¬ 255 < c) (hfr : 4 ≤ R.frames) (hlo : W + 65 ≤ R.locals) :
    Back l R p e below s args New1.yN len W (fun P a => a = #[.ref x, .ref b] ∧ P.U.heap = h ∧ P.cells + 1 ≤ R.cells ∧ P.slots + cs.length ≤ R.slots)
      (fun P _ v B => ∃ L, QA Z x zn cs h v B.U.heap L ∧ B.locs = P.locs ++ L ∧ B.cells = P.cells + 1 ∧ B.slots = P.slots + cs.length) := by
  obtain ⟨A, K1, K2, K3, K4, K5, K6⟩ := K
  have e : A.slots.size = cs.length := K3.trans hlen
  have hat : ∀ (i : Nat) (hi : i < cs.length), A.slots[i]? = some (.int cs[i]) := fun i hi => by rw [K5 i (by omega)]; simp [List.getD_eq_getElem?_getD, hi]
  have hcv : ∀ (i : Nat) (hi : i < cs.length), cv A i = cs[i] := fun i hi => by unfold cv; rw [hat i hi]
  have hty : Typed .char A := fun i v hv => by
    have hi : i < A.slots.size := (Array.getElem?_eq_some_iff.mp hv).1
    have q := K5 i hi
    rw [hv] at q
    rw [Option.some.inj q]
    exact K6 i hi
  refine Back.mono (back hZ hw wi E V C K1 hty S hz (by omega) (by omega) (fun i hi => by rw [hcv i (by omega)]; exact hall _ (List.getElem_mem _)) hfr hlo) (fun P a hp => ⟨hp.1, hp.2.1, hp.2.2.1, by rw [e]; exact hp.2.2.2⟩) (fun P a v B hp hq => ?_)
  obtain ⟨L, ⟨q1, q2, q3, q4, q5, q6, q7, ⟨V', v1, v2, v3, v4, v5⟩, q9⟩, hl, hc, hs⟩ := hq
  refine ⟨L, ⟨q1, q2, q3, q4, q5, q6, q7, ⟨V'.cls, v3, V', v1, rfl, by rw [v4, e, hlen], K4, fun i hi => ?_, fun i hi => ?_⟩, q9⟩, hl, hc, by rw [hs, e]⟩
  · have hi' : i < cs.length := by omega
    rw [v5 i (by omega), hcv i hi']; simp [List.getD_eq_getElem?_getD, hi']
  · have hi' : i < cs.length := by omega
    simp only [List.getD_eq_getElem?_getD, List.getElem?_map, List.getElem?_eq_getElem hi', Option.map_some, Option.getD_some]
    exact fits_lo8 _
end StrChars.Road
namespace StrChars.Road
open Jvm Sem ClassFile Op Lib Jvm.Stand Jvm.Free Jvm.Free.XT
/-- WHAT COMES BACK, in the writer's own shape -/
def QV (Z : State) (x : Addr) (N : Int32) (bs : List Int32) (h : Heap) (n0 : Nat) (v : Option Value) (h' : Heap) (L : List Loc) : Prop := v = none ∧ RoadKit.Fr n0 L ∧ RoadKit.Keep h h' [x] ∧ RoadKit.Exa Z h' x ST ∧ RoadKit.Fld Z h' x ST "coder" "B" (.int 0) ∧
  ∃ (t : Addr) (kb : ClassId), n0 ≤ t ∧ h.size ≤ t ∧ ¬ t = x ∧ RoadKit.Fld Z h' x ST "value" "[B" (.ref t) ∧ RoadKit.Arv Z h' t kb .byte N (bs.map Value.int) (.int 0)
/-- **new String(chars) AT A CALL, FOR THE WRITER**: a char[] of n known ints, each 0 to 255 -/
theorem backV {p : Program} {l : Launch} {e : Env} {R : Room} {s : State} {args : Array Value} {below : List Frame} {len W : Nat} {Z : State} {a0 : Array Value} {h : Heap} (hZ : Z.Warmed39 s.vm) (hw : ∀ d ∈ words, d.before a0 Z = true) {kI : Nat} (wi : (Jvm.Cond.instantiable ST kI).before a0 Z = true)
    {x b : Addr} {kC : ClassId} {cs bs : List Int32} {d v0 c0 : Value} {z N : Int32} {n n0 : Nat} (hx0 : n0 ≤ x) (hh0 : n0 ≤ h.size) (E : RoadKit.Exa Z h x ST) (V : RoadKit.Fld Z h x ST "value" "[B" v0) (C : RoadKit.Fld Z h x ST "coder" "B" c0) (K : RoadKit.Arv Z h b kC .char N (cs.map Value.int) d) (S : RoadKit.Sta Z h ST "COMPACT_STRINGS" "Z" (.int z)) (hz : ¬ z = 0)
    (hn : cs.length = n) (hN : N = Int32.ofNat n) (l0 : 0 < n) (l2 : n ≤ 4000) (hp : ∀ c ∈ cs, ¬ c < 0 ∧ ¬ (255 : Int32) < c) (hb : bs = cs.map (fun c => c.toInt8.toInt32)) (hfr : 4 ≤ R.frames) (hlo : W + 65 ≤ R.locals) :
    Back l R p e below s args (⟨"java/lang/String", "<init>", "([C)V"⟩ : MethodName) len W (fun P a => a = #[.ref x, .ref b] ∧ P.U.heap = h ∧ P.cells + 1 ≤ R.cells ∧ P.slots + n ≤ R.slots)
      (fun P _ v B => ∃ L, QV Z x N bs h n0 v B.U.heap L ∧ B.locs = P.locs ++ L ∧ B.cells = P.cells + 1 ∧ B.slots = P.slots + n) := by
  subst hn hN hb
  refine Back.mono (backArv hZ hw wi E V C K S hz (n32 (by omega)) l0 (by omega) (fun c hc => (hp c hc).2) hfr hlo) (fun P a hp => hp) (fun P a v B hp hq => ?_)
  obtain ⟨L, ⟨q1, q2, q3, q4, q5, q6, q7, ⟨kb, v1, v2⟩, q9⟩, hl, hc, hs⟩ := hq
  exact ⟨L, ⟨q1, fun y hy => by rw [q2 y hy]; exact hx0, q3, q5, q7, h.size, kb, hh0, Nat.le_refl _, Nat.ne_of_gt E.lt, q6, by rw [List.map_map]; exact v2⟩, hl, hc, hs⟩
end StrChars.Road
end Jvm.Pilot.@@N@@
namespace Jvm.Own
open Sem ClassFile Op Lib Bundle Jvm.Stand Jvm.Free Jvm.LawKit Jvm.RoadKit
section Start
variable {args : Array Value} {Z : State} {t u : Term} {a : Addr} {cl : Cell} {ty : FieldType} {z : Int32} {vs : List Value} {dv : Value}
theorem eqI {n : Int32} (h : (Cond.eq t (.int n)).value args Z none Z [] = some true) : t.eval args Z none [] Z = some (.int n) := Cond.eq_int (beq_iff_eq.mpr h) rfl
theorem eqRef (h : (Cond.eq t u).value args Z none Z [] = some true) (hu : u.eval args Z none [] Z = some (.ref a)) : t.eval args Z none [] Z = some (.ref a) := by
  obtain ⟨x, y, hx, hy, -, k2⟩ := cmp_v (Or.inl h)
  cases hu.symm.trans hy
  have q := gotT (eq_R hx hu k2.2 rfl) h
  rw [hx, q]
theorem arvStart (hf : Fit Z) (A : Arr Z Z.heap a cl ty) (et : t.eval args Z none [] Z = some (.ref a)) (hlen : (Term.length t).eval args Z none [] Z = some (.int z)) (hz : ¬ z < 0) (hl : z.toNatClampNeg = vs.length) (H : HasL cl 0 vs) : Arv Z Z.heap a cl.cls ty z vs dv := by
  have ha : Z.arrayAt? a = some cl := Arr.fin (Vm.Alike.refl _) A
  by_cases q : cl.slots.size < 2 ^ 31
  · have e := (len_f et ha q).symm.trans hlen
    exact Arv.start hf A q (by simpa using e) hz hl H
  · exfalso
    simp only [Term.eval, et, ha, Option.bind_eq_bind, Option.bind_some] at hlen
    rw [if_neg q] at hlen
    cases hlen
theorem elemAt {j : Int32} {v : Value} (A : Arr Z Z.heap a cl ty) (et : t.eval args Z none [] Z = some (.ref a)) (h : (Term.elem t (.int j)).eval args Z none [] Z = some v) : cl.slots[j.toNatClampNeg]? = some v := (elem_in h et rfl A.1).2
end Start
end Jvm.Own
namespace Jvm.Own
open Sem ClassFile Op Lib Bundle Jvm.Stand Jvm.Free Jvm.LawKit Jvm.RoadKit
section Walk3
variable {p : Program} {l : Launch} {e : Env} {R : Room} {s : State} {m : MethodId} {args : Array Value} {below : List Frame} {meth : Method} {c : Code} {T T' : State} {cells slots : Nat} {Z : State} {a0 : Array Value} {EL : List (String × Nat)} {h h' : Heap} {vm0 vm1 : Vm} {y : MethodName} {bytes : ByteArray} {ml : Nat} {ret : Option FieldType} {KC KS : Nat} {Q : Option Value → Heap → Prop} {g g' : JFrame} {pc : Nat} {Ls : Array Slot} {st rest : List Value}
/-- anewarray -/
theorem Wk.newref (W : Wk p l e R s m args below meth c Z a0 EL y bytes ml ret T h vm0 cells slots) {C : String} {index : Nat} (w1 : (Cond.classLink y.cls index C).before a0 Z = true) (w2 : (Cond.arrayOver (.object C)).before a0 Z = true) {n : Int32} (hd : decode bytes pc = .ok (.anewarray index, 3)) (hn : ¬ n < 0) {cap : Nat} (hcap : n.toNatClampNeg ≤ cap) (hb : cap * 8 ≤ 536870912) (hc : cells + 1 ≤ R.cells) (hl : slots + cap ≤ R.slots)
    (K : ∀ T' h' a k, a = h.size → Wk p l e R s m args below meth c Z a0 EL y bytes ml ret T' h' vm0 (cells + 1) (slots + cap) → Ext h h' → Arv Z h' a k (.object C) n [] .null → Ovr Z k C → Go p e below s Z EL KC KS Q T' (mkF m (pc + 3) Ls (.ref a :: rest))) : Go p e below s Z EL KC KS Q T (mkF m pc Ls (.int n :: rest)) := by
  have hx := W.hx; have hd' := W.d hd
  obtain ⟨locs, X, hT, hZ, hown, ⟨k0, hS, hk⟩, hC, hF, hE, r⟩ := W
  obtain ⟨T', h', cA, X', e', E, A, O, st⟩ := RoadKit.newR X hx hZ hown w1 w2 hT (g := mkF m pc Ls (.int n :: rest)) rfl hd' rfl hn hcap hb hc hl
  exact Go.step st (K T' h' _ cA rfl ⟨locs, X', e', hZ, hown, ⟨k0, hS, Nat.le_trans hk E.1⟩, hC.trans (CHr.ext E hC.1), hF, ext_trans hE E, r⟩ E (Arv.new A hn) O)
theorem Wk.aastore (W : Wk p l e R s m args below meth c Z a0 EL y bytes ml ret T h vm0 cells slots) {a b : Addr} {k : ClassId} {C : String} {n j : Int32} {vs : List Value} {dv : Value} (V : Arv Z h a k (.object C) n vs dv) (O : Ovr Z k C) (I : Ins Z h b C true) (i : Nat) (hj : j.toNatClampNeg = i) (hi : i < vs.length) (hin : ¬ j < 0 ∧ j < n) (ha : Z.heap.size ≤ a) (hd : decode bytes pc = .ok (.aastore, 1))
    (K : ∀ T' h', Wk p l e R s m args below meth c Z a0 EL y bytes ml ret T' h' vm0 cells slots → Keep h h' [a] → Arv Z h' a k (.object C) n (vs.set i (.ref b)) dv → Go p e below s Z EL KC KS Q T' (mkF m (pc + 1) Ls rest)) : Go p e below s Z EL KC KS Q T (mkF m pc Ls (.ref b :: .int j :: .ref a :: rest)) := by
  have S : Safe Z EL vm0 h a := Safe.arv W.hZ.alike V (by simp)
  obtain ⟨cl, A, q1, S1, q3, H, G⟩ := id V
  refine W.wrote (sl := j.toNatClampNeg) (v := .ref b) ha S (fun locs X => ?_) (fun T' h' W' Ww => K T' h' W' (Keep.of_wr Ww) (Arv.set A q1 S1 q3 H G rfl Ww i hj hi))
  obtain ⟨_, -, hT, hZ, -⟩ := id W
  exact RoadKit.stR X W.hx hZ hT A (inb_of S1 hin) rfl (Sto.ofV A q1 O I) (g := mkF m pc Ls (.ref b :: .int j :: .ref a :: rest)) rfl rfl (W.d hd)
theorem Wk.ldcF (W : Wk p l e R s m args below meth c Z a0 EL y bytes ml ret T h vm0 cells slots) {index : Nat} {v : UInt32} (w : (Cond.constantFloat y.cls index v).before a0 Z = true) (hd : decode bytes pc = .ok (.ldc index, 2)) (K : Go p e below s Z EL KC KS Q T (mkF m (pc + 2) Ls (.float v :: rest))) : Go p e below s Z EL KC KS Q T (mkF m pc Ls rest) := by
  obtain ⟨_, X, -, hZ, hown, -⟩ := id W
  exact Go.step (X.ldcFloatC W.hx hown (mvT hZ w) (g := mkF m pc Ls rest) rfl (W.d hd)) K
theorem Wk.privat (W : Wk p l e R s m args below meth c Z a0 EL y bytes ml ret T h vm0 cells slots) {index : Nat} {y' : MethodName} {D : String} {bytes' : ByteArray} {ml' : Nat} {ret' : Option FieldType} {rm : Room} {as' : Array Value} {Qc : Option Value → Heap → Prop} {Wd : Nat}
    (wl : (Cond.methodLink y.cls index y').before a0 Z = true) (wi : (Cond.instanceMethod y').before a0 Z = true) (wsel : (Cond.selects y'.cls y' y').before a0 Z = true) (wp : (Cond.privateMethod y').before a0 Z = true) (wz : (Cond.initialized y'.cls).before a0 Z = true) (wc : (Cond.code y' bytes' ml' ret').before a0 Z = true) (hy : y'.cls ≠ "java/lang/invoke/MethodHandle" ∧ y'.cls ≠ "java/lang/invoke/VarHandle")
    (C : Con l Z EL y' bytes' ml' ret' [] rm as' h Qc) (hfr : rm.frames + 1 ≤ R.frames) (hlo : Wd + (ml' + 11) + rm.locals ≤ R.locals) (a : Addr) (E : Exa Z h a D) (argsL : List Value) (rest : List Value) (has : (.ref a :: argsL).toArray = as') {ps : List FieldType} {r' : Option FieldType} (hdesc : parseMethodDescriptor y'.desc = some ⟨ps, r'⟩) (hlen : argsL.length = ps.length) (hsz : Ls.size = ml) (hst : st = argsL.reverse ++ .ref a :: rest) (hW : (rest.map fun v => v.category).sum ≤ Wd)
    (hd : decode bytes pc = .ok (.invokevirtual index, 3)) (hc : cells + rm.cells ≤ R.cells) (hs : slots + rm.slots ≤ R.slots)
    (K : ∀ v T' h' vm1, Wk p l e R s m args below meth c Z a0 EL y bytes ml ret T' h' vm1 (cells + rm.cells) (slots + rm.slots) → Qc v h' → CHr Z EL vm0 h vm1 h' → Go p e below s Z EL KC KS Q T' (mkF m (pc + 3) Ls (v.toList ++ rest))) : Go p e below s Z EL KC KS Q T (mkF m pc Ls st) := by
  have bk := W.back (len := 3) (Wd := Wd) C wc wz hfr hlo
  have hx := W.hx; have hd' := W.d hd
  obtain ⟨locs, X, hT, hZ, hown, -, -, hF, -, -, -, hml, -⟩ := id W
  obtain ⟨cE, e1, e2⟩ := E.cell
  obtain ⟨v, vm₁, B, -, X', h2, hg, ⟨L, hq, hl, hcc, hss, hC'⟩, stp⟩ := X.privateBackS hx hown (mvT hZ wl) (mvT hZ wi) (mvT hZ wsel) (Cond.privateMethod_at (args := args) (mvT hZ wp)) (mvT hZ wc) hy bk (g := mkF m pc Ls st) rfl (by rw [hml]; exact hsz) (Steps.refl _) (a := a) (by rw [hT]; exact e1) e2 (argsL := argsL) (rest := rest) (lenOf hdesc hlen) hst (by show 2 * 0 + _ ≤ _; omega) hd' (fun vm₁ _ => ⟨has, hT, hc, hs⟩)
  exact Go.step (fun _ k => stp.trans k) (K v B.U B.U.heap B.U.vm (W.behind (rm := rm) (Qc := Qc) hF X' h2 hg hl hq hcc hss hC') hq.1 hC')
end Walk3
section Facts3
variable {Z : State} {h h' : Heap} {a o t : Addr} {C : String} {a0 : Array Value} {cs : List Int32}
theorem Str.keepL {n n' : Nat} {k : ClassId} {ty : FieldType} {z : Int32} {vs : List Value} {d : Value} (F : Str Z h a cs) (K : Keep h h' [o, t]) (E : Exa Z h o C) (V : Arv Z h t k ty z vs d) (hn : C ≠ "java/lang/String") (ht : FieldType.byte ≠ ty) (wi : (Cond.instantiable C n).before a0 Z = true) (ws : (Cond.instantiable "java/lang/String" n').before a0 Z = true) : Str Z h' a cs := by
  obtain ⟨t', kb, q1, q2, q3, q4, r⟩ := F
  have n1 : a ≠ o := fun q => (Exa.ne E q1 hn) q.symm
  have n2 : t' ≠ o := fun q => (Exa.neArv E q4 wi) q.symm
  have m1 : a ≠ t := Exa.neArv q1 V ws
  have m2 : t' ≠ t := arv_sort q4 V ht
  exact ⟨t', kb, q1.keep K, q2.keep K (ninS n1 (nin1 m1)), q3.keep K (ninS n1 (nin1 m1)), q4.keep K (ninS n2 (nin1 m2)), r⟩
theorem shr0 (z : Int32) : z >>> ((0 : Int32) &&& 31) = z := by
  apply Int32.toBitVec_inj.mp
  simp [Int32.toBitVec_shiftRight]
theorem mask3 (x : Int32) : x &&& (3 : Int32) = 0 ∨ x &&& (3 : Int32) = 1 ∨ x &&& (3 : Int32) = 2 ∨ x &&& (3 : Int32) = 3 := by
  have t : ∀ k : Fin 4, (Int32.ofNat k.val) = 0 ∨ (Int32.ofNat k.val) = 1 ∨ (Int32.ofNat k.val) = 2 ∨ (Int32.ofNat k.val) = 3 := by decide +kernel
  obtain ⟨j, hj, e⟩ := maskN 3 3 rfl x
  rw [e]; exact t ⟨j, by omega⟩
end Facts3
end Jvm.Own
namespace Jvm.Pilot.@@N@@
open Jvm Jvm.ClassFile Sem Op Lib Jvm.Free Jvm.Stand Jvm.LawKit Jvm.RoadKit Bundle Jvm.Own Jvm.Pilot.@@N@@.Jvm.D
/-- what every body of this claim may lean on -/
def Ctx (Z : State) (a0 : Array Value) (G1 : Int32) : Prop := (∀ d ∈ tables_1, d.before a0 Z = true) ∧ Sta Z Z.heap "java/lang/String" "COMPACT_STRINGS" "Z" (.int G1) ∧ ¬ G1 = 0 ∧ EW Z a0 consts_1
theorem Ctx.w {Z : State} {a0 : Array Value} {G1 : Int32} (X : Ctx Z a0 G1) (i : Nat) {d : Jvm.Cond} (q : tables_1[i]? = some d) : d.before a0 Z = true := X.1 d (List.mem_of_getElem? q)
theorem Ctx.el {Z : State} {a0 : Array Value} {G1 : Int32} (X : Ctx Z a0 G1) : EW Z a0 consts_1 := X.2.2.2
theorem Ctx.ws {Z : State} {a0 : Array Value} {G1 : Int32} (X : Ctx Z a0 G1) : ∀ a ∈ Bundle.stringAtoms, a.before a0 Z = true := fun d hd => X.1 d ((by decide +kernel : ∀ d ∈ Bundle.stringAtoms, d ∈ tables_1) d hd)
theorem pd_0 : parseMethodDescriptor "([CIILjava/lang/Void;)V" = some ⟨[(.array .char), .int, .int, (.object "java/lang/Void")], none⟩ := by decide +kernel
theorem pd_1 : parseMethodDescriptor "(C)Z" = some ⟨[.char], some .boolean⟩ := by decide +kernel
theorem pd_2 : parseMethodDescriptor "(C)[B" = some ⟨[.char], some (.array .byte)⟩ := by decide +kernel
theorem pd_3 : parseMethodDescriptor "([BB)V" = some ⟨[(.array .byte), .byte], none⟩ := by decide +kernel
theorem pd_4 : parseMethodDescriptor "([C)V" = some ⟨[(.array .char)], none⟩ := by decide +kernel
theorem pd_5 : parseMethodDescriptor "(C)Ljava/lang/String;" = some ⟨[.char], some (.object "java/lang/String")⟩ := by decide +kernel
theorem pd_6 : parseMethodDescriptor "()V" = some ⟨[], none⟩ := by decide +kernel
theorem pd_7 : parseMethodDescriptor "(IILjava/util/function/BiFunction;)I" = some ⟨[.int, .int, (.object "java/util/function/BiFunction")], some .int⟩ := by decide +kernel
theorem pd_8 : parseMethodDescriptor "(II)I" = some ⟨[.int, .int], some .int⟩ := by decide +kernel
theorem pd_9 : parseMethodDescriptor "(I)Ljava/lang/Object;" = some ⟨[.int], some (.object "java/lang/Object")⟩ := by decide +kernel
theorem pd_10 : parseMethodDescriptor "(I)[Ljava/lang/Object;" = some ⟨[.int], some (.array (.object "java/lang/Object"))⟩ := by decide +kernel
theorem pd_11 : parseMethodDescriptor "()[Ljava/lang/Object;" = some ⟨[], some (.array (.object "java/lang/Object"))⟩ := by decide +kernel
theorem pd_12 : parseMethodDescriptor "(Ljava/lang/Object;[Ljava/lang/Object;I)V" = some ⟨[(.object "java/lang/Object"), (.array (.object "java/lang/Object")), .int], none⟩ := by decide +kernel
theorem pd_13 : parseMethodDescriptor "()B" = some ⟨[], some .byte⟩ := by decide +kernel
theorem pd_14 : parseMethodDescriptor "()I" = some ⟨[], some .int⟩ := by decide +kernel
theorem pd_15 : parseMethodDescriptor "([BI[BII)I" = some ⟨[(.array .byte), .int, (.array .byte), .int, .int], some .int⟩ := by decide +kernel
theorem pd_16 : parseMethodDescriptor "(Ljava/lang/String;I)Z" = some ⟨[(.object "java/lang/String"), .int], some .boolean⟩ := by decide +kernel
theorem pd_17 : parseMethodDescriptor "(Ljava/lang/String;)Z" = some ⟨[(.object "java/lang/String")], some .boolean⟩ := by decide +kernel
theorem pd_18 : parseMethodDescriptor "(Ljava/lang/Object;)Z" = some ⟨[(.object "java/lang/Object")], some .boolean⟩ := by decide +kernel
theorem pd_19 : parseMethodDescriptor "(I)Ljava/lang/String;" = some ⟨[.int], some (.object "java/lang/String")⟩ := by decide +kernel
theorem pd_20 : parseMethodDescriptor "(Ljava/util/List;Ljava/util/Set;Ljava/util/Set;)V" = some ⟨[(.object "java/util/List"), (.object "java/util/Set"), (.object "java/util/Set")], none⟩ := by decide +kernel
theorem pd_21 : parseMethodDescriptor "([Ljava/lang/String;)Ljava/util/List;" = some ⟨[(.array (.object "java/lang/String"))], some (.object "java/util/List")⟩ := by decide +kernel
theorem pd_22 : parseMethodDescriptor "(Ljava/util/List;IILjava/lang/String;)Z" = some ⟨[(.object "java/util/List"), .int, .int, (.object "java/lang/String")], some .boolean⟩ := by decide +kernel
theorem pn_0 : plainName "java/lang/String" = true := by first | (simp [plainName, overriddenIn]; done) | decide +kernel
theorem pn_1 : plainName "java/lang/StringLatin1" = true := by first | (simp [plainName, overriddenIn]; done) | decide +kernel
theorem pn_2 : plainName "com/example/hataraki/hataraki/cli/OptionsOperandsPinLaw" = true := by first | (simp [plainName, overriddenIn]; done) | decide +kernel
theorem pn_3 : plainName "java/util/AbstractCollection" = true := by first | (simp [plainName, overriddenIn]; done) | decide +kernel
theorem pn_4 : plainName "java/util/AbstractMap" = true := by first | (simp [plainName, overriddenIn]; done) | decide +kernel
theorem pn_5 : plainName "java/util/AbstractSet" = true := by first | (simp [plainName, overriddenIn]; done) | decide +kernel
theorem pn_6 : plainName "java/util/AbstractList" = true := by first | (simp [plainName, overriddenIn]; done) | decide +kernel
theorem pn_7 : plainName "java/util/ArrayList" = true := by first | (simp [plainName, overriddenIn]; done) | decide +kernel
theorem pn_8 : plainName "java/util/HashMap" = true := by first | (simp [plainName, overriddenIn]; done) | decide +kernel
theorem pn_9 : plainName "java/util/HashSet" = true := by first | (simp [plainName, overriddenIn]; done) | decide +kernel
theorem pn_10 : plainName "jdk/internal/util/Preconditions" = true := by first | (simp [plainName, overriddenIn]; done) | decide +kernel
theorem pn_11 : plainName "java/util/Objects" = true := by first | (simp [plainName, overriddenIn]; done) | decide +kernel
theorem pn_12 : plainName "jdk/internal/util/ArraysSupport" = true := by first | (simp [plainName, overriddenIn]; done) | decide +kernel
theorem pn_13 : plainName "com/example/hataraki/hataraki/cli/Options" = true := by first | (simp [plainName, overriddenIn]; done) | decide +kernel
def NewQ (Z : State) (h : Heap) (a : Addr) (cs : List Int32) (v : Option Value) (h' : Heap) (L : List Loc) : Prop := v = none ∧ Fr Z.heap.size L ∧ Keep h h' [a] ∧ Str Z h' a cs
theorem bk_new {p : Program} {l : Launch} {e : Env} {R : Room} {s : State} {args : Array Value} {below : List Frame} {Z : State} {a0 : Array Value} {G1 : Int32} {vm0 : Vm} {h : Heap} {a b : Addr} {cs : List Int32} {kC : ClassId} {N : Int32} {d : Value} {Wd n : Nat} (X : Ctx Z a0 G1) (hZ : Z.Warmed39 (s.setVm vm0).vm) (hE : Ext Z.heap h) (ga : Z.heap.size ≤ a) (A : Exa Z h a "java/lang/String") (FV : Fld Z h a "java/lang/String" "value" "[B" .null) (FC : Fld Z h a "java/lang/String" "coder" "B" (.int (0 : Int32))) (V : Arv Z h b kC .char N (cs.map Value.int) d)
    (hn : cs.length = n) (hN : N = Int32.ofNat n) (l0 : 0 < n) (l2 : n ≤ 4000) (hp : ∀ c ∈ cs, Sm c) (hfr : 4 ≤ R.frames) (hlo : Wd + 65 ≤ R.locals) :
    Back l R p e below (s.setVm vm0) args (⟨"java/lang/String", "<init>", "([C)V"⟩ : MethodName) 3 Wd (fun P a' => a' = #[.ref a, .ref b] ∧ P.U.heap = h ∧ P.cells + 1 ≤ R.cells ∧ P.slots + n ≤ R.slots)
      (fun P _ v B => ∃ L, NewQ Z h a cs v B.U.heap L ∧ B.locs = P.locs ++ L ∧ B.cells = P.cells + 1 ∧ B.slots = P.slots + n) := by
  refine Back.mono (StrChars.Road.backV hZ (fun d hd => X.1 d ((by decide +kernel : ∀ d ∈ StrChars.Road.words, d ∈ tables_1) d hd)) (kI := 4) (X.w 5 rfl) (bs := cs.map (fun c => c.toInt8.toInt32)) (n0 := Z.heap.size) ga hE.1 A FV FC V (X.2.1.ext hE) X.2.2.1 hn hN l0 l2 hp rfl hfr hlo) (fun P a hp => hp) (fun P a v B hp' hq => ?_)
  obtain ⟨L, ⟨q1, q2, q3, q4, q5, t, kb, -, -, -, q6, q7⟩, r⟩ := hq
  subst hn hN
  exact ⟨L, ⟨q1, q2, q3, t, kb, q4, q6, q5, by rw [List.map_map] at q7; exact q7, hp, l2⟩, r⟩

theorem de2_0 : decode jdk_42_method_149_code 0 = .ok (.aload_n 0, 1) := by decide +kernel
theorem de2_1 : decode jdk_42_method_149_code 1 = .ok (.invokespecial 1, 3) := by decide +kernel
theorem de2_4 : decode jdk_42_method_149_code 4 = .ok (.iload_n 3, 1) := by decide +kernel
theorem de2_5 : decode jdk_42_method_149_code 5 = .ok (.ifCond .ne 22, 3) := by decide +kernel
theorem de2_8 : decode jdk_42_method_149_code 8 = .ok (.aload_n 0, 1) := by decide +kernel
theorem de2_9 : decode jdk_42_method_149_code 9 = .ok (.ldc 7, 2) := by decide +kernel
theorem de2_11 : decode jdk_42_method_149_code 11 = .ok (.getfield 9, 3) := by decide +kernel
theorem de2_14 : decode jdk_42_method_149_code 14 = .ok (.putfield 9, 3) := by decide +kernel
theorem de2_17 : decode jdk_42_method_149_code 17 = .ok (.aload_n 0, 1) := by decide +kernel
theorem de2_18 : decode jdk_42_method_149_code 18 = .ok (.ldc 7, 2) := by decide +kernel
theorem de2_20 : decode jdk_42_method_149_code 20 = .ok (.getfield 15, 3) := by decide +kernel
theorem de2_23 : decode jdk_42_method_149_code 23 = .ok (.putfield 15, 3) := by decide +kernel
theorem de2_26 : decode jdk_42_method_149_code 26 = .ok (.return_, 1) := by decide +kernel
theorem efe2 (m : MethodId) (x0 x1 : Addr) : entryFrame m #[(.ref x0), (.ref x1), (.int (0 : Int32)), (.int (0 : Int32)), .null] 6 = mkF m 0 #[.val (.ref x0), .val (.ref x1), .val (.int (0 : Int32)), .val (.int (0 : Int32)), .val .null, .unset] [] := by first | (simp [entryFrame, mkF, argsToLocals, Value.category]; done) | rfl
set_option maxRecDepth 65536 in
set_option maxHeartbeats 40000000 in
theorem c_e2 {l : Launch} {Z : State} {a0 : Array Value} {G1 : Int32} (X : Ctx Z a0 G1) (a b : Addr) (h0 : Heap) (hE : Ext Z.heap h0) (ga : Z.heap.size ≤ a) (A : Exa Z h0 a "java/lang/String") (FV : Fld Z h0 a "java/lang/String" "value" "[B" .null) (FC : Fld Z h0 a "java/lang/String" "coder" "B" (.int (0 : Int32))) :
    Con l Z consts_1 (⟨"java/lang/String", "<init>", "([CIILjava/lang/Void;)V"⟩ : MethodName) jdk_42_method_149_code 6 none [] ({ frames := 1, cells := 4, slots := 8, locals := 12 } : Room) #[(.ref a), (.ref b), (.int (0 : Int32)), (.int (0 : Int32)), .null] h0 (fun v h => v = none ∧ Keep h0 h [a] ∧ Str Z h a []) := by
  refine Con.intro (plainFor_of_name pn_0) hE X.el ?_
  intro p e s m below meth c T W
  refine Go.cast (efe2 m a b) ?_
  refine Go.step (fun _ k => XS.aloadN W.here W.hx rfl (W.d de2_0) rfl rfl k) ?_
  show Go _ _ _ _ _ _ _ _ _ _ (mkF m 1 #[.val (.ref a), .val (.ref b), .val (.int (0 : Int32)), .val (.int (0 : Int32)), .val .null, .unset] [(.ref a)])
  refine W.initO (X.w 15 rfl) (X.w 16 rfl) (X.w 17 rfl) rfl de2_1 (by decide) (Wd := 0) (Nat.le_of_eq rfl) (by decide) ?_
  intro T W
  show Go _ _ _ _ _ _ _ _ _ _ (mkF m 4 #[.val (.ref a), .val (.ref b), .val (.int (0 : Int32)), .val (.int (0 : Int32)), .val .null, .unset] [])
  refine Go.step (fun _ k => XS.iloadN W.here W.hx rfl (W.d de2_4) rfl k) ?_
  show Go _ _ _ _ _ _ _ _ _ _ (mkF m 5 #[.val (.ref a), .val (.ref b), .val (.int (0 : Int32)), .val (.int (0 : Int32)), .val .null, .unset] [(.int (0 : Int32))])
  refine Go.step (fun _ k => XS.ifNo W.here W.hx rfl (W.d de2_5) rfl ((if0 _ _).trans (teq (rfl : (0 : Int32) = 0)).2) k) ?_
  show Go _ _ _ _ _ _ _ _ _ _ (mkF m 8 #[.val (.ref a), .val (.ref b), .val (.int (0 : Int32)), .val (.int (0 : Int32)), .val .null, .unset] [])
  refine Go.step (fun _ k => XS.aloadN W.here W.hx rfl (W.d de2_8) rfl rfl k) ?_
  show Go _ _ _ _ _ _ _ _ _ _ (mkF m 9 #[.val (.ref a), .val (.ref b), .val (.int (0 : Int32)), .val (.int (0 : Int32)), .val .null, .unset] [(.ref a)])
  refine W.ldcR (X.w 18 rfl) X.ws (List.mem_of_getElem? (i := 1) rfl) (vs := []) (z := 0) ⟨by decide +kernel, by decide +kernel⟩ (by decide) rfl de2_9 (n := 0) (by decide) (by decide) (by decide) (by decide) ?_
  intro T h1 vm1 a1 b1 k1 W E1 C1 A1 A2 A3 A4 N1
  show Go _ _ _ _ _ _ _ _ _ _ (mkF m 11 #[.val (.ref a), .val (.ref b), .val (.int (0 : Int32)), .val (.int (0 : Int32)), .val .null, .unset] [(.ref a1), (.ref a)])
  refine W.getF (host := "") (Or.inl (X.w 24 rfl)) Via.refl A3 de2_11 ?_
  intro T W
  show Go _ _ _ _ _ _ _ _ _ _ (mkF m 14 #[.val (.ref a), .val (.ref b), .val (.int (0 : Int32)), .val (.int (0 : Int32)), .val .null, .unset] [(.ref b1), (.ref a)])
  have B1 := A.ext E1
  have V1 := FV.ext E1
  have Cd1 := FC.ext E1
  have S1 : Safe Z consts_1 vm1 h1 a := Safe.blank W.hZ.alike B1 V1
  have H1 := W.chr.1
  refine W.putF (host := "") (Or.inl (X.w 24 rfl)) Via.refl V1 B1 (Or.inr ⟨(X.w 20 rfl), rfl, rfl⟩) (X.w 5 rfl) (ty := .array .byte) (by decide) rfl rfl ga S1 de2_14 ?_
  intro T h2 W Wr1 V2
  show Go _ _ _ _ _ _ _ _ _ _ (mkF m 17 #[.val (.ref a), .val (.ref b), .val (.int (0 : Int32)), .val (.int (0 : Int32)), .val .null, .unset] [])
  have S2 := Safe.wr Wr1 S1 H1 S1
  have ne1 : a ≠ b1 := Exa.neArv B1 A4 (X.w 5 rfl)
  have B2 := B1.wr Wr1
  have Cd2 := Cd1.other Wr1 (Or.inr (slot_ne (Or.inr (X.w 21 rfl)) (Or.inr (X.w 20 rfl)) (by decide) (t := .byte) (t' := .array .byte) (by decide) (by decide)))
  have Av2 := A4.other Wr1 (Ne.symm ne1)
  refine Go.step (fun _ k => XS.aloadN W.here W.hx rfl (W.d de2_17) rfl rfl k) ?_
  show Go _ _ _ _ _ _ _ _ _ _ (mkF m 18 #[.val (.ref a), .val (.ref b), .val (.int (0 : Int32)), .val (.int (0 : Int32)), .val .null, .unset] [(.ref a)])
  refine W.ldcR (X.w 18 rfl) X.ws (List.mem_of_getElem? (i := 1) rfl) (vs := []) (z := 0) ⟨by decide +kernel, by decide +kernel⟩ (by decide) rfl de2_18 (n := 0) (by decide) (by decide) (by decide) (by decide) ?_
  intro T h3 vm2 a2 b2 k2 W E2 C2 D1 D2 D3 D4 N2
  show Go _ _ _ _ _ _ _ _ _ _ (mkF m 20 #[.val (.ref a), .val (.ref b), .val (.int (0 : Int32)), .val (.int (0 : Int32)), .val .null, .unset] [(.ref a2), (.ref a)])
  have S3 := C2.safe B2.lt S2
  have B3 := B2.ext E2
  have V3 := V2.ext E2
  have Cd3 := Cd2.ext E2
  have Av3 := Av2.ext E2
  refine W.getF (host := "") (Or.inl (X.w 25 rfl)) Via.refl D2 de2_20 ?_
  intro T W
  show Go _ _ _ _ _ _ _ _ _ _ (mkF m 23 #[.val (.ref a), .val (.ref b), .val (.int (0 : Int32)), .val (.int (0 : Int32)), .val .null, .unset] [(.int (0 : Int32)), (.ref a)])
  refine W.putF (host := "") (Or.inl (X.w 25 rfl)) Via.refl Cd3 B3 (Or.inr ⟨(X.w 21 rfl), rfl, rfl⟩) (X.w 5 rfl) (ty := .byte) (by decide) rfl rfl ga S3 de2_23 ?_
  intro T h4 W Wr2 Cd4
  show Go _ _ _ _ _ _ _ _ _ _ (mkF m 26 #[.val (.ref a), .val (.ref b), .val (.int (0 : Int32)), .val (.int (0 : Int32)), .val .null, .unset] [])
  have V4 := V3.other Wr2 (Or.inr (slot_ne (Or.inr (X.w 20 rfl)) (Or.inr (X.w 21 rfl)) (by decide) (t := .array .byte) (t' := .byte) (by decide) (by decide)))
  refine W.retV de2_26 ⟨rfl, ?_, b1, k1, B3.wr Wr2, V4, Cd4, Av3.other Wr2 (Ne.symm ne1), sm0, Nat.zero_le _⟩ (by decide) (by decide)
  exact ((((Keep.refl h0 [a]).ext E1).wr Wr1 (Or.inl (by simp))).ext E2).wr Wr2 (Or.inl (by simp))
theorem de1_0 : decode jdk_42_method_3_code 0 = .ok (.aload_n 0, 1) := by decide +kernel
theorem de1_1 : decode jdk_42_method_3_code 1 = .ok (.aload_n 1, 1) := by decide +kernel
theorem de1_2 : decode jdk_42_method_3_code 2 = .ok (.iconst 0, 1) := by decide +kernel
theorem de1_3 : decode jdk_42_method_3_code 3 = .ok (.aload_n 1, 1) := by decide +kernel
theorem de1_4 : decode jdk_42_method_3_code 4 = .ok (.arraylength, 1) := by decide +kernel
theorem de1_5 : decode jdk_42_method_3_code 5 = .ok (.aconst_null, 1) := by decide +kernel
theorem de1_6 : decode jdk_42_method_3_code 6 = .ok (.invokespecial 27, 3) := by decide +kernel
theorem de1_9 : decode jdk_42_method_3_code 9 = .ok (.return_, 1) := by decide +kernel
theorem efe1 (m : MethodId) (x0 : Addr) (x1 : Addr) : entryFrame m #[(.ref x0), (.ref x1)] 2 = mkF m 0 #[.val (.ref x0), .val (.ref x1)] [] := by first | (simp [entryFrame, mkF, argsToLocals, Value.category]; done) | rfl
set_option maxRecDepth 65536 in
set_option maxHeartbeats 40000000 in
theorem c_e1 {l : Launch} {Z : State} {a0 : Array Value} {G1 : Int32} (X : Ctx Z a0 G1) (a b : Addr) (kb : ClassId) (vs : List Value) (dv : Value) (h0 : Heap) (hE : Ext Z.heap h0) (ga : Z.heap.size ≤ a) (A : Exa Z h0 a "java/lang/String") (FV : Fld Z h0 a "java/lang/String" "value" "[B" .null) (FC : Fld Z h0 a "java/lang/String" "coder" "B" (.int (0 : Int32))) (V : Arv Z h0 b kb .char (0 : Int32) vs dv) :
    Con l Z consts_1 (⟨"java/lang/String", "<init>", "([C)V"⟩ : MethodName) jdk_42_method_3_code 2 none [] ({ frames := 2, cells := 4, slots := 8, locals := 29 } : Room) #[(.ref a), (.ref b)] h0 (fun v h => v = none ∧ Keep h0 h [a] ∧ Str Z h a []) := by
  refine Con.intro (plainFor_of_name pn_0) hE X.el ?_
  intro p e s m below meth c T W
  have hsz := W.size
  refine Go.cast (efe1 m a b) ?_
  refine Go.step (fun _ k => XS.aloadN W.here W.hx rfl (W.d de1_0) rfl rfl k) ?_
  show Go _ _ _ _ _ _ _ _ _ _ (mkF m 1 #[.val (.ref a), .val (.ref b)] [(.ref a)])
  refine Go.step (fun _ k => XS.aloadN W.here W.hx rfl (W.d de1_1) rfl rfl k) ?_
  show Go _ _ _ _ _ _ _ _ _ _ (mkF m 2 #[.val (.ref a), .val (.ref b)] [(.ref b), (.ref a)])
  refine Go.step (fun _ k => XS.iconst W.here W.hx rfl (W.d de1_2) k) ?_
  show Go _ _ _ _ _ _ _ _ _ _ (mkF m 3 #[.val (.ref a), .val (.ref b)] [(.int (0 : Int32)), (.ref b), (.ref a)])
  refine Go.step (fun _ k => XS.aloadN W.here W.hx rfl (W.d de1_3) rfl rfl k) ?_
  show Go _ _ _ _ _ _ _ _ _ _ (mkF m 4 #[.val (.ref a), .val (.ref b)] [(.ref b), (.int (0 : Int32)), (.ref b), (.ref a)])
  refine W.arraylength V de1_4 ?_
  show Go _ _ _ _ _ _ _ _ _ _ (mkF m 5 #[.val (.ref a), .val (.ref b)] [(.int (0 : Int32)), (.int (0 : Int32)), (.ref b), (.ref a)])
  refine Go.step (fun _ k => XS.aconstNull W.here W.hx rfl (W.d de1_5) k) ?_
  show Go _ _ _ _ _ _ _ _ _ _ (mkF m 6 #[.val (.ref a), .val (.ref b)] [.null, (.int (0 : Int32)), (.int (0 : Int32)), (.ref b), (.ref a)])
  refine W.special rfl (X.w 11 rfl) (X.w 12 rfl) (X.w 6 rfl) (X.w 14 rfl) (by decide) (c_e2 X a b _ W.ext ga A FV FC) (by decide) (Wd := 0) (by decide) a [(.ref b), (.int (0 : Int32)), (.int (0 : Int32)), .null] [] rfl pd_0 rfl rfl rfl (Nat.le_of_eq rfl) de1_6 (by decide) (by decide) ?_
  intro v T h vm W hQ C
  obtain ⟨rfl, hK, hS⟩ := hQ
  show Go _ _ _ _ _ _ _ _ _ _ (mkF m 9 #[.val (.ref a), .val (.ref b)] [])
  exact W.retV de1_9 (⟨rfl, hK, hS⟩) (by decide) (by decide)

theorem dce_0 : decode jdk_43_method_3_code 0 = .ok (.iload_n 0, 1) := by decide +kernel
theorem dce_1 : decode jdk_43_method_3_code 1 = .ok (.sipush 255, 3) := by decide +kernel
theorem dce_4 : decode jdk_43_method_3_code 4 = .ok (.if_icmp .gt 7, 3) := by decide +kernel
theorem dce_7 : decode jdk_43_method_3_code 7 = .ok (.iconst 1, 1) := by decide +kernel
theorem dce_8 : decode jdk_43_method_3_code 8 = .ok (.goto 4, 3) := by decide +kernel
theorem dce_12 : decode jdk_43_method_3_code 12 = .ok (.ireturn, 1) := by decide +kernel
theorem efce (m : MethodId) (x0 : Int32) : entryFrame m #[(.int x0)] 1 = mkF m 0 #[.val (.int x0)] [] := by first | (simp [entryFrame, mkF, argsToLocals, Value.category]; done) | rfl
set_option maxRecDepth 65536 in
set_option maxHeartbeats 40000000 in
theorem c_ce {l : Launch} {Z : State} {a0 : Array Value} {G1 : Int32} (X : Ctx Z a0 G1) (ch : Int32) (h0 : Heap) (hE : Ext Z.heap h0) (t0 : Sm ch) :
    Con l Z consts_1 (⟨"java/lang/StringLatin1", "canEncode", "(C)Z"⟩ : MethodName) jdk_43_method_3_code 1 (some .boolean) [] ({ frames := 0, cells := 0, slots := 0, locals := 0 } : Room) #[(.int ch)] h0 (fun v h => v = some (.int 1) ∧ h0 = h) := by
  refine Con.intro (plainFor_of_name pn_1) hE X.el ?_
  intro p e s m below meth c T W
  have hsz := W.size
  refine Go.cast (efce m ch) ?_
  refine Go.step (fun _ k => XS.iloadN W.here W.hx rfl (W.d dce_0) rfl k) ?_
  show Go _ _ _ _ _ _ _ _ _ _ (mkF m 1 #[.val (.int ch)] [(.int ch)])
  refine Go.step (fun _ k => XS.sipush W.here W.hx rfl (W.d dce_1) k) ?_
  show Go _ _ _ _ _ _ _ _ _ _ (mkF m 4 #[.val (.int ch)] [(.int (255 : Int32)), (.int ch)])
  refine Go.step (fun _ k => XS.icmpNo W.here W.hx rfl (W.d dce_4) rfl (flt t0.2).2.2.1 k) ?_
  show Go _ _ _ _ _ _ _ _ _ _ (mkF m 7 #[.val (.int ch)] [])
  refine Go.step (fun _ k => XS.iconst W.here W.hx rfl (W.d dce_7) k) ?_
  show Go _ _ _ _ _ _ _ _ _ _ (mkF m 8 #[.val (.int ch)] [(.int (1 : Int32))])
  refine Go.step (fun _ k => XS.goto W.here W.hx rfl (pc0 := 8) (pc' := 12) rfl (W.d dce_8) (by decide) (by decide) k) ?_
  show Go _ _ _ _ _ _ _ _ _ _ (mkF m 12 #[.val (.int ch)] [(.int (1 : Int32))])
  exact W.retN (by simp) dce_12 (⟨rfl, rfl⟩) (by decide) (by decide)
theorem dtb_0 : decode jdk_43_method_46_code 0 = .ok (.iconst 1, 1) := by decide +kernel
theorem dtb_1 : decode jdk_43_method_46_code 1 = .ok (.newarray .byte, 2) := by decide +kernel
theorem dtb_3 : decode jdk_43_method_46_code 3 = .ok (.dup, 1) := by decide +kernel
theorem dtb_4 : decode jdk_43_method_46_code 4 = .ok (.iconst 0, 1) := by decide +kernel
theorem dtb_5 : decode jdk_43_method_46_code 5 = .ok (.iload_n 0, 1) := by decide +kernel
theorem dtb_6 : decode jdk_43_method_46_code 6 = .ok (.i2b, 1) := by decide +kernel
theorem dtb_7 : decode jdk_43_method_46_code 7 = .ok (.bastore, 1) := by decide +kernel
theorem dtb_8 : decode jdk_43_method_46_code 8 = .ok (.areturn, 1) := by decide +kernel
theorem eftb (m : MethodId) (x0 : Int32) : entryFrame m #[(.int x0)] 1 = mkF m 0 #[.val (.int x0)] [] := by first | (simp [entryFrame, mkF, argsToLocals, Value.category]; done) | rfl
set_option maxRecDepth 65536 in
set_option maxHeartbeats 40000000 in
theorem c_tb {l : Launch} {Z : State} {a0 : Array Value} {G1 : Int32} (X : Ctx Z a0 G1) (ch : Int32) (h0 : Heap) (hE : Ext Z.heap h0) (t0 : Sm ch) :
    Con l Z consts_1 (⟨"java/lang/StringLatin1", "toBytes", "(C)[B"⟩ : MethodName) jdk_43_method_46_code 1 (some (.array .byte)) [] ({ frames := 0, cells := 1, slots := 1, locals := 0 } : Room) #[(.int ch)] h0 (fun v h => ∃ (a : Addr) (k : ClassId), v = some (.ref a) ∧ Z.heap.size ≤ a ∧ h0.size ≤ a ∧ Keep h0 h [] ∧ Arv Z h a k .byte (1 : Int32) [(.int ch.toInt8.toInt32)] (.int (0 : Int32))) := by
  refine Con.intro (plainFor_of_name pn_1) hE X.el ?_
  intro p e s m below meth c T W
  have hsz := W.size
  refine Go.cast (eftb m ch) ?_
  have KP := Keep.refl h0 []
  refine Go.step (fun _ k => XS.iconst W.here W.hx rfl (W.d dtb_0) k) ?_
  show Go _ _ _ _ _ _ _ _ _ _ (mkF m 1 #[.val (.int ch)] [(.int (1 : Int32))])
  refine W.newarr (X.w 19 rfl) dtb_1 (by decide) (cap := 1) (by decide) (by decide) (by decide) (by decide) ?_
  intro T h b1 kb1 hb1 W Eb1 Vb1 Sfb1
  have sz_b1 : h0.size ≤ b1 := by rw [hb1]; exact KP.1
  have gb1 : Z.heap.size ≤ b1 := by rw [hb1]; exact hsz
  replace KP := KP.ext Eb1
  replace hsz := W.size
  replace Vb1 : Arv Z h b1 kb1 .byte (1 : Int32) [(.int (0 : Int32))] (.int (0 : Int32)) := Vb1.pad (pad_rep [] (.int (0 : Int32)) 1)
  show Go _ _ _ _ _ _ _ _ _ _ (mkF m 3 #[.val (.int ch)] [(.ref b1)])
  refine Go.step (fun _ k => XS.dup W.here W.hx rfl (W.d dtb_3) rfl rfl k) ?_
  show Go _ _ _ _ _ _ _ _ _ _ (mkF m 4 #[.val (.int ch)] [(.ref b1), (.ref b1)])
  refine Go.step (fun _ k => XS.iconst W.here W.hx rfl (W.d dtb_4) k) ?_
  show Go _ _ _ _ _ _ _ _ _ _ (mkF m 5 #[.val (.int ch)] [(.int (0 : Int32)), (.ref b1), (.ref b1)])
  refine Go.step (fun _ k => XS.iloadN W.here W.hx rfl (W.d dtb_5) rfl k) ?_
  show Go _ _ _ _ _ _ _ _ _ _ (mkF m 6 #[.val (.int ch)] [(.int ch), (.int (0 : Int32)), (.ref b1), (.ref b1)])
  refine Go.step (fun _ k => XS.i2b W.here W.hx rfl (W.d dtb_6) rfl k) ?_
  show Go _ _ _ _ _ _ _ _ _ _ (mkF m 7 #[.val (.int ch)] [(.int (ch.toInt8.toInt32)), (.int (0 : Int32)), (.ref b1), (.ref b1)])
  refine W.bastore Vb1 0 rfl (by simp) (by decide) gb1 Sfb1 dtb_7 ?_
  intro T h W K2 Vb1'
  replace KP := KP.otrN K2 sz_b1
  replace hsz := W.size
  replace Vb1 : Arv Z h b1 kb1 .byte (1 : Int32) [(.int (nar .byte (ch.toInt8.toInt32)))] (.int (0 : Int32)) := Vb1'
  show Go _ _ _ _ _ _ _ _ _ _ (mkF m 8 #[.val (.int ch)] [(.ref b1)])
  rw [nar_byte8 t0] at Vb1
  exact W.retR rfl rfl rfl dtb_8 (⟨b1, kb1, rfl, gb1, sz_b1, KP, Vb1⟩) (by decide) (by decide)
theorem dib_0 : decode jdk_42_method_151_code 0 = .ok (.aload_n 0, 1) := by decide +kernel
theorem dib_1 : decode jdk_42_method_151_code 1 = .ok (.invokespecial 1, 3) := by decide +kernel
theorem dib_4 : decode jdk_42_method_151_code 4 = .ok (.aload_n 0, 1) := by decide +kernel
theorem dib_5 : decode jdk_42_method_151_code 5 = .ok (.aload_n 1, 1) := by decide +kernel
theorem dib_6 : decode jdk_42_method_151_code 6 = .ok (.putfield 9, 3) := by decide +kernel
theorem dib_9 : decode jdk_42_method_151_code 9 = .ok (.aload_n 0, 1) := by decide +kernel
theorem dib_10 : decode jdk_42_method_151_code 10 = .ok (.iload_n 2, 1) := by decide +kernel
theorem dib_11 : decode jdk_42_method_151_code 11 = .ok (.putfield 15, 3) := by decide +kernel
theorem dib_14 : decode jdk_42_method_151_code 14 = .ok (.return_, 1) := by decide +kernel
theorem efib (m : MethodId) (x0 x1 : Addr) : entryFrame m #[(.ref x0), (.ref x1), (.int (0 : Int32))] 3 = mkF m 0 #[.val (.ref x0), .val (.ref x1), .val (.int (0 : Int32))] [] := by first | (simp [entryFrame, mkF, argsToLocals, Value.category]; done) | rfl
set_option maxRecDepth 65536 in
set_option maxHeartbeats 40000000 in
theorem c_ib {l : Launch} {Z : State} {a0 : Array Value} {G1 : Int32} (X : Ctx Z a0 G1) (a b : Addr) (kb : ClassId) (cs : List Int32) (h0 : Heap) (hE : Ext Z.heap h0) (ga : Z.heap.size ≤ a) (A : Exa Z h0 a "java/lang/String") (FV : Fld Z h0 a "java/lang/String" "value" "[B" .null) (FC : Fld Z h0 a "java/lang/String" "coder" "B" (.int (0 : Int32))) (V : Arv Z h0 b kb .byte (Int32.ofNat cs.length) (cs.map fun c => Value.int c.toInt8.toInt32) (.int (0 : Int32))) (hp : ∀ c ∈ cs, Sm c) (hl : cs.length ≤ 4000) :
    Con l Z consts_1 (⟨"java/lang/String", "<init>", "([BB)V"⟩ : MethodName) jdk_42_method_151_code 3 none [] ({ frames := 1, cells := 0, slots := 0, locals := 12 } : Room) #[(.ref a), (.ref b), (.int (0 : Int32))] h0 (fun v h => v = none ∧ Keep h0 h [a] ∧ Str Z h a cs) := by
  refine Con.intro (plainFor_of_name pn_0) hE X.el ?_
  intro p e s m below meth c T W
  refine Go.cast (efib m a b) ?_
  refine Go.step (fun _ k => XS.aloadN W.here W.hx rfl (W.d dib_0) rfl rfl k) ?_
  show Go _ _ _ _ _ _ _ _ _ _ (mkF m 1 #[.val (.ref a), .val (.ref b), .val (.int (0 : Int32))] [(.ref a)])
  refine W.initO (X.w 15 rfl) (X.w 16 rfl) (X.w 17 rfl) rfl dib_1 (by decide) (Wd := 0) (Nat.le_of_eq rfl) (by decide) ?_
  intro T W
  show Go _ _ _ _ _ _ _ _ _ _ (mkF m 4 #[.val (.ref a), .val (.ref b), .val (.int (0 : Int32))] [])
  refine Go.step (fun _ k => XS.aloadN W.here W.hx rfl (W.d dib_4) rfl rfl k) ?_
  show Go _ _ _ _ _ _ _ _ _ _ (mkF m 5 #[.val (.ref a), .val (.ref b), .val (.int (0 : Int32))] [(.ref a)])
  refine Go.step (fun _ k => XS.aloadN W.here W.hx rfl (W.d dib_5) rfl rfl k) ?_
  show Go _ _ _ _ _ _ _ _ _ _ (mkF m 6 #[.val (.ref a), .val (.ref b), .val (.int (0 : Int32))] [(.ref b), (.ref a)])
  have ne1 : a ≠ b := Exa.neArv A V (X.w 5 rfl)
  have S1 : Safe Z consts_1 _ h0 a := Safe.blank W.hZ.alike A FV
  have H1 := W.chr.1
  refine W.putF (host := "") (Or.inl (X.w 24 rfl)) Via.refl FV A (Or.inr ⟨(X.w 20 rfl), rfl, rfl⟩) (X.w 5 rfl) (ty := .array .byte) (by decide) rfl rfl ga S1 dib_6 ?_
  intro T h2 W Wr1 V2
  show Go _ _ _ _ _ _ _ _ _ _ (mkF m 9 #[.val (.ref a), .val (.ref b), .val (.int (0 : Int32))] [])
  have S2 := Safe.wr Wr1 S1 H1 S1
  have B2 := A.wr Wr1
  have Cd2 := FC.other Wr1 (Or.inr (slot_ne (Or.inr (X.w 21 rfl)) (Or.inr (X.w 20 rfl)) (by decide) (t := .byte) (t' := .array .byte) (by decide) (by decide)))
  have Av2 := V.other Wr1 (Ne.symm ne1)
  refine Go.step (fun _ k => XS.aloadN W.here W.hx rfl (W.d dib_9) rfl rfl k) ?_
  show Go _ _ _ _ _ _ _ _ _ _ (mkF m 10 #[.val (.ref a), .val (.ref b), .val (.int (0 : Int32))] [(.ref a)])
  refine Go.step (fun _ k => XS.iloadN W.here W.hx rfl (W.d dib_10) rfl k) ?_
  show Go _ _ _ _ _ _ _ _ _ _ (mkF m 11 #[.val (.ref a), .val (.ref b), .val (.int (0 : Int32))] [(.int (0 : Int32)), (.ref a)])
  refine W.putF (host := "") (Or.inl (X.w 25 rfl)) Via.refl Cd2 B2 (Or.inr ⟨(X.w 21 rfl), rfl, rfl⟩) (X.w 5 rfl) (ty := .byte) (by decide) rfl rfl ga S2 dib_11 ?_
  intro T h4 W Wr2 Cd4
  show Go _ _ _ _ _ _ _ _ _ _ (mkF m 14 #[.val (.ref a), .val (.ref b), .val (.int (0 : Int32))] [])
  have V4 := V2.other Wr2 (Or.inr (slot_ne (Or.inr (X.w 20 rfl)) (Or.inr (X.w 21 rfl)) (by decide) (t := .array .byte) (t' := .byte) (by decide) (by decide)))
  refine W.retV dib_14 ⟨rfl, ?_, b, kb, B2.wr Wr2, V4, Cd4, Av2.other Wr2 (Ne.symm ne1), hp, hl⟩ (by decide) (by decide)
  exact ((Keep.refl h0 [a]).wr Wr1 (Or.inl (by simp))).wr Wr2 (Or.inl (by simp))
theorem dvo_0 : decode jdk_42_method_139_code 0 = .ok (.getstatic 38, 3) := by decide +kernel
theorem dvo_3 : decode jdk_42_method_139_code 3 = .ok (.ifCond .eq 23, 3) := by decide +kernel
theorem dvo_6 : decode jdk_42_method_139_code 6 = .ok (.iload_n 0, 1) := by decide +kernel
theorem dvo_7 : decode jdk_42_method_139_code 7 = .ok (.invokestatic 1015, 3) := by decide +kernel
theorem dvo_10 : decode jdk_42_method_139_code 10 = .ok (.ifCond .eq 16, 3) := by decide +kernel
theorem dvo_13 : decode jdk_42_method_139_code 13 = .ok (.new 10, 3) := by decide +kernel
theorem dvo_16 : decode jdk_42_method_139_code 16 = .ok (.dup, 1) := by decide +kernel
theorem dvo_17 : decode jdk_42_method_139_code 17 = .ok (.iload_n 0, 1) := by decide +kernel
theorem dvo_18 : decode jdk_42_method_139_code 18 = .ok (.invokestatic 1018, 3) := by decide +kernel
theorem dvo_21 : decode jdk_42_method_139_code 21 = .ok (.iconst 0, 1) := by decide +kernel
theorem dvo_22 : decode jdk_42_method_139_code 22 = .ok (.invokespecial 209, 3) := by decide +kernel
theorem dvo_25 : decode jdk_42_method_139_code 25 = .ok (.areturn, 1) := by decide +kernel
theorem efvo (m : MethodId) (x0 : Int32) : entryFrame m #[(.int x0)] 1 = mkF m 0 #[.val (.int x0)] [] := by first | (simp [entryFrame, mkF, argsToLocals, Value.category]; done) | rfl
set_option maxRecDepth 65536 in
set_option maxHeartbeats 40000000 in
theorem c_vo {l : Launch} {Z : State} {a0 : Array Value} {G1 : Int32} (X : Ctx Z a0 G1) (ch : Int32) (h0 : Heap) (hE : Ext Z.heap h0) (t0 : Sm ch) :
    Con l Z consts_1 (⟨"java/lang/String", "valueOf", "(C)Ljava/lang/String;"⟩ : MethodName) jdk_42_method_139_code 1 (some (.object "java/lang/String")) [] ({ frames := 2, cells := 2, slots := 5, locals := 27 } : Room) #[(.int ch)] h0 (fun v h => ∃ a, v = some (.ref a) ∧ Z.heap.size ≤ a ∧ Keep h0 h [] ∧ Str Z h a [ch]) := by
  refine Con.intro (plainFor_of_name pn_0) hE X.el ?_
  intro p e s m below meth c T W
  have hsz := W.size
  refine Go.cast (efvo m ch) ?_
  have KP := Keep.refl h0 []
  refine W.getS (host := "") (Or.inl (X.w 193 rfl)) Via.refl X.2.1 dvo_0 ?_
  intro T W
  show Go _ _ _ _ _ _ _ _ _ _ (mkF m 3 #[.val (.int ch)] [(.int G1)])
  refine Go.step (fun _ k => XS.ifNo W.here W.hx rfl (W.d dvo_3) rfl ((if0 _ _).trans (feq X.2.2.1).1) k) ?_
  show Go _ _ _ _ _ _ _ _ _ _ (mkF m 6 #[.val (.int ch)] [])
  refine Go.step (fun _ k => XS.iloadN W.here W.hx rfl (W.d dvo_6) rfl k) ?_
  show Go _ _ _ _ _ _ _ _ _ _ (mkF m 7 #[.val (.int ch)] [(.int ch)])
  refine W.callS (X.w 209 rfl) (X.w 210 rfl) (X.w 211 rfl) (X.w 212 rfl) (by decide) (c_ce X ch _ W.ext t0) (by decide) (Wd := 0) (by decide) [(.int ch)] [] rfl pd_1 rfl rfl rfl (Nat.le_of_eq rfl) dvo_7 (by decide) (by decide) ?_
  intro v T h vm W hQ C
  obtain ⟨rfl, rfl⟩ := hQ
  show Go _ _ _ _ _ _ _ _ _ _ (mkF m 10 #[.val (.int ch)] [(.int (1 : Int32))])
  refine Go.step (fun _ k => XS.ifNo W.here W.hx rfl (W.d dvo_10) rfl ((if0 _ _).trans (feq (by decide : ¬ ((1 : Int32) = (0 : Int32)))).1) k) ?_
  show Go _ _ _ _ _ _ _ _ _ _ (mkF m 13 #[.val (.int ch)] [])
  refine W.new (X.w 213 rfl) (X.w 5 rfl) (X.w 6 rfl) dvo_13 (by decide) (by decide) ?_
  intro T h b1 hb1 W Eb1 Ab1 Db1
  have sz_b1 : h0.size ≤ b1 := by rw [hb1]; exact KP.1
  have gb1 : Z.heap.size ≤ b1 := by rw [hb1]; exact hsz
  replace KP := KP.ext Eb1
  replace hsz := W.size
  have F_value_b1 : Fld Z h b1 "java/lang/String" "value" "[B" .null := Db1 (Or.inr (X.w 20 rfl)) (ty := (.array .byte)) (by decide)
  have F_coder_b1 : Fld Z h b1 "java/lang/String" "coder" "B" (.int (0 : Int32)) := Db1 (Or.inr (X.w 21 rfl)) (ty := .byte) (by decide)
  show Go _ _ _ _ _ _ _ _ _ _ (mkF m 16 #[.val (.int ch)] [(.ref b1)])
  refine Go.step (fun _ k => XS.dup W.here W.hx rfl (W.d dvo_16) rfl rfl k) ?_
  show Go _ _ _ _ _ _ _ _ _ _ (mkF m 17 #[.val (.int ch)] [(.ref b1), (.ref b1)])
  refine Go.step (fun _ k => XS.iloadN W.here W.hx rfl (W.d dvo_17) rfl k) ?_
  show Go _ _ _ _ _ _ _ _ _ _ (mkF m 18 #[.val (.int ch)] [(.int ch), (.ref b1), (.ref b1)])
  refine W.callS (X.w 214 rfl) (X.w 215 rfl) (X.w 211 rfl) (X.w 216 rfl) (by decide) (c_tb X ch _ W.ext t0) (by decide) (Wd := 2) (by decide) [(.int ch)] [(.ref b1), (.ref b1)] rfl pd_2 rfl rfl rfl (Nat.le_of_eq rfl) dvo_18 (by decide) (by decide) ?_
  intro v T h vm W hQ C
  obtain ⟨b2, kb2, rfl, gb2, -, Kb2, Vb2⟩ := hQ
  replace KP := KP.otr0 Kb2
  replace F_value_b1 := F_value_b1.keep Kb2 nin0
  replace F_coder_b1 := F_coder_b1.keep Kb2 nin0
  replace Ab1 := Ab1.keep Kb2
  replace hsz := W.size
  show Go _ _ _ _ _ _ _ _ _ _ (mkF m 21 #[.val (.int ch)] [(.ref b2), (.ref b1), (.ref b1)])
  refine Go.step (fun _ k => XS.iconst W.here W.hx rfl (W.d dvo_21) k) ?_
  show Go _ _ _ _ _ _ _ _ _ _ (mkF m 22 #[.val (.int ch)] [(.int (0 : Int32)), (.ref b2), (.ref b1), (.ref b1)])
  refine W.special rfl (X.w 217 rfl) (X.w 218 rfl) (X.w 6 rfl) (X.w 219 rfl) (by decide) (c_ib X b1 b2 _ [ch] _ W.ext gb1 Ab1 F_value_b1 F_coder_b1 Vb2 (smS t0 sm0) (Nat.le_of_ble_eq_true rfl)) (by decide) (Wd := 1) (by decide) b1 [(.ref b2), (.int (0 : Int32))] [(.ref b1)] rfl pd_3 rfl rfl rfl (Nat.le_of_eq rfl) dvo_22 (by decide) (by decide) ?_
  intro v T h vm W hQ C
  obtain ⟨rfl, Kb1, Sb1⟩ := hQ
  replace KP := KP.otrN Kb1 sz_b1
  replace hsz := W.size
  show Go _ _ _ _ _ _ _ _ _ _ (mkF m 25 #[.val (.int ch)] [(.ref b1)])
  exact W.retR rfl rfl rfl dvo_25 (⟨b1, rfl, gb1, KP, Sb1⟩) (by decide) (by decide)

/-- a text of at most two signs that does not begin with -- -/
def NDD (cs : List Int32) : Prop := cs = [] ∨ (∃ c0, cs = [c0]) ∨ ∃ c0 c1, cs = [c0, c1] ∧ ¬ (c0 = 45 ∧ c1 = 45)
/-- the array of a list made without a size -/
def Dft (Z : State) (D : Addr) (kD : ClassId) : Prop := Sta Z Z.heap "java/util/ArrayList" "DEFAULTCAPACITY_EMPTY_ELEMENTDATA" "[Ljava/lang/Object;" (.ref D) ∧ Arv Z Z.heap D kD (.object "java/lang/Object") (0 : Int32) [] .null

theorem dmk_0 : decode method_2_code 0 = .ok (.iload_n 0, 1) := by decide +kernel
theorem dmk_1 : decode method_2_code 1 = .ok (.sipush 255, 3) := by decide +kernel
theorem dmk_4 : decode method_2_code 4 = .ok (.iand, 1) := by decide +kernel
theorem dmk_5 : decode method_2_code 5 = .ok (.i2c, 1) := by decide +kernel
theorem dmk_6 : decode method_2_code 6 = .ok (.istore_n 1, 1) := by decide +kernel
theorem dmk_7 : decode method_2_code 7 = .ok (.iload_n 0, 1) := by decide +kernel
theorem dmk_8 : decode method_2_code 8 = .ok (.bipush 8, 2) := by decide +kernel
theorem dmk_10 : decode method_2_code 10 = .ok (.iushr, 1) := by decide +kernel
theorem dmk_11 : decode method_2_code 11 = .ok (.sipush 255, 3) := by decide +kernel
theorem dmk_14 : decode method_2_code 14 = .ok (.iand, 1) := by decide +kernel
theorem dmk_15 : decode method_2_code 15 = .ok (.i2c, 1) := by decide +kernel
theorem dmk_16 : decode method_2_code 16 = .ok (.istore_n 2, 1) := by decide +kernel
theorem dmk_17 : decode method_2_code 17 = .ok (.iload_n 1, 1) := by decide +kernel
theorem dmk_18 : decode method_2_code 18 = .ok (.bipush 45, 2) := by decide +kernel
theorem dmk_20 : decode method_2_code 20 = .ok (.if_icmp .ne 12, 3) := by decide +kernel
theorem dmk_23 : decode method_2_code 23 = .ok (.iload_n 2, 1) := by decide +kernel
theorem dmk_24 : decode method_2_code 24 = .ok (.bipush 45, 2) := by decide +kernel
theorem dmk_26 : decode method_2_code 26 = .ok (.if_icmp .ne 6, 3) := by decide +kernel
theorem dmk_29 : decode method_2_code 29 = .ok (.bipush 43, 2) := by decide +kernel
theorem dmk_31 : decode method_2_code 31 = .ok (.istore_n 2, 1) := by decide +kernel
theorem dmk_32 : decode method_2_code 32 = .ok (.iload_n 0, 1) := by decide +kernel
theorem dmk_33 : decode method_2_code 33 = .ok (.bipush 16, 2) := by decide +kernel
theorem dmk_35 : decode method_2_code 35 = .ok (.iushr, 1) := by decide +kernel
theorem dmk_36 : decode method_2_code 36 = .ok (.iconst 3, 1) := by decide +kernel
theorem dmk_37 : decode method_2_code 37 = .ok (.iand, 1) := by decide +kernel
theorem dmk_38 : decode method_2_code 38 = .ok (.iconst 3, 1) := by decide +kernel
theorem dmk_39 : decode method_2_code 39 = .ok (.irem, 1) := by decide +kernel
theorem dmk_40 : decode method_2_code 40 = .ok (.istore_n 3, 1) := by decide +kernel
theorem dmk_41 : decode method_2_code 41 = .ok (.iload_n 3, 1) := by decide +kernel
theorem dmk_42 : decode method_2_code 42 = .ok (.ifCond .ne 14, 3) := by decide +kernel
theorem dmk_45 : decode method_2_code 45 = .ok (.new 7, 3) := by decide +kernel
theorem dmk_48 : decode method_2_code 48 = .ok (.dup, 1) := by decide +kernel
theorem dmk_49 : decode method_2_code 49 = .ok (.iconst 0, 1) := by decide +kernel
theorem dmk_50 : decode method_2_code 50 = .ok (.newarray .char, 2) := by decide +kernel
theorem dmk_52 : decode method_2_code 52 = .ok (.invokespecial 9, 3) := by decide +kernel
theorem dmk_55 : decode method_2_code 55 = .ok (.areturn, 1) := by decide +kernel
theorem dmk_56 : decode method_2_code 56 = .ok (.iload_n 3, 1) := by decide +kernel
theorem dmk_57 : decode method_2_code 57 = .ok (.iconst 1, 1) := by decide +kernel
theorem dmk_58 : decode method_2_code 58 = .ok (.if_icmp .ne 8, 3) := by decide +kernel
theorem dmk_61 : decode method_2_code 61 = .ok (.iload_n 1, 1) := by decide +kernel
theorem dmk_62 : decode method_2_code 62 = .ok (.invokestatic 12, 3) := by decide +kernel
theorem dmk_65 : decode method_2_code 65 = .ok (.areturn, 1) := by decide +kernel
theorem dmk_66 : decode method_2_code 66 = .ok (.new 7, 3) := by decide +kernel
theorem dmk_69 : decode method_2_code 69 = .ok (.dup, 1) := by decide +kernel
theorem dmk_70 : decode method_2_code 70 = .ok (.iconst 2, 1) := by decide +kernel
theorem dmk_71 : decode method_2_code 71 = .ok (.newarray .char, 2) := by decide +kernel
theorem dmk_73 : decode method_2_code 73 = .ok (.dup, 1) := by decide +kernel
theorem dmk_74 : decode method_2_code 74 = .ok (.iconst 0, 1) := by decide +kernel
theorem dmk_75 : decode method_2_code 75 = .ok (.iload_n 1, 1) := by decide +kernel
theorem dmk_76 : decode method_2_code 76 = .ok (.castore, 1) := by decide +kernel
theorem dmk_77 : decode method_2_code 77 = .ok (.dup, 1) := by decide +kernel
theorem dmk_78 : decode method_2_code 78 = .ok (.iconst 1, 1) := by decide +kernel
theorem dmk_79 : decode method_2_code 79 = .ok (.iload_n 2, 1) := by decide +kernel
theorem dmk_80 : decode method_2_code 80 = .ok (.castore, 1) := by decide +kernel
theorem dmk_81 : decode method_2_code 81 = .ok (.invokespecial 9, 3) := by decide +kernel
theorem dmk_84 : decode method_2_code 84 = .ok (.areturn, 1) := by decide +kernel
theorem efmk (m : MethodId) (x0 : Int32) : entryFrame m #[(.int x0)] 4 = mkF m 0 #[.val (.int x0), .unset, .unset, .unset] [] := by first | (simp [entryFrame, mkF, argsToLocals, Value.category]; done) | rfl
set_option maxRecDepth 65536 in
set_option maxHeartbeats 40000000 in
theorem c_mk {l : Launch} {Z : State} {a0 : Array Value} {G1 : Int32} (X : Ctx Z a0 G1) (x0 : Int32) (h0 : Heap) (hE : Ext Z.heap h0)  :
    Con l Z consts_1 (⟨"com/example/hataraki/hataraki/cli/OptionsOperandsPinLaw", "mk", "(I)Ljava/lang/String;"⟩ : MethodName) method_2_code 4 (some (.object "java/lang/String")) [] ({ frames := 4, cells := 6, slots := 12, locals := 66 } : Room) #[(.int x0)] h0 (fun v h => ∃ (a : Addr) (cs : List Int32), v = some (.ref a) ∧ Z.heap.size ≤ a ∧ Keep h0 h [] ∧ Str Z h a cs ∧ NDD cs) := by
  refine Con.intro (plainFor_of_name pn_2) hE X.el ?_
  intro p e s m below meth c T W
  have hsz := W.size
  refine Go.cast (efmk m x0) ?_
  have KP := Keep.refl h0 []
  refine Go.step (fun _ k => XS.iloadN W.here W.hx rfl (W.d dmk_0) rfl k) ?_
  show Go _ _ _ _ _ _ _ _ _ _ (mkF m 1 #[.val (.int x0), .unset, .unset, .unset] [(.int x0)])
  refine Go.step (fun _ k => XS.sipush W.here W.hx rfl (W.d dmk_1) k) ?_
  show Go _ _ _ _ _ _ _ _ _ _ (mkF m 4 #[.val (.int x0), .unset, .unset, .unset] [(.int (255 : Int32)), (.int x0)])
  refine Go.step (fun _ k => XS.iand W.here W.hx rfl (W.d dmk_4) rfl k) ?_
  show Go _ _ _ _ _ _ _ _ _ _ (mkF m 5 #[.val (.int x0), .unset, .unset, .unset] [(.int (x0 &&& (255 : Int32)))])
  refine Go.step (fun _ k => XS.i2c W.here W.hx rfl (W.d dmk_5) rfl k) ?_
  show Go _ _ _ _ _ _ _ _ _ _ (mkF m 6 #[.val (.int x0), .unset, .unset, .unset] [(.int ((x0 &&& (255 : Int32)).toUInt32.toUInt16.toUInt32.toInt32))])
  refine Go.step (fun _ k => XS.istoreN W.here W.hx rfl (W.d dmk_6) rfl (l' := #[.val (.int x0), .val (.int ((x0 &&& (255 : Int32)).toUInt32.toUInt16.toUInt32.toInt32)), .unset, .unset]) rfl k) ?_
  show Go _ _ _ _ _ _ _ _ _ _ (mkF m 7 #[.val (.int x0), .val (.int ((x0 &&& (255 : Int32)).toUInt32.toUInt16.toUInt32.toInt32)), .unset, .unset] [])
  have t_c0 : Sm ((x0 &&& (255 : Int32)).toUInt32.toUInt16.toUInt32.toInt32) := chr255 _
  generalize ((x0 &&& (255 : Int32)).toUInt32.toUInt16.toUInt32.toInt32) = c0 at t_c0 ⊢
  refine Go.step (fun _ k => XS.iloadN W.here W.hx rfl (W.d dmk_7) rfl k) ?_
  show Go _ _ _ _ _ _ _ _ _ _ (mkF m 8 #[.val (.int x0), .val (.int c0), .unset, .unset] [(.int x0)])
  refine Go.step (fun _ k => XS.bipush W.here W.hx rfl (W.d dmk_8) k) ?_
  show Go _ _ _ _ _ _ _ _ _ _ (mkF m 10 #[.val (.int x0), .val (.int c0), .unset, .unset] [(.int (8 : Int32)), (.int x0)])
  refine Go.step (fun _ k => XS.iushr W.here W.hx rfl (W.d dmk_10) rfl k) ?_
  show Go _ _ _ _ _ _ _ _ _ _ (mkF m 11 #[.val (.int x0), .val (.int c0), .unset, .unset] [(.int ((x0.toUInt32 >>> ((8 : Int32) &&& 31).toUInt32).toInt32))])
  refine Go.step (fun _ k => XS.sipush W.here W.hx rfl (W.d dmk_11) k) ?_
  show Go _ _ _ _ _ _ _ _ _ _ (mkF m 14 #[.val (.int x0), .val (.int c0), .unset, .unset] [(.int (255 : Int32)), (.int ((x0.toUInt32 >>> ((8 : Int32) &&& 31).toUInt32).toInt32))])
  refine Go.step (fun _ k => XS.iand W.here W.hx rfl (W.d dmk_14) rfl k) ?_
  show Go _ _ _ _ _ _ _ _ _ _ (mkF m 15 #[.val (.int x0), .val (.int c0), .unset, .unset] [(.int (((x0.toUInt32 >>> ((8 : Int32) &&& 31).toUInt32).toInt32) &&& (255 : Int32)))])
  refine Go.step (fun _ k => XS.i2c W.here W.hx rfl (W.d dmk_15) rfl k) ?_
  show Go _ _ _ _ _ _ _ _ _ _ (mkF m 16 #[.val (.int x0), .val (.int c0), .unset, .unset] [(.int ((((x0.toUInt32 >>> ((8 : Int32) &&& 31).toUInt32).toInt32) &&& (255 : Int32)).toUInt32.toUInt16.toUInt32.toInt32))])
  refine Go.step (fun _ k => XS.istoreN W.here W.hx rfl (W.d dmk_16) rfl (l' := #[.val (.int x0), .val (.int c0), .val (.int ((((x0.toUInt32 >>> ((8 : Int32) &&& 31).toUInt32).toInt32) &&& (255 : Int32)).toUInt32.toUInt16.toUInt32.toInt32)), .unset]) rfl k) ?_
  show Go _ _ _ _ _ _ _ _ _ _ (mkF m 17 #[.val (.int x0), .val (.int c0), .val (.int ((((x0.toUInt32 >>> ((8 : Int32) &&& 31).toUInt32).toInt32) &&& (255 : Int32)).toUInt32.toUInt16.toUInt32.toInt32)), .unset] [])
  have t_c1 : Sm ((((x0.toUInt32 >>> ((8 : Int32) &&& 31).toUInt32).toInt32) &&& (255 : Int32)).toUInt32.toUInt16.toUInt32.toInt32) := chr255 _
  generalize ((((x0.toUInt32 >>> ((8 : Int32) &&& 31).toUInt32).toInt32) &&& (255 : Int32)).toUInt32.toUInt16.toUInt32.toInt32) = c1 at t_c1 ⊢
  refine Go.step (fun _ k => XS.iloadN W.here W.hx rfl (W.d dmk_17) rfl k) ?_
  show Go _ _ _ _ _ _ _ _ _ _ (mkF m 18 #[.val (.int x0), .val (.int c0), .val (.int c1), .unset] [(.int c0)])
  refine Go.step (fun _ k => XS.bipush W.here W.hx rfl (W.d dmk_18) k) ?_
  show Go _ _ _ _ _ _ _ _ _ _ (mkF m 20 #[.val (.int x0), .val (.int c0), .val (.int c1), .unset] [(.int (45 : Int32)), (.int c0)])
  by_cases hc1 : c0 = (45 : Int32)
  · refine Go.step (fun _ k => XS.icmpNo W.here W.hx rfl (W.d dmk_20) rfl (teq hc1).2 k) ?_
    show Go _ _ _ _ _ _ _ _ _ _ (mkF m 23 #[.val (.int x0), .val (.int c0), .val (.int c1), .unset] [])
    refine Go.step (fun _ k => XS.iloadN W.here W.hx rfl (W.d dmk_23) rfl k) ?_
    show Go _ _ _ _ _ _ _ _ _ _ (mkF m 24 #[.val (.int x0), .val (.int c0), .val (.int c1), .unset] [(.int c1)])
    refine Go.step (fun _ k => XS.bipush W.here W.hx rfl (W.d dmk_24) k) ?_
    show Go _ _ _ _ _ _ _ _ _ _ (mkF m 26 #[.val (.int x0), .val (.int c0), .val (.int c1), .unset] [(.int (45 : Int32)), (.int c1)])
    by_cases hc2 : c1 = (45 : Int32)
    · refine Go.step (fun _ k => XS.icmpNo W.here W.hx rfl (W.d dmk_26) rfl (teq hc2).2 k) ?_
      show Go _ _ _ _ _ _ _ _ _ _ (mkF m 29 #[.val (.int x0), .val (.int c0), .val (.int c1), .unset] [])
      refine Go.step (fun _ k => XS.bipush W.here W.hx rfl (W.d dmk_29) k) ?_
      show Go _ _ _ _ _ _ _ _ _ _ (mkF m 31 #[.val (.int x0), .val (.int c0), .val (.int c1), .unset] [(.int (43 : Int32))])
      refine Go.step (fun _ k => XS.istoreN W.here W.hx rfl (W.d dmk_31) rfl (l' := #[.val (.int x0), .val (.int c0), .val (.int (43 : Int32)), .unset]) rfl k) ?_
      show Go _ _ _ _ _ _ _ _ _ _ (mkF m 32 #[.val (.int x0), .val (.int c0), .val (.int (43 : Int32)), .unset] [])
      refine Go.step (fun _ k => XS.iloadN W.here W.hx rfl (W.d dmk_32) rfl k) ?_
      show Go _ _ _ _ _ _ _ _ _ _ (mkF m 33 #[.val (.int x0), .val (.int c0), .val (.int (43 : Int32)), .unset] [(.int x0)])
      refine Go.step (fun _ k => XS.bipush W.here W.hx rfl (W.d dmk_33) k) ?_
      show Go _ _ _ _ _ _ _ _ _ _ (mkF m 35 #[.val (.int x0), .val (.int c0), .val (.int (43 : Int32)), .unset] [(.int (16 : Int32)), (.int x0)])
      refine Go.step (fun _ k => XS.iushr W.here W.hx rfl (W.d dmk_35) rfl k) ?_
      show Go _ _ _ _ _ _ _ _ _ _ (mkF m 36 #[.val (.int x0), .val (.int c0), .val (.int (43 : Int32)), .unset] [(.int ((x0.toUInt32 >>> ((16 : Int32) &&& 31).toUInt32).toInt32))])
      refine Go.step (fun _ k => XS.iconst W.here W.hx rfl (W.d dmk_36) k) ?_
      show Go _ _ _ _ _ _ _ _ _ _ (mkF m 37 #[.val (.int x0), .val (.int c0), .val (.int (43 : Int32)), .unset] [(.int (3 : Int32)), (.int ((x0.toUInt32 >>> ((16 : Int32) &&& 31).toUInt32).toInt32))])
      refine Go.step (fun _ k => XS.iand W.here W.hx rfl (W.d dmk_37) rfl k) ?_
      show Go _ _ _ _ _ _ _ _ _ _ (mkF m 38 #[.val (.int x0), .val (.int c0), .val (.int (43 : Int32)), .unset] [(.int (((x0.toUInt32 >>> ((16 : Int32) &&& 31).toUInt32).toInt32) &&& (3 : Int32)))])
      refine Go.step (fun _ k => XS.iconst W.here W.hx rfl (W.d dmk_38) k) ?_
      show Go _ _ _ _ _ _ _ _ _ _ (mkF m 39 #[.val (.int x0), .val (.int c0), .val (.int (43 : Int32)), .unset] [(.int (3 : Int32)), (.int (((x0.toUInt32 >>> ((16 : Int32) &&& 31).toUInt32).toInt32) &&& (3 : Int32)))])
      refine Go.step (fun _ k => XS.irem W.here W.hx rfl (W.d dmk_39) rfl (by decide) k) ?_
      show Go _ _ _ _ _ _ _ _ _ _ (mkF m 40 #[.val (.int x0), .val (.int c0), .val (.int (43 : Int32)), .unset] [(.int ((((x0.toUInt32 >>> ((16 : Int32) &&& 31).toUInt32).toInt32) &&& (3 : Int32)) - ((((x0.toUInt32 >>> ((16 : Int32) &&& 31).toUInt32).toInt32) &&& (3 : Int32)) / (3 : Int32)) * (3 : Int32)))])
      refine Go.step (fun _ k => XS.istoreN W.here W.hx rfl (W.d dmk_40) rfl (l' := #[.val (.int x0), .val (.int c0), .val (.int (43 : Int32)), .val (.int ((((x0.toUInt32 >>> ((16 : Int32) &&& 31).toUInt32).toInt32) &&& (3 : Int32)) - ((((x0.toUInt32 >>> ((16 : Int32) &&& 31).toUInt32).toInt32) &&& (3 : Int32)) / (3 : Int32)) * (3 : Int32)))]) rfl k) ?_
      show Go _ _ _ _ _ _ _ _ _ _ (mkF m 41 #[.val (.int x0), .val (.int c0), .val (.int (43 : Int32)), .val (.int ((((x0.toUInt32 >>> ((16 : Int32) &&& 31).toUInt32).toInt32) &&& (3 : Int32)) - ((((x0.toUInt32 >>> ((16 : Int32) &&& 31).toUInt32).toInt32) &&& (3 : Int32)) / (3 : Int32)) * (3 : Int32)))] [])
      have t_n : T3 ((((x0.toUInt32 >>> ((16 : Int32) &&& 31).toUInt32).toInt32) &&& (3 : Int32)) - ((((x0.toUInt32 >>> ((16 : Int32) &&& 31).toUInt32).toInt32) &&& (3 : Int32)) / (3 : Int32)) * (3 : Int32)) := rem3 _
      generalize ((((x0.toUInt32 >>> ((16 : Int32) &&& 31).toUInt32).toInt32) &&& (3 : Int32)) - ((((x0.toUInt32 >>> ((16 : Int32) &&& 31).toUInt32).toInt32) &&& (3 : Int32)) / (3 : Int32)) * (3 : Int32)) = n at t_n ⊢
      refine Go.step (fun _ k => XS.iloadN W.here W.hx rfl (W.d dmk_41) rfl k) ?_
      show Go _ _ _ _ _ _ _ _ _ _ (mkF m 42 #[.val (.int x0), .val (.int c0), .val (.int (43 : Int32)), .val (.int n)] [(.int n)])
      by_cases hc3 : n = (0 : Int32)
      · refine Go.step (fun _ k => XS.ifNo W.here W.hx rfl (W.d dmk_42) rfl ((if0 _ _).trans (teq hc3).2) k) ?_
        show Go _ _ _ _ _ _ _ _ _ _ (mkF m 45 #[.val (.int x0), .val (.int c0), .val (.int (43 : Int32)), .val (.int n)] [])
        refine W.new (X.w 4 rfl) (X.w 5 rfl) (X.w 6 rfl) dmk_45 (by decide) (by decide) ?_
        intro T h b4 hb4 W Eb4 Ab4 Db4
        have sz_b4 : h0.size ≤ b4 := by rw [hb4]; exact KP.1
        have gb4 : Z.heap.size ≤ b4 := by rw [hb4]; exact hsz
        replace KP := KP.ext Eb4
        replace hsz := W.size
        have F_value_b4 : Fld Z h b4 "java/lang/String" "value" "[B" .null := Db4 (Or.inr (X.w 20 rfl)) (ty := (.array .byte)) (by decide)
        have F_coder_b4 : Fld Z h b4 "java/lang/String" "coder" "B" (.int (0 : Int32)) := Db4 (Or.inr (X.w 21 rfl)) (ty := .byte) (by decide)
        show Go _ _ _ _ _ _ _ _ _ _ (mkF m 48 #[.val (.int x0), .val (.int c0), .val (.int (43 : Int32)), .val (.int n)] [(.ref b4)])
        refine Go.step (fun _ k => XS.dup W.here W.hx rfl (W.d dmk_48) rfl rfl k) ?_
        show Go _ _ _ _ _ _ _ _ _ _ (mkF m 49 #[.val (.int x0), .val (.int c0), .val (.int (43 : Int32)), .val (.int n)] [(.ref b4), (.ref b4)])
        refine Go.step (fun _ k => XS.iconst W.here W.hx rfl (W.d dmk_49) k) ?_
        show Go _ _ _ _ _ _ _ _ _ _ (mkF m 50 #[.val (.int x0), .val (.int c0), .val (.int (43 : Int32)), .val (.int n)] [(.int (0 : Int32)), (.ref b4), (.ref b4)])
        refine W.newarr (X.w 7 rfl) dmk_50 (by decide) (cap := 0) (by decide) (by decide) (by decide) (by decide) ?_
        intro T h b5 kb5 hb5 W Eb5 Vb5 Sfb5
        have sz_b5 : h0.size ≤ b5 := by rw [hb5]; exact KP.1
        have ne_b4_b5 : b4 ≠ b5 := by rw [hb5]; exact Nat.ne_of_lt Ab4.lt
        have gb5 : Z.heap.size ≤ b5 := by rw [hb5]; exact hsz
        replace KP := KP.ext Eb5
        replace F_value_b4 := F_value_b4.ext Eb5
        replace F_coder_b4 := F_coder_b4.ext Eb5
        replace Ab4 := Ab4.ext Eb5
        replace hsz := W.size
        replace Vb5 : Arv Z h b5 kb5 .char (0 : Int32) [] (.int (0 : Int32)) := Vb5.pad (pad_rep [] (.int (0 : Int32)) 0)
        show Go _ _ _ _ _ _ _ _ _ _ (mkF m 52 #[.val (.int x0), .val (.int c0), .val (.int (43 : Int32)), .val (.int n)] [(.ref b5), (.ref b4), (.ref b4)])
        refine W.special rfl (X.w 8 rfl) (X.w 9 rfl) (X.w 6 rfl) (X.w 10 rfl) (by decide) (c_e1 X b4 b5 _ _ _ _ W.ext gb4 Ab4 F_value_b4 F_coder_b4 Vb5) (by decide) (Wd := 1) (by decide) b4 [(.ref b5)] [(.ref b4)] rfl pd_4 rfl rfl rfl (Nat.le_of_eq rfl) dmk_52 (by decide) (by decide) ?_
        intro v T h vm W hQ C
        obtain ⟨rfl, Kb4, Sb4⟩ := hQ
        replace KP := KP.otrN Kb4 sz_b4
        replace Vb5 := Vb5.keep Kb4 (nin1 (Ne.symm ne_b4_b5))
        replace hsz := W.size
        show Go _ _ _ _ _ _ _ _ _ _ (mkF m 55 #[.val (.int x0), .val (.int c0), .val (.int (43 : Int32)), .val (.int n)] [(.ref b4)])
        exact W.retR rfl rfl rfl dmk_55 (⟨b4, _, rfl, gb4, KP, Sb4, Or.inl rfl⟩) (by decide) (by decide)
      · refine Go.step (fun _ k => XS.ifYes W.here W.hx rfl (pc0 := 42) (pc' := 56) rfl (W.d dmk_42) rfl ((if0 _ _).trans (feq hc3).2) (by decide) (by decide) k) ?_
        show Go _ _ _ _ _ _ _ _ _ _ (mkF m 56 #[.val (.int x0), .val (.int c0), .val (.int (43 : Int32)), .val (.int n)] [])
        refine Go.step (fun _ k => XS.iloadN W.here W.hx rfl (W.d dmk_56) rfl k) ?_
        show Go _ _ _ _ _ _ _ _ _ _ (mkF m 57 #[.val (.int x0), .val (.int c0), .val (.int (43 : Int32)), .val (.int n)] [(.int n)])
        refine Go.step (fun _ k => XS.iconst W.here W.hx rfl (W.d dmk_57) k) ?_
        show Go _ _ _ _ _ _ _ _ _ _ (mkF m 58 #[.val (.int x0), .val (.int c0), .val (.int (43 : Int32)), .val (.int n)] [(.int (1 : Int32)), (.int n)])
        by_cases hc6 : n = (1 : Int32)
        · refine Go.step (fun _ k => XS.icmpNo W.here W.hx rfl (W.d dmk_58) rfl (teq hc6).2 k) ?_
          show Go _ _ _ _ _ _ _ _ _ _ (mkF m 61 #[.val (.int x0), .val (.int c0), .val (.int (43 : Int32)), .val (.int n)] [])
          refine Go.step (fun _ k => XS.iloadN W.here W.hx rfl (W.d dmk_61) rfl k) ?_
          show Go _ _ _ _ _ _ _ _ _ _ (mkF m 62 #[.val (.int x0), .val (.int c0), .val (.int (43 : Int32)), .val (.int n)] [(.int c0)])
          refine W.callS (X.w 206 rfl) (X.w 207 rfl) (X.w 6 rfl) (X.w 208 rfl) (by decide) (c_vo X c0 _ W.ext t_c0) (by decide) (Wd := 0) (by decide) [(.int c0)] [] rfl pd_5 rfl rfl rfl (Nat.le_of_eq rfl) dmk_62 (by decide) (by decide) ?_
          intro v T h vm W hQ C
          obtain ⟨b7, rfl, gb7, Kb7, Sb7⟩ := hQ
          replace KP := KP.otr0 Kb7
          replace hsz := W.size
          show Go _ _ _ _ _ _ _ _ _ _ (mkF m 65 #[.val (.int x0), .val (.int c0), .val (.int (43 : Int32)), .val (.int n)] [(.ref b7)])
          exact W.retR rfl rfl rfl dmk_65 (⟨b7, _, rfl, gb7, KP, Sb7, Or.inr (Or.inl ⟨_, rfl⟩)⟩) (by decide) (by decide)
        · refine Go.step (fun _ k => XS.icmpYes W.here W.hx rfl (pc0 := 58) (pc' := 66) rfl (W.d dmk_58) rfl (feq hc6).2 (by decide) (by decide) k) ?_
          show Go _ _ _ _ _ _ _ _ _ _ (mkF m 66 #[.val (.int x0), .val (.int c0), .val (.int (43 : Int32)), .val (.int n)] [])
          refine W.new (X.w 4 rfl) (X.w 5 rfl) (X.w 6 rfl) dmk_66 (by decide) (by decide) ?_
          intro T h b8 hb8 W Eb8 Ab8 Db8
          have sz_b8 : h0.size ≤ b8 := by rw [hb8]; exact KP.1
          have gb8 : Z.heap.size ≤ b8 := by rw [hb8]; exact hsz
          replace KP := KP.ext Eb8
          replace hsz := W.size
          have F_value_b8 : Fld Z h b8 "java/lang/String" "value" "[B" .null := Db8 (Or.inr (X.w 20 rfl)) (ty := (.array .byte)) (by decide)
          have F_coder_b8 : Fld Z h b8 "java/lang/String" "coder" "B" (.int (0 : Int32)) := Db8 (Or.inr (X.w 21 rfl)) (ty := .byte) (by decide)
          show Go _ _ _ _ _ _ _ _ _ _ (mkF m 69 #[.val (.int x0), .val (.int c0), .val (.int (43 : Int32)), .val (.int n)] [(.ref b8)])
          refine Go.step (fun _ k => XS.dup W.here W.hx rfl (W.d dmk_69) rfl rfl k) ?_
          show Go _ _ _ _ _ _ _ _ _ _ (mkF m 70 #[.val (.int x0), .val (.int c0), .val (.int (43 : Int32)), .val (.int n)] [(.ref b8), (.ref b8)])
          refine Go.step (fun _ k => XS.iconst W.here W.hx rfl (W.d dmk_70) k) ?_
          show Go _ _ _ _ _ _ _ _ _ _ (mkF m 71 #[.val (.int x0), .val (.int c0), .val (.int (43 : Int32)), .val (.int n)] [(.int (2 : Int32)), (.ref b8), (.ref b8)])
          refine W.newarr (X.w 7 rfl) dmk_71 (by decide) (cap := 2) (by decide) (by decide) (by decide) (by decide) ?_
          intro T h b9 kb9 hb9 W Eb9 Vb9 Sfb9
          have sz_b9 : h0.size ≤ b9 := by rw [hb9]; exact KP.1
          have ne_b8_b9 : b8 ≠ b9 := by rw [hb9]; exact Nat.ne_of_lt Ab8.lt
          have gb9 : Z.heap.size ≤ b9 := by rw [hb9]; exact hsz
          replace KP := KP.ext Eb9
          replace F_value_b8 := F_value_b8.ext Eb9
          replace F_coder_b8 := F_coder_b8.ext Eb9
          replace Ab8 := Ab8.ext Eb9
          replace hsz := W.size
          replace Vb9 : Arv Z h b9 kb9 .char (2 : Int32) [(.int (0 : Int32)), (.int (0 : Int32))] (.int (0 : Int32)) := Vb9.pad (pad_rep [] (.int (0 : Int32)) 2)
          show Go _ _ _ _ _ _ _ _ _ _ (mkF m 73 #[.val (.int x0), .val (.int c0), .val (.int (43 : Int32)), .val (.int n)] [(.ref b9), (.ref b8), (.ref b8)])
          refine Go.step (fun _ k => XS.dup W.here W.hx rfl (W.d dmk_73) rfl rfl k) ?_
          show Go _ _ _ _ _ _ _ _ _ _ (mkF m 74 #[.val (.int x0), .val (.int c0), .val (.int (43 : Int32)), .val (.int n)] [(.ref b9), (.ref b9), (.ref b8), (.ref b8)])
          refine Go.step (fun _ k => XS.iconst W.here W.hx rfl (W.d dmk_74) k) ?_
          show Go _ _ _ _ _ _ _ _ _ _ (mkF m 75 #[.val (.int x0), .val (.int c0), .val (.int (43 : Int32)), .val (.int n)] [(.int (0 : Int32)), (.ref b9), (.ref b9), (.ref b8), (.ref b8)])
          refine Go.step (fun _ k => XS.iloadN W.here W.hx rfl (W.d dmk_75) rfl k) ?_
          show Go _ _ _ _ _ _ _ _ _ _ (mkF m 76 #[.val (.int x0), .val (.int c0), .val (.int (43 : Int32)), .val (.int n)] [(.int c0), (.int (0 : Int32)), (.ref b9), (.ref b9), (.ref b8), (.ref b8)])
          refine W.castore Vb9 0 rfl (by simp) (by decide) gb9 dmk_76 ?_
          intro T h W K10 Vb9'
          replace KP := KP.otrN K10 sz_b9
          replace F_value_b8 := F_value_b8.keep K10 (nin1 ne_b8_b9)
          replace F_coder_b8 := F_coder_b8.keep K10 (nin1 ne_b8_b9)
          replace Ab8 := Ab8.keep K10
          replace hsz := W.size
          replace Vb9 : Arv Z h b9 kb9 .char (2 : Int32) [(.int (nar .char c0)), (.int (0 : Int32))] (.int (0 : Int32)) := Vb9'
          rw [nar_small t_c0] at Vb9
          show Go _ _ _ _ _ _ _ _ _ _ (mkF m 77 #[.val (.int x0), .val (.int c0), .val (.int (43 : Int32)), .val (.int n)] [(.ref b9), (.ref b8), (.ref b8)])
          refine Go.step (fun _ k => XS.dup W.here W.hx rfl (W.d dmk_77) rfl rfl k) ?_
          show Go _ _ _ _ _ _ _ _ _ _ (mkF m 78 #[.val (.int x0), .val (.int c0), .val (.int (43 : Int32)), .val (.int n)] [(.ref b9), (.ref b9), (.ref b8), (.ref b8)])
          refine Go.step (fun _ k => XS.iconst W.here W.hx rfl (W.d dmk_78) k) ?_
          show Go _ _ _ _ _ _ _ _ _ _ (mkF m 79 #[.val (.int x0), .val (.int c0), .val (.int (43 : Int32)), .val (.int n)] [(.int (1 : Int32)), (.ref b9), (.ref b9), (.ref b8), (.ref b8)])
          refine Go.step (fun _ k => XS.iloadN W.here W.hx rfl (W.d dmk_79) rfl k) ?_
          show Go _ _ _ _ _ _ _ _ _ _ (mkF m 80 #[.val (.int x0), .val (.int c0), .val (.int (43 : Int32)), .val (.int n)] [(.int (43 : Int32)), (.int (1 : Int32)), (.ref b9), (.ref b9), (.ref b8), (.ref b8)])
          refine W.castore Vb9 1 rfl (by simp) (by decide) gb9 dmk_80 ?_
          intro T h W K11 Vb9'
          replace KP := KP.otrN K11 sz_b9
          replace F_value_b8 := F_value_b8.keep K11 (nin1 ne_b8_b9)
          replace F_coder_b8 := F_coder_b8.keep K11 (nin1 ne_b8_b9)
          replace Ab8 := Ab8.keep K11
          replace hsz := W.size
          replace Vb9 : Arv Z h b9 kb9 .char (2 : Int32) [(.int c0), (.int (nar .char (43 : Int32)))] (.int (0 : Int32)) := Vb9'
          rw [nar_small (by decide : Sm (43 : Int32))] at Vb9
          show Go _ _ _ _ _ _ _ _ _ _ (mkF m 81 #[.val (.int x0), .val (.int c0), .val (.int (43 : Int32)), .val (.int n)] [(.ref b9), (.ref b8), (.ref b8)])
          refine W.specialB rfl (X.w 8 rfl) (X.w 9 rfl) (X.w 10 rfl) (by decide) (bk_new X W.hZ W.ext gb8 Ab8 F_value_b8 F_coder_b8 (cs := [c0, (43 : Int32)]) (n := 2) Vb9 rfl rfl (by decide) (by decide) (smS t_c0 (smS (by decide : Sm (43 : Int32)) sm0)) (by decide) (by decide)) [b8] (fun _ _ _ q => ⟨q.2.1, q.2.2.1⟩) (sfS (Safe.blank W.hZ.alike Ab8 F_value_b8) sf0) (allS gb8 all0) b8 [(.ref b9)] [(.ref b8)] rfl pd_4 rfl rfl rfl (Wd := 1) (Nat.le_of_eq rfl) dmk_81 (by decide) (by decide) ?_
          intro v T h L W hQ
          obtain ⟨rfl, -, Kb8, Sb8⟩ := hQ
          replace KP := KP.otrN Kb8 sz_b8
          replace Vb9 := Vb9.keep Kb8 (nin1 (Ne.symm ne_b8_b9))
          replace hsz := W.size
          show Go _ _ _ _ _ _ _ _ _ _ (mkF m 84 #[.val (.int x0), .val (.int c0), .val (.int (43 : Int32)), .val (.int n)] [(.ref b8)])
          exact W.retR rfl rfl rfl dmk_84 (⟨b8, _, rfl, gb8, KP, Sb8, Or.inr (Or.inr ⟨_, _, rfl, fun q => absurd q.2 (by decide)⟩)⟩) (by decide) (by decide)
    · refine Go.step (fun _ k => XS.icmpYes W.here W.hx rfl (pc0 := 26) (pc' := 32) rfl (W.d dmk_26) rfl (feq hc2).2 (by decide) (by decide) k) ?_
      show Go _ _ _ _ _ _ _ _ _ _ (mkF m 32 #[.val (.int x0), .val (.int c0), .val (.int c1), .unset] [])
      refine Go.step (fun _ k => XS.iloadN W.here W.hx rfl (W.d dmk_32) rfl k) ?_
      show Go _ _ _ _ _ _ _ _ _ _ (mkF m 33 #[.val (.int x0), .val (.int c0), .val (.int c1), .unset] [(.int x0)])
      refine Go.step (fun _ k => XS.bipush W.here W.hx rfl (W.d dmk_33) k) ?_
      show Go _ _ _ _ _ _ _ _ _ _ (mkF m 35 #[.val (.int x0), .val (.int c0), .val (.int c1), .unset] [(.int (16 : Int32)), (.int x0)])
      refine Go.step (fun _ k => XS.iushr W.here W.hx rfl (W.d dmk_35) rfl k) ?_
      show Go _ _ _ _ _ _ _ _ _ _ (mkF m 36 #[.val (.int x0), .val (.int c0), .val (.int c1), .unset] [(.int ((x0.toUInt32 >>> ((16 : Int32) &&& 31).toUInt32).toInt32))])
      refine Go.step (fun _ k => XS.iconst W.here W.hx rfl (W.d dmk_36) k) ?_
      show Go _ _ _ _ _ _ _ _ _ _ (mkF m 37 #[.val (.int x0), .val (.int c0), .val (.int c1), .unset] [(.int (3 : Int32)), (.int ((x0.toUInt32 >>> ((16 : Int32) &&& 31).toUInt32).toInt32))])
      refine Go.step (fun _ k => XS.iand W.here W.hx rfl (W.d dmk_37) rfl k) ?_
      show Go _ _ _ _ _ _ _ _ _ _ (mkF m 38 #[.val (.int x0), .val (.int c0), .val (.int c1), .unset] [(.int (((x0.toUInt32 >>> ((16 : Int32) &&& 31).toUInt32).toInt32) &&& (3 : Int32)))])
      refine Go.step (fun _ k => XS.iconst W.here W.hx rfl (W.d dmk_38) k) ?_
      show Go _ _ _ _ _ _ _ _ _ _ (mkF m 39 #[.val (.int x0), .val (.int c0), .val (.int c1), .unset] [(.int (3 : Int32)), (.int (((x0.toUInt32 >>> ((16 : Int32) &&& 31).toUInt32).toInt32) &&& (3 : Int32)))])
      refine Go.step (fun _ k => XS.irem W.here W.hx rfl (W.d dmk_39) rfl (by decide) k) ?_
      show Go _ _ _ _ _ _ _ _ _ _ (mkF m 40 #[.val (.int x0), .val (.int c0), .val (.int c1), .unset] [(.int ((((x0.toUInt32 >>> ((16 : Int32) &&& 31).toUInt32).toInt32) &&& (3 : Int32)) - ((((x0.toUInt32 >>> ((16 : Int32) &&& 31).toUInt32).toInt32) &&& (3 : Int32)) / (3 : Int32)) * (3 : Int32)))])
      refine Go.step (fun _ k => XS.istoreN W.here W.hx rfl (W.d dmk_40) rfl (l' := #[.val (.int x0), .val (.int c0), .val (.int c1), .val (.int ((((x0.toUInt32 >>> ((16 : Int32) &&& 31).toUInt32).toInt32) &&& (3 : Int32)) - ((((x0.toUInt32 >>> ((16 : Int32) &&& 31).toUInt32).toInt32) &&& (3 : Int32)) / (3 : Int32)) * (3 : Int32)))]) rfl k) ?_
      show Go _ _ _ _ _ _ _ _ _ _ (mkF m 41 #[.val (.int x0), .val (.int c0), .val (.int c1), .val (.int ((((x0.toUInt32 >>> ((16 : Int32) &&& 31).toUInt32).toInt32) &&& (3 : Int32)) - ((((x0.toUInt32 >>> ((16 : Int32) &&& 31).toUInt32).toInt32) &&& (3 : Int32)) / (3 : Int32)) * (3 : Int32)))] [])
      have t_n : T3 ((((x0.toUInt32 >>> ((16 : Int32) &&& 31).toUInt32).toInt32) &&& (3 : Int32)) - ((((x0.toUInt32 >>> ((16 : Int32) &&& 31).toUInt32).toInt32) &&& (3 : Int32)) / (3 : Int32)) * (3 : Int32)) := rem3 _
      generalize ((((x0.toUInt32 >>> ((16 : Int32) &&& 31).toUInt32).toInt32) &&& (3 : Int32)) - ((((x0.toUInt32 >>> ((16 : Int32) &&& 31).toUInt32).toInt32) &&& (3 : Int32)) / (3 : Int32)) * (3 : Int32)) = n at t_n ⊢
      refine Go.step (fun _ k => XS.iloadN W.here W.hx rfl (W.d dmk_41) rfl k) ?_
      show Go _ _ _ _ _ _ _ _ _ _ (mkF m 42 #[.val (.int x0), .val (.int c0), .val (.int c1), .val (.int n)] [(.int n)])
      by_cases hc12 : n = (0 : Int32)
      · refine Go.step (fun _ k => XS.ifNo W.here W.hx rfl (W.d dmk_42) rfl ((if0 _ _).trans (teq hc12).2) k) ?_
        show Go _ _ _ _ _ _ _ _ _ _ (mkF m 45 #[.val (.int x0), .val (.int c0), .val (.int c1), .val (.int n)] [])
        refine W.new (X.w 4 rfl) (X.w 5 rfl) (X.w 6 rfl) dmk_45 (by decide) (by decide) ?_
        intro T h b13 hb13 W Eb13 Ab13 Db13
        have sz_b13 : h0.size ≤ b13 := by rw [hb13]; exact KP.1
        have gb13 : Z.heap.size ≤ b13 := by rw [hb13]; exact hsz
        replace KP := KP.ext Eb13
        replace hsz := W.size
        have F_value_b13 : Fld Z h b13 "java/lang/String" "value" "[B" .null := Db13 (Or.inr (X.w 20 rfl)) (ty := (.array .byte)) (by decide)
        have F_coder_b13 : Fld Z h b13 "java/lang/String" "coder" "B" (.int (0 : Int32)) := Db13 (Or.inr (X.w 21 rfl)) (ty := .byte) (by decide)
        show Go _ _ _ _ _ _ _ _ _ _ (mkF m 48 #[.val (.int x0), .val (.int c0), .val (.int c1), .val (.int n)] [(.ref b13)])
        refine Go.step (fun _ k => XS.dup W.here W.hx rfl (W.d dmk_48) rfl rfl k) ?_
        show Go _ _ _ _ _ _ _ _ _ _ (mkF m 49 #[.val (.int x0), .val (.int c0), .val (.int c1), .val (.int n)] [(.ref b13), (.ref b13)])
        refine Go.step (fun _ k => XS.iconst W.here W.hx rfl (W.d dmk_49) k) ?_
        show Go _ _ _ _ _ _ _ _ _ _ (mkF m 50 #[.val (.int x0), .val (.int c0), .val (.int c1), .val (.int n)] [(.int (0 : Int32)), (.ref b13), (.ref b13)])
        refine W.newarr (X.w 7 rfl) dmk_50 (by decide) (cap := 0) (by decide) (by decide) (by decide) (by decide) ?_
        intro T h b14 kb14 hb14 W Eb14 Vb14 Sfb14
        have sz_b14 : h0.size ≤ b14 := by rw [hb14]; exact KP.1
        have ne_b13_b14 : b13 ≠ b14 := by rw [hb14]; exact Nat.ne_of_lt Ab13.lt
        have gb14 : Z.heap.size ≤ b14 := by rw [hb14]; exact hsz
        replace KP := KP.ext Eb14
        replace F_value_b13 := F_value_b13.ext Eb14
        replace F_coder_b13 := F_coder_b13.ext Eb14
        replace Ab13 := Ab13.ext Eb14
        replace hsz := W.size
        replace Vb14 : Arv Z h b14 kb14 .char (0 : Int32) [] (.int (0 : Int32)) := Vb14.pad (pad_rep [] (.int (0 : Int32)) 0)
        show Go _ _ _ _ _ _ _ _ _ _ (mkF m 52 #[.val (.int x0), .val (.int c0), .val (.int c1), .val (.int n)] [(.ref b14), (.ref b13), (.ref b13)])
        refine W.special rfl (X.w 8 rfl) (X.w 9 rfl) (X.w 6 rfl) (X.w 10 rfl) (by decide) (c_e1 X b13 b14 _ _ _ _ W.ext gb13 Ab13 F_value_b13 F_coder_b13 Vb14) (by decide) (Wd := 1) (by decide) b13 [(.ref b14)] [(.ref b13)] rfl pd_4 rfl rfl rfl (Nat.le_of_eq rfl) dmk_52 (by decide) (by decide) ?_
        intro v T h vm W hQ C
        obtain ⟨rfl, Kb13, Sb13⟩ := hQ
        replace KP := KP.otrN Kb13 sz_b13
        replace Vb14 := Vb14.keep Kb13 (nin1 (Ne.symm ne_b13_b14))
        replace hsz := W.size
        show Go _ _ _ _ _ _ _ _ _ _ (mkF m 55 #[.val (.int x0), .val (.int c0), .val (.int c1), .val (.int n)] [(.ref b13)])
        exact W.retR rfl rfl rfl dmk_55 (⟨b13, _, rfl, gb13, KP, Sb13, Or.inl rfl⟩) (by decide) (by decide)
      · refine Go.step (fun _ k => XS.ifYes W.here W.hx rfl (pc0 := 42) (pc' := 56) rfl (W.d dmk_42) rfl ((if0 _ _).trans (feq hc12).2) (by decide) (by decide) k) ?_
        show Go _ _ _ _ _ _ _ _ _ _ (mkF m 56 #[.val (.int x0), .val (.int c0), .val (.int c1), .val (.int n)] [])
        refine Go.step (fun _ k => XS.iloadN W.here W.hx rfl (W.d dmk_56) rfl k) ?_
        show Go _ _ _ _ _ _ _ _ _ _ (mkF m 57 #[.val (.int x0), .val (.int c0), .val (.int c1), .val (.int n)] [(.int n)])
        refine Go.step (fun _ k => XS.iconst W.here W.hx rfl (W.d dmk_57) k) ?_
        show Go _ _ _ _ _ _ _ _ _ _ (mkF m 58 #[.val (.int x0), .val (.int c0), .val (.int c1), .val (.int n)] [(.int (1 : Int32)), (.int n)])
        by_cases hc15 : n = (1 : Int32)
        · refine Go.step (fun _ k => XS.icmpNo W.here W.hx rfl (W.d dmk_58) rfl (teq hc15).2 k) ?_
          show Go _ _ _ _ _ _ _ _ _ _ (mkF m 61 #[.val (.int x0), .val (.int c0), .val (.int c1), .val (.int n)] [])
          refine Go.step (fun _ k => XS.iloadN W.here W.hx rfl (W.d dmk_61) rfl k) ?_
          show Go _ _ _ _ _ _ _ _ _ _ (mkF m 62 #[.val (.int x0), .val (.int c0), .val (.int c1), .val (.int n)] [(.int c0)])
          refine W.callS (X.w 206 rfl) (X.w 207 rfl) (X.w 6 rfl) (X.w 208 rfl) (by decide) (c_vo X c0 _ W.ext t_c0) (by decide) (Wd := 0) (by decide) [(.int c0)] [] rfl pd_5 rfl rfl rfl (Nat.le_of_eq rfl) dmk_62 (by decide) (by decide) ?_
          intro v T h vm W hQ C
          obtain ⟨b16, rfl, gb16, Kb16, Sb16⟩ := hQ
          replace KP := KP.otr0 Kb16
          replace hsz := W.size
          show Go _ _ _ _ _ _ _ _ _ _ (mkF m 65 #[.val (.int x0), .val (.int c0), .val (.int c1), .val (.int n)] [(.ref b16)])
          exact W.retR rfl rfl rfl dmk_65 (⟨b16, _, rfl, gb16, KP, Sb16, Or.inr (Or.inl ⟨_, rfl⟩)⟩) (by decide) (by decide)
        · refine Go.step (fun _ k => XS.icmpYes W.here W.hx rfl (pc0 := 58) (pc' := 66) rfl (W.d dmk_58) rfl (feq hc15).2 (by decide) (by decide) k) ?_
          show Go _ _ _ _ _ _ _ _ _ _ (mkF m 66 #[.val (.int x0), .val (.int c0), .val (.int c1), .val (.int n)] [])
          refine W.new (X.w 4 rfl) (X.w 5 rfl) (X.w 6 rfl) dmk_66 (by decide) (by decide) ?_
          intro T h b17 hb17 W Eb17 Ab17 Db17
          have sz_b17 : h0.size ≤ b17 := by rw [hb17]; exact KP.1
          have gb17 : Z.heap.size ≤ b17 := by rw [hb17]; exact hsz
          replace KP := KP.ext Eb17
          replace hsz := W.size
          have F_value_b17 : Fld Z h b17 "java/lang/String" "value" "[B" .null := Db17 (Or.inr (X.w 20 rfl)) (ty := (.array .byte)) (by decide)
          have F_coder_b17 : Fld Z h b17 "java/lang/String" "coder" "B" (.int (0 : Int32)) := Db17 (Or.inr (X.w 21 rfl)) (ty := .byte) (by decide)
          show Go _ _ _ _ _ _ _ _ _ _ (mkF m 69 #[.val (.int x0), .val (.int c0), .val (.int c1), .val (.int n)] [(.ref b17)])
          refine Go.step (fun _ k => XS.dup W.here W.hx rfl (W.d dmk_69) rfl rfl k) ?_
          show Go _ _ _ _ _ _ _ _ _ _ (mkF m 70 #[.val (.int x0), .val (.int c0), .val (.int c1), .val (.int n)] [(.ref b17), (.ref b17)])
          refine Go.step (fun _ k => XS.iconst W.here W.hx rfl (W.d dmk_70) k) ?_
          show Go _ _ _ _ _ _ _ _ _ _ (mkF m 71 #[.val (.int x0), .val (.int c0), .val (.int c1), .val (.int n)] [(.int (2 : Int32)), (.ref b17), (.ref b17)])
          refine W.newarr (X.w 7 rfl) dmk_71 (by decide) (cap := 2) (by decide) (by decide) (by decide) (by decide) ?_
          intro T h b18 kb18 hb18 W Eb18 Vb18 Sfb18
          have sz_b18 : h0.size ≤ b18 := by rw [hb18]; exact KP.1
          have ne_b17_b18 : b17 ≠ b18 := by rw [hb18]; exact Nat.ne_of_lt Ab17.lt
          have gb18 : Z.heap.size ≤ b18 := by rw [hb18]; exact hsz
          replace KP := KP.ext Eb18
          replace F_value_b17 := F_value_b17.ext Eb18
          replace F_coder_b17 := F_coder_b17.ext Eb18
          replace Ab17 := Ab17.ext Eb18
          replace hsz := W.size
          replace Vb18 : Arv Z h b18 kb18 .char (2 : Int32) [(.int (0 : Int32)), (.int (0 : Int32))] (.int (0 : Int32)) := Vb18.pad (pad_rep [] (.int (0 : Int32)) 2)
          show Go _ _ _ _ _ _ _ _ _ _ (mkF m 73 #[.val (.int x0), .val (.int c0), .val (.int c1), .val (.int n)] [(.ref b18), (.ref b17), (.ref b17)])
          refine Go.step (fun _ k => XS.dup W.here W.hx rfl (W.d dmk_73) rfl rfl k) ?_
          show Go _ _ _ _ _ _ _ _ _ _ (mkF m 74 #[.val (.int x0), .val (.int c0), .val (.int c1), .val (.int n)] [(.ref b18), (.ref b18), (.ref b17), (.ref b17)])
          refine Go.step (fun _ k => XS.iconst W.here W.hx rfl (W.d dmk_74) k) ?_
          show Go _ _ _ _ _ _ _ _ _ _ (mkF m 75 #[.val (.int x0), .val (.int c0), .val (.int c1), .val (.int n)] [(.int (0 : Int32)), (.ref b18), (.ref b18), (.ref b17), (.ref b17)])
          refine Go.step (fun _ k => XS.iloadN W.here W.hx rfl (W.d dmk_75) rfl k) ?_
          show Go _ _ _ _ _ _ _ _ _ _ (mkF m 76 #[.val (.int x0), .val (.int c0), .val (.int c1), .val (.int n)] [(.int c0), (.int (0 : Int32)), (.ref b18), (.ref b18), (.ref b17), (.ref b17)])
          refine W.castore Vb18 0 rfl (by simp) (by decide) gb18 dmk_76 ?_
          intro T h W K19 Vb18'
          replace KP := KP.otrN K19 sz_b18
          replace F_value_b17 := F_value_b17.keep K19 (nin1 ne_b17_b18)
          replace F_coder_b17 := F_coder_b17.keep K19 (nin1 ne_b17_b18)
          replace Ab17 := Ab17.keep K19
          replace hsz := W.size
          replace Vb18 : Arv Z h b18 kb18 .char (2 : Int32) [(.int (nar .char c0)), (.int (0 : Int32))] (.int (0 : Int32)) := Vb18'
          rw [nar_small t_c0] at Vb18
          show Go _ _ _ _ _ _ _ _ _ _ (mkF m 77 #[.val (.int x0), .val (.int c0), .val (.int c1), .val (.int n)] [(.ref b18), (.ref b17), (.ref b17)])
          refine Go.step (fun _ k => XS.dup W.here W.hx rfl (W.d dmk_77) rfl rfl k) ?_
          show Go _ _ _ _ _ _ _ _ _ _ (mkF m 78 #[.val (.int x0), .val (.int c0), .val (.int c1), .val (.int n)] [(.ref b18), (.ref b18), (.ref b17), (.ref b17)])
          refine Go.step (fun _ k => XS.iconst W.here W.hx rfl (W.d dmk_78) k) ?_
          show Go _ _ _ _ _ _ _ _ _ _ (mkF m 79 #[.val (.int x0), .val (.int c0), .val (.int c1), .val (.int n)] [(.int (1 : Int32)), (.ref b18), (.ref b18), (.ref b17), (.ref b17)])
          refine Go.step (fun _ k => XS.iloadN W.here W.hx rfl (W.d dmk_79) rfl k) ?_
          show Go _ _ _ _ _ _ _ _ _ _ (mkF m 80 #[.val (.int x0), .val (.int c0), .val (.int c1), .val (.int n)] [(.int c1), (.int (1 : Int32)), (.ref b18), (.ref b18), (.ref b17), (.ref b17)])
          refine W.castore Vb18 1 rfl (by simp) (by decide) gb18 dmk_80 ?_
          intro T h W K20 Vb18'
          replace KP := KP.otrN K20 sz_b18
          replace F_value_b17 := F_value_b17.keep K20 (nin1 ne_b17_b18)
          replace F_coder_b17 := F_coder_b17.keep K20 (nin1 ne_b17_b18)
          replace Ab17 := Ab17.keep K20
          replace hsz := W.size
          replace Vb18 : Arv Z h b18 kb18 .char (2 : Int32) [(.int c0), (.int (nar .char c1))] (.int (0 : Int32)) := Vb18'
          rw [nar_small t_c1] at Vb18
          show Go _ _ _ _ _ _ _ _ _ _ (mkF m 81 #[.val (.int x0), .val (.int c0), .val (.int c1), .val (.int n)] [(.ref b18), (.ref b17), (.ref b17)])
          refine W.specialB rfl (X.w 8 rfl) (X.w 9 rfl) (X.w 10 rfl) (by decide) (bk_new X W.hZ W.ext gb17 Ab17 F_value_b17 F_coder_b17 (cs := [c0, c1]) (n := 2) Vb18 rfl rfl (by decide) (by decide) (smS t_c0 (smS t_c1 sm0)) (by decide) (by decide)) [b17] (fun _ _ _ q => ⟨q.2.1, q.2.2.1⟩) (sfS (Safe.blank W.hZ.alike Ab17 F_value_b17) sf0) (allS gb17 all0) b17 [(.ref b18)] [(.ref b17)] rfl pd_4 rfl rfl rfl (Wd := 1) (Nat.le_of_eq rfl) dmk_81 (by decide) (by decide) ?_
          intro v T h L W hQ
          obtain ⟨rfl, -, Kb17, Sb17⟩ := hQ
          replace KP := KP.otrN Kb17 sz_b17
          replace Vb18 := Vb18.keep Kb17 (nin1 (Ne.symm ne_b17_b18))
          replace hsz := W.size
          show Go _ _ _ _ _ _ _ _ _ _ (mkF m 84 #[.val (.int x0), .val (.int c0), .val (.int c1), .val (.int n)] [(.ref b17)])
          exact W.retR rfl rfl rfl dmk_84 (⟨b17, _, rfl, gb17, KP, Sb17, Or.inr (Or.inr ⟨_, _, rfl, fun q => hc2 q.2⟩)⟩) (by decide) (by decide)
  · refine Go.step (fun _ k => XS.icmpYes W.here W.hx rfl (pc0 := 20) (pc' := 32) rfl (W.d dmk_20) rfl (feq hc1).2 (by decide) (by decide) k) ?_
    show Go _ _ _ _ _ _ _ _ _ _ (mkF m 32 #[.val (.int x0), .val (.int c0), .val (.int c1), .unset] [])
    refine Go.step (fun _ k => XS.iloadN W.here W.hx rfl (W.d dmk_32) rfl k) ?_
    show Go _ _ _ _ _ _ _ _ _ _ (mkF m 33 #[.val (.int x0), .val (.int c0), .val (.int c1), .unset] [(.int x0)])
    refine Go.step (fun _ k => XS.bipush W.here W.hx rfl (W.d dmk_33) k) ?_
    show Go _ _ _ _ _ _ _ _ _ _ (mkF m 35 #[.val (.int x0), .val (.int c0), .val (.int c1), .unset] [(.int (16 : Int32)), (.int x0)])
    refine Go.step (fun _ k => XS.iushr W.here W.hx rfl (W.d dmk_35) rfl k) ?_
    show Go _ _ _ _ _ _ _ _ _ _ (mkF m 36 #[.val (.int x0), .val (.int c0), .val (.int c1), .unset] [(.int ((x0.toUInt32 >>> ((16 : Int32) &&& 31).toUInt32).toInt32))])
    refine Go.step (fun _ k => XS.iconst W.here W.hx rfl (W.d dmk_36) k) ?_
    show Go _ _ _ _ _ _ _ _ _ _ (mkF m 37 #[.val (.int x0), .val (.int c0), .val (.int c1), .unset] [(.int (3 : Int32)), (.int ((x0.toUInt32 >>> ((16 : Int32) &&& 31).toUInt32).toInt32))])
    refine Go.step (fun _ k => XS.iand W.here W.hx rfl (W.d dmk_37) rfl k) ?_
    show Go _ _ _ _ _ _ _ _ _ _ (mkF m 38 #[.val (.int x0), .val (.int c0), .val (.int c1), .unset] [(.int (((x0.toUInt32 >>> ((16 : Int32) &&& 31).toUInt32).toInt32) &&& (3 : Int32)))])
    refine Go.step (fun _ k => XS.iconst W.here W.hx rfl (W.d dmk_38) k) ?_
    show Go _ _ _ _ _ _ _ _ _ _ (mkF m 39 #[.val (.int x0), .val (.int c0), .val (.int c1), .unset] [(.int (3 : Int32)), (.int (((x0.toUInt32 >>> ((16 : Int32) &&& 31).toUInt32).toInt32) &&& (3 : Int32)))])
    refine Go.step (fun _ k => XS.irem W.here W.hx rfl (W.d dmk_39) rfl (by decide) k) ?_
    show Go _ _ _ _ _ _ _ _ _ _ (mkF m 40 #[.val (.int x0), .val (.int c0), .val (.int c1), .unset] [(.int ((((x0.toUInt32 >>> ((16 : Int32) &&& 31).toUInt32).toInt32) &&& (3 : Int32)) - ((((x0.toUInt32 >>> ((16 : Int32) &&& 31).toUInt32).toInt32) &&& (3 : Int32)) / (3 : Int32)) * (3 : Int32)))])
    refine Go.step (fun _ k => XS.istoreN W.here W.hx rfl (W.d dmk_40) rfl (l' := #[.val (.int x0), .val (.int c0), .val (.int c1), .val (.int ((((x0.toUInt32 >>> ((16 : Int32) &&& 31).toUInt32).toInt32) &&& (3 : Int32)) - ((((x0.toUInt32 >>> ((16 : Int32) &&& 31).toUInt32).toInt32) &&& (3 : Int32)) / (3 : Int32)) * (3 : Int32)))]) rfl k) ?_
    show Go _ _ _ _ _ _ _ _ _ _ (mkF m 41 #[.val (.int x0), .val (.int c0), .val (.int c1), .val (.int ((((x0.toUInt32 >>> ((16 : Int32) &&& 31).toUInt32).toInt32) &&& (3 : Int32)) - ((((x0.toUInt32 >>> ((16 : Int32) &&& 31).toUInt32).toInt32) &&& (3 : Int32)) / (3 : Int32)) * (3 : Int32)))] [])
    have t_n : T3 ((((x0.toUInt32 >>> ((16 : Int32) &&& 31).toUInt32).toInt32) &&& (3 : Int32)) - ((((x0.toUInt32 >>> ((16 : Int32) &&& 31).toUInt32).toInt32) &&& (3 : Int32)) / (3 : Int32)) * (3 : Int32)) := rem3 _
    generalize ((((x0.toUInt32 >>> ((16 : Int32) &&& 31).toUInt32).toInt32) &&& (3 : Int32)) - ((((x0.toUInt32 >>> ((16 : Int32) &&& 31).toUInt32).toInt32) &&& (3 : Int32)) / (3 : Int32)) * (3 : Int32)) = n at t_n ⊢
    refine Go.step (fun _ k => XS.iloadN W.here W.hx rfl (W.d dmk_41) rfl k) ?_
    show Go _ _ _ _ _ _ _ _ _ _ (mkF m 42 #[.val (.int x0), .val (.int c0), .val (.int c1), .val (.int n)] [(.int n)])
    by_cases hc21 : n = (0 : Int32)
    · refine Go.step (fun _ k => XS.ifNo W.here W.hx rfl (W.d dmk_42) rfl ((if0 _ _).trans (teq hc21).2) k) ?_
      show Go _ _ _ _ _ _ _ _ _ _ (mkF m 45 #[.val (.int x0), .val (.int c0), .val (.int c1), .val (.int n)] [])
      refine W.new (X.w 4 rfl) (X.w 5 rfl) (X.w 6 rfl) dmk_45 (by decide) (by decide) ?_
      intro T h b22 hb22 W Eb22 Ab22 Db22
      have sz_b22 : h0.size ≤ b22 := by rw [hb22]; exact KP.1
      have gb22 : Z.heap.size ≤ b22 := by rw [hb22]; exact hsz
      replace KP := KP.ext Eb22
      replace hsz := W.size
      have F_value_b22 : Fld Z h b22 "java/lang/String" "value" "[B" .null := Db22 (Or.inr (X.w 20 rfl)) (ty := (.array .byte)) (by decide)
      have F_coder_b22 : Fld Z h b22 "java/lang/String" "coder" "B" (.int (0 : Int32)) := Db22 (Or.inr (X.w 21 rfl)) (ty := .byte) (by decide)
      show Go _ _ _ _ _ _ _ _ _ _ (mkF m 48 #[.val (.int x0), .val (.int c0), .val (.int c1), .val (.int n)] [(.ref b22)])
      refine Go.step (fun _ k => XS.dup W.here W.hx rfl (W.d dmk_48) rfl rfl k) ?_
      show Go _ _ _ _ _ _ _ _ _ _ (mkF m 49 #[.val (.int x0), .val (.int c0), .val (.int c1), .val (.int n)] [(.ref b22), (.ref b22)])
      refine Go.step (fun _ k => XS.iconst W.here W.hx rfl (W.d dmk_49) k) ?_
      show Go _ _ _ _ _ _ _ _ _ _ (mkF m 50 #[.val (.int x0), .val (.int c0), .val (.int c1), .val (.int n)] [(.int (0 : Int32)), (.ref b22), (.ref b22)])
      refine W.newarr (X.w 7 rfl) dmk_50 (by decide) (cap := 0) (by decide) (by decide) (by decide) (by decide) ?_
      intro T h b23 kb23 hb23 W Eb23 Vb23 Sfb23
      have sz_b23 : h0.size ≤ b23 := by rw [hb23]; exact KP.1
      have ne_b22_b23 : b22 ≠ b23 := by rw [hb23]; exact Nat.ne_of_lt Ab22.lt
      have gb23 : Z.heap.size ≤ b23 := by rw [hb23]; exact hsz
      replace KP := KP.ext Eb23
      replace F_value_b22 := F_value_b22.ext Eb23
      replace F_coder_b22 := F_coder_b22.ext Eb23
      replace Ab22 := Ab22.ext Eb23
      replace hsz := W.size
      replace Vb23 : Arv Z h b23 kb23 .char (0 : Int32) [] (.int (0 : Int32)) := Vb23.pad (pad_rep [] (.int (0 : Int32)) 0)
      show Go _ _ _ _ _ _ _ _ _ _ (mkF m 52 #[.val (.int x0), .val (.int c0), .val (.int c1), .val (.int n)] [(.ref b23), (.ref b22), (.ref b22)])
      refine W.special rfl (X.w 8 rfl) (X.w 9 rfl) (X.w 6 rfl) (X.w 10 rfl) (by decide) (c_e1 X b22 b23 _ _ _ _ W.ext gb22 Ab22 F_value_b22 F_coder_b22 Vb23) (by decide) (Wd := 1) (by decide) b22 [(.ref b23)] [(.ref b22)] rfl pd_4 rfl rfl rfl (Nat.le_of_eq rfl) dmk_52 (by decide) (by decide) ?_
      intro v T h vm W hQ C
      obtain ⟨rfl, Kb22, Sb22⟩ := hQ
      replace KP := KP.otrN Kb22 sz_b22
      replace Vb23 := Vb23.keep Kb22 (nin1 (Ne.symm ne_b22_b23))
      replace hsz := W.size
      show Go _ _ _ _ _ _ _ _ _ _ (mkF m 55 #[.val (.int x0), .val (.int c0), .val (.int c1), .val (.int n)] [(.ref b22)])
      exact W.retR rfl rfl rfl dmk_55 (⟨b22, _, rfl, gb22, KP, Sb22, Or.inl rfl⟩) (by decide) (by decide)
    · refine Go.step (fun _ k => XS.ifYes W.here W.hx rfl (pc0 := 42) (pc' := 56) rfl (W.d dmk_42) rfl ((if0 _ _).trans (feq hc21).2) (by decide) (by decide) k) ?_
      show Go _ _ _ _ _ _ _ _ _ _ (mkF m 56 #[.val (.int x0), .val (.int c0), .val (.int c1), .val (.int n)] [])
      refine Go.step (fun _ k => XS.iloadN W.here W.hx rfl (W.d dmk_56) rfl k) ?_
      show Go _ _ _ _ _ _ _ _ _ _ (mkF m 57 #[.val (.int x0), .val (.int c0), .val (.int c1), .val (.int n)] [(.int n)])
      refine Go.step (fun _ k => XS.iconst W.here W.hx rfl (W.d dmk_57) k) ?_
      show Go _ _ _ _ _ _ _ _ _ _ (mkF m 58 #[.val (.int x0), .val (.int c0), .val (.int c1), .val (.int n)] [(.int (1 : Int32)), (.int n)])
      by_cases hc24 : n = (1 : Int32)
      · refine Go.step (fun _ k => XS.icmpNo W.here W.hx rfl (W.d dmk_58) rfl (teq hc24).2 k) ?_
        show Go _ _ _ _ _ _ _ _ _ _ (mkF m 61 #[.val (.int x0), .val (.int c0), .val (.int c1), .val (.int n)] [])
        refine Go.step (fun _ k => XS.iloadN W.here W.hx rfl (W.d dmk_61) rfl k) ?_
        show Go _ _ _ _ _ _ _ _ _ _ (mkF m 62 #[.val (.int x0), .val (.int c0), .val (.int c1), .val (.int n)] [(.int c0)])
        refine W.callS (X.w 206 rfl) (X.w 207 rfl) (X.w 6 rfl) (X.w 208 rfl) (by decide) (c_vo X c0 _ W.ext t_c0) (by decide) (Wd := 0) (by decide) [(.int c0)] [] rfl pd_5 rfl rfl rfl (Nat.le_of_eq rfl) dmk_62 (by decide) (by decide) ?_
        intro v T h vm W hQ C
        obtain ⟨b25, rfl, gb25, Kb25, Sb25⟩ := hQ
        replace KP := KP.otr0 Kb25
        replace hsz := W.size
        show Go _ _ _ _ _ _ _ _ _ _ (mkF m 65 #[.val (.int x0), .val (.int c0), .val (.int c1), .val (.int n)] [(.ref b25)])
        exact W.retR rfl rfl rfl dmk_65 (⟨b25, _, rfl, gb25, KP, Sb25, Or.inr (Or.inl ⟨_, rfl⟩)⟩) (by decide) (by decide)
      · refine Go.step (fun _ k => XS.icmpYes W.here W.hx rfl (pc0 := 58) (pc' := 66) rfl (W.d dmk_58) rfl (feq hc24).2 (by decide) (by decide) k) ?_
        show Go _ _ _ _ _ _ _ _ _ _ (mkF m 66 #[.val (.int x0), .val (.int c0), .val (.int c1), .val (.int n)] [])
        refine W.new (X.w 4 rfl) (X.w 5 rfl) (X.w 6 rfl) dmk_66 (by decide) (by decide) ?_
        intro T h b26 hb26 W Eb26 Ab26 Db26
        have sz_b26 : h0.size ≤ b26 := by rw [hb26]; exact KP.1
        have gb26 : Z.heap.size ≤ b26 := by rw [hb26]; exact hsz
        replace KP := KP.ext Eb26
        replace hsz := W.size
        have F_value_b26 : Fld Z h b26 "java/lang/String" "value" "[B" .null := Db26 (Or.inr (X.w 20 rfl)) (ty := (.array .byte)) (by decide)
        have F_coder_b26 : Fld Z h b26 "java/lang/String" "coder" "B" (.int (0 : Int32)) := Db26 (Or.inr (X.w 21 rfl)) (ty := .byte) (by decide)
        show Go _ _ _ _ _ _ _ _ _ _ (mkF m 69 #[.val (.int x0), .val (.int c0), .val (.int c1), .val (.int n)] [(.ref b26)])
        refine Go.step (fun _ k => XS.dup W.here W.hx rfl (W.d dmk_69) rfl rfl k) ?_
        show Go _ _ _ _ _ _ _ _ _ _ (mkF m 70 #[.val (.int x0), .val (.int c0), .val (.int c1), .val (.int n)] [(.ref b26), (.ref b26)])
        refine Go.step (fun _ k => XS.iconst W.here W.hx rfl (W.d dmk_70) k) ?_
        show Go _ _ _ _ _ _ _ _ _ _ (mkF m 71 #[.val (.int x0), .val (.int c0), .val (.int c1), .val (.int n)] [(.int (2 : Int32)), (.ref b26), (.ref b26)])
        refine W.newarr (X.w 7 rfl) dmk_71 (by decide) (cap := 2) (by decide) (by decide) (by decide) (by decide) ?_
        intro T h b27 kb27 hb27 W Eb27 Vb27 Sfb27
        have sz_b27 : h0.size ≤ b27 := by rw [hb27]; exact KP.1
        have ne_b26_b27 : b26 ≠ b27 := by rw [hb27]; exact Nat.ne_of_lt Ab26.lt
        have gb27 : Z.heap.size ≤ b27 := by rw [hb27]; exact hsz
        replace KP := KP.ext Eb27
        replace F_value_b26 := F_value_b26.ext Eb27
        replace F_coder_b26 := F_coder_b26.ext Eb27
        replace Ab26 := Ab26.ext Eb27
        replace hsz := W.size
        replace Vb27 : Arv Z h b27 kb27 .char (2 : Int32) [(.int (0 : Int32)), (.int (0 : Int32))] (.int (0 : Int32)) := Vb27.pad (pad_rep [] (.int (0 : Int32)) 2)
        show Go _ _ _ _ _ _ _ _ _ _ (mkF m 73 #[.val (.int x0), .val (.int c0), .val (.int c1), .val (.int n)] [(.ref b27), (.ref b26), (.ref b26)])
        refine Go.step (fun _ k => XS.dup W.here W.hx rfl (W.d dmk_73) rfl rfl k) ?_
        show Go _ _ _ _ _ _ _ _ _ _ (mkF m 74 #[.val (.int x0), .val (.int c0), .val (.int c1), .val (.int n)] [(.ref b27), (.ref b27), (.ref b26), (.ref b26)])
        refine Go.step (fun _ k => XS.iconst W.here W.hx rfl (W.d dmk_74) k) ?_
        show Go _ _ _ _ _ _ _ _ _ _ (mkF m 75 #[.val (.int x0), .val (.int c0), .val (.int c1), .val (.int n)] [(.int (0 : Int32)), (.ref b27), (.ref b27), (.ref b26), (.ref b26)])
        refine Go.step (fun _ k => XS.iloadN W.here W.hx rfl (W.d dmk_75) rfl k) ?_
        show Go _ _ _ _ _ _ _ _ _ _ (mkF m 76 #[.val (.int x0), .val (.int c0), .val (.int c1), .val (.int n)] [(.int c0), (.int (0 : Int32)), (.ref b27), (.ref b27), (.ref b26), (.ref b26)])
        refine W.castore Vb27 0 rfl (by simp) (by decide) gb27 dmk_76 ?_
        intro T h W K28 Vb27'
        replace KP := KP.otrN K28 sz_b27
        replace F_value_b26 := F_value_b26.keep K28 (nin1 ne_b26_b27)
        replace F_coder_b26 := F_coder_b26.keep K28 (nin1 ne_b26_b27)
        replace Ab26 := Ab26.keep K28
        replace hsz := W.size
        replace Vb27 : Arv Z h b27 kb27 .char (2 : Int32) [(.int (nar .char c0)), (.int (0 : Int32))] (.int (0 : Int32)) := Vb27'
        rw [nar_small t_c0] at Vb27
        show Go _ _ _ _ _ _ _ _ _ _ (mkF m 77 #[.val (.int x0), .val (.int c0), .val (.int c1), .val (.int n)] [(.ref b27), (.ref b26), (.ref b26)])
        refine Go.step (fun _ k => XS.dup W.here W.hx rfl (W.d dmk_77) rfl rfl k) ?_
        show Go _ _ _ _ _ _ _ _ _ _ (mkF m 78 #[.val (.int x0), .val (.int c0), .val (.int c1), .val (.int n)] [(.ref b27), (.ref b27), (.ref b26), (.ref b26)])
        refine Go.step (fun _ k => XS.iconst W.here W.hx rfl (W.d dmk_78) k) ?_
        show Go _ _ _ _ _ _ _ _ _ _ (mkF m 79 #[.val (.int x0), .val (.int c0), .val (.int c1), .val (.int n)] [(.int (1 : Int32)), (.ref b27), (.ref b27), (.ref b26), (.ref b26)])
        refine Go.step (fun _ k => XS.iloadN W.here W.hx rfl (W.d dmk_79) rfl k) ?_
        show Go _ _ _ _ _ _ _ _ _ _ (mkF m 80 #[.val (.int x0), .val (.int c0), .val (.int c1), .val (.int n)] [(.int c1), (.int (1 : Int32)), (.ref b27), (.ref b27), (.ref b26), (.ref b26)])
        refine W.castore Vb27 1 rfl (by simp) (by decide) gb27 dmk_80 ?_
        intro T h W K29 Vb27'
        replace KP := KP.otrN K29 sz_b27
        replace F_value_b26 := F_value_b26.keep K29 (nin1 ne_b26_b27)
        replace F_coder_b26 := F_coder_b26.keep K29 (nin1 ne_b26_b27)
        replace Ab26 := Ab26.keep K29
        replace hsz := W.size
        replace Vb27 : Arv Z h b27 kb27 .char (2 : Int32) [(.int c0), (.int (nar .char c1))] (.int (0 : Int32)) := Vb27'
        rw [nar_small t_c1] at Vb27
        show Go _ _ _ _ _ _ _ _ _ _ (mkF m 81 #[.val (.int x0), .val (.int c0), .val (.int c1), .val (.int n)] [(.ref b27), (.ref b26), (.ref b26)])
        refine W.specialB rfl (X.w 8 rfl) (X.w 9 rfl) (X.w 10 rfl) (by decide) (bk_new X W.hZ W.ext gb26 Ab26 F_value_b26 F_coder_b26 (cs := [c0, c1]) (n := 2) Vb27 rfl rfl (by decide) (by decide) (smS t_c0 (smS t_c1 sm0)) (by decide) (by decide)) [b26] (fun _ _ _ q => ⟨q.2.1, q.2.2.1⟩) (sfS (Safe.blank W.hZ.alike Ab26 F_value_b26) sf0) (allS gb26 all0) b26 [(.ref b27)] [(.ref b26)] rfl pd_4 rfl rfl rfl (Wd := 1) (Nat.le_of_eq rfl) dmk_81 (by decide) (by decide) ?_
        intro v T h L W hQ
        obtain ⟨rfl, -, Kb26, Sb26⟩ := hQ
        replace KP := KP.otrN Kb26 sz_b26
        replace Vb27 := Vb27.keep Kb26 (nin1 (Ne.symm ne_b26_b27))
        replace hsz := W.size
        show Go _ _ _ _ _ _ _ _ _ _ (mkF m 84 #[.val (.int x0), .val (.int c0), .val (.int c1), .val (.int n)] [(.ref b26)])
        exact W.retR rfl rfl rfl dmk_84 (⟨b26, _, rfl, gb26, KP, Sb26, Or.inr (Or.inr ⟨_, _, rfl, fun q => hc1 q.1⟩)⟩) (by decide) (by decide)

theorem dabc_0 : decode jdk_22_method_1_code 0 = .ok (.aload_n 0, 1) := by decide +kernel
theorem dabc_1 : decode jdk_22_method_1_code 1 = .ok (.invokespecial 1, 3) := by decide +kernel
theorem dabc_4 : decode jdk_22_method_1_code 4 = .ok (.return_, 1) := by decide +kernel
theorem efabc (m : MethodId) (x0 : Addr) : entryFrame m #[(.ref x0)] 1 = mkF m 0 #[.val (.ref x0)] [] := by first | (simp [entryFrame, mkF, argsToLocals, Value.category]; done) | rfl
set_option maxRecDepth 65536 in
set_option maxHeartbeats 40000000 in
theorem c_abc {l : Launch} {Z : State} {a0 : Array Value} {G1 : Int32} (X : Ctx Z a0 G1) (a : Addr) (h0 : Heap) (hE : Ext Z.heap h0)  :
    Con l Z consts_1 (⟨"java/util/AbstractCollection", "<init>", "()V"⟩ : MethodName) jdk_22_method_1_code 1 none [] ({ frames := 1, cells := 0, slots := 0, locals := 12 } : Room) #[(.ref a)] h0 (fun v h => v = none ∧ h0 = h) := by
  refine Con.intro (plainFor_of_name pn_3) hE X.el ?_
  intro p e s m below meth c T W
  have hsz := W.size
  refine Go.cast (efabc m a) ?_
  refine Go.step (fun _ k => XS.aloadN W.here W.hx rfl (W.d dabc_0) rfl rfl k) ?_
  show Go _ _ _ _ _ _ _ _ _ _ (mkF m 1 #[.val (.ref a)] [(.ref a)])
  refine W.initO (X.w 44 rfl) (X.w 16 rfl) (X.w 17 rfl) rfl dabc_1 (by decide) (Wd := 0) (Nat.le_of_eq rfl) (by decide) ?_
  intro T W
  show Go _ _ _ _ _ _ _ _ _ _ (mkF m 4 #[.val (.ref a)] [])
  exact W.retV dabc_4 (⟨rfl, rfl⟩) (by decide) (by decide)

theorem dabm_0 : decode jdk_71_method_1_code 0 = .ok (.aload_n 0, 1) := by decide +kernel
theorem dabm_1 : decode jdk_71_method_1_code 1 = .ok (.invokespecial 1, 3) := by decide +kernel
theorem dabm_4 : decode jdk_71_method_1_code 4 = .ok (.return_, 1) := by decide +kernel
theorem efabm (m : MethodId) (x0 : Addr) : entryFrame m #[(.ref x0)] 1 = mkF m 0 #[.val (.ref x0)] [] := by first | (simp [entryFrame, mkF, argsToLocals, Value.category]; done) | rfl
set_option maxRecDepth 65536 in
set_option maxHeartbeats 40000000 in
theorem c_abm {l : Launch} {Z : State} {a0 : Array Value} {G1 : Int32} (X : Ctx Z a0 G1) (a : Addr) (h0 : Heap) (hE : Ext Z.heap h0)  :
    Con l Z consts_1 (⟨"java/util/AbstractMap", "<init>", "()V"⟩ : MethodName) jdk_71_method_1_code 1 none [] ({ frames := 1, cells := 0, slots := 0, locals := 12 } : Room) #[(.ref a)] h0 (fun v h => v = none ∧ h0 = h) := by
  refine Con.intro (plainFor_of_name pn_4) hE X.el ?_
  intro p e s m below meth c T W
  have hsz := W.size
  refine Go.cast (efabm m a) ?_
  refine Go.step (fun _ k => XS.aloadN W.here W.hx rfl (W.d dabm_0) rfl rfl k) ?_
  show Go _ _ _ _ _ _ _ _ _ _ (mkF m 1 #[.val (.ref a)] [(.ref a)])
  refine W.initO (X.w 70 rfl) (X.w 16 rfl) (X.w 17 rfl) rfl dabm_1 (by decide) (Wd := 0) (Nat.le_of_eq rfl) (by decide) ?_
  intro T W
  show Go _ _ _ _ _ _ _ _ _ _ (mkF m 4 #[.val (.ref a)] [])
  exact W.retV dabm_4 (⟨rfl, rfl⟩) (by decide) (by decide)

theorem dabs_0 : decode jdk_91_method_1_code 0 = .ok (.aload_n 0, 1) := by decide +kernel
theorem dabs_1 : decode jdk_91_method_1_code 1 = .ok (.invokespecial 1, 3) := by decide +kernel
theorem dabs_4 : decode jdk_91_method_1_code 4 = .ok (.return_, 1) := by decide +kernel
theorem efabs (m : MethodId) (x0 : Addr) : entryFrame m #[(.ref x0)] 1 = mkF m 0 #[.val (.ref x0)] [] := by first | (simp [entryFrame, mkF, argsToLocals, Value.category]; done) | rfl
set_option maxRecDepth 65536 in
set_option maxHeartbeats 40000000 in
theorem c_abs {l : Launch} {Z : State} {a0 : Array Value} {G1 : Int32} (X : Ctx Z a0 G1) (a : Addr) (h0 : Heap) (hE : Ext Z.heap h0)  :
    Con l Z consts_1 (⟨"java/util/AbstractSet", "<init>", "()V"⟩ : MethodName) jdk_91_method_1_code 1 none [] ({ frames := 2, cells := 0, slots := 0, locals := 24 } : Room) #[(.ref a)] h0 (fun v h => v = none ∧ h0 = h) := by
  refine Con.intro (plainFor_of_name pn_5) hE X.el ?_
  intro p e s m below meth c T W
  have hsz := W.size
  refine Go.cast (efabs m a) ?_
  refine Go.step (fun _ k => XS.aloadN W.here W.hx rfl (W.d dabs_0) rfl rfl k) ?_
  show Go _ _ _ _ _ _ _ _ _ _ (mkF m 1 #[.val (.ref a)] [(.ref a)])
  refine W.special rfl (X.w 88 rfl) (X.w 39 rfl) (X.w 42 rfl) (X.w 43 rfl) (by decide) (c_abc X a _ W.ext) (by decide) (Wd := 0) (by decide) a [] [] rfl pd_6 rfl rfl rfl (Nat.le_of_eq rfl) dabs_1 (by decide) (by decide) ?_
  intro v T h vm W hQ C
  obtain ⟨rfl, rfl⟩ := hQ
  show Go _ _ _ _ _ _ _ _ _ _ (mkF m 4 #[.val (.ref a)] [])
  exact W.retV dabs_4 (⟨rfl, rfl⟩) (by decide) (by decide)

theorem dabl_0 : decode jdk_39_method_1_code 0 = .ok (.aload_n 0, 1) := by decide +kernel
theorem dabl_1 : decode jdk_39_method_1_code 1 = .ok (.invokespecial 1, 3) := by decide +kernel
theorem dabl_4 : decode jdk_39_method_1_code 4 = .ok (.aload_n 0, 1) := by decide +kernel
theorem dabl_5 : decode jdk_39_method_1_code 5 = .ok (.iconst 0, 1) := by decide +kernel
theorem dabl_6 : decode jdk_39_method_1_code 6 = .ok (.putfield 7, 3) := by decide +kernel
theorem dabl_9 : decode jdk_39_method_1_code 9 = .ok (.return_, 1) := by decide +kernel
theorem efabl (m : MethodId) (x0 : Addr) : entryFrame m #[(.ref x0)] 1 = mkF m 0 #[.val (.ref x0)] [] := by first | (simp [entryFrame, mkF, argsToLocals, Value.category]; done) | rfl
set_option maxRecDepth 65536 in
set_option maxHeartbeats 40000000 in
theorem c_abl {l : Launch} {Z : State} {a0 : Array Value} {G1 : Int32} (X : Ctx Z a0 G1) (a : Addr) (h0 : Heap) (hE : Ext Z.heap h0) (ga : Z.heap.size ≤ a) (Aa : Exa Z h0 a "java/util/ArrayList") (FM : Fld Z h0 a "java/util/AbstractList" "modCount" "I" (.int (0 : Int32))) (FE : Fld Z h0 a "java/util/ArrayList" "elementData" "[Ljava/lang/Object;" .null) (FS : Fld Z h0 a "java/util/ArrayList" "size" "I" (.int (0 : Int32))) :
    Con l Z consts_1 (⟨"java/util/AbstractList", "<init>", "()V"⟩ : MethodName) jdk_39_method_1_code 1 none [] ({ frames := 2, cells := 0, slots := 0, locals := 24 } : Room) #[(.ref a)] h0 (fun v h => v = none ∧ Keep h0 h [a] ∧ Fld Z h a "java/util/AbstractList" "modCount" "I" (.int (0 : Int32)) ∧ Fld Z h a "java/util/ArrayList" "elementData" "[Ljava/lang/Object;" .null ∧ Fld Z h a "java/util/ArrayList" "size" "I" (.int (0 : Int32))) := by
  refine Con.intro (plainFor_of_name pn_6) hE X.el ?_
  intro p e s m below meth c T W
  have hsz := W.size
  refine Go.cast (efabl m a) ?_
  have KP := Keep.refl h0 [a]
  refine Go.step (fun _ k => XS.aloadN W.here W.hx rfl (W.d dabl_0) rfl rfl k) ?_
  show Go _ _ _ _ _ _ _ _ _ _ (mkF m 1 #[.val (.ref a)] [(.ref a)])
  refine W.special rfl (X.w 38 rfl) (X.w 39 rfl) (X.w 42 rfl) (X.w 43 rfl) (by decide) (c_abc X a _ W.ext) (by decide) (Wd := 0) (by decide) a [] [] rfl pd_6 rfl rfl rfl (Nat.le_of_eq rfl) dabl_1 (by decide) (by decide) ?_
  intro v T h vm W hQ C
  obtain ⟨rfl, rfl⟩ := hQ
  show Go _ _ _ _ _ _ _ _ _ _ (mkF m 4 #[.val (.ref a)] [])
  refine Go.step (fun _ k => XS.aloadN W.here W.hx rfl (W.d dabl_4) rfl rfl k) ?_
  show Go _ _ _ _ _ _ _ _ _ _ (mkF m 5 #[.val (.ref a)] [(.ref a)])
  refine Go.step (fun _ k => XS.iconst W.here W.hx rfl (W.d dabl_5) k) ?_
  show Go _ _ _ _ _ _ _ _ _ _ (mkF m 6 #[.val (.ref a)] [(.int (0 : Int32)), (.ref a)])
  refine W.putF (host := "") (Or.inl (X.w 45 rfl)) Via.refl FM Aa (Or.inl (X.w 46 rfl)) (X.w 27 rfl) (ty := .int) (by decide) rfl rfl ga (Safe.exa W.hZ.alike Aa (by decide) (by decide)) dabl_6 ?_
  intro T h W Wr1 FM'
  replace FS := FS.other Wr1 (Or.inr (slot_ne (Or.inl (X.w 111 rfl)) (Or.inl (X.w 46 rfl)) (by decide) (t := .int) (t' := .int) (by decide) (by decide)))
  replace FE := FE.other Wr1 (Or.inr (slot_ne (Or.inl (X.w 49 rfl)) (Or.inl (X.w 46 rfl)) (by decide) (t := (.array (.object "java/lang/Object"))) (t' := .int) (by decide) (by decide)))
  replace KP := KP.otrM (Keep.of_wr Wr1) (by simp)
  replace Aa := Aa.keep (Keep.of_wr Wr1)
  replace hsz := W.size
  replace FM := FM'
  show Go _ _ _ _ _ _ _ _ _ _ (mkF m 9 #[.val (.ref a)] [])
  exact W.retV dabl_9 (⟨rfl, KP, FM, FE, FS⟩) (by decide) (by decide)

theorem dali_0 : decode jdk_38_method_2_code 0 = .ok (.aload_n 0, 1) := by decide +kernel
theorem dali_1 : decode jdk_38_method_2_code 1 = .ok (.invokespecial 1, 3) := by decide +kernel
theorem dali_4 : decode jdk_38_method_2_code 4 = .ok (.aload_n 0, 1) := by decide +kernel
theorem dali_5 : decode jdk_38_method_2_code 5 = .ok (.getstatic 39, 3) := by decide +kernel
theorem dali_8 : decode jdk_38_method_2_code 8 = .ok (.putfield 9, 3) := by decide +kernel
theorem dali_11 : decode jdk_38_method_2_code 11 = .ok (.return_, 1) := by decide +kernel
theorem efali (m : MethodId) (x0 : Addr) : entryFrame m #[(.ref x0)] 1 = mkF m 0 #[.val (.ref x0)] [] := by first | (simp [entryFrame, mkF, argsToLocals, Value.category]; done) | rfl
set_option maxRecDepth 65536 in
set_option maxHeartbeats 40000000 in
theorem c_ali {l : Launch} {Z : State} {a0 : Array Value} {G1 : Int32} (X : Ctx Z a0 G1) (a D : Addr) (kD : ClassId) (h0 : Heap) (hE : Ext Z.heap h0) (Y : Dft Z D kD) (ga : Z.heap.size ≤ a) (Aa : Exa Z h0 a "java/util/ArrayList") (FM : Fld Z h0 a "java/util/AbstractList" "modCount" "I" (.int (0 : Int32))) (FE : Fld Z h0 a "java/util/ArrayList" "elementData" "[Ljava/lang/Object;" .null) (FS : Fld Z h0 a "java/util/ArrayList" "size" "I" (.int (0 : Int32))) :
    Con l Z consts_1 (⟨"java/util/ArrayList", "<init>", "()V"⟩ : MethodName) jdk_38_method_2_code 1 none [] ({ frames := 3, cells := 0, slots := 0, locals := 36 } : Room) #[(.ref a)] h0 (fun v h => v = none ∧ Keep h0 h [a] ∧ Fld Z h a "java/util/AbstractList" "modCount" "I" (.int (0 : Int32)) ∧ Fld Z h a "java/util/ArrayList" "elementData" "[Ljava/lang/Object;" (.ref D) ∧ Fld Z h a "java/util/ArrayList" "size" "I" (.int (0 : Int32))) := by
  refine Con.intro (plainFor_of_name pn_7) hE X.el ?_
  intro p e s m below meth c T W
  have hsz := W.size
  refine Go.cast (efali m a) ?_
  have KP := Keep.refl h0 [a]
  refine Go.step (fun _ k => XS.aloadN W.here W.hx rfl (W.d dali_0) rfl rfl k) ?_
  show Go _ _ _ _ _ _ _ _ _ _ (mkF m 1 #[.val (.ref a)] [(.ref a)])
  refine W.special rfl (X.w 32 rfl) (X.w 33 rfl) (X.w 36 rfl) (X.w 37 rfl) (by decide) (c_abl X a _ W.ext ga Aa FM FE FS) (by decide) (Wd := 0) (by decide) a [] [] rfl pd_6 rfl rfl rfl (Nat.le_of_eq rfl) dali_1 (by decide) (by decide) ?_
  intro v T h vm W hQ C
  obtain ⟨rfl, Kl, FM', FE', FS'⟩ := hQ
  replace KP := KP.otrM Kl (by simp)
  replace Aa := Aa.keep Kl
  replace hsz := W.size
  replace FM := FM'
  replace FE := FE'
  replace FS := FS'
  show Go _ _ _ _ _ _ _ _ _ _ (mkF m 4 #[.val (.ref a)] [])
  refine Go.step (fun _ k => XS.aloadN W.here W.hx rfl (W.d dali_4) rfl rfl k) ?_
  show Go _ _ _ _ _ _ _ _ _ _ (mkF m 5 #[.val (.ref a)] [(.ref a)])
  refine W.getS (host := "") (Or.inl (X.w 47 rfl)) Via.refl Y.1 dali_5 ?_
  intro T W
  show Go _ _ _ _ _ _ _ _ _ _ (mkF m 8 #[.val (.ref a)] [(.ref D), (.ref a)])
  refine W.putF (host := "") (Or.inl (X.w 48 rfl)) Via.refl FE Aa (Or.inl (X.w 49 rfl)) (X.w 27 rfl) (ty := (.array (.object "java/lang/Object"))) (by decide) rfl rfl ga (Safe.exa W.hZ.alike Aa (by decide) (by decide)) dali_8 ?_
  intro T h W Wr1 FE'
  replace FS := FS.other Wr1 (Or.inr (slot_ne (Or.inl (X.w 111 rfl)) (Or.inl (X.w 49 rfl)) (by decide) (t := .int) (t' := (.array (.object "java/lang/Object"))) (by decide) (by decide)))
  replace FM := FM.other Wr1 (Or.inr (slot_ne (Or.inl (X.w 46 rfl)) (Or.inl (X.w 49 rfl)) (by decide) (t := .int) (t' := (.array (.object "java/lang/Object"))) (by decide) (by decide)))
  replace KP := KP.otrM (Keep.of_wr Wr1) (by simp)
  replace Aa := Aa.keep (Keep.of_wr Wr1)
  replace hsz := W.size
  replace FE := FE'
  show Go _ _ _ _ _ _ _ _ _ _ (mkF m 11 #[.val (.ref a)] [])
  exact W.retV dali_11 (⟨rfl, KP, FM, FE, FS⟩) (by decide) (by decide)

theorem dhmi_0 : decode jdk_69_method_7_code 0 = .ok (.aload_n 0, 1) := by decide +kernel
theorem dhmi_1 : decode jdk_69_method_7_code 1 = .ok (.invokespecial 43, 3) := by decide +kernel
theorem dhmi_4 : decode jdk_69_method_7_code 4 = .ok (.aload_n 0, 1) := by decide +kernel
theorem dhmi_5 : decode jdk_69_method_7_code 5 = .ok (.ldc 92, 2) := by decide +kernel
theorem dhmi_7 : decode jdk_69_method_7_code 7 = .ok (.putfield 81, 3) := by decide +kernel
theorem dhmi_10 : decode jdk_69_method_7_code 10 = .ok (.return_, 1) := by decide +kernel
theorem efhmi (m : MethodId) (x0 : Addr) : entryFrame m #[(.ref x0)] 1 = mkF m 0 #[.val (.ref x0)] [] := by first | (simp [entryFrame, mkF, argsToLocals, Value.category]; done) | rfl
set_option maxRecDepth 65536 in
set_option maxHeartbeats 40000000 in
theorem c_hmi {l : Launch} {Z : State} {a0 : Array Value} {G1 : Int32} (X : Ctx Z a0 G1) (a : Addr) (h0 : Heap) (hE : Ext Z.heap h0) (ga : Z.heap.size ≤ a) (Aa : Exa Z h0 a "java/util/HashMap") (F : Fld Z h0 a "java/util/HashMap" "loadFactor" "F" (.float (0 : UInt32))) :
    Con l Z consts_1 (⟨"java/util/HashMap", "<init>", "()V"⟩ : MethodName) jdk_69_method_7_code 1 none [] ({ frames := 2, cells := 0, slots := 0, locals := 24 } : Room) #[(.ref a)] h0 (fun v h => v = none ∧ Keep h0 h [a]) := by
  refine Con.intro (plainFor_of_name pn_8) hE X.el ?_
  intro p e s m below meth c T W
  have hsz := W.size
  refine Go.cast (efhmi m a) ?_
  have KP := Keep.refl h0 [a]
  refine Go.step (fun _ k => XS.aloadN W.here W.hx rfl (W.d dhmi_0) rfl rfl k) ?_
  show Go _ _ _ _ _ _ _ _ _ _ (mkF m 1 #[.val (.ref a)] [(.ref a)])
  refine W.special rfl (X.w 64 rfl) (X.w 65 rfl) (X.w 68 rfl) (X.w 69 rfl) (by decide) (c_abm X a _ W.ext) (by decide) (Wd := 0) (by decide) a [] [] rfl pd_6 rfl rfl rfl (Nat.le_of_eq rfl) dhmi_1 (by decide) (by decide) ?_
  intro v T h vm W hQ C
  obtain ⟨rfl, rfl⟩ := hQ
  show Go _ _ _ _ _ _ _ _ _ _ (mkF m 4 #[.val (.ref a)] [])
  refine Go.step (fun _ k => XS.aloadN W.here W.hx rfl (W.d dhmi_4) rfl rfl k) ?_
  show Go _ _ _ _ _ _ _ _ _ _ (mkF m 5 #[.val (.ref a)] [(.ref a)])
  refine W.ldcF (X.w 71 rfl) dhmi_5 ?_
  show Go _ _ _ _ _ _ _ _ _ _ (mkF m 7 #[.val (.ref a)] [(.float (1061158912 : UInt32)), (.ref a)])
  refine W.putF (host := "") (Or.inl (X.w 72 rfl)) Via.refl F Aa (Or.inr ⟨(X.w 73 rfl), rfl, rfl⟩) (X.w 59 rfl) (ty := .float) (by decide) rfl rfl ga (Safe.exa W.hZ.alike Aa (by decide) (by decide)) dhmi_7 ?_
  intro T h W Wr1 F'
  replace KP := KP.otrM (Keep.of_wr Wr1) (by simp)
  replace Aa := Aa.keep (Keep.of_wr Wr1)
  replace hsz := W.size
  replace F := F'
  show Go _ _ _ _ _ _ _ _ _ _ (mkF m 10 #[.val (.ref a)] [])
  exact W.retV dhmi_10 (⟨rfl, KP⟩) (by decide) (by decide)

theorem dhsi_0 : decode jdk_93_method_1_code 0 = .ok (.aload_n 0, 1) := by decide +kernel
theorem dhsi_1 : decode jdk_93_method_1_code 1 = .ok (.invokespecial 1, 3) := by decide +kernel
theorem dhsi_4 : decode jdk_93_method_1_code 4 = .ok (.aload_n 0, 1) := by decide +kernel
theorem dhsi_5 : decode jdk_93_method_1_code 5 = .ok (.new 7, 3) := by decide +kernel
theorem dhsi_8 : decode jdk_93_method_1_code 8 = .ok (.dup, 1) := by decide +kernel
theorem dhsi_9 : decode jdk_93_method_1_code 9 = .ok (.invokespecial 9, 3) := by decide +kernel
theorem dhsi_12 : decode jdk_93_method_1_code 12 = .ok (.putfield 10, 3) := by decide +kernel
theorem dhsi_15 : decode jdk_93_method_1_code 15 = .ok (.return_, 1) := by decide +kernel
theorem efhsi (m : MethodId) (x0 : Addr) : entryFrame m #[(.ref x0)] 1 = mkF m 0 #[.val (.ref x0)] [] := by first | (simp [entryFrame, mkF, argsToLocals, Value.category]; done) | rfl
set_option maxRecDepth 65536 in
set_option maxHeartbeats 40000000 in
theorem c_hsi {l : Launch} {Z : State} {a0 : Array Value} {G1 : Int32} (X : Ctx Z a0 G1) (a : Addr) (h0 : Heap) (hE : Ext Z.heap h0) (ga : Z.heap.size ≤ a) (Aa : Exa Z h0 a "java/util/HashSet") (F : Fld Z h0 a "java/util/HashSet" "map" "Ljava/util/HashMap;" .null) :
    Con l Z consts_1 (⟨"java/util/HashSet", "<init>", "()V"⟩ : MethodName) jdk_93_method_1_code 1 none [] ({ frames := 3, cells := 1, slots := 8, locals := 38 } : Room) #[(.ref a)] h0 (fun v h => v = none ∧ Keep h0 h [a]) := by
  refine Con.intro (plainFor_of_name pn_9) hE X.el ?_
  intro p e s m below meth c T W
  have hsz := W.size
  refine Go.cast (efhsi m a) ?_
  have KP := Keep.refl h0 [a]
  refine Go.step (fun _ k => XS.aloadN W.here W.hx rfl (W.d dhsi_0) rfl rfl k) ?_
  show Go _ _ _ _ _ _ _ _ _ _ (mkF m 1 #[.val (.ref a)] [(.ref a)])
  refine W.special rfl (X.w 82 rfl) (X.w 83 rfl) (X.w 86 rfl) (X.w 87 rfl) (by decide) (c_abs X a _ W.ext) (by decide) (Wd := 0) (by decide) a [] [] rfl pd_6 rfl rfl rfl (Nat.le_of_eq rfl) dhsi_1 (by decide) (by decide) ?_
  intro v T h vm W hQ C
  obtain ⟨rfl, rfl⟩ := hQ
  show Go _ _ _ _ _ _ _ _ _ _ (mkF m 4 #[.val (.ref a)] [])
  refine Go.step (fun _ k => XS.aloadN W.here W.hx rfl (W.d dhsi_4) rfl rfl k) ?_
  show Go _ _ _ _ _ _ _ _ _ _ (mkF m 5 #[.val (.ref a)] [(.ref a)])
  refine W.new (X.w 90 rfl) (X.w 59 rfl) (X.w 60 rfl) dhsi_5 (by decide) (by decide) ?_
  intro T h b1 hb1 W Eb1 Ab1 Db1
  have ne_a_b1 : a ≠ b1 := by rw [hb1]; exact Nat.ne_of_lt Aa.lt
  have sz_b1 : h0.size ≤ b1 := by rw [hb1]; exact KP.1
  have gb1 : Z.heap.size ≤ b1 := by rw [hb1]; exact hsz
  replace F := F.ext Eb1
  replace KP := KP.ext Eb1
  replace Aa := Aa.ext Eb1
  replace hsz := W.size
  have F_loadFactor_b1 : Fld Z h b1 "java/util/HashMap" "loadFactor" "F" (.float (0 : UInt32)) := Db1 (Or.inr (X.w 73 rfl)) (ty := .float) (by decide)
  show Go _ _ _ _ _ _ _ _ _ _ (mkF m 8 #[.val (.ref a)] [(.ref b1), (.ref a)])
  refine Go.step (fun _ k => XS.dup W.here W.hx rfl (W.d dhsi_8) rfl rfl k) ?_
  show Go _ _ _ _ _ _ _ _ _ _ (mkF m 9 #[.val (.ref a)] [(.ref b1), (.ref b1), (.ref a)])
  refine W.special rfl (X.w 91 rfl) (X.w 62 rfl) (X.w 60 rfl) (X.w 63 rfl) (by decide) (c_hmi X b1 _ W.ext gb1 Ab1 F_loadFactor_b1) (by decide) (Wd := 2) (by decide) b1 [] [(.ref b1), (.ref a)] rfl pd_6 rfl rfl rfl (Nat.le_of_eq rfl) dhsi_9 (by decide) (by decide) ?_
  intro v T h vm W hQ C
  obtain ⟨rfl, Ka2⟩ := hQ
  replace F := F.keep Ka2 (nin1 ne_a_b1)
  replace KP := KP.otrN Ka2 sz_b1
  replace Aa := Aa.keep Ka2
  replace Ab1 := Ab1.keep Ka2
  replace hsz := W.size
  show Go _ _ _ _ _ _ _ _ _ _ (mkF m 12 #[.val (.ref a)] [(.ref b1), (.ref a)])
  refine W.putF (host := "") (Or.inl (X.w 93 rfl)) Via.refl F Aa (Or.inl (X.w 94 rfl)) (X.w 77 rfl) (ty := (.object "java/util/HashMap")) (by decide) rfl rfl ga (Safe.exa W.hZ.alike Aa (by decide) (by decide)) dhsi_12 ?_
  intro T h W Wr3 F'
  replace KP := KP.otrM (Keep.of_wr Wr3) (by simp)
  replace Aa := Aa.keep (Keep.of_wr Wr3)
  replace Ab1 := Ab1.keep (Keep.of_wr Wr3)
  replace hsz := W.size
  replace F := F'
  show Go _ _ _ _ _ _ _ _ _ _ (mkF m 15 #[.val (.ref a)] [])
  exact W.retV dhsi_15 (⟨rfl, KP⟩) (by decide) (by decide)

theorem dsize_0 : decode jdk_38_method_8_code 0 = .ok (.aload_n 0, 1) := by decide +kernel
theorem dsize_1 : decode jdk_38_method_8_code 1 = .ok (.getfield 48, 3) := by decide +kernel
theorem dsize_4 : decode jdk_38_method_8_code 4 = .ok (.ireturn, 1) := by decide +kernel
theorem efsize (m : MethodId) (x0 : Addr) : entryFrame m #[(.ref x0)] 1 = mkF m 0 #[.val (.ref x0)] [] := by first | (simp [entryFrame, mkF, argsToLocals, Value.category]; done) | rfl
set_option maxRecDepth 65536 in
set_option maxHeartbeats 40000000 in
theorem c_size {l : Launch} {Z : State} {a0 : Array Value} {G1 : Int32} (X : Ctx Z a0 G1) (a : Addr) (zn : Int32) (h0 : Heap) (hE : Ext Z.heap h0) (FS : Fld Z h0 a "java/util/ArrayList" "size" "I" (.int zn)) :
    Con l Z consts_1 (⟨"java/util/ArrayList", "size", "()I"⟩ : MethodName) jdk_38_method_8_code 1 (some .int) [] ({ frames := 0, cells := 0, slots := 0, locals := 0 } : Room) #[(.ref a)] h0 (fun v h => v = some (.int zn) ∧ h0 = h) := by
  refine Con.intro (plainFor_of_name pn_7) hE X.el ?_
  intro p e s m below meth c T W
  have hsz := W.size
  refine Go.cast (efsize m a) ?_
  refine Go.step (fun _ k => XS.aloadN W.here W.hx rfl (W.d dsize_0) rfl rfl k) ?_
  show Go _ _ _ _ _ _ _ _ _ _ (mkF m 1 #[.val (.ref a)] [(.ref a)])
  refine W.getF (host := "") (Or.inl (X.w 110 rfl)) Via.refl FS dsize_1 ?_
  intro T W
  show Go _ _ _ _ _ _ _ _ _ _ (mkF m 4 #[.val (.ref a)] [(.int zn)])
  exact W.retI dsize_4 (⟨rfl, rfl⟩) (by decide) (by decide)

theorem dci3_0 : decode jdk_41_method_11_code 0 = .ok (.iload_n 0, 1) := by decide +kernel
theorem dci3_1 : decode jdk_41_method_11_code 1 = .ok (.ifCond .lt 8, 3) := by decide +kernel
theorem dci3_4 : decode jdk_41_method_11_code 4 = .ok (.iload_n 0, 1) := by decide +kernel
theorem dci3_5 : decode jdk_41_method_11_code 5 = .ok (.iload_n 1, 1) := by decide +kernel
theorem dci3_6 : decode jdk_41_method_11_code 6 = .ok (.if_icmp .lt 10, 3) := by decide +kernel
theorem dci3_16 : decode jdk_41_method_11_code 16 = .ok (.iload_n 0, 1) := by decide +kernel
theorem dci3_17 : decode jdk_41_method_11_code 17 = .ok (.ireturn, 1) := by decide +kernel
theorem efci3 (m : MethodId) (x0 : Int32) (x1 : Int32) : entryFrame m #[(.int x0), (.int x1), .null] 3 = mkF m 0 #[.val (.int x0), .val (.int x1), .val .null] [] := by first | (simp [entryFrame, mkF, argsToLocals, Value.category]; done) | rfl
set_option maxRecDepth 65536 in
set_option maxHeartbeats 40000000 in
theorem c_ci3 {l : Launch} {Z : State} {a0 : Array Value} {G1 : Int32} (X : Ctx Z a0 G1) (ix zn : Int32) (h0 : Heap) (hE : Ext Z.heap h0) (q0 : ¬ ix < 0) (q1 : ix < zn) :
    Con l Z consts_1 (⟨"jdk/internal/util/Preconditions", "checkIndex", "(IILjava/util/function/BiFunction;)I"⟩ : MethodName) jdk_41_method_11_code 3 (some .int) [] ({ frames := 0, cells := 0, slots := 0, locals := 0 } : Room) #[(.int ix), (.int zn), .null] h0 (fun v h => v = some (.int ix) ∧ h0 = h) := by
  refine Con.intro (plainFor_of_name pn_10) hE X.el ?_
  intro p e s m below meth c T W
  have hsz := W.size
  refine Go.cast (efci3 m ix zn) ?_
  refine Go.step (fun _ k => XS.iloadN W.here W.hx rfl (W.d dci3_0) rfl k) ?_
  show Go _ _ _ _ _ _ _ _ _ _ (mkF m 1 #[.val (.int ix), .val (.int zn), .val .null] [(.int ix)])
  refine Go.step (fun _ k => XS.ifNo W.here W.hx rfl (W.d dci3_1) rfl ((if0 _ _).trans (flt q0).1) k) ?_
  show Go _ _ _ _ _ _ _ _ _ _ (mkF m 4 #[.val (.int ix), .val (.int zn), .val .null] [])
  refine Go.step (fun _ k => XS.iloadN W.here W.hx rfl (W.d dci3_4) rfl k) ?_
  show Go _ _ _ _ _ _ _ _ _ _ (mkF m 5 #[.val (.int ix), .val (.int zn), .val .null] [(.int ix)])
  refine Go.step (fun _ k => XS.iloadN W.here W.hx rfl (W.d dci3_5) rfl k) ?_
  show Go _ _ _ _ _ _ _ _ _ _ (mkF m 6 #[.val (.int ix), .val (.int zn), .val .null] [(.int zn), (.int ix)])
  refine Go.step (fun _ k => XS.icmpYes W.here W.hx rfl (pc0 := 6) (pc' := 16) rfl (W.d dci3_6) rfl (tlt q1).1 (by decide) (by decide) k) ?_
  show Go _ _ _ _ _ _ _ _ _ _ (mkF m 16 #[.val (.int ix), .val (.int zn), .val .null] [])
  refine Go.step (fun _ k => XS.iloadN W.here W.hx rfl (W.d dci3_16) rfl k) ?_
  show Go _ _ _ _ _ _ _ _ _ _ (mkF m 17 #[.val (.int ix), .val (.int zn), .val .null] [(.int ix)])
  exact W.retI dci3_17 (⟨rfl, rfl⟩) (by decide) (by decide)

theorem dci2_0 : decode jdk_31_method_17_code 0 = .ok (.iload_n 0, 1) := by decide +kernel
theorem dci2_1 : decode jdk_31_method_17_code 1 = .ok (.iload_n 1, 1) := by decide +kernel
theorem dci2_2 : decode jdk_31_method_17_code 2 = .ok (.aconst_null, 1) := by decide +kernel
theorem dci2_3 : decode jdk_31_method_17_code 3 = .ok (.invokestatic 105, 3) := by decide +kernel
theorem dci2_6 : decode jdk_31_method_17_code 6 = .ok (.ireturn, 1) := by decide +kernel
theorem efci2 (m : MethodId) (x0 : Int32) (x1 : Int32) : entryFrame m #[(.int x0), (.int x1)] 2 = mkF m 0 #[.val (.int x0), .val (.int x1)] [] := by first | (simp [entryFrame, mkF, argsToLocals, Value.category]; done) | rfl
set_option maxRecDepth 65536 in
set_option maxHeartbeats 40000000 in
theorem c_ci2 {l : Launch} {Z : State} {a0 : Array Value} {G1 : Int32} (X : Ctx Z a0 G1) (ix zn : Int32) (h0 : Heap) (hE : Ext Z.heap h0) (q0 : ¬ ix < 0) (q1 : ix < zn) :
    Con l Z consts_1 (⟨"java/util/Objects", "checkIndex", "(II)I"⟩ : MethodName) jdk_31_method_17_code 2 (some .int) [] ({ frames := 1, cells := 0, slots := 0, locals := 14 } : Room) #[(.int ix), (.int zn)] h0 (fun v h => v = some (.int ix) ∧ h0 = h) := by
  refine Con.intro (plainFor_of_name pn_11) hE X.el ?_
  intro p e s m below meth c T W
  have hsz := W.size
  refine Go.cast (efci2 m ix zn) ?_
  refine Go.step (fun _ k => XS.iloadN W.here W.hx rfl (W.d dci2_0) rfl k) ?_
  show Go _ _ _ _ _ _ _ _ _ _ (mkF m 1 #[.val (.int ix), .val (.int zn)] [(.int ix)])
  refine Go.step (fun _ k => XS.iloadN W.here W.hx rfl (W.d dci2_1) rfl k) ?_
  show Go _ _ _ _ _ _ _ _ _ _ (mkF m 2 #[.val (.int ix), .val (.int zn)] [(.int zn), (.int ix)])
  refine Go.step (fun _ k => XS.aconstNull W.here W.hx rfl (W.d dci2_2) k) ?_
  show Go _ _ _ _ _ _ _ _ _ _ (mkF m 3 #[.val (.int ix), .val (.int zn)] [.null, (.int zn), (.int ix)])
  refine W.callS (X.w 162 rfl) (X.w 163 rfl) (X.w 164 rfl) (X.w 165 rfl) (by decide) (c_ci3 X ix zn _ W.ext q0 q1) (by decide) (Wd := 0) (by decide) [(.int ix), (.int zn), .null] [] rfl pd_7 rfl rfl rfl (Nat.le_of_eq rfl) dci2_3 (by decide) (by decide) ?_
  intro v T h vm W hQ C
  obtain ⟨rfl, rfl⟩ := hQ
  show Go _ _ _ _ _ _ _ _ _ _ (mkF m 6 #[.val (.int ix), .val (.int zn)] [(.int ix)])
  exact W.retI dci2_6 (⟨rfl, rfl⟩) (by decide) (by decide)

theorem deld_0 : decode jdk_38_method_18_code 0 = .ok (.aload_n 0, 1) := by decide +kernel
theorem deld_1 : decode jdk_38_method_18_code 1 = .ok (.getfield 9, 3) := by decide +kernel
theorem deld_4 : decode jdk_38_method_18_code 4 = .ok (.iload_n 1, 1) := by decide +kernel
theorem deld_5 : decode jdk_38_method_18_code 5 = .ok (.aaload, 1) := by decide +kernel
theorem deld_6 : decode jdk_38_method_18_code 6 = .ok (.areturn, 1) := by decide +kernel
theorem efeld (m : MethodId) (x0 : Addr) (x1 : Int32) : entryFrame m #[(.ref x0), (.int x1)] 2 = mkF m 0 #[.val (.ref x0), .val (.int x1)] [] := by first | (simp [entryFrame, mkF, argsToLocals, Value.category]; done) | rfl
set_option maxRecDepth 65536 in
set_option maxHeartbeats 40000000 in
theorem c_eld {l : Launch} {Z : State} {a0 : Array Value} {G1 : Int32} (X : Ctx Z a0 G1) (a t y0 : Addr) (kt : ClassId) (vs : List Value) (ix zn : Int32) (h0 : Heap) (hE : Ext Z.heap h0) (FS : Fld Z h0 a "java/util/ArrayList" "size" "I" (.int zn)) (FE : Fld Z h0 a "java/util/ArrayList" "elementData" "[Ljava/lang/Object;" (.ref t)) (V : Arv Z h0 t kt (.object "java/lang/Object") (10 : Int32) vs .null) (q0 : ¬ ix < 0) (q1 : ix < zn) (q2 : ix < 10) (hv : vs.getD ix.toNatClampNeg .null = .ref y0) :
    Con l Z consts_1 (⟨"java/util/ArrayList", "elementData", "(I)Ljava/lang/Object;"⟩ : MethodName) jdk_38_method_18_code 2 (some (.object "java/lang/Object")) [] ({ frames := 0, cells := 0, slots := 0, locals := 0 } : Room) #[(.ref a), (.int ix)] h0 (fun v h => v = some (.ref y0) ∧ h0 = h) := by
  refine Con.intro (plainFor_of_name pn_7) hE X.el ?_
  intro p e s m below meth c T W
  have hsz := W.size
  refine Go.cast (efeld m a ix) ?_
  refine Go.step (fun _ k => XS.aloadN W.here W.hx rfl (W.d deld_0) rfl rfl k) ?_
  show Go _ _ _ _ _ _ _ _ _ _ (mkF m 1 #[.val (.ref a), .val (.int ix)] [(.ref a)])
  refine W.getF (host := "") (Or.inl (X.w 48 rfl)) Via.refl FE deld_1 ?_
  intro T W
  show Go _ _ _ _ _ _ _ _ _ _ (mkF m 4 #[.val (.ref a), .val (.int ix)] [(.ref t)])
  refine Go.step (fun _ k => XS.iloadN W.here W.hx rfl (W.d deld_4) rfl k) ?_
  show Go _ _ _ _ _ _ _ _ _ _ (mkF m 5 #[.val (.ref a), .val (.int ix)] [(.int ix), (.ref t)])
  refine W.aaload V rfl ⟨q0, q2⟩ hv deld_5 ?_
  show Go _ _ _ _ _ _ _ _ _ _ (mkF m 6 #[.val (.ref a), .val (.int ix)] [(.ref y0)])
  exact W.retR rfl rfl rfl deld_6 (⟨rfl, rfl⟩) (by decide) (by decide)

theorem dget_0 : decode jdk_38_method_20_code 0 = .ok (.iload_n 1, 1) := by decide +kernel
theorem dget_1 : decode jdk_38_method_20_code 1 = .ok (.aload_n 0, 1) := by decide +kernel
theorem dget_2 : decode jdk_38_method_20_code 2 = .ok (.getfield 48, 3) := by decide +kernel
theorem dget_5 : decode jdk_38_method_20_code 5 = .ok (.invokestatic 118, 3) := by decide +kernel
theorem dget_8 : decode jdk_38_method_20_code 8 = .ok (.pop, 1) := by decide +kernel
theorem dget_9 : decode jdk_38_method_20_code 9 = .ok (.aload_n 0, 1) := by decide +kernel
theorem dget_10 : decode jdk_38_method_20_code 10 = .ok (.iload_n 1, 1) := by decide +kernel
theorem dget_11 : decode jdk_38_method_20_code 11 = .ok (.invokevirtual 123, 3) := by decide +kernel
theorem dget_14 : decode jdk_38_method_20_code 14 = .ok (.areturn, 1) := by decide +kernel
theorem efget (m : MethodId) (x0 : Addr) (x1 : Int32) : entryFrame m #[(.ref x0), (.int x1)] 2 = mkF m 0 #[.val (.ref x0), .val (.int x1)] [] := by first | (simp [entryFrame, mkF, argsToLocals, Value.category]; done) | rfl
set_option maxRecDepth 65536 in
set_option maxHeartbeats 40000000 in
theorem c_get {l : Launch} {Z : State} {a0 : Array Value} {G1 : Int32} (X : Ctx Z a0 G1) (a t y0 : Addr) (kt : ClassId) (vs : List Value) (ix zn : Int32) (h0 : Heap) (hE : Ext Z.heap h0) (Aa : Exa Z h0 a "java/util/ArrayList") (FS : Fld Z h0 a "java/util/ArrayList" "size" "I" (.int zn)) (FE : Fld Z h0 a "java/util/ArrayList" "elementData" "[Ljava/lang/Object;" (.ref t)) (V : Arv Z h0 t kt (.object "java/lang/Object") (10 : Int32) vs .null) (q0 : ¬ ix < 0) (q1 : ix < zn) (q2 : ix < 10) (hv : vs.getD ix.toNatClampNeg .null = .ref y0) :
    Con l Z consts_1 (⟨"java/util/ArrayList", "get", "(I)Ljava/lang/Object;"⟩ : MethodName) jdk_38_method_20_code 2 (some (.object "java/lang/Object")) [] ({ frames := 2, cells := 0, slots := 0, locals := 27 } : Room) #[(.ref a), (.int ix)] h0 (fun v h => v = some (.ref y0) ∧ h0 = h) := by
  refine Con.intro (plainFor_of_name pn_7) hE X.el ?_
  intro p e s m below meth c T W
  have hsz := W.size
  refine Go.cast (efget m a ix) ?_
  refine Go.step (fun _ k => XS.iloadN W.here W.hx rfl (W.d dget_0) rfl k) ?_
  show Go _ _ _ _ _ _ _ _ _ _ (mkF m 1 #[.val (.ref a), .val (.int ix)] [(.int ix)])
  refine Go.step (fun _ k => XS.aloadN W.here W.hx rfl (W.d dget_1) rfl rfl k) ?_
  show Go _ _ _ _ _ _ _ _ _ _ (mkF m 2 #[.val (.ref a), .val (.int ix)] [(.ref a), (.int ix)])
  refine W.getF (host := "") (Or.inl (X.w 110 rfl)) Via.refl FS dget_2 ?_
  intro T W
  show Go _ _ _ _ _ _ _ _ _ _ (mkF m 5 #[.val (.ref a), .val (.int ix)] [(.int zn), (.int ix)])
  refine W.callS (X.w 158 rfl) (X.w 159 rfl) (X.w 160 rfl) (X.w 161 rfl) (by decide) (c_ci2 X ix zn _ W.ext q0 q1) (by decide) (Wd := 0) (by decide) [(.int ix), (.int zn)] [] rfl pd_8 rfl rfl rfl (Nat.le_of_eq rfl) dget_5 (by decide) (by decide) ?_
  intro v T h vm W hQ C
  obtain ⟨rfl, rfl⟩ := hQ
  show Go _ _ _ _ _ _ _ _ _ _ (mkF m 8 #[.val (.ref a), .val (.int ix)] [(.int ix)])
  refine Go.step (fun _ k => XS.pop W.here W.hx rfl (W.d dget_8) rfl rfl k) ?_
  show Go _ _ _ _ _ _ _ _ _ _ (mkF m 9 #[.val (.ref a), .val (.int ix)] [])
  refine Go.step (fun _ k => XS.aloadN W.here W.hx rfl (W.d dget_9) rfl rfl k) ?_
  show Go _ _ _ _ _ _ _ _ _ _ (mkF m 10 #[.val (.ref a), .val (.int ix)] [(.ref a)])
  refine Go.step (fun _ k => XS.iloadN W.here W.hx rfl (W.d dget_10) rfl k) ?_
  show Go _ _ _ _ _ _ _ _ _ _ (mkF m 11 #[.val (.ref a), .val (.int ix)] [(.int ix), (.ref a)])
  refine W.virtual (X.w 166 rfl) (X.w 167 rfl) (notFace_of_selects (args := #[]) (mvT W.hZ (X.w 169 rfl))) (X.w 169 rfl) (X.w 168 rfl) (X.w 28 rfl) (X.w 170 rfl) (by decide) (c_eld X a t y0 _ _ ix zn _ W.ext FS FE V q0 q1 q2 hv) (by decide) (Wd := 0) (by decide) a Aa [(.int ix)] [] rfl pd_9 rfl rfl rfl (Nat.le_of_eq rfl) dget_11 (by decide) (by decide) ?_
  intro v T h vm W hQ C
  obtain ⟨rfl, rfl⟩ := hQ
  show Go _ _ _ _ _ _ _ _ _ _ (mkF m 14 #[.val (.ref a), .val (.int ix)] [(.ref y0)])
  exact W.retR rfl rfl rfl dget_14 (⟨rfl, rfl⟩) (by decide) (by decide)

theorem dmax_0 : decode jdk_29_method_65_code 0 = .ok (.iload_n 0, 1) := by decide +kernel
theorem dmax_1 : decode jdk_29_method_65_code 1 = .ok (.iload_n 1, 1) := by decide +kernel
theorem dmax_2 : decode jdk_29_method_65_code 2 = .ok (.if_icmp .lt 7, 3) := by decide +kernel
theorem dmax_5 : decode jdk_29_method_65_code 5 = .ok (.iload_n 0, 1) := by decide +kernel
theorem dmax_6 : decode jdk_29_method_65_code 6 = .ok (.goto 4, 3) := by decide +kernel
theorem dmax_10 : decode jdk_29_method_65_code 10 = .ok (.ireturn, 1) := by decide +kernel
theorem efmax (m : MethodId) (x0 : Int32) (x1 : Int32) : entryFrame m #[(.int x0), (.int x1)] 2 = mkF m 0 #[.val (.int x0), .val (.int x1)] [] := by first | (simp [entryFrame, mkF, argsToLocals, Value.category]; done) | rfl
set_option maxRecDepth 65536 in
set_option maxHeartbeats 40000000 in
theorem c_max {l : Launch} {Z : State} {a0 : Array Value} {G1 : Int32} (X : Ctx Z a0 G1)  (h0 : Heap) (hE : Ext Z.heap h0)  :
    Con l Z consts_1 (⟨"java/lang/Math", "max", "(II)I"⟩ : MethodName) jdk_29_method_65_code 2 (some .int) [] ({ frames := 0, cells := 0, slots := 0, locals := 0 } : Room) #[(.int (10 : Int32)), (.int (1 : Int32))] h0 (fun v h => v = some (.int (10 : Int32)) ∧ h0 = h) := by
  refine Con.intro (Jvm.Free.JP.mathPlain rfl (by decide +kernel)) hE X.el ?_
  intro p e s m below meth c T W
  have hsz := W.size
  refine Go.cast (efmax m (10 : Int32) (1 : Int32)) ?_
  refine Go.step (fun _ k => XS.iloadN W.here W.hx rfl (W.d dmax_0) rfl k) ?_
  show Go _ _ _ _ _ _ _ _ _ _ (mkF m 1 #[.val (.int (10 : Int32)), .val (.int (1 : Int32))] [(.int (10 : Int32))])
  refine Go.step (fun _ k => XS.iloadN W.here W.hx rfl (W.d dmax_1) rfl k) ?_
  show Go _ _ _ _ _ _ _ _ _ _ (mkF m 2 #[.val (.int (10 : Int32)), .val (.int (1 : Int32))] [(.int (1 : Int32)), (.int (10 : Int32))])
  refine Go.step (fun _ k => XS.icmpNo W.here W.hx rfl (W.d dmax_2) rfl (flt (by decide : ¬ ((10 : Int32) < (1 : Int32)))).1 k) ?_
  show Go _ _ _ _ _ _ _ _ _ _ (mkF m 5 #[.val (.int (10 : Int32)), .val (.int (1 : Int32))] [])
  refine Go.step (fun _ k => XS.iloadN W.here W.hx rfl (W.d dmax_5) rfl k) ?_
  show Go _ _ _ _ _ _ _ _ _ _ (mkF m 6 #[.val (.int (10 : Int32)), .val (.int (1 : Int32))] [(.int (10 : Int32))])
  refine Go.step (fun _ k => XS.goto W.here W.hx rfl (pc0 := 6) (pc' := 10) rfl (W.d dmax_6) (by decide) (by decide) k) ?_
  show Go _ _ _ _ _ _ _ _ _ _ (mkF m 10 #[.val (.int (10 : Int32)), .val (.int (1 : Int32))] [(.int (10 : Int32))])
  exact W.retI dmax_10 (⟨rfl, rfl⟩) (by decide) (by decide)

theorem dgr1_0 : decode jdk_38_method_6_code 0 = .ok (.aload_n 0, 1) := by decide +kernel
theorem dgr1_1 : decode jdk_38_method_6_code 1 = .ok (.getfield 9, 3) := by decide +kernel
theorem dgr1_4 : decode jdk_38_method_6_code 4 = .ok (.arraylength, 1) := by decide +kernel
theorem dgr1_5 : decode jdk_38_method_6_code 5 = .ok (.istore_n 2, 1) := by decide +kernel
theorem dgr1_6 : decode jdk_38_method_6_code 6 = .ok (.iload_n 2, 1) := by decide +kernel
theorem dgr1_7 : decode jdk_38_method_6_code 7 = .ok (.ifCond .gt 13, 3) := by decide +kernel
theorem dgr1_10 : decode jdk_38_method_6_code 10 = .ok (.aload_n 0, 1) := by decide +kernel
theorem dgr1_11 : decode jdk_38_method_6_code 11 = .ok (.getfield 9, 3) := by decide +kernel
theorem dgr1_14 : decode jdk_38_method_6_code 14 = .ok (.getstatic 39, 3) := by decide +kernel
theorem dgr1_17 : decode jdk_38_method_6_code 17 = .ok (.if_acmp .eq 28, 3) := by decide +kernel
theorem dgr1_45 : decode jdk_38_method_6_code 45 = .ok (.aload_n 0, 1) := by decide +kernel
theorem dgr1_46 : decode jdk_38_method_6_code 46 = .ok (.bipush 10, 2) := by decide +kernel
theorem dgr1_48 : decode jdk_38_method_6_code 48 = .ok (.iload_n 1, 1) := by decide +kernel
theorem dgr1_49 : decode jdk_38_method_6_code 49 = .ok (.invokestatic 79, 3) := by decide +kernel
theorem dgr1_52 : decode jdk_38_method_6_code 52 = .ok (.anewarray 7, 3) := by decide +kernel
theorem dgr1_55 : decode jdk_38_method_6_code 55 = .ok (.dup_x1, 1) := by decide +kernel
theorem dgr1_56 : decode jdk_38_method_6_code 56 = .ok (.putfield 9, 3) := by decide +kernel
theorem dgr1_59 : decode jdk_38_method_6_code 59 = .ok (.areturn, 1) := by decide +kernel
theorem efgr1 (m : MethodId) (x0 : Addr) (x1 : Int32) : entryFrame m #[(.ref x0), (.int x1)] 4 = mkF m 0 #[.val (.ref x0), .val (.int x1), .unset, .unset] [] := by first | (simp [entryFrame, mkF, argsToLocals, Value.category]; done) | rfl
set_option maxRecDepth 65536 in
set_option maxHeartbeats 40000000 in
theorem c_gr1 {l : Launch} {Z : State} {a0 : Array Value} {G1 : Int32} (X : Ctx Z a0 G1) (a D : Addr) (kD : ClassId) (mo : Int32) (h0 : Heap) (hE : Ext Z.heap h0) (Y : Dft Z D kD) (ga : Z.heap.size ≤ a) (Aa : Exa Z h0 a "java/util/ArrayList") (FM : Fld Z h0 a "java/util/AbstractList" "modCount" "I" (.int mo)) (FE : Fld Z h0 a "java/util/ArrayList" "elementData" "[Ljava/lang/Object;" (.ref D)) (FS : Fld Z h0 a "java/util/ArrayList" "size" "I" (.int (0 : Int32))) :
    Con l Z consts_1 (⟨"java/util/ArrayList", "grow", "(I)[Ljava/lang/Object;"⟩ : MethodName) jdk_38_method_6_code 4 (some (.array (.object "java/lang/Object"))) [] ({ frames := 1, cells := 1, slots := 10, locals := 14 } : Room) #[(.ref a), (.int (1 : Int32))] h0 (fun v h => ∃ (t : Addr) (kt : ClassId), v = some (.ref t) ∧ h0.size ≤ t ∧ Keep h0 h [a] ∧ Fld Z h a "java/util/AbstractList" "modCount" "I" (.int mo) ∧ Fld Z h a "java/util/ArrayList" "elementData" "[Ljava/lang/Object;" (.ref t) ∧ Fld Z h a "java/util/ArrayList" "size" "I" (.int (0 : Int32)) ∧ Arv Z h t kt (.object "java/lang/Object") (10 : Int32) [.null, .null, .null, .null, .null, .null, .null, .null, .null, .null] .null ∧ Ovr Z kt "java/lang/Object") := by
  refine Con.intro (plainFor_of_name pn_7) hE X.el ?_
  intro p e s m below meth c T W
  have hsz := W.size
  refine Go.cast (efgr1 m a (1 : Int32)) ?_
  have KP := Keep.refl h0 [a]
  refine Go.step (fun _ k => XS.aloadN W.here W.hx rfl (W.d dgr1_0) rfl rfl k) ?_
  show Go _ _ _ _ _ _ _ _ _ _ (mkF m 1 #[.val (.ref a), .val (.int (1 : Int32)), .unset, .unset] [(.ref a)])
  refine W.getF (host := "") (Or.inl (X.w 48 rfl)) Via.refl FE dgr1_1 ?_
  intro T W
  show Go _ _ _ _ _ _ _ _ _ _ (mkF m 4 #[.val (.ref a), .val (.int (1 : Int32)), .unset, .unset] [(.ref D)])
  refine W.arraylength (Y.2.ext W.ext) dgr1_4 ?_
  show Go _ _ _ _ _ _ _ _ _ _ (mkF m 5 #[.val (.ref a), .val (.int (1 : Int32)), .unset, .unset] [(.int (0 : Int32))])
  refine Go.step (fun _ k => XS.istoreN W.here W.hx rfl (W.d dgr1_5) rfl (l' := #[.val (.ref a), .val (.int (1 : Int32)), .val (.int (0 : Int32)), .unset]) rfl k) ?_
  show Go _ _ _ _ _ _ _ _ _ _ (mkF m 6 #[.val (.ref a), .val (.int (1 : Int32)), .val (.int (0 : Int32)), .unset] [])
  refine Go.step (fun _ k => XS.iloadN W.here W.hx rfl (W.d dgr1_6) rfl k) ?_
  show Go _ _ _ _ _ _ _ _ _ _ (mkF m 7 #[.val (.ref a), .val (.int (1 : Int32)), .val (.int (0 : Int32)), .unset] [(.int (0 : Int32))])
  refine Go.step (fun _ k => XS.ifNo W.here W.hx rfl (W.d dgr1_7) rfl ((if0 _ _).trans (flt (by decide : ¬ ((0 : Int32) < (0 : Int32)))).2.2.1) k) ?_
  show Go _ _ _ _ _ _ _ _ _ _ (mkF m 10 #[.val (.ref a), .val (.int (1 : Int32)), .val (.int (0 : Int32)), .unset] [])
  refine Go.step (fun _ k => XS.aloadN W.here W.hx rfl (W.d dgr1_10) rfl rfl k) ?_
  show Go _ _ _ _ _ _ _ _ _ _ (mkF m 11 #[.val (.ref a), .val (.int (1 : Int32)), .val (.int (0 : Int32)), .unset] [(.ref a)])
  refine W.getF (host := "") (Or.inl (X.w 48 rfl)) Via.refl FE dgr1_11 ?_
  intro T W
  show Go _ _ _ _ _ _ _ _ _ _ (mkF m 14 #[.val (.ref a), .val (.int (1 : Int32)), .val (.int (0 : Int32)), .unset] [(.ref D)])
  refine W.getS (host := "") (Or.inl (X.w 47 rfl)) Via.refl Y.1 dgr1_14 ?_
  intro T W
  show Go _ _ _ _ _ _ _ _ _ _ (mkF m 17 #[.val (.ref a), .val (.int (1 : Int32)), .val (.int (0 : Int32)), .unset] [(.ref D), (.ref D)])
  refine W.acmp (pc' := 45) (same := true) rfl rfl dgr1_17 (decide_eq_true rfl) (by decide) (by decide) ?_
  show Go _ _ _ _ _ _ _ _ _ _ (mkF m 45 #[.val (.ref a), .val (.int (1 : Int32)), .val (.int (0 : Int32)), .unset] [])
  refine Go.step (fun _ k => XS.aloadN W.here W.hx rfl (W.d dgr1_45) rfl rfl k) ?_
  show Go _ _ _ _ _ _ _ _ _ _ (mkF m 46 #[.val (.ref a), .val (.int (1 : Int32)), .val (.int (0 : Int32)), .unset] [(.ref a)])
  refine Go.step (fun _ k => XS.bipush W.here W.hx rfl (W.d dgr1_46) k) ?_
  show Go _ _ _ _ _ _ _ _ _ _ (mkF m 48 #[.val (.ref a), .val (.int (1 : Int32)), .val (.int (0 : Int32)), .unset] [(.int (10 : Int32)), (.ref a)])
  refine Go.step (fun _ k => XS.iloadN W.here W.hx rfl (W.d dgr1_48) rfl k) ?_
  show Go _ _ _ _ _ _ _ _ _ _ (mkF m 49 #[.val (.ref a), .val (.int (1 : Int32)), .val (.int (0 : Int32)), .unset] [(.int (1 : Int32)), (.int (10 : Int32)), (.ref a)])
  refine W.callS (X.w 143 rfl) (X.w 144 rfl) (X.w 145 rfl) (X.w 146 rfl) (by decide) (c_max X _ W.ext) (by decide) (Wd := 1) (by decide) [(.int (10 : Int32)), (.int (1 : Int32))] [(.ref a)] rfl pd_8 rfl rfl rfl (Nat.le_of_eq rfl) dgr1_49 (by decide) (by decide) ?_
  intro v T h vm W hQ C
  obtain ⟨rfl, rfl⟩ := hQ
  show Go _ _ _ _ _ _ _ _ _ _ (mkF m 52 #[.val (.ref a), .val (.int (1 : Int32)), .val (.int (0 : Int32)), .unset] [(.int (10 : Int32)), (.ref a)])
  refine W.newref (X.w 147 rfl) (X.w 148 rfl) dgr1_52 (by decide) (cap := 10) (by decide) (by decide) (by decide) (by decide) ?_
  intro T h b1 kb1 hb1 W Eb1 Vb1 Ob1
  have ne_a_b1 : a ≠ b1 := by rw [hb1]; exact Nat.ne_of_lt Aa.lt
  have sz_b1 : h0.size ≤ b1 := by rw [hb1]; exact KP.1
  have gb1 : Z.heap.size ≤ b1 := by rw [hb1]; exact hsz
  replace FM := FM.ext Eb1
  replace FE := FE.ext Eb1
  replace FS := FS.ext Eb1
  replace KP := KP.ext Eb1
  replace Aa := Aa.ext Eb1
  replace hsz := W.size
  replace Vb1 : Arv Z h b1 kb1 (.object "java/lang/Object") (10 : Int32) [.null, .null, .null, .null, .null, .null, .null, .null, .null, .null] .null := Vb1.pad (pad_rep [] .null 10)
  show Go _ _ _ _ _ _ _ _ _ _ (mkF m 55 #[.val (.ref a), .val (.int (1 : Int32)), .val (.int (0 : Int32)), .unset] [(.ref b1), (.ref a)])
  refine Go.step (fun _ k => XS.dupX1 W.here W.hx rfl (W.d dgr1_55) rfl rfl rfl k) ?_
  show Go _ _ _ _ _ _ _ _ _ _ (mkF m 56 #[.val (.ref a), .val (.int (1 : Int32)), .val (.int (0 : Int32)), .unset] [(.ref b1), (.ref a), (.ref b1)])
  refine W.putF (host := "") (Or.inl (X.w 48 rfl)) Via.refl FE Aa (Or.inl (X.w 49 rfl)) (X.w 27 rfl) (ty := (.array (.object "java/lang/Object"))) (by decide) rfl rfl ga (Safe.exa W.hZ.alike Aa (by decide) (by decide)) dgr1_56 ?_
  intro T h W Wr2 FE'
  replace FS := FS.other Wr2 (Or.inr (slot_ne (Or.inl (X.w 111 rfl)) (Or.inl (X.w 49 rfl)) (by decide) (t := .int) (t' := (.array (.object "java/lang/Object"))) (by decide) (by decide)))
  replace FM := FM.other Wr2 (Or.inr (slot_ne (Or.inl (X.w 46 rfl)) (Or.inl (X.w 49 rfl)) (by decide) (t := .int) (t' := (.array (.object "java/lang/Object"))) (by decide) (by decide)))
  replace KP := KP.otrM (Keep.of_wr Wr2) (by simp)
  replace Vb1 := Vb1.keep (Keep.of_wr Wr2) (nin1 (Ne.symm ne_a_b1))
  replace Aa := Aa.keep (Keep.of_wr Wr2)
  replace hsz := W.size
  replace FE := FE'
  show Go _ _ _ _ _ _ _ _ _ _ (mkF m 59 #[.val (.ref a), .val (.int (1 : Int32)), .val (.int (0 : Int32)), .unset] [(.ref b1)])
  exact W.retR rfl rfl rfl dgr1_59 (⟨b1, _, rfl, sz_b1, KP, FM, FE, FS, Vb1, Ob1⟩) (by decide) (by decide)

theorem dgr0_0 : decode jdk_38_method_7_code 0 = .ok (.aload_n 0, 1) := by decide +kernel
theorem dgr0_1 : decode jdk_38_method_7_code 1 = .ok (.aload_n 0, 1) := by decide +kernel
theorem dgr0_2 : decode jdk_38_method_7_code 2 = .ok (.getfield 48, 3) := by decide +kernel
theorem dgr0_5 : decode jdk_38_method_7_code 5 = .ok (.iconst 1, 1) := by decide +kernel
theorem dgr0_6 : decode jdk_38_method_7_code 6 = .ok (.iadd, 1) := by decide +kernel
theorem dgr0_7 : decode jdk_38_method_7_code 7 = .ok (.invokevirtual 69, 3) := by decide +kernel
theorem dgr0_10 : decode jdk_38_method_7_code 10 = .ok (.areturn, 1) := by decide +kernel
theorem efgr0 (m : MethodId) (x0 : Addr) : entryFrame m #[(.ref x0)] 1 = mkF m 0 #[.val (.ref x0)] [] := by first | (simp [entryFrame, mkF, argsToLocals, Value.category]; done) | rfl
set_option maxRecDepth 65536 in
set_option maxHeartbeats 40000000 in
theorem c_gr0 {l : Launch} {Z : State} {a0 : Array Value} {G1 : Int32} (X : Ctx Z a0 G1) (a D : Addr) (kD : ClassId) (mo : Int32) (h0 : Heap) (hE : Ext Z.heap h0) (Y : Dft Z D kD) (ga : Z.heap.size ≤ a) (Aa : Exa Z h0 a "java/util/ArrayList") (FM : Fld Z h0 a "java/util/AbstractList" "modCount" "I" (.int mo)) (FE : Fld Z h0 a "java/util/ArrayList" "elementData" "[Ljava/lang/Object;" (.ref D)) (FS : Fld Z h0 a "java/util/ArrayList" "size" "I" (.int (0 : Int32))) :
    Con l Z consts_1 (⟨"java/util/ArrayList", "grow", "()[Ljava/lang/Object;"⟩ : MethodName) jdk_38_method_7_code 1 (some (.array (.object "java/lang/Object"))) [] ({ frames := 2, cells := 1, slots := 10, locals := 29 } : Room) #[(.ref a)] h0 (fun v h => ∃ (t : Addr) (kt : ClassId), v = some (.ref t) ∧ h0.size ≤ t ∧ Keep h0 h [a] ∧ Fld Z h a "java/util/AbstractList" "modCount" "I" (.int mo) ∧ Fld Z h a "java/util/ArrayList" "elementData" "[Ljava/lang/Object;" (.ref t) ∧ Fld Z h a "java/util/ArrayList" "size" "I" (.int (0 : Int32)) ∧ Arv Z h t kt (.object "java/lang/Object") (10 : Int32) [.null, .null, .null, .null, .null, .null, .null, .null, .null, .null] .null ∧ Ovr Z kt "java/lang/Object") := by
  refine Con.intro (plainFor_of_name pn_7) hE X.el ?_
  intro p e s m below meth c T W
  have hsz := W.size
  refine Go.cast (efgr0 m a) ?_
  have KP := Keep.refl h0 [a]
  refine Go.step (fun _ k => XS.aloadN W.here W.hx rfl (W.d dgr0_0) rfl rfl k) ?_
  show Go _ _ _ _ _ _ _ _ _ _ (mkF m 1 #[.val (.ref a)] [(.ref a)])
  refine Go.step (fun _ k => XS.aloadN W.here W.hx rfl (W.d dgr0_1) rfl rfl k) ?_
  show Go _ _ _ _ _ _ _ _ _ _ (mkF m 2 #[.val (.ref a)] [(.ref a), (.ref a)])
  refine W.getF (host := "") (Or.inl (X.w 110 rfl)) Via.refl FS dgr0_2 ?_
  intro T W
  show Go _ _ _ _ _ _ _ _ _ _ (mkF m 5 #[.val (.ref a)] [(.int (0 : Int32)), (.ref a)])
  refine Go.step (fun _ k => XS.iconst W.here W.hx rfl (W.d dgr0_5) k) ?_
  show Go _ _ _ _ _ _ _ _ _ _ (mkF m 6 #[.val (.ref a)] [(.int (1 : Int32)), (.int (0 : Int32)), (.ref a)])
  refine Go.step (fun _ k => XS.iadd W.here W.hx rfl (W.d dgr0_6) rfl k) ?_
  show Go _ _ _ _ _ _ _ _ _ _ (mkF m 7 #[.val (.ref a)] [(.int (1 : Int32)), (.ref a)])
  refine W.privat (X.w 138 rfl) (X.w 139 rfl) (X.w 141 rfl) (X.w 140 rfl) (X.w 28 rfl) (X.w 142 rfl) (by decide) (c_gr1 X a D _ _ _ W.ext Y ga Aa FM FE FS) (by decide) (Wd := 0) (by decide) a Aa [(.int (1 : Int32))] [] rfl pd_10 rfl rfl rfl (Nat.le_of_eq rfl) dgr0_7 (by decide) (by decide) ?_
  intro v T h vm W hQ C
  obtain ⟨b1, kb1, rfl, hn_b1, Kgb1, FM', FE', FS', Vb1, Ob1⟩ := hQ
  have ne_a_b1 : a ≠ b1 := Nat.ne_of_lt (Nat.lt_of_lt_of_le Aa.lt hn_b1)
  have sz_b1 : h0.size ≤ b1 := Nat.le_trans KP.1 hn_b1
  have gb1 : Z.heap.size ≤ b1 := Nat.le_trans hsz hn_b1
  replace KP := KP.otrM Kgb1 (by simp)
  replace Aa := Aa.keep Kgb1
  replace hsz := W.size
  replace FM := FM'
  replace FE := FE'
  replace FS := FS'
  show Go _ _ _ _ _ _ _ _ _ _ (mkF m 10 #[.val (.ref a)] [(.ref b1)])
  exact W.retR rfl rfl rfl dgr0_10 (⟨b1, _, rfl, sz_b1, KP, FM, FE, FS, Vb1, Ob1⟩) (by decide) (by decide)

theorem dad30_0 : decode jdk_38_method_24_code 0 = .ok (.iload_n 3, 1) := by decide +kernel
theorem dad30_1 : decode jdk_38_method_24_code 1 = .ok (.aload_n 2, 1) := by decide +kernel
theorem dad30_2 : decode jdk_38_method_24_code 2 = .ok (.arraylength, 1) := by decide +kernel
theorem dad30_3 : decode jdk_38_method_24_code 3 = .ok (.if_icmp .ne 8, 3) := by decide +kernel
theorem dad30_6 : decode jdk_38_method_24_code 6 = .ok (.aload_n 0, 1) := by decide +kernel
theorem dad30_7 : decode jdk_38_method_24_code 7 = .ok (.invokevirtual 129, 3) := by decide +kernel
theorem dad30_10 : decode jdk_38_method_24_code 10 = .ok (.astore_n 2, 1) := by decide +kernel
theorem dad30_11 : decode jdk_38_method_24_code 11 = .ok (.aload_n 2, 1) := by decide +kernel
theorem dad30_12 : decode jdk_38_method_24_code 12 = .ok (.iload_n 3, 1) := by decide +kernel
theorem dad30_13 : decode jdk_38_method_24_code 13 = .ok (.aload_n 1, 1) := by decide +kernel
theorem dad30_14 : decode jdk_38_method_24_code 14 = .ok (.aastore, 1) := by decide +kernel
theorem dad30_15 : decode jdk_38_method_24_code 15 = .ok (.aload_n 0, 1) := by decide +kernel
theorem dad30_16 : decode jdk_38_method_24_code 16 = .ok (.iload_n 3, 1) := by decide +kernel
theorem dad30_17 : decode jdk_38_method_24_code 17 = .ok (.iconst 1, 1) := by decide +kernel
theorem dad30_18 : decode jdk_38_method_24_code 18 = .ok (.iadd, 1) := by decide +kernel
theorem dad30_19 : decode jdk_38_method_24_code 19 = .ok (.putfield 48, 3) := by decide +kernel
theorem dad30_22 : decode jdk_38_method_24_code 22 = .ok (.return_, 1) := by decide +kernel
theorem efad30 (m : MethodId) (x0 : Addr) (x1 : Addr) (x2 : Addr) (x3 : Int32) : entryFrame m #[(.ref x0), (.ref x1), (.ref x2), (.int x3)] 4 = mkF m 0 #[.val (.ref x0), .val (.ref x1), .val (.ref x2), .val (.int x3)] [] := by first | (simp [entryFrame, mkF, argsToLocals, Value.category]; done) | rfl
set_option maxRecDepth 65536 in
set_option maxHeartbeats 40000000 in
theorem c_ad30 {l : Launch} {Z : State} {a0 : Array Value} {G1 : Int32} (X : Ctx Z a0 G1) (a D x0 : Addr) (kD : ClassId) (mo : Int32) (h0 : Heap) (hE : Ext Z.heap h0) (Y : Dft Z D kD) (ga : Z.heap.size ≤ a) (Aa : Exa Z h0 a "java/util/ArrayList") (FM : Fld Z h0 a "java/util/AbstractList" "modCount" "I" (.int mo)) (FE : Fld Z h0 a "java/util/ArrayList" "elementData" "[Ljava/lang/Object;" (.ref D)) (FS : Fld Z h0 a "java/util/ArrayList" "size" "I" (.int (0 : Int32))) (Ax0 : Exa Z h0 x0 "java/lang/String") :
    Con l Z consts_1 (⟨"java/util/ArrayList", "add", "(Ljava/lang/Object;[Ljava/lang/Object;I)V"⟩ : MethodName) jdk_38_method_24_code 4 none [] ({ frames := 3, cells := 1, slots := 10, locals := 41 } : Room) #[(.ref a), (.ref x0), (.ref D), (.int (0 : Int32))] h0 (fun v h => v = none ∧ ∃ (t : Addr) (kt : ClassId), h0.size ≤ t ∧ Keep h0 h [a] ∧ Fld Z h a "java/util/AbstractList" "modCount" "I" (.int mo) ∧ Fld Z h a "java/util/ArrayList" "elementData" "[Ljava/lang/Object;" (.ref t) ∧ Fld Z h a "java/util/ArrayList" "size" "I" (.int (1 : Int32)) ∧ Arv Z h t kt (.object "java/lang/Object") (10 : Int32) [(.ref x0), .null, .null, .null, .null, .null, .null, .null, .null, .null] .null ∧ Ovr Z kt "java/lang/Object") := by
  refine Con.intro (plainFor_of_name pn_7) hE X.el ?_
  intro p e s m below meth c T W
  have hsz := W.size
  refine Go.cast (efad30 m a x0 D (0 : Int32)) ?_
  have KP := Keep.refl h0 [a]
  refine Go.step (fun _ k => XS.iloadN W.here W.hx rfl (W.d dad30_0) rfl k) ?_
  show Go _ _ _ _ _ _ _ _ _ _ (mkF m 1 #[.val (.ref a), .val (.ref x0), .val (.ref D), .val (.int (0 : Int32))] [(.int (0 : Int32))])
  refine Go.step (fun _ k => XS.aloadN W.here W.hx rfl (W.d dad30_1) rfl rfl k) ?_
  show Go _ _ _ _ _ _ _ _ _ _ (mkF m 2 #[.val (.ref a), .val (.ref x0), .val (.ref D), .val (.int (0 : Int32))] [(.ref D), (.int (0 : Int32))])
  refine W.arraylength (Y.2.ext W.ext) dad30_2 ?_
  show Go _ _ _ _ _ _ _ _ _ _ (mkF m 3 #[.val (.ref a), .val (.ref x0), .val (.ref D), .val (.int (0 : Int32))] [(.int (0 : Int32)), (.int (0 : Int32))])
  refine Go.step (fun _ k => XS.icmpNo W.here W.hx rfl (W.d dad30_3) rfl (teq (by decide : (0 : Int32) = (0 : Int32))).2 k) ?_
  show Go _ _ _ _ _ _ _ _ _ _ (mkF m 6 #[.val (.ref a), .val (.ref x0), .val (.ref D), .val (.int (0 : Int32))] [])
  refine Go.step (fun _ k => XS.aloadN W.here W.hx rfl (W.d dad30_6) rfl rfl k) ?_
  show Go _ _ _ _ _ _ _ _ _ _ (mkF m 7 #[.val (.ref a), .val (.ref x0), .val (.ref D), .val (.int (0 : Int32))] [(.ref a)])
  refine W.privat (X.w 133 rfl) (X.w 134 rfl) (X.w 136 rfl) (X.w 135 rfl) (X.w 28 rfl) (X.w 137 rfl) (by decide) (c_gr0 X a D _ _ _ W.ext Y ga Aa FM FE FS) (by decide) (Wd := 0) (by decide) a Aa [] [] rfl pd_11 rfl rfl rfl (Nat.le_of_eq rfl) dad30_7 (by decide) (by decide) ?_
  intro v T h vm W hQ C
  obtain ⟨b1, kb1, rfl, hn_b1, Kgb1, FM', FE', FS', Vb1, Ob1⟩ := hQ
  have ne_a_b1 : a ≠ b1 := Nat.ne_of_lt (Nat.lt_of_lt_of_le Aa.lt hn_b1)
  have sz_b1 : h0.size ≤ b1 := Nat.le_trans KP.1 hn_b1
  have ne_x0_b1 : x0 ≠ b1 := Nat.ne_of_lt (Nat.lt_of_lt_of_le Ax0.lt hn_b1)
  have gb1 : Z.heap.size ≤ b1 := Nat.le_trans hsz hn_b1
  replace KP := KP.otrM Kgb1 (by simp)
  replace Aa := Aa.keep Kgb1
  replace Ax0 := Ax0.keep Kgb1
  replace hsz := W.size
  replace FM := FM'
  replace FE := FE'
  replace FS := FS'
  show Go _ _ _ _ _ _ _ _ _ _ (mkF m 10 #[.val (.ref a), .val (.ref x0), .val (.ref D), .val (.int (0 : Int32))] [(.ref b1)])
  refine Go.step (fun _ k => XS.astoreN W.here W.hx rfl (W.d dad30_10) rfl rfl (l' := #[.val (.ref a), .val (.ref x0), .val (.ref b1), .val (.int (0 : Int32))]) rfl k) ?_
  show Go _ _ _ _ _ _ _ _ _ _ (mkF m 11 #[.val (.ref a), .val (.ref x0), .val (.ref b1), .val (.int (0 : Int32))] [])
  refine Go.step (fun _ k => XS.aloadN W.here W.hx rfl (W.d dad30_11) rfl rfl k) ?_
  show Go _ _ _ _ _ _ _ _ _ _ (mkF m 12 #[.val (.ref a), .val (.ref x0), .val (.ref b1), .val (.int (0 : Int32))] [(.ref b1)])
  refine Go.step (fun _ k => XS.iloadN W.here W.hx rfl (W.d dad30_12) rfl k) ?_
  show Go _ _ _ _ _ _ _ _ _ _ (mkF m 13 #[.val (.ref a), .val (.ref x0), .val (.ref b1), .val (.int (0 : Int32))] [(.int (0 : Int32)), (.ref b1)])
  refine Go.step (fun _ k => XS.aloadN W.here W.hx rfl (W.d dad30_13) rfl rfl k) ?_
  show Go _ _ _ _ _ _ _ _ _ _ (mkF m 14 #[.val (.ref a), .val (.ref x0), .val (.ref b1), .val (.int (0 : Int32))] [(.ref x0), (.int (0 : Int32)), (.ref b1)])
  refine W.aastore Vb1 Ob1 (Ins.of_exa Ax0 (X.w 149 rfl)) 0 rfl (by simp) (by decide) gb1 dad30_14 ?_
  intro T h W K2 Vb1'
  replace FM := FM.keep K2 (nin1 ne_a_b1)
  replace FE := FE.keep K2 (nin1 ne_a_b1)
  replace FS := FS.keep K2 (nin1 ne_a_b1)
  replace KP := KP.otrN K2 sz_b1
  replace Aa := Aa.keep K2
  replace Ax0 := Ax0.keep K2
  replace hsz := W.size
  replace Vb1 : Arv Z h b1 kb1 (.object "java/lang/Object") (10 : Int32) [(.ref x0), .null, .null, .null, .null, .null, .null, .null, .null, .null] .null := Vb1'
  show Go _ _ _ _ _ _ _ _ _ _ (mkF m 15 #[.val (.ref a), .val (.ref x0), .val (.ref b1), .val (.int (0 : Int32))] [])
  refine Go.step (fun _ k => XS.aloadN W.here W.hx rfl (W.d dad30_15) rfl rfl k) ?_
  show Go _ _ _ _ _ _ _ _ _ _ (mkF m 16 #[.val (.ref a), .val (.ref x0), .val (.ref b1), .val (.int (0 : Int32))] [(.ref a)])
  refine Go.step (fun _ k => XS.iloadN W.here W.hx rfl (W.d dad30_16) rfl k) ?_
  show Go _ _ _ _ _ _ _ _ _ _ (mkF m 17 #[.val (.ref a), .val (.ref x0), .val (.ref b1), .val (.int (0 : Int32))] [(.int (0 : Int32)), (.ref a)])
  refine Go.step (fun _ k => XS.iconst W.here W.hx rfl (W.d dad30_17) k) ?_
  show Go _ _ _ _ _ _ _ _ _ _ (mkF m 18 #[.val (.ref a), .val (.ref x0), .val (.ref b1), .val (.int (0 : Int32))] [(.int (1 : Int32)), (.int (0 : Int32)), (.ref a)])
  refine Go.step (fun _ k => XS.iadd W.here W.hx rfl (W.d dad30_18) rfl k) ?_
  show Go _ _ _ _ _ _ _ _ _ _ (mkF m 19 #[.val (.ref a), .val (.ref x0), .val (.ref b1), .val (.int (0 : Int32))] [(.int (1 : Int32)), (.ref a)])
  refine W.putF (host := "") (Or.inl (X.w 110 rfl)) Via.refl FS Aa (Or.inl (X.w 111 rfl)) (X.w 27 rfl) (ty := .int) (by decide) rfl rfl ga (Safe.exa W.hZ.alike Aa (by decide) (by decide)) dad30_19 ?_
  intro T h W Wr3 FS'
  replace FM := FM.other Wr3 (Or.inr (slot_ne (Or.inl (X.w 46 rfl)) (Or.inl (X.w 111 rfl)) (by decide) (t := .int) (t' := .int) (by decide) (by decide)))
  replace FE := FE.other Wr3 (Or.inr (slot_ne (Or.inl (X.w 49 rfl)) (Or.inl (X.w 111 rfl)) (by decide) (t := (.array (.object "java/lang/Object"))) (t' := .int) (by decide) (by decide)))
  replace KP := KP.otrM (Keep.of_wr Wr3) (by simp)
  replace Vb1 := Vb1.keep (Keep.of_wr Wr3) (nin1 (Ne.symm ne_a_b1))
  replace Aa := Aa.keep (Keep.of_wr Wr3)
  replace Ax0 := Ax0.keep (Keep.of_wr Wr3)
  replace hsz := W.size
  replace FS := FS'
  show Go _ _ _ _ _ _ _ _ _ _ (mkF m 22 #[.val (.ref a), .val (.ref x0), .val (.ref b1), .val (.int (0 : Int32))] [])
  exact W.retV dad30_22 (⟨rfl, b1, _, sz_b1, KP, FM, FE, FS, Vb1, Ob1⟩) (by decide) (by decide)

theorem dadd0_0 : decode jdk_38_method_25_code 0 = .ok (.aload_n 0, 1) := by decide +kernel
theorem dadd0_1 : decode jdk_38_method_25_code 1 = .ok (.dup, 1) := by decide +kernel
theorem dadd0_2 : decode jdk_38_method_25_code 2 = .ok (.getfield 63, 3) := by decide +kernel
theorem dadd0_5 : decode jdk_38_method_25_code 5 = .ok (.iconst 1, 1) := by decide +kernel
theorem dadd0_6 : decode jdk_38_method_25_code 6 = .ok (.iadd, 1) := by decide +kernel
theorem dadd0_7 : decode jdk_38_method_25_code 7 = .ok (.putfield 63, 3) := by decide +kernel
theorem dadd0_10 : decode jdk_38_method_25_code 10 = .ok (.aload_n 0, 1) := by decide +kernel
theorem dadd0_11 : decode jdk_38_method_25_code 11 = .ok (.aload_n 1, 1) := by decide +kernel
theorem dadd0_12 : decode jdk_38_method_25_code 12 = .ok (.aload_n 0, 1) := by decide +kernel
theorem dadd0_13 : decode jdk_38_method_25_code 13 = .ok (.getfield 9, 3) := by decide +kernel
theorem dadd0_16 : decode jdk_38_method_25_code 16 = .ok (.aload_n 0, 1) := by decide +kernel
theorem dadd0_17 : decode jdk_38_method_25_code 17 = .ok (.getfield 48, 3) := by decide +kernel
theorem dadd0_20 : decode jdk_38_method_25_code 20 = .ok (.invokevirtual 131, 3) := by decide +kernel
theorem dadd0_23 : decode jdk_38_method_25_code 23 = .ok (.iconst 1, 1) := by decide +kernel
theorem dadd0_24 : decode jdk_38_method_25_code 24 = .ok (.ireturn, 1) := by decide +kernel
theorem efadd0 (m : MethodId) (x0 : Addr) (x1 : Addr) : entryFrame m #[(.ref x0), (.ref x1)] 2 = mkF m 0 #[.val (.ref x0), .val (.ref x1)] [] := by first | (simp [entryFrame, mkF, argsToLocals, Value.category]; done) | rfl
set_option maxRecDepth 65536 in
set_option maxHeartbeats 40000000 in
theorem c_add0 {l : Launch} {Z : State} {a0 : Array Value} {G1 : Int32} (X : Ctx Z a0 G1) (a D x0 : Addr) (kD : ClassId) (h0 : Heap) (hE : Ext Z.heap h0) (Y : Dft Z D kD) (ga : Z.heap.size ≤ a) (Aa : Exa Z h0 a "java/util/ArrayList") (FM : Fld Z h0 a "java/util/AbstractList" "modCount" "I" (.int (0 : Int32))) (FE : Fld Z h0 a "java/util/ArrayList" "elementData" "[Ljava/lang/Object;" (.ref D)) (FS : Fld Z h0 a "java/util/ArrayList" "size" "I" (.int (0 : Int32))) (Ax0 : Exa Z h0 x0 "java/lang/String") :
    Con l Z consts_1 (⟨"java/util/ArrayList", "add", "(Ljava/lang/Object;)Z"⟩ : MethodName) jdk_38_method_25_code 2 (some .boolean) [] ({ frames := 4, cells := 1, slots := 10, locals := 56 } : Room) #[(.ref a), (.ref x0)] h0 (fun v h => v = some (.int 1) ∧ ∃ (t : Addr) (kt : ClassId), h0.size ≤ t ∧ Keep h0 h [a] ∧ Fld Z h a "java/util/AbstractList" "modCount" "I" (.int (1 : Int32)) ∧ Fld Z h a "java/util/ArrayList" "elementData" "[Ljava/lang/Object;" (.ref t) ∧ Fld Z h a "java/util/ArrayList" "size" "I" (.int (1 : Int32)) ∧ Arv Z h t kt (.object "java/lang/Object") (10 : Int32) [(.ref x0), .null, .null, .null, .null, .null, .null, .null, .null, .null] .null ∧ Ovr Z kt "java/lang/Object") := by
  refine Con.intro (plainFor_of_name pn_7) hE X.el ?_
  intro p e s m below meth c T W
  have hsz := W.size
  refine Go.cast (efadd0 m a x0) ?_
  have KP := Keep.refl h0 [a]
  refine Go.step (fun _ k => XS.aloadN W.here W.hx rfl (W.d dadd0_0) rfl rfl k) ?_
  show Go _ _ _ _ _ _ _ _ _ _ (mkF m 1 #[.val (.ref a), .val (.ref x0)] [(.ref a)])
  refine Go.step (fun _ k => XS.dup W.here W.hx rfl (W.d dadd0_1) rfl rfl k) ?_
  show Go _ _ _ _ _ _ _ _ _ _ (mkF m 2 #[.val (.ref a), .val (.ref x0)] [(.ref a), (.ref a)])
  refine W.getF (host := "") (Or.inl (X.w 126 rfl)) (Via.of (X.w 127 rfl)) FM dadd0_2 ?_
  intro T W
  show Go _ _ _ _ _ _ _ _ _ _ (mkF m 5 #[.val (.ref a), .val (.ref x0)] [(.int (0 : Int32)), (.ref a)])
  refine Go.step (fun _ k => XS.iconst W.here W.hx rfl (W.d dadd0_5) k) ?_
  show Go _ _ _ _ _ _ _ _ _ _ (mkF m 6 #[.val (.ref a), .val (.ref x0)] [(.int (1 : Int32)), (.int (0 : Int32)), (.ref a)])
  refine Go.step (fun _ k => XS.iadd W.here W.hx rfl (W.d dadd0_6) rfl k) ?_
  show Go _ _ _ _ _ _ _ _ _ _ (mkF m 7 #[.val (.ref a), .val (.ref x0)] [(.int (1 : Int32)), (.ref a)])
  refine W.putF (host := "") (Or.inl (X.w 126 rfl)) (Via.of (X.w 127 rfl)) FM Aa (Or.inl (X.w 46 rfl)) (X.w 27 rfl) (ty := .int) (by decide) rfl rfl ga (Safe.exa W.hZ.alike Aa (by decide) (by decide)) dadd0_7 ?_
  intro T h W Wr1 FM'
  replace FS := FS.other Wr1 (Or.inr (slot_ne (Or.inl (X.w 111 rfl)) (Or.inl (X.w 46 rfl)) (by decide) (t := .int) (t' := .int) (by decide) (by decide)))
  replace FE := FE.other Wr1 (Or.inr (slot_ne (Or.inl (X.w 49 rfl)) (Or.inl (X.w 46 rfl)) (by decide) (t := (.array (.object "java/lang/Object"))) (t' := .int) (by decide) (by decide)))
  replace KP := KP.otrM (Keep.of_wr Wr1) (by simp)
  replace Aa := Aa.keep (Keep.of_wr Wr1)
  replace Ax0 := Ax0.keep (Keep.of_wr Wr1)
  replace hsz := W.size
  replace FM := FM'
  show Go _ _ _ _ _ _ _ _ _ _ (mkF m 10 #[.val (.ref a), .val (.ref x0)] [])
  refine Go.step (fun _ k => XS.aloadN W.here W.hx rfl (W.d dadd0_10) rfl rfl k) ?_
  show Go _ _ _ _ _ _ _ _ _ _ (mkF m 11 #[.val (.ref a), .val (.ref x0)] [(.ref a)])
  refine Go.step (fun _ k => XS.aloadN W.here W.hx rfl (W.d dadd0_11) rfl rfl k) ?_
  show Go _ _ _ _ _ _ _ _ _ _ (mkF m 12 #[.val (.ref a), .val (.ref x0)] [(.ref x0), (.ref a)])
  refine Go.step (fun _ k => XS.aloadN W.here W.hx rfl (W.d dadd0_12) rfl rfl k) ?_
  show Go _ _ _ _ _ _ _ _ _ _ (mkF m 13 #[.val (.ref a), .val (.ref x0)] [(.ref a), (.ref x0), (.ref a)])
  refine W.getF (host := "") (Or.inl (X.w 48 rfl)) Via.refl FE dadd0_13 ?_
  intro T W
  show Go _ _ _ _ _ _ _ _ _ _ (mkF m 16 #[.val (.ref a), .val (.ref x0)] [(.ref D), (.ref x0), (.ref a)])
  refine Go.step (fun _ k => XS.aloadN W.here W.hx rfl (W.d dadd0_16) rfl rfl k) ?_
  show Go _ _ _ _ _ _ _ _ _ _ (mkF m 17 #[.val (.ref a), .val (.ref x0)] [(.ref a), (.ref D), (.ref x0), (.ref a)])
  refine W.getF (host := "") (Or.inl (X.w 110 rfl)) Via.refl FS dadd0_17 ?_
  intro T W
  show Go _ _ _ _ _ _ _ _ _ _ (mkF m 20 #[.val (.ref a), .val (.ref x0)] [(.int (0 : Int32)), (.ref D), (.ref x0), (.ref a)])
  refine W.privat (X.w 128 rfl) (X.w 129 rfl) (X.w 131 rfl) (X.w 130 rfl) (X.w 28 rfl) (X.w 132 rfl) (by decide) (c_ad30 X a D x0 _ _ _ W.ext Y ga Aa FM FE FS Ax0) (by decide) (Wd := 0) (by decide) a Aa [(.ref x0), (.ref D), (.int (0 : Int32))] [] rfl pd_12 rfl rfl rfl (Nat.le_of_eq rfl) dadd0_20 (by decide) (by decide) ?_
  intro v T h vm W hQ C
  obtain ⟨rfl, b2, kb2, hn_b2, Kgb2, FM', FE', FS', Vb2, Ob2⟩ := hQ
  have ne_a_b2 : a ≠ b2 := Nat.ne_of_lt (Nat.lt_of_lt_of_le Aa.lt hn_b2)
  have sz_b2 : h0.size ≤ b2 := Nat.le_trans KP.1 hn_b2
  have ne_x0_b2 : x0 ≠ b2 := Nat.ne_of_lt (Nat.lt_of_lt_of_le Ax0.lt hn_b2)
  have gb2 : Z.heap.size ≤ b2 := Nat.le_trans hsz hn_b2
  replace KP := KP.otrM Kgb2 (by simp)
  replace Aa := Aa.keep Kgb2
  replace Ax0 := Ax0.keep Kgb2
  replace hsz := W.size
  replace FM := FM'
  replace FE := FE'
  replace FS := FS'
  show Go _ _ _ _ _ _ _ _ _ _ (mkF m 23 #[.val (.ref a), .val (.ref x0)] [])
  refine Go.step (fun _ k => XS.iconst W.here W.hx rfl (W.d dadd0_23) k) ?_
  show Go _ _ _ _ _ _ _ _ _ _ (mkF m 24 #[.val (.ref a), .val (.ref x0)] [(.int (1 : Int32))])
  exact W.retN (by simp) dadd0_24 (⟨rfl, b2, _, sz_b2, KP, FM, FE, FS, Vb2, Ob2⟩) (by decide) (by decide)

theorem dad31_0 : decode jdk_38_method_24_code 0 = .ok (.iload_n 3, 1) := by decide +kernel
theorem dad31_1 : decode jdk_38_method_24_code 1 = .ok (.aload_n 2, 1) := by decide +kernel
theorem dad31_2 : decode jdk_38_method_24_code 2 = .ok (.arraylength, 1) := by decide +kernel
theorem dad31_3 : decode jdk_38_method_24_code 3 = .ok (.if_icmp .ne 8, 3) := by decide +kernel
theorem dad31_11 : decode jdk_38_method_24_code 11 = .ok (.aload_n 2, 1) := by decide +kernel
theorem dad31_12 : decode jdk_38_method_24_code 12 = .ok (.iload_n 3, 1) := by decide +kernel
theorem dad31_13 : decode jdk_38_method_24_code 13 = .ok (.aload_n 1, 1) := by decide +kernel
theorem dad31_14 : decode jdk_38_method_24_code 14 = .ok (.aastore, 1) := by decide +kernel
theorem dad31_15 : decode jdk_38_method_24_code 15 = .ok (.aload_n 0, 1) := by decide +kernel
theorem dad31_16 : decode jdk_38_method_24_code 16 = .ok (.iload_n 3, 1) := by decide +kernel
theorem dad31_17 : decode jdk_38_method_24_code 17 = .ok (.iconst 1, 1) := by decide +kernel
theorem dad31_18 : decode jdk_38_method_24_code 18 = .ok (.iadd, 1) := by decide +kernel
theorem dad31_19 : decode jdk_38_method_24_code 19 = .ok (.putfield 48, 3) := by decide +kernel
theorem dad31_22 : decode jdk_38_method_24_code 22 = .ok (.return_, 1) := by decide +kernel
theorem efad31 (m : MethodId) (x0 : Addr) (x1 : Addr) (x2 : Addr) (x3 : Int32) : entryFrame m #[(.ref x0), (.ref x1), (.ref x2), (.int x3)] 4 = mkF m 0 #[.val (.ref x0), .val (.ref x1), .val (.ref x2), .val (.int x3)] [] := by first | (simp [entryFrame, mkF, argsToLocals, Value.category]; done) | rfl
set_option maxRecDepth 65536 in
set_option maxHeartbeats 40000000 in
theorem c_ad31 {l : Launch} {Z : State} {a0 : Array Value} {G1 : Int32} (X : Ctx Z a0 G1) (a D t x0 y1 : Addr) (kD kt : ClassId) (mo : Int32) (h0 : Heap) (hE : Ext Z.heap h0) (Y : Dft Z D kD) (ga : Z.heap.size ≤ a) (Aa : Exa Z h0 a "java/util/ArrayList") (FM : Fld Z h0 a "java/util/AbstractList" "modCount" "I" (.int mo)) (FE : Fld Z h0 a "java/util/ArrayList" "elementData" "[Ljava/lang/Object;" (.ref t)) (FS : Fld Z h0 a "java/util/ArrayList" "size" "I" (.int (1 : Int32))) (gt : Z.heap.size ≤ t) (Vt : Arv Z h0 t kt (.object "java/lang/Object") (10 : Int32) [(.ref y1), .null, .null, .null, .null, .null, .null, .null, .null, .null] .null) (Ot : Ovr Z kt "java/lang/Object") (ne : a ≠ t) (Ax0 : Exa Z h0 x0 "java/lang/String") :
    Con l Z consts_1 (⟨"java/util/ArrayList", "add", "(Ljava/lang/Object;[Ljava/lang/Object;I)V"⟩ : MethodName) jdk_38_method_24_code 4 none [] ({ frames := 0, cells := 0, slots := 0, locals := 0 } : Room) #[(.ref a), (.ref x0), (.ref t), (.int (1 : Int32))] h0 (fun v h => v = none ∧ Keep h0 h [a, t] ∧ Fld Z h a "java/util/AbstractList" "modCount" "I" (.int mo) ∧ Fld Z h a "java/util/ArrayList" "elementData" "[Ljava/lang/Object;" (.ref t) ∧ Fld Z h a "java/util/ArrayList" "size" "I" (.int (2 : Int32)) ∧ Arv Z h t kt (.object "java/lang/Object") (10 : Int32) [(.ref y1), (.ref x0), .null, .null, .null, .null, .null, .null, .null, .null] .null) := by
  refine Con.intro (plainFor_of_name pn_7) hE X.el ?_
  intro p e s m below meth c T W
  have hsz := W.size
  refine Go.cast (efad31 m a x0 t (1 : Int32)) ?_
  have KP := Keep.refl h0 [a, t]
  refine Go.step (fun _ k => XS.iloadN W.here W.hx rfl (W.d dad31_0) rfl k) ?_
  show Go _ _ _ _ _ _ _ _ _ _ (mkF m 1 #[.val (.ref a), .val (.ref x0), .val (.ref t), .val (.int (1 : Int32))] [(.int (1 : Int32))])
  refine Go.step (fun _ k => XS.aloadN W.here W.hx rfl (W.d dad31_1) rfl rfl k) ?_
  show Go _ _ _ _ _ _ _ _ _ _ (mkF m 2 #[.val (.ref a), .val (.ref x0), .val (.ref t), .val (.int (1 : Int32))] [(.ref t), (.int (1 : Int32))])
  refine W.arraylength Vt dad31_2 ?_
  show Go _ _ _ _ _ _ _ _ _ _ (mkF m 3 #[.val (.ref a), .val (.ref x0), .val (.ref t), .val (.int (1 : Int32))] [(.int (10 : Int32)), (.int (1 : Int32))])
  refine Go.step (fun _ k => XS.icmpYes W.here W.hx rfl (pc0 := 3) (pc' := 11) rfl (W.d dad31_3) rfl (feq (by decide : ¬ ((1 : Int32) = (10 : Int32)))).2 (by decide) (by decide) k) ?_
  show Go _ _ _ _ _ _ _ _ _ _ (mkF m 11 #[.val (.ref a), .val (.ref x0), .val (.ref t), .val (.int (1 : Int32))] [])
  refine Go.step (fun _ k => XS.aloadN W.here W.hx rfl (W.d dad31_11) rfl rfl k) ?_
  show Go _ _ _ _ _ _ _ _ _ _ (mkF m 12 #[.val (.ref a), .val (.ref x0), .val (.ref t), .val (.int (1 : Int32))] [(.ref t)])
  refine Go.step (fun _ k => XS.iloadN W.here W.hx rfl (W.d dad31_12) rfl k) ?_
  show Go _ _ _ _ _ _ _ _ _ _ (mkF m 13 #[.val (.ref a), .val (.ref x0), .val (.ref t), .val (.int (1 : Int32))] [(.int (1 : Int32)), (.ref t)])
  refine Go.step (fun _ k => XS.aloadN W.here W.hx rfl (W.d dad31_13) rfl rfl k) ?_
  show Go _ _ _ _ _ _ _ _ _ _ (mkF m 14 #[.val (.ref a), .val (.ref x0), .val (.ref t), .val (.int (1 : Int32))] [(.ref x0), (.int (1 : Int32)), (.ref t)])
  refine W.aastore Vt Ot (Ins.of_exa Ax0 (X.w 149 rfl)) 1 rfl (by simp) (by decide) gt dad31_14 ?_
  intro T h W K1 Vt'
  replace FM := FM.keep K1 (nin1 ne)
  replace FE := FE.keep K1 (nin1 ne)
  replace FS := FS.keep K1 (nin1 ne)
  replace KP := KP.otrM K1 (by simp)
  replace Aa := Aa.keep K1
  replace Ax0 := Ax0.keep K1
  replace hsz := W.size
  replace Vt : Arv Z h t kt (.object "java/lang/Object") (10 : Int32) [(.ref y1), (.ref x0), .null, .null, .null, .null, .null, .null, .null, .null] .null := Vt'
  show Go _ _ _ _ _ _ _ _ _ _ (mkF m 15 #[.val (.ref a), .val (.ref x0), .val (.ref t), .val (.int (1 : Int32))] [])
  refine Go.step (fun _ k => XS.aloadN W.here W.hx rfl (W.d dad31_15) rfl rfl k) ?_
  show Go _ _ _ _ _ _ _ _ _ _ (mkF m 16 #[.val (.ref a), .val (.ref x0), .val (.ref t), .val (.int (1 : Int32))] [(.ref a)])
  refine Go.step (fun _ k => XS.iloadN W.here W.hx rfl (W.d dad31_16) rfl k) ?_
  show Go _ _ _ _ _ _ _ _ _ _ (mkF m 17 #[.val (.ref a), .val (.ref x0), .val (.ref t), .val (.int (1 : Int32))] [(.int (1 : Int32)), (.ref a)])
  refine Go.step (fun _ k => XS.iconst W.here W.hx rfl (W.d dad31_17) k) ?_
  show Go _ _ _ _ _ _ _ _ _ _ (mkF m 18 #[.val (.ref a), .val (.ref x0), .val (.ref t), .val (.int (1 : Int32))] [(.int (1 : Int32)), (.int (1 : Int32)), (.ref a)])
  refine Go.step (fun _ k => XS.iadd W.here W.hx rfl (W.d dad31_18) rfl k) ?_
  show Go _ _ _ _ _ _ _ _ _ _ (mkF m 19 #[.val (.ref a), .val (.ref x0), .val (.ref t), .val (.int (1 : Int32))] [(.int (2 : Int32)), (.ref a)])
  refine W.putF (host := "") (Or.inl (X.w 110 rfl)) Via.refl FS Aa (Or.inl (X.w 111 rfl)) (X.w 27 rfl) (ty := .int) (by decide) rfl rfl ga (Safe.exa W.hZ.alike Aa (by decide) (by decide)) dad31_19 ?_
  intro T h W Wr2 FS'
  replace FM := FM.other Wr2 (Or.inr (slot_ne (Or.inl (X.w 46 rfl)) (Or.inl (X.w 111 rfl)) (by decide) (t := .int) (t' := .int) (by decide) (by decide)))
  replace FE := FE.other Wr2 (Or.inr (slot_ne (Or.inl (X.w 49 rfl)) (Or.inl (X.w 111 rfl)) (by decide) (t := (.array (.object "java/lang/Object"))) (t' := .int) (by decide) (by decide)))
  replace Vt := Vt.keep (Keep.of_wr Wr2) (nin1 (Ne.symm ne))
  replace KP := KP.otrM (Keep.of_wr Wr2) (by simp)
  replace Aa := Aa.keep (Keep.of_wr Wr2)
  replace Ax0 := Ax0.keep (Keep.of_wr Wr2)
  replace hsz := W.size
  replace FS := FS'
  show Go _ _ _ _ _ _ _ _ _ _ (mkF m 22 #[.val (.ref a), .val (.ref x0), .val (.ref t), .val (.int (1 : Int32))] [])
  exact W.retV dad31_22 (⟨rfl, KP, FM, FE, FS, Vt⟩) (by decide) (by decide)

theorem dadd1_0 : decode jdk_38_method_25_code 0 = .ok (.aload_n 0, 1) := by decide +kernel
theorem dadd1_1 : decode jdk_38_method_25_code 1 = .ok (.dup, 1) := by decide +kernel
theorem dadd1_2 : decode jdk_38_method_25_code 2 = .ok (.getfield 63, 3) := by decide +kernel
theorem dadd1_5 : decode jdk_38_method_25_code 5 = .ok (.iconst 1, 1) := by decide +kernel
theorem dadd1_6 : decode jdk_38_method_25_code 6 = .ok (.iadd, 1) := by decide +kernel
theorem dadd1_7 : decode jdk_38_method_25_code 7 = .ok (.putfield 63, 3) := by decide +kernel
theorem dadd1_10 : decode jdk_38_method_25_code 10 = .ok (.aload_n 0, 1) := by decide +kernel
theorem dadd1_11 : decode jdk_38_method_25_code 11 = .ok (.aload_n 1, 1) := by decide +kernel
theorem dadd1_12 : decode jdk_38_method_25_code 12 = .ok (.aload_n 0, 1) := by decide +kernel
theorem dadd1_13 : decode jdk_38_method_25_code 13 = .ok (.getfield 9, 3) := by decide +kernel
theorem dadd1_16 : decode jdk_38_method_25_code 16 = .ok (.aload_n 0, 1) := by decide +kernel
theorem dadd1_17 : decode jdk_38_method_25_code 17 = .ok (.getfield 48, 3) := by decide +kernel
theorem dadd1_20 : decode jdk_38_method_25_code 20 = .ok (.invokevirtual 131, 3) := by decide +kernel
theorem dadd1_23 : decode jdk_38_method_25_code 23 = .ok (.iconst 1, 1) := by decide +kernel
theorem dadd1_24 : decode jdk_38_method_25_code 24 = .ok (.ireturn, 1) := by decide +kernel
theorem efadd1 (m : MethodId) (x0 : Addr) (x1 : Addr) : entryFrame m #[(.ref x0), (.ref x1)] 2 = mkF m 0 #[.val (.ref x0), .val (.ref x1)] [] := by first | (simp [entryFrame, mkF, argsToLocals, Value.category]; done) | rfl
set_option maxRecDepth 65536 in
set_option maxHeartbeats 40000000 in
theorem c_add1 {l : Launch} {Z : State} {a0 : Array Value} {G1 : Int32} (X : Ctx Z a0 G1) (a D t x0 y1 : Addr) (kD kt : ClassId) (h0 : Heap) (hE : Ext Z.heap h0) (Y : Dft Z D kD) (ga : Z.heap.size ≤ a) (Aa : Exa Z h0 a "java/util/ArrayList") (FM : Fld Z h0 a "java/util/AbstractList" "modCount" "I" (.int (1 : Int32))) (FE : Fld Z h0 a "java/util/ArrayList" "elementData" "[Ljava/lang/Object;" (.ref t)) (FS : Fld Z h0 a "java/util/ArrayList" "size" "I" (.int (1 : Int32))) (gt : Z.heap.size ≤ t) (Vt : Arv Z h0 t kt (.object "java/lang/Object") (10 : Int32) [(.ref y1), .null, .null, .null, .null, .null, .null, .null, .null, .null] .null) (Ot : Ovr Z kt "java/lang/Object") (ne : a ≠ t) (Ax0 : Exa Z h0 x0 "java/lang/String") :
    Con l Z consts_1 (⟨"java/util/ArrayList", "add", "(Ljava/lang/Object;)Z"⟩ : MethodName) jdk_38_method_25_code 2 (some .boolean) [] ({ frames := 1, cells := 0, slots := 0, locals := 15 } : Room) #[(.ref a), (.ref x0)] h0 (fun v h => v = some (.int 1) ∧ Keep h0 h [a, t] ∧ Fld Z h a "java/util/AbstractList" "modCount" "I" (.int (2 : Int32)) ∧ Fld Z h a "java/util/ArrayList" "elementData" "[Ljava/lang/Object;" (.ref t) ∧ Fld Z h a "java/util/ArrayList" "size" "I" (.int (2 : Int32)) ∧ Arv Z h t kt (.object "java/lang/Object") (10 : Int32) [(.ref y1), (.ref x0), .null, .null, .null, .null, .null, .null, .null, .null] .null) := by
  refine Con.intro (plainFor_of_name pn_7) hE X.el ?_
  intro p e s m below meth c T W
  have hsz := W.size
  refine Go.cast (efadd1 m a x0) ?_
  have KP := Keep.refl h0 [a, t]
  refine Go.step (fun _ k => XS.aloadN W.here W.hx rfl (W.d dadd1_0) rfl rfl k) ?_
  show Go _ _ _ _ _ _ _ _ _ _ (mkF m 1 #[.val (.ref a), .val (.ref x0)] [(.ref a)])
  refine Go.step (fun _ k => XS.dup W.here W.hx rfl (W.d dadd1_1) rfl rfl k) ?_
  show Go _ _ _ _ _ _ _ _ _ _ (mkF m 2 #[.val (.ref a), .val (.ref x0)] [(.ref a), (.ref a)])
  refine W.getF (host := "") (Or.inl (X.w 126 rfl)) (Via.of (X.w 127 rfl)) FM dadd1_2 ?_
  intro T W
  show Go _ _ _ _ _ _ _ _ _ _ (mkF m 5 #[.val (.ref a), .val (.ref x0)] [(.int (1 : Int32)), (.ref a)])
  refine Go.step (fun _ k => XS.iconst W.here W.hx rfl (W.d dadd1_5) k) ?_
  show Go _ _ _ _ _ _ _ _ _ _ (mkF m 6 #[.val (.ref a), .val (.ref x0)] [(.int (1 : Int32)), (.int (1 : Int32)), (.ref a)])
  refine Go.step (fun _ k => XS.iadd W.here W.hx rfl (W.d dadd1_6) rfl k) ?_
  show Go _ _ _ _ _ _ _ _ _ _ (mkF m 7 #[.val (.ref a), .val (.ref x0)] [(.int (2 : Int32)), (.ref a)])
  refine W.putF (host := "") (Or.inl (X.w 126 rfl)) (Via.of (X.w 127 rfl)) FM Aa (Or.inl (X.w 46 rfl)) (X.w 27 rfl) (ty := .int) (by decide) rfl rfl ga (Safe.exa W.hZ.alike Aa (by decide) (by decide)) dadd1_7 ?_
  intro T h W Wr1 FM'
  replace FS := FS.other Wr1 (Or.inr (slot_ne (Or.inl (X.w 111 rfl)) (Or.inl (X.w 46 rfl)) (by decide) (t := .int) (t' := .int) (by decide) (by decide)))
  replace FE := FE.other Wr1 (Or.inr (slot_ne (Or.inl (X.w 49 rfl)) (Or.inl (X.w 46 rfl)) (by decide) (t := (.array (.object "java/lang/Object"))) (t' := .int) (by decide) (by decide)))
  replace Vt := Vt.keep (Keep.of_wr Wr1) (nin1 (Ne.symm ne))
  replace KP := KP.otrM (Keep.of_wr Wr1) (by simp)
  replace Aa := Aa.keep (Keep.of_wr Wr1)
  replace Ax0 := Ax0.keep (Keep.of_wr Wr1)
  replace hsz := W.size
  replace FM := FM'
  show Go _ _ _ _ _ _ _ _ _ _ (mkF m 10 #[.val (.ref a), .val (.ref x0)] [])
  refine Go.step (fun _ k => XS.aloadN W.here W.hx rfl (W.d dadd1_10) rfl rfl k) ?_
  show Go _ _ _ _ _ _ _ _ _ _ (mkF m 11 #[.val (.ref a), .val (.ref x0)] [(.ref a)])
  refine Go.step (fun _ k => XS.aloadN W.here W.hx rfl (W.d dadd1_11) rfl rfl k) ?_
  show Go _ _ _ _ _ _ _ _ _ _ (mkF m 12 #[.val (.ref a), .val (.ref x0)] [(.ref x0), (.ref a)])
  refine Go.step (fun _ k => XS.aloadN W.here W.hx rfl (W.d dadd1_12) rfl rfl k) ?_
  show Go _ _ _ _ _ _ _ _ _ _ (mkF m 13 #[.val (.ref a), .val (.ref x0)] [(.ref a), (.ref x0), (.ref a)])
  refine W.getF (host := "") (Or.inl (X.w 48 rfl)) Via.refl FE dadd1_13 ?_
  intro T W
  show Go _ _ _ _ _ _ _ _ _ _ (mkF m 16 #[.val (.ref a), .val (.ref x0)] [(.ref t), (.ref x0), (.ref a)])
  refine Go.step (fun _ k => XS.aloadN W.here W.hx rfl (W.d dadd1_16) rfl rfl k) ?_
  show Go _ _ _ _ _ _ _ _ _ _ (mkF m 17 #[.val (.ref a), .val (.ref x0)] [(.ref a), (.ref t), (.ref x0), (.ref a)])
  refine W.getF (host := "") (Or.inl (X.w 110 rfl)) Via.refl FS dadd1_17 ?_
  intro T W
  show Go _ _ _ _ _ _ _ _ _ _ (mkF m 20 #[.val (.ref a), .val (.ref x0)] [(.int (1 : Int32)), (.ref t), (.ref x0), (.ref a)])
  refine W.privat (X.w 128 rfl) (X.w 129 rfl) (X.w 131 rfl) (X.w 130 rfl) (X.w 28 rfl) (X.w 132 rfl) (by decide) (c_ad31 X a D t x0 y1 _ _ _ _ W.ext Y ga Aa FM FE FS gt Vt Ot ne Ax0) (by decide) (Wd := 0) (by decide) a Aa [(.ref x0), (.ref t), (.int (1 : Int32))] [] rfl pd_12 rfl rfl rfl (Nat.le_of_eq rfl) dadd1_20 (by decide) (by decide) ?_
  intro v T h vm W hQ C
  obtain ⟨rfl, Kg, FM', FE', FS', Vt'⟩ := hQ
  replace KP := KP.trans Kg (fun x hx => by simp only [List.mem_cons, List.not_mem_nil, or_false] at hx; rcases hx with rfl | rfl; exact Or.inl (by simp); exact Or.inl (by simp))
  replace Aa := Aa.keep Kg
  replace Ax0 := Ax0.keep Kg
  replace hsz := W.size
  replace FM := FM'
  replace FE := FE'
  replace FS := FS'
  replace Vt := Vt'
  show Go _ _ _ _ _ _ _ _ _ _ (mkF m 23 #[.val (.ref a), .val (.ref x0)] [])
  refine Go.step (fun _ k => XS.iconst W.here W.hx rfl (W.d dadd1_23) k) ?_
  show Go _ _ _ _ _ _ _ _ _ _ (mkF m 24 #[.val (.ref a), .val (.ref x0)] [(.int (1 : Int32))])
  exact W.retN (by simp) dadd1_24 (⟨rfl, KP, FM, FE, FS, Vt⟩) (by decide) (by decide)

theorem dad32_0 : decode jdk_38_method_24_code 0 = .ok (.iload_n 3, 1) := by decide +kernel
theorem dad32_1 : decode jdk_38_method_24_code 1 = .ok (.aload_n 2, 1) := by decide +kernel
theorem dad32_2 : decode jdk_38_method_24_code 2 = .ok (.arraylength, 1) := by decide +kernel
theorem dad32_3 : decode jdk_38_method_24_code 3 = .ok (.if_icmp .ne 8, 3) := by decide +kernel
theorem dad32_11 : decode jdk_38_method_24_code 11 = .ok (.aload_n 2, 1) := by decide +kernel
theorem dad32_12 : decode jdk_38_method_24_code 12 = .ok (.iload_n 3, 1) := by decide +kernel
theorem dad32_13 : decode jdk_38_method_24_code 13 = .ok (.aload_n 1, 1) := by decide +kernel
theorem dad32_14 : decode jdk_38_method_24_code 14 = .ok (.aastore, 1) := by decide +kernel
theorem dad32_15 : decode jdk_38_method_24_code 15 = .ok (.aload_n 0, 1) := by decide +kernel
theorem dad32_16 : decode jdk_38_method_24_code 16 = .ok (.iload_n 3, 1) := by decide +kernel
theorem dad32_17 : decode jdk_38_method_24_code 17 = .ok (.iconst 1, 1) := by decide +kernel
theorem dad32_18 : decode jdk_38_method_24_code 18 = .ok (.iadd, 1) := by decide +kernel
theorem dad32_19 : decode jdk_38_method_24_code 19 = .ok (.putfield 48, 3) := by decide +kernel
theorem dad32_22 : decode jdk_38_method_24_code 22 = .ok (.return_, 1) := by decide +kernel
theorem efad32 (m : MethodId) (x0 : Addr) (x1 : Addr) (x2 : Addr) (x3 : Int32) : entryFrame m #[(.ref x0), (.ref x1), (.ref x2), (.int x3)] 4 = mkF m 0 #[.val (.ref x0), .val (.ref x1), .val (.ref x2), .val (.int x3)] [] := by first | (simp [entryFrame, mkF, argsToLocals, Value.category]; done) | rfl
set_option maxRecDepth 65536 in
set_option maxHeartbeats 40000000 in
theorem c_ad32 {l : Launch} {Z : State} {a0 : Array Value} {G1 : Int32} (X : Ctx Z a0 G1) (a D t x0 y1 y2 : Addr) (kD kt : ClassId) (mo : Int32) (h0 : Heap) (hE : Ext Z.heap h0) (Y : Dft Z D kD) (ga : Z.heap.size ≤ a) (Aa : Exa Z h0 a "java/util/ArrayList") (FM : Fld Z h0 a "java/util/AbstractList" "modCount" "I" (.int mo)) (FE : Fld Z h0 a "java/util/ArrayList" "elementData" "[Ljava/lang/Object;" (.ref t)) (FS : Fld Z h0 a "java/util/ArrayList" "size" "I" (.int (2 : Int32))) (gt : Z.heap.size ≤ t) (Vt : Arv Z h0 t kt (.object "java/lang/Object") (10 : Int32) [(.ref y1), (.ref y2), .null, .null, .null, .null, .null, .null, .null, .null] .null) (Ot : Ovr Z kt "java/lang/Object") (ne : a ≠ t) (Ax0 : Exa Z h0 x0 "java/lang/String") :
    Con l Z consts_1 (⟨"java/util/ArrayList", "add", "(Ljava/lang/Object;[Ljava/lang/Object;I)V"⟩ : MethodName) jdk_38_method_24_code 4 none [] ({ frames := 0, cells := 0, slots := 0, locals := 0 } : Room) #[(.ref a), (.ref x0), (.ref t), (.int (2 : Int32))] h0 (fun v h => v = none ∧ Keep h0 h [a, t] ∧ Fld Z h a "java/util/AbstractList" "modCount" "I" (.int mo) ∧ Fld Z h a "java/util/ArrayList" "elementData" "[Ljava/lang/Object;" (.ref t) ∧ Fld Z h a "java/util/ArrayList" "size" "I" (.int (3 : Int32)) ∧ Arv Z h t kt (.object "java/lang/Object") (10 : Int32) [(.ref y1), (.ref y2), (.ref x0), .null, .null, .null, .null, .null, .null, .null] .null) := by
  refine Con.intro (plainFor_of_name pn_7) hE X.el ?_
  intro p e s m below meth c T W
  have hsz := W.size
  refine Go.cast (efad32 m a x0 t (2 : Int32)) ?_
  have KP := Keep.refl h0 [a, t]
  refine Go.step (fun _ k => XS.iloadN W.here W.hx rfl (W.d dad32_0) rfl k) ?_
  show Go _ _ _ _ _ _ _ _ _ _ (mkF m 1 #[.val (.ref a), .val (.ref x0), .val (.ref t), .val (.int (2 : Int32))] [(.int (2 : Int32))])
  refine Go.step (fun _ k => XS.aloadN W.here W.hx rfl (W.d dad32_1) rfl rfl k) ?_
  show Go _ _ _ _ _ _ _ _ _ _ (mkF m 2 #[.val (.ref a), .val (.ref x0), .val (.ref t), .val (.int (2 : Int32))] [(.ref t), (.int (2 : Int32))])
  refine W.arraylength Vt dad32_2 ?_
  show Go _ _ _ _ _ _ _ _ _ _ (mkF m 3 #[.val (.ref a), .val (.ref x0), .val (.ref t), .val (.int (2 : Int32))] [(.int (10 : Int32)), (.int (2 : Int32))])
  refine Go.step (fun _ k => XS.icmpYes W.here W.hx rfl (pc0 := 3) (pc' := 11) rfl (W.d dad32_3) rfl (feq (by decide : ¬ ((2 : Int32) = (10 : Int32)))).2 (by decide) (by decide) k) ?_
  show Go _ _ _ _ _ _ _ _ _ _ (mkF m 11 #[.val (.ref a), .val (.ref x0), .val (.ref t), .val (.int (2 : Int32))] [])
  refine Go.step (fun _ k => XS.aloadN W.here W.hx rfl (W.d dad32_11) rfl rfl k) ?_
  show Go _ _ _ _ _ _ _ _ _ _ (mkF m 12 #[.val (.ref a), .val (.ref x0), .val (.ref t), .val (.int (2 : Int32))] [(.ref t)])
  refine Go.step (fun _ k => XS.iloadN W.here W.hx rfl (W.d dad32_12) rfl k) ?_
  show Go _ _ _ _ _ _ _ _ _ _ (mkF m 13 #[.val (.ref a), .val (.ref x0), .val (.ref t), .val (.int (2 : Int32))] [(.int (2 : Int32)), (.ref t)])
  refine Go.step (fun _ k => XS.aloadN W.here W.hx rfl (W.d dad32_13) rfl rfl k) ?_
  show Go _ _ _ _ _ _ _ _ _ _ (mkF m 14 #[.val (.ref a), .val (.ref x0), .val (.ref t), .val (.int (2 : Int32))] [(.ref x0), (.int (2 : Int32)), (.ref t)])
  refine W.aastore Vt Ot (Ins.of_exa Ax0 (X.w 149 rfl)) 2 rfl (by simp) (by decide) gt dad32_14 ?_
  intro T h W K1 Vt'
  replace FM := FM.keep K1 (nin1 ne)
  replace FE := FE.keep K1 (nin1 ne)
  replace FS := FS.keep K1 (nin1 ne)
  replace KP := KP.otrM K1 (by simp)
  replace Aa := Aa.keep K1
  replace Ax0 := Ax0.keep K1
  replace hsz := W.size
  replace Vt : Arv Z h t kt (.object "java/lang/Object") (10 : Int32) [(.ref y1), (.ref y2), (.ref x0), .null, .null, .null, .null, .null, .null, .null] .null := Vt'
  show Go _ _ _ _ _ _ _ _ _ _ (mkF m 15 #[.val (.ref a), .val (.ref x0), .val (.ref t), .val (.int (2 : Int32))] [])
  refine Go.step (fun _ k => XS.aloadN W.here W.hx rfl (W.d dad32_15) rfl rfl k) ?_
  show Go _ _ _ _ _ _ _ _ _ _ (mkF m 16 #[.val (.ref a), .val (.ref x0), .val (.ref t), .val (.int (2 : Int32))] [(.ref a)])
  refine Go.step (fun _ k => XS.iloadN W.here W.hx rfl (W.d dad32_16) rfl k) ?_
  show Go _ _ _ _ _ _ _ _ _ _ (mkF m 17 #[.val (.ref a), .val (.ref x0), .val (.ref t), .val (.int (2 : Int32))] [(.int (2 : Int32)), (.ref a)])
  refine Go.step (fun _ k => XS.iconst W.here W.hx rfl (W.d dad32_17) k) ?_
  show Go _ _ _ _ _ _ _ _ _ _ (mkF m 18 #[.val (.ref a), .val (.ref x0), .val (.ref t), .val (.int (2 : Int32))] [(.int (1 : Int32)), (.int (2 : Int32)), (.ref a)])
  refine Go.step (fun _ k => XS.iadd W.here W.hx rfl (W.d dad32_18) rfl k) ?_
  show Go _ _ _ _ _ _ _ _ _ _ (mkF m 19 #[.val (.ref a), .val (.ref x0), .val (.ref t), .val (.int (2 : Int32))] [(.int (3 : Int32)), (.ref a)])
  refine W.putF (host := "") (Or.inl (X.w 110 rfl)) Via.refl FS Aa (Or.inl (X.w 111 rfl)) (X.w 27 rfl) (ty := .int) (by decide) rfl rfl ga (Safe.exa W.hZ.alike Aa (by decide) (by decide)) dad32_19 ?_
  intro T h W Wr2 FS'
  replace FM := FM.other Wr2 (Or.inr (slot_ne (Or.inl (X.w 46 rfl)) (Or.inl (X.w 111 rfl)) (by decide) (t := .int) (t' := .int) (by decide) (by decide)))
  replace FE := FE.other Wr2 (Or.inr (slot_ne (Or.inl (X.w 49 rfl)) (Or.inl (X.w 111 rfl)) (by decide) (t := (.array (.object "java/lang/Object"))) (t' := .int) (by decide) (by decide)))
  replace Vt := Vt.keep (Keep.of_wr Wr2) (nin1 (Ne.symm ne))
  replace KP := KP.otrM (Keep.of_wr Wr2) (by simp)
  replace Aa := Aa.keep (Keep.of_wr Wr2)
  replace Ax0 := Ax0.keep (Keep.of_wr Wr2)
  replace hsz := W.size
  replace FS := FS'
  show Go _ _ _ _ _ _ _ _ _ _ (mkF m 22 #[.val (.ref a), .val (.ref x0), .val (.ref t), .val (.int (2 : Int32))] [])
  exact W.retV dad32_22 (⟨rfl, KP, FM, FE, FS, Vt⟩) (by decide) (by decide)

theorem dadd2_0 : decode jdk_38_method_25_code 0 = .ok (.aload_n 0, 1) := by decide +kernel
theorem dadd2_1 : decode jdk_38_method_25_code 1 = .ok (.dup, 1) := by decide +kernel
theorem dadd2_2 : decode jdk_38_method_25_code 2 = .ok (.getfield 63, 3) := by decide +kernel
theorem dadd2_5 : decode jdk_38_method_25_code 5 = .ok (.iconst 1, 1) := by decide +kernel
theorem dadd2_6 : decode jdk_38_method_25_code 6 = .ok (.iadd, 1) := by decide +kernel
theorem dadd2_7 : decode jdk_38_method_25_code 7 = .ok (.putfield 63, 3) := by decide +kernel
theorem dadd2_10 : decode jdk_38_method_25_code 10 = .ok (.aload_n 0, 1) := by decide +kernel
theorem dadd2_11 : decode jdk_38_method_25_code 11 = .ok (.aload_n 1, 1) := by decide +kernel
theorem dadd2_12 : decode jdk_38_method_25_code 12 = .ok (.aload_n 0, 1) := by decide +kernel
theorem dadd2_13 : decode jdk_38_method_25_code 13 = .ok (.getfield 9, 3) := by decide +kernel
theorem dadd2_16 : decode jdk_38_method_25_code 16 = .ok (.aload_n 0, 1) := by decide +kernel
theorem dadd2_17 : decode jdk_38_method_25_code 17 = .ok (.getfield 48, 3) := by decide +kernel
theorem dadd2_20 : decode jdk_38_method_25_code 20 = .ok (.invokevirtual 131, 3) := by decide +kernel
theorem dadd2_23 : decode jdk_38_method_25_code 23 = .ok (.iconst 1, 1) := by decide +kernel
theorem dadd2_24 : decode jdk_38_method_25_code 24 = .ok (.ireturn, 1) := by decide +kernel
theorem efadd2 (m : MethodId) (x0 : Addr) (x1 : Addr) : entryFrame m #[(.ref x0), (.ref x1)] 2 = mkF m 0 #[.val (.ref x0), .val (.ref x1)] [] := by first | (simp [entryFrame, mkF, argsToLocals, Value.category]; done) | rfl
set_option maxRecDepth 65536 in
set_option maxHeartbeats 40000000 in
theorem c_add2 {l : Launch} {Z : State} {a0 : Array Value} {G1 : Int32} (X : Ctx Z a0 G1) (a D t x0 y1 y2 : Addr) (kD kt : ClassId) (h0 : Heap) (hE : Ext Z.heap h0) (Y : Dft Z D kD) (ga : Z.heap.size ≤ a) (Aa : Exa Z h0 a "java/util/ArrayList") (FM : Fld Z h0 a "java/util/AbstractList" "modCount" "I" (.int (2 : Int32))) (FE : Fld Z h0 a "java/util/ArrayList" "elementData" "[Ljava/lang/Object;" (.ref t)) (FS : Fld Z h0 a "java/util/ArrayList" "size" "I" (.int (2 : Int32))) (gt : Z.heap.size ≤ t) (Vt : Arv Z h0 t kt (.object "java/lang/Object") (10 : Int32) [(.ref y1), (.ref y2), .null, .null, .null, .null, .null, .null, .null, .null] .null) (Ot : Ovr Z kt "java/lang/Object") (ne : a ≠ t) (Ax0 : Exa Z h0 x0 "java/lang/String") :
    Con l Z consts_1 (⟨"java/util/ArrayList", "add", "(Ljava/lang/Object;)Z"⟩ : MethodName) jdk_38_method_25_code 2 (some .boolean) [] ({ frames := 1, cells := 0, slots := 0, locals := 15 } : Room) #[(.ref a), (.ref x0)] h0 (fun v h => v = some (.int 1) ∧ Keep h0 h [a, t] ∧ Fld Z h a "java/util/AbstractList" "modCount" "I" (.int (3 : Int32)) ∧ Fld Z h a "java/util/ArrayList" "elementData" "[Ljava/lang/Object;" (.ref t) ∧ Fld Z h a "java/util/ArrayList" "size" "I" (.int (3 : Int32)) ∧ Arv Z h t kt (.object "java/lang/Object") (10 : Int32) [(.ref y1), (.ref y2), (.ref x0), .null, .null, .null, .null, .null, .null, .null] .null) := by
  refine Con.intro (plainFor_of_name pn_7) hE X.el ?_
  intro p e s m below meth c T W
  have hsz := W.size
  refine Go.cast (efadd2 m a x0) ?_
  have KP := Keep.refl h0 [a, t]
  refine Go.step (fun _ k => XS.aloadN W.here W.hx rfl (W.d dadd2_0) rfl rfl k) ?_
  show Go _ _ _ _ _ _ _ _ _ _ (mkF m 1 #[.val (.ref a), .val (.ref x0)] [(.ref a)])
  refine Go.step (fun _ k => XS.dup W.here W.hx rfl (W.d dadd2_1) rfl rfl k) ?_
  show Go _ _ _ _ _ _ _ _ _ _ (mkF m 2 #[.val (.ref a), .val (.ref x0)] [(.ref a), (.ref a)])
  refine W.getF (host := "") (Or.inl (X.w 126 rfl)) (Via.of (X.w 127 rfl)) FM dadd2_2 ?_
  intro T W
  show Go _ _ _ _ _ _ _ _ _ _ (mkF m 5 #[.val (.ref a), .val (.ref x0)] [(.int (2 : Int32)), (.ref a)])
  refine Go.step (fun _ k => XS.iconst W.here W.hx rfl (W.d dadd2_5) k) ?_
  show Go _ _ _ _ _ _ _ _ _ _ (mkF m 6 #[.val (.ref a), .val (.ref x0)] [(.int (1 : Int32)), (.int (2 : Int32)), (.ref a)])
  refine Go.step (fun _ k => XS.iadd W.here W.hx rfl (W.d dadd2_6) rfl k) ?_
  show Go _ _ _ _ _ _ _ _ _ _ (mkF m 7 #[.val (.ref a), .val (.ref x0)] [(.int (3 : Int32)), (.ref a)])
  refine W.putF (host := "") (Or.inl (X.w 126 rfl)) (Via.of (X.w 127 rfl)) FM Aa (Or.inl (X.w 46 rfl)) (X.w 27 rfl) (ty := .int) (by decide) rfl rfl ga (Safe.exa W.hZ.alike Aa (by decide) (by decide)) dadd2_7 ?_
  intro T h W Wr1 FM'
  replace FS := FS.other Wr1 (Or.inr (slot_ne (Or.inl (X.w 111 rfl)) (Or.inl (X.w 46 rfl)) (by decide) (t := .int) (t' := .int) (by decide) (by decide)))
  replace FE := FE.other Wr1 (Or.inr (slot_ne (Or.inl (X.w 49 rfl)) (Or.inl (X.w 46 rfl)) (by decide) (t := (.array (.object "java/lang/Object"))) (t' := .int) (by decide) (by decide)))
  replace Vt := Vt.keep (Keep.of_wr Wr1) (nin1 (Ne.symm ne))
  replace KP := KP.otrM (Keep.of_wr Wr1) (by simp)
  replace Aa := Aa.keep (Keep.of_wr Wr1)
  replace Ax0 := Ax0.keep (Keep.of_wr Wr1)
  replace hsz := W.size
  replace FM := FM'
  show Go _ _ _ _ _ _ _ _ _ _ (mkF m 10 #[.val (.ref a), .val (.ref x0)] [])
  refine Go.step (fun _ k => XS.aloadN W.here W.hx rfl (W.d dadd2_10) rfl rfl k) ?_
  show Go _ _ _ _ _ _ _ _ _ _ (mkF m 11 #[.val (.ref a), .val (.ref x0)] [(.ref a)])
  refine Go.step (fun _ k => XS.aloadN W.here W.hx rfl (W.d dadd2_11) rfl rfl k) ?_
  show Go _ _ _ _ _ _ _ _ _ _ (mkF m 12 #[.val (.ref a), .val (.ref x0)] [(.ref x0), (.ref a)])
  refine Go.step (fun _ k => XS.aloadN W.here W.hx rfl (W.d dadd2_12) rfl rfl k) ?_
  show Go _ _ _ _ _ _ _ _ _ _ (mkF m 13 #[.val (.ref a), .val (.ref x0)] [(.ref a), (.ref x0), (.ref a)])
  refine W.getF (host := "") (Or.inl (X.w 48 rfl)) Via.refl FE dadd2_13 ?_
  intro T W
  show Go _ _ _ _ _ _ _ _ _ _ (mkF m 16 #[.val (.ref a), .val (.ref x0)] [(.ref t), (.ref x0), (.ref a)])
  refine Go.step (fun _ k => XS.aloadN W.here W.hx rfl (W.d dadd2_16) rfl rfl k) ?_
  show Go _ _ _ _ _ _ _ _ _ _ (mkF m 17 #[.val (.ref a), .val (.ref x0)] [(.ref a), (.ref t), (.ref x0), (.ref a)])
  refine W.getF (host := "") (Or.inl (X.w 110 rfl)) Via.refl FS dadd2_17 ?_
  intro T W
  show Go _ _ _ _ _ _ _ _ _ _ (mkF m 20 #[.val (.ref a), .val (.ref x0)] [(.int (2 : Int32)), (.ref t), (.ref x0), (.ref a)])
  refine W.privat (X.w 128 rfl) (X.w 129 rfl) (X.w 131 rfl) (X.w 130 rfl) (X.w 28 rfl) (X.w 132 rfl) (by decide) (c_ad32 X a D t x0 y1 y2 _ _ _ _ W.ext Y ga Aa FM FE FS gt Vt Ot ne Ax0) (by decide) (Wd := 0) (by decide) a Aa [(.ref x0), (.ref t), (.int (2 : Int32))] [] rfl pd_12 rfl rfl rfl (Nat.le_of_eq rfl) dadd2_20 (by decide) (by decide) ?_
  intro v T h vm W hQ C
  obtain ⟨rfl, Kg, FM', FE', FS', Vt'⟩ := hQ
  replace KP := KP.trans Kg (fun x hx => by simp only [List.mem_cons, List.not_mem_nil, or_false] at hx; rcases hx with rfl | rfl; exact Or.inl (by simp); exact Or.inl (by simp))
  replace Aa := Aa.keep Kg
  replace Ax0 := Ax0.keep Kg
  replace hsz := W.size
  replace FM := FM'
  replace FE := FE'
  replace FS := FS'
  replace Vt := Vt'
  show Go _ _ _ _ _ _ _ _ _ _ (mkF m 23 #[.val (.ref a), .val (.ref x0)] [])
  refine Go.step (fun _ k => XS.iconst W.here W.hx rfl (W.d dadd2_23) k) ?_
  show Go _ _ _ _ _ _ _ _ _ _ (mkF m 24 #[.val (.ref a), .val (.ref x0)] [(.int (1 : Int32))])
  exact W.retN (by simp) dadd2_24 (⟨rfl, KP, FM, FE, FS, Vt⟩) (by decide) (by decide)

theorem dcod_0 : decode jdk_42_method_152_code 0 = .ok (.getstatic 38, 3) := by decide +kernel
theorem dcod_3 : decode jdk_42_method_152_code 3 = .ok (.ifCond .eq 10, 3) := by decide +kernel
theorem dcod_6 : decode jdk_42_method_152_code 6 = .ok (.aload_n 0, 1) := by decide +kernel
theorem dcod_7 : decode jdk_42_method_152_code 7 = .ok (.getfield 15, 3) := by decide +kernel
theorem dcod_10 : decode jdk_42_method_152_code 10 = .ok (.goto 4, 3) := by decide +kernel
theorem dcod_14 : decode jdk_42_method_152_code 14 = .ok (.ireturn, 1) := by decide +kernel
theorem efcod (m : MethodId) (x0 : Addr) : entryFrame m #[(.ref x0)] 1 = mkF m 0 #[.val (.ref x0)] [] := by first | (simp [entryFrame, mkF, argsToLocals, Value.category]; done) | rfl
set_option maxRecDepth 65536 in
set_option maxHeartbeats 40000000 in
theorem c_cod {l : Launch} {Z : State} {a0 : Array Value} {G1 : Int32} (X : Ctx Z a0 G1) (a : Addr) (h0 : Heap) (hE : Ext Z.heap h0) (FC : Fld Z h0 a "java/lang/String" "coder" "B" (.int (0 : Int32))) :
    Con l Z consts_1 (⟨"java/lang/String", "coder", "()B"⟩ : MethodName) jdk_42_method_152_code 1 (some .byte) [] ({ frames := 0, cells := 0, slots := 0, locals := 0 } : Room) #[(.ref a)] h0 (fun v h => v = some (.int 0) ∧ h0 = h) := by
  refine Con.intro (plainFor_of_name pn_0) hE X.el ?_
  intro p e s m below meth c T W
  have hsz := W.size
  refine Go.cast (efcod m a) ?_
  refine W.getS (host := "") (Or.inl (X.w 193 rfl)) Via.refl X.2.1 dcod_0 ?_
  intro T W
  show Go _ _ _ _ _ _ _ _ _ _ (mkF m 3 #[.val (.ref a)] [(.int G1)])
  refine Go.step (fun _ k => XS.ifNo W.here W.hx rfl (W.d dcod_3) rfl ((if0 _ _).trans (feq X.2.2.1).1) k) ?_
  show Go _ _ _ _ _ _ _ _ _ _ (mkF m 6 #[.val (.ref a)] [])
  refine Go.step (fun _ k => XS.aloadN W.here W.hx rfl (W.d dcod_6) rfl rfl k) ?_
  show Go _ _ _ _ _ _ _ _ _ _ (mkF m 7 #[.val (.ref a)] [(.ref a)])
  refine W.getF (host := "") (Or.inl (X.w 25 rfl)) Via.refl FC dcod_7 ?_
  intro T W
  show Go _ _ _ _ _ _ _ _ _ _ (mkF m 10 #[.val (.ref a)] [(.int (0 : Int32))])
  refine Go.step (fun _ k => XS.goto W.here W.hx rfl (pc0 := 10) (pc' := 14) rfl (W.d dcod_10) (by decide) (by decide) k) ?_
  show Go _ _ _ _ _ _ _ _ _ _ (mkF m 14 #[.val (.ref a)] [(.int (0 : Int32))])
  exact W.retN (by simp) dcod_14 (⟨rfl, rfl⟩) (by decide) (by decide)

theorem dlen_0 : decode jdk_42_method_54_code 0 = .ok (.aload_n 0, 1) := by decide +kernel
theorem dlen_1 : decode jdk_42_method_54_code 1 = .ok (.getfield 9, 3) := by decide +kernel
theorem dlen_4 : decode jdk_42_method_54_code 4 = .ok (.arraylength, 1) := by decide +kernel
theorem dlen_5 : decode jdk_42_method_54_code 5 = .ok (.aload_n 0, 1) := by decide +kernel
theorem dlen_6 : decode jdk_42_method_54_code 6 = .ok (.invokevirtual 335, 3) := by decide +kernel
theorem dlen_9 : decode jdk_42_method_54_code 9 = .ok (.ishr, 1) := by decide +kernel
theorem dlen_10 : decode jdk_42_method_54_code 10 = .ok (.ireturn, 1) := by decide +kernel
theorem eflen (m : MethodId) (x0 : Addr) : entryFrame m #[(.ref x0)] 1 = mkF m 0 #[.val (.ref x0)] [] := by first | (simp [entryFrame, mkF, argsToLocals, Value.category]; done) | rfl
set_option maxRecDepth 65536 in
set_option maxHeartbeats 40000000 in
theorem c_len {l : Launch} {Z : State} {a0 : Array Value} {G1 : Int32} (X : Ctx Z a0 G1) (a t : Addr) (kt : ClassId) (zn : Int32) (vs : List Value) (h0 : Heap) (hE : Ext Z.heap h0) (Aa : Exa Z h0 a "java/lang/String") (FV : Fld Z h0 a "java/lang/String" "value" "[B" (.ref t)) (FC : Fld Z h0 a "java/lang/String" "coder" "B" (.int (0 : Int32))) (V : Arv Z h0 t kt .byte zn vs (.int (0 : Int32))) :
    Con l Z consts_1 (⟨"java/lang/String", "length", "()I"⟩ : MethodName) jdk_42_method_54_code 1 (some .int) [] ({ frames := 1, cells := 0, slots := 0, locals := 13 } : Room) #[(.ref a)] h0 (fun v h => v = some (.int zn) ∧ h0 = h) := by
  refine Con.intro (plainFor_of_name pn_0) hE X.el ?_
  intro p e s m below meth c T W
  have hsz := W.size
  refine Go.cast (eflen m a) ?_
  refine Go.step (fun _ k => XS.aloadN W.here W.hx rfl (W.d dlen_0) rfl rfl k) ?_
  show Go _ _ _ _ _ _ _ _ _ _ (mkF m 1 #[.val (.ref a)] [(.ref a)])
  refine W.getF (host := "") (Or.inl (X.w 24 rfl)) Via.refl FV dlen_1 ?_
  intro T W
  show Go _ _ _ _ _ _ _ _ _ _ (mkF m 4 #[.val (.ref a)] [(.ref t)])
  refine W.arraylength V dlen_4 ?_
  show Go _ _ _ _ _ _ _ _ _ _ (mkF m 5 #[.val (.ref a)] [(.int zn)])
  refine Go.step (fun _ k => XS.aloadN W.here W.hx rfl (W.d dlen_5) rfl rfl k) ?_
  show Go _ _ _ _ _ _ _ _ _ _ (mkF m 6 #[.val (.ref a)] [(.ref a), (.int zn)])
  refine W.virtual (X.w 188 rfl) (X.w 189 rfl) (notFace_of_selects (args := #[]) (mvT W.hZ (X.w 191 rfl))) (X.w 191 rfl) (X.w 190 rfl) (X.w 6 rfl) (X.w 192 rfl) (by decide) (c_cod X a _ W.ext FC) (by decide) (Wd := 1) (by decide) a Aa [] [(.int zn)] rfl pd_13 rfl rfl rfl (Nat.le_of_eq rfl) dlen_6 (by decide) (by decide) ?_
  intro v T h vm W hQ C
  obtain ⟨rfl, rfl⟩ := hQ
  show Go _ _ _ _ _ _ _ _ _ _ (mkF m 9 #[.val (.ref a)] [(.int (0 : Int32)), (.int zn)])
  refine Go.step (fun _ k => XS.ishr W.here W.hx rfl (W.d dlen_9) rfl k) ?_
  show Go _ _ _ _ _ _ _ _ _ _ (mkF m 10 #[.val (.ref a)] [(.int (zn >>> ((0 : Int32) &&& 31)))])
  exact W.retI dlen_10 (⟨by rw [shr0], rfl⟩) (by decide) (by decide)

theorem dmis_0 : decode jdk_48_method_14_code 0 = .ok (.iconst 0, 1) := by decide +kernel
theorem dmis_1 : decode jdk_48_method_14_code 1 = .ok (.istore 5, 2) := by decide +kernel
theorem dmis_3 : decode jdk_48_method_14_code 3 = .ok (.iload 4, 2) := by decide +kernel
theorem dmis_5 : decode jdk_48_method_14_code 5 = .ok (.bipush 7, 2) := by decide +kernel
theorem dmis_7 : decode jdk_48_method_14_code 7 = .ok (.if_icmp .le 63, 3) := by decide +kernel
theorem dmis_70 : decode jdk_48_method_14_code 70 = .ok (.iload 5, 2) := by decide +kernel
theorem dmis_72 : decode jdk_48_method_14_code 72 = .ok (.iload 4, 2) := by decide +kernel
theorem dmis_74 : decode jdk_48_method_14_code 74 = .ok (.if_icmp .ge 27, 3) := by decide +kernel
theorem dmis_77 : decode jdk_48_method_14_code 77 = .ok (.aload_n 0, 1) := by decide +kernel
theorem dmis_78 : decode jdk_48_method_14_code 78 = .ok (.iload_n 1, 1) := by decide +kernel
theorem dmis_79 : decode jdk_48_method_14_code 79 = .ok (.iload 5, 2) := by decide +kernel
theorem dmis_81 : decode jdk_48_method_14_code 81 = .ok (.iadd, 1) := by decide +kernel
theorem dmis_82 : decode jdk_48_method_14_code 82 = .ok (.baload, 1) := by decide +kernel
theorem dmis_83 : decode jdk_48_method_14_code 83 = .ok (.aload_n 2, 1) := by decide +kernel
theorem dmis_84 : decode jdk_48_method_14_code 84 = .ok (.iload_n 3, 1) := by decide +kernel
theorem dmis_85 : decode jdk_48_method_14_code 85 = .ok (.iload 5, 2) := by decide +kernel
theorem dmis_87 : decode jdk_48_method_14_code 87 = .ok (.iadd, 1) := by decide +kernel
theorem dmis_88 : decode jdk_48_method_14_code 88 = .ok (.baload, 1) := by decide +kernel
theorem dmis_89 : decode jdk_48_method_14_code 89 = .ok (.if_icmp .eq 6, 3) := by decide +kernel
theorem dmis_92 : decode jdk_48_method_14_code 92 = .ok (.iload 5, 2) := by decide +kernel
theorem dmis_94 : decode jdk_48_method_14_code 94 = .ok (.ireturn, 1) := by decide +kernel
theorem dmis_95 : decode jdk_48_method_14_code 95 = .ok (.iinc 5 1, 3) := by decide +kernel
theorem dmis_98 : decode jdk_48_method_14_code 98 = .ok (.goto (-28), 3) := by decide +kernel
theorem dmis_101 : decode jdk_48_method_14_code 101 = .ok (.iconst (-1), 1) := by decide +kernel
theorem dmis_102 : decode jdk_48_method_14_code 102 = .ok (.ireturn, 1) := by decide +kernel
theorem efmis (m : MethodId) (x0 : Addr) (x1 : Int32) (x2 : Addr) (x3 : Int32) (x4 : Int32) : entryFrame m #[(.ref x0), (.int x1), (.ref x2), (.int x3), (.int x4)] 8 = mkF m 0 #[.val (.ref x0), .val (.int x1), .val (.ref x2), .val (.int x3), .val (.int x4), .unset, .unset, .unset] [] := by first | (simp [entryFrame, mkF, argsToLocals, Value.category]; done) | rfl
set_option maxRecDepth 65536 in
set_option maxHeartbeats 40000000 in
theorem c_mis {l : Launch} {Z : State} {a0 : Array Value} {G1 : Int32} (X : Ctx Z a0 G1) (t u : Addr) (kt ku : ClassId) (c0 c1 : Int32) (h0 : Heap) (hE : Ext Z.heap h0) (Vt : Arv Z h0 t kt .byte (2 : Int32) [(.int c0.toInt8.toInt32), (.int c1.toInt8.toInt32)] (.int (0 : Int32))) (Vu : Arv Z h0 u ku .byte (2 : Int32) [(.int (45 : Int32)), (.int (45 : Int32))] (.int (0 : Int32))) (t0 : Sm c0) (t1 : Sm c1) (nd : ¬ (c0 = 45 ∧ c1 = 45)) :
    Con l Z consts_1 (⟨"jdk/internal/util/ArraysSupport", "mismatch", "([BI[BII)I"⟩ : MethodName) jdk_48_method_14_code 8 (some .int) [] ({ frames := 0, cells := 0, slots := 0, locals := 0 } : Room) #[(.ref t), (.int (0 : Int32)), (.ref u), (.int (0 : Int32)), (.int (2 : Int32))] h0 (fun v h => ∃ z : Int32, v = some (.int z) ∧ ¬ z < 0 ∧ h0 = h) := by
  refine Con.intro (plainFor_of_name pn_12) hE X.el ?_
  intro p e s m below meth c T W
  have hsz := W.size
  refine Go.cast (efmis m t (0 : Int32) u (0 : Int32) (2 : Int32)) ?_
  refine Go.step (fun _ k => XS.iconst W.here W.hx rfl (W.d dmis_0) k) ?_
  show Go _ _ _ _ _ _ _ _ _ _ (mkF m 1 #[.val (.ref t), .val (.int (0 : Int32)), .val (.ref u), .val (.int (0 : Int32)), .val (.int (2 : Int32)), .unset, .unset, .unset] [(.int (0 : Int32))])
  refine Go.step (fun _ k => XS.istore W.here W.hx rfl (W.d dmis_1) rfl (l' := #[.val (.ref t), .val (.int (0 : Int32)), .val (.ref u), .val (.int (0 : Int32)), .val (.int (2 : Int32)), .val (.int (0 : Int32)), .unset, .unset]) rfl k) ?_
  show Go _ _ _ _ _ _ _ _ _ _ (mkF m 3 #[.val (.ref t), .val (.int (0 : Int32)), .val (.ref u), .val (.int (0 : Int32)), .val (.int (2 : Int32)), .val (.int (0 : Int32)), .unset, .unset] [])
  refine Go.step (fun _ k => XS.iload W.here W.hx rfl (W.d dmis_3) rfl k) ?_
  show Go _ _ _ _ _ _ _ _ _ _ (mkF m 5 #[.val (.ref t), .val (.int (0 : Int32)), .val (.ref u), .val (.int (0 : Int32)), .val (.int (2 : Int32)), .val (.int (0 : Int32)), .unset, .unset] [(.int (2 : Int32))])
  refine Go.step (fun _ k => XS.bipush W.here W.hx rfl (W.d dmis_5) k) ?_
  show Go _ _ _ _ _ _ _ _ _ _ (mkF m 7 #[.val (.ref t), .val (.int (0 : Int32)), .val (.ref u), .val (.int (0 : Int32)), .val (.int (2 : Int32)), .val (.int (0 : Int32)), .unset, .unset] [(.int (7 : Int32)), (.int (2 : Int32))])
  refine Go.step (fun _ k => XS.icmpYes W.here W.hx rfl (pc0 := 7) (pc' := 70) rfl (W.d dmis_7) rfl (flt (by decide : ¬ ((7 : Int32) < (2 : Int32)))).2.2.2 (by decide) (by decide) k) ?_
  show Go _ _ _ _ _ _ _ _ _ _ (mkF m 70 #[.val (.ref t), .val (.int (0 : Int32)), .val (.ref u), .val (.int (0 : Int32)), .val (.int (2 : Int32)), .val (.int (0 : Int32)), .unset, .unset] [])
  refine Go.step (fun _ k => XS.iload W.here W.hx rfl (W.d dmis_70) rfl k) ?_
  show Go _ _ _ _ _ _ _ _ _ _ (mkF m 72 #[.val (.ref t), .val (.int (0 : Int32)), .val (.ref u), .val (.int (0 : Int32)), .val (.int (2 : Int32)), .val (.int (0 : Int32)), .unset, .unset] [(.int (0 : Int32))])
  refine Go.step (fun _ k => XS.iload W.here W.hx rfl (W.d dmis_72) rfl k) ?_
  show Go _ _ _ _ _ _ _ _ _ _ (mkF m 74 #[.val (.ref t), .val (.int (0 : Int32)), .val (.ref u), .val (.int (0 : Int32)), .val (.int (2 : Int32)), .val (.int (0 : Int32)), .unset, .unset] [(.int (2 : Int32)), (.int (0 : Int32))])
  refine Go.step (fun _ k => XS.icmpNo W.here W.hx rfl (W.d dmis_74) rfl (tlt (by decide : (0 : Int32) < (2 : Int32))).2.1 k) ?_
  show Go _ _ _ _ _ _ _ _ _ _ (mkF m 77 #[.val (.ref t), .val (.int (0 : Int32)), .val (.ref u), .val (.int (0 : Int32)), .val (.int (2 : Int32)), .val (.int (0 : Int32)), .unset, .unset] [])
  refine Go.step (fun _ k => XS.aloadN W.here W.hx rfl (W.d dmis_77) rfl rfl k) ?_
  show Go _ _ _ _ _ _ _ _ _ _ (mkF m 78 #[.val (.ref t), .val (.int (0 : Int32)), .val (.ref u), .val (.int (0 : Int32)), .val (.int (2 : Int32)), .val (.int (0 : Int32)), .unset, .unset] [(.ref t)])
  refine Go.step (fun _ k => XS.iloadN W.here W.hx rfl (W.d dmis_78) rfl k) ?_
  show Go _ _ _ _ _ _ _ _ _ _ (mkF m 79 #[.val (.ref t), .val (.int (0 : Int32)), .val (.ref u), .val (.int (0 : Int32)), .val (.int (2 : Int32)), .val (.int (0 : Int32)), .unset, .unset] [(.int (0 : Int32)), (.ref t)])
  refine Go.step (fun _ k => XS.iload W.here W.hx rfl (W.d dmis_79) rfl k) ?_
  show Go _ _ _ _ _ _ _ _ _ _ (mkF m 81 #[.val (.ref t), .val (.int (0 : Int32)), .val (.ref u), .val (.int (0 : Int32)), .val (.int (2 : Int32)), .val (.int (0 : Int32)), .unset, .unset] [(.int (0 : Int32)), (.int (0 : Int32)), (.ref t)])
  refine Go.step (fun _ k => XS.iadd W.here W.hx rfl (W.d dmis_81) rfl k) ?_
  show Go _ _ _ _ _ _ _ _ _ _ (mkF m 82 #[.val (.ref t), .val (.int (0 : Int32)), .val (.ref u), .val (.int (0 : Int32)), .val (.int (2 : Int32)), .val (.int (0 : Int32)), .unset, .unset] [(.int (0 : Int32)), (.ref t)])
  refine W.baload Vt (by decide) rfl dmis_82 ?_
  show Go _ _ _ _ _ _ _ _ _ _ (mkF m 83 #[.val (.ref t), .val (.int (0 : Int32)), .val (.ref u), .val (.int (0 : Int32)), .val (.int (2 : Int32)), .val (.int (0 : Int32)), .unset, .unset] [(.int c0.toInt8.toInt32)])
  refine Go.step (fun _ k => XS.aloadN W.here W.hx rfl (W.d dmis_83) rfl rfl k) ?_
  show Go _ _ _ _ _ _ _ _ _ _ (mkF m 84 #[.val (.ref t), .val (.int (0 : Int32)), .val (.ref u), .val (.int (0 : Int32)), .val (.int (2 : Int32)), .val (.int (0 : Int32)), .unset, .unset] [(.ref u), (.int c0.toInt8.toInt32)])
  refine Go.step (fun _ k => XS.iloadN W.here W.hx rfl (W.d dmis_84) rfl k) ?_
  show Go _ _ _ _ _ _ _ _ _ _ (mkF m 85 #[.val (.ref t), .val (.int (0 : Int32)), .val (.ref u), .val (.int (0 : Int32)), .val (.int (2 : Int32)), .val (.int (0 : Int32)), .unset, .unset] [(.int (0 : Int32)), (.ref u), (.int c0.toInt8.toInt32)])
  refine Go.step (fun _ k => XS.iload W.here W.hx rfl (W.d dmis_85) rfl k) ?_
  show Go _ _ _ _ _ _ _ _ _ _ (mkF m 87 #[.val (.ref t), .val (.int (0 : Int32)), .val (.ref u), .val (.int (0 : Int32)), .val (.int (2 : Int32)), .val (.int (0 : Int32)), .unset, .unset] [(.int (0 : Int32)), (.int (0 : Int32)), (.ref u), (.int c0.toInt8.toInt32)])
  refine Go.step (fun _ k => XS.iadd W.here W.hx rfl (W.d dmis_87) rfl k) ?_
  show Go _ _ _ _ _ _ _ _ _ _ (mkF m 88 #[.val (.ref t), .val (.int (0 : Int32)), .val (.ref u), .val (.int (0 : Int32)), .val (.int (2 : Int32)), .val (.int (0 : Int32)), .unset, .unset] [(.int (0 : Int32)), (.ref u), (.int c0.toInt8.toInt32)])
  refine W.baload Vu (by decide) rfl dmis_88 ?_
  show Go _ _ _ _ _ _ _ _ _ _ (mkF m 89 #[.val (.ref t), .val (.int (0 : Int32)), .val (.ref u), .val (.int (0 : Int32)), .val (.int (2 : Int32)), .val (.int (0 : Int32)), .unset, .unset] [(.int (45 : Int32)), (.int c0.toInt8.toInt32)])
  by_cases hc1 : c0.toInt8.toInt32 = (45 : Int32)
  · refine Go.step (fun _ k => XS.icmpYes W.here W.hx rfl (pc0 := 89) (pc' := 95) rfl (W.d dmis_89) rfl (teq hc1).1 (by decide) (by decide) k) ?_
    show Go _ _ _ _ _ _ _ _ _ _ (mkF m 95 #[.val (.ref t), .val (.int (0 : Int32)), .val (.ref u), .val (.int (0 : Int32)), .val (.int (2 : Int32)), .val (.int (0 : Int32)), .unset, .unset] [])
    refine Go.step (fun _ k => XS.iinc W.here W.hx rfl (W.d dmis_95) rfl (l' := #[.val (.ref t), .val (.int (0 : Int32)), .val (.ref u), .val (.int (0 : Int32)), .val (.int (2 : Int32)), .val (.int (1 : Int32)), .unset, .unset]) rfl k) ?_
    show Go _ _ _ _ _ _ _ _ _ _ (mkF m 98 #[.val (.ref t), .val (.int (0 : Int32)), .val (.ref u), .val (.int (0 : Int32)), .val (.int (2 : Int32)), .val (.int (1 : Int32)), .unset, .unset] [])
    refine Go.step (fun _ k => XS.goto W.here W.hx rfl (pc0 := 98) (pc' := 70) rfl (W.d dmis_98) (by decide) (by decide) k) ?_
    show Go _ _ _ _ _ _ _ _ _ _ (mkF m 70 #[.val (.ref t), .val (.int (0 : Int32)), .val (.ref u), .val (.int (0 : Int32)), .val (.int (2 : Int32)), .val (.int (1 : Int32)), .unset, .unset] [])
    refine Go.step (fun _ k => XS.iload W.here W.hx rfl (W.d dmis_70) rfl k) ?_
    show Go _ _ _ _ _ _ _ _ _ _ (mkF m 72 #[.val (.ref t), .val (.int (0 : Int32)), .val (.ref u), .val (.int (0 : Int32)), .val (.int (2 : Int32)), .val (.int (1 : Int32)), .unset, .unset] [(.int (1 : Int32))])
    refine Go.step (fun _ k => XS.iload W.here W.hx rfl (W.d dmis_72) rfl k) ?_
    show Go _ _ _ _ _ _ _ _ _ _ (mkF m 74 #[.val (.ref t), .val (.int (0 : Int32)), .val (.ref u), .val (.int (0 : Int32)), .val (.int (2 : Int32)), .val (.int (1 : Int32)), .unset, .unset] [(.int (2 : Int32)), (.int (1 : Int32))])
    refine Go.step (fun _ k => XS.icmpNo W.here W.hx rfl (W.d dmis_74) rfl (tlt (by decide : (1 : Int32) < (2 : Int32))).2.1 k) ?_
    show Go _ _ _ _ _ _ _ _ _ _ (mkF m 77 #[.val (.ref t), .val (.int (0 : Int32)), .val (.ref u), .val (.int (0 : Int32)), .val (.int (2 : Int32)), .val (.int (1 : Int32)), .unset, .unset] [])
    refine Go.step (fun _ k => XS.aloadN W.here W.hx rfl (W.d dmis_77) rfl rfl k) ?_
    show Go _ _ _ _ _ _ _ _ _ _ (mkF m 78 #[.val (.ref t), .val (.int (0 : Int32)), .val (.ref u), .val (.int (0 : Int32)), .val (.int (2 : Int32)), .val (.int (1 : Int32)), .unset, .unset] [(.ref t)])
    refine Go.step (fun _ k => XS.iloadN W.here W.hx rfl (W.d dmis_78) rfl k) ?_
    show Go _ _ _ _ _ _ _ _ _ _ (mkF m 79 #[.val (.ref t), .val (.int (0 : Int32)), .val (.ref u), .val (.int (0 : Int32)), .val (.int (2 : Int32)), .val (.int (1 : Int32)), .unset, .unset] [(.int (0 : Int32)), (.ref t)])
    refine Go.step (fun _ k => XS.iload W.here W.hx rfl (W.d dmis_79) rfl k) ?_
    show Go _ _ _ _ _ _ _ _ _ _ (mkF m 81 #[.val (.ref t), .val (.int (0 : Int32)), .val (.ref u), .val (.int (0 : Int32)), .val (.int (2 : Int32)), .val (.int (1 : Int32)), .unset, .unset] [(.int (1 : Int32)), (.int (0 : Int32)), (.ref t)])
    refine Go.step (fun _ k => XS.iadd W.here W.hx rfl (W.d dmis_81) rfl k) ?_
    show Go _ _ _ _ _ _ _ _ _ _ (mkF m 82 #[.val (.ref t), .val (.int (0 : Int32)), .val (.ref u), .val (.int (0 : Int32)), .val (.int (2 : Int32)), .val (.int (1 : Int32)), .unset, .unset] [(.int (1 : Int32)), (.ref t)])
    refine W.baload Vt (by decide) rfl dmis_82 ?_
    show Go _ _ _ _ _ _ _ _ _ _ (mkF m 83 #[.val (.ref t), .val (.int (0 : Int32)), .val (.ref u), .val (.int (0 : Int32)), .val (.int (2 : Int32)), .val (.int (1 : Int32)), .unset, .unset] [(.int c1.toInt8.toInt32)])
    refine Go.step (fun _ k => XS.aloadN W.here W.hx rfl (W.d dmis_83) rfl rfl k) ?_
    show Go _ _ _ _ _ _ _ _ _ _ (mkF m 84 #[.val (.ref t), .val (.int (0 : Int32)), .val (.ref u), .val (.int (0 : Int32)), .val (.int (2 : Int32)), .val (.int (1 : Int32)), .unset, .unset] [(.ref u), (.int c1.toInt8.toInt32)])
    refine Go.step (fun _ k => XS.iloadN W.here W.hx rfl (W.d dmis_84) rfl k) ?_
    show Go _ _ _ _ _ _ _ _ _ _ (mkF m 85 #[.val (.ref t), .val (.int (0 : Int32)), .val (.ref u), .val (.int (0 : Int32)), .val (.int (2 : Int32)), .val (.int (1 : Int32)), .unset, .unset] [(.int (0 : Int32)), (.ref u), (.int c1.toInt8.toInt32)])
    refine Go.step (fun _ k => XS.iload W.here W.hx rfl (W.d dmis_85) rfl k) ?_
    show Go _ _ _ _ _ _ _ _ _ _ (mkF m 87 #[.val (.ref t), .val (.int (0 : Int32)), .val (.ref u), .val (.int (0 : Int32)), .val (.int (2 : Int32)), .val (.int (1 : Int32)), .unset, .unset] [(.int (1 : Int32)), (.int (0 : Int32)), (.ref u), (.int c1.toInt8.toInt32)])
    refine Go.step (fun _ k => XS.iadd W.here W.hx rfl (W.d dmis_87) rfl k) ?_
    show Go _ _ _ _ _ _ _ _ _ _ (mkF m 88 #[.val (.ref t), .val (.int (0 : Int32)), .val (.ref u), .val (.int (0 : Int32)), .val (.int (2 : Int32)), .val (.int (1 : Int32)), .unset, .unset] [(.int (1 : Int32)), (.ref u), (.int c1.toInt8.toInt32)])
    refine W.baload Vu (by decide) rfl dmis_88 ?_
    show Go _ _ _ _ _ _ _ _ _ _ (mkF m 89 #[.val (.ref t), .val (.int (0 : Int32)), .val (.ref u), .val (.int (0 : Int32)), .val (.int (2 : Int32)), .val (.int (1 : Int32)), .unset, .unset] [(.int (45 : Int32)), (.int c1.toInt8.toInt32)])
    by_cases hc2 : c1.toInt8.toInt32 = (45 : Int32)
    · refine Go.step (fun _ k => XS.icmpYes W.here W.hx rfl (pc0 := 89) (pc' := 95) rfl (W.d dmis_89) rfl (teq hc2).1 (by decide) (by decide) k) ?_
      show Go _ _ _ _ _ _ _ _ _ _ (mkF m 95 #[.val (.ref t), .val (.int (0 : Int32)), .val (.ref u), .val (.int (0 : Int32)), .val (.int (2 : Int32)), .val (.int (1 : Int32)), .unset, .unset] [])
      refine Go.step (fun _ k => XS.iinc W.here W.hx rfl (W.d dmis_95) rfl (l' := #[.val (.ref t), .val (.int (0 : Int32)), .val (.ref u), .val (.int (0 : Int32)), .val (.int (2 : Int32)), .val (.int (2 : Int32)), .unset, .unset]) rfl k) ?_
      show Go _ _ _ _ _ _ _ _ _ _ (mkF m 98 #[.val (.ref t), .val (.int (0 : Int32)), .val (.ref u), .val (.int (0 : Int32)), .val (.int (2 : Int32)), .val (.int (2 : Int32)), .unset, .unset] [])
      refine Go.step (fun _ k => XS.goto W.here W.hx rfl (pc0 := 98) (pc' := 70) rfl (W.d dmis_98) (by decide) (by decide) k) ?_
      show Go _ _ _ _ _ _ _ _ _ _ (mkF m 70 #[.val (.ref t), .val (.int (0 : Int32)), .val (.ref u), .val (.int (0 : Int32)), .val (.int (2 : Int32)), .val (.int (2 : Int32)), .unset, .unset] [])
      refine Go.step (fun _ k => XS.iload W.here W.hx rfl (W.d dmis_70) rfl k) ?_
      show Go _ _ _ _ _ _ _ _ _ _ (mkF m 72 #[.val (.ref t), .val (.int (0 : Int32)), .val (.ref u), .val (.int (0 : Int32)), .val (.int (2 : Int32)), .val (.int (2 : Int32)), .unset, .unset] [(.int (2 : Int32))])
      refine Go.step (fun _ k => XS.iload W.here W.hx rfl (W.d dmis_72) rfl k) ?_
      show Go _ _ _ _ _ _ _ _ _ _ (mkF m 74 #[.val (.ref t), .val (.int (0 : Int32)), .val (.ref u), .val (.int (0 : Int32)), .val (.int (2 : Int32)), .val (.int (2 : Int32)), .unset, .unset] [(.int (2 : Int32)), (.int (2 : Int32))])
      refine Go.step (fun _ k => XS.icmpYes W.here W.hx rfl (pc0 := 74) (pc' := 101) rfl (W.d dmis_74) rfl (flt (by decide : ¬ ((2 : Int32) < (2 : Int32)))).2.1 (by decide) (by decide) k) ?_
      show Go _ _ _ _ _ _ _ _ _ _ (mkF m 101 #[.val (.ref t), .val (.int (0 : Int32)), .val (.ref u), .val (.int (0 : Int32)), .val (.int (2 : Int32)), .val (.int (2 : Int32)), .unset, .unset] [])
      refine Go.step (fun _ k => XS.iconst W.here W.hx rfl (W.d dmis_101) k) ?_
      show Go _ _ _ _ _ _ _ _ _ _ (mkF m 102 #[.val (.ref t), .val (.int (0 : Int32)), .val (.ref u), .val (.int (0 : Int32)), .val (.int (2 : Int32)), .val (.int (2 : Int32)), .unset, .unset] [(.int (-1 : Int32))])
      exact absurd ⟨low_inj t0 (by decide) hc1, low_inj t1 (by decide) hc2⟩ nd
    · refine Go.step (fun _ k => XS.icmpNo W.here W.hx rfl (W.d dmis_89) rfl (feq hc2).1 k) ?_
      show Go _ _ _ _ _ _ _ _ _ _ (mkF m 92 #[.val (.ref t), .val (.int (0 : Int32)), .val (.ref u), .val (.int (0 : Int32)), .val (.int (2 : Int32)), .val (.int (1 : Int32)), .unset, .unset] [])
      refine Go.step (fun _ k => XS.iload W.here W.hx rfl (W.d dmis_92) rfl k) ?_
      show Go _ _ _ _ _ _ _ _ _ _ (mkF m 94 #[.val (.ref t), .val (.int (0 : Int32)), .val (.ref u), .val (.int (0 : Int32)), .val (.int (2 : Int32)), .val (.int (1 : Int32)), .unset, .unset] [(.int (1 : Int32))])
      exact W.retI dmis_94 (⟨_, rfl, by decide, rfl⟩) (by decide) (by decide)
  · refine Go.step (fun _ k => XS.icmpNo W.here W.hx rfl (W.d dmis_89) rfl (feq hc1).1 k) ?_
    show Go _ _ _ _ _ _ _ _ _ _ (mkF m 92 #[.val (.ref t), .val (.int (0 : Int32)), .val (.ref u), .val (.int (0 : Int32)), .val (.int (2 : Int32)), .val (.int (0 : Int32)), .unset, .unset] [])
    refine Go.step (fun _ k => XS.iload W.here W.hx rfl (W.d dmis_92) rfl k) ?_
    show Go _ _ _ _ _ _ _ _ _ _ (mkF m 94 #[.val (.ref t), .val (.int (0 : Int32)), .val (.ref u), .val (.int (0 : Int32)), .val (.int (2 : Int32)), .val (.int (0 : Int32)), .unset, .unset] [(.int (0 : Int32))])
    exact W.retI dmis_94 (⟨_, rfl, by decide, rfl⟩) (by decide) (by decide)

theorem dsw0_0 : decode jdk_42_method_75_code 0 = .ok (.iload_n 2, 1) := by decide +kernel
theorem dsw0_1 : decode jdk_42_method_75_code 1 = .ok (.ifCond .lt 16, 3) := by decide +kernel
theorem dsw0_4 : decode jdk_42_method_75_code 4 = .ok (.iload_n 2, 1) := by decide +kernel
theorem dsw0_5 : decode jdk_42_method_75_code 5 = .ok (.aload_n 0, 1) := by decide +kernel
theorem dsw0_6 : decode jdk_42_method_75_code 6 = .ok (.invokevirtual 505, 3) := by decide +kernel
theorem dsw0_9 : decode jdk_42_method_75_code 9 = .ok (.aload_n 1, 1) := by decide +kernel
theorem dsw0_10 : decode jdk_42_method_75_code 10 = .ok (.invokevirtual 505, 3) := by decide +kernel
theorem dsw0_13 : decode jdk_42_method_75_code 13 = .ok (.isub, 1) := by decide +kernel
theorem dsw0_14 : decode jdk_42_method_75_code 14 = .ok (.if_icmp .le 5, 3) := by decide +kernel
theorem dsw0_17 : decode jdk_42_method_75_code 17 = .ok (.iconst 0, 1) := by decide +kernel
theorem dsw0_18 : decode jdk_42_method_75_code 18 = .ok (.ireturn, 1) := by decide +kernel
theorem efsw0 (m : MethodId) (x0 : Addr) (x1 : Addr) (x2 : Int32) : entryFrame m #[(.ref x0), (.ref x1), (.int x2)] 8 = mkF m 0 #[.val (.ref x0), .val (.ref x1), .val (.int x2), .unset, .unset, .unset, .unset, .unset] [] := by first | (simp [entryFrame, mkF, argsToLocals, Value.category]; done) | rfl
set_option maxRecDepth 65536 in
set_option maxHeartbeats 40000000 in
theorem c_sw0 {l : Launch} {Z : State} {a0 : Array Value} {G1 : Int32} (X : Ctx Z a0 G1) (a b t u : Addr) (kt ku : ClassId) (h0 : Heap) (hE : Ext Z.heap h0) (Aa : Exa Z h0 a "java/lang/String") (FVa : Fld Z h0 a "java/lang/String" "value" "[B" (.ref t)) (FCa : Fld Z h0 a "java/lang/String" "coder" "B" (.int (0 : Int32))) (Vt : Arv Z h0 t kt .byte (0 : Int32) [] (.int (0 : Int32))) (Ab : Exa Z h0 b "java/lang/String") (FVb : Fld Z h0 b "java/lang/String" "value" "[B" (.ref u)) (FCb : Fld Z h0 b "java/lang/String" "coder" "B" (.int (0 : Int32))) (Vu : Arv Z h0 u ku .byte (2 : Int32) [(.int (45 : Int32)), (.int (45 : Int32))] (.int (0 : Int32))) :
    Con l Z consts_1 (⟨"java/lang/String", "startsWith", "(Ljava/lang/String;I)Z"⟩ : MethodName) jdk_42_method_75_code 8 (some .boolean) [] ({ frames := 2, cells := 0, slots := 0, locals := 27 } : Room) #[(.ref a), (.ref b), (.int (0 : Int32))] h0 (fun v h => v = some (.int 0) ∧ h0 = h) := by
  refine Con.intro (plainFor_of_name pn_0) hE X.el ?_
  intro p e s m below meth c T W
  have hsz := W.size
  refine Go.cast (efsw0 m a b (0 : Int32)) ?_
  refine Go.step (fun _ k => XS.iloadN W.here W.hx rfl (W.d dsw0_0) rfl k) ?_
  show Go _ _ _ _ _ _ _ _ _ _ (mkF m 1 #[.val (.ref a), .val (.ref b), .val (.int (0 : Int32)), .unset, .unset, .unset, .unset, .unset] [(.int (0 : Int32))])
  refine Go.step (fun _ k => XS.ifNo W.here W.hx rfl (W.d dsw0_1) rfl ((if0 _ _).trans (flt (by decide : ¬ ((0 : Int32) < (0 : Int32)))).1) k) ?_
  show Go _ _ _ _ _ _ _ _ _ _ (mkF m 4 #[.val (.ref a), .val (.ref b), .val (.int (0 : Int32)), .unset, .unset, .unset, .unset, .unset] [])
  refine Go.step (fun _ k => XS.iloadN W.here W.hx rfl (W.d dsw0_4) rfl k) ?_
  show Go _ _ _ _ _ _ _ _ _ _ (mkF m 5 #[.val (.ref a), .val (.ref b), .val (.int (0 : Int32)), .unset, .unset, .unset, .unset, .unset] [(.int (0 : Int32))])
  refine Go.step (fun _ k => XS.aloadN W.here W.hx rfl (W.d dsw0_5) rfl rfl k) ?_
  show Go _ _ _ _ _ _ _ _ _ _ (mkF m 6 #[.val (.ref a), .val (.ref b), .val (.int (0 : Int32)), .unset, .unset, .unset, .unset, .unset] [(.ref a), (.int (0 : Int32))])
  refine W.virtual (X.w 183 rfl) (X.w 184 rfl) (notFace_of_selects (args := #[]) (mvT W.hZ (X.w 186 rfl))) (X.w 186 rfl) (X.w 185 rfl) (X.w 6 rfl) (X.w 187 rfl) (by decide) (c_len X a t _ (0 : Int32) _ _ W.ext Aa FVa FCa Vt) (by decide) (Wd := 1) (by decide) a Aa [] [(.int (0 : Int32))] rfl pd_14 rfl rfl rfl (Nat.le_of_eq rfl) dsw0_6 (by decide) (by decide) ?_
  intro v T h vm W hQ C
  obtain ⟨rfl, rfl⟩ := hQ
  show Go _ _ _ _ _ _ _ _ _ _ (mkF m 9 #[.val (.ref a), .val (.ref b), .val (.int (0 : Int32)), .unset, .unset, .unset, .unset, .unset] [(.int (0 : Int32)), (.int (0 : Int32))])
  refine Go.step (fun _ k => XS.aloadN W.here W.hx rfl (W.d dsw0_9) rfl rfl k) ?_
  show Go _ _ _ _ _ _ _ _ _ _ (mkF m 10 #[.val (.ref a), .val (.ref b), .val (.int (0 : Int32)), .unset, .unset, .unset, .unset, .unset] [(.ref b), (.int (0 : Int32)), (.int (0 : Int32))])
  refine W.virtual (X.w 183 rfl) (X.w 184 rfl) (notFace_of_selects (args := #[]) (mvT W.hZ (X.w 186 rfl))) (X.w 186 rfl) (X.w 185 rfl) (X.w 6 rfl) (X.w 187 rfl) (by decide) (c_len X b u _ (2 : Int32) _ _ W.ext Ab FVb FCb Vu) (by decide) (Wd := 2) (by decide) b Ab [] [(.int (0 : Int32)), (.int (0 : Int32))] rfl pd_14 rfl rfl rfl (Nat.le_of_eq rfl) dsw0_10 (by decide) (by decide) ?_
  intro v T h vm W hQ C
  obtain ⟨rfl, rfl⟩ := hQ
  show Go _ _ _ _ _ _ _ _ _ _ (mkF m 13 #[.val (.ref a), .val (.ref b), .val (.int (0 : Int32)), .unset, .unset, .unset, .unset, .unset] [(.int (2 : Int32)), (.int (0 : Int32)), (.int (0 : Int32))])
  refine Go.step (fun _ k => XS.isub W.here W.hx rfl (W.d dsw0_13) rfl k) ?_
  show Go _ _ _ _ _ _ _ _ _ _ (mkF m 14 #[.val (.ref a), .val (.ref b), .val (.int (0 : Int32)), .unset, .unset, .unset, .unset, .unset] [(.int (-2 : Int32)), (.int (0 : Int32))])
  refine Go.step (fun _ k => XS.icmpNo W.here W.hx rfl (W.d dsw0_14) rfl (tlt (by decide : (-2 : Int32) < (0 : Int32))).2.2.2 k) ?_
  show Go _ _ _ _ _ _ _ _ _ _ (mkF m 17 #[.val (.ref a), .val (.ref b), .val (.int (0 : Int32)), .unset, .unset, .unset, .unset, .unset] [])
  refine Go.step (fun _ k => XS.iconst W.here W.hx rfl (W.d dsw0_17) k) ?_
  show Go _ _ _ _ _ _ _ _ _ _ (mkF m 18 #[.val (.ref a), .val (.ref b), .val (.int (0 : Int32)), .unset, .unset, .unset, .unset, .unset] [(.int (0 : Int32))])
  exact W.retN (by simp) dsw0_18 (⟨rfl, rfl⟩) (by decide) (by decide)

theorem dsw1_0 : decode jdk_42_method_75_code 0 = .ok (.iload_n 2, 1) := by decide +kernel
theorem dsw1_1 : decode jdk_42_method_75_code 1 = .ok (.ifCond .lt 16, 3) := by decide +kernel
theorem dsw1_4 : decode jdk_42_method_75_code 4 = .ok (.iload_n 2, 1) := by decide +kernel
theorem dsw1_5 : decode jdk_42_method_75_code 5 = .ok (.aload_n 0, 1) := by decide +kernel
theorem dsw1_6 : decode jdk_42_method_75_code 6 = .ok (.invokevirtual 505, 3) := by decide +kernel
theorem dsw1_9 : decode jdk_42_method_75_code 9 = .ok (.aload_n 1, 1) := by decide +kernel
theorem dsw1_10 : decode jdk_42_method_75_code 10 = .ok (.invokevirtual 505, 3) := by decide +kernel
theorem dsw1_13 : decode jdk_42_method_75_code 13 = .ok (.isub, 1) := by decide +kernel
theorem dsw1_14 : decode jdk_42_method_75_code 14 = .ok (.if_icmp .le 5, 3) := by decide +kernel
theorem dsw1_17 : decode jdk_42_method_75_code 17 = .ok (.iconst 0, 1) := by decide +kernel
theorem dsw1_18 : decode jdk_42_method_75_code 18 = .ok (.ireturn, 1) := by decide +kernel
theorem efsw1 (m : MethodId) (x0 : Addr) (x1 : Addr) (x2 : Int32) : entryFrame m #[(.ref x0), (.ref x1), (.int x2)] 8 = mkF m 0 #[.val (.ref x0), .val (.ref x1), .val (.int x2), .unset, .unset, .unset, .unset, .unset] [] := by first | (simp [entryFrame, mkF, argsToLocals, Value.category]; done) | rfl
set_option maxRecDepth 65536 in
set_option maxHeartbeats 40000000 in
theorem c_sw1 {l : Launch} {Z : State} {a0 : Array Value} {G1 : Int32} (X : Ctx Z a0 G1) (a b t u : Addr) (kt ku : ClassId) (c0 : Int32) (h0 : Heap) (hE : Ext Z.heap h0) (Aa : Exa Z h0 a "java/lang/String") (FVa : Fld Z h0 a "java/lang/String" "value" "[B" (.ref t)) (FCa : Fld Z h0 a "java/lang/String" "coder" "B" (.int (0 : Int32))) (Vt : Arv Z h0 t kt .byte (1 : Int32) [(.int c0.toInt8.toInt32)] (.int (0 : Int32))) (Ab : Exa Z h0 b "java/lang/String") (FVb : Fld Z h0 b "java/lang/String" "value" "[B" (.ref u)) (FCb : Fld Z h0 b "java/lang/String" "coder" "B" (.int (0 : Int32))) (Vu : Arv Z h0 u ku .byte (2 : Int32) [(.int (45 : Int32)), (.int (45 : Int32))] (.int (0 : Int32))) :
    Con l Z consts_1 (⟨"java/lang/String", "startsWith", "(Ljava/lang/String;I)Z"⟩ : MethodName) jdk_42_method_75_code 8 (some .boolean) [] ({ frames := 2, cells := 0, slots := 0, locals := 27 } : Room) #[(.ref a), (.ref b), (.int (0 : Int32))] h0 (fun v h => v = some (.int 0) ∧ h0 = h) := by
  refine Con.intro (plainFor_of_name pn_0) hE X.el ?_
  intro p e s m below meth c T W
  have hsz := W.size
  refine Go.cast (efsw1 m a b (0 : Int32)) ?_
  refine Go.step (fun _ k => XS.iloadN W.here W.hx rfl (W.d dsw1_0) rfl k) ?_
  show Go _ _ _ _ _ _ _ _ _ _ (mkF m 1 #[.val (.ref a), .val (.ref b), .val (.int (0 : Int32)), .unset, .unset, .unset, .unset, .unset] [(.int (0 : Int32))])
  refine Go.step (fun _ k => XS.ifNo W.here W.hx rfl (W.d dsw1_1) rfl ((if0 _ _).trans (flt (by decide : ¬ ((0 : Int32) < (0 : Int32)))).1) k) ?_
  show Go _ _ _ _ _ _ _ _ _ _ (mkF m 4 #[.val (.ref a), .val (.ref b), .val (.int (0 : Int32)), .unset, .unset, .unset, .unset, .unset] [])
  refine Go.step (fun _ k => XS.iloadN W.here W.hx rfl (W.d dsw1_4) rfl k) ?_
  show Go _ _ _ _ _ _ _ _ _ _ (mkF m 5 #[.val (.ref a), .val (.ref b), .val (.int (0 : Int32)), .unset, .unset, .unset, .unset, .unset] [(.int (0 : Int32))])
  refine Go.step (fun _ k => XS.aloadN W.here W.hx rfl (W.d dsw1_5) rfl rfl k) ?_
  show Go _ _ _ _ _ _ _ _ _ _ (mkF m 6 #[.val (.ref a), .val (.ref b), .val (.int (0 : Int32)), .unset, .unset, .unset, .unset, .unset] [(.ref a), (.int (0 : Int32))])
  refine W.virtual (X.w 183 rfl) (X.w 184 rfl) (notFace_of_selects (args := #[]) (mvT W.hZ (X.w 186 rfl))) (X.w 186 rfl) (X.w 185 rfl) (X.w 6 rfl) (X.w 187 rfl) (by decide) (c_len X a t _ (1 : Int32) _ _ W.ext Aa FVa FCa Vt) (by decide) (Wd := 1) (by decide) a Aa [] [(.int (0 : Int32))] rfl pd_14 rfl rfl rfl (Nat.le_of_eq rfl) dsw1_6 (by decide) (by decide) ?_
  intro v T h vm W hQ C
  obtain ⟨rfl, rfl⟩ := hQ
  show Go _ _ _ _ _ _ _ _ _ _ (mkF m 9 #[.val (.ref a), .val (.ref b), .val (.int (0 : Int32)), .unset, .unset, .unset, .unset, .unset] [(.int (1 : Int32)), (.int (0 : Int32))])
  refine Go.step (fun _ k => XS.aloadN W.here W.hx rfl (W.d dsw1_9) rfl rfl k) ?_
  show Go _ _ _ _ _ _ _ _ _ _ (mkF m 10 #[.val (.ref a), .val (.ref b), .val (.int (0 : Int32)), .unset, .unset, .unset, .unset, .unset] [(.ref b), (.int (1 : Int32)), (.int (0 : Int32))])
  refine W.virtual (X.w 183 rfl) (X.w 184 rfl) (notFace_of_selects (args := #[]) (mvT W.hZ (X.w 186 rfl))) (X.w 186 rfl) (X.w 185 rfl) (X.w 6 rfl) (X.w 187 rfl) (by decide) (c_len X b u _ (2 : Int32) _ _ W.ext Ab FVb FCb Vu) (by decide) (Wd := 2) (by decide) b Ab [] [(.int (1 : Int32)), (.int (0 : Int32))] rfl pd_14 rfl rfl rfl (Nat.le_of_eq rfl) dsw1_10 (by decide) (by decide) ?_
  intro v T h vm W hQ C
  obtain ⟨rfl, rfl⟩ := hQ
  show Go _ _ _ _ _ _ _ _ _ _ (mkF m 13 #[.val (.ref a), .val (.ref b), .val (.int (0 : Int32)), .unset, .unset, .unset, .unset, .unset] [(.int (2 : Int32)), (.int (1 : Int32)), (.int (0 : Int32))])
  refine Go.step (fun _ k => XS.isub W.here W.hx rfl (W.d dsw1_13) rfl k) ?_
  show Go _ _ _ _ _ _ _ _ _ _ (mkF m 14 #[.val (.ref a), .val (.ref b), .val (.int (0 : Int32)), .unset, .unset, .unset, .unset, .unset] [(.int (-1 : Int32)), (.int (0 : Int32))])
  refine Go.step (fun _ k => XS.icmpNo W.here W.hx rfl (W.d dsw1_14) rfl (tlt (by decide : (-1 : Int32) < (0 : Int32))).2.2.2 k) ?_
  show Go _ _ _ _ _ _ _ _ _ _ (mkF m 17 #[.val (.ref a), .val (.ref b), .val (.int (0 : Int32)), .unset, .unset, .unset, .unset, .unset] [])
  refine Go.step (fun _ k => XS.iconst W.here W.hx rfl (W.d dsw1_17) k) ?_
  show Go _ _ _ _ _ _ _ _ _ _ (mkF m 18 #[.val (.ref a), .val (.ref b), .val (.int (0 : Int32)), .unset, .unset, .unset, .unset, .unset] [(.int (0 : Int32))])
  exact W.retN (by simp) dsw1_18 (⟨rfl, rfl⟩) (by decide) (by decide)

theorem dsw2_0 : decode jdk_42_method_75_code 0 = .ok (.iload_n 2, 1) := by decide +kernel
theorem dsw2_1 : decode jdk_42_method_75_code 1 = .ok (.ifCond .lt 16, 3) := by decide +kernel
theorem dsw2_4 : decode jdk_42_method_75_code 4 = .ok (.iload_n 2, 1) := by decide +kernel
theorem dsw2_5 : decode jdk_42_method_75_code 5 = .ok (.aload_n 0, 1) := by decide +kernel
theorem dsw2_6 : decode jdk_42_method_75_code 6 = .ok (.invokevirtual 505, 3) := by decide +kernel
theorem dsw2_9 : decode jdk_42_method_75_code 9 = .ok (.aload_n 1, 1) := by decide +kernel
theorem dsw2_10 : decode jdk_42_method_75_code 10 = .ok (.invokevirtual 505, 3) := by decide +kernel
theorem dsw2_13 : decode jdk_42_method_75_code 13 = .ok (.isub, 1) := by decide +kernel
theorem dsw2_14 : decode jdk_42_method_75_code 14 = .ok (.if_icmp .le 5, 3) := by decide +kernel
theorem dsw2_19 : decode jdk_42_method_75_code 19 = .ok (.aload_n 0, 1) := by decide +kernel
theorem dsw2_20 : decode jdk_42_method_75_code 20 = .ok (.getfield 9, 3) := by decide +kernel
theorem dsw2_23 : decode jdk_42_method_75_code 23 = .ok (.astore_n 3, 1) := by decide +kernel
theorem dsw2_24 : decode jdk_42_method_75_code 24 = .ok (.aload_n 1, 1) := by decide +kernel
theorem dsw2_25 : decode jdk_42_method_75_code 25 = .ok (.getfield 9, 3) := by decide +kernel
theorem dsw2_28 : decode jdk_42_method_75_code 28 = .ok (.astore 4, 2) := by decide +kernel
theorem dsw2_30 : decode jdk_42_method_75_code 30 = .ok (.iconst 0, 1) := by decide +kernel
theorem dsw2_31 : decode jdk_42_method_75_code 31 = .ok (.istore 5, 2) := by decide +kernel
theorem dsw2_33 : decode jdk_42_method_75_code 33 = .ok (.aload 4, 2) := by decide +kernel
theorem dsw2_35 : decode jdk_42_method_75_code 35 = .ok (.arraylength, 1) := by decide +kernel
theorem dsw2_36 : decode jdk_42_method_75_code 36 = .ok (.istore 6, 2) := by decide +kernel
theorem dsw2_38 : decode jdk_42_method_75_code 38 = .ok (.aload_n 0, 1) := by decide +kernel
theorem dsw2_39 : decode jdk_42_method_75_code 39 = .ok (.invokevirtual 335, 3) := by decide +kernel
theorem dsw2_42 : decode jdk_42_method_75_code 42 = .ok (.istore 7, 2) := by decide +kernel
theorem dsw2_44 : decode jdk_42_method_75_code 44 = .ok (.iload 7, 2) := by decide +kernel
theorem dsw2_46 : decode jdk_42_method_75_code 46 = .ok (.aload_n 1, 1) := by decide +kernel
theorem dsw2_47 : decode jdk_42_method_75_code 47 = .ok (.invokevirtual 335, 3) := by decide +kernel
theorem dsw2_50 : decode jdk_42_method_75_code 50 = .ok (.if_icmp .ne 32, 3) := by decide +kernel
theorem dsw2_53 : decode jdk_42_method_75_code 53 = .ok (.iload 7, 2) := by decide +kernel
theorem dsw2_55 : decode jdk_42_method_75_code 55 = .ok (.iconst 1, 1) := by decide +kernel
theorem dsw2_56 : decode jdk_42_method_75_code 56 = .ok (.if_icmp .ne 7, 3) := by decide +kernel
theorem dsw2_63 : decode jdk_42_method_75_code 63 = .ok (.aload_n 3, 1) := by decide +kernel
theorem dsw2_64 : decode jdk_42_method_75_code 64 = .ok (.iload_n 2, 1) := by decide +kernel
theorem dsw2_65 : decode jdk_42_method_75_code 65 = .ok (.aload 4, 2) := by decide +kernel
theorem dsw2_67 : decode jdk_42_method_75_code 67 = .ok (.iconst 0, 1) := by decide +kernel
theorem dsw2_68 : decode jdk_42_method_75_code 68 = .ok (.iload 6, 2) := by decide +kernel
theorem dsw2_70 : decode jdk_42_method_75_code 70 = .ok (.invokestatic 607, 3) := by decide +kernel
theorem dsw2_73 : decode jdk_42_method_75_code 73 = .ok (.ifCond .ge 7, 3) := by decide +kernel
theorem dsw2_80 : decode jdk_42_method_75_code 80 = .ok (.iconst 0, 1) := by decide +kernel
theorem dsw2_81 : decode jdk_42_method_75_code 81 = .ok (.ireturn, 1) := by decide +kernel
theorem efsw2 (m : MethodId) (x0 : Addr) (x1 : Addr) (x2 : Int32) : entryFrame m #[(.ref x0), (.ref x1), (.int x2)] 8 = mkF m 0 #[.val (.ref x0), .val (.ref x1), .val (.int x2), .unset, .unset, .unset, .unset, .unset] [] := by first | (simp [entryFrame, mkF, argsToLocals, Value.category]; done) | rfl
set_option maxRecDepth 65536 in
set_option maxHeartbeats 40000000 in
theorem c_sw2 {l : Launch} {Z : State} {a0 : Array Value} {G1 : Int32} (X : Ctx Z a0 G1) (a b t u : Addr) (kt ku : ClassId) (c0 c1 : Int32) (h0 : Heap) (hE : Ext Z.heap h0) (Aa : Exa Z h0 a "java/lang/String") (FVa : Fld Z h0 a "java/lang/String" "value" "[B" (.ref t)) (FCa : Fld Z h0 a "java/lang/String" "coder" "B" (.int (0 : Int32))) (Vt : Arv Z h0 t kt .byte (2 : Int32) [(.int c0.toInt8.toInt32), (.int c1.toInt8.toInt32)] (.int (0 : Int32))) (Ab : Exa Z h0 b "java/lang/String") (FVb : Fld Z h0 b "java/lang/String" "value" "[B" (.ref u)) (FCb : Fld Z h0 b "java/lang/String" "coder" "B" (.int (0 : Int32))) (Vu : Arv Z h0 u ku .byte (2 : Int32) [(.int (45 : Int32)), (.int (45 : Int32))] (.int (0 : Int32))) (t0 : Sm c0) (t1 : Sm c1) (nd : ¬ (c0 = 45 ∧ c1 = 45)) :
    Con l Z consts_1 (⟨"java/lang/String", "startsWith", "(Ljava/lang/String;I)Z"⟩ : MethodName) jdk_42_method_75_code 8 (some .boolean) [] ({ frames := 2, cells := 0, slots := 0, locals := 27 } : Room) #[(.ref a), (.ref b), (.int (0 : Int32))] h0 (fun v h => v = some (.int 0) ∧ h0 = h) := by
  refine Con.intro (plainFor_of_name pn_0) hE X.el ?_
  intro p e s m below meth c T W
  have hsz := W.size
  refine Go.cast (efsw2 m a b (0 : Int32)) ?_
  refine Go.step (fun _ k => XS.iloadN W.here W.hx rfl (W.d dsw2_0) rfl k) ?_
  show Go _ _ _ _ _ _ _ _ _ _ (mkF m 1 #[.val (.ref a), .val (.ref b), .val (.int (0 : Int32)), .unset, .unset, .unset, .unset, .unset] [(.int (0 : Int32))])
  refine Go.step (fun _ k => XS.ifNo W.here W.hx rfl (W.d dsw2_1) rfl ((if0 _ _).trans (flt (by decide : ¬ ((0 : Int32) < (0 : Int32)))).1) k) ?_
  show Go _ _ _ _ _ _ _ _ _ _ (mkF m 4 #[.val (.ref a), .val (.ref b), .val (.int (0 : Int32)), .unset, .unset, .unset, .unset, .unset] [])
  refine Go.step (fun _ k => XS.iloadN W.here W.hx rfl (W.d dsw2_4) rfl k) ?_
  show Go _ _ _ _ _ _ _ _ _ _ (mkF m 5 #[.val (.ref a), .val (.ref b), .val (.int (0 : Int32)), .unset, .unset, .unset, .unset, .unset] [(.int (0 : Int32))])
  refine Go.step (fun _ k => XS.aloadN W.here W.hx rfl (W.d dsw2_5) rfl rfl k) ?_
  show Go _ _ _ _ _ _ _ _ _ _ (mkF m 6 #[.val (.ref a), .val (.ref b), .val (.int (0 : Int32)), .unset, .unset, .unset, .unset, .unset] [(.ref a), (.int (0 : Int32))])
  refine W.virtual (X.w 183 rfl) (X.w 184 rfl) (notFace_of_selects (args := #[]) (mvT W.hZ (X.w 186 rfl))) (X.w 186 rfl) (X.w 185 rfl) (X.w 6 rfl) (X.w 187 rfl) (by decide) (c_len X a t _ (2 : Int32) _ _ W.ext Aa FVa FCa Vt) (by decide) (Wd := 1) (by decide) a Aa [] [(.int (0 : Int32))] rfl pd_14 rfl rfl rfl (Nat.le_of_eq rfl) dsw2_6 (by decide) (by decide) ?_
  intro v T h vm W hQ C
  obtain ⟨rfl, rfl⟩ := hQ
  show Go _ _ _ _ _ _ _ _ _ _ (mkF m 9 #[.val (.ref a), .val (.ref b), .val (.int (0 : Int32)), .unset, .unset, .unset, .unset, .unset] [(.int (2 : Int32)), (.int (0 : Int32))])
  refine Go.step (fun _ k => XS.aloadN W.here W.hx rfl (W.d dsw2_9) rfl rfl k) ?_
  show Go _ _ _ _ _ _ _ _ _ _ (mkF m 10 #[.val (.ref a), .val (.ref b), .val (.int (0 : Int32)), .unset, .unset, .unset, .unset, .unset] [(.ref b), (.int (2 : Int32)), (.int (0 : Int32))])
  refine W.virtual (X.w 183 rfl) (X.w 184 rfl) (notFace_of_selects (args := #[]) (mvT W.hZ (X.w 186 rfl))) (X.w 186 rfl) (X.w 185 rfl) (X.w 6 rfl) (X.w 187 rfl) (by decide) (c_len X b u _ (2 : Int32) _ _ W.ext Ab FVb FCb Vu) (by decide) (Wd := 2) (by decide) b Ab [] [(.int (2 : Int32)), (.int (0 : Int32))] rfl pd_14 rfl rfl rfl (Nat.le_of_eq rfl) dsw2_10 (by decide) (by decide) ?_
  intro v T h vm W hQ C
  obtain ⟨rfl, rfl⟩ := hQ
  show Go _ _ _ _ _ _ _ _ _ _ (mkF m 13 #[.val (.ref a), .val (.ref b), .val (.int (0 : Int32)), .unset, .unset, .unset, .unset, .unset] [(.int (2 : Int32)), (.int (2 : Int32)), (.int (0 : Int32))])
  refine Go.step (fun _ k => XS.isub W.here W.hx rfl (W.d dsw2_13) rfl k) ?_
  show Go _ _ _ _ _ _ _ _ _ _ (mkF m 14 #[.val (.ref a), .val (.ref b), .val (.int (0 : Int32)), .unset, .unset, .unset, .unset, .unset] [(.int (0 : Int32)), (.int (0 : Int32))])
  refine Go.step (fun _ k => XS.icmpYes W.here W.hx rfl (pc0 := 14) (pc' := 19) rfl (W.d dsw2_14) rfl (flt (by decide : ¬ ((0 : Int32) < (0 : Int32)))).2.2.2 (by decide) (by decide) k) ?_
  show Go _ _ _ _ _ _ _ _ _ _ (mkF m 19 #[.val (.ref a), .val (.ref b), .val (.int (0 : Int32)), .unset, .unset, .unset, .unset, .unset] [])
  refine Go.step (fun _ k => XS.aloadN W.here W.hx rfl (W.d dsw2_19) rfl rfl k) ?_
  show Go _ _ _ _ _ _ _ _ _ _ (mkF m 20 #[.val (.ref a), .val (.ref b), .val (.int (0 : Int32)), .unset, .unset, .unset, .unset, .unset] [(.ref a)])
  refine W.getF (host := "") (Or.inl (X.w 24 rfl)) Via.refl FVa dsw2_20 ?_
  intro T W
  show Go _ _ _ _ _ _ _ _ _ _ (mkF m 23 #[.val (.ref a), .val (.ref b), .val (.int (0 : Int32)), .unset, .unset, .unset, .unset, .unset] [(.ref t)])
  refine Go.step (fun _ k => XS.astoreN W.here W.hx rfl (W.d dsw2_23) rfl rfl (l' := #[.val (.ref a), .val (.ref b), .val (.int (0 : Int32)), .val (.ref t), .unset, .unset, .unset, .unset]) rfl k) ?_
  show Go _ _ _ _ _ _ _ _ _ _ (mkF m 24 #[.val (.ref a), .val (.ref b), .val (.int (0 : Int32)), .val (.ref t), .unset, .unset, .unset, .unset] [])
  refine Go.step (fun _ k => XS.aloadN W.here W.hx rfl (W.d dsw2_24) rfl rfl k) ?_
  show Go _ _ _ _ _ _ _ _ _ _ (mkF m 25 #[.val (.ref a), .val (.ref b), .val (.int (0 : Int32)), .val (.ref t), .unset, .unset, .unset, .unset] [(.ref b)])
  refine W.getF (host := "") (Or.inl (X.w 24 rfl)) Via.refl FVb dsw2_25 ?_
  intro T W
  show Go _ _ _ _ _ _ _ _ _ _ (mkF m 28 #[.val (.ref a), .val (.ref b), .val (.int (0 : Int32)), .val (.ref t), .unset, .unset, .unset, .unset] [(.ref u)])
  refine Go.step (fun _ k => XS.astore W.here W.hx rfl (W.d dsw2_28) rfl rfl (l' := #[.val (.ref a), .val (.ref b), .val (.int (0 : Int32)), .val (.ref t), .val (.ref u), .unset, .unset, .unset]) rfl k) ?_
  show Go _ _ _ _ _ _ _ _ _ _ (mkF m 30 #[.val (.ref a), .val (.ref b), .val (.int (0 : Int32)), .val (.ref t), .val (.ref u), .unset, .unset, .unset] [])
  refine Go.step (fun _ k => XS.iconst W.here W.hx rfl (W.d dsw2_30) k) ?_
  show Go _ _ _ _ _ _ _ _ _ _ (mkF m 31 #[.val (.ref a), .val (.ref b), .val (.int (0 : Int32)), .val (.ref t), .val (.ref u), .unset, .unset, .unset] [(.int (0 : Int32))])
  refine Go.step (fun _ k => XS.istore W.here W.hx rfl (W.d dsw2_31) rfl (l' := #[.val (.ref a), .val (.ref b), .val (.int (0 : Int32)), .val (.ref t), .val (.ref u), .val (.int (0 : Int32)), .unset, .unset]) rfl k) ?_
  show Go _ _ _ _ _ _ _ _ _ _ (mkF m 33 #[.val (.ref a), .val (.ref b), .val (.int (0 : Int32)), .val (.ref t), .val (.ref u), .val (.int (0 : Int32)), .unset, .unset] [])
  refine Go.step (fun _ k => XS.aload W.here W.hx rfl (W.d dsw2_33) rfl rfl k) ?_
  show Go _ _ _ _ _ _ _ _ _ _ (mkF m 35 #[.val (.ref a), .val (.ref b), .val (.int (0 : Int32)), .val (.ref t), .val (.ref u), .val (.int (0 : Int32)), .unset, .unset] [(.ref u)])
  refine W.arraylength Vu dsw2_35 ?_
  show Go _ _ _ _ _ _ _ _ _ _ (mkF m 36 #[.val (.ref a), .val (.ref b), .val (.int (0 : Int32)), .val (.ref t), .val (.ref u), .val (.int (0 : Int32)), .unset, .unset] [(.int (2 : Int32))])
  refine Go.step (fun _ k => XS.istore W.here W.hx rfl (W.d dsw2_36) rfl (l' := #[.val (.ref a), .val (.ref b), .val (.int (0 : Int32)), .val (.ref t), .val (.ref u), .val (.int (0 : Int32)), .val (.int (2 : Int32)), .unset]) rfl k) ?_
  show Go _ _ _ _ _ _ _ _ _ _ (mkF m 38 #[.val (.ref a), .val (.ref b), .val (.int (0 : Int32)), .val (.ref t), .val (.ref u), .val (.int (0 : Int32)), .val (.int (2 : Int32)), .unset] [])
  refine Go.step (fun _ k => XS.aloadN W.here W.hx rfl (W.d dsw2_38) rfl rfl k) ?_
  show Go _ _ _ _ _ _ _ _ _ _ (mkF m 39 #[.val (.ref a), .val (.ref b), .val (.int (0 : Int32)), .val (.ref t), .val (.ref u), .val (.int (0 : Int32)), .val (.int (2 : Int32)), .unset] [(.ref a)])
  refine W.virtual (X.w 188 rfl) (X.w 189 rfl) (notFace_of_selects (args := #[]) (mvT W.hZ (X.w 191 rfl))) (X.w 191 rfl) (X.w 190 rfl) (X.w 6 rfl) (X.w 192 rfl) (by decide) (c_cod X a _ W.ext FCa) (by decide) (Wd := 0) (by decide) a Aa [] [] rfl pd_13 rfl rfl rfl (Nat.le_of_eq rfl) dsw2_39 (by decide) (by decide) ?_
  intro v T h vm W hQ C
  obtain ⟨rfl, rfl⟩ := hQ
  show Go _ _ _ _ _ _ _ _ _ _ (mkF m 42 #[.val (.ref a), .val (.ref b), .val (.int (0 : Int32)), .val (.ref t), .val (.ref u), .val (.int (0 : Int32)), .val (.int (2 : Int32)), .unset] [(.int (0 : Int32))])
  refine Go.step (fun _ k => XS.istore W.here W.hx rfl (W.d dsw2_42) rfl (l' := #[.val (.ref a), .val (.ref b), .val (.int (0 : Int32)), .val (.ref t), .val (.ref u), .val (.int (0 : Int32)), .val (.int (2 : Int32)), .val (.int (0 : Int32))]) rfl k) ?_
  show Go _ _ _ _ _ _ _ _ _ _ (mkF m 44 #[.val (.ref a), .val (.ref b), .val (.int (0 : Int32)), .val (.ref t), .val (.ref u), .val (.int (0 : Int32)), .val (.int (2 : Int32)), .val (.int (0 : Int32))] [])
  refine Go.step (fun _ k => XS.iload W.here W.hx rfl (W.d dsw2_44) rfl k) ?_
  show Go _ _ _ _ _ _ _ _ _ _ (mkF m 46 #[.val (.ref a), .val (.ref b), .val (.int (0 : Int32)), .val (.ref t), .val (.ref u), .val (.int (0 : Int32)), .val (.int (2 : Int32)), .val (.int (0 : Int32))] [(.int (0 : Int32))])
  refine Go.step (fun _ k => XS.aloadN W.here W.hx rfl (W.d dsw2_46) rfl rfl k) ?_
  show Go _ _ _ _ _ _ _ _ _ _ (mkF m 47 #[.val (.ref a), .val (.ref b), .val (.int (0 : Int32)), .val (.ref t), .val (.ref u), .val (.int (0 : Int32)), .val (.int (2 : Int32)), .val (.int (0 : Int32))] [(.ref b), (.int (0 : Int32))])
  refine W.virtual (X.w 188 rfl) (X.w 189 rfl) (notFace_of_selects (args := #[]) (mvT W.hZ (X.w 191 rfl))) (X.w 191 rfl) (X.w 190 rfl) (X.w 6 rfl) (X.w 192 rfl) (by decide) (c_cod X b _ W.ext FCb) (by decide) (Wd := 1) (by decide) b Ab [] [(.int (0 : Int32))] rfl pd_13 rfl rfl rfl (Nat.le_of_eq rfl) dsw2_47 (by decide) (by decide) ?_
  intro v T h vm W hQ C
  obtain ⟨rfl, rfl⟩ := hQ
  show Go _ _ _ _ _ _ _ _ _ _ (mkF m 50 #[.val (.ref a), .val (.ref b), .val (.int (0 : Int32)), .val (.ref t), .val (.ref u), .val (.int (0 : Int32)), .val (.int (2 : Int32)), .val (.int (0 : Int32))] [(.int (0 : Int32)), (.int (0 : Int32))])
  refine Go.step (fun _ k => XS.icmpNo W.here W.hx rfl (W.d dsw2_50) rfl (teq (by decide : (0 : Int32) = (0 : Int32))).2 k) ?_
  show Go _ _ _ _ _ _ _ _ _ _ (mkF m 53 #[.val (.ref a), .val (.ref b), .val (.int (0 : Int32)), .val (.ref t), .val (.ref u), .val (.int (0 : Int32)), .val (.int (2 : Int32)), .val (.int (0 : Int32))] [])
  refine Go.step (fun _ k => XS.iload W.here W.hx rfl (W.d dsw2_53) rfl k) ?_
  show Go _ _ _ _ _ _ _ _ _ _ (mkF m 55 #[.val (.ref a), .val (.ref b), .val (.int (0 : Int32)), .val (.ref t), .val (.ref u), .val (.int (0 : Int32)), .val (.int (2 : Int32)), .val (.int (0 : Int32))] [(.int (0 : Int32))])
  refine Go.step (fun _ k => XS.iconst W.here W.hx rfl (W.d dsw2_55) k) ?_
  show Go _ _ _ _ _ _ _ _ _ _ (mkF m 56 #[.val (.ref a), .val (.ref b), .val (.int (0 : Int32)), .val (.ref t), .val (.ref u), .val (.int (0 : Int32)), .val (.int (2 : Int32)), .val (.int (0 : Int32))] [(.int (1 : Int32)), (.int (0 : Int32))])
  refine Go.step (fun _ k => XS.icmpYes W.here W.hx rfl (pc0 := 56) (pc' := 63) rfl (W.d dsw2_56) rfl (feq (by decide : ¬ ((0 : Int32) = (1 : Int32)))).2 (by decide) (by decide) k) ?_
  show Go _ _ _ _ _ _ _ _ _ _ (mkF m 63 #[.val (.ref a), .val (.ref b), .val (.int (0 : Int32)), .val (.ref t), .val (.ref u), .val (.int (0 : Int32)), .val (.int (2 : Int32)), .val (.int (0 : Int32))] [])
  refine Go.step (fun _ k => XS.aloadN W.here W.hx rfl (W.d dsw2_63) rfl rfl k) ?_
  show Go _ _ _ _ _ _ _ _ _ _ (mkF m 64 #[.val (.ref a), .val (.ref b), .val (.int (0 : Int32)), .val (.ref t), .val (.ref u), .val (.int (0 : Int32)), .val (.int (2 : Int32)), .val (.int (0 : Int32))] [(.ref t)])
  refine Go.step (fun _ k => XS.iloadN W.here W.hx rfl (W.d dsw2_64) rfl k) ?_
  show Go _ _ _ _ _ _ _ _ _ _ (mkF m 65 #[.val (.ref a), .val (.ref b), .val (.int (0 : Int32)), .val (.ref t), .val (.ref u), .val (.int (0 : Int32)), .val (.int (2 : Int32)), .val (.int (0 : Int32))] [(.int (0 : Int32)), (.ref t)])
  refine Go.step (fun _ k => XS.aload W.here W.hx rfl (W.d dsw2_65) rfl rfl k) ?_
  show Go _ _ _ _ _ _ _ _ _ _ (mkF m 67 #[.val (.ref a), .val (.ref b), .val (.int (0 : Int32)), .val (.ref t), .val (.ref u), .val (.int (0 : Int32)), .val (.int (2 : Int32)), .val (.int (0 : Int32))] [(.ref u), (.int (0 : Int32)), (.ref t)])
  refine Go.step (fun _ k => XS.iconst W.here W.hx rfl (W.d dsw2_67) k) ?_
  show Go _ _ _ _ _ _ _ _ _ _ (mkF m 68 #[.val (.ref a), .val (.ref b), .val (.int (0 : Int32)), .val (.ref t), .val (.ref u), .val (.int (0 : Int32)), .val (.int (2 : Int32)), .val (.int (0 : Int32))] [(.int (0 : Int32)), (.ref u), (.int (0 : Int32)), (.ref t)])
  refine Go.step (fun _ k => XS.iload W.here W.hx rfl (W.d dsw2_68) rfl k) ?_
  show Go _ _ _ _ _ _ _ _ _ _ (mkF m 70 #[.val (.ref a), .val (.ref b), .val (.int (0 : Int32)), .val (.ref t), .val (.ref u), .val (.int (0 : Int32)), .val (.int (2 : Int32)), .val (.int (0 : Int32))] [(.int (2 : Int32)), (.int (0 : Int32)), (.ref u), (.int (0 : Int32)), (.ref t)])
  refine W.callS (X.w 230 rfl) (X.w 231 rfl) (X.w 232 rfl) (X.w 233 rfl) (by decide) (c_mis X t u _ _ c0 c1 _ W.ext Vt Vu t0 t1 nd) (by decide) (Wd := 0) (by decide) [(.ref t), (.int (0 : Int32)), (.ref u), (.int (0 : Int32)), (.int (2 : Int32))] [] rfl pd_15 rfl rfl rfl (Nat.le_of_eq rfl) dsw2_70 (by decide) (by decide) ?_
  intro v T h vm W hQ C
  obtain ⟨zm, rfl, hz, rfl⟩ := hQ
  show Go _ _ _ _ _ _ _ _ _ _ (mkF m 73 #[.val (.ref a), .val (.ref b), .val (.int (0 : Int32)), .val (.ref t), .val (.ref u), .val (.int (0 : Int32)), .val (.int (2 : Int32)), .val (.int (0 : Int32))] [(.int zm)])
  refine Go.step (fun _ k => XS.ifYes W.here W.hx rfl (pc0 := 73) (pc' := 80) rfl (W.d dsw2_73) rfl ((if0 _ _).trans (flt hz).2.1) (by decide) (by decide) k) ?_
  show Go _ _ _ _ _ _ _ _ _ _ (mkF m 80 #[.val (.ref a), .val (.ref b), .val (.int (0 : Int32)), .val (.ref t), .val (.ref u), .val (.int (0 : Int32)), .val (.int (2 : Int32)), .val (.int (0 : Int32))] [])
  refine Go.step (fun _ k => XS.iconst W.here W.hx rfl (W.d dsw2_80) k) ?_
  show Go _ _ _ _ _ _ _ _ _ _ (mkF m 81 #[.val (.ref a), .val (.ref b), .val (.int (0 : Int32)), .val (.ref t), .val (.ref u), .val (.int (0 : Int32)), .val (.int (2 : Int32)), .val (.int (0 : Int32))] [(.int (0 : Int32))])
  exact W.retN (by simp) dsw2_81 (⟨rfl, rfl⟩) (by decide) (by decide)

theorem c_sw {l : Launch} {Z : State} {a0 : Array Value} {G1 : Int32} (X : Ctx Z a0 G1) (a b : Addr) (cs : List Int32) (h0 : Heap) (hE : Ext Z.heap h0) (S1 : Str Z h0 a cs) (S2 : Str Z h0 b [(45 : Int32), (45 : Int32)]) (N : NDD cs) :
    Con l Z consts_1 (⟨"java/lang/String", "startsWith", "(Ljava/lang/String;I)Z"⟩ : MethodName) jdk_42_method_75_code 8 (some .boolean) [] ({ frames := 2, cells := 0, slots := 0, locals := 27 } : Room) #[(.ref a), (.ref b), (.int (0 : Int32))] h0 (fun v h => v = some (.int 0) ∧ h0 = h) := by
  obtain ⟨t, kt, q1, q2, q3, q4, q5, -⟩ := S1
  obtain ⟨u, ku, r1, r2, r3, r4, -, -⟩ := S2
  rcases N with rfl | ⟨c0, rfl⟩ | ⟨c0, c1, rfl, nd⟩
  · exact c_sw0 X a b t u kt ku h0 hE q1 q2 q3 q4 r1 r2 r3 r4
  · exact c_sw1 X a b t u kt ku c0 h0 hE q1 q2 q3 q4 r1 r2 r3 r4
  · exact c_sw2 X a b t u kt ku c0 c1 h0 hE q1 q2 q3 q4 r1 r2 r3 r4 (q5 c0 (by simp)) (q5 c1 (by simp)) nd

theorem dswa_0 : decode jdk_42_method_76_code 0 = .ok (.aload_n 0, 1) := by decide +kernel
theorem dswa_1 : decode jdk_42_method_76_code 1 = .ok (.aload_n 1, 1) := by decide +kernel
theorem dswa_2 : decode jdk_42_method_76_code 2 = .ok (.iconst 0, 1) := by decide +kernel
theorem dswa_3 : decode jdk_42_method_76_code 3 = .ok (.invokevirtual 624, 3) := by decide +kernel
theorem dswa_6 : decode jdk_42_method_76_code 6 = .ok (.ireturn, 1) := by decide +kernel
theorem efswa (m : MethodId) (x0 : Addr) (x1 : Addr) : entryFrame m #[(.ref x0), (.ref x1)] 2 = mkF m 0 #[.val (.ref x0), .val (.ref x1)] [] := by first | (simp [entryFrame, mkF, argsToLocals, Value.category]; done) | rfl
set_option maxRecDepth 65536 in
set_option maxHeartbeats 40000000 in
theorem c_swa {l : Launch} {Z : State} {a0 : Array Value} {G1 : Int32} (X : Ctx Z a0 G1) (a b : Addr) (cs : List Int32) (h0 : Heap) (hE : Ext Z.heap h0) (S1 : Str Z h0 a cs) (S2 : Str Z h0 b [(45 : Int32), (45 : Int32)]) (N : NDD cs) :
    Con l Z consts_1 (⟨"java/lang/String", "startsWith", "(Ljava/lang/String;)Z"⟩ : MethodName) jdk_42_method_76_code 2 (some .boolean) [] ({ frames := 3, cells := 0, slots := 0, locals := 46 } : Room) #[(.ref a), (.ref b)] h0 (fun v h => v = some (.int 0) ∧ h0 = h) := by
  refine Con.intro (plainFor_of_name pn_0) hE X.el ?_
  intro p e s m below meth c T W
  have hsz := W.size
  refine Go.cast (efswa m a b) ?_
  refine Go.step (fun _ k => XS.aloadN W.here W.hx rfl (W.d dswa_0) rfl rfl k) ?_
  show Go _ _ _ _ _ _ _ _ _ _ (mkF m 1 #[.val (.ref a), .val (.ref b)] [(.ref a)])
  refine Go.step (fun _ k => XS.aloadN W.here W.hx rfl (W.d dswa_1) rfl rfl k) ?_
  show Go _ _ _ _ _ _ _ _ _ _ (mkF m 2 #[.val (.ref a), .val (.ref b)] [(.ref b), (.ref a)])
  refine Go.step (fun _ k => XS.iconst W.here W.hx rfl (W.d dswa_2) k) ?_
  show Go _ _ _ _ _ _ _ _ _ _ (mkF m 3 #[.val (.ref a), .val (.ref b)] [(.int (0 : Int32)), (.ref b), (.ref a)])
  refine W.virtual (X.w 178 rfl) (X.w 179 rfl) (notFace_of_selects (args := #[]) (mvT W.hZ (X.w 181 rfl))) (X.w 181 rfl) (X.w 180 rfl) (X.w 6 rfl) (X.w 182 rfl) (by decide) (c_sw X a b cs _ W.ext S1 S2 N) (by decide) (Wd := 0) (by decide) a S1.exa [(.ref b), (.int (0 : Int32))] [] rfl pd_16 rfl rfl rfl (Nat.le_of_eq rfl) dswa_3 (by decide) (by decide) ?_
  intro v T h vm W hQ C
  obtain ⟨rfl, rfl⟩ := hQ
  show Go _ _ _ _ _ _ _ _ _ _ (mkF m 6 #[.val (.ref a), .val (.ref b)] [(.int (0 : Int32))])
  exact W.retN (by simp) dswa_6 (⟨rfl, rfl⟩) (by decide) (by decide)

theorem dop0_0 : decode prog_9_method_1_code 0 = .ok (.aload_n 0, 1) := by decide +kernel
theorem dop0_1 : decode prog_9_method_1_code 1 = .ok (.invokespecial 1, 3) := by decide +kernel
theorem dop0_4 : decode prog_9_method_1_code 4 = .ok (.aload_n 0, 1) := by decide +kernel
theorem dop0_5 : decode prog_9_method_1_code 5 = .ok (.new 7, 3) := by decide +kernel
theorem dop0_8 : decode prog_9_method_1_code 8 = .ok (.dup, 1) := by decide +kernel
theorem dop0_9 : decode prog_9_method_1_code 9 = .ok (.invokespecial 9, 3) := by decide +kernel
theorem dop0_12 : decode prog_9_method_1_code 12 = .ok (.putfield 10, 3) := by decide +kernel
theorem dop0_15 : decode prog_9_method_1_code 15 = .ok (.aload_n 0, 1) := by decide +kernel
theorem dop0_16 : decode prog_9_method_1_code 16 = .ok (.new 16, 3) := by decide +kernel
theorem dop0_19 : decode prog_9_method_1_code 19 = .ok (.dup, 1) := by decide +kernel
theorem dop0_20 : decode prog_9_method_1_code 20 = .ok (.invokespecial 18, 3) := by decide +kernel
theorem dop0_23 : decode prog_9_method_1_code 23 = .ok (.putfield 19, 3) := by decide +kernel
theorem dop0_26 : decode prog_9_method_1_code 26 = .ok (.aload_n 0, 1) := by decide +kernel
theorem dop0_27 : decode prog_9_method_1_code 27 = .ok (.new 23, 3) := by decide +kernel
theorem dop0_30 : decode prog_9_method_1_code 30 = .ok (.dup, 1) := by decide +kernel
theorem dop0_31 : decode prog_9_method_1_code 31 = .ok (.invokespecial 25, 3) := by decide +kernel
theorem dop0_34 : decode prog_9_method_1_code 34 = .ok (.putfield 26, 3) := by decide +kernel
theorem dop0_37 : decode prog_9_method_1_code 37 = .ok (.iconst 0, 1) := by decide +kernel
theorem dop0_38 : decode prog_9_method_1_code 38 = .ok (.istore 4, 2) := by decide +kernel
theorem dop0_40 : decode prog_9_method_1_code 40 = .ok (.iload 4, 2) := by decide +kernel
theorem dop0_42 : decode prog_9_method_1_code 42 = .ok (.aload_n 1, 1) := by decide +kernel
theorem dop0_43 : decode prog_9_method_1_code 43 = .ok (.invokeinterface 30 1, 5) := by decide +kernel
theorem dop0_48 : decode prog_9_method_1_code 48 = .ok (.if_icmp .ge 227, 3) := by decide +kernel
theorem dop0_275 : decode prog_9_method_1_code 275 = .ok (.return_, 1) := by decide +kernel
theorem efop0 (m : MethodId) (x0 : Addr) (x1 : Addr) : entryFrame m #[(.ref x0), (.ref x1), .null, .null] 7 = mkF m 0 #[.val (.ref x0), .val (.ref x1), .val .null, .val .null, .unset, .unset, .unset] [] := by first | (simp [entryFrame, mkF, argsToLocals, Value.category]; done) | rfl
set_option maxRecDepth 65536 in
set_option maxHeartbeats 40000000 in
theorem c_op0 {l : Launch} {Z : State} {a0 : Array Value} {G1 : Int32} (X : Ctx Z a0 G1) (o u D : Addr) (kD : ClassId) (h0 : Heap) (hE : Ext Z.heap h0) (Y : Dft Z D kD) (go_ : Z.heap.size ≤ o) (Ao : Exa Z h0 o "com/example/hataraki/hataraki/cli/Options") (F_values_o : Fld Z h0 o "com/example/hataraki/hataraki/cli/Options" "values" "Ljava/util/Map;" .null) (F_switches_o : Fld Z h0 o "com/example/hataraki/hataraki/cli/Options" "switches" "Ljava/util/Set;" .null) (F_operands_o : Fld Z h0 o "com/example/hataraki/hataraki/cli/Options" "operands" "Ljava/util/List;" .null) (Au : Exa Z h0 u "java/util/ArrayList") (F_size_u : Fld Z h0 u "java/util/ArrayList" "size" "I" (.int (0 : Int32))) (F_elementData_u : Fld Z h0 u "java/util/ArrayList" "elementData" "[Ljava/lang/Object;" (.ref D)) :
    Con l Z consts_1 (⟨"com/example/hataraki/hataraki/cli/Options", "<init>", "(Ljava/util/List;Ljava/util/Set;Ljava/util/Set;)V"⟩ : MethodName) prog_9_method_1_code 7 none [] ({ frames := 4, cells := 4, slots := 20, locals := 52 } : Room) #[(.ref o), (.ref u), .null, .null] h0 (fun v h => v = none ∧ Keep h0 h [o] ∧ ∃ r : Addr, Fld Z h o "com/example/hataraki/hataraki/cli/Options" "operands" "Ljava/util/List;" (.ref r) ∧ Exa Z h r "java/util/ArrayList" ∧ Fld Z h r "java/util/ArrayList" "size" "I" (.int (0 : Int32))) := by
  refine Con.intro (plainFor_of_name pn_13) hE X.el ?_
  intro p e s m below meth c T W
  have hsz := W.size
  refine Go.cast (efop0 m o u) ?_
  have KP := Keep.refl h0 [o]
  refine Go.step (fun _ k => XS.aloadN W.here W.hx rfl (W.d dop0_0) rfl rfl k) ?_
  show Go _ _ _ _ _ _ _ _ _ _ (mkF m 1 #[.val (.ref o), .val (.ref u), .val .null, .val .null, .unset, .unset, .unset] [(.ref o)])
  refine W.initO (X.w 57 rfl) (X.w 16 rfl) (X.w 17 rfl) rfl dop0_1 (by decide) (Wd := 0) (Nat.le_of_eq rfl) (by decide) ?_
  intro T W
  show Go _ _ _ _ _ _ _ _ _ _ (mkF m 4 #[.val (.ref o), .val (.ref u), .val .null, .val .null, .unset, .unset, .unset] [])
  refine Go.step (fun _ k => XS.aloadN W.here W.hx rfl (W.d dop0_4) rfl rfl k) ?_
  show Go _ _ _ _ _ _ _ _ _ _ (mkF m 5 #[.val (.ref o), .val (.ref u), .val .null, .val .null, .unset, .unset, .unset] [(.ref o)])
  refine W.new (X.w 58 rfl) (X.w 59 rfl) (X.w 60 rfl) dop0_5 (by decide) (by decide) ?_
  intro T h b1 hb1 W Eb1 Ab1 Db1
  have ne_o_b1 : o ≠ b1 := by rw [hb1]; exact Nat.ne_of_lt Ao.lt
  have ne_u_b1 : u ≠ b1 := by rw [hb1]; exact Nat.ne_of_lt Au.lt
  have sz_b1 : h0.size ≤ b1 := by rw [hb1]; exact KP.1
  have gb1 : Z.heap.size ≤ b1 := by rw [hb1]; exact hsz
  replace F_size_u := F_size_u.ext Eb1
  replace KP := KP.ext Eb1
  replace F_values_o := F_values_o.ext Eb1
  replace F_switches_o := F_switches_o.ext Eb1
  replace F_operands_o := F_operands_o.ext Eb1
  replace F_elementData_u := F_elementData_u.ext Eb1
  replace Ao := Ao.ext Eb1
  replace Au := Au.ext Eb1
  replace hsz := W.size
  have F_loadFactor_b1 : Fld Z h b1 "java/util/HashMap" "loadFactor" "F" (.float (0 : UInt32)) := Db1 (Or.inr (X.w 73 rfl)) (ty := .float) (by decide)
  show Go _ _ _ _ _ _ _ _ _ _ (mkF m 8 #[.val (.ref o), .val (.ref u), .val .null, .val .null, .unset, .unset, .unset] [(.ref b1), (.ref o)])
  refine Go.step (fun _ k => XS.dup W.here W.hx rfl (W.d dop0_8) rfl rfl k) ?_
  show Go _ _ _ _ _ _ _ _ _ _ (mkF m 9 #[.val (.ref o), .val (.ref u), .val .null, .val .null, .unset, .unset, .unset] [(.ref b1), (.ref b1), (.ref o)])
  refine W.special rfl (X.w 61 rfl) (X.w 62 rfl) (X.w 60 rfl) (X.w 63 rfl) (by decide) (c_hmi X b1 _ W.ext gb1 Ab1 F_loadFactor_b1) (by decide) (Wd := 2) (by decide) b1 [] [(.ref b1), (.ref o)] rfl pd_6 rfl rfl rfl (Nat.le_of_eq rfl) dop0_9 (by decide) (by decide) ?_
  intro v T h vm W hQ C
  obtain ⟨rfl, Ka2⟩ := hQ
  replace F_size_u := F_size_u.keep Ka2 (nin1 ne_u_b1)
  replace KP := KP.otrN Ka2 sz_b1
  replace F_values_o := F_values_o.keep Ka2 (nin1 ne_o_b1)
  replace F_switches_o := F_switches_o.keep Ka2 (nin1 ne_o_b1)
  replace F_operands_o := F_operands_o.keep Ka2 (nin1 ne_o_b1)
  replace F_elementData_u := F_elementData_u.keep Ka2 (nin1 ne_u_b1)
  replace Ao := Ao.keep Ka2
  replace Au := Au.keep Ka2
  replace Ab1 := Ab1.keep Ka2
  replace hsz := W.size
  show Go _ _ _ _ _ _ _ _ _ _ (mkF m 12 #[.val (.ref o), .val (.ref u), .val .null, .val .null, .unset, .unset, .unset] [(.ref b1), (.ref o)])
  refine W.putF (host := "") (Or.inl (X.w 74 rfl)) Via.refl F_values_o Ao (Or.inr ⟨(X.w 75 rfl), rfl, rfl⟩) (X.w 52 rfl) (ty := (.object "java/util/Map")) (by decide) rfl rfl go_ (Safe.exa W.hZ.alike Ao (by decide) (by decide)) dop0_12 ?_
  intro T h W Wr3 F_values_o'
  replace F_operands_o := F_operands_o.other Wr3 (Or.inr (slot_ne (Or.inr (X.w 100 rfl)) (Or.inr (X.w 75 rfl)) (by decide) (t := (.object "java/util/List")) (t' := (.object "java/util/Map")) (by decide) (by decide)))
  replace F_switches_o := F_switches_o.other Wr3 (Or.inr (slot_ne (Or.inr (X.w 96 rfl)) (Or.inr (X.w 75 rfl)) (by decide) (t := (.object "java/util/Set")) (t' := (.object "java/util/Map")) (by decide) (by decide)))
  replace F_size_u := F_size_u.keep (Keep.of_wr Wr3) (nin1 (Exa.ne Au Ao (by decide)))
  replace KP := KP.otrM (Keep.of_wr Wr3) (by simp)
  replace F_elementData_u := F_elementData_u.keep (Keep.of_wr Wr3) (nin1 (Exa.ne Au Ao (by decide)))
  replace Ao := Ao.keep (Keep.of_wr Wr3)
  replace Au := Au.keep (Keep.of_wr Wr3)
  replace Ab1 := Ab1.keep (Keep.of_wr Wr3)
  replace hsz := W.size
  replace F_values_o := F_values_o'
  show Go _ _ _ _ _ _ _ _ _ _ (mkF m 15 #[.val (.ref o), .val (.ref u), .val .null, .val .null, .unset, .unset, .unset] [])
  refine Go.step (fun _ k => XS.aloadN W.here W.hx rfl (W.d dop0_15) rfl rfl k) ?_
  show Go _ _ _ _ _ _ _ _ _ _ (mkF m 16 #[.val (.ref o), .val (.ref u), .val .null, .val .null, .unset, .unset, .unset] [(.ref o)])
  refine W.new (X.w 76 rfl) (X.w 77 rfl) (X.w 78 rfl) dop0_16 (by decide) (by decide) ?_
  intro T h b4 hb4 W Eb4 Ab4 Db4
  have ne_o_b4 : o ≠ b4 := by rw [hb4]; exact Nat.ne_of_lt Ao.lt
  have ne_u_b4 : u ≠ b4 := by rw [hb4]; exact Nat.ne_of_lt Au.lt
  have sz_b4 : h0.size ≤ b4 := by rw [hb4]; exact KP.1
  have ne_b1_b4 : b1 ≠ b4 := by rw [hb4]; exact Nat.ne_of_lt Ab1.lt
  have gb4 : Z.heap.size ≤ b4 := by rw [hb4]; exact hsz
  replace F_size_u := F_size_u.ext Eb4
  replace KP := KP.ext Eb4
  replace F_values_o := F_values_o.ext Eb4
  replace F_switches_o := F_switches_o.ext Eb4
  replace F_operands_o := F_operands_o.ext Eb4
  replace F_elementData_u := F_elementData_u.ext Eb4
  replace Ao := Ao.ext Eb4
  replace Au := Au.ext Eb4
  replace Ab1 := Ab1.ext Eb4
  replace hsz := W.size
  have F_map_b4 : Fld Z h b4 "java/util/HashSet" "map" "Ljava/util/HashMap;" .null := Db4 (Or.inl (X.w 94 rfl)) (ty := (.object "java/util/HashMap")) (by decide)
  show Go _ _ _ _ _ _ _ _ _ _ (mkF m 19 #[.val (.ref o), .val (.ref u), .val .null, .val .null, .unset, .unset, .unset] [(.ref b4), (.ref o)])
  refine Go.step (fun _ k => XS.dup W.here W.hx rfl (W.d dop0_19) rfl rfl k) ?_
  show Go _ _ _ _ _ _ _ _ _ _ (mkF m 20 #[.val (.ref o), .val (.ref u), .val .null, .val .null, .unset, .unset, .unset] [(.ref b4), (.ref b4), (.ref o)])
  refine W.special rfl (X.w 79 rfl) (X.w 80 rfl) (X.w 78 rfl) (X.w 81 rfl) (by decide) (c_hsi X b4 _ W.ext gb4 Ab4 F_map_b4) (by decide) (Wd := 2) (by decide) b4 [] [(.ref b4), (.ref o)] rfl pd_6 rfl rfl rfl (Nat.le_of_eq rfl) dop0_20 (by decide) (by decide) ?_
  intro v T h vm W hQ C
  obtain ⟨rfl, Ka5⟩ := hQ
  replace F_size_u := F_size_u.keep Ka5 (nin1 ne_u_b4)
  replace KP := KP.otrN Ka5 sz_b4
  replace F_values_o := F_values_o.keep Ka5 (nin1 ne_o_b4)
  replace F_switches_o := F_switches_o.keep Ka5 (nin1 ne_o_b4)
  replace F_operands_o := F_operands_o.keep Ka5 (nin1 ne_o_b4)
  replace F_elementData_u := F_elementData_u.keep Ka5 (nin1 ne_u_b4)
  replace Ao := Ao.keep Ka5
  replace Au := Au.keep Ka5
  replace Ab1 := Ab1.keep Ka5
  replace Ab4 := Ab4.keep Ka5
  replace hsz := W.size
  show Go _ _ _ _ _ _ _ _ _ _ (mkF m 23 #[.val (.ref o), .val (.ref u), .val .null, .val .null, .unset, .unset, .unset] [(.ref b4), (.ref o)])
  refine W.putF (host := "") (Or.inl (X.w 95 rfl)) Via.refl F_switches_o Ao (Or.inr ⟨(X.w 96 rfl), rfl, rfl⟩) (X.w 52 rfl) (ty := (.object "java/util/Set")) (by decide) rfl rfl go_ (Safe.exa W.hZ.alike Ao (by decide) (by decide)) dop0_23 ?_
  intro T h W Wr6 F_switches_o'
  replace F_operands_o := F_operands_o.other Wr6 (Or.inr (slot_ne (Or.inr (X.w 100 rfl)) (Or.inr (X.w 96 rfl)) (by decide) (t := (.object "java/util/List")) (t' := (.object "java/util/Set")) (by decide) (by decide)))
  replace F_values_o := F_values_o.other Wr6 (Or.inr (slot_ne (Or.inr (X.w 75 rfl)) (Or.inr (X.w 96 rfl)) (by decide) (t := (.object "java/util/Map")) (t' := (.object "java/util/Set")) (by decide) (by decide)))
  replace F_size_u := F_size_u.keep (Keep.of_wr Wr6) (nin1 (Exa.ne Au Ao (by decide)))
  replace KP := KP.otrM (Keep.of_wr Wr6) (by simp)
  replace F_elementData_u := F_elementData_u.keep (Keep.of_wr Wr6) (nin1 (Exa.ne Au Ao (by decide)))
  replace Ao := Ao.keep (Keep.of_wr Wr6)
  replace Au := Au.keep (Keep.of_wr Wr6)
  replace Ab1 := Ab1.keep (Keep.of_wr Wr6)
  replace Ab4 := Ab4.keep (Keep.of_wr Wr6)
  replace hsz := W.size
  replace F_switches_o := F_switches_o'
  show Go _ _ _ _ _ _ _ _ _ _ (mkF m 26 #[.val (.ref o), .val (.ref u), .val .null, .val .null, .unset, .unset, .unset] [])
  refine Go.step (fun _ k => XS.aloadN W.here W.hx rfl (W.d dop0_26) rfl rfl k) ?_
  show Go _ _ _ _ _ _ _ _ _ _ (mkF m 27 #[.val (.ref o), .val (.ref u), .val .null, .val .null, .unset, .unset, .unset] [(.ref o)])
  refine W.new (X.w 97 rfl) (X.w 27 rfl) (X.w 28 rfl) dop0_27 (by decide) (by decide) ?_
  intro T h b7 hb7 W Eb7 Ab7 Db7
  have ne_o_b7 : o ≠ b7 := by rw [hb7]; exact Nat.ne_of_lt Ao.lt
  have ne_u_b7 : u ≠ b7 := by rw [hb7]; exact Nat.ne_of_lt Au.lt
  have sz_b7 : h0.size ≤ b7 := by rw [hb7]; exact KP.1
  have ne_b1_b7 : b1 ≠ b7 := by rw [hb7]; exact Nat.ne_of_lt Ab1.lt
  have ne_b4_b7 : b4 ≠ b7 := by rw [hb7]; exact Nat.ne_of_lt Ab4.lt
  have gb7 : Z.heap.size ≤ b7 := by rw [hb7]; exact hsz
  replace F_size_u := F_size_u.ext Eb7
  replace KP := KP.ext Eb7
  replace F_values_o := F_values_o.ext Eb7
  replace F_switches_o := F_switches_o.ext Eb7
  replace F_operands_o := F_operands_o.ext Eb7
  replace F_elementData_u := F_elementData_u.ext Eb7
  replace Ao := Ao.ext Eb7
  replace Au := Au.ext Eb7
  replace Ab1 := Ab1.ext Eb7
  replace Ab4 := Ab4.ext Eb7
  replace hsz := W.size
  have F_modCount_b7 : Fld Z h b7 "java/util/AbstractList" "modCount" "I" (.int (0 : Int32)) := Db7 (Or.inl (X.w 46 rfl)) (ty := .int) (by decide)
  have F_elementData_b7 : Fld Z h b7 "java/util/ArrayList" "elementData" "[Ljava/lang/Object;" .null := Db7 (Or.inl (X.w 49 rfl)) (ty := (.array (.object "java/lang/Object"))) (by decide)
  have F_size_b7 : Fld Z h b7 "java/util/ArrayList" "size" "I" (.int (0 : Int32)) := Db7 (Or.inl (X.w 111 rfl)) (ty := .int) (by decide)
  show Go _ _ _ _ _ _ _ _ _ _ (mkF m 30 #[.val (.ref o), .val (.ref u), .val .null, .val .null, .unset, .unset, .unset] [(.ref b7), (.ref o)])
  refine Go.step (fun _ k => XS.dup W.here W.hx rfl (W.d dop0_30) rfl rfl k) ?_
  show Go _ _ _ _ _ _ _ _ _ _ (mkF m 31 #[.val (.ref o), .val (.ref u), .val .null, .val .null, .unset, .unset, .unset] [(.ref b7), (.ref b7), (.ref o)])
  refine W.special rfl (X.w 98 rfl) (X.w 30 rfl) (X.w 28 rfl) (X.w 31 rfl) (by decide) (c_ali X b7 D _ _ W.ext Y gb7 Ab7 F_modCount_b7 F_elementData_b7 F_size_b7) (by decide) (Wd := 2) (by decide) b7 [] [(.ref b7), (.ref o)] rfl pd_6 rfl rfl rfl (Nat.le_of_eq rfl) dop0_31 (by decide) (by decide) ?_
  intro v T h vm W hQ C
  obtain ⟨rfl, Ka8, F_modCount_b7', F_elementData_b7', F_size_b7'⟩ := hQ
  replace F_size_u := F_size_u.keep Ka8 (nin1 ne_u_b7)
  replace KP := KP.otrN Ka8 sz_b7
  replace F_values_o := F_values_o.keep Ka8 (nin1 ne_o_b7)
  replace F_switches_o := F_switches_o.keep Ka8 (nin1 ne_o_b7)
  replace F_operands_o := F_operands_o.keep Ka8 (nin1 ne_o_b7)
  replace F_elementData_u := F_elementData_u.keep Ka8 (nin1 ne_u_b7)
  replace Ao := Ao.keep Ka8
  replace Au := Au.keep Ka8
  replace Ab1 := Ab1.keep Ka8
  replace Ab4 := Ab4.keep Ka8
  replace Ab7 := Ab7.keep Ka8
  replace hsz := W.size
  replace F_modCount_b7 := F_modCount_b7'
  replace F_elementData_b7 := F_elementData_b7'
  replace F_size_b7 := F_size_b7'
  show Go _ _ _ _ _ _ _ _ _ _ (mkF m 34 #[.val (.ref o), .val (.ref u), .val .null, .val .null, .unset, .unset, .unset] [(.ref b7), (.ref o)])
  refine W.putF (host := "") (Or.inl (X.w 99 rfl)) Via.refl F_operands_o Ao (Or.inr ⟨(X.w 100 rfl), rfl, rfl⟩) (X.w 52 rfl) (ty := (.object "java/util/List")) (by decide) rfl rfl go_ (Safe.exa W.hZ.alike Ao (by decide) (by decide)) dop0_34 ?_
  intro T h W Wr9 F_operands_o'
  replace F_switches_o := F_switches_o.other Wr9 (Or.inr (slot_ne (Or.inr (X.w 96 rfl)) (Or.inr (X.w 100 rfl)) (by decide) (t := (.object "java/util/Set")) (t' := (.object "java/util/List")) (by decide) (by decide)))
  replace F_values_o := F_values_o.other Wr9 (Or.inr (slot_ne (Or.inr (X.w 75 rfl)) (Or.inr (X.w 100 rfl)) (by decide) (t := (.object "java/util/Map")) (t' := (.object "java/util/List")) (by decide) (by decide)))
  replace F_size_u := F_size_u.keep (Keep.of_wr Wr9) (nin1 (Exa.ne Au Ao (by decide)))
  replace KP := KP.otrM (Keep.of_wr Wr9) (by simp)
  replace F_elementData_u := F_elementData_u.keep (Keep.of_wr Wr9) (nin1 (Exa.ne Au Ao (by decide)))
  replace F_modCount_b7 := F_modCount_b7.keep (Keep.of_wr Wr9) (nin1 (Ne.symm ne_o_b7))
  replace F_elementData_b7 := F_elementData_b7.keep (Keep.of_wr Wr9) (nin1 (Ne.symm ne_o_b7))
  replace F_size_b7 := F_size_b7.keep (Keep.of_wr Wr9) (nin1 (Ne.symm ne_o_b7))
  replace Ao := Ao.keep (Keep.of_wr Wr9)
  replace Au := Au.keep (Keep.of_wr Wr9)
  replace Ab1 := Ab1.keep (Keep.of_wr Wr9)
  replace Ab4 := Ab4.keep (Keep.of_wr Wr9)
  replace Ab7 := Ab7.keep (Keep.of_wr Wr9)
  replace hsz := W.size
  replace F_operands_o := F_operands_o'
  show Go _ _ _ _ _ _ _ _ _ _ (mkF m 37 #[.val (.ref o), .val (.ref u), .val .null, .val .null, .unset, .unset, .unset] [])
  refine Go.step (fun _ k => XS.iconst W.here W.hx rfl (W.d dop0_37) k) ?_
  show Go _ _ _ _ _ _ _ _ _ _ (mkF m 38 #[.val (.ref o), .val (.ref u), .val .null, .val .null, .unset, .unset, .unset] [(.int (0 : Int32))])
  refine Go.step (fun _ k => XS.istore W.here W.hx rfl (W.d dop0_38) rfl (l' := #[.val (.ref o), .val (.ref u), .val .null, .val .null, .val (.int (0 : Int32)), .unset, .unset]) rfl k) ?_
  show Go _ _ _ _ _ _ _ _ _ _ (mkF m 40 #[.val (.ref o), .val (.ref u), .val .null, .val .null, .val (.int (0 : Int32)), .unset, .unset] [])
  refine Go.step (fun _ k => XS.iload W.here W.hx rfl (W.d dop0_40) rfl k) ?_
  show Go _ _ _ _ _ _ _ _ _ _ (mkF m 42 #[.val (.ref o), .val (.ref u), .val .null, .val .null, .val (.int (0 : Int32)), .unset, .unset] [(.int (0 : Int32))])
  refine Go.step (fun _ k => XS.aloadN W.here W.hx rfl (W.d dop0_42) rfl rfl k) ?_
  show Go _ _ _ _ _ _ _ _ _ _ (mkF m 43 #[.val (.ref o), .val (.ref u), .val .null, .val .null, .val (.int (0 : Int32)), .unset, .unset] [(.ref u), (.int (0 : Int32))])
  refine W.iface (X.w 101 rfl) (X.w 102 rfl) (X.w 103 rfl) (X.w 104 rfl) (X.w 105 rfl) (X.w 106 rfl) (X.w 107 rfl) (X.w 108 rfl) (X.w 28 rfl) (X.w 109 rfl) (by decide) (c_size X u (0 : Int32) _ W.ext F_size_u) (by decide) (Wd := 1) (by decide) u Au [] [(.int (0 : Int32))] rfl pd_14 rfl rfl rfl (Nat.le_of_eq rfl) dop0_43 (by decide) (by decide) ?_
  intro v T h vm W hQ C
  obtain ⟨rfl, rfl⟩ := hQ
  show Go _ _ _ _ _ _ _ _ _ _ (mkF m 48 #[.val (.ref o), .val (.ref u), .val .null, .val .null, .val (.int (0 : Int32)), .unset, .unset] [(.int (0 : Int32)), (.int (0 : Int32))])
  refine Go.step (fun _ k => XS.icmpYes W.here W.hx rfl (pc0 := 48) (pc' := 275) rfl (W.d dop0_48) rfl (flt (by decide : ¬ ((0 : Int32) < (0 : Int32)))).2.1 (by decide) (by decide) k) ?_
  show Go _ _ _ _ _ _ _ _ _ _ (mkF m 275 #[.val (.ref o), .val (.ref u), .val .null, .val .null, .val (.int (0 : Int32)), .unset, .unset] [])
  exact W.retV dop0_275 (⟨rfl, KP, b7, F_operands_o, Ab7, F_size_b7⟩) (by decide) (by decide)

theorem dop1_0 : decode prog_9_method_1_code 0 = .ok (.aload_n 0, 1) := by decide +kernel
theorem dop1_1 : decode prog_9_method_1_code 1 = .ok (.invokespecial 1, 3) := by decide +kernel
theorem dop1_4 : decode prog_9_method_1_code 4 = .ok (.aload_n 0, 1) := by decide +kernel
theorem dop1_5 : decode prog_9_method_1_code 5 = .ok (.new 7, 3) := by decide +kernel
theorem dop1_8 : decode prog_9_method_1_code 8 = .ok (.dup, 1) := by decide +kernel
theorem dop1_9 : decode prog_9_method_1_code 9 = .ok (.invokespecial 9, 3) := by decide +kernel
theorem dop1_12 : decode prog_9_method_1_code 12 = .ok (.putfield 10, 3) := by decide +kernel
theorem dop1_15 : decode prog_9_method_1_code 15 = .ok (.aload_n 0, 1) := by decide +kernel
theorem dop1_16 : decode prog_9_method_1_code 16 = .ok (.new 16, 3) := by decide +kernel
theorem dop1_19 : decode prog_9_method_1_code 19 = .ok (.dup, 1) := by decide +kernel
theorem dop1_20 : decode prog_9_method_1_code 20 = .ok (.invokespecial 18, 3) := by decide +kernel
theorem dop1_23 : decode prog_9_method_1_code 23 = .ok (.putfield 19, 3) := by decide +kernel
theorem dop1_26 : decode prog_9_method_1_code 26 = .ok (.aload_n 0, 1) := by decide +kernel
theorem dop1_27 : decode prog_9_method_1_code 27 = .ok (.new 23, 3) := by decide +kernel
theorem dop1_30 : decode prog_9_method_1_code 30 = .ok (.dup, 1) := by decide +kernel
theorem dop1_31 : decode prog_9_method_1_code 31 = .ok (.invokespecial 25, 3) := by decide +kernel
theorem dop1_34 : decode prog_9_method_1_code 34 = .ok (.putfield 26, 3) := by decide +kernel
theorem dop1_37 : decode prog_9_method_1_code 37 = .ok (.iconst 0, 1) := by decide +kernel
theorem dop1_38 : decode prog_9_method_1_code 38 = .ok (.istore 4, 2) := by decide +kernel
theorem dop1_40 : decode prog_9_method_1_code 40 = .ok (.iload 4, 2) := by decide +kernel
theorem dop1_42 : decode prog_9_method_1_code 42 = .ok (.aload_n 1, 1) := by decide +kernel
theorem dop1_43 : decode prog_9_method_1_code 43 = .ok (.invokeinterface 30 1, 5) := by decide +kernel
theorem dop1_48 : decode prog_9_method_1_code 48 = .ok (.if_icmp .ge 227, 3) := by decide +kernel
theorem dop1_51 : decode prog_9_method_1_code 51 = .ok (.aload_n 1, 1) := by decide +kernel
theorem dop1_52 : decode prog_9_method_1_code 52 = .ok (.iload 4, 2) := by decide +kernel
theorem dop1_54 : decode prog_9_method_1_code 54 = .ok (.invokeinterface 36 2, 5) := by decide +kernel
theorem dop1_59 : decode prog_9_method_1_code 59 = .ok (.checkcast 40, 3) := by decide +kernel
theorem dop1_62 : decode prog_9_method_1_code 62 = .ok (.astore 5, 2) := by decide +kernel
theorem dop1_64 : decode prog_9_method_1_code 64 = .ok (.aload 5, 2) := by decide +kernel
theorem dop1_66 : decode prog_9_method_1_code 66 = .ok (.ldc 42, 2) := by decide +kernel
theorem dop1_68 : decode prog_9_method_1_code 68 = .ok (.invokevirtual 44, 3) := by decide +kernel
theorem dop1_71 : decode prog_9_method_1_code 71 = .ok (.ifCond .eq 12, 3) := by decide +kernel
theorem dop1_83 : decode prog_9_method_1_code 83 = .ok (.aconst_null, 1) := by decide +kernel
theorem dop1_84 : decode prog_9_method_1_code 84 = .ok (.astore 6, 2) := by decide +kernel
theorem dop1_86 : decode prog_9_method_1_code 86 = .ok (.aload 6, 2) := by decide +kernel
theorem dop1_88 : decode prog_9_method_1_code 88 = .ok (.ifnonnull 18, 3) := by decide +kernel
theorem dop1_91 : decode prog_9_method_1_code 91 = .ok (.aload_n 0, 1) := by decide +kernel
theorem dop1_92 : decode prog_9_method_1_code 92 = .ok (.getfield 26, 3) := by decide +kernel
theorem dop1_95 : decode prog_9_method_1_code 95 = .ok (.aload 5, 2) := by decide +kernel
theorem dop1_97 : decode prog_9_method_1_code 97 = .ok (.invokeinterface 52 2, 5) := by decide +kernel
theorem dop1_102 : decode prog_9_method_1_code 102 = .ok (.pop, 1) := by decide +kernel
theorem dop1_103 : decode prog_9_method_1_code 103 = .ok (.goto 166, 3) := by decide +kernel
theorem dop1_269 : decode prog_9_method_1_code 269 = .ok (.iinc 4 1, 3) := by decide +kernel
theorem dop1_272 : decode prog_9_method_1_code 272 = .ok (.goto (-232), 3) := by decide +kernel
theorem dop1_275 : decode prog_9_method_1_code 275 = .ok (.return_, 1) := by decide +kernel
theorem efop1 (m : MethodId) (x0 : Addr) (x1 : Addr) : entryFrame m #[(.ref x0), (.ref x1), .null, .null] 7 = mkF m 0 #[.val (.ref x0), .val (.ref x1), .val .null, .val .null, .unset, .unset, .unset] [] := by first | (simp [entryFrame, mkF, argsToLocals, Value.category]; done) | rfl
set_option maxRecDepth 65536 in
set_option maxHeartbeats 40000000 in
theorem c_op1 {l : Launch} {Z : State} {a0 : Array Value} {G1 : Int32} (X : Ctx Z a0 G1) (o u D : Addr) (kD : ClassId) (t x1 : Addr) (kt : ClassId) (cx1 : List Int32) (h0 : Heap) (hE : Ext Z.heap h0) (Y : Dft Z D kD) (go_ : Z.heap.size ≤ o) (Ao : Exa Z h0 o "com/example/hataraki/hataraki/cli/Options") (F_values_o : Fld Z h0 o "com/example/hataraki/hataraki/cli/Options" "values" "Ljava/util/Map;" .null) (F_switches_o : Fld Z h0 o "com/example/hataraki/hataraki/cli/Options" "switches" "Ljava/util/Set;" .null) (F_operands_o : Fld Z h0 o "com/example/hataraki/hataraki/cli/Options" "operands" "Ljava/util/List;" .null) (Au : Exa Z h0 u "java/util/ArrayList") (F_size_u : Fld Z h0 u "java/util/ArrayList" "size" "I" (.int (1 : Int32))) (F_elementData_u : Fld Z h0 u "java/util/ArrayList" "elementData" "[Ljava/lang/Object;" (.ref t)) (Vt : Arv Z h0 t kt (.object "java/lang/Object") (10 : Int32) [(.ref x1), .null, .null, .null, .null, .null, .null, .null, .null, .null] .null) (Sx1 : Str Z h0 x1 cx1) (Nx1 : NDD cx1) :
    Con l Z consts_1 (⟨"com/example/hataraki/hataraki/cli/Options", "<init>", "(Ljava/util/List;Ljava/util/Set;Ljava/util/Set;)V"⟩ : MethodName) prog_9_method_1_code 7 none [] ({ frames := 5, cells := 7, slots := 42, locals := 69 } : Room) #[(.ref o), (.ref u), .null, .null] h0 (fun v h => v = none ∧ Keep h0 h [o] ∧ ∃ r : Addr, Fld Z h o "com/example/hataraki/hataraki/cli/Options" "operands" "Ljava/util/List;" (.ref r) ∧ Exa Z h r "java/util/ArrayList" ∧ Fld Z h r "java/util/ArrayList" "size" "I" (.int (1 : Int32)) ∧ ∃ (w : Addr) (kw : ClassId), Fld Z h r "java/util/ArrayList" "elementData" "[Ljava/lang/Object;" (.ref w) ∧ Arv Z h w kw (.object "java/lang/Object") (10 : Int32) [(.ref x1), .null, .null, .null, .null, .null, .null, .null, .null, .null] .null) := by
  refine Con.intro (plainFor_of_name pn_13) hE X.el ?_
  intro p e s m below meth c T W
  have hsz := W.size
  refine Go.cast (efop1 m o u) ?_
  have KP := Keep.refl h0 [o]
  refine Go.step (fun _ k => XS.aloadN W.here W.hx rfl (W.d dop1_0) rfl rfl k) ?_
  show Go _ _ _ _ _ _ _ _ _ _ (mkF m 1 #[.val (.ref o), .val (.ref u), .val .null, .val .null, .unset, .unset, .unset] [(.ref o)])
  refine W.initO (X.w 57 rfl) (X.w 16 rfl) (X.w 17 rfl) rfl dop1_1 (by decide) (Wd := 0) (Nat.le_of_eq rfl) (by decide) ?_
  intro T W
  show Go _ _ _ _ _ _ _ _ _ _ (mkF m 4 #[.val (.ref o), .val (.ref u), .val .null, .val .null, .unset, .unset, .unset] [])
  refine Go.step (fun _ k => XS.aloadN W.here W.hx rfl (W.d dop1_4) rfl rfl k) ?_
  show Go _ _ _ _ _ _ _ _ _ _ (mkF m 5 #[.val (.ref o), .val (.ref u), .val .null, .val .null, .unset, .unset, .unset] [(.ref o)])
  refine W.new (X.w 58 rfl) (X.w 59 rfl) (X.w 60 rfl) dop1_5 (by decide) (by decide) ?_
  intro T h b1 hb1 W Eb1 Ab1 Db1
  have ne_o_b1 : o ≠ b1 := by rw [hb1]; exact Nat.ne_of_lt Ao.lt
  have ne_u_b1 : u ≠ b1 := by rw [hb1]; exact Nat.ne_of_lt Au.lt
  have sz_b1 : h0.size ≤ b1 := by rw [hb1]; exact KP.1
  have ne_t_b1 : t ≠ b1 := by rw [hb1]; exact Nat.ne_of_lt Vt.lt
  have ne_x1_b1 : x1 ≠ b1 := by rw [hb1]; exact Nat.ne_of_lt Sx1.exa.lt
  have gb1 : Z.heap.size ≤ b1 := by rw [hb1]; exact hsz
  replace F_size_u := F_size_u.ext Eb1
  replace KP := KP.ext Eb1
  replace F_values_o := F_values_o.ext Eb1
  replace F_switches_o := F_switches_o.ext Eb1
  replace F_operands_o := F_operands_o.ext Eb1
  replace F_elementData_u := F_elementData_u.ext Eb1
  replace Vt := Vt.ext Eb1
  replace Sx1 := Sx1.ext Eb1
  replace Ao := Ao.ext Eb1
  replace Au := Au.ext Eb1
  replace hsz := W.size
  have F_loadFactor_b1 : Fld Z h b1 "java/util/HashMap" "loadFactor" "F" (.float (0 : UInt32)) := Db1 (Or.inr (X.w 73 rfl)) (ty := .float) (by decide)
  show Go _ _ _ _ _ _ _ _ _ _ (mkF m 8 #[.val (.ref o), .val (.ref u), .val .null, .val .null, .unset, .unset, .unset] [(.ref b1), (.ref o)])
  refine Go.step (fun _ k => XS.dup W.here W.hx rfl (W.d dop1_8) rfl rfl k) ?_
  show Go _ _ _ _ _ _ _ _ _ _ (mkF m 9 #[.val (.ref o), .val (.ref u), .val .null, .val .null, .unset, .unset, .unset] [(.ref b1), (.ref b1), (.ref o)])
  refine W.special rfl (X.w 61 rfl) (X.w 62 rfl) (X.w 60 rfl) (X.w 63 rfl) (by decide) (c_hmi X b1 _ W.ext gb1 Ab1 F_loadFactor_b1) (by decide) (Wd := 2) (by decide) b1 [] [(.ref b1), (.ref o)] rfl pd_6 rfl rfl rfl (Nat.le_of_eq rfl) dop1_9 (by decide) (by decide) ?_
  intro v T h vm W hQ C
  obtain ⟨rfl, Ka2⟩ := hQ
  replace F_size_u := F_size_u.keep Ka2 (nin1 ne_u_b1)
  replace KP := KP.otrN Ka2 sz_b1
  replace F_values_o := F_values_o.keep Ka2 (nin1 ne_o_b1)
  replace F_switches_o := F_switches_o.keep Ka2 (nin1 ne_o_b1)
  replace F_operands_o := F_operands_o.keep Ka2 (nin1 ne_o_b1)
  replace F_elementData_u := F_elementData_u.keep Ka2 (nin1 ne_u_b1)
  replace Vt := Vt.keep Ka2 (nin1 ne_t_b1)
  replace Sx1 := Sx1.keepE Ka2 Ab1 (by decide) (X.w 59 rfl)
  replace Ao := Ao.keep Ka2
  replace Au := Au.keep Ka2
  replace Ab1 := Ab1.keep Ka2
  replace hsz := W.size
  show Go _ _ _ _ _ _ _ _ _ _ (mkF m 12 #[.val (.ref o), .val (.ref u), .val .null, .val .null, .unset, .unset, .unset] [(.ref b1), (.ref o)])
  refine W.putF (host := "") (Or.inl (X.w 74 rfl)) Via.refl F_values_o Ao (Or.inr ⟨(X.w 75 rfl), rfl, rfl⟩) (X.w 52 rfl) (ty := (.object "java/util/Map")) (by decide) rfl rfl go_ (Safe.exa W.hZ.alike Ao (by decide) (by decide)) dop1_12 ?_
  intro T h W Wr3 F_values_o'
  replace F_operands_o := F_operands_o.other Wr3 (Or.inr (slot_ne (Or.inr (X.w 100 rfl)) (Or.inr (X.w 75 rfl)) (by decide) (t := (.object "java/util/List")) (t' := (.object "java/util/Map")) (by decide) (by decide)))
  replace F_switches_o := F_switches_o.other Wr3 (Or.inr (slot_ne (Or.inr (X.w 96 rfl)) (Or.inr (X.w 75 rfl)) (by decide) (t := (.object "java/util/Set")) (t' := (.object "java/util/Map")) (by decide) (by decide)))
  replace F_size_u := F_size_u.keep (Keep.of_wr Wr3) (nin1 (Exa.ne Au Ao (by decide)))
  replace KP := KP.otrM (Keep.of_wr Wr3) (by simp)
  replace F_elementData_u := F_elementData_u.keep (Keep.of_wr Wr3) (nin1 (Exa.ne Au Ao (by decide)))
  replace Vt := Vt.keep (Keep.of_wr Wr3) (nin1 (Ne.symm (Exa.neArv Ao Vt (X.w 52 rfl))))
  replace Sx1 := Sx1.keepE (Keep.of_wr Wr3) Ao (by decide) (X.w 52 rfl)
  replace Ao := Ao.keep (Keep.of_wr Wr3)
  replace Au := Au.keep (Keep.of_wr Wr3)
  replace Ab1 := Ab1.keep (Keep.of_wr Wr3)
  replace hsz := W.size
  replace F_values_o := F_values_o'
  show Go _ _ _ _ _ _ _ _ _ _ (mkF m 15 #[.val (.ref o), .val (.ref u), .val .null, .val .null, .unset, .unset, .unset] [])
  refine Go.step (fun _ k => XS.aloadN W.here W.hx rfl (W.d dop1_15) rfl rfl k) ?_
  show Go _ _ _ _ _ _ _ _ _ _ (mkF m 16 #[.val (.ref o), .val (.ref u), .val .null, .val .null, .unset, .unset, .unset] [(.ref o)])
  refine W.new (X.w 76 rfl) (X.w 77 rfl) (X.w 78 rfl) dop1_16 (by decide) (by decide) ?_
  intro T h b4 hb4 W Eb4 Ab4 Db4
  have ne_o_b4 : o ≠ b4 := by rw [hb4]; exact Nat.ne_of_lt Ao.lt
  have ne_u_b4 : u ≠ b4 := by rw [hb4]; exact Nat.ne_of_lt Au.lt
  have sz_b4 : h0.size ≤ b4 := by rw [hb4]; exact KP.1
  have ne_t_b4 : t ≠ b4 := by rw [hb4]; exact Nat.ne_of_lt Vt.lt
  have ne_x1_b4 : x1 ≠ b4 := by rw [hb4]; exact Nat.ne_of_lt Sx1.exa.lt
  have ne_b1_b4 : b1 ≠ b4 := by rw [hb4]; exact Nat.ne_of_lt Ab1.lt
  have gb4 : Z.heap.size ≤ b4 := by rw [hb4]; exact hsz
  replace F_size_u := F_size_u.ext Eb4
  replace KP := KP.ext Eb4
  replace F_values_o := F_values_o.ext Eb4
  replace F_switches_o := F_switches_o.ext Eb4
  replace F_operands_o := F_operands_o.ext Eb4
  replace F_elementData_u := F_elementData_u.ext Eb4
  replace Vt := Vt.ext Eb4
  replace Sx1 := Sx1.ext Eb4
  replace Ao := Ao.ext Eb4
  replace Au := Au.ext Eb4
  replace Ab1 := Ab1.ext Eb4
  replace hsz := W.size
  have F_map_b4 : Fld Z h b4 "java/util/HashSet" "map" "Ljava/util/HashMap;" .null := Db4 (Or.inl (X.w 94 rfl)) (ty := (.object "java/util/HashMap")) (by decide)
  show Go _ _ _ _ _ _ _ _ _ _ (mkF m 19 #[.val (.ref o), .val (.ref u), .val .null, .val .null, .unset, .unset, .unset] [(.ref b4), (.ref o)])
  refine Go.step (fun _ k => XS.dup W.here W.hx rfl (W.d dop1_19) rfl rfl k) ?_
  show Go _ _ _ _ _ _ _ _ _ _ (mkF m 20 #[.val (.ref o), .val (.ref u), .val .null, .val .null, .unset, .unset, .unset] [(.ref b4), (.ref b4), (.ref o)])
  refine W.special rfl (X.w 79 rfl) (X.w 80 rfl) (X.w 78 rfl) (X.w 81 rfl) (by decide) (c_hsi X b4 _ W.ext gb4 Ab4 F_map_b4) (by decide) (Wd := 2) (by decide) b4 [] [(.ref b4), (.ref o)] rfl pd_6 rfl rfl rfl (Nat.le_of_eq rfl) dop1_20 (by decide) (by decide) ?_
  intro v T h vm W hQ C
  obtain ⟨rfl, Ka5⟩ := hQ
  replace F_size_u := F_size_u.keep Ka5 (nin1 ne_u_b4)
  replace KP := KP.otrN Ka5 sz_b4
  replace F_values_o := F_values_o.keep Ka5 (nin1 ne_o_b4)
  replace F_switches_o := F_switches_o.keep Ka5 (nin1 ne_o_b4)
  replace F_operands_o := F_operands_o.keep Ka5 (nin1 ne_o_b4)
  replace F_elementData_u := F_elementData_u.keep Ka5 (nin1 ne_u_b4)
  replace Vt := Vt.keep Ka5 (nin1 ne_t_b4)
  replace Sx1 := Sx1.keepE Ka5 Ab4 (by decide) (X.w 77 rfl)
  replace Ao := Ao.keep Ka5
  replace Au := Au.keep Ka5
  replace Ab1 := Ab1.keep Ka5
  replace Ab4 := Ab4.keep Ka5
  replace hsz := W.size
  show Go _ _ _ _ _ _ _ _ _ _ (mkF m 23 #[.val (.ref o), .val (.ref u), .val .null, .val .null, .unset, .unset, .unset] [(.ref b4), (.ref o)])
  refine W.putF (host := "") (Or.inl (X.w 95 rfl)) Via.refl F_switches_o Ao (Or.inr ⟨(X.w 96 rfl), rfl, rfl⟩) (X.w 52 rfl) (ty := (.object "java/util/Set")) (by decide) rfl rfl go_ (Safe.exa W.hZ.alike Ao (by decide) (by decide)) dop1_23 ?_
  intro T h W Wr6 F_switches_o'
  replace F_operands_o := F_operands_o.other Wr6 (Or.inr (slot_ne (Or.inr (X.w 100 rfl)) (Or.inr (X.w 96 rfl)) (by decide) (t := (.object "java/util/List")) (t' := (.object "java/util/Set")) (by decide) (by decide)))
  replace F_values_o := F_values_o.other Wr6 (Or.inr (slot_ne (Or.inr (X.w 75 rfl)) (Or.inr (X.w 96 rfl)) (by decide) (t := (.object "java/util/Map")) (t' := (.object "java/util/Set")) (by decide) (by decide)))
  replace F_size_u := F_size_u.keep (Keep.of_wr Wr6) (nin1 (Exa.ne Au Ao (by decide)))
  replace KP := KP.otrM (Keep.of_wr Wr6) (by simp)
  replace F_elementData_u := F_elementData_u.keep (Keep.of_wr Wr6) (nin1 (Exa.ne Au Ao (by decide)))
  replace Vt := Vt.keep (Keep.of_wr Wr6) (nin1 (Ne.symm (Exa.neArv Ao Vt (X.w 52 rfl))))
  replace Sx1 := Sx1.keepE (Keep.of_wr Wr6) Ao (by decide) (X.w 52 rfl)
  replace Ao := Ao.keep (Keep.of_wr Wr6)
  replace Au := Au.keep (Keep.of_wr Wr6)
  replace Ab1 := Ab1.keep (Keep.of_wr Wr6)
  replace Ab4 := Ab4.keep (Keep.of_wr Wr6)
  replace hsz := W.size
  replace F_switches_o := F_switches_o'
  show Go _ _ _ _ _ _ _ _ _ _ (mkF m 26 #[.val (.ref o), .val (.ref u), .val .null, .val .null, .unset, .unset, .unset] [])
  refine Go.step (fun _ k => XS.aloadN W.here W.hx rfl (W.d dop1_26) rfl rfl k) ?_
  show Go _ _ _ _ _ _ _ _ _ _ (mkF m 27 #[.val (.ref o), .val (.ref u), .val .null, .val .null, .unset, .unset, .unset] [(.ref o)])
  refine W.new (X.w 97 rfl) (X.w 27 rfl) (X.w 28 rfl) dop1_27 (by decide) (by decide) ?_
  intro T h b7 hb7 W Eb7 Ab7 Db7
  have ne_o_b7 : o ≠ b7 := by rw [hb7]; exact Nat.ne_of_lt Ao.lt
  have ne_u_b7 : u ≠ b7 := by rw [hb7]; exact Nat.ne_of_lt Au.lt
  have sz_b7 : h0.size ≤ b7 := by rw [hb7]; exact KP.1
  have ne_t_b7 : t ≠ b7 := by rw [hb7]; exact Nat.ne_of_lt Vt.lt
  have ne_x1_b7 : x1 ≠ b7 := by rw [hb7]; exact Nat.ne_of_lt Sx1.exa.lt
  have ne_b1_b7 : b1 ≠ b7 := by rw [hb7]; exact Nat.ne_of_lt Ab1.lt
  have ne_b4_b7 : b4 ≠ b7 := by rw [hb7]; exact Nat.ne_of_lt Ab4.lt
  have gb7 : Z.heap.size ≤ b7 := by rw [hb7]; exact hsz
  replace F_size_u := F_size_u.ext Eb7
  replace KP := KP.ext Eb7
  replace F_values_o := F_values_o.ext Eb7
  replace F_switches_o := F_switches_o.ext Eb7
  replace F_operands_o := F_operands_o.ext Eb7
  replace F_elementData_u := F_elementData_u.ext Eb7
  replace Vt := Vt.ext Eb7
  replace Sx1 := Sx1.ext Eb7
  replace Ao := Ao.ext Eb7
  replace Au := Au.ext Eb7
  replace Ab1 := Ab1.ext Eb7
  replace Ab4 := Ab4.ext Eb7
  replace hsz := W.size
  have F_modCount_b7 : Fld Z h b7 "java/util/AbstractList" "modCount" "I" (.int (0 : Int32)) := Db7 (Or.inl (X.w 46 rfl)) (ty := .int) (by decide)
  have F_elementData_b7 : Fld Z h b7 "java/util/ArrayList" "elementData" "[Ljava/lang/Object;" .null := Db7 (Or.inl (X.w 49 rfl)) (ty := (.array (.object "java/lang/Object"))) (by decide)
  have F_size_b7 : Fld Z h b7 "java/util/ArrayList" "size" "I" (.int (0 : Int32)) := Db7 (Or.inl (X.w 111 rfl)) (ty := .int) (by decide)
  show Go _ _ _ _ _ _ _ _ _ _ (mkF m 30 #[.val (.ref o), .val (.ref u), .val .null, .val .null, .unset, .unset, .unset] [(.ref b7), (.ref o)])
  refine Go.step (fun _ k => XS.dup W.here W.hx rfl (W.d dop1_30) rfl rfl k) ?_
  show Go _ _ _ _ _ _ _ _ _ _ (mkF m 31 #[.val (.ref o), .val (.ref u), .val .null, .val .null, .unset, .unset, .unset] [(.ref b7), (.ref b7), (.ref o)])
  refine W.special rfl (X.w 98 rfl) (X.w 30 rfl) (X.w 28 rfl) (X.w 31 rfl) (by decide) (c_ali X b7 D _ _ W.ext Y gb7 Ab7 F_modCount_b7 F_elementData_b7 F_size_b7) (by decide) (Wd := 2) (by decide) b7 [] [(.ref b7), (.ref o)] rfl pd_6 rfl rfl rfl (Nat.le_of_eq rfl) dop1_31 (by decide) (by decide) ?_
  intro v T h vm W hQ C
  obtain ⟨rfl, Ka8, F_modCount_b7', F_elementData_b7', F_size_b7'⟩ := hQ
  replace F_size_u := F_size_u.keep Ka8 (nin1 ne_u_b7)
  replace KP := KP.otrN Ka8 sz_b7
  replace F_values_o := F_values_o.keep Ka8 (nin1 ne_o_b7)
  replace F_switches_o := F_switches_o.keep Ka8 (nin1 ne_o_b7)
  replace F_operands_o := F_operands_o.keep Ka8 (nin1 ne_o_b7)
  replace F_elementData_u := F_elementData_u.keep Ka8 (nin1 ne_u_b7)
  replace Vt := Vt.keep Ka8 (nin1 ne_t_b7)
  replace Sx1 := Sx1.keepE Ka8 Ab7 (by decide) (X.w 27 rfl)
  replace Ao := Ao.keep Ka8
  replace Au := Au.keep Ka8
  replace Ab1 := Ab1.keep Ka8
  replace Ab4 := Ab4.keep Ka8
  replace Ab7 := Ab7.keep Ka8
  replace hsz := W.size
  replace F_modCount_b7 := F_modCount_b7'
  replace F_elementData_b7 := F_elementData_b7'
  replace F_size_b7 := F_size_b7'
  show Go _ _ _ _ _ _ _ _ _ _ (mkF m 34 #[.val (.ref o), .val (.ref u), .val .null, .val .null, .unset, .unset, .unset] [(.ref b7), (.ref o)])
  refine W.putF (host := "") (Or.inl (X.w 99 rfl)) Via.refl F_operands_o Ao (Or.inr ⟨(X.w 100 rfl), rfl, rfl⟩) (X.w 52 rfl) (ty := (.object "java/util/List")) (by decide) rfl rfl go_ (Safe.exa W.hZ.alike Ao (by decide) (by decide)) dop1_34 ?_
  intro T h W Wr9 F_operands_o'
  replace F_switches_o := F_switches_o.other Wr9 (Or.inr (slot_ne (Or.inr (X.w 96 rfl)) (Or.inr (X.w 100 rfl)) (by decide) (t := (.object "java/util/Set")) (t' := (.object "java/util/List")) (by decide) (by decide)))
  replace F_values_o := F_values_o.other Wr9 (Or.inr (slot_ne (Or.inr (X.w 75 rfl)) (Or.inr (X.w 100 rfl)) (by decide) (t := (.object "java/util/Map")) (t' := (.object "java/util/List")) (by decide) (by decide)))
  replace F_size_u := F_size_u.keep (Keep.of_wr Wr9) (nin1 (Exa.ne Au Ao (by decide)))
  replace KP := KP.otrM (Keep.of_wr Wr9) (by simp)
  replace F_elementData_u := F_elementData_u.keep (Keep.of_wr Wr9) (nin1 (Exa.ne Au Ao (by decide)))
  replace Vt := Vt.keep (Keep.of_wr Wr9) (nin1 (Ne.symm (Exa.neArv Ao Vt (X.w 52 rfl))))
  replace Sx1 := Sx1.keepE (Keep.of_wr Wr9) Ao (by decide) (X.w 52 rfl)
  replace F_modCount_b7 := F_modCount_b7.keep (Keep.of_wr Wr9) (nin1 (Ne.symm ne_o_b7))
  replace F_elementData_b7 := F_elementData_b7.keep (Keep.of_wr Wr9) (nin1 (Ne.symm ne_o_b7))
  replace F_size_b7 := F_size_b7.keep (Keep.of_wr Wr9) (nin1 (Ne.symm ne_o_b7))
  replace Ao := Ao.keep (Keep.of_wr Wr9)
  replace Au := Au.keep (Keep.of_wr Wr9)
  replace Ab1 := Ab1.keep (Keep.of_wr Wr9)
  replace Ab4 := Ab4.keep (Keep.of_wr Wr9)
  replace Ab7 := Ab7.keep (Keep.of_wr Wr9)
  replace hsz := W.size
  replace F_operands_o := F_operands_o'
  show Go _ _ _ _ _ _ _ _ _ _ (mkF m 37 #[.val (.ref o), .val (.ref u), .val .null, .val .null, .unset, .unset, .unset] [])
  refine Go.step (fun _ k => XS.iconst W.here W.hx rfl (W.d dop1_37) k) ?_
  show Go _ _ _ _ _ _ _ _ _ _ (mkF m 38 #[.val (.ref o), .val (.ref u), .val .null, .val .null, .unset, .unset, .unset] [(.int (0 : Int32))])
  refine Go.step (fun _ k => XS.istore W.here W.hx rfl (W.d dop1_38) rfl (l' := #[.val (.ref o), .val (.ref u), .val .null, .val .null, .val (.int (0 : Int32)), .unset, .unset]) rfl k) ?_
  show Go _ _ _ _ _ _ _ _ _ _ (mkF m 40 #[.val (.ref o), .val (.ref u), .val .null, .val .null, .val (.int (0 : Int32)), .unset, .unset] [])
  refine Go.step (fun _ k => XS.iload W.here W.hx rfl (W.d dop1_40) rfl k) ?_
  show Go _ _ _ _ _ _ _ _ _ _ (mkF m 42 #[.val (.ref o), .val (.ref u), .val .null, .val .null, .val (.int (0 : Int32)), .unset, .unset] [(.int (0 : Int32))])
  refine Go.step (fun _ k => XS.aloadN W.here W.hx rfl (W.d dop1_42) rfl rfl k) ?_
  show Go _ _ _ _ _ _ _ _ _ _ (mkF m 43 #[.val (.ref o), .val (.ref u), .val .null, .val .null, .val (.int (0 : Int32)), .unset, .unset] [(.ref u), (.int (0 : Int32))])
  refine W.iface (X.w 101 rfl) (X.w 102 rfl) (X.w 103 rfl) (X.w 104 rfl) (X.w 105 rfl) (X.w 106 rfl) (X.w 107 rfl) (X.w 108 rfl) (X.w 28 rfl) (X.w 109 rfl) (by decide) (c_size X u (1 : Int32) _ W.ext F_size_u) (by decide) (Wd := 1) (by decide) u Au [] [(.int (0 : Int32))] rfl pd_14 rfl rfl rfl (Nat.le_of_eq rfl) dop1_43 (by decide) (by decide) ?_
  intro v T h vm W hQ C
  obtain ⟨rfl, rfl⟩ := hQ
  show Go _ _ _ _ _ _ _ _ _ _ (mkF m 48 #[.val (.ref o), .val (.ref u), .val .null, .val .null, .val (.int (0 : Int32)), .unset, .unset] [(.int (1 : Int32)), (.int (0 : Int32))])
  refine Go.step (fun _ k => XS.icmpNo W.here W.hx rfl (W.d dop1_48) rfl (tlt (by decide : (0 : Int32) < (1 : Int32))).2.1 k) ?_
  show Go _ _ _ _ _ _ _ _ _ _ (mkF m 51 #[.val (.ref o), .val (.ref u), .val .null, .val .null, .val (.int (0 : Int32)), .unset, .unset] [])
  refine Go.step (fun _ k => XS.aloadN W.here W.hx rfl (W.d dop1_51) rfl rfl k) ?_
  show Go _ _ _ _ _ _ _ _ _ _ (mkF m 52 #[.val (.ref o), .val (.ref u), .val .null, .val .null, .val (.int (0 : Int32)), .unset, .unset] [(.ref u)])
  refine Go.step (fun _ k => XS.iload W.here W.hx rfl (W.d dop1_52) rfl k) ?_
  show Go _ _ _ _ _ _ _ _ _ _ (mkF m 54 #[.val (.ref o), .val (.ref u), .val .null, .val .null, .val (.int (0 : Int32)), .unset, .unset] [(.int (0 : Int32)), (.ref u)])
  refine W.iface (X.w 150 rfl) (X.w 151 rfl) (X.w 152 rfl) (X.w 153 rfl) (X.w 154 rfl) (X.w 155 rfl) (X.w 156 rfl) (X.w 108 rfl) (X.w 28 rfl) (X.w 157 rfl) (by decide) (c_get X u t x1 _ _ (0 : Int32) (1 : Int32) _ W.ext Au F_size_u F_elementData_u Vt (by decide) (by decide) (by decide) rfl) (by decide) (Wd := 0) (by decide) u Au [(.int (0 : Int32))] [] rfl pd_9 rfl rfl rfl (Nat.le_of_eq rfl) dop1_54 (by decide) (by decide) ?_
  intro v T h vm W hQ C
  obtain ⟨rfl, rfl⟩ := hQ
  show Go _ _ _ _ _ _ _ _ _ _ (mkF m 59 #[.val (.ref o), .val (.ref u), .val .null, .val .null, .val (.int (0 : Int32)), .unset, .unset] [(.ref x1)])
  refine W.cast (X.w 171 rfl) (Ins.self Sx1.exa) dop1_59 ?_
  intro T W
  show Go _ _ _ _ _ _ _ _ _ _ (mkF m 62 #[.val (.ref o), .val (.ref u), .val .null, .val .null, .val (.int (0 : Int32)), .unset, .unset] [(.ref x1)])
  refine Go.step (fun _ k => XS.astore W.here W.hx rfl (W.d dop1_62) rfl rfl (l' := #[.val (.ref o), .val (.ref u), .val .null, .val .null, .val (.int (0 : Int32)), .val (.ref x1), .unset]) rfl k) ?_
  show Go _ _ _ _ _ _ _ _ _ _ (mkF m 64 #[.val (.ref o), .val (.ref u), .val .null, .val .null, .val (.int (0 : Int32)), .val (.ref x1), .unset] [])
  refine Go.step (fun _ k => XS.aload W.here W.hx rfl (W.d dop1_64) rfl rfl k) ?_
  show Go _ _ _ _ _ _ _ _ _ _ (mkF m 66 #[.val (.ref o), .val (.ref u), .val .null, .val .null, .val (.int (0 : Int32)), .val (.ref x1), .unset] [(.ref x1)])
  refine W.ldcR (X.w 172 rfl) X.ws (List.mem_of_getElem? (i := 0) rfl) (vs := [(.int (45 : Int32)), (.int (45 : Int32))]) (z := 2) ⟨by decide +kernel, by decide +kernel⟩ (by decide) rfl dop1_66 (n := 8) (by decide) (by decide) (by decide) (by decide) ?_
  intro T h vm s10 qs10 ks10 W Es10 Cs10 A1s10 A2s10 A3s10 A4s10 Ns10
  replace F_size_u := F_size_u.ext Es10
  replace KP := KP.ext Es10
  replace F_values_o := F_values_o.ext Es10
  replace F_switches_o := F_switches_o.ext Es10
  replace F_operands_o := F_operands_o.ext Es10
  replace F_elementData_u := F_elementData_u.ext Es10
  replace Vt := Vt.ext Es10
  replace Sx1 := Sx1.ext Es10
  replace F_modCount_b7 := F_modCount_b7.ext Es10
  replace F_elementData_b7 := F_elementData_b7.ext Es10
  replace F_size_b7 := F_size_b7.ext Es10
  replace Ao := Ao.ext Es10
  replace Au := Au.ext Es10
  replace Ab1 := Ab1.ext Es10
  replace Ab4 := Ab4.ext Es10
  replace Ab7 := Ab7.ext Es10
  replace hsz := W.size
  have Ss10 : Str Z h s10 [(45 : Int32), (45 : Int32)] := ⟨qs10, ks10, A1s10, A3s10, A2s10, A4s10, (smS (by decide) (smS (by decide) sm0)), Nat.le_of_ble_eq_true rfl⟩
  show Go _ _ _ _ _ _ _ _ _ _ (mkF m 68 #[.val (.ref o), .val (.ref u), .val .null, .val .null, .val (.int (0 : Int32)), .val (.ref x1), .unset] [(.ref s10), (.ref x1)])
  refine W.virtual (X.w 173 rfl) (X.w 174 rfl) (notFace_of_selects (args := #[]) (mvT W.hZ (X.w 176 rfl))) (X.w 176 rfl) (X.w 175 rfl) (X.w 6 rfl) (X.w 177 rfl) (by decide) (c_swa X x1 s10 _ _ W.ext Sx1 Ss10 Nx1) (by decide) (Wd := 0) (by decide) x1 Sx1.exa [(.ref s10)] [] rfl pd_17 rfl rfl rfl (Nat.le_of_eq rfl) dop1_68 (by decide) (by decide) ?_
  intro v T h vm W hQ C
  obtain ⟨rfl, rfl⟩ := hQ
  show Go _ _ _ _ _ _ _ _ _ _ (mkF m 71 #[.val (.ref o), .val (.ref u), .val .null, .val .null, .val (.int (0 : Int32)), .val (.ref x1), .unset] [(.int (0 : Int32))])
  refine Go.step (fun _ k => XS.ifYes W.here W.hx rfl (pc0 := 71) (pc' := 83) rfl (W.d dop1_71) rfl ((if0 _ _).trans (teq (by decide : (0 : Int32) = (0 : Int32))).1) (by decide) (by decide) k) ?_
  show Go _ _ _ _ _ _ _ _ _ _ (mkF m 83 #[.val (.ref o), .val (.ref u), .val .null, .val .null, .val (.int (0 : Int32)), .val (.ref x1), .unset] [])
  refine Go.step (fun _ k => XS.aconstNull W.here W.hx rfl (W.d dop1_83) k) ?_
  show Go _ _ _ _ _ _ _ _ _ _ (mkF m 84 #[.val (.ref o), .val (.ref u), .val .null, .val .null, .val (.int (0 : Int32)), .val (.ref x1), .unset] [.null])
  refine Go.step (fun _ k => XS.astore W.here W.hx rfl (W.d dop1_84) rfl rfl (l' := #[.val (.ref o), .val (.ref u), .val .null, .val .null, .val (.int (0 : Int32)), .val (.ref x1), .val .null]) rfl k) ?_
  show Go _ _ _ _ _ _ _ _ _ _ (mkF m 86 #[.val (.ref o), .val (.ref u), .val .null, .val .null, .val (.int (0 : Int32)), .val (.ref x1), .val .null] [])
  refine Go.step (fun _ k => XS.aload W.here W.hx rfl (W.d dop1_86) rfl rfl k) ?_
  show Go _ _ _ _ _ _ _ _ _ _ (mkF m 88 #[.val (.ref o), .val (.ref u), .val .null, .val .null, .val (.int (0 : Int32)), .val (.ref x1), .val .null] [.null])
  refine Go.step (fun _ k => XS.ifnonnullNo W.here W.hx rfl (W.d dop1_88) rfl k) ?_
  show Go _ _ _ _ _ _ _ _ _ _ (mkF m 91 #[.val (.ref o), .val (.ref u), .val .null, .val .null, .val (.int (0 : Int32)), .val (.ref x1), .val .null] [])
  refine Go.step (fun _ k => XS.aloadN W.here W.hx rfl (W.d dop1_91) rfl rfl k) ?_
  show Go _ _ _ _ _ _ _ _ _ _ (mkF m 92 #[.val (.ref o), .val (.ref u), .val .null, .val .null, .val (.int (0 : Int32)), .val (.ref x1), .val .null] [(.ref o)])
  refine W.getF (host := "") (Or.inl (X.w 99 rfl)) Via.refl F_operands_o dop1_92 ?_
  intro T W
  show Go _ _ _ _ _ _ _ _ _ _ (mkF m 95 #[.val (.ref o), .val (.ref u), .val .null, .val .null, .val (.int (0 : Int32)), .val (.ref x1), .val .null] [(.ref b7)])
  refine Go.step (fun _ k => XS.aload W.here W.hx rfl (W.d dop1_95) rfl rfl k) ?_
  show Go _ _ _ _ _ _ _ _ _ _ (mkF m 97 #[.val (.ref o), .val (.ref u), .val .null, .val .null, .val (.int (0 : Int32)), .val (.ref x1), .val .null] [(.ref x1), (.ref b7)])
  refine W.iface (X.w 194 rfl) (X.w 195 rfl) (X.w 196 rfl) (X.w 197 rfl) (X.w 123 rfl) (X.w 198 rfl) (X.w 199 rfl) (X.w 108 rfl) (X.w 28 rfl) (X.w 125 rfl) (by decide) (c_add0 X b7 D x1 _ _ W.ext Y gb7 Ab7 F_modCount_b7 F_elementData_b7 F_size_b7 Sx1.exa) (by decide) (Wd := 0) (by decide) b7 Ab7 [(.ref x1)] [] rfl pd_18 rfl rfl rfl (Nat.le_of_eq rfl) dop1_97 (by decide) (by decide) ?_
  intro v T h vm W hQ C
  obtain ⟨rfl, b11, kb11, hn_b11, Kgb11, F_modCount_b7', F_elementData_b7', F_size_b7', Vb11, Ob11⟩ := hQ
  have ne_o_b11 : o ≠ b11 := Nat.ne_of_lt (Nat.lt_of_lt_of_le Ao.lt hn_b11)
  have ne_u_b11 : u ≠ b11 := Nat.ne_of_lt (Nat.lt_of_lt_of_le Au.lt hn_b11)
  have sz_b11 : h0.size ≤ b11 := Nat.le_trans KP.1 hn_b11
  have ne_t_b11 : t ≠ b11 := Nat.ne_of_lt (Nat.lt_of_lt_of_le Vt.lt hn_b11)
  have ne_x1_b11 : x1 ≠ b11 := Nat.ne_of_lt (Nat.lt_of_lt_of_le Sx1.exa.lt hn_b11)
  have ne_b1_b11 : b1 ≠ b11 := Nat.ne_of_lt (Nat.lt_of_lt_of_le Ab1.lt hn_b11)
  have ne_b4_b11 : b4 ≠ b11 := Nat.ne_of_lt (Nat.lt_of_lt_of_le Ab4.lt hn_b11)
  have ne_b7_b11 : b7 ≠ b11 := Nat.ne_of_lt (Nat.lt_of_lt_of_le Ab7.lt hn_b11)
  have ne_s10_b11 : s10 ≠ b11 := Nat.ne_of_lt (Nat.lt_of_lt_of_le Ss10.exa.lt hn_b11)
  have gb11 : Z.heap.size ≤ b11 := Nat.le_trans hsz hn_b11
  replace F_size_u := F_size_u.keep Kgb11 (nin1 ne_u_b7)
  replace KP := KP.otrN Kgb11 sz_b7
  replace F_values_o := F_values_o.keep Kgb11 (nin1 ne_o_b7)
  replace F_switches_o := F_switches_o.keep Kgb11 (nin1 ne_o_b7)
  replace F_operands_o := F_operands_o.keep Kgb11 (nin1 ne_o_b7)
  replace F_elementData_u := F_elementData_u.keep Kgb11 (nin1 ne_u_b7)
  replace Vt := Vt.keep Kgb11 (nin1 ne_t_b7)
  replace Sx1 := Sx1.keepE Kgb11 Ab7 (by decide) (X.w 27 rfl)
  replace Ss10 := Ss10.keepE Kgb11 Ab7 (by decide) (X.w 27 rfl)
  replace Ao := Ao.keep Kgb11
  replace Au := Au.keep Kgb11
  replace Ab1 := Ab1.keep Kgb11
  replace Ab4 := Ab4.keep Kgb11
  replace Ab7 := Ab7.keep Kgb11
  replace hsz := W.size
  replace F_modCount_b7 := F_modCount_b7'
  replace F_elementData_b7 := F_elementData_b7'
  replace F_size_b7 := F_size_b7'
  show Go _ _ _ _ _ _ _ _ _ _ (mkF m 102 #[.val (.ref o), .val (.ref u), .val .null, .val .null, .val (.int (0 : Int32)), .val (.ref x1), .val .null] [(.int (1 : Int32))])
  refine Go.step (fun _ k => XS.pop W.here W.hx rfl (W.d dop1_102) rfl rfl k) ?_
  show Go _ _ _ _ _ _ _ _ _ _ (mkF m 103 #[.val (.ref o), .val (.ref u), .val .null, .val .null, .val (.int (0 : Int32)), .val (.ref x1), .val .null] [])
  refine Go.step (fun _ k => XS.goto W.here W.hx rfl (pc0 := 103) (pc' := 269) rfl (W.d dop1_103) (by decide) (by decide) k) ?_
  show Go _ _ _ _ _ _ _ _ _ _ (mkF m 269 #[.val (.ref o), .val (.ref u), .val .null, .val .null, .val (.int (0 : Int32)), .val (.ref x1), .val .null] [])
  refine Go.step (fun _ k => XS.iinc W.here W.hx rfl (W.d dop1_269) rfl (l' := #[.val (.ref o), .val (.ref u), .val .null, .val .null, .val (.int (1 : Int32)), .val (.ref x1), .val .null]) rfl k) ?_
  show Go _ _ _ _ _ _ _ _ _ _ (mkF m 272 #[.val (.ref o), .val (.ref u), .val .null, .val .null, .val (.int (1 : Int32)), .val (.ref x1), .val .null] [])
  refine Go.step (fun _ k => XS.goto W.here W.hx rfl (pc0 := 272) (pc' := 40) rfl (W.d dop1_272) (by decide) (by decide) k) ?_
  show Go _ _ _ _ _ _ _ _ _ _ (mkF m 40 #[.val (.ref o), .val (.ref u), .val .null, .val .null, .val (.int (1 : Int32)), .val (.ref x1), .val .null] [])
  refine Go.step (fun _ k => XS.iload W.here W.hx rfl (W.d dop1_40) rfl k) ?_
  show Go _ _ _ _ _ _ _ _ _ _ (mkF m 42 #[.val (.ref o), .val (.ref u), .val .null, .val .null, .val (.int (1 : Int32)), .val (.ref x1), .val .null] [(.int (1 : Int32))])
  refine Go.step (fun _ k => XS.aloadN W.here W.hx rfl (W.d dop1_42) rfl rfl k) ?_
  show Go _ _ _ _ _ _ _ _ _ _ (mkF m 43 #[.val (.ref o), .val (.ref u), .val .null, .val .null, .val (.int (1 : Int32)), .val (.ref x1), .val .null] [(.ref u), (.int (1 : Int32))])
  refine W.iface (X.w 101 rfl) (X.w 102 rfl) (X.w 103 rfl) (X.w 104 rfl) (X.w 105 rfl) (X.w 106 rfl) (X.w 107 rfl) (X.w 108 rfl) (X.w 28 rfl) (X.w 109 rfl) (by decide) (c_size X u (1 : Int32) _ W.ext F_size_u) (by decide) (Wd := 1) (by decide) u Au [] [(.int (1 : Int32))] rfl pd_14 rfl rfl rfl (Nat.le_of_eq rfl) dop1_43 (by decide) (by decide) ?_
  intro v T h vm W hQ C
  obtain ⟨rfl, rfl⟩ := hQ
  show Go _ _ _ _ _ _ _ _ _ _ (mkF m 48 #[.val (.ref o), .val (.ref u), .val .null, .val .null, .val (.int (1 : Int32)), .val (.ref x1), .val .null] [(.int (1 : Int32)), (.int (1 : Int32))])
  refine Go.step (fun _ k => XS.icmpYes W.here W.hx rfl (pc0 := 48) (pc' := 275) rfl (W.d dop1_48) rfl (flt (by decide : ¬ ((1 : Int32) < (1 : Int32)))).2.1 (by decide) (by decide) k) ?_
  show Go _ _ _ _ _ _ _ _ _ _ (mkF m 275 #[.val (.ref o), .val (.ref u), .val .null, .val .null, .val (.int (1 : Int32)), .val (.ref x1), .val .null] [])
  exact W.retV dop1_275 (⟨rfl, KP, b7, F_operands_o, Ab7, F_size_b7, b11, _, F_elementData_b7, Vb11⟩) (by decide) (by decide)

theorem dop2_0 : decode prog_9_method_1_code 0 = .ok (.aload_n 0, 1) := by decide +kernel
theorem dop2_1 : decode prog_9_method_1_code 1 = .ok (.invokespecial 1, 3) := by decide +kernel
theorem dop2_4 : decode prog_9_method_1_code 4 = .ok (.aload_n 0, 1) := by decide +kernel
theorem dop2_5 : decode prog_9_method_1_code 5 = .ok (.new 7, 3) := by decide +kernel
theorem dop2_8 : decode prog_9_method_1_code 8 = .ok (.dup, 1) := by decide +kernel
theorem dop2_9 : decode prog_9_method_1_code 9 = .ok (.invokespecial 9, 3) := by decide +kernel
theorem dop2_12 : decode prog_9_method_1_code 12 = .ok (.putfield 10, 3) := by decide +kernel
theorem dop2_15 : decode prog_9_method_1_code 15 = .ok (.aload_n 0, 1) := by decide +kernel
theorem dop2_16 : decode prog_9_method_1_code 16 = .ok (.new 16, 3) := by decide +kernel
theorem dop2_19 : decode prog_9_method_1_code 19 = .ok (.dup, 1) := by decide +kernel
theorem dop2_20 : decode prog_9_method_1_code 20 = .ok (.invokespecial 18, 3) := by decide +kernel
theorem dop2_23 : decode prog_9_method_1_code 23 = .ok (.putfield 19, 3) := by decide +kernel
theorem dop2_26 : decode prog_9_method_1_code 26 = .ok (.aload_n 0, 1) := by decide +kernel
theorem dop2_27 : decode prog_9_method_1_code 27 = .ok (.new 23, 3) := by decide +kernel
theorem dop2_30 : decode prog_9_method_1_code 30 = .ok (.dup, 1) := by decide +kernel
theorem dop2_31 : decode prog_9_method_1_code 31 = .ok (.invokespecial 25, 3) := by decide +kernel
theorem dop2_34 : decode prog_9_method_1_code 34 = .ok (.putfield 26, 3) := by decide +kernel
theorem dop2_37 : decode prog_9_method_1_code 37 = .ok (.iconst 0, 1) := by decide +kernel
theorem dop2_38 : decode prog_9_method_1_code 38 = .ok (.istore 4, 2) := by decide +kernel
theorem dop2_40 : decode prog_9_method_1_code 40 = .ok (.iload 4, 2) := by decide +kernel
theorem dop2_42 : decode prog_9_method_1_code 42 = .ok (.aload_n 1, 1) := by decide +kernel
theorem dop2_43 : decode prog_9_method_1_code 43 = .ok (.invokeinterface 30 1, 5) := by decide +kernel
theorem dop2_48 : decode prog_9_method_1_code 48 = .ok (.if_icmp .ge 227, 3) := by decide +kernel
theorem dop2_51 : decode prog_9_method_1_code 51 = .ok (.aload_n 1, 1) := by decide +kernel
theorem dop2_52 : decode prog_9_method_1_code 52 = .ok (.iload 4, 2) := by decide +kernel
theorem dop2_54 : decode prog_9_method_1_code 54 = .ok (.invokeinterface 36 2, 5) := by decide +kernel
theorem dop2_59 : decode prog_9_method_1_code 59 = .ok (.checkcast 40, 3) := by decide +kernel
theorem dop2_62 : decode prog_9_method_1_code 62 = .ok (.astore 5, 2) := by decide +kernel
theorem dop2_64 : decode prog_9_method_1_code 64 = .ok (.aload 5, 2) := by decide +kernel
theorem dop2_66 : decode prog_9_method_1_code 66 = .ok (.ldc 42, 2) := by decide +kernel
theorem dop2_68 : decode prog_9_method_1_code 68 = .ok (.invokevirtual 44, 3) := by decide +kernel
theorem dop2_71 : decode prog_9_method_1_code 71 = .ok (.ifCond .eq 12, 3) := by decide +kernel
theorem dop2_83 : decode prog_9_method_1_code 83 = .ok (.aconst_null, 1) := by decide +kernel
theorem dop2_84 : decode prog_9_method_1_code 84 = .ok (.astore 6, 2) := by decide +kernel
theorem dop2_86 : decode prog_9_method_1_code 86 = .ok (.aload 6, 2) := by decide +kernel
theorem dop2_88 : decode prog_9_method_1_code 88 = .ok (.ifnonnull 18, 3) := by decide +kernel
theorem dop2_91 : decode prog_9_method_1_code 91 = .ok (.aload_n 0, 1) := by decide +kernel
theorem dop2_92 : decode prog_9_method_1_code 92 = .ok (.getfield 26, 3) := by decide +kernel
theorem dop2_95 : decode prog_9_method_1_code 95 = .ok (.aload 5, 2) := by decide +kernel
theorem dop2_97 : decode prog_9_method_1_code 97 = .ok (.invokeinterface 52 2, 5) := by decide +kernel
theorem dop2_102 : decode prog_9_method_1_code 102 = .ok (.pop, 1) := by decide +kernel
theorem dop2_103 : decode prog_9_method_1_code 103 = .ok (.goto 166, 3) := by decide +kernel
theorem dop2_269 : decode prog_9_method_1_code 269 = .ok (.iinc 4 1, 3) := by decide +kernel
theorem dop2_272 : decode prog_9_method_1_code 272 = .ok (.goto (-232), 3) := by decide +kernel
theorem dop2_275 : decode prog_9_method_1_code 275 = .ok (.return_, 1) := by decide +kernel
theorem efop2 (m : MethodId) (x0 : Addr) (x1 : Addr) : entryFrame m #[(.ref x0), (.ref x1), .null, .null] 7 = mkF m 0 #[.val (.ref x0), .val (.ref x1), .val .null, .val .null, .unset, .unset, .unset] [] := by first | (simp [entryFrame, mkF, argsToLocals, Value.category]; done) | rfl
set_option maxRecDepth 65536 in
set_option maxHeartbeats 40000000 in
theorem c_op2 {l : Launch} {Z : State} {a0 : Array Value} {G1 : Int32} (X : Ctx Z a0 G1) (o u D : Addr) (kD : ClassId) (t x1 x2 : Addr) (kt : ClassId) (cx1 cx2 : List Int32) (h0 : Heap) (hE : Ext Z.heap h0) (Y : Dft Z D kD) (go_ : Z.heap.size ≤ o) (Ao : Exa Z h0 o "com/example/hataraki/hataraki/cli/Options") (F_values_o : Fld Z h0 o "com/example/hataraki/hataraki/cli/Options" "values" "Ljava/util/Map;" .null) (F_switches_o : Fld Z h0 o "com/example/hataraki/hataraki/cli/Options" "switches" "Ljava/util/Set;" .null) (F_operands_o : Fld Z h0 o "com/example/hataraki/hataraki/cli/Options" "operands" "Ljava/util/List;" .null) (Au : Exa Z h0 u "java/util/ArrayList") (F_size_u : Fld Z h0 u "java/util/ArrayList" "size" "I" (.int (2 : Int32))) (F_elementData_u : Fld Z h0 u "java/util/ArrayList" "elementData" "[Ljava/lang/Object;" (.ref t)) (Vt : Arv Z h0 t kt (.object "java/lang/Object") (10 : Int32) [(.ref x1), (.ref x2), .null, .null, .null, .null, .null, .null, .null, .null] .null) (Sx1 : Str Z h0 x1 cx1) (Nx1 : NDD cx1) (Sx2 : Str Z h0 x2 cx2) (Nx2 : NDD cx2) :
    Con l Z consts_1 (⟨"com/example/hataraki/hataraki/cli/Options", "<init>", "(Ljava/util/List;Ljava/util/Set;Ljava/util/Set;)V"⟩ : MethodName) prog_9_method_1_code 7 none [] ({ frames := 5, cells := 9, slots := 54, locals := 69 } : Room) #[(.ref o), (.ref u), .null, .null] h0 (fun v h => v = none ∧ Keep h0 h [o] ∧ ∃ r : Addr, Fld Z h o "com/example/hataraki/hataraki/cli/Options" "operands" "Ljava/util/List;" (.ref r) ∧ Exa Z h r "java/util/ArrayList" ∧ Fld Z h r "java/util/ArrayList" "size" "I" (.int (2 : Int32)) ∧ ∃ (w : Addr) (kw : ClassId), Fld Z h r "java/util/ArrayList" "elementData" "[Ljava/lang/Object;" (.ref w) ∧ Arv Z h w kw (.object "java/lang/Object") (10 : Int32) [(.ref x1), (.ref x2), .null, .null, .null, .null, .null, .null, .null, .null] .null) := by
  refine Con.intro (plainFor_of_name pn_13) hE X.el ?_
  intro p e s m below meth c T W
  have hsz := W.size
  refine Go.cast (efop2 m o u) ?_
  have KP := Keep.refl h0 [o]
  refine Go.step (fun _ k => XS.aloadN W.here W.hx rfl (W.d dop2_0) rfl rfl k) ?_
  show Go _ _ _ _ _ _ _ _ _ _ (mkF m 1 #[.val (.ref o), .val (.ref u), .val .null, .val .null, .unset, .unset, .unset] [(.ref o)])
  refine W.initO (X.w 57 rfl) (X.w 16 rfl) (X.w 17 rfl) rfl dop2_1 (by decide) (Wd := 0) (Nat.le_of_eq rfl) (by decide) ?_
  intro T W
  show Go _ _ _ _ _ _ _ _ _ _ (mkF m 4 #[.val (.ref o), .val (.ref u), .val .null, .val .null, .unset, .unset, .unset] [])
  refine Go.step (fun _ k => XS.aloadN W.here W.hx rfl (W.d dop2_4) rfl rfl k) ?_
  show Go _ _ _ _ _ _ _ _ _ _ (mkF m 5 #[.val (.ref o), .val (.ref u), .val .null, .val .null, .unset, .unset, .unset] [(.ref o)])
  refine W.new (X.w 58 rfl) (X.w 59 rfl) (X.w 60 rfl) dop2_5 (by decide) (by decide) ?_
  intro T h b1 hb1 W Eb1 Ab1 Db1
  have ne_o_b1 : o ≠ b1 := by rw [hb1]; exact Nat.ne_of_lt Ao.lt
  have ne_u_b1 : u ≠ b1 := by rw [hb1]; exact Nat.ne_of_lt Au.lt
  have sz_b1 : h0.size ≤ b1 := by rw [hb1]; exact KP.1
  have ne_t_b1 : t ≠ b1 := by rw [hb1]; exact Nat.ne_of_lt Vt.lt
  have ne_x1_b1 : x1 ≠ b1 := by rw [hb1]; exact Nat.ne_of_lt Sx1.exa.lt
  have ne_x2_b1 : x2 ≠ b1 := by rw [hb1]; exact Nat.ne_of_lt Sx2.exa.lt
  have gb1 : Z.heap.size ≤ b1 := by rw [hb1]; exact hsz
  replace F_size_u := F_size_u.ext Eb1
  replace KP := KP.ext Eb1
  replace F_values_o := F_values_o.ext Eb1
  replace F_switches_o := F_switches_o.ext Eb1
  replace F_operands_o := F_operands_o.ext Eb1
  replace F_elementData_u := F_elementData_u.ext Eb1
  replace Vt := Vt.ext Eb1
  replace Sx1 := Sx1.ext Eb1
  replace Sx2 := Sx2.ext Eb1
  replace Ao := Ao.ext Eb1
  replace Au := Au.ext Eb1
  replace hsz := W.size
  have F_loadFactor_b1 : Fld Z h b1 "java/util/HashMap" "loadFactor" "F" (.float (0 : UInt32)) := Db1 (Or.inr (X.w 73 rfl)) (ty := .float) (by decide)
  show Go _ _ _ _ _ _ _ _ _ _ (mkF m 8 #[.val (.ref o), .val (.ref u), .val .null, .val .null, .unset, .unset, .unset] [(.ref b1), (.ref o)])
  refine Go.step (fun _ k => XS.dup W.here W.hx rfl (W.d dop2_8) rfl rfl k) ?_
  show Go _ _ _ _ _ _ _ _ _ _ (mkF m 9 #[.val (.ref o), .val (.ref u), .val .null, .val .null, .unset, .unset, .unset] [(.ref b1), (.ref b1), (.ref o)])
  refine W.special rfl (X.w 61 rfl) (X.w 62 rfl) (X.w 60 rfl) (X.w 63 rfl) (by decide) (c_hmi X b1 _ W.ext gb1 Ab1 F_loadFactor_b1) (by decide) (Wd := 2) (by decide) b1 [] [(.ref b1), (.ref o)] rfl pd_6 rfl rfl rfl (Nat.le_of_eq rfl) dop2_9 (by decide) (by decide) ?_
  intro v T h vm W hQ C
  obtain ⟨rfl, Ka2⟩ := hQ
  replace F_size_u := F_size_u.keep Ka2 (nin1 ne_u_b1)
  replace KP := KP.otrN Ka2 sz_b1
  replace F_values_o := F_values_o.keep Ka2 (nin1 ne_o_b1)
  replace F_switches_o := F_switches_o.keep Ka2 (nin1 ne_o_b1)
  replace F_operands_o := F_operands_o.keep Ka2 (nin1 ne_o_b1)
  replace F_elementData_u := F_elementData_u.keep Ka2 (nin1 ne_u_b1)
  replace Vt := Vt.keep Ka2 (nin1 ne_t_b1)
  replace Sx1 := Sx1.keepE Ka2 Ab1 (by decide) (X.w 59 rfl)
  replace Sx2 := Sx2.keepE Ka2 Ab1 (by decide) (X.w 59 rfl)
  replace Ao := Ao.keep Ka2
  replace Au := Au.keep Ka2
  replace Ab1 := Ab1.keep Ka2
  replace hsz := W.size
  show Go _ _ _ _ _ _ _ _ _ _ (mkF m 12 #[.val (.ref o), .val (.ref u), .val .null, .val .null, .unset, .unset, .unset] [(.ref b1), (.ref o)])
  refine W.putF (host := "") (Or.inl (X.w 74 rfl)) Via.refl F_values_o Ao (Or.inr ⟨(X.w 75 rfl), rfl, rfl⟩) (X.w 52 rfl) (ty := (.object "java/util/Map")) (by decide) rfl rfl go_ (Safe.exa W.hZ.alike Ao (by decide) (by decide)) dop2_12 ?_
  intro T h W Wr3 F_values_o'
  replace F_operands_o := F_operands_o.other Wr3 (Or.inr (slot_ne (Or.inr (X.w 100 rfl)) (Or.inr (X.w 75 rfl)) (by decide) (t := (.object "java/util/List")) (t' := (.object "java/util/Map")) (by decide) (by decide)))
  replace F_switches_o := F_switches_o.other Wr3 (Or.inr (slot_ne (Or.inr (X.w 96 rfl)) (Or.inr (X.w 75 rfl)) (by decide) (t := (.object "java/util/Set")) (t' := (.object "java/util/Map")) (by decide) (by decide)))
  replace F_size_u := F_size_u.keep (Keep.of_wr Wr3) (nin1 (Exa.ne Au Ao (by decide)))
  replace KP := KP.otrM (Keep.of_wr Wr3) (by simp)
  replace F_elementData_u := F_elementData_u.keep (Keep.of_wr Wr3) (nin1 (Exa.ne Au Ao (by decide)))
  replace Vt := Vt.keep (Keep.of_wr Wr3) (nin1 (Ne.symm (Exa.neArv Ao Vt (X.w 52 rfl))))
  replace Sx1 := Sx1.keepE (Keep.of_wr Wr3) Ao (by decide) (X.w 52 rfl)
  replace Sx2 := Sx2.keepE (Keep.of_wr Wr3) Ao (by decide) (X.w 52 rfl)
  replace Ao := Ao.keep (Keep.of_wr Wr3)
  replace Au := Au.keep (Keep.of_wr Wr3)
  replace Ab1 := Ab1.keep (Keep.of_wr Wr3)
  replace hsz := W.size
  replace F_values_o := F_values_o'
  show Go _ _ _ _ _ _ _ _ _ _ (mkF m 15 #[.val (.ref o), .val (.ref u), .val .null, .val .null, .unset, .unset, .unset] [])
  refine Go.step (fun _ k => XS.aloadN W.here W.hx rfl (W.d dop2_15) rfl rfl k) ?_
  show Go _ _ _ _ _ _ _ _ _ _ (mkF m 16 #[.val (.ref o), .val (.ref u), .val .null, .val .null, .unset, .unset, .unset] [(.ref o)])
  refine W.new (X.w 76 rfl) (X.w 77 rfl) (X.w 78 rfl) dop2_16 (by decide) (by decide) ?_
  intro T h b4 hb4 W Eb4 Ab4 Db4
  have ne_o_b4 : o ≠ b4 := by rw [hb4]; exact Nat.ne_of_lt Ao.lt
  have ne_u_b4 : u ≠ b4 := by rw [hb4]; exact Nat.ne_of_lt Au.lt
  have sz_b4 : h0.size ≤ b4 := by rw [hb4]; exact KP.1
  have ne_t_b4 : t ≠ b4 := by rw [hb4]; exact Nat.ne_of_lt Vt.lt
  have ne_x1_b4 : x1 ≠ b4 := by rw [hb4]; exact Nat.ne_of_lt Sx1.exa.lt
  have ne_x2_b4 : x2 ≠ b4 := by rw [hb4]; exact Nat.ne_of_lt Sx2.exa.lt
  have ne_b1_b4 : b1 ≠ b4 := by rw [hb4]; exact Nat.ne_of_lt Ab1.lt
  have gb4 : Z.heap.size ≤ b4 := by rw [hb4]; exact hsz
  replace F_size_u := F_size_u.ext Eb4
  replace KP := KP.ext Eb4
  replace F_values_o := F_values_o.ext Eb4
  replace F_switches_o := F_switches_o.ext Eb4
  replace F_operands_o := F_operands_o.ext Eb4
  replace F_elementData_u := F_elementData_u.ext Eb4
  replace Vt := Vt.ext Eb4
  replace Sx1 := Sx1.ext Eb4
  replace Sx2 := Sx2.ext Eb4
  replace Ao := Ao.ext Eb4
  replace Au := Au.ext Eb4
  replace Ab1 := Ab1.ext Eb4
  replace hsz := W.size
  have F_map_b4 : Fld Z h b4 "java/util/HashSet" "map" "Ljava/util/HashMap;" .null := Db4 (Or.inl (X.w 94 rfl)) (ty := (.object "java/util/HashMap")) (by decide)
  show Go _ _ _ _ _ _ _ _ _ _ (mkF m 19 #[.val (.ref o), .val (.ref u), .val .null, .val .null, .unset, .unset, .unset] [(.ref b4), (.ref o)])
  refine Go.step (fun _ k => XS.dup W.here W.hx rfl (W.d dop2_19) rfl rfl k) ?_
  show Go _ _ _ _ _ _ _ _ _ _ (mkF m 20 #[.val (.ref o), .val (.ref u), .val .null, .val .null, .unset, .unset, .unset] [(.ref b4), (.ref b4), (.ref o)])
  refine W.special rfl (X.w 79 rfl) (X.w 80 rfl) (X.w 78 rfl) (X.w 81 rfl) (by decide) (c_hsi X b4 _ W.ext gb4 Ab4 F_map_b4) (by decide) (Wd := 2) (by decide) b4 [] [(.ref b4), (.ref o)] rfl pd_6 rfl rfl rfl (Nat.le_of_eq rfl) dop2_20 (by decide) (by decide) ?_
  intro v T h vm W hQ C
  obtain ⟨rfl, Ka5⟩ := hQ
  replace F_size_u := F_size_u.keep Ka5 (nin1 ne_u_b4)
  replace KP := KP.otrN Ka5 sz_b4
  replace F_values_o := F_values_o.keep Ka5 (nin1 ne_o_b4)
  replace F_switches_o := F_switches_o.keep Ka5 (nin1 ne_o_b4)
  replace F_operands_o := F_operands_o.keep Ka5 (nin1 ne_o_b4)
  replace F_elementData_u := F_elementData_u.keep Ka5 (nin1 ne_u_b4)
  replace Vt := Vt.keep Ka5 (nin1 ne_t_b4)
  replace Sx1 := Sx1.keepE Ka5 Ab4 (by decide) (X.w 77 rfl)
  replace Sx2 := Sx2.keepE Ka5 Ab4 (by decide) (X.w 77 rfl)
  replace Ao := Ao.keep Ka5
  replace Au := Au.keep Ka5
  replace Ab1 := Ab1.keep Ka5
  replace Ab4 := Ab4.keep Ka5
  replace hsz := W.size
  show Go _ _ _ _ _ _ _ _ _ _ (mkF m 23 #[.val (.ref o), .val (.ref u), .val .null, .val .null, .unset, .unset, .unset] [(.ref b4), (.ref o)])
  refine W.putF (host := "") (Or.inl (X.w 95 rfl)) Via.refl F_switches_o Ao (Or.inr ⟨(X.w 96 rfl), rfl, rfl⟩) (X.w 52 rfl) (ty := (.object "java/util/Set")) (by decide) rfl rfl go_ (Safe.exa W.hZ.alike Ao (by decide) (by decide)) dop2_23 ?_
  intro T h W Wr6 F_switches_o'
  replace F_operands_o := F_operands_o.other Wr6 (Or.inr (slot_ne (Or.inr (X.w 100 rfl)) (Or.inr (X.w 96 rfl)) (by decide) (t := (.object "java/util/List")) (t' := (.object "java/util/Set")) (by decide) (by decide)))
  replace F_values_o := F_values_o.other Wr6 (Or.inr (slot_ne (Or.inr (X.w 75 rfl)) (Or.inr (X.w 96 rfl)) (by decide) (t := (.object "java/util/Map")) (t' := (.object "java/util/Set")) (by decide) (by decide)))
  replace F_size_u := F_size_u.keep (Keep.of_wr Wr6) (nin1 (Exa.ne Au Ao (by decide)))
  replace KP := KP.otrM (Keep.of_wr Wr6) (by simp)
  replace F_elementData_u := F_elementData_u.keep (Keep.of_wr Wr6) (nin1 (Exa.ne Au Ao (by decide)))
  replace Vt := Vt.keep (Keep.of_wr Wr6) (nin1 (Ne.symm (Exa.neArv Ao Vt (X.w 52 rfl))))
  replace Sx1 := Sx1.keepE (Keep.of_wr Wr6) Ao (by decide) (X.w 52 rfl)
  replace Sx2 := Sx2.keepE (Keep.of_wr Wr6) Ao (by decide) (X.w 52 rfl)
  replace Ao := Ao.keep (Keep.of_wr Wr6)
  replace Au := Au.keep (Keep.of_wr Wr6)
  replace Ab1 := Ab1.keep (Keep.of_wr Wr6)
  replace Ab4 := Ab4.keep (Keep.of_wr Wr6)
  replace hsz := W.size
  replace F_switches_o := F_switches_o'
  show Go _ _ _ _ _ _ _ _ _ _ (mkF m 26 #[.val (.ref o), .val (.ref u), .val .null, .val .null, .unset, .unset, .unset] [])
  refine Go.step (fun _ k => XS.aloadN W.here W.hx rfl (W.d dop2_26) rfl rfl k) ?_
  show Go _ _ _ _ _ _ _ _ _ _ (mkF m 27 #[.val (.ref o), .val (.ref u), .val .null, .val .null, .unset, .unset, .unset] [(.ref o)])
  refine W.new (X.w 97 rfl) (X.w 27 rfl) (X.w 28 rfl) dop2_27 (by decide) (by decide) ?_
  intro T h b7 hb7 W Eb7 Ab7 Db7
  have ne_o_b7 : o ≠ b7 := by rw [hb7]; exact Nat.ne_of_lt Ao.lt
  have ne_u_b7 : u ≠ b7 := by rw [hb7]; exact Nat.ne_of_lt Au.lt
  have sz_b7 : h0.size ≤ b7 := by rw [hb7]; exact KP.1
  have ne_t_b7 : t ≠ b7 := by rw [hb7]; exact Nat.ne_of_lt Vt.lt
  have ne_x1_b7 : x1 ≠ b7 := by rw [hb7]; exact Nat.ne_of_lt Sx1.exa.lt
  have ne_x2_b7 : x2 ≠ b7 := by rw [hb7]; exact Nat.ne_of_lt Sx2.exa.lt
  have ne_b1_b7 : b1 ≠ b7 := by rw [hb7]; exact Nat.ne_of_lt Ab1.lt
  have ne_b4_b7 : b4 ≠ b7 := by rw [hb7]; exact Nat.ne_of_lt Ab4.lt
  have gb7 : Z.heap.size ≤ b7 := by rw [hb7]; exact hsz
  replace F_size_u := F_size_u.ext Eb7
  replace KP := KP.ext Eb7
  replace F_values_o := F_values_o.ext Eb7
  replace F_switches_o := F_switches_o.ext Eb7
  replace F_operands_o := F_operands_o.ext Eb7
  replace F_elementData_u := F_elementData_u.ext Eb7
  replace Vt := Vt.ext Eb7
  replace Sx1 := Sx1.ext Eb7
  replace Sx2 := Sx2.ext Eb7
  replace Ao := Ao.ext Eb7
  replace Au := Au.ext Eb7
  replace Ab1 := Ab1.ext Eb7
  replace Ab4 := Ab4.ext Eb7
  replace hsz := W.size
  have F_modCount_b7 : Fld Z h b7 "java/util/AbstractList" "modCount" "I" (.int (0 : Int32)) := Db7 (Or.inl (X.w 46 rfl)) (ty := .int) (by decide)
  have F_elementData_b7 : Fld Z h b7 "java/util/ArrayList" "elementData" "[Ljava/lang/Object;" .null := Db7 (Or.inl (X.w 49 rfl)) (ty := (.array (.object "java/lang/Object"))) (by decide)
  have F_size_b7 : Fld Z h b7 "java/util/ArrayList" "size" "I" (.int (0 : Int32)) := Db7 (Or.inl (X.w 111 rfl)) (ty := .int) (by decide)
  show Go _ _ _ _ _ _ _ _ _ _ (mkF m 30 #[.val (.ref o), .val (.ref u), .val .null, .val .null, .unset, .unset, .unset] [(.ref b7), (.ref o)])
  refine Go.step (fun _ k => XS.dup W.here W.hx rfl (W.d dop2_30) rfl rfl k) ?_
  show Go _ _ _ _ _ _ _ _ _ _ (mkF m 31 #[.val (.ref o), .val (.ref u), .val .null, .val .null, .unset, .unset, .unset] [(.ref b7), (.ref b7), (.ref o)])
  refine W.special rfl (X.w 98 rfl) (X.w 30 rfl) (X.w 28 rfl) (X.w 31 rfl) (by decide) (c_ali X b7 D _ _ W.ext Y gb7 Ab7 F_modCount_b7 F_elementData_b7 F_size_b7) (by decide) (Wd := 2) (by decide) b7 [] [(.ref b7), (.ref o)] rfl pd_6 rfl rfl rfl (Nat.le_of_eq rfl) dop2_31 (by decide) (by decide) ?_
  intro v T h vm W hQ C
  obtain ⟨rfl, Ka8, F_modCount_b7', F_elementData_b7', F_size_b7'⟩ := hQ
  replace F_size_u := F_size_u.keep Ka8 (nin1 ne_u_b7)
  replace KP := KP.otrN Ka8 sz_b7
  replace F_values_o := F_values_o.keep Ka8 (nin1 ne_o_b7)
  replace F_switches_o := F_switches_o.keep Ka8 (nin1 ne_o_b7)
  replace F_operands_o := F_operands_o.keep Ka8 (nin1 ne_o_b7)
  replace F_elementData_u := F_elementData_u.keep Ka8 (nin1 ne_u_b7)
  replace Vt := Vt.keep Ka8 (nin1 ne_t_b7)
  replace Sx1 := Sx1.keepE Ka8 Ab7 (by decide) (X.w 27 rfl)
  replace Sx2 := Sx2.keepE Ka8 Ab7 (by decide) (X.w 27 rfl)
  replace Ao := Ao.keep Ka8
  replace Au := Au.keep Ka8
  replace Ab1 := Ab1.keep Ka8
  replace Ab4 := Ab4.keep Ka8
  replace Ab7 := Ab7.keep Ka8
  replace hsz := W.size
  replace F_modCount_b7 := F_modCount_b7'
  replace F_elementData_b7 := F_elementData_b7'
  replace F_size_b7 := F_size_b7'
  show Go _ _ _ _ _ _ _ _ _ _ (mkF m 34 #[.val (.ref o), .val (.ref u), .val .null, .val .null, .unset, .unset, .unset] [(.ref b7), (.ref o)])
  refine W.putF (host := "") (Or.inl (X.w 99 rfl)) Via.refl F_operands_o Ao (Or.inr ⟨(X.w 100 rfl), rfl, rfl⟩) (X.w 52 rfl) (ty := (.object "java/util/List")) (by decide) rfl rfl go_ (Safe.exa W.hZ.alike Ao (by decide) (by decide)) dop2_34 ?_
  intro T h W Wr9 F_operands_o'
  replace F_switches_o := F_switches_o.other Wr9 (Or.inr (slot_ne (Or.inr (X.w 96 rfl)) (Or.inr (X.w 100 rfl)) (by decide) (t := (.object "java/util/Set")) (t' := (.object "java/util/List")) (by decide) (by decide)))
  replace F_values_o := F_values_o.other Wr9 (Or.inr (slot_ne (Or.inr (X.w 75 rfl)) (Or.inr (X.w 100 rfl)) (by decide) (t := (.object "java/util/Map")) (t' := (.object "java/util/List")) (by decide) (by decide)))
  replace F_size_u := F_size_u.keep (Keep.of_wr Wr9) (nin1 (Exa.ne Au Ao (by decide)))
  replace KP := KP.otrM (Keep.of_wr Wr9) (by simp)
  replace F_elementData_u := F_elementData_u.keep (Keep.of_wr Wr9) (nin1 (Exa.ne Au Ao (by decide)))
  replace Vt := Vt.keep (Keep.of_wr Wr9) (nin1 (Ne.symm (Exa.neArv Ao Vt (X.w 52 rfl))))
  replace Sx1 := Sx1.keepE (Keep.of_wr Wr9) Ao (by decide) (X.w 52 rfl)
  replace Sx2 := Sx2.keepE (Keep.of_wr Wr9) Ao (by decide) (X.w 52 rfl)
  replace F_modCount_b7 := F_modCount_b7.keep (Keep.of_wr Wr9) (nin1 (Ne.symm ne_o_b7))
  replace F_elementData_b7 := F_elementData_b7.keep (Keep.of_wr Wr9) (nin1 (Ne.symm ne_o_b7))
  replace F_size_b7 := F_size_b7.keep (Keep.of_wr Wr9) (nin1 (Ne.symm ne_o_b7))
  replace Ao := Ao.keep (Keep.of_wr Wr9)
  replace Au := Au.keep (Keep.of_wr Wr9)
  replace Ab1 := Ab1.keep (Keep.of_wr Wr9)
  replace Ab4 := Ab4.keep (Keep.of_wr Wr9)
  replace Ab7 := Ab7.keep (Keep.of_wr Wr9)
  replace hsz := W.size
  replace F_operands_o := F_operands_o'
  show Go _ _ _ _ _ _ _ _ _ _ (mkF m 37 #[.val (.ref o), .val (.ref u), .val .null, .val .null, .unset, .unset, .unset] [])
  refine Go.step (fun _ k => XS.iconst W.here W.hx rfl (W.d dop2_37) k) ?_
  show Go _ _ _ _ _ _ _ _ _ _ (mkF m 38 #[.val (.ref o), .val (.ref u), .val .null, .val .null, .unset, .unset, .unset] [(.int (0 : Int32))])
  refine Go.step (fun _ k => XS.istore W.here W.hx rfl (W.d dop2_38) rfl (l' := #[.val (.ref o), .val (.ref u), .val .null, .val .null, .val (.int (0 : Int32)), .unset, .unset]) rfl k) ?_
  show Go _ _ _ _ _ _ _ _ _ _ (mkF m 40 #[.val (.ref o), .val (.ref u), .val .null, .val .null, .val (.int (0 : Int32)), .unset, .unset] [])
  refine Go.step (fun _ k => XS.iload W.here W.hx rfl (W.d dop2_40) rfl k) ?_
  show Go _ _ _ _ _ _ _ _ _ _ (mkF m 42 #[.val (.ref o), .val (.ref u), .val .null, .val .null, .val (.int (0 : Int32)), .unset, .unset] [(.int (0 : Int32))])
  refine Go.step (fun _ k => XS.aloadN W.here W.hx rfl (W.d dop2_42) rfl rfl k) ?_
  show Go _ _ _ _ _ _ _ _ _ _ (mkF m 43 #[.val (.ref o), .val (.ref u), .val .null, .val .null, .val (.int (0 : Int32)), .unset, .unset] [(.ref u), (.int (0 : Int32))])
  refine W.iface (X.w 101 rfl) (X.w 102 rfl) (X.w 103 rfl) (X.w 104 rfl) (X.w 105 rfl) (X.w 106 rfl) (X.w 107 rfl) (X.w 108 rfl) (X.w 28 rfl) (X.w 109 rfl) (by decide) (c_size X u (2 : Int32) _ W.ext F_size_u) (by decide) (Wd := 1) (by decide) u Au [] [(.int (0 : Int32))] rfl pd_14 rfl rfl rfl (Nat.le_of_eq rfl) dop2_43 (by decide) (by decide) ?_
  intro v T h vm W hQ C
  obtain ⟨rfl, rfl⟩ := hQ
  show Go _ _ _ _ _ _ _ _ _ _ (mkF m 48 #[.val (.ref o), .val (.ref u), .val .null, .val .null, .val (.int (0 : Int32)), .unset, .unset] [(.int (2 : Int32)), (.int (0 : Int32))])
  refine Go.step (fun _ k => XS.icmpNo W.here W.hx rfl (W.d dop2_48) rfl (tlt (by decide : (0 : Int32) < (2 : Int32))).2.1 k) ?_
  show Go _ _ _ _ _ _ _ _ _ _ (mkF m 51 #[.val (.ref o), .val (.ref u), .val .null, .val .null, .val (.int (0 : Int32)), .unset, .unset] [])
  refine Go.step (fun _ k => XS.aloadN W.here W.hx rfl (W.d dop2_51) rfl rfl k) ?_
  show Go _ _ _ _ _ _ _ _ _ _ (mkF m 52 #[.val (.ref o), .val (.ref u), .val .null, .val .null, .val (.int (0 : Int32)), .unset, .unset] [(.ref u)])
  refine Go.step (fun _ k => XS.iload W.here W.hx rfl (W.d dop2_52) rfl k) ?_
  show Go _ _ _ _ _ _ _ _ _ _ (mkF m 54 #[.val (.ref o), .val (.ref u), .val .null, .val .null, .val (.int (0 : Int32)), .unset, .unset] [(.int (0 : Int32)), (.ref u)])
  refine W.iface (X.w 150 rfl) (X.w 151 rfl) (X.w 152 rfl) (X.w 153 rfl) (X.w 154 rfl) (X.w 155 rfl) (X.w 156 rfl) (X.w 108 rfl) (X.w 28 rfl) (X.w 157 rfl) (by decide) (c_get X u t x1 _ _ (0 : Int32) (2 : Int32) _ W.ext Au F_size_u F_elementData_u Vt (by decide) (by decide) (by decide) rfl) (by decide) (Wd := 0) (by decide) u Au [(.int (0 : Int32))] [] rfl pd_9 rfl rfl rfl (Nat.le_of_eq rfl) dop2_54 (by decide) (by decide) ?_
  intro v T h vm W hQ C
  obtain ⟨rfl, rfl⟩ := hQ
  show Go _ _ _ _ _ _ _ _ _ _ (mkF m 59 #[.val (.ref o), .val (.ref u), .val .null, .val .null, .val (.int (0 : Int32)), .unset, .unset] [(.ref x1)])
  refine W.cast (X.w 171 rfl) (Ins.self Sx1.exa) dop2_59 ?_
  intro T W
  show Go _ _ _ _ _ _ _ _ _ _ (mkF m 62 #[.val (.ref o), .val (.ref u), .val .null, .val .null, .val (.int (0 : Int32)), .unset, .unset] [(.ref x1)])
  refine Go.step (fun _ k => XS.astore W.here W.hx rfl (W.d dop2_62) rfl rfl (l' := #[.val (.ref o), .val (.ref u), .val .null, .val .null, .val (.int (0 : Int32)), .val (.ref x1), .unset]) rfl k) ?_
  show Go _ _ _ _ _ _ _ _ _ _ (mkF m 64 #[.val (.ref o), .val (.ref u), .val .null, .val .null, .val (.int (0 : Int32)), .val (.ref x1), .unset] [])
  refine Go.step (fun _ k => XS.aload W.here W.hx rfl (W.d dop2_64) rfl rfl k) ?_
  show Go _ _ _ _ _ _ _ _ _ _ (mkF m 66 #[.val (.ref o), .val (.ref u), .val .null, .val .null, .val (.int (0 : Int32)), .val (.ref x1), .unset] [(.ref x1)])
  refine W.ldcR (X.w 172 rfl) X.ws (List.mem_of_getElem? (i := 0) rfl) (vs := [(.int (45 : Int32)), (.int (45 : Int32))]) (z := 2) ⟨by decide +kernel, by decide +kernel⟩ (by decide) rfl dop2_66 (n := 8) (by decide) (by decide) (by decide) (by decide) ?_
  intro T h vm s10 qs10 ks10 W Es10 Cs10 A1s10 A2s10 A3s10 A4s10 Ns10
  replace F_size_u := F_size_u.ext Es10
  replace KP := KP.ext Es10
  replace F_values_o := F_values_o.ext Es10
  replace F_switches_o := F_switches_o.ext Es10
  replace F_operands_o := F_operands_o.ext Es10
  replace F_elementData_u := F_elementData_u.ext Es10
  replace Vt := Vt.ext Es10
  replace Sx1 := Sx1.ext Es10
  replace Sx2 := Sx2.ext Es10
  replace F_modCount_b7 := F_modCount_b7.ext Es10
  replace F_elementData_b7 := F_elementData_b7.ext Es10
  replace F_size_b7 := F_size_b7.ext Es10
  replace Ao := Ao.ext Es10
  replace Au := Au.ext Es10
  replace Ab1 := Ab1.ext Es10
  replace Ab4 := Ab4.ext Es10
  replace Ab7 := Ab7.ext Es10
  replace hsz := W.size
  have Ss10 : Str Z h s10 [(45 : Int32), (45 : Int32)] := ⟨qs10, ks10, A1s10, A3s10, A2s10, A4s10, (smS (by decide) (smS (by decide) sm0)), Nat.le_of_ble_eq_true rfl⟩
  show Go _ _ _ _ _ _ _ _ _ _ (mkF m 68 #[.val (.ref o), .val (.ref u), .val .null, .val .null, .val (.int (0 : Int32)), .val (.ref x1), .unset] [(.ref s10), (.ref x1)])
  refine W.virtual (X.w 173 rfl) (X.w 174 rfl) (notFace_of_selects (args := #[]) (mvT W.hZ (X.w 176 rfl))) (X.w 176 rfl) (X.w 175 rfl) (X.w 6 rfl) (X.w 177 rfl) (by decide) (c_swa X x1 s10 _ _ W.ext Sx1 Ss10 Nx1) (by decide) (Wd := 0) (by decide) x1 Sx1.exa [(.ref s10)] [] rfl pd_17 rfl rfl rfl (Nat.le_of_eq rfl) dop2_68 (by decide) (by decide) ?_
  intro v T h vm W hQ C
  obtain ⟨rfl, rfl⟩ := hQ
  show Go _ _ _ _ _ _ _ _ _ _ (mkF m 71 #[.val (.ref o), .val (.ref u), .val .null, .val .null, .val (.int (0 : Int32)), .val (.ref x1), .unset] [(.int (0 : Int32))])
  refine Go.step (fun _ k => XS.ifYes W.here W.hx rfl (pc0 := 71) (pc' := 83) rfl (W.d dop2_71) rfl ((if0 _ _).trans (teq (by decide : (0 : Int32) = (0 : Int32))).1) (by decide) (by decide) k) ?_
  show Go _ _ _ _ _ _ _ _ _ _ (mkF m 83 #[.val (.ref o), .val (.ref u), .val .null, .val .null, .val (.int (0 : Int32)), .val (.ref x1), .unset] [])
  refine Go.step (fun _ k => XS.aconstNull W.here W.hx rfl (W.d dop2_83) k) ?_
  show Go _ _ _ _ _ _ _ _ _ _ (mkF m 84 #[.val (.ref o), .val (.ref u), .val .null, .val .null, .val (.int (0 : Int32)), .val (.ref x1), .unset] [.null])
  refine Go.step (fun _ k => XS.astore W.here W.hx rfl (W.d dop2_84) rfl rfl (l' := #[.val (.ref o), .val (.ref u), .val .null, .val .null, .val (.int (0 : Int32)), .val (.ref x1), .val .null]) rfl k) ?_
  show Go _ _ _ _ _ _ _ _ _ _ (mkF m 86 #[.val (.ref o), .val (.ref u), .val .null, .val .null, .val (.int (0 : Int32)), .val (.ref x1), .val .null] [])
  refine Go.step (fun _ k => XS.aload W.here W.hx rfl (W.d dop2_86) rfl rfl k) ?_
  show Go _ _ _ _ _ _ _ _ _ _ (mkF m 88 #[.val (.ref o), .val (.ref u), .val .null, .val .null, .val (.int (0 : Int32)), .val (.ref x1), .val .null] [.null])
  refine Go.step (fun _ k => XS.ifnonnullNo W.here W.hx rfl (W.d dop2_88) rfl k) ?_
  show Go _ _ _ _ _ _ _ _ _ _ (mkF m 91 #[.val (.ref o), .val (.ref u), .val .null, .val .null, .val (.int (0 : Int32)), .val (.ref x1), .val .null] [])
  refine Go.step (fun _ k => XS.aloadN W.here W.hx rfl (W.d dop2_91) rfl rfl k) ?_
  show Go _ _ _ _ _ _ _ _ _ _ (mkF m 92 #[.val (.ref o), .val (.ref u), .val .null, .val .null, .val (.int (0 : Int32)), .val (.ref x1), .val .null] [(.ref o)])
  refine W.getF (host := "") (Or.inl (X.w 99 rfl)) Via.refl F_operands_o dop2_92 ?_
  intro T W
  show Go _ _ _ _ _ _ _ _ _ _ (mkF m 95 #[.val (.ref o), .val (.ref u), .val .null, .val .null, .val (.int (0 : Int32)), .val (.ref x1), .val .null] [(.ref b7)])
  refine Go.step (fun _ k => XS.aload W.here W.hx rfl (W.d dop2_95) rfl rfl k) ?_
  show Go _ _ _ _ _ _ _ _ _ _ (mkF m 97 #[.val (.ref o), .val (.ref u), .val .null, .val .null, .val (.int (0 : Int32)), .val (.ref x1), .val .null] [(.ref x1), (.ref b7)])
  refine W.iface (X.w 194 rfl) (X.w 195 rfl) (X.w 196 rfl) (X.w 197 rfl) (X.w 123 rfl) (X.w 198 rfl) (X.w 199 rfl) (X.w 108 rfl) (X.w 28 rfl) (X.w 125 rfl) (by decide) (c_add0 X b7 D x1 _ _ W.ext Y gb7 Ab7 F_modCount_b7 F_elementData_b7 F_size_b7 Sx1.exa) (by decide) (Wd := 0) (by decide) b7 Ab7 [(.ref x1)] [] rfl pd_18 rfl rfl rfl (Nat.le_of_eq rfl) dop2_97 (by decide) (by decide) ?_
  intro v T h vm W hQ C
  obtain ⟨rfl, b11, kb11, hn_b11, Kgb11, F_modCount_b7', F_elementData_b7', F_size_b7', Vb11, Ob11⟩ := hQ
  have ne_o_b11 : o ≠ b11 := Nat.ne_of_lt (Nat.lt_of_lt_of_le Ao.lt hn_b11)
  have ne_u_b11 : u ≠ b11 := Nat.ne_of_lt (Nat.lt_of_lt_of_le Au.lt hn_b11)
  have sz_b11 : h0.size ≤ b11 := Nat.le_trans KP.1 hn_b11
  have ne_t_b11 : t ≠ b11 := Nat.ne_of_lt (Nat.lt_of_lt_of_le Vt.lt hn_b11)
  have ne_x1_b11 : x1 ≠ b11 := Nat.ne_of_lt (Nat.lt_of_lt_of_le Sx1.exa.lt hn_b11)
  have ne_x2_b11 : x2 ≠ b11 := Nat.ne_of_lt (Nat.lt_of_lt_of_le Sx2.exa.lt hn_b11)
  have ne_b1_b11 : b1 ≠ b11 := Nat.ne_of_lt (Nat.lt_of_lt_of_le Ab1.lt hn_b11)
  have ne_b4_b11 : b4 ≠ b11 := Nat.ne_of_lt (Nat.lt_of_lt_of_le Ab4.lt hn_b11)
  have ne_b7_b11 : b7 ≠ b11 := Nat.ne_of_lt (Nat.lt_of_lt_of_le Ab7.lt hn_b11)
  have ne_s10_b11 : s10 ≠ b11 := Nat.ne_of_lt (Nat.lt_of_lt_of_le Ss10.exa.lt hn_b11)
  have gb11 : Z.heap.size ≤ b11 := Nat.le_trans hsz hn_b11
  replace F_size_u := F_size_u.keep Kgb11 (nin1 ne_u_b7)
  replace KP := KP.otrN Kgb11 sz_b7
  replace F_values_o := F_values_o.keep Kgb11 (nin1 ne_o_b7)
  replace F_switches_o := F_switches_o.keep Kgb11 (nin1 ne_o_b7)
  replace F_operands_o := F_operands_o.keep Kgb11 (nin1 ne_o_b7)
  replace F_elementData_u := F_elementData_u.keep Kgb11 (nin1 ne_u_b7)
  replace Vt := Vt.keep Kgb11 (nin1 ne_t_b7)
  replace Sx1 := Sx1.keepE Kgb11 Ab7 (by decide) (X.w 27 rfl)
  replace Sx2 := Sx2.keepE Kgb11 Ab7 (by decide) (X.w 27 rfl)
  replace Ss10 := Ss10.keepE Kgb11 Ab7 (by decide) (X.w 27 rfl)
  replace Ao := Ao.keep Kgb11
  replace Au := Au.keep Kgb11
  replace Ab1 := Ab1.keep Kgb11
  replace Ab4 := Ab4.keep Kgb11
  replace Ab7 := Ab7.keep Kgb11
  replace hsz := W.size
  replace F_modCount_b7 := F_modCount_b7'
  replace F_elementData_b7 := F_elementData_b7'
  replace F_size_b7 := F_size_b7'
  show Go _ _ _ _ _ _ _ _ _ _ (mkF m 102 #[.val (.ref o), .val (.ref u), .val .null, .val .null, .val (.int (0 : Int32)), .val (.ref x1), .val .null] [(.int (1 : Int32))])
  refine Go.step (fun _ k => XS.pop W.here W.hx rfl (W.d dop2_102) rfl rfl k) ?_
  show Go _ _ _ _ _ _ _ _ _ _ (mkF m 103 #[.val (.ref o), .val (.ref u), .val .null, .val .null, .val (.int (0 : Int32)), .val (.ref x1), .val .null] [])
  refine Go.step (fun _ k => XS.goto W.here W.hx rfl (pc0 := 103) (pc' := 269) rfl (W.d dop2_103) (by decide) (by decide) k) ?_
  show Go _ _ _ _ _ _ _ _ _ _ (mkF m 269 #[.val (.ref o), .val (.ref u), .val .null, .val .null, .val (.int (0 : Int32)), .val (.ref x1), .val .null] [])
  refine Go.step (fun _ k => XS.iinc W.here W.hx rfl (W.d dop2_269) rfl (l' := #[.val (.ref o), .val (.ref u), .val .null, .val .null, .val (.int (1 : Int32)), .val (.ref x1), .val .null]) rfl k) ?_
  show Go _ _ _ _ _ _ _ _ _ _ (mkF m 272 #[.val (.ref o), .val (.ref u), .val .null, .val .null, .val (.int (1 : Int32)), .val (.ref x1), .val .null] [])
  refine Go.step (fun _ k => XS.goto W.here W.hx rfl (pc0 := 272) (pc' := 40) rfl (W.d dop2_272) (by decide) (by decide) k) ?_
  show Go _ _ _ _ _ _ _ _ _ _ (mkF m 40 #[.val (.ref o), .val (.ref u), .val .null, .val .null, .val (.int (1 : Int32)), .val (.ref x1), .val .null] [])
  refine Go.step (fun _ k => XS.iload W.here W.hx rfl (W.d dop2_40) rfl k) ?_
  show Go _ _ _ _ _ _ _ _ _ _ (mkF m 42 #[.val (.ref o), .val (.ref u), .val .null, .val .null, .val (.int (1 : Int32)), .val (.ref x1), .val .null] [(.int (1 : Int32))])
  refine Go.step (fun _ k => XS.aloadN W.here W.hx rfl (W.d dop2_42) rfl rfl k) ?_
  show Go _ _ _ _ _ _ _ _ _ _ (mkF m 43 #[.val (.ref o), .val (.ref u), .val .null, .val .null, .val (.int (1 : Int32)), .val (.ref x1), .val .null] [(.ref u), (.int (1 : Int32))])
  refine W.iface (X.w 101 rfl) (X.w 102 rfl) (X.w 103 rfl) (X.w 104 rfl) (X.w 105 rfl) (X.w 106 rfl) (X.w 107 rfl) (X.w 108 rfl) (X.w 28 rfl) (X.w 109 rfl) (by decide) (c_size X u (2 : Int32) _ W.ext F_size_u) (by decide) (Wd := 1) (by decide) u Au [] [(.int (1 : Int32))] rfl pd_14 rfl rfl rfl (Nat.le_of_eq rfl) dop2_43 (by decide) (by decide) ?_
  intro v T h vm W hQ C
  obtain ⟨rfl, rfl⟩ := hQ
  show Go _ _ _ _ _ _ _ _ _ _ (mkF m 48 #[.val (.ref o), .val (.ref u), .val .null, .val .null, .val (.int (1 : Int32)), .val (.ref x1), .val .null] [(.int (2 : Int32)), (.int (1 : Int32))])
  refine Go.step (fun _ k => XS.icmpNo W.here W.hx rfl (W.d dop2_48) rfl (tlt (by decide : (1 : Int32) < (2 : Int32))).2.1 k) ?_
  show Go _ _ _ _ _ _ _ _ _ _ (mkF m 51 #[.val (.ref o), .val (.ref u), .val .null, .val .null, .val (.int (1 : Int32)), .val (.ref x1), .val .null] [])
  refine Go.step (fun _ k => XS.aloadN W.here W.hx rfl (W.d dop2_51) rfl rfl k) ?_
  show Go _ _ _ _ _ _ _ _ _ _ (mkF m 52 #[.val (.ref o), .val (.ref u), .val .null, .val .null, .val (.int (1 : Int32)), .val (.ref x1), .val .null] [(.ref u)])
  refine Go.step (fun _ k => XS.iload W.here W.hx rfl (W.d dop2_52) rfl k) ?_
  show Go _ _ _ _ _ _ _ _ _ _ (mkF m 54 #[.val (.ref o), .val (.ref u), .val .null, .val .null, .val (.int (1 : Int32)), .val (.ref x1), .val .null] [(.int (1 : Int32)), (.ref u)])
  refine W.iface (X.w 150 rfl) (X.w 151 rfl) (X.w 152 rfl) (X.w 153 rfl) (X.w 154 rfl) (X.w 155 rfl) (X.w 156 rfl) (X.w 108 rfl) (X.w 28 rfl) (X.w 157 rfl) (by decide) (c_get X u t x2 _ _ (1 : Int32) (2 : Int32) _ W.ext Au F_size_u F_elementData_u Vt (by decide) (by decide) (by decide) rfl) (by decide) (Wd := 0) (by decide) u Au [(.int (1 : Int32))] [] rfl pd_9 rfl rfl rfl (Nat.le_of_eq rfl) dop2_54 (by decide) (by decide) ?_
  intro v T h vm W hQ C
  obtain ⟨rfl, rfl⟩ := hQ
  show Go _ _ _ _ _ _ _ _ _ _ (mkF m 59 #[.val (.ref o), .val (.ref u), .val .null, .val .null, .val (.int (1 : Int32)), .val (.ref x1), .val .null] [(.ref x2)])
  refine W.cast (X.w 171 rfl) (Ins.self Sx2.exa) dop2_59 ?_
  intro T W
  show Go _ _ _ _ _ _ _ _ _ _ (mkF m 62 #[.val (.ref o), .val (.ref u), .val .null, .val .null, .val (.int (1 : Int32)), .val (.ref x1), .val .null] [(.ref x2)])
  refine Go.step (fun _ k => XS.astore W.here W.hx rfl (W.d dop2_62) rfl rfl (l' := #[.val (.ref o), .val (.ref u), .val .null, .val .null, .val (.int (1 : Int32)), .val (.ref x2), .val .null]) rfl k) ?_
  show Go _ _ _ _ _ _ _ _ _ _ (mkF m 64 #[.val (.ref o), .val (.ref u), .val .null, .val .null, .val (.int (1 : Int32)), .val (.ref x2), .val .null] [])
  refine Go.step (fun _ k => XS.aload W.here W.hx rfl (W.d dop2_64) rfl rfl k) ?_
  show Go _ _ _ _ _ _ _ _ _ _ (mkF m 66 #[.val (.ref o), .val (.ref u), .val .null, .val .null, .val (.int (1 : Int32)), .val (.ref x2), .val .null] [(.ref x2)])
  refine W.ldcR (X.w 172 rfl) X.ws (List.mem_of_getElem? (i := 0) rfl) (vs := [(.int (45 : Int32)), (.int (45 : Int32))]) (z := 2) ⟨by decide +kernel, by decide +kernel⟩ (by decide) rfl dop2_66 (n := 8) (by decide) (by decide) (by decide) (by decide) ?_
  intro T h vm s12 qs12 ks12 W Es12 Cs12 A1s12 A2s12 A3s12 A4s12 Ns12
  replace F_size_u := F_size_u.ext Es12
  replace KP := KP.ext Es12
  replace F_values_o := F_values_o.ext Es12
  replace F_switches_o := F_switches_o.ext Es12
  replace F_operands_o := F_operands_o.ext Es12
  replace F_elementData_u := F_elementData_u.ext Es12
  replace Vt := Vt.ext Es12
  replace Sx1 := Sx1.ext Es12
  replace Sx2 := Sx2.ext Es12
  replace F_modCount_b7 := F_modCount_b7.ext Es12
  replace F_elementData_b7 := F_elementData_b7.ext Es12
  replace F_size_b7 := F_size_b7.ext Es12
  replace Ss10 := Ss10.ext Es12
  replace Vb11 := Vb11.ext Es12
  replace Ao := Ao.ext Es12
  replace Au := Au.ext Es12
  replace Ab1 := Ab1.ext Es12
  replace Ab4 := Ab4.ext Es12
  replace Ab7 := Ab7.ext Es12
  replace hsz := W.size
  have Ss12 : Str Z h s12 [(45 : Int32), (45 : Int32)] := ⟨qs12, ks12, A1s12, A3s12, A2s12, A4s12, (smS (by decide) (smS (by decide) sm0)), Nat.le_of_ble_eq_true rfl⟩
  show Go _ _ _ _ _ _ _ _ _ _ (mkF m 68 #[.val (.ref o), .val (.ref u), .val .null, .val .null, .val (.int (1 : Int32)), .val (.ref x2), .val .null] [(.ref s12), (.ref x2)])
  refine W.virtual (X.w 173 rfl) (X.w 174 rfl) (notFace_of_selects (args := #[]) (mvT W.hZ (X.w 176 rfl))) (X.w 176 rfl) (X.w 175 rfl) (X.w 6 rfl) (X.w 177 rfl) (by decide) (c_swa X x2 s12 _ _ W.ext Sx2 Ss12 Nx2) (by decide) (Wd := 0) (by decide) x2 Sx2.exa [(.ref s12)] [] rfl pd_17 rfl rfl rfl (Nat.le_of_eq rfl) dop2_68 (by decide) (by decide) ?_
  intro v T h vm W hQ C
  obtain ⟨rfl, rfl⟩ := hQ
  show Go _ _ _ _ _ _ _ _ _ _ (mkF m 71 #[.val (.ref o), .val (.ref u), .val .null, .val .null, .val (.int (1 : Int32)), .val (.ref x2), .val .null] [(.int (0 : Int32))])
  refine Go.step (fun _ k => XS.ifYes W.here W.hx rfl (pc0 := 71) (pc' := 83) rfl (W.d dop2_71) rfl ((if0 _ _).trans (teq (by decide : (0 : Int32) = (0 : Int32))).1) (by decide) (by decide) k) ?_
  show Go _ _ _ _ _ _ _ _ _ _ (mkF m 83 #[.val (.ref o), .val (.ref u), .val .null, .val .null, .val (.int (1 : Int32)), .val (.ref x2), .val .null] [])
  refine Go.step (fun _ k => XS.aconstNull W.here W.hx rfl (W.d dop2_83) k) ?_
  show Go _ _ _ _ _ _ _ _ _ _ (mkF m 84 #[.val (.ref o), .val (.ref u), .val .null, .val .null, .val (.int (1 : Int32)), .val (.ref x2), .val .null] [.null])
  refine Go.step (fun _ k => XS.astore W.here W.hx rfl (W.d dop2_84) rfl rfl (l' := #[.val (.ref o), .val (.ref u), .val .null, .val .null, .val (.int (1 : Int32)), .val (.ref x2), .val .null]) rfl k) ?_
  show Go _ _ _ _ _ _ _ _ _ _ (mkF m 86 #[.val (.ref o), .val (.ref u), .val .null, .val .null, .val (.int (1 : Int32)), .val (.ref x2), .val .null] [])
  refine Go.step (fun _ k => XS.aload W.here W.hx rfl (W.d dop2_86) rfl rfl k) ?_
  show Go _ _ _ _ _ _ _ _ _ _ (mkF m 88 #[.val (.ref o), .val (.ref u), .val .null, .val .null, .val (.int (1 : Int32)), .val (.ref x2), .val .null] [.null])
  refine Go.step (fun _ k => XS.ifnonnullNo W.here W.hx rfl (W.d dop2_88) rfl k) ?_
  show Go _ _ _ _ _ _ _ _ _ _ (mkF m 91 #[.val (.ref o), .val (.ref u), .val .null, .val .null, .val (.int (1 : Int32)), .val (.ref x2), .val .null] [])
  refine Go.step (fun _ k => XS.aloadN W.here W.hx rfl (W.d dop2_91) rfl rfl k) ?_
  show Go _ _ _ _ _ _ _ _ _ _ (mkF m 92 #[.val (.ref o), .val (.ref u), .val .null, .val .null, .val (.int (1 : Int32)), .val (.ref x2), .val .null] [(.ref o)])
  refine W.getF (host := "") (Or.inl (X.w 99 rfl)) Via.refl F_operands_o dop2_92 ?_
  intro T W
  show Go _ _ _ _ _ _ _ _ _ _ (mkF m 95 #[.val (.ref o), .val (.ref u), .val .null, .val .null, .val (.int (1 : Int32)), .val (.ref x2), .val .null] [(.ref b7)])
  refine Go.step (fun _ k => XS.aload W.here W.hx rfl (W.d dop2_95) rfl rfl k) ?_
  show Go _ _ _ _ _ _ _ _ _ _ (mkF m 97 #[.val (.ref o), .val (.ref u), .val .null, .val .null, .val (.int (1 : Int32)), .val (.ref x2), .val .null] [(.ref x2), (.ref b7)])
  refine W.iface (X.w 194 rfl) (X.w 195 rfl) (X.w 196 rfl) (X.w 197 rfl) (X.w 123 rfl) (X.w 198 rfl) (X.w 199 rfl) (X.w 108 rfl) (X.w 28 rfl) (X.w 125 rfl) (by decide) (c_add1 X b7 D b11 x2 x1 _ _ _ W.ext Y gb7 Ab7 F_modCount_b7 F_elementData_b7 F_size_b7 gb11 Vb11 Ob11 ne_b7_b11 Sx2.exa) (by decide) (Wd := 0) (by decide) b7 Ab7 [(.ref x2)] [] rfl pd_18 rfl rfl rfl (Nat.le_of_eq rfl) dop2_97 (by decide) (by decide) ?_
  intro v T h vm W hQ C
  obtain ⟨rfl, Kg13, F_modCount_b7', F_elementData_b7', F_size_b7', Vb11'⟩ := hQ
  replace F_size_u := F_size_u.keep Kg13 (ninS ne_u_b7 (ninS ne_u_b11 nin0))
  replace KP := KP.trans Kg13 (fun x hx => by simp only [List.mem_cons, List.not_mem_nil, or_false] at hx; rcases hx with rfl | rfl; exact Or.inr sz_b7; exact Or.inr sz_b11)
  replace F_values_o := F_values_o.keep Kg13 (ninS ne_o_b7 (ninS ne_o_b11 nin0))
  replace F_switches_o := F_switches_o.keep Kg13 (ninS ne_o_b7 (ninS ne_o_b11 nin0))
  replace F_operands_o := F_operands_o.keep Kg13 (ninS ne_o_b7 (ninS ne_o_b11 nin0))
  replace F_elementData_u := F_elementData_u.keep Kg13 (ninS ne_u_b7 (ninS ne_u_b11 nin0))
  replace Vt := Vt.keep Kg13 (ninS ne_t_b7 (ninS ne_t_b11 nin0))
  replace Sx1 := Sx1.keepL Kg13 Ab7 Vb11 (by decide) (by decide) (X.w 27 rfl) (X.w 5 rfl)
  replace Sx2 := Sx2.keepL Kg13 Ab7 Vb11 (by decide) (by decide) (X.w 27 rfl) (X.w 5 rfl)
  replace Ss10 := Ss10.keepL Kg13 Ab7 Vb11 (by decide) (by decide) (X.w 27 rfl) (X.w 5 rfl)
  replace Ss12 := Ss12.keepL Kg13 Ab7 Vb11 (by decide) (by decide) (X.w 27 rfl) (X.w 5 rfl)
  replace Ao := Ao.keep Kg13
  replace Au := Au.keep Kg13
  replace Ab1 := Ab1.keep Kg13
  replace Ab4 := Ab4.keep Kg13
  replace Ab7 := Ab7.keep Kg13
  replace hsz := W.size
  replace Vb11 := Vb11'
  replace F_modCount_b7 := F_modCount_b7'
  replace F_elementData_b7 := F_elementData_b7'
  replace F_size_b7 := F_size_b7'
  show Go _ _ _ _ _ _ _ _ _ _ (mkF m 102 #[.val (.ref o), .val (.ref u), .val .null, .val .null, .val (.int (1 : Int32)), .val (.ref x2), .val .null] [(.int (1 : Int32))])
  refine Go.step (fun _ k => XS.pop W.here W.hx rfl (W.d dop2_102) rfl rfl k) ?_
  show Go _ _ _ _ _ _ _ _ _ _ (mkF m 103 #[.val (.ref o), .val (.ref u), .val .null, .val .null, .val (.int (1 : Int32)), .val (.ref x2), .val .null] [])
  refine Go.step (fun _ k => XS.goto W.here W.hx rfl (pc0 := 103) (pc' := 269) rfl (W.d dop2_103) (by decide) (by decide) k) ?_
  show Go _ _ _ _ _ _ _ _ _ _ (mkF m 269 #[.val (.ref o), .val (.ref u), .val .null, .val .null, .val (.int (1 : Int32)), .val (.ref x2), .val .null] [])
  refine Go.step (fun _ k => XS.iinc W.here W.hx rfl (W.d dop2_269) rfl (l' := #[.val (.ref o), .val (.ref u), .val .null, .val .null, .val (.int (2 : Int32)), .val (.ref x2), .val .null]) rfl k) ?_
  show Go _ _ _ _ _ _ _ _ _ _ (mkF m 272 #[.val (.ref o), .val (.ref u), .val .null, .val .null, .val (.int (2 : Int32)), .val (.ref x2), .val .null] [])
  refine Go.step (fun _ k => XS.goto W.here W.hx rfl (pc0 := 272) (pc' := 40) rfl (W.d dop2_272) (by decide) (by decide) k) ?_
  show Go _ _ _ _ _ _ _ _ _ _ (mkF m 40 #[.val (.ref o), .val (.ref u), .val .null, .val .null, .val (.int (2 : Int32)), .val (.ref x2), .val .null] [])
  refine Go.step (fun _ k => XS.iload W.here W.hx rfl (W.d dop2_40) rfl k) ?_
  show Go _ _ _ _ _ _ _ _ _ _ (mkF m 42 #[.val (.ref o), .val (.ref u), .val .null, .val .null, .val (.int (2 : Int32)), .val (.ref x2), .val .null] [(.int (2 : Int32))])
  refine Go.step (fun _ k => XS.aloadN W.here W.hx rfl (W.d dop2_42) rfl rfl k) ?_
  show Go _ _ _ _ _ _ _ _ _ _ (mkF m 43 #[.val (.ref o), .val (.ref u), .val .null, .val .null, .val (.int (2 : Int32)), .val (.ref x2), .val .null] [(.ref u), (.int (2 : Int32))])
  refine W.iface (X.w 101 rfl) (X.w 102 rfl) (X.w 103 rfl) (X.w 104 rfl) (X.w 105 rfl) (X.w 106 rfl) (X.w 107 rfl) (X.w 108 rfl) (X.w 28 rfl) (X.w 109 rfl) (by decide) (c_size X u (2 : Int32) _ W.ext F_size_u) (by decide) (Wd := 1) (by decide) u Au [] [(.int (2 : Int32))] rfl pd_14 rfl rfl rfl (Nat.le_of_eq rfl) dop2_43 (by decide) (by decide) ?_
  intro v T h vm W hQ C
  obtain ⟨rfl, rfl⟩ := hQ
  show Go _ _ _ _ _ _ _ _ _ _ (mkF m 48 #[.val (.ref o), .val (.ref u), .val .null, .val .null, .val (.int (2 : Int32)), .val (.ref x2), .val .null] [(.int (2 : Int32)), (.int (2 : Int32))])
  refine Go.step (fun _ k => XS.icmpYes W.here W.hx rfl (pc0 := 48) (pc' := 275) rfl (W.d dop2_48) rfl (flt (by decide : ¬ ((2 : Int32) < (2 : Int32)))).2.1 (by decide) (by decide) k) ?_
  show Go _ _ _ _ _ _ _ _ _ _ (mkF m 275 #[.val (.ref o), .val (.ref u), .val .null, .val .null, .val (.int (2 : Int32)), .val (.ref x2), .val .null] [])
  exact W.retV dop2_275 (⟨rfl, KP, b7, F_operands_o, Ab7, F_size_b7, b11, _, F_elementData_b7, Vb11⟩) (by decide) (by decide)

theorem dop3_0 : decode prog_9_method_1_code 0 = .ok (.aload_n 0, 1) := by decide +kernel
theorem dop3_1 : decode prog_9_method_1_code 1 = .ok (.invokespecial 1, 3) := by decide +kernel
theorem dop3_4 : decode prog_9_method_1_code 4 = .ok (.aload_n 0, 1) := by decide +kernel
theorem dop3_5 : decode prog_9_method_1_code 5 = .ok (.new 7, 3) := by decide +kernel
theorem dop3_8 : decode prog_9_method_1_code 8 = .ok (.dup, 1) := by decide +kernel
theorem dop3_9 : decode prog_9_method_1_code 9 = .ok (.invokespecial 9, 3) := by decide +kernel
theorem dop3_12 : decode prog_9_method_1_code 12 = .ok (.putfield 10, 3) := by decide +kernel
theorem dop3_15 : decode prog_9_method_1_code 15 = .ok (.aload_n 0, 1) := by decide +kernel
theorem dop3_16 : decode prog_9_method_1_code 16 = .ok (.new 16, 3) := by decide +kernel
theorem dop3_19 : decode prog_9_method_1_code 19 = .ok (.dup, 1) := by decide +kernel
theorem dop3_20 : decode prog_9_method_1_code 20 = .ok (.invokespecial 18, 3) := by decide +kernel
theorem dop3_23 : decode prog_9_method_1_code 23 = .ok (.putfield 19, 3) := by decide +kernel
theorem dop3_26 : decode prog_9_method_1_code 26 = .ok (.aload_n 0, 1) := by decide +kernel
theorem dop3_27 : decode prog_9_method_1_code 27 = .ok (.new 23, 3) := by decide +kernel
theorem dop3_30 : decode prog_9_method_1_code 30 = .ok (.dup, 1) := by decide +kernel
theorem dop3_31 : decode prog_9_method_1_code 31 = .ok (.invokespecial 25, 3) := by decide +kernel
theorem dop3_34 : decode prog_9_method_1_code 34 = .ok (.putfield 26, 3) := by decide +kernel
theorem dop3_37 : decode prog_9_method_1_code 37 = .ok (.iconst 0, 1) := by decide +kernel
theorem dop3_38 : decode prog_9_method_1_code 38 = .ok (.istore 4, 2) := by decide +kernel
theorem dop3_40 : decode prog_9_method_1_code 40 = .ok (.iload 4, 2) := by decide +kernel
theorem dop3_42 : decode prog_9_method_1_code 42 = .ok (.aload_n 1, 1) := by decide +kernel
theorem dop3_43 : decode prog_9_method_1_code 43 = .ok (.invokeinterface 30 1, 5) := by decide +kernel
theorem dop3_48 : decode prog_9_method_1_code 48 = .ok (.if_icmp .ge 227, 3) := by decide +kernel
theorem dop3_51 : decode prog_9_method_1_code 51 = .ok (.aload_n 1, 1) := by decide +kernel
theorem dop3_52 : decode prog_9_method_1_code 52 = .ok (.iload 4, 2) := by decide +kernel
theorem dop3_54 : decode prog_9_method_1_code 54 = .ok (.invokeinterface 36 2, 5) := by decide +kernel
theorem dop3_59 : decode prog_9_method_1_code 59 = .ok (.checkcast 40, 3) := by decide +kernel
theorem dop3_62 : decode prog_9_method_1_code 62 = .ok (.astore 5, 2) := by decide +kernel
theorem dop3_64 : decode prog_9_method_1_code 64 = .ok (.aload 5, 2) := by decide +kernel
theorem dop3_66 : decode prog_9_method_1_code 66 = .ok (.ldc 42, 2) := by decide +kernel
theorem dop3_68 : decode prog_9_method_1_code 68 = .ok (.invokevirtual 44, 3) := by decide +kernel
theorem dop3_71 : decode prog_9_method_1_code 71 = .ok (.ifCond .eq 12, 3) := by decide +kernel
theorem dop3_83 : decode prog_9_method_1_code 83 = .ok (.aconst_null, 1) := by decide +kernel
theorem dop3_84 : decode prog_9_method_1_code 84 = .ok (.astore 6, 2) := by decide +kernel
theorem dop3_86 : decode prog_9_method_1_code 86 = .ok (.aload 6, 2) := by decide +kernel
theorem dop3_88 : decode prog_9_method_1_code 88 = .ok (.ifnonnull 18, 3) := by decide +kernel
theorem dop3_91 : decode prog_9_method_1_code 91 = .ok (.aload_n 0, 1) := by decide +kernel
theorem dop3_92 : decode prog_9_method_1_code 92 = .ok (.getfield 26, 3) := by decide +kernel
theorem dop3_95 : decode prog_9_method_1_code 95 = .ok (.aload 5, 2) := by decide +kernel
theorem dop3_97 : decode prog_9_method_1_code 97 = .ok (.invokeinterface 52 2, 5) := by decide +kernel
theorem dop3_102 : decode prog_9_method_1_code 102 = .ok (.pop, 1) := by decide +kernel
theorem dop3_103 : decode prog_9_method_1_code 103 = .ok (.goto 166, 3) := by decide +kernel
theorem dop3_269 : decode prog_9_method_1_code 269 = .ok (.iinc 4 1, 3) := by decide +kernel
theorem dop3_272 : decode prog_9_method_1_code 272 = .ok (.goto (-232), 3) := by decide +kernel
theorem dop3_275 : decode prog_9_method_1_code 275 = .ok (.return_, 1) := by decide +kernel
theorem efop3 (m : MethodId) (x0 : Addr) (x1 : Addr) : entryFrame m #[(.ref x0), (.ref x1), .null, .null] 7 = mkF m 0 #[.val (.ref x0), .val (.ref x1), .val .null, .val .null, .unset, .unset, .unset] [] := by first | (simp [entryFrame, mkF, argsToLocals, Value.category]; done) | rfl
set_option maxRecDepth 65536 in
set_option maxHeartbeats 40000000 in
theorem c_op3 {l : Launch} {Z : State} {a0 : Array Value} {G1 : Int32} (X : Ctx Z a0 G1) (o u D : Addr) (kD : ClassId) (t x1 x2 x3 : Addr) (kt : ClassId) (cx1 cx2 cx3 : List Int32) (h0 : Heap) (hE : Ext Z.heap h0) (Y : Dft Z D kD) (go_ : Z.heap.size ≤ o) (Ao : Exa Z h0 o "com/example/hataraki/hataraki/cli/Options") (F_values_o : Fld Z h0 o "com/example/hataraki/hataraki/cli/Options" "values" "Ljava/util/Map;" .null) (F_switches_o : Fld Z h0 o "com/example/hataraki/hataraki/cli/Options" "switches" "Ljava/util/Set;" .null) (F_operands_o : Fld Z h0 o "com/example/hataraki/hataraki/cli/Options" "operands" "Ljava/util/List;" .null) (Au : Exa Z h0 u "java/util/ArrayList") (F_size_u : Fld Z h0 u "java/util/ArrayList" "size" "I" (.int (3 : Int32))) (F_elementData_u : Fld Z h0 u "java/util/ArrayList" "elementData" "[Ljava/lang/Object;" (.ref t)) (Vt : Arv Z h0 t kt (.object "java/lang/Object") (10 : Int32) [(.ref x1), (.ref x2), (.ref x3), .null, .null, .null, .null, .null, .null, .null] .null) (Sx1 : Str Z h0 x1 cx1) (Nx1 : NDD cx1) (Sx2 : Str Z h0 x2 cx2) (Nx2 : NDD cx2) (Sx3 : Str Z h0 x3 cx3) (Nx3 : NDD cx3) :
    Con l Z consts_1 (⟨"com/example/hataraki/hataraki/cli/Options", "<init>", "(Ljava/util/List;Ljava/util/Set;Ljava/util/Set;)V"⟩ : MethodName) prog_9_method_1_code 7 none [] ({ frames := 5, cells := 11, slots := 66, locals := 69 } : Room) #[(.ref o), (.ref u), .null, .null] h0 (fun v h => v = none ∧ Keep h0 h [o] ∧ ∃ r : Addr, Fld Z h o "com/example/hataraki/hataraki/cli/Options" "operands" "Ljava/util/List;" (.ref r) ∧ Exa Z h r "java/util/ArrayList" ∧ Fld Z h r "java/util/ArrayList" "size" "I" (.int (3 : Int32)) ∧ ∃ (w : Addr) (kw : ClassId), Fld Z h r "java/util/ArrayList" "elementData" "[Ljava/lang/Object;" (.ref w) ∧ Arv Z h w kw (.object "java/lang/Object") (10 : Int32) [(.ref x1), (.ref x2), (.ref x3), .null, .null, .null, .null, .null, .null, .null] .null) := by
  refine Con.intro (plainFor_of_name pn_13) hE X.el ?_
  intro p e s m below meth c T W
  have hsz := W.size
  refine Go.cast (efop3 m o u) ?_
  have KP := Keep.refl h0 [o]
  refine Go.step (fun _ k => XS.aloadN W.here W.hx rfl (W.d dop3_0) rfl rfl k) ?_
  show Go _ _ _ _ _ _ _ _ _ _ (mkF m 1 #[.val (.ref o), .val (.ref u), .val .null, .val .null, .unset, .unset, .unset] [(.ref o)])
  refine W.initO (X.w 57 rfl) (X.w 16 rfl) (X.w 17 rfl) rfl dop3_1 (by decide) (Wd := 0) (Nat.le_of_eq rfl) (by decide) ?_
  intro T W
  show Go _ _ _ _ _ _ _ _ _ _ (mkF m 4 #[.val (.ref o), .val (.ref u), .val .null, .val .null, .unset, .unset, .unset] [])
  refine Go.step (fun _ k => XS.aloadN W.here W.hx rfl (W.d dop3_4) rfl rfl k) ?_
  show Go _ _ _ _ _ _ _ _ _ _ (mkF m 5 #[.val (.ref o), .val (.ref u), .val .null, .val .null, .unset, .unset, .unset] [(.ref o)])
  refine W.new (X.w 58 rfl) (X.w 59 rfl) (X.w 60 rfl) dop3_5 (by decide) (by decide) ?_
  intro T h b1 hb1 W Eb1 Ab1 Db1
  have ne_o_b1 : o ≠ b1 := by rw [hb1]; exact Nat.ne_of_lt Ao.lt
  have ne_u_b1 : u ≠ b1 := by rw [hb1]; exact Nat.ne_of_lt Au.lt
  have sz_b1 : h0.size ≤ b1 := by rw [hb1]; exact KP.1
  have ne_t_b1 : t ≠ b1 := by rw [hb1]; exact Nat.ne_of_lt Vt.lt
  have ne_x1_b1 : x1 ≠ b1 := by rw [hb1]; exact Nat.ne_of_lt Sx1.exa.lt
  have ne_x2_b1 : x2 ≠ b1 := by rw [hb1]; exact Nat.ne_of_lt Sx2.exa.lt
  have ne_x3_b1 : x3 ≠ b1 := by rw [hb1]; exact Nat.ne_of_lt Sx3.exa.lt
  have gb1 : Z.heap.size ≤ b1 := by rw [hb1]; exact hsz
  replace F_size_u := F_size_u.ext Eb1
  replace KP := KP.ext Eb1
  replace F_values_o := F_values_o.ext Eb1
  replace F_switches_o := F_switches_o.ext Eb1
  replace F_operands_o := F_operands_o.ext Eb1
  replace F_elementData_u := F_elementData_u.ext Eb1
  replace Vt := Vt.ext Eb1
  replace Sx1 := Sx1.ext Eb1
  replace Sx2 := Sx2.ext Eb1
  replace Sx3 := Sx3.ext Eb1
  replace Ao := Ao.ext Eb1
  replace Au := Au.ext Eb1
  replace hsz := W.size
  have F_loadFactor_b1 : Fld Z h b1 "java/util/HashMap" "loadFactor" "F" (.float (0 : UInt32)) := Db1 (Or.inr (X.w 73 rfl)) (ty := .float) (by decide)
  show Go _ _ _ _ _ _ _ _ _ _ (mkF m 8 #[.val (.ref o), .val (.ref u), .val .null, .val .null, .unset, .unset, .unset] [(.ref b1), (.ref o)])
  refine Go.step (fun _ k => XS.dup W.here W.hx rfl (W.d dop3_8) rfl rfl k) ?_
  show Go _ _ _ _ _ _ _ _ _ _ (mkF m 9 #[.val (.ref o), .val (.ref u), .val .null, .val .null, .unset, .unset, .unset] [(.ref b1), (.ref b1), (.ref o)])
  refine W.special rfl (X.w 61 rfl) (X.w 62 rfl) (X.w 60 rfl) (X.w 63 rfl) (by decide) (c_hmi X b1 _ W.ext gb1 Ab1 F_loadFactor_b1) (by decide) (Wd := 2) (by decide) b1 [] [(.ref b1), (.ref o)] rfl pd_6 rfl rfl rfl (Nat.le_of_eq rfl) dop3_9 (by decide) (by decide) ?_
  intro v T h vm W hQ C
  obtain ⟨rfl, Ka2⟩ := hQ
  replace F_size_u := F_size_u.keep Ka2 (nin1 ne_u_b1)
  replace KP := KP.otrN Ka2 sz_b1
  replace F_values_o := F_values_o.keep Ka2 (nin1 ne_o_b1)
  replace F_switches_o := F_switches_o.keep Ka2 (nin1 ne_o_b1)
  replace F_operands_o := F_operands_o.keep Ka2 (nin1 ne_o_b1)
  replace F_elementData_u := F_elementData_u.keep Ka2 (nin1 ne_u_b1)
  replace Vt := Vt.keep Ka2 (nin1 ne_t_b1)
  replace Sx1 := Sx1.keepE Ka2 Ab1 (by decide) (X.w 59 rfl)
  replace Sx2 := Sx2.keepE Ka2 Ab1 (by decide) (X.w 59 rfl)
  replace Sx3 := Sx3.keepE Ka2 Ab1 (by decide) (X.w 59 rfl)
  replace Ao := Ao.keep Ka2
  replace Au := Au.keep Ka2
  replace Ab1 := Ab1.keep Ka2
  replace hsz := W.size
  show Go _ _ _ _ _ _ _ _ _ _ (mkF m 12 #[.val (.ref o), .val (.ref u), .val .null, .val .null, .unset, .unset, .unset] [(.ref b1), (.ref o)])
  refine W.putF (host := "") (Or.inl (X.w 74 rfl)) Via.refl F_values_o Ao (Or.inr ⟨(X.w 75 rfl), rfl, rfl⟩) (X.w 52 rfl) (ty := (.object "java/util/Map")) (by decide) rfl rfl go_ (Safe.exa W.hZ.alike Ao (by decide) (by decide)) dop3_12 ?_
  intro T h W Wr3 F_values_o'
  replace F_operands_o := F_operands_o.other Wr3 (Or.inr (slot_ne (Or.inr (X.w 100 rfl)) (Or.inr (X.w 75 rfl)) (by decide) (t := (.object "java/util/List")) (t' := (.object "java/util/Map")) (by decide) (by decide)))
  replace F_switches_o := F_switches_o.other Wr3 (Or.inr (slot_ne (Or.inr (X.w 96 rfl)) (Or.inr (X.w 75 rfl)) (by decide) (t := (.object "java/util/Set")) (t' := (.object "java/util/Map")) (by decide) (by decide)))
  replace F_size_u := F_size_u.keep (Keep.of_wr Wr3) (nin1 (Exa.ne Au Ao (by decide)))
  replace KP := KP.otrM (Keep.of_wr Wr3) (by simp)
  replace F_elementData_u := F_elementData_u.keep (Keep.of_wr Wr3) (nin1 (Exa.ne Au Ao (by decide)))
  replace Vt := Vt.keep (Keep.of_wr Wr3) (nin1 (Ne.symm (Exa.neArv Ao Vt (X.w 52 rfl))))
  replace Sx1 := Sx1.keepE (Keep.of_wr Wr3) Ao (by decide) (X.w 52 rfl)
  replace Sx2 := Sx2.keepE (Keep.of_wr Wr3) Ao (by decide) (X.w 52 rfl)
  replace Sx3 := Sx3.keepE (Keep.of_wr Wr3) Ao (by decide) (X.w 52 rfl)
  replace Ao := Ao.keep (Keep.of_wr Wr3)
  replace Au := Au.keep (Keep.of_wr Wr3)
  replace Ab1 := Ab1.keep (Keep.of_wr Wr3)
  replace hsz := W.size
  replace F_values_o := F_values_o'
  show Go _ _ _ _ _ _ _ _ _ _ (mkF m 15 #[.val (.ref o), .val (.ref u), .val .null, .val .null, .unset, .unset, .unset] [])
  refine Go.step (fun _ k => XS.aloadN W.here W.hx rfl (W.d dop3_15) rfl rfl k) ?_
  show Go _ _ _ _ _ _ _ _ _ _ (mkF m 16 #[.val (.ref o), .val (.ref u), .val .null, .val .null, .unset, .unset, .unset] [(.ref o)])
  refine W.new (X.w 76 rfl) (X.w 77 rfl) (X.w 78 rfl) dop3_16 (by decide) (by decide) ?_
  intro T h b4 hb4 W Eb4 Ab4 Db4
  have ne_o_b4 : o ≠ b4 := by rw [hb4]; exact Nat.ne_of_lt Ao.lt
  have ne_u_b4 : u ≠ b4 := by rw [hb4]; exact Nat.ne_of_lt Au.lt
  have sz_b4 : h0.size ≤ b4 := by rw [hb4]; exact KP.1
  have ne_t_b4 : t ≠ b4 := by rw [hb4]; exact Nat.ne_of_lt Vt.lt
  have ne_x1_b4 : x1 ≠ b4 := by rw [hb4]; exact Nat.ne_of_lt Sx1.exa.lt
  have ne_x2_b4 : x2 ≠ b4 := by rw [hb4]; exact Nat.ne_of_lt Sx2.exa.lt
  have ne_x3_b4 : x3 ≠ b4 := by rw [hb4]; exact Nat.ne_of_lt Sx3.exa.lt
  have ne_b1_b4 : b1 ≠ b4 := by rw [hb4]; exact Nat.ne_of_lt Ab1.lt
  have gb4 : Z.heap.size ≤ b4 := by rw [hb4]; exact hsz
  replace F_size_u := F_size_u.ext Eb4
  replace KP := KP.ext Eb4
  replace F_values_o := F_values_o.ext Eb4
  replace F_switches_o := F_switches_o.ext Eb4
  replace F_operands_o := F_operands_o.ext Eb4
  replace F_elementData_u := F_elementData_u.ext Eb4
  replace Vt := Vt.ext Eb4
  replace Sx1 := Sx1.ext Eb4
  replace Sx2 := Sx2.ext Eb4
  replace Sx3 := Sx3.ext Eb4
  replace Ao := Ao.ext Eb4
  replace Au := Au.ext Eb4
  replace Ab1 := Ab1.ext Eb4
  replace hsz := W.size
  have F_map_b4 : Fld Z h b4 "java/util/HashSet" "map" "Ljava/util/HashMap;" .null := Db4 (Or.inl (X.w 94 rfl)) (ty := (.object "java/util/HashMap")) (by decide)
  show Go _ _ _ _ _ _ _ _ _ _ (mkF m 19 #[.val (.ref o), .val (.ref u), .val .null, .val .null, .unset, .unset, .unset] [(.ref b4), (.ref o)])
  refine Go.step (fun _ k => XS.dup W.here W.hx rfl (W.d dop3_19) rfl rfl k) ?_
  show Go _ _ _ _ _ _ _ _ _ _ (mkF m 20 #[.val (.ref o), .val (.ref u), .val .null, .val .null, .unset, .unset, .unset] [(.ref b4), (.ref b4), (.ref o)])
  refine W.special rfl (X.w 79 rfl) (X.w 80 rfl) (X.w 78 rfl) (X.w 81 rfl) (by decide) (c_hsi X b4 _ W.ext gb4 Ab4 F_map_b4) (by decide) (Wd := 2) (by decide) b4 [] [(.ref b4), (.ref o)] rfl pd_6 rfl rfl rfl (Nat.le_of_eq rfl) dop3_20 (by decide) (by decide) ?_
  intro v T h vm W hQ C
  obtain ⟨rfl, Ka5⟩ := hQ
  replace F_size_u := F_size_u.keep Ka5 (nin1 ne_u_b4)
  replace KP := KP.otrN Ka5 sz_b4
  replace F_values_o := F_values_o.keep Ka5 (nin1 ne_o_b4)
  replace F_switches_o := F_switches_o.keep Ka5 (nin1 ne_o_b4)
  replace F_operands_o := F_operands_o.keep Ka5 (nin1 ne_o_b4)
  replace F_elementData_u := F_elementData_u.keep Ka5 (nin1 ne_u_b4)
  replace Vt := Vt.keep Ka5 (nin1 ne_t_b4)
  replace Sx1 := Sx1.keepE Ka5 Ab4 (by decide) (X.w 77 rfl)
  replace Sx2 := Sx2.keepE Ka5 Ab4 (by decide) (X.w 77 rfl)
  replace Sx3 := Sx3.keepE Ka5 Ab4 (by decide) (X.w 77 rfl)
  replace Ao := Ao.keep Ka5
  replace Au := Au.keep Ka5
  replace Ab1 := Ab1.keep Ka5
  replace Ab4 := Ab4.keep Ka5
  replace hsz := W.size
  show Go _ _ _ _ _ _ _ _ _ _ (mkF m 23 #[.val (.ref o), .val (.ref u), .val .null, .val .null, .unset, .unset, .unset] [(.ref b4), (.ref o)])
  refine W.putF (host := "") (Or.inl (X.w 95 rfl)) Via.refl F_switches_o Ao (Or.inr ⟨(X.w 96 rfl), rfl, rfl⟩) (X.w 52 rfl) (ty := (.object "java/util/Set")) (by decide) rfl rfl go_ (Safe.exa W.hZ.alike Ao (by decide) (by decide)) dop3_23 ?_
  intro T h W Wr6 F_switches_o'
  replace F_operands_o := F_operands_o.other Wr6 (Or.inr (slot_ne (Or.inr (X.w 100 rfl)) (Or.inr (X.w 96 rfl)) (by decide) (t := (.object "java/util/List")) (t' := (.object "java/util/Set")) (by decide) (by decide)))
  replace F_values_o := F_values_o.other Wr6 (Or.inr (slot_ne (Or.inr (X.w 75 rfl)) (Or.inr (X.w 96 rfl)) (by decide) (t := (.object "java/util/Map")) (t' := (.object "java/util/Set")) (by decide) (by decide)))
  replace F_size_u := F_size_u.keep (Keep.of_wr Wr6) (nin1 (Exa.ne Au Ao (by decide)))
  replace KP := KP.otrM (Keep.of_wr Wr6) (by simp)
  replace F_elementData_u := F_elementData_u.keep (Keep.of_wr Wr6) (nin1 (Exa.ne Au Ao (by decide)))
  replace Vt := Vt.keep (Keep.of_wr Wr6) (nin1 (Ne.symm (Exa.neArv Ao Vt (X.w 52 rfl))))
  replace Sx1 := Sx1.keepE (Keep.of_wr Wr6) Ao (by decide) (X.w 52 rfl)
  replace Sx2 := Sx2.keepE (Keep.of_wr Wr6) Ao (by decide) (X.w 52 rfl)
  replace Sx3 := Sx3.keepE (Keep.of_wr Wr6) Ao (by decide) (X.w 52 rfl)
  replace Ao := Ao.keep (Keep.of_wr Wr6)
  replace Au := Au.keep (Keep.of_wr Wr6)
  replace Ab1 := Ab1.keep (Keep.of_wr Wr6)
  replace Ab4 := Ab4.keep (Keep.of_wr Wr6)
  replace hsz := W.size
  replace F_switches_o := F_switches_o'
  show Go _ _ _ _ _ _ _ _ _ _ (mkF m 26 #[.val (.ref o), .val (.ref u), .val .null, .val .null, .unset, .unset, .unset] [])
  refine Go.step (fun _ k => XS.aloadN W.here W.hx rfl (W.d dop3_26) rfl rfl k) ?_
  show Go _ _ _ _ _ _ _ _ _ _ (mkF m 27 #[.val (.ref o), .val (.ref u), .val .null, .val .null, .unset, .unset, .unset] [(.ref o)])
  refine W.new (X.w 97 rfl) (X.w 27 rfl) (X.w 28 rfl) dop3_27 (by decide) (by decide) ?_
  intro T h b7 hb7 W Eb7 Ab7 Db7
  have ne_o_b7 : o ≠ b7 := by rw [hb7]; exact Nat.ne_of_lt Ao.lt
  have ne_u_b7 : u ≠ b7 := by rw [hb7]; exact Nat.ne_of_lt Au.lt
  have sz_b7 : h0.size ≤ b7 := by rw [hb7]; exact KP.1
  have ne_t_b7 : t ≠ b7 := by rw [hb7]; exact Nat.ne_of_lt Vt.lt
  have ne_x1_b7 : x1 ≠ b7 := by rw [hb7]; exact Nat.ne_of_lt Sx1.exa.lt
  have ne_x2_b7 : x2 ≠ b7 := by rw [hb7]; exact Nat.ne_of_lt Sx2.exa.lt
  have ne_x3_b7 : x3 ≠ b7 := by rw [hb7]; exact Nat.ne_of_lt Sx3.exa.lt
  have ne_b1_b7 : b1 ≠ b7 := by rw [hb7]; exact Nat.ne_of_lt Ab1.lt
  have ne_b4_b7 : b4 ≠ b7 := by rw [hb7]; exact Nat.ne_of_lt Ab4.lt
  have gb7 : Z.heap.size ≤ b7 := by rw [hb7]; exact hsz
  replace F_size_u := F_size_u.ext Eb7
  replace KP := KP.ext Eb7
  replace F_values_o := F_values_o.ext Eb7
  replace F_switches_o := F_switches_o.ext Eb7
  replace F_operands_o := F_operands_o.ext Eb7
  replace F_elementData_u := F_elementData_u.ext Eb7
  replace Vt := Vt.ext Eb7
  replace Sx1 := Sx1.ext Eb7
  replace Sx2 := Sx2.ext Eb7
  replace Sx3 := Sx3.ext Eb7
  replace Ao := Ao.ext Eb7
  replace Au := Au.ext Eb7
  replace Ab1 := Ab1.ext Eb7
  replace Ab4 := Ab4.ext Eb7
  replace hsz := W.size
  have F_modCount_b7 : Fld Z h b7 "java/util/AbstractList" "modCount" "I" (.int (0 : Int32)) := Db7 (Or.inl (X.w 46 rfl)) (ty := .int) (by decide)
  have F_elementData_b7 : Fld Z h b7 "java/util/ArrayList" "elementData" "[Ljava/lang/Object;" .null := Db7 (Or.inl (X.w 49 rfl)) (ty := (.array (.object "java/lang/Object"))) (by decide)
  have F_size_b7 : Fld Z h b7 "java/util/ArrayList" "size" "I" (.int (0 : Int32)) := Db7 (Or.inl (X.w 111 rfl)) (ty := .int) (by decide)
  show Go _ _ _ _ _ _ _ _ _ _ (mkF m 30 #[.val (.ref o), .val (.ref u), .val .null, .val .null, .unset, .unset, .unset] [(.ref b7), (.ref o)])
  refine Go.step (fun _ k => XS.dup W.here W.hx rfl (W.d dop3_30) rfl rfl k) ?_
  show Go _ _ _ _ _ _ _ _ _ _ (mkF m 31 #[.val (.ref o), .val (.ref u), .val .null, .val .null, .unset, .unset, .unset] [(.ref b7), (.ref b7), (.ref o)])
  refine W.special rfl (X.w 98 rfl) (X.w 30 rfl) (X.w 28 rfl) (X.w 31 rfl) (by decide) (c_ali X b7 D _ _ W.ext Y gb7 Ab7 F_modCount_b7 F_elementData_b7 F_size_b7) (by decide) (Wd := 2) (by decide) b7 [] [(.ref b7), (.ref o)] rfl pd_6 rfl rfl rfl (Nat.le_of_eq rfl) dop3_31 (by decide) (by decide) ?_
  intro v T h vm W hQ C
  obtain ⟨rfl, Ka8, F_modCount_b7', F_elementData_b7', F_size_b7'⟩ := hQ
  replace F_size_u := F_size_u.keep Ka8 (nin1 ne_u_b7)
  replace KP := KP.otrN Ka8 sz_b7
  replace F_values_o := F_values_o.keep Ka8 (nin1 ne_o_b7)
  replace F_switches_o := F_switches_o.keep Ka8 (nin1 ne_o_b7)
  replace F_operands_o := F_operands_o.keep Ka8 (nin1 ne_o_b7)
  replace F_elementData_u := F_elementData_u.keep Ka8 (nin1 ne_u_b7)
  replace Vt := Vt.keep Ka8 (nin1 ne_t_b7)
  replace Sx1 := Sx1.keepE Ka8 Ab7 (by decide) (X.w 27 rfl)
  replace Sx2 := Sx2.keepE Ka8 Ab7 (by decide) (X.w 27 rfl)
  replace Sx3 := Sx3.keepE Ka8 Ab7 (by decide) (X.w 27 rfl)
  replace Ao := Ao.keep Ka8
  replace Au := Au.keep Ka8
  replace Ab1 := Ab1.keep Ka8
  replace Ab4 := Ab4.keep Ka8
  replace Ab7 := Ab7.keep Ka8
  replace hsz := W.size
  replace F_modCount_b7 := F_modCount_b7'
  replace F_elementData_b7 := F_elementData_b7'
  replace F_size_b7 := F_size_b7'
  show Go _ _ _ _ _ _ _ _ _ _ (mkF m 34 #[.val (.ref o), .val (.ref u), .val .null, .val .null, .unset, .unset, .unset] [(.ref b7), (.ref o)])
  refine W.putF (host := "") (Or.inl (X.w 99 rfl)) Via.refl F_operands_o Ao (Or.inr ⟨(X.w 100 rfl), rfl, rfl⟩) (X.w 52 rfl) (ty := (.object "java/util/List")) (by decide) rfl rfl go_ (Safe.exa W.hZ.alike Ao (by decide) (by decide)) dop3_34 ?_
  intro T h W Wr9 F_operands_o'
  replace F_switches_o := F_switches_o.other Wr9 (Or.inr (slot_ne (Or.inr (X.w 96 rfl)) (Or.inr (X.w 100 rfl)) (by decide) (t := (.object "java/util/Set")) (t' := (.object "java/util/List")) (by decide) (by decide)))
  replace F_values_o := F_values_o.other Wr9 (Or.inr (slot_ne (Or.inr (X.w 75 rfl)) (Or.inr (X.w 100 rfl)) (by decide) (t := (.object "java/util/Map")) (t' := (.object "java/util/List")) (by decide) (by decide)))
  replace F_size_u := F_size_u.keep (Keep.of_wr Wr9) (nin1 (Exa.ne Au Ao (by decide)))
  replace KP := KP.otrM (Keep.of_wr Wr9) (by simp)
  replace F_elementData_u := F_elementData_u.keep (Keep.of_wr Wr9) (nin1 (Exa.ne Au Ao (by decide)))
  replace Vt := Vt.keep (Keep.of_wr Wr9) (nin1 (Ne.symm (Exa.neArv Ao Vt (X.w 52 rfl))))
  replace Sx1 := Sx1.keepE (Keep.of_wr Wr9) Ao (by decide) (X.w 52 rfl)
  replace Sx2 := Sx2.keepE (Keep.of_wr Wr9) Ao (by decide) (X.w 52 rfl)
  replace Sx3 := Sx3.keepE (Keep.of_wr Wr9) Ao (by decide) (X.w 52 rfl)
  replace F_modCount_b7 := F_modCount_b7.keep (Keep.of_wr Wr9) (nin1 (Ne.symm ne_o_b7))
  replace F_elementData_b7 := F_elementData_b7.keep (Keep.of_wr Wr9) (nin1 (Ne.symm ne_o_b7))
  replace F_size_b7 := F_size_b7.keep (Keep.of_wr Wr9) (nin1 (Ne.symm ne_o_b7))
  replace Ao := Ao.keep (Keep.of_wr Wr9)
  replace Au := Au.keep (Keep.of_wr Wr9)
  replace Ab1 := Ab1.keep (Keep.of_wr Wr9)
  replace Ab4 := Ab4.keep (Keep.of_wr Wr9)
  replace Ab7 := Ab7.keep (Keep.of_wr Wr9)
  replace hsz := W.size
  replace F_operands_o := F_operands_o'
  show Go _ _ _ _ _ _ _ _ _ _ (mkF m 37 #[.val (.ref o), .val (.ref u), .val .null, .val .null, .unset, .unset, .unset] [])
  refine Go.step (fun _ k => XS.iconst W.here W.hx rfl (W.d dop3_37) k) ?_
  show Go _ _ _ _ _ _ _ _ _ _ (mkF m 38 #[.val (.ref o), .val (.ref u), .val .null, .val .null, .unset, .unset, .unset] [(.int (0 : Int32))])
  refine Go.step (fun _ k => XS.istore W.here W.hx rfl (W.d dop3_38) rfl (l' := #[.val (.ref o), .val (.ref u), .val .null, .val .null, .val (.int (0 : Int32)), .unset, .unset]) rfl k) ?_
  show Go _ _ _ _ _ _ _ _ _ _ (mkF m 40 #[.val (.ref o), .val (.ref u), .val .null, .val .null, .val (.int (0 : Int32)), .unset, .unset] [])
  refine Go.step (fun _ k => XS.iload W.here W.hx rfl (W.d dop3_40) rfl k) ?_
  show Go _ _ _ _ _ _ _ _ _ _ (mkF m 42 #[.val (.ref o), .val (.ref u), .val .null, .val .null, .val (.int (0 : Int32)), .unset, .unset] [(.int (0 : Int32))])
  refine Go.step (fun _ k => XS.aloadN W.here W.hx rfl (W.d dop3_42) rfl rfl k) ?_
  show Go _ _ _ _ _ _ _ _ _ _ (mkF m 43 #[.val (.ref o), .val (.ref u), .val .null, .val .null, .val (.int (0 : Int32)), .unset, .unset] [(.ref u), (.int (0 : Int32))])
  refine W.iface (X.w 101 rfl) (X.w 102 rfl) (X.w 103 rfl) (X.w 104 rfl) (X.w 105 rfl) (X.w 106 rfl) (X.w 107 rfl) (X.w 108 rfl) (X.w 28 rfl) (X.w 109 rfl) (by decide) (c_size X u (3 : Int32) _ W.ext F_size_u) (by decide) (Wd := 1) (by decide) u Au [] [(.int (0 : Int32))] rfl pd_14 rfl rfl rfl (Nat.le_of_eq rfl) dop3_43 (by decide) (by decide) ?_
  intro v T h vm W hQ C
  obtain ⟨rfl, rfl⟩ := hQ
  show Go _ _ _ _ _ _ _ _ _ _ (mkF m 48 #[.val (.ref o), .val (.ref u), .val .null, .val .null, .val (.int (0 : Int32)), .unset, .unset] [(.int (3 : Int32)), (.int (0 : Int32))])
  refine Go.step (fun _ k => XS.icmpNo W.here W.hx rfl (W.d dop3_48) rfl (tlt (by decide : (0 : Int32) < (3 : Int32))).2.1 k) ?_
  show Go _ _ _ _ _ _ _ _ _ _ (mkF m 51 #[.val (.ref o), .val (.ref u), .val .null, .val .null, .val (.int (0 : Int32)), .unset, .unset] [])
  refine Go.step (fun _ k => XS.aloadN W.here W.hx rfl (W.d dop3_51) rfl rfl k) ?_
  show Go _ _ _ _ _ _ _ _ _ _ (mkF m 52 #[.val (.ref o), .val (.ref u), .val .null, .val .null, .val (.int (0 : Int32)), .unset, .unset] [(.ref u)])
  refine Go.step (fun _ k => XS.iload W.here W.hx rfl (W.d dop3_52) rfl k) ?_
  show Go _ _ _ _ _ _ _ _ _ _ (mkF m 54 #[.val (.ref o), .val (.ref u), .val .null, .val .null, .val (.int (0 : Int32)), .unset, .unset] [(.int (0 : Int32)), (.ref u)])
  refine W.iface (X.w 150 rfl) (X.w 151 rfl) (X.w 152 rfl) (X.w 153 rfl) (X.w 154 rfl) (X.w 155 rfl) (X.w 156 rfl) (X.w 108 rfl) (X.w 28 rfl) (X.w 157 rfl) (by decide) (c_get X u t x1 _ _ (0 : Int32) (3 : Int32) _ W.ext Au F_size_u F_elementData_u Vt (by decide) (by decide) (by decide) rfl) (by decide) (Wd := 0) (by decide) u Au [(.int (0 : Int32))] [] rfl pd_9 rfl rfl rfl (Nat.le_of_eq rfl) dop3_54 (by decide) (by decide) ?_
  intro v T h vm W hQ C
  obtain ⟨rfl, rfl⟩ := hQ
  show Go _ _ _ _ _ _ _ _ _ _ (mkF m 59 #[.val (.ref o), .val (.ref u), .val .null, .val .null, .val (.int (0 : Int32)), .unset, .unset] [(.ref x1)])
  refine W.cast (X.w 171 rfl) (Ins.self Sx1.exa) dop3_59 ?_
  intro T W
  show Go _ _ _ _ _ _ _ _ _ _ (mkF m 62 #[.val (.ref o), .val (.ref u), .val .null, .val .null, .val (.int (0 : Int32)), .unset, .unset] [(.ref x1)])
  refine Go.step (fun _ k => XS.astore W.here W.hx rfl (W.d dop3_62) rfl rfl (l' := #[.val (.ref o), .val (.ref u), .val .null, .val .null, .val (.int (0 : Int32)), .val (.ref x1), .unset]) rfl k) ?_
  show Go _ _ _ _ _ _ _ _ _ _ (mkF m 64 #[.val (.ref o), .val (.ref u), .val .null, .val .null, .val (.int (0 : Int32)), .val (.ref x1), .unset] [])
  refine Go.step (fun _ k => XS.aload W.here W.hx rfl (W.d dop3_64) rfl rfl k) ?_
  show Go _ _ _ _ _ _ _ _ _ _ (mkF m 66 #[.val (.ref o), .val (.ref u), .val .null, .val .null, .val (.int (0 : Int32)), .val (.ref x1), .unset] [(.ref x1)])
  refine W.ldcR (X.w 172 rfl) X.ws (List.mem_of_getElem? (i := 0) rfl) (vs := [(.int (45 : Int32)), (.int (45 : Int32))]) (z := 2) ⟨by decide +kernel, by decide +kernel⟩ (by decide) rfl dop3_66 (n := 8) (by decide) (by decide) (by decide) (by decide) ?_
  intro T h vm s10 qs10 ks10 W Es10 Cs10 A1s10 A2s10 A3s10 A4s10 Ns10
  replace F_size_u := F_size_u.ext Es10
  replace KP := KP.ext Es10
  replace F_values_o := F_values_o.ext Es10
  replace F_switches_o := F_switches_o.ext Es10
  replace F_operands_o := F_operands_o.ext Es10
  replace F_elementData_u := F_elementData_u.ext Es10
  replace Vt := Vt.ext Es10
  replace Sx1 := Sx1.ext Es10
  replace Sx2 := Sx2.ext Es10
  replace Sx3 := Sx3.ext Es10
  replace F_modCount_b7 := F_modCount_b7.ext Es10
  replace F_elementData_b7 := F_elementData_b7.ext Es10
  replace F_size_b7 := F_size_b7.ext Es10
  replace Ao := Ao.ext Es10
  replace Au := Au.ext Es10
  replace Ab1 := Ab1.ext Es10
  replace Ab4 := Ab4.ext Es10
  replace Ab7 := Ab7.ext Es10
  replace hsz := W.size
  have Ss10 : Str Z h s10 [(45 : Int32), (45 : Int32)] := ⟨qs10, ks10, A1s10, A3s10, A2s10, A4s10, (smS (by decide) (smS (by decide) sm0)), Nat.le_of_ble_eq_true rfl⟩
  show Go _ _ _ _ _ _ _ _ _ _ (mkF m 68 #[.val (.ref o), .val (.ref u), .val .null, .val .null, .val (.int (0 : Int32)), .val (.ref x1), .unset] [(.ref s10), (.ref x1)])
  refine W.virtual (X.w 173 rfl) (X.w 174 rfl) (notFace_of_selects (args := #[]) (mvT W.hZ (X.w 176 rfl))) (X.w 176 rfl) (X.w 175 rfl) (X.w 6 rfl) (X.w 177 rfl) (by decide) (c_swa X x1 s10 _ _ W.ext Sx1 Ss10 Nx1) (by decide) (Wd := 0) (by decide) x1 Sx1.exa [(.ref s10)] [] rfl pd_17 rfl rfl rfl (Nat.le_of_eq rfl) dop3_68 (by decide) (by decide) ?_
  intro v T h vm W hQ C
  obtain ⟨rfl, rfl⟩ := hQ
  show Go _ _ _ _ _ _ _ _ _ _ (mkF m 71 #[.val (.ref o), .val (.ref u), .val .null, .val .null, .val (.int (0 : Int32)), .val (.ref x1), .unset] [(.int (0 : Int32))])
  refine Go.step (fun _ k => XS.ifYes W.here W.hx rfl (pc0 := 71) (pc' := 83) rfl (W.d dop3_71) rfl ((if0 _ _).trans (teq (by decide : (0 : Int32) = (0 : Int32))).1) (by decide) (by decide) k) ?_
  show Go _ _ _ _ _ _ _ _ _ _ (mkF m 83 #[.val (.ref o), .val (.ref u), .val .null, .val .null, .val (.int (0 : Int32)), .val (.ref x1), .unset] [])
  refine Go.step (fun _ k => XS.aconstNull W.here W.hx rfl (W.d dop3_83) k) ?_
  show Go _ _ _ _ _ _ _ _ _ _ (mkF m 84 #[.val (.ref o), .val (.ref u), .val .null, .val .null, .val (.int (0 : Int32)), .val (.ref x1), .unset] [.null])
  refine Go.step (fun _ k => XS.astore W.here W.hx rfl (W.d dop3_84) rfl rfl (l' := #[.val (.ref o), .val (.ref u), .val .null, .val .null, .val (.int (0 : Int32)), .val (.ref x1), .val .null]) rfl k) ?_
  show Go _ _ _ _ _ _ _ _ _ _ (mkF m 86 #[.val (.ref o), .val (.ref u), .val .null, .val .null, .val (.int (0 : Int32)), .val (.ref x1), .val .null] [])
  refine Go.step (fun _ k => XS.aload W.here W.hx rfl (W.d dop3_86) rfl rfl k) ?_
  show Go _ _ _ _ _ _ _ _ _ _ (mkF m 88 #[.val (.ref o), .val (.ref u), .val .null, .val .null, .val (.int (0 : Int32)), .val (.ref x1), .val .null] [.null])
  refine Go.step (fun _ k => XS.ifnonnullNo W.here W.hx rfl (W.d dop3_88) rfl k) ?_
  show Go _ _ _ _ _ _ _ _ _ _ (mkF m 91 #[.val (.ref o), .val (.ref u), .val .null, .val .null, .val (.int (0 : Int32)), .val (.ref x1), .val .null] [])
  refine Go.step (fun _ k => XS.aloadN W.here W.hx rfl (W.d dop3_91) rfl rfl k) ?_
  show Go _ _ _ _ _ _ _ _ _ _ (mkF m 92 #[.val (.ref o), .val (.ref u), .val .null, .val .null, .val (.int (0 : Int32)), .val (.ref x1), .val .null] [(.ref o)])
  refine W.getF (host := "") (Or.inl (X.w 99 rfl)) Via.refl F_operands_o dop3_92 ?_
  intro T W
  show Go _ _ _ _ _ _ _ _ _ _ (mkF m 95 #[.val (.ref o), .val (.ref u), .val .null, .val .null, .val (.int (0 : Int32)), .val (.ref x1), .val .null] [(.ref b7)])
  refine Go.step (fun _ k => XS.aload W.here W.hx rfl (W.d dop3_95) rfl rfl k) ?_
  show Go _ _ _ _ _ _ _ _ _ _ (mkF m 97 #[.val (.ref o), .val (.ref u), .val .null, .val .null, .val (.int (0 : Int32)), .val (.ref x1), .val .null] [(.ref x1), (.ref b7)])
  refine W.iface (X.w 194 rfl) (X.w 195 rfl) (X.w 196 rfl) (X.w 197 rfl) (X.w 123 rfl) (X.w 198 rfl) (X.w 199 rfl) (X.w 108 rfl) (X.w 28 rfl) (X.w 125 rfl) (by decide) (c_add0 X b7 D x1 _ _ W.ext Y gb7 Ab7 F_modCount_b7 F_elementData_b7 F_size_b7 Sx1.exa) (by decide) (Wd := 0) (by decide) b7 Ab7 [(.ref x1)] [] rfl pd_18 rfl rfl rfl (Nat.le_of_eq rfl) dop3_97 (by decide) (by decide) ?_
  intro v T h vm W hQ C
  obtain ⟨rfl, b11, kb11, hn_b11, Kgb11, F_modCount_b7', F_elementData_b7', F_size_b7', Vb11, Ob11⟩ := hQ
  have ne_o_b11 : o ≠ b11 := Nat.ne_of_lt (Nat.lt_of_lt_of_le Ao.lt hn_b11)
  have ne_u_b11 : u ≠ b11 := Nat.ne_of_lt (Nat.lt_of_lt_of_le Au.lt hn_b11)
  have sz_b11 : h0.size ≤ b11 := Nat.le_trans KP.1 hn_b11
  have ne_t_b11 : t ≠ b11 := Nat.ne_of_lt (Nat.lt_of_lt_of_le Vt.lt hn_b11)
  have ne_x1_b11 : x1 ≠ b11 := Nat.ne_of_lt (Nat.lt_of_lt_of_le Sx1.exa.lt hn_b11)
  have ne_x2_b11 : x2 ≠ b11 := Nat.ne_of_lt (Nat.lt_of_lt_of_le Sx2.exa.lt hn_b11)
  have ne_x3_b11 : x3 ≠ b11 := Nat.ne_of_lt (Nat.lt_of_lt_of_le Sx3.exa.lt hn_b11)
  have ne_b1_b11 : b1 ≠ b11 := Nat.ne_of_lt (Nat.lt_of_lt_of_le Ab1.lt hn_b11)
  have ne_b4_b11 : b4 ≠ b11 := Nat.ne_of_lt (Nat.lt_of_lt_of_le Ab4.lt hn_b11)
  have ne_b7_b11 : b7 ≠ b11 := Nat.ne_of_lt (Nat.lt_of_lt_of_le Ab7.lt hn_b11)
  have ne_s10_b11 : s10 ≠ b11 := Nat.ne_of_lt (Nat.lt_of_lt_of_le Ss10.exa.lt hn_b11)
  have gb11 : Z.heap.size ≤ b11 := Nat.le_trans hsz hn_b11
  replace F_size_u := F_size_u.keep Kgb11 (nin1 ne_u_b7)
  replace KP := KP.otrN Kgb11 sz_b7
  replace F_values_o := F_values_o.keep Kgb11 (nin1 ne_o_b7)
  replace F_switches_o := F_switches_o.keep Kgb11 (nin1 ne_o_b7)
  replace F_operands_o := F_operands_o.keep Kgb11 (nin1 ne_o_b7)
  replace F_elementData_u := F_elementData_u.keep Kgb11 (nin1 ne_u_b7)
  replace Vt := Vt.keep Kgb11 (nin1 ne_t_b7)
  replace Sx1 := Sx1.keepE Kgb11 Ab7 (by decide) (X.w 27 rfl)
  replace Sx2 := Sx2.keepE Kgb11 Ab7 (by decide) (X.w 27 rfl)
  replace Sx3 := Sx3.keepE Kgb11 Ab7 (by decide) (X.w 27 rfl)
  replace Ss10 := Ss10.keepE Kgb11 Ab7 (by decide) (X.w 27 rfl)
  replace Ao := Ao.keep Kgb11
  replace Au := Au.keep Kgb11
  replace Ab1 := Ab1.keep Kgb11
  replace Ab4 := Ab4.keep Kgb11
  replace Ab7 := Ab7.keep Kgb11
  replace hsz := W.size
  replace F_modCount_b7 := F_modCount_b7'
  replace F_elementData_b7 := F_elementData_b7'
  replace F_size_b7 := F_size_b7'
  show Go _ _ _ _ _ _ _ _ _ _ (mkF m 102 #[.val (.ref o), .val (.ref u), .val .null, .val .null, .val (.int (0 : Int32)), .val (.ref x1), .val .null] [(.int (1 : Int32))])
  refine Go.step (fun _ k => XS.pop W.here W.hx rfl (W.d dop3_102) rfl rfl k) ?_
  show Go _ _ _ _ _ _ _ _ _ _ (mkF m 103 #[.val (.ref o), .val (.ref u), .val .null, .val .null, .val (.int (0 : Int32)), .val (.ref x1), .val .null] [])
  refine Go.step (fun _ k => XS.goto W.here W.hx rfl (pc0 := 103) (pc' := 269) rfl (W.d dop3_103) (by decide) (by decide) k) ?_
  show Go _ _ _ _ _ _ _ _ _ _ (mkF m 269 #[.val (.ref o), .val (.ref u), .val .null, .val .null, .val (.int (0 : Int32)), .val (.ref x1), .val .null] [])
  refine Go.step (fun _ k => XS.iinc W.here W.hx rfl (W.d dop3_269) rfl (l' := #[.val (.ref o), .val (.ref u), .val .null, .val .null, .val (.int (1 : Int32)), .val (.ref x1), .val .null]) rfl k) ?_
  show Go _ _ _ _ _ _ _ _ _ _ (mkF m 272 #[.val (.ref o), .val (.ref u), .val .null, .val .null, .val (.int (1 : Int32)), .val (.ref x1), .val .null] [])
  refine Go.step (fun _ k => XS.goto W.here W.hx rfl (pc0 := 272) (pc' := 40) rfl (W.d dop3_272) (by decide) (by decide) k) ?_
  show Go _ _ _ _ _ _ _ _ _ _ (mkF m 40 #[.val (.ref o), .val (.ref u), .val .null, .val .null, .val (.int (1 : Int32)), .val (.ref x1), .val .null] [])
  refine Go.step (fun _ k => XS.iload W.here W.hx rfl (W.d dop3_40) rfl k) ?_
  show Go _ _ _ _ _ _ _ _ _ _ (mkF m 42 #[.val (.ref o), .val (.ref u), .val .null, .val .null, .val (.int (1 : Int32)), .val (.ref x1), .val .null] [(.int (1 : Int32))])
  refine Go.step (fun _ k => XS.aloadN W.here W.hx rfl (W.d dop3_42) rfl rfl k) ?_
  show Go _ _ _ _ _ _ _ _ _ _ (mkF m 43 #[.val (.ref o), .val (.ref u), .val .null, .val .null, .val (.int (1 : Int32)), .val (.ref x1), .val .null] [(.ref u), (.int (1 : Int32))])
  refine W.iface (X.w 101 rfl) (X.w 102 rfl) (X.w 103 rfl) (X.w 104 rfl) (X.w 105 rfl) (X.w 106 rfl) (X.w 107 rfl) (X.w 108 rfl) (X.w 28 rfl) (X.w 109 rfl) (by decide) (c_size X u (3 : Int32) _ W.ext F_size_u) (by decide) (Wd := 1) (by decide) u Au [] [(.int (1 : Int32))] rfl pd_14 rfl rfl rfl (Nat.le_of_eq rfl) dop3_43 (by decide) (by decide) ?_
  intro v T h vm W hQ C
  obtain ⟨rfl, rfl⟩ := hQ
  show Go _ _ _ _ _ _ _ _ _ _ (mkF m 48 #[.val (.ref o), .val (.ref u), .val .null, .val .null, .val (.int (1 : Int32)), .val (.ref x1), .val .null] [(.int (3 : Int32)), (.int (1 : Int32))])
  refine Go.step (fun _ k => XS.icmpNo W.here W.hx rfl (W.d dop3_48) rfl (tlt (by decide : (1 : Int32) < (3 : Int32))).2.1 k) ?_
  show Go _ _ _ _ _ _ _ _ _ _ (mkF m 51 #[.val (.ref o), .val (.ref u), .val .null, .val .null, .val (.int (1 : Int32)), .val (.ref x1), .val .null] [])
  refine Go.step (fun _ k => XS.aloadN W.here W.hx rfl (W.d dop3_51) rfl rfl k) ?_
  show Go _ _ _ _ _ _ _ _ _ _ (mkF m 52 #[.val (.ref o), .val (.ref u), .val .null, .val .null, .val (.int (1 : Int32)), .val (.ref x1), .val .null] [(.ref u)])
  refine Go.step (fun _ k => XS.iload W.here W.hx rfl (W.d dop3_52) rfl k) ?_
  show Go _ _ _ _ _ _ _ _ _ _ (mkF m 54 #[.val (.ref o), .val (.ref u), .val .null, .val .null, .val (.int (1 : Int32)), .val (.ref x1), .val .null] [(.int (1 : Int32)), (.ref u)])
  refine W.iface (X.w 150 rfl) (X.w 151 rfl) (X.w 152 rfl) (X.w 153 rfl) (X.w 154 rfl) (X.w 155 rfl) (X.w 156 rfl) (X.w 108 rfl) (X.w 28 rfl) (X.w 157 rfl) (by decide) (c_get X u t x2 _ _ (1 : Int32) (3 : Int32) _ W.ext Au F_size_u F_elementData_u Vt (by decide) (by decide) (by decide) rfl) (by decide) (Wd := 0) (by decide) u Au [(.int (1 : Int32))] [] rfl pd_9 rfl rfl rfl (Nat.le_of_eq rfl) dop3_54 (by decide) (by decide) ?_
  intro v T h vm W hQ C
  obtain ⟨rfl, rfl⟩ := hQ
  show Go _ _ _ _ _ _ _ _ _ _ (mkF m 59 #[.val (.ref o), .val (.ref u), .val .null, .val .null, .val (.int (1 : Int32)), .val (.ref x1), .val .null] [(.ref x2)])
  refine W.cast (X.w 171 rfl) (Ins.self Sx2.exa) dop3_59 ?_
  intro T W
  show Go _ _ _ _ _ _ _ _ _ _ (mkF m 62 #[.val (.ref o), .val (.ref u), .val .null, .val .null, .val (.int (1 : Int32)), .val (.ref x1), .val .null] [(.ref x2)])
  refine Go.step (fun _ k => XS.astore W.here W.hx rfl (W.d dop3_62) rfl rfl (l' := #[.val (.ref o), .val (.ref u), .val .null, .val .null, .val (.int (1 : Int32)), .val (.ref x2), .val .null]) rfl k) ?_
  show Go _ _ _ _ _ _ _ _ _ _ (mkF m 64 #[.val (.ref o), .val (.ref u), .val .null, .val .null, .val (.int (1 : Int32)), .val (.ref x2), .val .null] [])
  refine Go.step (fun _ k => XS.aload W.here W.hx rfl (W.d dop3_64) rfl rfl k) ?_
  show Go _ _ _ _ _ _ _ _ _ _ (mkF m 66 #[.val (.ref o), .val (.ref u), .val .null, .val .null, .val (.int (1 : Int32)), .val (.ref x2), .val .null] [(.ref x2)])
  refine W.ldcR (X.w 172 rfl) X.ws (List.mem_of_getElem? (i := 0) rfl) (vs := [(.int (45 : Int32)), (.int (45 : Int32))]) (z := 2) ⟨by decide +kernel, by decide +kernel⟩ (by decide) rfl dop3_66 (n := 8) (by decide) (by decide) (by decide) (by decide) ?_
  intro T h vm s12 qs12 ks12 W Es12 Cs12 A1s12 A2s12 A3s12 A4s12 Ns12
  replace F_size_u := F_size_u.ext Es12
  replace KP := KP.ext Es12
  replace F_values_o := F_values_o.ext Es12
  replace F_switches_o := F_switches_o.ext Es12
  replace F_operands_o := F_operands_o.ext Es12
  replace F_elementData_u := F_elementData_u.ext Es12
  replace Vt := Vt.ext Es12
  replace Sx1 := Sx1.ext Es12
  replace Sx2 := Sx2.ext Es12
  replace Sx3 := Sx3.ext Es12
  replace F_modCount_b7 := F_modCount_b7.ext Es12
  replace F_elementData_b7 := F_elementData_b7.ext Es12
  replace F_size_b7 := F_size_b7.ext Es12
  replace Ss10 := Ss10.ext Es12
  replace Vb11 := Vb11.ext Es12
  replace Ao := Ao.ext Es12
  replace Au := Au.ext Es12
  replace Ab1 := Ab1.ext Es12
  replace Ab4 := Ab4.ext Es12
  replace Ab7 := Ab7.ext Es12
  replace hsz := W.size
  have Ss12 : Str Z h s12 [(45 : Int32), (45 : Int32)] := ⟨qs12, ks12, A1s12, A3s12, A2s12, A4s12, (smS (by decide) (smS (by decide) sm0)), Nat.le_of_ble_eq_true rfl⟩
  show Go _ _ _ _ _ _ _ _ _ _ (mkF m 68 #[.val (.ref o), .val (.ref u), .val .null, .val .null, .val (.int (1 : Int32)), .val (.ref x2), .val .null] [(.ref s12), (.ref x2)])
  refine W.virtual (X.w 173 rfl) (X.w 174 rfl) (notFace_of_selects (args := #[]) (mvT W.hZ (X.w 176 rfl))) (X.w 176 rfl) (X.w 175 rfl) (X.w 6 rfl) (X.w 177 rfl) (by decide) (c_swa X x2 s12 _ _ W.ext Sx2 Ss12 Nx2) (by decide) (Wd := 0) (by decide) x2 Sx2.exa [(.ref s12)] [] rfl pd_17 rfl rfl rfl (Nat.le_of_eq rfl) dop3_68 (by decide) (by decide) ?_
  intro v T h vm W hQ C
  obtain ⟨rfl, rfl⟩ := hQ
  show Go _ _ _ _ _ _ _ _ _ _ (mkF m 71 #[.val (.ref o), .val (.ref u), .val .null, .val .null, .val (.int (1 : Int32)), .val (.ref x2), .val .null] [(.int (0 : Int32))])
  refine Go.step (fun _ k => XS.ifYes W.here W.hx rfl (pc0 := 71) (pc' := 83) rfl (W.d dop3_71) rfl ((if0 _ _).trans (teq (by decide : (0 : Int32) = (0 : Int32))).1) (by decide) (by decide) k) ?_
  show Go _ _ _ _ _ _ _ _ _ _ (mkF m 83 #[.val (.ref o), .val (.ref u), .val .null, .val .null, .val (.int (1 : Int32)), .val (.ref x2), .val .null] [])
  refine Go.step (fun _ k => XS.aconstNull W.here W.hx rfl (W.d dop3_83) k) ?_
  show Go _ _ _ _ _ _ _ _ _ _ (mkF m 84 #[.val (.ref o), .val (.ref u), .val .null, .val .null, .val (.int (1 : Int32)), .val (.ref x2), .val .null] [.null])
  refine Go.step (fun _ k => XS.astore W.here W.hx rfl (W.d dop3_84) rfl rfl (l' := #[.val (.ref o), .val (.ref u), .val .null, .val .null, .val (.int (1 : Int32)), .val (.ref x2), .val .null]) rfl k) ?_
  show Go _ _ _ _ _ _ _ _ _ _ (mkF m 86 #[.val (.ref o), .val (.ref u), .val .null, .val .null, .val (.int (1 : Int32)), .val (.ref x2), .val .null] [])
  refine Go.step (fun _ k => XS.aload W.here W.hx rfl (W.d dop3_86) rfl rfl k) ?_
  show Go _ _ _ _ _ _ _ _ _ _ (mkF m 88 #[.val (.ref o), .val (.ref u), .val .null, .val .null, .val (.int (1 : Int32)), .val (.ref x2), .val .null] [.null])
  refine Go.step (fun _ k => XS.ifnonnullNo W.here W.hx rfl (W.d dop3_88) rfl k) ?_
  show Go _ _ _ _ _ _ _ _ _ _ (mkF m 91 #[.val (.ref o), .val (.ref u), .val .null, .val .null, .val (.int (1 : Int32)), .val (.ref x2), .val .null] [])
  refine Go.step (fun _ k => XS.aloadN W.here W.hx rfl (W.d dop3_91) rfl rfl k) ?_
  show Go _ _ _ _ _ _ _ _ _ _ (mkF m 92 #[.val (.ref o), .val (.ref u), .val .null, .val .null, .val (.int (1 : Int32)), .val (.ref x2), .val .null] [(.ref o)])
  refine W.getF (host := "") (Or.inl (X.w 99 rfl)) Via.refl F_operands_o dop3_92 ?_
  intro T W
  show Go _ _ _ _ _ _ _ _ _ _ (mkF m 95 #[.val (.ref o), .val (.ref u), .val .null, .val .null, .val (.int (1 : Int32)), .val (.ref x2), .val .null] [(.ref b7)])
  refine Go.step (fun _ k => XS.aload W.here W.hx rfl (W.d dop3_95) rfl rfl k) ?_
  show Go _ _ _ _ _ _ _ _ _ _ (mkF m 97 #[.val (.ref o), .val (.ref u), .val .null, .val .null, .val (.int (1 : Int32)), .val (.ref x2), .val .null] [(.ref x2), (.ref b7)])
  refine W.iface (X.w 194 rfl) (X.w 195 rfl) (X.w 196 rfl) (X.w 197 rfl) (X.w 123 rfl) (X.w 198 rfl) (X.w 199 rfl) (X.w 108 rfl) (X.w 28 rfl) (X.w 125 rfl) (by decide) (c_add1 X b7 D b11 x2 x1 _ _ _ W.ext Y gb7 Ab7 F_modCount_b7 F_elementData_b7 F_size_b7 gb11 Vb11 Ob11 ne_b7_b11 Sx2.exa) (by decide) (Wd := 0) (by decide) b7 Ab7 [(.ref x2)] [] rfl pd_18 rfl rfl rfl (Nat.le_of_eq rfl) dop3_97 (by decide) (by decide) ?_
  intro v T h vm W hQ C
  obtain ⟨rfl, Kg13, F_modCount_b7', F_elementData_b7', F_size_b7', Vb11'⟩ := hQ
  replace F_size_u := F_size_u.keep Kg13 (ninS ne_u_b7 (ninS ne_u_b11 nin0))
  replace KP := KP.trans Kg13 (fun x hx => by simp only [List.mem_cons, List.not_mem_nil, or_false] at hx; rcases hx with rfl | rfl; exact Or.inr sz_b7; exact Or.inr sz_b11)
  replace F_values_o := F_values_o.keep Kg13 (ninS ne_o_b7 (ninS ne_o_b11 nin0))
  replace F_switches_o := F_switches_o.keep Kg13 (ninS ne_o_b7 (ninS ne_o_b11 nin0))
  replace F_operands_o := F_operands_o.keep Kg13 (ninS ne_o_b7 (ninS ne_o_b11 nin0))
  replace F_elementData_u := F_elementData_u.keep Kg13 (ninS ne_u_b7 (ninS ne_u_b11 nin0))
  replace Vt := Vt.keep Kg13 (ninS ne_t_b7 (ninS ne_t_b11 nin0))
  replace Sx1 := Sx1.keepL Kg13 Ab7 Vb11 (by decide) (by decide) (X.w 27 rfl) (X.w 5 rfl)
  replace Sx2 := Sx2.keepL Kg13 Ab7 Vb11 (by decide) (by decide) (X.w 27 rfl) (X.w 5 rfl)
  replace Sx3 := Sx3.keepL Kg13 Ab7 Vb11 (by decide) (by decide) (X.w 27 rfl) (X.w 5 rfl)
  replace Ss10 := Ss10.keepL Kg13 Ab7 Vb11 (by decide) (by decide) (X.w 27 rfl) (X.w 5 rfl)
  replace Ss12 := Ss12.keepL Kg13 Ab7 Vb11 (by decide) (by decide) (X.w 27 rfl) (X.w 5 rfl)
  replace Ao := Ao.keep Kg13
  replace Au := Au.keep Kg13
  replace Ab1 := Ab1.keep Kg13
  replace Ab4 := Ab4.keep Kg13
  replace Ab7 := Ab7.keep Kg13
  replace hsz := W.size
  replace Vb11 := Vb11'
  replace F_modCount_b7 := F_modCount_b7'
  replace F_elementData_b7 := F_elementData_b7'
  replace F_size_b7 := F_size_b7'
  show Go _ _ _ _ _ _ _ _ _ _ (mkF m 102 #[.val (.ref o), .val (.ref u), .val .null, .val .null, .val (.int (1 : Int32)), .val (.ref x2), .val .null] [(.int (1 : Int32))])
  refine Go.step (fun _ k => XS.pop W.here W.hx rfl (W.d dop3_102) rfl rfl k) ?_
  show Go _ _ _ _ _ _ _ _ _ _ (mkF m 103 #[.val (.ref o), .val (.ref u), .val .null, .val .null, .val (.int (1 : Int32)), .val (.ref x2), .val .null] [])
  refine Go.step (fun _ k => XS.goto W.here W.hx rfl (pc0 := 103) (pc' := 269) rfl (W.d dop3_103) (by decide) (by decide) k) ?_
  show Go _ _ _ _ _ _ _ _ _ _ (mkF m 269 #[.val (.ref o), .val (.ref u), .val .null, .val .null, .val (.int (1 : Int32)), .val (.ref x2), .val .null] [])
  refine Go.step (fun _ k => XS.iinc W.here W.hx rfl (W.d dop3_269) rfl (l' := #[.val (.ref o), .val (.ref u), .val .null, .val .null, .val (.int (2 : Int32)), .val (.ref x2), .val .null]) rfl k) ?_
  show Go _ _ _ _ _ _ _ _ _ _ (mkF m 272 #[.val (.ref o), .val (.ref u), .val .null, .val .null, .val (.int (2 : Int32)), .val (.ref x2), .val .null] [])
  refine Go.step (fun _ k => XS.goto W.here W.hx rfl (pc0 := 272) (pc' := 40) rfl (W.d dop3_272) (by decide) (by decide) k) ?_
  show Go _ _ _ _ _ _ _ _ _ _ (mkF m 40 #[.val (.ref o), .val (.ref u), .val .null, .val .null, .val (.int (2 : Int32)), .val (.ref x2), .val .null] [])
  refine Go.step (fun _ k => XS.iload W.here W.hx rfl (W.d dop3_40) rfl k) ?_
  show Go _ _ _ _ _ _ _ _ _ _ (mkF m 42 #[.val (.ref o), .val (.ref u), .val .null, .val .null, .val (.int (2 : Int32)), .val (.ref x2), .val .null] [(.int (2 : Int32))])
  refine Go.step (fun _ k => XS.aloadN W.here W.hx rfl (W.d dop3_42) rfl rfl k) ?_
  show Go _ _ _ _ _ _ _ _ _ _ (mkF m 43 #[.val (.ref o), .val (.ref u), .val .null, .val .null, .val (.int (2 : Int32)), .val (.ref x2), .val .null] [(.ref u), (.int (2 : Int32))])
  refine W.iface (X.w 101 rfl) (X.w 102 rfl) (X.w 103 rfl) (X.w 104 rfl) (X.w 105 rfl) (X.w 106 rfl) (X.w 107 rfl) (X.w 108 rfl) (X.w 28 rfl) (X.w 109 rfl) (by decide) (c_size X u (3 : Int32) _ W.ext F_size_u) (by decide) (Wd := 1) (by decide) u Au [] [(.int (2 : Int32))] rfl pd_14 rfl rfl rfl (Nat.le_of_eq rfl) dop3_43 (by decide) (by decide) ?_
  intro v T h vm W hQ C
  obtain ⟨rfl, rfl⟩ := hQ
  show Go _ _ _ _ _ _ _ _ _ _ (mkF m 48 #[.val (.ref o), .val (.ref u), .val .null, .val .null, .val (.int (2 : Int32)), .val (.ref x2), .val .null] [(.int (3 : Int32)), (.int (2 : Int32))])
  refine Go.step (fun _ k => XS.icmpNo W.here W.hx rfl (W.d dop3_48) rfl (tlt (by decide : (2 : Int32) < (3 : Int32))).2.1 k) ?_
  show Go _ _ _ _ _ _ _ _ _ _ (mkF m 51 #[.val (.ref o), .val (.ref u), .val .null, .val .null, .val (.int (2 : Int32)), .val (.ref x2), .val .null] [])
  refine Go.step (fun _ k => XS.aloadN W.here W.hx rfl (W.d dop3_51) rfl rfl k) ?_
  show Go _ _ _ _ _ _ _ _ _ _ (mkF m 52 #[.val (.ref o), .val (.ref u), .val .null, .val .null, .val (.int (2 : Int32)), .val (.ref x2), .val .null] [(.ref u)])
  refine Go.step (fun _ k => XS.iload W.here W.hx rfl (W.d dop3_52) rfl k) ?_
  show Go _ _ _ _ _ _ _ _ _ _ (mkF m 54 #[.val (.ref o), .val (.ref u), .val .null, .val .null, .val (.int (2 : Int32)), .val (.ref x2), .val .null] [(.int (2 : Int32)), (.ref u)])
  refine W.iface (X.w 150 rfl) (X.w 151 rfl) (X.w 152 rfl) (X.w 153 rfl) (X.w 154 rfl) (X.w 155 rfl) (X.w 156 rfl) (X.w 108 rfl) (X.w 28 rfl) (X.w 157 rfl) (by decide) (c_get X u t x3 _ _ (2 : Int32) (3 : Int32) _ W.ext Au F_size_u F_elementData_u Vt (by decide) (by decide) (by decide) rfl) (by decide) (Wd := 0) (by decide) u Au [(.int (2 : Int32))] [] rfl pd_9 rfl rfl rfl (Nat.le_of_eq rfl) dop3_54 (by decide) (by decide) ?_
  intro v T h vm W hQ C
  obtain ⟨rfl, rfl⟩ := hQ
  show Go _ _ _ _ _ _ _ _ _ _ (mkF m 59 #[.val (.ref o), .val (.ref u), .val .null, .val .null, .val (.int (2 : Int32)), .val (.ref x2), .val .null] [(.ref x3)])
  refine W.cast (X.w 171 rfl) (Ins.self Sx3.exa) dop3_59 ?_
  intro T W
  show Go _ _ _ _ _ _ _ _ _ _ (mkF m 62 #[.val (.ref o), .val (.ref u), .val .null, .val .null, .val (.int (2 : Int32)), .val (.ref x2), .val .null] [(.ref x3)])
  refine Go.step (fun _ k => XS.astore W.here W.hx rfl (W.d dop3_62) rfl rfl (l' := #[.val (.ref o), .val (.ref u), .val .null, .val .null, .val (.int (2 : Int32)), .val (.ref x3), .val .null]) rfl k) ?_
  show Go _ _ _ _ _ _ _ _ _ _ (mkF m 64 #[.val (.ref o), .val (.ref u), .val .null, .val .null, .val (.int (2 : Int32)), .val (.ref x3), .val .null] [])
  refine Go.step (fun _ k => XS.aload W.here W.hx rfl (W.d dop3_64) rfl rfl k) ?_
  show Go _ _ _ _ _ _ _ _ _ _ (mkF m 66 #[.val (.ref o), .val (.ref u), .val .null, .val .null, .val (.int (2 : Int32)), .val (.ref x3), .val .null] [(.ref x3)])
  refine W.ldcR (X.w 172 rfl) X.ws (List.mem_of_getElem? (i := 0) rfl) (vs := [(.int (45 : Int32)), (.int (45 : Int32))]) (z := 2) ⟨by decide +kernel, by decide +kernel⟩ (by decide) rfl dop3_66 (n := 8) (by decide) (by decide) (by decide) (by decide) ?_
  intro T h vm s14 qs14 ks14 W Es14 Cs14 A1s14 A2s14 A3s14 A4s14 Ns14
  replace F_size_u := F_size_u.ext Es14
  replace KP := KP.ext Es14
  replace F_values_o := F_values_o.ext Es14
  replace F_switches_o := F_switches_o.ext Es14
  replace F_operands_o := F_operands_o.ext Es14
  replace F_elementData_u := F_elementData_u.ext Es14
  replace Vt := Vt.ext Es14
  replace Sx1 := Sx1.ext Es14
  replace Sx2 := Sx2.ext Es14
  replace Sx3 := Sx3.ext Es14
  replace F_modCount_b7 := F_modCount_b7.ext Es14
  replace F_elementData_b7 := F_elementData_b7.ext Es14
  replace F_size_b7 := F_size_b7.ext Es14
  replace Ss10 := Ss10.ext Es14
  replace Vb11 := Vb11.ext Es14
  replace Ss12 := Ss12.ext Es14
  replace Ao := Ao.ext Es14
  replace Au := Au.ext Es14
  replace Ab1 := Ab1.ext Es14
  replace Ab4 := Ab4.ext Es14
  replace Ab7 := Ab7.ext Es14
  replace hsz := W.size
  have Ss14 : Str Z h s14 [(45 : Int32), (45 : Int32)] := ⟨qs14, ks14, A1s14, A3s14, A2s14, A4s14, (smS (by decide) (smS (by decide) sm0)), Nat.le_of_ble_eq_true rfl⟩
  show Go _ _ _ _ _ _ _ _ _ _ (mkF m 68 #[.val (.ref o), .val (.ref u), .val .null, .val .null, .val (.int (2 : Int32)), .val (.ref x3), .val .null] [(.ref s14), (.ref x3)])
  refine W.virtual (X.w 173 rfl) (X.w 174 rfl) (notFace_of_selects (args := #[]) (mvT W.hZ (X.w 176 rfl))) (X.w 176 rfl) (X.w 175 rfl) (X.w 6 rfl) (X.w 177 rfl) (by decide) (c_swa X x3 s14 _ _ W.ext Sx3 Ss14 Nx3) (by decide) (Wd := 0) (by decide) x3 Sx3.exa [(.ref s14)] [] rfl pd_17 rfl rfl rfl (Nat.le_of_eq rfl) dop3_68 (by decide) (by decide) ?_
  intro v T h vm W hQ C
  obtain ⟨rfl, rfl⟩ := hQ
  show Go _ _ _ _ _ _ _ _ _ _ (mkF m 71 #[.val (.ref o), .val (.ref u), .val .null, .val .null, .val (.int (2 : Int32)), .val (.ref x3), .val .null] [(.int (0 : Int32))])
  refine Go.step (fun _ k => XS.ifYes W.here W.hx rfl (pc0 := 71) (pc' := 83) rfl (W.d dop3_71) rfl ((if0 _ _).trans (teq (by decide : (0 : Int32) = (0 : Int32))).1) (by decide) (by decide) k) ?_
  show Go _ _ _ _ _ _ _ _ _ _ (mkF m 83 #[.val (.ref o), .val (.ref u), .val .null, .val .null, .val (.int (2 : Int32)), .val (.ref x3), .val .null] [])
  refine Go.step (fun _ k => XS.aconstNull W.here W.hx rfl (W.d dop3_83) k) ?_
  show Go _ _ _ _ _ _ _ _ _ _ (mkF m 84 #[.val (.ref o), .val (.ref u), .val .null, .val .null, .val (.int (2 : Int32)), .val (.ref x3), .val .null] [.null])
  refine Go.step (fun _ k => XS.astore W.here W.hx rfl (W.d dop3_84) rfl rfl (l' := #[.val (.ref o), .val (.ref u), .val .null, .val .null, .val (.int (2 : Int32)), .val (.ref x3), .val .null]) rfl k) ?_
  show Go _ _ _ _ _ _ _ _ _ _ (mkF m 86 #[.val (.ref o), .val (.ref u), .val .null, .val .null, .val (.int (2 : Int32)), .val (.ref x3), .val .null] [])
  refine Go.step (fun _ k => XS.aload W.here W.hx rfl (W.d dop3_86) rfl rfl k) ?_
  show Go _ _ _ _ _ _ _ _ _ _ (mkF m 88 #[.val (.ref o), .val (.ref u), .val .null, .val .null, .val (.int (2 : Int32)), .val (.ref x3), .val .null] [.null])
  refine Go.step (fun _ k => XS.ifnonnullNo W.here W.hx rfl (W.d dop3_88) rfl k) ?_
  show Go _ _ _ _ _ _ _ _ _ _ (mkF m 91 #[.val (.ref o), .val (.ref u), .val .null, .val .null, .val (.int (2 : Int32)), .val (.ref x3), .val .null] [])
  refine Go.step (fun _ k => XS.aloadN W.here W.hx rfl (W.d dop3_91) rfl rfl k) ?_
  show Go _ _ _ _ _ _ _ _ _ _ (mkF m 92 #[.val (.ref o), .val (.ref u), .val .null, .val .null, .val (.int (2 : Int32)), .val (.ref x3), .val .null] [(.ref o)])
  refine W.getF (host := "") (Or.inl (X.w 99 rfl)) Via.refl F_operands_o dop3_92 ?_
  intro T W
  show Go _ _ _ _ _ _ _ _ _ _ (mkF m 95 #[.val (.ref o), .val (.ref u), .val .null, .val .null, .val (.int (2 : Int32)), .val (.ref x3), .val .null] [(.ref b7)])
  refine Go.step (fun _ k => XS.aload W.here W.hx rfl (W.d dop3_95) rfl rfl k) ?_
  show Go _ _ _ _ _ _ _ _ _ _ (mkF m 97 #[.val (.ref o), .val (.ref u), .val .null, .val .null, .val (.int (2 : Int32)), .val (.ref x3), .val .null] [(.ref x3), (.ref b7)])
  refine W.iface (X.w 194 rfl) (X.w 195 rfl) (X.w 196 rfl) (X.w 197 rfl) (X.w 123 rfl) (X.w 198 rfl) (X.w 199 rfl) (X.w 108 rfl) (X.w 28 rfl) (X.w 125 rfl) (by decide) (c_add2 X b7 D b11 x3 x1 x2 _ _ _ W.ext Y gb7 Ab7 F_modCount_b7 F_elementData_b7 F_size_b7 gb11 Vb11 Ob11 ne_b7_b11 Sx3.exa) (by decide) (Wd := 0) (by decide) b7 Ab7 [(.ref x3)] [] rfl pd_18 rfl rfl rfl (Nat.le_of_eq rfl) dop3_97 (by decide) (by decide) ?_
  intro v T h vm W hQ C
  obtain ⟨rfl, Kg15, F_modCount_b7', F_elementData_b7', F_size_b7', Vb11'⟩ := hQ
  replace F_size_u := F_size_u.keep Kg15 (ninS ne_u_b7 (ninS ne_u_b11 nin0))
  replace KP := KP.trans Kg15 (fun x hx => by simp only [List.mem_cons, List.not_mem_nil, or_false] at hx; rcases hx with rfl | rfl; exact Or.inr sz_b7; exact Or.inr sz_b11)
  replace F_values_o := F_values_o.keep Kg15 (ninS ne_o_b7 (ninS ne_o_b11 nin0))
  replace F_switches_o := F_switches_o.keep Kg15 (ninS ne_o_b7 (ninS ne_o_b11 nin0))
  replace F_operands_o := F_operands_o.keep Kg15 (ninS ne_o_b7 (ninS ne_o_b11 nin0))
  replace F_elementData_u := F_elementData_u.keep Kg15 (ninS ne_u_b7 (ninS ne_u_b11 nin0))
  replace Vt := Vt.keep Kg15 (ninS ne_t_b7 (ninS ne_t_b11 nin0))
  replace Sx1 := Sx1.keepL Kg15 Ab7 Vb11 (by decide) (by decide) (X.w 27 rfl) (X.w 5 rfl)
  replace Sx2 := Sx2.keepL Kg15 Ab7 Vb11 (by decide) (by decide) (X.w 27 rfl) (X.w 5 rfl)
  replace Sx3 := Sx3.keepL Kg15 Ab7 Vb11 (by decide) (by decide) (X.w 27 rfl) (X.w 5 rfl)
  replace Ss10 := Ss10.keepL Kg15 Ab7 Vb11 (by decide) (by decide) (X.w 27 rfl) (X.w 5 rfl)
  replace Ss12 := Ss12.keepL Kg15 Ab7 Vb11 (by decide) (by decide) (X.w 27 rfl) (X.w 5 rfl)
  replace Ss14 := Ss14.keepL Kg15 Ab7 Vb11 (by decide) (by decide) (X.w 27 rfl) (X.w 5 rfl)
  replace Ao := Ao.keep Kg15
  replace Au := Au.keep Kg15
  replace Ab1 := Ab1.keep Kg15
  replace Ab4 := Ab4.keep Kg15
  replace Ab7 := Ab7.keep Kg15
  replace hsz := W.size
  replace Vb11 := Vb11'
  replace F_modCount_b7 := F_modCount_b7'
  replace F_elementData_b7 := F_elementData_b7'
  replace F_size_b7 := F_size_b7'
  show Go _ _ _ _ _ _ _ _ _ _ (mkF m 102 #[.val (.ref o), .val (.ref u), .val .null, .val .null, .val (.int (2 : Int32)), .val (.ref x3), .val .null] [(.int (1 : Int32))])
  refine Go.step (fun _ k => XS.pop W.here W.hx rfl (W.d dop3_102) rfl rfl k) ?_
  show Go _ _ _ _ _ _ _ _ _ _ (mkF m 103 #[.val (.ref o), .val (.ref u), .val .null, .val .null, .val (.int (2 : Int32)), .val (.ref x3), .val .null] [])
  refine Go.step (fun _ k => XS.goto W.here W.hx rfl (pc0 := 103) (pc' := 269) rfl (W.d dop3_103) (by decide) (by decide) k) ?_
  show Go _ _ _ _ _ _ _ _ _ _ (mkF m 269 #[.val (.ref o), .val (.ref u), .val .null, .val .null, .val (.int (2 : Int32)), .val (.ref x3), .val .null] [])
  refine Go.step (fun _ k => XS.iinc W.here W.hx rfl (W.d dop3_269) rfl (l' := #[.val (.ref o), .val (.ref u), .val .null, .val .null, .val (.int (3 : Int32)), .val (.ref x3), .val .null]) rfl k) ?_
  show Go _ _ _ _ _ _ _ _ _ _ (mkF m 272 #[.val (.ref o), .val (.ref u), .val .null, .val .null, .val (.int (3 : Int32)), .val (.ref x3), .val .null] [])
  refine Go.step (fun _ k => XS.goto W.here W.hx rfl (pc0 := 272) (pc' := 40) rfl (W.d dop3_272) (by decide) (by decide) k) ?_
  show Go _ _ _ _ _ _ _ _ _ _ (mkF m 40 #[.val (.ref o), .val (.ref u), .val .null, .val .null, .val (.int (3 : Int32)), .val (.ref x3), .val .null] [])
  refine Go.step (fun _ k => XS.iload W.here W.hx rfl (W.d dop3_40) rfl k) ?_
  show Go _ _ _ _ _ _ _ _ _ _ (mkF m 42 #[.val (.ref o), .val (.ref u), .val .null, .val .null, .val (.int (3 : Int32)), .val (.ref x3), .val .null] [(.int (3 : Int32))])
  refine Go.step (fun _ k => XS.aloadN W.here W.hx rfl (W.d dop3_42) rfl rfl k) ?_
  show Go _ _ _ _ _ _ _ _ _ _ (mkF m 43 #[.val (.ref o), .val (.ref u), .val .null, .val .null, .val (.int (3 : Int32)), .val (.ref x3), .val .null] [(.ref u), (.int (3 : Int32))])
  refine W.iface (X.w 101 rfl) (X.w 102 rfl) (X.w 103 rfl) (X.w 104 rfl) (X.w 105 rfl) (X.w 106 rfl) (X.w 107 rfl) (X.w 108 rfl) (X.w 28 rfl) (X.w 109 rfl) (by decide) (c_size X u (3 : Int32) _ W.ext F_size_u) (by decide) (Wd := 1) (by decide) u Au [] [(.int (3 : Int32))] rfl pd_14 rfl rfl rfl (Nat.le_of_eq rfl) dop3_43 (by decide) (by decide) ?_
  intro v T h vm W hQ C
  obtain ⟨rfl, rfl⟩ := hQ
  show Go _ _ _ _ _ _ _ _ _ _ (mkF m 48 #[.val (.ref o), .val (.ref u), .val .null, .val .null, .val (.int (3 : Int32)), .val (.ref x3), .val .null] [(.int (3 : Int32)), (.int (3 : Int32))])
  refine Go.step (fun _ k => XS.icmpYes W.here W.hx rfl (pc0 := 48) (pc' := 275) rfl (W.d dop3_48) rfl (flt (by decide : ¬ ((3 : Int32) < (3 : Int32)))).2.1 (by decide) (by decide) k) ?_
  show Go _ _ _ _ _ _ _ _ _ _ (mkF m 275 #[.val (.ref o), .val (.ref u), .val .null, .val .null, .val (.int (3 : Int32)), .val (.ref x3), .val .null] [])
  exact W.retV dop3_275 (⟨rfl, KP, b7, F_operands_o, Ab7, F_size_b7, b11, _, F_elementData_b7, Vb11⟩) (by decide) (by decide)

theorem dops_0 : decode prog_9_method_5_code 0 = .ok (.aload_n 0, 1) := by decide +kernel
theorem dops_1 : decode prog_9_method_5_code 1 = .ok (.getfield 26, 3) := by decide +kernel
theorem dops_4 : decode prog_9_method_5_code 4 = .ok (.invokeinterface 30 1, 5) := by decide +kernel
theorem dops_9 : decode prog_9_method_5_code 9 = .ok (.aload_n 1, 1) := by decide +kernel
theorem dops_10 : decode prog_9_method_5_code 10 = .ok (.arraylength, 1) := by decide +kernel
theorem dops_11 : decode prog_9_method_5_code 11 = .ok (.if_icmp .eq 68, 3) := by decide +kernel
theorem dops_79 : decode prog_9_method_5_code 79 = .ok (.aload_n 0, 1) := by decide +kernel
theorem dops_80 : decode prog_9_method_5_code 80 = .ok (.getfield 26, 3) := by decide +kernel
theorem dops_83 : decode prog_9_method_5_code 83 = .ok (.areturn, 1) := by decide +kernel
theorem efops (m : MethodId) (x0 : Addr) (x1 : Addr) : entryFrame m #[(.ref x0), (.ref x1)] 2 = mkF m 0 #[.val (.ref x0), .val (.ref x1)] [] := by first | (simp [entryFrame, mkF, argsToLocals, Value.category]; done) | rfl
set_option maxRecDepth 65536 in
set_option maxHeartbeats 40000000 in
theorem c_ops {l : Launch} {Z : State} {a0 : Array Value} {G1 : Int32} (X : Ctx Z a0 G1) (o u r : Addr) (ku : ClassId) (zn : Int32) (vs : List Value) (h0 : Heap) (hE : Ext Z.heap h0) (FO : Fld Z h0 o "com/example/hataraki/hataraki/cli/Options" "operands" "Ljava/util/List;" (.ref r)) (Ar : Exa Z h0 r "java/util/ArrayList") (FS : Fld Z h0 r "java/util/ArrayList" "size" "I" (.int zn)) (V : Arv Z h0 u ku (.object "java/lang/String") zn vs .null) :
    Con l Z consts_1 (⟨"com/example/hataraki/hataraki/cli/Options", "operands", "([Ljava/lang/String;)Ljava/util/List;"⟩ : MethodName) prog_9_method_5_code 2 (some (.object "java/util/List")) [] ({ frames := 1, cells := 0, slots := 0, locals := 12 } : Room) #[(.ref o), (.ref u)] h0 (fun v h => v = some (.ref r) ∧ h0 = h) := by
  refine Con.intro (plainFor_of_name pn_13) hE X.el ?_
  intro p e s m below meth c T W
  have hsz := W.size
  refine Go.cast (efops m o u) ?_
  refine Go.step (fun _ k => XS.aloadN W.here W.hx rfl (W.d dops_0) rfl rfl k) ?_
  show Go _ _ _ _ _ _ _ _ _ _ (mkF m 1 #[.val (.ref o), .val (.ref u)] [(.ref o)])
  refine W.getF (host := "") (Or.inl (X.w 99 rfl)) Via.refl FO dops_1 ?_
  intro T W
  show Go _ _ _ _ _ _ _ _ _ _ (mkF m 4 #[.val (.ref o), .val (.ref u)] [(.ref r)])
  refine W.iface (X.w 101 rfl) (X.w 102 rfl) (X.w 103 rfl) (X.w 104 rfl) (X.w 105 rfl) (X.w 106 rfl) (X.w 107 rfl) (X.w 108 rfl) (X.w 28 rfl) (X.w 109 rfl) (by decide) (c_size X r zn _ W.ext FS) (by decide) (Wd := 0) (by decide) r Ar [] [] rfl pd_14 rfl rfl rfl (Nat.le_of_eq rfl) dops_4 (by decide) (by decide) ?_
  intro v T h vm W hQ C
  obtain ⟨rfl, rfl⟩ := hQ
  show Go _ _ _ _ _ _ _ _ _ _ (mkF m 9 #[.val (.ref o), .val (.ref u)] [(.int zn)])
  refine Go.step (fun _ k => XS.aloadN W.here W.hx rfl (W.d dops_9) rfl rfl k) ?_
  show Go _ _ _ _ _ _ _ _ _ _ (mkF m 10 #[.val (.ref o), .val (.ref u)] [(.ref u), (.int zn)])
  refine W.arraylength V dops_10 ?_
  show Go _ _ _ _ _ _ _ _ _ _ (mkF m 11 #[.val (.ref o), .val (.ref u)] [(.int zn), (.int zn)])
  refine Go.step (fun _ k => XS.icmpYes W.here W.hx rfl (pc0 := 11) (pc' := 79) rfl (W.d dops_11) rfl (teq (rfl : zn = zn)).1 (by decide) (by decide) k) ?_
  show Go _ _ _ _ _ _ _ _ _ _ (mkF m 79 #[.val (.ref o), .val (.ref u)] [])
  refine Go.step (fun _ k => XS.aloadN W.here W.hx rfl (W.d dops_79) rfl rfl k) ?_
  show Go _ _ _ _ _ _ _ _ _ _ (mkF m 80 #[.val (.ref o), .val (.ref u)] [(.ref o)])
  refine W.getF (host := "") (Or.inl (X.w 99 rfl)) Via.refl FO dops_80 ?_
  intro T W
  show Go _ _ _ _ _ _ _ _ _ _ (mkF m 83 #[.val (.ref o), .val (.ref u)] [(.ref r)])
  exact W.retR rfl rfl rfl dops_83 (⟨rfl, rfl⟩) (by decide) (by decide)

theorem dseq_0 : decode jdk_42_method_66_code 0 = .ok (.aload_n 0, 1) := by decide +kernel
theorem dseq_1 : decode jdk_42_method_66_code 1 = .ok (.aload_n 1, 1) := by decide +kernel
theorem dseq_2 : decode jdk_42_method_66_code 2 = .ok (.if_acmp .ne 5, 3) := by decide +kernel
theorem dseq_5 : decode jdk_42_method_66_code 5 = .ok (.iconst 1, 1) := by decide +kernel
theorem dseq_6 : decode jdk_42_method_66_code 6 = .ok (.ireturn, 1) := by decide +kernel
theorem efseq (m : MethodId) (x0 : Addr) (x1 : Addr) : entryFrame m #[(.ref x0), (.ref x1)] 3 = mkF m 0 #[.val (.ref x0), .val (.ref x1), .unset] [] := by first | (simp [entryFrame, mkF, argsToLocals, Value.category]; done) | rfl
set_option maxRecDepth 65536 in
set_option maxHeartbeats 40000000 in
theorem c_seq {l : Launch} {Z : State} {a0 : Array Value} {G1 : Int32} (X : Ctx Z a0 G1) (a : Addr) (h0 : Heap) (hE : Ext Z.heap h0)  :
    Con l Z consts_1 (⟨"java/lang/String", "equals", "(Ljava/lang/Object;)Z"⟩ : MethodName) jdk_42_method_66_code 3 (some .boolean) [] ({ frames := 0, cells := 0, slots := 0, locals := 0 } : Room) #[(.ref a), (.ref a)] h0 (fun v h => v = some (.int 1) ∧ h0 = h) := by
  refine Con.intro (plainFor_of_name pn_0) hE X.el ?_
  intro p e s m below meth c T W
  have hsz := W.size
  refine Go.cast (efseq m a a) ?_
  refine Go.step (fun _ k => XS.aloadN W.here W.hx rfl (W.d dseq_0) rfl rfl k) ?_
  show Go _ _ _ _ _ _ _ _ _ _ (mkF m 1 #[.val (.ref a), .val (.ref a), .unset] [(.ref a)])
  refine Go.step (fun _ k => XS.aloadN W.here W.hx rfl (W.d dseq_1) rfl rfl k) ?_
  show Go _ _ _ _ _ _ _ _ _ _ (mkF m 2 #[.val (.ref a), .val (.ref a), .unset] [(.ref a), (.ref a)])
  refine W.acmp (pc' := 5) (same := true) rfl rfl dseq_2 (decide_eq_true rfl) (by decide) (by decide) ?_
  show Go _ _ _ _ _ _ _ _ _ _ (mkF m 5 #[.val (.ref a), .val (.ref a), .unset] [])
  refine Go.step (fun _ k => XS.iconst W.here W.hx rfl (W.d dseq_5) k) ?_
  show Go _ _ _ _ _ _ _ _ _ _ (mkF m 6 #[.val (.ref a), .val (.ref a), .unset] [(.int (1 : Int32))])
  exact W.retN (by simp) dseq_6 (⟨rfl, rfl⟩) (by decide) (by decide)

theorem dat0_0 : decode method_3_code 0 = .ok (.iload_n 1, 1) := by decide +kernel
theorem dat0_1 : decode method_3_code 1 = .ok (.iload_n 2, 1) := by decide +kernel
theorem dat0_2 : decode method_3_code 2 = .ok (.if_icmp .ge 17, 3) := by decide +kernel
theorem dat0_19 : decode method_3_code 19 = .ok (.iconst 1, 1) := by decide +kernel
theorem dat0_20 : decode method_3_code 20 = .ok (.goto 4, 3) := by decide +kernel
theorem dat0_24 : decode method_3_code 24 = .ok (.ireturn, 1) := by decide +kernel
theorem efat0 (m : MethodId) (x0 : Addr) (x1 : Int32) (x2 : Int32) (x3 : Addr) : entryFrame m #[(.ref x0), (.int x1), (.int x2), (.ref x3)] 4 = mkF m 0 #[.val (.ref x0), .val (.int x1), .val (.int x2), .val (.ref x3)] [] := by first | (simp [entryFrame, mkF, argsToLocals, Value.category]; done) | rfl
set_option maxRecDepth 65536 in
set_option maxHeartbeats 40000000 in
theorem c_at0 {l : Launch} {Z : State} {a0 : Array Value} {G1 : Int32} (X : Ctx Z a0 G1) (u y0 : Addr) (ix zn : Int32) (h0 : Heap) (hE : Ext Z.heap h0) (q : ¬ ix < zn) :
    Con l Z consts_1 (⟨"com/example/hataraki/hataraki/cli/OptionsOperandsPinLaw", "at", "(Ljava/util/List;IILjava/lang/String;)Z"⟩ : MethodName) method_3_code 4 (some .boolean) [] ({ frames := 0, cells := 0, slots := 0, locals := 0 } : Room) #[(.ref u), (.int ix), (.int zn), (.ref y0)] h0 (fun v h => v = some (.int 1) ∧ h0 = h) := by
  refine Con.intro (plainFor_of_name pn_2) hE X.el ?_
  intro p e s m below meth c T W
  have hsz := W.size
  refine Go.cast (efat0 m u ix zn y0) ?_
  refine Go.step (fun _ k => XS.iloadN W.here W.hx rfl (W.d dat0_0) rfl k) ?_
  show Go _ _ _ _ _ _ _ _ _ _ (mkF m 1 #[.val (.ref u), .val (.int ix), .val (.int zn), .val (.ref y0)] [(.int ix)])
  refine Go.step (fun _ k => XS.iloadN W.here W.hx rfl (W.d dat0_1) rfl k) ?_
  show Go _ _ _ _ _ _ _ _ _ _ (mkF m 2 #[.val (.ref u), .val (.int ix), .val (.int zn), .val (.ref y0)] [(.int zn), (.int ix)])
  refine Go.step (fun _ k => XS.icmpYes W.here W.hx rfl (pc0 := 2) (pc' := 19) rfl (W.d dat0_2) rfl (flt q).2.1 (by decide) (by decide) k) ?_
  show Go _ _ _ _ _ _ _ _ _ _ (mkF m 19 #[.val (.ref u), .val (.int ix), .val (.int zn), .val (.ref y0)] [])
  refine Go.step (fun _ k => XS.iconst W.here W.hx rfl (W.d dat0_19) k) ?_
  show Go _ _ _ _ _ _ _ _ _ _ (mkF m 20 #[.val (.ref u), .val (.int ix), .val (.int zn), .val (.ref y0)] [(.int (1 : Int32))])
  refine Go.step (fun _ k => XS.goto W.here W.hx rfl (pc0 := 20) (pc' := 24) rfl (W.d dat0_20) (by decide) (by decide) k) ?_
  show Go _ _ _ _ _ _ _ _ _ _ (mkF m 24 #[.val (.ref u), .val (.int ix), .val (.int zn), .val (.ref y0)] [(.int (1 : Int32))])
  exact W.retN (by simp) dat0_24 (⟨rfl, rfl⟩) (by decide) (by decide)

theorem dat1_0 : decode method_3_code 0 = .ok (.iload_n 1, 1) := by decide +kernel
theorem dat1_1 : decode method_3_code 1 = .ok (.iload_n 2, 1) := by decide +kernel
theorem dat1_2 : decode method_3_code 2 = .ok (.if_icmp .ge 17, 3) := by decide +kernel
theorem dat1_5 : decode method_3_code 5 = .ok (.aload_n 3, 1) := by decide +kernel
theorem dat1_6 : decode method_3_code 6 = .ok (.aload_n 0, 1) := by decide +kernel
theorem dat1_7 : decode method_3_code 7 = .ok (.iload_n 1, 1) := by decide +kernel
theorem dat1_8 : decode method_3_code 8 = .ok (.invokeinterface 16 2, 5) := by decide +kernel
theorem dat1_13 : decode method_3_code 13 = .ok (.invokevirtual 22, 3) := by decide +kernel
theorem dat1_16 : decode method_3_code 16 = .ok (.ifCond .eq 7, 3) := by decide +kernel
theorem dat1_19 : decode method_3_code 19 = .ok (.iconst 1, 1) := by decide +kernel
theorem dat1_20 : decode method_3_code 20 = .ok (.goto 4, 3) := by decide +kernel
theorem dat1_24 : decode method_3_code 24 = .ok (.ireturn, 1) := by decide +kernel
theorem efat1 (m : MethodId) (x0 : Addr) (x1 : Int32) (x2 : Int32) (x3 : Addr) : entryFrame m #[(.ref x0), (.int x1), (.int x2), (.ref x3)] 4 = mkF m 0 #[.val (.ref x0), .val (.int x1), .val (.int x2), .val (.ref x3)] [] := by first | (simp [entryFrame, mkF, argsToLocals, Value.category]; done) | rfl
set_option maxRecDepth 65536 in
set_option maxHeartbeats 40000000 in
theorem c_at1 {l : Launch} {Z : State} {a0 : Array Value} {G1 : Int32} (X : Ctx Z a0 G1) (a t y0 : Addr) (kt : ClassId) (vs : List Value) (ix zn : Int32) (h0 : Heap) (hE : Ext Z.heap h0) (Aa : Exa Z h0 a "java/util/ArrayList") (Ay0 : Exa Z h0 y0 "java/lang/String") (FS : Fld Z h0 a "java/util/ArrayList" "size" "I" (.int zn)) (FE : Fld Z h0 a "java/util/ArrayList" "elementData" "[Ljava/lang/Object;" (.ref t)) (V : Arv Z h0 t kt (.object "java/lang/Object") (10 : Int32) vs .null) (q0 : ¬ ix < 0) (q1 : ix < zn) (q2 : ix < 10) (hv : vs.getD ix.toNatClampNeg .null = .ref y0) :
    Con l Z consts_1 (⟨"com/example/hataraki/hataraki/cli/OptionsOperandsPinLaw", "at", "(Ljava/util/List;IILjava/lang/String;)Z"⟩ : MethodName) method_3_code 4 (some .boolean) [] ({ frames := 3, cells := 0, slots := 0, locals := 41 } : Room) #[(.ref a), (.int ix), (.int zn), (.ref y0)] h0 (fun v h => v = some (.int 1) ∧ h0 = h) := by
  refine Con.intro (plainFor_of_name pn_2) hE X.el ?_
  intro p e s m below meth c T W
  have hsz := W.size
  refine Go.cast (efat1 m a ix zn y0) ?_
  refine Go.step (fun _ k => XS.iloadN W.here W.hx rfl (W.d dat1_0) rfl k) ?_
  show Go _ _ _ _ _ _ _ _ _ _ (mkF m 1 #[.val (.ref a), .val (.int ix), .val (.int zn), .val (.ref y0)] [(.int ix)])
  refine Go.step (fun _ k => XS.iloadN W.here W.hx rfl (W.d dat1_1) rfl k) ?_
  show Go _ _ _ _ _ _ _ _ _ _ (mkF m 2 #[.val (.ref a), .val (.int ix), .val (.int zn), .val (.ref y0)] [(.int zn), (.int ix)])
  refine Go.step (fun _ k => XS.icmpNo W.here W.hx rfl (W.d dat1_2) rfl (tlt q1).2.1 k) ?_
  show Go _ _ _ _ _ _ _ _ _ _ (mkF m 5 #[.val (.ref a), .val (.int ix), .val (.int zn), .val (.ref y0)] [])
  refine Go.step (fun _ k => XS.aloadN W.here W.hx rfl (W.d dat1_5) rfl rfl k) ?_
  show Go _ _ _ _ _ _ _ _ _ _ (mkF m 6 #[.val (.ref a), .val (.int ix), .val (.int zn), .val (.ref y0)] [(.ref y0)])
  refine Go.step (fun _ k => XS.aloadN W.here W.hx rfl (W.d dat1_6) rfl rfl k) ?_
  show Go _ _ _ _ _ _ _ _ _ _ (mkF m 7 #[.val (.ref a), .val (.int ix), .val (.int zn), .val (.ref y0)] [(.ref a), (.ref y0)])
  refine Go.step (fun _ k => XS.iloadN W.here W.hx rfl (W.d dat1_7) rfl k) ?_
  show Go _ _ _ _ _ _ _ _ _ _ (mkF m 8 #[.val (.ref a), .val (.int ix), .val (.int zn), .val (.ref y0)] [(.int ix), (.ref a), (.ref y0)])
  refine W.iface (X.w 200 rfl) (X.w 151 rfl) (X.w 152 rfl) (X.w 153 rfl) (X.w 154 rfl) (X.w 155 rfl) (X.w 156 rfl) (X.w 108 rfl) (X.w 28 rfl) (X.w 157 rfl) (by decide) (c_get X a t y0 _ _ ix zn _ W.ext Aa FS FE V q0 q1 q2 hv) (by decide) (Wd := 1) (by decide) a Aa [(.int ix)] [(.ref y0)] rfl pd_9 rfl rfl rfl (Nat.le_of_eq rfl) dat1_8 (by decide) (by decide) ?_
  intro v T h vm W hQ C
  obtain ⟨rfl, rfl⟩ := hQ
  show Go _ _ _ _ _ _ _ _ _ _ (mkF m 13 #[.val (.ref a), .val (.int ix), .val (.int zn), .val (.ref y0)] [(.ref y0), (.ref y0)])
  refine W.virtual (X.w 201 rfl) (X.w 202 rfl) (notFace_of_selects (args := #[]) (mvT W.hZ (X.w 204 rfl))) (X.w 204 rfl) (X.w 203 rfl) (X.w 6 rfl) (X.w 205 rfl) (by decide) (c_seq X y0 _ W.ext) (by decide) (Wd := 0) (by decide) y0 Ay0 [(.ref y0)] [] rfl pd_18 rfl rfl rfl (Nat.le_of_eq rfl) dat1_13 (by decide) (by decide) ?_
  intro v T h vm W hQ C
  obtain ⟨rfl, rfl⟩ := hQ
  show Go _ _ _ _ _ _ _ _ _ _ (mkF m 16 #[.val (.ref a), .val (.int ix), .val (.int zn), .val (.ref y0)] [(.int (1 : Int32))])
  refine Go.step (fun _ k => XS.ifNo W.here W.hx rfl (W.d dat1_16) rfl ((if0 _ _).trans (feq (by decide : ¬ ((1 : Int32) = (0 : Int32)))).1) k) ?_
  show Go _ _ _ _ _ _ _ _ _ _ (mkF m 19 #[.val (.ref a), .val (.int ix), .val (.int zn), .val (.ref y0)] [])
  refine Go.step (fun _ k => XS.iconst W.here W.hx rfl (W.d dat1_19) k) ?_
  show Go _ _ _ _ _ _ _ _ _ _ (mkF m 20 #[.val (.ref a), .val (.int ix), .val (.int zn), .val (.ref y0)] [(.int (1 : Int32))])
  refine Go.step (fun _ k => XS.goto W.here W.hx rfl (pc0 := 20) (pc' := 24) rfl (W.d dat1_20) (by decide) (by decide) k) ?_
  show Go _ _ _ _ _ _ _ _ _ _ (mkF m 24 #[.val (.ref a), .val (.int ix), .val (.int zn), .val (.ref y0)] [(.int (1 : Int32))])
  exact W.retN (by simp) dat1_24 (⟨rfl, rfl⟩) (by decide) (by decide)

abbrev M4 (z : Int32) : Prop := z = 0 ∨ z = 1 ∨ z = 2 ∨ z = 3
theorem ef0 (m : MethodId) (x0 : Int32) (x1 : Int32) (x2 : Int32) (x3 : Int32) : entryFrame m #[(.int x0), (.int x1), (.int x2), (.int x3)] maxLocals = mkF m 0 #[.val (.int x0), .val (.int x1), .val (.int x2), .val (.int x3), .unset, .unset, .unset, .unset, .unset, .unset, .unset, .unset] [] := by first | (simp [entryFrame, mkF, argsToLocals, Value.category, maxLocals]; done) | rfl
set_option maxRecDepth 65536 in
set_option maxHeartbeats 40000000 in
theorem c_law {l : Launch} {Z : State} {a0 : Array Value} {G1 : Int32} (X : Ctx Z a0 G1) (p0 p1 p2 p3 : Int32) (h0 : Heap) (hE : Ext Z.heap h0) (D : Addr) (kD : ClassId) (Y : Dft Z D kD) :
    Con l Z consts_1 x code maxLocals ret tables_1 room_1 #[(.int p0), (.int p1), (.int p2), (.int p3)] h0 (fun v _ => v = some (.int 1)) := by
  refine Con.intro (plainFor_of_name pn_2) hE X.el ?_
  intro p e s m below meth c T W
  have hsz := W.size
  refine Go.cast (ef0 m p0 p1 p2 p3) ?_
  refine Go.step (fun _ k => XS.iloadN W.here W.hx rfl (W.d at_0) rfl k) ?_
  show Go _ _ _ _ _ _ _ _ _ _ (mkF m 1 #[.val (.int p0), .val (.int p1), .val (.int p2), .val (.int p3), .unset, .unset, .unset, .unset, .unset, .unset, .unset, .unset] [(.int p0)])
  refine Go.step (fun _ k => XS.iconst W.here W.hx rfl (W.d at_1) k) ?_
  show Go _ _ _ _ _ _ _ _ _ _ (mkF m 2 #[.val (.int p0), .val (.int p1), .val (.int p2), .val (.int p3), .unset, .unset, .unset, .unset, .unset, .unset, .unset, .unset] [(.int (3 : Int32)), (.int p0)])
  refine Go.step (fun _ k => XS.iand W.here W.hx rfl (W.d at_2) rfl k) ?_
  show Go _ _ _ _ _ _ _ _ _ _ (mkF m 3 #[.val (.int p0), .val (.int p1), .val (.int p2), .val (.int p3), .unset, .unset, .unset, .unset, .unset, .unset, .unset, .unset] [(.int (p0 &&& (3 : Int32)))])
  refine Go.step (fun _ k => XS.istore W.here W.hx rfl (W.d at_3) rfl (l' := #[.val (.int p0), .val (.int p1), .val (.int p2), .val (.int p3), .val (.int (p0 &&& (3 : Int32))), .unset, .unset, .unset, .unset, .unset, .unset, .unset]) rfl k) ?_
  show Go _ _ _ _ _ _ _ _ _ _ (mkF m 5 #[.val (.int p0), .val (.int p1), .val (.int p2), .val (.int p3), .val (.int (p0 &&& (3 : Int32))), .unset, .unset, .unset, .unset, .unset, .unset, .unset] [])
  have t_n : M4 (p0 &&& (3 : Int32)) := mask3 _
  generalize (p0 &&& (3 : Int32)) = n at t_n ⊢
  refine Go.step (fun _ k => XS.iloadN W.here W.hx rfl (W.d at_5) rfl k) ?_
  show Go _ _ _ _ _ _ _ _ _ _ (mkF m 6 #[.val (.int p0), .val (.int p1), .val (.int p2), .val (.int p3), .val (.int n), .unset, .unset, .unset, .unset, .unset, .unset, .unset] [(.int p1)])
  refine W.callS (X.w 0 rfl) (X.w 1 rfl) (X.w 2 rfl) (X.w 3 rfl) (by decide) (c_mk X p1 _ W.ext) (by decide) (Wd := 0) (by decide) [(.int p1)] [] rfl pd_19 rfl rfl rfl (Nat.le_of_eq rfl) at_6 (by decide) (by decide) ?_
  intro v T h vm W hQ C
  obtain ⟨b1, cb1, rfl, gb1, Kb1, Sb1, Nb1⟩ := hQ
  replace hsz := W.size
  show Go _ _ _ _ _ _ _ _ _ _ (mkF m 9 #[.val (.int p0), .val (.int p1), .val (.int p2), .val (.int p3), .val (.int n), .unset, .unset, .unset, .unset, .unset, .unset, .unset] [(.ref b1)])
  refine Go.step (fun _ k => XS.astore W.here W.hx rfl (W.d at_9) rfl rfl (l' := #[.val (.int p0), .val (.int p1), .val (.int p2), .val (.int p3), .val (.int n), .val (.ref b1), .unset, .unset, .unset, .unset, .unset, .unset]) rfl k) ?_
  show Go _ _ _ _ _ _ _ _ _ _ (mkF m 11 #[.val (.int p0), .val (.int p1), .val (.int p2), .val (.int p3), .val (.int n), .val (.ref b1), .unset, .unset, .unset, .unset, .unset, .unset] [])
  refine Go.step (fun _ k => XS.iloadN W.here W.hx rfl (W.d at_11) rfl k) ?_
  show Go _ _ _ _ _ _ _ _ _ _ (mkF m 12 #[.val (.int p0), .val (.int p1), .val (.int p2), .val (.int p3), .val (.int n), .val (.ref b1), .unset, .unset, .unset, .unset, .unset, .unset] [(.int p2)])
  refine W.callS (X.w 0 rfl) (X.w 1 rfl) (X.w 2 rfl) (X.w 3 rfl) (by decide) (c_mk X p2 _ W.ext) (by decide) (Wd := 0) (by decide) [(.int p2)] [] rfl pd_19 rfl rfl rfl (Nat.le_of_eq rfl) at_12 (by decide) (by decide) ?_
  intro v T h vm W hQ C
  obtain ⟨b2, cb2, rfl, gb2, Kb2, Sb2, Nb2⟩ := hQ
  replace Sb1 := Sb1.keep0 Kb2
  replace hsz := W.size
  show Go _ _ _ _ _ _ _ _ _ _ (mkF m 15 #[.val (.int p0), .val (.int p1), .val (.int p2), .val (.int p3), .val (.int n), .val (.ref b1), .unset, .unset, .unset, .unset, .unset, .unset] [(.ref b2)])
  refine Go.step (fun _ k => XS.astore W.here W.hx rfl (W.d at_15) rfl rfl (l' := #[.val (.int p0), .val (.int p1), .val (.int p2), .val (.int p3), .val (.int n), .val (.ref b1), .val (.ref b2), .unset, .unset, .unset, .unset, .unset]) rfl k) ?_
  show Go _ _ _ _ _ _ _ _ _ _ (mkF m 17 #[.val (.int p0), .val (.int p1), .val (.int p2), .val (.int p3), .val (.int n), .val (.ref b1), .val (.ref b2), .unset, .unset, .unset, .unset, .unset] [])
  refine Go.step (fun _ k => XS.iloadN W.here W.hx rfl (W.d at_17) rfl k) ?_
  show Go _ _ _ _ _ _ _ _ _ _ (mkF m 18 #[.val (.int p0), .val (.int p1), .val (.int p2), .val (.int p3), .val (.int n), .val (.ref b1), .val (.ref b2), .unset, .unset, .unset, .unset, .unset] [(.int p3)])
  refine W.callS (X.w 0 rfl) (X.w 1 rfl) (X.w 2 rfl) (X.w 3 rfl) (by decide) (c_mk X p3 _ W.ext) (by decide) (Wd := 0) (by decide) [(.int p3)] [] rfl pd_19 rfl rfl rfl (Nat.le_of_eq rfl) at_18 (by decide) (by decide) ?_
  intro v T h vm W hQ C
  obtain ⟨b3, cb3, rfl, gb3, Kb3, Sb3, Nb3⟩ := hQ
  replace Sb1 := Sb1.keep0 Kb3
  replace Sb2 := Sb2.keep0 Kb3
  replace hsz := W.size
  show Go _ _ _ _ _ _ _ _ _ _ (mkF m 21 #[.val (.int p0), .val (.int p1), .val (.int p2), .val (.int p3), .val (.int n), .val (.ref b1), .val (.ref b2), .unset, .unset, .unset, .unset, .unset] [(.ref b3)])
  refine Go.step (fun _ k => XS.astore W.here W.hx rfl (W.d at_21) rfl rfl (l' := #[.val (.int p0), .val (.int p1), .val (.int p2), .val (.int p3), .val (.int n), .val (.ref b1), .val (.ref b2), .val (.ref b3), .unset, .unset, .unset, .unset]) rfl k) ?_
  show Go _ _ _ _ _ _ _ _ _ _ (mkF m 23 #[.val (.int p0), .val (.int p1), .val (.int p2), .val (.int p3), .val (.int n), .val (.ref b1), .val (.ref b2), .val (.ref b3), .unset, .unset, .unset, .unset] [])
  rcases t_n with rfl | rfl | rfl | rfl
  · show Go _ _ _ _ _ _ _ _ _ _ (mkF m 23 #[.val (.int p0), .val (.int p1), .val (.int p2), .val (.int p3), .val (.int (0 : Int32)), .val (.ref b1), .val (.ref b2), .val (.ref b3), .unset, .unset, .unset, .unset] [])
    refine W.new (X.w 26 rfl) (X.w 27 rfl) (X.w 28 rfl) at_23 (by decide) (by decide) ?_
    intro T h b4 hb4 W Eb4 Ab4 Db4
    have ne_b1_b4 : b1 ≠ b4 := by rw [hb4]; exact Nat.ne_of_lt Sb1.exa.lt
    have ne_b2_b4 : b2 ≠ b4 := by rw [hb4]; exact Nat.ne_of_lt Sb2.exa.lt
    have ne_b3_b4 : b3 ≠ b4 := by rw [hb4]; exact Nat.ne_of_lt Sb3.exa.lt
    have gb4 : Z.heap.size ≤ b4 := by rw [hb4]; exact hsz
    replace Sb1 := Sb1.ext Eb4
    replace Sb2 := Sb2.ext Eb4
    replace Sb3 := Sb3.ext Eb4
    replace hsz := W.size
    have F_modCount_b4 : Fld Z h b4 "java/util/AbstractList" "modCount" "I" (.int (0 : Int32)) := Db4 (Or.inl (X.w 46 rfl)) (ty := .int) (by decide)
    have F_elementData_b4 : Fld Z h b4 "java/util/ArrayList" "elementData" "[Ljava/lang/Object;" .null := Db4 (Or.inl (X.w 49 rfl)) (ty := (.array (.object "java/lang/Object"))) (by decide)
    have F_size_b4 : Fld Z h b4 "java/util/ArrayList" "size" "I" (.int (0 : Int32)) := Db4 (Or.inl (X.w 111 rfl)) (ty := .int) (by decide)
    show Go _ _ _ _ _ _ _ _ _ _ (mkF m 26 #[.val (.int p0), .val (.int p1), .val (.int p2), .val (.int p3), .val (.int (0 : Int32)), .val (.ref b1), .val (.ref b2), .val (.ref b3), .unset, .unset, .unset, .unset] [(.ref b4)])
    refine Go.step (fun _ k => XS.dup W.here W.hx rfl (W.d at_26) rfl rfl k) ?_
    show Go _ _ _ _ _ _ _ _ _ _ (mkF m 27 #[.val (.int p0), .val (.int p1), .val (.int p2), .val (.int p3), .val (.int (0 : Int32)), .val (.ref b1), .val (.ref b2), .val (.ref b3), .unset, .unset, .unset, .unset] [(.ref b4), (.ref b4)])
    refine W.special rfl (X.w 29 rfl) (X.w 30 rfl) (X.w 28 rfl) (X.w 31 rfl) (by decide) (c_ali X b4 D _ _ W.ext Y gb4 Ab4 F_modCount_b4 F_elementData_b4 F_size_b4) (by decide) (Wd := 1) (by decide) b4 [] [(.ref b4)] rfl pd_6 rfl rfl rfl (Nat.le_of_eq rfl) at_27 (by decide) (by decide) ?_
    intro v T h vm W hQ C
    obtain ⟨rfl, Ka5, F_modCount_b4', F_elementData_b4', F_size_b4'⟩ := hQ
    replace Sb1 := Sb1.keepE Ka5 Ab4 (by decide) (X.w 27 rfl)
    replace Sb2 := Sb2.keepE Ka5 Ab4 (by decide) (X.w 27 rfl)
    replace Sb3 := Sb3.keepE Ka5 Ab4 (by decide) (X.w 27 rfl)
    replace Ab4 := Ab4.keep Ka5
    replace hsz := W.size
    replace F_modCount_b4 := F_modCount_b4'
    replace F_elementData_b4 := F_elementData_b4'
    replace F_size_b4 := F_size_b4'
    show Go _ _ _ _ _ _ _ _ _ _ (mkF m 30 #[.val (.int p0), .val (.int p1), .val (.int p2), .val (.int p3), .val (.int (0 : Int32)), .val (.ref b1), .val (.ref b2), .val (.ref b3), .unset, .unset, .unset, .unset] [(.ref b4)])
    refine Go.step (fun _ k => XS.astore W.here W.hx rfl (W.d at_30) rfl rfl (l' := #[.val (.int p0), .val (.int p1), .val (.int p2), .val (.int p3), .val (.int (0 : Int32)), .val (.ref b1), .val (.ref b2), .val (.ref b3), .val (.ref b4), .unset, .unset, .unset]) rfl k) ?_
    show Go _ _ _ _ _ _ _ _ _ _ (mkF m 32 #[.val (.int p0), .val (.int p1), .val (.int p2), .val (.int p3), .val (.int (0 : Int32)), .val (.ref b1), .val (.ref b2), .val (.ref b3), .val (.ref b4), .unset, .unset, .unset] [])
    refine Go.step (fun _ k => XS.iload W.here W.hx rfl (W.d at_32) rfl k) ?_
    show Go _ _ _ _ _ _ _ _ _ _ (mkF m 34 #[.val (.int p0), .val (.int p1), .val (.int p2), .val (.int p3), .val (.int (0 : Int32)), .val (.ref b1), .val (.ref b2), .val (.ref b3), .val (.ref b4), .unset, .unset, .unset] [(.int (0 : Int32))])
    refine Go.step (fun _ k => XS.ifYes W.here W.hx rfl (pc0 := 34) (pc' := 45) rfl (W.d at_34) rfl ((if0 _ _).trans (flt (by decide : ¬ ((0 : Int32) < (0 : Int32)))).2.2.2) (by decide) (by decide) k) ?_
    show Go _ _ _ _ _ _ _ _ _ _ (mkF m 45 #[.val (.int p0), .val (.int p1), .val (.int p2), .val (.int p3), .val (.int (0 : Int32)), .val (.ref b1), .val (.ref b2), .val (.ref b3), .val (.ref b4), .unset, .unset, .unset] [])
    refine Go.step (fun _ k => XS.iload W.here W.hx rfl (W.d at_45) rfl k) ?_
    show Go _ _ _ _ _ _ _ _ _ _ (mkF m 47 #[.val (.int p0), .val (.int p1), .val (.int p2), .val (.int p3), .val (.int (0 : Int32)), .val (.ref b1), .val (.ref b2), .val (.ref b3), .val (.ref b4), .unset, .unset, .unset] [(.int (0 : Int32))])
    refine Go.step (fun _ k => XS.iconst W.here W.hx rfl (W.d at_47) k) ?_
    show Go _ _ _ _ _ _ _ _ _ _ (mkF m 48 #[.val (.int p0), .val (.int p1), .val (.int p2), .val (.int p3), .val (.int (0 : Int32)), .val (.ref b1), .val (.ref b2), .val (.ref b3), .val (.ref b4), .unset, .unset, .unset] [(.int (1 : Int32)), (.int (0 : Int32))])
    refine Go.step (fun _ k => XS.icmpYes W.here W.hx rfl (pc0 := 48) (pc' := 59) rfl (W.d at_48) rfl (flt (by decide : ¬ ((1 : Int32) < (0 : Int32)))).2.2.2 (by decide) (by decide) k) ?_
    show Go _ _ _ _ _ _ _ _ _ _ (mkF m 59 #[.val (.int p0), .val (.int p1), .val (.int p2), .val (.int p3), .val (.int (0 : Int32)), .val (.ref b1), .val (.ref b2), .val (.ref b3), .val (.ref b4), .unset, .unset, .unset] [])
    refine Go.step (fun _ k => XS.iload W.here W.hx rfl (W.d at_59) rfl k) ?_
    show Go _ _ _ _ _ _ _ _ _ _ (mkF m 61 #[.val (.int p0), .val (.int p1), .val (.int p2), .val (.int p3), .val (.int (0 : Int32)), .val (.ref b1), .val (.ref b2), .val (.ref b3), .val (.ref b4), .unset, .unset, .unset] [(.int (0 : Int32))])
    refine Go.step (fun _ k => XS.iconst W.here W.hx rfl (W.d at_61) k) ?_
    show Go _ _ _ _ _ _ _ _ _ _ (mkF m 62 #[.val (.int p0), .val (.int p1), .val (.int p2), .val (.int p3), .val (.int (0 : Int32)), .val (.ref b1), .val (.ref b2), .val (.ref b3), .val (.ref b4), .unset, .unset, .unset] [(.int (2 : Int32)), (.int (0 : Int32))])
    refine Go.step (fun _ k => XS.icmpYes W.here W.hx rfl (pc0 := 62) (pc' := 73) rfl (W.d at_62) rfl (flt (by decide : ¬ ((2 : Int32) < (0 : Int32)))).2.2.2 (by decide) (by decide) k) ?_
    show Go _ _ _ _ _ _ _ _ _ _ (mkF m 73 #[.val (.int p0), .val (.int p1), .val (.int p2), .val (.int p3), .val (.int (0 : Int32)), .val (.ref b1), .val (.ref b2), .val (.ref b3), .val (.ref b4), .unset, .unset, .unset] [])
    refine Go.step (fun _ k => XS.iload W.here W.hx rfl (W.d at_73) rfl k) ?_
    show Go _ _ _ _ _ _ _ _ _ _ (mkF m 75 #[.val (.int p0), .val (.int p1), .val (.int p2), .val (.int p3), .val (.int (0 : Int32)), .val (.ref b1), .val (.ref b2), .val (.ref b3), .val (.ref b4), .unset, .unset, .unset] [(.int (0 : Int32))])
    refine W.newref (X.w 4 rfl) (X.w 50 rfl) at_75 (by decide) (cap := 0) (by decide) (by decide) (by decide) (by decide) ?_
    intro T h b6 kb6 hb6 W Eb6 Vb6 Ob6
    have ne_b1_b6 : b1 ≠ b6 := by rw [hb6]; exact Nat.ne_of_lt Sb1.exa.lt
    have ne_b2_b6 : b2 ≠ b6 := by rw [hb6]; exact Nat.ne_of_lt Sb2.exa.lt
    have ne_b3_b6 : b3 ≠ b6 := by rw [hb6]; exact Nat.ne_of_lt Sb3.exa.lt
    have ne_b4_b6 : b4 ≠ b6 := by rw [hb6]; exact Nat.ne_of_lt Ab4.lt
    have gb6 : Z.heap.size ≤ b6 := by rw [hb6]; exact hsz
    replace Sb1 := Sb1.ext Eb6
    replace Sb2 := Sb2.ext Eb6
    replace Sb3 := Sb3.ext Eb6
    replace F_modCount_b4 := F_modCount_b4.ext Eb6
    replace F_elementData_b4 := F_elementData_b4.ext Eb6
    replace F_size_b4 := F_size_b4.ext Eb6
    replace Ab4 := Ab4.ext Eb6
    replace hsz := W.size
    replace Vb6 : Arv Z h b6 kb6 (.object "java/lang/String") (0 : Int32) [] .null := Vb6.pad (pad_rep [] .null 0)
    show Go _ _ _ _ _ _ _ _ _ _ (mkF m 78 #[.val (.int p0), .val (.int p1), .val (.int p2), .val (.int p3), .val (.int (0 : Int32)), .val (.ref b1), .val (.ref b2), .val (.ref b3), .val (.ref b4), .unset, .unset, .unset] [(.ref b6)])
    refine Go.step (fun _ k => XS.astore W.here W.hx rfl (W.d at_78) rfl rfl (l' := #[.val (.int p0), .val (.int p1), .val (.int p2), .val (.int p3), .val (.int (0 : Int32)), .val (.ref b1), .val (.ref b2), .val (.ref b3), .val (.ref b4), .val (.ref b6), .unset, .unset]) rfl k) ?_
    show Go _ _ _ _ _ _ _ _ _ _ (mkF m 80 #[.val (.int p0), .val (.int p1), .val (.int p2), .val (.int p3), .val (.int (0 : Int32)), .val (.ref b1), .val (.ref b2), .val (.ref b3), .val (.ref b4), .val (.ref b6), .unset, .unset] [])
    refine Go.step (fun _ k => XS.iload W.here W.hx rfl (W.d at_80) rfl k) ?_
    show Go _ _ _ _ _ _ _ _ _ _ (mkF m 82 #[.val (.int p0), .val (.int p1), .val (.int p2), .val (.int p3), .val (.int (0 : Int32)), .val (.ref b1), .val (.ref b2), .val (.ref b3), .val (.ref b4), .val (.ref b6), .unset, .unset] [(.int (0 : Int32))])
    refine Go.step (fun _ k => XS.ifYes W.here W.hx rfl (pc0 := 82) (pc' := 91) rfl (W.d at_82) rfl ((if0 _ _).trans (flt (by decide : ¬ ((0 : Int32) < (0 : Int32)))).2.2.2) (by decide) (by decide) k) ?_
    show Go _ _ _ _ _ _ _ _ _ _ (mkF m 91 #[.val (.int p0), .val (.int p1), .val (.int p2), .val (.int p3), .val (.int (0 : Int32)), .val (.ref b1), .val (.ref b2), .val (.ref b3), .val (.ref b4), .val (.ref b6), .unset, .unset] [])
    refine Go.step (fun _ k => XS.iload W.here W.hx rfl (W.d at_91) rfl k) ?_
    show Go _ _ _ _ _ _ _ _ _ _ (mkF m 93 #[.val (.int p0), .val (.int p1), .val (.int p2), .val (.int p3), .val (.int (0 : Int32)), .val (.ref b1), .val (.ref b2), .val (.ref b3), .val (.ref b4), .val (.ref b6), .unset, .unset] [(.int (0 : Int32))])
    refine Go.step (fun _ k => XS.iconst W.here W.hx rfl (W.d at_93) k) ?_
    show Go _ _ _ _ _ _ _ _ _ _ (mkF m 94 #[.val (.int p0), .val (.int p1), .val (.int p2), .val (.int p3), .val (.int (0 : Int32)), .val (.ref b1), .val (.ref b2), .val (.ref b3), .val (.ref b4), .val (.ref b6), .unset, .unset] [(.int (1 : Int32)), (.int (0 : Int32))])
    refine Go.step (fun _ k => XS.icmpYes W.here W.hx rfl (pc0 := 94) (pc' := 103) rfl (W.d at_94) rfl (flt (by decide : ¬ ((1 : Int32) < (0 : Int32)))).2.2.2 (by decide) (by decide) k) ?_
    show Go _ _ _ _ _ _ _ _ _ _ (mkF m 103 #[.val (.int p0), .val (.int p1), .val (.int p2), .val (.int p3), .val (.int (0 : Int32)), .val (.ref b1), .val (.ref b2), .val (.ref b3), .val (.ref b4), .val (.ref b6), .unset, .unset] [])
    refine Go.step (fun _ k => XS.iload W.here W.hx rfl (W.d at_103) rfl k) ?_
    show Go _ _ _ _ _ _ _ _ _ _ (mkF m 105 #[.val (.int p0), .val (.int p1), .val (.int p2), .val (.int p3), .val (.int (0 : Int32)), .val (.ref b1), .val (.ref b2), .val (.ref b3), .val (.ref b4), .val (.ref b6), .unset, .unset] [(.int (0 : Int32))])
    refine Go.step (fun _ k => XS.iconst W.here W.hx rfl (W.d at_105) k) ?_
    show Go _ _ _ _ _ _ _ _ _ _ (mkF m 106 #[.val (.int p0), .val (.int p1), .val (.int p2), .val (.int p3), .val (.int (0 : Int32)), .val (.ref b1), .val (.ref b2), .val (.ref b3), .val (.ref b4), .val (.ref b6), .unset, .unset] [(.int (2 : Int32)), (.int (0 : Int32))])
    refine Go.step (fun _ k => XS.icmpYes W.here W.hx rfl (pc0 := 106) (pc' := 115) rfl (W.d at_106) rfl (flt (by decide : ¬ ((2 : Int32) < (0 : Int32)))).2.2.2 (by decide) (by decide) k) ?_
    show Go _ _ _ _ _ _ _ _ _ _ (mkF m 115 #[.val (.int p0), .val (.int p1), .val (.int p2), .val (.int p3), .val (.int (0 : Int32)), .val (.ref b1), .val (.ref b2), .val (.ref b3), .val (.ref b4), .val (.ref b6), .unset, .unset] [])
    refine W.new (X.w 51 rfl) (X.w 52 rfl) (X.w 53 rfl) at_115 (by decide) (by decide) ?_
    intro T h b7 hb7 W Eb7 Ab7 Db7
    have ne_b1_b7 : b1 ≠ b7 := by rw [hb7]; exact Nat.ne_of_lt Sb1.exa.lt
    have ne_b2_b7 : b2 ≠ b7 := by rw [hb7]; exact Nat.ne_of_lt Sb2.exa.lt
    have ne_b3_b7 : b3 ≠ b7 := by rw [hb7]; exact Nat.ne_of_lt Sb3.exa.lt
    have ne_b4_b7 : b4 ≠ b7 := by rw [hb7]; exact Nat.ne_of_lt Ab4.lt
    have ne_b6_b7 : b6 ≠ b7 := by rw [hb7]; exact Nat.ne_of_lt Vb6.lt
    have gb7 : Z.heap.size ≤ b7 := by rw [hb7]; exact hsz
    replace Sb1 := Sb1.ext Eb7
    replace Sb2 := Sb2.ext Eb7
    replace Sb3 := Sb3.ext Eb7
    replace F_modCount_b4 := F_modCount_b4.ext Eb7
    replace F_elementData_b4 := F_elementData_b4.ext Eb7
    replace F_size_b4 := F_size_b4.ext Eb7
    replace Vb6 := Vb6.ext Eb7
    replace Ab4 := Ab4.ext Eb7
    replace hsz := W.size
    have F_values_b7 : Fld Z h b7 "com/example/hataraki/hataraki/cli/Options" "values" "Ljava/util/Map;" .null := Db7 (Or.inr (X.w 75 rfl)) (ty := (.object "java/util/Map")) (by decide)
    have F_switches_b7 : Fld Z h b7 "com/example/hataraki/hataraki/cli/Options" "switches" "Ljava/util/Set;" .null := Db7 (Or.inr (X.w 96 rfl)) (ty := (.object "java/util/Set")) (by decide)
    have F_operands_b7 : Fld Z h b7 "com/example/hataraki/hataraki/cli/Options" "operands" "Ljava/util/List;" .null := Db7 (Or.inr (X.w 100 rfl)) (ty := (.object "java/util/List")) (by decide)
    show Go _ _ _ _ _ _ _ _ _ _ (mkF m 118 #[.val (.int p0), .val (.int p1), .val (.int p2), .val (.int p3), .val (.int (0 : Int32)), .val (.ref b1), .val (.ref b2), .val (.ref b3), .val (.ref b4), .val (.ref b6), .unset, .unset] [(.ref b7)])
    refine Go.step (fun _ k => XS.dup W.here W.hx rfl (W.d at_118) rfl rfl k) ?_
    show Go _ _ _ _ _ _ _ _ _ _ (mkF m 119 #[.val (.int p0), .val (.int p1), .val (.int p2), .val (.int p3), .val (.int (0 : Int32)), .val (.ref b1), .val (.ref b2), .val (.ref b3), .val (.ref b4), .val (.ref b6), .unset, .unset] [(.ref b7), (.ref b7)])
    refine Go.step (fun _ k => XS.aload W.here W.hx rfl (W.d at_119) rfl rfl k) ?_
    show Go _ _ _ _ _ _ _ _ _ _ (mkF m 121 #[.val (.int p0), .val (.int p1), .val (.int p2), .val (.int p3), .val (.int (0 : Int32)), .val (.ref b1), .val (.ref b2), .val (.ref b3), .val (.ref b4), .val (.ref b6), .unset, .unset] [(.ref b4), (.ref b7), (.ref b7)])
    refine Go.step (fun _ k => XS.aconstNull W.here W.hx rfl (W.d at_121) k) ?_
    show Go _ _ _ _ _ _ _ _ _ _ (mkF m 122 #[.val (.int p0), .val (.int p1), .val (.int p2), .val (.int p3), .val (.int (0 : Int32)), .val (.ref b1), .val (.ref b2), .val (.ref b3), .val (.ref b4), .val (.ref b6), .unset, .unset] [.null, (.ref b4), (.ref b7), (.ref b7)])
    refine Go.step (fun _ k => XS.aconstNull W.here W.hx rfl (W.d at_122) k) ?_
    show Go _ _ _ _ _ _ _ _ _ _ (mkF m 123 #[.val (.int p0), .val (.int p1), .val (.int p2), .val (.int p3), .val (.int (0 : Int32)), .val (.ref b1), .val (.ref b2), .val (.ref b3), .val (.ref b4), .val (.ref b6), .unset, .unset] [.null, .null, (.ref b4), (.ref b7), (.ref b7)])
    refine W.special rfl (X.w 54 rfl) (X.w 55 rfl) (X.w 53 rfl) (X.w 56 rfl) (by decide) (c_op0 X b7 b4 D _ _ W.ext Y gb7 Ab7 F_values_b7 F_switches_b7 F_operands_b7 Ab4 F_size_b4 F_elementData_b4) (by decide) (Wd := 1) (by decide) b7 [(.ref b4), .null, .null] [(.ref b7)] rfl pd_20 rfl rfl rfl (Nat.le_of_eq rfl) at_123 (by decide) (by decide) ?_
    intro v T h vm W hQ C
    obtain ⟨rfl, Ko10, r8, F_operands_b7', Ar8, F_size_r8⟩ := hQ
    replace Sb1 := Sb1.keepE Ko10 Ab7 (by decide) (X.w 52 rfl)
    replace Sb2 := Sb2.keepE Ko10 Ab7 (by decide) (X.w 52 rfl)
    replace Sb3 := Sb3.keepE Ko10 Ab7 (by decide) (X.w 52 rfl)
    replace F_modCount_b4 := F_modCount_b4.keep Ko10 (nin1 ne_b4_b7)
    replace F_elementData_b4 := F_elementData_b4.keep Ko10 (nin1 ne_b4_b7)
    replace F_size_b4 := F_size_b4.keep Ko10 (nin1 ne_b4_b7)
    replace Vb6 := Vb6.keep Ko10 (nin1 ne_b6_b7)
    replace Ab4 := Ab4.keep Ko10
    replace Ab7 := Ab7.keep Ko10
    replace hsz := W.size
    replace F_operands_b7 := F_operands_b7'
    show Go _ _ _ _ _ _ _ _ _ _ (mkF m 126 #[.val (.int p0), .val (.int p1), .val (.int p2), .val (.int p3), .val (.int (0 : Int32)), .val (.ref b1), .val (.ref b2), .val (.ref b3), .val (.ref b4), .val (.ref b6), .unset, .unset] [(.ref b7)])
    refine Go.step (fun _ k => XS.astore W.here W.hx rfl (W.d at_126) rfl rfl (l' := #[.val (.int p0), .val (.int p1), .val (.int p2), .val (.int p3), .val (.int (0 : Int32)), .val (.ref b1), .val (.ref b2), .val (.ref b3), .val (.ref b4), .val (.ref b6), .val (.ref b7), .unset]) rfl k) ?_
    show Go _ _ _ _ _ _ _ _ _ _ (mkF m 128 #[.val (.int p0), .val (.int p1), .val (.int p2), .val (.int p3), .val (.int (0 : Int32)), .val (.ref b1), .val (.ref b2), .val (.ref b3), .val (.ref b4), .val (.ref b6), .val (.ref b7), .unset] [])
    refine Go.step (fun _ k => XS.aload W.here W.hx rfl (W.d at_128) rfl rfl k) ?_
    show Go _ _ _ _ _ _ _ _ _ _ (mkF m 130 #[.val (.int p0), .val (.int p1), .val (.int p2), .val (.int p3), .val (.int (0 : Int32)), .val (.ref b1), .val (.ref b2), .val (.ref b3), .val (.ref b4), .val (.ref b6), .val (.ref b7), .unset] [(.ref b7)])
    refine Go.step (fun _ k => XS.aload W.here W.hx rfl (W.d at_130) rfl rfl k) ?_
    show Go _ _ _ _ _ _ _ _ _ _ (mkF m 132 #[.val (.int p0), .val (.int p1), .val (.int p2), .val (.int p3), .val (.int (0 : Int32)), .val (.ref b1), .val (.ref b2), .val (.ref b3), .val (.ref b4), .val (.ref b6), .val (.ref b7), .unset] [(.ref b6), (.ref b7)])
    refine W.virtual (X.w 112 rfl) (X.w 113 rfl) (notFace_of_selects (args := #[]) (mvT W.hZ (X.w 115 rfl))) (X.w 115 rfl) (X.w 114 rfl) (X.w 53 rfl) (X.w 116 rfl) (by decide) (c_ops X b7 b6 r8 _ (0 : Int32) _ _ W.ext F_operands_b7 Ar8 F_size_r8 Vb6) (by decide) (Wd := 0) (by decide) b7 Ab7 [(.ref b6)] [] rfl pd_21 rfl rfl rfl (Nat.le_of_eq rfl) at_132 (by decide) (by decide) ?_
    intro v T h vm W hQ C
    obtain ⟨rfl, rfl⟩ := hQ
    show Go _ _ _ _ _ _ _ _ _ _ (mkF m 135 #[.val (.int p0), .val (.int p1), .val (.int p2), .val (.int p3), .val (.int (0 : Int32)), .val (.ref b1), .val (.ref b2), .val (.ref b3), .val (.ref b4), .val (.ref b6), .val (.ref b7), .unset] [(.ref r8)])
    refine Go.step (fun _ k => XS.astore W.here W.hx rfl (W.d at_135) rfl rfl (l' := #[.val (.int p0), .val (.int p1), .val (.int p2), .val (.int p3), .val (.int (0 : Int32)), .val (.ref b1), .val (.ref b2), .val (.ref b3), .val (.ref b4), .val (.ref b6), .val (.ref b7), .val (.ref r8)]) rfl k) ?_
    show Go _ _ _ _ _ _ _ _ _ _ (mkF m 137 #[.val (.int p0), .val (.int p1), .val (.int p2), .val (.int p3), .val (.int (0 : Int32)), .val (.ref b1), .val (.ref b2), .val (.ref b3), .val (.ref b4), .val (.ref b6), .val (.ref b7), .val (.ref r8)] [])
    refine Go.step (fun _ k => XS.aload W.here W.hx rfl (W.d at_137) rfl rfl k) ?_
    show Go _ _ _ _ _ _ _ _ _ _ (mkF m 139 #[.val (.int p0), .val (.int p1), .val (.int p2), .val (.int p3), .val (.int (0 : Int32)), .val (.ref b1), .val (.ref b2), .val (.ref b3), .val (.ref b4), .val (.ref b6), .val (.ref b7), .val (.ref r8)] [(.ref r8)])
    refine W.iface (X.w 117 rfl) (X.w 102 rfl) (X.w 103 rfl) (X.w 104 rfl) (X.w 105 rfl) (X.w 106 rfl) (X.w 107 rfl) (X.w 108 rfl) (X.w 28 rfl) (X.w 109 rfl) (by decide) (c_size X r8 (0 : Int32) _ W.ext F_size_r8) (by decide) (Wd := 0) (by decide) r8 Ar8 [] [] rfl pd_14 rfl rfl rfl (Nat.le_of_eq rfl) at_139 (by decide) (by decide) ?_
    intro v T h vm W hQ C
    obtain ⟨rfl, rfl⟩ := hQ
    show Go _ _ _ _ _ _ _ _ _ _ (mkF m 144 #[.val (.int p0), .val (.int p1), .val (.int p2), .val (.int p3), .val (.int (0 : Int32)), .val (.ref b1), .val (.ref b2), .val (.ref b3), .val (.ref b4), .val (.ref b6), .val (.ref b7), .val (.ref r8)] [(.int (0 : Int32))])
    refine Go.step (fun _ k => XS.iload W.here W.hx rfl (W.d at_144) rfl k) ?_
    show Go _ _ _ _ _ _ _ _ _ _ (mkF m 146 #[.val (.int p0), .val (.int p1), .val (.int p2), .val (.int p3), .val (.int (0 : Int32)), .val (.ref b1), .val (.ref b2), .val (.ref b3), .val (.ref b4), .val (.ref b6), .val (.ref b7), .val (.ref r8)] [(.int (0 : Int32)), (.int (0 : Int32))])
    refine Go.step (fun _ k => XS.icmpNo W.here W.hx rfl (W.d at_146) rfl (teq (by decide : (0 : Int32) = (0 : Int32))).2 k) ?_
    show Go _ _ _ _ _ _ _ _ _ _ (mkF m 149 #[.val (.int p0), .val (.int p1), .val (.int p2), .val (.int p3), .val (.int (0 : Int32)), .val (.ref b1), .val (.ref b2), .val (.ref b3), .val (.ref b4), .val (.ref b6), .val (.ref b7), .val (.ref r8)] [])
    refine Go.step (fun _ k => XS.aload W.here W.hx rfl (W.d at_149) rfl rfl k) ?_
    show Go _ _ _ _ _ _ _ _ _ _ (mkF m 151 #[.val (.int p0), .val (.int p1), .val (.int p2), .val (.int p3), .val (.int (0 : Int32)), .val (.ref b1), .val (.ref b2), .val (.ref b3), .val (.ref b4), .val (.ref b6), .val (.ref b7), .val (.ref r8)] [(.ref r8)])
    refine Go.step (fun _ k => XS.iconst W.here W.hx rfl (W.d at_151) k) ?_
    show Go _ _ _ _ _ _ _ _ _ _ (mkF m 152 #[.val (.int p0), .val (.int p1), .val (.int p2), .val (.int p3), .val (.int (0 : Int32)), .val (.ref b1), .val (.ref b2), .val (.ref b3), .val (.ref b4), .val (.ref b6), .val (.ref b7), .val (.ref r8)] [(.int (0 : Int32)), (.ref r8)])
    refine Go.step (fun _ k => XS.iload W.here W.hx rfl (W.d at_152) rfl k) ?_
    show Go _ _ _ _ _ _ _ _ _ _ (mkF m 154 #[.val (.int p0), .val (.int p1), .val (.int p2), .val (.int p3), .val (.int (0 : Int32)), .val (.ref b1), .val (.ref b2), .val (.ref b3), .val (.ref b4), .val (.ref b6), .val (.ref b7), .val (.ref r8)] [(.int (0 : Int32)), (.int (0 : Int32)), (.ref r8)])
    refine Go.step (fun _ k => XS.aload W.here W.hx rfl (W.d at_154) rfl rfl k) ?_
    show Go _ _ _ _ _ _ _ _ _ _ (mkF m 156 #[.val (.int p0), .val (.int p1), .val (.int p2), .val (.int p3), .val (.int (0 : Int32)), .val (.ref b1), .val (.ref b2), .val (.ref b3), .val (.ref b4), .val (.ref b6), .val (.ref b7), .val (.ref r8)] [(.ref b1), (.int (0 : Int32)), (.int (0 : Int32)), (.ref r8)])
    refine W.callS (X.w 118 rfl) (X.w 119 rfl) (X.w 2 rfl) (X.w 120 rfl) (by decide) (c_at0 X r8 b1 (0 : Int32) (0 : Int32) _ W.ext (by decide)) (by decide) (Wd := 0) (by decide) [(.ref r8), (.int (0 : Int32)), (.int (0 : Int32)), (.ref b1)] [] rfl pd_22 rfl rfl rfl (Nat.le_of_eq rfl) at_156 (by decide) (by decide) ?_
    intro v T h vm W hQ C
    obtain ⟨rfl, rfl⟩ := hQ
    show Go _ _ _ _ _ _ _ _ _ _ (mkF m 159 #[.val (.int p0), .val (.int p1), .val (.int p2), .val (.int p3), .val (.int (0 : Int32)), .val (.ref b1), .val (.ref b2), .val (.ref b3), .val (.ref b4), .val (.ref b6), .val (.ref b7), .val (.ref r8)] [(.int (1 : Int32))])
    refine Go.step (fun _ k => XS.ifNo W.here W.hx rfl (W.d at_159) rfl ((if0 _ _).trans (feq (by decide : ¬ ((1 : Int32) = (0 : Int32)))).1) k) ?_
    show Go _ _ _ _ _ _ _ _ _ _ (mkF m 162 #[.val (.int p0), .val (.int p1), .val (.int p2), .val (.int p3), .val (.int (0 : Int32)), .val (.ref b1), .val (.ref b2), .val (.ref b3), .val (.ref b4), .val (.ref b6), .val (.ref b7), .val (.ref r8)] [])
    refine Go.step (fun _ k => XS.aload W.here W.hx rfl (W.d at_162) rfl rfl k) ?_
    show Go _ _ _ _ _ _ _ _ _ _ (mkF m 164 #[.val (.int p0), .val (.int p1), .val (.int p2), .val (.int p3), .val (.int (0 : Int32)), .val (.ref b1), .val (.ref b2), .val (.ref b3), .val (.ref b4), .val (.ref b6), .val (.ref b7), .val (.ref r8)] [(.ref r8)])
    refine Go.step (fun _ k => XS.iconst W.here W.hx rfl (W.d at_164) k) ?_
    show Go _ _ _ _ _ _ _ _ _ _ (mkF m 165 #[.val (.int p0), .val (.int p1), .val (.int p2), .val (.int p3), .val (.int (0 : Int32)), .val (.ref b1), .val (.ref b2), .val (.ref b3), .val (.ref b4), .val (.ref b6), .val (.ref b7), .val (.ref r8)] [(.int (1 : Int32)), (.ref r8)])
    refine Go.step (fun _ k => XS.iload W.here W.hx rfl (W.d at_165) rfl k) ?_
    show Go _ _ _ _ _ _ _ _ _ _ (mkF m 167 #[.val (.int p0), .val (.int p1), .val (.int p2), .val (.int p3), .val (.int (0 : Int32)), .val (.ref b1), .val (.ref b2), .val (.ref b3), .val (.ref b4), .val (.ref b6), .val (.ref b7), .val (.ref r8)] [(.int (0 : Int32)), (.int (1 : Int32)), (.ref r8)])
    refine Go.step (fun _ k => XS.aload W.here W.hx rfl (W.d at_167) rfl rfl k) ?_
    show Go _ _ _ _ _ _ _ _ _ _ (mkF m 169 #[.val (.int p0), .val (.int p1), .val (.int p2), .val (.int p3), .val (.int (0 : Int32)), .val (.ref b1), .val (.ref b2), .val (.ref b3), .val (.ref b4), .val (.ref b6), .val (.ref b7), .val (.ref r8)] [(.ref b2), (.int (0 : Int32)), (.int (1 : Int32)), (.ref r8)])
    refine W.callS (X.w 118 rfl) (X.w 119 rfl) (X.w 2 rfl) (X.w 120 rfl) (by decide) (c_at0 X r8 b2 (1 : Int32) (0 : Int32) _ W.ext (by decide)) (by decide) (Wd := 0) (by decide) [(.ref r8), (.int (1 : Int32)), (.int (0 : Int32)), (.ref b2)] [] rfl pd_22 rfl rfl rfl (Nat.le_of_eq rfl) at_169 (by decide) (by decide) ?_
    intro v T h vm W hQ C
    obtain ⟨rfl, rfl⟩ := hQ
    show Go _ _ _ _ _ _ _ _ _ _ (mkF m 172 #[.val (.int p0), .val (.int p1), .val (.int p2), .val (.int p3), .val (.int (0 : Int32)), .val (.ref b1), .val (.ref b2), .val (.ref b3), .val (.ref b4), .val (.ref b6), .val (.ref b7), .val (.ref r8)] [(.int (1 : Int32))])
    refine Go.step (fun _ k => XS.ifNo W.here W.hx rfl (W.d at_172) rfl ((if0 _ _).trans (feq (by decide : ¬ ((1 : Int32) = (0 : Int32)))).1) k) ?_
    show Go _ _ _ _ _ _ _ _ _ _ (mkF m 175 #[.val (.int p0), .val (.int p1), .val (.int p2), .val (.int p3), .val (.int (0 : Int32)), .val (.ref b1), .val (.ref b2), .val (.ref b3), .val (.ref b4), .val (.ref b6), .val (.ref b7), .val (.ref r8)] [])
    refine Go.step (fun _ k => XS.aload W.here W.hx rfl (W.d at_175) rfl rfl k) ?_
    show Go _ _ _ _ _ _ _ _ _ _ (mkF m 177 #[.val (.int p0), .val (.int p1), .val (.int p2), .val (.int p3), .val (.int (0 : Int32)), .val (.ref b1), .val (.ref b2), .val (.ref b3), .val (.ref b4), .val (.ref b6), .val (.ref b7), .val (.ref r8)] [(.ref r8)])
    refine Go.step (fun _ k => XS.iconst W.here W.hx rfl (W.d at_177) k) ?_
    show Go _ _ _ _ _ _ _ _ _ _ (mkF m 178 #[.val (.int p0), .val (.int p1), .val (.int p2), .val (.int p3), .val (.int (0 : Int32)), .val (.ref b1), .val (.ref b2), .val (.ref b3), .val (.ref b4), .val (.ref b6), .val (.ref b7), .val (.ref r8)] [(.int (2 : Int32)), (.ref r8)])
    refine Go.step (fun _ k => XS.iload W.here W.hx rfl (W.d at_178) rfl k) ?_
    show Go _ _ _ _ _ _ _ _ _ _ (mkF m 180 #[.val (.int p0), .val (.int p1), .val (.int p2), .val (.int p3), .val (.int (0 : Int32)), .val (.ref b1), .val (.ref b2), .val (.ref b3), .val (.ref b4), .val (.ref b6), .val (.ref b7), .val (.ref r8)] [(.int (0 : Int32)), (.int (2 : Int32)), (.ref r8)])
    refine Go.step (fun _ k => XS.aload W.here W.hx rfl (W.d at_180) rfl rfl k) ?_
    show Go _ _ _ _ _ _ _ _ _ _ (mkF m 182 #[.val (.int p0), .val (.int p1), .val (.int p2), .val (.int p3), .val (.int (0 : Int32)), .val (.ref b1), .val (.ref b2), .val (.ref b3), .val (.ref b4), .val (.ref b6), .val (.ref b7), .val (.ref r8)] [(.ref b3), (.int (0 : Int32)), (.int (2 : Int32)), (.ref r8)])
    refine W.callS (X.w 118 rfl) (X.w 119 rfl) (X.w 2 rfl) (X.w 120 rfl) (by decide) (c_at0 X r8 b3 (2 : Int32) (0 : Int32) _ W.ext (by decide)) (by decide) (Wd := 0) (by decide) [(.ref r8), (.int (2 : Int32)), (.int (0 : Int32)), (.ref b3)] [] rfl pd_22 rfl rfl rfl (Nat.le_of_eq rfl) at_182 (by decide) (by decide) ?_
    intro v T h vm W hQ C
    obtain ⟨rfl, rfl⟩ := hQ
    show Go _ _ _ _ _ _ _ _ _ _ (mkF m 185 #[.val (.int p0), .val (.int p1), .val (.int p2), .val (.int p3), .val (.int (0 : Int32)), .val (.ref b1), .val (.ref b2), .val (.ref b3), .val (.ref b4), .val (.ref b6), .val (.ref b7), .val (.ref r8)] [(.int (1 : Int32))])
    refine Go.step (fun _ k => XS.ifNo W.here W.hx rfl (W.d at_185) rfl ((if0 _ _).trans (feq (by decide : ¬ ((1 : Int32) = (0 : Int32)))).1) k) ?_
    show Go _ _ _ _ _ _ _ _ _ _ (mkF m 188 #[.val (.int p0), .val (.int p1), .val (.int p2), .val (.int p3), .val (.int (0 : Int32)), .val (.ref b1), .val (.ref b2), .val (.ref b3), .val (.ref b4), .val (.ref b6), .val (.ref b7), .val (.ref r8)] [])
    refine Go.step (fun _ k => XS.iconst W.here W.hx rfl (W.d at_188) k) ?_
    show Go _ _ _ _ _ _ _ _ _ _ (mkF m 189 #[.val (.int p0), .val (.int p1), .val (.int p2), .val (.int p3), .val (.int (0 : Int32)), .val (.ref b1), .val (.ref b2), .val (.ref b3), .val (.ref b4), .val (.ref b6), .val (.ref b7), .val (.ref r8)] [(.int (1 : Int32))])
    refine Go.step (fun _ k => XS.goto W.here W.hx rfl (pc0 := 189) (pc' := 193) rfl (W.d at_189) (by decide) (by decide) k) ?_
    show Go _ _ _ _ _ _ _ _ _ _ (mkF m 193 #[.val (.int p0), .val (.int p1), .val (.int p2), .val (.int p3), .val (.int (0 : Int32)), .val (.ref b1), .val (.ref b2), .val (.ref b3), .val (.ref b4), .val (.ref b6), .val (.ref b7), .val (.ref r8)] [(.int (1 : Int32))])
    exact W.retN (by simp) at_193 (rfl) (by decide) (by decide)
  · show Go _ _ _ _ _ _ _ _ _ _ (mkF m 23 #[.val (.int p0), .val (.int p1), .val (.int p2), .val (.int p3), .val (.int (1 : Int32)), .val (.ref b1), .val (.ref b2), .val (.ref b3), .unset, .unset, .unset, .unset] [])
    refine W.new (X.w 26 rfl) (X.w 27 rfl) (X.w 28 rfl) at_23 (by decide) (by decide) ?_
    intro T h b11 hb11 W Eb11 Ab11 Db11
    have ne_b1_b11 : b1 ≠ b11 := by rw [hb11]; exact Nat.ne_of_lt Sb1.exa.lt
    have ne_b2_b11 : b2 ≠ b11 := by rw [hb11]; exact Nat.ne_of_lt Sb2.exa.lt
    have ne_b3_b11 : b3 ≠ b11 := by rw [hb11]; exact Nat.ne_of_lt Sb3.exa.lt
    have gb11 : Z.heap.size ≤ b11 := by rw [hb11]; exact hsz
    replace Sb1 := Sb1.ext Eb11
    replace Sb2 := Sb2.ext Eb11
    replace Sb3 := Sb3.ext Eb11
    replace hsz := W.size
    have F_modCount_b11 : Fld Z h b11 "java/util/AbstractList" "modCount" "I" (.int (0 : Int32)) := Db11 (Or.inl (X.w 46 rfl)) (ty := .int) (by decide)
    have F_elementData_b11 : Fld Z h b11 "java/util/ArrayList" "elementData" "[Ljava/lang/Object;" .null := Db11 (Or.inl (X.w 49 rfl)) (ty := (.array (.object "java/lang/Object"))) (by decide)
    have F_size_b11 : Fld Z h b11 "java/util/ArrayList" "size" "I" (.int (0 : Int32)) := Db11 (Or.inl (X.w 111 rfl)) (ty := .int) (by decide)
    show Go _ _ _ _ _ _ _ _ _ _ (mkF m 26 #[.val (.int p0), .val (.int p1), .val (.int p2), .val (.int p3), .val (.int (1 : Int32)), .val (.ref b1), .val (.ref b2), .val (.ref b3), .unset, .unset, .unset, .unset] [(.ref b11)])
    refine Go.step (fun _ k => XS.dup W.here W.hx rfl (W.d at_26) rfl rfl k) ?_
    show Go _ _ _ _ _ _ _ _ _ _ (mkF m 27 #[.val (.int p0), .val (.int p1), .val (.int p2), .val (.int p3), .val (.int (1 : Int32)), .val (.ref b1), .val (.ref b2), .val (.ref b3), .unset, .unset, .unset, .unset] [(.ref b11), (.ref b11)])
    refine W.special rfl (X.w 29 rfl) (X.w 30 rfl) (X.w 28 rfl) (X.w 31 rfl) (by decide) (c_ali X b11 D _ _ W.ext Y gb11 Ab11 F_modCount_b11 F_elementData_b11 F_size_b11) (by decide) (Wd := 1) (by decide) b11 [] [(.ref b11)] rfl pd_6 rfl rfl rfl (Nat.le_of_eq rfl) at_27 (by decide) (by decide) ?_
    intro v T h vm W hQ C
    obtain ⟨rfl, Ka12, F_modCount_b11', F_elementData_b11', F_size_b11'⟩ := hQ
    replace Sb1 := Sb1.keepE Ka12 Ab11 (by decide) (X.w 27 rfl)
    replace Sb2 := Sb2.keepE Ka12 Ab11 (by decide) (X.w 27 rfl)
    replace Sb3 := Sb3.keepE Ka12 Ab11 (by decide) (X.w 27 rfl)
    replace Ab11 := Ab11.keep Ka12
    replace hsz := W.size
    replace F_modCount_b11 := F_modCount_b11'
    replace F_elementData_b11 := F_elementData_b11'
    replace F_size_b11 := F_size_b11'
    show Go _ _ _ _ _ _ _ _ _ _ (mkF m 30 #[.val (.int p0), .val (.int p1), .val (.int p2), .val (.int p3), .val (.int (1 : Int32)), .val (.ref b1), .val (.ref b2), .val (.ref b3), .unset, .unset, .unset, .unset] [(.ref b11)])
    refine Go.step (fun _ k => XS.astore W.here W.hx rfl (W.d at_30) rfl rfl (l' := #[.val (.int p0), .val (.int p1), .val (.int p2), .val (.int p3), .val (.int (1 : Int32)), .val (.ref b1), .val (.ref b2), .val (.ref b3), .val (.ref b11), .unset, .unset, .unset]) rfl k) ?_
    show Go _ _ _ _ _ _ _ _ _ _ (mkF m 32 #[.val (.int p0), .val (.int p1), .val (.int p2), .val (.int p3), .val (.int (1 : Int32)), .val (.ref b1), .val (.ref b2), .val (.ref b3), .val (.ref b11), .unset, .unset, .unset] [])
    refine Go.step (fun _ k => XS.iload W.here W.hx rfl (W.d at_32) rfl k) ?_
    show Go _ _ _ _ _ _ _ _ _ _ (mkF m 34 #[.val (.int p0), .val (.int p1), .val (.int p2), .val (.int p3), .val (.int (1 : Int32)), .val (.ref b1), .val (.ref b2), .val (.ref b3), .val (.ref b11), .unset, .unset, .unset] [(.int (1 : Int32))])
    refine Go.step (fun _ k => XS.ifNo W.here W.hx rfl (W.d at_34) rfl ((if0 _ _).trans (tlt (by decide : (0 : Int32) < (1 : Int32))).2.2.2) k) ?_
    show Go _ _ _ _ _ _ _ _ _ _ (mkF m 37 #[.val (.int p0), .val (.int p1), .val (.int p2), .val (.int p3), .val (.int (1 : Int32)), .val (.ref b1), .val (.ref b2), .val (.ref b3), .val (.ref b11), .unset, .unset, .unset] [])
    refine Go.step (fun _ k => XS.aload W.here W.hx rfl (W.d at_37) rfl rfl k) ?_
    show Go _ _ _ _ _ _ _ _ _ _ (mkF m 39 #[.val (.int p0), .val (.int p1), .val (.int p2), .val (.int p3), .val (.int (1 : Int32)), .val (.ref b1), .val (.ref b2), .val (.ref b3), .val (.ref b11), .unset, .unset, .unset] [(.ref b11)])
    refine Go.step (fun _ k => XS.aload W.here W.hx rfl (W.d at_39) rfl rfl k) ?_
    show Go _ _ _ _ _ _ _ _ _ _ (mkF m 41 #[.val (.int p0), .val (.int p1), .val (.int p2), .val (.int p3), .val (.int (1 : Int32)), .val (.ref b1), .val (.ref b2), .val (.ref b3), .val (.ref b11), .unset, .unset, .unset] [(.ref b1), (.ref b11)])
    refine W.virtual (X.w 121 rfl) (X.w 122 rfl) (notFace_of_selects (args := #[]) (mvT W.hZ (X.w 124 rfl))) (X.w 124 rfl) (X.w 123 rfl) (X.w 28 rfl) (X.w 125 rfl) (by decide) (c_add0 X b11 D b1 _ _ W.ext Y gb11 Ab11 F_modCount_b11 F_elementData_b11 F_size_b11 Sb1.exa) (by decide) (Wd := 0) (by decide) b11 Ab11 [(.ref b1)] [] rfl pd_18 rfl rfl rfl (Nat.le_of_eq rfl) at_41 (by decide) (by decide) ?_
    intro v T h vm W hQ C
    obtain ⟨rfl, b13, kb13, hn_b13, Kgb13, F_modCount_b11', F_elementData_b11', F_size_b11', Vb13, Ob13⟩ := hQ
    have ne_b1_b13 : b1 ≠ b13 := Nat.ne_of_lt (Nat.lt_of_lt_of_le Sb1.exa.lt hn_b13)
    have ne_b2_b13 : b2 ≠ b13 := Nat.ne_of_lt (Nat.lt_of_lt_of_le Sb2.exa.lt hn_b13)
    have ne_b3_b13 : b3 ≠ b13 := Nat.ne_of_lt (Nat.lt_of_lt_of_le Sb3.exa.lt hn_b13)
    have ne_b11_b13 : b11 ≠ b13 := Nat.ne_of_lt (Nat.lt_of_lt_of_le Ab11.lt hn_b13)
    have gb13 : Z.heap.size ≤ b13 := Nat.le_trans hsz hn_b13
    replace Sb1 := Sb1.keepE Kgb13 Ab11 (by decide) (X.w 27 rfl)
    replace Sb2 := Sb2.keepE Kgb13 Ab11 (by decide) (X.w 27 rfl)
    replace Sb3 := Sb3.keepE Kgb13 Ab11 (by decide) (X.w 27 rfl)
    replace Ab11 := Ab11.keep Kgb13
    replace hsz := W.size
    replace F_modCount_b11 := F_modCount_b11'
    replace F_elementData_b11 := F_elementData_b11'
    replace F_size_b11 := F_size_b11'
    show Go _ _ _ _ _ _ _ _ _ _ (mkF m 44 #[.val (.int p0), .val (.int p1), .val (.int p2), .val (.int p3), .val (.int (1 : Int32)), .val (.ref b1), .val (.ref b2), .val (.ref b3), .val (.ref b11), .unset, .unset, .unset] [(.int (1 : Int32))])
    refine Go.step (fun _ k => XS.pop W.here W.hx rfl (W.d at_44) rfl rfl k) ?_
    show Go _ _ _ _ _ _ _ _ _ _ (mkF m 45 #[.val (.int p0), .val (.int p1), .val (.int p2), .val (.int p3), .val (.int (1 : Int32)), .val (.ref b1), .val (.ref b2), .val (.ref b3), .val (.ref b11), .unset, .unset, .unset] [])
    refine Go.step (fun _ k => XS.iload W.here W.hx rfl (W.d at_45) rfl k) ?_
    show Go _ _ _ _ _ _ _ _ _ _ (mkF m 47 #[.val (.int p0), .val (.int p1), .val (.int p2), .val (.int p3), .val (.int (1 : Int32)), .val (.ref b1), .val (.ref b2), .val (.ref b3), .val (.ref b11), .unset, .unset, .unset] [(.int (1 : Int32))])
    refine Go.step (fun _ k => XS.iconst W.here W.hx rfl (W.d at_47) k) ?_
    show Go _ _ _ _ _ _ _ _ _ _ (mkF m 48 #[.val (.int p0), .val (.int p1), .val (.int p2), .val (.int p3), .val (.int (1 : Int32)), .val (.ref b1), .val (.ref b2), .val (.ref b3), .val (.ref b11), .unset, .unset, .unset] [(.int (1 : Int32)), (.int (1 : Int32))])
    refine Go.step (fun _ k => XS.icmpYes W.here W.hx rfl (pc0 := 48) (pc' := 59) rfl (W.d at_48) rfl (flt (by decide : ¬ ((1 : Int32) < (1 : Int32)))).2.2.2 (by decide) (by decide) k) ?_
    show Go _ _ _ _ _ _ _ _ _ _ (mkF m 59 #[.val (.int p0), .val (.int p1), .val (.int p2), .val (.int p3), .val (.int (1 : Int32)), .val (.ref b1), .val (.ref b2), .val (.ref b3), .val (.ref b11), .unset, .unset, .unset] [])
    refine Go.step (fun _ k => XS.iload W.here W.hx rfl (W.d at_59) rfl k) ?_
    show Go _ _ _ _ _ _ _ _ _ _ (mkF m 61 #[.val (.int p0), .val (.int p1), .val (.int p2), .val (.int p3), .val (.int (1 : Int32)), .val (.ref b1), .val (.ref b2), .val (.ref b3), .val (.ref b11), .unset, .unset, .unset] [(.int (1 : Int32))])
    refine Go.step (fun _ k => XS.iconst W.here W.hx rfl (W.d at_61) k) ?_
    show Go _ _ _ _ _ _ _ _ _ _ (mkF m 62 #[.val (.int p0), .val (.int p1), .val (.int p2), .val (.int p3), .val (.int (1 : Int32)), .val (.ref b1), .val (.ref b2), .val (.ref b3), .val (.ref b11), .unset, .unset, .unset] [(.int (2 : Int32)), (.int (1 : Int32))])
    refine Go.step (fun _ k => XS.icmpYes W.here W.hx rfl (pc0 := 62) (pc' := 73) rfl (W.d at_62) rfl (flt (by decide : ¬ ((2 : Int32) < (1 : Int32)))).2.2.2 (by decide) (by decide) k) ?_
    show Go _ _ _ _ _ _ _ _ _ _ (mkF m 73 #[.val (.int p0), .val (.int p1), .val (.int p2), .val (.int p3), .val (.int (1 : Int32)), .val (.ref b1), .val (.ref b2), .val (.ref b3), .val (.ref b11), .unset, .unset, .unset] [])
    refine Go.step (fun _ k => XS.iload W.here W.hx rfl (W.d at_73) rfl k) ?_
    show Go _ _ _ _ _ _ _ _ _ _ (mkF m 75 #[.val (.int p0), .val (.int p1), .val (.int p2), .val (.int p3), .val (.int (1 : Int32)), .val (.ref b1), .val (.ref b2), .val (.ref b3), .val (.ref b11), .unset, .unset, .unset] [(.int (1 : Int32))])
    refine W.newref (X.w 4 rfl) (X.w 50 rfl) at_75 (by decide) (cap := 1) (by decide) (by decide) (by decide) (by decide) ?_
    intro T h b14 kb14 hb14 W Eb14 Vb14 Ob14
    have ne_b1_b14 : b1 ≠ b14 := by rw [hb14]; exact Nat.ne_of_lt Sb1.exa.lt
    have ne_b2_b14 : b2 ≠ b14 := by rw [hb14]; exact Nat.ne_of_lt Sb2.exa.lt
    have ne_b3_b14 : b3 ≠ b14 := by rw [hb14]; exact Nat.ne_of_lt Sb3.exa.lt
    have ne_b11_b14 : b11 ≠ b14 := by rw [hb14]; exact Nat.ne_of_lt Ab11.lt
    have ne_b13_b14 : b13 ≠ b14 := by rw [hb14]; exact Nat.ne_of_lt Vb13.lt
    have gb14 : Z.heap.size ≤ b14 := by rw [hb14]; exact hsz
    replace Sb1 := Sb1.ext Eb14
    replace Sb2 := Sb2.ext Eb14
    replace Sb3 := Sb3.ext Eb14
    replace F_modCount_b11 := F_modCount_b11.ext Eb14
    replace F_elementData_b11 := F_elementData_b11.ext Eb14
    replace F_size_b11 := F_size_b11.ext Eb14
    replace Vb13 := Vb13.ext Eb14
    replace Ab11 := Ab11.ext Eb14
    replace hsz := W.size
    replace Vb14 : Arv Z h b14 kb14 (.object "java/lang/String") (1 : Int32) [.null] .null := Vb14.pad (pad_rep [] .null 1)
    show Go _ _ _ _ _ _ _ _ _ _ (mkF m 78 #[.val (.int p0), .val (.int p1), .val (.int p2), .val (.int p3), .val (.int (1 : Int32)), .val (.ref b1), .val (.ref b2), .val (.ref b3), .val (.ref b11), .unset, .unset, .unset] [(.ref b14)])
    refine Go.step (fun _ k => XS.astore W.here W.hx rfl (W.d at_78) rfl rfl (l' := #[.val (.int p0), .val (.int p1), .val (.int p2), .val (.int p3), .val (.int (1 : Int32)), .val (.ref b1), .val (.ref b2), .val (.ref b3), .val (.ref b11), .val (.ref b14), .unset, .unset]) rfl k) ?_
    show Go _ _ _ _ _ _ _ _ _ _ (mkF m 80 #[.val (.int p0), .val (.int p1), .val (.int p2), .val (.int p3), .val (.int (1 : Int32)), .val (.ref b1), .val (.ref b2), .val (.ref b3), .val (.ref b11), .val (.ref b14), .unset, .unset] [])
    refine Go.step (fun _ k => XS.iload W.here W.hx rfl (W.d at_80) rfl k) ?_
    show Go _ _ _ _ _ _ _ _ _ _ (mkF m 82 #[.val (.int p0), .val (.int p1), .val (.int p2), .val (.int p3), .val (.int (1 : Int32)), .val (.ref b1), .val (.ref b2), .val (.ref b3), .val (.ref b11), .val (.ref b14), .unset, .unset] [(.int (1 : Int32))])
    refine Go.step (fun _ k => XS.ifNo W.here W.hx rfl (W.d at_82) rfl ((if0 _ _).trans (tlt (by decide : (0 : Int32) < (1 : Int32))).2.2.2) k) ?_
    show Go _ _ _ _ _ _ _ _ _ _ (mkF m 85 #[.val (.int p0), .val (.int p1), .val (.int p2), .val (.int p3), .val (.int (1 : Int32)), .val (.ref b1), .val (.ref b2), .val (.ref b3), .val (.ref b11), .val (.ref b14), .unset, .unset] [])
    refine Go.step (fun _ k => XS.aload W.here W.hx rfl (W.d at_85) rfl rfl k) ?_
    show Go _ _ _ _ _ _ _ _ _ _ (mkF m 87 #[.val (.int p0), .val (.int p1), .val (.int p2), .val (.int p3), .val (.int (1 : Int32)), .val (.ref b1), .val (.ref b2), .val (.ref b3), .val (.ref b11), .val (.ref b14), .unset, .unset] [(.ref b14)])
    refine Go.step (fun _ k => XS.iconst W.here W.hx rfl (W.d at_87) k) ?_
    show Go _ _ _ _ _ _ _ _ _ _ (mkF m 88 #[.val (.int p0), .val (.int p1), .val (.int p2), .val (.int p3), .val (.int (1 : Int32)), .val (.ref b1), .val (.ref b2), .val (.ref b3), .val (.ref b11), .val (.ref b14), .unset, .unset] [(.int (0 : Int32)), (.ref b14)])
    refine Go.step (fun _ k => XS.aload W.here W.hx rfl (W.d at_88) rfl rfl k) ?_
    show Go _ _ _ _ _ _ _ _ _ _ (mkF m 90 #[.val (.int p0), .val (.int p1), .val (.int p2), .val (.int p3), .val (.int (1 : Int32)), .val (.ref b1), .val (.ref b2), .val (.ref b3), .val (.ref b11), .val (.ref b14), .unset, .unset] [(.ref b3), (.int (0 : Int32)), (.ref b14)])
    refine W.aastore Vb14 Ob14 (Ins.self Sb3.exa) 0 rfl (by simp) (by decide) gb14 at_90 ?_
    intro T h W K15 Vb14'
    replace Sb1 := Sb1.keepC K15 Vb14 (by decide) (X.w 5 rfl)
    replace Sb2 := Sb2.keepC K15 Vb14 (by decide) (X.w 5 rfl)
    replace Sb3 := Sb3.keepC K15 Vb14 (by decide) (X.w 5 rfl)
    replace F_modCount_b11 := F_modCount_b11.keep K15 (nin1 ne_b11_b14)
    replace F_elementData_b11 := F_elementData_b11.keep K15 (nin1 ne_b11_b14)
    replace F_size_b11 := F_size_b11.keep K15 (nin1 ne_b11_b14)
    replace Vb13 := Vb13.keep K15 (nin1 ne_b13_b14)
    replace Ab11 := Ab11.keep K15
    replace hsz := W.size
    replace Vb14 : Arv Z h b14 kb14 (.object "java/lang/String") (1 : Int32) [(.ref b3)] .null := Vb14'
    show Go _ _ _ _ _ _ _ _ _ _ (mkF m 91 #[.val (.int p0), .val (.int p1), .val (.int p2), .val (.int p3), .val (.int (1 : Int32)), .val (.ref b1), .val (.ref b2), .val (.ref b3), .val (.ref b11), .val (.ref b14), .unset, .unset] [])
    refine Go.step (fun _ k => XS.iload W.here W.hx rfl (W.d at_91) rfl k) ?_
    show Go _ _ _ _ _ _ _ _ _ _ (mkF m 93 #[.val (.int p0), .val (.int p1), .val (.int p2), .val (.int p3), .val (.int (1 : Int32)), .val (.ref b1), .val (.ref b2), .val (.ref b3), .val (.ref b11), .val (.ref b14), .unset, .unset] [(.int (1 : Int32))])
    refine Go.step (fun _ k => XS.iconst W.here W.hx rfl (W.d at_93) k) ?_
    show Go _ _ _ _ _ _ _ _ _ _ (mkF m 94 #[.val (.int p0), .val (.int p1), .val (.int p2), .val (.int p3), .val (.int (1 : Int32)), .val (.ref b1), .val (.ref b2), .val (.ref b3), .val (.ref b11), .val (.ref b14), .unset, .unset] [(.int (1 : Int32)), (.int (1 : Int32))])
    refine Go.step (fun _ k => XS.icmpYes W.here W.hx rfl (pc0 := 94) (pc' := 103) rfl (W.d at_94) rfl (flt (by decide : ¬ ((1 : Int32) < (1 : Int32)))).2.2.2 (by decide) (by decide) k) ?_
    show Go _ _ _ _ _ _ _ _ _ _ (mkF m 103 #[.val (.int p0), .val (.int p1), .val (.int p2), .val (.int p3), .val (.int (1 : Int32)), .val (.ref b1), .val (.ref b2), .val (.ref b3), .val (.ref b11), .val (.ref b14), .unset, .unset] [])
    refine Go.step (fun _ k => XS.iload W.here W.hx rfl (W.d at_103) rfl k) ?_
    show Go _ _ _ _ _ _ _ _ _ _ (mkF m 105 #[.val (.int p0), .val (.int p1), .val (.int p2), .val (.int p3), .val (.int (1 : Int32)), .val (.ref b1), .val (.ref b2), .val (.ref b3), .val (.ref b11), .val (.ref b14), .unset, .unset] [(.int (1 : Int32))])
    refine Go.step (fun _ k => XS.iconst W.here W.hx rfl (W.d at_105) k) ?_
    show Go _ _ _ _ _ _ _ _ _ _ (mkF m 106 #[.val (.int p0), .val (.int p1), .val (.int p2), .val (.int p3), .val (.int (1 : Int32)), .val (.ref b1), .val (.ref b2), .val (.ref b3), .val (.ref b11), .val (.ref b14), .unset, .unset] [(.int (2 : Int32)), (.int (1 : Int32))])
    refine Go.step (fun _ k => XS.icmpYes W.here W.hx rfl (pc0 := 106) (pc' := 115) rfl (W.d at_106) rfl (flt (by decide : ¬ ((2 : Int32) < (1 : Int32)))).2.2.2 (by decide) (by decide) k) ?_
    show Go _ _ _ _ _ _ _ _ _ _ (mkF m 115 #[.val (.int p0), .val (.int p1), .val (.int p2), .val (.int p3), .val (.int (1 : Int32)), .val (.ref b1), .val (.ref b2), .val (.ref b3), .val (.ref b11), .val (.ref b14), .unset, .unset] [])
    refine W.new (X.w 51 rfl) (X.w 52 rfl) (X.w 53 rfl) at_115 (by decide) (by decide) ?_
    intro T h b16 hb16 W Eb16 Ab16 Db16
    have ne_b1_b16 : b1 ≠ b16 := by rw [hb16]; exact Nat.ne_of_lt Sb1.exa.lt
    have ne_b2_b16 : b2 ≠ b16 := by rw [hb16]; exact Nat.ne_of_lt Sb2.exa.lt
    have ne_b3_b16 : b3 ≠ b16 := by rw [hb16]; exact Nat.ne_of_lt Sb3.exa.lt
    have ne_b11_b16 : b11 ≠ b16 := by rw [hb16]; exact Nat.ne_of_lt Ab11.lt
    have ne_b13_b16 : b13 ≠ b16 := by rw [hb16]; exact Nat.ne_of_lt Vb13.lt
    have ne_b14_b16 : b14 ≠ b16 := by rw [hb16]; exact Nat.ne_of_lt Vb14.lt
    have gb16 : Z.heap.size ≤ b16 := by rw [hb16]; exact hsz
    replace Sb1 := Sb1.ext Eb16
    replace Sb2 := Sb2.ext Eb16
    replace Sb3 := Sb3.ext Eb16
    replace F_modCount_b11 := F_modCount_b11.ext Eb16
    replace F_elementData_b11 := F_elementData_b11.ext Eb16
    replace F_size_b11 := F_size_b11.ext Eb16
    replace Vb13 := Vb13.ext Eb16
    replace Vb14 := Vb14.ext Eb16
    replace Ab11 := Ab11.ext Eb16
    replace hsz := W.size
    have F_values_b16 : Fld Z h b16 "com/example/hataraki/hataraki/cli/Options" "values" "Ljava/util/Map;" .null := Db16 (Or.inr (X.w 75 rfl)) (ty := (.object "java/util/Map")) (by decide)
    have F_switches_b16 : Fld Z h b16 "com/example/hataraki/hataraki/cli/Options" "switches" "Ljava/util/Set;" .null := Db16 (Or.inr (X.w 96 rfl)) (ty := (.object "java/util/Set")) (by decide)
    have F_operands_b16 : Fld Z h b16 "com/example/hataraki/hataraki/cli/Options" "operands" "Ljava/util/List;" .null := Db16 (Or.inr (X.w 100 rfl)) (ty := (.object "java/util/List")) (by decide)
    show Go _ _ _ _ _ _ _ _ _ _ (mkF m 118 #[.val (.int p0), .val (.int p1), .val (.int p2), .val (.int p3), .val (.int (1 : Int32)), .val (.ref b1), .val (.ref b2), .val (.ref b3), .val (.ref b11), .val (.ref b14), .unset, .unset] [(.ref b16)])
    refine Go.step (fun _ k => XS.dup W.here W.hx rfl (W.d at_118) rfl rfl k) ?_
    show Go _ _ _ _ _ _ _ _ _ _ (mkF m 119 #[.val (.int p0), .val (.int p1), .val (.int p2), .val (.int p3), .val (.int (1 : Int32)), .val (.ref b1), .val (.ref b2), .val (.ref b3), .val (.ref b11), .val (.ref b14), .unset, .unset] [(.ref b16), (.ref b16)])
    refine Go.step (fun _ k => XS.aload W.here W.hx rfl (W.d at_119) rfl rfl k) ?_
    show Go _ _ _ _ _ _ _ _ _ _ (mkF m 121 #[.val (.int p0), .val (.int p1), .val (.int p2), .val (.int p3), .val (.int (1 : Int32)), .val (.ref b1), .val (.ref b2), .val (.ref b3), .val (.ref b11), .val (.ref b14), .unset, .unset] [(.ref b11), (.ref b16), (.ref b16)])
    refine Go.step (fun _ k => XS.aconstNull W.here W.hx rfl (W.d at_121) k) ?_
    show Go _ _ _ _ _ _ _ _ _ _ (mkF m 122 #[.val (.int p0), .val (.int p1), .val (.int p2), .val (.int p3), .val (.int (1 : Int32)), .val (.ref b1), .val (.ref b2), .val (.ref b3), .val (.ref b11), .val (.ref b14), .unset, .unset] [.null, (.ref b11), (.ref b16), (.ref b16)])
    refine Go.step (fun _ k => XS.aconstNull W.here W.hx rfl (W.d at_122) k) ?_
    show Go _ _ _ _ _ _ _ _ _ _ (mkF m 123 #[.val (.int p0), .val (.int p1), .val (.int p2), .val (.int p3), .val (.int (1 : Int32)), .val (.ref b1), .val (.ref b2), .val (.ref b3), .val (.ref b11), .val (.ref b14), .unset, .unset] [.null, .null, (.ref b11), (.ref b16), (.ref b16)])
    refine W.special rfl (X.w 54 rfl) (X.w 55 rfl) (X.w 53 rfl) (X.w 56 rfl) (by decide) (c_op1 X b16 b11 D _ b13 b1 _ _ _ W.ext Y gb16 Ab16 F_values_b16 F_switches_b16 F_operands_b16 Ab11 F_size_b11 F_elementData_b11 Vb13 Sb1 Nb1) (by decide) (Wd := 1) (by decide) b16 [(.ref b11), .null, .null] [(.ref b16)] rfl pd_20 rfl rfl rfl (Nat.le_of_eq rfl) at_123 (by decide) (by decide) ?_
    intro v T h vm W hQ C
    obtain ⟨rfl, Ko19, r17, F_operands_b16', Ar17, F_size_r17, w18, kw18, F_elementData_r17, Vw18⟩ := hQ
    replace Sb1 := Sb1.keepE Ko19 Ab16 (by decide) (X.w 52 rfl)
    replace Sb2 := Sb2.keepE Ko19 Ab16 (by decide) (X.w 52 rfl)
    replace Sb3 := Sb3.keepE Ko19 Ab16 (by decide) (X.w 52 rfl)
    replace F_modCount_b11 := F_modCount_b11.keep Ko19 (nin1 ne_b11_b16)
    replace F_elementData_b11 := F_elementData_b11.keep Ko19 (nin1 ne_b11_b16)
    replace F_size_b11 := F_size_b11.keep Ko19 (nin1 ne_b11_b16)
    replace Vb13 := Vb13.keep Ko19 (nin1 ne_b13_b16)
    replace Vb14 := Vb14.keep Ko19 (nin1 ne_b14_b16)
    replace Ab11 := Ab11.keep Ko19
    replace Ab16 := Ab16.keep Ko19
    replace hsz := W.size
    replace F_operands_b16 := F_operands_b16'
    show Go _ _ _ _ _ _ _ _ _ _ (mkF m 126 #[.val (.int p0), .val (.int p1), .val (.int p2), .val (.int p3), .val (.int (1 : Int32)), .val (.ref b1), .val (.ref b2), .val (.ref b3), .val (.ref b11), .val (.ref b14), .unset, .unset] [(.ref b16)])
    refine Go.step (fun _ k => XS.astore W.here W.hx rfl (W.d at_126) rfl rfl (l' := #[.val (.int p0), .val (.int p1), .val (.int p2), .val (.int p3), .val (.int (1 : Int32)), .val (.ref b1), .val (.ref b2), .val (.ref b3), .val (.ref b11), .val (.ref b14), .val (.ref b16), .unset]) rfl k) ?_
    show Go _ _ _ _ _ _ _ _ _ _ (mkF m 128 #[.val (.int p0), .val (.int p1), .val (.int p2), .val (.int p3), .val (.int (1 : Int32)), .val (.ref b1), .val (.ref b2), .val (.ref b3), .val (.ref b11), .val (.ref b14), .val (.ref b16), .unset] [])
    refine Go.step (fun _ k => XS.aload W.here W.hx rfl (W.d at_128) rfl rfl k) ?_
    show Go _ _ _ _ _ _ _ _ _ _ (mkF m 130 #[.val (.int p0), .val (.int p1), .val (.int p2), .val (.int p3), .val (.int (1 : Int32)), .val (.ref b1), .val (.ref b2), .val (.ref b3), .val (.ref b11), .val (.ref b14), .val (.ref b16), .unset] [(.ref b16)])
    refine Go.step (fun _ k => XS.aload W.here W.hx rfl (W.d at_130) rfl rfl k) ?_
    show Go _ _ _ _ _ _ _ _ _ _ (mkF m 132 #[.val (.int p0), .val (.int p1), .val (.int p2), .val (.int p3), .val (.int (1 : Int32)), .val (.ref b1), .val (.ref b2), .val (.ref b3), .val (.ref b11), .val (.ref b14), .val (.ref b16), .unset] [(.ref b14), (.ref b16)])
    refine W.virtual (X.w 112 rfl) (X.w 113 rfl) (notFace_of_selects (args := #[]) (mvT W.hZ (X.w 115 rfl))) (X.w 115 rfl) (X.w 114 rfl) (X.w 53 rfl) (X.w 116 rfl) (by decide) (c_ops X b16 b14 r17 _ (1 : Int32) _ _ W.ext F_operands_b16 Ar17 F_size_r17 Vb14) (by decide) (Wd := 0) (by decide) b16 Ab16 [(.ref b14)] [] rfl pd_21 rfl rfl rfl (Nat.le_of_eq rfl) at_132 (by decide) (by decide) ?_
    intro v T h vm W hQ C
    obtain ⟨rfl, rfl⟩ := hQ
    show Go _ _ _ _ _ _ _ _ _ _ (mkF m 135 #[.val (.int p0), .val (.int p1), .val (.int p2), .val (.int p3), .val (.int (1 : Int32)), .val (.ref b1), .val (.ref b2), .val (.ref b3), .val (.ref b11), .val (.ref b14), .val (.ref b16), .unset] [(.ref r17)])
    refine Go.step (fun _ k => XS.astore W.here W.hx rfl (W.d at_135) rfl rfl (l' := #[.val (.int p0), .val (.int p1), .val (.int p2), .val (.int p3), .val (.int (1 : Int32)), .val (.ref b1), .val (.ref b2), .val (.ref b3), .val (.ref b11), .val (.ref b14), .val (.ref b16), .val (.ref r17)]) rfl k) ?_
    show Go _ _ _ _ _ _ _ _ _ _ (mkF m 137 #[.val (.int p0), .val (.int p1), .val (.int p2), .val (.int p3), .val (.int (1 : Int32)), .val (.ref b1), .val (.ref b2), .val (.ref b3), .val (.ref b11), .val (.ref b14), .val (.ref b16), .val (.ref r17)] [])
    refine Go.step (fun _ k => XS.aload W.here W.hx rfl (W.d at_137) rfl rfl k) ?_
    show Go _ _ _ _ _ _ _ _ _ _ (mkF m 139 #[.val (.int p0), .val (.int p1), .val (.int p2), .val (.int p3), .val (.int (1 : Int32)), .val (.ref b1), .val (.ref b2), .val (.ref b3), .val (.ref b11), .val (.ref b14), .val (.ref b16), .val (.ref r17)] [(.ref r17)])
    refine W.iface (X.w 117 rfl) (X.w 102 rfl) (X.w 103 rfl) (X.w 104 rfl) (X.w 105 rfl) (X.w 106 rfl) (X.w 107 rfl) (X.w 108 rfl) (X.w 28 rfl) (X.w 109 rfl) (by decide) (c_size X r17 (1 : Int32) _ W.ext F_size_r17) (by decide) (Wd := 0) (by decide) r17 Ar17 [] [] rfl pd_14 rfl rfl rfl (Nat.le_of_eq rfl) at_139 (by decide) (by decide) ?_
    intro v T h vm W hQ C
    obtain ⟨rfl, rfl⟩ := hQ
    show Go _ _ _ _ _ _ _ _ _ _ (mkF m 144 #[.val (.int p0), .val (.int p1), .val (.int p2), .val (.int p3), .val (.int (1 : Int32)), .val (.ref b1), .val (.ref b2), .val (.ref b3), .val (.ref b11), .val (.ref b14), .val (.ref b16), .val (.ref r17)] [(.int (1 : Int32))])
    refine Go.step (fun _ k => XS.iload W.here W.hx rfl (W.d at_144) rfl k) ?_
    show Go _ _ _ _ _ _ _ _ _ _ (mkF m 146 #[.val (.int p0), .val (.int p1), .val (.int p2), .val (.int p3), .val (.int (1 : Int32)), .val (.ref b1), .val (.ref b2), .val (.ref b3), .val (.ref b11), .val (.ref b14), .val (.ref b16), .val (.ref r17)] [(.int (1 : Int32)), (.int (1 : Int32))])
    refine Go.step (fun _ k => XS.icmpNo W.here W.hx rfl (W.d at_146) rfl (teq (by decide : (1 : Int32) = (1 : Int32))).2 k) ?_
    show Go _ _ _ _ _ _ _ _ _ _ (mkF m 149 #[.val (.int p0), .val (.int p1), .val (.int p2), .val (.int p3), .val (.int (1 : Int32)), .val (.ref b1), .val (.ref b2), .val (.ref b3), .val (.ref b11), .val (.ref b14), .val (.ref b16), .val (.ref r17)] [])
    refine Go.step (fun _ k => XS.aload W.here W.hx rfl (W.d at_149) rfl rfl k) ?_
    show Go _ _ _ _ _ _ _ _ _ _ (mkF m 151 #[.val (.int p0), .val (.int p1), .val (.int p2), .val (.int p3), .val (.int (1 : Int32)), .val (.ref b1), .val (.ref b2), .val (.ref b3), .val (.ref b11), .val (.ref b14), .val (.ref b16), .val (.ref r17)] [(.ref r17)])
    refine Go.step (fun _ k => XS.iconst W.here W.hx rfl (W.d at_151) k) ?_
    show Go _ _ _ _ _ _ _ _ _ _ (mkF m 152 #[.val (.int p0), .val (.int p1), .val (.int p2), .val (.int p3), .val (.int (1 : Int32)), .val (.ref b1), .val (.ref b2), .val (.ref b3), .val (.ref b11), .val (.ref b14), .val (.ref b16), .val (.ref r17)] [(.int (0 : Int32)), (.ref r17)])
    refine Go.step (fun _ k => XS.iload W.here W.hx rfl (W.d at_152) rfl k) ?_
    show Go _ _ _ _ _ _ _ _ _ _ (mkF m 154 #[.val (.int p0), .val (.int p1), .val (.int p2), .val (.int p3), .val (.int (1 : Int32)), .val (.ref b1), .val (.ref b2), .val (.ref b3), .val (.ref b11), .val (.ref b14), .val (.ref b16), .val (.ref r17)] [(.int (1 : Int32)), (.int (0 : Int32)), (.ref r17)])
    refine Go.step (fun _ k => XS.aload W.here W.hx rfl (W.d at_154) rfl rfl k) ?_
    show Go _ _ _ _ _ _ _ _ _ _ (mkF m 156 #[.val (.int p0), .val (.int p1), .val (.int p2), .val (.int p3), .val (.int (1 : Int32)), .val (.ref b1), .val (.ref b2), .val (.ref b3), .val (.ref b11), .val (.ref b14), .val (.ref b16), .val (.ref r17)] [(.ref b1), (.int (1 : Int32)), (.int (0 : Int32)), (.ref r17)])
    refine W.callS (X.w 118 rfl) (X.w 119 rfl) (X.w 2 rfl) (X.w 120 rfl) (by decide) (c_at1 X r17 w18 b1 _ _ (0 : Int32) (1 : Int32) _ W.ext Ar17 Sb1.exa F_size_r17 F_elementData_r17 Vw18 (by decide) (by decide) (by decide) rfl) (by decide) (Wd := 0) (by decide) [(.ref r17), (.int (0 : Int32)), (.int (1 : Int32)), (.ref b1)] [] rfl pd_22 rfl rfl rfl (Nat.le_of_eq rfl) at_156 (by decide) (by decide) ?_
    intro v T h vm W hQ C
    obtain ⟨rfl, rfl⟩ := hQ
    show Go _ _ _ _ _ _ _ _ _ _ (mkF m 159 #[.val (.int p0), .val (.int p1), .val (.int p2), .val (.int p3), .val (.int (1 : Int32)), .val (.ref b1), .val (.ref b2), .val (.ref b3), .val (.ref b11), .val (.ref b14), .val (.ref b16), .val (.ref r17)] [(.int (1 : Int32))])
    refine Go.step (fun _ k => XS.ifNo W.here W.hx rfl (W.d at_159) rfl ((if0 _ _).trans (feq (by decide : ¬ ((1 : Int32) = (0 : Int32)))).1) k) ?_
    show Go _ _ _ _ _ _ _ _ _ _ (mkF m 162 #[.val (.int p0), .val (.int p1), .val (.int p2), .val (.int p3), .val (.int (1 : Int32)), .val (.ref b1), .val (.ref b2), .val (.ref b3), .val (.ref b11), .val (.ref b14), .val (.ref b16), .val (.ref r17)] [])
    refine Go.step (fun _ k => XS.aload W.here W.hx rfl (W.d at_162) rfl rfl k) ?_
    show Go _ _ _ _ _ _ _ _ _ _ (mkF m 164 #[.val (.int p0), .val (.int p1), .val (.int p2), .val (.int p3), .val (.int (1 : Int32)), .val (.ref b1), .val (.ref b2), .val (.ref b3), .val (.ref b11), .val (.ref b14), .val (.ref b16), .val (.ref r17)] [(.ref r17)])
    refine Go.step (fun _ k => XS.iconst W.here W.hx rfl (W.d at_164) k) ?_
    show Go _ _ _ _ _ _ _ _ _ _ (mkF m 165 #[.val (.int p0), .val (.int p1), .val (.int p2), .val (.int p3), .val (.int (1 : Int32)), .val (.ref b1), .val (.ref b2), .val (.ref b3), .val (.ref b11), .val (.ref b14), .val (.ref b16), .val (.ref r17)] [(.int (1 : Int32)), (.ref r17)])
    refine Go.step (fun _ k => XS.iload W.here W.hx rfl (W.d at_165) rfl k) ?_
    show Go _ _ _ _ _ _ _ _ _ _ (mkF m 167 #[.val (.int p0), .val (.int p1), .val (.int p2), .val (.int p3), .val (.int (1 : Int32)), .val (.ref b1), .val (.ref b2), .val (.ref b3), .val (.ref b11), .val (.ref b14), .val (.ref b16), .val (.ref r17)] [(.int (1 : Int32)), (.int (1 : Int32)), (.ref r17)])
    refine Go.step (fun _ k => XS.aload W.here W.hx rfl (W.d at_167) rfl rfl k) ?_
    show Go _ _ _ _ _ _ _ _ _ _ (mkF m 169 #[.val (.int p0), .val (.int p1), .val (.int p2), .val (.int p3), .val (.int (1 : Int32)), .val (.ref b1), .val (.ref b2), .val (.ref b3), .val (.ref b11), .val (.ref b14), .val (.ref b16), .val (.ref r17)] [(.ref b2), (.int (1 : Int32)), (.int (1 : Int32)), (.ref r17)])
    refine W.callS (X.w 118 rfl) (X.w 119 rfl) (X.w 2 rfl) (X.w 120 rfl) (by decide) (c_at0 X r17 b2 (1 : Int32) (1 : Int32) _ W.ext (by decide)) (by decide) (Wd := 0) (by decide) [(.ref r17), (.int (1 : Int32)), (.int (1 : Int32)), (.ref b2)] [] rfl pd_22 rfl rfl rfl (Nat.le_of_eq rfl) at_169 (by decide) (by decide) ?_
    intro v T h vm W hQ C
    obtain ⟨rfl, rfl⟩ := hQ
    show Go _ _ _ _ _ _ _ _ _ _ (mkF m 172 #[.val (.int p0), .val (.int p1), .val (.int p2), .val (.int p3), .val (.int (1 : Int32)), .val (.ref b1), .val (.ref b2), .val (.ref b3), .val (.ref b11), .val (.ref b14), .val (.ref b16), .val (.ref r17)] [(.int (1 : Int32))])
    refine Go.step (fun _ k => XS.ifNo W.here W.hx rfl (W.d at_172) rfl ((if0 _ _).trans (feq (by decide : ¬ ((1 : Int32) = (0 : Int32)))).1) k) ?_
    show Go _ _ _ _ _ _ _ _ _ _ (mkF m 175 #[.val (.int p0), .val (.int p1), .val (.int p2), .val (.int p3), .val (.int (1 : Int32)), .val (.ref b1), .val (.ref b2), .val (.ref b3), .val (.ref b11), .val (.ref b14), .val (.ref b16), .val (.ref r17)] [])
    refine Go.step (fun _ k => XS.aload W.here W.hx rfl (W.d at_175) rfl rfl k) ?_
    show Go _ _ _ _ _ _ _ _ _ _ (mkF m 177 #[.val (.int p0), .val (.int p1), .val (.int p2), .val (.int p3), .val (.int (1 : Int32)), .val (.ref b1), .val (.ref b2), .val (.ref b3), .val (.ref b11), .val (.ref b14), .val (.ref b16), .val (.ref r17)] [(.ref r17)])
    refine Go.step (fun _ k => XS.iconst W.here W.hx rfl (W.d at_177) k) ?_
    show Go _ _ _ _ _ _ _ _ _ _ (mkF m 178 #[.val (.int p0), .val (.int p1), .val (.int p2), .val (.int p3), .val (.int (1 : Int32)), .val (.ref b1), .val (.ref b2), .val (.ref b3), .val (.ref b11), .val (.ref b14), .val (.ref b16), .val (.ref r17)] [(.int (2 : Int32)), (.ref r17)])
    refine Go.step (fun _ k => XS.iload W.here W.hx rfl (W.d at_178) rfl k) ?_
    show Go _ _ _ _ _ _ _ _ _ _ (mkF m 180 #[.val (.int p0), .val (.int p1), .val (.int p2), .val (.int p3), .val (.int (1 : Int32)), .val (.ref b1), .val (.ref b2), .val (.ref b3), .val (.ref b11), .val (.ref b14), .val (.ref b16), .val (.ref r17)] [(.int (1 : Int32)), (.int (2 : Int32)), (.ref r17)])
    refine Go.step (fun _ k => XS.aload W.here W.hx rfl (W.d at_180) rfl rfl k) ?_
    show Go _ _ _ _ _ _ _ _ _ _ (mkF m 182 #[.val (.int p0), .val (.int p1), .val (.int p2), .val (.int p3), .val (.int (1 : Int32)), .val (.ref b1), .val (.ref b2), .val (.ref b3), .val (.ref b11), .val (.ref b14), .val (.ref b16), .val (.ref r17)] [(.ref b3), (.int (1 : Int32)), (.int (2 : Int32)), (.ref r17)])
    refine W.callS (X.w 118 rfl) (X.w 119 rfl) (X.w 2 rfl) (X.w 120 rfl) (by decide) (c_at0 X r17 b3 (2 : Int32) (1 : Int32) _ W.ext (by decide)) (by decide) (Wd := 0) (by decide) [(.ref r17), (.int (2 : Int32)), (.int (1 : Int32)), (.ref b3)] [] rfl pd_22 rfl rfl rfl (Nat.le_of_eq rfl) at_182 (by decide) (by decide) ?_
    intro v T h vm W hQ C
    obtain ⟨rfl, rfl⟩ := hQ
    show Go _ _ _ _ _ _ _ _ _ _ (mkF m 185 #[.val (.int p0), .val (.int p1), .val (.int p2), .val (.int p3), .val (.int (1 : Int32)), .val (.ref b1), .val (.ref b2), .val (.ref b3), .val (.ref b11), .val (.ref b14), .val (.ref b16), .val (.ref r17)] [(.int (1 : Int32))])
    refine Go.step (fun _ k => XS.ifNo W.here W.hx rfl (W.d at_185) rfl ((if0 _ _).trans (feq (by decide : ¬ ((1 : Int32) = (0 : Int32)))).1) k) ?_
    show Go _ _ _ _ _ _ _ _ _ _ (mkF m 188 #[.val (.int p0), .val (.int p1), .val (.int p2), .val (.int p3), .val (.int (1 : Int32)), .val (.ref b1), .val (.ref b2), .val (.ref b3), .val (.ref b11), .val (.ref b14), .val (.ref b16), .val (.ref r17)] [])
    refine Go.step (fun _ k => XS.iconst W.here W.hx rfl (W.d at_188) k) ?_
    show Go _ _ _ _ _ _ _ _ _ _ (mkF m 189 #[.val (.int p0), .val (.int p1), .val (.int p2), .val (.int p3), .val (.int (1 : Int32)), .val (.ref b1), .val (.ref b2), .val (.ref b3), .val (.ref b11), .val (.ref b14), .val (.ref b16), .val (.ref r17)] [(.int (1 : Int32))])
    refine Go.step (fun _ k => XS.goto W.here W.hx rfl (pc0 := 189) (pc' := 193) rfl (W.d at_189) (by decide) (by decide) k) ?_
    show Go _ _ _ _ _ _ _ _ _ _ (mkF m 193 #[.val (.int p0), .val (.int p1), .val (.int p2), .val (.int p3), .val (.int (1 : Int32)), .val (.ref b1), .val (.ref b2), .val (.ref b3), .val (.ref b11), .val (.ref b14), .val (.ref b16), .val (.ref r17)] [(.int (1 : Int32))])
    exact W.retN (by simp) at_193 (rfl) (by decide) (by decide)
  · show Go _ _ _ _ _ _ _ _ _ _ (mkF m 23 #[.val (.int p0), .val (.int p1), .val (.int p2), .val (.int p3), .val (.int (2 : Int32)), .val (.ref b1), .val (.ref b2), .val (.ref b3), .unset, .unset, .unset, .unset] [])
    refine W.new (X.w 26 rfl) (X.w 27 rfl) (X.w 28 rfl) at_23 (by decide) (by decide) ?_
    intro T h b20 hb20 W Eb20 Ab20 Db20
    have ne_b1_b20 : b1 ≠ b20 := by rw [hb20]; exact Nat.ne_of_lt Sb1.exa.lt
    have ne_b2_b20 : b2 ≠ b20 := by rw [hb20]; exact Nat.ne_of_lt Sb2.exa.lt
    have ne_b3_b20 : b3 ≠ b20 := by rw [hb20]; exact Nat.ne_of_lt Sb3.exa.lt
    have gb20 : Z.heap.size ≤ b20 := by rw [hb20]; exact hsz
    replace Sb1 := Sb1.ext Eb20
    replace Sb2 := Sb2.ext Eb20
    replace Sb3 := Sb3.ext Eb20
    replace hsz := W.size
    have F_modCount_b20 : Fld Z h b20 "java/util/AbstractList" "modCount" "I" (.int (0 : Int32)) := Db20 (Or.inl (X.w 46 rfl)) (ty := .int) (by decide)
    have F_elementData_b20 : Fld Z h b20 "java/util/ArrayList" "elementData" "[Ljava/lang/Object;" .null := Db20 (Or.inl (X.w 49 rfl)) (ty := (.array (.object "java/lang/Object"))) (by decide)
    have F_size_b20 : Fld Z h b20 "java/util/ArrayList" "size" "I" (.int (0 : Int32)) := Db20 (Or.inl (X.w 111 rfl)) (ty := .int) (by decide)
    show Go _ _ _ _ _ _ _ _ _ _ (mkF m 26 #[.val (.int p0), .val (.int p1), .val (.int p2), .val (.int p3), .val (.int (2 : Int32)), .val (.ref b1), .val (.ref b2), .val (.ref b3), .unset, .unset, .unset, .unset] [(.ref b20)])
    refine Go.step (fun _ k => XS.dup W.here W.hx rfl (W.d at_26) rfl rfl k) ?_
    show Go _ _ _ _ _ _ _ _ _ _ (mkF m 27 #[.val (.int p0), .val (.int p1), .val (.int p2), .val (.int p3), .val (.int (2 : Int32)), .val (.ref b1), .val (.ref b2), .val (.ref b3), .unset, .unset, .unset, .unset] [(.ref b20), (.ref b20)])
    refine W.special rfl (X.w 29 rfl) (X.w 30 rfl) (X.w 28 rfl) (X.w 31 rfl) (by decide) (c_ali X b20 D _ _ W.ext Y gb20 Ab20 F_modCount_b20 F_elementData_b20 F_size_b20) (by decide) (Wd := 1) (by decide) b20 [] [(.ref b20)] rfl pd_6 rfl rfl rfl (Nat.le_of_eq rfl) at_27 (by decide) (by decide) ?_
    intro v T h vm W hQ C
    obtain ⟨rfl, Ka21, F_modCount_b20', F_elementData_b20', F_size_b20'⟩ := hQ
    replace Sb1 := Sb1.keepE Ka21 Ab20 (by decide) (X.w 27 rfl)
    replace Sb2 := Sb2.keepE Ka21 Ab20 (by decide) (X.w 27 rfl)
    replace Sb3 := Sb3.keepE Ka21 Ab20 (by decide) (X.w 27 rfl)
    replace Ab20 := Ab20.keep Ka21
    replace hsz := W.size
    replace F_modCount_b20 := F_modCount_b20'
    replace F_elementData_b20 := F_elementData_b20'
    replace F_size_b20 := F_size_b20'
    show Go _ _ _ _ _ _ _ _ _ _ (mkF m 30 #[.val (.int p0), .val (.int p1), .val (.int p2), .val (.int p3), .val (.int (2 : Int32)), .val (.ref b1), .val (.ref b2), .val (.ref b3), .unset, .unset, .unset, .unset] [(.ref b20)])
    refine Go.step (fun _ k => XS.astore W.here W.hx rfl (W.d at_30) rfl rfl (l' := #[.val (.int p0), .val (.int p1), .val (.int p2), .val (.int p3), .val (.int (2 : Int32)), .val (.ref b1), .val (.ref b2), .val (.ref b3), .val (.ref b20), .unset, .unset, .unset]) rfl k) ?_
    show Go _ _ _ _ _ _ _ _ _ _ (mkF m 32 #[.val (.int p0), .val (.int p1), .val (.int p2), .val (.int p3), .val (.int (2 : Int32)), .val (.ref b1), .val (.ref b2), .val (.ref b3), .val (.ref b20), .unset, .unset, .unset] [])
    refine Go.step (fun _ k => XS.iload W.here W.hx rfl (W.d at_32) rfl k) ?_
    show Go _ _ _ _ _ _ _ _ _ _ (mkF m 34 #[.val (.int p0), .val (.int p1), .val (.int p2), .val (.int p3), .val (.int (2 : Int32)), .val (.ref b1), .val (.ref b2), .val (.ref b3), .val (.ref b20), .unset, .unset, .unset] [(.int (2 : Int32))])
    refine Go.step (fun _ k => XS.ifNo W.here W.hx rfl (W.d at_34) rfl ((if0 _ _).trans (tlt (by decide : (0 : Int32) < (2 : Int32))).2.2.2) k) ?_
    show Go _ _ _ _ _ _ _ _ _ _ (mkF m 37 #[.val (.int p0), .val (.int p1), .val (.int p2), .val (.int p3), .val (.int (2 : Int32)), .val (.ref b1), .val (.ref b2), .val (.ref b3), .val (.ref b20), .unset, .unset, .unset] [])
    refine Go.step (fun _ k => XS.aload W.here W.hx rfl (W.d at_37) rfl rfl k) ?_
    show Go _ _ _ _ _ _ _ _ _ _ (mkF m 39 #[.val (.int p0), .val (.int p1), .val (.int p2), .val (.int p3), .val (.int (2 : Int32)), .val (.ref b1), .val (.ref b2), .val (.ref b3), .val (.ref b20), .unset, .unset, .unset] [(.ref b20)])
    refine Go.step (fun _ k => XS.aload W.here W.hx rfl (W.d at_39) rfl rfl k) ?_
    show Go _ _ _ _ _ _ _ _ _ _ (mkF m 41 #[.val (.int p0), .val (.int p1), .val (.int p2), .val (.int p3), .val (.int (2 : Int32)), .val (.ref b1), .val (.ref b2), .val (.ref b3), .val (.ref b20), .unset, .unset, .unset] [(.ref b1), (.ref b20)])
    refine W.virtual (X.w 121 rfl) (X.w 122 rfl) (notFace_of_selects (args := #[]) (mvT W.hZ (X.w 124 rfl))) (X.w 124 rfl) (X.w 123 rfl) (X.w 28 rfl) (X.w 125 rfl) (by decide) (c_add0 X b20 D b1 _ _ W.ext Y gb20 Ab20 F_modCount_b20 F_elementData_b20 F_size_b20 Sb1.exa) (by decide) (Wd := 0) (by decide) b20 Ab20 [(.ref b1)] [] rfl pd_18 rfl rfl rfl (Nat.le_of_eq rfl) at_41 (by decide) (by decide) ?_
    intro v T h vm W hQ C
    obtain ⟨rfl, b22, kb22, hn_b22, Kgb22, F_modCount_b20', F_elementData_b20', F_size_b20', Vb22, Ob22⟩ := hQ
    have ne_b1_b22 : b1 ≠ b22 := Nat.ne_of_lt (Nat.lt_of_lt_of_le Sb1.exa.lt hn_b22)
    have ne_b2_b22 : b2 ≠ b22 := Nat.ne_of_lt (Nat.lt_of_lt_of_le Sb2.exa.lt hn_b22)
    have ne_b3_b22 : b3 ≠ b22 := Nat.ne_of_lt (Nat.lt_of_lt_of_le Sb3.exa.lt hn_b22)
    have ne_b20_b22 : b20 ≠ b22 := Nat.ne_of_lt (Nat.lt_of_lt_of_le Ab20.lt hn_b22)
    have gb22 : Z.heap.size ≤ b22 := Nat.le_trans hsz hn_b22
    replace Sb1 := Sb1.keepE Kgb22 Ab20 (by decide) (X.w 27 rfl)
    replace Sb2 := Sb2.keepE Kgb22 Ab20 (by decide) (X.w 27 rfl)
    replace Sb3 := Sb3.keepE Kgb22 Ab20 (by decide) (X.w 27 rfl)
    replace Ab20 := Ab20.keep Kgb22
    replace hsz := W.size
    replace F_modCount_b20 := F_modCount_b20'
    replace F_elementData_b20 := F_elementData_b20'
    replace F_size_b20 := F_size_b20'
    show Go _ _ _ _ _ _ _ _ _ _ (mkF m 44 #[.val (.int p0), .val (.int p1), .val (.int p2), .val (.int p3), .val (.int (2 : Int32)), .val (.ref b1), .val (.ref b2), .val (.ref b3), .val (.ref b20), .unset, .unset, .unset] [(.int (1 : Int32))])
    refine Go.step (fun _ k => XS.pop W.here W.hx rfl (W.d at_44) rfl rfl k) ?_
    show Go _ _ _ _ _ _ _ _ _ _ (mkF m 45 #[.val (.int p0), .val (.int p1), .val (.int p2), .val (.int p3), .val (.int (2 : Int32)), .val (.ref b1), .val (.ref b2), .val (.ref b3), .val (.ref b20), .unset, .unset, .unset] [])
    refine Go.step (fun _ k => XS.iload W.here W.hx rfl (W.d at_45) rfl k) ?_
    show Go _ _ _ _ _ _ _ _ _ _ (mkF m 47 #[.val (.int p0), .val (.int p1), .val (.int p2), .val (.int p3), .val (.int (2 : Int32)), .val (.ref b1), .val (.ref b2), .val (.ref b3), .val (.ref b20), .unset, .unset, .unset] [(.int (2 : Int32))])
    refine Go.step (fun _ k => XS.iconst W.here W.hx rfl (W.d at_47) k) ?_
    show Go _ _ _ _ _ _ _ _ _ _ (mkF m 48 #[.val (.int p0), .val (.int p1), .val (.int p2), .val (.int p3), .val (.int (2 : Int32)), .val (.ref b1), .val (.ref b2), .val (.ref b3), .val (.ref b20), .unset, .unset, .unset] [(.int (1 : Int32)), (.int (2 : Int32))])
    refine Go.step (fun _ k => XS.icmpNo W.here W.hx rfl (W.d at_48) rfl (tlt (by decide : (1 : Int32) < (2 : Int32))).2.2.2 k) ?_
    show Go _ _ _ _ _ _ _ _ _ _ (mkF m 51 #[.val (.int p0), .val (.int p1), .val (.int p2), .val (.int p3), .val (.int (2 : Int32)), .val (.ref b1), .val (.ref b2), .val (.ref b3), .val (.ref b20), .unset, .unset, .unset] [])
    refine Go.step (fun _ k => XS.aload W.here W.hx rfl (W.d at_51) rfl rfl k) ?_
    show Go _ _ _ _ _ _ _ _ _ _ (mkF m 53 #[.val (.int p0), .val (.int p1), .val (.int p2), .val (.int p3), .val (.int (2 : Int32)), .val (.ref b1), .val (.ref b2), .val (.ref b3), .val (.ref b20), .unset, .unset, .unset] [(.ref b20)])
    refine Go.step (fun _ k => XS.aload W.here W.hx rfl (W.d at_53) rfl rfl k) ?_
    show Go _ _ _ _ _ _ _ _ _ _ (mkF m 55 #[.val (.int p0), .val (.int p1), .val (.int p2), .val (.int p3), .val (.int (2 : Int32)), .val (.ref b1), .val (.ref b2), .val (.ref b3), .val (.ref b20), .unset, .unset, .unset] [(.ref b2), (.ref b20)])
    refine W.virtual (X.w 121 rfl) (X.w 122 rfl) (notFace_of_selects (args := #[]) (mvT W.hZ (X.w 124 rfl))) (X.w 124 rfl) (X.w 123 rfl) (X.w 28 rfl) (X.w 125 rfl) (by decide) (c_add1 X b20 D b22 b2 b1 _ _ _ W.ext Y gb20 Ab20 F_modCount_b20 F_elementData_b20 F_size_b20 gb22 Vb22 Ob22 ne_b20_b22 Sb2.exa) (by decide) (Wd := 0) (by decide) b20 Ab20 [(.ref b2)] [] rfl pd_18 rfl rfl rfl (Nat.le_of_eq rfl) at_55 (by decide) (by decide) ?_
    intro v T h vm W hQ C
    obtain ⟨rfl, Kg23, F_modCount_b20', F_elementData_b20', F_size_b20', Vb22'⟩ := hQ
    replace Sb1 := Sb1.keepL Kg23 Ab20 Vb22 (by decide) (by decide) (X.w 27 rfl) (X.w 5 rfl)
    replace Sb2 := Sb2.keepL Kg23 Ab20 Vb22 (by decide) (by decide) (X.w 27 rfl) (X.w 5 rfl)
    replace Sb3 := Sb3.keepL Kg23 Ab20 Vb22 (by decide) (by decide) (X.w 27 rfl) (X.w 5 rfl)
    replace Ab20 := Ab20.keep Kg23
    replace hsz := W.size
    replace Vb22 := Vb22'
    replace F_modCount_b20 := F_modCount_b20'
    replace F_elementData_b20 := F_elementData_b20'
    replace F_size_b20 := F_size_b20'
    show Go _ _ _ _ _ _ _ _ _ _ (mkF m 58 #[.val (.int p0), .val (.int p1), .val (.int p2), .val (.int p3), .val (.int (2 : Int32)), .val (.ref b1), .val (.ref b2), .val (.ref b3), .val (.ref b20), .unset, .unset, .unset] [(.int (1 : Int32))])
    refine Go.step (fun _ k => XS.pop W.here W.hx rfl (W.d at_58) rfl rfl k) ?_
    show Go _ _ _ _ _ _ _ _ _ _ (mkF m 59 #[.val (.int p0), .val (.int p1), .val (.int p2), .val (.int p3), .val (.int (2 : Int32)), .val (.ref b1), .val (.ref b2), .val (.ref b3), .val (.ref b20), .unset, .unset, .unset] [])
    refine Go.step (fun _ k => XS.iload W.here W.hx rfl (W.d at_59) rfl k) ?_
    show Go _ _ _ _ _ _ _ _ _ _ (mkF m 61 #[.val (.int p0), .val (.int p1), .val (.int p2), .val (.int p3), .val (.int (2 : Int32)), .val (.ref b1), .val (.ref b2), .val (.ref b3), .val (.ref b20), .unset, .unset, .unset] [(.int (2 : Int32))])
    refine Go.step (fun _ k => XS.iconst W.here W.hx rfl (W.d at_61) k) ?_
    show Go _ _ _ _ _ _ _ _ _ _ (mkF m 62 #[.val (.int p0), .val (.int p1), .val (.int p2), .val (.int p3), .val (.int (2 : Int32)), .val (.ref b1), .val (.ref b2), .val (.ref b3), .val (.ref b20), .unset, .unset, .unset] [(.int (2 : Int32)), (.int (2 : Int32))])
    refine Go.step (fun _ k => XS.icmpYes W.here W.hx rfl (pc0 := 62) (pc' := 73) rfl (W.d at_62) rfl (flt (by decide : ¬ ((2 : Int32) < (2 : Int32)))).2.2.2 (by decide) (by decide) k) ?_
    show Go _ _ _ _ _ _ _ _ _ _ (mkF m 73 #[.val (.int p0), .val (.int p1), .val (.int p2), .val (.int p3), .val (.int (2 : Int32)), .val (.ref b1), .val (.ref b2), .val (.ref b3), .val (.ref b20), .unset, .unset, .unset] [])
    refine Go.step (fun _ k => XS.iload W.here W.hx rfl (W.d at_73) rfl k) ?_
    show Go _ _ _ _ _ _ _ _ _ _ (mkF m 75 #[.val (.int p0), .val (.int p1), .val (.int p2), .val (.int p3), .val (.int (2 : Int32)), .val (.ref b1), .val (.ref b2), .val (.ref b3), .val (.ref b20), .unset, .unset, .unset] [(.int (2 : Int32))])
    refine W.newref (X.w 4 rfl) (X.w 50 rfl) at_75 (by decide) (cap := 2) (by decide) (by decide) (by decide) (by decide) ?_
    intro T h b24 kb24 hb24 W Eb24 Vb24 Ob24
    have ne_b1_b24 : b1 ≠ b24 := by rw [hb24]; exact Nat.ne_of_lt Sb1.exa.lt
    have ne_b2_b24 : b2 ≠ b24 := by rw [hb24]; exact Nat.ne_of_lt Sb2.exa.lt
    have ne_b3_b24 : b3 ≠ b24 := by rw [hb24]; exact Nat.ne_of_lt Sb3.exa.lt
    have ne_b20_b24 : b20 ≠ b24 := by rw [hb24]; exact Nat.ne_of_lt Ab20.lt
    have ne_b22_b24 : b22 ≠ b24 := by rw [hb24]; exact Nat.ne_of_lt Vb22.lt
    have gb24 : Z.heap.size ≤ b24 := by rw [hb24]; exact hsz
    replace Sb1 := Sb1.ext Eb24
    replace Sb2 := Sb2.ext Eb24
    replace Sb3 := Sb3.ext Eb24
    replace F_modCount_b20 := F_modCount_b20.ext Eb24
    replace F_elementData_b20 := F_elementData_b20.ext Eb24
    replace F_size_b20 := F_size_b20.ext Eb24
    replace Vb22 := Vb22.ext Eb24
    replace Ab20 := Ab20.ext Eb24
    replace hsz := W.size
    replace Vb24 : Arv Z h b24 kb24 (.object "java/lang/String") (2 : Int32) [.null, .null] .null := Vb24.pad (pad_rep [] .null 2)
    show Go _ _ _ _ _ _ _ _ _ _ (mkF m 78 #[.val (.int p0), .val (.int p1), .val (.int p2), .val (.int p3), .val (.int (2 : Int32)), .val (.ref b1), .val (.ref b2), .val (.ref b3), .val (.ref b20), .unset, .unset, .unset] [(.ref b24)])
    refine Go.step (fun _ k => XS.astore W.here W.hx rfl (W.d at_78) rfl rfl (l' := #[.val (.int p0), .val (.int p1), .val (.int p2), .val (.int p3), .val (.int (2 : Int32)), .val (.ref b1), .val (.ref b2), .val (.ref b3), .val (.ref b20), .val (.ref b24), .unset, .unset]) rfl k) ?_
    show Go _ _ _ _ _ _ _ _ _ _ (mkF m 80 #[.val (.int p0), .val (.int p1), .val (.int p2), .val (.int p3), .val (.int (2 : Int32)), .val (.ref b1), .val (.ref b2), .val (.ref b3), .val (.ref b20), .val (.ref b24), .unset, .unset] [])
    refine Go.step (fun _ k => XS.iload W.here W.hx rfl (W.d at_80) rfl k) ?_
    show Go _ _ _ _ _ _ _ _ _ _ (mkF m 82 #[.val (.int p0), .val (.int p1), .val (.int p2), .val (.int p3), .val (.int (2 : Int32)), .val (.ref b1), .val (.ref b2), .val (.ref b3), .val (.ref b20), .val (.ref b24), .unset, .unset] [(.int (2 : Int32))])
    refine Go.step (fun _ k => XS.ifNo W.here W.hx rfl (W.d at_82) rfl ((if0 _ _).trans (tlt (by decide : (0 : Int32) < (2 : Int32))).2.2.2) k) ?_
    show Go _ _ _ _ _ _ _ _ _ _ (mkF m 85 #[.val (.int p0), .val (.int p1), .val (.int p2), .val (.int p3), .val (.int (2 : Int32)), .val (.ref b1), .val (.ref b2), .val (.ref b3), .val (.ref b20), .val (.ref b24), .unset, .unset] [])
    refine Go.step (fun _ k => XS.aload W.here W.hx rfl (W.d at_85) rfl rfl k) ?_
    show Go _ _ _ _ _ _ _ _ _ _ (mkF m 87 #[.val (.int p0), .val (.int p1), .val (.int p2), .val (.int p3), .val (.int (2 : Int32)), .val (.ref b1), .val (.ref b2), .val (.ref b3), .val (.ref b20), .val (.ref b24), .unset, .unset] [(.ref b24)])
    refine Go.step (fun _ k => XS.iconst W.here W.hx rfl (W.d at_87) k) ?_
    show Go _ _ _ _ _ _ _ _ _ _ (mkF m 88 #[.val (.int p0), .val (.int p1), .val (.int p2), .val (.int p3), .val (.int (2 : Int32)), .val (.ref b1), .val (.ref b2), .val (.ref b3), .val (.ref b20), .val (.ref b24), .unset, .unset] [(.int (0 : Int32)), (.ref b24)])
    refine Go.step (fun _ k => XS.aload W.here W.hx rfl (W.d at_88) rfl rfl k) ?_
    show Go _ _ _ _ _ _ _ _ _ _ (mkF m 90 #[.val (.int p0), .val (.int p1), .val (.int p2), .val (.int p3), .val (.int (2 : Int32)), .val (.ref b1), .val (.ref b2), .val (.ref b3), .val (.ref b20), .val (.ref b24), .unset, .unset] [(.ref b3), (.int (0 : Int32)), (.ref b24)])
    refine W.aastore Vb24 Ob24 (Ins.self Sb3.exa) 0 rfl (by simp) (by decide) gb24 at_90 ?_
    intro T h W K25 Vb24'
    replace Sb1 := Sb1.keepC K25 Vb24 (by decide) (X.w 5 rfl)
    replace Sb2 := Sb2.keepC K25 Vb24 (by decide) (X.w 5 rfl)
    replace Sb3 := Sb3.keepC K25 Vb24 (by decide) (X.w 5 rfl)
    replace F_modCount_b20 := F_modCount_b20.keep K25 (nin1 ne_b20_b24)
    replace F_elementData_b20 := F_elementData_b20.keep K25 (nin1 ne_b20_b24)
    replace F_size_b20 := F_size_b20.keep K25 (nin1 ne_b20_b24)
    replace Vb22 := Vb22.keep K25 (nin1 ne_b22_b24)
    replace Ab20 := Ab20.keep K25
    replace hsz := W.size
    replace Vb24 : Arv Z h b24 kb24 (.object "java/lang/String") (2 : Int32) [(.ref b3), .null] .null := Vb24'
    show Go _ _ _ _ _ _ _ _ _ _ (mkF m 91 #[.val (.int p0), .val (.int p1), .val (.int p2), .val (.int p3), .val (.int (2 : Int32)), .val (.ref b1), .val (.ref b2), .val (.ref b3), .val (.ref b20), .val (.ref b24), .unset, .unset] [])
    refine Go.step (fun _ k => XS.iload W.here W.hx rfl (W.d at_91) rfl k) ?_
    show Go _ _ _ _ _ _ _ _ _ _ (mkF m 93 #[.val (.int p0), .val (.int p1), .val (.int p2), .val (.int p3), .val (.int (2 : Int32)), .val (.ref b1), .val (.ref b2), .val (.ref b3), .val (.ref b20), .val (.ref b24), .unset, .unset] [(.int (2 : Int32))])
    refine Go.step (fun _ k => XS.iconst W.here W.hx rfl (W.d at_93) k) ?_
    show Go _ _ _ _ _ _ _ _ _ _ (mkF m 94 #[.val (.int p0), .val (.int p1), .val (.int p2), .val (.int p3), .val (.int (2 : Int32)), .val (.ref b1), .val (.ref b2), .val (.ref b3), .val (.ref b20), .val (.ref b24), .unset, .unset] [(.int (1 : Int32)), (.int (2 : Int32))])
    refine Go.step (fun _ k => XS.icmpNo W.here W.hx rfl (W.d at_94) rfl (tlt (by decide : (1 : Int32) < (2 : Int32))).2.2.2 k) ?_
    show Go _ _ _ _ _ _ _ _ _ _ (mkF m 97 #[.val (.int p0), .val (.int p1), .val (.int p2), .val (.int p3), .val (.int (2 : Int32)), .val (.ref b1), .val (.ref b2), .val (.ref b3), .val (.ref b20), .val (.ref b24), .unset, .unset] [])
    refine Go.step (fun _ k => XS.aload W.here W.hx rfl (W.d at_97) rfl rfl k) ?_
    show Go _ _ _ _ _ _ _ _ _ _ (mkF m 99 #[.val (.int p0), .val (.int p1), .val (.int p2), .val (.int p3), .val (.int (2 : Int32)), .val (.ref b1), .val (.ref b2), .val (.ref b3), .val (.ref b20), .val (.ref b24), .unset, .unset] [(.ref b24)])
    refine Go.step (fun _ k => XS.iconst W.here W.hx rfl (W.d at_99) k) ?_
    show Go _ _ _ _ _ _ _ _ _ _ (mkF m 100 #[.val (.int p0), .val (.int p1), .val (.int p2), .val (.int p3), .val (.int (2 : Int32)), .val (.ref b1), .val (.ref b2), .val (.ref b3), .val (.ref b20), .val (.ref b24), .unset, .unset] [(.int (1 : Int32)), (.ref b24)])
    refine Go.step (fun _ k => XS.aload W.here W.hx rfl (W.d at_100) rfl rfl k) ?_
    show Go _ _ _ _ _ _ _ _ _ _ (mkF m 102 #[.val (.int p0), .val (.int p1), .val (.int p2), .val (.int p3), .val (.int (2 : Int32)), .val (.ref b1), .val (.ref b2), .val (.ref b3), .val (.ref b20), .val (.ref b24), .unset, .unset] [(.ref b2), (.int (1 : Int32)), (.ref b24)])
    refine W.aastore Vb24 Ob24 (Ins.self Sb2.exa) 1 rfl (by simp) (by decide) gb24 at_102 ?_
    intro T h W K26 Vb24'
    replace Sb1 := Sb1.keepC K26 Vb24 (by decide) (X.w 5 rfl)
    replace Sb2 := Sb2.keepC K26 Vb24 (by decide) (X.w 5 rfl)
    replace Sb3 := Sb3.keepC K26 Vb24 (by decide) (X.w 5 rfl)
    replace F_modCount_b20 := F_modCount_b20.keep K26 (nin1 ne_b20_b24)
    replace F_elementData_b20 := F_elementData_b20.keep K26 (nin1 ne_b20_b24)
    replace F_size_b20 := F_size_b20.keep K26 (nin1 ne_b20_b24)
    replace Vb22 := Vb22.keep K26 (nin1 ne_b22_b24)
    replace Ab20 := Ab20.keep K26
    replace hsz := W.size
    replace Vb24 : Arv Z h b24 kb24 (.object "java/lang/String") (2 : Int32) [(.ref b3), (.ref b2)] .null := Vb24'
    show Go _ _ _ _ _ _ _ _ _ _ (mkF m 103 #[.val (.int p0), .val (.int p1), .val (.int p2), .val (.int p3), .val (.int (2 : Int32)), .val (.ref b1), .val (.ref b2), .val (.ref b3), .val (.ref b20), .val (.ref b24), .unset, .unset] [])
    refine Go.step (fun _ k => XS.iload W.here W.hx rfl (W.d at_103) rfl k) ?_
    show Go _ _ _ _ _ _ _ _ _ _ (mkF m 105 #[.val (.int p0), .val (.int p1), .val (.int p2), .val (.int p3), .val (.int (2 : Int32)), .val (.ref b1), .val (.ref b2), .val (.ref b3), .val (.ref b20), .val (.ref b24), .unset, .unset] [(.int (2 : Int32))])
    refine Go.step (fun _ k => XS.iconst W.here W.hx rfl (W.d at_105) k) ?_
    show Go _ _ _ _ _ _ _ _ _ _ (mkF m 106 #[.val (.int p0), .val (.int p1), .val (.int p2), .val (.int p3), .val (.int (2 : Int32)), .val (.ref b1), .val (.ref b2), .val (.ref b3), .val (.ref b20), .val (.ref b24), .unset, .unset] [(.int (2 : Int32)), (.int (2 : Int32))])
    refine Go.step (fun _ k => XS.icmpYes W.here W.hx rfl (pc0 := 106) (pc' := 115) rfl (W.d at_106) rfl (flt (by decide : ¬ ((2 : Int32) < (2 : Int32)))).2.2.2 (by decide) (by decide) k) ?_
    show Go _ _ _ _ _ _ _ _ _ _ (mkF m 115 #[.val (.int p0), .val (.int p1), .val (.int p2), .val (.int p3), .val (.int (2 : Int32)), .val (.ref b1), .val (.ref b2), .val (.ref b3), .val (.ref b20), .val (.ref b24), .unset, .unset] [])
    refine W.new (X.w 51 rfl) (X.w 52 rfl) (X.w 53 rfl) at_115 (by decide) (by decide) ?_
    intro T h b27 hb27 W Eb27 Ab27 Db27
    have ne_b1_b27 : b1 ≠ b27 := by rw [hb27]; exact Nat.ne_of_lt Sb1.exa.lt
    have ne_b2_b27 : b2 ≠ b27 := by rw [hb27]; exact Nat.ne_of_lt Sb2.exa.lt
    have ne_b3_b27 : b3 ≠ b27 := by rw [hb27]; exact Nat.ne_of_lt Sb3.exa.lt
    have ne_b20_b27 : b20 ≠ b27 := by rw [hb27]; exact Nat.ne_of_lt Ab20.lt
    have ne_b22_b27 : b22 ≠ b27 := by rw [hb27]; exact Nat.ne_of_lt Vb22.lt
    have ne_b24_b27 : b24 ≠ b27 := by rw [hb27]; exact Nat.ne_of_lt Vb24.lt
    have gb27 : Z.heap.size ≤ b27 := by rw [hb27]; exact hsz
    replace Sb1 := Sb1.ext Eb27
    replace Sb2 := Sb2.ext Eb27
    replace Sb3 := Sb3.ext Eb27
    replace F_modCount_b20 := F_modCount_b20.ext Eb27
    replace F_elementData_b20 := F_elementData_b20.ext Eb27
    replace F_size_b20 := F_size_b20.ext Eb27
    replace Vb22 := Vb22.ext Eb27
    replace Vb24 := Vb24.ext Eb27
    replace Ab20 := Ab20.ext Eb27
    replace hsz := W.size
    have F_values_b27 : Fld Z h b27 "com/example/hataraki/hataraki/cli/Options" "values" "Ljava/util/Map;" .null := Db27 (Or.inr (X.w 75 rfl)) (ty := (.object "java/util/Map")) (by decide)
    have F_switches_b27 : Fld Z h b27 "com/example/hataraki/hataraki/cli/Options" "switches" "Ljava/util/Set;" .null := Db27 (Or.inr (X.w 96 rfl)) (ty := (.object "java/util/Set")) (by decide)
    have F_operands_b27 : Fld Z h b27 "com/example/hataraki/hataraki/cli/Options" "operands" "Ljava/util/List;" .null := Db27 (Or.inr (X.w 100 rfl)) (ty := (.object "java/util/List")) (by decide)
    show Go _ _ _ _ _ _ _ _ _ _ (mkF m 118 #[.val (.int p0), .val (.int p1), .val (.int p2), .val (.int p3), .val (.int (2 : Int32)), .val (.ref b1), .val (.ref b2), .val (.ref b3), .val (.ref b20), .val (.ref b24), .unset, .unset] [(.ref b27)])
    refine Go.step (fun _ k => XS.dup W.here W.hx rfl (W.d at_118) rfl rfl k) ?_
    show Go _ _ _ _ _ _ _ _ _ _ (mkF m 119 #[.val (.int p0), .val (.int p1), .val (.int p2), .val (.int p3), .val (.int (2 : Int32)), .val (.ref b1), .val (.ref b2), .val (.ref b3), .val (.ref b20), .val (.ref b24), .unset, .unset] [(.ref b27), (.ref b27)])
    refine Go.step (fun _ k => XS.aload W.here W.hx rfl (W.d at_119) rfl rfl k) ?_
    show Go _ _ _ _ _ _ _ _ _ _ (mkF m 121 #[.val (.int p0), .val (.int p1), .val (.int p2), .val (.int p3), .val (.int (2 : Int32)), .val (.ref b1), .val (.ref b2), .val (.ref b3), .val (.ref b20), .val (.ref b24), .unset, .unset] [(.ref b20), (.ref b27), (.ref b27)])
    refine Go.step (fun _ k => XS.aconstNull W.here W.hx rfl (W.d at_121) k) ?_
    show Go _ _ _ _ _ _ _ _ _ _ (mkF m 122 #[.val (.int p0), .val (.int p1), .val (.int p2), .val (.int p3), .val (.int (2 : Int32)), .val (.ref b1), .val (.ref b2), .val (.ref b3), .val (.ref b20), .val (.ref b24), .unset, .unset] [.null, (.ref b20), (.ref b27), (.ref b27)])
    refine Go.step (fun _ k => XS.aconstNull W.here W.hx rfl (W.d at_122) k) ?_
    show Go _ _ _ _ _ _ _ _ _ _ (mkF m 123 #[.val (.int p0), .val (.int p1), .val (.int p2), .val (.int p3), .val (.int (2 : Int32)), .val (.ref b1), .val (.ref b2), .val (.ref b3), .val (.ref b20), .val (.ref b24), .unset, .unset] [.null, .null, (.ref b20), (.ref b27), (.ref b27)])
    refine W.special rfl (X.w 54 rfl) (X.w 55 rfl) (X.w 53 rfl) (X.w 56 rfl) (by decide) (c_op2 X b27 b20 D _ b22 b1 b2 _ _ _ _ W.ext Y gb27 Ab27 F_values_b27 F_switches_b27 F_operands_b27 Ab20 F_size_b20 F_elementData_b20 Vb22 Sb1 Nb1 Sb2 Nb2) (by decide) (Wd := 1) (by decide) b27 [(.ref b20), .null, .null] [(.ref b27)] rfl pd_20 rfl rfl rfl (Nat.le_of_eq rfl) at_123 (by decide) (by decide) ?_
    intro v T h vm W hQ C
    obtain ⟨rfl, Ko30, r28, F_operands_b27', Ar28, F_size_r28, w29, kw29, F_elementData_r28, Vw29⟩ := hQ
    replace Sb1 := Sb1.keepE Ko30 Ab27 (by decide) (X.w 52 rfl)
    replace Sb2 := Sb2.keepE Ko30 Ab27 (by decide) (X.w 52 rfl)
    replace Sb3 := Sb3.keepE Ko30 Ab27 (by decide) (X.w 52 rfl)
    replace F_modCount_b20 := F_modCount_b20.keep Ko30 (nin1 ne_b20_b27)
    replace F_elementData_b20 := F_elementData_b20.keep Ko30 (nin1 ne_b20_b27)
    replace F_size_b20 := F_size_b20.keep Ko30 (nin1 ne_b20_b27)
    replace Vb22 := Vb22.keep Ko30 (nin1 ne_b22_b27)
    replace Vb24 := Vb24.keep Ko30 (nin1 ne_b24_b27)
    replace Ab20 := Ab20.keep Ko30
    replace Ab27 := Ab27.keep Ko30
    replace hsz := W.size
    replace F_operands_b27 := F_operands_b27'
    show Go _ _ _ _ _ _ _ _ _ _ (mkF m 126 #[.val (.int p0), .val (.int p1), .val (.int p2), .val (.int p3), .val (.int (2 : Int32)), .val (.ref b1), .val (.ref b2), .val (.ref b3), .val (.ref b20), .val (.ref b24), .unset, .unset] [(.ref b27)])
    refine Go.step (fun _ k => XS.astore W.here W.hx rfl (W.d at_126) rfl rfl (l' := #[.val (.int p0), .val (.int p1), .val (.int p2), .val (.int p3), .val (.int (2 : Int32)), .val (.ref b1), .val (.ref b2), .val (.ref b3), .val (.ref b20), .val (.ref b24), .val (.ref b27), .unset]) rfl k) ?_
    show Go _ _ _ _ _ _ _ _ _ _ (mkF m 128 #[.val (.int p0), .val (.int p1), .val (.int p2), .val (.int p3), .val (.int (2 : Int32)), .val (.ref b1), .val (.ref b2), .val (.ref b3), .val (.ref b20), .val (.ref b24), .val (.ref b27), .unset] [])
    refine Go.step (fun _ k => XS.aload W.here W.hx rfl (W.d at_128) rfl rfl k) ?_
    show Go _ _ _ _ _ _ _ _ _ _ (mkF m 130 #[.val (.int p0), .val (.int p1), .val (.int p2), .val (.int p3), .val (.int (2 : Int32)), .val (.ref b1), .val (.ref b2), .val (.ref b3), .val (.ref b20), .val (.ref b24), .val (.ref b27), .unset] [(.ref b27)])
    refine Go.step (fun _ k => XS.aload W.here W.hx rfl (W.d at_130) rfl rfl k) ?_
    show Go _ _ _ _ _ _ _ _ _ _ (mkF m 132 #[.val (.int p0), .val (.int p1), .val (.int p2), .val (.int p3), .val (.int (2 : Int32)), .val (.ref b1), .val (.ref b2), .val (.ref b3), .val (.ref b20), .val (.ref b24), .val (.ref b27), .unset] [(.ref b24), (.ref b27)])
    refine W.virtual (X.w 112 rfl) (X.w 113 rfl) (notFace_of_selects (args := #[]) (mvT W.hZ (X.w 115 rfl))) (X.w 115 rfl) (X.w 114 rfl) (X.w 53 rfl) (X.w 116 rfl) (by decide) (c_ops X b27 b24 r28 _ (2 : Int32) _ _ W.ext F_operands_b27 Ar28 F_size_r28 Vb24) (by decide) (Wd := 0) (by decide) b27 Ab27 [(.ref b24)] [] rfl pd_21 rfl rfl rfl (Nat.le_of_eq rfl) at_132 (by decide) (by decide) ?_
    intro v T h vm W hQ C
    obtain ⟨rfl, rfl⟩ := hQ
    show Go _ _ _ _ _ _ _ _ _ _ (mkF m 135 #[.val (.int p0), .val (.int p1), .val (.int p2), .val (.int p3), .val (.int (2 : Int32)), .val (.ref b1), .val (.ref b2), .val (.ref b3), .val (.ref b20), .val (.ref b24), .val (.ref b27), .unset] [(.ref r28)])
    refine Go.step (fun _ k => XS.astore W.here W.hx rfl (W.d at_135) rfl rfl (l' := #[.val (.int p0), .val (.int p1), .val (.int p2), .val (.int p3), .val (.int (2 : Int32)), .val (.ref b1), .val (.ref b2), .val (.ref b3), .val (.ref b20), .val (.ref b24), .val (.ref b27), .val (.ref r28)]) rfl k) ?_
    show Go _ _ _ _ _ _ _ _ _ _ (mkF m 137 #[.val (.int p0), .val (.int p1), .val (.int p2), .val (.int p3), .val (.int (2 : Int32)), .val (.ref b1), .val (.ref b2), .val (.ref b3), .val (.ref b20), .val (.ref b24), .val (.ref b27), .val (.ref r28)] [])
    refine Go.step (fun _ k => XS.aload W.here W.hx rfl (W.d at_137) rfl rfl k) ?_
    show Go _ _ _ _ _ _ _ _ _ _ (mkF m 139 #[.val (.int p0), .val (.int p1), .val (.int p2), .val (.int p3), .val (.int (2 : Int32)), .val (.ref b1), .val (.ref b2), .val (.ref b3), .val (.ref b20), .val (.ref b24), .val (.ref b27), .val (.ref r28)] [(.ref r28)])
    refine W.iface (X.w 117 rfl) (X.w 102 rfl) (X.w 103 rfl) (X.w 104 rfl) (X.w 105 rfl) (X.w 106 rfl) (X.w 107 rfl) (X.w 108 rfl) (X.w 28 rfl) (X.w 109 rfl) (by decide) (c_size X r28 (2 : Int32) _ W.ext F_size_r28) (by decide) (Wd := 0) (by decide) r28 Ar28 [] [] rfl pd_14 rfl rfl rfl (Nat.le_of_eq rfl) at_139 (by decide) (by decide) ?_
    intro v T h vm W hQ C
    obtain ⟨rfl, rfl⟩ := hQ
    show Go _ _ _ _ _ _ _ _ _ _ (mkF m 144 #[.val (.int p0), .val (.int p1), .val (.int p2), .val (.int p3), .val (.int (2 : Int32)), .val (.ref b1), .val (.ref b2), .val (.ref b3), .val (.ref b20), .val (.ref b24), .val (.ref b27), .val (.ref r28)] [(.int (2 : Int32))])
    refine Go.step (fun _ k => XS.iload W.here W.hx rfl (W.d at_144) rfl k) ?_
    show Go _ _ _ _ _ _ _ _ _ _ (mkF m 146 #[.val (.int p0), .val (.int p1), .val (.int p2), .val (.int p3), .val (.int (2 : Int32)), .val (.ref b1), .val (.ref b2), .val (.ref b3), .val (.ref b20), .val (.ref b24), .val (.ref b27), .val (.ref r28)] [(.int (2 : Int32)), (.int (2 : Int32))])
    refine Go.step (fun _ k => XS.icmpNo W.here W.hx rfl (W.d at_146) rfl (teq (by decide : (2 : Int32) = (2 : Int32))).2 k) ?_
    show Go _ _ _ _ _ _ _ _ _ _ (mkF m 149 #[.val (.int p0), .val (.int p1), .val (.int p2), .val (.int p3), .val (.int (2 : Int32)), .val (.ref b1), .val (.ref b2), .val (.ref b3), .val (.ref b20), .val (.ref b24), .val (.ref b27), .val (.ref r28)] [])
    refine Go.step (fun _ k => XS.aload W.here W.hx rfl (W.d at_149) rfl rfl k) ?_
    show Go _ _ _ _ _ _ _ _ _ _ (mkF m 151 #[.val (.int p0), .val (.int p1), .val (.int p2), .val (.int p3), .val (.int (2 : Int32)), .val (.ref b1), .val (.ref b2), .val (.ref b3), .val (.ref b20), .val (.ref b24), .val (.ref b27), .val (.ref r28)] [(.ref r28)])
    refine Go.step (fun _ k => XS.iconst W.here W.hx rfl (W.d at_151) k) ?_
    show Go _ _ _ _ _ _ _ _ _ _ (mkF m 152 #[.val (.int p0), .val (.int p1), .val (.int p2), .val (.int p3), .val (.int (2 : Int32)), .val (.ref b1), .val (.ref b2), .val (.ref b3), .val (.ref b20), .val (.ref b24), .val (.ref b27), .val (.ref r28)] [(.int (0 : Int32)), (.ref r28)])
    refine Go.step (fun _ k => XS.iload W.here W.hx rfl (W.d at_152) rfl k) ?_
    show Go _ _ _ _ _ _ _ _ _ _ (mkF m 154 #[.val (.int p0), .val (.int p1), .val (.int p2), .val (.int p3), .val (.int (2 : Int32)), .val (.ref b1), .val (.ref b2), .val (.ref b3), .val (.ref b20), .val (.ref b24), .val (.ref b27), .val (.ref r28)] [(.int (2 : Int32)), (.int (0 : Int32)), (.ref r28)])
    refine Go.step (fun _ k => XS.aload W.here W.hx rfl (W.d at_154) rfl rfl k) ?_
    show Go _ _ _ _ _ _ _ _ _ _ (mkF m 156 #[.val (.int p0), .val (.int p1), .val (.int p2), .val (.int p3), .val (.int (2 : Int32)), .val (.ref b1), .val (.ref b2), .val (.ref b3), .val (.ref b20), .val (.ref b24), .val (.ref b27), .val (.ref r28)] [(.ref b1), (.int (2 : Int32)), (.int (0 : Int32)), (.ref r28)])
    refine W.callS (X.w 118 rfl) (X.w 119 rfl) (X.w 2 rfl) (X.w 120 rfl) (by decide) (c_at1 X r28 w29 b1 _ _ (0 : Int32) (2 : Int32) _ W.ext Ar28 Sb1.exa F_size_r28 F_elementData_r28 Vw29 (by decide) (by decide) (by decide) rfl) (by decide) (Wd := 0) (by decide) [(.ref r28), (.int (0 : Int32)), (.int (2 : Int32)), (.ref b1)] [] rfl pd_22 rfl rfl rfl (Nat.le_of_eq rfl) at_156 (by decide) (by decide) ?_
    intro v T h vm W hQ C
    obtain ⟨rfl, rfl⟩ := hQ
    show Go _ _ _ _ _ _ _ _ _ _ (mkF m 159 #[.val (.int p0), .val (.int p1), .val (.int p2), .val (.int p3), .val (.int (2 : Int32)), .val (.ref b1), .val (.ref b2), .val (.ref b3), .val (.ref b20), .val (.ref b24), .val (.ref b27), .val (.ref r28)] [(.int (1 : Int32))])
    refine Go.step (fun _ k => XS.ifNo W.here W.hx rfl (W.d at_159) rfl ((if0 _ _).trans (feq (by decide : ¬ ((1 : Int32) = (0 : Int32)))).1) k) ?_
    show Go _ _ _ _ _ _ _ _ _ _ (mkF m 162 #[.val (.int p0), .val (.int p1), .val (.int p2), .val (.int p3), .val (.int (2 : Int32)), .val (.ref b1), .val (.ref b2), .val (.ref b3), .val (.ref b20), .val (.ref b24), .val (.ref b27), .val (.ref r28)] [])
    refine Go.step (fun _ k => XS.aload W.here W.hx rfl (W.d at_162) rfl rfl k) ?_
    show Go _ _ _ _ _ _ _ _ _ _ (mkF m 164 #[.val (.int p0), .val (.int p1), .val (.int p2), .val (.int p3), .val (.int (2 : Int32)), .val (.ref b1), .val (.ref b2), .val (.ref b3), .val (.ref b20), .val (.ref b24), .val (.ref b27), .val (.ref r28)] [(.ref r28)])
    refine Go.step (fun _ k => XS.iconst W.here W.hx rfl (W.d at_164) k) ?_
    show Go _ _ _ _ _ _ _ _ _ _ (mkF m 165 #[.val (.int p0), .val (.int p1), .val (.int p2), .val (.int p3), .val (.int (2 : Int32)), .val (.ref b1), .val (.ref b2), .val (.ref b3), .val (.ref b20), .val (.ref b24), .val (.ref b27), .val (.ref r28)] [(.int (1 : Int32)), (.ref r28)])
    refine Go.step (fun _ k => XS.iload W.here W.hx rfl (W.d at_165) rfl k) ?_
    show Go _ _ _ _ _ _ _ _ _ _ (mkF m 167 #[.val (.int p0), .val (.int p1), .val (.int p2), .val (.int p3), .val (.int (2 : Int32)), .val (.ref b1), .val (.ref b2), .val (.ref b3), .val (.ref b20), .val (.ref b24), .val (.ref b27), .val (.ref r28)] [(.int (2 : Int32)), (.int (1 : Int32)), (.ref r28)])
    refine Go.step (fun _ k => XS.aload W.here W.hx rfl (W.d at_167) rfl rfl k) ?_
    show Go _ _ _ _ _ _ _ _ _ _ (mkF m 169 #[.val (.int p0), .val (.int p1), .val (.int p2), .val (.int p3), .val (.int (2 : Int32)), .val (.ref b1), .val (.ref b2), .val (.ref b3), .val (.ref b20), .val (.ref b24), .val (.ref b27), .val (.ref r28)] [(.ref b2), (.int (2 : Int32)), (.int (1 : Int32)), (.ref r28)])
    refine W.callS (X.w 118 rfl) (X.w 119 rfl) (X.w 2 rfl) (X.w 120 rfl) (by decide) (c_at1 X r28 w29 b2 _ _ (1 : Int32) (2 : Int32) _ W.ext Ar28 Sb2.exa F_size_r28 F_elementData_r28 Vw29 (by decide) (by decide) (by decide) rfl) (by decide) (Wd := 0) (by decide) [(.ref r28), (.int (1 : Int32)), (.int (2 : Int32)), (.ref b2)] [] rfl pd_22 rfl rfl rfl (Nat.le_of_eq rfl) at_169 (by decide) (by decide) ?_
    intro v T h vm W hQ C
    obtain ⟨rfl, rfl⟩ := hQ
    show Go _ _ _ _ _ _ _ _ _ _ (mkF m 172 #[.val (.int p0), .val (.int p1), .val (.int p2), .val (.int p3), .val (.int (2 : Int32)), .val (.ref b1), .val (.ref b2), .val (.ref b3), .val (.ref b20), .val (.ref b24), .val (.ref b27), .val (.ref r28)] [(.int (1 : Int32))])
    refine Go.step (fun _ k => XS.ifNo W.here W.hx rfl (W.d at_172) rfl ((if0 _ _).trans (feq (by decide : ¬ ((1 : Int32) = (0 : Int32)))).1) k) ?_
    show Go _ _ _ _ _ _ _ _ _ _ (mkF m 175 #[.val (.int p0), .val (.int p1), .val (.int p2), .val (.int p3), .val (.int (2 : Int32)), .val (.ref b1), .val (.ref b2), .val (.ref b3), .val (.ref b20), .val (.ref b24), .val (.ref b27), .val (.ref r28)] [])
    refine Go.step (fun _ k => XS.aload W.here W.hx rfl (W.d at_175) rfl rfl k) ?_
    show Go _ _ _ _ _ _ _ _ _ _ (mkF m 177 #[.val (.int p0), .val (.int p1), .val (.int p2), .val (.int p3), .val (.int (2 : Int32)), .val (.ref b1), .val (.ref b2), .val (.ref b3), .val (.ref b20), .val (.ref b24), .val (.ref b27), .val (.ref r28)] [(.ref r28)])
    refine Go.step (fun _ k => XS.iconst W.here W.hx rfl (W.d at_177) k) ?_
    show Go _ _ _ _ _ _ _ _ _ _ (mkF m 178 #[.val (.int p0), .val (.int p1), .val (.int p2), .val (.int p3), .val (.int (2 : Int32)), .val (.ref b1), .val (.ref b2), .val (.ref b3), .val (.ref b20), .val (.ref b24), .val (.ref b27), .val (.ref r28)] [(.int (2 : Int32)), (.ref r28)])
    refine Go.step (fun _ k => XS.iload W.here W.hx rfl (W.d at_178) rfl k) ?_
    show Go _ _ _ _ _ _ _ _ _ _ (mkF m 180 #[.val (.int p0), .val (.int p1), .val (.int p2), .val (.int p3), .val (.int (2 : Int32)), .val (.ref b1), .val (.ref b2), .val (.ref b3), .val (.ref b20), .val (.ref b24), .val (.ref b27), .val (.ref r28)] [(.int (2 : Int32)), (.int (2 : Int32)), (.ref r28)])
    refine Go.step (fun _ k => XS.aload W.here W.hx rfl (W.d at_180) rfl rfl k) ?_
    show Go _ _ _ _ _ _ _ _ _ _ (mkF m 182 #[.val (.int p0), .val (.int p1), .val (.int p2), .val (.int p3), .val (.int (2 : Int32)), .val (.ref b1), .val (.ref b2), .val (.ref b3), .val (.ref b20), .val (.ref b24), .val (.ref b27), .val (.ref r28)] [(.ref b3), (.int (2 : Int32)), (.int (2 : Int32)), (.ref r28)])
    refine W.callS (X.w 118 rfl) (X.w 119 rfl) (X.w 2 rfl) (X.w 120 rfl) (by decide) (c_at0 X r28 b3 (2 : Int32) (2 : Int32) _ W.ext (by decide)) (by decide) (Wd := 0) (by decide) [(.ref r28), (.int (2 : Int32)), (.int (2 : Int32)), (.ref b3)] [] rfl pd_22 rfl rfl rfl (Nat.le_of_eq rfl) at_182 (by decide) (by decide) ?_
    intro v T h vm W hQ C
    obtain ⟨rfl, rfl⟩ := hQ
    show Go _ _ _ _ _ _ _ _ _ _ (mkF m 185 #[.val (.int p0), .val (.int p1), .val (.int p2), .val (.int p3), .val (.int (2 : Int32)), .val (.ref b1), .val (.ref b2), .val (.ref b3), .val (.ref b20), .val (.ref b24), .val (.ref b27), .val (.ref r28)] [(.int (1 : Int32))])
    refine Go.step (fun _ k => XS.ifNo W.here W.hx rfl (W.d at_185) rfl ((if0 _ _).trans (feq (by decide : ¬ ((1 : Int32) = (0 : Int32)))).1) k) ?_
    show Go _ _ _ _ _ _ _ _ _ _ (mkF m 188 #[.val (.int p0), .val (.int p1), .val (.int p2), .val (.int p3), .val (.int (2 : Int32)), .val (.ref b1), .val (.ref b2), .val (.ref b3), .val (.ref b20), .val (.ref b24), .val (.ref b27), .val (.ref r28)] [])
    refine Go.step (fun _ k => XS.iconst W.here W.hx rfl (W.d at_188) k) ?_
    show Go _ _ _ _ _ _ _ _ _ _ (mkF m 189 #[.val (.int p0), .val (.int p1), .val (.int p2), .val (.int p3), .val (.int (2 : Int32)), .val (.ref b1), .val (.ref b2), .val (.ref b3), .val (.ref b20), .val (.ref b24), .val (.ref b27), .val (.ref r28)] [(.int (1 : Int32))])
    refine Go.step (fun _ k => XS.goto W.here W.hx rfl (pc0 := 189) (pc' := 193) rfl (W.d at_189) (by decide) (by decide) k) ?_
    show Go _ _ _ _ _ _ _ _ _ _ (mkF m 193 #[.val (.int p0), .val (.int p1), .val (.int p2), .val (.int p3), .val (.int (2 : Int32)), .val (.ref b1), .val (.ref b2), .val (.ref b3), .val (.ref b20), .val (.ref b24), .val (.ref b27), .val (.ref r28)] [(.int (1 : Int32))])
    exact W.retN (by simp) at_193 (rfl) (by decide) (by decide)
  · show Go _ _ _ _ _ _ _ _ _ _ (mkF m 23 #[.val (.int p0), .val (.int p1), .val (.int p2), .val (.int p3), .val (.int (3 : Int32)), .val (.ref b1), .val (.ref b2), .val (.ref b3), .unset, .unset, .unset, .unset] [])
    refine W.new (X.w 26 rfl) (X.w 27 rfl) (X.w 28 rfl) at_23 (by decide) (by decide) ?_
    intro T h b31 hb31 W Eb31 Ab31 Db31
    have ne_b1_b31 : b1 ≠ b31 := by rw [hb31]; exact Nat.ne_of_lt Sb1.exa.lt
    have ne_b2_b31 : b2 ≠ b31 := by rw [hb31]; exact Nat.ne_of_lt Sb2.exa.lt
    have ne_b3_b31 : b3 ≠ b31 := by rw [hb31]; exact Nat.ne_of_lt Sb3.exa.lt
    have gb31 : Z.heap.size ≤ b31 := by rw [hb31]; exact hsz
    replace Sb1 := Sb1.ext Eb31
    replace Sb2 := Sb2.ext Eb31
    replace Sb3 := Sb3.ext Eb31
    replace hsz := W.size
    have F_modCount_b31 : Fld Z h b31 "java/util/AbstractList" "modCount" "I" (.int (0 : Int32)) := Db31 (Or.inl (X.w 46 rfl)) (ty := .int) (by decide)
    have F_elementData_b31 : Fld Z h b31 "java/util/ArrayList" "elementData" "[Ljava/lang/Object;" .null := Db31 (Or.inl (X.w 49 rfl)) (ty := (.array (.object "java/lang/Object"))) (by decide)
    have F_size_b31 : Fld Z h b31 "java/util/ArrayList" "size" "I" (.int (0 : Int32)) := Db31 (Or.inl (X.w 111 rfl)) (ty := .int) (by decide)
    show Go _ _ _ _ _ _ _ _ _ _ (mkF m 26 #[.val (.int p0), .val (.int p1), .val (.int p2), .val (.int p3), .val (.int (3 : Int32)), .val (.ref b1), .val (.ref b2), .val (.ref b3), .unset, .unset, .unset, .unset] [(.ref b31)])
    refine Go.step (fun _ k => XS.dup W.here W.hx rfl (W.d at_26) rfl rfl k) ?_
    show Go _ _ _ _ _ _ _ _ _ _ (mkF m 27 #[.val (.int p0), .val (.int p1), .val (.int p2), .val (.int p3), .val (.int (3 : Int32)), .val (.ref b1), .val (.ref b2), .val (.ref b3), .unset, .unset, .unset, .unset] [(.ref b31), (.ref b31)])
    refine W.special rfl (X.w 29 rfl) (X.w 30 rfl) (X.w 28 rfl) (X.w 31 rfl) (by decide) (c_ali X b31 D _ _ W.ext Y gb31 Ab31 F_modCount_b31 F_elementData_b31 F_size_b31) (by decide) (Wd := 1) (by decide) b31 [] [(.ref b31)] rfl pd_6 rfl rfl rfl (Nat.le_of_eq rfl) at_27 (by decide) (by decide) ?_
    intro v T h vm W hQ C
    obtain ⟨rfl, Ka32, F_modCount_b31', F_elementData_b31', F_size_b31'⟩ := hQ
    replace Sb1 := Sb1.keepE Ka32 Ab31 (by decide) (X.w 27 rfl)
    replace Sb2 := Sb2.keepE Ka32 Ab31 (by decide) (X.w 27 rfl)
    replace Sb3 := Sb3.keepE Ka32 Ab31 (by decide) (X.w 27 rfl)
    replace Ab31 := Ab31.keep Ka32
    replace hsz := W.size
    replace F_modCount_b31 := F_modCount_b31'
    replace F_elementData_b31 := F_elementData_b31'
    replace F_size_b31 := F_size_b31'
    show Go _ _ _ _ _ _ _ _ _ _ (mkF m 30 #[.val (.int p0), .val (.int p1), .val (.int p2), .val (.int p3), .val (.int (3 : Int32)), .val (.ref b1), .val (.ref b2), .val (.ref b3), .unset, .unset, .unset, .unset] [(.ref b31)])
    refine Go.step (fun _ k => XS.astore W.here W.hx rfl (W.d at_30) rfl rfl (l' := #[.val (.int p0), .val (.int p1), .val (.int p2), .val (.int p3), .val (.int (3 : Int32)), .val (.ref b1), .val (.ref b2), .val (.ref b3), .val (.ref b31), .unset, .unset, .unset]) rfl k) ?_
    show Go _ _ _ _ _ _ _ _ _ _ (mkF m 32 #[.val (.int p0), .val (.int p1), .val (.int p2), .val (.int p3), .val (.int (3 : Int32)), .val (.ref b1), .val (.ref b2), .val (.ref b3), .val (.ref b31), .unset, .unset, .unset] [])
    refine Go.step (fun _ k => XS.iload W.here W.hx rfl (W.d at_32) rfl k) ?_
    show Go _ _ _ _ _ _ _ _ _ _ (mkF m 34 #[.val (.int p0), .val (.int p1), .val (.int p2), .val (.int p3), .val (.int (3 : Int32)), .val (.ref b1), .val (.ref b2), .val (.ref b3), .val (.ref b31), .unset, .unset, .unset] [(.int (3 : Int32))])
    refine Go.step (fun _ k => XS.ifNo W.here W.hx rfl (W.d at_34) rfl ((if0 _ _).trans (tlt (by decide : (0 : Int32) < (3 : Int32))).2.2.2) k) ?_
    show Go _ _ _ _ _ _ _ _ _ _ (mkF m 37 #[.val (.int p0), .val (.int p1), .val (.int p2), .val (.int p3), .val (.int (3 : Int32)), .val (.ref b1), .val (.ref b2), .val (.ref b3), .val (.ref b31), .unset, .unset, .unset] [])
    refine Go.step (fun _ k => XS.aload W.here W.hx rfl (W.d at_37) rfl rfl k) ?_
    show Go _ _ _ _ _ _ _ _ _ _ (mkF m 39 #[.val (.int p0), .val (.int p1), .val (.int p2), .val (.int p3), .val (.int (3 : Int32)), .val (.ref b1), .val (.ref b2), .val (.ref b3), .val (.ref b31), .unset, .unset, .unset] [(.ref b31)])
    refine Go.step (fun _ k => XS.aload W.here W.hx rfl (W.d at_39) rfl rfl k) ?_
    show Go _ _ _ _ _ _ _ _ _ _ (mkF m 41 #[.val (.int p0), .val (.int p1), .val (.int p2), .val (.int p3), .val (.int (3 : Int32)), .val (.ref b1), .val (.ref b2), .val (.ref b3), .val (.ref b31), .unset, .unset, .unset] [(.ref b1), (.ref b31)])
    refine W.virtual (X.w 121 rfl) (X.w 122 rfl) (notFace_of_selects (args := #[]) (mvT W.hZ (X.w 124 rfl))) (X.w 124 rfl) (X.w 123 rfl) (X.w 28 rfl) (X.w 125 rfl) (by decide) (c_add0 X b31 D b1 _ _ W.ext Y gb31 Ab31 F_modCount_b31 F_elementData_b31 F_size_b31 Sb1.exa) (by decide) (Wd := 0) (by decide) b31 Ab31 [(.ref b1)] [] rfl pd_18 rfl rfl rfl (Nat.le_of_eq rfl) at_41 (by decide) (by decide) ?_
    intro v T h vm W hQ C
    obtain ⟨rfl, b33, kb33, hn_b33, Kgb33, F_modCount_b31', F_elementData_b31', F_size_b31', Vb33, Ob33⟩ := hQ
    have ne_b1_b33 : b1 ≠ b33 := Nat.ne_of_lt (Nat.lt_of_lt_of_le Sb1.exa.lt hn_b33)
    have ne_b2_b33 : b2 ≠ b33 := Nat.ne_of_lt (Nat.lt_of_lt_of_le Sb2.exa.lt hn_b33)
    have ne_b3_b33 : b3 ≠ b33 := Nat.ne_of_lt (Nat.lt_of_lt_of_le Sb3.exa.lt hn_b33)
    have ne_b31_b33 : b31 ≠ b33 := Nat.ne_of_lt (Nat.lt_of_lt_of_le Ab31.lt hn_b33)
    have gb33 : Z.heap.size ≤ b33 := Nat.le_trans hsz hn_b33
    replace Sb1 := Sb1.keepE Kgb33 Ab31 (by decide) (X.w 27 rfl)
    replace Sb2 := Sb2.keepE Kgb33 Ab31 (by decide) (X.w 27 rfl)
    replace Sb3 := Sb3.keepE Kgb33 Ab31 (by decide) (X.w 27 rfl)
    replace Ab31 := Ab31.keep Kgb33
    replace hsz := W.size
    replace F_modCount_b31 := F_modCount_b31'
    replace F_elementData_b31 := F_elementData_b31'
    replace F_size_b31 := F_size_b31'
    show Go _ _ _ _ _ _ _ _ _ _ (mkF m 44 #[.val (.int p0), .val (.int p1), .val (.int p2), .val (.int p3), .val (.int (3 : Int32)), .val (.ref b1), .val (.ref b2), .val (.ref b3), .val (.ref b31), .unset, .unset, .unset] [(.int (1 : Int32))])
    refine Go.step (fun _ k => XS.pop W.here W.hx rfl (W.d at_44) rfl rfl k) ?_
    show Go _ _ _ _ _ _ _ _ _ _ (mkF m 45 #[.val (.int p0), .val (.int p1), .val (.int p2), .val (.int p3), .val (.int (3 : Int32)), .val (.ref b1), .val (.ref b2), .val (.ref b3), .val (.ref b31), .unset, .unset, .unset] [])
    refine Go.step (fun _ k => XS.iload W.here W.hx rfl (W.d at_45) rfl k) ?_
    show Go _ _ _ _ _ _ _ _ _ _ (mkF m 47 #[.val (.int p0), .val (.int p1), .val (.int p2), .val (.int p3), .val (.int (3 : Int32)), .val (.ref b1), .val (.ref b2), .val (.ref b3), .val (.ref b31), .unset, .unset, .unset] [(.int (3 : Int32))])
    refine Go.step (fun _ k => XS.iconst W.here W.hx rfl (W.d at_47) k) ?_
    show Go _ _ _ _ _ _ _ _ _ _ (mkF m 48 #[.val (.int p0), .val (.int p1), .val (.int p2), .val (.int p3), .val (.int (3 : Int32)), .val (.ref b1), .val (.ref b2), .val (.ref b3), .val (.ref b31), .unset, .unset, .unset] [(.int (1 : Int32)), (.int (3 : Int32))])
    refine Go.step (fun _ k => XS.icmpNo W.here W.hx rfl (W.d at_48) rfl (tlt (by decide : (1 : Int32) < (3 : Int32))).2.2.2 k) ?_
    show Go _ _ _ _ _ _ _ _ _ _ (mkF m 51 #[.val (.int p0), .val (.int p1), .val (.int p2), .val (.int p3), .val (.int (3 : Int32)), .val (.ref b1), .val (.ref b2), .val (.ref b3), .val (.ref b31), .unset, .unset, .unset] [])
    refine Go.step (fun _ k => XS.aload W.here W.hx rfl (W.d at_51) rfl rfl k) ?_
    show Go _ _ _ _ _ _ _ _ _ _ (mkF m 53 #[.val (.int p0), .val (.int p1), .val (.int p2), .val (.int p3), .val (.int (3 : Int32)), .val (.ref b1), .val (.ref b2), .val (.ref b3), .val (.ref b31), .unset, .unset, .unset] [(.ref b31)])
    refine Go.step (fun _ k => XS.aload W.here W.hx rfl (W.d at_53) rfl rfl k) ?_
    show Go _ _ _ _ _ _ _ _ _ _ (mkF m 55 #[.val (.int p0), .val (.int p1), .val (.int p2), .val (.int p3), .val (.int (3 : Int32)), .val (.ref b1), .val (.ref b2), .val (.ref b3), .val (.ref b31), .unset, .unset, .unset] [(.ref b2), (.ref b31)])
    refine W.virtual (X.w 121 rfl) (X.w 122 rfl) (notFace_of_selects (args := #[]) (mvT W.hZ (X.w 124 rfl))) (X.w 124 rfl) (X.w 123 rfl) (X.w 28 rfl) (X.w 125 rfl) (by decide) (c_add1 X b31 D b33 b2 b1 _ _ _ W.ext Y gb31 Ab31 F_modCount_b31 F_elementData_b31 F_size_b31 gb33 Vb33 Ob33 ne_b31_b33 Sb2.exa) (by decide) (Wd := 0) (by decide) b31 Ab31 [(.ref b2)] [] rfl pd_18 rfl rfl rfl (Nat.le_of_eq rfl) at_55 (by decide) (by decide) ?_
    intro v T h vm W hQ C
    obtain ⟨rfl, Kg34, F_modCount_b31', F_elementData_b31', F_size_b31', Vb33'⟩ := hQ
    replace Sb1 := Sb1.keepL Kg34 Ab31 Vb33 (by decide) (by decide) (X.w 27 rfl) (X.w 5 rfl)
    replace Sb2 := Sb2.keepL Kg34 Ab31 Vb33 (by decide) (by decide) (X.w 27 rfl) (X.w 5 rfl)
    replace Sb3 := Sb3.keepL Kg34 Ab31 Vb33 (by decide) (by decide) (X.w 27 rfl) (X.w 5 rfl)
    replace Ab31 := Ab31.keep Kg34
    replace hsz := W.size
    replace Vb33 := Vb33'
    replace F_modCount_b31 := F_modCount_b31'
    replace F_elementData_b31 := F_elementData_b31'
    replace F_size_b31 := F_size_b31'
    show Go _ _ _ _ _ _ _ _ _ _ (mkF m 58 #[.val (.int p0), .val (.int p1), .val (.int p2), .val (.int p3), .val (.int (3 : Int32)), .val (.ref b1), .val (.ref b2), .val (.ref b3), .val (.ref b31), .unset, .unset, .unset] [(.int (1 : Int32))])
    refine Go.step (fun _ k => XS.pop W.here W.hx rfl (W.d at_58) rfl rfl k) ?_
    show Go _ _ _ _ _ _ _ _ _ _ (mkF m 59 #[.val (.int p0), .val (.int p1), .val (.int p2), .val (.int p3), .val (.int (3 : Int32)), .val (.ref b1), .val (.ref b2), .val (.ref b3), .val (.ref b31), .unset, .unset, .unset] [])
    refine Go.step (fun _ k => XS.iload W.here W.hx rfl (W.d at_59) rfl k) ?_
    show Go _ _ _ _ _ _ _ _ _ _ (mkF m 61 #[.val (.int p0), .val (.int p1), .val (.int p2), .val (.int p3), .val (.int (3 : Int32)), .val (.ref b1), .val (.ref b2), .val (.ref b3), .val (.ref b31), .unset, .unset, .unset] [(.int (3 : Int32))])
    refine Go.step (fun _ k => XS.iconst W.here W.hx rfl (W.d at_61) k) ?_
    show Go _ _ _ _ _ _ _ _ _ _ (mkF m 62 #[.val (.int p0), .val (.int p1), .val (.int p2), .val (.int p3), .val (.int (3 : Int32)), .val (.ref b1), .val (.ref b2), .val (.ref b3), .val (.ref b31), .unset, .unset, .unset] [(.int (2 : Int32)), (.int (3 : Int32))])
    refine Go.step (fun _ k => XS.icmpNo W.here W.hx rfl (W.d at_62) rfl (tlt (by decide : (2 : Int32) < (3 : Int32))).2.2.2 k) ?_
    show Go _ _ _ _ _ _ _ _ _ _ (mkF m 65 #[.val (.int p0), .val (.int p1), .val (.int p2), .val (.int p3), .val (.int (3 : Int32)), .val (.ref b1), .val (.ref b2), .val (.ref b3), .val (.ref b31), .unset, .unset, .unset] [])
    refine Go.step (fun _ k => XS.aload W.here W.hx rfl (W.d at_65) rfl rfl k) ?_
    show Go _ _ _ _ _ _ _ _ _ _ (mkF m 67 #[.val (.int p0), .val (.int p1), .val (.int p2), .val (.int p3), .val (.int (3 : Int32)), .val (.ref b1), .val (.ref b2), .val (.ref b3), .val (.ref b31), .unset, .unset, .unset] [(.ref b31)])
    refine Go.step (fun _ k => XS.aload W.here W.hx rfl (W.d at_67) rfl rfl k) ?_
    show Go _ _ _ _ _ _ _ _ _ _ (mkF m 69 #[.val (.int p0), .val (.int p1), .val (.int p2), .val (.int p3), .val (.int (3 : Int32)), .val (.ref b1), .val (.ref b2), .val (.ref b3), .val (.ref b31), .unset, .unset, .unset] [(.ref b3), (.ref b31)])
    refine W.virtual (X.w 121 rfl) (X.w 122 rfl) (notFace_of_selects (args := #[]) (mvT W.hZ (X.w 124 rfl))) (X.w 124 rfl) (X.w 123 rfl) (X.w 28 rfl) (X.w 125 rfl) (by decide) (c_add2 X b31 D b33 b3 b1 b2 _ _ _ W.ext Y gb31 Ab31 F_modCount_b31 F_elementData_b31 F_size_b31 gb33 Vb33 Ob33 ne_b31_b33 Sb3.exa) (by decide) (Wd := 0) (by decide) b31 Ab31 [(.ref b3)] [] rfl pd_18 rfl rfl rfl (Nat.le_of_eq rfl) at_69 (by decide) (by decide) ?_
    intro v T h vm W hQ C
    obtain ⟨rfl, Kg35, F_modCount_b31', F_elementData_b31', F_size_b31', Vb33'⟩ := hQ
    replace Sb1 := Sb1.keepL Kg35 Ab31 Vb33 (by decide) (by decide) (X.w 27 rfl) (X.w 5 rfl)
    replace Sb2 := Sb2.keepL Kg35 Ab31 Vb33 (by decide) (by decide) (X.w 27 rfl) (X.w 5 rfl)
    replace Sb3 := Sb3.keepL Kg35 Ab31 Vb33 (by decide) (by decide) (X.w 27 rfl) (X.w 5 rfl)
    replace Ab31 := Ab31.keep Kg35
    replace hsz := W.size
    replace Vb33 := Vb33'
    replace F_modCount_b31 := F_modCount_b31'
    replace F_elementData_b31 := F_elementData_b31'
    replace F_size_b31 := F_size_b31'
    show Go _ _ _ _ _ _ _ _ _ _ (mkF m 72 #[.val (.int p0), .val (.int p1), .val (.int p2), .val (.int p3), .val (.int (3 : Int32)), .val (.ref b1), .val (.ref b2), .val (.ref b3), .val (.ref b31), .unset, .unset, .unset] [(.int (1 : Int32))])
    refine Go.step (fun _ k => XS.pop W.here W.hx rfl (W.d at_72) rfl rfl k) ?_
    show Go _ _ _ _ _ _ _ _ _ _ (mkF m 73 #[.val (.int p0), .val (.int p1), .val (.int p2), .val (.int p3), .val (.int (3 : Int32)), .val (.ref b1), .val (.ref b2), .val (.ref b3), .val (.ref b31), .unset, .unset, .unset] [])
    refine Go.step (fun _ k => XS.iload W.here W.hx rfl (W.d at_73) rfl k) ?_
    show Go _ _ _ _ _ _ _ _ _ _ (mkF m 75 #[.val (.int p0), .val (.int p1), .val (.int p2), .val (.int p3), .val (.int (3 : Int32)), .val (.ref b1), .val (.ref b2), .val (.ref b3), .val (.ref b31), .unset, .unset, .unset] [(.int (3 : Int32))])
    refine W.newref (X.w 4 rfl) (X.w 50 rfl) at_75 (by decide) (cap := 3) (by decide) (by decide) (by decide) (by decide) ?_
    intro T h b36 kb36 hb36 W Eb36 Vb36 Ob36
    have ne_b1_b36 : b1 ≠ b36 := by rw [hb36]; exact Nat.ne_of_lt Sb1.exa.lt
    have ne_b2_b36 : b2 ≠ b36 := by rw [hb36]; exact Nat.ne_of_lt Sb2.exa.lt
    have ne_b3_b36 : b3 ≠ b36 := by rw [hb36]; exact Nat.ne_of_lt Sb3.exa.lt
    have ne_b31_b36 : b31 ≠ b36 := by rw [hb36]; exact Nat.ne_of_lt Ab31.lt
    have ne_b33_b36 : b33 ≠ b36 := by rw [hb36]; exact Nat.ne_of_lt Vb33.lt
    have gb36 : Z.heap.size ≤ b36 := by rw [hb36]; exact hsz
    replace Sb1 := Sb1.ext Eb36
    replace Sb2 := Sb2.ext Eb36
    replace Sb3 := Sb3.ext Eb36
    replace F_modCount_b31 := F_modCount_b31.ext Eb36
    replace F_elementData_b31 := F_elementData_b31.ext Eb36
    replace F_size_b31 := F_size_b31.ext Eb36
    replace Vb33 := Vb33.ext Eb36
    replace Ab31 := Ab31.ext Eb36
    replace hsz := W.size
    replace Vb36 : Arv Z h b36 kb36 (.object "java/lang/String") (3 : Int32) [.null, .null, .null] .null := Vb36.pad (pad_rep [] .null 3)
    show Go _ _ _ _ _ _ _ _ _ _ (mkF m 78 #[.val (.int p0), .val (.int p1), .val (.int p2), .val (.int p3), .val (.int (3 : Int32)), .val (.ref b1), .val (.ref b2), .val (.ref b3), .val (.ref b31), .unset, .unset, .unset] [(.ref b36)])
    refine Go.step (fun _ k => XS.astore W.here W.hx rfl (W.d at_78) rfl rfl (l' := #[.val (.int p0), .val (.int p1), .val (.int p2), .val (.int p3), .val (.int (3 : Int32)), .val (.ref b1), .val (.ref b2), .val (.ref b3), .val (.ref b31), .val (.ref b36), .unset, .unset]) rfl k) ?_
    show Go _ _ _ _ _ _ _ _ _ _ (mkF m 80 #[.val (.int p0), .val (.int p1), .val (.int p2), .val (.int p3), .val (.int (3 : Int32)), .val (.ref b1), .val (.ref b2), .val (.ref b3), .val (.ref b31), .val (.ref b36), .unset, .unset] [])
    refine Go.step (fun _ k => XS.iload W.here W.hx rfl (W.d at_80) rfl k) ?_
    show Go _ _ _ _ _ _ _ _ _ _ (mkF m 82 #[.val (.int p0), .val (.int p1), .val (.int p2), .val (.int p3), .val (.int (3 : Int32)), .val (.ref b1), .val (.ref b2), .val (.ref b3), .val (.ref b31), .val (.ref b36), .unset, .unset] [(.int (3 : Int32))])
    refine Go.step (fun _ k => XS.ifNo W.here W.hx rfl (W.d at_82) rfl ((if0 _ _).trans (tlt (by decide : (0 : Int32) < (3 : Int32))).2.2.2) k) ?_
    show Go _ _ _ _ _ _ _ _ _ _ (mkF m 85 #[.val (.int p0), .val (.int p1), .val (.int p2), .val (.int p3), .val (.int (3 : Int32)), .val (.ref b1), .val (.ref b2), .val (.ref b3), .val (.ref b31), .val (.ref b36), .unset, .unset] [])
    refine Go.step (fun _ k => XS.aload W.here W.hx rfl (W.d at_85) rfl rfl k) ?_
    show Go _ _ _ _ _ _ _ _ _ _ (mkF m 87 #[.val (.int p0), .val (.int p1), .val (.int p2), .val (.int p3), .val (.int (3 : Int32)), .val (.ref b1), .val (.ref b2), .val (.ref b3), .val (.ref b31), .val (.ref b36), .unset, .unset] [(.ref b36)])
    refine Go.step (fun _ k => XS.iconst W.here W.hx rfl (W.d at_87) k) ?_
    show Go _ _ _ _ _ _ _ _ _ _ (mkF m 88 #[.val (.int p0), .val (.int p1), .val (.int p2), .val (.int p3), .val (.int (3 : Int32)), .val (.ref b1), .val (.ref b2), .val (.ref b3), .val (.ref b31), .val (.ref b36), .unset, .unset] [(.int (0 : Int32)), (.ref b36)])
    refine Go.step (fun _ k => XS.aload W.here W.hx rfl (W.d at_88) rfl rfl k) ?_
    show Go _ _ _ _ _ _ _ _ _ _ (mkF m 90 #[.val (.int p0), .val (.int p1), .val (.int p2), .val (.int p3), .val (.int (3 : Int32)), .val (.ref b1), .val (.ref b2), .val (.ref b3), .val (.ref b31), .val (.ref b36), .unset, .unset] [(.ref b3), (.int (0 : Int32)), (.ref b36)])
    refine W.aastore Vb36 Ob36 (Ins.self Sb3.exa) 0 rfl (by simp) (by decide) gb36 at_90 ?_
    intro T h W K37 Vb36'
    replace Sb1 := Sb1.keepC K37 Vb36 (by decide) (X.w 5 rfl)
    replace Sb2 := Sb2.keepC K37 Vb36 (by decide) (X.w 5 rfl)
    replace Sb3 := Sb3.keepC K37 Vb36 (by decide) (X.w 5 rfl)
    replace F_modCount_b31 := F_modCount_b31.keep K37 (nin1 ne_b31_b36)
    replace F_elementData_b31 := F_elementData_b31.keep K37 (nin1 ne_b31_b36)
    replace F_size_b31 := F_size_b31.keep K37 (nin1 ne_b31_b36)
    replace Vb33 := Vb33.keep K37 (nin1 ne_b33_b36)
    replace Ab31 := Ab31.keep K37
    replace hsz := W.size
    replace Vb36 : Arv Z h b36 kb36 (.object "java/lang/String") (3 : Int32) [(.ref b3), .null, .null] .null := Vb36'
    show Go _ _ _ _ _ _ _ _ _ _ (mkF m 91 #[.val (.int p0), .val (.int p1), .val (.int p2), .val (.int p3), .val (.int (3 : Int32)), .val (.ref b1), .val (.ref b2), .val (.ref b3), .val (.ref b31), .val (.ref b36), .unset, .unset] [])
    refine Go.step (fun _ k => XS.iload W.here W.hx rfl (W.d at_91) rfl k) ?_
    show Go _ _ _ _ _ _ _ _ _ _ (mkF m 93 #[.val (.int p0), .val (.int p1), .val (.int p2), .val (.int p3), .val (.int (3 : Int32)), .val (.ref b1), .val (.ref b2), .val (.ref b3), .val (.ref b31), .val (.ref b36), .unset, .unset] [(.int (3 : Int32))])
    refine Go.step (fun _ k => XS.iconst W.here W.hx rfl (W.d at_93) k) ?_
    show Go _ _ _ _ _ _ _ _ _ _ (mkF m 94 #[.val (.int p0), .val (.int p1), .val (.int p2), .val (.int p3), .val (.int (3 : Int32)), .val (.ref b1), .val (.ref b2), .val (.ref b3), .val (.ref b31), .val (.ref b36), .unset, .unset] [(.int (1 : Int32)), (.int (3 : Int32))])
    refine Go.step (fun _ k => XS.icmpNo W.here W.hx rfl (W.d at_94) rfl (tlt (by decide : (1 : Int32) < (3 : Int32))).2.2.2 k) ?_
    show Go _ _ _ _ _ _ _ _ _ _ (mkF m 97 #[.val (.int p0), .val (.int p1), .val (.int p2), .val (.int p3), .val (.int (3 : Int32)), .val (.ref b1), .val (.ref b2), .val (.ref b3), .val (.ref b31), .val (.ref b36), .unset, .unset] [])
    refine Go.step (fun _ k => XS.aload W.here W.hx rfl (W.d at_97) rfl rfl k) ?_
    show Go _ _ _ _ _ _ _ _ _ _ (mkF m 99 #[.val (.int p0), .val (.int p1), .val (.int p2), .val (.int p3), .val (.int (3 : Int32)), .val (.ref b1), .val (.ref b2), .val (.ref b3), .val (.ref b31), .val (.ref b36), .unset, .unset] [(.ref b36)])
    refine Go.step (fun _ k => XS.iconst W.here W.hx rfl (W.d at_99) k) ?_
    show Go _ _ _ _ _ _ _ _ _ _ (mkF m 100 #[.val (.int p0), .val (.int p1), .val (.int p2), .val (.int p3), .val (.int (3 : Int32)), .val (.ref b1), .val (.ref b2), .val (.ref b3), .val (.ref b31), .val (.ref b36), .unset, .unset] [(.int (1 : Int32)), (.ref b36)])
    refine Go.step (fun _ k => XS.aload W.here W.hx rfl (W.d at_100) rfl rfl k) ?_
    show Go _ _ _ _ _ _ _ _ _ _ (mkF m 102 #[.val (.int p0), .val (.int p1), .val (.int p2), .val (.int p3), .val (.int (3 : Int32)), .val (.ref b1), .val (.ref b2), .val (.ref b3), .val (.ref b31), .val (.ref b36), .unset, .unset] [(.ref b2), (.int (1 : Int32)), (.ref b36)])
    refine W.aastore Vb36 Ob36 (Ins.self Sb2.exa) 1 rfl (by simp) (by decide) gb36 at_102 ?_
    intro T h W K38 Vb36'
    replace Sb1 := Sb1.keepC K38 Vb36 (by decide) (X.w 5 rfl)
    replace Sb2 := Sb2.keepC K38 Vb36 (by decide) (X.w 5 rfl)
    replace Sb3 := Sb3.keepC K38 Vb36 (by decide) (X.w 5 rfl)
    replace F_modCount_b31 := F_modCount_b31.keep K38 (nin1 ne_b31_b36)
    replace F_elementData_b31 := F_elementData_b31.keep K38 (nin1 ne_b31_b36)
    replace F_size_b31 := F_size_b31.keep K38 (nin1 ne_b31_b36)
    replace Vb33 := Vb33.keep K38 (nin1 ne_b33_b36)
    replace Ab31 := Ab31.keep K38
    replace hsz := W.size
    replace Vb36 : Arv Z h b36 kb36 (.object "java/lang/String") (3 : Int32) [(.ref b3), (.ref b2), .null] .null := Vb36'
    show Go _ _ _ _ _ _ _ _ _ _ (mkF m 103 #[.val (.int p0), .val (.int p1), .val (.int p2), .val (.int p3), .val (.int (3 : Int32)), .val (.ref b1), .val (.ref b2), .val (.ref b3), .val (.ref b31), .val (.ref b36), .unset, .unset] [])
    refine Go.step (fun _ k => XS.iload W.here W.hx rfl (W.d at_103) rfl k) ?_
    show Go _ _ _ _ _ _ _ _ _ _ (mkF m 105 #[.val (.int p0), .val (.int p1), .val (.int p2), .val (.int p3), .val (.int (3 : Int32)), .val (.ref b1), .val (.ref b2), .val (.ref b3), .val (.ref b31), .val (.ref b36), .unset, .unset] [(.int (3 : Int32))])
    refine Go.step (fun _ k => XS.iconst W.here W.hx rfl (W.d at_105) k) ?_
    show Go _ _ _ _ _ _ _ _ _ _ (mkF m 106 #[.val (.int p0), .val (.int p1), .val (.int p2), .val (.int p3), .val (.int (3 : Int32)), .val (.ref b1), .val (.ref b2), .val (.ref b3), .val (.ref b31), .val (.ref b36), .unset, .unset] [(.int (2 : Int32)), (.int (3 : Int32))])
    refine Go.step (fun _ k => XS.icmpNo W.here W.hx rfl (W.d at_106) rfl (tlt (by decide : (2 : Int32) < (3 : Int32))).2.2.2 k) ?_
    show Go _ _ _ _ _ _ _ _ _ _ (mkF m 109 #[.val (.int p0), .val (.int p1), .val (.int p2), .val (.int p3), .val (.int (3 : Int32)), .val (.ref b1), .val (.ref b2), .val (.ref b3), .val (.ref b31), .val (.ref b36), .unset, .unset] [])
    refine Go.step (fun _ k => XS.aload W.here W.hx rfl (W.d at_109) rfl rfl k) ?_
    show Go _ _ _ _ _ _ _ _ _ _ (mkF m 111 #[.val (.int p0), .val (.int p1), .val (.int p2), .val (.int p3), .val (.int (3 : Int32)), .val (.ref b1), .val (.ref b2), .val (.ref b3), .val (.ref b31), .val (.ref b36), .unset, .unset] [(.ref b36)])
    refine Go.step (fun _ k => XS.iconst W.here W.hx rfl (W.d at_111) k) ?_
    show Go _ _ _ _ _ _ _ _ _ _ (mkF m 112 #[.val (.int p0), .val (.int p1), .val (.int p2), .val (.int p3), .val (.int (3 : Int32)), .val (.ref b1), .val (.ref b2), .val (.ref b3), .val (.ref b31), .val (.ref b36), .unset, .unset] [(.int (2 : Int32)), (.ref b36)])
    refine Go.step (fun _ k => XS.aload W.here W.hx rfl (W.d at_112) rfl rfl k) ?_
    show Go _ _ _ _ _ _ _ _ _ _ (mkF m 114 #[.val (.int p0), .val (.int p1), .val (.int p2), .val (.int p3), .val (.int (3 : Int32)), .val (.ref b1), .val (.ref b2), .val (.ref b3), .val (.ref b31), .val (.ref b36), .unset, .unset] [(.ref b1), (.int (2 : Int32)), (.ref b36)])
    refine W.aastore Vb36 Ob36 (Ins.self Sb1.exa) 2 rfl (by simp) (by decide) gb36 at_114 ?_
    intro T h W K39 Vb36'
    replace Sb1 := Sb1.keepC K39 Vb36 (by decide) (X.w 5 rfl)
    replace Sb2 := Sb2.keepC K39 Vb36 (by decide) (X.w 5 rfl)
    replace Sb3 := Sb3.keepC K39 Vb36 (by decide) (X.w 5 rfl)
    replace F_modCount_b31 := F_modCount_b31.keep K39 (nin1 ne_b31_b36)
    replace F_elementData_b31 := F_elementData_b31.keep K39 (nin1 ne_b31_b36)
    replace F_size_b31 := F_size_b31.keep K39 (nin1 ne_b31_b36)
    replace Vb33 := Vb33.keep K39 (nin1 ne_b33_b36)
    replace Ab31 := Ab31.keep K39
    replace hsz := W.size
    replace Vb36 : Arv Z h b36 kb36 (.object "java/lang/String") (3 : Int32) [(.ref b3), (.ref b2), (.ref b1)] .null := Vb36'
    show Go _ _ _ _ _ _ _ _ _ _ (mkF m 115 #[.val (.int p0), .val (.int p1), .val (.int p2), .val (.int p3), .val (.int (3 : Int32)), .val (.ref b1), .val (.ref b2), .val (.ref b3), .val (.ref b31), .val (.ref b36), .unset, .unset] [])
    refine W.new (X.w 51 rfl) (X.w 52 rfl) (X.w 53 rfl) at_115 (by decide) (by decide) ?_
    intro T h b40 hb40 W Eb40 Ab40 Db40
    have ne_b1_b40 : b1 ≠ b40 := by rw [hb40]; exact Nat.ne_of_lt Sb1.exa.lt
    have ne_b2_b40 : b2 ≠ b40 := by rw [hb40]; exact Nat.ne_of_lt Sb2.exa.lt
    have ne_b3_b40 : b3 ≠ b40 := by rw [hb40]; exact Nat.ne_of_lt Sb3.exa.lt
    have ne_b31_b40 : b31 ≠ b40 := by rw [hb40]; exact Nat.ne_of_lt Ab31.lt
    have ne_b33_b40 : b33 ≠ b40 := by rw [hb40]; exact Nat.ne_of_lt Vb33.lt
    have ne_b36_b40 : b36 ≠ b40 := by rw [hb40]; exact Nat.ne_of_lt Vb36.lt
    have gb40 : Z.heap.size ≤ b40 := by rw [hb40]; exact hsz
    replace Sb1 := Sb1.ext Eb40
    replace Sb2 := Sb2.ext Eb40
    replace Sb3 := Sb3.ext Eb40
    replace F_modCount_b31 := F_modCount_b31.ext Eb40
    replace F_elementData_b31 := F_elementData_b31.ext Eb40
    replace F_size_b31 := F_size_b31.ext Eb40
    replace Vb33 := Vb33.ext Eb40
    replace Vb36 := Vb36.ext Eb40
    replace Ab31 := Ab31.ext Eb40
    replace hsz := W.size
    have F_values_b40 : Fld Z h b40 "com/example/hataraki/hataraki/cli/Options" "values" "Ljava/util/Map;" .null := Db40 (Or.inr (X.w 75 rfl)) (ty := (.object "java/util/Map")) (by decide)
    have F_switches_b40 : Fld Z h b40 "com/example/hataraki/hataraki/cli/Options" "switches" "Ljava/util/Set;" .null := Db40 (Or.inr (X.w 96 rfl)) (ty := (.object "java/util/Set")) (by decide)
    have F_operands_b40 : Fld Z h b40 "com/example/hataraki/hataraki/cli/Options" "operands" "Ljava/util/List;" .null := Db40 (Or.inr (X.w 100 rfl)) (ty := (.object "java/util/List")) (by decide)
    show Go _ _ _ _ _ _ _ _ _ _ (mkF m 118 #[.val (.int p0), .val (.int p1), .val (.int p2), .val (.int p3), .val (.int (3 : Int32)), .val (.ref b1), .val (.ref b2), .val (.ref b3), .val (.ref b31), .val (.ref b36), .unset, .unset] [(.ref b40)])
    refine Go.step (fun _ k => XS.dup W.here W.hx rfl (W.d at_118) rfl rfl k) ?_
    show Go _ _ _ _ _ _ _ _ _ _ (mkF m 119 #[.val (.int p0), .val (.int p1), .val (.int p2), .val (.int p3), .val (.int (3 : Int32)), .val (.ref b1), .val (.ref b2), .val (.ref b3), .val (.ref b31), .val (.ref b36), .unset, .unset] [(.ref b40), (.ref b40)])
    refine Go.step (fun _ k => XS.aload W.here W.hx rfl (W.d at_119) rfl rfl k) ?_
    show Go _ _ _ _ _ _ _ _ _ _ (mkF m 121 #[.val (.int p0), .val (.int p1), .val (.int p2), .val (.int p3), .val (.int (3 : Int32)), .val (.ref b1), .val (.ref b2), .val (.ref b3), .val (.ref b31), .val (.ref b36), .unset, .unset] [(.ref b31), (.ref b40), (.ref b40)])
    refine Go.step (fun _ k => XS.aconstNull W.here W.hx rfl (W.d at_121) k) ?_
    show Go _ _ _ _ _ _ _ _ _ _ (mkF m 122 #[.val (.int p0), .val (.int p1), .val (.int p2), .val (.int p3), .val (.int (3 : Int32)), .val (.ref b1), .val (.ref b2), .val (.ref b3), .val (.ref b31), .val (.ref b36), .unset, .unset] [.null, (.ref b31), (.ref b40), (.ref b40)])
    refine Go.step (fun _ k => XS.aconstNull W.here W.hx rfl (W.d at_122) k) ?_
    show Go _ _ _ _ _ _ _ _ _ _ (mkF m 123 #[.val (.int p0), .val (.int p1), .val (.int p2), .val (.int p3), .val (.int (3 : Int32)), .val (.ref b1), .val (.ref b2), .val (.ref b3), .val (.ref b31), .val (.ref b36), .unset, .unset] [.null, .null, (.ref b31), (.ref b40), (.ref b40)])
    refine W.special rfl (X.w 54 rfl) (X.w 55 rfl) (X.w 53 rfl) (X.w 56 rfl) (by decide) (c_op3 X b40 b31 D _ b33 b1 b2 b3 _ _ _ _ _ W.ext Y gb40 Ab40 F_values_b40 F_switches_b40 F_operands_b40 Ab31 F_size_b31 F_elementData_b31 Vb33 Sb1 Nb1 Sb2 Nb2 Sb3 Nb3) (by decide) (Wd := 1) (by decide) b40 [(.ref b31), .null, .null] [(.ref b40)] rfl pd_20 rfl rfl rfl (Nat.le_of_eq rfl) at_123 (by decide) (by decide) ?_
    intro v T h vm W hQ C
    obtain ⟨rfl, Ko43, r41, F_operands_b40', Ar41, F_size_r41, w42, kw42, F_elementData_r41, Vw42⟩ := hQ
    replace Sb1 := Sb1.keepE Ko43 Ab40 (by decide) (X.w 52 rfl)
    replace Sb2 := Sb2.keepE Ko43 Ab40 (by decide) (X.w 52 rfl)
    replace Sb3 := Sb3.keepE Ko43 Ab40 (by decide) (X.w 52 rfl)
    replace F_modCount_b31 := F_modCount_b31.keep Ko43 (nin1 ne_b31_b40)
    replace F_elementData_b31 := F_elementData_b31.keep Ko43 (nin1 ne_b31_b40)
    replace F_size_b31 := F_size_b31.keep Ko43 (nin1 ne_b31_b40)
    replace Vb33 := Vb33.keep Ko43 (nin1 ne_b33_b40)
    replace Vb36 := Vb36.keep Ko43 (nin1 ne_b36_b40)
    replace Ab31 := Ab31.keep Ko43
    replace Ab40 := Ab40.keep Ko43
    replace hsz := W.size
    replace F_operands_b40 := F_operands_b40'
    show Go _ _ _ _ _ _ _ _ _ _ (mkF m 126 #[.val (.int p0), .val (.int p1), .val (.int p2), .val (.int p3), .val (.int (3 : Int32)), .val (.ref b1), .val (.ref b2), .val (.ref b3), .val (.ref b31), .val (.ref b36), .unset, .unset] [(.ref b40)])
    refine Go.step (fun _ k => XS.astore W.here W.hx rfl (W.d at_126) rfl rfl (l' := #[.val (.int p0), .val (.int p1), .val (.int p2), .val (.int p3), .val (.int (3 : Int32)), .val (.ref b1), .val (.ref b2), .val (.ref b3), .val (.ref b31), .val (.ref b36), .val (.ref b40), .unset]) rfl k) ?_
    show Go _ _ _ _ _ _ _ _ _ _ (mkF m 128 #[.val (.int p0), .val (.int p1), .val (.int p2), .val (.int p3), .val (.int (3 : Int32)), .val (.ref b1), .val (.ref b2), .val (.ref b3), .val (.ref b31), .val (.ref b36), .val (.ref b40), .unset] [])
    refine Go.step (fun _ k => XS.aload W.here W.hx rfl (W.d at_128) rfl rfl k) ?_
    show Go _ _ _ _ _ _ _ _ _ _ (mkF m 130 #[.val (.int p0), .val (.int p1), .val (.int p2), .val (.int p3), .val (.int (3 : Int32)), .val (.ref b1), .val (.ref b2), .val (.ref b3), .val (.ref b31), .val (.ref b36), .val (.ref b40), .unset] [(.ref b40)])
    refine Go.step (fun _ k => XS.aload W.here W.hx rfl (W.d at_130) rfl rfl k) ?_
    show Go _ _ _ _ _ _ _ _ _ _ (mkF m 132 #[.val (.int p0), .val (.int p1), .val (.int p2), .val (.int p3), .val (.int (3 : Int32)), .val (.ref b1), .val (.ref b2), .val (.ref b3), .val (.ref b31), .val (.ref b36), .val (.ref b40), .unset] [(.ref b36), (.ref b40)])
    refine W.virtual (X.w 112 rfl) (X.w 113 rfl) (notFace_of_selects (args := #[]) (mvT W.hZ (X.w 115 rfl))) (X.w 115 rfl) (X.w 114 rfl) (X.w 53 rfl) (X.w 116 rfl) (by decide) (c_ops X b40 b36 r41 _ (3 : Int32) _ _ W.ext F_operands_b40 Ar41 F_size_r41 Vb36) (by decide) (Wd := 0) (by decide) b40 Ab40 [(.ref b36)] [] rfl pd_21 rfl rfl rfl (Nat.le_of_eq rfl) at_132 (by decide) (by decide) ?_
    intro v T h vm W hQ C
    obtain ⟨rfl, rfl⟩ := hQ
    show Go _ _ _ _ _ _ _ _ _ _ (mkF m 135 #[.val (.int p0), .val (.int p1), .val (.int p2), .val (.int p3), .val (.int (3 : Int32)), .val (.ref b1), .val (.ref b2), .val (.ref b3), .val (.ref b31), .val (.ref b36), .val (.ref b40), .unset] [(.ref r41)])
    refine Go.step (fun _ k => XS.astore W.here W.hx rfl (W.d at_135) rfl rfl (l' := #[.val (.int p0), .val (.int p1), .val (.int p2), .val (.int p3), .val (.int (3 : Int32)), .val (.ref b1), .val (.ref b2), .val (.ref b3), .val (.ref b31), .val (.ref b36), .val (.ref b40), .val (.ref r41)]) rfl k) ?_
    show Go _ _ _ _ _ _ _ _ _ _ (mkF m 137 #[.val (.int p0), .val (.int p1), .val (.int p2), .val (.int p3), .val (.int (3 : Int32)), .val (.ref b1), .val (.ref b2), .val (.ref b3), .val (.ref b31), .val (.ref b36), .val (.ref b40), .val (.ref r41)] [])
    refine Go.step (fun _ k => XS.aload W.here W.hx rfl (W.d at_137) rfl rfl k) ?_
    show Go _ _ _ _ _ _ _ _ _ _ (mkF m 139 #[.val (.int p0), .val (.int p1), .val (.int p2), .val (.int p3), .val (.int (3 : Int32)), .val (.ref b1), .val (.ref b2), .val (.ref b3), .val (.ref b31), .val (.ref b36), .val (.ref b40), .val (.ref r41)] [(.ref r41)])
    refine W.iface (X.w 117 rfl) (X.w 102 rfl) (X.w 103 rfl) (X.w 104 rfl) (X.w 105 rfl) (X.w 106 rfl) (X.w 107 rfl) (X.w 108 rfl) (X.w 28 rfl) (X.w 109 rfl) (by decide) (c_size X r41 (3 : Int32) _ W.ext F_size_r41) (by decide) (Wd := 0) (by decide) r41 Ar41 [] [] rfl pd_14 rfl rfl rfl (Nat.le_of_eq rfl) at_139 (by decide) (by decide) ?_
    intro v T h vm W hQ C
    obtain ⟨rfl, rfl⟩ := hQ
    show Go _ _ _ _ _ _ _ _ _ _ (mkF m 144 #[.val (.int p0), .val (.int p1), .val (.int p2), .val (.int p3), .val (.int (3 : Int32)), .val (.ref b1), .val (.ref b2), .val (.ref b3), .val (.ref b31), .val (.ref b36), .val (.ref b40), .val (.ref r41)] [(.int (3 : Int32))])
    refine Go.step (fun _ k => XS.iload W.here W.hx rfl (W.d at_144) rfl k) ?_
    show Go _ _ _ _ _ _ _ _ _ _ (mkF m 146 #[.val (.int p0), .val (.int p1), .val (.int p2), .val (.int p3), .val (.int (3 : Int32)), .val (.ref b1), .val (.ref b2), .val (.ref b3), .val (.ref b31), .val (.ref b36), .val (.ref b40), .val (.ref r41)] [(.int (3 : Int32)), (.int (3 : Int32))])
    refine Go.step (fun _ k => XS.icmpNo W.here W.hx rfl (W.d at_146) rfl (teq (by decide : (3 : Int32) = (3 : Int32))).2 k) ?_
    show Go _ _ _ _ _ _ _ _ _ _ (mkF m 149 #[.val (.int p0), .val (.int p1), .val (.int p2), .val (.int p3), .val (.int (3 : Int32)), .val (.ref b1), .val (.ref b2), .val (.ref b3), .val (.ref b31), .val (.ref b36), .val (.ref b40), .val (.ref r41)] [])
    refine Go.step (fun _ k => XS.aload W.here W.hx rfl (W.d at_149) rfl rfl k) ?_
    show Go _ _ _ _ _ _ _ _ _ _ (mkF m 151 #[.val (.int p0), .val (.int p1), .val (.int p2), .val (.int p3), .val (.int (3 : Int32)), .val (.ref b1), .val (.ref b2), .val (.ref b3), .val (.ref b31), .val (.ref b36), .val (.ref b40), .val (.ref r41)] [(.ref r41)])
    refine Go.step (fun _ k => XS.iconst W.here W.hx rfl (W.d at_151) k) ?_
    show Go _ _ _ _ _ _ _ _ _ _ (mkF m 152 #[.val (.int p0), .val (.int p1), .val (.int p2), .val (.int p3), .val (.int (3 : Int32)), .val (.ref b1), .val (.ref b2), .val (.ref b3), .val (.ref b31), .val (.ref b36), .val (.ref b40), .val (.ref r41)] [(.int (0 : Int32)), (.ref r41)])
    refine Go.step (fun _ k => XS.iload W.here W.hx rfl (W.d at_152) rfl k) ?_
    show Go _ _ _ _ _ _ _ _ _ _ (mkF m 154 #[.val (.int p0), .val (.int p1), .val (.int p2), .val (.int p3), .val (.int (3 : Int32)), .val (.ref b1), .val (.ref b2), .val (.ref b3), .val (.ref b31), .val (.ref b36), .val (.ref b40), .val (.ref r41)] [(.int (3 : Int32)), (.int (0 : Int32)), (.ref r41)])
    refine Go.step (fun _ k => XS.aload W.here W.hx rfl (W.d at_154) rfl rfl k) ?_
    show Go _ _ _ _ _ _ _ _ _ _ (mkF m 156 #[.val (.int p0), .val (.int p1), .val (.int p2), .val (.int p3), .val (.int (3 : Int32)), .val (.ref b1), .val (.ref b2), .val (.ref b3), .val (.ref b31), .val (.ref b36), .val (.ref b40), .val (.ref r41)] [(.ref b1), (.int (3 : Int32)), (.int (0 : Int32)), (.ref r41)])
    refine W.callS (X.w 118 rfl) (X.w 119 rfl) (X.w 2 rfl) (X.w 120 rfl) (by decide) (c_at1 X r41 w42 b1 _ _ (0 : Int32) (3 : Int32) _ W.ext Ar41 Sb1.exa F_size_r41 F_elementData_r41 Vw42 (by decide) (by decide) (by decide) rfl) (by decide) (Wd := 0) (by decide) [(.ref r41), (.int (0 : Int32)), (.int (3 : Int32)), (.ref b1)] [] rfl pd_22 rfl rfl rfl (Nat.le_of_eq rfl) at_156 (by decide) (by decide) ?_
    intro v T h vm W hQ C
    obtain ⟨rfl, rfl⟩ := hQ
    show Go _ _ _ _ _ _ _ _ _ _ (mkF m 159 #[.val (.int p0), .val (.int p1), .val (.int p2), .val (.int p3), .val (.int (3 : Int32)), .val (.ref b1), .val (.ref b2), .val (.ref b3), .val (.ref b31), .val (.ref b36), .val (.ref b40), .val (.ref r41)] [(.int (1 : Int32))])
    refine Go.step (fun _ k => XS.ifNo W.here W.hx rfl (W.d at_159) rfl ((if0 _ _).trans (feq (by decide : ¬ ((1 : Int32) = (0 : Int32)))).1) k) ?_
    show Go _ _ _ _ _ _ _ _ _ _ (mkF m 162 #[.val (.int p0), .val (.int p1), .val (.int p2), .val (.int p3), .val (.int (3 : Int32)), .val (.ref b1), .val (.ref b2), .val (.ref b3), .val (.ref b31), .val (.ref b36), .val (.ref b40), .val (.ref r41)] [])
    refine Go.step (fun _ k => XS.aload W.here W.hx rfl (W.d at_162) rfl rfl k) ?_
    show Go _ _ _ _ _ _ _ _ _ _ (mkF m 164 #[.val (.int p0), .val (.int p1), .val (.int p2), .val (.int p3), .val (.int (3 : Int32)), .val (.ref b1), .val (.ref b2), .val (.ref b3), .val (.ref b31), .val (.ref b36), .val (.ref b40), .val (.ref r41)] [(.ref r41)])
    refine Go.step (fun _ k => XS.iconst W.here W.hx rfl (W.d at_164) k) ?_
    show Go _ _ _ _ _ _ _ _ _ _ (mkF m 165 #[.val (.int p0), .val (.int p1), .val (.int p2), .val (.int p3), .val (.int (3 : Int32)), .val (.ref b1), .val (.ref b2), .val (.ref b3), .val (.ref b31), .val (.ref b36), .val (.ref b40), .val (.ref r41)] [(.int (1 : Int32)), (.ref r41)])
    refine Go.step (fun _ k => XS.iload W.here W.hx rfl (W.d at_165) rfl k) ?_
    show Go _ _ _ _ _ _ _ _ _ _ (mkF m 167 #[.val (.int p0), .val (.int p1), .val (.int p2), .val (.int p3), .val (.int (3 : Int32)), .val (.ref b1), .val (.ref b2), .val (.ref b3), .val (.ref b31), .val (.ref b36), .val (.ref b40), .val (.ref r41)] [(.int (3 : Int32)), (.int (1 : Int32)), (.ref r41)])
    refine Go.step (fun _ k => XS.aload W.here W.hx rfl (W.d at_167) rfl rfl k) ?_
    show Go _ _ _ _ _ _ _ _ _ _ (mkF m 169 #[.val (.int p0), .val (.int p1), .val (.int p2), .val (.int p3), .val (.int (3 : Int32)), .val (.ref b1), .val (.ref b2), .val (.ref b3), .val (.ref b31), .val (.ref b36), .val (.ref b40), .val (.ref r41)] [(.ref b2), (.int (3 : Int32)), (.int (1 : Int32)), (.ref r41)])
    refine W.callS (X.w 118 rfl) (X.w 119 rfl) (X.w 2 rfl) (X.w 120 rfl) (by decide) (c_at1 X r41 w42 b2 _ _ (1 : Int32) (3 : Int32) _ W.ext Ar41 Sb2.exa F_size_r41 F_elementData_r41 Vw42 (by decide) (by decide) (by decide) rfl) (by decide) (Wd := 0) (by decide) [(.ref r41), (.int (1 : Int32)), (.int (3 : Int32)), (.ref b2)] [] rfl pd_22 rfl rfl rfl (Nat.le_of_eq rfl) at_169 (by decide) (by decide) ?_
    intro v T h vm W hQ C
    obtain ⟨rfl, rfl⟩ := hQ
    show Go _ _ _ _ _ _ _ _ _ _ (mkF m 172 #[.val (.int p0), .val (.int p1), .val (.int p2), .val (.int p3), .val (.int (3 : Int32)), .val (.ref b1), .val (.ref b2), .val (.ref b3), .val (.ref b31), .val (.ref b36), .val (.ref b40), .val (.ref r41)] [(.int (1 : Int32))])
    refine Go.step (fun _ k => XS.ifNo W.here W.hx rfl (W.d at_172) rfl ((if0 _ _).trans (feq (by decide : ¬ ((1 : Int32) = (0 : Int32)))).1) k) ?_
    show Go _ _ _ _ _ _ _ _ _ _ (mkF m 175 #[.val (.int p0), .val (.int p1), .val (.int p2), .val (.int p3), .val (.int (3 : Int32)), .val (.ref b1), .val (.ref b2), .val (.ref b3), .val (.ref b31), .val (.ref b36), .val (.ref b40), .val (.ref r41)] [])
    refine Go.step (fun _ k => XS.aload W.here W.hx rfl (W.d at_175) rfl rfl k) ?_
    show Go _ _ _ _ _ _ _ _ _ _ (mkF m 177 #[.val (.int p0), .val (.int p1), .val (.int p2), .val (.int p3), .val (.int (3 : Int32)), .val (.ref b1), .val (.ref b2), .val (.ref b3), .val (.ref b31), .val (.ref b36), .val (.ref b40), .val (.ref r41)] [(.ref r41)])
    refine Go.step (fun _ k => XS.iconst W.here W.hx rfl (W.d at_177) k) ?_
    show Go _ _ _ _ _ _ _ _ _ _ (mkF m 178 #[.val (.int p0), .val (.int p1), .val (.int p2), .val (.int p3), .val (.int (3 : Int32)), .val (.ref b1), .val (.ref b2), .val (.ref b3), .val (.ref b31), .val (.ref b36), .val (.ref b40), .val (.ref r41)] [(.int (2 : Int32)), (.ref r41)])
    refine Go.step (fun _ k => XS.iload W.here W.hx rfl (W.d at_178) rfl k) ?_
    show Go _ _ _ _ _ _ _ _ _ _ (mkF m 180 #[.val (.int p0), .val (.int p1), .val (.int p2), .val (.int p3), .val (.int (3 : Int32)), .val (.ref b1), .val (.ref b2), .val (.ref b3), .val (.ref b31), .val (.ref b36), .val (.ref b40), .val (.ref r41)] [(.int (3 : Int32)), (.int (2 : Int32)), (.ref r41)])
    refine Go.step (fun _ k => XS.aload W.here W.hx rfl (W.d at_180) rfl rfl k) ?_
    show Go _ _ _ _ _ _ _ _ _ _ (mkF m 182 #[.val (.int p0), .val (.int p1), .val (.int p2), .val (.int p3), .val (.int (3 : Int32)), .val (.ref b1), .val (.ref b2), .val (.ref b3), .val (.ref b31), .val (.ref b36), .val (.ref b40), .val (.ref r41)] [(.ref b3), (.int (3 : Int32)), (.int (2 : Int32)), (.ref r41)])
    refine W.callS (X.w 118 rfl) (X.w 119 rfl) (X.w 2 rfl) (X.w 120 rfl) (by decide) (c_at1 X r41 w42 b3 _ _ (2 : Int32) (3 : Int32) _ W.ext Ar41 Sb3.exa F_size_r41 F_elementData_r41 Vw42 (by decide) (by decide) (by decide) rfl) (by decide) (Wd := 0) (by decide) [(.ref r41), (.int (2 : Int32)), (.int (3 : Int32)), (.ref b3)] [] rfl pd_22 rfl rfl rfl (Nat.le_of_eq rfl) at_182 (by decide) (by decide) ?_
    intro v T h vm W hQ C
    obtain ⟨rfl, rfl⟩ := hQ
    show Go _ _ _ _ _ _ _ _ _ _ (mkF m 185 #[.val (.int p0), .val (.int p1), .val (.int p2), .val (.int p3), .val (.int (3 : Int32)), .val (.ref b1), .val (.ref b2), .val (.ref b3), .val (.ref b31), .val (.ref b36), .val (.ref b40), .val (.ref r41)] [(.int (1 : Int32))])
    refine Go.step (fun _ k => XS.ifNo W.here W.hx rfl (W.d at_185) rfl ((if0 _ _).trans (feq (by decide : ¬ ((1 : Int32) = (0 : Int32)))).1) k) ?_
    show Go _ _ _ _ _ _ _ _ _ _ (mkF m 188 #[.val (.int p0), .val (.int p1), .val (.int p2), .val (.int p3), .val (.int (3 : Int32)), .val (.ref b1), .val (.ref b2), .val (.ref b3), .val (.ref b31), .val (.ref b36), .val (.ref b40), .val (.ref r41)] [])
    refine Go.step (fun _ k => XS.iconst W.here W.hx rfl (W.d at_188) k) ?_
    show Go _ _ _ _ _ _ _ _ _ _ (mkF m 189 #[.val (.int p0), .val (.int p1), .val (.int p2), .val (.int p3), .val (.int (3 : Int32)), .val (.ref b1), .val (.ref b2), .val (.ref b3), .val (.ref b31), .val (.ref b36), .val (.ref b40), .val (.ref r41)] [(.int (1 : Int32))])
    refine Go.step (fun _ k => XS.goto W.here W.hx rfl (pc0 := 189) (pc' := 193) rfl (W.d at_189) (by decide) (by decide) k) ?_
    show Go _ _ _ _ _ _ _ _ _ _ (mkF m 193 #[.val (.int p0), .val (.int p1), .val (.int p2), .val (.int p3), .val (.int (3 : Int32)), .val (.ref b1), .val (.ref b2), .val (.ref b3), .val (.ref b31), .val (.ref b36), .val (.ref b40), .val (.ref r41)] [(.int (1 : Int32))])
    exact W.retN (by simp) at_193 (rfl) (by decide) (by decide)
set_option maxRecDepth 65536 in
set_option maxHeartbeats 40000000 in
theorem comes_1 {Post : Tables → Env → Array Value → State → Outcome → State → Prop} (hpost : ∀ tb e args s v u, (limb_1_1.after args s (.returned v) u = true ∧ limb_1_2.after args s (.returned v) u = true ∧ True) → ReturnedEndW s (.returned v) u (Jvm.fieldLocs frame_1_writes args s ++ Jvm.arrayLocs frame_1_arrays args s ++ Jvm.staticLocs frame_1_statics s) 48 2304 → Post tb e args s (.returned v) u) :
    ArmFor flags0 classFile x code maxLocals ret World_1 tables_1 room_1 Calls_1 rest_1 Pre_1 Post := by
  intro l hfl _ _ p e ha hc hk s m args below hf hA hF happ hP
  obtain ⟨hcalls, hrest, hpre⟩ := hP
  obtain ⟨-, -, -, hnamed, -, -, -, hat⟩ := (Spec.applies_iff hf).mp happ
  obtain ⟨hg, hn⟩ := and_e (Cond.before_iff.mp (show (Jvm.Cond.and given_1 narrow_1).before args s = true from hpre))
  obtain ⟨g1, g2⟩ := and_e hg
  obtain ⟨g3, g4⟩ := and_e g2
  obtain ⟨g5, g6⟩ := and_e g4
  obtain ⟨g7, g8⟩ := and_e g6
  obtain ⟨w0, w1, w2, w3, rfl⟩ : ∃ w0 w1 w2 w3 : Value, args = #[w0, w1, w2, w3] := by
    have hs : args.size = 4 := by simpa [Cond.value, given_1] using g1
    obtain ⟨L⟩ := args
    match L, hs with
    | [w0, w1, w2, w3], _ => exact ⟨w0, w1, w2, w3, rfl⟩
  have hw := fun d (hd : d ∈ tables_1) => atoms_spec (ws := Jvm.Cond.code x code maxLocals ret :: tables_1) hat d (List.mem_cons_of_mem _ hd)
  obtain ⟨hsets, hown0⟩ := atoms_of _ (rest_1_c_eq ▸ (show rest_1_c.before _ s = true from hrest))
  obtain ⟨i0, ei0⟩ := is_v g3
  obtain rfl : w0 = (.int i0) := Option.some.inj ei0
  obtain ⟨i1, ei1⟩ := is_v g5
  obtain rfl : w1 = (.int i1) := Option.some.inj ei1
  obtain ⟨i2, ei2⟩ := is_v g7
  obtain rfl : w2 = (.int i2) := Option.some.inj ei2
  obtain ⟨i3, ei3⟩ := is_v g8
  obtain rfl : w3 = (.int i3) := Option.some.inj ei3
  obtain ⟨G1, eG⟩ := is_v (Cond.before_iff.mp (hsets _ (List.mem_of_getElem? (i := 10) rfl)))
  have S1 : Sta s s.heap "java/lang/String" "COMPACT_STRINGS" "Z" (.int G1) := Sta.start eG (Or.inl (hsets _ (List.mem_of_getElem? (i := 9) rfl)))
  have hcw := hsets _ (List.mem_of_getElem? (i := 11) rfl)
  have P1 : ¬ (G1 = (0 : Int32)) := gotF (Cond.eq_ints eG (Term.int_eval (0))) (not_v (Cond.before_iff.mp hcw))
  have hEL : EW s #[(.int i0), (.int i1), (.int i2), (.int i3)] consts_1 := (EW.cons (hw _ (List.mem_of_getElem? (i := 172) rfl)) (by decide +kernel) (EW.cons (hw _ (List.mem_of_getElem? (i := 18) rfl)) (by decide +kernel) EW.nil))
  have hX : Ctx s _ G1 := ⟨hw, S1, P1, hEL⟩
  have hfit : Fit s := fun {y c} hc i hi => by
    obtain ⟨ha, rfl⟩ := Array.getElem?_eq_some_iff.mp hc
    have q := List.all_eq_true.mp ((Array.all_eq_true_iff_forall_mem.mp hF) _ (Array.getElem_mem ha)) i (List.mem_range.mpr hi)
    simpa [Array.getElem?_eq_getElem hi] using q
  obtain ⟨D, eD⟩ := arr_v (Cond.before_iff.mp (hsets _ (List.mem_of_getElem? (i := 6) rfl)))
  obtain ⟨clD, AD⟩ := Arr.start eD (Cond.before_iff.mp (hsets _ (List.mem_of_getElem? (i := 6) rfl)))
  have sD := Sta.start eD (Or.inr ⟨hw _ (List.mem_of_getElem? (i := 28) rfl), (hsets _ (List.mem_of_getElem? (i := 2) rfl))⟩)
  have hD : Dft s D clD.cls := ⟨sD, arvStart (vs := []) (z := 0) hfit AD eD (eqI (Cond.before_iff.mp (hsets _ (List.mem_of_getElem? (i := 8) rfl)))) (by decide) rfl trivial⟩
  have hc1 : (∀ q ∈ consts_1, Jvm.Lit.constHeld s q.1 q.2) ∧ True := hcalls
  have hCH : CHv s consts_1 s.vm s.heap := CHv.start hEL hc1.1 hcw (hw _ (List.mem_of_getElem? (i := 19) rfl)) (hw _ (List.mem_of_getElem? (i := 5) rfl))
  obtain ⟨n, o, h1, h2, h3, _, L, rfl, ⟨rfl, N, -⟩, -, hq⟩ := c_law (l := l) hX i0 i1 i2 i3 s.heap ⟨Nat.le_refl _, fun _ _ q => q⟩ D clD.cls hD p e ha hc hk s m _ below hf ((Spec.applies_iff_loose hf).mp happ).1 ⟨rfl, State.Warmed39.refl s, rfl, hCH⟩ trivial
  refine ⟨n, _, h1, h2, h3, hpost _ _ _ _ _ _ ⟨Cond.after_iff.mpr rfl, Cond.after_iff.mpr (eq_i res_at (Term.int_eval (1)) rfl), trivial⟩ ⟨hq.1, hq.2.1, hq.2.2.1, (hq.2.2.2.sift fun y hy => Or.inr (N y hy)).mono (by decide) (by decide)⟩⟩
theorem main_1_1 : Claimed_1_1 := comes_1 fun _ _ _ _ _ _ h hF => ⟨h.1, hF⟩
theorem main_1_2 : Claimed_1_2 := comes_1 fun _ _ _ _ _ _ h hF => ⟨h.2.1, hF⟩
end Jvm.Pilot.@@N@@
namespace Jvm.Pilot.@@N@@
open Jvm Jvm.ClassFile Sem Op Lib Jvm.Free Jvm.Stand Jvm.Pilot.@@N@@.Jvm.D
/-! MADE BY PROGRAM (witnessworld.py) out of the Statement's table words and the real class files: 38 classes; the members and pool entries that the words name. The judged class is class 1, her method 3. -/
namespace start1
open Jvm.ClassFile
def u (s : String) : CpInfo := .utf8 (stringToUtf16 s)
/-- a pool by its gaps: so many unusable entries, then the entry; so many at the end -/
def gap : Nat → List CpInfo → List CpInfo
  | 0, r => r
  | n + 1, r => .unusable :: gap n r
def poolList (es : List (Nat × CpInfo)) (last : Nat) : List CpInfo := es.foldr (fun e r => gap e.1 (e.2 :: r)) (gap last [])
def pool (es : List (Nat × CpInfo)) (last : Nat) : Array CpInfo := ⟨poolList es last⟩
def fileOf (pool : Array CpInfo) (this : Nat) (attrs : Array Attribute := #[]) (ms : Array MethodInfo := #[]) (fl : Nat := 33) (sup : Nat := 0) (ifs : Array Nat := #[]) (fds : Array FieldInfo := #[]) : ClassFile where
  minorVersion := 0
  majorVersion := 65
  constantPool := pool
  accessFlags := fl
  thisClass := this
  superClass := sup
  interfaces := ifs
  fields := fds
  methods := ms
  attributes := attrs
def plain (name : String) (sup : Option ClassId) : Class where
  name := name
  kind := .ordinary
  loader := none
  accessFlags := 33
  super := sup
  interfaces := #[]
  cf := none
  fields := #[]
  methods := #[]
  instanceTypes := #[]
  staticTypes := #[]
  resolved := #[]
  callSites := []
  init := .initialized
  statics := none
  mirror := none

def pool0 : Array CpInfo := pool [(5, u "<init>"), (0, u "()V"), (1, .class_ 10), (1, u "java/lang/Object")] 113

def k0c0 : Code := { maxStack := 0, maxLocals := 1, code := object_method_1_code, exceptionTable := #[], attributes := #[] }
def k0m0 : Method := { name := "<init>", desc := "()V", sig := { parameters := [], returnType := none }, accessFlags := 1, code := some k0c0 }
/-- java/lang/Object -/
def k0 : Class := { plain "java/lang/Object" none with
  accessFlags := 33
  interfaces := #[]
  cf := some (fileOf pool0 8 #[] #[{ accessFlags := 1, nameIndex := 5, descriptorIndex := 6, attributes := #[] }] 33 0 #[] #[])
  fields := #[]
  methods := #[k0m0]
  instanceTypes := #[]
  staticTypes := #[]
  resolved := Array.replicate 124 none
  statics := none }

def pool1 : Array CpInfo := pool [(2, .class_ 4), (0, .nameAndType 5 6), (0, u "java/lang/Object"), (0, u "<init>"), (0, u "()V"), (0, .class_ 8), (0, u "java/lang/String"), (0, .methodref 7 10), (0, .nameAndType 5 11), (0, u "([C)V"), (0, .methodref 7 13), (0, .nameAndType 14 15), (0, u "valueOf"), (0, u "(C)Ljava/lang/String;"), (0, .interfaceMethodref 17 18), (0, .class_ 19), (0, .nameAndType 20 21), (0, u "java/util/List"), (0, u "get"), (0, u "(I)Ljava/lang/Object;"), (0, .methodref 7 23), (0, .nameAndType 24 25), (0, u "equals"), (0, u "(Ljava/lang/Object;)Z"), (0, .methodref 27 28), (0, .class_ 29), (0, .nameAndType 30 31), (0, u "com/example/hataraki/hataraki/cli/OptionsOperandsPinLaw"), (0, u "mk"), (0, u "(I)Ljava/lang/String;"), (0, .class_ 33), (0, u "java/util/ArrayList"), (0, .methodref 32 3), (0, .methodref 32 36), (0, .nameAndType 37 25), (0, u "add"), (0, .class_ 39), (0, u "com/example/hataraki/hataraki/cli/Options"), (0, .methodref 38 41), (0, .nameAndType 5 42), (0, u "(Ljava/util/List;Ljava/util/Set;Ljava/util/Set;)V"), (0, .methodref 38 44), (0, .nameAndType 45 46), (0, u "operands"), (0, u "([Ljava/lang/String;)Ljava/util/List;"), (0, .interfaceMethodref 17 48), (0, .nameAndType 49 50), (0, u "size"), (0, u "()I"), (0, .methodref 27 52), (0, .nameAndType 53 54), (0, u "at"), (0, u "(Ljava/util/List;IILjava/lang/String;)Z"), (5, u "law"), (0, u "(IIII)Z")] 4

def k1m0 : Method := { name := "<init>", desc := "()V", sig := { parameters := [], returnType := none }, accessFlags := 1, code := none }
def k1c1 : Code := { maxStack := 6, maxLocals := 4, code := method_2_code, exceptionTable := #[], attributes := #[] }
def k1m1 : Method := { name := "mk", desc := "(I)Ljava/lang/String;", sig := { parameters := [.int], returnType := some (.object "java/lang/String") }, accessFlags := 10, code := some k1c1 }
def k1c2 : Code := { maxStack := 3, maxLocals := 4, code := method_3_code, exceptionTable := #[], attributes := #[] }
def k1m2 : Method := { name := "at", desc := "(Ljava/util/List;IILjava/lang/String;)Z", sig := { parameters := [(.object "java/util/List"), .int, .int, (.object "java/lang/String")], returnType := some .boolean }, accessFlags := 10, code := some k1c2 }
def k1c3 : Code := { maxStack := 5, maxLocals := 12, code := code, exceptionTable := #[], attributes := #[] }
def k1m3 : Method := { name := "law", desc := "(IIII)Z", sig := { parameters := [.int, .int, .int, .int], returnType := some .boolean }, accessFlags := 9, code := some k1c3 }
/-- com/example/hataraki/hataraki/cli/OptionsOperandsPinLaw -/
def k1 : Class := { plain "com/example/hataraki/hataraki/cli/OptionsOperandsPinLaw" (some 0) with
  accessFlags := 49
  interfaces := #[]
  cf := some (fileOf pool1 27 #[] #[{ accessFlags := 1, nameIndex := 5, descriptorIndex := 6, attributes := #[] }, { accessFlags := 10, nameIndex := 30, descriptorIndex := 31, attributes := #[] }, { accessFlags := 10, nameIndex := 53, descriptorIndex := 54, attributes := #[] }, { accessFlags := 9, nameIndex := 60, descriptorIndex := 61, attributes := #[] }] 49 2 #[] #[])
  fields := #[]
  methods := #[k1m0, k1m1, k1m2, k1m3]
  instanceTypes := #[]
  staticTypes := #[]
  resolved := Array.replicate 66 none
  statics := none }

def pool2 : Array CpInfo := pool [(1, .class_ 2), (0, u "java/io/Serializable"), (0, .class_ 4), (0, u "java/lang/Object")] 2

/-- java/io/Serializable -/
def k2 : Class := { plain "java/io/Serializable" (some 0) with
  accessFlags := 1537
  interfaces := #[]
  cf := some (fileOf pool2 1 #[] #[] 1537 3 #[] #[])
  fields := #[]
  methods := #[]
  instanceTypes := #[]
  staticTypes := #[]
  resolved := Array.replicate 7 none
  statics := none }

def pool3 : Array CpInfo := pool [(1, .class_ 2), (0, u "java/lang/Comparable"), (0, .class_ 4), (0, u "java/lang/Object")] 7

/-- java/lang/Comparable -/
def k3 : Class := { plain "java/lang/Comparable" (some 0) with
  accessFlags := 1537
  interfaces := #[]
  cf := some (fileOf pool3 1 #[] #[] 1537 3 #[] #[])
  fields := #[]
  methods := #[]
  instanceTypes := #[]
  staticTypes := #[]
  resolved := Array.replicate 12 none
  statics := none }

def pool4 : Array CpInfo := pool [(2, .class_ 4), (1, u "java/lang/CharSequence"), (42, .class_ 48), (0, u "java/lang/CharSequence$1CodePointIterator"), (10, .class_ 60), (0, u "java/lang/CharSequence$1CharIterator"), (5, .class_ 67), (0, u "java/lang/Object")] 63

/-- java/lang/CharSequence -/
def k4 : Class := { plain "java/lang/CharSequence" (some 0) with
  accessFlags := 1537
  interfaces := #[]
  cf := some (fileOf pool4 2 #[.nestMembers #[47, 59]] #[] 1537 66 #[] #[])
  fields := #[]
  methods := #[]
  instanceTypes := #[]
  staticTypes := #[]
  resolved := Array.replicate 131 none
  statics := none }

def pool5 : Array CpInfo := pool [(1, .class_ 2), (0, u "java/lang/constant/Constable"), (0, .class_ 4), (0, u "java/lang/Object")] 6

/-- java/lang/constant/Constable -/
def k5 : Class := { plain "java/lang/constant/Constable" (some 0) with
  accessFlags := 1537
  interfaces := #[]
  cf := some (fileOf pool5 1 #[] #[] 1537 3 #[] #[])
  fields := #[]
  methods := #[]
  instanceTypes := #[]
  staticTypes := #[]
  resolved := Array.replicate 11 none
  statics := none }

def pool6 : Array CpInfo := pool [(1, .class_ 2), (0, u "java/lang/constant/ConstantDesc"), (0, .class_ 4), (0, u "java/lang/Object")] 32

/-- java/lang/constant/ConstantDesc -/
def k6 : Class := { plain "java/lang/constant/ConstantDesc" (some 0) with
  accessFlags := 1537
  interfaces := #[]
  cf := some (fileOf pool6 1 #[] #[] 1537 3 #[] #[])
  fields := #[]
  methods := #[]
  instanceTypes := #[]
  staticTypes := #[]
  resolved := Array.replicate 37 none
  statics := none }

def pool7 : Array CpInfo := pool [(1, .methodref 2 3), (0, .class_ 4), (0, .nameAndType 5 6), (0, u "java/lang/Object"), (0, u "<init>"), (0, u "()V"), (0, .string 8), (0, u ""), (0, .fieldref 10 11), (0, .class_ 12), (0, .nameAndType 13 14), (0, u "java/lang/String"), (0, u "value"), (0, u "[B"), (0, .fieldref 10 16), (0, .nameAndType 17 18), (0, u "coder"), (0, u "B"), (2, u "hash"), (0, u "I"), (2, u "hashIsZero"), (0, u "Z"), (0, .methodref 10 28), (0, .nameAndType 5 29), (0, u "([CIILjava/lang/Void;)V"), (8, .fieldref 10 39), (0, .nameAndType 40 26), (0, u "COMPACT_STRINGS"), (1, .class_ 44), (1, u "java/lang/StringUTF16"), (0, u "compress"), (1, .methodref 42 48), (0, .nameAndType 49 50), (0, u "coderFromArrayLen"), (0, u "([BI)B"), (2, u "toBytes"), (53, .class_ 109), (1, u "java/lang/StringLatin1"), (67, .methodref 42 178), (0, .nameAndType 45 179), (0, u "([CII)[B"), (29, .methodref 10 210), (0, .nameAndType 5 211), (0, u "([BB)V"), (122, u "()I"), (0, .methodref 10 336), (0, .nameAndType 17 337), (0, u "()B"), (31, u "(C)Z"), (6, u "([BI[BII)I"), (128, .methodref 10 506), (0, .nameAndType 507 334), (0, u "length"), (35, u "equals"), (15, .class_ 561), (1, u "jdk/internal/util/ArraysSupport"), (0, u "mismatch"), (10, u "(Ljava/lang/Object;)Z"), (1, .class_ 576), (0, u "java/lang/CharSequence"), (22, u "CASE_INSENSITIVE_ORDER"), (0, u "Ljava/util/Comparator;"), (6, .methodref 559 608), (0, .nameAndType 562 376), (15, .methodref 10 625), (0, .nameAndType 626 627), (0, u "startsWith"), (0, u "(Ljava/lang/String;I)Z"), (154, u "valueOf"), (0, u "(C)Ljava/lang/String;"), (226, u "([C)V"), (4, .methodref 107 1016), (0, .nameAndType 1017 369), (0, u "canEncode"), (0, .methodref 107 1019), (0, .nameAndType 53 1020), (0, u "(C)[B"), (80, u "serialPersistentFields"), (0, u "[Ljava/io/ObjectStreamField;"), (0, .class_ 1104), (0, u "java/lang/String$CaseInsensitiveComparator"), (1, .class_ 1107), (0, u "java/io/Serializable"), (0, .class_ 1109), (0, u "java/lang/Comparable"), (0, .class_ 1111), (0, u "java/lang/constant/Constable"), (0, .class_ 1113), (0, u "java/lang/constant/ConstantDesc"), (2, u "serialVersionUID"), (0, u "J"), (3, u "REPL"), (0, u "C"), (2, u "LATIN1"), (1, u "UTF16"), (129, u "(Ljava/lang/String;)Z")] 193

def k7m0 : Method := { name := "<init>", desc := "()V", sig := { parameters := [], returnType := none }, accessFlags := 1, code := none }
def k7c1 : Code := { maxStack := 5, maxLocals := 2, code := jdk_42_method_3_code, exceptionTable := #[], attributes := #[] }
def k7m1 : Method := { name := "<init>", desc := "([C)V", sig := { parameters := [(.array .char)], returnType := none }, accessFlags := 1, code := some k7c1 }
def k7c2 : Code := { maxStack := 2, maxLocals := 1, code := jdk_42_method_54_code, exceptionTable := #[], attributes := #[] }
def k7m2 : Method := { name := "length", desc := "()I", sig := { parameters := [], returnType := some .int }, accessFlags := 1, code := some k7c2 }
def k7c3 : Code := { maxStack := 2, maxLocals := 3, code := jdk_42_method_66_code, exceptionTable := #[], attributes := #[] }
def k7m3 : Method := { name := "equals", desc := "(Ljava/lang/Object;)Z", sig := { parameters := [(.object "java/lang/Object")], returnType := some .boolean }, accessFlags := 1, code := some k7c3 }
def k7c4 : Code := { maxStack := 5, maxLocals := 8, code := jdk_42_method_75_code, exceptionTable := #[], attributes := #[] }
def k7m4 : Method := { name := "startsWith", desc := "(Ljava/lang/String;I)Z", sig := { parameters := [(.object "java/lang/String"), .int], returnType := some .boolean }, accessFlags := 1, code := some k7c4 }
def k7c5 : Code := { maxStack := 3, maxLocals := 2, code := jdk_42_method_76_code, exceptionTable := #[], attributes := #[] }
def k7m5 : Method := { name := "startsWith", desc := "(Ljava/lang/String;)Z", sig := { parameters := [(.object "java/lang/String")], returnType := some .boolean }, accessFlags := 1, code := some k7c5 }
def k7c6 : Code := { maxStack := 4, maxLocals := 1, code := jdk_42_method_139_code, exceptionTable := #[], attributes := #[] }
def k7m6 : Method := { name := "valueOf", desc := "(C)Ljava/lang/String;", sig := { parameters := [.char], returnType := some (.object "java/lang/String") }, accessFlags := 9, code := some k7c6 }
def k7c7 : Code := { maxStack := 4, maxLocals := 6, code := jdk_42_method_149_code, exceptionTable := #[], attributes := #[] }
def k7m7 : Method := { name := "<init>", desc := "([CIILjava/lang/Void;)V", sig := { parameters := [(.array .char), .int, .int, (.object "java/lang/Void")], returnType := none }, accessFlags := 2, code := some k7c7 }
def k7c8 : Code := { maxStack := 2, maxLocals := 3, code := jdk_42_method_151_code, exceptionTable := #[], attributes := #[] }
def k7m8 : Method := { name := "<init>", desc := "([BB)V", sig := { parameters := [(.array .byte), .byte], returnType := none }, accessFlags := 0, code := some k7c8 }
def k7c9 : Code := { maxStack := 1, maxLocals := 1, code := jdk_42_method_152_code, exceptionTable := #[], attributes := #[] }
def k7m9 : Method := { name := "coder", desc := "()B", sig := { parameters := [], returnType := some .byte }, accessFlags := 0, code := some k7c9 }
/-- java/lang/String -/
def k7 : Class := { plain "java/lang/String" (some 0) with
  accessFlags := 49
  interfaces := #[2, 3, 4, 5, 6]
  cf := some (fileOf pool7 10 #[.nestMembers #[1103]] #[{ accessFlags := 1, nameIndex := 5, descriptorIndex := 6, attributes := #[] }, { accessFlags := 1, nameIndex := 5, descriptorIndex := 1010, attributes := #[] }, { accessFlags := 1, nameIndex := 507, descriptorIndex := 334, attributes := #[] }, { accessFlags := 1, nameIndex := 543, descriptorIndex := 573, attributes := #[] }, { accessFlags := 1, nameIndex := 626, descriptorIndex := 627, attributes := #[] }, { accessFlags := 1, nameIndex := 626, descriptorIndex := 1257, attributes := #[] }, { accessFlags := 9, nameIndex := 782, descriptorIndex := 783, attributes := #[] }, { accessFlags := 2, nameIndex := 5, descriptorIndex := 29, attributes := #[] }, { accessFlags := 0, nameIndex := 5, descriptorIndex := 211, attributes := #[] }, { accessFlags := 0, nameIndex := 17, descriptorIndex := 337, attributes := #[] }] 49 2 #[1106, 1108, 575, 1110, 1112] #[{ accessFlags := 18, nameIndex := 13, descriptorIndex := 14, attributes := #[] }, { accessFlags := 18, nameIndex := 17, descriptorIndex := 18, attributes := #[] }, { accessFlags := 2, nameIndex := 21, descriptorIndex := 22, attributes := #[] }, { accessFlags := 2, nameIndex := 25, descriptorIndex := 26, attributes := #[] }, { accessFlags := 26, nameIndex := 1116, descriptorIndex := 1117, attributes := #[] }, { accessFlags := 24, nameIndex := 40, descriptorIndex := 26, attributes := #[] }, { accessFlags := 26, nameIndex := 1101, descriptorIndex := 1102, attributes := #[] }, { accessFlags := 26, nameIndex := 1121, descriptorIndex := 1122, attributes := #[] }, { accessFlags := 25, nameIndex := 599, descriptorIndex := 600, attributes := #[] }, { accessFlags := 24, nameIndex := 1125, descriptorIndex := 18, attributes := #[] }, { accessFlags := 24, nameIndex := 1127, descriptorIndex := 18, attributes := #[] }])
  fields := #[{ name := "value", type := (.array .byte), accessFlags := 18, slot := 0, constantValue := 0 }, { name := "coder", type := .byte, accessFlags := 18, slot := 1, constantValue := 0 }, { name := "hash", type := .int, accessFlags := 2, slot := 2, constantValue := 0 }, { name := "hashIsZero", type := .boolean, accessFlags := 2, slot := 3, constantValue := 0 }, { name := "serialVersionUID", type := .long, accessFlags := 26, slot := 0, constantValue := 0 }, { name := "COMPACT_STRINGS", type := .boolean, accessFlags := 24, slot := 1, constantValue := 0 }, { name := "serialPersistentFields", type := (.array (.object "java/io/ObjectStreamField")), accessFlags := 26, slot := 2, constantValue := 0 }, { name := "REPL", type := .char, accessFlags := 26, slot := 3, constantValue := 0 }, { name := "CASE_INSENSITIVE_ORDER", type := (.object "java/util/Comparator"), accessFlags := 25, slot := 4, constantValue := 0 }, { name := "LATIN1", type := .byte, accessFlags := 24, slot := 5, constantValue := 0 }, { name := "UTF16", type := .byte, accessFlags := 24, slot := 6, constantValue := 0 }]
  methods := #[k7m0, k7m1, k7m2, k7m3, k7m4, k7m5, k7m6, k7m7, k7m8, k7m9]
  instanceTypes := #[(.array .byte), .byte, .int, .boolean]
  staticTypes := #[.long, .boolean, (.array (.object "java/io/ObjectStreamField")), .char, (.object "java/util/Comparator"), .byte, .byte]
  resolved := Array.replicate 1451 none
  statics := some 0 }

def pool8 : Array CpInfo := pool [(8, .class_ 10), (1, u "java/lang/Iterable"), (24, .class_ 36), (0, u "java/lang/Object")] 25

/-- java/lang/Iterable -/
def k8 : Class := { plain "java/lang/Iterable" (some 0) with
  accessFlags := 1537
  interfaces := #[]
  cf := some (fileOf pool8 8 #[] #[] 1537 35 #[] #[])
  fields := #[]
  methods := #[]
  instanceTypes := #[]
  staticTypes := #[]
  resolved := Array.replicate 62 none
  statics := none }

def pool9 : Array CpInfo := pool [(10, .class_ 12), (1, u "java/util/Collection"), (47, .class_ 61), (0, u "java/lang/Object"), (0, .class_ 63), (0, u "java/lang/Iterable")] 51

/-- java/util/Collection -/
def k9 : Class := { plain "java/util/Collection" (some 0) with
  accessFlags := 1537
  interfaces := #[8]
  cf := some (fileOf pool9 10 #[] #[] 1537 60 #[62] #[])
  fields := #[]
  methods := #[]
  instanceTypes := #[]
  staticTypes := #[]
  resolved := Array.replicate 115 none
  statics := none }

def pool10 : Array CpInfo := pool [(1, .methodref 2 3), (0, .class_ 4), (0, .nameAndType 5 6), (0, u "java/lang/Object"), (0, u "<init>"), (0, u "()V"), (1, .class_ 10), (1, u "java/util/AbstractCollection"), (66, .class_ 78), (0, u "java/util/Collection")] 81

def k10c0 : Code := { maxStack := 1, maxLocals := 1, code := jdk_22_method_1_code, exceptionTable := #[], attributes := #[] }
def k10m0 : Method := { name := "<init>", desc := "()V", sig := { parameters := [], returnType := none }, accessFlags := 4, code := some k10c0 }
/-- java/util/AbstractCollection -/
def k10 : Class := { plain "java/util/AbstractCollection" (some 0) with
  accessFlags := 1057
  interfaces := #[9]
  cf := some (fileOf pool10 8 #[] #[{ accessFlags := 4, nameIndex := 5, descriptorIndex := 6, attributes := #[] }] 1057 2 #[77] #[])
  fields := #[]
  methods := #[k10m0]
  instanceTypes := #[]
  staticTypes := #[]
  resolved := Array.replicate 160 none
  statics := none }

def pool11 : Array CpInfo := pool [(8, .class_ 10), (1, u "java/util/SequencedCollection"), (15, .class_ 27), (0, u "java/lang/Object"), (0, .class_ 29), (0, u "java/util/Collection")] 27

/-- java/util/SequencedCollection -/
def k11 : Class := { plain "java/util/SequencedCollection" (some 0) with
  accessFlags := 1537
  interfaces := #[9]
  cf := some (fileOf pool11 8 #[] #[] 1537 26 #[28] #[])
  fields := #[]
  methods := #[]
  instanceTypes := #[]
  staticTypes := #[]
  resolved := Array.replicate 57 none
  statics := none }

def pool12 : Array CpInfo := pool [(8, .class_ 10), (1, u "java/util/List"), (49, u "add"), (3, u "(Ljava/lang/Object;)Z"), (10, u "get"), (0, u "(I)Ljava/lang/Object;"), (2, u "size"), (0, u "()I"), (22, .class_ 104), (0, u "java/lang/Object"), (15, .class_ 121), (0, u "java/util/SequencedCollection")] 129

def k12m0 : Method := { name := "size", desc := "()I", sig := { parameters := [], returnType := some .int }, accessFlags := 1025, code := none }
def k12m1 : Method := { name := "add", desc := "(Ljava/lang/Object;)Z", sig := { parameters := [(.object "java/lang/Object")], returnType := some .boolean }, accessFlags := 1025, code := none }
def k12m2 : Method := { name := "get", desc := "(I)Ljava/lang/Object;", sig := { parameters := [.int], returnType := some (.object "java/lang/Object") }, accessFlags := 1025, code := none }
/-- java/util/List -/
def k12 : Class := { plain "java/util/List" (some 0) with
  accessFlags := 1537
  interfaces := #[11]
  cf := some (fileOf pool12 8 #[] #[{ accessFlags := 1025, nameIndex := 79, descriptorIndex := 80, attributes := #[] }, { accessFlags := 1025, nameIndex := 60, descriptorIndex := 64, attributes := #[] }, { accessFlags := 1025, nameIndex := 75, descriptorIndex := 76, attributes := #[] }] 1537 103 #[120] #[])
  fields := #[]
  methods := #[k12m0, k12m1, k12m2]
  instanceTypes := #[]
  staticTypes := #[]
  resolved := Array.replicate 251 none
  statics := none }

def pool13 : Array CpInfo := pool [(1, .methodref 2 3), (0, .class_ 4), (0, .nameAndType 5 6), (0, u "java/util/AbstractCollection"), (0, u "<init>"), (0, u "()V"), (0, .fieldref 8 9), (0, .class_ 10), (0, .nameAndType 11 12), (0, u "java/util/AbstractList"), (0, u "modCount"), (0, u "I"), (64, .class_ 78), (0, u "java/util/AbstractList$Itr"), (3, .class_ 83), (0, u "java/util/AbstractList$ListItr"), (9, .class_ 94), (0, u "java/util/AbstractList$RandomAccessSubList"), (3, .class_ 99), (0, u "java/util/AbstractList$SubList"), (33, .class_ 134), (0, u "java/util/List"), (73, .class_ 209), (0, u "java/util/AbstractList$SubList$1"), (0, .class_ 211), (0, u "java/util/AbstractList$RandomAccessSpliterator")] 6

def k13c0 : Code := { maxStack := 2, maxLocals := 1, code := jdk_39_method_1_code, exceptionTable := #[], attributes := #[] }
def k13m0 : Method := { name := "<init>", desc := "()V", sig := { parameters := [], returnType := none }, accessFlags := 4, code := some k13c0 }
/-- java/util/AbstractList -/
def k13 : Class := { plain "java/util/AbstractList" (some 10) with
  accessFlags := 1057
  interfaces := #[12]
  cf := some (fileOf pool13 8 #[.nestMembers #[93, 98, 208, 210, 82, 77]] #[{ accessFlags := 4, nameIndex := 5, descriptorIndex := 6, attributes := #[] }] 1057 2 #[133] #[{ accessFlags := 132, nameIndex := 11, descriptorIndex := 12, attributes := #[] }])
  fields := #[{ name := "modCount", type := .int, accessFlags := 132, slot := 0, constantValue := 0 }]
  methods := #[k13m0]
  instanceTypes := #[.int]
  staticTypes := #[]
  resolved := Array.replicate 218 none
  statics := none }

def pool14 : Array CpInfo := pool [(1, .class_ 2), (0, u "java/util/RandomAccess"), (0, .class_ 4), (0, u "java/lang/Object")] 2

/-- java/util/RandomAccess -/
def k14 : Class := { plain "java/util/RandomAccess" (some 0) with
  accessFlags := 1537
  interfaces := #[]
  cf := some (fileOf pool14 1 #[] #[] 1537 3 #[] #[])
  fields := #[]
  methods := #[]
  instanceTypes := #[]
  staticTypes := #[]
  resolved := Array.replicate 7 none
  statics := none }

def pool15 : Array CpInfo := pool [(1, .class_ 2), (0, u "java/lang/Cloneable"), (0, .class_ 4), (0, u "java/lang/Object")] 2

/-- java/lang/Cloneable -/
def k15 : Class := { plain "java/lang/Cloneable" (some 0) with
  accessFlags := 1537
  interfaces := #[]
  cf := some (fileOf pool15 1 #[] #[] 1537 3 #[] #[])
  fields := #[]
  methods := #[]
  instanceTypes := #[]
  staticTypes := #[]
  resolved := Array.replicate 7 none
  statics := none }

def pool16 : Array CpInfo := pool [(1, .methodref 2 3), (0, .class_ 4), (0, .nameAndType 5 6), (0, u "java/util/AbstractList"), (0, u "<init>"), (0, u "()V"), (0, .class_ 8), (0, u "java/lang/Object"), (0, .fieldref 10 11), (0, .class_ 12), (0, .nameAndType 13 14), (0, u "java/util/ArrayList"), (0, u "elementData"), (0, u "[Ljava/lang/Object;"), (2, u "EMPTY_ELEMENTDATA"), (21, .fieldref 10 40), (0, .nameAndType 41 14), (0, u "DEFAULTCAPACITY_EMPTY_ELEMENTDATA"), (5, u "()[Ljava/lang/Object;"), (0, .fieldref 10 49), (0, .nameAndType 50 51), (0, u "size"), (0, u "I"), (11, .fieldref 10 64), (0, .nameAndType 65 51), (0, u "modCount"), (3, .methodref 10 70), (0, .nameAndType 71 72), (0, u "grow"), (0, u "(I)[Ljava/lang/Object;"), (6, .methodref 80 81), (0, .class_ 82), (0, .nameAndType 83 84), (0, u "java/lang/Math"), (0, u "max"), (0, u "(II)I"), (11, u "(Ljava/lang/Object;)Z"), (21, .methodref 119 120), (0, .class_ 121), (0, .nameAndType 122 84), (0, u "java/util/Objects"), (0, u "checkIndex"), (0, .methodref 10 124), (0, .nameAndType 13 125), (0, u "(I)Ljava/lang/Object;"), (3, .methodref 10 130), (0, .nameAndType 71 47), (0, .methodref 10 132), (0, .nameAndType 133 134), (0, u "add"), (0, u "(Ljava/lang/Object;[Ljava/lang/Object;I)V"), (13, .class_ 149), (0, u "java/util/List"), (36, u "()I"), (75, .class_ 263), (0, u "java/util/ArrayList$ListItr"), (3, .class_ 268), (0, u "java/util/ArrayList$Itr"), (7, .class_ 277), (0, u "java/util/ArrayList$SubList"), (12, .class_ 291), (0, u "java/util/ArrayList$ArrayListSpliterator"), (37, .class_ 330), (0, u "java/util/RandomAccess"), (0, .class_ 332), (0, u "java/lang/Cloneable"), (0, .class_ 334), (0, u "java/io/Serializable"), (0, u "serialVersionUID"), (0, u "J"), (3, u "DEFAULT_CAPACITY"), (40, u "get"), (118, .class_ 501), (0, u "java/util/ArrayList$SubList$2"), (0, .class_ 503), (0, u "java/util/ArrayList$SubList$1")] 5

def k16c0 : Code := { maxStack := 2, maxLocals := 1, code := jdk_38_method_2_code, exceptionTable := #[], attributes := #[] }
def k16m0 : Method := { name := "<init>", desc := "()V", sig := { parameters := [], returnType := none }, accessFlags := 1, code := some k16c0 }
def k16c1 : Code := { maxStack := 4, maxLocals := 4, code := jdk_38_method_6_code, exceptionTable := #[], attributes := #[] }
def k16m1 : Method := { name := "grow", desc := "(I)[Ljava/lang/Object;", sig := { parameters := [.int], returnType := some (.array (.object "java/lang/Object")) }, accessFlags := 2, code := some k16c1 }
def k16c2 : Code := { maxStack := 3, maxLocals := 1, code := jdk_38_method_7_code, exceptionTable := #[], attributes := #[] }
def k16m2 : Method := { name := "grow", desc := "()[Ljava/lang/Object;", sig := { parameters := [], returnType := some (.array (.object "java/lang/Object")) }, accessFlags := 2, code := some k16c2 }
def k16c3 : Code := { maxStack := 1, maxLocals := 1, code := jdk_38_method_8_code, exceptionTable := #[], attributes := #[] }
def k16m3 : Method := { name := "size", desc := "()I", sig := { parameters := [], returnType := some .int }, accessFlags := 1, code := some k16c3 }
def k16c4 : Code := { maxStack := 2, maxLocals := 2, code := jdk_38_method_18_code, exceptionTable := #[], attributes := #[] }
def k16m4 : Method := { name := "elementData", desc := "(I)Ljava/lang/Object;", sig := { parameters := [.int], returnType := some (.object "java/lang/Object") }, accessFlags := 0, code := some k16c4 }
def k16c5 : Code := { maxStack := 2, maxLocals := 2, code := jdk_38_method_20_code, exceptionTable := #[], attributes := #[] }
def k16m5 : Method := { name := "get", desc := "(I)Ljava/lang/Object;", sig := { parameters := [.int], returnType := some (.object "java/lang/Object") }, accessFlags := 1, code := some k16c5 }
def k16c6 : Code := { maxStack := 3, maxLocals := 4, code := jdk_38_method_24_code, exceptionTable := #[], attributes := #[] }
def k16m6 : Method := { name := "add", desc := "(Ljava/lang/Object;[Ljava/lang/Object;I)V", sig := { parameters := [(.object "java/lang/Object"), (.array (.object "java/lang/Object")), .int], returnType := none }, accessFlags := 2, code := some k16c6 }
def k16c7 : Code := { maxStack := 4, maxLocals := 2, code := jdk_38_method_25_code, exceptionTable := #[], attributes := #[] }
def k16m7 : Method := { name := "add", desc := "(Ljava/lang/Object;)Z", sig := { parameters := [(.object "java/lang/Object")], returnType := some .boolean }, accessFlags := 1, code := some k16c7 }
/-- java/util/ArrayList -/
def k16 : Class := { plain "java/util/ArrayList" (some 13) with
  accessFlags := 33
  interfaces := #[12, 14, 15, 2]
  cf := some (fileOf pool16 10 #[.nestMembers #[290, 276, 500, 502, 262, 267]] #[{ accessFlags := 1, nameIndex := 5, descriptorIndex := 6, attributes := #[] }, { accessFlags := 2, nameIndex := 71, descriptorIndex := 72, attributes := #[] }, { accessFlags := 2, nameIndex := 71, descriptorIndex := 47, attributes := #[] }, { accessFlags := 1, nameIndex := 50, descriptorIndex := 186, attributes := #[] }, { accessFlags := 0, nameIndex := 13, descriptorIndex := 125, attributes := #[] }, { accessFlags := 1, nameIndex := 381, descriptorIndex := 125, attributes := #[] }, { accessFlags := 2, nameIndex := 133, descriptorIndex := 134, attributes := #[] }, { accessFlags := 1, nameIndex := 133, descriptorIndex := 96, attributes := #[] }] 33 2 #[148, 329, 331, 333] #[{ accessFlags := 26, nameIndex := 335, descriptorIndex := 336, attributes := #[] }, { accessFlags := 26, nameIndex := 340, descriptorIndex := 51, attributes := #[] }, { accessFlags := 26, nameIndex := 17, descriptorIndex := 14, attributes := #[] }, { accessFlags := 26, nameIndex := 41, descriptorIndex := 14, attributes := #[] }, { accessFlags := 128, nameIndex := 13, descriptorIndex := 14, attributes := #[] }, { accessFlags := 2, nameIndex := 50, descriptorIndex := 51, attributes := #[] }])
  fields := #[{ name := "serialVersionUID", type := .long, accessFlags := 26, slot := 0, constantValue := 0 }, { name := "DEFAULT_CAPACITY", type := .int, accessFlags := 26, slot := 1, constantValue := 0 }, { name := "EMPTY_ELEMENTDATA", type := (.array (.object "java/lang/Object")), accessFlags := 26, slot := 2, constantValue := 0 }, { name := "DEFAULTCAPACITY_EMPTY_ELEMENTDATA", type := (.array (.object "java/lang/Object")), accessFlags := 26, slot := 3, constantValue := 0 }, { name := "elementData", type := (.array (.object "java/lang/Object")), accessFlags := 128, slot := 1, constantValue := 0 }, { name := "size", type := .int, accessFlags := 2, slot := 2, constantValue := 0 }]
  methods := #[k16m0, k16m1, k16m2, k16m3, k16m4, k16m5, k16m6, k16m7]
  instanceTypes := #[.int, (.array (.object "java/lang/Object")), .int]
  staticTypes := #[.long, .int, (.array (.object "java/lang/Object")), (.array (.object "java/lang/Object"))]
  resolved := Array.replicate 509 none
  statics := some 1 }

def pool17 : Array CpInfo := pool [(1, .methodref 2 3), (0, .class_ 4), (0, .nameAndType 5 6), (0, u "java/lang/Object"), (0, u "<init>"), (0, u "()V"), (0, .class_ 8), (0, u "java/util/HashMap"), (0, .methodref 7 3), (0, .fieldref 11 12), (0, .class_ 13), (0, .nameAndType 14 15), (0, u "com/example/hataraki/hataraki/cli/Options"), (0, u "values"), (0, u "Ljava/util/Map;"), (0, .class_ 17), (0, u "java/util/HashSet"), (0, .methodref 16 3), (0, .fieldref 11 20), (0, .nameAndType 21 22), (0, u "switches"), (0, u "Ljava/util/Set;"), (0, .class_ 24), (0, u "java/util/ArrayList"), (0, .methodref 23 3), (0, .fieldref 11 27), (0, .nameAndType 28 29), (0, u "operands"), (0, u "Ljava/util/List;"), (0, .interfaceMethodref 31 32), (0, .class_ 33), (0, .nameAndType 34 35), (0, u "java/util/List"), (0, u "size"), (0, u "()I"), (0, .interfaceMethodref 31 37), (0, .nameAndType 38 39), (0, u "get"), (0, u "(I)Ljava/lang/Object;"), (0, .class_ 41), (0, u "java/lang/String"), (0, .string 43), (0, u "--"), (0, .methodref 40 45), (0, .nameAndType 46 47), (0, u "startsWith"), (0, u "(Ljava/lang/String;)Z"), (4, .interfaceMethodref 31 53), (0, .nameAndType 54 55), (0, u "add"), (0, u "(Ljava/lang/Object;)Z"), (60, u "(Ljava/util/List;Ljava/util/Set;Ljava/util/Set;)V"), (8, u "([Ljava/lang/String;)Ljava/util/List;")] 28

def k17c0 : Code := { maxStack := 4, maxLocals := 7, code := prog_9_method_1_code, exceptionTable := #[], attributes := #[] }
def k17m0 : Method := { name := "<init>", desc := "(Ljava/util/List;Ljava/util/Set;Ljava/util/Set;)V", sig := { parameters := [(.object "java/util/List"), (.object "java/util/Set"), (.object "java/util/Set")], returnType := none }, accessFlags := 0, code := some k17c0 }
def k17c1 : Code := { maxStack := 8, maxLocals := 2, code := prog_9_method_5_code, exceptionTable := #[], attributes := #[] }
def k17m1 : Method := { name := "operands", desc := "([Ljava/lang/String;)Ljava/util/List;", sig := { parameters := [(.array (.object "java/lang/String"))], returnType := some (.object "java/util/List") }, accessFlags := 128, code := some k17c1 }
/-- com/example/hataraki/hataraki/cli/Options -/
def k17 : Class := { plain "com/example/hataraki/hataraki/cli/Options" (some 0) with
  accessFlags := 32
  interfaces := #[]
  cf := some (fileOf pool17 11 #[] #[{ accessFlags := 0, nameIndex := 5, descriptorIndex := 116, attributes := #[] }, { accessFlags := 128, nameIndex := 28, descriptorIndex := 125, attributes := #[] }] 32 2 #[] #[{ accessFlags := 18, nameIndex := 14, descriptorIndex := 15, attributes := #[] }, { accessFlags := 18, nameIndex := 21, descriptorIndex := 22, attributes := #[] }, { accessFlags := 18, nameIndex := 28, descriptorIndex := 29, attributes := #[] }])
  fields := #[{ name := "values", type := (.object "java/util/Map"), accessFlags := 18, slot := 0, constantValue := 0 }, { name := "switches", type := (.object "java/util/Set"), accessFlags := 18, slot := 1, constantValue := 0 }, { name := "operands", type := (.object "java/util/List"), accessFlags := 18, slot := 2, constantValue := 0 }]
  methods := #[k17m0, k17m1]
  instanceTypes := #[(.object "java/util/Map"), (.object "java/util/Set"), (.object "java/util/List")]
  staticTypes := #[]
  resolved := Array.replicate 154 none
  statics := none }

def pool18 : Array CpInfo := pool [(2, .class_ 4), (1, u "java/util/Map"), (31, .class_ 37), (0, u "java/util/Map$Entry"), (55, .class_ 94), (0, u "java/lang/Object")] 168

/-- java/util/Map -/
def k18 : Class := { plain "java/util/Map" (some 0) with
  accessFlags := 1537
  interfaces := #[]
  cf := some (fileOf pool18 2 #[.nestMembers #[36]] #[] 1537 93 #[] #[])
  fields := #[]
  methods := #[]
  instanceTypes := #[]
  staticTypes := #[]
  resolved := Array.replicate 263 none
  statics := none }

def pool19 : Array CpInfo := pool [(1, .methodref 2 3), (0, .class_ 4), (0, .nameAndType 5 6), (0, u "java/lang/Object"), (0, u "<init>"), (0, u "()V"), (1, .class_ 10), (1, u "java/util/AbstractMap"), (42, .class_ 54), (0, u "java/util/Map"), (9, u "keySet"), (0, u "Ljava/util/Set;"), (0, .class_ 67), (0, u "java/util/AbstractMap$1"), (5, u "values"), (0, u "Ljava/util/Collection;"), (0, .class_ 76), (0, u "java/util/AbstractMap$2"), (104, .class_ 182), (0, u "java/util/AbstractMap$ViewCollection"), (0, .class_ 184), (0, u "java/util/AbstractMap$SimpleImmutableEntry"), (0, .class_ 186), (0, u "java/util/AbstractMap$SimpleEntry"), (0, .class_ 188), (0, u "java/util/AbstractMap$2$1"), (0, .class_ 190), (0, u "java/util/AbstractMap$1$1")] 5

def k19c0 : Code := { maxStack := 1, maxLocals := 1, code := jdk_71_method_1_code, exceptionTable := #[], attributes := #[] }
def k19m0 : Method := { name := "<init>", desc := "()V", sig := { parameters := [], returnType := none }, accessFlags := 4, code := some k19c0 }
/-- java/util/AbstractMap -/
def k19 : Class := { plain "java/util/AbstractMap" (some 0) with
  accessFlags := 1057
  interfaces := #[18]
  cf := some (fileOf pool19 8 #[.nestMembers #[181, 183, 185, 75, 187, 66, 189]] #[{ accessFlags := 4, nameIndex := 5, descriptorIndex := 6, attributes := #[] }] 1057 2 #[53] #[{ accessFlags := 128, nameIndex := 64, descriptorIndex := 65, attributes := #[] }, { accessFlags := 128, nameIndex := 73, descriptorIndex := 74, attributes := #[] }])
  fields := #[{ name := "keySet", type := (.object "java/util/Set"), accessFlags := 128, slot := 0, constantValue := 0 }, { name := "values", type := (.object "java/util/Collection"), accessFlags := 128, slot := 1, constantValue := 0 }]
  methods := #[k19m0]
  instanceTypes := #[(.object "java/util/Set"), (.object "java/util/Collection")]
  staticTypes := #[]
  resolved := Array.replicate 196 none
  statics := none }

def pool20 : Array CpInfo := pool [(40, .class_ 41), (0, u "java/util/HashMap"), (1, .methodref 44 45), (0, .class_ 46), (0, .nameAndType 47 48), (0, u "java/util/AbstractMap"), (0, u "<init>"), (0, u "()V"), (32, .fieldref 40 82), (0, .nameAndType 83 84), (0, u "loadFactor"), (0, u "F"), (5, u "threshold"), (0, u "I"), (0, .float 1061158912), (8, .class_ 103), (1, u "java/util/Map"), (0, u "size"), (2, u "table"), (0, u "[Ljava/util/HashMap$Node;"), (14, u "entrySet"), (39, .class_ 165), (1, u "java/util/HashMap$Node"), (14, .class_ 181), (0, u "java/util/HashMap$TreeNode"), (22, u "modCount"), (37, u "Ljava/util/Set;"), (0, .class_ 244), (0, u "java/util/HashMap$KeySet"), (18, .class_ 264), (0, u "java/util/HashMap$Values"), (3, .class_ 269), (0, u "java/util/HashMap$EntrySet"), (76, .class_ 348), (1, u "java/util/HashMap$UnsafeHolder"), (43, .class_ 393), (0, u "java/lang/Cloneable"), (0, .class_ 395), (0, u "java/io/Serializable"), (0, u "serialVersionUID"), (0, u "J"), (3, u "DEFAULT_INITIAL_CAPACITY"), (1, u "MAXIMUM_CAPACITY"), (0, u "DEFAULT_LOAD_FACTOR"), (0, u "TREEIFY_THRESHOLD"), (1, u "UNTREEIFY_THRESHOLD"), (1, u "MIN_TREEIFY_CAPACITY"), (186, .class_ 597), (0, u "java/util/HashMap$EntrySpliterator"), (0, .class_ 599), (0, u "java/util/HashMap$ValueSpliterator"), (0, .class_ 601), (0, u "java/util/HashMap$KeySpliterator"), (0, .class_ 603), (0, u "java/util/HashMap$HashMapSpliterator"), (0, .class_ 605), (0, u "java/util/HashMap$EntryIterator"), (0, .class_ 607), (0, u "java/util/HashMap$ValueIterator"), (0, .class_ 609), (0, u "java/util/HashMap$KeyIterator"), (0, .class_ 611), (0, u "java/util/HashMap$HashIterator")] 17

def k20c0 : Code := { maxStack := 2, maxLocals := 1, code := jdk_69_method_7_code, exceptionTable := #[], attributes := #[] }
def k20m0 : Method := { name := "<init>", desc := "()V", sig := { parameters := [], returnType := none }, accessFlags := 1, code := some k20c0 }
/-- java/util/HashMap -/
def k20 : Class := { plain "java/util/HashMap" (some 19) with
  accessFlags := 33
  interfaces := #[18, 15, 2]
  cf := some (fileOf pool20 40 #[.nestMembers #[180, 596, 598, 600, 602, 604, 606, 608, 610, 346, 268, 263, 243, 163]] #[{ accessFlags := 1, nameIndex := 47, descriptorIndex := 48, attributes := #[] }] 33 44 #[101, 392, 394] #[{ accessFlags := 26, nameIndex := 396, descriptorIndex := 397, attributes := #[] }, { accessFlags := 24, nameIndex := 401, descriptorIndex := 91, attributes := #[] }, { accessFlags := 24, nameIndex := 403, descriptorIndex := 91, attributes := #[] }, { accessFlags := 24, nameIndex := 404, descriptorIndex := 84, attributes := #[] }, { accessFlags := 24, nameIndex := 405, descriptorIndex := 91, attributes := #[] }, { accessFlags := 24, nameIndex := 407, descriptorIndex := 91, attributes := #[] }, { accessFlags := 24, nameIndex := 409, descriptorIndex := 91, attributes := #[] }, { accessFlags := 128, nameIndex := 107, descriptorIndex := 108, attributes := #[] }, { accessFlags := 128, nameIndex := 123, descriptorIndex := 242, attributes := #[] }, { accessFlags := 128, nameIndex := 104, descriptorIndex := 91, attributes := #[] }, { accessFlags := 128, nameIndex := 204, descriptorIndex := 91, attributes := #[] }, { accessFlags := 0, nameIndex := 90, descriptorIndex := 91, attributes := #[] }, { accessFlags := 16, nameIndex := 83, descriptorIndex := 84, attributes := #[] }])
  fields := #[{ name := "serialVersionUID", type := .long, accessFlags := 26, slot := 0, constantValue := 0 }, { name := "DEFAULT_INITIAL_CAPACITY", type := .int, accessFlags := 24, slot := 1, constantValue := 0 }, { name := "MAXIMUM_CAPACITY", type := .int, accessFlags := 24, slot := 2, constantValue := 0 }, { name := "DEFAULT_LOAD_FACTOR", type := .float, accessFlags := 24, slot := 3, constantValue := 0 }, { name := "TREEIFY_THRESHOLD", type := .int, accessFlags := 24, slot := 4, constantValue := 0 }, { name := "UNTREEIFY_THRESHOLD", type := .int, accessFlags := 24, slot := 5, constantValue := 0 }, { name := "MIN_TREEIFY_CAPACITY", type := .int, accessFlags := 24, slot := 6, constantValue := 0 }, { name := "table", type := (.array (.object "java/util/HashMap$Node")), accessFlags := 128, slot := 2, constantValue := 0 }, { name := "entrySet", type := (.object "java/util/Set"), accessFlags := 128, slot := 3, constantValue := 0 }, { name := "size", type := .int, accessFlags := 128, slot := 4, constantValue := 0 }, { name := "modCount", type := .int, accessFlags := 128, slot := 5, constantValue := 0 }, { name := "threshold", type := .int, accessFlags := 0, slot := 6, constantValue := 0 }, { name := "loadFactor", type := .float, accessFlags := 16, slot := 7, constantValue := 0 }]
  methods := #[k20m0]
  instanceTypes := #[(.object "java/util/Set"), (.object "java/util/Collection"), (.array (.object "java/util/HashMap$Node")), (.object "java/util/Set"), .int, .int, .int, .float]
  staticTypes := #[.long, .int, .int, .float, .int, .int, .int]
  resolved := Array.replicate 629 none
  statics := none }

def pool21 : Array CpInfo := pool [(26, .class_ 27), (0, u "java/lang/Object"), (5, .class_ 34), (0, u "java/util/Set"), (1, .class_ 38), (1, u "java/util/Collection")] 105

/-- java/util/Set -/
def k21 : Class := { plain "java/util/Set" (some 0) with
  accessFlags := 1537
  interfaces := #[9]
  cf := some (fileOf pool21 33 #[] #[] 1537 26 #[36] #[])
  fields := #[]
  methods := #[]
  instanceTypes := #[]
  staticTypes := #[]
  resolved := Array.replicate 144 none
  statics := none }

def pool22 : Array CpInfo := pool [(1, .methodref 2 3), (0, .class_ 4), (0, .nameAndType 5 6), (0, u "java/util/AbstractCollection"), (0, u "<init>"), (0, u "()V"), (0, .class_ 8), (0, u "java/util/Set"), (7, .class_ 17), (0, u "java/util/AbstractSet")] 78

def k22c0 : Code := { maxStack := 1, maxLocals := 1, code := jdk_91_method_1_code, exceptionTable := #[], attributes := #[] }
def k22m0 : Method := { name := "<init>", desc := "()V", sig := { parameters := [], returnType := none }, accessFlags := 4, code := some k22c0 }
/-- java/util/AbstractSet -/
def k22 : Class := { plain "java/util/AbstractSet" (some 10) with
  accessFlags := 1057
  interfaces := #[21]
  cf := some (fileOf pool22 16 #[] #[{ accessFlags := 4, nameIndex := 5, descriptorIndex := 6, attributes := #[] }] 1057 2 #[7] #[])
  fields := #[]
  methods := #[k22m0]
  instanceTypes := #[]
  staticTypes := #[]
  resolved := Array.replicate 96 none
  statics := none }

def pool23 : Array CpInfo := pool [(1, .methodref 2 3), (0, .class_ 4), (0, .nameAndType 5 6), (0, u "java/util/AbstractSet"), (0, u "<init>"), (0, u "()V"), (0, .class_ 8), (0, u "java/util/HashMap"), (0, .methodref 7 3), (0, .fieldref 11 12), (0, .class_ 13), (0, .nameAndType 14 15), (0, u "java/util/HashSet"), (0, u "map"), (0, u "Ljava/util/HashMap;"), (34, .class_ 52), (1, u "java/util/Set"), (13, u "PRESENT"), (0, u "Ljava/lang/Object;"), (158, .class_ 227), (0, u "java/lang/Cloneable"), (0, .class_ 229), (0, u "java/io/Serializable"), (0, u "serialVersionUID"), (0, u "J")] 71

def k23c0 : Code := { maxStack := 3, maxLocals := 1, code := jdk_93_method_1_code, exceptionTable := #[], attributes := #[] }
def k23m0 : Method := { name := "<init>", desc := "()V", sig := { parameters := [], returnType := none }, accessFlags := 1, code := some k23c0 }
/-- java/util/HashSet -/
def k23 : Class := { plain "java/util/HashSet" (some 22) with
  accessFlags := 33
  interfaces := #[21, 15, 2]
  cf := some (fileOf pool23 11 #[] #[{ accessFlags := 1, nameIndex := 5, descriptorIndex := 6, attributes := #[] }] 33 2 #[50, 226, 228] #[{ accessFlags := 24, nameIndex := 230, descriptorIndex := 231, attributes := #[] }, { accessFlags := 128, nameIndex := 14, descriptorIndex := 15, attributes := #[] }, { accessFlags := 24, nameIndex := 66, descriptorIndex := 67, attributes := #[] }])
  fields := #[{ name := "serialVersionUID", type := .long, accessFlags := 24, slot := 0, constantValue := 0 }, { name := "map", type := (.object "java/util/HashMap"), accessFlags := 128, slot := 0, constantValue := 0 }, { name := "PRESENT", type := (.object "java/lang/Object"), accessFlags := 24, slot := 1, constantValue := 0 }]
  methods := #[k23m0]
  instanceTypes := #[(.object "java/util/HashMap")]
  staticTypes := #[.long, (.object "java/lang/Object")]
  resolved := Array.replicate 303 none
  statics := none }

def pool24 : Array CpInfo := pool [(1, .class_ 2), (0, u "java/lang/Math"), (1, .class_ 6), (1, u "java/lang/Object"), (0, u "<init>"), (0, u "()V"), (89, .class_ 100), (1, u "java/lang/Math$RandomNumberGeneratorHolder"), (71, u "negativeZeroFloatBits"), (0, u "J"), (2, u "negativeZeroDoubleBits"), (21, u "max"), (46, u "$assertionsDisabled"), (0, u "Z"), (88, u "(II)I"), (2, u "twoToTheDoubleScaleDown"), (0, u "D"), (4, u "twoToTheDoubleScaleUp"), (9, u "E"), (3, u "PI"), (2, u "TAU"), (2, u "DEGREES_TO_RADIANS"), (0, u "RADIANS_TO_DEGREES")] 94

def k24m0 : Method := { name := "<init>", desc := "()V", sig := { parameters := [], returnType := none }, accessFlags := 2, code := none }
def k24c1 : Code := { maxStack := 2, maxLocals := 2, code := jdk_29_method_65_code, exceptionTable := #[], attributes := #[] }
def k24m1 : Method := { name := "max", desc := "(II)I", sig := { parameters := [.int, .int], returnType := some .int }, accessFlags := 9, code := some k24c1 }
/-- java/lang/Math -/
def k24 : Class := { plain "java/lang/Math" (some 0) with
  accessFlags := 49
  interfaces := #[]
  cf := some (fileOf pool24 1 #[.nestMembers #[98]] #[{ accessFlags := 2, nameIndex := 7, descriptorIndex := 8, attributes := #[] }, { accessFlags := 9, nameIndex := 198, descriptorIndex := 335, attributes := #[] }] 49 4 #[] #[{ accessFlags := 25, nameIndex := 354, descriptorIndex := 339, attributes := #[] }, { accessFlags := 25, nameIndex := 358, descriptorIndex := 339, attributes := #[] }, { accessFlags := 25, nameIndex := 361, descriptorIndex := 339, attributes := #[] }, { accessFlags := 26, nameIndex := 364, descriptorIndex := 339, attributes := #[] }, { accessFlags := 26, nameIndex := 365, descriptorIndex := 339, attributes := #[] }, { accessFlags := 26, nameIndex := 172, descriptorIndex := 173, attributes := #[] }, { accessFlags := 26, nameIndex := 176, descriptorIndex := 173, attributes := #[] }, { accessFlags := 8, nameIndex := 344, descriptorIndex := 339, attributes := #[] }, { accessFlags := 8, nameIndex := 338, descriptorIndex := 339, attributes := #[] }, { accessFlags := 4120, nameIndex := 245, descriptorIndex := 246, attributes := #[] }])
  fields := #[{ name := "E", type := .double, accessFlags := 25, slot := 0, constantValue := 0 }, { name := "PI", type := .double, accessFlags := 25, slot := 1, constantValue := 0 }, { name := "TAU", type := .double, accessFlags := 25, slot := 2, constantValue := 0 }, { name := "DEGREES_TO_RADIANS", type := .double, accessFlags := 26, slot := 3, constantValue := 0 }, { name := "RADIANS_TO_DEGREES", type := .double, accessFlags := 26, slot := 4, constantValue := 0 }, { name := "negativeZeroFloatBits", type := .long, accessFlags := 26, slot := 5, constantValue := 0 }, { name := "negativeZeroDoubleBits", type := .long, accessFlags := 26, slot := 6, constantValue := 0 }, { name := "twoToTheDoubleScaleUp", type := .double, accessFlags := 8, slot := 7, constantValue := 0 }, { name := "twoToTheDoubleScaleDown", type := .double, accessFlags := 8, slot := 8, constantValue := 0 }, { name := "$assertionsDisabled", type := .boolean, accessFlags := 4120, slot := 9, constantValue := 0 }]
  methods := #[k24m0, k24m1]
  instanceTypes := #[]
  staticTypes := #[.double, .double, .double, .double, .double, .long, .long, .double, .double, .boolean]
  resolved := Array.replicate 460 none
  statics := none }

def pool25 : Array CpInfo := pool [(2, .class_ 4), (1, u "java/lang/Object"), (0, u "<init>"), (0, u "()V"), (35, .class_ 44), (1, u "java/util/Objects"), (60, .methodref 106 107), (0, .class_ 108), (0, .nameAndType 109 110), (0, u "jdk/internal/util/Preconditions"), (0, u "checkIndex"), (0, u "(IILjava/util/function/BiFunction;)I"), (60, u "(II)I")] 12

def k25m0 : Method := { name := "<init>", desc := "()V", sig := { parameters := [], returnType := none }, accessFlags := 2, code := none }
def k25c1 : Code := { maxStack := 3, maxLocals := 2, code := jdk_31_method_17_code, exceptionTable := #[], attributes := #[] }
def k25m1 : Method := { name := "checkIndex", desc := "(II)I", sig := { parameters := [.int, .int], returnType := some .int }, accessFlags := 9, code := some k25c1 }
/-- java/util/Objects -/
def k25 : Class := { plain "java/util/Objects" (some 0) with
  accessFlags := 49
  interfaces := #[]
  cf := some (fileOf pool25 42 #[] #[{ accessFlags := 2, nameIndex := 5, descriptorIndex := 6, attributes := #[] }, { accessFlags := 9, nameIndex := 109, descriptorIndex := 171, attributes := #[] }] 49 2 #[] #[])
  fields := #[]
  methods := #[k25m0, k25m1]
  instanceTypes := #[]
  staticTypes := #[]
  resolved := Array.replicate 184 none
  statics := none }

def pool26 : Array CpInfo := pool [(2, .class_ 4), (1, u "java/lang/Object"), (0, u "<init>"), (0, u "()V"), (17, .class_ 26), (1, u "jdk/internal/util/Preconditions"), (6, u "checkIndex"), (21, .class_ 56), (0, u "jdk/internal/util/Preconditions$4"), (57, .class_ 115), (0, u "jdk/internal/util/Preconditions$1"), (7, u "SIOOBE_FORMATTER"), (0, u "Ljava/util/function/BiFunction;"), (0, .class_ 126), (0, u "jdk/internal/util/Preconditions$2"), (3, u "AIOOBE_FORMATTER"), (0, .class_ 132), (0, u "jdk/internal/util/Preconditions$3"), (3, u "IOOBE_FORMATTER"), (41, u "(IILjava/util/function/BiFunction;)I")] 15

def k26m0 : Method := { name := "<init>", desc := "()V", sig := { parameters := [], returnType := none }, accessFlags := 1, code := none }
def k26c1 : Code := { maxStack := 3, maxLocals := 3, code := jdk_41_method_11_code, exceptionTable := #[], attributes := #[] }
def k26m1 : Method := { name := "checkIndex", desc := "(IILjava/util/function/BiFunction;)I", sig := { parameters := [.int, .int, (.object "java/util/function/BiFunction")], returnType := some .int }, accessFlags := 9, code := some k26c1 }
/-- jdk/internal/util/Preconditions -/
def k26 : Class := { plain "jdk/internal/util/Preconditions" (some 0) with
  accessFlags := 33
  interfaces := #[]
  cf := some (fileOf pool26 24 #[.nestMembers #[55, 131, 125, 114]] #[{ accessFlags := 1, nameIndex := 5, descriptorIndex := 6, attributes := #[] }, { accessFlags := 9, nameIndex := 33, descriptorIndex := 178, attributes := #[] }] 33 2 #[] #[{ accessFlags := 25, nameIndex := 123, descriptorIndex := 124, attributes := #[] }, { accessFlags := 25, nameIndex := 130, descriptorIndex := 124, attributes := #[] }, { accessFlags := 25, nameIndex := 136, descriptorIndex := 124, attributes := #[] }])
  fields := #[{ name := "SIOOBE_FORMATTER", type := (.object "java/util/function/BiFunction"), accessFlags := 25, slot := 0, constantValue := 0 }, { name := "AIOOBE_FORMATTER", type := (.object "java/util/function/BiFunction"), accessFlags := 25, slot := 1, constantValue := 0 }, { name := "IOOBE_FORMATTER", type := (.object "java/util/function/BiFunction"), accessFlags := 25, slot := 2, constantValue := 0 }]
  methods := #[k26m0, k26m1]
  instanceTypes := #[]
  staticTypes := #[(.object "java/util/function/BiFunction"), (.object "java/util/function/BiFunction"), (.object "java/util/function/BiFunction")]
  resolved := Array.replicate 194 none
  statics := some 2 }

def pool27 : Array CpInfo := pool [(4, .class_ 6), (1, u "java/lang/Object"), (0, u "<init>"), (0, u "()V"), (5, .class_ 16), (1, u "java/lang/StringLatin1"), (73, u "canEncode"), (14, u "(C)Z"), (15, u "$assertionsDisabled"), (0, u "Z"), (98, .class_ 223), (1, u "java/lang/StringLatin1$LinesSpliterator"), (156, u "toBytes"), (1, u "(C)[B"), (7, .class_ 391), (0, u "java/lang/StringLatin1$CharsSpliterator")] 3

def k27m0 : Method := { name := "<init>", desc := "()V", sig := { parameters := [], returnType := none }, accessFlags := 0, code := none }
def k27c1 : Code := { maxStack := 2, maxLocals := 1, code := jdk_43_method_3_code, exceptionTable := #[], attributes := #[] }
def k27m1 : Method := { name := "canEncode", desc := "(C)Z", sig := { parameters := [.char], returnType := some .boolean }, accessFlags := 9, code := some k27c1 }
def k27c2 : Code := { maxStack := 4, maxLocals := 1, code := jdk_43_method_46_code, exceptionTable := #[], attributes := #[] }
def k27m2 : Method := { name := "toBytes", desc := "(C)[B", sig := { parameters := [.char], returnType := some (.array .byte) }, accessFlags := 9, code := some k27c2 }
/-- java/lang/StringLatin1 -/
def k27 : Class := { plain "java/lang/StringLatin1" (some 0) with
  accessFlags := 48
  interfaces := #[]
  cf := some (fileOf pool27 14 #[.nestMembers #[390, 221]] #[{ accessFlags := 0, nameIndex := 7, descriptorIndex := 8, attributes := #[] }, { accessFlags := 9, nameIndex := 90, descriptorIndex := 105, attributes := #[] }, { accessFlags := 9, nameIndex := 380, descriptorIndex := 382, attributes := #[] }] 48 4 #[] #[{ accessFlags := 4120, nameIndex := 121, descriptorIndex := 122, attributes := #[] }])
  fields := #[{ name := "$assertionsDisabled", type := .boolean, accessFlags := 4120, slot := 0, constantValue := 0 }]
  methods := #[k27m0, k27m1, k27m2]
  instanceTypes := #[]
  staticTypes := #[.boolean]
  resolved := Array.replicate 395 none
  statics := none }

def pool28 : Array CpInfo := pool [(6, .class_ 8), (1, u "java/lang/Object"), (0, u "<init>"), (0, u "()V"), (1, .class_ 14), (1, u "java/lang/StringUTF16"), (31, u "$assertionsDisabled"), (0, u "Z"), (13, u "HI_BYTE_SHIFT"), (0, u "I"), (2, u "LO_BYTE_SHIFT"), (49, .methodref 12 116), (0, .nameAndType 117 118), (0, u "compress"), (0, u "([CI[BII)I"), (3, u "([CII)[B"), (138, u "coderFromArrayLen"), (0, u "([BI)B"), (106, .class_ 371), (1, u "java/lang/StringUTF16$LinesSpliterator"), (58, u "MAX_LENGTH"), (196, .class_ 628), (0, u "java/lang/StringUTF16$CodePointsSpliterator"), (0, .class_ 630), (0, u "java/lang/StringUTF16$CharsSpliterator")] 4

def k28m0 : Method := { name := "<init>", desc := "()V", sig := { parameters := [], returnType := none }, accessFlags := 0, code := none }
def k28c1 : Code := { maxStack := 2, maxLocals := 2, code := jdk_52_method_15_code, exceptionTable := #[], attributes := #[] }
def k28m1 : Method := { name := "coderFromArrayLen", desc := "([BI)B", sig := { parameters := [(.array .byte), .int], returnType := some .byte }, accessFlags := 8, code := some k28c1 }
def k28c2 : Code := { maxStack := 5, maxLocals := 6, code := jdk_52_method_16_code, exceptionTable := #[], attributes := #[] }
def k28m2 : Method := { name := "compress", desc := "([CII)[B", sig := { parameters := [(.array .char), .int, .int], returnType := some (.array .byte) }, accessFlags := 9, code := some k28c2 }
def k28c3 : Code := { maxStack := 3, maxLocals := 7, code := jdk_52_method_21_code, exceptionTable := #[], attributes := #[] }
def k28m3 : Method := { name := "compress", desc := "([CI[BII)I", sig := { parameters := [(.array .char), .int, (.array .byte), .int, .int], returnType := some .int }, accessFlags := 9, code := some k28c3 }
/-- java/lang/StringUTF16 -/
def k28 : Class := { plain "java/lang/StringUTF16" (some 0) with
  accessFlags := 48
  interfaces := #[]
  cf := some (fileOf pool28 12 #[.nestMembers #[627, 629, 369]] #[{ accessFlags := 0, nameIndex := 9, descriptorIndex := 10, attributes := #[] }, { accessFlags := 8, nameIndex := 261, descriptorIndex := 262, attributes := #[] }, { accessFlags := 9, nameIndex := 117, descriptorIndex := 122, attributes := #[] }, { accessFlags := 9, nameIndex := 117, descriptorIndex := 118, attributes := #[] }] 48 6 #[] #[{ accessFlags := 26, nameIndex := 61, descriptorIndex := 62, attributes := #[] }, { accessFlags := 26, nameIndex := 65, descriptorIndex := 62, attributes := #[] }, { accessFlags := 24, nameIndex := 430, descriptorIndex := 62, attributes := #[] }, { accessFlags := 4120, nameIndex := 46, descriptorIndex := 47, attributes := #[] }])
  fields := #[{ name := "HI_BYTE_SHIFT", type := .int, accessFlags := 26, slot := 0, constantValue := 0 }, { name := "LO_BYTE_SHIFT", type := .int, accessFlags := 26, slot := 1, constantValue := 0 }, { name := "MAX_LENGTH", type := .int, accessFlags := 24, slot := 2, constantValue := 0 }, { name := "$assertionsDisabled", type := .boolean, accessFlags := 4120, slot := 3, constantValue := 0 }]
  methods := #[k28m0, k28m1, k28m2, k28m3]
  instanceTypes := #[]
  staticTypes := #[.int, .int, .int, .boolean]
  resolved := Array.replicate 635 none
  statics := none }

def pool29 : Array CpInfo := pool [(9, u "<init>"), (6, .class_ 18), (1, u "java/lang/Object"), (0, u "()V"), (1, .class_ 23), (1, u "jdk/internal/util/ArraysSupport"), (0, u "LOG2_ARRAY_LONG_INDEX_SCALE"), (0, u "I"), (2, u "U"), (0, u "Ljdk/internal/misc/Unsafe;"), (8, u "BIG_ENDIAN"), (0, u "Z"), (8, u "LOG2_BYTE_BIT_SIZE"), (4, u "LOG2_ARRAY_INT_INDEX_SCALE"), (54, u "JLA"), (0, u "Ljdk/internal/access/JavaLangAccess;"), (11, u "LOG2_ARRAY_BOOLEAN_INDEX_SCALE"), (9, u "LOG2_ARRAY_BYTE_INDEX_SCALE"), (5, u "LOG2_ARRAY_CHAR_INDEX_SCALE"), (5, u "LOG2_ARRAY_SHORT_INDEX_SCALE"), (5, u "mismatch"), (12, u "LOG2_ARRAY_FLOAT_INDEX_SCALE"), (24, u "LOG2_ARRAY_DOUBLE_INDEX_SCALE"), (89, u "T_BOOLEAN"), (2, u "T_CHAR"), (1, u "T_FLOAT"), (1, u "T_DOUBLE"), (1, u "T_BYTE"), (1, u "T_SHORT"), (1, u "T_INT"), (1, u "T_LONG"), (1, u "SOFT_MAX_ARRAY_LENGTH"), (42, u "([BI[BII)I")] 40

def k29m0 : Method := { name := "<init>", desc := "()V", sig := { parameters := [], returnType := none }, accessFlags := 2, code := none }
def k29c1 : Code := { maxStack := 8, maxLocals := 8, code := jdk_48_method_14_code, exceptionTable := #[], attributes := #[] }
def k29m1 : Method := { name := "mismatch", desc := "([BI[BII)I", sig := { parameters := [(.array .byte), .int, (.array .byte), .int, .int], returnType := some .int }, accessFlags := 9, code := some k29c1 }
/-- jdk/internal/util/ArraysSupport -/
def k29 : Class := { plain "jdk/internal/util/ArraysSupport" (some 0) with
  accessFlags := 33
  interfaces := #[]
  cf := some (fileOf pool29 21 #[] #[{ accessFlags := 2, nameIndex := 9, descriptorIndex := 19, attributes := #[] }, { accessFlags := 9, nameIndex := 149, descriptorIndex := 337, attributes := #[] }] 33 16 #[] #[{ accessFlags := 24, nameIndex := 28, descriptorIndex := 29, attributes := #[] }, { accessFlags := 26, nameIndex := 38, descriptorIndex := 39, attributes := #[] }, { accessFlags := 25, nameIndex := 121, descriptorIndex := 25, attributes := #[] }, { accessFlags := 25, nameIndex := 131, descriptorIndex := 25, attributes := #[] }, { accessFlags := 25, nameIndex := 137, descriptorIndex := 25, attributes := #[] }, { accessFlags := 25, nameIndex := 143, descriptorIndex := 25, attributes := #[] }, { accessFlags := 25, nameIndex := 53, descriptorIndex := 25, attributes := #[] }, { accessFlags := 25, nameIndex := 24, descriptorIndex := 25, attributes := #[] }, { accessFlags := 25, nameIndex := 162, descriptorIndex := 25, attributes := #[] }, { accessFlags := 25, nameIndex := 187, descriptorIndex := 25, attributes := #[] }, { accessFlags := 26, nameIndex := 48, descriptorIndex := 25, attributes := #[] }, { accessFlags := 25, nameIndex := 277, descriptorIndex := 25, attributes := #[] }, { accessFlags := 25, nameIndex := 280, descriptorIndex := 25, attributes := #[] }, { accessFlags := 25, nameIndex := 282, descriptorIndex := 25, attributes := #[] }, { accessFlags := 25, nameIndex := 284, descriptorIndex := 25, attributes := #[] }, { accessFlags := 25, nameIndex := 286, descriptorIndex := 25, attributes := #[] }, { accessFlags := 25, nameIndex := 288, descriptorIndex := 25, attributes := #[] }, { accessFlags := 25, nameIndex := 290, descriptorIndex := 25, attributes := #[] }, { accessFlags := 25, nameIndex := 292, descriptorIndex := 25, attributes := #[] }, { accessFlags := 26, nameIndex := 108, descriptorIndex := 109, attributes := #[] }, { accessFlags := 25, nameIndex := 294, descriptorIndex := 25, attributes := #[] }])
  fields := #[{ name := "U", type := (.object "jdk/internal/misc/Unsafe"), accessFlags := 24, slot := 0, constantValue := 0 }, { name := "BIG_ENDIAN", type := .boolean, accessFlags := 26, slot := 1, constantValue := 0 }, { name := "LOG2_ARRAY_BOOLEAN_INDEX_SCALE", type := .int, accessFlags := 25, slot := 2, constantValue := 0 }, { name := "LOG2_ARRAY_BYTE_INDEX_SCALE", type := .int, accessFlags := 25, slot := 3, constantValue := 0 }, { name := "LOG2_ARRAY_CHAR_INDEX_SCALE", type := .int, accessFlags := 25, slot := 4, constantValue := 0 }, { name := "LOG2_ARRAY_SHORT_INDEX_SCALE", type := .int, accessFlags := 25, slot := 5, constantValue := 0 }, { name := "LOG2_ARRAY_INT_INDEX_SCALE", type := .int, accessFlags := 25, slot := 6, constantValue := 0 }, { name := "LOG2_ARRAY_LONG_INDEX_SCALE", type := .int, accessFlags := 25, slot := 7, constantValue := 0 }, { name := "LOG2_ARRAY_FLOAT_INDEX_SCALE", type := .int, accessFlags := 25, slot := 8, constantValue := 0 }, { name := "LOG2_ARRAY_DOUBLE_INDEX_SCALE", type := .int, accessFlags := 25, slot := 9, constantValue := 0 }, { name := "LOG2_BYTE_BIT_SIZE", type := .int, accessFlags := 26, slot := 10, constantValue := 0 }, { name := "T_BOOLEAN", type := .int, accessFlags := 25, slot := 11, constantValue := 0 }, { name := "T_CHAR", type := .int, accessFlags := 25, slot := 12, constantValue := 0 }, { name := "T_FLOAT", type := .int, accessFlags := 25, slot := 13, constantValue := 0 }, { name := "T_DOUBLE", type := .int, accessFlags := 25, slot := 14, constantValue := 0 }, { name := "T_BYTE", type := .int, accessFlags := 25, slot := 15, constantValue := 0 }, { name := "T_SHORT", type := .int, accessFlags := 25, slot := 16, constantValue := 0 }, { name := "T_INT", type := .int, accessFlags := 25, slot := 17, constantValue := 0 }, { name := "T_LONG", type := .int, accessFlags := 25, slot := 18, constantValue := 0 }, { name := "JLA", type := (.object "jdk/internal/access/JavaLangAccess"), accessFlags := 26, slot := 19, constantValue := 0 }, { name := "SOFT_MAX_ARRAY_LENGTH", type := .int, accessFlags := 25, slot := 20, constantValue := 0 }]
  methods := #[k29m0, k29m1]
  instanceTypes := #[]
  staticTypes := #[(.object "jdk/internal/misc/Unsafe"), .boolean, .int, .int, .int, .int, .int, .int, .int, .int, .int, .int, .int, .int, .int, .int, .int, .int, .int, (.object "jdk/internal/access/JavaLangAccess"), .int]
  resolved := Array.replicate 378 none
  statics := none }

/-- the primitive byte -/
def k30 : Class := { plain "byte" none with kind := .primitive 'B', accessFlags := 0x411 }
/-- [B -/
def k31 : Class := { plain "[B" (some 0) with kind := .array 30 .byte, interfaces := #[15, 2], accessFlags := 1041 }

/-- the primitive char -/
def k32 : Class := { plain "char" none with kind := .primitive 'C', accessFlags := 0x411 }
/-- [C -/
def k33 : Class := { plain "[C" (some 0) with kind := .array 32 .char, interfaces := #[15, 2], accessFlags := 1041 }

/-- the primitive int -/
def k34 : Class := { plain "int" none with kind := .primitive 'I', accessFlags := 0x411 }
/-- [I -/
def k35 : Class := { plain "[I" (some 0) with kind := .array 34 .int, interfaces := #[15, 2], accessFlags := 1041 }

/-- [Ljava/lang/Object; -/
def k36 : Class := { plain "[Ljava/lang/Object;" (some 0) with kind := .array 0 (.object "java/lang/Object"), interfaces := #[15, 2], accessFlags := 1041 }

/-- [Ljava/lang/String; -/
def k37 : Class := { plain "[Ljava/lang/String;" (some 0) with kind := .array 7 (.object "java/lang/String"), interfaces := #[15, 2], accessFlags := 1041 }

def heap : Heap := #[{ cls := 7, slots := #[.long 0, .int 1, .null, .int 0, .null, .int 0, .int 0], vm := .statics 7 },
  { cls := 16, slots := #[.long 0, .int 0, .ref 3, .ref 4], vm := .statics 16 },
  { cls := 26, slots := #[.null, .null, .null], vm := .statics 26 },
  { cls := 36, slots := #[], vm := .none },
  { cls := 36, slots := #[], vm := .none }]
def classes : Array Class := #[k0, k1, k2, k3, k4, k5, k6, k7, k8, k9, k10, k11, k12, k13, k14, k15, k16, k17, k18, k19, k20, k21, k22, k23, k24, k25, k26, k27, k28, k29, k30, k31, k32, k33, k34, k35, k36, k37]
def interned : List (Array UInt16 × Addr) := []
def slotsUsed : Nat := 14
def theMethod : MethodId := ⟨1, 3⟩
def args0 : Array Value := #[.int 5, .int 5, .int 5, .int 5]
def aboutOver (below : List Frame) : State where
  vm := { classes := classes, interned := interned.toArray }
  heap := heap
  slotsUsed := slotsUsed
  threads := #[{ frames := .invoking theMethod args0 :: below }]
def below0 : List Frame := [.native { method := ⟨0, 0⟩, args := #[] }]
def about1 : State := aboutOver below0
def p0 : Program := .bare "" "" ""
def e0 : Env := launch0.env 0 0 0
theorem w_frames : about1.frames = Frame.invoking theMethod args0 :: below0 := rfl
set_option maxRecDepth 65536 in
theorem w_args : argsFit about1.vm theMethod args0 = true := by decide +kernel
set_option maxRecDepth 65536 in
theorem w_heap : heapFits about1 = true := by decide +kernel
set_option maxRecDepth 65536 in
theorem w_runnable : about1.curStatus? = some .runnable := by decide +kernel
set_option maxRecDepth 65536 in
theorem w_alone : about1.alone = true := by decide +kernel
set_option maxRecDepth 65536 in
theorem w_named : about1.methodNamed? x = some theMethod := by decide +kernel
set_option maxRecDepth 65536 in
theorem w_hears : about1.hears theMethod below0 = true := by decide +kernel
set_option maxRecDepth 65536 in
theorem w_ripe : about1.ripe theMethod args0 below0 = true := by decide +kernel
theorem w_running : about1.status = .running := rfl
set_option maxRecDepth 65536 in
theorem w_room : about1.hasRoom e0.platform room_1 = true :=
  launch0.hasRoom_least _ room_1 (by decide +kernel) (by decide +kernel) (by decide +kernel) (by decide +kernel) (by decide +kernel) (by decide +kernel)
theorem allAtoms_all (ts : List Jvm.Cond) (a : Array Jvm.Value) (st : Jvm.State) : (allAtoms ts).before a st = ts.all (fun c => c.before a st) := by
  induction ts with
  | nil => rfl
  | cons c t ih =>
    show (Jvm.Cond.and c (allAtoms t)).before a st = _
    rw [Jvm.Cond.before_and, ih, List.all_cons]
def words1 : List Jvm.Cond := Jvm.Cond.code x code maxLocals ret :: tables_1
/-- a 'code' word, met by the world's own term for the bytes: nothing is compared byte by byte -/
theorem code_word {y : MethodName} {bytes : ByteArray} {mx : Nat} {rt : Option FieldType} {a : Array Value} {s : State} {m : MethodId} {meth : Method} {c : Code} (h1 : s.methodNamed? y = some m) (h2 : s.vm.method? m = some meth) (h3 : meth.code = some c) (h4 : c.code = bytes)
    (h5 : (c.maxLocals == mx && c.exceptionTable.isEmpty && decide (c.maxStack ≤ mostOperands) && decide (meth.sig.returnType = rt) && !meth.locks && decide (parseMethodDescriptor y.desc = some meth.sig)) = true) : (Jvm.Cond.code y bytes mx rt).before a s = true := by
  simp only [Bool.and_eq_true, beq_iff_eq, Bool.not_eq_true', decide_eq_true_eq] at h5
  obtain ⟨⟨⟨⟨⟨g1, g2⟩, g3⟩, g4⟩, g5⟩, g6⟩ := h5
  simp [Cond.before, Cond.holds, Cond.value, h1, h2, h3, h4, g1, g2, g3, g4, g5, g6]
def isCode : Jvm.Cond → Bool
  | .code _ _ _ _ => true
  | _ => false
theorem all_split {L : List Jvm.Cond} {P : Jvm.Cond → Bool} (h1 : L.all (fun c => isCode c || P c) = true) (h2 : ∀ c ∈ L.filter isCode, P c = true) : L.all P = true := by
  refine List.all_eq_true.mpr fun c hc => ?_
  have h := List.all_eq_true.mp h1 c hc
  rcases Bool.eq_false_or_eq_true (isCode c) with hi | hi
  · exact h2 c (List.mem_filter.mpr ⟨hc, hi⟩)
  · simpa [hi] using h
set_option maxRecDepth 65536 in
theorem w_c0 : (Jvm.Cond.code x code maxLocals ret).before args0 about1 = true := code_word (m := ⟨1, 3⟩) (meth := k1m3) (c := k1c3) (by decide +kernel) rfl rfl rfl (by decide +kernel)
set_option maxRecDepth 65536 in
theorem w_c1 : (Jvm.Cond.code ({ cls := "com/example/hataraki/hataraki/cli/OptionsOperandsPinLaw", name := "mk", desc := "(I)Ljava/lang/String;" } : Jvm.MethodName) method_2_code (4 : Nat) (Option.some (Jvm.ClassFile.FieldType.object "java/lang/String"))).before args0 about1 = true := code_word (m := ⟨1, 1⟩) (meth := k1m1) (c := k1c1) (by decide +kernel) rfl rfl rfl (by decide +kernel)
set_option maxRecDepth 65536 in
theorem w_c2 : (Jvm.Cond.code ({ cls := "java/lang/String", name := "<init>", desc := "([C)V" } : Jvm.MethodName) jdk_42_method_3_code (2 : Nat) (Option.none : Option Jvm.ClassFile.FieldType)).before args0 about1 = true := code_word (m := ⟨7, 1⟩) (meth := k7m1) (c := k7c1) (by decide +kernel) rfl rfl rfl (by decide +kernel)
set_option maxRecDepth 65536 in
theorem w_c3 : (Jvm.Cond.code ({ cls := "java/lang/String", name := "<init>", desc := "([CIILjava/lang/Void;)V" } : Jvm.MethodName) jdk_42_method_149_code (6 : Nat) (Option.none : Option Jvm.ClassFile.FieldType)).before args0 about1 = true := code_word (m := ⟨7, 7⟩) (meth := k7m7) (c := k7c7) (by decide +kernel) rfl rfl rfl (by decide +kernel)
set_option maxRecDepth 65536 in
theorem w_c4 : (Jvm.Cond.code ({ cls := "java/lang/Object", name := "<init>", desc := "()V" } : Jvm.MethodName) object_method_1_code (1 : Nat) (Option.none : Option Jvm.ClassFile.FieldType)).before args0 about1 = true := code_word (m := ⟨0, 0⟩) (meth := k0m0) (c := k0c0) (by decide +kernel) rfl rfl rfl (by decide +kernel)
set_option maxRecDepth 65536 in
theorem w_c5 : (Jvm.Cond.code ({ cls := "java/util/ArrayList", name := "<init>", desc := "()V" } : Jvm.MethodName) jdk_38_method_2_code (1 : Nat) (Option.none : Option Jvm.ClassFile.FieldType)).before args0 about1 = true := code_word (m := ⟨16, 0⟩) (meth := k16m0) (c := k16c0) (by decide +kernel) rfl rfl rfl (by decide +kernel)
set_option maxRecDepth 65536 in
theorem w_c6 : (Jvm.Cond.code ({ cls := "java/util/AbstractList", name := "<init>", desc := "()V" } : Jvm.MethodName) jdk_39_method_1_code (1 : Nat) (Option.none : Option Jvm.ClassFile.FieldType)).before args0 about1 = true := code_word (m := ⟨13, 0⟩) (meth := k13m0) (c := k13c0) (by decide +kernel) rfl rfl rfl (by decide +kernel)
set_option maxRecDepth 65536 in
theorem w_c7 : (Jvm.Cond.code ({ cls := "java/util/AbstractCollection", name := "<init>", desc := "()V" } : Jvm.MethodName) jdk_22_method_1_code (1 : Nat) (Option.none : Option Jvm.ClassFile.FieldType)).before args0 about1 = true := code_word (m := ⟨10, 0⟩) (meth := k10m0) (c := k10c0) (by decide +kernel) rfl rfl rfl (by decide +kernel)
set_option maxRecDepth 65536 in
theorem w_c8 : (Jvm.Cond.code ({ cls := "com/example/hataraki/hataraki/cli/Options", name := "<init>", desc := "(Ljava/util/List;Ljava/util/Set;Ljava/util/Set;)V" } : Jvm.MethodName) prog_9_method_1_code (7 : Nat) (Option.none : Option Jvm.ClassFile.FieldType)).before args0 about1 = true := code_word (m := ⟨17, 0⟩) (meth := k17m0) (c := k17c0) (by decide +kernel) rfl rfl rfl (by decide +kernel)
set_option maxRecDepth 65536 in
theorem w_c9 : (Jvm.Cond.code ({ cls := "java/util/HashMap", name := "<init>", desc := "()V" } : Jvm.MethodName) jdk_69_method_7_code (1 : Nat) (Option.none : Option Jvm.ClassFile.FieldType)).before args0 about1 = true := code_word (m := ⟨20, 0⟩) (meth := k20m0) (c := k20c0) (by decide +kernel) rfl rfl rfl (by decide +kernel)
set_option maxRecDepth 65536 in
theorem w_c10 : (Jvm.Cond.code ({ cls := "java/util/AbstractMap", name := "<init>", desc := "()V" } : Jvm.MethodName) jdk_71_method_1_code (1 : Nat) (Option.none : Option Jvm.ClassFile.FieldType)).before args0 about1 = true := code_word (m := ⟨19, 0⟩) (meth := k19m0) (c := k19c0) (by decide +kernel) rfl rfl rfl (by decide +kernel)
set_option maxRecDepth 65536 in
theorem w_c11 : (Jvm.Cond.code ({ cls := "java/util/HashSet", name := "<init>", desc := "()V" } : Jvm.MethodName) jdk_93_method_1_code (1 : Nat) (Option.none : Option Jvm.ClassFile.FieldType)).before args0 about1 = true := code_word (m := ⟨23, 0⟩) (meth := k23m0) (c := k23c0) (by decide +kernel) rfl rfl rfl (by decide +kernel)
set_option maxRecDepth 65536 in
theorem w_c12 : (Jvm.Cond.code ({ cls := "java/util/AbstractSet", name := "<init>", desc := "()V" } : Jvm.MethodName) jdk_91_method_1_code (1 : Nat) (Option.none : Option Jvm.ClassFile.FieldType)).before args0 about1 = true := code_word (m := ⟨22, 0⟩) (meth := k22m0) (c := k22c0) (by decide +kernel) rfl rfl rfl (by decide +kernel)
set_option maxRecDepth 65536 in
theorem w_c13 : (Jvm.Cond.code ({ cls := "java/util/ArrayList", name := "size", desc := "()I" } : Jvm.MethodName) jdk_38_method_8_code (1 : Nat) (Option.some Jvm.ClassFile.FieldType.int)).before args0 about1 = true := code_word (m := ⟨16, 3⟩) (meth := k16m3) (c := k16c3) (by decide +kernel) rfl rfl rfl (by decide +kernel)
set_option maxRecDepth 65536 in
theorem w_c14 : (Jvm.Cond.code ({ cls := "com/example/hataraki/hataraki/cli/Options", name := "operands", desc := "([Ljava/lang/String;)Ljava/util/List;" } : Jvm.MethodName) prog_9_method_5_code (2 : Nat) (Option.some (Jvm.ClassFile.FieldType.object "java/util/List"))).before args0 about1 = true := code_word (m := ⟨17, 1⟩) (meth := k17m1) (c := k17c1) (by decide +kernel) rfl rfl rfl (by decide +kernel)
set_option maxRecDepth 65536 in
theorem w_c15 : (Jvm.Cond.code ({ cls := "com/example/hataraki/hataraki/cli/OptionsOperandsPinLaw", name := "at", desc := "(Ljava/util/List;IILjava/lang/String;)Z" } : Jvm.MethodName) method_3_code (4 : Nat) (Option.some Jvm.ClassFile.FieldType.boolean)).before args0 about1 = true := code_word (m := ⟨1, 2⟩) (meth := k1m2) (c := k1c2) (by decide +kernel) rfl rfl rfl (by decide +kernel)
set_option maxRecDepth 65536 in
theorem w_c16 : (Jvm.Cond.code ({ cls := "java/util/ArrayList", name := "add", desc := "(Ljava/lang/Object;)Z" } : Jvm.MethodName) jdk_38_method_25_code (2 : Nat) (Option.some Jvm.ClassFile.FieldType.boolean)).before args0 about1 = true := code_word (m := ⟨16, 7⟩) (meth := k16m7) (c := k16c7) (by decide +kernel) rfl rfl rfl (by decide +kernel)
set_option maxRecDepth 65536 in
theorem w_c17 : (Jvm.Cond.code ({ cls := "java/util/ArrayList", name := "add", desc := "(Ljava/lang/Object;[Ljava/lang/Object;I)V" } : Jvm.MethodName) jdk_38_method_24_code (4 : Nat) (Option.none : Option Jvm.ClassFile.FieldType)).before args0 about1 = true := code_word (m := ⟨16, 6⟩) (meth := k16m6) (c := k16c6) (by decide +kernel) rfl rfl rfl (by decide +kernel)
set_option maxRecDepth 65536 in
theorem w_c18 : (Jvm.Cond.code ({ cls := "java/util/ArrayList", name := "grow", desc := "()[Ljava/lang/Object;" } : Jvm.MethodName) jdk_38_method_7_code (1 : Nat) (Option.some (Jvm.ClassFile.FieldType.array (Jvm.ClassFile.FieldType.object "java/lang/Object")))).before args0 about1 = true := code_word (m := ⟨16, 2⟩) (meth := k16m2) (c := k16c2) (by decide +kernel) rfl rfl rfl (by decide +kernel)
set_option maxRecDepth 65536 in
theorem w_c19 : (Jvm.Cond.code ({ cls := "java/util/ArrayList", name := "grow", desc := "(I)[Ljava/lang/Object;" } : Jvm.MethodName) jdk_38_method_6_code (4 : Nat) (Option.some (Jvm.ClassFile.FieldType.array (Jvm.ClassFile.FieldType.object "java/lang/Object")))).before args0 about1 = true := code_word (m := ⟨16, 1⟩) (meth := k16m1) (c := k16c1) (by decide +kernel) rfl rfl rfl (by decide +kernel)
set_option maxRecDepth 65536 in
theorem w_c20 : (Jvm.Cond.code ({ cls := "java/lang/Math", name := "max", desc := "(II)I" } : Jvm.MethodName) jdk_29_method_65_code (2 : Nat) (Option.some Jvm.ClassFile.FieldType.int)).before args0 about1 = true := code_word (m := ⟨24, 1⟩) (meth := k24m1) (c := k24c1) (by decide +kernel) rfl rfl rfl (by decide +kernel)
set_option maxRecDepth 65536 in
theorem w_c21 : (Jvm.Cond.code ({ cls := "java/util/ArrayList", name := "get", desc := "(I)Ljava/lang/Object;" } : Jvm.MethodName) jdk_38_method_20_code (2 : Nat) (Option.some (Jvm.ClassFile.FieldType.object "java/lang/Object"))).before args0 about1 = true := code_word (m := ⟨16, 5⟩) (meth := k16m5) (c := k16c5) (by decide +kernel) rfl rfl rfl (by decide +kernel)
set_option maxRecDepth 65536 in
theorem w_c22 : (Jvm.Cond.code ({ cls := "java/util/Objects", name := "checkIndex", desc := "(II)I" } : Jvm.MethodName) jdk_31_method_17_code (2 : Nat) (Option.some Jvm.ClassFile.FieldType.int)).before args0 about1 = true := code_word (m := ⟨25, 1⟩) (meth := k25m1) (c := k25c1) (by decide +kernel) rfl rfl rfl (by decide +kernel)
set_option maxRecDepth 65536 in
theorem w_c23 : (Jvm.Cond.code ({ cls := "jdk/internal/util/Preconditions", name := "checkIndex", desc := "(IILjava/util/function/BiFunction;)I" } : Jvm.MethodName) jdk_41_method_11_code (3 : Nat) (Option.some Jvm.ClassFile.FieldType.int)).before args0 about1 = true := code_word (m := ⟨26, 1⟩) (meth := k26m1) (c := k26c1) (by decide +kernel) rfl rfl rfl (by decide +kernel)
set_option maxRecDepth 65536 in
theorem w_c24 : (Jvm.Cond.code ({ cls := "java/util/ArrayList", name := "elementData", desc := "(I)Ljava/lang/Object;" } : Jvm.MethodName) jdk_38_method_18_code (2 : Nat) (Option.some (Jvm.ClassFile.FieldType.object "java/lang/Object"))).before args0 about1 = true := code_word (m := ⟨16, 4⟩) (meth := k16m4) (c := k16c4) (by decide +kernel) rfl rfl rfl (by decide +kernel)
set_option maxRecDepth 65536 in
theorem w_c25 : (Jvm.Cond.code ({ cls := "java/lang/String", name := "startsWith", desc := "(Ljava/lang/String;)Z" } : Jvm.MethodName) jdk_42_method_76_code (2 : Nat) (Option.some Jvm.ClassFile.FieldType.boolean)).before args0 about1 = true := code_word (m := ⟨7, 5⟩) (meth := k7m5) (c := k7c5) (by decide +kernel) rfl rfl rfl (by decide +kernel)
set_option maxRecDepth 65536 in
theorem w_c26 : (Jvm.Cond.code ({ cls := "java/lang/String", name := "startsWith", desc := "(Ljava/lang/String;I)Z" } : Jvm.MethodName) jdk_42_method_75_code (8 : Nat) (Option.some Jvm.ClassFile.FieldType.boolean)).before args0 about1 = true := code_word (m := ⟨7, 4⟩) (meth := k7m4) (c := k7c4) (by decide +kernel) rfl rfl rfl (by decide +kernel)
set_option maxRecDepth 65536 in
theorem w_c27 : (Jvm.Cond.code ({ cls := "java/lang/String", name := "length", desc := "()I" } : Jvm.MethodName) jdk_42_method_54_code (1 : Nat) (Option.some Jvm.ClassFile.FieldType.int)).before args0 about1 = true := code_word (m := ⟨7, 2⟩) (meth := k7m2) (c := k7c2) (by decide +kernel) rfl rfl rfl (by decide +kernel)
set_option maxRecDepth 65536 in
theorem w_c28 : (Jvm.Cond.code ({ cls := "java/lang/String", name := "coder", desc := "()B" } : Jvm.MethodName) jdk_42_method_152_code (1 : Nat) (Option.some Jvm.ClassFile.FieldType.byte)).before args0 about1 = true := code_word (m := ⟨7, 9⟩) (meth := k7m9) (c := k7c9) (by decide +kernel) rfl rfl rfl (by decide +kernel)
set_option maxRecDepth 65536 in
theorem w_c29 : (Jvm.Cond.code ({ cls := "java/lang/String", name := "equals", desc := "(Ljava/lang/Object;)Z" } : Jvm.MethodName) jdk_42_method_66_code (3 : Nat) (Option.some Jvm.ClassFile.FieldType.boolean)).before args0 about1 = true := code_word (m := ⟨7, 3⟩) (meth := k7m3) (c := k7c3) (by decide +kernel) rfl rfl rfl (by decide +kernel)
set_option maxRecDepth 65536 in
theorem w_c30 : (Jvm.Cond.code ({ cls := "java/lang/String", name := "valueOf", desc := "(C)Ljava/lang/String;" } : Jvm.MethodName) jdk_42_method_139_code (1 : Nat) (Option.some (Jvm.ClassFile.FieldType.object "java/lang/String"))).before args0 about1 = true := code_word (m := ⟨7, 6⟩) (meth := k7m6) (c := k7c6) (by decide +kernel) rfl rfl rfl (by decide +kernel)
set_option maxRecDepth 65536 in
theorem w_c31 : (Jvm.Cond.code ({ cls := "java/lang/StringLatin1", name := "canEncode", desc := "(C)Z" } : Jvm.MethodName) jdk_43_method_3_code (1 : Nat) (Option.some Jvm.ClassFile.FieldType.boolean)).before args0 about1 = true := code_word (m := ⟨27, 1⟩) (meth := k27m1) (c := k27c1) (by decide +kernel) rfl rfl rfl (by decide +kernel)
set_option maxRecDepth 65536 in
theorem w_c32 : (Jvm.Cond.code ({ cls := "java/lang/StringLatin1", name := "toBytes", desc := "(C)[B" } : Jvm.MethodName) jdk_43_method_46_code (1 : Nat) (Option.some (Jvm.ClassFile.FieldType.array Jvm.ClassFile.FieldType.byte))).before args0 about1 = true := code_word (m := ⟨27, 2⟩) (meth := k27m2) (c := k27c2) (by decide +kernel) rfl rfl rfl (by decide +kernel)
set_option maxRecDepth 65536 in
theorem w_c33 : (Jvm.Cond.code ({ cls := "java/lang/String", name := "<init>", desc := "([BB)V" } : Jvm.MethodName) jdk_42_method_151_code (3 : Nat) (Option.none : Option Jvm.ClassFile.FieldType)).before args0 about1 = true := code_word (m := ⟨7, 8⟩) (meth := k7m8) (c := k7c8) (by decide +kernel) rfl rfl rfl (by decide +kernel)
set_option maxRecDepth 65536 in
theorem w_c34 : (Jvm.Cond.code ({ cls := "java/lang/StringUTF16", name := "compress", desc := "([CII)[B" } : Jvm.MethodName) jdk_52_method_16_code (6 : Nat) (Option.some (Jvm.ClassFile.FieldType.array Jvm.ClassFile.FieldType.byte))).before args0 about1 = true := code_word (m := ⟨28, 2⟩) (meth := k28m2) (c := k28c2) (by decide +kernel) rfl rfl rfl (by decide +kernel)
set_option maxRecDepth 65536 in
theorem w_c35 : (Jvm.Cond.code ({ cls := "java/lang/StringUTF16", name := "compress", desc := "([CI[BII)I" } : Jvm.MethodName) jdk_52_method_21_code (7 : Nat) (Option.some Jvm.ClassFile.FieldType.int)).before args0 about1 = true := code_word (m := ⟨28, 3⟩) (meth := k28m3) (c := k28c3) (by decide +kernel) rfl rfl rfl (by decide +kernel)
set_option maxRecDepth 65536 in
theorem w_c36 : (Jvm.Cond.code ({ cls := "java/lang/StringUTF16", name := "coderFromArrayLen", desc := "([BI)B" } : Jvm.MethodName) jdk_52_method_15_code (2 : Nat) (Option.some Jvm.ClassFile.FieldType.byte)).before args0 about1 = true := code_word (m := ⟨28, 1⟩) (meth := k28m1) (c := k28c1) (by decide +kernel) rfl rfl rfl (by decide +kernel)
set_option maxRecDepth 65536 in
theorem w_c37 : (Jvm.Cond.code ({ cls := "jdk/internal/util/ArraysSupport", name := "mismatch", desc := "([BI[BII)I" } : Jvm.MethodName) jdk_48_method_14_code (8 : Nat) (Option.some Jvm.ClassFile.FieldType.int)).before args0 about1 = true := code_word (m := ⟨29, 1⟩) (meth := k29m1) (c := k29c1) (by decide +kernel) rfl rfl rfl (by decide +kernel)
def codes1 : List Jvm.Cond := [Jvm.Cond.code x code maxLocals ret, Jvm.Cond.code ({ cls := "com/example/hataraki/hataraki/cli/OptionsOperandsPinLaw", name := "mk", desc := "(I)Ljava/lang/String;" } : Jvm.MethodName) method_2_code (4 : Nat) (Option.some (Jvm.ClassFile.FieldType.object "java/lang/String")), Jvm.Cond.code ({ cls := "java/lang/String", name := "<init>", desc := "([C)V" } : Jvm.MethodName) jdk_42_method_3_code (2 : Nat) (Option.none : Option Jvm.ClassFile.FieldType), Jvm.Cond.code ({ cls := "java/lang/String", name := "<init>", desc := "([CIILjava/lang/Void;)V" } : Jvm.MethodName) jdk_42_method_149_code (6 : Nat) (Option.none : Option Jvm.ClassFile.FieldType), Jvm.Cond.code ({ cls := "java/lang/Object", name := "<init>", desc := "()V" } : Jvm.MethodName) object_method_1_code (1 : Nat) (Option.none : Option Jvm.ClassFile.FieldType), Jvm.Cond.code ({ cls := "java/util/ArrayList", name := "<init>", desc := "()V" } : Jvm.MethodName) jdk_38_method_2_code (1 : Nat) (Option.none : Option Jvm.ClassFile.FieldType), Jvm.Cond.code ({ cls := "java/util/AbstractList", name := "<init>", desc := "()V" } : Jvm.MethodName) jdk_39_method_1_code (1 : Nat) (Option.none : Option Jvm.ClassFile.FieldType), Jvm.Cond.code ({ cls := "java/util/AbstractCollection", name := "<init>", desc := "()V" } : Jvm.MethodName) jdk_22_method_1_code (1 : Nat) (Option.none : Option Jvm.ClassFile.FieldType), Jvm.Cond.code ({ cls := "com/example/hataraki/hataraki/cli/Options", name := "<init>", desc := "(Ljava/util/List;Ljava/util/Set;Ljava/util/Set;)V" } : Jvm.MethodName) prog_9_method_1_code (7 : Nat) (Option.none : Option Jvm.ClassFile.FieldType), Jvm.Cond.code ({ cls := "java/util/HashMap", name := "<init>", desc := "()V" } : Jvm.MethodName) jdk_69_method_7_code (1 : Nat) (Option.none : Option Jvm.ClassFile.FieldType), Jvm.Cond.code ({ cls := "java/util/AbstractMap", name := "<init>", desc := "()V" } : Jvm.MethodName) jdk_71_method_1_code (1 : Nat) (Option.none : Option Jvm.ClassFile.FieldType), Jvm.Cond.code ({ cls := "java/util/HashSet", name := "<init>", desc := "()V" } : Jvm.MethodName) jdk_93_method_1_code (1 : Nat) (Option.none : Option Jvm.ClassFile.FieldType), Jvm.Cond.code ({ cls := "java/util/AbstractSet", name := "<init>", desc := "()V" } : Jvm.MethodName) jdk_91_method_1_code (1 : Nat) (Option.none : Option Jvm.ClassFile.FieldType), Jvm.Cond.code ({ cls := "java/util/ArrayList", name := "size", desc := "()I" } : Jvm.MethodName) jdk_38_method_8_code (1 : Nat) (Option.some Jvm.ClassFile.FieldType.int), Jvm.Cond.code ({ cls := "com/example/hataraki/hataraki/cli/Options", name := "operands", desc := "([Ljava/lang/String;)Ljava/util/List;" } : Jvm.MethodName) prog_9_method_5_code (2 : Nat) (Option.some (Jvm.ClassFile.FieldType.object "java/util/List")), Jvm.Cond.code ({ cls := "com/example/hataraki/hataraki/cli/OptionsOperandsPinLaw", name := "at", desc := "(Ljava/util/List;IILjava/lang/String;)Z" } : Jvm.MethodName) method_3_code (4 : Nat) (Option.some Jvm.ClassFile.FieldType.boolean), Jvm.Cond.code ({ cls := "java/util/ArrayList", name := "add", desc := "(Ljava/lang/Object;)Z" } : Jvm.MethodName) jdk_38_method_25_code (2 : Nat) (Option.some Jvm.ClassFile.FieldType.boolean), Jvm.Cond.code ({ cls := "java/util/ArrayList", name := "add", desc := "(Ljava/lang/Object;[Ljava/lang/Object;I)V" } : Jvm.MethodName) jdk_38_method_24_code (4 : Nat) (Option.none : Option Jvm.ClassFile.FieldType), Jvm.Cond.code ({ cls := "java/util/ArrayList", name := "grow", desc := "()[Ljava/lang/Object;" } : Jvm.MethodName) jdk_38_method_7_code (1 : Nat) (Option.some (Jvm.ClassFile.FieldType.array (Jvm.ClassFile.FieldType.object "java/lang/Object"))), Jvm.Cond.code ({ cls := "java/util/ArrayList", name := "grow", desc := "(I)[Ljava/lang/Object;" } : Jvm.MethodName) jdk_38_method_6_code (4 : Nat) (Option.some (Jvm.ClassFile.FieldType.array (Jvm.ClassFile.FieldType.object "java/lang/Object"))), Jvm.Cond.code ({ cls := "java/lang/Math", name := "max", desc := "(II)I" } : Jvm.MethodName) jdk_29_method_65_code (2 : Nat) (Option.some Jvm.ClassFile.FieldType.int), Jvm.Cond.code ({ cls := "java/util/ArrayList", name := "get", desc := "(I)Ljava/lang/Object;" } : Jvm.MethodName) jdk_38_method_20_code (2 : Nat) (Option.some (Jvm.ClassFile.FieldType.object "java/lang/Object")), Jvm.Cond.code ({ cls := "java/util/Objects", name := "checkIndex", desc := "(II)I" } : Jvm.MethodName) jdk_31_method_17_code (2 : Nat) (Option.some Jvm.ClassFile.FieldType.int), Jvm.Cond.code ({ cls := "jdk/internal/util/Preconditions", name := "checkIndex", desc := "(IILjava/util/function/BiFunction;)I" } : Jvm.MethodName) jdk_41_method_11_code (3 : Nat) (Option.some Jvm.ClassFile.FieldType.int), Jvm.Cond.code ({ cls := "java/util/ArrayList", name := "elementData", desc := "(I)Ljava/lang/Object;" } : Jvm.MethodName) jdk_38_method_18_code (2 : Nat) (Option.some (Jvm.ClassFile.FieldType.object "java/lang/Object")), Jvm.Cond.code ({ cls := "java/lang/String", name := "startsWith", desc := "(Ljava/lang/String;)Z" } : Jvm.MethodName) jdk_42_method_76_code (2 : Nat) (Option.some Jvm.ClassFile.FieldType.boolean), Jvm.Cond.code ({ cls := "java/lang/String", name := "startsWith", desc := "(Ljava/lang/String;I)Z" } : Jvm.MethodName) jdk_42_method_75_code (8 : Nat) (Option.some Jvm.ClassFile.FieldType.boolean), Jvm.Cond.code ({ cls := "java/lang/String", name := "length", desc := "()I" } : Jvm.MethodName) jdk_42_method_54_code (1 : Nat) (Option.some Jvm.ClassFile.FieldType.int), Jvm.Cond.code ({ cls := "java/lang/String", name := "coder", desc := "()B" } : Jvm.MethodName) jdk_42_method_152_code (1 : Nat) (Option.some Jvm.ClassFile.FieldType.byte), Jvm.Cond.code ({ cls := "java/lang/String", name := "equals", desc := "(Ljava/lang/Object;)Z" } : Jvm.MethodName) jdk_42_method_66_code (3 : Nat) (Option.some Jvm.ClassFile.FieldType.boolean), Jvm.Cond.code ({ cls := "java/lang/String", name := "valueOf", desc := "(C)Ljava/lang/String;" } : Jvm.MethodName) jdk_42_method_139_code (1 : Nat) (Option.some (Jvm.ClassFile.FieldType.object "java/lang/String")), Jvm.Cond.code ({ cls := "java/lang/StringLatin1", name := "canEncode", desc := "(C)Z" } : Jvm.MethodName) jdk_43_method_3_code (1 : Nat) (Option.some Jvm.ClassFile.FieldType.boolean), Jvm.Cond.code ({ cls := "java/lang/StringLatin1", name := "toBytes", desc := "(C)[B" } : Jvm.MethodName) jdk_43_method_46_code (1 : Nat) (Option.some (Jvm.ClassFile.FieldType.array Jvm.ClassFile.FieldType.byte)), Jvm.Cond.code ({ cls := "java/lang/String", name := "<init>", desc := "([BB)V" } : Jvm.MethodName) jdk_42_method_151_code (3 : Nat) (Option.none : Option Jvm.ClassFile.FieldType), Jvm.Cond.code ({ cls := "java/lang/StringUTF16", name := "compress", desc := "([CII)[B" } : Jvm.MethodName) jdk_52_method_16_code (6 : Nat) (Option.some (Jvm.ClassFile.FieldType.array Jvm.ClassFile.FieldType.byte)), Jvm.Cond.code ({ cls := "java/lang/StringUTF16", name := "compress", desc := "([CI[BII)I" } : Jvm.MethodName) jdk_52_method_21_code (7 : Nat) (Option.some Jvm.ClassFile.FieldType.int), Jvm.Cond.code ({ cls := "java/lang/StringUTF16", name := "coderFromArrayLen", desc := "([BI)B" } : Jvm.MethodName) jdk_52_method_15_code (2 : Nat) (Option.some Jvm.ClassFile.FieldType.byte), Jvm.Cond.code ({ cls := "jdk/internal/util/ArraysSupport", name := "mismatch", desc := "([BI[BII)I" } : Jvm.MethodName) jdk_48_method_14_code (8 : Nat) (Option.some Jvm.ClassFile.FieldType.int)]
set_option maxRecDepth 65536 in
theorem codes_eq : words1.filter isCode = codes1 := rfl
theorem w_codes : ∀ c ∈ words1.filter isCode, c.before args0 about1 = true := by
  rw [codes_eq]
  intro c hc
  simp only [codes1, List.mem_cons, List.not_mem_nil, or_false] at hc
  rcases hc with rfl | rfl | rfl | rfl | rfl | rfl | rfl | rfl | rfl | rfl | rfl | rfl | rfl | rfl | rfl | rfl | rfl | rfl | rfl | rfl | rfl | rfl | rfl | rfl | rfl | rfl | rfl | rfl | rfl | rfl | rfl | rfl | rfl | rfl | rfl | rfl | rfl | rfl
  · exact w_c0
  · exact w_c1
  · exact w_c2
  · exact w_c3
  · exact w_c4
  · exact w_c5
  · exact w_c6
  · exact w_c7
  · exact w_c8
  · exact w_c9
  · exact w_c10
  · exact w_c11
  · exact w_c12
  · exact w_c13
  · exact w_c14
  · exact w_c15
  · exact w_c16
  · exact w_c17
  · exact w_c18
  · exact w_c19
  · exact w_c20
  · exact w_c21
  · exact w_c22
  · exact w_c23
  · exact w_c24
  · exact w_c25
  · exact w_c26
  · exact w_c27
  · exact w_c28
  · exact w_c29
  · exact w_c30
  · exact w_c31
  · exact w_c32
  · exact w_c33
  · exact w_c34
  · exact w_c35
  · exact w_c36
  · exact w_c37
set_option maxRecDepth 65536 in
theorem w_t1 : (words1.take 24).all (fun c => isCode c || c.before args0 about1) = true := by decide +kernel
set_option maxRecDepth 65536 in
theorem w_t2 : ((words1.drop 24).take 24).all (fun c => isCode c || c.before args0 about1) = true := by decide +kernel
set_option maxRecDepth 65536 in
theorem w_t3 : (((words1.drop 24).drop 24).take 24).all (fun c => isCode c || c.before args0 about1) = true := by decide +kernel
set_option maxRecDepth 65536 in
theorem w_t4 : ((((words1.drop 24).drop 24).drop 24).take 24).all (fun c => isCode c || c.before args0 about1) = true := by decide +kernel
set_option maxRecDepth 65536 in
theorem w_t5 : (((((words1.drop 24).drop 24).drop 24).drop 24).take 24).all (fun c => isCode c || c.before args0 about1) = true := by decide +kernel
set_option maxRecDepth 65536 in
theorem w_t6 : ((((((words1.drop 24).drop 24).drop 24).drop 24).drop 24).take 24).all (fun c => isCode c || c.before args0 about1) = true := by decide +kernel
set_option maxRecDepth 65536 in
theorem w_t7 : (((((((words1.drop 24).drop 24).drop 24).drop 24).drop 24).drop 24).take 24).all (fun c => isCode c || c.before args0 about1) = true := by decide +kernel
set_option maxRecDepth 65536 in
theorem w_t8 : ((((((((words1.drop 24).drop 24).drop 24).drop 24).drop 24).drop 24).drop 24).take 24).all (fun c => isCode c || c.before args0 about1) = true := by decide +kernel
set_option maxRecDepth 65536 in
theorem w_t9 : (((((((((words1.drop 24).drop 24).drop 24).drop 24).drop 24).drop 24).drop 24).drop 24).take 24).all (fun c => isCode c || c.before args0 about1) = true := by decide +kernel
set_option maxRecDepth 65536 in
theorem w_t10 : (((((((((words1.drop 24).drop 24).drop 24).drop 24).drop 24).drop 24).drop 24).drop 24).drop 24).all (fun c => isCode c || c.before args0 about1) = true := by decide +kernel
theorem w_tables : (allAtoms (Jvm.Cond.code x code maxLocals ret :: tables_1)).before args0 about1 = true := by
  rw [allAtoms_all]
  show words1.all (fun c => c.before args0 about1) = true
  refine all_split ?_ w_codes
  rw [← List.take_append_drop 24 words1, List.all_append, w_t1, ← List.take_append_drop 24 (words1.drop 24), List.all_append, w_t2, ← List.take_append_drop 24 ((words1.drop 24).drop 24), List.all_append, w_t3, ← List.take_append_drop 24 (((words1.drop 24).drop 24).drop 24), List.all_append, w_t4, ← List.take_append_drop 24 ((((words1.drop 24).drop 24).drop 24).drop 24), List.all_append, w_t5, ← List.take_append_drop 24 (((((words1.drop 24).drop 24).drop 24).drop 24).drop 24), List.all_append, w_t6, ← List.take_append_drop 24 ((((((words1.drop 24).drop 24).drop 24).drop 24).drop 24).drop 24), List.all_append, w_t7, ← List.take_append_drop 24 (((((((words1.drop 24).drop 24).drop 24).drop 24).drop 24).drop 24).drop 24), List.all_append, w_t8, ← List.take_append_drop 24 ((((((((words1.drop 24).drop 24).drop 24).drop 24).drop 24).drop 24).drop 24).drop 24), List.all_append, w_t9, w_t10]
  rfl
set_option maxRecDepth 65536 in
theorem w_rest : rest_1_c.before args0 about1 = true := by decide +kernel
set_option maxRecDepth 65536 in
theorem w_case : (Jvm.Cond.and given_1 narrow_1).before args0 about1 = true := by decide +kernel
set_option maxRecDepth 65536 in
theorem w_consts : constsHeld consts_1 about1 := Jvm.Lit.constsHeldB_iff.mp (by decide +kernel)
theorem w_applies : (headSpec (Jvm.Cond.code x code maxLocals ret :: tables_1) room_1).applies x e0.platform about1 = true :=
  (Spec.applies_iff w_frames).mpr ⟨w_running, w_runnable, w_alone, w_named, w_hears, w_ripe, w_room, w_tables⟩
theorem atStart : AtStart classFile x code maxLocals ret World_1 tables_1 room_1 Calls_1 rest_1 Pre_1 launch0 p0 e0 about1 theMethod args0 below0 :=
  ⟨lists_1, trivial, launch0.admits_env _ _ _, launch0.least_env, fairChoices_fair.cas, fairChoices_fair.clock, w_frames, w_args, w_heap, w_applies, ⟨w_consts, trivial⟩, w_rest, w_case⟩
end start1
theorem witness_1 : WitnessClaimed_1 := ⟨start1.p0, start1.e0, start1.about1, start1.theMethod, start1.args0, start1.below0, start1.atStart⟩
end Jvm.Pilot.@@N@@
