import JvmDerived
import JvmDerived.Pilot.@@N@@Statement
import JvmDerived.Pilot.@@N@@Code
set_option linter.unusedVariables false
set_option linter.unusedSimpArgs false
namespace Jvm.RoadKit
section OwnKeep
variable {h h' h0 : Heap} {ws : List Addr} {a : Addr}
theorem Keep.otr0 (K : Keep h0 h ws) (K' : Keep h h' []) : Keep h0 h' ws := K.trans K' fun _ q => nomatch q
theorem Keep.otrN (K : Keep h0 h ws) (K' : Keep h h' [a]) (q : h0.size ≤ a) : Keep h0 h' ws := K.trans K' fun x hx => by cases List.mem_singleton.mp hx; exact Or.inr q
theorem Keep.otrM (K : Keep h0 h ws) (K' : Keep h h' [a]) (q : a ∈ ws) : Keep h0 h' ws := K.trans K' fun x hx => by cases List.mem_singleton.mp hx; exact Or.inl q
end OwnKeep
end Jvm.RoadKit
namespace Jvm.Own
open Sem ClassFile Op Lib Bundle Jvm.Stand Jvm.Free Jvm.LawKit Jvm.RoadKit
section Walk
variable {p : Program} {l : Launch} {e : Env} {R : Room} {s : State} {m : MethodId} {args : Array Value} {below : List Frame} {meth : Method} {c : Code} {T T' : State} {cells slots : Nat} {Z : State} {a0 : Array Value} {EL : List (String × Nat)} {h h' : Heap} {vm0 vm1 : Vm} {y : MethodName} {bytes : ByteArray} {ml : Nat} {ret : Option FieldType} {KC KS : Nat} {Q : Option Value → Heap → Prop} {g g' : JFrame} {pc : Nat} {Ls : Array Slot} {st rest : List Value}
/-- from T with the top frame g the body returns, and what it leaves is Q -/
def Go (p : Program) (e : Env) (below : List Frame) (s Z : State) (EL : List (String × Nat)) (KC KS : Nat) (Q : Option Value → Heap → Prop) (T : State) (g : JFrame) : Prop :=
  ∃ s₂ o, Steps p.tables e below (T.setTop g) s₂ ∧ s₂.status = .running ∧ Ended s₂ below o ∧ ∃ v L, o = .returned v ∧ (Q v s₂.heap ∧ Fr Z.heap.size L ∧ Ext Z.heap s₂.heap) ∧ CHr Z EL s.vm s.heap s₂.vm s₂.heap ∧ ReturnedEndW s o s₂ L KC KS
theorem Go.step (f : ∀ t, Steps p.tables e below (T'.setTop g') t → Steps p.tables e below (T.setTop g) t) (k : Go p e below s Z EL KC KS Q T' g') : Go p e below s Z EL KC KS Q T g := by
  obtain ⟨s₂, o, h1, r⟩ := k
  exact ⟨s₂, o, f _ h1, r⟩
theorem Go.cast (q : g = g') (k : Go p e below s Z EL KC KS Q T g') : Go p e below s Z EL KC KS Q T g := q ▸ k
/-- the contract of a body: any start whose heap is h -/
def Con (l : Launch) (Z : State) (EL : List (String × Nat)) (y : MethodName) (bytes : ByteArray) (ml : Nat) (ret : Option FieldType) (ws : List Cond) (rm : Room) (as' : Array Value) (h : Heap) (Q : Option Value → Heap → Prop) : Prop :=
  MetFree l y (head1 (Cond.code y bytes ml ret :: ws) rm) (fun a U => a = as' ∧ Z.Warmed39 U.vm ∧ U.heap = h ∧ CHv Z EL U.vm h) (fun _ _ _ _ _ => True)
    (fun _ U o U' => ∃ v L, o = .returned v ∧ (Q v U'.heap ∧ Fr Z.heap.size L ∧ Ext Z.heap U'.heap) ∧ CHr Z EL U.vm U.heap U'.vm U'.heap ∧ ReturnedEndW U o U' L rm.cells rm.slots)
/-- where a walk stands -/
def Wk (p : Program) (l : Launch) (e : Env) (R : Room) (s : State) (m : MethodId) (args : Array Value) (below : List Frame) (meth : Method) (c : Code) (Z : State) (a0 : Array Value) (EL : List (String × Nat)) (y : MethodName) (bytes : ByteArray) (ml : Nat) (ret : Option FieldType) (T : State) (h : Heap) (vm0 : Vm) (cells slots : Nat) : Prop :=
  ∃ locs : List Loc, Stand p l e R (s.setVm vm0) m args below meth c T locs cells slots ∧ T.heap = h ∧ Z.Warmed39 (s.setVm vm0).vm ∧ (s.setVm vm0).vm.findClass y.cls = some m.cls ∧ (∃ k0, s.Since vm0 k0 ∧ k0 ≤ h.size) ∧ CHr Z EL s.vm s.heap vm0 h ∧ Fr Z.heap.size locs ∧ Ext Z.heap h ∧
    p.tables.exec = Jvm.exec ∧ c.code = bytes ∧ c.maxLocals = ml ∧ meth.sig.returnType = ret ∧ meth.locks = false ∧ meth.name = y.name ∧ EW Z a0 EL
theorem ext_trans {h1 h2 h3 : Heap} (A : Ext h1 h2) (B : Ext h2 h3) : Ext h1 h3 := ⟨Nat.le_trans A.1 B.1, fun a c q => B.2 a c (A.2 a c q)⟩
theorem ext_keep {ws : List Addr} (A : Ext Z.heap h) (K : Keep h h' ws) (q : ∀ x ∈ ws, Z.heap.size ≤ x) : Ext Z.heap h' := (Old.keep (show Old Z Z.heap.size h from ⟨rfl, A⟩) K q).2
theorem keep_ext (E : Ext h h') : Keep h h' [] := (Keep.refl h []).ext E
theorem ext_keep0 (K : Keep h h' []) : Ext h h' := ⟨K.1, fun a c q => K.2.1 a c q nin0⟩
theorem Wk.here (W : Wk p l e R s m args below meth c Z a0 EL y bytes ml ret T h vm0 cells slots) : At T m c below := by obtain ⟨_, X, -⟩ := W; exact X.here
theorem Wk.hx (W : Wk p l e R s m args below meth c Z a0 EL y bytes ml ret T h vm0 cells slots) : p.tables.exec = Jvm.exec := by obtain ⟨_, -, -, -, -, -, -, -, -, r, -⟩ := W; exact r
theorem Wk.d (W : Wk p l e R s m args below meth c Z a0 EL y bytes ml ret T h vm0 cells slots) {r : Except DecodeError (Instr × Nat)} (q : decode bytes pc = r) : decode c.code pc = r := by obtain ⟨_, -, -, -, -, -, -, -, -, -, u, -⟩ := W; exact hb u q
theorem Wk.ext (W : Wk p l e R s m args below meth c Z a0 EL y bytes ml ret T h vm0 cells slots) : Ext Z.heap h := by obtain ⟨_, -, -, -, -, -, -, -, r, -⟩ := W; exact r
theorem Wk.hZ (W : Wk p l e R s m args below meth c Z a0 EL y bytes ml ret T h vm0 cells slots) : Z.Warmed39 (s.setVm vm0).vm := by obtain ⟨_, -, -, r, -⟩ := W; exact r
theorem Wk.chr (W : Wk p l e R s m args below meth c Z a0 EL y bytes ml ret T h vm0 cells slots) : CHr Z EL s.vm s.heap vm0 h := by obtain ⟨_, -, -, -, -, -, r, -⟩ := W; exact r
theorem Wk.size (W : Wk p l e R s m args below meth c Z a0 EL y bytes ml ret T h vm0 cells slots) : Z.heap.size ≤ h.size := W.ext.1
theorem Wk.more (W : Wk p l e R s m args below meth c Z a0 EL y bytes ml ret T h vm0 cells slots) {cells' slots' : Nat} (hc : cells ≤ cells') (hs : slots ≤ slots') : Wk p l e R s m args below meth c Z a0 EL y bytes ml ret T h vm0 cells' slots' := by
  obtain ⟨locs, X, r⟩ := W
  exact ⟨locs, X.mono hc hs, r⟩
/-- a body's walk gives its contract -/
theorem Con.intro {rm : Room} {as' : Array Value} {ws : List Cond} (hpl : plainFor y = true) (hE : Ext Z.heap h) (hEL : EW Z a0 EL)
    (body : ∀ (p : Program) (e : Env) (s : State) (m : MethodId) (below : List Frame) (meth : Method) (c : Code) (T : State), Wk p l e rm s m as' below meth c Z a0 EL y bytes ml ret T h s.vm 0 0 → Go p e below s Z EL rm.cells rm.slots Q T (entryFrame m as' ml)) :
    Con l Z EL y bytes ml ret ws rm as' h Q := by
  refine MetFree.of_bodySF hpl hisR ?_
  intro p e s m args below meth c s₁ Bd hml0 hP hK
  obtain ⟨rfl, hZ, hh, hC⟩ := hP
  have hown : s.vm.findClass y.cls = some m.cls := findClass_of_methodNamed Bd.named
  have hnm := (name_of_methodNamed Bd.named Bd.method).1
  have X0 : Stand p l e rm s m args below meth c s₁ [] 0 0 := Stand.of_body Bd
  have e0 : s₁.heap = h := by rw [← hh, Bd.state]; rfl
  exact body p e s m below meth c s₁ ⟨[], X0, e0, hZ, hown, ⟨0, (State.WarmedH.refl s).since 0, Nat.zero_le _⟩, by rw [hh]; exact CHr.refl hC, Fr.nil _, hE, Bd.exec, Bd.bytes, hml0, Bd.returns, Bd.notSynchronized, hnm, hEL⟩
/-- a step that leaves the heap as it is -/
theorem Wk.stay (W : Wk p l e R s m args below meth c Z a0 EL y bytes ml ret T h vm0 cells slots) (f : ∀ locs, Stand p l e R (s.setVm vm0) m args below meth c T locs cells slots → ∃ T', Stand p l e R (s.setVm vm0) m args below meth c T' locs cells slots ∧ T'.heap = h ∧ ∀ target, Steps p.tables e below (T'.setTop g') target → Steps p.tables e below (T.setTop g) target)
    (K : ∀ T', Wk p l e R s m args below meth c Z a0 EL y bytes ml ret T' h vm0 cells slots → Go p e below s Z EL KC KS Q T' g') : Go p e below s Z EL KC KS Q T g := by
  obtain ⟨locs, X, hT, r⟩ := W
  obtain ⟨T', X', hT', st⟩ := f locs X
  exact Go.step st (K T' ⟨locs, X', hT', r⟩)
theorem Wk.getF (W : Wk p l e R s m args below meth c Z a0 EL y bytes ml ret T h vm0 cells slots) {R0 O n d host : String} {index : Nat} (w : (Cond.fieldLink y.cls index R0 n d).before a0 Z = true ∨ (Cond.fieldLinkNest y.cls index R0 n d host).before a0 Z = true) (via : Via Z R0 O n d) {a : Addr} {v : Value} (F : Fld Z h a O n d v) (hd : decode bytes pc = .ok (.getfield index, 3))
    (K : ∀ T', Wk p l e R s m args below meth c Z a0 EL y bytes ml ret T' h vm0 cells slots → Go p e below s Z EL KC KS Q T' (mkF m (pc + 3) Ls (v :: rest))) : Go p e below s Z EL KC KS Q T (mkF m pc Ls (.ref a :: rest)) := by
  refine W.stay (fun locs X => ?_) K
  obtain ⟨_, -, hT, hZ, hown, -⟩ := id W
  exact RoadKit.getF X W.hx hZ hown w via hT F (g := mkF m pc Ls (.ref a :: rest)) rfl rfl (W.d hd)
theorem Wk.getS (W : Wk p l e R s m args below meth c Z a0 EL y bytes ml ret T h vm0 cells slots) {R0 O n d host : String} {index : Nat} (w : (Cond.fieldLink y.cls index R0 n d).before a0 Z = true ∨ (Cond.fieldLinkNest y.cls index R0 n d host).before a0 Z = true) (via : Via Z R0 O n d) {v : Value} (F : Sta Z Z.heap O n d v) (hd : decode bytes pc = .ok (.getstatic index, 3))
    (K : ∀ T', Wk p l e R s m args below meth c Z a0 EL y bytes ml ret T' h vm0 cells slots → Go p e below s Z EL KC KS Q T' (mkF m (pc + 3) Ls (v :: rest))) : Go p e below s Z EL KC KS Q T (mkF m pc Ls rest) := by
  refine W.stay (fun locs X => ?_) K
  obtain ⟨_, -, hT, hZ, hown, -⟩ := id W
  exact getS2 X W.hx hZ hown w via hT (F.ext W.ext) (g := mkF m pc Ls rest) rfl (W.d hd)
theorem Wk.cast (W : Wk p l e R s m args below meth c Z a0 EL y bytes ml ret T h vm0 cells slots) {K' : String} {index : Nat} (w : (Cond.classLink y.cls index K').before a0 Z = true) {a : Addr} (F : Ins Z h a K' true) (hd : decode bytes pc = .ok (.checkcast index, 3))
    (K : ∀ T', Wk p l e R s m args below meth c Z a0 EL y bytes ml ret T' h vm0 cells slots → Go p e below s Z EL KC KS Q T' (mkF m (pc + 3) Ls (.ref a :: rest))) : Go p e below s Z EL KC KS Q T (mkF m pc Ls (.ref a :: rest)) := by
  refine W.stay (fun locs X => ?_) K
  obtain ⟨_, -, hT, hZ, hown, -⟩ := id W
  exact castY X W.hx hZ hown w hT F (g := mkF m pc Ls (.ref a :: rest)) rfl rfl (W.d hd)
theorem Wk.instY (W : Wk p l e R s m args below meth c Z a0 EL y bytes ml ret T h vm0 cells slots) {K' : String} {index : Nat} (w : (Cond.classLink y.cls index K').before a0 Z = true) {a : Addr} (F : Ins Z h a K' true) (hd : decode bytes pc = .ok (.instanceof index, 3))
    (K : ∀ T', Wk p l e R s m args below meth c Z a0 EL y bytes ml ret T' h vm0 cells slots → Go p e below s Z EL KC KS Q T' (mkF m (pc + 3) Ls (.int 1 :: rest))) : Go p e below s Z EL KC KS Q T (mkF m pc Ls (.ref a :: rest)) := by
  refine W.stay (fun locs X => ?_) K
  obtain ⟨_, -, hT, hZ, hown, -⟩ := id W
  exact RoadKit.instY X W.hx hZ hown w hT F (g := mkF m pc Ls (.ref a :: rest)) rfl rfl (W.d hd)
theorem Wk.instN (W : Wk p l e R s m args below meth c Z a0 EL y bytes ml ret T h vm0 cells slots) {K' C : String} {index : Nat} (w : (Cond.classLink y.cls index K').before a0 Z = true) {a : Addr} (E : Exa Z h a C) (F : ∃ c t, Z.vm.findClass C = some c ∧ Z.vm.findClass K' = some t ∧ Z.vm.assignable c t = false) (hd : decode bytes pc = .ok (.instanceof index, 3))
    (K : ∀ T', Wk p l e R s m args below meth c Z a0 EL y bytes ml ret T' h vm0 cells slots → Go p e below s Z EL KC KS Q T' (mkF m (pc + 3) Ls (.int 0 :: rest))) : Go p e below s Z EL KC KS Q T (mkF m pc Ls (.ref a :: rest)) := by
  refine W.stay (fun locs X => ?_) K
  obtain ⟨_, -, hT, hZ, hown, -⟩ := id W
  exact instNo X W.hx hZ hown w hT E F (g := mkF m pc Ls (.ref a :: rest)) rfl rfl (W.d hd)
theorem Wk.instNull (W : Wk p l e R s m args below meth c Z a0 EL y bytes ml ret T h vm0 cells slots) {index : Nat} (hd : decode bytes pc = .ok (.instanceof index, 3)) (K : Go p e below s Z EL KC KS Q T (mkF m (pc + 3) Ls (.int 0 :: rest))) : Go p e below s Z EL KC KS Q T (mkF m pc Ls (.null :: rest)) := by
  obtain ⟨_, X, -⟩ := id W
  exact Go.step (X.instanceofNull W.hx (g := mkF m pc Ls (.null :: rest)) rfl rfl (W.d hd)) K
theorem Wk.castNull (W : Wk p l e R s m args below meth c Z a0 EL y bytes ml ret T h vm0 cells slots) {index : Nat} (hd : decode bytes pc = .ok (.checkcast index, 3)) (K : Go p e below s Z EL KC KS Q T (mkF m (pc + 3) Ls (.null :: rest))) : Go p e below s Z EL KC KS Q T (mkF m pc Ls (.null :: rest)) := by
  obtain ⟨_, X, -⟩ := id W
  exact Go.step (X.checkcastNull W.hx (g := mkF m pc Ls (.null :: rest)) rfl rfl (W.d hd)) K
theorem Wk.acmp (W : Wk p l e R s m args below meth c Z a0 EL y bytes ml ret T h vm0 cells slots) {cd : ACond} {u v : Value} (h1 : u.isRef = true) (h2 : v.isRef = true) {o : Int} {pc' : Nat} {same : Bool} (hd : decode bytes pc = .ok (.if_acmp cd o, 3)) (hq : decide (u = v) = same) (ho : 0 ≤ (pc : Int) + o) (hp : pc' = if acV cd same = true then ((pc : Int) + o).toNat else pc + 3)
    (K : Go p e below s Z EL KC KS Q T (mkF m pc' Ls rest)) : Go p e below s Z EL KC KS Q T (mkF m pc Ls (v :: u :: rest)) := by
  obtain ⟨_, X, -⟩ := id W
  exact Go.step (fun _ k => RoadKit.acmp (g := mkF m pc Ls (v :: u :: rest)) X W.hx rfl h1 h2 rfl (W.d hd) rfl hq ho hp k) K
theorem Wk.initO (W : Wk p l e R s m args below meth c Z a0 EL y bytes ml ret T h vm0 cells slots) {idx : Nat} (w1 : (Cond.methodLink y.cls idx Lib.objectInit).before a0 Z = true) (w2 : (Cond.instanceMethod Lib.objectInit).before a0 Z = true) (w3 : (Cond.code Lib.objectInit ⟨#[0xb1]⟩ 1 none).before a0 Z = true) {a : Addr} (hsz : Ls.size = ml) (hd : decode bytes pc = .ok (.invokespecial idx, 3))
    (hf : 1 ≤ R.frames) {Wd : Nat} (hW : (rest.map fun v => v.category).sum ≤ Wd) (hl : Wd + 12 ≤ R.locals)
    (K : ∀ T', Wk p l e R s m args below meth c Z a0 EL y bytes ml ret T' h vm0 cells slots → Go p e below s Z EL KC KS Q T' (mkF m (pc + 3) Ls rest)) : Go p e below s Z EL KC KS Q T (mkF m pc Ls (.ref a :: rest)) := by
  refine W.stay (fun locs X => ?_) K
  obtain ⟨_, -, hT, hZ, hown, -, -, -, -, -, -, hml, -⟩ := id W
  exact RoadKit.initO X W.hx hZ hown w1 w2 w3 hT (g := mkF m pc Ls (.ref a :: rest)) rfl (by rw [hml]; exact hsz) rfl (W.d hd) hf (W := Wd) (by show 2 * 0 + _ ≤ _; omega) hl
theorem Wk.new (W : Wk p l e R s m args below meth c Z a0 EL y bytes ml ret T h vm0 cells slots) {C : String} {index n : Nat} (w : (Cond.classLink y.cls index C).before a0 Z = true) (wi : (Cond.instantiable C n).before a0 Z = true) (wz : (Cond.initialized C).before a0 Z = true) (hd : decode bytes pc = .ok (.new index, 3)) (hc : cells + 1 ≤ R.cells) (hl : slots + n ≤ R.slots)
    (K : ∀ T' h' a, a = h.size → Wk p l e R s m args below meth c Z a0 EL y bytes ml ret T' h' vm0 (cells + 1) (slots + n) → Ext h h' → Exa Z h' a C → (∀ {O nm d : String} {ty : FieldType}, Laid Z a0 C O nm d → parseFieldDescriptor d = some ty → Fld Z h' a O nm d (defaultValue ty)) → Go p e below s Z EL KC KS Q T' (mkF m (pc + 3) Ls (.ref a :: rest))) : Go p e below s Z EL KC KS Q T (mkF m pc Ls rest) := by
  have hx := W.hx; have hd' := W.d hd
  obtain ⟨locs, X, hT, hZ, hown, ⟨k0, hS, hk⟩, hC, hF, hE, r⟩ := W
  obtain ⟨T', h', X', e', E, A, D, -, st⟩ := newO X hx hZ hown w wi wz hT (g := mkF m pc Ls rest) rfl hd' hc hl
  exact Go.step st (K T' h' _ rfl ⟨locs, X', e', hZ, hown, ⟨k0, hS, Nat.le_trans hk E.1⟩, hC.trans (CHr.ext E hC.1), hF, ext_trans hE E, r⟩ E A D)
theorem Wk.newarr (W : Wk p l e R s m args below meth c Z a0 EL y bytes ml ret T h vm0 cells slots) {aty : ArrayType} (w : (Cond.arrayClass (newarray.typeOf aty)).before a0 Z = true) {n : Int32} (hd : decode bytes pc = .ok (.newarray aty, 2)) (hn : ¬ n < 0) {cap : Nat} (hcap : n.toNatClampNeg ≤ cap) (hb : cap * 8 ≤ 536870912) (hc : cells + 1 ≤ R.cells) (hl : slots + cap ≤ R.slots)
    (K : ∀ T' h' a k, a = h.size → Wk p l e R s m args below meth c Z a0 EL y bytes ml ret T' h' vm0 (cells + 1) (slots + cap) → Ext h h' → Arv Z h' a k (newarray.typeOf aty) n [] (defaultValue (newarray.typeOf aty)) → Safe Z EL vm0 h' a → Go p e below s Z EL KC KS Q T' (mkF m (pc + 2) Ls (.ref a :: rest))) : Go p e below s Z EL KC KS Q T (mkF m pc Ls (.int n :: rest)) := by
  have hx := W.hx; have hd' := W.d hd
  obtain ⟨locs, X, hT, hZ, hown, ⟨k0, hS, hk⟩, hC, hF, hE, r⟩ := W
  obtain ⟨T', h', cA, X', e', E, A, st⟩ := newP X hx hZ w hT (g := mkF m pc Ls (.int n :: rest)) rfl hd' rfl hn hcap hb hc hl
  exact Go.step st (K T' h' _ cA rfl ⟨locs, X', e', hZ, hown, ⟨k0, hS, Nat.le_trans hk E.1⟩, hC.trans (CHr.ext E hC.1), hF, ext_trans hE E, r⟩ E (Arv.new A hn) (Safe.ext E hC.1 (Safe.new (Nat.le_refl _))))
/-- a write into one cell made since the law began -/
theorem Wk.wrote (W : Wk p l e R s m args below meth c Z a0 EL y bytes ml ret T h vm0 cells slots) {a : Addr} {sl : Nat} {v : Value} (ha : Z.heap.size ≤ a) (S : Safe Z EL vm0 h a)
    (f : ∀ locs, Stand p l e R (s.setVm vm0) m args below meth c T locs cells slots → ∃ T' h', Stand p l e R (s.setVm vm0) m args below meth c T' (locs ++ [⟨a, sl⟩]) cells slots ∧ T'.heap = h' ∧ Wr h h' a sl v ∧ ∀ target, Steps p.tables e below (T'.setTop g') target → Steps p.tables e below (T.setTop g) target)
    (K : ∀ T' h', Wk p l e R s m args below meth c Z a0 EL y bytes ml ret T' h' vm0 cells slots → Wr h h' a sl v → Go p e below s Z EL KC KS Q T' g') : Go p e below s Z EL KC KS Q T g := by
  obtain ⟨locs, X, hT, hZ, hown, ⟨k0, hS, hk⟩, hC, hF, hE, r⟩ := W
  obtain ⟨T', h', X', e', Ww, st⟩ := f locs X
  exact Go.step st (K T' h' ⟨_, X', e', hZ, hown, ⟨k0, hS, by rw [Ww.size]; exact hk⟩, hC.trans (CHr.wr Ww S hC.1), Fr.snoc X' hF ha, ext_keep hE (Keep.of_wr Ww) (allS ha all0), r⟩ Ww)
theorem Wk.putF (W : Wk p l e R s m args below meth c Z a0 EL y bytes ml ret T h vm0 cells slots) {R0 O n d host C : String} {index kk : Nat} {ty : FieldType} (w : (Cond.fieldLink y.cls index R0 n d).before a0 Z = true ∨ (Cond.fieldLinkNest y.cls index R0 n d host).before a0 Z = true) (via : Via Z R0 O n d)
    {a : Addr} {v old : Value} (F : Fld Z h a O n d old) (E : Exa Z h a C) (L : (Cond.lays C O n d).before a0 Z = true ∨ ((Cond.laysFinal C O n d).before a0 Z = true ∧ y.cls = O ∧ y.name = "<init>")) (wi : (Cond.instantiable C kk).before a0 Z = true) (hty : parseFieldDescriptor d = some ty) (hn : narrow ty v = v) (hf : fits ty v = true)
    (ha : Z.heap.size ≤ a) (S : Safe Z EL vm0 h a) (hd : decode bytes pc = .ok (.putfield index, 3))
    (K : ∀ T' h', Wk p l e R s m args below meth c Z a0 EL y bytes ml ret T' h' vm0 cells slots → Wr h h' a (RoadKit.slotOf Z O n d) v → Fld Z h' a O n d v → Go p e below s Z EL KC KS Q T' (mkF m (pc + 3) Ls rest)) : Go p e below s Z EL KC KS Q T (mkF m pc Ls (v :: .ref a :: rest)) := by
  refine W.wrote (sl := RoadKit.slotOf Z O n d) (v := v) ha S (fun locs X => ?_) (fun T' h' W' Ww => K T' h' W' Ww (F.same Ww))
  obtain ⟨_, -, hT, hZ, hown, -, -, -, -, -, -, -, -, -, hnm, -⟩ := id W
  exact RoadKit.putF X W.hx hZ hown w via hT F E (L.imp id fun q => ⟨q.1, q.2.1, hnm.trans q.2.2⟩) wi hty hn hf (g := mkF m pc Ls (v :: .ref a :: rest)) rfl rfl (W.d hd)
theorem Wk.castore (W : Wk p l e R s m args below meth c Z a0 EL y bytes ml ret T h vm0 cells slots) {a : Addr} {k : ClassId} {n j x : Int32} {vs : List Value} {dv : Value} (V : Arv Z h a k .char n vs dv) (i : Nat) (hj : j.toNatClampNeg = i) (hi : i < vs.length) (hin : ¬ j < 0 ∧ j < n) (ha : Z.heap.size ≤ a) (hd : decode bytes pc = .ok (.castore, 1))
    (K : ∀ T' h', Wk p l e R s m args below meth c Z a0 EL y bytes ml ret T' h' vm0 cells slots → Keep h h' [a] → Arv Z h' a k .char n (vs.set i (.int (nar .char x))) dv → Go p e below s Z EL KC KS Q T' (mkF m (pc + 1) Ls rest)) : Go p e below s Z EL KC KS Q T (mkF m pc Ls (.int x :: .int j :: .ref a :: rest)) := by
  have S : Safe Z EL vm0 h a := Safe.arv W.hZ.alike V (by decide)
  obtain ⟨cl, A, q1, S1, q3, H, G⟩ := id V
  refine W.wrote (sl := j.toNatClampNeg) (v := .int (nar .char x)) ha S (fun locs X => ?_) (fun T' h' W' Ww => K T' h' W' (Keep.of_wr Ww) (Arv.set A q1 S1 q3 H G (fits_nar_char _) Ww i hj hi))
  obtain ⟨_, -, hT, hZ, -⟩ := id W
  exact stC X W.hx hZ hT A (inb_of S1 hin) (g := mkF m pc Ls (.int x :: .int j :: .ref a :: rest)) rfl rfl (W.d hd)
theorem Wk.bastore (W : Wk p l e R s m args below meth c Z a0 EL y bytes ml ret T h vm0 cells slots) {a : Addr} {k : ClassId} {n j x : Int32} {vs : List Value} {dv : Value} (V : Arv Z h a k .byte n vs dv) (i : Nat) (hj : j.toNatClampNeg = i) (hi : i < vs.length) (hin : ¬ j < 0 ∧ j < n) (ha : Z.heap.size ≤ a) (S : Safe Z EL vm0 h a) (hd : decode bytes pc = .ok (.bastore, 1))
    (K : ∀ T' h', Wk p l e R s m args below meth c Z a0 EL y bytes ml ret T' h' vm0 cells slots → Keep h h' [a] → Arv Z h' a k .byte n (vs.set i (.int (nar .byte x))) dv → Go p e below s Z EL KC KS Q T' (mkF m (pc + 1) Ls rest)) : Go p e below s Z EL KC KS Q T (mkF m pc Ls (.int x :: .int j :: .ref a :: rest)) := by
  obtain ⟨cl, A, q1, S1, q3, H, G⟩ := id V
  refine W.wrote (sl := j.toNatClampNeg) (v := .int (nar .byte x)) ha S (fun locs X => ?_) (fun T' h' W' Ww => K T' h' W' (Keep.of_wr Ww) (Arv.set A q1 S1 q3 H G (fits_nar_byte _) Ww i hj hi))
  obtain ⟨_, -, hT, hZ, -⟩ := id W
  exact stB X W.hx hZ hT A (inb_of S1 hin) (g := mkF m pc Ls (.int x :: .int j :: .ref a :: rest)) rfl rfl (W.d hd)
theorem Wk.baload (W : Wk p l e R s m args below meth c Z a0 EL y bytes ml ret T h vm0 cells slots) {a : Addr} {k : ClassId} {n j : Int32} {vs : List Value} {dv v : Value} (V : Arv Z h a k .byte n vs dv) (hin : ¬ j < 0 ∧ j < n) (hv : vs.getD j.toNatClampNeg dv = v) (hd : decode bytes pc = .ok (.baload, 1))
    (K : Go p e below s Z EL KC KS Q T (mkF m (pc + 1) Ls (v :: rest))) : Go p e below s Z EL KC KS Q T (mkF m pc Ls (.int j :: .ref a :: rest)) := by
  obtain ⟨cl, A, q1, S1, q3, H, G⟩ := id V
  obtain ⟨_, X, hT, hZ, -⟩ := id W
  exact Go.step (X.baloadBytes W.hx (j := j) (v := v) (by rw [hT]; exact A.1) (State.isArrayOf_alike hZ.alike A.2.1) A.2.2 (inb_of S1 hin) (H.at (inb_of S1 hin) hv) (g := mkF m pc Ls (.int j :: .ref a :: rest)) rfl rfl (W.d hd)) K
theorem Wk.caload (W : Wk p l e R s m args below meth c Z a0 EL y bytes ml ret T h vm0 cells slots) {a : Addr} {k : ClassId} {n j : Int32} {vs : List Value} {dv v : Value} (V : Arv Z h a k .char n vs dv) (hin : ¬ j < 0 ∧ j < n) (hv : vs.getD j.toNatClampNeg dv = v) (hd : decode bytes pc = .ok (.caload, 1))
    (K : Go p e below s Z EL KC KS Q T (mkF m (pc + 1) Ls (v :: rest))) : Go p e below s Z EL KC KS Q T (mkF m pc Ls (.int j :: .ref a :: rest)) := by
  obtain ⟨cl, A, q1, S1, q3, H, G⟩ := id V
  obtain ⟨_, X, hT, hZ, -⟩ := id W
  exact Go.step (X.caload W.hx (j := j) (v := v) (by rw [hT]; exact A.1) (State.isArrayOf_alike hZ.alike A.2.1) A.2.2 (inb_of S1 hin) (H.at (inb_of S1 hin) hv) (g := mkF m pc Ls (.int j :: .ref a :: rest)) rfl rfl (W.d hd)) K
theorem Wk.aaload (W : Wk p l e R s m args below meth c Z a0 EL y bytes ml ret T h vm0 cells slots) {a : Addr} {k : ClassId} {ty : FieldType} {n j : Int32} {vs : List Value} {dv v : Value} (V : Arv Z h a k ty n vs dv) (ht : ty.isReference = true) (hin : ¬ j < 0 ∧ j < n) (hv : vs.getD j.toNatClampNeg dv = v) (hd : decode bytes pc = .ok (.aaload, 1))
    (K : Go p e below s Z EL KC KS Q T (mkF m (pc + 1) Ls (v :: rest))) : Go p e below s Z EL KC KS Q T (mkF m pc Ls (.int j :: .ref a :: rest)) := by
  obtain ⟨cl, A, q1, S1, q3, H, G⟩ := id V
  obtain ⟨_, X, hT, hZ, -⟩ := id W
  exact Go.step (X.aaload W.hx (j := j) (v := v) (by rw [hT]; exact A.1) (State.isArrayOf_alike hZ.alike A.2.1) ht A.2.2 (inb_of S1 hin) (H.at (inb_of S1 hin) hv) (g := mkF m pc Ls (.int j :: .ref a :: rest)) rfl rfl (W.d hd)) K
/-- clone() of an array -/
theorem Wk.clone (W : Wk p l e R s m args below meth c Z a0 EL y bytes ml ret T h vm0 cells slots) {ad : String} {index : Nat} (w1 : (Cond.methodLink y.cls index ⟨ad, "clone", "()Ljava/lang/Object;"⟩).before a0 Z = true) (w2 : (Cond.sameMethod ad "java/lang/Object" "clone" "()Ljava/lang/Object;").before a0 Z = true) (w3 : (Cond.native ⟨"java/lang/Object", "clone", "()Ljava/lang/Object;"⟩).before a0 Z = true)
    (w4 : (Cond.instanceMethod ⟨"java/lang/Object", "clone", "()Ljava/lang/Object;"⟩).before a0 Z = true) (w5 : (Cond.selects ad ⟨ad, "clone", "()Ljava/lang/Object;"⟩ ⟨"java/lang/Object", "clone", "()Ljava/lang/Object;"⟩).before a0 Z = true) (w6 : (Cond.castable ad "java/lang/Cloneable").before a0 Z = true)
    {a : Addr} {k : ClassId} {ty : FieldType} {n : Int32} {vs : List Value} {dv : Value} (V : Arv Z h a k ty n vs dv) (E : Exa Z h a ad) (hsz : Ls.size = ml) (hd : decode bytes pc = .ok (.invokevirtual index, 3)) (hf : 1 ≤ R.frames) {Wd cap : Nat} (hW : (rest.map fun v => v.category).sum ≤ Wd) (hl : Wd + 14 ≤ R.locals) (hcap : n.toNatClampNeg ≤ cap) (hc : cells + 1 ≤ R.cells) (hsl : slots + cap ≤ R.slots)
    (K : ∀ T' h' b, b = h.size → Wk p l e R s m args below meth c Z a0 EL y bytes ml ret T' h' vm0 (cells + 1) (slots + cap) → Ext h h' → Exa Z h' b ad → Arv Z h' b k ty n vs dv → Go p e below s Z EL KC KS Q T' (mkF m (pc + 3) Ls (.ref b :: rest))) : Go p e below s Z EL KC KS Q T (mkF m pc Ls (.ref a :: rest)) := by
  have hx := W.hx; have hd' := W.d hd
  obtain ⟨locs, X, hT, hZ, hown, ⟨k0, hS, hk⟩, hC, hF, hE, r1, r2, hml, r⟩ := W
  obtain ⟨cl, A, q1, S, q3, H, G⟩ := V
  have FC : FitC Z cl := fitC_of A fun i hi v hv => by rw [H i hi] at hv; cases hv; exact G i hi
  obtain ⟨T', h', X', e', Ex, A', E', st⟩ := cloneA X hx hZ hown w1 w2 w3 w4 w5 w6 hT A E FC (g := mkF m pc Ls (.ref a :: rest)) rfl (by rw [hml]; exact hsz) rfl hd' hf (W := Wd) (by show 2 * 0 + _ ≤ _; omega) hl (by rw [S]; exact hcap) hc hsl
  exact Go.step st (K T' h' _ rfl ⟨locs, X', e', hZ, hown, ⟨k0, hS, Nat.le_trans hk Ex.1⟩, hC.trans (CHr.ext Ex hC.1), hF, ext_trans hE Ex, r1, r2, hml, r⟩ Ex E' ⟨cloneOf cl, A', q1, S, q3, H, G⟩)
theorem Wk.arraylength (W : Wk p l e R s m args below meth c Z a0 EL y bytes ml ret T h vm0 cells slots) {a : Addr} {k : ClassId} {ty : FieldType} {n : Int32} {vs : List Value} {dv : Value} (V : Arv Z h a k ty n vs dv) (hd : decode bytes pc = .ok (.arraylength, 1))
    (K : Go p e below s Z EL KC KS Q T (mkF m (pc + 1) Ls (.int n :: rest))) : Go p e below s Z EL KC KS Q T (mkF m pc Ls (.ref a :: rest)) := by
  obtain ⟨cl, A, q1, S1, q3, H, G⟩ := id V
  obtain ⟨_, X, hT, hZ, -⟩ := id W
  refine Go.step (X.arraylength W.hx (by rw [hT]; exact A.1) (State.isArrayOf_alike hZ.alike A.2.1) (g := mkF m pc Ls (.ref a :: rest)) rfl rfl (W.d hd)) ?_
  rw [len_of S1 q3]; exact K
/-- ldc of a String constant, not read -/
theorem Wk.ldcO (W : Wk p l e R s m args below meth c Z a0 EL y bytes ml ret T h vm0 cells slots) {text : String} {index : Nat} (w : (Cond.stringLink y.cls index text).before a0 Z = true) (wS : ∀ a ∈ Bundle.stringAtoms, a.before a0 Z = true) (hd : decode bytes pc = .ok (.ldc index, 2)) {n : Nat} (hn : 4 * text.toList.length ≤ n) (hbig : n ≤ 536870912) (hc : cells + 2 ≤ R.cells) (hl : slots + (n + 4) ≤ R.slots)
    (K : ∀ T' h' vm1 a, Wk p l e R s m args below meth c Z a0 EL y bytes ml ret T' h' vm1 (cells + 2) (slots + (n + 4)) → Ext h h' → CHr Z EL vm0 h vm1 h' → Go p e below s Z EL KC KS Q T' (mkF m (pc + 2) Ls (.ref a :: rest))) : Go p e below s Z EL KC KS Q T (mkF m pc Ls rest) := by
  have hx := W.hx; have hd' := W.d hd
  obtain ⟨locs, X, hT, hZ, hown, ⟨k0, hS, hk⟩, hC, hF, hE, r1, r2, r3, r4, r5, r6, hEL⟩ := W
  obtain ⟨a, T', h', k1, X', e', E, hS', hk', hZ', hown', hC', -, st⟩ := ldcOH X hx hZ hown w wS hT hS hk hEL hC.1 (g := mkF m pc Ls rest) rfl hd' hn hbig hc hl
  exact Go.step st (K T' h' T'.vm a ⟨locs, X', e', hZ', hown', ⟨k1, hS', hk'⟩, hC.trans hC', hF, ext_trans hE E, r1, r2, r3, r4, r5, r6, hEL⟩ E hC')
/-- ldc of a String constant, read -/
theorem Wk.ldcR (W : Wk p l e R s m args below meth c Z a0 EL y bytes ml ret T h vm0 cells slots) {text : String} {index : Nat} (w : (Cond.stringLink y.cls index text).before a0 Z = true) (wS : ∀ a ∈ Bundle.stringAtoms, a.before a0 Z = true) (hmem : (y.cls, index) ∈ EL) {vs : List Value} {z : Int32} (ht : (∀ c ∈ text.toList, c.toNat < 256) ∧ text.toList.map (fun c => Value.int (Jvm.Lit.byteI c.toNat.toUInt16)) = vs) (hz : ¬ z < 0) (hlz : z.toNatClampNeg = vs.length)
    (hd : decode bytes pc = .ok (.ldc index, 2)) {n : Nat} (hn : 4 * text.toList.length ≤ n) (hbig : n ≤ 536870912) (hc : cells + 2 ≤ R.cells) (hl : slots + (n + 4) ≤ R.slots)
    (K : ∀ T' h' vm1 a b k, Wk p l e R s m args below meth c Z a0 EL y bytes ml ret T' h' vm1 (cells + 2) (slots + (n + 4)) → Ext h h' → CHr Z EL vm0 h vm1 h' → Exa Z h' a "java/lang/String" → Fld Z h' a "java/lang/String" "coder" "B" (.int 0) → Fld Z h' a "java/lang/String" "value" "[B" (.ref b) → Arv Z h' b k .byte z vs (.int 0) → (∀ x, Safe Z EL vm1 h' x → x ≠ a ∧ x ≠ b) → Go p e below s Z EL KC KS Q T' (mkF m (pc + 2) Ls (.ref a :: rest))) : Go p e below s Z EL KC KS Q T (mkF m pc Ls rest) := by
  have hx := W.hx; have hd' := W.d hd
  obtain ⟨locs, X, hT, hZ, hown, ⟨k0, hS, hk⟩, hC, hF, hE, r1, r2, r3, r4, r5, r6, hEL⟩ := W
  obtain ⟨a, T', h', k1, b, k, X', e', E, hS', hk', hZ', hown', q1, q2, q3, q4, -, -, hC', -, q5, st⟩ := ldcCH X hx hZ hown w wS hT hS hk hEL hmem hC.1 ht hz hlz (g := mkF m pc Ls rest) rfl hd' hn hbig hc hl
  exact Go.step st (K T' h' T'.vm a b k ⟨locs, X', e', hZ', hown', ⟨k1, hS', hk'⟩, hC.trans hC', hF, ext_trans hE E, r1, r2, r3, r4, r5, r6, hEL⟩ E hC' q1 q2 q3 q4 q5)
/-- what a call by a contract gives back -/
theorem Wk.back (W : Wk p l e R s m args below meth c Z a0 EL y bytes ml ret T h vm0 cells slots) {y' : MethodName} {bytes' : ByteArray} {ml' : Nat} {ret' : Option FieldType} {rm : Room} {as' : Array Value} {Qc : Option Value → Heap → Prop} {len Wd : Nat} (C : Con l Z EL y' bytes' ml' ret' [] rm as' h Qc) (wc : (Cond.code y' bytes' ml' ret').before a0 Z = true) (wz : (Cond.initialized y'.cls).before a0 Z = true) (hfr : rm.frames + 1 ≤ R.frames) (hlo : Wd + (ml' + 11) + rm.locals ≤ R.locals) :
    BackS l R p e below (s.setVm vm0) args y' len Wd (fun A a => a = as' ∧ A.U.heap = h ∧ A.cells + rm.cells ≤ R.cells ∧ A.slots + rm.slots ≤ R.slots)
      (fun A _ v B => ∃ L, (Qc v B.U.heap ∧ Fr Z.heap.size L ∧ Ext Z.heap B.U.heap) ∧ B.locs = A.locs ++ L ∧ B.cells = A.cells + rm.cells ∧ B.slots = A.slots + rm.slots ∧ CHr Z EL vm0 h B.U.vm B.U.heap) := by
  obtain ⟨locs, X, hT, hZ, hown, -, hC, hF, hE, r1, r2, r3, r4, r5, r6, hEL⟩ := W
  exact backOfSH (Q := fun v h' L => Qc v h' ∧ Fr Z.heap.size L ∧ Ext Z.heap h') C hZ wc wz hfr hlo hEL hC.1
/-- behind such a call -/
theorem Wk.behind (W : Wk p l e R s m args below meth c Z a0 EL y bytes ml ret T h vm0 cells slots) {rm : Room} {Qc : Option Value → Heap → Prop} {locs : List Loc} (hF : Fr Z.heap.size locs) {v : Option Value} {B : Pt}
    (X' : Stand p l e R ((s.setVm vm0).setVm B.U.vm) m args below meth c B.U B.locs B.cells B.slots) (h2 : (s.setVm vm0).Since B.U.vm B.U.heap.size) (hg : T.heap.size ≤ B.U.heap.size) {L : List Loc} (hl : B.locs = locs ++ L) (hq : Qc v B.U.heap ∧ Fr Z.heap.size L ∧ Ext Z.heap B.U.heap) (hc : B.cells = cells + rm.cells) (hs : B.slots = slots + rm.slots) (hC' : CHr Z EL vm0 h B.U.vm B.U.heap) :
    Wk p l e R s m args below meth c Z a0 EL y bytes ml ret B.U B.U.heap B.U.vm (cells + rm.cells) (slots + rm.slots) := by
  obtain ⟨_, X, hT, hZ, hown, ⟨k0, hS, hk⟩, hC, -, hE, r⟩ := W
  obtain ⟨Y, hS', hZ', hown'⟩ := rebS hS (by rw [← hT] at hk; exact hk) X' h2 hg hZ hown
  rw [hl, hc, hs] at Y
  exact ⟨_, Y, rfl, hZ', hown', ⟨_, hS', Nat.le_refl _⟩, hC.trans hC', hF.app hq.2.1, hq.2.2, r⟩
theorem Wk.callS (W : Wk p l e R s m args below meth c Z a0 EL y bytes ml ret T h vm0 cells slots) {index : Nat} {y' : MethodName} {bytes' : ByteArray} {ml' : Nat} {ret' : Option FieldType} {rm : Room} {as' : Array Value} {Qc : Option Value → Heap → Prop} {Wd : Nat}
    (wl : (Cond.methodLink y.cls index y').before a0 Z = true) (wst : (Cond.static y').before a0 Z = true) (wz : (Cond.initialized y'.cls).before a0 Z = true) (wc : (Cond.code y' bytes' ml' ret').before a0 Z = true) (hy : y'.cls ≠ "java/lang/invoke/MethodHandle" ∧ y'.cls ≠ "java/lang/invoke/VarHandle")
    (C : Con l Z EL y' bytes' ml' ret' [] rm as' h Qc) (hfr : rm.frames + 1 ≤ R.frames) (hlo : Wd + (ml' + 11) + rm.locals ≤ R.locals) (argsL : List Value) (rest : List Value) (has : argsL.toArray = as') {ps : List FieldType} {r' : Option FieldType} (hdesc : parseMethodDescriptor y'.desc = some ⟨ps, r'⟩) (hlen : argsL.length = ps.length) (hsz : Ls.size = ml) (hst : st = argsL.reverse ++ rest) (hW : (rest.map fun v => v.category).sum ≤ Wd)
    (hd : decode bytes pc = .ok (.invokestatic index, 3)) (hc : cells + rm.cells ≤ R.cells) (hs : slots + rm.slots ≤ R.slots)
    (K : ∀ v T' h' vm1, Wk p l e R s m args below meth c Z a0 EL y bytes ml ret T' h' vm1 (cells + rm.cells) (slots + rm.slots) → Qc v h' → CHr Z EL vm0 h vm1 h' → Go p e below s Z EL KC KS Q T' (mkF m (pc + 3) Ls (v.toList ++ rest))) : Go p e below s Z EL KC KS Q T (mkF m pc Ls st) := by
  have bk := W.back (len := 3) (Wd := Wd) C wc wz hfr hlo
  have hx := W.hx; have hd' := W.d hd
  obtain ⟨locs, X, hT, hZ, hown, -, -, hF, -, -, -, hml, -⟩ := id W
  obtain ⟨v, vm₁, B, -, X', h2, hg, ⟨L, hq, hl, hcc, hss, hC'⟩, stp⟩ := callSS X hx hown (mvT hZ wl) (mvT hZ wst) (mvT hZ wz) (mvT hZ wc) hy bk (g := mkF m pc Ls st) rfl (by rw [hml]; exact hsz) (argsL := argsL) (rest := rest) (lenOf hdesc hlen) hst (by show 2 * 0 + _ ≤ _; omega) hd' (fun vm₁ _ => ⟨has, hT, hc, hs⟩)
  exact Go.step (fun _ k => stp.trans k) (K v B.U B.U.heap B.U.vm (W.behind (rm := rm) (Qc := Qc) hF X' h2 hg hl hq hcc hss hC') hq.1 hC')
theorem Wk.special (W : Wk p l e R s m args below meth c Z a0 EL y bytes ml ret T h vm0 cells slots) {index : Nat} {y' : MethodName} {bytes' : ByteArray} {ml' : Nat} {rm : Room} {as' : Array Value} {Qc : Option Value → Heap → Prop} {Wd : Nat} (hin : y'.name = "<init>")
    (wl : (Cond.methodLink y.cls index y').before a0 Z = true) (wi : (Cond.instanceMethod y').before a0 Z = true) (wz : (Cond.initialized y'.cls).before a0 Z = true) (wc : (Cond.code y' bytes' ml' none).before a0 Z = true) (hy : y'.cls ≠ "java/lang/invoke/MethodHandle" ∧ y'.cls ≠ "java/lang/invoke/VarHandle")
    (C : Con l Z EL y' bytes' ml' none [] rm as' h Qc) (hfr : rm.frames + 1 ≤ R.frames) (hlo : Wd + (ml' + 11) + rm.locals ≤ R.locals) (a : Addr) (argsL : List Value) (rest : List Value) (has : (.ref a :: argsL).toArray = as') {ps : List FieldType} {r' : Option FieldType} (hdesc : parseMethodDescriptor y'.desc = some ⟨ps, r'⟩) (hlen : argsL.length = ps.length) (hsz : Ls.size = ml) (hst : st = argsL.reverse ++ .ref a :: rest) (hW : (rest.map fun v => v.category).sum ≤ Wd)
    (hd : decode bytes pc = .ok (.invokespecial index, 3)) (hc : cells + rm.cells ≤ R.cells) (hs : slots + rm.slots ≤ R.slots)
    (K : ∀ v T' h' vm1, Wk p l e R s m args below meth c Z a0 EL y bytes ml ret T' h' vm1 (cells + rm.cells) (slots + rm.slots) → Qc v h' → CHr Z EL vm0 h vm1 h' → Go p e below s Z EL KC KS Q T' (mkF m (pc + 3) Ls (v.toList ++ rest))) : Go p e below s Z EL KC KS Q T (mkF m pc Ls st) := by
  have bk := W.back (len := 3) (Wd := Wd) C wc wz hfr hlo
  have hx := W.hx; have hd' := W.d hd
  obtain ⟨locs, X, hT, hZ, hown, -, -, hF, -, -, -, hml, -⟩ := id W
  obtain ⟨v, vm₁, B, -, X', h2, hg, ⟨L, hq, hl, hcc, hss, hC'⟩, stp⟩ := X.specialBackS hx hin hown (mvT hZ wl) (mvT hZ wi) (mvT hZ wc) hy bk (g := mkF m pc Ls st) rfl (by rw [hml]; exact hsz) (Steps.refl _) (a := a) (argsL := argsL) (rest := rest) (lenOf hdesc hlen) hst (by show 2 * 0 + _ ≤ _; omega) hd' (fun vm₁ _ => ⟨has, hT, hc, hs⟩)
  exact Go.step (fun _ k => stp.trans k) (K v B.U B.U.heap B.U.vm (W.behind (rm := rm) (Qc := Qc) hF X' h2 hg hl hq hcc hss hC') hq.1 hC')
theorem Wk.virtual (W : Wk p l e R s m args below meth c Z a0 EL y bytes ml ret T h vm0 cells slots) {index : Nat} {yr y' : MethodName} {D : String} {bytes' : ByteArray} {ml' : Nat} {ret' : Option FieldType} {rm : Room} {as' : Array Value} {Qc : Option Value → Heap → Prop} {Wd : Nat}
    (wl : (Cond.methodLink y.cls index yr).before a0 Z = true) (wd : (Cond.declares yr).before a0 Z = true) (hnf : NotFace (s.setVm vm0) yr) (wsel : (Cond.selects D yr y').before a0 Z = true) (wi : (Cond.instanceMethod y').before a0 Z = true) (wz : (Cond.initialized y'.cls).before a0 Z = true) (wc : (Cond.code y' bytes' ml' ret').before a0 Z = true) (hy : yr.cls ≠ "java/lang/invoke/MethodHandle" ∧ yr.cls ≠ "java/lang/invoke/VarHandle")
    (C : Con l Z EL y' bytes' ml' ret' [] rm as' h Qc) (hfr : rm.frames + 1 ≤ R.frames) (hlo : Wd + (ml' + 11) + rm.locals ≤ R.locals) (a : Addr) (E : Exa Z h a D) (argsL : List Value) (rest : List Value) (has : (.ref a :: argsL).toArray = as') {ps : List FieldType} {r' : Option FieldType} (hdesc : parseMethodDescriptor yr.desc = some ⟨ps, r'⟩) (hlen : argsL.length = ps.length) (hsz : Ls.size = ml) (hst : st = argsL.reverse ++ .ref a :: rest) (hW : (rest.map fun v => v.category).sum ≤ Wd)
    (hd : decode bytes pc = .ok (.invokevirtual index, 3)) (hc : cells + rm.cells ≤ R.cells) (hs : slots + rm.slots ≤ R.slots)
    (K : ∀ v T' h' vm1, Wk p l e R s m args below meth c Z a0 EL y bytes ml ret T' h' vm1 (cells + rm.cells) (slots + rm.slots) → Qc v h' → CHr Z EL vm0 h vm1 h' → Go p e below s Z EL KC KS Q T' (mkF m (pc + 3) Ls (v.toList ++ rest))) : Go p e below s Z EL KC KS Q T (mkF m pc Ls st) := by
  have bk := W.back (len := 3) (Wd := Wd) C wc wz hfr hlo
  have hx := W.hx; have hd' := W.d hd
  obtain ⟨locs, X, hT, hZ, hown, -, -, hF, -, -, -, hml, -⟩ := id W
  obtain ⟨cB, kB, i1, -, i3⟩ := isOf hZ hT E
  obtain ⟨v, vm₁, B, -, X', h2, hg, ⟨L, hq, hl, hcc, hss, hC'⟩, stp⟩ := X.virtualBackS hx hown (mvT hZ wl) (mvT hZ wd) hnf (mvT hZ wsel) (mvT hZ wi) hy bk i1 i3 (g := mkF m pc Ls st) rfl (by rw [hml]; exact hsz) (Steps.refl _) (argsL := argsL) (rest := rest) (lenOf hdesc hlen) hst (by show 2 * 0 + _ ≤ _; omega) hd' (fun vm₁ _ => ⟨has, hT, hc, hs⟩)
  exact Go.step (fun _ k => stp.trans k) (K v B.U B.U.heap B.U.vm (W.behind (rm := rm) (Qc := Qc) hF X' h2 hg hl hq hcc hss hC') hq.1 hC')
theorem Wk.iface (W : Wk p l e R s m args below meth c Z a0 EL y bytes ml ret T h vm0 cells slots) {index count : Nat} {yr y' : MethodName} {D : String} {bytes' : ByteArray} {ml' : Nat} {ret' : Option FieldType} {rm : Room} {as' : Array Value} {Qc : Option Value → Heap → Prop} {Wd : Nat}
    (wl : (Cond.methodLink y.cls index yr).before a0 Z = true) (wd : (Cond.declares yr).before a0 Z = true) (wf : (Cond.interfaceMethod yr.cls yr.cls yr.name yr.desc).before a0 Z = true) (wsel : (Cond.selects D yr y').before a0 Z = true) (wi : (Cond.instanceMethod y').before a0 Z = true) (wp : (Cond.publicMethod y').before a0 Z = true) (wu : (Cond.unhidden D yr.name yr.desc).before a0 Z = true) (wk : (Cond.castable D yr.cls).before a0 Z = true) (wz : (Cond.initialized y'.cls).before a0 Z = true) (wc : (Cond.code y' bytes' ml' ret').before a0 Z = true) (hy : yr.cls ≠ "java/lang/invoke/MethodHandle" ∧ yr.cls ≠ "java/lang/invoke/VarHandle")
    (C : Con l Z EL y' bytes' ml' ret' [] rm as' h Qc) (hfr : rm.frames + 1 ≤ R.frames) (hlo : Wd + (ml' + 11) + rm.locals ≤ R.locals) (a : Addr) (E : Exa Z h a D) (argsL : List Value) (rest : List Value) (has : (.ref a :: argsL).toArray = as') {ps : List FieldType} {r' : Option FieldType} (hdesc : parseMethodDescriptor yr.desc = some ⟨ps, r'⟩) (hlen : argsL.length = ps.length) (hsz : Ls.size = ml) (hst : st = argsL.reverse ++ .ref a :: rest) (hW : (rest.map fun v => v.category).sum ≤ Wd)
    (hd : decode bytes pc = .ok (.invokeinterface index count, 5)) (hc : cells + rm.cells ≤ R.cells) (hs : slots + rm.slots ≤ R.slots)
    (K : ∀ v T' h' vm1, Wk p l e R s m args below meth c Z a0 EL y bytes ml ret T' h' vm1 (cells + rm.cells) (slots + rm.slots) → Qc v h' → CHr Z EL vm0 h vm1 h' → Go p e below s Z EL KC KS Q T' (mkF m (pc + 5) Ls (v.toList ++ rest))) : Go p e below s Z EL KC KS Q T (mkF m pc Ls st) := by
  have bk := W.back (len := 5) (Wd := Wd) C wc wz hfr hlo
  have hx := W.hx; have hd' := W.d hd
  obtain ⟨locs, X, hT, hZ, hown, -, -, hF, -, -, -, hml, -⟩ := id W
  obtain ⟨cB, kB, i1, i2, i3⟩ := isOf hZ hT E
  obtain ⟨v, vm₁, B, -, X', h2, hg, ⟨L, hq, hl, hcc, hss, hC'⟩, stp⟩ := X.interfaceBackS hx hown (mvT hZ wl) (mvT hZ wd) (mvT hZ wf (by simp [Cond.onTables, Cond.keepsFace, Cond.faceAtom, Cond.keeps, Cond.steady, hy.1, hy.2])) (mvT hZ wsel) (mvT hZ wi) (mvT hZ wp) (mvT hZ wu) (mvT hZ wk) hy bk i1 i2 i3 (g := mkF m pc Ls st) rfl (by rw [hml]; exact hsz) (Steps.refl _) (argsL := argsL) (rest := rest) (lenOf hdesc hlen) hst (by show 2 * 0 + _ ≤ _; omega) hd' (fun vm₁ _ => ⟨has, hT, hc, hs⟩)
  exact Go.step (fun _ k => stp.trans k) (K v B.U B.U.heap B.U.vm (W.behind (rm := rm) (Qc := Qc) hF X' h2 hg hl hq hcc hss hC') hq.1 hC')
/-- behind a call by a law that interns nothing -/
theorem Wk.behindB (W : Wk p l e R s m args below meth c Z a0 EL y bytes ml ret T h vm0 cells slots) {kc ks : Nat} {locs L : List Loc} {ws : List Addr} (hF : Fr Z.heap.size locs) {B : Pt} (X' : Stand p l e R (s.setVm vm0) m args below meth c B.U B.locs B.cells B.slots) (hl : B.locs = locs ++ L) (hc : B.cells = cells + kc) (hs : B.slots = slots + ks) (hFL : Fr Z.heap.size L) (Kp : Keep h B.U.heap ws) (hsf : ∀ x ∈ ws, Safe Z EL vm0 h x) (hge : ∀ x ∈ ws, Z.heap.size ≤ x) :
    Wk p l e R s m args below meth c Z a0 EL y bytes ml ret B.U B.U.heap vm0 (cells + kc) (slots + ks) := by
  obtain ⟨_, X, hT, hZ, hown, ⟨k0, hS, hk⟩, hC, -, hE, r⟩ := W
  rw [hl, hc, hs] at X'
  exact ⟨_, X', rfl, hZ, hown, ⟨k0, hS, Nat.le_trans hk Kp.1⟩, hC.trans (CHr.keep Kp hsf hC.1), hF.app hFL, ext_keep hE Kp hge, r⟩
theorem Wk.specialB (W : Wk p l e R s m args below meth c Z a0 EL y bytes ml ret T h vm0 cells slots) {index : Nat} {y' : MethodName} {bytes' : ByteArray} {ml' : Nat} {as' : Array Value} {Qb : Option Value → Heap → List Loc → Prop} {kc ks Wd : Nat} (hin : y'.name = "<init>")
    (wl : (Cond.methodLink y.cls index y').before a0 Z = true) (wi : (Cond.instanceMethod y').before a0 Z = true) (wc : (Cond.code y' bytes' ml' none).before a0 Z = true) (hy : y'.cls ≠ "java/lang/invoke/MethodHandle" ∧ y'.cls ≠ "java/lang/invoke/VarHandle")
    (bk : Back l R p e below (s.setVm vm0) args y' 3 Wd (fun A a => a = as' ∧ A.U.heap = h ∧ A.cells + kc ≤ R.cells ∧ A.slots + ks ≤ R.slots) (fun A _ v B => ∃ L, Qb v B.U.heap L ∧ B.locs = A.locs ++ L ∧ B.cells = A.cells + kc ∧ B.slots = A.slots + ks))
    (ws : List Addr) (hQ : ∀ v h' L, Qb v h' L → Fr Z.heap.size L ∧ Keep h h' ws) (hsf : ∀ x ∈ ws, Safe Z EL vm0 h x) (hge : ∀ x ∈ ws, Z.heap.size ≤ x)
    (a : Addr) (argsL : List Value) (rest : List Value) (has : (.ref a :: argsL).toArray = as') {ps : List FieldType} {r' : Option FieldType} (hdesc : parseMethodDescriptor y'.desc = some ⟨ps, r'⟩) (hlen : argsL.length = ps.length) (hsz : Ls.size = ml) (hst : st = argsL.reverse ++ .ref a :: rest) (hW : (rest.map fun v => v.category).sum ≤ Wd)
    (hd : decode bytes pc = .ok (.invokespecial index, 3)) (hc : cells + kc ≤ R.cells) (hs : slots + ks ≤ R.slots)
    (K : ∀ v T' h' L, Wk p l e R s m args below meth c Z a0 EL y bytes ml ret T' h' vm0 (cells + kc) (slots + ks) → Qb v h' L → Go p e below s Z EL KC KS Q T' (mkF m (pc + 3) Ls (v.toList ++ rest))) : Go p e below s Z EL KC KS Q T (mkF m pc Ls st) := by
  have hx := W.hx; have hd' := W.d hd
  obtain ⟨locs, X, hT, hZ, hown, -, -, hF, -, -, -, hml, -⟩ := id W
  obtain ⟨v, vm₁, B, -, X', ⟨L, hq, hl, hcc, hss⟩, stp⟩ := X.specialBack hx hin hown (mvT hZ wl) (mvT hZ wi) (mvT hZ wc) hy bk (g := mkF m pc Ls st) rfl (by rw [hml]; exact hsz) (Steps.refl _) (a := a) (argsL := argsL) (rest := rest) (lenOf hdesc hlen) hst (by show 2 * 0 + _ ≤ _; omega) hd' (fun vm₁ _ => ⟨has, hT, hc, hs⟩)
  obtain ⟨f1, f2⟩ := hQ _ _ _ hq
  exact Go.step (fun _ k => stp.trans k) (K v B.U B.U.heap L (W.behindB hF X' hl hcc hss f1 f2 hsf hge) hq)
theorem Wk.virtualB (W : Wk p l e R s m args below meth c Z a0 EL y bytes ml ret T h vm0 cells slots) {index : Nat} {yr y' : MethodName} {D : String} {as' : Array Value} {Qb : Option Value → Heap → List Loc → Prop} {kc ks Wd : Nat}
    (wl : (Cond.methodLink y.cls index yr).before a0 Z = true) (wd : (Cond.declares yr).before a0 Z = true) (hnf : NotFace (s.setVm vm0) yr) (wsel : (Cond.selects D yr y').before a0 Z = true) (wi : (Cond.instanceMethod y').before a0 Z = true) (hy : yr.cls ≠ "java/lang/invoke/MethodHandle" ∧ yr.cls ≠ "java/lang/invoke/VarHandle")
    (bk : Back l R p e below (s.setVm vm0) args y' 3 Wd (fun A a => a = as' ∧ A.U.heap = h ∧ A.cells + kc ≤ R.cells ∧ A.slots + ks ≤ R.slots) (fun A _ v B => ∃ L, Qb v B.U.heap L ∧ B.locs = A.locs ++ L ∧ B.cells = A.cells + kc ∧ B.slots = A.slots + ks))
    (ws : List Addr) (hQ : ∀ v h' L, Qb v h' L → Fr Z.heap.size L ∧ Keep h h' ws) (hsf : ∀ x ∈ ws, Safe Z EL vm0 h x) (hge : ∀ x ∈ ws, Z.heap.size ≤ x)
    (a : Addr) (E : Exa Z h a D) (argsL : List Value) (rest : List Value) (has : (.ref a :: argsL).toArray = as') {ps : List FieldType} {r' : Option FieldType} (hdesc : parseMethodDescriptor yr.desc = some ⟨ps, r'⟩) (hlen : argsL.length = ps.length) (hsz : Ls.size = ml) (hst : st = argsL.reverse ++ .ref a :: rest) (hW : (rest.map fun v => v.category).sum ≤ Wd)
    (hd : decode bytes pc = .ok (.invokevirtual index, 3)) (hc : cells + kc ≤ R.cells) (hs : slots + ks ≤ R.slots)
    (K : ∀ v T' h' L, Wk p l e R s m args below meth c Z a0 EL y bytes ml ret T' h' vm0 (cells + kc) (slots + ks) → Qb v h' L → Go p e below s Z EL KC KS Q T' (mkF m (pc + 3) Ls (v.toList ++ rest))) : Go p e below s Z EL KC KS Q T (mkF m pc Ls st) := by
  have hx := W.hx; have hd' := W.d hd
  obtain ⟨locs, X, hT, hZ, hown, -, -, hF, -, -, -, hml, -⟩ := id W
  obtain ⟨cB, kB, i1, -, i3⟩ := isOf hZ hT E
  obtain ⟨v, vm₁, B, -, X', ⟨L, hq, hl, hcc, hss⟩, stp⟩ := X.virtualBack hx hown (mvT hZ wl) (mvT hZ wd) hnf (mvT hZ wsel) (mvT hZ wi) hy bk i1 i3 (g := mkF m pc Ls st) rfl (by rw [hml]; exact hsz) (Steps.refl _) (argsL := argsL) (rest := rest) (lenOf hdesc hlen) hst (by show 2 * 0 + _ ≤ _; omega) hd' (fun vm₁ _ => ⟨has, hT, hc, hs⟩)
  obtain ⟨f1, f2⟩ := hQ _ _ _ hq
  exact Go.step (fun _ k => stp.trans k) (K v B.U B.U.heap L (W.behindB hF X' hl hcc hss f1 f2 hsf hge) hq)
theorem Wk.ldcI (W : Wk p l e R s m args below meth c Z a0 EL y bytes ml ret T h vm0 cells slots) {index : Nat} {v : Int32} (w : (Cond.constant y.cls index v).before a0 Z = true) (hd : decode bytes pc = .ok (.ldc index, 2)) (K : Go p e below s Z EL KC KS Q T (mkF m (pc + 2) Ls (.int v :: rest))) : Go p e below s Z EL KC KS Q T (mkF m pc Ls rest) := by
  obtain ⟨_, X, -, hZ, hown, -⟩ := id W
  exact Go.step (X.ldcInt W.hx hown (mvT hZ w) (g := mkF m pc Ls rest) rfl (W.d hd)) K
theorem Wk.ldc2 (W : Wk p l e R s m args below meth c Z a0 EL y bytes ml ret T h vm0 cells slots) {index : Nat} {v : Int64} (w : (Cond.constantLong y.cls index v).before a0 Z = true) (hd : decode bytes pc = .ok (.ldc2_w index, 3)) (K : Go p e below s Z EL KC KS Q T (mkF m (pc + 3) Ls (.long v :: rest))) : Go p e below s Z EL KC KS Q T (mkF m pc Ls rest) := by
  obtain ⟨_, X, -, hZ, hown, -⟩ := id W
  exact Go.step (X.ldc2Long W.hx hown (mvT hZ w) (g := mkF m pc Ls rest) rfl (W.d hd)) K
/-- the end of a walk -/
theorem Wk.leave (W : Wk p l e R s m args below meth c Z a0 EL y bytes ml ret T h vm0 cells slots) {v : Option Value} (hv : ret = none → v = none) (hq : Q v h) (hc : cells ≤ KC) (hs : slots ≤ KS)
    (f : ∀ (locs : List Loc) (fs : List Frame), Stand p l e R (s.setVm vm0) m args below meth c T locs cells slots → meth.sig.returnType = ret → (∀ (f : JFrame) (acts : List Action), f.method = m → f.locked = none → f.entered = [] → (doReturn e (T.setTop f) acts v).1 = T.setFrames fs) → Steps p.tables e below (T.setTop g) (T.setFrames fs)) : Go p e below s Z EL KC KS Q T g := by
  obtain ⟨locs, X, hT, hZ, hown, ⟨k0, hS, hk⟩, hC, hF, hE, r1, r2, r3, r4, r5, r6, hEL⟩ := W
  obtain ⟨fs, hr, hrun, hended, hW⟩ := X.leaveW hS (by rw [hT]; exact hk) (v := v) (fun q => hv (r4.symm.trans q))
  refine ⟨_, _, f locs fs X r4 hr, hrun, hended, v, locs, rfl, ⟨?_, hF, ?_⟩, ?_, hW.1, hW.2.1, hW.2.2.1, hW.2.2.2.mono hc hs⟩
  · show Q v T.heap
    rw [hT]; exact hq
  · show Ext Z.heap T.heap
    rw [hT]; exact hE
  · show CHr Z EL s.vm s.heap T.vm T.heap
    rw [hT]; exact hC.trans (CHv.at X hZ hEL hC.1)
theorem Wk.retV (W : Wk p l e R s m args below meth c Z a0 EL y bytes ml none T h vm0 cells slots) (hd : decode bytes pc = .ok (.return_, 1)) (hq : Q none h) (hc : cells ≤ KC) (hs : slots ≤ KS) : Go p e below s Z EL KC KS Q T (mkF m pc Ls []) :=
  W.leave (fun _ => rfl) hq hc hs fun locs fs X hret hr => X.returnOut W.hx hret (W.d hd) hr
theorem Wk.retN {t : FieldType} (W : Wk p l e R s m args below meth c Z a0 EL y bytes ml (some t) T h vm0 cells slots) (ht : t = .boolean ∨ t = .byte ∨ t = .char ∨ t = .short) {z : Int32} (hd : decode bytes pc = .ok (.ireturn, 1)) (hq : Q (some (.int (nar t z))) h) (hc : cells ≤ KC) (hs : slots ≤ KS) : Go p e below s Z EL KC KS Q T (mkF m pc Ls (.int z :: rest)) :=
  W.leave (fun q => by cases q) hq hc hs fun locs fs X hret hr => RoadKit.retN X W.hx hret ht (W.d hd) hr
theorem Wk.retI (W : Wk p l e R s m args below meth c Z a0 EL y bytes ml (some .int) T h vm0 cells slots) {z : Int32} (hd : decode bytes pc = .ok (.ireturn, 1)) (hq : Q (some (.int z)) h) (hc : cells ≤ KC) (hs : slots ≤ KS) : Go p e below s Z EL KC KS Q T (mkF m pc Ls (.int z :: rest)) :=
  W.leave (fun q => by cases q) hq hc hs fun locs fs X hret hr => retOut X W.hx hret rfl (Or.inl ⟨rfl, Or.inl rfl, z, rfl⟩) (W.d hd) hr
theorem Wk.retL (W : Wk p l e R s m args below meth c Z a0 EL y bytes ml (some .long) T h vm0 cells slots) {z : Int64} (hd : decode bytes pc = .ok (.lreturn, 1)) (hq : Q (some (.long z)) h) (hc : cells ≤ KC) (hs : slots ≤ KS) : Go p e below s Z EL KC KS Q T (mkF m pc Ls (.long z :: rest)) :=
  W.leave (fun q => by cases q) hq hc hs fun locs fs X hret hr => retOut X W.hx hret rfl (Or.inr (Or.inl ⟨rfl, rfl, z, rfl⟩)) (W.d hd) hr
theorem Wk.retR {t : FieldType} (W : Wk p l e R s m args below meth c Z a0 EL y bytes ml (some t) T h vm0 cells slots) (ht : t.isReference = true) {v : Value} (hv : v.isRef = true) (hnr : narrow t v = v) (hd : decode bytes pc = .ok (.areturn, 1)) (hq : Q (some v) h) (hc : cells ≤ KC) (hs : slots ≤ KS) : Go p e below s Z EL KC KS Q T (mkF m pc Ls (v :: rest)) :=
  W.leave (fun q => by cases q) hq hc hs fun locs fs X hret hr => retOut X W.hx hret hnr (Or.inr (Or.inr (Or.inr (Or.inr ⟨rfl, ht, hv⟩)))) (W.d hd) hr
end Walk
section Facts
variable {Z : State} {h h' : Heap} {a b o : Addr} {C K S : String} {a0 : Array Value} {EL : List (String × Nat)} {vm : Vm}
theorem nin1 {x y : Addr} (q : x ≠ y) : x ∉ [y] := ninS q nin0
/-- K is no interface -/
def NoFace (Z : State) (K : String) : Prop := ∃ (t : ClassId) (kt : Class), Z.vm.findClass K = some t ∧ Z.vm.classes[t]? = some kt ∧ kt.isInterface = false
theorem nf_inst {n : Nat} (wk : (Cond.instantiable K n).before a0 Z = true) : NoFace Z K := by
  obtain ⟨t, kt, g1, g2, -, g4, -⟩ := Cond.instantiable_spec wk
  exact ⟨t, kt, g1, g2, by simp only [Bool.or_eq_false_iff] at g4; exact g4.1⟩
theorem nf_sel {y : MethodName} (w : (Cond.selects y.cls y y).before a0 Z = true) : NoFace Z y.cls := by
  obtain ⟨c, r, m, -, -, h3, -, mk, h5, h6⟩ := Cond.selects_spec w
  exact ⟨m.cls, mk, findClass_of_methodNamed h3, h5, h6⟩
/-- C's chain of superclasses does not meet K -/
theorem NSr {O : String} (w : (Cond.noSuperclass O).before a0 Z = true) (wk : NoFace Z K) (hn : O ≠ K) : NS Z O K := by
  obtain ⟨c, k, h1, h2, h3, -, -⟩ := Cond.noSuperclass_spec w
  obtain ⟨t, kt, g1, -⟩ := wk
  have ne := ids_ne h1 g1 hn
  refine ⟨c, t, h1, g1, fun fuel => ?_⟩
  cases fuel with
  | zero => rfl
  | succ f => simp [Vm.isSubclassAux, ne, h2, h3]
theorem NSno (w : (Cond.superclass C S).before a0 Z = true) (wk : NoFace Z K) (q : NS Z C K) (hn : C ≠ K) : ∃ c t, Z.vm.findClass C = some c ∧ Z.vm.findClass K = some t ∧ Z.vm.assignable c t = false := by
  obtain ⟨c, t, h0, g0, n3⟩ := q
  obtain ⟨p, k, kp, h1, h2, h3, h4, h5, -, h7⟩ := Cond.superclass_spec h0 w
  obtain ⟨t', kt, g1, g2, g7⟩ := wk
  cases g0.symm.trans g1
  have ne := ids_ne h0 g0 hn
  refine ⟨c, t, h0, g0, ?_⟩
  show Z.vm.assignableAux (255 + 1) c t = false
  cases hk : kt.kind <;> simp [Vm.assignableAux, ne, h2, g2, h5, hk, g7, Vm.isSubclass, n3]
/-- a String that is being made is none that the tables book: it has no array yet -/
theorem Safe.blank (hal : Z.vm.Alike vm) (E : Exa Z h a "java/lang/String") (F : Fld Z h a "java/lang/String" "value" "[B" .null) : Safe Z EL vm h a := fun B => by
  obtain ⟨cell, k, e1, e2, e3, -, -⟩ := E
  obtain ⟨cell', cf, kf, i, f, f1, f2, -, -, -, -, f7⟩ := F
  cases f1.symm.trans e1
  obtain ⟨pp, -, u, a', -, q, -, F', hy⟩ := B
  rcases hy with rfl | rfl
  · cases (show h[q.sa]? = some q.sC from F'.ha).symm.trans e1
    obtain ⟨cS, ⟨⟨-, -, -, ⟨c1, k1, i1, g1, -⟩, -, -, -, v1, -⟩, -⟩, -⟩ := F'
    obtain ⟨k3, g3, -⟩ := State.fieldFound?_setVm (s := Z) hal f2
    have g4 := (show (Wst Z vm h).fieldFound? "java/lang/String" "value" "[B" = _ from g3).symm.trans g1
    simp only [Option.some.injEq, Prod.mk.injEq] at g4
    rw [← g4.2.2.2, f7] at v1
    cases v1
  · cases (show h[q.sd]? = some q.SA from F'.hd).symm.trans e1
    obtain ⟨cS, ⟨⟨-, -, -, -, -, -, -, -, -, -, ⟨-, kB, hkB, compB, hkindB⟩, -⟩, -, -⟩, -, hB, -⟩ := F'
    have hB' : vm.findClass "[B" = some q.SA.cls := hB
    rw [hal.findClass] at hB'
    exact (ids_ne (C := "[B") (K := "java/lang/String") hB' e2 (by decide)) rfl
/-- a String: its signs, each below 256 -/
def Str (Z : State) (h : Heap) (a : Addr) (cs : List Int32) : Prop := ∃ (t : Addr) (kb : ClassId), Exa Z h a "java/lang/String" ∧ Fld Z h a "java/lang/String" "value" "[B" (.ref t) ∧ Fld Z h a "java/lang/String" "coder" "B" (.int 0) ∧ Arv Z h t kb .byte (Int32.ofNat cs.length) (cs.map fun c => Value.int c.toInt8.toInt32) (.int 0) ∧ (∀ c ∈ cs, ¬ c < 0 ∧ ¬ (255 : Int32) < c) ∧ cs.length ≤ 4000
variable {cs : List Int32} {ws : List Addr}
theorem Str.exa (F : Str Z h a cs) : Exa Z h a "java/lang/String" := by obtain ⟨_, _, r, -⟩ := F; exact r
theorem Str.ext (F : Str Z h a cs) (E : Ext h h') : Str Z h' a cs := by
  obtain ⟨t, kb, q1, q2, q3, q4, r⟩ := F
  exact ⟨t, kb, q1.ext E, q2.ext E, q3.ext E, q4.ext E, r⟩
theorem Str.keep0 (F : Str Z h a cs) (K : Keep h h' []) : Str Z h' a cs := F.ext (ext_keep0 K)
theorem Str.keepE {n : Nat} (F : Str Z h a cs) (K : Keep h h' [o]) (E : Exa Z h o C) (hn : C ≠ "java/lang/String") (wi : (Cond.instantiable C n).before a0 Z = true) : Str Z h' a cs := by
  obtain ⟨t, kb, q1, q2, q3, q4, r⟩ := F
  have n1 : a ≠ o := fun q => (Exa.ne E q1 hn) q.symm
  have n2 : t ≠ o := fun q => (Exa.neArv E q4 wi) q.symm
  exact ⟨t, kb, q1.keep K, q2.keep K (nin1 n1), q3.keep K (nin1 n1), q4.keep K (nin1 n2), r⟩
theorem arv_sort {k k' : ClassId} {ty ty' : FieldType} {z z' : Int32} {vs vs' : List Value} {d d' : Value} (A : Arv Z h a k ty z vs d) (B : Arv Z h b k' ty' z' vs' d') (hn : ty ≠ ty') : a ≠ b := fun q => by
  subst q
  obtain ⟨c1, ⟨e1, ⟨-, k1, f1, m1, g1⟩, -⟩, -⟩ := A
  obtain ⟨c2, ⟨e2, ⟨-, k2, f2, m2, g2⟩, -⟩, -⟩ := B
  cases e1.symm.trans e2
  cases f1.symm.trans f2
  have := g1.symm.trans g2
  injection this with _ e
  exact hn e
theorem Str.keepC {n : Nat} {k : ClassId} {ty : FieldType} {z : Int32} {vs : List Value} {d : Value} (F : Str Z h a cs) (K : Keep h h' [o]) (V : Arv Z h o k ty z vs d) (ht : FieldType.byte ≠ ty) (wi : (Cond.instantiable "java/lang/String" n).before a0 Z = true) : Str Z h' a cs := by
  obtain ⟨t, kb, q1, q2, q3, q4, r⟩ := F
  have n1 : a ≠ o := Exa.neArv q1 V wi
  have n2 : t ≠ o := arv_sort q4 V ht
  exact ⟨t, kb, q1.keep K, q2.keep K (nin1 n1), q3.keep K (nin1 n1), q4.keep K (nin1 n2), r⟩
theorem Str.keepS {n : Nat} (F : Str Z h a cs) (K : Keep h h' [o]) (E : Exa Z h o C) (wi : (Cond.instantiable C n).before a0 Z = true) (n1 : a ≠ o) : Str Z h' a cs := by
  obtain ⟨t, kb, q1, q2, q3, q4, r⟩ := F
  have n2 : t ≠ o := fun q => (Exa.neArv E q4 wi) q.symm
  exact ⟨t, kb, q1.keep K, q2.keep K (nin1 n1), q3.keep K (nin1 n1), q4.keep K (nin1 n2), r⟩
abbrev Sm (c : Int32) : Prop := ¬ c < 0 ∧ ¬ (255 : Int32) < c
theorem sm0 {P : Int32 → Prop} : ∀ x ∈ ([] : List Int32), P x := fun _ q => nomatch q
theorem smS {P : Int32 → Prop} {y : Int32} {L : List Int32} (q : P y) (r : ∀ x ∈ L, P x) : ∀ x ∈ y :: L, P x := fun x z => (List.mem_cons.mp z).elim (fun u => u ▸ q) (r x)
abbrev B2 (z : Int32) : Prop := z = 0 ∨ z = 1
abbrev T3 (z : Int32) : Prop := z = 0 ∨ z = 1 ∨ z = 2
/-- the signs of a text of at most two -/
def sel (n c0 c1 : Int32) : List Int32 := if n = 0 then [] else if n = 1 then [c0] else [c0, c1]
theorem sel_eq {n k a b c d : Int32} (hn : T3 n) (hk : T3 k) : sel n a b = sel k c d ↔ n = k ∧ (n < 1 ∨ a = c) ∧ (n < 2 ∨ b = d) := by
  rcases hn with rfl | rfl | rfl <;> rcases hk with rfl | rfl | rfl <;> simp [sel] <;> decide
theorem sel_sm {n a b : Int32} (ha : Sm a) (hb : Sm b) : ∀ c ∈ sel n a b, Sm c := by
  unfold sel
  split
  · exact sm0
  · split
    · exact smS ha sm0
    · exact smS ha (smS hb sm0)
/-- numbers below 256 -/
theorem fin256 {P : Int32 → Prop} (t : ∀ k : Fin 256, P (Int32.ofNat k.val)) {c : Int32} (h0 : ¬ c < 0) (h1 : ¬ (255 : Int32) < c) : P c := by
  rw [Int32.lt_iff_toInt_lt] at h0 h1
  have e0 : (0 : Int32).toInt = 0 := rfl
  have e1 : (255 : Int32).toInt = 255 := rfl
  have e : Int32.ofNat c.toInt.toNat = c := by
    rw [show Int32.ofNat c.toInt.toNat = Int32.ofInt (c.toInt.toNat : Int) from rfl, Int.toNat_of_nonneg (by omega)]; exact Int32.ofInt_toInt c
  have q := t ⟨c.toInt.toNat, by omega⟩
  rw [e] at q; exact q
theorem nar_small {c : Int32} (h : ¬ c < 0 ∧ ¬ (255 : Int32) < c) : nar .char c = c := fin256 (P := fun c => nar .char c = c) (by decide +kernel) h.1 h.2
theorem nar_byte8 {c : Int32} (h : ¬ c < 0 ∧ ¬ (255 : Int32) < c) : nar .byte (c.toInt8.toInt32) = c.toInt8.toInt32 := fin256 (P := fun c => nar .byte (c.toInt8.toInt32) = c.toInt8.toInt32) (by decide +kernel) h.1 h.2
theorem low_back {c : Int32} (h : ¬ c < 0 ∧ ¬ (255 : Int32) < c) : c.toInt8.toInt32 &&& 255 = c := fin256 (P := fun c => c.toInt8.toInt32 &&& 255 = c) (by decide +kernel) h.1 h.2
theorem low_inj {x y : Int32} (hx : Sm x) (hy : Sm y) (e : x.toInt8.toInt32 = y.toInt8.toInt32) : x = y := by
  have q := low_back hx
  rw [e, low_back hy] at q; exact q.symm
theorem Str.uniq {ds : List Int32} (F : Str Z h a cs) (G : Str Z h a ds) : cs = ds := by
  obtain ⟨t, kb, -, q2, -, q4, q5, q6⟩ := F
  obtain ⟨t', kb', -, r2, -, r4, r5, r6⟩ := G
  have et : t = t' := by
    obtain ⟨c1, _, _, _, _, h1, h2, -, -, -, -, h7⟩ := q2
    obtain ⟨c2, _, _, _, _, g1, g2, -, -, -, -, g7⟩ := r2
    cases h1.symm.trans g1; cases h2.symm.trans g2
    have := h7.symm.trans g7
    simpa using this
  subst et
  obtain ⟨c1, A1, -, s1, -, H1, -⟩ := q4
  obtain ⟨c2, A2, -, s2, -, H2, -⟩ := r4
  cases A1.1.symm.trans A2.1
  have n32 : ∀ n : Nat, n ≤ 4000 → (Int32.ofNat n).toNatClampNeg = n := fun n hn => by
    rw [Int32.toNatClampNeg, Int32.toInt_ofNat_of_lt (by omega)]; rfl
  rw [n32 _ q6] at s1
  rw [n32 _ r6] at s2
  have hl : cs.length = ds.length := s1.symm.trans s2
  apply List.ext_getElem hl
  intro i h1 h2
  have e1 := H1 i (by omega)
  have e2 := H2 i (by omega)
  rw [e1] at e2
  simp only [List.getD_eq_getElem?_getD, List.getElem?_map, List.getElem?_eq_getElem h1, List.getElem?_eq_getElem h2, Option.map_some, Option.getD_some, Option.some.injEq, Value.int.injEq] at e2
  exact low_inj (q5 _ (List.getElem_mem h1)) (r5 _ (List.getElem_mem h2)) e2
theorem maskN (k : Nat) (m : Int32) (hm : m.toBitVec.toNat = k) (x : Int32) : ∃ j : Nat, j ≤ k ∧ x &&& m = Int32.ofNat j := by
  refine ⟨(x &&& m).toBitVec.toNat, ?_, ?_⟩
  · simp only [Int32.toBitVec_and, BitVec.toNat_and]
    rw [hm]; exact Nat.and_le_right
  · apply Int32.toBitVec_inj.mp
    show _ = BitVec.ofNat 32 _
    rw [BitVec.ofNat_toNat]; simp
theorem maskL (k : Nat) (m : Int64) (hm : m.toBitVec.toNat = k) (x : Int64) : ∃ j : Nat, j ≤ k ∧ x &&& m = Int64.ofNat j := by
  refine ⟨(x &&& m).toBitVec.toNat, ?_, ?_⟩
  · simp only [Int64.toBitVec_and, BitVec.toNat_and]
    rw [hm]; exact Nat.and_le_right
  · apply Int64.toBitVec_inj.mp
    show _ = BitVec.ofNat 64 _
    rw [BitVec.ofNat_toNat]; simp
/-- (char) (x & 255) -/
theorem chr255 (x : Int32) : ¬ ((x &&& (255 : Int32)).toUInt32.toUInt16.toUInt32.toInt32) < 0 ∧ ¬ (255 : Int32) < ((x &&& (255 : Int32)).toUInt32.toUInt16.toUInt32.toInt32) := by
  have t : ∀ k : Fin 256, ¬ ((Int32.ofNat k.val).toUInt32.toUInt16.toUInt32.toInt32) < 0 ∧ ¬ (255 : Int32) < ((Int32.ofNat k.val).toUInt32.toUInt16.toUInt32.toInt32) := by decide +kernel
  obtain ⟨j, hj, e⟩ := maskN 255 255 rfl x
  rw [e]; exact t ⟨j, by omega⟩
theorem rem3 (x : Int32) : (x &&& (3 : Int32)) - ((x &&& (3 : Int32)) / (3 : Int32)) * (3 : Int32) = 0 ∨ (x &&& (3 : Int32)) - ((x &&& (3 : Int32)) / (3 : Int32)) * (3 : Int32) = 1 ∨ (x &&& (3 : Int32)) - ((x &&& (3 : Int32)) / (3 : Int32)) * (3 : Int32) = 2 := by
  have t : ∀ k : Fin 4, (Int32.ofNat k.val) - ((Int32.ofNat k.val) / (3 : Int32)) * (3 : Int32) = 0 ∨ (Int32.ofNat k.val) - ((Int32.ofNat k.val) / (3 : Int32)) * (3 : Int32) = 1 ∨ (Int32.ofNat k.val) - ((Int32.ofNat k.val) / (3 : Int32)) * (3 : Int32) = 2 := by decide +kernel
  obtain ⟨j, hj, e⟩ := maskN 3 3 rfl x
  rw [e]; exact t ⟨j, by omega⟩
end Facts
end Jvm.Own
/- laws to paste: Road.backV, Road.eqW, Road.codOf (cut by pick.py; bodies as the Statement names them) -/
namespace Jvm.Pilot.@@N@@
namespace StrChars
open Jvm Sem ClassFile Op Lib Jvm.Stand Jvm.Free.XT Jvm.Free.ALB Jvm.Free.JM Jvm.Free
open Jvm.Lib.Cold (StaticIs)
/-- a char array whose places are chars -/
def Ch (a : Addr) (A : Cell) (U : State) : Prop := Arr .char a A U ∧ Typed .char A
theorem Ch.mv {a : Addr} {A : Cell} {U U' : State} (h : Ch a A U) (hal : U.vm.Alike U'.vm) (hh : U'.heap = U.heap) : Ch a A U' := ⟨h.1.mv hal hh, h.2⟩
theorem Ch.keep {a : Addr} {A : Cell} {U U' : State} (h : Ch a A U) (hal : U.vm.Alike U'.vm) (hk : U'.heap[a]? = some A) : Ch a A U' := ⟨h.1.keep hal hk, h.2⟩
/-- what place i of a char[]'s cell holds -/
def cv (A : Cell) (i : Nat) : Int32 := match A.slots[i]? with | some (.int x) => x | _ => 0
theorem Ch.get {a : Addr} {A : Cell} {U : State} (h : Ch a A U) {i : Nat} (hi : i < A.slots.size) : A.slots[i]? = some (.int (cv A i)) := by
  have e := Array.getElem?_eq_getElem hi
  have f := h.2 i _ e
  unfold cv; rw [e]
  generalize A.slots[i] = v at f
  cases v <;> simp [fits] at f ⊢
/-- the byte that i2b leaves of a char -/
def lo8 (x : Int32) : Int32 := x.toInt8.toInt32
theorem fits_lo8 (y : Int32) : fits .byte (.int (lo8 y)) = true := by
  have h1 := y.toInt8.le_toInt
  have h2 := y.toInt8.toInt_lt
  simp only [lo8, fits, Bool.and_eq_true, decide_eq_true_eq, Int32.le_iff_toInt_le, Int8.toInt_toInt32, show (-128 : Int32).toInt = -128 from by decide, show (127 : Int32).toInt = 127 from by decide]
  omega
/-- A' is A but that each place j of lo .. hi - 1 holds f j -/
def Laid (A A' : Cell) (lo hi : Nat) (f : Nat → Value) : Prop := A'.cls = A.cls ∧ A'.vm = A.vm ∧ A'.slots.size = A.slots.size ∧ ∀ i, A'.slots[i]? = if lo ≤ i ∧ i < hi then some (f i) else A.slots[i]?
theorem Laid.zero (A : Cell) (lo : Nat) (f : Nat → Value) : Laid A A lo (lo + 0) f := ⟨rfl, rfl, rfl, fun i => by rw [if_neg (by omega)]⟩
theorem Laid.step {A Ak : Cell} {lo k : Nat} {f : Nat → Value} {v : Value} (h : Laid A Ak lo k f) (hlo : lo ≤ k) (hk : k < Ak.slots.size) (hv : v = f k) : Laid A (Ak.setSlot k v) lo (k + 1) f := by
  refine ⟨h.1, h.2.1, by simpa [Cell.setSlot] using h.2.2.1, fun i => ?_⟩
  by_cases e : k = i
  · subst e; rw [Cell.slots_setSlot_self v hk, if_pos (by omega), hv]
  · rw [Cell.slots_setSlot_ne v e, h.2.2.2 i]
    by_cases q : lo ≤ i ∧ i < k
    · rw [if_pos q, if_pos (by omega)]
    · rw [if_neg q, if_neg (by omega)]
def U16 : String := "java/lang/StringUTF16"
namespace Cmp5
def yN : MethodName := ⟨"java/lang/StringUTF16", "compress", "([CI[BII)I"⟩
abbrev yB : ByteArray := jdk_52_method_21_code
theorem d0 : decode yB 0 = .ok (.iconst 0, 1) := by decide +kernel
theorem d1 : decode yB 1 = .ok (.istore 5, 2) := by decide +kernel
theorem d3 : decode yB 3 = .ok (.iload 5, 2) := by decide +kernel
theorem d5 : decode yB 5 = .ok (.iload 4, 2) := by decide +kernel
theorem d7 : decode yB 7 = .ok (.if_icmp (.ge) 37, 3) := by decide +kernel
theorem d10 : decode yB 10 = .ok (.aload_n 0, 1) := by decide +kernel
theorem d11 : decode yB 11 = .ok (.iload_n 1, 1) := by decide +kernel
theorem d12 : decode yB 12 = .ok (.caload, 1) := by decide +kernel
theorem d13 : decode yB 13 = .ok (.istore 6, 2) := by decide +kernel
theorem d15 : decode yB 15 = .ok (.iload 6, 2) := by decide +kernel
theorem d17 : decode yB 17 = .ok (.sipush 255, 3) := by decide +kernel
theorem d20 : decode yB 20 = .ok (.if_icmp (.le) 6, 3) := by decide +kernel
theorem d26 : decode yB 26 = .ok (.aload_n 2, 1) := by decide +kernel
theorem d27 : decode yB 27 = .ok (.iload_n 3, 1) := by decide +kernel
theorem d28 : decode yB 28 = .ok (.iload 6, 2) := by decide +kernel
theorem d30 : decode yB 30 = .ok (.i2b, 1) := by decide +kernel
theorem d31 : decode yB 31 = .ok (.bastore, 1) := by decide +kernel
theorem d32 : decode yB 32 = .ok (.iinc 1 1, 3) := by decide +kernel
theorem d35 : decode yB 35 = .ok (.iinc 3 1, 3) := by decide +kernel
theorem d38 : decode yB 38 = .ok (.iinc 5 1, 3) := by decide +kernel
theorem d41 : decode yB 41 = .ok (.goto (-38), 3) := by decide +kernel
theorem d44 : decode yB 44 = .ok (.iload 4, 2) := by decide +kernel
theorem d46 : decode yB 46 = .ok (.ireturn, 1) := by decide +kernel
def site : List Cond := []
def tab : Cond := tabOf yN yB 7 (some .int) site
def P (b : Addr) (A : Cell) (d : Addr) (B : Cell) (o q len : Nat) (args : Array Value) (s : State) : Prop := args = #[.ref b, .int (Int32.ofNat o), .ref d, .int (Int32.ofNat q), .int (Int32.ofNat len)] ∧ Ch b A s ∧ Arr .byte d B s ∧ b ≠ d ∧ o + len ≤ A.slots.size ∧ q + len ≤ B.slots.size ∧ ∀ i, i < len → ¬ 255 < cv A (o + i)
def E (b : Addr) (A : Cell) (d : Addr) (B : Cell) (o q len : Nat) (r : Option Value) (s u : State) : Prop := r = some (.int (Int32.ofNat len)) ∧ ∃ B', Put d B' s u ∧ Laid B B' q (q + len) (fun j => Value.int (lo8 (cv A (o + (j - q)))))
/-- no char of the range above 255: len; the places written hold each char's low byte -/
theorem law (l : Launch) (b : Addr) (A : Cell) (d : Addr) (B : Cell) (o q len : Nat) : Law l yN 5 5 0 0 yB 7 (some .int) site (P b A d B o q len) (E b A d B o q len) (copyLocs d q len) 0 0 := by
  refine Law.of_walk (plainFor_of_name (by decide +kernel)) (by decide +kernel) (by decide +kernel) (by decide) (fun _ _ h => by rw [h.1]; rfl) (fun _ U U' hal hh h => ⟨h.1, h.2.1.mv hal hh, h.2.2.1.mv hal hh, h.2.2.2⟩) (fun r U U' V V' h1 hal h2 h => ⟨h.1, h.2.elim fun B' q => ⟨B', q.1.mv h1 h2, q.2⟩⟩) ?_
  intro p e s m args below meth c s₁ X0 hexec hbytes hml hret hlk hnm hown hh0 W hP
  obtain ⟨rfl, hA, hB, hne, l1, l2, hp⟩ := hP
  have c1 : Steps p.tables e below (s₁.setTop (entryFrame m #[.ref b, .int (Int32.ofNat o), .ref d, .int (Int32.ofNat q), .int (Int32.ofNat len)] 7)) (s₁.setTop (mkF m 0 #[.val (.ref b), .val (.int (Int32.ofNat o)), .val (.ref d), .val (.int (Int32.ofNat q)), .val (.int (Int32.ofNat len)), .unset, .unset] [])) := entry rfl
  have hA0 := hA.1.mv X0.warmed.alike hh0
  have hB0 := hB.mv X0.warmed.alike hh0
  have a31 := hA.1.2.2.2
  have c2 : Steps p.tables e below (s₁.setTop (entryFrame m #[.ref b, .int (Int32.ofNat o), .ref d, .int (Int32.ofNat q), .int (Int32.ofNat len)] 7)) (s₁.setTop (mkF m 3 #[.val (.ref b), .val (.int (Int32.ofNat o)), .val (.ref d), .val (.int (Int32.ofNat q)), .val (.int (Int32.ofNat len)), .val (.int 0), .unset] [])) := c1.trans (by
    refine iconstV X0.here hexec rfl 0 (hb hbytes d0) (by decide) ?_
    refine XS.istore X0.here hexec rfl (hb hbytes d1) rfl rfl ?_
    exact Steps.refl _)
  have loop : ∀ (r i : Nat), i + r = len → ∀ (z : Slot), (z = .unset ∨ ∃ w, z = .val w ∧ w.category = 1) → ∀ (Tl : State) (Bk : Cell), Stand p l e { frames := 0, locals := 0, cells := 0, slots := 0 } s m #[.ref b, .int (Int32.ofNat o), .ref d, .int (Int32.ofNat q), .int (Int32.ofNat len)] below meth c Tl ([] ++ copyLocs d q i) 0 0 → Put d Bk s₁ Tl → Laid B Bk q (q + i) (fun j => Value.int (lo8 (cv A (o + (j - q))))) →
      Steps p.tables e below (s₁.setTop (entryFrame m #[.ref b, .int (Int32.ofNat o), .ref d, .int (Int32.ofNat q), .int (Int32.ofNat len)] 7)) (Tl.setTop (mkF m 3 #[.val (.ref b), .val (.int (Int32.ofNat (o + i))), .val (.ref d), .val (.int (Int32.ofNat (q + i))), .val (.int (Int32.ofNat len)), .val (.int (Int32.ofNat i)), z] [])) → ∃ (T' : State) (B' : Cell) (z' : Slot), Stand p l e { frames := 0, locals := 0, cells := 0, slots := 0 } s m #[.ref b, .int (Int32.ofNat o), .ref d, .int (Int32.ofNat q), .int (Int32.ofNat len)] below meth c T' ([] ++ copyLocs d q len) 0 0 ∧ Put d B' s₁ T' ∧ Laid B B' q (q + len) (fun j => Value.int (lo8 (cv A (o + (j - q))))) ∧
      Steps p.tables e below (s₁.setTop (entryFrame m #[.ref b, .int (Int32.ofNat o), .ref d, .int (Int32.ofNat q), .int (Int32.ofNat len)] 7)) (T'.setTop (mkF m 3 #[.val (.ref b), .val (.int (Int32.ofNat (o + len))), .val (.ref d), .val (.int (Int32.ofNat (q + len))), .val (.int (Int32.ofNat len)), .val (.int (Int32.ofNat len)), z'] [])) := by
    intro r
    induction r with
    | zero =>
      intro i hi z hz Tl Bk Xl pl fl cl
      have hil : i = len := by omega
      rw [hil] at Xl fl cl
      exact ⟨Tl, Bk, z, Xl, pl, fl, cl⟩
    | succ r ih =>
      intro i hi z hz Tl Bk Xl pl fl cl
      have all := X0.warmed.alike.symm.trans Xl.warmed.alike
      have hAl := hA0.keep all (pl.other hne hA0.1)
      have hBk := hB0.like all pl.1 fl.1 fl.2.1 fl.2.2.1
      have hlt : q + i < Bk.slots.size := by rw [fl.2.2.1]; omega
      have c3 : Steps p.tables e below (s₁.setTop (entryFrame m #[.ref b, .int (Int32.ofNat o), .ref d, .int (Int32.ofNat q), .int (Int32.ofNat len)] 7)) (Tl.setTop (mkF m 12 #[.val (.ref b), .val (.int (Int32.ofNat (o + i))), .val (.ref d), .val (.int (Int32.ofNat (q + i))), .val (.int (Int32.ofNat len)), .val (.int (Int32.ofNat i)), z] [.int (Int32.ofNat (o + i)), .ref b])) := cl.trans (by
        refine XS.iload Xl.here hexec rfl (hb hbytes d3) rfl ?_
        refine XS.iload Xl.here hexec rfl (hb hbytes d5) rfl ?_
        refine XS.icmpNo Xl.here hexec rfl (hb hbytes d7) rfl (ii_ge_f (lt32 (by omega) (by omega))) ?_
        refine XS.aloadN Xl.here hexec rfl (hb hbytes d10) rfl rfl ?_
        refine XS.iloadN Xl.here hexec rfl (hb hbytes d11) rfl ?_
        exact Steps.refl _)
      have c4 : Steps p.tables e below (s₁.setTop (entryFrame m #[.ref b, .int (Int32.ofNat o), .ref d, .int (Int32.ofNat q), .int (Int32.ofNat len)] 7)) (Tl.setTop (mkF m 13 #[.val (.ref b), .val (.int (Int32.ofNat (o + i))), .val (.ref d), .val (.int (Int32.ofNat (q + i))), .val (.int (Int32.ofNat len)), .val (.int (Int32.ofNat i)), z] [.int (cv A (o + i))])) := c3.trans (by
        refine Xl.aget hexec hAl rfl (hA.get (i := o + i) (by omega)) rfl rfl (hb hbytes d12) ?_
        exact Steps.refl _)
      have c5 : Steps p.tables e below (s₁.setTop (entryFrame m #[.ref b, .int (Int32.ofNat o), .ref d, .int (Int32.ofNat q), .int (Int32.ofNat len)] 7)) (Tl.setTop (mkF m 15 #[.val (.ref b), .val (.int (Int32.ofNat (o + i))), .val (.ref d), .val (.int (Int32.ofNat (q + i))), .val (.int (Int32.ofNat len)), .val (.int (Int32.ofNat i)), .val (.int (cv A (o + i)))] [])) := c4.trans (by
        refine XS.istoreS Xl.here hexec rfl (hb hbytes d13) rfl rfl hz ?_
        exact Steps.refl _)
      have c6 : Steps p.tables e below (s₁.setTop (entryFrame m #[.ref b, .int (Int32.ofNat o), .ref d, .int (Int32.ofNat q), .int (Int32.ofNat len)] 7)) (Tl.setTop (mkF m 31 #[.val (.ref b), .val (.int (Int32.ofNat (o + i))), .val (.ref d), .val (.int (Int32.ofNat (q + i))), .val (.int (Int32.ofNat len)), .val (.int (Int32.ofNat i)), .val (.int (cv A (o + i)))] [.int (lo8 (cv A (o + i))), .int (Int32.ofNat (q + i)), .ref d])) := c5.trans (by
        refine XS.iload Xl.here hexec rfl (hb hbytes d15) rfl ?_
        refine sipushV Xl.here hexec rfl 255 (hb hbytes d17) (by decide) ?_
        refine XS.icmpYes Xl.here hexec rfl (pc0 := 20) rfl (hb hbytes d20) rfl (ii_le_t (hp i (by omega))) (by decide) rfl ?_
        refine XS.aloadN Xl.here hexec rfl (hb hbytes d26) rfl rfl ?_
        refine XS.iloadN Xl.here hexec rfl (hb hbytes d27) rfl ?_
        refine XS.iload Xl.here hexec rfl (hb hbytes d28) rfl ?_
        refine i2b Xl.here hexec rfl (hb hbytes d30) rfl ?_
        exact Steps.refl _)
      obtain ⟨T7, X7, p7, st7⟩ := Xl.aput hexec hBk rfl hlt rfl (fits_lo8 (cv A (o + i))) (g := (mkF m 31 #[.val (.ref b), .val (.int (Int32.ofNat (o + i))), .val (.ref d), .val (.int (Int32.ofNat (q + i))), .val (.int (Int32.ofNat len)), .val (.int (Int32.ofNat i)), .val (.int (cv A (o + i)))] [.int (lo8 (cv A (o + i))), .int (Int32.ofNat (q + i)), .ref d])) rfl (rest := []) rfl (hb hbytes d31)
      have c8 : Steps p.tables e below (s₁.setTop (entryFrame m #[.ref b, .int (Int32.ofNat o), .ref d, .int (Int32.ofNat q), .int (Int32.ofNat len)] 7)) (T7.setTop (mkF m 32 #[.val (.ref b), .val (.int (Int32.ofNat (o + i))), .val (.ref d), .val (.int (Int32.ofNat (q + i))), .val (.int (Int32.ofNat len)), .val (.int (Int32.ofNat i)), .val (.int (cv A (o + i)))] [])) := c6.trans (st7 _ (Steps.refl _))
      have c9 : Steps p.tables e below (s₁.setTop (entryFrame m #[.ref b, .int (Int32.ofNat o), .ref d, .int (Int32.ofNat q), .int (Int32.ofNat len)] 7)) (T7.setTop (mkF m 3 #[.val (.ref b), .val (.int (Int32.ofNat (o + i) + 1)), .val (.ref d), .val (.int (Int32.ofNat (q + i) + 1)), .val (.int (Int32.ofNat len)), .val (.int (Int32.ofNat i + 1)), .val (.int (cv A (o + i)))] [])) := c8.trans (by
        refine iincV X7.here hexec rfl 1 (hb hbytes d32) (by decide) rfl rfl ?_
        refine iincV X7.here hexec rfl 1 (hb hbytes d35) (by decide) rfl rfl ?_
        refine iincV X7.here hexec rfl 1 (hb hbytes d38) (by decide) rfl rfl ?_
        refine XS.goto X7.here hexec rfl (pc0 := 41) rfl (hb hbytes d41) (by decide) rfl ?_
        exact Steps.refl _)
      have c10 : Steps p.tables e below (s₁.setTop (entryFrame m #[.ref b, .int (Int32.ofNat o), .ref d, .int (Int32.ofNat q), .int (Int32.ofNat len)] 7)) (T7.setTop (mkF m 3 #[.val (.ref b), .val (.int (Int32.ofNat (o + (i + 1)))), .val (.ref d), .val (.int (Int32.ofNat (q + (i + 1)))), .val (.int (Int32.ofNat len)), .val (.int (Int32.ofNat (i + 1))), .val (.int (cv A (o + i)))] [])) := by
        have := c9
        rw [succ32, succ32, succ32] at this
        exact this
      exact ih (i + 1) (by omega) _ (Or.inr ⟨_, rfl, rfl⟩) T7 _ (by rw [copyLocs_step, ← List.append_assoc]; exact X7) (pl.trans p7) (fl.step (by omega) hlt (by simp)) c10
  obtain ⟨T9, B9, z9, X9, p9, f9, g9⟩ := loop len 0 (by omega) .unset (Or.inl rfl) s₁ B (by simpa [copyLocs] using X0) ⟨hB0.1, fun _ _ => rfl, rfl⟩ (Laid.zero _ _ _) c2
  have c11 : Steps p.tables e below (s₁.setTop (entryFrame m #[.ref b, .int (Int32.ofNat o), .ref d, .int (Int32.ofNat q), .int (Int32.ofNat len)] 7)) (T9.setTop (mkF m 46 #[.val (.ref b), .val (.int (Int32.ofNat (o + len))), .val (.ref d), .val (.int (Int32.ofNat (q + len))), .val (.int (Int32.ofNat len)), .val (.int (Int32.ofNat len)), z9] [.int (Int32.ofNat len)])) := g9.trans (by
    refine XS.iload X9.here hexec rfl (hb hbytes d3) rfl ?_
    refine XS.iload X9.here hexec rfl (hb hbytes d5) rfl ?_
    refine XS.icmpYes X9.here hexec rfl (pc0 := 7) rfl (hb hbytes d7) rfl (ii_ge_t (nlt32 (by omega) (Nat.le_refl _))) (by decide) rfl ?_
    refine XS.iload X9.here hexec rfl (hb hbytes d44) rfl ?_
    exact Steps.refl _)
  exact ⟨T9, some (.int (Int32.ofNat len)), _, _, _, X9, by simp, rfl, rfl, (fun h => by cases h), ⟨rfl, B9, p9.from hh0, f9⟩, fun fs hl => c11.trans (X9.ireturnOut hexec hret rfl (Or.inl rfl) (hb hbytes d46) hl)⟩
end Cmp5
namespace Cmp3
def yN : MethodName := ⟨"java/lang/StringUTF16", "compress", "([CII)[B"⟩
abbrev yB : ByteArray := jdk_52_method_16_code
theorem d0 : decode yB 0 = .ok (.iload_n 2, 1) := by decide +kernel
theorem d1 : decode yB 1 = .ok (.newarray .byte, 2) := by decide +kernel
theorem d3 : decode yB 3 = .ok (.astore_n 3, 1) := by decide +kernel
theorem d4 : decode yB 4 = .ok (.aload_n 0, 1) := by decide +kernel
theorem d5 : decode yB 5 = .ok (.iload_n 1, 1) := by decide +kernel
theorem d6 : decode yB 6 = .ok (.aload_n 3, 1) := by decide +kernel
theorem d7 : decode yB 7 = .ok (.iconst 0, 1) := by decide +kernel
theorem d8 : decode yB 8 = .ok (.iload_n 2, 1) := by decide +kernel
theorem d9 : decode yB 9 = .ok (.invokestatic 115, 3) := by decide +kernel
theorem d12 : decode yB 12 = .ok (.istore 4, 2) := by decide +kernel
theorem d14 : decode yB 14 = .ok (.iload 4, 2) := by decide +kernel
theorem d16 : decode yB 16 = .ok (.iload_n 2, 1) := by decide +kernel
theorem d17 : decode yB 17 = .ok (.if_icmp (.eq) 40, 3) := by decide +kernel
theorem d57 : decode yB 57 = .ok (.aload_n 3, 1) := by decide +kernel
theorem d58 : decode yB 58 = .ok (.areturn, 1) := by decide +kernel
def site : List Cond := [.arrayClass .byte, Cmp5.tab] ++ staticW U16 115 Cmp5.yN
def tab : Cond := tabOf yN yB 6 (some (.array .byte)) site
def P (b : Addr) (A : Cell) (o len : Nat) (args : Array Value) (s : State) : Prop := args = #[.ref b, .int (Int32.ofNat o), .int (Int32.ofNat len)] ∧ Ch b A s ∧ o + len ≤ A.slots.size ∧ len ≤ 536870912 ∧ ∀ i, i < len → ¬ 255 < cv A (o + i)
def E (b : Addr) (A : Cell) (o len : Nat) (r : Option Value) (s u : State) : Prop := NewArr .byte "[B" len (fun j => .int (lo8 (cv A (o + j)))) r s u ∧ u.heap.size = s.heap.size + 1
/-- no char of the range above 255: a new byte[] of their low bytes -/
theorem law (l : Launch) (b : Addr) (A : Cell) (o len : Nat) : Law l yN 3 3 1 18 yB 6 (some (.array .byte)) site (P b A o len) (E b A o len) [] 1 len := by
  refine Law.of_walk (plainFor_of_name (by decide +kernel)) (by decide +kernel) (by decide +kernel) (by decide) (fun _ _ h => by rw [h.1]; rfl) (fun _ U U' hal hh h => ⟨h.1, h.2.1.mv hal hh, h.2.2⟩) (fun r U U' V V' h1 hal h2 h => ⟨NewArr.mv r U U' V V' h1 hal h2 h.1, by rw [h1, h2]; exact h.2⟩) ?_
  intro p e s m args below meth c s₁ X0 hexec hbytes hml hret hlk hnm hown hh0 W hP
  obtain ⟨rfl, hA, l1, l2, hp⟩ := hP
  have a31 := hA.1.2.2.2
  have c1 : Steps p.tables e below (s₁.setTop (entryFrame m #[.ref b, .int (Int32.ofNat o), .int (Int32.ofNat len)] 6)) (s₁.setTop (mkF m 0 #[.val (.ref b), .val (.int (Int32.ofNat o)), .val (.int (Int32.ofNat len)), .unset, .unset, .unset] [])) := entry rfl
  have c2 : Steps p.tables e below (s₁.setTop (entryFrame m #[.ref b, .int (Int32.ofNat o), .int (Int32.ofNat len)] 6)) (s₁.setTop (mkF m 1 #[.val (.ref b), .val (.int (Int32.ofNat o)), .val (.int (Int32.ofNat len)), .unset, .unset, .unset] [.int (Int32.ofNat len)])) := c1.trans (by
    refine XS.iloadN X0.here hexec rfl (hb hbytes d0) rfl ?_
    exact Steps.refl _)
  obtain ⟨T3, B3, X3, ba3, bs3, bv3, bh3, bf3, st3⟩ := X0.anew hexec (atype := .byte) (wk W (.arrayClass .byte)) rfl (by show len * 1 ≤ _; omega) (by omega) (g := (mkF m 1 #[.val (.ref b), .val (.int (Int32.ofNat o)), .val (.int (Int32.ofNat len)), .unset, .unset, .unset] [.int (Int32.ofNat len)])) rfl (hb hbytes d1) (rest := []) rfl (Nat.le_refl _) (by show 0 + len ≤ len; omega)
  rw [hh0] at ba3 st3
  have kp3 : XT.Kept s T3 := (XT.Kept.of_eq hh0).push bh3
  have hA3 := hA.keep X3.warmed.alike (kp3 _ _ hA.1.1)
  have hne : b ≠ s.heap.size := hA.1.ne
  have c4 : Steps p.tables e below (s₁.setTop (entryFrame m #[.ref b, .int (Int32.ofNat o), .int (Int32.ofNat len)] 6)) (T3.setTop (mkF m 3 #[.val (.ref b), .val (.int (Int32.ofNat o)), .val (.int (Int32.ofNat len)), .unset, .unset, .unset] [.ref s.heap.size])) := c2.trans (st3 _ (Steps.refl _))
  have c5 : Steps p.tables e below (s₁.setTop (entryFrame m #[.ref b, .int (Int32.ofNat o), .int (Int32.ofNat len)] 6)) (T3.setTop (mkF m 9 #[.val (.ref b), .val (.int (Int32.ofNat o)), .val (.int (Int32.ofNat len)), .val (.ref s.heap.size), .unset, .unset] [.int (Int32.ofNat len), .int 0, .ref s.heap.size, .int (Int32.ofNat o), .ref b])) := c4.trans (by
    refine XS.astoreN X3.here hexec rfl (hb hbytes d3) rfl rfl rfl ?_
    refine XS.aloadN X3.here hexec rfl (hb hbytes d4) rfl rfl ?_
    refine XS.iloadN X3.here hexec rfl (hb hbytes d5) rfl ?_
    refine XS.aloadN X3.here hexec rfl (hb hbytes d6) rfl rfl ?_
    refine iconstV X3.here hexec rfl 0 (hb hbytes d7) (by decide) ?_
    refine XS.iloadN X3.here hexec rfl (hb hbytes d8) rfl ?_
    exact Steps.refl _)
  obtain ⟨v6, T6, X6, E6, g6⟩ := X3.callS hexec (Cmp5.law l b A s.heap.size B3 o 0 len) hown (wks W (staticW U16 115 Cmp5.yN)) (wk W Cmp5.tab) (W := 0) (Nat.le_of_ble_eq_true rfl) (Nat.le_of_ble_eq_true rfl) (Nat.le_refl _) (by show 0 + len + 0 ≤ len; omega) (g := (mkF m 9 #[.val (.ref b), .val (.int (Int32.ofNat o)), .val (.int (Int32.ofNat len)), .val (.ref s.heap.size), .unset, .unset] [.int (Int32.ofNat len), .int (Int32.ofNat 0), .ref s.heap.size, .int (Int32.ofNat o), .ref b])) rfl (by rw [hml]; rfl) c5 (argsL := [.ref b, .int (Int32.ofNat o), .ref s.heap.size, .int (Int32.ofNat 0), .int (Int32.ofNat len)]) (rest := []) rfl rfl (by show 2 * 0 + 0 ≤ _; decide) (hb hbytes d9) (⟨rfl, hA3, ba3, hne, l1, by rw [bs3]; simp, hp⟩)
  obtain ⟨rfl, B6, p6, f6⟩ := E6
  have c7 : Steps p.tables e below (s₁.setTop (entryFrame m #[.ref b, .int (Int32.ofNat o), .int (Int32.ofNat len)] 6)) (T6.setTop (mkF m 12 #[.val (.ref b), .val (.int (Int32.ofNat o)), .val (.int (Int32.ofNat len)), .val (.ref s.heap.size), .unset, .unset] [.int (Int32.ofNat len)])) := g6
  have c8 : Steps p.tables e below (s₁.setTop (entryFrame m #[.ref b, .int (Int32.ofNat o), .int (Int32.ofNat len)] 6)) (T6.setTop (mkF m 58 #[.val (.ref b), .val (.int (Int32.ofNat o)), .val (.int (Int32.ofNat len)), .val (.ref s.heap.size), .val (.int (Int32.ofNat len)), .unset] [.ref s.heap.size])) := c7.trans (by
    refine XS.istore X6.here hexec rfl (hb hbytes d12) rfl rfl ?_
    refine XS.iload X6.here hexec rfl (hb hbytes d14) rfl ?_
    refine XS.iloadN X6.here hexec rfl (hb hbytes d16) rfl ?_
    refine XS.icmpYes X6.here hexec rfl (pc0 := 17) rfl (hb hbytes d17) rfl (ii_eq_t rfl) (by decide) rfl ?_
    refine XS.aloadN X6.here hexec rfl (hb hbytes d57) rfl rfl ?_
    exact Steps.refl _)
  have X8 := X6.wide (L' := []) (cells' := 1) (slots' := len) (fun x hx hlt => by
    simp only [List.nil_append, copyLocs, List.mem_map, List.mem_range] at hx
    obtain ⟨i, -, rfl⟩ := hx
    exact absurd hlt (Nat.lt_irrefl _)) (Nat.le_refl _) (by omega)
  exact ⟨T6, some (.ref s.heap.size), _, _, _, X8, rfl, rfl, rfl, (fun h => by cases h), ⟨⟨rfl, B6, ba3.like (X3.warmed.alike.symm.trans X6.warmed.alike) p6.1 f6.1 f6.2.1 f6.2.2.1, f6.2.1.trans bv3, by rw [X6.warmed.alike.findClass, f6.1]; exact bf3, by rw [f6.2.2.1, bs3]; simp, fun j hj => by rw [f6.2.2.2 j, if_pos (by omega)]; rfl, kp3.put p6 (Nat.le_refl _)⟩, by rw [p6.2.2, bh3, hh0]; simp⟩, fun fs hl => c8.trans (X8.areturnOut hexec rfl hret rfl (hb hbytes d58) hl)⟩
end Cmp3
namespace CodL
def yN : MethodName := ⟨"java/lang/StringUTF16", "coderFromArrayLen", "([BI)B"⟩
abbrev yB : ByteArray := jdk_52_method_15_code
theorem d0 : decode yB 0 = .ok (.iload_n 1, 1) := by decide +kernel
theorem d1 : decode yB 1 = .ok (.aload_n 0, 1) := by decide +kernel
theorem d2 : decode yB 2 = .ok (.arraylength, 1) := by decide +kernel
theorem d3 : decode yB 3 = .ok (.isub, 1) := by decide +kernel
theorem d4 : decode yB 4 = .ok (.bipush 31, 2) := by decide +kernel
theorem d6 : decode yB 6 = .ok (.iushr, 1) := by decide +kernel
theorem d7 : decode yB 7 = .ok (.i2b, 1) := by decide +kernel
theorem d8 : decode yB 8 = .ok (.ireturn, 1) := by decide +kernel
def site : List Cond := []
def tab : Cond := tabOf yN yB 2 (some .byte) site
def P (d : Addr) (B : Cell) (args : Array Value) (s : State) : Prop := args = #[.ref d, .int (Int32.ofNat B.slots.size)] ∧ Arr .byte d B s
def E (r : Option Value) (s u : State) : Prop := XT.PureE (some (.int 0)) r s u
/-- an array as long as the number of chars: LATIN1 -/
theorem law (l : Launch) (d : Addr) (B : Cell) : Law l yN 2 2 0 0 yB 2 (some .byte) site (P d B) E [] 0 0 := by
  refine Law.of_walk (plainFor_of_name (by decide +kernel)) (by decide +kernel) (by decide +kernel) (by decide) (fun _ _ h => by rw [h.1]; rfl) (fun _ U U' hal hh h => ⟨h.1, h.2.mv hal hh⟩) (fun r U U' V V' h1 hal h2 h => XT.PureE.mv r U U' V V' h1 hal h2 h) ?_
  intro p e s m args below meth c s₁ X0 hexec hbytes hml hret hlk hnm hown hh0 W hP
  obtain ⟨rfl, hB⟩ := hP
  have hB0 := hB.mv X0.warmed.alike hh0
  have c1 : Steps p.tables e below (s₁.setTop (entryFrame m #[.ref d, .int (Int32.ofNat B.slots.size)] 2)) (s₁.setTop (mkF m 0 #[.val (.ref d), .val (.int (Int32.ofNat B.slots.size))] [])) := entry rfl
  have c2 : Steps p.tables e below (s₁.setTop (entryFrame m #[.ref d, .int (Int32.ofNat B.slots.size)] 2)) (s₁.setTop (mkF m 2 #[.val (.ref d), .val (.int (Int32.ofNat B.slots.size))] [.ref d, .int (Int32.ofNat B.slots.size)])) := c1.trans (by
    refine XS.iloadN X0.here hexec rfl (hb hbytes d0) rfl ?_
    refine XS.aloadN X0.here hexec rfl (hb hbytes d1) rfl rfl ?_
    exact Steps.refl _)
  have c3 : Steps p.tables e below (s₁.setTop (entryFrame m #[.ref d, .int (Int32.ofNat B.slots.size)] 2)) (s₁.setTop (mkF m 8 #[.val (.ref d), .val (.int (Int32.ofNat B.slots.size))] [.int (lo8 (ushr (Int32.ofNat B.slots.size - Int32.ofNat B.slots.size) 31))])) := c2.trans (by
    refine X0.alen hexec hB0 rfl rfl (hb hbytes d2) ?_
    refine XS.isub X0.here hexec rfl (hb hbytes d3) rfl ?_
    refine bipushV X0.here hexec rfl 31 (hb hbytes d4) (by decide) ?_
    refine iushr X0.here hexec rfl (hb hbytes d6) rfl ?_
    refine i2b X0.here hexec rfl (hb hbytes d7) rfl ?_
    exact Steps.refl _)
  have e0 : lo8 (ushr (Int32.ofNat B.slots.size - Int32.ofNat B.slots.size) 31) = 0 := by rw [Int32.sub_self]; decide
  rw [e0] at c3
  exact ⟨s₁, some (.int 0), _, _, _, X0, rfl, rfl, rfl, (fun h => by cases h), ⟨rfl, hh0⟩, fun fs hl => c3.trans (X0.ireturnOut hexec hret rfl (Or.inr (Or.inr (Or.inl rfl))) (hb hbytes d8) hl)⟩
end CodL
/-- the String at a is Latin-1 over a new byte[] (the heap's one new cell): the low bytes of the len chars of A from o on; every cell but a is kept -/
def Got (a : Addr) (D : Cell) (fV fC : Field) (A : Cell) (o len : Nat) (r : Option Value) (s u : State) : Prop := r = none ∧ ∃ D' V : Cell, Blank "java/lang/String" a D' u ∧ Same D D' [fV.slot, fC.slot] ∧ D'.slots[fV.slot]? = some (.ref s.heap.size) ∧ D'.slots[fC.slot]? = some (.int 0) ∧ Arr .byte s.heap.size V u ∧ V.vm = .none ∧ u.vm.findClass "[B" = some V.cls ∧ V.slots.size = len ∧ (∀ j, j < len → V.slots[j]? = some (.int (lo8 (cv A (o + j))))) ∧ (∀ (y : Addr) (c : Cell), y ≠ a → s.heap[y]? = some c → u.heap[y]? = some c) ∧ u.heap.size = s.heap.size + 1
theorem Got.mv {a : Addr} {D A : Cell} {fV fC : Field} {o len : Nat} : ∀ r (U U' V V' : State), U'.heap = U.heap → V.vm.Alike V'.vm → V'.heap = V.heap → Got a D fV fC A o len r U V → Got a D fV fC A o len r U' V' :=
  fun r U U' V V' h1 hal h2 ⟨e0, D', X, a1, a2, a3, a4, a5, a6, a7, a8, a9, a10, a11⟩ => ⟨e0, D', X, a1.mv hal h2, a2, by rw [h1]; exact a3, a4, by rw [h1]; exact a5.mv hal h2, a6, by rw [hal.findClass]; exact a7, a8, a9, by rw [h1, h2]; exact a10, by rw [h1, h2]; exact a11⟩
namespace New4
def yN : MethodName := ⟨"java/lang/String", "<init>", "([CIILjava/lang/Void;)V"⟩
abbrev yB : ByteArray := jdk_42_method_149_code
theorem d0 : decode yB 0 = .ok (.aload_n 0, 1) := by decide +kernel
theorem d1 : decode yB 1 = .ok (.invokespecial 1, 3) := by decide +kernel
theorem d4 : decode yB 4 = .ok (.iload_n 3, 1) := by decide +kernel
theorem d5 : decode yB 5 = .ok (.ifCond (.ne) 22, 3) := by decide +kernel
theorem d27 : decode yB 27 = .ok (.getstatic 38, 3) := by decide +kernel
theorem d30 : decode yB 30 = .ok (.ifCond (.eq) 28, 3) := by decide +kernel
theorem d33 : decode yB 33 = .ok (.aload_n 1, 1) := by decide +kernel
theorem d34 : decode yB 34 = .ok (.iload_n 2, 1) := by decide +kernel
theorem d35 : decode yB 35 = .ok (.iload_n 3, 1) := by decide +kernel
theorem d36 : decode yB 36 = .ok (.invokestatic 177, 3) := by decide +kernel
theorem d39 : decode yB 39 = .ok (.astore 5, 2) := by decide +kernel
theorem d41 : decode yB 41 = .ok (.aload_n 0, 1) := by decide +kernel
theorem d42 : decode yB 42 = .ok (.aload 5, 2) := by decide +kernel
theorem d44 : decode yB 44 = .ok (.iload_n 3, 1) := by decide +kernel
theorem d45 : decode yB 45 = .ok (.invokestatic 47, 3) := by decide +kernel
theorem d48 : decode yB 48 = .ok (.putfield 15, 3) := by decide +kernel
theorem d51 : decode yB 51 = .ok (.aload_n 0, 1) := by decide +kernel
theorem d52 : decode yB 52 = .ok (.aload 5, 2) := by decide +kernel
theorem d54 : decode yB 54 = .ok (.putfield 9, 3) := by decide +kernel
theorem d57 : decode yB 57 = .ok (.return_, 1) := by decide +kernel
def site : List Cond := [.fieldLink "java/lang/String" 38 "java/lang/String" "COMPACT_STRINGS" "Z", Cmp3.tab, CodL.tab, .laysFinal "java/lang/String" "java/lang/String" "value" "[B", .fieldLink "java/lang/String" 9 "java/lang/String" "value" "[B", .laysFinal "java/lang/String" "java/lang/String" "coder" "B", .fieldLink "java/lang/String" 15 "java/lang/String" "coder" "B"] ++ objW "java/lang/String" 1 ++ staticW "java/lang/String" 177 Cmp3.yN ++ staticW "java/lang/String" 47 CodL.yN
def tab : Cond := tabOf yN yB 6 none site
def P (a : Addr) (D : Cell) (fV fC : Field) (b : Addr) (A : Cell) (z : Int32) (o len : Nat) (args : Array Value) (s : State) : Prop := args = #[.ref a, .ref b, .int (Int32.ofNat o), .int (Int32.ofNat len), .null] ∧ Blank "java/lang/String" a D s ∧ Found "java/lang/String" "value" "[B" fV s ∧ Found "java/lang/String" "coder" "B" fC s ∧ Ch b A s ∧ StaticIs s "java/lang/String" "COMPACT_STRINGS" "Z" (.int z) ∧ ¬ z = 0 ∧ 0 < len ∧ o + len ≤ A.slots.size ∧ len ≤ 536870912 ∧ ∀ i, i < len → ¬ 255 < cv A (o + i)
def E (a : Addr) (D : Cell) (fV fC : Field) (A : Cell) (o len : Nat) (r : Option Value) (s u : State) : Prop := Got a D fV fC A o len r s u
/-- len > 0, no char of the range above 255: a Latin-1 String of their low bytes -/
theorem law (l : Launch) (a : Addr) (D : Cell) (fV fC : Field) (b : Addr) (A : Cell) (z : Int32) (o len : Nat) : Law l yN 5 4 2 35 yB 6 none site (P a D fV fC b A z o len) (E a D fV fC A o len) [⟨a, fC.slot⟩, ⟨a, fV.slot⟩] 1 len := by
  refine Law.of_walk (plainFor_of_name (by decide +kernel)) (by decide +kernel) (by decide +kernel) (by decide) (fun _ _ h => by rw [h.1]; rfl) (fun _ U U' hal hh h => ⟨h.1, h.2.1.mv hal hh, h.2.2.1.al hal, h.2.2.2.1.al hal, h.2.2.2.2.1.mv hal hh, h.2.2.2.2.2.1.there hal hh, h.2.2.2.2.2.2⟩) (fun r U U' V V' h1 hal h2 h => Got.mv r U U' V V' h1 hal h2 h) ?_
  intro p e s m args below meth c s₁ X0 hexec hbytes hml hret hlk hnm hown hh0 W hP
  obtain ⟨rfl, hB, f1, f2, hA, s1, hz, l0, l1, l2, hp⟩ := hP
  have a31 := hA.1.2.2.2
  have c1 : Steps p.tables e below (s₁.setTop (entryFrame m #[.ref a, .ref b, .int (Int32.ofNat o), .int (Int32.ofNat len), .null] 6)) (s₁.setTop (mkF m 0 #[.val (.ref a), .val (.ref b), .val (.int (Int32.ofNat o)), .val (.int (Int32.ofNat len)), .val .null, .unset] [])) := entry rfl
  have c2 : Steps p.tables e below (s₁.setTop (entryFrame m #[.ref a, .ref b, .int (Int32.ofNat o), .int (Int32.ofNat len), .null] 6)) (s₁.setTop (mkF m 1 #[.val (.ref a), .val (.ref b), .val (.int (Int32.ofNat o)), .val (.int (Int32.ofNat len)), .val .null, .unset] [.ref a])) := c1.trans (by
    refine XS.aloadN X0.here hexec rfl (hb hbytes d0) rfl rfl ?_
    exact Steps.refl _)
  obtain ⟨T3, X3, q3, st3⟩ := X0.oinit hexec hown (wks W (objW "java/lang/String" 1)) (g := (mkF m 1 #[.val (.ref a), .val (.ref b), .val (.int (Int32.ofNat o)), .val (.int (Int32.ofNat len)), .val .null, .unset] [.ref a])) rfl (by rw [hml]; rfl) (rest := []) rfl (hb hbytes d1) (W := 0) (by show 2 * 0 + 0 ≤ _; decide) (Nat.le_of_ble_eq_true rfl) (Nat.le_of_ble_eq_true rfl)
  have hh3 := q3.trans hh0
  have c4 : Steps p.tables e below (s₁.setTop (entryFrame m #[.ref a, .ref b, .int (Int32.ofNat o), .int (Int32.ofNat len), .null] 6)) (T3.setTop (mkF m 27 #[.val (.ref a), .val (.ref b), .val (.int (Int32.ofNat o)), .val (.int (Int32.ofNat len)), .val .null, .unset] [])) := (c2.trans (st3 _ (Steps.refl _))).trans (by
    refine XS.iloadN X3.here hexec rfl (hb hbytes d4) rfl ?_
    refine XS.ifYes X3.here hexec rfl (pc0 := 5) rfl (hb hbytes d5) rfl (i0_ne_t (nz32 (by omega) l0)) (by decide) rfl ?_
    exact Steps.refl _)
  obtain ⟨T5, X5, q5, st5⟩ := X3.sget hexec hown (wk W (.fieldLink "java/lang/String" 38 "java/lang/String" "COMPACT_STRINGS" "Z")) s1 (fun _ _ h => by rw [hh3]; exact h) (g := (mkF m 27 #[.val (.ref a), .val (.ref b), .val (.int (Int32.ofNat o)), .val (.int (Int32.ofNat len)), .val .null, .unset] [])) rfl (hb hbytes d27)
  have hh5 := q5.trans hh3
  have c6 : Steps p.tables e below (s₁.setTop (entryFrame m #[.ref a, .ref b, .int (Int32.ofNat o), .int (Int32.ofNat len), .null] 6)) (T5.setTop (mkF m 30 #[.val (.ref a), .val (.ref b), .val (.int (Int32.ofNat o)), .val (.int (Int32.ofNat len)), .val .null, .unset] [.int z])) := c4.trans (st5 _ (Steps.refl _))
  have c7 : Steps p.tables e below (s₁.setTop (entryFrame m #[.ref a, .ref b, .int (Int32.ofNat o), .int (Int32.ofNat len), .null] 6)) (T5.setTop (mkF m 36 #[.val (.ref a), .val (.ref b), .val (.int (Int32.ofNat o)), .val (.int (Int32.ofNat len)), .val .null, .unset] [.int (Int32.ofNat len), .int (Int32.ofNat o), .ref b])) := c6.trans (by
    refine XS.ifNo X5.here hexec rfl (hb hbytes d30) rfl (i0_eq_f hz) ?_
    refine XS.aloadN X5.here hexec rfl (hb hbytes d33) rfl rfl ?_
    refine XS.iloadN X5.here hexec rfl (hb hbytes d34) rfl ?_
    refine XS.iloadN X5.here hexec rfl (hb hbytes d35) rfl ?_
    exact Steps.refl _)
  obtain ⟨v8, T8, X8, E8, g8⟩ := X5.callS hexec (Cmp3.law l b A o len) hown (wks W (staticW "java/lang/String" 177 Cmp3.yN)) (wk W Cmp3.tab) (W := 0) (Nat.le_of_ble_eq_true rfl) (Nat.le_of_ble_eq_true rfl) (Nat.le_refl _) (by show 0 + len ≤ len; omega) (g := (mkF m 36 #[.val (.ref a), .val (.ref b), .val (.int (Int32.ofNat o)), .val (.int (Int32.ofNat len)), .val .null, .unset] [.int (Int32.ofNat len), .int (Int32.ofNat o), .ref b])) rfl (by rw [hml]; rfl) c7 (argsL := [.ref b, .int (Int32.ofNat o), .int (Int32.ofNat len)]) (rest := []) rfl rfl (by show 2 * 0 + 0 ≤ _; decide) (hb hbytes d36) (⟨rfl, hA.mv X5.warmed.alike hh5, l1, l2, hp⟩)
  obtain ⟨e8, z8⟩ := E8
  obtain ⟨rfl, N, n1, n2, n3, n4, n5, n6⟩ := NewArr.mv _ T5 s _ _ hh5.symm (Vm.Alike.refl _) rfl e8
  rw [hh5] at z8
  have hB1 := hB.keep X8.warmed.alike (n6 _ _ hB.1)
  have hne : s.heap.size ≠ a := (Nat.ne_of_lt (Array.getElem?_eq_some_iff.mp hB.1).1).symm
  have c9 : Steps p.tables e below (s₁.setTop (entryFrame m #[.ref a, .ref b, .int (Int32.ofNat o), .int (Int32.ofNat len), .null] 6)) (T8.setTop (mkF m 39 #[.val (.ref a), .val (.ref b), .val (.int (Int32.ofNat o)), .val (.int (Int32.ofNat len)), .val .null, .unset] [.ref s.heap.size])) := g8
  have c10 : Steps p.tables e below (s₁.setTop (entryFrame m #[.ref a, .ref b, .int (Int32.ofNat o), .int (Int32.ofNat len), .null] 6)) (T8.setTop (mkF m 45 #[.val (.ref a), .val (.ref b), .val (.int (Int32.ofNat o)), .val (.int (Int32.ofNat len)), .val .null, .val (.ref s.heap.size)] [.int (Int32.ofNat N.slots.size), .ref s.heap.size, .ref a])) := by
    have hc : Steps p.tables e below (s₁.setTop (entryFrame m #[.ref a, .ref b, .int (Int32.ofNat o), .int (Int32.ofNat len), .null] 6)) (T8.setTop (mkF m 45 #[.val (.ref a), .val (.ref b), .val (.int (Int32.ofNat o)), .val (.int (Int32.ofNat len)), .val .null, .val (.ref s.heap.size)] [.int (Int32.ofNat len), .ref s.heap.size, .ref a])) := c9.trans (by
      refine XS.astore X8.here hexec rfl (hb hbytes d39) rfl rfl rfl ?_
      refine XS.aloadN X8.here hexec rfl (hb hbytes d41) rfl rfl ?_
      refine XS.aload X8.here hexec rfl (hb hbytes d42) rfl rfl ?_
      refine XS.iloadN X8.here hexec rfl (hb hbytes d44) rfl ?_
      exact Steps.refl _)
    rw [n4]; exact hc
  obtain ⟨v11, T11, X11, E11, g11⟩ := X8.callS hexec (CodL.law l s.heap.size N) hown (wks W (staticW "java/lang/String" 47 CodL.yN)) (wk W CodL.tab) (W := 1) (Nat.le_of_ble_eq_true rfl) (Nat.le_of_ble_eq_true rfl) (Nat.le_refl _) (by show 0 + len + 0 ≤ len; omega) (g := (mkF m 45 #[.val (.ref a), .val (.ref b), .val (.int (Int32.ofNat o)), .val (.int (Int32.ofNat len)), .val .null, .val (.ref s.heap.size)] [.int (Int32.ofNat N.slots.size), .ref s.heap.size, .ref a])) rfl (by rw [hml]; rfl) c10 (argsL := [.ref s.heap.size, .int (Int32.ofNat N.slots.size)]) (rest := [.ref a]) rfl rfl (by show 2 * 0 + (1 + 0) ≤ _; decide) (hb hbytes d45) (⟨rfl, n1⟩)
  obtain ⟨rfl, q11⟩ := E11
  have hB11 := hB1.mv (X8.warmed.alike.symm.trans X11.warmed.alike) q11
  have c12 : Steps p.tables e below (s₁.setTop (entryFrame m #[.ref a, .ref b, .int (Int32.ofNat o), .int (Int32.ofNat len), .null] 6)) (T11.setTop (mkF m 48 #[.val (.ref a), .val (.ref b), .val (.int (Int32.ofNat o)), .val (.int (Int32.ofNat len)), .val .null, .val (.ref s.heap.size)] [.int 0, .ref a])) := g11
  obtain ⟨T13, X13, p13, bl13, sl13, st13⟩ := X11.finit hexec hown (wk W (.fieldLink "java/lang/String" 15 "java/lang/String" "coder" "B")) (Or.inr ⟨_, (wk W (.laysFinal "java/lang/String" "java/lang/String" "coder" "B"))⟩) (Or.inl ⟨rfl, hnm⟩) f2 (Or.inl rfl) hB11 (t := .byte) (by decide +kernel) rfl (g := (mkF m 48 #[.val (.ref a), .val (.ref b), .val (.int (Int32.ofNat o)), .val (.int (Int32.ofNat len)), .val .null, .val (.ref s.heap.size)] [.int 0, .ref a])) rfl (rest := []) rfl (hb hbytes d48)
  have c14 : Steps p.tables e below (s₁.setTop (entryFrame m #[.ref a, .ref b, .int (Int32.ofNat o), .int (Int32.ofNat len), .null] 6)) (T13.setTop (mkF m 54 #[.val (.ref a), .val (.ref b), .val (.int (Int32.ofNat o)), .val (.int (Int32.ofNat len)), .val .null, .val (.ref s.heap.size)] [.ref s.heap.size, .ref a])) := (c12.trans (st13 _ (Steps.refl _))).trans (by
    refine XS.aloadN X13.here hexec rfl (hb hbytes d51) rfl rfl ?_
    refine XS.aload X13.here hexec rfl (hb hbytes d52) rfl rfl ?_
    exact Steps.refl _)
  obtain ⟨T15, X15, p15, bl15, sl15, st15⟩ := X13.finit hexec hown (wk W (.fieldLink "java/lang/String" 9 "java/lang/String" "value" "[B")) (Or.inr ⟨_, (wk W (.laysFinal "java/lang/String" "java/lang/String" "value" "[B"))⟩) (Or.inl ⟨rfl, hnm⟩) f1 (Or.inl rfl) bl13 (t := (.array .byte)) (by decide +kernel) rfl (g := (mkF m 54 #[.val (.ref a), .val (.ref b), .val (.int (Int32.ofNat o)), .val (.int (Int32.ofNat len)), .val .null, .val (.ref s.heap.size)] [.ref s.heap.size, .ref a])) rfl (rest := []) rfl (hb hbytes d54)
  have c16 : Steps p.tables e below (s₁.setTop (entryFrame m #[.ref a, .ref b, .int (Int32.ofNat o), .int (Int32.ofNat len), .null] 6)) (T15.setTop (mkF m 57 #[.val (.ref a), .val (.ref b), .val (.int (Int32.ofNat o)), .val (.int (Int32.ofNat len)), .val .null, .val (.ref s.heap.size)] [])) := c14.trans (st15 _ (Steps.refl _))
  have ap := apart (Or.inr ⟨_, (wk W (.laysFinal "java/lang/String" "java/lang/String" "value" "[B"))⟩) (Or.inr ⟨_, (wk W (.laysFinal "java/lang/String" "java/lang/String" "coder" "B"))⟩) f1 f2 (t₁ := .array .byte) (t₂ := .byte) (by decide +kernel) (by decide +kernel) (by decide)
  have al := X8.warmed.alike.symm.trans X15.warmed.alike
  have n7 : T11.heap[s.heap.size]? = some N := by rw [q11]; exact n1.1
  exact ⟨T15, none, _, _, _, X15, by simp, rfl, by omega, (fun _ => rfl), ⟨rfl, _, N, bl15, ((Same.refl D _).set _ (by simp)).set _ (by simp), sl15, (Cell.slots_setSlot_ne _ ap).trans sl13, n1.keep al (p15.other hne (p13.other hne n7)), n2, by rw [al.findClass]; exact n3, n4, n5, fun y c h1 h2 => p15.other h1 (p13.other h1 (by rw [q11]; exact n6 y c h2)), by rw [p15.2.2, p13.2.2, q11]; exact z8⟩, fun fs hl => c16.trans (X15.returnOut hexec hret (hb hbytes d57) hl)⟩
end New4
namespace New1
def yN : MethodName := ⟨"java/lang/String", "<init>", "([C)V"⟩
abbrev yB : ByteArray := jdk_42_method_3_code
theorem d0 : decode yB 0 = .ok (.aload_n 0, 1) := by decide +kernel
theorem d1 : decode yB 1 = .ok (.aload_n 1, 1) := by decide +kernel
theorem d2 : decode yB 2 = .ok (.iconst 0, 1) := by decide +kernel
theorem d3 : decode yB 3 = .ok (.aload_n 1, 1) := by decide +kernel
theorem d4 : decode yB 4 = .ok (.arraylength, 1) := by decide +kernel
theorem d5 : decode yB 5 = .ok (.aconst_null, 1) := by decide +kernel
theorem d6 : decode yB 6 = .ok (.invokespecial 27, 3) := by decide +kernel
theorem d9 : decode yB 9 = .ok (.return_, 1) := by decide +kernel
def site : List Cond := [New4.tab] ++ initW "java/lang/String" 27 New4.yN
def tab : Cond := tabOf yN yB 2 none site
def P (a : Addr) (D : Cell) (fV fC : Field) (b : Addr) (A : Cell) (z : Int32) (args : Array Value) (s : State) : Prop := args = #[.ref a, .ref b] ∧ Blank "java/lang/String" a D s ∧ Found "java/lang/String" "value" "[B" fV s ∧ Found "java/lang/String" "coder" "B" fC s ∧ Ch b A s ∧ StaticIs s "java/lang/String" "COMPACT_STRINGS" "Z" (.int z) ∧ ¬ z = 0 ∧ 0 < A.slots.size ∧ A.slots.size ≤ 536870912 ∧ ∀ i, i < A.slots.size → ¬ 255 < cv A i
def E (a : Addr) (D : Cell) (fV fC : Field) (A : Cell) (r : Option Value) (s u : State) : Prop := Got a D fV fC A 0 A.slots.size r s u
/-- new String(chars), not empty, no char above 255: a Latin-1 String of their low bytes -/
theorem law (l : Launch) (a : Addr) (D : Cell) (fV fC : Field) (b : Addr) (A : Cell) (z : Int32) : Law l yN 2 1 3 52 yB 2 none site (P a D fV fC b A z) (E a D fV fC A) [⟨a, fC.slot⟩, ⟨a, fV.slot⟩] 1 A.slots.size := by
  refine Law.of_walk (plainFor_of_name (by decide +kernel)) (by decide +kernel) (by decide +kernel) (by decide) (fun _ _ h => by rw [h.1]; rfl) (fun _ U U' hal hh h => ⟨h.1, h.2.1.mv hal hh, h.2.2.1.al hal, h.2.2.2.1.al hal, h.2.2.2.2.1.mv hal hh, h.2.2.2.2.2.1.there hal hh, h.2.2.2.2.2.2⟩) (fun r U U' V V' h1 hal h2 h => Got.mv r U U' V V' h1 hal h2 h) ?_
  intro p e s m args below meth c s₁ X0 hexec hbytes hml hret hlk hnm hown hh0 W hP
  obtain ⟨rfl, hB, f1, f2, hA, s1, hz, l0, l2, hp⟩ := hP
  have c1 : Steps p.tables e below (s₁.setTop (entryFrame m #[.ref a, .ref b] 2)) (s₁.setTop (mkF m 0 #[.val (.ref a), .val (.ref b)] [])) := entry rfl
  have c2 : Steps p.tables e below (s₁.setTop (entryFrame m #[.ref a, .ref b] 2)) (s₁.setTop (mkF m 6 #[.val (.ref a), .val (.ref b)] [.null, .int (Int32.ofNat A.slots.size), .int 0, .ref b, .ref a])) := c1.trans (by
    refine XS.aloadN X0.here hexec rfl (hb hbytes d0) rfl rfl ?_
    refine XS.aloadN X0.here hexec rfl (hb hbytes d1) rfl rfl ?_
    refine iconstV X0.here hexec rfl 0 (hb hbytes d2) (by decide) ?_
    refine XS.aloadN X0.here hexec rfl (hb hbytes d3) rfl rfl ?_
    refine X0.alen hexec (hA.1.mv X0.warmed.alike hh0) rfl rfl (hb hbytes d4) ?_
    refine XS.aconstNull X0.here hexec rfl (hb hbytes d5) ?_
    exact Steps.refl _)
  obtain ⟨v3, T3, X3, E3, g3⟩ := X0.callN hexec (New4.law l a D fV fC b A z 0 A.slots.size) rfl hown (wks W (initW "java/lang/String" 27 New4.yN)) (W New4.tab (by simp only [site, List.mem_cons, List.mem_append, true_or, or_true])) (W := 0) (Nat.le_of_ble_eq_true rfl) (Nat.le_of_ble_eq_true rfl) (Nat.le_refl _) (by show 0 + A.slots.size ≤ A.slots.size; omega) (g := (mkF m 6 #[.val (.ref a), .val (.ref b)] [.null, .int (Int32.ofNat A.slots.size), .int (Int32.ofNat 0), .ref b, .ref a])) rfl (by rw [hml]; rfl) c2 (argsL := [.ref b, .int (Int32.ofNat 0), .int (Int32.ofNat A.slots.size), .null]) (rest := []) rfl rfl (by show 2 * 0 + 0 ≤ _; decide) (hb hbytes d6) (⟨rfl, hB.mv X0.warmed.alike hh0, f1.al X0.warmed.alike, f2.al X0.warmed.alike, hA.mv X0.warmed.alike hh0, s1.there X0.warmed.alike hh0, hz, l0, by omega, l2, fun i hi => by rw [Nat.zero_add]; exact hp i hi⟩)
  have e0 := Got.mv _ s₁ s _ _ hh0.symm (Vm.Alike.refl _) rfl E3
  obtain rfl := e0.1
  have c4 : Steps p.tables e below (s₁.setTop (entryFrame m #[.ref a, .ref b] 2)) (T3.setTop (mkF m 9 #[.val (.ref a), .val (.ref b)] [])) := g3
  exact ⟨T3, none, _, _, _, X3, by simp, rfl, by omega, (fun _ => rfl), e0, fun fs hl => c4.trans (X3.returnOut hexec hret (hb hbytes d9) hl)⟩
theorem pays {l : Launch} {R : Room} {p : Program} {e : Env} {below : List Frame} {s : State} {sargs : Array Value} {len W : Nat} (a : Addr) (D : Cell) (fV fC : Field) (b : Addr) (A : Cell) (z : Int32) (htab : tab.before sargs s = true) (hfr : 4 ≤ R.frames) (hlo : W + 65 ≤ R.locals) :
    Back l R p e below s sargs yN len W (fun A₁ a₁ => A₁.cells + 1 ≤ R.cells ∧ A₁.slots + A.slots.size ≤ R.slots ∧ P a D fV fC b A z a₁ A₁.U) (fun A₁ _ v₁ B₁ => E a D fV fC A v₁ A₁.U B₁.U ∧ B₁.locs = A₁.locs ++ [⟨a, fC.slot⟩, ⟨a, fV.slot⟩] ∧ B₁.cells = A₁.cells + 1 ∧ B₁.slots = A₁.slots + A.slots.size) :=
  (law l a D fV fC b A z).pays htab hfr (by omega)
end New1
/-- the byte, read back as charAt reads it, is the char -/
theorem lo8_mask {x : Int32} (h0 : ¬ x < 0) (h1 : ¬ 255 < x) : lo8 x &&& 255 = x := by
  have t : ∀ k : Fin 256, lo8 (Int32.ofNat k.val) &&& 255 = Int32.ofNat k.val := by decide +kernel
  rw [Int32.lt_iff_toInt_lt] at h0 h1
  have e0 : (0 : Int32).toInt = 0 := rfl
  have e1 : (255 : Int32).toInt = 255 := rfl
  obtain ⟨k, hk⟩ : ∃ k : Nat, x.toInt = k := ⟨x.toInt.toNat, by omega⟩
  have hx : x = Int32.ofNat k := Int32.toInt_inj.mp (by rw [hk, Int32.toInt_ofNat_small (by omega)])
  rw [hx]
  exact t ⟨k, by omega⟩
end StrChars
namespace StrChars.Road
open Jvm Sem ClassFile Op Lib Jvm.Stand Jvm.Free Jvm.Free.XT
open Jvm.Lib.Cold (StaticIs)
abbrev ST : String := "java/lang/String"
/-- every table word that New1's law asks, flat -/
abbrev words : List Jvm.Cond := [.code New1.yN New1.yB 2 none, .initialized ST, .methodLink ST 27 New4.yN, .instanceMethod New4.yN,
  .code New4.yN New4.yB 6 none, .fieldLink ST 38 ST "COMPACT_STRINGS" "Z", .laysFinal ST ST "value" "[B", .fieldLink ST 9 ST "value" "[B", .laysFinal ST ST "coder" "B", .fieldLink ST 15 ST "coder" "B",
  .methodLink ST 1 Lib.objectInit, .instanceMethod Lib.objectInit, .code Lib.objectInit ⟨#[0xb1]⟩ 1 none, .methodLink ST 177 Cmp3.yN, .static Cmp3.yN, .methodLink ST 47 CodL.yN, .static CodL.yN,
  .code Cmp3.yN Cmp3.yB 6 (some (.array .byte)), .initialized U16, .arrayClass .byte, .methodLink U16 115 Cmp5.yN, .static Cmp5.yN, .code Cmp5.yN Cmp5.yB 7 (some .int), .code CodL.yN CodL.yB 2 (some .byte)]
theorem tab_of {a : Array Value} {s : State} (h : ∀ w ∈ words, w.before a s = true) : New1.tab.before a s = true := by
  have h5 : Cmp5.tab.before a s = true := unparts (wk h (.code Cmp5.yN Cmp5.yB 7 (some .int))) (wks h (.initialized Cmp5.yN.cls :: Cmp5.site))
  have hc : CodL.tab.before a s = true := unparts (wk h (.code CodL.yN CodL.yB 2 (some .byte))) (wks h (.initialized CodL.yN.cls :: CodL.site))
  have q5 : ∀ w ∈ Cmp5.tab :: words, w.before a s = true := fun w hw => (List.mem_cons.mp hw).elim (fun e => e ▸ h5) (h w)
  have h3 : Cmp3.tab.before a s = true := unparts (wk q5 (.code Cmp3.yN Cmp3.yB 6 (some (.array .byte)))) (wks q5 (.initialized Cmp3.yN.cls :: Cmp3.site))
  have q3 : ∀ w ∈ Cmp3.tab :: CodL.tab :: words, w.before a s = true := fun w hw => (List.mem_cons.mp hw).elim (fun e => e ▸ h3) fun hw => (List.mem_cons.mp hw).elim (fun e => e ▸ hc) (h w)
  have h4 : New4.tab.before a s = true := unparts (wk q3 (.code New4.yN New4.yB 6 none)) (wks q3 (.initialized New4.yN.cls :: New4.site))
  have q4 : ∀ w ∈ New4.tab :: words, w.before a s = true := fun w hw => (List.mem_cons.mp hw).elim (fun e => e ▸ h4) (h w)
  exact unparts (wk q4 (.code New1.yN New1.yB 2 none)) (wks q4 (.initialized New1.yN.cls :: New1.site))
/-- the words ride from the start Z to the walk's own state -/
theorem moved {Z s : State} {a0 args : Array Value} (hZ : Z.Warmed39 s.vm) (hw : ∀ d ∈ words, d.before a0 Z = true) : ∀ d ∈ words, d.before args s = true := fun d hd => by
  have q := hw d hd
  have t : ∀ d ∈ words, d = .arrayClass .byte ∨ (d.onTables && d.keepsFace) = true := by decide +kernel
  rcases t d hd with rfl | t
  · exact RoadKit.mvA hZ q
  · exact RoadKit.mv hZ q t
/-- WHAT COMES BACK, over the tables of the start Z: h the heap at the call, h' behind it -/
def Q (Z : State) (x : Addr) (A : Cell) (h : Heap) (v : Option Value) (h' : Heap) (L : List Loc) : Prop := v = none ∧ (∀ y ∈ L, y.base = x) ∧ RoadKit.Keep h h' [x] ∧ h'.size = h.size + 1 ∧ RoadKit.Exa Z h' x ST ∧ RoadKit.Fld Z h' x ST "value" "[B" (.ref h.size) ∧ RoadKit.Fld Z h' x ST "coder" "B" (.int 0) ∧
  (∃ V : Cell, RoadKit.Arr Z h' h.size V .byte ∧ V.vm = .none ∧ Z.vm.findClass "[B" = some V.cls ∧ V.slots.size = A.slots.size ∧ ∀ j, j < A.slots.size → V.slots[j]? = some (.int (lo8 (cv A j)))) ∧
  ∀ (O n d : String) (w : Value), RoadKit.Fld Z h x O n d w → RoadKit.slotOf Z O n d ≠ RoadKit.slotOf Z ST "value" "[B" → RoadKit.slotOf Z O n d ≠ RoadKit.slotOf Z ST "coder" "B" → RoadKit.Fld Z h' x O n d w
/-- **new String(chars) AT A CALL, IN THE ROAD'S FORM**: for specialBack behind newO: x the fresh String, b the char[] with the cell A -/
theorem back {p : Program} {l : Launch} {e : Env} {R : Room} {s : State} {args : Array Value} {below : List Frame} {len W : Nat} {Z : State} {a0 : Array Value} {h : Heap} (hZ : Z.Warmed39 s.vm) (hw : ∀ d ∈ words, d.before a0 Z = true) {kI : Nat} (wi : (Jvm.Cond.instantiable ST kI).before a0 Z = true)
    {x b : Addr} {A : Cell} {z : Int32} {v0 c0 : Value} (E : RoadKit.Exa Z h x ST) (V : RoadKit.Fld Z h x ST "value" "[B" v0) (C : RoadKit.Fld Z h x ST "coder" "B" c0) (K : RoadKit.Arr Z h b A .char) (hty : Typed .char A) (S : RoadKit.Sta Z h ST "COMPACT_STRINGS" "Z" (.int z)) (hz : ¬ z = 0)
    (l0 : 0 < A.slots.size) (l2 : A.slots.size ≤ 536870912) (hp : ∀ i, i < A.slots.size → ¬ 255 < cv A i) (hfr : 4 ≤ R.frames) (hlo : W + 65 ≤ R.locals) :
    Back l R p e below s args New1.yN len W (fun P a => a = #[.ref x, .ref b] ∧ P.U.heap = h ∧ P.cells + 1 ≤ R.cells ∧ P.slots + A.slots.size ≤ R.slots)
      (fun P _ v B => ∃ L, Q Z x A h v B.U.heap L ∧ B.locs = P.locs ++ L ∧ B.cells = P.cells + 1 ∧ B.slots = P.slots + A.slots.size) := by
  intro m meth c P g ig mk a X hg hsize hdg hW hn hp'
  obtain ⟨rfl, rfl, r1, r2⟩ := hp'
  have al : Z.vm.Alike P.U.vm := hZ.alike.trans X.warmed.alike
  obtain ⟨D, cfV, kV, iV, fV, hD, gV, stV, knV, obV, asV, slV⟩ := id V
  obtain ⟨D', cfC, kC, iC, fC, hD', gC, stC, -, -, asC, slC⟩ := id C
  cases hD.symm.trans hD'
  obtain ⟨D2, kD, e1, e2, e3, e4, e5⟩ := id E
  cases hD.symm.trans e1
  obtain ⟨c2, k2, i1, i2, i3, -⟩ := Cond.instantiable_spec wi
  cases e2.symm.trans i1
  cases e3.symm.trans i2
  obtain ⟨kU, u1, u2⟩ := al.2.2 _ _ e3
  have hB : Blank ST x D P.U := ⟨hD, ⟨knV, fun q hq => by rw [hq] at obV; cases obV⟩, by rw [al.findClass]; exact e2, kU, u1, by rw [u2]; exact i3, by rw [u2]; exact e5 i3⟩
  have F1 : Found ST "value" "[B" fV P.U := ⟨SBG.found_only al ⟨cfV, kV, iV, gV⟩, stV⟩
  have F2 : Found ST "coder" "B" fC P.U := ⟨SBG.found_only al ⟨cfC, kC, iC, gC⟩, stC⟩
  have hA : Ch b A P.U := ⟨⟨K.1, State.isArrayOf_alike al K.2.1, K.2.2, by omega⟩, hty⟩
  have hS : StaticIs P.U ST "COMPACT_STRINGS" "Z" (.int z) := by
    obtain ⟨cfS, iS, kS, fS, st, cS, t1, t2, t3, t4, t5, t6, t7⟩ := S
    exact StaticIs.there (s := { Z with heap := P.U.heap }) ⟨cfS, iS, kS, fS, st, cS, t1, t2, t3, t4, t5, (fun q => by rw [q] at t6; cases t6), t7⟩ al rfl
  obtain ⟨v, B, X', ⟨⟨hv, E', V', q1, q2, q3, q4, q5, q6, q7, q8, q9, q10, q11⟩, hl, hc, hs⟩, st⟩ := New1.pays x D fV fC b A z (tab_of (moved hZ hw)) hfr hlo m meth c P g ig mk _ X hg hsize hdg hW hn ⟨r1, r2, rfl, hB, F1, F2, hA, hS, hz, l0, l2, hp⟩
  have al' : Z.vm.Alike B.U.vm := hZ.alike.trans X'.warmed.alike
  have hsz : E'.slots.size = D.slots.size := by
    obtain ⟨-, -, -, kB, w1, w2, w3⟩ := q1
    obtain ⟨kB', y1, y2⟩ := al'.2.2 _ _ e3
    rw [q2.2.1] at w1
    cases w1.symm.trans y1
    rw [w3, e5 i3, y2]
  refine ⟨v, B, X', ⟨_, ⟨hv, ?_, ⟨by omega, fun y cy hy hn' => q10 y cy (by simpa using hn') hy, fun y cy hy => ?_⟩, q11, ⟨E', _, q1.1, by rw [q2.2.1]; exact e2, by rw [q2.2.1]; exact e3, by rw [q2.1]; exact obV, fun _ => by rw [hsz]; exact e5 i3⟩,
    ⟨E', cfV, kV, iV, fV, q1.1, gV, stV, by rw [q2.1]; exact knV, by rw [q2.1]; exact obV, by rw [q2.2.1]; exact asV, q3⟩, ⟨E', cfC, kC, iC, fC, q1.1, gC, stC, by rw [q2.1]; exact knV, by rw [q2.1]; exact obV, by rw [q2.2.1]; exact asC, q4⟩,
    ⟨V', ⟨q5.1, State.isArrayOf_alike al'.symm q5.2.1, q5.2.2.1⟩, q6, by rw [← al'.findClass]; exact q7, q8, fun j hj => by have := q9 j hj; rwa [Nat.zero_add] at this⟩, fun O n d w F n1 n2 => ?_⟩, hl, hc, hs⟩, st⟩
  · intro y hy
    simp only [List.mem_cons, List.not_mem_nil, or_false] at hy
    rcases hy with rfl | rfl <;> rfl
  · by_cases q : y = x
    · subst q
      cases hD.symm.trans hy
      exact ⟨E', q1.1, q2.2.1, q2.1, hsz⟩
    · exact ⟨cy, q10 y cy q hy, rfl, rfl, rfl⟩
  · obtain ⟨D3, cf, k, i, f, g1, g2, g3, g4, g5, g6, g7⟩ := F
    cases hD.symm.trans g1
    simp only [RoadKit.slotOf, g2, gV, gC, Option.map_some, Option.getD_some] at n1 n2
    exact ⟨E', cf, k, i, f, q1.1, g2, g3, by rw [q2.1]; exact g4, by rw [q2.1]; exact g5, by rw [q2.2.1]; exact g6, by rw [q2.2.2 f.slot (by simp [n1, n2])]; exact g7⟩
end StrChars.Road
namespace StrChars.Road
open Jvm Sem ClassFile Op Lib Jvm.Stand Jvm.Free Jvm.Free.XT
/-- WHAT COMES BACK, the byte[] as a list of values -/
def QA (Z : State) (x : Addr) (zn : Int32) (cs : List Int32) (h : Heap) (v : Option Value) (h' : Heap) (L : List Loc) : Prop := v = none ∧ (∀ y ∈ L, y.base = x) ∧ RoadKit.Keep h h' [x] ∧ h'.size = h.size + 1 ∧ RoadKit.Exa Z h' x ST ∧ RoadKit.Fld Z h' x ST "value" "[B" (.ref h.size) ∧ RoadKit.Fld Z h' x ST "coder" "B" (.int 0) ∧
  (∃ kb, Z.vm.findClass "[B" = some kb ∧ RoadKit.Arv Z h' h.size kb .byte zn (cs.map fun c => .int (lo8 c)) (.int 0)) ∧
  ∀ (O n d : String) (w : Value), RoadKit.Fld Z h x O n d w → RoadKit.slotOf Z O n d ≠ RoadKit.slotOf Z ST "value" "[B" → RoadKit.slotOf Z O n d ≠ RoadKit.slotOf Z ST "coder" "B" → RoadKit.Fld Z h' x O n d w
/-- **new String(chars) AT A CALL, THE ARRAYS AS LISTS**: the char[] at b holds cs, not empty, no char above 255 -/
theorem backArv {p : Program} {l : Launch} {e : Env} {R : Room} {s : State} {args : Array Value} {below : List Frame} {len W : Nat} {Z : State} {a0 : Array Value} {h : Heap} (hZ : Z.Warmed39 s.vm) (hw : ∀ d ∈ words, d.before a0 Z = true) {kI : Nat} (wi : (Jvm.Cond.instantiable ST kI).before a0 Z = true)
    {x b : Addr} {k : ClassId} {zn z : Int32} {cs : List Int32} {dv v0 c0 : Value} (E : RoadKit.Exa Z h x ST) (V : RoadKit.Fld Z h x ST "value" "[B" v0) (C : RoadKit.Fld Z h x ST "coder" "B" c0) (K : RoadKit.Arv Z h b k .char zn (cs.map Value.int) dv) (S : RoadKit.Sta Z h ST "COMPACT_STRINGS" "Z" (.int z)) (hz : ¬ z = 0)
    (hlen : zn.toNatClampNeg = cs.length) (h0 : 0 < cs.length) (hbig : cs.length ≤ 536870912) (hall : ∀ c ∈ cs, ¬ 255 < c) (hfr : 4 ≤ R.frames) (hlo : W + 65 ≤ R.locals) :
    Back l R p e below s args New1.yN len W (fun P a => a = #[.ref x, .ref b] ∧ P.U.heap = h ∧ P.cells + 1 ≤ R.cells ∧ P.slots + cs.length ≤ R.slots)
      (fun P _ v B => ∃ L, QA Z x zn cs h v B.U.heap L ∧ B.locs = P.locs ++ L ∧ B.cells = P.cells + 1 ∧ B.slots = P.slots + cs.length) := by
  obtain ⟨A, K1, K2, K3, K4, K5, K6⟩ := K
  have e : A.slots.size = cs.length := K3.trans hlen
  have hat : ∀ (i : Nat) (hi : i < cs.length), A.slots[i]? = some (.int cs[i]) := fun i hi => by rw [K5 i (by omega)]; simp [List.getD_eq_getElem?_getD, hi]
  have hcv : ∀ (i : Nat) (hi : i < cs.length), cv A i = cs[i] := fun i hi => by unfold cv; rw [hat i hi]
  have hty : Typed .char A := fun i v hv => by
    have hi : i < A.slots.size := (Array.getElem?_eq_some_iff.mp hv).1
    have q := K5 i hi
    rw [hv] at q
    rw [Option.some.inj q]
    exact K6 i hi
  refine Back.mono (back hZ hw wi E V C K1 hty S hz (by omega) (by omega) (fun i hi => by rw [hcv i (by omega)]; exact hall _ (List.getElem_mem _)) hfr hlo) (fun P a hp => ⟨hp.1, hp.2.1, hp.2.2.1, by rw [e]; exact hp.2.2.2⟩) (fun P a v B hp hq => ?_)
  obtain ⟨L, ⟨q1, q2, q3, q4, q5, q6, q7, ⟨V', v1, v2, v3, v4, v5⟩, q9⟩, hl, hc, hs⟩ := hq
  refine ⟨L, ⟨q1, q2, q3, q4, q5, q6, q7, ⟨V'.cls, v3, V', v1, rfl, by rw [v4, e, hlen], K4, fun i hi => ?_, fun i hi => ?_⟩, q9⟩, hl, hc, by rw [hs, e]⟩
  · have hi' : i < cs.length := by omega
    rw [v5 i (by omega), hcv i hi']; simp [List.getD_eq_getElem?_getD, hi']
  · have hi' : i < cs.length := by omega
    simp only [List.getD_eq_getElem?_getD, List.getElem?_map, List.getElem?_eq_getElem hi', Option.map_some, Option.getD_some]
    exact fits_lo8 _
end StrChars.Road
namespace StrChars.Road
open Jvm Sem ClassFile Op Lib Jvm.Stand Jvm.Free Jvm.Free.XT
/-- WHAT COMES BACK, in the writer's own shape -/
def QV (Z : State) (x : Addr) (N : Int32) (bs : List Int32) (h : Heap) (n0 : Nat) (v : Option Value) (h' : Heap) (L : List Loc) : Prop := v = none ∧ RoadKit.Fr n0 L ∧ RoadKit.Keep h h' [x] ∧ RoadKit.Exa Z h' x ST ∧ RoadKit.Fld Z h' x ST "coder" "B" (.int 0) ∧
  ∃ (t : Addr) (kb : ClassId), n0 ≤ t ∧ h.size ≤ t ∧ ¬ t = x ∧ RoadKit.Fld Z h' x ST "value" "[B" (.ref t) ∧ RoadKit.Arv Z h' t kb .byte N (bs.map Value.int) (.int 0)
/-- **new String(chars) AT A CALL, FOR THE WRITER**: a char[] of n known ints, each 0 to 255 -/
theorem backV {p : Program} {l : Launch} {e : Env} {R : Room} {s : State} {args : Array Value} {below : List Frame} {len W : Nat} {Z : State} {a0 : Array Value} {h : Heap} (hZ : Z.Warmed39 s.vm) (hw : ∀ d ∈ words, d.before a0 Z = true) {kI : Nat} (wi : (Jvm.Cond.instantiable ST kI).before a0 Z = true)
    {x b : Addr} {kC : ClassId} {cs bs : List Int32} {d v0 c0 : Value} {z N : Int32} {n n0 : Nat} (hx0 : n0 ≤ x) (hh0 : n0 ≤ h.size) (E : RoadKit.Exa Z h x ST) (V : RoadKit.Fld Z h x ST "value" "[B" v0) (C : RoadKit.Fld Z h x ST "coder" "B" c0) (K : RoadKit.Arv Z h b kC .char N (cs.map Value.int) d) (S : RoadKit.Sta Z h ST "COMPACT_STRINGS" "Z" (.int z)) (hz : ¬ z = 0)
    (hn : cs.length = n) (hN : N = Int32.ofNat n) (l0 : 0 < n) (l2 : n ≤ 4000) (hp : ∀ c ∈ cs, ¬ c < 0 ∧ ¬ (255 : Int32) < c) (hb : bs = cs.map (fun c => c.toInt8.toInt32)) (hfr : 4 ≤ R.frames) (hlo : W + 65 ≤ R.locals) :
    Back l R p e below s args (⟨"java/lang/String", "<init>", "([C)V"⟩ : MethodName) len W (fun P a => a = #[.ref x, .ref b] ∧ P.U.heap = h ∧ P.cells + 1 ≤ R.cells ∧ P.slots + n ≤ R.slots)
      (fun P _ v B => ∃ L, QV Z x N bs h n0 v B.U.heap L ∧ B.locs = P.locs ++ L ∧ B.cells = P.cells + 1 ∧ B.slots = P.slots + n) := by
  subst hn hN hb
  refine Back.mono (backArv hZ hw wi E V C K S hz (n32 (by omega)) l0 (by omega) (fun c hc => (hp c hc).2) hfr hlo) (fun P a hp => hp) (fun P a v B hp hq => ?_)
  obtain ⟨L, ⟨q1, q2, q3, q4, q5, q6, q7, ⟨kb, v1, v2⟩, q9⟩, hl, hc, hs⟩ := hq
  exact ⟨L, ⟨q1, fun y hy => by rw [q2 y hy]; exact hx0, q3, q5, q7, h.size, kb, hh0, Nat.le_refl _, Nat.ne_of_gt E.lt, q6, by rw [List.map_map]; exact v2⟩, hl, hc, hs⟩
end StrChars.Road
namespace StrChars
open Jvm Sem ClassFile Op Lib Jvm.Stand Jvm.Free.XT Jvm.Free.ALB Jvm.Free.JM Jvm.Free
open Jvm.Lib.Cold (StaticIs)
def hi8 (x : Int32) : Int32 := lo8 (x >>> ((8 : Int32) &&& 31))
/-- what StringUTF16.getChar makes of two bytes -/
def pairCh (u v : Int32) : Int32 := (((u &&& 255) <<< ((0 : Int32) &&& 31)) ||| ((v &&& 255) <<< ((8 : Int32) &&& 31))).toUInt32.toUInt16.toUInt32.toInt32
theorem lo8_and (x : Int32) : (lo8 x &&& 255).toBitVec.toNat = x.toBitVec.toNat % 256 := by
  have h : (lo8 x).toBitVec = (x.toBitVec.signExtend 8).signExtend 32 := by rw [lo8, Int8.toBitVec_toInt32, Int32.toBitVec_toInt8]
  rw [Int32.toBitVec_and, BitVec.toNat_and, h]
  have e : ((x.toBitVec.signExtend 8).signExtend 32).toNat % 256 = x.toBitVec.toNat % 256 := by
    rw [BitVec.toNat_signExtend]
    have hlt := x.toBitVec.isLt
    simp only [BitVec.toNat_setWidth, BitVec.toNat_signExtend]
    split <;> split <;> omega
  rw [← e]
  exact Nat.and_two_pow_sub_one_eq_mod _ 8
theorem pair_says {c : Int32} (h0 : ¬ c < 0) (h1 : ¬ 65535 < c) : pairCh (lo8 c) (hi8 c) = c := by
  rw [Int32.lt_iff_toInt_lt] at h0 h1
  have e0 : (0 : Int32).toInt = 0 := rfl
  have e1 : (65535 : Int32).toInt = 65535 := rfl
  have hc : c.toInt = c.toBitVec.toNat := by
    have := c.toBitVec.isLt
    have e : c.toInt = c.toBitVec.toInt := rfl
    rw [e] at h0 h1
    rw [e]
    rw [BitVec.toInt_eq_toNat_cond] at h0 h1 ⊢
    split at h0 <;> split <;> omega
  have hn : c.toBitVec.toNat < 65536 := by omega
  have a1 := lo8_and c
  have a2 : (hi8 c &&& 255).toBitVec.toNat = c.toBitVec.toNat / 256 := by
    rw [hi8, lo8_and]
    have e : ((8 : Int32) &&& 31) = 8 := by decide
    rw [e, Int32.toBitVec_shiftRight]
    have e2 : ((8 : Int32).toBitVec.smod 32) = 8#32 := by decide
    rw [e2, BitVec.sshiftRight_eq', BitVec.toNat_sshiftRight_of_msb_false (by rw [BitVec.msb_eq_false_iff_two_mul_lt]; omega)]
    show c.toBitVec.toNat >>> 8 % 256 = _
    rw [Nat.shiftRight_eq_div_pow]
    omega
  unfold pairCh
  apply Int32.toBitVec_inj.mp
  apply BitVec.eq_of_toNat_eq
  have f0 : ((0 : Int32) &&& 31) = 0 := by decide
  have f8 : ((8 : Int32) &&& 31) = 8 := by decide
  rw [f0, f8]
  have g : (((lo8 c &&& 255) <<< (0 : Int32)) ||| ((hi8 c &&& 255) <<< (8 : Int32))).toBitVec.toNat = c.toBitVec.toNat := by
    rw [Int32.toBitVec_or, Int32.toBitVec_shiftLeft, Int32.toBitVec_shiftLeft]
    have s0 : ((0 : Int32).toBitVec.smod 32) = 0#32 := by decide
    have s8 : ((8 : Int32).toBitVec.smod 32) = 8#32 := by decide
    rw [s0, s8, BitVec.toNat_or]
    simp only [BitVec.shiftLeft_eq', BitVec.toNat_shiftLeft, a1, a2]
    show (c.toBitVec.toNat % 256) <<< 0 % 2 ^ 32 ||| (c.toBitVec.toNat / 256) <<< 8 % 2 ^ 32 = _
    rw [Nat.shiftLeft_zero, Nat.mod_eq_of_lt (show c.toBitVec.toNat % 256 < 2 ^ 32 by omega), Nat.mod_eq_of_lt (show (c.toBitVec.toNat / 256) <<< 8 < 2 ^ 32 by rw [Nat.shiftLeft_eq]; omega), Nat.or_comm, ← Nat.shiftLeft_add_eq_or_of_lt (by omega), Nat.shiftLeft_eq]
    omega
  show BitVec.toNat (((((lo8 c &&& 255) <<< (0 : Int32)) ||| ((hi8 c &&& 255) <<< (8 : Int32))).toBitVec.setWidth 16).setWidth 32) = _
  rw [BitVec.toNat_setWidth, BitVec.toNat_setWidth, g]
  omega
end StrChars
namespace StrChars
open Jvm Sem ClassFile Op Lib Jvm.Stand Jvm.Free.XT Jvm.Free.ALB Jvm.Free.JM Jvm.Free
open Jvm.Lib.Cold (StaticIs)
/-- the array's cell V codes the n chars f 0 .. f (n - 1) by the coder cd, as the JDK does: coder 1 just where some char is above 255 -/
def Cod (cd : Int32) (n : Nat) (f : Nat → Int32) (V : Cell) : Prop := (cd = 0 ∧ V.slots.size = n ∧ ∀ j, j < n → V.slots[j]? = some (.int (lo8 (f j))) ∧ ¬ 255 < f j) ∨ (cd = 1 ∧ V.slots.size = 2 * n ∧ (∀ j, j < n → V.slots[2 * j]? = some (.int (lo8 (f j))) ∧ V.slots[2 * j + 1]? = some (.int (hi8 (f j)))) ∧ ∃ j, j < n ∧ 255 < f j)
/-- **x is a String of the n chars f 0 .. f (n - 1)**, Latin-1 or UTF-16; its array at t has the cell V -/
def Txt (x t : Addr) (V : Cell) (cd : Int32) (n : Nat) (f : Nat → Int32) (U : State) : Prop := Exact "java/lang/String" x U ∧ Has x "java/lang/String" "value" "[B" (.ref t) U ∧ Has x "java/lang/String" "coder" "B" (.int cd) U ∧ XT.Arr .byte t V U ∧ Cod cd n f V ∧ ∀ j, j < n → ¬ f j < 0 ∧ ¬ 65535 < f j
theorem Txt.mv {x t : Addr} {V : Cell} {cd : Int32} {n : Nat} {f : Nat → Int32} {U U' : State} (h : Txt x t V cd n f U) (hal : U.vm.Alike U'.vm) (hh : U'.heap = U.heap) : Txt x t V cd n f U' := ⟨h.1.mv hal hh, h.2.1.mv hal hh, h.2.2.1.mv hal hh, h.2.2.2.1.mv hal hh, h.2.2.2.2⟩
end StrChars
namespace StrChars.Road
open Jvm Sem ClassFile Op Lib Jvm.Stand Jvm.Free Jvm.Free.XT
open Jvm.Lib.Cold (StaticIs)
theorem consq {a : Array Value} {s : State} {c : Jvm.Cond} {L : List Jvm.Cond} (h0 : c.before a s = true) (h : ∀ w ∈ L, w.before a s = true) : ∀ w ∈ c :: L, w.before a s = true := fun w hw => (List.mem_cons.mp hw).elim (fun e => e ▸ h0) (h w)
/-- the bytes of the chars cs, low before high -/
def wideBytes : List Int32 → List Value
  | [] => []
  | c :: cs => .int (lo8 c) :: .int (hi8 c) :: wideBytes cs
theorem wide_lo (d : Value) : ∀ (cs : List Int32) (j : Nat), j < cs.length → (wideBytes cs).getD (2 * j) d = .int (lo8 (cs.getD j 0))
  | [], j, h => absurd h (Nat.not_lt_zero j)
  | c :: cs, 0, _ => rfl
  | c :: cs, j + 1, h => by
    have q := wide_lo d cs j (by simpa using h)
    rw [show 2 * (j + 1) = 2 * j + 1 + 1 from by omega]
    simpa [wideBytes] using q
theorem wide_hi (d : Value) : ∀ (cs : List Int32) (j : Nat), j < cs.length → (wideBytes cs).getD (2 * j + 1) d = .int (hi8 (cs.getD j 0))
  | [], j, h => absurd h (Nat.not_lt_zero j)
  | c :: cs, 0, _ => rfl
  | c :: cs, j + 1, h => by
    have q := wide_hi d cs j (by simpa using h)
    rw [show 2 * (j + 1) + 1 = 2 * j + 1 + 1 + 1 from by omega]
    simpa [wideBytes] using q
theorem low_at (d : Value) (cs : List Int32) (j : Nat) (h : j < cs.length) : (cs.map fun c => Value.int (lo8 c)).getD j d = .int (lo8 (cs.getD j 0)) := by
  simp [List.getD_eq_getElem?_getD, h]
/-- an array of N2 bytes vs codes the chars cs by the coder cd -/
def CodA (cs : List Int32) (cd N2 : Int32) (vs : List Value) : Prop := (cd = 0 ∧ N2 = Int32.ofNat cs.length ∧ vs = (cs.map fun c => Value.int (lo8 c)) ∧ ∀ c ∈ cs, ¬ 255 < c) ∨ (cd = 1 ∧ N2 = Int32.ofNat (2 * cs.length) ∧ vs = wideBytes cs ∧ ∃ c ∈ cs, 255 < c)
theorem CodA.cod {cs : List Int32} {cd N2 : Int32} {vs : List Value} {V : Cell} (h : CodA cs cd N2 vs) (hn : 2 * cs.length < 2 ^ 31) (hs : V.slots.size = N2.toNatClampNeg) (hv : RoadKit.Has V vs (.int 0)) : Cod cd cs.length (fun j => cs.getD j 0) V := by
  rcases h with ⟨rfl, rfl, rfl, h⟩ | ⟨rfl, rfl, rfl, c, hc, hw⟩
  · rw [n32 (by omega)] at hs
    exact Or.inl ⟨rfl, hs, fun j hj => ⟨by rw [hv j (by omega), low_at _ _ _ hj], by
      have e : cs.getD j 0 = cs[j] := by simp [List.getD_eq_getElem?_getD, hj]
      show ¬ 255 < cs.getD j 0
      rw [e]; exact h _ (List.getElem_mem _)⟩⟩
  · rw [n32 (by omega)] at hs
    obtain ⟨j, hj, rfl⟩ := List.getElem_of_mem hc
    exact Or.inr ⟨rfl, hs, fun j hj => ⟨by rw [hv _ (by omega), wide_lo _ _ _ hj], by rw [hv _ (by omega), wide_hi _ _ _ hj]⟩, j, hj, by
      have e : cs.getD j 0 = cs[j] := by simp [List.getD_eq_getElem?_getD, hj]
      show 255 < cs.getD j 0
      rw [e]; exact hw⟩
/-- an object of exactly java/lang/String, its two fields found: as the laws ask it -/
theorem strObj {Z U : State} {a0 : Array Value} {kI : Nat} (wi : (Jvm.Cond.instantiable ST kI).before a0 Z = true) (al : Z.vm.Alike U.vm) {x : Addr} {v0 c0 : Value} (E : RoadKit.Exa Z U.heap x ST) (V : RoadKit.Fld Z U.heap x ST "value" "[B" v0) (C : RoadKit.Fld Z U.heap x ST "coder" "B" c0) :
    ∃ (D : Cell) (fV fC : Field), Blank ST x D U ∧ Found ST "value" "[B" fV U ∧ Found ST "coder" "B" fC U ∧ D.slots[fV.slot]? = some v0 ∧ D.slots[fC.slot]? = some c0 ∧ RoadKit.slotOf Z ST "value" "[B" = fV.slot ∧ RoadKit.slotOf Z ST "coder" "B" = fC.slot := by
  obtain ⟨D, cfV, kV, iV, fV, hD, gV, stV, knV, obV, asV, slV⟩ := V
  obtain ⟨D', cfC, kC, iC, fC, hD', gC, stC, -, -, asC, slC⟩ := C
  cases hD.symm.trans hD'
  obtain ⟨D2, kD, e1, e2, e3, e4, e5⟩ := E
  cases hD.symm.trans e1
  obtain ⟨c2, k2, i1, i2, i3, -⟩ := Cond.instantiable_spec wi
  cases e2.symm.trans i1
  cases e3.symm.trans i2
  obtain ⟨kU, u1, u2⟩ := al.2.2 _ _ e3
  exact ⟨D, fV, fC, ⟨hD, ⟨knV, fun q hq => by rw [hq] at obV; cases obV⟩, by rw [al.findClass]; exact e2, kU, u1, by rw [u2]; exact i3, by rw [u2]; exact e5 i3⟩, ⟨SBG.found_only al ⟨cfV, kV, iV, gV⟩, stV⟩, ⟨SBG.found_only al ⟨cfC, kC, iC, gC⟩, stC⟩, slV, slC, by simp [RoadKit.slotOf, gV], by simp [RoadKit.slotOf, gC]⟩
theorem sta_is {Z U : State} (al : Z.vm.Alike U.vm) {C n d : String} {v : Value} (S : RoadKit.Sta Z U.heap C n d v) : StaticIs U C n d v := by
  obtain ⟨cfS, iS, kS, fS, st, cS, t1, t2, t3, t4, t5, t6, t7⟩ := S
  exact StaticIs.there (s := { Z with heap := U.heap }) ⟨cfS, iS, kS, fS, st, cS, t1, t2, t3, t4, t5, (fun q => by rw [q] at t6; cases t6), t7⟩ al rfl
end StrChars.Road
namespace StrChars
open Jvm Sem ClassFile Op Lib Jvm.Stand Jvm.Free.XT Jvm.Free.ALB Jvm.Free.JM Jvm.Free
open Jvm.Lib.Cold (StaticIs)
/-- what place i of a byte[]'s cell holds -/
def yv (A : Cell) (i : Nat) : Int32 := match A.slots[i]? with | some (.int x) => x | _ => 0
theorem yv_get {a : Addr} {A : Cell} {U : State} (h : XT.Arr .byte a A U) (ht : Typed .byte A) {i : Nat} (hi : i < A.slots.size) : A.slots[i]? = some (.int (yv A i)) := by
  have e := Array.getElem?_eq_getElem hi
  have f := ht i _ e
  unfold yv; rw [e]
  generalize A.slots[i] = v at f
  cases v <;> simp [fits] at f ⊢
/-- the two arrays are equal, place for place -/
def EqC (A B : Cell) : Prop := A.slots.size = B.slots.size ∧ ∀ i, i < A.slots.size → yv A i = yv B i
/-- a boolean that says whether p -/
def Says01 (q : Prop) (r : Option Value) (s u : State) : Prop := ∃ v : Int32, r = some (.int v) ∧ u.heap = s.heap ∧ ((v = 1 ∧ q) ∨ (v = 0 ∧ ¬ q))
theorem Says01.mv {q : Prop} : ∀ r (U U' V V' : State), U'.heap = U.heap → V.vm.Alike V'.vm → V'.heap = V.heap → Says01 q r U V → Says01 q r U' V' :=
  fun r U U' V V' h1 _ h2 ⟨v, a, b, c⟩ => ⟨v, a, by rw [h1, h2]; exact b, c⟩
namespace LEq
def yN : MethodName := ⟨"java/lang/StringLatin1", "equals", "([B[B)Z"⟩
abbrev yB : ByteArray := jdk_43_method_13_code
theorem d0 : decode yB 0 = .ok (.aload_n 0, 1) := by decide +kernel
theorem d1 : decode yB 1 = .ok (.arraylength, 1) := by decide +kernel
theorem d2 : decode yB 2 = .ok (.aload_n 1, 1) := by decide +kernel
theorem d3 : decode yB 3 = .ok (.arraylength, 1) := by decide +kernel
theorem d4 : decode yB 4 = .ok (.if_icmp (.ne) 30, 3) := by decide +kernel
theorem d7 : decode yB 7 = .ok (.iconst 0, 1) := by decide +kernel
theorem d8 : decode yB 8 = .ok (.istore_n 2, 1) := by decide +kernel
theorem d9 : decode yB 9 = .ok (.iload_n 2, 1) := by decide +kernel
theorem d10 : decode yB 10 = .ok (.aload_n 0, 1) := by decide +kernel
theorem d11 : decode yB 11 = .ok (.arraylength, 1) := by decide +kernel
theorem d12 : decode yB 12 = .ok (.if_icmp (.ge) 20, 3) := by decide +kernel
theorem d15 : decode yB 15 = .ok (.aload_n 0, 1) := by decide +kernel
theorem d16 : decode yB 16 = .ok (.iload_n 2, 1) := by decide +kernel
theorem d17 : decode yB 17 = .ok (.baload, 1) := by decide +kernel
theorem d18 : decode yB 18 = .ok (.aload_n 1, 1) := by decide +kernel
theorem d19 : decode yB 19 = .ok (.iload_n 2, 1) := by decide +kernel
theorem d20 : decode yB 20 = .ok (.baload, 1) := by decide +kernel
theorem d21 : decode yB 21 = .ok (.if_icmp (.eq) 5, 3) := by decide +kernel
theorem d24 : decode yB 24 = .ok (.iconst 0, 1) := by decide +kernel
theorem d25 : decode yB 25 = .ok (.ireturn, 1) := by decide +kernel
theorem d26 : decode yB 26 = .ok (.iinc 2 1, 3) := by decide +kernel
theorem d29 : decode yB 29 = .ok (.goto (-20), 3) := by decide +kernel
theorem d32 : decode yB 32 = .ok (.iconst 1, 1) := by decide +kernel
theorem d33 : decode yB 33 = .ok (.ireturn, 1) := by decide +kernel
theorem d34 : decode yB 34 = .ok (.iconst 0, 1) := by decide +kernel
theorem d35 : decode yB 35 = .ok (.ireturn, 1) := by decide +kernel
def site : List Cond := []
def tab : Cond := tabOf yN yB 3 (some .boolean) site
def P (a : Addr) (A : Cell) (b : Addr) (B : Cell) (args : Array Value) (s : State) : Prop := args = #[.ref a, .ref b] ∧ XT.Arr .byte a A s ∧ Typed .byte A ∧ XT.Arr .byte b B s ∧ Typed .byte B
/-- whether two byte[] are equal, place for place -/
theorem law (l : Launch) (a : Addr) (A : Cell) (b : Addr) (B : Cell) : Law l yN 2 2 0 0 yB 3 (some .boolean) site (P a A b B) (Says01 (EqC A B)) [] 0 0 := by
  refine Law.of_walk (plainFor_of_name (by decide +kernel)) (by decide +kernel) (by decide +kernel) (by decide) (fun _ _ h => by rw [h.1]; rfl) (fun _ U U' hal hh h => ⟨h.1, h.2.1.mv hal hh, h.2.2.1, h.2.2.2.1.mv hal hh, h.2.2.2.2⟩) (fun r U U' V V' h1 hal h2 h => Says01.mv r U U' V V' h1 hal h2 h) ?_
  intro p e s m args below meth c s₁ X0 hexec hbytes hml hret hlk hnm hown hh0 W hP
  obtain ⟨rfl, hA, tA, hB, tB⟩ := hP
  have a31 := hA.2.2.2
  have b31 := hB.2.2.2
  have hA0 := hA.mv X0.warmed.alike hh0
  have hB0 := hB.mv X0.warmed.alike hh0
  have c1 : Steps p.tables e below (s₁.setTop (entryFrame m #[.ref a, .ref b] 3)) (s₁.setTop (mkF m 0 #[.val (.ref a), .val (.ref b), .unset] [])) := entry rfl
  have c2 : Steps p.tables e below (s₁.setTop (entryFrame m #[.ref a, .ref b] 3)) (s₁.setTop (mkF m 4 #[.val (.ref a), .val (.ref b), .unset] [.int (Int32.ofNat B.slots.size), .int (Int32.ofNat A.slots.size)])) := c1.trans (by
    refine XS.aloadN X0.here hexec rfl (hb hbytes d0) rfl rfl ?_
    refine X0.alen hexec hA0 rfl rfl (hb hbytes d1) ?_
    refine XS.aloadN X0.here hexec rfl (hb hbytes d2) rfl rfl ?_
    refine X0.alen hexec hB0 rfl rfl (hb hbytes d3) ?_
    exact Steps.refl _)
  by_cases hs : A.slots.size = B.slots.size
  · have c3 : Steps p.tables e below (s₁.setTop (entryFrame m #[.ref a, .ref b] 3)) (s₁.setTop (mkF m 9 #[.val (.ref a), .val (.ref b), .val (.int 0)] [])) := c2.trans (by
      refine XS.icmpNo X0.here hexec rfl (hb hbytes d4) rfl (ii_ne_f (by rw [hs])) ?_
      refine iconstV X0.here hexec rfl 0 (hb hbytes d7) (by decide) ?_
      refine XS.istoreN X0.here hexec rfl (hb hbytes d8) rfl rfl ?_
      exact Steps.refl _)
    have loop : ∀ (r i : Nat), i + r = A.slots.size → (∀ j, j < i → yv A j = yv B j) → Steps p.tables e below (s₁.setTop (entryFrame m #[.ref a, .ref b] 3)) (s₁.setTop (mkF m 9 #[.val (.ref a), .val (.ref b), .val (.int (Int32.ofNat i))] [])) → ∃ (pc : Nat) (Ls : Array Slot) (v : Int32), (pc = 25 ∨ pc = 33) ∧ ((v = 1 ∧ EqC A B) ∨ (v = 0 ∧ ¬ EqC A B)) ∧ Steps p.tables e below (s₁.setTop (entryFrame m #[.ref a, .ref b] 3)) (s₁.setTop (mkF m pc Ls [.int v])) := by
      intro r
      induction r with
      | zero =>
        intro i hi he cl
        exact ⟨33, _, 1, Or.inr rfl, Or.inl ⟨rfl, hs, fun j hj => he j (by omega)⟩, cl.trans (by
          refine XS.iloadN X0.here hexec rfl (hb hbytes d9) rfl ?_
          refine XS.aloadN X0.here hexec rfl (hb hbytes d10) rfl rfl ?_
          refine X0.alen hexec hA0 rfl rfl (hb hbytes d11) ?_
          refine XS.icmpYes X0.here hexec rfl (pc0 := 12) rfl (hb hbytes d12) rfl (ii_ge_t (nlt32 (by omega) (by omega))) (by decide) rfl ?_
          refine iconstV X0.here hexec rfl 1 (hb hbytes d32) (by decide) ?_
          exact Steps.refl _)⟩
      | succ r ih =>
        intro i hi he cl
        have c4 : Steps p.tables e below (s₁.setTop (entryFrame m #[.ref a, .ref b] 3)) (s₁.setTop (mkF m 21 #[.val (.ref a), .val (.ref b), .val (.int (Int32.ofNat i))] [.int (yv B i), .int (yv A i)])) := cl.trans (by
          refine XS.iloadN X0.here hexec rfl (hb hbytes d9) rfl ?_
          refine XS.aloadN X0.here hexec rfl (hb hbytes d10) rfl rfl ?_
          refine X0.alen hexec hA0 rfl rfl (hb hbytes d11) ?_
          refine XS.icmpNo X0.here hexec rfl (hb hbytes d12) rfl (ii_ge_f (lt32 (by omega) (by omega))) ?_
          refine XS.aloadN X0.here hexec rfl (hb hbytes d15) rfl rfl ?_
          refine XS.iloadN X0.here hexec rfl (hb hbytes d16) rfl ?_
          refine X0.aget hexec hA0 rfl (yv_get hA tA (i := i) (by omega)) rfl rfl (hb hbytes d17) ?_
          refine XS.aloadN X0.here hexec rfl (hb hbytes d18) rfl rfl ?_
          refine XS.iloadN X0.here hexec rfl (hb hbytes d19) rfl ?_
          refine X0.aget hexec hB0 rfl (yv_get hB tB (i := i) (by omega)) rfl rfl (hb hbytes d20) ?_
          exact Steps.refl _)
        by_cases hv : yv A i = yv B i
        · have c5 : Steps p.tables e below (s₁.setTop (entryFrame m #[.ref a, .ref b] 3)) (s₁.setTop (mkF m 9 #[.val (.ref a), .val (.ref b), .val (.int (Int32.ofNat i + 1))] [])) := c4.trans (by
            refine XS.icmpYes X0.here hexec rfl (pc0 := 21) rfl (hb hbytes d21) rfl (ii_eq_t hv) (by decide) rfl ?_
            refine iincV X0.here hexec rfl 1 (hb hbytes d26) (by decide) rfl rfl ?_
            refine XS.goto X0.here hexec rfl (pc0 := 29) rfl (hb hbytes d29) (by decide) rfl ?_
            exact Steps.refl _)
          rw [succ32] at c5
          exact ih (i + 1) (by omega) (fun j hj => by
            by_cases e : j = i
            · rw [e]; exact hv
            · exact he j (by omega)) c5
        · exact ⟨25, _, 0, Or.inl rfl, Or.inr ⟨rfl, fun q => hv (q.2 i (by omega))⟩, c4.trans (by
            refine XS.icmpNo X0.here hexec rfl (hb hbytes d21) rfl (ii_eq_f hv) ?_
            refine iconstV X0.here hexec rfl 0 (hb hbytes d24) (by decide) ?_
            exact Steps.refl _)⟩
    obtain ⟨pc, Ls, v, hpc, hv, cz⟩ := loop A.slots.size 0 (by omega) (fun j hj => absurd hj (Nat.not_lt_zero j)) c3
    have nv : narrow .boolean (.int v) = .int v := by rcases hv with ⟨rfl, -⟩ | ⟨rfl, -⟩ <;> rfl
    rcases hpc with rfl | rfl
    · exact ⟨s₁, some (.int v), _, _, _, X0, rfl, rfl, rfl, (fun h => by cases h), ⟨v, rfl, hh0, hv⟩, fun fs hl => cz.trans (X0.ireturnOut hexec hret nv (Or.inr (Or.inl rfl)) (hb hbytes d25) hl)⟩
    · exact ⟨s₁, some (.int v), _, _, _, X0, rfl, rfl, rfl, (fun h => by cases h), ⟨v, rfl, hh0, hv⟩, fun fs hl => cz.trans (X0.ireturnOut hexec hret nv (Or.inr (Or.inl rfl)) (hb hbytes d33) hl)⟩
  · have c3 : Steps p.tables e below (s₁.setTop (entryFrame m #[.ref a, .ref b] 3)) (s₁.setTop (mkF m 35 #[.val (.ref a), .val (.ref b), .unset] [.int 0])) := c2.trans (by
      refine XS.icmpYes X0.here hexec rfl (pc0 := 4) rfl (hb hbytes d4) rfl (ii_ne_t (ne32 a31 b31 hs)) (by decide) rfl ?_
      refine iconstV X0.here hexec rfl 0 (hb hbytes d34) (by decide) ?_
      exact Steps.refl _)
    exact ⟨s₁, some (.int 0), _, _, _, X0, rfl, rfl, rfl, (fun h => by cases h), ⟨0, rfl, hh0, Or.inr ⟨rfl, fun q => hs q.1⟩⟩, fun fs hl => c3.trans (X0.ireturnOut hexec hret rfl (Or.inr (Or.inl rfl)) (hb hbytes d35) hl)⟩
end LEq
theorem Cod.ty {cd : Int32} {n : Nat} {f : Nat → Int32} {V : Cell} (h : Cod cd n f V) : Typed .byte V := fun i v hv => by
  have hi : i < V.slots.size := (Array.getElem?_eq_some_iff.mp hv).1
  rcases h with ⟨-, k1, k2⟩ | ⟨-, k1, k2, -⟩
  · rw [(k2 i (by omega)).1] at hv; cases hv; exact fits_lo8 _
  · rcases Nat.mod_two_eq_zero_or_one i with e | e
    · obtain ⟨j, rfl⟩ : ∃ j, i = 2 * j := ⟨i / 2, by omega⟩
      rw [(k2 j (by omega)).1] at hv; cases hv; exact fits_lo8 _
    · obtain ⟨j, rfl⟩ : ∃ j, i = 2 * j + 1 := ⟨i / 2, by omega⟩
      rw [(k2 j (by omega)).2] at hv; cases hv; exact fits_lo8 _
/-- the same text -/
def SameT (n : Nat) (f : Nat → Int32) (k : Nat) (g : Nat → Int32) : Prop := n = k ∧ ∀ j, j < n → f j = g j
theorem lo8_inj {x y : Int32} (h0 : ¬ x < 0) (h1 : ¬ 255 < x) (k0 : ¬ y < 0) (k1 : ¬ 255 < y) (h : lo8 x = lo8 y) : x = y := by
  rw [← lo8_mask h0 h1, ← lo8_mask k0 k1, h]
/-- arrays coded by one coder are equal just where the texts are -/
theorem Cod.eqv {cd : Int32} {n k : Nat} {f g : Nat → Int32} {V V' : Cell} (h : Cod cd n f V) (h' : Cod cd k g V') (hf : ∀ j, j < n → ¬ f j < 0 ∧ ¬ 65535 < f j) (hg : ∀ j, j < k → ¬ g j < 0 ∧ ¬ 65535 < g j) : EqC V V' ↔ SameT n f k g := by
  have yvv : ∀ {W : Cell} {i : Nat} {x : Int32}, W.slots[i]? = some (.int x) → yv W i = x := fun q => by unfold yv; rw [q]
  rcases h with ⟨rfl, k1, k2⟩ | ⟨rfl, k1, k2, -⟩
  · rcases h' with ⟨-, m1, m2⟩ | ⟨e, -⟩
    · constructor
      · rintro ⟨e1, e2⟩
        refine ⟨by omega, fun j hj => ?_⟩
        have q := e2 j (by omega)
        rw [yvv (k2 j hj).1, yvv (m2 j (by omega)).1] at q
        exact lo8_inj (hf j hj).1 (k2 j hj).2 (hg j (by omega)).1 (m2 j (by omega)).2 q
      · rintro ⟨rfl, e2⟩
        refine ⟨by omega, fun j hj => ?_⟩
        rw [yvv (k2 j (by omega)).1, yvv (m2 j (by omega)).1, e2 j (by omega)]
    · exact absurd e (by decide)
  · rcases h' with ⟨e, -⟩ | ⟨-, m1, m2, -⟩
    · exact absurd e (by decide)
    · constructor
      · rintro ⟨e1, e2⟩
        refine ⟨by omega, fun j hj => ?_⟩
        have q1 := e2 (2 * j) (by omega)
        have q2 := e2 (2 * j + 1) (by omega)
        rw [yvv (k2 j hj).1, yvv (m2 j (by omega)).1] at q1
        rw [yvv (k2 j hj).2, yvv (m2 j (by omega)).2] at q2
        rw [← pair_says (hf j hj).1 (hf j hj).2, ← pair_says (hg j (by omega)).1 (hg j (by omega)).2, q1, q2]
      · rintro ⟨rfl, e2⟩
        refine ⟨by omega, fun i hi => ?_⟩
        rcases Nat.mod_two_eq_zero_or_one i with e | e
        · obtain ⟨j, rfl⟩ : ∃ j, i = 2 * j := ⟨i / 2, by omega⟩
          rw [yvv (k2 j (by omega)).1, yvv (m2 j (by omega)).1, e2 j (by omega)]
        · obtain ⟨j, rfl⟩ : ∃ j, i = 2 * j + 1 := ⟨i / 2, by omega⟩
          rw [yvv (k2 j (by omega)).2, yvv (m2 j (by omega)).2, e2 j (by omega)]
/-- two codings differ: so do the texts -/
theorem Cod.dif {cd cd' : Int32} {n k : Nat} {f g : Nat → Int32} {V V' : Cell} (h : Cod cd n f V) (h' : Cod cd' k g V') (hne : ¬ cd = cd') : ¬ SameT n f k g := by
  rintro ⟨rfl, e⟩
  rcases h with ⟨rfl, -, k2⟩ | ⟨rfl, -, -, j, hj, hw⟩
  · rcases h' with ⟨rfl, -⟩ | ⟨-, -, -, j, hj, hw⟩
    · exact hne rfl
    · exact (k2 j hj).2 (by rw [e j hj]; exact hw)
  · rcases h' with ⟨-, -, m2⟩ | ⟨rfl, -⟩
    · exact (m2 j hj).2 (by rw [← e j hj]; exact hw)
    · exact hne rfl
/-- an object of exactly C is an instance of C -/
theorem cinst {p : Program} {l : Launch} {e : Env} {R : Room} {s : State} {m : MethodId} {args : Array Value} {below : List Frame} {meth : Method} {c : Code} {T : State} {locs : List Loc} {cells slots : Nat} (X : Stand p l e R s m args below meth c T locs cells slots) (hexec : p.tables.exec = Jvm.exec) {own C : String} {index : Nat} (hown : s.vm.findClass own = some m.cls) (hlink : (Cond.classLink own index C).before args s = true) {a : Addr} (hE : Exact C a T)
    {g : JFrame} (hg : g.method = m) {rest : List Value} (hstack : g.stack = .ref a :: rest) (hdg : decode c.code g.pc = .ok (.instanceof index, 3)) :
    ∃ T', Stand p l e R s m args below meth c T' locs cells slots ∧ T'.heap = T.heap ∧ ∀ target, Steps p.tables e below (T'.setTop { g with pc := g.pc + 3, stack := .int 1 :: rest }) target → Steps p.tables e below (T.setTop g) target := by
  obtain ⟨cB, h1, D, h2, h3, h4⟩ := hE
  have h1' : s.vm.findClass C = some cB := by rw [← X.warmed.alike.findClass]; exact h1
  obtain ⟨vm', X', st⟩ := X.instanceofYes hexec hown hlink h2 h4 h1' (by rw [h3]; exact Jvm.Free.SB.assignable_self _ _) hg hstack hdg
  exact ⟨_, X', rfl, st⟩
theorem cself {p : Program} {l : Launch} {e : Env} {R : Room} {s : State} {m : MethodId} {args : Array Value} {below : List Frame} {meth : Method} {c : Code} {T : State} {locs : List Loc} {cells slots : Nat} (X : Stand p l e R s m args below meth c T locs cells slots) (hexec : p.tables.exec = Jvm.exec) {own C : String} {index : Nat} (hown : s.vm.findClass own = some m.cls) (hlink : (Cond.classLink own index C).before args s = true) {a : Addr} (hE : Exact C a T)
    {g : JFrame} (hg : g.method = m) {rest : List Value} (hstack : g.stack = .ref a :: rest) (hdg : decode c.code g.pc = .ok (.checkcast index, 3)) :
    ∃ T', Stand p l e R s m args below meth c T' locs cells slots ∧ T'.heap = T.heap ∧ ∀ target, Steps p.tables e below (T'.setTop { g with pc := g.pc + 3, stack := .ref a :: rest }) target → Steps p.tables e below (T.setTop g) target := by
  obtain ⟨cB, h1, D, h2, h3, h4⟩ := hE
  have h1' : s.vm.findClass C = some cB := by rw [← X.warmed.alike.findClass]; exact h1
  obtain ⟨vm', X', st⟩ := X.checkcastYes hexec hown hlink h2 h4 h1' (by rw [h3]; exact Jvm.Free.SB.assignable_self _ _) hg hstack hdg
  exact ⟨_, X', rfl, fun t h => st t (by rw [← hstack] at h; exact h)⟩
namespace SEq
def yN : MethodName := ⟨"java/lang/String", "equals", "(Ljava/lang/Object;)Z"⟩
abbrev yB : ByteArray := jdk_42_method_66_code
theorem d0 : decode yB 0 = .ok (.aload_n 0, 1) := by decide +kernel
theorem d1 : decode yB 1 = .ok (.aload_n 1, 1) := by decide +kernel
theorem d2 : decode yB 2 = .ok (.if_acmp (.ne) 5, 3) := by decide +kernel
theorem d5 : decode yB 5 = .ok (.iconst 1, 1) := by decide +kernel
theorem d6 : decode yB 6 = .ok (.ireturn, 1) := by decide +kernel
theorem d7 : decode yB 7 = .ok (.aload_n 1, 1) := by decide +kernel
theorem d8 : decode yB 8 = .ok (.instanceof 10, 3) := by decide +kernel
theorem d11 : decode yB 11 = .ok (.ifCond (.eq) 43, 3) := by decide +kernel
theorem d14 : decode yB 14 = .ok (.aload_n 1, 1) := by decide +kernel
theorem d15 : decode yB 15 = .ok (.checkcast 10, 3) := by decide +kernel
theorem d18 : decode yB 18 = .ok (.astore_n 2, 1) := by decide +kernel
theorem d19 : decode yB 19 = .ok (.getstatic 38, 3) := by decide +kernel
theorem d22 : decode yB 22 = .ok (.ifCond (.eq) 14, 3) := by decide +kernel
theorem d25 : decode yB 25 = .ok (.aload_n 0, 1) := by decide +kernel
theorem d26 : decode yB 26 = .ok (.getfield 15, 3) := by decide +kernel
theorem d29 : decode yB 29 = .ok (.aload_n 2, 1) := by decide +kernel
theorem d30 : decode yB 30 = .ok (.getfield 15, 3) := by decide +kernel
theorem d33 : decode yB 33 = .ok (.if_icmp (.ne) 21, 3) := by decide +kernel
theorem d36 : decode yB 36 = .ok (.aload_n 0, 1) := by decide +kernel
theorem d37 : decode yB 37 = .ok (.getfield 9, 3) := by decide +kernel
theorem d40 : decode yB 40 = .ok (.aload_n 2, 1) := by decide +kernel
theorem d41 : decode yB 41 = .ok (.getfield 9, 3) := by decide +kernel
theorem d44 : decode yB 44 = .ok (.invokestatic 541, 3) := by decide +kernel
theorem d47 : decode yB 47 = .ok (.ifCond (.eq) 7, 3) := by decide +kernel
theorem d50 : decode yB 50 = .ok (.iconst 1, 1) := by decide +kernel
theorem d51 : decode yB 51 = .ok (.goto 4, 3) := by decide +kernel
theorem d54 : decode yB 54 = .ok (.iconst 0, 1) := by decide +kernel
theorem d55 : decode yB 55 = .ok (.ireturn, 1) := by decide +kernel
def site : List Cond := [.classLink "java/lang/String" 10 "java/lang/String", .fieldLink "java/lang/String" 38 "java/lang/String" "COMPACT_STRINGS" "Z", .fieldLink "java/lang/String" 15 "java/lang/String" "coder" "B", .fieldLink "java/lang/String" 9 "java/lang/String" "value" "[B", LEq.tab] ++ staticW "java/lang/String" 541 LEq.yN
def tab : Cond := tabOf yN yB 3 (some .boolean) site
def P (x t : Addr) (V : Cell) (cd : Int32) (n : Nat) (f : Nat → Int32) (y t' : Addr) (V' : Cell) (cd' : Int32) (k : Nat) (g : Nat → Int32) (z : Int32) (args : Array Value) (s : State) : Prop := args = #[.ref x, .ref y] ∧ Txt x t V cd n f s ∧ Txt y t' V' cd' k g s ∧ StaticIs s "java/lang/String" "COMPACT_STRINGS" "Z" (.int z) ∧ ¬ z = 0
/-- equals(Object) of two Strings: whether the texts are the same -/
theorem law (l : Launch) (x t : Addr) (V : Cell) (cd : Int32) (n : Nat) (f : Nat → Int32) (y t' : Addr) (V' : Cell) (cd' : Int32) (k : Nat) (g : Nat → Int32) (z : Int32) : Law l yN 2 1 1 14 yB 3 (some .boolean) site (P x t V cd n f y t' V' cd' k g z) (Says01 (SameT n f k g)) [] 0 0 := by
  refine Law.of_walk (plainFor_of_name (by decide +kernel)) (by decide +kernel) (by decide +kernel) (by decide) (fun _ _ h => by rw [h.1]; rfl) (fun _ U U' hal hh h => ⟨h.1, h.2.1.mv hal hh, h.2.2.1.mv hal hh, h.2.2.2.1.there hal hh, h.2.2.2.2⟩) (fun r U U' V V' h1 hal h2 h => Says01.mv r U U' V V' h1 hal h2 h) ?_
  intro p e s m args below meth c s₁ X0 hexec hbytes hml hret hlk hnm hown hh0 W hP
  obtain ⟨rfl, hx, hy, s1, hz⟩ := hP
  have c1 : Steps p.tables e below (s₁.setTop (entryFrame m #[.ref x, .ref y] 3)) (s₁.setTop (mkF m 2 #[.val (.ref x), .val (.ref y), .unset] [.ref y, .ref x])) := Steps.trans (entry rfl) (by
    show Steps p.tables e below (s₁.setTop (mkF m 0 #[.val (.ref x), .val (.ref y), .unset] [])) _
    refine XS.aloadN X0.here hexec rfl (hb hbytes d0) rfl rfl ?_
    refine XS.aloadN X0.here hexec rfl (hb hbytes d1) rfl rfl ?_
    exact Steps.refl _)
  by_cases hxy : x = y
  · have c2 : Steps p.tables e below (s₁.setTop (entryFrame m #[.ref x, .ref y] 3)) (s₁.setTop (mkF m 6 #[.val (.ref x), .val (.ref y), .unset] [.int 1])) := c1.trans (by
      refine acmpNo X0.here hexec rfl (hb hbytes d2) rfl rfl rfl (by simp [acmp, hxy]) ?_
      refine iconstV X0.here hexec rfl 1 (hb hbytes d5) (by decide) ?_
      exact Steps.refl _)
    subst hxy
    have ec : cd = cd' := by
      obtain ⟨D, fd, a1, a2, a3⟩ := hx.2.2.1
      obtain ⟨D', fd', b1, b2, b3⟩ := hy.2.2.1
      cases a1.symm.trans b1
      obtain ⟨q1, q2, q3, q4⟩ := a2.1
      obtain ⟨r1, r2, r3, r4⟩ := b2.1
      cases q4.symm.trans r4
      cases a3.symm.trans b3; rfl
    have et : t = t' := by
      obtain ⟨D, fd, a1, a2, a3⟩ := hx.2.1
      obtain ⟨D', fd', b1, b2, b3⟩ := hy.2.1
      cases a1.symm.trans b1
      obtain ⟨q1, q2, q3, q4⟩ := a2.1
      obtain ⟨r1, r2, r3, r4⟩ := b2.1
      cases q4.symm.trans r4
      cases a3.symm.trans b3; rfl
    subst ec et
    have ev : V = V' := by cases hx.2.2.2.1.1.symm.trans hy.2.2.2.1.1; rfl
    subst ev
    have hs : SameT n f k g := (Cod.eqv hx.2.2.2.2.1 hy.2.2.2.2.1 hx.2.2.2.2.2 hy.2.2.2.2.2).mp ⟨rfl, fun _ _ => rfl⟩
    exact ⟨s₁, some (.int 1), _, _, _, X0, rfl, rfl, rfl, (fun h => by cases h), ⟨1, rfl, hh0, Or.inl ⟨rfl, hs⟩⟩, fun fs hl => c2.trans (X0.ireturnOut hexec hret rfl (Or.inr (Or.inl rfl)) (hb hbytes d6) hl)⟩
  · have c2 : Steps p.tables e below (s₁.setTop (entryFrame m #[.ref x, .ref y] 3)) (s₁.setTop (mkF m 8 #[.val (.ref x), .val (.ref y), .unset] [.ref y])) := c1.trans (by
      refine acmpYes X0.here hexec rfl (pc0 := 2) rfl (hb hbytes d2) rfl rfl rfl (by simp [acmp, hxy]) (by decide) rfl ?_
      refine XS.aloadN X0.here hexec rfl (hb hbytes d7) rfl rfl ?_
      exact Steps.refl _)
    obtain ⟨T3, X3, q3, st3⟩ := cinst X0 hexec hown (wk W (.classLink "java/lang/String" 10 "java/lang/String")) (hy.mv X0.warmed.alike hh0).1 (g := (mkF m 8 #[.val (.ref x), .val (.ref y), .unset] [.ref y])) rfl (rest := []) rfl (hb hbytes d8)
    have hh3 := q3.trans hh0
    have c4 : Steps p.tables e below (s₁.setTop (entryFrame m #[.ref x, .ref y] 3)) (T3.setTop (mkF m 15 #[.val (.ref x), .val (.ref y), .unset] [.ref y])) := (c2.trans (st3 _ (Steps.refl _))).trans (by
      refine XS.ifNo X3.here hexec rfl (hb hbytes d11) rfl (i0_eq_f (by decide)) ?_
      refine XS.aloadN X3.here hexec rfl (hb hbytes d14) rfl rfl ?_
      exact Steps.refl _)
    obtain ⟨T5, X5, q5, st5⟩ := cself X3 hexec hown (wk W (.classLink "java/lang/String" 10 "java/lang/String")) (hy.mv X3.warmed.alike hh3).1 (g := (mkF m 15 #[.val (.ref x), .val (.ref y), .unset] [.ref y])) rfl (rest := []) rfl (hb hbytes d15)
    have hh5 := q5.trans hh3
    have c6 : Steps p.tables e below (s₁.setTop (entryFrame m #[.ref x, .ref y] 3)) (T5.setTop (mkF m 19 #[.val (.ref x), .val (.ref y), .val (.ref y)] [])) := (c4.trans (st5 _ (Steps.refl _))).trans (by
      refine XS.astoreN X5.here hexec rfl (hb hbytes d18) rfl rfl rfl ?_
      exact Steps.refl _)
    obtain ⟨T7, X7, q7, st7⟩ := X5.sget hexec hown (wk W (.fieldLink "java/lang/String" 38 "java/lang/String" "COMPACT_STRINGS" "Z")) s1 (fun _ _ h => by rw [hh5]; exact h) (g := (mkF m 19 #[.val (.ref x), .val (.ref y), .val (.ref y)] [])) rfl (hb hbytes d19)
    have hh7 := q7.trans hh5
    have c8 : Steps p.tables e below (s₁.setTop (entryFrame m #[.ref x, .ref y] 3)) (T7.setTop (mkF m 26 #[.val (.ref x), .val (.ref y), .val (.ref y)] [.ref x])) := (c6.trans (st7 _ (Steps.refl _))).trans (by
      refine XS.ifNo X7.here hexec rfl (hb hbytes d22) rfl (i0_eq_f hz) ?_
      refine XS.aloadN X7.here hexec rfl (hb hbytes d25) rfl rfl ?_
      exact Steps.refl _)
    obtain ⟨T9, X9, q9, st9⟩ := X7.hget hexec hown (wk W (.fieldLink "java/lang/String" 15 "java/lang/String" "coder" "B")) (hx.mv X7.warmed.alike hh7).2.2.1 (g := (mkF m 26 #[.val (.ref x), .val (.ref y), .val (.ref y)] [.ref x])) rfl (rest := []) rfl (hb hbytes d26)
    have hh9 := q9.trans hh7
    have c10 : Steps p.tables e below (s₁.setTop (entryFrame m #[.ref x, .ref y] 3)) (T9.setTop (mkF m 30 #[.val (.ref x), .val (.ref y), .val (.ref y)] [.ref y, .int cd])) := (c8.trans (st9 _ (Steps.refl _))).trans (by
      refine XS.aloadN X9.here hexec rfl (hb hbytes d29) rfl rfl ?_
      exact Steps.refl _)
    obtain ⟨T11, X11, q11, st11⟩ := X9.hget hexec hown (wk W (.fieldLink "java/lang/String" 15 "java/lang/String" "coder" "B")) (hy.mv X9.warmed.alike hh9).2.2.1 (g := (mkF m 30 #[.val (.ref x), .val (.ref y), .val (.ref y)] [.ref y, .int cd])) rfl (rest := [.int cd]) rfl (hb hbytes d30)
    have hh11 := q11.trans hh9
    have c12 : Steps p.tables e below (s₁.setTop (entryFrame m #[.ref x, .ref y] 3)) (T11.setTop (mkF m 33 #[.val (.ref x), .val (.ref y), .val (.ref y)] [.int cd', .int cd])) := c10.trans (st11 _ (Steps.refl _))
    by_cases hcd : cd = cd'
    · subst hcd
      have c13 : Steps p.tables e below (s₁.setTop (entryFrame m #[.ref x, .ref y] 3)) (T11.setTop (mkF m 37 #[.val (.ref x), .val (.ref y), .val (.ref y)] [.ref x])) := c12.trans (by
        refine XS.icmpNo X11.here hexec rfl (hb hbytes d33) rfl (ii_ne_f rfl) ?_
        refine XS.aloadN X11.here hexec rfl (hb hbytes d36) rfl rfl ?_
        exact Steps.refl _)
      obtain ⟨T14, X14, q14, st14⟩ := X11.hget hexec hown (wk W (.fieldLink "java/lang/String" 9 "java/lang/String" "value" "[B")) (hx.mv X11.warmed.alike hh11).2.1 (g := (mkF m 37 #[.val (.ref x), .val (.ref y), .val (.ref y)] [.ref x])) rfl (rest := []) rfl (hb hbytes d37)
      have hh14 := q14.trans hh11
      have c15 : Steps p.tables e below (s₁.setTop (entryFrame m #[.ref x, .ref y] 3)) (T14.setTop (mkF m 41 #[.val (.ref x), .val (.ref y), .val (.ref y)] [.ref y, .ref t])) := (c13.trans (st14 _ (Steps.refl _))).trans (by
        refine XS.aloadN X14.here hexec rfl (hb hbytes d40) rfl rfl ?_
        exact Steps.refl _)
      obtain ⟨T16, X16, q16, st16⟩ := X14.hget hexec hown (wk W (.fieldLink "java/lang/String" 9 "java/lang/String" "value" "[B")) (hy.mv X14.warmed.alike hh14).2.1 (g := (mkF m 41 #[.val (.ref x), .val (.ref y), .val (.ref y)] [.ref y, .ref t])) rfl (rest := [.ref t]) rfl (hb hbytes d41)
      have hh16 := q16.trans hh14
      have c17 : Steps p.tables e below (s₁.setTop (entryFrame m #[.ref x, .ref y] 3)) (T16.setTop (mkF m 44 #[.val (.ref x), .val (.ref y), .val (.ref y)] [.ref t', .ref t])) := c15.trans (st16 _ (Steps.refl _))
      obtain ⟨v18, T18, X18, E18, g18⟩ := X16.callS hexec (LEq.law l t V t' V') hown (wks W (staticW "java/lang/String" 541 LEq.yN)) (wk W LEq.tab) (W := 0) (Nat.le_of_ble_eq_true rfl) (Nat.le_of_ble_eq_true rfl) (Nat.le_refl _) (Nat.le_refl _) (g := (mkF m 44 #[.val (.ref x), .val (.ref y), .val (.ref y)] [.ref t', .ref t])) rfl (by rw [hml]; rfl) c17 (argsL := [.ref t, .ref t']) (rest := []) rfl rfl (by show 2 * 0 + 0 ≤ _; decide) (hb hbytes d44) (⟨rfl, hx.2.2.2.1.mv X16.warmed.alike hh16, hx.2.2.2.2.1.ty, hy.2.2.2.1.mv X16.warmed.alike hh16, hy.2.2.2.2.1.ty⟩)
      obtain ⟨v, rfl, q18, hv⟩ := E18
      have iff := Cod.eqv hx.2.2.2.2.1 hy.2.2.2.2.1 hx.2.2.2.2.2 hy.2.2.2.2.2
      rcases hv with ⟨rfl, he⟩ | ⟨rfl, he⟩
      · have c19 : Steps p.tables e below (s₁.setTop (entryFrame m #[.ref x, .ref y] 3)) (T18.setTop (mkF m 55 #[.val (.ref x), .val (.ref y), .val (.ref y)] [.int 1])) := Steps.trans g18 (by
          refine XS.ifNo X18.here hexec rfl (hb hbytes d47) rfl (i0_eq_f (by decide)) ?_
          refine iconstV X18.here hexec rfl 1 (hb hbytes d50) (by decide) ?_
          refine XS.goto X18.here hexec rfl (pc0 := 51) rfl (hb hbytes d51) (by decide) rfl ?_
          exact Steps.refl _)
        exact ⟨T18, some (.int 1), _, _, _, X18, rfl, rfl, rfl, (fun h => by cases h), ⟨1, rfl, q18.trans hh16, Or.inl ⟨rfl, iff.mp he⟩⟩, fun fs hl => c19.trans (X18.ireturnOut hexec hret rfl (Or.inr (Or.inl rfl)) (hb hbytes d55) hl)⟩
      · have c19 : Steps p.tables e below (s₁.setTop (entryFrame m #[.ref x, .ref y] 3)) (T18.setTop (mkF m 55 #[.val (.ref x), .val (.ref y), .val (.ref y)] [.int 0])) := Steps.trans g18 (by
          refine XS.ifYes X18.here hexec rfl (pc0 := 47) rfl (hb hbytes d47) rfl (i0_eq_t rfl) (by decide) rfl ?_
          refine iconstV X18.here hexec rfl 0 (hb hbytes d54) (by decide) ?_
          exact Steps.refl _)
        exact ⟨T18, some (.int 0), _, _, _, X18, rfl, rfl, rfl, (fun h => by cases h), ⟨0, rfl, q18.trans hh16, Or.inr ⟨rfl, fun q => he (iff.mpr q)⟩⟩, fun fs hl => c19.trans (X18.ireturnOut hexec hret rfl (Or.inr (Or.inl rfl)) (hb hbytes d55) hl)⟩
    · have c13 : Steps p.tables e below (s₁.setTop (entryFrame m #[.ref x, .ref y] 3)) (T11.setTop (mkF m 55 #[.val (.ref x), .val (.ref y), .val (.ref y)] [.int 0])) := c12.trans (by
        refine XS.icmpYes X11.here hexec rfl (pc0 := 33) rfl (hb hbytes d33) rfl (ii_ne_t hcd) (by decide) rfl ?_
        refine iconstV X11.here hexec rfl 0 (hb hbytes d54) (by decide) ?_
        exact Steps.refl _)
      exact ⟨T11, some (.int 0), _, _, _, X11, rfl, rfl, rfl, (fun h => by cases h), ⟨0, rfl, hh11, Or.inr ⟨rfl, Cod.dif hx.2.2.2.2.1 hy.2.2.2.2.1 hcd⟩⟩, fun fs hl => c13.trans (X11.ireturnOut hexec hret rfl (Or.inr (Or.inl rfl)) (hb hbytes d55) hl)⟩
theorem pays {l : Launch} {R : Room} {p : Program} {e : Env} {below : List Frame} {s : State} {sargs : Array Value} {len W : Nat} (x t : Addr) (V : Cell) (cd : Int32) (n : Nat) (f : Nat → Int32) (y t' : Addr) (V' : Cell) (cd' : Int32) (k : Nat) (g : Nat → Int32) (z : Int32) (htab : tab.before sargs s = true) (hfr : 2 ≤ R.frames) (hlo : W + 28 ≤ R.locals) :
    Back l R p e below s sargs yN len W (fun A₁ a₁ => A₁.cells + 0 ≤ R.cells ∧ A₁.slots + 0 ≤ R.slots ∧ P x t V cd n f y t' V' cd' k g z a₁ A₁.U) (fun A₁ _ v₁ B₁ => Says01 (SameT n f k g) v₁ A₁.U B₁.U ∧ B₁.locs = A₁.locs ++ [] ∧ B₁.cells = A₁.cells + 0 ∧ B₁.slots = A₁.slots + 0) :=
  (law l x t V cd n f y t' V' cd' k g z).pays htab hfr (by omega)
end SEq
end StrChars
namespace StrChars.Road
open Jvm Sem ClassFile Op Lib Jvm.Stand Jvm.Free Jvm.Free.XT
open Jvm.Lib.Cold (StaticIs)
/-- the words of String.equals(Object) -/
abbrev wordsEq : List Jvm.Cond := [.code SEq.yN SEq.yB 3 (some .boolean), .initialized ST, .classLink ST 10 ST, .fieldLink ST 38 ST "COMPACT_STRINGS" "Z", .fieldLink ST 15 ST "coder" "B", .fieldLink ST 9 ST "value" "[B", .methodLink ST 541 LEq.yN, .static LEq.yN, .code LEq.yN LEq.yB 3 (some .boolean), .initialized "java/lang/StringLatin1"]
theorem tabEq_of {a : Array Value} {s : State} (h : ∀ w ∈ wordsEq, w.before a s = true) : SEq.tab.before a s = true := by
  have hl : LEq.tab.before a s = true := unparts (wk h (.code LEq.yN LEq.yB 3 (some .boolean))) (wks h (.initialized LEq.yN.cls :: LEq.site))
  have q := consq hl h
  exact unparts (wk q (.code SEq.yN SEq.yB 3 (some .boolean))) (wks q (.initialized SEq.yN.cls :: SEq.site))
theorem movedEq {Z s : State} {a0 args : Array Value} (hZ : Z.Warmed39 s.vm) (hw : ∀ d ∈ wordsEq, d.before a0 Z = true) : ∀ d ∈ wordsEq, d.before args s = true := fun d hd => by
  have t : ∀ d ∈ wordsEq, (d.onTables && d.keepsFace) = true := by decide +kernel
  exact RoadKit.mv hZ (hw d hd) (t d hd)
/-- the road's facts of a String, as the laws ask it -/
theorem txt_of {Z U : State} {a0 : Array Value} {kI : Nat} (wi : (Jvm.Cond.instantiable ST kI).before a0 Z = true) (al : Z.vm.Alike U.vm) {x t : Addr} {kb : ClassId} {cs : List Int32} {cd N2 : Int32} {vs : List Value} (E : RoadKit.Exa Z U.heap x ST) (V : RoadKit.Fld Z U.heap x ST "value" "[B" (.ref t)) (C : RoadKit.Fld Z U.heap x ST "coder" "B" (.int cd)) (K : RoadKit.Arv Z U.heap t kb .byte N2 vs (.int 0)) (hc : CodA cs cd N2 vs) (hb : ∀ c ∈ cs, ¬ c < 0 ∧ ¬ (65535 : Int32) < c) (l2 : cs.length ≤ 4000) :
    ∃ A, Txt x t A cd cs.length (fun j => cs.getD j 0) U := by
  obtain ⟨A, K1, K2, K3, K4, K5, K6⟩ := K
  have hcod := hc.cod (by omega) K3 K5
  obtain ⟨D, fV, fC, hB, F1, F2, g1, g2, -, -⟩ := strObj wi al E V C
  exact ⟨A, ⟨_, hB.2.2.1, D, hB.1, rfl, by cases q : D.vm <;> first | rfl | exact absurd q (hB.2.1.2 _)⟩, Has.of hB F1 g1, Has.of hB F2 g2, ⟨K1.1, State.isArrayOf_alike al K1.2.1, K1.2.2, by rcases hcod with ⟨-, q, -⟩ | ⟨-, q, -⟩ <;> omega⟩, hcod, fun j hj => by
    have e : cs.getD j 0 = cs[j] := by simp [List.getD_eq_getElem?_getD, hj]
    show ¬ cs.getD j 0 < 0 ∧ ¬ 65535 < cs.getD j 0
    rw [e]; exact hb _ (List.getElem_mem _)⟩
theorem same_list (cs ds : List Int32) : SameT cs.length (fun j => cs.getD j 0) ds.length (fun j => ds.getD j 0) ↔ cs = ds := by
  constructor
  · rintro ⟨e, q⟩
    refine List.ext_getElem e fun j h1 h2 => ?_
    have := q j h1
    simpa [List.getD_eq_getElem?_getD, h1, h2] using this
  · rintro rfl
    exact ⟨rfl, fun _ _ => rfl⟩
/-- **equals(Object) OF TWO SUCH STRINGS**: 1 just where the chars are the same -/
theorem eqW {p : Program} {l : Launch} {e : Env} {R : Room} {s : State} {args : Array Value} {below : List Frame} {len W : Nat} {Z : State} {a0 : Array Value} {h : Heap} (hZ : Z.Warmed39 s.vm) (hw : ∀ d ∈ wordsEq, d.before a0 Z = true) {kI : Nat} (wi : (Jvm.Cond.instantiable ST kI).before a0 Z = true)
    {x t : Addr} {kb : ClassId} {cs : List Int32} {cd N2 : Int32} {vs : List Value} (E : RoadKit.Exa Z h x ST) (V : RoadKit.Fld Z h x ST "value" "[B" (.ref t)) (C : RoadKit.Fld Z h x ST "coder" "B" (.int cd)) (K : RoadKit.Arv Z h t kb .byte N2 vs (.int 0)) (hc : CodA cs cd N2 vs) (hb : ∀ c ∈ cs, ¬ c < 0 ∧ ¬ (65535 : Int32) < c) (l2 : cs.length ≤ 4000)
    {y t' : Addr} {kb' : ClassId} {ds : List Int32} {cd' N2' : Int32} {vs' : List Value} (E' : RoadKit.Exa Z h y ST) (V' : RoadKit.Fld Z h y ST "value" "[B" (.ref t')) (C' : RoadKit.Fld Z h y ST "coder" "B" (.int cd')) (K' : RoadKit.Arv Z h t' kb' .byte N2' vs' (.int 0)) (hc' : CodA ds cd' N2' vs') (hb' : ∀ c ∈ ds, ¬ c < 0 ∧ ¬ (65535 : Int32) < c) (l2' : ds.length ≤ 4000)
    {z : Int32} (S : RoadKit.Sta Z h ST "COMPACT_STRINGS" "Z" (.int z)) (hz : ¬ z = 0) (hfr : 2 ≤ R.frames) (hlo : W + 28 ≤ R.locals) :
    Back l R p e below s args (⟨"java/lang/String", "equals", "(Ljava/lang/Object;)Z"⟩ : MethodName) len W (fun P a => a = #[.ref x, .ref y] ∧ P.U.heap = h ∧ P.cells + 0 ≤ R.cells ∧ P.slots + 0 ≤ R.slots)
      (fun P _ v B => ∃ L, (((v = some (.int 1) ∧ cs = ds) ∨ (v = some (.int 0) ∧ ¬ cs = ds)) ∧ L = [] ∧ B.U.heap = h) ∧ B.locs = P.locs ++ L ∧ B.cells = P.cells + 0 ∧ B.slots = P.slots + 0) := by
  intro m meth c P g ig mk a X hg hsize hdg hW hn hp'
  obtain ⟨rfl, rfl, r1, r2⟩ := hp'
  have al : Z.vm.Alike P.U.vm := hZ.alike.trans X.warmed.alike
  obtain ⟨A, hx⟩ := txt_of wi al E V C K hc hb l2
  obtain ⟨A', hy⟩ := txt_of wi al E' V' C' K' hc' hb' l2'
  obtain ⟨v, B, X', ⟨⟨w, hv, hh, hq⟩, hl, hk, hs⟩, st⟩ := SEq.pays x t A cd cs.length (fun j => cs.getD j 0) y t' A' cd' ds.length (fun j => ds.getD j 0) z (tabEq_of (movedEq hZ hw)) hfr hlo m meth c P g ig mk _ X hg hsize hdg hW hn ⟨r1, r2, rfl, hx, hy, sta_is al S, hz⟩
  refine ⟨v, B, X', ⟨[], ⟨?_, rfl, hh⟩, hl, hk, hs⟩, st⟩
  rcases hq with ⟨rfl, q⟩ | ⟨rfl, q⟩
  · exact Or.inl ⟨hv, (same_list cs ds).mp q⟩
  · exact Or.inr ⟨hv, fun e => q ((same_list cs ds).mpr e)⟩
end StrChars.Road
namespace StrChars.Road
open Jvm Sem ClassFile Op Lib Jvm.Stand Jvm.Free Jvm.Free.XT
open Jvm.Lib.Cold (StaticIs)
/-- what backV says of its String, as the contracts of this text ask it: cs's low bytes, coder 0 -/
theorem codOf {cs : List Int32} {n : Nat} (hn : cs.length = n) (hb : ∀ c ∈ cs, ¬ 255 < c) : CodA cs 0 (Int32.ofNat n) ((cs.map lo8).map Value.int) := Or.inl ⟨rfl, by rw [hn], by simp [List.map_map, Function.comp_def], hb⟩
end StrChars.Road
end Jvm.Pilot.@@N@@
namespace Jvm.Pilot.@@N@@
open Jvm Jvm.ClassFile Sem Op Lib Jvm.Free Jvm.Stand Jvm.LawKit Jvm.RoadKit Bundle Jvm.Own Jvm.Pilot.@@N@@.Jvm.D
/-- what every body of this claim may lean on -/
def Ctx (Z : State) (a0 : Array Value) (G1 : Int32) : Prop := (∀ d ∈ tables_1, d.before a0 Z = true) ∧ Sta Z Z.heap "java/lang/String" "COMPACT_STRINGS" "Z" (.int G1) ∧ ¬ G1 = 0 ∧ EW Z a0 consts_1
theorem Ctx.w {Z : State} {a0 : Array Value} {G1 : Int32} (X : Ctx Z a0 G1) (i : Nat) {d : Jvm.Cond} (q : tables_1[i]? = some d) : d.before a0 Z = true := X.1 d (List.mem_of_getElem? q)
theorem Ctx.el {Z : State} {a0 : Array Value} {G1 : Int32} (X : Ctx Z a0 G1) : EW Z a0 consts_1 := X.2.2.2
theorem Ctx.ws {Z : State} {a0 : Array Value} {G1 : Int32} (X : Ctx Z a0 G1) : ∀ a ∈ Bundle.stringAtoms, a.before a0 Z = true := fun d hd => X.1 d ((by decide +kernel : ∀ d ∈ Bundle.stringAtoms, d ∈ tables_1) d hd)
theorem pd_0 : parseMethodDescriptor "([CIILjava/lang/Void;)V" = some ⟨[(.array .char), .int, .int, (.object "java/lang/Void")], none⟩ := by decide +kernel
theorem pd_1 : parseMethodDescriptor "([C)V" = some ⟨[(.array .char)], none⟩ := by decide +kernel
theorem pd_2 : parseMethodDescriptor "(II)I" = some ⟨[.int, .int], some .int⟩ := by decide +kernel
theorem pd_3 : parseMethodDescriptor "(Ljava/lang/Object;)Z" = some ⟨[(.object "java/lang/Object")], some .boolean⟩ := by decide +kernel
theorem pd_4 : parseMethodDescriptor "(JI)Ljava/lang/String;" = some ⟨[.long, .int], some (.object "java/lang/String")⟩ := by decide +kernel
theorem pd_5 : parseMethodDescriptor "(Ljava/lang/String;Ljava/lang/String;Ljava/lang/String;II)V" = some ⟨[(.object "java/lang/String"), (.object "java/lang/String"), (.object "java/lang/String"), .int, .int], none⟩ := by decide +kernel
theorem pd_6 : parseMethodDescriptor "(JJI)Z" = some ⟨[.long, .long, .int], some .boolean⟩ := by decide +kernel
theorem pn_0 : plainName "java/lang/String" = true := by first | (simp [plainName, overriddenIn]; done) | decide +kernel
theorem pn_1 : plainName "com/example/moderato/moderato/client/TextHitEqualsPinLaw" = true := by first | (simp [plainName, overriddenIn]; done) | decide +kernel
theorem pn_2 : plainName "com/example/moderato/moderato/client/TextHit" = true := by first | (simp [plainName, overriddenIn]; done) | decide +kernel
def EqQ (h : Heap) (cs ds : List Int32) (v : Option Value) (h' : Heap) (L : List Loc) : Prop := ((v = some (.int 1) ∧ cs = ds) ∨ (v = some (.int 0) ∧ ¬ cs = ds)) ∧ L = [] ∧ h = h'
theorem bk_eq {p : Program} {l : Launch} {e : Env} {R : Room} {s : State} {args : Array Value} {below : List Frame} {Z : State} {a0 : Array Value} {G1 : Int32} {vm0 : Vm} {h : Heap} {a b : Addr} {cs ds : List Int32} {Wd : Nat} (X : Ctx Z a0 G1) (hZ : Z.Warmed39 (s.setVm vm0).vm) (hE : Ext Z.heap h) (S1 : Str Z h a cs) (S2 : Str Z h b ds) (hfr : 2 ≤ R.frames) (hlo : Wd + 28 ≤ R.locals) :
    Back l R p e below (s.setVm vm0) args (⟨"java/lang/String", "equals", "(Ljava/lang/Object;)Z"⟩ : MethodName) 3 Wd (fun A a' => a' = #[.ref a, .ref b] ∧ A.U.heap = h ∧ A.cells + 0 ≤ R.cells ∧ A.slots + 0 ≤ R.slots)
      (fun A _ v B => ∃ L, EqQ h cs ds v B.U.heap L ∧ B.locs = A.locs ++ L ∧ B.cells = A.cells + 0 ∧ B.slots = A.slots + 0) := by
  obtain ⟨t, kb, q1, q2, q3, q4, q5, q6⟩ := S1
  obtain ⟨t', kb', r1, r2, r3, r4, r5, r6⟩ := S2
  have up : ∀ {cs : List Int32}, (∀ c ∈ cs, ¬ c < 0 ∧ ¬ (255 : Int32) < c) → ∀ c ∈ cs, ¬ c < 0 ∧ ¬ (65535 : Int32) < c := fun {cs} h c hc => ⟨(h c hc).1, fun q => (h c hc).2 (by rw [Int32.lt_iff_toInt_lt] at q ⊢; have e1 : (65535 : Int32).toInt = 65535 := rfl; have e2 : (255 : Int32).toInt = 255 := rfl; omega)⟩
  refine Back.mono (StrChars.Road.eqW hZ (fun d hd => X.1 d ((by decide +kernel : ∀ d ∈ StrChars.Road.wordsEq, d ∈ tables_1) d hd)) (kI := 4) (X.w 7 rfl) q1 q2 q3 q4 (Or.inl ⟨rfl, rfl, rfl, fun c hc => (q5 c hc).2⟩) (up q5) q6 r1 r2 r3 r4 (Or.inl ⟨rfl, rfl, rfl, fun c hc => (r5 c hc).2⟩) (up r5) r6 (X.2.1.ext hE) X.2.2.1 hfr hlo) (fun P a hp => hp) (fun P a v B hp hq => ?_)
  obtain ⟨L, ⟨z1, z2, z3⟩, r⟩ := hq
  exact ⟨L, ⟨z1, z2, z3.symm⟩, r⟩
def NewQ (Z : State) (h : Heap) (a : Addr) (cs : List Int32) (v : Option Value) (h' : Heap) (L : List Loc) : Prop := v = none ∧ Fr Z.heap.size L ∧ Keep h h' [a] ∧ Str Z h' a cs
theorem bk_new {p : Program} {l : Launch} {e : Env} {R : Room} {s : State} {args : Array Value} {below : List Frame} {Z : State} {a0 : Array Value} {G1 : Int32} {vm0 : Vm} {h : Heap} {a b : Addr} {cs : List Int32} {kC : ClassId} {N : Int32} {d : Value} {Wd n : Nat} (X : Ctx Z a0 G1) (hZ : Z.Warmed39 (s.setVm vm0).vm) (hE : Ext Z.heap h) (ga : Z.heap.size ≤ a) (A : Exa Z h a "java/lang/String") (FV : Fld Z h a "java/lang/String" "value" "[B" .null) (FC : Fld Z h a "java/lang/String" "coder" "B" (.int (0 : Int32))) (V : Arv Z h b kC .char N (cs.map Value.int) d)
    (hn : cs.length = n) (hN : N = Int32.ofNat n) (l0 : 0 < n) (l2 : n ≤ 4000) (hp : ∀ c ∈ cs, Sm c) (hfr : 4 ≤ R.frames) (hlo : Wd + 65 ≤ R.locals) :
    Back l R p e below (s.setVm vm0) args (⟨"java/lang/String", "<init>", "([C)V"⟩ : MethodName) 3 Wd (fun P a' => a' = #[.ref a, .ref b] ∧ P.U.heap = h ∧ P.cells + 1 ≤ R.cells ∧ P.slots + n ≤ R.slots)
      (fun P _ v B => ∃ L, NewQ Z h a cs v B.U.heap L ∧ B.locs = P.locs ++ L ∧ B.cells = P.cells + 1 ∧ B.slots = P.slots + n) := by
  refine Back.mono (StrChars.Road.backV hZ (fun d hd => X.1 d ((by decide +kernel : ∀ d ∈ StrChars.Road.words, d ∈ tables_1) d hd)) (kI := 4) (X.w 7 rfl) (bs := cs.map (fun c => c.toInt8.toInt32)) (n0 := Z.heap.size) ga hE.1 A FV FC V (X.2.1.ext hE) X.2.2.1 hn hN l0 l2 hp rfl hfr hlo) (fun P a hp => hp) (fun P a v B hp' hq => ?_)
  obtain ⟨L, ⟨q1, q2, q3, q4, q5, t, kb, -, -, -, q6, q7⟩, r⟩ := hq
  subst hn hN
  exact ⟨L, ⟨q1, q2, q3, t, kb, q4, q6, q5, by rw [List.map_map] at q7; exact q7, hp, l2⟩, r⟩

theorem de2_0 : decode jdk_42_method_149_code 0 = .ok (.aload_n 0, 1) := by decide +kernel
theorem de2_1 : decode jdk_42_method_149_code 1 = .ok (.invokespecial 1, 3) := by decide +kernel
theorem de2_4 : decode jdk_42_method_149_code 4 = .ok (.iload_n 3, 1) := by decide +kernel
theorem de2_5 : decode jdk_42_method_149_code 5 = .ok (.ifCond .ne 22, 3) := by decide +kernel
theorem de2_8 : decode jdk_42_method_149_code 8 = .ok (.aload_n 0, 1) := by decide +kernel
theorem de2_9 : decode jdk_42_method_149_code 9 = .ok (.ldc 7, 2) := by decide +kernel
theorem de2_11 : decode jdk_42_method_149_code 11 = .ok (.getfield 9, 3) := by decide +kernel
theorem de2_14 : decode jdk_42_method_149_code 14 = .ok (.putfield 9, 3) := by decide +kernel
theorem de2_17 : decode jdk_42_method_149_code 17 = .ok (.aload_n 0, 1) := by decide +kernel
theorem de2_18 : decode jdk_42_method_149_code 18 = .ok (.ldc 7, 2) := by decide +kernel
theorem de2_20 : decode jdk_42_method_149_code 20 = .ok (.getfield 15, 3) := by decide +kernel
theorem de2_23 : decode jdk_42_method_149_code 23 = .ok (.putfield 15, 3) := by decide +kernel
theorem de2_26 : decode jdk_42_method_149_code 26 = .ok (.return_, 1) := by decide +kernel
theorem efe2 (m : MethodId) (x0 x1 : Addr) : entryFrame m #[(.ref x0), (.ref x1), (.int (0 : Int32)), (.int (0 : Int32)), .null] 6 = mkF m 0 #[.val (.ref x0), .val (.ref x1), .val (.int (0 : Int32)), .val (.int (0 : Int32)), .val .null, .unset] [] := by first | (simp [entryFrame, mkF, argsToLocals, Value.category]; done) | rfl
set_option maxRecDepth 65536 in
set_option maxHeartbeats 40000000 in
theorem c_e2 {l : Launch} {Z : State} {a0 : Array Value} {G1 : Int32} (X : Ctx Z a0 G1) (a b : Addr) (h0 : Heap) (hE : Ext Z.heap h0) (ga : Z.heap.size ≤ a) (A : Exa Z h0 a "java/lang/String") (FV : Fld Z h0 a "java/lang/String" "value" "[B" .null) (FC : Fld Z h0 a "java/lang/String" "coder" "B" (.int (0 : Int32))) :
    Con l Z consts_1 (⟨"java/lang/String", "<init>", "([CIILjava/lang/Void;)V"⟩ : MethodName) jdk_42_method_149_code 6 none [] ({ frames := 1, cells := 4, slots := 8, locals := 12 } : Room) #[(.ref a), (.ref b), (.int (0 : Int32)), (.int (0 : Int32)), .null] h0 (fun v h => v = none ∧ Keep h0 h [a] ∧ Str Z h a []) := by
  refine Con.intro (plainFor_of_name pn_0) hE X.el ?_
  intro p e s m below meth c T W
  refine Go.cast (efe2 m a b) ?_
  refine Go.step (fun _ k => XS.aloadN W.here W.hx rfl (W.d de2_0) rfl rfl k) ?_
  show Go _ _ _ _ _ _ _ _ _ _ (mkF m 1 #[.val (.ref a), .val (.ref b), .val (.int (0 : Int32)), .val (.int (0 : Int32)), .val .null, .unset] [(.ref a)])
  refine W.initO (X.w 17 rfl) (X.w 18 rfl) (X.w 19 rfl) rfl de2_1 (by decide) (Wd := 0) (Nat.le_of_eq rfl) (by decide) ?_
  intro T W
  show Go _ _ _ _ _ _ _ _ _ _ (mkF m 4 #[.val (.ref a), .val (.ref b), .val (.int (0 : Int32)), .val (.int (0 : Int32)), .val .null, .unset] [])
  refine Go.step (fun _ k => XS.iloadN W.here W.hx rfl (W.d de2_4) rfl k) ?_
  show Go _ _ _ _ _ _ _ _ _ _ (mkF m 5 #[.val (.ref a), .val (.ref b), .val (.int (0 : Int32)), .val (.int (0 : Int32)), .val .null, .unset] [(.int (0 : Int32))])
  refine Go.step (fun _ k => XS.ifNo W.here W.hx rfl (W.d de2_5) rfl ((if0 _ _).trans (teq (rfl : (0 : Int32) = 0)).2) k) ?_
  show Go _ _ _ _ _ _ _ _ _ _ (mkF m 8 #[.val (.ref a), .val (.ref b), .val (.int (0 : Int32)), .val (.int (0 : Int32)), .val .null, .unset] [])
  refine Go.step (fun _ k => XS.aloadN W.here W.hx rfl (W.d de2_8) rfl rfl k) ?_
  show Go _ _ _ _ _ _ _ _ _ _ (mkF m 9 #[.val (.ref a), .val (.ref b), .val (.int (0 : Int32)), .val (.int (0 : Int32)), .val .null, .unset] [(.ref a)])
  refine W.ldcR (X.w 36 rfl) X.ws (List.mem_of_getElem? (i := 0) rfl) (vs := []) (z := 0) ⟨by decide +kernel, by decide +kernel⟩ (by decide) rfl de2_9 (n := 0) (by decide) (by decide) (by decide) (by decide) ?_
  intro T h1 vm1 a1 b1 k1 W E1 C1 A1 A2 A3 A4 N1
  show Go _ _ _ _ _ _ _ _ _ _ (mkF m 11 #[.val (.ref a), .val (.ref b), .val (.int (0 : Int32)), .val (.int (0 : Int32)), .val .null, .unset] [(.ref a1), (.ref a)])
  refine W.getF (host := "") (Or.inl (X.w 34 rfl)) Via.refl A3 de2_11 ?_
  intro T W
  show Go _ _ _ _ _ _ _ _ _ _ (mkF m 14 #[.val (.ref a), .val (.ref b), .val (.int (0 : Int32)), .val (.int (0 : Int32)), .val .null, .unset] [(.ref b1), (.ref a)])
  have B1 := A.ext E1
  have V1 := FV.ext E1
  have Cd1 := FC.ext E1
  have S1 : Safe Z consts_1 vm1 h1 a := Safe.blank W.hZ.alike B1 V1
  have H1 := W.chr.1
  refine W.putF (host := "") (Or.inl (X.w 34 rfl)) Via.refl V1 B1 (Or.inr ⟨(X.w 35 rfl), rfl, rfl⟩) (X.w 7 rfl) (ty := .array .byte) (by decide) rfl rfl ga S1 de2_14 ?_
  intro T h2 W Wr1 V2
  show Go _ _ _ _ _ _ _ _ _ _ (mkF m 17 #[.val (.ref a), .val (.ref b), .val (.int (0 : Int32)), .val (.int (0 : Int32)), .val .null, .unset] [])
  have S2 := Safe.wr Wr1 S1 H1 S1
  have ne1 : a ≠ b1 := Exa.neArv B1 A4 (X.w 7 rfl)
  have B2 := B1.wr Wr1
  have Cd2 := Cd1.other Wr1 (Or.inr (slot_ne (Or.inr (X.w 33 rfl)) (Or.inr (X.w 35 rfl)) (by decide) (t := .byte) (t' := .array .byte) (by decide) (by decide)))
  have Av2 := A4.other Wr1 (Ne.symm ne1)
  refine Go.step (fun _ k => XS.aloadN W.here W.hx rfl (W.d de2_17) rfl rfl k) ?_
  show Go _ _ _ _ _ _ _ _ _ _ (mkF m 18 #[.val (.ref a), .val (.ref b), .val (.int (0 : Int32)), .val (.int (0 : Int32)), .val .null, .unset] [(.ref a)])
  refine W.ldcR (X.w 36 rfl) X.ws (List.mem_of_getElem? (i := 0) rfl) (vs := []) (z := 0) ⟨by decide +kernel, by decide +kernel⟩ (by decide) rfl de2_18 (n := 0) (by decide) (by decide) (by decide) (by decide) ?_
  intro T h3 vm2 a2 b2 k2 W E2 C2 D1 D2 D3 D4 N2
  show Go _ _ _ _ _ _ _ _ _ _ (mkF m 20 #[.val (.ref a), .val (.ref b), .val (.int (0 : Int32)), .val (.int (0 : Int32)), .val .null, .unset] [(.ref a2), (.ref a)])
  have S3 := C2.safe B2.lt S2
  have B3 := B2.ext E2
  have V3 := V2.ext E2
  have Cd3 := Cd2.ext E2
  have Av3 := Av2.ext E2
  refine W.getF (host := "") (Or.inl (X.w 32 rfl)) Via.refl D2 de2_20 ?_
  intro T W
  show Go _ _ _ _ _ _ _ _ _ _ (mkF m 23 #[.val (.ref a), .val (.ref b), .val (.int (0 : Int32)), .val (.int (0 : Int32)), .val .null, .unset] [(.int (0 : Int32)), (.ref a)])
  refine W.putF (host := "") (Or.inl (X.w 32 rfl)) Via.refl Cd3 B3 (Or.inr ⟨(X.w 33 rfl), rfl, rfl⟩) (X.w 7 rfl) (ty := .byte) (by decide) rfl rfl ga S3 de2_23 ?_
  intro T h4 W Wr2 Cd4
  show Go _ _ _ _ _ _ _ _ _ _ (mkF m 26 #[.val (.ref a), .val (.ref b), .val (.int (0 : Int32)), .val (.int (0 : Int32)), .val .null, .unset] [])
  have V4 := V3.other Wr2 (Or.inr (slot_ne (Or.inr (X.w 35 rfl)) (Or.inr (X.w 33 rfl)) (by decide) (t := .array .byte) (t' := .byte) (by decide) (by decide)))
  refine W.retV de2_26 ⟨rfl, ?_, b1, k1, B3.wr Wr2, V4, Cd4, Av3.other Wr2 (Ne.symm ne1), sm0, Nat.zero_le _⟩ (by decide) (by decide)
  exact ((((Keep.refl h0 [a]).ext E1).wr Wr1 (Or.inl (by simp))).ext E2).wr Wr2 (Or.inl (by simp))
theorem de1_0 : decode jdk_42_method_3_code 0 = .ok (.aload_n 0, 1) := by decide +kernel
theorem de1_1 : decode jdk_42_method_3_code 1 = .ok (.aload_n 1, 1) := by decide +kernel
theorem de1_2 : decode jdk_42_method_3_code 2 = .ok (.iconst 0, 1) := by decide +kernel
theorem de1_3 : decode jdk_42_method_3_code 3 = .ok (.aload_n 1, 1) := by decide +kernel
theorem de1_4 : decode jdk_42_method_3_code 4 = .ok (.arraylength, 1) := by decide +kernel
theorem de1_5 : decode jdk_42_method_3_code 5 = .ok (.aconst_null, 1) := by decide +kernel
theorem de1_6 : decode jdk_42_method_3_code 6 = .ok (.invokespecial 27, 3) := by decide +kernel
theorem de1_9 : decode jdk_42_method_3_code 9 = .ok (.return_, 1) := by decide +kernel
theorem efe1 (m : MethodId) (x0 : Addr) (x1 : Addr) : entryFrame m #[(.ref x0), (.ref x1)] 2 = mkF m 0 #[.val (.ref x0), .val (.ref x1)] [] := by first | (simp [entryFrame, mkF, argsToLocals, Value.category]; done) | rfl
set_option maxRecDepth 65536 in
set_option maxHeartbeats 40000000 in
theorem c_e1 {l : Launch} {Z : State} {a0 : Array Value} {G1 : Int32} (X : Ctx Z a0 G1) (a b : Addr) (kb : ClassId) (vs : List Value) (dv : Value) (h0 : Heap) (hE : Ext Z.heap h0) (ga : Z.heap.size ≤ a) (A : Exa Z h0 a "java/lang/String") (FV : Fld Z h0 a "java/lang/String" "value" "[B" .null) (FC : Fld Z h0 a "java/lang/String" "coder" "B" (.int (0 : Int32))) (V : Arv Z h0 b kb .char (0 : Int32) vs dv) :
    Con l Z consts_1 (⟨"java/lang/String", "<init>", "([C)V"⟩ : MethodName) jdk_42_method_3_code 2 none [] ({ frames := 2, cells := 4, slots := 8, locals := 29 } : Room) #[(.ref a), (.ref b)] h0 (fun v h => v = none ∧ Keep h0 h [a] ∧ Str Z h a []) := by
  refine Con.intro (plainFor_of_name pn_0) hE X.el ?_
  intro p e s m below meth c T W
  have hsz := W.size
  refine Go.cast (efe1 m a b) ?_
  refine Go.step (fun _ k => XS.aloadN W.here W.hx rfl (W.d de1_0) rfl rfl k) ?_
  show Go _ _ _ _ _ _ _ _ _ _ (mkF m 1 #[.val (.ref a), .val (.ref b)] [(.ref a)])
  refine Go.step (fun _ k => XS.aloadN W.here W.hx rfl (W.d de1_1) rfl rfl k) ?_
  show Go _ _ _ _ _ _ _ _ _ _ (mkF m 2 #[.val (.ref a), .val (.ref b)] [(.ref b), (.ref a)])
  refine Go.step (fun _ k => XS.iconst W.here W.hx rfl (W.d de1_2) k) ?_
  show Go _ _ _ _ _ _ _ _ _ _ (mkF m 3 #[.val (.ref a), .val (.ref b)] [(.int (0 : Int32)), (.ref b), (.ref a)])
  refine Go.step (fun _ k => XS.aloadN W.here W.hx rfl (W.d de1_3) rfl rfl k) ?_
  show Go _ _ _ _ _ _ _ _ _ _ (mkF m 4 #[.val (.ref a), .val (.ref b)] [(.ref b), (.int (0 : Int32)), (.ref b), (.ref a)])
  refine W.arraylength V de1_4 ?_
  show Go _ _ _ _ _ _ _ _ _ _ (mkF m 5 #[.val (.ref a), .val (.ref b)] [(.int (0 : Int32)), (.int (0 : Int32)), (.ref b), (.ref a)])
  refine Go.step (fun _ k => XS.aconstNull W.here W.hx rfl (W.d de1_5) k) ?_
  show Go _ _ _ _ _ _ _ _ _ _ (mkF m 6 #[.val (.ref a), .val (.ref b)] [.null, (.int (0 : Int32)), (.int (0 : Int32)), (.ref b), (.ref a)])
  refine W.special rfl (X.w 13 rfl) (X.w 14 rfl) (X.w 8 rfl) (X.w 16 rfl) (by decide) (c_e2 X a b _ W.ext ga A FV FC) (by decide) (Wd := 0) (by decide) a [(.ref b), (.int (0 : Int32)), (.int (0 : Int32)), .null] [] rfl pd_0 rfl rfl rfl (Nat.le_of_eq rfl) de1_6 (by decide) (by decide) ?_
  intro v T h vm W hQ C
  obtain ⟨rfl, hK, hS⟩ := hQ
  show Go _ _ _ _ _ _ _ _ _ _ (mkF m 9 #[.val (.ref a), .val (.ref b)] [])
  exact W.retV de1_9 (⟨rfl, hK, hS⟩) (by decide) (by decide)

/-- 18 bits of a long -/
def bitsOf (x : Int64) (k : Int32) : Int32 := ((((x.toUInt64 >>> (k &&& 0x3f).toInt64.toUInt64).toInt64) &&& (262143 : Int64)).toInt32)
/-- the text that they stand for -/
def selB (bt : Int32) : List Int32 := sel (bt &&& (3 : Int32)) ((((bt.toUInt32 >>> ((2 : Int32) &&& 31).toUInt32).toInt32) &&& (255 : Int32)).toUInt32.toUInt16.toUInt32.toInt32) ((((bt.toUInt32 >>> ((10 : Int32) &&& 31).toUInt32).toInt32) &&& (255 : Int32)).toUInt32.toUInt16.toUInt32.toInt32)
def txt (x : Int64) (k : Int32) : List Int32 := selB (bitsOf x k)
def min2 (n : Int32) : Int32 := if (2 : Int32) < n then 2 else n
theorem chr_id (x : Int32) : ((x &&& (255 : Int32)).toUInt32.toUInt16.toUInt32.toInt32) = x &&& (255 : Int32) := by
  have t : ∀ k : Fin 256, ((Int32.ofNat k.val).toUInt32.toUInt16.toUInt32.toInt32) = Int32.ofNat k.val := by decide +kernel
  obtain ⟨j, hj, e⟩ := maskN 255 255 rfl x
  rw [e]; exact t ⟨j, by omega⟩
theorem same_txt (u v : Int32) : selB u = selB v ↔ min2 (u &&& (3 : Int32)) = min2 (v &&& (3 : Int32)) ∧ (min2 (u &&& (3 : Int32)) = 0 ∨ (((u.toUInt32 >>> ((2 : Int32) &&& 31).toUInt32).toInt32) &&& (255 : Int32)) = (((v.toUInt32 >>> ((2 : Int32) &&& 31).toUInt32).toInt32) &&& (255 : Int32))) ∧ ((min2 (u &&& (3 : Int32)) = 0 ∨ min2 (u &&& (3 : Int32)) = 1) ∨ (((u.toUInt32 >>> ((10 : Int32) &&& 31).toUInt32).toInt32) &&& (255 : Int32)) = (((v.toUInt32 >>> ((10 : Int32) &&& 31).toUInt32).toInt32) &&& (255 : Int32))) := by
  simp only [selB, chr_id]
  generalize (((u.toUInt32 >>> ((2 : Int32) &&& 31).toUInt32).toInt32) &&& (255 : Int32)) = a
  generalize (((v.toUInt32 >>> ((2 : Int32) &&& 31).toUInt32).toInt32) &&& (255 : Int32)) = b
  generalize (((u.toUInt32 >>> ((10 : Int32) &&& 31).toUInt32).toInt32) &&& (255 : Int32)) = c
  generalize (((v.toUInt32 >>> ((10 : Int32) &&& 31).toUInt32).toInt32) &&& (255 : Int32)) = d
  obtain ⟨i, hi, ei⟩ := maskN 3 3 rfl u
  obtain ⟨j, hj, ej⟩ := maskN 3 3 rfl v
  rw [ei, ej]
  have hi' : i = 0 ∨ i = 1 ∨ i = 2 ∨ i = 3 := by omega
  have hj' : j = 0 ∨ j = 1 ∨ j = 2 ∨ j = 3 := by omega
  rcases hi' with rfl | rfl | rfl | rfl <;> rcases hj' with rfl | rfl | rfl | rfl <;> simp [sel, min2] <;> decide

theorem dstr_0 : decode method_2_code 0 = .ok (.lload_n 0, 1) := by decide +kernel
theorem dstr_1 : decode method_2_code 1 = .ok (.iload_n 2, 1) := by decide +kernel
theorem dstr_2 : decode method_2_code 2 = .ok (.lushr, 1) := by decide +kernel
theorem dstr_3 : decode method_2_code 3 = .ok (.ldc2_w 7, 3) := by decide +kernel
theorem dstr_6 : decode method_2_code 6 = .ok (.land, 1) := by decide +kernel
theorem dstr_7 : decode method_2_code 7 = .ok (.l2i, 1) := by decide +kernel
theorem dstr_8 : decode method_2_code 8 = .ok (.istore_n 3, 1) := by decide +kernel
theorem dstr_9 : decode method_2_code 9 = .ok (.iload_n 3, 1) := by decide +kernel
theorem dstr_10 : decode method_2_code 10 = .ok (.iconst 3, 1) := by decide +kernel
theorem dstr_11 : decode method_2_code 11 = .ok (.iand, 1) := by decide +kernel
theorem dstr_12 : decode method_2_code 12 = .ok (.istore 4, 2) := by decide +kernel
theorem dstr_14 : decode method_2_code 14 = .ok (.iload_n 3, 1) := by decide +kernel
theorem dstr_15 : decode method_2_code 15 = .ok (.iconst 2, 1) := by decide +kernel
theorem dstr_16 : decode method_2_code 16 = .ok (.iushr, 1) := by decide +kernel
theorem dstr_17 : decode method_2_code 17 = .ok (.sipush 255, 3) := by decide +kernel
theorem dstr_20 : decode method_2_code 20 = .ok (.iand, 1) := by decide +kernel
theorem dstr_21 : decode method_2_code 21 = .ok (.i2c, 1) := by decide +kernel
theorem dstr_22 : decode method_2_code 22 = .ok (.istore 5, 2) := by decide +kernel
theorem dstr_24 : decode method_2_code 24 = .ok (.iload_n 3, 1) := by decide +kernel
theorem dstr_25 : decode method_2_code 25 = .ok (.bipush 10, 2) := by decide +kernel
theorem dstr_27 : decode method_2_code 27 = .ok (.iushr, 1) := by decide +kernel
theorem dstr_28 : decode method_2_code 28 = .ok (.sipush 255, 3) := by decide +kernel
theorem dstr_31 : decode method_2_code 31 = .ok (.iand, 1) := by decide +kernel
theorem dstr_32 : decode method_2_code 32 = .ok (.i2c, 1) := by decide +kernel
theorem dstr_33 : decode method_2_code 33 = .ok (.istore 6, 2) := by decide +kernel
theorem dstr_35 : decode method_2_code 35 = .ok (.iload 4, 2) := by decide +kernel
theorem dstr_37 : decode method_2_code 37 = .ok (.ifCond .ne 14, 3) := by decide +kernel
theorem dstr_40 : decode method_2_code 40 = .ok (.new 9, 3) := by decide +kernel
theorem dstr_43 : decode method_2_code 43 = .ok (.dup, 1) := by decide +kernel
theorem dstr_44 : decode method_2_code 44 = .ok (.iconst 0, 1) := by decide +kernel
theorem dstr_45 : decode method_2_code 45 = .ok (.newarray .char, 2) := by decide +kernel
theorem dstr_47 : decode method_2_code 47 = .ok (.invokespecial 11, 3) := by decide +kernel
theorem dstr_50 : decode method_2_code 50 = .ok (.areturn, 1) := by decide +kernel
theorem dstr_51 : decode method_2_code 51 = .ok (.iload 4, 2) := by decide +kernel
theorem dstr_53 : decode method_2_code 53 = .ok (.iconst 1, 1) := by decide +kernel
theorem dstr_54 : decode method_2_code 54 = .ok (.if_icmp .ne 19, 3) := by decide +kernel
theorem dstr_57 : decode method_2_code 57 = .ok (.new 9, 3) := by decide +kernel
theorem dstr_60 : decode method_2_code 60 = .ok (.dup, 1) := by decide +kernel
theorem dstr_61 : decode method_2_code 61 = .ok (.iconst 1, 1) := by decide +kernel
theorem dstr_62 : decode method_2_code 62 = .ok (.newarray .char, 2) := by decide +kernel
theorem dstr_64 : decode method_2_code 64 = .ok (.dup, 1) := by decide +kernel
theorem dstr_65 : decode method_2_code 65 = .ok (.iconst 0, 1) := by decide +kernel
theorem dstr_66 : decode method_2_code 66 = .ok (.iload 5, 2) := by decide +kernel
theorem dstr_68 : decode method_2_code 68 = .ok (.castore, 1) := by decide +kernel
theorem dstr_69 : decode method_2_code 69 = .ok (.invokespecial 11, 3) := by decide +kernel
theorem dstr_72 : decode method_2_code 72 = .ok (.areturn, 1) := by decide +kernel
theorem dstr_73 : decode method_2_code 73 = .ok (.new 9, 3) := by decide +kernel
theorem dstr_76 : decode method_2_code 76 = .ok (.dup, 1) := by decide +kernel
theorem dstr_77 : decode method_2_code 77 = .ok (.iconst 2, 1) := by decide +kernel
theorem dstr_78 : decode method_2_code 78 = .ok (.newarray .char, 2) := by decide +kernel
theorem dstr_80 : decode method_2_code 80 = .ok (.dup, 1) := by decide +kernel
theorem dstr_81 : decode method_2_code 81 = .ok (.iconst 0, 1) := by decide +kernel
theorem dstr_82 : decode method_2_code 82 = .ok (.iload 5, 2) := by decide +kernel
theorem dstr_84 : decode method_2_code 84 = .ok (.castore, 1) := by decide +kernel
theorem dstr_85 : decode method_2_code 85 = .ok (.dup, 1) := by decide +kernel
theorem dstr_86 : decode method_2_code 86 = .ok (.iconst 1, 1) := by decide +kernel
theorem dstr_87 : decode method_2_code 87 = .ok (.iload 6, 2) := by decide +kernel
theorem dstr_89 : decode method_2_code 89 = .ok (.castore, 1) := by decide +kernel
theorem dstr_90 : decode method_2_code 90 = .ok (.invokespecial 11, 3) := by decide +kernel
theorem dstr_93 : decode method_2_code 93 = .ok (.areturn, 1) := by decide +kernel
theorem efstr (m : MethodId) (x0 : Int64) (x1 : Int32) : entryFrame m #[(.long x0), (.int x1)] 7 = mkF m 0 #[.val (.long x0), .second, .val (.int x1), .unset, .unset, .unset, .unset] [] := by first | (simp [entryFrame, mkF, argsToLocals, Value.category]; done) | rfl
set_option maxRecDepth 65536 in
set_option maxHeartbeats 40000000 in
theorem c_str {l : Launch} {Z : State} {a0 : Array Value} {G1 : Int32} (X : Ctx Z a0 G1) (x0 : Int64) (k0 : Int32) (h0 : Heap) (hE : Ext Z.heap h0)  :
    Con l Z consts_1 (⟨"com/example/moderato/moderato/client/TextHitEqualsPinLaw", "str", "(JI)Ljava/lang/String;"⟩ : MethodName) method_2_code 7 (some (.object "java/lang/String")) [] ({ frames := 5, cells := 6, slots := 14, locals := 96 } : Room) #[(.long x0), (.int k0)] h0 (fun v h => ∃ a, v = some (.ref a) ∧ Z.heap.size ≤ a ∧ Keep h0 h [] ∧ Str Z h a (txt x0 k0)) := by
  refine Con.intro (plainFor_of_name pn_1) hE X.el ?_
  intro p e s m below meth c T W
  have hsz := W.size
  refine Go.cast (efstr m x0 k0) ?_
  have KP := Keep.refl h0 []
  refine Go.step (fun _ k => XS.lloadN W.here W.hx rfl (W.d dstr_0) rfl k) ?_
  show Go _ _ _ _ _ _ _ _ _ _ (mkF m 1 #[.val (.long x0), .second, .val (.int k0), .unset, .unset, .unset, .unset] [(.long x0)])
  refine Go.step (fun _ k => XS.iloadN W.here W.hx rfl (W.d dstr_1) rfl k) ?_
  show Go _ _ _ _ _ _ _ _ _ _ (mkF m 2 #[.val (.long x0), .second, .val (.int k0), .unset, .unset, .unset, .unset] [(.int k0), (.long x0)])
  refine Go.step (fun _ k => XS.lushr W.here W.hx rfl (W.d dstr_2) rfl k) ?_
  show Go _ _ _ _ _ _ _ _ _ _ (mkF m 3 #[.val (.long x0), .second, .val (.int k0), .unset, .unset, .unset, .unset] [(.long ((x0.toUInt64 >>> (k0 &&& 0x3f).toInt64.toUInt64).toInt64))])
  refine W.ldc2 (X.w 5 rfl) dstr_3 ?_
  show Go _ _ _ _ _ _ _ _ _ _ (mkF m 6 #[.val (.long x0), .second, .val (.int k0), .unset, .unset, .unset, .unset] [(.long (262143 : Int64)), (.long ((x0.toUInt64 >>> (k0 &&& 0x3f).toInt64.toUInt64).toInt64))])
  refine Go.step (fun _ k => XS.land W.here W.hx rfl (W.d dstr_6) rfl k) ?_
  show Go _ _ _ _ _ _ _ _ _ _ (mkF m 7 #[.val (.long x0), .second, .val (.int k0), .unset, .unset, .unset, .unset] [(.long (((x0.toUInt64 >>> (k0 &&& 0x3f).toInt64.toUInt64).toInt64) &&& (262143 : Int64)))])
  refine Go.step (fun _ k => XS.l2i W.here W.hx rfl (W.d dstr_7) rfl k) ?_
  show Go _ _ _ _ _ _ _ _ _ _ (mkF m 8 #[.val (.long x0), .second, .val (.int k0), .unset, .unset, .unset, .unset] [(.int ((((x0.toUInt64 >>> (k0 &&& 0x3f).toInt64.toUInt64).toInt64) &&& (262143 : Int64)).toInt32))])
  refine Go.step (fun _ k => XS.istoreN W.here W.hx rfl (W.d dstr_8) rfl (l' := #[.val (.long x0), .second, .val (.int k0), .val (.int ((((x0.toUInt64 >>> (k0 &&& 0x3f).toInt64.toUInt64).toInt64) &&& (262143 : Int64)).toInt32)), .unset, .unset, .unset]) rfl k) ?_
  show Go _ _ _ _ _ _ _ _ _ _ (mkF m 9 #[.val (.long x0), .second, .val (.int k0), .val (.int ((((x0.toUInt64 >>> (k0 &&& 0x3f).toInt64.toUInt64).toInt64) &&& (262143 : Int64)).toInt32)), .unset, .unset, .unset] [])
  generalize hbt : ((((x0.toUInt64 >>> (k0 &&& 0x3f).toInt64.toUInt64).toInt64) &&& (262143 : Int64)).toInt32) = bt
  refine Go.step (fun _ k => XS.iloadN W.here W.hx rfl (W.d dstr_9) rfl k) ?_
  show Go _ _ _ _ _ _ _ _ _ _ (mkF m 10 #[.val (.long x0), .second, .val (.int k0), .val (.int bt), .unset, .unset, .unset] [(.int bt)])
  refine Go.step (fun _ k => XS.iconst W.here W.hx rfl (W.d dstr_10) k) ?_
  show Go _ _ _ _ _ _ _ _ _ _ (mkF m 11 #[.val (.long x0), .second, .val (.int k0), .val (.int bt), .unset, .unset, .unset] [(.int (3 : Int32)), (.int bt)])
  refine Go.step (fun _ k => XS.iand W.here W.hx rfl (W.d dstr_11) rfl k) ?_
  show Go _ _ _ _ _ _ _ _ _ _ (mkF m 12 #[.val (.long x0), .second, .val (.int k0), .val (.int bt), .unset, .unset, .unset] [(.int (bt &&& (3 : Int32)))])
  refine Go.step (fun _ k => XS.istore W.here W.hx rfl (W.d dstr_12) rfl (l' := #[.val (.long x0), .second, .val (.int k0), .val (.int bt), .val (.int (bt &&& (3 : Int32))), .unset, .unset]) rfl k) ?_
  show Go _ _ _ _ _ _ _ _ _ _ (mkF m 14 #[.val (.long x0), .second, .val (.int k0), .val (.int bt), .val (.int (bt &&& (3 : Int32))), .unset, .unset] [])
  refine Go.step (fun _ k => XS.iloadN W.here W.hx rfl (W.d dstr_14) rfl k) ?_
  show Go _ _ _ _ _ _ _ _ _ _ (mkF m 15 #[.val (.long x0), .second, .val (.int k0), .val (.int bt), .val (.int (bt &&& (3 : Int32))), .unset, .unset] [(.int bt)])
  refine Go.step (fun _ k => XS.iconst W.here W.hx rfl (W.d dstr_15) k) ?_
  show Go _ _ _ _ _ _ _ _ _ _ (mkF m 16 #[.val (.long x0), .second, .val (.int k0), .val (.int bt), .val (.int (bt &&& (3 : Int32))), .unset, .unset] [(.int (2 : Int32)), (.int bt)])
  refine Go.step (fun _ k => XS.iushr W.here W.hx rfl (W.d dstr_16) rfl k) ?_
  show Go _ _ _ _ _ _ _ _ _ _ (mkF m 17 #[.val (.long x0), .second, .val (.int k0), .val (.int bt), .val (.int (bt &&& (3 : Int32))), .unset, .unset] [(.int ((bt.toUInt32 >>> ((2 : Int32) &&& 31).toUInt32).toInt32))])
  refine Go.step (fun _ k => XS.sipush W.here W.hx rfl (W.d dstr_17) k) ?_
  show Go _ _ _ _ _ _ _ _ _ _ (mkF m 20 #[.val (.long x0), .second, .val (.int k0), .val (.int bt), .val (.int (bt &&& (3 : Int32))), .unset, .unset] [(.int (255 : Int32)), (.int ((bt.toUInt32 >>> ((2 : Int32) &&& 31).toUInt32).toInt32))])
  refine Go.step (fun _ k => XS.iand W.here W.hx rfl (W.d dstr_20) rfl k) ?_
  show Go _ _ _ _ _ _ _ _ _ _ (mkF m 21 #[.val (.long x0), .second, .val (.int k0), .val (.int bt), .val (.int (bt &&& (3 : Int32))), .unset, .unset] [(.int (((bt.toUInt32 >>> ((2 : Int32) &&& 31).toUInt32).toInt32) &&& (255 : Int32)))])
  refine Go.step (fun _ k => XS.i2c W.here W.hx rfl (W.d dstr_21) rfl k) ?_
  show Go _ _ _ _ _ _ _ _ _ _ (mkF m 22 #[.val (.long x0), .second, .val (.int k0), .val (.int bt), .val (.int (bt &&& (3 : Int32))), .unset, .unset] [(.int ((((bt.toUInt32 >>> ((2 : Int32) &&& 31).toUInt32).toInt32) &&& (255 : Int32)).toUInt32.toUInt16.toUInt32.toInt32))])
  refine Go.step (fun _ k => XS.istore W.here W.hx rfl (W.d dstr_22) rfl (l' := #[.val (.long x0), .second, .val (.int k0), .val (.int bt), .val (.int (bt &&& (3 : Int32))), .val (.int ((((bt.toUInt32 >>> ((2 : Int32) &&& 31).toUInt32).toInt32) &&& (255 : Int32)).toUInt32.toUInt16.toUInt32.toInt32)), .unset]) rfl k) ?_
  show Go _ _ _ _ _ _ _ _ _ _ (mkF m 24 #[.val (.long x0), .second, .val (.int k0), .val (.int bt), .val (.int (bt &&& (3 : Int32))), .val (.int ((((bt.toUInt32 >>> ((2 : Int32) &&& 31).toUInt32).toInt32) &&& (255 : Int32)).toUInt32.toUInt16.toUInt32.toInt32)), .unset] [])
  have t_c0 : Sm ((((bt.toUInt32 >>> ((2 : Int32) &&& 31).toUInt32).toInt32) &&& (255 : Int32)).toUInt32.toUInt16.toUInt32.toInt32) := chr255 _
  generalize ec0 : ((((bt.toUInt32 >>> ((2 : Int32) &&& 31).toUInt32).toInt32) &&& (255 : Int32)).toUInt32.toUInt16.toUInt32.toInt32) = c0 at t_c0 ⊢
  refine Go.step (fun _ k => XS.iloadN W.here W.hx rfl (W.d dstr_24) rfl k) ?_
  show Go _ _ _ _ _ _ _ _ _ _ (mkF m 25 #[.val (.long x0), .second, .val (.int k0), .val (.int bt), .val (.int (bt &&& (3 : Int32))), .val (.int c0), .unset] [(.int bt)])
  refine Go.step (fun _ k => XS.bipush W.here W.hx rfl (W.d dstr_25) k) ?_
  show Go _ _ _ _ _ _ _ _ _ _ (mkF m 27 #[.val (.long x0), .second, .val (.int k0), .val (.int bt), .val (.int (bt &&& (3 : Int32))), .val (.int c0), .unset] [(.int (10 : Int32)), (.int bt)])
  refine Go.step (fun _ k => XS.iushr W.here W.hx rfl (W.d dstr_27) rfl k) ?_
  show Go _ _ _ _ _ _ _ _ _ _ (mkF m 28 #[.val (.long x0), .second, .val (.int k0), .val (.int bt), .val (.int (bt &&& (3 : Int32))), .val (.int c0), .unset] [(.int ((bt.toUInt32 >>> ((10 : Int32) &&& 31).toUInt32).toInt32))])
  refine Go.step (fun _ k => XS.sipush W.here W.hx rfl (W.d dstr_28) k) ?_
  show Go _ _ _ _ _ _ _ _ _ _ (mkF m 31 #[.val (.long x0), .second, .val (.int k0), .val (.int bt), .val (.int (bt &&& (3 : Int32))), .val (.int c0), .unset] [(.int (255 : Int32)), (.int ((bt.toUInt32 >>> ((10 : Int32) &&& 31).toUInt32).toInt32))])
  refine Go.step (fun _ k => XS.iand W.here W.hx rfl (W.d dstr_31) rfl k) ?_
  show Go _ _ _ _ _ _ _ _ _ _ (mkF m 32 #[.val (.long x0), .second, .val (.int k0), .val (.int bt), .val (.int (bt &&& (3 : Int32))), .val (.int c0), .unset] [(.int (((bt.toUInt32 >>> ((10 : Int32) &&& 31).toUInt32).toInt32) &&& (255 : Int32)))])
  refine Go.step (fun _ k => XS.i2c W.here W.hx rfl (W.d dstr_32) rfl k) ?_
  show Go _ _ _ _ _ _ _ _ _ _ (mkF m 33 #[.val (.long x0), .second, .val (.int k0), .val (.int bt), .val (.int (bt &&& (3 : Int32))), .val (.int c0), .unset] [(.int ((((bt.toUInt32 >>> ((10 : Int32) &&& 31).toUInt32).toInt32) &&& (255 : Int32)).toUInt32.toUInt16.toUInt32.toInt32))])
  refine Go.step (fun _ k => XS.istore W.here W.hx rfl (W.d dstr_33) rfl (l' := #[.val (.long x0), .second, .val (.int k0), .val (.int bt), .val (.int (bt &&& (3 : Int32))), .val (.int c0), .val (.int ((((bt.toUInt32 >>> ((10 : Int32) &&& 31).toUInt32).toInt32) &&& (255 : Int32)).toUInt32.toUInt16.toUInt32.toInt32))]) rfl k) ?_
  show Go _ _ _ _ _ _ _ _ _ _ (mkF m 35 #[.val (.long x0), .second, .val (.int k0), .val (.int bt), .val (.int (bt &&& (3 : Int32))), .val (.int c0), .val (.int ((((bt.toUInt32 >>> ((10 : Int32) &&& 31).toUInt32).toInt32) &&& (255 : Int32)).toUInt32.toUInt16.toUInt32.toInt32))] [])
  have t_c1 : Sm ((((bt.toUInt32 >>> ((10 : Int32) &&& 31).toUInt32).toInt32) &&& (255 : Int32)).toUInt32.toUInt16.toUInt32.toInt32) := chr255 _
  generalize ec1 : ((((bt.toUInt32 >>> ((10 : Int32) &&& 31).toUInt32).toInt32) &&& (255 : Int32)).toUInt32.toUInt16.toUInt32.toInt32) = c1 at t_c1 ⊢
  refine Go.step (fun _ k => XS.iload W.here W.hx rfl (W.d dstr_35) rfl k) ?_
  show Go _ _ _ _ _ _ _ _ _ _ (mkF m 37 #[.val (.long x0), .second, .val (.int k0), .val (.int bt), .val (.int (bt &&& (3 : Int32))), .val (.int c0), .val (.int c1)] [(.int (bt &&& (3 : Int32)))])
  by_cases hc1 : (bt &&& (3 : Int32)) = (0 : Int32)
  · refine Go.step (fun _ k => XS.ifNo W.here W.hx rfl (W.d dstr_37) rfl ((if0 _ _).trans (teq hc1).2) k) ?_
    show Go _ _ _ _ _ _ _ _ _ _ (mkF m 40 #[.val (.long x0), .second, .val (.int k0), .val (.int bt), .val (.int (bt &&& (3 : Int32))), .val (.int c0), .val (.int c1)] [])
    refine W.new (X.w 6 rfl) (X.w 7 rfl) (X.w 8 rfl) dstr_40 (by decide) (by decide) ?_
    intro T h b2 hb2 W Eb2 Ab2 Db2
    have sz_b2 : h0.size ≤ b2 := by rw [hb2]; exact KP.1
    have gb2 : Z.heap.size ≤ b2 := by rw [hb2]; exact hsz
    replace KP := KP.ext Eb2
    replace hsz := W.size
    have F_coder_b2 : Fld Z h b2 "java/lang/String" "coder" "B" (.int (0 : Int32)) := Db2 (Or.inr (X.w 33 rfl)) (ty := .byte) (by decide)
    have F_value_b2 : Fld Z h b2 "java/lang/String" "value" "[B" .null := Db2 (Or.inr (X.w 35 rfl)) (ty := (.array .byte)) (by decide)
    show Go _ _ _ _ _ _ _ _ _ _ (mkF m 43 #[.val (.long x0), .second, .val (.int k0), .val (.int bt), .val (.int (bt &&& (3 : Int32))), .val (.int c0), .val (.int c1)] [(.ref b2)])
    refine Go.step (fun _ k => XS.dup W.here W.hx rfl (W.d dstr_43) rfl rfl k) ?_
    show Go _ _ _ _ _ _ _ _ _ _ (mkF m 44 #[.val (.long x0), .second, .val (.int k0), .val (.int bt), .val (.int (bt &&& (3 : Int32))), .val (.int c0), .val (.int c1)] [(.ref b2), (.ref b2)])
    refine Go.step (fun _ k => XS.iconst W.here W.hx rfl (W.d dstr_44) k) ?_
    show Go _ _ _ _ _ _ _ _ _ _ (mkF m 45 #[.val (.long x0), .second, .val (.int k0), .val (.int bt), .val (.int (bt &&& (3 : Int32))), .val (.int c0), .val (.int c1)] [(.int (0 : Int32)), (.ref b2), (.ref b2)])
    refine W.newarr (X.w 9 rfl) dstr_45 (by decide) (cap := 0) (by decide) (by decide) (by decide) (by decide) ?_
    intro T h b3 kb3 hb3 W Eb3 Vb3 Sfb3
    have sz_b3 : h0.size ≤ b3 := by rw [hb3]; exact KP.1
    have ne_b2_b3 : b2 ≠ b3 := by rw [hb3]; exact Nat.ne_of_lt Ab2.lt
    have gb3 : Z.heap.size ≤ b3 := by rw [hb3]; exact hsz
    replace KP := KP.ext Eb3
    replace F_coder_b2 := F_coder_b2.ext Eb3
    replace F_value_b2 := F_value_b2.ext Eb3
    replace Ab2 := Ab2.ext Eb3
    replace hsz := W.size
    replace Vb3 : Arv Z h b3 kb3 .char (0 : Int32) [] (.int (0 : Int32)) := Vb3.pad (pad_rep [] (.int (0 : Int32)) 0)
    show Go _ _ _ _ _ _ _ _ _ _ (mkF m 47 #[.val (.long x0), .second, .val (.int k0), .val (.int bt), .val (.int (bt &&& (3 : Int32))), .val (.int c0), .val (.int c1)] [(.ref b3), (.ref b2), (.ref b2)])
    refine W.special rfl (X.w 10 rfl) (X.w 11 rfl) (X.w 8 rfl) (X.w 12 rfl) (by decide) (c_e1 X b2 b3 _ _ _ _ W.ext gb2 Ab2 F_value_b2 F_coder_b2 Vb3) (by decide) (Wd := 1) (by decide) b2 [(.ref b3)] [(.ref b2)] rfl pd_1 rfl rfl rfl (Nat.le_of_eq rfl) dstr_47 (by decide) (by decide) ?_
    intro v T h vm W hQ C
    obtain ⟨rfl, Kb2, Sb2⟩ := hQ
    replace KP := KP.otrN Kb2 sz_b2
    replace Vb3 := Vb3.keep Kb2 (nin1 (Ne.symm ne_b2_b3))
    replace hsz := W.size
    show Go _ _ _ _ _ _ _ _ _ _ (mkF m 50 #[.val (.long x0), .second, .val (.int k0), .val (.int bt), .val (.int (bt &&& (3 : Int32))), .val (.int c0), .val (.int c1)] [(.ref b2)])
    exact W.retR rfl rfl rfl dstr_50 (⟨b2, rfl, gb2, KP, by rw [txt, show bitsOf x0 k0 = bt from hbt, selB, sel, if_pos hc1]; exact Sb2⟩) (by decide) (by decide)
  · refine Go.step (fun _ k => XS.ifYes W.here W.hx rfl (pc0 := 37) (pc' := 51) rfl (W.d dstr_37) rfl ((if0 _ _).trans (feq hc1).2) (by decide) (by decide) k) ?_
    show Go _ _ _ _ _ _ _ _ _ _ (mkF m 51 #[.val (.long x0), .second, .val (.int k0), .val (.int bt), .val (.int (bt &&& (3 : Int32))), .val (.int c0), .val (.int c1)] [])
    refine Go.step (fun _ k => XS.iload W.here W.hx rfl (W.d dstr_51) rfl k) ?_
    show Go _ _ _ _ _ _ _ _ _ _ (mkF m 53 #[.val (.long x0), .second, .val (.int k0), .val (.int bt), .val (.int (bt &&& (3 : Int32))), .val (.int c0), .val (.int c1)] [(.int (bt &&& (3 : Int32)))])
    refine Go.step (fun _ k => XS.iconst W.here W.hx rfl (W.d dstr_53) k) ?_
    show Go _ _ _ _ _ _ _ _ _ _ (mkF m 54 #[.val (.long x0), .second, .val (.int k0), .val (.int bt), .val (.int (bt &&& (3 : Int32))), .val (.int c0), .val (.int c1)] [(.int (1 : Int32)), (.int (bt &&& (3 : Int32)))])
    by_cases hc4 : (bt &&& (3 : Int32)) = (1 : Int32)
    · refine Go.step (fun _ k => XS.icmpNo W.here W.hx rfl (W.d dstr_54) rfl (teq hc4).2 k) ?_
      show Go _ _ _ _ _ _ _ _ _ _ (mkF m 57 #[.val (.long x0), .second, .val (.int k0), .val (.int bt), .val (.int (bt &&& (3 : Int32))), .val (.int c0), .val (.int c1)] [])
      refine W.new (X.w 6 rfl) (X.w 7 rfl) (X.w 8 rfl) dstr_57 (by decide) (by decide) ?_
      intro T h b5 hb5 W Eb5 Ab5 Db5
      have sz_b5 : h0.size ≤ b5 := by rw [hb5]; exact KP.1
      have gb5 : Z.heap.size ≤ b5 := by rw [hb5]; exact hsz
      replace KP := KP.ext Eb5
      replace hsz := W.size
      have F_coder_b5 : Fld Z h b5 "java/lang/String" "coder" "B" (.int (0 : Int32)) := Db5 (Or.inr (X.w 33 rfl)) (ty := .byte) (by decide)
      have F_value_b5 : Fld Z h b5 "java/lang/String" "value" "[B" .null := Db5 (Or.inr (X.w 35 rfl)) (ty := (.array .byte)) (by decide)
      show Go _ _ _ _ _ _ _ _ _ _ (mkF m 60 #[.val (.long x0), .second, .val (.int k0), .val (.int bt), .val (.int (bt &&& (3 : Int32))), .val (.int c0), .val (.int c1)] [(.ref b5)])
      refine Go.step (fun _ k => XS.dup W.here W.hx rfl (W.d dstr_60) rfl rfl k) ?_
      show Go _ _ _ _ _ _ _ _ _ _ (mkF m 61 #[.val (.long x0), .second, .val (.int k0), .val (.int bt), .val (.int (bt &&& (3 : Int32))), .val (.int c0), .val (.int c1)] [(.ref b5), (.ref b5)])
      refine Go.step (fun _ k => XS.iconst W.here W.hx rfl (W.d dstr_61) k) ?_
      show Go _ _ _ _ _ _ _ _ _ _ (mkF m 62 #[.val (.long x0), .second, .val (.int k0), .val (.int bt), .val (.int (bt &&& (3 : Int32))), .val (.int c0), .val (.int c1)] [(.int (1 : Int32)), (.ref b5), (.ref b5)])
      refine W.newarr (X.w 9 rfl) dstr_62 (by decide) (cap := 1) (by decide) (by decide) (by decide) (by decide) ?_
      intro T h b6 kb6 hb6 W Eb6 Vb6 Sfb6
      have sz_b6 : h0.size ≤ b6 := by rw [hb6]; exact KP.1
      have ne_b5_b6 : b5 ≠ b6 := by rw [hb6]; exact Nat.ne_of_lt Ab5.lt
      have gb6 : Z.heap.size ≤ b6 := by rw [hb6]; exact hsz
      replace KP := KP.ext Eb6
      replace F_coder_b5 := F_coder_b5.ext Eb6
      replace F_value_b5 := F_value_b5.ext Eb6
      replace Ab5 := Ab5.ext Eb6
      replace hsz := W.size
      replace Vb6 : Arv Z h b6 kb6 .char (1 : Int32) [(.int (0 : Int32))] (.int (0 : Int32)) := Vb6.pad (pad_rep [] (.int (0 : Int32)) 1)
      show Go _ _ _ _ _ _ _ _ _ _ (mkF m 64 #[.val (.long x0), .second, .val (.int k0), .val (.int bt), .val (.int (bt &&& (3 : Int32))), .val (.int c0), .val (.int c1)] [(.ref b6), (.ref b5), (.ref b5)])
      refine Go.step (fun _ k => XS.dup W.here W.hx rfl (W.d dstr_64) rfl rfl k) ?_
      show Go _ _ _ _ _ _ _ _ _ _ (mkF m 65 #[.val (.long x0), .second, .val (.int k0), .val (.int bt), .val (.int (bt &&& (3 : Int32))), .val (.int c0), .val (.int c1)] [(.ref b6), (.ref b6), (.ref b5), (.ref b5)])
      refine Go.step (fun _ k => XS.iconst W.here W.hx rfl (W.d dstr_65) k) ?_
      show Go _ _ _ _ _ _ _ _ _ _ (mkF m 66 #[.val (.long x0), .second, .val (.int k0), .val (.int bt), .val (.int (bt &&& (3 : Int32))), .val (.int c0), .val (.int c1)] [(.int (0 : Int32)), (.ref b6), (.ref b6), (.ref b5), (.ref b5)])
      refine Go.step (fun _ k => XS.iload W.here W.hx rfl (W.d dstr_66) rfl k) ?_
      show Go _ _ _ _ _ _ _ _ _ _ (mkF m 68 #[.val (.long x0), .second, .val (.int k0), .val (.int bt), .val (.int (bt &&& (3 : Int32))), .val (.int c0), .val (.int c1)] [(.int c0), (.int (0 : Int32)), (.ref b6), (.ref b6), (.ref b5), (.ref b5)])
      refine W.castore Vb6 0 rfl (by simp) (by decide) gb6 dstr_68 ?_
      intro T h W K7 Vb6'
      replace KP := KP.otrN K7 sz_b6
      replace F_coder_b5 := F_coder_b5.keep K7 (nin1 ne_b5_b6)
      replace F_value_b5 := F_value_b5.keep K7 (nin1 ne_b5_b6)
      replace Ab5 := Ab5.keep K7
      replace hsz := W.size
      replace Vb6 : Arv Z h b6 kb6 .char (1 : Int32) [(.int (nar .char c0))] (.int (0 : Int32)) := Vb6'
      rw [nar_small t_c0] at Vb6
      show Go _ _ _ _ _ _ _ _ _ _ (mkF m 69 #[.val (.long x0), .second, .val (.int k0), .val (.int bt), .val (.int (bt &&& (3 : Int32))), .val (.int c0), .val (.int c1)] [(.ref b6), (.ref b5), (.ref b5)])
      refine W.specialB rfl (X.w 10 rfl) (X.w 11 rfl) (X.w 12 rfl) (by decide) (bk_new X W.hZ W.ext gb5 Ab5 F_value_b5 F_coder_b5 (cs := [c0]) (n := 1) Vb6 rfl rfl (by decide) (by decide) (smS t_c0 sm0) (by decide) (by decide)) [b5] (fun _ _ _ q => ⟨q.2.1, q.2.2.1⟩) (sfS (Safe.blank W.hZ.alike Ab5 F_value_b5) sf0) (allS gb5 all0) b5 [(.ref b6)] [(.ref b5)] rfl pd_1 rfl rfl rfl (Wd := 1) (Nat.le_of_eq rfl) dstr_69 (by decide) (by decide) ?_
      intro v T h L W hQ
      obtain ⟨rfl, -, Kb5, Sb5⟩ := hQ
      replace KP := KP.otrN Kb5 sz_b5
      replace Vb6 := Vb6.keep Kb5 (nin1 (Ne.symm ne_b5_b6))
      replace hsz := W.size
      show Go _ _ _ _ _ _ _ _ _ _ (mkF m 72 #[.val (.long x0), .second, .val (.int k0), .val (.int bt), .val (.int (bt &&& (3 : Int32))), .val (.int c0), .val (.int c1)] [(.ref b5)])
      exact W.retR rfl rfl rfl dstr_72 (⟨b5, rfl, gb5, KP, by rw [txt, show bitsOf x0 k0 = bt from hbt, selB, sel, if_neg hc1, if_pos hc4, ec0]; exact Sb5⟩) (by decide) (by decide)
    · refine Go.step (fun _ k => XS.icmpYes W.here W.hx rfl (pc0 := 54) (pc' := 73) rfl (W.d dstr_54) rfl (feq hc4).2 (by decide) (by decide) k) ?_
      show Go _ _ _ _ _ _ _ _ _ _ (mkF m 73 #[.val (.long x0), .second, .val (.int k0), .val (.int bt), .val (.int (bt &&& (3 : Int32))), .val (.int c0), .val (.int c1)] [])
      refine W.new (X.w 6 rfl) (X.w 7 rfl) (X.w 8 rfl) dstr_73 (by decide) (by decide) ?_
      intro T h b8 hb8 W Eb8 Ab8 Db8
      have sz_b8 : h0.size ≤ b8 := by rw [hb8]; exact KP.1
      have gb8 : Z.heap.size ≤ b8 := by rw [hb8]; exact hsz
      replace KP := KP.ext Eb8
      replace hsz := W.size
      have F_coder_b8 : Fld Z h b8 "java/lang/String" "coder" "B" (.int (0 : Int32)) := Db8 (Or.inr (X.w 33 rfl)) (ty := .byte) (by decide)
      have F_value_b8 : Fld Z h b8 "java/lang/String" "value" "[B" .null := Db8 (Or.inr (X.w 35 rfl)) (ty := (.array .byte)) (by decide)
      show Go _ _ _ _ _ _ _ _ _ _ (mkF m 76 #[.val (.long x0), .second, .val (.int k0), .val (.int bt), .val (.int (bt &&& (3 : Int32))), .val (.int c0), .val (.int c1)] [(.ref b8)])
      refine Go.step (fun _ k => XS.dup W.here W.hx rfl (W.d dstr_76) rfl rfl k) ?_
      show Go _ _ _ _ _ _ _ _ _ _ (mkF m 77 #[.val (.long x0), .second, .val (.int k0), .val (.int bt), .val (.int (bt &&& (3 : Int32))), .val (.int c0), .val (.int c1)] [(.ref b8), (.ref b8)])
      refine Go.step (fun _ k => XS.iconst W.here W.hx rfl (W.d dstr_77) k) ?_
      show Go _ _ _ _ _ _ _ _ _ _ (mkF m 78 #[.val (.long x0), .second, .val (.int k0), .val (.int bt), .val (.int (bt &&& (3 : Int32))), .val (.int c0), .val (.int c1)] [(.int (2 : Int32)), (.ref b8), (.ref b8)])
      refine W.newarr (X.w 9 rfl) dstr_78 (by decide) (cap := 2) (by decide) (by decide) (by decide) (by decide) ?_
      intro T h b9 kb9 hb9 W Eb9 Vb9 Sfb9
      have sz_b9 : h0.size ≤ b9 := by rw [hb9]; exact KP.1
      have ne_b8_b9 : b8 ≠ b9 := by rw [hb9]; exact Nat.ne_of_lt Ab8.lt
      have gb9 : Z.heap.size ≤ b9 := by rw [hb9]; exact hsz
      replace KP := KP.ext Eb9
      replace F_coder_b8 := F_coder_b8.ext Eb9
      replace F_value_b8 := F_value_b8.ext Eb9
      replace Ab8 := Ab8.ext Eb9
      replace hsz := W.size
      replace Vb9 : Arv Z h b9 kb9 .char (2 : Int32) [(.int (0 : Int32)), (.int (0 : Int32))] (.int (0 : Int32)) := Vb9.pad (pad_rep [] (.int (0 : Int32)) 2)
      show Go _ _ _ _ _ _ _ _ _ _ (mkF m 80 #[.val (.long x0), .second, .val (.int k0), .val (.int bt), .val (.int (bt &&& (3 : Int32))), .val (.int c0), .val (.int c1)] [(.ref b9), (.ref b8), (.ref b8)])
      refine Go.step (fun _ k => XS.dup W.here W.hx rfl (W.d dstr_80) rfl rfl k) ?_
      show Go _ _ _ _ _ _ _ _ _ _ (mkF m 81 #[.val (.long x0), .second, .val (.int k0), .val (.int bt), .val (.int (bt &&& (3 : Int32))), .val (.int c0), .val (.int c1)] [(.ref b9), (.ref b9), (.ref b8), (.ref b8)])
      refine Go.step (fun _ k => XS.iconst W.here W.hx rfl (W.d dstr_81) k) ?_
      show Go _ _ _ _ _ _ _ _ _ _ (mkF m 82 #[.val (.long x0), .second, .val (.int k0), .val (.int bt), .val (.int (bt &&& (3 : Int32))), .val (.int c0), .val (.int c1)] [(.int (0 : Int32)), (.ref b9), (.ref b9), (.ref b8), (.ref b8)])
      refine Go.step (fun _ k => XS.iload W.here W.hx rfl (W.d dstr_82) rfl k) ?_
      show Go _ _ _ _ _ _ _ _ _ _ (mkF m 84 #[.val (.long x0), .second, .val (.int k0), .val (.int bt), .val (.int (bt &&& (3 : Int32))), .val (.int c0), .val (.int c1)] [(.int c0), (.int (0 : Int32)), (.ref b9), (.ref b9), (.ref b8), (.ref b8)])
      refine W.castore Vb9 0 rfl (by simp) (by decide) gb9 dstr_84 ?_
      intro T h W K10 Vb9'
      replace KP := KP.otrN K10 sz_b9
      replace F_coder_b8 := F_coder_b8.keep K10 (nin1 ne_b8_b9)
      replace F_value_b8 := F_value_b8.keep K10 (nin1 ne_b8_b9)
      replace Ab8 := Ab8.keep K10
      replace hsz := W.size
      replace Vb9 : Arv Z h b9 kb9 .char (2 : Int32) [(.int (nar .char c0)), (.int (0 : Int32))] (.int (0 : Int32)) := Vb9'
      rw [nar_small t_c0] at Vb9
      show Go _ _ _ _ _ _ _ _ _ _ (mkF m 85 #[.val (.long x0), .second, .val (.int k0), .val (.int bt), .val (.int (bt &&& (3 : Int32))), .val (.int c0), .val (.int c1)] [(.ref b9), (.ref b8), (.ref b8)])
      refine Go.step (fun _ k => XS.dup W.here W.hx rfl (W.d dstr_85) rfl rfl k) ?_
      show Go _ _ _ _ _ _ _ _ _ _ (mkF m 86 #[.val (.long x0), .second, .val (.int k0), .val (.int bt), .val (.int (bt &&& (3 : Int32))), .val (.int c0), .val (.int c1)] [(.ref b9), (.ref b9), (.ref b8), (.ref b8)])
      refine Go.step (fun _ k => XS.iconst W.here W.hx rfl (W.d dstr_86) k) ?_
      show Go _ _ _ _ _ _ _ _ _ _ (mkF m 87 #[.val (.long x0), .second, .val (.int k0), .val (.int bt), .val (.int (bt &&& (3 : Int32))), .val (.int c0), .val (.int c1)] [(.int (1 : Int32)), (.ref b9), (.ref b9), (.ref b8), (.ref b8)])
      refine Go.step (fun _ k => XS.iload W.here W.hx rfl (W.d dstr_87) rfl k) ?_
      show Go _ _ _ _ _ _ _ _ _ _ (mkF m 89 #[.val (.long x0), .second, .val (.int k0), .val (.int bt), .val (.int (bt &&& (3 : Int32))), .val (.int c0), .val (.int c1)] [(.int c1), (.int (1 : Int32)), (.ref b9), (.ref b9), (.ref b8), (.ref b8)])
      refine W.castore Vb9 1 rfl (by simp) (by decide) gb9 dstr_89 ?_
      intro T h W K11 Vb9'
      replace KP := KP.otrN K11 sz_b9
      replace F_coder_b8 := F_coder_b8.keep K11 (nin1 ne_b8_b9)
      replace F_value_b8 := F_value_b8.keep K11 (nin1 ne_b8_b9)
      replace Ab8 := Ab8.keep K11
      replace hsz := W.size
      replace Vb9 : Arv Z h b9 kb9 .char (2 : Int32) [(.int c0), (.int (nar .char c1))] (.int (0 : Int32)) := Vb9'
      rw [nar_small t_c1] at Vb9
      show Go _ _ _ _ _ _ _ _ _ _ (mkF m 90 #[.val (.long x0), .second, .val (.int k0), .val (.int bt), .val (.int (bt &&& (3 : Int32))), .val (.int c0), .val (.int c1)] [(.ref b9), (.ref b8), (.ref b8)])
      refine W.specialB rfl (X.w 10 rfl) (X.w 11 rfl) (X.w 12 rfl) (by decide) (bk_new X W.hZ W.ext gb8 Ab8 F_value_b8 F_coder_b8 (cs := [c0, c1]) (n := 2) Vb9 rfl rfl (by decide) (by decide) (smS t_c0 (smS t_c1 sm0)) (by decide) (by decide)) [b8] (fun _ _ _ q => ⟨q.2.1, q.2.2.1⟩) (sfS (Safe.blank W.hZ.alike Ab8 F_value_b8) sf0) (allS gb8 all0) b8 [(.ref b9)] [(.ref b8)] rfl pd_1 rfl rfl rfl (Wd := 1) (Nat.le_of_eq rfl) dstr_90 (by decide) (by decide) ?_
      intro v T h L W hQ
      obtain ⟨rfl, -, Kb8, Sb8⟩ := hQ
      replace KP := KP.otrN Kb8 sz_b8
      replace Vb9 := Vb9.keep Kb8 (nin1 (Ne.symm ne_b8_b9))
      replace hsz := W.size
      show Go _ _ _ _ _ _ _ _ _ _ (mkF m 93 #[.val (.long x0), .second, .val (.int k0), .val (.int bt), .val (.int (bt &&& (3 : Int32))), .val (.int c0), .val (.int c1)] [(.ref b8)])
      exact W.retR rfl rfl rfl dstr_93 (⟨b8, rfl, gb8, KP, by rw [txt, show bitsOf x0 k0 = bt from hbt, selB, sel, if_neg hc1, if_neg hc4, ec0, ec1]; exact Sb8⟩) (by decide) (by decide)

theorem dmin_0 : decode jdk_29_method_69_code 0 = .ok (.iload_n 0, 1) := by decide +kernel
theorem dmin_1 : decode jdk_29_method_69_code 1 = .ok (.iload_n 1, 1) := by decide +kernel
theorem dmin_2 : decode jdk_29_method_69_code 2 = .ok (.if_icmp .gt 7, 3) := by decide +kernel
theorem dmin_5 : decode jdk_29_method_69_code 5 = .ok (.iload_n 0, 1) := by decide +kernel
theorem dmin_6 : decode jdk_29_method_69_code 6 = .ok (.goto 4, 3) := by decide +kernel
theorem dmin_9 : decode jdk_29_method_69_code 9 = .ok (.iload_n 1, 1) := by decide +kernel
theorem dmin_10 : decode jdk_29_method_69_code 10 = .ok (.ireturn, 1) := by decide +kernel
theorem efmin (m : MethodId) (x0 : Int32) (x1 : Int32) : entryFrame m #[(.int x0), (.int x1)] 2 = mkF m 0 #[.val (.int x0), .val (.int x1)] [] := by first | (simp [entryFrame, mkF, argsToLocals, Value.category]; done) | rfl
set_option maxRecDepth 65536 in
set_option maxHeartbeats 40000000 in
theorem c_min {l : Launch} {Z : State} {a0 : Array Value} {G1 : Int32} (X : Ctx Z a0 G1) (n0 : Int32) (h0 : Heap) (hE : Ext Z.heap h0)  :
    Con l Z consts_1 (⟨"java/lang/Math", "min", "(II)I"⟩ : MethodName) jdk_29_method_69_code 2 (some .int) [] ({ frames := 0, cells := 0, slots := 0, locals := 0 } : Room) #[(.int n0), (.int (2 : Int32))] h0 (fun v h => v = some (.int (min2 n0)) ∧ h0 = h) := by
  refine Con.intro (Jvm.Free.JP.mathPlain rfl (by decide +kernel)) hE X.el ?_
  intro p e s m below meth c T W
  have hsz := W.size
  refine Go.cast (efmin m n0 (2 : Int32)) ?_
  refine Go.step (fun _ k => XS.iloadN W.here W.hx rfl (W.d dmin_0) rfl k) ?_
  show Go _ _ _ _ _ _ _ _ _ _ (mkF m 1 #[.val (.int n0), .val (.int (2 : Int32))] [(.int n0)])
  refine Go.step (fun _ k => XS.iloadN W.here W.hx rfl (W.d dmin_1) rfl k) ?_
  show Go _ _ _ _ _ _ _ _ _ _ (mkF m 2 #[.val (.int n0), .val (.int (2 : Int32))] [(.int (2 : Int32)), (.int n0)])
  by_cases hc1 : (2 : Int32) < n0
  · refine Go.step (fun _ k => XS.icmpYes W.here W.hx rfl (pc0 := 2) (pc' := 9) rfl (W.d dmin_2) rfl (tlt hc1).2.2.1 (by decide) (by decide) k) ?_
    show Go _ _ _ _ _ _ _ _ _ _ (mkF m 9 #[.val (.int n0), .val (.int (2 : Int32))] [])
    refine Go.step (fun _ k => XS.iloadN W.here W.hx rfl (W.d dmin_9) rfl k) ?_
    show Go _ _ _ _ _ _ _ _ _ _ (mkF m 10 #[.val (.int n0), .val (.int (2 : Int32))] [(.int (2 : Int32))])
    exact W.retI dmin_10 (⟨by rw [min2, if_pos hc1], rfl⟩) (by decide) (by decide)
  · refine Go.step (fun _ k => XS.icmpNo W.here W.hx rfl (W.d dmin_2) rfl (flt hc1).2.2.1 k) ?_
    show Go _ _ _ _ _ _ _ _ _ _ (mkF m 5 #[.val (.int n0), .val (.int (2 : Int32))] [])
    refine Go.step (fun _ k => XS.iloadN W.here W.hx rfl (W.d dmin_5) rfl k) ?_
    show Go _ _ _ _ _ _ _ _ _ _ (mkF m 6 #[.val (.int n0), .val (.int (2 : Int32))] [(.int n0)])
    refine Go.step (fun _ k => XS.goto W.here W.hx rfl (pc0 := 6) (pc' := 10) rfl (W.d dmin_6) (by decide) (by decide) k) ?_
    show Go _ _ _ _ _ _ _ _ _ _ (mkF m 10 #[.val (.int n0), .val (.int (2 : Int32))] [(.int n0)])
    exact W.retI dmin_10 (⟨by rw [min2, if_neg hc1], rfl⟩) (by decide) (by decide)

theorem dss_0 : decode method_3_code 0 = .ok (.lload_n 0, 1) := by decide +kernel
theorem dss_1 : decode method_3_code 1 = .ok (.iload 4, 2) := by decide +kernel
theorem dss_3 : decode method_3_code 3 = .ok (.lushr, 1) := by decide +kernel
theorem dss_4 : decode method_3_code 4 = .ok (.ldc2_w 7, 3) := by decide +kernel
theorem dss_7 : decode method_3_code 7 = .ok (.land, 1) := by decide +kernel
theorem dss_8 : decode method_3_code 8 = .ok (.l2i, 1) := by decide +kernel
theorem dss_9 : decode method_3_code 9 = .ok (.istore 5, 2) := by decide +kernel
theorem dss_11 : decode method_3_code 11 = .ok (.lload_n 2, 1) := by decide +kernel
theorem dss_12 : decode method_3_code 12 = .ok (.iload 4, 2) := by decide +kernel
theorem dss_14 : decode method_3_code 14 = .ok (.lushr, 1) := by decide +kernel
theorem dss_15 : decode method_3_code 15 = .ok (.ldc2_w 7, 3) := by decide +kernel
theorem dss_18 : decode method_3_code 18 = .ok (.land, 1) := by decide +kernel
theorem dss_19 : decode method_3_code 19 = .ok (.l2i, 1) := by decide +kernel
theorem dss_20 : decode method_3_code 20 = .ok (.istore 6, 2) := by decide +kernel
theorem dss_22 : decode method_3_code 22 = .ok (.iload 5, 2) := by decide +kernel
theorem dss_24 : decode method_3_code 24 = .ok (.iconst 3, 1) := by decide +kernel
theorem dss_25 : decode method_3_code 25 = .ok (.iand, 1) := by decide +kernel
theorem dss_26 : decode method_3_code 26 = .ok (.iconst 2, 1) := by decide +kernel
theorem dss_27 : decode method_3_code 27 = .ok (.invokestatic 14, 3) := by decide +kernel
theorem dss_30 : decode method_3_code 30 = .ok (.istore 7, 2) := by decide +kernel
theorem dss_32 : decode method_3_code 32 = .ok (.iload 6, 2) := by decide +kernel
theorem dss_34 : decode method_3_code 34 = .ok (.iconst 3, 1) := by decide +kernel
theorem dss_35 : decode method_3_code 35 = .ok (.iand, 1) := by decide +kernel
theorem dss_36 : decode method_3_code 36 = .ok (.iconst 2, 1) := by decide +kernel
theorem dss_37 : decode method_3_code 37 = .ok (.invokestatic 14, 3) := by decide +kernel
theorem dss_40 : decode method_3_code 40 = .ok (.istore 8, 2) := by decide +kernel
theorem dss_42 : decode method_3_code 42 = .ok (.iload 7, 2) := by decide +kernel
theorem dss_44 : decode method_3_code 44 = .ok (.iload 8, 2) := by decide +kernel
theorem dss_46 : decode method_3_code 46 = .ok (.if_icmp .eq 5, 3) := by decide +kernel
theorem dss_49 : decode method_3_code 49 = .ok (.iconst 0, 1) := by decide +kernel
theorem dss_50 : decode method_3_code 50 = .ok (.ireturn, 1) := by decide +kernel
theorem dss_51 : decode method_3_code 51 = .ok (.iload 5, 2) := by decide +kernel
theorem dss_53 : decode method_3_code 53 = .ok (.iconst 2, 1) := by decide +kernel
theorem dss_54 : decode method_3_code 54 = .ok (.iushr, 1) := by decide +kernel
theorem dss_55 : decode method_3_code 55 = .ok (.sipush 255, 3) := by decide +kernel
theorem dss_58 : decode method_3_code 58 = .ok (.iand, 1) := by decide +kernel
theorem dss_59 : decode method_3_code 59 = .ok (.istore 9, 2) := by decide +kernel
theorem dss_61 : decode method_3_code 61 = .ok (.iload 6, 2) := by decide +kernel
theorem dss_63 : decode method_3_code 63 = .ok (.iconst 2, 1) := by decide +kernel
theorem dss_64 : decode method_3_code 64 = .ok (.iushr, 1) := by decide +kernel
theorem dss_65 : decode method_3_code 65 = .ok (.sipush 255, 3) := by decide +kernel
theorem dss_68 : decode method_3_code 68 = .ok (.iand, 1) := by decide +kernel
theorem dss_69 : decode method_3_code 69 = .ok (.istore 10, 2) := by decide +kernel
theorem dss_71 : decode method_3_code 71 = .ok (.iload 5, 2) := by decide +kernel
theorem dss_73 : decode method_3_code 73 = .ok (.bipush 10, 2) := by decide +kernel
theorem dss_75 : decode method_3_code 75 = .ok (.iushr, 1) := by decide +kernel
theorem dss_76 : decode method_3_code 76 = .ok (.sipush 255, 3) := by decide +kernel
theorem dss_79 : decode method_3_code 79 = .ok (.iand, 1) := by decide +kernel
theorem dss_80 : decode method_3_code 80 = .ok (.istore 11, 2) := by decide +kernel
theorem dss_82 : decode method_3_code 82 = .ok (.iload 6, 2) := by decide +kernel
theorem dss_84 : decode method_3_code 84 = .ok (.bipush 10, 2) := by decide +kernel
theorem dss_86 : decode method_3_code 86 = .ok (.iushr, 1) := by decide +kernel
theorem dss_87 : decode method_3_code 87 = .ok (.sipush 255, 3) := by decide +kernel
theorem dss_90 : decode method_3_code 90 = .ok (.iand, 1) := by decide +kernel
theorem dss_91 : decode method_3_code 91 = .ok (.istore 12, 2) := by decide +kernel
theorem dss_93 : decode method_3_code 93 = .ok (.iload 7, 2) := by decide +kernel
theorem dss_95 : decode method_3_code 95 = .ok (.ifCond .ne 5, 3) := by decide +kernel
theorem dss_98 : decode method_3_code 98 = .ok (.iconst 1, 1) := by decide +kernel
theorem dss_99 : decode method_3_code 99 = .ok (.ireturn, 1) := by decide +kernel
theorem dss_100 : decode method_3_code 100 = .ok (.iload 7, 2) := by decide +kernel
theorem dss_102 : decode method_3_code 102 = .ok (.iconst 1, 1) := by decide +kernel
theorem dss_103 : decode method_3_code 103 = .ok (.if_icmp .ne 16, 3) := by decide +kernel
theorem dss_106 : decode method_3_code 106 = .ok (.iload 9, 2) := by decide +kernel
theorem dss_108 : decode method_3_code 108 = .ok (.iload 10, 2) := by decide +kernel
theorem dss_110 : decode method_3_code 110 = .ok (.if_icmp .ne 7, 3) := by decide +kernel
theorem dss_113 : decode method_3_code 113 = .ok (.iconst 1, 1) := by decide +kernel
theorem dss_114 : decode method_3_code 114 = .ok (.goto 4, 3) := by decide +kernel
theorem dss_117 : decode method_3_code 117 = .ok (.iconst 0, 1) := by decide +kernel
theorem dss_118 : decode method_3_code 118 = .ok (.ireturn, 1) := by decide +kernel
theorem dss_119 : decode method_3_code 119 = .ok (.iload 9, 2) := by decide +kernel
theorem dss_121 : decode method_3_code 121 = .ok (.iload 10, 2) := by decide +kernel
theorem dss_123 : decode method_3_code 123 = .ok (.if_icmp .ne 14, 3) := by decide +kernel
theorem dss_126 : decode method_3_code 126 = .ok (.iload 11, 2) := by decide +kernel
theorem dss_128 : decode method_3_code 128 = .ok (.iload 12, 2) := by decide +kernel
theorem dss_130 : decode method_3_code 130 = .ok (.if_icmp .ne 7, 3) := by decide +kernel
theorem dss_133 : decode method_3_code 133 = .ok (.iconst 1, 1) := by decide +kernel
theorem dss_134 : decode method_3_code 134 = .ok (.goto 4, 3) := by decide +kernel
theorem dss_137 : decode method_3_code 137 = .ok (.iconst 0, 1) := by decide +kernel
theorem dss_138 : decode method_3_code 138 = .ok (.ireturn, 1) := by decide +kernel
theorem efss (m : MethodId) (x0 : Int64) (x1 : Int64) (x2 : Int32) : entryFrame m #[(.long x0), (.long x1), (.int x2)] 13 = mkF m 0 #[.val (.long x0), .second, .val (.long x1), .second, .val (.int x2), .unset, .unset, .unset, .unset, .unset, .unset, .unset, .unset] [] := by first | (simp [entryFrame, mkF, argsToLocals, Value.category]; done) | rfl
set_option maxRecDepth 65536 in
set_option maxHeartbeats 40000000 in
theorem c_ss {l : Launch} {Z : State} {a0 : Array Value} {G1 : Int32} (X : Ctx Z a0 G1) (x0 y0 : Int64) (k0 : Int32) (h0 : Heap) (hE : Ext Z.heap h0)  :
    Con l Z consts_1 (⟨"com/example/moderato/moderato/client/TextHitEqualsPinLaw", "sameStr", "(JJI)Z"⟩ : MethodName) method_3_code 13 (some .boolean) [] ({ frames := 1, cells := 0, slots := 0, locals := 13 } : Room) #[(.long x0), (.long y0), (.int k0)] h0 (fun v h => ((v = some (.int 1) ∧ txt x0 k0 = txt y0 k0) ∨ (v = some (.int 0) ∧ ¬ txt x0 k0 = txt y0 k0)) ∧ h0 = h) := by
  refine Con.intro (plainFor_of_name pn_1) hE X.el ?_
  intro p e s m below meth c T W
  have hsz := W.size
  refine Go.cast (efss m x0 y0 k0) ?_
  refine Go.step (fun _ k => XS.lloadN W.here W.hx rfl (W.d dss_0) rfl k) ?_
  show Go _ _ _ _ _ _ _ _ _ _ (mkF m 1 #[.val (.long x0), .second, .val (.long y0), .second, .val (.int k0), .unset, .unset, .unset, .unset, .unset, .unset, .unset, .unset] [(.long x0)])
  refine Go.step (fun _ k => XS.iload W.here W.hx rfl (W.d dss_1) rfl k) ?_
  show Go _ _ _ _ _ _ _ _ _ _ (mkF m 3 #[.val (.long x0), .second, .val (.long y0), .second, .val (.int k0), .unset, .unset, .unset, .unset, .unset, .unset, .unset, .unset] [(.int k0), (.long x0)])
  refine Go.step (fun _ k => XS.lushr W.here W.hx rfl (W.d dss_3) rfl k) ?_
  show Go _ _ _ _ _ _ _ _ _ _ (mkF m 4 #[.val (.long x0), .second, .val (.long y0), .second, .val (.int k0), .unset, .unset, .unset, .unset, .unset, .unset, .unset, .unset] [(.long ((x0.toUInt64 >>> (k0 &&& 0x3f).toInt64.toUInt64).toInt64))])
  refine W.ldc2 (X.w 5 rfl) dss_4 ?_
  show Go _ _ _ _ _ _ _ _ _ _ (mkF m 7 #[.val (.long x0), .second, .val (.long y0), .second, .val (.int k0), .unset, .unset, .unset, .unset, .unset, .unset, .unset, .unset] [(.long (262143 : Int64)), (.long ((x0.toUInt64 >>> (k0 &&& 0x3f).toInt64.toUInt64).toInt64))])
  refine Go.step (fun _ k => XS.land W.here W.hx rfl (W.d dss_7) rfl k) ?_
  show Go _ _ _ _ _ _ _ _ _ _ (mkF m 8 #[.val (.long x0), .second, .val (.long y0), .second, .val (.int k0), .unset, .unset, .unset, .unset, .unset, .unset, .unset, .unset] [(.long (((x0.toUInt64 >>> (k0 &&& 0x3f).toInt64.toUInt64).toInt64) &&& (262143 : Int64)))])
  refine Go.step (fun _ k => XS.l2i W.here W.hx rfl (W.d dss_8) rfl k) ?_
  show Go _ _ _ _ _ _ _ _ _ _ (mkF m 9 #[.val (.long x0), .second, .val (.long y0), .second, .val (.int k0), .unset, .unset, .unset, .unset, .unset, .unset, .unset, .unset] [(.int ((((x0.toUInt64 >>> (k0 &&& 0x3f).toInt64.toUInt64).toInt64) &&& (262143 : Int64)).toInt32))])
  refine Go.step (fun _ k => XS.istore W.here W.hx rfl (W.d dss_9) rfl (l' := #[.val (.long x0), .second, .val (.long y0), .second, .val (.int k0), .val (.int ((((x0.toUInt64 >>> (k0 &&& 0x3f).toInt64.toUInt64).toInt64) &&& (262143 : Int64)).toInt32)), .unset, .unset, .unset, .unset, .unset, .unset, .unset]) rfl k) ?_
  show Go _ _ _ _ _ _ _ _ _ _ (mkF m 11 #[.val (.long x0), .second, .val (.long y0), .second, .val (.int k0), .val (.int ((((x0.toUInt64 >>> (k0 &&& 0x3f).toInt64.toUInt64).toInt64) &&& (262143 : Int64)).toInt32)), .unset, .unset, .unset, .unset, .unset, .unset, .unset] [])
  generalize hbx : ((((x0.toUInt64 >>> (k0 &&& 0x3f).toInt64.toUInt64).toInt64) &&& (262143 : Int64)).toInt32) = bx
  refine Go.step (fun _ k => XS.lloadN W.here W.hx rfl (W.d dss_11) rfl k) ?_
  show Go _ _ _ _ _ _ _ _ _ _ (mkF m 12 #[.val (.long x0), .second, .val (.long y0), .second, .val (.int k0), .val (.int bx), .unset, .unset, .unset, .unset, .unset, .unset, .unset] [(.long y0)])
  refine Go.step (fun _ k => XS.iload W.here W.hx rfl (W.d dss_12) rfl k) ?_
  show Go _ _ _ _ _ _ _ _ _ _ (mkF m 14 #[.val (.long x0), .second, .val (.long y0), .second, .val (.int k0), .val (.int bx), .unset, .unset, .unset, .unset, .unset, .unset, .unset] [(.int k0), (.long y0)])
  refine Go.step (fun _ k => XS.lushr W.here W.hx rfl (W.d dss_14) rfl k) ?_
  show Go _ _ _ _ _ _ _ _ _ _ (mkF m 15 #[.val (.long x0), .second, .val (.long y0), .second, .val (.int k0), .val (.int bx), .unset, .unset, .unset, .unset, .unset, .unset, .unset] [(.long ((y0.toUInt64 >>> (k0 &&& 0x3f).toInt64.toUInt64).toInt64))])
  refine W.ldc2 (X.w 5 rfl) dss_15 ?_
  show Go _ _ _ _ _ _ _ _ _ _ (mkF m 18 #[.val (.long x0), .second, .val (.long y0), .second, .val (.int k0), .val (.int bx), .unset, .unset, .unset, .unset, .unset, .unset, .unset] [(.long (262143 : Int64)), (.long ((y0.toUInt64 >>> (k0 &&& 0x3f).toInt64.toUInt64).toInt64))])
  refine Go.step (fun _ k => XS.land W.here W.hx rfl (W.d dss_18) rfl k) ?_
  show Go _ _ _ _ _ _ _ _ _ _ (mkF m 19 #[.val (.long x0), .second, .val (.long y0), .second, .val (.int k0), .val (.int bx), .unset, .unset, .unset, .unset, .unset, .unset, .unset] [(.long (((y0.toUInt64 >>> (k0 &&& 0x3f).toInt64.toUInt64).toInt64) &&& (262143 : Int64)))])
  refine Go.step (fun _ k => XS.l2i W.here W.hx rfl (W.d dss_19) rfl k) ?_
  show Go _ _ _ _ _ _ _ _ _ _ (mkF m 20 #[.val (.long x0), .second, .val (.long y0), .second, .val (.int k0), .val (.int bx), .unset, .unset, .unset, .unset, .unset, .unset, .unset] [(.int ((((y0.toUInt64 >>> (k0 &&& 0x3f).toInt64.toUInt64).toInt64) &&& (262143 : Int64)).toInt32))])
  refine Go.step (fun _ k => XS.istore W.here W.hx rfl (W.d dss_20) rfl (l' := #[.val (.long x0), .second, .val (.long y0), .second, .val (.int k0), .val (.int bx), .val (.int ((((y0.toUInt64 >>> (k0 &&& 0x3f).toInt64.toUInt64).toInt64) &&& (262143 : Int64)).toInt32)), .unset, .unset, .unset, .unset, .unset, .unset]) rfl k) ?_
  show Go _ _ _ _ _ _ _ _ _ _ (mkF m 22 #[.val (.long x0), .second, .val (.long y0), .second, .val (.int k0), .val (.int bx), .val (.int ((((y0.toUInt64 >>> (k0 &&& 0x3f).toInt64.toUInt64).toInt64) &&& (262143 : Int64)).toInt32)), .unset, .unset, .unset, .unset, .unset, .unset] [])
  generalize hbz : ((((y0.toUInt64 >>> (k0 &&& 0x3f).toInt64.toUInt64).toInt64) &&& (262143 : Int64)).toInt32) = bz
  refine Go.step (fun _ k => XS.iload W.here W.hx rfl (W.d dss_22) rfl k) ?_
  show Go _ _ _ _ _ _ _ _ _ _ (mkF m 24 #[.val (.long x0), .second, .val (.long y0), .second, .val (.int k0), .val (.int bx), .val (.int bz), .unset, .unset, .unset, .unset, .unset, .unset] [(.int bx)])
  refine Go.step (fun _ k => XS.iconst W.here W.hx rfl (W.d dss_24) k) ?_
  show Go _ _ _ _ _ _ _ _ _ _ (mkF m 25 #[.val (.long x0), .second, .val (.long y0), .second, .val (.int k0), .val (.int bx), .val (.int bz), .unset, .unset, .unset, .unset, .unset, .unset] [(.int (3 : Int32)), (.int bx)])
  refine Go.step (fun _ k => XS.iand W.here W.hx rfl (W.d dss_25) rfl k) ?_
  show Go _ _ _ _ _ _ _ _ _ _ (mkF m 26 #[.val (.long x0), .second, .val (.long y0), .second, .val (.int k0), .val (.int bx), .val (.int bz), .unset, .unset, .unset, .unset, .unset, .unset] [(.int (bx &&& (3 : Int32)))])
  refine Go.step (fun _ k => XS.iconst W.here W.hx rfl (W.d dss_26) k) ?_
  show Go _ _ _ _ _ _ _ _ _ _ (mkF m 27 #[.val (.long x0), .second, .val (.long y0), .second, .val (.int k0), .val (.int bx), .val (.int bz), .unset, .unset, .unset, .unset, .unset, .unset] [(.int (2 : Int32)), (.int (bx &&& (3 : Int32)))])
  refine W.callS (X.w 42 rfl) (X.w 43 rfl) (X.w 44 rfl) (X.w 45 rfl) (by decide) (c_min X (bx &&& (3 : Int32)) _ W.ext) (by decide) (Wd := 0) (by decide) [(.int (bx &&& (3 : Int32))), (.int (2 : Int32))] [] rfl pd_2 rfl rfl rfl (Nat.le_of_eq rfl) dss_27 (by decide) (by decide) ?_
  intro v T h vm W hQ C
  obtain ⟨rfl, rfl⟩ := hQ
  show Go _ _ _ _ _ _ _ _ _ _ (mkF m 30 #[.val (.long x0), .second, .val (.long y0), .second, .val (.int k0), .val (.int bx), .val (.int bz), .unset, .unset, .unset, .unset, .unset, .unset] [(.int (min2 (bx &&& (3 : Int32))))])
  refine Go.step (fun _ k => XS.istore W.here W.hx rfl (W.d dss_30) rfl (l' := #[.val (.long x0), .second, .val (.long y0), .second, .val (.int k0), .val (.int bx), .val (.int bz), .val (.int (min2 (bx &&& (3 : Int32)))), .unset, .unset, .unset, .unset, .unset]) rfl k) ?_
  show Go _ _ _ _ _ _ _ _ _ _ (mkF m 32 #[.val (.long x0), .second, .val (.long y0), .second, .val (.int k0), .val (.int bx), .val (.int bz), .val (.int (min2 (bx &&& (3 : Int32)))), .unset, .unset, .unset, .unset, .unset] [])
  refine Go.step (fun _ k => XS.iload W.here W.hx rfl (W.d dss_32) rfl k) ?_
  show Go _ _ _ _ _ _ _ _ _ _ (mkF m 34 #[.val (.long x0), .second, .val (.long y0), .second, .val (.int k0), .val (.int bx), .val (.int bz), .val (.int (min2 (bx &&& (3 : Int32)))), .unset, .unset, .unset, .unset, .unset] [(.int bz)])
  refine Go.step (fun _ k => XS.iconst W.here W.hx rfl (W.d dss_34) k) ?_
  show Go _ _ _ _ _ _ _ _ _ _ (mkF m 35 #[.val (.long x0), .second, .val (.long y0), .second, .val (.int k0), .val (.int bx), .val (.int bz), .val (.int (min2 (bx &&& (3 : Int32)))), .unset, .unset, .unset, .unset, .unset] [(.int (3 : Int32)), (.int bz)])
  refine Go.step (fun _ k => XS.iand W.here W.hx rfl (W.d dss_35) rfl k) ?_
  show Go _ _ _ _ _ _ _ _ _ _ (mkF m 36 #[.val (.long x0), .second, .val (.long y0), .second, .val (.int k0), .val (.int bx), .val (.int bz), .val (.int (min2 (bx &&& (3 : Int32)))), .unset, .unset, .unset, .unset, .unset] [(.int (bz &&& (3 : Int32)))])
  refine Go.step (fun _ k => XS.iconst W.here W.hx rfl (W.d dss_36) k) ?_
  show Go _ _ _ _ _ _ _ _ _ _ (mkF m 37 #[.val (.long x0), .second, .val (.long y0), .second, .val (.int k0), .val (.int bx), .val (.int bz), .val (.int (min2 (bx &&& (3 : Int32)))), .unset, .unset, .unset, .unset, .unset] [(.int (2 : Int32)), (.int (bz &&& (3 : Int32)))])
  refine W.callS (X.w 42 rfl) (X.w 43 rfl) (X.w 44 rfl) (X.w 45 rfl) (by decide) (c_min X (bz &&& (3 : Int32)) _ W.ext) (by decide) (Wd := 0) (by decide) [(.int (bz &&& (3 : Int32))), (.int (2 : Int32))] [] rfl pd_2 rfl rfl rfl (Nat.le_of_eq rfl) dss_37 (by decide) (by decide) ?_
  intro v T h vm W hQ C
  obtain ⟨rfl, rfl⟩ := hQ
  show Go _ _ _ _ _ _ _ _ _ _ (mkF m 40 #[.val (.long x0), .second, .val (.long y0), .second, .val (.int k0), .val (.int bx), .val (.int bz), .val (.int (min2 (bx &&& (3 : Int32)))), .unset, .unset, .unset, .unset, .unset] [(.int (min2 (bz &&& (3 : Int32))))])
  refine Go.step (fun _ k => XS.istore W.here W.hx rfl (W.d dss_40) rfl (l' := #[.val (.long x0), .second, .val (.long y0), .second, .val (.int k0), .val (.int bx), .val (.int bz), .val (.int (min2 (bx &&& (3 : Int32)))), .val (.int (min2 (bz &&& (3 : Int32)))), .unset, .unset, .unset, .unset]) rfl k) ?_
  show Go _ _ _ _ _ _ _ _ _ _ (mkF m 42 #[.val (.long x0), .second, .val (.long y0), .second, .val (.int k0), .val (.int bx), .val (.int bz), .val (.int (min2 (bx &&& (3 : Int32)))), .val (.int (min2 (bz &&& (3 : Int32)))), .unset, .unset, .unset, .unset] [])
  refine Go.step (fun _ k => XS.iload W.here W.hx rfl (W.d dss_42) rfl k) ?_
  show Go _ _ _ _ _ _ _ _ _ _ (mkF m 44 #[.val (.long x0), .second, .val (.long y0), .second, .val (.int k0), .val (.int bx), .val (.int bz), .val (.int (min2 (bx &&& (3 : Int32)))), .val (.int (min2 (bz &&& (3 : Int32)))), .unset, .unset, .unset, .unset] [(.int (min2 (bx &&& (3 : Int32))))])
  refine Go.step (fun _ k => XS.iload W.here W.hx rfl (W.d dss_44) rfl k) ?_
  show Go _ _ _ _ _ _ _ _ _ _ (mkF m 46 #[.val (.long x0), .second, .val (.long y0), .second, .val (.int k0), .val (.int bx), .val (.int bz), .val (.int (min2 (bx &&& (3 : Int32)))), .val (.int (min2 (bz &&& (3 : Int32)))), .unset, .unset, .unset, .unset] [(.int (min2 (bz &&& (3 : Int32)))), (.int (min2 (bx &&& (3 : Int32))))])
  by_cases hc1 : (min2 (bx &&& (3 : Int32))) = (min2 (bz &&& (3 : Int32)))
  · refine Go.step (fun _ k => XS.icmpYes W.here W.hx rfl (pc0 := 46) (pc' := 51) rfl (W.d dss_46) rfl (teq hc1).1 (by decide) (by decide) k) ?_
    show Go _ _ _ _ _ _ _ _ _ _ (mkF m 51 #[.val (.long x0), .second, .val (.long y0), .second, .val (.int k0), .val (.int bx), .val (.int bz), .val (.int (min2 (bx &&& (3 : Int32)))), .val (.int (min2 (bz &&& (3 : Int32)))), .unset, .unset, .unset, .unset] [])
    refine Go.step (fun _ k => XS.iload W.here W.hx rfl (W.d dss_51) rfl k) ?_
    show Go _ _ _ _ _ _ _ _ _ _ (mkF m 53 #[.val (.long x0), .second, .val (.long y0), .second, .val (.int k0), .val (.int bx), .val (.int bz), .val (.int (min2 (bx &&& (3 : Int32)))), .val (.int (min2 (bz &&& (3 : Int32)))), .unset, .unset, .unset, .unset] [(.int bx)])
    refine Go.step (fun _ k => XS.iconst W.here W.hx rfl (W.d dss_53) k) ?_
    show Go _ _ _ _ _ _ _ _ _ _ (mkF m 54 #[.val (.long x0), .second, .val (.long y0), .second, .val (.int k0), .val (.int bx), .val (.int bz), .val (.int (min2 (bx &&& (3 : Int32)))), .val (.int (min2 (bz &&& (3 : Int32)))), .unset, .unset, .unset, .unset] [(.int (2 : Int32)), (.int bx)])
    refine Go.step (fun _ k => XS.iushr W.here W.hx rfl (W.d dss_54) rfl k) ?_
    show Go _ _ _ _ _ _ _ _ _ _ (mkF m 55 #[.val (.long x0), .second, .val (.long y0), .second, .val (.int k0), .val (.int bx), .val (.int bz), .val (.int (min2 (bx &&& (3 : Int32)))), .val (.int (min2 (bz &&& (3 : Int32)))), .unset, .unset, .unset, .unset] [(.int ((bx.toUInt32 >>> ((2 : Int32) &&& 31).toUInt32).toInt32))])
    refine Go.step (fun _ k => XS.sipush W.here W.hx rfl (W.d dss_55) k) ?_
    show Go _ _ _ _ _ _ _ _ _ _ (mkF m 58 #[.val (.long x0), .second, .val (.long y0), .second, .val (.int k0), .val (.int bx), .val (.int bz), .val (.int (min2 (bx &&& (3 : Int32)))), .val (.int (min2 (bz &&& (3 : Int32)))), .unset, .unset, .unset, .unset] [(.int (255 : Int32)), (.int ((bx.toUInt32 >>> ((2 : Int32) &&& 31).toUInt32).toInt32))])
    refine Go.step (fun _ k => XS.iand W.here W.hx rfl (W.d dss_58) rfl k) ?_
    show Go _ _ _ _ _ _ _ _ _ _ (mkF m 59 #[.val (.long x0), .second, .val (.long y0), .second, .val (.int k0), .val (.int bx), .val (.int bz), .val (.int (min2 (bx &&& (3 : Int32)))), .val (.int (min2 (bz &&& (3 : Int32)))), .unset, .unset, .unset, .unset] [(.int (((bx.toUInt32 >>> ((2 : Int32) &&& 31).toUInt32).toInt32) &&& (255 : Int32)))])
    refine Go.step (fun _ k => XS.istore W.here W.hx rfl (W.d dss_59) rfl (l' := #[.val (.long x0), .second, .val (.long y0), .second, .val (.int k0), .val (.int bx), .val (.int bz), .val (.int (min2 (bx &&& (3 : Int32)))), .val (.int (min2 (bz &&& (3 : Int32)))), .val (.int (((bx.toUInt32 >>> ((2 : Int32) &&& 31).toUInt32).toInt32) &&& (255 : Int32))), .unset, .unset, .unset]) rfl k) ?_
    show Go _ _ _ _ _ _ _ _ _ _ (mkF m 61 #[.val (.long x0), .second, .val (.long y0), .second, .val (.int k0), .val (.int bx), .val (.int bz), .val (.int (min2 (bx &&& (3 : Int32)))), .val (.int (min2 (bz &&& (3 : Int32)))), .val (.int (((bx.toUInt32 >>> ((2 : Int32) &&& 31).toUInt32).toInt32) &&& (255 : Int32))), .unset, .unset, .unset] [])
    refine Go.step (fun _ k => XS.iload W.here W.hx rfl (W.d dss_61) rfl k) ?_
    show Go _ _ _ _ _ _ _ _ _ _ (mkF m 63 #[.val (.long x0), .second, .val (.long y0), .second, .val (.int k0), .val (.int bx), .val (.int bz), .val (.int (min2 (bx &&& (3 : Int32)))), .val (.int (min2 (bz &&& (3 : Int32)))), .val (.int (((bx.toUInt32 >>> ((2 : Int32) &&& 31).toUInt32).toInt32) &&& (255 : Int32))), .unset, .unset, .unset] [(.int bz)])
    refine Go.step (fun _ k => XS.iconst W.here W.hx rfl (W.d dss_63) k) ?_
    show Go _ _ _ _ _ _ _ _ _ _ (mkF m 64 #[.val (.long x0), .second, .val (.long y0), .second, .val (.int k0), .val (.int bx), .val (.int bz), .val (.int (min2 (bx &&& (3 : Int32)))), .val (.int (min2 (bz &&& (3 : Int32)))), .val (.int (((bx.toUInt32 >>> ((2 : Int32) &&& 31).toUInt32).toInt32) &&& (255 : Int32))), .unset, .unset, .unset] [(.int (2 : Int32)), (.int bz)])
    refine Go.step (fun _ k => XS.iushr W.here W.hx rfl (W.d dss_64) rfl k) ?_
    show Go _ _ _ _ _ _ _ _ _ _ (mkF m 65 #[.val (.long x0), .second, .val (.long y0), .second, .val (.int k0), .val (.int bx), .val (.int bz), .val (.int (min2 (bx &&& (3 : Int32)))), .val (.int (min2 (bz &&& (3 : Int32)))), .val (.int (((bx.toUInt32 >>> ((2 : Int32) &&& 31).toUInt32).toInt32) &&& (255 : Int32))), .unset, .unset, .unset] [(.int ((bz.toUInt32 >>> ((2 : Int32) &&& 31).toUInt32).toInt32))])
    refine Go.step (fun _ k => XS.sipush W.here W.hx rfl (W.d dss_65) k) ?_
    show Go _ _ _ _ _ _ _ _ _ _ (mkF m 68 #[.val (.long x0), .second, .val (.long y0), .second, .val (.int k0), .val (.int bx), .val (.int bz), .val (.int (min2 (bx &&& (3 : Int32)))), .val (.int (min2 (bz &&& (3 : Int32)))), .val (.int (((bx.toUInt32 >>> ((2 : Int32) &&& 31).toUInt32).toInt32) &&& (255 : Int32))), .unset, .unset, .unset] [(.int (255 : Int32)), (.int ((bz.toUInt32 >>> ((2 : Int32) &&& 31).toUInt32).toInt32))])
    refine Go.step (fun _ k => XS.iand W.here W.hx rfl (W.d dss_68) rfl k) ?_
    show Go _ _ _ _ _ _ _ _ _ _ (mkF m 69 #[.val (.long x0), .second, .val (.long y0), .second, .val (.int k0), .val (.int bx), .val (.int bz), .val (.int (min2 (bx &&& (3 : Int32)))), .val (.int (min2 (bz &&& (3 : Int32)))), .val (.int (((bx.toUInt32 >>> ((2 : Int32) &&& 31).toUInt32).toInt32) &&& (255 : Int32))), .unset, .unset, .unset] [(.int (((bz.toUInt32 >>> ((2 : Int32) &&& 31).toUInt32).toInt32) &&& (255 : Int32)))])
    refine Go.step (fun _ k => XS.istore W.here W.hx rfl (W.d dss_69) rfl (l' := #[.val (.long x0), .second, .val (.long y0), .second, .val (.int k0), .val (.int bx), .val (.int bz), .val (.int (min2 (bx &&& (3 : Int32)))), .val (.int (min2 (bz &&& (3 : Int32)))), .val (.int (((bx.toUInt32 >>> ((2 : Int32) &&& 31).toUInt32).toInt32) &&& (255 : Int32))), .val (.int (((bz.toUInt32 >>> ((2 : Int32) &&& 31).toUInt32).toInt32) &&& (255 : Int32))), .unset, .unset]) rfl k) ?_
    show Go _ _ _ _ _ _ _ _ _ _ (mkF m 71 #[.val (.long x0), .second, .val (.long y0), .second, .val (.int k0), .val (.int bx), .val (.int bz), .val (.int (min2 (bx &&& (3 : Int32)))), .val (.int (min2 (bz &&& (3 : Int32)))), .val (.int (((bx.toUInt32 >>> ((2 : Int32) &&& 31).toUInt32).toInt32) &&& (255 : Int32))), .val (.int (((bz.toUInt32 >>> ((2 : Int32) &&& 31).toUInt32).toInt32) &&& (255 : Int32))), .unset, .unset] [])
    refine Go.step (fun _ k => XS.iload W.here W.hx rfl (W.d dss_71) rfl k) ?_
    show Go _ _ _ _ _ _ _ _ _ _ (mkF m 73 #[.val (.long x0), .second, .val (.long y0), .second, .val (.int k0), .val (.int bx), .val (.int bz), .val (.int (min2 (bx &&& (3 : Int32)))), .val (.int (min2 (bz &&& (3 : Int32)))), .val (.int (((bx.toUInt32 >>> ((2 : Int32) &&& 31).toUInt32).toInt32) &&& (255 : Int32))), .val (.int (((bz.toUInt32 >>> ((2 : Int32) &&& 31).toUInt32).toInt32) &&& (255 : Int32))), .unset, .unset] [(.int bx)])
    refine Go.step (fun _ k => XS.bipush W.here W.hx rfl (W.d dss_73) k) ?_
    show Go _ _ _ _ _ _ _ _ _ _ (mkF m 75 #[.val (.long x0), .second, .val (.long y0), .second, .val (.int k0), .val (.int bx), .val (.int bz), .val (.int (min2 (bx &&& (3 : Int32)))), .val (.int (min2 (bz &&& (3 : Int32)))), .val (.int (((bx.toUInt32 >>> ((2 : Int32) &&& 31).toUInt32).toInt32) &&& (255 : Int32))), .val (.int (((bz.toUInt32 >>> ((2 : Int32) &&& 31).toUInt32).toInt32) &&& (255 : Int32))), .unset, .unset] [(.int (10 : Int32)), (.int bx)])
    refine Go.step (fun _ k => XS.iushr W.here W.hx rfl (W.d dss_75) rfl k) ?_
    show Go _ _ _ _ _ _ _ _ _ _ (mkF m 76 #[.val (.long x0), .second, .val (.long y0), .second, .val (.int k0), .val (.int bx), .val (.int bz), .val (.int (min2 (bx &&& (3 : Int32)))), .val (.int (min2 (bz &&& (3 : Int32)))), .val (.int (((bx.toUInt32 >>> ((2 : Int32) &&& 31).toUInt32).toInt32) &&& (255 : Int32))), .val (.int (((bz.toUInt32 >>> ((2 : Int32) &&& 31).toUInt32).toInt32) &&& (255 : Int32))), .unset, .unset] [(.int ((bx.toUInt32 >>> ((10 : Int32) &&& 31).toUInt32).toInt32))])
    refine Go.step (fun _ k => XS.sipush W.here W.hx rfl (W.d dss_76) k) ?_
    show Go _ _ _ _ _ _ _ _ _ _ (mkF m 79 #[.val (.long x0), .second, .val (.long y0), .second, .val (.int k0), .val (.int bx), .val (.int bz), .val (.int (min2 (bx &&& (3 : Int32)))), .val (.int (min2 (bz &&& (3 : Int32)))), .val (.int (((bx.toUInt32 >>> ((2 : Int32) &&& 31).toUInt32).toInt32) &&& (255 : Int32))), .val (.int (((bz.toUInt32 >>> ((2 : Int32) &&& 31).toUInt32).toInt32) &&& (255 : Int32))), .unset, .unset] [(.int (255 : Int32)), (.int ((bx.toUInt32 >>> ((10 : Int32) &&& 31).toUInt32).toInt32))])
    refine Go.step (fun _ k => XS.iand W.here W.hx rfl (W.d dss_79) rfl k) ?_
    show Go _ _ _ _ _ _ _ _ _ _ (mkF m 80 #[.val (.long x0), .second, .val (.long y0), .second, .val (.int k0), .val (.int bx), .val (.int bz), .val (.int (min2 (bx &&& (3 : Int32)))), .val (.int (min2 (bz &&& (3 : Int32)))), .val (.int (((bx.toUInt32 >>> ((2 : Int32) &&& 31).toUInt32).toInt32) &&& (255 : Int32))), .val (.int (((bz.toUInt32 >>> ((2 : Int32) &&& 31).toUInt32).toInt32) &&& (255 : Int32))), .unset, .unset] [(.int (((bx.toUInt32 >>> ((10 : Int32) &&& 31).toUInt32).toInt32) &&& (255 : Int32)))])
    refine Go.step (fun _ k => XS.istore W.here W.hx rfl (W.d dss_80) rfl (l' := #[.val (.long x0), .second, .val (.long y0), .second, .val (.int k0), .val (.int bx), .val (.int bz), .val (.int (min2 (bx &&& (3 : Int32)))), .val (.int (min2 (bz &&& (3 : Int32)))), .val (.int (((bx.toUInt32 >>> ((2 : Int32) &&& 31).toUInt32).toInt32) &&& (255 : Int32))), .val (.int (((bz.toUInt32 >>> ((2 : Int32) &&& 31).toUInt32).toInt32) &&& (255 : Int32))), .val (.int (((bx.toUInt32 >>> ((10 : Int32) &&& 31).toUInt32).toInt32) &&& (255 : Int32))), .unset]) rfl k) ?_
    show Go _ _ _ _ _ _ _ _ _ _ (mkF m 82 #[.val (.long x0), .second, .val (.long y0), .second, .val (.int k0), .val (.int bx), .val (.int bz), .val (.int (min2 (bx &&& (3 : Int32)))), .val (.int (min2 (bz &&& (3 : Int32)))), .val (.int (((bx.toUInt32 >>> ((2 : Int32) &&& 31).toUInt32).toInt32) &&& (255 : Int32))), .val (.int (((bz.toUInt32 >>> ((2 : Int32) &&& 31).toUInt32).toInt32) &&& (255 : Int32))), .val (.int (((bx.toUInt32 >>> ((10 : Int32) &&& 31).toUInt32).toInt32) &&& (255 : Int32))), .unset] [])
    refine Go.step (fun _ k => XS.iload W.here W.hx rfl (W.d dss_82) rfl k) ?_
    show Go _ _ _ _ _ _ _ _ _ _ (mkF m 84 #[.val (.long x0), .second, .val (.long y0), .second, .val (.int k0), .val (.int bx), .val (.int bz), .val (.int (min2 (bx &&& (3 : Int32)))), .val (.int (min2 (bz &&& (3 : Int32)))), .val (.int (((bx.toUInt32 >>> ((2 : Int32) &&& 31).toUInt32).toInt32) &&& (255 : Int32))), .val (.int (((bz.toUInt32 >>> ((2 : Int32) &&& 31).toUInt32).toInt32) &&& (255 : Int32))), .val (.int (((bx.toUInt32 >>> ((10 : Int32) &&& 31).toUInt32).toInt32) &&& (255 : Int32))), .unset] [(.int bz)])
    refine Go.step (fun _ k => XS.bipush W.here W.hx rfl (W.d dss_84) k) ?_
    show Go _ _ _ _ _ _ _ _ _ _ (mkF m 86 #[.val (.long x0), .second, .val (.long y0), .second, .val (.int k0), .val (.int bx), .val (.int bz), .val (.int (min2 (bx &&& (3 : Int32)))), .val (.int (min2 (bz &&& (3 : Int32)))), .val (.int (((bx.toUInt32 >>> ((2 : Int32) &&& 31).toUInt32).toInt32) &&& (255 : Int32))), .val (.int (((bz.toUInt32 >>> ((2 : Int32) &&& 31).toUInt32).toInt32) &&& (255 : Int32))), .val (.int (((bx.toUInt32 >>> ((10 : Int32) &&& 31).toUInt32).toInt32) &&& (255 : Int32))), .unset] [(.int (10 : Int32)), (.int bz)])
    refine Go.step (fun _ k => XS.iushr W.here W.hx rfl (W.d dss_86) rfl k) ?_
    show Go _ _ _ _ _ _ _ _ _ _ (mkF m 87 #[.val (.long x0), .second, .val (.long y0), .second, .val (.int k0), .val (.int bx), .val (.int bz), .val (.int (min2 (bx &&& (3 : Int32)))), .val (.int (min2 (bz &&& (3 : Int32)))), .val (.int (((bx.toUInt32 >>> ((2 : Int32) &&& 31).toUInt32).toInt32) &&& (255 : Int32))), .val (.int (((bz.toUInt32 >>> ((2 : Int32) &&& 31).toUInt32).toInt32) &&& (255 : Int32))), .val (.int (((bx.toUInt32 >>> ((10 : Int32) &&& 31).toUInt32).toInt32) &&& (255 : Int32))), .unset] [(.int ((bz.toUInt32 >>> ((10 : Int32) &&& 31).toUInt32).toInt32))])
    refine Go.step (fun _ k => XS.sipush W.here W.hx rfl (W.d dss_87) k) ?_
    show Go _ _ _ _ _ _ _ _ _ _ (mkF m 90 #[.val (.long x0), .second, .val (.long y0), .second, .val (.int k0), .val (.int bx), .val (.int bz), .val (.int (min2 (bx &&& (3 : Int32)))), .val (.int (min2 (bz &&& (3 : Int32)))), .val (.int (((bx.toUInt32 >>> ((2 : Int32) &&& 31).toUInt32).toInt32) &&& (255 : Int32))), .val (.int (((bz.toUInt32 >>> ((2 : Int32) &&& 31).toUInt32).toInt32) &&& (255 : Int32))), .val (.int (((bx.toUInt32 >>> ((10 : Int32) &&& 31).toUInt32).toInt32) &&& (255 : Int32))), .unset] [(.int (255 : Int32)), (.int ((bz.toUInt32 >>> ((10 : Int32) &&& 31).toUInt32).toInt32))])
    refine Go.step (fun _ k => XS.iand W.here W.hx rfl (W.d dss_90) rfl k) ?_
    show Go _ _ _ _ _ _ _ _ _ _ (mkF m 91 #[.val (.long x0), .second, .val (.long y0), .second, .val (.int k0), .val (.int bx), .val (.int bz), .val (.int (min2 (bx &&& (3 : Int32)))), .val (.int (min2 (bz &&& (3 : Int32)))), .val (.int (((bx.toUInt32 >>> ((2 : Int32) &&& 31).toUInt32).toInt32) &&& (255 : Int32))), .val (.int (((bz.toUInt32 >>> ((2 : Int32) &&& 31).toUInt32).toInt32) &&& (255 : Int32))), .val (.int (((bx.toUInt32 >>> ((10 : Int32) &&& 31).toUInt32).toInt32) &&& (255 : Int32))), .unset] [(.int (((bz.toUInt32 >>> ((10 : Int32) &&& 31).toUInt32).toInt32) &&& (255 : Int32)))])
    refine Go.step (fun _ k => XS.istore W.here W.hx rfl (W.d dss_91) rfl (l' := #[.val (.long x0), .second, .val (.long y0), .second, .val (.int k0), .val (.int bx), .val (.int bz), .val (.int (min2 (bx &&& (3 : Int32)))), .val (.int (min2 (bz &&& (3 : Int32)))), .val (.int (((bx.toUInt32 >>> ((2 : Int32) &&& 31).toUInt32).toInt32) &&& (255 : Int32))), .val (.int (((bz.toUInt32 >>> ((2 : Int32) &&& 31).toUInt32).toInt32) &&& (255 : Int32))), .val (.int (((bx.toUInt32 >>> ((10 : Int32) &&& 31).toUInt32).toInt32) &&& (255 : Int32))), .val (.int (((bz.toUInt32 >>> ((10 : Int32) &&& 31).toUInt32).toInt32) &&& (255 : Int32)))]) rfl k) ?_
    show Go _ _ _ _ _ _ _ _ _ _ (mkF m 93 #[.val (.long x0), .second, .val (.long y0), .second, .val (.int k0), .val (.int bx), .val (.int bz), .val (.int (min2 (bx &&& (3 : Int32)))), .val (.int (min2 (bz &&& (3 : Int32)))), .val (.int (((bx.toUInt32 >>> ((2 : Int32) &&& 31).toUInt32).toInt32) &&& (255 : Int32))), .val (.int (((bz.toUInt32 >>> ((2 : Int32) &&& 31).toUInt32).toInt32) &&& (255 : Int32))), .val (.int (((bx.toUInt32 >>> ((10 : Int32) &&& 31).toUInt32).toInt32) &&& (255 : Int32))), .val (.int (((bz.toUInt32 >>> ((10 : Int32) &&& 31).toUInt32).toInt32) &&& (255 : Int32)))] [])
    refine Go.step (fun _ k => XS.iload W.here W.hx rfl (W.d dss_93) rfl k) ?_
    show Go _ _ _ _ _ _ _ _ _ _ (mkF m 95 #[.val (.long x0), .second, .val (.long y0), .second, .val (.int k0), .val (.int bx), .val (.int bz), .val (.int (min2 (bx &&& (3 : Int32)))), .val (.int (min2 (bz &&& (3 : Int32)))), .val (.int (((bx.toUInt32 >>> ((2 : Int32) &&& 31).toUInt32).toInt32) &&& (255 : Int32))), .val (.int (((bz.toUInt32 >>> ((2 : Int32) &&& 31).toUInt32).toInt32) &&& (255 : Int32))), .val (.int (((bx.toUInt32 >>> ((10 : Int32) &&& 31).toUInt32).toInt32) &&& (255 : Int32))), .val (.int (((bz.toUInt32 >>> ((10 : Int32) &&& 31).toUInt32).toInt32) &&& (255 : Int32)))] [(.int (min2 (bx &&& (3 : Int32))))])
    by_cases hc2 : (min2 (bx &&& (3 : Int32))) = (0 : Int32)
    · refine Go.step (fun _ k => XS.ifNo W.here W.hx rfl (W.d dss_95) rfl ((if0 _ _).trans (teq hc2).2) k) ?_
      show Go _ _ _ _ _ _ _ _ _ _ (mkF m 98 #[.val (.long x0), .second, .val (.long y0), .second, .val (.int k0), .val (.int bx), .val (.int bz), .val (.int (min2 (bx &&& (3 : Int32)))), .val (.int (min2 (bz &&& (3 : Int32)))), .val (.int (((bx.toUInt32 >>> ((2 : Int32) &&& 31).toUInt32).toInt32) &&& (255 : Int32))), .val (.int (((bz.toUInt32 >>> ((2 : Int32) &&& 31).toUInt32).toInt32) &&& (255 : Int32))), .val (.int (((bx.toUInt32 >>> ((10 : Int32) &&& 31).toUInt32).toInt32) &&& (255 : Int32))), .val (.int (((bz.toUInt32 >>> ((10 : Int32) &&& 31).toUInt32).toInt32) &&& (255 : Int32)))] [])
      refine Go.step (fun _ k => XS.iconst W.here W.hx rfl (W.d dss_98) k) ?_
      show Go _ _ _ _ _ _ _ _ _ _ (mkF m 99 #[.val (.long x0), .second, .val (.long y0), .second, .val (.int k0), .val (.int bx), .val (.int bz), .val (.int (min2 (bx &&& (3 : Int32)))), .val (.int (min2 (bz &&& (3 : Int32)))), .val (.int (((bx.toUInt32 >>> ((2 : Int32) &&& 31).toUInt32).toInt32) &&& (255 : Int32))), .val (.int (((bz.toUInt32 >>> ((2 : Int32) &&& 31).toUInt32).toInt32) &&& (255 : Int32))), .val (.int (((bx.toUInt32 >>> ((10 : Int32) &&& 31).toUInt32).toInt32) &&& (255 : Int32))), .val (.int (((bz.toUInt32 >>> ((10 : Int32) &&& 31).toUInt32).toInt32) &&& (255 : Int32)))] [(.int (1 : Int32))])
      have hT : txt x0 k0 = txt y0 k0 := by rw [txt, txt, show bitsOf x0 k0 = bx from hbx, show bitsOf y0 k0 = bz from hbz]; exact (same_txt bx bz).mpr ⟨by assumption, by first | exact Or.inl (by assumption) | exact Or.inr (by assumption), by first | exact Or.inl (Or.inl (by assumption)) | exact Or.inl (Or.inr (by assumption)) | exact Or.inr (by assumption)⟩
      exact W.retN (by simp) dss_99 (⟨Or.inl ⟨rfl, hT⟩, rfl⟩) (by decide) (by decide)
    · refine Go.step (fun _ k => XS.ifYes W.here W.hx rfl (pc0 := 95) (pc' := 100) rfl (W.d dss_95) rfl ((if0 _ _).trans (feq hc2).2) (by decide) (by decide) k) ?_
      show Go _ _ _ _ _ _ _ _ _ _ (mkF m 100 #[.val (.long x0), .second, .val (.long y0), .second, .val (.int k0), .val (.int bx), .val (.int bz), .val (.int (min2 (bx &&& (3 : Int32)))), .val (.int (min2 (bz &&& (3 : Int32)))), .val (.int (((bx.toUInt32 >>> ((2 : Int32) &&& 31).toUInt32).toInt32) &&& (255 : Int32))), .val (.int (((bz.toUInt32 >>> ((2 : Int32) &&& 31).toUInt32).toInt32) &&& (255 : Int32))), .val (.int (((bx.toUInt32 >>> ((10 : Int32) &&& 31).toUInt32).toInt32) &&& (255 : Int32))), .val (.int (((bz.toUInt32 >>> ((10 : Int32) &&& 31).toUInt32).toInt32) &&& (255 : Int32)))] [])
      refine Go.step (fun _ k => XS.iload W.here W.hx rfl (W.d dss_100) rfl k) ?_
      show Go _ _ _ _ _ _ _ _ _ _ (mkF m 102 #[.val (.long x0), .second, .val (.long y0), .second, .val (.int k0), .val (.int bx), .val (.int bz), .val (.int (min2 (bx &&& (3 : Int32)))), .val (.int (min2 (bz &&& (3 : Int32)))), .val (.int (((bx.toUInt32 >>> ((2 : Int32) &&& 31).toUInt32).toInt32) &&& (255 : Int32))), .val (.int (((bz.toUInt32 >>> ((2 : Int32) &&& 31).toUInt32).toInt32) &&& (255 : Int32))), .val (.int (((bx.toUInt32 >>> ((10 : Int32) &&& 31).toUInt32).toInt32) &&& (255 : Int32))), .val (.int (((bz.toUInt32 >>> ((10 : Int32) &&& 31).toUInt32).toInt32) &&& (255 : Int32)))] [(.int (min2 (bx &&& (3 : Int32))))])
      refine Go.step (fun _ k => XS.iconst W.here W.hx rfl (W.d dss_102) k) ?_
      show Go _ _ _ _ _ _ _ _ _ _ (mkF m 103 #[.val (.long x0), .second, .val (.long y0), .second, .val (.int k0), .val (.int bx), .val (.int bz), .val (.int (min2 (bx &&& (3 : Int32)))), .val (.int (min2 (bz &&& (3 : Int32)))), .val (.int (((bx.toUInt32 >>> ((2 : Int32) &&& 31).toUInt32).toInt32) &&& (255 : Int32))), .val (.int (((bz.toUInt32 >>> ((2 : Int32) &&& 31).toUInt32).toInt32) &&& (255 : Int32))), .val (.int (((bx.toUInt32 >>> ((10 : Int32) &&& 31).toUInt32).toInt32) &&& (255 : Int32))), .val (.int (((bz.toUInt32 >>> ((10 : Int32) &&& 31).toUInt32).toInt32) &&& (255 : Int32)))] [(.int (1 : Int32)), (.int (min2 (bx &&& (3 : Int32))))])
      by_cases hc3 : (min2 (bx &&& (3 : Int32))) = (1 : Int32)
      · refine Go.step (fun _ k => XS.icmpNo W.here W.hx rfl (W.d dss_103) rfl (teq hc3).2 k) ?_
        show Go _ _ _ _ _ _ _ _ _ _ (mkF m 106 #[.val (.long x0), .second, .val (.long y0), .second, .val (.int k0), .val (.int bx), .val (.int bz), .val (.int (min2 (bx &&& (3 : Int32)))), .val (.int (min2 (bz &&& (3 : Int32)))), .val (.int (((bx.toUInt32 >>> ((2 : Int32) &&& 31).toUInt32).toInt32) &&& (255 : Int32))), .val (.int (((bz.toUInt32 >>> ((2 : Int32) &&& 31).toUInt32).toInt32) &&& (255 : Int32))), .val (.int (((bx.toUInt32 >>> ((10 : Int32) &&& 31).toUInt32).toInt32) &&& (255 : Int32))), .val (.int (((bz.toUInt32 >>> ((10 : Int32) &&& 31).toUInt32).toInt32) &&& (255 : Int32)))] [])
        refine Go.step (fun _ k => XS.iload W.here W.hx rfl (W.d dss_106) rfl k) ?_
        show Go _ _ _ _ _ _ _ _ _ _ (mkF m 108 #[.val (.long x0), .second, .val (.long y0), .second, .val (.int k0), .val (.int bx), .val (.int bz), .val (.int (min2 (bx &&& (3 : Int32)))), .val (.int (min2 (bz &&& (3 : Int32)))), .val (.int (((bx.toUInt32 >>> ((2 : Int32) &&& 31).toUInt32).toInt32) &&& (255 : Int32))), .val (.int (((bz.toUInt32 >>> ((2 : Int32) &&& 31).toUInt32).toInt32) &&& (255 : Int32))), .val (.int (((bx.toUInt32 >>> ((10 : Int32) &&& 31).toUInt32).toInt32) &&& (255 : Int32))), .val (.int (((bz.toUInt32 >>> ((10 : Int32) &&& 31).toUInt32).toInt32) &&& (255 : Int32)))] [(.int (((bx.toUInt32 >>> ((2 : Int32) &&& 31).toUInt32).toInt32) &&& (255 : Int32)))])
        refine Go.step (fun _ k => XS.iload W.here W.hx rfl (W.d dss_108) rfl k) ?_
        show Go _ _ _ _ _ _ _ _ _ _ (mkF m 110 #[.val (.long x0), .second, .val (.long y0), .second, .val (.int k0), .val (.int bx), .val (.int bz), .val (.int (min2 (bx &&& (3 : Int32)))), .val (.int (min2 (bz &&& (3 : Int32)))), .val (.int (((bx.toUInt32 >>> ((2 : Int32) &&& 31).toUInt32).toInt32) &&& (255 : Int32))), .val (.int (((bz.toUInt32 >>> ((2 : Int32) &&& 31).toUInt32).toInt32) &&& (255 : Int32))), .val (.int (((bx.toUInt32 >>> ((10 : Int32) &&& 31).toUInt32).toInt32) &&& (255 : Int32))), .val (.int (((bz.toUInt32 >>> ((10 : Int32) &&& 31).toUInt32).toInt32) &&& (255 : Int32)))] [(.int (((bz.toUInt32 >>> ((2 : Int32) &&& 31).toUInt32).toInt32) &&& (255 : Int32))), (.int (((bx.toUInt32 >>> ((2 : Int32) &&& 31).toUInt32).toInt32) &&& (255 : Int32)))])
        by_cases hc4 : (((bx.toUInt32 >>> ((2 : Int32) &&& 31).toUInt32).toInt32) &&& (255 : Int32)) = (((bz.toUInt32 >>> ((2 : Int32) &&& 31).toUInt32).toInt32) &&& (255 : Int32))
        · refine Go.step (fun _ k => XS.icmpNo W.here W.hx rfl (W.d dss_110) rfl (teq hc4).2 k) ?_
          show Go _ _ _ _ _ _ _ _ _ _ (mkF m 113 #[.val (.long x0), .second, .val (.long y0), .second, .val (.int k0), .val (.int bx), .val (.int bz), .val (.int (min2 (bx &&& (3 : Int32)))), .val (.int (min2 (bz &&& (3 : Int32)))), .val (.int (((bx.toUInt32 >>> ((2 : Int32) &&& 31).toUInt32).toInt32) &&& (255 : Int32))), .val (.int (((bz.toUInt32 >>> ((2 : Int32) &&& 31).toUInt32).toInt32) &&& (255 : Int32))), .val (.int (((bx.toUInt32 >>> ((10 : Int32) &&& 31).toUInt32).toInt32) &&& (255 : Int32))), .val (.int (((bz.toUInt32 >>> ((10 : Int32) &&& 31).toUInt32).toInt32) &&& (255 : Int32)))] [])
          refine Go.step (fun _ k => XS.iconst W.here W.hx rfl (W.d dss_113) k) ?_
          show Go _ _ _ _ _ _ _ _ _ _ (mkF m 114 #[.val (.long x0), .second, .val (.long y0), .second, .val (.int k0), .val (.int bx), .val (.int bz), .val (.int (min2 (bx &&& (3 : Int32)))), .val (.int (min2 (bz &&& (3 : Int32)))), .val (.int (((bx.toUInt32 >>> ((2 : Int32) &&& 31).toUInt32).toInt32) &&& (255 : Int32))), .val (.int (((bz.toUInt32 >>> ((2 : Int32) &&& 31).toUInt32).toInt32) &&& (255 : Int32))), .val (.int (((bx.toUInt32 >>> ((10 : Int32) &&& 31).toUInt32).toInt32) &&& (255 : Int32))), .val (.int (((bz.toUInt32 >>> ((10 : Int32) &&& 31).toUInt32).toInt32) &&& (255 : Int32)))] [(.int (1 : Int32))])
          refine Go.step (fun _ k => XS.goto W.here W.hx rfl (pc0 := 114) (pc' := 118) rfl (W.d dss_114) (by decide) (by decide) k) ?_
          show Go _ _ _ _ _ _ _ _ _ _ (mkF m 118 #[.val (.long x0), .second, .val (.long y0), .second, .val (.int k0), .val (.int bx), .val (.int bz), .val (.int (min2 (bx &&& (3 : Int32)))), .val (.int (min2 (bz &&& (3 : Int32)))), .val (.int (((bx.toUInt32 >>> ((2 : Int32) &&& 31).toUInt32).toInt32) &&& (255 : Int32))), .val (.int (((bz.toUInt32 >>> ((2 : Int32) &&& 31).toUInt32).toInt32) &&& (255 : Int32))), .val (.int (((bx.toUInt32 >>> ((10 : Int32) &&& 31).toUInt32).toInt32) &&& (255 : Int32))), .val (.int (((bz.toUInt32 >>> ((10 : Int32) &&& 31).toUInt32).toInt32) &&& (255 : Int32)))] [(.int (1 : Int32))])
          have hT : txt x0 k0 = txt y0 k0 := by rw [txt, txt, show bitsOf x0 k0 = bx from hbx, show bitsOf y0 k0 = bz from hbz]; exact (same_txt bx bz).mpr ⟨by assumption, by first | exact Or.inl (by assumption) | exact Or.inr (by assumption), by first | exact Or.inl (Or.inl (by assumption)) | exact Or.inl (Or.inr (by assumption)) | exact Or.inr (by assumption)⟩
          exact W.retN (by simp) dss_118 (⟨Or.inl ⟨rfl, hT⟩, rfl⟩) (by decide) (by decide)
        · refine Go.step (fun _ k => XS.icmpYes W.here W.hx rfl (pc0 := 110) (pc' := 117) rfl (W.d dss_110) rfl (feq hc4).2 (by decide) (by decide) k) ?_
          show Go _ _ _ _ _ _ _ _ _ _ (mkF m 117 #[.val (.long x0), .second, .val (.long y0), .second, .val (.int k0), .val (.int bx), .val (.int bz), .val (.int (min2 (bx &&& (3 : Int32)))), .val (.int (min2 (bz &&& (3 : Int32)))), .val (.int (((bx.toUInt32 >>> ((2 : Int32) &&& 31).toUInt32).toInt32) &&& (255 : Int32))), .val (.int (((bz.toUInt32 >>> ((2 : Int32) &&& 31).toUInt32).toInt32) &&& (255 : Int32))), .val (.int (((bx.toUInt32 >>> ((10 : Int32) &&& 31).toUInt32).toInt32) &&& (255 : Int32))), .val (.int (((bz.toUInt32 >>> ((10 : Int32) &&& 31).toUInt32).toInt32) &&& (255 : Int32)))] [])
          refine Go.step (fun _ k => XS.iconst W.here W.hx rfl (W.d dss_117) k) ?_
          show Go _ _ _ _ _ _ _ _ _ _ (mkF m 118 #[.val (.long x0), .second, .val (.long y0), .second, .val (.int k0), .val (.int bx), .val (.int bz), .val (.int (min2 (bx &&& (3 : Int32)))), .val (.int (min2 (bz &&& (3 : Int32)))), .val (.int (((bx.toUInt32 >>> ((2 : Int32) &&& 31).toUInt32).toInt32) &&& (255 : Int32))), .val (.int (((bz.toUInt32 >>> ((2 : Int32) &&& 31).toUInt32).toInt32) &&& (255 : Int32))), .val (.int (((bx.toUInt32 >>> ((10 : Int32) &&& 31).toUInt32).toInt32) &&& (255 : Int32))), .val (.int (((bz.toUInt32 >>> ((10 : Int32) &&& 31).toUInt32).toInt32) &&& (255 : Int32)))] [(.int (0 : Int32))])
          have hT : ¬ (txt x0 k0 = txt y0 k0) := by rw [txt, txt, show bitsOf x0 k0 = bx from hbx, show bitsOf y0 k0 = bz from hbz]; exact fun q => by obtain ⟨q1, q2, q3⟩ := (same_txt bx bz).mp q; first | exact absurd q1 (by assumption) | exact q2.elim (by assumption) (by assumption) | exact q3.elim (fun r => r.elim (by assumption) (by assumption)) (by assumption)
          exact W.retN (by simp) dss_118 (⟨Or.inr ⟨rfl, hT⟩, rfl⟩) (by decide) (by decide)
      · refine Go.step (fun _ k => XS.icmpYes W.here W.hx rfl (pc0 := 103) (pc' := 119) rfl (W.d dss_103) rfl (feq hc3).2 (by decide) (by decide) k) ?_
        show Go _ _ _ _ _ _ _ _ _ _ (mkF m 119 #[.val (.long x0), .second, .val (.long y0), .second, .val (.int k0), .val (.int bx), .val (.int bz), .val (.int (min2 (bx &&& (3 : Int32)))), .val (.int (min2 (bz &&& (3 : Int32)))), .val (.int (((bx.toUInt32 >>> ((2 : Int32) &&& 31).toUInt32).toInt32) &&& (255 : Int32))), .val (.int (((bz.toUInt32 >>> ((2 : Int32) &&& 31).toUInt32).toInt32) &&& (255 : Int32))), .val (.int (((bx.toUInt32 >>> ((10 : Int32) &&& 31).toUInt32).toInt32) &&& (255 : Int32))), .val (.int (((bz.toUInt32 >>> ((10 : Int32) &&& 31).toUInt32).toInt32) &&& (255 : Int32)))] [])
        refine Go.step (fun _ k => XS.iload W.here W.hx rfl (W.d dss_119) rfl k) ?_
        show Go _ _ _ _ _ _ _ _ _ _ (mkF m 121 #[.val (.long x0), .second, .val (.long y0), .second, .val (.int k0), .val (.int bx), .val (.int bz), .val (.int (min2 (bx &&& (3 : Int32)))), .val (.int (min2 (bz &&& (3 : Int32)))), .val (.int (((bx.toUInt32 >>> ((2 : Int32) &&& 31).toUInt32).toInt32) &&& (255 : Int32))), .val (.int (((bz.toUInt32 >>> ((2 : Int32) &&& 31).toUInt32).toInt32) &&& (255 : Int32))), .val (.int (((bx.toUInt32 >>> ((10 : Int32) &&& 31).toUInt32).toInt32) &&& (255 : Int32))), .val (.int (((bz.toUInt32 >>> ((10 : Int32) &&& 31).toUInt32).toInt32) &&& (255 : Int32)))] [(.int (((bx.toUInt32 >>> ((2 : Int32) &&& 31).toUInt32).toInt32) &&& (255 : Int32)))])
        refine Go.step (fun _ k => XS.iload W.here W.hx rfl (W.d dss_121) rfl k) ?_
        show Go _ _ _ _ _ _ _ _ _ _ (mkF m 123 #[.val (.long x0), .second, .val (.long y0), .second, .val (.int k0), .val (.int bx), .val (.int bz), .val (.int (min2 (bx &&& (3 : Int32)))), .val (.int (min2 (bz &&& (3 : Int32)))), .val (.int (((bx.toUInt32 >>> ((2 : Int32) &&& 31).toUInt32).toInt32) &&& (255 : Int32))), .val (.int (((bz.toUInt32 >>> ((2 : Int32) &&& 31).toUInt32).toInt32) &&& (255 : Int32))), .val (.int (((bx.toUInt32 >>> ((10 : Int32) &&& 31).toUInt32).toInt32) &&& (255 : Int32))), .val (.int (((bz.toUInt32 >>> ((10 : Int32) &&& 31).toUInt32).toInt32) &&& (255 : Int32)))] [(.int (((bz.toUInt32 >>> ((2 : Int32) &&& 31).toUInt32).toInt32) &&& (255 : Int32))), (.int (((bx.toUInt32 >>> ((2 : Int32) &&& 31).toUInt32).toInt32) &&& (255 : Int32)))])
        by_cases hc5 : (((bx.toUInt32 >>> ((2 : Int32) &&& 31).toUInt32).toInt32) &&& (255 : Int32)) = (((bz.toUInt32 >>> ((2 : Int32) &&& 31).toUInt32).toInt32) &&& (255 : Int32))
        · refine Go.step (fun _ k => XS.icmpNo W.here W.hx rfl (W.d dss_123) rfl (teq hc5).2 k) ?_
          show Go _ _ _ _ _ _ _ _ _ _ (mkF m 126 #[.val (.long x0), .second, .val (.long y0), .second, .val (.int k0), .val (.int bx), .val (.int bz), .val (.int (min2 (bx &&& (3 : Int32)))), .val (.int (min2 (bz &&& (3 : Int32)))), .val (.int (((bx.toUInt32 >>> ((2 : Int32) &&& 31).toUInt32).toInt32) &&& (255 : Int32))), .val (.int (((bz.toUInt32 >>> ((2 : Int32) &&& 31).toUInt32).toInt32) &&& (255 : Int32))), .val (.int (((bx.toUInt32 >>> ((10 : Int32) &&& 31).toUInt32).toInt32) &&& (255 : Int32))), .val (.int (((bz.toUInt32 >>> ((10 : Int32) &&& 31).toUInt32).toInt32) &&& (255 : Int32)))] [])
          refine Go.step (fun _ k => XS.iload W.here W.hx rfl (W.d dss_126) rfl k) ?_
          show Go _ _ _ _ _ _ _ _ _ _ (mkF m 128 #[.val (.long x0), .second, .val (.long y0), .second, .val (.int k0), .val (.int bx), .val (.int bz), .val (.int (min2 (bx &&& (3 : Int32)))), .val (.int (min2 (bz &&& (3 : Int32)))), .val (.int (((bx.toUInt32 >>> ((2 : Int32) &&& 31).toUInt32).toInt32) &&& (255 : Int32))), .val (.int (((bz.toUInt32 >>> ((2 : Int32) &&& 31).toUInt32).toInt32) &&& (255 : Int32))), .val (.int (((bx.toUInt32 >>> ((10 : Int32) &&& 31).toUInt32).toInt32) &&& (255 : Int32))), .val (.int (((bz.toUInt32 >>> ((10 : Int32) &&& 31).toUInt32).toInt32) &&& (255 : Int32)))] [(.int (((bx.toUInt32 >>> ((10 : Int32) &&& 31).toUInt32).toInt32) &&& (255 : Int32)))])
          refine Go.step (fun _ k => XS.iload W.here W.hx rfl (W.d dss_128) rfl k) ?_
          show Go _ _ _ _ _ _ _ _ _ _ (mkF m 130 #[.val (.long x0), .second, .val (.long y0), .second, .val (.int k0), .val (.int bx), .val (.int bz), .val (.int (min2 (bx &&& (3 : Int32)))), .val (.int (min2 (bz &&& (3 : Int32)))), .val (.int (((bx.toUInt32 >>> ((2 : Int32) &&& 31).toUInt32).toInt32) &&& (255 : Int32))), .val (.int (((bz.toUInt32 >>> ((2 : Int32) &&& 31).toUInt32).toInt32) &&& (255 : Int32))), .val (.int (((bx.toUInt32 >>> ((10 : Int32) &&& 31).toUInt32).toInt32) &&& (255 : Int32))), .val (.int (((bz.toUInt32 >>> ((10 : Int32) &&& 31).toUInt32).toInt32) &&& (255 : Int32)))] [(.int (((bz.toUInt32 >>> ((10 : Int32) &&& 31).toUInt32).toInt32) &&& (255 : Int32))), (.int (((bx.toUInt32 >>> ((10 : Int32) &&& 31).toUInt32).toInt32) &&& (255 : Int32)))])
          by_cases hc6 : (((bx.toUInt32 >>> ((10 : Int32) &&& 31).toUInt32).toInt32) &&& (255 : Int32)) = (((bz.toUInt32 >>> ((10 : Int32) &&& 31).toUInt32).toInt32) &&& (255 : Int32))
          · refine Go.step (fun _ k => XS.icmpNo W.here W.hx rfl (W.d dss_130) rfl (teq hc6).2 k) ?_
            show Go _ _ _ _ _ _ _ _ _ _ (mkF m 133 #[.val (.long x0), .second, .val (.long y0), .second, .val (.int k0), .val (.int bx), .val (.int bz), .val (.int (min2 (bx &&& (3 : Int32)))), .val (.int (min2 (bz &&& (3 : Int32)))), .val (.int (((bx.toUInt32 >>> ((2 : Int32) &&& 31).toUInt32).toInt32) &&& (255 : Int32))), .val (.int (((bz.toUInt32 >>> ((2 : Int32) &&& 31).toUInt32).toInt32) &&& (255 : Int32))), .val (.int (((bx.toUInt32 >>> ((10 : Int32) &&& 31).toUInt32).toInt32) &&& (255 : Int32))), .val (.int (((bz.toUInt32 >>> ((10 : Int32) &&& 31).toUInt32).toInt32) &&& (255 : Int32)))] [])
            refine Go.step (fun _ k => XS.iconst W.here W.hx rfl (W.d dss_133) k) ?_
            show Go _ _ _ _ _ _ _ _ _ _ (mkF m 134 #[.val (.long x0), .second, .val (.long y0), .second, .val (.int k0), .val (.int bx), .val (.int bz), .val (.int (min2 (bx &&& (3 : Int32)))), .val (.int (min2 (bz &&& (3 : Int32)))), .val (.int (((bx.toUInt32 >>> ((2 : Int32) &&& 31).toUInt32).toInt32) &&& (255 : Int32))), .val (.int (((bz.toUInt32 >>> ((2 : Int32) &&& 31).toUInt32).toInt32) &&& (255 : Int32))), .val (.int (((bx.toUInt32 >>> ((10 : Int32) &&& 31).toUInt32).toInt32) &&& (255 : Int32))), .val (.int (((bz.toUInt32 >>> ((10 : Int32) &&& 31).toUInt32).toInt32) &&& (255 : Int32)))] [(.int (1 : Int32))])
            refine Go.step (fun _ k => XS.goto W.here W.hx rfl (pc0 := 134) (pc' := 138) rfl (W.d dss_134) (by decide) (by decide) k) ?_
            show Go _ _ _ _ _ _ _ _ _ _ (mkF m 138 #[.val (.long x0), .second, .val (.long y0), .second, .val (.int k0), .val (.int bx), .val (.int bz), .val (.int (min2 (bx &&& (3 : Int32)))), .val (.int (min2 (bz &&& (3 : Int32)))), .val (.int (((bx.toUInt32 >>> ((2 : Int32) &&& 31).toUInt32).toInt32) &&& (255 : Int32))), .val (.int (((bz.toUInt32 >>> ((2 : Int32) &&& 31).toUInt32).toInt32) &&& (255 : Int32))), .val (.int (((bx.toUInt32 >>> ((10 : Int32) &&& 31).toUInt32).toInt32) &&& (255 : Int32))), .val (.int (((bz.toUInt32 >>> ((10 : Int32) &&& 31).toUInt32).toInt32) &&& (255 : Int32)))] [(.int (1 : Int32))])
            have hT : txt x0 k0 = txt y0 k0 := by rw [txt, txt, show bitsOf x0 k0 = bx from hbx, show bitsOf y0 k0 = bz from hbz]; exact (same_txt bx bz).mpr ⟨by assumption, by first | exact Or.inl (by assumption) | exact Or.inr (by assumption), by first | exact Or.inl (Or.inl (by assumption)) | exact Or.inl (Or.inr (by assumption)) | exact Or.inr (by assumption)⟩
            exact W.retN (by simp) dss_138 (⟨Or.inl ⟨rfl, hT⟩, rfl⟩) (by decide) (by decide)
          · refine Go.step (fun _ k => XS.icmpYes W.here W.hx rfl (pc0 := 130) (pc' := 137) rfl (W.d dss_130) rfl (feq hc6).2 (by decide) (by decide) k) ?_
            show Go _ _ _ _ _ _ _ _ _ _ (mkF m 137 #[.val (.long x0), .second, .val (.long y0), .second, .val (.int k0), .val (.int bx), .val (.int bz), .val (.int (min2 (bx &&& (3 : Int32)))), .val (.int (min2 (bz &&& (3 : Int32)))), .val (.int (((bx.toUInt32 >>> ((2 : Int32) &&& 31).toUInt32).toInt32) &&& (255 : Int32))), .val (.int (((bz.toUInt32 >>> ((2 : Int32) &&& 31).toUInt32).toInt32) &&& (255 : Int32))), .val (.int (((bx.toUInt32 >>> ((10 : Int32) &&& 31).toUInt32).toInt32) &&& (255 : Int32))), .val (.int (((bz.toUInt32 >>> ((10 : Int32) &&& 31).toUInt32).toInt32) &&& (255 : Int32)))] [])
            refine Go.step (fun _ k => XS.iconst W.here W.hx rfl (W.d dss_137) k) ?_
            show Go _ _ _ _ _ _ _ _ _ _ (mkF m 138 #[.val (.long x0), .second, .val (.long y0), .second, .val (.int k0), .val (.int bx), .val (.int bz), .val (.int (min2 (bx &&& (3 : Int32)))), .val (.int (min2 (bz &&& (3 : Int32)))), .val (.int (((bx.toUInt32 >>> ((2 : Int32) &&& 31).toUInt32).toInt32) &&& (255 : Int32))), .val (.int (((bz.toUInt32 >>> ((2 : Int32) &&& 31).toUInt32).toInt32) &&& (255 : Int32))), .val (.int (((bx.toUInt32 >>> ((10 : Int32) &&& 31).toUInt32).toInt32) &&& (255 : Int32))), .val (.int (((bz.toUInt32 >>> ((10 : Int32) &&& 31).toUInt32).toInt32) &&& (255 : Int32)))] [(.int (0 : Int32))])
            have hT : ¬ (txt x0 k0 = txt y0 k0) := by rw [txt, txt, show bitsOf x0 k0 = bx from hbx, show bitsOf y0 k0 = bz from hbz]; exact fun q => by obtain ⟨q1, q2, q3⟩ := (same_txt bx bz).mp q; first | exact absurd q1 (by assumption) | exact q2.elim (by assumption) (by assumption) | exact q3.elim (fun r => r.elim (by assumption) (by assumption)) (by assumption)
            exact W.retN (by simp) dss_138 (⟨Or.inr ⟨rfl, hT⟩, rfl⟩) (by decide) (by decide)
        · refine Go.step (fun _ k => XS.icmpYes W.here W.hx rfl (pc0 := 123) (pc' := 137) rfl (W.d dss_123) rfl (feq hc5).2 (by decide) (by decide) k) ?_
          show Go _ _ _ _ _ _ _ _ _ _ (mkF m 137 #[.val (.long x0), .second, .val (.long y0), .second, .val (.int k0), .val (.int bx), .val (.int bz), .val (.int (min2 (bx &&& (3 : Int32)))), .val (.int (min2 (bz &&& (3 : Int32)))), .val (.int (((bx.toUInt32 >>> ((2 : Int32) &&& 31).toUInt32).toInt32) &&& (255 : Int32))), .val (.int (((bz.toUInt32 >>> ((2 : Int32) &&& 31).toUInt32).toInt32) &&& (255 : Int32))), .val (.int (((bx.toUInt32 >>> ((10 : Int32) &&& 31).toUInt32).toInt32) &&& (255 : Int32))), .val (.int (((bz.toUInt32 >>> ((10 : Int32) &&& 31).toUInt32).toInt32) &&& (255 : Int32)))] [])
          refine Go.step (fun _ k => XS.iconst W.here W.hx rfl (W.d dss_137) k) ?_
          show Go _ _ _ _ _ _ _ _ _ _ (mkF m 138 #[.val (.long x0), .second, .val (.long y0), .second, .val (.int k0), .val (.int bx), .val (.int bz), .val (.int (min2 (bx &&& (3 : Int32)))), .val (.int (min2 (bz &&& (3 : Int32)))), .val (.int (((bx.toUInt32 >>> ((2 : Int32) &&& 31).toUInt32).toInt32) &&& (255 : Int32))), .val (.int (((bz.toUInt32 >>> ((2 : Int32) &&& 31).toUInt32).toInt32) &&& (255 : Int32))), .val (.int (((bx.toUInt32 >>> ((10 : Int32) &&& 31).toUInt32).toInt32) &&& (255 : Int32))), .val (.int (((bz.toUInt32 >>> ((10 : Int32) &&& 31).toUInt32).toInt32) &&& (255 : Int32)))] [(.int (0 : Int32))])
          have hT : ¬ (txt x0 k0 = txt y0 k0) := by rw [txt, txt, show bitsOf x0 k0 = bx from hbx, show bitsOf y0 k0 = bz from hbz]; exact fun q => by obtain ⟨q1, q2, q3⟩ := (same_txt bx bz).mp q; first | exact absurd q1 (by assumption) | exact q2.elim (by assumption) (by assumption) | exact q3.elim (fun r => r.elim (by assumption) (by assumption)) (by assumption)
          exact W.retN (by simp) dss_138 (⟨Or.inr ⟨rfl, hT⟩, rfl⟩) (by decide) (by decide)
  · refine Go.step (fun _ k => XS.icmpNo W.here W.hx rfl (W.d dss_46) rfl (feq hc1).1 k) ?_
    show Go _ _ _ _ _ _ _ _ _ _ (mkF m 49 #[.val (.long x0), .second, .val (.long y0), .second, .val (.int k0), .val (.int bx), .val (.int bz), .val (.int (min2 (bx &&& (3 : Int32)))), .val (.int (min2 (bz &&& (3 : Int32)))), .unset, .unset, .unset, .unset] [])
    refine Go.step (fun _ k => XS.iconst W.here W.hx rfl (W.d dss_49) k) ?_
    show Go _ _ _ _ _ _ _ _ _ _ (mkF m 50 #[.val (.long x0), .second, .val (.long y0), .second, .val (.int k0), .val (.int bx), .val (.int bz), .val (.int (min2 (bx &&& (3 : Int32)))), .val (.int (min2 (bz &&& (3 : Int32)))), .unset, .unset, .unset, .unset] [(.int (0 : Int32))])
    have hT : ¬ (txt x0 k0 = txt y0 k0) := by rw [txt, txt, show bitsOf x0 k0 = bx from hbx, show bitsOf y0 k0 = bz from hbz]; exact fun q => by obtain ⟨q1, q2, q3⟩ := (same_txt bx bz).mp q; first | exact absurd q1 (by assumption) | exact q2.elim (by assumption) (by assumption) | exact q3.elim (fun r => r.elim (by assumption) (by assumption)) (by assumption)
    exact W.retN (by simp) dss_50 (⟨Or.inr ⟨rfl, hT⟩, rfl⟩) (by decide) (by decide)

theorem deq1_0 : decode prog_16_method_7_code 0 = .ok (.aload_n 1, 1) := by decide +kernel
theorem deq1_1 : decode prog_16_method_7_code 1 = .ok (.instanceof 8, 3) := by decide +kernel
theorem deq1_4 : decode prog_16_method_7_code 4 = .ok (.ifCond .eq 76, 3) := by decide +kernel
theorem deq1_7 : decode prog_16_method_7_code 7 = .ok (.aload_n 1, 1) := by decide +kernel
theorem deq1_8 : decode prog_16_method_7_code 8 = .ok (.checkcast 8, 3) := by decide +kernel
theorem deq1_11 : decode prog_16_method_7_code 11 = .ok (.astore_n 2, 1) := by decide +kernel
theorem deq1_12 : decode prog_16_method_7_code 12 = .ok (.aload_n 0, 1) := by decide +kernel
theorem deq1_13 : decode prog_16_method_7_code 13 = .ok (.getfield 7, 3) := by decide +kernel
theorem deq1_16 : decode prog_16_method_7_code 16 = .ok (.aload_n 2, 1) := by decide +kernel
theorem deq1_17 : decode prog_16_method_7_code 17 = .ok (.getfield 7, 3) := by decide +kernel
theorem deq1_20 : decode prog_16_method_7_code 20 = .ok (.invokevirtual 26, 3) := by decide +kernel
theorem deq1_23 : decode prog_16_method_7_code 23 = .ok (.ifCond .eq 57, 3) := by decide +kernel
theorem deq1_26 : decode prog_16_method_7_code 26 = .ok (.aload_n 0, 1) := by decide +kernel
theorem deq1_27 : decode prog_16_method_7_code 27 = .ok (.getfield 13, 3) := by decide +kernel
theorem deq1_30 : decode prog_16_method_7_code 30 = .ok (.aload_n 2, 1) := by decide +kernel
theorem deq1_31 : decode prog_16_method_7_code 31 = .ok (.getfield 13, 3) := by decide +kernel
theorem deq1_34 : decode prog_16_method_7_code 34 = .ok (.invokevirtual 26, 3) := by decide +kernel
theorem deq1_37 : decode prog_16_method_7_code 37 = .ok (.ifCond .eq 43, 3) := by decide +kernel
theorem deq1_40 : decode prog_16_method_7_code 40 = .ok (.aload_n 0, 1) := by decide +kernel
theorem deq1_41 : decode prog_16_method_7_code 41 = .ok (.getfield 16, 3) := by decide +kernel
theorem deq1_44 : decode prog_16_method_7_code 44 = .ok (.aload_n 2, 1) := by decide +kernel
theorem deq1_45 : decode prog_16_method_7_code 45 = .ok (.getfield 16, 3) := by decide +kernel
theorem deq1_48 : decode prog_16_method_7_code 48 = .ok (.invokevirtual 26, 3) := by decide +kernel
theorem deq1_51 : decode prog_16_method_7_code 51 = .ok (.ifCond .eq 29, 3) := by decide +kernel
theorem deq1_54 : decode prog_16_method_7_code 54 = .ok (.aload_n 0, 1) := by decide +kernel
theorem deq1_55 : decode prog_16_method_7_code 55 = .ok (.getfield 19, 3) := by decide +kernel
theorem deq1_58 : decode prog_16_method_7_code 58 = .ok (.aload_n 2, 1) := by decide +kernel
theorem deq1_59 : decode prog_16_method_7_code 59 = .ok (.getfield 19, 3) := by decide +kernel
theorem deq1_62 : decode prog_16_method_7_code 62 = .ok (.if_icmp .ne 18, 3) := by decide +kernel
theorem deq1_65 : decode prog_16_method_7_code 65 = .ok (.aload_n 0, 1) := by decide +kernel
theorem deq1_66 : decode prog_16_method_7_code 66 = .ok (.getfield 23, 3) := by decide +kernel
theorem deq1_69 : decode prog_16_method_7_code 69 = .ok (.aload_n 2, 1) := by decide +kernel
theorem deq1_70 : decode prog_16_method_7_code 70 = .ok (.getfield 23, 3) := by decide +kernel
theorem deq1_73 : decode prog_16_method_7_code 73 = .ok (.if_icmp .ne 7, 3) := by decide +kernel
theorem deq1_76 : decode prog_16_method_7_code 76 = .ok (.iconst 1, 1) := by decide +kernel
theorem deq1_77 : decode prog_16_method_7_code 77 = .ok (.goto 4, 3) := by decide +kernel
theorem deq1_80 : decode prog_16_method_7_code 80 = .ok (.iconst 0, 1) := by decide +kernel
theorem deq1_81 : decode prog_16_method_7_code 81 = .ok (.ireturn, 1) := by decide +kernel
theorem efeq1 (m : MethodId) (x0 : Addr) (x1 : Addr) : entryFrame m #[(.ref x0), (.ref x1)] 3 = mkF m 0 #[.val (.ref x0), .val (.ref x1), .unset] [] := by first | (simp [entryFrame, mkF, argsToLocals, Value.category]; done) | rfl
set_option maxRecDepth 65536 in
set_option maxHeartbeats 40000000 in
theorem c_eq1 {l : Launch} {Z : State} {a0 : Array Value} {G1 : Int32} (X : Ctx Z a0 G1) (a b : Addr) (sa_word : Addr) (ca_word : List Int32) (sa_list : Addr) (ca_list : List Int32) (sa_label : Addr) (ca_label : List Int32) (ia_start : Int32) (ia_end : Int32) (sb_word : Addr) (cb_word : List Int32) (sb_list : Addr) (cb_list : List Int32) (sb_label : Addr) (cb_label : List Int32) (ib_start : Int32) (ib_end : Int32) (h0 : Heap) (hE : Ext Z.heap h0) (Aa : Exa Z h0 a "com/example/moderato/moderato/client/TextHit") (Fa_word : Fld Z h0 a "com/example/moderato/moderato/client/TextHit" "word" "Ljava/lang/String;" (.ref sa_word)) (Sa_word : Str Z h0 sa_word ca_word) (Fa_list : Fld Z h0 a "com/example/moderato/moderato/client/TextHit" "list" "Ljava/lang/String;" (.ref sa_list)) (Sa_list : Str Z h0 sa_list ca_list) (Fa_label : Fld Z h0 a "com/example/moderato/moderato/client/TextHit" "label" "Ljava/lang/String;" (.ref sa_label)) (Sa_label : Str Z h0 sa_label ca_label) (Fa_start : Fld Z h0 a "com/example/moderato/moderato/client/TextHit" "start" "I" (.int ia_start)) (Fa_end : Fld Z h0 a "com/example/moderato/moderato/client/TextHit" "end" "I" (.int ia_end)) (Ab : Exa Z h0 b "com/example/moderato/moderato/client/TextHit") (Fb_word : Fld Z h0 b "com/example/moderato/moderato/client/TextHit" "word" "Ljava/lang/String;" (.ref sb_word)) (Sb_word : Str Z h0 sb_word cb_word) (Fb_list : Fld Z h0 b "com/example/moderato/moderato/client/TextHit" "list" "Ljava/lang/String;" (.ref sb_list)) (Sb_list : Str Z h0 sb_list cb_list) (Fb_label : Fld Z h0 b "com/example/moderato/moderato/client/TextHit" "label" "Ljava/lang/String;" (.ref sb_label)) (Sb_label : Str Z h0 sb_label cb_label) (Fb_start : Fld Z h0 b "com/example/moderato/moderato/client/TextHit" "start" "I" (.int ib_start)) (Fb_end : Fld Z h0 b "com/example/moderato/moderato/client/TextHit" "end" "I" (.int ib_end)) (ne : a ≠ b) :
    Con l Z consts_1 (⟨"com/example/moderato/moderato/client/TextHit", "equals", "(Ljava/lang/Object;)Z"⟩ : MethodName) prog_16_method_7_code 3 (some .boolean) [] ({ frames := 2, cells := 0, slots := 0, locals := 28 } : Room) #[(.ref a), (.ref b)] h0 (fun v h => ((v = some (.int 1) ∧ (ca_word = cb_word ∧ ca_list = cb_list ∧ ca_label = cb_label ∧ ia_start = ib_start ∧ ia_end = ib_end)) ∨ (v = some (.int 0) ∧ ¬ (ca_word = cb_word ∧ ca_list = cb_list ∧ ca_label = cb_label ∧ ia_start = ib_start ∧ ia_end = ib_end))) ∧ h0 = h) := by
  refine Con.intro (plainFor_of_name pn_2) hE X.el ?_
  intro p e s m below meth c T W
  have hsz := W.size
  refine Go.cast (efeq1 m a b) ?_
  refine Go.step (fun _ k => XS.aloadN W.here W.hx rfl (W.d deq1_0) rfl rfl k) ?_
  show Go _ _ _ _ _ _ _ _ _ _ (mkF m 1 #[.val (.ref a), .val (.ref b), .unset] [(.ref b)])
  refine W.instY (X.w 68 rfl) (Ins.self Ab) deq1_1 ?_
  intro T W
  show Go _ _ _ _ _ _ _ _ _ _ (mkF m 4 #[.val (.ref a), .val (.ref b), .unset] [(.int (1 : Int32))])
  refine Go.step (fun _ k => XS.ifNo W.here W.hx rfl (W.d deq1_4) rfl ((if0 _ _).trans (feq (by decide : ¬ ((1 : Int32) = (0 : Int32)))).1) k) ?_
  show Go _ _ _ _ _ _ _ _ _ _ (mkF m 7 #[.val (.ref a), .val (.ref b), .unset] [])
  refine Go.step (fun _ k => XS.aloadN W.here W.hx rfl (W.d deq1_7) rfl rfl k) ?_
  show Go _ _ _ _ _ _ _ _ _ _ (mkF m 8 #[.val (.ref a), .val (.ref b), .unset] [(.ref b)])
  refine W.cast (X.w 68 rfl) (Ins.self Ab) deq1_8 ?_
  intro T W
  show Go _ _ _ _ _ _ _ _ _ _ (mkF m 11 #[.val (.ref a), .val (.ref b), .unset] [(.ref b)])
  refine Go.step (fun _ k => XS.astoreN W.here W.hx rfl (W.d deq1_11) rfl rfl (l' := #[.val (.ref a), .val (.ref b), .val (.ref b)]) rfl k) ?_
  show Go _ _ _ _ _ _ _ _ _ _ (mkF m 12 #[.val (.ref a), .val (.ref b), .val (.ref b)] [])
  refine Go.step (fun _ k => XS.aloadN W.here W.hx rfl (W.d deq1_12) rfl rfl k) ?_
  show Go _ _ _ _ _ _ _ _ _ _ (mkF m 13 #[.val (.ref a), .val (.ref b), .val (.ref b)] [(.ref a)])
  refine W.getF (host := "") (Or.inl (X.w 53 rfl)) Via.refl Fa_word deq1_13 ?_
  intro T W
  show Go _ _ _ _ _ _ _ _ _ _ (mkF m 16 #[.val (.ref a), .val (.ref b), .val (.ref b)] [(.ref sa_word)])
  refine Go.step (fun _ k => XS.aloadN W.here W.hx rfl (W.d deq1_16) rfl rfl k) ?_
  show Go _ _ _ _ _ _ _ _ _ _ (mkF m 17 #[.val (.ref a), .val (.ref b), .val (.ref b)] [(.ref b), (.ref sa_word)])
  refine W.getF (host := "") (Or.inl (X.w 53 rfl)) Via.refl Fb_word deq1_17 ?_
  intro T W
  show Go _ _ _ _ _ _ _ _ _ _ (mkF m 20 #[.val (.ref a), .val (.ref b), .val (.ref b)] [(.ref sb_word), (.ref sa_word)])
  refine W.virtualB (X.w 70 rfl) (X.w 71 rfl) (notFace_of_selects (args := #[]) (mvT W.hZ (X.w 73 rfl))) (X.w 73 rfl) (X.w 72 rfl) (by decide) (bk_eq X W.hZ W.ext Sa_word Sb_word (by decide) (by decide)) [] (fun _ _ _ q => by obtain ⟨-, rfl, rfl⟩ := q; exact ⟨Fr.nil _, Keep.refl _ _⟩) sf0 all0 sa_word Sa_word.exa [(.ref sb_word)] [] rfl pd_3 rfl rfl rfl (Wd := 0) (Nat.le_of_eq rfl) deq1_20 (by decide) (by decide) ?_
  intro v T h L W hq1
  obtain ⟨hq1, rfl, rfl⟩ := hq1
  rcases hq1 with ⟨rfl, hq1⟩ | ⟨rfl, hq1⟩
  · show Go _ _ _ _ _ _ _ _ _ _ (mkF m 23 #[.val (.ref a), .val (.ref b), .val (.ref b)] [(.int (1 : Int32))])
    refine Go.step (fun _ k => XS.ifNo W.here W.hx rfl (W.d deq1_23) rfl ((if0 _ _).trans (feq (by decide : ¬ ((1 : Int32) = (0 : Int32)))).1) k) ?_
    show Go _ _ _ _ _ _ _ _ _ _ (mkF m 26 #[.val (.ref a), .val (.ref b), .val (.ref b)] [])
    refine Go.step (fun _ k => XS.aloadN W.here W.hx rfl (W.d deq1_26) rfl rfl k) ?_
    show Go _ _ _ _ _ _ _ _ _ _ (mkF m 27 #[.val (.ref a), .val (.ref b), .val (.ref b)] [(.ref a)])
    refine W.getF (host := "") (Or.inl (X.w 55 rfl)) Via.refl Fa_list deq1_27 ?_
    intro T W
    show Go _ _ _ _ _ _ _ _ _ _ (mkF m 30 #[.val (.ref a), .val (.ref b), .val (.ref b)] [(.ref sa_list)])
    refine Go.step (fun _ k => XS.aloadN W.here W.hx rfl (W.d deq1_30) rfl rfl k) ?_
    show Go _ _ _ _ _ _ _ _ _ _ (mkF m 31 #[.val (.ref a), .val (.ref b), .val (.ref b)] [(.ref b), (.ref sa_list)])
    refine W.getF (host := "") (Or.inl (X.w 55 rfl)) Via.refl Fb_list deq1_31 ?_
    intro T W
    show Go _ _ _ _ _ _ _ _ _ _ (mkF m 34 #[.val (.ref a), .val (.ref b), .val (.ref b)] [(.ref sb_list), (.ref sa_list)])
    refine W.virtualB (X.w 70 rfl) (X.w 71 rfl) (notFace_of_selects (args := #[]) (mvT W.hZ (X.w 73 rfl))) (X.w 73 rfl) (X.w 72 rfl) (by decide) (bk_eq X W.hZ W.ext Sa_list Sb_list (by decide) (by decide)) [] (fun _ _ _ q => by obtain ⟨-, rfl, rfl⟩ := q; exact ⟨Fr.nil _, Keep.refl _ _⟩) sf0 all0 sa_list Sa_list.exa [(.ref sb_list)] [] rfl pd_3 rfl rfl rfl (Wd := 0) (Nat.le_of_eq rfl) deq1_34 (by decide) (by decide) ?_
    intro v T h L W hq2
    obtain ⟨hq2, rfl, rfl⟩ := hq2
    rcases hq2 with ⟨rfl, hq2⟩ | ⟨rfl, hq2⟩
    · show Go _ _ _ _ _ _ _ _ _ _ (mkF m 37 #[.val (.ref a), .val (.ref b), .val (.ref b)] [(.int (1 : Int32))])
      refine Go.step (fun _ k => XS.ifNo W.here W.hx rfl (W.d deq1_37) rfl ((if0 _ _).trans (feq (by decide : ¬ ((1 : Int32) = (0 : Int32)))).1) k) ?_
      show Go _ _ _ _ _ _ _ _ _ _ (mkF m 40 #[.val (.ref a), .val (.ref b), .val (.ref b)] [])
      refine Go.step (fun _ k => XS.aloadN W.here W.hx rfl (W.d deq1_40) rfl rfl k) ?_
      show Go _ _ _ _ _ _ _ _ _ _ (mkF m 41 #[.val (.ref a), .val (.ref b), .val (.ref b)] [(.ref a)])
      refine W.getF (host := "") (Or.inl (X.w 57 rfl)) Via.refl Fa_label deq1_41 ?_
      intro T W
      show Go _ _ _ _ _ _ _ _ _ _ (mkF m 44 #[.val (.ref a), .val (.ref b), .val (.ref b)] [(.ref sa_label)])
      refine Go.step (fun _ k => XS.aloadN W.here W.hx rfl (W.d deq1_44) rfl rfl k) ?_
      show Go _ _ _ _ _ _ _ _ _ _ (mkF m 45 #[.val (.ref a), .val (.ref b), .val (.ref b)] [(.ref b), (.ref sa_label)])
      refine W.getF (host := "") (Or.inl (X.w 57 rfl)) Via.refl Fb_label deq1_45 ?_
      intro T W
      show Go _ _ _ _ _ _ _ _ _ _ (mkF m 48 #[.val (.ref a), .val (.ref b), .val (.ref b)] [(.ref sb_label), (.ref sa_label)])
      refine W.virtualB (X.w 70 rfl) (X.w 71 rfl) (notFace_of_selects (args := #[]) (mvT W.hZ (X.w 73 rfl))) (X.w 73 rfl) (X.w 72 rfl) (by decide) (bk_eq X W.hZ W.ext Sa_label Sb_label (by decide) (by decide)) [] (fun _ _ _ q => by obtain ⟨-, rfl, rfl⟩ := q; exact ⟨Fr.nil _, Keep.refl _ _⟩) sf0 all0 sa_label Sa_label.exa [(.ref sb_label)] [] rfl pd_3 rfl rfl rfl (Wd := 0) (Nat.le_of_eq rfl) deq1_48 (by decide) (by decide) ?_
      intro v T h L W hq3
      obtain ⟨hq3, rfl, rfl⟩ := hq3
      rcases hq3 with ⟨rfl, hq3⟩ | ⟨rfl, hq3⟩
      · show Go _ _ _ _ _ _ _ _ _ _ (mkF m 51 #[.val (.ref a), .val (.ref b), .val (.ref b)] [(.int (1 : Int32))])
        refine Go.step (fun _ k => XS.ifNo W.here W.hx rfl (W.d deq1_51) rfl ((if0 _ _).trans (feq (by decide : ¬ ((1 : Int32) = (0 : Int32)))).1) k) ?_
        show Go _ _ _ _ _ _ _ _ _ _ (mkF m 54 #[.val (.ref a), .val (.ref b), .val (.ref b)] [])
        refine Go.step (fun _ k => XS.aloadN W.here W.hx rfl (W.d deq1_54) rfl rfl k) ?_
        show Go _ _ _ _ _ _ _ _ _ _ (mkF m 55 #[.val (.ref a), .val (.ref b), .val (.ref b)] [(.ref a)])
        refine W.getF (host := "") (Or.inl (X.w 59 rfl)) Via.refl Fa_start deq1_55 ?_
        intro T W
        show Go _ _ _ _ _ _ _ _ _ _ (mkF m 58 #[.val (.ref a), .val (.ref b), .val (.ref b)] [(.int ia_start)])
        refine Go.step (fun _ k => XS.aloadN W.here W.hx rfl (W.d deq1_58) rfl rfl k) ?_
        show Go _ _ _ _ _ _ _ _ _ _ (mkF m 59 #[.val (.ref a), .val (.ref b), .val (.ref b)] [(.ref b), (.int ia_start)])
        refine W.getF (host := "") (Or.inl (X.w 59 rfl)) Via.refl Fb_start deq1_59 ?_
        intro T W
        show Go _ _ _ _ _ _ _ _ _ _ (mkF m 62 #[.val (.ref a), .val (.ref b), .val (.ref b)] [(.int ib_start), (.int ia_start)])
        by_cases hc4 : ia_start = ib_start
        · refine Go.step (fun _ k => XS.icmpNo W.here W.hx rfl (W.d deq1_62) rfl (teq hc4).2 k) ?_
          show Go _ _ _ _ _ _ _ _ _ _ (mkF m 65 #[.val (.ref a), .val (.ref b), .val (.ref b)] [])
          refine Go.step (fun _ k => XS.aloadN W.here W.hx rfl (W.d deq1_65) rfl rfl k) ?_
          show Go _ _ _ _ _ _ _ _ _ _ (mkF m 66 #[.val (.ref a), .val (.ref b), .val (.ref b)] [(.ref a)])
          refine W.getF (host := "") (Or.inl (X.w 61 rfl)) Via.refl Fa_end deq1_66 ?_
          intro T W
          show Go _ _ _ _ _ _ _ _ _ _ (mkF m 69 #[.val (.ref a), .val (.ref b), .val (.ref b)] [(.int ia_end)])
          refine Go.step (fun _ k => XS.aloadN W.here W.hx rfl (W.d deq1_69) rfl rfl k) ?_
          show Go _ _ _ _ _ _ _ _ _ _ (mkF m 70 #[.val (.ref a), .val (.ref b), .val (.ref b)] [(.ref b), (.int ia_end)])
          refine W.getF (host := "") (Or.inl (X.w 61 rfl)) Via.refl Fb_end deq1_70 ?_
          intro T W
          show Go _ _ _ _ _ _ _ _ _ _ (mkF m 73 #[.val (.ref a), .val (.ref b), .val (.ref b)] [(.int ib_end), (.int ia_end)])
          by_cases hc5 : ia_end = ib_end
          · refine Go.step (fun _ k => XS.icmpNo W.here W.hx rfl (W.d deq1_73) rfl (teq hc5).2 k) ?_
            show Go _ _ _ _ _ _ _ _ _ _ (mkF m 76 #[.val (.ref a), .val (.ref b), .val (.ref b)] [])
            refine Go.step (fun _ k => XS.iconst W.here W.hx rfl (W.d deq1_76) k) ?_
            show Go _ _ _ _ _ _ _ _ _ _ (mkF m 77 #[.val (.ref a), .val (.ref b), .val (.ref b)] [(.int (1 : Int32))])
            refine Go.step (fun _ k => XS.goto W.here W.hx rfl (pc0 := 77) (pc' := 81) rfl (W.d deq1_77) (by decide) (by decide) k) ?_
            show Go _ _ _ _ _ _ _ _ _ _ (mkF m 81 #[.val (.ref a), .val (.ref b), .val (.ref b)] [(.int (1 : Int32))])
            exact W.retN (by simp) deq1_81 (⟨Or.inl ⟨rfl, ⟨hq1, hq2, hq3, hc4, hc5⟩⟩, rfl⟩) (by decide) (by decide)
          · refine Go.step (fun _ k => XS.icmpYes W.here W.hx rfl (pc0 := 73) (pc' := 80) rfl (W.d deq1_73) rfl (feq hc5).2 (by decide) (by decide) k) ?_
            show Go _ _ _ _ _ _ _ _ _ _ (mkF m 80 #[.val (.ref a), .val (.ref b), .val (.ref b)] [])
            refine Go.step (fun _ k => XS.iconst W.here W.hx rfl (W.d deq1_80) k) ?_
            show Go _ _ _ _ _ _ _ _ _ _ (mkF m 81 #[.val (.ref a), .val (.ref b), .val (.ref b)] [(.int (0 : Int32))])
            exact W.retN (by simp) deq1_81 (⟨Or.inr ⟨rfl, fun q => hc5 q.2.2.2.2⟩, rfl⟩) (by decide) (by decide)
        · refine Go.step (fun _ k => XS.icmpYes W.here W.hx rfl (pc0 := 62) (pc' := 80) rfl (W.d deq1_62) rfl (feq hc4).2 (by decide) (by decide) k) ?_
          show Go _ _ _ _ _ _ _ _ _ _ (mkF m 80 #[.val (.ref a), .val (.ref b), .val (.ref b)] [])
          refine Go.step (fun _ k => XS.iconst W.here W.hx rfl (W.d deq1_80) k) ?_
          show Go _ _ _ _ _ _ _ _ _ _ (mkF m 81 #[.val (.ref a), .val (.ref b), .val (.ref b)] [(.int (0 : Int32))])
          exact W.retN (by simp) deq1_81 (⟨Or.inr ⟨rfl, fun q => hc4 q.2.2.2.1⟩, rfl⟩) (by decide) (by decide)
      · show Go _ _ _ _ _ _ _ _ _ _ (mkF m 51 #[.val (.ref a), .val (.ref b), .val (.ref b)] [(.int (0 : Int32))])
        refine Go.step (fun _ k => XS.ifYes W.here W.hx rfl (pc0 := 51) (pc' := 80) rfl (W.d deq1_51) rfl ((if0 _ _).trans (teq (by decide : (0 : Int32) = (0 : Int32))).1) (by decide) (by decide) k) ?_
        show Go _ _ _ _ _ _ _ _ _ _ (mkF m 80 #[.val (.ref a), .val (.ref b), .val (.ref b)] [])
        refine Go.step (fun _ k => XS.iconst W.here W.hx rfl (W.d deq1_80) k) ?_
        show Go _ _ _ _ _ _ _ _ _ _ (mkF m 81 #[.val (.ref a), .val (.ref b), .val (.ref b)] [(.int (0 : Int32))])
        exact W.retN (by simp) deq1_81 (⟨Or.inr ⟨rfl, fun q => hq3 q.2.2.1⟩, rfl⟩) (by decide) (by decide)
    · show Go _ _ _ _ _ _ _ _ _ _ (mkF m 37 #[.val (.ref a), .val (.ref b), .val (.ref b)] [(.int (0 : Int32))])
      refine Go.step (fun _ k => XS.ifYes W.here W.hx rfl (pc0 := 37) (pc' := 80) rfl (W.d deq1_37) rfl ((if0 _ _).trans (teq (by decide : (0 : Int32) = (0 : Int32))).1) (by decide) (by decide) k) ?_
      show Go _ _ _ _ _ _ _ _ _ _ (mkF m 80 #[.val (.ref a), .val (.ref b), .val (.ref b)] [])
      refine Go.step (fun _ k => XS.iconst W.here W.hx rfl (W.d deq1_80) k) ?_
      show Go _ _ _ _ _ _ _ _ _ _ (mkF m 81 #[.val (.ref a), .val (.ref b), .val (.ref b)] [(.int (0 : Int32))])
      exact W.retN (by simp) deq1_81 (⟨Or.inr ⟨rfl, fun q => hq2 q.2.1⟩, rfl⟩) (by decide) (by decide)
  · show Go _ _ _ _ _ _ _ _ _ _ (mkF m 23 #[.val (.ref a), .val (.ref b), .val (.ref b)] [(.int (0 : Int32))])
    refine Go.step (fun _ k => XS.ifYes W.here W.hx rfl (pc0 := 23) (pc' := 80) rfl (W.d deq1_23) rfl ((if0 _ _).trans (teq (by decide : (0 : Int32) = (0 : Int32))).1) (by decide) (by decide) k) ?_
    show Go _ _ _ _ _ _ _ _ _ _ (mkF m 80 #[.val (.ref a), .val (.ref b), .val (.ref b)] [])
    refine Go.step (fun _ k => XS.iconst W.here W.hx rfl (W.d deq1_80) k) ?_
    show Go _ _ _ _ _ _ _ _ _ _ (mkF m 81 #[.val (.ref a), .val (.ref b), .val (.ref b)] [(.int (0 : Int32))])
    exact W.retN (by simp) deq1_81 (⟨Or.inr ⟨rfl, fun q => hq1 q.1⟩, rfl⟩) (by decide) (by decide)
theorem deq2_0 : decode prog_16_method_7_code 0 = .ok (.aload_n 1, 1) := by decide +kernel
theorem deq2_1 : decode prog_16_method_7_code 1 = .ok (.instanceof 8, 3) := by decide +kernel
theorem deq2_4 : decode prog_16_method_7_code 4 = .ok (.ifCond .eq 76, 3) := by decide +kernel
theorem deq2_7 : decode prog_16_method_7_code 7 = .ok (.aload_n 1, 1) := by decide +kernel
theorem deq2_8 : decode prog_16_method_7_code 8 = .ok (.checkcast 8, 3) := by decide +kernel
theorem deq2_11 : decode prog_16_method_7_code 11 = .ok (.astore_n 2, 1) := by decide +kernel
theorem deq2_12 : decode prog_16_method_7_code 12 = .ok (.aload_n 0, 1) := by decide +kernel
theorem deq2_13 : decode prog_16_method_7_code 13 = .ok (.getfield 7, 3) := by decide +kernel
theorem deq2_16 : decode prog_16_method_7_code 16 = .ok (.aload_n 2, 1) := by decide +kernel
theorem deq2_17 : decode prog_16_method_7_code 17 = .ok (.getfield 7, 3) := by decide +kernel
theorem deq2_20 : decode prog_16_method_7_code 20 = .ok (.invokevirtual 26, 3) := by decide +kernel
theorem deq2_23 : decode prog_16_method_7_code 23 = .ok (.ifCond .eq 57, 3) := by decide +kernel
theorem deq2_26 : decode prog_16_method_7_code 26 = .ok (.aload_n 0, 1) := by decide +kernel
theorem deq2_27 : decode prog_16_method_7_code 27 = .ok (.getfield 13, 3) := by decide +kernel
theorem deq2_30 : decode prog_16_method_7_code 30 = .ok (.aload_n 2, 1) := by decide +kernel
theorem deq2_31 : decode prog_16_method_7_code 31 = .ok (.getfield 13, 3) := by decide +kernel
theorem deq2_34 : decode prog_16_method_7_code 34 = .ok (.invokevirtual 26, 3) := by decide +kernel
theorem deq2_37 : decode prog_16_method_7_code 37 = .ok (.ifCond .eq 43, 3) := by decide +kernel
theorem deq2_40 : decode prog_16_method_7_code 40 = .ok (.aload_n 0, 1) := by decide +kernel
theorem deq2_41 : decode prog_16_method_7_code 41 = .ok (.getfield 16, 3) := by decide +kernel
theorem deq2_44 : decode prog_16_method_7_code 44 = .ok (.aload_n 2, 1) := by decide +kernel
theorem deq2_45 : decode prog_16_method_7_code 45 = .ok (.getfield 16, 3) := by decide +kernel
theorem deq2_48 : decode prog_16_method_7_code 48 = .ok (.invokevirtual 26, 3) := by decide +kernel
theorem deq2_51 : decode prog_16_method_7_code 51 = .ok (.ifCond .eq 29, 3) := by decide +kernel
theorem deq2_54 : decode prog_16_method_7_code 54 = .ok (.aload_n 0, 1) := by decide +kernel
theorem deq2_55 : decode prog_16_method_7_code 55 = .ok (.getfield 19, 3) := by decide +kernel
theorem deq2_58 : decode prog_16_method_7_code 58 = .ok (.aload_n 2, 1) := by decide +kernel
theorem deq2_59 : decode prog_16_method_7_code 59 = .ok (.getfield 19, 3) := by decide +kernel
theorem deq2_62 : decode prog_16_method_7_code 62 = .ok (.if_icmp .ne 18, 3) := by decide +kernel
theorem deq2_65 : decode prog_16_method_7_code 65 = .ok (.aload_n 0, 1) := by decide +kernel
theorem deq2_66 : decode prog_16_method_7_code 66 = .ok (.getfield 23, 3) := by decide +kernel
theorem deq2_69 : decode prog_16_method_7_code 69 = .ok (.aload_n 2, 1) := by decide +kernel
theorem deq2_70 : decode prog_16_method_7_code 70 = .ok (.getfield 23, 3) := by decide +kernel
theorem deq2_73 : decode prog_16_method_7_code 73 = .ok (.if_icmp .ne 7, 3) := by decide +kernel
theorem deq2_76 : decode prog_16_method_7_code 76 = .ok (.iconst 1, 1) := by decide +kernel
theorem deq2_77 : decode prog_16_method_7_code 77 = .ok (.goto 4, 3) := by decide +kernel
theorem deq2_80 : decode prog_16_method_7_code 80 = .ok (.iconst 0, 1) := by decide +kernel
theorem deq2_81 : decode prog_16_method_7_code 81 = .ok (.ireturn, 1) := by decide +kernel
theorem efeq2 (m : MethodId) (x0 : Addr) (x1 : Addr) : entryFrame m #[(.ref x0), (.ref x1)] 3 = mkF m 0 #[.val (.ref x0), .val (.ref x1), .unset] [] := by first | (simp [entryFrame, mkF, argsToLocals, Value.category]; done) | rfl
set_option maxRecDepth 65536 in
set_option maxHeartbeats 40000000 in
theorem c_eq2 {l : Launch} {Z : State} {a0 : Array Value} {G1 : Int32} (X : Ctx Z a0 G1) (a : Addr) (sa_word : Addr) (ca_word : List Int32) (sa_list : Addr) (ca_list : List Int32) (sa_label : Addr) (ca_label : List Int32) (ia_start : Int32) (ia_end : Int32) (h0 : Heap) (hE : Ext Z.heap h0) (Aa : Exa Z h0 a "com/example/moderato/moderato/client/TextHit") (Fa_word : Fld Z h0 a "com/example/moderato/moderato/client/TextHit" "word" "Ljava/lang/String;" (.ref sa_word)) (Sa_word : Str Z h0 sa_word ca_word) (Fa_list : Fld Z h0 a "com/example/moderato/moderato/client/TextHit" "list" "Ljava/lang/String;" (.ref sa_list)) (Sa_list : Str Z h0 sa_list ca_list) (Fa_label : Fld Z h0 a "com/example/moderato/moderato/client/TextHit" "label" "Ljava/lang/String;" (.ref sa_label)) (Sa_label : Str Z h0 sa_label ca_label) (Fa_start : Fld Z h0 a "com/example/moderato/moderato/client/TextHit" "start" "I" (.int ia_start)) (Fa_end : Fld Z h0 a "com/example/moderato/moderato/client/TextHit" "end" "I" (.int ia_end)) :
    Con l Z consts_1 (⟨"com/example/moderato/moderato/client/TextHit", "equals", "(Ljava/lang/Object;)Z"⟩ : MethodName) prog_16_method_7_code 3 (some .boolean) [] ({ frames := 2, cells := 0, slots := 0, locals := 28 } : Room) #[(.ref a), (.ref a)] h0 (fun v h => v = some (.int 1) ∧ h0 = h) := by
  refine Con.intro (plainFor_of_name pn_2) hE X.el ?_
  intro p e s m below meth c T W
  have hsz := W.size
  refine Go.cast (efeq2 m a a) ?_
  refine Go.step (fun _ k => XS.aloadN W.here W.hx rfl (W.d deq2_0) rfl rfl k) ?_
  show Go _ _ _ _ _ _ _ _ _ _ (mkF m 1 #[.val (.ref a), .val (.ref a), .unset] [(.ref a)])
  refine W.instY (X.w 68 rfl) (Ins.self Aa) deq2_1 ?_
  intro T W
  show Go _ _ _ _ _ _ _ _ _ _ (mkF m 4 #[.val (.ref a), .val (.ref a), .unset] [(.int (1 : Int32))])
  refine Go.step (fun _ k => XS.ifNo W.here W.hx rfl (W.d deq2_4) rfl ((if0 _ _).trans (feq (by decide : ¬ ((1 : Int32) = (0 : Int32)))).1) k) ?_
  show Go _ _ _ _ _ _ _ _ _ _ (mkF m 7 #[.val (.ref a), .val (.ref a), .unset] [])
  refine Go.step (fun _ k => XS.aloadN W.here W.hx rfl (W.d deq2_7) rfl rfl k) ?_
  show Go _ _ _ _ _ _ _ _ _ _ (mkF m 8 #[.val (.ref a), .val (.ref a), .unset] [(.ref a)])
  refine W.cast (X.w 68 rfl) (Ins.self Aa) deq2_8 ?_
  intro T W
  show Go _ _ _ _ _ _ _ _ _ _ (mkF m 11 #[.val (.ref a), .val (.ref a), .unset] [(.ref a)])
  refine Go.step (fun _ k => XS.astoreN W.here W.hx rfl (W.d deq2_11) rfl rfl (l' := #[.val (.ref a), .val (.ref a), .val (.ref a)]) rfl k) ?_
  show Go _ _ _ _ _ _ _ _ _ _ (mkF m 12 #[.val (.ref a), .val (.ref a), .val (.ref a)] [])
  refine Go.step (fun _ k => XS.aloadN W.here W.hx rfl (W.d deq2_12) rfl rfl k) ?_
  show Go _ _ _ _ _ _ _ _ _ _ (mkF m 13 #[.val (.ref a), .val (.ref a), .val (.ref a)] [(.ref a)])
  refine W.getF (host := "") (Or.inl (X.w 53 rfl)) Via.refl Fa_word deq2_13 ?_
  intro T W
  show Go _ _ _ _ _ _ _ _ _ _ (mkF m 16 #[.val (.ref a), .val (.ref a), .val (.ref a)] [(.ref sa_word)])
  refine Go.step (fun _ k => XS.aloadN W.here W.hx rfl (W.d deq2_16) rfl rfl k) ?_
  show Go _ _ _ _ _ _ _ _ _ _ (mkF m 17 #[.val (.ref a), .val (.ref a), .val (.ref a)] [(.ref a), (.ref sa_word)])
  refine W.getF (host := "") (Or.inl (X.w 53 rfl)) Via.refl Fa_word deq2_17 ?_
  intro T W
  show Go _ _ _ _ _ _ _ _ _ _ (mkF m 20 #[.val (.ref a), .val (.ref a), .val (.ref a)] [(.ref sa_word), (.ref sa_word)])
  refine W.virtualB (X.w 70 rfl) (X.w 71 rfl) (notFace_of_selects (args := #[]) (mvT W.hZ (X.w 73 rfl))) (X.w 73 rfl) (X.w 72 rfl) (by decide) (bk_eq X W.hZ W.ext Sa_word Sa_word (by decide) (by decide)) [] (fun _ _ _ q => by obtain ⟨-, rfl, rfl⟩ := q; exact ⟨Fr.nil _, Keep.refl _ _⟩) sf0 all0 sa_word Sa_word.exa [(.ref sa_word)] [] rfl pd_3 rfl rfl rfl (Wd := 0) (Nat.le_of_eq rfl) deq2_20 (by decide) (by decide) ?_
  intro v T h L W hq1
  obtain ⟨hq1, rfl, rfl⟩ := hq1
  rcases hq1 with ⟨rfl, hq1⟩ | ⟨rfl, hq1⟩
  · show Go _ _ _ _ _ _ _ _ _ _ (mkF m 23 #[.val (.ref a), .val (.ref a), .val (.ref a)] [(.int (1 : Int32))])
    refine Go.step (fun _ k => XS.ifNo W.here W.hx rfl (W.d deq2_23) rfl ((if0 _ _).trans (feq (by decide : ¬ ((1 : Int32) = (0 : Int32)))).1) k) ?_
    show Go _ _ _ _ _ _ _ _ _ _ (mkF m 26 #[.val (.ref a), .val (.ref a), .val (.ref a)] [])
    refine Go.step (fun _ k => XS.aloadN W.here W.hx rfl (W.d deq2_26) rfl rfl k) ?_
    show Go _ _ _ _ _ _ _ _ _ _ (mkF m 27 #[.val (.ref a), .val (.ref a), .val (.ref a)] [(.ref a)])
    refine W.getF (host := "") (Or.inl (X.w 55 rfl)) Via.refl Fa_list deq2_27 ?_
    intro T W
    show Go _ _ _ _ _ _ _ _ _ _ (mkF m 30 #[.val (.ref a), .val (.ref a), .val (.ref a)] [(.ref sa_list)])
    refine Go.step (fun _ k => XS.aloadN W.here W.hx rfl (W.d deq2_30) rfl rfl k) ?_
    show Go _ _ _ _ _ _ _ _ _ _ (mkF m 31 #[.val (.ref a), .val (.ref a), .val (.ref a)] [(.ref a), (.ref sa_list)])
    refine W.getF (host := "") (Or.inl (X.w 55 rfl)) Via.refl Fa_list deq2_31 ?_
    intro T W
    show Go _ _ _ _ _ _ _ _ _ _ (mkF m 34 #[.val (.ref a), .val (.ref a), .val (.ref a)] [(.ref sa_list), (.ref sa_list)])
    refine W.virtualB (X.w 70 rfl) (X.w 71 rfl) (notFace_of_selects (args := #[]) (mvT W.hZ (X.w 73 rfl))) (X.w 73 rfl) (X.w 72 rfl) (by decide) (bk_eq X W.hZ W.ext Sa_list Sa_list (by decide) (by decide)) [] (fun _ _ _ q => by obtain ⟨-, rfl, rfl⟩ := q; exact ⟨Fr.nil _, Keep.refl _ _⟩) sf0 all0 sa_list Sa_list.exa [(.ref sa_list)] [] rfl pd_3 rfl rfl rfl (Wd := 0) (Nat.le_of_eq rfl) deq2_34 (by decide) (by decide) ?_
    intro v T h L W hq2
    obtain ⟨hq2, rfl, rfl⟩ := hq2
    rcases hq2 with ⟨rfl, hq2⟩ | ⟨rfl, hq2⟩
    · show Go _ _ _ _ _ _ _ _ _ _ (mkF m 37 #[.val (.ref a), .val (.ref a), .val (.ref a)] [(.int (1 : Int32))])
      refine Go.step (fun _ k => XS.ifNo W.here W.hx rfl (W.d deq2_37) rfl ((if0 _ _).trans (feq (by decide : ¬ ((1 : Int32) = (0 : Int32)))).1) k) ?_
      show Go _ _ _ _ _ _ _ _ _ _ (mkF m 40 #[.val (.ref a), .val (.ref a), .val (.ref a)] [])
      refine Go.step (fun _ k => XS.aloadN W.here W.hx rfl (W.d deq2_40) rfl rfl k) ?_
      show Go _ _ _ _ _ _ _ _ _ _ (mkF m 41 #[.val (.ref a), .val (.ref a), .val (.ref a)] [(.ref a)])
      refine W.getF (host := "") (Or.inl (X.w 57 rfl)) Via.refl Fa_label deq2_41 ?_
      intro T W
      show Go _ _ _ _ _ _ _ _ _ _ (mkF m 44 #[.val (.ref a), .val (.ref a), .val (.ref a)] [(.ref sa_label)])
      refine Go.step (fun _ k => XS.aloadN W.here W.hx rfl (W.d deq2_44) rfl rfl k) ?_
      show Go _ _ _ _ _ _ _ _ _ _ (mkF m 45 #[.val (.ref a), .val (.ref a), .val (.ref a)] [(.ref a), (.ref sa_label)])
      refine W.getF (host := "") (Or.inl (X.w 57 rfl)) Via.refl Fa_label deq2_45 ?_
      intro T W
      show Go _ _ _ _ _ _ _ _ _ _ (mkF m 48 #[.val (.ref a), .val (.ref a), .val (.ref a)] [(.ref sa_label), (.ref sa_label)])
      refine W.virtualB (X.w 70 rfl) (X.w 71 rfl) (notFace_of_selects (args := #[]) (mvT W.hZ (X.w 73 rfl))) (X.w 73 rfl) (X.w 72 rfl) (by decide) (bk_eq X W.hZ W.ext Sa_label Sa_label (by decide) (by decide)) [] (fun _ _ _ q => by obtain ⟨-, rfl, rfl⟩ := q; exact ⟨Fr.nil _, Keep.refl _ _⟩) sf0 all0 sa_label Sa_label.exa [(.ref sa_label)] [] rfl pd_3 rfl rfl rfl (Wd := 0) (Nat.le_of_eq rfl) deq2_48 (by decide) (by decide) ?_
      intro v T h L W hq3
      obtain ⟨hq3, rfl, rfl⟩ := hq3
      rcases hq3 with ⟨rfl, hq3⟩ | ⟨rfl, hq3⟩
      · show Go _ _ _ _ _ _ _ _ _ _ (mkF m 51 #[.val (.ref a), .val (.ref a), .val (.ref a)] [(.int (1 : Int32))])
        refine Go.step (fun _ k => XS.ifNo W.here W.hx rfl (W.d deq2_51) rfl ((if0 _ _).trans (feq (by decide : ¬ ((1 : Int32) = (0 : Int32)))).1) k) ?_
        show Go _ _ _ _ _ _ _ _ _ _ (mkF m 54 #[.val (.ref a), .val (.ref a), .val (.ref a)] [])
        refine Go.step (fun _ k => XS.aloadN W.here W.hx rfl (W.d deq2_54) rfl rfl k) ?_
        show Go _ _ _ _ _ _ _ _ _ _ (mkF m 55 #[.val (.ref a), .val (.ref a), .val (.ref a)] [(.ref a)])
        refine W.getF (host := "") (Or.inl (X.w 59 rfl)) Via.refl Fa_start deq2_55 ?_
        intro T W
        show Go _ _ _ _ _ _ _ _ _ _ (mkF m 58 #[.val (.ref a), .val (.ref a), .val (.ref a)] [(.int ia_start)])
        refine Go.step (fun _ k => XS.aloadN W.here W.hx rfl (W.d deq2_58) rfl rfl k) ?_
        show Go _ _ _ _ _ _ _ _ _ _ (mkF m 59 #[.val (.ref a), .val (.ref a), .val (.ref a)] [(.ref a), (.int ia_start)])
        refine W.getF (host := "") (Or.inl (X.w 59 rfl)) Via.refl Fa_start deq2_59 ?_
        intro T W
        show Go _ _ _ _ _ _ _ _ _ _ (mkF m 62 #[.val (.ref a), .val (.ref a), .val (.ref a)] [(.int ia_start), (.int ia_start)])
        by_cases hc4 : ia_start = ia_start
        · refine Go.step (fun _ k => XS.icmpNo W.here W.hx rfl (W.d deq2_62) rfl (teq hc4).2 k) ?_
          show Go _ _ _ _ _ _ _ _ _ _ (mkF m 65 #[.val (.ref a), .val (.ref a), .val (.ref a)] [])
          refine Go.step (fun _ k => XS.aloadN W.here W.hx rfl (W.d deq2_65) rfl rfl k) ?_
          show Go _ _ _ _ _ _ _ _ _ _ (mkF m 66 #[.val (.ref a), .val (.ref a), .val (.ref a)] [(.ref a)])
          refine W.getF (host := "") (Or.inl (X.w 61 rfl)) Via.refl Fa_end deq2_66 ?_
          intro T W
          show Go _ _ _ _ _ _ _ _ _ _ (mkF m 69 #[.val (.ref a), .val (.ref a), .val (.ref a)] [(.int ia_end)])
          refine Go.step (fun _ k => XS.aloadN W.here W.hx rfl (W.d deq2_69) rfl rfl k) ?_
          show Go _ _ _ _ _ _ _ _ _ _ (mkF m 70 #[.val (.ref a), .val (.ref a), .val (.ref a)] [(.ref a), (.int ia_end)])
          refine W.getF (host := "") (Or.inl (X.w 61 rfl)) Via.refl Fa_end deq2_70 ?_
          intro T W
          show Go _ _ _ _ _ _ _ _ _ _ (mkF m 73 #[.val (.ref a), .val (.ref a), .val (.ref a)] [(.int ia_end), (.int ia_end)])
          by_cases hc5 : ia_end = ia_end
          · refine Go.step (fun _ k => XS.icmpNo W.here W.hx rfl (W.d deq2_73) rfl (teq hc5).2 k) ?_
            show Go _ _ _ _ _ _ _ _ _ _ (mkF m 76 #[.val (.ref a), .val (.ref a), .val (.ref a)] [])
            refine Go.step (fun _ k => XS.iconst W.here W.hx rfl (W.d deq2_76) k) ?_
            show Go _ _ _ _ _ _ _ _ _ _ (mkF m 77 #[.val (.ref a), .val (.ref a), .val (.ref a)] [(.int (1 : Int32))])
            refine Go.step (fun _ k => XS.goto W.here W.hx rfl (pc0 := 77) (pc' := 81) rfl (W.d deq2_77) (by decide) (by decide) k) ?_
            show Go _ _ _ _ _ _ _ _ _ _ (mkF m 81 #[.val (.ref a), .val (.ref a), .val (.ref a)] [(.int (1 : Int32))])
            exact W.retN (by simp) deq2_81 (⟨rfl, rfl⟩) (by decide) (by decide)
          · refine Go.step (fun _ k => XS.icmpYes W.here W.hx rfl (pc0 := 73) (pc' := 80) rfl (W.d deq2_73) rfl (feq hc5).2 (by decide) (by decide) k) ?_
            show Go _ _ _ _ _ _ _ _ _ _ (mkF m 80 #[.val (.ref a), .val (.ref a), .val (.ref a)] [])
            refine Go.step (fun _ k => XS.iconst W.here W.hx rfl (W.d deq2_80) k) ?_
            show Go _ _ _ _ _ _ _ _ _ _ (mkF m 81 #[.val (.ref a), .val (.ref a), .val (.ref a)] [(.int (0 : Int32))])
            exact absurd rfl hc5
        · refine Go.step (fun _ k => XS.icmpYes W.here W.hx rfl (pc0 := 62) (pc' := 80) rfl (W.d deq2_62) rfl (feq hc4).2 (by decide) (by decide) k) ?_
          show Go _ _ _ _ _ _ _ _ _ _ (mkF m 80 #[.val (.ref a), .val (.ref a), .val (.ref a)] [])
          refine Go.step (fun _ k => XS.iconst W.here W.hx rfl (W.d deq2_80) k) ?_
          show Go _ _ _ _ _ _ _ _ _ _ (mkF m 81 #[.val (.ref a), .val (.ref a), .val (.ref a)] [(.int (0 : Int32))])
          exact absurd rfl hc4
      · show Go _ _ _ _ _ _ _ _ _ _ (mkF m 51 #[.val (.ref a), .val (.ref a), .val (.ref a)] [(.int (0 : Int32))])
        refine Go.step (fun _ k => XS.ifYes W.here W.hx rfl (pc0 := 51) (pc' := 80) rfl (W.d deq2_51) rfl ((if0 _ _).trans (teq (by decide : (0 : Int32) = (0 : Int32))).1) (by decide) (by decide) k) ?_
        show Go _ _ _ _ _ _ _ _ _ _ (mkF m 80 #[.val (.ref a), .val (.ref a), .val (.ref a)] [])
        refine Go.step (fun _ k => XS.iconst W.here W.hx rfl (W.d deq2_80) k) ?_
        show Go _ _ _ _ _ _ _ _ _ _ (mkF m 81 #[.val (.ref a), .val (.ref a), .val (.ref a)] [(.int (0 : Int32))])
        exact absurd rfl hq3
    · show Go _ _ _ _ _ _ _ _ _ _ (mkF m 37 #[.val (.ref a), .val (.ref a), .val (.ref a)] [(.int (0 : Int32))])
      refine Go.step (fun _ k => XS.ifYes W.here W.hx rfl (pc0 := 37) (pc' := 80) rfl (W.d deq2_37) rfl ((if0 _ _).trans (teq (by decide : (0 : Int32) = (0 : Int32))).1) (by decide) (by decide) k) ?_
      show Go _ _ _ _ _ _ _ _ _ _ (mkF m 80 #[.val (.ref a), .val (.ref a), .val (.ref a)] [])
      refine Go.step (fun _ k => XS.iconst W.here W.hx rfl (W.d deq2_80) k) ?_
      show Go _ _ _ _ _ _ _ _ _ _ (mkF m 81 #[.val (.ref a), .val (.ref a), .val (.ref a)] [(.int (0 : Int32))])
      exact absurd rfl hq2
  · show Go _ _ _ _ _ _ _ _ _ _ (mkF m 23 #[.val (.ref a), .val (.ref a), .val (.ref a)] [(.int (0 : Int32))])
    refine Go.step (fun _ k => XS.ifYes W.here W.hx rfl (pc0 := 23) (pc' := 80) rfl (W.d deq2_23) rfl ((if0 _ _).trans (teq (by decide : (0 : Int32) = (0 : Int32))).1) (by decide) (by decide) k) ?_
    show Go _ _ _ _ _ _ _ _ _ _ (mkF m 80 #[.val (.ref a), .val (.ref a), .val (.ref a)] [])
    refine Go.step (fun _ k => XS.iconst W.here W.hx rfl (W.d deq2_80) k) ?_
    show Go _ _ _ _ _ _ _ _ _ _ (mkF m 81 #[.val (.ref a), .val (.ref a), .val (.ref a)] [(.int (0 : Int32))])
    exact absurd rfl hq1
theorem deq4_0 : decode prog_16_method_7_code 0 = .ok (.aload_n 1, 1) := by decide +kernel
theorem deq4_1 : decode prog_16_method_7_code 1 = .ok (.instanceof 8, 3) := by decide +kernel
theorem deq4_4 : decode prog_16_method_7_code 4 = .ok (.ifCond .eq 76, 3) := by decide +kernel
theorem deq4_80 : decode prog_16_method_7_code 80 = .ok (.iconst 0, 1) := by decide +kernel
theorem deq4_81 : decode prog_16_method_7_code 81 = .ok (.ireturn, 1) := by decide +kernel
theorem efeq4 (m : MethodId) (x0 : Addr) : entryFrame m #[(.ref x0), .null] 3 = mkF m 0 #[.val (.ref x0), .val .null, .unset] [] := by first | (simp [entryFrame, mkF, argsToLocals, Value.category]; done) | rfl
set_option maxRecDepth 65536 in
set_option maxHeartbeats 40000000 in
theorem c_eq4 {l : Launch} {Z : State} {a0 : Array Value} {G1 : Int32} (X : Ctx Z a0 G1) (a : Addr) (h0 : Heap) (hE : Ext Z.heap h0)  :
    Con l Z consts_1 (⟨"com/example/moderato/moderato/client/TextHit", "equals", "(Ljava/lang/Object;)Z"⟩ : MethodName) prog_16_method_7_code 3 (some .boolean) [] ({ frames := 2, cells := 0, slots := 0, locals := 28 } : Room) #[(.ref a), .null] h0 (fun v h => v = some (.int 0) ∧ h0 = h) := by
  refine Con.intro (plainFor_of_name pn_2) hE X.el ?_
  intro p e s m below meth c T W
  have hsz := W.size
  refine Go.cast (efeq4 m a) ?_
  refine Go.step (fun _ k => XS.aloadN W.here W.hx rfl (W.d deq4_0) rfl rfl k) ?_
  show Go _ _ _ _ _ _ _ _ _ _ (mkF m 1 #[.val (.ref a), .val .null, .unset] [.null])
  refine W.instNull deq4_1 ?_
  show Go _ _ _ _ _ _ _ _ _ _ (mkF m 4 #[.val (.ref a), .val .null, .unset] [(.int (0 : Int32))])
  refine Go.step (fun _ k => XS.ifYes W.here W.hx rfl (pc0 := 4) (pc' := 80) rfl (W.d deq4_4) rfl ((if0 _ _).trans (teq (by decide : (0 : Int32) = (0 : Int32))).1) (by decide) (by decide) k) ?_
  show Go _ _ _ _ _ _ _ _ _ _ (mkF m 80 #[.val (.ref a), .val .null, .unset] [])
  refine Go.step (fun _ k => XS.iconst W.here W.hx rfl (W.d deq4_80) k) ?_
  show Go _ _ _ _ _ _ _ _ _ _ (mkF m 81 #[.val (.ref a), .val .null, .unset] [(.int (0 : Int32))])
  exact W.retN (by simp) deq4_81 (⟨rfl, rfl⟩) (by decide) (by decide)

theorem deq5_0 : decode prog_16_method_7_code 0 = .ok (.aload_n 1, 1) := by decide +kernel
theorem deq5_1 : decode prog_16_method_7_code 1 = .ok (.instanceof 8, 3) := by decide +kernel
theorem deq5_4 : decode prog_16_method_7_code 4 = .ok (.ifCond .eq 76, 3) := by decide +kernel
theorem deq5_80 : decode prog_16_method_7_code 80 = .ok (.iconst 0, 1) := by decide +kernel
theorem deq5_81 : decode prog_16_method_7_code 81 = .ok (.ireturn, 1) := by decide +kernel
theorem efeq5 (m : MethodId) (x0 : Addr) (x1 : Addr) : entryFrame m #[(.ref x0), (.ref x1)] 3 = mkF m 0 #[.val (.ref x0), .val (.ref x1), .unset] [] := by first | (simp [entryFrame, mkF, argsToLocals, Value.category]; done) | rfl
set_option maxRecDepth 65536 in
set_option maxHeartbeats 40000000 in
theorem c_eq5 {l : Launch} {Z : State} {a0 : Array Value} {G1 : Int32} (X : Ctx Z a0 G1) (a b : Addr) (h0 : Heap) (hE : Ext Z.heap h0) (A : Exa Z h0 b "java/lang/String") (ne : a ≠ b) :
    Con l Z consts_1 (⟨"com/example/moderato/moderato/client/TextHit", "equals", "(Ljava/lang/Object;)Z"⟩ : MethodName) prog_16_method_7_code 3 (some .boolean) [] ({ frames := 2, cells := 0, slots := 0, locals := 28 } : Room) #[(.ref a), (.ref b)] h0 (fun v h => v = some (.int 0) ∧ h0 = h) := by
  refine Con.intro (plainFor_of_name pn_2) hE X.el ?_
  intro p e s m below meth c T W
  have hsz := W.size
  refine Go.cast (efeq5 m a b) ?_
  refine Go.step (fun _ k => XS.aloadN W.here W.hx rfl (W.d deq5_0) rfl rfl k) ?_
  show Go _ _ _ _ _ _ _ _ _ _ (mkF m 1 #[.val (.ref a), .val (.ref b), .unset] [(.ref b)])
  refine W.instN (X.w 68 rfl) A (NSno (X.w 80 rfl) (nf_inst (X.w 47 rfl)) (NS.step (X.w 80 rfl) (NSr (X.w 81 rfl) (nf_inst (X.w 47 rfl)) (by decide)) (by decide)) (by decide)) deq5_1 ?_
  intro T W
  show Go _ _ _ _ _ _ _ _ _ _ (mkF m 4 #[.val (.ref a), .val (.ref b), .unset] [(.int (0 : Int32))])
  refine Go.step (fun _ k => XS.ifYes W.here W.hx rfl (pc0 := 4) (pc' := 80) rfl (W.d deq5_4) rfl ((if0 _ _).trans (teq (by decide : (0 : Int32) = (0 : Int32))).1) (by decide) (by decide) k) ?_
  show Go _ _ _ _ _ _ _ _ _ _ (mkF m 80 #[.val (.ref a), .val (.ref b), .unset] [])
  refine Go.step (fun _ k => XS.iconst W.here W.hx rfl (W.d deq5_80) k) ?_
  show Go _ _ _ _ _ _ _ _ _ _ (mkF m 81 #[.val (.ref a), .val (.ref b), .unset] [(.int (0 : Int32))])
  exact W.retN (by simp) deq5_81 (⟨rfl, rfl⟩) (by decide) (by decide)

theorem dth_0 : decode prog_16_method_1_code 0 = .ok (.aload_n 0, 1) := by decide +kernel
theorem dth_1 : decode prog_16_method_1_code 1 = .ok (.invokespecial 1, 3) := by decide +kernel
theorem dth_4 : decode prog_16_method_1_code 4 = .ok (.aload_n 0, 1) := by decide +kernel
theorem dth_5 : decode prog_16_method_1_code 5 = .ok (.aload_n 1, 1) := by decide +kernel
theorem dth_6 : decode prog_16_method_1_code 6 = .ok (.putfield 7, 3) := by decide +kernel
theorem dth_9 : decode prog_16_method_1_code 9 = .ok (.aload_n 0, 1) := by decide +kernel
theorem dth_10 : decode prog_16_method_1_code 10 = .ok (.aload_n 2, 1) := by decide +kernel
theorem dth_11 : decode prog_16_method_1_code 11 = .ok (.putfield 13, 3) := by decide +kernel
theorem dth_14 : decode prog_16_method_1_code 14 = .ok (.aload_n 0, 1) := by decide +kernel
theorem dth_15 : decode prog_16_method_1_code 15 = .ok (.aload_n 3, 1) := by decide +kernel
theorem dth_16 : decode prog_16_method_1_code 16 = .ok (.putfield 16, 3) := by decide +kernel
theorem dth_19 : decode prog_16_method_1_code 19 = .ok (.aload_n 0, 1) := by decide +kernel
theorem dth_20 : decode prog_16_method_1_code 20 = .ok (.iload 4, 2) := by decide +kernel
theorem dth_22 : decode prog_16_method_1_code 22 = .ok (.putfield 19, 3) := by decide +kernel
theorem dth_25 : decode prog_16_method_1_code 25 = .ok (.aload_n 0, 1) := by decide +kernel
theorem dth_26 : decode prog_16_method_1_code 26 = .ok (.iload 5, 2) := by decide +kernel
theorem dth_28 : decode prog_16_method_1_code 28 = .ok (.putfield 23, 3) := by decide +kernel
theorem dth_31 : decode prog_16_method_1_code 31 = .ok (.return_, 1) := by decide +kernel
theorem efth (m : MethodId) (x0 : Addr) (x1 : Addr) (x2 : Addr) (x3 : Addr) (x4 : Int32) (x5 : Int32) : entryFrame m #[(.ref x0), (.ref x1), (.ref x2), (.ref x3), (.int x4), (.int x5)] 6 = mkF m 0 #[.val (.ref x0), .val (.ref x1), .val (.ref x2), .val (.ref x3), .val (.int x4), .val (.int x5)] [] := by first | (simp [entryFrame, mkF, argsToLocals, Value.category]; done) | rfl
set_option maxRecDepth 65536 in
set_option maxHeartbeats 40000000 in
theorem c_th {l : Launch} {Z : State} {a0 : Array Value} {G1 : Int32} (X : Ctx Z a0 G1) (a : Addr) (s1 : Addr) (s2 : Addr) (s3 : Addr) (i4 : Int32) (i5 : Int32) (h0 : Heap) (hE : Ext Z.heap h0) (ga : Z.heap.size ≤ a) (A : Exa Z h0 a "com/example/moderato/moderato/client/TextHit") (F_word : Fld Z h0 a "com/example/moderato/moderato/client/TextHit" "word" "Ljava/lang/String;" .null) (F_list : Fld Z h0 a "com/example/moderato/moderato/client/TextHit" "list" "Ljava/lang/String;" .null) (F_label : Fld Z h0 a "com/example/moderato/moderato/client/TextHit" "label" "Ljava/lang/String;" .null) (F_start : Fld Z h0 a "com/example/moderato/moderato/client/TextHit" "start" "I" (.int (0 : Int32))) (F_end : Fld Z h0 a "com/example/moderato/moderato/client/TextHit" "end" "I" (.int (0 : Int32))) :
    Con l Z consts_1 (⟨"com/example/moderato/moderato/client/TextHit", "<init>", "(Ljava/lang/String;Ljava/lang/String;Ljava/lang/String;II)V"⟩ : MethodName) prog_16_method_1_code 6 none [] ({ frames := 1, cells := 0, slots := 0, locals := 12 } : Room) #[(.ref a), (.ref s1), (.ref s2), (.ref s3), (.int i4), (.int i5)] h0 (fun v h => v = none ∧ Keep h0 h [a] ∧ Fld Z h a "com/example/moderato/moderato/client/TextHit" "word" "Ljava/lang/String;" (.ref s1) ∧ Fld Z h a "com/example/moderato/moderato/client/TextHit" "list" "Ljava/lang/String;" (.ref s2) ∧ Fld Z h a "com/example/moderato/moderato/client/TextHit" "label" "Ljava/lang/String;" (.ref s3) ∧ Fld Z h a "com/example/moderato/moderato/client/TextHit" "start" "I" (.int i4) ∧ Fld Z h a "com/example/moderato/moderato/client/TextHit" "end" "I" (.int i5)) := by
  refine Con.intro (plainFor_of_name pn_2) hE X.el ?_
  intro p e s m below meth c T W
  have hsz := W.size
  refine Go.cast (efth m a s1 s2 s3 i4 i5) ?_
  have KP := Keep.refl h0 [a]
  refine Go.step (fun _ k => XS.aloadN W.here W.hx rfl (W.d dth_0) rfl rfl k) ?_
  show Go _ _ _ _ _ _ _ _ _ _ (mkF m 1 #[.val (.ref a), .val (.ref s1), .val (.ref s2), .val (.ref s3), .val (.int i4), .val (.int i5)] [(.ref a)])
  refine W.initO (X.w 52 rfl) (X.w 18 rfl) (X.w 19 rfl) rfl dth_1 (by decide) (Wd := 0) (Nat.le_of_eq rfl) (by decide) ?_
  intro T W
  show Go _ _ _ _ _ _ _ _ _ _ (mkF m 4 #[.val (.ref a), .val (.ref s1), .val (.ref s2), .val (.ref s3), .val (.int i4), .val (.int i5)] [])
  refine Go.step (fun _ k => XS.aloadN W.here W.hx rfl (W.d dth_4) rfl rfl k) ?_
  show Go _ _ _ _ _ _ _ _ _ _ (mkF m 5 #[.val (.ref a), .val (.ref s1), .val (.ref s2), .val (.ref s3), .val (.int i4), .val (.int i5)] [(.ref a)])
  refine Go.step (fun _ k => XS.aloadN W.here W.hx rfl (W.d dth_5) rfl rfl k) ?_
  show Go _ _ _ _ _ _ _ _ _ _ (mkF m 6 #[.val (.ref a), .val (.ref s1), .val (.ref s2), .val (.ref s3), .val (.int i4), .val (.int i5)] [(.ref s1), (.ref a)])
  refine W.putF (host := "") (Or.inl (X.w 53 rfl)) Via.refl F_word A (Or.inr ⟨(X.w 54 rfl), rfl, rfl⟩) (X.w 47 rfl) (ty := (.object "java/lang/String")) (by decide) rfl rfl ga (Safe.exa W.hZ.alike A (by decide) (by decide)) dth_6 ?_
  intro T h W Wr1 F_word'
  replace F_list := F_list.other Wr1 (Or.inr (slot_ne (Or.inr (X.w 56 rfl)) (Or.inr (X.w 54 rfl)) (by decide) (t := (.object "java/lang/String")) (t' := (.object "java/lang/String")) (by decide) (by decide)))
  replace F_end := F_end.other Wr1 (Or.inr (slot_ne (Or.inr (X.w 62 rfl)) (Or.inr (X.w 54 rfl)) (by decide) (t := .int) (t' := (.object "java/lang/String")) (by decide) (by decide)))
  replace F_label := F_label.other Wr1 (Or.inr (slot_ne (Or.inr (X.w 58 rfl)) (Or.inr (X.w 54 rfl)) (by decide) (t := (.object "java/lang/String")) (t' := (.object "java/lang/String")) (by decide) (by decide)))
  replace F_start := F_start.other Wr1 (Or.inr (slot_ne (Or.inr (X.w 60 rfl)) (Or.inr (X.w 54 rfl)) (by decide) (t := .int) (t' := (.object "java/lang/String")) (by decide) (by decide)))
  replace KP := KP.otrM (Keep.of_wr Wr1) (by simp)
  replace A := A.keep (Keep.of_wr Wr1)
  replace hsz := W.size
  replace F_word := F_word'
  show Go _ _ _ _ _ _ _ _ _ _ (mkF m 9 #[.val (.ref a), .val (.ref s1), .val (.ref s2), .val (.ref s3), .val (.int i4), .val (.int i5)] [])
  refine Go.step (fun _ k => XS.aloadN W.here W.hx rfl (W.d dth_9) rfl rfl k) ?_
  show Go _ _ _ _ _ _ _ _ _ _ (mkF m 10 #[.val (.ref a), .val (.ref s1), .val (.ref s2), .val (.ref s3), .val (.int i4), .val (.int i5)] [(.ref a)])
  refine Go.step (fun _ k => XS.aloadN W.here W.hx rfl (W.d dth_10) rfl rfl k) ?_
  show Go _ _ _ _ _ _ _ _ _ _ (mkF m 11 #[.val (.ref a), .val (.ref s1), .val (.ref s2), .val (.ref s3), .val (.int i4), .val (.int i5)] [(.ref s2), (.ref a)])
  refine W.putF (host := "") (Or.inl (X.w 55 rfl)) Via.refl F_list A (Or.inr ⟨(X.w 56 rfl), rfl, rfl⟩) (X.w 47 rfl) (ty := (.object "java/lang/String")) (by decide) rfl rfl ga (Safe.exa W.hZ.alike A (by decide) (by decide)) dth_11 ?_
  intro T h W Wr2 F_list'
  replace F_end := F_end.other Wr2 (Or.inr (slot_ne (Or.inr (X.w 62 rfl)) (Or.inr (X.w 56 rfl)) (by decide) (t := .int) (t' := (.object "java/lang/String")) (by decide) (by decide)))
  replace F_word := F_word.other Wr2 (Or.inr (slot_ne (Or.inr (X.w 54 rfl)) (Or.inr (X.w 56 rfl)) (by decide) (t := (.object "java/lang/String")) (t' := (.object "java/lang/String")) (by decide) (by decide)))
  replace F_label := F_label.other Wr2 (Or.inr (slot_ne (Or.inr (X.w 58 rfl)) (Or.inr (X.w 56 rfl)) (by decide) (t := (.object "java/lang/String")) (t' := (.object "java/lang/String")) (by decide) (by decide)))
  replace F_start := F_start.other Wr2 (Or.inr (slot_ne (Or.inr (X.w 60 rfl)) (Or.inr (X.w 56 rfl)) (by decide) (t := .int) (t' := (.object "java/lang/String")) (by decide) (by decide)))
  replace KP := KP.otrM (Keep.of_wr Wr2) (by simp)
  replace A := A.keep (Keep.of_wr Wr2)
  replace hsz := W.size
  replace F_list := F_list'
  show Go _ _ _ _ _ _ _ _ _ _ (mkF m 14 #[.val (.ref a), .val (.ref s1), .val (.ref s2), .val (.ref s3), .val (.int i4), .val (.int i5)] [])
  refine Go.step (fun _ k => XS.aloadN W.here W.hx rfl (W.d dth_14) rfl rfl k) ?_
  show Go _ _ _ _ _ _ _ _ _ _ (mkF m 15 #[.val (.ref a), .val (.ref s1), .val (.ref s2), .val (.ref s3), .val (.int i4), .val (.int i5)] [(.ref a)])
  refine Go.step (fun _ k => XS.aloadN W.here W.hx rfl (W.d dth_15) rfl rfl k) ?_
  show Go _ _ _ _ _ _ _ _ _ _ (mkF m 16 #[.val (.ref a), .val (.ref s1), .val (.ref s2), .val (.ref s3), .val (.int i4), .val (.int i5)] [(.ref s3), (.ref a)])
  refine W.putF (host := "") (Or.inl (X.w 57 rfl)) Via.refl F_label A (Or.inr ⟨(X.w 58 rfl), rfl, rfl⟩) (X.w 47 rfl) (ty := (.object "java/lang/String")) (by decide) rfl rfl ga (Safe.exa W.hZ.alike A (by decide) (by decide)) dth_16 ?_
  intro T h W Wr3 F_label'
  replace F_list := F_list.other Wr3 (Or.inr (slot_ne (Or.inr (X.w 56 rfl)) (Or.inr (X.w 58 rfl)) (by decide) (t := (.object "java/lang/String")) (t' := (.object "java/lang/String")) (by decide) (by decide)))
  replace F_end := F_end.other Wr3 (Or.inr (slot_ne (Or.inr (X.w 62 rfl)) (Or.inr (X.w 58 rfl)) (by decide) (t := .int) (t' := (.object "java/lang/String")) (by decide) (by decide)))
  replace F_word := F_word.other Wr3 (Or.inr (slot_ne (Or.inr (X.w 54 rfl)) (Or.inr (X.w 58 rfl)) (by decide) (t := (.object "java/lang/String")) (t' := (.object "java/lang/String")) (by decide) (by decide)))
  replace F_start := F_start.other Wr3 (Or.inr (slot_ne (Or.inr (X.w 60 rfl)) (Or.inr (X.w 58 rfl)) (by decide) (t := .int) (t' := (.object "java/lang/String")) (by decide) (by decide)))
  replace KP := KP.otrM (Keep.of_wr Wr3) (by simp)
  replace A := A.keep (Keep.of_wr Wr3)
  replace hsz := W.size
  replace F_label := F_label'
  show Go _ _ _ _ _ _ _ _ _ _ (mkF m 19 #[.val (.ref a), .val (.ref s1), .val (.ref s2), .val (.ref s3), .val (.int i4), .val (.int i5)] [])
  refine Go.step (fun _ k => XS.aloadN W.here W.hx rfl (W.d dth_19) rfl rfl k) ?_
  show Go _ _ _ _ _ _ _ _ _ _ (mkF m 20 #[.val (.ref a), .val (.ref s1), .val (.ref s2), .val (.ref s3), .val (.int i4), .val (.int i5)] [(.ref a)])
  refine Go.step (fun _ k => XS.iload W.here W.hx rfl (W.d dth_20) rfl k) ?_
  show Go _ _ _ _ _ _ _ _ _ _ (mkF m 22 #[.val (.ref a), .val (.ref s1), .val (.ref s2), .val (.ref s3), .val (.int i4), .val (.int i5)] [(.int i4), (.ref a)])
  refine W.putF (host := "") (Or.inl (X.w 59 rfl)) Via.refl F_start A (Or.inr ⟨(X.w 60 rfl), rfl, rfl⟩) (X.w 47 rfl) (ty := .int) (by decide) rfl rfl ga (Safe.exa W.hZ.alike A (by decide) (by decide)) dth_22 ?_
  intro T h W Wr4 F_start'
  replace F_end := F_end.other Wr4 (Or.inr (slot_ne (Or.inr (X.w 62 rfl)) (Or.inr (X.w 60 rfl)) (by decide) (t := .int) (t' := .int) (by decide) (by decide)))
  replace F_word := F_word.other Wr4 (Or.inr (slot_ne (Or.inr (X.w 54 rfl)) (Or.inr (X.w 60 rfl)) (by decide) (t := (.object "java/lang/String")) (t' := .int) (by decide) (by decide)))
  replace F_label := F_label.other Wr4 (Or.inr (slot_ne (Or.inr (X.w 58 rfl)) (Or.inr (X.w 60 rfl)) (by decide) (t := (.object "java/lang/String")) (t' := .int) (by decide) (by decide)))
  replace F_list := F_list.other Wr4 (Or.inr (slot_ne (Or.inr (X.w 56 rfl)) (Or.inr (X.w 60 rfl)) (by decide) (t := (.object "java/lang/String")) (t' := .int) (by decide) (by decide)))
  replace KP := KP.otrM (Keep.of_wr Wr4) (by simp)
  replace A := A.keep (Keep.of_wr Wr4)
  replace hsz := W.size
  replace F_start := F_start'
  show Go _ _ _ _ _ _ _ _ _ _ (mkF m 25 #[.val (.ref a), .val (.ref s1), .val (.ref s2), .val (.ref s3), .val (.int i4), .val (.int i5)] [])
  refine Go.step (fun _ k => XS.aloadN W.here W.hx rfl (W.d dth_25) rfl rfl k) ?_
  show Go _ _ _ _ _ _ _ _ _ _ (mkF m 26 #[.val (.ref a), .val (.ref s1), .val (.ref s2), .val (.ref s3), .val (.int i4), .val (.int i5)] [(.ref a)])
  refine Go.step (fun _ k => XS.iload W.here W.hx rfl (W.d dth_26) rfl k) ?_
  show Go _ _ _ _ _ _ _ _ _ _ (mkF m 28 #[.val (.ref a), .val (.ref s1), .val (.ref s2), .val (.ref s3), .val (.int i4), .val (.int i5)] [(.int i5), (.ref a)])
  refine W.putF (host := "") (Or.inl (X.w 61 rfl)) Via.refl F_end A (Or.inr ⟨(X.w 62 rfl), rfl, rfl⟩) (X.w 47 rfl) (ty := .int) (by decide) rfl rfl ga (Safe.exa W.hZ.alike A (by decide) (by decide)) dth_28 ?_
  intro T h W Wr5 F_end'
  replace F_list := F_list.other Wr5 (Or.inr (slot_ne (Or.inr (X.w 56 rfl)) (Or.inr (X.w 62 rfl)) (by decide) (t := (.object "java/lang/String")) (t' := .int) (by decide) (by decide)))
  replace F_word := F_word.other Wr5 (Or.inr (slot_ne (Or.inr (X.w 54 rfl)) (Or.inr (X.w 62 rfl)) (by decide) (t := (.object "java/lang/String")) (t' := .int) (by decide) (by decide)))
  replace F_label := F_label.other Wr5 (Or.inr (slot_ne (Or.inr (X.w 58 rfl)) (Or.inr (X.w 62 rfl)) (by decide) (t := (.object "java/lang/String")) (t' := .int) (by decide) (by decide)))
  replace F_start := F_start.other Wr5 (Or.inr (slot_ne (Or.inr (X.w 60 rfl)) (Or.inr (X.w 62 rfl)) (by decide) (t := .int) (t' := .int) (by decide) (by decide)))
  replace KP := KP.otrM (Keep.of_wr Wr5) (by simp)
  replace A := A.keep (Keep.of_wr Wr5)
  replace hsz := W.size
  replace F_end := F_end'
  show Go _ _ _ _ _ _ _ _ _ _ (mkF m 31 #[.val (.ref a), .val (.ref s1), .val (.ref s2), .val (.ref s3), .val (.int i4), .val (.int i5)] [])
  exact W.retV dth_31 (⟨rfl, KP, F_word, F_list, F_label, F_start, F_end⟩) (by decide) (by decide)
theorem ef0 (m : MethodId) (x0 : Int64) (x1 : Int64) (x2 : Int32) (x3 : Int32) (x4 : Int32) (x5 : Int32) : entryFrame m #[(.long x0), (.long x1), (.int x2), (.int x3), (.int x4), (.int x5)] maxLocals = mkF m 0 #[.val (.long x0), .second, .val (.long x1), .second, .val (.int x2), .val (.int x3), .val (.int x4), .val (.int x5), .unset, .unset, .unset, .unset, .unset, .unset, .unset, .unset, .unset, .unset, .unset, .unset, .unset, .unset, .unset, .unset, .unset, .unset, .unset, .unset, .unset] [] := by first | (simp [entryFrame, mkF, argsToLocals, Value.category, maxLocals]; done) | rfl
set_option maxRecDepth 65536 in
set_option maxHeartbeats 40000000 in
theorem c_law {l : Launch} {Z : State} {a0 : Array Value} {G1 : Int32} (X : Ctx Z a0 G1) (q0 q1 : Int64) (i1 i2 i3 i4 : Int32) (h0 : Heap) (hE : Ext Z.heap h0)  :
    Con l Z consts_1 x code maxLocals ret tables_1 room_1 #[(.long q0), (.long q1), (.int i1), (.int i2), (.int i3), (.int i4)] h0 (fun v _ => v = some (.int 1)) := by
  refine Con.intro (plainFor_of_name pn_1) hE X.el ?_
  intro p e s m below meth c T W
  have hsz := W.size
  refine Go.cast (ef0 m q0 q1 i1 i2 i3 i4) ?_
  refine Go.step (fun _ k => XS.lloadN W.here W.hx rfl (W.d at_0) rfl k) ?_
  show Go _ _ _ _ _ _ _ _ _ _ (mkF m 1 #[.val (.long q0), .second, .val (.long q1), .second, .val (.int i1), .val (.int i2), .val (.int i3), .val (.int i4), .unset, .unset, .unset, .unset, .unset, .unset, .unset, .unset, .unset, .unset, .unset, .unset, .unset, .unset, .unset, .unset, .unset, .unset, .unset, .unset, .unset] [(.long q0)])
  refine Go.step (fun _ k => XS.bipush W.here W.hx rfl (W.d at_1) k) ?_
  show Go _ _ _ _ _ _ _ _ _ _ (mkF m 3 #[.val (.long q0), .second, .val (.long q1), .second, .val (.int i1), .val (.int i2), .val (.int i3), .val (.int i4), .unset, .unset, .unset, .unset, .unset, .unset, .unset, .unset, .unset, .unset, .unset, .unset, .unset, .unset, .unset, .unset, .unset, .unset, .unset, .unset, .unset] [(.int (54 : Int32)), (.long q0)])
  refine Go.step (fun _ k => XS.lushr W.here W.hx rfl (W.d at_3) rfl k) ?_
  show Go _ _ _ _ _ _ _ _ _ _ (mkF m 4 #[.val (.long q0), .second, .val (.long q1), .second, .val (.int i1), .val (.int i2), .val (.int i3), .val (.int i4), .unset, .unset, .unset, .unset, .unset, .unset, .unset, .unset, .unset, .unset, .unset, .unset, .unset, .unset, .unset, .unset, .unset, .unset, .unset, .unset, .unset] [(.long ((q0.toUInt64 >>> ((54 : Int32) &&& 0x3f).toInt64.toUInt64).toInt64))])
  refine W.ldc2 (X.w 0 rfl) at_4 ?_
  show Go _ _ _ _ _ _ _ _ _ _ (mkF m 7 #[.val (.long q0), .second, .val (.long q1), .second, .val (.int i1), .val (.int i2), .val (.int i3), .val (.int i4), .unset, .unset, .unset, .unset, .unset, .unset, .unset, .unset, .unset, .unset, .unset, .unset, .unset, .unset, .unset, .unset, .unset, .unset, .unset, .unset, .unset] [(.long (1023 : Int64)), (.long ((q0.toUInt64 >>> ((54 : Int32) &&& 0x3f).toInt64.toUInt64).toInt64))])
  refine Go.step (fun _ k => XS.land W.here W.hx rfl (W.d at_7) rfl k) ?_
  show Go _ _ _ _ _ _ _ _ _ _ (mkF m 8 #[.val (.long q0), .second, .val (.long q1), .second, .val (.int i1), .val (.int i2), .val (.int i3), .val (.int i4), .unset, .unset, .unset, .unset, .unset, .unset, .unset, .unset, .unset, .unset, .unset, .unset, .unset, .unset, .unset, .unset, .unset, .unset, .unset, .unset, .unset] [(.long (((q0.toUInt64 >>> ((54 : Int32) &&& 0x3f).toInt64.toUInt64).toInt64) &&& (1023 : Int64)))])
  refine Go.step (fun _ k => XS.l2i W.here W.hx rfl (W.d at_8) rfl k) ?_
  show Go _ _ _ _ _ _ _ _ _ _ (mkF m 9 #[.val (.long q0), .second, .val (.long q1), .second, .val (.int i1), .val (.int i2), .val (.int i3), .val (.int i4), .unset, .unset, .unset, .unset, .unset, .unset, .unset, .unset, .unset, .unset, .unset, .unset, .unset, .unset, .unset, .unset, .unset, .unset, .unset, .unset, .unset] [(.int ((((q0.toUInt64 >>> ((54 : Int32) &&& 0x3f).toInt64.toUInt64).toInt64) &&& (1023 : Int64)).toInt32))])
  refine Go.step (fun _ k => XS.istore W.here W.hx rfl (W.d at_9) rfl (l' := #[.val (.long q0), .second, .val (.long q1), .second, .val (.int i1), .val (.int i2), .val (.int i3), .val (.int i4), .val (.int ((((q0.toUInt64 >>> ((54 : Int32) &&& 0x3f).toInt64.toUInt64).toInt64) &&& (1023 : Int64)).toInt32)), .unset, .unset, .unset, .unset, .unset, .unset, .unset, .unset, .unset, .unset, .unset, .unset, .unset, .unset, .unset, .unset, .unset, .unset, .unset, .unset]) rfl k) ?_
  show Go _ _ _ _ _ _ _ _ _ _ (mkF m 11 #[.val (.long q0), .second, .val (.long q1), .second, .val (.int i1), .val (.int i2), .val (.int i3), .val (.int i4), .val (.int ((((q0.toUInt64 >>> ((54 : Int32) &&& 0x3f).toInt64.toUInt64).toInt64) &&& (1023 : Int64)).toInt32)), .unset, .unset, .unset, .unset, .unset, .unset, .unset, .unset, .unset, .unset, .unset, .unset, .unset, .unset, .unset, .unset, .unset, .unset, .unset, .unset] [])
  generalize ((((q0.toUInt64 >>> ((54 : Int32) &&& 0x3f).toInt64.toUInt64).toInt64) &&& (1023 : Int64)).toInt32) = ff
  have J23 : ∀ (T : State) (vm : Vm) (sw : Int32), Wk p l e room_1 s m #[(.long q0), (.long q1), (.int i1), (.int i2), (.int i3), (.int i4)] below meth c Z a0 consts_1 x code maxLocals ret T h0 vm 0 0 → True → Go p e below s Z consts_1 room_1.cells room_1.slots (fun v _ => v = some (.int 1)) T (mkF m 23 #[.val (.long q0), .second, .val (.long q1), .second, .val (.int i1), .val (.int i2), .val (.int i3), .val (.int i4), .val (.int ff), .unset, .unset, .unset, .unset, .unset, .unset, .unset, .unset, .unset, .unset, .unset, .unset, .unset, .unset, .unset, .unset, .unset, .unset, .unset, .unset] [(.int sw)]) := by
    intro T vm sw W t_sw
    refine Go.step (fun _ k => XS.istore W.here W.hx rfl (W.d at_23) rfl (l' := #[.val (.long q0), .second, .val (.long q1), .second, .val (.int i1), .val (.int i2), .val (.int i3), .val (.int i4), .val (.int ff), .val (.int sw), .unset, .unset, .unset, .unset, .unset, .unset, .unset, .unset, .unset, .unset, .unset, .unset, .unset, .unset, .unset, .unset, .unset, .unset, .unset]) rfl k) ?_
    show Go _ _ _ _ _ _ _ _ _ _ (mkF m 25 #[.val (.long q0), .second, .val (.long q1), .second, .val (.int i1), .val (.int i2), .val (.int i3), .val (.int i4), .val (.int ff), .val (.int sw), .unset, .unset, .unset, .unset, .unset, .unset, .unset, .unset, .unset, .unset, .unset, .unset, .unset, .unset, .unset, .unset, .unset, .unset, .unset] [])
    have J39 : ∀ (T : State) (vm : Vm) (sl : Int32), Wk p l e room_1 s m #[(.long q0), (.long q1), (.int i1), (.int i2), (.int i3), (.int i4)] below meth c Z a0 consts_1 x code maxLocals ret T h0 vm 0 0 → True → Go p e below s Z consts_1 room_1.cells room_1.slots (fun v _ => v = some (.int 1)) T (mkF m 39 #[.val (.long q0), .second, .val (.long q1), .second, .val (.int i1), .val (.int i2), .val (.int i3), .val (.int i4), .val (.int ff), .val (.int sw), .unset, .unset, .unset, .unset, .unset, .unset, .unset, .unset, .unset, .unset, .unset, .unset, .unset, .unset, .unset, .unset, .unset, .unset, .unset] [(.int sl)]) := by
      intro T vm sl W t_sl
      refine Go.step (fun _ k => XS.istore W.here W.hx rfl (W.d at_39) rfl (l' := #[.val (.long q0), .second, .val (.long q1), .second, .val (.int i1), .val (.int i2), .val (.int i3), .val (.int i4), .val (.int ff), .val (.int sw), .val (.int sl), .unset, .unset, .unset, .unset, .unset, .unset, .unset, .unset, .unset, .unset, .unset, .unset, .unset, .unset, .unset, .unset, .unset, .unset]) rfl k) ?_
      show Go _ _ _ _ _ _ _ _ _ _ (mkF m 41 #[.val (.long q0), .second, .val (.long q1), .second, .val (.int i1), .val (.int i2), .val (.int i3), .val (.int i4), .val (.int ff), .val (.int sw), .val (.int sl), .unset, .unset, .unset, .unset, .unset, .unset, .unset, .unset, .unset, .unset, .unset, .unset, .unset, .unset, .unset, .unset, .unset, .unset] [])
      have J55 : ∀ (T : State) (vm : Vm) (sb : Int32), Wk p l e room_1 s m #[(.long q0), (.long q1), (.int i1), (.int i2), (.int i3), (.int i4)] below meth c Z a0 consts_1 x code maxLocals ret T h0 vm 0 0 → True → Go p e below s Z consts_1 room_1.cells room_1.slots (fun v _ => v = some (.int 1)) T (mkF m 55 #[.val (.long q0), .second, .val (.long q1), .second, .val (.int i1), .val (.int i2), .val (.int i3), .val (.int i4), .val (.int ff), .val (.int sw), .val (.int sl), .unset, .unset, .unset, .unset, .unset, .unset, .unset, .unset, .unset, .unset, .unset, .unset, .unset, .unset, .unset, .unset, .unset, .unset] [(.int sb)]) := by
        intro T vm sb W t_sb
        refine Go.step (fun _ k => XS.istore W.here W.hx rfl (W.d at_55) rfl (l' := #[.val (.long q0), .second, .val (.long q1), .second, .val (.int i1), .val (.int i2), .val (.int i3), .val (.int i4), .val (.int ff), .val (.int sw), .val (.int sl), .val (.int sb), .unset, .unset, .unset, .unset, .unset, .unset, .unset, .unset, .unset, .unset, .unset, .unset, .unset, .unset, .unset, .unset, .unset]) rfl k) ?_
        show Go _ _ _ _ _ _ _ _ _ _ (mkF m 57 #[.val (.long q0), .second, .val (.long q1), .second, .val (.int i1), .val (.int i2), .val (.int i3), .val (.int i4), .val (.int ff), .val (.int sw), .val (.int sl), .val (.int sb), .unset, .unset, .unset, .unset, .unset, .unset, .unset, .unset, .unset, .unset, .unset, .unset, .unset, .unset, .unset, .unset, .unset] [])
        have J71 : ∀ (T : State) (vm : Vm) (ss : Int32), Wk p l e room_1 s m #[(.long q0), (.long q1), (.int i1), (.int i2), (.int i3), (.int i4)] below meth c Z a0 consts_1 x code maxLocals ret T h0 vm 0 0 → True → Go p e below s Z consts_1 room_1.cells room_1.slots (fun v _ => v = some (.int 1)) T (mkF m 71 #[.val (.long q0), .second, .val (.long q1), .second, .val (.int i1), .val (.int i2), .val (.int i3), .val (.int i4), .val (.int ff), .val (.int sw), .val (.int sl), .val (.int sb), .unset, .unset, .unset, .unset, .unset, .unset, .unset, .unset, .unset, .unset, .unset, .unset, .unset, .unset, .unset, .unset, .unset] [(.int ss)]) := by
          intro T vm ss W t_ss
          refine Go.step (fun _ k => XS.istore W.here W.hx rfl (W.d at_71) rfl (l' := #[.val (.long q0), .second, .val (.long q1), .second, .val (.int i1), .val (.int i2), .val (.int i3), .val (.int i4), .val (.int ff), .val (.int sw), .val (.int sl), .val (.int sb), .val (.int ss), .unset, .unset, .unset, .unset, .unset, .unset, .unset, .unset, .unset, .unset, .unset, .unset, .unset, .unset, .unset, .unset]) rfl k) ?_
          show Go _ _ _ _ _ _ _ _ _ _ (mkF m 73 #[.val (.long q0), .second, .val (.long q1), .second, .val (.int i1), .val (.int i2), .val (.int i3), .val (.int i4), .val (.int ff), .val (.int sw), .val (.int sl), .val (.int sb), .val (.int ss), .unset, .unset, .unset, .unset, .unset, .unset, .unset, .unset, .unset, .unset, .unset, .unset, .unset, .unset, .unset, .unset] [])
          have J87 : ∀ (T : State) (vm : Vm) (se : Int32), Wk p l e room_1 s m #[(.long q0), (.long q1), (.int i1), (.int i2), (.int i3), (.int i4)] below meth c Z a0 consts_1 x code maxLocals ret T h0 vm 0 0 → True → Go p e below s Z consts_1 room_1.cells room_1.slots (fun v _ => v = some (.int 1)) T (mkF m 87 #[.val (.long q0), .second, .val (.long q1), .second, .val (.int i1), .val (.int i2), .val (.int i3), .val (.int i4), .val (.int ff), .val (.int sw), .val (.int sl), .val (.int sb), .val (.int ss), .unset, .unset, .unset, .unset, .unset, .unset, .unset, .unset, .unset, .unset, .unset, .unset, .unset, .unset, .unset, .unset] [(.int se)]) := by
            intro T vm se W t_se
            refine Go.step (fun _ k => XS.istore W.here W.hx rfl (W.d at_87) rfl (l' := #[.val (.long q0), .second, .val (.long q1), .second, .val (.int i1), .val (.int i2), .val (.int i3), .val (.int i4), .val (.int ff), .val (.int sw), .val (.int sl), .val (.int sb), .val (.int ss), .val (.int se), .unset, .unset, .unset, .unset, .unset, .unset, .unset, .unset, .unset, .unset, .unset, .unset, .unset, .unset, .unset]) rfl k) ?_
            show Go _ _ _ _ _ _ _ _ _ _ (mkF m 89 #[.val (.long q0), .second, .val (.long q1), .second, .val (.int i1), .val (.int i2), .val (.int i3), .val (.int i4), .val (.int ff), .val (.int sw), .val (.int sl), .val (.int sb), .val (.int ss), .val (.int se), .unset, .unset, .unset, .unset, .unset, .unset, .unset, .unset, .unset, .unset, .unset, .unset, .unset, .unset, .unset] [])
            refine Go.step (fun _ k => XS.iload W.here W.hx rfl (W.d at_89) rfl k) ?_
            show Go _ _ _ _ _ _ _ _ _ _ (mkF m 91 #[.val (.long q0), .second, .val (.long q1), .second, .val (.int i1), .val (.int i2), .val (.int i3), .val (.int i4), .val (.int ff), .val (.int sw), .val (.int sl), .val (.int sb), .val (.int ss), .val (.int se), .unset, .unset, .unset, .unset, .unset, .unset, .unset, .unset, .unset, .unset, .unset, .unset, .unset, .unset, .unset] [(.int ff)])
            refine Go.step (fun _ k => XS.iconst W.here W.hx rfl (W.d at_91) k) ?_
            show Go _ _ _ _ _ _ _ _ _ _ (mkF m 92 #[.val (.long q0), .second, .val (.long q1), .second, .val (.int i1), .val (.int i2), .val (.int i3), .val (.int i4), .val (.int ff), .val (.int sw), .val (.int sl), .val (.int sb), .val (.int ss), .val (.int se), .unset, .unset, .unset, .unset, .unset, .unset, .unset, .unset, .unset, .unset, .unset, .unset, .unset, .unset, .unset] [(.int (5 : Int32)), (.int ff)])
            refine Go.step (fun _ k => XS.iushr W.here W.hx rfl (W.d at_92) rfl k) ?_
            show Go _ _ _ _ _ _ _ _ _ _ (mkF m 93 #[.val (.long q0), .second, .val (.long q1), .second, .val (.int i1), .val (.int i2), .val (.int i3), .val (.int i4), .val (.int ff), .val (.int sw), .val (.int sl), .val (.int sb), .val (.int ss), .val (.int se), .unset, .unset, .unset, .unset, .unset, .unset, .unset, .unset, .unset, .unset, .unset, .unset, .unset, .unset, .unset] [(.int ((ff.toUInt32 >>> ((5 : Int32) &&& 31).toUInt32).toInt32))])
            refine Go.step (fun _ k => XS.bipush W.here W.hx rfl (W.d at_93) k) ?_
            show Go _ _ _ _ _ _ _ _ _ _ (mkF m 95 #[.val (.long q0), .second, .val (.long q1), .second, .val (.int i1), .val (.int i2), .val (.int i3), .val (.int i4), .val (.int ff), .val (.int sw), .val (.int sl), .val (.int sb), .val (.int ss), .val (.int se), .unset, .unset, .unset, .unset, .unset, .unset, .unset, .unset, .unset, .unset, .unset, .unset, .unset, .unset, .unset] [(.int (7 : Int32)), (.int ((ff.toUInt32 >>> ((5 : Int32) &&& 31).toUInt32).toInt32))])
            refine Go.step (fun _ k => XS.iand W.here W.hx rfl (W.d at_95) rfl k) ?_
            show Go _ _ _ _ _ _ _ _ _ _ (mkF m 96 #[.val (.long q0), .second, .val (.long q1), .second, .val (.int i1), .val (.int i2), .val (.int i3), .val (.int i4), .val (.int ff), .val (.int sw), .val (.int sl), .val (.int sb), .val (.int ss), .val (.int se), .unset, .unset, .unset, .unset, .unset, .unset, .unset, .unset, .unset, .unset, .unset, .unset, .unset, .unset, .unset] [(.int (((ff.toUInt32 >>> ((5 : Int32) &&& 31).toUInt32).toInt32) &&& (7 : Int32)))])
            refine Go.step (fun _ k => XS.istore W.here W.hx rfl (W.d at_96) rfl (l' := #[.val (.long q0), .second, .val (.long q1), .second, .val (.int i1), .val (.int i2), .val (.int i3), .val (.int i4), .val (.int ff), .val (.int sw), .val (.int sl), .val (.int sb), .val (.int ss), .val (.int se), .val (.int (((ff.toUInt32 >>> ((5 : Int32) &&& 31).toUInt32).toInt32) &&& (7 : Int32))), .unset, .unset, .unset, .unset, .unset, .unset, .unset, .unset, .unset, .unset, .unset, .unset, .unset, .unset]) rfl k) ?_
            show Go _ _ _ _ _ _ _ _ _ _ (mkF m 98 #[.val (.long q0), .second, .val (.long q1), .second, .val (.int i1), .val (.int i2), .val (.int i3), .val (.int i4), .val (.int ff), .val (.int sw), .val (.int sl), .val (.int sb), .val (.int ss), .val (.int se), .val (.int (((ff.toUInt32 >>> ((5 : Int32) &&& 31).toUInt32).toInt32) &&& (7 : Int32))), .unset, .unset, .unset, .unset, .unset, .unset, .unset, .unset, .unset, .unset, .unset, .unset, .unset, .unset] [])
            generalize (((ff.toUInt32 >>> ((5 : Int32) &&& 31).toUInt32).toInt32) &&& (7 : Int32)) = kd
            refine Go.step (fun _ k => XS.lloadN W.here W.hx rfl (W.d at_98) rfl k) ?_
            show Go _ _ _ _ _ _ _ _ _ _ (mkF m 99 #[.val (.long q0), .second, .val (.long q1), .second, .val (.int i1), .val (.int i2), .val (.int i3), .val (.int i4), .val (.int ff), .val (.int sw), .val (.int sl), .val (.int sb), .val (.int ss), .val (.int se), .val (.int kd), .unset, .unset, .unset, .unset, .unset, .unset, .unset, .unset, .unset, .unset, .unset, .unset, .unset, .unset] [(.long q0)])
            refine Go.step (fun _ k => XS.iconst W.here W.hx rfl (W.d at_99) k) ?_
            show Go _ _ _ _ _ _ _ _ _ _ (mkF m 100 #[.val (.long q0), .second, .val (.long q1), .second, .val (.int i1), .val (.int i2), .val (.int i3), .val (.int i4), .val (.int ff), .val (.int sw), .val (.int sl), .val (.int sb), .val (.int ss), .val (.int se), .val (.int kd), .unset, .unset, .unset, .unset, .unset, .unset, .unset, .unset, .unset, .unset, .unset, .unset, .unset, .unset] [(.int (0 : Int32)), (.long q0)])
            refine W.callS (X.w 1 rfl) (X.w 2 rfl) (X.w 3 rfl) (X.w 4 rfl) (by decide) (c_str X q0 (0 : Int32) _ W.ext) (by decide) (Wd := 0) (by decide) [(.long q0), (.int (0 : Int32))] [] rfl pd_4 rfl rfl rfl (Nat.le_of_eq rfl) at_100 (by decide) (by decide) ?_
            intro v T h vm W hQ C
            obtain ⟨b1, rfl, gb1, Kb1, Sb1⟩ := hQ
            replace hsz := W.size
            show Go _ _ _ _ _ _ _ _ _ _ (mkF m 103 #[.val (.long q0), .second, .val (.long q1), .second, .val (.int i1), .val (.int i2), .val (.int i3), .val (.int i4), .val (.int ff), .val (.int sw), .val (.int sl), .val (.int sb), .val (.int ss), .val (.int se), .val (.int kd), .unset, .unset, .unset, .unset, .unset, .unset, .unset, .unset, .unset, .unset, .unset, .unset, .unset, .unset] [(.ref b1)])
            refine Go.step (fun _ k => XS.astore W.here W.hx rfl (W.d at_103) rfl rfl (l' := #[.val (.long q0), .second, .val (.long q1), .second, .val (.int i1), .val (.int i2), .val (.int i3), .val (.int i4), .val (.int ff), .val (.int sw), .val (.int sl), .val (.int sb), .val (.int ss), .val (.int se), .val (.int kd), .val (.ref b1), .unset, .unset, .unset, .unset, .unset, .unset, .unset, .unset, .unset, .unset, .unset, .unset, .unset]) rfl k) ?_
            show Go _ _ _ _ _ _ _ _ _ _ (mkF m 105 #[.val (.long q0), .second, .val (.long q1), .second, .val (.int i1), .val (.int i2), .val (.int i3), .val (.int i4), .val (.int ff), .val (.int sw), .val (.int sl), .val (.int sb), .val (.int ss), .val (.int se), .val (.int kd), .val (.ref b1), .unset, .unset, .unset, .unset, .unset, .unset, .unset, .unset, .unset, .unset, .unset, .unset, .unset] [])
            refine Go.step (fun _ k => XS.lloadN W.here W.hx rfl (W.d at_105) rfl k) ?_
            show Go _ _ _ _ _ _ _ _ _ _ (mkF m 106 #[.val (.long q0), .second, .val (.long q1), .second, .val (.int i1), .val (.int i2), .val (.int i3), .val (.int i4), .val (.int ff), .val (.int sw), .val (.int sl), .val (.int sb), .val (.int ss), .val (.int se), .val (.int kd), .val (.ref b1), .unset, .unset, .unset, .unset, .unset, .unset, .unset, .unset, .unset, .unset, .unset, .unset, .unset] [(.long q0)])
            refine Go.step (fun _ k => XS.bipush W.here W.hx rfl (W.d at_106) k) ?_
            show Go _ _ _ _ _ _ _ _ _ _ (mkF m 108 #[.val (.long q0), .second, .val (.long q1), .second, .val (.int i1), .val (.int i2), .val (.int i3), .val (.int i4), .val (.int ff), .val (.int sw), .val (.int sl), .val (.int sb), .val (.int ss), .val (.int se), .val (.int kd), .val (.ref b1), .unset, .unset, .unset, .unset, .unset, .unset, .unset, .unset, .unset, .unset, .unset, .unset, .unset] [(.int (18 : Int32)), (.long q0)])
            refine W.callS (X.w 1 rfl) (X.w 2 rfl) (X.w 3 rfl) (X.w 4 rfl) (by decide) (c_str X q0 (18 : Int32) _ W.ext) (by decide) (Wd := 0) (by decide) [(.long q0), (.int (18 : Int32))] [] rfl pd_4 rfl rfl rfl (Nat.le_of_eq rfl) at_108 (by decide) (by decide) ?_
            intro v T h vm W hQ C
            obtain ⟨b2, rfl, gb2, Kb2, Sb2⟩ := hQ
            replace Sb1 := Sb1.keep0 Kb2
            replace hsz := W.size
            show Go _ _ _ _ _ _ _ _ _ _ (mkF m 111 #[.val (.long q0), .second, .val (.long q1), .second, .val (.int i1), .val (.int i2), .val (.int i3), .val (.int i4), .val (.int ff), .val (.int sw), .val (.int sl), .val (.int sb), .val (.int ss), .val (.int se), .val (.int kd), .val (.ref b1), .unset, .unset, .unset, .unset, .unset, .unset, .unset, .unset, .unset, .unset, .unset, .unset, .unset] [(.ref b2)])
            refine Go.step (fun _ k => XS.astore W.here W.hx rfl (W.d at_111) rfl rfl (l' := #[.val (.long q0), .second, .val (.long q1), .second, .val (.int i1), .val (.int i2), .val (.int i3), .val (.int i4), .val (.int ff), .val (.int sw), .val (.int sl), .val (.int sb), .val (.int ss), .val (.int se), .val (.int kd), .val (.ref b1), .val (.ref b2), .unset, .unset, .unset, .unset, .unset, .unset, .unset, .unset, .unset, .unset, .unset, .unset]) rfl k) ?_
            show Go _ _ _ _ _ _ _ _ _ _ (mkF m 113 #[.val (.long q0), .second, .val (.long q1), .second, .val (.int i1), .val (.int i2), .val (.int i3), .val (.int i4), .val (.int ff), .val (.int sw), .val (.int sl), .val (.int sb), .val (.int ss), .val (.int se), .val (.int kd), .val (.ref b1), .val (.ref b2), .unset, .unset, .unset, .unset, .unset, .unset, .unset, .unset, .unset, .unset, .unset, .unset] [])
            refine Go.step (fun _ k => XS.lloadN W.here W.hx rfl (W.d at_113) rfl k) ?_
            show Go _ _ _ _ _ _ _ _ _ _ (mkF m 114 #[.val (.long q0), .second, .val (.long q1), .second, .val (.int i1), .val (.int i2), .val (.int i3), .val (.int i4), .val (.int ff), .val (.int sw), .val (.int sl), .val (.int sb), .val (.int ss), .val (.int se), .val (.int kd), .val (.ref b1), .val (.ref b2), .unset, .unset, .unset, .unset, .unset, .unset, .unset, .unset, .unset, .unset, .unset, .unset] [(.long q0)])
            refine Go.step (fun _ k => XS.bipush W.here W.hx rfl (W.d at_114) k) ?_
            show Go _ _ _ _ _ _ _ _ _ _ (mkF m 116 #[.val (.long q0), .second, .val (.long q1), .second, .val (.int i1), .val (.int i2), .val (.int i3), .val (.int i4), .val (.int ff), .val (.int sw), .val (.int sl), .val (.int sb), .val (.int ss), .val (.int se), .val (.int kd), .val (.ref b1), .val (.ref b2), .unset, .unset, .unset, .unset, .unset, .unset, .unset, .unset, .unset, .unset, .unset, .unset] [(.int (36 : Int32)), (.long q0)])
            refine W.callS (X.w 1 rfl) (X.w 2 rfl) (X.w 3 rfl) (X.w 4 rfl) (by decide) (c_str X q0 (36 : Int32) _ W.ext) (by decide) (Wd := 0) (by decide) [(.long q0), (.int (36 : Int32))] [] rfl pd_4 rfl rfl rfl (Nat.le_of_eq rfl) at_116 (by decide) (by decide) ?_
            intro v T h vm W hQ C
            obtain ⟨b3, rfl, gb3, Kb3, Sb3⟩ := hQ
            replace Sb1 := Sb1.keep0 Kb3
            replace Sb2 := Sb2.keep0 Kb3
            replace hsz := W.size
            show Go _ _ _ _ _ _ _ _ _ _ (mkF m 119 #[.val (.long q0), .second, .val (.long q1), .second, .val (.int i1), .val (.int i2), .val (.int i3), .val (.int i4), .val (.int ff), .val (.int sw), .val (.int sl), .val (.int sb), .val (.int ss), .val (.int se), .val (.int kd), .val (.ref b1), .val (.ref b2), .unset, .unset, .unset, .unset, .unset, .unset, .unset, .unset, .unset, .unset, .unset, .unset] [(.ref b3)])
            refine Go.step (fun _ k => XS.astore W.here W.hx rfl (W.d at_119) rfl rfl (l' := #[.val (.long q0), .second, .val (.long q1), .second, .val (.int i1), .val (.int i2), .val (.int i3), .val (.int i4), .val (.int ff), .val (.int sw), .val (.int sl), .val (.int sb), .val (.int ss), .val (.int se), .val (.int kd), .val (.ref b1), .val (.ref b2), .val (.ref b3), .unset, .unset, .unset, .unset, .unset, .unset, .unset, .unset, .unset, .unset, .unset]) rfl k) ?_
            show Go _ _ _ _ _ _ _ _ _ _ (mkF m 121 #[.val (.long q0), .second, .val (.long q1), .second, .val (.int i1), .val (.int i2), .val (.int i3), .val (.int i4), .val (.int ff), .val (.int sw), .val (.int sl), .val (.int sb), .val (.int ss), .val (.int se), .val (.int kd), .val (.ref b1), .val (.ref b2), .val (.ref b3), .unset, .unset, .unset, .unset, .unset, .unset, .unset, .unset, .unset, .unset, .unset] [])
            have J139 : ∀ (T : State) (h : Heap) (vm : Vm) (r1 : Addr) (t1 : List Int32), Wk p l e room_1 s m #[(.long q0), (.long q1), (.int i1), (.int i2), (.int i3), (.int i4)] below meth c Z a0 consts_1 x code maxLocals ret T h vm 24 56 → Str Z h b1 (txt q0 (0 : Int32)) → Str Z h b2 (txt q0 (18 : Int32)) → Str Z h b3 (txt q0 (36 : Int32)) → Str Z h r1 t1 → ((sw = 0 ∧ t1 = txt q1 (0 : Int32)) ∨ (¬ sw = 0 ∧ t1 = txt q0 (0 : Int32))) → Go p e below s Z consts_1 room_1.cells room_1.slots (fun v _ => v = some (.int 1)) T (mkF m 139 #[.val (.long q0), .second, .val (.long q1), .second, .val (.int i1), .val (.int i2), .val (.int i3), .val (.int i4), .val (.int ff), .val (.int sw), .val (.int sl), .val (.int sb), .val (.int ss), .val (.int se), .val (.int kd), .val (.ref b1), .val (.ref b2), .val (.ref b3), .unset, .unset, .unset, .unset, .unset, .unset, .unset, .unset, .unset, .unset, .unset] [(.ref r1)]) := by
              intro T h vm r1 t1 W Sb1 Sb2 Sb3 Sr1 hr1
              have hsz := W.size
              refine Go.step (fun _ k => XS.astore W.here W.hx rfl (W.d at_139) rfl rfl (l' := #[.val (.long q0), .second, .val (.long q1), .second, .val (.int i1), .val (.int i2), .val (.int i3), .val (.int i4), .val (.int ff), .val (.int sw), .val (.int sl), .val (.int sb), .val (.int ss), .val (.int se), .val (.int kd), .val (.ref b1), .val (.ref b2), .val (.ref b3), .val (.ref r1), .unset, .unset, .unset, .unset, .unset, .unset, .unset, .unset, .unset, .unset]) rfl k) ?_
              show Go _ _ _ _ _ _ _ _ _ _ (mkF m 141 #[.val (.long q0), .second, .val (.long q1), .second, .val (.int i1), .val (.int i2), .val (.int i3), .val (.int i4), .val (.int ff), .val (.int sw), .val (.int sl), .val (.int sb), .val (.int ss), .val (.int se), .val (.int kd), .val (.ref b1), .val (.ref b2), .val (.ref b3), .val (.ref r1), .unset, .unset, .unset, .unset, .unset, .unset, .unset, .unset, .unset, .unset] [])
              have J161 : ∀ (T : State) (h : Heap) (vm : Vm) (r2 : Addr) (t2 : List Int32), Wk p l e room_1 s m #[(.long q0), (.long q1), (.int i1), (.int i2), (.int i3), (.int i4)] below meth c Z a0 consts_1 x code maxLocals ret T h vm 30 70 → Str Z h b1 (txt q0 (0 : Int32)) → Str Z h b2 (txt q0 (18 : Int32)) → Str Z h b3 (txt q0 (36 : Int32)) → Str Z h r1 (t1) → Str Z h r2 t2 → ((sl = 0 ∧ t2 = txt q1 (18 : Int32)) ∨ (¬ sl = 0 ∧ t2 = txt q0 (18 : Int32))) → Go p e below s Z consts_1 room_1.cells room_1.slots (fun v _ => v = some (.int 1)) T (mkF m 161 #[.val (.long q0), .second, .val (.long q1), .second, .val (.int i1), .val (.int i2), .val (.int i3), .val (.int i4), .val (.int ff), .val (.int sw), .val (.int sl), .val (.int sb), .val (.int ss), .val (.int se), .val (.int kd), .val (.ref b1), .val (.ref b2), .val (.ref b3), .val (.ref r1), .unset, .unset, .unset, .unset, .unset, .unset, .unset, .unset, .unset, .unset] [(.ref r2)]) := by
                intro T h vm r2 t2 W Sb1 Sb2 Sb3 Sr1 Sr2 hr2
                have hsz := W.size
                refine Go.step (fun _ k => XS.astore W.here W.hx rfl (W.d at_161) rfl rfl (l' := #[.val (.long q0), .second, .val (.long q1), .second, .val (.int i1), .val (.int i2), .val (.int i3), .val (.int i4), .val (.int ff), .val (.int sw), .val (.int sl), .val (.int sb), .val (.int ss), .val (.int se), .val (.int kd), .val (.ref b1), .val (.ref b2), .val (.ref b3), .val (.ref r1), .val (.ref r2), .unset, .unset, .unset, .unset, .unset, .unset, .unset, .unset, .unset]) rfl k) ?_
                show Go _ _ _ _ _ _ _ _ _ _ (mkF m 163 #[.val (.long q0), .second, .val (.long q1), .second, .val (.int i1), .val (.int i2), .val (.int i3), .val (.int i4), .val (.int ff), .val (.int sw), .val (.int sl), .val (.int sb), .val (.int ss), .val (.int se), .val (.int kd), .val (.ref b1), .val (.ref b2), .val (.ref b3), .val (.ref r1), .val (.ref r2), .unset, .unset, .unset, .unset, .unset, .unset, .unset, .unset, .unset] [])
                have J183 : ∀ (T : State) (h : Heap) (vm : Vm) (r3 : Addr) (t3 : List Int32), Wk p l e room_1 s m #[(.long q0), (.long q1), (.int i1), (.int i2), (.int i3), (.int i4)] below meth c Z a0 consts_1 x code maxLocals ret T h vm 36 84 → Str Z h b1 (txt q0 (0 : Int32)) → Str Z h b2 (txt q0 (18 : Int32)) → Str Z h b3 (txt q0 (36 : Int32)) → Str Z h r1 (t1) → Str Z h r2 (t2) → Str Z h r3 t3 → ((sb = 0 ∧ t3 = txt q1 (36 : Int32)) ∨ (¬ sb = 0 ∧ t3 = txt q0 (36 : Int32))) → Go p e below s Z consts_1 room_1.cells room_1.slots (fun v _ => v = some (.int 1)) T (mkF m 183 #[.val (.long q0), .second, .val (.long q1), .second, .val (.int i1), .val (.int i2), .val (.int i3), .val (.int i4), .val (.int ff), .val (.int sw), .val (.int sl), .val (.int sb), .val (.int ss), .val (.int se), .val (.int kd), .val (.ref b1), .val (.ref b2), .val (.ref b3), .val (.ref r1), .val (.ref r2), .unset, .unset, .unset, .unset, .unset, .unset, .unset, .unset, .unset] [(.ref r3)]) := by
                  intro T h vm r3 t3 W Sb1 Sb2 Sb3 Sr1 Sr2 Sr3 hr3
                  have hsz := W.size
                  refine Go.step (fun _ k => XS.astore W.here W.hx rfl (W.d at_183) rfl rfl (l' := #[.val (.long q0), .second, .val (.long q1), .second, .val (.int i1), .val (.int i2), .val (.int i3), .val (.int i4), .val (.int ff), .val (.int sw), .val (.int sl), .val (.int sb), .val (.int ss), .val (.int se), .val (.int kd), .val (.ref b1), .val (.ref b2), .val (.ref b3), .val (.ref r1), .val (.ref r2), .val (.ref r3), .unset, .unset, .unset, .unset, .unset, .unset, .unset, .unset]) rfl k) ?_
                  show Go _ _ _ _ _ _ _ _ _ _ (mkF m 185 #[.val (.long q0), .second, .val (.long q1), .second, .val (.int i1), .val (.int i2), .val (.int i3), .val (.int i4), .val (.int ff), .val (.int sw), .val (.int sl), .val (.int sb), .val (.int ss), .val (.int se), .val (.int kd), .val (.ref b1), .val (.ref b2), .val (.ref b3), .val (.ref r1), .val (.ref r2), .val (.ref r3), .unset, .unset, .unset, .unset, .unset, .unset, .unset, .unset] [])
                  have J204 : ∀ (T : State) (vm : Vm) (e1 : Int32), Wk p l e room_1 s m #[(.long q0), (.long q1), (.int i1), (.int i2), (.int i3), (.int i4)] below meth c Z a0 consts_1 x code maxLocals ret T h vm 36 84 → ((e1 = 1 ∧ txt q0 (0 : Int32) = t1) ∨ (e1 = 0 ∧ ¬ txt q0 (0 : Int32) = t1)) → Go p e below s Z consts_1 room_1.cells room_1.slots (fun v _ => v = some (.int 1)) T (mkF m 204 #[.val (.long q0), .second, .val (.long q1), .second, .val (.int i1), .val (.int i2), .val (.int i3), .val (.int i4), .val (.int ff), .val (.int sw), .val (.int sl), .val (.int sb), .val (.int ss), .val (.int se), .val (.int kd), .val (.ref b1), .val (.ref b2), .val (.ref b3), .val (.ref r1), .val (.ref r2), .val (.ref r3), .unset, .unset, .unset, .unset, .unset, .unset, .unset, .unset] [(.int e1)]) := by
                    intro T vm e1 W he1
                    refine Go.step (fun _ k => XS.istore W.here W.hx rfl (W.d at_204) rfl (l' := #[.val (.long q0), .second, .val (.long q1), .second, .val (.int i1), .val (.int i2), .val (.int i3), .val (.int i4), .val (.int ff), .val (.int sw), .val (.int sl), .val (.int sb), .val (.int ss), .val (.int se), .val (.int kd), .val (.ref b1), .val (.ref b2), .val (.ref b3), .val (.ref r1), .val (.ref r2), .val (.ref r3), .val (.int e1), .unset, .unset, .unset, .unset, .unset, .unset, .unset]) rfl k) ?_
                    show Go _ _ _ _ _ _ _ _ _ _ (mkF m 206 #[.val (.long q0), .second, .val (.long q1), .second, .val (.int i1), .val (.int i2), .val (.int i3), .val (.int i4), .val (.int ff), .val (.int sw), .val (.int sl), .val (.int sb), .val (.int ss), .val (.int se), .val (.int kd), .val (.ref b1), .val (.ref b2), .val (.ref b3), .val (.ref r1), .val (.ref r2), .val (.ref r3), .val (.int e1), .unset, .unset, .unset, .unset, .unset, .unset, .unset] [])
                    have J226 : ∀ (T : State) (vm : Vm) (e2 : Int32), Wk p l e room_1 s m #[(.long q0), (.long q1), (.int i1), (.int i2), (.int i3), (.int i4)] below meth c Z a0 consts_1 x code maxLocals ret T h vm 36 84 → ((e2 = 1 ∧ txt q0 (18 : Int32) = t2) ∨ (e2 = 0 ∧ ¬ txt q0 (18 : Int32) = t2)) → Go p e below s Z consts_1 room_1.cells room_1.slots (fun v _ => v = some (.int 1)) T (mkF m 226 #[.val (.long q0), .second, .val (.long q1), .second, .val (.int i1), .val (.int i2), .val (.int i3), .val (.int i4), .val (.int ff), .val (.int sw), .val (.int sl), .val (.int sb), .val (.int ss), .val (.int se), .val (.int kd), .val (.ref b1), .val (.ref b2), .val (.ref b3), .val (.ref r1), .val (.ref r2), .val (.ref r3), .val (.int e1), .unset, .unset, .unset, .unset, .unset, .unset, .unset] [(.int e2)]) := by
                      intro T vm e2 W he2
                      refine Go.step (fun _ k => XS.istore W.here W.hx rfl (W.d at_226) rfl (l' := #[.val (.long q0), .second, .val (.long q1), .second, .val (.int i1), .val (.int i2), .val (.int i3), .val (.int i4), .val (.int ff), .val (.int sw), .val (.int sl), .val (.int sb), .val (.int ss), .val (.int se), .val (.int kd), .val (.ref b1), .val (.ref b2), .val (.ref b3), .val (.ref r1), .val (.ref r2), .val (.ref r3), .val (.int e1), .val (.int e2), .unset, .unset, .unset, .unset, .unset, .unset]) rfl k) ?_
                      show Go _ _ _ _ _ _ _ _ _ _ (mkF m 228 #[.val (.long q0), .second, .val (.long q1), .second, .val (.int i1), .val (.int i2), .val (.int i3), .val (.int i4), .val (.int ff), .val (.int sw), .val (.int sl), .val (.int sb), .val (.int ss), .val (.int se), .val (.int kd), .val (.ref b1), .val (.ref b2), .val (.ref b3), .val (.ref r1), .val (.ref r2), .val (.ref r3), .val (.int e1), .val (.int e2), .unset, .unset, .unset, .unset, .unset, .unset] [])
                      have J248 : ∀ (T : State) (vm : Vm) (e3 : Int32), Wk p l e room_1 s m #[(.long q0), (.long q1), (.int i1), (.int i2), (.int i3), (.int i4)] below meth c Z a0 consts_1 x code maxLocals ret T h vm 36 84 → ((e3 = 1 ∧ txt q0 (36 : Int32) = t3) ∨ (e3 = 0 ∧ ¬ txt q0 (36 : Int32) = t3)) → Go p e below s Z consts_1 room_1.cells room_1.slots (fun v _ => v = some (.int 1)) T (mkF m 248 #[.val (.long q0), .second, .val (.long q1), .second, .val (.int i1), .val (.int i2), .val (.int i3), .val (.int i4), .val (.int ff), .val (.int sw), .val (.int sl), .val (.int sb), .val (.int ss), .val (.int se), .val (.int kd), .val (.ref b1), .val (.ref b2), .val (.ref b3), .val (.ref r1), .val (.ref r2), .val (.ref r3), .val (.int e1), .val (.int e2), .unset, .unset, .unset, .unset, .unset, .unset] [(.int e3)]) := by
                        intro T vm e3 W he3
                        refine Go.step (fun _ k => XS.istore W.here W.hx rfl (W.d at_248) rfl (l' := #[.val (.long q0), .second, .val (.long q1), .second, .val (.int i1), .val (.int i2), .val (.int i3), .val (.int i4), .val (.int ff), .val (.int sw), .val (.int sl), .val (.int sb), .val (.int ss), .val (.int se), .val (.int kd), .val (.ref b1), .val (.ref b2), .val (.ref b3), .val (.ref r1), .val (.ref r2), .val (.ref r3), .val (.int e1), .val (.int e2), .val (.int e3), .unset, .unset, .unset, .unset, .unset]) rfl k) ?_
                        show Go _ _ _ _ _ _ _ _ _ _ (mkF m 250 #[.val (.long q0), .second, .val (.long q1), .second, .val (.int i1), .val (.int i2), .val (.int i3), .val (.int i4), .val (.int ff), .val (.int sw), .val (.int sl), .val (.int sb), .val (.int ss), .val (.int se), .val (.int kd), .val (.ref b1), .val (.ref b2), .val (.ref b3), .val (.ref r1), .val (.ref r2), .val (.ref r3), .val (.int e1), .val (.int e2), .val (.int e3), .unset, .unset, .unset, .unset, .unset] [])
                        have J262 : ∀ (T : State) (vm : Vm) (u1 : Int32), Wk p l e room_1 s m #[(.long q0), (.long q1), (.int i1), (.int i2), (.int i3), (.int i4)] below meth c Z a0 consts_1 x code maxLocals ret T h vm 36 84 → True → Go p e below s Z consts_1 room_1.cells room_1.slots (fun v _ => v = some (.int 1)) T (mkF m 262 #[.val (.long q0), .second, .val (.long q1), .second, .val (.int i1), .val (.int i2), .val (.int i3), .val (.int i4), .val (.int ff), .val (.int sw), .val (.int sl), .val (.int sb), .val (.int ss), .val (.int se), .val (.int kd), .val (.ref b1), .val (.ref b2), .val (.ref b3), .val (.ref r1), .val (.ref r2), .val (.ref r3), .val (.int e1), .val (.int e2), .val (.int e3), .unset, .unset, .unset, .unset, .unset] [(.int u1)]) := by
                          intro T vm u1 W t_u1
                          refine Go.step (fun _ k => XS.istore W.here W.hx rfl (W.d at_262) rfl (l' := #[.val (.long q0), .second, .val (.long q1), .second, .val (.int i1), .val (.int i2), .val (.int i3), .val (.int i4), .val (.int ff), .val (.int sw), .val (.int sl), .val (.int sb), .val (.int ss), .val (.int se), .val (.int kd), .val (.ref b1), .val (.ref b2), .val (.ref b3), .val (.ref r1), .val (.ref r2), .val (.ref r3), .val (.int e1), .val (.int e2), .val (.int e3), .val (.int u1), .unset, .unset, .unset, .unset]) rfl k) ?_
                          show Go _ _ _ _ _ _ _ _ _ _ (mkF m 264 #[.val (.long q0), .second, .val (.long q1), .second, .val (.int i1), .val (.int i2), .val (.int i3), .val (.int i4), .val (.int ff), .val (.int sw), .val (.int sl), .val (.int sb), .val (.int ss), .val (.int se), .val (.int kd), .val (.ref b1), .val (.ref b2), .val (.ref b3), .val (.ref r1), .val (.ref r2), .val (.ref r3), .val (.int e1), .val (.int e2), .val (.int e3), .val (.int u1), .unset, .unset, .unset, .unset] [])
                          have J276 : ∀ (T : State) (vm : Vm) (u2 : Int32), Wk p l e room_1 s m #[(.long q0), (.long q1), (.int i1), (.int i2), (.int i3), (.int i4)] below meth c Z a0 consts_1 x code maxLocals ret T h vm 36 84 → True → Go p e below s Z consts_1 room_1.cells room_1.slots (fun v _ => v = some (.int 1)) T (mkF m 276 #[.val (.long q0), .second, .val (.long q1), .second, .val (.int i1), .val (.int i2), .val (.int i3), .val (.int i4), .val (.int ff), .val (.int sw), .val (.int sl), .val (.int sb), .val (.int ss), .val (.int se), .val (.int kd), .val (.ref b1), .val (.ref b2), .val (.ref b3), .val (.ref r1), .val (.ref r2), .val (.ref r3), .val (.int e1), .val (.int e2), .val (.int e3), .val (.int u1), .unset, .unset, .unset, .unset] [(.int u2)]) := by
                            intro T vm u2 W t_u2
                            refine Go.step (fun _ k => XS.istore W.here W.hx rfl (W.d at_276) rfl (l' := #[.val (.long q0), .second, .val (.long q1), .second, .val (.int i1), .val (.int i2), .val (.int i3), .val (.int i4), .val (.int ff), .val (.int sw), .val (.int sl), .val (.int sb), .val (.int ss), .val (.int se), .val (.int kd), .val (.ref b1), .val (.ref b2), .val (.ref b3), .val (.ref r1), .val (.ref r2), .val (.ref r3), .val (.int e1), .val (.int e2), .val (.int e3), .val (.int u1), .val (.int u2), .unset, .unset, .unset]) rfl k) ?_
                            show Go _ _ _ _ _ _ _ _ _ _ (mkF m 278 #[.val (.long q0), .second, .val (.long q1), .second, .val (.int i1), .val (.int i2), .val (.int i3), .val (.int i4), .val (.int ff), .val (.int sw), .val (.int sl), .val (.int sb), .val (.int ss), .val (.int se), .val (.int kd), .val (.ref b1), .val (.ref b2), .val (.ref b3), .val (.ref r1), .val (.ref r2), .val (.ref r3), .val (.int e1), .val (.int e2), .val (.int e3), .val (.int u1), .val (.int u2), .unset, .unset, .unset] [])
                            refine W.new (X.w 46 rfl) (X.w 47 rfl) (X.w 48 rfl) at_278 (by decide) (by decide) ?_
                            intro T h b4 hb4 W Eb4 Ab4 Db4
                            have ne_b1_b4 : b1 ≠ b4 := by rw [hb4]; exact Nat.ne_of_lt Sb1.exa.lt
                            have ne_b2_b4 : b2 ≠ b4 := by rw [hb4]; exact Nat.ne_of_lt Sb2.exa.lt
                            have ne_b3_b4 : b3 ≠ b4 := by rw [hb4]; exact Nat.ne_of_lt Sb3.exa.lt
                            have ne_r1_b4 : r1 ≠ b4 := by rw [hb4]; exact Nat.ne_of_lt Sr1.exa.lt
                            have ne_r2_b4 : r2 ≠ b4 := by rw [hb4]; exact Nat.ne_of_lt Sr2.exa.lt
                            have ne_r3_b4 : r3 ≠ b4 := by rw [hb4]; exact Nat.ne_of_lt Sr3.exa.lt
                            have gb4 : Z.heap.size ≤ b4 := by rw [hb4]; exact hsz
                            replace Sb1 := Sb1.ext Eb4
                            replace Sb2 := Sb2.ext Eb4
                            replace Sb3 := Sb3.ext Eb4
                            replace Sr1 := Sr1.ext Eb4
                            replace Sr2 := Sr2.ext Eb4
                            replace Sr3 := Sr3.ext Eb4
                            replace hsz := W.size
                            have F_word_b4 : Fld Z h b4 "com/example/moderato/moderato/client/TextHit" "word" "Ljava/lang/String;" .null := Db4 (Or.inr (X.w 54 rfl)) (ty := (.object "java/lang/String")) (by decide)
                            have F_list_b4 : Fld Z h b4 "com/example/moderato/moderato/client/TextHit" "list" "Ljava/lang/String;" .null := Db4 (Or.inr (X.w 56 rfl)) (ty := (.object "java/lang/String")) (by decide)
                            have F_label_b4 : Fld Z h b4 "com/example/moderato/moderato/client/TextHit" "label" "Ljava/lang/String;" .null := Db4 (Or.inr (X.w 58 rfl)) (ty := (.object "java/lang/String")) (by decide)
                            have F_start_b4 : Fld Z h b4 "com/example/moderato/moderato/client/TextHit" "start" "I" (.int (0 : Int32)) := Db4 (Or.inr (X.w 60 rfl)) (ty := .int) (by decide)
                            have F_end_b4 : Fld Z h b4 "com/example/moderato/moderato/client/TextHit" "end" "I" (.int (0 : Int32)) := Db4 (Or.inr (X.w 62 rfl)) (ty := .int) (by decide)
                            show Go _ _ _ _ _ _ _ _ _ _ (mkF m 281 #[.val (.long q0), .second, .val (.long q1), .second, .val (.int i1), .val (.int i2), .val (.int i3), .val (.int i4), .val (.int ff), .val (.int sw), .val (.int sl), .val (.int sb), .val (.int ss), .val (.int se), .val (.int kd), .val (.ref b1), .val (.ref b2), .val (.ref b3), .val (.ref r1), .val (.ref r2), .val (.ref r3), .val (.int e1), .val (.int e2), .val (.int e3), .val (.int u1), .val (.int u2), .unset, .unset, .unset] [(.ref b4)])
                            refine Go.step (fun _ k => XS.dup W.here W.hx rfl (W.d at_281) rfl rfl k) ?_
                            show Go _ _ _ _ _ _ _ _ _ _ (mkF m 282 #[.val (.long q0), .second, .val (.long q1), .second, .val (.int i1), .val (.int i2), .val (.int i3), .val (.int i4), .val (.int ff), .val (.int sw), .val (.int sl), .val (.int sb), .val (.int ss), .val (.int se), .val (.int kd), .val (.ref b1), .val (.ref b2), .val (.ref b3), .val (.ref r1), .val (.ref r2), .val (.ref r3), .val (.int e1), .val (.int e2), .val (.int e3), .val (.int u1), .val (.int u2), .unset, .unset, .unset] [(.ref b4), (.ref b4)])
                            refine Go.step (fun _ k => XS.aload W.here W.hx rfl (W.d at_282) rfl rfl k) ?_
                            show Go _ _ _ _ _ _ _ _ _ _ (mkF m 284 #[.val (.long q0), .second, .val (.long q1), .second, .val (.int i1), .val (.int i2), .val (.int i3), .val (.int i4), .val (.int ff), .val (.int sw), .val (.int sl), .val (.int sb), .val (.int ss), .val (.int se), .val (.int kd), .val (.ref b1), .val (.ref b2), .val (.ref b3), .val (.ref r1), .val (.ref r2), .val (.ref r3), .val (.int e1), .val (.int e2), .val (.int e3), .val (.int u1), .val (.int u2), .unset, .unset, .unset] [(.ref b1), (.ref b4), (.ref b4)])
                            refine Go.step (fun _ k => XS.aload W.here W.hx rfl (W.d at_284) rfl rfl k) ?_
                            show Go _ _ _ _ _ _ _ _ _ _ (mkF m 286 #[.val (.long q0), .second, .val (.long q1), .second, .val (.int i1), .val (.int i2), .val (.int i3), .val (.int i4), .val (.int ff), .val (.int sw), .val (.int sl), .val (.int sb), .val (.int ss), .val (.int se), .val (.int kd), .val (.ref b1), .val (.ref b2), .val (.ref b3), .val (.ref r1), .val (.ref r2), .val (.ref r3), .val (.int e1), .val (.int e2), .val (.int e3), .val (.int u1), .val (.int u2), .unset, .unset, .unset] [(.ref b2), (.ref b1), (.ref b4), (.ref b4)])
                            refine Go.step (fun _ k => XS.aload W.here W.hx rfl (W.d at_286) rfl rfl k) ?_
                            show Go _ _ _ _ _ _ _ _ _ _ (mkF m 288 #[.val (.long q0), .second, .val (.long q1), .second, .val (.int i1), .val (.int i2), .val (.int i3), .val (.int i4), .val (.int ff), .val (.int sw), .val (.int sl), .val (.int sb), .val (.int ss), .val (.int se), .val (.int kd), .val (.ref b1), .val (.ref b2), .val (.ref b3), .val (.ref r1), .val (.ref r2), .val (.ref r3), .val (.int e1), .val (.int e2), .val (.int e3), .val (.int u1), .val (.int u2), .unset, .unset, .unset] [(.ref b3), (.ref b2), (.ref b1), (.ref b4), (.ref b4)])
                            refine Go.step (fun _ k => XS.iload W.here W.hx rfl (W.d at_288) rfl k) ?_
                            show Go _ _ _ _ _ _ _ _ _ _ (mkF m 290 #[.val (.long q0), .second, .val (.long q1), .second, .val (.int i1), .val (.int i2), .val (.int i3), .val (.int i4), .val (.int ff), .val (.int sw), .val (.int sl), .val (.int sb), .val (.int ss), .val (.int se), .val (.int kd), .val (.ref b1), .val (.ref b2), .val (.ref b3), .val (.ref r1), .val (.ref r2), .val (.ref r3), .val (.int e1), .val (.int e2), .val (.int e3), .val (.int u1), .val (.int u2), .unset, .unset, .unset] [(.int i1), (.ref b3), (.ref b2), (.ref b1), (.ref b4), (.ref b4)])
                            refine Go.step (fun _ k => XS.iload W.here W.hx rfl (W.d at_290) rfl k) ?_
                            show Go _ _ _ _ _ _ _ _ _ _ (mkF m 292 #[.val (.long q0), .second, .val (.long q1), .second, .val (.int i1), .val (.int i2), .val (.int i3), .val (.int i4), .val (.int ff), .val (.int sw), .val (.int sl), .val (.int sb), .val (.int ss), .val (.int se), .val (.int kd), .val (.ref b1), .val (.ref b2), .val (.ref b3), .val (.ref r1), .val (.ref r2), .val (.ref r3), .val (.int e1), .val (.int e2), .val (.int e3), .val (.int u1), .val (.int u2), .unset, .unset, .unset] [(.int i2), (.int i1), (.ref b3), (.ref b2), (.ref b1), (.ref b4), (.ref b4)])
                            refine W.special rfl (X.w 49 rfl) (X.w 50 rfl) (X.w 48 rfl) (X.w 51 rfl) (by decide) (c_th X b4 b1 b2 b3 i1 i2 _ W.ext gb4 Ab4 F_word_b4 F_list_b4 F_label_b4 F_start_b4 F_end_b4) (by decide) (Wd := 1) (by decide) b4 [(.ref b1), (.ref b2), (.ref b3), (.int i1), (.int i2)] [(.ref b4)] rfl pd_5 rfl rfl rfl (Nat.le_of_eq rfl) at_292 (by decide) (by decide) ?_
                            intro v T h vm W hQ C
                            obtain ⟨rfl, Kb4, F_word_b4', F_list_b4', F_label_b4', F_start_b4', F_end_b4'⟩ := hQ
                            replace Sb1 := Sb1.keepE Kb4 Ab4 (by decide) (X.w 47 rfl)
                            replace Sb2 := Sb2.keepE Kb4 Ab4 (by decide) (X.w 47 rfl)
                            replace Sb3 := Sb3.keepE Kb4 Ab4 (by decide) (X.w 47 rfl)
                            replace Sr1 := Sr1.keepE Kb4 Ab4 (by decide) (X.w 47 rfl)
                            replace Sr2 := Sr2.keepE Kb4 Ab4 (by decide) (X.w 47 rfl)
                            replace Sr3 := Sr3.keepE Kb4 Ab4 (by decide) (X.w 47 rfl)
                            replace Ab4 := Ab4.keep Kb4
                            replace hsz := W.size
                            replace F_word_b4 := F_word_b4'
                            replace F_list_b4 := F_list_b4'
                            replace F_label_b4 := F_label_b4'
                            replace F_start_b4 := F_start_b4'
                            replace F_end_b4 := F_end_b4'
                            show Go _ _ _ _ _ _ _ _ _ _ (mkF m 295 #[.val (.long q0), .second, .val (.long q1), .second, .val (.int i1), .val (.int i2), .val (.int i3), .val (.int i4), .val (.int ff), .val (.int sw), .val (.int sl), .val (.int sb), .val (.int ss), .val (.int se), .val (.int kd), .val (.ref b1), .val (.ref b2), .val (.ref b3), .val (.ref r1), .val (.ref r2), .val (.ref r3), .val (.int e1), .val (.int e2), .val (.int e3), .val (.int u1), .val (.int u2), .unset, .unset, .unset] [(.ref b4)])
                            refine Go.step (fun _ k => XS.astore W.here W.hx rfl (W.d at_295) rfl rfl (l' := #[.val (.long q0), .second, .val (.long q1), .second, .val (.int i1), .val (.int i2), .val (.int i3), .val (.int i4), .val (.int ff), .val (.int sw), .val (.int sl), .val (.int sb), .val (.int ss), .val (.int se), .val (.int kd), .val (.ref b1), .val (.ref b2), .val (.ref b3), .val (.ref r1), .val (.ref r2), .val (.ref r3), .val (.int e1), .val (.int e2), .val (.int e3), .val (.int u1), .val (.int u2), .val (.ref b4), .unset, .unset]) rfl k) ?_
                            show Go _ _ _ _ _ _ _ _ _ _ (mkF m 297 #[.val (.long q0), .second, .val (.long q1), .second, .val (.int i1), .val (.int i2), .val (.int i3), .val (.int i4), .val (.int ff), .val (.int sw), .val (.int sl), .val (.int sb), .val (.int ss), .val (.int se), .val (.int kd), .val (.ref b1), .val (.ref b2), .val (.ref b3), .val (.ref r1), .val (.ref r2), .val (.ref r3), .val (.int e1), .val (.int e2), .val (.int e3), .val (.int u1), .val (.int u2), .val (.ref b4), .unset, .unset] [])
                            refine W.new (X.w 46 rfl) (X.w 47 rfl) (X.w 48 rfl) at_297 (by decide) (by decide) ?_
                            intro T h b5 hb5 W Eb5 Ab5 Db5
                            have ne_b1_b5 : b1 ≠ b5 := by rw [hb5]; exact Nat.ne_of_lt Sb1.exa.lt
                            have ne_b2_b5 : b2 ≠ b5 := by rw [hb5]; exact Nat.ne_of_lt Sb2.exa.lt
                            have ne_b3_b5 : b3 ≠ b5 := by rw [hb5]; exact Nat.ne_of_lt Sb3.exa.lt
                            have ne_r1_b5 : r1 ≠ b5 := by rw [hb5]; exact Nat.ne_of_lt Sr1.exa.lt
                            have ne_r2_b5 : r2 ≠ b5 := by rw [hb5]; exact Nat.ne_of_lt Sr2.exa.lt
                            have ne_r3_b5 : r3 ≠ b5 := by rw [hb5]; exact Nat.ne_of_lt Sr3.exa.lt
                            have ne_b4_b5 : b4 ≠ b5 := by rw [hb5]; exact Nat.ne_of_lt Ab4.lt
                            have gb5 : Z.heap.size ≤ b5 := by rw [hb5]; exact hsz
                            replace Sb1 := Sb1.ext Eb5
                            replace Sb2 := Sb2.ext Eb5
                            replace Sb3 := Sb3.ext Eb5
                            replace Sr1 := Sr1.ext Eb5
                            replace Sr2 := Sr2.ext Eb5
                            replace Sr3 := Sr3.ext Eb5
                            replace F_word_b4 := F_word_b4.ext Eb5
                            replace F_list_b4 := F_list_b4.ext Eb5
                            replace F_label_b4 := F_label_b4.ext Eb5
                            replace F_start_b4 := F_start_b4.ext Eb5
                            replace F_end_b4 := F_end_b4.ext Eb5
                            replace Ab4 := Ab4.ext Eb5
                            replace hsz := W.size
                            have F_word_b5 : Fld Z h b5 "com/example/moderato/moderato/client/TextHit" "word" "Ljava/lang/String;" .null := Db5 (Or.inr (X.w 54 rfl)) (ty := (.object "java/lang/String")) (by decide)
                            have F_list_b5 : Fld Z h b5 "com/example/moderato/moderato/client/TextHit" "list" "Ljava/lang/String;" .null := Db5 (Or.inr (X.w 56 rfl)) (ty := (.object "java/lang/String")) (by decide)
                            have F_label_b5 : Fld Z h b5 "com/example/moderato/moderato/client/TextHit" "label" "Ljava/lang/String;" .null := Db5 (Or.inr (X.w 58 rfl)) (ty := (.object "java/lang/String")) (by decide)
                            have F_start_b5 : Fld Z h b5 "com/example/moderato/moderato/client/TextHit" "start" "I" (.int (0 : Int32)) := Db5 (Or.inr (X.w 60 rfl)) (ty := .int) (by decide)
                            have F_end_b5 : Fld Z h b5 "com/example/moderato/moderato/client/TextHit" "end" "I" (.int (0 : Int32)) := Db5 (Or.inr (X.w 62 rfl)) (ty := .int) (by decide)
                            show Go _ _ _ _ _ _ _ _ _ _ (mkF m 300 #[.val (.long q0), .second, .val (.long q1), .second, .val (.int i1), .val (.int i2), .val (.int i3), .val (.int i4), .val (.int ff), .val (.int sw), .val (.int sl), .val (.int sb), .val (.int ss), .val (.int se), .val (.int kd), .val (.ref b1), .val (.ref b2), .val (.ref b3), .val (.ref r1), .val (.ref r2), .val (.ref r3), .val (.int e1), .val (.int e2), .val (.int e3), .val (.int u1), .val (.int u2), .val (.ref b4), .unset, .unset] [(.ref b5)])
                            refine Go.step (fun _ k => XS.dup W.here W.hx rfl (W.d at_300) rfl rfl k) ?_
                            show Go _ _ _ _ _ _ _ _ _ _ (mkF m 301 #[.val (.long q0), .second, .val (.long q1), .second, .val (.int i1), .val (.int i2), .val (.int i3), .val (.int i4), .val (.int ff), .val (.int sw), .val (.int sl), .val (.int sb), .val (.int ss), .val (.int se), .val (.int kd), .val (.ref b1), .val (.ref b2), .val (.ref b3), .val (.ref r1), .val (.ref r2), .val (.ref r3), .val (.int e1), .val (.int e2), .val (.int e3), .val (.int u1), .val (.int u2), .val (.ref b4), .unset, .unset] [(.ref b5), (.ref b5)])
                            refine Go.step (fun _ k => XS.aload W.here W.hx rfl (W.d at_301) rfl rfl k) ?_
                            show Go _ _ _ _ _ _ _ _ _ _ (mkF m 303 #[.val (.long q0), .second, .val (.long q1), .second, .val (.int i1), .val (.int i2), .val (.int i3), .val (.int i4), .val (.int ff), .val (.int sw), .val (.int sl), .val (.int sb), .val (.int ss), .val (.int se), .val (.int kd), .val (.ref b1), .val (.ref b2), .val (.ref b3), .val (.ref r1), .val (.ref r2), .val (.ref r3), .val (.int e1), .val (.int e2), .val (.int e3), .val (.int u1), .val (.int u2), .val (.ref b4), .unset, .unset] [(.ref r1), (.ref b5), (.ref b5)])
                            refine Go.step (fun _ k => XS.aload W.here W.hx rfl (W.d at_303) rfl rfl k) ?_
                            show Go _ _ _ _ _ _ _ _ _ _ (mkF m 305 #[.val (.long q0), .second, .val (.long q1), .second, .val (.int i1), .val (.int i2), .val (.int i3), .val (.int i4), .val (.int ff), .val (.int sw), .val (.int sl), .val (.int sb), .val (.int ss), .val (.int se), .val (.int kd), .val (.ref b1), .val (.ref b2), .val (.ref b3), .val (.ref r1), .val (.ref r2), .val (.ref r3), .val (.int e1), .val (.int e2), .val (.int e3), .val (.int u1), .val (.int u2), .val (.ref b4), .unset, .unset] [(.ref r2), (.ref r1), (.ref b5), (.ref b5)])
                            refine Go.step (fun _ k => XS.aload W.here W.hx rfl (W.d at_305) rfl rfl k) ?_
                            show Go _ _ _ _ _ _ _ _ _ _ (mkF m 307 #[.val (.long q0), .second, .val (.long q1), .second, .val (.int i1), .val (.int i2), .val (.int i3), .val (.int i4), .val (.int ff), .val (.int sw), .val (.int sl), .val (.int sb), .val (.int ss), .val (.int se), .val (.int kd), .val (.ref b1), .val (.ref b2), .val (.ref b3), .val (.ref r1), .val (.ref r2), .val (.ref r3), .val (.int e1), .val (.int e2), .val (.int e3), .val (.int u1), .val (.int u2), .val (.ref b4), .unset, .unset] [(.ref r3), (.ref r2), (.ref r1), (.ref b5), (.ref b5)])
                            refine Go.step (fun _ k => XS.iload W.here W.hx rfl (W.d at_307) rfl k) ?_
                            show Go _ _ _ _ _ _ _ _ _ _ (mkF m 309 #[.val (.long q0), .second, .val (.long q1), .second, .val (.int i1), .val (.int i2), .val (.int i3), .val (.int i4), .val (.int ff), .val (.int sw), .val (.int sl), .val (.int sb), .val (.int ss), .val (.int se), .val (.int kd), .val (.ref b1), .val (.ref b2), .val (.ref b3), .val (.ref r1), .val (.ref r2), .val (.ref r3), .val (.int e1), .val (.int e2), .val (.int e3), .val (.int u1), .val (.int u2), .val (.ref b4), .unset, .unset] [(.int u1), (.ref r3), (.ref r2), (.ref r1), (.ref b5), (.ref b5)])
                            refine Go.step (fun _ k => XS.iload W.here W.hx rfl (W.d at_309) rfl k) ?_
                            show Go _ _ _ _ _ _ _ _ _ _ (mkF m 311 #[.val (.long q0), .second, .val (.long q1), .second, .val (.int i1), .val (.int i2), .val (.int i3), .val (.int i4), .val (.int ff), .val (.int sw), .val (.int sl), .val (.int sb), .val (.int ss), .val (.int se), .val (.int kd), .val (.ref b1), .val (.ref b2), .val (.ref b3), .val (.ref r1), .val (.ref r2), .val (.ref r3), .val (.int e1), .val (.int e2), .val (.int e3), .val (.int u1), .val (.int u2), .val (.ref b4), .unset, .unset] [(.int u2), (.int u1), (.ref r3), (.ref r2), (.ref r1), (.ref b5), (.ref b5)])
                            refine W.special rfl (X.w 49 rfl) (X.w 50 rfl) (X.w 48 rfl) (X.w 51 rfl) (by decide) (c_th X b5 r1 r2 r3 u1 u2 _ W.ext gb5 Ab5 F_word_b5 F_list_b5 F_label_b5 F_start_b5 F_end_b5) (by decide) (Wd := 1) (by decide) b5 [(.ref r1), (.ref r2), (.ref r3), (.int u1), (.int u2)] [(.ref b5)] rfl pd_5 rfl rfl rfl (Nat.le_of_eq rfl) at_311 (by decide) (by decide) ?_
                            intro v T h vm W hQ C
                            obtain ⟨rfl, Kb5, F_word_b5', F_list_b5', F_label_b5', F_start_b5', F_end_b5'⟩ := hQ
                            replace Sb1 := Sb1.keepE Kb5 Ab5 (by decide) (X.w 47 rfl)
                            replace Sb2 := Sb2.keepE Kb5 Ab5 (by decide) (X.w 47 rfl)
                            replace Sb3 := Sb3.keepE Kb5 Ab5 (by decide) (X.w 47 rfl)
                            replace Sr1 := Sr1.keepE Kb5 Ab5 (by decide) (X.w 47 rfl)
                            replace Sr2 := Sr2.keepE Kb5 Ab5 (by decide) (X.w 47 rfl)
                            replace Sr3 := Sr3.keepE Kb5 Ab5 (by decide) (X.w 47 rfl)
                            replace F_word_b4 := F_word_b4.keep Kb5 (nin1 ne_b4_b5)
                            replace F_list_b4 := F_list_b4.keep Kb5 (nin1 ne_b4_b5)
                            replace F_label_b4 := F_label_b4.keep Kb5 (nin1 ne_b4_b5)
                            replace F_start_b4 := F_start_b4.keep Kb5 (nin1 ne_b4_b5)
                            replace F_end_b4 := F_end_b4.keep Kb5 (nin1 ne_b4_b5)
                            replace Ab4 := Ab4.keep Kb5
                            replace Ab5 := Ab5.keep Kb5
                            replace hsz := W.size
                            replace F_word_b5 := F_word_b5'
                            replace F_list_b5 := F_list_b5'
                            replace F_label_b5 := F_label_b5'
                            replace F_start_b5 := F_start_b5'
                            replace F_end_b5 := F_end_b5'
                            show Go _ _ _ _ _ _ _ _ _ _ (mkF m 314 #[.val (.long q0), .second, .val (.long q1), .second, .val (.int i1), .val (.int i2), .val (.int i3), .val (.int i4), .val (.int ff), .val (.int sw), .val (.int sl), .val (.int sb), .val (.int ss), .val (.int se), .val (.int kd), .val (.ref b1), .val (.ref b2), .val (.ref b3), .val (.ref r1), .val (.ref r2), .val (.ref r3), .val (.int e1), .val (.int e2), .val (.int e3), .val (.int u1), .val (.int u2), .val (.ref b4), .unset, .unset] [(.ref b5)])
                            refine Go.step (fun _ k => XS.astore W.here W.hx rfl (W.d at_314) rfl rfl (l' := #[.val (.long q0), .second, .val (.long q1), .second, .val (.int i1), .val (.int i2), .val (.int i3), .val (.int i4), .val (.int ff), .val (.int sw), .val (.int sl), .val (.int sb), .val (.int ss), .val (.int se), .val (.int kd), .val (.ref b1), .val (.ref b2), .val (.ref b3), .val (.ref r1), .val (.ref r2), .val (.ref r3), .val (.int e1), .val (.int e2), .val (.int e3), .val (.int u1), .val (.int u2), .val (.ref b4), .val (.ref b5), .unset]) rfl k) ?_
                            show Go _ _ _ _ _ _ _ _ _ _ (mkF m 316 #[.val (.long q0), .second, .val (.long q1), .second, .val (.int i1), .val (.int i2), .val (.int i3), .val (.int i4), .val (.int ff), .val (.int sw), .val (.int sl), .val (.int sb), .val (.int ss), .val (.int se), .val (.int kd), .val (.ref b1), .val (.ref b2), .val (.ref b3), .val (.ref r1), .val (.ref r2), .val (.ref r3), .val (.int e1), .val (.int e2), .val (.int e3), .val (.int u1), .val (.int u2), .val (.ref b4), .val (.ref b5), .unset] [])
                            have J350 : ∀ (T : State) (vm : Vm) (z : Int32), Wk p l e room_1 s m #[(.long q0), (.long q1), (.int i1), (.int i2), (.int i3), (.int i4)] below meth c Z a0 consts_1 x code maxLocals ret T h vm 38 94 → ((z = 1 ∧ (txt q0 (0 : Int32) = t1 ∧ txt q0 (18 : Int32) = t2 ∧ txt q0 (36 : Int32) = t3 ∧ i1 = u1 ∧ i2 = u2)) ∨ (z = 0 ∧ ¬ (txt q0 (0 : Int32) = t1 ∧ txt q0 (18 : Int32) = t2 ∧ txt q0 (36 : Int32) = t3 ∧ i1 = u1 ∧ i2 = u2))) → Go p e below s Z consts_1 room_1.cells room_1.slots (fun v _ => v = some (.int 1)) T (mkF m 350 #[.val (.long q0), .second, .val (.long q1), .second, .val (.int i1), .val (.int i2), .val (.int i3), .val (.int i4), .val (.int ff), .val (.int sw), .val (.int sl), .val (.int sb), .val (.int ss), .val (.int se), .val (.int kd), .val (.ref b1), .val (.ref b2), .val (.ref b3), .val (.ref r1), .val (.ref r2), .val (.ref r3), .val (.int e1), .val (.int e2), .val (.int e3), .val (.int u1), .val (.int u2), .val (.ref b4), .val (.ref b5), .unset] [(.int z)]) := by
                              intro T vm z W hz
                              refine Go.step (fun _ k => XS.istore W.here W.hx rfl (W.d at_350) rfl (l' := #[.val (.long q0), .second, .val (.long q1), .second, .val (.int i1), .val (.int i2), .val (.int i3), .val (.int i4), .val (.int ff), .val (.int sw), .val (.int sl), .val (.int sb), .val (.int ss), .val (.int se), .val (.int kd), .val (.ref b1), .val (.ref b2), .val (.ref b3), .val (.ref r1), .val (.ref r2), .val (.ref r3), .val (.int e1), .val (.int e2), .val (.int e3), .val (.int u1), .val (.int u2), .val (.ref b4), .val (.ref b5), .val (.int z)]) rfl k) ?_
                              show Go _ _ _ _ _ _ _ _ _ _ (mkF m 352 #[.val (.long q0), .second, .val (.long q1), .second, .val (.int i1), .val (.int i2), .val (.int i3), .val (.int i4), .val (.int ff), .val (.int sw), .val (.int sl), .val (.int sb), .val (.int ss), .val (.int se), .val (.int kd), .val (.ref b1), .val (.ref b2), .val (.ref b3), .val (.ref r1), .val (.ref r2), .val (.ref r3), .val (.int e1), .val (.int e2), .val (.int e3), .val (.int u1), .val (.int u2), .val (.ref b4), .val (.ref b5), .val (.int z)] [])
                              refine Go.step (fun _ k => XS.iload W.here W.hx rfl (W.d at_352) rfl k) ?_
                              show Go _ _ _ _ _ _ _ _ _ _ (mkF m 354 #[.val (.long q0), .second, .val (.long q1), .second, .val (.int i1), .val (.int i2), .val (.int i3), .val (.int i4), .val (.int ff), .val (.int sw), .val (.int sl), .val (.int sb), .val (.int ss), .val (.int se), .val (.int kd), .val (.ref b1), .val (.ref b2), .val (.ref b3), .val (.ref r1), .val (.ref r2), .val (.ref r3), .val (.int e1), .val (.int e2), .val (.int e3), .val (.int u1), .val (.int u2), .val (.ref b4), .val (.ref b5), .val (.int z)] [(.int kd)])
                              refine Go.step (fun _ k => XS.iconst W.here W.hx rfl (W.d at_354) k) ?_
                              show Go _ _ _ _ _ _ _ _ _ _ (mkF m 355 #[.val (.long q0), .second, .val (.long q1), .second, .val (.int i1), .val (.int i2), .val (.int i3), .val (.int i4), .val (.int ff), .val (.int sw), .val (.int sl), .val (.int sb), .val (.int ss), .val (.int se), .val (.int kd), .val (.ref b1), .val (.ref b2), .val (.ref b3), .val (.ref r1), .val (.ref r2), .val (.ref r3), .val (.int e1), .val (.int e2), .val (.int e3), .val (.int u1), .val (.int u2), .val (.ref b4), .val (.ref b5), .val (.int z)] [(.int (4 : Int32)), (.int kd)])
                              by_cases hc6 : (4 : Int32) < kd
                              · refine Go.step (fun _ k => XS.icmpYes W.here W.hx rfl (pc0 := 355) (pc' := 388) rfl (W.d at_355) rfl (tlt hc6).2.2.1 (by decide) (by decide) k) ?_
                                show Go _ _ _ _ _ _ _ _ _ _ (mkF m 388 #[.val (.long q0), .second, .val (.long q1), .second, .val (.int i1), .val (.int i2), .val (.int i3), .val (.int i4), .val (.int ff), .val (.int sw), .val (.int sl), .val (.int sb), .val (.int ss), .val (.int se), .val (.int kd), .val (.ref b1), .val (.ref b2), .val (.ref b3), .val (.ref r1), .val (.ref r2), .val (.ref r3), .val (.int e1), .val (.int e2), .val (.int e3), .val (.int u1), .val (.int u2), .val (.ref b4), .val (.ref b5), .val (.int z)] [])
                                refine Go.step (fun _ k => XS.iload W.here W.hx rfl (W.d at_388) rfl k) ?_
                                show Go _ _ _ _ _ _ _ _ _ _ (mkF m 390 #[.val (.long q0), .second, .val (.long q1), .second, .val (.int i1), .val (.int i2), .val (.int i3), .val (.int i4), .val (.int ff), .val (.int sw), .val (.int sl), .val (.int sb), .val (.int ss), .val (.int se), .val (.int kd), .val (.ref b1), .val (.ref b2), .val (.ref b3), .val (.ref r1), .val (.ref r2), .val (.ref r3), .val (.int e1), .val (.int e2), .val (.int e3), .val (.int u1), .val (.int u2), .val (.ref b4), .val (.ref b5), .val (.int z)] [(.int kd)])
                                refine Go.step (fun _ k => XS.iconst W.here W.hx rfl (W.d at_390) k) ?_
                                show Go _ _ _ _ _ _ _ _ _ _ (mkF m 391 #[.val (.long q0), .second, .val (.long q1), .second, .val (.int i1), .val (.int i2), .val (.int i3), .val (.int i4), .val (.int ff), .val (.int sw), .val (.int sl), .val (.int sb), .val (.int ss), .val (.int se), .val (.int kd), .val (.ref b1), .val (.ref b2), .val (.ref b3), .val (.ref r1), .val (.ref r2), .val (.ref r3), .val (.int e1), .val (.int e2), .val (.int e3), .val (.int u1), .val (.int u2), .val (.ref b4), .val (.ref b5), .val (.int z)] [(.int (5 : Int32)), (.int kd)])
                                by_cases hc7 : kd = (5 : Int32)
                                · refine Go.step (fun _ k => XS.icmpNo W.here W.hx rfl (W.d at_391) rfl (teq hc7).2 k) ?_
                                  show Go _ _ _ _ _ _ _ _ _ _ (mkF m 394 #[.val (.long q0), .second, .val (.long q1), .second, .val (.int i1), .val (.int i2), .val (.int i3), .val (.int i4), .val (.int ff), .val (.int sw), .val (.int sl), .val (.int sb), .val (.int ss), .val (.int se), .val (.int kd), .val (.ref b1), .val (.ref b2), .val (.ref b3), .val (.ref r1), .val (.ref r2), .val (.ref r3), .val (.int e1), .val (.int e2), .val (.int e3), .val (.int u1), .val (.int u2), .val (.ref b4), .val (.ref b5), .val (.int z)] [])
                                  refine Go.step (fun _ k => XS.aload W.here W.hx rfl (W.d at_394) rfl rfl k) ?_
                                  show Go _ _ _ _ _ _ _ _ _ _ (mkF m 396 #[.val (.long q0), .second, .val (.long q1), .second, .val (.int i1), .val (.int i2), .val (.int i3), .val (.int i4), .val (.int ff), .val (.int sw), .val (.int sl), .val (.int sb), .val (.int ss), .val (.int se), .val (.int kd), .val (.ref b1), .val (.ref b2), .val (.ref b3), .val (.ref r1), .val (.ref r2), .val (.ref r3), .val (.int e1), .val (.int e2), .val (.int e3), .val (.int u1), .val (.int u2), .val (.ref b4), .val (.ref b5), .val (.int z)] [(.ref b4)])
                                  refine Go.step (fun _ k => XS.aconstNull W.here W.hx rfl (W.d at_396) k) ?_
                                  show Go _ _ _ _ _ _ _ _ _ _ (mkF m 397 #[.val (.long q0), .second, .val (.long q1), .second, .val (.int i1), .val (.int i2), .val (.int i3), .val (.int i4), .val (.int ff), .val (.int sw), .val (.int sl), .val (.int sb), .val (.int ss), .val (.int se), .val (.int kd), .val (.ref b1), .val (.ref b2), .val (.ref b3), .val (.ref r1), .val (.ref r2), .val (.ref r3), .val (.int e1), .val (.int e2), .val (.int e3), .val (.int u1), .val (.int u2), .val (.ref b4), .val (.ref b5), .val (.int z)] [.null, (.ref b4)])
                                  refine W.virtual (X.w 63 rfl) (X.w 64 rfl) (notFace_of_selects (args := #[]) (mvT W.hZ (X.w 66 rfl))) (X.w 66 rfl) (X.w 65 rfl) (X.w 48 rfl) (X.w 67 rfl) (by decide) (c_eq4 X b4 _ W.ext) (by decide) (Wd := 0) (by decide) b4 Ab4 [.null] [] rfl pd_3 rfl rfl rfl (Nat.le_of_eq rfl) at_397 (by decide) (by decide) ?_
                                  intro v T h vm W hQ C
                                  obtain ⟨rfl, rfl⟩ := hQ
                                  show Go _ _ _ _ _ _ _ _ _ _ (mkF m 400 #[.val (.long q0), .second, .val (.long q1), .second, .val (.int i1), .val (.int i2), .val (.int i3), .val (.int i4), .val (.int ff), .val (.int sw), .val (.int sl), .val (.int sb), .val (.int ss), .val (.int se), .val (.int kd), .val (.ref b1), .val (.ref b2), .val (.ref b3), .val (.ref r1), .val (.ref r2), .val (.ref r3), .val (.int e1), .val (.int e2), .val (.int e3), .val (.int u1), .val (.int u2), .val (.ref b4), .val (.ref b5), .val (.int z)] [(.int (0 : Int32))])
                                  refine Go.step (fun _ k => XS.ifNo W.here W.hx rfl (W.d at_400) rfl ((if0 _ _).trans (teq (by decide : (0 : Int32) = (0 : Int32))).2) k) ?_
                                  show Go _ _ _ _ _ _ _ _ _ _ (mkF m 403 #[.val (.long q0), .second, .val (.long q1), .second, .val (.int i1), .val (.int i2), .val (.int i3), .val (.int i4), .val (.int ff), .val (.int sw), .val (.int sl), .val (.int sb), .val (.int ss), .val (.int se), .val (.int kd), .val (.ref b1), .val (.ref b2), .val (.ref b3), .val (.ref r1), .val (.ref r2), .val (.ref r3), .val (.int e1), .val (.int e2), .val (.int e3), .val (.int u1), .val (.int u2), .val (.ref b4), .val (.ref b5), .val (.int z)] [])
                                  refine Go.step (fun _ k => XS.iconst W.here W.hx rfl (W.d at_403) k) ?_
                                  show Go _ _ _ _ _ _ _ _ _ _ (mkF m 404 #[.val (.long q0), .second, .val (.long q1), .second, .val (.int i1), .val (.int i2), .val (.int i3), .val (.int i4), .val (.int ff), .val (.int sw), .val (.int sl), .val (.int sb), .val (.int ss), .val (.int se), .val (.int kd), .val (.ref b1), .val (.ref b2), .val (.ref b3), .val (.ref r1), .val (.ref r2), .val (.ref r3), .val (.int e1), .val (.int e2), .val (.int e3), .val (.int u1), .val (.int u2), .val (.ref b4), .val (.ref b5), .val (.int z)] [(.int (1 : Int32))])
                                  refine Go.step (fun _ k => XS.goto W.here W.hx rfl (pc0 := 404) (pc' := 408) rfl (W.d at_404) (by decide) (by decide) k) ?_
                                  show Go _ _ _ _ _ _ _ _ _ _ (mkF m 408 #[.val (.long q0), .second, .val (.long q1), .second, .val (.int i1), .val (.int i2), .val (.int i3), .val (.int i4), .val (.int ff), .val (.int sw), .val (.int sl), .val (.int sb), .val (.int ss), .val (.int se), .val (.int kd), .val (.ref b1), .val (.ref b2), .val (.ref b3), .val (.ref r1), .val (.ref r2), .val (.ref r3), .val (.int e1), .val (.int e2), .val (.int e3), .val (.int u1), .val (.int u2), .val (.ref b4), .val (.ref b5), .val (.int z)] [(.int (1 : Int32))])
                                  exact W.retN (by simp) at_408 (rfl) (by decide) (by decide)
                                · refine Go.step (fun _ k => XS.icmpYes W.here W.hx rfl (pc0 := 391) (pc' := 409) rfl (W.d at_391) rfl (feq hc7).2 (by decide) (by decide) k) ?_
                                  show Go _ _ _ _ _ _ _ _ _ _ (mkF m 409 #[.val (.long q0), .second, .val (.long q1), .second, .val (.int i1), .val (.int i2), .val (.int i3), .val (.int i4), .val (.int ff), .val (.int sw), .val (.int sl), .val (.int sb), .val (.int ss), .val (.int se), .val (.int kd), .val (.ref b1), .val (.ref b2), .val (.ref b3), .val (.ref r1), .val (.ref r2), .val (.ref r3), .val (.int e1), .val (.int e2), .val (.int e3), .val (.int u1), .val (.int u2), .val (.ref b4), .val (.ref b5), .val (.int z)] [])
                                  refine Go.step (fun _ k => XS.iload W.here W.hx rfl (W.d at_409) rfl k) ?_
                                  show Go _ _ _ _ _ _ _ _ _ _ (mkF m 411 #[.val (.long q0), .second, .val (.long q1), .second, .val (.int i1), .val (.int i2), .val (.int i3), .val (.int i4), .val (.int ff), .val (.int sw), .val (.int sl), .val (.int sb), .val (.int ss), .val (.int se), .val (.int kd), .val (.ref b1), .val (.ref b2), .val (.ref b3), .val (.ref r1), .val (.ref r2), .val (.ref r3), .val (.int e1), .val (.int e2), .val (.int e3), .val (.int u1), .val (.int u2), .val (.ref b4), .val (.ref b5), .val (.int z)] [(.int kd)])
                                  refine Go.step (fun _ k => XS.bipush W.here W.hx rfl (W.d at_411) k) ?_
                                  show Go _ _ _ _ _ _ _ _ _ _ (mkF m 413 #[.val (.long q0), .second, .val (.long q1), .second, .val (.int i1), .val (.int i2), .val (.int i3), .val (.int i4), .val (.int ff), .val (.int sw), .val (.int sl), .val (.int sb), .val (.int ss), .val (.int se), .val (.int kd), .val (.ref b1), .val (.ref b2), .val (.ref b3), .val (.ref r1), .val (.ref r2), .val (.ref r3), .val (.int e1), .val (.int e2), .val (.int e3), .val (.int u1), .val (.int u2), .val (.ref b4), .val (.ref b5), .val (.int z)] [(.int (6 : Int32)), (.int kd)])
                                  by_cases hc9 : kd = (6 : Int32)
                                  · refine Go.step (fun _ k => XS.icmpNo W.here W.hx rfl (W.d at_413) rfl (teq hc9).2 k) ?_
                                    show Go _ _ _ _ _ _ _ _ _ _ (mkF m 416 #[.val (.long q0), .second, .val (.long q1), .second, .val (.int i1), .val (.int i2), .val (.int i3), .val (.int i4), .val (.int ff), .val (.int sw), .val (.int sl), .val (.int sb), .val (.int ss), .val (.int se), .val (.int kd), .val (.ref b1), .val (.ref b2), .val (.ref b3), .val (.ref r1), .val (.ref r2), .val (.ref r3), .val (.int e1), .val (.int e2), .val (.int e3), .val (.int u1), .val (.int u2), .val (.ref b4), .val (.ref b5), .val (.int z)] [])
                                    refine Go.step (fun _ k => XS.aload W.here W.hx rfl (W.d at_416) rfl rfl k) ?_
                                    show Go _ _ _ _ _ _ _ _ _ _ (mkF m 418 #[.val (.long q0), .second, .val (.long q1), .second, .val (.int i1), .val (.int i2), .val (.int i3), .val (.int i4), .val (.int ff), .val (.int sw), .val (.int sl), .val (.int sb), .val (.int ss), .val (.int se), .val (.int kd), .val (.ref b1), .val (.ref b2), .val (.ref b3), .val (.ref r1), .val (.ref r2), .val (.ref r3), .val (.int e1), .val (.int e2), .val (.int e3), .val (.int u1), .val (.int u2), .val (.ref b4), .val (.ref b5), .val (.int z)] [(.ref b4)])
                                    refine Go.step (fun _ k => XS.aload W.here W.hx rfl (W.d at_418) rfl rfl k) ?_
                                    show Go _ _ _ _ _ _ _ _ _ _ (mkF m 420 #[.val (.long q0), .second, .val (.long q1), .second, .val (.int i1), .val (.int i2), .val (.int i3), .val (.int i4), .val (.int ff), .val (.int sw), .val (.int sl), .val (.int sb), .val (.int ss), .val (.int se), .val (.int kd), .val (.ref b1), .val (.ref b2), .val (.ref b3), .val (.ref r1), .val (.ref r2), .val (.ref r3), .val (.int e1), .val (.int e2), .val (.int e3), .val (.int u1), .val (.int u2), .val (.ref b4), .val (.ref b5), .val (.int z)] [(.ref b1), (.ref b4)])
                                    refine W.virtual (X.w 63 rfl) (X.w 64 rfl) (notFace_of_selects (args := #[]) (mvT W.hZ (X.w 66 rfl))) (X.w 66 rfl) (X.w 65 rfl) (X.w 48 rfl) (X.w 67 rfl) (by decide) (c_eq5 X b4 b1 _ W.ext Sb1.exa (Ne.symm ne_b1_b4)) (by decide) (Wd := 0) (by decide) b4 Ab4 [(.ref b1)] [] rfl pd_3 rfl rfl rfl (Nat.le_of_eq rfl) at_420 (by decide) (by decide) ?_
                                    intro v T h vm W hQ C
                                    obtain ⟨rfl, rfl⟩ := hQ
                                    show Go _ _ _ _ _ _ _ _ _ _ (mkF m 423 #[.val (.long q0), .second, .val (.long q1), .second, .val (.int i1), .val (.int i2), .val (.int i3), .val (.int i4), .val (.int ff), .val (.int sw), .val (.int sl), .val (.int sb), .val (.int ss), .val (.int se), .val (.int kd), .val (.ref b1), .val (.ref b2), .val (.ref b3), .val (.ref r1), .val (.ref r2), .val (.ref r3), .val (.int e1), .val (.int e2), .val (.int e3), .val (.int u1), .val (.int u2), .val (.ref b4), .val (.ref b5), .val (.int z)] [(.int (0 : Int32))])
                                    refine Go.step (fun _ k => XS.ifNo W.here W.hx rfl (W.d at_423) rfl ((if0 _ _).trans (teq (by decide : (0 : Int32) = (0 : Int32))).2) k) ?_
                                    show Go _ _ _ _ _ _ _ _ _ _ (mkF m 426 #[.val (.long q0), .second, .val (.long q1), .second, .val (.int i1), .val (.int i2), .val (.int i3), .val (.int i4), .val (.int ff), .val (.int sw), .val (.int sl), .val (.int sb), .val (.int ss), .val (.int se), .val (.int kd), .val (.ref b1), .val (.ref b2), .val (.ref b3), .val (.ref r1), .val (.ref r2), .val (.ref r3), .val (.int e1), .val (.int e2), .val (.int e3), .val (.int u1), .val (.int u2), .val (.ref b4), .val (.ref b5), .val (.int z)] [])
                                    refine Go.step (fun _ k => XS.iconst W.here W.hx rfl (W.d at_426) k) ?_
                                    show Go _ _ _ _ _ _ _ _ _ _ (mkF m 427 #[.val (.long q0), .second, .val (.long q1), .second, .val (.int i1), .val (.int i2), .val (.int i3), .val (.int i4), .val (.int ff), .val (.int sw), .val (.int sl), .val (.int sb), .val (.int ss), .val (.int se), .val (.int kd), .val (.ref b1), .val (.ref b2), .val (.ref b3), .val (.ref r1), .val (.ref r2), .val (.ref r3), .val (.int e1), .val (.int e2), .val (.int e3), .val (.int u1), .val (.int u2), .val (.ref b4), .val (.ref b5), .val (.int z)] [(.int (1 : Int32))])
                                    refine Go.step (fun _ k => XS.goto W.here W.hx rfl (pc0 := 427) (pc' := 431) rfl (W.d at_427) (by decide) (by decide) k) ?_
                                    show Go _ _ _ _ _ _ _ _ _ _ (mkF m 431 #[.val (.long q0), .second, .val (.long q1), .second, .val (.int i1), .val (.int i2), .val (.int i3), .val (.int i4), .val (.int ff), .val (.int sw), .val (.int sl), .val (.int sb), .val (.int ss), .val (.int se), .val (.int kd), .val (.ref b1), .val (.ref b2), .val (.ref b3), .val (.ref r1), .val (.ref r2), .val (.ref r3), .val (.int e1), .val (.int e2), .val (.int e3), .val (.int u1), .val (.int u2), .val (.ref b4), .val (.ref b5), .val (.int z)] [(.int (1 : Int32))])
                                    exact W.retN (by simp) at_431 (rfl) (by decide) (by decide)
                                  · refine Go.step (fun _ k => XS.icmpYes W.here W.hx rfl (pc0 := 413) (pc' := 432) rfl (W.d at_413) rfl (feq hc9).2 (by decide) (by decide) k) ?_
                                    show Go _ _ _ _ _ _ _ _ _ _ (mkF m 432 #[.val (.long q0), .second, .val (.long q1), .second, .val (.int i1), .val (.int i2), .val (.int i3), .val (.int i4), .val (.int ff), .val (.int sw), .val (.int sl), .val (.int sb), .val (.int ss), .val (.int se), .val (.int kd), .val (.ref b1), .val (.ref b2), .val (.ref b3), .val (.ref r1), .val (.ref r2), .val (.ref r3), .val (.int e1), .val (.int e2), .val (.int e3), .val (.int u1), .val (.int u2), .val (.ref b4), .val (.ref b5), .val (.int z)] [])
                                    refine Go.step (fun _ k => XS.aload W.here W.hx rfl (W.d at_432) rfl rfl k) ?_
                                    show Go _ _ _ _ _ _ _ _ _ _ (mkF m 434 #[.val (.long q0), .second, .val (.long q1), .second, .val (.int i1), .val (.int i2), .val (.int i3), .val (.int i4), .val (.int ff), .val (.int sw), .val (.int sl), .val (.int sb), .val (.int ss), .val (.int se), .val (.int kd), .val (.ref b1), .val (.ref b2), .val (.ref b3), .val (.ref r1), .val (.ref r2), .val (.ref r3), .val (.int e1), .val (.int e2), .val (.int e3), .val (.int u1), .val (.int u2), .val (.ref b4), .val (.ref b5), .val (.int z)] [(.ref b4)])
                                    refine Go.step (fun _ k => XS.aload W.here W.hx rfl (W.d at_434) rfl rfl k) ?_
                                    show Go _ _ _ _ _ _ _ _ _ _ (mkF m 436 #[.val (.long q0), .second, .val (.long q1), .second, .val (.int i1), .val (.int i2), .val (.int i3), .val (.int i4), .val (.int ff), .val (.int sw), .val (.int sl), .val (.int sb), .val (.int ss), .val (.int se), .val (.int kd), .val (.ref b1), .val (.ref b2), .val (.ref b3), .val (.ref r1), .val (.ref r2), .val (.ref r3), .val (.int e1), .val (.int e2), .val (.int e3), .val (.int u1), .val (.int u2), .val (.ref b4), .val (.ref b5), .val (.int z)] [(.ref b4), (.ref b4)])
                                    refine W.virtual (X.w 63 rfl) (X.w 64 rfl) (notFace_of_selects (args := #[]) (mvT W.hZ (X.w 66 rfl))) (X.w 66 rfl) (X.w 65 rfl) (X.w 48 rfl) (X.w 67 rfl) (by decide) (c_eq2 X b4 b1 _ b2 _ b3 _ i1 i2 _ W.ext Ab4 F_word_b4 Sb1 F_list_b4 Sb2 F_label_b4 Sb3 F_start_b4 F_end_b4) (by decide) (Wd := 0) (by decide) b4 Ab4 [(.ref b4)] [] rfl pd_3 rfl rfl rfl (Nat.le_of_eq rfl) at_436 (by decide) (by decide) ?_
                                    intro v T h vm W hQ C
                                    obtain ⟨rfl, rfl⟩ := hQ
                                    show Go _ _ _ _ _ _ _ _ _ _ (mkF m 439 #[.val (.long q0), .second, .val (.long q1), .second, .val (.int i1), .val (.int i2), .val (.int i3), .val (.int i4), .val (.int ff), .val (.int sw), .val (.int sl), .val (.int sb), .val (.int ss), .val (.int se), .val (.int kd), .val (.ref b1), .val (.ref b2), .val (.ref b3), .val (.ref r1), .val (.ref r2), .val (.ref r3), .val (.int e1), .val (.int e2), .val (.int e3), .val (.int u1), .val (.int u2), .val (.ref b4), .val (.ref b5), .val (.int z)] [(.int (1 : Int32))])
                                    exact W.retN (by simp) at_439 (rfl) (by decide) (by decide)
                              · refine Go.step (fun _ k => XS.icmpNo W.here W.hx rfl (W.d at_355) rfl (flt hc6).2.2.1 k) ?_
                                show Go _ _ _ _ _ _ _ _ _ _ (mkF m 358 #[.val (.long q0), .second, .val (.long q1), .second, .val (.int i1), .val (.int i2), .val (.int i3), .val (.int i4), .val (.int ff), .val (.int sw), .val (.int sl), .val (.int sb), .val (.int ss), .val (.int se), .val (.int kd), .val (.ref b1), .val (.ref b2), .val (.ref b3), .val (.ref r1), .val (.ref r2), .val (.ref r3), .val (.int e1), .val (.int e2), .val (.int e3), .val (.int u1), .val (.int u2), .val (.ref b4), .val (.ref b5), .val (.int z)] [])
                                rcases hz with ⟨rfl, hz⟩ | ⟨rfl, hz⟩
                                · show Go _ _ _ _ _ _ _ _ _ _ (mkF m 358 #[.val (.long q0), .second, .val (.long q1), .second, .val (.int i1), .val (.int i2), .val (.int i3), .val (.int i4), .val (.int ff), .val (.int sw), .val (.int sl), .val (.int sb), .val (.int ss), .val (.int se), .val (.int kd), .val (.ref b1), .val (.ref b2), .val (.ref b3), .val (.ref r1), .val (.ref r2), .val (.ref r3), .val (.int e1), .val (.int e2), .val (.int e3), .val (.int u1), .val (.int u2), .val (.ref b4), .val (.ref b5), .val (.int (1 : Int32))] [])
                                  refine Go.step (fun _ k => XS.aload W.here W.hx rfl (W.d at_358) rfl rfl k) ?_
                                  show Go _ _ _ _ _ _ _ _ _ _ (mkF m 360 #[.val (.long q0), .second, .val (.long q1), .second, .val (.int i1), .val (.int i2), .val (.int i3), .val (.int i4), .val (.int ff), .val (.int sw), .val (.int sl), .val (.int sb), .val (.int ss), .val (.int se), .val (.int kd), .val (.ref b1), .val (.ref b2), .val (.ref b3), .val (.ref r1), .val (.ref r2), .val (.ref r3), .val (.int e1), .val (.int e2), .val (.int e3), .val (.int u1), .val (.int u2), .val (.ref b4), .val (.ref b5), .val (.int (1 : Int32))] [(.ref b4)])
                                  refine Go.step (fun _ k => XS.aload W.here W.hx rfl (W.d at_360) rfl rfl k) ?_
                                  show Go _ _ _ _ _ _ _ _ _ _ (mkF m 362 #[.val (.long q0), .second, .val (.long q1), .second, .val (.int i1), .val (.int i2), .val (.int i3), .val (.int i4), .val (.int ff), .val (.int sw), .val (.int sl), .val (.int sb), .val (.int ss), .val (.int se), .val (.int kd), .val (.ref b1), .val (.ref b2), .val (.ref b3), .val (.ref r1), .val (.ref r2), .val (.ref r3), .val (.int e1), .val (.int e2), .val (.int e3), .val (.int u1), .val (.int u2), .val (.ref b4), .val (.ref b5), .val (.int (1 : Int32))] [(.ref b5), (.ref b4)])
                                  refine W.virtual (X.w 63 rfl) (X.w 64 rfl) (notFace_of_selects (args := #[]) (mvT W.hZ (X.w 66 rfl))) (X.w 66 rfl) (X.w 65 rfl) (X.w 48 rfl) (X.w 67 rfl) (by decide) (c_eq1 X b4 b5 b1 _ b2 _ b3 _ i1 i2 r1 _ r2 _ r3 _ u1 u2 _ W.ext Ab4 F_word_b4 Sb1 F_list_b4 Sb2 F_label_b4 Sb3 F_start_b4 F_end_b4 Ab5 F_word_b5 Sr1 F_list_b5 Sr2 F_label_b5 Sr3 F_start_b5 F_end_b5 ne_b4_b5) (by decide) (Wd := 0) (by decide) b4 Ab4 [(.ref b5)] [] rfl pd_3 rfl rfl rfl (Nat.le_of_eq rfl) at_362 (by decide) (by decide) ?_
                                  intro v T h vm W hQ C
                                  obtain ⟨hq12, rfl⟩ := hQ
                                  rcases hq12 with ⟨rfl, hq12⟩ | ⟨rfl, hq12⟩
                                  · show Go _ _ _ _ _ _ _ _ _ _ (mkF m 365 #[.val (.long q0), .second, .val (.long q1), .second, .val (.int i1), .val (.int i2), .val (.int i3), .val (.int i4), .val (.int ff), .val (.int sw), .val (.int sl), .val (.int sb), .val (.int ss), .val (.int se), .val (.int kd), .val (.ref b1), .val (.ref b2), .val (.ref b3), .val (.ref r1), .val (.ref r2), .val (.ref r3), .val (.int e1), .val (.int e2), .val (.int e3), .val (.int u1), .val (.int u2), .val (.ref b4), .val (.ref b5), .val (.int (1 : Int32))] [(.int (1 : Int32))])
                                    refine Go.step (fun _ k => XS.iload W.here W.hx rfl (W.d at_365) rfl k) ?_
                                    show Go _ _ _ _ _ _ _ _ _ _ (mkF m 367 #[.val (.long q0), .second, .val (.long q1), .second, .val (.int i1), .val (.int i2), .val (.int i3), .val (.int i4), .val (.int ff), .val (.int sw), .val (.int sl), .val (.int sb), .val (.int ss), .val (.int se), .val (.int kd), .val (.ref b1), .val (.ref b2), .val (.ref b3), .val (.ref r1), .val (.ref r2), .val (.ref r3), .val (.int e1), .val (.int e2), .val (.int e3), .val (.int u1), .val (.int u2), .val (.ref b4), .val (.ref b5), .val (.int (1 : Int32))] [(.int (1 : Int32)), (.int (1 : Int32))])
                                    refine Go.step (fun _ k => XS.icmpNo W.here W.hx rfl (W.d at_367) rfl (teq (by decide : (1 : Int32) = (1 : Int32))).2 k) ?_
                                    show Go _ _ _ _ _ _ _ _ _ _ (mkF m 370 #[.val (.long q0), .second, .val (.long q1), .second, .val (.int i1), .val (.int i2), .val (.int i3), .val (.int i4), .val (.int ff), .val (.int sw), .val (.int sl), .val (.int sb), .val (.int ss), .val (.int se), .val (.int kd), .val (.ref b1), .val (.ref b2), .val (.ref b3), .val (.ref r1), .val (.ref r2), .val (.ref r3), .val (.int e1), .val (.int e2), .val (.int e3), .val (.int u1), .val (.int u2), .val (.ref b4), .val (.ref b5), .val (.int (1 : Int32))] [])
                                    refine Go.step (fun _ k => XS.aload W.here W.hx rfl (W.d at_370) rfl rfl k) ?_
                                    show Go _ _ _ _ _ _ _ _ _ _ (mkF m 372 #[.val (.long q0), .second, .val (.long q1), .second, .val (.int i1), .val (.int i2), .val (.int i3), .val (.int i4), .val (.int ff), .val (.int sw), .val (.int sl), .val (.int sb), .val (.int ss), .val (.int se), .val (.int kd), .val (.ref b1), .val (.ref b2), .val (.ref b3), .val (.ref r1), .val (.ref r2), .val (.ref r3), .val (.int e1), .val (.int e2), .val (.int e3), .val (.int u1), .val (.int u2), .val (.ref b4), .val (.ref b5), .val (.int (1 : Int32))] [(.ref b5)])
                                    refine Go.step (fun _ k => XS.aload W.here W.hx rfl (W.d at_372) rfl rfl k) ?_
                                    show Go _ _ _ _ _ _ _ _ _ _ (mkF m 374 #[.val (.long q0), .second, .val (.long q1), .second, .val (.int i1), .val (.int i2), .val (.int i3), .val (.int i4), .val (.int ff), .val (.int sw), .val (.int sl), .val (.int sb), .val (.int ss), .val (.int se), .val (.int kd), .val (.ref b1), .val (.ref b2), .val (.ref b3), .val (.ref r1), .val (.ref r2), .val (.ref r3), .val (.int e1), .val (.int e2), .val (.int e3), .val (.int u1), .val (.int u2), .val (.ref b4), .val (.ref b5), .val (.int (1 : Int32))] [(.ref b4), (.ref b5)])
                                    refine W.virtual (X.w 63 rfl) (X.w 64 rfl) (notFace_of_selects (args := #[]) (mvT W.hZ (X.w 66 rfl))) (X.w 66 rfl) (X.w 65 rfl) (X.w 48 rfl) (X.w 67 rfl) (by decide) (c_eq1 X b5 b4 r1 _ r2 _ r3 _ u1 u2 b1 _ b2 _ b3 _ i1 i2 _ W.ext Ab5 F_word_b5 Sr1 F_list_b5 Sr2 F_label_b5 Sr3 F_start_b5 F_end_b5 Ab4 F_word_b4 Sb1 F_list_b4 Sb2 F_label_b4 Sb3 F_start_b4 F_end_b4 (Ne.symm ne_b4_b5)) (by decide) (Wd := 0) (by decide) b5 Ab5 [(.ref b4)] [] rfl pd_3 rfl rfl rfl (Nat.le_of_eq rfl) at_374 (by decide) (by decide) ?_
                                    intro v T h vm W hQ C
                                    obtain ⟨hq13, rfl⟩ := hQ
                                    rcases hq13 with ⟨rfl, hq13⟩ | ⟨rfl, hq13⟩
                                    · show Go _ _ _ _ _ _ _ _ _ _ (mkF m 377 #[.val (.long q0), .second, .val (.long q1), .second, .val (.int i1), .val (.int i2), .val (.int i3), .val (.int i4), .val (.int ff), .val (.int sw), .val (.int sl), .val (.int sb), .val (.int ss), .val (.int se), .val (.int kd), .val (.ref b1), .val (.ref b2), .val (.ref b3), .val (.ref r1), .val (.ref r2), .val (.ref r3), .val (.int e1), .val (.int e2), .val (.int e3), .val (.int u1), .val (.int u2), .val (.ref b4), .val (.ref b5), .val (.int (1 : Int32))] [(.int (1 : Int32))])
                                      refine Go.step (fun _ k => XS.iload W.here W.hx rfl (W.d at_377) rfl k) ?_
                                      show Go _ _ _ _ _ _ _ _ _ _ (mkF m 379 #[.val (.long q0), .second, .val (.long q1), .second, .val (.int i1), .val (.int i2), .val (.int i3), .val (.int i4), .val (.int ff), .val (.int sw), .val (.int sl), .val (.int sb), .val (.int ss), .val (.int se), .val (.int kd), .val (.ref b1), .val (.ref b2), .val (.ref b3), .val (.ref r1), .val (.ref r2), .val (.ref r3), .val (.int e1), .val (.int e2), .val (.int e3), .val (.int u1), .val (.int u2), .val (.ref b4), .val (.ref b5), .val (.int (1 : Int32))] [(.int (1 : Int32)), (.int (1 : Int32))])
                                      refine Go.step (fun _ k => XS.icmpNo W.here W.hx rfl (W.d at_379) rfl (teq (by decide : (1 : Int32) = (1 : Int32))).2 k) ?_
                                      show Go _ _ _ _ _ _ _ _ _ _ (mkF m 382 #[.val (.long q0), .second, .val (.long q1), .second, .val (.int i1), .val (.int i2), .val (.int i3), .val (.int i4), .val (.int ff), .val (.int sw), .val (.int sl), .val (.int sb), .val (.int ss), .val (.int se), .val (.int kd), .val (.ref b1), .val (.ref b2), .val (.ref b3), .val (.ref r1), .val (.ref r2), .val (.ref r3), .val (.int e1), .val (.int e2), .val (.int e3), .val (.int u1), .val (.int u2), .val (.ref b4), .val (.ref b5), .val (.int (1 : Int32))] [])
                                      refine Go.step (fun _ k => XS.iconst W.here W.hx rfl (W.d at_382) k) ?_
                                      show Go _ _ _ _ _ _ _ _ _ _ (mkF m 383 #[.val (.long q0), .second, .val (.long q1), .second, .val (.int i1), .val (.int i2), .val (.int i3), .val (.int i4), .val (.int ff), .val (.int sw), .val (.int sl), .val (.int sb), .val (.int ss), .val (.int se), .val (.int kd), .val (.ref b1), .val (.ref b2), .val (.ref b3), .val (.ref r1), .val (.ref r2), .val (.ref r3), .val (.int e1), .val (.int e2), .val (.int e3), .val (.int u1), .val (.int u2), .val (.ref b4), .val (.ref b5), .val (.int (1 : Int32))] [(.int (1 : Int32))])
                                      refine Go.step (fun _ k => XS.goto W.here W.hx rfl (pc0 := 383) (pc' := 387) rfl (W.d at_383) (by decide) (by decide) k) ?_
                                      show Go _ _ _ _ _ _ _ _ _ _ (mkF m 387 #[.val (.long q0), .second, .val (.long q1), .second, .val (.int i1), .val (.int i2), .val (.int i3), .val (.int i4), .val (.int ff), .val (.int sw), .val (.int sl), .val (.int sb), .val (.int ss), .val (.int se), .val (.int kd), .val (.ref b1), .val (.ref b2), .val (.ref b3), .val (.ref r1), .val (.ref r2), .val (.ref r3), .val (.int e1), .val (.int e2), .val (.int e3), .val (.int u1), .val (.int u2), .val (.ref b4), .val (.ref b5), .val (.int (1 : Int32))] [(.int (1 : Int32))])
                                      exact W.retN (by simp) at_387 (rfl) (by decide) (by decide)
                                    · show Go _ _ _ _ _ _ _ _ _ _ (mkF m 377 #[.val (.long q0), .second, .val (.long q1), .second, .val (.int i1), .val (.int i2), .val (.int i3), .val (.int i4), .val (.int ff), .val (.int sw), .val (.int sl), .val (.int sb), .val (.int ss), .val (.int se), .val (.int kd), .val (.ref b1), .val (.ref b2), .val (.ref b3), .val (.ref r1), .val (.ref r2), .val (.ref r3), .val (.int e1), .val (.int e2), .val (.int e3), .val (.int u1), .val (.int u2), .val (.ref b4), .val (.ref b5), .val (.int (1 : Int32))] [(.int (0 : Int32))])
                                      refine Go.step (fun _ k => XS.iload W.here W.hx rfl (W.d at_377) rfl k) ?_
                                      show Go _ _ _ _ _ _ _ _ _ _ (mkF m 379 #[.val (.long q0), .second, .val (.long q1), .second, .val (.int i1), .val (.int i2), .val (.int i3), .val (.int i4), .val (.int ff), .val (.int sw), .val (.int sl), .val (.int sb), .val (.int ss), .val (.int se), .val (.int kd), .val (.ref b1), .val (.ref b2), .val (.ref b3), .val (.ref r1), .val (.ref r2), .val (.ref r3), .val (.int e1), .val (.int e2), .val (.int e3), .val (.int u1), .val (.int u2), .val (.ref b4), .val (.ref b5), .val (.int (1 : Int32))] [(.int (1 : Int32)), (.int (0 : Int32))])
                                      refine Go.step (fun _ k => XS.icmpYes W.here W.hx rfl (pc0 := 379) (pc' := 386) rfl (W.d at_379) rfl (feq (by decide : ¬ ((0 : Int32) = (1 : Int32)))).2 (by decide) (by decide) k) ?_
                                      show Go _ _ _ _ _ _ _ _ _ _ (mkF m 386 #[.val (.long q0), .second, .val (.long q1), .second, .val (.int i1), .val (.int i2), .val (.int i3), .val (.int i4), .val (.int ff), .val (.int sw), .val (.int sl), .val (.int sb), .val (.int ss), .val (.int se), .val (.int kd), .val (.ref b1), .val (.ref b2), .val (.ref b3), .val (.ref r1), .val (.ref r2), .val (.ref r3), .val (.int e1), .val (.int e2), .val (.int e3), .val (.int u1), .val (.int u2), .val (.ref b4), .val (.ref b5), .val (.int (1 : Int32))] [])
                                      refine Go.step (fun _ k => XS.iconst W.here W.hx rfl (W.d at_386) k) ?_
                                      show Go _ _ _ _ _ _ _ _ _ _ (mkF m 387 #[.val (.long q0), .second, .val (.long q1), .second, .val (.int i1), .val (.int i2), .val (.int i3), .val (.int i4), .val (.int ff), .val (.int sw), .val (.int sl), .val (.int sb), .val (.int ss), .val (.int se), .val (.int kd), .val (.ref b1), .val (.ref b2), .val (.ref b3), .val (.ref r1), .val (.ref r2), .val (.ref r3), .val (.int e1), .val (.int e2), .val (.int e3), .val (.int u1), .val (.int u2), .val (.ref b4), .val (.ref b5), .val (.int (1 : Int32))] [(.int (0 : Int32))])
                                      exact absurd ⟨hz.1.symm, hz.2.1.symm, hz.2.2.1.symm, hz.2.2.2.1.symm, hz.2.2.2.2.symm⟩ hq13
                                  · show Go _ _ _ _ _ _ _ _ _ _ (mkF m 365 #[.val (.long q0), .second, .val (.long q1), .second, .val (.int i1), .val (.int i2), .val (.int i3), .val (.int i4), .val (.int ff), .val (.int sw), .val (.int sl), .val (.int sb), .val (.int ss), .val (.int se), .val (.int kd), .val (.ref b1), .val (.ref b2), .val (.ref b3), .val (.ref r1), .val (.ref r2), .val (.ref r3), .val (.int e1), .val (.int e2), .val (.int e3), .val (.int u1), .val (.int u2), .val (.ref b4), .val (.ref b5), .val (.int (1 : Int32))] [(.int (0 : Int32))])
                                    refine Go.step (fun _ k => XS.iload W.here W.hx rfl (W.d at_365) rfl k) ?_
                                    show Go _ _ _ _ _ _ _ _ _ _ (mkF m 367 #[.val (.long q0), .second, .val (.long q1), .second, .val (.int i1), .val (.int i2), .val (.int i3), .val (.int i4), .val (.int ff), .val (.int sw), .val (.int sl), .val (.int sb), .val (.int ss), .val (.int se), .val (.int kd), .val (.ref b1), .val (.ref b2), .val (.ref b3), .val (.ref r1), .val (.ref r2), .val (.ref r3), .val (.int e1), .val (.int e2), .val (.int e3), .val (.int u1), .val (.int u2), .val (.ref b4), .val (.ref b5), .val (.int (1 : Int32))] [(.int (1 : Int32)), (.int (0 : Int32))])
                                    refine Go.step (fun _ k => XS.icmpYes W.here W.hx rfl (pc0 := 367) (pc' := 386) rfl (W.d at_367) rfl (feq (by decide : ¬ ((0 : Int32) = (1 : Int32)))).2 (by decide) (by decide) k) ?_
                                    show Go _ _ _ _ _ _ _ _ _ _ (mkF m 386 #[.val (.long q0), .second, .val (.long q1), .second, .val (.int i1), .val (.int i2), .val (.int i3), .val (.int i4), .val (.int ff), .val (.int sw), .val (.int sl), .val (.int sb), .val (.int ss), .val (.int se), .val (.int kd), .val (.ref b1), .val (.ref b2), .val (.ref b3), .val (.ref r1), .val (.ref r2), .val (.ref r3), .val (.int e1), .val (.int e2), .val (.int e3), .val (.int u1), .val (.int u2), .val (.ref b4), .val (.ref b5), .val (.int (1 : Int32))] [])
                                    refine Go.step (fun _ k => XS.iconst W.here W.hx rfl (W.d at_386) k) ?_
                                    show Go _ _ _ _ _ _ _ _ _ _ (mkF m 387 #[.val (.long q0), .second, .val (.long q1), .second, .val (.int i1), .val (.int i2), .val (.int i3), .val (.int i4), .val (.int ff), .val (.int sw), .val (.int sl), .val (.int sb), .val (.int ss), .val (.int se), .val (.int kd), .val (.ref b1), .val (.ref b2), .val (.ref b3), .val (.ref r1), .val (.ref r2), .val (.ref r3), .val (.int e1), .val (.int e2), .val (.int e3), .val (.int u1), .val (.int u2), .val (.ref b4), .val (.ref b5), .val (.int (1 : Int32))] [(.int (0 : Int32))])
                                    exact absurd hz hq12
                                · show Go _ _ _ _ _ _ _ _ _ _ (mkF m 358 #[.val (.long q0), .second, .val (.long q1), .second, .val (.int i1), .val (.int i2), .val (.int i3), .val (.int i4), .val (.int ff), .val (.int sw), .val (.int sl), .val (.int sb), .val (.int ss), .val (.int se), .val (.int kd), .val (.ref b1), .val (.ref b2), .val (.ref b3), .val (.ref r1), .val (.ref r2), .val (.ref r3), .val (.int e1), .val (.int e2), .val (.int e3), .val (.int u1), .val (.int u2), .val (.ref b4), .val (.ref b5), .val (.int (0 : Int32))] [])
                                  refine Go.step (fun _ k => XS.aload W.here W.hx rfl (W.d at_358) rfl rfl k) ?_
                                  show Go _ _ _ _ _ _ _ _ _ _ (mkF m 360 #[.val (.long q0), .second, .val (.long q1), .second, .val (.int i1), .val (.int i2), .val (.int i3), .val (.int i4), .val (.int ff), .val (.int sw), .val (.int sl), .val (.int sb), .val (.int ss), .val (.int se), .val (.int kd), .val (.ref b1), .val (.ref b2), .val (.ref b3), .val (.ref r1), .val (.ref r2), .val (.ref r3), .val (.int e1), .val (.int e2), .val (.int e3), .val (.int u1), .val (.int u2), .val (.ref b4), .val (.ref b5), .val (.int (0 : Int32))] [(.ref b4)])
                                  refine Go.step (fun _ k => XS.aload W.here W.hx rfl (W.d at_360) rfl rfl k) ?_
                                  show Go _ _ _ _ _ _ _ _ _ _ (mkF m 362 #[.val (.long q0), .second, .val (.long q1), .second, .val (.int i1), .val (.int i2), .val (.int i3), .val (.int i4), .val (.int ff), .val (.int sw), .val (.int sl), .val (.int sb), .val (.int ss), .val (.int se), .val (.int kd), .val (.ref b1), .val (.ref b2), .val (.ref b3), .val (.ref r1), .val (.ref r2), .val (.ref r3), .val (.int e1), .val (.int e2), .val (.int e3), .val (.int u1), .val (.int u2), .val (.ref b4), .val (.ref b5), .val (.int (0 : Int32))] [(.ref b5), (.ref b4)])
                                  refine W.virtual (X.w 63 rfl) (X.w 64 rfl) (notFace_of_selects (args := #[]) (mvT W.hZ (X.w 66 rfl))) (X.w 66 rfl) (X.w 65 rfl) (X.w 48 rfl) (X.w 67 rfl) (by decide) (c_eq1 X b4 b5 b1 _ b2 _ b3 _ i1 i2 r1 _ r2 _ r3 _ u1 u2 _ W.ext Ab4 F_word_b4 Sb1 F_list_b4 Sb2 F_label_b4 Sb3 F_start_b4 F_end_b4 Ab5 F_word_b5 Sr1 F_list_b5 Sr2 F_label_b5 Sr3 F_start_b5 F_end_b5 ne_b4_b5) (by decide) (Wd := 0) (by decide) b4 Ab4 [(.ref b5)] [] rfl pd_3 rfl rfl rfl (Nat.le_of_eq rfl) at_362 (by decide) (by decide) ?_
                                  intro v T h vm W hQ C
                                  obtain ⟨hq14, rfl⟩ := hQ
                                  rcases hq14 with ⟨rfl, hq14⟩ | ⟨rfl, hq14⟩
                                  · show Go _ _ _ _ _ _ _ _ _ _ (mkF m 365 #[.val (.long q0), .second, .val (.long q1), .second, .val (.int i1), .val (.int i2), .val (.int i3), .val (.int i4), .val (.int ff), .val (.int sw), .val (.int sl), .val (.int sb), .val (.int ss), .val (.int se), .val (.int kd), .val (.ref b1), .val (.ref b2), .val (.ref b3), .val (.ref r1), .val (.ref r2), .val (.ref r3), .val (.int e1), .val (.int e2), .val (.int e3), .val (.int u1), .val (.int u2), .val (.ref b4), .val (.ref b5), .val (.int (0 : Int32))] [(.int (1 : Int32))])
                                    refine Go.step (fun _ k => XS.iload W.here W.hx rfl (W.d at_365) rfl k) ?_
                                    show Go _ _ _ _ _ _ _ _ _ _ (mkF m 367 #[.val (.long q0), .second, .val (.long q1), .second, .val (.int i1), .val (.int i2), .val (.int i3), .val (.int i4), .val (.int ff), .val (.int sw), .val (.int sl), .val (.int sb), .val (.int ss), .val (.int se), .val (.int kd), .val (.ref b1), .val (.ref b2), .val (.ref b3), .val (.ref r1), .val (.ref r2), .val (.ref r3), .val (.int e1), .val (.int e2), .val (.int e3), .val (.int u1), .val (.int u2), .val (.ref b4), .val (.ref b5), .val (.int (0 : Int32))] [(.int (0 : Int32)), (.int (1 : Int32))])
                                    refine Go.step (fun _ k => XS.icmpYes W.here W.hx rfl (pc0 := 367) (pc' := 386) rfl (W.d at_367) rfl (feq (by decide : ¬ ((1 : Int32) = (0 : Int32)))).2 (by decide) (by decide) k) ?_
                                    show Go _ _ _ _ _ _ _ _ _ _ (mkF m 386 #[.val (.long q0), .second, .val (.long q1), .second, .val (.int i1), .val (.int i2), .val (.int i3), .val (.int i4), .val (.int ff), .val (.int sw), .val (.int sl), .val (.int sb), .val (.int ss), .val (.int se), .val (.int kd), .val (.ref b1), .val (.ref b2), .val (.ref b3), .val (.ref r1), .val (.ref r2), .val (.ref r3), .val (.int e1), .val (.int e2), .val (.int e3), .val (.int u1), .val (.int u2), .val (.ref b4), .val (.ref b5), .val (.int (0 : Int32))] [])
                                    refine Go.step (fun _ k => XS.iconst W.here W.hx rfl (W.d at_386) k) ?_
                                    show Go _ _ _ _ _ _ _ _ _ _ (mkF m 387 #[.val (.long q0), .second, .val (.long q1), .second, .val (.int i1), .val (.int i2), .val (.int i3), .val (.int i4), .val (.int ff), .val (.int sw), .val (.int sl), .val (.int sb), .val (.int ss), .val (.int se), .val (.int kd), .val (.ref b1), .val (.ref b2), .val (.ref b3), .val (.ref r1), .val (.ref r2), .val (.ref r3), .val (.int e1), .val (.int e2), .val (.int e3), .val (.int u1), .val (.int u2), .val (.ref b4), .val (.ref b5), .val (.int (0 : Int32))] [(.int (0 : Int32))])
                                    exact absurd hq14 hz
                                  · show Go _ _ _ _ _ _ _ _ _ _ (mkF m 365 #[.val (.long q0), .second, .val (.long q1), .second, .val (.int i1), .val (.int i2), .val (.int i3), .val (.int i4), .val (.int ff), .val (.int sw), .val (.int sl), .val (.int sb), .val (.int ss), .val (.int se), .val (.int kd), .val (.ref b1), .val (.ref b2), .val (.ref b3), .val (.ref r1), .val (.ref r2), .val (.ref r3), .val (.int e1), .val (.int e2), .val (.int e3), .val (.int u1), .val (.int u2), .val (.ref b4), .val (.ref b5), .val (.int (0 : Int32))] [(.int (0 : Int32))])
                                    refine Go.step (fun _ k => XS.iload W.here W.hx rfl (W.d at_365) rfl k) ?_
                                    show Go _ _ _ _ _ _ _ _ _ _ (mkF m 367 #[.val (.long q0), .second, .val (.long q1), .second, .val (.int i1), .val (.int i2), .val (.int i3), .val (.int i4), .val (.int ff), .val (.int sw), .val (.int sl), .val (.int sb), .val (.int ss), .val (.int se), .val (.int kd), .val (.ref b1), .val (.ref b2), .val (.ref b3), .val (.ref r1), .val (.ref r2), .val (.ref r3), .val (.int e1), .val (.int e2), .val (.int e3), .val (.int u1), .val (.int u2), .val (.ref b4), .val (.ref b5), .val (.int (0 : Int32))] [(.int (0 : Int32)), (.int (0 : Int32))])
                                    refine Go.step (fun _ k => XS.icmpNo W.here W.hx rfl (W.d at_367) rfl (teq (by decide : (0 : Int32) = (0 : Int32))).2 k) ?_
                                    show Go _ _ _ _ _ _ _ _ _ _ (mkF m 370 #[.val (.long q0), .second, .val (.long q1), .second, .val (.int i1), .val (.int i2), .val (.int i3), .val (.int i4), .val (.int ff), .val (.int sw), .val (.int sl), .val (.int sb), .val (.int ss), .val (.int se), .val (.int kd), .val (.ref b1), .val (.ref b2), .val (.ref b3), .val (.ref r1), .val (.ref r2), .val (.ref r3), .val (.int e1), .val (.int e2), .val (.int e3), .val (.int u1), .val (.int u2), .val (.ref b4), .val (.ref b5), .val (.int (0 : Int32))] [])
                                    refine Go.step (fun _ k => XS.aload W.here W.hx rfl (W.d at_370) rfl rfl k) ?_
                                    show Go _ _ _ _ _ _ _ _ _ _ (mkF m 372 #[.val (.long q0), .second, .val (.long q1), .second, .val (.int i1), .val (.int i2), .val (.int i3), .val (.int i4), .val (.int ff), .val (.int sw), .val (.int sl), .val (.int sb), .val (.int ss), .val (.int se), .val (.int kd), .val (.ref b1), .val (.ref b2), .val (.ref b3), .val (.ref r1), .val (.ref r2), .val (.ref r3), .val (.int e1), .val (.int e2), .val (.int e3), .val (.int u1), .val (.int u2), .val (.ref b4), .val (.ref b5), .val (.int (0 : Int32))] [(.ref b5)])
                                    refine Go.step (fun _ k => XS.aload W.here W.hx rfl (W.d at_372) rfl rfl k) ?_
                                    show Go _ _ _ _ _ _ _ _ _ _ (mkF m 374 #[.val (.long q0), .second, .val (.long q1), .second, .val (.int i1), .val (.int i2), .val (.int i3), .val (.int i4), .val (.int ff), .val (.int sw), .val (.int sl), .val (.int sb), .val (.int ss), .val (.int se), .val (.int kd), .val (.ref b1), .val (.ref b2), .val (.ref b3), .val (.ref r1), .val (.ref r2), .val (.ref r3), .val (.int e1), .val (.int e2), .val (.int e3), .val (.int u1), .val (.int u2), .val (.ref b4), .val (.ref b5), .val (.int (0 : Int32))] [(.ref b4), (.ref b5)])
                                    refine W.virtual (X.w 63 rfl) (X.w 64 rfl) (notFace_of_selects (args := #[]) (mvT W.hZ (X.w 66 rfl))) (X.w 66 rfl) (X.w 65 rfl) (X.w 48 rfl) (X.w 67 rfl) (by decide) (c_eq1 X b5 b4 r1 _ r2 _ r3 _ u1 u2 b1 _ b2 _ b3 _ i1 i2 _ W.ext Ab5 F_word_b5 Sr1 F_list_b5 Sr2 F_label_b5 Sr3 F_start_b5 F_end_b5 Ab4 F_word_b4 Sb1 F_list_b4 Sb2 F_label_b4 Sb3 F_start_b4 F_end_b4 (Ne.symm ne_b4_b5)) (by decide) (Wd := 0) (by decide) b5 Ab5 [(.ref b4)] [] rfl pd_3 rfl rfl rfl (Nat.le_of_eq rfl) at_374 (by decide) (by decide) ?_
                                    intro v T h vm W hQ C
                                    obtain ⟨hq15, rfl⟩ := hQ
                                    rcases hq15 with ⟨rfl, hq15⟩ | ⟨rfl, hq15⟩
                                    · show Go _ _ _ _ _ _ _ _ _ _ (mkF m 377 #[.val (.long q0), .second, .val (.long q1), .second, .val (.int i1), .val (.int i2), .val (.int i3), .val (.int i4), .val (.int ff), .val (.int sw), .val (.int sl), .val (.int sb), .val (.int ss), .val (.int se), .val (.int kd), .val (.ref b1), .val (.ref b2), .val (.ref b3), .val (.ref r1), .val (.ref r2), .val (.ref r3), .val (.int e1), .val (.int e2), .val (.int e3), .val (.int u1), .val (.int u2), .val (.ref b4), .val (.ref b5), .val (.int (0 : Int32))] [(.int (1 : Int32))])
                                      refine Go.step (fun _ k => XS.iload W.here W.hx rfl (W.d at_377) rfl k) ?_
                                      show Go _ _ _ _ _ _ _ _ _ _ (mkF m 379 #[.val (.long q0), .second, .val (.long q1), .second, .val (.int i1), .val (.int i2), .val (.int i3), .val (.int i4), .val (.int ff), .val (.int sw), .val (.int sl), .val (.int sb), .val (.int ss), .val (.int se), .val (.int kd), .val (.ref b1), .val (.ref b2), .val (.ref b3), .val (.ref r1), .val (.ref r2), .val (.ref r3), .val (.int e1), .val (.int e2), .val (.int e3), .val (.int u1), .val (.int u2), .val (.ref b4), .val (.ref b5), .val (.int (0 : Int32))] [(.int (0 : Int32)), (.int (1 : Int32))])
                                      refine Go.step (fun _ k => XS.icmpYes W.here W.hx rfl (pc0 := 379) (pc' := 386) rfl (W.d at_379) rfl (feq (by decide : ¬ ((1 : Int32) = (0 : Int32)))).2 (by decide) (by decide) k) ?_
                                      show Go _ _ _ _ _ _ _ _ _ _ (mkF m 386 #[.val (.long q0), .second, .val (.long q1), .second, .val (.int i1), .val (.int i2), .val (.int i3), .val (.int i4), .val (.int ff), .val (.int sw), .val (.int sl), .val (.int sb), .val (.int ss), .val (.int se), .val (.int kd), .val (.ref b1), .val (.ref b2), .val (.ref b3), .val (.ref r1), .val (.ref r2), .val (.ref r3), .val (.int e1), .val (.int e2), .val (.int e3), .val (.int u1), .val (.int u2), .val (.ref b4), .val (.ref b5), .val (.int (0 : Int32))] [])
                                      refine Go.step (fun _ k => XS.iconst W.here W.hx rfl (W.d at_386) k) ?_
                                      show Go _ _ _ _ _ _ _ _ _ _ (mkF m 387 #[.val (.long q0), .second, .val (.long q1), .second, .val (.int i1), .val (.int i2), .val (.int i3), .val (.int i4), .val (.int ff), .val (.int sw), .val (.int sl), .val (.int sb), .val (.int ss), .val (.int se), .val (.int kd), .val (.ref b1), .val (.ref b2), .val (.ref b3), .val (.ref r1), .val (.ref r2), .val (.ref r3), .val (.int e1), .val (.int e2), .val (.int e3), .val (.int u1), .val (.int u2), .val (.ref b4), .val (.ref b5), .val (.int (0 : Int32))] [(.int (0 : Int32))])
                                      exact absurd ⟨hq15.1.symm, hq15.2.1.symm, hq15.2.2.1.symm, hq15.2.2.2.1.symm, hq15.2.2.2.2.symm⟩ hz
                                    · show Go _ _ _ _ _ _ _ _ _ _ (mkF m 377 #[.val (.long q0), .second, .val (.long q1), .second, .val (.int i1), .val (.int i2), .val (.int i3), .val (.int i4), .val (.int ff), .val (.int sw), .val (.int sl), .val (.int sb), .val (.int ss), .val (.int se), .val (.int kd), .val (.ref b1), .val (.ref b2), .val (.ref b3), .val (.ref r1), .val (.ref r2), .val (.ref r3), .val (.int e1), .val (.int e2), .val (.int e3), .val (.int u1), .val (.int u2), .val (.ref b4), .val (.ref b5), .val (.int (0 : Int32))] [(.int (0 : Int32))])
                                      refine Go.step (fun _ k => XS.iload W.here W.hx rfl (W.d at_377) rfl k) ?_
                                      show Go _ _ _ _ _ _ _ _ _ _ (mkF m 379 #[.val (.long q0), .second, .val (.long q1), .second, .val (.int i1), .val (.int i2), .val (.int i3), .val (.int i4), .val (.int ff), .val (.int sw), .val (.int sl), .val (.int sb), .val (.int ss), .val (.int se), .val (.int kd), .val (.ref b1), .val (.ref b2), .val (.ref b3), .val (.ref r1), .val (.ref r2), .val (.ref r3), .val (.int e1), .val (.int e2), .val (.int e3), .val (.int u1), .val (.int u2), .val (.ref b4), .val (.ref b5), .val (.int (0 : Int32))] [(.int (0 : Int32)), (.int (0 : Int32))])
                                      refine Go.step (fun _ k => XS.icmpNo W.here W.hx rfl (W.d at_379) rfl (teq (by decide : (0 : Int32) = (0 : Int32))).2 k) ?_
                                      show Go _ _ _ _ _ _ _ _ _ _ (mkF m 382 #[.val (.long q0), .second, .val (.long q1), .second, .val (.int i1), .val (.int i2), .val (.int i3), .val (.int i4), .val (.int ff), .val (.int sw), .val (.int sl), .val (.int sb), .val (.int ss), .val (.int se), .val (.int kd), .val (.ref b1), .val (.ref b2), .val (.ref b3), .val (.ref r1), .val (.ref r2), .val (.ref r3), .val (.int e1), .val (.int e2), .val (.int e3), .val (.int u1), .val (.int u2), .val (.ref b4), .val (.ref b5), .val (.int (0 : Int32))] [])
                                      refine Go.step (fun _ k => XS.iconst W.here W.hx rfl (W.d at_382) k) ?_
                                      show Go _ _ _ _ _ _ _ _ _ _ (mkF m 383 #[.val (.long q0), .second, .val (.long q1), .second, .val (.int i1), .val (.int i2), .val (.int i3), .val (.int i4), .val (.int ff), .val (.int sw), .val (.int sl), .val (.int sb), .val (.int ss), .val (.int se), .val (.int kd), .val (.ref b1), .val (.ref b2), .val (.ref b3), .val (.ref r1), .val (.ref r2), .val (.ref r3), .val (.int e1), .val (.int e2), .val (.int e3), .val (.int u1), .val (.int u2), .val (.ref b4), .val (.ref b5), .val (.int (0 : Int32))] [(.int (1 : Int32))])
                                      refine Go.step (fun _ k => XS.goto W.here W.hx rfl (pc0 := 383) (pc' := 387) rfl (W.d at_383) (by decide) (by decide) k) ?_
                                      show Go _ _ _ _ _ _ _ _ _ _ (mkF m 387 #[.val (.long q0), .second, .val (.long q1), .second, .val (.int i1), .val (.int i2), .val (.int i3), .val (.int i4), .val (.int ff), .val (.int sw), .val (.int sl), .val (.int sb), .val (.int ss), .val (.int se), .val (.int kd), .val (.ref b1), .val (.ref b2), .val (.ref b3), .val (.ref r1), .val (.ref r2), .val (.ref r3), .val (.int e1), .val (.int e2), .val (.int e3), .val (.int u1), .val (.int u2), .val (.ref b4), .val (.ref b5), .val (.int (0 : Int32))] [(.int (1 : Int32))])
                                      exact W.retN (by simp) at_387 (rfl) (by decide) (by decide)
                            rcases he1 with ⟨rfl, he1⟩ | ⟨rfl, he1⟩
                            · show Go _ _ _ _ _ _ _ _ _ _ (mkF m 316 #[.val (.long q0), .second, .val (.long q1), .second, .val (.int i1), .val (.int i2), .val (.int i3), .val (.int i4), .val (.int ff), .val (.int sw), .val (.int sl), .val (.int sb), .val (.int ss), .val (.int se), .val (.int kd), .val (.ref b1), .val (.ref b2), .val (.ref b3), .val (.ref r1), .val (.ref r2), .val (.ref r3), .val (.int (1 : Int32)), .val (.int e2), .val (.int e3), .val (.int u1), .val (.int u2), .val (.ref b4), .val (.ref b5), .unset] [])
                              refine Go.step (fun _ k => XS.iload W.here W.hx rfl (W.d at_316) rfl k) ?_
                              show Go _ _ _ _ _ _ _ _ _ _ (mkF m 318 #[.val (.long q0), .second, .val (.long q1), .second, .val (.int i1), .val (.int i2), .val (.int i3), .val (.int i4), .val (.int ff), .val (.int sw), .val (.int sl), .val (.int sb), .val (.int ss), .val (.int se), .val (.int kd), .val (.ref b1), .val (.ref b2), .val (.ref b3), .val (.ref r1), .val (.ref r2), .val (.ref r3), .val (.int (1 : Int32)), .val (.int e2), .val (.int e3), .val (.int u1), .val (.int u2), .val (.ref b4), .val (.ref b5), .unset] [(.int (1 : Int32))])
                              refine Go.step (fun _ k => XS.ifNo W.here W.hx rfl (W.d at_318) rfl ((if0 _ _).trans (feq (by decide : ¬ ((1 : Int32) = (0 : Int32)))).1) k) ?_
                              show Go _ _ _ _ _ _ _ _ _ _ (mkF m 321 #[.val (.long q0), .second, .val (.long q1), .second, .val (.int i1), .val (.int i2), .val (.int i3), .val (.int i4), .val (.int ff), .val (.int sw), .val (.int sl), .val (.int sb), .val (.int ss), .val (.int se), .val (.int kd), .val (.ref b1), .val (.ref b2), .val (.ref b3), .val (.ref r1), .val (.ref r2), .val (.ref r3), .val (.int (1 : Int32)), .val (.int e2), .val (.int e3), .val (.int u1), .val (.int u2), .val (.ref b4), .val (.ref b5), .unset] [])
                              rcases he2 with ⟨rfl, he2⟩ | ⟨rfl, he2⟩
                              · show Go _ _ _ _ _ _ _ _ _ _ (mkF m 321 #[.val (.long q0), .second, .val (.long q1), .second, .val (.int i1), .val (.int i2), .val (.int i3), .val (.int i4), .val (.int ff), .val (.int sw), .val (.int sl), .val (.int sb), .val (.int ss), .val (.int se), .val (.int kd), .val (.ref b1), .val (.ref b2), .val (.ref b3), .val (.ref r1), .val (.ref r2), .val (.ref r3), .val (.int (1 : Int32)), .val (.int (1 : Int32)), .val (.int e3), .val (.int u1), .val (.int u2), .val (.ref b4), .val (.ref b5), .unset] [])
                                refine Go.step (fun _ k => XS.iload W.here W.hx rfl (W.d at_321) rfl k) ?_
                                show Go _ _ _ _ _ _ _ _ _ _ (mkF m 323 #[.val (.long q0), .second, .val (.long q1), .second, .val (.int i1), .val (.int i2), .val (.int i3), .val (.int i4), .val (.int ff), .val (.int sw), .val (.int sl), .val (.int sb), .val (.int ss), .val (.int se), .val (.int kd), .val (.ref b1), .val (.ref b2), .val (.ref b3), .val (.ref r1), .val (.ref r2), .val (.ref r3), .val (.int (1 : Int32)), .val (.int (1 : Int32)), .val (.int e3), .val (.int u1), .val (.int u2), .val (.ref b4), .val (.ref b5), .unset] [(.int (1 : Int32))])
                                refine Go.step (fun _ k => XS.ifNo W.here W.hx rfl (W.d at_323) rfl ((if0 _ _).trans (feq (by decide : ¬ ((1 : Int32) = (0 : Int32)))).1) k) ?_
                                show Go _ _ _ _ _ _ _ _ _ _ (mkF m 326 #[.val (.long q0), .second, .val (.long q1), .second, .val (.int i1), .val (.int i2), .val (.int i3), .val (.int i4), .val (.int ff), .val (.int sw), .val (.int sl), .val (.int sb), .val (.int ss), .val (.int se), .val (.int kd), .val (.ref b1), .val (.ref b2), .val (.ref b3), .val (.ref r1), .val (.ref r2), .val (.ref r3), .val (.int (1 : Int32)), .val (.int (1 : Int32)), .val (.int e3), .val (.int u1), .val (.int u2), .val (.ref b4), .val (.ref b5), .unset] [])
                                rcases he3 with ⟨rfl, he3⟩ | ⟨rfl, he3⟩
                                · show Go _ _ _ _ _ _ _ _ _ _ (mkF m 326 #[.val (.long q0), .second, .val (.long q1), .second, .val (.int i1), .val (.int i2), .val (.int i3), .val (.int i4), .val (.int ff), .val (.int sw), .val (.int sl), .val (.int sb), .val (.int ss), .val (.int se), .val (.int kd), .val (.ref b1), .val (.ref b2), .val (.ref b3), .val (.ref r1), .val (.ref r2), .val (.ref r3), .val (.int (1 : Int32)), .val (.int (1 : Int32)), .val (.int (1 : Int32)), .val (.int u1), .val (.int u2), .val (.ref b4), .val (.ref b5), .unset] [])
                                  refine Go.step (fun _ k => XS.iload W.here W.hx rfl (W.d at_326) rfl k) ?_
                                  show Go _ _ _ _ _ _ _ _ _ _ (mkF m 328 #[.val (.long q0), .second, .val (.long q1), .second, .val (.int i1), .val (.int i2), .val (.int i3), .val (.int i4), .val (.int ff), .val (.int sw), .val (.int sl), .val (.int sb), .val (.int ss), .val (.int se), .val (.int kd), .val (.ref b1), .val (.ref b2), .val (.ref b3), .val (.ref r1), .val (.ref r2), .val (.ref r3), .val (.int (1 : Int32)), .val (.int (1 : Int32)), .val (.int (1 : Int32)), .val (.int u1), .val (.int u2), .val (.ref b4), .val (.ref b5), .unset] [(.int (1 : Int32))])
                                  refine Go.step (fun _ k => XS.ifNo W.here W.hx rfl (W.d at_328) rfl ((if0 _ _).trans (feq (by decide : ¬ ((1 : Int32) = (0 : Int32)))).1) k) ?_
                                  show Go _ _ _ _ _ _ _ _ _ _ (mkF m 331 #[.val (.long q0), .second, .val (.long q1), .second, .val (.int i1), .val (.int i2), .val (.int i3), .val (.int i4), .val (.int ff), .val (.int sw), .val (.int sl), .val (.int sb), .val (.int ss), .val (.int se), .val (.int kd), .val (.ref b1), .val (.ref b2), .val (.ref b3), .val (.ref r1), .val (.ref r2), .val (.ref r3), .val (.int (1 : Int32)), .val (.int (1 : Int32)), .val (.int (1 : Int32)), .val (.int u1), .val (.int u2), .val (.ref b4), .val (.ref b5), .unset] [])
                                  refine Go.step (fun _ k => XS.iload W.here W.hx rfl (W.d at_331) rfl k) ?_
                                  show Go _ _ _ _ _ _ _ _ _ _ (mkF m 333 #[.val (.long q0), .second, .val (.long q1), .second, .val (.int i1), .val (.int i2), .val (.int i3), .val (.int i4), .val (.int ff), .val (.int sw), .val (.int sl), .val (.int sb), .val (.int ss), .val (.int se), .val (.int kd), .val (.ref b1), .val (.ref b2), .val (.ref b3), .val (.ref r1), .val (.ref r2), .val (.ref r3), .val (.int (1 : Int32)), .val (.int (1 : Int32)), .val (.int (1 : Int32)), .val (.int u1), .val (.int u2), .val (.ref b4), .val (.ref b5), .unset] [(.int i1)])
                                  refine Go.step (fun _ k => XS.iload W.here W.hx rfl (W.d at_333) rfl k) ?_
                                  show Go _ _ _ _ _ _ _ _ _ _ (mkF m 335 #[.val (.long q0), .second, .val (.long q1), .second, .val (.int i1), .val (.int i2), .val (.int i3), .val (.int i4), .val (.int ff), .val (.int sw), .val (.int sl), .val (.int sb), .val (.int ss), .val (.int se), .val (.int kd), .val (.ref b1), .val (.ref b2), .val (.ref b3), .val (.ref r1), .val (.ref r2), .val (.ref r3), .val (.int (1 : Int32)), .val (.int (1 : Int32)), .val (.int (1 : Int32)), .val (.int u1), .val (.int u2), .val (.ref b4), .val (.ref b5), .unset] [(.int u1), (.int i1)])
                                  by_cases hc16 : i1 = u1
                                  · refine Go.step (fun _ k => XS.icmpNo W.here W.hx rfl (W.d at_335) rfl (teq hc16).2 k) ?_
                                    show Go _ _ _ _ _ _ _ _ _ _ (mkF m 338 #[.val (.long q0), .second, .val (.long q1), .second, .val (.int i1), .val (.int i2), .val (.int i3), .val (.int i4), .val (.int ff), .val (.int sw), .val (.int sl), .val (.int sb), .val (.int ss), .val (.int se), .val (.int kd), .val (.ref b1), .val (.ref b2), .val (.ref b3), .val (.ref r1), .val (.ref r2), .val (.ref r3), .val (.int (1 : Int32)), .val (.int (1 : Int32)), .val (.int (1 : Int32)), .val (.int u1), .val (.int u2), .val (.ref b4), .val (.ref b5), .unset] [])
                                    refine Go.step (fun _ k => XS.iload W.here W.hx rfl (W.d at_338) rfl k) ?_
                                    show Go _ _ _ _ _ _ _ _ _ _ (mkF m 340 #[.val (.long q0), .second, .val (.long q1), .second, .val (.int i1), .val (.int i2), .val (.int i3), .val (.int i4), .val (.int ff), .val (.int sw), .val (.int sl), .val (.int sb), .val (.int ss), .val (.int se), .val (.int kd), .val (.ref b1), .val (.ref b2), .val (.ref b3), .val (.ref r1), .val (.ref r2), .val (.ref r3), .val (.int (1 : Int32)), .val (.int (1 : Int32)), .val (.int (1 : Int32)), .val (.int u1), .val (.int u2), .val (.ref b4), .val (.ref b5), .unset] [(.int i2)])
                                    refine Go.step (fun _ k => XS.iload W.here W.hx rfl (W.d at_340) rfl k) ?_
                                    show Go _ _ _ _ _ _ _ _ _ _ (mkF m 342 #[.val (.long q0), .second, .val (.long q1), .second, .val (.int i1), .val (.int i2), .val (.int i3), .val (.int i4), .val (.int ff), .val (.int sw), .val (.int sl), .val (.int sb), .val (.int ss), .val (.int se), .val (.int kd), .val (.ref b1), .val (.ref b2), .val (.ref b3), .val (.ref r1), .val (.ref r2), .val (.ref r3), .val (.int (1 : Int32)), .val (.int (1 : Int32)), .val (.int (1 : Int32)), .val (.int u1), .val (.int u2), .val (.ref b4), .val (.ref b5), .unset] [(.int u2), (.int i2)])
                                    by_cases hc17 : i2 = u2
                                    · refine Go.step (fun _ k => XS.icmpNo W.here W.hx rfl (W.d at_342) rfl (teq hc17).2 k) ?_
                                      show Go _ _ _ _ _ _ _ _ _ _ (mkF m 345 #[.val (.long q0), .second, .val (.long q1), .second, .val (.int i1), .val (.int i2), .val (.int i3), .val (.int i4), .val (.int ff), .val (.int sw), .val (.int sl), .val (.int sb), .val (.int ss), .val (.int se), .val (.int kd), .val (.ref b1), .val (.ref b2), .val (.ref b3), .val (.ref r1), .val (.ref r2), .val (.ref r3), .val (.int (1 : Int32)), .val (.int (1 : Int32)), .val (.int (1 : Int32)), .val (.int u1), .val (.int u2), .val (.ref b4), .val (.ref b5), .unset] [])
                                      refine Go.step (fun _ k => XS.iconst W.here W.hx rfl (W.d at_345) k) ?_
                                      show Go _ _ _ _ _ _ _ _ _ _ (mkF m 346 #[.val (.long q0), .second, .val (.long q1), .second, .val (.int i1), .val (.int i2), .val (.int i3), .val (.int i4), .val (.int ff), .val (.int sw), .val (.int sl), .val (.int sb), .val (.int ss), .val (.int se), .val (.int kd), .val (.ref b1), .val (.ref b2), .val (.ref b3), .val (.ref r1), .val (.ref r2), .val (.ref r3), .val (.int (1 : Int32)), .val (.int (1 : Int32)), .val (.int (1 : Int32)), .val (.int u1), .val (.int u2), .val (.ref b4), .val (.ref b5), .unset] [(.int (1 : Int32))])
                                      refine Go.step (fun _ k => XS.goto W.here W.hx rfl (pc0 := 346) (pc' := 350) rfl (W.d at_346) (by decide) (by decide) k) ?_
                                      show Go _ _ _ _ _ _ _ _ _ _ (mkF m 350 #[.val (.long q0), .second, .val (.long q1), .second, .val (.int i1), .val (.int i2), .val (.int i3), .val (.int i4), .val (.int ff), .val (.int sw), .val (.int sl), .val (.int sb), .val (.int ss), .val (.int se), .val (.int kd), .val (.ref b1), .val (.ref b2), .val (.ref b3), .val (.ref r1), .val (.ref r2), .val (.ref r3), .val (.int (1 : Int32)), .val (.int (1 : Int32)), .val (.int (1 : Int32)), .val (.int u1), .val (.int u2), .val (.ref b4), .val (.ref b5), .unset] [(.int (1 : Int32))])
                                      exact J350 _ _ _ W (Or.inl ⟨rfl, ⟨he1, he2, he3, hc16, hc17⟩⟩)
                                    · refine Go.step (fun _ k => XS.icmpYes W.here W.hx rfl (pc0 := 342) (pc' := 349) rfl (W.d at_342) rfl (feq hc17).2 (by decide) (by decide) k) ?_
                                      show Go _ _ _ _ _ _ _ _ _ _ (mkF m 349 #[.val (.long q0), .second, .val (.long q1), .second, .val (.int i1), .val (.int i2), .val (.int i3), .val (.int i4), .val (.int ff), .val (.int sw), .val (.int sl), .val (.int sb), .val (.int ss), .val (.int se), .val (.int kd), .val (.ref b1), .val (.ref b2), .val (.ref b3), .val (.ref r1), .val (.ref r2), .val (.ref r3), .val (.int (1 : Int32)), .val (.int (1 : Int32)), .val (.int (1 : Int32)), .val (.int u1), .val (.int u2), .val (.ref b4), .val (.ref b5), .unset] [])
                                      refine Go.step (fun _ k => XS.iconst W.here W.hx rfl (W.d at_349) k) ?_
                                      show Go _ _ _ _ _ _ _ _ _ _ (mkF m 350 #[.val (.long q0), .second, .val (.long q1), .second, .val (.int i1), .val (.int i2), .val (.int i3), .val (.int i4), .val (.int ff), .val (.int sw), .val (.int sl), .val (.int sb), .val (.int ss), .val (.int se), .val (.int kd), .val (.ref b1), .val (.ref b2), .val (.ref b3), .val (.ref r1), .val (.ref r2), .val (.ref r3), .val (.int (1 : Int32)), .val (.int (1 : Int32)), .val (.int (1 : Int32)), .val (.int u1), .val (.int u2), .val (.ref b4), .val (.ref b5), .unset] [(.int (0 : Int32))])
                                      exact J350 _ _ _ W (Or.inr ⟨rfl, fun q => hc17 q.2.2.2.2⟩)
                                  · refine Go.step (fun _ k => XS.icmpYes W.here W.hx rfl (pc0 := 335) (pc' := 349) rfl (W.d at_335) rfl (feq hc16).2 (by decide) (by decide) k) ?_
                                    show Go _ _ _ _ _ _ _ _ _ _ (mkF m 349 #[.val (.long q0), .second, .val (.long q1), .second, .val (.int i1), .val (.int i2), .val (.int i3), .val (.int i4), .val (.int ff), .val (.int sw), .val (.int sl), .val (.int sb), .val (.int ss), .val (.int se), .val (.int kd), .val (.ref b1), .val (.ref b2), .val (.ref b3), .val (.ref r1), .val (.ref r2), .val (.ref r3), .val (.int (1 : Int32)), .val (.int (1 : Int32)), .val (.int (1 : Int32)), .val (.int u1), .val (.int u2), .val (.ref b4), .val (.ref b5), .unset] [])
                                    refine Go.step (fun _ k => XS.iconst W.here W.hx rfl (W.d at_349) k) ?_
                                    show Go _ _ _ _ _ _ _ _ _ _ (mkF m 350 #[.val (.long q0), .second, .val (.long q1), .second, .val (.int i1), .val (.int i2), .val (.int i3), .val (.int i4), .val (.int ff), .val (.int sw), .val (.int sl), .val (.int sb), .val (.int ss), .val (.int se), .val (.int kd), .val (.ref b1), .val (.ref b2), .val (.ref b3), .val (.ref r1), .val (.ref r2), .val (.ref r3), .val (.int (1 : Int32)), .val (.int (1 : Int32)), .val (.int (1 : Int32)), .val (.int u1), .val (.int u2), .val (.ref b4), .val (.ref b5), .unset] [(.int (0 : Int32))])
                                    exact J350 _ _ _ W (Or.inr ⟨rfl, fun q => hc16 q.2.2.2.1⟩)
                                · show Go _ _ _ _ _ _ _ _ _ _ (mkF m 326 #[.val (.long q0), .second, .val (.long q1), .second, .val (.int i1), .val (.int i2), .val (.int i3), .val (.int i4), .val (.int ff), .val (.int sw), .val (.int sl), .val (.int sb), .val (.int ss), .val (.int se), .val (.int kd), .val (.ref b1), .val (.ref b2), .val (.ref b3), .val (.ref r1), .val (.ref r2), .val (.ref r3), .val (.int (1 : Int32)), .val (.int (1 : Int32)), .val (.int (0 : Int32)), .val (.int u1), .val (.int u2), .val (.ref b4), .val (.ref b5), .unset] [])
                                  refine Go.step (fun _ k => XS.iload W.here W.hx rfl (W.d at_326) rfl k) ?_
                                  show Go _ _ _ _ _ _ _ _ _ _ (mkF m 328 #[.val (.long q0), .second, .val (.long q1), .second, .val (.int i1), .val (.int i2), .val (.int i3), .val (.int i4), .val (.int ff), .val (.int sw), .val (.int sl), .val (.int sb), .val (.int ss), .val (.int se), .val (.int kd), .val (.ref b1), .val (.ref b2), .val (.ref b3), .val (.ref r1), .val (.ref r2), .val (.ref r3), .val (.int (1 : Int32)), .val (.int (1 : Int32)), .val (.int (0 : Int32)), .val (.int u1), .val (.int u2), .val (.ref b4), .val (.ref b5), .unset] [(.int (0 : Int32))])
                                  refine Go.step (fun _ k => XS.ifYes W.here W.hx rfl (pc0 := 328) (pc' := 349) rfl (W.d at_328) rfl ((if0 _ _).trans (teq (by decide : (0 : Int32) = (0 : Int32))).1) (by decide) (by decide) k) ?_
                                  show Go _ _ _ _ _ _ _ _ _ _ (mkF m 349 #[.val (.long q0), .second, .val (.long q1), .second, .val (.int i1), .val (.int i2), .val (.int i3), .val (.int i4), .val (.int ff), .val (.int sw), .val (.int sl), .val (.int sb), .val (.int ss), .val (.int se), .val (.int kd), .val (.ref b1), .val (.ref b2), .val (.ref b3), .val (.ref r1), .val (.ref r2), .val (.ref r3), .val (.int (1 : Int32)), .val (.int (1 : Int32)), .val (.int (0 : Int32)), .val (.int u1), .val (.int u2), .val (.ref b4), .val (.ref b5), .unset] [])
                                  refine Go.step (fun _ k => XS.iconst W.here W.hx rfl (W.d at_349) k) ?_
                                  show Go _ _ _ _ _ _ _ _ _ _ (mkF m 350 #[.val (.long q0), .second, .val (.long q1), .second, .val (.int i1), .val (.int i2), .val (.int i3), .val (.int i4), .val (.int ff), .val (.int sw), .val (.int sl), .val (.int sb), .val (.int ss), .val (.int se), .val (.int kd), .val (.ref b1), .val (.ref b2), .val (.ref b3), .val (.ref r1), .val (.ref r2), .val (.ref r3), .val (.int (1 : Int32)), .val (.int (1 : Int32)), .val (.int (0 : Int32)), .val (.int u1), .val (.int u2), .val (.ref b4), .val (.ref b5), .unset] [(.int (0 : Int32))])
                                  exact J350 _ _ _ W (Or.inr ⟨rfl, fun q => he3 q.2.2.1⟩)
                              · show Go _ _ _ _ _ _ _ _ _ _ (mkF m 321 #[.val (.long q0), .second, .val (.long q1), .second, .val (.int i1), .val (.int i2), .val (.int i3), .val (.int i4), .val (.int ff), .val (.int sw), .val (.int sl), .val (.int sb), .val (.int ss), .val (.int se), .val (.int kd), .val (.ref b1), .val (.ref b2), .val (.ref b3), .val (.ref r1), .val (.ref r2), .val (.ref r3), .val (.int (1 : Int32)), .val (.int (0 : Int32)), .val (.int e3), .val (.int u1), .val (.int u2), .val (.ref b4), .val (.ref b5), .unset] [])
                                refine Go.step (fun _ k => XS.iload W.here W.hx rfl (W.d at_321) rfl k) ?_
                                show Go _ _ _ _ _ _ _ _ _ _ (mkF m 323 #[.val (.long q0), .second, .val (.long q1), .second, .val (.int i1), .val (.int i2), .val (.int i3), .val (.int i4), .val (.int ff), .val (.int sw), .val (.int sl), .val (.int sb), .val (.int ss), .val (.int se), .val (.int kd), .val (.ref b1), .val (.ref b2), .val (.ref b3), .val (.ref r1), .val (.ref r2), .val (.ref r3), .val (.int (1 : Int32)), .val (.int (0 : Int32)), .val (.int e3), .val (.int u1), .val (.int u2), .val (.ref b4), .val (.ref b5), .unset] [(.int (0 : Int32))])
                                refine Go.step (fun _ k => XS.ifYes W.here W.hx rfl (pc0 := 323) (pc' := 349) rfl (W.d at_323) rfl ((if0 _ _).trans (teq (by decide : (0 : Int32) = (0 : Int32))).1) (by decide) (by decide) k) ?_
                                show Go _ _ _ _ _ _ _ _ _ _ (mkF m 349 #[.val (.long q0), .second, .val (.long q1), .second, .val (.int i1), .val (.int i2), .val (.int i3), .val (.int i4), .val (.int ff), .val (.int sw), .val (.int sl), .val (.int sb), .val (.int ss), .val (.int se), .val (.int kd), .val (.ref b1), .val (.ref b2), .val (.ref b3), .val (.ref r1), .val (.ref r2), .val (.ref r3), .val (.int (1 : Int32)), .val (.int (0 : Int32)), .val (.int e3), .val (.int u1), .val (.int u2), .val (.ref b4), .val (.ref b5), .unset] [])
                                refine Go.step (fun _ k => XS.iconst W.here W.hx rfl (W.d at_349) k) ?_
                                show Go _ _ _ _ _ _ _ _ _ _ (mkF m 350 #[.val (.long q0), .second, .val (.long q1), .second, .val (.int i1), .val (.int i2), .val (.int i3), .val (.int i4), .val (.int ff), .val (.int sw), .val (.int sl), .val (.int sb), .val (.int ss), .val (.int se), .val (.int kd), .val (.ref b1), .val (.ref b2), .val (.ref b3), .val (.ref r1), .val (.ref r2), .val (.ref r3), .val (.int (1 : Int32)), .val (.int (0 : Int32)), .val (.int e3), .val (.int u1), .val (.int u2), .val (.ref b4), .val (.ref b5), .unset] [(.int (0 : Int32))])
                                exact J350 _ _ _ W (Or.inr ⟨rfl, fun q => he2 q.2.1⟩)
                            · show Go _ _ _ _ _ _ _ _ _ _ (mkF m 316 #[.val (.long q0), .second, .val (.long q1), .second, .val (.int i1), .val (.int i2), .val (.int i3), .val (.int i4), .val (.int ff), .val (.int sw), .val (.int sl), .val (.int sb), .val (.int ss), .val (.int se), .val (.int kd), .val (.ref b1), .val (.ref b2), .val (.ref b3), .val (.ref r1), .val (.ref r2), .val (.ref r3), .val (.int (0 : Int32)), .val (.int e2), .val (.int e3), .val (.int u1), .val (.int u2), .val (.ref b4), .val (.ref b5), .unset] [])
                              refine Go.step (fun _ k => XS.iload W.here W.hx rfl (W.d at_316) rfl k) ?_
                              show Go _ _ _ _ _ _ _ _ _ _ (mkF m 318 #[.val (.long q0), .second, .val (.long q1), .second, .val (.int i1), .val (.int i2), .val (.int i3), .val (.int i4), .val (.int ff), .val (.int sw), .val (.int sl), .val (.int sb), .val (.int ss), .val (.int se), .val (.int kd), .val (.ref b1), .val (.ref b2), .val (.ref b3), .val (.ref r1), .val (.ref r2), .val (.ref r3), .val (.int (0 : Int32)), .val (.int e2), .val (.int e3), .val (.int u1), .val (.int u2), .val (.ref b4), .val (.ref b5), .unset] [(.int (0 : Int32))])
                              refine Go.step (fun _ k => XS.ifYes W.here W.hx rfl (pc0 := 318) (pc' := 349) rfl (W.d at_318) rfl ((if0 _ _).trans (teq (by decide : (0 : Int32) = (0 : Int32))).1) (by decide) (by decide) k) ?_
                              show Go _ _ _ _ _ _ _ _ _ _ (mkF m 349 #[.val (.long q0), .second, .val (.long q1), .second, .val (.int i1), .val (.int i2), .val (.int i3), .val (.int i4), .val (.int ff), .val (.int sw), .val (.int sl), .val (.int sb), .val (.int ss), .val (.int se), .val (.int kd), .val (.ref b1), .val (.ref b2), .val (.ref b3), .val (.ref r1), .val (.ref r2), .val (.ref r3), .val (.int (0 : Int32)), .val (.int e2), .val (.int e3), .val (.int u1), .val (.int u2), .val (.ref b4), .val (.ref b5), .unset] [])
                              refine Go.step (fun _ k => XS.iconst W.here W.hx rfl (W.d at_349) k) ?_
                              show Go _ _ _ _ _ _ _ _ _ _ (mkF m 350 #[.val (.long q0), .second, .val (.long q1), .second, .val (.int i1), .val (.int i2), .val (.int i3), .val (.int i4), .val (.int ff), .val (.int sw), .val (.int sl), .val (.int sb), .val (.int ss), .val (.int se), .val (.int kd), .val (.ref b1), .val (.ref b2), .val (.ref b3), .val (.ref r1), .val (.ref r2), .val (.ref r3), .val (.int (0 : Int32)), .val (.int e2), .val (.int e3), .val (.int u1), .val (.int u2), .val (.ref b4), .val (.ref b5), .unset] [(.int (0 : Int32))])
                              exact J350 _ _ _ W (Or.inr ⟨rfl, fun q => he1 q.1⟩)
                          refine Go.step (fun _ k => XS.iload W.here W.hx rfl (W.d at_264) rfl k) ?_
                          show Go _ _ _ _ _ _ _ _ _ _ (mkF m 266 #[.val (.long q0), .second, .val (.long q1), .second, .val (.int i1), .val (.int i2), .val (.int i3), .val (.int i4), .val (.int ff), .val (.int sw), .val (.int sl), .val (.int sb), .val (.int ss), .val (.int se), .val (.int kd), .val (.ref b1), .val (.ref b2), .val (.ref b3), .val (.ref r1), .val (.ref r2), .val (.ref r3), .val (.int e1), .val (.int e2), .val (.int e3), .val (.int u1), .unset, .unset, .unset, .unset] [(.int se)])
                          by_cases hc18 : se = (0 : Int32)
                          · refine Go.step (fun _ k => XS.ifYes W.here W.hx rfl (pc0 := 266) (pc' := 274) rfl (W.d at_266) rfl ((if0 _ _).trans (teq hc18).1) (by decide) (by decide) k) ?_
                            show Go _ _ _ _ _ _ _ _ _ _ (mkF m 274 #[.val (.long q0), .second, .val (.long q1), .second, .val (.int i1), .val (.int i2), .val (.int i3), .val (.int i4), .val (.int ff), .val (.int sw), .val (.int sl), .val (.int sb), .val (.int ss), .val (.int se), .val (.int kd), .val (.ref b1), .val (.ref b2), .val (.ref b3), .val (.ref r1), .val (.ref r2), .val (.ref r3), .val (.int e1), .val (.int e2), .val (.int e3), .val (.int u1), .unset, .unset, .unset, .unset] [])
                            refine Go.step (fun _ k => XS.iload W.here W.hx rfl (W.d at_274) rfl k) ?_
                            show Go _ _ _ _ _ _ _ _ _ _ (mkF m 276 #[.val (.long q0), .second, .val (.long q1), .second, .val (.int i1), .val (.int i2), .val (.int i3), .val (.int i4), .val (.int ff), .val (.int sw), .val (.int sl), .val (.int sb), .val (.int ss), .val (.int se), .val (.int kd), .val (.ref b1), .val (.ref b2), .val (.ref b3), .val (.ref r1), .val (.ref r2), .val (.ref r3), .val (.int e1), .val (.int e2), .val (.int e3), .val (.int u1), .unset, .unset, .unset, .unset] [(.int i4)])
                            exact J276 _ _ _ W trivial
                          · refine Go.step (fun _ k => XS.ifNo W.here W.hx rfl (W.d at_266) rfl ((if0 _ _).trans (feq hc18).1) k) ?_
                            show Go _ _ _ _ _ _ _ _ _ _ (mkF m 269 #[.val (.long q0), .second, .val (.long q1), .second, .val (.int i1), .val (.int i2), .val (.int i3), .val (.int i4), .val (.int ff), .val (.int sw), .val (.int sl), .val (.int sb), .val (.int ss), .val (.int se), .val (.int kd), .val (.ref b1), .val (.ref b2), .val (.ref b3), .val (.ref r1), .val (.ref r2), .val (.ref r3), .val (.int e1), .val (.int e2), .val (.int e3), .val (.int u1), .unset, .unset, .unset, .unset] [])
                            refine Go.step (fun _ k => XS.iload W.here W.hx rfl (W.d at_269) rfl k) ?_
                            show Go _ _ _ _ _ _ _ _ _ _ (mkF m 271 #[.val (.long q0), .second, .val (.long q1), .second, .val (.int i1), .val (.int i2), .val (.int i3), .val (.int i4), .val (.int ff), .val (.int sw), .val (.int sl), .val (.int sb), .val (.int ss), .val (.int se), .val (.int kd), .val (.ref b1), .val (.ref b2), .val (.ref b3), .val (.ref r1), .val (.ref r2), .val (.ref r3), .val (.int e1), .val (.int e2), .val (.int e3), .val (.int u1), .unset, .unset, .unset, .unset] [(.int i2)])
                            refine Go.step (fun _ k => XS.goto W.here W.hx rfl (pc0 := 271) (pc' := 276) rfl (W.d at_271) (by decide) (by decide) k) ?_
                            show Go _ _ _ _ _ _ _ _ _ _ (mkF m 276 #[.val (.long q0), .second, .val (.long q1), .second, .val (.int i1), .val (.int i2), .val (.int i3), .val (.int i4), .val (.int ff), .val (.int sw), .val (.int sl), .val (.int sb), .val (.int ss), .val (.int se), .val (.int kd), .val (.ref b1), .val (.ref b2), .val (.ref b3), .val (.ref r1), .val (.ref r2), .val (.ref r3), .val (.int e1), .val (.int e2), .val (.int e3), .val (.int u1), .unset, .unset, .unset, .unset] [(.int i2)])
                            exact J276 _ _ _ W trivial
                        refine Go.step (fun _ k => XS.iload W.here W.hx rfl (W.d at_250) rfl k) ?_
                        show Go _ _ _ _ _ _ _ _ _ _ (mkF m 252 #[.val (.long q0), .second, .val (.long q1), .second, .val (.int i1), .val (.int i2), .val (.int i3), .val (.int i4), .val (.int ff), .val (.int sw), .val (.int sl), .val (.int sb), .val (.int ss), .val (.int se), .val (.int kd), .val (.ref b1), .val (.ref b2), .val (.ref b3), .val (.ref r1), .val (.ref r2), .val (.ref r3), .val (.int e1), .val (.int e2), .val (.int e3), .unset, .unset, .unset, .unset, .unset] [(.int ss)])
                        by_cases hc19 : ss = (0 : Int32)
                        · refine Go.step (fun _ k => XS.ifYes W.here W.hx rfl (pc0 := 252) (pc' := 260) rfl (W.d at_252) rfl ((if0 _ _).trans (teq hc19).1) (by decide) (by decide) k) ?_
                          show Go _ _ _ _ _ _ _ _ _ _ (mkF m 260 #[.val (.long q0), .second, .val (.long q1), .second, .val (.int i1), .val (.int i2), .val (.int i3), .val (.int i4), .val (.int ff), .val (.int sw), .val (.int sl), .val (.int sb), .val (.int ss), .val (.int se), .val (.int kd), .val (.ref b1), .val (.ref b2), .val (.ref b3), .val (.ref r1), .val (.ref r2), .val (.ref r3), .val (.int e1), .val (.int e2), .val (.int e3), .unset, .unset, .unset, .unset, .unset] [])
                          refine Go.step (fun _ k => XS.iload W.here W.hx rfl (W.d at_260) rfl k) ?_
                          show Go _ _ _ _ _ _ _ _ _ _ (mkF m 262 #[.val (.long q0), .second, .val (.long q1), .second, .val (.int i1), .val (.int i2), .val (.int i3), .val (.int i4), .val (.int ff), .val (.int sw), .val (.int sl), .val (.int sb), .val (.int ss), .val (.int se), .val (.int kd), .val (.ref b1), .val (.ref b2), .val (.ref b3), .val (.ref r1), .val (.ref r2), .val (.ref r3), .val (.int e1), .val (.int e2), .val (.int e3), .unset, .unset, .unset, .unset, .unset] [(.int i3)])
                          exact J262 _ _ _ W trivial
                        · refine Go.step (fun _ k => XS.ifNo W.here W.hx rfl (W.d at_252) rfl ((if0 _ _).trans (feq hc19).1) k) ?_
                          show Go _ _ _ _ _ _ _ _ _ _ (mkF m 255 #[.val (.long q0), .second, .val (.long q1), .second, .val (.int i1), .val (.int i2), .val (.int i3), .val (.int i4), .val (.int ff), .val (.int sw), .val (.int sl), .val (.int sb), .val (.int ss), .val (.int se), .val (.int kd), .val (.ref b1), .val (.ref b2), .val (.ref b3), .val (.ref r1), .val (.ref r2), .val (.ref r3), .val (.int e1), .val (.int e2), .val (.int e3), .unset, .unset, .unset, .unset, .unset] [])
                          refine Go.step (fun _ k => XS.iload W.here W.hx rfl (W.d at_255) rfl k) ?_
                          show Go _ _ _ _ _ _ _ _ _ _ (mkF m 257 #[.val (.long q0), .second, .val (.long q1), .second, .val (.int i1), .val (.int i2), .val (.int i3), .val (.int i4), .val (.int ff), .val (.int sw), .val (.int sl), .val (.int sb), .val (.int ss), .val (.int se), .val (.int kd), .val (.ref b1), .val (.ref b2), .val (.ref b3), .val (.ref r1), .val (.ref r2), .val (.ref r3), .val (.int e1), .val (.int e2), .val (.int e3), .unset, .unset, .unset, .unset, .unset] [(.int i1)])
                          refine Go.step (fun _ k => XS.goto W.here W.hx rfl (pc0 := 257) (pc' := 262) rfl (W.d at_257) (by decide) (by decide) k) ?_
                          show Go _ _ _ _ _ _ _ _ _ _ (mkF m 262 #[.val (.long q0), .second, .val (.long q1), .second, .val (.int i1), .val (.int i2), .val (.int i3), .val (.int i4), .val (.int ff), .val (.int sw), .val (.int sl), .val (.int sb), .val (.int ss), .val (.int se), .val (.int kd), .val (.ref b1), .val (.ref b2), .val (.ref b3), .val (.ref r1), .val (.ref r2), .val (.ref r3), .val (.int e1), .val (.int e2), .val (.int e3), .unset, .unset, .unset, .unset, .unset] [(.int i1)])
                          exact J262 _ _ _ W trivial
                      rcases hr3 with ⟨hw3, rfl⟩ | ⟨hw3, rfl⟩
                      · show Go _ _ _ _ _ _ _ _ _ _ (mkF m 228 #[.val (.long q0), .second, .val (.long q1), .second, .val (.int i1), .val (.int i2), .val (.int i3), .val (.int i4), .val (.int ff), .val (.int sw), .val (.int sl), .val (.int sb), .val (.int ss), .val (.int se), .val (.int kd), .val (.ref b1), .val (.ref b2), .val (.ref b3), .val (.ref r1), .val (.ref r2), .val (.ref r3), .val (.int e1), .val (.int e2), .unset, .unset, .unset, .unset, .unset, .unset] [])
                        refine Go.step (fun _ k => XS.iload W.here W.hx rfl (W.d at_228) rfl k) ?_
                        show Go _ _ _ _ _ _ _ _ _ _ (mkF m 230 #[.val (.long q0), .second, .val (.long q1), .second, .val (.int i1), .val (.int i2), .val (.int i3), .val (.int i4), .val (.int ff), .val (.int sw), .val (.int sl), .val (.int sb), .val (.int ss), .val (.int se), .val (.int kd), .val (.ref b1), .val (.ref b2), .val (.ref b3), .val (.ref r1), .val (.ref r2), .val (.ref r3), .val (.int e1), .val (.int e2), .unset, .unset, .unset, .unset, .unset, .unset] [(.int sb)])
                        refine Go.step (fun _ k => XS.ifNo W.here W.hx rfl (W.d at_230) rfl ((if0 _ _).trans (teq hw3).2) k) ?_
                        show Go _ _ _ _ _ _ _ _ _ _ (mkF m 233 #[.val (.long q0), .second, .val (.long q1), .second, .val (.int i1), .val (.int i2), .val (.int i3), .val (.int i4), .val (.int ff), .val (.int sw), .val (.int sl), .val (.int sb), .val (.int ss), .val (.int se), .val (.int kd), .val (.ref b1), .val (.ref b2), .val (.ref b3), .val (.ref r1), .val (.ref r2), .val (.ref r3), .val (.int e1), .val (.int e2), .unset, .unset, .unset, .unset, .unset, .unset] [])
                        refine Go.step (fun _ k => XS.lloadN W.here W.hx rfl (W.d at_233) rfl k) ?_
                        show Go _ _ _ _ _ _ _ _ _ _ (mkF m 234 #[.val (.long q0), .second, .val (.long q1), .second, .val (.int i1), .val (.int i2), .val (.int i3), .val (.int i4), .val (.int ff), .val (.int sw), .val (.int sl), .val (.int sb), .val (.int ss), .val (.int se), .val (.int kd), .val (.ref b1), .val (.ref b2), .val (.ref b3), .val (.ref r1), .val (.ref r2), .val (.ref r3), .val (.int e1), .val (.int e2), .unset, .unset, .unset, .unset, .unset, .unset] [(.long q0)])
                        refine Go.step (fun _ k => XS.lloadN W.here W.hx rfl (W.d at_234) rfl k) ?_
                        show Go _ _ _ _ _ _ _ _ _ _ (mkF m 235 #[.val (.long q0), .second, .val (.long q1), .second, .val (.int i1), .val (.int i2), .val (.int i3), .val (.int i4), .val (.int ff), .val (.int sw), .val (.int sl), .val (.int sb), .val (.int ss), .val (.int se), .val (.int kd), .val (.ref b1), .val (.ref b2), .val (.ref b3), .val (.ref r1), .val (.ref r2), .val (.ref r3), .val (.int e1), .val (.int e2), .unset, .unset, .unset, .unset, .unset, .unset] [(.long q1), (.long q0)])
                        refine Go.step (fun _ k => XS.bipush W.here W.hx rfl (W.d at_235) k) ?_
                        show Go _ _ _ _ _ _ _ _ _ _ (mkF m 237 #[.val (.long q0), .second, .val (.long q1), .second, .val (.int i1), .val (.int i2), .val (.int i3), .val (.int i4), .val (.int ff), .val (.int sw), .val (.int sl), .val (.int sb), .val (.int ss), .val (.int se), .val (.int kd), .val (.ref b1), .val (.ref b2), .val (.ref b3), .val (.ref r1), .val (.ref r2), .val (.ref r3), .val (.int e1), .val (.int e2), .unset, .unset, .unset, .unset, .unset, .unset] [(.int (36 : Int32)), (.long q1), (.long q0)])
                        refine W.callS (X.w 39 rfl) (X.w 40 rfl) (X.w 3 rfl) (X.w 41 rfl) (by decide) (c_ss X q0 q1 (36 : Int32) _ W.ext) (by decide) (Wd := 0) (by decide) [(.long q0), (.long q1), (.int (36 : Int32))] [] rfl pd_6 rfl rfl rfl (Nat.le_of_eq rfl) at_237 (by decide) (by decide) ?_
                        intro v T h vm W hQ C
                        obtain ⟨hq20, rfl⟩ := hQ
                        rcases hq20 with ⟨rfl, hq20⟩ | ⟨rfl, hq20⟩
                        · show Go _ _ _ _ _ _ _ _ _ _ (mkF m 240 #[.val (.long q0), .second, .val (.long q1), .second, .val (.int i1), .val (.int i2), .val (.int i3), .val (.int i4), .val (.int ff), .val (.int sw), .val (.int sl), .val (.int sb), .val (.int ss), .val (.int se), .val (.int kd), .val (.ref b1), .val (.ref b2), .val (.ref b3), .val (.ref r1), .val (.ref r2), .val (.ref r3), .val (.int e1), .val (.int e2), .unset, .unset, .unset, .unset, .unset, .unset] [(.int (1 : Int32))])
                          refine Go.step (fun _ k => XS.ifNo W.here W.hx rfl (W.d at_240) rfl ((if0 _ _).trans (feq (by decide : ¬ ((1 : Int32) = (0 : Int32)))).1) k) ?_
                          show Go _ _ _ _ _ _ _ _ _ _ (mkF m 243 #[.val (.long q0), .second, .val (.long q1), .second, .val (.int i1), .val (.int i2), .val (.int i3), .val (.int i4), .val (.int ff), .val (.int sw), .val (.int sl), .val (.int sb), .val (.int ss), .val (.int se), .val (.int kd), .val (.ref b1), .val (.ref b2), .val (.ref b3), .val (.ref r1), .val (.ref r2), .val (.ref r3), .val (.int e1), .val (.int e2), .unset, .unset, .unset, .unset, .unset, .unset] [])
                          refine Go.step (fun _ k => XS.iconst W.here W.hx rfl (W.d at_243) k) ?_
                          show Go _ _ _ _ _ _ _ _ _ _ (mkF m 244 #[.val (.long q0), .second, .val (.long q1), .second, .val (.int i1), .val (.int i2), .val (.int i3), .val (.int i4), .val (.int ff), .val (.int sw), .val (.int sl), .val (.int sb), .val (.int ss), .val (.int se), .val (.int kd), .val (.ref b1), .val (.ref b2), .val (.ref b3), .val (.ref r1), .val (.ref r2), .val (.ref r3), .val (.int e1), .val (.int e2), .unset, .unset, .unset, .unset, .unset, .unset] [(.int (1 : Int32))])
                          refine Go.step (fun _ k => XS.goto W.here W.hx rfl (pc0 := 244) (pc' := 248) rfl (W.d at_244) (by decide) (by decide) k) ?_
                          show Go _ _ _ _ _ _ _ _ _ _ (mkF m 248 #[.val (.long q0), .second, .val (.long q1), .second, .val (.int i1), .val (.int i2), .val (.int i3), .val (.int i4), .val (.int ff), .val (.int sw), .val (.int sl), .val (.int sb), .val (.int ss), .val (.int se), .val (.int kd), .val (.ref b1), .val (.ref b2), .val (.ref b3), .val (.ref r1), .val (.ref r2), .val (.ref r3), .val (.int e1), .val (.int e2), .unset, .unset, .unset, .unset, .unset, .unset] [(.int (1 : Int32))])
                          exact J248 _ _ _ W (Or.inl ⟨rfl, hq20⟩)
                        · show Go _ _ _ _ _ _ _ _ _ _ (mkF m 240 #[.val (.long q0), .second, .val (.long q1), .second, .val (.int i1), .val (.int i2), .val (.int i3), .val (.int i4), .val (.int ff), .val (.int sw), .val (.int sl), .val (.int sb), .val (.int ss), .val (.int se), .val (.int kd), .val (.ref b1), .val (.ref b2), .val (.ref b3), .val (.ref r1), .val (.ref r2), .val (.ref r3), .val (.int e1), .val (.int e2), .unset, .unset, .unset, .unset, .unset, .unset] [(.int (0 : Int32))])
                          refine Go.step (fun _ k => XS.ifYes W.here W.hx rfl (pc0 := 240) (pc' := 247) rfl (W.d at_240) rfl ((if0 _ _).trans (teq (by decide : (0 : Int32) = (0 : Int32))).1) (by decide) (by decide) k) ?_
                          show Go _ _ _ _ _ _ _ _ _ _ (mkF m 247 #[.val (.long q0), .second, .val (.long q1), .second, .val (.int i1), .val (.int i2), .val (.int i3), .val (.int i4), .val (.int ff), .val (.int sw), .val (.int sl), .val (.int sb), .val (.int ss), .val (.int se), .val (.int kd), .val (.ref b1), .val (.ref b2), .val (.ref b3), .val (.ref r1), .val (.ref r2), .val (.ref r3), .val (.int e1), .val (.int e2), .unset, .unset, .unset, .unset, .unset, .unset] [])
                          refine Go.step (fun _ k => XS.iconst W.here W.hx rfl (W.d at_247) k) ?_
                          show Go _ _ _ _ _ _ _ _ _ _ (mkF m 248 #[.val (.long q0), .second, .val (.long q1), .second, .val (.int i1), .val (.int i2), .val (.int i3), .val (.int i4), .val (.int ff), .val (.int sw), .val (.int sl), .val (.int sb), .val (.int ss), .val (.int se), .val (.int kd), .val (.ref b1), .val (.ref b2), .val (.ref b3), .val (.ref r1), .val (.ref r2), .val (.ref r3), .val (.int e1), .val (.int e2), .unset, .unset, .unset, .unset, .unset, .unset] [(.int (0 : Int32))])
                          exact J248 _ _ _ W (Or.inr ⟨rfl, hq20⟩)
                      · show Go _ _ _ _ _ _ _ _ _ _ (mkF m 228 #[.val (.long q0), .second, .val (.long q1), .second, .val (.int i1), .val (.int i2), .val (.int i3), .val (.int i4), .val (.int ff), .val (.int sw), .val (.int sl), .val (.int sb), .val (.int ss), .val (.int se), .val (.int kd), .val (.ref b1), .val (.ref b2), .val (.ref b3), .val (.ref r1), .val (.ref r2), .val (.ref r3), .val (.int e1), .val (.int e2), .unset, .unset, .unset, .unset, .unset, .unset] [])
                        refine Go.step (fun _ k => XS.iload W.here W.hx rfl (W.d at_228) rfl k) ?_
                        show Go _ _ _ _ _ _ _ _ _ _ (mkF m 230 #[.val (.long q0), .second, .val (.long q1), .second, .val (.int i1), .val (.int i2), .val (.int i3), .val (.int i4), .val (.int ff), .val (.int sw), .val (.int sl), .val (.int sb), .val (.int ss), .val (.int se), .val (.int kd), .val (.ref b1), .val (.ref b2), .val (.ref b3), .val (.ref r1), .val (.ref r2), .val (.ref r3), .val (.int e1), .val (.int e2), .unset, .unset, .unset, .unset, .unset, .unset] [(.int sb)])
                        refine Go.step (fun _ k => XS.ifYes W.here W.hx rfl (pc0 := 230) (pc' := 243) rfl (W.d at_230) rfl ((if0 _ _).trans (feq hw3).2) (by decide) (by decide) k) ?_
                        show Go _ _ _ _ _ _ _ _ _ _ (mkF m 243 #[.val (.long q0), .second, .val (.long q1), .second, .val (.int i1), .val (.int i2), .val (.int i3), .val (.int i4), .val (.int ff), .val (.int sw), .val (.int sl), .val (.int sb), .val (.int ss), .val (.int se), .val (.int kd), .val (.ref b1), .val (.ref b2), .val (.ref b3), .val (.ref r1), .val (.ref r2), .val (.ref r3), .val (.int e1), .val (.int e2), .unset, .unset, .unset, .unset, .unset, .unset] [])
                        refine Go.step (fun _ k => XS.iconst W.here W.hx rfl (W.d at_243) k) ?_
                        show Go _ _ _ _ _ _ _ _ _ _ (mkF m 244 #[.val (.long q0), .second, .val (.long q1), .second, .val (.int i1), .val (.int i2), .val (.int i3), .val (.int i4), .val (.int ff), .val (.int sw), .val (.int sl), .val (.int sb), .val (.int ss), .val (.int se), .val (.int kd), .val (.ref b1), .val (.ref b2), .val (.ref b3), .val (.ref r1), .val (.ref r2), .val (.ref r3), .val (.int e1), .val (.int e2), .unset, .unset, .unset, .unset, .unset, .unset] [(.int (1 : Int32))])
                        refine Go.step (fun _ k => XS.goto W.here W.hx rfl (pc0 := 244) (pc' := 248) rfl (W.d at_244) (by decide) (by decide) k) ?_
                        show Go _ _ _ _ _ _ _ _ _ _ (mkF m 248 #[.val (.long q0), .second, .val (.long q1), .second, .val (.int i1), .val (.int i2), .val (.int i3), .val (.int i4), .val (.int ff), .val (.int sw), .val (.int sl), .val (.int sb), .val (.int ss), .val (.int se), .val (.int kd), .val (.ref b1), .val (.ref b2), .val (.ref b3), .val (.ref r1), .val (.ref r2), .val (.ref r3), .val (.int e1), .val (.int e2), .unset, .unset, .unset, .unset, .unset, .unset] [(.int (1 : Int32))])
                        exact J248 _ _ _ W (Or.inl ⟨rfl, rfl⟩)
                    rcases hr2 with ⟨hw2, rfl⟩ | ⟨hw2, rfl⟩
                    · show Go _ _ _ _ _ _ _ _ _ _ (mkF m 206 #[.val (.long q0), .second, .val (.long q1), .second, .val (.int i1), .val (.int i2), .val (.int i3), .val (.int i4), .val (.int ff), .val (.int sw), .val (.int sl), .val (.int sb), .val (.int ss), .val (.int se), .val (.int kd), .val (.ref b1), .val (.ref b2), .val (.ref b3), .val (.ref r1), .val (.ref r2), .val (.ref r3), .val (.int e1), .unset, .unset, .unset, .unset, .unset, .unset, .unset] [])
                      refine Go.step (fun _ k => XS.iload W.here W.hx rfl (W.d at_206) rfl k) ?_
                      show Go _ _ _ _ _ _ _ _ _ _ (mkF m 208 #[.val (.long q0), .second, .val (.long q1), .second, .val (.int i1), .val (.int i2), .val (.int i3), .val (.int i4), .val (.int ff), .val (.int sw), .val (.int sl), .val (.int sb), .val (.int ss), .val (.int se), .val (.int kd), .val (.ref b1), .val (.ref b2), .val (.ref b3), .val (.ref r1), .val (.ref r2), .val (.ref r3), .val (.int e1), .unset, .unset, .unset, .unset, .unset, .unset, .unset] [(.int sl)])
                      refine Go.step (fun _ k => XS.ifNo W.here W.hx rfl (W.d at_208) rfl ((if0 _ _).trans (teq hw2).2) k) ?_
                      show Go _ _ _ _ _ _ _ _ _ _ (mkF m 211 #[.val (.long q0), .second, .val (.long q1), .second, .val (.int i1), .val (.int i2), .val (.int i3), .val (.int i4), .val (.int ff), .val (.int sw), .val (.int sl), .val (.int sb), .val (.int ss), .val (.int se), .val (.int kd), .val (.ref b1), .val (.ref b2), .val (.ref b3), .val (.ref r1), .val (.ref r2), .val (.ref r3), .val (.int e1), .unset, .unset, .unset, .unset, .unset, .unset, .unset] [])
                      refine Go.step (fun _ k => XS.lloadN W.here W.hx rfl (W.d at_211) rfl k) ?_
                      show Go _ _ _ _ _ _ _ _ _ _ (mkF m 212 #[.val (.long q0), .second, .val (.long q1), .second, .val (.int i1), .val (.int i2), .val (.int i3), .val (.int i4), .val (.int ff), .val (.int sw), .val (.int sl), .val (.int sb), .val (.int ss), .val (.int se), .val (.int kd), .val (.ref b1), .val (.ref b2), .val (.ref b3), .val (.ref r1), .val (.ref r2), .val (.ref r3), .val (.int e1), .unset, .unset, .unset, .unset, .unset, .unset, .unset] [(.long q0)])
                      refine Go.step (fun _ k => XS.lloadN W.here W.hx rfl (W.d at_212) rfl k) ?_
                      show Go _ _ _ _ _ _ _ _ _ _ (mkF m 213 #[.val (.long q0), .second, .val (.long q1), .second, .val (.int i1), .val (.int i2), .val (.int i3), .val (.int i4), .val (.int ff), .val (.int sw), .val (.int sl), .val (.int sb), .val (.int ss), .val (.int se), .val (.int kd), .val (.ref b1), .val (.ref b2), .val (.ref b3), .val (.ref r1), .val (.ref r2), .val (.ref r3), .val (.int e1), .unset, .unset, .unset, .unset, .unset, .unset, .unset] [(.long q1), (.long q0)])
                      refine Go.step (fun _ k => XS.bipush W.here W.hx rfl (W.d at_213) k) ?_
                      show Go _ _ _ _ _ _ _ _ _ _ (mkF m 215 #[.val (.long q0), .second, .val (.long q1), .second, .val (.int i1), .val (.int i2), .val (.int i3), .val (.int i4), .val (.int ff), .val (.int sw), .val (.int sl), .val (.int sb), .val (.int ss), .val (.int se), .val (.int kd), .val (.ref b1), .val (.ref b2), .val (.ref b3), .val (.ref r1), .val (.ref r2), .val (.ref r3), .val (.int e1), .unset, .unset, .unset, .unset, .unset, .unset, .unset] [(.int (18 : Int32)), (.long q1), (.long q0)])
                      refine W.callS (X.w 39 rfl) (X.w 40 rfl) (X.w 3 rfl) (X.w 41 rfl) (by decide) (c_ss X q0 q1 (18 : Int32) _ W.ext) (by decide) (Wd := 0) (by decide) [(.long q0), (.long q1), (.int (18 : Int32))] [] rfl pd_6 rfl rfl rfl (Nat.le_of_eq rfl) at_215 (by decide) (by decide) ?_
                      intro v T h vm W hQ C
                      obtain ⟨hq21, rfl⟩ := hQ
                      rcases hq21 with ⟨rfl, hq21⟩ | ⟨rfl, hq21⟩
                      · show Go _ _ _ _ _ _ _ _ _ _ (mkF m 218 #[.val (.long q0), .second, .val (.long q1), .second, .val (.int i1), .val (.int i2), .val (.int i3), .val (.int i4), .val (.int ff), .val (.int sw), .val (.int sl), .val (.int sb), .val (.int ss), .val (.int se), .val (.int kd), .val (.ref b1), .val (.ref b2), .val (.ref b3), .val (.ref r1), .val (.ref r2), .val (.ref r3), .val (.int e1), .unset, .unset, .unset, .unset, .unset, .unset, .unset] [(.int (1 : Int32))])
                        refine Go.step (fun _ k => XS.ifNo W.here W.hx rfl (W.d at_218) rfl ((if0 _ _).trans (feq (by decide : ¬ ((1 : Int32) = (0 : Int32)))).1) k) ?_
                        show Go _ _ _ _ _ _ _ _ _ _ (mkF m 221 #[.val (.long q0), .second, .val (.long q1), .second, .val (.int i1), .val (.int i2), .val (.int i3), .val (.int i4), .val (.int ff), .val (.int sw), .val (.int sl), .val (.int sb), .val (.int ss), .val (.int se), .val (.int kd), .val (.ref b1), .val (.ref b2), .val (.ref b3), .val (.ref r1), .val (.ref r2), .val (.ref r3), .val (.int e1), .unset, .unset, .unset, .unset, .unset, .unset, .unset] [])
                        refine Go.step (fun _ k => XS.iconst W.here W.hx rfl (W.d at_221) k) ?_
                        show Go _ _ _ _ _ _ _ _ _ _ (mkF m 222 #[.val (.long q0), .second, .val (.long q1), .second, .val (.int i1), .val (.int i2), .val (.int i3), .val (.int i4), .val (.int ff), .val (.int sw), .val (.int sl), .val (.int sb), .val (.int ss), .val (.int se), .val (.int kd), .val (.ref b1), .val (.ref b2), .val (.ref b3), .val (.ref r1), .val (.ref r2), .val (.ref r3), .val (.int e1), .unset, .unset, .unset, .unset, .unset, .unset, .unset] [(.int (1 : Int32))])
                        refine Go.step (fun _ k => XS.goto W.here W.hx rfl (pc0 := 222) (pc' := 226) rfl (W.d at_222) (by decide) (by decide) k) ?_
                        show Go _ _ _ _ _ _ _ _ _ _ (mkF m 226 #[.val (.long q0), .second, .val (.long q1), .second, .val (.int i1), .val (.int i2), .val (.int i3), .val (.int i4), .val (.int ff), .val (.int sw), .val (.int sl), .val (.int sb), .val (.int ss), .val (.int se), .val (.int kd), .val (.ref b1), .val (.ref b2), .val (.ref b3), .val (.ref r1), .val (.ref r2), .val (.ref r3), .val (.int e1), .unset, .unset, .unset, .unset, .unset, .unset, .unset] [(.int (1 : Int32))])
                        exact J226 _ _ _ W (Or.inl ⟨rfl, hq21⟩)
                      · show Go _ _ _ _ _ _ _ _ _ _ (mkF m 218 #[.val (.long q0), .second, .val (.long q1), .second, .val (.int i1), .val (.int i2), .val (.int i3), .val (.int i4), .val (.int ff), .val (.int sw), .val (.int sl), .val (.int sb), .val (.int ss), .val (.int se), .val (.int kd), .val (.ref b1), .val (.ref b2), .val (.ref b3), .val (.ref r1), .val (.ref r2), .val (.ref r3), .val (.int e1), .unset, .unset, .unset, .unset, .unset, .unset, .unset] [(.int (0 : Int32))])
                        refine Go.step (fun _ k => XS.ifYes W.here W.hx rfl (pc0 := 218) (pc' := 225) rfl (W.d at_218) rfl ((if0 _ _).trans (teq (by decide : (0 : Int32) = (0 : Int32))).1) (by decide) (by decide) k) ?_
                        show Go _ _ _ _ _ _ _ _ _ _ (mkF m 225 #[.val (.long q0), .second, .val (.long q1), .second, .val (.int i1), .val (.int i2), .val (.int i3), .val (.int i4), .val (.int ff), .val (.int sw), .val (.int sl), .val (.int sb), .val (.int ss), .val (.int se), .val (.int kd), .val (.ref b1), .val (.ref b2), .val (.ref b3), .val (.ref r1), .val (.ref r2), .val (.ref r3), .val (.int e1), .unset, .unset, .unset, .unset, .unset, .unset, .unset] [])
                        refine Go.step (fun _ k => XS.iconst W.here W.hx rfl (W.d at_225) k) ?_
                        show Go _ _ _ _ _ _ _ _ _ _ (mkF m 226 #[.val (.long q0), .second, .val (.long q1), .second, .val (.int i1), .val (.int i2), .val (.int i3), .val (.int i4), .val (.int ff), .val (.int sw), .val (.int sl), .val (.int sb), .val (.int ss), .val (.int se), .val (.int kd), .val (.ref b1), .val (.ref b2), .val (.ref b3), .val (.ref r1), .val (.ref r2), .val (.ref r3), .val (.int e1), .unset, .unset, .unset, .unset, .unset, .unset, .unset] [(.int (0 : Int32))])
                        exact J226 _ _ _ W (Or.inr ⟨rfl, hq21⟩)
                    · show Go _ _ _ _ _ _ _ _ _ _ (mkF m 206 #[.val (.long q0), .second, .val (.long q1), .second, .val (.int i1), .val (.int i2), .val (.int i3), .val (.int i4), .val (.int ff), .val (.int sw), .val (.int sl), .val (.int sb), .val (.int ss), .val (.int se), .val (.int kd), .val (.ref b1), .val (.ref b2), .val (.ref b3), .val (.ref r1), .val (.ref r2), .val (.ref r3), .val (.int e1), .unset, .unset, .unset, .unset, .unset, .unset, .unset] [])
                      refine Go.step (fun _ k => XS.iload W.here W.hx rfl (W.d at_206) rfl k) ?_
                      show Go _ _ _ _ _ _ _ _ _ _ (mkF m 208 #[.val (.long q0), .second, .val (.long q1), .second, .val (.int i1), .val (.int i2), .val (.int i3), .val (.int i4), .val (.int ff), .val (.int sw), .val (.int sl), .val (.int sb), .val (.int ss), .val (.int se), .val (.int kd), .val (.ref b1), .val (.ref b2), .val (.ref b3), .val (.ref r1), .val (.ref r2), .val (.ref r3), .val (.int e1), .unset, .unset, .unset, .unset, .unset, .unset, .unset] [(.int sl)])
                      refine Go.step (fun _ k => XS.ifYes W.here W.hx rfl (pc0 := 208) (pc' := 221) rfl (W.d at_208) rfl ((if0 _ _).trans (feq hw2).2) (by decide) (by decide) k) ?_
                      show Go _ _ _ _ _ _ _ _ _ _ (mkF m 221 #[.val (.long q0), .second, .val (.long q1), .second, .val (.int i1), .val (.int i2), .val (.int i3), .val (.int i4), .val (.int ff), .val (.int sw), .val (.int sl), .val (.int sb), .val (.int ss), .val (.int se), .val (.int kd), .val (.ref b1), .val (.ref b2), .val (.ref b3), .val (.ref r1), .val (.ref r2), .val (.ref r3), .val (.int e1), .unset, .unset, .unset, .unset, .unset, .unset, .unset] [])
                      refine Go.step (fun _ k => XS.iconst W.here W.hx rfl (W.d at_221) k) ?_
                      show Go _ _ _ _ _ _ _ _ _ _ (mkF m 222 #[.val (.long q0), .second, .val (.long q1), .second, .val (.int i1), .val (.int i2), .val (.int i3), .val (.int i4), .val (.int ff), .val (.int sw), .val (.int sl), .val (.int sb), .val (.int ss), .val (.int se), .val (.int kd), .val (.ref b1), .val (.ref b2), .val (.ref b3), .val (.ref r1), .val (.ref r2), .val (.ref r3), .val (.int e1), .unset, .unset, .unset, .unset, .unset, .unset, .unset] [(.int (1 : Int32))])
                      refine Go.step (fun _ k => XS.goto W.here W.hx rfl (pc0 := 222) (pc' := 226) rfl (W.d at_222) (by decide) (by decide) k) ?_
                      show Go _ _ _ _ _ _ _ _ _ _ (mkF m 226 #[.val (.long q0), .second, .val (.long q1), .second, .val (.int i1), .val (.int i2), .val (.int i3), .val (.int i4), .val (.int ff), .val (.int sw), .val (.int sl), .val (.int sb), .val (.int ss), .val (.int se), .val (.int kd), .val (.ref b1), .val (.ref b2), .val (.ref b3), .val (.ref r1), .val (.ref r2), .val (.ref r3), .val (.int e1), .unset, .unset, .unset, .unset, .unset, .unset, .unset] [(.int (1 : Int32))])
                      exact J226 _ _ _ W (Or.inl ⟨rfl, rfl⟩)
                  rcases hr1 with ⟨hw1, rfl⟩ | ⟨hw1, rfl⟩
                  · show Go _ _ _ _ _ _ _ _ _ _ (mkF m 185 #[.val (.long q0), .second, .val (.long q1), .second, .val (.int i1), .val (.int i2), .val (.int i3), .val (.int i4), .val (.int ff), .val (.int sw), .val (.int sl), .val (.int sb), .val (.int ss), .val (.int se), .val (.int kd), .val (.ref b1), .val (.ref b2), .val (.ref b3), .val (.ref r1), .val (.ref r2), .val (.ref r3), .unset, .unset, .unset, .unset, .unset, .unset, .unset, .unset] [])
                    refine Go.step (fun _ k => XS.iload W.here W.hx rfl (W.d at_185) rfl k) ?_
                    show Go _ _ _ _ _ _ _ _ _ _ (mkF m 187 #[.val (.long q0), .second, .val (.long q1), .second, .val (.int i1), .val (.int i2), .val (.int i3), .val (.int i4), .val (.int ff), .val (.int sw), .val (.int sl), .val (.int sb), .val (.int ss), .val (.int se), .val (.int kd), .val (.ref b1), .val (.ref b2), .val (.ref b3), .val (.ref r1), .val (.ref r2), .val (.ref r3), .unset, .unset, .unset, .unset, .unset, .unset, .unset, .unset] [(.int sw)])
                    refine Go.step (fun _ k => XS.ifNo W.here W.hx rfl (W.d at_187) rfl ((if0 _ _).trans (teq hw1).2) k) ?_
                    show Go _ _ _ _ _ _ _ _ _ _ (mkF m 190 #[.val (.long q0), .second, .val (.long q1), .second, .val (.int i1), .val (.int i2), .val (.int i3), .val (.int i4), .val (.int ff), .val (.int sw), .val (.int sl), .val (.int sb), .val (.int ss), .val (.int se), .val (.int kd), .val (.ref b1), .val (.ref b2), .val (.ref b3), .val (.ref r1), .val (.ref r2), .val (.ref r3), .unset, .unset, .unset, .unset, .unset, .unset, .unset, .unset] [])
                    refine Go.step (fun _ k => XS.lloadN W.here W.hx rfl (W.d at_190) rfl k) ?_
                    show Go _ _ _ _ _ _ _ _ _ _ (mkF m 191 #[.val (.long q0), .second, .val (.long q1), .second, .val (.int i1), .val (.int i2), .val (.int i3), .val (.int i4), .val (.int ff), .val (.int sw), .val (.int sl), .val (.int sb), .val (.int ss), .val (.int se), .val (.int kd), .val (.ref b1), .val (.ref b2), .val (.ref b3), .val (.ref r1), .val (.ref r2), .val (.ref r3), .unset, .unset, .unset, .unset, .unset, .unset, .unset, .unset] [(.long q0)])
                    refine Go.step (fun _ k => XS.lloadN W.here W.hx rfl (W.d at_191) rfl k) ?_
                    show Go _ _ _ _ _ _ _ _ _ _ (mkF m 192 #[.val (.long q0), .second, .val (.long q1), .second, .val (.int i1), .val (.int i2), .val (.int i3), .val (.int i4), .val (.int ff), .val (.int sw), .val (.int sl), .val (.int sb), .val (.int ss), .val (.int se), .val (.int kd), .val (.ref b1), .val (.ref b2), .val (.ref b3), .val (.ref r1), .val (.ref r2), .val (.ref r3), .unset, .unset, .unset, .unset, .unset, .unset, .unset, .unset] [(.long q1), (.long q0)])
                    refine Go.step (fun _ k => XS.iconst W.here W.hx rfl (W.d at_192) k) ?_
                    show Go _ _ _ _ _ _ _ _ _ _ (mkF m 193 #[.val (.long q0), .second, .val (.long q1), .second, .val (.int i1), .val (.int i2), .val (.int i3), .val (.int i4), .val (.int ff), .val (.int sw), .val (.int sl), .val (.int sb), .val (.int ss), .val (.int se), .val (.int kd), .val (.ref b1), .val (.ref b2), .val (.ref b3), .val (.ref r1), .val (.ref r2), .val (.ref r3), .unset, .unset, .unset, .unset, .unset, .unset, .unset, .unset] [(.int (0 : Int32)), (.long q1), (.long q0)])
                    refine W.callS (X.w 39 rfl) (X.w 40 rfl) (X.w 3 rfl) (X.w 41 rfl) (by decide) (c_ss X q0 q1 (0 : Int32) _ W.ext) (by decide) (Wd := 0) (by decide) [(.long q0), (.long q1), (.int (0 : Int32))] [] rfl pd_6 rfl rfl rfl (Nat.le_of_eq rfl) at_193 (by decide) (by decide) ?_
                    intro v T h vm W hQ C
                    obtain ⟨hq22, rfl⟩ := hQ
                    rcases hq22 with ⟨rfl, hq22⟩ | ⟨rfl, hq22⟩
                    · show Go _ _ _ _ _ _ _ _ _ _ (mkF m 196 #[.val (.long q0), .second, .val (.long q1), .second, .val (.int i1), .val (.int i2), .val (.int i3), .val (.int i4), .val (.int ff), .val (.int sw), .val (.int sl), .val (.int sb), .val (.int ss), .val (.int se), .val (.int kd), .val (.ref b1), .val (.ref b2), .val (.ref b3), .val (.ref r1), .val (.ref r2), .val (.ref r3), .unset, .unset, .unset, .unset, .unset, .unset, .unset, .unset] [(.int (1 : Int32))])
                      refine Go.step (fun _ k => XS.ifNo W.here W.hx rfl (W.d at_196) rfl ((if0 _ _).trans (feq (by decide : ¬ ((1 : Int32) = (0 : Int32)))).1) k) ?_
                      show Go _ _ _ _ _ _ _ _ _ _ (mkF m 199 #[.val (.long q0), .second, .val (.long q1), .second, .val (.int i1), .val (.int i2), .val (.int i3), .val (.int i4), .val (.int ff), .val (.int sw), .val (.int sl), .val (.int sb), .val (.int ss), .val (.int se), .val (.int kd), .val (.ref b1), .val (.ref b2), .val (.ref b3), .val (.ref r1), .val (.ref r2), .val (.ref r3), .unset, .unset, .unset, .unset, .unset, .unset, .unset, .unset] [])
                      refine Go.step (fun _ k => XS.iconst W.here W.hx rfl (W.d at_199) k) ?_
                      show Go _ _ _ _ _ _ _ _ _ _ (mkF m 200 #[.val (.long q0), .second, .val (.long q1), .second, .val (.int i1), .val (.int i2), .val (.int i3), .val (.int i4), .val (.int ff), .val (.int sw), .val (.int sl), .val (.int sb), .val (.int ss), .val (.int se), .val (.int kd), .val (.ref b1), .val (.ref b2), .val (.ref b3), .val (.ref r1), .val (.ref r2), .val (.ref r3), .unset, .unset, .unset, .unset, .unset, .unset, .unset, .unset] [(.int (1 : Int32))])
                      refine Go.step (fun _ k => XS.goto W.here W.hx rfl (pc0 := 200) (pc' := 204) rfl (W.d at_200) (by decide) (by decide) k) ?_
                      show Go _ _ _ _ _ _ _ _ _ _ (mkF m 204 #[.val (.long q0), .second, .val (.long q1), .second, .val (.int i1), .val (.int i2), .val (.int i3), .val (.int i4), .val (.int ff), .val (.int sw), .val (.int sl), .val (.int sb), .val (.int ss), .val (.int se), .val (.int kd), .val (.ref b1), .val (.ref b2), .val (.ref b3), .val (.ref r1), .val (.ref r2), .val (.ref r3), .unset, .unset, .unset, .unset, .unset, .unset, .unset, .unset] [(.int (1 : Int32))])
                      exact J204 _ _ _ W (Or.inl ⟨rfl, hq22⟩)
                    · show Go _ _ _ _ _ _ _ _ _ _ (mkF m 196 #[.val (.long q0), .second, .val (.long q1), .second, .val (.int i1), .val (.int i2), .val (.int i3), .val (.int i4), .val (.int ff), .val (.int sw), .val (.int sl), .val (.int sb), .val (.int ss), .val (.int se), .val (.int kd), .val (.ref b1), .val (.ref b2), .val (.ref b3), .val (.ref r1), .val (.ref r2), .val (.ref r3), .unset, .unset, .unset, .unset, .unset, .unset, .unset, .unset] [(.int (0 : Int32))])
                      refine Go.step (fun _ k => XS.ifYes W.here W.hx rfl (pc0 := 196) (pc' := 203) rfl (W.d at_196) rfl ((if0 _ _).trans (teq (by decide : (0 : Int32) = (0 : Int32))).1) (by decide) (by decide) k) ?_
                      show Go _ _ _ _ _ _ _ _ _ _ (mkF m 203 #[.val (.long q0), .second, .val (.long q1), .second, .val (.int i1), .val (.int i2), .val (.int i3), .val (.int i4), .val (.int ff), .val (.int sw), .val (.int sl), .val (.int sb), .val (.int ss), .val (.int se), .val (.int kd), .val (.ref b1), .val (.ref b2), .val (.ref b3), .val (.ref r1), .val (.ref r2), .val (.ref r3), .unset, .unset, .unset, .unset, .unset, .unset, .unset, .unset] [])
                      refine Go.step (fun _ k => XS.iconst W.here W.hx rfl (W.d at_203) k) ?_
                      show Go _ _ _ _ _ _ _ _ _ _ (mkF m 204 #[.val (.long q0), .second, .val (.long q1), .second, .val (.int i1), .val (.int i2), .val (.int i3), .val (.int i4), .val (.int ff), .val (.int sw), .val (.int sl), .val (.int sb), .val (.int ss), .val (.int se), .val (.int kd), .val (.ref b1), .val (.ref b2), .val (.ref b3), .val (.ref r1), .val (.ref r2), .val (.ref r3), .unset, .unset, .unset, .unset, .unset, .unset, .unset, .unset] [(.int (0 : Int32))])
                      exact J204 _ _ _ W (Or.inr ⟨rfl, hq22⟩)
                  · show Go _ _ _ _ _ _ _ _ _ _ (mkF m 185 #[.val (.long q0), .second, .val (.long q1), .second, .val (.int i1), .val (.int i2), .val (.int i3), .val (.int i4), .val (.int ff), .val (.int sw), .val (.int sl), .val (.int sb), .val (.int ss), .val (.int se), .val (.int kd), .val (.ref b1), .val (.ref b2), .val (.ref b3), .val (.ref r1), .val (.ref r2), .val (.ref r3), .unset, .unset, .unset, .unset, .unset, .unset, .unset, .unset] [])
                    refine Go.step (fun _ k => XS.iload W.here W.hx rfl (W.d at_185) rfl k) ?_
                    show Go _ _ _ _ _ _ _ _ _ _ (mkF m 187 #[.val (.long q0), .second, .val (.long q1), .second, .val (.int i1), .val (.int i2), .val (.int i3), .val (.int i4), .val (.int ff), .val (.int sw), .val (.int sl), .val (.int sb), .val (.int ss), .val (.int se), .val (.int kd), .val (.ref b1), .val (.ref b2), .val (.ref b3), .val (.ref r1), .val (.ref r2), .val (.ref r3), .unset, .unset, .unset, .unset, .unset, .unset, .unset, .unset] [(.int sw)])
                    refine Go.step (fun _ k => XS.ifYes W.here W.hx rfl (pc0 := 187) (pc' := 199) rfl (W.d at_187) rfl ((if0 _ _).trans (feq hw1).2) (by decide) (by decide) k) ?_
                    show Go _ _ _ _ _ _ _ _ _ _ (mkF m 199 #[.val (.long q0), .second, .val (.long q1), .second, .val (.int i1), .val (.int i2), .val (.int i3), .val (.int i4), .val (.int ff), .val (.int sw), .val (.int sl), .val (.int sb), .val (.int ss), .val (.int se), .val (.int kd), .val (.ref b1), .val (.ref b2), .val (.ref b3), .val (.ref r1), .val (.ref r2), .val (.ref r3), .unset, .unset, .unset, .unset, .unset, .unset, .unset, .unset] [])
                    refine Go.step (fun _ k => XS.iconst W.here W.hx rfl (W.d at_199) k) ?_
                    show Go _ _ _ _ _ _ _ _ _ _ (mkF m 200 #[.val (.long q0), .second, .val (.long q1), .second, .val (.int i1), .val (.int i2), .val (.int i3), .val (.int i4), .val (.int ff), .val (.int sw), .val (.int sl), .val (.int sb), .val (.int ss), .val (.int se), .val (.int kd), .val (.ref b1), .val (.ref b2), .val (.ref b3), .val (.ref r1), .val (.ref r2), .val (.ref r3), .unset, .unset, .unset, .unset, .unset, .unset, .unset, .unset] [(.int (1 : Int32))])
                    refine Go.step (fun _ k => XS.goto W.here W.hx rfl (pc0 := 200) (pc' := 204) rfl (W.d at_200) (by decide) (by decide) k) ?_
                    show Go _ _ _ _ _ _ _ _ _ _ (mkF m 204 #[.val (.long q0), .second, .val (.long q1), .second, .val (.int i1), .val (.int i2), .val (.int i3), .val (.int i4), .val (.int ff), .val (.int sw), .val (.int sl), .val (.int sb), .val (.int ss), .val (.int se), .val (.int kd), .val (.ref b1), .val (.ref b2), .val (.ref b3), .val (.ref r1), .val (.ref r2), .val (.ref r3), .unset, .unset, .unset, .unset, .unset, .unset, .unset, .unset] [(.int (1 : Int32))])
                    exact J204 _ _ _ W (Or.inl ⟨rfl, rfl⟩)
                refine Go.step (fun _ k => XS.iload W.here W.hx rfl (W.d at_163) rfl k) ?_
                show Go _ _ _ _ _ _ _ _ _ _ (mkF m 165 #[.val (.long q0), .second, .val (.long q1), .second, .val (.int i1), .val (.int i2), .val (.int i3), .val (.int i4), .val (.int ff), .val (.int sw), .val (.int sl), .val (.int sb), .val (.int ss), .val (.int se), .val (.int kd), .val (.ref b1), .val (.ref b2), .val (.ref b3), .val (.ref r1), .val (.ref r2), .unset, .unset, .unset, .unset, .unset, .unset, .unset, .unset, .unset] [(.int sb)])
                by_cases hc23 : sb = (0 : Int32)
                · refine Go.step (fun _ k => XS.ifYes W.here W.hx rfl (pc0 := 165) (pc' := 177) rfl (W.d at_165) rfl ((if0 _ _).trans (teq hc23).1) (by decide) (by decide) k) ?_
                  show Go _ _ _ _ _ _ _ _ _ _ (mkF m 177 #[.val (.long q0), .second, .val (.long q1), .second, .val (.int i1), .val (.int i2), .val (.int i3), .val (.int i4), .val (.int ff), .val (.int sw), .val (.int sl), .val (.int sb), .val (.int ss), .val (.int se), .val (.int kd), .val (.ref b1), .val (.ref b2), .val (.ref b3), .val (.ref r1), .val (.ref r2), .unset, .unset, .unset, .unset, .unset, .unset, .unset, .unset, .unset] [])
                  refine Go.step (fun _ k => XS.lloadN W.here W.hx rfl (W.d at_177) rfl k) ?_
                  show Go _ _ _ _ _ _ _ _ _ _ (mkF m 178 #[.val (.long q0), .second, .val (.long q1), .second, .val (.int i1), .val (.int i2), .val (.int i3), .val (.int i4), .val (.int ff), .val (.int sw), .val (.int sl), .val (.int sb), .val (.int ss), .val (.int se), .val (.int kd), .val (.ref b1), .val (.ref b2), .val (.ref b3), .val (.ref r1), .val (.ref r2), .unset, .unset, .unset, .unset, .unset, .unset, .unset, .unset, .unset] [(.long q1)])
                  refine Go.step (fun _ k => XS.bipush W.here W.hx rfl (W.d at_178) k) ?_
                  show Go _ _ _ _ _ _ _ _ _ _ (mkF m 180 #[.val (.long q0), .second, .val (.long q1), .second, .val (.int i1), .val (.int i2), .val (.int i3), .val (.int i4), .val (.int ff), .val (.int sw), .val (.int sl), .val (.int sb), .val (.int ss), .val (.int se), .val (.int kd), .val (.ref b1), .val (.ref b2), .val (.ref b3), .val (.ref r1), .val (.ref r2), .unset, .unset, .unset, .unset, .unset, .unset, .unset, .unset, .unset] [(.int (36 : Int32)), (.long q1)])
                  refine W.callS (X.w 1 rfl) (X.w 2 rfl) (X.w 3 rfl) (X.w 4 rfl) (by decide) (c_str X q1 (36 : Int32) _ W.ext) (by decide) (Wd := 0) (by decide) [(.long q1), (.int (36 : Int32))] [] rfl pd_4 rfl rfl rfl (Nat.le_of_eq rfl) at_180 (by decide) (by decide) ?_
                  intro v T h vm W hQ C
                  obtain ⟨b24, rfl, gb24, Kb24, Sb24⟩ := hQ
                  replace Sb1 := Sb1.keep0 Kb24
                  replace Sb2 := Sb2.keep0 Kb24
                  replace Sb3 := Sb3.keep0 Kb24
                  replace Sr1 := Sr1.keep0 Kb24
                  replace Sr2 := Sr2.keep0 Kb24
                  replace hsz := W.size
                  show Go _ _ _ _ _ _ _ _ _ _ (mkF m 183 #[.val (.long q0), .second, .val (.long q1), .second, .val (.int i1), .val (.int i2), .val (.int i3), .val (.int i4), .val (.int ff), .val (.int sw), .val (.int sl), .val (.int sb), .val (.int ss), .val (.int se), .val (.int kd), .val (.ref b1), .val (.ref b2), .val (.ref b3), .val (.ref r1), .val (.ref r2), .unset, .unset, .unset, .unset, .unset, .unset, .unset, .unset, .unset] [(.ref b24)])
                  exact J183 T h _ b24 _ (W.more (by decide) (by decide)) Sb1 Sb2 Sb3 Sr1 Sr2 Sb24 (Or.inl ⟨hc23, rfl⟩)
                · refine Go.step (fun _ k => XS.ifNo W.here W.hx rfl (W.d at_165) rfl ((if0 _ _).trans (feq hc23).1) k) ?_
                  show Go _ _ _ _ _ _ _ _ _ _ (mkF m 168 #[.val (.long q0), .second, .val (.long q1), .second, .val (.int i1), .val (.int i2), .val (.int i3), .val (.int i4), .val (.int ff), .val (.int sw), .val (.int sl), .val (.int sb), .val (.int ss), .val (.int se), .val (.int kd), .val (.ref b1), .val (.ref b2), .val (.ref b3), .val (.ref r1), .val (.ref r2), .unset, .unset, .unset, .unset, .unset, .unset, .unset, .unset, .unset] [])
                  refine Go.step (fun _ k => XS.lloadN W.here W.hx rfl (W.d at_168) rfl k) ?_
                  show Go _ _ _ _ _ _ _ _ _ _ (mkF m 169 #[.val (.long q0), .second, .val (.long q1), .second, .val (.int i1), .val (.int i2), .val (.int i3), .val (.int i4), .val (.int ff), .val (.int sw), .val (.int sl), .val (.int sb), .val (.int ss), .val (.int se), .val (.int kd), .val (.ref b1), .val (.ref b2), .val (.ref b3), .val (.ref r1), .val (.ref r2), .unset, .unset, .unset, .unset, .unset, .unset, .unset, .unset, .unset] [(.long q0)])
                  refine Go.step (fun _ k => XS.bipush W.here W.hx rfl (W.d at_169) k) ?_
                  show Go _ _ _ _ _ _ _ _ _ _ (mkF m 171 #[.val (.long q0), .second, .val (.long q1), .second, .val (.int i1), .val (.int i2), .val (.int i3), .val (.int i4), .val (.int ff), .val (.int sw), .val (.int sl), .val (.int sb), .val (.int ss), .val (.int se), .val (.int kd), .val (.ref b1), .val (.ref b2), .val (.ref b3), .val (.ref r1), .val (.ref r2), .unset, .unset, .unset, .unset, .unset, .unset, .unset, .unset, .unset] [(.int (36 : Int32)), (.long q0)])
                  refine W.callS (X.w 1 rfl) (X.w 2 rfl) (X.w 3 rfl) (X.w 4 rfl) (by decide) (c_str X q0 (36 : Int32) _ W.ext) (by decide) (Wd := 0) (by decide) [(.long q0), (.int (36 : Int32))] [] rfl pd_4 rfl rfl rfl (Nat.le_of_eq rfl) at_171 (by decide) (by decide) ?_
                  intro v T h vm W hQ C
                  obtain ⟨b25, rfl, gb25, Kb25, Sb25⟩ := hQ
                  replace Sb1 := Sb1.keep0 Kb25
                  replace Sb2 := Sb2.keep0 Kb25
                  replace Sb3 := Sb3.keep0 Kb25
                  replace Sr1 := Sr1.keep0 Kb25
                  replace Sr2 := Sr2.keep0 Kb25
                  replace hsz := W.size
                  show Go _ _ _ _ _ _ _ _ _ _ (mkF m 174 #[.val (.long q0), .second, .val (.long q1), .second, .val (.int i1), .val (.int i2), .val (.int i3), .val (.int i4), .val (.int ff), .val (.int sw), .val (.int sl), .val (.int sb), .val (.int ss), .val (.int se), .val (.int kd), .val (.ref b1), .val (.ref b2), .val (.ref b3), .val (.ref r1), .val (.ref r2), .unset, .unset, .unset, .unset, .unset, .unset, .unset, .unset, .unset] [(.ref b25)])
                  refine Go.step (fun _ k => XS.goto W.here W.hx rfl (pc0 := 174) (pc' := 183) rfl (W.d at_174) (by decide) (by decide) k) ?_
                  show Go _ _ _ _ _ _ _ _ _ _ (mkF m 183 #[.val (.long q0), .second, .val (.long q1), .second, .val (.int i1), .val (.int i2), .val (.int i3), .val (.int i4), .val (.int ff), .val (.int sw), .val (.int sl), .val (.int sb), .val (.int ss), .val (.int se), .val (.int kd), .val (.ref b1), .val (.ref b2), .val (.ref b3), .val (.ref r1), .val (.ref r2), .unset, .unset, .unset, .unset, .unset, .unset, .unset, .unset, .unset] [(.ref b25)])
                  exact J183 T h _ b25 _ (W.more (by decide) (by decide)) Sb1 Sb2 Sb3 Sr1 Sr2 Sb25 (Or.inr ⟨hc23, rfl⟩)
              refine Go.step (fun _ k => XS.iload W.here W.hx rfl (W.d at_141) rfl k) ?_
              show Go _ _ _ _ _ _ _ _ _ _ (mkF m 143 #[.val (.long q0), .second, .val (.long q1), .second, .val (.int i1), .val (.int i2), .val (.int i3), .val (.int i4), .val (.int ff), .val (.int sw), .val (.int sl), .val (.int sb), .val (.int ss), .val (.int se), .val (.int kd), .val (.ref b1), .val (.ref b2), .val (.ref b3), .val (.ref r1), .unset, .unset, .unset, .unset, .unset, .unset, .unset, .unset, .unset, .unset] [(.int sl)])
              by_cases hc26 : sl = (0 : Int32)
              · refine Go.step (fun _ k => XS.ifYes W.here W.hx rfl (pc0 := 143) (pc' := 155) rfl (W.d at_143) rfl ((if0 _ _).trans (teq hc26).1) (by decide) (by decide) k) ?_
                show Go _ _ _ _ _ _ _ _ _ _ (mkF m 155 #[.val (.long q0), .second, .val (.long q1), .second, .val (.int i1), .val (.int i2), .val (.int i3), .val (.int i4), .val (.int ff), .val (.int sw), .val (.int sl), .val (.int sb), .val (.int ss), .val (.int se), .val (.int kd), .val (.ref b1), .val (.ref b2), .val (.ref b3), .val (.ref r1), .unset, .unset, .unset, .unset, .unset, .unset, .unset, .unset, .unset, .unset] [])
                refine Go.step (fun _ k => XS.lloadN W.here W.hx rfl (W.d at_155) rfl k) ?_
                show Go _ _ _ _ _ _ _ _ _ _ (mkF m 156 #[.val (.long q0), .second, .val (.long q1), .second, .val (.int i1), .val (.int i2), .val (.int i3), .val (.int i4), .val (.int ff), .val (.int sw), .val (.int sl), .val (.int sb), .val (.int ss), .val (.int se), .val (.int kd), .val (.ref b1), .val (.ref b2), .val (.ref b3), .val (.ref r1), .unset, .unset, .unset, .unset, .unset, .unset, .unset, .unset, .unset, .unset] [(.long q1)])
                refine Go.step (fun _ k => XS.bipush W.here W.hx rfl (W.d at_156) k) ?_
                show Go _ _ _ _ _ _ _ _ _ _ (mkF m 158 #[.val (.long q0), .second, .val (.long q1), .second, .val (.int i1), .val (.int i2), .val (.int i3), .val (.int i4), .val (.int ff), .val (.int sw), .val (.int sl), .val (.int sb), .val (.int ss), .val (.int se), .val (.int kd), .val (.ref b1), .val (.ref b2), .val (.ref b3), .val (.ref r1), .unset, .unset, .unset, .unset, .unset, .unset, .unset, .unset, .unset, .unset] [(.int (18 : Int32)), (.long q1)])
                refine W.callS (X.w 1 rfl) (X.w 2 rfl) (X.w 3 rfl) (X.w 4 rfl) (by decide) (c_str X q1 (18 : Int32) _ W.ext) (by decide) (Wd := 0) (by decide) [(.long q1), (.int (18 : Int32))] [] rfl pd_4 rfl rfl rfl (Nat.le_of_eq rfl) at_158 (by decide) (by decide) ?_
                intro v T h vm W hQ C
                obtain ⟨b27, rfl, gb27, Kb27, Sb27⟩ := hQ
                replace Sb1 := Sb1.keep0 Kb27
                replace Sb2 := Sb2.keep0 Kb27
                replace Sb3 := Sb3.keep0 Kb27
                replace Sr1 := Sr1.keep0 Kb27
                replace hsz := W.size
                show Go _ _ _ _ _ _ _ _ _ _ (mkF m 161 #[.val (.long q0), .second, .val (.long q1), .second, .val (.int i1), .val (.int i2), .val (.int i3), .val (.int i4), .val (.int ff), .val (.int sw), .val (.int sl), .val (.int sb), .val (.int ss), .val (.int se), .val (.int kd), .val (.ref b1), .val (.ref b2), .val (.ref b3), .val (.ref r1), .unset, .unset, .unset, .unset, .unset, .unset, .unset, .unset, .unset, .unset] [(.ref b27)])
                exact J161 T h _ b27 _ (W.more (by decide) (by decide)) Sb1 Sb2 Sb3 Sr1 Sb27 (Or.inl ⟨hc26, rfl⟩)
              · refine Go.step (fun _ k => XS.ifNo W.here W.hx rfl (W.d at_143) rfl ((if0 _ _).trans (feq hc26).1) k) ?_
                show Go _ _ _ _ _ _ _ _ _ _ (mkF m 146 #[.val (.long q0), .second, .val (.long q1), .second, .val (.int i1), .val (.int i2), .val (.int i3), .val (.int i4), .val (.int ff), .val (.int sw), .val (.int sl), .val (.int sb), .val (.int ss), .val (.int se), .val (.int kd), .val (.ref b1), .val (.ref b2), .val (.ref b3), .val (.ref r1), .unset, .unset, .unset, .unset, .unset, .unset, .unset, .unset, .unset, .unset] [])
                refine Go.step (fun _ k => XS.lloadN W.here W.hx rfl (W.d at_146) rfl k) ?_
                show Go _ _ _ _ _ _ _ _ _ _ (mkF m 147 #[.val (.long q0), .second, .val (.long q1), .second, .val (.int i1), .val (.int i2), .val (.int i3), .val (.int i4), .val (.int ff), .val (.int sw), .val (.int sl), .val (.int sb), .val (.int ss), .val (.int se), .val (.int kd), .val (.ref b1), .val (.ref b2), .val (.ref b3), .val (.ref r1), .unset, .unset, .unset, .unset, .unset, .unset, .unset, .unset, .unset, .unset] [(.long q0)])
                refine Go.step (fun _ k => XS.bipush W.here W.hx rfl (W.d at_147) k) ?_
                show Go _ _ _ _ _ _ _ _ _ _ (mkF m 149 #[.val (.long q0), .second, .val (.long q1), .second, .val (.int i1), .val (.int i2), .val (.int i3), .val (.int i4), .val (.int ff), .val (.int sw), .val (.int sl), .val (.int sb), .val (.int ss), .val (.int se), .val (.int kd), .val (.ref b1), .val (.ref b2), .val (.ref b3), .val (.ref r1), .unset, .unset, .unset, .unset, .unset, .unset, .unset, .unset, .unset, .unset] [(.int (18 : Int32)), (.long q0)])
                refine W.callS (X.w 1 rfl) (X.w 2 rfl) (X.w 3 rfl) (X.w 4 rfl) (by decide) (c_str X q0 (18 : Int32) _ W.ext) (by decide) (Wd := 0) (by decide) [(.long q0), (.int (18 : Int32))] [] rfl pd_4 rfl rfl rfl (Nat.le_of_eq rfl) at_149 (by decide) (by decide) ?_
                intro v T h vm W hQ C
                obtain ⟨b28, rfl, gb28, Kb28, Sb28⟩ := hQ
                replace Sb1 := Sb1.keep0 Kb28
                replace Sb2 := Sb2.keep0 Kb28
                replace Sb3 := Sb3.keep0 Kb28
                replace Sr1 := Sr1.keep0 Kb28
                replace hsz := W.size
                show Go _ _ _ _ _ _ _ _ _ _ (mkF m 152 #[.val (.long q0), .second, .val (.long q1), .second, .val (.int i1), .val (.int i2), .val (.int i3), .val (.int i4), .val (.int ff), .val (.int sw), .val (.int sl), .val (.int sb), .val (.int ss), .val (.int se), .val (.int kd), .val (.ref b1), .val (.ref b2), .val (.ref b3), .val (.ref r1), .unset, .unset, .unset, .unset, .unset, .unset, .unset, .unset, .unset, .unset] [(.ref b28)])
                refine Go.step (fun _ k => XS.goto W.here W.hx rfl (pc0 := 152) (pc' := 161) rfl (W.d at_152) (by decide) (by decide) k) ?_
                show Go _ _ _ _ _ _ _ _ _ _ (mkF m 161 #[.val (.long q0), .second, .val (.long q1), .second, .val (.int i1), .val (.int i2), .val (.int i3), .val (.int i4), .val (.int ff), .val (.int sw), .val (.int sl), .val (.int sb), .val (.int ss), .val (.int se), .val (.int kd), .val (.ref b1), .val (.ref b2), .val (.ref b3), .val (.ref r1), .unset, .unset, .unset, .unset, .unset, .unset, .unset, .unset, .unset, .unset] [(.ref b28)])
                exact J161 T h _ b28 _ (W.more (by decide) (by decide)) Sb1 Sb2 Sb3 Sr1 Sb28 (Or.inr ⟨hc26, rfl⟩)
            refine Go.step (fun _ k => XS.iload W.here W.hx rfl (W.d at_121) rfl k) ?_
            show Go _ _ _ _ _ _ _ _ _ _ (mkF m 123 #[.val (.long q0), .second, .val (.long q1), .second, .val (.int i1), .val (.int i2), .val (.int i3), .val (.int i4), .val (.int ff), .val (.int sw), .val (.int sl), .val (.int sb), .val (.int ss), .val (.int se), .val (.int kd), .val (.ref b1), .val (.ref b2), .val (.ref b3), .unset, .unset, .unset, .unset, .unset, .unset, .unset, .unset, .unset, .unset, .unset] [(.int sw)])
            by_cases hc29 : sw = (0 : Int32)
            · refine Go.step (fun _ k => XS.ifYes W.here W.hx rfl (pc0 := 123) (pc' := 134) rfl (W.d at_123) rfl ((if0 _ _).trans (teq hc29).1) (by decide) (by decide) k) ?_
              show Go _ _ _ _ _ _ _ _ _ _ (mkF m 134 #[.val (.long q0), .second, .val (.long q1), .second, .val (.int i1), .val (.int i2), .val (.int i3), .val (.int i4), .val (.int ff), .val (.int sw), .val (.int sl), .val (.int sb), .val (.int ss), .val (.int se), .val (.int kd), .val (.ref b1), .val (.ref b2), .val (.ref b3), .unset, .unset, .unset, .unset, .unset, .unset, .unset, .unset, .unset, .unset, .unset] [])
              refine Go.step (fun _ k => XS.lloadN W.here W.hx rfl (W.d at_134) rfl k) ?_
              show Go _ _ _ _ _ _ _ _ _ _ (mkF m 135 #[.val (.long q0), .second, .val (.long q1), .second, .val (.int i1), .val (.int i2), .val (.int i3), .val (.int i4), .val (.int ff), .val (.int sw), .val (.int sl), .val (.int sb), .val (.int ss), .val (.int se), .val (.int kd), .val (.ref b1), .val (.ref b2), .val (.ref b3), .unset, .unset, .unset, .unset, .unset, .unset, .unset, .unset, .unset, .unset, .unset] [(.long q1)])
              refine Go.step (fun _ k => XS.iconst W.here W.hx rfl (W.d at_135) k) ?_
              show Go _ _ _ _ _ _ _ _ _ _ (mkF m 136 #[.val (.long q0), .second, .val (.long q1), .second, .val (.int i1), .val (.int i2), .val (.int i3), .val (.int i4), .val (.int ff), .val (.int sw), .val (.int sl), .val (.int sb), .val (.int ss), .val (.int se), .val (.int kd), .val (.ref b1), .val (.ref b2), .val (.ref b3), .unset, .unset, .unset, .unset, .unset, .unset, .unset, .unset, .unset, .unset, .unset] [(.int (0 : Int32)), (.long q1)])
              refine W.callS (X.w 1 rfl) (X.w 2 rfl) (X.w 3 rfl) (X.w 4 rfl) (by decide) (c_str X q1 (0 : Int32) _ W.ext) (by decide) (Wd := 0) (by decide) [(.long q1), (.int (0 : Int32))] [] rfl pd_4 rfl rfl rfl (Nat.le_of_eq rfl) at_136 (by decide) (by decide) ?_
              intro v T h vm W hQ C
              obtain ⟨b30, rfl, gb30, Kb30, Sb30⟩ := hQ
              replace Sb1 := Sb1.keep0 Kb30
              replace Sb2 := Sb2.keep0 Kb30
              replace Sb3 := Sb3.keep0 Kb30
              replace hsz := W.size
              show Go _ _ _ _ _ _ _ _ _ _ (mkF m 139 #[.val (.long q0), .second, .val (.long q1), .second, .val (.int i1), .val (.int i2), .val (.int i3), .val (.int i4), .val (.int ff), .val (.int sw), .val (.int sl), .val (.int sb), .val (.int ss), .val (.int se), .val (.int kd), .val (.ref b1), .val (.ref b2), .val (.ref b3), .unset, .unset, .unset, .unset, .unset, .unset, .unset, .unset, .unset, .unset, .unset] [(.ref b30)])
              exact J139 T h _ b30 _ (W.more (by decide) (by decide)) Sb1 Sb2 Sb3 Sb30 (Or.inl ⟨hc29, rfl⟩)
            · refine Go.step (fun _ k => XS.ifNo W.here W.hx rfl (W.d at_123) rfl ((if0 _ _).trans (feq hc29).1) k) ?_
              show Go _ _ _ _ _ _ _ _ _ _ (mkF m 126 #[.val (.long q0), .second, .val (.long q1), .second, .val (.int i1), .val (.int i2), .val (.int i3), .val (.int i4), .val (.int ff), .val (.int sw), .val (.int sl), .val (.int sb), .val (.int ss), .val (.int se), .val (.int kd), .val (.ref b1), .val (.ref b2), .val (.ref b3), .unset, .unset, .unset, .unset, .unset, .unset, .unset, .unset, .unset, .unset, .unset] [])
              refine Go.step (fun _ k => XS.lloadN W.here W.hx rfl (W.d at_126) rfl k) ?_
              show Go _ _ _ _ _ _ _ _ _ _ (mkF m 127 #[.val (.long q0), .second, .val (.long q1), .second, .val (.int i1), .val (.int i2), .val (.int i3), .val (.int i4), .val (.int ff), .val (.int sw), .val (.int sl), .val (.int sb), .val (.int ss), .val (.int se), .val (.int kd), .val (.ref b1), .val (.ref b2), .val (.ref b3), .unset, .unset, .unset, .unset, .unset, .unset, .unset, .unset, .unset, .unset, .unset] [(.long q0)])
              refine Go.step (fun _ k => XS.iconst W.here W.hx rfl (W.d at_127) k) ?_
              show Go _ _ _ _ _ _ _ _ _ _ (mkF m 128 #[.val (.long q0), .second, .val (.long q1), .second, .val (.int i1), .val (.int i2), .val (.int i3), .val (.int i4), .val (.int ff), .val (.int sw), .val (.int sl), .val (.int sb), .val (.int ss), .val (.int se), .val (.int kd), .val (.ref b1), .val (.ref b2), .val (.ref b3), .unset, .unset, .unset, .unset, .unset, .unset, .unset, .unset, .unset, .unset, .unset] [(.int (0 : Int32)), (.long q0)])
              refine W.callS (X.w 1 rfl) (X.w 2 rfl) (X.w 3 rfl) (X.w 4 rfl) (by decide) (c_str X q0 (0 : Int32) _ W.ext) (by decide) (Wd := 0) (by decide) [(.long q0), (.int (0 : Int32))] [] rfl pd_4 rfl rfl rfl (Nat.le_of_eq rfl) at_128 (by decide) (by decide) ?_
              intro v T h vm W hQ C
              obtain ⟨b31, rfl, gb31, Kb31, Sb31⟩ := hQ
              replace Sb1 := Sb1.keep0 Kb31
              replace Sb2 := Sb2.keep0 Kb31
              replace Sb3 := Sb3.keep0 Kb31
              replace hsz := W.size
              show Go _ _ _ _ _ _ _ _ _ _ (mkF m 131 #[.val (.long q0), .second, .val (.long q1), .second, .val (.int i1), .val (.int i2), .val (.int i3), .val (.int i4), .val (.int ff), .val (.int sw), .val (.int sl), .val (.int sb), .val (.int ss), .val (.int se), .val (.int kd), .val (.ref b1), .val (.ref b2), .val (.ref b3), .unset, .unset, .unset, .unset, .unset, .unset, .unset, .unset, .unset, .unset, .unset] [(.ref b31)])
              refine Go.step (fun _ k => XS.goto W.here W.hx rfl (pc0 := 131) (pc' := 139) rfl (W.d at_131) (by decide) (by decide) k) ?_
              show Go _ _ _ _ _ _ _ _ _ _ (mkF m 139 #[.val (.long q0), .second, .val (.long q1), .second, .val (.int i1), .val (.int i2), .val (.int i3), .val (.int i4), .val (.int ff), .val (.int sw), .val (.int sl), .val (.int sb), .val (.int ss), .val (.int se), .val (.int kd), .val (.ref b1), .val (.ref b2), .val (.ref b3), .unset, .unset, .unset, .unset, .unset, .unset, .unset, .unset, .unset, .unset, .unset] [(.ref b31)])
              exact J139 T h _ b31 _ (W.more (by decide) (by decide)) Sb1 Sb2 Sb3 Sb31 (Or.inr ⟨hc29, rfl⟩)
          refine Go.step (fun _ k => XS.iload W.here W.hx rfl (W.d at_73) rfl k) ?_
          show Go _ _ _ _ _ _ _ _ _ _ (mkF m 75 #[.val (.long q0), .second, .val (.long q1), .second, .val (.int i1), .val (.int i2), .val (.int i3), .val (.int i4), .val (.int ff), .val (.int sw), .val (.int sl), .val (.int sb), .val (.int ss), .unset, .unset, .unset, .unset, .unset, .unset, .unset, .unset, .unset, .unset, .unset, .unset, .unset, .unset, .unset, .unset] [(.int ff)])
          refine Go.step (fun _ k => XS.iconst W.here W.hx rfl (W.d at_75) k) ?_
          show Go _ _ _ _ _ _ _ _ _ _ (mkF m 76 #[.val (.long q0), .second, .val (.long q1), .second, .val (.int i1), .val (.int i2), .val (.int i3), .val (.int i4), .val (.int ff), .val (.int sw), .val (.int sl), .val (.int sb), .val (.int ss), .unset, .unset, .unset, .unset, .unset, .unset, .unset, .unset, .unset, .unset, .unset, .unset, .unset, .unset, .unset, .unset] [(.int (4 : Int32)), (.int ff)])
          refine Go.step (fun _ k => XS.iushr W.here W.hx rfl (W.d at_76) rfl k) ?_
          show Go _ _ _ _ _ _ _ _ _ _ (mkF m 77 #[.val (.long q0), .second, .val (.long q1), .second, .val (.int i1), .val (.int i2), .val (.int i3), .val (.int i4), .val (.int ff), .val (.int sw), .val (.int sl), .val (.int sb), .val (.int ss), .unset, .unset, .unset, .unset, .unset, .unset, .unset, .unset, .unset, .unset, .unset, .unset, .unset, .unset, .unset, .unset] [(.int ((ff.toUInt32 >>> ((4 : Int32) &&& 31).toUInt32).toInt32))])
          refine Go.step (fun _ k => XS.iconst W.here W.hx rfl (W.d at_77) k) ?_
          show Go _ _ _ _ _ _ _ _ _ _ (mkF m 78 #[.val (.long q0), .second, .val (.long q1), .second, .val (.int i1), .val (.int i2), .val (.int i3), .val (.int i4), .val (.int ff), .val (.int sw), .val (.int sl), .val (.int sb), .val (.int ss), .unset, .unset, .unset, .unset, .unset, .unset, .unset, .unset, .unset, .unset, .unset, .unset, .unset, .unset, .unset, .unset] [(.int (1 : Int32)), (.int ((ff.toUInt32 >>> ((4 : Int32) &&& 31).toUInt32).toInt32))])
          refine Go.step (fun _ k => XS.iand W.here W.hx rfl (W.d at_78) rfl k) ?_
          show Go _ _ _ _ _ _ _ _ _ _ (mkF m 79 #[.val (.long q0), .second, .val (.long q1), .second, .val (.int i1), .val (.int i2), .val (.int i3), .val (.int i4), .val (.int ff), .val (.int sw), .val (.int sl), .val (.int sb), .val (.int ss), .unset, .unset, .unset, .unset, .unset, .unset, .unset, .unset, .unset, .unset, .unset, .unset, .unset, .unset, .unset, .unset] [(.int (((ff.toUInt32 >>> ((4 : Int32) &&& 31).toUInt32).toInt32) &&& (1 : Int32)))])
          by_cases hc32 : (((ff.toUInt32 >>> ((4 : Int32) &&& 31).toUInt32).toInt32) &&& (1 : Int32)) = (0 : Int32)
          · refine Go.step (fun _ k => XS.ifYes W.here W.hx rfl (pc0 := 79) (pc' := 86) rfl (W.d at_79) rfl ((if0 _ _).trans (teq hc32).1) (by decide) (by decide) k) ?_
            show Go _ _ _ _ _ _ _ _ _ _ (mkF m 86 #[.val (.long q0), .second, .val (.long q1), .second, .val (.int i1), .val (.int i2), .val (.int i3), .val (.int i4), .val (.int ff), .val (.int sw), .val (.int sl), .val (.int sb), .val (.int ss), .unset, .unset, .unset, .unset, .unset, .unset, .unset, .unset, .unset, .unset, .unset, .unset, .unset, .unset, .unset, .unset] [])
            refine Go.step (fun _ k => XS.iconst W.here W.hx rfl (W.d at_86) k) ?_
            show Go _ _ _ _ _ _ _ _ _ _ (mkF m 87 #[.val (.long q0), .second, .val (.long q1), .second, .val (.int i1), .val (.int i2), .val (.int i3), .val (.int i4), .val (.int ff), .val (.int sw), .val (.int sl), .val (.int sb), .val (.int ss), .unset, .unset, .unset, .unset, .unset, .unset, .unset, .unset, .unset, .unset, .unset, .unset, .unset, .unset, .unset, .unset] [(.int (0 : Int32))])
            exact J87 _ _ _ W trivial
          · refine Go.step (fun _ k => XS.ifNo W.here W.hx rfl (W.d at_79) rfl ((if0 _ _).trans (feq hc32).1) k) ?_
            show Go _ _ _ _ _ _ _ _ _ _ (mkF m 82 #[.val (.long q0), .second, .val (.long q1), .second, .val (.int i1), .val (.int i2), .val (.int i3), .val (.int i4), .val (.int ff), .val (.int sw), .val (.int sl), .val (.int sb), .val (.int ss), .unset, .unset, .unset, .unset, .unset, .unset, .unset, .unset, .unset, .unset, .unset, .unset, .unset, .unset, .unset, .unset] [])
            refine Go.step (fun _ k => XS.iconst W.here W.hx rfl (W.d at_82) k) ?_
            show Go _ _ _ _ _ _ _ _ _ _ (mkF m 83 #[.val (.long q0), .second, .val (.long q1), .second, .val (.int i1), .val (.int i2), .val (.int i3), .val (.int i4), .val (.int ff), .val (.int sw), .val (.int sl), .val (.int sb), .val (.int ss), .unset, .unset, .unset, .unset, .unset, .unset, .unset, .unset, .unset, .unset, .unset, .unset, .unset, .unset, .unset, .unset] [(.int (1 : Int32))])
            refine Go.step (fun _ k => XS.goto W.here W.hx rfl (pc0 := 83) (pc' := 87) rfl (W.d at_83) (by decide) (by decide) k) ?_
            show Go _ _ _ _ _ _ _ _ _ _ (mkF m 87 #[.val (.long q0), .second, .val (.long q1), .second, .val (.int i1), .val (.int i2), .val (.int i3), .val (.int i4), .val (.int ff), .val (.int sw), .val (.int sl), .val (.int sb), .val (.int ss), .unset, .unset, .unset, .unset, .unset, .unset, .unset, .unset, .unset, .unset, .unset, .unset, .unset, .unset, .unset, .unset] [(.int (1 : Int32))])
            exact J87 _ _ _ W trivial
        refine Go.step (fun _ k => XS.iload W.here W.hx rfl (W.d at_57) rfl k) ?_
        show Go _ _ _ _ _ _ _ _ _ _ (mkF m 59 #[.val (.long q0), .second, .val (.long q1), .second, .val (.int i1), .val (.int i2), .val (.int i3), .val (.int i4), .val (.int ff), .val (.int sw), .val (.int sl), .val (.int sb), .unset, .unset, .unset, .unset, .unset, .unset, .unset, .unset, .unset, .unset, .unset, .unset, .unset, .unset, .unset, .unset, .unset] [(.int ff)])
        refine Go.step (fun _ k => XS.iconst W.here W.hx rfl (W.d at_59) k) ?_
        show Go _ _ _ _ _ _ _ _ _ _ (mkF m 60 #[.val (.long q0), .second, .val (.long q1), .second, .val (.int i1), .val (.int i2), .val (.int i3), .val (.int i4), .val (.int ff), .val (.int sw), .val (.int sl), .val (.int sb), .unset, .unset, .unset, .unset, .unset, .unset, .unset, .unset, .unset, .unset, .unset, .unset, .unset, .unset, .unset, .unset, .unset] [(.int (3 : Int32)), (.int ff)])
        refine Go.step (fun _ k => XS.iushr W.here W.hx rfl (W.d at_60) rfl k) ?_
        show Go _ _ _ _ _ _ _ _ _ _ (mkF m 61 #[.val (.long q0), .second, .val (.long q1), .second, .val (.int i1), .val (.int i2), .val (.int i3), .val (.int i4), .val (.int ff), .val (.int sw), .val (.int sl), .val (.int sb), .unset, .unset, .unset, .unset, .unset, .unset, .unset, .unset, .unset, .unset, .unset, .unset, .unset, .unset, .unset, .unset, .unset] [(.int ((ff.toUInt32 >>> ((3 : Int32) &&& 31).toUInt32).toInt32))])
        refine Go.step (fun _ k => XS.iconst W.here W.hx rfl (W.d at_61) k) ?_
        show Go _ _ _ _ _ _ _ _ _ _ (mkF m 62 #[.val (.long q0), .second, .val (.long q1), .second, .val (.int i1), .val (.int i2), .val (.int i3), .val (.int i4), .val (.int ff), .val (.int sw), .val (.int sl), .val (.int sb), .unset, .unset, .unset, .unset, .unset, .unset, .unset, .unset, .unset, .unset, .unset, .unset, .unset, .unset, .unset, .unset, .unset] [(.int (1 : Int32)), (.int ((ff.toUInt32 >>> ((3 : Int32) &&& 31).toUInt32).toInt32))])
        refine Go.step (fun _ k => XS.iand W.here W.hx rfl (W.d at_62) rfl k) ?_
        show Go _ _ _ _ _ _ _ _ _ _ (mkF m 63 #[.val (.long q0), .second, .val (.long q1), .second, .val (.int i1), .val (.int i2), .val (.int i3), .val (.int i4), .val (.int ff), .val (.int sw), .val (.int sl), .val (.int sb), .unset, .unset, .unset, .unset, .unset, .unset, .unset, .unset, .unset, .unset, .unset, .unset, .unset, .unset, .unset, .unset, .unset] [(.int (((ff.toUInt32 >>> ((3 : Int32) &&& 31).toUInt32).toInt32) &&& (1 : Int32)))])
        by_cases hc33 : (((ff.toUInt32 >>> ((3 : Int32) &&& 31).toUInt32).toInt32) &&& (1 : Int32)) = (0 : Int32)
        · refine Go.step (fun _ k => XS.ifYes W.here W.hx rfl (pc0 := 63) (pc' := 70) rfl (W.d at_63) rfl ((if0 _ _).trans (teq hc33).1) (by decide) (by decide) k) ?_
          show Go _ _ _ _ _ _ _ _ _ _ (mkF m 70 #[.val (.long q0), .second, .val (.long q1), .second, .val (.int i1), .val (.int i2), .val (.int i3), .val (.int i4), .val (.int ff), .val (.int sw), .val (.int sl), .val (.int sb), .unset, .unset, .unset, .unset, .unset, .unset, .unset, .unset, .unset, .unset, .unset, .unset, .unset, .unset, .unset, .unset, .unset] [])
          refine Go.step (fun _ k => XS.iconst W.here W.hx rfl (W.d at_70) k) ?_
          show Go _ _ _ _ _ _ _ _ _ _ (mkF m 71 #[.val (.long q0), .second, .val (.long q1), .second, .val (.int i1), .val (.int i2), .val (.int i3), .val (.int i4), .val (.int ff), .val (.int sw), .val (.int sl), .val (.int sb), .unset, .unset, .unset, .unset, .unset, .unset, .unset, .unset, .unset, .unset, .unset, .unset, .unset, .unset, .unset, .unset, .unset] [(.int (0 : Int32))])
          exact J71 _ _ _ W trivial
        · refine Go.step (fun _ k => XS.ifNo W.here W.hx rfl (W.d at_63) rfl ((if0 _ _).trans (feq hc33).1) k) ?_
          show Go _ _ _ _ _ _ _ _ _ _ (mkF m 66 #[.val (.long q0), .second, .val (.long q1), .second, .val (.int i1), .val (.int i2), .val (.int i3), .val (.int i4), .val (.int ff), .val (.int sw), .val (.int sl), .val (.int sb), .unset, .unset, .unset, .unset, .unset, .unset, .unset, .unset, .unset, .unset, .unset, .unset, .unset, .unset, .unset, .unset, .unset] [])
          refine Go.step (fun _ k => XS.iconst W.here W.hx rfl (W.d at_66) k) ?_
          show Go _ _ _ _ _ _ _ _ _ _ (mkF m 67 #[.val (.long q0), .second, .val (.long q1), .second, .val (.int i1), .val (.int i2), .val (.int i3), .val (.int i4), .val (.int ff), .val (.int sw), .val (.int sl), .val (.int sb), .unset, .unset, .unset, .unset, .unset, .unset, .unset, .unset, .unset, .unset, .unset, .unset, .unset, .unset, .unset, .unset, .unset] [(.int (1 : Int32))])
          refine Go.step (fun _ k => XS.goto W.here W.hx rfl (pc0 := 67) (pc' := 71) rfl (W.d at_67) (by decide) (by decide) k) ?_
          show Go _ _ _ _ _ _ _ _ _ _ (mkF m 71 #[.val (.long q0), .second, .val (.long q1), .second, .val (.int i1), .val (.int i2), .val (.int i3), .val (.int i4), .val (.int ff), .val (.int sw), .val (.int sl), .val (.int sb), .unset, .unset, .unset, .unset, .unset, .unset, .unset, .unset, .unset, .unset, .unset, .unset, .unset, .unset, .unset, .unset, .unset] [(.int (1 : Int32))])
          exact J71 _ _ _ W trivial
      refine Go.step (fun _ k => XS.iload W.here W.hx rfl (W.d at_41) rfl k) ?_
      show Go _ _ _ _ _ _ _ _ _ _ (mkF m 43 #[.val (.long q0), .second, .val (.long q1), .second, .val (.int i1), .val (.int i2), .val (.int i3), .val (.int i4), .val (.int ff), .val (.int sw), .val (.int sl), .unset, .unset, .unset, .unset, .unset, .unset, .unset, .unset, .unset, .unset, .unset, .unset, .unset, .unset, .unset, .unset, .unset, .unset] [(.int ff)])
      refine Go.step (fun _ k => XS.iconst W.here W.hx rfl (W.d at_43) k) ?_
      show Go _ _ _ _ _ _ _ _ _ _ (mkF m 44 #[.val (.long q0), .second, .val (.long q1), .second, .val (.int i1), .val (.int i2), .val (.int i3), .val (.int i4), .val (.int ff), .val (.int sw), .val (.int sl), .unset, .unset, .unset, .unset, .unset, .unset, .unset, .unset, .unset, .unset, .unset, .unset, .unset, .unset, .unset, .unset, .unset, .unset] [(.int (2 : Int32)), (.int ff)])
      refine Go.step (fun _ k => XS.iushr W.here W.hx rfl (W.d at_44) rfl k) ?_
      show Go _ _ _ _ _ _ _ _ _ _ (mkF m 45 #[.val (.long q0), .second, .val (.long q1), .second, .val (.int i1), .val (.int i2), .val (.int i3), .val (.int i4), .val (.int ff), .val (.int sw), .val (.int sl), .unset, .unset, .unset, .unset, .unset, .unset, .unset, .unset, .unset, .unset, .unset, .unset, .unset, .unset, .unset, .unset, .unset, .unset] [(.int ((ff.toUInt32 >>> ((2 : Int32) &&& 31).toUInt32).toInt32))])
      refine Go.step (fun _ k => XS.iconst W.here W.hx rfl (W.d at_45) k) ?_
      show Go _ _ _ _ _ _ _ _ _ _ (mkF m 46 #[.val (.long q0), .second, .val (.long q1), .second, .val (.int i1), .val (.int i2), .val (.int i3), .val (.int i4), .val (.int ff), .val (.int sw), .val (.int sl), .unset, .unset, .unset, .unset, .unset, .unset, .unset, .unset, .unset, .unset, .unset, .unset, .unset, .unset, .unset, .unset, .unset, .unset] [(.int (1 : Int32)), (.int ((ff.toUInt32 >>> ((2 : Int32) &&& 31).toUInt32).toInt32))])
      refine Go.step (fun _ k => XS.iand W.here W.hx rfl (W.d at_46) rfl k) ?_
      show Go _ _ _ _ _ _ _ _ _ _ (mkF m 47 #[.val (.long q0), .second, .val (.long q1), .second, .val (.int i1), .val (.int i2), .val (.int i3), .val (.int i4), .val (.int ff), .val (.int sw), .val (.int sl), .unset, .unset, .unset, .unset, .unset, .unset, .unset, .unset, .unset, .unset, .unset, .unset, .unset, .unset, .unset, .unset, .unset, .unset] [(.int (((ff.toUInt32 >>> ((2 : Int32) &&& 31).toUInt32).toInt32) &&& (1 : Int32)))])
      by_cases hc34 : (((ff.toUInt32 >>> ((2 : Int32) &&& 31).toUInt32).toInt32) &&& (1 : Int32)) = (0 : Int32)
      · refine Go.step (fun _ k => XS.ifYes W.here W.hx rfl (pc0 := 47) (pc' := 54) rfl (W.d at_47) rfl ((if0 _ _).trans (teq hc34).1) (by decide) (by decide) k) ?_
        show Go _ _ _ _ _ _ _ _ _ _ (mkF m 54 #[.val (.long q0), .second, .val (.long q1), .second, .val (.int i1), .val (.int i2), .val (.int i3), .val (.int i4), .val (.int ff), .val (.int sw), .val (.int sl), .unset, .unset, .unset, .unset, .unset, .unset, .unset, .unset, .unset, .unset, .unset, .unset, .unset, .unset, .unset, .unset, .unset, .unset] [])
        refine Go.step (fun _ k => XS.iconst W.here W.hx rfl (W.d at_54) k) ?_
        show Go _ _ _ _ _ _ _ _ _ _ (mkF m 55 #[.val (.long q0), .second, .val (.long q1), .second, .val (.int i1), .val (.int i2), .val (.int i3), .val (.int i4), .val (.int ff), .val (.int sw), .val (.int sl), .unset, .unset, .unset, .unset, .unset, .unset, .unset, .unset, .unset, .unset, .unset, .unset, .unset, .unset, .unset, .unset, .unset, .unset] [(.int (0 : Int32))])
        exact J55 _ _ _ W trivial
      · refine Go.step (fun _ k => XS.ifNo W.here W.hx rfl (W.d at_47) rfl ((if0 _ _).trans (feq hc34).1) k) ?_
        show Go _ _ _ _ _ _ _ _ _ _ (mkF m 50 #[.val (.long q0), .second, .val (.long q1), .second, .val (.int i1), .val (.int i2), .val (.int i3), .val (.int i4), .val (.int ff), .val (.int sw), .val (.int sl), .unset, .unset, .unset, .unset, .unset, .unset, .unset, .unset, .unset, .unset, .unset, .unset, .unset, .unset, .unset, .unset, .unset, .unset] [])
        refine Go.step (fun _ k => XS.iconst W.here W.hx rfl (W.d at_50) k) ?_
        show Go _ _ _ _ _ _ _ _ _ _ (mkF m 51 #[.val (.long q0), .second, .val (.long q1), .second, .val (.int i1), .val (.int i2), .val (.int i3), .val (.int i4), .val (.int ff), .val (.int sw), .val (.int sl), .unset, .unset, .unset, .unset, .unset, .unset, .unset, .unset, .unset, .unset, .unset, .unset, .unset, .unset, .unset, .unset, .unset, .unset] [(.int (1 : Int32))])
        refine Go.step (fun _ k => XS.goto W.here W.hx rfl (pc0 := 51) (pc' := 55) rfl (W.d at_51) (by decide) (by decide) k) ?_
        show Go _ _ _ _ _ _ _ _ _ _ (mkF m 55 #[.val (.long q0), .second, .val (.long q1), .second, .val (.int i1), .val (.int i2), .val (.int i3), .val (.int i4), .val (.int ff), .val (.int sw), .val (.int sl), .unset, .unset, .unset, .unset, .unset, .unset, .unset, .unset, .unset, .unset, .unset, .unset, .unset, .unset, .unset, .unset, .unset, .unset] [(.int (1 : Int32))])
        exact J55 _ _ _ W trivial
    refine Go.step (fun _ k => XS.iload W.here W.hx rfl (W.d at_25) rfl k) ?_
    show Go _ _ _ _ _ _ _ _ _ _ (mkF m 27 #[.val (.long q0), .second, .val (.long q1), .second, .val (.int i1), .val (.int i2), .val (.int i3), .val (.int i4), .val (.int ff), .val (.int sw), .unset, .unset, .unset, .unset, .unset, .unset, .unset, .unset, .unset, .unset, .unset, .unset, .unset, .unset, .unset, .unset, .unset, .unset, .unset] [(.int ff)])
    refine Go.step (fun _ k => XS.iconst W.here W.hx rfl (W.d at_27) k) ?_
    show Go _ _ _ _ _ _ _ _ _ _ (mkF m 28 #[.val (.long q0), .second, .val (.long q1), .second, .val (.int i1), .val (.int i2), .val (.int i3), .val (.int i4), .val (.int ff), .val (.int sw), .unset, .unset, .unset, .unset, .unset, .unset, .unset, .unset, .unset, .unset, .unset, .unset, .unset, .unset, .unset, .unset, .unset, .unset, .unset] [(.int (1 : Int32)), (.int ff)])
    refine Go.step (fun _ k => XS.iushr W.here W.hx rfl (W.d at_28) rfl k) ?_
    show Go _ _ _ _ _ _ _ _ _ _ (mkF m 29 #[.val (.long q0), .second, .val (.long q1), .second, .val (.int i1), .val (.int i2), .val (.int i3), .val (.int i4), .val (.int ff), .val (.int sw), .unset, .unset, .unset, .unset, .unset, .unset, .unset, .unset, .unset, .unset, .unset, .unset, .unset, .unset, .unset, .unset, .unset, .unset, .unset] [(.int ((ff.toUInt32 >>> ((1 : Int32) &&& 31).toUInt32).toInt32))])
    refine Go.step (fun _ k => XS.iconst W.here W.hx rfl (W.d at_29) k) ?_
    show Go _ _ _ _ _ _ _ _ _ _ (mkF m 30 #[.val (.long q0), .second, .val (.long q1), .second, .val (.int i1), .val (.int i2), .val (.int i3), .val (.int i4), .val (.int ff), .val (.int sw), .unset, .unset, .unset, .unset, .unset, .unset, .unset, .unset, .unset, .unset, .unset, .unset, .unset, .unset, .unset, .unset, .unset, .unset, .unset] [(.int (1 : Int32)), (.int ((ff.toUInt32 >>> ((1 : Int32) &&& 31).toUInt32).toInt32))])
    refine Go.step (fun _ k => XS.iand W.here W.hx rfl (W.d at_30) rfl k) ?_
    show Go _ _ _ _ _ _ _ _ _ _ (mkF m 31 #[.val (.long q0), .second, .val (.long q1), .second, .val (.int i1), .val (.int i2), .val (.int i3), .val (.int i4), .val (.int ff), .val (.int sw), .unset, .unset, .unset, .unset, .unset, .unset, .unset, .unset, .unset, .unset, .unset, .unset, .unset, .unset, .unset, .unset, .unset, .unset, .unset] [(.int (((ff.toUInt32 >>> ((1 : Int32) &&& 31).toUInt32).toInt32) &&& (1 : Int32)))])
    by_cases hc35 : (((ff.toUInt32 >>> ((1 : Int32) &&& 31).toUInt32).toInt32) &&& (1 : Int32)) = (0 : Int32)
    · refine Go.step (fun _ k => XS.ifYes W.here W.hx rfl (pc0 := 31) (pc' := 38) rfl (W.d at_31) rfl ((if0 _ _).trans (teq hc35).1) (by decide) (by decide) k) ?_
      show Go _ _ _ _ _ _ _ _ _ _ (mkF m 38 #[.val (.long q0), .second, .val (.long q1), .second, .val (.int i1), .val (.int i2), .val (.int i3), .val (.int i4), .val (.int ff), .val (.int sw), .unset, .unset, .unset, .unset, .unset, .unset, .unset, .unset, .unset, .unset, .unset, .unset, .unset, .unset, .unset, .unset, .unset, .unset, .unset] [])
      refine Go.step (fun _ k => XS.iconst W.here W.hx rfl (W.d at_38) k) ?_
      show Go _ _ _ _ _ _ _ _ _ _ (mkF m 39 #[.val (.long q0), .second, .val (.long q1), .second, .val (.int i1), .val (.int i2), .val (.int i3), .val (.int i4), .val (.int ff), .val (.int sw), .unset, .unset, .unset, .unset, .unset, .unset, .unset, .unset, .unset, .unset, .unset, .unset, .unset, .unset, .unset, .unset, .unset, .unset, .unset] [(.int (0 : Int32))])
      exact J39 _ _ _ W trivial
    · refine Go.step (fun _ k => XS.ifNo W.here W.hx rfl (W.d at_31) rfl ((if0 _ _).trans (feq hc35).1) k) ?_
      show Go _ _ _ _ _ _ _ _ _ _ (mkF m 34 #[.val (.long q0), .second, .val (.long q1), .second, .val (.int i1), .val (.int i2), .val (.int i3), .val (.int i4), .val (.int ff), .val (.int sw), .unset, .unset, .unset, .unset, .unset, .unset, .unset, .unset, .unset, .unset, .unset, .unset, .unset, .unset, .unset, .unset, .unset, .unset, .unset] [])
      refine Go.step (fun _ k => XS.iconst W.here W.hx rfl (W.d at_34) k) ?_
      show Go _ _ _ _ _ _ _ _ _ _ (mkF m 35 #[.val (.long q0), .second, .val (.long q1), .second, .val (.int i1), .val (.int i2), .val (.int i3), .val (.int i4), .val (.int ff), .val (.int sw), .unset, .unset, .unset, .unset, .unset, .unset, .unset, .unset, .unset, .unset, .unset, .unset, .unset, .unset, .unset, .unset, .unset, .unset, .unset] [(.int (1 : Int32))])
      refine Go.step (fun _ k => XS.goto W.here W.hx rfl (pc0 := 35) (pc' := 39) rfl (W.d at_35) (by decide) (by decide) k) ?_
      show Go _ _ _ _ _ _ _ _ _ _ (mkF m 39 #[.val (.long q0), .second, .val (.long q1), .second, .val (.int i1), .val (.int i2), .val (.int i3), .val (.int i4), .val (.int ff), .val (.int sw), .unset, .unset, .unset, .unset, .unset, .unset, .unset, .unset, .unset, .unset, .unset, .unset, .unset, .unset, .unset, .unset, .unset, .unset, .unset] [(.int (1 : Int32))])
      exact J39 _ _ _ W trivial
  refine Go.step (fun _ k => XS.iload W.here W.hx rfl (W.d at_11) rfl k) ?_
  show Go _ _ _ _ _ _ _ _ _ _ (mkF m 13 #[.val (.long q0), .second, .val (.long q1), .second, .val (.int i1), .val (.int i2), .val (.int i3), .val (.int i4), .val (.int ff), .unset, .unset, .unset, .unset, .unset, .unset, .unset, .unset, .unset, .unset, .unset, .unset, .unset, .unset, .unset, .unset, .unset, .unset, .unset, .unset] [(.int ff)])
  refine Go.step (fun _ k => XS.iconst W.here W.hx rfl (W.d at_13) k) ?_
  show Go _ _ _ _ _ _ _ _ _ _ (mkF m 14 #[.val (.long q0), .second, .val (.long q1), .second, .val (.int i1), .val (.int i2), .val (.int i3), .val (.int i4), .val (.int ff), .unset, .unset, .unset, .unset, .unset, .unset, .unset, .unset, .unset, .unset, .unset, .unset, .unset, .unset, .unset, .unset, .unset, .unset, .unset, .unset] [(.int (1 : Int32)), (.int ff)])
  refine Go.step (fun _ k => XS.iand W.here W.hx rfl (W.d at_14) rfl k) ?_
  show Go _ _ _ _ _ _ _ _ _ _ (mkF m 15 #[.val (.long q0), .second, .val (.long q1), .second, .val (.int i1), .val (.int i2), .val (.int i3), .val (.int i4), .val (.int ff), .unset, .unset, .unset, .unset, .unset, .unset, .unset, .unset, .unset, .unset, .unset, .unset, .unset, .unset, .unset, .unset, .unset, .unset, .unset, .unset] [(.int (ff &&& (1 : Int32)))])
  by_cases hc36 : (ff &&& (1 : Int32)) = (0 : Int32)
  · refine Go.step (fun _ k => XS.ifYes W.here W.hx rfl (pc0 := 15) (pc' := 22) rfl (W.d at_15) rfl ((if0 _ _).trans (teq hc36).1) (by decide) (by decide) k) ?_
    show Go _ _ _ _ _ _ _ _ _ _ (mkF m 22 #[.val (.long q0), .second, .val (.long q1), .second, .val (.int i1), .val (.int i2), .val (.int i3), .val (.int i4), .val (.int ff), .unset, .unset, .unset, .unset, .unset, .unset, .unset, .unset, .unset, .unset, .unset, .unset, .unset, .unset, .unset, .unset, .unset, .unset, .unset, .unset] [])
    refine Go.step (fun _ k => XS.iconst W.here W.hx rfl (W.d at_22) k) ?_
    show Go _ _ _ _ _ _ _ _ _ _ (mkF m 23 #[.val (.long q0), .second, .val (.long q1), .second, .val (.int i1), .val (.int i2), .val (.int i3), .val (.int i4), .val (.int ff), .unset, .unset, .unset, .unset, .unset, .unset, .unset, .unset, .unset, .unset, .unset, .unset, .unset, .unset, .unset, .unset, .unset, .unset, .unset, .unset] [(.int (0 : Int32))])
    exact J23 _ _ _ W trivial
  · refine Go.step (fun _ k => XS.ifNo W.here W.hx rfl (W.d at_15) rfl ((if0 _ _).trans (feq hc36).1) k) ?_
    show Go _ _ _ _ _ _ _ _ _ _ (mkF m 18 #[.val (.long q0), .second, .val (.long q1), .second, .val (.int i1), .val (.int i2), .val (.int i3), .val (.int i4), .val (.int ff), .unset, .unset, .unset, .unset, .unset, .unset, .unset, .unset, .unset, .unset, .unset, .unset, .unset, .unset, .unset, .unset, .unset, .unset, .unset, .unset] [])
    refine Go.step (fun _ k => XS.iconst W.here W.hx rfl (W.d at_18) k) ?_
    show Go _ _ _ _ _ _ _ _ _ _ (mkF m 19 #[.val (.long q0), .second, .val (.long q1), .second, .val (.int i1), .val (.int i2), .val (.int i3), .val (.int i4), .val (.int ff), .unset, .unset, .unset, .unset, .unset, .unset, .unset, .unset, .unset, .unset, .unset, .unset, .unset, .unset, .unset, .unset, .unset, .unset, .unset, .unset] [(.int (1 : Int32))])
    refine Go.step (fun _ k => XS.goto W.here W.hx rfl (pc0 := 19) (pc' := 23) rfl (W.d at_19) (by decide) (by decide) k) ?_
    show Go _ _ _ _ _ _ _ _ _ _ (mkF m 23 #[.val (.long q0), .second, .val (.long q1), .second, .val (.int i1), .val (.int i2), .val (.int i3), .val (.int i4), .val (.int ff), .unset, .unset, .unset, .unset, .unset, .unset, .unset, .unset, .unset, .unset, .unset, .unset, .unset, .unset, .unset, .unset, .unset, .unset, .unset, .unset] [(.int (1 : Int32))])
    exact J23 _ _ _ W trivial
set_option maxRecDepth 65536 in
set_option maxHeartbeats 40000000 in
theorem comes_1 {Post : Tables → Env → Array Value → State → Outcome → State → Prop} (hpost : ∀ tb e args s v u, (limb_1_1.after args s (.returned v) u = true ∧ limb_1_2.after args s (.returned v) u = true ∧ True) → ReturnedEndW s (.returned v) u (Jvm.fieldLocs frame_1_writes args s ++ Jvm.arrayLocs frame_1_arrays args s ++ Jvm.staticLocs frame_1_statics s) 56 1216 → Post tb e args s (.returned v) u) :
    ArmFor flags0 classFile x code maxLocals ret World_1 tables_1 room_1 Calls_1 rest_1 Pre_1 Post := by
  intro l hfl _ _ p e ha hc hk s m args below hf hA hF happ hP
  obtain ⟨hcalls, hrest, hpre⟩ := hP
  obtain ⟨-, -, -, hnamed, -, -, -, hat⟩ := (Spec.applies_iff hf).mp happ
  obtain ⟨hg, hn⟩ := and_e (Cond.before_iff.mp (show (Jvm.Cond.and given_1 narrow_1).before args s = true from hpre))
  obtain ⟨g1, g2⟩ := and_e hg
  obtain ⟨g3, g4⟩ := and_e g2
  obtain ⟨g5, g6⟩ := and_e g4
  obtain ⟨g7, g8⟩ := and_e g6
  obtain ⟨g9, g10⟩ := and_e g8
  obtain ⟨g11, g12⟩ := and_e g10
  obtain ⟨w0, w1, w2, w3, w4, w5, rfl⟩ : ∃ w0 w1 w2 w3 w4 w5 : Value, args = #[w0, w1, w2, w3, w4, w5] := by
    have hs : args.size = 6 := by simpa [Cond.value, given_1] using g1
    obtain ⟨L⟩ := args
    match L, hs with
    | [w0, w1, w2, w3, w4, w5], _ => exact ⟨w0, w1, w2, w3, w4, w5, rfl⟩
  have hw := fun d (hd : d ∈ tables_1) => atoms_spec (ws := Jvm.Cond.code x code maxLocals ret :: tables_1) hat d (List.mem_cons_of_mem _ hd)
  obtain ⟨hsets, hown0⟩ := atoms_of _ (rest_1_c_eq ▸ (show rest_1_c.before _ s = true from hrest))
  obtain ⟨i0, ei0⟩ := isL_v g3
  obtain rfl : w0 = (.long i0) := Option.some.inj ei0
  obtain ⟨i1, ei1⟩ := isL_v g5
  obtain rfl : w1 = (.long i1) := Option.some.inj ei1
  obtain ⟨i2, ei2⟩ := is_v g7
  obtain rfl : w2 = (.int i2) := Option.some.inj ei2
  obtain ⟨i3, ei3⟩ := is_v g9
  obtain rfl : w3 = (.int i3) := Option.some.inj ei3
  obtain ⟨i4, ei4⟩ := is_v g11
  obtain rfl : w4 = (.int i4) := Option.some.inj ei4
  obtain ⟨i5, ei5⟩ := is_v g12
  obtain rfl : w5 = (.int i5) := Option.some.inj ei5
  obtain ⟨G1, eG⟩ := is_v (Cond.before_iff.mp (hsets _ (List.mem_of_getElem? (i := 1) rfl)))
  have S1 : Sta s s.heap "java/lang/String" "COMPACT_STRINGS" "Z" (.int G1) := Sta.start eG (Or.inl (hsets _ (List.mem_of_getElem? (i := 0) rfl)))
  have hcw := hsets _ (List.mem_of_getElem? (i := 2) rfl)
  have P1 : ¬ (G1 = (0 : Int32)) := gotF (Cond.eq_ints eG (Term.int_eval (0))) (not_v (Cond.before_iff.mp hcw))
  have hEL : EW s #[(.long i0), (.long i1), (.int i2), (.int i3), (.int i4), (.int i5)] consts_1 := (EW.cons (hw _ (List.mem_of_getElem? (i := 36) rfl)) (by decide +kernel) EW.nil)
  have hX : Ctx s _ G1 := ⟨hw, S1, P1, hEL⟩
  have hc1 : (∀ q ∈ consts_1, Jvm.Lit.constHeld s q.1 q.2) ∧ True := hcalls
  have hCH : CHv s consts_1 s.vm s.heap := CHv.start hEL hc1.1 hcw (hw _ (List.mem_of_getElem? (i := 25) rfl)) (hw _ (List.mem_of_getElem? (i := 7) rfl))
  obtain ⟨n, o, h1, h2, h3, _, L, rfl, ⟨rfl, N, -⟩, -, hq⟩ := c_law (l := l) hX i0 i1 i2 i3 i4 i5 s.heap ⟨Nat.le_refl _, fun _ _ q => q⟩ p e ha hc hk s m _ below hf ((Spec.applies_iff_loose hf).mp happ).1 ⟨rfl, State.Warmed39.refl s, rfl, hCH⟩ trivial
  refine ⟨n, _, h1, h2, h3, hpost _ _ _ _ _ _ ⟨Cond.after_iff.mpr rfl, Cond.after_iff.mpr (eq_i res_at (Term.int_eval (1)) rfl), trivial⟩ ⟨hq.1, hq.2.1, hq.2.2.1, (hq.2.2.2.sift fun y hy => Or.inr (N y hy)).mono (by decide) (by decide)⟩⟩
theorem main_1_1 : Claimed_1_1 := comes_1 fun _ _ _ _ _ _ h hF => ⟨h.1, hF⟩
theorem main_1_2 : Claimed_1_2 := comes_1 fun _ _ _ _ _ _ h hF => ⟨h.2.1, hF⟩
end Jvm.Pilot.@@N@@
namespace Jvm.Pilot.@@N@@
open Jvm Jvm.ClassFile Sem Op Lib Jvm.Free Jvm.Stand Jvm.Pilot.@@N@@.Jvm.D
/-! MADE BY PROGRAM (witnessworld.py) out of the Statement's table words and the real class files: 21 classes; the members and pool entries that the words name. The judged class is class 1, her method 3. -/
namespace start1
open Jvm.ClassFile
def u (s : String) : CpInfo := .utf8 (stringToUtf16 s)
/-- a pool by its gaps: so many unusable entries, then the entry; so many at the end -/
def gap : Nat → List CpInfo → List CpInfo
  | 0, r => r
  | n + 1, r => .unusable :: gap n r
def poolList (es : List (Nat × CpInfo)) (last : Nat) : List CpInfo := es.foldr (fun e r => gap e.1 (e.2 :: r)) (gap last [])
def pool (es : List (Nat × CpInfo)) (last : Nat) : Array CpInfo := ⟨poolList es last⟩
def fileOf (pool : Array CpInfo) (this : Nat) (attrs : Array Attribute := #[]) (ms : Array MethodInfo := #[]) (fl : Nat := 33) (sup : Nat := 0) (ifs : Array Nat := #[]) (fds : Array FieldInfo := #[]) : ClassFile where
  minorVersion := 0
  majorVersion := 65
  constantPool := pool
  accessFlags := fl
  thisClass := this
  superClass := sup
  interfaces := ifs
  fields := fds
  methods := ms
  attributes := attrs
def plain (name : String) (sup : Option ClassId) : Class where
  name := name
  kind := .ordinary
  loader := none
  accessFlags := 33
  super := sup
  interfaces := #[]
  cf := none
  fields := #[]
  methods := #[]
  instanceTypes := #[]
  staticTypes := #[]
  resolved := #[]
  callSites := []
  init := .initialized
  statics := none
  mirror := none

def pool0 : Array CpInfo := pool [(5, u "<init>"), (0, u "()V"), (1, .class_ 10), (1, u "java/lang/Object")] 113

def k0c0 : Code := { maxStack := 0, maxLocals := 1, code := object_method_1_code, exceptionTable := #[], attributes := #[] }
def k0m0 : Method := { name := "<init>", desc := "()V", sig := { parameters := [], returnType := none }, accessFlags := 1, code := some k0c0 }
/-- java/lang/Object -/
def k0 : Class := { plain "java/lang/Object" none with
  accessFlags := 33
  interfaces := #[]
  cf := some (fileOf pool0 8 #[] #[{ accessFlags := 1, nameIndex := 5, descriptorIndex := 6, attributes := #[] }] 33 0 #[] #[])
  fields := #[]
  methods := #[k0m0]
  instanceTypes := #[]
  staticTypes := #[]
  resolved := Array.replicate 124 none
  statics := none }

def pool1 : Array CpInfo := pool [(2, .class_ 4), (1, u "java/lang/Object"), (0, u "<init>"), (0, u "()V"), (0, .long 262143), (1, .class_ 10), (0, u "java/lang/String"), (0, .methodref 9 12), (0, .nameAndType 5 13), (0, u "([C)V"), (0, .methodref 15 16), (0, .class_ 17), (0, .nameAndType 18 19), (0, u "java/lang/Math"), (0, u "min"), (0, u "(II)I"), (0, .long 1023), (1, .methodref 23 24), (0, .class_ 25), (0, .nameAndType 26 27), (0, u "com/example/moderato/moderato/client/TextHitEqualsPinLaw"), (0, u "str"), (0, u "(JI)Ljava/lang/String;"), (0, .methodref 23 29), (0, .nameAndType 30 31), (0, u "sameStr"), (0, u "(JJI)Z"), (0, .class_ 33), (0, u "com/example/moderato/moderato/client/TextHit"), (0, .methodref 32 35), (0, .nameAndType 5 36), (0, u "(Ljava/lang/String;Ljava/lang/String;Ljava/lang/String;II)V"), (0, .methodref 32 38), (0, .nameAndType 39 40), (0, u "equals"), (0, u "(Ljava/lang/Object;)Z"), (3, u "law"), (0, u "(JJIIII)Z")] 2

def k1m0 : Method := { name := "<init>", desc := "()V", sig := { parameters := [], returnType := none }, accessFlags := 2, code := none }
def k1c1 : Code := { maxStack := 6, maxLocals := 7, code := method_2_code, exceptionTable := #[], attributes := #[] }
def k1m1 : Method := { name := "str", desc := "(JI)Ljava/lang/String;", sig := { parameters := [.long, .int], returnType := some (.object "java/lang/String") }, accessFlags := 10, code := some k1c1 }
def k1c2 : Code := { maxStack := 4, maxLocals := 13, code := method_3_code, exceptionTable := #[], attributes := #[] }
def k1m2 : Method := { name := "sameStr", desc := "(JJI)Z", sig := { parameters := [.long, .long, .int], returnType := some .boolean }, accessFlags := 10, code := some k1c2 }
def k1c3 : Code := { maxStack := 7, maxLocals := 29, code := code, exceptionTable := #[], attributes := #[] }
def k1m3 : Method := { name := "law", desc := "(JJIIII)Z", sig := { parameters := [.long, .long, .int, .int, .int, .int], returnType := some .boolean }, accessFlags := 9, code := some k1c3 }
/-- com/example/moderato/moderato/client/TextHitEqualsPinLaw -/
def k1 : Class := { plain "com/example/moderato/moderato/client/TextHitEqualsPinLaw" (some 0) with
  accessFlags := 49
  interfaces := #[]
  cf := some (fileOf pool1 23 #[] #[{ accessFlags := 2, nameIndex := 5, descriptorIndex := 6, attributes := #[] }, { accessFlags := 10, nameIndex := 26, descriptorIndex := 27, attributes := #[] }, { accessFlags := 10, nameIndex := 30, descriptorIndex := 31, attributes := #[] }, { accessFlags := 9, nameIndex := 44, descriptorIndex := 45, attributes := #[] }] 49 2 #[] #[])
  fields := #[]
  methods := #[k1m0, k1m1, k1m2, k1m3]
  instanceTypes := #[]
  staticTypes := #[]
  resolved := Array.replicate 48 none
  statics := none }

def pool2 : Array CpInfo := pool [(1, .class_ 2), (0, u "java/io/Serializable"), (0, .class_ 4), (0, u "java/lang/Object")] 2

/-- java/io/Serializable -/
def k2 : Class := { plain "java/io/Serializable" (some 0) with
  accessFlags := 1537
  interfaces := #[]
  cf := some (fileOf pool2 1 #[] #[] 1537 3 #[] #[])
  fields := #[]
  methods := #[]
  instanceTypes := #[]
  staticTypes := #[]
  resolved := Array.replicate 7 none
  statics := none }

def pool3 : Array CpInfo := pool [(1, .class_ 2), (0, u "java/lang/Comparable"), (0, .class_ 4), (0, u "java/lang/Object")] 7

/-- java/lang/Comparable -/
def k3 : Class := { plain "java/lang/Comparable" (some 0) with
  accessFlags := 1537
  interfaces := #[]
  cf := some (fileOf pool3 1 #[] #[] 1537 3 #[] #[])
  fields := #[]
  methods := #[]
  instanceTypes := #[]
  staticTypes := #[]
  resolved := Array.replicate 12 none
  statics := none }

def pool4 : Array CpInfo := pool [(2, .class_ 4), (1, u "java/lang/CharSequence"), (42, .class_ 48), (0, u "java/lang/CharSequence$1CodePointIterator"), (10, .class_ 60), (0, u "java/lang/CharSequence$1CharIterator"), (5, .class_ 67), (0, u "java/lang/Object")] 63

/-- java/lang/CharSequence -/
def k4 : Class := { plain "java/lang/CharSequence" (some 0) with
  accessFlags := 1537
  interfaces := #[]
  cf := some (fileOf pool4 2 #[.nestMembers #[47, 59]] #[] 1537 66 #[] #[])
  fields := #[]
  methods := #[]
  instanceTypes := #[]
  staticTypes := #[]
  resolved := Array.replicate 131 none
  statics := none }

def pool5 : Array CpInfo := pool [(1, .class_ 2), (0, u "java/lang/constant/Constable"), (0, .class_ 4), (0, u "java/lang/Object")] 6

/-- java/lang/constant/Constable -/
def k5 : Class := { plain "java/lang/constant/Constable" (some 0) with
  accessFlags := 1537
  interfaces := #[]
  cf := some (fileOf pool5 1 #[] #[] 1537 3 #[] #[])
  fields := #[]
  methods := #[]
  instanceTypes := #[]
  staticTypes := #[]
  resolved := Array.replicate 11 none
  statics := none }

def pool6 : Array CpInfo := pool [(1, .class_ 2), (0, u "java/lang/constant/ConstantDesc"), (0, .class_ 4), (0, u "java/lang/Object")] 32

/-- java/lang/constant/ConstantDesc -/
def k6 : Class := { plain "java/lang/constant/ConstantDesc" (some 0) with
  accessFlags := 1537
  interfaces := #[]
  cf := some (fileOf pool6 1 #[] #[] 1537 3 #[] #[])
  fields := #[]
  methods := #[]
  instanceTypes := #[]
  staticTypes := #[]
  resolved := Array.replicate 37 none
  statics := none }

def pool7 : Array CpInfo := pool [(1, .methodref 2 3), (0, .class_ 4), (0, .nameAndType 5 6), (0, u "java/lang/Object"), (0, u "<init>"), (0, u "()V"), (0, .string 8), (0, u ""), (0, .fieldref 10 11), (0, .class_ 12), (0, .nameAndType 13 14), (0, u "java/lang/String"), (0, u "value"), (0, u "[B"), (0, .fieldref 10 16), (0, .nameAndType 17 18), (0, u "coder"), (0, u "B"), (2, u "hash"), (0, u "I"), (2, u "hashIsZero"), (0, u "Z"), (0, .methodref 10 28), (0, .nameAndType 5 29), (0, u "([CIILjava/lang/Void;)V"), (8, .fieldref 10 39), (0, .nameAndType 40 26), (0, u "COMPACT_STRINGS"), (1, .class_ 44), (1, u "java/lang/StringUTF16"), (0, u "compress"), (1, .methodref 42 48), (0, .nameAndType 49 50), (0, u "coderFromArrayLen"), (0, u "([BI)B"), (56, .class_ 109), (1, u "java/lang/StringLatin1"), (67, .methodref 42 178), (0, .nameAndType 45 179), (0, u "([CII)[B"), (361, .methodref 107 542), (0, .nameAndType 543 544), (0, u "equals"), (0, u "([B[B)Z"), (28, u "(Ljava/lang/Object;)Z"), (1, .class_ 576), (0, u "java/lang/CharSequence"), (22, u "CASE_INSENSITIVE_ORDER"), (0, u "Ljava/util/Comparator;"), (409, u "([C)V"), (90, u "serialPersistentFields"), (0, u "[Ljava/io/ObjectStreamField;"), (0, .class_ 1104), (0, u "java/lang/String$CaseInsensitiveComparator"), (1, .class_ 1107), (0, u "java/io/Serializable"), (0, .class_ 1109), (0, u "java/lang/Comparable"), (0, .class_ 1111), (0, u "java/lang/constant/Constable"), (0, .class_ 1113), (0, u "java/lang/constant/ConstantDesc"), (2, u "serialVersionUID"), (0, u "J"), (3, u "REPL"), (0, u "C"), (2, u "LATIN1"), (1, u "UTF16")] 323

def k7m0 : Method := { name := "<init>", desc := "()V", sig := { parameters := [], returnType := none }, accessFlags := 1, code := none }
def k7c1 : Code := { maxStack := 5, maxLocals := 2, code := jdk_42_method_3_code, exceptionTable := #[], attributes := #[] }
def k7m1 : Method := { name := "<init>", desc := "([C)V", sig := { parameters := [(.array .char)], returnType := none }, accessFlags := 1, code := some k7c1 }
def k7c2 : Code := { maxStack := 2, maxLocals := 3, code := jdk_42_method_66_code, exceptionTable := #[], attributes := #[] }
def k7m2 : Method := { name := "equals", desc := "(Ljava/lang/Object;)Z", sig := { parameters := [(.object "java/lang/Object")], returnType := some .boolean }, accessFlags := 1, code := some k7c2 }
def k7c3 : Code := { maxStack := 4, maxLocals := 6, code := jdk_42_method_149_code, exceptionTable := #[], attributes := #[] }
def k7m3 : Method := { name := "<init>", desc := "([CIILjava/lang/Void;)V", sig := { parameters := [(.array .char), .int, .int, (.object "java/lang/Void")], returnType := none }, accessFlags := 2, code := some k7c3 }
/-- java/lang/String -/
def k7 : Class := { plain "java/lang/String" (some 0) with
  accessFlags := 49
  interfaces := #[2, 3, 4, 5, 6]
  cf := some (fileOf pool7 10 #[.nestMembers #[1103]] #[{ accessFlags := 1, nameIndex := 5, descriptorIndex := 6, attributes := #[] }, { accessFlags := 1, nameIndex := 5, descriptorIndex := 1010, attributes := #[] }, { accessFlags := 1, nameIndex := 543, descriptorIndex := 573, attributes := #[] }, { accessFlags := 2, nameIndex := 5, descriptorIndex := 29, attributes := #[] }] 49 2 #[1106, 1108, 575, 1110, 1112] #[{ accessFlags := 18, nameIndex := 13, descriptorIndex := 14, attributes := #[] }, { accessFlags := 18, nameIndex := 17, descriptorIndex := 18, attributes := #[] }, { accessFlags := 2, nameIndex := 21, descriptorIndex := 22, attributes := #[] }, { accessFlags := 2, nameIndex := 25, descriptorIndex := 26, attributes := #[] }, { accessFlags := 26, nameIndex := 1116, descriptorIndex := 1117, attributes := #[] }, { accessFlags := 24, nameIndex := 40, descriptorIndex := 26, attributes := #[] }, { accessFlags := 26, nameIndex := 1101, descriptorIndex := 1102, attributes := #[] }, { accessFlags := 26, nameIndex := 1121, descriptorIndex := 1122, attributes := #[] }, { accessFlags := 25, nameIndex := 599, descriptorIndex := 600, attributes := #[] }, { accessFlags := 24, nameIndex := 1125, descriptorIndex := 18, attributes := #[] }, { accessFlags := 24, nameIndex := 1127, descriptorIndex := 18, attributes := #[] }])
  fields := #[{ name := "value", type := (.array .byte), accessFlags := 18, slot := 0, constantValue := 0 }, { name := "coder", type := .byte, accessFlags := 18, slot := 1, constantValue := 0 }, { name := "hash", type := .int, accessFlags := 2, slot := 2, constantValue := 0 }, { name := "hashIsZero", type := .boolean, accessFlags := 2, slot := 3, constantValue := 0 }, { name := "serialVersionUID", type := .long, accessFlags := 26, slot := 0, constantValue := 0 }, { name := "COMPACT_STRINGS", type := .boolean, accessFlags := 24, slot := 1, constantValue := 0 }, { name := "serialPersistentFields", type := (.array (.object "java/io/ObjectStreamField")), accessFlags := 26, slot := 2, constantValue := 0 }, { name := "REPL", type := .char, accessFlags := 26, slot := 3, constantValue := 0 }, { name := "CASE_INSENSITIVE_ORDER", type := (.object "java/util/Comparator"), accessFlags := 25, slot := 4, constantValue := 0 }, { name := "LATIN1", type := .byte, accessFlags := 24, slot := 5, constantValue := 0 }, { name := "UTF16", type := .byte, accessFlags := 24, slot := 6, constantValue := 0 }]
  methods := #[k7m0, k7m1, k7m2, k7m3]
  instanceTypes := #[(.array .byte), .byte, .int, .boolean]
  staticTypes := #[.long, .boolean, (.array (.object "java/io/ObjectStreamField")), .char, (.object "java/util/Comparator"), .byte, .byte]
  resolved := Array.replicate 1451 none
  statics := some 0 }

def pool8 : Array CpInfo := pool [(6, .class_ 8), (1, u "java/lang/Object"), (0, u "<init>"), (0, u "()V"), (1, .class_ 14), (1, u "java/lang/StringUTF16"), (31, u "$assertionsDisabled"), (0, u "Z"), (13, u "HI_BYTE_SHIFT"), (0, u "I"), (2, u "LO_BYTE_SHIFT"), (49, .methodref 12 116), (0, .nameAndType 117 118), (0, u "compress"), (0, u "([CI[BII)I"), (3, u "([CII)[B"), (138, u "coderFromArrayLen"), (0, u "([BI)B"), (106, .class_ 371), (1, u "java/lang/StringUTF16$LinesSpliterator"), (58, u "MAX_LENGTH"), (196, .class_ 628), (0, u "java/lang/StringUTF16$CodePointsSpliterator"), (0, .class_ 630), (0, u "java/lang/StringUTF16$CharsSpliterator")] 4

def k8m0 : Method := { name := "<init>", desc := "()V", sig := { parameters := [], returnType := none }, accessFlags := 0, code := none }
def k8c1 : Code := { maxStack := 2, maxLocals := 2, code := jdk_52_method_15_code, exceptionTable := #[], attributes := #[] }
def k8m1 : Method := { name := "coderFromArrayLen", desc := "([BI)B", sig := { parameters := [(.array .byte), .int], returnType := some .byte }, accessFlags := 8, code := some k8c1 }
def k8c2 : Code := { maxStack := 5, maxLocals := 6, code := jdk_52_method_16_code, exceptionTable := #[], attributes := #[] }
def k8m2 : Method := { name := "compress", desc := "([CII)[B", sig := { parameters := [(.array .char), .int, .int], returnType := some (.array .byte) }, accessFlags := 9, code := some k8c2 }
def k8c3 : Code := { maxStack := 3, maxLocals := 7, code := jdk_52_method_21_code, exceptionTable := #[], attributes := #[] }
def k8m3 : Method := { name := "compress", desc := "([CI[BII)I", sig := { parameters := [(.array .char), .int, (.array .byte), .int, .int], returnType := some .int }, accessFlags := 9, code := some k8c3 }
/-- java/lang/StringUTF16 -/
def k8 : Class := { plain "java/lang/StringUTF16" (some 0) with
  accessFlags := 48
  interfaces := #[]
  cf := some (fileOf pool8 12 #[.nestMembers #[627, 629, 369]] #[{ accessFlags := 0, nameIndex := 9, descriptorIndex := 10, attributes := #[] }, { accessFlags := 8, nameIndex := 261, descriptorIndex := 262, attributes := #[] }, { accessFlags := 9, nameIndex := 117, descriptorIndex := 122, attributes := #[] }, { accessFlags := 9, nameIndex := 117, descriptorIndex := 118, attributes := #[] }] 48 6 #[] #[{ accessFlags := 26, nameIndex := 61, descriptorIndex := 62, attributes := #[] }, { accessFlags := 26, nameIndex := 65, descriptorIndex := 62, attributes := #[] }, { accessFlags := 24, nameIndex := 430, descriptorIndex := 62, attributes := #[] }, { accessFlags := 4120, nameIndex := 46, descriptorIndex := 47, attributes := #[] }])
  fields := #[{ name := "HI_BYTE_SHIFT", type := .int, accessFlags := 26, slot := 0, constantValue := 0 }, { name := "LO_BYTE_SHIFT", type := .int, accessFlags := 26, slot := 1, constantValue := 0 }, { name := "MAX_LENGTH", type := .int, accessFlags := 24, slot := 2, constantValue := 0 }, { name := "$assertionsDisabled", type := .boolean, accessFlags := 4120, slot := 3, constantValue := 0 }]
  methods := #[k8m0, k8m1, k8m2, k8m3]
  instanceTypes := #[]
  staticTypes := #[.int, .int, .int, .boolean]
  resolved := Array.replicate 635 none
  statics := none }

def pool9 : Array CpInfo := pool [(1, .class_ 2), (0, u "java/lang/Math"), (1, .class_ 6), (1, u "java/lang/Object"), (0, u "<init>"), (0, u "()V"), (89, .class_ 100), (1, u "java/lang/Math$RandomNumberGeneratorHolder"), (71, u "negativeZeroFloatBits"), (0, u "J"), (2, u "negativeZeroDoubleBits"), (24, u "min"), (43, u "$assertionsDisabled"), (0, u "Z"), (88, u "(II)I"), (2, u "twoToTheDoubleScaleDown"), (0, u "D"), (4, u "twoToTheDoubleScaleUp"), (9, u "E"), (3, u "PI"), (2, u "TAU"), (2, u "DEGREES_TO_RADIANS"), (0, u "RADIANS_TO_DEGREES")] 94

def k9m0 : Method := { name := "<init>", desc := "()V", sig := { parameters := [], returnType := none }, accessFlags := 2, code := none }
def k9c1 : Code := { maxStack := 2, maxLocals := 2, code := jdk_29_method_69_code, exceptionTable := #[], attributes := #[] }
def k9m1 : Method := { name := "min", desc := "(II)I", sig := { parameters := [.int, .int], returnType := some .int }, accessFlags := 9, code := some k9c1 }
/-- java/lang/Math -/
def k9 : Class := { plain "java/lang/Math" (some 0) with
  accessFlags := 49
  interfaces := #[]
  cf := some (fileOf pool9 1 #[.nestMembers #[98]] #[{ accessFlags := 2, nameIndex := 7, descriptorIndex := 8, attributes := #[] }, { accessFlags := 9, nameIndex := 201, descriptorIndex := 335, attributes := #[] }] 49 4 #[] #[{ accessFlags := 25, nameIndex := 354, descriptorIndex := 339, attributes := #[] }, { accessFlags := 25, nameIndex := 358, descriptorIndex := 339, attributes := #[] }, { accessFlags := 25, nameIndex := 361, descriptorIndex := 339, attributes := #[] }, { accessFlags := 26, nameIndex := 364, descriptorIndex := 339, attributes := #[] }, { accessFlags := 26, nameIndex := 365, descriptorIndex := 339, attributes := #[] }, { accessFlags := 26, nameIndex := 172, descriptorIndex := 173, attributes := #[] }, { accessFlags := 26, nameIndex := 176, descriptorIndex := 173, attributes := #[] }, { accessFlags := 8, nameIndex := 344, descriptorIndex := 339, attributes := #[] }, { accessFlags := 8, nameIndex := 338, descriptorIndex := 339, attributes := #[] }, { accessFlags := 4120, nameIndex := 245, descriptorIndex := 246, attributes := #[] }])
  fields := #[{ name := "E", type := .double, accessFlags := 25, slot := 0, constantValue := 0 }, { name := "PI", type := .double, accessFlags := 25, slot := 1, constantValue := 0 }, { name := "TAU", type := .double, accessFlags := 25, slot := 2, constantValue := 0 }, { name := "DEGREES_TO_RADIANS", type := .double, accessFlags := 26, slot := 3, constantValue := 0 }, { name := "RADIANS_TO_DEGREES", type := .double, accessFlags := 26, slot := 4, constantValue := 0 }, { name := "negativeZeroFloatBits", type := .long, accessFlags := 26, slot := 5, constantValue := 0 }, { name := "negativeZeroDoubleBits", type := .long, accessFlags := 26, slot := 6, constantValue := 0 }, { name := "twoToTheDoubleScaleUp", type := .double, accessFlags := 8, slot := 7, constantValue := 0 }, { name := "twoToTheDoubleScaleDown", type := .double, accessFlags := 8, slot := 8, constantValue := 0 }, { name := "$assertionsDisabled", type := .boolean, accessFlags := 4120, slot := 9, constantValue := 0 }]
  methods := #[k9m0, k9m1]
  instanceTypes := #[]
  staticTypes := #[.double, .double, .double, .double, .double, .long, .long, .double, .double, .boolean]
  resolved := Array.replicate 460 none
  statics := none }

def pool10 : Array CpInfo := pool [(1, .methodref 2 3), (0, .class_ 4), (0, .nameAndType 5 6), (0, u "java/lang/Object"), (0, u "<init>"), (0, u "()V"), (0, .fieldref 8 9), (0, .class_ 10), (0, .nameAndType 11 12), (0, u "com/example/moderato/moderato/client/TextHit"), (0, u "word"), (0, u "Ljava/lang/String;"), (0, .fieldref 8 14), (0, .nameAndType 15 12), (0, u "list"), (0, .fieldref 8 17), (0, .nameAndType 18 12), (0, u "label"), (0, .fieldref 8 20), (0, .nameAndType 21 22), (0, u "start"), (0, u "I"), (0, .fieldref 8 24), (0, .nameAndType 25 22), (0, u "end"), (0, .methodref 27 28), (0, .class_ 29), (0, .nameAndType 30 31), (0, u "java/lang/String"), (0, u "equals"), (0, u "(Ljava/lang/Object;)Z"), (16, u "(Ljava/lang/String;Ljava/lang/String;Ljava/lang/String;II)V")] 24

def k10c0 : Code := { maxStack := 2, maxLocals := 6, code := prog_16_method_1_code, exceptionTable := #[], attributes := #[] }
def k10m0 : Method := { name := "<init>", desc := "(Ljava/lang/String;Ljava/lang/String;Ljava/lang/String;II)V", sig := { parameters := [(.object "java/lang/String"), (.object "java/lang/String"), (.object "java/lang/String"), .int, .int], returnType := none }, accessFlags := 1, code := some k10c0 }
def k10c1 : Code := { maxStack := 2, maxLocals := 3, code := prog_16_method_7_code, exceptionTable := #[], attributes := #[] }
def k10m1 : Method := { name := "equals", desc := "(Ljava/lang/Object;)Z", sig := { parameters := [(.object "java/lang/Object")], returnType := some .boolean }, accessFlags := 1, code := some k10c1 }
/-- com/example/moderato/moderato/client/TextHit -/
def k10 : Class := { plain "com/example/moderato/moderato/client/TextHit" (some 0) with
  accessFlags := 49
  interfaces := #[]
  cf := some (fileOf pool10 8 #[] #[{ accessFlags := 1, nameIndex := 5, descriptorIndex := 48, attributes := #[] }, { accessFlags := 1, nameIndex := 30, descriptorIndex := 31, attributes := #[] }] 49 2 #[] #[{ accessFlags := 18, nameIndex := 11, descriptorIndex := 12, attributes := #[] }, { accessFlags := 18, nameIndex := 15, descriptorIndex := 12, attributes := #[] }, { accessFlags := 18, nameIndex := 18, descriptorIndex := 12, attributes := #[] }, { accessFlags := 18, nameIndex := 21, descriptorIndex := 22, attributes := #[] }, { accessFlags := 18, nameIndex := 25, descriptorIndex := 22, attributes := #[] }])
  fields := #[{ name := "word", type := (.object "java/lang/String"), accessFlags := 18, slot := 0, constantValue := 0 }, { name := "list", type := (.object "java/lang/String"), accessFlags := 18, slot := 1, constantValue := 0 }, { name := "label", type := (.object "java/lang/String"), accessFlags := 18, slot := 2, constantValue := 0 }, { name := "start", type := .int, accessFlags := 18, slot := 3, constantValue := 0 }, { name := "end", type := .int, accessFlags := 18, slot := 4, constantValue := 0 }]
  methods := #[k10m0, k10m1]
  instanceTypes := #[(.object "java/lang/String"), (.object "java/lang/String"), (.object "java/lang/String"), .int, .int]
  staticTypes := #[]
  resolved := Array.replicate 73 none
  statics := none }

def pool11 : Array CpInfo := pool [(4, .class_ 6), (1, u "java/lang/Object"), (0, u "<init>"), (0, u "()V"), (5, .class_ 16), (1, u "java/lang/StringLatin1"), (104, u "$assertionsDisabled"), (0, u "Z"), (98, .class_ 223), (1, u "java/lang/StringLatin1$LinesSpliterator"), (57, u "equals"), (0, u "([B[B)Z"), (107, .class_ 391), (0, u "java/lang/StringLatin1$CharsSpliterator")] 3

def k11m0 : Method := { name := "<init>", desc := "()V", sig := { parameters := [], returnType := none }, accessFlags := 0, code := none }
def k11c1 : Code := { maxStack := 3, maxLocals := 3, code := jdk_43_method_13_code, exceptionTable := #[], attributes := #[] }
def k11m1 : Method := { name := "equals", desc := "([B[B)Z", sig := { parameters := [(.array .byte), (.array .byte)], returnType := some .boolean }, accessFlags := 9, code := some k11c1 }
/-- java/lang/StringLatin1 -/
def k11 : Class := { plain "java/lang/StringLatin1" (some 0) with
  accessFlags := 48
  interfaces := #[]
  cf := some (fileOf pool11 14 #[.nestMembers #[390, 221]] #[{ accessFlags := 0, nameIndex := 7, descriptorIndex := 8, attributes := #[] }, { accessFlags := 9, nameIndex := 281, descriptorIndex := 282, attributes := #[] }] 48 4 #[] #[{ accessFlags := 4120, nameIndex := 121, descriptorIndex := 122, attributes := #[] }])
  fields := #[{ name := "$assertionsDisabled", type := .boolean, accessFlags := 4120, slot := 0, constantValue := 0 }]
  methods := #[k11m0, k11m1]
  instanceTypes := #[]
  staticTypes := #[.boolean]
  resolved := Array.replicate 395 none
  statics := none }

def pool12 : Array CpInfo := pool [(2, .class_ 4), (1, u "java/lang/Object"), (0, u "<init>"), (0, u "()V"), (17, .class_ 26), (1, u "jdk/internal/util/Preconditions"), (28, .class_ 56), (0, u "jdk/internal/util/Preconditions$4"), (57, .class_ 115), (0, u "jdk/internal/util/Preconditions$1"), (7, u "SIOOBE_FORMATTER"), (0, u "Ljava/util/function/BiFunction;"), (0, .class_ 126), (0, u "jdk/internal/util/Preconditions$2"), (3, u "AIOOBE_FORMATTER"), (0, .class_ 132), (0, u "jdk/internal/util/Preconditions$3"), (3, u "IOOBE_FORMATTER")] 57

def k12m0 : Method := { name := "<init>", desc := "()V", sig := { parameters := [], returnType := none }, accessFlags := 1, code := none }
/-- jdk/internal/util/Preconditions -/
def k12 : Class := { plain "jdk/internal/util/Preconditions" (some 0) with
  accessFlags := 33
  interfaces := #[]
  cf := some (fileOf pool12 24 #[.nestMembers #[55, 131, 125, 114]] #[{ accessFlags := 1, nameIndex := 5, descriptorIndex := 6, attributes := #[] }] 33 2 #[] #[{ accessFlags := 25, nameIndex := 123, descriptorIndex := 124, attributes := #[] }, { accessFlags := 25, nameIndex := 130, descriptorIndex := 124, attributes := #[] }, { accessFlags := 25, nameIndex := 136, descriptorIndex := 124, attributes := #[] }])
  fields := #[{ name := "SIOOBE_FORMATTER", type := (.object "java/util/function/BiFunction"), accessFlags := 25, slot := 0, constantValue := 0 }, { name := "AIOOBE_FORMATTER", type := (.object "java/util/function/BiFunction"), accessFlags := 25, slot := 1, constantValue := 0 }, { name := "IOOBE_FORMATTER", type := (.object "java/util/function/BiFunction"), accessFlags := 25, slot := 2, constantValue := 0 }]
  methods := #[k12m0]
  instanceTypes := #[]
  staticTypes := #[(.object "java/util/function/BiFunction"), (.object "java/util/function/BiFunction"), (.object "java/util/function/BiFunction")]
  resolved := Array.replicate 194 none
  statics := some 1 }

def pool13 : Array CpInfo := pool [(9, u "<init>"), (6, .class_ 18), (1, u "java/lang/Object"), (0, u "()V"), (1, .class_ 23), (1, u "jdk/internal/util/ArraysSupport"), (0, u "LOG2_ARRAY_LONG_INDEX_SCALE"), (0, u "I"), (2, u "U"), (0, u "Ljdk/internal/misc/Unsafe;"), (8, u "BIG_ENDIAN"), (0, u "Z"), (8, u "LOG2_BYTE_BIT_SIZE"), (4, u "LOG2_ARRAY_INT_INDEX_SCALE"), (54, u "JLA"), (0, u "Ljdk/internal/access/JavaLangAccess;"), (11, u "LOG2_ARRAY_BOOLEAN_INDEX_SCALE"), (9, u "LOG2_ARRAY_BYTE_INDEX_SCALE"), (5, u "LOG2_ARRAY_CHAR_INDEX_SCALE"), (5, u "LOG2_ARRAY_SHORT_INDEX_SCALE"), (18, u "LOG2_ARRAY_FLOAT_INDEX_SCALE"), (24, u "LOG2_ARRAY_DOUBLE_INDEX_SCALE"), (89, u "T_BOOLEAN"), (2, u "T_CHAR"), (1, u "T_FLOAT"), (1, u "T_DOUBLE"), (1, u "T_BYTE"), (1, u "T_SHORT"), (1, u "T_INT"), (1, u "T_LONG"), (1, u "SOFT_MAX_ARRAY_LENGTH")] 83

def k13m0 : Method := { name := "<init>", desc := "()V", sig := { parameters := [], returnType := none }, accessFlags := 2, code := none }
/-- jdk/internal/util/ArraysSupport -/
def k13 : Class := { plain "jdk/internal/util/ArraysSupport" (some 0) with
  accessFlags := 33
  interfaces := #[]
  cf := some (fileOf pool13 21 #[] #[{ accessFlags := 2, nameIndex := 9, descriptorIndex := 19, attributes := #[] }] 33 16 #[] #[{ accessFlags := 24, nameIndex := 28, descriptorIndex := 29, attributes := #[] }, { accessFlags := 26, nameIndex := 38, descriptorIndex := 39, attributes := #[] }, { accessFlags := 25, nameIndex := 121, descriptorIndex := 25, attributes := #[] }, { accessFlags := 25, nameIndex := 131, descriptorIndex := 25, attributes := #[] }, { accessFlags := 25, nameIndex := 137, descriptorIndex := 25, attributes := #[] }, { accessFlags := 25, nameIndex := 143, descriptorIndex := 25, attributes := #[] }, { accessFlags := 25, nameIndex := 53, descriptorIndex := 25, attributes := #[] }, { accessFlags := 25, nameIndex := 24, descriptorIndex := 25, attributes := #[] }, { accessFlags := 25, nameIndex := 162, descriptorIndex := 25, attributes := #[] }, { accessFlags := 25, nameIndex := 187, descriptorIndex := 25, attributes := #[] }, { accessFlags := 26, nameIndex := 48, descriptorIndex := 25, attributes := #[] }, { accessFlags := 25, nameIndex := 277, descriptorIndex := 25, attributes := #[] }, { accessFlags := 25, nameIndex := 280, descriptorIndex := 25, attributes := #[] }, { accessFlags := 25, nameIndex := 282, descriptorIndex := 25, attributes := #[] }, { accessFlags := 25, nameIndex := 284, descriptorIndex := 25, attributes := #[] }, { accessFlags := 25, nameIndex := 286, descriptorIndex := 25, attributes := #[] }, { accessFlags := 25, nameIndex := 288, descriptorIndex := 25, attributes := #[] }, { accessFlags := 25, nameIndex := 290, descriptorIndex := 25, attributes := #[] }, { accessFlags := 25, nameIndex := 292, descriptorIndex := 25, attributes := #[] }, { accessFlags := 26, nameIndex := 108, descriptorIndex := 109, attributes := #[] }, { accessFlags := 25, nameIndex := 294, descriptorIndex := 25, attributes := #[] }])
  fields := #[{ name := "U", type := (.object "jdk/internal/misc/Unsafe"), accessFlags := 24, slot := 0, constantValue := 0 }, { name := "BIG_ENDIAN", type := .boolean, accessFlags := 26, slot := 1, constantValue := 0 }, { name := "LOG2_ARRAY_BOOLEAN_INDEX_SCALE", type := .int, accessFlags := 25, slot := 2, constantValue := 0 }, { name := "LOG2_ARRAY_BYTE_INDEX_SCALE", type := .int, accessFlags := 25, slot := 3, constantValue := 0 }, { name := "LOG2_ARRAY_CHAR_INDEX_SCALE", type := .int, accessFlags := 25, slot := 4, constantValue := 0 }, { name := "LOG2_ARRAY_SHORT_INDEX_SCALE", type := .int, accessFlags := 25, slot := 5, constantValue := 0 }, { name := "LOG2_ARRAY_INT_INDEX_SCALE", type := .int, accessFlags := 25, slot := 6, constantValue := 0 }, { name := "LOG2_ARRAY_LONG_INDEX_SCALE", type := .int, accessFlags := 25, slot := 7, constantValue := 0 }, { name := "LOG2_ARRAY_FLOAT_INDEX_SCALE", type := .int, accessFlags := 25, slot := 8, constantValue := 0 }, { name := "LOG2_ARRAY_DOUBLE_INDEX_SCALE", type := .int, accessFlags := 25, slot := 9, constantValue := 0 }, { name := "LOG2_BYTE_BIT_SIZE", type := .int, accessFlags := 26, slot := 10, constantValue := 0 }, { name := "T_BOOLEAN", type := .int, accessFlags := 25, slot := 11, constantValue := 0 }, { name := "T_CHAR", type := .int, accessFlags := 25, slot := 12, constantValue := 0 }, { name := "T_FLOAT", type := .int, accessFlags := 25, slot := 13, constantValue := 0 }, { name := "T_DOUBLE", type := .int, accessFlags := 25, slot := 14, constantValue := 0 }, { name := "T_BYTE", type := .int, accessFlags := 25, slot := 15, constantValue := 0 }, { name := "T_SHORT", type := .int, accessFlags := 25, slot := 16, constantValue := 0 }, { name := "T_INT", type := .int, accessFlags := 25, slot := 17, constantValue := 0 }, { name := "T_LONG", type := .int, accessFlags := 25, slot := 18, constantValue := 0 }, { name := "JLA", type := (.object "jdk/internal/access/JavaLangAccess"), accessFlags := 26, slot := 19, constantValue := 0 }, { name := "SOFT_MAX_ARRAY_LENGTH", type := .int, accessFlags := 25, slot := 20, constantValue := 0 }]
  methods := #[k13m0]
  instanceTypes := #[]
  staticTypes := #[(.object "jdk/internal/misc/Unsafe"), .boolean, .int, .int, .int, .int, .int, .int, .int, .int, .int, .int, .int, .int, .int, .int, .int, .int, .int, (.object "jdk/internal/access/JavaLangAccess"), .int]
  resolved := Array.replicate 378 none
  statics := none }

def pool14 : Array CpInfo := pool [(1, u "java/lang/Cloneable"), (0, .class_ 1), (0, u "java/lang/Object"), (0, .class_ 3)] 3

/-- java/lang/Cloneable -/
def k14 : Class := { plain "java/lang/Cloneable" (some 0) with
  accessFlags := 1537
  interfaces := #[]
  cf := some (fileOf pool14 2 #[] #[] 1537 4 #[] #[])
  fields := #[]
  methods := #[]
  instanceTypes := #[]
  staticTypes := #[]
  resolved := Array.replicate 8 none
  statics := none }

/-- the primitive byte -/
def k15 : Class := { plain "byte" none with kind := .primitive 'B', accessFlags := 0x411 }
/-- [B -/
def k16 : Class := { plain "[B" (some 0) with kind := .array 15 .byte, interfaces := #[14, 2], accessFlags := 1041 }

/-- the primitive char -/
def k17 : Class := { plain "char" none with kind := .primitive 'C', accessFlags := 0x411 }
/-- [C -/
def k18 : Class := { plain "[C" (some 0) with kind := .array 17 .char, interfaces := #[14, 2], accessFlags := 1041 }

/-- the primitive int -/
def k19 : Class := { plain "int" none with kind := .primitive 'I', accessFlags := 0x411 }
/-- [I -/
def k20 : Class := { plain "[I" (some 0) with kind := .array 19 .int, interfaces := #[14, 2], accessFlags := 1041 }

def heap : Heap := #[{ cls := 7, slots := #[.long 0, .int 1, .null, .int 0, .null, .int 0, .int 0], vm := .statics 7 },
  { cls := 12, slots := #[.null, .null, .null], vm := .statics 12 }]
def classes : Array Class := #[k0, k1, k2, k3, k4, k5, k6, k7, k8, k9, k10, k11, k12, k13, k14, k15, k16, k17, k18, k19, k20]
def interned : List (Array UInt16 × Addr) := []
def slotsUsed : Nat := 10
def theMethod : MethodId := ⟨1, 3⟩
def args0 : Array Value := #[.long 5, .long 5, .int 5, .int 5, .int 5, .int 5]
def aboutOver (below : List Frame) : State where
  vm := { classes := classes, interned := interned.toArray }
  heap := heap
  slotsUsed := slotsUsed
  threads := #[{ frames := .invoking theMethod args0 :: below }]
def below0 : List Frame := [.native { method := ⟨0, 0⟩, args := #[] }]
def about1 : State := aboutOver below0
def p0 : Program := .bare "" "" ""
def e0 : Env := launch0.env 0 0 0
theorem w_frames : about1.frames = Frame.invoking theMethod args0 :: below0 := rfl
set_option maxRecDepth 65536 in
theorem w_args : argsFit about1.vm theMethod args0 = true := by decide +kernel
set_option maxRecDepth 65536 in
theorem w_heap : heapFits about1 = true := by decide +kernel
set_option maxRecDepth 65536 in
theorem w_runnable : about1.curStatus? = some .runnable := by decide +kernel
set_option maxRecDepth 65536 in
theorem w_alone : about1.alone = true := by decide +kernel
set_option maxRecDepth 65536 in
theorem w_named : about1.methodNamed? x = some theMethod := by decide +kernel
set_option maxRecDepth 65536 in
theorem w_hears : about1.hears theMethod below0 = true := by decide +kernel
set_option maxRecDepth 65536 in
theorem w_ripe : about1.ripe theMethod args0 below0 = true := by decide +kernel
theorem w_running : about1.status = .running := rfl
set_option maxRecDepth 65536 in
theorem w_room : about1.hasRoom e0.platform room_1 = true :=
  launch0.hasRoom_least _ room_1 (by decide +kernel) (by decide +kernel) (by decide +kernel) (by decide +kernel) (by decide +kernel) (by decide +kernel)
theorem allAtoms_all (ts : List Jvm.Cond) (a : Array Jvm.Value) (st : Jvm.State) : (allAtoms ts).before a st = ts.all (fun c => c.before a st) := by
  induction ts with
  | nil => rfl
  | cons c t ih =>
    show (Jvm.Cond.and c (allAtoms t)).before a st = _
    rw [Jvm.Cond.before_and, ih, List.all_cons]
def words1 : List Jvm.Cond := Jvm.Cond.code x code maxLocals ret :: tables_1
/-- a 'code' word, met by the world's own term for the bytes: nothing is compared byte by byte -/
theorem code_word {y : MethodName} {bytes : ByteArray} {mx : Nat} {rt : Option FieldType} {a : Array Value} {s : State} {m : MethodId} {meth : Method} {c : Code} (h1 : s.methodNamed? y = some m) (h2 : s.vm.method? m = some meth) (h3 : meth.code = some c) (h4 : c.code = bytes)
    (h5 : (c.maxLocals == mx && c.exceptionTable.isEmpty && decide (c.maxStack ≤ mostOperands) && decide (meth.sig.returnType = rt) && !meth.locks && decide (parseMethodDescriptor y.desc = some meth.sig)) = true) : (Jvm.Cond.code y bytes mx rt).before a s = true := by
  simp only [Bool.and_eq_true, beq_iff_eq, Bool.not_eq_true', decide_eq_true_eq] at h5
  obtain ⟨⟨⟨⟨⟨g1, g2⟩, g3⟩, g4⟩, g5⟩, g6⟩ := h5
  simp [Cond.before, Cond.holds, Cond.value, h1, h2, h3, h4, g1, g2, g3, g4, g5, g6]
def isCode : Jvm.Cond → Bool
  | .code _ _ _ _ => true
  | _ => false
theorem all_split {L : List Jvm.Cond} {P : Jvm.Cond → Bool} (h1 : L.all (fun c => isCode c || P c) = true) (h2 : ∀ c ∈ L.filter isCode, P c = true) : L.all P = true := by
  refine List.all_eq_true.mpr fun c hc => ?_
  have h := List.all_eq_true.mp h1 c hc
  rcases Bool.eq_false_or_eq_true (isCode c) with hi | hi
  · exact h2 c (List.mem_filter.mpr ⟨hc, hi⟩)
  · simpa [hi] using h
set_option maxRecDepth 65536 in
theorem w_c0 : (Jvm.Cond.code x code maxLocals ret).before args0 about1 = true := code_word (m := ⟨1, 3⟩) (meth := k1m3) (c := k1c3) (by decide +kernel) rfl rfl rfl (by decide +kernel)
set_option maxRecDepth 65536 in
theorem w_c1 : (Jvm.Cond.code ({ cls := "com/example/moderato/moderato/client/TextHitEqualsPinLaw", name := "str", desc := "(JI)Ljava/lang/String;" } : Jvm.MethodName) method_2_code (7 : Nat) (Option.some (Jvm.ClassFile.FieldType.object "java/lang/String"))).before args0 about1 = true := code_word (m := ⟨1, 1⟩) (meth := k1m1) (c := k1c1) (by decide +kernel) rfl rfl rfl (by decide +kernel)
set_option maxRecDepth 65536 in
theorem w_c2 : (Jvm.Cond.code ({ cls := "java/lang/String", name := "<init>", desc := "([C)V" } : Jvm.MethodName) jdk_42_method_3_code (2 : Nat) (Option.none : Option Jvm.ClassFile.FieldType)).before args0 about1 = true := code_word (m := ⟨7, 1⟩) (meth := k7m1) (c := k7c1) (by decide +kernel) rfl rfl rfl (by decide +kernel)
set_option maxRecDepth 65536 in
theorem w_c3 : (Jvm.Cond.code ({ cls := "java/lang/String", name := "<init>", desc := "([CIILjava/lang/Void;)V" } : Jvm.MethodName) jdk_42_method_149_code (6 : Nat) (Option.none : Option Jvm.ClassFile.FieldType)).before args0 about1 = true := code_word (m := ⟨7, 3⟩) (meth := k7m3) (c := k7c3) (by decide +kernel) rfl rfl rfl (by decide +kernel)
set_option maxRecDepth 65536 in
theorem w_c4 : (Jvm.Cond.code ({ cls := "java/lang/Object", name := "<init>", desc := "()V" } : Jvm.MethodName) object_method_1_code (1 : Nat) (Option.none : Option Jvm.ClassFile.FieldType)).before args0 about1 = true := code_word (m := ⟨0, 0⟩) (meth := k0m0) (c := k0c0) (by decide +kernel) rfl rfl rfl (by decide +kernel)
set_option maxRecDepth 65536 in
theorem w_c5 : (Jvm.Cond.code ({ cls := "java/lang/StringUTF16", name := "compress", desc := "([CII)[B" } : Jvm.MethodName) jdk_52_method_16_code (6 : Nat) (Option.some (Jvm.ClassFile.FieldType.array Jvm.ClassFile.FieldType.byte))).before args0 about1 = true := code_word (m := ⟨8, 2⟩) (meth := k8m2) (c := k8c2) (by decide +kernel) rfl rfl rfl (by decide +kernel)
set_option maxRecDepth 65536 in
theorem w_c6 : (Jvm.Cond.code ({ cls := "java/lang/StringUTF16", name := "compress", desc := "([CI[BII)I" } : Jvm.MethodName) jdk_52_method_21_code (7 : Nat) (Option.some Jvm.ClassFile.FieldType.int)).before args0 about1 = true := code_word (m := ⟨8, 3⟩) (meth := k8m3) (c := k8c3) (by decide +kernel) rfl rfl rfl (by decide +kernel)
set_option maxRecDepth 65536 in
theorem w_c7 : (Jvm.Cond.code ({ cls := "java/lang/StringUTF16", name := "coderFromArrayLen", desc := "([BI)B" } : Jvm.MethodName) jdk_52_method_15_code (2 : Nat) (Option.some Jvm.ClassFile.FieldType.byte)).before args0 about1 = true := code_word (m := ⟨8, 1⟩) (meth := k8m1) (c := k8c1) (by decide +kernel) rfl rfl rfl (by decide +kernel)
set_option maxRecDepth 65536 in
theorem w_c8 : (Jvm.Cond.code ({ cls := "com/example/moderato/moderato/client/TextHitEqualsPinLaw", name := "sameStr", desc := "(JJI)Z" } : Jvm.MethodName) method_3_code (13 : Nat) (Option.some Jvm.ClassFile.FieldType.boolean)).before args0 about1 = true := code_word (m := ⟨1, 2⟩) (meth := k1m2) (c := k1c2) (by decide +kernel) rfl rfl rfl (by decide +kernel)
set_option maxRecDepth 65536 in
theorem w_c9 : (Jvm.Cond.code ({ cls := "java/lang/Math", name := "min", desc := "(II)I" } : Jvm.MethodName) jdk_29_method_69_code (2 : Nat) (Option.some Jvm.ClassFile.FieldType.int)).before args0 about1 = true := code_word (m := ⟨9, 1⟩) (meth := k9m1) (c := k9c1) (by decide +kernel) rfl rfl rfl (by decide +kernel)
set_option maxRecDepth 65536 in
theorem w_c10 : (Jvm.Cond.code ({ cls := "com/example/moderato/moderato/client/TextHit", name := "<init>", desc := "(Ljava/lang/String;Ljava/lang/String;Ljava/lang/String;II)V" } : Jvm.MethodName) prog_16_method_1_code (6 : Nat) (Option.none : Option Jvm.ClassFile.FieldType)).before args0 about1 = true := code_word (m := ⟨10, 0⟩) (meth := k10m0) (c := k10c0) (by decide +kernel) rfl rfl rfl (by decide +kernel)
set_option maxRecDepth 65536 in
theorem w_c11 : (Jvm.Cond.code ({ cls := "com/example/moderato/moderato/client/TextHit", name := "equals", desc := "(Ljava/lang/Object;)Z" } : Jvm.MethodName) prog_16_method_7_code (3 : Nat) (Option.some Jvm.ClassFile.FieldType.boolean)).before args0 about1 = true := code_word (m := ⟨10, 1⟩) (meth := k10m1) (c := k10c1) (by decide +kernel) rfl rfl rfl (by decide +kernel)
set_option maxRecDepth 65536 in
theorem w_c12 : (Jvm.Cond.code ({ cls := "java/lang/String", name := "equals", desc := "(Ljava/lang/Object;)Z" } : Jvm.MethodName) jdk_42_method_66_code (3 : Nat) (Option.some Jvm.ClassFile.FieldType.boolean)).before args0 about1 = true := code_word (m := ⟨7, 2⟩) (meth := k7m2) (c := k7c2) (by decide +kernel) rfl rfl rfl (by decide +kernel)
set_option maxRecDepth 65536 in
theorem w_c13 : (Jvm.Cond.code ({ cls := "java/lang/StringLatin1", name := "equals", desc := "([B[B)Z" } : Jvm.MethodName) jdk_43_method_13_code (3 : Nat) (Option.some Jvm.ClassFile.FieldType.boolean)).before args0 about1 = true := code_word (m := ⟨11, 1⟩) (meth := k11m1) (c := k11c1) (by decide +kernel) rfl rfl rfl (by decide +kernel)
def codes1 : List Jvm.Cond := [Jvm.Cond.code x code maxLocals ret, Jvm.Cond.code ({ cls := "com/example/moderato/moderato/client/TextHitEqualsPinLaw", name := "str", desc := "(JI)Ljava/lang/String;" } : Jvm.MethodName) method_2_code (7 : Nat) (Option.some (Jvm.ClassFile.FieldType.object "java/lang/String")), Jvm.Cond.code ({ cls := "java/lang/String", name := "<init>", desc := "([C)V" } : Jvm.MethodName) jdk_42_method_3_code (2 : Nat) (Option.none : Option Jvm.ClassFile.FieldType), Jvm.Cond.code ({ cls := "java/lang/String", name := "<init>", desc := "([CIILjava/lang/Void;)V" } : Jvm.MethodName) jdk_42_method_149_code (6 : Nat) (Option.none : Option Jvm.ClassFile.FieldType), Jvm.Cond.code ({ cls := "java/lang/Object", name := "<init>", desc := "()V" } : Jvm.MethodName) object_method_1_code (1 : Nat) (Option.none : Option Jvm.ClassFile.FieldType), Jvm.Cond.code ({ cls := "java/lang/StringUTF16", name := "compress", desc := "([CII)[B" } : Jvm.MethodName) jdk_52_method_16_code (6 : Nat) (Option.some (Jvm.ClassFile.FieldType.array Jvm.ClassFile.FieldType.byte)), Jvm.Cond.code ({ cls := "java/lang/StringUTF16", name := "compress", desc := "([CI[BII)I" } : Jvm.MethodName) jdk_52_method_21_code (7 : Nat) (Option.some Jvm.ClassFile.FieldType.int), Jvm.Cond.code ({ cls := "java/lang/StringUTF16", name := "coderFromArrayLen", desc := "([BI)B" } : Jvm.MethodName) jdk_52_method_15_code (2 : Nat) (Option.some Jvm.ClassFile.FieldType.byte), Jvm.Cond.code ({ cls := "com/example/moderato/moderato/client/TextHitEqualsPinLaw", name := "sameStr", desc := "(JJI)Z" } : Jvm.MethodName) method_3_code (13 : Nat) (Option.some Jvm.ClassFile.FieldType.boolean), Jvm.Cond.code ({ cls := "java/lang/Math", name := "min", desc := "(II)I" } : Jvm.MethodName) jdk_29_method_69_code (2 : Nat) (Option.some Jvm.ClassFile.FieldType.int), Jvm.Cond.code ({ cls := "com/example/moderato/moderato/client/TextHit", name := "<init>", desc := "(Ljava/lang/String;Ljava/lang/String;Ljava/lang/String;II)V" } : Jvm.MethodName) prog_16_method_1_code (6 : Nat) (Option.none : Option Jvm.ClassFile.FieldType), Jvm.Cond.code ({ cls := "com/example/moderato/moderato/client/TextHit", name := "equals", desc := "(Ljava/lang/Object;)Z" } : Jvm.MethodName) prog_16_method_7_code (3 : Nat) (Option.some Jvm.ClassFile.FieldType.boolean), Jvm.Cond.code ({ cls := "java/lang/String", name := "equals", desc := "(Ljava/lang/Object;)Z" } : Jvm.MethodName) jdk_42_method_66_code (3 : Nat) (Option.some Jvm.ClassFile.FieldType.boolean), Jvm.Cond.code ({ cls := "java/lang/StringLatin1", name := "equals", desc := "([B[B)Z" } : Jvm.MethodName) jdk_43_method_13_code (3 : Nat) (Option.some Jvm.ClassFile.FieldType.boolean)]
set_option maxRecDepth 65536 in
theorem codes_eq : words1.filter isCode = codes1 := rfl
theorem w_codes : ∀ c ∈ words1.filter isCode, c.before args0 about1 = true := by
  rw [codes_eq]
  intro c hc
  simp only [codes1, List.mem_cons, List.not_mem_nil, or_false] at hc
  rcases hc with rfl | rfl | rfl | rfl | rfl | rfl | rfl | rfl | rfl | rfl | rfl | rfl | rfl | rfl
  · exact w_c0
  · exact w_c1
  · exact w_c2
  · exact w_c3
  · exact w_c4
  · exact w_c5
  · exact w_c6
  · exact w_c7
  · exact w_c8
  · exact w_c9
  · exact w_c10
  · exact w_c11
  · exact w_c12
  · exact w_c13
set_option maxRecDepth 65536 in
theorem w_t1 : (words1.take 24).all (fun c => isCode c || c.before args0 about1) = true := by decide +kernel
set_option maxRecDepth 65536 in
theorem w_t2 : ((words1.drop 24).take 24).all (fun c => isCode c || c.before args0 about1) = true := by decide +kernel
set_option maxRecDepth 65536 in
theorem w_t3 : (((words1.drop 24).drop 24).take 24).all (fun c => isCode c || c.before args0 about1) = true := by decide +kernel
set_option maxRecDepth 65536 in
theorem w_t4 : (((words1.drop 24).drop 24).drop 24).all (fun c => isCode c || c.before args0 about1) = true := by decide +kernel
theorem w_tables : (allAtoms (Jvm.Cond.code x code maxLocals ret :: tables_1)).before args0 about1 = true := by
  rw [allAtoms_all]
  show words1.all (fun c => c.before args0 about1) = true
  refine all_split ?_ w_codes
  rw [← List.take_append_drop 24 words1, List.all_append, w_t1, ← List.take_append_drop 24 (words1.drop 24), List.all_append, w_t2, ← List.take_append_drop 24 ((words1.drop 24).drop 24), List.all_append, w_t3, w_t4]
  rfl
set_option maxRecDepth 65536 in
theorem w_rest : rest_1_c.before args0 about1 = true := by decide +kernel
set_option maxRecDepth 65536 in
theorem w_case : (Jvm.Cond.and given_1 narrow_1).before args0 about1 = true := by decide +kernel
set_option maxRecDepth 65536 in
theorem w_consts : constsHeld consts_1 about1 := Jvm.Lit.constsHeldB_iff.mp (by decide +kernel)
theorem w_applies : (headSpec (Jvm.Cond.code x code maxLocals ret :: tables_1) room_1).applies x e0.platform about1 = true :=
  (Spec.applies_iff w_frames).mpr ⟨w_running, w_runnable, w_alone, w_named, w_hears, w_ripe, w_room, w_tables⟩
theorem atStart : AtStart classFile x code maxLocals ret World_1 tables_1 room_1 Calls_1 rest_1 Pre_1 launch0 p0 e0 about1 theMethod args0 below0 :=
  ⟨lists_1, trivial, launch0.admits_env _ _ _, launch0.least_env, fairChoices_fair.cas, fairChoices_fair.clock, w_frames, w_args, w_heap, w_applies, ⟨w_consts, trivial⟩, w_rest, w_case⟩
end start1
theorem witness_1 : WitnessClaimed_1 := ⟨start1.p0, start1.e0, start1.about1, start1.theMethod, start1.args0, start1.below0, start1.atStart⟩
end Jvm.Pilot.@@N@@
