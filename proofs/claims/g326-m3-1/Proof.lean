import JvmDerived
import JvmDerived.Pilot.@@N@@Statement
import JvmDerived.Pilot.@@N@@Code
set_option linter.unusedVariables false
set_option linter.unusedSimpArgs false
namespace Jvm.RoadKit
section OwnKeep
variable {h h' h0 : Heap} {ws : List Addr} {a : Addr}
theorem Keep.otr0 (K : Keep h0 h ws) (K' : Keep h h' []) : Keep h0 h' ws := K.trans K' fun _ q => nomatch q
theorem Keep.otrN (K : Keep h0 h ws) (K' : Keep h h' [a]) (q : h0.size ≤ a) : Keep h0 h' ws := K.trans K' fun x hx => by cases List.mem_singleton.mp hx; exact Or.inr q
theorem Keep.otrM (K : Keep h0 h ws) (K' : Keep h h' [a]) (q : a ∈ ws) : Keep h0 h' ws := K.trans K' fun x hx => by cases List.mem_singleton.mp hx; exact Or.inl q
end OwnKeep
end Jvm.RoadKit
namespace Jvm.Own
open Sem ClassFile Op Lib Bundle Jvm.Stand Jvm.Free Jvm.LawKit Jvm.RoadKit
section Walk
variable {p : Program} {l : Launch} {e : Env} {R : Room} {s : State} {m : MethodId} {args : Array Value} {below : List Frame} {meth : Method} {c : Code} {T T' : State} {cells slots : Nat} {Z : State} {a0 : Array Value} {EL : List (String × Nat)} {h h' : Heap} {vm0 vm1 : Vm} {y : MethodName} {bytes : ByteArray} {ml : Nat} {ret : Option FieldType} {KC KS : Nat} {Q : Option Value → Heap → Prop} {g g' : JFrame} {pc : Nat} {Ls : Array Slot} {st rest : List Value}
/-- from T with the top frame g the body returns, and what it leaves is Q -/
def Go (p : Program) (e : Env) (below : List Frame) (s Z : State) (EL : List (String × Nat)) (KC KS : Nat) (Q : Option Value → Heap → Prop) (T : State) (g : JFrame) : Prop :=
  ∃ s₂ o, Steps p.tables e below (T.setTop g) s₂ ∧ s₂.status = .running ∧ Ended s₂ below o ∧ ∃ v L, o = .returned v ∧ (Q v s₂.heap ∧ Fr Z.heap.size L ∧ Ext Z.heap s₂.heap) ∧ CHr Z EL s.vm s.heap s₂.vm s₂.heap ∧ ReturnedEndW s o s₂ L KC KS
theorem Go.step (f : ∀ t, Steps p.tables e below (T'.setTop g') t → Steps p.tables e below (T.setTop g) t) (k : Go p e below s Z EL KC KS Q T' g') : Go p e below s Z EL KC KS Q T g := by
  obtain ⟨s₂, o, h1, r⟩ := k
  exact ⟨s₂, o, f _ h1, r⟩
theorem Go.cast (q : g = g') (k : Go p e below s Z EL KC KS Q T g') : Go p e below s Z EL KC KS Q T g := q ▸ k
/-- the contract of a body: any start whose heap is h -/
def Con (l : Launch) (Z : State) (EL : List (String × Nat)) (y : MethodName) (bytes : ByteArray) (ml : Nat) (ret : Option FieldType) (ws : List Cond) (rm : Room) (as' : Array Value) (h : Heap) (Q : Option Value → Heap → Prop) : Prop :=
  MetFree l y (head1 (Cond.code y bytes ml ret :: ws) rm) (fun a U => a = as' ∧ Z.Warmed39 U.vm ∧ U.heap = h ∧ CHv Z EL U.vm h) (fun _ _ _ _ _ => True)
    (fun _ U o U' => ∃ v L, o = .returned v ∧ (Q v U'.heap ∧ Fr Z.heap.size L ∧ Ext Z.heap U'.heap) ∧ CHr Z EL U.vm U.heap U'.vm U'.heap ∧ ReturnedEndW U o U' L rm.cells rm.slots)
/-- where a walk stands -/
def Wk (p : Program) (l : Launch) (e : Env) (R : Room) (s : State) (m : MethodId) (args : Array Value) (below : List Frame) (meth : Method) (c : Code) (Z : State) (a0 : Array Value) (EL : List (String × Nat)) (y : MethodName) (bytes : ByteArray) (ml : Nat) (ret : Option FieldType) (T : State) (h : Heap) (vm0 : Vm) (cells slots : Nat) : Prop :=
  ∃ locs : List Loc, Stand p l e R (s.setVm vm0) m args below meth c T locs cells slots ∧ T.heap = h ∧ Z.Warmed39 (s.setVm vm0).vm ∧ (s.setVm vm0).vm.findClass y.cls = some m.cls ∧ (∃ k0, s.Since vm0 k0 ∧ k0 ≤ h.size) ∧ CHr Z EL s.vm s.heap vm0 h ∧ Fr Z.heap.size locs ∧ Ext Z.heap h ∧
    p.tables.exec = Jvm.exec ∧ c.code = bytes ∧ c.maxLocals = ml ∧ meth.sig.returnType = ret ∧ meth.locks = false ∧ meth.name = y.name ∧ EW Z a0 EL
theorem ext_trans {h1 h2 h3 : Heap} (A : Ext h1 h2) (B : Ext h2 h3) : Ext h1 h3 := ⟨Nat.le_trans A.1 B.1, fun a c q => B.2 a c (A.2 a c q)⟩
theorem ext_keep {ws : List Addr} (A : Ext Z.heap h) (K : Keep h h' ws) (q : ∀ x ∈ ws, Z.heap.size ≤ x) : Ext Z.heap h' := (Old.keep (show Old Z Z.heap.size h from ⟨rfl, A⟩) K q).2
theorem keep_ext (E : Ext h h') : Keep h h' [] := (Keep.refl h []).ext E
theorem ext_keep0 (K : Keep h h' []) : Ext h h' := ⟨K.1, fun a c q => K.2.1 a c q nin0⟩
theorem Wk.here (W : Wk p l e R s m args below meth c Z a0 EL y bytes ml ret T h vm0 cells slots) : At T m c below := by obtain ⟨_, X, -⟩ := W; exact X.here
theorem Wk.hx (W : Wk p l e R s m args below meth c Z a0 EL y bytes ml ret T h vm0 cells slots) : p.tables.exec = Jvm.exec := by obtain ⟨_, -, -, -, -, -, -, -, -, r, -⟩ := W; exact r
theorem Wk.d (W : Wk p l e R s m args below meth c Z a0 EL y bytes ml ret T h vm0 cells slots) {r : Except DecodeError (Instr × Nat)} (q : decode bytes pc = r) : decode c.code pc = r := by obtain ⟨_, -, -, -, -, -, -, -, -, -, u, -⟩ := W; exact hb u q
theorem Wk.ext (W : Wk p l e R s m args below meth c Z a0 EL y bytes ml ret T h vm0 cells slots) : Ext Z.heap h := by obtain ⟨_, -, -, -, -, -, -, -, r, -⟩ := W; exact r
theorem Wk.hZ (W : Wk p l e R s m args below meth c Z a0 EL y bytes ml ret T h vm0 cells slots) : Z.Warmed39 (s.setVm vm0).vm := by obtain ⟨_, -, -, r, -⟩ := W; exact r
theorem Wk.chr (W : Wk p l e R s m args below meth c Z a0 EL y bytes ml ret T h vm0 cells slots) : CHr Z EL s.vm s.heap vm0 h := by obtain ⟨_, -, -, -, -, -, r, -⟩ := W; exact r
theorem Wk.size (W : Wk p l e R s m args below meth c Z a0 EL y bytes ml ret T h vm0 cells slots) : Z.heap.size ≤ h.size := W.ext.1
theorem Wk.more (W : Wk p l e R s m args below meth c Z a0 EL y bytes ml ret T h vm0 cells slots) {cells' slots' : Nat} (hc : cells ≤ cells') (hs : slots ≤ slots') : Wk p l e R s m args below meth c Z a0 EL y bytes ml ret T h vm0 cells' slots' := by
  obtain ⟨locs, X, r⟩ := W
  exact ⟨locs, X.mono hc hs, r⟩
/-- a body's walk gives its contract -/
theorem Con.intro {rm : Room} {as' : Array Value} {ws : List Cond} (hpl : plainFor y = true) (hE : Ext Z.heap h) (hEL : EW Z a0 EL)
    (body : ∀ (p : Program) (e : Env) (s : State) (m : MethodId) (below : List Frame) (meth : Method) (c : Code) (T : State), Wk p l e rm s m as' below meth c Z a0 EL y bytes ml ret T h s.vm 0 0 → Go p e below s Z EL rm.cells rm.slots Q T (entryFrame m as' ml)) :
    Con l Z EL y bytes ml ret ws rm as' h Q := by
  refine MetFree.of_bodySF hpl hisR ?_
  intro p e s m args below meth c s₁ Bd hml0 hP hK
  obtain ⟨rfl, hZ, hh, hC⟩ := hP
  have hown : s.vm.findClass y.cls = some m.cls := findClass_of_methodNamed Bd.named
  have hnm := (name_of_methodNamed Bd.named Bd.method).1
  have X0 : Stand p l e rm s m args below meth c s₁ [] 0 0 := Stand.of_body Bd
  have e0 : s₁.heap = h := by rw [← hh, Bd.state]; rfl
  exact body p e s m below meth c s₁ ⟨[], X0, e0, hZ, hown, ⟨0, (State.WarmedH.refl s).since 0, Nat.zero_le _⟩, by rw [hh]; exact CHr.refl hC, Fr.nil _, hE, Bd.exec, Bd.bytes, hml0, Bd.returns, Bd.notSynchronized, hnm, hEL⟩
/-- a step that leaves the heap as it is -/
theorem Wk.stay (W : Wk p l e R s m args below meth c Z a0 EL y bytes ml ret T h vm0 cells slots) (f : ∀ locs, Stand p l e R (s.setVm vm0) m args below meth c T locs cells slots → ∃ T', Stand p l e R (s.setVm vm0) m args below meth c T' locs cells slots ∧ T'.heap = h ∧ ∀ target, Steps p.tables e below (T'.setTop g') target → Steps p.tables e below (T.setTop g) target)
    (K : ∀ T', Wk p l e R s m args below meth c Z a0 EL y bytes ml ret T' h vm0 cells slots → Go p e below s Z EL KC KS Q T' g') : Go p e below s Z EL KC KS Q T g := by
  obtain ⟨locs, X, hT, r⟩ := W
  obtain ⟨T', X', hT', st⟩ := f locs X
  exact Go.step st (K T' ⟨locs, X', hT', r⟩)
theorem Wk.getF (W : Wk p l e R s m args below meth c Z a0 EL y bytes ml ret T h vm0 cells slots) {R0 O n d host : String} {index : Nat} (w : (Cond.fieldLink y.cls index R0 n d).before a0 Z = true ∨ (Cond.fieldLinkNest y.cls index R0 n d host).before a0 Z = true) (via : Via Z R0 O n d) {a : Addr} {v : Value} (F : Fld Z h a O n d v) (hd : decode bytes pc = .ok (.getfield index, 3))
    (K : ∀ T', Wk p l e R s m args below meth c Z a0 EL y bytes ml ret T' h vm0 cells slots → Go p e below s Z EL KC KS Q T' (mkF m (pc + 3) Ls (v :: rest))) : Go p e below s Z EL KC KS Q T (mkF m pc Ls (.ref a :: rest)) := by
  refine W.stay (fun locs X => ?_) K
  obtain ⟨_, -, hT, hZ, hown, -⟩ := id W
  exact RoadKit.getF X W.hx hZ hown w via hT F (g := mkF m pc Ls (.ref a :: rest)) rfl rfl (W.d hd)
theorem Wk.getS (W : Wk p l e R s m args below meth c Z a0 EL y bytes ml ret T h vm0 cells slots) {R0 O n d host : String} {index : Nat} (w : (Cond.fieldLink y.cls index R0 n d).before a0 Z = true ∨ (Cond.fieldLinkNest y.cls index R0 n d host).before a0 Z = true) (via : Via Z R0 O n d) {v : Value} (F : Sta Z Z.heap O n d v) (hd : decode bytes pc = .ok (.getstatic index, 3))
    (K : ∀ T', Wk p l e R s m args below meth c Z a0 EL y bytes ml ret T' h vm0 cells slots → Go p e below s Z EL KC KS Q T' (mkF m (pc + 3) Ls (v :: rest))) : Go p e below s Z EL KC KS Q T (mkF m pc Ls rest) := by
  refine W.stay (fun locs X => ?_) K
  obtain ⟨_, -, hT, hZ, hown, -⟩ := id W
  exact getS2 X W.hx hZ hown w via hT (F.ext W.ext) (g := mkF m pc Ls rest) rfl (W.d hd)
theorem Wk.cast (W : Wk p l e R s m args below meth c Z a0 EL y bytes ml ret T h vm0 cells slots) {K' : String} {index : Nat} (w : (Cond.classLink y.cls index K').before a0 Z = true) {a : Addr} (F : Ins Z h a K' true) (hd : decode bytes pc = .ok (.checkcast index, 3))
    (K : ∀ T', Wk p l e R s m args below meth c Z a0 EL y bytes ml ret T' h vm0 cells slots → Go p e below s Z EL KC KS Q T' (mkF m (pc + 3) Ls (.ref a :: rest))) : Go p e below s Z EL KC KS Q T (mkF m pc Ls (.ref a :: rest)) := by
  refine W.stay (fun locs X => ?_) K
  obtain ⟨_, -, hT, hZ, hown, -⟩ := id W
  exact castY X W.hx hZ hown w hT F (g := mkF m pc Ls (.ref a :: rest)) rfl rfl (W.d hd)
theorem Wk.instY (W : Wk p l e R s m args below meth c Z a0 EL y bytes ml ret T h vm0 cells slots) {K' : String} {index : Nat} (w : (Cond.classLink y.cls index K').before a0 Z = true) {a : Addr} (F : Ins Z h a K' true) (hd : decode bytes pc = .ok (.instanceof index, 3))
    (K : ∀ T', Wk p l e R s m args below meth c Z a0 EL y bytes ml ret T' h vm0 cells slots → Go p e below s Z EL KC KS Q T' (mkF m (pc + 3) Ls (.int 1 :: rest))) : Go p e below s Z EL KC KS Q T (mkF m pc Ls (.ref a :: rest)) := by
  refine W.stay (fun locs X => ?_) K
  obtain ⟨_, -, hT, hZ, hown, -⟩ := id W
  exact RoadKit.instY X W.hx hZ hown w hT F (g := mkF m pc Ls (.ref a :: rest)) rfl rfl (W.d hd)
theorem Wk.instN (W : Wk p l e R s m args below meth c Z a0 EL y bytes ml ret T h vm0 cells slots) {K' C : String} {index : Nat} (w : (Cond.classLink y.cls index K').before a0 Z = true) {a : Addr} (E : Exa Z h a C) (F : ∃ c t, Z.vm.findClass C = some c ∧ Z.vm.findClass K' = some t ∧ Z.vm.assignable c t = false) (hd : decode bytes pc = .ok (.instanceof index, 3))
    (K : ∀ T', Wk p l e R s m args below meth c Z a0 EL y bytes ml ret T' h vm0 cells slots → Go p e below s Z EL KC KS Q T' (mkF m (pc + 3) Ls (.int 0 :: rest))) : Go p e below s Z EL KC KS Q T (mkF m pc Ls (.ref a :: rest)) := by
  refine W.stay (fun locs X => ?_) K
  obtain ⟨_, -, hT, hZ, hown, -⟩ := id W
  exact instNo X W.hx hZ hown w hT E F (g := mkF m pc Ls (.ref a :: rest)) rfl rfl (W.d hd)
theorem Wk.instNull (W : Wk p l e R s m args below meth c Z a0 EL y bytes ml ret T h vm0 cells slots) {index : Nat} (hd : decode bytes pc = .ok (.instanceof index, 3)) (K : Go p e below s Z EL KC KS Q T (mkF m (pc + 3) Ls (.int 0 :: rest))) : Go p e below s Z EL KC KS Q T (mkF m pc Ls (.null :: rest)) := by
  obtain ⟨_, X, -⟩ := id W
  exact Go.step (X.instanceofNull W.hx (g := mkF m pc Ls (.null :: rest)) rfl rfl (W.d hd)) K
theorem Wk.castNull (W : Wk p l e R s m args below meth c Z a0 EL y bytes ml ret T h vm0 cells slots) {index : Nat} (hd : decode bytes pc = .ok (.checkcast index, 3)) (K : Go p e below s Z EL KC KS Q T (mkF m (pc + 3) Ls (.null :: rest))) : Go p e below s Z EL KC KS Q T (mkF m pc Ls (.null :: rest)) := by
  obtain ⟨_, X, -⟩ := id W
  exact Go.step (X.checkcastNull W.hx (g := mkF m pc Ls (.null :: rest)) rfl rfl (W.d hd)) K
theorem Wk.acmp (W : Wk p l e R s m args below meth c Z a0 EL y bytes ml ret T h vm0 cells slots) {cd : ACond} {u v : Value} (h1 : u.isRef = true) (h2 : v.isRef = true) {o : Int} {pc' : Nat} {same : Bool} (hd : decode bytes pc = .ok (.if_acmp cd o, 3)) (hq : decide (u = v) = same) (ho : 0 ≤ (pc : Int) + o) (hp : pc' = if acV cd same = true then ((pc : Int) + o).toNat else pc + 3)
    (K : Go p e below s Z EL KC KS Q T (mkF m pc' Ls rest)) : Go p e below s Z EL KC KS Q T (mkF m pc Ls (v :: u :: rest)) := by
  obtain ⟨_, X, -⟩ := id W
  exact Go.step (fun _ k => RoadKit.acmp (g := mkF m pc Ls (v :: u :: rest)) X W.hx rfl h1 h2 rfl (W.d hd) rfl hq ho hp k) K
theorem Wk.initO (W : Wk p l e R s m args below meth c Z a0 EL y bytes ml ret T h vm0 cells slots) {idx : Nat} (w1 : (Cond.methodLink y.cls idx Lib.objectInit).before a0 Z = true) (w2 : (Cond.instanceMethod Lib.objectInit).before a0 Z = true) (w3 : (Cond.code Lib.objectInit ⟨#[0xb1]⟩ 1 none).before a0 Z = true) {a : Addr} (hsz : Ls.size = ml) (hd : decode bytes pc = .ok (.invokespecial idx, 3))
    (hf : 1 ≤ R.frames) {Wd : Nat} (hW : (rest.map fun v => v.category).sum ≤ Wd) (hl : Wd + 12 ≤ R.locals)
    (K : ∀ T', Wk p l e R s m args below meth c Z a0 EL y bytes ml ret T' h vm0 cells slots → Go p e below s Z EL KC KS Q T' (mkF m (pc + 3) Ls rest)) : Go p e below s Z EL KC KS Q T (mkF m pc Ls (.ref a :: rest)) := by
  refine W.stay (fun locs X => ?_) K
  obtain ⟨_, -, hT, hZ, hown, -, -, -, -, -, -, hml, -⟩ := id W
  exact RoadKit.initO X W.hx hZ hown w1 w2 w3 hT (g := mkF m pc Ls (.ref a :: rest)) rfl (by rw [hml]; exact hsz) rfl (W.d hd) hf (W := Wd) (by show 2 * 0 + _ ≤ _; omega) hl
theorem Wk.new (W : Wk p l e R s m args below meth c Z a0 EL y bytes ml ret T h vm0 cells slots) {C : String} {index n : Nat} (w : (Cond.classLink y.cls index C).before a0 Z = true) (wi : (Cond.instantiable C n).before a0 Z = true) (wz : (Cond.initialized C).before a0 Z = true) (hd : decode bytes pc = .ok (.new index, 3)) (hc : cells + 1 ≤ R.cells) (hl : slots + n ≤ R.slots)
    (K : ∀ T' h' a, a = h.size → Wk p l e R s m args below meth c Z a0 EL y bytes ml ret T' h' vm0 (cells + 1) (slots + n) → Ext h h' → Exa Z h' a C → (∀ {O nm d : String} {ty : FieldType}, Laid Z a0 C O nm d → parseFieldDescriptor d = some ty → Fld Z h' a O nm d (defaultValue ty)) → Go p e below s Z EL KC KS Q T' (mkF m (pc + 3) Ls (.ref a :: rest))) : Go p e below s Z EL KC KS Q T (mkF m pc Ls rest) := by
  have hx := W.hx; have hd' := W.d hd
  obtain ⟨locs, X, hT, hZ, hown, ⟨k0, hS, hk⟩, hC, hF, hE, r⟩ := W
  obtain ⟨T', h', X', e', E, A, D, -, st⟩ := newO X hx hZ hown w wi wz hT (g := mkF m pc Ls rest) rfl hd' hc hl
  exact Go.step st (K T' h' _ rfl ⟨locs, X', e', hZ, hown, ⟨k0, hS, Nat.le_trans hk E.1⟩, hC.trans (CHr.ext E hC.1), hF, ext_trans hE E, r⟩ E A D)
theorem Wk.newarr (W : Wk p l e R s m args below meth c Z a0 EL y bytes ml ret T h vm0 cells slots) {aty : ArrayType} (w : (Cond.arrayClass (newarray.typeOf aty)).before a0 Z = true) {n : Int32} (hd : decode bytes pc = .ok (.newarray aty, 2)) (hn : ¬ n < 0) {cap : Nat} (hcap : n.toNatClampNeg ≤ cap) (hb : cap * 8 ≤ 536870912) (hc : cells + 1 ≤ R.cells) (hl : slots + cap ≤ R.slots)
    (K : ∀ T' h' a k, a = h.size → Wk p l e R s m args below meth c Z a0 EL y bytes ml ret T' h' vm0 (cells + 1) (slots + cap) → Ext h h' → Arv Z h' a k (newarray.typeOf aty) n [] (defaultValue (newarray.typeOf aty)) → Safe Z EL vm0 h' a → Go p e below s Z EL KC KS Q T' (mkF m (pc + 2) Ls (.ref a :: rest))) : Go p e below s Z EL KC KS Q T (mkF m pc Ls (.int n :: rest)) := by
  have hx := W.hx; have hd' := W.d hd
  obtain ⟨locs, X, hT, hZ, hown, ⟨k0, hS, hk⟩, hC, hF, hE, r⟩ := W
  obtain ⟨T', h', cA, X', e', E, A, st⟩ := newP X hx hZ w hT (g := mkF m pc Ls (.int n :: rest)) rfl hd' rfl hn hcap hb hc hl
  exact Go.step st (K T' h' _ cA rfl ⟨locs, X', e', hZ, hown, ⟨k0, hS, Nat.le_trans hk E.1⟩, hC.trans (CHr.ext E hC.1), hF, ext_trans hE E, r⟩ E (Arv.new A hn) (Safe.ext E hC.1 (Safe.new (Nat.le_refl _))))
/-- a write into one cell made since the law began -/
theorem Wk.wrote (W : Wk p l e R s m args below meth c Z a0 EL y bytes ml ret T h vm0 cells slots) {a : Addr} {sl : Nat} {v : Value} (ha : Z.heap.size ≤ a) (S : Safe Z EL vm0 h a)
    (f : ∀ locs, Stand p l e R (s.setVm vm0) m args below meth c T locs cells slots → ∃ T' h', Stand p l e R (s.setVm vm0) m args below meth c T' (locs ++ [⟨a, sl⟩]) cells slots ∧ T'.heap = h' ∧ Wr h h' a sl v ∧ ∀ target, Steps p.tables e below (T'.setTop g') target → Steps p.tables e below (T.setTop g) target)
    (K : ∀ T' h', Wk p l e R s m args below meth c Z a0 EL y bytes ml ret T' h' vm0 cells slots → Wr h h' a sl v → Go p e below s Z EL KC KS Q T' g') : Go p e below s Z EL KC KS Q T g := by
  obtain ⟨locs, X, hT, hZ, hown, ⟨k0, hS, hk⟩, hC, hF, hE, r⟩ := W
  obtain ⟨T', h', X', e', Ww, st⟩ := f locs X
  exact Go.step st (K T' h' ⟨_, X', e', hZ, hown, ⟨k0, hS, by rw [Ww.size]; exact hk⟩, hC.trans (CHr.wr Ww S hC.1), Fr.snoc X' hF ha, ext_keep hE (Keep.of_wr Ww) (allS ha all0), r⟩ Ww)
theorem Wk.putF (W : Wk p l e R s m args below meth c Z a0 EL y bytes ml ret T h vm0 cells slots) {R0 O n d host C : String} {index kk : Nat} {ty : FieldType} (w : (Cond.fieldLink y.cls index R0 n d).before a0 Z = true ∨ (Cond.fieldLinkNest y.cls index R0 n d host).before a0 Z = true) (via : Via Z R0 O n d)
    {a : Addr} {v old : Value} (F : Fld Z h a O n d old) (E : Exa Z h a C) (L : (Cond.lays C O n d).before a0 Z = true ∨ ((Cond.laysFinal C O n d).before a0 Z = true ∧ y.cls = O ∧ y.name = "<init>")) (wi : (Cond.instantiable C kk).before a0 Z = true) (hty : parseFieldDescriptor d = some ty) (hn : narrow ty v = v) (hf : fits ty v = true)
    (ha : Z.heap.size ≤ a) (S : Safe Z EL vm0 h a) (hd : decode bytes pc = .ok (.putfield index, 3))
    (K : ∀ T' h', Wk p l e R s m args below meth c Z a0 EL y bytes ml ret T' h' vm0 cells slots → Wr h h' a (RoadKit.slotOf Z O n d) v → Fld Z h' a O n d v → Go p e below s Z EL KC KS Q T' (mkF m (pc + 3) Ls rest)) : Go p e below s Z EL KC KS Q T (mkF m pc Ls (v :: .ref a :: rest)) := by
  refine W.wrote (sl := RoadKit.slotOf Z O n d) (v := v) ha S (fun locs X => ?_) (fun T' h' W' Ww => K T' h' W' Ww (F.same Ww))
  obtain ⟨_, -, hT, hZ, hown, -, -, -, -, -, -, -, -, -, hnm, -⟩ := id W
  exact RoadKit.putF X W.hx hZ hown w via hT F E (L.imp id fun q => ⟨q.1, q.2.1, hnm.trans q.2.2⟩) wi hty hn hf (g := mkF m pc Ls (v :: .ref a :: rest)) rfl rfl (W.d hd)
theorem Wk.castore (W : Wk p l e R s m args below meth c Z a0 EL y bytes ml ret T h vm0 cells slots) {a : Addr} {k : ClassId} {n j x : Int32} {vs : List Value} {dv : Value} (V : Arv Z h a k .char n vs dv) (i : Nat) (hj : j.toNatClampNeg = i) (hi : i < vs.length) (hin : ¬ j < 0 ∧ j < n) (ha : Z.heap.size ≤ a) (hd : decode bytes pc = .ok (.castore, 1))
    (K : ∀ T' h', Wk p l e R s m args below meth c Z a0 EL y bytes ml ret T' h' vm0 cells slots → Keep h h' [a] → Arv Z h' a k .char n (vs.set i (.int (nar .char x))) dv → Go p e below s Z EL KC KS Q T' (mkF m (pc + 1) Ls rest)) : Go p e below s Z EL KC KS Q T (mkF m pc Ls (.int x :: .int j :: .ref a :: rest)) := by
  have S : Safe Z EL vm0 h a := Safe.arv W.hZ.alike V (by decide)
  obtain ⟨cl, A, q1, S1, q3, H, G⟩ := id V
  refine W.wrote (sl := j.toNatClampNeg) (v := .int (nar .char x)) ha S (fun locs X => ?_) (fun T' h' W' Ww => K T' h' W' (Keep.of_wr Ww) (Arv.set A q1 S1 q3 H G (fits_nar_char _) Ww i hj hi))
  obtain ⟨_, -, hT, hZ, -⟩ := id W
  exact stC X W.hx hZ hT A (inb_of S1 hin) (g := mkF m pc Ls (.int x :: .int j :: .ref a :: rest)) rfl rfl (W.d hd)
theorem Wk.bastore (W : Wk p l e R s m args below meth c Z a0 EL y bytes ml ret T h vm0 cells slots) {a : Addr} {k : ClassId} {n j x : Int32} {vs : List Value} {dv : Value} (V : Arv Z h a k .byte n vs dv) (i : Nat) (hj : j.toNatClampNeg = i) (hi : i < vs.length) (hin : ¬ j < 0 ∧ j < n) (ha : Z.heap.size ≤ a) (S : Safe Z EL vm0 h a) (hd : decode bytes pc = .ok (.bastore, 1))
    (K : ∀ T' h', Wk p l e R s m args below meth c Z a0 EL y bytes ml ret T' h' vm0 cells slots → Keep h h' [a] → Arv Z h' a k .byte n (vs.set i (.int (nar .byte x))) dv → Go p e below s Z EL KC KS Q T' (mkF m (pc + 1) Ls rest)) : Go p e below s Z EL KC KS Q T (mkF m pc Ls (.int x :: .int j :: .ref a :: rest)) := by
  obtain ⟨cl, A, q1, S1, q3, H, G⟩ := id V
  refine W.wrote (sl := j.toNatClampNeg) (v := .int (nar .byte x)) ha S (fun locs X => ?_) (fun T' h' W' Ww => K T' h' W' (Keep.of_wr Ww) (Arv.set A q1 S1 q3 H G (fits_nar_byte _) Ww i hj hi))
  obtain ⟨_, -, hT, hZ, -⟩ := id W
  exact stB X W.hx hZ hT A (inb_of S1 hin) (g := mkF m pc Ls (.int x :: .int j :: .ref a :: rest)) rfl rfl (W.d hd)
theorem Wk.baload (W : Wk p l e R s m args below meth c Z a0 EL y bytes ml ret T h vm0 cells slots) {a : Addr} {k : ClassId} {n j : Int32} {vs : List Value} {dv v : Value} (V : Arv Z h a k .byte n vs dv) (hin : ¬ j < 0 ∧ j < n) (hv : vs.getD j.toNatClampNeg dv = v) (hd : decode bytes pc = .ok (.baload, 1))
    (K : Go p e below s Z EL KC KS Q T (mkF m (pc + 1) Ls (v :: rest))) : Go p e below s Z EL KC KS Q T (mkF m pc Ls (.int j :: .ref a :: rest)) := by
  obtain ⟨cl, A, q1, S1, q3, H, G⟩ := id V
  obtain ⟨_, X, hT, hZ, -⟩ := id W
  exact Go.step (X.baloadBytes W.hx (j := j) (v := v) (by rw [hT]; exact A.1) (State.isArrayOf_alike hZ.alike A.2.1) A.2.2 (inb_of S1 hin) (H.at (inb_of S1 hin) hv) (g := mkF m pc Ls (.int j :: .ref a :: rest)) rfl rfl (W.d hd)) K
theorem Wk.caload (W : Wk p l e R s m args below meth c Z a0 EL y bytes ml ret T h vm0 cells slots) {a : Addr} {k : ClassId} {n j : Int32} {vs : List Value} {dv v : Value} (V : Arv Z h a k .char n vs dv) (hin : ¬ j < 0 ∧ j < n) (hv : vs.getD j.toNatClampNeg dv = v) (hd : decode bytes pc = .ok (.caload, 1))
    (K : Go p e below s Z EL KC KS Q T (mkF m (pc + 1) Ls (v :: rest))) : Go p e below s Z EL KC KS Q T (mkF m pc Ls (.int j :: .ref a :: rest)) := by
  obtain ⟨cl, A, q1, S1, q3, H, G⟩ := id V
  obtain ⟨_, X, hT, hZ, -⟩ := id W
  exact Go.step (X.caload W.hx (j := j) (v := v) (by rw [hT]; exact A.1) (State.isArrayOf_alike hZ.alike A.2.1) A.2.2 (inb_of S1 hin) (H.at (inb_of S1 hin) hv) (g := mkF m pc Ls (.int j :: .ref a :: rest)) rfl rfl (W.d hd)) K
theorem Wk.aaload (W : Wk p l e R s m args below meth c Z a0 EL y bytes ml ret T h vm0 cells slots) {a : Addr} {k : ClassId} {ty : FieldType} {n j : Int32} {vs : List Value} {dv v : Value} (V : Arv Z h a k ty n vs dv) (ht : ty.isReference = true) (hin : ¬ j < 0 ∧ j < n) (hv : vs.getD j.toNatClampNeg dv = v) (hd : decode bytes pc = .ok (.aaload, 1))
    (K : Go p e below s Z EL KC KS Q T (mkF m (pc + 1) Ls (v :: rest))) : Go p e below s Z EL KC KS Q T (mkF m pc Ls (.int j :: .ref a :: rest)) := by
  obtain ⟨cl, A, q1, S1, q3, H, G⟩ := id V
  obtain ⟨_, X, hT, hZ, -⟩ := id W
  exact Go.step (X.aaload W.hx (j := j) (v := v) (by rw [hT]; exact A.1) (State.isArrayOf_alike hZ.alike A.2.1) ht A.2.2 (inb_of S1 hin) (H.at (inb_of S1 hin) hv) (g := mkF m pc Ls (.int j :: .ref a :: rest)) rfl rfl (W.d hd)) K
/-- clone() of an array -/
theorem Wk.clone (W : Wk p l e R s m args below meth c Z a0 EL y bytes ml ret T h vm0 cells slots) {ad : String} {index : Nat} (w1 : (Cond.methodLink y.cls index ⟨ad, "clone", "()Ljava/lang/Object;"⟩).before a0 Z = true) (w2 : (Cond.sameMethod ad "java/lang/Object" "clone" "()Ljava/lang/Object;").before a0 Z = true) (w3 : (Cond.native ⟨"java/lang/Object", "clone", "()Ljava/lang/Object;"⟩).before a0 Z = true)
    (w4 : (Cond.instanceMethod ⟨"java/lang/Object", "clone", "()Ljava/lang/Object;"⟩).before a0 Z = true) (w5 : (Cond.selects ad ⟨ad, "clone", "()Ljava/lang/Object;"⟩ ⟨"java/lang/Object", "clone", "()Ljava/lang/Object;"⟩).before a0 Z = true) (w6 : (Cond.castable ad "java/lang/Cloneable").before a0 Z = true)
    {a : Addr} {k : ClassId} {ty : FieldType} {n : Int32} {vs : List Value} {dv : Value} (V : Arv Z h a k ty n vs dv) (E : Exa Z h a ad) (hsz : Ls.size = ml) (hd : decode bytes pc = .ok (.invokevirtual index, 3)) (hf : 1 ≤ R.frames) {Wd cap : Nat} (hW : (rest.map fun v => v.category).sum ≤ Wd) (hl : Wd + 14 ≤ R.locals) (hcap : n.toNatClampNeg ≤ cap) (hc : cells + 1 ≤ R.cells) (hsl : slots + cap ≤ R.slots)
    (K : ∀ T' h' b, b = h.size → Wk p l e R s m args below meth c Z a0 EL y bytes ml ret T' h' vm0 (cells + 1) (slots + cap) → Ext h h' → Exa Z h' b ad → Arv Z h' b k ty n vs dv → Go p e below s Z EL KC KS Q T' (mkF m (pc + 3) Ls (.ref b :: rest))) : Go p e below s Z EL KC KS Q T (mkF m pc Ls (.ref a :: rest)) := by
  have hx := W.hx; have hd' := W.d hd
  obtain ⟨locs, X, hT, hZ, hown, ⟨k0, hS, hk⟩, hC, hF, hE, r1, r2, hml, r⟩ := W
  obtain ⟨cl, A, q1, S, q3, H, G⟩ := V
  have FC : FitC Z cl := fitC_of A fun i hi v hv => by rw [H i hi] at hv; cases hv; exact G i hi
  obtain ⟨T', h', X', e', Ex, A', E', st⟩ := cloneA X hx hZ hown w1 w2 w3 w4 w5 w6 hT A E FC (g := mkF m pc Ls (.ref a :: rest)) rfl (by rw [hml]; exact hsz) rfl hd' hf (W := Wd) (by show 2 * 0 + _ ≤ _; omega) hl (by rw [S]; exact hcap) hc hsl
  exact Go.step st (K T' h' _ rfl ⟨locs, X', e', hZ, hown, ⟨k0, hS, Nat.le_trans hk Ex.1⟩, hC.trans (CHr.ext Ex hC.1), hF, ext_trans hE Ex, r1, r2, hml, r⟩ Ex E' ⟨cloneOf cl, A', q1, S, q3, H, G⟩)
theorem Wk.arraylength (W : Wk p l e R s m args below meth c Z a0 EL y bytes ml ret T h vm0 cells slots) {a : Addr} {k : ClassId} {ty : FieldType} {n : Int32} {vs : List Value} {dv : Value} (V : Arv Z h a k ty n vs dv) (hd : decode bytes pc = .ok (.arraylength, 1))
    (K : Go p e below s Z EL KC KS Q T (mkF m (pc + 1) Ls (.int n :: rest))) : Go p e below s Z EL KC KS Q T (mkF m pc Ls (.ref a :: rest)) := by
  obtain ⟨cl, A, q1, S1, q3, H, G⟩ := id V
  obtain ⟨_, X, hT, hZ, -⟩ := id W
  refine Go.step (X.arraylength W.hx (by rw [hT]; exact A.1) (State.isArrayOf_alike hZ.alike A.2.1) (g := mkF m pc Ls (.ref a :: rest)) rfl rfl (W.d hd)) ?_
  rw [len_of S1 q3]; exact K
/-- ldc of a String constant, not read -/
theorem Wk.ldcO (W : Wk p l e R s m args below meth c Z a0 EL y bytes ml ret T h vm0 cells slots) {text : String} {index : Nat} (w : (Cond.stringLink y.cls index text).before a0 Z = true) (wS : ∀ a ∈ Bundle.stringAtoms, a.before a0 Z = true) (hd : decode bytes pc = .ok (.ldc index, 2)) {n : Nat} (hn : 4 * text.toList.length ≤ n) (hbig : n ≤ 536870912) (hc : cells + 2 ≤ R.cells) (hl : slots + (n + 4) ≤ R.slots)
    (K : ∀ T' h' vm1 a, Wk p l e R s m args below meth c Z a0 EL y bytes ml ret T' h' vm1 (cells + 2) (slots + (n + 4)) → Ext h h' → CHr Z EL vm0 h vm1 h' → Go p e below s Z EL KC KS Q T' (mkF m (pc + 2) Ls (.ref a :: rest))) : Go p e below s Z EL KC KS Q T (mkF m pc Ls rest) := by
  have hx := W.hx; have hd' := W.d hd
  obtain ⟨locs, X, hT, hZ, hown, ⟨k0, hS, hk⟩, hC, hF, hE, r1, r2, r3, r4, r5, r6, hEL⟩ := W
  obtain ⟨a, T', h', k1, X', e', E, hS', hk', hZ', hown', hC', -, st⟩ := ldcOH X hx hZ hown w wS hT hS hk hEL hC.1 (g := mkF m pc Ls rest) rfl hd' hn hbig hc hl
  exact Go.step st (K T' h' T'.vm a ⟨locs, X', e', hZ', hown', ⟨k1, hS', hk'⟩, hC.trans hC', hF, ext_trans hE E, r1, r2, r3, r4, r5, r6, hEL⟩ E hC')
/-- ldc of a String constant, read -/
theorem Wk.ldcR (W : Wk p l e R s m args below meth c Z a0 EL y bytes ml ret T h vm0 cells slots) {text : String} {index : Nat} (w : (Cond.stringLink y.cls index text).before a0 Z = true) (wS : ∀ a ∈ Bundle.stringAtoms, a.before a0 Z = true) (hmem : (y.cls, index) ∈ EL) {vs : List Value} {z : Int32} (ht : (∀ c ∈ text.toList, c.toNat < 256) ∧ text.toList.map (fun c => Value.int (Jvm.Lit.byteI c.toNat.toUInt16)) = vs) (hz : ¬ z < 0) (hlz : z.toNatClampNeg = vs.length)
    (hd : decode bytes pc = .ok (.ldc index, 2)) {n : Nat} (hn : 4 * text.toList.length ≤ n) (hbig : n ≤ 536870912) (hc : cells + 2 ≤ R.cells) (hl : slots + (n + 4) ≤ R.slots)
    (K : ∀ T' h' vm1 a b k, Wk p l e R s m args below meth c Z a0 EL y bytes ml ret T' h' vm1 (cells + 2) (slots + (n + 4)) → Ext h h' → CHr Z EL vm0 h vm1 h' → Exa Z h' a "java/lang/String" → Fld Z h' a "java/lang/String" "coder" "B" (.int 0) → Fld Z h' a "java/lang/String" "value" "[B" (.ref b) → Arv Z h' b k .byte z vs (.int 0) → (∀ x, Safe Z EL vm1 h' x → x ≠ a ∧ x ≠ b) → Go p e below s Z EL KC KS Q T' (mkF m (pc + 2) Ls (.ref a :: rest))) : Go p e below s Z EL KC KS Q T (mkF m pc Ls rest) := by
  have hx := W.hx; have hd' := W.d hd
  obtain ⟨locs, X, hT, hZ, hown, ⟨k0, hS, hk⟩, hC, hF, hE, r1, r2, r3, r4, r5, r6, hEL⟩ := W
  obtain ⟨a, T', h', k1, b, k, X', e', E, hS', hk', hZ', hown', q1, q2, q3, q4, -, -, hC', -, q5, st⟩ := ldcCH X hx hZ hown w wS hT hS hk hEL hmem hC.1 ht hz hlz (g := mkF m pc Ls rest) rfl hd' hn hbig hc hl
  exact Go.step st (K T' h' T'.vm a b k ⟨locs, X', e', hZ', hown', ⟨k1, hS', hk'⟩, hC.trans hC', hF, ext_trans hE E, r1, r2, r3, r4, r5, r6, hEL⟩ E hC' q1 q2 q3 q4 q5)
/-- what a call by a contract gives back -/
theorem Wk.back (W : Wk p l e R s m args below meth c Z a0 EL y bytes ml ret T h vm0 cells slots) {y' : MethodName} {bytes' : ByteArray} {ml' : Nat} {ret' : Option FieldType} {rm : Room} {as' : Array Value} {Qc : Option Value → Heap → Prop} {len Wd : Nat} (C : Con l Z EL y' bytes' ml' ret' [] rm as' h Qc) (wc : (Cond.code y' bytes' ml' ret').before a0 Z = true) (wz : (Cond.initialized y'.cls).before a0 Z = true) (hfr : rm.frames + 1 ≤ R.frames) (hlo : Wd + (ml' + 11) + rm.locals ≤ R.locals) :
    BackS l R p e below (s.setVm vm0) args y' len Wd (fun A a => a = as' ∧ A.U.heap = h ∧ A.cells + rm.cells ≤ R.cells ∧ A.slots + rm.slots ≤ R.slots)
      (fun A _ v B => ∃ L, (Qc v B.U.heap ∧ Fr Z.heap.size L ∧ Ext Z.heap B.U.heap) ∧ B.locs = A.locs ++ L ∧ B.cells = A.cells + rm.cells ∧ B.slots = A.slots + rm.slots ∧ CHr Z EL vm0 h B.U.vm B.U.heap) := by
  obtain ⟨locs, X, hT, hZ, hown, -, hC, hF, hE, r1, r2, r3, r4, r5, r6, hEL⟩ := W
  exact backOfSH (Q := fun v h' L => Qc v h' ∧ Fr Z.heap.size L ∧ Ext Z.heap h') C hZ wc wz hfr hlo hEL hC.1
/-- behind such a call -/
theorem Wk.behind (W : Wk p l e R s m args below meth c Z a0 EL y bytes ml ret T h vm0 cells slots) {rm : Room} {Qc : Option Value → Heap → Prop} {locs : List Loc} (hF : Fr Z.heap.size locs) {v : Option Value} {B : Pt}
    (X' : Stand p l e R ((s.setVm vm0).setVm B.U.vm) m args below meth c B.U B.locs B.cells B.slots) (h2 : (s.setVm vm0).Since B.U.vm B.U.heap.size) (hg : T.heap.size ≤ B.U.heap.size) {L : List Loc} (hl : B.locs = locs ++ L) (hq : Qc v B.U.heap ∧ Fr Z.heap.size L ∧ Ext Z.heap B.U.heap) (hc : B.cells = cells + rm.cells) (hs : B.slots = slots + rm.slots) (hC' : CHr Z EL vm0 h B.U.vm B.U.heap) :
    Wk p l e R s m args below meth c Z a0 EL y bytes ml ret B.U B.U.heap B.U.vm (cells + rm.cells) (slots + rm.slots) := by
  obtain ⟨_, X, hT, hZ, hown, ⟨k0, hS, hk⟩, hC, -, hE, r⟩ := W
  obtain ⟨Y, hS', hZ', hown'⟩ := rebS hS (by rw [← hT] at hk; exact hk) X' h2 hg hZ hown
  rw [hl, hc, hs] at Y
  exact ⟨_, Y, rfl, hZ', hown', ⟨_, hS', Nat.le_refl _⟩, hC.trans hC', hF.app hq.2.1, hq.2.2, r⟩
theorem Wk.callS (W : Wk p l e R s m args below meth c Z a0 EL y bytes ml ret T h vm0 cells slots) {index : Nat} {y' : MethodName} {bytes' : ByteArray} {ml' : Nat} {ret' : Option FieldType} {rm : Room} {as' : Array Value} {Qc : Option Value → Heap → Prop} {Wd : Nat}
    (wl : (Cond.methodLink y.cls index y').before a0 Z = true) (wst : (Cond.static y').before a0 Z = true) (wz : (Cond.initialized y'.cls).before a0 Z = true) (wc : (Cond.code y' bytes' ml' ret').before a0 Z = true) (hy : y'.cls ≠ "java/lang/invoke/MethodHandle" ∧ y'.cls ≠ "java/lang/invoke/VarHandle")
    (C : Con l Z EL y' bytes' ml' ret' [] rm as' h Qc) (hfr : rm.frames + 1 ≤ R.frames) (hlo : Wd + (ml' + 11) + rm.locals ≤ R.locals) (argsL : List Value) (rest : List Value) (has : argsL.toArray = as') {ps : List FieldType} {r' : Option FieldType} (hdesc : parseMethodDescriptor y'.desc = some ⟨ps, r'⟩) (hlen : argsL.length = ps.length) (hsz : Ls.size = ml) (hst : st = argsL.reverse ++ rest) (hW : (rest.map fun v => v.category).sum ≤ Wd)
    (hd : decode bytes pc = .ok (.invokestatic index, 3)) (hc : cells + rm.cells ≤ R.cells) (hs : slots + rm.slots ≤ R.slots)
    (K : ∀ v T' h' vm1, Wk p l e R s m args below meth c Z a0 EL y bytes ml ret T' h' vm1 (cells + rm.cells) (slots + rm.slots) → Qc v h' → CHr Z EL vm0 h vm1 h' → Go p e below s Z EL KC KS Q T' (mkF m (pc + 3) Ls (v.toList ++ rest))) : Go p e below s Z EL KC KS Q T (mkF m pc Ls st) := by
  have bk := W.back (len := 3) (Wd := Wd) C wc wz hfr hlo
  have hx := W.hx; have hd' := W.d hd
  obtain ⟨locs, X, hT, hZ, hown, -, -, hF, -, -, -, hml, -⟩ := id W
  obtain ⟨v, vm₁, B, -, X', h2, hg, ⟨L, hq, hl, hcc, hss, hC'⟩, stp⟩ := callSS X hx hown (mvT hZ wl) (mvT hZ wst) (mvT hZ wz) (mvT hZ wc) hy bk (g := mkF m pc Ls st) rfl (by rw [hml]; exact hsz) (argsL := argsL) (rest := rest) (lenOf hdesc hlen) hst (by show 2 * 0 + _ ≤ _; omega) hd' (fun vm₁ _ => ⟨has, hT, hc, hs⟩)
  exact Go.step (fun _ k => stp.trans k) (K v B.U B.U.heap B.U.vm (W.behind (rm := rm) (Qc := Qc) hF X' h2 hg hl hq hcc hss hC') hq.1 hC')
theorem Wk.special (W : Wk p l e R s m args below meth c Z a0 EL y bytes ml ret T h vm0 cells slots) {index : Nat} {y' : MethodName} {bytes' : ByteArray} {ml' : Nat} {rm : Room} {as' : Array Value} {Qc : Option Value → Heap → Prop} {Wd : Nat} (hin : y'.name = "<init>")
    (wl : (Cond.methodLink y.cls index y').before a0 Z = true) (wi : (Cond.instanceMethod y').before a0 Z = true) (wz : (Cond.initialized y'.cls).before a0 Z = true) (wc : (Cond.code y' bytes' ml' none).before a0 Z = true) (hy : y'.cls ≠ "java/lang/invoke/MethodHandle" ∧ y'.cls ≠ "java/lang/invoke/VarHandle")
    (C : Con l Z EL y' bytes' ml' none [] rm as' h Qc) (hfr : rm.frames + 1 ≤ R.frames) (hlo : Wd + (ml' + 11) + rm.locals ≤ R.locals) (a : Addr) (argsL : List Value) (rest : List Value) (has : (.ref a :: argsL).toArray = as') {ps : List FieldType} {r' : Option FieldType} (hdesc : parseMethodDescriptor y'.desc = some ⟨ps, r'⟩) (hlen : argsL.length = ps.length) (hsz : Ls.size = ml) (hst : st = argsL.reverse ++ .ref a :: rest) (hW : (rest.map fun v => v.category).sum ≤ Wd)
    (hd : decode bytes pc = .ok (.invokespecial index, 3)) (hc : cells + rm.cells ≤ R.cells) (hs : slots + rm.slots ≤ R.slots)
    (K : ∀ v T' h' vm1, Wk p l e R s m args below meth c Z a0 EL y bytes ml ret T' h' vm1 (cells + rm.cells) (slots + rm.slots) → Qc v h' → CHr Z EL vm0 h vm1 h' → Go p e below s Z EL KC KS Q T' (mkF m (pc + 3) Ls (v.toList ++ rest))) : Go p e below s Z EL KC KS Q T (mkF m pc Ls st) := by
  have bk := W.back (len := 3) (Wd := Wd) C wc wz hfr hlo
  have hx := W.hx; have hd' := W.d hd
  obtain ⟨locs, X, hT, hZ, hown, -, -, hF, -, -, -, hml, -⟩ := id W
  obtain ⟨v, vm₁, B, -, X', h2, hg, ⟨L, hq, hl, hcc, hss, hC'⟩, stp⟩ := X.specialBackS hx hin hown (mvT hZ wl) (mvT hZ wi) (mvT hZ wc) hy bk (g := mkF m pc Ls st) rfl (by rw [hml]; exact hsz) (Steps.refl _) (a := a) (argsL := argsL) (rest := rest) (lenOf hdesc hlen) hst (by show 2 * 0 + _ ≤ _; omega) hd' (fun vm₁ _ => ⟨has, hT, hc, hs⟩)
  exact Go.step (fun _ k => stp.trans k) (K v B.U B.U.heap B.U.vm (W.behind (rm := rm) (Qc := Qc) hF X' h2 hg hl hq hcc hss hC') hq.1 hC')
theorem Wk.virtual (W : Wk p l e R s m args below meth c Z a0 EL y bytes ml ret T h vm0 cells slots) {index : Nat} {yr y' : MethodName} {D : String} {bytes' : ByteArray} {ml' : Nat} {ret' : Option FieldType} {rm : Room} {as' : Array Value} {Qc : Option Value → Heap → Prop} {Wd : Nat}
    (wl : (Cond.methodLink y.cls index yr).before a0 Z = true) (wd : (Cond.declares yr).before a0 Z = true) (hnf : NotFace (s.setVm vm0) yr) (wsel : (Cond.selects D yr y').before a0 Z = true) (wi : (Cond.instanceMethod y').before a0 Z = true) (wz : (Cond.initialized y'.cls).before a0 Z = true) (wc : (Cond.code y' bytes' ml' ret').before a0 Z = true) (hy : yr.cls ≠ "java/lang/invoke/MethodHandle" ∧ yr.cls ≠ "java/lang/invoke/VarHandle")
    (C : Con l Z EL y' bytes' ml' ret' [] rm as' h Qc) (hfr : rm.frames + 1 ≤ R.frames) (hlo : Wd + (ml' + 11) + rm.locals ≤ R.locals) (a : Addr) (E : Exa Z h a D) (argsL : List Value) (rest : List Value) (has : (.ref a :: argsL).toArray = as') {ps : List FieldType} {r' : Option FieldType} (hdesc : parseMethodDescriptor yr.desc = some ⟨ps, r'⟩) (hlen : argsL.length = ps.length) (hsz : Ls.size = ml) (hst : st = argsL.reverse ++ .ref a :: rest) (hW : (rest.map fun v => v.category).sum ≤ Wd)
    (hd : decode bytes pc = .ok (.invokevirtual index, 3)) (hc : cells + rm.cells ≤ R.cells) (hs : slots + rm.slots ≤ R.slots)
    (K : ∀ v T' h' vm1, Wk p l e R s m args below meth c Z a0 EL y bytes ml ret T' h' vm1 (cells + rm.cells) (slots + rm.slots) → Qc v h' → CHr Z EL vm0 h vm1 h' → Go p e below s Z EL KC KS Q T' (mkF m (pc + 3) Ls (v.toList ++ rest))) : Go p e below s Z EL KC KS Q T (mkF m pc Ls st) := by
  have bk := W.back (len := 3) (Wd := Wd) C wc wz hfr hlo
  have hx := W.hx; have hd' := W.d hd
  obtain ⟨locs, X, hT, hZ, hown, -, -, hF, -, -, -, hml, -⟩ := id W
  obtain ⟨cB, kB, i1, -, i3⟩ := isOf hZ hT E
  obtain ⟨v, vm₁, B, -, X', h2, hg, ⟨L, hq, hl, hcc, hss, hC'⟩, stp⟩ := X.virtualBackS hx hown (mvT hZ wl) (mvT hZ wd) hnf (mvT hZ wsel) (mvT hZ wi) hy bk i1 i3 (g := mkF m pc Ls st) rfl (by rw [hml]; exact hsz) (Steps.refl _) (argsL := argsL) (rest := rest) (lenOf hdesc hlen) hst (by show 2 * 0 + _ ≤ _; omega) hd' (fun vm₁ _ => ⟨has, hT, hc, hs⟩)
  exact Go.step (fun _ k => stp.trans k) (K v B.U B.U.heap B.U.vm (W.behind (rm := rm) (Qc := Qc) hF X' h2 hg hl hq hcc hss hC') hq.1 hC')
theorem Wk.iface (W : Wk p l e R s m args below meth c Z a0 EL y bytes ml ret T h vm0 cells slots) {index count : Nat} {yr y' : MethodName} {D : String} {bytes' : ByteArray} {ml' : Nat} {ret' : Option FieldType} {rm : Room} {as' : Array Value} {Qc : Option Value → Heap → Prop} {Wd : Nat}
    (wl : (Cond.methodLink y.cls index yr).before a0 Z = true) (wd : (Cond.declares yr).before a0 Z = true) (wf : (Cond.interfaceMethod yr.cls yr.cls yr.name yr.desc).before a0 Z = true) (wsel : (Cond.selects D yr y').before a0 Z = true) (wi : (Cond.instanceMethod y').before a0 Z = true) (wp : (Cond.publicMethod y').before a0 Z = true) (wu : (Cond.unhidden D yr.name yr.desc).before a0 Z = true) (wk : (Cond.castable D yr.cls).before a0 Z = true) (wz : (Cond.initialized y'.cls).before a0 Z = true) (wc : (Cond.code y' bytes' ml' ret').before a0 Z = true) (hy : yr.cls ≠ "java/lang/invoke/MethodHandle" ∧ yr.cls ≠ "java/lang/invoke/VarHandle")
    (C : Con l Z EL y' bytes' ml' ret' [] rm as' h Qc) (hfr : rm.frames + 1 ≤ R.frames) (hlo : Wd + (ml' + 11) + rm.locals ≤ R.locals) (a : Addr) (E : Exa Z h a D) (argsL : List Value) (rest : List Value) (has : (.ref a :: argsL).toArray = as') {ps : List FieldType} {r' : Option FieldType} (hdesc : parseMethodDescriptor yr.desc = some ⟨ps, r'⟩) (hlen : argsL.length = ps.length) (hsz : Ls.size = ml) (hst : st = argsL.reverse ++ .ref a :: rest) (hW : (rest.map fun v => v.category).sum ≤ Wd)
    (hd : decode bytes pc = .ok (.invokeinterface index count, 5)) (hc : cells + rm.cells ≤ R.cells) (hs : slots + rm.slots ≤ R.slots)
    (K : ∀ v T' h' vm1, Wk p l e R s m args below meth c Z a0 EL y bytes ml ret T' h' vm1 (cells + rm.cells) (slots + rm.slots) → Qc v h' → CHr Z EL vm0 h vm1 h' → Go p e below s Z EL KC KS Q T' (mkF m (pc + 5) Ls (v.toList ++ rest))) : Go p e below s Z EL KC KS Q T (mkF m pc Ls st) := by
  have bk := W.back (len := 5) (Wd := Wd) C wc wz hfr hlo
  have hx := W.hx; have hd' := W.d hd
  obtain ⟨locs, X, hT, hZ, hown, -, -, hF, -, -, -, hml, -⟩ := id W
  obtain ⟨cB, kB, i1, i2, i3⟩ := isOf hZ hT E
  obtain ⟨v, vm₁, B, -, X', h2, hg, ⟨L, hq, hl, hcc, hss, hC'⟩, stp⟩ := X.interfaceBackS hx hown (mvT hZ wl) (mvT hZ wd) (mvT hZ wf (by simp [Cond.onTables, Cond.keepsFace, Cond.faceAtom, Cond.keeps, Cond.steady, hy.1, hy.2])) (mvT hZ wsel) (mvT hZ wi) (mvT hZ wp) (mvT hZ wu) (mvT hZ wk) hy bk i1 i2 i3 (g := mkF m pc Ls st) rfl (by rw [hml]; exact hsz) (Steps.refl _) (argsL := argsL) (rest := rest) (lenOf hdesc hlen) hst (by show 2 * 0 + _ ≤ _; omega) hd' (fun vm₁ _ => ⟨has, hT, hc, hs⟩)
  exact Go.step (fun _ k => stp.trans k) (K v B.U B.U.heap B.U.vm (W.behind (rm := rm) (Qc := Qc) hF X' h2 hg hl hq hcc hss hC') hq.1 hC')
/-- behind a call by a law that interns nothing -/
theorem Wk.behindB (W : Wk p l e R s m args below meth c Z a0 EL y bytes ml ret T h vm0 cells slots) {kc ks : Nat} {locs L : List Loc} {ws : List Addr} (hF : Fr Z.heap.size locs) {B : Pt} (X' : Stand p l e R (s.setVm vm0) m args below meth c B.U B.locs B.cells B.slots) (hl : B.locs = locs ++ L) (hc : B.cells = cells + kc) (hs : B.slots = slots + ks) (hFL : Fr Z.heap.size L) (Kp : Keep h B.U.heap ws) (hsf : ∀ x ∈ ws, Safe Z EL vm0 h x) (hge : ∀ x ∈ ws, Z.heap.size ≤ x) :
    Wk p l e R s m args below meth c Z a0 EL y bytes ml ret B.U B.U.heap vm0 (cells + kc) (slots + ks) := by
  obtain ⟨_, X, hT, hZ, hown, ⟨k0, hS, hk⟩, hC, -, hE, r⟩ := W
  rw [hl, hc, hs] at X'
  exact ⟨_, X', rfl, hZ, hown, ⟨k0, hS, Nat.le_trans hk Kp.1⟩, hC.trans (CHr.keep Kp hsf hC.1), hF.app hFL, ext_keep hE Kp hge, r⟩
theorem Wk.specialB (W : Wk p l e R s m args below meth c Z a0 EL y bytes ml ret T h vm0 cells slots) {index : Nat} {y' : MethodName} {bytes' : ByteArray} {ml' : Nat} {as' : Array Value} {Qb : Option Value → Heap → List Loc → Prop} {kc ks Wd : Nat} (hin : y'.name = "<init>")
    (wl : (Cond.methodLink y.cls index y').before a0 Z = true) (wi : (Cond.instanceMethod y').before a0 Z = true) (wc : (Cond.code y' bytes' ml' none).before a0 Z = true) (hy : y'.cls ≠ "java/lang/invoke/MethodHandle" ∧ y'.cls ≠ "java/lang/invoke/VarHandle")
    (bk : Back l R p e below (s.setVm vm0) args y' 3 Wd (fun A a => a = as' ∧ A.U.heap = h ∧ A.cells + kc ≤ R.cells ∧ A.slots + ks ≤ R.slots) (fun A _ v B => ∃ L, Qb v B.U.heap L ∧ B.locs = A.locs ++ L ∧ B.cells = A.cells + kc ∧ B.slots = A.slots + ks))
    (ws : List Addr) (hQ : ∀ v h' L, Qb v h' L → Fr Z.heap.size L ∧ Keep h h' ws) (hsf : ∀ x ∈ ws, Safe Z EL vm0 h x) (hge : ∀ x ∈ ws, Z.heap.size ≤ x)
    (a : Addr) (argsL : List Value) (rest : List Value) (has : (.ref a :: argsL).toArray = as') {ps : List FieldType} {r' : Option FieldType} (hdesc : parseMethodDescriptor y'.desc = some ⟨ps, r'⟩) (hlen : argsL.length = ps.length) (hsz : Ls.size = ml) (hst : st = argsL.reverse ++ .ref a :: rest) (hW : (rest.map fun v => v.category).sum ≤ Wd)
    (hd : decode bytes pc = .ok (.invokespecial index, 3)) (hc : cells + kc ≤ R.cells) (hs : slots + ks ≤ R.slots)
    (K : ∀ v T' h' L, Wk p l e R s m args below meth c Z a0 EL y bytes ml ret T' h' vm0 (cells + kc) (slots + ks) → Qb v h' L → Go p e below s Z EL KC KS Q T' (mkF m (pc + 3) Ls (v.toList ++ rest))) : Go p e below s Z EL KC KS Q T (mkF m pc Ls st) := by
  have hx := W.hx; have hd' := W.d hd
  obtain ⟨locs, X, hT, hZ, hown, -, -, hF, -, -, -, hml, -⟩ := id W
  obtain ⟨v, vm₁, B, -, X', ⟨L, hq, hl, hcc, hss⟩, stp⟩ := X.specialBack hx hin hown (mvT hZ wl) (mvT hZ wi) (mvT hZ wc) hy bk (g := mkF m pc Ls st) rfl (by rw [hml]; exact hsz) (Steps.refl _) (a := a) (argsL := argsL) (rest := rest) (lenOf hdesc hlen) hst (by show 2 * 0 + _ ≤ _; omega) hd' (fun vm₁ _ => ⟨has, hT, hc, hs⟩)
  obtain ⟨f1, f2⟩ := hQ _ _ _ hq
  exact Go.step (fun _ k => stp.trans k) (K v B.U B.U.heap L (W.behindB hF X' hl hcc hss f1 f2 hsf hge) hq)
theorem Wk.virtualB (W : Wk p l e R s m args below meth c Z a0 EL y bytes ml ret T h vm0 cells slots) {index : Nat} {yr y' : MethodName} {D : String} {as' : Array Value} {Qb : Option Value → Heap → List Loc → Prop} {kc ks Wd : Nat}
    (wl : (Cond.methodLink y.cls index yr).before a0 Z = true) (wd : (Cond.declares yr).before a0 Z = true) (hnf : NotFace (s.setVm vm0) yr) (wsel : (Cond.selects D yr y').before a0 Z = true) (wi : (Cond.instanceMethod y').before a0 Z = true) (hy : yr.cls ≠ "java/lang/invoke/MethodHandle" ∧ yr.cls ≠ "java/lang/invoke/VarHandle")
    (bk : Back l R p e below (s.setVm vm0) args y' 3 Wd (fun A a => a = as' ∧ A.U.heap = h ∧ A.cells + kc ≤ R.cells ∧ A.slots + ks ≤ R.slots) (fun A _ v B => ∃ L, Qb v B.U.heap L ∧ B.locs = A.locs ++ L ∧ B.cells = A.cells + kc ∧ B.slots = A.slots + ks))
    (ws : List Addr) (hQ : ∀ v h' L, Qb v h' L → Fr Z.heap.size L ∧ Keep h h' ws) (hsf : ∀ x ∈ ws, Safe Z EL vm0 h x) (hge : ∀ x ∈ ws, Z.heap.size ≤ x)
    (a : Addr) (E : Exa Z h a D) (argsL : List Value) (rest : List Value) (has : (.ref a :: argsL).toArray = as') {ps : List FieldType} {r' : Option FieldType} (hdesc : parseMethodDescriptor yr.desc = some ⟨ps, r'⟩) (hlen : argsL.length = ps.length) (hsz : Ls.size = ml) (hst : st = argsL.reverse ++ .ref a :: rest) (hW : (rest.map fun v => v.category).sum ≤ Wd)
    (hd : decode bytes pc = .ok (.invokevirtual index, 3)) (hc : cells + kc ≤ R.cells) (hs : slots + ks ≤ R.slots)
    (K : ∀ v T' h' L, Wk p l e R s m args below meth c Z a0 EL y bytes ml ret T' h' vm0 (cells + kc) (slots + ks) → Qb v h' L → Go p e below s Z EL KC KS Q T' (mkF m (pc + 3) Ls (v.toList ++ rest))) : Go p e below s Z EL KC KS Q T (mkF m pc Ls st) := by
  have hx := W.hx; have hd' := W.d hd
  obtain ⟨locs, X, hT, hZ, hown, -, -, hF, -, -, -, hml, -⟩ := id W
  obtain ⟨cB, kB, i1, -, i3⟩ := isOf hZ hT E
  obtain ⟨v, vm₁, B, -, X', ⟨L, hq, hl, hcc, hss⟩, stp⟩ := X.virtualBack hx hown (mvT hZ wl) (mvT hZ wd) hnf (mvT hZ wsel) (mvT hZ wi) hy bk i1 i3 (g := mkF m pc Ls st) rfl (by rw [hml]; exact hsz) (Steps.refl _) (argsL := argsL) (rest := rest) (lenOf hdesc hlen) hst (by show 2 * 0 + _ ≤ _; omega) hd' (fun vm₁ _ => ⟨has, hT, hc, hs⟩)
  obtain ⟨f1, f2⟩ := hQ _ _ _ hq
  exact Go.step (fun _ k => stp.trans k) (K v B.U B.U.heap L (W.behindB hF X' hl hcc hss f1 f2 hsf hge) hq)
theorem Wk.ldcI (W : Wk p l e R s m args below meth c Z a0 EL y bytes ml ret T h vm0 cells slots) {index : Nat} {v : Int32} (w : (Cond.constant y.cls index v).before a0 Z = true) (hd : decode bytes pc = .ok (.ldc index, 2)) (K : Go p e below s Z EL KC KS Q T (mkF m (pc + 2) Ls (.int v :: rest))) : Go p e below s Z EL KC KS Q T (mkF m pc Ls rest) := by
  obtain ⟨_, X, -, hZ, hown, -⟩ := id W
  exact Go.step (X.ldcInt W.hx hown (mvT hZ w) (g := mkF m pc Ls rest) rfl (W.d hd)) K
theorem Wk.ldc2 (W : Wk p l e R s m args below meth c Z a0 EL y bytes ml ret T h vm0 cells slots) {index : Nat} {v : Int64} (w : (Cond.constantLong y.cls index v).before a0 Z = true) (hd : decode bytes pc = .ok (.ldc2_w index, 3)) (K : Go p e below s Z EL KC KS Q T (mkF m (pc + 3) Ls (.long v :: rest))) : Go p e below s Z EL KC KS Q T (mkF m pc Ls rest) := by
  obtain ⟨_, X, -, hZ, hown, -⟩ := id W
  exact Go.step (X.ldc2Long W.hx hown (mvT hZ w) (g := mkF m pc Ls rest) rfl (W.d hd)) K
/-- the end of a walk -/
theorem Wk.leave (W : Wk p l e R s m args below meth c Z a0 EL y bytes ml ret T h vm0 cells slots) {v : Option Value} (hv : ret = none → v = none) (hq : Q v h) (hc : cells ≤ KC) (hs : slots ≤ KS)
    (f : ∀ (locs : List Loc) (fs : List Frame), Stand p l e R (s.setVm vm0) m args below meth c T locs cells slots → meth.sig.returnType = ret → (∀ (f : JFrame) (acts : List Action), f.method = m → f.locked = none → f.entered = [] → (doReturn e (T.setTop f) acts v).1 = T.setFrames fs) → Steps p.tables e below (T.setTop g) (T.setFrames fs)) : Go p e below s Z EL KC KS Q T g := by
  obtain ⟨locs, X, hT, hZ, hown, ⟨k0, hS, hk⟩, hC, hF, hE, r1, r2, r3, r4, r5, r6, hEL⟩ := W
  obtain ⟨fs, hr, hrun, hended, hW⟩ := X.leaveW hS (by rw [hT]; exact hk) (v := v) (fun q => hv (r4.symm.trans q))
  refine ⟨_, _, f locs fs X r4 hr, hrun, hended, v, locs, rfl, ⟨?_, hF, ?_⟩, ?_, hW.1, hW.2.1, hW.2.2.1, hW.2.2.2.mono hc hs⟩
  · show Q v T.heap
    rw [hT]; exact hq
  · show Ext Z.heap T.heap
    rw [hT]; exact hE
  · show CHr Z EL s.vm s.heap T.vm T.heap
    rw [hT]; exact hC.trans (CHv.at X hZ hEL hC.1)
theorem Wk.retV (W : Wk p l e R s m args below meth c Z a0 EL y bytes ml none T h vm0 cells slots) (hd : decode bytes pc = .ok (.return_, 1)) (hq : Q none h) (hc : cells ≤ KC) (hs : slots ≤ KS) : Go p e below s Z EL KC KS Q T (mkF m pc Ls []) :=
  W.leave (fun _ => rfl) hq hc hs fun locs fs X hret hr => X.returnOut W.hx hret (W.d hd) hr
theorem Wk.retN {t : FieldType} (W : Wk p l e R s m args below meth c Z a0 EL y bytes ml (some t) T h vm0 cells slots) (ht : t = .boolean ∨ t = .byte ∨ t = .char ∨ t = .short) {z : Int32} (hd : decode bytes pc = .ok (.ireturn, 1)) (hq : Q (some (.int (nar t z))) h) (hc : cells ≤ KC) (hs : slots ≤ KS) : Go p e below s Z EL KC KS Q T (mkF m pc Ls (.int z :: rest)) :=
  W.leave (fun q => by cases q) hq hc hs fun locs fs X hret hr => RoadKit.retN X W.hx hret ht (W.d hd) hr
theorem Wk.retI (W : Wk p l e R s m args below meth c Z a0 EL y bytes ml (some .int) T h vm0 cells slots) {z : Int32} (hd : decode bytes pc = .ok (.ireturn, 1)) (hq : Q (some (.int z)) h) (hc : cells ≤ KC) (hs : slots ≤ KS) : Go p e below s Z EL KC KS Q T (mkF m pc Ls (.int z :: rest)) :=
  W.leave (fun q => by cases q) hq hc hs fun locs fs X hret hr => retOut X W.hx hret rfl (Or.inl ⟨rfl, Or.inl rfl, z, rfl⟩) (W.d hd) hr
theorem Wk.retL (W : Wk p l e R s m args below meth c Z a0 EL y bytes ml (some .long) T h vm0 cells slots) {z : Int64} (hd : decode bytes pc = .ok (.lreturn, 1)) (hq : Q (some (.long z)) h) (hc : cells ≤ KC) (hs : slots ≤ KS) : Go p e below s Z EL KC KS Q T (mkF m pc Ls (.long z :: rest)) :=
  W.leave (fun q => by cases q) hq hc hs fun locs fs X hret hr => retOut X W.hx hret rfl (Or.inr (Or.inl ⟨rfl, rfl, z, rfl⟩)) (W.d hd) hr
theorem Wk.retR {t : FieldType} (W : Wk p l e R s m args below meth c Z a0 EL y bytes ml (some t) T h vm0 cells slots) (ht : t.isReference = true) {v : Value} (hv : v.isRef = true) (hnr : narrow t v = v) (hd : decode bytes pc = .ok (.areturn, 1)) (hq : Q (some v) h) (hc : cells ≤ KC) (hs : slots ≤ KS) : Go p e below s Z EL KC KS Q T (mkF m pc Ls (v :: rest)) :=
  W.leave (fun q => by cases q) hq hc hs fun locs fs X hret hr => retOut X W.hx hret hnr (Or.inr (Or.inr (Or.inr (Or.inr ⟨rfl, ht, hv⟩)))) (W.d hd) hr
end Walk
section Facts
variable {Z : State} {h h' : Heap} {a b o : Addr} {C K S : String} {a0 : Array Value} {EL : List (String × Nat)} {vm : Vm}
theorem nin1 {x y : Addr} (q : x ≠ y) : x ∉ [y] := ninS q nin0
/-- K is no interface -/
def NoFace (Z : State) (K : String) : Prop := ∃ (t : ClassId) (kt : Class), Z.vm.findClass K = some t ∧ Z.vm.classes[t]? = some kt ∧ kt.isInterface = false
theorem nf_inst {n : Nat} (wk : (Cond.instantiable K n).before a0 Z = true) : NoFace Z K := by
  obtain ⟨t, kt, g1, g2, -, g4, -⟩ := Cond.instantiable_spec wk
  exact ⟨t, kt, g1, g2, by simp only [Bool.or_eq_false_iff] at g4; exact g4.1⟩
theorem nf_sel {y : MethodName} (w : (Cond.selects y.cls y y).before a0 Z = true) : NoFace Z y.cls := by
  obtain ⟨c, r, m, -, -, h3, -, mk, h5, h6⟩ := Cond.selects_spec w
  exact ⟨m.cls, mk, findClass_of_methodNamed h3, h5, h6⟩
/-- C's chain of superclasses does not meet K -/
theorem NSr {O : String} (w : (Cond.noSuperclass O).before a0 Z = true) (wk : NoFace Z K) (hn : O ≠ K) : NS Z O K := by
  obtain ⟨c, k, h1, h2, h3, -, -⟩ := Cond.noSuperclass_spec w
  obtain ⟨t, kt, g1, -⟩ := wk
  have ne := ids_ne h1 g1 hn
  refine ⟨c, t, h1, g1, fun fuel => ?_⟩
  cases fuel with
  | zero => rfl
  | succ f => simp [Vm.isSubclassAux, ne, h2, h3]
theorem NSno (w : (Cond.superclass C S).before a0 Z = true) (wk : NoFace Z K) (q : NS Z C K) (hn : C ≠ K) : ∃ c t, Z.vm.findClass C = some c ∧ Z.vm.findClass K = some t ∧ Z.vm.assignable c t = false := by
  obtain ⟨c, t, h0, g0, n3⟩ := q
  obtain ⟨p, k, kp, h1, h2, h3, h4, h5, -, h7⟩ := Cond.superclass_spec h0 w
  obtain ⟨t', kt, g1, g2, g7⟩ := wk
  cases g0.symm.trans g1
  have ne := ids_ne h0 g0 hn
  refine ⟨c, t, h0, g0, ?_⟩
  show Z.vm.assignableAux (255 + 1) c t = false
  cases hk : kt.kind <;> simp [Vm.assignableAux, ne, h2, g2, h5, hk, g7, Vm.isSubclass, n3]
/-- a String that is being made is none that the tables book: it has no array yet -/
theorem Safe.blank (hal : Z.vm.Alike vm) (E : Exa Z h a "java/lang/String") (F : Fld Z h a "java/lang/String" "value" "[B" .null) : Safe Z EL vm h a := fun B => by
  obtain ⟨cell, k, e1, e2, e3, -, -⟩ := E
  obtain ⟨cell', cf, kf, i, f, f1, f2, -, -, -, -, f7⟩ := F
  cases f1.symm.trans e1
  obtain ⟨pp, -, u, a', -, q, -, F', hy⟩ := B
  rcases hy with rfl | rfl
  · cases (show h[q.sa]? = some q.sC from F'.ha).symm.trans e1
    obtain ⟨cS, ⟨⟨-, -, -, ⟨c1, k1, i1, g1, -⟩, -, -, -, v1, -⟩, -⟩, -⟩ := F'
    obtain ⟨k3, g3, -⟩ := State.fieldFound?_setVm (s := Z) hal f2
    have g4 := (show (Wst Z vm h).fieldFound? "java/lang/String" "value" "[B" = _ from g3).symm.trans g1
    simp only [Option.some.injEq, Prod.mk.injEq] at g4
    rw [← g4.2.2.2, f7] at v1
    cases v1
  · cases (show h[q.sd]? = some q.SA from F'.hd).symm.trans e1
    obtain ⟨cS, ⟨⟨-, -, -, -, -, -, -, -, -, -, ⟨-, kB, hkB, compB, hkindB⟩, -⟩, -, -⟩, -, hB, -⟩ := F'
    have hB' : vm.findClass "[B" = some q.SA.cls := hB
    rw [hal.findClass] at hB'
    exact (ids_ne (C := "[B") (K := "java/lang/String") hB' e2 (by decide)) rfl
/-- a String: its signs, each below 256 -/
def Str (Z : State) (h : Heap) (a : Addr) (cs : List Int32) : Prop := ∃ (t : Addr) (kb : ClassId), Exa Z h a "java/lang/String" ∧ Fld Z h a "java/lang/String" "value" "[B" (.ref t) ∧ Fld Z h a "java/lang/String" "coder" "B" (.int 0) ∧ Arv Z h t kb .byte (Int32.ofNat cs.length) (cs.map fun c => Value.int c.toInt8.toInt32) (.int 0) ∧ (∀ c ∈ cs, ¬ c < 0 ∧ ¬ (255 : Int32) < c) ∧ cs.length ≤ 4000
variable {cs : List Int32} {ws : List Addr}
theorem Str.exa (F : Str Z h a cs) : Exa Z h a "java/lang/String" := by obtain ⟨_, _, r, -⟩ := F; exact r
theorem Str.ext (F : Str Z h a cs) (E : Ext h h') : Str Z h' a cs := by
  obtain ⟨t, kb, q1, q2, q3, q4, r⟩ := F
  exact ⟨t, kb, q1.ext E, q2.ext E, q3.ext E, q4.ext E, r⟩
theorem Str.keep0 (F : Str Z h a cs) (K : Keep h h' []) : Str Z h' a cs := F.ext (ext_keep0 K)
theorem Str.keepE {n : Nat} (F : Str Z h a cs) (K : Keep h h' [o]) (E : Exa Z h o C) (hn : C ≠ "java/lang/String") (wi : (Cond.instantiable C n).before a0 Z = true) : Str Z h' a cs := by
  obtain ⟨t, kb, q1, q2, q3, q4, r⟩ := F
  have n1 : a ≠ o := fun q => (Exa.ne E q1 hn) q.symm
  have n2 : t ≠ o := fun q => (Exa.neArv E q4 wi) q.symm
  exact ⟨t, kb, q1.keep K, q2.keep K (nin1 n1), q3.keep K (nin1 n1), q4.keep K (nin1 n2), r⟩
theorem arv_sort {k k' : ClassId} {ty ty' : FieldType} {z z' : Int32} {vs vs' : List Value} {d d' : Value} (A : Arv Z h a k ty z vs d) (B : Arv Z h b k' ty' z' vs' d') (hn : ty ≠ ty') : a ≠ b := fun q => by
  subst q
  obtain ⟨c1, ⟨e1, ⟨-, k1, f1, m1, g1⟩, -⟩, -⟩ := A
  obtain ⟨c2, ⟨e2, ⟨-, k2, f2, m2, g2⟩, -⟩, -⟩ := B
  cases e1.symm.trans e2
  cases f1.symm.trans f2
  have := g1.symm.trans g2
  injection this with _ e
  exact hn e
theorem Str.keepC {n : Nat} {k : ClassId} {ty : FieldType} {z : Int32} {vs : List Value} {d : Value} (F : Str Z h a cs) (K : Keep h h' [o]) (V : Arv Z h o k ty z vs d) (ht : FieldType.byte ≠ ty) (wi : (Cond.instantiable "java/lang/String" n).before a0 Z = true) : Str Z h' a cs := by
  obtain ⟨t, kb, q1, q2, q3, q4, r⟩ := F
  have n1 : a ≠ o := Exa.neArv q1 V wi
  have n2 : t ≠ o := arv_sort q4 V ht
  exact ⟨t, kb, q1.keep K, q2.keep K (nin1 n1), q3.keep K (nin1 n1), q4.keep K (nin1 n2), r⟩
theorem Str.keepS {n : Nat} (F : Str Z h a cs) (K : Keep h h' [o]) (E : Exa Z h o C) (wi : (Cond.instantiable C n).before a0 Z = true) (n1 : a ≠ o) : Str Z h' a cs := by
  obtain ⟨t, kb, q1, q2, q3, q4, r⟩ := F
  have n2 : t ≠ o := fun q => (Exa.neArv E q4 wi) q.symm
  exact ⟨t, kb, q1.keep K, q2.keep K (nin1 n1), q3.keep K (nin1 n1), q4.keep K (nin1 n2), r⟩
abbrev Sm (c : Int32) : Prop := ¬ c < 0 ∧ ¬ (255 : Int32) < c
theorem sm0 {P : Int32 → Prop} : ∀ x ∈ ([] : List Int32), P x := fun _ q => nomatch q
theorem smS {P : Int32 → Prop} {y : Int32} {L : List Int32} (q : P y) (r : ∀ x ∈ L, P x) : ∀ x ∈ y :: L, P x := fun x z => (List.mem_cons.mp z).elim (fun u => u ▸ q) (r x)
abbrev B2 (z : Int32) : Prop := z = 0 ∨ z = 1
abbrev T3 (z : Int32) : Prop := z = 0 ∨ z = 1 ∨ z = 2
/-- the signs of a text of at most two -/
def sel (n c0 c1 : Int32) : List Int32 := if n = 0 then [] else if n = 1 then [c0] else [c0, c1]
theorem sel_eq {n k a b c d : Int32} (hn : T3 n) (hk : T3 k) : sel n a b = sel k c d ↔ n = k ∧ (n < 1 ∨ a = c) ∧ (n < 2 ∨ b = d) := by
  rcases hn with rfl | rfl | rfl <;> rcases hk with rfl | rfl | rfl <;> simp [sel] <;> decide
theorem sel_sm {n a b : Int32} (ha : Sm a) (hb : Sm b) : ∀ c ∈ sel n a b, Sm c := by
  unfold sel
  split
  · exact sm0
  · split
    · exact smS ha sm0
    · exact smS ha (smS hb sm0)
/-- numbers below 256 -/
theorem fin256 {P : Int32 → Prop} (t : ∀ k : Fin 256, P (Int32.ofNat k.val)) {c : Int32} (h0 : ¬ c < 0) (h1 : ¬ (255 : Int32) < c) : P c := by
  rw [Int32.lt_iff_toInt_lt] at h0 h1
  have e0 : (0 : Int32).toInt = 0 := rfl
  have e1 : (255 : Int32).toInt = 255 := rfl
  have e : Int32.ofNat c.toInt.toNat = c := by
    rw [show Int32.ofNat c.toInt.toNat = Int32.ofInt (c.toInt.toNat : Int) from rfl, Int.toNat_of_nonneg (by omega)]; exact Int32.ofInt_toInt c
  have q := t ⟨c.toInt.toNat, by omega⟩
  rw [e] at q; exact q
theorem nar_small {c : Int32} (h : ¬ c < 0 ∧ ¬ (255 : Int32) < c) : nar .char c = c := fin256 (P := fun c => nar .char c = c) (by decide +kernel) h.1 h.2
theorem nar_byte8 {c : Int32} (h : ¬ c < 0 ∧ ¬ (255 : Int32) < c) : nar .byte (c.toInt8.toInt32) = c.toInt8.toInt32 := fin256 (P := fun c => nar .byte (c.toInt8.toInt32) = c.toInt8.toInt32) (by decide +kernel) h.1 h.2
theorem low_back {c : Int32} (h : ¬ c < 0 ∧ ¬ (255 : Int32) < c) : c.toInt8.toInt32 &&& 255 = c := fin256 (P := fun c => c.toInt8.toInt32 &&& 255 = c) (by decide +kernel) h.1 h.2
theorem low_inj {x y : Int32} (hx : Sm x) (hy : Sm y) (e : x.toInt8.toInt32 = y.toInt8.toInt32) : x = y := by
  have q := low_back hx
  rw [e, low_back hy] at q; exact q.symm
theorem Str.uniq {ds : List Int32} (F : Str Z h a cs) (G : Str Z h a ds) : cs = ds := by
  obtain ⟨t, kb, -, q2, -, q4, q5, q6⟩ := F
  obtain ⟨t', kb', -, r2, -, r4, r5, r6⟩ := G
  have et : t = t' := by
    obtain ⟨c1, _, _, _, _, h1, h2, -, -, -, -, h7⟩ := q2
    obtain ⟨c2, _, _, _, _, g1, g2, -, -, -, -, g7⟩ := r2
    cases h1.symm.trans g1; cases h2.symm.trans g2
    have := h7.symm.trans g7
    simpa using this
  subst et
  obtain ⟨c1, A1, -, s1, -, H1, -⟩ := q4
  obtain ⟨c2, A2, -, s2, -, H2, -⟩ := r4
  cases A1.1.symm.trans A2.1
  have n32 : ∀ n : Nat, n ≤ 4000 → (Int32.ofNat n).toNatClampNeg = n := fun n hn => by
    rw [Int32.toNatClampNeg, Int32.toInt_ofNat_of_lt (by omega)]; rfl
  rw [n32 _ q6] at s1
  rw [n32 _ r6] at s2
  have hl : cs.length = ds.length := s1.symm.trans s2
  apply List.ext_getElem hl
  intro i h1 h2
  have e1 := H1 i (by omega)
  have e2 := H2 i (by omega)
  rw [e1] at e2
  simp only [List.getD_eq_getElem?_getD, List.getElem?_map, List.getElem?_eq_getElem h1, List.getElem?_eq_getElem h2, Option.map_some, Option.getD_some, Option.some.injEq, Value.int.injEq] at e2
  exact low_inj (q5 _ (List.getElem_mem h1)) (r5 _ (List.getElem_mem h2)) e2
theorem maskN (k : Nat) (m : Int32) (hm : m.toBitVec.toNat = k) (x : Int32) : ∃ j : Nat, j ≤ k ∧ x &&& m = Int32.ofNat j := by
  refine ⟨(x &&& m).toBitVec.toNat, ?_, ?_⟩
  · simp only [Int32.toBitVec_and, BitVec.toNat_and]
    rw [hm]; exact Nat.and_le_right
  · apply Int32.toBitVec_inj.mp
    show _ = BitVec.ofNat 32 _
    rw [BitVec.ofNat_toNat]; simp
theorem maskL (k : Nat) (m : Int64) (hm : m.toBitVec.toNat = k) (x : Int64) : ∃ j : Nat, j ≤ k ∧ x &&& m = Int64.ofNat j := by
  refine ⟨(x &&& m).toBitVec.toNat, ?_, ?_⟩
  · simp only [Int64.toBitVec_and, BitVec.toNat_and]
    rw [hm]; exact Nat.and_le_right
  · apply Int64.toBitVec_inj.mp
    show _ = BitVec.ofNat 64 _
    rw [BitVec.ofNat_toNat]; simp
/-- (char) (x & 255) -/
theorem chr255 (x : Int32) : ¬ ((x &&& (255 : Int32)).toUInt32.toUInt16.toUInt32.toInt32) < 0 ∧ ¬ (255 : Int32) < ((x &&& (255 : Int32)).toUInt32.toUInt16.toUInt32.toInt32) := by
  have t : ∀ k : Fin 256, ¬ ((Int32.ofNat k.val).toUInt32.toUInt16.toUInt32.toInt32) < 0 ∧ ¬ (255 : Int32) < ((Int32.ofNat k.val).toUInt32.toUInt16.toUInt32.toInt32) := by decide +kernel
  obtain ⟨j, hj, e⟩ := maskN 255 255 rfl x
  rw [e]; exact t ⟨j, by omega⟩
theorem rem3 (x : Int32) : (x &&& (3 : Int32)) - ((x &&& (3 : Int32)) / (3 : Int32)) * (3 : Int32) = 0 ∨ (x &&& (3 : Int32)) - ((x &&& (3 : Int32)) / (3 : Int32)) * (3 : Int32) = 1 ∨ (x &&& (3 : Int32)) - ((x &&& (3 : Int32)) / (3 : Int32)) * (3 : Int32) = 2 := by
  have t : ∀ k : Fin 4, (Int32.ofNat k.val) - ((Int32.ofNat k.val) / (3 : Int32)) * (3 : Int32) = 0 ∨ (Int32.ofNat k.val) - ((Int32.ofNat k.val) / (3 : Int32)) * (3 : Int32) = 1 ∨ (Int32.ofNat k.val) - ((Int32.ofNat k.val) / (3 : Int32)) * (3 : Int32) = 2 := by decide +kernel
  obtain ⟨j, hj, e⟩ := maskN 3 3 rfl x
  rw [e]; exact t ⟨j, by omega⟩
end Facts
end Jvm.Own
namespace Jvm.Pilot.@@N@@
open Jvm Jvm.ClassFile Sem Op Lib Jvm.Free Jvm.Stand Jvm.LawKit Jvm.RoadKit Bundle Jvm.Own Jvm.Pilot.@@N@@.Jvm.D
/-- what every body of this claim may lean on -/
def Ctx (Z : State) (a0 : Array Value) (G1 : Int32) : Prop := (∀ d ∈ tables_1, d.before a0 Z = true) ∧ Sta Z Z.heap "java/lang/String" "COMPACT_STRINGS" "Z" (.int G1) ∧ ¬ G1 = 0 ∧ EW Z a0 consts_1
theorem Ctx.w {Z : State} {a0 : Array Value} {G1 : Int32} (X : Ctx Z a0 G1) (i : Nat) {d : Jvm.Cond} (q : tables_1[i]? = some d) : d.before a0 Z = true := X.1 d (List.mem_of_getElem? q)
theorem Ctx.el {Z : State} {a0 : Array Value} {G1 : Int32} (X : Ctx Z a0 G1) : EW Z a0 consts_1 := X.2.2.2
theorem Ctx.ws {Z : State} {a0 : Array Value} {G1 : Int32} (X : Ctx Z a0 G1) : ∀ a ∈ Bundle.stringAtoms, a.before a0 Z = true := fun d hd => X.1 d ((by decide +kernel : ∀ d ∈ Bundle.stringAtoms, d ∈ tables_1) d hd)
theorem pd_0 : parseMethodDescriptor "([CIILjava/lang/Void;)V" = some ⟨[(.array .char), .int, .int, (.object "java/lang/Void")], none⟩ := by decide +kernel
theorem pd_1 : parseMethodDescriptor "(C)Z" = some ⟨[.char], some .boolean⟩ := by decide +kernel
theorem pd_2 : parseMethodDescriptor "(C)[B" = some ⟨[.char], some (.array .byte)⟩ := by decide +kernel
theorem pd_3 : parseMethodDescriptor "([BB)V" = some ⟨[(.array .byte), .byte], none⟩ := by decide +kernel
theorem pd_4 : parseMethodDescriptor "([C)V" = some ⟨[(.array .char)], none⟩ := by decide +kernel
theorem pd_5 : parseMethodDescriptor "(C)Ljava/lang/String;" = some ⟨[.char], some (.object "java/lang/String")⟩ := by decide +kernel
theorem pd_6 : parseMethodDescriptor "([B[B)Z" = some ⟨[(.array .byte), (.array .byte)], some .boolean⟩ := by decide +kernel
theorem pd_7 : parseMethodDescriptor "(Ljava/lang/Object;)Z" = some ⟨[(.object "java/lang/Object")], some .boolean⟩ := by decide +kernel
theorem pd_8 : parseMethodDescriptor "(I)Ljava/lang/String;" = some ⟨[.int], some (.object "java/lang/String")⟩ := by decide +kernel
theorem pd_9 : parseMethodDescriptor "(Ljava/lang/String;Ljava/lang/String;Ljava/lang/String;I)V" = some ⟨[(.object "java/lang/String"), (.object "java/lang/String"), (.object "java/lang/String"), .int], none⟩ := by decide +kernel
theorem pd_10 : parseMethodDescriptor "(I)I" = some ⟨[.int], some .int⟩ := by decide +kernel
theorem pn_0 : plainName "java/lang/String" = true := by first | (simp [plainName, overriddenIn]; done) | decide +kernel
theorem pn_1 : plainName "java/lang/StringLatin1" = true := by first | (simp [plainName, overriddenIn]; done) | decide +kernel
theorem pn_2 : plainName "com/example/moderato/moderato/client/ImageHitEqualsPinLaw" = true := by first | (simp [plainName, overriddenIn]; done) | decide +kernel
theorem pn_3 : plainName "com/example/moderato/moderato/client/ImageHit" = true := by first | (simp [plainName, overriddenIn]; done) | decide +kernel
theorem de2_0 : decode jdk_42_method_149_code 0 = .ok (.aload_n 0, 1) := by decide +kernel
theorem de2_1 : decode jdk_42_method_149_code 1 = .ok (.invokespecial 1, 3) := by decide +kernel
theorem de2_4 : decode jdk_42_method_149_code 4 = .ok (.iload_n 3, 1) := by decide +kernel
theorem de2_5 : decode jdk_42_method_149_code 5 = .ok (.ifCond .ne 22, 3) := by decide +kernel
theorem de2_8 : decode jdk_42_method_149_code 8 = .ok (.aload_n 0, 1) := by decide +kernel
theorem de2_9 : decode jdk_42_method_149_code 9 = .ok (.ldc 7, 2) := by decide +kernel
theorem de2_11 : decode jdk_42_method_149_code 11 = .ok (.getfield 9, 3) := by decide +kernel
theorem de2_14 : decode jdk_42_method_149_code 14 = .ok (.putfield 9, 3) := by decide +kernel
theorem de2_17 : decode jdk_42_method_149_code 17 = .ok (.aload_n 0, 1) := by decide +kernel
theorem de2_18 : decode jdk_42_method_149_code 18 = .ok (.ldc 7, 2) := by decide +kernel
theorem de2_20 : decode jdk_42_method_149_code 20 = .ok (.getfield 15, 3) := by decide +kernel
theorem de2_23 : decode jdk_42_method_149_code 23 = .ok (.putfield 15, 3) := by decide +kernel
theorem de2_26 : decode jdk_42_method_149_code 26 = .ok (.return_, 1) := by decide +kernel
theorem efe2 (m : MethodId) (x0 x1 : Addr) : entryFrame m #[(.ref x0), (.ref x1), (.int (0 : Int32)), (.int (0 : Int32)), .null] 6 = mkF m 0 #[.val (.ref x0), .val (.ref x1), .val (.int (0 : Int32)), .val (.int (0 : Int32)), .val .null, .unset] [] := by first | (simp [entryFrame, mkF, argsToLocals, Value.category]; done) | rfl
set_option maxRecDepth 65536 in
set_option maxHeartbeats 40000000 in
theorem c_e2 {l : Launch} {Z : State} {a0 : Array Value} {G1 : Int32} (X : Ctx Z a0 G1) (a b : Addr) (h0 : Heap) (hE : Ext Z.heap h0) (ga : Z.heap.size ≤ a) (A : Exa Z h0 a "java/lang/String") (FV : Fld Z h0 a "java/lang/String" "value" "[B" .null) (FC : Fld Z h0 a "java/lang/String" "coder" "B" (.int (0 : Int32))) :
    Con l Z consts_1 (⟨"java/lang/String", "<init>", "([CIILjava/lang/Void;)V"⟩ : MethodName) jdk_42_method_149_code 6 none [] ({ frames := 1, cells := 4, slots := 8, locals := 12 } : Room) #[(.ref a), (.ref b), (.int (0 : Int32)), (.int (0 : Int32)), .null] h0 (fun v h => v = none ∧ Keep h0 h [a] ∧ Str Z h a []) := by
  refine Con.intro (plainFor_of_name pn_0) hE X.el ?_
  intro p e s m below meth c T W
  refine Go.cast (efe2 m a b) ?_
  refine Go.step (fun _ k => XS.aloadN W.here W.hx rfl (W.d de2_0) rfl rfl k) ?_
  show Go _ _ _ _ _ _ _ _ _ _ (mkF m 1 #[.val (.ref a), .val (.ref b), .val (.int (0 : Int32)), .val (.int (0 : Int32)), .val .null, .unset] [(.ref a)])
  refine W.initO (X.w 18 rfl) (X.w 19 rfl) (X.w 20 rfl) rfl de2_1 (by decide) (Wd := 0) (Nat.le_of_eq rfl) (by decide) ?_
  intro T W
  show Go _ _ _ _ _ _ _ _ _ _ (mkF m 4 #[.val (.ref a), .val (.ref b), .val (.int (0 : Int32)), .val (.int (0 : Int32)), .val .null, .unset] [])
  refine Go.step (fun _ k => XS.iloadN W.here W.hx rfl (W.d de2_4) rfl k) ?_
  show Go _ _ _ _ _ _ _ _ _ _ (mkF m 5 #[.val (.ref a), .val (.ref b), .val (.int (0 : Int32)), .val (.int (0 : Int32)), .val .null, .unset] [(.int (0 : Int32))])
  refine Go.step (fun _ k => XS.ifNo W.here W.hx rfl (W.d de2_5) rfl ((if0 _ _).trans (teq (rfl : (0 : Int32) = 0)).2) k) ?_
  show Go _ _ _ _ _ _ _ _ _ _ (mkF m 8 #[.val (.ref a), .val (.ref b), .val (.int (0 : Int32)), .val (.int (0 : Int32)), .val .null, .unset] [])
  refine Go.step (fun _ k => XS.aloadN W.here W.hx rfl (W.d de2_8) rfl rfl k) ?_
  show Go _ _ _ _ _ _ _ _ _ _ (mkF m 9 #[.val (.ref a), .val (.ref b), .val (.int (0 : Int32)), .val (.int (0 : Int32)), .val .null, .unset] [(.ref a)])
  refine W.ldcR (X.w 21 rfl) X.ws (List.mem_of_getElem? (i := 0) rfl) (vs := []) (z := 0) ⟨by decide +kernel, by decide +kernel⟩ (by decide) rfl de2_9 (n := 0) (by decide) (by decide) (by decide) (by decide) ?_
  intro T h1 vm1 a1 b1 k1 W E1 C1 A1 A2 A3 A4 N1
  show Go _ _ _ _ _ _ _ _ _ _ (mkF m 11 #[.val (.ref a), .val (.ref b), .val (.int (0 : Int32)), .val (.int (0 : Int32)), .val .null, .unset] [(.ref a1), (.ref a)])
  refine W.getF (host := "") (Or.inl (X.w 27 rfl)) Via.refl A3 de2_11 ?_
  intro T W
  show Go _ _ _ _ _ _ _ _ _ _ (mkF m 14 #[.val (.ref a), .val (.ref b), .val (.int (0 : Int32)), .val (.int (0 : Int32)), .val .null, .unset] [(.ref b1), (.ref a)])
  have B1 := A.ext E1
  have V1 := FV.ext E1
  have Cd1 := FC.ext E1
  have S1 : Safe Z consts_1 vm1 h1 a := Safe.blank W.hZ.alike B1 V1
  have H1 := W.chr.1
  refine W.putF (host := "") (Or.inl (X.w 27 rfl)) Via.refl V1 B1 (Or.inr ⟨(X.w 23 rfl), rfl, rfl⟩) (X.w 8 rfl) (ty := .array .byte) (by decide) rfl rfl ga S1 de2_14 ?_
  intro T h2 W Wr1 V2
  show Go _ _ _ _ _ _ _ _ _ _ (mkF m 17 #[.val (.ref a), .val (.ref b), .val (.int (0 : Int32)), .val (.int (0 : Int32)), .val .null, .unset] [])
  have S2 := Safe.wr Wr1 S1 H1 S1
  have ne1 : a ≠ b1 := Exa.neArv B1 A4 (X.w 8 rfl)
  have B2 := B1.wr Wr1
  have Cd2 := Cd1.other Wr1 (Or.inr (slot_ne (Or.inr (X.w 24 rfl)) (Or.inr (X.w 23 rfl)) (by decide) (t := .byte) (t' := .array .byte) (by decide) (by decide)))
  have Av2 := A4.other Wr1 (Ne.symm ne1)
  refine Go.step (fun _ k => XS.aloadN W.here W.hx rfl (W.d de2_17) rfl rfl k) ?_
  show Go _ _ _ _ _ _ _ _ _ _ (mkF m 18 #[.val (.ref a), .val (.ref b), .val (.int (0 : Int32)), .val (.int (0 : Int32)), .val .null, .unset] [(.ref a)])
  refine W.ldcR (X.w 21 rfl) X.ws (List.mem_of_getElem? (i := 0) rfl) (vs := []) (z := 0) ⟨by decide +kernel, by decide +kernel⟩ (by decide) rfl de2_18 (n := 0) (by decide) (by decide) (by decide) (by decide) ?_
  intro T h3 vm2 a2 b2 k2 W E2 C2 D1 D2 D3 D4 N2
  show Go _ _ _ _ _ _ _ _ _ _ (mkF m 20 #[.val (.ref a), .val (.ref b), .val (.int (0 : Int32)), .val (.int (0 : Int32)), .val .null, .unset] [(.ref a2), (.ref a)])
  have S3 := C2.safe B2.lt S2
  have B3 := B2.ext E2
  have V3 := V2.ext E2
  have Cd3 := Cd2.ext E2
  have Av3 := Av2.ext E2
  refine W.getF (host := "") (Or.inl (X.w 28 rfl)) Via.refl D2 de2_20 ?_
  intro T W
  show Go _ _ _ _ _ _ _ _ _ _ (mkF m 23 #[.val (.ref a), .val (.ref b), .val (.int (0 : Int32)), .val (.int (0 : Int32)), .val .null, .unset] [(.int (0 : Int32)), (.ref a)])
  refine W.putF (host := "") (Or.inl (X.w 28 rfl)) Via.refl Cd3 B3 (Or.inr ⟨(X.w 24 rfl), rfl, rfl⟩) (X.w 8 rfl) (ty := .byte) (by decide) rfl rfl ga S3 de2_23 ?_
  intro T h4 W Wr2 Cd4
  show Go _ _ _ _ _ _ _ _ _ _ (mkF m 26 #[.val (.ref a), .val (.ref b), .val (.int (0 : Int32)), .val (.int (0 : Int32)), .val .null, .unset] [])
  have V4 := V3.other Wr2 (Or.inr (slot_ne (Or.inr (X.w 23 rfl)) (Or.inr (X.w 24 rfl)) (by decide) (t := .array .byte) (t' := .byte) (by decide) (by decide)))
  refine W.retV de2_26 ⟨rfl, ?_, b1, k1, B3.wr Wr2, V4, Cd4, Av3.other Wr2 (Ne.symm ne1), sm0, Nat.zero_le _⟩ (by decide) (by decide)
  exact ((((Keep.refl h0 [a]).ext E1).wr Wr1 (Or.inl (by simp))).ext E2).wr Wr2 (Or.inl (by simp))
theorem de1_0 : decode jdk_42_method_3_code 0 = .ok (.aload_n 0, 1) := by decide +kernel
theorem de1_1 : decode jdk_42_method_3_code 1 = .ok (.aload_n 1, 1) := by decide +kernel
theorem de1_2 : decode jdk_42_method_3_code 2 = .ok (.iconst 0, 1) := by decide +kernel
theorem de1_3 : decode jdk_42_method_3_code 3 = .ok (.aload_n 1, 1) := by decide +kernel
theorem de1_4 : decode jdk_42_method_3_code 4 = .ok (.arraylength, 1) := by decide +kernel
theorem de1_5 : decode jdk_42_method_3_code 5 = .ok (.aconst_null, 1) := by decide +kernel
theorem de1_6 : decode jdk_42_method_3_code 6 = .ok (.invokespecial 27, 3) := by decide +kernel
theorem de1_9 : decode jdk_42_method_3_code 9 = .ok (.return_, 1) := by decide +kernel
theorem efe1 (m : MethodId) (x0 : Addr) (x1 : Addr) : entryFrame m #[(.ref x0), (.ref x1)] 2 = mkF m 0 #[.val (.ref x0), .val (.ref x1)] [] := by first | (simp [entryFrame, mkF, argsToLocals, Value.category]; done) | rfl
set_option maxRecDepth 65536 in
set_option maxHeartbeats 40000000 in
theorem c_e1 {l : Launch} {Z : State} {a0 : Array Value} {G1 : Int32} (X : Ctx Z a0 G1) (a b : Addr) (kb : ClassId) (vs : List Value) (dv : Value) (h0 : Heap) (hE : Ext Z.heap h0) (ga : Z.heap.size ≤ a) (A : Exa Z h0 a "java/lang/String") (FV : Fld Z h0 a "java/lang/String" "value" "[B" .null) (FC : Fld Z h0 a "java/lang/String" "coder" "B" (.int (0 : Int32))) (V : Arv Z h0 b kb .char (0 : Int32) vs dv) :
    Con l Z consts_1 (⟨"java/lang/String", "<init>", "([C)V"⟩ : MethodName) jdk_42_method_3_code 2 none [] ({ frames := 2, cells := 4, slots := 8, locals := 29 } : Room) #[(.ref a), (.ref b)] h0 (fun v h => v = none ∧ Keep h0 h [a] ∧ Str Z h a []) := by
  refine Con.intro (plainFor_of_name pn_0) hE X.el ?_
  intro p e s m below meth c T W
  have hsz := W.size
  refine Go.cast (efe1 m a b) ?_
  refine Go.step (fun _ k => XS.aloadN W.here W.hx rfl (W.d de1_0) rfl rfl k) ?_
  show Go _ _ _ _ _ _ _ _ _ _ (mkF m 1 #[.val (.ref a), .val (.ref b)] [(.ref a)])
  refine Go.step (fun _ k => XS.aloadN W.here W.hx rfl (W.d de1_1) rfl rfl k) ?_
  show Go _ _ _ _ _ _ _ _ _ _ (mkF m 2 #[.val (.ref a), .val (.ref b)] [(.ref b), (.ref a)])
  refine Go.step (fun _ k => XS.iconst W.here W.hx rfl (W.d de1_2) k) ?_
  show Go _ _ _ _ _ _ _ _ _ _ (mkF m 3 #[.val (.ref a), .val (.ref b)] [(.int (0 : Int32)), (.ref b), (.ref a)])
  refine Go.step (fun _ k => XS.aloadN W.here W.hx rfl (W.d de1_3) rfl rfl k) ?_
  show Go _ _ _ _ _ _ _ _ _ _ (mkF m 4 #[.val (.ref a), .val (.ref b)] [(.ref b), (.int (0 : Int32)), (.ref b), (.ref a)])
  refine W.arraylength V de1_4 ?_
  show Go _ _ _ _ _ _ _ _ _ _ (mkF m 5 #[.val (.ref a), .val (.ref b)] [(.int (0 : Int32)), (.int (0 : Int32)), (.ref b), (.ref a)])
  refine Go.step (fun _ k => XS.aconstNull W.here W.hx rfl (W.d de1_5) k) ?_
  show Go _ _ _ _ _ _ _ _ _ _ (mkF m 6 #[.val (.ref a), .val (.ref b)] [.null, (.int (0 : Int32)), (.int (0 : Int32)), (.ref b), (.ref a)])
  refine W.special rfl (X.w 14 rfl) (X.w 15 rfl) (X.w 9 rfl) (X.w 17 rfl) (by decide) (c_e2 X a b _ W.ext ga A FV FC) (by decide) (Wd := 0) (by decide) a [(.ref b), (.int (0 : Int32)), (.int (0 : Int32)), .null] [] rfl pd_0 rfl rfl rfl (Nat.le_of_eq rfl) de1_6 (by decide) (by decide) ?_
  intro v T h vm W hQ C
  obtain ⟨rfl, hK, hS⟩ := hQ
  show Go _ _ _ _ _ _ _ _ _ _ (mkF m 9 #[.val (.ref a), .val (.ref b)] [])
  exact W.retV de1_9 (⟨rfl, hK, hS⟩) (by decide) (by decide)

theorem dce_0 : decode jdk_43_method_3_code 0 = .ok (.iload_n 0, 1) := by decide +kernel
theorem dce_1 : decode jdk_43_method_3_code 1 = .ok (.sipush 255, 3) := by decide +kernel
theorem dce_4 : decode jdk_43_method_3_code 4 = .ok (.if_icmp .gt 7, 3) := by decide +kernel
theorem dce_7 : decode jdk_43_method_3_code 7 = .ok (.iconst 1, 1) := by decide +kernel
theorem dce_8 : decode jdk_43_method_3_code 8 = .ok (.goto 4, 3) := by decide +kernel
theorem dce_12 : decode jdk_43_method_3_code 12 = .ok (.ireturn, 1) := by decide +kernel
theorem efce (m : MethodId) (x0 : Int32) : entryFrame m #[(.int x0)] 1 = mkF m 0 #[.val (.int x0)] [] := by first | (simp [entryFrame, mkF, argsToLocals, Value.category]; done) | rfl
set_option maxRecDepth 65536 in
set_option maxHeartbeats 40000000 in
theorem c_ce {l : Launch} {Z : State} {a0 : Array Value} {G1 : Int32} (X : Ctx Z a0 G1) (ch : Int32) (h0 : Heap) (hE : Ext Z.heap h0) (t0 : Sm ch) :
    Con l Z consts_1 (⟨"java/lang/StringLatin1", "canEncode", "(C)Z"⟩ : MethodName) jdk_43_method_3_code 1 (some .boolean) [] ({ frames := 0, cells := 0, slots := 0, locals := 0 } : Room) #[(.int ch)] h0 (fun v h => v = some (.int 1) ∧ h0 = h) := by
  refine Con.intro (plainFor_of_name pn_1) hE X.el ?_
  intro p e s m below meth c T W
  have hsz := W.size
  refine Go.cast (efce m ch) ?_
  refine Go.step (fun _ k => XS.iloadN W.here W.hx rfl (W.d dce_0) rfl k) ?_
  show Go _ _ _ _ _ _ _ _ _ _ (mkF m 1 #[.val (.int ch)] [(.int ch)])
  refine Go.step (fun _ k => XS.sipush W.here W.hx rfl (W.d dce_1) k) ?_
  show Go _ _ _ _ _ _ _ _ _ _ (mkF m 4 #[.val (.int ch)] [(.int (255 : Int32)), (.int ch)])
  refine Go.step (fun _ k => XS.icmpNo W.here W.hx rfl (W.d dce_4) rfl (flt t0.2).2.2.1 k) ?_
  show Go _ _ _ _ _ _ _ _ _ _ (mkF m 7 #[.val (.int ch)] [])
  refine Go.step (fun _ k => XS.iconst W.here W.hx rfl (W.d dce_7) k) ?_
  show Go _ _ _ _ _ _ _ _ _ _ (mkF m 8 #[.val (.int ch)] [(.int (1 : Int32))])
  refine Go.step (fun _ k => XS.goto W.here W.hx rfl (pc0 := 8) (pc' := 12) rfl (W.d dce_8) (by decide) (by decide) k) ?_
  show Go _ _ _ _ _ _ _ _ _ _ (mkF m 12 #[.val (.int ch)] [(.int (1 : Int32))])
  exact W.retN (by simp) dce_12 (⟨rfl, rfl⟩) (by decide) (by decide)
theorem dtb_0 : decode jdk_43_method_46_code 0 = .ok (.iconst 1, 1) := by decide +kernel
theorem dtb_1 : decode jdk_43_method_46_code 1 = .ok (.newarray .byte, 2) := by decide +kernel
theorem dtb_3 : decode jdk_43_method_46_code 3 = .ok (.dup, 1) := by decide +kernel
theorem dtb_4 : decode jdk_43_method_46_code 4 = .ok (.iconst 0, 1) := by decide +kernel
theorem dtb_5 : decode jdk_43_method_46_code 5 = .ok (.iload_n 0, 1) := by decide +kernel
theorem dtb_6 : decode jdk_43_method_46_code 6 = .ok (.i2b, 1) := by decide +kernel
theorem dtb_7 : decode jdk_43_method_46_code 7 = .ok (.bastore, 1) := by decide +kernel
theorem dtb_8 : decode jdk_43_method_46_code 8 = .ok (.areturn, 1) := by decide +kernel
theorem eftb (m : MethodId) (x0 : Int32) : entryFrame m #[(.int x0)] 1 = mkF m 0 #[.val (.int x0)] [] := by first | (simp [entryFrame, mkF, argsToLocals, Value.category]; done) | rfl
set_option maxRecDepth 65536 in
set_option maxHeartbeats 40000000 in
theorem c_tb {l : Launch} {Z : State} {a0 : Array Value} {G1 : Int32} (X : Ctx Z a0 G1) (ch : Int32) (h0 : Heap) (hE : Ext Z.heap h0) (t0 : Sm ch) :
    Con l Z consts_1 (⟨"java/lang/StringLatin1", "toBytes", "(C)[B"⟩ : MethodName) jdk_43_method_46_code 1 (some (.array .byte)) [] ({ frames := 0, cells := 1, slots := 1, locals := 0 } : Room) #[(.int ch)] h0 (fun v h => ∃ (a : Addr) (k : ClassId), v = some (.ref a) ∧ Z.heap.size ≤ a ∧ h0.size ≤ a ∧ Keep h0 h [] ∧ Arv Z h a k .byte (1 : Int32) [(.int ch.toInt8.toInt32)] (.int (0 : Int32))) := by
  refine Con.intro (plainFor_of_name pn_1) hE X.el ?_
  intro p e s m below meth c T W
  have hsz := W.size
  refine Go.cast (eftb m ch) ?_
  have KP := Keep.refl h0 []
  refine Go.step (fun _ k => XS.iconst W.here W.hx rfl (W.d dtb_0) k) ?_
  show Go _ _ _ _ _ _ _ _ _ _ (mkF m 1 #[.val (.int ch)] [(.int (1 : Int32))])
  refine W.newarr (X.w 22 rfl) dtb_1 (by decide) (cap := 1) (by decide) (by decide) (by decide) (by decide) ?_
  intro T h b1 kb1 hb1 W Eb1 Vb1 Sfb1
  have sz_b1 : h0.size ≤ b1 := by rw [hb1]; exact KP.1
  have gb1 : Z.heap.size ≤ b1 := by rw [hb1]; exact hsz
  replace KP := KP.ext Eb1
  replace hsz := W.size
  replace Vb1 : Arv Z h b1 kb1 .byte (1 : Int32) [(.int (0 : Int32))] (.int (0 : Int32)) := Vb1.pad (pad_rep [] (.int (0 : Int32)) 1)
  show Go _ _ _ _ _ _ _ _ _ _ (mkF m 3 #[.val (.int ch)] [(.ref b1)])
  refine Go.step (fun _ k => XS.dup W.here W.hx rfl (W.d dtb_3) rfl rfl k) ?_
  show Go _ _ _ _ _ _ _ _ _ _ (mkF m 4 #[.val (.int ch)] [(.ref b1), (.ref b1)])
  refine Go.step (fun _ k => XS.iconst W.here W.hx rfl (W.d dtb_4) k) ?_
  show Go _ _ _ _ _ _ _ _ _ _ (mkF m 5 #[.val (.int ch)] [(.int (0 : Int32)), (.ref b1), (.ref b1)])
  refine Go.step (fun _ k => XS.iloadN W.here W.hx rfl (W.d dtb_5) rfl k) ?_
  show Go _ _ _ _ _ _ _ _ _ _ (mkF m 6 #[.val (.int ch)] [(.int ch), (.int (0 : Int32)), (.ref b1), (.ref b1)])
  refine Go.step (fun _ k => XS.i2b W.here W.hx rfl (W.d dtb_6) rfl k) ?_
  show Go _ _ _ _ _ _ _ _ _ _ (mkF m 7 #[.val (.int ch)] [(.int (ch.toInt8.toInt32)), (.int (0 : Int32)), (.ref b1), (.ref b1)])
  refine W.bastore Vb1 0 rfl (by simp) (by decide) gb1 Sfb1 dtb_7 ?_
  intro T h W K2 Vb1'
  replace KP := KP.otrN K2 sz_b1
  replace hsz := W.size
  replace Vb1 : Arv Z h b1 kb1 .byte (1 : Int32) [(.int (nar .byte (ch.toInt8.toInt32)))] (.int (0 : Int32)) := Vb1'
  show Go _ _ _ _ _ _ _ _ _ _ (mkF m 8 #[.val (.int ch)] [(.ref b1)])
  rw [nar_byte8 t0] at Vb1
  exact W.retR rfl rfl rfl dtb_8 (⟨b1, kb1, rfl, gb1, sz_b1, KP, Vb1⟩) (by decide) (by decide)
theorem dib_0 : decode jdk_42_method_151_code 0 = .ok (.aload_n 0, 1) := by decide +kernel
theorem dib_1 : decode jdk_42_method_151_code 1 = .ok (.invokespecial 1, 3) := by decide +kernel
theorem dib_4 : decode jdk_42_method_151_code 4 = .ok (.aload_n 0, 1) := by decide +kernel
theorem dib_5 : decode jdk_42_method_151_code 5 = .ok (.aload_n 1, 1) := by decide +kernel
theorem dib_6 : decode jdk_42_method_151_code 6 = .ok (.putfield 9, 3) := by decide +kernel
theorem dib_9 : decode jdk_42_method_151_code 9 = .ok (.aload_n 0, 1) := by decide +kernel
theorem dib_10 : decode jdk_42_method_151_code 10 = .ok (.iload_n 2, 1) := by decide +kernel
theorem dib_11 : decode jdk_42_method_151_code 11 = .ok (.putfield 15, 3) := by decide +kernel
theorem dib_14 : decode jdk_42_method_151_code 14 = .ok (.return_, 1) := by decide +kernel
theorem efib (m : MethodId) (x0 x1 : Addr) : entryFrame m #[(.ref x0), (.ref x1), (.int (0 : Int32))] 3 = mkF m 0 #[.val (.ref x0), .val (.ref x1), .val (.int (0 : Int32))] [] := by first | (simp [entryFrame, mkF, argsToLocals, Value.category]; done) | rfl
set_option maxRecDepth 65536 in
set_option maxHeartbeats 40000000 in
theorem c_ib {l : Launch} {Z : State} {a0 : Array Value} {G1 : Int32} (X : Ctx Z a0 G1) (a b : Addr) (kb : ClassId) (cs : List Int32) (h0 : Heap) (hE : Ext Z.heap h0) (ga : Z.heap.size ≤ a) (A : Exa Z h0 a "java/lang/String") (FV : Fld Z h0 a "java/lang/String" "value" "[B" .null) (FC : Fld Z h0 a "java/lang/String" "coder" "B" (.int (0 : Int32))) (V : Arv Z h0 b kb .byte (Int32.ofNat cs.length) (cs.map fun c => Value.int c.toInt8.toInt32) (.int (0 : Int32))) (hp : ∀ c ∈ cs, Sm c) (hl : cs.length ≤ 4000) :
    Con l Z consts_1 (⟨"java/lang/String", "<init>", "([BB)V"⟩ : MethodName) jdk_42_method_151_code 3 none [] ({ frames := 1, cells := 0, slots := 0, locals := 12 } : Room) #[(.ref a), (.ref b), (.int (0 : Int32))] h0 (fun v h => v = none ∧ Keep h0 h [a] ∧ Str Z h a cs) := by
  refine Con.intro (plainFor_of_name pn_0) hE X.el ?_
  intro p e s m below meth c T W
  refine Go.cast (efib m a b) ?_
  refine Go.step (fun _ k => XS.aloadN W.here W.hx rfl (W.d dib_0) rfl rfl k) ?_
  show Go _ _ _ _ _ _ _ _ _ _ (mkF m 1 #[.val (.ref a), .val (.ref b), .val (.int (0 : Int32))] [(.ref a)])
  refine W.initO (X.w 18 rfl) (X.w 19 rfl) (X.w 20 rfl) rfl dib_1 (by decide) (Wd := 0) (Nat.le_of_eq rfl) (by decide) ?_
  intro T W
  show Go _ _ _ _ _ _ _ _ _ _ (mkF m 4 #[.val (.ref a), .val (.ref b), .val (.int (0 : Int32))] [])
  refine Go.step (fun _ k => XS.aloadN W.here W.hx rfl (W.d dib_4) rfl rfl k) ?_
  show Go _ _ _ _ _ _ _ _ _ _ (mkF m 5 #[.val (.ref a), .val (.ref b), .val (.int (0 : Int32))] [(.ref a)])
  refine Go.step (fun _ k => XS.aloadN W.here W.hx rfl (W.d dib_5) rfl rfl k) ?_
  show Go _ _ _ _ _ _ _ _ _ _ (mkF m 6 #[.val (.ref a), .val (.ref b), .val (.int (0 : Int32))] [(.ref b), (.ref a)])
  have ne1 : a ≠ b := Exa.neArv A V (X.w 8 rfl)
  have S1 : Safe Z consts_1 _ h0 a := Safe.blank W.hZ.alike A FV
  have H1 := W.chr.1
  refine W.putF (host := "") (Or.inl (X.w 27 rfl)) Via.refl FV A (Or.inr ⟨(X.w 23 rfl), rfl, rfl⟩) (X.w 8 rfl) (ty := .array .byte) (by decide) rfl rfl ga S1 dib_6 ?_
  intro T h2 W Wr1 V2
  show Go _ _ _ _ _ _ _ _ _ _ (mkF m 9 #[.val (.ref a), .val (.ref b), .val (.int (0 : Int32))] [])
  have S2 := Safe.wr Wr1 S1 H1 S1
  have B2 := A.wr Wr1
  have Cd2 := FC.other Wr1 (Or.inr (slot_ne (Or.inr (X.w 24 rfl)) (Or.inr (X.w 23 rfl)) (by decide) (t := .byte) (t' := .array .byte) (by decide) (by decide)))
  have Av2 := V.other Wr1 (Ne.symm ne1)
  refine Go.step (fun _ k => XS.aloadN W.here W.hx rfl (W.d dib_9) rfl rfl k) ?_
  show Go _ _ _ _ _ _ _ _ _ _ (mkF m 10 #[.val (.ref a), .val (.ref b), .val (.int (0 : Int32))] [(.ref a)])
  refine Go.step (fun _ k => XS.iloadN W.here W.hx rfl (W.d dib_10) rfl k) ?_
  show Go _ _ _ _ _ _ _ _ _ _ (mkF m 11 #[.val (.ref a), .val (.ref b), .val (.int (0 : Int32))] [(.int (0 : Int32)), (.ref a)])
  refine W.putF (host := "") (Or.inl (X.w 28 rfl)) Via.refl Cd2 B2 (Or.inr ⟨(X.w 24 rfl), rfl, rfl⟩) (X.w 8 rfl) (ty := .byte) (by decide) rfl rfl ga S2 dib_11 ?_
  intro T h4 W Wr2 Cd4
  show Go _ _ _ _ _ _ _ _ _ _ (mkF m 14 #[.val (.ref a), .val (.ref b), .val (.int (0 : Int32))] [])
  have V4 := V2.other Wr2 (Or.inr (slot_ne (Or.inr (X.w 23 rfl)) (Or.inr (X.w 24 rfl)) (by decide) (t := .array .byte) (t' := .byte) (by decide) (by decide)))
  refine W.retV dib_14 ⟨rfl, ?_, b, kb, B2.wr Wr2, V4, Cd4, Av2.other Wr2 (Ne.symm ne1), hp, hl⟩ (by decide) (by decide)
  exact ((Keep.refl h0 [a]).wr Wr1 (Or.inl (by simp))).wr Wr2 (Or.inl (by simp))
theorem dvo_0 : decode jdk_42_method_139_code 0 = .ok (.getstatic 38, 3) := by decide +kernel
theorem dvo_3 : decode jdk_42_method_139_code 3 = .ok (.ifCond .eq 23, 3) := by decide +kernel
theorem dvo_6 : decode jdk_42_method_139_code 6 = .ok (.iload_n 0, 1) := by decide +kernel
theorem dvo_7 : decode jdk_42_method_139_code 7 = .ok (.invokestatic 1015, 3) := by decide +kernel
theorem dvo_10 : decode jdk_42_method_139_code 10 = .ok (.ifCond .eq 16, 3) := by decide +kernel
theorem dvo_13 : decode jdk_42_method_139_code 13 = .ok (.new 10, 3) := by decide +kernel
theorem dvo_16 : decode jdk_42_method_139_code 16 = .ok (.dup, 1) := by decide +kernel
theorem dvo_17 : decode jdk_42_method_139_code 17 = .ok (.iload_n 0, 1) := by decide +kernel
theorem dvo_18 : decode jdk_42_method_139_code 18 = .ok (.invokestatic 1018, 3) := by decide +kernel
theorem dvo_21 : decode jdk_42_method_139_code 21 = .ok (.iconst 0, 1) := by decide +kernel
theorem dvo_22 : decode jdk_42_method_139_code 22 = .ok (.invokespecial 209, 3) := by decide +kernel
theorem dvo_25 : decode jdk_42_method_139_code 25 = .ok (.areturn, 1) := by decide +kernel
theorem efvo (m : MethodId) (x0 : Int32) : entryFrame m #[(.int x0)] 1 = mkF m 0 #[.val (.int x0)] [] := by first | (simp [entryFrame, mkF, argsToLocals, Value.category]; done) | rfl
set_option maxRecDepth 65536 in
set_option maxHeartbeats 40000000 in
theorem c_vo {l : Launch} {Z : State} {a0 : Array Value} {G1 : Int32} (X : Ctx Z a0 G1) (ch : Int32) (h0 : Heap) (hE : Ext Z.heap h0) (t0 : Sm ch) :
    Con l Z consts_1 (⟨"java/lang/String", "valueOf", "(C)Ljava/lang/String;"⟩ : MethodName) jdk_42_method_139_code 1 (some (.object "java/lang/String")) [] ({ frames := 2, cells := 2, slots := 5, locals := 27 } : Room) #[(.int ch)] h0 (fun v h => ∃ a, v = some (.ref a) ∧ Z.heap.size ≤ a ∧ Keep h0 h [] ∧ Str Z h a [ch]) := by
  refine Con.intro (plainFor_of_name pn_0) hE X.el ?_
  intro p e s m below meth c T W
  have hsz := W.size
  refine Go.cast (efvo m ch) ?_
  have KP := Keep.refl h0 []
  refine W.getS (host := "") (Or.inl (X.w 57 rfl)) Via.refl X.2.1 dvo_0 ?_
  intro T W
  show Go _ _ _ _ _ _ _ _ _ _ (mkF m 3 #[.val (.int ch)] [(.int G1)])
  refine Go.step (fun _ k => XS.ifNo W.here W.hx rfl (W.d dvo_3) rfl ((if0 _ _).trans (feq X.2.2.1).1) k) ?_
  show Go _ _ _ _ _ _ _ _ _ _ (mkF m 6 #[.val (.int ch)] [])
  refine Go.step (fun _ k => XS.iloadN W.here W.hx rfl (W.d dvo_6) rfl k) ?_
  show Go _ _ _ _ _ _ _ _ _ _ (mkF m 7 #[.val (.int ch)] [(.int ch)])
  refine W.callS (X.w 65 rfl) (X.w 66 rfl) (X.w 60 rfl) (X.w 67 rfl) (by decide) (c_ce X ch _ W.ext t0) (by decide) (Wd := 0) (by decide) [(.int ch)] [] rfl pd_1 rfl rfl rfl (Nat.le_of_eq rfl) dvo_7 (by decide) (by decide) ?_
  intro v T h vm W hQ C
  obtain ⟨rfl, rfl⟩ := hQ
  show Go _ _ _ _ _ _ _ _ _ _ (mkF m 10 #[.val (.int ch)] [(.int (1 : Int32))])
  refine Go.step (fun _ k => XS.ifNo W.here W.hx rfl (W.d dvo_10) rfl ((if0 _ _).trans (feq (by decide : ¬ ((1 : Int32) = (0 : Int32)))).1) k) ?_
  show Go _ _ _ _ _ _ _ _ _ _ (mkF m 13 #[.val (.int ch)] [])
  refine W.new (X.w 56 rfl) (X.w 8 rfl) (X.w 9 rfl) dvo_13 (by decide) (by decide) ?_
  intro T h b1 hb1 W Eb1 Ab1 Db1
  have sz_b1 : h0.size ≤ b1 := by rw [hb1]; exact KP.1
  have gb1 : Z.heap.size ≤ b1 := by rw [hb1]; exact hsz
  replace KP := KP.ext Eb1
  replace hsz := W.size
  have F_value_b1 : Fld Z h b1 "java/lang/String" "value" "[B" .null := Db1 (Or.inr (X.w 23 rfl)) (ty := (.array .byte)) (by decide)
  have F_coder_b1 : Fld Z h b1 "java/lang/String" "coder" "B" (.int (0 : Int32)) := Db1 (Or.inr (X.w 24 rfl)) (ty := .byte) (by decide)
  show Go _ _ _ _ _ _ _ _ _ _ (mkF m 16 #[.val (.int ch)] [(.ref b1)])
  refine Go.step (fun _ k => XS.dup W.here W.hx rfl (W.d dvo_16) rfl rfl k) ?_
  show Go _ _ _ _ _ _ _ _ _ _ (mkF m 17 #[.val (.int ch)] [(.ref b1), (.ref b1)])
  refine Go.step (fun _ k => XS.iloadN W.here W.hx rfl (W.d dvo_17) rfl k) ?_
  show Go _ _ _ _ _ _ _ _ _ _ (mkF m 18 #[.val (.int ch)] [(.int ch), (.ref b1), (.ref b1)])
  refine W.callS (X.w 68 rfl) (X.w 69 rfl) (X.w 60 rfl) (X.w 70 rfl) (by decide) (c_tb X ch _ W.ext t0) (by decide) (Wd := 2) (by decide) [(.int ch)] [(.ref b1), (.ref b1)] rfl pd_2 rfl rfl rfl (Nat.le_of_eq rfl) dvo_18 (by decide) (by decide) ?_
  intro v T h vm W hQ C
  obtain ⟨b2, kb2, rfl, gb2, -, Kb2, Vb2⟩ := hQ
  replace KP := KP.otr0 Kb2
  replace F_value_b1 := F_value_b1.keep Kb2 nin0
  replace F_coder_b1 := F_coder_b1.keep Kb2 nin0
  replace Ab1 := Ab1.keep Kb2
  replace hsz := W.size
  show Go _ _ _ _ _ _ _ _ _ _ (mkF m 21 #[.val (.int ch)] [(.ref b2), (.ref b1), (.ref b1)])
  refine Go.step (fun _ k => XS.iconst W.here W.hx rfl (W.d dvo_21) k) ?_
  show Go _ _ _ _ _ _ _ _ _ _ (mkF m 22 #[.val (.int ch)] [(.int (0 : Int32)), (.ref b2), (.ref b1), (.ref b1)])
  refine W.special rfl (X.w 71 rfl) (X.w 72 rfl) (X.w 9 rfl) (X.w 73 rfl) (by decide) (c_ib X b1 b2 _ [ch] _ W.ext gb1 Ab1 F_value_b1 F_coder_b1 Vb2 (smS t0 sm0) (Nat.le_of_ble_eq_true rfl)) (by decide) (Wd := 1) (by decide) b1 [(.ref b2), (.int (0 : Int32))] [(.ref b1)] rfl pd_3 rfl rfl rfl (Nat.le_of_eq rfl) dvo_22 (by decide) (by decide) ?_
  intro v T h vm W hQ C
  obtain ⟨rfl, Kb1, Sb1⟩ := hQ
  replace KP := KP.otrN Kb1 sz_b1
  replace hsz := W.size
  show Go _ _ _ _ _ _ _ _ _ _ (mkF m 25 #[.val (.int ch)] [(.ref b1)])
  exact W.retR rfl rfl rfl dvo_25 (⟨b1, rfl, gb1, KP, Sb1⟩) (by decide) (by decide)

/-- the text that the law's str makes of an int -/
def txt (x : Int32) : List Int32 := if x &&& (256 : Int32) = 0 then [] else [(x &&& (255 : Int32)).toUInt32.toUInt16.toUInt32.toInt32]
/-- its key -/
def keyOf (x : Int32) : Int32 := if x &&& (256 : Int32) = 0 then (-1 : Int32) else x &&& (255 : Int32)
theorem key_txt (x y : Int32) : keyOf x = keyOf y ↔ txt x = txt y := by
  have t : ∀ k : Fin 256, (Int32.ofNat k.val).toUInt32.toUInt16.toUInt32.toInt32 = Int32.ofNat k.val ∧ ¬ (-1 : Int32) = Int32.ofNat k.val := by decide +kernel
  obtain ⟨j, hj, ej⟩ := maskN 255 255 rfl x
  obtain ⟨k, hk, ek⟩ := maskN 255 255 rfl y
  have t1 := t ⟨j, by omega⟩
  have t2 := t ⟨k, by omega⟩
  simp only [keyOf, txt, ej, ek, t1.1, t2.1]
  by_cases hx : x &&& (256 : Int32) = 0 <;> by_cases hy : y &&& (256 : Int32) = 0 <;> simp only [hx, hy, if_true, if_false, iff_self, List.cons.injEq, and_true, reduceCtorEq, iff_false]
  · exact fun q => t2.2 q
  · exact fun q => t1.2 q.symm

theorem dstr_0 : decode method_2_code 0 = .ok (.iload_n 0, 1) := by decide +kernel
theorem dstr_1 : decode method_2_code 1 = .ok (.sipush 256, 3) := by decide +kernel
theorem dstr_4 : decode method_2_code 4 = .ok (.iand, 1) := by decide +kernel
theorem dstr_5 : decode method_2_code 5 = .ok (.ifCond .ne 14, 3) := by decide +kernel
theorem dstr_8 : decode method_2_code 8 = .ok (.new 7, 3) := by decide +kernel
theorem dstr_11 : decode method_2_code 11 = .ok (.dup, 1) := by decide +kernel
theorem dstr_12 : decode method_2_code 12 = .ok (.iconst 0, 1) := by decide +kernel
theorem dstr_13 : decode method_2_code 13 = .ok (.newarray .char, 2) := by decide +kernel
theorem dstr_15 : decode method_2_code 15 = .ok (.invokespecial 9, 3) := by decide +kernel
theorem dstr_18 : decode method_2_code 18 = .ok (.areturn, 1) := by decide +kernel
theorem dstr_19 : decode method_2_code 19 = .ok (.iload_n 0, 1) := by decide +kernel
theorem dstr_20 : decode method_2_code 20 = .ok (.sipush 255, 3) := by decide +kernel
theorem dstr_23 : decode method_2_code 23 = .ok (.iand, 1) := by decide +kernel
theorem dstr_24 : decode method_2_code 24 = .ok (.i2c, 1) := by decide +kernel
theorem dstr_25 : decode method_2_code 25 = .ok (.invokestatic 12, 3) := by decide +kernel
theorem dstr_28 : decode method_2_code 28 = .ok (.areturn, 1) := by decide +kernel
theorem efstr (m : MethodId) (x0 : Int32) : entryFrame m #[(.int x0)] 1 = mkF m 0 #[.val (.int x0)] [] := by first | (simp [entryFrame, mkF, argsToLocals, Value.category]; done) | rfl
set_option maxRecDepth 65536 in
set_option maxHeartbeats 40000000 in
theorem c_str {l : Launch} {Z : State} {a0 : Array Value} {G1 : Int32} (X : Ctx Z a0 G1) (x0 : Int32) (h0 : Heap) (hE : Ext Z.heap h0)  :
    Con l Z consts_1 (⟨"com/example/moderato/moderato/client/ImageHitEqualsPinLaw", "str", "(I)Ljava/lang/String;"⟩ : MethodName) method_2_code 1 (some (.object "java/lang/String")) [] ({ frames := 3, cells := 6, slots := 14, locals := 43 } : Room) #[(.int x0)] h0 (fun v h => ∃ a, v = some (.ref a) ∧ Z.heap.size ≤ a ∧ Keep h0 h [] ∧ Str Z h a (txt x0)) := by
  refine Con.intro (plainFor_of_name pn_2) hE X.el ?_
  intro p e s m below meth c T W
  have hsz := W.size
  refine Go.cast (efstr m x0) ?_
  have KP := Keep.refl h0 []
  refine Go.step (fun _ k => XS.iloadN W.here W.hx rfl (W.d dstr_0) rfl k) ?_
  show Go _ _ _ _ _ _ _ _ _ _ (mkF m 1 #[.val (.int x0)] [(.int x0)])
  refine Go.step (fun _ k => XS.sipush W.here W.hx rfl (W.d dstr_1) k) ?_
  show Go _ _ _ _ _ _ _ _ _ _ (mkF m 4 #[.val (.int x0)] [(.int (256 : Int32)), (.int x0)])
  refine Go.step (fun _ k => XS.iand W.here W.hx rfl (W.d dstr_4) rfl k) ?_
  show Go _ _ _ _ _ _ _ _ _ _ (mkF m 5 #[.val (.int x0)] [(.int (x0 &&& (256 : Int32)))])
  by_cases hc1 : (x0 &&& (256 : Int32)) = (0 : Int32)
  · refine Go.step (fun _ k => XS.ifNo W.here W.hx rfl (W.d dstr_5) rfl ((if0 _ _).trans (teq hc1).2) k) ?_
    show Go _ _ _ _ _ _ _ _ _ _ (mkF m 8 #[.val (.int x0)] [])
    refine W.new (X.w 7 rfl) (X.w 8 rfl) (X.w 9 rfl) dstr_8 (by decide) (by decide) ?_
    intro T h b2 hb2 W Eb2 Ab2 Db2
    have sz_b2 : h0.size ≤ b2 := by rw [hb2]; exact KP.1
    have gb2 : Z.heap.size ≤ b2 := by rw [hb2]; exact hsz
    replace KP := KP.ext Eb2
    replace hsz := W.size
    have F_value_b2 : Fld Z h b2 "java/lang/String" "value" "[B" .null := Db2 (Or.inr (X.w 23 rfl)) (ty := (.array .byte)) (by decide)
    have F_coder_b2 : Fld Z h b2 "java/lang/String" "coder" "B" (.int (0 : Int32)) := Db2 (Or.inr (X.w 24 rfl)) (ty := .byte) (by decide)
    show Go _ _ _ _ _ _ _ _ _ _ (mkF m 11 #[.val (.int x0)] [(.ref b2)])
    refine Go.step (fun _ k => XS.dup W.here W.hx rfl (W.d dstr_11) rfl rfl k) ?_
    show Go _ _ _ _ _ _ _ _ _ _ (mkF m 12 #[.val (.int x0)] [(.ref b2), (.ref b2)])
    refine Go.step (fun _ k => XS.iconst W.here W.hx rfl (W.d dstr_12) k) ?_
    show Go _ _ _ _ _ _ _ _ _ _ (mkF m 13 #[.val (.int x0)] [(.int (0 : Int32)), (.ref b2), (.ref b2)])
    refine W.newarr (X.w 10 rfl) dstr_13 (by decide) (cap := 0) (by decide) (by decide) (by decide) (by decide) ?_
    intro T h b3 kb3 hb3 W Eb3 Vb3 Sfb3
    have sz_b3 : h0.size ≤ b3 := by rw [hb3]; exact KP.1
    have ne_b2_b3 : b2 ≠ b3 := by rw [hb3]; exact Nat.ne_of_lt Ab2.lt
    have gb3 : Z.heap.size ≤ b3 := by rw [hb3]; exact hsz
    replace KP := KP.ext Eb3
    replace F_value_b2 := F_value_b2.ext Eb3
    replace F_coder_b2 := F_coder_b2.ext Eb3
    replace Ab2 := Ab2.ext Eb3
    replace hsz := W.size
    replace Vb3 : Arv Z h b3 kb3 .char (0 : Int32) [] (.int (0 : Int32)) := Vb3.pad (pad_rep [] (.int (0 : Int32)) 0)
    show Go _ _ _ _ _ _ _ _ _ _ (mkF m 15 #[.val (.int x0)] [(.ref b3), (.ref b2), (.ref b2)])
    refine W.special rfl (X.w 11 rfl) (X.w 12 rfl) (X.w 9 rfl) (X.w 13 rfl) (by decide) (c_e1 X b2 b3 _ _ _ _ W.ext gb2 Ab2 F_value_b2 F_coder_b2 Vb3) (by decide) (Wd := 1) (by decide) b2 [(.ref b3)] [(.ref b2)] rfl pd_4 rfl rfl rfl (Nat.le_of_eq rfl) dstr_15 (by decide) (by decide) ?_
    intro v T h vm W hQ C
    obtain ⟨rfl, Kb2, Sb2⟩ := hQ
    replace KP := KP.otrN Kb2 sz_b2
    replace Vb3 := Vb3.keep Kb2 (nin1 (Ne.symm ne_b2_b3))
    replace hsz := W.size
    show Go _ _ _ _ _ _ _ _ _ _ (mkF m 18 #[.val (.int x0)] [(.ref b2)])
    exact W.retR rfl rfl rfl dstr_18 (⟨b2, rfl, gb2, KP, by rw [txt, if_pos hc1]; exact Sb2⟩) (by decide) (by decide)
  · refine Go.step (fun _ k => XS.ifYes W.here W.hx rfl (pc0 := 5) (pc' := 19) rfl (W.d dstr_5) rfl ((if0 _ _).trans (feq hc1).2) (by decide) (by decide) k) ?_
    show Go _ _ _ _ _ _ _ _ _ _ (mkF m 19 #[.val (.int x0)] [])
    refine Go.step (fun _ k => XS.iloadN W.here W.hx rfl (W.d dstr_19) rfl k) ?_
    show Go _ _ _ _ _ _ _ _ _ _ (mkF m 20 #[.val (.int x0)] [(.int x0)])
    refine Go.step (fun _ k => XS.sipush W.here W.hx rfl (W.d dstr_20) k) ?_
    show Go _ _ _ _ _ _ _ _ _ _ (mkF m 23 #[.val (.int x0)] [(.int (255 : Int32)), (.int x0)])
    refine Go.step (fun _ k => XS.iand W.here W.hx rfl (W.d dstr_23) rfl k) ?_
    show Go _ _ _ _ _ _ _ _ _ _ (mkF m 24 #[.val (.int x0)] [(.int (x0 &&& (255 : Int32)))])
    refine Go.step (fun _ k => XS.i2c W.here W.hx rfl (W.d dstr_24) rfl k) ?_
    show Go _ _ _ _ _ _ _ _ _ _ (mkF m 25 #[.val (.int x0)] [(.int ((x0 &&& (255 : Int32)).toUInt32.toUInt16.toUInt32.toInt32))])
    refine W.callS (X.w 62 rfl) (X.w 63 rfl) (X.w 9 rfl) (X.w 64 rfl) (by decide) (c_vo X ((x0 &&& (255 : Int32)).toUInt32.toUInt16.toUInt32.toInt32) _ W.ext (chr255 _)) (by decide) (Wd := 0) (by decide) [(.int ((x0 &&& (255 : Int32)).toUInt32.toUInt16.toUInt32.toInt32))] [] rfl pd_5 rfl rfl rfl (Nat.le_of_eq rfl) dstr_25 (by decide) (by decide) ?_
    intro v T h vm W hQ C
    obtain ⟨b4, rfl, gb4, Kb4, Sb4⟩ := hQ
    replace KP := KP.otr0 Kb4
    replace hsz := W.size
    show Go _ _ _ _ _ _ _ _ _ _ (mkF m 28 #[.val (.int x0)] [(.ref b4)])
    exact W.retR rfl rfl rfl dstr_28 (⟨b4, rfl, gb4, KP, by rw [txt, if_neg hc1]; exact Sb4⟩) (by decide) (by decide)

theorem dkey_0 : decode method_3_code 0 = .ok (.iload_n 0, 1) := by decide +kernel
theorem dkey_1 : decode method_3_code 1 = .ok (.sipush 256, 3) := by decide +kernel
theorem dkey_4 : decode method_3_code 4 = .ok (.iand, 1) := by decide +kernel
theorem dkey_5 : decode method_3_code 5 = .ok (.ifCond .ne 7, 3) := by decide +kernel
theorem dkey_8 : decode method_3_code 8 = .ok (.iconst (-1), 1) := by decide +kernel
theorem dkey_9 : decode method_3_code 9 = .ok (.goto 8, 3) := by decide +kernel
theorem dkey_12 : decode method_3_code 12 = .ok (.iload_n 0, 1) := by decide +kernel
theorem dkey_13 : decode method_3_code 13 = .ok (.sipush 255, 3) := by decide +kernel
theorem dkey_16 : decode method_3_code 16 = .ok (.iand, 1) := by decide +kernel
theorem dkey_17 : decode method_3_code 17 = .ok (.ireturn, 1) := by decide +kernel
theorem efkey (m : MethodId) (x0 : Int32) : entryFrame m #[(.int x0)] 1 = mkF m 0 #[.val (.int x0)] [] := by first | (simp [entryFrame, mkF, argsToLocals, Value.category]; done) | rfl
set_option maxRecDepth 65536 in
set_option maxHeartbeats 40000000 in
theorem c_key {l : Launch} {Z : State} {a0 : Array Value} {G1 : Int32} (X : Ctx Z a0 G1) (x0 : Int32) (h0 : Heap) (hE : Ext Z.heap h0)  :
    Con l Z consts_1 (⟨"com/example/moderato/moderato/client/ImageHitEqualsPinLaw", "key", "(I)I"⟩ : MethodName) method_3_code 1 (some .int) [] ({ frames := 0, cells := 0, slots := 0, locals := 0 } : Room) #[(.int x0)] h0 (fun v h => v = some (.int (keyOf x0)) ∧ h0 = h) := by
  refine Con.intro (plainFor_of_name pn_2) hE X.el ?_
  intro p e s m below meth c T W
  have hsz := W.size
  refine Go.cast (efkey m x0) ?_
  refine Go.step (fun _ k => XS.iloadN W.here W.hx rfl (W.d dkey_0) rfl k) ?_
  show Go _ _ _ _ _ _ _ _ _ _ (mkF m 1 #[.val (.int x0)] [(.int x0)])
  refine Go.step (fun _ k => XS.sipush W.here W.hx rfl (W.d dkey_1) k) ?_
  show Go _ _ _ _ _ _ _ _ _ _ (mkF m 4 #[.val (.int x0)] [(.int (256 : Int32)), (.int x0)])
  refine Go.step (fun _ k => XS.iand W.here W.hx rfl (W.d dkey_4) rfl k) ?_
  show Go _ _ _ _ _ _ _ _ _ _ (mkF m 5 #[.val (.int x0)] [(.int (x0 &&& (256 : Int32)))])
  by_cases hc1 : (x0 &&& (256 : Int32)) = (0 : Int32)
  · refine Go.step (fun _ k => XS.ifNo W.here W.hx rfl (W.d dkey_5) rfl ((if0 _ _).trans (teq hc1).2) k) ?_
    show Go _ _ _ _ _ _ _ _ _ _ (mkF m 8 #[.val (.int x0)] [])
    refine Go.step (fun _ k => XS.iconst W.here W.hx rfl (W.d dkey_8) k) ?_
    show Go _ _ _ _ _ _ _ _ _ _ (mkF m 9 #[.val (.int x0)] [(.int (-1 : Int32))])
    refine Go.step (fun _ k => XS.goto W.here W.hx rfl (pc0 := 9) (pc' := 17) rfl (W.d dkey_9) (by decide) (by decide) k) ?_
    show Go _ _ _ _ _ _ _ _ _ _ (mkF m 17 #[.val (.int x0)] [(.int (-1 : Int32))])
    exact W.retI dkey_17 (⟨by rw [keyOf, if_pos hc1], rfl⟩) (by decide) (by decide)
  · refine Go.step (fun _ k => XS.ifYes W.here W.hx rfl (pc0 := 5) (pc' := 12) rfl (W.d dkey_5) rfl ((if0 _ _).trans (feq hc1).2) (by decide) (by decide) k) ?_
    show Go _ _ _ _ _ _ _ _ _ _ (mkF m 12 #[.val (.int x0)] [])
    refine Go.step (fun _ k => XS.iloadN W.here W.hx rfl (W.d dkey_12) rfl k) ?_
    show Go _ _ _ _ _ _ _ _ _ _ (mkF m 13 #[.val (.int x0)] [(.int x0)])
    refine Go.step (fun _ k => XS.sipush W.here W.hx rfl (W.d dkey_13) k) ?_
    show Go _ _ _ _ _ _ _ _ _ _ (mkF m 16 #[.val (.int x0)] [(.int (255 : Int32)), (.int x0)])
    refine Go.step (fun _ k => XS.iand W.here W.hx rfl (W.d dkey_16) rfl k) ?_
    show Go _ _ _ _ _ _ _ _ _ _ (mkF m 17 #[.val (.int x0)] [(.int (x0 &&& (255 : Int32)))])
    exact W.retI dkey_17 (⟨by rw [keyOf, if_neg hc1], rfl⟩) (by decide) (by decide)

/-- a text of at most one sign -/
def One1 (cs : List Int32) : Prop := cs = [] ∨ ∃ x, Sm x ∧ cs = [x]
theorem one_txt (x : Int32) : One1 (txt x) := by
  unfold txt One1
  split
  · exact Or.inl rfl
  · exact Or.inr ⟨_, chr255 x, rfl⟩

theorem dl00_0 : decode jdk_43_method_13_code 0 = .ok (.aload_n 0, 1) := by decide +kernel
theorem dl00_1 : decode jdk_43_method_13_code 1 = .ok (.arraylength, 1) := by decide +kernel
theorem dl00_2 : decode jdk_43_method_13_code 2 = .ok (.aload_n 1, 1) := by decide +kernel
theorem dl00_3 : decode jdk_43_method_13_code 3 = .ok (.arraylength, 1) := by decide +kernel
theorem dl00_4 : decode jdk_43_method_13_code 4 = .ok (.if_icmp .ne 30, 3) := by decide +kernel
theorem dl00_7 : decode jdk_43_method_13_code 7 = .ok (.iconst 0, 1) := by decide +kernel
theorem dl00_8 : decode jdk_43_method_13_code 8 = .ok (.istore_n 2, 1) := by decide +kernel
theorem dl00_9 : decode jdk_43_method_13_code 9 = .ok (.iload_n 2, 1) := by decide +kernel
theorem dl00_10 : decode jdk_43_method_13_code 10 = .ok (.aload_n 0, 1) := by decide +kernel
theorem dl00_11 : decode jdk_43_method_13_code 11 = .ok (.arraylength, 1) := by decide +kernel
theorem dl00_12 : decode jdk_43_method_13_code 12 = .ok (.if_icmp .ge 20, 3) := by decide +kernel
theorem dl00_32 : decode jdk_43_method_13_code 32 = .ok (.iconst 1, 1) := by decide +kernel
theorem dl00_33 : decode jdk_43_method_13_code 33 = .ok (.ireturn, 1) := by decide +kernel
theorem efl00 (m : MethodId) (x0 : Addr) (x1 : Addr) : entryFrame m #[(.ref x0), (.ref x1)] 3 = mkF m 0 #[.val (.ref x0), .val (.ref x1), .unset] [] := by first | (simp [entryFrame, mkF, argsToLocals, Value.category]; done) | rfl
set_option maxRecDepth 65536 in
set_option maxHeartbeats 40000000 in
theorem c_l00 {l : Launch} {Z : State} {a0 : Array Value} {G1 : Int32} (X : Ctx Z a0 G1) (a b : Addr) (ka kb : ClassId) (h0 : Heap) (hE : Ext Z.heap h0) (V1 : Arv Z h0 a ka .byte (0 : Int32) [] (.int (0 : Int32))) (V2 : Arv Z h0 b kb .byte (0 : Int32) [] (.int (0 : Int32))) :
    Con l Z consts_1 (⟨"java/lang/StringLatin1", "equals", "([B[B)Z"⟩ : MethodName) jdk_43_method_13_code 3 (some .boolean) [] ({ frames := 0, cells := 0, slots := 0, locals := 0 } : Room) #[(.ref a), (.ref b)] h0 (fun v h => ((v = some (.int 1) ∧ ([] : List Int32) = []) ∨ (v = some (.int 0) ∧ ¬ ([] : List Int32) = [])) ∧ h0 = h) := by
  refine Con.intro (plainFor_of_name pn_1) hE X.el ?_
  intro p e s m below meth c T W
  have hsz := W.size
  refine Go.cast (efl00 m a b) ?_
  refine Go.step (fun _ k => XS.aloadN W.here W.hx rfl (W.d dl00_0) rfl rfl k) ?_
  show Go _ _ _ _ _ _ _ _ _ _ (mkF m 1 #[.val (.ref a), .val (.ref b), .unset] [(.ref a)])
  refine W.arraylength V1 dl00_1 ?_
  show Go _ _ _ _ _ _ _ _ _ _ (mkF m 2 #[.val (.ref a), .val (.ref b), .unset] [(.int (0 : Int32))])
  refine Go.step (fun _ k => XS.aloadN W.here W.hx rfl (W.d dl00_2) rfl rfl k) ?_
  show Go _ _ _ _ _ _ _ _ _ _ (mkF m 3 #[.val (.ref a), .val (.ref b), .unset] [(.ref b), (.int (0 : Int32))])
  refine W.arraylength V2 dl00_3 ?_
  show Go _ _ _ _ _ _ _ _ _ _ (mkF m 4 #[.val (.ref a), .val (.ref b), .unset] [(.int (0 : Int32)), (.int (0 : Int32))])
  refine Go.step (fun _ k => XS.icmpNo W.here W.hx rfl (W.d dl00_4) rfl (teq (by decide : (0 : Int32) = (0 : Int32))).2 k) ?_
  show Go _ _ _ _ _ _ _ _ _ _ (mkF m 7 #[.val (.ref a), .val (.ref b), .unset] [])
  refine Go.step (fun _ k => XS.iconst W.here W.hx rfl (W.d dl00_7) k) ?_
  show Go _ _ _ _ _ _ _ _ _ _ (mkF m 8 #[.val (.ref a), .val (.ref b), .unset] [(.int (0 : Int32))])
  refine Go.step (fun _ k => XS.istoreN W.here W.hx rfl (W.d dl00_8) rfl (l' := #[.val (.ref a), .val (.ref b), .val (.int (0 : Int32))]) rfl k) ?_
  show Go _ _ _ _ _ _ _ _ _ _ (mkF m 9 #[.val (.ref a), .val (.ref b), .val (.int (0 : Int32))] [])
  refine Go.step (fun _ k => XS.iloadN W.here W.hx rfl (W.d dl00_9) rfl k) ?_
  show Go _ _ _ _ _ _ _ _ _ _ (mkF m 10 #[.val (.ref a), .val (.ref b), .val (.int (0 : Int32))] [(.int (0 : Int32))])
  refine Go.step (fun _ k => XS.aloadN W.here W.hx rfl (W.d dl00_10) rfl rfl k) ?_
  show Go _ _ _ _ _ _ _ _ _ _ (mkF m 11 #[.val (.ref a), .val (.ref b), .val (.int (0 : Int32))] [(.ref a), (.int (0 : Int32))])
  refine W.arraylength V1 dl00_11 ?_
  show Go _ _ _ _ _ _ _ _ _ _ (mkF m 12 #[.val (.ref a), .val (.ref b), .val (.int (0 : Int32))] [(.int (0 : Int32)), (.int (0 : Int32))])
  refine Go.step (fun _ k => XS.icmpYes W.here W.hx rfl (pc0 := 12) (pc' := 32) rfl (W.d dl00_12) rfl (flt (by decide : ¬ ((0 : Int32) < (0 : Int32)))).2.1 (by decide) (by decide) k) ?_
  show Go _ _ _ _ _ _ _ _ _ _ (mkF m 32 #[.val (.ref a), .val (.ref b), .val (.int (0 : Int32))] [])
  refine Go.step (fun _ k => XS.iconst W.here W.hx rfl (W.d dl00_32) k) ?_
  show Go _ _ _ _ _ _ _ _ _ _ (mkF m 33 #[.val (.ref a), .val (.ref b), .val (.int (0 : Int32))] [(.int (1 : Int32))])
  exact W.retN (by simp) dl00_33 (⟨Or.inl ⟨rfl, rfl⟩, rfl⟩) (by decide) (by decide)

theorem dl01_0 : decode jdk_43_method_13_code 0 = .ok (.aload_n 0, 1) := by decide +kernel
theorem dl01_1 : decode jdk_43_method_13_code 1 = .ok (.arraylength, 1) := by decide +kernel
theorem dl01_2 : decode jdk_43_method_13_code 2 = .ok (.aload_n 1, 1) := by decide +kernel
theorem dl01_3 : decode jdk_43_method_13_code 3 = .ok (.arraylength, 1) := by decide +kernel
theorem dl01_4 : decode jdk_43_method_13_code 4 = .ok (.if_icmp .ne 30, 3) := by decide +kernel
theorem dl01_34 : decode jdk_43_method_13_code 34 = .ok (.iconst 0, 1) := by decide +kernel
theorem dl01_35 : decode jdk_43_method_13_code 35 = .ok (.ireturn, 1) := by decide +kernel
theorem efl01 (m : MethodId) (x0 : Addr) (x1 : Addr) : entryFrame m #[(.ref x0), (.ref x1)] 3 = mkF m 0 #[.val (.ref x0), .val (.ref x1), .unset] [] := by first | (simp [entryFrame, mkF, argsToLocals, Value.category]; done) | rfl
set_option maxRecDepth 65536 in
set_option maxHeartbeats 40000000 in
theorem c_l01 {l : Launch} {Z : State} {a0 : Array Value} {G1 : Int32} (X : Ctx Z a0 G1) (a b : Addr) (ka kb : ClassId) (y : Int32) (h0 : Heap) (hE : Ext Z.heap h0) (V1 : Arv Z h0 a ka .byte (0 : Int32) [] (.int (0 : Int32))) (V2 : Arv Z h0 b kb .byte (1 : Int32) [(.int y.toInt8.toInt32)] (.int (0 : Int32))) (hy : Sm y) :
    Con l Z consts_1 (⟨"java/lang/StringLatin1", "equals", "([B[B)Z"⟩ : MethodName) jdk_43_method_13_code 3 (some .boolean) [] ({ frames := 0, cells := 0, slots := 0, locals := 0 } : Room) #[(.ref a), (.ref b)] h0 (fun v h => ((v = some (.int 1) ∧ ([] : List Int32) = [y]) ∨ (v = some (.int 0) ∧ ¬ ([] : List Int32) = [y])) ∧ h0 = h) := by
  refine Con.intro (plainFor_of_name pn_1) hE X.el ?_
  intro p e s m below meth c T W
  have hsz := W.size
  refine Go.cast (efl01 m a b) ?_
  refine Go.step (fun _ k => XS.aloadN W.here W.hx rfl (W.d dl01_0) rfl rfl k) ?_
  show Go _ _ _ _ _ _ _ _ _ _ (mkF m 1 #[.val (.ref a), .val (.ref b), .unset] [(.ref a)])
  refine W.arraylength V1 dl01_1 ?_
  show Go _ _ _ _ _ _ _ _ _ _ (mkF m 2 #[.val (.ref a), .val (.ref b), .unset] [(.int (0 : Int32))])
  refine Go.step (fun _ k => XS.aloadN W.here W.hx rfl (W.d dl01_2) rfl rfl k) ?_
  show Go _ _ _ _ _ _ _ _ _ _ (mkF m 3 #[.val (.ref a), .val (.ref b), .unset] [(.ref b), (.int (0 : Int32))])
  refine W.arraylength V2 dl01_3 ?_
  show Go _ _ _ _ _ _ _ _ _ _ (mkF m 4 #[.val (.ref a), .val (.ref b), .unset] [(.int (1 : Int32)), (.int (0 : Int32))])
  refine Go.step (fun _ k => XS.icmpYes W.here W.hx rfl (pc0 := 4) (pc' := 34) rfl (W.d dl01_4) rfl (feq (by decide : ¬ ((0 : Int32) = (1 : Int32)))).2 (by decide) (by decide) k) ?_
  show Go _ _ _ _ _ _ _ _ _ _ (mkF m 34 #[.val (.ref a), .val (.ref b), .unset] [])
  refine Go.step (fun _ k => XS.iconst W.here W.hx rfl (W.d dl01_34) k) ?_
  show Go _ _ _ _ _ _ _ _ _ _ (mkF m 35 #[.val (.ref a), .val (.ref b), .unset] [(.int (0 : Int32))])
  exact W.retN (by simp) dl01_35 (⟨Or.inr ⟨rfl, by simp⟩, rfl⟩) (by decide) (by decide)

theorem dl10_0 : decode jdk_43_method_13_code 0 = .ok (.aload_n 0, 1) := by decide +kernel
theorem dl10_1 : decode jdk_43_method_13_code 1 = .ok (.arraylength, 1) := by decide +kernel
theorem dl10_2 : decode jdk_43_method_13_code 2 = .ok (.aload_n 1, 1) := by decide +kernel
theorem dl10_3 : decode jdk_43_method_13_code 3 = .ok (.arraylength, 1) := by decide +kernel
theorem dl10_4 : decode jdk_43_method_13_code 4 = .ok (.if_icmp .ne 30, 3) := by decide +kernel
theorem dl10_34 : decode jdk_43_method_13_code 34 = .ok (.iconst 0, 1) := by decide +kernel
theorem dl10_35 : decode jdk_43_method_13_code 35 = .ok (.ireturn, 1) := by decide +kernel
theorem efl10 (m : MethodId) (x0 : Addr) (x1 : Addr) : entryFrame m #[(.ref x0), (.ref x1)] 3 = mkF m 0 #[.val (.ref x0), .val (.ref x1), .unset] [] := by first | (simp [entryFrame, mkF, argsToLocals, Value.category]; done) | rfl
set_option maxRecDepth 65536 in
set_option maxHeartbeats 40000000 in
theorem c_l10 {l : Launch} {Z : State} {a0 : Array Value} {G1 : Int32} (X : Ctx Z a0 G1) (a b : Addr) (ka kb : ClassId) (x0 : Int32) (h0 : Heap) (hE : Ext Z.heap h0) (V1 : Arv Z h0 a ka .byte (1 : Int32) [(.int x0.toInt8.toInt32)] (.int (0 : Int32))) (V2 : Arv Z h0 b kb .byte (0 : Int32) [] (.int (0 : Int32))) (hx0 : Sm x0) :
    Con l Z consts_1 (⟨"java/lang/StringLatin1", "equals", "([B[B)Z"⟩ : MethodName) jdk_43_method_13_code 3 (some .boolean) [] ({ frames := 0, cells := 0, slots := 0, locals := 0 } : Room) #[(.ref a), (.ref b)] h0 (fun v h => ((v = some (.int 1) ∧ ([x0] : List Int32) = []) ∨ (v = some (.int 0) ∧ ¬ ([x0] : List Int32) = [])) ∧ h0 = h) := by
  refine Con.intro (plainFor_of_name pn_1) hE X.el ?_
  intro p e s m below meth c T W
  have hsz := W.size
  refine Go.cast (efl10 m a b) ?_
  refine Go.step (fun _ k => XS.aloadN W.here W.hx rfl (W.d dl10_0) rfl rfl k) ?_
  show Go _ _ _ _ _ _ _ _ _ _ (mkF m 1 #[.val (.ref a), .val (.ref b), .unset] [(.ref a)])
  refine W.arraylength V1 dl10_1 ?_
  show Go _ _ _ _ _ _ _ _ _ _ (mkF m 2 #[.val (.ref a), .val (.ref b), .unset] [(.int (1 : Int32))])
  refine Go.step (fun _ k => XS.aloadN W.here W.hx rfl (W.d dl10_2) rfl rfl k) ?_
  show Go _ _ _ _ _ _ _ _ _ _ (mkF m 3 #[.val (.ref a), .val (.ref b), .unset] [(.ref b), (.int (1 : Int32))])
  refine W.arraylength V2 dl10_3 ?_
  show Go _ _ _ _ _ _ _ _ _ _ (mkF m 4 #[.val (.ref a), .val (.ref b), .unset] [(.int (0 : Int32)), (.int (1 : Int32))])
  refine Go.step (fun _ k => XS.icmpYes W.here W.hx rfl (pc0 := 4) (pc' := 34) rfl (W.d dl10_4) rfl (feq (by decide : ¬ ((1 : Int32) = (0 : Int32)))).2 (by decide) (by decide) k) ?_
  show Go _ _ _ _ _ _ _ _ _ _ (mkF m 34 #[.val (.ref a), .val (.ref b), .unset] [])
  refine Go.step (fun _ k => XS.iconst W.here W.hx rfl (W.d dl10_34) k) ?_
  show Go _ _ _ _ _ _ _ _ _ _ (mkF m 35 #[.val (.ref a), .val (.ref b), .unset] [(.int (0 : Int32))])
  exact W.retN (by simp) dl10_35 (⟨Or.inr ⟨rfl, by simp⟩, rfl⟩) (by decide) (by decide)

theorem dl11_0 : decode jdk_43_method_13_code 0 = .ok (.aload_n 0, 1) := by decide +kernel
theorem dl11_1 : decode jdk_43_method_13_code 1 = .ok (.arraylength, 1) := by decide +kernel
theorem dl11_2 : decode jdk_43_method_13_code 2 = .ok (.aload_n 1, 1) := by decide +kernel
theorem dl11_3 : decode jdk_43_method_13_code 3 = .ok (.arraylength, 1) := by decide +kernel
theorem dl11_4 : decode jdk_43_method_13_code 4 = .ok (.if_icmp .ne 30, 3) := by decide +kernel
theorem dl11_7 : decode jdk_43_method_13_code 7 = .ok (.iconst 0, 1) := by decide +kernel
theorem dl11_8 : decode jdk_43_method_13_code 8 = .ok (.istore_n 2, 1) := by decide +kernel
theorem dl11_9 : decode jdk_43_method_13_code 9 = .ok (.iload_n 2, 1) := by decide +kernel
theorem dl11_10 : decode jdk_43_method_13_code 10 = .ok (.aload_n 0, 1) := by decide +kernel
theorem dl11_11 : decode jdk_43_method_13_code 11 = .ok (.arraylength, 1) := by decide +kernel
theorem dl11_12 : decode jdk_43_method_13_code 12 = .ok (.if_icmp .ge 20, 3) := by decide +kernel
theorem dl11_15 : decode jdk_43_method_13_code 15 = .ok (.aload_n 0, 1) := by decide +kernel
theorem dl11_16 : decode jdk_43_method_13_code 16 = .ok (.iload_n 2, 1) := by decide +kernel
theorem dl11_17 : decode jdk_43_method_13_code 17 = .ok (.baload, 1) := by decide +kernel
theorem dl11_18 : decode jdk_43_method_13_code 18 = .ok (.aload_n 1, 1) := by decide +kernel
theorem dl11_19 : decode jdk_43_method_13_code 19 = .ok (.iload_n 2, 1) := by decide +kernel
theorem dl11_20 : decode jdk_43_method_13_code 20 = .ok (.baload, 1) := by decide +kernel
theorem dl11_21 : decode jdk_43_method_13_code 21 = .ok (.if_icmp .eq 5, 3) := by decide +kernel
theorem dl11_24 : decode jdk_43_method_13_code 24 = .ok (.iconst 0, 1) := by decide +kernel
theorem dl11_25 : decode jdk_43_method_13_code 25 = .ok (.ireturn, 1) := by decide +kernel
theorem dl11_26 : decode jdk_43_method_13_code 26 = .ok (.iinc 2 1, 3) := by decide +kernel
theorem dl11_29 : decode jdk_43_method_13_code 29 = .ok (.goto (-20), 3) := by decide +kernel
theorem dl11_32 : decode jdk_43_method_13_code 32 = .ok (.iconst 1, 1) := by decide +kernel
theorem dl11_33 : decode jdk_43_method_13_code 33 = .ok (.ireturn, 1) := by decide +kernel
theorem efl11 (m : MethodId) (x0 : Addr) (x1 : Addr) : entryFrame m #[(.ref x0), (.ref x1)] 3 = mkF m 0 #[.val (.ref x0), .val (.ref x1), .unset] [] := by first | (simp [entryFrame, mkF, argsToLocals, Value.category]; done) | rfl
set_option maxRecDepth 65536 in
set_option maxHeartbeats 40000000 in
theorem c_l11 {l : Launch} {Z : State} {a0 : Array Value} {G1 : Int32} (X : Ctx Z a0 G1) (a b : Addr) (ka kb : ClassId) (x0 : Int32) (y : Int32) (h0 : Heap) (hE : Ext Z.heap h0) (V1 : Arv Z h0 a ka .byte (1 : Int32) [(.int x0.toInt8.toInt32)] (.int (0 : Int32))) (V2 : Arv Z h0 b kb .byte (1 : Int32) [(.int y.toInt8.toInt32)] (.int (0 : Int32))) (hx0 : Sm x0) (hy : Sm y) :
    Con l Z consts_1 (⟨"java/lang/StringLatin1", "equals", "([B[B)Z"⟩ : MethodName) jdk_43_method_13_code 3 (some .boolean) [] ({ frames := 0, cells := 0, slots := 0, locals := 0 } : Room) #[(.ref a), (.ref b)] h0 (fun v h => ((v = some (.int 1) ∧ ([x0] : List Int32) = [y]) ∨ (v = some (.int 0) ∧ ¬ ([x0] : List Int32) = [y])) ∧ h0 = h) := by
  refine Con.intro (plainFor_of_name pn_1) hE X.el ?_
  intro p e s m below meth c T W
  have hsz := W.size
  refine Go.cast (efl11 m a b) ?_
  refine Go.step (fun _ k => XS.aloadN W.here W.hx rfl (W.d dl11_0) rfl rfl k) ?_
  show Go _ _ _ _ _ _ _ _ _ _ (mkF m 1 #[.val (.ref a), .val (.ref b), .unset] [(.ref a)])
  refine W.arraylength V1 dl11_1 ?_
  show Go _ _ _ _ _ _ _ _ _ _ (mkF m 2 #[.val (.ref a), .val (.ref b), .unset] [(.int (1 : Int32))])
  refine Go.step (fun _ k => XS.aloadN W.here W.hx rfl (W.d dl11_2) rfl rfl k) ?_
  show Go _ _ _ _ _ _ _ _ _ _ (mkF m 3 #[.val (.ref a), .val (.ref b), .unset] [(.ref b), (.int (1 : Int32))])
  refine W.arraylength V2 dl11_3 ?_
  show Go _ _ _ _ _ _ _ _ _ _ (mkF m 4 #[.val (.ref a), .val (.ref b), .unset] [(.int (1 : Int32)), (.int (1 : Int32))])
  refine Go.step (fun _ k => XS.icmpNo W.here W.hx rfl (W.d dl11_4) rfl (teq (by decide : (1 : Int32) = (1 : Int32))).2 k) ?_
  show Go _ _ _ _ _ _ _ _ _ _ (mkF m 7 #[.val (.ref a), .val (.ref b), .unset] [])
  refine Go.step (fun _ k => XS.iconst W.here W.hx rfl (W.d dl11_7) k) ?_
  show Go _ _ _ _ _ _ _ _ _ _ (mkF m 8 #[.val (.ref a), .val (.ref b), .unset] [(.int (0 : Int32))])
  refine Go.step (fun _ k => XS.istoreN W.here W.hx rfl (W.d dl11_8) rfl (l' := #[.val (.ref a), .val (.ref b), .val (.int (0 : Int32))]) rfl k) ?_
  show Go _ _ _ _ _ _ _ _ _ _ (mkF m 9 #[.val (.ref a), .val (.ref b), .val (.int (0 : Int32))] [])
  refine Go.step (fun _ k => XS.iloadN W.here W.hx rfl (W.d dl11_9) rfl k) ?_
  show Go _ _ _ _ _ _ _ _ _ _ (mkF m 10 #[.val (.ref a), .val (.ref b), .val (.int (0 : Int32))] [(.int (0 : Int32))])
  refine Go.step (fun _ k => XS.aloadN W.here W.hx rfl (W.d dl11_10) rfl rfl k) ?_
  show Go _ _ _ _ _ _ _ _ _ _ (mkF m 11 #[.val (.ref a), .val (.ref b), .val (.int (0 : Int32))] [(.ref a), (.int (0 : Int32))])
  refine W.arraylength V1 dl11_11 ?_
  show Go _ _ _ _ _ _ _ _ _ _ (mkF m 12 #[.val (.ref a), .val (.ref b), .val (.int (0 : Int32))] [(.int (1 : Int32)), (.int (0 : Int32))])
  refine Go.step (fun _ k => XS.icmpNo W.here W.hx rfl (W.d dl11_12) rfl (tlt (by decide : (0 : Int32) < (1 : Int32))).2.1 k) ?_
  show Go _ _ _ _ _ _ _ _ _ _ (mkF m 15 #[.val (.ref a), .val (.ref b), .val (.int (0 : Int32))] [])
  refine Go.step (fun _ k => XS.aloadN W.here W.hx rfl (W.d dl11_15) rfl rfl k) ?_
  show Go _ _ _ _ _ _ _ _ _ _ (mkF m 16 #[.val (.ref a), .val (.ref b), .val (.int (0 : Int32))] [(.ref a)])
  refine Go.step (fun _ k => XS.iloadN W.here W.hx rfl (W.d dl11_16) rfl k) ?_
  show Go _ _ _ _ _ _ _ _ _ _ (mkF m 17 #[.val (.ref a), .val (.ref b), .val (.int (0 : Int32))] [(.int (0 : Int32)), (.ref a)])
  refine W.baload V1 (by decide) rfl dl11_17 ?_
  show Go _ _ _ _ _ _ _ _ _ _ (mkF m 18 #[.val (.ref a), .val (.ref b), .val (.int (0 : Int32))] [(.int x0.toInt8.toInt32)])
  refine Go.step (fun _ k => XS.aloadN W.here W.hx rfl (W.d dl11_18) rfl rfl k) ?_
  show Go _ _ _ _ _ _ _ _ _ _ (mkF m 19 #[.val (.ref a), .val (.ref b), .val (.int (0 : Int32))] [(.ref b), (.int x0.toInt8.toInt32)])
  refine Go.step (fun _ k => XS.iloadN W.here W.hx rfl (W.d dl11_19) rfl k) ?_
  show Go _ _ _ _ _ _ _ _ _ _ (mkF m 20 #[.val (.ref a), .val (.ref b), .val (.int (0 : Int32))] [(.int (0 : Int32)), (.ref b), (.int x0.toInt8.toInt32)])
  refine W.baload V2 (by decide) rfl dl11_20 ?_
  show Go _ _ _ _ _ _ _ _ _ _ (mkF m 21 #[.val (.ref a), .val (.ref b), .val (.int (0 : Int32))] [(.int y.toInt8.toInt32), (.int x0.toInt8.toInt32)])
  by_cases hc1 : x0.toInt8.toInt32 = y.toInt8.toInt32
  · refine Go.step (fun _ k => XS.icmpYes W.here W.hx rfl (pc0 := 21) (pc' := 26) rfl (W.d dl11_21) rfl (teq hc1).1 (by decide) (by decide) k) ?_
    show Go _ _ _ _ _ _ _ _ _ _ (mkF m 26 #[.val (.ref a), .val (.ref b), .val (.int (0 : Int32))] [])
    refine Go.step (fun _ k => XS.iinc W.here W.hx rfl (W.d dl11_26) rfl (l' := #[.val (.ref a), .val (.ref b), .val (.int (1 : Int32))]) rfl k) ?_
    show Go _ _ _ _ _ _ _ _ _ _ (mkF m 29 #[.val (.ref a), .val (.ref b), .val (.int (1 : Int32))] [])
    refine Go.step (fun _ k => XS.goto W.here W.hx rfl (pc0 := 29) (pc' := 9) rfl (W.d dl11_29) (by decide) (by decide) k) ?_
    show Go _ _ _ _ _ _ _ _ _ _ (mkF m 9 #[.val (.ref a), .val (.ref b), .val (.int (1 : Int32))] [])
    refine Go.step (fun _ k => XS.iloadN W.here W.hx rfl (W.d dl11_9) rfl k) ?_
    show Go _ _ _ _ _ _ _ _ _ _ (mkF m 10 #[.val (.ref a), .val (.ref b), .val (.int (1 : Int32))] [(.int (1 : Int32))])
    refine Go.step (fun _ k => XS.aloadN W.here W.hx rfl (W.d dl11_10) rfl rfl k) ?_
    show Go _ _ _ _ _ _ _ _ _ _ (mkF m 11 #[.val (.ref a), .val (.ref b), .val (.int (1 : Int32))] [(.ref a), (.int (1 : Int32))])
    refine W.arraylength V1 dl11_11 ?_
    show Go _ _ _ _ _ _ _ _ _ _ (mkF m 12 #[.val (.ref a), .val (.ref b), .val (.int (1 : Int32))] [(.int (1 : Int32)), (.int (1 : Int32))])
    refine Go.step (fun _ k => XS.icmpYes W.here W.hx rfl (pc0 := 12) (pc' := 32) rfl (W.d dl11_12) rfl (flt (by decide : ¬ ((1 : Int32) < (1 : Int32)))).2.1 (by decide) (by decide) k) ?_
    show Go _ _ _ _ _ _ _ _ _ _ (mkF m 32 #[.val (.ref a), .val (.ref b), .val (.int (1 : Int32))] [])
    refine Go.step (fun _ k => XS.iconst W.here W.hx rfl (W.d dl11_32) k) ?_
    show Go _ _ _ _ _ _ _ _ _ _ (mkF m 33 #[.val (.ref a), .val (.ref b), .val (.int (1 : Int32))] [(.int (1 : Int32))])
    exact W.retN (by simp) dl11_33 (⟨Or.inl ⟨rfl, by rw [low_inj hx0 hy hc1]⟩, rfl⟩) (by decide) (by decide)
  · refine Go.step (fun _ k => XS.icmpNo W.here W.hx rfl (W.d dl11_21) rfl (feq hc1).1 k) ?_
    show Go _ _ _ _ _ _ _ _ _ _ (mkF m 24 #[.val (.ref a), .val (.ref b), .val (.int (0 : Int32))] [])
    refine Go.step (fun _ k => XS.iconst W.here W.hx rfl (W.d dl11_24) k) ?_
    show Go _ _ _ _ _ _ _ _ _ _ (mkF m 25 #[.val (.ref a), .val (.ref b), .val (.int (0 : Int32))] [(.int (0 : Int32))])
    exact W.retN (by simp) dl11_25 (⟨Or.inr ⟨rfl, fun q => hc1 (by rw [(List.cons.inj q).1])⟩, rfl⟩) (by decide) (by decide)

theorem c_leq {l : Launch} {Z : State} {a0 : Array Value} {G1 : Int32} (X : Ctx Z a0 G1) (a b : Addr) (ka kb : ClassId) (cs ds : List Int32) (h0 : Heap) (hE : Ext Z.heap h0) (o1 : One1 cs) (o2 : One1 ds) (V1 : Arv Z h0 a ka .byte (Int32.ofNat cs.length) (cs.map fun c => Value.int c.toInt8.toInt32) (.int (0 : Int32))) (V2 : Arv Z h0 b kb .byte (Int32.ofNat ds.length) (ds.map fun c => Value.int c.toInt8.toInt32) (.int (0 : Int32))) :
    Con l Z consts_1 (⟨"java/lang/StringLatin1", "equals", "([B[B)Z"⟩ : MethodName) jdk_43_method_13_code 3 (some .boolean) [] ({ frames := 0, cells := 0, slots := 0, locals := 0 } : Room) #[(.ref a), (.ref b)] h0 (fun v h => ((v = some (.int 1) ∧ cs = ds) ∨ (v = some (.int 0) ∧ ¬ cs = ds)) ∧ h0 = h) := by
  rcases o1 with rfl | ⟨x0, hx0, rfl⟩ <;> rcases o2 with rfl | ⟨y, hy, rfl⟩
  · exact c_l00 X a b ka kb h0 hE V1 V2
  · exact c_l01 X a b ka kb y h0 hE V1 V2 hy
  · exact c_l10 X a b ka kb x0 h0 hE V1 V2 hx0
  · exact c_l11 X a b ka kb x0 y h0 hE V1 V2 hx0 hy

theorem dsq1_0 : decode jdk_42_method_66_code 0 = .ok (.aload_n 0, 1) := by decide +kernel
theorem dsq1_1 : decode jdk_42_method_66_code 1 = .ok (.aload_n 1, 1) := by decide +kernel
theorem dsq1_2 : decode jdk_42_method_66_code 2 = .ok (.if_acmp .ne 5, 3) := by decide +kernel
theorem dsq1_7 : decode jdk_42_method_66_code 7 = .ok (.aload_n 1, 1) := by decide +kernel
theorem dsq1_8 : decode jdk_42_method_66_code 8 = .ok (.instanceof 10, 3) := by decide +kernel
theorem dsq1_11 : decode jdk_42_method_66_code 11 = .ok (.ifCond .eq 43, 3) := by decide +kernel
theorem dsq1_14 : decode jdk_42_method_66_code 14 = .ok (.aload_n 1, 1) := by decide +kernel
theorem dsq1_15 : decode jdk_42_method_66_code 15 = .ok (.checkcast 10, 3) := by decide +kernel
theorem dsq1_18 : decode jdk_42_method_66_code 18 = .ok (.astore_n 2, 1) := by decide +kernel
theorem dsq1_19 : decode jdk_42_method_66_code 19 = .ok (.getstatic 38, 3) := by decide +kernel
theorem dsq1_22 : decode jdk_42_method_66_code 22 = .ok (.ifCond .eq 14, 3) := by decide +kernel
theorem dsq1_25 : decode jdk_42_method_66_code 25 = .ok (.aload_n 0, 1) := by decide +kernel
theorem dsq1_26 : decode jdk_42_method_66_code 26 = .ok (.getfield 15, 3) := by decide +kernel
theorem dsq1_29 : decode jdk_42_method_66_code 29 = .ok (.aload_n 2, 1) := by decide +kernel
theorem dsq1_30 : decode jdk_42_method_66_code 30 = .ok (.getfield 15, 3) := by decide +kernel
theorem dsq1_33 : decode jdk_42_method_66_code 33 = .ok (.if_icmp .ne 21, 3) := by decide +kernel
theorem dsq1_36 : decode jdk_42_method_66_code 36 = .ok (.aload_n 0, 1) := by decide +kernel
theorem dsq1_37 : decode jdk_42_method_66_code 37 = .ok (.getfield 9, 3) := by decide +kernel
theorem dsq1_40 : decode jdk_42_method_66_code 40 = .ok (.aload_n 2, 1) := by decide +kernel
theorem dsq1_41 : decode jdk_42_method_66_code 41 = .ok (.getfield 9, 3) := by decide +kernel
theorem dsq1_44 : decode jdk_42_method_66_code 44 = .ok (.invokestatic 541, 3) := by decide +kernel
theorem dsq1_47 : decode jdk_42_method_66_code 47 = .ok (.ifCond .eq 7, 3) := by decide +kernel
theorem dsq1_50 : decode jdk_42_method_66_code 50 = .ok (.iconst 1, 1) := by decide +kernel
theorem dsq1_51 : decode jdk_42_method_66_code 51 = .ok (.goto 4, 3) := by decide +kernel
theorem dsq1_54 : decode jdk_42_method_66_code 54 = .ok (.iconst 0, 1) := by decide +kernel
theorem dsq1_55 : decode jdk_42_method_66_code 55 = .ok (.ireturn, 1) := by decide +kernel
theorem efsq1 (m : MethodId) (x0 : Addr) (x1 : Addr) : entryFrame m #[(.ref x0), (.ref x1)] 3 = mkF m 0 #[.val (.ref x0), .val (.ref x1), .unset] [] := by first | (simp [entryFrame, mkF, argsToLocals, Value.category]; done) | rfl
set_option maxRecDepth 65536 in
set_option maxHeartbeats 40000000 in
theorem c_sq1 {l : Launch} {Z : State} {a0 : Array Value} {G1 : Int32} (X : Ctx Z a0 G1) (a b t u : Addr) (k1 k2 : ClassId) (cs ds : List Int32) (h0 : Heap) (hE : Ext Z.heap h0) (o1 : One1 cs) (o2 : One1 ds) (A1 : Exa Z h0 a "java/lang/String") (FV1 : Fld Z h0 a "java/lang/String" "value" "[B" (.ref t)) (FC1 : Fld Z h0 a "java/lang/String" "coder" "B" (.int (0 : Int32))) (V1 : Arv Z h0 t k1 .byte (Int32.ofNat cs.length) (cs.map fun c => Value.int c.toInt8.toInt32) (.int (0 : Int32))) (A2 : Exa Z h0 b "java/lang/String") (FV2 : Fld Z h0 b "java/lang/String" "value" "[B" (.ref u)) (FC2 : Fld Z h0 b "java/lang/String" "coder" "B" (.int (0 : Int32))) (V2 : Arv Z h0 u k2 .byte (Int32.ofNat ds.length) (ds.map fun c => Value.int c.toInt8.toInt32) (.int (0 : Int32))) (ne : a ≠ b) :
    Con l Z consts_1 (⟨"java/lang/String", "equals", "(Ljava/lang/Object;)Z"⟩ : MethodName) jdk_42_method_66_code 3 (some .boolean) [] ({ frames := 1, cells := 0, slots := 0, locals := 14 } : Room) #[(.ref a), (.ref b)] h0 (fun v h => ((v = some (.int 1) ∧ cs = ds) ∨ (v = some (.int 0) ∧ ¬ cs = ds)) ∧ h0 = h) := by
  refine Con.intro (plainFor_of_name pn_0) hE X.el ?_
  intro p e s m below meth c T W
  have hsz := W.size
  refine Go.cast (efsq1 m a b) ?_
  refine Go.step (fun _ k => XS.aloadN W.here W.hx rfl (W.d dsq1_0) rfl rfl k) ?_
  show Go _ _ _ _ _ _ _ _ _ _ (mkF m 1 #[.val (.ref a), .val (.ref b), .unset] [(.ref a)])
  refine Go.step (fun _ k => XS.aloadN W.here W.hx rfl (W.d dsq1_1) rfl rfl k) ?_
  show Go _ _ _ _ _ _ _ _ _ _ (mkF m 2 #[.val (.ref a), .val (.ref b), .unset] [(.ref b), (.ref a)])
  refine W.acmp (pc' := 7) (same := false) rfl rfl dsq1_2 (decide_eq_false fun q => ne (Value.ref.inj q)) (by decide) (by decide) ?_
  show Go _ _ _ _ _ _ _ _ _ _ (mkF m 7 #[.val (.ref a), .val (.ref b), .unset] [])
  refine Go.step (fun _ k => XS.aloadN W.here W.hx rfl (W.d dsq1_7) rfl rfl k) ?_
  show Go _ _ _ _ _ _ _ _ _ _ (mkF m 8 #[.val (.ref a), .val (.ref b), .unset] [(.ref b)])
  refine W.instY (X.w 56 rfl) (Ins.self A2) dsq1_8 ?_
  intro T W
  show Go _ _ _ _ _ _ _ _ _ _ (mkF m 11 #[.val (.ref a), .val (.ref b), .unset] [(.int (1 : Int32))])
  refine Go.step (fun _ k => XS.ifNo W.here W.hx rfl (W.d dsq1_11) rfl ((if0 _ _).trans (feq (by decide : ¬ ((1 : Int32) = (0 : Int32)))).1) k) ?_
  show Go _ _ _ _ _ _ _ _ _ _ (mkF m 14 #[.val (.ref a), .val (.ref b), .unset] [])
  refine Go.step (fun _ k => XS.aloadN W.here W.hx rfl (W.d dsq1_14) rfl rfl k) ?_
  show Go _ _ _ _ _ _ _ _ _ _ (mkF m 15 #[.val (.ref a), .val (.ref b), .unset] [(.ref b)])
  refine W.cast (X.w 56 rfl) (Ins.self A2) dsq1_15 ?_
  intro T W
  show Go _ _ _ _ _ _ _ _ _ _ (mkF m 18 #[.val (.ref a), .val (.ref b), .unset] [(.ref b)])
  refine Go.step (fun _ k => XS.astoreN W.here W.hx rfl (W.d dsq1_18) rfl rfl (l' := #[.val (.ref a), .val (.ref b), .val (.ref b)]) rfl k) ?_
  show Go _ _ _ _ _ _ _ _ _ _ (mkF m 19 #[.val (.ref a), .val (.ref b), .val (.ref b)] [])
  refine W.getS (host := "") (Or.inl (X.w 57 rfl)) Via.refl X.2.1 dsq1_19 ?_
  intro T W
  show Go _ _ _ _ _ _ _ _ _ _ (mkF m 22 #[.val (.ref a), .val (.ref b), .val (.ref b)] [(.int G1)])
  refine Go.step (fun _ k => XS.ifNo W.here W.hx rfl (W.d dsq1_22) rfl ((if0 _ _).trans (feq X.2.2.1).1) k) ?_
  show Go _ _ _ _ _ _ _ _ _ _ (mkF m 25 #[.val (.ref a), .val (.ref b), .val (.ref b)] [])
  refine Go.step (fun _ k => XS.aloadN W.here W.hx rfl (W.d dsq1_25) rfl rfl k) ?_
  show Go _ _ _ _ _ _ _ _ _ _ (mkF m 26 #[.val (.ref a), .val (.ref b), .val (.ref b)] [(.ref a)])
  refine W.getF (host := "") (Or.inl (X.w 28 rfl)) Via.refl FC1 dsq1_26 ?_
  intro T W
  show Go _ _ _ _ _ _ _ _ _ _ (mkF m 29 #[.val (.ref a), .val (.ref b), .val (.ref b)] [(.int (0 : Int32))])
  refine Go.step (fun _ k => XS.aloadN W.here W.hx rfl (W.d dsq1_29) rfl rfl k) ?_
  show Go _ _ _ _ _ _ _ _ _ _ (mkF m 30 #[.val (.ref a), .val (.ref b), .val (.ref b)] [(.ref b), (.int (0 : Int32))])
  refine W.getF (host := "") (Or.inl (X.w 28 rfl)) Via.refl FC2 dsq1_30 ?_
  intro T W
  show Go _ _ _ _ _ _ _ _ _ _ (mkF m 33 #[.val (.ref a), .val (.ref b), .val (.ref b)] [(.int (0 : Int32)), (.int (0 : Int32))])
  refine Go.step (fun _ k => XS.icmpNo W.here W.hx rfl (W.d dsq1_33) rfl (teq (by decide : (0 : Int32) = (0 : Int32))).2 k) ?_
  show Go _ _ _ _ _ _ _ _ _ _ (mkF m 36 #[.val (.ref a), .val (.ref b), .val (.ref b)] [])
  refine Go.step (fun _ k => XS.aloadN W.here W.hx rfl (W.d dsq1_36) rfl rfl k) ?_
  show Go _ _ _ _ _ _ _ _ _ _ (mkF m 37 #[.val (.ref a), .val (.ref b), .val (.ref b)] [(.ref a)])
  refine W.getF (host := "") (Or.inl (X.w 27 rfl)) Via.refl FV1 dsq1_37 ?_
  intro T W
  show Go _ _ _ _ _ _ _ _ _ _ (mkF m 40 #[.val (.ref a), .val (.ref b), .val (.ref b)] [(.ref t)])
  refine Go.step (fun _ k => XS.aloadN W.here W.hx rfl (W.d dsq1_40) rfl rfl k) ?_
  show Go _ _ _ _ _ _ _ _ _ _ (mkF m 41 #[.val (.ref a), .val (.ref b), .val (.ref b)] [(.ref b), (.ref t)])
  refine W.getF (host := "") (Or.inl (X.w 27 rfl)) Via.refl FV2 dsq1_41 ?_
  intro T W
  show Go _ _ _ _ _ _ _ _ _ _ (mkF m 44 #[.val (.ref a), .val (.ref b), .val (.ref b)] [(.ref u), (.ref t)])
  refine W.callS (X.w 58 rfl) (X.w 59 rfl) (X.w 60 rfl) (X.w 61 rfl) (by decide) (c_leq X t u _ _ cs ds _ W.ext o1 o2 V1 V2) (by decide) (Wd := 0) (by decide) [(.ref t), (.ref u)] [] rfl pd_6 rfl rfl rfl (Nat.le_of_eq rfl) dsq1_44 (by decide) (by decide) ?_
  intro v T h vm W hQ C
  obtain ⟨hq1, rfl⟩ := hQ
  rcases hq1 with ⟨rfl, hq1⟩ | ⟨rfl, hq1⟩
  · show Go _ _ _ _ _ _ _ _ _ _ (mkF m 47 #[.val (.ref a), .val (.ref b), .val (.ref b)] [(.int (1 : Int32))])
    refine Go.step (fun _ k => XS.ifNo W.here W.hx rfl (W.d dsq1_47) rfl ((if0 _ _).trans (feq (by decide : ¬ ((1 : Int32) = (0 : Int32)))).1) k) ?_
    show Go _ _ _ _ _ _ _ _ _ _ (mkF m 50 #[.val (.ref a), .val (.ref b), .val (.ref b)] [])
    refine Go.step (fun _ k => XS.iconst W.here W.hx rfl (W.d dsq1_50) k) ?_
    show Go _ _ _ _ _ _ _ _ _ _ (mkF m 51 #[.val (.ref a), .val (.ref b), .val (.ref b)] [(.int (1 : Int32))])
    refine Go.step (fun _ k => XS.goto W.here W.hx rfl (pc0 := 51) (pc' := 55) rfl (W.d dsq1_51) (by decide) (by decide) k) ?_
    show Go _ _ _ _ _ _ _ _ _ _ (mkF m 55 #[.val (.ref a), .val (.ref b), .val (.ref b)] [(.int (1 : Int32))])
    exact W.retN (by simp) dsq1_55 (⟨Or.inl ⟨rfl, hq1⟩, rfl⟩) (by decide) (by decide)
  · show Go _ _ _ _ _ _ _ _ _ _ (mkF m 47 #[.val (.ref a), .val (.ref b), .val (.ref b)] [(.int (0 : Int32))])
    refine Go.step (fun _ k => XS.ifYes W.here W.hx rfl (pc0 := 47) (pc' := 54) rfl (W.d dsq1_47) rfl ((if0 _ _).trans (teq (by decide : (0 : Int32) = (0 : Int32))).1) (by decide) (by decide) k) ?_
    show Go _ _ _ _ _ _ _ _ _ _ (mkF m 54 #[.val (.ref a), .val (.ref b), .val (.ref b)] [])
    refine Go.step (fun _ k => XS.iconst W.here W.hx rfl (W.d dsq1_54) k) ?_
    show Go _ _ _ _ _ _ _ _ _ _ (mkF m 55 #[.val (.ref a), .val (.ref b), .val (.ref b)] [(.int (0 : Int32))])
    exact W.retN (by simp) dsq1_55 (⟨Or.inr ⟨rfl, hq1⟩, rfl⟩) (by decide) (by decide)

theorem dsq2_0 : decode jdk_42_method_66_code 0 = .ok (.aload_n 0, 1) := by decide +kernel
theorem dsq2_1 : decode jdk_42_method_66_code 1 = .ok (.aload_n 1, 1) := by decide +kernel
theorem dsq2_2 : decode jdk_42_method_66_code 2 = .ok (.if_acmp .ne 5, 3) := by decide +kernel
theorem dsq2_5 : decode jdk_42_method_66_code 5 = .ok (.iconst 1, 1) := by decide +kernel
theorem dsq2_6 : decode jdk_42_method_66_code 6 = .ok (.ireturn, 1) := by decide +kernel
theorem efsq2 (m : MethodId) (x0 : Addr) (x1 : Addr) : entryFrame m #[(.ref x0), (.ref x1)] 3 = mkF m 0 #[.val (.ref x0), .val (.ref x1), .unset] [] := by first | (simp [entryFrame, mkF, argsToLocals, Value.category]; done) | rfl
set_option maxRecDepth 65536 in
set_option maxHeartbeats 40000000 in
theorem c_sq2 {l : Launch} {Z : State} {a0 : Array Value} {G1 : Int32} (X : Ctx Z a0 G1) (a : Addr) (cs : List Int32) (h0 : Heap) (hE : Ext Z.heap h0)  :
    Con l Z consts_1 (⟨"java/lang/String", "equals", "(Ljava/lang/Object;)Z"⟩ : MethodName) jdk_42_method_66_code 3 (some .boolean) [] ({ frames := 1, cells := 0, slots := 0, locals := 14 } : Room) #[(.ref a), (.ref a)] h0 (fun v h => ((v = some (.int 1) ∧ cs = cs) ∨ (v = some (.int 0) ∧ ¬ cs = cs)) ∧ h0 = h) := by
  refine Con.intro (plainFor_of_name pn_0) hE X.el ?_
  intro p e s m below meth c T W
  have hsz := W.size
  refine Go.cast (efsq2 m a a) ?_
  refine Go.step (fun _ k => XS.aloadN W.here W.hx rfl (W.d dsq2_0) rfl rfl k) ?_
  show Go _ _ _ _ _ _ _ _ _ _ (mkF m 1 #[.val (.ref a), .val (.ref a), .unset] [(.ref a)])
  refine Go.step (fun _ k => XS.aloadN W.here W.hx rfl (W.d dsq2_1) rfl rfl k) ?_
  show Go _ _ _ _ _ _ _ _ _ _ (mkF m 2 #[.val (.ref a), .val (.ref a), .unset] [(.ref a), (.ref a)])
  refine W.acmp (pc' := 5) (same := true) rfl rfl dsq2_2 (decide_eq_true rfl) (by decide) (by decide) ?_
  show Go _ _ _ _ _ _ _ _ _ _ (mkF m 5 #[.val (.ref a), .val (.ref a), .unset] [])
  refine Go.step (fun _ k => XS.iconst W.here W.hx rfl (W.d dsq2_5) k) ?_
  show Go _ _ _ _ _ _ _ _ _ _ (mkF m 6 #[.val (.ref a), .val (.ref a), .unset] [(.int (1 : Int32))])
  exact W.retN (by simp) dsq2_6 (⟨Or.inl ⟨rfl, rfl⟩, rfl⟩) (by decide) (by decide)

theorem c_seq {l : Launch} {Z : State} {a0 : Array Value} {G1 : Int32} (X : Ctx Z a0 G1) (a b : Addr) (cs ds : List Int32) (h0 : Heap) (hE : Ext Z.heap h0) (o1 : One1 cs) (o2 : One1 ds) (S1 : Str Z h0 a cs) (S2 : Str Z h0 b ds) :
    Con l Z consts_1 (⟨"java/lang/String", "equals", "(Ljava/lang/Object;)Z"⟩ : MethodName) jdk_42_method_66_code 3 (some .boolean) [] ({ frames := 1, cells := 0, slots := 0, locals := 14 } : Room) #[(.ref a), (.ref b)] h0 (fun v h => ((v = some (.int 1) ∧ cs = ds) ∨ (v = some (.int 0) ∧ ¬ cs = ds)) ∧ h0 = h) := by
  by_cases e : a = b
  · subst e
    have u := S1.uniq S2
    subst u
    exact c_sq2 X a cs h0 hE
  · obtain ⟨t, kb, q1, q2, q3, q4, q5, q6⟩ := S1
    obtain ⟨t', kb', r1, r2, r3, r4, r5, r6⟩ := S2
    exact c_sq1 X a b t t' kb kb' cs ds h0 hE o1 o2 q1 q2 q3 q4 r1 r2 r3 r4 e

theorem deq1_0 : decode prog_8_method_6_code 0 = .ok (.aload_n 1, 1) := by decide +kernel
theorem deq1_1 : decode prog_8_method_6_code 1 = .ok (.instanceof 8, 3) := by decide +kernel
theorem deq1_4 : decode prog_8_method_6_code 4 = .ok (.ifCond .eq 65, 3) := by decide +kernel
theorem deq1_7 : decode prog_8_method_6_code 7 = .ok (.aload_n 1, 1) := by decide +kernel
theorem deq1_8 : decode prog_8_method_6_code 8 = .ok (.checkcast 8, 3) := by decide +kernel
theorem deq1_11 : decode prog_8_method_6_code 11 = .ok (.astore_n 2, 1) := by decide +kernel
theorem deq1_12 : decode prog_8_method_6_code 12 = .ok (.aload_n 0, 1) := by decide +kernel
theorem deq1_13 : decode prog_8_method_6_code 13 = .ok (.getfield 7, 3) := by decide +kernel
theorem deq1_16 : decode prog_8_method_6_code 16 = .ok (.aload_n 2, 1) := by decide +kernel
theorem deq1_17 : decode prog_8_method_6_code 17 = .ok (.getfield 7, 3) := by decide +kernel
theorem deq1_20 : decode prog_8_method_6_code 20 = .ok (.invokevirtual 23, 3) := by decide +kernel
theorem deq1_23 : decode prog_8_method_6_code 23 = .ok (.ifCond .eq 46, 3) := by decide +kernel
theorem deq1_26 : decode prog_8_method_6_code 26 = .ok (.aload_n 0, 1) := by decide +kernel
theorem deq1_27 : decode prog_8_method_6_code 27 = .ok (.getfield 13, 3) := by decide +kernel
theorem deq1_30 : decode prog_8_method_6_code 30 = .ok (.aload_n 2, 1) := by decide +kernel
theorem deq1_31 : decode prog_8_method_6_code 31 = .ok (.getfield 13, 3) := by decide +kernel
theorem deq1_34 : decode prog_8_method_6_code 34 = .ok (.invokevirtual 23, 3) := by decide +kernel
theorem deq1_37 : decode prog_8_method_6_code 37 = .ok (.ifCond .eq 32, 3) := by decide +kernel
theorem deq1_40 : decode prog_8_method_6_code 40 = .ok (.aload_n 0, 1) := by decide +kernel
theorem deq1_41 : decode prog_8_method_6_code 41 = .ok (.getfield 16, 3) := by decide +kernel
theorem deq1_44 : decode prog_8_method_6_code 44 = .ok (.aload_n 2, 1) := by decide +kernel
theorem deq1_45 : decode prog_8_method_6_code 45 = .ok (.getfield 16, 3) := by decide +kernel
theorem deq1_48 : decode prog_8_method_6_code 48 = .ok (.invokevirtual 23, 3) := by decide +kernel
theorem deq1_51 : decode prog_8_method_6_code 51 = .ok (.ifCond .eq 18, 3) := by decide +kernel
theorem deq1_54 : decode prog_8_method_6_code 54 = .ok (.aload_n 0, 1) := by decide +kernel
theorem deq1_55 : decode prog_8_method_6_code 55 = .ok (.getfield 19, 3) := by decide +kernel
theorem deq1_58 : decode prog_8_method_6_code 58 = .ok (.aload_n 2, 1) := by decide +kernel
theorem deq1_59 : decode prog_8_method_6_code 59 = .ok (.getfield 19, 3) := by decide +kernel
theorem deq1_62 : decode prog_8_method_6_code 62 = .ok (.if_icmp .ne 7, 3) := by decide +kernel
theorem deq1_65 : decode prog_8_method_6_code 65 = .ok (.iconst 1, 1) := by decide +kernel
theorem deq1_66 : decode prog_8_method_6_code 66 = .ok (.goto 4, 3) := by decide +kernel
theorem deq1_69 : decode prog_8_method_6_code 69 = .ok (.iconst 0, 1) := by decide +kernel
theorem deq1_70 : decode prog_8_method_6_code 70 = .ok (.ireturn, 1) := by decide +kernel
theorem efeq1 (m : MethodId) (x0 : Addr) (x1 : Addr) : entryFrame m #[(.ref x0), (.ref x1)] 3 = mkF m 0 #[.val (.ref x0), .val (.ref x1), .unset] [] := by first | (simp [entryFrame, mkF, argsToLocals, Value.category]; done) | rfl
set_option maxRecDepth 65536 in
set_option maxHeartbeats 40000000 in
theorem c_eq1 {l : Launch} {Z : State} {a0 : Array Value} {G1 : Int32} (X : Ctx Z a0 G1) (a b : Addr) (sa_library : Addr) (ca_library : List Int32) (sa_sample : Addr) (ca_sample : List Int32) (sa_label : Addr) (ca_label : List Int32) (ia_distance : Int32) (sb_library : Addr) (cb_library : List Int32) (sb_sample : Addr) (cb_sample : List Int32) (sb_label : Addr) (cb_label : List Int32) (ib_distance : Int32) (h0 : Heap) (hE : Ext Z.heap h0) (Aa : Exa Z h0 a "com/example/moderato/moderato/client/ImageHit") (Fa_library : Fld Z h0 a "com/example/moderato/moderato/client/ImageHit" "library" "Ljava/lang/String;" (.ref sa_library)) (Sa_library : Str Z h0 sa_library ca_library) (oSa_library : One1 ca_library) (Fa_sample : Fld Z h0 a "com/example/moderato/moderato/client/ImageHit" "sample" "Ljava/lang/String;" (.ref sa_sample)) (Sa_sample : Str Z h0 sa_sample ca_sample) (oSa_sample : One1 ca_sample) (Fa_label : Fld Z h0 a "com/example/moderato/moderato/client/ImageHit" "label" "Ljava/lang/String;" (.ref sa_label)) (Sa_label : Str Z h0 sa_label ca_label) (oSa_label : One1 ca_label) (Fa_distance : Fld Z h0 a "com/example/moderato/moderato/client/ImageHit" "distance" "I" (.int ia_distance)) (Ab : Exa Z h0 b "com/example/moderato/moderato/client/ImageHit") (Fb_library : Fld Z h0 b "com/example/moderato/moderato/client/ImageHit" "library" "Ljava/lang/String;" (.ref sb_library)) (Sb_library : Str Z h0 sb_library cb_library) (oSb_library : One1 cb_library) (Fb_sample : Fld Z h0 b "com/example/moderato/moderato/client/ImageHit" "sample" "Ljava/lang/String;" (.ref sb_sample)) (Sb_sample : Str Z h0 sb_sample cb_sample) (oSb_sample : One1 cb_sample) (Fb_label : Fld Z h0 b "com/example/moderato/moderato/client/ImageHit" "label" "Ljava/lang/String;" (.ref sb_label)) (Sb_label : Str Z h0 sb_label cb_label) (oSb_label : One1 cb_label) (Fb_distance : Fld Z h0 b "com/example/moderato/moderato/client/ImageHit" "distance" "I" (.int ib_distance)) (ne : a ≠ b) :
    Con l Z consts_1 (⟨"com/example/moderato/moderato/client/ImageHit", "equals", "(Ljava/lang/Object;)Z"⟩ : MethodName) prog_8_method_6_code 3 (some .boolean) [] ({ frames := 2, cells := 0, slots := 0, locals := 28 } : Room) #[(.ref a), (.ref b)] h0 (fun v h => ((v = some (.int 1) ∧ (ca_library = cb_library ∧ ca_sample = cb_sample ∧ ca_label = cb_label ∧ ia_distance = ib_distance)) ∨ (v = some (.int 0) ∧ ¬ (ca_library = cb_library ∧ ca_sample = cb_sample ∧ ca_label = cb_label ∧ ia_distance = ib_distance))) ∧ h0 = h) := by
  refine Con.intro (plainFor_of_name pn_3) hE X.el ?_
  intro p e s m below meth c T W
  have hsz := W.size
  refine Go.cast (efeq1 m a b) ?_
  refine Go.step (fun _ k => XS.aloadN W.here W.hx rfl (W.d deq1_0) rfl rfl k) ?_
  show Go _ _ _ _ _ _ _ _ _ _ (mkF m 1 #[.val (.ref a), .val (.ref b), .unset] [(.ref b)])
  refine W.instY (X.w 49 rfl) (Ins.self Ab) deq1_1 ?_
  intro T W
  show Go _ _ _ _ _ _ _ _ _ _ (mkF m 4 #[.val (.ref a), .val (.ref b), .unset] [(.int (1 : Int32))])
  refine Go.step (fun _ k => XS.ifNo W.here W.hx rfl (W.d deq1_4) rfl ((if0 _ _).trans (feq (by decide : ¬ ((1 : Int32) = (0 : Int32)))).1) k) ?_
  show Go _ _ _ _ _ _ _ _ _ _ (mkF m 7 #[.val (.ref a), .val (.ref b), .unset] [])
  refine Go.step (fun _ k => XS.aloadN W.here W.hx rfl (W.d deq1_7) rfl rfl k) ?_
  show Go _ _ _ _ _ _ _ _ _ _ (mkF m 8 #[.val (.ref a), .val (.ref b), .unset] [(.ref b)])
  refine W.cast (X.w 49 rfl) (Ins.self Ab) deq1_8 ?_
  intro T W
  show Go _ _ _ _ _ _ _ _ _ _ (mkF m 11 #[.val (.ref a), .val (.ref b), .unset] [(.ref b)])
  refine Go.step (fun _ k => XS.astoreN W.here W.hx rfl (W.d deq1_11) rfl rfl (l' := #[.val (.ref a), .val (.ref b), .val (.ref b)]) rfl k) ?_
  show Go _ _ _ _ _ _ _ _ _ _ (mkF m 12 #[.val (.ref a), .val (.ref b), .val (.ref b)] [])
  refine Go.step (fun _ k => XS.aloadN W.here W.hx rfl (W.d deq1_12) rfl rfl k) ?_
  show Go _ _ _ _ _ _ _ _ _ _ (mkF m 13 #[.val (.ref a), .val (.ref b), .val (.ref b)] [(.ref a)])
  refine W.getF (host := "") (Or.inl (X.w 33 rfl)) Via.refl Fa_library deq1_13 ?_
  intro T W
  show Go _ _ _ _ _ _ _ _ _ _ (mkF m 16 #[.val (.ref a), .val (.ref b), .val (.ref b)] [(.ref sa_library)])
  refine Go.step (fun _ k => XS.aloadN W.here W.hx rfl (W.d deq1_16) rfl rfl k) ?_
  show Go _ _ _ _ _ _ _ _ _ _ (mkF m 17 #[.val (.ref a), .val (.ref b), .val (.ref b)] [(.ref b), (.ref sa_library)])
  refine W.getF (host := "") (Or.inl (X.w 33 rfl)) Via.refl Fb_library deq1_17 ?_
  intro T W
  show Go _ _ _ _ _ _ _ _ _ _ (mkF m 20 #[.val (.ref a), .val (.ref b), .val (.ref b)] [(.ref sb_library), (.ref sa_library)])
  refine W.virtual (X.w 51 rfl) (X.w 52 rfl) (notFace_of_selects (args := #[]) (mvT W.hZ (X.w 54 rfl))) (X.w 54 rfl) (X.w 53 rfl) (X.w 9 rfl) (X.w 55 rfl) (by decide) (c_seq X sa_library sb_library _ _ _ W.ext oSa_library oSb_library Sa_library Sb_library) (by decide) (Wd := 0) (by decide) sa_library Sa_library.exa [(.ref sb_library)] [] rfl pd_7 rfl rfl rfl (Nat.le_of_eq rfl) deq1_20 (by decide) (by decide) ?_
  intro v T h vm W hQ C
  obtain ⟨hq1, rfl⟩ := hQ
  rcases hq1 with ⟨rfl, hq1⟩ | ⟨rfl, hq1⟩
  · show Go _ _ _ _ _ _ _ _ _ _ (mkF m 23 #[.val (.ref a), .val (.ref b), .val (.ref b)] [(.int (1 : Int32))])
    refine Go.step (fun _ k => XS.ifNo W.here W.hx rfl (W.d deq1_23) rfl ((if0 _ _).trans (feq (by decide : ¬ ((1 : Int32) = (0 : Int32)))).1) k) ?_
    show Go _ _ _ _ _ _ _ _ _ _ (mkF m 26 #[.val (.ref a), .val (.ref b), .val (.ref b)] [])
    refine Go.step (fun _ k => XS.aloadN W.here W.hx rfl (W.d deq1_26) rfl rfl k) ?_
    show Go _ _ _ _ _ _ _ _ _ _ (mkF m 27 #[.val (.ref a), .val (.ref b), .val (.ref b)] [(.ref a)])
    refine W.getF (host := "") (Or.inl (X.w 35 rfl)) Via.refl Fa_sample deq1_27 ?_
    intro T W
    show Go _ _ _ _ _ _ _ _ _ _ (mkF m 30 #[.val (.ref a), .val (.ref b), .val (.ref b)] [(.ref sa_sample)])
    refine Go.step (fun _ k => XS.aloadN W.here W.hx rfl (W.d deq1_30) rfl rfl k) ?_
    show Go _ _ _ _ _ _ _ _ _ _ (mkF m 31 #[.val (.ref a), .val (.ref b), .val (.ref b)] [(.ref b), (.ref sa_sample)])
    refine W.getF (host := "") (Or.inl (X.w 35 rfl)) Via.refl Fb_sample deq1_31 ?_
    intro T W
    show Go _ _ _ _ _ _ _ _ _ _ (mkF m 34 #[.val (.ref a), .val (.ref b), .val (.ref b)] [(.ref sb_sample), (.ref sa_sample)])
    refine W.virtual (X.w 51 rfl) (X.w 52 rfl) (notFace_of_selects (args := #[]) (mvT W.hZ (X.w 54 rfl))) (X.w 54 rfl) (X.w 53 rfl) (X.w 9 rfl) (X.w 55 rfl) (by decide) (c_seq X sa_sample sb_sample _ _ _ W.ext oSa_sample oSb_sample Sa_sample Sb_sample) (by decide) (Wd := 0) (by decide) sa_sample Sa_sample.exa [(.ref sb_sample)] [] rfl pd_7 rfl rfl rfl (Nat.le_of_eq rfl) deq1_34 (by decide) (by decide) ?_
    intro v T h vm W hQ C
    obtain ⟨hq2, rfl⟩ := hQ
    rcases hq2 with ⟨rfl, hq2⟩ | ⟨rfl, hq2⟩
    · show Go _ _ _ _ _ _ _ _ _ _ (mkF m 37 #[.val (.ref a), .val (.ref b), .val (.ref b)] [(.int (1 : Int32))])
      refine Go.step (fun _ k => XS.ifNo W.here W.hx rfl (W.d deq1_37) rfl ((if0 _ _).trans (feq (by decide : ¬ ((1 : Int32) = (0 : Int32)))).1) k) ?_
      show Go _ _ _ _ _ _ _ _ _ _ (mkF m 40 #[.val (.ref a), .val (.ref b), .val (.ref b)] [])
      refine Go.step (fun _ k => XS.aloadN W.here W.hx rfl (W.d deq1_40) rfl rfl k) ?_
      show Go _ _ _ _ _ _ _ _ _ _ (mkF m 41 #[.val (.ref a), .val (.ref b), .val (.ref b)] [(.ref a)])
      refine W.getF (host := "") (Or.inl (X.w 37 rfl)) Via.refl Fa_label deq1_41 ?_
      intro T W
      show Go _ _ _ _ _ _ _ _ _ _ (mkF m 44 #[.val (.ref a), .val (.ref b), .val (.ref b)] [(.ref sa_label)])
      refine Go.step (fun _ k => XS.aloadN W.here W.hx rfl (W.d deq1_44) rfl rfl k) ?_
      show Go _ _ _ _ _ _ _ _ _ _ (mkF m 45 #[.val (.ref a), .val (.ref b), .val (.ref b)] [(.ref b), (.ref sa_label)])
      refine W.getF (host := "") (Or.inl (X.w 37 rfl)) Via.refl Fb_label deq1_45 ?_
      intro T W
      show Go _ _ _ _ _ _ _ _ _ _ (mkF m 48 #[.val (.ref a), .val (.ref b), .val (.ref b)] [(.ref sb_label), (.ref sa_label)])
      refine W.virtual (X.w 51 rfl) (X.w 52 rfl) (notFace_of_selects (args := #[]) (mvT W.hZ (X.w 54 rfl))) (X.w 54 rfl) (X.w 53 rfl) (X.w 9 rfl) (X.w 55 rfl) (by decide) (c_seq X sa_label sb_label _ _ _ W.ext oSa_label oSb_label Sa_label Sb_label) (by decide) (Wd := 0) (by decide) sa_label Sa_label.exa [(.ref sb_label)] [] rfl pd_7 rfl rfl rfl (Nat.le_of_eq rfl) deq1_48 (by decide) (by decide) ?_
      intro v T h vm W hQ C
      obtain ⟨hq3, rfl⟩ := hQ
      rcases hq3 with ⟨rfl, hq3⟩ | ⟨rfl, hq3⟩
      · show Go _ _ _ _ _ _ _ _ _ _ (mkF m 51 #[.val (.ref a), .val (.ref b), .val (.ref b)] [(.int (1 : Int32))])
        refine Go.step (fun _ k => XS.ifNo W.here W.hx rfl (W.d deq1_51) rfl ((if0 _ _).trans (feq (by decide : ¬ ((1 : Int32) = (0 : Int32)))).1) k) ?_
        show Go _ _ _ _ _ _ _ _ _ _ (mkF m 54 #[.val (.ref a), .val (.ref b), .val (.ref b)] [])
        refine Go.step (fun _ k => XS.aloadN W.here W.hx rfl (W.d deq1_54) rfl rfl k) ?_
        show Go _ _ _ _ _ _ _ _ _ _ (mkF m 55 #[.val (.ref a), .val (.ref b), .val (.ref b)] [(.ref a)])
        refine W.getF (host := "") (Or.inl (X.w 39 rfl)) Via.refl Fa_distance deq1_55 ?_
        intro T W
        show Go _ _ _ _ _ _ _ _ _ _ (mkF m 58 #[.val (.ref a), .val (.ref b), .val (.ref b)] [(.int ia_distance)])
        refine Go.step (fun _ k => XS.aloadN W.here W.hx rfl (W.d deq1_58) rfl rfl k) ?_
        show Go _ _ _ _ _ _ _ _ _ _ (mkF m 59 #[.val (.ref a), .val (.ref b), .val (.ref b)] [(.ref b), (.int ia_distance)])
        refine W.getF (host := "") (Or.inl (X.w 39 rfl)) Via.refl Fb_distance deq1_59 ?_
        intro T W
        show Go _ _ _ _ _ _ _ _ _ _ (mkF m 62 #[.val (.ref a), .val (.ref b), .val (.ref b)] [(.int ib_distance), (.int ia_distance)])
        by_cases hc4 : ia_distance = ib_distance
        · refine Go.step (fun _ k => XS.icmpNo W.here W.hx rfl (W.d deq1_62) rfl (teq hc4).2 k) ?_
          show Go _ _ _ _ _ _ _ _ _ _ (mkF m 65 #[.val (.ref a), .val (.ref b), .val (.ref b)] [])
          refine Go.step (fun _ k => XS.iconst W.here W.hx rfl (W.d deq1_65) k) ?_
          show Go _ _ _ _ _ _ _ _ _ _ (mkF m 66 #[.val (.ref a), .val (.ref b), .val (.ref b)] [(.int (1 : Int32))])
          refine Go.step (fun _ k => XS.goto W.here W.hx rfl (pc0 := 66) (pc' := 70) rfl (W.d deq1_66) (by decide) (by decide) k) ?_
          show Go _ _ _ _ _ _ _ _ _ _ (mkF m 70 #[.val (.ref a), .val (.ref b), .val (.ref b)] [(.int (1 : Int32))])
          exact W.retN (by simp) deq1_70 (⟨Or.inl ⟨rfl, ⟨hq1, hq2, hq3, hc4⟩⟩, rfl⟩) (by decide) (by decide)
        · refine Go.step (fun _ k => XS.icmpYes W.here W.hx rfl (pc0 := 62) (pc' := 69) rfl (W.d deq1_62) rfl (feq hc4).2 (by decide) (by decide) k) ?_
          show Go _ _ _ _ _ _ _ _ _ _ (mkF m 69 #[.val (.ref a), .val (.ref b), .val (.ref b)] [])
          refine Go.step (fun _ k => XS.iconst W.here W.hx rfl (W.d deq1_69) k) ?_
          show Go _ _ _ _ _ _ _ _ _ _ (mkF m 70 #[.val (.ref a), .val (.ref b), .val (.ref b)] [(.int (0 : Int32))])
          exact W.retN (by simp) deq1_70 (⟨Or.inr ⟨rfl, fun q => hc4 q.2.2.2⟩, rfl⟩) (by decide) (by decide)
      · show Go _ _ _ _ _ _ _ _ _ _ (mkF m 51 #[.val (.ref a), .val (.ref b), .val (.ref b)] [(.int (0 : Int32))])
        refine Go.step (fun _ k => XS.ifYes W.here W.hx rfl (pc0 := 51) (pc' := 69) rfl (W.d deq1_51) rfl ((if0 _ _).trans (teq (by decide : (0 : Int32) = (0 : Int32))).1) (by decide) (by decide) k) ?_
        show Go _ _ _ _ _ _ _ _ _ _ (mkF m 69 #[.val (.ref a), .val (.ref b), .val (.ref b)] [])
        refine Go.step (fun _ k => XS.iconst W.here W.hx rfl (W.d deq1_69) k) ?_
        show Go _ _ _ _ _ _ _ _ _ _ (mkF m 70 #[.val (.ref a), .val (.ref b), .val (.ref b)] [(.int (0 : Int32))])
        exact W.retN (by simp) deq1_70 (⟨Or.inr ⟨rfl, fun q => hq3 q.2.2.1⟩, rfl⟩) (by decide) (by decide)
    · show Go _ _ _ _ _ _ _ _ _ _ (mkF m 37 #[.val (.ref a), .val (.ref b), .val (.ref b)] [(.int (0 : Int32))])
      refine Go.step (fun _ k => XS.ifYes W.here W.hx rfl (pc0 := 37) (pc' := 69) rfl (W.d deq1_37) rfl ((if0 _ _).trans (teq (by decide : (0 : Int32) = (0 : Int32))).1) (by decide) (by decide) k) ?_
      show Go _ _ _ _ _ _ _ _ _ _ (mkF m 69 #[.val (.ref a), .val (.ref b), .val (.ref b)] [])
      refine Go.step (fun _ k => XS.iconst W.here W.hx rfl (W.d deq1_69) k) ?_
      show Go _ _ _ _ _ _ _ _ _ _ (mkF m 70 #[.val (.ref a), .val (.ref b), .val (.ref b)] [(.int (0 : Int32))])
      exact W.retN (by simp) deq1_70 (⟨Or.inr ⟨rfl, fun q => hq2 q.2.1⟩, rfl⟩) (by decide) (by decide)
  · show Go _ _ _ _ _ _ _ _ _ _ (mkF m 23 #[.val (.ref a), .val (.ref b), .val (.ref b)] [(.int (0 : Int32))])
    refine Go.step (fun _ k => XS.ifYes W.here W.hx rfl (pc0 := 23) (pc' := 69) rfl (W.d deq1_23) rfl ((if0 _ _).trans (teq (by decide : (0 : Int32) = (0 : Int32))).1) (by decide) (by decide) k) ?_
    show Go _ _ _ _ _ _ _ _ _ _ (mkF m 69 #[.val (.ref a), .val (.ref b), .val (.ref b)] [])
    refine Go.step (fun _ k => XS.iconst W.here W.hx rfl (W.d deq1_69) k) ?_
    show Go _ _ _ _ _ _ _ _ _ _ (mkF m 70 #[.val (.ref a), .val (.ref b), .val (.ref b)] [(.int (0 : Int32))])
    exact W.retN (by simp) deq1_70 (⟨Or.inr ⟨rfl, fun q => hq1 q.1⟩, rfl⟩) (by decide) (by decide)
theorem deq2_0 : decode prog_8_method_6_code 0 = .ok (.aload_n 1, 1) := by decide +kernel
theorem deq2_1 : decode prog_8_method_6_code 1 = .ok (.instanceof 8, 3) := by decide +kernel
theorem deq2_4 : decode prog_8_method_6_code 4 = .ok (.ifCond .eq 65, 3) := by decide +kernel
theorem deq2_7 : decode prog_8_method_6_code 7 = .ok (.aload_n 1, 1) := by decide +kernel
theorem deq2_8 : decode prog_8_method_6_code 8 = .ok (.checkcast 8, 3) := by decide +kernel
theorem deq2_11 : decode prog_8_method_6_code 11 = .ok (.astore_n 2, 1) := by decide +kernel
theorem deq2_12 : decode prog_8_method_6_code 12 = .ok (.aload_n 0, 1) := by decide +kernel
theorem deq2_13 : decode prog_8_method_6_code 13 = .ok (.getfield 7, 3) := by decide +kernel
theorem deq2_16 : decode prog_8_method_6_code 16 = .ok (.aload_n 2, 1) := by decide +kernel
theorem deq2_17 : decode prog_8_method_6_code 17 = .ok (.getfield 7, 3) := by decide +kernel
theorem deq2_20 : decode prog_8_method_6_code 20 = .ok (.invokevirtual 23, 3) := by decide +kernel
theorem deq2_23 : decode prog_8_method_6_code 23 = .ok (.ifCond .eq 46, 3) := by decide +kernel
theorem deq2_26 : decode prog_8_method_6_code 26 = .ok (.aload_n 0, 1) := by decide +kernel
theorem deq2_27 : decode prog_8_method_6_code 27 = .ok (.getfield 13, 3) := by decide +kernel
theorem deq2_30 : decode prog_8_method_6_code 30 = .ok (.aload_n 2, 1) := by decide +kernel
theorem deq2_31 : decode prog_8_method_6_code 31 = .ok (.getfield 13, 3) := by decide +kernel
theorem deq2_34 : decode prog_8_method_6_code 34 = .ok (.invokevirtual 23, 3) := by decide +kernel
theorem deq2_37 : decode prog_8_method_6_code 37 = .ok (.ifCond .eq 32, 3) := by decide +kernel
theorem deq2_40 : decode prog_8_method_6_code 40 = .ok (.aload_n 0, 1) := by decide +kernel
theorem deq2_41 : decode prog_8_method_6_code 41 = .ok (.getfield 16, 3) := by decide +kernel
theorem deq2_44 : decode prog_8_method_6_code 44 = .ok (.aload_n 2, 1) := by decide +kernel
theorem deq2_45 : decode prog_8_method_6_code 45 = .ok (.getfield 16, 3) := by decide +kernel
theorem deq2_48 : decode prog_8_method_6_code 48 = .ok (.invokevirtual 23, 3) := by decide +kernel
theorem deq2_51 : decode prog_8_method_6_code 51 = .ok (.ifCond .eq 18, 3) := by decide +kernel
theorem deq2_54 : decode prog_8_method_6_code 54 = .ok (.aload_n 0, 1) := by decide +kernel
theorem deq2_55 : decode prog_8_method_6_code 55 = .ok (.getfield 19, 3) := by decide +kernel
theorem deq2_58 : decode prog_8_method_6_code 58 = .ok (.aload_n 2, 1) := by decide +kernel
theorem deq2_59 : decode prog_8_method_6_code 59 = .ok (.getfield 19, 3) := by decide +kernel
theorem deq2_62 : decode prog_8_method_6_code 62 = .ok (.if_icmp .ne 7, 3) := by decide +kernel
theorem deq2_65 : decode prog_8_method_6_code 65 = .ok (.iconst 1, 1) := by decide +kernel
theorem deq2_66 : decode prog_8_method_6_code 66 = .ok (.goto 4, 3) := by decide +kernel
theorem deq2_69 : decode prog_8_method_6_code 69 = .ok (.iconst 0, 1) := by decide +kernel
theorem deq2_70 : decode prog_8_method_6_code 70 = .ok (.ireturn, 1) := by decide +kernel
theorem efeq2 (m : MethodId) (x0 : Addr) (x1 : Addr) : entryFrame m #[(.ref x0), (.ref x1)] 3 = mkF m 0 #[.val (.ref x0), .val (.ref x1), .unset] [] := by first | (simp [entryFrame, mkF, argsToLocals, Value.category]; done) | rfl
set_option maxRecDepth 65536 in
set_option maxHeartbeats 40000000 in
theorem c_eq2 {l : Launch} {Z : State} {a0 : Array Value} {G1 : Int32} (X : Ctx Z a0 G1) (a : Addr) (sa_library : Addr) (ca_library : List Int32) (sa_sample : Addr) (ca_sample : List Int32) (sa_label : Addr) (ca_label : List Int32) (ia_distance : Int32) (h0 : Heap) (hE : Ext Z.heap h0) (Aa : Exa Z h0 a "com/example/moderato/moderato/client/ImageHit") (Fa_library : Fld Z h0 a "com/example/moderato/moderato/client/ImageHit" "library" "Ljava/lang/String;" (.ref sa_library)) (Sa_library : Str Z h0 sa_library ca_library) (oSa_library : One1 ca_library) (Fa_sample : Fld Z h0 a "com/example/moderato/moderato/client/ImageHit" "sample" "Ljava/lang/String;" (.ref sa_sample)) (Sa_sample : Str Z h0 sa_sample ca_sample) (oSa_sample : One1 ca_sample) (Fa_label : Fld Z h0 a "com/example/moderato/moderato/client/ImageHit" "label" "Ljava/lang/String;" (.ref sa_label)) (Sa_label : Str Z h0 sa_label ca_label) (oSa_label : One1 ca_label) (Fa_distance : Fld Z h0 a "com/example/moderato/moderato/client/ImageHit" "distance" "I" (.int ia_distance)) :
    Con l Z consts_1 (⟨"com/example/moderato/moderato/client/ImageHit", "equals", "(Ljava/lang/Object;)Z"⟩ : MethodName) prog_8_method_6_code 3 (some .boolean) [] ({ frames := 2, cells := 0, slots := 0, locals := 28 } : Room) #[(.ref a), (.ref a)] h0 (fun v h => v = some (.int 1) ∧ h0 = h) := by
  refine Con.intro (plainFor_of_name pn_3) hE X.el ?_
  intro p e s m below meth c T W
  have hsz := W.size
  refine Go.cast (efeq2 m a a) ?_
  refine Go.step (fun _ k => XS.aloadN W.here W.hx rfl (W.d deq2_0) rfl rfl k) ?_
  show Go _ _ _ _ _ _ _ _ _ _ (mkF m 1 #[.val (.ref a), .val (.ref a), .unset] [(.ref a)])
  refine W.instY (X.w 49 rfl) (Ins.self Aa) deq2_1 ?_
  intro T W
  show Go _ _ _ _ _ _ _ _ _ _ (mkF m 4 #[.val (.ref a), .val (.ref a), .unset] [(.int (1 : Int32))])
  refine Go.step (fun _ k => XS.ifNo W.here W.hx rfl (W.d deq2_4) rfl ((if0 _ _).trans (feq (by decide : ¬ ((1 : Int32) = (0 : Int32)))).1) k) ?_
  show Go _ _ _ _ _ _ _ _ _ _ (mkF m 7 #[.val (.ref a), .val (.ref a), .unset] [])
  refine Go.step (fun _ k => XS.aloadN W.here W.hx rfl (W.d deq2_7) rfl rfl k) ?_
  show Go _ _ _ _ _ _ _ _ _ _ (mkF m 8 #[.val (.ref a), .val (.ref a), .unset] [(.ref a)])
  refine W.cast (X.w 49 rfl) (Ins.self Aa) deq2_8 ?_
  intro T W
  show Go _ _ _ _ _ _ _ _ _ _ (mkF m 11 #[.val (.ref a), .val (.ref a), .unset] [(.ref a)])
  refine Go.step (fun _ k => XS.astoreN W.here W.hx rfl (W.d deq2_11) rfl rfl (l' := #[.val (.ref a), .val (.ref a), .val (.ref a)]) rfl k) ?_
  show Go _ _ _ _ _ _ _ _ _ _ (mkF m 12 #[.val (.ref a), .val (.ref a), .val (.ref a)] [])
  refine Go.step (fun _ k => XS.aloadN W.here W.hx rfl (W.d deq2_12) rfl rfl k) ?_
  show Go _ _ _ _ _ _ _ _ _ _ (mkF m 13 #[.val (.ref a), .val (.ref a), .val (.ref a)] [(.ref a)])
  refine W.getF (host := "") (Or.inl (X.w 33 rfl)) Via.refl Fa_library deq2_13 ?_
  intro T W
  show Go _ _ _ _ _ _ _ _ _ _ (mkF m 16 #[.val (.ref a), .val (.ref a), .val (.ref a)] [(.ref sa_library)])
  refine Go.step (fun _ k => XS.aloadN W.here W.hx rfl (W.d deq2_16) rfl rfl k) ?_
  show Go _ _ _ _ _ _ _ _ _ _ (mkF m 17 #[.val (.ref a), .val (.ref a), .val (.ref a)] [(.ref a), (.ref sa_library)])
  refine W.getF (host := "") (Or.inl (X.w 33 rfl)) Via.refl Fa_library deq2_17 ?_
  intro T W
  show Go _ _ _ _ _ _ _ _ _ _ (mkF m 20 #[.val (.ref a), .val (.ref a), .val (.ref a)] [(.ref sa_library), (.ref sa_library)])
  refine W.virtual (X.w 51 rfl) (X.w 52 rfl) (notFace_of_selects (args := #[]) (mvT W.hZ (X.w 54 rfl))) (X.w 54 rfl) (X.w 53 rfl) (X.w 9 rfl) (X.w 55 rfl) (by decide) (c_seq X sa_library sa_library _ _ _ W.ext oSa_library oSa_library Sa_library Sa_library) (by decide) (Wd := 0) (by decide) sa_library Sa_library.exa [(.ref sa_library)] [] rfl pd_7 rfl rfl rfl (Nat.le_of_eq rfl) deq2_20 (by decide) (by decide) ?_
  intro v T h vm W hQ C
  obtain ⟨hq1, rfl⟩ := hQ
  rcases hq1 with ⟨rfl, hq1⟩ | ⟨rfl, hq1⟩
  · show Go _ _ _ _ _ _ _ _ _ _ (mkF m 23 #[.val (.ref a), .val (.ref a), .val (.ref a)] [(.int (1 : Int32))])
    refine Go.step (fun _ k => XS.ifNo W.here W.hx rfl (W.d deq2_23) rfl ((if0 _ _).trans (feq (by decide : ¬ ((1 : Int32) = (0 : Int32)))).1) k) ?_
    show Go _ _ _ _ _ _ _ _ _ _ (mkF m 26 #[.val (.ref a), .val (.ref a), .val (.ref a)] [])
    refine Go.step (fun _ k => XS.aloadN W.here W.hx rfl (W.d deq2_26) rfl rfl k) ?_
    show Go _ _ _ _ _ _ _ _ _ _ (mkF m 27 #[.val (.ref a), .val (.ref a), .val (.ref a)] [(.ref a)])
    refine W.getF (host := "") (Or.inl (X.w 35 rfl)) Via.refl Fa_sample deq2_27 ?_
    intro T W
    show Go _ _ _ _ _ _ _ _ _ _ (mkF m 30 #[.val (.ref a), .val (.ref a), .val (.ref a)] [(.ref sa_sample)])
    refine Go.step (fun _ k => XS.aloadN W.here W.hx rfl (W.d deq2_30) rfl rfl k) ?_
    show Go _ _ _ _ _ _ _ _ _ _ (mkF m 31 #[.val (.ref a), .val (.ref a), .val (.ref a)] [(.ref a), (.ref sa_sample)])
    refine W.getF (host := "") (Or.inl (X.w 35 rfl)) Via.refl Fa_sample deq2_31 ?_
    intro T W
    show Go _ _ _ _ _ _ _ _ _ _ (mkF m 34 #[.val (.ref a), .val (.ref a), .val (.ref a)] [(.ref sa_sample), (.ref sa_sample)])
    refine W.virtual (X.w 51 rfl) (X.w 52 rfl) (notFace_of_selects (args := #[]) (mvT W.hZ (X.w 54 rfl))) (X.w 54 rfl) (X.w 53 rfl) (X.w 9 rfl) (X.w 55 rfl) (by decide) (c_seq X sa_sample sa_sample _ _ _ W.ext oSa_sample oSa_sample Sa_sample Sa_sample) (by decide) (Wd := 0) (by decide) sa_sample Sa_sample.exa [(.ref sa_sample)] [] rfl pd_7 rfl rfl rfl (Nat.le_of_eq rfl) deq2_34 (by decide) (by decide) ?_
    intro v T h vm W hQ C
    obtain ⟨hq2, rfl⟩ := hQ
    rcases hq2 with ⟨rfl, hq2⟩ | ⟨rfl, hq2⟩
    · show Go _ _ _ _ _ _ _ _ _ _ (mkF m 37 #[.val (.ref a), .val (.ref a), .val (.ref a)] [(.int (1 : Int32))])
      refine Go.step (fun _ k => XS.ifNo W.here W.hx rfl (W.d deq2_37) rfl ((if0 _ _).trans (feq (by decide : ¬ ((1 : Int32) = (0 : Int32)))).1) k) ?_
      show Go _ _ _ _ _ _ _ _ _ _ (mkF m 40 #[.val (.ref a), .val (.ref a), .val (.ref a)] [])
      refine Go.step (fun _ k => XS.aloadN W.here W.hx rfl (W.d deq2_40) rfl rfl k) ?_
      show Go _ _ _ _ _ _ _ _ _ _ (mkF m 41 #[.val (.ref a), .val (.ref a), .val (.ref a)] [(.ref a)])
      refine W.getF (host := "") (Or.inl (X.w 37 rfl)) Via.refl Fa_label deq2_41 ?_
      intro T W
      show Go _ _ _ _ _ _ _ _ _ _ (mkF m 44 #[.val (.ref a), .val (.ref a), .val (.ref a)] [(.ref sa_label)])
      refine Go.step (fun _ k => XS.aloadN W.here W.hx rfl (W.d deq2_44) rfl rfl k) ?_
      show Go _ _ _ _ _ _ _ _ _ _ (mkF m 45 #[.val (.ref a), .val (.ref a), .val (.ref a)] [(.ref a), (.ref sa_label)])
      refine W.getF (host := "") (Or.inl (X.w 37 rfl)) Via.refl Fa_label deq2_45 ?_
      intro T W
      show Go _ _ _ _ _ _ _ _ _ _ (mkF m 48 #[.val (.ref a), .val (.ref a), .val (.ref a)] [(.ref sa_label), (.ref sa_label)])
      refine W.virtual (X.w 51 rfl) (X.w 52 rfl) (notFace_of_selects (args := #[]) (mvT W.hZ (X.w 54 rfl))) (X.w 54 rfl) (X.w 53 rfl) (X.w 9 rfl) (X.w 55 rfl) (by decide) (c_seq X sa_label sa_label _ _ _ W.ext oSa_label oSa_label Sa_label Sa_label) (by decide) (Wd := 0) (by decide) sa_label Sa_label.exa [(.ref sa_label)] [] rfl pd_7 rfl rfl rfl (Nat.le_of_eq rfl) deq2_48 (by decide) (by decide) ?_
      intro v T h vm W hQ C
      obtain ⟨hq3, rfl⟩ := hQ
      rcases hq3 with ⟨rfl, hq3⟩ | ⟨rfl, hq3⟩
      · show Go _ _ _ _ _ _ _ _ _ _ (mkF m 51 #[.val (.ref a), .val (.ref a), .val (.ref a)] [(.int (1 : Int32))])
        refine Go.step (fun _ k => XS.ifNo W.here W.hx rfl (W.d deq2_51) rfl ((if0 _ _).trans (feq (by decide : ¬ ((1 : Int32) = (0 : Int32)))).1) k) ?_
        show Go _ _ _ _ _ _ _ _ _ _ (mkF m 54 #[.val (.ref a), .val (.ref a), .val (.ref a)] [])
        refine Go.step (fun _ k => XS.aloadN W.here W.hx rfl (W.d deq2_54) rfl rfl k) ?_
        show Go _ _ _ _ _ _ _ _ _ _ (mkF m 55 #[.val (.ref a), .val (.ref a), .val (.ref a)] [(.ref a)])
        refine W.getF (host := "") (Or.inl (X.w 39 rfl)) Via.refl Fa_distance deq2_55 ?_
        intro T W
        show Go _ _ _ _ _ _ _ _ _ _ (mkF m 58 #[.val (.ref a), .val (.ref a), .val (.ref a)] [(.int ia_distance)])
        refine Go.step (fun _ k => XS.aloadN W.here W.hx rfl (W.d deq2_58) rfl rfl k) ?_
        show Go _ _ _ _ _ _ _ _ _ _ (mkF m 59 #[.val (.ref a), .val (.ref a), .val (.ref a)] [(.ref a), (.int ia_distance)])
        refine W.getF (host := "") (Or.inl (X.w 39 rfl)) Via.refl Fa_distance deq2_59 ?_
        intro T W
        show Go _ _ _ _ _ _ _ _ _ _ (mkF m 62 #[.val (.ref a), .val (.ref a), .val (.ref a)] [(.int ia_distance), (.int ia_distance)])
        by_cases hc4 : ia_distance = ia_distance
        · refine Go.step (fun _ k => XS.icmpNo W.here W.hx rfl (W.d deq2_62) rfl (teq hc4).2 k) ?_
          show Go _ _ _ _ _ _ _ _ _ _ (mkF m 65 #[.val (.ref a), .val (.ref a), .val (.ref a)] [])
          refine Go.step (fun _ k => XS.iconst W.here W.hx rfl (W.d deq2_65) k) ?_
          show Go _ _ _ _ _ _ _ _ _ _ (mkF m 66 #[.val (.ref a), .val (.ref a), .val (.ref a)] [(.int (1 : Int32))])
          refine Go.step (fun _ k => XS.goto W.here W.hx rfl (pc0 := 66) (pc' := 70) rfl (W.d deq2_66) (by decide) (by decide) k) ?_
          show Go _ _ _ _ _ _ _ _ _ _ (mkF m 70 #[.val (.ref a), .val (.ref a), .val (.ref a)] [(.int (1 : Int32))])
          exact W.retN (by simp) deq2_70 (⟨rfl, rfl⟩) (by decide) (by decide)
        · refine Go.step (fun _ k => XS.icmpYes W.here W.hx rfl (pc0 := 62) (pc' := 69) rfl (W.d deq2_62) rfl (feq hc4).2 (by decide) (by decide) k) ?_
          show Go _ _ _ _ _ _ _ _ _ _ (mkF m 69 #[.val (.ref a), .val (.ref a), .val (.ref a)] [])
          refine Go.step (fun _ k => XS.iconst W.here W.hx rfl (W.d deq2_69) k) ?_
          show Go _ _ _ _ _ _ _ _ _ _ (mkF m 70 #[.val (.ref a), .val (.ref a), .val (.ref a)] [(.int (0 : Int32))])
          exact absurd rfl hc4
      · show Go _ _ _ _ _ _ _ _ _ _ (mkF m 51 #[.val (.ref a), .val (.ref a), .val (.ref a)] [(.int (0 : Int32))])
        refine Go.step (fun _ k => XS.ifYes W.here W.hx rfl (pc0 := 51) (pc' := 69) rfl (W.d deq2_51) rfl ((if0 _ _).trans (teq (by decide : (0 : Int32) = (0 : Int32))).1) (by decide) (by decide) k) ?_
        show Go _ _ _ _ _ _ _ _ _ _ (mkF m 69 #[.val (.ref a), .val (.ref a), .val (.ref a)] [])
        refine Go.step (fun _ k => XS.iconst W.here W.hx rfl (W.d deq2_69) k) ?_
        show Go _ _ _ _ _ _ _ _ _ _ (mkF m 70 #[.val (.ref a), .val (.ref a), .val (.ref a)] [(.int (0 : Int32))])
        exact absurd rfl hq3
    · show Go _ _ _ _ _ _ _ _ _ _ (mkF m 37 #[.val (.ref a), .val (.ref a), .val (.ref a)] [(.int (0 : Int32))])
      refine Go.step (fun _ k => XS.ifYes W.here W.hx rfl (pc0 := 37) (pc' := 69) rfl (W.d deq2_37) rfl ((if0 _ _).trans (teq (by decide : (0 : Int32) = (0 : Int32))).1) (by decide) (by decide) k) ?_
      show Go _ _ _ _ _ _ _ _ _ _ (mkF m 69 #[.val (.ref a), .val (.ref a), .val (.ref a)] [])
      refine Go.step (fun _ k => XS.iconst W.here W.hx rfl (W.d deq2_69) k) ?_
      show Go _ _ _ _ _ _ _ _ _ _ (mkF m 70 #[.val (.ref a), .val (.ref a), .val (.ref a)] [(.int (0 : Int32))])
      exact absurd rfl hq2
  · show Go _ _ _ _ _ _ _ _ _ _ (mkF m 23 #[.val (.ref a), .val (.ref a), .val (.ref a)] [(.int (0 : Int32))])
    refine Go.step (fun _ k => XS.ifYes W.here W.hx rfl (pc0 := 23) (pc' := 69) rfl (W.d deq2_23) rfl ((if0 _ _).trans (teq (by decide : (0 : Int32) = (0 : Int32))).1) (by decide) (by decide) k) ?_
    show Go _ _ _ _ _ _ _ _ _ _ (mkF m 69 #[.val (.ref a), .val (.ref a), .val (.ref a)] [])
    refine Go.step (fun _ k => XS.iconst W.here W.hx rfl (W.d deq2_69) k) ?_
    show Go _ _ _ _ _ _ _ _ _ _ (mkF m 70 #[.val (.ref a), .val (.ref a), .val (.ref a)] [(.int (0 : Int32))])
    exact absurd rfl hq1
theorem deq4_0 : decode prog_8_method_6_code 0 = .ok (.aload_n 1, 1) := by decide +kernel
theorem deq4_1 : decode prog_8_method_6_code 1 = .ok (.instanceof 8, 3) := by decide +kernel
theorem deq4_4 : decode prog_8_method_6_code 4 = .ok (.ifCond .eq 65, 3) := by decide +kernel
theorem deq4_69 : decode prog_8_method_6_code 69 = .ok (.iconst 0, 1) := by decide +kernel
theorem deq4_70 : decode prog_8_method_6_code 70 = .ok (.ireturn, 1) := by decide +kernel
theorem efeq4 (m : MethodId) (x0 : Addr) : entryFrame m #[(.ref x0), .null] 3 = mkF m 0 #[.val (.ref x0), .val .null, .unset] [] := by first | (simp [entryFrame, mkF, argsToLocals, Value.category]; done) | rfl
set_option maxRecDepth 65536 in
set_option maxHeartbeats 40000000 in
theorem c_eq4 {l : Launch} {Z : State} {a0 : Array Value} {G1 : Int32} (X : Ctx Z a0 G1) (a : Addr) (h0 : Heap) (hE : Ext Z.heap h0)  :
    Con l Z consts_1 (⟨"com/example/moderato/moderato/client/ImageHit", "equals", "(Ljava/lang/Object;)Z"⟩ : MethodName) prog_8_method_6_code 3 (some .boolean) [] ({ frames := 2, cells := 0, slots := 0, locals := 28 } : Room) #[(.ref a), .null] h0 (fun v h => v = some (.int 0) ∧ h0 = h) := by
  refine Con.intro (plainFor_of_name pn_3) hE X.el ?_
  intro p e s m below meth c T W
  have hsz := W.size
  refine Go.cast (efeq4 m a) ?_
  refine Go.step (fun _ k => XS.aloadN W.here W.hx rfl (W.d deq4_0) rfl rfl k) ?_
  show Go _ _ _ _ _ _ _ _ _ _ (mkF m 1 #[.val (.ref a), .val .null, .unset] [.null])
  refine W.instNull deq4_1 ?_
  show Go _ _ _ _ _ _ _ _ _ _ (mkF m 4 #[.val (.ref a), .val .null, .unset] [(.int (0 : Int32))])
  refine Go.step (fun _ k => XS.ifYes W.here W.hx rfl (pc0 := 4) (pc' := 69) rfl (W.d deq4_4) rfl ((if0 _ _).trans (teq (by decide : (0 : Int32) = (0 : Int32))).1) (by decide) (by decide) k) ?_
  show Go _ _ _ _ _ _ _ _ _ _ (mkF m 69 #[.val (.ref a), .val .null, .unset] [])
  refine Go.step (fun _ k => XS.iconst W.here W.hx rfl (W.d deq4_69) k) ?_
  show Go _ _ _ _ _ _ _ _ _ _ (mkF m 70 #[.val (.ref a), .val .null, .unset] [(.int (0 : Int32))])
  exact W.retN (by simp) deq4_70 (⟨rfl, rfl⟩) (by decide) (by decide)

theorem deq5_0 : decode prog_8_method_6_code 0 = .ok (.aload_n 1, 1) := by decide +kernel
theorem deq5_1 : decode prog_8_method_6_code 1 = .ok (.instanceof 8, 3) := by decide +kernel
theorem deq5_4 : decode prog_8_method_6_code 4 = .ok (.ifCond .eq 65, 3) := by decide +kernel
theorem deq5_69 : decode prog_8_method_6_code 69 = .ok (.iconst 0, 1) := by decide +kernel
theorem deq5_70 : decode prog_8_method_6_code 70 = .ok (.ireturn, 1) := by decide +kernel
theorem efeq5 (m : MethodId) (x0 : Addr) (x1 : Addr) : entryFrame m #[(.ref x0), (.ref x1)] 3 = mkF m 0 #[.val (.ref x0), .val (.ref x1), .unset] [] := by first | (simp [entryFrame, mkF, argsToLocals, Value.category]; done) | rfl
set_option maxRecDepth 65536 in
set_option maxHeartbeats 40000000 in
theorem c_eq5 {l : Launch} {Z : State} {a0 : Array Value} {G1 : Int32} (X : Ctx Z a0 G1) (a b : Addr) (h0 : Heap) (hE : Ext Z.heap h0) (A : Exa Z h0 b "java/lang/String") (ne : a ≠ b) :
    Con l Z consts_1 (⟨"com/example/moderato/moderato/client/ImageHit", "equals", "(Ljava/lang/Object;)Z"⟩ : MethodName) prog_8_method_6_code 3 (some .boolean) [] ({ frames := 2, cells := 0, slots := 0, locals := 28 } : Room) #[(.ref a), (.ref b)] h0 (fun v h => v = some (.int 0) ∧ h0 = h) := by
  refine Con.intro (plainFor_of_name pn_3) hE X.el ?_
  intro p e s m below meth c T W
  have hsz := W.size
  refine Go.cast (efeq5 m a b) ?_
  refine Go.step (fun _ k => XS.aloadN W.here W.hx rfl (W.d deq5_0) rfl rfl k) ?_
  show Go _ _ _ _ _ _ _ _ _ _ (mkF m 1 #[.val (.ref a), .val (.ref b), .unset] [(.ref b)])
  refine W.instN (X.w 49 rfl) A (NSno (X.w 74 rfl) (nf_inst (X.w 1 rfl)) (NS.step (X.w 74 rfl) (NSr (X.w 75 rfl) (nf_inst (X.w 1 rfl)) (by decide)) (by decide)) (by decide)) deq5_1 ?_
  intro T W
  show Go _ _ _ _ _ _ _ _ _ _ (mkF m 4 #[.val (.ref a), .val (.ref b), .unset] [(.int (0 : Int32))])
  refine Go.step (fun _ k => XS.ifYes W.here W.hx rfl (pc0 := 4) (pc' := 69) rfl (W.d deq5_4) rfl ((if0 _ _).trans (teq (by decide : (0 : Int32) = (0 : Int32))).1) (by decide) (by decide) k) ?_
  show Go _ _ _ _ _ _ _ _ _ _ (mkF m 69 #[.val (.ref a), .val (.ref b), .unset] [])
  refine Go.step (fun _ k => XS.iconst W.here W.hx rfl (W.d deq5_69) k) ?_
  show Go _ _ _ _ _ _ _ _ _ _ (mkF m 70 #[.val (.ref a), .val (.ref b), .unset] [(.int (0 : Int32))])
  exact W.retN (by simp) deq5_70 (⟨rfl, rfl⟩) (by decide) (by decide)

theorem dih_0 : decode prog_8_method_1_code 0 = .ok (.aload_n 0, 1) := by decide +kernel
theorem dih_1 : decode prog_8_method_1_code 1 = .ok (.invokespecial 1, 3) := by decide +kernel
theorem dih_4 : decode prog_8_method_1_code 4 = .ok (.aload_n 0, 1) := by decide +kernel
theorem dih_5 : decode prog_8_method_1_code 5 = .ok (.aload_n 1, 1) := by decide +kernel
theorem dih_6 : decode prog_8_method_1_code 6 = .ok (.putfield 7, 3) := by decide +kernel
theorem dih_9 : decode prog_8_method_1_code 9 = .ok (.aload_n 0, 1) := by decide +kernel
theorem dih_10 : decode prog_8_method_1_code 10 = .ok (.aload_n 2, 1) := by decide +kernel
theorem dih_11 : decode prog_8_method_1_code 11 = .ok (.putfield 13, 3) := by decide +kernel
theorem dih_14 : decode prog_8_method_1_code 14 = .ok (.aload_n 0, 1) := by decide +kernel
theorem dih_15 : decode prog_8_method_1_code 15 = .ok (.aload_n 3, 1) := by decide +kernel
theorem dih_16 : decode prog_8_method_1_code 16 = .ok (.putfield 16, 3) := by decide +kernel
theorem dih_19 : decode prog_8_method_1_code 19 = .ok (.aload_n 0, 1) := by decide +kernel
theorem dih_20 : decode prog_8_method_1_code 20 = .ok (.iload 4, 2) := by decide +kernel
theorem dih_22 : decode prog_8_method_1_code 22 = .ok (.putfield 19, 3) := by decide +kernel
theorem dih_25 : decode prog_8_method_1_code 25 = .ok (.return_, 1) := by decide +kernel
theorem efih (m : MethodId) (x0 : Addr) (x1 : Addr) (x2 : Addr) (x3 : Addr) (x4 : Int32) : entryFrame m #[(.ref x0), (.ref x1), (.ref x2), (.ref x3), (.int x4)] 5 = mkF m 0 #[.val (.ref x0), .val (.ref x1), .val (.ref x2), .val (.ref x3), .val (.int x4)] [] := by first | (simp [entryFrame, mkF, argsToLocals, Value.category]; done) | rfl
set_option maxRecDepth 65536 in
set_option maxHeartbeats 40000000 in
theorem c_ih {l : Launch} {Z : State} {a0 : Array Value} {G1 : Int32} (X : Ctx Z a0 G1) (a : Addr) (s1 : Addr) (s2 : Addr) (s3 : Addr) (i4 : Int32) (h0 : Heap) (hE : Ext Z.heap h0) (ga : Z.heap.size ≤ a) (A : Exa Z h0 a "com/example/moderato/moderato/client/ImageHit") (F_library : Fld Z h0 a "com/example/moderato/moderato/client/ImageHit" "library" "Ljava/lang/String;" .null) (F_sample : Fld Z h0 a "com/example/moderato/moderato/client/ImageHit" "sample" "Ljava/lang/String;" .null) (F_label : Fld Z h0 a "com/example/moderato/moderato/client/ImageHit" "label" "Ljava/lang/String;" .null) (F_distance : Fld Z h0 a "com/example/moderato/moderato/client/ImageHit" "distance" "I" (.int (0 : Int32))) :
    Con l Z consts_1 (⟨"com/example/moderato/moderato/client/ImageHit", "<init>", "(Ljava/lang/String;Ljava/lang/String;Ljava/lang/String;I)V"⟩ : MethodName) prog_8_method_1_code 5 none [] ({ frames := 1, cells := 0, slots := 0, locals := 12 } : Room) #[(.ref a), (.ref s1), (.ref s2), (.ref s3), (.int i4)] h0 (fun v h => v = none ∧ Keep h0 h [a] ∧ Fld Z h a "com/example/moderato/moderato/client/ImageHit" "library" "Ljava/lang/String;" (.ref s1) ∧ Fld Z h a "com/example/moderato/moderato/client/ImageHit" "sample" "Ljava/lang/String;" (.ref s2) ∧ Fld Z h a "com/example/moderato/moderato/client/ImageHit" "label" "Ljava/lang/String;" (.ref s3) ∧ Fld Z h a "com/example/moderato/moderato/client/ImageHit" "distance" "I" (.int i4)) := by
  refine Con.intro (plainFor_of_name pn_3) hE X.el ?_
  intro p e s m below meth c T W
  have hsz := W.size
  refine Go.cast (efih m a s1 s2 s3 i4) ?_
  have KP := Keep.refl h0 [a]
  refine Go.step (fun _ k => XS.aloadN W.here W.hx rfl (W.d dih_0) rfl rfl k) ?_
  show Go _ _ _ _ _ _ _ _ _ _ (mkF m 1 #[.val (.ref a), .val (.ref s1), .val (.ref s2), .val (.ref s3), .val (.int i4)] [(.ref a)])
  refine W.initO (X.w 32 rfl) (X.w 19 rfl) (X.w 20 rfl) rfl dih_1 (by decide) (Wd := 0) (Nat.le_of_eq rfl) (by decide) ?_
  intro T W
  show Go _ _ _ _ _ _ _ _ _ _ (mkF m 4 #[.val (.ref a), .val (.ref s1), .val (.ref s2), .val (.ref s3), .val (.int i4)] [])
  refine Go.step (fun _ k => XS.aloadN W.here W.hx rfl (W.d dih_4) rfl rfl k) ?_
  show Go _ _ _ _ _ _ _ _ _ _ (mkF m 5 #[.val (.ref a), .val (.ref s1), .val (.ref s2), .val (.ref s3), .val (.int i4)] [(.ref a)])
  refine Go.step (fun _ k => XS.aloadN W.here W.hx rfl (W.d dih_5) rfl rfl k) ?_
  show Go _ _ _ _ _ _ _ _ _ _ (mkF m 6 #[.val (.ref a), .val (.ref s1), .val (.ref s2), .val (.ref s3), .val (.int i4)] [(.ref s1), (.ref a)])
  refine W.putF (host := "") (Or.inl (X.w 33 rfl)) Via.refl F_library A (Or.inr ⟨(X.w 34 rfl), rfl, rfl⟩) (X.w 1 rfl) (ty := (.object "java/lang/String")) (by decide) rfl rfl ga (Safe.exa W.hZ.alike A (by decide) (by decide)) dih_6 ?_
  intro T h W Wr1 F_library'
  replace F_sample := F_sample.other Wr1 (Or.inr (slot_ne (Or.inr (X.w 36 rfl)) (Or.inr (X.w 34 rfl)) (by decide) (t := (.object "java/lang/String")) (t' := (.object "java/lang/String")) (by decide) (by decide)))
  replace F_distance := F_distance.other Wr1 (Or.inr (slot_ne (Or.inr (X.w 40 rfl)) (Or.inr (X.w 34 rfl)) (by decide) (t := .int) (t' := (.object "java/lang/String")) (by decide) (by decide)))
  replace F_label := F_label.other Wr1 (Or.inr (slot_ne (Or.inr (X.w 38 rfl)) (Or.inr (X.w 34 rfl)) (by decide) (t := (.object "java/lang/String")) (t' := (.object "java/lang/String")) (by decide) (by decide)))
  replace KP := KP.otrM (Keep.of_wr Wr1) (by simp)
  replace A := A.keep (Keep.of_wr Wr1)
  replace hsz := W.size
  replace F_library := F_library'
  show Go _ _ _ _ _ _ _ _ _ _ (mkF m 9 #[.val (.ref a), .val (.ref s1), .val (.ref s2), .val (.ref s3), .val (.int i4)] [])
  refine Go.step (fun _ k => XS.aloadN W.here W.hx rfl (W.d dih_9) rfl rfl k) ?_
  show Go _ _ _ _ _ _ _ _ _ _ (mkF m 10 #[.val (.ref a), .val (.ref s1), .val (.ref s2), .val (.ref s3), .val (.int i4)] [(.ref a)])
  refine Go.step (fun _ k => XS.aloadN W.here W.hx rfl (W.d dih_10) rfl rfl k) ?_
  show Go _ _ _ _ _ _ _ _ _ _ (mkF m 11 #[.val (.ref a), .val (.ref s1), .val (.ref s2), .val (.ref s3), .val (.int i4)] [(.ref s2), (.ref a)])
  refine W.putF (host := "") (Or.inl (X.w 35 rfl)) Via.refl F_sample A (Or.inr ⟨(X.w 36 rfl), rfl, rfl⟩) (X.w 1 rfl) (ty := (.object "java/lang/String")) (by decide) rfl rfl ga (Safe.exa W.hZ.alike A (by decide) (by decide)) dih_11 ?_
  intro T h W Wr2 F_sample'
  replace F_library := F_library.other Wr2 (Or.inr (slot_ne (Or.inr (X.w 34 rfl)) (Or.inr (X.w 36 rfl)) (by decide) (t := (.object "java/lang/String")) (t' := (.object "java/lang/String")) (by decide) (by decide)))
  replace F_label := F_label.other Wr2 (Or.inr (slot_ne (Or.inr (X.w 38 rfl)) (Or.inr (X.w 36 rfl)) (by decide) (t := (.object "java/lang/String")) (t' := (.object "java/lang/String")) (by decide) (by decide)))
  replace F_distance := F_distance.other Wr2 (Or.inr (slot_ne (Or.inr (X.w 40 rfl)) (Or.inr (X.w 36 rfl)) (by decide) (t := .int) (t' := (.object "java/lang/String")) (by decide) (by decide)))
  replace KP := KP.otrM (Keep.of_wr Wr2) (by simp)
  replace A := A.keep (Keep.of_wr Wr2)
  replace hsz := W.size
  replace F_sample := F_sample'
  show Go _ _ _ _ _ _ _ _ _ _ (mkF m 14 #[.val (.ref a), .val (.ref s1), .val (.ref s2), .val (.ref s3), .val (.int i4)] [])
  refine Go.step (fun _ k => XS.aloadN W.here W.hx rfl (W.d dih_14) rfl rfl k) ?_
  show Go _ _ _ _ _ _ _ _ _ _ (mkF m 15 #[.val (.ref a), .val (.ref s1), .val (.ref s2), .val (.ref s3), .val (.int i4)] [(.ref a)])
  refine Go.step (fun _ k => XS.aloadN W.here W.hx rfl (W.d dih_15) rfl rfl k) ?_
  show Go _ _ _ _ _ _ _ _ _ _ (mkF m 16 #[.val (.ref a), .val (.ref s1), .val (.ref s2), .val (.ref s3), .val (.int i4)] [(.ref s3), (.ref a)])
  refine W.putF (host := "") (Or.inl (X.w 37 rfl)) Via.refl F_label A (Or.inr ⟨(X.w 38 rfl), rfl, rfl⟩) (X.w 1 rfl) (ty := (.object "java/lang/String")) (by decide) rfl rfl ga (Safe.exa W.hZ.alike A (by decide) (by decide)) dih_16 ?_
  intro T h W Wr3 F_label'
  replace F_library := F_library.other Wr3 (Or.inr (slot_ne (Or.inr (X.w 34 rfl)) (Or.inr (X.w 38 rfl)) (by decide) (t := (.object "java/lang/String")) (t' := (.object "java/lang/String")) (by decide) (by decide)))
  replace F_sample := F_sample.other Wr3 (Or.inr (slot_ne (Or.inr (X.w 36 rfl)) (Or.inr (X.w 38 rfl)) (by decide) (t := (.object "java/lang/String")) (t' := (.object "java/lang/String")) (by decide) (by decide)))
  replace F_distance := F_distance.other Wr3 (Or.inr (slot_ne (Or.inr (X.w 40 rfl)) (Or.inr (X.w 38 rfl)) (by decide) (t := .int) (t' := (.object "java/lang/String")) (by decide) (by decide)))
  replace KP := KP.otrM (Keep.of_wr Wr3) (by simp)
  replace A := A.keep (Keep.of_wr Wr3)
  replace hsz := W.size
  replace F_label := F_label'
  show Go _ _ _ _ _ _ _ _ _ _ (mkF m 19 #[.val (.ref a), .val (.ref s1), .val (.ref s2), .val (.ref s3), .val (.int i4)] [])
  refine Go.step (fun _ k => XS.aloadN W.here W.hx rfl (W.d dih_19) rfl rfl k) ?_
  show Go _ _ _ _ _ _ _ _ _ _ (mkF m 20 #[.val (.ref a), .val (.ref s1), .val (.ref s2), .val (.ref s3), .val (.int i4)] [(.ref a)])
  refine Go.step (fun _ k => XS.iload W.here W.hx rfl (W.d dih_20) rfl k) ?_
  show Go _ _ _ _ _ _ _ _ _ _ (mkF m 22 #[.val (.ref a), .val (.ref s1), .val (.ref s2), .val (.ref s3), .val (.int i4)] [(.int i4), (.ref a)])
  refine W.putF (host := "") (Or.inl (X.w 39 rfl)) Via.refl F_distance A (Or.inr ⟨(X.w 40 rfl), rfl, rfl⟩) (X.w 1 rfl) (ty := .int) (by decide) rfl rfl ga (Safe.exa W.hZ.alike A (by decide) (by decide)) dih_22 ?_
  intro T h W Wr4 F_distance'
  replace F_sample := F_sample.other Wr4 (Or.inr (slot_ne (Or.inr (X.w 36 rfl)) (Or.inr (X.w 40 rfl)) (by decide) (t := (.object "java/lang/String")) (t' := .int) (by decide) (by decide)))
  replace F_library := F_library.other Wr4 (Or.inr (slot_ne (Or.inr (X.w 34 rfl)) (Or.inr (X.w 40 rfl)) (by decide) (t := (.object "java/lang/String")) (t' := .int) (by decide) (by decide)))
  replace F_label := F_label.other Wr4 (Or.inr (slot_ne (Or.inr (X.w 38 rfl)) (Or.inr (X.w 40 rfl)) (by decide) (t := (.object "java/lang/String")) (t' := .int) (by decide) (by decide)))
  replace KP := KP.otrM (Keep.of_wr Wr4) (by simp)
  replace A := A.keep (Keep.of_wr Wr4)
  replace hsz := W.size
  replace F_distance := F_distance'
  show Go _ _ _ _ _ _ _ _ _ _ (mkF m 25 #[.val (.ref a), .val (.ref s1), .val (.ref s2), .val (.ref s3), .val (.int i4)] [])
  exact W.retV dih_25 (⟨rfl, KP, F_library, F_sample, F_label, F_distance⟩) (by decide) (by decide)
theorem ef0 (m : MethodId) (x0 : Int32) (x1 : Int32) (x2 : Int32) (x3 : Int32) (x4 : Int32) (x5 : Int32) : entryFrame m #[(.int x0), (.int x1), (.int x2), (.int x3), (.int x4), (.int x5)] maxLocals = mkF m 0 #[.val (.int x0), .val (.int x1), .val (.int x2), .val (.int x3), .val (.int x4), .val (.int x5), .unset, .unset, .unset, .unset, .unset, .unset, .unset, .unset, .unset, .unset, .unset, .unset, .unset] [] := by first | (simp [entryFrame, mkF, argsToLocals, Value.category, maxLocals]; done) | rfl
set_option maxRecDepth 65536 in
set_option maxHeartbeats 40000000 in
theorem c_law {l : Launch} {Z : State} {a0 : Array Value} {G1 : Int32} (X : Ctx Z a0 G1) (p0 p1 p2 p3 p4 p5 : Int32) (h0 : Heap) (hE : Ext Z.heap h0)  :
    Con l Z consts_1 x code maxLocals ret tables_1 room_1 #[(.int p0), (.int p1), (.int p2), (.int p3), (.int p4), (.int p5)] h0 (fun v _ => v = some (.int 1)) := by
  refine Con.intro (plainFor_of_name pn_2) hE X.el ?_
  intro p e s m below meth c T W
  have hsz := W.size
  refine Go.cast (ef0 m p0 p1 p2 p3 p4 p5) ?_
  refine Go.step (fun _ k => XS.iloadN W.here W.hx rfl (W.d at_0) rfl k) ?_
  show Go _ _ _ _ _ _ _ _ _ _ (mkF m 1 #[.val (.int p0), .val (.int p1), .val (.int p2), .val (.int p3), .val (.int p4), .val (.int p5), .unset, .unset, .unset, .unset, .unset, .unset, .unset, .unset, .unset, .unset, .unset, .unset, .unset] [(.int p0)])
  refine Go.step (fun _ k => XS.sipush W.here W.hx rfl (W.d at_1) k) ?_
  show Go _ _ _ _ _ _ _ _ _ _ (mkF m 4 #[.val (.int p0), .val (.int p1), .val (.int p2), .val (.int p3), .val (.int p4), .val (.int p5), .unset, .unset, .unset, .unset, .unset, .unset, .unset, .unset, .unset, .unset, .unset, .unset, .unset] [(.int (511 : Int32)), (.int p0)])
  refine Go.step (fun _ k => XS.iand W.here W.hx rfl (W.d at_4) rfl k) ?_
  show Go _ _ _ _ _ _ _ _ _ _ (mkF m 5 #[.val (.int p0), .val (.int p1), .val (.int p2), .val (.int p3), .val (.int p4), .val (.int p5), .unset, .unset, .unset, .unset, .unset, .unset, .unset, .unset, .unset, .unset, .unset, .unset, .unset] [(.int (p0 &&& (511 : Int32)))])
  refine Go.step (fun _ k => XS.istore W.here W.hx rfl (W.d at_5) rfl (l' := #[.val (.int p0), .val (.int p1), .val (.int p2), .val (.int p3), .val (.int p4), .val (.int p5), .val (.int (p0 &&& (511 : Int32))), .unset, .unset, .unset, .unset, .unset, .unset, .unset, .unset, .unset, .unset, .unset, .unset]) rfl k) ?_
  show Go _ _ _ _ _ _ _ _ _ _ (mkF m 7 #[.val (.int p0), .val (.int p1), .val (.int p2), .val (.int p3), .val (.int p4), .val (.int p5), .val (.int (p0 &&& (511 : Int32))), .unset, .unset, .unset, .unset, .unset, .unset, .unset, .unset, .unset, .unset, .unset, .unset] [])
  generalize (p0 &&& (511 : Int32)) = l1
  have J27 : ∀ (T : State) (vm : Vm) (l2 : Int32), Wk p l e room_1 s m #[(.int p0), (.int p1), (.int p2), (.int p3), (.int p4), (.int p5)] below meth c Z a0 consts_1 x code maxLocals ret T h0 vm 0 0 → True → Go p e below s Z consts_1 room_1.cells room_1.slots (fun v _ => v = some (.int 1)) T (mkF m 27 #[.val (.int p0), .val (.int p1), .val (.int p2), .val (.int p3), .val (.int p4), .val (.int p5), .val (.int l1), .unset, .unset, .unset, .unset, .unset, .unset, .unset, .unset, .unset, .unset, .unset, .unset] [(.int l2)]) := by
    intro T vm l2 W t_l2
    refine Go.step (fun _ k => XS.istore W.here W.hx rfl (W.d at_27) rfl (l' := #[.val (.int p0), .val (.int p1), .val (.int p2), .val (.int p3), .val (.int p4), .val (.int p5), .val (.int l1), .val (.int l2), .unset, .unset, .unset, .unset, .unset, .unset, .unset, .unset, .unset, .unset, .unset]) rfl k) ?_
    show Go _ _ _ _ _ _ _ _ _ _ (mkF m 29 #[.val (.int p0), .val (.int p1), .val (.int p2), .val (.int p3), .val (.int p4), .val (.int p5), .val (.int l1), .val (.int l2), .unset, .unset, .unset, .unset, .unset, .unset, .unset, .unset, .unset, .unset, .unset] [])
    refine Go.step (fun _ k => XS.iloadN W.here W.hx rfl (W.d at_29) rfl k) ?_
    show Go _ _ _ _ _ _ _ _ _ _ (mkF m 30 #[.val (.int p0), .val (.int p1), .val (.int p2), .val (.int p3), .val (.int p4), .val (.int p5), .val (.int l1), .val (.int l2), .unset, .unset, .unset, .unset, .unset, .unset, .unset, .unset, .unset, .unset, .unset] [(.int p1)])
    refine Go.step (fun _ k => XS.sipush W.here W.hx rfl (W.d at_30) k) ?_
    show Go _ _ _ _ _ _ _ _ _ _ (mkF m 33 #[.val (.int p0), .val (.int p1), .val (.int p2), .val (.int p3), .val (.int p4), .val (.int p5), .val (.int l1), .val (.int l2), .unset, .unset, .unset, .unset, .unset, .unset, .unset, .unset, .unset, .unset, .unset] [(.int (511 : Int32)), (.int p1)])
    refine Go.step (fun _ k => XS.iand W.here W.hx rfl (W.d at_33) rfl k) ?_
    show Go _ _ _ _ _ _ _ _ _ _ (mkF m 34 #[.val (.int p0), .val (.int p1), .val (.int p2), .val (.int p3), .val (.int p4), .val (.int p5), .val (.int l1), .val (.int l2), .unset, .unset, .unset, .unset, .unset, .unset, .unset, .unset, .unset, .unset, .unset] [(.int (p1 &&& (511 : Int32)))])
    refine Go.step (fun _ k => XS.istore W.here W.hx rfl (W.d at_34) rfl (l' := #[.val (.int p0), .val (.int p1), .val (.int p2), .val (.int p3), .val (.int p4), .val (.int p5), .val (.int l1), .val (.int l2), .val (.int (p1 &&& (511 : Int32))), .unset, .unset, .unset, .unset, .unset, .unset, .unset, .unset, .unset, .unset]) rfl k) ?_
    show Go _ _ _ _ _ _ _ _ _ _ (mkF m 36 #[.val (.int p0), .val (.int p1), .val (.int p2), .val (.int p3), .val (.int p4), .val (.int p5), .val (.int l1), .val (.int l2), .val (.int (p1 &&& (511 : Int32))), .unset, .unset, .unset, .unset, .unset, .unset, .unset, .unset, .unset, .unset] [])
    generalize (p1 &&& (511 : Int32)) = m1
    have J56 : ∀ (T : State) (vm : Vm) (m2 : Int32), Wk p l e room_1 s m #[(.int p0), (.int p1), (.int p2), (.int p3), (.int p4), (.int p5)] below meth c Z a0 consts_1 x code maxLocals ret T h0 vm 0 0 → True → Go p e below s Z consts_1 room_1.cells room_1.slots (fun v _ => v = some (.int 1)) T (mkF m 56 #[.val (.int p0), .val (.int p1), .val (.int p2), .val (.int p3), .val (.int p4), .val (.int p5), .val (.int l1), .val (.int l2), .val (.int m1), .unset, .unset, .unset, .unset, .unset, .unset, .unset, .unset, .unset, .unset] [(.int m2)]) := by
      intro T vm m2 W t_m2
      refine Go.step (fun _ k => XS.istore W.here W.hx rfl (W.d at_56) rfl (l' := #[.val (.int p0), .val (.int p1), .val (.int p2), .val (.int p3), .val (.int p4), .val (.int p5), .val (.int l1), .val (.int l2), .val (.int m1), .val (.int m2), .unset, .unset, .unset, .unset, .unset, .unset, .unset, .unset, .unset]) rfl k) ?_
      show Go _ _ _ _ _ _ _ _ _ _ (mkF m 58 #[.val (.int p0), .val (.int p1), .val (.int p2), .val (.int p3), .val (.int p4), .val (.int p5), .val (.int l1), .val (.int l2), .val (.int m1), .val (.int m2), .unset, .unset, .unset, .unset, .unset, .unset, .unset, .unset, .unset] [])
      refine Go.step (fun _ k => XS.iloadN W.here W.hx rfl (W.d at_58) rfl k) ?_
      show Go _ _ _ _ _ _ _ _ _ _ (mkF m 59 #[.val (.int p0), .val (.int p1), .val (.int p2), .val (.int p3), .val (.int p4), .val (.int p5), .val (.int l1), .val (.int l2), .val (.int m1), .val (.int m2), .unset, .unset, .unset, .unset, .unset, .unset, .unset, .unset, .unset] [(.int p2)])
      refine Go.step (fun _ k => XS.sipush W.here W.hx rfl (W.d at_59) k) ?_
      show Go _ _ _ _ _ _ _ _ _ _ (mkF m 62 #[.val (.int p0), .val (.int p1), .val (.int p2), .val (.int p3), .val (.int p4), .val (.int p5), .val (.int l1), .val (.int l2), .val (.int m1), .val (.int m2), .unset, .unset, .unset, .unset, .unset, .unset, .unset, .unset, .unset] [(.int (511 : Int32)), (.int p2)])
      refine Go.step (fun _ k => XS.iand W.here W.hx rfl (W.d at_62) rfl k) ?_
      show Go _ _ _ _ _ _ _ _ _ _ (mkF m 63 #[.val (.int p0), .val (.int p1), .val (.int p2), .val (.int p3), .val (.int p4), .val (.int p5), .val (.int l1), .val (.int l2), .val (.int m1), .val (.int m2), .unset, .unset, .unset, .unset, .unset, .unset, .unset, .unset, .unset] [(.int (p2 &&& (511 : Int32)))])
      refine Go.step (fun _ k => XS.istore W.here W.hx rfl (W.d at_63) rfl (l' := #[.val (.int p0), .val (.int p1), .val (.int p2), .val (.int p3), .val (.int p4), .val (.int p5), .val (.int l1), .val (.int l2), .val (.int m1), .val (.int m2), .val (.int (p2 &&& (511 : Int32))), .unset, .unset, .unset, .unset, .unset, .unset, .unset, .unset]) rfl k) ?_
      show Go _ _ _ _ _ _ _ _ _ _ (mkF m 65 #[.val (.int p0), .val (.int p1), .val (.int p2), .val (.int p3), .val (.int p4), .val (.int p5), .val (.int l1), .val (.int l2), .val (.int m1), .val (.int m2), .val (.int (p2 &&& (511 : Int32))), .unset, .unset, .unset, .unset, .unset, .unset, .unset, .unset] [])
      generalize (p2 &&& (511 : Int32)) = n1
      have J85 : ∀ (T : State) (vm : Vm) (n2 : Int32), Wk p l e room_1 s m #[(.int p0), (.int p1), (.int p2), (.int p3), (.int p4), (.int p5)] below meth c Z a0 consts_1 x code maxLocals ret T h0 vm 0 0 → True → Go p e below s Z consts_1 room_1.cells room_1.slots (fun v _ => v = some (.int 1)) T (mkF m 85 #[.val (.int p0), .val (.int p1), .val (.int p2), .val (.int p3), .val (.int p4), .val (.int p5), .val (.int l1), .val (.int l2), .val (.int m1), .val (.int m2), .val (.int n1), .unset, .unset, .unset, .unset, .unset, .unset, .unset, .unset] [(.int n2)]) := by
        intro T vm n2 W t_n2
        refine Go.step (fun _ k => XS.istore W.here W.hx rfl (W.d at_85) rfl (l' := #[.val (.int p0), .val (.int p1), .val (.int p2), .val (.int p3), .val (.int p4), .val (.int p5), .val (.int l1), .val (.int l2), .val (.int m1), .val (.int m2), .val (.int n1), .val (.int n2), .unset, .unset, .unset, .unset, .unset, .unset, .unset]) rfl k) ?_
        show Go _ _ _ _ _ _ _ _ _ _ (mkF m 87 #[.val (.int p0), .val (.int p1), .val (.int p2), .val (.int p3), .val (.int p4), .val (.int p5), .val (.int l1), .val (.int l2), .val (.int m1), .val (.int m2), .val (.int n1), .val (.int n2), .unset, .unset, .unset, .unset, .unset, .unset, .unset] [])
        have J101 : ∀ (T : State) (vm : Vm) (e2 : Int32), Wk p l e room_1 s m #[(.int p0), (.int p1), (.int p2), (.int p3), (.int p4), (.int p5)] below meth c Z a0 consts_1 x code maxLocals ret T h0 vm 0 0 → True → Go p e below s Z consts_1 room_1.cells room_1.slots (fun v _ => v = some (.int 1)) T (mkF m 101 #[.val (.int p0), .val (.int p1), .val (.int p2), .val (.int p3), .val (.int p4), .val (.int p5), .val (.int l1), .val (.int l2), .val (.int m1), .val (.int m2), .val (.int n1), .val (.int n2), .unset, .unset, .unset, .unset, .unset, .unset, .unset] [(.int e2)]) := by
          intro T vm e2 W t_e2
          refine Go.step (fun _ k => XS.istore W.here W.hx rfl (W.d at_101) rfl (l' := #[.val (.int p0), .val (.int p1), .val (.int p2), .val (.int p3), .val (.int p4), .val (.int p5), .val (.int l1), .val (.int l2), .val (.int m1), .val (.int m2), .val (.int n1), .val (.int n2), .val (.int e2), .unset, .unset, .unset, .unset, .unset, .unset]) rfl k) ?_
          show Go _ _ _ _ _ _ _ _ _ _ (mkF m 103 #[.val (.int p0), .val (.int p1), .val (.int p2), .val (.int p3), .val (.int p4), .val (.int p5), .val (.int l1), .val (.int l2), .val (.int m1), .val (.int m2), .val (.int n1), .val (.int n2), .val (.int e2), .unset, .unset, .unset, .unset, .unset, .unset] [])
          refine W.new (X.w 0 rfl) (X.w 1 rfl) (X.w 2 rfl) at_103 (by decide) (by decide) ?_
          intro T h b1 hb1 W Eb1 Ab1 Db1
          have gb1 : Z.heap.size ≤ b1 := by rw [hb1]; exact hsz
          replace hsz := W.size
          have F_library_b1 : Fld Z h b1 "com/example/moderato/moderato/client/ImageHit" "library" "Ljava/lang/String;" .null := Db1 (Or.inr (X.w 34 rfl)) (ty := (.object "java/lang/String")) (by decide)
          have F_sample_b1 : Fld Z h b1 "com/example/moderato/moderato/client/ImageHit" "sample" "Ljava/lang/String;" .null := Db1 (Or.inr (X.w 36 rfl)) (ty := (.object "java/lang/String")) (by decide)
          have F_label_b1 : Fld Z h b1 "com/example/moderato/moderato/client/ImageHit" "label" "Ljava/lang/String;" .null := Db1 (Or.inr (X.w 38 rfl)) (ty := (.object "java/lang/String")) (by decide)
          have F_distance_b1 : Fld Z h b1 "com/example/moderato/moderato/client/ImageHit" "distance" "I" (.int (0 : Int32)) := Db1 (Or.inr (X.w 40 rfl)) (ty := .int) (by decide)
          show Go _ _ _ _ _ _ _ _ _ _ (mkF m 106 #[.val (.int p0), .val (.int p1), .val (.int p2), .val (.int p3), .val (.int p4), .val (.int p5), .val (.int l1), .val (.int l2), .val (.int m1), .val (.int m2), .val (.int n1), .val (.int n2), .val (.int e2), .unset, .unset, .unset, .unset, .unset, .unset] [(.ref b1)])
          refine Go.step (fun _ k => XS.dup W.here W.hx rfl (W.d at_106) rfl rfl k) ?_
          show Go _ _ _ _ _ _ _ _ _ _ (mkF m 107 #[.val (.int p0), .val (.int p1), .val (.int p2), .val (.int p3), .val (.int p4), .val (.int p5), .val (.int l1), .val (.int l2), .val (.int m1), .val (.int m2), .val (.int n1), .val (.int n2), .val (.int e2), .unset, .unset, .unset, .unset, .unset, .unset] [(.ref b1), (.ref b1)])
          refine Go.step (fun _ k => XS.iload W.here W.hx rfl (W.d at_107) rfl k) ?_
          show Go _ _ _ _ _ _ _ _ _ _ (mkF m 109 #[.val (.int p0), .val (.int p1), .val (.int p2), .val (.int p3), .val (.int p4), .val (.int p5), .val (.int l1), .val (.int l2), .val (.int m1), .val (.int m2), .val (.int n1), .val (.int n2), .val (.int e2), .unset, .unset, .unset, .unset, .unset, .unset] [(.int l1), (.ref b1), (.ref b1)])
          refine W.callS (X.w 3 rfl) (X.w 4 rfl) (X.w 5 rfl) (X.w 6 rfl) (by decide) (c_str X l1 _ W.ext) (by decide) (Wd := 2) (by decide) [(.int l1)] [(.ref b1), (.ref b1)] rfl pd_8 rfl rfl rfl (Nat.le_of_eq rfl) at_109 (by decide) (by decide) ?_
          intro v T h vm W hQ C
          obtain ⟨b2, rfl, gb2, Kb2, Sb2⟩ := hQ
          replace F_library_b1 := F_library_b1.keep Kb2 nin0
          replace F_sample_b1 := F_sample_b1.keep Kb2 nin0
          replace F_label_b1 := F_label_b1.keep Kb2 nin0
          replace F_distance_b1 := F_distance_b1.keep Kb2 nin0
          replace Ab1 := Ab1.keep Kb2
          replace hsz := W.size
          show Go _ _ _ _ _ _ _ _ _ _ (mkF m 112 #[.val (.int p0), .val (.int p1), .val (.int p2), .val (.int p3), .val (.int p4), .val (.int p5), .val (.int l1), .val (.int l2), .val (.int m1), .val (.int m2), .val (.int n1), .val (.int n2), .val (.int e2), .unset, .unset, .unset, .unset, .unset, .unset] [(.ref b2), (.ref b1), (.ref b1)])
          refine Go.step (fun _ k => XS.iload W.here W.hx rfl (W.d at_112) rfl k) ?_
          show Go _ _ _ _ _ _ _ _ _ _ (mkF m 114 #[.val (.int p0), .val (.int p1), .val (.int p2), .val (.int p3), .val (.int p4), .val (.int p5), .val (.int l1), .val (.int l2), .val (.int m1), .val (.int m2), .val (.int n1), .val (.int n2), .val (.int e2), .unset, .unset, .unset, .unset, .unset, .unset] [(.int m1), (.ref b2), (.ref b1), (.ref b1)])
          refine W.callS (X.w 3 rfl) (X.w 4 rfl) (X.w 5 rfl) (X.w 6 rfl) (by decide) (c_str X m1 _ W.ext) (by decide) (Wd := 3) (by decide) [(.int m1)] [(.ref b2), (.ref b1), (.ref b1)] rfl pd_8 rfl rfl rfl (Nat.le_of_eq rfl) at_114 (by decide) (by decide) ?_
          intro v T h vm W hQ C
          obtain ⟨b3, rfl, gb3, Kb3, Sb3⟩ := hQ
          replace F_library_b1 := F_library_b1.keep Kb3 nin0
          replace F_sample_b1 := F_sample_b1.keep Kb3 nin0
          replace F_label_b1 := F_label_b1.keep Kb3 nin0
          replace F_distance_b1 := F_distance_b1.keep Kb3 nin0
          replace Sb2 := Sb2.keep0 Kb3
          replace Ab1 := Ab1.keep Kb3
          replace hsz := W.size
          show Go _ _ _ _ _ _ _ _ _ _ (mkF m 117 #[.val (.int p0), .val (.int p1), .val (.int p2), .val (.int p3), .val (.int p4), .val (.int p5), .val (.int l1), .val (.int l2), .val (.int m1), .val (.int m2), .val (.int n1), .val (.int n2), .val (.int e2), .unset, .unset, .unset, .unset, .unset, .unset] [(.ref b3), (.ref b2), (.ref b1), (.ref b1)])
          refine Go.step (fun _ k => XS.iload W.here W.hx rfl (W.d at_117) rfl k) ?_
          show Go _ _ _ _ _ _ _ _ _ _ (mkF m 119 #[.val (.int p0), .val (.int p1), .val (.int p2), .val (.int p3), .val (.int p4), .val (.int p5), .val (.int l1), .val (.int l2), .val (.int m1), .val (.int m2), .val (.int n1), .val (.int n2), .val (.int e2), .unset, .unset, .unset, .unset, .unset, .unset] [(.int n1), (.ref b3), (.ref b2), (.ref b1), (.ref b1)])
          refine W.callS (X.w 3 rfl) (X.w 4 rfl) (X.w 5 rfl) (X.w 6 rfl) (by decide) (c_str X n1 _ W.ext) (by decide) (Wd := 4) (by decide) [(.int n1)] [(.ref b3), (.ref b2), (.ref b1), (.ref b1)] rfl pd_8 rfl rfl rfl (Nat.le_of_eq rfl) at_119 (by decide) (by decide) ?_
          intro v T h vm W hQ C
          obtain ⟨b4, rfl, gb4, Kb4, Sb4⟩ := hQ
          replace F_library_b1 := F_library_b1.keep Kb4 nin0
          replace F_sample_b1 := F_sample_b1.keep Kb4 nin0
          replace F_label_b1 := F_label_b1.keep Kb4 nin0
          replace F_distance_b1 := F_distance_b1.keep Kb4 nin0
          replace Sb2 := Sb2.keep0 Kb4
          replace Sb3 := Sb3.keep0 Kb4
          replace Ab1 := Ab1.keep Kb4
          replace hsz := W.size
          show Go _ _ _ _ _ _ _ _ _ _ (mkF m 122 #[.val (.int p0), .val (.int p1), .val (.int p2), .val (.int p3), .val (.int p4), .val (.int p5), .val (.int l1), .val (.int l2), .val (.int m1), .val (.int m2), .val (.int n1), .val (.int n2), .val (.int e2), .unset, .unset, .unset, .unset, .unset, .unset] [(.ref b4), (.ref b3), (.ref b2), (.ref b1), (.ref b1)])
          refine Go.step (fun _ k => XS.iloadN W.here W.hx rfl (W.d at_122) rfl k) ?_
          show Go _ _ _ _ _ _ _ _ _ _ (mkF m 123 #[.val (.int p0), .val (.int p1), .val (.int p2), .val (.int p3), .val (.int p4), .val (.int p5), .val (.int l1), .val (.int l2), .val (.int m1), .val (.int m2), .val (.int n1), .val (.int n2), .val (.int e2), .unset, .unset, .unset, .unset, .unset, .unset] [(.int p3), (.ref b4), (.ref b3), (.ref b2), (.ref b1), (.ref b1)])
          refine W.special rfl (X.w 29 rfl) (X.w 30 rfl) (X.w 2 rfl) (X.w 31 rfl) (by decide) (c_ih X b1 b2 b3 b4 p3 _ W.ext gb1 Ab1 F_library_b1 F_sample_b1 F_label_b1 F_distance_b1) (by decide) (Wd := 1) (by decide) b1 [(.ref b2), (.ref b3), (.ref b4), (.int p3)] [(.ref b1)] rfl pd_9 rfl rfl rfl (Nat.le_of_eq rfl) at_123 (by decide) (by decide) ?_
          intro v T h vm W hQ C
          obtain ⟨rfl, Kb1, F_library_b1', F_sample_b1', F_label_b1', F_distance_b1'⟩ := hQ
          replace Sb2 := Sb2.keepE Kb1 Ab1 (by decide) (X.w 1 rfl)
          replace Sb3 := Sb3.keepE Kb1 Ab1 (by decide) (X.w 1 rfl)
          replace Sb4 := Sb4.keepE Kb1 Ab1 (by decide) (X.w 1 rfl)
          replace Ab1 := Ab1.keep Kb1
          replace hsz := W.size
          replace F_library_b1 := F_library_b1'
          replace F_sample_b1 := F_sample_b1'
          replace F_label_b1 := F_label_b1'
          replace F_distance_b1 := F_distance_b1'
          show Go _ _ _ _ _ _ _ _ _ _ (mkF m 126 #[.val (.int p0), .val (.int p1), .val (.int p2), .val (.int p3), .val (.int p4), .val (.int p5), .val (.int l1), .val (.int l2), .val (.int m1), .val (.int m2), .val (.int n1), .val (.int n2), .val (.int e2), .unset, .unset, .unset, .unset, .unset, .unset] [(.ref b1)])
          refine Go.step (fun _ k => XS.astore W.here W.hx rfl (W.d at_126) rfl rfl (l' := #[.val (.int p0), .val (.int p1), .val (.int p2), .val (.int p3), .val (.int p4), .val (.int p5), .val (.int l1), .val (.int l2), .val (.int m1), .val (.int m2), .val (.int n1), .val (.int n2), .val (.int e2), .val (.ref b1), .unset, .unset, .unset, .unset, .unset]) rfl k) ?_
          show Go _ _ _ _ _ _ _ _ _ _ (mkF m 128 #[.val (.int p0), .val (.int p1), .val (.int p2), .val (.int p3), .val (.int p4), .val (.int p5), .val (.int l1), .val (.int l2), .val (.int m1), .val (.int m2), .val (.int n1), .val (.int n2), .val (.int e2), .val (.ref b1), .unset, .unset, .unset, .unset, .unset] [])
          refine Go.step (fun _ k => XS.iload W.here W.hx rfl (W.d at_128) rfl k) ?_
          show Go _ _ _ _ _ _ _ _ _ _ (mkF m 130 #[.val (.int p0), .val (.int p1), .val (.int p2), .val (.int p3), .val (.int p4), .val (.int p5), .val (.int l1), .val (.int l2), .val (.int m1), .val (.int m2), .val (.int n1), .val (.int n2), .val (.int e2), .val (.ref b1), .unset, .unset, .unset, .unset, .unset] [(.int p5)])
          refine Go.step (fun _ k => XS.iconst W.here W.hx rfl (W.d at_130) k) ?_
          show Go _ _ _ _ _ _ _ _ _ _ (mkF m 131 #[.val (.int p0), .val (.int p1), .val (.int p2), .val (.int p3), .val (.int p4), .val (.int p5), .val (.int l1), .val (.int l2), .val (.int m1), .val (.int m2), .val (.int n1), .val (.int n2), .val (.int e2), .val (.ref b1), .unset, .unset, .unset, .unset, .unset] [(.int (4 : Int32)), (.int p5)])
          refine Go.step (fun _ k => XS.iushr W.here W.hx rfl (W.d at_131) rfl k) ?_
          show Go _ _ _ _ _ _ _ _ _ _ (mkF m 132 #[.val (.int p0), .val (.int p1), .val (.int p2), .val (.int p3), .val (.int p4), .val (.int p5), .val (.int l1), .val (.int l2), .val (.int m1), .val (.int m2), .val (.int n1), .val (.int n2), .val (.int e2), .val (.ref b1), .unset, .unset, .unset, .unset, .unset] [(.int ((p5.toUInt32 >>> ((4 : Int32) &&& 31).toUInt32).toInt32))])
          refine Go.step (fun _ k => XS.iconst W.here W.hx rfl (W.d at_132) k) ?_
          show Go _ _ _ _ _ _ _ _ _ _ (mkF m 133 #[.val (.int p0), .val (.int p1), .val (.int p2), .val (.int p3), .val (.int p4), .val (.int p5), .val (.int l1), .val (.int l2), .val (.int m1), .val (.int m2), .val (.int n1), .val (.int n2), .val (.int e2), .val (.ref b1), .unset, .unset, .unset, .unset, .unset] [(.int (3 : Int32)), (.int ((p5.toUInt32 >>> ((4 : Int32) &&& 31).toUInt32).toInt32))])
          refine Go.step (fun _ k => XS.iand W.here W.hx rfl (W.d at_133) rfl k) ?_
          show Go _ _ _ _ _ _ _ _ _ _ (mkF m 134 #[.val (.int p0), .val (.int p1), .val (.int p2), .val (.int p3), .val (.int p4), .val (.int p5), .val (.int l1), .val (.int l2), .val (.int m1), .val (.int m2), .val (.int n1), .val (.int n2), .val (.int e2), .val (.ref b1), .unset, .unset, .unset, .unset, .unset] [(.int (((p5.toUInt32 >>> ((4 : Int32) &&& 31).toUInt32).toInt32) &&& (3 : Int32)))])
          refine Go.step (fun _ k => XS.istore W.here W.hx rfl (W.d at_134) rfl (l' := #[.val (.int p0), .val (.int p1), .val (.int p2), .val (.int p3), .val (.int p4), .val (.int p5), .val (.int l1), .val (.int l2), .val (.int m1), .val (.int m2), .val (.int n1), .val (.int n2), .val (.int e2), .val (.ref b1), .val (.int (((p5.toUInt32 >>> ((4 : Int32) &&& 31).toUInt32).toInt32) &&& (3 : Int32))), .unset, .unset, .unset, .unset]) rfl k) ?_
          show Go _ _ _ _ _ _ _ _ _ _ (mkF m 136 #[.val (.int p0), .val (.int p1), .val (.int p2), .val (.int p3), .val (.int p4), .val (.int p5), .val (.int l1), .val (.int l2), .val (.int m1), .val (.int m2), .val (.int n1), .val (.int n2), .val (.int e2), .val (.ref b1), .val (.int (((p5.toUInt32 >>> ((4 : Int32) &&& 31).toUInt32).toInt32) &&& (3 : Int32))), .unset, .unset, .unset, .unset] [])
          refine Go.step (fun _ k => XS.iload W.here W.hx rfl (W.d at_136) rfl k) ?_
          show Go _ _ _ _ _ _ _ _ _ _ (mkF m 138 #[.val (.int p0), .val (.int p1), .val (.int p2), .val (.int p3), .val (.int p4), .val (.int p5), .val (.int l1), .val (.int l2), .val (.int m1), .val (.int m2), .val (.int n1), .val (.int n2), .val (.int e2), .val (.ref b1), .val (.int (((p5.toUInt32 >>> ((4 : Int32) &&& 31).toUInt32).toInt32) &&& (3 : Int32))), .unset, .unset, .unset, .unset] [(.int (((p5.toUInt32 >>> ((4 : Int32) &&& 31).toUInt32).toInt32) &&& (3 : Int32)))])
          by_cases hc5 : (((p5.toUInt32 >>> ((4 : Int32) &&& 31).toUInt32).toInt32) &&& (3 : Int32)) = (0 : Int32)
          · refine Go.step (fun _ k => XS.ifNo W.here W.hx rfl (W.d at_138) rfl ((if0 _ _).trans (teq hc5).2) k) ?_
            show Go _ _ _ _ _ _ _ _ _ _ (mkF m 141 #[.val (.int p0), .val (.int p1), .val (.int p2), .val (.int p3), .val (.int p4), .val (.int p5), .val (.int l1), .val (.int l2), .val (.int m1), .val (.int m2), .val (.int n1), .val (.int n2), .val (.int e2), .val (.ref b1), .val (.int (((p5.toUInt32 >>> ((4 : Int32) &&& 31).toUInt32).toInt32) &&& (3 : Int32))), .unset, .unset, .unset, .unset] [])
            refine Go.step (fun _ k => XS.aload W.here W.hx rfl (W.d at_141) rfl rfl k) ?_
            show Go _ _ _ _ _ _ _ _ _ _ (mkF m 143 #[.val (.int p0), .val (.int p1), .val (.int p2), .val (.int p3), .val (.int p4), .val (.int p5), .val (.int l1), .val (.int l2), .val (.int m1), .val (.int m2), .val (.int n1), .val (.int n2), .val (.int e2), .val (.ref b1), .val (.int (((p5.toUInt32 >>> ((4 : Int32) &&& 31).toUInt32).toInt32) &&& (3 : Int32))), .unset, .unset, .unset, .unset] [(.ref b1)])
            refine Go.step (fun _ k => XS.aconstNull W.here W.hx rfl (W.d at_143) k) ?_
            show Go _ _ _ _ _ _ _ _ _ _ (mkF m 144 #[.val (.int p0), .val (.int p1), .val (.int p2), .val (.int p3), .val (.int p4), .val (.int p5), .val (.int l1), .val (.int l2), .val (.int m1), .val (.int m2), .val (.int n1), .val (.int n2), .val (.int e2), .val (.ref b1), .val (.int (((p5.toUInt32 >>> ((4 : Int32) &&& 31).toUInt32).toInt32) &&& (3 : Int32))), .unset, .unset, .unset, .unset] [.null, (.ref b1)])
            refine W.virtual (X.w 41 rfl) (X.w 42 rfl) (notFace_of_selects (args := #[]) (mvT W.hZ (X.w 44 rfl))) (X.w 44 rfl) (X.w 43 rfl) (X.w 2 rfl) (X.w 45 rfl) (by decide) (c_eq4 X b1 _ W.ext) (by decide) (Wd := 0) (by decide) b1 Ab1 [.null] [] rfl pd_7 rfl rfl rfl (Nat.le_of_eq rfl) at_144 (by decide) (by decide) ?_
            intro v T h vm W hQ C
            obtain ⟨rfl, rfl⟩ := hQ
            show Go _ _ _ _ _ _ _ _ _ _ (mkF m 147 #[.val (.int p0), .val (.int p1), .val (.int p2), .val (.int p3), .val (.int p4), .val (.int p5), .val (.int l1), .val (.int l2), .val (.int m1), .val (.int m2), .val (.int n1), .val (.int n2), .val (.int e2), .val (.ref b1), .val (.int (((p5.toUInt32 >>> ((4 : Int32) &&& 31).toUInt32).toInt32) &&& (3 : Int32))), .unset, .unset, .unset, .unset] [(.int (0 : Int32))])
            refine Go.step (fun _ k => XS.ifNo W.here W.hx rfl (W.d at_147) rfl ((if0 _ _).trans (teq (by decide : (0 : Int32) = (0 : Int32))).2) k) ?_
            show Go _ _ _ _ _ _ _ _ _ _ (mkF m 150 #[.val (.int p0), .val (.int p1), .val (.int p2), .val (.int p3), .val (.int p4), .val (.int p5), .val (.int l1), .val (.int l2), .val (.int m1), .val (.int m2), .val (.int n1), .val (.int n2), .val (.int e2), .val (.ref b1), .val (.int (((p5.toUInt32 >>> ((4 : Int32) &&& 31).toUInt32).toInt32) &&& (3 : Int32))), .unset, .unset, .unset, .unset] [])
            refine Go.step (fun _ k => XS.iconst W.here W.hx rfl (W.d at_150) k) ?_
            show Go _ _ _ _ _ _ _ _ _ _ (mkF m 151 #[.val (.int p0), .val (.int p1), .val (.int p2), .val (.int p3), .val (.int p4), .val (.int p5), .val (.int l1), .val (.int l2), .val (.int m1), .val (.int m2), .val (.int n1), .val (.int n2), .val (.int e2), .val (.ref b1), .val (.int (((p5.toUInt32 >>> ((4 : Int32) &&& 31).toUInt32).toInt32) &&& (3 : Int32))), .unset, .unset, .unset, .unset] [(.int (1 : Int32))])
            refine Go.step (fun _ k => XS.goto W.here W.hx rfl (pc0 := 151) (pc' := 155) rfl (W.d at_151) (by decide) (by decide) k) ?_
            show Go _ _ _ _ _ _ _ _ _ _ (mkF m 155 #[.val (.int p0), .val (.int p1), .val (.int p2), .val (.int p3), .val (.int p4), .val (.int p5), .val (.int l1), .val (.int l2), .val (.int m1), .val (.int m2), .val (.int n1), .val (.int n2), .val (.int e2), .val (.ref b1), .val (.int (((p5.toUInt32 >>> ((4 : Int32) &&& 31).toUInt32).toInt32) &&& (3 : Int32))), .unset, .unset, .unset, .unset] [(.int (1 : Int32))])
            exact W.retN (by simp) at_155 (rfl) (by decide) (by decide)
          · refine Go.step (fun _ k => XS.ifYes W.here W.hx rfl (pc0 := 138) (pc' := 156) rfl (W.d at_138) rfl ((if0 _ _).trans (feq hc5).2) (by decide) (by decide) k) ?_
            show Go _ _ _ _ _ _ _ _ _ _ (mkF m 156 #[.val (.int p0), .val (.int p1), .val (.int p2), .val (.int p3), .val (.int p4), .val (.int p5), .val (.int l1), .val (.int l2), .val (.int m1), .val (.int m2), .val (.int n1), .val (.int n2), .val (.int e2), .val (.ref b1), .val (.int (((p5.toUInt32 >>> ((4 : Int32) &&& 31).toUInt32).toInt32) &&& (3 : Int32))), .unset, .unset, .unset, .unset] [])
            refine Go.step (fun _ k => XS.iload W.here W.hx rfl (W.d at_156) rfl k) ?_
            show Go _ _ _ _ _ _ _ _ _ _ (mkF m 158 #[.val (.int p0), .val (.int p1), .val (.int p2), .val (.int p3), .val (.int p4), .val (.int p5), .val (.int l1), .val (.int l2), .val (.int m1), .val (.int m2), .val (.int n1), .val (.int n2), .val (.int e2), .val (.ref b1), .val (.int (((p5.toUInt32 >>> ((4 : Int32) &&& 31).toUInt32).toInt32) &&& (3 : Int32))), .unset, .unset, .unset, .unset] [(.int (((p5.toUInt32 >>> ((4 : Int32) &&& 31).toUInt32).toInt32) &&& (3 : Int32)))])
            refine Go.step (fun _ k => XS.iconst W.here W.hx rfl (W.d at_158) k) ?_
            show Go _ _ _ _ _ _ _ _ _ _ (mkF m 159 #[.val (.int p0), .val (.int p1), .val (.int p2), .val (.int p3), .val (.int p4), .val (.int p5), .val (.int l1), .val (.int l2), .val (.int m1), .val (.int m2), .val (.int n1), .val (.int n2), .val (.int e2), .val (.ref b1), .val (.int (((p5.toUInt32 >>> ((4 : Int32) &&& 31).toUInt32).toInt32) &&& (3 : Int32))), .unset, .unset, .unset, .unset] [(.int (1 : Int32)), (.int (((p5.toUInt32 >>> ((4 : Int32) &&& 31).toUInt32).toInt32) &&& (3 : Int32)))])
            by_cases hc7 : (((p5.toUInt32 >>> ((4 : Int32) &&& 31).toUInt32).toInt32) &&& (3 : Int32)) = (1 : Int32)
            · refine Go.step (fun _ k => XS.icmpNo W.here W.hx rfl (W.d at_159) rfl (teq hc7).2 k) ?_
              show Go _ _ _ _ _ _ _ _ _ _ (mkF m 162 #[.val (.int p0), .val (.int p1), .val (.int p2), .val (.int p3), .val (.int p4), .val (.int p5), .val (.int l1), .val (.int l2), .val (.int m1), .val (.int m2), .val (.int n1), .val (.int n2), .val (.int e2), .val (.ref b1), .val (.int (((p5.toUInt32 >>> ((4 : Int32) &&& 31).toUInt32).toInt32) &&& (3 : Int32))), .unset, .unset, .unset, .unset] [])
              refine Go.step (fun _ k => XS.iload W.here W.hx rfl (W.d at_162) rfl k) ?_
              show Go _ _ _ _ _ _ _ _ _ _ (mkF m 164 #[.val (.int p0), .val (.int p1), .val (.int p2), .val (.int p3), .val (.int p4), .val (.int p5), .val (.int l1), .val (.int l2), .val (.int m1), .val (.int m2), .val (.int n1), .val (.int n2), .val (.int e2), .val (.ref b1), .val (.int (((p5.toUInt32 >>> ((4 : Int32) &&& 31).toUInt32).toInt32) &&& (3 : Int32))), .unset, .unset, .unset, .unset] [(.int l1)])
              refine W.callS (X.w 3 rfl) (X.w 4 rfl) (X.w 5 rfl) (X.w 6 rfl) (by decide) (c_str X l1 _ W.ext) (by decide) (Wd := 0) (by decide) [(.int l1)] [] rfl pd_8 rfl rfl rfl (Nat.le_of_eq rfl) at_164 (by decide) (by decide) ?_
              intro v T h vm W hQ C
              obtain ⟨b8, rfl, gb8, Kb8, Sb8⟩ := hQ
              replace F_library_b1 := F_library_b1.keep Kb8 nin0
              replace F_sample_b1 := F_sample_b1.keep Kb8 nin0
              replace F_label_b1 := F_label_b1.keep Kb8 nin0
              replace F_distance_b1 := F_distance_b1.keep Kb8 nin0
              replace Sb2 := Sb2.keep0 Kb8
              replace Sb3 := Sb3.keep0 Kb8
              replace Sb4 := Sb4.keep0 Kb8
              replace Ab1 := Ab1.keep Kb8
              replace hsz := W.size
              show Go _ _ _ _ _ _ _ _ _ _ (mkF m 167 #[.val (.int p0), .val (.int p1), .val (.int p2), .val (.int p3), .val (.int p4), .val (.int p5), .val (.int l1), .val (.int l2), .val (.int m1), .val (.int m2), .val (.int n1), .val (.int n2), .val (.int e2), .val (.ref b1), .val (.int (((p5.toUInt32 >>> ((4 : Int32) &&& 31).toUInt32).toInt32) &&& (3 : Int32))), .unset, .unset, .unset, .unset] [(.ref b8)])
              refine Go.step (fun _ k => XS.astore W.here W.hx rfl (W.d at_167) rfl rfl (l' := #[.val (.int p0), .val (.int p1), .val (.int p2), .val (.int p3), .val (.int p4), .val (.int p5), .val (.int l1), .val (.int l2), .val (.int m1), .val (.int m2), .val (.int n1), .val (.int n2), .val (.int e2), .val (.ref b1), .val (.int (((p5.toUInt32 >>> ((4 : Int32) &&& 31).toUInt32).toInt32) &&& (3 : Int32))), .val (.ref b8), .unset, .unset, .unset]) rfl k) ?_
              show Go _ _ _ _ _ _ _ _ _ _ (mkF m 169 #[.val (.int p0), .val (.int p1), .val (.int p2), .val (.int p3), .val (.int p4), .val (.int p5), .val (.int l1), .val (.int l2), .val (.int m1), .val (.int m2), .val (.int n1), .val (.int n2), .val (.int e2), .val (.ref b1), .val (.int (((p5.toUInt32 >>> ((4 : Int32) &&& 31).toUInt32).toInt32) &&& (3 : Int32))), .val (.ref b8), .unset, .unset, .unset] [])
              refine Go.step (fun _ k => XS.aload W.here W.hx rfl (W.d at_169) rfl rfl k) ?_
              show Go _ _ _ _ _ _ _ _ _ _ (mkF m 171 #[.val (.int p0), .val (.int p1), .val (.int p2), .val (.int p3), .val (.int p4), .val (.int p5), .val (.int l1), .val (.int l2), .val (.int m1), .val (.int m2), .val (.int n1), .val (.int n2), .val (.int e2), .val (.ref b1), .val (.int (((p5.toUInt32 >>> ((4 : Int32) &&& 31).toUInt32).toInt32) &&& (3 : Int32))), .val (.ref b8), .unset, .unset, .unset] [(.ref b1)])
              refine Go.step (fun _ k => XS.aload W.here W.hx rfl (W.d at_171) rfl rfl k) ?_
              show Go _ _ _ _ _ _ _ _ _ _ (mkF m 173 #[.val (.int p0), .val (.int p1), .val (.int p2), .val (.int p3), .val (.int p4), .val (.int p5), .val (.int l1), .val (.int l2), .val (.int m1), .val (.int m2), .val (.int n1), .val (.int n2), .val (.int e2), .val (.ref b1), .val (.int (((p5.toUInt32 >>> ((4 : Int32) &&& 31).toUInt32).toInt32) &&& (3 : Int32))), .val (.ref b8), .unset, .unset, .unset] [(.ref b8), (.ref b1)])
              refine W.virtual (X.w 41 rfl) (X.w 42 rfl) (notFace_of_selects (args := #[]) (mvT W.hZ (X.w 44 rfl))) (X.w 44 rfl) (X.w 43 rfl) (X.w 2 rfl) (X.w 45 rfl) (by decide) (c_eq5 X b1 b8 _ W.ext Sb8.exa (Exa.ne Ab1 Sb8.exa (by decide))) (by decide) (Wd := 0) (by decide) b1 Ab1 [(.ref b8)] [] rfl pd_7 rfl rfl rfl (Nat.le_of_eq rfl) at_173 (by decide) (by decide) ?_
              intro v T h vm W hQ C
              obtain ⟨rfl, rfl⟩ := hQ
              show Go _ _ _ _ _ _ _ _ _ _ (mkF m 176 #[.val (.int p0), .val (.int p1), .val (.int p2), .val (.int p3), .val (.int p4), .val (.int p5), .val (.int l1), .val (.int l2), .val (.int m1), .val (.int m2), .val (.int n1), .val (.int n2), .val (.int e2), .val (.ref b1), .val (.int (((p5.toUInt32 >>> ((4 : Int32) &&& 31).toUInt32).toInt32) &&& (3 : Int32))), .val (.ref b8), .unset, .unset, .unset] [(.int (0 : Int32))])
              refine Go.step (fun _ k => XS.ifNo W.here W.hx rfl (W.d at_176) rfl ((if0 _ _).trans (teq (by decide : (0 : Int32) = (0 : Int32))).2) k) ?_
              show Go _ _ _ _ _ _ _ _ _ _ (mkF m 179 #[.val (.int p0), .val (.int p1), .val (.int p2), .val (.int p3), .val (.int p4), .val (.int p5), .val (.int l1), .val (.int l2), .val (.int m1), .val (.int m2), .val (.int n1), .val (.int n2), .val (.int e2), .val (.ref b1), .val (.int (((p5.toUInt32 >>> ((4 : Int32) &&& 31).toUInt32).toInt32) &&& (3 : Int32))), .val (.ref b8), .unset, .unset, .unset] [])
              refine Go.step (fun _ k => XS.iconst W.here W.hx rfl (W.d at_179) k) ?_
              show Go _ _ _ _ _ _ _ _ _ _ (mkF m 180 #[.val (.int p0), .val (.int p1), .val (.int p2), .val (.int p3), .val (.int p4), .val (.int p5), .val (.int l1), .val (.int l2), .val (.int m1), .val (.int m2), .val (.int n1), .val (.int n2), .val (.int e2), .val (.ref b1), .val (.int (((p5.toUInt32 >>> ((4 : Int32) &&& 31).toUInt32).toInt32) &&& (3 : Int32))), .val (.ref b8), .unset, .unset, .unset] [(.int (1 : Int32))])
              refine Go.step (fun _ k => XS.goto W.here W.hx rfl (pc0 := 180) (pc' := 184) rfl (W.d at_180) (by decide) (by decide) k) ?_
              show Go _ _ _ _ _ _ _ _ _ _ (mkF m 184 #[.val (.int p0), .val (.int p1), .val (.int p2), .val (.int p3), .val (.int p4), .val (.int p5), .val (.int l1), .val (.int l2), .val (.int m1), .val (.int m2), .val (.int n1), .val (.int n2), .val (.int e2), .val (.ref b1), .val (.int (((p5.toUInt32 >>> ((4 : Int32) &&& 31).toUInt32).toInt32) &&& (3 : Int32))), .val (.ref b8), .unset, .unset, .unset] [(.int (1 : Int32))])
              exact W.retN (by simp) at_184 (rfl) (by decide) (by decide)
            · refine Go.step (fun _ k => XS.icmpYes W.here W.hx rfl (pc0 := 159) (pc' := 185) rfl (W.d at_159) rfl (feq hc7).2 (by decide) (by decide) k) ?_
              show Go _ _ _ _ _ _ _ _ _ _ (mkF m 185 #[.val (.int p0), .val (.int p1), .val (.int p2), .val (.int p3), .val (.int p4), .val (.int p5), .val (.int l1), .val (.int l2), .val (.int m1), .val (.int m2), .val (.int n1), .val (.int n2), .val (.int e2), .val (.ref b1), .val (.int (((p5.toUInt32 >>> ((4 : Int32) &&& 31).toUInt32).toInt32) &&& (3 : Int32))), .unset, .unset, .unset, .unset] [])
              refine Go.step (fun _ k => XS.iload W.here W.hx rfl (W.d at_185) rfl k) ?_
              show Go _ _ _ _ _ _ _ _ _ _ (mkF m 187 #[.val (.int p0), .val (.int p1), .val (.int p2), .val (.int p3), .val (.int p4), .val (.int p5), .val (.int l1), .val (.int l2), .val (.int m1), .val (.int m2), .val (.int n1), .val (.int n2), .val (.int e2), .val (.ref b1), .val (.int (((p5.toUInt32 >>> ((4 : Int32) &&& 31).toUInt32).toInt32) &&& (3 : Int32))), .unset, .unset, .unset, .unset] [(.int (((p5.toUInt32 >>> ((4 : Int32) &&& 31).toUInt32).toInt32) &&& (3 : Int32)))])
              refine Go.step (fun _ k => XS.iconst W.here W.hx rfl (W.d at_187) k) ?_
              show Go _ _ _ _ _ _ _ _ _ _ (mkF m 188 #[.val (.int p0), .val (.int p1), .val (.int p2), .val (.int p3), .val (.int p4), .val (.int p5), .val (.int l1), .val (.int l2), .val (.int m1), .val (.int m2), .val (.int n1), .val (.int n2), .val (.int e2), .val (.ref b1), .val (.int (((p5.toUInt32 >>> ((4 : Int32) &&& 31).toUInt32).toInt32) &&& (3 : Int32))), .unset, .unset, .unset, .unset] [(.int (2 : Int32)), (.int (((p5.toUInt32 >>> ((4 : Int32) &&& 31).toUInt32).toInt32) &&& (3 : Int32)))])
              by_cases hc10 : (((p5.toUInt32 >>> ((4 : Int32) &&& 31).toUInt32).toInt32) &&& (3 : Int32)) = (2 : Int32)
              · refine Go.step (fun _ k => XS.icmpNo W.here W.hx rfl (W.d at_188) rfl (teq hc10).2 k) ?_
                show Go _ _ _ _ _ _ _ _ _ _ (mkF m 191 #[.val (.int p0), .val (.int p1), .val (.int p2), .val (.int p3), .val (.int p4), .val (.int p5), .val (.int l1), .val (.int l2), .val (.int m1), .val (.int m2), .val (.int n1), .val (.int n2), .val (.int e2), .val (.ref b1), .val (.int (((p5.toUInt32 >>> ((4 : Int32) &&& 31).toUInt32).toInt32) &&& (3 : Int32))), .unset, .unset, .unset, .unset] [])
                refine Go.step (fun _ k => XS.aload W.here W.hx rfl (W.d at_191) rfl rfl k) ?_
                show Go _ _ _ _ _ _ _ _ _ _ (mkF m 193 #[.val (.int p0), .val (.int p1), .val (.int p2), .val (.int p3), .val (.int p4), .val (.int p5), .val (.int l1), .val (.int l2), .val (.int m1), .val (.int m2), .val (.int n1), .val (.int n2), .val (.int e2), .val (.ref b1), .val (.int (((p5.toUInt32 >>> ((4 : Int32) &&& 31).toUInt32).toInt32) &&& (3 : Int32))), .unset, .unset, .unset, .unset] [(.ref b1)])
                refine Go.step (fun _ k => XS.astore W.here W.hx rfl (W.d at_193) rfl rfl (l' := #[.val (.int p0), .val (.int p1), .val (.int p2), .val (.int p3), .val (.int p4), .val (.int p5), .val (.int l1), .val (.int l2), .val (.int m1), .val (.int m2), .val (.int n1), .val (.int n2), .val (.int e2), .val (.ref b1), .val (.int (((p5.toUInt32 >>> ((4 : Int32) &&& 31).toUInt32).toInt32) &&& (3 : Int32))), .val (.ref b1), .unset, .unset, .unset]) rfl k) ?_
                show Go _ _ _ _ _ _ _ _ _ _ (mkF m 195 #[.val (.int p0), .val (.int p1), .val (.int p2), .val (.int p3), .val (.int p4), .val (.int p5), .val (.int l1), .val (.int l2), .val (.int m1), .val (.int m2), .val (.int n1), .val (.int n2), .val (.int e2), .val (.ref b1), .val (.int (((p5.toUInt32 >>> ((4 : Int32) &&& 31).toUInt32).toInt32) &&& (3 : Int32))), .val (.ref b1), .unset, .unset, .unset] [])
                refine Go.step (fun _ k => XS.aload W.here W.hx rfl (W.d at_195) rfl rfl k) ?_
                show Go _ _ _ _ _ _ _ _ _ _ (mkF m 197 #[.val (.int p0), .val (.int p1), .val (.int p2), .val (.int p3), .val (.int p4), .val (.int p5), .val (.int l1), .val (.int l2), .val (.int m1), .val (.int m2), .val (.int n1), .val (.int n2), .val (.int e2), .val (.ref b1), .val (.int (((p5.toUInt32 >>> ((4 : Int32) &&& 31).toUInt32).toInt32) &&& (3 : Int32))), .val (.ref b1), .unset, .unset, .unset] [(.ref b1)])
                refine Go.step (fun _ k => XS.aload W.here W.hx rfl (W.d at_197) rfl rfl k) ?_
                show Go _ _ _ _ _ _ _ _ _ _ (mkF m 199 #[.val (.int p0), .val (.int p1), .val (.int p2), .val (.int p3), .val (.int p4), .val (.int p5), .val (.int l1), .val (.int l2), .val (.int m1), .val (.int m2), .val (.int n1), .val (.int n2), .val (.int e2), .val (.ref b1), .val (.int (((p5.toUInt32 >>> ((4 : Int32) &&& 31).toUInt32).toInt32) &&& (3 : Int32))), .val (.ref b1), .unset, .unset, .unset] [(.ref b1), (.ref b1)])
                refine W.virtual (X.w 41 rfl) (X.w 42 rfl) (notFace_of_selects (args := #[]) (mvT W.hZ (X.w 44 rfl))) (X.w 44 rfl) (X.w 43 rfl) (X.w 2 rfl) (X.w 45 rfl) (by decide) (c_eq2 X b1 b2 _ b3 _ b4 _ p3 _ W.ext Ab1 F_library_b1 Sb2 (one_txt _) F_sample_b1 Sb3 (one_txt _) F_label_b1 Sb4 (one_txt _) F_distance_b1) (by decide) (Wd := 0) (by decide) b1 Ab1 [(.ref b1)] [] rfl pd_7 rfl rfl rfl (Nat.le_of_eq rfl) at_199 (by decide) (by decide) ?_
                intro v T h vm W hQ C
                obtain ⟨rfl, rfl⟩ := hQ
                show Go _ _ _ _ _ _ _ _ _ _ (mkF m 202 #[.val (.int p0), .val (.int p1), .val (.int p2), .val (.int p3), .val (.int p4), .val (.int p5), .val (.int l1), .val (.int l2), .val (.int m1), .val (.int m2), .val (.int n1), .val (.int n2), .val (.int e2), .val (.ref b1), .val (.int (((p5.toUInt32 >>> ((4 : Int32) &&& 31).toUInt32).toInt32) &&& (3 : Int32))), .val (.ref b1), .unset, .unset, .unset] [(.int (1 : Int32))])
                exact W.retN (by simp) at_202 (rfl) (by decide) (by decide)
              · refine Go.step (fun _ k => XS.icmpYes W.here W.hx rfl (pc0 := 188) (pc' := 203) rfl (W.d at_188) rfl (feq hc10).2 (by decide) (by decide) k) ?_
                show Go _ _ _ _ _ _ _ _ _ _ (mkF m 203 #[.val (.int p0), .val (.int p1), .val (.int p2), .val (.int p3), .val (.int p4), .val (.int p5), .val (.int l1), .val (.int l2), .val (.int m1), .val (.int m2), .val (.int n1), .val (.int n2), .val (.int e2), .val (.ref b1), .val (.int (((p5.toUInt32 >>> ((4 : Int32) &&& 31).toUInt32).toInt32) &&& (3 : Int32))), .unset, .unset, .unset, .unset] [])
                refine W.new (X.w 0 rfl) (X.w 1 rfl) (X.w 2 rfl) at_203 (by decide) (by decide) ?_
                intro T h b12 hb12 W Eb12 Ab12 Db12
                have ne_b1_b12 : b1 ≠ b12 := by rw [hb12]; exact Nat.ne_of_lt Ab1.lt
                have ne_b2_b12 : b2 ≠ b12 := by rw [hb12]; exact Nat.ne_of_lt Sb2.exa.lt
                have ne_b3_b12 : b3 ≠ b12 := by rw [hb12]; exact Nat.ne_of_lt Sb3.exa.lt
                have ne_b4_b12 : b4 ≠ b12 := by rw [hb12]; exact Nat.ne_of_lt Sb4.exa.lt
                have gb12 : Z.heap.size ≤ b12 := by rw [hb12]; exact hsz
                replace F_library_b1 := F_library_b1.ext Eb12
                replace F_sample_b1 := F_sample_b1.ext Eb12
                replace F_label_b1 := F_label_b1.ext Eb12
                replace F_distance_b1 := F_distance_b1.ext Eb12
                replace Sb2 := Sb2.ext Eb12
                replace Sb3 := Sb3.ext Eb12
                replace Sb4 := Sb4.ext Eb12
                replace Ab1 := Ab1.ext Eb12
                replace hsz := W.size
                have F_library_b12 : Fld Z h b12 "com/example/moderato/moderato/client/ImageHit" "library" "Ljava/lang/String;" .null := Db12 (Or.inr (X.w 34 rfl)) (ty := (.object "java/lang/String")) (by decide)
                have F_sample_b12 : Fld Z h b12 "com/example/moderato/moderato/client/ImageHit" "sample" "Ljava/lang/String;" .null := Db12 (Or.inr (X.w 36 rfl)) (ty := (.object "java/lang/String")) (by decide)
                have F_label_b12 : Fld Z h b12 "com/example/moderato/moderato/client/ImageHit" "label" "Ljava/lang/String;" .null := Db12 (Or.inr (X.w 38 rfl)) (ty := (.object "java/lang/String")) (by decide)
                have F_distance_b12 : Fld Z h b12 "com/example/moderato/moderato/client/ImageHit" "distance" "I" (.int (0 : Int32)) := Db12 (Or.inr (X.w 40 rfl)) (ty := .int) (by decide)
                show Go _ _ _ _ _ _ _ _ _ _ (mkF m 206 #[.val (.int p0), .val (.int p1), .val (.int p2), .val (.int p3), .val (.int p4), .val (.int p5), .val (.int l1), .val (.int l2), .val (.int m1), .val (.int m2), .val (.int n1), .val (.int n2), .val (.int e2), .val (.ref b1), .val (.int (((p5.toUInt32 >>> ((4 : Int32) &&& 31).toUInt32).toInt32) &&& (3 : Int32))), .unset, .unset, .unset, .unset] [(.ref b12)])
                refine Go.step (fun _ k => XS.dup W.here W.hx rfl (W.d at_206) rfl rfl k) ?_
                show Go _ _ _ _ _ _ _ _ _ _ (mkF m 207 #[.val (.int p0), .val (.int p1), .val (.int p2), .val (.int p3), .val (.int p4), .val (.int p5), .val (.int l1), .val (.int l2), .val (.int m1), .val (.int m2), .val (.int n1), .val (.int n2), .val (.int e2), .val (.ref b1), .val (.int (((p5.toUInt32 >>> ((4 : Int32) &&& 31).toUInt32).toInt32) &&& (3 : Int32))), .unset, .unset, .unset, .unset] [(.ref b12), (.ref b12)])
                refine Go.step (fun _ k => XS.iload W.here W.hx rfl (W.d at_207) rfl k) ?_
                show Go _ _ _ _ _ _ _ _ _ _ (mkF m 209 #[.val (.int p0), .val (.int p1), .val (.int p2), .val (.int p3), .val (.int p4), .val (.int p5), .val (.int l1), .val (.int l2), .val (.int m1), .val (.int m2), .val (.int n1), .val (.int n2), .val (.int e2), .val (.ref b1), .val (.int (((p5.toUInt32 >>> ((4 : Int32) &&& 31).toUInt32).toInt32) &&& (3 : Int32))), .unset, .unset, .unset, .unset] [(.int l2), (.ref b12), (.ref b12)])
                refine W.callS (X.w 3 rfl) (X.w 4 rfl) (X.w 5 rfl) (X.w 6 rfl) (by decide) (c_str X l2 _ W.ext) (by decide) (Wd := 2) (by decide) [(.int l2)] [(.ref b12), (.ref b12)] rfl pd_8 rfl rfl rfl (Nat.le_of_eq rfl) at_209 (by decide) (by decide) ?_
                intro v T h vm W hQ C
                obtain ⟨b13, rfl, gb13, Kb13, Sb13⟩ := hQ
                replace F_library_b1 := F_library_b1.keep Kb13 nin0
                replace F_sample_b1 := F_sample_b1.keep Kb13 nin0
                replace F_label_b1 := F_label_b1.keep Kb13 nin0
                replace F_distance_b1 := F_distance_b1.keep Kb13 nin0
                replace Sb2 := Sb2.keep0 Kb13
                replace Sb3 := Sb3.keep0 Kb13
                replace Sb4 := Sb4.keep0 Kb13
                replace F_library_b12 := F_library_b12.keep Kb13 nin0
                replace F_sample_b12 := F_sample_b12.keep Kb13 nin0
                replace F_label_b12 := F_label_b12.keep Kb13 nin0
                replace F_distance_b12 := F_distance_b12.keep Kb13 nin0
                replace Ab1 := Ab1.keep Kb13
                replace Ab12 := Ab12.keep Kb13
                replace hsz := W.size
                show Go _ _ _ _ _ _ _ _ _ _ (mkF m 212 #[.val (.int p0), .val (.int p1), .val (.int p2), .val (.int p3), .val (.int p4), .val (.int p5), .val (.int l1), .val (.int l2), .val (.int m1), .val (.int m2), .val (.int n1), .val (.int n2), .val (.int e2), .val (.ref b1), .val (.int (((p5.toUInt32 >>> ((4 : Int32) &&& 31).toUInt32).toInt32) &&& (3 : Int32))), .unset, .unset, .unset, .unset] [(.ref b13), (.ref b12), (.ref b12)])
                refine Go.step (fun _ k => XS.iload W.here W.hx rfl (W.d at_212) rfl k) ?_
                show Go _ _ _ _ _ _ _ _ _ _ (mkF m 214 #[.val (.int p0), .val (.int p1), .val (.int p2), .val (.int p3), .val (.int p4), .val (.int p5), .val (.int l1), .val (.int l2), .val (.int m1), .val (.int m2), .val (.int n1), .val (.int n2), .val (.int e2), .val (.ref b1), .val (.int (((p5.toUInt32 >>> ((4 : Int32) &&& 31).toUInt32).toInt32) &&& (3 : Int32))), .unset, .unset, .unset, .unset] [(.int m2), (.ref b13), (.ref b12), (.ref b12)])
                refine W.callS (X.w 3 rfl) (X.w 4 rfl) (X.w 5 rfl) (X.w 6 rfl) (by decide) (c_str X m2 _ W.ext) (by decide) (Wd := 3) (by decide) [(.int m2)] [(.ref b13), (.ref b12), (.ref b12)] rfl pd_8 rfl rfl rfl (Nat.le_of_eq rfl) at_214 (by decide) (by decide) ?_
                intro v T h vm W hQ C
                obtain ⟨b14, rfl, gb14, Kb14, Sb14⟩ := hQ
                replace F_library_b1 := F_library_b1.keep Kb14 nin0
                replace F_sample_b1 := F_sample_b1.keep Kb14 nin0
                replace F_label_b1 := F_label_b1.keep Kb14 nin0
                replace F_distance_b1 := F_distance_b1.keep Kb14 nin0
                replace Sb2 := Sb2.keep0 Kb14
                replace Sb3 := Sb3.keep0 Kb14
                replace Sb4 := Sb4.keep0 Kb14
                replace F_library_b12 := F_library_b12.keep Kb14 nin0
                replace F_sample_b12 := F_sample_b12.keep Kb14 nin0
                replace F_label_b12 := F_label_b12.keep Kb14 nin0
                replace F_distance_b12 := F_distance_b12.keep Kb14 nin0
                replace Sb13 := Sb13.keep0 Kb14
                replace Ab1 := Ab1.keep Kb14
                replace Ab12 := Ab12.keep Kb14
                replace hsz := W.size
                show Go _ _ _ _ _ _ _ _ _ _ (mkF m 217 #[.val (.int p0), .val (.int p1), .val (.int p2), .val (.int p3), .val (.int p4), .val (.int p5), .val (.int l1), .val (.int l2), .val (.int m1), .val (.int m2), .val (.int n1), .val (.int n2), .val (.int e2), .val (.ref b1), .val (.int (((p5.toUInt32 >>> ((4 : Int32) &&& 31).toUInt32).toInt32) &&& (3 : Int32))), .unset, .unset, .unset, .unset] [(.ref b14), (.ref b13), (.ref b12), (.ref b12)])
                refine Go.step (fun _ k => XS.iload W.here W.hx rfl (W.d at_217) rfl k) ?_
                show Go _ _ _ _ _ _ _ _ _ _ (mkF m 219 #[.val (.int p0), .val (.int p1), .val (.int p2), .val (.int p3), .val (.int p4), .val (.int p5), .val (.int l1), .val (.int l2), .val (.int m1), .val (.int m2), .val (.int n1), .val (.int n2), .val (.int e2), .val (.ref b1), .val (.int (((p5.toUInt32 >>> ((4 : Int32) &&& 31).toUInt32).toInt32) &&& (3 : Int32))), .unset, .unset, .unset, .unset] [(.int n2), (.ref b14), (.ref b13), (.ref b12), (.ref b12)])
                refine W.callS (X.w 3 rfl) (X.w 4 rfl) (X.w 5 rfl) (X.w 6 rfl) (by decide) (c_str X n2 _ W.ext) (by decide) (Wd := 4) (by decide) [(.int n2)] [(.ref b14), (.ref b13), (.ref b12), (.ref b12)] rfl pd_8 rfl rfl rfl (Nat.le_of_eq rfl) at_219 (by decide) (by decide) ?_
                intro v T h vm W hQ C
                obtain ⟨b15, rfl, gb15, Kb15, Sb15⟩ := hQ
                replace F_library_b1 := F_library_b1.keep Kb15 nin0
                replace F_sample_b1 := F_sample_b1.keep Kb15 nin0
                replace F_label_b1 := F_label_b1.keep Kb15 nin0
                replace F_distance_b1 := F_distance_b1.keep Kb15 nin0
                replace Sb2 := Sb2.keep0 Kb15
                replace Sb3 := Sb3.keep0 Kb15
                replace Sb4 := Sb4.keep0 Kb15
                replace F_library_b12 := F_library_b12.keep Kb15 nin0
                replace F_sample_b12 := F_sample_b12.keep Kb15 nin0
                replace F_label_b12 := F_label_b12.keep Kb15 nin0
                replace F_distance_b12 := F_distance_b12.keep Kb15 nin0
                replace Sb13 := Sb13.keep0 Kb15
                replace Sb14 := Sb14.keep0 Kb15
                replace Ab1 := Ab1.keep Kb15
                replace Ab12 := Ab12.keep Kb15
                replace hsz := W.size
                show Go _ _ _ _ _ _ _ _ _ _ (mkF m 222 #[.val (.int p0), .val (.int p1), .val (.int p2), .val (.int p3), .val (.int p4), .val (.int p5), .val (.int l1), .val (.int l2), .val (.int m1), .val (.int m2), .val (.int n1), .val (.int n2), .val (.int e2), .val (.ref b1), .val (.int (((p5.toUInt32 >>> ((4 : Int32) &&& 31).toUInt32).toInt32) &&& (3 : Int32))), .unset, .unset, .unset, .unset] [(.ref b15), (.ref b14), (.ref b13), (.ref b12), (.ref b12)])
                refine Go.step (fun _ k => XS.iload W.here W.hx rfl (W.d at_222) rfl k) ?_
                show Go _ _ _ _ _ _ _ _ _ _ (mkF m 224 #[.val (.int p0), .val (.int p1), .val (.int p2), .val (.int p3), .val (.int p4), .val (.int p5), .val (.int l1), .val (.int l2), .val (.int m1), .val (.int m2), .val (.int n1), .val (.int n2), .val (.int e2), .val (.ref b1), .val (.int (((p5.toUInt32 >>> ((4 : Int32) &&& 31).toUInt32).toInt32) &&& (3 : Int32))), .unset, .unset, .unset, .unset] [(.int e2), (.ref b15), (.ref b14), (.ref b13), (.ref b12), (.ref b12)])
                refine W.special rfl (X.w 29 rfl) (X.w 30 rfl) (X.w 2 rfl) (X.w 31 rfl) (by decide) (c_ih X b12 b13 b14 b15 e2 _ W.ext gb12 Ab12 F_library_b12 F_sample_b12 F_label_b12 F_distance_b12) (by decide) (Wd := 1) (by decide) b12 [(.ref b13), (.ref b14), (.ref b15), (.int e2)] [(.ref b12)] rfl pd_9 rfl rfl rfl (Nat.le_of_eq rfl) at_224 (by decide) (by decide) ?_
                intro v T h vm W hQ C
                obtain ⟨rfl, Kb12, F_library_b12', F_sample_b12', F_label_b12', F_distance_b12'⟩ := hQ
                replace F_library_b1 := F_library_b1.keep Kb12 (nin1 ne_b1_b12)
                replace F_sample_b1 := F_sample_b1.keep Kb12 (nin1 ne_b1_b12)
                replace F_label_b1 := F_label_b1.keep Kb12 (nin1 ne_b1_b12)
                replace F_distance_b1 := F_distance_b1.keep Kb12 (nin1 ne_b1_b12)
                replace Sb2 := Sb2.keepE Kb12 Ab12 (by decide) (X.w 1 rfl)
                replace Sb3 := Sb3.keepE Kb12 Ab12 (by decide) (X.w 1 rfl)
                replace Sb4 := Sb4.keepE Kb12 Ab12 (by decide) (X.w 1 rfl)
                replace Sb13 := Sb13.keepE Kb12 Ab12 (by decide) (X.w 1 rfl)
                replace Sb14 := Sb14.keepE Kb12 Ab12 (by decide) (X.w 1 rfl)
                replace Sb15 := Sb15.keepE Kb12 Ab12 (by decide) (X.w 1 rfl)
                replace Ab1 := Ab1.keep Kb12
                replace Ab12 := Ab12.keep Kb12
                replace hsz := W.size
                replace F_library_b12 := F_library_b12'
                replace F_sample_b12 := F_sample_b12'
                replace F_label_b12 := F_label_b12'
                replace F_distance_b12 := F_distance_b12'
                show Go _ _ _ _ _ _ _ _ _ _ (mkF m 227 #[.val (.int p0), .val (.int p1), .val (.int p2), .val (.int p3), .val (.int p4), .val (.int p5), .val (.int l1), .val (.int l2), .val (.int m1), .val (.int m2), .val (.int n1), .val (.int n2), .val (.int e2), .val (.ref b1), .val (.int (((p5.toUInt32 >>> ((4 : Int32) &&& 31).toUInt32).toInt32) &&& (3 : Int32))), .unset, .unset, .unset, .unset] [(.ref b12)])
                refine Go.step (fun _ k => XS.astore W.here W.hx rfl (W.d at_227) rfl rfl (l' := #[.val (.int p0), .val (.int p1), .val (.int p2), .val (.int p3), .val (.int p4), .val (.int p5), .val (.int l1), .val (.int l2), .val (.int m1), .val (.int m2), .val (.int n1), .val (.int n2), .val (.int e2), .val (.ref b1), .val (.int (((p5.toUInt32 >>> ((4 : Int32) &&& 31).toUInt32).toInt32) &&& (3 : Int32))), .val (.ref b12), .unset, .unset, .unset]) rfl k) ?_
                show Go _ _ _ _ _ _ _ _ _ _ (mkF m 229 #[.val (.int p0), .val (.int p1), .val (.int p2), .val (.int p3), .val (.int p4), .val (.int p5), .val (.int l1), .val (.int l2), .val (.int m1), .val (.int m2), .val (.int n1), .val (.int n2), .val (.int e2), .val (.ref b1), .val (.int (((p5.toUInt32 >>> ((4 : Int32) &&& 31).toUInt32).toInt32) &&& (3 : Int32))), .val (.ref b12), .unset, .unset, .unset] [])
                have J279 : ∀ (T : State) (vm : Vm) (z : Int32), Wk p l e room_1 s m #[(.int p0), (.int p1), (.int p2), (.int p3), (.int p4), (.int p5)] below meth c Z a0 consts_1 x code maxLocals ret T h vm 38 92 → ((z = 1 ∧ (txt l1 = txt l2 ∧ txt m1 = txt m2 ∧ txt n1 = txt n2 ∧ p3 = e2)) ∨ (z = 0 ∧ ¬ (txt l1 = txt l2 ∧ txt m1 = txt m2 ∧ txt n1 = txt n2 ∧ p3 = e2))) → Go p e below s Z consts_1 room_1.cells room_1.slots (fun v _ => v = some (.int 1)) T (mkF m 279 #[.val (.int p0), .val (.int p1), .val (.int p2), .val (.int p3), .val (.int p4), .val (.int p5), .val (.int l1), .val (.int l2), .val (.int m1), .val (.int m2), .val (.int n1), .val (.int n2), .val (.int e2), .val (.ref b1), .val (.int (((p5.toUInt32 >>> ((4 : Int32) &&& 31).toUInt32).toInt32) &&& (3 : Int32))), .val (.ref b12), .unset, .unset, .unset] [(.int z)]) := by
                  intro T vm z W hz
                  refine Go.step (fun _ k => XS.istore W.here W.hx rfl (W.d at_279) rfl (l' := #[.val (.int p0), .val (.int p1), .val (.int p2), .val (.int p3), .val (.int p4), .val (.int p5), .val (.int l1), .val (.int l2), .val (.int m1), .val (.int m2), .val (.int n1), .val (.int n2), .val (.int e2), .val (.ref b1), .val (.int (((p5.toUInt32 >>> ((4 : Int32) &&& 31).toUInt32).toInt32) &&& (3 : Int32))), .val (.ref b12), .val (.int z), .unset, .unset]) rfl k) ?_
                  show Go _ _ _ _ _ _ _ _ _ _ (mkF m 281 #[.val (.int p0), .val (.int p1), .val (.int p2), .val (.int p3), .val (.int p4), .val (.int p5), .val (.int l1), .val (.int l2), .val (.int m1), .val (.int m2), .val (.int n1), .val (.int n2), .val (.int e2), .val (.ref b1), .val (.int (((p5.toUInt32 >>> ((4 : Int32) &&& 31).toUInt32).toInt32) &&& (3 : Int32))), .val (.ref b12), .val (.int z), .unset, .unset] [])
                  refine Go.step (fun _ k => XS.aload W.here W.hx rfl (W.d at_281) rfl rfl k) ?_
                  show Go _ _ _ _ _ _ _ _ _ _ (mkF m 283 #[.val (.int p0), .val (.int p1), .val (.int p2), .val (.int p3), .val (.int p4), .val (.int p5), .val (.int l1), .val (.int l2), .val (.int m1), .val (.int m2), .val (.int n1), .val (.int n2), .val (.int e2), .val (.ref b1), .val (.int (((p5.toUInt32 >>> ((4 : Int32) &&& 31).toUInt32).toInt32) &&& (3 : Int32))), .val (.ref b12), .val (.int z), .unset, .unset] [(.ref b12)])
                  refine Go.step (fun _ k => XS.astore W.here W.hx rfl (W.d at_283) rfl rfl (l' := #[.val (.int p0), .val (.int p1), .val (.int p2), .val (.int p3), .val (.int p4), .val (.int p5), .val (.int l1), .val (.int l2), .val (.int m1), .val (.int m2), .val (.int n1), .val (.int n2), .val (.int e2), .val (.ref b1), .val (.int (((p5.toUInt32 >>> ((4 : Int32) &&& 31).toUInt32).toInt32) &&& (3 : Int32))), .val (.ref b12), .val (.int z), .val (.ref b12), .unset]) rfl k) ?_
                  show Go _ _ _ _ _ _ _ _ _ _ (mkF m 285 #[.val (.int p0), .val (.int p1), .val (.int p2), .val (.int p3), .val (.int p4), .val (.int p5), .val (.int l1), .val (.int l2), .val (.int m1), .val (.int m2), .val (.int n1), .val (.int n2), .val (.int e2), .val (.ref b1), .val (.int (((p5.toUInt32 >>> ((4 : Int32) &&& 31).toUInt32).toInt32) &&& (3 : Int32))), .val (.ref b12), .val (.int z), .val (.ref b12), .unset] [])
                  refine Go.step (fun _ k => XS.aload W.here W.hx rfl (W.d at_285) rfl rfl k) ?_
                  show Go _ _ _ _ _ _ _ _ _ _ (mkF m 287 #[.val (.int p0), .val (.int p1), .val (.int p2), .val (.int p3), .val (.int p4), .val (.int p5), .val (.int l1), .val (.int l2), .val (.int m1), .val (.int m2), .val (.int n1), .val (.int n2), .val (.int e2), .val (.ref b1), .val (.int (((p5.toUInt32 >>> ((4 : Int32) &&& 31).toUInt32).toInt32) &&& (3 : Int32))), .val (.ref b12), .val (.int z), .val (.ref b12), .unset] [(.ref b1)])
                  refine Go.step (fun _ k => XS.astore W.here W.hx rfl (W.d at_287) rfl rfl (l' := #[.val (.int p0), .val (.int p1), .val (.int p2), .val (.int p3), .val (.int p4), .val (.int p5), .val (.int l1), .val (.int l2), .val (.int m1), .val (.int m2), .val (.int n1), .val (.int n2), .val (.int e2), .val (.ref b1), .val (.int (((p5.toUInt32 >>> ((4 : Int32) &&& 31).toUInt32).toInt32) &&& (3 : Int32))), .val (.ref b12), .val (.int z), .val (.ref b12), .val (.ref b1)]) rfl k) ?_
                  show Go _ _ _ _ _ _ _ _ _ _ (mkF m 289 #[.val (.int p0), .val (.int p1), .val (.int p2), .val (.int p3), .val (.int p4), .val (.int p5), .val (.int l1), .val (.int l2), .val (.int m1), .val (.int m2), .val (.int n1), .val (.int n2), .val (.int e2), .val (.ref b1), .val (.int (((p5.toUInt32 >>> ((4 : Int32) &&& 31).toUInt32).toInt32) &&& (3 : Int32))), .val (.ref b12), .val (.int z), .val (.ref b12), .val (.ref b1)] [])
                  rcases hz with ⟨rfl, hz⟩ | ⟨rfl, hz⟩
                  · show Go _ _ _ _ _ _ _ _ _ _ (mkF m 289 #[.val (.int p0), .val (.int p1), .val (.int p2), .val (.int p3), .val (.int p4), .val (.int p5), .val (.int l1), .val (.int l2), .val (.int m1), .val (.int m2), .val (.int n1), .val (.int n2), .val (.int e2), .val (.ref b1), .val (.int (((p5.toUInt32 >>> ((4 : Int32) &&& 31).toUInt32).toInt32) &&& (3 : Int32))), .val (.ref b12), .val (.int (1 : Int32)), .val (.ref b12), .val (.ref b1)] [])
                    refine Go.step (fun _ k => XS.aload W.here W.hx rfl (W.d at_289) rfl rfl k) ?_
                    show Go _ _ _ _ _ _ _ _ _ _ (mkF m 291 #[.val (.int p0), .val (.int p1), .val (.int p2), .val (.int p3), .val (.int p4), .val (.int p5), .val (.int l1), .val (.int l2), .val (.int m1), .val (.int m2), .val (.int n1), .val (.int n2), .val (.int e2), .val (.ref b1), .val (.int (((p5.toUInt32 >>> ((4 : Int32) &&& 31).toUInt32).toInt32) &&& (3 : Int32))), .val (.ref b12), .val (.int (1 : Int32)), .val (.ref b12), .val (.ref b1)] [(.ref b1)])
                    refine Go.step (fun _ k => XS.aload W.here W.hx rfl (W.d at_291) rfl rfl k) ?_
                    show Go _ _ _ _ _ _ _ _ _ _ (mkF m 293 #[.val (.int p0), .val (.int p1), .val (.int p2), .val (.int p3), .val (.int p4), .val (.int p5), .val (.int l1), .val (.int l2), .val (.int m1), .val (.int m2), .val (.int n1), .val (.int n2), .val (.int e2), .val (.ref b1), .val (.int (((p5.toUInt32 >>> ((4 : Int32) &&& 31).toUInt32).toInt32) &&& (3 : Int32))), .val (.ref b12), .val (.int (1 : Int32)), .val (.ref b12), .val (.ref b1)] [(.ref b12), (.ref b1)])
                    refine W.virtual (X.w 41 rfl) (X.w 42 rfl) (notFace_of_selects (args := #[]) (mvT W.hZ (X.w 44 rfl))) (X.w 44 rfl) (X.w 43 rfl) (X.w 2 rfl) (X.w 45 rfl) (by decide) (c_eq1 X b1 b12 b2 _ b3 _ b4 _ p3 b13 _ b14 _ b15 _ e2 _ W.ext Ab1 F_library_b1 Sb2 (one_txt _) F_sample_b1 Sb3 (one_txt _) F_label_b1 Sb4 (one_txt _) F_distance_b1 Ab12 F_library_b12 Sb13 (one_txt _) F_sample_b12 Sb14 (one_txt _) F_label_b12 Sb15 (one_txt _) F_distance_b12 ne_b1_b12) (by decide) (Wd := 0) (by decide) b1 Ab1 [(.ref b12)] [] rfl pd_7 rfl rfl rfl (Nat.le_of_eq rfl) at_293 (by decide) (by decide) ?_
                    intro v T h vm W hQ C
                    obtain ⟨hq16, rfl⟩ := hQ
                    rcases hq16 with ⟨rfl, hq16⟩ | ⟨rfl, hq16⟩
                    · show Go _ _ _ _ _ _ _ _ _ _ (mkF m 296 #[.val (.int p0), .val (.int p1), .val (.int p2), .val (.int p3), .val (.int p4), .val (.int p5), .val (.int l1), .val (.int l2), .val (.int m1), .val (.int m2), .val (.int n1), .val (.int n2), .val (.int e2), .val (.ref b1), .val (.int (((p5.toUInt32 >>> ((4 : Int32) &&& 31).toUInt32).toInt32) &&& (3 : Int32))), .val (.ref b12), .val (.int (1 : Int32)), .val (.ref b12), .val (.ref b1)] [(.int (1 : Int32))])
                      refine Go.step (fun _ k => XS.iload W.here W.hx rfl (W.d at_296) rfl k) ?_
                      show Go _ _ _ _ _ _ _ _ _ _ (mkF m 298 #[.val (.int p0), .val (.int p1), .val (.int p2), .val (.int p3), .val (.int p4), .val (.int p5), .val (.int l1), .val (.int l2), .val (.int m1), .val (.int m2), .val (.int n1), .val (.int n2), .val (.int e2), .val (.ref b1), .val (.int (((p5.toUInt32 >>> ((4 : Int32) &&& 31).toUInt32).toInt32) &&& (3 : Int32))), .val (.ref b12), .val (.int (1 : Int32)), .val (.ref b12), .val (.ref b1)] [(.int (1 : Int32)), (.int (1 : Int32))])
                      refine Go.step (fun _ k => XS.icmpNo W.here W.hx rfl (W.d at_298) rfl (teq (by decide : (1 : Int32) = (1 : Int32))).2 k) ?_
                      show Go _ _ _ _ _ _ _ _ _ _ (mkF m 301 #[.val (.int p0), .val (.int p1), .val (.int p2), .val (.int p3), .val (.int p4), .val (.int p5), .val (.int l1), .val (.int l2), .val (.int m1), .val (.int m2), .val (.int n1), .val (.int n2), .val (.int e2), .val (.ref b1), .val (.int (((p5.toUInt32 >>> ((4 : Int32) &&& 31).toUInt32).toInt32) &&& (3 : Int32))), .val (.ref b12), .val (.int (1 : Int32)), .val (.ref b12), .val (.ref b1)] [])
                      refine Go.step (fun _ k => XS.aload W.here W.hx rfl (W.d at_301) rfl rfl k) ?_
                      show Go _ _ _ _ _ _ _ _ _ _ (mkF m 303 #[.val (.int p0), .val (.int p1), .val (.int p2), .val (.int p3), .val (.int p4), .val (.int p5), .val (.int l1), .val (.int l2), .val (.int m1), .val (.int m2), .val (.int n1), .val (.int n2), .val (.int e2), .val (.ref b1), .val (.int (((p5.toUInt32 >>> ((4 : Int32) &&& 31).toUInt32).toInt32) &&& (3 : Int32))), .val (.ref b12), .val (.int (1 : Int32)), .val (.ref b12), .val (.ref b1)] [(.ref b12)])
                      refine Go.step (fun _ k => XS.aload W.here W.hx rfl (W.d at_303) rfl rfl k) ?_
                      show Go _ _ _ _ _ _ _ _ _ _ (mkF m 305 #[.val (.int p0), .val (.int p1), .val (.int p2), .val (.int p3), .val (.int p4), .val (.int p5), .val (.int l1), .val (.int l2), .val (.int m1), .val (.int m2), .val (.int n1), .val (.int n2), .val (.int e2), .val (.ref b1), .val (.int (((p5.toUInt32 >>> ((4 : Int32) &&& 31).toUInt32).toInt32) &&& (3 : Int32))), .val (.ref b12), .val (.int (1 : Int32)), .val (.ref b12), .val (.ref b1)] [(.ref b1), (.ref b12)])
                      refine W.virtual (X.w 41 rfl) (X.w 42 rfl) (notFace_of_selects (args := #[]) (mvT W.hZ (X.w 44 rfl))) (X.w 44 rfl) (X.w 43 rfl) (X.w 2 rfl) (X.w 45 rfl) (by decide) (c_eq1 X b12 b1 b13 _ b14 _ b15 _ e2 b2 _ b3 _ b4 _ p3 _ W.ext Ab12 F_library_b12 Sb13 (one_txt _) F_sample_b12 Sb14 (one_txt _) F_label_b12 Sb15 (one_txt _) F_distance_b12 Ab1 F_library_b1 Sb2 (one_txt _) F_sample_b1 Sb3 (one_txt _) F_label_b1 Sb4 (one_txt _) F_distance_b1 (Ne.symm ne_b1_b12)) (by decide) (Wd := 0) (by decide) b12 Ab12 [(.ref b1)] [] rfl pd_7 rfl rfl rfl (Nat.le_of_eq rfl) at_305 (by decide) (by decide) ?_
                      intro v T h vm W hQ C
                      obtain ⟨hq17, rfl⟩ := hQ
                      rcases hq17 with ⟨rfl, hq17⟩ | ⟨rfl, hq17⟩
                      · show Go _ _ _ _ _ _ _ _ _ _ (mkF m 308 #[.val (.int p0), .val (.int p1), .val (.int p2), .val (.int p3), .val (.int p4), .val (.int p5), .val (.int l1), .val (.int l2), .val (.int m1), .val (.int m2), .val (.int n1), .val (.int n2), .val (.int e2), .val (.ref b1), .val (.int (((p5.toUInt32 >>> ((4 : Int32) &&& 31).toUInt32).toInt32) &&& (3 : Int32))), .val (.ref b12), .val (.int (1 : Int32)), .val (.ref b12), .val (.ref b1)] [(.int (1 : Int32))])
                        refine Go.step (fun _ k => XS.iload W.here W.hx rfl (W.d at_308) rfl k) ?_
                        show Go _ _ _ _ _ _ _ _ _ _ (mkF m 310 #[.val (.int p0), .val (.int p1), .val (.int p2), .val (.int p3), .val (.int p4), .val (.int p5), .val (.int l1), .val (.int l2), .val (.int m1), .val (.int m2), .val (.int n1), .val (.int n2), .val (.int e2), .val (.ref b1), .val (.int (((p5.toUInt32 >>> ((4 : Int32) &&& 31).toUInt32).toInt32) &&& (3 : Int32))), .val (.ref b12), .val (.int (1 : Int32)), .val (.ref b12), .val (.ref b1)] [(.int (1 : Int32)), (.int (1 : Int32))])
                        refine Go.step (fun _ k => XS.icmpNo W.here W.hx rfl (W.d at_310) rfl (teq (by decide : (1 : Int32) = (1 : Int32))).2 k) ?_
                        show Go _ _ _ _ _ _ _ _ _ _ (mkF m 313 #[.val (.int p0), .val (.int p1), .val (.int p2), .val (.int p3), .val (.int p4), .val (.int p5), .val (.int l1), .val (.int l2), .val (.int m1), .val (.int m2), .val (.int n1), .val (.int n2), .val (.int e2), .val (.ref b1), .val (.int (((p5.toUInt32 >>> ((4 : Int32) &&& 31).toUInt32).toInt32) &&& (3 : Int32))), .val (.ref b12), .val (.int (1 : Int32)), .val (.ref b12), .val (.ref b1)] [])
                        refine Go.step (fun _ k => XS.iconst W.here W.hx rfl (W.d at_313) k) ?_
                        show Go _ _ _ _ _ _ _ _ _ _ (mkF m 314 #[.val (.int p0), .val (.int p1), .val (.int p2), .val (.int p3), .val (.int p4), .val (.int p5), .val (.int l1), .val (.int l2), .val (.int m1), .val (.int m2), .val (.int n1), .val (.int n2), .val (.int e2), .val (.ref b1), .val (.int (((p5.toUInt32 >>> ((4 : Int32) &&& 31).toUInt32).toInt32) &&& (3 : Int32))), .val (.ref b12), .val (.int (1 : Int32)), .val (.ref b12), .val (.ref b1)] [(.int (1 : Int32))])
                        refine Go.step (fun _ k => XS.goto W.here W.hx rfl (pc0 := 314) (pc' := 318) rfl (W.d at_314) (by decide) (by decide) k) ?_
                        show Go _ _ _ _ _ _ _ _ _ _ (mkF m 318 #[.val (.int p0), .val (.int p1), .val (.int p2), .val (.int p3), .val (.int p4), .val (.int p5), .val (.int l1), .val (.int l2), .val (.int m1), .val (.int m2), .val (.int n1), .val (.int n2), .val (.int e2), .val (.ref b1), .val (.int (((p5.toUInt32 >>> ((4 : Int32) &&& 31).toUInt32).toInt32) &&& (3 : Int32))), .val (.ref b12), .val (.int (1 : Int32)), .val (.ref b12), .val (.ref b1)] [(.int (1 : Int32))])
                        exact W.retN (by simp) at_318 (rfl) (by decide) (by decide)
                      · show Go _ _ _ _ _ _ _ _ _ _ (mkF m 308 #[.val (.int p0), .val (.int p1), .val (.int p2), .val (.int p3), .val (.int p4), .val (.int p5), .val (.int l1), .val (.int l2), .val (.int m1), .val (.int m2), .val (.int n1), .val (.int n2), .val (.int e2), .val (.ref b1), .val (.int (((p5.toUInt32 >>> ((4 : Int32) &&& 31).toUInt32).toInt32) &&& (3 : Int32))), .val (.ref b12), .val (.int (1 : Int32)), .val (.ref b12), .val (.ref b1)] [(.int (0 : Int32))])
                        refine Go.step (fun _ k => XS.iload W.here W.hx rfl (W.d at_308) rfl k) ?_
                        show Go _ _ _ _ _ _ _ _ _ _ (mkF m 310 #[.val (.int p0), .val (.int p1), .val (.int p2), .val (.int p3), .val (.int p4), .val (.int p5), .val (.int l1), .val (.int l2), .val (.int m1), .val (.int m2), .val (.int n1), .val (.int n2), .val (.int e2), .val (.ref b1), .val (.int (((p5.toUInt32 >>> ((4 : Int32) &&& 31).toUInt32).toInt32) &&& (3 : Int32))), .val (.ref b12), .val (.int (1 : Int32)), .val (.ref b12), .val (.ref b1)] [(.int (1 : Int32)), (.int (0 : Int32))])
                        refine Go.step (fun _ k => XS.icmpYes W.here W.hx rfl (pc0 := 310) (pc' := 317) rfl (W.d at_310) rfl (feq (by decide : ¬ ((0 : Int32) = (1 : Int32)))).2 (by decide) (by decide) k) ?_
                        show Go _ _ _ _ _ _ _ _ _ _ (mkF m 317 #[.val (.int p0), .val (.int p1), .val (.int p2), .val (.int p3), .val (.int p4), .val (.int p5), .val (.int l1), .val (.int l2), .val (.int m1), .val (.int m2), .val (.int n1), .val (.int n2), .val (.int e2), .val (.ref b1), .val (.int (((p5.toUInt32 >>> ((4 : Int32) &&& 31).toUInt32).toInt32) &&& (3 : Int32))), .val (.ref b12), .val (.int (1 : Int32)), .val (.ref b12), .val (.ref b1)] [])
                        refine Go.step (fun _ k => XS.iconst W.here W.hx rfl (W.d at_317) k) ?_
                        show Go _ _ _ _ _ _ _ _ _ _ (mkF m 318 #[.val (.int p0), .val (.int p1), .val (.int p2), .val (.int p3), .val (.int p4), .val (.int p5), .val (.int l1), .val (.int l2), .val (.int m1), .val (.int m2), .val (.int n1), .val (.int n2), .val (.int e2), .val (.ref b1), .val (.int (((p5.toUInt32 >>> ((4 : Int32) &&& 31).toUInt32).toInt32) &&& (3 : Int32))), .val (.ref b12), .val (.int (1 : Int32)), .val (.ref b12), .val (.ref b1)] [(.int (0 : Int32))])
                        exact absurd ⟨hz.1.symm, hz.2.1.symm, hz.2.2.1.symm, hz.2.2.2.symm⟩ hq17
                    · show Go _ _ _ _ _ _ _ _ _ _ (mkF m 296 #[.val (.int p0), .val (.int p1), .val (.int p2), .val (.int p3), .val (.int p4), .val (.int p5), .val (.int l1), .val (.int l2), .val (.int m1), .val (.int m2), .val (.int n1), .val (.int n2), .val (.int e2), .val (.ref b1), .val (.int (((p5.toUInt32 >>> ((4 : Int32) &&& 31).toUInt32).toInt32) &&& (3 : Int32))), .val (.ref b12), .val (.int (1 : Int32)), .val (.ref b12), .val (.ref b1)] [(.int (0 : Int32))])
                      refine Go.step (fun _ k => XS.iload W.here W.hx rfl (W.d at_296) rfl k) ?_
                      show Go _ _ _ _ _ _ _ _ _ _ (mkF m 298 #[.val (.int p0), .val (.int p1), .val (.int p2), .val (.int p3), .val (.int p4), .val (.int p5), .val (.int l1), .val (.int l2), .val (.int m1), .val (.int m2), .val (.int n1), .val (.int n2), .val (.int e2), .val (.ref b1), .val (.int (((p5.toUInt32 >>> ((4 : Int32) &&& 31).toUInt32).toInt32) &&& (3 : Int32))), .val (.ref b12), .val (.int (1 : Int32)), .val (.ref b12), .val (.ref b1)] [(.int (1 : Int32)), (.int (0 : Int32))])
                      refine Go.step (fun _ k => XS.icmpYes W.here W.hx rfl (pc0 := 298) (pc' := 317) rfl (W.d at_298) rfl (feq (by decide : ¬ ((0 : Int32) = (1 : Int32)))).2 (by decide) (by decide) k) ?_
                      show Go _ _ _ _ _ _ _ _ _ _ (mkF m 317 #[.val (.int p0), .val (.int p1), .val (.int p2), .val (.int p3), .val (.int p4), .val (.int p5), .val (.int l1), .val (.int l2), .val (.int m1), .val (.int m2), .val (.int n1), .val (.int n2), .val (.int e2), .val (.ref b1), .val (.int (((p5.toUInt32 >>> ((4 : Int32) &&& 31).toUInt32).toInt32) &&& (3 : Int32))), .val (.ref b12), .val (.int (1 : Int32)), .val (.ref b12), .val (.ref b1)] [])
                      refine Go.step (fun _ k => XS.iconst W.here W.hx rfl (W.d at_317) k) ?_
                      show Go _ _ _ _ _ _ _ _ _ _ (mkF m 318 #[.val (.int p0), .val (.int p1), .val (.int p2), .val (.int p3), .val (.int p4), .val (.int p5), .val (.int l1), .val (.int l2), .val (.int m1), .val (.int m2), .val (.int n1), .val (.int n2), .val (.int e2), .val (.ref b1), .val (.int (((p5.toUInt32 >>> ((4 : Int32) &&& 31).toUInt32).toInt32) &&& (3 : Int32))), .val (.ref b12), .val (.int (1 : Int32)), .val (.ref b12), .val (.ref b1)] [(.int (0 : Int32))])
                      exact absurd hz hq16
                  · show Go _ _ _ _ _ _ _ _ _ _ (mkF m 289 #[.val (.int p0), .val (.int p1), .val (.int p2), .val (.int p3), .val (.int p4), .val (.int p5), .val (.int l1), .val (.int l2), .val (.int m1), .val (.int m2), .val (.int n1), .val (.int n2), .val (.int e2), .val (.ref b1), .val (.int (((p5.toUInt32 >>> ((4 : Int32) &&& 31).toUInt32).toInt32) &&& (3 : Int32))), .val (.ref b12), .val (.int (0 : Int32)), .val (.ref b12), .val (.ref b1)] [])
                    refine Go.step (fun _ k => XS.aload W.here W.hx rfl (W.d at_289) rfl rfl k) ?_
                    show Go _ _ _ _ _ _ _ _ _ _ (mkF m 291 #[.val (.int p0), .val (.int p1), .val (.int p2), .val (.int p3), .val (.int p4), .val (.int p5), .val (.int l1), .val (.int l2), .val (.int m1), .val (.int m2), .val (.int n1), .val (.int n2), .val (.int e2), .val (.ref b1), .val (.int (((p5.toUInt32 >>> ((4 : Int32) &&& 31).toUInt32).toInt32) &&& (3 : Int32))), .val (.ref b12), .val (.int (0 : Int32)), .val (.ref b12), .val (.ref b1)] [(.ref b1)])
                    refine Go.step (fun _ k => XS.aload W.here W.hx rfl (W.d at_291) rfl rfl k) ?_
                    show Go _ _ _ _ _ _ _ _ _ _ (mkF m 293 #[.val (.int p0), .val (.int p1), .val (.int p2), .val (.int p3), .val (.int p4), .val (.int p5), .val (.int l1), .val (.int l2), .val (.int m1), .val (.int m2), .val (.int n1), .val (.int n2), .val (.int e2), .val (.ref b1), .val (.int (((p5.toUInt32 >>> ((4 : Int32) &&& 31).toUInt32).toInt32) &&& (3 : Int32))), .val (.ref b12), .val (.int (0 : Int32)), .val (.ref b12), .val (.ref b1)] [(.ref b12), (.ref b1)])
                    refine W.virtual (X.w 41 rfl) (X.w 42 rfl) (notFace_of_selects (args := #[]) (mvT W.hZ (X.w 44 rfl))) (X.w 44 rfl) (X.w 43 rfl) (X.w 2 rfl) (X.w 45 rfl) (by decide) (c_eq1 X b1 b12 b2 _ b3 _ b4 _ p3 b13 _ b14 _ b15 _ e2 _ W.ext Ab1 F_library_b1 Sb2 (one_txt _) F_sample_b1 Sb3 (one_txt _) F_label_b1 Sb4 (one_txt _) F_distance_b1 Ab12 F_library_b12 Sb13 (one_txt _) F_sample_b12 Sb14 (one_txt _) F_label_b12 Sb15 (one_txt _) F_distance_b12 ne_b1_b12) (by decide) (Wd := 0) (by decide) b1 Ab1 [(.ref b12)] [] rfl pd_7 rfl rfl rfl (Nat.le_of_eq rfl) at_293 (by decide) (by decide) ?_
                    intro v T h vm W hQ C
                    obtain ⟨hq18, rfl⟩ := hQ
                    rcases hq18 with ⟨rfl, hq18⟩ | ⟨rfl, hq18⟩
                    · show Go _ _ _ _ _ _ _ _ _ _ (mkF m 296 #[.val (.int p0), .val (.int p1), .val (.int p2), .val (.int p3), .val (.int p4), .val (.int p5), .val (.int l1), .val (.int l2), .val (.int m1), .val (.int m2), .val (.int n1), .val (.int n2), .val (.int e2), .val (.ref b1), .val (.int (((p5.toUInt32 >>> ((4 : Int32) &&& 31).toUInt32).toInt32) &&& (3 : Int32))), .val (.ref b12), .val (.int (0 : Int32)), .val (.ref b12), .val (.ref b1)] [(.int (1 : Int32))])
                      refine Go.step (fun _ k => XS.iload W.here W.hx rfl (W.d at_296) rfl k) ?_
                      show Go _ _ _ _ _ _ _ _ _ _ (mkF m 298 #[.val (.int p0), .val (.int p1), .val (.int p2), .val (.int p3), .val (.int p4), .val (.int p5), .val (.int l1), .val (.int l2), .val (.int m1), .val (.int m2), .val (.int n1), .val (.int n2), .val (.int e2), .val (.ref b1), .val (.int (((p5.toUInt32 >>> ((4 : Int32) &&& 31).toUInt32).toInt32) &&& (3 : Int32))), .val (.ref b12), .val (.int (0 : Int32)), .val (.ref b12), .val (.ref b1)] [(.int (0 : Int32)), (.int (1 : Int32))])
                      refine Go.step (fun _ k => XS.icmpYes W.here W.hx rfl (pc0 := 298) (pc' := 317) rfl (W.d at_298) rfl (feq (by decide : ¬ ((1 : Int32) = (0 : Int32)))).2 (by decide) (by decide) k) ?_
                      show Go _ _ _ _ _ _ _ _ _ _ (mkF m 317 #[.val (.int p0), .val (.int p1), .val (.int p2), .val (.int p3), .val (.int p4), .val (.int p5), .val (.int l1), .val (.int l2), .val (.int m1), .val (.int m2), .val (.int n1), .val (.int n2), .val (.int e2), .val (.ref b1), .val (.int (((p5.toUInt32 >>> ((4 : Int32) &&& 31).toUInt32).toInt32) &&& (3 : Int32))), .val (.ref b12), .val (.int (0 : Int32)), .val (.ref b12), .val (.ref b1)] [])
                      refine Go.step (fun _ k => XS.iconst W.here W.hx rfl (W.d at_317) k) ?_
                      show Go _ _ _ _ _ _ _ _ _ _ (mkF m 318 #[.val (.int p0), .val (.int p1), .val (.int p2), .val (.int p3), .val (.int p4), .val (.int p5), .val (.int l1), .val (.int l2), .val (.int m1), .val (.int m2), .val (.int n1), .val (.int n2), .val (.int e2), .val (.ref b1), .val (.int (((p5.toUInt32 >>> ((4 : Int32) &&& 31).toUInt32).toInt32) &&& (3 : Int32))), .val (.ref b12), .val (.int (0 : Int32)), .val (.ref b12), .val (.ref b1)] [(.int (0 : Int32))])
                      exact absurd hq18 hz
                    · show Go _ _ _ _ _ _ _ _ _ _ (mkF m 296 #[.val (.int p0), .val (.int p1), .val (.int p2), .val (.int p3), .val (.int p4), .val (.int p5), .val (.int l1), .val (.int l2), .val (.int m1), .val (.int m2), .val (.int n1), .val (.int n2), .val (.int e2), .val (.ref b1), .val (.int (((p5.toUInt32 >>> ((4 : Int32) &&& 31).toUInt32).toInt32) &&& (3 : Int32))), .val (.ref b12), .val (.int (0 : Int32)), .val (.ref b12), .val (.ref b1)] [(.int (0 : Int32))])
                      refine Go.step (fun _ k => XS.iload W.here W.hx rfl (W.d at_296) rfl k) ?_
                      show Go _ _ _ _ _ _ _ _ _ _ (mkF m 298 #[.val (.int p0), .val (.int p1), .val (.int p2), .val (.int p3), .val (.int p4), .val (.int p5), .val (.int l1), .val (.int l2), .val (.int m1), .val (.int m2), .val (.int n1), .val (.int n2), .val (.int e2), .val (.ref b1), .val (.int (((p5.toUInt32 >>> ((4 : Int32) &&& 31).toUInt32).toInt32) &&& (3 : Int32))), .val (.ref b12), .val (.int (0 : Int32)), .val (.ref b12), .val (.ref b1)] [(.int (0 : Int32)), (.int (0 : Int32))])
                      refine Go.step (fun _ k => XS.icmpNo W.here W.hx rfl (W.d at_298) rfl (teq (by decide : (0 : Int32) = (0 : Int32))).2 k) ?_
                      show Go _ _ _ _ _ _ _ _ _ _ (mkF m 301 #[.val (.int p0), .val (.int p1), .val (.int p2), .val (.int p3), .val (.int p4), .val (.int p5), .val (.int l1), .val (.int l2), .val (.int m1), .val (.int m2), .val (.int n1), .val (.int n2), .val (.int e2), .val (.ref b1), .val (.int (((p5.toUInt32 >>> ((4 : Int32) &&& 31).toUInt32).toInt32) &&& (3 : Int32))), .val (.ref b12), .val (.int (0 : Int32)), .val (.ref b12), .val (.ref b1)] [])
                      refine Go.step (fun _ k => XS.aload W.here W.hx rfl (W.d at_301) rfl rfl k) ?_
                      show Go _ _ _ _ _ _ _ _ _ _ (mkF m 303 #[.val (.int p0), .val (.int p1), .val (.int p2), .val (.int p3), .val (.int p4), .val (.int p5), .val (.int l1), .val (.int l2), .val (.int m1), .val (.int m2), .val (.int n1), .val (.int n2), .val (.int e2), .val (.ref b1), .val (.int (((p5.toUInt32 >>> ((4 : Int32) &&& 31).toUInt32).toInt32) &&& (3 : Int32))), .val (.ref b12), .val (.int (0 : Int32)), .val (.ref b12), .val (.ref b1)] [(.ref b12)])
                      refine Go.step (fun _ k => XS.aload W.here W.hx rfl (W.d at_303) rfl rfl k) ?_
                      show Go _ _ _ _ _ _ _ _ _ _ (mkF m 305 #[.val (.int p0), .val (.int p1), .val (.int p2), .val (.int p3), .val (.int p4), .val (.int p5), .val (.int l1), .val (.int l2), .val (.int m1), .val (.int m2), .val (.int n1), .val (.int n2), .val (.int e2), .val (.ref b1), .val (.int (((p5.toUInt32 >>> ((4 : Int32) &&& 31).toUInt32).toInt32) &&& (3 : Int32))), .val (.ref b12), .val (.int (0 : Int32)), .val (.ref b12), .val (.ref b1)] [(.ref b1), (.ref b12)])
                      refine W.virtual (X.w 41 rfl) (X.w 42 rfl) (notFace_of_selects (args := #[]) (mvT W.hZ (X.w 44 rfl))) (X.w 44 rfl) (X.w 43 rfl) (X.w 2 rfl) (X.w 45 rfl) (by decide) (c_eq1 X b12 b1 b13 _ b14 _ b15 _ e2 b2 _ b3 _ b4 _ p3 _ W.ext Ab12 F_library_b12 Sb13 (one_txt _) F_sample_b12 Sb14 (one_txt _) F_label_b12 Sb15 (one_txt _) F_distance_b12 Ab1 F_library_b1 Sb2 (one_txt _) F_sample_b1 Sb3 (one_txt _) F_label_b1 Sb4 (one_txt _) F_distance_b1 (Ne.symm ne_b1_b12)) (by decide) (Wd := 0) (by decide) b12 Ab12 [(.ref b1)] [] rfl pd_7 rfl rfl rfl (Nat.le_of_eq rfl) at_305 (by decide) (by decide) ?_
                      intro v T h vm W hQ C
                      obtain ⟨hq19, rfl⟩ := hQ
                      rcases hq19 with ⟨rfl, hq19⟩ | ⟨rfl, hq19⟩
                      · show Go _ _ _ _ _ _ _ _ _ _ (mkF m 308 #[.val (.int p0), .val (.int p1), .val (.int p2), .val (.int p3), .val (.int p4), .val (.int p5), .val (.int l1), .val (.int l2), .val (.int m1), .val (.int m2), .val (.int n1), .val (.int n2), .val (.int e2), .val (.ref b1), .val (.int (((p5.toUInt32 >>> ((4 : Int32) &&& 31).toUInt32).toInt32) &&& (3 : Int32))), .val (.ref b12), .val (.int (0 : Int32)), .val (.ref b12), .val (.ref b1)] [(.int (1 : Int32))])
                        refine Go.step (fun _ k => XS.iload W.here W.hx rfl (W.d at_308) rfl k) ?_
                        show Go _ _ _ _ _ _ _ _ _ _ (mkF m 310 #[.val (.int p0), .val (.int p1), .val (.int p2), .val (.int p3), .val (.int p4), .val (.int p5), .val (.int l1), .val (.int l2), .val (.int m1), .val (.int m2), .val (.int n1), .val (.int n2), .val (.int e2), .val (.ref b1), .val (.int (((p5.toUInt32 >>> ((4 : Int32) &&& 31).toUInt32).toInt32) &&& (3 : Int32))), .val (.ref b12), .val (.int (0 : Int32)), .val (.ref b12), .val (.ref b1)] [(.int (0 : Int32)), (.int (1 : Int32))])
                        refine Go.step (fun _ k => XS.icmpYes W.here W.hx rfl (pc0 := 310) (pc' := 317) rfl (W.d at_310) rfl (feq (by decide : ¬ ((1 : Int32) = (0 : Int32)))).2 (by decide) (by decide) k) ?_
                        show Go _ _ _ _ _ _ _ _ _ _ (mkF m 317 #[.val (.int p0), .val (.int p1), .val (.int p2), .val (.int p3), .val (.int p4), .val (.int p5), .val (.int l1), .val (.int l2), .val (.int m1), .val (.int m2), .val (.int n1), .val (.int n2), .val (.int e2), .val (.ref b1), .val (.int (((p5.toUInt32 >>> ((4 : Int32) &&& 31).toUInt32).toInt32) &&& (3 : Int32))), .val (.ref b12), .val (.int (0 : Int32)), .val (.ref b12), .val (.ref b1)] [])
                        refine Go.step (fun _ k => XS.iconst W.here W.hx rfl (W.d at_317) k) ?_
                        show Go _ _ _ _ _ _ _ _ _ _ (mkF m 318 #[.val (.int p0), .val (.int p1), .val (.int p2), .val (.int p3), .val (.int p4), .val (.int p5), .val (.int l1), .val (.int l2), .val (.int m1), .val (.int m2), .val (.int n1), .val (.int n2), .val (.int e2), .val (.ref b1), .val (.int (((p5.toUInt32 >>> ((4 : Int32) &&& 31).toUInt32).toInt32) &&& (3 : Int32))), .val (.ref b12), .val (.int (0 : Int32)), .val (.ref b12), .val (.ref b1)] [(.int (0 : Int32))])
                        exact absurd ⟨hq19.1.symm, hq19.2.1.symm, hq19.2.2.1.symm, hq19.2.2.2.symm⟩ hz
                      · show Go _ _ _ _ _ _ _ _ _ _ (mkF m 308 #[.val (.int p0), .val (.int p1), .val (.int p2), .val (.int p3), .val (.int p4), .val (.int p5), .val (.int l1), .val (.int l2), .val (.int m1), .val (.int m2), .val (.int n1), .val (.int n2), .val (.int e2), .val (.ref b1), .val (.int (((p5.toUInt32 >>> ((4 : Int32) &&& 31).toUInt32).toInt32) &&& (3 : Int32))), .val (.ref b12), .val (.int (0 : Int32)), .val (.ref b12), .val (.ref b1)] [(.int (0 : Int32))])
                        refine Go.step (fun _ k => XS.iload W.here W.hx rfl (W.d at_308) rfl k) ?_
                        show Go _ _ _ _ _ _ _ _ _ _ (mkF m 310 #[.val (.int p0), .val (.int p1), .val (.int p2), .val (.int p3), .val (.int p4), .val (.int p5), .val (.int l1), .val (.int l2), .val (.int m1), .val (.int m2), .val (.int n1), .val (.int n2), .val (.int e2), .val (.ref b1), .val (.int (((p5.toUInt32 >>> ((4 : Int32) &&& 31).toUInt32).toInt32) &&& (3 : Int32))), .val (.ref b12), .val (.int (0 : Int32)), .val (.ref b12), .val (.ref b1)] [(.int (0 : Int32)), (.int (0 : Int32))])
                        refine Go.step (fun _ k => XS.icmpNo W.here W.hx rfl (W.d at_310) rfl (teq (by decide : (0 : Int32) = (0 : Int32))).2 k) ?_
                        show Go _ _ _ _ _ _ _ _ _ _ (mkF m 313 #[.val (.int p0), .val (.int p1), .val (.int p2), .val (.int p3), .val (.int p4), .val (.int p5), .val (.int l1), .val (.int l2), .val (.int m1), .val (.int m2), .val (.int n1), .val (.int n2), .val (.int e2), .val (.ref b1), .val (.int (((p5.toUInt32 >>> ((4 : Int32) &&& 31).toUInt32).toInt32) &&& (3 : Int32))), .val (.ref b12), .val (.int (0 : Int32)), .val (.ref b12), .val (.ref b1)] [])
                        refine Go.step (fun _ k => XS.iconst W.here W.hx rfl (W.d at_313) k) ?_
                        show Go _ _ _ _ _ _ _ _ _ _ (mkF m 314 #[.val (.int p0), .val (.int p1), .val (.int p2), .val (.int p3), .val (.int p4), .val (.int p5), .val (.int l1), .val (.int l2), .val (.int m1), .val (.int m2), .val (.int n1), .val (.int n2), .val (.int e2), .val (.ref b1), .val (.int (((p5.toUInt32 >>> ((4 : Int32) &&& 31).toUInt32).toInt32) &&& (3 : Int32))), .val (.ref b12), .val (.int (0 : Int32)), .val (.ref b12), .val (.ref b1)] [(.int (1 : Int32))])
                        refine Go.step (fun _ k => XS.goto W.here W.hx rfl (pc0 := 314) (pc' := 318) rfl (W.d at_314) (by decide) (by decide) k) ?_
                        show Go _ _ _ _ _ _ _ _ _ _ (mkF m 318 #[.val (.int p0), .val (.int p1), .val (.int p2), .val (.int p3), .val (.int p4), .val (.int p5), .val (.int l1), .val (.int l2), .val (.int m1), .val (.int m2), .val (.int n1), .val (.int n2), .val (.int e2), .val (.ref b1), .val (.int (((p5.toUInt32 >>> ((4 : Int32) &&& 31).toUInt32).toInt32) &&& (3 : Int32))), .val (.ref b12), .val (.int (0 : Int32)), .val (.ref b12), .val (.ref b1)] [(.int (1 : Int32))])
                        exact W.retN (by simp) at_318 (rfl) (by decide) (by decide)
                refine Go.step (fun _ k => XS.iload W.here W.hx rfl (W.d at_229) rfl k) ?_
                show Go _ _ _ _ _ _ _ _ _ _ (mkF m 231 #[.val (.int p0), .val (.int p1), .val (.int p2), .val (.int p3), .val (.int p4), .val (.int p5), .val (.int l1), .val (.int l2), .val (.int m1), .val (.int m2), .val (.int n1), .val (.int n2), .val (.int e2), .val (.ref b1), .val (.int (((p5.toUInt32 >>> ((4 : Int32) &&& 31).toUInt32).toInt32) &&& (3 : Int32))), .val (.ref b12), .unset, .unset, .unset] [(.int l1)])
                refine W.callS (X.w 46 rfl) (X.w 47 rfl) (X.w 5 rfl) (X.w 48 rfl) (by decide) (c_key X l1 _ W.ext) (by decide) (Wd := 0) (by decide) [(.int l1)] [] rfl pd_10 rfl rfl rfl (Nat.le_of_eq rfl) at_231 (by decide) (by decide) ?_
                intro v T h vm W hQ C
                obtain ⟨rfl, rfl⟩ := hQ
                show Go _ _ _ _ _ _ _ _ _ _ (mkF m 234 #[.val (.int p0), .val (.int p1), .val (.int p2), .val (.int p3), .val (.int p4), .val (.int p5), .val (.int l1), .val (.int l2), .val (.int m1), .val (.int m2), .val (.int n1), .val (.int n2), .val (.int e2), .val (.ref b1), .val (.int (((p5.toUInt32 >>> ((4 : Int32) &&& 31).toUInt32).toInt32) &&& (3 : Int32))), .val (.ref b12), .unset, .unset, .unset] [(.int (keyOf l1))])
                refine Go.step (fun _ k => XS.iload W.here W.hx rfl (W.d at_234) rfl k) ?_
                show Go _ _ _ _ _ _ _ _ _ _ (mkF m 236 #[.val (.int p0), .val (.int p1), .val (.int p2), .val (.int p3), .val (.int p4), .val (.int p5), .val (.int l1), .val (.int l2), .val (.int m1), .val (.int m2), .val (.int n1), .val (.int n2), .val (.int e2), .val (.ref b1), .val (.int (((p5.toUInt32 >>> ((4 : Int32) &&& 31).toUInt32).toInt32) &&& (3 : Int32))), .val (.ref b12), .unset, .unset, .unset] [(.int l2), (.int (keyOf l1))])
                refine W.callS (X.w 46 rfl) (X.w 47 rfl) (X.w 5 rfl) (X.w 48 rfl) (by decide) (c_key X l2 _ W.ext) (by decide) (Wd := 1) (by decide) [(.int l2)] [(.int (keyOf l1))] rfl pd_10 rfl rfl rfl (Nat.le_of_eq rfl) at_236 (by decide) (by decide) ?_
                intro v T h vm W hQ C
                obtain ⟨rfl, rfl⟩ := hQ
                show Go _ _ _ _ _ _ _ _ _ _ (mkF m 239 #[.val (.int p0), .val (.int p1), .val (.int p2), .val (.int p3), .val (.int p4), .val (.int p5), .val (.int l1), .val (.int l2), .val (.int m1), .val (.int m2), .val (.int n1), .val (.int n2), .val (.int e2), .val (.ref b1), .val (.int (((p5.toUInt32 >>> ((4 : Int32) &&& 31).toUInt32).toInt32) &&& (3 : Int32))), .val (.ref b12), .unset, .unset, .unset] [(.int (keyOf l2)), (.int (keyOf l1))])
                by_cases hc20 : (keyOf l1) = (keyOf l2)
                · refine Go.step (fun _ k => XS.icmpNo W.here W.hx rfl (W.d at_239) rfl (teq hc20).2 k) ?_
                  show Go _ _ _ _ _ _ _ _ _ _ (mkF m 242 #[.val (.int p0), .val (.int p1), .val (.int p2), .val (.int p3), .val (.int p4), .val (.int p5), .val (.int l1), .val (.int l2), .val (.int m1), .val (.int m2), .val (.int n1), .val (.int n2), .val (.int e2), .val (.ref b1), .val (.int (((p5.toUInt32 >>> ((4 : Int32) &&& 31).toUInt32).toInt32) &&& (3 : Int32))), .val (.ref b12), .unset, .unset, .unset] [])
                  refine Go.step (fun _ k => XS.iload W.here W.hx rfl (W.d at_242) rfl k) ?_
                  show Go _ _ _ _ _ _ _ _ _ _ (mkF m 244 #[.val (.int p0), .val (.int p1), .val (.int p2), .val (.int p3), .val (.int p4), .val (.int p5), .val (.int l1), .val (.int l2), .val (.int m1), .val (.int m2), .val (.int n1), .val (.int n2), .val (.int e2), .val (.ref b1), .val (.int (((p5.toUInt32 >>> ((4 : Int32) &&& 31).toUInt32).toInt32) &&& (3 : Int32))), .val (.ref b12), .unset, .unset, .unset] [(.int m1)])
                  refine W.callS (X.w 46 rfl) (X.w 47 rfl) (X.w 5 rfl) (X.w 48 rfl) (by decide) (c_key X m1 _ W.ext) (by decide) (Wd := 0) (by decide) [(.int m1)] [] rfl pd_10 rfl rfl rfl (Nat.le_of_eq rfl) at_244 (by decide) (by decide) ?_
                  intro v T h vm W hQ C
                  obtain ⟨rfl, rfl⟩ := hQ
                  show Go _ _ _ _ _ _ _ _ _ _ (mkF m 247 #[.val (.int p0), .val (.int p1), .val (.int p2), .val (.int p3), .val (.int p4), .val (.int p5), .val (.int l1), .val (.int l2), .val (.int m1), .val (.int m2), .val (.int n1), .val (.int n2), .val (.int e2), .val (.ref b1), .val (.int (((p5.toUInt32 >>> ((4 : Int32) &&& 31).toUInt32).toInt32) &&& (3 : Int32))), .val (.ref b12), .unset, .unset, .unset] [(.int (keyOf m1))])
                  refine Go.step (fun _ k => XS.iload W.here W.hx rfl (W.d at_247) rfl k) ?_
                  show Go _ _ _ _ _ _ _ _ _ _ (mkF m 249 #[.val (.int p0), .val (.int p1), .val (.int p2), .val (.int p3), .val (.int p4), .val (.int p5), .val (.int l1), .val (.int l2), .val (.int m1), .val (.int m2), .val (.int n1), .val (.int n2), .val (.int e2), .val (.ref b1), .val (.int (((p5.toUInt32 >>> ((4 : Int32) &&& 31).toUInt32).toInt32) &&& (3 : Int32))), .val (.ref b12), .unset, .unset, .unset] [(.int m2), (.int (keyOf m1))])
                  refine W.callS (X.w 46 rfl) (X.w 47 rfl) (X.w 5 rfl) (X.w 48 rfl) (by decide) (c_key X m2 _ W.ext) (by decide) (Wd := 1) (by decide) [(.int m2)] [(.int (keyOf m1))] rfl pd_10 rfl rfl rfl (Nat.le_of_eq rfl) at_249 (by decide) (by decide) ?_
                  intro v T h vm W hQ C
                  obtain ⟨rfl, rfl⟩ := hQ
                  show Go _ _ _ _ _ _ _ _ _ _ (mkF m 252 #[.val (.int p0), .val (.int p1), .val (.int p2), .val (.int p3), .val (.int p4), .val (.int p5), .val (.int l1), .val (.int l2), .val (.int m1), .val (.int m2), .val (.int n1), .val (.int n2), .val (.int e2), .val (.ref b1), .val (.int (((p5.toUInt32 >>> ((4 : Int32) &&& 31).toUInt32).toInt32) &&& (3 : Int32))), .val (.ref b12), .unset, .unset, .unset] [(.int (keyOf m2)), (.int (keyOf m1))])
                  by_cases hc21 : (keyOf m1) = (keyOf m2)
                  · refine Go.step (fun _ k => XS.icmpNo W.here W.hx rfl (W.d at_252) rfl (teq hc21).2 k) ?_
                    show Go _ _ _ _ _ _ _ _ _ _ (mkF m 255 #[.val (.int p0), .val (.int p1), .val (.int p2), .val (.int p3), .val (.int p4), .val (.int p5), .val (.int l1), .val (.int l2), .val (.int m1), .val (.int m2), .val (.int n1), .val (.int n2), .val (.int e2), .val (.ref b1), .val (.int (((p5.toUInt32 >>> ((4 : Int32) &&& 31).toUInt32).toInt32) &&& (3 : Int32))), .val (.ref b12), .unset, .unset, .unset] [])
                    refine Go.step (fun _ k => XS.iload W.here W.hx rfl (W.d at_255) rfl k) ?_
                    show Go _ _ _ _ _ _ _ _ _ _ (mkF m 257 #[.val (.int p0), .val (.int p1), .val (.int p2), .val (.int p3), .val (.int p4), .val (.int p5), .val (.int l1), .val (.int l2), .val (.int m1), .val (.int m2), .val (.int n1), .val (.int n2), .val (.int e2), .val (.ref b1), .val (.int (((p5.toUInt32 >>> ((4 : Int32) &&& 31).toUInt32).toInt32) &&& (3 : Int32))), .val (.ref b12), .unset, .unset, .unset] [(.int n1)])
                    refine W.callS (X.w 46 rfl) (X.w 47 rfl) (X.w 5 rfl) (X.w 48 rfl) (by decide) (c_key X n1 _ W.ext) (by decide) (Wd := 0) (by decide) [(.int n1)] [] rfl pd_10 rfl rfl rfl (Nat.le_of_eq rfl) at_257 (by decide) (by decide) ?_
                    intro v T h vm W hQ C
                    obtain ⟨rfl, rfl⟩ := hQ
                    show Go _ _ _ _ _ _ _ _ _ _ (mkF m 260 #[.val (.int p0), .val (.int p1), .val (.int p2), .val (.int p3), .val (.int p4), .val (.int p5), .val (.int l1), .val (.int l2), .val (.int m1), .val (.int m2), .val (.int n1), .val (.int n2), .val (.int e2), .val (.ref b1), .val (.int (((p5.toUInt32 >>> ((4 : Int32) &&& 31).toUInt32).toInt32) &&& (3 : Int32))), .val (.ref b12), .unset, .unset, .unset] [(.int (keyOf n1))])
                    refine Go.step (fun _ k => XS.iload W.here W.hx rfl (W.d at_260) rfl k) ?_
                    show Go _ _ _ _ _ _ _ _ _ _ (mkF m 262 #[.val (.int p0), .val (.int p1), .val (.int p2), .val (.int p3), .val (.int p4), .val (.int p5), .val (.int l1), .val (.int l2), .val (.int m1), .val (.int m2), .val (.int n1), .val (.int n2), .val (.int e2), .val (.ref b1), .val (.int (((p5.toUInt32 >>> ((4 : Int32) &&& 31).toUInt32).toInt32) &&& (3 : Int32))), .val (.ref b12), .unset, .unset, .unset] [(.int n2), (.int (keyOf n1))])
                    refine W.callS (X.w 46 rfl) (X.w 47 rfl) (X.w 5 rfl) (X.w 48 rfl) (by decide) (c_key X n2 _ W.ext) (by decide) (Wd := 1) (by decide) [(.int n2)] [(.int (keyOf n1))] rfl pd_10 rfl rfl rfl (Nat.le_of_eq rfl) at_262 (by decide) (by decide) ?_
                    intro v T h vm W hQ C
                    obtain ⟨rfl, rfl⟩ := hQ
                    show Go _ _ _ _ _ _ _ _ _ _ (mkF m 265 #[.val (.int p0), .val (.int p1), .val (.int p2), .val (.int p3), .val (.int p4), .val (.int p5), .val (.int l1), .val (.int l2), .val (.int m1), .val (.int m2), .val (.int n1), .val (.int n2), .val (.int e2), .val (.ref b1), .val (.int (((p5.toUInt32 >>> ((4 : Int32) &&& 31).toUInt32).toInt32) &&& (3 : Int32))), .val (.ref b12), .unset, .unset, .unset] [(.int (keyOf n2)), (.int (keyOf n1))])
                    by_cases hc22 : (keyOf n1) = (keyOf n2)
                    · refine Go.step (fun _ k => XS.icmpNo W.here W.hx rfl (W.d at_265) rfl (teq hc22).2 k) ?_
                      show Go _ _ _ _ _ _ _ _ _ _ (mkF m 268 #[.val (.int p0), .val (.int p1), .val (.int p2), .val (.int p3), .val (.int p4), .val (.int p5), .val (.int l1), .val (.int l2), .val (.int m1), .val (.int m2), .val (.int n1), .val (.int n2), .val (.int e2), .val (.ref b1), .val (.int (((p5.toUInt32 >>> ((4 : Int32) &&& 31).toUInt32).toInt32) &&& (3 : Int32))), .val (.ref b12), .unset, .unset, .unset] [])
                      refine Go.step (fun _ k => XS.iloadN W.here W.hx rfl (W.d at_268) rfl k) ?_
                      show Go _ _ _ _ _ _ _ _ _ _ (mkF m 269 #[.val (.int p0), .val (.int p1), .val (.int p2), .val (.int p3), .val (.int p4), .val (.int p5), .val (.int l1), .val (.int l2), .val (.int m1), .val (.int m2), .val (.int n1), .val (.int n2), .val (.int e2), .val (.ref b1), .val (.int (((p5.toUInt32 >>> ((4 : Int32) &&& 31).toUInt32).toInt32) &&& (3 : Int32))), .val (.ref b12), .unset, .unset, .unset] [(.int p3)])
                      refine Go.step (fun _ k => XS.iload W.here W.hx rfl (W.d at_269) rfl k) ?_
                      show Go _ _ _ _ _ _ _ _ _ _ (mkF m 271 #[.val (.int p0), .val (.int p1), .val (.int p2), .val (.int p3), .val (.int p4), .val (.int p5), .val (.int l1), .val (.int l2), .val (.int m1), .val (.int m2), .val (.int n1), .val (.int n2), .val (.int e2), .val (.ref b1), .val (.int (((p5.toUInt32 >>> ((4 : Int32) &&& 31).toUInt32).toInt32) &&& (3 : Int32))), .val (.ref b12), .unset, .unset, .unset] [(.int e2), (.int p3)])
                      by_cases hc23 : p3 = e2
                      · refine Go.step (fun _ k => XS.icmpNo W.here W.hx rfl (W.d at_271) rfl (teq hc23).2 k) ?_
                        show Go _ _ _ _ _ _ _ _ _ _ (mkF m 274 #[.val (.int p0), .val (.int p1), .val (.int p2), .val (.int p3), .val (.int p4), .val (.int p5), .val (.int l1), .val (.int l2), .val (.int m1), .val (.int m2), .val (.int n1), .val (.int n2), .val (.int e2), .val (.ref b1), .val (.int (((p5.toUInt32 >>> ((4 : Int32) &&& 31).toUInt32).toInt32) &&& (3 : Int32))), .val (.ref b12), .unset, .unset, .unset] [])
                        refine Go.step (fun _ k => XS.iconst W.here W.hx rfl (W.d at_274) k) ?_
                        show Go _ _ _ _ _ _ _ _ _ _ (mkF m 275 #[.val (.int p0), .val (.int p1), .val (.int p2), .val (.int p3), .val (.int p4), .val (.int p5), .val (.int l1), .val (.int l2), .val (.int m1), .val (.int m2), .val (.int n1), .val (.int n2), .val (.int e2), .val (.ref b1), .val (.int (((p5.toUInt32 >>> ((4 : Int32) &&& 31).toUInt32).toInt32) &&& (3 : Int32))), .val (.ref b12), .unset, .unset, .unset] [(.int (1 : Int32))])
                        refine Go.step (fun _ k => XS.goto W.here W.hx rfl (pc0 := 275) (pc' := 279) rfl (W.d at_275) (by decide) (by decide) k) ?_
                        show Go _ _ _ _ _ _ _ _ _ _ (mkF m 279 #[.val (.int p0), .val (.int p1), .val (.int p2), .val (.int p3), .val (.int p4), .val (.int p5), .val (.int l1), .val (.int l2), .val (.int m1), .val (.int m2), .val (.int n1), .val (.int n2), .val (.int e2), .val (.ref b1), .val (.int (((p5.toUInt32 >>> ((4 : Int32) &&& 31).toUInt32).toInt32) &&& (3 : Int32))), .val (.ref b12), .unset, .unset, .unset] [(.int (1 : Int32))])
                        exact J279 _ _ _ W (Or.inl ⟨rfl, ⟨(key_txt _ _).mp hc20, (key_txt _ _).mp hc21, (key_txt _ _).mp hc22, hc23⟩⟩)
                      · refine Go.step (fun _ k => XS.icmpYes W.here W.hx rfl (pc0 := 271) (pc' := 278) rfl (W.d at_271) rfl (feq hc23).2 (by decide) (by decide) k) ?_
                        show Go _ _ _ _ _ _ _ _ _ _ (mkF m 278 #[.val (.int p0), .val (.int p1), .val (.int p2), .val (.int p3), .val (.int p4), .val (.int p5), .val (.int l1), .val (.int l2), .val (.int m1), .val (.int m2), .val (.int n1), .val (.int n2), .val (.int e2), .val (.ref b1), .val (.int (((p5.toUInt32 >>> ((4 : Int32) &&& 31).toUInt32).toInt32) &&& (3 : Int32))), .val (.ref b12), .unset, .unset, .unset] [])
                        refine Go.step (fun _ k => XS.iconst W.here W.hx rfl (W.d at_278) k) ?_
                        show Go _ _ _ _ _ _ _ _ _ _ (mkF m 279 #[.val (.int p0), .val (.int p1), .val (.int p2), .val (.int p3), .val (.int p4), .val (.int p5), .val (.int l1), .val (.int l2), .val (.int m1), .val (.int m2), .val (.int n1), .val (.int n2), .val (.int e2), .val (.ref b1), .val (.int (((p5.toUInt32 >>> ((4 : Int32) &&& 31).toUInt32).toInt32) &&& (3 : Int32))), .val (.ref b12), .unset, .unset, .unset] [(.int (0 : Int32))])
                        exact J279 _ _ _ W (Or.inr ⟨rfl, fun q => hc23 (q.2.2.2)⟩)
                    · refine Go.step (fun _ k => XS.icmpYes W.here W.hx rfl (pc0 := 265) (pc' := 278) rfl (W.d at_265) rfl (feq hc22).2 (by decide) (by decide) k) ?_
                      show Go _ _ _ _ _ _ _ _ _ _ (mkF m 278 #[.val (.int p0), .val (.int p1), .val (.int p2), .val (.int p3), .val (.int p4), .val (.int p5), .val (.int l1), .val (.int l2), .val (.int m1), .val (.int m2), .val (.int n1), .val (.int n2), .val (.int e2), .val (.ref b1), .val (.int (((p5.toUInt32 >>> ((4 : Int32) &&& 31).toUInt32).toInt32) &&& (3 : Int32))), .val (.ref b12), .unset, .unset, .unset] [])
                      refine Go.step (fun _ k => XS.iconst W.here W.hx rfl (W.d at_278) k) ?_
                      show Go _ _ _ _ _ _ _ _ _ _ (mkF m 279 #[.val (.int p0), .val (.int p1), .val (.int p2), .val (.int p3), .val (.int p4), .val (.int p5), .val (.int l1), .val (.int l2), .val (.int m1), .val (.int m2), .val (.int n1), .val (.int n2), .val (.int e2), .val (.ref b1), .val (.int (((p5.toUInt32 >>> ((4 : Int32) &&& 31).toUInt32).toInt32) &&& (3 : Int32))), .val (.ref b12), .unset, .unset, .unset] [(.int (0 : Int32))])
                      exact J279 _ _ _ W (Or.inr ⟨rfl, fun q => hc22 ((key_txt _ _).mpr q.2.2.1)⟩)
                  · refine Go.step (fun _ k => XS.icmpYes W.here W.hx rfl (pc0 := 252) (pc' := 278) rfl (W.d at_252) rfl (feq hc21).2 (by decide) (by decide) k) ?_
                    show Go _ _ _ _ _ _ _ _ _ _ (mkF m 278 #[.val (.int p0), .val (.int p1), .val (.int p2), .val (.int p3), .val (.int p4), .val (.int p5), .val (.int l1), .val (.int l2), .val (.int m1), .val (.int m2), .val (.int n1), .val (.int n2), .val (.int e2), .val (.ref b1), .val (.int (((p5.toUInt32 >>> ((4 : Int32) &&& 31).toUInt32).toInt32) &&& (3 : Int32))), .val (.ref b12), .unset, .unset, .unset] [])
                    refine Go.step (fun _ k => XS.iconst W.here W.hx rfl (W.d at_278) k) ?_
                    show Go _ _ _ _ _ _ _ _ _ _ (mkF m 279 #[.val (.int p0), .val (.int p1), .val (.int p2), .val (.int p3), .val (.int p4), .val (.int p5), .val (.int l1), .val (.int l2), .val (.int m1), .val (.int m2), .val (.int n1), .val (.int n2), .val (.int e2), .val (.ref b1), .val (.int (((p5.toUInt32 >>> ((4 : Int32) &&& 31).toUInt32).toInt32) &&& (3 : Int32))), .val (.ref b12), .unset, .unset, .unset] [(.int (0 : Int32))])
                    exact J279 _ _ _ W (Or.inr ⟨rfl, fun q => hc21 ((key_txt _ _).mpr q.2.1)⟩)
                · refine Go.step (fun _ k => XS.icmpYes W.here W.hx rfl (pc0 := 239) (pc' := 278) rfl (W.d at_239) rfl (feq hc20).2 (by decide) (by decide) k) ?_
                  show Go _ _ _ _ _ _ _ _ _ _ (mkF m 278 #[.val (.int p0), .val (.int p1), .val (.int p2), .val (.int p3), .val (.int p4), .val (.int p5), .val (.int l1), .val (.int l2), .val (.int m1), .val (.int m2), .val (.int n1), .val (.int n2), .val (.int e2), .val (.ref b1), .val (.int (((p5.toUInt32 >>> ((4 : Int32) &&& 31).toUInt32).toInt32) &&& (3 : Int32))), .val (.ref b12), .unset, .unset, .unset] [])
                  refine Go.step (fun _ k => XS.iconst W.here W.hx rfl (W.d at_278) k) ?_
                  show Go _ _ _ _ _ _ _ _ _ _ (mkF m 279 #[.val (.int p0), .val (.int p1), .val (.int p2), .val (.int p3), .val (.int p4), .val (.int p5), .val (.int l1), .val (.int l2), .val (.int m1), .val (.int m2), .val (.int n1), .val (.int n2), .val (.int e2), .val (.ref b1), .val (.int (((p5.toUInt32 >>> ((4 : Int32) &&& 31).toUInt32).toInt32) &&& (3 : Int32))), .val (.ref b12), .unset, .unset, .unset] [(.int (0 : Int32))])
                  exact J279 _ _ _ W (Or.inr ⟨rfl, fun q => hc20 ((key_txt _ _).mpr q.1)⟩)
        refine Go.step (fun _ k => XS.iload W.here W.hx rfl (W.d at_87) rfl k) ?_
        show Go _ _ _ _ _ _ _ _ _ _ (mkF m 89 #[.val (.int p0), .val (.int p1), .val (.int p2), .val (.int p3), .val (.int p4), .val (.int p5), .val (.int l1), .val (.int l2), .val (.int m1), .val (.int m2), .val (.int n1), .val (.int n2), .unset, .unset, .unset, .unset, .unset, .unset, .unset] [(.int p5)])
        refine Go.step (fun _ k => XS.bipush W.here W.hx rfl (W.d at_89) k) ?_
        show Go _ _ _ _ _ _ _ _ _ _ (mkF m 91 #[.val (.int p0), .val (.int p1), .val (.int p2), .val (.int p3), .val (.int p4), .val (.int p5), .val (.int l1), .val (.int l2), .val (.int m1), .val (.int m2), .val (.int n1), .val (.int n2), .unset, .unset, .unset, .unset, .unset, .unset, .unset] [(.int (8 : Int32)), (.int p5)])
        refine Go.step (fun _ k => XS.iand W.here W.hx rfl (W.d at_91) rfl k) ?_
        show Go _ _ _ _ _ _ _ _ _ _ (mkF m 92 #[.val (.int p0), .val (.int p1), .val (.int p2), .val (.int p3), .val (.int p4), .val (.int p5), .val (.int l1), .val (.int l2), .val (.int m1), .val (.int m2), .val (.int n1), .val (.int n2), .unset, .unset, .unset, .unset, .unset, .unset, .unset] [(.int (p5 &&& (8 : Int32)))])
        by_cases hc24 : (p5 &&& (8 : Int32)) = (0 : Int32)
        · refine Go.step (fun _ k => XS.ifYes W.here W.hx rfl (pc0 := 92) (pc' := 99) rfl (W.d at_92) rfl ((if0 _ _).trans (teq hc24).1) (by decide) (by decide) k) ?_
          show Go _ _ _ _ _ _ _ _ _ _ (mkF m 99 #[.val (.int p0), .val (.int p1), .val (.int p2), .val (.int p3), .val (.int p4), .val (.int p5), .val (.int l1), .val (.int l2), .val (.int m1), .val (.int m2), .val (.int n1), .val (.int n2), .unset, .unset, .unset, .unset, .unset, .unset, .unset] [])
          refine Go.step (fun _ k => XS.iload W.here W.hx rfl (W.d at_99) rfl k) ?_
          show Go _ _ _ _ _ _ _ _ _ _ (mkF m 101 #[.val (.int p0), .val (.int p1), .val (.int p2), .val (.int p3), .val (.int p4), .val (.int p5), .val (.int l1), .val (.int l2), .val (.int m1), .val (.int m2), .val (.int n1), .val (.int n2), .unset, .unset, .unset, .unset, .unset, .unset, .unset] [(.int p4)])
          exact J101 _ _ _ W trivial
        · refine Go.step (fun _ k => XS.ifNo W.here W.hx rfl (W.d at_92) rfl ((if0 _ _).trans (feq hc24).1) k) ?_
          show Go _ _ _ _ _ _ _ _ _ _ (mkF m 95 #[.val (.int p0), .val (.int p1), .val (.int p2), .val (.int p3), .val (.int p4), .val (.int p5), .val (.int l1), .val (.int l2), .val (.int m1), .val (.int m2), .val (.int n1), .val (.int n2), .unset, .unset, .unset, .unset, .unset, .unset, .unset] [])
          refine Go.step (fun _ k => XS.iloadN W.here W.hx rfl (W.d at_95) rfl k) ?_
          show Go _ _ _ _ _ _ _ _ _ _ (mkF m 96 #[.val (.int p0), .val (.int p1), .val (.int p2), .val (.int p3), .val (.int p4), .val (.int p5), .val (.int l1), .val (.int l2), .val (.int m1), .val (.int m2), .val (.int n1), .val (.int n2), .unset, .unset, .unset, .unset, .unset, .unset, .unset] [(.int p3)])
          refine Go.step (fun _ k => XS.goto W.here W.hx rfl (pc0 := 96) (pc' := 101) rfl (W.d at_96) (by decide) (by decide) k) ?_
          show Go _ _ _ _ _ _ _ _ _ _ (mkF m 101 #[.val (.int p0), .val (.int p1), .val (.int p2), .val (.int p3), .val (.int p4), .val (.int p5), .val (.int l1), .val (.int l2), .val (.int m1), .val (.int m2), .val (.int n1), .val (.int n2), .unset, .unset, .unset, .unset, .unset, .unset, .unset] [(.int p3)])
          exact J101 _ _ _ W trivial
      refine Go.step (fun _ k => XS.iload W.here W.hx rfl (W.d at_65) rfl k) ?_
      show Go _ _ _ _ _ _ _ _ _ _ (mkF m 67 #[.val (.int p0), .val (.int p1), .val (.int p2), .val (.int p3), .val (.int p4), .val (.int p5), .val (.int l1), .val (.int l2), .val (.int m1), .val (.int m2), .val (.int n1), .unset, .unset, .unset, .unset, .unset, .unset, .unset, .unset] [(.int p5)])
      refine Go.step (fun _ k => XS.iconst W.here W.hx rfl (W.d at_67) k) ?_
      show Go _ _ _ _ _ _ _ _ _ _ (mkF m 68 #[.val (.int p0), .val (.int p1), .val (.int p2), .val (.int p3), .val (.int p4), .val (.int p5), .val (.int l1), .val (.int l2), .val (.int m1), .val (.int m2), .val (.int n1), .unset, .unset, .unset, .unset, .unset, .unset, .unset, .unset] [(.int (4 : Int32)), (.int p5)])
      refine Go.step (fun _ k => XS.iand W.here W.hx rfl (W.d at_68) rfl k) ?_
      show Go _ _ _ _ _ _ _ _ _ _ (mkF m 69 #[.val (.int p0), .val (.int p1), .val (.int p2), .val (.int p3), .val (.int p4), .val (.int p5), .val (.int l1), .val (.int l2), .val (.int m1), .val (.int m2), .val (.int n1), .unset, .unset, .unset, .unset, .unset, .unset, .unset, .unset] [(.int (p5 &&& (4 : Int32)))])
      by_cases hc25 : (p5 &&& (4 : Int32)) = (0 : Int32)
      · refine Go.step (fun _ k => XS.ifYes W.here W.hx rfl (pc0 := 69) (pc' := 77) rfl (W.d at_69) rfl ((if0 _ _).trans (teq hc25).1) (by decide) (by decide) k) ?_
        show Go _ _ _ _ _ _ _ _ _ _ (mkF m 77 #[.val (.int p0), .val (.int p1), .val (.int p2), .val (.int p3), .val (.int p4), .val (.int p5), .val (.int l1), .val (.int l2), .val (.int m1), .val (.int m2), .val (.int n1), .unset, .unset, .unset, .unset, .unset, .unset, .unset, .unset] [])
        refine Go.step (fun _ k => XS.iloadN W.here W.hx rfl (W.d at_77) rfl k) ?_
        show Go _ _ _ _ _ _ _ _ _ _ (mkF m 78 #[.val (.int p0), .val (.int p1), .val (.int p2), .val (.int p3), .val (.int p4), .val (.int p5), .val (.int l1), .val (.int l2), .val (.int m1), .val (.int m2), .val (.int n1), .unset, .unset, .unset, .unset, .unset, .unset, .unset, .unset] [(.int p2)])
        refine Go.step (fun _ k => XS.bipush W.here W.hx rfl (W.d at_78) k) ?_
        show Go _ _ _ _ _ _ _ _ _ _ (mkF m 80 #[.val (.int p0), .val (.int p1), .val (.int p2), .val (.int p3), .val (.int p4), .val (.int p5), .val (.int l1), .val (.int l2), .val (.int m1), .val (.int m2), .val (.int n1), .unset, .unset, .unset, .unset, .unset, .unset, .unset, .unset] [(.int (9 : Int32)), (.int p2)])
        refine Go.step (fun _ k => XS.iushr W.here W.hx rfl (W.d at_80) rfl k) ?_
        show Go _ _ _ _ _ _ _ _ _ _ (mkF m 81 #[.val (.int p0), .val (.int p1), .val (.int p2), .val (.int p3), .val (.int p4), .val (.int p5), .val (.int l1), .val (.int l2), .val (.int m1), .val (.int m2), .val (.int n1), .unset, .unset, .unset, .unset, .unset, .unset, .unset, .unset] [(.int ((p2.toUInt32 >>> ((9 : Int32) &&& 31).toUInt32).toInt32))])
        refine Go.step (fun _ k => XS.sipush W.here W.hx rfl (W.d at_81) k) ?_
        show Go _ _ _ _ _ _ _ _ _ _ (mkF m 84 #[.val (.int p0), .val (.int p1), .val (.int p2), .val (.int p3), .val (.int p4), .val (.int p5), .val (.int l1), .val (.int l2), .val (.int m1), .val (.int m2), .val (.int n1), .unset, .unset, .unset, .unset, .unset, .unset, .unset, .unset] [(.int (511 : Int32)), (.int ((p2.toUInt32 >>> ((9 : Int32) &&& 31).toUInt32).toInt32))])
        refine Go.step (fun _ k => XS.iand W.here W.hx rfl (W.d at_84) rfl k) ?_
        show Go _ _ _ _ _ _ _ _ _ _ (mkF m 85 #[.val (.int p0), .val (.int p1), .val (.int p2), .val (.int p3), .val (.int p4), .val (.int p5), .val (.int l1), .val (.int l2), .val (.int m1), .val (.int m2), .val (.int n1), .unset, .unset, .unset, .unset, .unset, .unset, .unset, .unset] [(.int (((p2.toUInt32 >>> ((9 : Int32) &&& 31).toUInt32).toInt32) &&& (511 : Int32)))])
        exact J85 _ _ _ W trivial
      · refine Go.step (fun _ k => XS.ifNo W.here W.hx rfl (W.d at_69) rfl ((if0 _ _).trans (feq hc25).1) k) ?_
        show Go _ _ _ _ _ _ _ _ _ _ (mkF m 72 #[.val (.int p0), .val (.int p1), .val (.int p2), .val (.int p3), .val (.int p4), .val (.int p5), .val (.int l1), .val (.int l2), .val (.int m1), .val (.int m2), .val (.int n1), .unset, .unset, .unset, .unset, .unset, .unset, .unset, .unset] [])
        refine Go.step (fun _ k => XS.iload W.here W.hx rfl (W.d at_72) rfl k) ?_
        show Go _ _ _ _ _ _ _ _ _ _ (mkF m 74 #[.val (.int p0), .val (.int p1), .val (.int p2), .val (.int p3), .val (.int p4), .val (.int p5), .val (.int l1), .val (.int l2), .val (.int m1), .val (.int m2), .val (.int n1), .unset, .unset, .unset, .unset, .unset, .unset, .unset, .unset] [(.int n1)])
        refine Go.step (fun _ k => XS.goto W.here W.hx rfl (pc0 := 74) (pc' := 85) rfl (W.d at_74) (by decide) (by decide) k) ?_
        show Go _ _ _ _ _ _ _ _ _ _ (mkF m 85 #[.val (.int p0), .val (.int p1), .val (.int p2), .val (.int p3), .val (.int p4), .val (.int p5), .val (.int l1), .val (.int l2), .val (.int m1), .val (.int m2), .val (.int n1), .unset, .unset, .unset, .unset, .unset, .unset, .unset, .unset] [(.int n1)])
        exact J85 _ _ _ W trivial
    refine Go.step (fun _ k => XS.iload W.here W.hx rfl (W.d at_36) rfl k) ?_
    show Go _ _ _ _ _ _ _ _ _ _ (mkF m 38 #[.val (.int p0), .val (.int p1), .val (.int p2), .val (.int p3), .val (.int p4), .val (.int p5), .val (.int l1), .val (.int l2), .val (.int m1), .unset, .unset, .unset, .unset, .unset, .unset, .unset, .unset, .unset, .unset] [(.int p5)])
    refine Go.step (fun _ k => XS.iconst W.here W.hx rfl (W.d at_38) k) ?_
    show Go _ _ _ _ _ _ _ _ _ _ (mkF m 39 #[.val (.int p0), .val (.int p1), .val (.int p2), .val (.int p3), .val (.int p4), .val (.int p5), .val (.int l1), .val (.int l2), .val (.int m1), .unset, .unset, .unset, .unset, .unset, .unset, .unset, .unset, .unset, .unset] [(.int (2 : Int32)), (.int p5)])
    refine Go.step (fun _ k => XS.iand W.here W.hx rfl (W.d at_39) rfl k) ?_
    show Go _ _ _ _ _ _ _ _ _ _ (mkF m 40 #[.val (.int p0), .val (.int p1), .val (.int p2), .val (.int p3), .val (.int p4), .val (.int p5), .val (.int l1), .val (.int l2), .val (.int m1), .unset, .unset, .unset, .unset, .unset, .unset, .unset, .unset, .unset, .unset] [(.int (p5 &&& (2 : Int32)))])
    by_cases hc26 : (p5 &&& (2 : Int32)) = (0 : Int32)
    · refine Go.step (fun _ k => XS.ifYes W.here W.hx rfl (pc0 := 40) (pc' := 48) rfl (W.d at_40) rfl ((if0 _ _).trans (teq hc26).1) (by decide) (by decide) k) ?_
      show Go _ _ _ _ _ _ _ _ _ _ (mkF m 48 #[.val (.int p0), .val (.int p1), .val (.int p2), .val (.int p3), .val (.int p4), .val (.int p5), .val (.int l1), .val (.int l2), .val (.int m1), .unset, .unset, .unset, .unset, .unset, .unset, .unset, .unset, .unset, .unset] [])
      refine Go.step (fun _ k => XS.iloadN W.here W.hx rfl (W.d at_48) rfl k) ?_
      show Go _ _ _ _ _ _ _ _ _ _ (mkF m 49 #[.val (.int p0), .val (.int p1), .val (.int p2), .val (.int p3), .val (.int p4), .val (.int p5), .val (.int l1), .val (.int l2), .val (.int m1), .unset, .unset, .unset, .unset, .unset, .unset, .unset, .unset, .unset, .unset] [(.int p1)])
      refine Go.step (fun _ k => XS.bipush W.here W.hx rfl (W.d at_49) k) ?_
      show Go _ _ _ _ _ _ _ _ _ _ (mkF m 51 #[.val (.int p0), .val (.int p1), .val (.int p2), .val (.int p3), .val (.int p4), .val (.int p5), .val (.int l1), .val (.int l2), .val (.int m1), .unset, .unset, .unset, .unset, .unset, .unset, .unset, .unset, .unset, .unset] [(.int (9 : Int32)), (.int p1)])
      refine Go.step (fun _ k => XS.iushr W.here W.hx rfl (W.d at_51) rfl k) ?_
      show Go _ _ _ _ _ _ _ _ _ _ (mkF m 52 #[.val (.int p0), .val (.int p1), .val (.int p2), .val (.int p3), .val (.int p4), .val (.int p5), .val (.int l1), .val (.int l2), .val (.int m1), .unset, .unset, .unset, .unset, .unset, .unset, .unset, .unset, .unset, .unset] [(.int ((p1.toUInt32 >>> ((9 : Int32) &&& 31).toUInt32).toInt32))])
      refine Go.step (fun _ k => XS.sipush W.here W.hx rfl (W.d at_52) k) ?_
      show Go _ _ _ _ _ _ _ _ _ _ (mkF m 55 #[.val (.int p0), .val (.int p1), .val (.int p2), .val (.int p3), .val (.int p4), .val (.int p5), .val (.int l1), .val (.int l2), .val (.int m1), .unset, .unset, .unset, .unset, .unset, .unset, .unset, .unset, .unset, .unset] [(.int (511 : Int32)), (.int ((p1.toUInt32 >>> ((9 : Int32) &&& 31).toUInt32).toInt32))])
      refine Go.step (fun _ k => XS.iand W.here W.hx rfl (W.d at_55) rfl k) ?_
      show Go _ _ _ _ _ _ _ _ _ _ (mkF m 56 #[.val (.int p0), .val (.int p1), .val (.int p2), .val (.int p3), .val (.int p4), .val (.int p5), .val (.int l1), .val (.int l2), .val (.int m1), .unset, .unset, .unset, .unset, .unset, .unset, .unset, .unset, .unset, .unset] [(.int (((p1.toUInt32 >>> ((9 : Int32) &&& 31).toUInt32).toInt32) &&& (511 : Int32)))])
      exact J56 _ _ _ W trivial
    · refine Go.step (fun _ k => XS.ifNo W.here W.hx rfl (W.d at_40) rfl ((if0 _ _).trans (feq hc26).1) k) ?_
      show Go _ _ _ _ _ _ _ _ _ _ (mkF m 43 #[.val (.int p0), .val (.int p1), .val (.int p2), .val (.int p3), .val (.int p4), .val (.int p5), .val (.int l1), .val (.int l2), .val (.int m1), .unset, .unset, .unset, .unset, .unset, .unset, .unset, .unset, .unset, .unset] [])
      refine Go.step (fun _ k => XS.iload W.here W.hx rfl (W.d at_43) rfl k) ?_
      show Go _ _ _ _ _ _ _ _ _ _ (mkF m 45 #[.val (.int p0), .val (.int p1), .val (.int p2), .val (.int p3), .val (.int p4), .val (.int p5), .val (.int l1), .val (.int l2), .val (.int m1), .unset, .unset, .unset, .unset, .unset, .unset, .unset, .unset, .unset, .unset] [(.int m1)])
      refine Go.step (fun _ k => XS.goto W.here W.hx rfl (pc0 := 45) (pc' := 56) rfl (W.d at_45) (by decide) (by decide) k) ?_
      show Go _ _ _ _ _ _ _ _ _ _ (mkF m 56 #[.val (.int p0), .val (.int p1), .val (.int p2), .val (.int p3), .val (.int p4), .val (.int p5), .val (.int l1), .val (.int l2), .val (.int m1), .unset, .unset, .unset, .unset, .unset, .unset, .unset, .unset, .unset, .unset] [(.int m1)])
      exact J56 _ _ _ W trivial
  refine Go.step (fun _ k => XS.iload W.here W.hx rfl (W.d at_7) rfl k) ?_
  show Go _ _ _ _ _ _ _ _ _ _ (mkF m 9 #[.val (.int p0), .val (.int p1), .val (.int p2), .val (.int p3), .val (.int p4), .val (.int p5), .val (.int l1), .unset, .unset, .unset, .unset, .unset, .unset, .unset, .unset, .unset, .unset, .unset, .unset] [(.int p5)])
  refine Go.step (fun _ k => XS.iconst W.here W.hx rfl (W.d at_9) k) ?_
  show Go _ _ _ _ _ _ _ _ _ _ (mkF m 10 #[.val (.int p0), .val (.int p1), .val (.int p2), .val (.int p3), .val (.int p4), .val (.int p5), .val (.int l1), .unset, .unset, .unset, .unset, .unset, .unset, .unset, .unset, .unset, .unset, .unset, .unset] [(.int (1 : Int32)), (.int p5)])
  refine Go.step (fun _ k => XS.iand W.here W.hx rfl (W.d at_10) rfl k) ?_
  show Go _ _ _ _ _ _ _ _ _ _ (mkF m 11 #[.val (.int p0), .val (.int p1), .val (.int p2), .val (.int p3), .val (.int p4), .val (.int p5), .val (.int l1), .unset, .unset, .unset, .unset, .unset, .unset, .unset, .unset, .unset, .unset, .unset, .unset] [(.int (p5 &&& (1 : Int32)))])
  by_cases hc27 : (p5 &&& (1 : Int32)) = (0 : Int32)
  · refine Go.step (fun _ k => XS.ifYes W.here W.hx rfl (pc0 := 11) (pc' := 19) rfl (W.d at_11) rfl ((if0 _ _).trans (teq hc27).1) (by decide) (by decide) k) ?_
    show Go _ _ _ _ _ _ _ _ _ _ (mkF m 19 #[.val (.int p0), .val (.int p1), .val (.int p2), .val (.int p3), .val (.int p4), .val (.int p5), .val (.int l1), .unset, .unset, .unset, .unset, .unset, .unset, .unset, .unset, .unset, .unset, .unset, .unset] [])
    refine Go.step (fun _ k => XS.iloadN W.here W.hx rfl (W.d at_19) rfl k) ?_
    show Go _ _ _ _ _ _ _ _ _ _ (mkF m 20 #[.val (.int p0), .val (.int p1), .val (.int p2), .val (.int p3), .val (.int p4), .val (.int p5), .val (.int l1), .unset, .unset, .unset, .unset, .unset, .unset, .unset, .unset, .unset, .unset, .unset, .unset] [(.int p0)])
    refine Go.step (fun _ k => XS.bipush W.here W.hx rfl (W.d at_20) k) ?_
    show Go _ _ _ _ _ _ _ _ _ _ (mkF m 22 #[.val (.int p0), .val (.int p1), .val (.int p2), .val (.int p3), .val (.int p4), .val (.int p5), .val (.int l1), .unset, .unset, .unset, .unset, .unset, .unset, .unset, .unset, .unset, .unset, .unset, .unset] [(.int (9 : Int32)), (.int p0)])
    refine Go.step (fun _ k => XS.iushr W.here W.hx rfl (W.d at_22) rfl k) ?_
    show Go _ _ _ _ _ _ _ _ _ _ (mkF m 23 #[.val (.int p0), .val (.int p1), .val (.int p2), .val (.int p3), .val (.int p4), .val (.int p5), .val (.int l1), .unset, .unset, .unset, .unset, .unset, .unset, .unset, .unset, .unset, .unset, .unset, .unset] [(.int ((p0.toUInt32 >>> ((9 : Int32) &&& 31).toUInt32).toInt32))])
    refine Go.step (fun _ k => XS.sipush W.here W.hx rfl (W.d at_23) k) ?_
    show Go _ _ _ _ _ _ _ _ _ _ (mkF m 26 #[.val (.int p0), .val (.int p1), .val (.int p2), .val (.int p3), .val (.int p4), .val (.int p5), .val (.int l1), .unset, .unset, .unset, .unset, .unset, .unset, .unset, .unset, .unset, .unset, .unset, .unset] [(.int (511 : Int32)), (.int ((p0.toUInt32 >>> ((9 : Int32) &&& 31).toUInt32).toInt32))])
    refine Go.step (fun _ k => XS.iand W.here W.hx rfl (W.d at_26) rfl k) ?_
    show Go _ _ _ _ _ _ _ _ _ _ (mkF m 27 #[.val (.int p0), .val (.int p1), .val (.int p2), .val (.int p3), .val (.int p4), .val (.int p5), .val (.int l1), .unset, .unset, .unset, .unset, .unset, .unset, .unset, .unset, .unset, .unset, .unset, .unset] [(.int (((p0.toUInt32 >>> ((9 : Int32) &&& 31).toUInt32).toInt32) &&& (511 : Int32)))])
    exact J27 _ _ _ W trivial
  · refine Go.step (fun _ k => XS.ifNo W.here W.hx rfl (W.d at_11) rfl ((if0 _ _).trans (feq hc27).1) k) ?_
    show Go _ _ _ _ _ _ _ _ _ _ (mkF m 14 #[.val (.int p0), .val (.int p1), .val (.int p2), .val (.int p3), .val (.int p4), .val (.int p5), .val (.int l1), .unset, .unset, .unset, .unset, .unset, .unset, .unset, .unset, .unset, .unset, .unset, .unset] [])
    refine Go.step (fun _ k => XS.iload W.here W.hx rfl (W.d at_14) rfl k) ?_
    show Go _ _ _ _ _ _ _ _ _ _ (mkF m 16 #[.val (.int p0), .val (.int p1), .val (.int p2), .val (.int p3), .val (.int p4), .val (.int p5), .val (.int l1), .unset, .unset, .unset, .unset, .unset, .unset, .unset, .unset, .unset, .unset, .unset, .unset] [(.int l1)])
    refine Go.step (fun _ k => XS.goto W.here W.hx rfl (pc0 := 16) (pc' := 27) rfl (W.d at_16) (by decide) (by decide) k) ?_
    show Go _ _ _ _ _ _ _ _ _ _ (mkF m 27 #[.val (.int p0), .val (.int p1), .val (.int p2), .val (.int p3), .val (.int p4), .val (.int p5), .val (.int l1), .unset, .unset, .unset, .unset, .unset, .unset, .unset, .unset, .unset, .unset, .unset, .unset] [(.int l1)])
    exact J27 _ _ _ W trivial
set_option maxRecDepth 65536 in
set_option maxHeartbeats 40000000 in
theorem comes_1 {Post : Tables → Env → Array Value → State → Outcome → State → Prop} (hpost : ∀ tb e args s v u, (limb_1_1.after args s (.returned v) u = true ∧ limb_1_2.after args s (.returned v) u = true ∧ True) → ReturnedEndW s (.returned v) u (Jvm.fieldLocs frame_1_writes args s ++ Jvm.arrayLocs frame_1_arrays args s ++ Jvm.staticLocs frame_1_statics s) 40 1216 → Post tb e args s (.returned v) u) :
    ArmFor flags0 classFile x code maxLocals ret World_1 tables_1 room_1 Calls_1 rest_1 Pre_1 Post := by
  intro l hfl _ _ p e ha hc hk s m args below hf hA hF happ hP
  obtain ⟨hcalls, hrest, hpre⟩ := hP
  obtain ⟨-, -, -, hnamed, -, -, -, hat⟩ := (Spec.applies_iff hf).mp happ
  obtain ⟨hg, hn⟩ := and_e (Cond.before_iff.mp (show (Jvm.Cond.and given_1 narrow_1).before args s = true from hpre))
  obtain ⟨g1, g2⟩ := and_e hg
  obtain ⟨g3, g4⟩ := and_e g2
  obtain ⟨g5, g6⟩ := and_e g4
  obtain ⟨g7, g8⟩ := and_e g6
  obtain ⟨g9, g10⟩ := and_e g8
  obtain ⟨g11, g12⟩ := and_e g10
  obtain ⟨w0, w1, w2, w3, w4, w5, rfl⟩ : ∃ w0 w1 w2 w3 w4 w5 : Value, args = #[w0, w1, w2, w3, w4, w5] := by
    have hs : args.size = 6 := by simpa [Cond.value, given_1] using g1
    obtain ⟨L⟩ := args
    match L, hs with
    | [w0, w1, w2, w3, w4, w5], _ => exact ⟨w0, w1, w2, w3, w4, w5, rfl⟩
  have hw := fun d (hd : d ∈ tables_1) => atoms_spec (ws := Jvm.Cond.code x code maxLocals ret :: tables_1) hat d (List.mem_cons_of_mem _ hd)
  obtain ⟨hsets, hown0⟩ := atoms_of _ (rest_1_c_eq ▸ (show rest_1_c.before _ s = true from hrest))
  obtain ⟨i0, ei0⟩ := is_v g3
  obtain rfl : w0 = (.int i0) := Option.some.inj ei0
  obtain ⟨i1, ei1⟩ := is_v g5
  obtain rfl : w1 = (.int i1) := Option.some.inj ei1
  obtain ⟨i2, ei2⟩ := is_v g7
  obtain rfl : w2 = (.int i2) := Option.some.inj ei2
  obtain ⟨i3, ei3⟩ := is_v g9
  obtain rfl : w3 = (.int i3) := Option.some.inj ei3
  obtain ⟨i4, ei4⟩ := is_v g11
  obtain rfl : w4 = (.int i4) := Option.some.inj ei4
  obtain ⟨i5, ei5⟩ := is_v g12
  obtain rfl : w5 = (.int i5) := Option.some.inj ei5
  obtain ⟨G1, eG⟩ := is_v (Cond.before_iff.mp (hsets _ (List.mem_of_getElem? (i := 1) rfl)))
  have S1 : Sta s s.heap "java/lang/String" "COMPACT_STRINGS" "Z" (.int G1) := Sta.start eG (Or.inl (hsets _ (List.mem_of_getElem? (i := 0) rfl)))
  have hcw := hsets _ (List.mem_of_getElem? (i := 2) rfl)
  have P1 : ¬ (G1 = (0 : Int32)) := gotF (Cond.eq_ints eG (Term.int_eval (0))) (not_v (Cond.before_iff.mp hcw))
  have hEL : EW s #[(.int i0), (.int i1), (.int i2), (.int i3), (.int i4), (.int i5)] consts_1 := (EW.cons (hw _ (List.mem_of_getElem? (i := 21) rfl)) (by decide +kernel) EW.nil)
  have hX : Ctx s _ G1 := ⟨hw, S1, P1, hEL⟩
  have hc1 : (∀ q ∈ consts_1, Jvm.Lit.constHeld s q.1 q.2) ∧ True := hcalls
  have hCH : CHv s consts_1 s.vm s.heap := CHv.start hEL hc1.1 hcw (hw _ (List.mem_of_getElem? (i := 22) rfl)) (hw _ (List.mem_of_getElem? (i := 8) rfl))
  obtain ⟨n, o, h1, h2, h3, _, L, rfl, ⟨rfl, N, -⟩, -, hq⟩ := c_law (l := l) hX i0 i1 i2 i3 i4 i5 s.heap ⟨Nat.le_refl _, fun _ _ q => q⟩ p e ha hc hk s m _ below hf ((Spec.applies_iff_loose hf).mp happ).1 ⟨rfl, State.Warmed39.refl s, rfl, hCH⟩ trivial
  refine ⟨n, _, h1, h2, h3, hpost _ _ _ _ _ _ ⟨Cond.after_iff.mpr rfl, Cond.after_iff.mpr (eq_i res_at (Term.int_eval (1)) rfl), trivial⟩ ⟨hq.1, hq.2.1, hq.2.2.1, (hq.2.2.2.sift fun y hy => Or.inr (N y hy)).mono (by decide) (by decide)⟩⟩
theorem main_1_1 : Claimed_1_1 := comes_1 fun _ _ _ _ _ _ h hF => ⟨h.1, hF⟩
theorem main_1_2 : Claimed_1_2 := comes_1 fun _ _ _ _ _ _ h hF => ⟨h.2.1, hF⟩
end Jvm.Pilot.@@N@@
namespace Jvm.Pilot.@@N@@
open Jvm Jvm.ClassFile Sem Op Lib Jvm.Free Jvm.Stand Jvm.Pilot.@@N@@.Jvm.D
/-! MADE BY PROGRAM (witnessworld.py) out of the Statement's table words and the real class files: 19 classes; the members and pool entries that the words name. The judged class is class 1, her method 3. -/
namespace start1
open Jvm.ClassFile
def u (s : String) : CpInfo := .utf8 (stringToUtf16 s)
/-- a pool by its gaps: so many unusable entries, then the entry; so many at the end -/
def gap : Nat → List CpInfo → List CpInfo
  | 0, r => r
  | n + 1, r => .unusable :: gap n r
def poolList (es : List (Nat × CpInfo)) (last : Nat) : List CpInfo := es.foldr (fun e r => gap e.1 (e.2 :: r)) (gap last [])
def pool (es : List (Nat × CpInfo)) (last : Nat) : Array CpInfo := ⟨poolList es last⟩
def fileOf (pool : Array CpInfo) (this : Nat) (attrs : Array Attribute := #[]) (ms : Array MethodInfo := #[]) (fl : Nat := 33) (sup : Nat := 0) (ifs : Array Nat := #[]) (fds : Array FieldInfo := #[]) : ClassFile where
  minorVersion := 0
  majorVersion := 65
  constantPool := pool
  accessFlags := fl
  thisClass := this
  superClass := sup
  interfaces := ifs
  fields := fds
  methods := ms
  attributes := attrs
def plain (name : String) (sup : Option ClassId) : Class where
  name := name
  kind := .ordinary
  loader := none
  accessFlags := 33
  super := sup
  interfaces := #[]
  cf := none
  fields := #[]
  methods := #[]
  instanceTypes := #[]
  staticTypes := #[]
  resolved := #[]
  callSites := []
  init := .initialized
  statics := none
  mirror := none

def pool0 : Array CpInfo := pool [(5, u "<init>"), (0, u "()V"), (1, .class_ 10), (1, u "java/lang/Object")] 113

def k0c0 : Code := { maxStack := 0, maxLocals := 1, code := object_method_1_code, exceptionTable := #[], attributes := #[] }
def k0m0 : Method := { name := "<init>", desc := "()V", sig := { parameters := [], returnType := none }, accessFlags := 1, code := some k0c0 }
/-- java/lang/Object -/
def k0 : Class := { plain "java/lang/Object" none with
  accessFlags := 33
  interfaces := #[]
  cf := some (fileOf pool0 8 #[] #[{ accessFlags := 1, nameIndex := 5, descriptorIndex := 6, attributes := #[] }] 33 0 #[] #[])
  fields := #[]
  methods := #[k0m0]
  instanceTypes := #[]
  staticTypes := #[]
  resolved := Array.replicate 124 none
  statics := none }

def pool1 : Array CpInfo := pool [(2, .class_ 4), (1, u "java/lang/Object"), (0, u "<init>"), (0, u "()V"), (0, .class_ 8), (0, u "java/lang/String"), (0, .methodref 7 10), (0, .nameAndType 5 11), (0, u "([C)V"), (0, .methodref 7 13), (0, .nameAndType 14 15), (0, u "valueOf"), (0, u "(C)Ljava/lang/String;"), (0, .class_ 17), (0, u "com/example/moderato/moderato/client/ImageHit"), (0, .methodref 19 20), (0, .class_ 21), (0, .nameAndType 22 23), (0, u "com/example/moderato/moderato/client/ImageHitEqualsPinLaw"), (0, u "str"), (0, u "(I)Ljava/lang/String;"), (0, .methodref 16 25), (0, .nameAndType 5 26), (0, u "(Ljava/lang/String;Ljava/lang/String;Ljava/lang/String;I)V"), (0, .methodref 16 28), (0, .nameAndType 29 30), (0, u "equals"), (0, u "(Ljava/lang/Object;)Z"), (0, .methodref 19 32), (0, .nameAndType 33 34), (0, u "key"), (0, u "(I)I"), (3, u "law"), (0, u "(IIIIII)Z")] 2

def k1m0 : Method := { name := "<init>", desc := "()V", sig := { parameters := [], returnType := none }, accessFlags := 1, code := none }
def k1c1 : Code := { maxStack := 3, maxLocals := 1, code := method_2_code, exceptionTable := #[], attributes := #[] }
def k1m1 : Method := { name := "str", desc := "(I)Ljava/lang/String;", sig := { parameters := [.int], returnType := some (.object "java/lang/String") }, accessFlags := 10, code := some k1c1 }
def k1c2 : Code := { maxStack := 2, maxLocals := 1, code := method_3_code, exceptionTable := #[], attributes := #[] }
def k1m2 : Method := { name := "key", desc := "(I)I", sig := { parameters := [.int], returnType := some .int }, accessFlags := 10, code := some k1c2 }
def k1c3 : Code := { maxStack := 6, maxLocals := 19, code := code, exceptionTable := #[], attributes := #[] }
def k1m3 : Method := { name := "law", desc := "(IIIIII)Z", sig := { parameters := [.int, .int, .int, .int, .int, .int], returnType := some .boolean }, accessFlags := 9, code := some k1c3 }
/-- com/example/moderato/moderato/client/ImageHitEqualsPinLaw -/
def k1 : Class := { plain "com/example/moderato/moderato/client/ImageHitEqualsPinLaw" (some 0) with
  accessFlags := 49
  interfaces := #[]
  cf := some (fileOf pool1 19 #[] #[{ accessFlags := 1, nameIndex := 5, descriptorIndex := 6, attributes := #[] }, { accessFlags := 10, nameIndex := 22, descriptorIndex := 23, attributes := #[] }, { accessFlags := 10, nameIndex := 33, descriptorIndex := 34, attributes := #[] }, { accessFlags := 9, nameIndex := 38, descriptorIndex := 39, attributes := #[] }] 49 2 #[] #[])
  fields := #[]
  methods := #[k1m0, k1m1, k1m2, k1m3]
  instanceTypes := #[]
  staticTypes := #[]
  resolved := Array.replicate 42 none
  statics := none }

def pool2 : Array CpInfo := pool [(1, .methodref 2 3), (0, .class_ 4), (0, .nameAndType 5 6), (0, u "java/lang/Object"), (0, u "<init>"), (0, u "()V"), (0, .fieldref 8 9), (0, .class_ 10), (0, .nameAndType 11 12), (0, u "com/example/moderato/moderato/client/ImageHit"), (0, u "library"), (0, u "Ljava/lang/String;"), (0, .fieldref 8 14), (0, .nameAndType 15 12), (0, u "sample"), (0, .fieldref 8 17), (0, .nameAndType 18 12), (0, u "label"), (0, .fieldref 8 20), (0, .nameAndType 21 22), (0, u "distance"), (0, u "I"), (0, .methodref 24 25), (0, .class_ 26), (0, .nameAndType 27 28), (0, u "java/lang/String"), (0, u "equals"), (0, u "(Ljava/lang/Object;)Z"), (16, u "(Ljava/lang/String;Ljava/lang/String;Ljava/lang/String;I)V")] 24

def k2c0 : Code := { maxStack := 2, maxLocals := 5, code := prog_8_method_1_code, exceptionTable := #[], attributes := #[] }
def k2m0 : Method := { name := "<init>", desc := "(Ljava/lang/String;Ljava/lang/String;Ljava/lang/String;I)V", sig := { parameters := [(.object "java/lang/String"), (.object "java/lang/String"), (.object "java/lang/String"), .int], returnType := none }, accessFlags := 1, code := some k2c0 }
def k2c1 : Code := { maxStack := 2, maxLocals := 3, code := prog_8_method_6_code, exceptionTable := #[], attributes := #[] }
def k2m1 : Method := { name := "equals", desc := "(Ljava/lang/Object;)Z", sig := { parameters := [(.object "java/lang/Object")], returnType := some .boolean }, accessFlags := 1, code := some k2c1 }
/-- com/example/moderato/moderato/client/ImageHit -/
def k2 : Class := { plain "com/example/moderato/moderato/client/ImageHit" (some 0) with
  accessFlags := 49
  interfaces := #[]
  cf := some (fileOf pool2 8 #[] #[{ accessFlags := 1, nameIndex := 5, descriptorIndex := 45, attributes := #[] }, { accessFlags := 1, nameIndex := 27, descriptorIndex := 28, attributes := #[] }] 49 2 #[] #[{ accessFlags := 18, nameIndex := 11, descriptorIndex := 12, attributes := #[] }, { accessFlags := 18, nameIndex := 15, descriptorIndex := 12, attributes := #[] }, { accessFlags := 18, nameIndex := 18, descriptorIndex := 12, attributes := #[] }, { accessFlags := 18, nameIndex := 21, descriptorIndex := 22, attributes := #[] }])
  fields := #[{ name := "library", type := (.object "java/lang/String"), accessFlags := 18, slot := 0, constantValue := 0 }, { name := "sample", type := (.object "java/lang/String"), accessFlags := 18, slot := 1, constantValue := 0 }, { name := "label", type := (.object "java/lang/String"), accessFlags := 18, slot := 2, constantValue := 0 }, { name := "distance", type := .int, accessFlags := 18, slot := 3, constantValue := 0 }]
  methods := #[k2m0, k2m1]
  instanceTypes := #[(.object "java/lang/String"), (.object "java/lang/String"), (.object "java/lang/String"), .int]
  staticTypes := #[]
  resolved := Array.replicate 70 none
  statics := none }

def pool3 : Array CpInfo := pool [(1, .class_ 2), (0, u "java/io/Serializable"), (0, .class_ 4), (0, u "java/lang/Object")] 2

/-- java/io/Serializable -/
def k3 : Class := { plain "java/io/Serializable" (some 0) with
  accessFlags := 1537
  interfaces := #[]
  cf := some (fileOf pool3 1 #[] #[] 1537 3 #[] #[])
  fields := #[]
  methods := #[]
  instanceTypes := #[]
  staticTypes := #[]
  resolved := Array.replicate 7 none
  statics := none }

def pool4 : Array CpInfo := pool [(1, .class_ 2), (0, u "java/lang/Comparable"), (0, .class_ 4), (0, u "java/lang/Object")] 7

/-- java/lang/Comparable -/
def k4 : Class := { plain "java/lang/Comparable" (some 0) with
  accessFlags := 1537
  interfaces := #[]
  cf := some (fileOf pool4 1 #[] #[] 1537 3 #[] #[])
  fields := #[]
  methods := #[]
  instanceTypes := #[]
  staticTypes := #[]
  resolved := Array.replicate 12 none
  statics := none }

def pool5 : Array CpInfo := pool [(2, .class_ 4), (1, u "java/lang/CharSequence"), (42, .class_ 48), (0, u "java/lang/CharSequence$1CodePointIterator"), (10, .class_ 60), (0, u "java/lang/CharSequence$1CharIterator"), (5, .class_ 67), (0, u "java/lang/Object")] 63

/-- java/lang/CharSequence -/
def k5 : Class := { plain "java/lang/CharSequence" (some 0) with
  accessFlags := 1537
  interfaces := #[]
  cf := some (fileOf pool5 2 #[.nestMembers #[47, 59]] #[] 1537 66 #[] #[])
  fields := #[]
  methods := #[]
  instanceTypes := #[]
  staticTypes := #[]
  resolved := Array.replicate 131 none
  statics := none }

def pool6 : Array CpInfo := pool [(1, .class_ 2), (0, u "java/lang/constant/Constable"), (0, .class_ 4), (0, u "java/lang/Object")] 6

/-- java/lang/constant/Constable -/
def k6 : Class := { plain "java/lang/constant/Constable" (some 0) with
  accessFlags := 1537
  interfaces := #[]
  cf := some (fileOf pool6 1 #[] #[] 1537 3 #[] #[])
  fields := #[]
  methods := #[]
  instanceTypes := #[]
  staticTypes := #[]
  resolved := Array.replicate 11 none
  statics := none }

def pool7 : Array CpInfo := pool [(1, .class_ 2), (0, u "java/lang/constant/ConstantDesc"), (0, .class_ 4), (0, u "java/lang/Object")] 32

/-- java/lang/constant/ConstantDesc -/
def k7 : Class := { plain "java/lang/constant/ConstantDesc" (some 0) with
  accessFlags := 1537
  interfaces := #[]
  cf := some (fileOf pool7 1 #[] #[] 1537 3 #[] #[])
  fields := #[]
  methods := #[]
  instanceTypes := #[]
  staticTypes := #[]
  resolved := Array.replicate 37 none
  statics := none }

def pool8 : Array CpInfo := pool [(1, .methodref 2 3), (0, .class_ 4), (0, .nameAndType 5 6), (0, u "java/lang/Object"), (0, u "<init>"), (0, u "()V"), (0, .string 8), (0, u ""), (0, .fieldref 10 11), (0, .class_ 12), (0, .nameAndType 13 14), (0, u "java/lang/String"), (0, u "value"), (0, u "[B"), (0, .fieldref 10 16), (0, .nameAndType 17 18), (0, u "coder"), (0, u "B"), (2, u "hash"), (0, u "I"), (2, u "hashIsZero"), (0, u "Z"), (0, .methodref 10 28), (0, .nameAndType 5 29), (0, u "([CIILjava/lang/Void;)V"), (8, .fieldref 10 39), (0, .nameAndType 40 26), (0, u "COMPACT_STRINGS"), (12, u "toBytes"), (53, .class_ 109), (1, u "java/lang/StringLatin1"), (99, .methodref 10 210), (0, .nameAndType 5 211), (0, u "([BB)V"), (157, u "(C)Z"), (171, .methodref 107 542), (0, .nameAndType 543 544), (0, u "equals"), (0, u "([B[B)Z"), (28, u "(Ljava/lang/Object;)Z"), (1, .class_ 576), (0, u "java/lang/CharSequence"), (22, u "CASE_INSENSITIVE_ORDER"), (0, u "Ljava/util/Comparator;"), (181, u "valueOf"), (0, u "(C)Ljava/lang/String;"), (226, u "([C)V"), (4, .methodref 107 1016), (0, .nameAndType 1017 369), (0, u "canEncode"), (0, .methodref 107 1019), (0, .nameAndType 53 1020), (0, u "(C)[B"), (80, u "serialPersistentFields"), (0, u "[Ljava/io/ObjectStreamField;"), (0, .class_ 1104), (0, u "java/lang/String$CaseInsensitiveComparator"), (1, .class_ 1107), (0, u "java/io/Serializable"), (0, .class_ 1109), (0, u "java/lang/Comparable"), (0, .class_ 1111), (0, u "java/lang/constant/Constable"), (0, .class_ 1113), (0, u "java/lang/constant/ConstantDesc"), (2, u "serialVersionUID"), (0, u "J"), (3, u "REPL"), (0, u "C"), (2, u "LATIN1"), (1, u "UTF16")] 323

def k8m0 : Method := { name := "<init>", desc := "()V", sig := { parameters := [], returnType := none }, accessFlags := 1, code := none }
def k8c1 : Code := { maxStack := 5, maxLocals := 2, code := jdk_42_method_3_code, exceptionTable := #[], attributes := #[] }
def k8m1 : Method := { name := "<init>", desc := "([C)V", sig := { parameters := [(.array .char)], returnType := none }, accessFlags := 1, code := some k8c1 }
def k8c2 : Code := { maxStack := 2, maxLocals := 3, code := jdk_42_method_66_code, exceptionTable := #[], attributes := #[] }
def k8m2 : Method := { name := "equals", desc := "(Ljava/lang/Object;)Z", sig := { parameters := [(.object "java/lang/Object")], returnType := some .boolean }, accessFlags := 1, code := some k8c2 }
def k8c3 : Code := { maxStack := 4, maxLocals := 1, code := jdk_42_method_139_code, exceptionTable := #[], attributes := #[] }
def k8m3 : Method := { name := "valueOf", desc := "(C)Ljava/lang/String;", sig := { parameters := [.char], returnType := some (.object "java/lang/String") }, accessFlags := 9, code := some k8c3 }
def k8c4 : Code := { maxStack := 4, maxLocals := 6, code := jdk_42_method_149_code, exceptionTable := #[], attributes := #[] }
def k8m4 : Method := { name := "<init>", desc := "([CIILjava/lang/Void;)V", sig := { parameters := [(.array .char), .int, .int, (.object "java/lang/Void")], returnType := none }, accessFlags := 2, code := some k8c4 }
def k8c5 : Code := { maxStack := 2, maxLocals := 3, code := jdk_42_method_151_code, exceptionTable := #[], attributes := #[] }
def k8m5 : Method := { name := "<init>", desc := "([BB)V", sig := { parameters := [(.array .byte), .byte], returnType := none }, accessFlags := 0, code := some k8c5 }
/-- java/lang/String -/
def k8 : Class := { plain "java/lang/String" (some 0) with
  accessFlags := 49
  interfaces := #[3, 4, 5, 6, 7]
  cf := some (fileOf pool8 10 #[.nestMembers #[1103]] #[{ accessFlags := 1, nameIndex := 5, descriptorIndex := 6, attributes := #[] }, { accessFlags := 1, nameIndex := 5, descriptorIndex := 1010, attributes := #[] }, { accessFlags := 1, nameIndex := 543, descriptorIndex := 573, attributes := #[] }, { accessFlags := 9, nameIndex := 782, descriptorIndex := 783, attributes := #[] }, { accessFlags := 2, nameIndex := 5, descriptorIndex := 29, attributes := #[] }, { accessFlags := 0, nameIndex := 5, descriptorIndex := 211, attributes := #[] }] 49 2 #[1106, 1108, 575, 1110, 1112] #[{ accessFlags := 18, nameIndex := 13, descriptorIndex := 14, attributes := #[] }, { accessFlags := 18, nameIndex := 17, descriptorIndex := 18, attributes := #[] }, { accessFlags := 2, nameIndex := 21, descriptorIndex := 22, attributes := #[] }, { accessFlags := 2, nameIndex := 25, descriptorIndex := 26, attributes := #[] }, { accessFlags := 26, nameIndex := 1116, descriptorIndex := 1117, attributes := #[] }, { accessFlags := 24, nameIndex := 40, descriptorIndex := 26, attributes := #[] }, { accessFlags := 26, nameIndex := 1101, descriptorIndex := 1102, attributes := #[] }, { accessFlags := 26, nameIndex := 1121, descriptorIndex := 1122, attributes := #[] }, { accessFlags := 25, nameIndex := 599, descriptorIndex := 600, attributes := #[] }, { accessFlags := 24, nameIndex := 1125, descriptorIndex := 18, attributes := #[] }, { accessFlags := 24, nameIndex := 1127, descriptorIndex := 18, attributes := #[] }])
  fields := #[{ name := "value", type := (.array .byte), accessFlags := 18, slot := 0, constantValue := 0 }, { name := "coder", type := .byte, accessFlags := 18, slot := 1, constantValue := 0 }, { name := "hash", type := .int, accessFlags := 2, slot := 2, constantValue := 0 }, { name := "hashIsZero", type := .boolean, accessFlags := 2, slot := 3, constantValue := 0 }, { name := "serialVersionUID", type := .long, accessFlags := 26, slot := 0, constantValue := 0 }, { name := "COMPACT_STRINGS", type := .boolean, accessFlags := 24, slot := 1, constantValue := 0 }, { name := "serialPersistentFields", type := (.array (.object "java/io/ObjectStreamField")), accessFlags := 26, slot := 2, constantValue := 0 }, { name := "REPL", type := .char, accessFlags := 26, slot := 3, constantValue := 0 }, { name := "CASE_INSENSITIVE_ORDER", type := (.object "java/util/Comparator"), accessFlags := 25, slot := 4, constantValue := 0 }, { name := "LATIN1", type := .byte, accessFlags := 24, slot := 5, constantValue := 0 }, { name := "UTF16", type := .byte, accessFlags := 24, slot := 6, constantValue := 0 }]
  methods := #[k8m0, k8m1, k8m2, k8m3, k8m4, k8m5]
  instanceTypes := #[(.array .byte), .byte, .int, .boolean]
  staticTypes := #[.long, .boolean, (.array (.object "java/io/ObjectStreamField")), .char, (.object "java/util/Comparator"), .byte, .byte]
  resolved := Array.replicate 1451 none
  statics := some 0 }

def pool9 : Array CpInfo := pool [(4, .class_ 6), (1, u "java/lang/Object"), (0, u "<init>"), (0, u "()V"), (5, .class_ 16), (1, u "java/lang/StringLatin1"), (73, u "canEncode"), (14, u "(C)Z"), (15, u "$assertionsDisabled"), (0, u "Z"), (98, .class_ 223), (1, u "java/lang/StringLatin1$LinesSpliterator"), (57, u "equals"), (0, u "([B[B)Z"), (97, u "toBytes"), (1, u "(C)[B"), (7, .class_ 391), (0, u "java/lang/StringLatin1$CharsSpliterator")] 3

def k9m0 : Method := { name := "<init>", desc := "()V", sig := { parameters := [], returnType := none }, accessFlags := 0, code := none }
def k9c1 : Code := { maxStack := 2, maxLocals := 1, code := jdk_43_method_3_code, exceptionTable := #[], attributes := #[] }
def k9m1 : Method := { name := "canEncode", desc := "(C)Z", sig := { parameters := [.char], returnType := some .boolean }, accessFlags := 9, code := some k9c1 }
def k9c2 : Code := { maxStack := 3, maxLocals := 3, code := jdk_43_method_13_code, exceptionTable := #[], attributes := #[] }
def k9m2 : Method := { name := "equals", desc := "([B[B)Z", sig := { parameters := [(.array .byte), (.array .byte)], returnType := some .boolean }, accessFlags := 9, code := some k9c2 }
def k9c3 : Code := { maxStack := 4, maxLocals := 1, code := jdk_43_method_46_code, exceptionTable := #[], attributes := #[] }
def k9m3 : Method := { name := "toBytes", desc := "(C)[B", sig := { parameters := [.char], returnType := some (.array .byte) }, accessFlags := 9, code := some k9c3 }
/-- java/lang/StringLatin1 -/
def k9 : Class := { plain "java/lang/StringLatin1" (some 0) with
  accessFlags := 48
  interfaces := #[]
  cf := some (fileOf pool9 14 #[.nestMembers #[390, 221]] #[{ accessFlags := 0, nameIndex := 7, descriptorIndex := 8, attributes := #[] }, { accessFlags := 9, nameIndex := 90, descriptorIndex := 105, attributes := #[] }, { accessFlags := 9, nameIndex := 281, descriptorIndex := 282, attributes := #[] }, { accessFlags := 9, nameIndex := 380, descriptorIndex := 382, attributes := #[] }] 48 4 #[] #[{ accessFlags := 4120, nameIndex := 121, descriptorIndex := 122, attributes := #[] }])
  fields := #[{ name := "$assertionsDisabled", type := .boolean, accessFlags := 4120, slot := 0, constantValue := 0 }]
  methods := #[k9m0, k9m1, k9m2, k9m3]
  instanceTypes := #[]
  staticTypes := #[.boolean]
  resolved := Array.replicate 395 none
  statics := none }

def pool10 : Array CpInfo := pool [(2, .class_ 4), (1, u "java/lang/Object"), (0, u "<init>"), (0, u "()V"), (17, .class_ 26), (1, u "jdk/internal/util/Preconditions"), (28, .class_ 56), (0, u "jdk/internal/util/Preconditions$4"), (57, .class_ 115), (0, u "jdk/internal/util/Preconditions$1"), (7, u "SIOOBE_FORMATTER"), (0, u "Ljava/util/function/BiFunction;"), (0, .class_ 126), (0, u "jdk/internal/util/Preconditions$2"), (3, u "AIOOBE_FORMATTER"), (0, .class_ 132), (0, u "jdk/internal/util/Preconditions$3"), (3, u "IOOBE_FORMATTER")] 57

def k10m0 : Method := { name := "<init>", desc := "()V", sig := { parameters := [], returnType := none }, accessFlags := 1, code := none }
/-- jdk/internal/util/Preconditions -/
def k10 : Class := { plain "jdk/internal/util/Preconditions" (some 0) with
  accessFlags := 33
  interfaces := #[]
  cf := some (fileOf pool10 24 #[.nestMembers #[55, 131, 125, 114]] #[{ accessFlags := 1, nameIndex := 5, descriptorIndex := 6, attributes := #[] }] 33 2 #[] #[{ accessFlags := 25, nameIndex := 123, descriptorIndex := 124, attributes := #[] }, { accessFlags := 25, nameIndex := 130, descriptorIndex := 124, attributes := #[] }, { accessFlags := 25, nameIndex := 136, descriptorIndex := 124, attributes := #[] }])
  fields := #[{ name := "SIOOBE_FORMATTER", type := (.object "java/util/function/BiFunction"), accessFlags := 25, slot := 0, constantValue := 0 }, { name := "AIOOBE_FORMATTER", type := (.object "java/util/function/BiFunction"), accessFlags := 25, slot := 1, constantValue := 0 }, { name := "IOOBE_FORMATTER", type := (.object "java/util/function/BiFunction"), accessFlags := 25, slot := 2, constantValue := 0 }]
  methods := #[k10m0]
  instanceTypes := #[]
  staticTypes := #[(.object "java/util/function/BiFunction"), (.object "java/util/function/BiFunction"), (.object "java/util/function/BiFunction")]
  resolved := Array.replicate 194 none
  statics := some 1 }

def pool11 : Array CpInfo := pool [(9, u "<init>"), (6, .class_ 18), (1, u "java/lang/Object"), (0, u "()V"), (1, .class_ 23), (1, u "jdk/internal/util/ArraysSupport"), (0, u "LOG2_ARRAY_LONG_INDEX_SCALE"), (0, u "I"), (2, u "U"), (0, u "Ljdk/internal/misc/Unsafe;"), (8, u "BIG_ENDIAN"), (0, u "Z"), (8, u "LOG2_BYTE_BIT_SIZE"), (4, u "LOG2_ARRAY_INT_INDEX_SCALE"), (54, u "JLA"), (0, u "Ljdk/internal/access/JavaLangAccess;"), (11, u "LOG2_ARRAY_BOOLEAN_INDEX_SCALE"), (9, u "LOG2_ARRAY_BYTE_INDEX_SCALE"), (5, u "LOG2_ARRAY_CHAR_INDEX_SCALE"), (5, u "LOG2_ARRAY_SHORT_INDEX_SCALE"), (18, u "LOG2_ARRAY_FLOAT_INDEX_SCALE"), (24, u "LOG2_ARRAY_DOUBLE_INDEX_SCALE"), (89, u "T_BOOLEAN"), (2, u "T_CHAR"), (1, u "T_FLOAT"), (1, u "T_DOUBLE"), (1, u "T_BYTE"), (1, u "T_SHORT"), (1, u "T_INT"), (1, u "T_LONG"), (1, u "SOFT_MAX_ARRAY_LENGTH")] 83

def k11m0 : Method := { name := "<init>", desc := "()V", sig := { parameters := [], returnType := none }, accessFlags := 2, code := none }
/-- jdk/internal/util/ArraysSupport -/
def k11 : Class := { plain "jdk/internal/util/ArraysSupport" (some 0) with
  accessFlags := 33
  interfaces := #[]
  cf := some (fileOf pool11 21 #[] #[{ accessFlags := 2, nameIndex := 9, descriptorIndex := 19, attributes := #[] }] 33 16 #[] #[{ accessFlags := 24, nameIndex := 28, descriptorIndex := 29, attributes := #[] }, { accessFlags := 26, nameIndex := 38, descriptorIndex := 39, attributes := #[] }, { accessFlags := 25, nameIndex := 121, descriptorIndex := 25, attributes := #[] }, { accessFlags := 25, nameIndex := 131, descriptorIndex := 25, attributes := #[] }, { accessFlags := 25, nameIndex := 137, descriptorIndex := 25, attributes := #[] }, { accessFlags := 25, nameIndex := 143, descriptorIndex := 25, attributes := #[] }, { accessFlags := 25, nameIndex := 53, descriptorIndex := 25, attributes := #[] }, { accessFlags := 25, nameIndex := 24, descriptorIndex := 25, attributes := #[] }, { accessFlags := 25, nameIndex := 162, descriptorIndex := 25, attributes := #[] }, { accessFlags := 25, nameIndex := 187, descriptorIndex := 25, attributes := #[] }, { accessFlags := 26, nameIndex := 48, descriptorIndex := 25, attributes := #[] }, { accessFlags := 25, nameIndex := 277, descriptorIndex := 25, attributes := #[] }, { accessFlags := 25, nameIndex := 280, descriptorIndex := 25, attributes := #[] }, { accessFlags := 25, nameIndex := 282, descriptorIndex := 25, attributes := #[] }, { accessFlags := 25, nameIndex := 284, descriptorIndex := 25, attributes := #[] }, { accessFlags := 25, nameIndex := 286, descriptorIndex := 25, attributes := #[] }, { accessFlags := 25, nameIndex := 288, descriptorIndex := 25, attributes := #[] }, { accessFlags := 25, nameIndex := 290, descriptorIndex := 25, attributes := #[] }, { accessFlags := 25, nameIndex := 292, descriptorIndex := 25, attributes := #[] }, { accessFlags := 26, nameIndex := 108, descriptorIndex := 109, attributes := #[] }, { accessFlags := 25, nameIndex := 294, descriptorIndex := 25, attributes := #[] }])
  fields := #[{ name := "U", type := (.object "jdk/internal/misc/Unsafe"), accessFlags := 24, slot := 0, constantValue := 0 }, { name := "BIG_ENDIAN", type := .boolean, accessFlags := 26, slot := 1, constantValue := 0 }, { name := "LOG2_ARRAY_BOOLEAN_INDEX_SCALE", type := .int, accessFlags := 25, slot := 2, constantValue := 0 }, { name := "LOG2_ARRAY_BYTE_INDEX_SCALE", type := .int, accessFlags := 25, slot := 3, constantValue := 0 }, { name := "LOG2_ARRAY_CHAR_INDEX_SCALE", type := .int, accessFlags := 25, slot := 4, constantValue := 0 }, { name := "LOG2_ARRAY_SHORT_INDEX_SCALE", type := .int, accessFlags := 25, slot := 5, constantValue := 0 }, { name := "LOG2_ARRAY_INT_INDEX_SCALE", type := .int, accessFlags := 25, slot := 6, constantValue := 0 }, { name := "LOG2_ARRAY_LONG_INDEX_SCALE", type := .int, accessFlags := 25, slot := 7, constantValue := 0 }, { name := "LOG2_ARRAY_FLOAT_INDEX_SCALE", type := .int, accessFlags := 25, slot := 8, constantValue := 0 }, { name := "LOG2_ARRAY_DOUBLE_INDEX_SCALE", type := .int, accessFlags := 25, slot := 9, constantValue := 0 }, { name := "LOG2_BYTE_BIT_SIZE", type := .int, accessFlags := 26, slot := 10, constantValue := 0 }, { name := "T_BOOLEAN", type := .int, accessFlags := 25, slot := 11, constantValue := 0 }, { name := "T_CHAR", type := .int, accessFlags := 25, slot := 12, constantValue := 0 }, { name := "T_FLOAT", type := .int, accessFlags := 25, slot := 13, constantValue := 0 }, { name := "T_DOUBLE", type := .int, accessFlags := 25, slot := 14, constantValue := 0 }, { name := "T_BYTE", type := .int, accessFlags := 25, slot := 15, constantValue := 0 }, { name := "T_SHORT", type := .int, accessFlags := 25, slot := 16, constantValue := 0 }, { name := "T_INT", type := .int, accessFlags := 25, slot := 17, constantValue := 0 }, { name := "T_LONG", type := .int, accessFlags := 25, slot := 18, constantValue := 0 }, { name := "JLA", type := (.object "jdk/internal/access/JavaLangAccess"), accessFlags := 26, slot := 19, constantValue := 0 }, { name := "SOFT_MAX_ARRAY_LENGTH", type := .int, accessFlags := 25, slot := 20, constantValue := 0 }]
  methods := #[k11m0]
  instanceTypes := #[]
  staticTypes := #[(.object "jdk/internal/misc/Unsafe"), .boolean, .int, .int, .int, .int, .int, .int, .int, .int, .int, .int, .int, .int, .int, .int, .int, .int, .int, (.object "jdk/internal/access/JavaLangAccess"), .int]
  resolved := Array.replicate 378 none
  statics := none }

def pool12 : Array CpInfo := pool [(1, u "java/lang/Cloneable"), (0, .class_ 1), (0, u "java/lang/Object"), (0, .class_ 3)] 3

/-- java/lang/Cloneable -/
def k12 : Class := { plain "java/lang/Cloneable" (some 0) with
  accessFlags := 1537
  interfaces := #[]
  cf := some (fileOf pool12 2 #[] #[] 1537 4 #[] #[])
  fields := #[]
  methods := #[]
  instanceTypes := #[]
  staticTypes := #[]
  resolved := Array.replicate 8 none
  statics := none }

/-- the primitive byte -/
def k13 : Class := { plain "byte" none with kind := .primitive 'B', accessFlags := 0x411 }
/-- [B -/
def k14 : Class := { plain "[B" (some 0) with kind := .array 13 .byte, interfaces := #[12, 3], accessFlags := 1041 }

/-- the primitive char -/
def k15 : Class := { plain "char" none with kind := .primitive 'C', accessFlags := 0x411 }
/-- [C -/
def k16 : Class := { plain "[C" (some 0) with kind := .array 15 .char, interfaces := #[12, 3], accessFlags := 1041 }

/-- the primitive int -/
def k17 : Class := { plain "int" none with kind := .primitive 'I', accessFlags := 0x411 }
/-- [I -/
def k18 : Class := { plain "[I" (some 0) with kind := .array 17 .int, interfaces := #[12, 3], accessFlags := 1041 }

def heap : Heap := #[{ cls := 8, slots := #[.long 0, .int 1, .null, .int 0, .null, .int 0, .int 0], vm := .statics 8 },
  { cls := 10, slots := #[.null, .null, .null], vm := .statics 10 }]
def classes : Array Class := #[k0, k1, k2, k3, k4, k5, k6, k7, k8, k9, k10, k11, k12, k13, k14, k15, k16, k17, k18]
def interned : List (Array UInt16 × Addr) := []
def slotsUsed : Nat := 10
def theMethod : MethodId := ⟨1, 3⟩
def args0 : Array Value := #[.int 5, .int 5, .int 5, .int 5, .int 5, .int 5]
def aboutOver (below : List Frame) : State where
  vm := { classes := classes, interned := interned.toArray }
  heap := heap
  slotsUsed := slotsUsed
  threads := #[{ frames := .invoking theMethod args0 :: below }]
def below0 : List Frame := [.native { method := ⟨0, 0⟩, args := #[] }]
def about1 : State := aboutOver below0
def p0 : Program := .bare "" "" ""
def e0 : Env := launch0.env 0 0 0
theorem w_frames : about1.frames = Frame.invoking theMethod args0 :: below0 := rfl
set_option maxRecDepth 65536 in
theorem w_args : argsFit about1.vm theMethod args0 = true := by decide +kernel
set_option maxRecDepth 65536 in
theorem w_heap : heapFits about1 = true := by decide +kernel
set_option maxRecDepth 65536 in
theorem w_runnable : about1.curStatus? = some .runnable := by decide +kernel
set_option maxRecDepth 65536 in
theorem w_alone : about1.alone = true := by decide +kernel
set_option maxRecDepth 65536 in
theorem w_named : about1.methodNamed? x = some theMethod := by decide +kernel
set_option maxRecDepth 65536 in
theorem w_hears : about1.hears theMethod below0 = true := by decide +kernel
set_option maxRecDepth 65536 in
theorem w_ripe : about1.ripe theMethod args0 below0 = true := by decide +kernel
theorem w_running : about1.status = .running := rfl
set_option maxRecDepth 65536 in
theorem w_room : about1.hasRoom e0.platform room_1 = true :=
  launch0.hasRoom_least _ room_1 (by decide +kernel) (by decide +kernel) (by decide +kernel) (by decide +kernel) (by decide +kernel) (by decide +kernel)
theorem allAtoms_all (ts : List Jvm.Cond) (a : Array Jvm.Value) (st : Jvm.State) : (allAtoms ts).before a st = ts.all (fun c => c.before a st) := by
  induction ts with
  | nil => rfl
  | cons c t ih =>
    show (Jvm.Cond.and c (allAtoms t)).before a st = _
    rw [Jvm.Cond.before_and, ih, List.all_cons]
def words1 : List Jvm.Cond := Jvm.Cond.code x code maxLocals ret :: tables_1
/-- a 'code' word, met by the world's own term for the bytes: nothing is compared byte by byte -/
theorem code_word {y : MethodName} {bytes : ByteArray} {mx : Nat} {rt : Option FieldType} {a : Array Value} {s : State} {m : MethodId} {meth : Method} {c : Code} (h1 : s.methodNamed? y = some m) (h2 : s.vm.method? m = some meth) (h3 : meth.code = some c) (h4 : c.code = bytes)
    (h5 : (c.maxLocals == mx && c.exceptionTable.isEmpty && decide (c.maxStack ≤ mostOperands) && decide (meth.sig.returnType = rt) && !meth.locks && decide (parseMethodDescriptor y.desc = some meth.sig)) = true) : (Jvm.Cond.code y bytes mx rt).before a s = true := by
  simp only [Bool.and_eq_true, beq_iff_eq, Bool.not_eq_true', decide_eq_true_eq] at h5
  obtain ⟨⟨⟨⟨⟨g1, g2⟩, g3⟩, g4⟩, g5⟩, g6⟩ := h5
  simp [Cond.before, Cond.holds, Cond.value, h1, h2, h3, h4, g1, g2, g3, g4, g5, g6]
def isCode : Jvm.Cond → Bool
  | .code _ _ _ _ => true
  | _ => false
theorem all_split {L : List Jvm.Cond} {P : Jvm.Cond → Bool} (h1 : L.all (fun c => isCode c || P c) = true) (h2 : ∀ c ∈ L.filter isCode, P c = true) : L.all P = true := by
  refine List.all_eq_true.mpr fun c hc => ?_
  have h := List.all_eq_true.mp h1 c hc
  rcases Bool.eq_false_or_eq_true (isCode c) with hi | hi
  · exact h2 c (List.mem_filter.mpr ⟨hc, hi⟩)
  · simpa [hi] using h
set_option maxRecDepth 65536 in
theorem w_c0 : (Jvm.Cond.code x code maxLocals ret).before args0 about1 = true := code_word (m := ⟨1, 3⟩) (meth := k1m3) (c := k1c3) (by decide +kernel) rfl rfl rfl (by decide +kernel)
set_option maxRecDepth 65536 in
theorem w_c1 : (Jvm.Cond.code ({ cls := "com/example/moderato/moderato/client/ImageHitEqualsPinLaw", name := "str", desc := "(I)Ljava/lang/String;" } : Jvm.MethodName) method_2_code (1 : Nat) (Option.some (Jvm.ClassFile.FieldType.object "java/lang/String"))).before args0 about1 = true := code_word (m := ⟨1, 1⟩) (meth := k1m1) (c := k1c1) (by decide +kernel) rfl rfl rfl (by decide +kernel)
set_option maxRecDepth 65536 in
theorem w_c2 : (Jvm.Cond.code ({ cls := "java/lang/String", name := "<init>", desc := "([C)V" } : Jvm.MethodName) jdk_42_method_3_code (2 : Nat) (Option.none : Option Jvm.ClassFile.FieldType)).before args0 about1 = true := code_word (m := ⟨8, 1⟩) (meth := k8m1) (c := k8c1) (by decide +kernel) rfl rfl rfl (by decide +kernel)
set_option maxRecDepth 65536 in
theorem w_c3 : (Jvm.Cond.code ({ cls := "java/lang/String", name := "<init>", desc := "([CIILjava/lang/Void;)V" } : Jvm.MethodName) jdk_42_method_149_code (6 : Nat) (Option.none : Option Jvm.ClassFile.FieldType)).before args0 about1 = true := code_word (m := ⟨8, 4⟩) (meth := k8m4) (c := k8c4) (by decide +kernel) rfl rfl rfl (by decide +kernel)
set_option maxRecDepth 65536 in
theorem w_c4 : (Jvm.Cond.code ({ cls := "java/lang/Object", name := "<init>", desc := "()V" } : Jvm.MethodName) object_method_1_code (1 : Nat) (Option.none : Option Jvm.ClassFile.FieldType)).before args0 about1 = true := code_word (m := ⟨0, 0⟩) (meth := k0m0) (c := k0c0) (by decide +kernel) rfl rfl rfl (by decide +kernel)
set_option maxRecDepth 65536 in
theorem w_c5 : (Jvm.Cond.code ({ cls := "com/example/moderato/moderato/client/ImageHit", name := "<init>", desc := "(Ljava/lang/String;Ljava/lang/String;Ljava/lang/String;I)V" } : Jvm.MethodName) prog_8_method_1_code (5 : Nat) (Option.none : Option Jvm.ClassFile.FieldType)).before args0 about1 = true := code_word (m := ⟨2, 0⟩) (meth := k2m0) (c := k2c0) (by decide +kernel) rfl rfl rfl (by decide +kernel)
set_option maxRecDepth 65536 in
theorem w_c6 : (Jvm.Cond.code ({ cls := "com/example/moderato/moderato/client/ImageHit", name := "equals", desc := "(Ljava/lang/Object;)Z" } : Jvm.MethodName) prog_8_method_6_code (3 : Nat) (Option.some Jvm.ClassFile.FieldType.boolean)).before args0 about1 = true := code_word (m := ⟨2, 1⟩) (meth := k2m1) (c := k2c1) (by decide +kernel) rfl rfl rfl (by decide +kernel)
set_option maxRecDepth 65536 in
theorem w_c7 : (Jvm.Cond.code ({ cls := "com/example/moderato/moderato/client/ImageHitEqualsPinLaw", name := "key", desc := "(I)I" } : Jvm.MethodName) method_3_code (1 : Nat) (Option.some Jvm.ClassFile.FieldType.int)).before args0 about1 = true := code_word (m := ⟨1, 2⟩) (meth := k1m2) (c := k1c2) (by decide +kernel) rfl rfl rfl (by decide +kernel)
set_option maxRecDepth 65536 in
theorem w_c8 : (Jvm.Cond.code ({ cls := "java/lang/String", name := "equals", desc := "(Ljava/lang/Object;)Z" } : Jvm.MethodName) jdk_42_method_66_code (3 : Nat) (Option.some Jvm.ClassFile.FieldType.boolean)).before args0 about1 = true := code_word (m := ⟨8, 2⟩) (meth := k8m2) (c := k8c2) (by decide +kernel) rfl rfl rfl (by decide +kernel)
set_option maxRecDepth 65536 in
theorem w_c9 : (Jvm.Cond.code ({ cls := "java/lang/StringLatin1", name := "equals", desc := "([B[B)Z" } : Jvm.MethodName) jdk_43_method_13_code (3 : Nat) (Option.some Jvm.ClassFile.FieldType.boolean)).before args0 about1 = true := code_word (m := ⟨9, 2⟩) (meth := k9m2) (c := k9c2) (by decide +kernel) rfl rfl rfl (by decide +kernel)
set_option maxRecDepth 65536 in
theorem w_c10 : (Jvm.Cond.code ({ cls := "java/lang/String", name := "valueOf", desc := "(C)Ljava/lang/String;" } : Jvm.MethodName) jdk_42_method_139_code (1 : Nat) (Option.some (Jvm.ClassFile.FieldType.object "java/lang/String"))).before args0 about1 = true := code_word (m := ⟨8, 3⟩) (meth := k8m3) (c := k8c3) (by decide +kernel) rfl rfl rfl (by decide +kernel)
set_option maxRecDepth 65536 in
theorem w_c11 : (Jvm.Cond.code ({ cls := "java/lang/StringLatin1", name := "canEncode", desc := "(C)Z" } : Jvm.MethodName) jdk_43_method_3_code (1 : Nat) (Option.some Jvm.ClassFile.FieldType.boolean)).before args0 about1 = true := code_word (m := ⟨9, 1⟩) (meth := k9m1) (c := k9c1) (by decide +kernel) rfl rfl rfl (by decide +kernel)
set_option maxRecDepth 65536 in
theorem w_c12 : (Jvm.Cond.code ({ cls := "java/lang/StringLatin1", name := "toBytes", desc := "(C)[B" } : Jvm.MethodName) jdk_43_method_46_code (1 : Nat) (Option.some (Jvm.ClassFile.FieldType.array Jvm.ClassFile.FieldType.byte))).before args0 about1 = true := code_word (m := ⟨9, 3⟩) (meth := k9m3) (c := k9c3) (by decide +kernel) rfl rfl rfl (by decide +kernel)
set_option maxRecDepth 65536 in
theorem w_c13 : (Jvm.Cond.code ({ cls := "java/lang/String", name := "<init>", desc := "([BB)V" } : Jvm.MethodName) jdk_42_method_151_code (3 : Nat) (Option.none : Option Jvm.ClassFile.FieldType)).before args0 about1 = true := code_word (m := ⟨8, 5⟩) (meth := k8m5) (c := k8c5) (by decide +kernel) rfl rfl rfl (by decide +kernel)
def codes1 : List Jvm.Cond := [Jvm.Cond.code x code maxLocals ret, Jvm.Cond.code ({ cls := "com/example/moderato/moderato/client/ImageHitEqualsPinLaw", name := "str", desc := "(I)Ljava/lang/String;" } : Jvm.MethodName) method_2_code (1 : Nat) (Option.some (Jvm.ClassFile.FieldType.object "java/lang/String")), Jvm.Cond.code ({ cls := "java/lang/String", name := "<init>", desc := "([C)V" } : Jvm.MethodName) jdk_42_method_3_code (2 : Nat) (Option.none : Option Jvm.ClassFile.FieldType), Jvm.Cond.code ({ cls := "java/lang/String", name := "<init>", desc := "([CIILjava/lang/Void;)V" } : Jvm.MethodName) jdk_42_method_149_code (6 : Nat) (Option.none : Option Jvm.ClassFile.FieldType), Jvm.Cond.code ({ cls := "java/lang/Object", name := "<init>", desc := "()V" } : Jvm.MethodName) object_method_1_code (1 : Nat) (Option.none : Option Jvm.ClassFile.FieldType), Jvm.Cond.code ({ cls := "com/example/moderato/moderato/client/ImageHit", name := "<init>", desc := "(Ljava/lang/String;Ljava/lang/String;Ljava/lang/String;I)V" } : Jvm.MethodName) prog_8_method_1_code (5 : Nat) (Option.none : Option Jvm.ClassFile.FieldType), Jvm.Cond.code ({ cls := "com/example/moderato/moderato/client/ImageHit", name := "equals", desc := "(Ljava/lang/Object;)Z" } : Jvm.MethodName) prog_8_method_6_code (3 : Nat) (Option.some Jvm.ClassFile.FieldType.boolean), Jvm.Cond.code ({ cls := "com/example/moderato/moderato/client/ImageHitEqualsPinLaw", name := "key", desc := "(I)I" } : Jvm.MethodName) method_3_code (1 : Nat) (Option.some Jvm.ClassFile.FieldType.int), Jvm.Cond.code ({ cls := "java/lang/String", name := "equals", desc := "(Ljava/lang/Object;)Z" } : Jvm.MethodName) jdk_42_method_66_code (3 : Nat) (Option.some Jvm.ClassFile.FieldType.boolean), Jvm.Cond.code ({ cls := "java/lang/StringLatin1", name := "equals", desc := "([B[B)Z" } : Jvm.MethodName) jdk_43_method_13_code (3 : Nat) (Option.some Jvm.ClassFile.FieldType.boolean), Jvm.Cond.code ({ cls := "java/lang/String", name := "valueOf", desc := "(C)Ljava/lang/String;" } : Jvm.MethodName) jdk_42_method_139_code (1 : Nat) (Option.some (Jvm.ClassFile.FieldType.object "java/lang/String")), Jvm.Cond.code ({ cls := "java/lang/StringLatin1", name := "canEncode", desc := "(C)Z" } : Jvm.MethodName) jdk_43_method_3_code (1 : Nat) (Option.some Jvm.ClassFile.FieldType.boolean), Jvm.Cond.code ({ cls := "java/lang/StringLatin1", name := "toBytes", desc := "(C)[B" } : Jvm.MethodName) jdk_43_method_46_code (1 : Nat) (Option.some (Jvm.ClassFile.FieldType.array Jvm.ClassFile.FieldType.byte)), Jvm.Cond.code ({ cls := "java/lang/String", name := "<init>", desc := "([BB)V" } : Jvm.MethodName) jdk_42_method_151_code (3 : Nat) (Option.none : Option Jvm.ClassFile.FieldType)]
set_option maxRecDepth 65536 in
theorem codes_eq : words1.filter isCode = codes1 := rfl
theorem w_codes : ∀ c ∈ words1.filter isCode, c.before args0 about1 = true := by
  rw [codes_eq]
  intro c hc
  simp only [codes1, List.mem_cons, List.not_mem_nil, or_false] at hc
  rcases hc with rfl | rfl | rfl | rfl | rfl | rfl | rfl | rfl | rfl | rfl | rfl | rfl | rfl | rfl
  · exact w_c0
  · exact w_c1
  · exact w_c2
  · exact w_c3
  · exact w_c4
  · exact w_c5
  · exact w_c6
  · exact w_c7
  · exact w_c8
  · exact w_c9
  · exact w_c10
  · exact w_c11
  · exact w_c12
  · exact w_c13
set_option maxRecDepth 65536 in
theorem w_t1 : (words1.take 24).all (fun c => isCode c || c.before args0 about1) = true := by decide +kernel
set_option maxRecDepth 65536 in
theorem w_t2 : ((words1.drop 24).take 24).all (fun c => isCode c || c.before args0 about1) = true := by decide +kernel
set_option maxRecDepth 65536 in
theorem w_t3 : (((words1.drop 24).drop 24).take 24).all (fun c => isCode c || c.before args0 about1) = true := by decide +kernel
set_option maxRecDepth 65536 in
theorem w_t4 : (((words1.drop 24).drop 24).drop 24).all (fun c => isCode c || c.before args0 about1) = true := by decide +kernel
theorem w_tables : (allAtoms (Jvm.Cond.code x code maxLocals ret :: tables_1)).before args0 about1 = true := by
  rw [allAtoms_all]
  show words1.all (fun c => c.before args0 about1) = true
  refine all_split ?_ w_codes
  rw [← List.take_append_drop 24 words1, List.all_append, w_t1, ← List.take_append_drop 24 (words1.drop 24), List.all_append, w_t2, ← List.take_append_drop 24 ((words1.drop 24).drop 24), List.all_append, w_t3, w_t4]
  rfl
set_option maxRecDepth 65536 in
theorem w_rest : rest_1_c.before args0 about1 = true := by decide +kernel
set_option maxRecDepth 65536 in
theorem w_case : (Jvm.Cond.and given_1 narrow_1).before args0 about1 = true := by decide +kernel
set_option maxRecDepth 65536 in
theorem w_consts : constsHeld consts_1 about1 := Jvm.Lit.constsHeldB_iff.mp (by decide +kernel)
theorem w_applies : (headSpec (Jvm.Cond.code x code maxLocals ret :: tables_1) room_1).applies x e0.platform about1 = true :=
  (Spec.applies_iff w_frames).mpr ⟨w_running, w_runnable, w_alone, w_named, w_hears, w_ripe, w_room, w_tables⟩
theorem atStart : AtStart classFile x code maxLocals ret World_1 tables_1 room_1 Calls_1 rest_1 Pre_1 launch0 p0 e0 about1 theMethod args0 below0 :=
  ⟨lists_1, trivial, launch0.admits_env _ _ _, launch0.least_env, fairChoices_fair.cas, fairChoices_fair.clock, w_frames, w_args, w_heap, w_applies, ⟨w_consts, trivial⟩, w_rest, w_case⟩
end start1
theorem witness_1 : WitnessClaimed_1 := ⟨start1.p0, start1.e0, start1.about1, start1.theMethod, start1.args0, start1.below0, start1.atStart⟩
end Jvm.Pilot.@@N@@
