import JvmDerived
import JvmDerived.Pilot.@@N@@Statement
import JvmDerived.Pilot.@@N@@Code
set_option linter.unusedVariables false
set_option linter.unusedSimpArgs false
namespace Jvm.RoadKit
section OwnKeep
variable {h h' h0 : Heap} {ws : List Addr} {a : Addr}
theorem Keep.otr0 (K : Keep h0 h ws) (K' : Keep h h' []) : Keep h0 h' ws := K.trans K' fun _ q => nomatch q
theorem Keep.otrN (K : Keep h0 h ws) (K' : Keep h h' [a]) (q : h0.size ≤ a) : Keep h0 h' ws := K.trans K' fun x hx => by cases List.mem_singleton.mp hx; exact Or.inr q
theorem Keep.otrM (K : Keep h0 h ws) (K' : Keep h h' [a]) (q : a ∈ ws) : Keep h0 h' ws := K.trans K' fun x hx => by cases List.mem_singleton.mp hx; exact Or.inl q
end OwnKeep
end Jvm.RoadKit
namespace Jvm.Own
open Sem ClassFile Op Lib Bundle Jvm.Stand Jvm.Free Jvm.LawKit Jvm.RoadKit
section Walk
variable {p : Program} {l : Launch} {e : Env} {R : Room} {s : State} {m : MethodId} {args : Array Value} {below : List Frame} {meth : Method} {c : Code} {T T' : State} {cells slots : Nat} {Z : State} {a0 : Array Value} {EL : List (String × Nat)} {h h' : Heap} {vm0 vm1 : Vm} {y : MethodName} {bytes : ByteArray} {ml : Nat} {ret : Option FieldType} {KC KS : Nat} {Q : Option Value → Heap → Prop} {g g' : JFrame} {pc : Nat} {Ls : Array Slot} {st rest : List Value}
/-- from T with the top frame g the body returns, and what it leaves is Q -/
def Go (p : Program) (e : Env) (below : List Frame) (s Z : State) (EL : List (String × Nat)) (KC KS : Nat) (Q : Option Value → Heap → Prop) (T : State) (g : JFrame) : Prop :=
  ∃ s₂ o, Steps p.tables e below (T.setTop g) s₂ ∧ s₂.status = .running ∧ Ended s₂ below o ∧ ∃ v L, o = .returned v ∧ (Q v s₂.heap ∧ Fr Z.heap.size L ∧ Ext Z.heap s₂.heap) ∧ CHr Z EL s.vm s.heap s₂.vm s₂.heap ∧ ReturnedEndW s o s₂ L KC KS
theorem Go.step (f : ∀ t, Steps p.tables e below (T'.setTop g') t → Steps p.tables e below (T.setTop g) t) (k : Go p e below s Z EL KC KS Q T' g') : Go p e below s Z EL KC KS Q T g := by
  obtain ⟨s₂, o, h1, r⟩ := k
  exact ⟨s₂, o, f _ h1, r⟩
theorem Go.cast (q : g = g') (k : Go p e below s Z EL KC KS Q T g') : Go p e below s Z EL KC KS Q T g := q ▸ k
/-- the contract of a body: any start whose heap is h -/
def Con (l : Launch) (Z : State) (EL : List (String × Nat)) (y : MethodName) (bytes : ByteArray) (ml : Nat) (ret : Option FieldType) (ws : List Cond) (rm : Room) (as' : Array Value) (h : Heap) (Q : Option Value → Heap → Prop) : Prop :=
  MetFree l y (head1 (Cond.code y bytes ml ret :: ws) rm) (fun a U => a = as' ∧ Z.Warmed39 U.vm ∧ U.heap = h ∧ CHv Z EL U.vm h) (fun _ _ _ _ _ => True)
    (fun _ U o U' => ∃ v L, o = .returned v ∧ (Q v U'.heap ∧ Fr Z.heap.size L ∧ Ext Z.heap U'.heap) ∧ CHr Z EL U.vm U.heap U'.vm U'.heap ∧ ReturnedEndW U o U' L rm.cells rm.slots)
/-- where a walk stands -/
def Wk (p : Program) (l : Launch) (e : Env) (R : Room) (s : State) (m : MethodId) (args : Array Value) (below : List Frame) (meth : Method) (c : Code) (Z : State) (a0 : Array Value) (EL : List (String × Nat)) (y : MethodName) (bytes : ByteArray) (ml : Nat) (ret : Option FieldType) (T : State) (h : Heap) (vm0 : Vm) (cells slots : Nat) : Prop :=
  ∃ locs : List Loc, Stand p l e R (s.setVm vm0) m args below meth c T locs cells slots ∧ T.heap = h ∧ Z.Warmed39 (s.setVm vm0).vm ∧ (s.setVm vm0).vm.findClass y.cls = some m.cls ∧ (∃ k0, s.Since vm0 k0 ∧ k0 ≤ h.size) ∧ CHr Z EL s.vm s.heap vm0 h ∧ Fr Z.heap.size locs ∧ Ext Z.heap h ∧
    p.tables.exec = Jvm.exec ∧ c.code = bytes ∧ c.maxLocals = ml ∧ meth.sig.returnType = ret ∧ meth.locks = false ∧ meth.name = y.name ∧ EW Z a0 EL
theorem ext_trans {h1 h2 h3 : Heap} (A : Ext h1 h2) (B : Ext h2 h3) : Ext h1 h3 := ⟨Nat.le_trans A.1 B.1, fun a c q => B.2 a c (A.2 a c q)⟩
theorem ext_keep {ws : List Addr} (A : Ext Z.heap h) (K : Keep h h' ws) (q : ∀ x ∈ ws, Z.heap.size ≤ x) : Ext Z.heap h' := (Old.keep (show Old Z Z.heap.size h from ⟨rfl, A⟩) K q).2
theorem keep_ext (E : Ext h h') : Keep h h' [] := (Keep.refl h []).ext E
theorem ext_keep0 (K : Keep h h' []) : Ext h h' := ⟨K.1, fun a c q => K.2.1 a c q nin0⟩
theorem Wk.here (W : Wk p l e R s m args below meth c Z a0 EL y bytes ml ret T h vm0 cells slots) : At T m c below := by obtain ⟨_, X, -⟩ := W; exact X.here
theorem Wk.hx (W : Wk p l e R s m args below meth c Z a0 EL y bytes ml ret T h vm0 cells slots) : p.tables.exec = Jvm.exec := by obtain ⟨_, -, -, -, -, -, -, -, -, r, -⟩ := W; exact r
theorem Wk.d (W : Wk p l e R s m args below meth c Z a0 EL y bytes ml ret T h vm0 cells slots) {r : Except DecodeError (Instr × Nat)} (q : decode bytes pc = r) : decode c.code pc = r := by obtain ⟨_, -, -, -, -, -, -, -, -, -, u, -⟩ := W; exact hb u q
theorem Wk.ext (W : Wk p l e R s m args below meth c Z a0 EL y bytes ml ret T h vm0 cells slots) : Ext Z.heap h := by obtain ⟨_, -, -, -, -, -, -, -, r, -⟩ := W; exact r
theorem Wk.hZ (W : Wk p l e R s m args below meth c Z a0 EL y bytes ml ret T h vm0 cells slots) : Z.Warmed39 (s.setVm vm0).vm := by obtain ⟨_, -, -, r, -⟩ := W; exact r
theorem Wk.chr (W : Wk p l e R s m args below meth c Z a0 EL y bytes ml ret T h vm0 cells slots) : CHr Z EL s.vm s.heap vm0 h := by obtain ⟨_, -, -, -, -, -, r, -⟩ := W; exact r
theorem Wk.size (W : Wk p l e R s m args below meth c Z a0 EL y bytes ml ret T h vm0 cells slots) : Z.heap.size ≤ h.size := W.ext.1
theorem Wk.more (W : Wk p l e R s m args below meth c Z a0 EL y bytes ml ret T h vm0 cells slots) {cells' slots' : Nat} (hc : cells ≤ cells') (hs : slots ≤ slots') : Wk p l e R s m args below meth c Z a0 EL y bytes ml ret T h vm0 cells' slots' := by
  obtain ⟨locs, X, r⟩ := W
  exact ⟨locs, X.mono hc hs, r⟩
/-- a body's walk gives its contract -/
theorem Con.intro {rm : Room} {as' : Array Value} {ws : List Cond} (hpl : plainFor y = true) (hE : Ext Z.heap h) (hEL : EW Z a0 EL)
    (body : ∀ (p : Program) (e : Env) (s : State) (m : MethodId) (below : List Frame) (meth : Method) (c : Code) (T : State), Wk p l e rm s m as' below meth c Z a0 EL y bytes ml ret T h s.vm 0 0 → Go p e below s Z EL rm.cells rm.slots Q T (entryFrame m as' ml)) :
    Con l Z EL y bytes ml ret ws rm as' h Q := by
  refine MetFree.of_bodySF hpl hisR ?_
  intro p e s m args below meth c s₁ Bd hml0 hP hK
  obtain ⟨rfl, hZ, hh, hC⟩ := hP
  have hown : s.vm.findClass y.cls = some m.cls := findClass_of_methodNamed Bd.named
  have hnm := (name_of_methodNamed Bd.named Bd.method).1
  have X0 : Stand p l e rm s m args below meth c s₁ [] 0 0 := Stand.of_body Bd
  have e0 : s₁.heap = h := by rw [← hh, Bd.state]; rfl
  exact body p e s m below meth c s₁ ⟨[], X0, e0, hZ, hown, ⟨0, (State.WarmedH.refl s).since 0, Nat.zero_le _⟩, by rw [hh]; exact CHr.refl hC, Fr.nil _, hE, Bd.exec, Bd.bytes, hml0, Bd.returns, Bd.notSynchronized, hnm, hEL⟩
/-- a step that leaves the heap as it is -/
theorem Wk.stay (W : Wk p l e R s m args below meth c Z a0 EL y bytes ml ret T h vm0 cells slots) (f : ∀ locs, Stand p l e R (s.setVm vm0) m args below meth c T locs cells slots → ∃ T', Stand p l e R (s.setVm vm0) m args below meth c T' locs cells slots ∧ T'.heap = h ∧ ∀ target, Steps p.tables e below (T'.setTop g') target → Steps p.tables e below (T.setTop g) target)
    (K : ∀ T', Wk p l e R s m args below meth c Z a0 EL y bytes ml ret T' h vm0 cells slots → Go p e below s Z EL KC KS Q T' g') : Go p e below s Z EL KC KS Q T g := by
  obtain ⟨locs, X, hT, r⟩ := W
  obtain ⟨T', X', hT', st⟩ := f locs X
  exact Go.step st (K T' ⟨locs, X', hT', r⟩)
theorem Wk.getF (W : Wk p l e R s m args below meth c Z a0 EL y bytes ml ret T h vm0 cells slots) {R0 O n d host : String} {index : Nat} (w : (Cond.fieldLink y.cls index R0 n d).before a0 Z = true ∨ (Cond.fieldLinkNest y.cls index R0 n d host).before a0 Z = true) (via : Via Z R0 O n d) {a : Addr} {v : Value} (F : Fld Z h a O n d v) (hd : decode bytes pc = .ok (.getfield index, 3))
    (K : ∀ T', Wk p l e R s m args below meth c Z a0 EL y bytes ml ret T' h vm0 cells slots → Go p e below s Z EL KC KS Q T' (mkF m (pc + 3) Ls (v :: rest))) : Go p e below s Z EL KC KS Q T (mkF m pc Ls (.ref a :: rest)) := by
  refine W.stay (fun locs X => ?_) K
  obtain ⟨_, -, hT, hZ, hown, -⟩ := id W
  exact RoadKit.getF X W.hx hZ hown w via hT F (g := mkF m pc Ls (.ref a :: rest)) rfl rfl (W.d hd)
theorem Wk.getS (W : Wk p l e R s m args below meth c Z a0 EL y bytes ml ret T h vm0 cells slots) {R0 O n d host : String} {index : Nat} (w : (Cond.fieldLink y.cls index R0 n d).before a0 Z = true ∨ (Cond.fieldLinkNest y.cls index R0 n d host).before a0 Z = true) (via : Via Z R0 O n d) {v : Value} (F : Sta Z Z.heap O n d v) (hd : decode bytes pc = .ok (.getstatic index, 3))
    (K : ∀ T', Wk p l e R s m args below meth c Z a0 EL y bytes ml ret T' h vm0 cells slots → Go p e below s Z EL KC KS Q T' (mkF m (pc + 3) Ls (v :: rest))) : Go p e below s Z EL KC KS Q T (mkF m pc Ls rest) := by
  refine W.stay (fun locs X => ?_) K
  obtain ⟨_, -, hT, hZ, hown, -⟩ := id W
  exact getS2 X W.hx hZ hown w via hT (F.ext W.ext) (g := mkF m pc Ls rest) rfl (W.d hd)
theorem Wk.cast (W : Wk p l e R s m args below meth c Z a0 EL y bytes ml ret T h vm0 cells slots) {K' : String} {index : Nat} (w : (Cond.classLink y.cls index K').before a0 Z = true) {a : Addr} (F : Ins Z h a K' true) (hd : decode bytes pc = .ok (.checkcast index, 3))
    (K : ∀ T', Wk p l e R s m args below meth c Z a0 EL y bytes ml ret T' h vm0 cells slots → Go p e below s Z EL KC KS Q T' (mkF m (pc + 3) Ls (.ref a :: rest))) : Go p e below s Z EL KC KS Q T (mkF m pc Ls (.ref a :: rest)) := by
  refine W.stay (fun locs X => ?_) K
  obtain ⟨_, -, hT, hZ, hown, -⟩ := id W
  exact castY X W.hx hZ hown w hT F (g := mkF m pc Ls (.ref a :: rest)) rfl rfl (W.d hd)
theorem Wk.instY (W : Wk p l e R s m args below meth c Z a0 EL y bytes ml ret T h vm0 cells slots) {K' : String} {index : Nat} (w : (Cond.classLink y.cls index K').before a0 Z = true) {a : Addr} (F : Ins Z h a K' true) (hd : decode bytes pc = .ok (.instanceof index, 3))
    (K : ∀ T', Wk p l e R s m args below meth c Z a0 EL y bytes ml ret T' h vm0 cells slots → Go p e below s Z EL KC KS Q T' (mkF m (pc + 3) Ls (.int 1 :: rest))) : Go p e below s Z EL KC KS Q T (mkF m pc Ls (.ref a :: rest)) := by
  refine W.stay (fun locs X => ?_) K
  obtain ⟨_, -, hT, hZ, hown, -⟩ := id W
  exact RoadKit.instY X W.hx hZ hown w hT F (g := mkF m pc Ls (.ref a :: rest)) rfl rfl (W.d hd)
theorem Wk.instN (W : Wk p l e R s m args below meth c Z a0 EL y bytes ml ret T h vm0 cells slots) {K' C : String} {index : Nat} (w : (Cond.classLink y.cls index K').before a0 Z = true) {a : Addr} (E : Exa Z h a C) (F : ∃ c t, Z.vm.findClass C = some c ∧ Z.vm.findClass K' = some t ∧ Z.vm.assignable c t = false) (hd : decode bytes pc = .ok (.instanceof index, 3))
    (K : ∀ T', Wk p l e R s m args below meth c Z a0 EL y bytes ml ret T' h vm0 cells slots → Go p e below s Z EL KC KS Q T' (mkF m (pc + 3) Ls (.int 0 :: rest))) : Go p e below s Z EL KC KS Q T (mkF m pc Ls (.ref a :: rest)) := by
  refine W.stay (fun locs X => ?_) K
  obtain ⟨_, -, hT, hZ, hown, -⟩ := id W
  exact instNo X W.hx hZ hown w hT E F (g := mkF m pc Ls (.ref a :: rest)) rfl rfl (W.d hd)
theorem Wk.instNull (W : Wk p l e R s m args below meth c Z a0 EL y bytes ml ret T h vm0 cells slots) {index : Nat} (hd : decode bytes pc = .ok (.instanceof index, 3)) (K : Go p e below s Z EL KC KS Q T (mkF m (pc + 3) Ls (.int 0 :: rest))) : Go p e below s Z EL KC KS Q T (mkF m pc Ls (.null :: rest)) := by
  obtain ⟨_, X, -⟩ := id W
  exact Go.step (X.instanceofNull W.hx (g := mkF m pc Ls (.null :: rest)) rfl rfl (W.d hd)) K
theorem Wk.castNull (W : Wk p l e R s m args below meth c Z a0 EL y bytes ml ret T h vm0 cells slots) {index : Nat} (hd : decode bytes pc = .ok (.checkcast index, 3)) (K : Go p e below s Z EL KC KS Q T (mkF m (pc + 3) Ls (.null :: rest))) : Go p e below s Z EL KC KS Q T (mkF m pc Ls (.null :: rest)) := by
  obtain ⟨_, X, -⟩ := id W
  exact Go.step (X.checkcastNull W.hx (g := mkF m pc Ls (.null :: rest)) rfl rfl (W.d hd)) K
theorem Wk.acmp (W : Wk p l e R s m args below meth c Z a0 EL y bytes ml ret T h vm0 cells slots) {cd : ACond} {u v : Value} (h1 : u.isRef = true) (h2 : v.isRef = true) {o : Int} {pc' : Nat} {same : Bool} (hd : decode bytes pc = .ok (.if_acmp cd o, 3)) (hq : decide (u = v) = same) (ho : 0 ≤ (pc : Int) + o) (hp : pc' = if acV cd same = true then ((pc : Int) + o).toNat else pc + 3)
    (K : Go p e below s Z EL KC KS Q T (mkF m pc' Ls rest)) : Go p e below s Z EL KC KS Q T (mkF m pc Ls (v :: u :: rest)) := by
  obtain ⟨_, X, -⟩ := id W
  exact Go.step (fun _ k => RoadKit.acmp (g := mkF m pc Ls (v :: u :: rest)) X W.hx rfl h1 h2 rfl (W.d hd) rfl hq ho hp k) K
theorem Wk.initO (W : Wk p l e R s m args below meth c Z a0 EL y bytes ml ret T h vm0 cells slots) {idx : Nat} (w1 : (Cond.methodLink y.cls idx Lib.objectInit).before a0 Z = true) (w2 : (Cond.instanceMethod Lib.objectInit).before a0 Z = true) (w3 : (Cond.code Lib.objectInit ⟨#[0xb1]⟩ 1 none).before a0 Z = true) {a : Addr} (hsz : Ls.size = ml) (hd : decode bytes pc = .ok (.invokespecial idx, 3))
    (hf : 1 ≤ R.frames) {Wd : Nat} (hW : (rest.map fun v => v.category).sum ≤ Wd) (hl : Wd + 12 ≤ R.locals)
    (K : ∀ T', Wk p l e R s m args below meth c Z a0 EL y bytes ml ret T' h vm0 cells slots → Go p e below s Z EL KC KS Q T' (mkF m (pc + 3) Ls rest)) : Go p e below s Z EL KC KS Q T (mkF m pc Ls (.ref a :: rest)) := by
  refine W.stay (fun locs X => ?_) K
  obtain ⟨_, -, hT, hZ, hown, -, -, -, -, -, -, hml, -⟩ := id W
  exact RoadKit.initO X W.hx hZ hown w1 w2 w3 hT (g := mkF m pc Ls (.ref a :: rest)) rfl (by rw [hml]; exact hsz) rfl (W.d hd) hf (W := Wd) (by show 2 * 0 + _ ≤ _; omega) hl
theorem Wk.new (W : Wk p l e R s m args below meth c Z a0 EL y bytes ml ret T h vm0 cells slots) {C : String} {index n : Nat} (w : (Cond.classLink y.cls index C).before a0 Z = true) (wi : (Cond.instantiable C n).before a0 Z = true) (wz : (Cond.initialized C).before a0 Z = true) (hd : decode bytes pc = .ok (.new index, 3)) (hc : cells + 1 ≤ R.cells) (hl : slots + n ≤ R.slots)
    (K : ∀ T' h' a, a = h.size → Wk p l e R s m args below meth c Z a0 EL y bytes ml ret T' h' vm0 (cells + 1) (slots + n) → Ext h h' → Exa Z h' a C → (∀ {O nm d : String} {ty : FieldType}, Laid Z a0 C O nm d → parseFieldDescriptor d = some ty → Fld Z h' a O nm d (defaultValue ty)) → Go p e below s Z EL KC KS Q T' (mkF m (pc + 3) Ls (.ref a :: rest))) : Go p e below s Z EL KC KS Q T (mkF m pc Ls rest) := by
  have hx := W.hx; have hd' := W.d hd
  obtain ⟨locs, X, hT, hZ, hown, ⟨k0, hS, hk⟩, hC, hF, hE, r⟩ := W
  obtain ⟨T', h', X', e', E, A, D, -, st⟩ := newO X hx hZ hown w wi wz hT (g := mkF m pc Ls rest) rfl hd' hc hl
  exact Go.step st (K T' h' _ rfl ⟨locs, X', e', hZ, hown, ⟨k0, hS, Nat.le_trans hk E.1⟩, hC.trans (CHr.ext E hC.1), hF, ext_trans hE E, r⟩ E A D)
theorem Wk.newarr (W : Wk p l e R s m args below meth c Z a0 EL y bytes ml ret T h vm0 cells slots) {aty : ArrayType} (w : (Cond.arrayClass (newarray.typeOf aty)).before a0 Z = true) {n : Int32} (hd : decode bytes pc = .ok (.newarray aty, 2)) (hn : ¬ n < 0) {cap : Nat} (hcap : n.toNatClampNeg ≤ cap) (hb : cap * 8 ≤ 536870912) (hc : cells + 1 ≤ R.cells) (hl : slots + cap ≤ R.slots)
    (K : ∀ T' h' a k, a = h.size → Wk p l e R s m args below meth c Z a0 EL y bytes ml ret T' h' vm0 (cells + 1) (slots + cap) → Ext h h' → Arv Z h' a k (newarray.typeOf aty) n [] (defaultValue (newarray.typeOf aty)) → Safe Z EL vm0 h' a → Go p e below s Z EL KC KS Q T' (mkF m (pc + 2) Ls (.ref a :: rest))) : Go p e below s Z EL KC KS Q T (mkF m pc Ls (.int n :: rest)) := by
  have hx := W.hx; have hd' := W.d hd
  obtain ⟨locs, X, hT, hZ, hown, ⟨k0, hS, hk⟩, hC, hF, hE, r⟩ := W
  obtain ⟨T', h', cA, X', e', E, A, st⟩ := newP X hx hZ w hT (g := mkF m pc Ls (.int n :: rest)) rfl hd' rfl hn hcap hb hc hl
  exact Go.step st (K T' h' _ cA rfl ⟨locs, X', e', hZ, hown, ⟨k0, hS, Nat.le_trans hk E.1⟩, hC.trans (CHr.ext E hC.1), hF, ext_trans hE E, r⟩ E (Arv.new A hn) (Safe.ext E hC.1 (Safe.new (Nat.le_refl _))))
/-- a write into one cell made since the law began -/
theorem Wk.wrote (W : Wk p l e R s m args below meth c Z a0 EL y bytes ml ret T h vm0 cells slots) {a : Addr} {sl : Nat} {v : Value} (ha : Z.heap.size ≤ a) (S : Safe Z EL vm0 h a)
    (f : ∀ locs, Stand p l e R (s.setVm vm0) m args below meth c T locs cells slots → ∃ T' h', Stand p l e R (s.setVm vm0) m args below meth c T' (locs ++ [⟨a, sl⟩]) cells slots ∧ T'.heap = h' ∧ Wr h h' a sl v ∧ ∀ target, Steps p.tables e below (T'.setTop g') target → Steps p.tables e below (T.setTop g) target)
    (K : ∀ T' h', Wk p l e R s m args below meth c Z a0 EL y bytes ml ret T' h' vm0 cells slots → Wr h h' a sl v → Go p e below s Z EL KC KS Q T' g') : Go p e below s Z EL KC KS Q T g := by
  obtain ⟨locs, X, hT, hZ, hown, ⟨k0, hS, hk⟩, hC, hF, hE, r⟩ := W
  obtain ⟨T', h', X', e', Ww, st⟩ := f locs X
  exact Go.step st (K T' h' ⟨_, X', e', hZ, hown, ⟨k0, hS, by rw [Ww.size]; exact hk⟩, hC.trans (CHr.wr Ww S hC.1), Fr.snoc X' hF ha, ext_keep hE (Keep.of_wr Ww) (allS ha all0), r⟩ Ww)
theorem Wk.putF (W : Wk p l e R s m args below meth c Z a0 EL y bytes ml ret T h vm0 cells slots) {R0 O n d host C : String} {index kk : Nat} {ty : FieldType} (w : (Cond.fieldLink y.cls index R0 n d).before a0 Z = true ∨ (Cond.fieldLinkNest y.cls index R0 n d host).before a0 Z = true) (via : Via Z R0 O n d)
    {a : Addr} {v old : Value} (F : Fld Z h a O n d old) (E : Exa Z h a C) (L : (Cond.lays C O n d).before a0 Z = true ∨ ((Cond.laysFinal C O n d).before a0 Z = true ∧ y.cls = O ∧ y.name = "<init>")) (wi : (Cond.instantiable C kk).before a0 Z = true) (hty : parseFieldDescriptor d = some ty) (hn : narrow ty v = v) (hf : fits ty v = true)
    (ha : Z.heap.size ≤ a) (S : Safe Z EL vm0 h a) (hd : decode bytes pc = .ok (.putfield index, 3))
    (K : ∀ T' h', Wk p l e R s m args below meth c Z a0 EL y bytes ml ret T' h' vm0 cells slots → Wr h h' a (RoadKit.slotOf Z O n d) v → Fld Z h' a O n d v → Go p e below s Z EL KC KS Q T' (mkF m (pc + 3) Ls rest)) : Go p e below s Z EL KC KS Q T (mkF m pc Ls (v :: .ref a :: rest)) := by
  refine W.wrote (sl := RoadKit.slotOf Z O n d) (v := v) ha S (fun locs X => ?_) (fun T' h' W' Ww => K T' h' W' Ww (F.same Ww))
  obtain ⟨_, -, hT, hZ, hown, -, -, -, -, -, -, -, -, -, hnm, -⟩ := id W
  exact RoadKit.putF X W.hx hZ hown w via hT F E (L.imp id fun q => ⟨q.1, q.2.1, hnm.trans q.2.2⟩) wi hty hn hf (g := mkF m pc Ls (v :: .ref a :: rest)) rfl rfl (W.d hd)
theorem Wk.castore (W : Wk p l e R s m args below meth c Z a0 EL y bytes ml ret T h vm0 cells slots) {a : Addr} {k : ClassId} {n j x : Int32} {vs : List Value} {dv : Value} (V : Arv Z h a k .char n vs dv) (i : Nat) (hj : j.toNatClampNeg = i) (hi : i < vs.length) (hin : ¬ j < 0 ∧ j < n) (ha : Z.heap.size ≤ a) (hd : decode bytes pc = .ok (.castore, 1))
    (K : ∀ T' h', Wk p l e R s m args below meth c Z a0 EL y bytes ml ret T' h' vm0 cells slots → Keep h h' [a] → Arv Z h' a k .char n (vs.set i (.int (nar .char x))) dv → Go p e below s Z EL KC KS Q T' (mkF m (pc + 1) Ls rest)) : Go p e below s Z EL KC KS Q T (mkF m pc Ls (.int x :: .int j :: .ref a :: rest)) := by
  have S : Safe Z EL vm0 h a := Safe.arv W.hZ.alike V (by decide)
  obtain ⟨cl, A, q1, S1, q3, H, G⟩ := id V
  refine W.wrote (sl := j.toNatClampNeg) (v := .int (nar .char x)) ha S (fun locs X => ?_) (fun T' h' W' Ww => K T' h' W' (Keep.of_wr Ww) (Arv.set A q1 S1 q3 H G (fits_nar_char _) Ww i hj hi))
  obtain ⟨_, -, hT, hZ, -⟩ := id W
  exact stC X W.hx hZ hT A (inb_of S1 hin) (g := mkF m pc Ls (.int x :: .int j :: .ref a :: rest)) rfl rfl (W.d hd)
theorem Wk.bastore (W : Wk p l e R s m args below meth c Z a0 EL y bytes ml ret T h vm0 cells slots) {a : Addr} {k : ClassId} {n j x : Int32} {vs : List Value} {dv : Value} (V : Arv Z h a k .byte n vs dv) (i : Nat) (hj : j.toNatClampNeg = i) (hi : i < vs.length) (hin : ¬ j < 0 ∧ j < n) (ha : Z.heap.size ≤ a) (S : Safe Z EL vm0 h a) (hd : decode bytes pc = .ok (.bastore, 1))
    (K : ∀ T' h', Wk p l e R s m args below meth c Z a0 EL y bytes ml ret T' h' vm0 cells slots → Keep h h' [a] → Arv Z h' a k .byte n (vs.set i (.int (nar .byte x))) dv → Go p e below s Z EL KC KS Q T' (mkF m (pc + 1) Ls rest)) : Go p e below s Z EL KC KS Q T (mkF m pc Ls (.int x :: .int j :: .ref a :: rest)) := by
  obtain ⟨cl, A, q1, S1, q3, H, G⟩ := id V
  refine W.wrote (sl := j.toNatClampNeg) (v := .int (nar .byte x)) ha S (fun locs X => ?_) (fun T' h' W' Ww => K T' h' W' (Keep.of_wr Ww) (Arv.set A q1 S1 q3 H G (fits_nar_byte _) Ww i hj hi))
  obtain ⟨_, -, hT, hZ, -⟩ := id W
  exact stB X W.hx hZ hT A (inb_of S1 hin) (g := mkF m pc Ls (.int x :: .int j :: .ref a :: rest)) rfl rfl (W.d hd)
theorem Wk.baload (W : Wk p l e R s m args below meth c Z a0 EL y bytes ml ret T h vm0 cells slots) {a : Addr} {k : ClassId} {n j : Int32} {vs : List Value} {dv v : Value} (V : Arv Z h a k .byte n vs dv) (hin : ¬ j < 0 ∧ j < n) (hv : vs.getD j.toNatClampNeg dv = v) (hd : decode bytes pc = .ok (.baload, 1))
    (K : Go p e below s Z EL KC KS Q T (mkF m (pc + 1) Ls (v :: rest))) : Go p e below s Z EL KC KS Q T (mkF m pc Ls (.int j :: .ref a :: rest)) := by
  obtain ⟨cl, A, q1, S1, q3, H, G⟩ := id V
  obtain ⟨_, X, hT, hZ, -⟩ := id W
  exact Go.step (X.baloadBytes W.hx (j := j) (v := v) (by rw [hT]; exact A.1) (State.isArrayOf_alike hZ.alike A.2.1) A.2.2 (inb_of S1 hin) (H.at (inb_of S1 hin) hv) (g := mkF m pc Ls (.int j :: .ref a :: rest)) rfl rfl (W.d hd)) K
theorem Wk.caload (W : Wk p l e R s m args below meth c Z a0 EL y bytes ml ret T h vm0 cells slots) {a : Addr} {k : ClassId} {n j : Int32} {vs : List Value} {dv v : Value} (V : Arv Z h a k .char n vs dv) (hin : ¬ j < 0 ∧ j < n) (hv : vs.getD j.toNatClampNeg dv = v) (hd : decode bytes pc = .ok (.caload, 1))
    (K : Go p e below s Z EL KC KS Q T (mkF m (pc + 1) Ls (v :: rest))) : Go p e below s Z EL KC KS Q T (mkF m pc Ls (.int j :: .ref a :: rest)) := by
  obtain ⟨cl, A, q1, S1, q3, H, G⟩ := id V
  obtain ⟨_, X, hT, hZ, -⟩ := id W
  exact Go.step (X.caload W.hx (j := j) (v := v) (by rw [hT]; exact A.1) (State.isArrayOf_alike hZ.alike A.2.1) A.2.2 (inb_of S1 hin) (H.at (inb_of S1 hin) hv) (g := mkF m pc Ls (.int j :: .ref a :: rest)) rfl rfl (W.d hd)) K
theorem Wk.aaload (W : Wk p l e R s m args below meth c Z a0 EL y bytes ml ret T h vm0 cells slots) {a : Addr} {k : ClassId} {ty : FieldType} {n j : Int32} {vs : List Value} {dv v : Value} (V : Arv Z h a k ty n vs dv) (ht : ty.isReference = true) (hin : ¬ j < 0 ∧ j < n) (hv : vs.getD j.toNatClampNeg dv = v) (hd : decode bytes pc = .ok (.aaload, 1))
    (K : Go p e below s Z EL KC KS Q T (mkF m (pc + 1) Ls (v :: rest))) : Go p e below s Z EL KC KS Q T (mkF m pc Ls (.int j :: .ref a :: rest)) := by
  obtain ⟨cl, A, q1, S1, q3, H, G⟩ := id V
  obtain ⟨_, X, hT, hZ, -⟩ := id W
  exact Go.step (X.aaload W.hx (j := j) (v := v) (by rw [hT]; exact A.1) (State.isArrayOf_alike hZ.alike A.2.1) ht A.2.2 (inb_of S1 hin) (H.at (inb_of S1 hin) hv) (g := mkF m pc Ls (.int j :: .ref a :: rest)) rfl rfl (W.d hd)) K
/-- clone() of an array -/
theorem Wk.clone (W : Wk p l e R s m args below meth c Z a0 EL y bytes ml ret T h vm0 cells slots) {ad : String} {index : Nat} (w1 : (Cond.methodLink y.cls index ⟨ad, "clone", "()Ljava/lang/Object;"⟩).before a0 Z = true) (w2 : (Cond.sameMethod ad "java/lang/Object" "clone" "()Ljava/lang/Object;").before a0 Z = true) (w3 : (Cond.native ⟨"java/lang/Object", "clone", "()Ljava/lang/Object;"⟩).before a0 Z = true)
    (w4 : (Cond.instanceMethod ⟨"java/lang/Object", "clone", "()Ljava/lang/Object;"⟩).before a0 Z = true) (w5 : (Cond.selects ad ⟨ad, "clone", "()Ljava/lang/Object;"⟩ ⟨"java/lang/Object", "clone", "()Ljava/lang/Object;"⟩).before a0 Z = true) (w6 : (Cond.castable ad "java/lang/Cloneable").before a0 Z = true)
    {a : Addr} {k : ClassId} {ty : FieldType} {n : Int32} {vs : List Value} {dv : Value} (V : Arv Z h a k ty n vs dv) (E : Exa Z h a ad) (hsz : Ls.size = ml) (hd : decode bytes pc = .ok (.invokevirtual index, 3)) (hf : 1 ≤ R.frames) {Wd cap : Nat} (hW : (rest.map fun v => v.category).sum ≤ Wd) (hl : Wd + 14 ≤ R.locals) (hcap : n.toNatClampNeg ≤ cap) (hc : cells + 1 ≤ R.cells) (hsl : slots + cap ≤ R.slots)
    (K : ∀ T' h' b, b = h.size → Wk p l e R s m args below meth c Z a0 EL y bytes ml ret T' h' vm0 (cells + 1) (slots + cap) → Ext h h' → Exa Z h' b ad → Arv Z h' b k ty n vs dv → Go p e below s Z EL KC KS Q T' (mkF m (pc + 3) Ls (.ref b :: rest))) : Go p e below s Z EL KC KS Q T (mkF m pc Ls (.ref a :: rest)) := by
  have hx := W.hx; have hd' := W.d hd
  obtain ⟨locs, X, hT, hZ, hown, ⟨k0, hS, hk⟩, hC, hF, hE, r1, r2, hml, r⟩ := W
  obtain ⟨cl, A, q1, S, q3, H, G⟩ := V
  have FC : FitC Z cl := fitC_of A fun i hi v hv => by rw [H i hi] at hv; cases hv; exact G i hi
  obtain ⟨T', h', X', e', Ex, A', E', st⟩ := cloneA X hx hZ hown w1 w2 w3 w4 w5 w6 hT A E FC (g := mkF m pc Ls (.ref a :: rest)) rfl (by rw [hml]; exact hsz) rfl hd' hf (W := Wd) (by show 2 * 0 + _ ≤ _; omega) hl (by rw [S]; exact hcap) hc hsl
  exact Go.step st (K T' h' _ rfl ⟨locs, X', e', hZ, hown, ⟨k0, hS, Nat.le_trans hk Ex.1⟩, hC.trans (CHr.ext Ex hC.1), hF, ext_trans hE Ex, r1, r2, hml, r⟩ Ex E' ⟨cloneOf cl, A', q1, S, q3, H, G⟩)
theorem Wk.arraylength (W : Wk p l e R s m args below meth c Z a0 EL y bytes ml ret T h vm0 cells slots) {a : Addr} {k : ClassId} {ty : FieldType} {n : Int32} {vs : List Value} {dv : Value} (V : Arv Z h a k ty n vs dv) (hd : decode bytes pc = .ok (.arraylength, 1))
    (K : Go p e below s Z EL KC KS Q T (mkF m (pc + 1) Ls (.int n :: rest))) : Go p e below s Z EL KC KS Q T (mkF m pc Ls (.ref a :: rest)) := by
  obtain ⟨cl, A, q1, S1, q3, H, G⟩ := id V
  obtain ⟨_, X, hT, hZ, -⟩ := id W
  refine Go.step (X.arraylength W.hx (by rw [hT]; exact A.1) (State.isArrayOf_alike hZ.alike A.2.1) (g := mkF m pc Ls (.ref a :: rest)) rfl rfl (W.d hd)) ?_
  rw [len_of S1 q3]; exact K
/-- ldc of a String constant, not read -/
theorem Wk.ldcO (W : Wk p l e R s m args below meth c Z a0 EL y bytes ml ret T h vm0 cells slots) {text : String} {index : Nat} (w : (Cond.stringLink y.cls index text).before a0 Z = true) (wS : ∀ a ∈ Bundle.stringAtoms, a.before a0 Z = true) (hd : decode bytes pc = .ok (.ldc index, 2)) {n : Nat} (hn : 4 * text.toList.length ≤ n) (hbig : n ≤ 536870912) (hc : cells + 2 ≤ R.cells) (hl : slots + (n + 4) ≤ R.slots)
    (K : ∀ T' h' vm1 a, Wk p l e R s m args below meth c Z a0 EL y bytes ml ret T' h' vm1 (cells + 2) (slots + (n + 4)) → Ext h h' → CHr Z EL vm0 h vm1 h' → Go p e below s Z EL KC KS Q T' (mkF m (pc + 2) Ls (.ref a :: rest))) : Go p e below s Z EL KC KS Q T (mkF m pc Ls rest) := by
  have hx := W.hx; have hd' := W.d hd
  obtain ⟨locs, X, hT, hZ, hown, ⟨k0, hS, hk⟩, hC, hF, hE, r1, r2, r3, r4, r5, r6, hEL⟩ := W
  obtain ⟨a, T', h', k1, X', e', E, hS', hk', hZ', hown', hC', -, st⟩ := ldcOH X hx hZ hown w wS hT hS hk hEL hC.1 (g := mkF m pc Ls rest) rfl hd' hn hbig hc hl
  exact Go.step st (K T' h' T'.vm a ⟨locs, X', e', hZ', hown', ⟨k1, hS', hk'⟩, hC.trans hC', hF, ext_trans hE E, r1, r2, r3, r4, r5, r6, hEL⟩ E hC')
/-- ldc of a String constant, read -/
theorem Wk.ldcR (W : Wk p l e R s m args below meth c Z a0 EL y bytes ml ret T h vm0 cells slots) {text : String} {index : Nat} (w : (Cond.stringLink y.cls index text).before a0 Z = true) (wS : ∀ a ∈ Bundle.stringAtoms, a.before a0 Z = true) (hmem : (y.cls, index) ∈ EL) {vs : List Value} {z : Int32} (ht : (∀ c ∈ text.toList, c.toNat < 256) ∧ text.toList.map (fun c => Value.int (Jvm.Lit.byteI c.toNat.toUInt16)) = vs) (hz : ¬ z < 0) (hlz : z.toNatClampNeg = vs.length)
    (hd : decode bytes pc = .ok (.ldc index, 2)) {n : Nat} (hn : 4 * text.toList.length ≤ n) (hbig : n ≤ 536870912) (hc : cells + 2 ≤ R.cells) (hl : slots + (n + 4) ≤ R.slots)
    (K : ∀ T' h' vm1 a b k, Wk p l e R s m args below meth c Z a0 EL y bytes ml ret T' h' vm1 (cells + 2) (slots + (n + 4)) → Ext h h' → CHr Z EL vm0 h vm1 h' → Exa Z h' a "java/lang/String" → Fld Z h' a "java/lang/String" "coder" "B" (.int 0) → Fld Z h' a "java/lang/String" "value" "[B" (.ref b) → Arv Z h' b k .byte z vs (.int 0) → (∀ x, Safe Z EL vm1 h' x → x ≠ a ∧ x ≠ b) → Go p e below s Z EL KC KS Q T' (mkF m (pc + 2) Ls (.ref a :: rest))) : Go p e below s Z EL KC KS Q T (mkF m pc Ls rest) := by
  have hx := W.hx; have hd' := W.d hd
  obtain ⟨locs, X, hT, hZ, hown, ⟨k0, hS, hk⟩, hC, hF, hE, r1, r2, r3, r4, r5, r6, hEL⟩ := W
  obtain ⟨a, T', h', k1, b, k, X', e', E, hS', hk', hZ', hown', q1, q2, q3, q4, -, -, hC', -, q5, st⟩ := ldcCH X hx hZ hown w wS hT hS hk hEL hmem hC.1 ht hz hlz (g := mkF m pc Ls rest) rfl hd' hn hbig hc hl
  exact Go.step st (K T' h' T'.vm a b k ⟨locs, X', e', hZ', hown', ⟨k1, hS', hk'⟩, hC.trans hC', hF, ext_trans hE E, r1, r2, r3, r4, r5, r6, hEL⟩ E hC' q1 q2 q3 q4 q5)
/-- what a call by a contract gives back -/
theorem Wk.back (W : Wk p l e R s m args below meth c Z a0 EL y bytes ml ret T h vm0 cells slots) {y' : MethodName} {bytes' : ByteArray} {ml' : Nat} {ret' : Option FieldType} {rm : Room} {as' : Array Value} {Qc : Option Value → Heap → Prop} {len Wd : Nat} (C : Con l Z EL y' bytes' ml' ret' [] rm as' h Qc) (wc : (Cond.code y' bytes' ml' ret').before a0 Z = true) (wz : (Cond.initialized y'.cls).before a0 Z = true) (hfr : rm.frames + 1 ≤ R.frames) (hlo : Wd + (ml' + 11) + rm.locals ≤ R.locals) :
    BackS l R p e below (s.setVm vm0) args y' len Wd (fun A a => a = as' ∧ A.U.heap = h ∧ A.cells + rm.cells ≤ R.cells ∧ A.slots + rm.slots ≤ R.slots)
      (fun A _ v B => ∃ L, (Qc v B.U.heap ∧ Fr Z.heap.size L ∧ Ext Z.heap B.U.heap) ∧ B.locs = A.locs ++ L ∧ B.cells = A.cells + rm.cells ∧ B.slots = A.slots + rm.slots ∧ CHr Z EL vm0 h B.U.vm B.U.heap) := by
  obtain ⟨locs, X, hT, hZ, hown, -, hC, hF, hE, r1, r2, r3, r4, r5, r6, hEL⟩ := W
  exact backOfSH (Q := fun v h' L => Qc v h' ∧ Fr Z.heap.size L ∧ Ext Z.heap h') C hZ wc wz hfr hlo hEL hC.1
/-- behind such a call -/
theorem Wk.behind (W : Wk p l e R s m args below meth c Z a0 EL y bytes ml ret T h vm0 cells slots) {rm : Room} {Qc : Option Value → Heap → Prop} {locs : List Loc} (hF : Fr Z.heap.size locs) {v : Option Value} {B : Pt}
    (X' : Stand p l e R ((s.setVm vm0).setVm B.U.vm) m args below meth c B.U B.locs B.cells B.slots) (h2 : (s.setVm vm0).Since B.U.vm B.U.heap.size) (hg : T.heap.size ≤ B.U.heap.size) {L : List Loc} (hl : B.locs = locs ++ L) (hq : Qc v B.U.heap ∧ Fr Z.heap.size L ∧ Ext Z.heap B.U.heap) (hc : B.cells = cells + rm.cells) (hs : B.slots = slots + rm.slots) (hC' : CHr Z EL vm0 h B.U.vm B.U.heap) :
    Wk p l e R s m args below meth c Z a0 EL y bytes ml ret B.U B.U.heap B.U.vm (cells + rm.cells) (slots + rm.slots) := by
  obtain ⟨_, X, hT, hZ, hown, ⟨k0, hS, hk⟩, hC, -, hE, r⟩ := W
  obtain ⟨Y, hS', hZ', hown'⟩ := rebS hS (by rw [← hT] at hk; exact hk) X' h2 hg hZ hown
  rw [hl, hc, hs] at Y
  exact ⟨_, Y, rfl, hZ', hown', ⟨_, hS', Nat.le_refl _⟩, hC.trans hC', hF.app hq.2.1, hq.2.2, r⟩
theorem Wk.callS (W : Wk p l e R s m args below meth c Z a0 EL y bytes ml ret T h vm0 cells slots) {index : Nat} {y' : MethodName} {bytes' : ByteArray} {ml' : Nat} {ret' : Option FieldType} {rm : Room} {as' : Array Value} {Qc : Option Value → Heap → Prop} {Wd : Nat}
    (wl : (Cond.methodLink y.cls index y').before a0 Z = true) (wst : (Cond.static y').before a0 Z = true) (wz : (Cond.initialized y'.cls).before a0 Z = true) (wc : (Cond.code y' bytes' ml' ret').before a0 Z = true) (hy : y'.cls ≠ "java/lang/invoke/MethodHandle" ∧ y'.cls ≠ "java/lang/invoke/VarHandle")
    (C : Con l Z EL y' bytes' ml' ret' [] rm as' h Qc) (hfr : rm.frames + 1 ≤ R.frames) (hlo : Wd + (ml' + 11) + rm.locals ≤ R.locals) (argsL : List Value) (rest : List Value) (has : argsL.toArray = as') {ps : List FieldType} {r' : Option FieldType} (hdesc : parseMethodDescriptor y'.desc = some ⟨ps, r'⟩) (hlen : argsL.length = ps.length) (hsz : Ls.size = ml) (hst : st = argsL.reverse ++ rest) (hW : (rest.map fun v => v.category).sum ≤ Wd)
    (hd : decode bytes pc = .ok (.invokestatic index, 3)) (hc : cells + rm.cells ≤ R.cells) (hs : slots + rm.slots ≤ R.slots)
    (K : ∀ v T' h' vm1, Wk p l e R s m args below meth c Z a0 EL y bytes ml ret T' h' vm1 (cells + rm.cells) (slots + rm.slots) → Qc v h' → CHr Z EL vm0 h vm1 h' → Go p e below s Z EL KC KS Q T' (mkF m (pc + 3) Ls (v.toList ++ rest))) : Go p e below s Z EL KC KS Q T (mkF m pc Ls st) := by
  have bk := W.back (len := 3) (Wd := Wd) C wc wz hfr hlo
  have hx := W.hx; have hd' := W.d hd
  obtain ⟨locs, X, hT, hZ, hown, -, -, hF, -, -, -, hml, -⟩ := id W
  obtain ⟨v, vm₁, B, -, X', h2, hg, ⟨L, hq, hl, hcc, hss, hC'⟩, stp⟩ := callSS X hx hown (mvT hZ wl) (mvT hZ wst) (mvT hZ wz) (mvT hZ wc) hy bk (g := mkF m pc Ls st) rfl (by rw [hml]; exact hsz) (argsL := argsL) (rest := rest) (lenOf hdesc hlen) hst (by show 2 * 0 + _ ≤ _; omega) hd' (fun vm₁ _ => ⟨has, hT, hc, hs⟩)
  exact Go.step (fun _ k => stp.trans k) (K v B.U B.U.heap B.U.vm (W.behind (rm := rm) (Qc := Qc) hF X' h2 hg hl hq hcc hss hC') hq.1 hC')
theorem Wk.special (W : Wk p l e R s m args below meth c Z a0 EL y bytes ml ret T h vm0 cells slots) {index : Nat} {y' : MethodName} {bytes' : ByteArray} {ml' : Nat} {rm : Room} {as' : Array Value} {Qc : Option Value → Heap → Prop} {Wd : Nat} (hin : y'.name = "<init>")
    (wl : (Cond.methodLink y.cls index y').before a0 Z = true) (wi : (Cond.instanceMethod y').before a0 Z = true) (wz : (Cond.initialized y'.cls).before a0 Z = true) (wc : (Cond.code y' bytes' ml' none).before a0 Z = true) (hy : y'.cls ≠ "java/lang/invoke/MethodHandle" ∧ y'.cls ≠ "java/lang/invoke/VarHandle")
    (C : Con l Z EL y' bytes' ml' none [] rm as' h Qc) (hfr : rm.frames + 1 ≤ R.frames) (hlo : Wd + (ml' + 11) + rm.locals ≤ R.locals) (a : Addr) (argsL : List Value) (rest : List Value) (has : (.ref a :: argsL).toArray = as') {ps : List FieldType} {r' : Option FieldType} (hdesc : parseMethodDescriptor y'.desc = some ⟨ps, r'⟩) (hlen : argsL.length = ps.length) (hsz : Ls.size = ml) (hst : st = argsL.reverse ++ .ref a :: rest) (hW : (rest.map fun v => v.category).sum ≤ Wd)
    (hd : decode bytes pc = .ok (.invokespecial index, 3)) (hc : cells + rm.cells ≤ R.cells) (hs : slots + rm.slots ≤ R.slots)
    (K : ∀ v T' h' vm1, Wk p l e R s m args below meth c Z a0 EL y bytes ml ret T' h' vm1 (cells + rm.cells) (slots + rm.slots) → Qc v h' → CHr Z EL vm0 h vm1 h' → Go p e below s Z EL KC KS Q T' (mkF m (pc + 3) Ls (v.toList ++ rest))) : Go p e below s Z EL KC KS Q T (mkF m pc Ls st) := by
  have bk := W.back (len := 3) (Wd := Wd) C wc wz hfr hlo
  have hx := W.hx; have hd' := W.d hd
  obtain ⟨locs, X, hT, hZ, hown, -, -, hF, -, -, -, hml, -⟩ := id W
  obtain ⟨v, vm₁, B, -, X', h2, hg, ⟨L, hq, hl, hcc, hss, hC'⟩, stp⟩ := X.specialBackS hx hin hown (mvT hZ wl) (mvT hZ wi) (mvT hZ wc) hy bk (g := mkF m pc Ls st) rfl (by rw [hml]; exact hsz) (Steps.refl _) (a := a) (argsL := argsL) (rest := rest) (lenOf hdesc hlen) hst (by show 2 * 0 + _ ≤ _; omega) hd' (fun vm₁ _ => ⟨has, hT, hc, hs⟩)
  exact Go.step (fun _ k => stp.trans k) (K v B.U B.U.heap B.U.vm (W.behind (rm := rm) (Qc := Qc) hF X' h2 hg hl hq hcc hss hC') hq.1 hC')
theorem Wk.virtual (W : Wk p l e R s m args below meth c Z a0 EL y bytes ml ret T h vm0 cells slots) {index : Nat} {yr y' : MethodName} {D : String} {bytes' : ByteArray} {ml' : Nat} {ret' : Option FieldType} {rm : Room} {as' : Array Value} {Qc : Option Value → Heap → Prop} {Wd : Nat}
    (wl : (Cond.methodLink y.cls index yr).before a0 Z = true) (wd : (Cond.declares yr).before a0 Z = true) (hnf : NotFace (s.setVm vm0) yr) (wsel : (Cond.selects D yr y').before a0 Z = true) (wi : (Cond.instanceMethod y').before a0 Z = true) (wz : (Cond.initialized y'.cls).before a0 Z = true) (wc : (Cond.code y' bytes' ml' ret').before a0 Z = true) (hy : yr.cls ≠ "java/lang/invoke/MethodHandle" ∧ yr.cls ≠ "java/lang/invoke/VarHandle")
    (C : Con l Z EL y' bytes' ml' ret' [] rm as' h Qc) (hfr : rm.frames + 1 ≤ R.frames) (hlo : Wd + (ml' + 11) + rm.locals ≤ R.locals) (a : Addr) (E : Exa Z h a D) (argsL : List Value) (rest : List Value) (has : (.ref a :: argsL).toArray = as') {ps : List FieldType} {r' : Option FieldType} (hdesc : parseMethodDescriptor yr.desc = some ⟨ps, r'⟩) (hlen : argsL.length = ps.length) (hsz : Ls.size = ml) (hst : st = argsL.reverse ++ .ref a :: rest) (hW : (rest.map fun v => v.category).sum ≤ Wd)
    (hd : decode bytes pc = .ok (.invokevirtual index, 3)) (hc : cells + rm.cells ≤ R.cells) (hs : slots + rm.slots ≤ R.slots)
    (K : ∀ v T' h' vm1, Wk p l e R s m args below meth c Z a0 EL y bytes ml ret T' h' vm1 (cells + rm.cells) (slots + rm.slots) → Qc v h' → CHr Z EL vm0 h vm1 h' → Go p e below s Z EL KC KS Q T' (mkF m (pc + 3) Ls (v.toList ++ rest))) : Go p e below s Z EL KC KS Q T (mkF m pc Ls st) := by
  have bk := W.back (len := 3) (Wd := Wd) C wc wz hfr hlo
  have hx := W.hx; have hd' := W.d hd
  obtain ⟨locs, X, hT, hZ, hown, -, -, hF, -, -, -, hml, -⟩ := id W
  obtain ⟨cB, kB, i1, -, i3⟩ := isOf hZ hT E
  obtain ⟨v, vm₁, B, -, X', h2, hg, ⟨L, hq, hl, hcc, hss, hC'⟩, stp⟩ := X.virtualBackS hx hown (mvT hZ wl) (mvT hZ wd) hnf (mvT hZ wsel) (mvT hZ wi) hy bk i1 i3 (g := mkF m pc Ls st) rfl (by rw [hml]; exact hsz) (Steps.refl _) (argsL := argsL) (rest := rest) (lenOf hdesc hlen) hst (by show 2 * 0 + _ ≤ _; omega) hd' (fun vm₁ _ => ⟨has, hT, hc, hs⟩)
  exact Go.step (fun _ k => stp.trans k) (K v B.U B.U.heap B.U.vm (W.behind (rm := rm) (Qc := Qc) hF X' h2 hg hl hq hcc hss hC') hq.1 hC')
theorem Wk.iface (W : Wk p l e R s m args below meth c Z a0 EL y bytes ml ret T h vm0 cells slots) {index count : Nat} {yr y' : MethodName} {D : String} {bytes' : ByteArray} {ml' : Nat} {ret' : Option FieldType} {rm : Room} {as' : Array Value} {Qc : Option Value → Heap → Prop} {Wd : Nat}
    (wl : (Cond.methodLink y.cls index yr).before a0 Z = true) (wd : (Cond.declares yr).before a0 Z = true) (wf : (Cond.interfaceMethod yr.cls yr.cls yr.name yr.desc).before a0 Z = true) (wsel : (Cond.selects D yr y').before a0 Z = true) (wi : (Cond.instanceMethod y').before a0 Z = true) (wp : (Cond.publicMethod y').before a0 Z = true) (wu : (Cond.unhidden D yr.name yr.desc).before a0 Z = true) (wk : (Cond.castable D yr.cls).before a0 Z = true) (wz : (Cond.initialized y'.cls).before a0 Z = true) (wc : (Cond.code y' bytes' ml' ret').before a0 Z = true) (hy : yr.cls ≠ "java/lang/invoke/MethodHandle" ∧ yr.cls ≠ "java/lang/invoke/VarHandle")
    (C : Con l Z EL y' bytes' ml' ret' [] rm as' h Qc) (hfr : rm.frames + 1 ≤ R.frames) (hlo : Wd + (ml' + 11) + rm.locals ≤ R.locals) (a : Addr) (E : Exa Z h a D) (argsL : List Value) (rest : List Value) (has : (.ref a :: argsL).toArray = as') {ps : List FieldType} {r' : Option FieldType} (hdesc : parseMethodDescriptor yr.desc = some ⟨ps, r'⟩) (hlen : argsL.length = ps.length) (hsz : Ls.size = ml) (hst : st = argsL.reverse ++ .ref a :: rest) (hW : (rest.map fun v => v.category).sum ≤ Wd)
    (hd : decode bytes pc = .ok (.invokeinterface index count, 5)) (hc : cells + rm.cells ≤ R.cells) (hs : slots + rm.slots ≤ R.slots)
    (K : ∀ v T' h' vm1, Wk p l e R s m args below meth c Z a0 EL y bytes ml ret T' h' vm1 (cells + rm.cells) (slots + rm.slots) → Qc v h' → CHr Z EL vm0 h vm1 h' → Go p e below s Z EL KC KS Q T' (mkF m (pc + 5) Ls (v.toList ++ rest))) : Go p e below s Z EL KC KS Q T (mkF m pc Ls st) := by
  have bk := W.back (len := 5) (Wd := Wd) C wc wz hfr hlo
  have hx := W.hx; have hd' := W.d hd
  obtain ⟨locs, X, hT, hZ, hown, -, -, hF, -, -, -, hml, -⟩ := id W
  obtain ⟨cB, kB, i1, i2, i3⟩ := isOf hZ hT E
  obtain ⟨v, vm₁, B, -, X', h2, hg, ⟨L, hq, hl, hcc, hss, hC'⟩, stp⟩ := X.interfaceBackS hx hown (mvT hZ wl) (mvT hZ wd) (mvT hZ wf (by simp [Cond.onTables, Cond.keepsFace, Cond.faceAtom, Cond.keeps, Cond.steady, hy.1, hy.2])) (mvT hZ wsel) (mvT hZ wi) (mvT hZ wp) (mvT hZ wu) (mvT hZ wk) hy bk i1 i2 i3 (g := mkF m pc Ls st) rfl (by rw [hml]; exact hsz) (Steps.refl _) (argsL := argsL) (rest := rest) (lenOf hdesc hlen) hst (by show 2 * 0 + _ ≤ _; omega) hd' (fun vm₁ _ => ⟨has, hT, hc, hs⟩)
  exact Go.step (fun _ k => stp.trans k) (K v B.U B.U.heap B.U.vm (W.behind (rm := rm) (Qc := Qc) hF X' h2 hg hl hq hcc hss hC') hq.1 hC')
/-- behind a call by a law that interns nothing -/
theorem Wk.behindB (W : Wk p l e R s m args below meth c Z a0 EL y bytes ml ret T h vm0 cells slots) {kc ks : Nat} {locs L : List Loc} {ws : List Addr} (hF : Fr Z.heap.size locs) {B : Pt} (X' : Stand p l e R (s.setVm vm0) m args below meth c B.U B.locs B.cells B.slots) (hl : B.locs = locs ++ L) (hc : B.cells = cells + kc) (hs : B.slots = slots + ks) (hFL : Fr Z.heap.size L) (Kp : Keep h B.U.heap ws) (hsf : ∀ x ∈ ws, Safe Z EL vm0 h x) (hge : ∀ x ∈ ws, Z.heap.size ≤ x) :
    Wk p l e R s m args below meth c Z a0 EL y bytes ml ret B.U B.U.heap vm0 (cells + kc) (slots + ks) := by
  obtain ⟨_, X, hT, hZ, hown, ⟨k0, hS, hk⟩, hC, -, hE, r⟩ := W
  rw [hl, hc, hs] at X'
  exact ⟨_, X', rfl, hZ, hown, ⟨k0, hS, Nat.le_trans hk Kp.1⟩, hC.trans (CHr.keep Kp hsf hC.1), hF.app hFL, ext_keep hE Kp hge, r⟩
theorem Wk.specialB (W : Wk p l e R s m args below meth c Z a0 EL y bytes ml ret T h vm0 cells slots) {index : Nat} {y' : MethodName} {bytes' : ByteArray} {ml' : Nat} {as' : Array Value} {Qb : Option Value → Heap → List Loc → Prop} {kc ks Wd : Nat} (hin : y'.name = "<init>")
    (wl : (Cond.methodLink y.cls index y').before a0 Z = true) (wi : (Cond.instanceMethod y').before a0 Z = true) (wc : (Cond.code y' bytes' ml' none).before a0 Z = true) (hy : y'.cls ≠ "java/lang/invoke/MethodHandle" ∧ y'.cls ≠ "java/lang/invoke/VarHandle")
    (bk : Back l R p e below (s.setVm vm0) args y' 3 Wd (fun A a => a = as' ∧ A.U.heap = h ∧ A.cells + kc ≤ R.cells ∧ A.slots + ks ≤ R.slots) (fun A _ v B => ∃ L, Qb v B.U.heap L ∧ B.locs = A.locs ++ L ∧ B.cells = A.cells + kc ∧ B.slots = A.slots + ks))
    (ws : List Addr) (hQ : ∀ v h' L, Qb v h' L → Fr Z.heap.size L ∧ Keep h h' ws) (hsf : ∀ x ∈ ws, Safe Z EL vm0 h x) (hge : ∀ x ∈ ws, Z.heap.size ≤ x)
    (a : Addr) (argsL : List Value) (rest : List Value) (has : (.ref a :: argsL).toArray = as') {ps : List FieldType} {r' : Option FieldType} (hdesc : parseMethodDescriptor y'.desc = some ⟨ps, r'⟩) (hlen : argsL.length = ps.length) (hsz : Ls.size = ml) (hst : st = argsL.reverse ++ .ref a :: rest) (hW : (rest.map fun v => v.category).sum ≤ Wd)
    (hd : decode bytes pc = .ok (.invokespecial index, 3)) (hc : cells + kc ≤ R.cells) (hs : slots + ks ≤ R.slots)
    (K : ∀ v T' h' L, Wk p l e R s m args below meth c Z a0 EL y bytes ml ret T' h' vm0 (cells + kc) (slots + ks) → Qb v h' L → Go p e below s Z EL KC KS Q T' (mkF m (pc + 3) Ls (v.toList ++ rest))) : Go p e below s Z EL KC KS Q T (mkF m pc Ls st) := by
  have hx := W.hx; have hd' := W.d hd
  obtain ⟨locs, X, hT, hZ, hown, -, -, hF, -, -, -, hml, -⟩ := id W
  obtain ⟨v, vm₁, B, -, X', ⟨L, hq, hl, hcc, hss⟩, stp⟩ := X.specialBack hx hin hown (mvT hZ wl) (mvT hZ wi) (mvT hZ wc) hy bk (g := mkF m pc Ls st) rfl (by rw [hml]; exact hsz) (Steps.refl _) (a := a) (argsL := argsL) (rest := rest) (lenOf hdesc hlen) hst (by show 2 * 0 + _ ≤ _; omega) hd' (fun vm₁ _ => ⟨has, hT, hc, hs⟩)
  obtain ⟨f1, f2⟩ := hQ _ _ _ hq
  exact Go.step (fun _ k => stp.trans k) (K v B.U B.U.heap L (W.behindB hF X' hl hcc hss f1 f2 hsf hge) hq)
theorem Wk.virtualB (W : Wk p l e R s m args below meth c Z a0 EL y bytes ml ret T h vm0 cells slots) {index : Nat} {yr y' : MethodName} {D : String} {as' : Array Value} {Qb : Option Value → Heap → List Loc → Prop} {kc ks Wd : Nat}
    (wl : (Cond.methodLink y.cls index yr).before a0 Z = true) (wd : (Cond.declares yr).before a0 Z = true) (hnf : NotFace (s.setVm vm0) yr) (wsel : (Cond.selects D yr y').before a0 Z = true) (wi : (Cond.instanceMethod y').before a0 Z = true) (hy : yr.cls ≠ "java/lang/invoke/MethodHandle" ∧ yr.cls ≠ "java/lang/invoke/VarHandle")
    (bk : Back l R p e below (s.setVm vm0) args y' 3 Wd (fun A a => a = as' ∧ A.U.heap = h ∧ A.cells + kc ≤ R.cells ∧ A.slots + ks ≤ R.slots) (fun A _ v B => ∃ L, Qb v B.U.heap L ∧ B.locs = A.locs ++ L ∧ B.cells = A.cells + kc ∧ B.slots = A.slots + ks))
    (ws : List Addr) (hQ : ∀ v h' L, Qb v h' L → Fr Z.heap.size L ∧ Keep h h' ws) (hsf : ∀ x ∈ ws, Safe Z EL vm0 h x) (hge : ∀ x ∈ ws, Z.heap.size ≤ x)
    (a : Addr) (E : Exa Z h a D) (argsL : List Value) (rest : List Value) (has : (.ref a :: argsL).toArray = as') {ps : List FieldType} {r' : Option FieldType} (hdesc : parseMethodDescriptor yr.desc = some ⟨ps, r'⟩) (hlen : argsL.length = ps.length) (hsz : Ls.size = ml) (hst : st = argsL.reverse ++ .ref a :: rest) (hW : (rest.map fun v => v.category).sum ≤ Wd)
    (hd : decode bytes pc = .ok (.invokevirtual index, 3)) (hc : cells + kc ≤ R.cells) (hs : slots + ks ≤ R.slots)
    (K : ∀ v T' h' L, Wk p l e R s m args below meth c Z a0 EL y bytes ml ret T' h' vm0 (cells + kc) (slots + ks) → Qb v h' L → Go p e below s Z EL KC KS Q T' (mkF m (pc + 3) Ls (v.toList ++ rest))) : Go p e below s Z EL KC KS Q T (mkF m pc Ls st) := by
  have hx := W.hx; have hd' := W.d hd
  obtain ⟨locs, X, hT, hZ, hown, -, -, hF, -, -, -, hml, -⟩ := id W
  obtain ⟨cB, kB, i1, -, i3⟩ := isOf hZ hT E
  obtain ⟨v, vm₁, B, -, X', ⟨L, hq, hl, hcc, hss⟩, stp⟩ := X.virtualBack hx hown (mvT hZ wl) (mvT hZ wd) hnf (mvT hZ wsel) (mvT hZ wi) hy bk i1 i3 (g := mkF m pc Ls st) rfl (by rw [hml]; exact hsz) (Steps.refl _) (argsL := argsL) (rest := rest) (lenOf hdesc hlen) hst (by show 2 * 0 + _ ≤ _; omega) hd' (fun vm₁ _ => ⟨has, hT, hc, hs⟩)
  obtain ⟨f1, f2⟩ := hQ _ _ _ hq
  exact Go.step (fun _ k => stp.trans k) (K v B.U B.U.heap L (W.behindB hF X' hl hcc hss f1 f2 hsf hge) hq)
theorem Wk.ldcI (W : Wk p l e R s m args below meth c Z a0 EL y bytes ml ret T h vm0 cells slots) {index : Nat} {v : Int32} (w : (Cond.constant y.cls index v).before a0 Z = true) (hd : decode bytes pc = .ok (.ldc index, 2)) (K : Go p e below s Z EL KC KS Q T (mkF m (pc + 2) Ls (.int v :: rest))) : Go p e below s Z EL KC KS Q T (mkF m pc Ls rest) := by
  obtain ⟨_, X, -, hZ, hown, -⟩ := id W
  exact Go.step (X.ldcInt W.hx hown (mvT hZ w) (g := mkF m pc Ls rest) rfl (W.d hd)) K
theorem Wk.ldc2 (W : Wk p l e R s m args below meth c Z a0 EL y bytes ml ret T h vm0 cells slots) {index : Nat} {v : Int64} (w : (Cond.constantLong y.cls index v).before a0 Z = true) (hd : decode bytes pc = .ok (.ldc2_w index, 3)) (K : Go p e below s Z EL KC KS Q T (mkF m (pc + 3) Ls (.long v :: rest))) : Go p e below s Z EL KC KS Q T (mkF m pc Ls rest) := by
  obtain ⟨_, X, -, hZ, hown, -⟩ := id W
  exact Go.step (X.ldc2Long W.hx hown (mvT hZ w) (g := mkF m pc Ls rest) rfl (W.d hd)) K
/-- the end of a walk -/
theorem Wk.leave (W : Wk p l e R s m args below meth c Z a0 EL y bytes ml ret T h vm0 cells slots) {v : Option Value} (hv : ret = none → v = none) (hq : Q v h) (hc : cells ≤ KC) (hs : slots ≤ KS)
    (f : ∀ (locs : List Loc) (fs : List Frame), Stand p l e R (s.setVm vm0) m args below meth c T locs cells slots → meth.sig.returnType = ret → (∀ (f : JFrame) (acts : List Action), f.method = m → f.locked = none → f.entered = [] → (doReturn e (T.setTop f) acts v).1 = T.setFrames fs) → Steps p.tables e below (T.setTop g) (T.setFrames fs)) : Go p e below s Z EL KC KS Q T g := by
  obtain ⟨locs, X, hT, hZ, hown, ⟨k0, hS, hk⟩, hC, hF, hE, r1, r2, r3, r4, r5, r6, hEL⟩ := W
  obtain ⟨fs, hr, hrun, hended, hW⟩ := X.leaveW hS (by rw [hT]; exact hk) (v := v) (fun q => hv (r4.symm.trans q))
  refine ⟨_, _, f locs fs X r4 hr, hrun, hended, v, locs, rfl, ⟨?_, hF, ?_⟩, ?_, hW.1, hW.2.1, hW.2.2.1, hW.2.2.2.mono hc hs⟩
  · show Q v T.heap
    rw [hT]; exact hq
  · show Ext Z.heap T.heap
    rw [hT]; exact hE
  · show CHr Z EL s.vm s.heap T.vm T.heap
    rw [hT]; exact hC.trans (CHv.at X hZ hEL hC.1)
theorem Wk.retV (W : Wk p l e R s m args below meth c Z a0 EL y bytes ml none T h vm0 cells slots) (hd : decode bytes pc = .ok (.return_, 1)) (hq : Q none h) (hc : cells ≤ KC) (hs : slots ≤ KS) : Go p e below s Z EL KC KS Q T (mkF m pc Ls []) :=
  W.leave (fun _ => rfl) hq hc hs fun locs fs X hret hr => X.returnOut W.hx hret (W.d hd) hr
theorem Wk.retN {t : FieldType} (W : Wk p l e R s m args below meth c Z a0 EL y bytes ml (some t) T h vm0 cells slots) (ht : t = .boolean ∨ t = .byte ∨ t = .char ∨ t = .short) {z : Int32} (hd : decode bytes pc = .ok (.ireturn, 1)) (hq : Q (some (.int (nar t z))) h) (hc : cells ≤ KC) (hs : slots ≤ KS) : Go p e below s Z EL KC KS Q T (mkF m pc Ls (.int z :: rest)) :=
  W.leave (fun q => by cases q) hq hc hs fun locs fs X hret hr => RoadKit.retN X W.hx hret ht (W.d hd) hr
theorem Wk.retI (W : Wk p l e R s m args below meth c Z a0 EL y bytes ml (some .int) T h vm0 cells slots) {z : Int32} (hd : decode bytes pc = .ok (.ireturn, 1)) (hq : Q (some (.int z)) h) (hc : cells ≤ KC) (hs : slots ≤ KS) : Go p e below s Z EL KC KS Q T (mkF m pc Ls (.int z :: rest)) :=
  W.leave (fun q => by cases q) hq hc hs fun locs fs X hret hr => retOut X W.hx hret rfl (Or.inl ⟨rfl, Or.inl rfl, z, rfl⟩) (W.d hd) hr
theorem Wk.retL (W : Wk p l e R s m args below meth c Z a0 EL y bytes ml (some .long) T h vm0 cells slots) {z : Int64} (hd : decode bytes pc = .ok (.lreturn, 1)) (hq : Q (some (.long z)) h) (hc : cells ≤ KC) (hs : slots ≤ KS) : Go p e below s Z EL KC KS Q T (mkF m pc Ls (.long z :: rest)) :=
  W.leave (fun q => by cases q) hq hc hs fun locs fs X hret hr => retOut X W.hx hret rfl (Or.inr (Or.inl ⟨rfl, rfl, z, rfl⟩)) (W.d hd) hr
theorem Wk.retR {t : FieldType} (W : Wk p l e R s m args below meth c Z a0 EL y bytes ml (some t) T h vm0 cells slots) (ht : t.isReference = true) {v : Value} (hv : v.isRef = true) (hnr : narrow t v = v) (hd : decode bytes pc = .ok (.areturn, 1)) (hq : Q (some v) h) (hc : cells ≤ KC) (hs : slots ≤ KS) : Go p e below s Z EL KC KS Q T (mkF m pc Ls (v :: rest)) :=
  W.leave (fun q => by cases q) hq hc hs fun locs fs X hret hr => retOut X W.hx hret hnr (Or.inr (Or.inr (Or.inr (Or.inr ⟨rfl, ht, hv⟩)))) (W.d hd) hr
end Walk
section Facts
variable {Z : State} {h h' : Heap} {a b o : Addr} {C K S : String} {a0 : Array Value} {EL : List (String × Nat)} {vm : Vm}
theorem nin1 {x y : Addr} (q : x ≠ y) : x ∉ [y] := ninS q nin0
/-- K is no interface -/
def NoFace (Z : State) (K : String) : Prop := ∃ (t : ClassId) (kt : Class), Z.vm.findClass K = some t ∧ Z.vm.classes[t]? = some kt ∧ kt.isInterface = false
theorem nf_inst {n : Nat} (wk : (Cond.instantiable K n).before a0 Z = true) : NoFace Z K := by
  obtain ⟨t, kt, g1, g2, -, g4, -⟩ := Cond.instantiable_spec wk
  exact ⟨t, kt, g1, g2, by simp only [Bool.or_eq_false_iff] at g4; exact g4.1⟩
theorem nf_sel {y : MethodName} (w : (Cond.selects y.cls y y).before a0 Z = true) : NoFace Z y.cls := by
  obtain ⟨c, r, m, -, -, h3, -, mk, h5, h6⟩ := Cond.selects_spec w
  exact ⟨m.cls, mk, findClass_of_methodNamed h3, h5, h6⟩
/-- C's chain of superclasses does not meet K -/
theorem NSr {O : String} (w : (Cond.noSuperclass O).before a0 Z = true) (wk : NoFace Z K) (hn : O ≠ K) : NS Z O K := by
  obtain ⟨c, k, h1, h2, h3, -, -⟩ := Cond.noSuperclass_spec w
  obtain ⟨t, kt, g1, -⟩ := wk
  have ne := ids_ne h1 g1 hn
  refine ⟨c, t, h1, g1, fun fuel => ?_⟩
  cases fuel with
  | zero => rfl
  | succ f => simp [Vm.isSubclassAux, ne, h2, h3]
theorem NSno (w : (Cond.superclass C S).before a0 Z = true) (wk : NoFace Z K) (q : NS Z C K) (hn : C ≠ K) : ∃ c t, Z.vm.findClass C = some c ∧ Z.vm.findClass K = some t ∧ Z.vm.assignable c t = false := by
  obtain ⟨c, t, h0, g0, n3⟩ := q
  obtain ⟨p, k, kp, h1, h2, h3, h4, h5, -, h7⟩ := Cond.superclass_spec h0 w
  obtain ⟨t', kt, g1, g2, g7⟩ := wk
  cases g0.symm.trans g1
  have ne := ids_ne h0 g0 hn
  refine ⟨c, t, h0, g0, ?_⟩
  show Z.vm.assignableAux (255 + 1) c t = false
  cases hk : kt.kind <;> simp [Vm.assignableAux, ne, h2, g2, h5, hk, g7, Vm.isSubclass, n3]
/-- a String that is being made is none that the tables book: it has no array yet -/
theorem Safe.blank (hal : Z.vm.Alike vm) (E : Exa Z h a "java/lang/String") (F : Fld Z h a "java/lang/String" "value" "[B" .null) : Safe Z EL vm h a := fun B => by
  obtain ⟨cell, k, e1, e2, e3, -, -⟩ := E
  obtain ⟨cell', cf, kf, i, f, f1, f2, -, -, -, -, f7⟩ := F
  cases f1.symm.trans e1
  obtain ⟨pp, -, u, a', -, q, -, F', hy⟩ := B
  rcases hy with rfl | rfl
  · cases (show h[q.sa]? = some q.sC from F'.ha).symm.trans e1
    obtain ⟨cS, ⟨⟨-, -, -, ⟨c1, k1, i1, g1, -⟩, -, -, -, v1, -⟩, -⟩, -⟩ := F'
    obtain ⟨k3, g3, -⟩ := State.fieldFound?_setVm (s := Z) hal f2
    have g4 := (show (Wst Z vm h).fieldFound? "java/lang/String" "value" "[B" = _ from g3).symm.trans g1
    simp only [Option.some.injEq, Prod.mk.injEq] at g4
    rw [← g4.2.2.2, f7] at v1
    cases v1
  · cases (show h[q.sd]? = some q.SA from F'.hd).symm.trans e1
    obtain ⟨cS, ⟨⟨-, -, -, -, -, -, -, -, -, -, ⟨-, kB, hkB, compB, hkindB⟩, -⟩, -, -⟩, -, hB, -⟩ := F'
    have hB' : vm.findClass "[B" = some q.SA.cls := hB
    rw [hal.findClass] at hB'
    exact (ids_ne (C := "[B") (K := "java/lang/String") hB' e2 (by decide)) rfl
/-- a String: its signs, each below 256 -/
def Str (Z : State) (h : Heap) (a : Addr) (cs : List Int32) : Prop := ∃ (t : Addr) (kb : ClassId), Exa Z h a "java/lang/String" ∧ Fld Z h a "java/lang/String" "value" "[B" (.ref t) ∧ Fld Z h a "java/lang/String" "coder" "B" (.int 0) ∧ Arv Z h t kb .byte (Int32.ofNat cs.length) (cs.map fun c => Value.int c.toInt8.toInt32) (.int 0) ∧ (∀ c ∈ cs, ¬ c < 0 ∧ ¬ (255 : Int32) < c) ∧ cs.length ≤ 4000
variable {cs : List Int32} {ws : List Addr}
theorem Str.exa (F : Str Z h a cs) : Exa Z h a "java/lang/String" := by obtain ⟨_, _, r, -⟩ := F; exact r
theorem Str.ext (F : Str Z h a cs) (E : Ext h h') : Str Z h' a cs := by
  obtain ⟨t, kb, q1, q2, q3, q4, r⟩ := F
  exact ⟨t, kb, q1.ext E, q2.ext E, q3.ext E, q4.ext E, r⟩
theorem Str.keep0 (F : Str Z h a cs) (K : Keep h h' []) : Str Z h' a cs := F.ext (ext_keep0 K)
theorem Str.keepE {n : Nat} (F : Str Z h a cs) (K : Keep h h' [o]) (E : Exa Z h o C) (hn : C ≠ "java/lang/String") (wi : (Cond.instantiable C n).before a0 Z = true) : Str Z h' a cs := by
  obtain ⟨t, kb, q1, q2, q3, q4, r⟩ := F
  have n1 : a ≠ o := fun q => (Exa.ne E q1 hn) q.symm
  have n2 : t ≠ o := fun q => (Exa.neArv E q4 wi) q.symm
  exact ⟨t, kb, q1.keep K, q2.keep K (nin1 n1), q3.keep K (nin1 n1), q4.keep K (nin1 n2), r⟩
theorem arv_sort {k k' : ClassId} {ty ty' : FieldType} {z z' : Int32} {vs vs' : List Value} {d d' : Value} (A : Arv Z h a k ty z vs d) (B : Arv Z h b k' ty' z' vs' d') (hn : ty ≠ ty') : a ≠ b := fun q => by
  subst q
  obtain ⟨c1, ⟨e1, ⟨-, k1, f1, m1, g1⟩, -⟩, -⟩ := A
  obtain ⟨c2, ⟨e2, ⟨-, k2, f2, m2, g2⟩, -⟩, -⟩ := B
  cases e1.symm.trans e2
  cases f1.symm.trans f2
  have := g1.symm.trans g2
  injection this with _ e
  exact hn e
theorem Str.keepC {n : Nat} {k : ClassId} {ty : FieldType} {z : Int32} {vs : List Value} {d : Value} (F : Str Z h a cs) (K : Keep h h' [o]) (V : Arv Z h o k ty z vs d) (ht : FieldType.byte ≠ ty) (wi : (Cond.instantiable "java/lang/String" n).before a0 Z = true) : Str Z h' a cs := by
  obtain ⟨t, kb, q1, q2, q3, q4, r⟩ := F
  have n1 : a ≠ o := Exa.neArv q1 V wi
  have n2 : t ≠ o := arv_sort q4 V ht
  exact ⟨t, kb, q1.keep K, q2.keep K (nin1 n1), q3.keep K (nin1 n1), q4.keep K (nin1 n2), r⟩
theorem Str.keepS {n : Nat} (F : Str Z h a cs) (K : Keep h h' [o]) (E : Exa Z h o C) (wi : (Cond.instantiable C n).before a0 Z = true) (n1 : a ≠ o) : Str Z h' a cs := by
  obtain ⟨t, kb, q1, q2, q3, q4, r⟩ := F
  have n2 : t ≠ o := fun q => (Exa.neArv E q4 wi) q.symm
  exact ⟨t, kb, q1.keep K, q2.keep K (nin1 n1), q3.keep K (nin1 n1), q4.keep K (nin1 n2), r⟩
abbrev Sm (c : Int32) : Prop := ¬ c < 0 ∧ ¬ (255 : Int32) < c
theorem sm0 {P : Int32 → Prop} : ∀ x ∈ ([] : List Int32), P x := fun _ q => nomatch q
theorem smS {P : Int32 → Prop} {y : Int32} {L : List Int32} (q : P y) (r : ∀ x ∈ L, P x) : ∀ x ∈ y :: L, P x := fun x z => (List.mem_cons.mp z).elim (fun u => u ▸ q) (r x)
abbrev B2 (z : Int32) : Prop := z = 0 ∨ z = 1
abbrev T3 (z : Int32) : Prop := z = 0 ∨ z = 1 ∨ z = 2
/-- the signs of a text of at most two -/
def sel (n c0 c1 : Int32) : List Int32 := if n = 0 then [] else if n = 1 then [c0] else [c0, c1]
theorem sel_eq {n k a b c d : Int32} (hn : T3 n) (hk : T3 k) : sel n a b = sel k c d ↔ n = k ∧ (n < 1 ∨ a = c) ∧ (n < 2 ∨ b = d) := by
  rcases hn with rfl | rfl | rfl <;> rcases hk with rfl | rfl | rfl <;> simp [sel] <;> decide
theorem sel_sm {n a b : Int32} (ha : Sm a) (hb : Sm b) : ∀ c ∈ sel n a b, Sm c := by
  unfold sel
  split
  · exact sm0
  · split
    · exact smS ha sm0
    · exact smS ha (smS hb sm0)
/-- numbers below 256 -/
theorem fin256 {P : Int32 → Prop} (t : ∀ k : Fin 256, P (Int32.ofNat k.val)) {c : Int32} (h0 : ¬ c < 0) (h1 : ¬ (255 : Int32) < c) : P c := by
  rw [Int32.lt_iff_toInt_lt] at h0 h1
  have e0 : (0 : Int32).toInt = 0 := rfl
  have e1 : (255 : Int32).toInt = 255 := rfl
  have e : Int32.ofNat c.toInt.toNat = c := by
    rw [show Int32.ofNat c.toInt.toNat = Int32.ofInt (c.toInt.toNat : Int) from rfl, Int.toNat_of_nonneg (by omega)]; exact Int32.ofInt_toInt c
  have q := t ⟨c.toInt.toNat, by omega⟩
  rw [e] at q; exact q
theorem nar_small {c : Int32} (h : ¬ c < 0 ∧ ¬ (255 : Int32) < c) : nar .char c = c := fin256 (P := fun c => nar .char c = c) (by decide +kernel) h.1 h.2
theorem nar_byte8 {c : Int32} (h : ¬ c < 0 ∧ ¬ (255 : Int32) < c) : nar .byte (c.toInt8.toInt32) = c.toInt8.toInt32 := fin256 (P := fun c => nar .byte (c.toInt8.toInt32) = c.toInt8.toInt32) (by decide +kernel) h.1 h.2
theorem low_back {c : Int32} (h : ¬ c < 0 ∧ ¬ (255 : Int32) < c) : c.toInt8.toInt32 &&& 255 = c := fin256 (P := fun c => c.toInt8.toInt32 &&& 255 = c) (by decide +kernel) h.1 h.2
theorem low_inj {x y : Int32} (hx : Sm x) (hy : Sm y) (e : x.toInt8.toInt32 = y.toInt8.toInt32) : x = y := by
  have q := low_back hx
  rw [e, low_back hy] at q; exact q.symm
theorem Str.uniq {ds : List Int32} (F : Str Z h a cs) (G : Str Z h a ds) : cs = ds := by
  obtain ⟨t, kb, -, q2, -, q4, q5, q6⟩ := F
  obtain ⟨t', kb', -, r2, -, r4, r5, r6⟩ := G
  have et : t = t' := by
    obtain ⟨c1, _, _, _, _, h1, h2, -, -, -, -, h7⟩ := q2
    obtain ⟨c2, _, _, _, _, g1, g2, -, -, -, -, g7⟩ := r2
    cases h1.symm.trans g1; cases h2.symm.trans g2
    have := h7.symm.trans g7
    simpa using this
  subst et
  obtain ⟨c1, A1, -, s1, -, H1, -⟩ := q4
  obtain ⟨c2, A2, -, s2, -, H2, -⟩ := r4
  cases A1.1.symm.trans A2.1
  have n32 : ∀ n : Nat, n ≤ 4000 → (Int32.ofNat n).toNatClampNeg = n := fun n hn => by
    rw [Int32.toNatClampNeg, Int32.toInt_ofNat_of_lt (by omega)]; rfl
  rw [n32 _ q6] at s1
  rw [n32 _ r6] at s2
  have hl : cs.length = ds.length := s1.symm.trans s2
  apply List.ext_getElem hl
  intro i h1 h2
  have e1 := H1 i (by omega)
  have e2 := H2 i (by omega)
  rw [e1] at e2
  simp only [List.getD_eq_getElem?_getD, List.getElem?_map, List.getElem?_eq_getElem h1, List.getElem?_eq_getElem h2, Option.map_some, Option.getD_some, Option.some.injEq, Value.int.injEq] at e2
  exact low_inj (q5 _ (List.getElem_mem h1)) (r5 _ (List.getElem_mem h2)) e2
theorem maskN (k : Nat) (m : Int32) (hm : m.toBitVec.toNat = k) (x : Int32) : ∃ j : Nat, j ≤ k ∧ x &&& m = Int32.ofNat j := by
  refine ⟨(x &&& m).toBitVec.toNat, ?_, ?_⟩
  · simp only [Int32.toBitVec_and, BitVec.toNat_and]
    rw [hm]; exact Nat.and_le_right
  · apply Int32.toBitVec_inj.mp
    show _ = BitVec.ofNat 32 _
    rw [BitVec.ofNat_toNat]; simp
theorem maskL (k : Nat) (m : Int64) (hm : m.toBitVec.toNat = k) (x : Int64) : ∃ j : Nat, j ≤ k ∧ x &&& m = Int64.ofNat j := by
  refine ⟨(x &&& m).toBitVec.toNat, ?_, ?_⟩
  · simp only [Int64.toBitVec_and, BitVec.toNat_and]
    rw [hm]; exact Nat.and_le_right
  · apply Int64.toBitVec_inj.mp
    show _ = BitVec.ofNat 64 _
    rw [BitVec.ofNat_toNat]; simp
/-- (char) (x & 255) -/
theorem chr255 (x : Int32) : ¬ ((x &&& (255 : Int32)).toUInt32.toUInt16.toUInt32.toInt32) < 0 ∧ ¬ (255 : Int32) < ((x &&& (255 : Int32)).toUInt32.toUInt16.toUInt32.toInt32) := by
  have t : ∀ k : Fin 256, ¬ ((Int32.ofNat k.val).toUInt32.toUInt16.toUInt32.toInt32) < 0 ∧ ¬ (255 : Int32) < ((Int32.ofNat k.val).toUInt32.toUInt16.toUInt32.toInt32) := by decide +kernel
  obtain ⟨j, hj, e⟩ := maskN 255 255 rfl x
  rw [e]; exact t ⟨j, by omega⟩
theorem rem3 (x : Int32) : (x &&& (3 : Int32)) - ((x &&& (3 : Int32)) / (3 : Int32)) * (3 : Int32) = 0 ∨ (x &&& (3 : Int32)) - ((x &&& (3 : Int32)) / (3 : Int32)) * (3 : Int32) = 1 ∨ (x &&& (3 : Int32)) - ((x &&& (3 : Int32)) / (3 : Int32)) * (3 : Int32) = 2 := by
  have t : ∀ k : Fin 4, (Int32.ofNat k.val) - ((Int32.ofNat k.val) / (3 : Int32)) * (3 : Int32) = 0 ∨ (Int32.ofNat k.val) - ((Int32.ofNat k.val) / (3 : Int32)) * (3 : Int32) = 1 ∨ (Int32.ofNat k.val) - ((Int32.ofNat k.val) / (3 : Int32)) * (3 : Int32) = 2 := by decide +kernel
  obtain ⟨j, hj, e⟩ := maskN 3 3 rfl x
  rw [e]; exact t ⟨j, by omega⟩
end Facts
end Jvm.Own
/- laws to paste: Road.backV, pair_says, narrow_ch (cut by pick.py; bodies as the Statement names them) -/
namespace Jvm.Pilot.@@N@@
namespace StrChars
open Jvm Sem ClassFile Op Lib Jvm.Stand Jvm.Free.XT Jvm.Free.ALB Jvm.Free.JM Jvm.Free
open Jvm.Lib.Cold (StaticIs)
/-- a char array whose places are chars -/
def Ch (a : Addr) (A : Cell) (U : State) : Prop := Arr .char a A U ∧ Typed .char A
theorem Ch.mv {a : Addr} {A : Cell} {U U' : State} (h : Ch a A U) (hal : U.vm.Alike U'.vm) (hh : U'.heap = U.heap) : Ch a A U' := ⟨h.1.mv hal hh, h.2⟩
theorem Ch.keep {a : Addr} {A : Cell} {U U' : State} (h : Ch a A U) (hal : U.vm.Alike U'.vm) (hk : U'.heap[a]? = some A) : Ch a A U' := ⟨h.1.keep hal hk, h.2⟩
/-- what place i of a char[]'s cell holds -/
def cv (A : Cell) (i : Nat) : Int32 := match A.slots[i]? with | some (.int x) => x | _ => 0
theorem Ch.get {a : Addr} {A : Cell} {U : State} (h : Ch a A U) {i : Nat} (hi : i < A.slots.size) : A.slots[i]? = some (.int (cv A i)) := by
  have e := Array.getElem?_eq_getElem hi
  have f := h.2 i _ e
  unfold cv; rw [e]
  generalize A.slots[i] = v at f
  cases v <;> simp [fits] at f ⊢
/-- the byte that i2b leaves of a char -/
def lo8 (x : Int32) : Int32 := x.toInt8.toInt32
theorem fits_lo8 (y : Int32) : fits .byte (.int (lo8 y)) = true := by
  have h1 := y.toInt8.le_toInt
  have h2 := y.toInt8.toInt_lt
  simp only [lo8, fits, Bool.and_eq_true, decide_eq_true_eq, Int32.le_iff_toInt_le, Int8.toInt_toInt32, show (-128 : Int32).toInt = -128 from by decide, show (127 : Int32).toInt = 127 from by decide]
  omega
/-- A' is A but that each place j of lo .. hi - 1 holds f j -/
def Laid (A A' : Cell) (lo hi : Nat) (f : Nat → Value) : Prop := A'.cls = A.cls ∧ A'.vm = A.vm ∧ A'.slots.size = A.slots.size ∧ ∀ i, A'.slots[i]? = if lo ≤ i ∧ i < hi then some (f i) else A.slots[i]?
theorem Laid.zero (A : Cell) (lo : Nat) (f : Nat → Value) : Laid A A lo (lo + 0) f := ⟨rfl, rfl, rfl, fun i => by rw [if_neg (by omega)]⟩
theorem Laid.step {A Ak : Cell} {lo k : Nat} {f : Nat → Value} {v : Value} (h : Laid A Ak lo k f) (hlo : lo ≤ k) (hk : k < Ak.slots.size) (hv : v = f k) : Laid A (Ak.setSlot k v) lo (k + 1) f := by
  refine ⟨h.1, h.2.1, by simpa [Cell.setSlot] using h.2.2.1, fun i => ?_⟩
  by_cases e : k = i
  · subst e; rw [Cell.slots_setSlot_self v hk, if_pos (by omega), hv]
  · rw [Cell.slots_setSlot_ne v e, h.2.2.2 i]
    by_cases q : lo ≤ i ∧ i < k
    · rw [if_pos q, if_pos (by omega)]
    · rw [if_neg q, if_neg (by omega)]
def U16 : String := "java/lang/StringUTF16"
namespace Cmp5
def yN : MethodName := ⟨"java/lang/StringUTF16", "compress", "([CI[BII)I"⟩
abbrev yB : ByteArray := jdk_52_method_21_code
theorem d0 : decode yB 0 = .ok (.iconst 0, 1) := by decide +kernel
theorem d1 : decode yB 1 = .ok (.istore 5, 2) := by decide +kernel
theorem d3 : decode yB 3 = .ok (.iload 5, 2) := by decide +kernel
theorem d5 : decode yB 5 = .ok (.iload 4, 2) := by decide +kernel
theorem d7 : decode yB 7 = .ok (.if_icmp (.ge) 37, 3) := by decide +kernel
theorem d10 : decode yB 10 = .ok (.aload_n 0, 1) := by decide +kernel
theorem d11 : decode yB 11 = .ok (.iload_n 1, 1) := by decide +kernel
theorem d12 : decode yB 12 = .ok (.caload, 1) := by decide +kernel
theorem d13 : decode yB 13 = .ok (.istore 6, 2) := by decide +kernel
theorem d15 : decode yB 15 = .ok (.iload 6, 2) := by decide +kernel
theorem d17 : decode yB 17 = .ok (.sipush 255, 3) := by decide +kernel
theorem d20 : decode yB 20 = .ok (.if_icmp (.le) 6, 3) := by decide +kernel
theorem d26 : decode yB 26 = .ok (.aload_n 2, 1) := by decide +kernel
theorem d27 : decode yB 27 = .ok (.iload_n 3, 1) := by decide +kernel
theorem d28 : decode yB 28 = .ok (.iload 6, 2) := by decide +kernel
theorem d30 : decode yB 30 = .ok (.i2b, 1) := by decide +kernel
theorem d31 : decode yB 31 = .ok (.bastore, 1) := by decide +kernel
theorem d32 : decode yB 32 = .ok (.iinc 1 1, 3) := by decide +kernel
theorem d35 : decode yB 35 = .ok (.iinc 3 1, 3) := by decide +kernel
theorem d38 : decode yB 38 = .ok (.iinc 5 1, 3) := by decide +kernel
theorem d41 : decode yB 41 = .ok (.goto (-38), 3) := by decide +kernel
theorem d44 : decode yB 44 = .ok (.iload 4, 2) := by decide +kernel
theorem d46 : decode yB 46 = .ok (.ireturn, 1) := by decide +kernel
def site : List Cond := []
def tab : Cond := tabOf yN yB 7 (some .int) site
def P (b : Addr) (A : Cell) (d : Addr) (B : Cell) (o q len : Nat) (args : Array Value) (s : State) : Prop := args = #[.ref b, .int (Int32.ofNat o), .ref d, .int (Int32.ofNat q), .int (Int32.ofNat len)] ∧ Ch b A s ∧ Arr .byte d B s ∧ b ≠ d ∧ o + len ≤ A.slots.size ∧ q + len ≤ B.slots.size ∧ ∀ i, i < len → ¬ 255 < cv A (o + i)
def E (b : Addr) (A : Cell) (d : Addr) (B : Cell) (o q len : Nat) (r : Option Value) (s u : State) : Prop := r = some (.int (Int32.ofNat len)) ∧ ∃ B', Put d B' s u ∧ Laid B B' q (q + len) (fun j => Value.int (lo8 (cv A (o + (j - q)))))
/-- no char of the range above 255: len; the places written hold each char's low byte -/
theorem law (l : Launch) (b : Addr) (A : Cell) (d : Addr) (B : Cell) (o q len : Nat) : Law l yN 5 5 0 0 yB 7 (some .int) site (P b A d B o q len) (E b A d B o q len) (copyLocs d q len) 0 0 := by
  refine Law.of_walk (plainFor_of_name (by decide +kernel)) (by decide +kernel) (by decide +kernel) (by decide) (fun _ _ h => by rw [h.1]; rfl) (fun _ U U' hal hh h => ⟨h.1, h.2.1.mv hal hh, h.2.2.1.mv hal hh, h.2.2.2⟩) (fun r U U' V V' h1 hal h2 h => ⟨h.1, h.2.elim fun B' q => ⟨B', q.1.mv h1 h2, q.2⟩⟩) ?_
  intro p e s m args below meth c s₁ X0 hexec hbytes hml hret hlk hnm hown hh0 W hP
  obtain ⟨rfl, hA, hB, hne, l1, l2, hp⟩ := hP
  have c1 : Steps p.tables e below (s₁.setTop (entryFrame m #[.ref b, .int (Int32.ofNat o), .ref d, .int (Int32.ofNat q), .int (Int32.ofNat len)] 7)) (s₁.setTop (mkF m 0 #[.val (.ref b), .val (.int (Int32.ofNat o)), .val (.ref d), .val (.int (Int32.ofNat q)), .val (.int (Int32.ofNat len)), .unset, .unset] [])) := entry rfl
  have hA0 := hA.1.mv X0.warmed.alike hh0
  have hB0 := hB.mv X0.warmed.alike hh0
  have a31 := hA.1.2.2.2
  have c2 : Steps p.tables e below (s₁.setTop (entryFrame m #[.ref b, .int (Int32.ofNat o), .ref d, .int (Int32.ofNat q), .int (Int32.ofNat len)] 7)) (s₁.setTop (mkF m 3 #[.val (.ref b), .val (.int (Int32.ofNat o)), .val (.ref d), .val (.int (Int32.ofNat q)), .val (.int (Int32.ofNat len)), .val (.int 0), .unset] [])) := c1.trans (by
    refine iconstV X0.here hexec rfl 0 (hb hbytes d0) (by decide) ?_
    refine XS.istore X0.here hexec rfl (hb hbytes d1) rfl rfl ?_
    exact Steps.refl _)
  have loop : ∀ (r i : Nat), i + r = len → ∀ (z : Slot), (z = .unset ∨ ∃ w, z = .val w ∧ w.category = 1) → ∀ (Tl : State) (Bk : Cell), Stand p l e { frames := 0, locals := 0, cells := 0, slots := 0 } s m #[.ref b, .int (Int32.ofNat o), .ref d, .int (Int32.ofNat q), .int (Int32.ofNat len)] below meth c Tl ([] ++ copyLocs d q i) 0 0 → Put d Bk s₁ Tl → Laid B Bk q (q + i) (fun j => Value.int (lo8 (cv A (o + (j - q))))) →
      Steps p.tables e below (s₁.setTop (entryFrame m #[.ref b, .int (Int32.ofNat o), .ref d, .int (Int32.ofNat q), .int (Int32.ofNat len)] 7)) (Tl.setTop (mkF m 3 #[.val (.ref b), .val (.int (Int32.ofNat (o + i))), .val (.ref d), .val (.int (Int32.ofNat (q + i))), .val (.int (Int32.ofNat len)), .val (.int (Int32.ofNat i)), z] [])) → ∃ (T' : State) (B' : Cell) (z' : Slot), Stand p l e { frames := 0, locals := 0, cells := 0, slots := 0 } s m #[.ref b, .int (Int32.ofNat o), .ref d, .int (Int32.ofNat q), .int (Int32.ofNat len)] below meth c T' ([] ++ copyLocs d q len) 0 0 ∧ Put d B' s₁ T' ∧ Laid B B' q (q + len) (fun j => Value.int (lo8 (cv A (o + (j - q))))) ∧
      Steps p.tables e below (s₁.setTop (entryFrame m #[.ref b, .int (Int32.ofNat o), .ref d, .int (Int32.ofNat q), .int (Int32.ofNat len)] 7)) (T'.setTop (mkF m 3 #[.val (.ref b), .val (.int (Int32.ofNat (o + len))), .val (.ref d), .val (.int (Int32.ofNat (q + len))), .val (.int (Int32.ofNat len)), .val (.int (Int32.ofNat len)), z'] [])) := by
    intro r
    induction r with
    | zero =>
      intro i hi z hz Tl Bk Xl pl fl cl
      have hil : i = len := by omega
      rw [hil] at Xl fl cl
      exact ⟨Tl, Bk, z, Xl, pl, fl, cl⟩
    | succ r ih =>
      intro i hi z hz Tl Bk Xl pl fl cl
      have all := X0.warmed.alike.symm.trans Xl.warmed.alike
      have hAl := hA0.keep all (pl.other hne hA0.1)
      have hBk := hB0.like all pl.1 fl.1 fl.2.1 fl.2.2.1
      have hlt : q + i < Bk.slots.size := by rw [fl.2.2.1]; omega
      have c3 : Steps p.tables e below (s₁.setTop (entryFrame m #[.ref b, .int (Int32.ofNat o), .ref d, .int (Int32.ofNat q), .int (Int32.ofNat len)] 7)) (Tl.setTop (mkF m 12 #[.val (.ref b), .val (.int (Int32.ofNat (o + i))), .val (.ref d), .val (.int (Int32.ofNat (q + i))), .val (.int (Int32.ofNat len)), .val (.int (Int32.ofNat i)), z] [.int (Int32.ofNat (o + i)), .ref b])) := cl.trans (by
        refine XS.iload Xl.here hexec rfl (hb hbytes d3) rfl ?_
        refine XS.iload Xl.here hexec rfl (hb hbytes d5) rfl ?_
        refine XS.icmpNo Xl.here hexec rfl (hb hbytes d7) rfl (ii_ge_f (lt32 (by omega) (by omega))) ?_
        refine XS.aloadN Xl.here hexec rfl (hb hbytes d10) rfl rfl ?_
        refine XS.iloadN Xl.here hexec rfl (hb hbytes d11) rfl ?_
        exact Steps.refl _)
      have c4 : Steps p.tables e below (s₁.setTop (entryFrame m #[.ref b, .int (Int32.ofNat o), .ref d, .int (Int32.ofNat q), .int (Int32.ofNat len)] 7)) (Tl.setTop (mkF m 13 #[.val (.ref b), .val (.int (Int32.ofNat (o + i))), .val (.ref d), .val (.int (Int32.ofNat (q + i))), .val (.int (Int32.ofNat len)), .val (.int (Int32.ofNat i)), z] [.int (cv A (o + i))])) := c3.trans (by
        refine Xl.aget hexec hAl rfl (hA.get (i := o + i) (by omega)) rfl rfl (hb hbytes d12) ?_
        exact Steps.refl _)
      have c5 : Steps p.tables e below (s₁.setTop (entryFrame m #[.ref b, .int (Int32.ofNat o), .ref d, .int (Int32.ofNat q), .int (Int32.ofNat len)] 7)) (Tl.setTop (mkF m 15 #[.val (.ref b), .val (.int (Int32.ofNat (o + i))), .val (.ref d), .val (.int (Int32.ofNat (q + i))), .val (.int (Int32.ofNat len)), .val (.int (Int32.ofNat i)), .val (.int (cv A (o + i)))] [])) := c4.trans (by
        refine XS.istoreS Xl.here hexec rfl (hb hbytes d13) rfl rfl hz ?_
        exact Steps.refl _)
      have c6 : Steps p.tables e below (s₁.setTop (entryFrame m #[.ref b, .int (Int32.ofNat o), .ref d, .int (Int32.ofNat q), .int (Int32.ofNat len)] 7)) (Tl.setTop (mkF m 31 #[.val (.ref b), .val (.int (Int32.ofNat (o + i))), .val (.ref d), .val (.int (Int32.ofNat (q + i))), .val (.int (Int32.ofNat len)), .val (.int (Int32.ofNat i)), .val (.int (cv A (o + i)))] [.int (lo8 (cv A (o + i))), .int (Int32.ofNat (q + i)), .ref d])) := c5.trans (by
        refine XS.iload Xl.here hexec rfl (hb hbytes d15) rfl ?_
        refine sipushV Xl.here hexec rfl 255 (hb hbytes d17) (by decide) ?_
        refine XS.icmpYes Xl.here hexec rfl (pc0 := 20) rfl (hb hbytes d20) rfl (ii_le_t (hp i (by omega))) (by decide) rfl ?_
        refine XS.aloadN Xl.here hexec rfl (hb hbytes d26) rfl rfl ?_
        refine XS.iloadN Xl.here hexec rfl (hb hbytes d27) rfl ?_
        refine XS.iload Xl.here hexec rfl (hb hbytes d28) rfl ?_
        refine i2b Xl.here hexec rfl (hb hbytes d30) rfl ?_
        exact Steps.refl _)
      obtain ⟨T7, X7, p7, st7⟩ := Xl.aput hexec hBk rfl hlt rfl (fits_lo8 (cv A (o + i))) (g := (mkF m 31 #[.val (.ref b), .val (.int (Int32.ofNat (o + i))), .val (.ref d), .val (.int (Int32.ofNat (q + i))), .val (.int (Int32.ofNat len)), .val (.int (Int32.ofNat i)), .val (.int (cv A (o + i)))] [.int (lo8 (cv A (o + i))), .int (Int32.ofNat (q + i)), .ref d])) rfl (rest := []) rfl (hb hbytes d31)
      have c8 : Steps p.tables e below (s₁.setTop (entryFrame m #[.ref b, .int (Int32.ofNat o), .ref d, .int (Int32.ofNat q), .int (Int32.ofNat len)] 7)) (T7.setTop (mkF m 32 #[.val (.ref b), .val (.int (Int32.ofNat (o + i))), .val (.ref d), .val (.int (Int32.ofNat (q + i))), .val (.int (Int32.ofNat len)), .val (.int (Int32.ofNat i)), .val (.int (cv A (o + i)))] [])) := c6.trans (st7 _ (Steps.refl _))
      have c9 : Steps p.tables e below (s₁.setTop (entryFrame m #[.ref b, .int (Int32.ofNat o), .ref d, .int (Int32.ofNat q), .int (Int32.ofNat len)] 7)) (T7.setTop (mkF m 3 #[.val (.ref b), .val (.int (Int32.ofNat (o + i) + 1)), .val (.ref d), .val (.int (Int32.ofNat (q + i) + 1)), .val (.int (Int32.ofNat len)), .val (.int (Int32.ofNat i + 1)), .val (.int (cv A (o + i)))] [])) := c8.trans (by
        refine iincV X7.here hexec rfl 1 (hb hbytes d32) (by decide) rfl rfl ?_
        refine iincV X7.here hexec rfl 1 (hb hbytes d35) (by decide) rfl rfl ?_
        refine iincV X7.here hexec rfl 1 (hb hbytes d38) (by decide) rfl rfl ?_
        refine XS.goto X7.here hexec rfl (pc0 := 41) rfl (hb hbytes d41) (by decide) rfl ?_
        exact Steps.refl _)
      have c10 : Steps p.tables e below (s₁.setTop (entryFrame m #[.ref b, .int (Int32.ofNat o), .ref d, .int (Int32.ofNat q), .int (Int32.ofNat len)] 7)) (T7.setTop (mkF m 3 #[.val (.ref b), .val (.int (Int32.ofNat (o + (i + 1)))), .val (.ref d), .val (.int (Int32.ofNat (q + (i + 1)))), .val (.int (Int32.ofNat len)), .val (.int (Int32.ofNat (i + 1))), .val (.int (cv A (o + i)))] [])) := by
        have := c9
        rw [succ32, succ32, succ32] at this
        exact this
      exact ih (i + 1) (by omega) _ (Or.inr ⟨_, rfl, rfl⟩) T7 _ (by rw [copyLocs_step, ← List.append_assoc]; exact X7) (pl.trans p7) (fl.step (by omega) hlt (by simp)) c10
  obtain ⟨T9, B9, z9, X9, p9, f9, g9⟩ := loop len 0 (by omega) .unset (Or.inl rfl) s₁ B (by simpa [copyLocs] using X0) ⟨hB0.1, fun _ _ => rfl, rfl⟩ (Laid.zero _ _ _) c2
  have c11 : Steps p.tables e below (s₁.setTop (entryFrame m #[.ref b, .int (Int32.ofNat o), .ref d, .int (Int32.ofNat q), .int (Int32.ofNat len)] 7)) (T9.setTop (mkF m 46 #[.val (.ref b), .val (.int (Int32.ofNat (o + len))), .val (.ref d), .val (.int (Int32.ofNat (q + len))), .val (.int (Int32.ofNat len)), .val (.int (Int32.ofNat len)), z9] [.int (Int32.ofNat len)])) := g9.trans (by
    refine XS.iload X9.here hexec rfl (hb hbytes d3) rfl ?_
    refine XS.iload X9.here hexec rfl (hb hbytes d5) rfl ?_
    refine XS.icmpYes X9.here hexec rfl (pc0 := 7) rfl (hb hbytes d7) rfl (ii_ge_t (nlt32 (by omega) (Nat.le_refl _))) (by decide) rfl ?_
    refine XS.iload X9.here hexec rfl (hb hbytes d44) rfl ?_
    exact Steps.refl _)
  exact ⟨T9, some (.int (Int32.ofNat len)), _, _, _, X9, by simp, rfl, rfl, (fun h => by cases h), ⟨rfl, B9, p9.from hh0, f9⟩, fun fs hl => c11.trans (X9.ireturnOut hexec hret rfl (Or.inl rfl) (hb hbytes d46) hl)⟩
end Cmp5
namespace Cmp3
def yN : MethodName := ⟨"java/lang/StringUTF16", "compress", "([CII)[B"⟩
abbrev yB : ByteArray := jdk_52_method_16_code
theorem d0 : decode yB 0 = .ok (.iload_n 2, 1) := by decide +kernel
theorem d1 : decode yB 1 = .ok (.newarray .byte, 2) := by decide +kernel
theorem d3 : decode yB 3 = .ok (.astore_n 3, 1) := by decide +kernel
theorem d4 : decode yB 4 = .ok (.aload_n 0, 1) := by decide +kernel
theorem d5 : decode yB 5 = .ok (.iload_n 1, 1) := by decide +kernel
theorem d6 : decode yB 6 = .ok (.aload_n 3, 1) := by decide +kernel
theorem d7 : decode yB 7 = .ok (.iconst 0, 1) := by decide +kernel
theorem d8 : decode yB 8 = .ok (.iload_n 2, 1) := by decide +kernel
theorem d9 : decode yB 9 = .ok (.invokestatic 115, 3) := by decide +kernel
theorem d12 : decode yB 12 = .ok (.istore 4, 2) := by decide +kernel
theorem d14 : decode yB 14 = .ok (.iload 4, 2) := by decide +kernel
theorem d16 : decode yB 16 = .ok (.iload_n 2, 1) := by decide +kernel
theorem d17 : decode yB 17 = .ok (.if_icmp (.eq) 40, 3) := by decide +kernel
theorem d57 : decode yB 57 = .ok (.aload_n 3, 1) := by decide +kernel
theorem d58 : decode yB 58 = .ok (.areturn, 1) := by decide +kernel
def site : List Cond := [.arrayClass .byte, Cmp5.tab] ++ staticW U16 115 Cmp5.yN
def tab : Cond := tabOf yN yB 6 (some (.array .byte)) site
def P (b : Addr) (A : Cell) (o len : Nat) (args : Array Value) (s : State) : Prop := args = #[.ref b, .int (Int32.ofNat o), .int (Int32.ofNat len)] ∧ Ch b A s ∧ o + len ≤ A.slots.size ∧ len ≤ 536870912 ∧ ∀ i, i < len → ¬ 255 < cv A (o + i)
def E (b : Addr) (A : Cell) (o len : Nat) (r : Option Value) (s u : State) : Prop := NewArr .byte "[B" len (fun j => .int (lo8 (cv A (o + j)))) r s u ∧ u.heap.size = s.heap.size + 1
/-- no char of the range above 255: a new byte[] of their low bytes -/
theorem law (l : Launch) (b : Addr) (A : Cell) (o len : Nat) : Law l yN 3 3 1 18 yB 6 (some (.array .byte)) site (P b A o len) (E b A o len) [] 1 len := by
  refine Law.of_walk (plainFor_of_name (by decide +kernel)) (by decide +kernel) (by decide +kernel) (by decide) (fun _ _ h => by rw [h.1]; rfl) (fun _ U U' hal hh h => ⟨h.1, h.2.1.mv hal hh, h.2.2⟩) (fun r U U' V V' h1 hal h2 h => ⟨NewArr.mv r U U' V V' h1 hal h2 h.1, by rw [h1, h2]; exact h.2⟩) ?_
  intro p e s m args below meth c s₁ X0 hexec hbytes hml hret hlk hnm hown hh0 W hP
  obtain ⟨rfl, hA, l1, l2, hp⟩ := hP
  have a31 := hA.1.2.2.2
  have c1 : Steps p.tables e below (s₁.setTop (entryFrame m #[.ref b, .int (Int32.ofNat o), .int (Int32.ofNat len)] 6)) (s₁.setTop (mkF m 0 #[.val (.ref b), .val (.int (Int32.ofNat o)), .val (.int (Int32.ofNat len)), .unset, .unset, .unset] [])) := entry rfl
  have c2 : Steps p.tables e below (s₁.setTop (entryFrame m #[.ref b, .int (Int32.ofNat o), .int (Int32.ofNat len)] 6)) (s₁.setTop (mkF m 1 #[.val (.ref b), .val (.int (Int32.ofNat o)), .val (.int (Int32.ofNat len)), .unset, .unset, .unset] [.int (Int32.ofNat len)])) := c1.trans (by
    refine XS.iloadN X0.here hexec rfl (hb hbytes d0) rfl ?_
    exact Steps.refl _)
  obtain ⟨T3, B3, X3, ba3, bs3, bv3, bh3, bf3, st3⟩ := X0.anew hexec (atype := .byte) (wk W (.arrayClass .byte)) rfl (by show len * 1 ≤ _; omega) (by omega) (g := (mkF m 1 #[.val (.ref b), .val (.int (Int32.ofNat o)), .val (.int (Int32.ofNat len)), .unset, .unset, .unset] [.int (Int32.ofNat len)])) rfl (hb hbytes d1) (rest := []) rfl (Nat.le_refl _) (by show 0 + len ≤ len; omega)
  rw [hh0] at ba3 st3
  have kp3 : XT.Kept s T3 := (XT.Kept.of_eq hh0).push bh3
  have hA3 := hA.keep X3.warmed.alike (kp3 _ _ hA.1.1)
  have hne : b ≠ s.heap.size := hA.1.ne
  have c4 : Steps p.tables e below (s₁.setTop (entryFrame m #[.ref b, .int (Int32.ofNat o), .int (Int32.ofNat len)] 6)) (T3.setTop (mkF m 3 #[.val (.ref b), .val (.int (Int32.ofNat o)), .val (.int (Int32.ofNat len)), .unset, .unset, .unset] [.ref s.heap.size])) := c2.trans (st3 _ (Steps.refl _))
  have c5 : Steps p.tables e below (s₁.setTop (entryFrame m #[.ref b, .int (Int32.ofNat o), .int (Int32.ofNat len)] 6)) (T3.setTop (mkF m 9 #[.val (.ref b), .val (.int (Int32.ofNat o)), .val (.int (Int32.ofNat len)), .val (.ref s.heap.size), .unset, .unset] [.int (Int32.ofNat len), .int 0, .ref s.heap.size, .int (Int32.ofNat o), .ref b])) := c4.trans (by
    refine XS.astoreN X3.here hexec rfl (hb hbytes d3) rfl rfl rfl ?_
    refine XS.aloadN X3.here hexec rfl (hb hbytes d4) rfl rfl ?_
    refine XS.iloadN X3.here hexec rfl (hb hbytes d5) rfl ?_
    refine XS.aloadN X3.here hexec rfl (hb hbytes d6) rfl rfl ?_
    refine iconstV X3.here hexec rfl 0 (hb hbytes d7) (by decide) ?_
    refine XS.iloadN X3.here hexec rfl (hb hbytes d8) rfl ?_
    exact Steps.refl _)
  obtain ⟨v6, T6, X6, E6, g6⟩ := X3.callS hexec (Cmp5.law l b A s.heap.size B3 o 0 len) hown (wks W (staticW U16 115 Cmp5.yN)) (wk W Cmp5.tab) (W := 0) (Nat.le_of_ble_eq_true rfl) (Nat.le_of_ble_eq_true rfl) (Nat.le_refl _) (by show 0 + len + 0 ≤ len; omega) (g := (mkF m 9 #[.val (.ref b), .val (.int (Int32.ofNat o)), .val (.int (Int32.ofNat len)), .val (.ref s.heap.size), .unset, .unset] [.int (Int32.ofNat len), .int (Int32.ofNat 0), .ref s.heap.size, .int (Int32.ofNat o), .ref b])) rfl (by rw [hml]; rfl) c5 (argsL := [.ref b, .int (Int32.ofNat o), .ref s.heap.size, .int (Int32.ofNat 0), .int (Int32.ofNat len)]) (rest := []) rfl rfl (by show 2 * 0 + 0 ≤ _; decide) (hb hbytes d9) (⟨rfl, hA3, ba3, hne, l1, by rw [bs3]; simp, hp⟩)
  obtain ⟨rfl, B6, p6, f6⟩ := E6
  have c7 : Steps p.tables e below (s₁.setTop (entryFrame m #[.ref b, .int (Int32.ofNat o), .int (Int32.ofNat len)] 6)) (T6.setTop (mkF m 12 #[.val (.ref b), .val (.int (Int32.ofNat o)), .val (.int (Int32.ofNat len)), .val (.ref s.heap.size), .unset, .unset] [.int (Int32.ofNat len)])) := g6
  have c8 : Steps p.tables e below (s₁.setTop (entryFrame m #[.ref b, .int (Int32.ofNat o), .int (Int32.ofNat len)] 6)) (T6.setTop (mkF m 58 #[.val (.ref b), .val (.int (Int32.ofNat o)), .val (.int (Int32.ofNat len)), .val (.ref s.heap.size), .val (.int (Int32.ofNat len)), .unset] [.ref s.heap.size])) := c7.trans (by
    refine XS.istore X6.here hexec rfl (hb hbytes d12) rfl rfl ?_
    refine XS.iload X6.here hexec rfl (hb hbytes d14) rfl ?_
    refine XS.iloadN X6.here hexec rfl (hb hbytes d16) rfl ?_
    refine XS.icmpYes X6.here hexec rfl (pc0 := 17) rfl (hb hbytes d17) rfl (ii_eq_t rfl) (by decide) rfl ?_
    refine XS.aloadN X6.here hexec rfl (hb hbytes d57) rfl rfl ?_
    exact Steps.refl _)
  have X8 := X6.wide (L' := []) (cells' := 1) (slots' := len) (fun x hx hlt => by
    simp only [List.nil_append, copyLocs, List.mem_map, List.mem_range] at hx
    obtain ⟨i, -, rfl⟩ := hx
    exact absurd hlt (Nat.lt_irrefl _)) (Nat.le_refl _) (by omega)
  exact ⟨T6, some (.ref s.heap.size), _, _, _, X8, rfl, rfl, rfl, (fun h => by cases h), ⟨⟨rfl, B6, ba3.like (X3.warmed.alike.symm.trans X6.warmed.alike) p6.1 f6.1 f6.2.1 f6.2.2.1, f6.2.1.trans bv3, by rw [X6.warmed.alike.findClass, f6.1]; exact bf3, by rw [f6.2.2.1, bs3]; simp, fun j hj => by rw [f6.2.2.2 j, if_pos (by omega)]; rfl, kp3.put p6 (Nat.le_refl _)⟩, by rw [p6.2.2, bh3, hh0]; simp⟩, fun fs hl => c8.trans (X8.areturnOut hexec rfl hret rfl (hb hbytes d58) hl)⟩
end Cmp3
namespace CodL
def yN : MethodName := ⟨"java/lang/StringUTF16", "coderFromArrayLen", "([BI)B"⟩
abbrev yB : ByteArray := jdk_52_method_15_code
theorem d0 : decode yB 0 = .ok (.iload_n 1, 1) := by decide +kernel
theorem d1 : decode yB 1 = .ok (.aload_n 0, 1) := by decide +kernel
theorem d2 : decode yB 2 = .ok (.arraylength, 1) := by decide +kernel
theorem d3 : decode yB 3 = .ok (.isub, 1) := by decide +kernel
theorem d4 : decode yB 4 = .ok (.bipush 31, 2) := by decide +kernel
theorem d6 : decode yB 6 = .ok (.iushr, 1) := by decide +kernel
theorem d7 : decode yB 7 = .ok (.i2b, 1) := by decide +kernel
theorem d8 : decode yB 8 = .ok (.ireturn, 1) := by decide +kernel
def site : List Cond := []
def tab : Cond := tabOf yN yB 2 (some .byte) site
def P (d : Addr) (B : Cell) (args : Array Value) (s : State) : Prop := args = #[.ref d, .int (Int32.ofNat B.slots.size)] ∧ Arr .byte d B s
def E (r : Option Value) (s u : State) : Prop := XT.PureE (some (.int 0)) r s u
/-- an array as long as the number of chars: LATIN1 -/
theorem law (l : Launch) (d : Addr) (B : Cell) : Law l yN 2 2 0 0 yB 2 (some .byte) site (P d B) E [] 0 0 := by
  refine Law.of_walk (plainFor_of_name (by decide +kernel)) (by decide +kernel) (by decide +kernel) (by decide) (fun _ _ h => by rw [h.1]; rfl) (fun _ U U' hal hh h => ⟨h.1, h.2.mv hal hh⟩) (fun r U U' V V' h1 hal h2 h => XT.PureE.mv r U U' V V' h1 hal h2 h) ?_
  intro p e s m args below meth c s₁ X0 hexec hbytes hml hret hlk hnm hown hh0 W hP
  obtain ⟨rfl, hB⟩ := hP
  have hB0 := hB.mv X0.warmed.alike hh0
  have c1 : Steps p.tables e below (s₁.setTop (entryFrame m #[.ref d, .int (Int32.ofNat B.slots.size)] 2)) (s₁.setTop (mkF m 0 #[.val (.ref d), .val (.int (Int32.ofNat B.slots.size))] [])) := entry rfl
  have c2 : Steps p.tables e below (s₁.setTop (entryFrame m #[.ref d, .int (Int32.ofNat B.slots.size)] 2)) (s₁.setTop (mkF m 2 #[.val (.ref d), .val (.int (Int32.ofNat B.slots.size))] [.ref d, .int (Int32.ofNat B.slots.size)])) := c1.trans (by
    refine XS.iloadN X0.here hexec rfl (hb hbytes d0) rfl ?_
    refine XS.aloadN X0.here hexec rfl (hb hbytes d1) rfl rfl ?_
    exact Steps.refl _)
  have c3 : Steps p.tables e below (s₁.setTop (entryFrame m #[.ref d, .int (Int32.ofNat B.slots.size)] 2)) (s₁.setTop (mkF m 8 #[.val (.ref d), .val (.int (Int32.ofNat B.slots.size))] [.int (lo8 (ushr (Int32.ofNat B.slots.size - Int32.ofNat B.slots.size) 31))])) := c2.trans (by
    refine X0.alen hexec hB0 rfl rfl (hb hbytes d2) ?_
    refine XS.isub X0.here hexec rfl (hb hbytes d3) rfl ?_
    refine bipushV X0.here hexec rfl 31 (hb hbytes d4) (by decide) ?_
    refine iushr X0.here hexec rfl (hb hbytes d6) rfl ?_
    refine i2b X0.here hexec rfl (hb hbytes d7) rfl ?_
    exact Steps.refl _)
  have e0 : lo8 (ushr (Int32.ofNat B.slots.size - Int32.ofNat B.slots.size) 31) = 0 := by rw [Int32.sub_self]; decide
  rw [e0] at c3
  exact ⟨s₁, some (.int 0), _, _, _, X0, rfl, rfl, rfl, (fun h => by cases h), ⟨rfl, hh0⟩, fun fs hl => c3.trans (X0.ireturnOut hexec hret rfl (Or.inr (Or.inr (Or.inl rfl))) (hb hbytes d8) hl)⟩
end CodL
/-- the String at a is Latin-1 over a new byte[] (the heap's one new cell): the low bytes of the len chars of A from o on; every cell but a is kept -/
def Got (a : Addr) (D : Cell) (fV fC : Field) (A : Cell) (o len : Nat) (r : Option Value) (s u : State) : Prop := r = none ∧ ∃ D' V : Cell, Blank "java/lang/String" a D' u ∧ Same D D' [fV.slot, fC.slot] ∧ D'.slots[fV.slot]? = some (.ref s.heap.size) ∧ D'.slots[fC.slot]? = some (.int 0) ∧ Arr .byte s.heap.size V u ∧ V.vm = .none ∧ u.vm.findClass "[B" = some V.cls ∧ V.slots.size = len ∧ (∀ j, j < len → V.slots[j]? = some (.int (lo8 (cv A (o + j))))) ∧ (∀ (y : Addr) (c : Cell), y ≠ a → s.heap[y]? = some c → u.heap[y]? = some c) ∧ u.heap.size = s.heap.size + 1
theorem Got.mv {a : Addr} {D A : Cell} {fV fC : Field} {o len : Nat} : ∀ r (U U' V V' : State), U'.heap = U.heap → V.vm.Alike V'.vm → V'.heap = V.heap → Got a D fV fC A o len r U V → Got a D fV fC A o len r U' V' :=
  fun r U U' V V' h1 hal h2 ⟨e0, D', X, a1, a2, a3, a4, a5, a6, a7, a8, a9, a10, a11⟩ => ⟨e0, D', X, a1.mv hal h2, a2, by rw [h1]; exact a3, a4, by rw [h1]; exact a5.mv hal h2, a6, by rw [hal.findClass]; exact a7, a8, a9, by rw [h1, h2]; exact a10, by rw [h1, h2]; exact a11⟩
namespace New4
def yN : MethodName := ⟨"java/lang/String", "<init>", "([CIILjava/lang/Void;)V"⟩
abbrev yB : ByteArray := jdk_42_method_149_code
theorem d0 : decode yB 0 = .ok (.aload_n 0, 1) := by decide +kernel
theorem d1 : decode yB 1 = .ok (.invokespecial 1, 3) := by decide +kernel
theorem d4 : decode yB 4 = .ok (.iload_n 3, 1) := by decide +kernel
theorem d5 : decode yB 5 = .ok (.ifCond (.ne) 22, 3) := by decide +kernel
theorem d27 : decode yB 27 = .ok (.getstatic 38, 3) := by decide +kernel
theorem d30 : decode yB 30 = .ok (.ifCond (.eq) 28, 3) := by decide +kernel
theorem d33 : decode yB 33 = .ok (.aload_n 1, 1) := by decide +kernel
theorem d34 : decode yB 34 = .ok (.iload_n 2, 1) := by decide +kernel
theorem d35 : decode yB 35 = .ok (.iload_n 3, 1) := by decide +kernel
theorem d36 : decode yB 36 = .ok (.invokestatic 177, 3) := by decide +kernel
theorem d39 : decode yB 39 = .ok (.astore 5, 2) := by decide +kernel
theorem d41 : decode yB 41 = .ok (.aload_n 0, 1) := by decide +kernel
theorem d42 : decode yB 42 = .ok (.aload 5, 2) := by decide +kernel
theorem d44 : decode yB 44 = .ok (.iload_n 3, 1) := by decide +kernel
theorem d45 : decode yB 45 = .ok (.invokestatic 47, 3) := by decide +kernel
theorem d48 : decode yB 48 = .ok (.putfield 15, 3) := by decide +kernel
theorem d51 : decode yB 51 = .ok (.aload_n 0, 1) := by decide +kernel
theorem d52 : decode yB 52 = .ok (.aload 5, 2) := by decide +kernel
theorem d54 : decode yB 54 = .ok (.putfield 9, 3) := by decide +kernel
theorem d57 : decode yB 57 = .ok (.return_, 1) := by decide +kernel
def site : List Cond := [.fieldLink "java/lang/String" 38 "java/lang/String" "COMPACT_STRINGS" "Z", Cmp3.tab, CodL.tab, .laysFinal "java/lang/String" "java/lang/String" "value" "[B", .fieldLink "java/lang/String" 9 "java/lang/String" "value" "[B", .laysFinal "java/lang/String" "java/lang/String" "coder" "B", .fieldLink "java/lang/String" 15 "java/lang/String" "coder" "B"] ++ objW "java/lang/String" 1 ++ staticW "java/lang/String" 177 Cmp3.yN ++ staticW "java/lang/String" 47 CodL.yN
def tab : Cond := tabOf yN yB 6 none site
def P (a : Addr) (D : Cell) (fV fC : Field) (b : Addr) (A : Cell) (z : Int32) (o len : Nat) (args : Array Value) (s : State) : Prop := args = #[.ref a, .ref b, .int (Int32.ofNat o), .int (Int32.ofNat len), .null] ∧ Blank "java/lang/String" a D s ∧ Found "java/lang/String" "value" "[B" fV s ∧ Found "java/lang/String" "coder" "B" fC s ∧ Ch b A s ∧ StaticIs s "java/lang/String" "COMPACT_STRINGS" "Z" (.int z) ∧ ¬ z = 0 ∧ 0 < len ∧ o + len ≤ A.slots.size ∧ len ≤ 536870912 ∧ ∀ i, i < len → ¬ 255 < cv A (o + i)
def E (a : Addr) (D : Cell) (fV fC : Field) (A : Cell) (o len : Nat) (r : Option Value) (s u : State) : Prop := Got a D fV fC A o len r s u
/-- len > 0, no char of the range above 255: a Latin-1 String of their low bytes -/
theorem law (l : Launch) (a : Addr) (D : Cell) (fV fC : Field) (b : Addr) (A : Cell) (z : Int32) (o len : Nat) : Law l yN 5 4 2 35 yB 6 none site (P a D fV fC b A z o len) (E a D fV fC A o len) [⟨a, fC.slot⟩, ⟨a, fV.slot⟩] 1 len := by
  refine Law.of_walk (plainFor_of_name (by decide +kernel)) (by decide +kernel) (by decide +kernel) (by decide) (fun _ _ h => by rw [h.1]; rfl) (fun _ U U' hal hh h => ⟨h.1, h.2.1.mv hal hh, h.2.2.1.al hal, h.2.2.2.1.al hal, h.2.2.2.2.1.mv hal hh, h.2.2.2.2.2.1.there hal hh, h.2.2.2.2.2.2⟩) (fun r U U' V V' h1 hal h2 h => Got.mv r U U' V V' h1 hal h2 h) ?_
  intro p e s m args below meth c s₁ X0 hexec hbytes hml hret hlk hnm hown hh0 W hP
  obtain ⟨rfl, hB, f1, f2, hA, s1, hz, l0, l1, l2, hp⟩ := hP
  have a31 := hA.1.2.2.2
  have c1 : Steps p.tables e below (s₁.setTop (entryFrame m #[.ref a, .ref b, .int (Int32.ofNat o), .int (Int32.ofNat len), .null] 6)) (s₁.setTop (mkF m 0 #[.val (.ref a), .val (.ref b), .val (.int (Int32.ofNat o)), .val (.int (Int32.ofNat len)), .val .null, .unset] [])) := entry rfl
  have c2 : Steps p.tables e below (s₁.setTop (entryFrame m #[.ref a, .ref b, .int (Int32.ofNat o), .int (Int32.ofNat len), .null] 6)) (s₁.setTop (mkF m 1 #[.val (.ref a), .val (.ref b), .val (.int (Int32.ofNat o)), .val (.int (Int32.ofNat len)), .val .null, .unset] [.ref a])) := c1.trans (by
    refine XS.aloadN X0.here hexec rfl (hb hbytes d0) rfl rfl ?_
    exact Steps.refl _)
  obtain ⟨T3, X3, q3, st3⟩ := X0.oinit hexec hown (wks W (objW "java/lang/String" 1)) (g := (mkF m 1 #[.val (.ref a), .val (.ref b), .val (.int (Int32.ofNat o)), .val (.int (Int32.ofNat len)), .val .null, .unset] [.ref a])) rfl (by rw [hml]; rfl) (rest := []) rfl (hb hbytes d1) (W := 0) (by show 2 * 0 + 0 ≤ _; decide) (Nat.le_of_ble_eq_true rfl) (Nat.le_of_ble_eq_true rfl)
  have hh3 := q3.trans hh0
  have c4 : Steps p.tables e below (s₁.setTop (entryFrame m #[.ref a, .ref b, .int (Int32.ofNat o), .int (Int32.ofNat len), .null] 6)) (T3.setTop (mkF m 27 #[.val (.ref a), .val (.ref b), .val (.int (Int32.ofNat o)), .val (.int (Int32.ofNat len)), .val .null, .unset] [])) := (c2.trans (st3 _ (Steps.refl _))).trans (by
    refine XS.iloadN X3.here hexec rfl (hb hbytes d4) rfl ?_
    refine XS.ifYes X3.here hexec rfl (pc0 := 5) rfl (hb hbytes d5) rfl (i0_ne_t (nz32 (by omega) l0)) (by decide) rfl ?_
    exact Steps.refl _)
  obtain ⟨T5, X5, q5, st5⟩ := X3.sget hexec hown (wk W (.fieldLink "java/lang/String" 38 "java/lang/String" "COMPACT_STRINGS" "Z")) s1 (fun _ _ h => by rw [hh3]; exact h) (g := (mkF m 27 #[.val (.ref a), .val (.ref b), .val (.int (Int32.ofNat o)), .val (.int (Int32.ofNat len)), .val .null, .unset] [])) rfl (hb hbytes d27)
  have hh5 := q5.trans hh3
  have c6 : Steps p.tables e below (s₁.setTop (entryFrame m #[.ref a, .ref b, .int (Int32.ofNat o), .int (Int32.ofNat len), .null] 6)) (T5.setTop (mkF m 30 #[.val (.ref a), .val (.ref b), .val (.int (Int32.ofNat o)), .val (.int (Int32.ofNat len)), .val .null, .unset] [.int z])) := c4.trans (st5 _ (Steps.refl _))
  have c7 : Steps p.tables e below (s₁.setTop (entryFrame m #[.ref a, .ref b, .int (Int32.ofNat o), .int (Int32.ofNat len), .null] 6)) (T5.setTop (mkF m 36 #[.val (.ref a), .val (.ref b), .val (.int (Int32.ofNat o)), .val (.int (Int32.ofNat len)), .val .null, .unset] [.int (Int32.ofNat len), .int (Int32.ofNat o), .ref b])) := c6.trans (by
    refine XS.ifNo X5.here hexec rfl (hb hbytes d30) rfl (i0_eq_f hz) ?_
    refine XS.aloadN X5.here hexec rfl (hb hbytes d33) rfl rfl ?_
    refine XS.iloadN X5.here hexec rfl (hb hbytes d34) rfl ?_
    refine XS.iloadN X5.here hexec rfl (hb hbytes d35) rfl ?_
    exact Steps.refl _)
  obtain ⟨v8, T8, X8, E8, g8⟩ := X5.callS hexec (Cmp3.law l b A o len) hown (wks W (staticW "java/lang/String" 177 Cmp3.yN)) (wk W Cmp3.tab) (W := 0) (Nat.le_of_ble_eq_true rfl) (Nat.le_of_ble_eq_true rfl) (Nat.le_refl _) (by show 0 + len ≤ len; omega) (g := (mkF m 36 #[.val (.ref a), .val (.ref b), .val (.int (Int32.ofNat o)), .val (.int (Int32.ofNat len)), .val .null, .unset] [.int (Int32.ofNat len), .int (Int32.ofNat o), .ref b])) rfl (by rw [hml]; rfl) c7 (argsL := [.ref b, .int (Int32.ofNat o), .int (Int32.ofNat len)]) (rest := []) rfl rfl (by show 2 * 0 + 0 ≤ _; decide) (hb hbytes d36) (⟨rfl, hA.mv X5.warmed.alike hh5, l1, l2, hp⟩)
  obtain ⟨e8, z8⟩ := E8
  obtain ⟨rfl, N, n1, n2, n3, n4, n5, n6⟩ := NewArr.mv _ T5 s _ _ hh5.symm (Vm.Alike.refl _) rfl e8
  rw [hh5] at z8
  have hB1 := hB.keep X8.warmed.alike (n6 _ _ hB.1)
  have hne : s.heap.size ≠ a := (Nat.ne_of_lt (Array.getElem?_eq_some_iff.mp hB.1).1).symm
  have c9 : Steps p.tables e below (s₁.setTop (entryFrame m #[.ref a, .ref b, .int (Int32.ofNat o), .int (Int32.ofNat len), .null] 6)) (T8.setTop (mkF m 39 #[.val (.ref a), .val (.ref b), .val (.int (Int32.ofNat o)), .val (.int (Int32.ofNat len)), .val .null, .unset] [.ref s.heap.size])) := g8
  have c10 : Steps p.tables e below (s₁.setTop (entryFrame m #[.ref a, .ref b, .int (Int32.ofNat o), .int (Int32.ofNat len), .null] 6)) (T8.setTop (mkF m 45 #[.val (.ref a), .val (.ref b), .val (.int (Int32.ofNat o)), .val (.int (Int32.ofNat len)), .val .null, .val (.ref s.heap.size)] [.int (Int32.ofNat N.slots.size), .ref s.heap.size, .ref a])) := by
    have hc : Steps p.tables e below (s₁.setTop (entryFrame m #[.ref a, .ref b, .int (Int32.ofNat o), .int (Int32.ofNat len), .null] 6)) (T8.setTop (mkF m 45 #[.val (.ref a), .val (.ref b), .val (.int (Int32.ofNat o)), .val (.int (Int32.ofNat len)), .val .null, .val (.ref s.heap.size)] [.int (Int32.ofNat len), .ref s.heap.size, .ref a])) := c9.trans (by
      refine XS.astore X8.here hexec rfl (hb hbytes d39) rfl rfl rfl ?_
      refine XS.aloadN X8.here hexec rfl (hb hbytes d41) rfl rfl ?_
      refine XS.aload X8.here hexec rfl (hb hbytes d42) rfl rfl ?_
      refine XS.iloadN X8.here hexec rfl (hb hbytes d44) rfl ?_
      exact Steps.refl _)
    rw [n4]; exact hc
  obtain ⟨v11, T11, X11, E11, g11⟩ := X8.callS hexec (CodL.law l s.heap.size N) hown (wks W (staticW "java/lang/String" 47 CodL.yN)) (wk W CodL.tab) (W := 1) (Nat.le_of_ble_eq_true rfl) (Nat.le_of_ble_eq_true rfl) (Nat.le_refl _) (by show 0 + len + 0 ≤ len; omega) (g := (mkF m 45 #[.val (.ref a), .val (.ref b), .val (.int (Int32.ofNat o)), .val (.int (Int32.ofNat len)), .val .null, .val (.ref s.heap.size)] [.int (Int32.ofNat N.slots.size), .ref s.heap.size, .ref a])) rfl (by rw [hml]; rfl) c10 (argsL := [.ref s.heap.size, .int (Int32.ofNat N.slots.size)]) (rest := [.ref a]) rfl rfl (by show 2 * 0 + (1 + 0) ≤ _; decide) (hb hbytes d45) (⟨rfl, n1⟩)
  obtain ⟨rfl, q11⟩ := E11
  have hB11 := hB1.mv (X8.warmed.alike.symm.trans X11.warmed.alike) q11
  have c12 : Steps p.tables e below (s₁.setTop (entryFrame m #[.ref a, .ref b, .int (Int32.ofNat o), .int (Int32.ofNat len), .null] 6)) (T11.setTop (mkF m 48 #[.val (.ref a), .val (.ref b), .val (.int (Int32.ofNat o)), .val (.int (Int32.ofNat len)), .val .null, .val (.ref s.heap.size)] [.int 0, .ref a])) := g11
  obtain ⟨T13, X13, p13, bl13, sl13, st13⟩ := X11.finit hexec hown (wk W (.fieldLink "java/lang/String" 15 "java/lang/String" "coder" "B")) (Or.inr ⟨_, (wk W (.laysFinal "java/lang/String" "java/lang/String" "coder" "B"))⟩) (Or.inl ⟨rfl, hnm⟩) f2 (Or.inl rfl) hB11 (t := .byte) (by decide +kernel) rfl (g := (mkF m 48 #[.val (.ref a), .val (.ref b), .val (.int (Int32.ofNat o)), .val (.int (Int32.ofNat len)), .val .null, .val (.ref s.heap.size)] [.int 0, .ref a])) rfl (rest := []) rfl (hb hbytes d48)
  have c14 : Steps p.tables e below (s₁.setTop (entryFrame m #[.ref a, .ref b, .int (Int32.ofNat o), .int (Int32.ofNat len), .null] 6)) (T13.setTop (mkF m 54 #[.val (.ref a), .val (.ref b), .val (.int (Int32.ofNat o)), .val (.int (Int32.ofNat len)), .val .null, .val (.ref s.heap.size)] [.ref s.heap.size, .ref a])) := (c12.trans (st13 _ (Steps.refl _))).trans (by
    refine XS.aloadN X13.here hexec rfl (hb hbytes d51) rfl rfl ?_
    refine XS.aload X13.here hexec rfl (hb hbytes d52) rfl rfl ?_
    exact Steps.refl _)
  obtain ⟨T15, X15, p15, bl15, sl15, st15⟩ := X13.finit hexec hown (wk W (.fieldLink "java/lang/String" 9 "java/lang/String" "value" "[B")) (Or.inr ⟨_, (wk W (.laysFinal "java/lang/String" "java/lang/String" "value" "[B"))⟩) (Or.inl ⟨rfl, hnm⟩) f1 (Or.inl rfl) bl13 (t := (.array .byte)) (by decide +kernel) rfl (g := (mkF m 54 #[.val (.ref a), .val (.ref b), .val (.int (Int32.ofNat o)), .val (.int (Int32.ofNat len)), .val .null, .val (.ref s.heap.size)] [.ref s.heap.size, .ref a])) rfl (rest := []) rfl (hb hbytes d54)
  have c16 : Steps p.tables e below (s₁.setTop (entryFrame m #[.ref a, .ref b, .int (Int32.ofNat o), .int (Int32.ofNat len), .null] 6)) (T15.setTop (mkF m 57 #[.val (.ref a), .val (.ref b), .val (.int (Int32.ofNat o)), .val (.int (Int32.ofNat len)), .val .null, .val (.ref s.heap.size)] [])) := c14.trans (st15 _ (Steps.refl _))
  have ap := apart (Or.inr ⟨_, (wk W (.laysFinal "java/lang/String" "java/lang/String" "value" "[B"))⟩) (Or.inr ⟨_, (wk W (.laysFinal "java/lang/String" "java/lang/String" "coder" "B"))⟩) f1 f2 (t₁ := .array .byte) (t₂ := .byte) (by decide +kernel) (by decide +kernel) (by decide)
  have al := X8.warmed.alike.symm.trans X15.warmed.alike
  have n7 : T11.heap[s.heap.size]? = some N := by rw [q11]; exact n1.1
  exact ⟨T15, none, _, _, _, X15, by simp, rfl, by omega, (fun _ => rfl), ⟨rfl, _, N, bl15, ((Same.refl D _).set _ (by simp)).set _ (by simp), sl15, (Cell.slots_setSlot_ne _ ap).trans sl13, n1.keep al (p15.other hne (p13.other hne n7)), n2, by rw [al.findClass]; exact n3, n4, n5, fun y c h1 h2 => p15.other h1 (p13.other h1 (by rw [q11]; exact n6 y c h2)), by rw [p15.2.2, p13.2.2, q11]; exact z8⟩, fun fs hl => c16.trans (X15.returnOut hexec hret (hb hbytes d57) hl)⟩
end New4
namespace New1
def yN : MethodName := ⟨"java/lang/String", "<init>", "([C)V"⟩
abbrev yB : ByteArray := jdk_42_method_3_code
theorem d0 : decode yB 0 = .ok (.aload_n 0, 1) := by decide +kernel
theorem d1 : decode yB 1 = .ok (.aload_n 1, 1) := by decide +kernel
theorem d2 : decode yB 2 = .ok (.iconst 0, 1) := by decide +kernel
theorem d3 : decode yB 3 = .ok (.aload_n 1, 1) := by decide +kernel
theorem d4 : decode yB 4 = .ok (.arraylength, 1) := by decide +kernel
theorem d5 : decode yB 5 = .ok (.aconst_null, 1) := by decide +kernel
theorem d6 : decode yB 6 = .ok (.invokespecial 27, 3) := by decide +kernel
theorem d9 : decode yB 9 = .ok (.return_, 1) := by decide +kernel
def site : List Cond := [New4.tab] ++ initW "java/lang/String" 27 New4.yN
def tab : Cond := tabOf yN yB 2 none site
def P (a : Addr) (D : Cell) (fV fC : Field) (b : Addr) (A : Cell) (z : Int32) (args : Array Value) (s : State) : Prop := args = #[.ref a, .ref b] ∧ Blank "java/lang/String" a D s ∧ Found "java/lang/String" "value" "[B" fV s ∧ Found "java/lang/String" "coder" "B" fC s ∧ Ch b A s ∧ StaticIs s "java/lang/String" "COMPACT_STRINGS" "Z" (.int z) ∧ ¬ z = 0 ∧ 0 < A.slots.size ∧ A.slots.size ≤ 536870912 ∧ ∀ i, i < A.slots.size → ¬ 255 < cv A i
def E (a : Addr) (D : Cell) (fV fC : Field) (A : Cell) (r : Option Value) (s u : State) : Prop := Got a D fV fC A 0 A.slots.size r s u
/-- new String(chars), not empty, no char above 255: a Latin-1 String of their low bytes -/
theorem law (l : Launch) (a : Addr) (D : Cell) (fV fC : Field) (b : Addr) (A : Cell) (z : Int32) : Law l yN 2 1 3 52 yB 2 none site (P a D fV fC b A z) (E a D fV fC A) [⟨a, fC.slot⟩, ⟨a, fV.slot⟩] 1 A.slots.size := by
  refine Law.of_walk (plainFor_of_name (by decide +kernel)) (by decide +kernel) (by decide +kernel) (by decide) (fun _ _ h => by rw [h.1]; rfl) (fun _ U U' hal hh h => ⟨h.1, h.2.1.mv hal hh, h.2.2.1.al hal, h.2.2.2.1.al hal, h.2.2.2.2.1.mv hal hh, h.2.2.2.2.2.1.there hal hh, h.2.2.2.2.2.2⟩) (fun r U U' V V' h1 hal h2 h => Got.mv r U U' V V' h1 hal h2 h) ?_
  intro p e s m args below meth c s₁ X0 hexec hbytes hml hret hlk hnm hown hh0 W hP
  obtain ⟨rfl, hB, f1, f2, hA, s1, hz, l0, l2, hp⟩ := hP
  have c1 : Steps p.tables e below (s₁.setTop (entryFrame m #[.ref a, .ref b] 2)) (s₁.setTop (mkF m 0 #[.val (.ref a), .val (.ref b)] [])) := entry rfl
  have c2 : Steps p.tables e below (s₁.setTop (entryFrame m #[.ref a, .ref b] 2)) (s₁.setTop (mkF m 6 #[.val (.ref a), .val (.ref b)] [.null, .int (Int32.ofNat A.slots.size), .int 0, .ref b, .ref a])) := c1.trans (by
    refine XS.aloadN X0.here hexec rfl (hb hbytes d0) rfl rfl ?_
    refine XS.aloadN X0.here hexec rfl (hb hbytes d1) rfl rfl ?_
    refine iconstV X0.here hexec rfl 0 (hb hbytes d2) (by decide) ?_
    refine XS.aloadN X0.here hexec rfl (hb hbytes d3) rfl rfl ?_
    refine X0.alen hexec (hA.1.mv X0.warmed.alike hh0) rfl rfl (hb hbytes d4) ?_
    refine XS.aconstNull X0.here hexec rfl (hb hbytes d5) ?_
    exact Steps.refl _)
  obtain ⟨v3, T3, X3, E3, g3⟩ := X0.callN hexec (New4.law l a D fV fC b A z 0 A.slots.size) rfl hown (wks W (initW "java/lang/String" 27 New4.yN)) (W New4.tab (by simp only [site, List.mem_cons, List.mem_append, true_or, or_true])) (W := 0) (Nat.le_of_ble_eq_true rfl) (Nat.le_of_ble_eq_true rfl) (Nat.le_refl _) (by show 0 + A.slots.size ≤ A.slots.size; omega) (g := (mkF m 6 #[.val (.ref a), .val (.ref b)] [.null, .int (Int32.ofNat A.slots.size), .int (Int32.ofNat 0), .ref b, .ref a])) rfl (by rw [hml]; rfl) c2 (argsL := [.ref b, .int (Int32.ofNat 0), .int (Int32.ofNat A.slots.size), .null]) (rest := []) rfl rfl (by show 2 * 0 + 0 ≤ _; decide) (hb hbytes d6) (⟨rfl, hB.mv X0.warmed.alike hh0, f1.al X0.warmed.alike, f2.al X0.warmed.alike, hA.mv X0.warmed.alike hh0, s1.there X0.warmed.alike hh0, hz, l0, by omega, l2, fun i hi => by rw [Nat.zero_add]; exact hp i hi⟩)
  have e0 := Got.mv _ s₁ s _ _ hh0.symm (Vm.Alike.refl _) rfl E3
  obtain rfl := e0.1
  have c4 : Steps p.tables e below (s₁.setTop (entryFrame m #[.ref a, .ref b] 2)) (T3.setTop (mkF m 9 #[.val (.ref a), .val (.ref b)] [])) := g3
  exact ⟨T3, none, _, _, _, X3, by simp, rfl, by omega, (fun _ => rfl), e0, fun fs hl => c4.trans (X3.returnOut hexec hret (hb hbytes d9) hl)⟩
theorem pays {l : Launch} {R : Room} {p : Program} {e : Env} {below : List Frame} {s : State} {sargs : Array Value} {len W : Nat} (a : Addr) (D : Cell) (fV fC : Field) (b : Addr) (A : Cell) (z : Int32) (htab : tab.before sargs s = true) (hfr : 4 ≤ R.frames) (hlo : W + 65 ≤ R.locals) :
    Back l R p e below s sargs yN len W (fun A₁ a₁ => A₁.cells + 1 ≤ R.cells ∧ A₁.slots + A.slots.size ≤ R.slots ∧ P a D fV fC b A z a₁ A₁.U) (fun A₁ _ v₁ B₁ => E a D fV fC A v₁ A₁.U B₁.U ∧ B₁.locs = A₁.locs ++ [⟨a, fC.slot⟩, ⟨a, fV.slot⟩] ∧ B₁.cells = A₁.cells + 1 ∧ B₁.slots = A₁.slots + A.slots.size) :=
  (law l a D fV fC b A z).pays htab hfr (by omega)
end New1
end StrChars
namespace StrChars.Road
open Jvm Sem ClassFile Op Lib Jvm.Stand Jvm.Free Jvm.Free.XT
open Jvm.Lib.Cold (StaticIs)
abbrev ST : String := "java/lang/String"
/-- every table word that New1's law asks, flat -/
abbrev words : List Jvm.Cond := [.code New1.yN New1.yB 2 none, .initialized ST, .methodLink ST 27 New4.yN, .instanceMethod New4.yN,
  .code New4.yN New4.yB 6 none, .fieldLink ST 38 ST "COMPACT_STRINGS" "Z", .laysFinal ST ST "value" "[B", .fieldLink ST 9 ST "value" "[B", .laysFinal ST ST "coder" "B", .fieldLink ST 15 ST "coder" "B",
  .methodLink ST 1 Lib.objectInit, .instanceMethod Lib.objectInit, .code Lib.objectInit ⟨#[0xb1]⟩ 1 none, .methodLink ST 177 Cmp3.yN, .static Cmp3.yN, .methodLink ST 47 CodL.yN, .static CodL.yN,
  .code Cmp3.yN Cmp3.yB 6 (some (.array .byte)), .initialized U16, .arrayClass .byte, .methodLink U16 115 Cmp5.yN, .static Cmp5.yN, .code Cmp5.yN Cmp5.yB 7 (some .int), .code CodL.yN CodL.yB 2 (some .byte)]
theorem tab_of {a : Array Value} {s : State} (h : ∀ w ∈ words, w.before a s = true) : New1.tab.before a s = true := by
  have h5 : Cmp5.tab.before a s = true := unparts (wk h (.code Cmp5.yN Cmp5.yB 7 (some .int))) (wks h (.initialized Cmp5.yN.cls :: Cmp5.site))
  have hc : CodL.tab.before a s = true := unparts (wk h (.code CodL.yN CodL.yB 2 (some .byte))) (wks h (.initialized CodL.yN.cls :: CodL.site))
  have q5 : ∀ w ∈ Cmp5.tab :: words, w.before a s = true := fun w hw => (List.mem_cons.mp hw).elim (fun e => e ▸ h5) (h w)
  have h3 : Cmp3.tab.before a s = true := unparts (wk q5 (.code Cmp3.yN Cmp3.yB 6 (some (.array .byte)))) (wks q5 (.initialized Cmp3.yN.cls :: Cmp3.site))
  have q3 : ∀ w ∈ Cmp3.tab :: CodL.tab :: words, w.before a s = true := fun w hw => (List.mem_cons.mp hw).elim (fun e => e ▸ h3) fun hw => (List.mem_cons.mp hw).elim (fun e => e ▸ hc) (h w)
  have h4 : New4.tab.before a s = true := unparts (wk q3 (.code New4.yN New4.yB 6 none)) (wks q3 (.initialized New4.yN.cls :: New4.site))
  have q4 : ∀ w ∈ New4.tab :: words, w.before a s = true := fun w hw => (List.mem_cons.mp hw).elim (fun e => e ▸ h4) (h w)
  exact unparts (wk q4 (.code New1.yN New1.yB 2 none)) (wks q4 (.initialized New1.yN.cls :: New1.site))
/-- the words ride from the start Z to the walk's own state -/
theorem moved {Z s : State} {a0 args : Array Value} (hZ : Z.Warmed39 s.vm) (hw : ∀ d ∈ words, d.before a0 Z = true) : ∀ d ∈ words, d.before args s = true := fun d hd => by
  have q := hw d hd
  have t : ∀ d ∈ words, d = .arrayClass .byte ∨ (d.onTables && d.keepsFace) = true := by decide +kernel
  rcases t d hd with rfl | t
  · exact RoadKit.mvA hZ q
  · exact RoadKit.mv hZ q t
/-- WHAT COMES BACK, over the tables of the start Z: h the heap at the call, h' behind it -/
def Q (Z : State) (x : Addr) (A : Cell) (h : Heap) (v : Option Value) (h' : Heap) (L : List Loc) : Prop := v = none ∧ (∀ y ∈ L, y.base = x) ∧ RoadKit.Keep h h' [x] ∧ h'.size = h.size + 1 ∧ RoadKit.Exa Z h' x ST ∧ RoadKit.Fld Z h' x ST "value" "[B" (.ref h.size) ∧ RoadKit.Fld Z h' x ST "coder" "B" (.int 0) ∧
  (∃ V : Cell, RoadKit.Arr Z h' h.size V .byte ∧ V.vm = .none ∧ Z.vm.findClass "[B" = some V.cls ∧ V.slots.size = A.slots.size ∧ ∀ j, j < A.slots.size → V.slots[j]? = some (.int (lo8 (cv A j)))) ∧
  ∀ (O n d : String) (w : Value), RoadKit.Fld Z h x O n d w → RoadKit.slotOf Z O n d ≠ RoadKit.slotOf Z ST "value" "[B" → RoadKit.slotOf Z O n d ≠ RoadKit.slotOf Z ST "coder" "B" → RoadKit.Fld Z h' x O n d w
/-- **new String(chars) AT A CALL, IN THE ROAD'S FORM**: for specialBack behind newO: x the fresh String, b the char[] with the cell A -/
theorem back {p : Program} {l : Launch} {e : Env} {R : Room} {s : State} {args : Array Value} {below : List Frame} {len W : Nat} {Z : State} {a0 : Array Value} {h : Heap} (hZ : Z.Warmed39 s.vm) (hw : ∀ d ∈ words, d.before a0 Z = true) {kI : Nat} (wi : (Jvm.Cond.instantiable ST kI).before a0 Z = true)
    {x b : Addr} {A : Cell} {z : Int32} {v0 c0 : Value} (E : RoadKit.Exa Z h x ST) (V : RoadKit.Fld Z h x ST "value" "[B" v0) (C : RoadKit.Fld Z h x ST "coder" "B" c0) (K : RoadKit.Arr Z h b A .char) (hty : Typed .char A) (S : RoadKit.Sta Z h ST "COMPACT_STRINGS" "Z" (.int z)) (hz : ¬ z = 0)
    (l0 : 0 < A.slots.size) (l2 : A.slots.size ≤ 536870912) (hp : ∀ i, i < A.slots.size → ¬ 255 < cv A i) (hfr : 4 ≤ R.frames) (hlo : W + 65 ≤ R.locals) :
    Back l R p e below s args New1.yN len W (fun P a => a = #[.ref x, .ref b] ∧ P.U.heap = h ∧ P.cells + 1 ≤ R.cells ∧ P.slots + A.slots.size ≤ R.slots)
      (fun P _ v B => ∃ L, Q Z x A h v B.U.heap L ∧ B.locs = P.locs ++ L ∧ B.cells = P.cells + 1 ∧ B.slots = P.slots + A.slots.size) := by
  intro m meth c P g ig mk a X hg hsize hdg hW hn hp'
  obtain ⟨rfl, rfl, r1, r2⟩ := hp'
  have al : Z.vm.Alike P.U.vm := hZ.alike.trans X.warmed.alike
  obtain ⟨D, cfV, kV, iV, fV, hD, gV, stV, knV, obV, asV, slV⟩ := id V
  obtain ⟨D', cfC, kC, iC, fC, hD', gC, stC, -, -, asC, slC⟩ := id C
  cases hD.symm.trans hD'
  obtain ⟨D2, kD, e1, e2, e3, e4, e5⟩ := id E
  cases hD.symm.trans e1
  obtain ⟨c2, k2, i1, i2, i3, -⟩ := Cond.instantiable_spec wi
  cases e2.symm.trans i1
  cases e3.symm.trans i2
  obtain ⟨kU, u1, u2⟩ := al.2.2 _ _ e3
  have hB : Blank ST x D P.U := ⟨hD, ⟨knV, fun q hq => by rw [hq] at obV; cases obV⟩, by rw [al.findClass]; exact e2, kU, u1, by rw [u2]; exact i3, by rw [u2]; exact e5 i3⟩
  have F1 : Found ST "value" "[B" fV P.U := ⟨SBG.found_only al ⟨cfV, kV, iV, gV⟩, stV⟩
  have F2 : Found ST "coder" "B" fC P.U := ⟨SBG.found_only al ⟨cfC, kC, iC, gC⟩, stC⟩
  have hA : Ch b A P.U := ⟨⟨K.1, State.isArrayOf_alike al K.2.1, K.2.2, by omega⟩, hty⟩
  have hS : StaticIs P.U ST "COMPACT_STRINGS" "Z" (.int z) := by
    obtain ⟨cfS, iS, kS, fS, st, cS, t1, t2, t3, t4, t5, t6, t7⟩ := S
    exact StaticIs.there (s := { Z with heap := P.U.heap }) ⟨cfS, iS, kS, fS, st, cS, t1, t2, t3, t4, t5, (fun q => by rw [q] at t6; cases t6), t7⟩ al rfl
  obtain ⟨v, B, X', ⟨⟨hv, E', V', q1, q2, q3, q4, q5, q6, q7, q8, q9, q10, q11⟩, hl, hc, hs⟩, st⟩ := New1.pays x D fV fC b A z (tab_of (moved hZ hw)) hfr hlo m meth c P g ig mk _ X hg hsize hdg hW hn ⟨r1, r2, rfl, hB, F1, F2, hA, hS, hz, l0, l2, hp⟩
  have al' : Z.vm.Alike B.U.vm := hZ.alike.trans X'.warmed.alike
  have hsz : E'.slots.size = D.slots.size := by
    obtain ⟨-, -, -, kB, w1, w2, w3⟩ := q1
    obtain ⟨kB', y1, y2⟩ := al'.2.2 _ _ e3
    rw [q2.2.1] at w1
    cases w1.symm.trans y1
    rw [w3, e5 i3, y2]
  refine ⟨v, B, X', ⟨_, ⟨hv, ?_, ⟨by omega, fun y cy hy hn' => q10 y cy (by simpa using hn') hy, fun y cy hy => ?_⟩, q11, ⟨E', _, q1.1, by rw [q2.2.1]; exact e2, by rw [q2.2.1]; exact e3, by rw [q2.1]; exact obV, fun _ => by rw [hsz]; exact e5 i3⟩,
    ⟨E', cfV, kV, iV, fV, q1.1, gV, stV, by rw [q2.1]; exact knV, by rw [q2.1]; exact obV, by rw [q2.2.1]; exact asV, q3⟩, ⟨E', cfC, kC, iC, fC, q1.1, gC, stC, by rw [q2.1]; exact knV, by rw [q2.1]; exact obV, by rw [q2.2.1]; exact asC, q4⟩,
    ⟨V', ⟨q5.1, State.isArrayOf_alike al'.symm q5.2.1, q5.2.2.1⟩, q6, by rw [← al'.findClass]; exact q7, q8, fun j hj => by have := q9 j hj; rwa [Nat.zero_add] at this⟩, fun O n d w F n1 n2 => ?_⟩, hl, hc, hs⟩, st⟩
  · intro y hy
    simp only [List.mem_cons, List.not_mem_nil, or_false] at hy
    rcases hy with rfl | rfl <;> rfl
  · by_cases q : y = x
    · subst q
      cases hD.symm.trans hy
      exact ⟨E', q1.1, q2.2.1, q2.1, hsz⟩
    · exact ⟨cy, q10 y cy q hy, rfl, rfl, rfl⟩
  · obtain ⟨D3, cf, k, i, f, g1, g2, g3, g4, g5, g6, g7⟩ := F
    cases hD.symm.trans g1
    simp only [RoadKit.slotOf, g2, gV, gC, Option.map_some, Option.getD_some] at n1 n2
    exact ⟨E', cf, k, i, f, q1.1, g2, g3, by rw [q2.1]; exact g4, by rw [q2.1]; exact g5, by rw [q2.2.1]; exact g6, by rw [q2.2.2 f.slot (by simp [n1, n2])]; exact g7⟩
end StrChars.Road
namespace StrChars.Road
open Jvm Sem ClassFile Op Lib Jvm.Stand Jvm.Free Jvm.Free.XT
/-- WHAT COMES BACK, the byte[] as a list of values -/
def QA (Z : State) (x : Addr) (zn : Int32) (cs : List Int32) (h : Heap) (v : Option Value) (h' : Heap) (L : List Loc) : Prop := v = none ∧ (∀ y ∈ L, y.base = x) ∧ RoadKit.Keep h h' [x] ∧ h'.size = h.size + 1 ∧ RoadKit.Exa Z h' x ST ∧ RoadKit.Fld Z h' x ST "value" "[B" (.ref h.size) ∧ RoadKit.Fld Z h' x ST "coder" "B" (.int 0) ∧
  (∃ kb, Z.vm.findClass "[B" = some kb ∧ RoadKit.Arv Z h' h.size kb .byte zn (cs.map fun c => .int (lo8 c)) (.int 0)) ∧
  ∀ (O n d : String) (w : Value), RoadKit.Fld Z h x O n d w → RoadKit.slotOf Z O n d ≠ RoadKit.slotOf Z ST "value" "[B" → RoadKit.slotOf Z O n d ≠ RoadKit.slotOf Z ST "coder" "B" → RoadKit.Fld Z h' x O n d w
/-- **new String(chars) AT A CALL, THE ARRAYS AS LISTS**: the char[] at b holds cs, not empty, no char above 255 -/
theorem backArv {p : Program} {l : Launch} {e : Env} {R : Room} {s : State} {args : Array Value} {below : List Frame} {len W : Nat} {Z : State} {a0 : Array Value} {h : Heap} (hZ : Z.Warmed39 s.vm) (hw : ∀ d ∈ words, d.before a0 Z = true) {kI : Nat} (wi : (Jvm.Cond.instantiable ST kI).before a0 Z = true)
    {x b : Addr} {k : ClassId} {zn z : Int32} {cs : List Int32} {dv v0 c0 : Value} (E : RoadKit.Exa Z h x ST) (V : RoadKit.Fld Z h x ST "value" "[B" v0) (C : RoadKit.Fld Z h x ST "coder" "B" c0) (K : RoadKit.Arv Z h b k .char zn (cs.map Value.int) dv) (S : RoadKit.Sta Z h ST "COMPACT_STRINGS" "Z" (.int z)) (hz : ¬ z = 0)
    (hlen : zn.toNatClampNeg = cs.length) (h0 : 0 < cs.length) (hbig : cs.length ≤ 536870912) (hall : ∀ c ∈ cs, ¬ 255 < c) (hfr : 4 ≤ R.frames) (hlo : W + 65 ≤ R.locals) :
    Back l R p e below s args New1.yN len W (fun P a => a = #[.ref x, .ref b] ∧ P.U.heap = h ∧ P.cells + 1 ≤ R.cells ∧ P.slots + cs.length ≤ R.slots)
      (fun P _ v B => ∃ L, QA Z x zn cs h v B.U.heap L ∧ B.locs = P.locs ++ L ∧ B.cells = P.cells + 1 ∧ B.slots = P.slots + cs.length) := by
  obtain ⟨A, K1, K2, K3, K4, K5, K6⟩ := K
  have e : A.slots.size = cs.length := K3.trans hlen
  have hat : ∀ (i : Nat) (hi : i < cs.length), A.slots[i]? = some (.int cs[i]) := fun i hi => by rw [K5 i (by omega)]; simp [List.getD_eq_getElem?_getD, hi]
  have hcv : ∀ (i : Nat) (hi : i < cs.length), cv A i = cs[i] := fun i hi => by unfold cv; rw [hat i hi]
  have hty : Typed .char A := fun i v hv => by
    have hi : i < A.slots.size := (Array.getElem?_eq_some_iff.mp hv).1
    have q := K5 i hi
    rw [hv] at q
    rw [Option.some.inj q]
    exact K6 i hi
  refine Back.mono (back hZ hw wi E V C K1 hty S hz (by omega) (by omega) (fun i hi => by rw [hcv i (by omega)]; exact hall _ (List.getElem_mem _)) hfr hlo) (fun P a hp => ⟨hp.1, hp.2.1, hp.2.2.1, by rw [e]; exact hp.2.2.2⟩) (fun P a v B hp hq => ?_)
  obtain ⟨L, ⟨q1, q2, q3, q4, q5, q6, q7, ⟨V', v1, v2, v3, v4, v5⟩, q9⟩, hl, hc, hs⟩ := hq
  refine ⟨L, ⟨q1, q2, q3, q4, q5, q6, q7, ⟨V'.cls, v3, V', v1, rfl, by rw [v4, e, hlen], K4, fun i hi => ?_, fun i hi => ?_⟩, q9⟩, hl, hc, by rw [hs, e]⟩
  · have hi' : i < cs.length := by omega
    rw [v5 i (by omega), hcv i hi']; simp [List.getD_eq_getElem?_getD, hi']
  · have hi' : i < cs.length := by omega
    simp only [List.getD_eq_getElem?_getD, List.getElem?_map, List.getElem?_eq_getElem hi', Option.map_some, Option.getD_some]
    exact fits_lo8 _
end StrChars.Road
namespace StrChars.Road
open Jvm Sem ClassFile Op Lib Jvm.Stand Jvm.Free Jvm.Free.XT
/-- WHAT COMES BACK, in the writer's own shape -/
def QV (Z : State) (x : Addr) (N : Int32) (bs : List Int32) (h : Heap) (n0 : Nat) (v : Option Value) (h' : Heap) (L : List Loc) : Prop := v = none ∧ RoadKit.Fr n0 L ∧ RoadKit.Keep h h' [x] ∧ RoadKit.Exa Z h' x ST ∧ RoadKit.Fld Z h' x ST "coder" "B" (.int 0) ∧
  ∃ (t : Addr) (kb : ClassId), n0 ≤ t ∧ h.size ≤ t ∧ ¬ t = x ∧ RoadKit.Fld Z h' x ST "value" "[B" (.ref t) ∧ RoadKit.Arv Z h' t kb .byte N (bs.map Value.int) (.int 0)
/-- **new String(chars) AT A CALL, FOR THE WRITER**: a char[] of n known ints, each 0 to 255 -/
theorem backV {p : Program} {l : Launch} {e : Env} {R : Room} {s : State} {args : Array Value} {below : List Frame} {len W : Nat} {Z : State} {a0 : Array Value} {h : Heap} (hZ : Z.Warmed39 s.vm) (hw : ∀ d ∈ words, d.before a0 Z = true) {kI : Nat} (wi : (Jvm.Cond.instantiable ST kI).before a0 Z = true)
    {x b : Addr} {kC : ClassId} {cs bs : List Int32} {d v0 c0 : Value} {z N : Int32} {n n0 : Nat} (hx0 : n0 ≤ x) (hh0 : n0 ≤ h.size) (E : RoadKit.Exa Z h x ST) (V : RoadKit.Fld Z h x ST "value" "[B" v0) (C : RoadKit.Fld Z h x ST "coder" "B" c0) (K : RoadKit.Arv Z h b kC .char N (cs.map Value.int) d) (S : RoadKit.Sta Z h ST "COMPACT_STRINGS" "Z" (.int z)) (hz : ¬ z = 0)
    (hn : cs.length = n) (hN : N = Int32.ofNat n) (l0 : 0 < n) (l2 : n ≤ 4000) (hp : ∀ c ∈ cs, ¬ c < 0 ∧ ¬ (255 : Int32) < c) (hb : bs = cs.map (fun c => c.toInt8.toInt32)) (hfr : 4 ≤ R.frames) (hlo : W + 65 ≤ R.locals) :
    Back l R p e below s args (⟨"java/lang/String", "<init>", "([C)V"⟩ : MethodName) len W (fun P a => a = #[.ref x, .ref b] ∧ P.U.heap = h ∧ P.cells + 1 ≤ R.cells ∧ P.slots + n ≤ R.slots)
      (fun P _ v B => ∃ L, QV Z x N bs h n0 v B.U.heap L ∧ B.locs = P.locs ++ L ∧ B.cells = P.cells + 1 ∧ B.slots = P.slots + n) := by
  subst hn hN hb
  refine Back.mono (backArv hZ hw wi E V C K S hz (n32 (by omega)) l0 (by omega) (fun c hc => (hp c hc).2) hfr hlo) (fun P a hp => hp) (fun P a v B hp hq => ?_)
  obtain ⟨L, ⟨q1, q2, q3, q4, q5, q6, q7, ⟨kb, v1, v2⟩, q9⟩, hl, hc, hs⟩ := hq
  exact ⟨L, ⟨q1, fun y hy => by rw [q2 y hy]; exact hx0, q3, q5, q7, h.size, kb, hh0, Nat.le_refl _, Nat.ne_of_gt E.lt, q6, by rw [List.map_map]; exact v2⟩, hl, hc, hs⟩
end StrChars.Road
namespace StrChars
open Jvm Sem ClassFile Op Lib Jvm.Stand Jvm.Free.XT Jvm.Free.ALB Jvm.Free.JM Jvm.Free
open Jvm.Lib.Cold (StaticIs)
def hi8 (x : Int32) : Int32 := lo8 (x >>> ((8 : Int32) &&& 31))
/-- what StringUTF16.getChar makes of two bytes -/
def pairCh (u v : Int32) : Int32 := (((u &&& 255) <<< ((0 : Int32) &&& 31)) ||| ((v &&& 255) <<< ((8 : Int32) &&& 31))).toUInt32.toUInt16.toUInt32.toInt32
theorem lo8_and (x : Int32) : (lo8 x &&& 255).toBitVec.toNat = x.toBitVec.toNat % 256 := by
  have h : (lo8 x).toBitVec = (x.toBitVec.signExtend 8).signExtend 32 := by rw [lo8, Int8.toBitVec_toInt32, Int32.toBitVec_toInt8]
  rw [Int32.toBitVec_and, BitVec.toNat_and, h]
  have e : ((x.toBitVec.signExtend 8).signExtend 32).toNat % 256 = x.toBitVec.toNat % 256 := by
    rw [BitVec.toNat_signExtend]
    have hlt := x.toBitVec.isLt
    simp only [BitVec.toNat_setWidth, BitVec.toNat_signExtend]
    split <;> split <;> omega
  rw [← e]
  exact Nat.and_two_pow_sub_one_eq_mod _ 8
theorem pair_says {c : Int32} (h0 : ¬ c < 0) (h1 : ¬ 65535 < c) : pairCh (lo8 c) (hi8 c) = c := by
  rw [Int32.lt_iff_toInt_lt] at h0 h1
  have e0 : (0 : Int32).toInt = 0 := rfl
  have e1 : (65535 : Int32).toInt = 65535 := rfl
  have hc : c.toInt = c.toBitVec.toNat := by
    have := c.toBitVec.isLt
    have e : c.toInt = c.toBitVec.toInt := rfl
    rw [e] at h0 h1
    rw [e]
    rw [BitVec.toInt_eq_toNat_cond] at h0 h1 ⊢
    split at h0 <;> split <;> omega
  have hn : c.toBitVec.toNat < 65536 := by omega
  have a1 := lo8_and c
  have a2 : (hi8 c &&& 255).toBitVec.toNat = c.toBitVec.toNat / 256 := by
    rw [hi8, lo8_and]
    have e : ((8 : Int32) &&& 31) = 8 := by decide
    rw [e, Int32.toBitVec_shiftRight]
    have e2 : ((8 : Int32).toBitVec.smod 32) = 8#32 := by decide
    rw [e2, BitVec.sshiftRight_eq', BitVec.toNat_sshiftRight_of_msb_false (by rw [BitVec.msb_eq_false_iff_two_mul_lt]; omega)]
    show c.toBitVec.toNat >>> 8 % 256 = _
    rw [Nat.shiftRight_eq_div_pow]
    omega
  unfold pairCh
  apply Int32.toBitVec_inj.mp
  apply BitVec.eq_of_toNat_eq
  have f0 : ((0 : Int32) &&& 31) = 0 := by decide
  have f8 : ((8 : Int32) &&& 31) = 8 := by decide
  rw [f0, f8]
  have g : (((lo8 c &&& 255) <<< (0 : Int32)) ||| ((hi8 c &&& 255) <<< (8 : Int32))).toBitVec.toNat = c.toBitVec.toNat := by
    rw [Int32.toBitVec_or, Int32.toBitVec_shiftLeft, Int32.toBitVec_shiftLeft]
    have s0 : ((0 : Int32).toBitVec.smod 32) = 0#32 := by decide
    have s8 : ((8 : Int32).toBitVec.smod 32) = 8#32 := by decide
    rw [s0, s8, BitVec.toNat_or]
    simp only [BitVec.shiftLeft_eq', BitVec.toNat_shiftLeft, a1, a2]
    show (c.toBitVec.toNat % 256) <<< 0 % 2 ^ 32 ||| (c.toBitVec.toNat / 256) <<< 8 % 2 ^ 32 = _
    rw [Nat.shiftLeft_zero, Nat.mod_eq_of_lt (show c.toBitVec.toNat % 256 < 2 ^ 32 by omega), Nat.mod_eq_of_lt (show (c.toBitVec.toNat / 256) <<< 8 < 2 ^ 32 by rw [Nat.shiftLeft_eq]; omega), Nat.or_comm, ← Nat.shiftLeft_add_eq_or_of_lt (by omega), Nat.shiftLeft_eq]
    omega
  show BitVec.toNat (((((lo8 c &&& 255) <<< (0 : Int32)) ||| ((hi8 c &&& 255) <<< (8 : Int32))).toBitVec.setWidth 16).setWidth 32) = _
  rw [BitVec.toNat_setWidth, BitVec.toNat_setWidth, g]
  omega
end StrChars
namespace StrChars
open Jvm Sem ClassFile Op Lib Jvm.Stand Jvm.Free.XT Jvm.Free.ALB Jvm.Free.JM Jvm.Free
open Jvm.Lib.Cold (StaticIs)
theorem narrow_ch {c : Int32} (h0 : ¬ c < 0) (h1 : ¬ 65535 < c) : narrow .char (.int c) = .int c := by
  have q : narrow .char (.int (pairCh (lo8 c) (hi8 c))) = .int (pairCh (lo8 c) (hi8 c)) := narrow_c _
  rwa [pair_says h0 h1] at q
end StrChars
end Jvm.Pilot.@@N@@
namespace Jvm.Own
open Sem ClassFile Op Lib Bundle Jvm.Stand Jvm.Free Jvm.LawKit Jvm.RoadKit
section Start
variable {args : Array Value} {Z : State} {t u : Term} {a : Addr} {cl : Cell} {ty : FieldType} {z : Int32} {vs : List Value} {dv : Value}
theorem eqI {n : Int32} (h : (Cond.eq t (.int n)).value args Z none Z [] = some true) : t.eval args Z none [] Z = some (.int n) := Cond.eq_int (beq_iff_eq.mpr h) rfl
theorem eqRef (h : (Cond.eq t u).value args Z none Z [] = some true) (hu : u.eval args Z none [] Z = some (.ref a)) : t.eval args Z none [] Z = some (.ref a) := by
  obtain ⟨x, y, hx, hy, -, k2⟩ := cmp_v (Or.inl h)
  cases hu.symm.trans hy
  have q := gotT (eq_R hx hu k2.2 rfl) h
  rw [hx, q]
theorem arvStart (hf : Fit Z) (A : Arr Z Z.heap a cl ty) (et : t.eval args Z none [] Z = some (.ref a)) (hlen : (Term.length t).eval args Z none [] Z = some (.int z)) (hz : ¬ z < 0) (hl : z.toNatClampNeg = vs.length) (H : HasL cl 0 vs) : Arv Z Z.heap a cl.cls ty z vs dv := by
  have ha : Z.arrayAt? a = some cl := Arr.fin (Vm.Alike.refl _) A
  by_cases q : cl.slots.size < 2 ^ 31
  · have e := (len_f et ha q).symm.trans hlen
    exact Arv.start hf A q (by simpa using e) hz hl H
  · exfalso
    simp only [Term.eval, et, ha, Option.bind_eq_bind, Option.bind_some] at hlen
    rw [if_neg q] at hlen
    cases hlen
theorem elemAt {j : Int32} {v : Value} (A : Arr Z Z.heap a cl ty) (et : t.eval args Z none [] Z = some (.ref a)) (h : (Term.elem t (.int j)).eval args Z none [] Z = some v) : cl.slots[j.toNatClampNeg]? = some v := (elem_in h et rfl A.1).2
end Start
end Jvm.Own
namespace Jvm.Own
open Sem ClassFile Op Lib Bundle Jvm.Stand Jvm.Free Jvm.LawKit Jvm.RoadKit
section Walk3
variable {p : Program} {l : Launch} {e : Env} {R : Room} {s : State} {m : MethodId} {args : Array Value} {below : List Frame} {meth : Method} {c : Code} {T T' : State} {cells slots : Nat} {Z : State} {a0 : Array Value} {EL : List (String × Nat)} {h h' : Heap} {vm0 vm1 : Vm} {y : MethodName} {bytes : ByteArray} {ml : Nat} {ret : Option FieldType} {KC KS : Nat} {Q : Option Value → Heap → Prop} {g g' : JFrame} {pc : Nat} {Ls : Array Slot} {st rest : List Value}
/-- anewarray -/
theorem Wk.newref (W : Wk p l e R s m args below meth c Z a0 EL y bytes ml ret T h vm0 cells slots) {C : String} {index : Nat} (w1 : (Cond.classLink y.cls index C).before a0 Z = true) (w2 : (Cond.arrayOver (.object C)).before a0 Z = true) {n : Int32} (hd : decode bytes pc = .ok (.anewarray index, 3)) (hn : ¬ n < 0) {cap : Nat} (hcap : n.toNatClampNeg ≤ cap) (hb : cap * 8 ≤ 536870912) (hc : cells + 1 ≤ R.cells) (hl : slots + cap ≤ R.slots)
    (K : ∀ T' h' a k, a = h.size → Wk p l e R s m args below meth c Z a0 EL y bytes ml ret T' h' vm0 (cells + 1) (slots + cap) → Ext h h' → Arv Z h' a k (.object C) n [] .null → Ovr Z k C → Go p e below s Z EL KC KS Q T' (mkF m (pc + 3) Ls (.ref a :: rest))) : Go p e below s Z EL KC KS Q T (mkF m pc Ls (.int n :: rest)) := by
  have hx := W.hx; have hd' := W.d hd
  obtain ⟨locs, X, hT, hZ, hown, ⟨k0, hS, hk⟩, hC, hF, hE, r⟩ := W
  obtain ⟨T', h', cA, X', e', E, A, O, st⟩ := RoadKit.newR X hx hZ hown w1 w2 hT (g := mkF m pc Ls (.int n :: rest)) rfl hd' rfl hn hcap hb hc hl
  exact Go.step st (K T' h' _ cA rfl ⟨locs, X', e', hZ, hown, ⟨k0, hS, Nat.le_trans hk E.1⟩, hC.trans (CHr.ext E hC.1), hF, ext_trans hE E, r⟩ E (Arv.new A hn) O)
theorem Wk.aastore (W : Wk p l e R s m args below meth c Z a0 EL y bytes ml ret T h vm0 cells slots) {a b : Addr} {k : ClassId} {C : String} {n j : Int32} {vs : List Value} {dv : Value} (V : Arv Z h a k (.object C) n vs dv) (O : Ovr Z k C) (I : Ins Z h b C true) (i : Nat) (hj : j.toNatClampNeg = i) (hi : i < vs.length) (hin : ¬ j < 0 ∧ j < n) (ha : Z.heap.size ≤ a) (hd : decode bytes pc = .ok (.aastore, 1))
    (K : ∀ T' h', Wk p l e R s m args below meth c Z a0 EL y bytes ml ret T' h' vm0 cells slots → Keep h h' [a] → Arv Z h' a k (.object C) n (vs.set i (.ref b)) dv → Go p e below s Z EL KC KS Q T' (mkF m (pc + 1) Ls rest)) : Go p e below s Z EL KC KS Q T (mkF m pc Ls (.ref b :: .int j :: .ref a :: rest)) := by
  have S : Safe Z EL vm0 h a := Safe.arv W.hZ.alike V (by simp)
  obtain ⟨cl, A, q1, S1, q3, H, G⟩ := id V
  refine W.wrote (sl := j.toNatClampNeg) (v := .ref b) ha S (fun locs X => ?_) (fun T' h' W' Ww => K T' h' W' (Keep.of_wr Ww) (Arv.set A q1 S1 q3 H G rfl Ww i hj hi))
  obtain ⟨_, -, hT, hZ, -⟩ := id W
  exact RoadKit.stR X W.hx hZ hT A (inb_of S1 hin) rfl (Sto.ofV A q1 O I) (g := mkF m pc Ls (.ref b :: .int j :: .ref a :: rest)) rfl rfl (W.d hd)
theorem Wk.ldcF (W : Wk p l e R s m args below meth c Z a0 EL y bytes ml ret T h vm0 cells slots) {index : Nat} {v : UInt32} (w : (Cond.constantFloat y.cls index v).before a0 Z = true) (hd : decode bytes pc = .ok (.ldc index, 2)) (K : Go p e below s Z EL KC KS Q T (mkF m (pc + 2) Ls (.float v :: rest))) : Go p e below s Z EL KC KS Q T (mkF m pc Ls rest) := by
  obtain ⟨_, X, -, hZ, hown, -⟩ := id W
  exact Go.step (X.ldcFloatC W.hx hown (mvT hZ w) (g := mkF m pc Ls rest) rfl (W.d hd)) K
theorem Wk.privat (W : Wk p l e R s m args below meth c Z a0 EL y bytes ml ret T h vm0 cells slots) {index : Nat} {y' : MethodName} {D : String} {bytes' : ByteArray} {ml' : Nat} {ret' : Option FieldType} {rm : Room} {as' : Array Value} {Qc : Option Value → Heap → Prop} {Wd : Nat}
    (wl : (Cond.methodLink y.cls index y').before a0 Z = true) (wi : (Cond.instanceMethod y').before a0 Z = true) (wsel : (Cond.selects y'.cls y' y').before a0 Z = true) (wp : (Cond.privateMethod y').before a0 Z = true) (wz : (Cond.initialized y'.cls).before a0 Z = true) (wc : (Cond.code y' bytes' ml' ret').before a0 Z = true) (hy : y'.cls ≠ "java/lang/invoke/MethodHandle" ∧ y'.cls ≠ "java/lang/invoke/VarHandle")
    (C : Con l Z EL y' bytes' ml' ret' [] rm as' h Qc) (hfr : rm.frames + 1 ≤ R.frames) (hlo : Wd + (ml' + 11) + rm.locals ≤ R.locals) (a : Addr) (E : Exa Z h a D) (argsL : List Value) (rest : List Value) (has : (.ref a :: argsL).toArray = as') {ps : List FieldType} {r' : Option FieldType} (hdesc : parseMethodDescriptor y'.desc = some ⟨ps, r'⟩) (hlen : argsL.length = ps.length) (hsz : Ls.size = ml) (hst : st = argsL.reverse ++ .ref a :: rest) (hW : (rest.map fun v => v.category).sum ≤ Wd)
    (hd : decode bytes pc = .ok (.invokevirtual index, 3)) (hc : cells + rm.cells ≤ R.cells) (hs : slots + rm.slots ≤ R.slots)
    (K : ∀ v T' h' vm1, Wk p l e R s m args below meth c Z a0 EL y bytes ml ret T' h' vm1 (cells + rm.cells) (slots + rm.slots) → Qc v h' → CHr Z EL vm0 h vm1 h' → Go p e below s Z EL KC KS Q T' (mkF m (pc + 3) Ls (v.toList ++ rest))) : Go p e below s Z EL KC KS Q T (mkF m pc Ls st) := by
  have bk := W.back (len := 3) (Wd := Wd) C wc wz hfr hlo
  have hx := W.hx; have hd' := W.d hd
  obtain ⟨locs, X, hT, hZ, hown, -, -, hF, -, -, -, hml, -⟩ := id W
  obtain ⟨cE, e1, e2⟩ := E.cell
  obtain ⟨v, vm₁, B, -, X', h2, hg, ⟨L, hq, hl, hcc, hss, hC'⟩, stp⟩ := X.privateBackS hx hown (mvT hZ wl) (mvT hZ wi) (mvT hZ wsel) (Cond.privateMethod_at (args := args) (mvT hZ wp)) (mvT hZ wc) hy bk (g := mkF m pc Ls st) rfl (by rw [hml]; exact hsz) (Steps.refl _) (a := a) (by rw [hT]; exact e1) e2 (argsL := argsL) (rest := rest) (lenOf hdesc hlen) hst (by show 2 * 0 + _ ≤ _; omega) hd' (fun vm₁ _ => ⟨has, hT, hc, hs⟩)
  exact Go.step (fun _ k => stp.trans k) (K v B.U B.U.heap B.U.vm (W.behind (rm := rm) (Qc := Qc) hF X' h2 hg hl hq hcc hss hC') hq.1 hC')
end Walk3
section Facts3
variable {Z : State} {h h' : Heap} {a o t : Addr} {C : String} {a0 : Array Value} {cs : List Int32}
theorem Str.keepL {n n' : Nat} {k : ClassId} {ty : FieldType} {z : Int32} {vs : List Value} {d : Value} (F : Str Z h a cs) (K : Keep h h' [o, t]) (E : Exa Z h o C) (V : Arv Z h t k ty z vs d) (hn : C ≠ "java/lang/String") (ht : FieldType.byte ≠ ty) (wi : (Cond.instantiable C n).before a0 Z = true) (ws : (Cond.instantiable "java/lang/String" n').before a0 Z = true) : Str Z h' a cs := by
  obtain ⟨t', kb, q1, q2, q3, q4, r⟩ := F
  have n1 : a ≠ o := fun q => (Exa.ne E q1 hn) q.symm
  have n2 : t' ≠ o := fun q => (Exa.neArv E q4 wi) q.symm
  have m1 : a ≠ t := Exa.neArv q1 V ws
  have m2 : t' ≠ t := arv_sort q4 V ht
  exact ⟨t', kb, q1.keep K, q2.keep K (ninS n1 (nin1 m1)), q3.keep K (ninS n1 (nin1 m1)), q4.keep K (ninS n2 (nin1 m2)), r⟩
theorem shr0 (z : Int32) : z >>> ((0 : Int32) &&& 31) = z := by
  apply Int32.toBitVec_inj.mp
  simp [Int32.toBitVec_shiftRight]
theorem mask3 (x : Int32) : x &&& (3 : Int32) = 0 ∨ x &&& (3 : Int32) = 1 ∨ x &&& (3 : Int32) = 2 ∨ x &&& (3 : Int32) = 3 := by
  have t : ∀ k : Fin 4, (Int32.ofNat k.val) = 0 ∨ (Int32.ofNat k.val) = 1 ∨ (Int32.ofNat k.val) = 2 ∨ (Int32.ofNat k.val) = 3 := by decide +kernel
  obtain ⟨j, hj, e⟩ := maskN 3 3 rfl x
  rw [e]; exact t ⟨j, by omega⟩
end Facts3
end Jvm.Own
namespace Jvm.Own
open Sem ClassFile Op Lib Bundle Jvm.Stand Jvm.Free Jvm.LawKit Jvm.RoadKit Jvm.Free.SB Jvm.Free.SBG
section Walk4
variable {p : Program} {l : Launch} {e : Env} {R : Room} {s : State} {m : MethodId} {args : Array Value} {below : List Frame} {meth : Method} {c : Code} {T T' : State} {cells slots : Nat} {Z : State} {a0 : Array Value} {EL : List (String × Nat)} {h h' : Heap} {vm0 vm1 : Vm} {y : MethodName} {bytes : ByteArray} {ml : Nat} {ret : Option FieldType} {KC KS : Nat} {Q : Option Value → Heap → Prop} {g g' : JFrame} {pc : Nat} {Ls : Array Slot} {st rest : List Value}
/-- System.arraycopy between two arrays of bytes -/
theorem Wk.acopy (W : Wk p l e R s m args below meth c Z a0 EL y bytes ml ret T h vm0 cells slots) {index : Nat} (w1 : (Cond.methodLink y.cls index Jvm.Stand.acN).before a0 Z = true) (w2 : (Cond.native Jvm.Stand.acN).before a0 Z = true) (w3 : (Cond.static Jvm.Stand.acN).before a0 Z = true) (w4 : (Cond.initialized "java/lang/System").before a0 Z = true)
    {a b : Addr} {k k' : ClassId} {z z' sp dp nn : Int32} {vs vd us : List Value} {dv dd : Value} (A : Arv Z h a k .byte z vs dv) (B : Arv Z h b k' .byte z' vd dd) (h1 : ¬ sp < 0) (h2 : ¬ dp < 0) (h3 : ¬ nn < 0) (h4 : sp.toNatClampNeg + nn.toNatClampNeg ≤ z.toNatClampNeg) (h5 : dp.toNatClampNeg + nn.toNatClampNeg ≤ z'.toNatClampNeg)
    (hus : us = (List.range nn.toNatClampNeg).map fun i => vs.getD (sp.toNatClampNeg + i) dv) (hl : dp.toNatClampNeg + nn.toNatClampNeg ≤ vd.length) (gb : Z.heap.size ≤ b) (S : Safe Z EL vm0 h b) (hsz : Ls.size = ml) (hd : decode bytes pc = .ok (.invokestatic index, 3)) (hf : 1 ≤ R.frames) {Wd : Nat} (hW : (rest.map fun v => v.category).sum ≤ Wd) (hlo : Wd + (nativeFrameWords "java/lang/System" "arraycopy" 5 + 11) ≤ R.locals)
    (K : ∀ T' h', Wk p l e R s m args below meth c Z a0 EL y bytes ml ret T' h' vm0 cells slots → Keep h h' [b] → Arv Z h' b k' .byte z' (vd.take dp.toNatClampNeg ++ us ++ vd.drop (dp.toNatClampNeg + nn.toNatClampNeg)) dd → Go p e below s Z EL KC KS Q T' (mkF m (pc + 3) Ls rest)) : Go p e below s Z EL KC KS Q T (mkF m pc Ls (.int nn :: .int dp :: .ref b :: .int sp :: .ref a :: rest)) := by
  have hx := W.hx; have hd' := W.d hd
  obtain ⟨locs, X, hT, hZ, hown, ⟨k0, hS, hk⟩, hC, hF, hE, r1, r2, hml, r⟩ := W
  obtain ⟨T', h', L, X', e', hF', Kp, A', st⟩ := cpA X hx hZ hown w1 w2 w3 w4 hT A B (Or.inl ⟨rfl, rfl⟩) h1 h2 h3 h4 h5 hus hl hF gb (g := mkF m pc Ls (.int nn :: .int dp :: .ref b :: .int sp :: .ref a :: rest)) rfl (by rw [hml]; exact hsz) rfl hd' hf (W := Wd) (by show 2 * 0 + _ ≤ _; omega) hlo
  exact Go.step st (K T' h' ⟨L, X', e', hZ, hown, ⟨k0, hS, Nat.le_trans hk Kp.1⟩, hC.trans (CHr.keep Kp (sfS S sf0) hC.1), hF', ext_keep hE Kp (allS gb all0), r1, r2, hml, r⟩ Kp A')
/-- a lookupswitch that hits -/
theorem Wk.lsw (W : Wk p l e R s m args below meth c Z a0 EL y bytes ml ret T h vm0 cells slots) {k : Int32} {dflt : Int} {pairs : Array (Int × Int)} {len : Nat} (hd : decode bytes pc = .ok (.lookupswitch dflt pairs, len)) (hso : (pairs.toList.zip (pairs.toList.drop 1)).all (fun (a, next) => a.1 < next.1) = true) {a off : Int} (hfi : pairs.find? (·.1 == k.toInt) = some (a, off)) (hoff : 0 ≤ (pc : Int) + off) {pc' : Nat} (hp : pc' = ((pc : Int) + off).toNat)
    (K : Go p e below s Z EL KC KS Q T (mkF m pc' Ls rest)) : Go p e below s Z EL KC KS Q T (mkF m pc Ls (.int k :: rest)) := by
  obtain ⟨_, X, -⟩ := id W
  subst hp
  exact Go.step (X.lookupswitchHit W.hx (g := mkF m pc Ls (.int k :: rest)) rfl rfl (W.d hd) hso hfi hoff) K
end Walk4
section Facts4
variable {Z : State} {h h' : Heap} {a o t : Addr} {C : String} {a0 : Array Value} {cs : List Int32} {EL : List (String × Nat)} {vm : Vm}
/-- a String of another length than every constant's is none that the tables book -/
theorem Safe.str (hZ : Z.Warmed39 vm) (hd : ∀ p ∈ EL, ∃ text : String, (Cond.stringLink p.1 p.2 text).before a0 Z = true ∧ (∀ c ∈ text.toList, c.toNat < 256) ∧ text.toList.length ≠ cs.length) (F : Str Z h a cs) : Safe Z EL vm h a := fun B => by
  have hal : Z.vm.Alike vm := hZ.alike
  obtain ⟨t, kb, E, FV, -, AV, -, hle⟩ := F
  obtain ⟨cell, k, e1, e2, e3, -, -⟩ := E
  obtain ⟨cell', cf, kf, i, f, f1, f2, -, -, -, -, f7⟩ := FV
  cases f1.symm.trans e1
  obtain ⟨pp, hpp, u, a', hb, q, -, F', hy⟩ := B
  rcases hy with rfl | rfl
  · cases (show h[q.sa]? = some q.sC from F'.ha).symm.trans e1
    have hD : h[q.sd]? = some q.SA := F'.hd
    obtain ⟨cS, ⟨⟨-, -, -, ⟨c1, k1, i1, g1, -⟩, -, -, -, v1, -⟩, -⟩, -, -, hbyt⟩ := F'
    obtain ⟨k3, g3, -⟩ := State.fieldFound?_setVm (s := Z) hal f2
    have g4 := (show (Wst Z vm h).fieldFound? "java/lang/String" "value" "[B" = _ from g3).symm.trans g1
    simp only [Option.some.injEq, Prod.mk.injEq] at g4
    rw [← g4.2.2.2, f7] at v1
    have et : t = q.sd := by simpa using v1
    subst et
    obtain ⟨cA, A, -, sA, -, -, -⟩ := AV
    cases A.1.symm.trans hD
    obtain ⟨text, w, hlat, hne⟩ := hd pp hpp
    obtain ⟨cc, kk, cf', j, b1, b2, b3, b4, b5, -⟩ := hb
    have w2 : (Cond.stringLink pp.1 pp.2 text).before a0 (Wst Z vm h) = true := mvS (s := { Z with heap := h }) hZ w
    obtain ⟨k0', cf0, i0, units, hkx, hcf, hp, hu, -, htext, -⟩ := Cond.stringLink_spec (s := Wst Z vm h) b1 w2
    cases (show vm.classes[cc]? = some k0' from hkx).symm.trans b2
    cases hcf.symm.trans b3
    cases hp.symm.trans b4
    cases hu.symm.trans b5
    have ul := congrArg List.length (Jvm.ClassFile.units_of_text htext hlat)
    simp only [List.length_map, Array.length_toList] at ul
    have s2 : q.SA.slots.size = u.size := by rw [hbyt, SBG.stringBytes_lat (Jvm.ClassFile.lat_of_text htext hlat)]; simp
    have n32 : (Int32.ofNat cs.length).toNatClampNeg = cs.length := by
      rw [Int32.toNatClampNeg, Int32.toInt_ofNat_of_lt (by omega)]; rfl
    rw [n32] at sA
    omega
  · cases (show h[q.sd]? = some q.SA from F'.hd).symm.trans e1
    obtain ⟨cS, ⟨⟨-, -, -, -, -, -, -, -, -, -, ⟨-, kB, hkB, compB, hkindB⟩, -⟩, -, -⟩, -, hB, -⟩ := F'
    have hB' : vm.findClass "[B" = some q.SA.cls := hB
    rw [hal.findClass] at hB'
    exact (ids_ne (C := "[B") (K := "java/lang/String") hB' e2 (by decide)) rfl
end Facts4
end Jvm.Own
namespace Jvm.Own
open Sem ClassFile Op Lib Bundle Jvm.Stand Jvm.Free Jvm.LawKit Jvm.RoadKit Jvm.Free.SB Jvm.Free.SBG
section Facts4b
variable {Z : State} {h h' : Heap} {t : Addr} {a0 : Array Value} {EL : List (String × Nat)} {vm : Vm}
/-- an array of bytes of another length than every constant's is none that the tables book -/
theorem Safe.byt {k : ClassId} {z : Int32} {vs : List Value} {dv : Value} (hZ : Z.Warmed39 vm) (hd : ∀ p ∈ EL, ∃ text : String, (Cond.stringLink p.1 p.2 text).before a0 Z = true ∧ (∀ c ∈ text.toList, c.toNat < 256) ∧ text.toList.length ≠ z.toNatClampNeg) (V : Arv Z h t k .byte z vs dv) : Safe Z EL vm h t := fun B => by
  have hal : Z.vm.Alike vm := hZ.alike
  obtain ⟨cA, A, -, sA, -, -, -⟩ := V
  obtain ⟨pp, hpp, u, a', hb, q, -, F', hy⟩ := B
  rcases hy with rfl | rfl
  · cases (show h[q.sa]? = some q.sC from F'.ha).symm.trans A.1
    obtain ⟨cS, ⟨-, hfS, hcS⟩, ⟨kS, k1, k2, -⟩, -, -⟩ := F'
    obtain ⟨-, kA, j1, comp, j2⟩ := A.2.1
    obtain ⟨k', j3, ek⟩ := hal.2.2 _ _ j1
    have k1' : vm.classes[cS]? = some kS := k1
    rw [← hcS] at k1'
    cases k1'.symm.trans j3
    rw [ek, j2] at k2
    cases k2
  · cases (show h[q.sd]? = some q.SA from F'.hd).symm.trans A.1
    obtain ⟨cS, -, -, -, hbyt⟩ := F'
    obtain ⟨text, w, hlat, hne⟩ := hd pp hpp
    obtain ⟨cc, kk, cf', j, b1, b2, b3, b4, b5, -⟩ := hb
    have w2 : (Cond.stringLink pp.1 pp.2 text).before a0 (Wst Z vm h) = true := mvS (s := { Z with heap := h }) hZ w
    obtain ⟨k0', cf0, i0, units, hkx, hcf, hp, hu, -, htext, -⟩ := Cond.stringLink_spec (s := Wst Z vm h) b1 w2
    cases (show vm.classes[cc]? = some k0' from hkx).symm.trans b2
    cases hcf.symm.trans b3
    cases hp.symm.trans b4
    cases hu.symm.trans b5
    have ul := congrArg List.length (Jvm.ClassFile.units_of_text htext hlat)
    simp only [List.length_map, Array.length_toList] at ul
    have s2 : q.SA.slots.size = u.size := by rw [hbyt, SBG.stringBytes_lat (Jvm.ClassFile.lat_of_text htext hlat)]; simp
    omega
end Facts4b
end Jvm.Own
namespace Jvm.Own
open Sem ClassFile Op Lib Bundle Jvm.Stand Jvm.Free Jvm.LawKit Jvm.RoadKit
section Walk5
variable {p : Program} {l : Launch} {e : Env} {R : Room} {s : State} {m : MethodId} {args : Array Value} {below : List Frame} {meth : Method} {c : Code} {T T' : State} {cells slots : Nat} {Z : State} {a0 : Array Value} {EL : List (String × Nat)} {h h' : Heap} {vm0 vm1 : Vm} {y : MethodName} {bytes : ByteArray} {ml : Nat} {ret : Option FieldType} {KC KS : Nat} {Q : Option Value → Heap → Prop} {g g' : JFrame} {pc : Nat} {Ls : Array Slot} {st rest : List Value}
/-- a class that is no interface: a call through its methods' names is a class's -/
theorem NoFace.at {K : String} {vm : Vm} {s : State} (F : NoFace Z K) (hZ : Z.Warmed39 (s.setVm vm).vm) {y : MethodName} (hy : y.cls = K) : NotFace (s.setVm vm) y := fun r0 h0 => by
  obtain ⟨t, kt, g1, g2, g3⟩ := F
  have f := findClass_of_methodNamed h0
  rw [hy, hZ.alike.findClass, g1] at f
  cases f
  obtain ⟨k', q, ek⟩ := hZ.alike.2.2 _ _ g2
  exact ⟨k', q, by rw [ek]; exact g3⟩
theorem same_of {y : MethodName} (F : NoFace Z y.cls) (w : (Cond.instanceMethod y).before a0 Z = true) (hy : y.cls ≠ "java/lang/invoke/MethodHandle" ∧ y.cls ≠ "java/lang/invoke/VarHandle") : (Cond.sameMethod y.cls y.cls y.name y.desc).before a0 Z = true := by
  obtain ⟨t, kt, g1, g2, g3⟩ := F
  obtain ⟨mk, methM, hnamed, -⟩ := Cond.instanceMethod_spec w
  have hf := State.methodFound?_of_named hnamed hy
  have hc := findClass_of_methodNamed hnamed
  have hn : Z.methodNamed? ⟨y.cls, y.name, y.desc⟩ = some mk := hnamed
  simp [Cond.before, Cond.holds, Cond.value, g1, g2, g3, hf, hn]
/-- super.m(..) -/
theorem Wk.superC (W : Wk p l e R s m args below meth c Z a0 EL y bytes ml ret T h vm0 cells slots) {index : Nat} {y' : MethodName} {K' : String} {bytes' : ByteArray} {ml' : Nat} {ret' : Option FieldType} {rm : Room} {as' : Array Value} {Qc : Option Value → Heap → Prop} {Wd : Nat}
    (wl : (Cond.methodLink y.cls index y').before a0 Z = true) (wi : (Cond.instanceMethod y').before a0 Z = true) (nf : NoFace Z y'.cls) (ws : (Cond.superclass y.cls y'.cls).before a0 Z = true) (hn : y'.name ≠ "<init>") (wz : (Cond.initialized y'.cls).before a0 Z = true) (wc : (Cond.code y' bytes' ml' ret').before a0 Z = true) (hy : y'.cls ≠ "java/lang/invoke/MethodHandle" ∧ y'.cls ≠ "java/lang/invoke/VarHandle")
    (C : Con l Z EL y' bytes' ml' ret' [] rm as' h Qc) (hfr : rm.frames + 1 ≤ R.frames) (hlo : Wd + (ml' + 11) + rm.locals ≤ R.locals) (a : Addr) (I : Ins Z h a K' true) (argsL : List Value) (rest : List Value) (has : (.ref a :: argsL).toArray = as') {ps : List FieldType} {r' : Option FieldType} (hdesc : parseMethodDescriptor y'.desc = some ⟨ps, r'⟩) (hlen : argsL.length = ps.length) (hsz : Ls.size = ml) (hst : st = argsL.reverse ++ .ref a :: rest) (hW : (rest.map fun v => v.category).sum ≤ Wd)
    (hd : decode bytes pc = .ok (.invokespecial index, 3)) (hc : cells + rm.cells ≤ R.cells) (hs : slots + rm.slots ≤ R.slots)
    (K : ∀ v T' h' vm1, Wk p l e R s m args below meth c Z a0 EL y bytes ml ret T' h' vm1 (cells + rm.cells) (slots + rm.slots) → Qc v h' → CHr Z EL vm0 h vm1 h' → Go p e below s Z EL KC KS Q T' (mkF m (pc + 3) Ls (v.toList ++ rest))) : Go p e below s Z EL KC KS Q T (mkF m pc Ls st) := by
  have bk := W.back (len := 3) (Wd := Wd) C wc wz hfr hlo
  have hx := W.hx; have hd' := W.d hd
  obtain ⟨locs, X, hT, hZ, hown, -, -, hF, -, -, -, hml, -⟩ := id W
  obtain ⟨v, vm₁, B, -, X', h2, hg, ⟨L, hq, hl, hcc, hss, hC'⟩, stp⟩ := RoadKit.superBackS X hx hZ hown wl (same_of nf wi hy) wi ws hn bk hT I (g := mkF m pc Ls st) rfl (by rw [hml]; exact hsz) wc (argsL := argsL) (rest := rest) (lenOf hdesc hlen) hst (by show 2 * 0 + _ ≤ _; omega) hd' (fun vm₁ _ => ⟨has, hT, hc, hs⟩)
  exact Go.step (fun _ k => stp.trans k) (K v B.U B.U.heap B.U.vm (W.behind (rm := rm) (Qc := Qc) hF X' h2 hg hl hq hcc hss hC') hq.1 hC')
end Walk5
end Jvm.Own
namespace Jvm.Own
open Sem ClassFile Op Lib Bundle Jvm.Stand Jvm.Free Jvm.LawKit Jvm.RoadKit
/-- small numbers as ints -/
abbrev N (k : Nat) : Int32 := Int32.ofNat k
theorem N_int {a : Nat} (ha : a ≤ 8000) : (N a).toInt = a := Int32.toInt_ofNat_of_lt (by omega)
theorem N_nat {a : Nat} (ha : a ≤ 8000) : (N a).toNatClampNeg = a := by rw [Int32.toNatClampNeg, N_int ha]; rfl
theorem N_nn {a : Nat} (ha : a ≤ 8000) : ¬ N a < 0 := by rw [Int32.lt_iff_toInt_lt, N_int ha]; show ¬ ((a : Int) < 0); omega
theorem N_lt {a b : Nat} (ha : a ≤ 8000) (hb : b ≤ 8000) : N a < N b ↔ a < b := by rw [Int32.lt_iff_toInt_lt, N_int ha, N_int hb]; omega
theorem N_le {a b : Nat} (ha : a ≤ 8000) (hb : b ≤ 8000) : N a ≤ N b ↔ a ≤ b := by rw [Int32.le_iff_toInt_le, N_int ha, N_int hb]; omega
theorem N_inj {a b : Nat} (ha : a ≤ 8000) (hb : b ≤ 8000) : N a = N b ↔ a = b := ⟨fun q => by have := congrArg Int32.toInt q; rw [N_int ha, N_int hb] at this; omega, fun q => by rw [q]⟩
theorem N_add (a b : Nat) : N a + N b = N (a + b) := by
  apply Int32.toBitVec_inj.mp
  show BitVec.ofNat 32 a + BitVec.ofNat 32 b = BitVec.ofNat 32 (a + b)
  rw [BitVec.ofNat_add]
theorem N_add1 (a : Nat) : N a + (1 : Int32) = N (a + 1) := N_add a 1
theorem N_sub {a b : Nat} (q : b ≤ a) : N a - N b = N (a - b) := by
  have e := N_add (a - b) b
  rw [Nat.sub_add_cancel q] at e
  rw [← e]
  apply Int32.toBitVec_inj.mp
  simp
theorem N_subI {a b : Nat} (ha : a ≤ 8000) (hb : b ≤ 8000) : (N a - N b).toInt = (a : Int) - b := by
  rw [Int32.toInt_sub, N_int ha, N_int hb]
  rw [Int.bmod_def]; omega
theorem N_sub_pos {a b : Nat} (ha : a ≤ 8000) (hb : b ≤ 8000) : (0 : Int32) < N a - N b ↔ b < a := by
  rw [Int32.lt_iff_toInt_lt, N_subI ha hb]
  show ((0 : Int) < _) ↔ _
  omega
theorem N_shl1 (a : Nat) : N a <<< ((1 : Int32) &&& 31) = N (2 * a) := by
  have e : N a <<< ((1 : Int32) &&& 31) = N a + N a := by
    apply Int32.toBitVec_inj.mp
    rw [show ((1 : Int32) &&& 31) = 1 from by decide, Int32.toBitVec_shiftLeft, show ((1 : Int32).toBitVec.smod 32) = 1#32 from by decide, Int32.toBitVec_add]
    apply BitVec.eq_of_toNat_eq
    simp [BitVec.toNat_shiftLeft, Nat.shiftLeft_eq]
    omega
  rw [e, N_add]; congr 1; omega
theorem N_shr1 {a : Nat} (ha : a ≤ 8000) : N (2 * a) >>> ((1 : Int32) &&& 31) = N a := by
  rw [show ((1 : Int32) &&& 31) = 1 from by decide]
  apply Int32.toBitVec_inj.mp
  rw [Int32.toBitVec_shiftRight, show ((1 : Int32).toBitVec.smod 32) = 1#32 from by decide]
  have hm : (BitVec.ofNat 32 (2 * a)).toNat = 2 * a := by rw [BitVec.toNat_ofNat, Nat.mod_eq_of_lt (by omega)]
  rw [BitVec.sshiftRight_eq']
  apply BitVec.eq_of_toNat_eq
  show ((BitVec.ofNat 32 (2 * a)).sshiftRight 1).toNat = (BitVec.ofNat 32 a).toNat
  rw [BitVec.toNat_sshiftRight_of_msb_false (by rw [BitVec.msb_eq_false_iff_two_mul_lt, hm]; omega), hm, BitVec.toNat_ofNat, Nat.shiftRight_eq_div_pow]
  omega
theorem N_shl0 (z : Int32) : z <<< ((0 : Int32) &&& 31) = z := by
  apply Int32.toBitVec_inj.mp
  simp
/-- signs of a text -/
abbrev Ch (c : Int32) : Prop := ¬ c < 0 ∧ ¬ (65535 : Int32) < c
theorem nar_i8 (x : Int32) : nar .byte (x.toInt8.toInt32) = x.toInt8.toInt32 := by
  show (Int8.toInt32 (Int32.toInt8 x)).toInt8.toInt32 = _
  rw [Int8.toInt8_toInt32]
/-- what a special sign becomes -/
def esc (c : Int32) : List Int32 := if c = 92 ∨ c = 123 ∨ c = 125 ∨ c = 36 then [92, c] else [c]
theorem esc_len (c : Int32) : 1 ≤ (esc c).length ∧ (esc c).length ≤ 2 := by unfold esc; split <;> simp
/-- the first byte of a sign, and the second -/
def eb0 (c : Int32) : Int32 := (c >>> ((0 : Int32) &&& 31)).toInt8.toInt32
def eb1 (c : Int32) : Int32 := (c >>> ((8 : Int32) &&& 31)).toInt8.toInt32
def encU (cs : List Int32) : List Value := cs.flatMap fun c => [.int (eb0 c), .int (eb1 c)]
def encL (cs : List Int32) : List Value := cs.map fun c => Value.int c.toInt8.toInt32
theorem encU_len (cs : List Int32) : (encU cs).length = 2 * cs.length := by
  induction cs with
  | nil => rfl
  | cons c r ih => simp only [encU, List.flatMap_cons, List.length_append, List.length_cons] at ih ⊢; simp; simp [encU] at ih; omega
theorem encU_at (cs : List Int32) (i : Nat) (hi : i < cs.length) (d : Value) : (encU cs).getD (2 * i) d = .int (eb0 (cs.getD i 0)) ∧ (encU cs).getD (2 * i + 1) d = .int (eb1 (cs.getD i 0)) := by
  induction cs generalizing i with
  | nil => simp at hi
  | cons c r ih =>
    cases i with
    | zero => exact ⟨rfl, rfl⟩
    | succ j =>
      have := ih j (by simpa using hi)
      have e1 : (encU (c :: r)) = .int (eb0 c) :: .int (eb1 c) :: encU r := rfl
      rw [e1, show 2 * (j + 1) = 2 * j + 1 + 1 from by omega]
      exact this
theorem encU_snoc (cs : List Int32) (c : Int32) : encU (cs ++ [c]) = encU cs ++ [.int (eb0 c), .int (eb1 c)] := by simp [encU]
theorem encL_snoc (cs : List Int32) (c : Int32) : encL (cs ++ [c]) = encL cs ++ [.int c.toInt8.toInt32] := by simp [encL]
end Jvm.Own
namespace Jvm.RoadKit
section OwnKeep7
variable {h h' hh : Heap} {ws : List Addr} {a b : Addr}
theorem Keep.otrE (K : Keep hh h ws) (K' : Keep h h' [a]) (q : a ∈ ws ∨ hh.size ≤ a) : Keep hh h' ws := K.trans K' fun x hx => by cases List.mem_singleton.mp hx; exact q
theorem Keep.two (K : Keep hh h []) (K' : Keep h h' [a, b]) (q : hh.size ≤ a) (r : hh.size ≤ b) : Keep hh h' [] := K.trans K' fun x hx => by
  simp only [List.mem_cons, List.not_mem_nil, or_false] at hx
  rcases hx with rfl | rfl
  · exact Or.inr q
  · exact Or.inr r
end OwnKeep7
end Jvm.RoadKit
namespace Jvm.Own
open Sem ClassFile Op Lib Bundle Jvm.Stand Jvm.Free Jvm.LawKit Jvm.RoadKit
section Walk7
variable {p : Program} {l : Launch} {e : Env} {R : Room} {s : State} {m : MethodId} {args : Array Value} {below : List Frame} {meth : Method} {c : Code} {T T' : State} {cells slots : Nat} {Z : State} {a0 : Array Value} {EL : List (String × Nat)} {h h' : Heap} {vm0 vm1 : Vm} {y : MethodName} {bytes : ByteArray} {ml : Nat} {ret : Option FieldType} {KC KS : Nat} {Q : Option Value → Heap → Prop} {g g' : JFrame} {pc : Nat} {Ls Ls' : Array Slot} {st rest : List Value}
theorem Wk.an (W : Wk p l e R s m args below meth c Z a0 EL y bytes ml ret T h vm0 cells slots) {k : Fin 4} {v : Value} (hd : decode bytes pc = .ok (.aload_n k, 1)) (hl : Ls[k.val]? = some (.val v)) (hv : v.isRef = true) (K : Go p e below s Z EL KC KS Q T (mkF m (pc + 1) Ls (v :: rest))) : Go p e below s Z EL KC KS Q T (mkF m pc Ls rest) :=
  Go.step (fun _ kz => XS.aloadN (g := mkF m pc Ls rest) W.here W.hx rfl (W.d hd) hl hv kz) K
theorem Wk.al (W : Wk p l e R s m args below meth c Z a0 EL y bytes ml ret T h vm0 cells slots) {k : Nat} {v : Value} (hd : decode bytes pc = .ok (.aload k, 2)) (hl : Ls[k]? = some (.val v)) (hv : v.isRef = true) (K : Go p e below s Z EL KC KS Q T (mkF m (pc + 2) Ls (v :: rest))) : Go p e below s Z EL KC KS Q T (mkF m pc Ls rest) :=
  Go.step (fun _ kz => XS.aload (g := mkF m pc Ls rest) W.here W.hx rfl (W.d hd) hl hv kz) K
theorem Wk.iN (W : Wk p l e R s m args below meth c Z a0 EL y bytes ml ret T h vm0 cells slots) {k : Fin 4} {v : Int32} (hd : decode bytes pc = .ok (.iload_n k, 1)) (hl : Ls[k.val]? = some (.val (.int v))) (K : Go p e below s Z EL KC KS Q T (mkF m (pc + 1) Ls (.int v :: rest))) : Go p e below s Z EL KC KS Q T (mkF m pc Ls rest) :=
  Go.step (fun _ kz => XS.iloadN (g := mkF m pc Ls rest) W.here W.hx rfl (W.d hd) hl kz) K
theorem Wk.il (W : Wk p l e R s m args below meth c Z a0 EL y bytes ml ret T h vm0 cells slots) {k : Nat} {v : Int32} (hd : decode bytes pc = .ok (.iload k, 2)) (hl : Ls[k]? = some (.val (.int v))) (K : Go p e below s Z EL KC KS Q T (mkF m (pc + 2) Ls (.int v :: rest))) : Go p e below s Z EL KC KS Q T (mkF m pc Ls rest) :=
  Go.step (fun _ kz => XS.iload (g := mkF m pc Ls rest) W.here W.hx rfl (W.d hd) hl kz) K
theorem Wk.ic (W : Wk p l e R s m args below meth c Z a0 EL y bytes ml ret T h vm0 cells slots) {i : Int} (hd : decode bytes pc = .ok (.iconst i, 1)) (z : Int32) (hz : Int32.ofInt i = z) (K : Go p e below s Z EL KC KS Q T (mkF m (pc + 1) Ls (.int z :: rest))) : Go p e below s Z EL KC KS Q T (mkF m pc Ls rest) := by
  subst hz
  exact Go.step (fun _ kz => XS.iconst (g := mkF m pc Ls rest) W.here W.hx rfl (W.d hd) kz) K
theorem Wk.bp (W : Wk p l e R s m args below meth c Z a0 EL y bytes ml ret T h vm0 cells slots) {i : Int} (hd : decode bytes pc = .ok (.bipush i, 2)) (z : Int32) (hz : (Int8.ofInt i).toInt32 = z) (K : Go p e below s Z EL KC KS Q T (mkF m (pc + 2) Ls (.int z :: rest))) : Go p e below s Z EL KC KS Q T (mkF m pc Ls rest) := by
  subst hz
  exact Go.step (fun _ kz => XS.bipush (g := mkF m pc Ls rest) W.here W.hx rfl (W.d hd) kz) K
theorem Wk.sp (W : Wk p l e R s m args below meth c Z a0 EL y bytes ml ret T h vm0 cells slots) {i : Int} (hd : decode bytes pc = .ok (.sipush i, 3)) (z : Int32) (hz : (Int16.ofInt i).toInt32 = z) (K : Go p e below s Z EL KC KS Q T (mkF m (pc + 3) Ls (.int z :: rest))) : Go p e below s Z EL KC KS Q T (mkF m pc Ls rest) := by
  subst hz
  exact Go.step (fun _ kz => XS.sipush (g := mkF m pc Ls rest) W.here W.hx rfl (W.d hd) kz) K
theorem Wk.dp (W : Wk p l e R s m args below meth c Z a0 EL y bytes ml ret T h vm0 cells slots) {v : Value} (hd : decode bytes pc = .ok (.dup, 1)) (hc : v.category = 1) (K : Go p e below s Z EL KC KS Q T (mkF m (pc + 1) Ls (v :: v :: rest))) : Go p e below s Z EL KC KS Q T (mkF m pc Ls (v :: rest)) :=
  Go.step (fun _ kz => XS.dup (g := mkF m pc Ls (v :: rest)) W.here W.hx rfl (W.d hd) rfl hc kz) K
theorem Wk.pp (W : Wk p l e R s m args below meth c Z a0 EL y bytes ml ret T h vm0 cells slots) {v : Value} (hd : decode bytes pc = .ok (.pop, 1)) (hc : v.category = 1) (K : Go p e below s Z EL KC KS Q T (mkF m (pc + 1) Ls rest)) : Go p e below s Z EL KC KS Q T (mkF m pc Ls (v :: rest)) :=
  Go.step (fun _ kz => XS.pop (g := mkF m pc Ls (v :: rest)) W.here W.hx rfl (W.d hd) rfl hc kz) K
theorem Wk.ii (W : Wk p l e R s m args below meth c Z a0 EL y bytes ml ret T h vm0 cells slots) {k : Nat} {cst : Int} {v : Int32} (hd : decode bytes pc = .ok (.iinc k cst, 3)) (hl : Ls[k]? = some (.val (.int v))) (hl' : storeLocals Ls k (.int (v + Int32.ofInt cst)) = some Ls') (K : Go p e below s Z EL KC KS Q T (mkF m (pc + 3) Ls' rest)) : Go p e below s Z EL KC KS Q T (mkF m pc Ls rest) :=
  Go.step (fun _ kz => XS.iinc (g := mkF m pc Ls rest) W.here W.hx rfl (W.d hd) hl hl' kz) K
theorem Wk.isn (W : Wk p l e R s m args below meth c Z a0 EL y bytes ml ret T h vm0 cells slots) {k : Fin 4} {v : Int32} (hd : decode bytes pc = .ok (.istore_n k, 1)) (hl : storeLocals Ls k.val (.int v) = some Ls') (K : Go p e below s Z EL KC KS Q T (mkF m (pc + 1) Ls' rest)) : Go p e below s Z EL KC KS Q T (mkF m pc Ls (.int v :: rest)) :=
  Go.step (fun _ kz => XS.istoreN (g := mkF m pc Ls (.int v :: rest)) W.here W.hx rfl (W.d hd) rfl hl kz) K
theorem Wk.iss (W : Wk p l e R s m args below meth c Z a0 EL y bytes ml ret T h vm0 cells slots) {k : Nat} {v : Int32} (hd : decode bytes pc = .ok (.istore k, 2)) (hl : storeLocals Ls k (.int v) = some Ls') (K : Go p e below s Z EL KC KS Q T (mkF m (pc + 2) Ls' rest)) : Go p e below s Z EL KC KS Q T (mkF m pc Ls (.int v :: rest)) :=
  Go.step (fun _ kz => XS.istore (g := mkF m pc Ls (.int v :: rest)) W.here W.hx rfl (W.d hd) rfl hl kz) K
theorem Wk.asn (W : Wk p l e R s m args below meth c Z a0 EL y bytes ml ret T h vm0 cells slots) {k : Fin 4} {v : Value} (hd : decode bytes pc = .ok (.astore_n k, 1)) (hv : v.isRef = true) (hl : storeLocals Ls k.val v = some Ls') (K : Go p e below s Z EL KC KS Q T (mkF m (pc + 1) Ls' rest)) : Go p e below s Z EL KC KS Q T (mkF m pc Ls (v :: rest)) :=
  Go.step (fun _ kz => XS.astoreN (g := mkF m pc Ls (v :: rest)) W.here W.hx rfl (W.d hd) rfl hv hl kz) K
theorem Wk.ass (W : Wk p l e R s m args below meth c Z a0 EL y bytes ml ret T h vm0 cells slots) {k : Nat} {v : Value} (hd : decode bytes pc = .ok (.astore k, 2)) (hv : v.isRef = true) (hl : storeLocals Ls k v = some Ls') (K : Go p e below s Z EL KC KS Q T (mkF m (pc + 2) Ls' rest)) : Go p e below s Z EL KC KS Q T (mkF m pc Ls (v :: rest)) :=
  Go.step (fun _ kz => XS.astore (g := mkF m pc Ls (v :: rest)) W.here W.hx rfl (W.d hd) rfl hv hl kz) K
theorem Wk.gt (W : Wk p l e R s m args below meth c Z a0 EL y bytes ml ret T h vm0 cells slots) {o : Int} {pc' : Nat} (hd : decode bytes pc = .ok (.goto o, 3)) (ho : 0 ≤ (pc : Int) + o) (hp : ((pc : Int) + o).toNat = pc') (K : Go p e below s Z EL KC KS Q T (mkF m pc' Ls rest)) : Go p e below s Z EL KC KS Q T (mkF m pc Ls rest) :=
  Go.step (fun _ kz => XS.goto (g := mkF m pc Ls rest) W.here W.hx rfl (pc0 := pc) (pc' := pc') rfl (W.d hd) ho hp kz) K
theorem Wk.cy (W : Wk p l e R s m args below meth c Z a0 EL y bytes ml ret T h vm0 cells slots) {cd : ClassFile.Cond} {u v : Int32} {o : Int} {pc' : Nat} (hd : decode bytes pc = .ok (.if_icmp cd o, 3)) (hc : if_icmp.holds cd u v = true) (ho : 0 ≤ (pc : Int) + o) (hp : ((pc : Int) + o).toNat = pc') (K : Go p e below s Z EL KC KS Q T (mkF m pc' Ls rest)) : Go p e below s Z EL KC KS Q T (mkF m pc Ls (.int v :: .int u :: rest)) :=
  Go.step (fun _ kz => XS.icmpYes (g := mkF m pc Ls (.int v :: .int u :: rest)) W.here W.hx rfl (pc0 := pc) (pc' := pc') rfl (W.d hd) rfl hc ho hp kz) K
theorem Wk.cn (W : Wk p l e R s m args below meth c Z a0 EL y bytes ml ret T h vm0 cells slots) {cd : ClassFile.Cond} {u v : Int32} {o : Int} (hd : decode bytes pc = .ok (.if_icmp cd o, 3)) (hc : if_icmp.holds cd u v = false) (K : Go p e below s Z EL KC KS Q T (mkF m (pc + 3) Ls rest)) : Go p e below s Z EL KC KS Q T (mkF m pc Ls (.int v :: .int u :: rest)) :=
  Go.step (fun _ kz => XS.icmpNo (g := mkF m pc Ls (.int v :: .int u :: rest)) W.here W.hx rfl (W.d hd) rfl hc kz) K
theorem Wk.fy (W : Wk p l e R s m args below meth c Z a0 EL y bytes ml ret T h vm0 cells slots) {cd : ClassFile.Cond} {u : Int32} {o : Int} {pc' : Nat} (hd : decode bytes pc = .ok (.ifCond cd o, 3)) (hc : ifCond.holds cd u = true) (ho : 0 ≤ (pc : Int) + o) (hp : ((pc : Int) + o).toNat = pc') (K : Go p e below s Z EL KC KS Q T (mkF m pc' Ls rest)) : Go p e below s Z EL KC KS Q T (mkF m pc Ls (.int u :: rest)) :=
  Go.step (fun _ kz => XS.ifYes (g := mkF m pc Ls (.int u :: rest)) W.here W.hx rfl (pc0 := pc) (pc' := pc') rfl (W.d hd) rfl hc ho hp kz) K
theorem Wk.fn (W : Wk p l e R s m args below meth c Z a0 EL y bytes ml ret T h vm0 cells slots) {cd : ClassFile.Cond} {u : Int32} {o : Int} (hd : decode bytes pc = .ok (.ifCond cd o, 3)) (hc : ifCond.holds cd u = false) (K : Go p e below s Z EL KC KS Q T (mkF m (pc + 3) Ls rest)) : Go p e below s Z EL KC KS Q T (mkF m pc Ls (.int u :: rest)) :=
  Go.step (fun _ kz => XS.ifNo (g := mkF m pc Ls (.int u :: rest)) W.here W.hx rfl (W.d hd) rfl hc kz) K
/-- newarray, and what the class of the new array is called -/
theorem newP2 {p : Program} {l : Launch} {e : Env} {R : Room} {s : State} {m : MethodId} {args : Array Value} {below : List Frame} {meth : Method} {c : Code} {T : State} {locs : List Loc} {cells slots : Nat} {Z : State} {a0 : Array Value} {h : Heap}
    (X : Stand p l e R s m args below meth c T locs cells slots) (hx : p.tables.exec = Jvm.exec) (hZ : Z.Warmed39 s.vm) {aty : ArrayType} (w : (Cond.arrayClass (newarray.typeOf aty)).before a0 Z = true) (eT : T.heap = h) {g : JFrame} (hg : g.method = m) (hd : decode c.code g.pc = .ok (.newarray aty, 2)) {n : Int32} {rest : List Value} (hs : g.stack = .int n :: rest)
    (hn : ¬ n < 0) {cap : Nat} (hcap : n.toNatClampNeg ≤ cap) (hb : cap * 8 ≤ 536870912) (hc : cells + 1 ≤ R.cells) (hl : slots + cap ≤ R.slots) :
    ∃ T' h' cA, Z.vm.findClass ("[" ++ (newarray.typeOf aty).toString) = some cA ∧ Stand p l e R s m args below meth c T' locs (cells + 1) (slots + cap) ∧ T'.heap = h' ∧ Ext h h' ∧ Arr Z h' h.size (newA cA (newarray.typeOf aty) n) (newarray.typeOf aty) ∧
      ∀ target, Steps p.tables e below (T'.setTop { g with pc := g.pc + 2, stack := .ref h.size :: rest }) target → Steps p.tables e below (T.setTop g) target := by
  have hcb : componentBytes (newarray.typeOf aty) ≤ 8 := by cases aty <;> decide
  obtain ⟨cA, kA, comp, h1, h2, h3, X', st⟩ := X.newarrayPrim hx (mvA hZ w) hg hd hs hn (Nat.le_trans (Nat.mul_le_mul hcap hcb) hb) hc (by omega)
  subst eT
  rw [hZ.alike.findClass] at h1
  obtain ⟨kZ, z1, -⟩ := Vm.findClass_spec h1
  obtain ⟨k', z2, z3⟩ := hZ.alike.2.2 _ _ z1
  cases h2.symm.trans z2
  refine ⟨_, _, cA, h1, X'.more (Nat.le_refl _) (by omega), rfl, ⟨by show T.heap.size ≤ (T.heap.push _).size; simp, fun a c h => ?_⟩, ⟨by show (T.heap.push _)[T.heap.size]? = _; simp [newA], ⟨by simp [newA], kZ, z1, comp, by rw [← h3, z3]⟩, by simp [newA]⟩, st⟩
  show (T.heap.push _)[a]? = _
  rw [Array.getElem?_push_lt (Array.getElem?_eq_some_iff.mp h).1]; exact (Array.getElem?_eq_getElem _).symm.trans h
theorem Wk.newarrB (W : Wk p l e R s m args below meth c Z a0 EL y bytes ml ret T h vm0 cells slots) (w : (Cond.arrayClass .byte).before a0 Z = true) {n : Int32} (hd : decode bytes pc = .ok (.newarray .byte, 2)) (hn : ¬ n < 0) {cap : Nat} (hcap : n.toNatClampNeg ≤ cap) (hb : cap * 8 ≤ 536870912) (hc : cells + 1 ≤ R.cells) (hl : slots + cap ≤ R.slots)
    (K : ∀ T' h' a k, a = h.size → Wk p l e R s m args below meth c Z a0 EL y bytes ml ret T' h' vm0 (cells + 1) (slots + cap) → Ext h h' → Arv Z h' a k .byte n [] (.int (0 : Int32)) → Safe Z EL vm0 h' a → Z.vm.findClass "[B" = some k → Go p e below s Z EL KC KS Q T' (mkF m (pc + 2) Ls (.ref a :: rest))) : Go p e below s Z EL KC KS Q T (mkF m pc Ls (.int n :: rest)) := by
  have hx := W.hx; have hd' := W.d hd
  obtain ⟨locs, X, hT, hZ, hown, ⟨k0, hS, hk⟩, hC, hF, hE, r⟩ := W
  obtain ⟨T', h', cA, nm, X', e', E, A, st⟩ := newP2 X hx hZ (aty := .byte) w hT (g := mkF m pc Ls (.int n :: rest)) rfl hd' rfl hn hcap hb hc hl
  have e9 : ("[" ++ (newarray.typeOf .byte).toString) = "[B" := by first | rfl | decide | decide +kernel
  rw [e9] at nm
  exact Go.step st (K T' h' _ cA rfl ⟨locs, X', e', hZ, hown, ⟨k0, hS, Nat.le_trans hk E.1⟩, hC.trans (CHr.ext E hC.1), hF, ext_trans hE E, r⟩ E (Arv.new A hn) (Safe.ext E hC.1 (Safe.new (Nat.le_refl _))) nm)
theorem copied_all (vs : List Value) (d : Value) : (List.range vs.length).map (fun i => vs.getD (0 + i) d) = vs := by
  apply List.ext_getElem
  · simp
  · intro i h1 h2
    simp [List.getD_eq_getElem?_getD, List.getElem?_eq_getElem h2]
theorem Z0 : (0 : Int32).toNatClampNeg = 0 := by decide
/-- arraycopy of the first n places, to the first n places of a new array -/
theorem Wk.acopy0 (W : Wk p l e R s m args below meth c Z a0 EL y bytes ml ret T h vm0 cells slots) {index : Nat} (w1 : (Cond.methodLink y.cls index Jvm.Stand.acN).before a0 Z = true) (w2 : (Cond.native Jvm.Stand.acN).before a0 Z = true) (w3 : (Cond.static Jvm.Stand.acN).before a0 Z = true) (w4 : (Cond.initialized "java/lang/System").before a0 Z = true)
    {a b : Addr} {k k' : ClassId} {o q n : Nat} {vs : List Value} {dv : Value} (A : Arv Z h a k .byte (N o) vs dv) (B : Arv Z h b k' .byte (N q) [] dv) (hn : vs.length = n) (ho : n ≤ o) (hq : n ≤ q) (ho2 : o ≤ 8000) (hq2 : q ≤ 8000) (gb : Z.heap.size ≤ b) (S : Safe Z EL vm0 h b) (hsz : Ls.size = ml) (hd : decode bytes pc = .ok (.invokestatic index, 3)) (hf : 1 ≤ R.frames) {Wd : Nat} (hW : (rest.map fun v => v.category).sum ≤ Wd) (hlo : Wd + (nativeFrameWords "java/lang/System" "arraycopy" 5 + 11) ≤ R.locals)
    (K : ∀ T' h', Wk p l e R s m args below meth c Z a0 EL y bytes ml ret T' h' vm0 cells slots → Keep h h' [b] → Arv Z h' b k' .byte (N q) vs dv → Go p e below s Z EL KC KS Q T' (mkF m (pc + 3) Ls rest)) : Go p e below s Z EL KC KS Q T (mkF m pc Ls (.int (N n) :: .int (0 : Int32) :: .ref b :: .int (0 : Int32) :: .ref a :: rest)) := by
  have n1 : (N n).toNatClampNeg = n := N_nat (by omega)
  have n2 : (N o).toNatClampNeg = o := N_nat (by omega)
  have n3 : (N q).toNatClampNeg = q := N_nat (by omega)
  refine W.acopy w1 w2 w3 w4 A (B.pad (pad_rep [] dv n)) (us := vs) (by decide) (by decide) (N_nn (by omega)) (by rw [Z0, n1, n2]; omega) (by rw [Z0, n1, n3]; omega) (by rw [Z0, n1, ← hn]; exact (copied_all vs dv).symm) (by rw [Z0, n1]; simp) gb S hsz hd hf hW hlo (fun T' h' W' K' V' => K T' h' W' K' ?_)
  rw [Z0, n1] at V'
  have e : ([] ++ List.replicate n dv).take 0 ++ vs ++ ([] ++ List.replicate n dv).drop (0 + n) = vs := by simp
  rw [e] at V'
  exact V'
end Walk7
section Facts7
variable {Z : State} {h h' hh : Heap} {a b o t : Addr} {C K : String} {a0 : Array Value} {cs : List Int32} {ws : List Addr}
theorem nf_selC {y : MethodName} (w : (Cond.selects C y y).before a0 Z = true) : NoFace Z y.cls := by
  obtain ⟨c, r, m, -, -, h3, -, mk, h5, h6⟩ := Cond.selects_spec w
  exact ⟨m.cls, mk, findClass_of_methodNamed h3, h5, h6⟩
/-- a private method is selected from its own class too -/
theorem priv_sel {y : MethodName} (w : (Cond.selects C y y).before a0 Z = true) (wi : (Cond.instanceMethod y).before a0 Z = true) (wp : (Cond.privateMethod y).before a0 Z = true) (hy : y.cls ≠ "java/lang/invoke/MethodHandle" ∧ y.cls ≠ "java/lang/invoke/VarHandle") : (Cond.selects y.cls y y).before a0 Z = true := by
  obtain ⟨c, r, m, -, h2, h3, -, mk, h5, h6⟩ := Cond.selects_spec w
  obtain ⟨m', methM, hn, hm, -⟩ := Cond.instanceMethod_spec wi
  have em : m' = m := Option.some.inj (hn.symm.trans h3)
  rw [em] at hn hm
  have hf := State.methodFound?_of_named hn hy
  have hs : selectMethod {} Z.vm m.cls m = .method m := selectMethod_private hm (Cond.privateMethod_at wp m methM hn hm)
  have hc := findClass_of_methodNamed hn
  have hn' : Z.methodNamed? y = some m := hn
  simp [Cond.before, Cond.holds, Cond.value, hc, hf, hn', hs, h5, h6]
/-- an array whose class is called so -/
theorem exaArv {k : ClassId} {ty : FieldType} {z : Int32} {vs : List Value} {d : Value} (V : Arv Z h t k ty z vs d) (hc : Z.vm.findClass C = some k) : Exa Z h t C := by
  obtain ⟨c, ⟨e1, ⟨e2, k1, f1, comp, g1⟩, -⟩, hk, -⟩ := V
  subst hk
  refine ⟨c, k1, e1, hc, f1, ?_, fun q => ?_⟩
  · cases hv : c.vm with
    | statics q => exact absurd hv (e2 q)
    | _ => rfl
  · rw [g1] at q; cases q
theorem N_nmax {k : Nat} (hk : k ≤ 8000) : ¬ N k = (2147483647 : Int32) := fun q => by
  have e := congrArg Int32.toInt q
  rw [N_int hk] at e
  have : (2147483647 : Int32).toInt = 2147483647 := by decide
  omega
theorem N_sub0 (k : Nat) : N k - (0 : Int32) = N k := by apply Int32.toBitVec_inj.mp; simp
theorem N_eq {i k : Nat} (q : i = k) : N i = N k := by rw [q]
theorem set_snocL (cs : List Int32) (c : Int32) (d : Value) : (encL cs ++ List.replicate 1 d).set cs.length (.int c.toInt8.toInt32) = encL (cs ++ [c]) := by
  have e : (encL cs).length = cs.length := by simp [encL]
  rw [encL_snoc, ← e, List.set_append_right _ _ (Nat.le_refl _)]
  simp
theorem set_snocC (cs : List Int32) (c : Int32) (d : Value) : (cs.map Value.int ++ List.replicate 1 d).set cs.length (.int c) = (cs ++ [c]).map Value.int := by
  have e : (cs.map Value.int).length = cs.length := by simp
  rw [List.map_append, ← e, List.set_append_right _ _ (Nat.le_refl _)]
  simp
theorem set_snocU (cs : List Int32) (c : Int32) (d : Value) : ((encU cs ++ List.replicate 2 d).set (2 * cs.length) (.int (eb0 c))).set (2 * cs.length + 1) (.int (eb1 c)) = encU (cs ++ [c]) := by
  rw [encU_snoc, ← encU_len cs, List.set_append_right _ _ (Nat.le_refl _), List.set_append_right _ _ (Nat.le_succ _)]
  simp [List.replicate]
theorem len_snoc (cs : List Int32) (c : Int32) : (cs ++ [c]).length = cs.length + 1 := by simp
theorem encL_len (cs : List Int32) : (encL cs).length = cs.length := by simp [encL]
theorem encL_at (cs : List Int32) (i : Nat) (hi : i < cs.length) (d : Value) : (encL cs).getD i d = .int (cs.getD i 0).toInt8.toInt32 := by
  simp [encL, List.getD_eq_getElem?_getD, List.getElem?_eq_getElem hi]
theorem mapI_at (cs : List Int32) (i : Nat) (hi : i < cs.length) (d : Value) : (cs.map Value.int).getD i d = .int (cs.getD i 0) := by
  simp [List.getD_eq_getElem?_getD, List.getElem?_eq_getElem hi]
theorem all_snoc {P : Int32 → Prop} {cs : List Int32} {c : Int32} (q : ∀ x ∈ cs, P x) (r : P c) : ∀ x ∈ cs ++ [c], P x := fun x hx => by
  rcases List.mem_append.mp hx with u | u
  · exact q x u
  · cases List.mem_singleton.mp u; exact r
theorem sm_ch {c : Int32} (q : Sm c) : Ch c := ⟨q.1, fun r => q.2 (by rw [Int32.lt_iff_toInt_lt] at r ⊢; have e1 : (65535 : Int32).toInt = 65535 := rfl; have e2 : (255 : Int32).toInt = 255 := rfl; omega)⟩
/-- a String with a sign above 255 -/
def StrU (Z : State) (h : Heap) (a : Addr) (cs : List Int32) : Prop := ∃ (t : Addr) (kb : ClassId), Exa Z h a "java/lang/String" ∧ Fld Z h a "java/lang/String" "value" "[B" (.ref t) ∧ Fld Z h a "java/lang/String" "coder" "B" (.int (1 : Int32)) ∧ Arv Z h t kb .byte (N (2 * cs.length)) (encU cs) (.int (0 : Int32)) ∧ (∀ c ∈ cs, Ch c) ∧ cs.length ≤ 4000
theorem StrU.exa (F : StrU Z h a cs) : Exa Z h a "java/lang/String" := by obtain ⟨_, _, r, -⟩ := F; exact r
theorem StrU.ext (F : StrU Z h a cs) (E : Ext h h') : StrU Z h' a cs := by
  obtain ⟨t, kb, q1, q2, q3, q4, r⟩ := F
  exact ⟨t, kb, q1.ext E, q2.ext E, q3.ext E, q4.ext E, r⟩
theorem StrU.keepE {n : Nat} (F : StrU Z h a cs) (K : Keep h h' [o]) (E : Exa Z h o C) (hn : C ≠ "java/lang/String") (wi : (Cond.instantiable C n).before a0 Z = true) : StrU Z h' a cs := by
  obtain ⟨t, kb, q1, q2, q3, q4, r⟩ := F
  have n1 : a ≠ o := fun q => (Exa.ne E q1 hn) q.symm
  have n2 : t ≠ o := fun q => (Exa.neArv E q4 wi) q.symm
  exact ⟨t, kb, q1.keep K, q2.keep K (nin1 n1), q3.keep K (nin1 n1), q4.keep K (nin1 n2), r⟩
theorem StrU.keepC {n : Nat} {k : ClassId} {ty : FieldType} {z : Int32} {vs : List Value} {d : Value} (F : StrU Z h a cs) (K : Keep h h' [o]) (V : Arv Z h o k ty z vs d) (ht : FieldType.byte ≠ ty) (wi : (Cond.instantiable "java/lang/String" n).before a0 Z = true) : StrU Z h' a cs := by
  obtain ⟨t, kb, q1, q2, q3, q4, r⟩ := F
  have n1 : a ≠ o := Exa.neArv q1 V wi
  have n2 : t ≠ o := arv_sort q4 V ht
  exact ⟨t, kb, q1.keep K, q2.keep K (nin1 n1), q3.keep K (nin1 n1), q4.keep K (nin1 n2), r⟩
/-- a String by its signs, whatever its coder -/
def StrX (Z : State) (h : Heap) (a : Addr) (cs : List Int32) : Prop := Str Z h a cs ∨ StrU Z h a cs
theorem StrX.exa (F : StrX Z h a cs) : Exa Z h a "java/lang/String" := F.elim Str.exa StrU.exa
theorem StrX.ext (F : StrX Z h a cs) (E : Ext h h') : StrX Z h' a cs := F.imp (fun q => q.ext E) (fun q => q.ext E)
theorem StrX.keep0 (F : StrX Z h a cs) (K : Keep h h' []) : StrX Z h' a cs := F.ext (ext_keep0 K)
theorem StrX.keepE {n : Nat} (F : StrX Z h a cs) (K : Keep h h' [o]) (E : Exa Z h o C) (hn : C ≠ "java/lang/String") (wi : (Cond.instantiable C n).before a0 Z = true) : StrX Z h' a cs := F.imp (fun q => q.keepE K E hn wi) (fun q => q.keepE K E hn wi)
theorem StrX.keepC {n : Nat} {k : ClassId} {ty : FieldType} {z : Int32} {vs : List Value} {d : Value} (F : StrX Z h a cs) (K : Keep h h' [o]) (V : Arv Z h o k ty z vs d) (ht : FieldType.byte ≠ ty) (wi : (Cond.instantiable "java/lang/String" n).before a0 Z = true) : StrX Z h' a cs := F.imp (fun q => q.keepC K V ht wi) (fun q => q.keepC K V ht wi)
abbrev Sp (c : Int32) : Prop := c = 92 ∨ c = 123 ∨ c = 125 ∨ c = 36
theorem esc_yes {c : Int32} (q : Sp c) : esc c = [92, c] := if_pos q
theorem esc_no {c : Int32} (q : ¬ Sp c) : esc c = [c] := if_neg q
theorem take_snoc (cs : List Int32) (i : Nat) (hi : i < cs.length) : cs.take i ++ [cs.getD i 0] = cs.take (i + 1) := by
  rw [List.take_add_one, List.getD_eq_getElem?_getD, List.getElem?_eq_getElem hi]; rfl
theorem ch_i2c (x : Int32) : Ch (x.toUInt32.toUInt16.toUInt32.toInt32) := by
  have hu : (x.toUInt32.toUInt16.toUInt32).toBitVec.toNat < 65536 := by
    have q := UInt16.toNat_lt x.toUInt32.toUInt16
    have e : (x.toUInt32.toUInt16.toUInt32).toNat = x.toUInt32.toUInt16.toNat := UInt16.toNat_toUInt32 _
    show (x.toUInt32.toUInt16.toUInt32).toNat < 65536
    rw [e]; exact Nat.lt_of_lt_of_le q (by decide)
  have e : (x.toUInt32.toUInt16.toUInt32.toInt32).toInt = ((x.toUInt32.toUInt16.toUInt32).toBitVec.toNat : Int) := by
    show (x.toUInt32.toUInt16.toUInt32).toBitVec.toInt = _
    rw [BitVec.toInt_eq_toNat_of_lt (by omega)]
  refine ⟨?_, ?_⟩
  · rw [Int32.lt_iff_toInt_lt, e]; show ¬ ((_ : Int) < 0); omega
  · rw [Int32.lt_iff_toInt_lt, e]; show ¬ ((65535 : Int) < _); omega
/-- the builder a writes into t, which has k places of n or 2 n + 2 -/
def Bt (Z : State) (h : Heap) (a t : Addr) (kt : ClassId) (k n : Nat) (cs : List Int32) : Prop := Z.vm.findClass "[B" = some kt ∧ (k = n ∨ k = 2 * n + 2) ∧ cs.length ≤ k ∧ Fld Z h a "java/lang/AbstractStringBuilder" "value" "[B" (.ref t) ∧ Fld Z h a "java/lang/AbstractStringBuilder" "count" "I" (.int (N cs.length)) ∧ Fld Z h a "java/lang/AbstractStringBuilder" "maybeLatin1" "Z" (.int (0 : Int32)) ∧
  ((Fld Z h a "java/lang/AbstractStringBuilder" "coder" "B" (.int (0 : Int32)) ∧ Arv Z h t kt .byte (N k) (encL cs) (.int (0 : Int32)) ∧ ∀ c ∈ cs, Sm c) ∨ (Fld Z h a "java/lang/AbstractStringBuilder" "coder" "B" (.int (1 : Int32)) ∧ Arv Z h t kt .byte (N (2 * k)) (encU cs) (.int (0 : Int32)) ∧ ∀ c ∈ cs, Ch c))
/-- the builder a holds cs; the array d of signs stands beside it; nothing older than hh was written -/
def Bd (Z : State) (hh h : Heap) (a d : Addr) (kd : ClassId) (zd : Int32) (vd : List Value) (n : Nat) (cs : List Int32) : Prop := Keep hh h [] ∧ hh.size ≤ a ∧ Z.heap.size ≤ hh.size ∧ Exa Z h a "java/lang/StringBuilder" ∧ Arv Z h d kd .char zd vd (.int (0 : Int32)) ∧ ∃ (t : Addr) (kt : ClassId) (k : Nat), hh.size ≤ t ∧ Bt Z h a t kt k n cs
theorem Bd.step {h0 : Heap} {d : Addr} {kd kt : ClassId} {zd z : Int32} {vd vs : List Value} {dv : Value} {n n' : Nat} (KB : Keep hh h0 []) (ha : hh.size ≤ a) (hz : Z.heap.size ≤ hh.size) (A : Exa Z h0 a "java/lang/StringBuilder") (Vd : Arv Z h0 d kd .char zd vd (.int (0 : Int32))) (Vt : Arv Z h0 t kt .byte z vs dv) (ht : hh.size ≤ t) (wi : (Cond.instantiable "java/lang/StringBuilder" n').before a0 Z = true)
    (K : Keep h0 h [a, t]) (P : ∃ (t1 : Addr) (kt1 : ClassId) (k1 : Nat), (t1 = t ∨ h0.size ≤ t1) ∧ Bt Z h a t1 kt1 k1 n cs) : Bd Z hh h a d kd zd vd n cs := by
  obtain ⟨t1, kt1, k1, q, r⟩ := P
  have nd : d ≠ a := Ne.symm (Exa.neArv A Vd wi)
  have nt : d ≠ t := arv_sort Vd Vt (by decide)
  refine ⟨Keep.two KB K ha ht, ha, hz, A.keep K, Vd.keep K (ninS nd (nin1 nt)), t1, kt1, k1, ?_, r⟩
  rcases q with q | q
  · rw [q]; exact ht
  · exact Nat.le_trans KB.1 q
end Facts7
end Jvm.Own
namespace Jvm.Pilot.@@N@@
open Jvm Jvm.ClassFile Sem Op Lib Jvm.Free Jvm.Stand Jvm.LawKit Jvm.RoadKit Bundle Jvm.Own Jvm.Pilot.@@N@@.Jvm.D
/-- what every body of this claim may lean on -/
def Ctx (Z : State) (a0 : Array Value) (G1 : Int32) : Prop := (∀ d ∈ tables_1, d.before a0 Z = true) ∧ Sta Z Z.heap "java/lang/String" "COMPACT_STRINGS" "Z" (.int G1) ∧ ¬ G1 = 0 ∧ EW Z a0 consts_1
theorem Ctx.w {Z : State} {a0 : Array Value} {G1 : Int32} (X : Ctx Z a0 G1) (i : Nat) {d : Jvm.Cond} (q : tables_1[i]? = some d) : d.before a0 Z = true := X.1 d (List.mem_of_getElem? q)
theorem Ctx.el {Z : State} {a0 : Array Value} {G1 : Int32} (X : Ctx Z a0 G1) : EW Z a0 consts_1 := X.2.2.2
theorem Ctx.ws {Z : State} {a0 : Array Value} {G1 : Int32} (X : Ctx Z a0 G1) : ∀ a ∈ Bundle.stringAtoms, a.before a0 Z = true := fun d hd => X.1 d ((by decide +kernel : ∀ d ∈ Bundle.stringAtoms, d ∈ tables_1) d hd)
theorem pd_0 : parseMethodDescriptor "([CIILjava/lang/Void;)V" = some ⟨[(.array .char), .int, .int, (.object "java/lang/Void")], none⟩ := by decide +kernel
theorem pd_1 : parseMethodDescriptor "(IILjava/util/function/BiFunction;)I" = some ⟨[.int, .int, (.object "java/util/function/BiFunction")], some .int⟩ := by decide +kernel
theorem pd_2 : parseMethodDescriptor "([B)I" = some ⟨[(.array .byte)], some .int⟩ := by decide +kernel
theorem pd_3 : parseMethodDescriptor "(II)V" = some ⟨[.int, .int], none⟩ := by decide +kernel
theorem pd_4 : parseMethodDescriptor "(I[B)V" = some ⟨[.int, (.array .byte)], none⟩ := by decide +kernel
theorem pd_5 : parseMethodDescriptor "([BI)C" = some ⟨[(.array .byte), .int], some .char⟩ := by decide +kernel
theorem pd_6 : parseMethodDescriptor "()B" = some ⟨[], some .byte⟩ := by decide +kernel
theorem pd_7 : parseMethodDescriptor "()Z" = some ⟨[], some .boolean⟩ := by decide +kernel
theorem pd_8 : parseMethodDescriptor "(I)I" = some ⟨[.int], some .int⟩ := by decide +kernel
theorem pd_9 : parseMethodDescriptor "(I)[B" = some ⟨[.int], some (.array .byte)⟩ := by decide +kernel
theorem pd_10 : parseMethodDescriptor "([BII)V" = some ⟨[(.array .byte), .int, .int], none⟩ := by decide +kernel
theorem pd_11 : parseMethodDescriptor "([CI[BII)I" = some ⟨[(.array .char), .int, (.array .byte), .int, .int], some .int⟩ := by decide +kernel
theorem pd_12 : parseMethodDescriptor "([CII)[B" = some ⟨[(.array .char), .int, .int], some (.array .byte)⟩ := by decide +kernel
theorem pd_13 : parseMethodDescriptor "([BI)B" = some ⟨[(.array .byte), .int], some .byte⟩ := by decide +kernel
theorem pd_14 : parseMethodDescriptor "(IIILjava/util/function/BiFunction;)I" = some ⟨[.int, .int, .int, (.object "java/util/function/BiFunction")], some .int⟩ := by decide +kernel
theorem pd_15 : parseMethodDescriptor "(III)I" = some ⟨[.int, .int, .int], some .int⟩ := by decide +kernel
theorem pd_16 : parseMethodDescriptor "([BI[CII)V" = some ⟨[(.array .byte), .int, (.array .char), .int, .int], none⟩ := by decide +kernel
theorem pd_17 : parseMethodDescriptor "(II[B)V" = some ⟨[.int, .int, (.array .byte)], none⟩ := by decide +kernel
theorem pd_18 : parseMethodDescriptor "([BII[CI)V" = some ⟨[(.array .byte), .int, .int, (.array .char), .int], none⟩ := by decide +kernel
theorem pd_19 : parseMethodDescriptor "([B)[C" = some ⟨[(.array .byte)], some (.array .char)⟩ := by decide +kernel
theorem pd_20 : parseMethodDescriptor "(I)V" = some ⟨[.int], none⟩ := by decide +kernel
theorem pd_21 : parseMethodDescriptor "(II)I" = some ⟨[.int, .int], some .int⟩ := by decide +kernel
theorem pd_22 : parseMethodDescriptor "([BII)[B" = some ⟨[(.array .byte), .int, .int], some (.array .byte)⟩ := by decide +kernel
theorem pd_23 : parseMethodDescriptor "([BI)[B" = some ⟨[(.array .byte), .int], some (.array .byte)⟩ := by decide +kernel
theorem pd_24 : parseMethodDescriptor "([BI[BII)V" = some ⟨[(.array .byte), .int, (.array .byte), .int, .int], none⟩ := by decide +kernel
theorem pd_25 : parseMethodDescriptor "(C)Z" = some ⟨[.char], some .boolean⟩ := by decide +kernel
theorem pd_26 : parseMethodDescriptor "()V" = some ⟨[], none⟩ := by decide +kernel
theorem pd_27 : parseMethodDescriptor "(C)Ljava/lang/AbstractStringBuilder;" = some ⟨[.char], some (.object "java/lang/AbstractStringBuilder")⟩ := by decide +kernel
theorem pd_28 : parseMethodDescriptor "()I" = some ⟨[], some .int⟩ := by decide +kernel
theorem pd_29 : parseMethodDescriptor "()[B" = some ⟨[], some (.array .byte)⟩ := by decide +kernel
theorem pd_30 : parseMethodDescriptor "(Ljava/lang/AbstractStringBuilder;Ljava/lang/Void;)V" = some ⟨[(.object "java/lang/AbstractStringBuilder"), (.object "java/lang/Void")], none⟩ := by decide +kernel
theorem pd_31 : parseMethodDescriptor "(Ljava/lang/StringBuilder;)V" = some ⟨[(.object "java/lang/StringBuilder")], none⟩ := by decide +kernel
theorem pd_32 : parseMethodDescriptor "()[C" = some ⟨[], some (.array .char)⟩ := by decide +kernel
theorem pd_33 : parseMethodDescriptor "()Ljava/lang/String;" = some ⟨[], some (.object "java/lang/String")⟩ := by decide +kernel
theorem pd_34 : parseMethodDescriptor "(C)Ljava/lang/StringBuilder;" = some ⟨[.char], some (.object "java/lang/StringBuilder")⟩ := by decide +kernel
theorem pd_35 : parseMethodDescriptor "(I)C" = some ⟨[.int], some .char⟩ := by decide +kernel
theorem pd_36 : parseMethodDescriptor "([C)V" = some ⟨[(.array .char)], none⟩ := by decide +kernel
theorem pd_37 : parseMethodDescriptor "(Ljava/lang/String;)Ljava/lang/String;" = some ⟨[(.object "java/lang/String")], some (.object "java/lang/String")⟩ := by decide +kernel
theorem pd_38 : parseMethodDescriptor "(Ljava/lang/String;[CII)Z" = some ⟨[(.object "java/lang/String"), (.array .char), .int, .int], some .boolean⟩ := by decide +kernel
theorem pd_39 : parseMethodDescriptor "([CIC)I" = some ⟨[(.array .char), .int, .char], some .int⟩ := by decide +kernel
theorem pn_0 : plainName "java/lang/String" = true := by first | (simp [plainName, overriddenIn]; done) | decide +kernel
theorem pn_1 : plainName "jdk/internal/util/Preconditions" = true := by first | (simp [plainName, overriddenIn]; done) | decide +kernel
theorem pn_2 : plainName "java/lang/StringUTF16" = true := by first | (simp [plainName, overriddenIn]; done) | decide +kernel
theorem pn_3 : plainName "java/lang/StringLatin1" = true := by first | (simp [plainName, overriddenIn]; done) | decide +kernel
theorem pn_4 : plainName "java/lang/AbstractStringBuilder" = true := by first | (simp [plainName, overriddenIn]; done) | decide +kernel
theorem pn_5 : plainName "java/lang/StringBuilder" = true := by first | (simp [plainName, overriddenIn]; done) | decide +kernel
theorem pn_6 : plainName "jdk/internal/util/ArraysSupport" = true := by first | (simp [plainName, overriddenIn]; done) | decide +kernel
theorem pn_7 : plainName "java/util/Arrays" = true := by first | (simp [plainName, overriddenIn]; done) | decide +kernel
theorem pn_8 : plainName "com/example/wary_validator/waryvalidator/messageinterpolation/MessageTemplates" = true := by first | (simp [plainName, overriddenIn]; done) | decide +kernel
theorem pn_9 : plainName "com/example/wary_validator/waryvalidator/messageinterpolation/MessageTemplatesEscapePinLaw" = true := by first | (simp [plainName, overriddenIn]; done) | decide +kernel
theorem d0_0 : decode jdk_42_method_3_code 0 = .ok (.aload_n 0, 1) := by decide +kernel
theorem d0_1 : decode jdk_42_method_3_code 1 = .ok (.aload_n 1, 1) := by decide +kernel
theorem d0_2 : decode jdk_42_method_3_code 2 = .ok (.iconst 0, 1) := by decide +kernel
theorem d0_3 : decode jdk_42_method_3_code 3 = .ok (.aload_n 1, 1) := by decide +kernel
theorem d0_4 : decode jdk_42_method_3_code 4 = .ok (.arraylength, 1) := by decide +kernel
theorem d0_5 : decode jdk_42_method_3_code 5 = .ok (.aconst_null, 1) := by decide +kernel
theorem d0_6 : decode jdk_42_method_3_code 6 = .ok (.invokespecial 27, 3) := by decide +kernel
theorem d0_9 : decode jdk_42_method_3_code 9 = .ok (.return_, 1) := by decide +kernel
theorem d1_0 : decode jdk_41_method_11_code 0 = .ok (.iload_n 0, 1) := by decide +kernel
theorem d1_1 : decode jdk_41_method_11_code 1 = .ok (.ifCond .lt 8, 3) := by decide +kernel
theorem d1_4 : decode jdk_41_method_11_code 4 = .ok (.iload_n 0, 1) := by decide +kernel
theorem d1_5 : decode jdk_41_method_11_code 5 = .ok (.iload_n 1, 1) := by decide +kernel
theorem d1_6 : decode jdk_41_method_11_code 6 = .ok (.if_icmp .lt 10, 3) := by decide +kernel
theorem d1_16 : decode jdk_41_method_11_code 16 = .ok (.iload_n 0, 1) := by decide +kernel
theorem d1_17 : decode jdk_41_method_11_code 17 = .ok (.ireturn, 1) := by decide +kernel
theorem d2_0 : decode jdk_42_method_155_code 0 = .ok (.iload_n 0, 1) := by decide +kernel
theorem d2_1 : decode jdk_42_method_155_code 1 = .ok (.iload_n 1, 1) := by decide +kernel
theorem d2_2 : decode jdk_42_method_155_code 2 = .ok (.getstatic 1053, 3) := by decide +kernel
theorem d2_5 : decode jdk_42_method_155_code 5 = .ok (.invokestatic 1059, 3) := by decide +kernel
theorem d2_8 : decode jdk_42_method_155_code 8 = .ok (.pop, 1) := by decide +kernel
theorem d2_9 : decode jdk_42_method_155_code 9 = .ok (.return_, 1) := by decide +kernel
theorem d3_0 : decode jdk_52_method_6_code 0 = .ok (.aload_n 0, 1) := by decide +kernel
theorem d3_1 : decode jdk_52_method_6_code 1 = .ok (.arraylength, 1) := by decide +kernel
theorem d3_2 : decode jdk_52_method_6_code 2 = .ok (.iconst 1, 1) := by decide +kernel
theorem d3_3 : decode jdk_52_method_6_code 3 = .ok (.ishr, 1) := by decide +kernel
theorem d3_4 : decode jdk_52_method_6_code 4 = .ok (.ireturn, 1) := by decide +kernel
theorem d4_0 : decode jdk_52_method_91_code 0 = .ok (.iload_n 0, 1) := by decide +kernel
theorem d4_1 : decode jdk_52_method_91_code 1 = .ok (.aload_n 1, 1) := by decide +kernel
theorem d4_2 : decode jdk_52_method_91_code 2 = .ok (.invokestatic 48, 3) := by decide +kernel
theorem d4_5 : decode jdk_52_method_91_code 5 = .ok (.invokestatic 414, 3) := by decide +kernel
theorem d4_8 : decode jdk_52_method_91_code 8 = .ok (.return_, 1) := by decide +kernel
theorem d5_0 : decode jdk_52_method_4_code 0 = .ok (.getstatic 44, 3) := by decide +kernel
theorem d5_3 : decode jdk_52_method_4_code 3 = .ok (.ifCond .ne 25, 3) := by decide +kernel
theorem d5_28 : decode jdk_52_method_4_code 28 = .ok (.iload_n 1, 1) := by decide +kernel
theorem d5_29 : decode jdk_52_method_4_code 29 = .ok (.iconst 1, 1) := by decide +kernel
theorem d5_30 : decode jdk_52_method_4_code 30 = .ok (.ishl, 1) := by decide +kernel
theorem d5_31 : decode jdk_52_method_4_code 31 = .ok (.istore_n 1, 1) := by decide +kernel
theorem d5_32 : decode jdk_52_method_4_code 32 = .ok (.aload_n 0, 1) := by decide +kernel
theorem d5_33 : decode jdk_52_method_4_code 33 = .ok (.iload_n 1, 1) := by decide +kernel
theorem d5_34 : decode jdk_52_method_4_code 34 = .ok (.iinc 1 1, 3) := by decide +kernel
theorem d5_37 : decode jdk_52_method_4_code 37 = .ok (.iload_n 2, 1) := by decide +kernel
theorem d5_38 : decode jdk_52_method_4_code 38 = .ok (.getstatic 59, 3) := by decide +kernel
theorem d5_41 : decode jdk_52_method_4_code 41 = .ok (.ishr, 1) := by decide +kernel
theorem d5_42 : decode jdk_52_method_4_code 42 = .ok (.i2b, 1) := by decide +kernel
theorem d5_43 : decode jdk_52_method_4_code 43 = .ok (.bastore, 1) := by decide +kernel
theorem d5_44 : decode jdk_52_method_4_code 44 = .ok (.aload_n 0, 1) := by decide +kernel
theorem d5_45 : decode jdk_52_method_4_code 45 = .ok (.iload_n 1, 1) := by decide +kernel
theorem d5_46 : decode jdk_52_method_4_code 46 = .ok (.iload_n 2, 1) := by decide +kernel
theorem d5_47 : decode jdk_52_method_4_code 47 = .ok (.getstatic 63, 3) := by decide +kernel
theorem d5_50 : decode jdk_52_method_4_code 50 = .ok (.ishr, 1) := by decide +kernel
theorem d5_51 : decode jdk_52_method_4_code 51 = .ok (.i2b, 1) := by decide +kernel
theorem d5_52 : decode jdk_52_method_4_code 52 = .ok (.bastore, 1) := by decide +kernel
theorem d5_53 : decode jdk_52_method_4_code 53 = .ok (.return_, 1) := by decide +kernel
theorem d6_0 : decode jdk_52_method_5_code 0 = .ok (.getstatic 44, 3) := by decide +kernel
theorem d6_3 : decode jdk_52_method_5_code 3 = .ok (.ifCond .ne 25, 3) := by decide +kernel
theorem d6_28 : decode jdk_52_method_5_code 28 = .ok (.iload_n 1, 1) := by decide +kernel
theorem d6_29 : decode jdk_52_method_5_code 29 = .ok (.iconst 1, 1) := by decide +kernel
theorem d6_30 : decode jdk_52_method_5_code 30 = .ok (.ishl, 1) := by decide +kernel
theorem d6_31 : decode jdk_52_method_5_code 31 = .ok (.istore_n 1, 1) := by decide +kernel
theorem d6_32 : decode jdk_52_method_5_code 32 = .ok (.aload_n 0, 1) := by decide +kernel
theorem d6_33 : decode jdk_52_method_5_code 33 = .ok (.iload_n 1, 1) := by decide +kernel
theorem d6_34 : decode jdk_52_method_5_code 34 = .ok (.iinc 1 1, 3) := by decide +kernel
theorem d6_37 : decode jdk_52_method_5_code 37 = .ok (.baload, 1) := by decide +kernel
theorem d6_38 : decode jdk_52_method_5_code 38 = .ok (.sipush 255, 3) := by decide +kernel
theorem d6_41 : decode jdk_52_method_5_code 41 = .ok (.iand, 1) := by decide +kernel
theorem d6_42 : decode jdk_52_method_5_code 42 = .ok (.getstatic 59, 3) := by decide +kernel
theorem d6_45 : decode jdk_52_method_5_code 45 = .ok (.ishl, 1) := by decide +kernel
theorem d6_46 : decode jdk_52_method_5_code 46 = .ok (.aload_n 0, 1) := by decide +kernel
theorem d6_47 : decode jdk_52_method_5_code 47 = .ok (.iload_n 1, 1) := by decide +kernel
theorem d6_48 : decode jdk_52_method_5_code 48 = .ok (.baload, 1) := by decide +kernel
theorem d6_49 : decode jdk_52_method_5_code 49 = .ok (.sipush 255, 3) := by decide +kernel
theorem d6_52 : decode jdk_52_method_5_code 52 = .ok (.iand, 1) := by decide +kernel
theorem d6_53 : decode jdk_52_method_5_code 53 = .ok (.getstatic 63, 3) := by decide +kernel
theorem d6_56 : decode jdk_52_method_5_code 56 = .ok (.ishl, 1) := by decide +kernel
theorem d6_57 : decode jdk_52_method_5_code 57 = .ok (.ior, 1) := by decide +kernel
theorem d6_58 : decode jdk_52_method_5_code 58 = .ok (.i2c, 1) := by decide +kernel
theorem d6_59 : decode jdk_52_method_5_code 59 = .ok (.ireturn, 1) := by decide +kernel
theorem d7_0 : decode jdk_52_method_83_code 0 = .ok (.iload_n 1, 1) := by decide +kernel
theorem d7_1 : decode jdk_52_method_83_code 1 = .ok (.aload_n 0, 1) := by decide +kernel
theorem d7_2 : decode jdk_52_method_83_code 2 = .ok (.invokestatic 67, 3) := by decide +kernel
theorem d7_5 : decode jdk_52_method_83_code 5 = .ok (.aload_n 0, 1) := by decide +kernel
theorem d7_6 : decode jdk_52_method_83_code 6 = .ok (.iload_n 1, 1) := by decide +kernel
theorem d7_7 : decode jdk_52_method_83_code 7 = .ok (.invokestatic 71, 3) := by decide +kernel
theorem d7_10 : decode jdk_52_method_83_code 10 = .ok (.ireturn, 1) := by decide +kernel
theorem d8_0 : decode jdk_43_method_2_code 0 = .ok (.iload_n 1, 1) := by decide +kernel
theorem d8_1 : decode jdk_43_method_2_code 1 = .ok (.aload_n 0, 1) := by decide +kernel
theorem d8_2 : decode jdk_43_method_2_code 2 = .ok (.arraylength, 1) := by decide +kernel
theorem d8_3 : decode jdk_43_method_2_code 3 = .ok (.invokestatic 9, 3) := by decide +kernel
theorem d8_6 : decode jdk_43_method_2_code 6 = .ok (.aload_n 0, 1) := by decide +kernel
theorem d8_7 : decode jdk_43_method_2_code 7 = .ok (.iload_n 1, 1) := by decide +kernel
theorem d8_8 : decode jdk_43_method_2_code 8 = .ok (.baload, 1) := by decide +kernel
theorem d8_9 : decode jdk_43_method_2_code 9 = .ok (.sipush 255, 3) := by decide +kernel
theorem d8_12 : decode jdk_43_method_2_code 12 = .ok (.iand, 1) := by decide +kernel
theorem d8_13 : decode jdk_43_method_2_code 13 = .ok (.i2c, 1) := by decide +kernel
theorem d8_14 : decode jdk_43_method_2_code 14 = .ok (.ireturn, 1) := by decide +kernel
theorem d9_0 : decode jdk_42_method_152_code 0 = .ok (.getstatic 38, 3) := by decide +kernel
theorem d9_3 : decode jdk_42_method_152_code 3 = .ok (.ifCond .eq 10, 3) := by decide +kernel
theorem d9_6 : decode jdk_42_method_152_code 6 = .ok (.aload_n 0, 1) := by decide +kernel
theorem d9_7 : decode jdk_42_method_152_code 7 = .ok (.getfield 15, 3) := by decide +kernel
theorem d9_10 : decode jdk_42_method_152_code 10 = .ok (.goto 4, 3) := by decide +kernel
theorem d9_14 : decode jdk_42_method_152_code 14 = .ok (.ireturn, 1) := by decide +kernel
theorem d10_0 : decode jdk_42_method_154_code 0 = .ok (.getstatic 38, 3) := by decide +kernel
theorem d10_3 : decode jdk_42_method_154_code 3 = .ok (.ifCond .eq 14, 3) := by decide +kernel
theorem d10_6 : decode jdk_42_method_154_code 6 = .ok (.aload_n 0, 1) := by decide +kernel
theorem d10_7 : decode jdk_42_method_154_code 7 = .ok (.getfield 15, 3) := by decide +kernel
theorem d10_10 : decode jdk_42_method_154_code 10 = .ok (.ifCond .ne 7, 3) := by decide +kernel
theorem d10_13 : decode jdk_42_method_154_code 13 = .ok (.iconst 1, 1) := by decide +kernel
theorem d10_14 : decode jdk_42_method_154_code 14 = .ok (.goto 4, 3) := by decide +kernel
theorem d10_18 : decode jdk_42_method_154_code 18 = .ok (.ireturn, 1) := by decide +kernel
theorem d10_17 : decode jdk_42_method_154_code 17 = .ok (.iconst 0, 1) := by decide +kernel
theorem d11_0 : decode jdk_42_method_54_code 0 = .ok (.aload_n 0, 1) := by decide +kernel
theorem d11_1 : decode jdk_42_method_54_code 1 = .ok (.getfield 9, 3) := by decide +kernel
theorem d11_4 : decode jdk_42_method_54_code 4 = .ok (.arraylength, 1) := by decide +kernel
theorem d11_5 : decode jdk_42_method_54_code 5 = .ok (.aload_n 0, 1) := by decide +kernel
theorem d11_6 : decode jdk_42_method_54_code 6 = .ok (.invokevirtual 335, 3) := by decide +kernel
theorem d11_9 : decode jdk_42_method_54_code 9 = .ok (.ishr, 1) := by decide +kernel
theorem d11_10 : decode jdk_42_method_54_code 10 = .ok (.ireturn, 1) := by decide +kernel
theorem d12_0 : decode jdk_42_method_56_code 0 = .ok (.aload_n 0, 1) := by decide +kernel
theorem d12_1 : decode jdk_42_method_56_code 1 = .ok (.invokevirtual 492, 3) := by decide +kernel
theorem d12_4 : decode jdk_42_method_56_code 4 = .ok (.ifCond .eq 12, 3) := by decide +kernel
theorem d12_7 : decode jdk_42_method_56_code 7 = .ok (.aload_n 0, 1) := by decide +kernel
theorem d12_8 : decode jdk_42_method_56_code 8 = .ok (.getfield 9, 3) := by decide +kernel
theorem d12_11 : decode jdk_42_method_56_code 11 = .ok (.iload_n 1, 1) := by decide +kernel
theorem d12_12 : decode jdk_42_method_56_code 12 = .ok (.invokestatic 495, 3) := by decide +kernel
theorem d12_15 : decode jdk_42_method_56_code 15 = .ok (.ireturn, 1) := by decide +kernel
theorem d12_16 : decode jdk_42_method_56_code 16 = .ok (.aload_n 0, 1) := by decide +kernel
theorem d12_17 : decode jdk_42_method_56_code 17 = .ok (.getfield 9, 3) := by decide +kernel
theorem d12_20 : decode jdk_42_method_56_code 20 = .ok (.iload_n 1, 1) := by decide +kernel
theorem d12_21 : decode jdk_42_method_56_code 21 = .ok (.invokestatic 498, 3) := by decide +kernel
theorem d12_24 : decode jdk_42_method_56_code 24 = .ok (.ireturn, 1) := by decide +kernel
theorem d13_0 : decode jdk_52_method_3_code 0 = .ok (.iload_n 0, 1) := by decide +kernel
theorem d13_1 : decode jdk_52_method_3_code 1 = .ok (.ifCond .ge 11, 3) := by decide +kernel
theorem d13_12 : decode jdk_52_method_3_code 12 = .ok (.iload_n 0, 1) := by decide +kernel
theorem d13_13 : decode jdk_52_method_3_code 13 = .ok (.ldc 20, 2) := by decide +kernel
theorem d13_15 : decode jdk_52_method_3_code 15 = .ok (.if_icmp .lt 40, 3) := by decide +kernel
theorem d13_55 : decode jdk_52_method_3_code 55 = .ok (.iload_n 0, 1) := by decide +kernel
theorem d13_56 : decode jdk_52_method_3_code 56 = .ok (.iconst 1, 1) := by decide +kernel
theorem d13_57 : decode jdk_52_method_3_code 57 = .ok (.ishl, 1) := by decide +kernel
theorem d13_58 : decode jdk_52_method_3_code 58 = .ok (.ireturn, 1) := by decide +kernel
theorem d14_0 : decode jdk_52_method_2_code 0 = .ok (.iload_n 0, 1) := by decide +kernel
theorem d14_1 : decode jdk_52_method_2_code 1 = .ok (.invokestatic 11, 3) := by decide +kernel
theorem d14_4 : decode jdk_52_method_2_code 4 = .ok (.newarray .byte, 2) := by decide +kernel
theorem d14_6 : decode jdk_52_method_2_code 6 = .ok (.areturn, 1) := by decide +kernel
theorem d15_0 : decode jdk_52_method_14_code 0 = .ok (.iload_n 2, 1) := by decide +kernel
theorem d15_1 : decode jdk_52_method_14_code 1 = .ok (.invokestatic 107, 3) := by decide +kernel
theorem d15_4 : decode jdk_52_method_14_code 4 = .ok (.astore_n 3, 1) := by decide +kernel
theorem d15_5 : decode jdk_52_method_14_code 5 = .ok (.iconst 0, 1) := by decide +kernel
theorem d15_6 : decode jdk_52_method_14_code 6 = .ok (.istore 4, 2) := by decide +kernel
theorem d15_8 : decode jdk_52_method_14_code 8 = .ok (.iload 4, 2) := by decide +kernel
theorem d15_10 : decode jdk_52_method_14_code 10 = .ok (.iload_n 2, 1) := by decide +kernel
theorem d15_11 : decode jdk_52_method_14_code 11 = .ok (.if_icmp .ge 21, 3) := by decide +kernel
theorem d15_14 : decode jdk_52_method_14_code 14 = .ok (.aload_n 3, 1) := by decide +kernel
theorem d15_15 : decode jdk_52_method_14_code 15 = .ok (.iload 4, 2) := by decide +kernel
theorem d15_17 : decode jdk_52_method_14_code 17 = .ok (.aload_n 0, 1) := by decide +kernel
theorem d15_18 : decode jdk_52_method_14_code 18 = .ok (.iload_n 1, 1) := by decide +kernel
theorem d15_19 : decode jdk_52_method_14_code 19 = .ok (.caload, 1) := by decide +kernel
theorem d15_20 : decode jdk_52_method_14_code 20 = .ok (.invokestatic 111, 3) := by decide +kernel
theorem d15_23 : decode jdk_52_method_14_code 23 = .ok (.iinc 1 1, 3) := by decide +kernel
theorem d15_26 : decode jdk_52_method_14_code 26 = .ok (.iinc 4 1, 3) := by decide +kernel
theorem d15_29 : decode jdk_52_method_14_code 29 = .ok (.goto (-21), 3) := by decide +kernel
theorem d15_32 : decode jdk_52_method_14_code 32 = .ok (.aload_n 3, 1) := by decide +kernel
theorem d15_33 : decode jdk_52_method_14_code 33 = .ok (.areturn, 1) := by decide +kernel
theorem d16_0 : decode jdk_52_method_21_code 0 = .ok (.iconst 0, 1) := by decide +kernel
theorem d16_1 : decode jdk_52_method_21_code 1 = .ok (.istore 5, 2) := by decide +kernel
theorem d16_3 : decode jdk_52_method_21_code 3 = .ok (.iload 5, 2) := by decide +kernel
theorem d16_5 : decode jdk_52_method_21_code 5 = .ok (.iload 4, 2) := by decide +kernel
theorem d16_7 : decode jdk_52_method_21_code 7 = .ok (.if_icmp .ge 37, 3) := by decide +kernel
theorem d16_10 : decode jdk_52_method_21_code 10 = .ok (.aload_n 0, 1) := by decide +kernel
theorem d16_11 : decode jdk_52_method_21_code 11 = .ok (.iload_n 1, 1) := by decide +kernel
theorem d16_12 : decode jdk_52_method_21_code 12 = .ok (.caload, 1) := by decide +kernel
theorem d16_13 : decode jdk_52_method_21_code 13 = .ok (.istore 6, 2) := by decide +kernel
theorem d16_15 : decode jdk_52_method_21_code 15 = .ok (.iload 6, 2) := by decide +kernel
theorem d16_17 : decode jdk_52_method_21_code 17 = .ok (.sipush 255, 3) := by decide +kernel
theorem d16_20 : decode jdk_52_method_21_code 20 = .ok (.if_icmp .le 6, 3) := by decide +kernel
theorem d16_23 : decode jdk_52_method_21_code 23 = .ok (.iload 5, 2) := by decide +kernel
theorem d16_25 : decode jdk_52_method_21_code 25 = .ok (.ireturn, 1) := by decide +kernel
theorem d16_26 : decode jdk_52_method_21_code 26 = .ok (.aload_n 2, 1) := by decide +kernel
theorem d16_27 : decode jdk_52_method_21_code 27 = .ok (.iload_n 3, 1) := by decide +kernel
theorem d16_28 : decode jdk_52_method_21_code 28 = .ok (.iload 6, 2) := by decide +kernel
theorem d16_30 : decode jdk_52_method_21_code 30 = .ok (.i2b, 1) := by decide +kernel
theorem d16_31 : decode jdk_52_method_21_code 31 = .ok (.bastore, 1) := by decide +kernel
theorem d16_32 : decode jdk_52_method_21_code 32 = .ok (.iinc 1 1, 3) := by decide +kernel
theorem d16_35 : decode jdk_52_method_21_code 35 = .ok (.iinc 3 1, 3) := by decide +kernel
theorem d16_38 : decode jdk_52_method_21_code 38 = .ok (.iinc 5 1, 3) := by decide +kernel
theorem d16_41 : decode jdk_52_method_21_code 41 = .ok (.goto (-38), 3) := by decide +kernel
theorem d16_44 : decode jdk_52_method_21_code 44 = .ok (.iload 4, 2) := by decide +kernel
theorem d16_46 : decode jdk_52_method_21_code 46 = .ok (.ireturn, 1) := by decide +kernel
theorem d17_0 : decode jdk_52_method_16_code 0 = .ok (.iload_n 2, 1) := by decide +kernel
theorem d17_1 : decode jdk_52_method_16_code 1 = .ok (.newarray .byte, 2) := by decide +kernel
theorem d17_3 : decode jdk_52_method_16_code 3 = .ok (.astore_n 3, 1) := by decide +kernel
theorem d17_4 : decode jdk_52_method_16_code 4 = .ok (.aload_n 0, 1) := by decide +kernel
theorem d17_5 : decode jdk_52_method_16_code 5 = .ok (.iload_n 1, 1) := by decide +kernel
theorem d17_6 : decode jdk_52_method_16_code 6 = .ok (.aload_n 3, 1) := by decide +kernel
theorem d17_7 : decode jdk_52_method_16_code 7 = .ok (.iconst 0, 1) := by decide +kernel
theorem d17_8 : decode jdk_52_method_16_code 8 = .ok (.iload_n 2, 1) := by decide +kernel
theorem d17_9 : decode jdk_52_method_16_code 9 = .ok (.invokestatic 115, 3) := by decide +kernel
theorem d17_12 : decode jdk_52_method_16_code 12 = .ok (.istore 4, 2) := by decide +kernel
theorem d17_14 : decode jdk_52_method_16_code 14 = .ok (.iload 4, 2) := by decide +kernel
theorem d17_16 : decode jdk_52_method_16_code 16 = .ok (.iload_n 2, 1) := by decide +kernel
theorem d17_17 : decode jdk_52_method_16_code 17 = .ok (.if_icmp .eq 40, 3) := by decide +kernel
theorem d17_20 : decode jdk_52_method_16_code 20 = .ok (.aload_n 0, 1) := by decide +kernel
theorem d17_21 : decode jdk_52_method_16_code 21 = .ok (.iload_n 1, 1) := by decide +kernel
theorem d17_22 : decode jdk_52_method_16_code 22 = .ok (.iload_n 2, 1) := by decide +kernel
theorem d17_23 : decode jdk_52_method_16_code 23 = .ok (.invokestatic 119, 3) := by decide +kernel
theorem d17_26 : decode jdk_52_method_16_code 26 = .ok (.astore 5, 2) := by decide +kernel
theorem d17_28 : decode jdk_52_method_16_code 28 = .ok (.aload 5, 2) := by decide +kernel
theorem d17_30 : decode jdk_52_method_16_code 30 = .ok (.iload 4, 2) := by decide +kernel
theorem d17_32 : decode jdk_52_method_16_code 32 = .ok (.invokestatic 71, 3) := by decide +kernel
theorem d17_35 : decode jdk_52_method_16_code 35 = .ok (.sipush 255, 3) := by decide +kernel
theorem d17_38 : decode jdk_52_method_16_code 38 = .ok (.if_icmp .gt 16, 3) := by decide +kernel
theorem d17_54 : decode jdk_52_method_16_code 54 = .ok (.aload 5, 2) := by decide +kernel
theorem d17_56 : decode jdk_52_method_16_code 56 = .ok (.areturn, 1) := by decide +kernel
theorem d18_0 : decode jdk_52_method_15_code 0 = .ok (.iload_n 1, 1) := by decide +kernel
theorem d18_1 : decode jdk_52_method_15_code 1 = .ok (.aload_n 0, 1) := by decide +kernel
theorem d18_2 : decode jdk_52_method_15_code 2 = .ok (.arraylength, 1) := by decide +kernel
theorem d18_3 : decode jdk_52_method_15_code 3 = .ok (.isub, 1) := by decide +kernel
theorem d18_4 : decode jdk_52_method_15_code 4 = .ok (.bipush 31, 2) := by decide +kernel
theorem d18_6 : decode jdk_52_method_15_code 6 = .ok (.iushr, 1) := by decide +kernel
theorem d18_7 : decode jdk_52_method_15_code 7 = .ok (.i2b, 1) := by decide +kernel
theorem d18_8 : decode jdk_52_method_15_code 8 = .ok (.ireturn, 1) := by decide +kernel
theorem d19_0 : decode jdk_42_method_149_code 0 = .ok (.aload_n 0, 1) := by decide +kernel
theorem d19_1 : decode jdk_42_method_149_code 1 = .ok (.invokespecial 1, 3) := by decide +kernel
theorem d19_4 : decode jdk_42_method_149_code 4 = .ok (.iload_n 3, 1) := by decide +kernel
theorem d19_5 : decode jdk_42_method_149_code 5 = .ok (.ifCond .ne 22, 3) := by decide +kernel
theorem d19_27 : decode jdk_42_method_149_code 27 = .ok (.getstatic 38, 3) := by decide +kernel
theorem d19_30 : decode jdk_42_method_149_code 30 = .ok (.ifCond .eq 28, 3) := by decide +kernel
theorem d19_33 : decode jdk_42_method_149_code 33 = .ok (.aload_n 1, 1) := by decide +kernel
theorem d19_34 : decode jdk_42_method_149_code 34 = .ok (.iload_n 2, 1) := by decide +kernel
theorem d19_35 : decode jdk_42_method_149_code 35 = .ok (.iload_n 3, 1) := by decide +kernel
theorem d19_36 : decode jdk_42_method_149_code 36 = .ok (.invokestatic 177, 3) := by decide +kernel
theorem d19_39 : decode jdk_42_method_149_code 39 = .ok (.astore 5, 2) := by decide +kernel
theorem d19_41 : decode jdk_42_method_149_code 41 = .ok (.aload_n 0, 1) := by decide +kernel
theorem d19_42 : decode jdk_42_method_149_code 42 = .ok (.aload 5, 2) := by decide +kernel
theorem d19_44 : decode jdk_42_method_149_code 44 = .ok (.iload_n 3, 1) := by decide +kernel
theorem d19_45 : decode jdk_42_method_149_code 45 = .ok (.invokestatic 47, 3) := by decide +kernel
theorem d19_48 : decode jdk_42_method_149_code 48 = .ok (.putfield 15, 3) := by decide +kernel
theorem d19_51 : decode jdk_42_method_149_code 51 = .ok (.aload_n 0, 1) := by decide +kernel
theorem d19_52 : decode jdk_42_method_149_code 52 = .ok (.aload 5, 2) := by decide +kernel
theorem d19_54 : decode jdk_42_method_149_code 54 = .ok (.putfield 9, 3) := by decide +kernel
theorem d19_57 : decode jdk_42_method_149_code 57 = .ok (.return_, 1) := by decide +kernel
theorem d20_0 : decode jdk_41_method_13_code 0 = .ok (.iload_n 2, 1) := by decide +kernel
theorem d20_1 : decode jdk_41_method_13_code 1 = .ok (.iload_n 0, 1) := by decide +kernel
theorem d20_2 : decode jdk_41_method_13_code 2 = .ok (.ior, 1) := by decide +kernel
theorem d20_3 : decode jdk_41_method_13_code 3 = .ok (.iload_n 1, 1) := by decide +kernel
theorem d20_4 : decode jdk_41_method_13_code 4 = .ok (.ior, 1) := by decide +kernel
theorem d20_5 : decode jdk_41_method_13_code 5 = .ok (.ifCond .lt 10, 3) := by decide +kernel
theorem d20_8 : decode jdk_41_method_13_code 8 = .ok (.iload_n 1, 1) := by decide +kernel
theorem d20_9 : decode jdk_41_method_13_code 9 = .ok (.iload_n 2, 1) := by decide +kernel
theorem d20_10 : decode jdk_41_method_13_code 10 = .ok (.iload_n 0, 1) := by decide +kernel
theorem d20_11 : decode jdk_41_method_13_code 11 = .ok (.isub, 1) := by decide +kernel
theorem d20_12 : decode jdk_41_method_13_code 12 = .ok (.if_icmp .le 11, 3) := by decide +kernel
theorem d20_23 : decode jdk_41_method_13_code 23 = .ok (.iload_n 0, 1) := by decide +kernel
theorem d20_24 : decode jdk_41_method_13_code 24 = .ok (.ireturn, 1) := by decide +kernel
theorem d21_0 : decode jdk_42_method_157_code 0 = .ok (.iload_n 0, 1) := by decide +kernel
theorem d21_1 : decode jdk_42_method_157_code 1 = .ok (.iload_n 1, 1) := by decide +kernel
theorem d21_2 : decode jdk_42_method_157_code 2 = .ok (.iload_n 2, 1) := by decide +kernel
theorem d21_3 : decode jdk_42_method_157_code 3 = .ok (.getstatic 1053, 3) := by decide +kernel
theorem d21_6 : decode jdk_42_method_157_code 6 = .ok (.invokestatic 1065, 3) := by decide +kernel
theorem d21_9 : decode jdk_42_method_157_code 9 = .ok (.ireturn, 1) := by decide +kernel
theorem d22_0 : decode jdk_52_method_94_code 0 = .ok (.iload_n 0, 1) := by decide +kernel
theorem d22_1 : decode jdk_52_method_94_code 1 = .ok (.iload_n 1, 1) := by decide +kernel
theorem d22_2 : decode jdk_52_method_94_code 2 = .ok (.aload_n 2, 1) := by decide +kernel
theorem d22_3 : decode jdk_52_method_94_code 3 = .ok (.invokestatic 48, 3) := by decide +kernel
theorem d22_6 : decode jdk_52_method_94_code 6 = .ok (.invokestatic 419, 3) := by decide +kernel
theorem d22_9 : decode jdk_52_method_94_code 9 = .ok (.pop, 1) := by decide +kernel
theorem d22_10 : decode jdk_52_method_94_code 10 = .ok (.return_, 1) := by decide +kernel
theorem d23_0 : decode jdk_43_method_49_code 0 = .ok (.iconst 0, 1) := by decide +kernel
theorem d23_1 : decode jdk_43_method_49_code 1 = .ok (.istore 5, 2) := by decide +kernel
theorem d23_3 : decode jdk_43_method_49_code 3 = .ok (.iload 5, 2) := by decide +kernel
theorem d23_5 : decode jdk_43_method_49_code 5 = .ok (.iload 4, 2) := by decide +kernel
theorem d23_7 : decode jdk_43_method_49_code 7 = .ok (.if_icmp .ge 26, 3) := by decide +kernel
theorem d23_33 : decode jdk_43_method_49_code 33 = .ok (.return_, 1) := by decide +kernel
theorem d24_0 : decode jdk_43_method_9_code 0 = .ok (.aload_n 0, 1) := by decide +kernel
theorem d24_1 : decode jdk_43_method_9_code 1 = .ok (.arraylength, 1) := by decide +kernel
theorem d24_2 : decode jdk_43_method_9_code 2 = .ok (.newarray .char, 2) := by decide +kernel
theorem d24_4 : decode jdk_43_method_9_code 4 = .ok (.astore_n 1, 1) := by decide +kernel
theorem d24_5 : decode jdk_43_method_9_code 5 = .ok (.aload_n 0, 1) := by decide +kernel
theorem d24_6 : decode jdk_43_method_9_code 6 = .ok (.iconst 0, 1) := by decide +kernel
theorem d24_7 : decode jdk_43_method_9_code 7 = .ok (.aload_n 1, 1) := by decide +kernel
theorem d24_8 : decode jdk_43_method_9_code 8 = .ok (.iconst 0, 1) := by decide +kernel
theorem d24_9 : decode jdk_43_method_9_code 9 = .ok (.aload_n 0, 1) := by decide +kernel
theorem d24_10 : decode jdk_43_method_9_code 10 = .ok (.arraylength, 1) := by decide +kernel
theorem d24_11 : decode jdk_43_method_9_code 11 = .ok (.invokestatic 13, 3) := by decide +kernel
theorem d24_14 : decode jdk_43_method_9_code 14 = .ok (.aload_n 1, 1) := by decide +kernel
theorem d24_15 : decode jdk_43_method_9_code 15 = .ok (.areturn, 1) := by decide +kernel
theorem d23_10 : decode jdk_43_method_49_code 10 = .ok (.aload_n 2, 1) := by decide +kernel
theorem d23_11 : decode jdk_43_method_49_code 11 = .ok (.iload_n 3, 1) := by decide +kernel
theorem d23_12 : decode jdk_43_method_49_code 12 = .ok (.iinc 3 1, 3) := by decide +kernel
theorem d23_15 : decode jdk_43_method_49_code 15 = .ok (.aload_n 0, 1) := by decide +kernel
theorem d23_16 : decode jdk_43_method_49_code 16 = .ok (.iload_n 1, 1) := by decide +kernel
theorem d23_17 : decode jdk_43_method_49_code 17 = .ok (.iinc 1 1, 3) := by decide +kernel
theorem d23_20 : decode jdk_43_method_49_code 20 = .ok (.baload, 1) := by decide +kernel
theorem d23_21 : decode jdk_43_method_49_code 21 = .ok (.sipush 255, 3) := by decide +kernel
theorem d23_24 : decode jdk_43_method_49_code 24 = .ok (.iand, 1) := by decide +kernel
theorem d23_25 : decode jdk_43_method_49_code 25 = .ok (.i2c, 1) := by decide +kernel
theorem d23_26 : decode jdk_43_method_49_code 26 = .ok (.castore, 1) := by decide +kernel
theorem d23_27 : decode jdk_43_method_49_code 27 = .ok (.iinc 5 1, 3) := by decide +kernel
theorem d23_30 : decode jdk_43_method_49_code 30 = .ok (.goto (-27), 3) := by decide +kernel
theorem d25_0 : decode jdk_52_method_26_code 0 = .ok (.iload_n 1, 1) := by decide +kernel
theorem d25_1 : decode jdk_52_method_26_code 1 = .ok (.iload_n 2, 1) := by decide +kernel
theorem d25_2 : decode jdk_52_method_26_code 2 = .ok (.if_icmp .ge 11, 3) := by decide +kernel
theorem d25_5 : decode jdk_52_method_26_code 5 = .ok (.iload_n 1, 1) := by decide +kernel
theorem d25_6 : decode jdk_52_method_26_code 6 = .ok (.iload_n 2, 1) := by decide +kernel
theorem d25_7 : decode jdk_52_method_26_code 7 = .ok (.iload_n 1, 1) := by decide +kernel
theorem d25_8 : decode jdk_52_method_26_code 8 = .ok (.isub, 1) := by decide +kernel
theorem d25_9 : decode jdk_52_method_26_code 9 = .ok (.aload_n 0, 1) := by decide +kernel
theorem d25_10 : decode jdk_52_method_26_code 10 = .ok (.invokestatic 173, 3) := by decide +kernel
theorem d25_13 : decode jdk_52_method_26_code 13 = .ok (.iload_n 1, 1) := by decide +kernel
theorem d25_14 : decode jdk_52_method_26_code 14 = .ok (.istore 5, 2) := by decide +kernel
theorem d25_16 : decode jdk_52_method_26_code 16 = .ok (.iload 5, 2) := by decide +kernel
theorem d25_18 : decode jdk_52_method_26_code 18 = .ok (.iload_n 2, 1) := by decide +kernel
theorem d25_19 : decode jdk_52_method_26_code 19 = .ok (.if_icmp .ge 22, 3) := by decide +kernel
theorem d25_22 : decode jdk_52_method_26_code 22 = .ok (.aload_n 3, 1) := by decide +kernel
theorem d25_23 : decode jdk_52_method_26_code 23 = .ok (.iload 4, 2) := by decide +kernel
theorem d25_25 : decode jdk_52_method_26_code 25 = .ok (.iinc 4 1, 3) := by decide +kernel
theorem d25_28 : decode jdk_52_method_26_code 28 = .ok (.aload_n 0, 1) := by decide +kernel
theorem d25_29 : decode jdk_52_method_26_code 29 = .ok (.iload 5, 2) := by decide +kernel
theorem d25_31 : decode jdk_52_method_26_code 31 = .ok (.invokestatic 71, 3) := by decide +kernel
theorem d25_34 : decode jdk_52_method_26_code 34 = .ok (.castore, 1) := by decide +kernel
theorem d25_35 : decode jdk_52_method_26_code 35 = .ok (.iinc 5 1, 3) := by decide +kernel
theorem d25_38 : decode jdk_52_method_26_code 38 = .ok (.goto (-22), 3) := by decide +kernel
theorem d25_41 : decode jdk_52_method_26_code 41 = .ok (.return_, 1) := by decide +kernel
theorem d26_0 : decode jdk_52_method_13_code 0 = .ok (.aload_n 0, 1) := by decide +kernel
theorem d26_1 : decode jdk_52_method_13_code 1 = .ok (.arraylength, 1) := by decide +kernel
theorem d26_2 : decode jdk_52_method_13_code 2 = .ok (.iconst 1, 1) := by decide +kernel
theorem d26_3 : decode jdk_52_method_13_code 3 = .ok (.ishr, 1) := by decide +kernel
theorem d26_4 : decode jdk_52_method_13_code 4 = .ok (.newarray .char, 2) := by decide +kernel
theorem d26_6 : decode jdk_52_method_13_code 6 = .ok (.astore_n 1, 1) := by decide +kernel
theorem d26_7 : decode jdk_52_method_13_code 7 = .ok (.aload_n 0, 1) := by decide +kernel
theorem d26_8 : decode jdk_52_method_13_code 8 = .ok (.iconst 0, 1) := by decide +kernel
theorem d26_9 : decode jdk_52_method_13_code 9 = .ok (.aload_n 1, 1) := by decide +kernel
theorem d26_10 : decode jdk_52_method_13_code 10 = .ok (.arraylength, 1) := by decide +kernel
theorem d26_11 : decode jdk_52_method_13_code 11 = .ok (.aload_n 1, 1) := by decide +kernel
theorem d26_12 : decode jdk_52_method_13_code 12 = .ok (.iconst 0, 1) := by decide +kernel
theorem d26_13 : decode jdk_52_method_13_code 13 = .ok (.invokestatic 103, 3) := by decide +kernel
theorem d26_16 : decode jdk_52_method_13_code 16 = .ok (.aload_n 1, 1) := by decide +kernel
theorem d26_17 : decode jdk_52_method_13_code 17 = .ok (.areturn, 1) := by decide +kernel
theorem d27_0 : decode jdk_42_method_129_code 0 = .ok (.aload_n 0, 1) := by decide +kernel
theorem d27_1 : decode jdk_42_method_129_code 1 = .ok (.invokevirtual 492, 3) := by decide +kernel
theorem d27_4 : decode jdk_42_method_129_code 4 = .ok (.ifCond .eq 13, 3) := by decide +kernel
theorem d27_7 : decode jdk_42_method_129_code 7 = .ok (.aload_n 0, 1) := by decide +kernel
theorem d27_8 : decode jdk_42_method_129_code 8 = .ok (.getfield 9, 3) := by decide +kernel
theorem d27_11 : decode jdk_42_method_129_code 11 = .ok (.invokestatic 299, 3) := by decide +kernel
theorem d27_14 : decode jdk_42_method_129_code 14 = .ok (.goto 10, 3) := by decide +kernel
theorem d27_24 : decode jdk_42_method_129_code 24 = .ok (.areturn, 1) := by decide +kernel
theorem d27_17 : decode jdk_42_method_129_code 17 = .ok (.aload_n 0, 1) := by decide +kernel
theorem d27_18 : decode jdk_42_method_129_code 18 = .ok (.getfield 9, 3) := by decide +kernel
theorem d27_21 : decode jdk_42_method_129_code 21 = .ok (.invokestatic 303, 3) := by decide +kernel
theorem d28_0 : decode jdk_68_method_2_code 0 = .ok (.aload_n 0, 1) := by decide +kernel
theorem d28_1 : decode jdk_68_method_2_code 1 = .ok (.invokespecial 3, 3) := by decide +kernel
theorem d28_4 : decode jdk_68_method_2_code 4 = .ok (.getstatic 18, 3) := by decide +kernel
theorem d28_7 : decode jdk_68_method_2_code 7 = .ok (.ifCond .eq 18, 3) := by decide +kernel
theorem d28_10 : decode jdk_68_method_2_code 10 = .ok (.aload_n 0, 1) := by decide +kernel
theorem d28_11 : decode jdk_68_method_2_code 11 = .ok (.iload_n 1, 1) := by decide +kernel
theorem d28_12 : decode jdk_68_method_2_code 12 = .ok (.newarray .byte, 2) := by decide +kernel
theorem d28_14 : decode jdk_68_method_2_code 14 = .ok (.putfield 15, 3) := by decide +kernel
theorem d28_17 : decode jdk_68_method_2_code 17 = .ok (.aload_n 0, 1) := by decide +kernel
theorem d28_18 : decode jdk_68_method_2_code 18 = .ok (.iconst 0, 1) := by decide +kernel
theorem d28_19 : decode jdk_68_method_2_code 19 = .ok (.putfield 22, 3) := by decide +kernel
theorem d28_22 : decode jdk_68_method_2_code 22 = .ok (.goto 16, 3) := by decide +kernel
theorem d28_38 : decode jdk_68_method_2_code 38 = .ok (.return_, 1) := by decide +kernel
theorem d29_0 : decode jdk_67_method_2_code 0 = .ok (.aload_n 0, 1) := by decide +kernel
theorem d29_1 : decode jdk_67_method_2_code 1 = .ok (.iload_n 1, 1) := by decide +kernel
theorem d29_2 : decode jdk_67_method_2_code 2 = .ok (.invokespecial 1, 3) := by decide +kernel
theorem d29_5 : decode jdk_67_method_2_code 5 = .ok (.return_, 1) := by decide +kernel
theorem d30_0 : decode jdk_29_method_65_code 0 = .ok (.iload_n 0, 1) := by decide +kernel
theorem d30_1 : decode jdk_29_method_65_code 1 = .ok (.iload_n 1, 1) := by decide +kernel
theorem d30_2 : decode jdk_29_method_65_code 2 = .ok (.if_icmp .lt 7, 3) := by decide +kernel
theorem d30_9 : decode jdk_29_method_65_code 9 = .ok (.iload_n 1, 1) := by decide +kernel
theorem d30_10 : decode jdk_29_method_65_code 10 = .ok (.ireturn, 1) := by decide +kernel
theorem d31_0 : decode jdk_29_method_69_code 0 = .ok (.iload_n 0, 1) := by decide +kernel
theorem d31_1 : decode jdk_29_method_69_code 1 = .ok (.iload_n 1, 1) := by decide +kernel
theorem d31_2 : decode jdk_29_method_69_code 2 = .ok (.if_icmp .gt 7, 3) := by decide +kernel
theorem d31_5 : decode jdk_29_method_69_code 5 = .ok (.iload_n 0, 1) := by decide +kernel
theorem d31_6 : decode jdk_29_method_69_code 6 = .ok (.goto 4, 3) := by decide +kernel
theorem d31_10 : decode jdk_29_method_69_code 10 = .ok (.ireturn, 1) := by decide +kernel
theorem d32_0 : decode jdk_48_method_27_code 0 = .ok (.iload_n 0, 1) := by decide +kernel
theorem d32_1 : decode jdk_48_method_27_code 1 = .ok (.iload_n 1, 1) := by decide +kernel
theorem d32_2 : decode jdk_48_method_27_code 2 = .ok (.iload_n 2, 1) := by decide +kernel
theorem d32_3 : decode jdk_48_method_27_code 3 = .ok (.invokestatic 194, 3) := by decide +kernel
theorem d32_6 : decode jdk_48_method_27_code 6 = .ok (.iadd, 1) := by decide +kernel
theorem d32_7 : decode jdk_48_method_27_code 7 = .ok (.istore_n 3, 1) := by decide +kernel
theorem d32_8 : decode jdk_48_method_27_code 8 = .ok (.iconst 0, 1) := by decide +kernel
theorem d32_9 : decode jdk_48_method_27_code 9 = .ok (.iload_n 3, 1) := by decide +kernel
theorem d32_10 : decode jdk_48_method_27_code 10 = .ok (.if_icmp .ge 11, 3) := by decide +kernel
theorem d32_13 : decode jdk_48_method_27_code 13 = .ok (.iload_n 3, 1) := by decide +kernel
theorem d32_14 : decode jdk_48_method_27_code 14 = .ok (.ldc 200, 2) := by decide +kernel
theorem d32_16 : decode jdk_48_method_27_code 16 = .ok (.if_icmp .gt 5, 3) := by decide +kernel
theorem d32_19 : decode jdk_48_method_27_code 19 = .ok (.iload_n 3, 1) := by decide +kernel
theorem d32_20 : decode jdk_48_method_27_code 20 = .ok (.ireturn, 1) := by decide +kernel
theorem d31_9 : decode jdk_29_method_69_code 9 = .ok (.iload_n 1, 1) := by decide +kernel
theorem d33_0 : decode jdk_68_method_10_code 0 = .ok (.aload_n 0, 1) := by decide +kernel
theorem d33_1 : decode jdk_68_method_10_code 1 = .ok (.getfield 15, 3) := by decide +kernel
theorem d33_4 : decode jdk_68_method_10_code 4 = .ok (.arraylength, 1) := by decide +kernel
theorem d33_5 : decode jdk_68_method_10_code 5 = .ok (.istore_n 2, 1) := by decide +kernel
theorem d33_6 : decode jdk_68_method_10_code 6 = .ok (.iload_n 1, 1) := by decide +kernel
theorem d33_7 : decode jdk_68_method_10_code 7 = .ok (.aload_n 0, 1) := by decide +kernel
theorem d33_8 : decode jdk_68_method_10_code 8 = .ok (.getfield 22, 3) := by decide +kernel
theorem d33_11 : decode jdk_68_method_10_code 11 = .ok (.ishl, 1) := by decide +kernel
theorem d33_12 : decode jdk_68_method_10_code 12 = .ok (.istore_n 3, 1) := by decide +kernel
theorem d33_13 : decode jdk_68_method_10_code 13 = .ok (.iload_n 3, 1) := by decide +kernel
theorem d33_14 : decode jdk_68_method_10_code 14 = .ok (.iload_n 2, 1) := by decide +kernel
theorem d33_15 : decode jdk_68_method_10_code 15 = .ok (.isub, 1) := by decide +kernel
theorem d33_16 : decode jdk_68_method_10_code 16 = .ok (.istore 4, 2) := by decide +kernel
theorem d33_18 : decode jdk_68_method_10_code 18 = .ok (.iload_n 2, 1) := by decide +kernel
theorem d33_19 : decode jdk_68_method_10_code 19 = .ok (.iload 4, 2) := by decide +kernel
theorem d33_21 : decode jdk_68_method_10_code 21 = .ok (.iload_n 2, 1) := by decide +kernel
theorem d33_22 : decode jdk_68_method_10_code 22 = .ok (.iconst 2, 1) := by decide +kernel
theorem d33_23 : decode jdk_68_method_10_code 23 = .ok (.aload_n 0, 1) := by decide +kernel
theorem d33_24 : decode jdk_68_method_10_code 24 = .ok (.getfield 22, 3) := by decide +kernel
theorem d33_27 : decode jdk_68_method_10_code 27 = .ok (.ishl, 1) := by decide +kernel
theorem d33_28 : decode jdk_68_method_10_code 28 = .ok (.iadd, 1) := by decide +kernel
theorem d33_29 : decode jdk_68_method_10_code 29 = .ok (.invokestatic 114, 3) := by decide +kernel
theorem d33_32 : decode jdk_68_method_10_code 32 = .ok (.istore 5, 2) := by decide +kernel
theorem d33_34 : decode jdk_68_method_10_code 34 = .ok (.iload 5, 2) := by decide +kernel
theorem d33_36 : decode jdk_68_method_10_code 36 = .ok (.ldc 39, 2) := by decide +kernel
theorem d33_38 : decode jdk_68_method_10_code 38 = .ok (.if_icmp .ne 13, 3) := by decide +kernel
theorem d33_51 : decode jdk_68_method_10_code 51 = .ok (.iload 5, 2) := by decide +kernel
theorem d33_53 : decode jdk_68_method_10_code 53 = .ok (.aload_n 0, 1) := by decide +kernel
theorem d33_54 : decode jdk_68_method_10_code 54 = .ok (.getfield 22, 3) := by decide +kernel
theorem d33_57 : decode jdk_68_method_10_code 57 = .ok (.ishr, 1) := by decide +kernel
theorem d33_58 : decode jdk_68_method_10_code 58 = .ok (.ireturn, 1) := by decide +kernel
theorem d34_0 : decode jdk_65_method_121_code 0 = .ok (.iload_n 1, 1) := by decide +kernel
theorem d34_1 : decode jdk_65_method_121_code 1 = .ok (.aload_n 0, 1) := by decide +kernel
theorem d34_2 : decode jdk_65_method_121_code 2 = .ok (.arraylength, 1) := by decide +kernel
theorem d34_3 : decode jdk_65_method_121_code 3 = .ok (.if_icmp .ne 11, 3) := by decide +kernel
theorem d34_14 : decode jdk_65_method_121_code 14 = .ok (.iload_n 1, 1) := by decide +kernel
theorem d34_15 : decode jdk_65_method_121_code 15 = .ok (.newarray .byte, 2) := by decide +kernel
theorem d34_17 : decode jdk_65_method_121_code 17 = .ok (.astore_n 2, 1) := by decide +kernel
theorem d34_18 : decode jdk_65_method_121_code 18 = .ok (.aload_n 0, 1) := by decide +kernel
theorem d34_19 : decode jdk_65_method_121_code 19 = .ok (.iconst 0, 1) := by decide +kernel
theorem d34_20 : decode jdk_65_method_121_code 20 = .ok (.aload_n 2, 1) := by decide +kernel
theorem d34_21 : decode jdk_65_method_121_code 21 = .ok (.iconst 0, 1) := by decide +kernel
theorem d34_22 : decode jdk_65_method_121_code 22 = .ok (.aload_n 0, 1) := by decide +kernel
theorem d34_23 : decode jdk_65_method_121_code 23 = .ok (.arraylength, 1) := by decide +kernel
theorem d34_24 : decode jdk_65_method_121_code 24 = .ok (.iload_n 1, 1) := by decide +kernel
theorem d34_25 : decode jdk_65_method_121_code 25 = .ok (.invokestatic 304, 3) := by decide +kernel
theorem d34_28 : decode jdk_65_method_121_code 28 = .ok (.invokestatic 150, 3) := by decide +kernel
theorem d34_31 : decode jdk_65_method_121_code 31 = .ok (.aload_n 2, 1) := by decide +kernel
theorem d34_32 : decode jdk_65_method_121_code 32 = .ok (.areturn, 1) := by decide +kernel
theorem d35_0 : decode jdk_65_method_131_code 0 = .ok (.iload_n 1, 1) := by decide +kernel
theorem d35_1 : decode jdk_65_method_131_code 1 = .ok (.iload_n 0, 1) := by decide +kernel
theorem d35_2 : decode jdk_65_method_131_code 2 = .ok (.if_icmp .ge 35, 3) := by decide +kernel
theorem d35_37 : decode jdk_65_method_131_code 37 = .ok (.return_, 1) := by decide +kernel
theorem d36_0 : decode jdk_65_method_133_code 0 = .ok (.iload_n 1, 1) := by decide +kernel
theorem d36_1 : decode jdk_65_method_133_code 1 = .ok (.iload_n 2, 1) := by decide +kernel
theorem d36_2 : decode jdk_65_method_133_code 2 = .ok (.invokestatic 343, 3) := by decide +kernel
theorem d36_5 : decode jdk_65_method_133_code 5 = .ok (.iload_n 2, 1) := by decide +kernel
theorem d36_6 : decode jdk_65_method_133_code 6 = .ok (.iload_n 1, 1) := by decide +kernel
theorem d36_7 : decode jdk_65_method_133_code 7 = .ok (.isub, 1) := by decide +kernel
theorem d36_8 : decode jdk_65_method_133_code 8 = .ok (.istore_n 3, 1) := by decide +kernel
theorem d36_9 : decode jdk_65_method_133_code 9 = .ok (.iload_n 3, 1) := by decide +kernel
theorem d36_10 : decode jdk_65_method_133_code 10 = .ok (.newarray .byte, 2) := by decide +kernel
theorem d36_12 : decode jdk_65_method_133_code 12 = .ok (.astore 4, 2) := by decide +kernel
theorem d36_14 : decode jdk_65_method_133_code 14 = .ok (.aload_n 0, 1) := by decide +kernel
theorem d36_15 : decode jdk_65_method_133_code 15 = .ok (.iload_n 1, 1) := by decide +kernel
theorem d36_16 : decode jdk_65_method_133_code 16 = .ok (.aload 4, 2) := by decide +kernel
theorem d36_18 : decode jdk_65_method_133_code 18 = .ok (.iconst 0, 1) := by decide +kernel
theorem d36_19 : decode jdk_65_method_133_code 19 = .ok (.aload_n 0, 1) := by decide +kernel
theorem d36_20 : decode jdk_65_method_133_code 20 = .ok (.arraylength, 1) := by decide +kernel
theorem d36_21 : decode jdk_65_method_133_code 21 = .ok (.iload_n 1, 1) := by decide +kernel
theorem d36_22 : decode jdk_65_method_133_code 22 = .ok (.isub, 1) := by decide +kernel
theorem d36_23 : decode jdk_65_method_133_code 23 = .ok (.iload_n 3, 1) := by decide +kernel
theorem d36_24 : decode jdk_65_method_133_code 24 = .ok (.invokestatic 304, 3) := by decide +kernel
theorem d36_27 : decode jdk_65_method_133_code 27 = .ok (.invokestatic 150, 3) := by decide +kernel
theorem d36_30 : decode jdk_65_method_133_code 30 = .ok (.aload 4, 2) := by decide +kernel
theorem d36_32 : decode jdk_65_method_133_code 32 = .ok (.areturn, 1) := by decide +kernel
theorem d37_0 : decode jdk_65_method_132_code 0 = .ok (.iload_n 1, 1) := by decide +kernel
theorem d37_1 : decode jdk_65_method_132_code 1 = .ok (.ifCond .ne 9, 3) := by decide +kernel
theorem d37_4 : decode jdk_65_method_132_code 4 = .ok (.iload_n 2, 1) := by decide +kernel
theorem d37_5 : decode jdk_65_method_132_code 5 = .ok (.aload_n 0, 1) := by decide +kernel
theorem d37_6 : decode jdk_65_method_132_code 6 = .ok (.arraylength, 1) := by decide +kernel
theorem d37_7 : decode jdk_65_method_132_code 7 = .ok (.if_icmp .eq 10, 3) := by decide +kernel
theorem d37_17 : decode jdk_65_method_132_code 17 = .ok (.aload_n 0, 1) := by decide +kernel
theorem d37_18 : decode jdk_65_method_132_code 18 = .ok (.invokevirtual 310, 3) := by decide +kernel
theorem d37_21 : decode jdk_65_method_132_code 21 = .ok (.checkcast 311, 3) := by decide +kernel
theorem d37_24 : decode jdk_65_method_132_code 24 = .ok (.areturn, 1) := by decide +kernel
theorem d37_10 : decode jdk_65_method_132_code 10 = .ok (.aload_n 0, 1) := by decide +kernel
theorem d37_11 : decode jdk_65_method_132_code 11 = .ok (.iload_n 1, 1) := by decide +kernel
theorem d37_12 : decode jdk_65_method_132_code 12 = .ok (.iload_n 2, 1) := by decide +kernel
theorem d37_13 : decode jdk_65_method_132_code 13 = .ok (.invokestatic 339, 3) := by decide +kernel
theorem d37_16 : decode jdk_65_method_132_code 16 = .ok (.areturn, 1) := by decide +kernel
theorem d38_0 : decode jdk_68_method_9_code 0 = .ok (.aload_n 0, 1) := by decide +kernel
theorem d38_1 : decode jdk_68_method_9_code 1 = .ok (.getfield 15, 3) := by decide +kernel
theorem d38_4 : decode jdk_68_method_9_code 4 = .ok (.arraylength, 1) := by decide +kernel
theorem d38_5 : decode jdk_68_method_9_code 5 = .ok (.aload_n 0, 1) := by decide +kernel
theorem d38_6 : decode jdk_68_method_9_code 6 = .ok (.getfield 22, 3) := by decide +kernel
theorem d38_9 : decode jdk_68_method_9_code 9 = .ok (.ishr, 1) := by decide +kernel
theorem d38_10 : decode jdk_68_method_9_code 10 = .ok (.istore_n 2, 1) := by decide +kernel
theorem d38_11 : decode jdk_68_method_9_code 11 = .ok (.iload_n 1, 1) := by decide +kernel
theorem d38_12 : decode jdk_68_method_9_code 12 = .ok (.iload_n 2, 1) := by decide +kernel
theorem d38_13 : decode jdk_68_method_9_code 13 = .ok (.isub, 1) := by decide +kernel
theorem d38_14 : decode jdk_68_method_9_code 14 = .ok (.ifCond .le 24, 3) := by decide +kernel
theorem d38_17 : decode jdk_68_method_9_code 17 = .ok (.aload_n 0, 1) := by decide +kernel
theorem d38_18 : decode jdk_68_method_9_code 18 = .ok (.aload_n 0, 1) := by decide +kernel
theorem d38_19 : decode jdk_68_method_9_code 19 = .ok (.getfield 15, 3) := by decide +kernel
theorem d38_22 : decode jdk_68_method_9_code 22 = .ok (.aload_n 0, 1) := by decide +kernel
theorem d38_23 : decode jdk_68_method_9_code 23 = .ok (.iload_n 1, 1) := by decide +kernel
theorem d38_24 : decode jdk_68_method_9_code 24 = .ok (.invokevirtual 104, 3) := by decide +kernel
theorem d38_27 : decode jdk_68_method_9_code 27 = .ok (.aload_n 0, 1) := by decide +kernel
theorem d38_28 : decode jdk_68_method_9_code 28 = .ok (.getfield 22, 3) := by decide +kernel
theorem d38_31 : decode jdk_68_method_9_code 31 = .ok (.ishl, 1) := by decide +kernel
theorem d38_32 : decode jdk_68_method_9_code 32 = .ok (.invokestatic 108, 3) := by decide +kernel
theorem d38_35 : decode jdk_68_method_9_code 35 = .ok (.putfield 15, 3) := by decide +kernel
theorem d38_38 : decode jdk_68_method_9_code 38 = .ok (.return_, 1) := by decide +kernel
theorem d39_0 : decode jdk_68_method_68_code 0 = .ok (.getstatic 18, 3) := by decide +kernel
theorem d39_3 : decode jdk_68_method_68_code 3 = .ok (.ifCond .eq 14, 3) := by decide +kernel
theorem d39_6 : decode jdk_68_method_68_code 6 = .ok (.aload_n 0, 1) := by decide +kernel
theorem d39_7 : decode jdk_68_method_68_code 7 = .ok (.getfield 22, 3) := by decide +kernel
theorem d39_10 : decode jdk_68_method_68_code 10 = .ok (.ifCond .ne 7, 3) := by decide +kernel
theorem d39_13 : decode jdk_68_method_68_code 13 = .ok (.iconst 1, 1) := by decide +kernel
theorem d39_14 : decode jdk_68_method_68_code 14 = .ok (.goto 4, 3) := by decide +kernel
theorem d39_18 : decode jdk_68_method_68_code 18 = .ok (.ireturn, 1) := by decide +kernel
theorem d39_17 : decode jdk_68_method_68_code 17 = .ok (.iconst 0, 1) := by decide +kernel
theorem d40_0 : decode jdk_43_method_3_code 0 = .ok (.iload_n 0, 1) := by decide +kernel
theorem d40_1 : decode jdk_43_method_3_code 1 = .ok (.sipush 255, 3) := by decide +kernel
theorem d40_4 : decode jdk_43_method_3_code 4 = .ok (.if_icmp .gt 7, 3) := by decide +kernel
theorem d40_7 : decode jdk_43_method_3_code 7 = .ok (.iconst 1, 1) := by decide +kernel
theorem d40_8 : decode jdk_43_method_3_code 8 = .ok (.goto 4, 3) := by decide +kernel
theorem d40_12 : decode jdk_43_method_3_code 12 = .ok (.ireturn, 1) := by decide +kernel
theorem d40_11 : decode jdk_43_method_3_code 11 = .ok (.iconst 0, 1) := by decide +kernel
theorem d41_0 : decode jdk_52_method_71_code 0 = .ok (.iload_n 1, 1) := by decide +kernel
theorem d41_1 : decode jdk_52_method_71_code 1 = .ok (.aload_n 0, 1) := by decide +kernel
theorem d41_2 : decode jdk_52_method_71_code 2 = .ok (.invokestatic 67, 3) := by decide +kernel
theorem d41_5 : decode jdk_52_method_71_code 5 = .ok (.aload_n 0, 1) := by decide +kernel
theorem d41_6 : decode jdk_52_method_71_code 6 = .ok (.iload_n 1, 1) := by decide +kernel
theorem d41_7 : decode jdk_52_method_71_code 7 = .ok (.iload_n 2, 1) := by decide +kernel
theorem d41_8 : decode jdk_52_method_71_code 8 = .ok (.invokestatic 111, 3) := by decide +kernel
theorem d41_11 : decode jdk_52_method_71_code 11 = .ok (.return_, 1) := by decide +kernel
theorem d42_0 : decode jdk_52_method_86_code 0 = .ok (.iload_n 3, 1) := by decide +kernel
theorem d42_1 : decode jdk_52_method_86_code 1 = .ok (.iload 4, 2) := by decide +kernel
theorem d42_3 : decode jdk_52_method_86_code 3 = .ok (.aload_n 2, 1) := by decide +kernel
theorem d42_4 : decode jdk_52_method_86_code 4 = .ok (.invokestatic 173, 3) := by decide +kernel
theorem d42_7 : decode jdk_52_method_86_code 7 = .ok (.iconst 0, 1) := by decide +kernel
theorem d42_8 : decode jdk_52_method_86_code 8 = .ok (.istore 5, 2) := by decide +kernel
theorem d42_10 : decode jdk_52_method_86_code 10 = .ok (.iload 5, 2) := by decide +kernel
theorem d42_12 : decode jdk_52_method_86_code 12 = .ok (.iload 4, 2) := by decide +kernel
theorem d42_14 : decode jdk_52_method_86_code 14 = .ok (.if_icmp .ge 27, 3) := by decide +kernel
theorem d42_41 : decode jdk_52_method_86_code 41 = .ok (.return_, 1) := by decide +kernel
theorem d42_17 : decode jdk_52_method_86_code 17 = .ok (.aload_n 2, 1) := by decide +kernel
theorem d42_18 : decode jdk_52_method_86_code 18 = .ok (.iload_n 3, 1) := by decide +kernel
theorem d42_19 : decode jdk_52_method_86_code 19 = .ok (.iinc 3 1, 3) := by decide +kernel
theorem d42_22 : decode jdk_52_method_86_code 22 = .ok (.aload_n 0, 1) := by decide +kernel
theorem d42_23 : decode jdk_52_method_86_code 23 = .ok (.iload_n 1, 1) := by decide +kernel
theorem d42_24 : decode jdk_52_method_86_code 24 = .ok (.iinc 1 1, 3) := by decide +kernel
theorem d42_27 : decode jdk_52_method_86_code 27 = .ok (.baload, 1) := by decide +kernel
theorem d42_28 : decode jdk_52_method_86_code 28 = .ok (.sipush 255, 3) := by decide +kernel
theorem d42_31 : decode jdk_52_method_86_code 31 = .ok (.iand, 1) := by decide +kernel
theorem d42_32 : decode jdk_52_method_86_code 32 = .ok (.invokestatic 111, 3) := by decide +kernel
theorem d42_35 : decode jdk_52_method_86_code 35 = .ok (.iinc 5 1, 3) := by decide +kernel
theorem d42_38 : decode jdk_52_method_86_code 38 = .ok (.goto (-28), 3) := by decide +kernel
theorem d43_0 : decode jdk_43_method_50_code 0 = .ok (.aload_n 0, 1) := by decide +kernel
theorem d43_1 : decode jdk_43_method_50_code 1 = .ok (.iload_n 1, 1) := by decide +kernel
theorem d43_2 : decode jdk_43_method_50_code 2 = .ok (.aload_n 2, 1) := by decide +kernel
theorem d43_3 : decode jdk_43_method_50_code 3 = .ok (.iload_n 3, 1) := by decide +kernel
theorem d43_4 : decode jdk_43_method_50_code 4 = .ok (.iload 4, 2) := by decide +kernel
theorem d43_6 : decode jdk_43_method_50_code 6 = .ok (.invokestatic 240, 3) := by decide +kernel
theorem d43_9 : decode jdk_43_method_50_code 9 = .ok (.return_, 1) := by decide +kernel
theorem d44_0 : decode jdk_68_method_11_code 0 = .ok (.aload_n 0, 1) := by decide +kernel
theorem d44_1 : decode jdk_68_method_11_code 1 = .ok (.invokevirtual 83, 3) := by decide +kernel
theorem d44_4 : decode jdk_68_method_11_code 4 = .ok (.ifCond .ne 4, 3) := by decide +kernel
theorem d44_8 : decode jdk_68_method_11_code 8 = .ok (.aload_n 0, 1) := by decide +kernel
theorem d44_9 : decode jdk_68_method_11_code 9 = .ok (.getfield 15, 3) := by decide +kernel
theorem d44_12 : decode jdk_68_method_11_code 12 = .ok (.arraylength, 1) := by decide +kernel
theorem d44_13 : decode jdk_68_method_11_code 13 = .ok (.invokestatic 26, 3) := by decide +kernel
theorem d44_16 : decode jdk_68_method_11_code 16 = .ok (.astore_n 1, 1) := by decide +kernel
theorem d44_17 : decode jdk_68_method_11_code 17 = .ok (.aload_n 0, 1) := by decide +kernel
theorem d44_18 : decode jdk_68_method_11_code 18 = .ok (.getfield 15, 3) := by decide +kernel
theorem d44_21 : decode jdk_68_method_11_code 21 = .ok (.iconst 0, 1) := by decide +kernel
theorem d44_22 : decode jdk_68_method_11_code 22 = .ok (.aload_n 1, 1) := by decide +kernel
theorem d44_23 : decode jdk_68_method_11_code 23 = .ok (.iconst 0, 1) := by decide +kernel
theorem d44_24 : decode jdk_68_method_11_code 24 = .ok (.aload_n 0, 1) := by decide +kernel
theorem d44_25 : decode jdk_68_method_11_code 25 = .ok (.getfield 79, 3) := by decide +kernel
theorem d44_28 : decode jdk_68_method_11_code 28 = .ok (.invokestatic 125, 3) := by decide +kernel
theorem d44_31 : decode jdk_68_method_11_code 31 = .ok (.aload_n 0, 1) := by decide +kernel
theorem d44_32 : decode jdk_68_method_11_code 32 = .ok (.aload_n 1, 1) := by decide +kernel
theorem d44_33 : decode jdk_68_method_11_code 33 = .ok (.putfield 15, 3) := by decide +kernel
theorem d44_36 : decode jdk_68_method_11_code 36 = .ok (.aload_n 0, 1) := by decide +kernel
theorem d44_37 : decode jdk_68_method_11_code 37 = .ok (.iconst 1, 1) := by decide +kernel
theorem d44_38 : decode jdk_68_method_11_code 38 = .ok (.putfield 22, 3) := by decide +kernel
theorem d44_41 : decode jdk_68_method_11_code 41 = .ok (.return_, 1) := by decide +kernel
theorem d45_0 : decode jdk_68_method_31_code 0 = .ok (.aload_n 0, 1) := by decide +kernel
theorem d45_1 : decode jdk_68_method_31_code 1 = .ok (.aload_n 0, 1) := by decide +kernel
theorem d45_2 : decode jdk_68_method_31_code 2 = .ok (.getfield 79, 3) := by decide +kernel
theorem d45_5 : decode jdk_68_method_31_code 5 = .ok (.iconst 1, 1) := by decide +kernel
theorem d45_6 : decode jdk_68_method_31_code 6 = .ok (.iadd, 1) := by decide +kernel
theorem d45_7 : decode jdk_68_method_31_code 7 = .ok (.invokevirtual 100, 3) := by decide +kernel
theorem d45_10 : decode jdk_68_method_31_code 10 = .ok (.aload_n 0, 1) := by decide +kernel
theorem d45_11 : decode jdk_68_method_31_code 11 = .ok (.invokevirtual 83, 3) := by decide +kernel
theorem d45_14 : decode jdk_68_method_31_code 14 = .ok (.ifCond .eq 31, 3) := by decide +kernel
theorem d45_17 : decode jdk_68_method_31_code 17 = .ok (.iload_n 1, 1) := by decide +kernel
theorem d45_18 : decode jdk_68_method_31_code 18 = .ok (.invokestatic 191, 3) := by decide +kernel
theorem d45_21 : decode jdk_68_method_31_code 21 = .ok (.ifCond .eq 24, 3) := by decide +kernel
theorem d45_24 : decode jdk_68_method_31_code 24 = .ok (.aload_n 0, 1) := by decide +kernel
theorem d45_25 : decode jdk_68_method_31_code 25 = .ok (.getfield 15, 3) := by decide +kernel
theorem d45_28 : decode jdk_68_method_31_code 28 = .ok (.aload_n 0, 1) := by decide +kernel
theorem d45_29 : decode jdk_68_method_31_code 29 = .ok (.dup, 1) := by decide +kernel
theorem d45_30 : decode jdk_68_method_31_code 30 = .ok (.getfield 79, 3) := by decide +kernel
theorem d45_33 : decode jdk_68_method_31_code 33 = .ok (.dup_x1, 1) := by decide +kernel
theorem d45_34 : decode jdk_68_method_31_code 34 = .ok (.iconst 1, 1) := by decide +kernel
theorem d45_35 : decode jdk_68_method_31_code 35 = .ok (.iadd, 1) := by decide +kernel
theorem d45_36 : decode jdk_68_method_31_code 36 = .ok (.putfield 79, 3) := by decide +kernel
theorem d45_39 : decode jdk_68_method_31_code 39 = .ok (.iload_n 1, 1) := by decide +kernel
theorem d45_40 : decode jdk_68_method_31_code 40 = .ok (.i2b, 1) := by decide +kernel
theorem d45_41 : decode jdk_68_method_31_code 41 = .ok (.bastore, 1) := by decide +kernel
theorem d45_42 : decode jdk_68_method_31_code 42 = .ok (.goto 33, 3) := by decide +kernel
theorem d45_75 : decode jdk_68_method_31_code 75 = .ok (.aload_n 0, 1) := by decide +kernel
theorem d45_76 : decode jdk_68_method_31_code 76 = .ok (.areturn, 1) := by decide +kernel
theorem d45_45 : decode jdk_68_method_31_code 45 = .ok (.aload_n 0, 1) := by decide +kernel
theorem d45_46 : decode jdk_68_method_31_code 46 = .ok (.invokevirtual 83, 3) := by decide +kernel
theorem d45_49 : decode jdk_68_method_31_code 49 = .ok (.ifCond .eq 7, 3) := by decide +kernel
theorem d45_52 : decode jdk_68_method_31_code 52 = .ok (.aload_n 0, 1) := by decide +kernel
theorem d45_53 : decode jdk_68_method_31_code 53 = .ok (.invokevirtual 195, 3) := by decide +kernel
theorem d45_56 : decode jdk_68_method_31_code 56 = .ok (.aload_n 0, 1) := by decide +kernel
theorem d45_57 : decode jdk_68_method_31_code 57 = .ok (.getfield 15, 3) := by decide +kernel
theorem d45_60 : decode jdk_68_method_31_code 60 = .ok (.aload_n 0, 1) := by decide +kernel
theorem d45_61 : decode jdk_68_method_31_code 61 = .ok (.dup, 1) := by decide +kernel
theorem d45_62 : decode jdk_68_method_31_code 62 = .ok (.getfield 79, 3) := by decide +kernel
theorem d45_65 : decode jdk_68_method_31_code 65 = .ok (.dup_x1, 1) := by decide +kernel
theorem d45_66 : decode jdk_68_method_31_code 66 = .ok (.iconst 1, 1) := by decide +kernel
theorem d45_67 : decode jdk_68_method_31_code 67 = .ok (.iadd, 1) := by decide +kernel
theorem d45_68 : decode jdk_68_method_31_code 68 = .ok (.putfield 79, 3) := by decide +kernel
theorem d45_71 : decode jdk_68_method_31_code 71 = .ok (.iload_n 1, 1) := by decide +kernel
theorem d45_72 : decode jdk_68_method_31_code 72 = .ok (.invokestatic 197, 3) := by decide +kernel
theorem d46_0 : decode jdk_67_method_14_code 0 = .ok (.aload_n 0, 1) := by decide +kernel
theorem d46_1 : decode jdk_67_method_14_code 1 = .ok (.iload_n 1, 1) := by decide +kernel
theorem d46_2 : decode jdk_67_method_14_code 2 = .ok (.invokespecial 50, 3) := by decide +kernel
theorem d46_5 : decode jdk_67_method_14_code 5 = .ok (.pop, 1) := by decide +kernel
theorem d46_6 : decode jdk_67_method_14_code 6 = .ok (.aload_n 0, 1) := by decide +kernel
theorem d46_7 : decode jdk_67_method_14_code 7 = .ok (.areturn, 1) := by decide +kernel
theorem d47_0 : decode jdk_68_method_64_code 0 = .ok (.aload_n 0, 1) := by decide +kernel
theorem d47_1 : decode jdk_68_method_64_code 1 = .ok (.getfield 15, 3) := by decide +kernel
theorem d47_4 : decode jdk_68_method_64_code 4 = .ok (.areturn, 1) := by decide +kernel
theorem d48_0 : decode jdk_68_method_6_code 0 = .ok (.aload_n 0, 1) := by decide +kernel
theorem d48_1 : decode jdk_68_method_6_code 1 = .ok (.getfield 79, 3) := by decide +kernel
theorem d48_4 : decode jdk_68_method_6_code 4 = .ok (.ireturn, 1) := by decide +kernel
theorem d49_0 : decode jdk_67_method_93_code 0 = .ok (.aload_n 0, 1) := by decide +kernel
theorem d49_1 : decode jdk_67_method_93_code 1 = .ok (.invokespecial 343, 3) := by decide +kernel
theorem d49_4 : decode jdk_67_method_93_code 4 = .ok (.ireturn, 1) := by decide +kernel
theorem d50_0 : decode jdk_42_method_150_code 0 = .ok (.aload_n 0, 1) := by decide +kernel
theorem d50_1 : decode jdk_42_method_150_code 1 = .ok (.invokespecial 1, 3) := by decide +kernel
theorem d50_4 : decode jdk_42_method_150_code 4 = .ok (.aload_n 1, 1) := by decide +kernel
theorem d50_5 : decode jdk_42_method_150_code 5 = .ok (.invokevirtual 552, 3) := by decide +kernel
theorem d50_8 : decode jdk_42_method_150_code 8 = .ok (.astore_n 3, 1) := by decide +kernel
theorem d50_9 : decode jdk_42_method_150_code 9 = .ok (.aload_n 1, 1) := by decide +kernel
theorem d50_10 : decode jdk_42_method_150_code 10 = .ok (.invokevirtual 549, 3) := by decide +kernel
theorem d50_13 : decode jdk_42_method_150_code 13 = .ok (.istore 4, 2) := by decide +kernel
theorem d50_15 : decode jdk_42_method_150_code 15 = .ok (.aload_n 1, 1) := by decide +kernel
theorem d50_16 : decode jdk_42_method_150_code 16 = .ok (.invokevirtual 1047, 3) := by decide +kernel
theorem d50_19 : decode jdk_42_method_150_code 19 = .ok (.ifCond .eq 22, 3) := by decide +kernel
theorem d50_22 : decode jdk_42_method_150_code 22 = .ok (.aload_n 0, 1) := by decide +kernel
theorem d50_23 : decode jdk_42_method_150_code 23 = .ok (.iconst 0, 1) := by decide +kernel
theorem d50_24 : decode jdk_42_method_150_code 24 = .ok (.putfield 15, 3) := by decide +kernel
theorem d50_27 : decode jdk_42_method_150_code 27 = .ok (.aload_n 0, 1) := by decide +kernel
theorem d50_28 : decode jdk_42_method_150_code 28 = .ok (.aload_n 3, 1) := by decide +kernel
theorem d50_29 : decode jdk_42_method_150_code 29 = .ok (.iconst 0, 1) := by decide +kernel
theorem d50_30 : decode jdk_42_method_150_code 30 = .ok (.iload 4, 2) := by decide +kernel
theorem d50_32 : decode jdk_42_method_150_code 32 = .ok (.invokestatic 54, 3) := by decide +kernel
theorem d50_35 : decode jdk_42_method_150_code 35 = .ok (.putfield 9, 3) := by decide +kernel
theorem d50_38 : decode jdk_42_method_150_code 38 = .ok (.goto 59, 3) := by decide +kernel
theorem d50_97 : decode jdk_42_method_150_code 97 = .ok (.return_, 1) := by decide +kernel
theorem d51_0 : decode jdk_42_method_53_code 0 = .ok (.aload_n 0, 1) := by decide +kernel
theorem d51_1 : decode jdk_42_method_53_code 1 = .ok (.aload_n 1, 1) := by decide +kernel
theorem d51_2 : decode jdk_42_method_53_code 2 = .ok (.aconst_null, 1) := by decide +kernel
theorem d51_3 : decode jdk_42_method_53_code 3 = .ok (.invokespecial 489, 3) := by decide +kernel
theorem d51_6 : decode jdk_42_method_53_code 6 = .ok (.return_, 1) := by decide +kernel
theorem d50_41 : decode jdk_42_method_150_code 41 = .ok (.getstatic 38, 3) := by decide +kernel
theorem d50_44 : decode jdk_42_method_150_code 44 = .ok (.ifCond .eq 35, 3) := by decide +kernel
theorem d50_47 : decode jdk_42_method_150_code 47 = .ok (.aload_n 1, 1) := by decide +kernel
theorem d50_48 : decode jdk_42_method_150_code 48 = .ok (.getfield 1048, 3) := by decide +kernel
theorem d50_51 : decode jdk_42_method_150_code 51 = .ok (.ifCond .eq 28, 3) := by decide +kernel
theorem d50_79 : decode jdk_42_method_150_code 79 = .ok (.aload_n 0, 1) := by decide +kernel
theorem d50_80 : decode jdk_42_method_150_code 80 = .ok (.iconst 1, 1) := by decide +kernel
theorem d50_81 : decode jdk_42_method_150_code 81 = .ok (.putfield 15, 3) := by decide +kernel
theorem d50_84 : decode jdk_42_method_150_code 84 = .ok (.aload_n 0, 1) := by decide +kernel
theorem d50_85 : decode jdk_42_method_150_code 85 = .ok (.aload_n 3, 1) := by decide +kernel
theorem d50_86 : decode jdk_42_method_150_code 86 = .ok (.iconst 0, 1) := by decide +kernel
theorem d50_87 : decode jdk_42_method_150_code 87 = .ok (.iload 4, 2) := by decide +kernel
theorem d50_89 : decode jdk_42_method_150_code 89 = .ok (.iconst 1, 1) := by decide +kernel
theorem d50_90 : decode jdk_42_method_150_code 90 = .ok (.ishl, 1) := by decide +kernel
theorem d50_91 : decode jdk_42_method_150_code 91 = .ok (.invokestatic 54, 3) := by decide +kernel
theorem d50_94 : decode jdk_42_method_150_code 94 = .ok (.putfield 9, 3) := by decide +kernel
theorem d52_0 : decode jdk_67_method_42_code 0 = .ok (.new 18, 3) := by decide +kernel
theorem d52_3 : decode jdk_67_method_42_code 3 = .ok (.dup, 1) := by decide +kernel
theorem d52_4 : decode jdk_67_method_42_code 4 = .ok (.aload_n 0, 1) := by decide +kernel
theorem d52_5 : decode jdk_67_method_42_code 5 = .ok (.invokespecial 137, 3) := by decide +kernel
theorem d52_8 : decode jdk_67_method_42_code 8 = .ok (.areturn, 1) := by decide +kernel
theorem d53_0 : decode prog_23_method_6_code 0 = .ok (.new 13, 3) := by decide +kernel
theorem d53_3 : decode prog_23_method_6_code 3 = .ok (.dup, 1) := by decide +kernel
theorem d53_4 : decode prog_23_method_6_code 4 = .ok (.aload_n 0, 1) := by decide +kernel
theorem d53_5 : decode prog_23_method_6_code 5 = .ok (.invokevirtual 15, 3) := by decide +kernel
theorem d53_8 : decode prog_23_method_6_code 8 = .ok (.invokespecial 21, 3) := by decide +kernel
theorem d53_11 : decode prog_23_method_6_code 11 = .ok (.astore_n 1, 1) := by decide +kernel
theorem d53_12 : decode prog_23_method_6_code 12 = .ok (.aload_n 0, 1) := by decide +kernel
theorem d53_13 : decode prog_23_method_6_code 13 = .ok (.invokevirtual 73, 3) := by decide +kernel
theorem d53_16 : decode prog_23_method_6_code 16 = .ok (.astore_n 2, 1) := by decide +kernel
theorem d53_17 : decode prog_23_method_6_code 17 = .ok (.aload_n 2, 1) := by decide +kernel
theorem d53_18 : decode prog_23_method_6_code 18 = .ok (.arraylength, 1) := by decide +kernel
theorem d53_19 : decode prog_23_method_6_code 19 = .ok (.istore_n 3, 1) := by decide +kernel
theorem d53_20 : decode prog_23_method_6_code 20 = .ok (.iconst 0, 1) := by decide +kernel
theorem d53_21 : decode prog_23_method_6_code 21 = .ok (.istore 4, 2) := by decide +kernel
theorem d53_23 : decode prog_23_method_6_code 23 = .ok (.iload 4, 2) := by decide +kernel
theorem d53_25 : decode prog_23_method_6_code 25 = .ok (.iload_n 3, 1) := by decide +kernel
theorem d53_26 : decode prog_23_method_6_code 26 = .ok (.if_icmp .ge 57, 3) := by decide +kernel
theorem d53_83 : decode prog_23_method_6_code 83 = .ok (.aload_n 1, 1) := by decide +kernel
theorem d53_84 : decode prog_23_method_6_code 84 = .ok (.invokevirtual 61, 3) := by decide +kernel
theorem d53_87 : decode prog_23_method_6_code 87 = .ok (.areturn, 1) := by decide +kernel
theorem d53_29 : decode prog_23_method_6_code 29 = .ok (.aload_n 2, 1) := by decide +kernel
theorem d53_30 : decode prog_23_method_6_code 30 = .ok (.iload 4, 2) := by decide +kernel
theorem d53_32 : decode prog_23_method_6_code 32 = .ok (.caload, 1) := by decide +kernel
theorem d53_33 : decode prog_23_method_6_code 33 = .ok (.istore 5, 2) := by decide +kernel
theorem d53_77 : decode prog_23_method_6_code 77 = .ok (.iinc 4 1, 3) := by decide +kernel
theorem d53_80 : decode prog_23_method_6_code 80 = .ok (.goto (-57), 3) := by decide +kernel
theorem d53_63 : decode prog_23_method_6_code 63 = .ok (.aload_n 1, 1) := by decide +kernel
theorem d53_64 : decode prog_23_method_6_code 64 = .ok (.bipush 92, 2) := by decide +kernel
theorem d53_66 : decode prog_23_method_6_code 66 = .ok (.invokevirtual 58, 3) := by decide +kernel
theorem d53_69 : decode prog_23_method_6_code 69 = .ok (.pop, 1) := by decide +kernel
theorem d53_70 : decode prog_23_method_6_code 70 = .ok (.aload_n 1, 1) := by decide +kernel
theorem d53_71 : decode prog_23_method_6_code 71 = .ok (.iload 5, 2) := by decide +kernel
theorem d53_73 : decode prog_23_method_6_code 73 = .ok (.invokevirtual 58, 3) := by decide +kernel
theorem d53_76 : decode prog_23_method_6_code 76 = .ok (.pop, 1) := by decide +kernel
theorem d53_35 : decode prog_23_method_6_code 35 = .ok (.iload 5, 2) := by decide +kernel
theorem d53_37 : decode prog_23_method_6_code 37 = .ok (.bipush 92, 2) := by decide +kernel
theorem d53_39 : decode prog_23_method_6_code 39 = .ok (.if_icmp .eq 24, 3) := by decide +kernel
theorem d53_42 : decode prog_23_method_6_code 42 = .ok (.iload 5, 2) := by decide +kernel
theorem d53_44 : decode prog_23_method_6_code 44 = .ok (.bipush 123, 2) := by decide +kernel
theorem d53_46 : decode prog_23_method_6_code 46 = .ok (.if_icmp .eq 17, 3) := by decide +kernel
theorem d53_49 : decode prog_23_method_6_code 49 = .ok (.iload 5, 2) := by decide +kernel
theorem d53_51 : decode prog_23_method_6_code 51 = .ok (.bipush 125, 2) := by decide +kernel
theorem d53_53 : decode prog_23_method_6_code 53 = .ok (.if_icmp .eq 10, 3) := by decide +kernel
theorem d53_56 : decode prog_23_method_6_code 56 = .ok (.iload 5, 2) := by decide +kernel
theorem d53_58 : decode prog_23_method_6_code 58 = .ok (.bipush 36, 2) := by decide +kernel
theorem d53_60 : decode prog_23_method_6_code 60 = .ok (.if_icmp .ne 10, 3) := by decide +kernel
theorem d54_0 : decode method_3_code 0 = .ok (.iload_n 0, 1) := by decide +kernel
theorem d54_1 : decode method_3_code 1 = .ok (.bipush 92, 2) := by decide +kernel
theorem d54_3 : decode method_3_code 3 = .ok (.if_icmp .eq 21, 3) := by decide +kernel
theorem d54_24 : decode method_3_code 24 = .ok (.iconst 1, 1) := by decide +kernel
theorem d54_25 : decode method_3_code 25 = .ok (.goto 4, 3) := by decide +kernel
theorem d54_29 : decode method_3_code 29 = .ok (.ireturn, 1) := by decide +kernel
theorem d54_6 : decode method_3_code 6 = .ok (.iload_n 0, 1) := by decide +kernel
theorem d54_7 : decode method_3_code 7 = .ok (.bipush 123, 2) := by decide +kernel
theorem d54_9 : decode method_3_code 9 = .ok (.if_icmp .eq 15, 3) := by decide +kernel
theorem d54_12 : decode method_3_code 12 = .ok (.iload_n 0, 1) := by decide +kernel
theorem d54_13 : decode method_3_code 13 = .ok (.bipush 125, 2) := by decide +kernel
theorem d54_15 : decode method_3_code 15 = .ok (.if_icmp .eq 9, 3) := by decide +kernel
theorem d54_18 : decode method_3_code 18 = .ok (.iload_n 0, 1) := by decide +kernel
theorem d54_19 : decode method_3_code 19 = .ok (.bipush 36, 2) := by decide +kernel
theorem d54_21 : decode method_3_code 21 = .ok (.if_icmp .ne 7, 3) := by decide +kernel
theorem d54_28 : decode method_3_code 28 = .ok (.iconst 0, 1) := by decide +kernel
theorem d55_0 : decode method_4_code 0 = .ok (.iload_n 1, 1) := by decide +kernel
theorem d55_1 : decode method_4_code 1 = .ok (.istore_n 3, 1) := by decide +kernel
theorem d55_2 : decode method_4_code 2 = .ok (.iload_n 2, 1) := by decide +kernel
theorem d55_3 : decode method_4_code 3 = .ok (.invokestatic 33, 3) := by decide +kernel
theorem d55_6 : decode method_4_code 6 = .ok (.ifCond .eq 12, 3) := by decide +kernel
theorem d55_9 : decode method_4_code 9 = .ok (.aload_n 0, 1) := by decide +kernel
theorem d55_10 : decode method_4_code 10 = .ok (.iload_n 3, 1) := by decide +kernel
theorem d55_11 : decode method_4_code 11 = .ok (.bipush 92, 2) := by decide +kernel
theorem d55_13 : decode method_4_code 13 = .ok (.castore, 1) := by decide +kernel
theorem d55_14 : decode method_4_code 14 = .ok (.iload_n 3, 1) := by decide +kernel
theorem d55_15 : decode method_4_code 15 = .ok (.iconst 1, 1) := by decide +kernel
theorem d55_16 : decode method_4_code 16 = .ok (.iadd, 1) := by decide +kernel
theorem d55_17 : decode method_4_code 17 = .ok (.istore_n 3, 1) := by decide +kernel
theorem d55_18 : decode method_4_code 18 = .ok (.aload_n 0, 1) := by decide +kernel
theorem d55_19 : decode method_4_code 19 = .ok (.iload_n 3, 1) := by decide +kernel
theorem d55_20 : decode method_4_code 20 = .ok (.iload_n 2, 1) := by decide +kernel
theorem d55_21 : decode method_4_code 21 = .ok (.castore, 1) := by decide +kernel
theorem d55_22 : decode method_4_code 22 = .ok (.iload_n 3, 1) := by decide +kernel
theorem d55_23 : decode method_4_code 23 = .ok (.iconst 1, 1) := by decide +kernel
theorem d55_24 : decode method_4_code 24 = .ok (.iadd, 1) := by decide +kernel
theorem d55_25 : decode method_4_code 25 = .ok (.ireturn, 1) := by decide +kernel
theorem d56_0 : decode method_5_code 0 = .ok (.iload_n 3, 1) := by decide +kernel
theorem d56_1 : decode method_5_code 1 = .ok (.iload_n 2, 1) := by decide +kernel
theorem d56_2 : decode method_5_code 2 = .ok (.if_icmp .ge 14, 3) := by decide +kernel
theorem d56_5 : decode method_5_code 5 = .ok (.aload_n 0, 1) := by decide +kernel
theorem d56_6 : decode method_5_code 6 = .ok (.iload_n 3, 1) := by decide +kernel
theorem d56_7 : decode method_5_code 7 = .ok (.invokevirtual 37, 3) := by decide +kernel
theorem d56_10 : decode method_5_code 10 = .ok (.aload_n 1, 1) := by decide +kernel
theorem d56_11 : decode method_5_code 11 = .ok (.iload_n 3, 1) := by decide +kernel
theorem d56_12 : decode method_5_code 12 = .ok (.caload, 1) := by decide +kernel
theorem d56_13 : decode method_5_code 13 = .ok (.if_icmp .ne 7, 3) := by decide +kernel
theorem d56_16 : decode method_5_code 16 = .ok (.iconst 1, 1) := by decide +kernel
theorem d56_17 : decode method_5_code 17 = .ok (.goto 4, 3) := by decide +kernel
theorem d56_21 : decode method_5_code 21 = .ok (.ireturn, 1) := by decide +kernel
def NewQ (Z : State) (h : Heap) (a : Addr) (cs : List Int32) (v : Option Value) (h' : Heap) (L : List Loc) : Prop := v = none ∧ Fr Z.heap.size L ∧ Keep h h' [a] ∧ Str Z h' a cs
theorem bk_new {p : Program} {l : Launch} {e : Env} {R : Room} {s : State} {args : Array Value} {below : List Frame} {Z : State} {a0 : Array Value} {G1 : Int32} {vm0 : Vm} {h : Heap} {a b : Addr} {cs : List Int32} {kC : ClassId} {N : Int32} {d : Value} {Wd n : Nat} (X : Ctx Z a0 G1) (hZ : Z.Warmed39 (s.setVm vm0).vm) (hE : Ext Z.heap h) (ga : Z.heap.size ≤ a) (A : Exa Z h a "java/lang/String") (FV : Fld Z h a "java/lang/String" "value" "[B" .null) (FC : Fld Z h a "java/lang/String" "coder" "B" (.int (0 : Int32))) (V : Arv Z h b kC .char N (cs.map Value.int) d)
    (hn : cs.length = n) (hN : N = Int32.ofNat n) (l0 : 0 < n) (l2 : n ≤ 4000) (hp : ∀ c ∈ cs, Sm c) (hfr : 4 ≤ R.frames) (hlo : Wd + 65 ≤ R.locals) :
    Back l R p e below (s.setVm vm0) args (⟨"java/lang/String", "<init>", "([C)V"⟩ : MethodName) 3 Wd (fun P a' => a' = #[.ref a, .ref b] ∧ P.U.heap = h ∧ P.cells + 1 ≤ R.cells ∧ P.slots + n ≤ R.slots)
      (fun P _ v B => ∃ L, NewQ Z h a cs v B.U.heap L ∧ B.locs = P.locs ++ L ∧ B.cells = P.cells + 1 ∧ B.slots = P.slots + n) := by
  refine Back.mono (StrChars.Road.backV hZ (fun d hd => X.1 d ((by decide +kernel : ∀ d ∈ StrChars.Road.words, d ∈ tables_1) d hd)) (kI := 4) (X.w 3 rfl) (bs := cs.map (fun c => c.toInt8.toInt32)) (n0 := Z.heap.size) ga hE.1 A FV FC V (X.2.1.ext hE) X.2.2.1 hn hN l0 l2 hp rfl hfr hlo) (fun P a hp => hp) (fun P a v B hp' hq => ?_)
  obtain ⟨L, ⟨q1, q2, q3, q4, q5, t, kb, -, -, -, q6, q7⟩, r⟩ := hq
  subst hn hN
  exact ⟨L, ⟨q1, q2, q3, t, kb, q4, q6, q5, by rw [List.map_map] at q7; exact q7, hp, l2⟩, r⟩

theorem de2_0 : decode jdk_42_method_149_code 0 = .ok (.aload_n 0, 1) := by decide +kernel
theorem de2_1 : decode jdk_42_method_149_code 1 = .ok (.invokespecial 1, 3) := by decide +kernel
theorem de2_4 : decode jdk_42_method_149_code 4 = .ok (.iload_n 3, 1) := by decide +kernel
theorem de2_5 : decode jdk_42_method_149_code 5 = .ok (.ifCond .ne 22, 3) := by decide +kernel
theorem de2_8 : decode jdk_42_method_149_code 8 = .ok (.aload_n 0, 1) := by decide +kernel
theorem de2_9 : decode jdk_42_method_149_code 9 = .ok (.ldc 7, 2) := by decide +kernel
theorem de2_11 : decode jdk_42_method_149_code 11 = .ok (.getfield 9, 3) := by decide +kernel
theorem de2_14 : decode jdk_42_method_149_code 14 = .ok (.putfield 9, 3) := by decide +kernel
theorem de2_17 : decode jdk_42_method_149_code 17 = .ok (.aload_n 0, 1) := by decide +kernel
theorem de2_18 : decode jdk_42_method_149_code 18 = .ok (.ldc 7, 2) := by decide +kernel
theorem de2_20 : decode jdk_42_method_149_code 20 = .ok (.getfield 15, 3) := by decide +kernel
theorem de2_23 : decode jdk_42_method_149_code 23 = .ok (.putfield 15, 3) := by decide +kernel
theorem de2_26 : decode jdk_42_method_149_code 26 = .ok (.return_, 1) := by decide +kernel
theorem efe2 (m : MethodId) (x0 x1 : Addr) : entryFrame m #[(.ref x0), (.ref x1), (.int (0 : Int32)), (.int (0 : Int32)), .null] 6 = mkF m 0 #[.val (.ref x0), .val (.ref x1), .val (.int (0 : Int32)), .val (.int (0 : Int32)), .val .null, .unset] [] := by first | (simp [entryFrame, mkF, argsToLocals, Value.category]; done) | rfl
set_option maxRecDepth 65536 in
set_option maxHeartbeats 40000000 in
theorem c_e2 {l : Launch} {Z : State} {a0 : Array Value} {G1 : Int32} (X : Ctx Z a0 G1) (a b : Addr) (h0 : Heap) (hE : Ext Z.heap h0) (ga : Z.heap.size ≤ a) (A : Exa Z h0 a "java/lang/String") (FV : Fld Z h0 a "java/lang/String" "value" "[B" .null) (FC : Fld Z h0 a "java/lang/String" "coder" "B" (.int (0 : Int32))) :
    Con l Z consts_1 (⟨"java/lang/String", "<init>", "([CIILjava/lang/Void;)V"⟩ : MethodName) jdk_42_method_149_code 6 none [] ({ frames := 1, cells := 4, slots := 8, locals := 12 } : Room) #[(.ref a), (.ref b), (.int (0 : Int32)), (.int (0 : Int32)), .null] h0 (fun v h => v = none ∧ Keep h0 h [a] ∧ Str Z h a []) := by
  refine Con.intro (plainFor_of_name pn_0) hE X.el ?_
  intro p e s m below meth c T W
  refine Go.cast (efe2 m a b) ?_
  refine Go.step (fun _ k => XS.aloadN W.here W.hx rfl (W.d de2_0) rfl rfl k) ?_
  show Go _ _ _ _ _ _ _ _ _ _ (mkF m 1 #[.val (.ref a), .val (.ref b), .val (.int (0 : Int32)), .val (.int (0 : Int32)), .val .null, .unset] [(.ref a)])
  refine W.initO (X.w 12 rfl) (X.w 13 rfl) (X.w 14 rfl) rfl de2_1 (by decide) (Wd := 0) (Nat.le_of_eq rfl) (by decide) ?_
  intro T W
  show Go _ _ _ _ _ _ _ _ _ _ (mkF m 4 #[.val (.ref a), .val (.ref b), .val (.int (0 : Int32)), .val (.int (0 : Int32)), .val .null, .unset] [])
  refine Go.step (fun _ k => XS.iloadN W.here W.hx rfl (W.d de2_4) rfl k) ?_
  show Go _ _ _ _ _ _ _ _ _ _ (mkF m 5 #[.val (.ref a), .val (.ref b), .val (.int (0 : Int32)), .val (.int (0 : Int32)), .val .null, .unset] [(.int (0 : Int32))])
  refine Go.step (fun _ k => XS.ifNo W.here W.hx rfl (W.d de2_5) rfl ((if0 _ _).trans (teq (rfl : (0 : Int32) = 0)).2) k) ?_
  show Go _ _ _ _ _ _ _ _ _ _ (mkF m 8 #[.val (.ref a), .val (.ref b), .val (.int (0 : Int32)), .val (.int (0 : Int32)), .val .null, .unset] [])
  refine Go.step (fun _ k => XS.aloadN W.here W.hx rfl (W.d de2_8) rfl rfl k) ?_
  show Go _ _ _ _ _ _ _ _ _ _ (mkF m 9 #[.val (.ref a), .val (.ref b), .val (.int (0 : Int32)), .val (.int (0 : Int32)), .val .null, .unset] [(.ref a)])
  refine W.ldcR (X.w 171 rfl) X.ws (List.mem_of_getElem? (i := 0) rfl) (vs := []) (z := 0) ⟨by decide +kernel, by decide +kernel⟩ (by decide) rfl de2_9 (n := 0) (by decide) (by decide) (by decide) (by decide) ?_
  intro T h1 vm1 a1 b1 k1 W E1 C1 A1 A2 A3 A4 N1
  show Go _ _ _ _ _ _ _ _ _ _ (mkF m 11 #[.val (.ref a), .val (.ref b), .val (.int (0 : Int32)), .val (.int (0 : Int32)), .val .null, .unset] [(.ref a1), (.ref a)])
  refine W.getF (host := "") (Or.inl (X.w 29 rfl)) Via.refl A3 de2_11 ?_
  intro T W
  show Go _ _ _ _ _ _ _ _ _ _ (mkF m 14 #[.val (.ref a), .val (.ref b), .val (.int (0 : Int32)), .val (.int (0 : Int32)), .val .null, .unset] [(.ref b1), (.ref a)])
  have B1 := A.ext E1
  have V1 := FV.ext E1
  have Cd1 := FC.ext E1
  have S1 : Safe Z consts_1 vm1 h1 a := Safe.blank W.hZ.alike B1 V1
  have H1 := W.chr.1
  refine W.putF (host := "") (Or.inl (X.w 29 rfl)) Via.refl V1 B1 (Or.inr ⟨(X.w 30 rfl), rfl, rfl⟩) (X.w 3 rfl) (ty := .array .byte) (by decide) rfl rfl ga S1 de2_14 ?_
  intro T h2 W Wr1 V2
  show Go _ _ _ _ _ _ _ _ _ _ (mkF m 17 #[.val (.ref a), .val (.ref b), .val (.int (0 : Int32)), .val (.int (0 : Int32)), .val .null, .unset] [])
  have S2 := Safe.wr Wr1 S1 H1 S1
  have ne1 : a ≠ b1 := Exa.neArv B1 A4 (X.w 3 rfl)
  have B2 := B1.wr Wr1
  have Cd2 := Cd1.other Wr1 (Or.inr (slot_ne (Or.inr (X.w 28 rfl)) (Or.inr (X.w 30 rfl)) (by decide) (t := .byte) (t' := .array .byte) (by decide) (by decide)))
  have Av2 := A4.other Wr1 (Ne.symm ne1)
  refine Go.step (fun _ k => XS.aloadN W.here W.hx rfl (W.d de2_17) rfl rfl k) ?_
  show Go _ _ _ _ _ _ _ _ _ _ (mkF m 18 #[.val (.ref a), .val (.ref b), .val (.int (0 : Int32)), .val (.int (0 : Int32)), .val .null, .unset] [(.ref a)])
  refine W.ldcR (X.w 171 rfl) X.ws (List.mem_of_getElem? (i := 0) rfl) (vs := []) (z := 0) ⟨by decide +kernel, by decide +kernel⟩ (by decide) rfl de2_18 (n := 0) (by decide) (by decide) (by decide) (by decide) ?_
  intro T h3 vm2 a2 b2 k2 W E2 C2 D1 D2 D3 D4 N2
  show Go _ _ _ _ _ _ _ _ _ _ (mkF m 20 #[.val (.ref a), .val (.ref b), .val (.int (0 : Int32)), .val (.int (0 : Int32)), .val .null, .unset] [(.ref a2), (.ref a)])
  have S3 := C2.safe B2.lt S2
  have B3 := B2.ext E2
  have V3 := V2.ext E2
  have Cd3 := Cd2.ext E2
  have Av3 := Av2.ext E2
  refine W.getF (host := "") (Or.inl (X.w 27 rfl)) Via.refl D2 de2_20 ?_
  intro T W
  show Go _ _ _ _ _ _ _ _ _ _ (mkF m 23 #[.val (.ref a), .val (.ref b), .val (.int (0 : Int32)), .val (.int (0 : Int32)), .val .null, .unset] [(.int (0 : Int32)), (.ref a)])
  refine W.putF (host := "") (Or.inl (X.w 27 rfl)) Via.refl Cd3 B3 (Or.inr ⟨(X.w 28 rfl), rfl, rfl⟩) (X.w 3 rfl) (ty := .byte) (by decide) rfl rfl ga S3 de2_23 ?_
  intro T h4 W Wr2 Cd4
  show Go _ _ _ _ _ _ _ _ _ _ (mkF m 26 #[.val (.ref a), .val (.ref b), .val (.int (0 : Int32)), .val (.int (0 : Int32)), .val .null, .unset] [])
  have V4 := V3.other Wr2 (Or.inr (slot_ne (Or.inr (X.w 30 rfl)) (Or.inr (X.w 28 rfl)) (by decide) (t := .array .byte) (t' := .byte) (by decide) (by decide)))
  refine W.retV de2_26 ⟨rfl, ?_, b1, k1, B3.wr Wr2, V4, Cd4, Av3.other Wr2 (Ne.symm ne1), sm0, Nat.zero_le _⟩ (by decide) (by decide)
  exact ((((Keep.refl h0 [a]).ext E1).wr Wr1 (Or.inl (by simp))).ext E2).wr Wr2 (Or.inl (by simp))
theorem efe1 (m : MethodId) (x0 : Addr) (x1 : Addr) : entryFrame m #[(.ref x0), (.ref x1)] 2 = mkF m 0 #[.val (.ref x0), .val (.ref x1)] [] := by first | (simp [entryFrame, mkF, argsToLocals, Value.category]; done) | rfl
set_option maxRecDepth 65536 in
set_option maxHeartbeats 40000000 in
theorem c_e1 {l : Launch} {Z : State} {a0 : Array Value} {G1 : Int32} (X : Ctx Z a0 G1) (a b : Addr) (kb : ClassId) (vs : List Value) (dv : Value) (h0 : Heap) (hE : Ext Z.heap h0) (ga : Z.heap.size ≤ a) (A : Exa Z h0 a "java/lang/String") (FV : Fld Z h0 a "java/lang/String" "value" "[B" .null) (FC : Fld Z h0 a "java/lang/String" "coder" "B" (.int (0 : Int32))) (V : Arv Z h0 b kb .char (0 : Int32) vs dv) :
    Con l Z consts_1 (⟨"java/lang/String", "<init>", "([C)V"⟩ : MethodName) jdk_42_method_3_code 2 none [] ({ frames := 2, cells := 4, slots := 8, locals := 29 } : Room) #[(.ref a), (.ref b)] h0 (fun v h => v = none ∧ Keep h0 h [a] ∧ Str Z h a []) := by
  refine Con.intro (plainFor_of_name pn_0) hE X.el ?_
  intro p e s m below meth c T W
  have hsz := W.size
  refine Go.cast (efe1 m a b) ?_
  refine W.an d0_0 rfl rfl ?_
  refine W.an d0_1 rfl rfl ?_
  refine W.ic d0_2 0 rfl ?_
  refine W.an d0_3 rfl rfl ?_
  refine W.arraylength V d0_4 ?_
  refine Go.step (fun _ kz => XS.aconstNull W.here W.hx rfl (W.d d0_5) kz) ?_
  show Go (g := mkF m 6 #[rv a, rv b] [.null, (.int 0), (.int 0), (.ref b), (.ref a)]) ..
  refine W.special rfl (X.w 8 rfl) (X.w 9 rfl) (X.w 4 rfl) (X.w 11 rfl) (by decide) (c_e2 X a b _ W.ext ga A FV FC) (by decide) (Wd := 0) (by decide) a [(.ref b), (.int (0 : Int32)), (.int (0 : Int32)), .null] [] rfl pd_0 rfl rfl rfl (Nat.le_of_eq rfl) d0_6 (by decide) (by decide) ?_
  intro v T h vm W hQ C
  obtain ⟨rfl, hK, hS⟩ := hQ
  show Go (g := mkF m 9 #[rv a, rv b] []) ..
  exact W.retV d0_9 (⟨rfl, hK, hS⟩) (by decide) (by decide)

/-- the statics that StringUTF16 and Preconditions are read by -/
def U16 (Z : State) (sv : Value) : Prop := Sta Z Z.heap "java/lang/StringUTF16" "$assertionsDisabled" "Z" (.int (1 : Int32)) ∧ Sta Z Z.heap "java/lang/StringUTF16" "HI_BYTE_SHIFT" "I" (.int (0 : Int32)) ∧ Sta Z Z.heap "java/lang/StringUTF16" "LO_BYTE_SHIFT" "I" (.int (8 : Int32)) ∧ Sta Z Z.heap "jdk/internal/util/Preconditions" "SIOOBE_FORMATTER" "Ljava/util/function/BiFunction;" sv ∧ sv.isRef = true
theorem Ctx.sb {Z : State} {a0 : Array Value} {G1 z : Int32} (X : Ctx Z a0 G1) (hz : 0 ≠ z.toNatClampNeg) : ∀ p ∈ consts_1, ∃ text : String, (Cond.stringLink p.1 p.2 text).before a0 Z = true ∧ (∀ c ∈ text.toList, c.toNat < 256) ∧ text.toList.length ≠ z.toNatClampNeg := fun p hp => by
  simp only [consts_1, List.mem_cons, List.not_mem_nil, or_false] at hp
  subst hp
  exact ⟨"", X.w 171 rfl, fun c hc => by simp at hc, by simpa using hz⟩
theorem pair_eb {c : Int32} (h : Ch c) : ((((eb0 c &&& (255 : Int32)) <<< ((0 : Int32) &&& 31)) ||| ((eb1 c &&& (255 : Int32)) <<< ((8 : Int32) &&& 31))).toUInt32.toUInt16.toUInt32.toInt32) = c := by
  have q := StrChars.pair_says h.1 h.2
  have e : eb0 c = StrChars.lo8 c := by rw [eb0, shr0]; rfl
  rw [e]; exact q
theorem chr_sm0 {c : Int32} (h : Sm c) : c.toUInt32.toUInt16.toUInt32.toInt32 = c := fin256 (P := fun c => c.toUInt32.toUInt16.toUInt32.toInt32 = c) (by decide +kernel) h.1 h.2
theorem N_big {a : Nat} (ha : a ≤ 8000) : N a < (1073741823 : Int32) := by rw [Int32.lt_iff_toInt_lt, N_int ha]; show (a : Int) < 1073741823; omega
theorem getD_all {P : Int32 → Prop} {L : List Int32} (h : ∀ c ∈ L, P c) {j : Nat} (hj : j < L.length) : P (L.getD j 0) := by
  rw [List.getD_eq_getElem?_getD, List.getElem?_eq_getElem hj]; exact h _ (List.getElem_mem hj)
theorem N_pos {a : Nat} (ha : a ≤ 8000) (h : 0 < a) : (0 : Int32) < N a := by rw [Int32.lt_iff_toInt_lt, N_int ha]; show (0 : Int) < a; omega
theorem N_top {a : Nat} (ha : a ≤ 8000) : ¬ (2147483639 : Int32) < N a := by rw [Int32.lt_iff_toInt_lt, N_int ha]; show ¬ ((2147483639 : Int) < a); omega
theorem nar_ch {c : Int32} (h : Ch c) : nar .char c = c := by
  have q : Value.int (nar .char c) = .int c := StrChars.narrow_ch h.1 h.2
  exact Value.int.inj q

theorem efpci (m : MethodId) (x0 : Int32) (x1 : Int32) (x2 : Value) (r2 : x2.isRef = true) : entryFrame m #[(.int x0), (.int x1), x2] 3 = mkF m 0 #[.val (.int x0), .val (.int x1), .val x2] [] := by cases x2 <;> first | (cases r2; done) | first | (simp [entryFrame, mkF, argsToLocals, Value.category]; done) | rfl
set_option maxRecDepth 65536 in
set_option maxHeartbeats 40000000 in
theorem c_pci {l : Launch} {Z : State} {a0 : Array Value} {G1 : Int32} (X : Ctx Z a0 G1) (ix zn : Int32) (sv : Value) (h0 : Heap) (hE : Ext Z.heap h0) (rsv : sv.isRef = true) (q0 : ¬ ix < 0) (q1 : ix < zn) :
    Con l Z consts_1 (⟨"jdk/internal/util/Preconditions", "checkIndex", "(IILjava/util/function/BiFunction;)I"⟩ : MethodName) jdk_41_method_11_code 3 (some .int) [] ({ frames := 0, cells := 0, slots := 0, locals := 0 } : Room) #[(.int ix), (.int zn), sv] h0 (fun v h => v = some (.int ix) ∧ h0 = h) := by
  refine Con.intro (plainFor_of_name pn_1) hE X.el ?_
  intro p e s m below meth c T W
  have hsz := W.size
  refine Go.cast (efpci m ix zn sv rsv) ?_
  refine W.iN d1_0 rfl ?_
  refine W.fn d1_1 ((if0 _ _).trans (flt q0).1) ?_
  refine W.iN d1_4 rfl ?_
  refine W.iN d1_5 rfl ?_
  refine W.cy (pc' := 16) d1_6 (tlt q1).1 (by decide) (by decide) ?_
  refine W.iN d1_16 rfl ?_
  exact W.retI d1_17 (⟨rfl, rfl⟩) (by decide) (by decide)

theorem efsci (m : MethodId) (x0 : Int32) (x1 : Int32) : entryFrame m #[(.int x0), (.int x1)] 2 = mkF m 0 #[.val (.int x0), .val (.int x1)] [] := by first | (simp [entryFrame, mkF, argsToLocals, Value.category]; done) | rfl
set_option maxRecDepth 65536 in
set_option maxHeartbeats 40000000 in
theorem c_sci {l : Launch} {Z : State} {a0 : Array Value} {G1 : Int32} (X : Ctx Z a0 G1) (ix zn : Int32) (sv : Value) (h0 : Heap) (hE : Ext Z.heap h0) (Y : U16 Z sv) (q0 : ¬ ix < 0) (q1 : ix < zn) :
    Con l Z consts_1 (⟨"java/lang/String", "checkIndex", "(II)V"⟩ : MethodName) jdk_42_method_155_code 2 none [] ({ frames := 1, cells := 0, slots := 0, locals := 14 } : Room) #[(.int ix), (.int zn)] h0 (fun v h => v = none ∧ h0 = h) := by
  refine Con.intro (plainFor_of_name pn_0) hE X.el ?_
  intro p e s m below meth c T W
  have hsz := W.size
  refine Go.cast (efsci m ix zn) ?_
  refine W.iN d2_0 rfl ?_
  refine W.iN d2_1 rfl ?_
  refine W.getS (host := "") (Or.inl (X.w 166 rfl)) Via.refl Y.2.2.2.1 d2_2 ?_
  intro T W
  refine W.callS (X.w 168 rfl) (X.w 169 rfl) (X.w 167 rfl) (X.w 170 rfl) (by decide) (c_pci X ix zn sv _ W.ext Y.2.2.2.2 q0 q1) (by decide) (Wd := 0) (by decide) [(.int ix), (.int zn), sv] [] rfl pd_1 rfl rfl rfl (Nat.le_of_eq rfl) d2_5 (by decide) (by decide) ?_
  intro v T h vm W hQ C
  obtain ⟨rfl, rfl⟩ := hQ
  show Go (g := mkF m 8 #[iv ix, iv zn] [(.int ix)]) ..
  refine W.pp d2_8 rfl ?_
  exact W.retV d2_9 (⟨rfl, rfl⟩) (by decide) (by decide)

theorem efule (m : MethodId) (x0 : Addr) : entryFrame m #[(.ref x0)] 1 = mkF m 0 #[.val (.ref x0)] [] := by first | (simp [entryFrame, mkF, argsToLocals, Value.category]; done) | rfl
set_option maxRecDepth 65536 in
set_option maxHeartbeats 40000000 in
theorem c_ule {l : Launch} {Z : State} {a0 : Array Value} {G1 : Int32} (X : Ctx Z a0 G1) (t : Addr) (kt : ClassId) (k : Nat) (vs : List Value) (h0 : Heap) (hE : Ext Z.heap h0) (V : Arv Z h0 t kt .byte (N (2 * k)) vs (.int (0 : Int32))) (hk : k ≤ 4000) :
    Con l Z consts_1 (⟨"java/lang/StringUTF16", "length", "([B)I"⟩ : MethodName) jdk_52_method_6_code 1 (some .int) [] ({ frames := 0, cells := 0, slots := 0, locals := 0 } : Room) #[(.ref t)] h0 (fun v h => v = some (.int (N k)) ∧ h0 = h) := by
  refine Con.intro (plainFor_of_name pn_2) hE X.el ?_
  intro p e s m below meth c T W
  have hsz := W.size
  refine Go.cast (efule m t) ?_
  refine W.an d3_0 rfl rfl ?_
  refine W.arraylength V d3_1 ?_
  refine W.ic d3_2 1 rfl ?_
  refine Go.step (fun _ kz => XS.ishr W.here W.hx rfl (W.d d3_3) rfl kz) ?_
  show Go (g := mkF m 4 #[rv t] [(.int ((N (2 * k)) >>> ((1 : Int32) &&& 31)))]) ..
  exact W.retI d3_4 (⟨by rw [N_shr1 (by omega)], rfl⟩) (by decide) (by decide)

theorem efuci (m : MethodId) (x0 : Int32) (x1 : Addr) : entryFrame m #[(.int x0), (.ref x1)] 2 = mkF m 0 #[.val (.int x0), .val (.ref x1)] [] := by first | (simp [entryFrame, mkF, argsToLocals, Value.category]; done) | rfl
set_option maxRecDepth 65536 in
set_option maxHeartbeats 40000000 in
theorem c_uci {l : Launch} {Z : State} {a0 : Array Value} {G1 : Int32} (X : Ctx Z a0 G1) (j k : Nat) (t : Addr) (kt : ClassId) (vs : List Value) (sv : Value) (h0 : Heap) (hE : Ext Z.heap h0) (Y : U16 Z sv) (V : Arv Z h0 t kt .byte (N (2 * k)) vs (.int (0 : Int32))) (hk : k ≤ 4000) (hj : j < k) :
    Con l Z consts_1 (⟨"java/lang/StringUTF16", "checkIndex", "(I[B)V"⟩ : MethodName) jdk_52_method_91_code 2 none [] ({ frames := 2, cells := 0, slots := 0, locals := 27 } : Room) #[(.int (N j)), (.ref t)] h0 (fun v h => v = none ∧ h0 = h) := by
  refine Con.intro (plainFor_of_name pn_2) hE X.el ?_
  intro p e s m below meth c T W
  have hsz := W.size
  refine Go.cast (efuci m (N j) t) ?_
  refine W.iN d4_0 rfl ?_
  refine W.an d4_1 rfl rfl ?_
  refine W.callS (X.w 202 rfl) (X.w 203 rfl) (X.w 18 rfl) (X.w 204 rfl) (by decide) (c_ule X t _ k _ _ W.ext V (by omega)) (by decide) (Wd := 1) (by decide) [(.ref t)] [(.int (N j))] rfl pd_2 rfl rfl rfl (Nat.le_of_eq rfl) d4_2 (by decide) (by decide) ?_
  intro v T h vm W hQ C
  obtain ⟨rfl, rfl⟩ := hQ
  show Go (g := mkF m 5 #[iv (N j), rv t] [(.int (N k)), (.int (N j))]) ..
  refine W.callS (X.w 229 rfl) (X.w 164 rfl) (X.w 4 rfl) (X.w 165 rfl) (by decide) (c_sci X (N j) (N k) sv _ W.ext Y (N_nn (by omega)) ((N_lt (by omega) (by omega)).mpr hj)) (by decide) (Wd := 0) (by decide) [(.int (N j)), (.int (N k))] [] rfl pd_3 rfl rfl rfl (Nat.le_of_eq rfl) d4_5 (by decide) (by decide) ?_
  intro v T h vm W hQ C
  obtain ⟨rfl, rfl⟩ := hQ
  show Go (g := mkF m 8 #[iv (N j), rv t] []) ..
  exact W.retV d4_8 (⟨rfl, rfl⟩) (by decide) (by decide)

theorem efpuc (m : MethodId) (x0 : Addr) (x1 : Int32) (x2 : Int32) : entryFrame m #[(.ref x0), (.int x1), (.int x2)] 3 = mkF m 0 #[.val (.ref x0), .val (.int x1), .val (.int x2)] [] := by first | (simp [entryFrame, mkF, argsToLocals, Value.category]; done) | rfl
set_option maxRecDepth 65536 in
set_option maxHeartbeats 40000000 in
theorem c_puc {l : Launch} {Z : State} {a0 : Array Value} {G1 : Int32} (X : Ctx Z a0 G1) (t : Addr) (kt : ClassId) (j k : Nat) (c0 : Int32) (vs : List Value) (sv : Value) (h0 : Heap) (hE : Ext Z.heap h0) (Y : U16 Z sv) (gt : Z.heap.size ≤ t) (V : Arv Z h0 t kt .byte (N (2 * k)) vs (.int (0 : Int32))) (hk : k ≤ 4000) (hj : j < k) (hl : 2 * j + 1 < vs.length) :
    Con l Z consts_1 (⟨"java/lang/StringUTF16", "putChar", "([BII)V"⟩ : MethodName) jdk_52_method_4_code 3 none [] ({ frames := 0, cells := 0, slots := 0, locals := 0 } : Room) #[(.ref t), (.int (N j)), (.int c0)] h0 (fun v h => v = none ∧ Keep h0 h [t] ∧ Arv Z h t kt .byte (N (2 * k)) (((vs.set (2 * j) (.int (eb0 c0))).set (2 * j + 1) (.int (eb1 c0)))) (.int (0 : Int32))) := by
  refine Con.intro (plainFor_of_name pn_2) hE X.el ?_
  intro p e s m below meth c T W
  have hsz := W.size
  refine Go.cast (efpuc m t (N j) c0) ?_
  have KP := Keep.refl h0 [t]
  have hz : 0 ≠ (N (2 * k)).toNatClampNeg := by rw [N_nat (by omega)]; omega
  refine W.getS (host := "") (Or.inl (X.w 187 rfl)) Via.refl Y.1 d5_0 ?_
  intro T W
  refine W.fy (pc' := 28) d5_3 ((if0 _ _).trans (feq (by decide : ¬ ((1 : Int32) = (0 : Int32)))).2) (by decide) (by decide) ?_
  refine W.iN d5_28 rfl ?_
  refine W.ic d5_29 1 rfl ?_
  refine Go.step (fun _ kz => XS.ishl W.here W.hx rfl (W.d d5_30) rfl kz) ?_
  show Go (g := mkF m 31 #[rv t, iv (N j), iv c0] [(.int ((N j) <<< ((1 : Int32) &&& 31)))]) ..
  rw [N_shl1]
  show Go (g := mkF m 31 #[rv t, iv (N j), iv c0] [(.int (N (2 * j)))]) ..
  refine W.isn (Ls' := #[rv t, iv (N (2 * j)), iv c0]) d5_31 rfl ?_
  refine W.an d5_32 rfl rfl ?_
  refine W.iN d5_33 rfl ?_
  refine W.ii (Ls' := #[rv t, iv ((N (2 * j)) + (1 : Int32)), iv c0]) d5_34 rfl rfl ?_
  rw [N_add1]
  show Go (g := mkF m 37 #[rv t, iv (N (2 * j + 1)), iv c0] [(.int (N (2 * j))), (.ref t)]) ..
  refine W.iN d5_37 rfl ?_
  refine W.getS (host := "") (Or.inl (X.w 188 rfl)) Via.refl Y.2.1 d5_38 ?_
  intro T W
  refine Go.step (fun _ kz => XS.ishr W.here W.hx rfl (W.d d5_41) rfl kz) ?_
  show Go (g := mkF m 42 #[rv t, iv (N (2 * j + 1)), iv c0] [(.int (c0 >>> ((0 : Int32) &&& 31))), (.int (N (2 * j))), (.ref t)]) ..
  refine Go.step (fun _ kz => XS.i2b W.here W.hx rfl (W.d d5_42) rfl kz) ?_
  show Go (g := mkF m 43 #[rv t, iv (N (2 * j + 1)), iv c0] [(.int ((c0 >>> ((0 : Int32) &&& 31)).toInt8.toInt32)), (.int (N (2 * j))), (.ref t)]) ..
  refine W.bastore V (2 * j) (N_nat (by omega)) (by omega) ⟨N_nn (by omega), (N_lt (by omega) (by omega)).mpr (by omega)⟩ gt (Safe.byt W.hZ (X.sb hz) V) d5_43 ?_
  intro T h W K_ V'
  replace KP := KP.otrM K_ (by simp)
  replace hsz := W.size
  replace V := V'
  rw [nar_i8] at V
  show Go (g := mkF m 44 #[rv t, iv (N (2 * j + 1)), iv c0] []) ..
  refine W.an d5_44 rfl rfl ?_
  refine W.iN d5_45 rfl ?_
  refine W.iN d5_46 rfl ?_
  refine W.getS (host := "") (Or.inl (X.w 189 rfl)) Via.refl Y.2.2.1 d5_47 ?_
  intro T W
  refine Go.step (fun _ kz => XS.ishr W.here W.hx rfl (W.d d5_50) rfl kz) ?_
  show Go (g := mkF m 51 #[rv t, iv (N (2 * j + 1)), iv c0] [(.int (c0 >>> ((8 : Int32) &&& 31))), (.int (N (2 * j + 1))), (.ref t)]) ..
  refine Go.step (fun _ kz => XS.i2b W.here W.hx rfl (W.d d5_51) rfl kz) ?_
  show Go (g := mkF m 52 #[rv t, iv (N (2 * j + 1)), iv c0] [(.int ((c0 >>> ((8 : Int32) &&& 31)).toInt8.toInt32)), (.int (N (2 * j + 1))), (.ref t)]) ..
  refine W.bastore V (2 * j + 1) (N_nat (by omega)) (by simp; omega) ⟨N_nn (by omega), (N_lt (by omega) (by omega)).mpr (by omega)⟩ gt (Safe.byt W.hZ (X.sb hz) V) d5_52 ?_
  intro T h W K_ V'
  replace KP := KP.otrM K_ (by simp)
  replace hsz := W.size
  replace V := V'
  rw [nar_i8] at V
  show Go (g := mkF m 53 #[rv t, iv (N (2 * j + 1)), iv c0] []) ..
  exact W.retV d5_53 (⟨rfl, KP, V⟩) (by decide) (by decide)

theorem efgec (m : MethodId) (x0 : Addr) (x1 : Int32) : entryFrame m #[(.ref x0), (.int x1)] 2 = mkF m 0 #[.val (.ref x0), .val (.int x1)] [] := by first | (simp [entryFrame, mkF, argsToLocals, Value.category]; done) | rfl
set_option maxRecDepth 65536 in
set_option maxHeartbeats 40000000 in
theorem c_gec {l : Launch} {Z : State} {a0 : Array Value} {G1 : Int32} (X : Ctx Z a0 G1) (t : Addr) (kt : ClassId) (j k : Nat) (c0 : Int32) (vs : List Value) (sv : Value) (h0 : Heap) (hE : Ext Z.heap h0) (Y : U16 Z sv) (V : Arv Z h0 t kt .byte (N (2 * k)) vs (.int (0 : Int32))) (hk : k ≤ 4000) (hj : j < k) (tc : Ch c0) (e0 : vs.getD (2 * j) (.int (0 : Int32)) = .int (eb0 c0)) (e1 : vs.getD (2 * j + 1) (.int (0 : Int32)) = .int (eb1 c0)) :
    Con l Z consts_1 (⟨"java/lang/StringUTF16", "getChar", "([BI)C"⟩ : MethodName) jdk_52_method_5_code 2 (some .char) [] ({ frames := 0, cells := 0, slots := 0, locals := 0 } : Room) #[(.ref t), (.int (N j))] h0 (fun v h => v = some (.int c0) ∧ h0 = h) := by
  refine Con.intro (plainFor_of_name pn_2) hE X.el ?_
  intro p e s m below meth c T W
  have hsz := W.size
  refine Go.cast (efgec m t (N j)) ?_
  refine W.getS (host := "") (Or.inl (X.w 187 rfl)) Via.refl Y.1 d6_0 ?_
  intro T W
  refine W.fy (pc' := 28) d6_3 ((if0 _ _).trans (feq (by decide : ¬ ((1 : Int32) = (0 : Int32)))).2) (by decide) (by decide) ?_
  refine W.iN d6_28 rfl ?_
  refine W.ic d6_29 1 rfl ?_
  refine Go.step (fun _ kz => XS.ishl W.here W.hx rfl (W.d d6_30) rfl kz) ?_
  show Go (g := mkF m 31 #[rv t, iv (N j)] [(.int ((N j) <<< ((1 : Int32) &&& 31)))]) ..
  rw [N_shl1]
  show Go (g := mkF m 31 #[rv t, iv (N j)] [(.int (N (2 * j)))]) ..
  refine W.isn (Ls' := #[rv t, iv (N (2 * j))]) d6_31 rfl ?_
  refine W.an d6_32 rfl rfl ?_
  refine W.iN d6_33 rfl ?_
  refine W.ii (Ls' := #[rv t, iv ((N (2 * j)) + (1 : Int32))]) d6_34 rfl rfl ?_
  rw [N_add1]
  show Go (g := mkF m 37 #[rv t, iv (N (2 * j + 1))] [(.int (N (2 * j))), (.ref t)]) ..
  refine W.baload (v := .int (eb0 c0)) V ⟨N_nn (by omega), (N_lt (by omega) (by omega)).mpr (by omega)⟩ (by rw [N_nat (by omega)]; exact e0) d6_37 ?_
  show Go (g := mkF m 38 #[rv t, iv (N (2 * j + 1))] [(.int (eb0 c0))]) ..
  refine W.sp d6_38 255 rfl ?_
  refine Go.step (fun _ kz => XS.iand W.here W.hx rfl (W.d d6_41) rfl kz) ?_
  show Go (g := mkF m 42 #[rv t, iv (N (2 * j + 1))] [(.int ((eb0 c0) &&& (255 : Int32)))]) ..
  refine W.getS (host := "") (Or.inl (X.w 188 rfl)) Via.refl Y.2.1 d6_42 ?_
  intro T W
  refine Go.step (fun _ kz => XS.ishl W.here W.hx rfl (W.d d6_45) rfl kz) ?_
  show Go (g := mkF m 46 #[rv t, iv (N (2 * j + 1))] [(.int (((eb0 c0) &&& (255 : Int32)) <<< ((0 : Int32) &&& 31)))]) ..
  refine W.an d6_46 rfl rfl ?_
  refine W.iN d6_47 rfl ?_
  refine W.baload (v := .int (eb1 c0)) V ⟨N_nn (by omega), (N_lt (by omega) (by omega)).mpr (by omega)⟩ (by rw [N_nat (by omega)]; exact e1) d6_48 ?_
  show Go (g := mkF m 49 #[rv t, iv (N (2 * j + 1))] [(.int (eb1 c0)), (.int (((eb0 c0) &&& (255 : Int32)) <<< ((0 : Int32) &&& 31)))]) ..
  refine W.sp d6_49 255 rfl ?_
  refine Go.step (fun _ kz => XS.iand W.here W.hx rfl (W.d d6_52) rfl kz) ?_
  show Go (g := mkF m 53 #[rv t, iv (N (2 * j + 1))] [(.int ((eb1 c0) &&& (255 : Int32))), (.int (((eb0 c0) &&& (255 : Int32)) <<< ((0 : Int32) &&& 31)))]) ..
  refine W.getS (host := "") (Or.inl (X.w 189 rfl)) Via.refl Y.2.2.1 d6_53 ?_
  intro T W
  refine Go.step (fun _ kz => XS.ishl W.here W.hx rfl (W.d d6_56) rfl kz) ?_
  show Go (g := mkF m 57 #[rv t, iv (N (2 * j + 1))] [(.int (((eb1 c0) &&& (255 : Int32)) <<< ((8 : Int32) &&& 31))), (.int (((eb0 c0) &&& (255 : Int32)) <<< ((0 : Int32) &&& 31)))]) ..
  refine Go.step (fun _ kz => XS.ior W.here W.hx rfl (W.d d6_57) rfl kz) ?_
  show Go (g := mkF m 58 #[rv t, iv (N (2 * j + 1))] [(.int ((((eb0 c0) &&& (255 : Int32)) <<< ((0 : Int32) &&& 31)) ||| (((eb1 c0) &&& (255 : Int32)) <<< ((8 : Int32) &&& 31))))]) ..
  refine Go.step (fun _ kz => XS.i2c W.here W.hx rfl (W.d d6_58) rfl kz) ?_
  show Go (g := mkF m 59 #[rv t, iv (N (2 * j + 1))] [(.int (((((eb0 c0) &&& (255 : Int32)) <<< ((0 : Int32) &&& 31)) ||| (((eb1 c0) &&& (255 : Int32)) <<< ((8 : Int32) &&& 31))).toUInt32.toUInt16.toUInt32.toInt32))]) ..
  exact W.retN (by simp) d6_59 (⟨by rw [pair_eb tc, nar_ch tc], rfl⟩) (by decide) (by decide)

theorem efuca (m : MethodId) (x0 : Addr) (x1 : Int32) : entryFrame m #[(.ref x0), (.int x1)] 2 = mkF m 0 #[.val (.ref x0), .val (.int x1)] [] := by first | (simp [entryFrame, mkF, argsToLocals, Value.category]; done) | rfl
set_option maxRecDepth 65536 in
set_option maxHeartbeats 40000000 in
theorem c_uca {l : Launch} {Z : State} {a0 : Array Value} {G1 : Int32} (X : Ctx Z a0 G1) (t : Addr) (kt : ClassId) (j k : Nat) (c0 : Int32) (vs : List Value) (sv : Value) (h0 : Heap) (hE : Ext Z.heap h0) (Y : U16 Z sv) (V : Arv Z h0 t kt .byte (N (2 * k)) vs (.int (0 : Int32))) (hk : k ≤ 4000) (hj : j < k) (tc : Ch c0) (e0 : vs.getD (2 * j) (.int (0 : Int32)) = .int (eb0 c0)) (e1 : vs.getD (2 * j + 1) (.int (0 : Int32)) = .int (eb1 c0)) :
    Con l Z consts_1 (⟨"java/lang/StringUTF16", "charAt", "([BI)C"⟩ : MethodName) jdk_52_method_83_code 2 (some .char) [] ({ frames := 3, cells := 0, slots := 0, locals := 40 } : Room) #[(.ref t), (.int (N j))] h0 (fun v h => v = some (.int c0) ∧ h0 = h) := by
  refine Con.intro (plainFor_of_name pn_2) hE X.el ?_
  intro p e s m below meth c T W
  have hsz := W.size
  refine Go.cast (efuca m t (N j)) ?_
  refine W.iN d7_0 rfl ?_
  refine W.an d7_1 rfl rfl ?_
  refine W.callS (X.w 226 rfl) (X.w 227 rfl) (X.w 18 rfl) (X.w 228 rfl) (by decide) (c_uci X j k t _ _ sv _ W.ext Y V (by omega) (by omega)) (by decide) (Wd := 0) (by decide) [(.int (N j)), (.ref t)] [] rfl pd_4 rfl rfl rfl (Nat.le_of_eq rfl) d7_2 (by decide) (by decide) ?_
  intro v T h vm W hQ C
  obtain ⟨rfl, rfl⟩ := hQ
  show Go (g := mkF m 5 #[rv t, iv (N j)] []) ..
  refine W.an d7_5 rfl rfl ?_
  refine W.iN d7_6 rfl ?_
  refine W.callS (X.w 190 rfl) (X.w 191 rfl) (X.w 18 rfl) (X.w 192 rfl) (by decide) (c_gec X t _ j k c0 _ sv _ W.ext Y V (by omega) (by omega) tc e0 e1) (by decide) (Wd := 0) (by decide) [(.ref t), (.int (N j))] [] rfl pd_5 rfl rfl rfl (Nat.le_of_eq rfl) d7_7 (by decide) (by decide) ?_
  intro v T h vm W hQ C
  obtain ⟨rfl, rfl⟩ := hQ
  show Go (g := mkF m 10 #[rv t, iv (N j)] [(.int c0)]) ..
  exact W.retN (by simp) d7_10 (⟨by rw [nar_ch tc], rfl⟩) (by decide) (by decide)

theorem eflca (m : MethodId) (x0 : Addr) (x1 : Int32) : entryFrame m #[(.ref x0), (.int x1)] 2 = mkF m 0 #[.val (.ref x0), .val (.int x1)] [] := by first | (simp [entryFrame, mkF, argsToLocals, Value.category]; done) | rfl
set_option maxRecDepth 65536 in
set_option maxHeartbeats 40000000 in
theorem c_lca {l : Launch} {Z : State} {a0 : Array Value} {G1 : Int32} (X : Ctx Z a0 G1) (t : Addr) (kt : ClassId) (j k : Nat) (c0 : Int32) (vs : List Value) (sv : Value) (h0 : Heap) (hE : Ext Z.heap h0) (Y : U16 Z sv) (V : Arv Z h0 t kt .byte (N k) vs (.int (0 : Int32))) (hk : k ≤ 4000) (hj : j < k) (tc : Sm c0) (e0 : vs.getD j (.int (0 : Int32)) = .int c0.toInt8.toInt32) :
    Con l Z consts_1 (⟨"java/lang/StringLatin1", "charAt", "([BI)C"⟩ : MethodName) jdk_43_method_2_code 2 (some .char) [] ({ frames := 2, cells := 0, slots := 0, locals := 27 } : Room) #[(.ref t), (.int (N j))] h0 (fun v h => v = some (.int c0) ∧ h0 = h) := by
  refine Con.intro (plainFor_of_name pn_3) hE X.el ?_
  intro p e s m below meth c T W
  have hsz := W.size
  refine Go.cast (eflca m t (N j)) ?_
  refine W.iN d8_0 rfl ?_
  refine W.an d8_1 rfl rfl ?_
  refine W.arraylength V d8_2 ?_
  refine W.callS (X.w 163 rfl) (X.w 164 rfl) (X.w 4 rfl) (X.w 165 rfl) (by decide) (c_sci X (N j) (N k) sv _ W.ext Y (N_nn (by omega)) ((N_lt (by omega) (by omega)).mpr hj)) (by decide) (Wd := 0) (by decide) [(.int (N j)), (.int (N k))] [] rfl pd_3 rfl rfl rfl (Nat.le_of_eq rfl) d8_3 (by decide) (by decide) ?_
  intro v T h vm W hQ C
  obtain ⟨rfl, rfl⟩ := hQ
  show Go (g := mkF m 6 #[rv t, iv (N j)] []) ..
  refine W.an d8_6 rfl rfl ?_
  refine W.iN d8_7 rfl ?_
  refine W.baload (v := .int (c0.toInt8.toInt32)) V ⟨N_nn (by omega), (N_lt (by omega) (by omega)).mpr (by omega)⟩ (by rw [N_nat (by omega)]; exact e0) d8_8 ?_
  show Go (g := mkF m 9 #[rv t, iv (N j)] [(.int c0.toInt8.toInt32)]) ..
  refine W.sp d8_9 255 rfl ?_
  refine Go.step (fun _ kz => XS.iand W.here W.hx rfl (W.d d8_12) rfl kz) ?_
  show Go (g := mkF m 13 #[rv t, iv (N j)] [(.int (c0.toInt8.toInt32 &&& (255 : Int32)))]) ..
  refine Go.step (fun _ kz => XS.i2c W.here W.hx rfl (W.d d8_13) rfl kz) ?_
  show Go (g := mkF m 14 #[rv t, iv (N j)] [(.int ((c0.toInt8.toInt32 &&& (255 : Int32)).toUInt32.toUInt16.toUInt32.toInt32))]) ..
  exact W.retN (by simp) d8_14 (⟨by rw [Jvm.Own.low_back tc, chr_sm0 tc, nar_small tc], rfl⟩) (by decide) (by decide)

theorem efcodl (m : MethodId) (x0 : Addr) : entryFrame m #[(.ref x0)] 1 = mkF m 0 #[.val (.ref x0)] [] := by first | (simp [entryFrame, mkF, argsToLocals, Value.category]; done) | rfl
set_option maxRecDepth 65536 in
set_option maxHeartbeats 40000000 in
theorem c_codl {l : Launch} {Z : State} {a0 : Array Value} {G1 : Int32} (X : Ctx Z a0 G1) (a : Addr) (h0 : Heap) (hE : Ext Z.heap h0) (FC : Fld Z h0 a "java/lang/String" "coder" "B" (.int (0 : Int32))) :
    Con l Z consts_1 (⟨"java/lang/String", "coder", "()B"⟩ : MethodName) jdk_42_method_152_code 1 (some .byte) [] ({ frames := 0, cells := 0, slots := 0, locals := 0 } : Room) #[(.ref a)] h0 (fun v h => v = some (.int (0 : Int32)) ∧ h0 = h) := by
  refine Con.intro (plainFor_of_name pn_0) hE X.el ?_
  intro p e s m below meth c T W
  have hsz := W.size
  refine Go.cast (efcodl m a) ?_
  refine W.getS (host := "") (Or.inl (X.w 15 rfl)) Via.refl X.2.1 d9_0 ?_
  intro T W
  refine W.fn d9_3 ((if0 _ _).trans (feq X.2.2.1).1) ?_
  refine W.an d9_6 rfl rfl ?_
  refine W.getF (host := "") (Or.inl (X.w 27 rfl)) Via.refl FC d9_7 ?_
  intro T W
  refine W.gt (pc' := 14) d9_10 (by decide) (by decide) ?_
  exact W.retN (by simp) d9_14 (⟨rfl, rfl⟩) (by decide) (by decide)

theorem efisll (m : MethodId) (x0 : Addr) : entryFrame m #[(.ref x0)] 1 = mkF m 0 #[.val (.ref x0)] [] := by first | (simp [entryFrame, mkF, argsToLocals, Value.category]; done) | rfl
set_option maxRecDepth 65536 in
set_option maxHeartbeats 40000000 in
theorem c_isll {l : Launch} {Z : State} {a0 : Array Value} {G1 : Int32} (X : Ctx Z a0 G1) (a : Addr) (h0 : Heap) (hE : Ext Z.heap h0) (FC : Fld Z h0 a "java/lang/String" "coder" "B" (.int (0 : Int32))) :
    Con l Z consts_1 (⟨"java/lang/String", "isLatin1", "()Z"⟩ : MethodName) jdk_42_method_154_code 1 (some .boolean) [] ({ frames := 0, cells := 0, slots := 0, locals := 0 } : Room) #[(.ref a)] h0 (fun v h => v = some (.int (1 : Int32)) ∧ h0 = h) := by
  refine Con.intro (plainFor_of_name pn_0) hE X.el ?_
  intro p e s m below meth c T W
  have hsz := W.size
  refine Go.cast (efisll m a) ?_
  refine W.getS (host := "") (Or.inl (X.w 15 rfl)) Via.refl X.2.1 d10_0 ?_
  intro T W
  refine W.fn d10_3 ((if0 _ _).trans (feq X.2.2.1).1) ?_
  refine W.an d10_6 rfl rfl ?_
  refine W.getF (host := "") (Or.inl (X.w 27 rfl)) Via.refl FC d10_7 ?_
  intro T W
  refine W.fn d10_10 ((if0 _ _).trans (teq (by decide : (0 : Int32) = (0 : Int32))).2) ?_
  refine W.ic d10_13 1 rfl ?_
  refine W.gt (pc' := 18) d10_14 (by decide) (by decide) ?_
  exact W.retN (by simp) d10_18 (⟨rfl, rfl⟩) (by decide) (by decide)

theorem efcodu (m : MethodId) (x0 : Addr) : entryFrame m #[(.ref x0)] 1 = mkF m 0 #[.val (.ref x0)] [] := by first | (simp [entryFrame, mkF, argsToLocals, Value.category]; done) | rfl
set_option maxRecDepth 65536 in
set_option maxHeartbeats 40000000 in
theorem c_codu {l : Launch} {Z : State} {a0 : Array Value} {G1 : Int32} (X : Ctx Z a0 G1) (a : Addr) (h0 : Heap) (hE : Ext Z.heap h0) (FC : Fld Z h0 a "java/lang/String" "coder" "B" (.int (1 : Int32))) :
    Con l Z consts_1 (⟨"java/lang/String", "coder", "()B"⟩ : MethodName) jdk_42_method_152_code 1 (some .byte) [] ({ frames := 0, cells := 0, slots := 0, locals := 0 } : Room) #[(.ref a)] h0 (fun v h => v = some (.int (1 : Int32)) ∧ h0 = h) := by
  refine Con.intro (plainFor_of_name pn_0) hE X.el ?_
  intro p e s m below meth c T W
  have hsz := W.size
  refine Go.cast (efcodu m a) ?_
  refine W.getS (host := "") (Or.inl (X.w 15 rfl)) Via.refl X.2.1 d9_0 ?_
  intro T W
  refine W.fn d9_3 ((if0 _ _).trans (feq X.2.2.1).1) ?_
  refine W.an d9_6 rfl rfl ?_
  refine W.getF (host := "") (Or.inl (X.w 27 rfl)) Via.refl FC d9_7 ?_
  intro T W
  refine W.gt (pc' := 14) d9_10 (by decide) (by decide) ?_
  exact W.retN (by simp) d9_14 (⟨rfl, rfl⟩) (by decide) (by decide)

theorem efislu (m : MethodId) (x0 : Addr) : entryFrame m #[(.ref x0)] 1 = mkF m 0 #[.val (.ref x0)] [] := by first | (simp [entryFrame, mkF, argsToLocals, Value.category]; done) | rfl
set_option maxRecDepth 65536 in
set_option maxHeartbeats 40000000 in
theorem c_islu {l : Launch} {Z : State} {a0 : Array Value} {G1 : Int32} (X : Ctx Z a0 G1) (a : Addr) (h0 : Heap) (hE : Ext Z.heap h0) (FC : Fld Z h0 a "java/lang/String" "coder" "B" (.int (1 : Int32))) :
    Con l Z consts_1 (⟨"java/lang/String", "isLatin1", "()Z"⟩ : MethodName) jdk_42_method_154_code 1 (some .boolean) [] ({ frames := 0, cells := 0, slots := 0, locals := 0 } : Room) #[(.ref a)] h0 (fun v h => v = some (.int (0 : Int32)) ∧ h0 = h) := by
  refine Con.intro (plainFor_of_name pn_0) hE X.el ?_
  intro p e s m below meth c T W
  have hsz := W.size
  refine Go.cast (efislu m a) ?_
  refine W.getS (host := "") (Or.inl (X.w 15 rfl)) Via.refl X.2.1 d10_0 ?_
  intro T W
  refine W.fn d10_3 ((if0 _ _).trans (feq X.2.2.1).1) ?_
  refine W.an d10_6 rfl rfl ?_
  refine W.getF (host := "") (Or.inl (X.w 27 rfl)) Via.refl FC d10_7 ?_
  intro T W
  refine W.fy (pc' := 17) d10_10 ((if0 _ _).trans (feq (by decide : ¬ ((1 : Int32) = (0 : Int32)))).2) (by decide) (by decide) ?_
  refine W.ic d10_17 0 rfl ?_
  exact W.retN (by simp) d10_18 (⟨rfl, rfl⟩) (by decide) (by decide)

theorem eflenl (m : MethodId) (x0 : Addr) : entryFrame m #[(.ref x0)] 1 = mkF m 0 #[.val (.ref x0)] [] := by first | (simp [entryFrame, mkF, argsToLocals, Value.category]; done) | rfl
set_option maxRecDepth 65536 in
set_option maxHeartbeats 40000000 in
theorem c_lenl {l : Launch} {Z : State} {a0 : Array Value} {G1 : Int32} (X : Ctx Z a0 G1) (a t : Addr) (kt : ClassId) (k : Nat) (vs : List Value) (h0 : Heap) (hE : Ext Z.heap h0) (Aa : Exa Z h0 a "java/lang/String") (FV : Fld Z h0 a "java/lang/String" "value" "[B" (.ref t)) (FC : Fld Z h0 a "java/lang/String" "coder" "B" (.int (0 : Int32))) (V : Arv Z h0 t kt .byte (N k) vs (.int (0 : Int32))) (hk : k ≤ 4000) :
    Con l Z consts_1 (⟨"java/lang/String", "length", "()I"⟩ : MethodName) jdk_42_method_54_code 1 (some .int) [] ({ frames := 1, cells := 0, slots := 0, locals := 13 } : Room) #[(.ref a)] h0 (fun v h => v = some (.int (N k)) ∧ h0 = h) := by
  refine Con.intro (plainFor_of_name pn_0) hE X.el ?_
  intro p e s m below meth c T W
  have hsz := W.size
  refine Go.cast (eflenl m a) ?_
  refine W.an d11_0 rfl rfl ?_
  refine W.getF (host := "") (Or.inl (X.w 29 rfl)) Via.refl FV d11_1 ?_
  intro T W
  refine W.arraylength V d11_4 ?_
  refine W.an d11_5 rfl rfl ?_
  refine W.virtual (X.w 43 rfl) (X.w 44 rfl) (notFace_of_selects (args := #[]) (mvT W.hZ (X.w 46 rfl))) (X.w 46 rfl) (X.w 45 rfl) (X.w 4 rfl) (X.w 47 rfl) (by decide) (c_codl X a _ W.ext FC) (by decide) (Wd := 1) (by decide) a Aa [] [(.int (N k))] rfl pd_6 rfl rfl rfl (Nat.le_of_eq rfl) d11_6 (by decide) (by decide) ?_
  intro v T h vm W hQ C
  obtain ⟨rfl, rfl⟩ := hQ
  show Go (g := mkF m 9 #[rv a] [(.int 0), (.int (N k))]) ..
  refine Go.step (fun _ kz => XS.ishr W.here W.hx rfl (W.d d11_9) rfl kz) ?_
  show Go (g := mkF m 10 #[rv a] [(.int ((N k) >>> ((0 : Int32) &&& 31)))]) ..
  exact W.retI d11_10 (⟨by rw [shr0], rfl⟩) (by decide) (by decide)

theorem eflenu (m : MethodId) (x0 : Addr) : entryFrame m #[(.ref x0)] 1 = mkF m 0 #[.val (.ref x0)] [] := by first | (simp [entryFrame, mkF, argsToLocals, Value.category]; done) | rfl
set_option maxRecDepth 65536 in
set_option maxHeartbeats 40000000 in
theorem c_lenu {l : Launch} {Z : State} {a0 : Array Value} {G1 : Int32} (X : Ctx Z a0 G1) (a t : Addr) (kt : ClassId) (k : Nat) (vs : List Value) (h0 : Heap) (hE : Ext Z.heap h0) (Aa : Exa Z h0 a "java/lang/String") (FV : Fld Z h0 a "java/lang/String" "value" "[B" (.ref t)) (FC : Fld Z h0 a "java/lang/String" "coder" "B" (.int (1 : Int32))) (V : Arv Z h0 t kt .byte (N (2 * k)) vs (.int (0 : Int32))) (hk : k ≤ 4000) :
    Con l Z consts_1 (⟨"java/lang/String", "length", "()I"⟩ : MethodName) jdk_42_method_54_code 1 (some .int) [] ({ frames := 1, cells := 0, slots := 0, locals := 13 } : Room) #[(.ref a)] h0 (fun v h => v = some (.int (N k)) ∧ h0 = h) := by
  refine Con.intro (plainFor_of_name pn_0) hE X.el ?_
  intro p e s m below meth c T W
  have hsz := W.size
  refine Go.cast (eflenu m a) ?_
  refine W.an d11_0 rfl rfl ?_
  refine W.getF (host := "") (Or.inl (X.w 29 rfl)) Via.refl FV d11_1 ?_
  intro T W
  refine W.arraylength V d11_4 ?_
  refine W.an d11_5 rfl rfl ?_
  refine W.virtual (X.w 43 rfl) (X.w 44 rfl) (notFace_of_selects (args := #[]) (mvT W.hZ (X.w 46 rfl))) (X.w 46 rfl) (X.w 45 rfl) (X.w 4 rfl) (X.w 47 rfl) (by decide) (c_codu X a _ W.ext FC) (by decide) (Wd := 1) (by decide) a Aa [] [(.int (N (2 * k)))] rfl pd_6 rfl rfl rfl (Nat.le_of_eq rfl) d11_6 (by decide) (by decide) ?_
  intro v T h vm W hQ C
  obtain ⟨rfl, rfl⟩ := hQ
  show Go (g := mkF m 9 #[rv a] [(.int 1), (.int (N (2 * k)))]) ..
  refine Go.step (fun _ kz => XS.ishr W.here W.hx rfl (W.d d11_9) rfl kz) ?_
  show Go (g := mkF m 10 #[rv a] [(.int ((N (2 * k)) >>> ((1 : Int32) &&& 31)))]) ..
  exact W.retI d11_10 (⟨by rw [N_shr1 (by omega)], rfl⟩) (by decide) (by decide)

theorem efchal (m : MethodId) (x0 : Addr) (x1 : Int32) : entryFrame m #[(.ref x0), (.int x1)] 2 = mkF m 0 #[.val (.ref x0), .val (.int x1)] [] := by first | (simp [entryFrame, mkF, argsToLocals, Value.category]; done) | rfl
set_option maxRecDepth 65536 in
set_option maxHeartbeats 40000000 in
theorem c_chal {l : Launch} {Z : State} {a0 : Array Value} {G1 : Int32} (X : Ctx Z a0 G1) (a t : Addr) (kt : ClassId) (j k : Nat) (c0 : Int32) (vs : List Value) (sv : Value) (h0 : Heap) (hE : Ext Z.heap h0) (Y : U16 Z sv) (Aa : Exa Z h0 a "java/lang/String") (FV : Fld Z h0 a "java/lang/String" "value" "[B" (.ref t)) (FC : Fld Z h0 a "java/lang/String" "coder" "B" (.int (0 : Int32))) (V : Arv Z h0 t kt .byte (N k) vs (.int (0 : Int32))) (hk : k ≤ 4000) (hj : j < k) (tc : Sm c0) (e0 : vs.getD j (.int (0 : Int32)) = .int c0.toInt8.toInt32) :
    Con l Z consts_1 (⟨"java/lang/String", "charAt", "(I)C"⟩ : MethodName) jdk_42_method_56_code 2 (some .char) [] ({ frames := 4, cells := 0, slots := 0, locals := 53 } : Room) #[(.ref a), (.int (N j))] h0 (fun v h => v = some (.int c0) ∧ h0 = h) := by
  refine Con.intro (plainFor_of_name pn_0) hE X.el ?_
  intro p e s m below meth c T W
  have hsz := W.size
  refine Go.cast (efchal m a (N j)) ?_
  refine W.an d12_0 rfl rfl ?_
  refine W.virtual (X.w 68 rfl) (X.w 69 rfl) (notFace_of_selects (args := #[]) (mvT W.hZ (X.w 71 rfl))) (X.w 71 rfl) (X.w 70 rfl) (X.w 4 rfl) (X.w 72 rfl) (by decide) (c_isll X a _ W.ext FC) (by decide) (Wd := 0) (by decide) a Aa [] [] rfl pd_7 rfl rfl rfl (Nat.le_of_eq rfl) d12_1 (by decide) (by decide) ?_
  intro v T h vm W hQ C
  obtain ⟨rfl, rfl⟩ := hQ
  show Go (g := mkF m 4 #[rv a, iv (N j)] [(.int 1)]) ..
  refine W.fn d12_4 ((if0 _ _).trans (feq (by decide : ¬ ((1 : Int32) = (0 : Int32)))).1) ?_
  refine W.an d12_7 rfl rfl ?_
  refine W.getF (host := "") (Or.inl (X.w 29 rfl)) Via.refl FV d12_8 ?_
  intro T W
  refine W.iN d12_11 rfl ?_
  refine W.callS (X.w 160 rfl) (X.w 161 rfl) (X.w 75 rfl) (X.w 162 rfl) (by decide) (c_lca X t _ j k c0 _ sv _ W.ext Y V hk hj tc e0) (by decide) (Wd := 0) (by decide) [(.ref t), (.int (N j))] [] rfl pd_5 rfl rfl rfl (Nat.le_of_eq rfl) d12_12 (by decide) (by decide) ?_
  intro v T h vm W hQ C
  obtain ⟨rfl, rfl⟩ := hQ
  show Go (g := mkF m 15 #[rv a, iv (N j)] [(.int c0)]) ..
  exact W.retN (by simp) d12_15 (⟨by rw [nar_small tc], rfl⟩) (by decide) (by decide)

theorem efchau (m : MethodId) (x0 : Addr) (x1 : Int32) : entryFrame m #[(.ref x0), (.int x1)] 2 = mkF m 0 #[.val (.ref x0), .val (.int x1)] [] := by first | (simp [entryFrame, mkF, argsToLocals, Value.category]; done) | rfl
set_option maxRecDepth 65536 in
set_option maxHeartbeats 40000000 in
theorem c_chau {l : Launch} {Z : State} {a0 : Array Value} {G1 : Int32} (X : Ctx Z a0 G1) (a t : Addr) (kt : ClassId) (j k : Nat) (c0 : Int32) (vs : List Value) (sv : Value) (h0 : Heap) (hE : Ext Z.heap h0) (Y : U16 Z sv) (Aa : Exa Z h0 a "java/lang/String") (FV : Fld Z h0 a "java/lang/String" "value" "[B" (.ref t)) (FC : Fld Z h0 a "java/lang/String" "coder" "B" (.int (1 : Int32))) (V : Arv Z h0 t kt .byte (N (2 * k)) vs (.int (0 : Int32))) (hk : k ≤ 4000) (hj : j < k) (tc : Ch c0) (e0 : vs.getD (2 * j) (.int (0 : Int32)) = .int (eb0 c0)) (e1 : vs.getD (2 * j + 1) (.int (0 : Int32)) = .int (eb1 c0)) :
    Con l Z consts_1 (⟨"java/lang/String", "charAt", "(I)C"⟩ : MethodName) jdk_42_method_56_code 2 (some .char) [] ({ frames := 4, cells := 0, slots := 0, locals := 53 } : Room) #[(.ref a), (.int (N j))] h0 (fun v h => v = some (.int c0) ∧ h0 = h) := by
  refine Con.intro (plainFor_of_name pn_0) hE X.el ?_
  intro p e s m below meth c T W
  have hsz := W.size
  refine Go.cast (efchau m a (N j)) ?_
  refine W.an d12_0 rfl rfl ?_
  refine W.virtual (X.w 68 rfl) (X.w 69 rfl) (notFace_of_selects (args := #[]) (mvT W.hZ (X.w 71 rfl))) (X.w 71 rfl) (X.w 70 rfl) (X.w 4 rfl) (X.w 72 rfl) (by decide) (c_islu X a _ W.ext FC) (by decide) (Wd := 0) (by decide) a Aa [] [] rfl pd_7 rfl rfl rfl (Nat.le_of_eq rfl) d12_1 (by decide) (by decide) ?_
  intro v T h vm W hQ C
  obtain ⟨rfl, rfl⟩ := hQ
  show Go (g := mkF m 4 #[rv a, iv (N j)] [(.int 0)]) ..
  refine W.fy (pc' := 16) d12_4 ((if0 _ _).trans (teq (by decide : (0 : Int32) = (0 : Int32))).1) (by decide) (by decide) ?_
  refine W.an d12_16 rfl rfl ?_
  refine W.getF (host := "") (Or.inl (X.w 29 rfl)) Via.refl FV d12_17 ?_
  intro T W
  refine W.iN d12_20 rfl ?_
  refine W.callS (X.w 232 rfl) (X.w 233 rfl) (X.w 18 rfl) (X.w 234 rfl) (by decide) (c_uca X t _ j k c0 _ sv _ W.ext Y V hk hj tc e0 e1) (by decide) (Wd := 0) (by decide) [(.ref t), (.int (N j))] [] rfl pd_5 rfl rfl rfl (Nat.le_of_eq rfl) d12_21 (by decide) (by decide) ?_
  intro v T h vm W hQ C
  obtain ⟨rfl, rfl⟩ := hQ
  show Go (g := mkF m 24 #[rv a, iv (N j)] [(.int c0)]) ..
  exact W.retN (by simp) d12_24 (⟨by rw [nar_ch tc], rfl⟩) (by decide) (by decide)

theorem c_lenx {l : Launch} {Z : State} {a0 : Array Value} {G1 : Int32} (X : Ctx Z a0 G1) (a : Addr) (cs : List Int32) (h0 : Heap) (hE : Ext Z.heap h0) (S : StrX Z h0 a cs) : Con l Z consts_1 (⟨"java/lang/String", "length", "()I"⟩ : MethodName) jdk_42_method_54_code 1 (some .int) [] ({ frames := 1, cells := 0, slots := 0, locals := 13 } : Room) #[(.ref a)] h0 (fun v h => v = some (.int (N cs.length)) ∧ h0 = h) := by
  rcases S with ⟨t, kb, q1, q2, q3, q4, q5, q6⟩ | ⟨t, kb, q1, q2, q3, q4, q5, q6⟩
  · exact c_lenl X a t kb cs.length _ h0 hE q1 q2 q3 q4 q6
  · exact c_lenu X a t kb cs.length _ h0 hE q1 q2 q3 q4 q6
theorem c_chax {l : Launch} {Z : State} {a0 : Array Value} {G1 : Int32} (X : Ctx Z a0 G1) (a : Addr) (j : Nat) (cs : List Int32) (sv : Value) (h0 : Heap) (hE : Ext Z.heap h0) (Y : U16 Z sv) (S : StrX Z h0 a cs) (hj : j < cs.length) : Con l Z consts_1 (⟨"java/lang/String", "charAt", "(I)C"⟩ : MethodName) jdk_42_method_56_code 2 (some .char) [] ({ frames := 4, cells := 0, slots := 0, locals := 53 } : Room) #[(.ref a), (.int (N j))] h0 (fun v h => v = some (.int (cs.getD j 0)) ∧ h0 = h) := by
  rcases S with ⟨t, kb, q1, q2, q3, q4, q5, q6⟩ | ⟨t, kb, q1, q2, q3, q4, q5, q6⟩
  · exact c_chal X a t kb j cs.length (cs.getD j 0) _ sv h0 hE Y q1 q2 q3 q4 q6 hj (getD_all (P := Sm) q5 hj) (encL_at cs j hj _)
  · exact c_chau X a t kb j cs.length (cs.getD j 0) _ sv h0 hE Y q1 q2 q3 q4 q6 hj (getD_all (P := Ch) q5 hj) (encU_at cs j hj _).1 (encU_at cs j hj _).2

theorem efnbl (m : MethodId) (x0 : Int32) : entryFrame m #[(.int x0)] 1 = mkF m 0 #[.val (.int x0)] [] := by first | (simp [entryFrame, mkF, argsToLocals, Value.category]; done) | rfl
set_option maxRecDepth 65536 in
set_option maxHeartbeats 40000000 in
theorem c_nbl {l : Launch} {Z : State} {a0 : Array Value} {G1 : Int32} (X : Ctx Z a0 G1) (k : Nat) (h0 : Heap) (hE : Ext Z.heap h0) (hk : k ≤ 4000) :
    Con l Z consts_1 (⟨"java/lang/StringUTF16", "newBytesLength", "(I)I"⟩ : MethodName) jdk_52_method_3_code 1 (some .int) [] ({ frames := 0, cells := 0, slots := 0, locals := 0 } : Room) #[(.int (N k))] h0 (fun v h => v = some (.int (N (2 * k))) ∧ h0 = h) := by
  refine Con.intro (plainFor_of_name pn_2) hE X.el ?_
  intro p e s m below meth c T W
  have hsz := W.size
  refine Go.cast (efnbl m (N k)) ?_
  refine W.iN d13_0 rfl ?_
  refine W.fy (pc' := 12) d13_1 ((if0 _ _).trans (flt (N_nn (by omega))).2.1) (by decide) (by decide) ?_
  refine W.iN d13_12 rfl ?_
  refine W.ldcI (X.w 183 rfl) d13_13 ?_
  refine W.cy (pc' := 55) d13_15 (tlt (N_big (by omega))).1 (by decide) (by decide) ?_
  refine W.iN d13_55 rfl ?_
  refine W.ic d13_56 1 rfl ?_
  refine Go.step (fun _ kz => XS.ishl W.here W.hx rfl (W.d d13_57) rfl kz) ?_
  show Go (g := mkF m 58 #[iv (N k)] [(.int ((N k) <<< ((1 : Int32) &&& 31)))]) ..
  exact W.retI d13_58 (⟨by rw [N_shl1], rfl⟩) (by decide) (by decide)

theorem efnbf (m : MethodId) (x0 : Int32) : entryFrame m #[(.int x0)] 1 = mkF m 0 #[.val (.int x0)] [] := by first | (simp [entryFrame, mkF, argsToLocals, Value.category]; done) | rfl
set_option maxRecDepth 65536 in
set_option maxHeartbeats 40000000 in
theorem c_nbf {l : Launch} {Z : State} {a0 : Array Value} {G1 : Int32} (X : Ctx Z a0 G1) (k : Nat) (h0 : Heap) (hE : Ext Z.heap h0) (hk : k ≤ 10) :
    Con l Z consts_1 (⟨"java/lang/StringUTF16", "newBytesFor", "(I)[B"⟩ : MethodName) jdk_52_method_2_code 1 (some (.array .byte)) [] ({ frames := 1, cells := 1, slots := 20, locals := 12 } : Room) #[(.int (N k))] h0 (fun v h => ∃ (t : Addr) (kt : ClassId), Z.vm.findClass "[B" = some kt ∧ v = some (.ref t) ∧ h0.size ≤ t ∧ Keep h0 h [] ∧ Arv Z h t kt .byte (N (2 * k)) [] (.int (0 : Int32))) := by
  refine Con.intro (plainFor_of_name pn_2) hE X.el ?_
  intro p e s m below meth c T W
  have hsz := W.size
  refine Go.cast (efnbf m (N k)) ?_
  have KP := Keep.refl h0 []
  refine W.iN d14_0 rfl ?_
  refine W.callS (X.w 180 rfl) (X.w 181 rfl) (X.w 18 rfl) (X.w 182 rfl) (by decide) (c_nbl X k _ W.ext (by omega)) (by decide) (Wd := 0) (by decide) [(.int (N k))] [] rfl pd_8 rfl rfl rfl (Nat.le_of_eq rfl) d14_1 (by decide) (by decide) ?_
  intro v T h vm W hQ C
  obtain ⟨rfl, rfl⟩ := hQ
  show Go (g := mkF m 4 #[iv (N k)] [(.int (N (2 * k)))]) ..
  refine W.newarrB (X.w 20 rfl) d14_4 (N_nn (by omega)) (cap := 20) (by rw [N_nat (by omega)]; omega) (by decide) (by decide) (by decide) ?_
  intro T h b1 kb1 hb1 W Eb1 Vb1 Sfb1 cBb1
  have sz_b1 : h0.size ≤ b1 := by rw [hb1]; exact KP.1
  have gb1 : Z.heap.size ≤ b1 := by rw [hb1]; exact hsz
  replace KP := KP.ext Eb1
  replace hsz := W.size
  exact W.retR rfl rfl rfl d14_6 (⟨b1, _, cBb1, rfl, sz_b1, KP, Vb1⟩) (by decide) (by decide)

theorem eftby1 (m : MethodId) (x0 : Addr) (x1 : Int32) (x2 : Int32) : entryFrame m #[(.ref x0), (.int x1), (.int x2)] 5 = mkF m 0 #[.val (.ref x0), .val (.int x1), .val (.int x2), .unset, .unset] [] := by first | (simp [entryFrame, mkF, argsToLocals, Value.category]; done) | rfl
set_option maxRecDepth 65536 in
set_option maxHeartbeats 40000000 in
theorem c_tby1 {l : Launch} {Z : State} {a0 : Array Value} {G1 : Int32} (X : Ctx Z a0 G1) (b : Addr) (kb : ClassId) (c0 : Int32) (sv : Value) (h0 : Heap) (hE : Ext Z.heap h0) (Y : U16 Z sv) (Vb : Arv Z h0 b kb .char (1 : Int32) [(.int c0)] (.int (0 : Int32))) :
    Con l Z consts_1 (⟨"java/lang/StringUTF16", "toBytes", "([CII)[B"⟩ : MethodName) jdk_52_method_14_code 5 (some (.array .byte)) [] ({ frames := 2, cells := 1, slots := 20, locals := 24 } : Room) #[(.ref b), (.int (0 : Int32)), (.int (1 : Int32))] h0 (fun v h => ∃ (t : Addr) (kt : ClassId), v = some (.ref t) ∧ h0.size ≤ t ∧ Keep h0 h [] ∧ Arv Z h t kt .byte (N (2 * 1)) (encU [c0]) (.int (0 : Int32))) := by
  refine Con.intro (plainFor_of_name pn_2) hE X.el ?_
  intro p e s m below meth c T W
  have hsz := W.size
  refine Go.cast (eftby1 m b (0 : Int32) (1 : Int32)) ?_
  have KP := Keep.refl h0 []
  refine W.iN d15_0 rfl ?_
  refine W.callS (X.w 177 rfl) (X.w 178 rfl) (X.w 18 rfl) (X.w 179 rfl) (by decide) (c_nbf X 1 _ W.ext (by decide)) (by decide) (Wd := 0) (by decide) [(.int (1 : Int32))] [] rfl pd_9 rfl rfl rfl (Nat.le_of_eq rfl) d15_1 (by decide) (by decide) ?_
  intro v T h vm W hQ C
  obtain ⟨b1, kb1, -, rfl, hn_b1, Kb1, Vb1⟩ := hQ
  have sz_b1 : h0.size ≤ b1 := Nat.le_trans KP.1 hn_b1
  have ne_b_b1 : b ≠ b1 := Nat.ne_of_lt (Nat.lt_of_lt_of_le Vb.lt hn_b1)
  have gb1 : Z.heap.size ≤ b1 := Nat.le_trans hsz hn_b1
  replace KP := KP.otr0 Kb1
  replace Vb := Vb.keep Kb1 nin0
  replace hsz := W.size
  replace Vb1 : Arv Z h b1 kb1 .byte (N (2 * 1)) [(.int (0 : Int32)), (.int (0 : Int32))] (.int (0 : Int32)) := Vb1.pad (pad_rep [] (.int (0 : Int32)) 2)
  show Go (g := mkF m 4 #[rv b, iv 0, iv 1, .unset, .unset] [(.ref b1)]) ..
  refine W.asn (Ls' := #[rv b, iv 0, iv 1, rv b1, .unset]) d15_4 rfl rfl ?_
  refine W.ic d15_5 0 rfl ?_
  refine W.iss (Ls' := #[rv b, iv 0, iv 1, rv b1, iv 0]) d15_6 rfl ?_
  refine W.il d15_8 rfl ?_
  refine W.iN d15_10 rfl ?_
  refine W.cn d15_11 (tlt (by decide : (0 : Int32) < (1 : Int32))).2.1 ?_
  refine W.an d15_14 rfl rfl ?_
  refine W.il d15_15 rfl ?_
  refine W.an d15_17 rfl rfl ?_
  refine W.iN d15_18 rfl ?_
  refine W.caload Vb (by decide) rfl d15_19 ?_
  show Go (g := mkF m 20 #[rv b, iv 0, iv 1, rv b1, iv 0] [(.int c0), (.int 0), (.ref b1)]) ..
  refine W.callS (X.w 184 rfl) (X.w 185 rfl) (X.w 18 rfl) (X.w 186 rfl) (by decide) (c_puc X b1 _ 0 1 c0 _ sv _ W.ext Y gb1 Vb1 (by decide) (by decide) (by simp)) (by decide) (Wd := 0) (by decide) [(.ref b1), (.int (0 : Int32)), (.int c0)] [] rfl pd_10 rfl rfl rfl (Nat.le_of_eq rfl) d15_20 (by decide) (by decide) ?_
  intro v T h vm W hQ C
  obtain ⟨rfl, K2, Vb1'⟩ := hQ
  replace KP := KP.otrN K2 sz_b1
  replace Vb := Vb.keep K2 (nin1 ne_b_b1)
  replace hsz := W.size
  replace Vb1 : Arv Z h b1 kb1 .byte (N (2 * 1)) [(.int (eb0 c0)), (.int (eb1 c0))] (.int (0 : Int32)) := Vb1'
  show Go (g := mkF m 23 #[rv b, iv 0, iv 1, rv b1, iv 0] []) ..
  refine W.ii (Ls' := #[rv b, iv 1, iv 1, rv b1, iv 0]) d15_23 rfl rfl ?_
  refine W.ii (Ls' := #[rv b, iv 1, iv 1, rv b1, iv 1]) d15_26 rfl rfl ?_
  refine W.gt (pc' := 8) d15_29 (by decide) (by decide) ?_
  refine W.il d15_8 rfl ?_
  refine W.iN d15_10 rfl ?_
  refine W.cy (pc' := 32) d15_11 (flt (by decide : ¬ ((1 : Int32) < (1 : Int32)))).2.1 (by decide) (by decide) ?_
  refine W.an d15_32 rfl rfl ?_
  exact W.retR rfl rfl rfl d15_33 (⟨b1, _, rfl, sz_b1, KP, Vb1⟩) (by decide) (by decide)

theorem eftby2 (m : MethodId) (x0 : Addr) (x1 : Int32) (x2 : Int32) : entryFrame m #[(.ref x0), (.int x1), (.int x2)] 5 = mkF m 0 #[.val (.ref x0), .val (.int x1), .val (.int x2), .unset, .unset] [] := by first | (simp [entryFrame, mkF, argsToLocals, Value.category]; done) | rfl
set_option maxRecDepth 65536 in
set_option maxHeartbeats 40000000 in
theorem c_tby2 {l : Launch} {Z : State} {a0 : Array Value} {G1 : Int32} (X : Ctx Z a0 G1) (b : Addr) (kb : ClassId) (c0 c1 : Int32) (sv : Value) (h0 : Heap) (hE : Ext Z.heap h0) (Y : U16 Z sv) (Vb : Arv Z h0 b kb .char (2 : Int32) [(.int c0), (.int c1)] (.int (0 : Int32))) :
    Con l Z consts_1 (⟨"java/lang/StringUTF16", "toBytes", "([CII)[B"⟩ : MethodName) jdk_52_method_14_code 5 (some (.array .byte)) [] ({ frames := 2, cells := 1, slots := 20, locals := 24 } : Room) #[(.ref b), (.int (0 : Int32)), (.int (2 : Int32))] h0 (fun v h => ∃ (t : Addr) (kt : ClassId), v = some (.ref t) ∧ h0.size ≤ t ∧ Keep h0 h [] ∧ Arv Z h t kt .byte (N (2 * 2)) (encU [c0, c1]) (.int (0 : Int32))) := by
  refine Con.intro (plainFor_of_name pn_2) hE X.el ?_
  intro p e s m below meth c T W
  have hsz := W.size
  refine Go.cast (eftby2 m b (0 : Int32) (2 : Int32)) ?_
  have KP := Keep.refl h0 []
  refine W.iN d15_0 rfl ?_
  refine W.callS (X.w 177 rfl) (X.w 178 rfl) (X.w 18 rfl) (X.w 179 rfl) (by decide) (c_nbf X 2 _ W.ext (by decide)) (by decide) (Wd := 0) (by decide) [(.int (2 : Int32))] [] rfl pd_9 rfl rfl rfl (Nat.le_of_eq rfl) d15_1 (by decide) (by decide) ?_
  intro v T h vm W hQ C
  obtain ⟨b1, kb1, -, rfl, hn_b1, Kb1, Vb1⟩ := hQ
  have sz_b1 : h0.size ≤ b1 := Nat.le_trans KP.1 hn_b1
  have ne_b_b1 : b ≠ b1 := Nat.ne_of_lt (Nat.lt_of_lt_of_le Vb.lt hn_b1)
  have gb1 : Z.heap.size ≤ b1 := Nat.le_trans hsz hn_b1
  replace KP := KP.otr0 Kb1
  replace Vb := Vb.keep Kb1 nin0
  replace hsz := W.size
  replace Vb1 : Arv Z h b1 kb1 .byte (N (2 * 2)) [(.int (0 : Int32)), (.int (0 : Int32)), (.int (0 : Int32)), (.int (0 : Int32))] (.int (0 : Int32)) := Vb1.pad (pad_rep [] (.int (0 : Int32)) 4)
  show Go (g := mkF m 4 #[rv b, iv 0, iv 2, .unset, .unset] [(.ref b1)]) ..
  refine W.asn (Ls' := #[rv b, iv 0, iv 2, rv b1, .unset]) d15_4 rfl rfl ?_
  refine W.ic d15_5 0 rfl ?_
  refine W.iss (Ls' := #[rv b, iv 0, iv 2, rv b1, iv 0]) d15_6 rfl ?_
  refine W.il d15_8 rfl ?_
  refine W.iN d15_10 rfl ?_
  refine W.cn d15_11 (tlt (by decide : (0 : Int32) < (2 : Int32))).2.1 ?_
  refine W.an d15_14 rfl rfl ?_
  refine W.il d15_15 rfl ?_
  refine W.an d15_17 rfl rfl ?_
  refine W.iN d15_18 rfl ?_
  refine W.caload Vb (by decide) rfl d15_19 ?_
  show Go (g := mkF m 20 #[rv b, iv 0, iv 2, rv b1, iv 0] [(.int c0), (.int 0), (.ref b1)]) ..
  refine W.callS (X.w 184 rfl) (X.w 185 rfl) (X.w 18 rfl) (X.w 186 rfl) (by decide) (c_puc X b1 _ 0 2 c0 _ sv _ W.ext Y gb1 Vb1 (by decide) (by decide) (by simp)) (by decide) (Wd := 0) (by decide) [(.ref b1), (.int (0 : Int32)), (.int c0)] [] rfl pd_10 rfl rfl rfl (Nat.le_of_eq rfl) d15_20 (by decide) (by decide) ?_
  intro v T h vm W hQ C
  obtain ⟨rfl, K2, Vb1'⟩ := hQ
  replace KP := KP.otrN K2 sz_b1
  replace Vb := Vb.keep K2 (nin1 ne_b_b1)
  replace hsz := W.size
  replace Vb1 : Arv Z h b1 kb1 .byte (N (2 * 2)) [(.int (eb0 c0)), (.int (eb1 c0)), (.int (0 : Int32)), (.int (0 : Int32))] (.int (0 : Int32)) := Vb1'
  show Go (g := mkF m 23 #[rv b, iv 0, iv 2, rv b1, iv 0] []) ..
  refine W.ii (Ls' := #[rv b, iv 1, iv 2, rv b1, iv 0]) d15_23 rfl rfl ?_
  refine W.ii (Ls' := #[rv b, iv 1, iv 2, rv b1, iv 1]) d15_26 rfl rfl ?_
  refine W.gt (pc' := 8) d15_29 (by decide) (by decide) ?_
  refine W.il d15_8 rfl ?_
  refine W.iN d15_10 rfl ?_
  refine W.cn d15_11 (tlt (by decide : (1 : Int32) < (2 : Int32))).2.1 ?_
  refine W.an d15_14 rfl rfl ?_
  refine W.il d15_15 rfl ?_
  refine W.an d15_17 rfl rfl ?_
  refine W.iN d15_18 rfl ?_
  refine W.caload Vb (by decide) rfl d15_19 ?_
  show Go (g := mkF m 20 #[rv b, iv 1, iv 2, rv b1, iv 1] [(.int c1), (.int 1), (.ref b1)]) ..
  refine W.callS (X.w 184 rfl) (X.w 185 rfl) (X.w 18 rfl) (X.w 186 rfl) (by decide) (c_puc X b1 _ 1 2 c1 _ sv _ W.ext Y gb1 Vb1 (by decide) (by decide) (by simp)) (by decide) (Wd := 0) (by decide) [(.ref b1), (.int (1 : Int32)), (.int c1)] [] rfl pd_10 rfl rfl rfl (Nat.le_of_eq rfl) d15_20 (by decide) (by decide) ?_
  intro v T h vm W hQ C
  obtain ⟨rfl, K3, Vb1'⟩ := hQ
  replace KP := KP.otrN K3 sz_b1
  replace Vb := Vb.keep K3 (nin1 ne_b_b1)
  replace hsz := W.size
  replace Vb1 : Arv Z h b1 kb1 .byte (N (2 * 2)) [(.int (eb0 c0)), (.int (eb1 c0)), (.int (eb0 c1)), (.int (eb1 c1))] (.int (0 : Int32)) := Vb1'
  show Go (g := mkF m 23 #[rv b, iv 1, iv 2, rv b1, iv 1] []) ..
  refine W.ii (Ls' := #[rv b, iv 2, iv 2, rv b1, iv 1]) d15_23 rfl rfl ?_
  refine W.ii (Ls' := #[rv b, iv 2, iv 2, rv b1, iv 2]) d15_26 rfl rfl ?_
  refine W.gt (pc' := 8) d15_29 (by decide) (by decide) ?_
  refine W.il d15_8 rfl ?_
  refine W.iN d15_10 rfl ?_
  refine W.cy (pc' := 32) d15_11 (flt (by decide : ¬ ((2 : Int32) < (2 : Int32)))).2.1 (by decide) (by decide) ?_
  refine W.an d15_32 rfl rfl ?_
  exact W.retR rfl rfl rfl d15_33 (⟨b1, _, rfl, sz_b1, KP, Vb1⟩) (by decide) (by decide)

theorem eftby3 (m : MethodId) (x0 : Addr) (x1 : Int32) (x2 : Int32) : entryFrame m #[(.ref x0), (.int x1), (.int x2)] 5 = mkF m 0 #[.val (.ref x0), .val (.int x1), .val (.int x2), .unset, .unset] [] := by first | (simp [entryFrame, mkF, argsToLocals, Value.category]; done) | rfl
set_option maxRecDepth 65536 in
set_option maxHeartbeats 40000000 in
theorem c_tby3 {l : Launch} {Z : State} {a0 : Array Value} {G1 : Int32} (X : Ctx Z a0 G1) (b : Addr) (kb : ClassId) (c0 c1 c2 : Int32) (sv : Value) (h0 : Heap) (hE : Ext Z.heap h0) (Y : U16 Z sv) (Vb : Arv Z h0 b kb .char (3 : Int32) [(.int c0), (.int c1), (.int c2)] (.int (0 : Int32))) :
    Con l Z consts_1 (⟨"java/lang/StringUTF16", "toBytes", "([CII)[B"⟩ : MethodName) jdk_52_method_14_code 5 (some (.array .byte)) [] ({ frames := 2, cells := 1, slots := 20, locals := 24 } : Room) #[(.ref b), (.int (0 : Int32)), (.int (3 : Int32))] h0 (fun v h => ∃ (t : Addr) (kt : ClassId), v = some (.ref t) ∧ h0.size ≤ t ∧ Keep h0 h [] ∧ Arv Z h t kt .byte (N (2 * 3)) (encU [c0, c1, c2]) (.int (0 : Int32))) := by
  refine Con.intro (plainFor_of_name pn_2) hE X.el ?_
  intro p e s m below meth c T W
  have hsz := W.size
  refine Go.cast (eftby3 m b (0 : Int32) (3 : Int32)) ?_
  have KP := Keep.refl h0 []
  refine W.iN d15_0 rfl ?_
  refine W.callS (X.w 177 rfl) (X.w 178 rfl) (X.w 18 rfl) (X.w 179 rfl) (by decide) (c_nbf X 3 _ W.ext (by decide)) (by decide) (Wd := 0) (by decide) [(.int (3 : Int32))] [] rfl pd_9 rfl rfl rfl (Nat.le_of_eq rfl) d15_1 (by decide) (by decide) ?_
  intro v T h vm W hQ C
  obtain ⟨b1, kb1, -, rfl, hn_b1, Kb1, Vb1⟩ := hQ
  have sz_b1 : h0.size ≤ b1 := Nat.le_trans KP.1 hn_b1
  have ne_b_b1 : b ≠ b1 := Nat.ne_of_lt (Nat.lt_of_lt_of_le Vb.lt hn_b1)
  have gb1 : Z.heap.size ≤ b1 := Nat.le_trans hsz hn_b1
  replace KP := KP.otr0 Kb1
  replace Vb := Vb.keep Kb1 nin0
  replace hsz := W.size
  replace Vb1 : Arv Z h b1 kb1 .byte (N (2 * 3)) [(.int (0 : Int32)), (.int (0 : Int32)), (.int (0 : Int32)), (.int (0 : Int32)), (.int (0 : Int32)), (.int (0 : Int32))] (.int (0 : Int32)) := Vb1.pad (pad_rep [] (.int (0 : Int32)) 6)
  show Go (g := mkF m 4 #[rv b, iv 0, iv 3, .unset, .unset] [(.ref b1)]) ..
  refine W.asn (Ls' := #[rv b, iv 0, iv 3, rv b1, .unset]) d15_4 rfl rfl ?_
  refine W.ic d15_5 0 rfl ?_
  refine W.iss (Ls' := #[rv b, iv 0, iv 3, rv b1, iv 0]) d15_6 rfl ?_
  refine W.il d15_8 rfl ?_
  refine W.iN d15_10 rfl ?_
  refine W.cn d15_11 (tlt (by decide : (0 : Int32) < (3 : Int32))).2.1 ?_
  refine W.an d15_14 rfl rfl ?_
  refine W.il d15_15 rfl ?_
  refine W.an d15_17 rfl rfl ?_
  refine W.iN d15_18 rfl ?_
  refine W.caload Vb (by decide) rfl d15_19 ?_
  show Go (g := mkF m 20 #[rv b, iv 0, iv 3, rv b1, iv 0] [(.int c0), (.int 0), (.ref b1)]) ..
  refine W.callS (X.w 184 rfl) (X.w 185 rfl) (X.w 18 rfl) (X.w 186 rfl) (by decide) (c_puc X b1 _ 0 3 c0 _ sv _ W.ext Y gb1 Vb1 (by decide) (by decide) (by simp)) (by decide) (Wd := 0) (by decide) [(.ref b1), (.int (0 : Int32)), (.int c0)] [] rfl pd_10 rfl rfl rfl (Nat.le_of_eq rfl) d15_20 (by decide) (by decide) ?_
  intro v T h vm W hQ C
  obtain ⟨rfl, K2, Vb1'⟩ := hQ
  replace KP := KP.otrN K2 sz_b1
  replace Vb := Vb.keep K2 (nin1 ne_b_b1)
  replace hsz := W.size
  replace Vb1 : Arv Z h b1 kb1 .byte (N (2 * 3)) [(.int (eb0 c0)), (.int (eb1 c0)), (.int (0 : Int32)), (.int (0 : Int32)), (.int (0 : Int32)), (.int (0 : Int32))] (.int (0 : Int32)) := Vb1'
  show Go (g := mkF m 23 #[rv b, iv 0, iv 3, rv b1, iv 0] []) ..
  refine W.ii (Ls' := #[rv b, iv 1, iv 3, rv b1, iv 0]) d15_23 rfl rfl ?_
  refine W.ii (Ls' := #[rv b, iv 1, iv 3, rv b1, iv 1]) d15_26 rfl rfl ?_
  refine W.gt (pc' := 8) d15_29 (by decide) (by decide) ?_
  refine W.il d15_8 rfl ?_
  refine W.iN d15_10 rfl ?_
  refine W.cn d15_11 (tlt (by decide : (1 : Int32) < (3 : Int32))).2.1 ?_
  refine W.an d15_14 rfl rfl ?_
  refine W.il d15_15 rfl ?_
  refine W.an d15_17 rfl rfl ?_
  refine W.iN d15_18 rfl ?_
  refine W.caload Vb (by decide) rfl d15_19 ?_
  show Go (g := mkF m 20 #[rv b, iv 1, iv 3, rv b1, iv 1] [(.int c1), (.int 1), (.ref b1)]) ..
  refine W.callS (X.w 184 rfl) (X.w 185 rfl) (X.w 18 rfl) (X.w 186 rfl) (by decide) (c_puc X b1 _ 1 3 c1 _ sv _ W.ext Y gb1 Vb1 (by decide) (by decide) (by simp)) (by decide) (Wd := 0) (by decide) [(.ref b1), (.int (1 : Int32)), (.int c1)] [] rfl pd_10 rfl rfl rfl (Nat.le_of_eq rfl) d15_20 (by decide) (by decide) ?_
  intro v T h vm W hQ C
  obtain ⟨rfl, K3, Vb1'⟩ := hQ
  replace KP := KP.otrN K3 sz_b1
  replace Vb := Vb.keep K3 (nin1 ne_b_b1)
  replace hsz := W.size
  replace Vb1 : Arv Z h b1 kb1 .byte (N (2 * 3)) [(.int (eb0 c0)), (.int (eb1 c0)), (.int (eb0 c1)), (.int (eb1 c1)), (.int (0 : Int32)), (.int (0 : Int32))] (.int (0 : Int32)) := Vb1'
  show Go (g := mkF m 23 #[rv b, iv 1, iv 3, rv b1, iv 1] []) ..
  refine W.ii (Ls' := #[rv b, iv 2, iv 3, rv b1, iv 1]) d15_23 rfl rfl ?_
  refine W.ii (Ls' := #[rv b, iv 2, iv 3, rv b1, iv 2]) d15_26 rfl rfl ?_
  refine W.gt (pc' := 8) d15_29 (by decide) (by decide) ?_
  refine W.il d15_8 rfl ?_
  refine W.iN d15_10 rfl ?_
  refine W.cn d15_11 (tlt (by decide : (2 : Int32) < (3 : Int32))).2.1 ?_
  refine W.an d15_14 rfl rfl ?_
  refine W.il d15_15 rfl ?_
  refine W.an d15_17 rfl rfl ?_
  refine W.iN d15_18 rfl ?_
  refine W.caload Vb (by decide) rfl d15_19 ?_
  show Go (g := mkF m 20 #[rv b, iv 2, iv 3, rv b1, iv 2] [(.int c2), (.int 2), (.ref b1)]) ..
  refine W.callS (X.w 184 rfl) (X.w 185 rfl) (X.w 18 rfl) (X.w 186 rfl) (by decide) (c_puc X b1 _ 2 3 c2 _ sv _ W.ext Y gb1 Vb1 (by decide) (by decide) (by simp)) (by decide) (Wd := 0) (by decide) [(.ref b1), (.int (2 : Int32)), (.int c2)] [] rfl pd_10 rfl rfl rfl (Nat.le_of_eq rfl) d15_20 (by decide) (by decide) ?_
  intro v T h vm W hQ C
  obtain ⟨rfl, K4, Vb1'⟩ := hQ
  replace KP := KP.otrN K4 sz_b1
  replace Vb := Vb.keep K4 (nin1 ne_b_b1)
  replace hsz := W.size
  replace Vb1 : Arv Z h b1 kb1 .byte (N (2 * 3)) [(.int (eb0 c0)), (.int (eb1 c0)), (.int (eb0 c1)), (.int (eb1 c1)), (.int (eb0 c2)), (.int (eb1 c2))] (.int (0 : Int32)) := Vb1'
  show Go (g := mkF m 23 #[rv b, iv 2, iv 3, rv b1, iv 2] []) ..
  refine W.ii (Ls' := #[rv b, iv 3, iv 3, rv b1, iv 2]) d15_23 rfl rfl ?_
  refine W.ii (Ls' := #[rv b, iv 3, iv 3, rv b1, iv 3]) d15_26 rfl rfl ?_
  refine W.gt (pc' := 8) d15_29 (by decide) (by decide) ?_
  refine W.il d15_8 rfl ?_
  refine W.iN d15_10 rfl ?_
  refine W.cy (pc' := 32) d15_11 (flt (by decide : ¬ ((3 : Int32) < (3 : Int32)))).2.1 (by decide) (by decide) ?_
  refine W.an d15_32 rfl rfl ?_
  exact W.retR rfl rfl rfl d15_33 (⟨b1, _, rfl, sz_b1, KP, Vb1⟩) (by decide) (by decide)

theorem efcmv1 (m : MethodId) (x0 : Addr) (x1 : Int32) (x2 : Addr) (x3 : Int32) (x4 : Int32) : entryFrame m #[(.ref x0), (.int x1), (.ref x2), (.int x3), (.int x4)] 7 = mkF m 0 #[.val (.ref x0), .val (.int x1), .val (.ref x2), .val (.int x3), .val (.int x4), .unset, .unset] [] := by first | (simp [entryFrame, mkF, argsToLocals, Value.category]; done) | rfl
set_option maxRecDepth 65536 in
set_option maxHeartbeats 40000000 in
theorem c_cmv1 {l : Launch} {Z : State} {a0 : Array Value} {G1 : Int32} (X : Ctx Z a0 G1) (b d : Addr) (kb kd : ClassId) (c0 : Int32) (h0 : Heap) (hE : Ext Z.heap h0) (gd : Z.heap.size ≤ d) (Vb : Arv Z h0 b kb .char (1 : Int32) [(.int c0)] (.int (0 : Int32))) (Vd : Arv Z h0 d kd .byte (1 : Int32) [(.int (0 : Int32))] (.int (0 : Int32))) (ne : b ≠ d) (hU : ¬ (¬ (255 : Int32) < c0)) :
    Con l Z consts_1 (⟨"java/lang/StringUTF16", "compress", "([CI[BII)I"⟩ : MethodName) jdk_52_method_21_code 7 (some .int) [] ({ frames := 0, cells := 0, slots := 0, locals := 0 } : Room) #[(.ref b), (.int (0 : Int32)), (.ref d), (.int (0 : Int32)), (.int (1 : Int32))] h0 (fun v h => ∃ j : Nat, v = some (.int (N j)) ∧ j < 1 ∧ (255 : Int32) < ([c0] : List Int32).getD j 0 ∧ Keep h0 h [d]) := by
  refine Con.intro (plainFor_of_name pn_2) hE X.el ?_
  intro p e s m below meth c T W
  have hsz := W.size
  refine Go.cast (efcmv1 m b (0 : Int32) d (0 : Int32) (1 : Int32)) ?_
  have KP := Keep.refl h0 [d]
  have hz : 0 ≠ ((1 : Int32)).toNatClampNeg := by decide
  refine W.ic d16_0 0 rfl ?_
  refine W.iss (Ls' := #[rv b, iv 0, rv d, iv 0, iv 1, iv 0, .unset]) d16_1 rfl ?_
  refine W.il d16_3 rfl ?_
  refine W.il d16_5 rfl ?_
  refine W.cn d16_7 (tlt (by decide : (0 : Int32) < (1 : Int32))).2.1 ?_
  refine W.an d16_10 rfl rfl ?_
  refine W.iN d16_11 rfl ?_
  refine W.caload Vb (by decide) rfl d16_12 ?_
  show Go (g := mkF m 13 #[rv b, iv 0, rv d, iv 0, iv 1, iv 0, .unset] [(.int c0)]) ..
  refine W.iss (Ls' := #[rv b, iv 0, rv d, iv 0, iv 1, iv 0, iv c0]) d16_13 rfl ?_
  refine W.il d16_15 rfl ?_
  refine W.sp d16_17 255 rfl ?_
  by_cases hc1 : (255 : Int32) < c0
  · refine W.cn d16_20 (tlt hc1).2.2.2 ?_
    refine W.il d16_23 rfl ?_
    exact W.retI d16_25 (⟨0, rfl, by decide, hc1, KP⟩) (by decide) (by decide)
  · refine W.cy (pc' := 26) d16_20 (flt hc1).2.2.2 (by decide) (by decide) ?_
    refine W.an d16_26 rfl rfl ?_
    refine W.iN d16_27 rfl ?_
    refine W.il d16_28 rfl ?_
    refine Go.step (fun _ kz => XS.i2b W.here W.hx rfl (W.d d16_30) rfl kz) ?_
    show Go (g := mkF m 31 #[rv b, iv 0, rv d, iv 0, iv 1, iv 0, iv c0] [(.int (c0.toInt8.toInt32)), (.int 0), (.ref d)]) ..
    refine W.bastore Vd 0 rfl (by simp) (by decide) gd (Safe.byt W.hZ (X.sb hz) Vd) d16_31 ?_
    intro T h W K2 Vd'
    replace KP := KP.otrM K2 (by simp)
    replace Vb := Vb.keep K2 (nin1 ne)
    replace hsz := W.size
    replace Vd : Arv Z h d kd .byte (1 : Int32) [(.int (nar .byte (c0.toInt8.toInt32)))] (.int (0 : Int32)) := Vd'
    refine W.ii (Ls' := #[rv b, iv 1, rv d, iv 0, iv 1, iv 0, iv c0]) d16_32 rfl rfl ?_
    refine W.ii (Ls' := #[rv b, iv 1, rv d, iv 1, iv 1, iv 0, iv c0]) d16_35 rfl rfl ?_
    refine W.ii (Ls' := #[rv b, iv 1, rv d, iv 1, iv 1, iv 1, iv c0]) d16_38 rfl rfl ?_
    refine W.gt (pc' := 3) d16_41 (by decide) (by decide) ?_
    refine W.il d16_3 rfl ?_
    refine W.il d16_5 rfl ?_
    refine W.cy (pc' := 44) d16_7 (flt (by decide : ¬ ((1 : Int32) < (1 : Int32)))).2.1 (by decide) (by decide) ?_
    refine W.il d16_44 rfl ?_
    exact absurd hc1 hU

theorem efcmp1 (m : MethodId) (x0 : Addr) (x1 : Int32) (x2 : Int32) : entryFrame m #[(.ref x0), (.int x1), (.int x2)] 6 = mkF m 0 #[.val (.ref x0), .val (.int x1), .val (.int x2), .unset, .unset, .unset] [] := by first | (simp [entryFrame, mkF, argsToLocals, Value.category]; done) | rfl
set_option maxRecDepth 65536 in
set_option maxHeartbeats 40000000 in
theorem c_cmp1 {l : Launch} {Z : State} {a0 : Array Value} {G1 : Int32} (X : Ctx Z a0 G1) (b : Addr) (kb : ClassId) (c0 : Int32) (sv : Value) (h0 : Heap) (hE : Ext Z.heap h0) (Y : U16 Z sv) (Vb : Arv Z h0 b kb .char (1 : Int32) [(.int c0)] (.int (0 : Int32))) (hU : ¬ (¬ (255 : Int32) < c0)) (hCh : ∀ c ∈ [c0], Ch c) :
    Con l Z consts_1 (⟨"java/lang/StringUTF16", "compress", "([CII)[B"⟩ : MethodName) jdk_52_method_16_code 6 (some (.array .byte)) [] ({ frames := 3, cells := 2, slots := 21, locals := 40 } : Room) #[(.ref b), (.int (0 : Int32)), (.int (1 : Int32))] h0 (fun v h => ∃ (t : Addr) (kt : ClassId), v = some (.ref t) ∧ h0.size ≤ t ∧ Keep h0 h [] ∧ Arv Z h t kt .byte (N (2 * 1)) (encU [c0]) (.int (0 : Int32))) := by
  refine Con.intro (plainFor_of_name pn_2) hE X.el ?_
  intro p e s m below meth c T W
  have hsz := W.size
  refine Go.cast (efcmp1 m b (0 : Int32) (1 : Int32)) ?_
  have KP := Keep.refl h0 []
  refine W.iN d17_0 rfl ?_
  refine W.newarr (X.w 20 rfl) d17_1 (by decide) (cap := 1) (by decide) (by decide) (by decide) (by decide) ?_
  intro T h b1 kb1 hb1 W Eb1 Vb1 Sfb1
  have sz_b1 : h0.size ≤ b1 := by rw [hb1]; exact KP.1
  have ne_b_b1 : b ≠ b1 := by rw [hb1]; exact Nat.ne_of_lt Vb.lt
  have gb1 : Z.heap.size ≤ b1 := by rw [hb1]; exact hsz
  replace KP := KP.ext Eb1
  replace Vb := Vb.ext Eb1
  replace hsz := W.size
  replace Vb1 : Arv Z h b1 kb1 .byte (1 : Int32) [(.int (0 : Int32))] (.int (0 : Int32)) := Vb1.pad (pad_rep [] (.int (0 : Int32)) 1)
  refine W.asn (Ls' := #[rv b, iv 0, iv 1, rv b1, .unset, .unset]) d17_3 rfl rfl ?_
  refine W.an d17_4 rfl rfl ?_
  refine W.iN d17_5 rfl ?_
  refine W.an d17_6 rfl rfl ?_
  refine W.ic d17_7 0 rfl ?_
  refine W.iN d17_8 rfl ?_
  refine W.callS (X.w 21 rfl) (X.w 22 rfl) (X.w 18 rfl) (X.w 23 rfl) (by decide) (c_cmv1 X b b1 _ _ c0 _ W.ext gb1 Vb Vb1 ne_b_b1 hU) (by decide) (Wd := 0) (by decide) [(.ref b), (.int (0 : Int32)), (.ref b1), (.int (0 : Int32)), (.int (1 : Int32))] [] rfl pd_11 rfl rfl rfl (Nat.le_of_eq rfl) d17_9 (by decide) (by decide) ?_
  intro v T h vm W hQ C
  obtain ⟨j, rfl, hj, hj255, K2⟩ := hQ
  replace KP := KP.otrN K2 sz_b1
  replace Vb := Vb.keep K2 (nin1 ne_b_b1)
  replace hsz := W.size
  show Go (g := mkF m 12 #[rv b, iv 0, iv 1, rv b1, .unset, .unset] [(.int (N j))]) ..
  refine W.iss (Ls' := #[rv b, iv 0, iv 1, rv b1, iv (N j), .unset]) d17_12 rfl ?_
  refine W.il d17_14 rfl ?_
  refine W.iN d17_16 rfl ?_
  refine W.cn d17_17 (feq (fun q => by have := (N_inj (a := j) (b := 1) (by omega) (by omega)).mp q; omega)).1 ?_
  refine W.an d17_20 rfl rfl ?_
  refine W.iN d17_21 rfl ?_
  refine W.iN d17_22 rfl ?_
  refine W.callS (X.w 174 rfl) (X.w 175 rfl) (X.w 18 rfl) (X.w 176 rfl) (by decide) (c_tby1 X b _ c0 sv _ W.ext Y Vb) (by decide) (Wd := 0) (by decide) [(.ref b), (.int (0 : Int32)), (.int (1 : Int32))] [] rfl pd_12 rfl rfl rfl (Nat.le_of_eq rfl) d17_23 (by decide) (by decide) ?_
  intro v T h vm W hQ C
  obtain ⟨b3, kb3, rfl, hn_b3, Kb3, Vb3⟩ := hQ
  have sz_b3 : h0.size ≤ b3 := Nat.le_trans KP.1 hn_b3
  replace KP := KP.otr0 Kb3
  replace Vb := Vb.keep Kb3 nin0
  replace hsz := W.size
  show Go (g := mkF m 26 #[rv b, iv 0, iv 1, rv b1, iv (N j), .unset] [(.ref b3)]) ..
  refine W.ass (Ls' := #[rv b, iv 0, iv 1, rv b1, iv (N j), rv b3]) d17_26 rfl rfl ?_
  refine W.al d17_28 rfl rfl ?_
  refine W.il d17_30 rfl ?_
  have tc : Ch (([c0] : List Int32).getD j 0) := getD_all (P := Ch) hCh hj
  refine W.callS (X.w 190 rfl) (X.w 191 rfl) (X.w 18 rfl) (X.w 192 rfl) (by decide) (c_gec X b3 _ j 1 (([c0] : List Int32).getD j 0) _ sv _ W.ext Y Vb3 (by omega) (by omega) tc (encU_at [c0] j hj _).1 (encU_at [c0] j hj _).2) (by decide) (Wd := 0) (by decide) [(.ref b3), (.int (N j))] [] rfl pd_5 rfl rfl rfl (Nat.le_of_eq rfl) d17_32 (by decide) (by decide) ?_
  intro v T h vm W hQ C
  obtain ⟨rfl, rfl⟩ := hQ
  show Go (g := mkF m 35 #[rv b, iv 0, iv 1, rv b1, iv (N j), rv b3] [(.int (([c0] : List Int32).getD j 0))]) ..
  refine W.sp d17_35 255 rfl ?_
  refine W.cy (pc' := 54) d17_38 (tlt hj255).2.2.1 (by decide) (by decide) ?_
  refine W.al d17_54 rfl rfl ?_
  exact W.retR rfl rfl rfl d17_56 (⟨b3, _, rfl, sz_b3, KP, Vb3⟩) (by decide) (by decide)

theorem efcfa1 (m : MethodId) (x0 : Addr) (x1 : Int32) : entryFrame m #[(.ref x0), (.int x1)] 2 = mkF m 0 #[.val (.ref x0), .val (.int x1)] [] := by first | (simp [entryFrame, mkF, argsToLocals, Value.category]; done) | rfl
set_option maxRecDepth 65536 in
set_option maxHeartbeats 40000000 in
theorem c_cfa1 {l : Launch} {Z : State} {a0 : Array Value} {G1 : Int32} (X : Ctx Z a0 G1) (t : Addr) (kt : ClassId) (vs : List Value) (h0 : Heap) (hE : Ext Z.heap h0) (V : Arv Z h0 t kt .byte (N (2 * 1)) vs (.int (0 : Int32))) :
    Con l Z consts_1 (⟨"java/lang/StringUTF16", "coderFromArrayLen", "([BI)B"⟩ : MethodName) jdk_52_method_15_code 2 (some .byte) [] ({ frames := 0, cells := 0, slots := 0, locals := 0 } : Room) #[(.ref t), (.int (1 : Int32))] h0 (fun v h => v = some (.int (1 : Int32)) ∧ h0 = h) := by
  refine Con.intro (plainFor_of_name pn_2) hE X.el ?_
  intro p e s m below meth c T W
  have hsz := W.size
  refine Go.cast (efcfa1 m t (1 : Int32)) ?_
  refine W.iN d18_0 rfl ?_
  refine W.an d18_1 rfl rfl ?_
  refine W.arraylength V d18_2 ?_
  refine Go.step (fun _ kz => XS.isub W.here W.hx rfl (W.d d18_3) rfl kz) ?_
  show Go (g := mkF m 4 #[rv t, iv 1] [(.int ((1 : Int32) - (N (2 * 1))))]) ..
  refine W.bp d18_4 31 rfl ?_
  refine Go.step (fun _ kz => XS.iushr W.here W.hx rfl (W.d d18_6) rfl kz) ?_
  show Go (g := mkF m 7 #[rv t, iv 1] [(.int ((((1 : Int32) - (N (2 * 1))).toUInt32 >>> ((31 : Int32) &&& 31).toUInt32).toInt32))]) ..
  refine Go.step (fun _ kz => XS.i2b W.here W.hx rfl (W.d d18_7) rfl kz) ?_
  show Go (g := mkF m 8 #[rv t, iv 1] [(.int (((((1 : Int32) - (N (2 * 1))).toUInt32 >>> ((31 : Int32) &&& 31).toUInt32).toInt32).toInt8.toInt32))]) ..
  exact W.retN (by simp) d18_8 (⟨by decide, rfl⟩) (by decide) (by decide)

theorem efinv1 (m : MethodId) (x0 : Addr) (x1 : Addr) (x2 : Int32) (x3 : Int32) : entryFrame m #[(.ref x0), (.ref x1), (.int x2), (.int x3), .null] 6 = mkF m 0 #[.val (.ref x0), .val (.ref x1), .val (.int x2), .val (.int x3), .val .null, .unset] [] := by first | (simp [entryFrame, mkF, argsToLocals, Value.category]; done) | rfl
set_option maxRecDepth 65536 in
set_option maxHeartbeats 40000000 in
theorem c_inv1 {l : Launch} {Z : State} {a0 : Array Value} {G1 : Int32} (X : Ctx Z a0 G1) (a b : Addr) (kb : ClassId) (c0 : Int32) (sv : Value) (h0 : Heap) (hE : Ext Z.heap h0) (Y : U16 Z sv) (ga : Z.heap.size ≤ a) (A : Exa Z h0 a "java/lang/String") (FV : Fld Z h0 a "java/lang/String" "value" "[B" .null) (FC : Fld Z h0 a "java/lang/String" "coder" "B" (.int (0 : Int32))) (Vb : Arv Z h0 b kb .char (1 : Int32) [(.int c0)] (.int (0 : Int32))) (hU : ¬ (¬ (255 : Int32) < c0)) (hCh : ∀ c ∈ [c0], Ch c) :
    Con l Z consts_1 (⟨"java/lang/String", "<init>", "([CIILjava/lang/Void;)V"⟩ : MethodName) jdk_42_method_149_code 6 none [] ({ frames := 4, cells := 2, slots := 21, locals := 57 } : Room) #[(.ref a), (.ref b), (.int (0 : Int32)), (.int (1 : Int32)), .null] h0 (fun v h => v = none ∧ Keep h0 h [a] ∧ StrU Z h a [c0]) := by
  refine Con.intro (plainFor_of_name pn_0) hE X.el ?_
  intro p e s m below meth c T W
  have hsz := W.size
  refine Go.cast (efinv1 m a b (0 : Int32) (1 : Int32)) ?_
  have KP := Keep.refl h0 [a]
  have ne_ab : a ≠ b := Exa.neArv A Vb (X.w 3 rfl)
  refine W.an d19_0 rfl rfl ?_
  refine W.initO (X.w 12 rfl) (X.w 13 rfl) (X.w 14 rfl) rfl d19_1 (by decide) (Wd := 0) (Nat.le_of_eq rfl) (by decide) ?_
  intro T W
  show Go (g := mkF m 4 #[rv a, rv b, iv 0, iv 1, .val .null, .unset] []) ..
  refine W.iN d19_4 rfl ?_
  refine W.fy (pc' := 27) d19_5 ((if0 _ _).trans (feq (by decide : ¬ ((1 : Int32) = (0 : Int32)))).2) (by decide) (by decide) ?_
  refine W.getS (host := "") (Or.inl (X.w 15 rfl)) Via.refl X.2.1 d19_27 ?_
  intro T W
  refine W.fn d19_30 ((if0 _ _).trans (feq X.2.2.1).1) ?_
  refine W.an d19_33 rfl rfl ?_
  refine W.iN d19_34 rfl ?_
  refine W.iN d19_35 rfl ?_
  refine W.callS (X.w 16 rfl) (X.w 17 rfl) (X.w 18 rfl) (X.w 19 rfl) (by decide) (c_cmp1 X b _ c0 sv _ W.ext Y Vb hU hCh) (by decide) (Wd := 0) (by decide) [(.ref b), (.int (0 : Int32)), (.int (1 : Int32))] [] rfl pd_12 rfl rfl rfl (Nat.le_of_eq rfl) d19_36 (by decide) (by decide) ?_
  intro v T h vm W hQ C
  obtain ⟨b1, kb1, rfl, hn_b1, Kb1, Vb1⟩ := hQ
  have ne_a_b1 : a ≠ b1 := Nat.ne_of_lt (Nat.lt_of_lt_of_le A.lt hn_b1)
  replace FV := FV.keep Kb1 nin0
  replace FC := FC.keep Kb1 nin0
  replace KP := KP.otr0 Kb1
  replace Vb := Vb.keep Kb1 nin0
  replace A := A.keep Kb1
  replace hsz := W.size
  show Go (g := mkF m 39 #[rv a, rv b, iv 0, iv 1, .val .null, .unset] [(.ref b1)]) ..
  refine W.ass (Ls' := #[rv a, rv b, iv 0, iv 1, .val .null, rv b1]) d19_39 rfl rfl ?_
  refine W.an d19_41 rfl rfl ?_
  refine W.al d19_42 rfl rfl ?_
  refine W.iN d19_44 rfl ?_
  refine W.callS (X.w 24 rfl) (X.w 25 rfl) (X.w 18 rfl) (X.w 26 rfl) (by decide) (c_cfa1 X b1 _ _ _ W.ext Vb1) (by decide) (Wd := 1) (by decide) [(.ref b1), (.int (1 : Int32))] [(.ref a)] rfl pd_13 rfl rfl rfl (Nat.le_of_eq rfl) d19_45 (by decide) (by decide) ?_
  intro v T h vm W hQ C
  obtain ⟨rfl, rfl⟩ := hQ
  show Go (g := mkF m 48 #[rv a, rv b, iv 0, iv 1, .val .null, rv b1] [(.int 1), (.ref a)]) ..
  refine W.putF (host := "") (Or.inl (X.w 27 rfl)) Via.refl FC A (Or.inr ⟨(X.w 28 rfl), rfl, rfl⟩) (X.w 3 rfl) (ty := .byte) (by decide) (by decide) (by decide) ga (Safe.blank W.hZ.alike A FV) d19_48 ?_
  intro T h W Wr2 FC'
  replace FV := FV.other Wr2 (Or.inr (slot_ne (Or.inr (X.w 30 rfl)) (Or.inr (X.w 28 rfl)) (by decide) (t := (.array .byte)) (t' := .byte) (by decide) (by decide)))
  replace KP := KP.otrM (Keep.of_wr Wr2) (by simp)
  replace Vb := Vb.keep (Keep.of_wr Wr2) (nin1 (Ne.symm ne_ab))
  replace Vb1 := Vb1.keep (Keep.of_wr Wr2) (nin1 (Ne.symm ne_a_b1))
  replace A := A.keep (Keep.of_wr Wr2)
  replace hsz := W.size
  replace FC := FC'
  refine W.an d19_51 rfl rfl ?_
  refine W.al d19_52 rfl rfl ?_
  refine W.putF (host := "") (Or.inl (X.w 29 rfl)) Via.refl FV A (Or.inr ⟨(X.w 30 rfl), rfl, rfl⟩) (X.w 3 rfl) (ty := (.array .byte)) (by decide) rfl rfl ga (Safe.blank W.hZ.alike A FV) d19_54 ?_
  intro T h W Wr3 FV'
  replace FC := FC.other Wr3 (Or.inr (slot_ne (Or.inr (X.w 28 rfl)) (Or.inr (X.w 30 rfl)) (by decide) (t := .byte) (t' := (.array .byte)) (by decide) (by decide)))
  replace KP := KP.otrM (Keep.of_wr Wr3) (by simp)
  replace Vb := Vb.keep (Keep.of_wr Wr3) (nin1 (Ne.symm ne_ab))
  replace Vb1 := Vb1.keep (Keep.of_wr Wr3) (nin1 (Ne.symm ne_a_b1))
  replace A := A.keep (Keep.of_wr Wr3)
  replace hsz := W.size
  replace FV := FV'
  exact W.retV d19_57 (⟨rfl, KP, b1, _, A, FV, FC, Vb1, hCh, by simp⟩) (by decide) (by decide)

theorem efinc1 (m : MethodId) (x0 : Addr) (x1 : Addr) : entryFrame m #[(.ref x0), (.ref x1)] 2 = mkF m 0 #[.val (.ref x0), .val (.ref x1)] [] := by first | (simp [entryFrame, mkF, argsToLocals, Value.category]; done) | rfl
set_option maxRecDepth 65536 in
set_option maxHeartbeats 40000000 in
theorem c_inc1 {l : Launch} {Z : State} {a0 : Array Value} {G1 : Int32} (X : Ctx Z a0 G1) (a b : Addr) (kb : ClassId) (c0 : Int32) (sv : Value) (h0 : Heap) (hE : Ext Z.heap h0) (Y : U16 Z sv) (ga : Z.heap.size ≤ a) (A : Exa Z h0 a "java/lang/String") (FV : Fld Z h0 a "java/lang/String" "value" "[B" .null) (FC : Fld Z h0 a "java/lang/String" "coder" "B" (.int (0 : Int32))) (Vb : Arv Z h0 b kb .char (1 : Int32) [(.int c0)] (.int (0 : Int32))) (hU : ¬ (¬ (255 : Int32) < c0)) (hCh : ∀ c ∈ [c0], Ch c) :
    Con l Z consts_1 (⟨"java/lang/String", "<init>", "([C)V"⟩ : MethodName) jdk_42_method_3_code 2 none [] ({ frames := 5, cells := 2, slots := 21, locals := 74 } : Room) #[(.ref a), (.ref b)] h0 (fun v h => v = none ∧ Keep h0 h [a] ∧ StrU Z h a [c0]) := by
  refine Con.intro (plainFor_of_name pn_0) hE X.el ?_
  intro p e s m below meth c T W
  have hsz := W.size
  refine Go.cast (efinc1 m a b) ?_
  refine W.an d0_0 rfl rfl ?_
  refine W.an d0_1 rfl rfl ?_
  refine W.ic d0_2 0 rfl ?_
  refine W.an d0_3 rfl rfl ?_
  refine W.arraylength Vb d0_4 ?_
  refine Go.step (fun _ kz => XS.aconstNull W.here W.hx rfl (W.d d0_5) kz) ?_
  show Go (g := mkF m 6 #[rv a, rv b] [.null, (.int 1), (.int 0), (.ref b), (.ref a)]) ..
  refine W.special rfl (X.w 8 rfl) (X.w 9 rfl) (X.w 4 rfl) (X.w 11 rfl) (by decide) (c_inv1 X a b _ c0 sv _ W.ext Y ga A FV FC Vb hU hCh) (by decide) (Wd := 0) (by decide) a [(.ref b), (.int (0 : Int32)), (.int (1 : Int32)), .null] [] rfl pd_0 rfl rfl rfl (Nat.le_of_eq rfl) d0_6 (by decide) (by decide) ?_
  intro v T h vm W hQ C
  obtain ⟨rfl, hK, hS⟩ := hQ
  show Go (g := mkF m 9 #[rv a, rv b] []) ..
  exact W.retV d0_9 (⟨rfl, hK, hS⟩) (by decide) (by decide)

theorem efcmv2 (m : MethodId) (x0 : Addr) (x1 : Int32) (x2 : Addr) (x3 : Int32) (x4 : Int32) : entryFrame m #[(.ref x0), (.int x1), (.ref x2), (.int x3), (.int x4)] 7 = mkF m 0 #[.val (.ref x0), .val (.int x1), .val (.ref x2), .val (.int x3), .val (.int x4), .unset, .unset] [] := by first | (simp [entryFrame, mkF, argsToLocals, Value.category]; done) | rfl
set_option maxRecDepth 65536 in
set_option maxHeartbeats 40000000 in
theorem c_cmv2 {l : Launch} {Z : State} {a0 : Array Value} {G1 : Int32} (X : Ctx Z a0 G1) (b d : Addr) (kb kd : ClassId) (c0 c1 : Int32) (h0 : Heap) (hE : Ext Z.heap h0) (gd : Z.heap.size ≤ d) (Vb : Arv Z h0 b kb .char (2 : Int32) [(.int c0), (.int c1)] (.int (0 : Int32))) (Vd : Arv Z h0 d kd .byte (2 : Int32) [(.int (0 : Int32)), (.int (0 : Int32))] (.int (0 : Int32))) (ne : b ≠ d) (hU : ¬ (¬ (255 : Int32) < c0 ∧ ¬ (255 : Int32) < c1)) :
    Con l Z consts_1 (⟨"java/lang/StringUTF16", "compress", "([CI[BII)I"⟩ : MethodName) jdk_52_method_21_code 7 (some .int) [] ({ frames := 0, cells := 0, slots := 0, locals := 0 } : Room) #[(.ref b), (.int (0 : Int32)), (.ref d), (.int (0 : Int32)), (.int (2 : Int32))] h0 (fun v h => ∃ j : Nat, v = some (.int (N j)) ∧ j < 2 ∧ (255 : Int32) < ([c0, c1] : List Int32).getD j 0 ∧ Keep h0 h [d]) := by
  refine Con.intro (plainFor_of_name pn_2) hE X.el ?_
  intro p e s m below meth c T W
  have hsz := W.size
  refine Go.cast (efcmv2 m b (0 : Int32) d (0 : Int32) (2 : Int32)) ?_
  have KP := Keep.refl h0 [d]
  have hz : 0 ≠ ((2 : Int32)).toNatClampNeg := by decide
  refine W.ic d16_0 0 rfl ?_
  refine W.iss (Ls' := #[rv b, iv 0, rv d, iv 0, iv 2, iv 0, .unset]) d16_1 rfl ?_
  refine W.il d16_3 rfl ?_
  refine W.il d16_5 rfl ?_
  refine W.cn d16_7 (tlt (by decide : (0 : Int32) < (2 : Int32))).2.1 ?_
  refine W.an d16_10 rfl rfl ?_
  refine W.iN d16_11 rfl ?_
  refine W.caload Vb (by decide) rfl d16_12 ?_
  show Go (g := mkF m 13 #[rv b, iv 0, rv d, iv 0, iv 2, iv 0, .unset] [(.int c0)]) ..
  refine W.iss (Ls' := #[rv b, iv 0, rv d, iv 0, iv 2, iv 0, iv c0]) d16_13 rfl ?_
  refine W.il d16_15 rfl ?_
  refine W.sp d16_17 255 rfl ?_
  by_cases hc1 : (255 : Int32) < c0
  · refine W.cn d16_20 (tlt hc1).2.2.2 ?_
    refine W.il d16_23 rfl ?_
    exact W.retI d16_25 (⟨0, rfl, by decide, hc1, KP⟩) (by decide) (by decide)
  · refine W.cy (pc' := 26) d16_20 (flt hc1).2.2.2 (by decide) (by decide) ?_
    refine W.an d16_26 rfl rfl ?_
    refine W.iN d16_27 rfl ?_
    refine W.il d16_28 rfl ?_
    refine Go.step (fun _ kz => XS.i2b W.here W.hx rfl (W.d d16_30) rfl kz) ?_
    show Go (g := mkF m 31 #[rv b, iv 0, rv d, iv 0, iv 2, iv 0, iv c0] [(.int (c0.toInt8.toInt32)), (.int 0), (.ref d)]) ..
    refine W.bastore Vd 0 rfl (by simp) (by decide) gd (Safe.byt W.hZ (X.sb hz) Vd) d16_31 ?_
    intro T h W K2 Vd'
    replace KP := KP.otrM K2 (by simp)
    replace Vb := Vb.keep K2 (nin1 ne)
    replace hsz := W.size
    replace Vd : Arv Z h d kd .byte (2 : Int32) [(.int (nar .byte (c0.toInt8.toInt32))), (.int (0 : Int32))] (.int (0 : Int32)) := Vd'
    refine W.ii (Ls' := #[rv b, iv 1, rv d, iv 0, iv 2, iv 0, iv c0]) d16_32 rfl rfl ?_
    refine W.ii (Ls' := #[rv b, iv 1, rv d, iv 1, iv 2, iv 0, iv c0]) d16_35 rfl rfl ?_
    refine W.ii (Ls' := #[rv b, iv 1, rv d, iv 1, iv 2, iv 1, iv c0]) d16_38 rfl rfl ?_
    refine W.gt (pc' := 3) d16_41 (by decide) (by decide) ?_
    refine W.il d16_3 rfl ?_
    refine W.il d16_5 rfl ?_
    refine W.cn d16_7 (tlt (by decide : (1 : Int32) < (2 : Int32))).2.1 ?_
    refine W.an d16_10 rfl rfl ?_
    refine W.iN d16_11 rfl ?_
    refine W.caload Vb (by decide) rfl d16_12 ?_
    show Go (g := mkF m 13 #[rv b, iv 1, rv d, iv 1, iv 2, iv 1, iv c0] [(.int c1)]) ..
    refine W.iss (Ls' := #[rv b, iv 1, rv d, iv 1, iv 2, iv 1, iv c1]) d16_13 rfl ?_
    refine W.il d16_15 rfl ?_
    refine W.sp d16_17 255 rfl ?_
    by_cases hc3 : (255 : Int32) < c1
    · refine W.cn d16_20 (tlt hc3).2.2.2 ?_
      refine W.il d16_23 rfl ?_
      exact W.retI d16_25 (⟨1, rfl, by decide, hc3, KP⟩) (by decide) (by decide)
    · refine W.cy (pc' := 26) d16_20 (flt hc3).2.2.2 (by decide) (by decide) ?_
      refine W.an d16_26 rfl rfl ?_
      refine W.iN d16_27 rfl ?_
      refine W.il d16_28 rfl ?_
      refine Go.step (fun _ kz => XS.i2b W.here W.hx rfl (W.d d16_30) rfl kz) ?_
      show Go (g := mkF m 31 #[rv b, iv 1, rv d, iv 1, iv 2, iv 1, iv c1] [(.int (c1.toInt8.toInt32)), (.int 1), (.ref d)]) ..
      refine W.bastore Vd 1 rfl (by simp) (by decide) gd (Safe.byt W.hZ (X.sb hz) Vd) d16_31 ?_
      intro T h W K4 Vd'
      replace KP := KP.otrM K4 (by simp)
      replace Vb := Vb.keep K4 (nin1 ne)
      replace hsz := W.size
      replace Vd : Arv Z h d kd .byte (2 : Int32) [(.int (nar .byte (c0.toInt8.toInt32))), (.int (nar .byte (c1.toInt8.toInt32)))] (.int (0 : Int32)) := Vd'
      refine W.ii (Ls' := #[rv b, iv 2, rv d, iv 1, iv 2, iv 1, iv c1]) d16_32 rfl rfl ?_
      refine W.ii (Ls' := #[rv b, iv 2, rv d, iv 2, iv 2, iv 1, iv c1]) d16_35 rfl rfl ?_
      refine W.ii (Ls' := #[rv b, iv 2, rv d, iv 2, iv 2, iv 2, iv c1]) d16_38 rfl rfl ?_
      refine W.gt (pc' := 3) d16_41 (by decide) (by decide) ?_
      refine W.il d16_3 rfl ?_
      refine W.il d16_5 rfl ?_
      refine W.cy (pc' := 44) d16_7 (flt (by decide : ¬ ((2 : Int32) < (2 : Int32)))).2.1 (by decide) (by decide) ?_
      refine W.il d16_44 rfl ?_
      exact absurd ⟨hc1, hc3⟩ hU

theorem efcmp2 (m : MethodId) (x0 : Addr) (x1 : Int32) (x2 : Int32) : entryFrame m #[(.ref x0), (.int x1), (.int x2)] 6 = mkF m 0 #[.val (.ref x0), .val (.int x1), .val (.int x2), .unset, .unset, .unset] [] := by first | (simp [entryFrame, mkF, argsToLocals, Value.category]; done) | rfl
set_option maxRecDepth 65536 in
set_option maxHeartbeats 40000000 in
theorem c_cmp2 {l : Launch} {Z : State} {a0 : Array Value} {G1 : Int32} (X : Ctx Z a0 G1) (b : Addr) (kb : ClassId) (c0 c1 : Int32) (sv : Value) (h0 : Heap) (hE : Ext Z.heap h0) (Y : U16 Z sv) (Vb : Arv Z h0 b kb .char (2 : Int32) [(.int c0), (.int c1)] (.int (0 : Int32))) (hU : ¬ (¬ (255 : Int32) < c0 ∧ ¬ (255 : Int32) < c1)) (hCh : ∀ c ∈ [c0, c1], Ch c) :
    Con l Z consts_1 (⟨"java/lang/StringUTF16", "compress", "([CII)[B"⟩ : MethodName) jdk_52_method_16_code 6 (some (.array .byte)) [] ({ frames := 3, cells := 2, slots := 22, locals := 40 } : Room) #[(.ref b), (.int (0 : Int32)), (.int (2 : Int32))] h0 (fun v h => ∃ (t : Addr) (kt : ClassId), v = some (.ref t) ∧ h0.size ≤ t ∧ Keep h0 h [] ∧ Arv Z h t kt .byte (N (2 * 2)) (encU [c0, c1]) (.int (0 : Int32))) := by
  refine Con.intro (plainFor_of_name pn_2) hE X.el ?_
  intro p e s m below meth c T W
  have hsz := W.size
  refine Go.cast (efcmp2 m b (0 : Int32) (2 : Int32)) ?_
  have KP := Keep.refl h0 []
  refine W.iN d17_0 rfl ?_
  refine W.newarr (X.w 20 rfl) d17_1 (by decide) (cap := 2) (by decide) (by decide) (by decide) (by decide) ?_
  intro T h b1 kb1 hb1 W Eb1 Vb1 Sfb1
  have sz_b1 : h0.size ≤ b1 := by rw [hb1]; exact KP.1
  have ne_b_b1 : b ≠ b1 := by rw [hb1]; exact Nat.ne_of_lt Vb.lt
  have gb1 : Z.heap.size ≤ b1 := by rw [hb1]; exact hsz
  replace KP := KP.ext Eb1
  replace Vb := Vb.ext Eb1
  replace hsz := W.size
  replace Vb1 : Arv Z h b1 kb1 .byte (2 : Int32) [(.int (0 : Int32)), (.int (0 : Int32))] (.int (0 : Int32)) := Vb1.pad (pad_rep [] (.int (0 : Int32)) 2)
  refine W.asn (Ls' := #[rv b, iv 0, iv 2, rv b1, .unset, .unset]) d17_3 rfl rfl ?_
  refine W.an d17_4 rfl rfl ?_
  refine W.iN d17_5 rfl ?_
  refine W.an d17_6 rfl rfl ?_
  refine W.ic d17_7 0 rfl ?_
  refine W.iN d17_8 rfl ?_
  refine W.callS (X.w 21 rfl) (X.w 22 rfl) (X.w 18 rfl) (X.w 23 rfl) (by decide) (c_cmv2 X b b1 _ _ c0 c1 _ W.ext gb1 Vb Vb1 ne_b_b1 hU) (by decide) (Wd := 0) (by decide) [(.ref b), (.int (0 : Int32)), (.ref b1), (.int (0 : Int32)), (.int (2 : Int32))] [] rfl pd_11 rfl rfl rfl (Nat.le_of_eq rfl) d17_9 (by decide) (by decide) ?_
  intro v T h vm W hQ C
  obtain ⟨j, rfl, hj, hj255, K2⟩ := hQ
  replace KP := KP.otrN K2 sz_b1
  replace Vb := Vb.keep K2 (nin1 ne_b_b1)
  replace hsz := W.size
  show Go (g := mkF m 12 #[rv b, iv 0, iv 2, rv b1, .unset, .unset] [(.int (N j))]) ..
  refine W.iss (Ls' := #[rv b, iv 0, iv 2, rv b1, iv (N j), .unset]) d17_12 rfl ?_
  refine W.il d17_14 rfl ?_
  refine W.iN d17_16 rfl ?_
  refine W.cn d17_17 (feq (fun q => by have := (N_inj (a := j) (b := 2) (by omega) (by omega)).mp q; omega)).1 ?_
  refine W.an d17_20 rfl rfl ?_
  refine W.iN d17_21 rfl ?_
  refine W.iN d17_22 rfl ?_
  refine W.callS (X.w 174 rfl) (X.w 175 rfl) (X.w 18 rfl) (X.w 176 rfl) (by decide) (c_tby2 X b _ c0 c1 sv _ W.ext Y Vb) (by decide) (Wd := 0) (by decide) [(.ref b), (.int (0 : Int32)), (.int (2 : Int32))] [] rfl pd_12 rfl rfl rfl (Nat.le_of_eq rfl) d17_23 (by decide) (by decide) ?_
  intro v T h vm W hQ C
  obtain ⟨b3, kb3, rfl, hn_b3, Kb3, Vb3⟩ := hQ
  have sz_b3 : h0.size ≤ b3 := Nat.le_trans KP.1 hn_b3
  replace KP := KP.otr0 Kb3
  replace Vb := Vb.keep Kb3 nin0
  replace hsz := W.size
  show Go (g := mkF m 26 #[rv b, iv 0, iv 2, rv b1, iv (N j), .unset] [(.ref b3)]) ..
  refine W.ass (Ls' := #[rv b, iv 0, iv 2, rv b1, iv (N j), rv b3]) d17_26 rfl rfl ?_
  refine W.al d17_28 rfl rfl ?_
  refine W.il d17_30 rfl ?_
  have tc : Ch (([c0, c1] : List Int32).getD j 0) := getD_all (P := Ch) hCh hj
  refine W.callS (X.w 190 rfl) (X.w 191 rfl) (X.w 18 rfl) (X.w 192 rfl) (by decide) (c_gec X b3 _ j 2 (([c0, c1] : List Int32).getD j 0) _ sv _ W.ext Y Vb3 (by omega) (by omega) tc (encU_at [c0, c1] j hj _).1 (encU_at [c0, c1] j hj _).2) (by decide) (Wd := 0) (by decide) [(.ref b3), (.int (N j))] [] rfl pd_5 rfl rfl rfl (Nat.le_of_eq rfl) d17_32 (by decide) (by decide) ?_
  intro v T h vm W hQ C
  obtain ⟨rfl, rfl⟩ := hQ
  show Go (g := mkF m 35 #[rv b, iv 0, iv 2, rv b1, iv (N j), rv b3] [(.int (([c0, c1] : List Int32).getD j 0))]) ..
  refine W.sp d17_35 255 rfl ?_
  refine W.cy (pc' := 54) d17_38 (tlt hj255).2.2.1 (by decide) (by decide) ?_
  refine W.al d17_54 rfl rfl ?_
  exact W.retR rfl rfl rfl d17_56 (⟨b3, _, rfl, sz_b3, KP, Vb3⟩) (by decide) (by decide)

theorem efcfa2 (m : MethodId) (x0 : Addr) (x1 : Int32) : entryFrame m #[(.ref x0), (.int x1)] 2 = mkF m 0 #[.val (.ref x0), .val (.int x1)] [] := by first | (simp [entryFrame, mkF, argsToLocals, Value.category]; done) | rfl
set_option maxRecDepth 65536 in
set_option maxHeartbeats 40000000 in
theorem c_cfa2 {l : Launch} {Z : State} {a0 : Array Value} {G1 : Int32} (X : Ctx Z a0 G1) (t : Addr) (kt : ClassId) (vs : List Value) (h0 : Heap) (hE : Ext Z.heap h0) (V : Arv Z h0 t kt .byte (N (2 * 2)) vs (.int (0 : Int32))) :
    Con l Z consts_1 (⟨"java/lang/StringUTF16", "coderFromArrayLen", "([BI)B"⟩ : MethodName) jdk_52_method_15_code 2 (some .byte) [] ({ frames := 0, cells := 0, slots := 0, locals := 0 } : Room) #[(.ref t), (.int (2 : Int32))] h0 (fun v h => v = some (.int (1 : Int32)) ∧ h0 = h) := by
  refine Con.intro (plainFor_of_name pn_2) hE X.el ?_
  intro p e s m below meth c T W
  have hsz := W.size
  refine Go.cast (efcfa2 m t (2 : Int32)) ?_
  refine W.iN d18_0 rfl ?_
  refine W.an d18_1 rfl rfl ?_
  refine W.arraylength V d18_2 ?_
  refine Go.step (fun _ kz => XS.isub W.here W.hx rfl (W.d d18_3) rfl kz) ?_
  show Go (g := mkF m 4 #[rv t, iv 2] [(.int ((2 : Int32) - (N (2 * 2))))]) ..
  refine W.bp d18_4 31 rfl ?_
  refine Go.step (fun _ kz => XS.iushr W.here W.hx rfl (W.d d18_6) rfl kz) ?_
  show Go (g := mkF m 7 #[rv t, iv 2] [(.int ((((2 : Int32) - (N (2 * 2))).toUInt32 >>> ((31 : Int32) &&& 31).toUInt32).toInt32))]) ..
  refine Go.step (fun _ kz => XS.i2b W.here W.hx rfl (W.d d18_7) rfl kz) ?_
  show Go (g := mkF m 8 #[rv t, iv 2] [(.int (((((2 : Int32) - (N (2 * 2))).toUInt32 >>> ((31 : Int32) &&& 31).toUInt32).toInt32).toInt8.toInt32))]) ..
  exact W.retN (by simp) d18_8 (⟨by decide, rfl⟩) (by decide) (by decide)

theorem efinv2 (m : MethodId) (x0 : Addr) (x1 : Addr) (x2 : Int32) (x3 : Int32) : entryFrame m #[(.ref x0), (.ref x1), (.int x2), (.int x3), .null] 6 = mkF m 0 #[.val (.ref x0), .val (.ref x1), .val (.int x2), .val (.int x3), .val .null, .unset] [] := by first | (simp [entryFrame, mkF, argsToLocals, Value.category]; done) | rfl
set_option maxRecDepth 65536 in
set_option maxHeartbeats 40000000 in
theorem c_inv2 {l : Launch} {Z : State} {a0 : Array Value} {G1 : Int32} (X : Ctx Z a0 G1) (a b : Addr) (kb : ClassId) (c0 c1 : Int32) (sv : Value) (h0 : Heap) (hE : Ext Z.heap h0) (Y : U16 Z sv) (ga : Z.heap.size ≤ a) (A : Exa Z h0 a "java/lang/String") (FV : Fld Z h0 a "java/lang/String" "value" "[B" .null) (FC : Fld Z h0 a "java/lang/String" "coder" "B" (.int (0 : Int32))) (Vb : Arv Z h0 b kb .char (2 : Int32) [(.int c0), (.int c1)] (.int (0 : Int32))) (hU : ¬ (¬ (255 : Int32) < c0 ∧ ¬ (255 : Int32) < c1)) (hCh : ∀ c ∈ [c0, c1], Ch c) :
    Con l Z consts_1 (⟨"java/lang/String", "<init>", "([CIILjava/lang/Void;)V"⟩ : MethodName) jdk_42_method_149_code 6 none [] ({ frames := 4, cells := 2, slots := 22, locals := 57 } : Room) #[(.ref a), (.ref b), (.int (0 : Int32)), (.int (2 : Int32)), .null] h0 (fun v h => v = none ∧ Keep h0 h [a] ∧ StrU Z h a [c0, c1]) := by
  refine Con.intro (plainFor_of_name pn_0) hE X.el ?_
  intro p e s m below meth c T W
  have hsz := W.size
  refine Go.cast (efinv2 m a b (0 : Int32) (2 : Int32)) ?_
  have KP := Keep.refl h0 [a]
  have ne_ab : a ≠ b := Exa.neArv A Vb (X.w 3 rfl)
  refine W.an d19_0 rfl rfl ?_
  refine W.initO (X.w 12 rfl) (X.w 13 rfl) (X.w 14 rfl) rfl d19_1 (by decide) (Wd := 0) (Nat.le_of_eq rfl) (by decide) ?_
  intro T W
  show Go (g := mkF m 4 #[rv a, rv b, iv 0, iv 2, .val .null, .unset] []) ..
  refine W.iN d19_4 rfl ?_
  refine W.fy (pc' := 27) d19_5 ((if0 _ _).trans (feq (by decide : ¬ ((2 : Int32) = (0 : Int32)))).2) (by decide) (by decide) ?_
  refine W.getS (host := "") (Or.inl (X.w 15 rfl)) Via.refl X.2.1 d19_27 ?_
  intro T W
  refine W.fn d19_30 ((if0 _ _).trans (feq X.2.2.1).1) ?_
  refine W.an d19_33 rfl rfl ?_
  refine W.iN d19_34 rfl ?_
  refine W.iN d19_35 rfl ?_
  refine W.callS (X.w 16 rfl) (X.w 17 rfl) (X.w 18 rfl) (X.w 19 rfl) (by decide) (c_cmp2 X b _ c0 c1 sv _ W.ext Y Vb hU hCh) (by decide) (Wd := 0) (by decide) [(.ref b), (.int (0 : Int32)), (.int (2 : Int32))] [] rfl pd_12 rfl rfl rfl (Nat.le_of_eq rfl) d19_36 (by decide) (by decide) ?_
  intro v T h vm W hQ C
  obtain ⟨b1, kb1, rfl, hn_b1, Kb1, Vb1⟩ := hQ
  have ne_a_b1 : a ≠ b1 := Nat.ne_of_lt (Nat.lt_of_lt_of_le A.lt hn_b1)
  replace FV := FV.keep Kb1 nin0
  replace FC := FC.keep Kb1 nin0
  replace KP := KP.otr0 Kb1
  replace Vb := Vb.keep Kb1 nin0
  replace A := A.keep Kb1
  replace hsz := W.size
  show Go (g := mkF m 39 #[rv a, rv b, iv 0, iv 2, .val .null, .unset] [(.ref b1)]) ..
  refine W.ass (Ls' := #[rv a, rv b, iv 0, iv 2, .val .null, rv b1]) d19_39 rfl rfl ?_
  refine W.an d19_41 rfl rfl ?_
  refine W.al d19_42 rfl rfl ?_
  refine W.iN d19_44 rfl ?_
  refine W.callS (X.w 24 rfl) (X.w 25 rfl) (X.w 18 rfl) (X.w 26 rfl) (by decide) (c_cfa2 X b1 _ _ _ W.ext Vb1) (by decide) (Wd := 1) (by decide) [(.ref b1), (.int (2 : Int32))] [(.ref a)] rfl pd_13 rfl rfl rfl (Nat.le_of_eq rfl) d19_45 (by decide) (by decide) ?_
  intro v T h vm W hQ C
  obtain ⟨rfl, rfl⟩ := hQ
  show Go (g := mkF m 48 #[rv a, rv b, iv 0, iv 2, .val .null, rv b1] [(.int 1), (.ref a)]) ..
  refine W.putF (host := "") (Or.inl (X.w 27 rfl)) Via.refl FC A (Or.inr ⟨(X.w 28 rfl), rfl, rfl⟩) (X.w 3 rfl) (ty := .byte) (by decide) (by decide) (by decide) ga (Safe.blank W.hZ.alike A FV) d19_48 ?_
  intro T h W Wr2 FC'
  replace FV := FV.other Wr2 (Or.inr (slot_ne (Or.inr (X.w 30 rfl)) (Or.inr (X.w 28 rfl)) (by decide) (t := (.array .byte)) (t' := .byte) (by decide) (by decide)))
  replace KP := KP.otrM (Keep.of_wr Wr2) (by simp)
  replace Vb := Vb.keep (Keep.of_wr Wr2) (nin1 (Ne.symm ne_ab))
  replace Vb1 := Vb1.keep (Keep.of_wr Wr2) (nin1 (Ne.symm ne_a_b1))
  replace A := A.keep (Keep.of_wr Wr2)
  replace hsz := W.size
  replace FC := FC'
  refine W.an d19_51 rfl rfl ?_
  refine W.al d19_52 rfl rfl ?_
  refine W.putF (host := "") (Or.inl (X.w 29 rfl)) Via.refl FV A (Or.inr ⟨(X.w 30 rfl), rfl, rfl⟩) (X.w 3 rfl) (ty := (.array .byte)) (by decide) rfl rfl ga (Safe.blank W.hZ.alike A FV) d19_54 ?_
  intro T h W Wr3 FV'
  replace FC := FC.other Wr3 (Or.inr (slot_ne (Or.inr (X.w 28 rfl)) (Or.inr (X.w 30 rfl)) (by decide) (t := .byte) (t' := (.array .byte)) (by decide) (by decide)))
  replace KP := KP.otrM (Keep.of_wr Wr3) (by simp)
  replace Vb := Vb.keep (Keep.of_wr Wr3) (nin1 (Ne.symm ne_ab))
  replace Vb1 := Vb1.keep (Keep.of_wr Wr3) (nin1 (Ne.symm ne_a_b1))
  replace A := A.keep (Keep.of_wr Wr3)
  replace hsz := W.size
  replace FV := FV'
  exact W.retV d19_57 (⟨rfl, KP, b1, _, A, FV, FC, Vb1, hCh, by simp⟩) (by decide) (by decide)

theorem efinc2 (m : MethodId) (x0 : Addr) (x1 : Addr) : entryFrame m #[(.ref x0), (.ref x1)] 2 = mkF m 0 #[.val (.ref x0), .val (.ref x1)] [] := by first | (simp [entryFrame, mkF, argsToLocals, Value.category]; done) | rfl
set_option maxRecDepth 65536 in
set_option maxHeartbeats 40000000 in
theorem c_inc2 {l : Launch} {Z : State} {a0 : Array Value} {G1 : Int32} (X : Ctx Z a0 G1) (a b : Addr) (kb : ClassId) (c0 c1 : Int32) (sv : Value) (h0 : Heap) (hE : Ext Z.heap h0) (Y : U16 Z sv) (ga : Z.heap.size ≤ a) (A : Exa Z h0 a "java/lang/String") (FV : Fld Z h0 a "java/lang/String" "value" "[B" .null) (FC : Fld Z h0 a "java/lang/String" "coder" "B" (.int (0 : Int32))) (Vb : Arv Z h0 b kb .char (2 : Int32) [(.int c0), (.int c1)] (.int (0 : Int32))) (hU : ¬ (¬ (255 : Int32) < c0 ∧ ¬ (255 : Int32) < c1)) (hCh : ∀ c ∈ [c0, c1], Ch c) :
    Con l Z consts_1 (⟨"java/lang/String", "<init>", "([C)V"⟩ : MethodName) jdk_42_method_3_code 2 none [] ({ frames := 5, cells := 2, slots := 22, locals := 74 } : Room) #[(.ref a), (.ref b)] h0 (fun v h => v = none ∧ Keep h0 h [a] ∧ StrU Z h a [c0, c1]) := by
  refine Con.intro (plainFor_of_name pn_0) hE X.el ?_
  intro p e s m below meth c T W
  have hsz := W.size
  refine Go.cast (efinc2 m a b) ?_
  refine W.an d0_0 rfl rfl ?_
  refine W.an d0_1 rfl rfl ?_
  refine W.ic d0_2 0 rfl ?_
  refine W.an d0_3 rfl rfl ?_
  refine W.arraylength Vb d0_4 ?_
  refine Go.step (fun _ kz => XS.aconstNull W.here W.hx rfl (W.d d0_5) kz) ?_
  show Go (g := mkF m 6 #[rv a, rv b] [.null, (.int 2), (.int 0), (.ref b), (.ref a)]) ..
  refine W.special rfl (X.w 8 rfl) (X.w 9 rfl) (X.w 4 rfl) (X.w 11 rfl) (by decide) (c_inv2 X a b _ c0 c1 sv _ W.ext Y ga A FV FC Vb hU hCh) (by decide) (Wd := 0) (by decide) a [(.ref b), (.int (0 : Int32)), (.int (2 : Int32)), .null] [] rfl pd_0 rfl rfl rfl (Nat.le_of_eq rfl) d0_6 (by decide) (by decide) ?_
  intro v T h vm W hQ C
  obtain ⟨rfl, hK, hS⟩ := hQ
  show Go (g := mkF m 9 #[rv a, rv b] []) ..
  exact W.retV d0_9 (⟨rfl, hK, hS⟩) (by decide) (by decide)

theorem efcmv3 (m : MethodId) (x0 : Addr) (x1 : Int32) (x2 : Addr) (x3 : Int32) (x4 : Int32) : entryFrame m #[(.ref x0), (.int x1), (.ref x2), (.int x3), (.int x4)] 7 = mkF m 0 #[.val (.ref x0), .val (.int x1), .val (.ref x2), .val (.int x3), .val (.int x4), .unset, .unset] [] := by first | (simp [entryFrame, mkF, argsToLocals, Value.category]; done) | rfl
set_option maxRecDepth 65536 in
set_option maxHeartbeats 40000000 in
theorem c_cmv3 {l : Launch} {Z : State} {a0 : Array Value} {G1 : Int32} (X : Ctx Z a0 G1) (b d : Addr) (kb kd : ClassId) (c0 c1 c2 : Int32) (h0 : Heap) (hE : Ext Z.heap h0) (gd : Z.heap.size ≤ d) (Vb : Arv Z h0 b kb .char (3 : Int32) [(.int c0), (.int c1), (.int c2)] (.int (0 : Int32))) (Vd : Arv Z h0 d kd .byte (3 : Int32) [(.int (0 : Int32)), (.int (0 : Int32)), (.int (0 : Int32))] (.int (0 : Int32))) (ne : b ≠ d) (hU : ¬ (¬ (255 : Int32) < c0 ∧ ¬ (255 : Int32) < c1 ∧ ¬ (255 : Int32) < c2)) :
    Con l Z consts_1 (⟨"java/lang/StringUTF16", "compress", "([CI[BII)I"⟩ : MethodName) jdk_52_method_21_code 7 (some .int) [] ({ frames := 0, cells := 0, slots := 0, locals := 0 } : Room) #[(.ref b), (.int (0 : Int32)), (.ref d), (.int (0 : Int32)), (.int (3 : Int32))] h0 (fun v h => ∃ j : Nat, v = some (.int (N j)) ∧ j < 3 ∧ (255 : Int32) < ([c0, c1, c2] : List Int32).getD j 0 ∧ Keep h0 h [d]) := by
  refine Con.intro (plainFor_of_name pn_2) hE X.el ?_
  intro p e s m below meth c T W
  have hsz := W.size
  refine Go.cast (efcmv3 m b (0 : Int32) d (0 : Int32) (3 : Int32)) ?_
  have KP := Keep.refl h0 [d]
  have hz : 0 ≠ ((3 : Int32)).toNatClampNeg := by decide
  refine W.ic d16_0 0 rfl ?_
  refine W.iss (Ls' := #[rv b, iv 0, rv d, iv 0, iv 3, iv 0, .unset]) d16_1 rfl ?_
  refine W.il d16_3 rfl ?_
  refine W.il d16_5 rfl ?_
  refine W.cn d16_7 (tlt (by decide : (0 : Int32) < (3 : Int32))).2.1 ?_
  refine W.an d16_10 rfl rfl ?_
  refine W.iN d16_11 rfl ?_
  refine W.caload Vb (by decide) rfl d16_12 ?_
  show Go (g := mkF m 13 #[rv b, iv 0, rv d, iv 0, iv 3, iv 0, .unset] [(.int c0)]) ..
  refine W.iss (Ls' := #[rv b, iv 0, rv d, iv 0, iv 3, iv 0, iv c0]) d16_13 rfl ?_
  refine W.il d16_15 rfl ?_
  refine W.sp d16_17 255 rfl ?_
  by_cases hc1 : (255 : Int32) < c0
  · refine W.cn d16_20 (tlt hc1).2.2.2 ?_
    refine W.il d16_23 rfl ?_
    exact W.retI d16_25 (⟨0, rfl, by decide, hc1, KP⟩) (by decide) (by decide)
  · refine W.cy (pc' := 26) d16_20 (flt hc1).2.2.2 (by decide) (by decide) ?_
    refine W.an d16_26 rfl rfl ?_
    refine W.iN d16_27 rfl ?_
    refine W.il d16_28 rfl ?_
    refine Go.step (fun _ kz => XS.i2b W.here W.hx rfl (W.d d16_30) rfl kz) ?_
    show Go (g := mkF m 31 #[rv b, iv 0, rv d, iv 0, iv 3, iv 0, iv c0] [(.int (c0.toInt8.toInt32)), (.int 0), (.ref d)]) ..
    refine W.bastore Vd 0 rfl (by simp) (by decide) gd (Safe.byt W.hZ (X.sb hz) Vd) d16_31 ?_
    intro T h W K2 Vd'
    replace KP := KP.otrM K2 (by simp)
    replace Vb := Vb.keep K2 (nin1 ne)
    replace hsz := W.size
    replace Vd : Arv Z h d kd .byte (3 : Int32) [(.int (nar .byte (c0.toInt8.toInt32))), (.int (0 : Int32)), (.int (0 : Int32))] (.int (0 : Int32)) := Vd'
    refine W.ii (Ls' := #[rv b, iv 1, rv d, iv 0, iv 3, iv 0, iv c0]) d16_32 rfl rfl ?_
    refine W.ii (Ls' := #[rv b, iv 1, rv d, iv 1, iv 3, iv 0, iv c0]) d16_35 rfl rfl ?_
    refine W.ii (Ls' := #[rv b, iv 1, rv d, iv 1, iv 3, iv 1, iv c0]) d16_38 rfl rfl ?_
    refine W.gt (pc' := 3) d16_41 (by decide) (by decide) ?_
    refine W.il d16_3 rfl ?_
    refine W.il d16_5 rfl ?_
    refine W.cn d16_7 (tlt (by decide : (1 : Int32) < (3 : Int32))).2.1 ?_
    refine W.an d16_10 rfl rfl ?_
    refine W.iN d16_11 rfl ?_
    refine W.caload Vb (by decide) rfl d16_12 ?_
    show Go (g := mkF m 13 #[rv b, iv 1, rv d, iv 1, iv 3, iv 1, iv c0] [(.int c1)]) ..
    refine W.iss (Ls' := #[rv b, iv 1, rv d, iv 1, iv 3, iv 1, iv c1]) d16_13 rfl ?_
    refine W.il d16_15 rfl ?_
    refine W.sp d16_17 255 rfl ?_
    by_cases hc3 : (255 : Int32) < c1
    · refine W.cn d16_20 (tlt hc3).2.2.2 ?_
      refine W.il d16_23 rfl ?_
      exact W.retI d16_25 (⟨1, rfl, by decide, hc3, KP⟩) (by decide) (by decide)
    · refine W.cy (pc' := 26) d16_20 (flt hc3).2.2.2 (by decide) (by decide) ?_
      refine W.an d16_26 rfl rfl ?_
      refine W.iN d16_27 rfl ?_
      refine W.il d16_28 rfl ?_
      refine Go.step (fun _ kz => XS.i2b W.here W.hx rfl (W.d d16_30) rfl kz) ?_
      show Go (g := mkF m 31 #[rv b, iv 1, rv d, iv 1, iv 3, iv 1, iv c1] [(.int (c1.toInt8.toInt32)), (.int 1), (.ref d)]) ..
      refine W.bastore Vd 1 rfl (by simp) (by decide) gd (Safe.byt W.hZ (X.sb hz) Vd) d16_31 ?_
      intro T h W K4 Vd'
      replace KP := KP.otrM K4 (by simp)
      replace Vb := Vb.keep K4 (nin1 ne)
      replace hsz := W.size
      replace Vd : Arv Z h d kd .byte (3 : Int32) [(.int (nar .byte (c0.toInt8.toInt32))), (.int (nar .byte (c1.toInt8.toInt32))), (.int (0 : Int32))] (.int (0 : Int32)) := Vd'
      refine W.ii (Ls' := #[rv b, iv 2, rv d, iv 1, iv 3, iv 1, iv c1]) d16_32 rfl rfl ?_
      refine W.ii (Ls' := #[rv b, iv 2, rv d, iv 2, iv 3, iv 1, iv c1]) d16_35 rfl rfl ?_
      refine W.ii (Ls' := #[rv b, iv 2, rv d, iv 2, iv 3, iv 2, iv c1]) d16_38 rfl rfl ?_
      refine W.gt (pc' := 3) d16_41 (by decide) (by decide) ?_
      refine W.il d16_3 rfl ?_
      refine W.il d16_5 rfl ?_
      refine W.cn d16_7 (tlt (by decide : (2 : Int32) < (3 : Int32))).2.1 ?_
      refine W.an d16_10 rfl rfl ?_
      refine W.iN d16_11 rfl ?_
      refine W.caload Vb (by decide) rfl d16_12 ?_
      show Go (g := mkF m 13 #[rv b, iv 2, rv d, iv 2, iv 3, iv 2, iv c1] [(.int c2)]) ..
      refine W.iss (Ls' := #[rv b, iv 2, rv d, iv 2, iv 3, iv 2, iv c2]) d16_13 rfl ?_
      refine W.il d16_15 rfl ?_
      refine W.sp d16_17 255 rfl ?_
      by_cases hc5 : (255 : Int32) < c2
      · refine W.cn d16_20 (tlt hc5).2.2.2 ?_
        refine W.il d16_23 rfl ?_
        exact W.retI d16_25 (⟨2, rfl, by decide, hc5, KP⟩) (by decide) (by decide)
      · refine W.cy (pc' := 26) d16_20 (flt hc5).2.2.2 (by decide) (by decide) ?_
        refine W.an d16_26 rfl rfl ?_
        refine W.iN d16_27 rfl ?_
        refine W.il d16_28 rfl ?_
        refine Go.step (fun _ kz => XS.i2b W.here W.hx rfl (W.d d16_30) rfl kz) ?_
        show Go (g := mkF m 31 #[rv b, iv 2, rv d, iv 2, iv 3, iv 2, iv c2] [(.int (c2.toInt8.toInt32)), (.int 2), (.ref d)]) ..
        refine W.bastore Vd 2 rfl (by simp) (by decide) gd (Safe.byt W.hZ (X.sb hz) Vd) d16_31 ?_
        intro T h W K6 Vd'
        replace KP := KP.otrM K6 (by simp)
        replace Vb := Vb.keep K6 (nin1 ne)
        replace hsz := W.size
        replace Vd : Arv Z h d kd .byte (3 : Int32) [(.int (nar .byte (c0.toInt8.toInt32))), (.int (nar .byte (c1.toInt8.toInt32))), (.int (nar .byte (c2.toInt8.toInt32)))] (.int (0 : Int32)) := Vd'
        refine W.ii (Ls' := #[rv b, iv 3, rv d, iv 2, iv 3, iv 2, iv c2]) d16_32 rfl rfl ?_
        refine W.ii (Ls' := #[rv b, iv 3, rv d, iv 3, iv 3, iv 2, iv c2]) d16_35 rfl rfl ?_
        refine W.ii (Ls' := #[rv b, iv 3, rv d, iv 3, iv 3, iv 3, iv c2]) d16_38 rfl rfl ?_
        refine W.gt (pc' := 3) d16_41 (by decide) (by decide) ?_
        refine W.il d16_3 rfl ?_
        refine W.il d16_5 rfl ?_
        refine W.cy (pc' := 44) d16_7 (flt (by decide : ¬ ((3 : Int32) < (3 : Int32)))).2.1 (by decide) (by decide) ?_
        refine W.il d16_44 rfl ?_
        exact absurd ⟨hc1, hc3, hc5⟩ hU

theorem efcmp3 (m : MethodId) (x0 : Addr) (x1 : Int32) (x2 : Int32) : entryFrame m #[(.ref x0), (.int x1), (.int x2)] 6 = mkF m 0 #[.val (.ref x0), .val (.int x1), .val (.int x2), .unset, .unset, .unset] [] := by first | (simp [entryFrame, mkF, argsToLocals, Value.category]; done) | rfl
set_option maxRecDepth 65536 in
set_option maxHeartbeats 40000000 in
theorem c_cmp3 {l : Launch} {Z : State} {a0 : Array Value} {G1 : Int32} (X : Ctx Z a0 G1) (b : Addr) (kb : ClassId) (c0 c1 c2 : Int32) (sv : Value) (h0 : Heap) (hE : Ext Z.heap h0) (Y : U16 Z sv) (Vb : Arv Z h0 b kb .char (3 : Int32) [(.int c0), (.int c1), (.int c2)] (.int (0 : Int32))) (hU : ¬ (¬ (255 : Int32) < c0 ∧ ¬ (255 : Int32) < c1 ∧ ¬ (255 : Int32) < c2)) (hCh : ∀ c ∈ [c0, c1, c2], Ch c) :
    Con l Z consts_1 (⟨"java/lang/StringUTF16", "compress", "([CII)[B"⟩ : MethodName) jdk_52_method_16_code 6 (some (.array .byte)) [] ({ frames := 3, cells := 2, slots := 23, locals := 40 } : Room) #[(.ref b), (.int (0 : Int32)), (.int (3 : Int32))] h0 (fun v h => ∃ (t : Addr) (kt : ClassId), v = some (.ref t) ∧ h0.size ≤ t ∧ Keep h0 h [] ∧ Arv Z h t kt .byte (N (2 * 3)) (encU [c0, c1, c2]) (.int (0 : Int32))) := by
  refine Con.intro (plainFor_of_name pn_2) hE X.el ?_
  intro p e s m below meth c T W
  have hsz := W.size
  refine Go.cast (efcmp3 m b (0 : Int32) (3 : Int32)) ?_
  have KP := Keep.refl h0 []
  refine W.iN d17_0 rfl ?_
  refine W.newarr (X.w 20 rfl) d17_1 (by decide) (cap := 3) (by decide) (by decide) (by decide) (by decide) ?_
  intro T h b1 kb1 hb1 W Eb1 Vb1 Sfb1
  have sz_b1 : h0.size ≤ b1 := by rw [hb1]; exact KP.1
  have ne_b_b1 : b ≠ b1 := by rw [hb1]; exact Nat.ne_of_lt Vb.lt
  have gb1 : Z.heap.size ≤ b1 := by rw [hb1]; exact hsz
  replace KP := KP.ext Eb1
  replace Vb := Vb.ext Eb1
  replace hsz := W.size
  replace Vb1 : Arv Z h b1 kb1 .byte (3 : Int32) [(.int (0 : Int32)), (.int (0 : Int32)), (.int (0 : Int32))] (.int (0 : Int32)) := Vb1.pad (pad_rep [] (.int (0 : Int32)) 3)
  refine W.asn (Ls' := #[rv b, iv 0, iv 3, rv b1, .unset, .unset]) d17_3 rfl rfl ?_
  refine W.an d17_4 rfl rfl ?_
  refine W.iN d17_5 rfl ?_
  refine W.an d17_6 rfl rfl ?_
  refine W.ic d17_7 0 rfl ?_
  refine W.iN d17_8 rfl ?_
  refine W.callS (X.w 21 rfl) (X.w 22 rfl) (X.w 18 rfl) (X.w 23 rfl) (by decide) (c_cmv3 X b b1 _ _ c0 c1 c2 _ W.ext gb1 Vb Vb1 ne_b_b1 hU) (by decide) (Wd := 0) (by decide) [(.ref b), (.int (0 : Int32)), (.ref b1), (.int (0 : Int32)), (.int (3 : Int32))] [] rfl pd_11 rfl rfl rfl (Nat.le_of_eq rfl) d17_9 (by decide) (by decide) ?_
  intro v T h vm W hQ C
  obtain ⟨j, rfl, hj, hj255, K2⟩ := hQ
  replace KP := KP.otrN K2 sz_b1
  replace Vb := Vb.keep K2 (nin1 ne_b_b1)
  replace hsz := W.size
  show Go (g := mkF m 12 #[rv b, iv 0, iv 3, rv b1, .unset, .unset] [(.int (N j))]) ..
  refine W.iss (Ls' := #[rv b, iv 0, iv 3, rv b1, iv (N j), .unset]) d17_12 rfl ?_
  refine W.il d17_14 rfl ?_
  refine W.iN d17_16 rfl ?_
  refine W.cn d17_17 (feq (fun q => by have := (N_inj (a := j) (b := 3) (by omega) (by omega)).mp q; omega)).1 ?_
  refine W.an d17_20 rfl rfl ?_
  refine W.iN d17_21 rfl ?_
  refine W.iN d17_22 rfl ?_
  refine W.callS (X.w 174 rfl) (X.w 175 rfl) (X.w 18 rfl) (X.w 176 rfl) (by decide) (c_tby3 X b _ c0 c1 c2 sv _ W.ext Y Vb) (by decide) (Wd := 0) (by decide) [(.ref b), (.int (0 : Int32)), (.int (3 : Int32))] [] rfl pd_12 rfl rfl rfl (Nat.le_of_eq rfl) d17_23 (by decide) (by decide) ?_
  intro v T h vm W hQ C
  obtain ⟨b3, kb3, rfl, hn_b3, Kb3, Vb3⟩ := hQ
  have sz_b3 : h0.size ≤ b3 := Nat.le_trans KP.1 hn_b3
  replace KP := KP.otr0 Kb3
  replace Vb := Vb.keep Kb3 nin0
  replace hsz := W.size
  show Go (g := mkF m 26 #[rv b, iv 0, iv 3, rv b1, iv (N j), .unset] [(.ref b3)]) ..
  refine W.ass (Ls' := #[rv b, iv 0, iv 3, rv b1, iv (N j), rv b3]) d17_26 rfl rfl ?_
  refine W.al d17_28 rfl rfl ?_
  refine W.il d17_30 rfl ?_
  have tc : Ch (([c0, c1, c2] : List Int32).getD j 0) := getD_all (P := Ch) hCh hj
  refine W.callS (X.w 190 rfl) (X.w 191 rfl) (X.w 18 rfl) (X.w 192 rfl) (by decide) (c_gec X b3 _ j 3 (([c0, c1, c2] : List Int32).getD j 0) _ sv _ W.ext Y Vb3 (by omega) (by omega) tc (encU_at [c0, c1, c2] j hj _).1 (encU_at [c0, c1, c2] j hj _).2) (by decide) (Wd := 0) (by decide) [(.ref b3), (.int (N j))] [] rfl pd_5 rfl rfl rfl (Nat.le_of_eq rfl) d17_32 (by decide) (by decide) ?_
  intro v T h vm W hQ C
  obtain ⟨rfl, rfl⟩ := hQ
  show Go (g := mkF m 35 #[rv b, iv 0, iv 3, rv b1, iv (N j), rv b3] [(.int (([c0, c1, c2] : List Int32).getD j 0))]) ..
  refine W.sp d17_35 255 rfl ?_
  refine W.cy (pc' := 54) d17_38 (tlt hj255).2.2.1 (by decide) (by decide) ?_
  refine W.al d17_54 rfl rfl ?_
  exact W.retR rfl rfl rfl d17_56 (⟨b3, _, rfl, sz_b3, KP, Vb3⟩) (by decide) (by decide)

theorem efcfa3 (m : MethodId) (x0 : Addr) (x1 : Int32) : entryFrame m #[(.ref x0), (.int x1)] 2 = mkF m 0 #[.val (.ref x0), .val (.int x1)] [] := by first | (simp [entryFrame, mkF, argsToLocals, Value.category]; done) | rfl
set_option maxRecDepth 65536 in
set_option maxHeartbeats 40000000 in
theorem c_cfa3 {l : Launch} {Z : State} {a0 : Array Value} {G1 : Int32} (X : Ctx Z a0 G1) (t : Addr) (kt : ClassId) (vs : List Value) (h0 : Heap) (hE : Ext Z.heap h0) (V : Arv Z h0 t kt .byte (N (2 * 3)) vs (.int (0 : Int32))) :
    Con l Z consts_1 (⟨"java/lang/StringUTF16", "coderFromArrayLen", "([BI)B"⟩ : MethodName) jdk_52_method_15_code 2 (some .byte) [] ({ frames := 0, cells := 0, slots := 0, locals := 0 } : Room) #[(.ref t), (.int (3 : Int32))] h0 (fun v h => v = some (.int (1 : Int32)) ∧ h0 = h) := by
  refine Con.intro (plainFor_of_name pn_2) hE X.el ?_
  intro p e s m below meth c T W
  have hsz := W.size
  refine Go.cast (efcfa3 m t (3 : Int32)) ?_
  refine W.iN d18_0 rfl ?_
  refine W.an d18_1 rfl rfl ?_
  refine W.arraylength V d18_2 ?_
  refine Go.step (fun _ kz => XS.isub W.here W.hx rfl (W.d d18_3) rfl kz) ?_
  show Go (g := mkF m 4 #[rv t, iv 3] [(.int ((3 : Int32) - (N (2 * 3))))]) ..
  refine W.bp d18_4 31 rfl ?_
  refine Go.step (fun _ kz => XS.iushr W.here W.hx rfl (W.d d18_6) rfl kz) ?_
  show Go (g := mkF m 7 #[rv t, iv 3] [(.int ((((3 : Int32) - (N (2 * 3))).toUInt32 >>> ((31 : Int32) &&& 31).toUInt32).toInt32))]) ..
  refine Go.step (fun _ kz => XS.i2b W.here W.hx rfl (W.d d18_7) rfl kz) ?_
  show Go (g := mkF m 8 #[rv t, iv 3] [(.int (((((3 : Int32) - (N (2 * 3))).toUInt32 >>> ((31 : Int32) &&& 31).toUInt32).toInt32).toInt8.toInt32))]) ..
  exact W.retN (by simp) d18_8 (⟨by decide, rfl⟩) (by decide) (by decide)

theorem efinv3 (m : MethodId) (x0 : Addr) (x1 : Addr) (x2 : Int32) (x3 : Int32) : entryFrame m #[(.ref x0), (.ref x1), (.int x2), (.int x3), .null] 6 = mkF m 0 #[.val (.ref x0), .val (.ref x1), .val (.int x2), .val (.int x3), .val .null, .unset] [] := by first | (simp [entryFrame, mkF, argsToLocals, Value.category]; done) | rfl
set_option maxRecDepth 65536 in
set_option maxHeartbeats 40000000 in
theorem c_inv3 {l : Launch} {Z : State} {a0 : Array Value} {G1 : Int32} (X : Ctx Z a0 G1) (a b : Addr) (kb : ClassId) (c0 c1 c2 : Int32) (sv : Value) (h0 : Heap) (hE : Ext Z.heap h0) (Y : U16 Z sv) (ga : Z.heap.size ≤ a) (A : Exa Z h0 a "java/lang/String") (FV : Fld Z h0 a "java/lang/String" "value" "[B" .null) (FC : Fld Z h0 a "java/lang/String" "coder" "B" (.int (0 : Int32))) (Vb : Arv Z h0 b kb .char (3 : Int32) [(.int c0), (.int c1), (.int c2)] (.int (0 : Int32))) (hU : ¬ (¬ (255 : Int32) < c0 ∧ ¬ (255 : Int32) < c1 ∧ ¬ (255 : Int32) < c2)) (hCh : ∀ c ∈ [c0, c1, c2], Ch c) :
    Con l Z consts_1 (⟨"java/lang/String", "<init>", "([CIILjava/lang/Void;)V"⟩ : MethodName) jdk_42_method_149_code 6 none [] ({ frames := 4, cells := 2, slots := 23, locals := 57 } : Room) #[(.ref a), (.ref b), (.int (0 : Int32)), (.int (3 : Int32)), .null] h0 (fun v h => v = none ∧ Keep h0 h [a] ∧ StrU Z h a [c0, c1, c2]) := by
  refine Con.intro (plainFor_of_name pn_0) hE X.el ?_
  intro p e s m below meth c T W
  have hsz := W.size
  refine Go.cast (efinv3 m a b (0 : Int32) (3 : Int32)) ?_
  have KP := Keep.refl h0 [a]
  have ne_ab : a ≠ b := Exa.neArv A Vb (X.w 3 rfl)
  refine W.an d19_0 rfl rfl ?_
  refine W.initO (X.w 12 rfl) (X.w 13 rfl) (X.w 14 rfl) rfl d19_1 (by decide) (Wd := 0) (Nat.le_of_eq rfl) (by decide) ?_
  intro T W
  show Go (g := mkF m 4 #[rv a, rv b, iv 0, iv 3, .val .null, .unset] []) ..
  refine W.iN d19_4 rfl ?_
  refine W.fy (pc' := 27) d19_5 ((if0 _ _).trans (feq (by decide : ¬ ((3 : Int32) = (0 : Int32)))).2) (by decide) (by decide) ?_
  refine W.getS (host := "") (Or.inl (X.w 15 rfl)) Via.refl X.2.1 d19_27 ?_
  intro T W
  refine W.fn d19_30 ((if0 _ _).trans (feq X.2.2.1).1) ?_
  refine W.an d19_33 rfl rfl ?_
  refine W.iN d19_34 rfl ?_
  refine W.iN d19_35 rfl ?_
  refine W.callS (X.w 16 rfl) (X.w 17 rfl) (X.w 18 rfl) (X.w 19 rfl) (by decide) (c_cmp3 X b _ c0 c1 c2 sv _ W.ext Y Vb hU hCh) (by decide) (Wd := 0) (by decide) [(.ref b), (.int (0 : Int32)), (.int (3 : Int32))] [] rfl pd_12 rfl rfl rfl (Nat.le_of_eq rfl) d19_36 (by decide) (by decide) ?_
  intro v T h vm W hQ C
  obtain ⟨b1, kb1, rfl, hn_b1, Kb1, Vb1⟩ := hQ
  have ne_a_b1 : a ≠ b1 := Nat.ne_of_lt (Nat.lt_of_lt_of_le A.lt hn_b1)
  replace FV := FV.keep Kb1 nin0
  replace FC := FC.keep Kb1 nin0
  replace KP := KP.otr0 Kb1
  replace Vb := Vb.keep Kb1 nin0
  replace A := A.keep Kb1
  replace hsz := W.size
  show Go (g := mkF m 39 #[rv a, rv b, iv 0, iv 3, .val .null, .unset] [(.ref b1)]) ..
  refine W.ass (Ls' := #[rv a, rv b, iv 0, iv 3, .val .null, rv b1]) d19_39 rfl rfl ?_
  refine W.an d19_41 rfl rfl ?_
  refine W.al d19_42 rfl rfl ?_
  refine W.iN d19_44 rfl ?_
  refine W.callS (X.w 24 rfl) (X.w 25 rfl) (X.w 18 rfl) (X.w 26 rfl) (by decide) (c_cfa3 X b1 _ _ _ W.ext Vb1) (by decide) (Wd := 1) (by decide) [(.ref b1), (.int (3 : Int32))] [(.ref a)] rfl pd_13 rfl rfl rfl (Nat.le_of_eq rfl) d19_45 (by decide) (by decide) ?_
  intro v T h vm W hQ C
  obtain ⟨rfl, rfl⟩ := hQ
  show Go (g := mkF m 48 #[rv a, rv b, iv 0, iv 3, .val .null, rv b1] [(.int 1), (.ref a)]) ..
  refine W.putF (host := "") (Or.inl (X.w 27 rfl)) Via.refl FC A (Or.inr ⟨(X.w 28 rfl), rfl, rfl⟩) (X.w 3 rfl) (ty := .byte) (by decide) (by decide) (by decide) ga (Safe.blank W.hZ.alike A FV) d19_48 ?_
  intro T h W Wr2 FC'
  replace FV := FV.other Wr2 (Or.inr (slot_ne (Or.inr (X.w 30 rfl)) (Or.inr (X.w 28 rfl)) (by decide) (t := (.array .byte)) (t' := .byte) (by decide) (by decide)))
  replace KP := KP.otrM (Keep.of_wr Wr2) (by simp)
  replace Vb := Vb.keep (Keep.of_wr Wr2) (nin1 (Ne.symm ne_ab))
  replace Vb1 := Vb1.keep (Keep.of_wr Wr2) (nin1 (Ne.symm ne_a_b1))
  replace A := A.keep (Keep.of_wr Wr2)
  replace hsz := W.size
  replace FC := FC'
  refine W.an d19_51 rfl rfl ?_
  refine W.al d19_52 rfl rfl ?_
  refine W.putF (host := "") (Or.inl (X.w 29 rfl)) Via.refl FV A (Or.inr ⟨(X.w 30 rfl), rfl, rfl⟩) (X.w 3 rfl) (ty := (.array .byte)) (by decide) rfl rfl ga (Safe.blank W.hZ.alike A FV) d19_54 ?_
  intro T h W Wr3 FV'
  replace FC := FC.other Wr3 (Or.inr (slot_ne (Or.inr (X.w 28 rfl)) (Or.inr (X.w 30 rfl)) (by decide) (t := .byte) (t' := (.array .byte)) (by decide) (by decide)))
  replace KP := KP.otrM (Keep.of_wr Wr3) (by simp)
  replace Vb := Vb.keep (Keep.of_wr Wr3) (nin1 (Ne.symm ne_ab))
  replace Vb1 := Vb1.keep (Keep.of_wr Wr3) (nin1 (Ne.symm ne_a_b1))
  replace A := A.keep (Keep.of_wr Wr3)
  replace hsz := W.size
  replace FV := FV'
  exact W.retV d19_57 (⟨rfl, KP, b1, _, A, FV, FC, Vb1, hCh, by simp⟩) (by decide) (by decide)

theorem efinc3 (m : MethodId) (x0 : Addr) (x1 : Addr) : entryFrame m #[(.ref x0), (.ref x1)] 2 = mkF m 0 #[.val (.ref x0), .val (.ref x1)] [] := by first | (simp [entryFrame, mkF, argsToLocals, Value.category]; done) | rfl
set_option maxRecDepth 65536 in
set_option maxHeartbeats 40000000 in
theorem c_inc3 {l : Launch} {Z : State} {a0 : Array Value} {G1 : Int32} (X : Ctx Z a0 G1) (a b : Addr) (kb : ClassId) (c0 c1 c2 : Int32) (sv : Value) (h0 : Heap) (hE : Ext Z.heap h0) (Y : U16 Z sv) (ga : Z.heap.size ≤ a) (A : Exa Z h0 a "java/lang/String") (FV : Fld Z h0 a "java/lang/String" "value" "[B" .null) (FC : Fld Z h0 a "java/lang/String" "coder" "B" (.int (0 : Int32))) (Vb : Arv Z h0 b kb .char (3 : Int32) [(.int c0), (.int c1), (.int c2)] (.int (0 : Int32))) (hU : ¬ (¬ (255 : Int32) < c0 ∧ ¬ (255 : Int32) < c1 ∧ ¬ (255 : Int32) < c2)) (hCh : ∀ c ∈ [c0, c1, c2], Ch c) :
    Con l Z consts_1 (⟨"java/lang/String", "<init>", "([C)V"⟩ : MethodName) jdk_42_method_3_code 2 none [] ({ frames := 5, cells := 2, slots := 23, locals := 74 } : Room) #[(.ref a), (.ref b)] h0 (fun v h => v = none ∧ Keep h0 h [a] ∧ StrU Z h a [c0, c1, c2]) := by
  refine Con.intro (plainFor_of_name pn_0) hE X.el ?_
  intro p e s m below meth c T W
  have hsz := W.size
  refine Go.cast (efinc3 m a b) ?_
  refine W.an d0_0 rfl rfl ?_
  refine W.an d0_1 rfl rfl ?_
  refine W.ic d0_2 0 rfl ?_
  refine W.an d0_3 rfl rfl ?_
  refine W.arraylength Vb d0_4 ?_
  refine Go.step (fun _ kz => XS.aconstNull W.here W.hx rfl (W.d d0_5) kz) ?_
  show Go (g := mkF m 6 #[rv a, rv b] [.null, (.int 3), (.int 0), (.ref b), (.ref a)]) ..
  refine W.special rfl (X.w 8 rfl) (X.w 9 rfl) (X.w 4 rfl) (X.w 11 rfl) (by decide) (c_inv3 X a b _ c0 c1 c2 sv _ W.ext Y ga A FV FC Vb hU hCh) (by decide) (Wd := 0) (by decide) a [(.ref b), (.int (0 : Int32)), (.int (3 : Int32)), .null] [] rfl pd_0 rfl rfl rfl (Nat.le_of_eq rfl) d0_6 (by decide) (by decide) ?_
  intro v T h vm W hQ C
  obtain ⟨rfl, hK, hS⟩ := hQ
  show Go (g := mkF m 9 #[rv a, rv b] []) ..
  exact W.retV d0_9 (⟨rfl, hK, hS⟩) (by decide) (by decide)

theorem N_or {a b : Nat} (ha : a ≤ 8000) (hb : b ≤ 8000) : ¬ ((N a ||| (0 : Int32)) ||| N b) < 0 := by
  have e : (N a ||| (0 : Int32)) ||| N b = N (a ||| b) := by
    apply Int32.toBitVec_inj.mp
    apply BitVec.eq_of_toNat_eq
    have h1 : a ||| b < 2 ^ 13 := Nat.or_lt_two_pow (by omega) (by omega)
    show ((BitVec.ofNat 32 a ||| 0#32) ||| BitVec.ofNat 32 b).toNat = (BitVec.ofNat 32 (a ||| b)).toNat
    rw [BitVec.toNat_or, BitVec.toNat_or, BitVec.toNat_ofNat, BitVec.toNat_ofNat, BitVec.toNat_ofNat, BitVec.toNat_ofNat, Nat.mod_eq_of_lt (by omega), Nat.mod_eq_of_lt (by omega : b < 2 ^ 32), Nat.mod_eq_of_lt (by omega : a ||| b < 2 ^ 32)]
    simp
  have h1 : a ||| b < 2 ^ 13 := Nat.or_lt_two_pow (by omega) (by omega)
  rw [e, Int32.lt_iff_toInt_lt, N, Int32.toInt_ofNat_of_lt (by omega)]
  show ¬ ((_ : Int) < 0)
  omega
theorem N_le0 {a b : Nat} (ha : a ≤ 8000) (hb : b ≤ 8000) (q : a ≤ b) : ¬ (N b - (0 : Int32)) < N a := by
  rw [show N b - (0 : Int32) = N b from by apply Int32.toBitVec_inj.mp; simp, N_lt hb ha]; omega
theorem latc {c : Int32} (h : Sm c) : nar .char ((c.toInt8.toInt32 &&& (255 : Int32)).toUInt32.toUInt16.toUInt32.toInt32) = c := by rw [Jvm.Own.low_back h, chr_sm0 h, nar_small h]

theorem efpfs (m : MethodId) (x0 : Int32) (x1 : Int32) (x2 : Int32) (x3 : Value) (r3 : x3.isRef = true) : entryFrame m #[(.int x0), (.int x1), (.int x2), x3] 4 = mkF m 0 #[.val (.int x0), .val (.int x1), .val (.int x2), .val x3] [] := by cases x3 <;> first | (cases r3; done) | first | (simp [entryFrame, mkF, argsToLocals, Value.category]; done) | rfl
set_option maxRecDepth 65536 in
set_option maxHeartbeats 40000000 in
theorem c_pfs {l : Launch} {Z : State} {a0 : Array Value} {G1 : Int32} (X : Ctx Z a0 G1) (q k : Nat) (sv : Value) (h0 : Heap) (hE : Ext Z.heap h0) (rsv : sv.isRef = true) (hk : k ≤ 4000) (hq : q ≤ k) :
    Con l Z consts_1 (⟨"jdk/internal/util/Preconditions", "checkFromIndexSize", "(IIILjava/util/function/BiFunction;)I"⟩ : MethodName) jdk_41_method_13_code 4 (some .int) [] ({ frames := 0, cells := 0, slots := 0, locals := 0 } : Room) #[(.int (0 : Int32)), (.int (N q)), (.int (N k)), sv] h0 (fun v h => v = some (.int (0 : Int32)) ∧ h0 = h) := by
  refine Con.intro (plainFor_of_name pn_1) hE X.el ?_
  intro p e s m below meth c T W
  have hsz := W.size
  refine Go.cast (efpfs m (0 : Int32) (N q) (N k) sv rsv) ?_
  refine W.iN d20_0 rfl ?_
  refine W.iN d20_1 rfl ?_
  refine Go.step (fun _ kz => XS.ior W.here W.hx rfl (W.d d20_2) rfl kz) ?_
  show Go (g := mkF m 3 #[iv 0, iv (N q), iv (N k), .val sv] [(.int ((N k) ||| (0 : Int32)))]) ..
  refine W.iN d20_3 rfl ?_
  refine Go.step (fun _ kz => XS.ior W.here W.hx rfl (W.d d20_4) rfl kz) ?_
  show Go (g := mkF m 5 #[iv 0, iv (N q), iv (N k), .val sv] [(.int (((N k) ||| (0 : Int32)) ||| (N q)))]) ..
  refine W.fn d20_5 ((if0 _ _).trans (flt (N_or (by omega) (by omega))).1) ?_
  refine W.iN d20_8 rfl ?_
  refine W.iN d20_9 rfl ?_
  refine W.iN d20_10 rfl ?_
  refine Go.step (fun _ kz => XS.isub W.here W.hx rfl (W.d d20_11) rfl kz) ?_
  show Go (g := mkF m 12 #[iv 0, iv (N q), iv (N k), .val sv] [(.int ((N k) - (0 : Int32))), (.int (N q))]) ..
  refine W.cy (pc' := 23) d20_12 (flt (N_le0 (by omega) (by omega) hq)).2.2.2 (by decide) (by decide) ?_
  refine W.iN d20_23 rfl ?_
  exact W.retI d20_24 (⟨rfl, rfl⟩) (by decide) (by decide)

theorem efsbo (m : MethodId) (x0 : Int32) (x1 : Int32) (x2 : Int32) : entryFrame m #[(.int x0), (.int x1), (.int x2)] 3 = mkF m 0 #[.val (.int x0), .val (.int x1), .val (.int x2)] [] := by first | (simp [entryFrame, mkF, argsToLocals, Value.category]; done) | rfl
set_option maxRecDepth 65536 in
set_option maxHeartbeats 40000000 in
theorem c_sbo {l : Launch} {Z : State} {a0 : Array Value} {G1 : Int32} (X : Ctx Z a0 G1) (q k : Nat) (sv : Value) (h0 : Heap) (hE : Ext Z.heap h0) (Y : U16 Z sv) (hk : k ≤ 4000) (hq : q ≤ k) :
    Con l Z consts_1 (⟨"java/lang/String", "checkBoundsOffCount", "(III)I"⟩ : MethodName) jdk_42_method_157_code 3 (some .int) [] ({ frames := 1, cells := 0, slots := 0, locals := 15 } : Room) #[(.int (0 : Int32)), (.int (N q)), (.int (N k))] h0 (fun v h => v = some (.int (0 : Int32)) ∧ h0 = h) := by
  refine Con.intro (plainFor_of_name pn_0) hE X.el ?_
  intro p e s m below meth c T W
  have hsz := W.size
  refine Go.cast (efsbo m (0 : Int32) (N q) (N k)) ?_
  refine W.iN d21_0 rfl ?_
  refine W.iN d21_1 rfl ?_
  refine W.iN d21_2 rfl ?_
  refine W.getS (host := "") (Or.inl (X.w 166 rfl)) Via.refl Y.2.2.2.1 d21_3 ?_
  intro T W
  refine W.callS (X.w 208 rfl) (X.w 209 rfl) (X.w 167 rfl) (X.w 210 rfl) (by decide) (c_pfs X q k sv _ W.ext Y.2.2.2.2 hk hq) (by decide) (Wd := 0) (by decide) [(.int (0 : Int32)), (.int (N q)), (.int (N k)), sv] [] rfl pd_14 rfl rfl rfl (Nat.le_of_eq rfl) d21_6 (by decide) (by decide) ?_
  intro v T h vm W hQ C
  obtain ⟨rfl, rfl⟩ := hQ
  show Go (g := mkF m 9 #[iv 0, iv (N q), iv (N k)] [(.int 0)]) ..
  exact W.retI d21_9 (⟨rfl, rfl⟩) (by decide) (by decide)

theorem efboc (m : MethodId) (x0 : Int32) (x1 : Int32) (x2 : Addr) : entryFrame m #[(.int x0), (.int x1), (.ref x2)] 3 = mkF m 0 #[.val (.int x0), .val (.int x1), .val (.ref x2)] [] := by first | (simp [entryFrame, mkF, argsToLocals, Value.category]; done) | rfl
set_option maxRecDepth 65536 in
set_option maxHeartbeats 40000000 in
theorem c_boc {l : Launch} {Z : State} {a0 : Array Value} {G1 : Int32} (X : Ctx Z a0 G1) (q k : Nat) (t : Addr) (kt : ClassId) (vs : List Value) (sv : Value) (h0 : Heap) (hE : Ext Z.heap h0) (Y : U16 Z sv) (V : Arv Z h0 t kt .byte (N (2 * k)) vs (.int (0 : Int32))) (hk : k ≤ 4000) (hq : q ≤ k) :
    Con l Z consts_1 (⟨"java/lang/StringUTF16", "checkBoundsOffCount", "(II[B)V"⟩ : MethodName) jdk_52_method_94_code 3 none [] ({ frames := 2, cells := 0, slots := 0, locals := 29 } : Room) #[(.int (0 : Int32)), (.int (N q)), (.ref t)] h0 (fun v h => v = none ∧ h0 = h) := by
  refine Con.intro (plainFor_of_name pn_2) hE X.el ?_
  intro p e s m below meth c T W
  have hsz := W.size
  refine Go.cast (efboc m (0 : Int32) (N q) t) ?_
  refine W.iN d22_0 rfl ?_
  refine W.iN d22_1 rfl ?_
  refine W.an d22_2 rfl rfl ?_
  refine W.callS (X.w 202 rfl) (X.w 203 rfl) (X.w 18 rfl) (X.w 204 rfl) (by decide) (c_ule X t _ k _ _ W.ext V (by omega)) (by decide) (Wd := 2) (by decide) [(.ref t)] [(.int (N q)), (.int (0 : Int32))] rfl pd_2 rfl rfl rfl (Nat.le_of_eq rfl) d22_3 (by decide) (by decide) ?_
  intro v T h vm W hQ C
  obtain ⟨rfl, rfl⟩ := hQ
  show Go (g := mkF m 6 #[iv 0, iv (N q), rv t] [(.int (N k)), (.int (N q)), (.int 0)]) ..
  refine W.callS (X.w 205 rfl) (X.w 206 rfl) (X.w 4 rfl) (X.w 207 rfl) (by decide) (c_sbo X q k sv _ W.ext Y hk hq) (by decide) (Wd := 0) (by decide) [(.int (0 : Int32)), (.int (N q)), (.int (N k))] [] rfl pd_15 rfl rfl rfl (Nat.le_of_eq rfl) d22_6 (by decide) (by decide) ?_
  intro v T h vm W hQ C
  obtain ⟨rfl, rfl⟩ := hQ
  show Go (g := mkF m 9 #[iv 0, iv (N q), rv t] [(.int 0)]) ..
  refine W.pp d22_9 rfl ?_
  exact W.retV d22_10 (⟨rfl, rfl⟩) (by decide) (by decide)

theorem eflin0 (m : MethodId) (x0 : Addr) (x1 : Int32) (x2 : Addr) (x3 : Int32) (x4 : Int32) : entryFrame m #[(.ref x0), (.int x1), (.ref x2), (.int x3), (.int x4)] 6 = mkF m 0 #[.val (.ref x0), .val (.int x1), .val (.ref x2), .val (.int x3), .val (.int x4), .unset] [] := by first | (simp [entryFrame, mkF, argsToLocals, Value.category]; done) | rfl
set_option maxRecDepth 65536 in
set_option maxHeartbeats 40000000 in
theorem c_lin0 {l : Launch} {Z : State} {a0 : Array Value} {G1 : Int32} (X : Ctx Z a0 G1) (t d : Addr) (kt kd : ClassId) (h0 : Heap) (hE : Ext Z.heap h0) (gd : Z.heap.size ≤ d) (Vt : Arv Z h0 t kt .byte (0 : Int32) [] (.int (0 : Int32))) (Vd : Arv Z h0 d kd .char (0 : Int32) [] (.int (0 : Int32))) (ne : t ≠ d)  :
    Con l Z consts_1 (⟨"java/lang/StringLatin1", "inflate", "([BI[CII)V"⟩ : MethodName) jdk_43_method_49_code 6 none [] ({ frames := 0, cells := 0, slots := 0, locals := 0 } : Room) #[(.ref t), (.int (0 : Int32)), (.ref d), (.int (0 : Int32)), (.int (0 : Int32))] h0 (fun v h => v = none ∧ Keep h0 h [d] ∧ Arv Z h d kd .char (0 : Int32) [] (.int (0 : Int32))) := by
  refine Con.intro (plainFor_of_name pn_3) hE X.el ?_
  intro p e s m below meth c T W
  have hsz := W.size
  refine Go.cast (eflin0 m t (0 : Int32) d (0 : Int32) (0 : Int32)) ?_
  have KP := Keep.refl h0 [d]
  refine W.ic d23_0 0 rfl ?_
  refine W.iss (Ls' := #[rv t, iv 0, rv d, iv 0, iv 0, iv 0]) d23_1 rfl ?_
  refine W.il d23_3 rfl ?_
  refine W.il d23_5 rfl ?_
  refine W.cy (pc' := 33) d23_7 (flt (by decide : ¬ ((0 : Int32) < (0 : Int32)))).2.1 (by decide) (by decide) ?_
  exact W.retV d23_33 (⟨rfl, KP, Vd⟩) (by decide) (by decide)

theorem efltc0 (m : MethodId) (x0 : Addr) : entryFrame m #[(.ref x0)] 2 = mkF m 0 #[.val (.ref x0), .unset] [] := by first | (simp [entryFrame, mkF, argsToLocals, Value.category]; done) | rfl
set_option maxRecDepth 65536 in
set_option maxHeartbeats 40000000 in
theorem c_ltc0 {l : Launch} {Z : State} {a0 : Array Value} {G1 : Int32} (X : Ctx Z a0 G1) (t : Addr) (kt : ClassId) (h0 : Heap) (hE : Ext Z.heap h0) (Vt : Arv Z h0 t kt .byte (0 : Int32) [] (.int (0 : Int32)))  :
    Con l Z consts_1 (⟨"java/lang/StringLatin1", "toChars", "([B)[C"⟩ : MethodName) jdk_43_method_9_code 2 (some (.array .char)) [] ({ frames := 1, cells := 1, slots := 0, locals := 17 } : Room) #[(.ref t)] h0 (fun v h => ∃ (d : Addr) (kd : ClassId), v = some (.ref d) ∧ h0.size ≤ d ∧ Keep h0 h [] ∧ Arv Z h d kd .char (0 : Int32) [] (.int (0 : Int32))) := by
  refine Con.intro (plainFor_of_name pn_3) hE X.el ?_
  intro p e s m below meth c T W
  have hsz := W.size
  refine Go.cast (efltc0 m t) ?_
  have KP := Keep.refl h0 []
  refine W.an d24_0 rfl rfl ?_
  refine W.arraylength Vt d24_1 ?_
  refine W.newarr (X.w 1 rfl) d24_2 (by decide) (cap := 0) (by decide) (by decide) (by decide) (by decide) ?_
  intro T h b1 kb1 hb1 W Eb1 Vb1 Sfb1
  have sz_b1 : h0.size ≤ b1 := by rw [hb1]; exact KP.1
  have ne_t_b1 : t ≠ b1 := by rw [hb1]; exact Nat.ne_of_lt Vt.lt
  have gb1 : Z.heap.size ≤ b1 := by rw [hb1]; exact hsz
  replace KP := KP.ext Eb1
  replace Vt := Vt.ext Eb1
  replace hsz := W.size
  replace Vb1 : Arv Z h b1 kb1 .char (0 : Int32) [] (.int (0 : Int32)) := Vb1.pad (pad_rep [] (.int (0 : Int32)) 0)
  refine W.asn (Ls' := #[rv t, rv b1]) d24_4 rfl rfl ?_
  refine W.an d24_5 rfl rfl ?_
  refine W.ic d24_6 0 rfl ?_
  refine W.an d24_7 rfl rfl ?_
  refine W.ic d24_8 0 rfl ?_
  refine W.an d24_9 rfl rfl ?_
  refine W.arraylength Vt d24_10 ?_
  refine W.callS (X.w 77 rfl) (X.w 78 rfl) (X.w 75 rfl) (X.w 79 rfl) (by decide) (c_lin0 X t b1 _ _  _ W.ext gb1 Vt Vb1 ne_t_b1 ) (by decide) (Wd := 0) (by decide) [(.ref t), (.int (0 : Int32)), (.ref b1), (.int (0 : Int32)), (.int (0 : Int32))] [] rfl pd_16 rfl rfl rfl (Nat.le_of_eq rfl) d24_11 (by decide) (by decide) ?_
  intro v T h vm W hQ C
  obtain ⟨rfl, K2, Vb1'⟩ := hQ
  replace KP := KP.otrN K2 sz_b1
  replace Vt := Vt.keep K2 (nin1 ne_t_b1)
  replace hsz := W.size
  replace Vb1 := Vb1'
  show Go (g := mkF m 14 #[rv t, rv b1] []) ..
  refine W.an d24_14 rfl rfl ?_
  exact W.retR rfl rfl rfl d24_15 (⟨b1, _, rfl, sz_b1, KP, Vb1⟩) (by decide) (by decide)

theorem eflin1 (m : MethodId) (x0 : Addr) (x1 : Int32) (x2 : Addr) (x3 : Int32) (x4 : Int32) : entryFrame m #[(.ref x0), (.int x1), (.ref x2), (.int x3), (.int x4)] 6 = mkF m 0 #[.val (.ref x0), .val (.int x1), .val (.ref x2), .val (.int x3), .val (.int x4), .unset] [] := by first | (simp [entryFrame, mkF, argsToLocals, Value.category]; done) | rfl
set_option maxRecDepth 65536 in
set_option maxHeartbeats 40000000 in
theorem c_lin1 {l : Launch} {Z : State} {a0 : Array Value} {G1 : Int32} (X : Ctx Z a0 G1) (t d : Addr) (kt kd : ClassId) (c0 : Int32) (h0 : Heap) (hE : Ext Z.heap h0) (gd : Z.heap.size ≤ d) (Vt : Arv Z h0 t kt .byte (1 : Int32) [(.int c0.toInt8.toInt32)] (.int (0 : Int32))) (Vd : Arv Z h0 d kd .char (1 : Int32) [(.int (0 : Int32))] (.int (0 : Int32))) (ne : t ≠ d) (t0 : Sm c0) :
    Con l Z consts_1 (⟨"java/lang/StringLatin1", "inflate", "([BI[CII)V"⟩ : MethodName) jdk_43_method_49_code 6 none [] ({ frames := 0, cells := 0, slots := 0, locals := 0 } : Room) #[(.ref t), (.int (0 : Int32)), (.ref d), (.int (0 : Int32)), (.int (1 : Int32))] h0 (fun v h => v = none ∧ Keep h0 h [d] ∧ Arv Z h d kd .char (1 : Int32) [(.int c0)] (.int (0 : Int32))) := by
  refine Con.intro (plainFor_of_name pn_3) hE X.el ?_
  intro p e s m below meth c T W
  have hsz := W.size
  refine Go.cast (eflin1 m t (0 : Int32) d (0 : Int32) (1 : Int32)) ?_
  have KP := Keep.refl h0 [d]
  refine W.ic d23_0 0 rfl ?_
  refine W.iss (Ls' := #[rv t, iv 0, rv d, iv 0, iv 1, iv 0]) d23_1 rfl ?_
  refine W.il d23_3 rfl ?_
  refine W.il d23_5 rfl ?_
  refine W.cn d23_7 (tlt (by decide : (0 : Int32) < (1 : Int32))).2.1 ?_
  refine W.an d23_10 rfl rfl ?_
  refine W.iN d23_11 rfl ?_
  refine W.ii (Ls' := #[rv t, iv 0, rv d, iv 1, iv 1, iv 0]) d23_12 rfl rfl ?_
  refine W.an d23_15 rfl rfl ?_
  refine W.iN d23_16 rfl ?_
  refine W.ii (Ls' := #[rv t, iv 1, rv d, iv 1, iv 1, iv 0]) d23_17 rfl rfl ?_
  refine W.baload Vt (by decide) rfl d23_20 ?_
  show Go (g := mkF m 21 #[rv t, iv 1, rv d, iv 1, iv 1, iv 0] [(.int c0.toInt8.toInt32), (.int 0), (.ref d)]) ..
  refine W.sp d23_21 255 rfl ?_
  refine Go.step (fun _ kz => XS.iand W.here W.hx rfl (W.d d23_24) rfl kz) ?_
  show Go (g := mkF m 25 #[rv t, iv 1, rv d, iv 1, iv 1, iv 0] [(.int (c0.toInt8.toInt32 &&& (255 : Int32))), (.int 0), (.ref d)]) ..
  refine Go.step (fun _ kz => XS.i2c W.here W.hx rfl (W.d d23_25) rfl kz) ?_
  show Go (g := mkF m 26 #[rv t, iv 1, rv d, iv 1, iv 1, iv 0] [(.int ((c0.toInt8.toInt32 &&& (255 : Int32)).toUInt32.toUInt16.toUInt32.toInt32)), (.int 0), (.ref d)]) ..
  refine W.castore Vd 0 rfl (by simp) (by decide) gd d23_26 ?_
  intro T h W K1 Vd'
  replace KP := KP.otrM K1 (by simp)
  replace Vt := Vt.keep K1 (nin1 ne)
  replace hsz := W.size
  replace Vd : Arv Z h d kd .char (1 : Int32) [(.int (nar .char ((c0.toInt8.toInt32 &&& (255 : Int32)).toUInt32.toUInt16.toUInt32.toInt32)))] (.int (0 : Int32)) := Vd'
  refine W.ii (Ls' := #[rv t, iv 1, rv d, iv 1, iv 1, iv 1]) d23_27 rfl rfl ?_
  refine W.gt (pc' := 3) d23_30 (by decide) (by decide) ?_
  refine W.il d23_3 rfl ?_
  refine W.il d23_5 rfl ?_
  refine W.cy (pc' := 33) d23_7 (flt (by decide : ¬ ((1 : Int32) < (1 : Int32)))).2.1 (by decide) (by decide) ?_
  rw [latc t0] at Vd
  exact W.retV d23_33 (⟨rfl, KP, Vd⟩) (by decide) (by decide)

theorem efltc1 (m : MethodId) (x0 : Addr) : entryFrame m #[(.ref x0)] 2 = mkF m 0 #[.val (.ref x0), .unset] [] := by first | (simp [entryFrame, mkF, argsToLocals, Value.category]; done) | rfl
set_option maxRecDepth 65536 in
set_option maxHeartbeats 40000000 in
theorem c_ltc1 {l : Launch} {Z : State} {a0 : Array Value} {G1 : Int32} (X : Ctx Z a0 G1) (t : Addr) (kt : ClassId) (c0 : Int32) (h0 : Heap) (hE : Ext Z.heap h0) (Vt : Arv Z h0 t kt .byte (1 : Int32) [(.int c0.toInt8.toInt32)] (.int (0 : Int32))) (t0 : Sm c0) :
    Con l Z consts_1 (⟨"java/lang/StringLatin1", "toChars", "([B)[C"⟩ : MethodName) jdk_43_method_9_code 2 (some (.array .char)) [] ({ frames := 1, cells := 1, slots := 1, locals := 17 } : Room) #[(.ref t)] h0 (fun v h => ∃ (d : Addr) (kd : ClassId), v = some (.ref d) ∧ h0.size ≤ d ∧ Keep h0 h [] ∧ Arv Z h d kd .char (1 : Int32) [(.int c0)] (.int (0 : Int32))) := by
  refine Con.intro (plainFor_of_name pn_3) hE X.el ?_
  intro p e s m below meth c T W
  have hsz := W.size
  refine Go.cast (efltc1 m t) ?_
  have KP := Keep.refl h0 []
  refine W.an d24_0 rfl rfl ?_
  refine W.arraylength Vt d24_1 ?_
  refine W.newarr (X.w 1 rfl) d24_2 (by decide) (cap := 1) (by decide) (by decide) (by decide) (by decide) ?_
  intro T h b1 kb1 hb1 W Eb1 Vb1 Sfb1
  have sz_b1 : h0.size ≤ b1 := by rw [hb1]; exact KP.1
  have ne_t_b1 : t ≠ b1 := by rw [hb1]; exact Nat.ne_of_lt Vt.lt
  have gb1 : Z.heap.size ≤ b1 := by rw [hb1]; exact hsz
  replace KP := KP.ext Eb1
  replace Vt := Vt.ext Eb1
  replace hsz := W.size
  replace Vb1 : Arv Z h b1 kb1 .char (1 : Int32) [(.int (0 : Int32))] (.int (0 : Int32)) := Vb1.pad (pad_rep [] (.int (0 : Int32)) 1)
  refine W.asn (Ls' := #[rv t, rv b1]) d24_4 rfl rfl ?_
  refine W.an d24_5 rfl rfl ?_
  refine W.ic d24_6 0 rfl ?_
  refine W.an d24_7 rfl rfl ?_
  refine W.ic d24_8 0 rfl ?_
  refine W.an d24_9 rfl rfl ?_
  refine W.arraylength Vt d24_10 ?_
  refine W.callS (X.w 77 rfl) (X.w 78 rfl) (X.w 75 rfl) (X.w 79 rfl) (by decide) (c_lin1 X t b1 _ _ c0 _ W.ext gb1 Vt Vb1 ne_t_b1 t0) (by decide) (Wd := 0) (by decide) [(.ref t), (.int (0 : Int32)), (.ref b1), (.int (0 : Int32)), (.int (1 : Int32))] [] rfl pd_16 rfl rfl rfl (Nat.le_of_eq rfl) d24_11 (by decide) (by decide) ?_
  intro v T h vm W hQ C
  obtain ⟨rfl, K2, Vb1'⟩ := hQ
  replace KP := KP.otrN K2 sz_b1
  replace Vt := Vt.keep K2 (nin1 ne_t_b1)
  replace hsz := W.size
  replace Vb1 := Vb1'
  show Go (g := mkF m 14 #[rv t, rv b1] []) ..
  refine W.an d24_14 rfl rfl ?_
  exact W.retR rfl rfl rfl d24_15 (⟨b1, _, rfl, sz_b1, KP, Vb1⟩) (by decide) (by decide)

theorem eflin2 (m : MethodId) (x0 : Addr) (x1 : Int32) (x2 : Addr) (x3 : Int32) (x4 : Int32) : entryFrame m #[(.ref x0), (.int x1), (.ref x2), (.int x3), (.int x4)] 6 = mkF m 0 #[.val (.ref x0), .val (.int x1), .val (.ref x2), .val (.int x3), .val (.int x4), .unset] [] := by first | (simp [entryFrame, mkF, argsToLocals, Value.category]; done) | rfl
set_option maxRecDepth 65536 in
set_option maxHeartbeats 40000000 in
theorem c_lin2 {l : Launch} {Z : State} {a0 : Array Value} {G1 : Int32} (X : Ctx Z a0 G1) (t d : Addr) (kt kd : ClassId) (c0 c1 : Int32) (h0 : Heap) (hE : Ext Z.heap h0) (gd : Z.heap.size ≤ d) (Vt : Arv Z h0 t kt .byte (2 : Int32) [(.int c0.toInt8.toInt32), (.int c1.toInt8.toInt32)] (.int (0 : Int32))) (Vd : Arv Z h0 d kd .char (2 : Int32) [(.int (0 : Int32)), (.int (0 : Int32))] (.int (0 : Int32))) (ne : t ≠ d) (t0 : Sm c0) (t1 : Sm c1) :
    Con l Z consts_1 (⟨"java/lang/StringLatin1", "inflate", "([BI[CII)V"⟩ : MethodName) jdk_43_method_49_code 6 none [] ({ frames := 0, cells := 0, slots := 0, locals := 0 } : Room) #[(.ref t), (.int (0 : Int32)), (.ref d), (.int (0 : Int32)), (.int (2 : Int32))] h0 (fun v h => v = none ∧ Keep h0 h [d] ∧ Arv Z h d kd .char (2 : Int32) [(.int c0), (.int c1)] (.int (0 : Int32))) := by
  refine Con.intro (plainFor_of_name pn_3) hE X.el ?_
  intro p e s m below meth c T W
  have hsz := W.size
  refine Go.cast (eflin2 m t (0 : Int32) d (0 : Int32) (2 : Int32)) ?_
  have KP := Keep.refl h0 [d]
  refine W.ic d23_0 0 rfl ?_
  refine W.iss (Ls' := #[rv t, iv 0, rv d, iv 0, iv 2, iv 0]) d23_1 rfl ?_
  refine W.il d23_3 rfl ?_
  refine W.il d23_5 rfl ?_
  refine W.cn d23_7 (tlt (by decide : (0 : Int32) < (2 : Int32))).2.1 ?_
  refine W.an d23_10 rfl rfl ?_
  refine W.iN d23_11 rfl ?_
  refine W.ii (Ls' := #[rv t, iv 0, rv d, iv 1, iv 2, iv 0]) d23_12 rfl rfl ?_
  refine W.an d23_15 rfl rfl ?_
  refine W.iN d23_16 rfl ?_
  refine W.ii (Ls' := #[rv t, iv 1, rv d, iv 1, iv 2, iv 0]) d23_17 rfl rfl ?_
  refine W.baload Vt (by decide) rfl d23_20 ?_
  show Go (g := mkF m 21 #[rv t, iv 1, rv d, iv 1, iv 2, iv 0] [(.int c0.toInt8.toInt32), (.int 0), (.ref d)]) ..
  refine W.sp d23_21 255 rfl ?_
  refine Go.step (fun _ kz => XS.iand W.here W.hx rfl (W.d d23_24) rfl kz) ?_
  show Go (g := mkF m 25 #[rv t, iv 1, rv d, iv 1, iv 2, iv 0] [(.int (c0.toInt8.toInt32 &&& (255 : Int32))), (.int 0), (.ref d)]) ..
  refine Go.step (fun _ kz => XS.i2c W.here W.hx rfl (W.d d23_25) rfl kz) ?_
  show Go (g := mkF m 26 #[rv t, iv 1, rv d, iv 1, iv 2, iv 0] [(.int ((c0.toInt8.toInt32 &&& (255 : Int32)).toUInt32.toUInt16.toUInt32.toInt32)), (.int 0), (.ref d)]) ..
  refine W.castore Vd 0 rfl (by simp) (by decide) gd d23_26 ?_
  intro T h W K1 Vd'
  replace KP := KP.otrM K1 (by simp)
  replace Vt := Vt.keep K1 (nin1 ne)
  replace hsz := W.size
  replace Vd : Arv Z h d kd .char (2 : Int32) [(.int (nar .char ((c0.toInt8.toInt32 &&& (255 : Int32)).toUInt32.toUInt16.toUInt32.toInt32))), (.int (0 : Int32))] (.int (0 : Int32)) := Vd'
  refine W.ii (Ls' := #[rv t, iv 1, rv d, iv 1, iv 2, iv 1]) d23_27 rfl rfl ?_
  refine W.gt (pc' := 3) d23_30 (by decide) (by decide) ?_
  refine W.il d23_3 rfl ?_
  refine W.il d23_5 rfl ?_
  refine W.cn d23_7 (tlt (by decide : (1 : Int32) < (2 : Int32))).2.1 ?_
  refine W.an d23_10 rfl rfl ?_
  refine W.iN d23_11 rfl ?_
  refine W.ii (Ls' := #[rv t, iv 1, rv d, iv 2, iv 2, iv 1]) d23_12 rfl rfl ?_
  refine W.an d23_15 rfl rfl ?_
  refine W.iN d23_16 rfl ?_
  refine W.ii (Ls' := #[rv t, iv 2, rv d, iv 2, iv 2, iv 1]) d23_17 rfl rfl ?_
  refine W.baload Vt (by decide) rfl d23_20 ?_
  show Go (g := mkF m 21 #[rv t, iv 2, rv d, iv 2, iv 2, iv 1] [(.int c1.toInt8.toInt32), (.int 1), (.ref d)]) ..
  refine W.sp d23_21 255 rfl ?_
  refine Go.step (fun _ kz => XS.iand W.here W.hx rfl (W.d d23_24) rfl kz) ?_
  show Go (g := mkF m 25 #[rv t, iv 2, rv d, iv 2, iv 2, iv 1] [(.int (c1.toInt8.toInt32 &&& (255 : Int32))), (.int 1), (.ref d)]) ..
  refine Go.step (fun _ kz => XS.i2c W.here W.hx rfl (W.d d23_25) rfl kz) ?_
  show Go (g := mkF m 26 #[rv t, iv 2, rv d, iv 2, iv 2, iv 1] [(.int ((c1.toInt8.toInt32 &&& (255 : Int32)).toUInt32.toUInt16.toUInt32.toInt32)), (.int 1), (.ref d)]) ..
  refine W.castore Vd 1 rfl (by simp) (by decide) gd d23_26 ?_
  intro T h W K2 Vd'
  replace KP := KP.otrM K2 (by simp)
  replace Vt := Vt.keep K2 (nin1 ne)
  replace hsz := W.size
  replace Vd : Arv Z h d kd .char (2 : Int32) [(.int (nar .char ((c0.toInt8.toInt32 &&& (255 : Int32)).toUInt32.toUInt16.toUInt32.toInt32))), (.int (nar .char ((c1.toInt8.toInt32 &&& (255 : Int32)).toUInt32.toUInt16.toUInt32.toInt32)))] (.int (0 : Int32)) := Vd'
  refine W.ii (Ls' := #[rv t, iv 2, rv d, iv 2, iv 2, iv 2]) d23_27 rfl rfl ?_
  refine W.gt (pc' := 3) d23_30 (by decide) (by decide) ?_
  refine W.il d23_3 rfl ?_
  refine W.il d23_5 rfl ?_
  refine W.cy (pc' := 33) d23_7 (flt (by decide : ¬ ((2 : Int32) < (2 : Int32)))).2.1 (by decide) (by decide) ?_
  rw [latc t0] at Vd
  rw [latc t1] at Vd
  exact W.retV d23_33 (⟨rfl, KP, Vd⟩) (by decide) (by decide)

theorem efltc2 (m : MethodId) (x0 : Addr) : entryFrame m #[(.ref x0)] 2 = mkF m 0 #[.val (.ref x0), .unset] [] := by first | (simp [entryFrame, mkF, argsToLocals, Value.category]; done) | rfl
set_option maxRecDepth 65536 in
set_option maxHeartbeats 40000000 in
theorem c_ltc2 {l : Launch} {Z : State} {a0 : Array Value} {G1 : Int32} (X : Ctx Z a0 G1) (t : Addr) (kt : ClassId) (c0 c1 : Int32) (h0 : Heap) (hE : Ext Z.heap h0) (Vt : Arv Z h0 t kt .byte (2 : Int32) [(.int c0.toInt8.toInt32), (.int c1.toInt8.toInt32)] (.int (0 : Int32))) (t0 : Sm c0) (t1 : Sm c1) :
    Con l Z consts_1 (⟨"java/lang/StringLatin1", "toChars", "([B)[C"⟩ : MethodName) jdk_43_method_9_code 2 (some (.array .char)) [] ({ frames := 1, cells := 1, slots := 2, locals := 17 } : Room) #[(.ref t)] h0 (fun v h => ∃ (d : Addr) (kd : ClassId), v = some (.ref d) ∧ h0.size ≤ d ∧ Keep h0 h [] ∧ Arv Z h d kd .char (2 : Int32) [(.int c0), (.int c1)] (.int (0 : Int32))) := by
  refine Con.intro (plainFor_of_name pn_3) hE X.el ?_
  intro p e s m below meth c T W
  have hsz := W.size
  refine Go.cast (efltc2 m t) ?_
  have KP := Keep.refl h0 []
  refine W.an d24_0 rfl rfl ?_
  refine W.arraylength Vt d24_1 ?_
  refine W.newarr (X.w 1 rfl) d24_2 (by decide) (cap := 2) (by decide) (by decide) (by decide) (by decide) ?_
  intro T h b1 kb1 hb1 W Eb1 Vb1 Sfb1
  have sz_b1 : h0.size ≤ b1 := by rw [hb1]; exact KP.1
  have ne_t_b1 : t ≠ b1 := by rw [hb1]; exact Nat.ne_of_lt Vt.lt
  have gb1 : Z.heap.size ≤ b1 := by rw [hb1]; exact hsz
  replace KP := KP.ext Eb1
  replace Vt := Vt.ext Eb1
  replace hsz := W.size
  replace Vb1 : Arv Z h b1 kb1 .char (2 : Int32) [(.int (0 : Int32)), (.int (0 : Int32))] (.int (0 : Int32)) := Vb1.pad (pad_rep [] (.int (0 : Int32)) 2)
  refine W.asn (Ls' := #[rv t, rv b1]) d24_4 rfl rfl ?_
  refine W.an d24_5 rfl rfl ?_
  refine W.ic d24_6 0 rfl ?_
  refine W.an d24_7 rfl rfl ?_
  refine W.ic d24_8 0 rfl ?_
  refine W.an d24_9 rfl rfl ?_
  refine W.arraylength Vt d24_10 ?_
  refine W.callS (X.w 77 rfl) (X.w 78 rfl) (X.w 75 rfl) (X.w 79 rfl) (by decide) (c_lin2 X t b1 _ _ c0 c1 _ W.ext gb1 Vt Vb1 ne_t_b1 t0 t1) (by decide) (Wd := 0) (by decide) [(.ref t), (.int (0 : Int32)), (.ref b1), (.int (0 : Int32)), (.int (2 : Int32))] [] rfl pd_16 rfl rfl rfl (Nat.le_of_eq rfl) d24_11 (by decide) (by decide) ?_
  intro v T h vm W hQ C
  obtain ⟨rfl, K2, Vb1'⟩ := hQ
  replace KP := KP.otrN K2 sz_b1
  replace Vt := Vt.keep K2 (nin1 ne_t_b1)
  replace hsz := W.size
  replace Vb1 := Vb1'
  show Go (g := mkF m 14 #[rv t, rv b1] []) ..
  refine W.an d24_14 rfl rfl ?_
  exact W.retR rfl rfl rfl d24_15 (⟨b1, _, rfl, sz_b1, KP, Vb1⟩) (by decide) (by decide)

theorem eflin3 (m : MethodId) (x0 : Addr) (x1 : Int32) (x2 : Addr) (x3 : Int32) (x4 : Int32) : entryFrame m #[(.ref x0), (.int x1), (.ref x2), (.int x3), (.int x4)] 6 = mkF m 0 #[.val (.ref x0), .val (.int x1), .val (.ref x2), .val (.int x3), .val (.int x4), .unset] [] := by first | (simp [entryFrame, mkF, argsToLocals, Value.category]; done) | rfl
set_option maxRecDepth 65536 in
set_option maxHeartbeats 40000000 in
theorem c_lin3 {l : Launch} {Z : State} {a0 : Array Value} {G1 : Int32} (X : Ctx Z a0 G1) (t d : Addr) (kt kd : ClassId) (c0 c1 c2 : Int32) (h0 : Heap) (hE : Ext Z.heap h0) (gd : Z.heap.size ≤ d) (Vt : Arv Z h0 t kt .byte (3 : Int32) [(.int c0.toInt8.toInt32), (.int c1.toInt8.toInt32), (.int c2.toInt8.toInt32)] (.int (0 : Int32))) (Vd : Arv Z h0 d kd .char (3 : Int32) [(.int (0 : Int32)), (.int (0 : Int32)), (.int (0 : Int32))] (.int (0 : Int32))) (ne : t ≠ d) (t0 : Sm c0) (t1 : Sm c1) (t2 : Sm c2) :
    Con l Z consts_1 (⟨"java/lang/StringLatin1", "inflate", "([BI[CII)V"⟩ : MethodName) jdk_43_method_49_code 6 none [] ({ frames := 0, cells := 0, slots := 0, locals := 0 } : Room) #[(.ref t), (.int (0 : Int32)), (.ref d), (.int (0 : Int32)), (.int (3 : Int32))] h0 (fun v h => v = none ∧ Keep h0 h [d] ∧ Arv Z h d kd .char (3 : Int32) [(.int c0), (.int c1), (.int c2)] (.int (0 : Int32))) := by
  refine Con.intro (plainFor_of_name pn_3) hE X.el ?_
  intro p e s m below meth c T W
  have hsz := W.size
  refine Go.cast (eflin3 m t (0 : Int32) d (0 : Int32) (3 : Int32)) ?_
  have KP := Keep.refl h0 [d]
  refine W.ic d23_0 0 rfl ?_
  refine W.iss (Ls' := #[rv t, iv 0, rv d, iv 0, iv 3, iv 0]) d23_1 rfl ?_
  refine W.il d23_3 rfl ?_
  refine W.il d23_5 rfl ?_
  refine W.cn d23_7 (tlt (by decide : (0 : Int32) < (3 : Int32))).2.1 ?_
  refine W.an d23_10 rfl rfl ?_
  refine W.iN d23_11 rfl ?_
  refine W.ii (Ls' := #[rv t, iv 0, rv d, iv 1, iv 3, iv 0]) d23_12 rfl rfl ?_
  refine W.an d23_15 rfl rfl ?_
  refine W.iN d23_16 rfl ?_
  refine W.ii (Ls' := #[rv t, iv 1, rv d, iv 1, iv 3, iv 0]) d23_17 rfl rfl ?_
  refine W.baload Vt (by decide) rfl d23_20 ?_
  show Go (g := mkF m 21 #[rv t, iv 1, rv d, iv 1, iv 3, iv 0] [(.int c0.toInt8.toInt32), (.int 0), (.ref d)]) ..
  refine W.sp d23_21 255 rfl ?_
  refine Go.step (fun _ kz => XS.iand W.here W.hx rfl (W.d d23_24) rfl kz) ?_
  show Go (g := mkF m 25 #[rv t, iv 1, rv d, iv 1, iv 3, iv 0] [(.int (c0.toInt8.toInt32 &&& (255 : Int32))), (.int 0), (.ref d)]) ..
  refine Go.step (fun _ kz => XS.i2c W.here W.hx rfl (W.d d23_25) rfl kz) ?_
  show Go (g := mkF m 26 #[rv t, iv 1, rv d, iv 1, iv 3, iv 0] [(.int ((c0.toInt8.toInt32 &&& (255 : Int32)).toUInt32.toUInt16.toUInt32.toInt32)), (.int 0), (.ref d)]) ..
  refine W.castore Vd 0 rfl (by simp) (by decide) gd d23_26 ?_
  intro T h W K1 Vd'
  replace KP := KP.otrM K1 (by simp)
  replace Vt := Vt.keep K1 (nin1 ne)
  replace hsz := W.size
  replace Vd : Arv Z h d kd .char (3 : Int32) [(.int (nar .char ((c0.toInt8.toInt32 &&& (255 : Int32)).toUInt32.toUInt16.toUInt32.toInt32))), (.int (0 : Int32)), (.int (0 : Int32))] (.int (0 : Int32)) := Vd'
  refine W.ii (Ls' := #[rv t, iv 1, rv d, iv 1, iv 3, iv 1]) d23_27 rfl rfl ?_
  refine W.gt (pc' := 3) d23_30 (by decide) (by decide) ?_
  refine W.il d23_3 rfl ?_
  refine W.il d23_5 rfl ?_
  refine W.cn d23_7 (tlt (by decide : (1 : Int32) < (3 : Int32))).2.1 ?_
  refine W.an d23_10 rfl rfl ?_
  refine W.iN d23_11 rfl ?_
  refine W.ii (Ls' := #[rv t, iv 1, rv d, iv 2, iv 3, iv 1]) d23_12 rfl rfl ?_
  refine W.an d23_15 rfl rfl ?_
  refine W.iN d23_16 rfl ?_
  refine W.ii (Ls' := #[rv t, iv 2, rv d, iv 2, iv 3, iv 1]) d23_17 rfl rfl ?_
  refine W.baload Vt (by decide) rfl d23_20 ?_
  show Go (g := mkF m 21 #[rv t, iv 2, rv d, iv 2, iv 3, iv 1] [(.int c1.toInt8.toInt32), (.int 1), (.ref d)]) ..
  refine W.sp d23_21 255 rfl ?_
  refine Go.step (fun _ kz => XS.iand W.here W.hx rfl (W.d d23_24) rfl kz) ?_
  show Go (g := mkF m 25 #[rv t, iv 2, rv d, iv 2, iv 3, iv 1] [(.int (c1.toInt8.toInt32 &&& (255 : Int32))), (.int 1), (.ref d)]) ..
  refine Go.step (fun _ kz => XS.i2c W.here W.hx rfl (W.d d23_25) rfl kz) ?_
  show Go (g := mkF m 26 #[rv t, iv 2, rv d, iv 2, iv 3, iv 1] [(.int ((c1.toInt8.toInt32 &&& (255 : Int32)).toUInt32.toUInt16.toUInt32.toInt32)), (.int 1), (.ref d)]) ..
  refine W.castore Vd 1 rfl (by simp) (by decide) gd d23_26 ?_
  intro T h W K2 Vd'
  replace KP := KP.otrM K2 (by simp)
  replace Vt := Vt.keep K2 (nin1 ne)
  replace hsz := W.size
  replace Vd : Arv Z h d kd .char (3 : Int32) [(.int (nar .char ((c0.toInt8.toInt32 &&& (255 : Int32)).toUInt32.toUInt16.toUInt32.toInt32))), (.int (nar .char ((c1.toInt8.toInt32 &&& (255 : Int32)).toUInt32.toUInt16.toUInt32.toInt32))), (.int (0 : Int32))] (.int (0 : Int32)) := Vd'
  refine W.ii (Ls' := #[rv t, iv 2, rv d, iv 2, iv 3, iv 2]) d23_27 rfl rfl ?_
  refine W.gt (pc' := 3) d23_30 (by decide) (by decide) ?_
  refine W.il d23_3 rfl ?_
  refine W.il d23_5 rfl ?_
  refine W.cn d23_7 (tlt (by decide : (2 : Int32) < (3 : Int32))).2.1 ?_
  refine W.an d23_10 rfl rfl ?_
  refine W.iN d23_11 rfl ?_
  refine W.ii (Ls' := #[rv t, iv 2, rv d, iv 3, iv 3, iv 2]) d23_12 rfl rfl ?_
  refine W.an d23_15 rfl rfl ?_
  refine W.iN d23_16 rfl ?_
  refine W.ii (Ls' := #[rv t, iv 3, rv d, iv 3, iv 3, iv 2]) d23_17 rfl rfl ?_
  refine W.baload Vt (by decide) rfl d23_20 ?_
  show Go (g := mkF m 21 #[rv t, iv 3, rv d, iv 3, iv 3, iv 2] [(.int c2.toInt8.toInt32), (.int 2), (.ref d)]) ..
  refine W.sp d23_21 255 rfl ?_
  refine Go.step (fun _ kz => XS.iand W.here W.hx rfl (W.d d23_24) rfl kz) ?_
  show Go (g := mkF m 25 #[rv t, iv 3, rv d, iv 3, iv 3, iv 2] [(.int (c2.toInt8.toInt32 &&& (255 : Int32))), (.int 2), (.ref d)]) ..
  refine Go.step (fun _ kz => XS.i2c W.here W.hx rfl (W.d d23_25) rfl kz) ?_
  show Go (g := mkF m 26 #[rv t, iv 3, rv d, iv 3, iv 3, iv 2] [(.int ((c2.toInt8.toInt32 &&& (255 : Int32)).toUInt32.toUInt16.toUInt32.toInt32)), (.int 2), (.ref d)]) ..
  refine W.castore Vd 2 rfl (by simp) (by decide) gd d23_26 ?_
  intro T h W K3 Vd'
  replace KP := KP.otrM K3 (by simp)
  replace Vt := Vt.keep K3 (nin1 ne)
  replace hsz := W.size
  replace Vd : Arv Z h d kd .char (3 : Int32) [(.int (nar .char ((c0.toInt8.toInt32 &&& (255 : Int32)).toUInt32.toUInt16.toUInt32.toInt32))), (.int (nar .char ((c1.toInt8.toInt32 &&& (255 : Int32)).toUInt32.toUInt16.toUInt32.toInt32))), (.int (nar .char ((c2.toInt8.toInt32 &&& (255 : Int32)).toUInt32.toUInt16.toUInt32.toInt32)))] (.int (0 : Int32)) := Vd'
  refine W.ii (Ls' := #[rv t, iv 3, rv d, iv 3, iv 3, iv 3]) d23_27 rfl rfl ?_
  refine W.gt (pc' := 3) d23_30 (by decide) (by decide) ?_
  refine W.il d23_3 rfl ?_
  refine W.il d23_5 rfl ?_
  refine W.cy (pc' := 33) d23_7 (flt (by decide : ¬ ((3 : Int32) < (3 : Int32)))).2.1 (by decide) (by decide) ?_
  rw [latc t0] at Vd
  rw [latc t1] at Vd
  rw [latc t2] at Vd
  exact W.retV d23_33 (⟨rfl, KP, Vd⟩) (by decide) (by decide)

theorem efltc3 (m : MethodId) (x0 : Addr) : entryFrame m #[(.ref x0)] 2 = mkF m 0 #[.val (.ref x0), .unset] [] := by first | (simp [entryFrame, mkF, argsToLocals, Value.category]; done) | rfl
set_option maxRecDepth 65536 in
set_option maxHeartbeats 40000000 in
theorem c_ltc3 {l : Launch} {Z : State} {a0 : Array Value} {G1 : Int32} (X : Ctx Z a0 G1) (t : Addr) (kt : ClassId) (c0 c1 c2 : Int32) (h0 : Heap) (hE : Ext Z.heap h0) (Vt : Arv Z h0 t kt .byte (3 : Int32) [(.int c0.toInt8.toInt32), (.int c1.toInt8.toInt32), (.int c2.toInt8.toInt32)] (.int (0 : Int32))) (t0 : Sm c0) (t1 : Sm c1) (t2 : Sm c2) :
    Con l Z consts_1 (⟨"java/lang/StringLatin1", "toChars", "([B)[C"⟩ : MethodName) jdk_43_method_9_code 2 (some (.array .char)) [] ({ frames := 1, cells := 1, slots := 3, locals := 17 } : Room) #[(.ref t)] h0 (fun v h => ∃ (d : Addr) (kd : ClassId), v = some (.ref d) ∧ h0.size ≤ d ∧ Keep h0 h [] ∧ Arv Z h d kd .char (3 : Int32) [(.int c0), (.int c1), (.int c2)] (.int (0 : Int32))) := by
  refine Con.intro (plainFor_of_name pn_3) hE X.el ?_
  intro p e s m below meth c T W
  have hsz := W.size
  refine Go.cast (efltc3 m t) ?_
  have KP := Keep.refl h0 []
  refine W.an d24_0 rfl rfl ?_
  refine W.arraylength Vt d24_1 ?_
  refine W.newarr (X.w 1 rfl) d24_2 (by decide) (cap := 3) (by decide) (by decide) (by decide) (by decide) ?_
  intro T h b1 kb1 hb1 W Eb1 Vb1 Sfb1
  have sz_b1 : h0.size ≤ b1 := by rw [hb1]; exact KP.1
  have ne_t_b1 : t ≠ b1 := by rw [hb1]; exact Nat.ne_of_lt Vt.lt
  have gb1 : Z.heap.size ≤ b1 := by rw [hb1]; exact hsz
  replace KP := KP.ext Eb1
  replace Vt := Vt.ext Eb1
  replace hsz := W.size
  replace Vb1 : Arv Z h b1 kb1 .char (3 : Int32) [(.int (0 : Int32)), (.int (0 : Int32)), (.int (0 : Int32))] (.int (0 : Int32)) := Vb1.pad (pad_rep [] (.int (0 : Int32)) 3)
  refine W.asn (Ls' := #[rv t, rv b1]) d24_4 rfl rfl ?_
  refine W.an d24_5 rfl rfl ?_
  refine W.ic d24_6 0 rfl ?_
  refine W.an d24_7 rfl rfl ?_
  refine W.ic d24_8 0 rfl ?_
  refine W.an d24_9 rfl rfl ?_
  refine W.arraylength Vt d24_10 ?_
  refine W.callS (X.w 77 rfl) (X.w 78 rfl) (X.w 75 rfl) (X.w 79 rfl) (by decide) (c_lin3 X t b1 _ _ c0 c1 c2 _ W.ext gb1 Vt Vb1 ne_t_b1 t0 t1 t2) (by decide) (Wd := 0) (by decide) [(.ref t), (.int (0 : Int32)), (.ref b1), (.int (0 : Int32)), (.int (3 : Int32))] [] rfl pd_16 rfl rfl rfl (Nat.le_of_eq rfl) d24_11 (by decide) (by decide) ?_
  intro v T h vm W hQ C
  obtain ⟨rfl, K2, Vb1'⟩ := hQ
  replace KP := KP.otrN K2 sz_b1
  replace Vt := Vt.keep K2 (nin1 ne_t_b1)
  replace hsz := W.size
  replace Vb1 := Vb1'
  show Go (g := mkF m 14 #[rv t, rv b1] []) ..
  refine W.an d24_14 rfl rfl ?_
  exact W.retR rfl rfl rfl d24_15 (⟨b1, _, rfl, sz_b1, KP, Vb1⟩) (by decide) (by decide)

theorem efugc1 (m : MethodId) (x0 : Addr) (x1 : Int32) (x2 : Int32) (x3 : Addr) (x4 : Int32) : entryFrame m #[(.ref x0), (.int x1), (.int x2), (.ref x3), (.int x4)] 6 = mkF m 0 #[.val (.ref x0), .val (.int x1), .val (.int x2), .val (.ref x3), .val (.int x4), .unset] [] := by first | (simp [entryFrame, mkF, argsToLocals, Value.category]; done) | rfl
set_option maxRecDepth 65536 in
set_option maxHeartbeats 40000000 in
theorem c_ugc1 {l : Launch} {Z : State} {a0 : Array Value} {G1 : Int32} (X : Ctx Z a0 G1) (t d : Addr) (kt kd : ClassId) (c0 : Int32) (sv : Value) (h0 : Heap) (hE : Ext Z.heap h0) (Y : U16 Z sv) (gd : Z.heap.size ≤ d) (Vt : Arv Z h0 t kt .byte (N (2 * 1)) (encU [c0]) (.int (0 : Int32))) (Vd : Arv Z h0 d kd .char (1 : Int32) [(.int (0 : Int32))] (.int (0 : Int32))) (ne : t ≠ d) (t0 : Ch c0) :
    Con l Z consts_1 (⟨"java/lang/StringUTF16", "getChars", "([BII[CI)V"⟩ : MethodName) jdk_52_method_26_code 6 none [] ({ frames := 3, cells := 0, slots := 0, locals := 43 } : Room) #[(.ref t), (.int (0 : Int32)), (.int (1 : Int32)), (.ref d), (.int (0 : Int32))] h0 (fun v h => v = none ∧ Keep h0 h [d] ∧ Arv Z h d kd .char (1 : Int32) [(.int c0)] (.int (0 : Int32))) := by
  refine Con.intro (plainFor_of_name pn_2) hE X.el ?_
  intro p e s m below meth c T W
  have hsz := W.size
  refine Go.cast (efugc1 m t (0 : Int32) (1 : Int32) d (0 : Int32)) ?_
  have KP := Keep.refl h0 [d]
  refine W.iN d25_0 rfl ?_
  refine W.iN d25_1 rfl ?_
  refine W.cn d25_2 (tlt (by decide : (0 : Int32) < (1 : Int32))).2.1 ?_
  refine W.iN d25_5 rfl ?_
  refine W.iN d25_6 rfl ?_
  refine W.iN d25_7 rfl ?_
  refine Go.step (fun _ kz => XS.isub W.here W.hx rfl (W.d d25_8) rfl kz) ?_
  show Go (g := mkF m 9 #[rv t, iv 0, iv 1, rv d, iv 0, .unset] [(.int 1), (.int 0)]) ..
  refine W.an d25_9 rfl rfl ?_
  refine W.callS (X.w 199 rfl) (X.w 200 rfl) (X.w 18 rfl) (X.w 201 rfl) (by decide) (c_boc X 1 1 t _ _ sv _ W.ext Y Vt (by decide) (by decide)) (by decide) (Wd := 0) (by decide) [(.int (0 : Int32)), (.int (1 : Int32)), (.ref t)] [] rfl pd_17 rfl rfl rfl (Nat.le_of_eq rfl) d25_10 (by decide) (by decide) ?_
  intro v T h vm W hQ C
  obtain ⟨rfl, rfl⟩ := hQ
  show Go (g := mkF m 13 #[rv t, iv 0, iv 1, rv d, iv 0, .unset] []) ..
  refine W.iN d25_13 rfl ?_
  refine W.iss (Ls' := #[rv t, iv 0, iv 1, rv d, iv 0, iv 0]) d25_14 rfl ?_
  refine W.il d25_16 rfl ?_
  refine W.iN d25_18 rfl ?_
  refine W.cn d25_19 (tlt (by decide : (0 : Int32) < (1 : Int32))).2.1 ?_
  refine W.an d25_22 rfl rfl ?_
  refine W.il d25_23 rfl ?_
  refine W.ii (Ls' := #[rv t, iv 0, iv 1, rv d, iv 1, iv 0]) d25_25 rfl rfl ?_
  refine W.an d25_28 rfl rfl ?_
  refine W.il d25_29 rfl ?_
  refine W.callS (X.w 190 rfl) (X.w 191 rfl) (X.w 18 rfl) (X.w 192 rfl) (by decide) (c_gec X t _ 0 1 c0 _ sv _ W.ext Y Vt (by omega) (by omega) t0 (encU_at [c0] 0 (by simp) _).1 (encU_at [c0] 0 (by simp) _).2) (by decide) (Wd := 2) (by decide) [(.ref t), (.int (0 : Int32))] [(.int (0 : Int32)), (.ref d)] rfl pd_5 rfl rfl rfl (Nat.le_of_eq rfl) d25_31 (by decide) (by decide) ?_
  intro v T h vm W hQ C
  obtain ⟨rfl, rfl⟩ := hQ
  show Go (g := mkF m 34 #[rv t, iv 0, iv 1, rv d, iv 1, iv 0] [(.int c0), (.int 0), (.ref d)]) ..
  refine W.castore Vd 0 rfl (by simp) (by decide) gd d25_34 ?_
  intro T h W K1 Vd'
  replace KP := KP.otrM K1 (by simp)
  replace Vt := Vt.keep K1 (nin1 ne)
  replace hsz := W.size
  replace Vd : Arv Z h d kd .char (1 : Int32) [(.int (nar .char c0))] (.int (0 : Int32)) := Vd'
  refine W.ii (Ls' := #[rv t, iv 0, iv 1, rv d, iv 1, iv 1]) d25_35 rfl rfl ?_
  refine W.gt (pc' := 16) d25_38 (by decide) (by decide) ?_
  refine W.il d25_16 rfl ?_
  refine W.iN d25_18 rfl ?_
  refine W.cy (pc' := 41) d25_19 (flt (by decide : ¬ ((1 : Int32) < (1 : Int32)))).2.1 (by decide) (by decide) ?_
  rw [nar_ch t0] at Vd
  exact W.retV d25_41 (⟨rfl, KP, Vd⟩) (by decide) (by decide)

theorem efutc1 (m : MethodId) (x0 : Addr) : entryFrame m #[(.ref x0)] 2 = mkF m 0 #[.val (.ref x0), .unset] [] := by first | (simp [entryFrame, mkF, argsToLocals, Value.category]; done) | rfl
set_option maxRecDepth 65536 in
set_option maxHeartbeats 40000000 in
theorem c_utc1 {l : Launch} {Z : State} {a0 : Array Value} {G1 : Int32} (X : Ctx Z a0 G1) (t : Addr) (kt : ClassId) (c0 : Int32) (sv : Value) (h0 : Heap) (hE : Ext Z.heap h0) (Y : U16 Z sv) (Vt : Arv Z h0 t kt .byte (N (2 * 1)) (encU [c0]) (.int (0 : Int32))) (t0 : Ch c0) :
    Con l Z consts_1 (⟨"java/lang/StringUTF16", "toChars", "([B)[C"⟩ : MethodName) jdk_52_method_13_code 2 (some (.array .char)) [] ({ frames := 4, cells := 1, slots := 1, locals := 60 } : Room) #[(.ref t)] h0 (fun v h => ∃ (d : Addr) (kd : ClassId), v = some (.ref d) ∧ h0.size ≤ d ∧ Keep h0 h [] ∧ Arv Z h d kd .char (1 : Int32) [(.int c0)] (.int (0 : Int32))) := by
  refine Con.intro (plainFor_of_name pn_2) hE X.el ?_
  intro p e s m below meth c T W
  have hsz := W.size
  refine Go.cast (efutc1 m t) ?_
  have KP := Keep.refl h0 []
  refine W.an d26_0 rfl rfl ?_
  refine W.arraylength Vt d26_1 ?_
  refine W.ic d26_2 1 rfl ?_
  refine Go.step (fun _ kz => XS.ishr W.here W.hx rfl (W.d d26_3) rfl kz) ?_
  show Go (g := mkF m 4 #[rv t, .unset] [(.int ((N (2 * 1)) >>> ((1 : Int32) &&& 31)))]) ..
  show Go (g := mkF m 4 #[rv t, .unset] [(.int 1)]) ..
  refine W.newarr (X.w 1 rfl) d26_4 (by decide) (cap := 1) (by decide) (by decide) (by decide) (by decide) ?_
  intro T h b1 kb1 hb1 W Eb1 Vb1 Sfb1
  have sz_b1 : h0.size ≤ b1 := by rw [hb1]; exact KP.1
  have ne_t_b1 : t ≠ b1 := by rw [hb1]; exact Nat.ne_of_lt Vt.lt
  have gb1 : Z.heap.size ≤ b1 := by rw [hb1]; exact hsz
  replace KP := KP.ext Eb1
  replace Vt := Vt.ext Eb1
  replace hsz := W.size
  replace Vb1 : Arv Z h b1 kb1 .char (1 : Int32) [(.int (0 : Int32))] (.int (0 : Int32)) := Vb1.pad (pad_rep [] (.int (0 : Int32)) 1)
  refine W.asn (Ls' := #[rv t, rv b1]) d26_6 rfl rfl ?_
  refine W.an d26_7 rfl rfl ?_
  refine W.ic d26_8 0 rfl ?_
  refine W.an d26_9 rfl rfl ?_
  refine W.arraylength Vb1 d26_10 ?_
  refine W.an d26_11 rfl rfl ?_
  refine W.ic d26_12 0 rfl ?_
  refine W.callS (X.w 196 rfl) (X.w 197 rfl) (X.w 18 rfl) (X.w 198 rfl) (by decide) (c_ugc1 X t b1 _ _ c0 sv _ W.ext Y gb1 Vt Vb1 ne_t_b1 t0) (by decide) (Wd := 0) (by decide) [(.ref t), (.int (0 : Int32)), (.int (1 : Int32)), (.ref b1), (.int (0 : Int32))] [] rfl pd_18 rfl rfl rfl (Nat.le_of_eq rfl) d26_13 (by decide) (by decide) ?_
  intro v T h vm W hQ C
  obtain ⟨rfl, K2, Vb1'⟩ := hQ
  replace KP := KP.otrN K2 sz_b1
  replace Vt := Vt.keep K2 (nin1 ne_t_b1)
  replace hsz := W.size
  replace Vb1 := Vb1'
  show Go (g := mkF m 16 #[rv t, rv b1] []) ..
  refine W.an d26_16 rfl rfl ?_
  exact W.retR rfl rfl rfl d26_17 (⟨b1, _, rfl, sz_b1, KP, Vb1⟩) (by decide) (by decide)

theorem efugc2 (m : MethodId) (x0 : Addr) (x1 : Int32) (x2 : Int32) (x3 : Addr) (x4 : Int32) : entryFrame m #[(.ref x0), (.int x1), (.int x2), (.ref x3), (.int x4)] 6 = mkF m 0 #[.val (.ref x0), .val (.int x1), .val (.int x2), .val (.ref x3), .val (.int x4), .unset] [] := by first | (simp [entryFrame, mkF, argsToLocals, Value.category]; done) | rfl
set_option maxRecDepth 65536 in
set_option maxHeartbeats 40000000 in
theorem c_ugc2 {l : Launch} {Z : State} {a0 : Array Value} {G1 : Int32} (X : Ctx Z a0 G1) (t d : Addr) (kt kd : ClassId) (c0 c1 : Int32) (sv : Value) (h0 : Heap) (hE : Ext Z.heap h0) (Y : U16 Z sv) (gd : Z.heap.size ≤ d) (Vt : Arv Z h0 t kt .byte (N (2 * 2)) (encU [c0, c1]) (.int (0 : Int32))) (Vd : Arv Z h0 d kd .char (2 : Int32) [(.int (0 : Int32)), (.int (0 : Int32))] (.int (0 : Int32))) (ne : t ≠ d) (t0 : Ch c0) (t1 : Ch c1) :
    Con l Z consts_1 (⟨"java/lang/StringUTF16", "getChars", "([BII[CI)V"⟩ : MethodName) jdk_52_method_26_code 6 none [] ({ frames := 3, cells := 0, slots := 0, locals := 43 } : Room) #[(.ref t), (.int (0 : Int32)), (.int (2 : Int32)), (.ref d), (.int (0 : Int32))] h0 (fun v h => v = none ∧ Keep h0 h [d] ∧ Arv Z h d kd .char (2 : Int32) [(.int c0), (.int c1)] (.int (0 : Int32))) := by
  refine Con.intro (plainFor_of_name pn_2) hE X.el ?_
  intro p e s m below meth c T W
  have hsz := W.size
  refine Go.cast (efugc2 m t (0 : Int32) (2 : Int32) d (0 : Int32)) ?_
  have KP := Keep.refl h0 [d]
  refine W.iN d25_0 rfl ?_
  refine W.iN d25_1 rfl ?_
  refine W.cn d25_2 (tlt (by decide : (0 : Int32) < (2 : Int32))).2.1 ?_
  refine W.iN d25_5 rfl ?_
  refine W.iN d25_6 rfl ?_
  refine W.iN d25_7 rfl ?_
  refine Go.step (fun _ kz => XS.isub W.here W.hx rfl (W.d d25_8) rfl kz) ?_
  show Go (g := mkF m 9 #[rv t, iv 0, iv 2, rv d, iv 0, .unset] [(.int 2), (.int 0)]) ..
  refine W.an d25_9 rfl rfl ?_
  refine W.callS (X.w 199 rfl) (X.w 200 rfl) (X.w 18 rfl) (X.w 201 rfl) (by decide) (c_boc X 2 2 t _ _ sv _ W.ext Y Vt (by decide) (by decide)) (by decide) (Wd := 0) (by decide) [(.int (0 : Int32)), (.int (2 : Int32)), (.ref t)] [] rfl pd_17 rfl rfl rfl (Nat.le_of_eq rfl) d25_10 (by decide) (by decide) ?_
  intro v T h vm W hQ C
  obtain ⟨rfl, rfl⟩ := hQ
  show Go (g := mkF m 13 #[rv t, iv 0, iv 2, rv d, iv 0, .unset] []) ..
  refine W.iN d25_13 rfl ?_
  refine W.iss (Ls' := #[rv t, iv 0, iv 2, rv d, iv 0, iv 0]) d25_14 rfl ?_
  refine W.il d25_16 rfl ?_
  refine W.iN d25_18 rfl ?_
  refine W.cn d25_19 (tlt (by decide : (0 : Int32) < (2 : Int32))).2.1 ?_
  refine W.an d25_22 rfl rfl ?_
  refine W.il d25_23 rfl ?_
  refine W.ii (Ls' := #[rv t, iv 0, iv 2, rv d, iv 1, iv 0]) d25_25 rfl rfl ?_
  refine W.an d25_28 rfl rfl ?_
  refine W.il d25_29 rfl ?_
  refine W.callS (X.w 190 rfl) (X.w 191 rfl) (X.w 18 rfl) (X.w 192 rfl) (by decide) (c_gec X t _ 0 2 c0 _ sv _ W.ext Y Vt (by omega) (by omega) t0 (encU_at [c0, c1] 0 (by simp) _).1 (encU_at [c0, c1] 0 (by simp) _).2) (by decide) (Wd := 2) (by decide) [(.ref t), (.int (0 : Int32))] [(.int (0 : Int32)), (.ref d)] rfl pd_5 rfl rfl rfl (Nat.le_of_eq rfl) d25_31 (by decide) (by decide) ?_
  intro v T h vm W hQ C
  obtain ⟨rfl, rfl⟩ := hQ
  show Go (g := mkF m 34 #[rv t, iv 0, iv 2, rv d, iv 1, iv 0] [(.int c0), (.int 0), (.ref d)]) ..
  refine W.castore Vd 0 rfl (by simp) (by decide) gd d25_34 ?_
  intro T h W K1 Vd'
  replace KP := KP.otrM K1 (by simp)
  replace Vt := Vt.keep K1 (nin1 ne)
  replace hsz := W.size
  replace Vd : Arv Z h d kd .char (2 : Int32) [(.int (nar .char c0)), (.int (0 : Int32))] (.int (0 : Int32)) := Vd'
  refine W.ii (Ls' := #[rv t, iv 0, iv 2, rv d, iv 1, iv 1]) d25_35 rfl rfl ?_
  refine W.gt (pc' := 16) d25_38 (by decide) (by decide) ?_
  refine W.il d25_16 rfl ?_
  refine W.iN d25_18 rfl ?_
  refine W.cn d25_19 (tlt (by decide : (1 : Int32) < (2 : Int32))).2.1 ?_
  refine W.an d25_22 rfl rfl ?_
  refine W.il d25_23 rfl ?_
  refine W.ii (Ls' := #[rv t, iv 0, iv 2, rv d, iv 2, iv 1]) d25_25 rfl rfl ?_
  refine W.an d25_28 rfl rfl ?_
  refine W.il d25_29 rfl ?_
  refine W.callS (X.w 190 rfl) (X.w 191 rfl) (X.w 18 rfl) (X.w 192 rfl) (by decide) (c_gec X t _ 1 2 c1 _ sv _ W.ext Y Vt (by omega) (by omega) t1 (encU_at [c0, c1] 1 (by simp) _).1 (encU_at [c0, c1] 1 (by simp) _).2) (by decide) (Wd := 2) (by decide) [(.ref t), (.int (1 : Int32))] [(.int (1 : Int32)), (.ref d)] rfl pd_5 rfl rfl rfl (Nat.le_of_eq rfl) d25_31 (by decide) (by decide) ?_
  intro v T h vm W hQ C
  obtain ⟨rfl, rfl⟩ := hQ
  show Go (g := mkF m 34 #[rv t, iv 0, iv 2, rv d, iv 2, iv 1] [(.int c1), (.int 1), (.ref d)]) ..
  refine W.castore Vd 1 rfl (by simp) (by decide) gd d25_34 ?_
  intro T h W K2 Vd'
  replace KP := KP.otrM K2 (by simp)
  replace Vt := Vt.keep K2 (nin1 ne)
  replace hsz := W.size
  replace Vd : Arv Z h d kd .char (2 : Int32) [(.int (nar .char c0)), (.int (nar .char c1))] (.int (0 : Int32)) := Vd'
  refine W.ii (Ls' := #[rv t, iv 0, iv 2, rv d, iv 2, iv 2]) d25_35 rfl rfl ?_
  refine W.gt (pc' := 16) d25_38 (by decide) (by decide) ?_
  refine W.il d25_16 rfl ?_
  refine W.iN d25_18 rfl ?_
  refine W.cy (pc' := 41) d25_19 (flt (by decide : ¬ ((2 : Int32) < (2 : Int32)))).2.1 (by decide) (by decide) ?_
  rw [nar_ch t0] at Vd
  rw [nar_ch t1] at Vd
  exact W.retV d25_41 (⟨rfl, KP, Vd⟩) (by decide) (by decide)

theorem efutc2 (m : MethodId) (x0 : Addr) : entryFrame m #[(.ref x0)] 2 = mkF m 0 #[.val (.ref x0), .unset] [] := by first | (simp [entryFrame, mkF, argsToLocals, Value.category]; done) | rfl
set_option maxRecDepth 65536 in
set_option maxHeartbeats 40000000 in
theorem c_utc2 {l : Launch} {Z : State} {a0 : Array Value} {G1 : Int32} (X : Ctx Z a0 G1) (t : Addr) (kt : ClassId) (c0 c1 : Int32) (sv : Value) (h0 : Heap) (hE : Ext Z.heap h0) (Y : U16 Z sv) (Vt : Arv Z h0 t kt .byte (N (2 * 2)) (encU [c0, c1]) (.int (0 : Int32))) (t0 : Ch c0) (t1 : Ch c1) :
    Con l Z consts_1 (⟨"java/lang/StringUTF16", "toChars", "([B)[C"⟩ : MethodName) jdk_52_method_13_code 2 (some (.array .char)) [] ({ frames := 4, cells := 1, slots := 2, locals := 60 } : Room) #[(.ref t)] h0 (fun v h => ∃ (d : Addr) (kd : ClassId), v = some (.ref d) ∧ h0.size ≤ d ∧ Keep h0 h [] ∧ Arv Z h d kd .char (2 : Int32) [(.int c0), (.int c1)] (.int (0 : Int32))) := by
  refine Con.intro (plainFor_of_name pn_2) hE X.el ?_
  intro p e s m below meth c T W
  have hsz := W.size
  refine Go.cast (efutc2 m t) ?_
  have KP := Keep.refl h0 []
  refine W.an d26_0 rfl rfl ?_
  refine W.arraylength Vt d26_1 ?_
  refine W.ic d26_2 1 rfl ?_
  refine Go.step (fun _ kz => XS.ishr W.here W.hx rfl (W.d d26_3) rfl kz) ?_
  show Go (g := mkF m 4 #[rv t, .unset] [(.int ((N (2 * 2)) >>> ((1 : Int32) &&& 31)))]) ..
  show Go (g := mkF m 4 #[rv t, .unset] [(.int 2)]) ..
  refine W.newarr (X.w 1 rfl) d26_4 (by decide) (cap := 2) (by decide) (by decide) (by decide) (by decide) ?_
  intro T h b1 kb1 hb1 W Eb1 Vb1 Sfb1
  have sz_b1 : h0.size ≤ b1 := by rw [hb1]; exact KP.1
  have ne_t_b1 : t ≠ b1 := by rw [hb1]; exact Nat.ne_of_lt Vt.lt
  have gb1 : Z.heap.size ≤ b1 := by rw [hb1]; exact hsz
  replace KP := KP.ext Eb1
  replace Vt := Vt.ext Eb1
  replace hsz := W.size
  replace Vb1 : Arv Z h b1 kb1 .char (2 : Int32) [(.int (0 : Int32)), (.int (0 : Int32))] (.int (0 : Int32)) := Vb1.pad (pad_rep [] (.int (0 : Int32)) 2)
  refine W.asn (Ls' := #[rv t, rv b1]) d26_6 rfl rfl ?_
  refine W.an d26_7 rfl rfl ?_
  refine W.ic d26_8 0 rfl ?_
  refine W.an d26_9 rfl rfl ?_
  refine W.arraylength Vb1 d26_10 ?_
  refine W.an d26_11 rfl rfl ?_
  refine W.ic d26_12 0 rfl ?_
  refine W.callS (X.w 196 rfl) (X.w 197 rfl) (X.w 18 rfl) (X.w 198 rfl) (by decide) (c_ugc2 X t b1 _ _ c0 c1 sv _ W.ext Y gb1 Vt Vb1 ne_t_b1 t0 t1) (by decide) (Wd := 0) (by decide) [(.ref t), (.int (0 : Int32)), (.int (2 : Int32)), (.ref b1), (.int (0 : Int32))] [] rfl pd_18 rfl rfl rfl (Nat.le_of_eq rfl) d26_13 (by decide) (by decide) ?_
  intro v T h vm W hQ C
  obtain ⟨rfl, K2, Vb1'⟩ := hQ
  replace KP := KP.otrN K2 sz_b1
  replace Vt := Vt.keep K2 (nin1 ne_t_b1)
  replace hsz := W.size
  replace Vb1 := Vb1'
  show Go (g := mkF m 16 #[rv t, rv b1] []) ..
  refine W.an d26_16 rfl rfl ?_
  exact W.retR rfl rfl rfl d26_17 (⟨b1, _, rfl, sz_b1, KP, Vb1⟩) (by decide) (by decide)

theorem efugc3 (m : MethodId) (x0 : Addr) (x1 : Int32) (x2 : Int32) (x3 : Addr) (x4 : Int32) : entryFrame m #[(.ref x0), (.int x1), (.int x2), (.ref x3), (.int x4)] 6 = mkF m 0 #[.val (.ref x0), .val (.int x1), .val (.int x2), .val (.ref x3), .val (.int x4), .unset] [] := by first | (simp [entryFrame, mkF, argsToLocals, Value.category]; done) | rfl
set_option maxRecDepth 65536 in
set_option maxHeartbeats 40000000 in
theorem c_ugc3 {l : Launch} {Z : State} {a0 : Array Value} {G1 : Int32} (X : Ctx Z a0 G1) (t d : Addr) (kt kd : ClassId) (c0 c1 c2 : Int32) (sv : Value) (h0 : Heap) (hE : Ext Z.heap h0) (Y : U16 Z sv) (gd : Z.heap.size ≤ d) (Vt : Arv Z h0 t kt .byte (N (2 * 3)) (encU [c0, c1, c2]) (.int (0 : Int32))) (Vd : Arv Z h0 d kd .char (3 : Int32) [(.int (0 : Int32)), (.int (0 : Int32)), (.int (0 : Int32))] (.int (0 : Int32))) (ne : t ≠ d) (t0 : Ch c0) (t1 : Ch c1) (t2 : Ch c2) :
    Con l Z consts_1 (⟨"java/lang/StringUTF16", "getChars", "([BII[CI)V"⟩ : MethodName) jdk_52_method_26_code 6 none [] ({ frames := 3, cells := 0, slots := 0, locals := 43 } : Room) #[(.ref t), (.int (0 : Int32)), (.int (3 : Int32)), (.ref d), (.int (0 : Int32))] h0 (fun v h => v = none ∧ Keep h0 h [d] ∧ Arv Z h d kd .char (3 : Int32) [(.int c0), (.int c1), (.int c2)] (.int (0 : Int32))) := by
  refine Con.intro (plainFor_of_name pn_2) hE X.el ?_
  intro p e s m below meth c T W
  have hsz := W.size
  refine Go.cast (efugc3 m t (0 : Int32) (3 : Int32) d (0 : Int32)) ?_
  have KP := Keep.refl h0 [d]
  refine W.iN d25_0 rfl ?_
  refine W.iN d25_1 rfl ?_
  refine W.cn d25_2 (tlt (by decide : (0 : Int32) < (3 : Int32))).2.1 ?_
  refine W.iN d25_5 rfl ?_
  refine W.iN d25_6 rfl ?_
  refine W.iN d25_7 rfl ?_
  refine Go.step (fun _ kz => XS.isub W.here W.hx rfl (W.d d25_8) rfl kz) ?_
  show Go (g := mkF m 9 #[rv t, iv 0, iv 3, rv d, iv 0, .unset] [(.int 3), (.int 0)]) ..
  refine W.an d25_9 rfl rfl ?_
  refine W.callS (X.w 199 rfl) (X.w 200 rfl) (X.w 18 rfl) (X.w 201 rfl) (by decide) (c_boc X 3 3 t _ _ sv _ W.ext Y Vt (by decide) (by decide)) (by decide) (Wd := 0) (by decide) [(.int (0 : Int32)), (.int (3 : Int32)), (.ref t)] [] rfl pd_17 rfl rfl rfl (Nat.le_of_eq rfl) d25_10 (by decide) (by decide) ?_
  intro v T h vm W hQ C
  obtain ⟨rfl, rfl⟩ := hQ
  show Go (g := mkF m 13 #[rv t, iv 0, iv 3, rv d, iv 0, .unset] []) ..
  refine W.iN d25_13 rfl ?_
  refine W.iss (Ls' := #[rv t, iv 0, iv 3, rv d, iv 0, iv 0]) d25_14 rfl ?_
  refine W.il d25_16 rfl ?_
  refine W.iN d25_18 rfl ?_
  refine W.cn d25_19 (tlt (by decide : (0 : Int32) < (3 : Int32))).2.1 ?_
  refine W.an d25_22 rfl rfl ?_
  refine W.il d25_23 rfl ?_
  refine W.ii (Ls' := #[rv t, iv 0, iv 3, rv d, iv 1, iv 0]) d25_25 rfl rfl ?_
  refine W.an d25_28 rfl rfl ?_
  refine W.il d25_29 rfl ?_
  refine W.callS (X.w 190 rfl) (X.w 191 rfl) (X.w 18 rfl) (X.w 192 rfl) (by decide) (c_gec X t _ 0 3 c0 _ sv _ W.ext Y Vt (by omega) (by omega) t0 (encU_at [c0, c1, c2] 0 (by simp) _).1 (encU_at [c0, c1, c2] 0 (by simp) _).2) (by decide) (Wd := 2) (by decide) [(.ref t), (.int (0 : Int32))] [(.int (0 : Int32)), (.ref d)] rfl pd_5 rfl rfl rfl (Nat.le_of_eq rfl) d25_31 (by decide) (by decide) ?_
  intro v T h vm W hQ C
  obtain ⟨rfl, rfl⟩ := hQ
  show Go (g := mkF m 34 #[rv t, iv 0, iv 3, rv d, iv 1, iv 0] [(.int c0), (.int 0), (.ref d)]) ..
  refine W.castore Vd 0 rfl (by simp) (by decide) gd d25_34 ?_
  intro T h W K1 Vd'
  replace KP := KP.otrM K1 (by simp)
  replace Vt := Vt.keep K1 (nin1 ne)
  replace hsz := W.size
  replace Vd : Arv Z h d kd .char (3 : Int32) [(.int (nar .char c0)), (.int (0 : Int32)), (.int (0 : Int32))] (.int (0 : Int32)) := Vd'
  refine W.ii (Ls' := #[rv t, iv 0, iv 3, rv d, iv 1, iv 1]) d25_35 rfl rfl ?_
  refine W.gt (pc' := 16) d25_38 (by decide) (by decide) ?_
  refine W.il d25_16 rfl ?_
  refine W.iN d25_18 rfl ?_
  refine W.cn d25_19 (tlt (by decide : (1 : Int32) < (3 : Int32))).2.1 ?_
  refine W.an d25_22 rfl rfl ?_
  refine W.il d25_23 rfl ?_
  refine W.ii (Ls' := #[rv t, iv 0, iv 3, rv d, iv 2, iv 1]) d25_25 rfl rfl ?_
  refine W.an d25_28 rfl rfl ?_
  refine W.il d25_29 rfl ?_
  refine W.callS (X.w 190 rfl) (X.w 191 rfl) (X.w 18 rfl) (X.w 192 rfl) (by decide) (c_gec X t _ 1 3 c1 _ sv _ W.ext Y Vt (by omega) (by omega) t1 (encU_at [c0, c1, c2] 1 (by simp) _).1 (encU_at [c0, c1, c2] 1 (by simp) _).2) (by decide) (Wd := 2) (by decide) [(.ref t), (.int (1 : Int32))] [(.int (1 : Int32)), (.ref d)] rfl pd_5 rfl rfl rfl (Nat.le_of_eq rfl) d25_31 (by decide) (by decide) ?_
  intro v T h vm W hQ C
  obtain ⟨rfl, rfl⟩ := hQ
  show Go (g := mkF m 34 #[rv t, iv 0, iv 3, rv d, iv 2, iv 1] [(.int c1), (.int 1), (.ref d)]) ..
  refine W.castore Vd 1 rfl (by simp) (by decide) gd d25_34 ?_
  intro T h W K2 Vd'
  replace KP := KP.otrM K2 (by simp)
  replace Vt := Vt.keep K2 (nin1 ne)
  replace hsz := W.size
  replace Vd : Arv Z h d kd .char (3 : Int32) [(.int (nar .char c0)), (.int (nar .char c1)), (.int (0 : Int32))] (.int (0 : Int32)) := Vd'
  refine W.ii (Ls' := #[rv t, iv 0, iv 3, rv d, iv 2, iv 2]) d25_35 rfl rfl ?_
  refine W.gt (pc' := 16) d25_38 (by decide) (by decide) ?_
  refine W.il d25_16 rfl ?_
  refine W.iN d25_18 rfl ?_
  refine W.cn d25_19 (tlt (by decide : (2 : Int32) < (3 : Int32))).2.1 ?_
  refine W.an d25_22 rfl rfl ?_
  refine W.il d25_23 rfl ?_
  refine W.ii (Ls' := #[rv t, iv 0, iv 3, rv d, iv 3, iv 2]) d25_25 rfl rfl ?_
  refine W.an d25_28 rfl rfl ?_
  refine W.il d25_29 rfl ?_
  refine W.callS (X.w 190 rfl) (X.w 191 rfl) (X.w 18 rfl) (X.w 192 rfl) (by decide) (c_gec X t _ 2 3 c2 _ sv _ W.ext Y Vt (by omega) (by omega) t2 (encU_at [c0, c1, c2] 2 (by simp) _).1 (encU_at [c0, c1, c2] 2 (by simp) _).2) (by decide) (Wd := 2) (by decide) [(.ref t), (.int (2 : Int32))] [(.int (2 : Int32)), (.ref d)] rfl pd_5 rfl rfl rfl (Nat.le_of_eq rfl) d25_31 (by decide) (by decide) ?_
  intro v T h vm W hQ C
  obtain ⟨rfl, rfl⟩ := hQ
  show Go (g := mkF m 34 #[rv t, iv 0, iv 3, rv d, iv 3, iv 2] [(.int c2), (.int 2), (.ref d)]) ..
  refine W.castore Vd 2 rfl (by simp) (by decide) gd d25_34 ?_
  intro T h W K3 Vd'
  replace KP := KP.otrM K3 (by simp)
  replace Vt := Vt.keep K3 (nin1 ne)
  replace hsz := W.size
  replace Vd : Arv Z h d kd .char (3 : Int32) [(.int (nar .char c0)), (.int (nar .char c1)), (.int (nar .char c2))] (.int (0 : Int32)) := Vd'
  refine W.ii (Ls' := #[rv t, iv 0, iv 3, rv d, iv 3, iv 3]) d25_35 rfl rfl ?_
  refine W.gt (pc' := 16) d25_38 (by decide) (by decide) ?_
  refine W.il d25_16 rfl ?_
  refine W.iN d25_18 rfl ?_
  refine W.cy (pc' := 41) d25_19 (flt (by decide : ¬ ((3 : Int32) < (3 : Int32)))).2.1 (by decide) (by decide) ?_
  rw [nar_ch t0] at Vd
  rw [nar_ch t1] at Vd
  rw [nar_ch t2] at Vd
  exact W.retV d25_41 (⟨rfl, KP, Vd⟩) (by decide) (by decide)

theorem efutc3 (m : MethodId) (x0 : Addr) : entryFrame m #[(.ref x0)] 2 = mkF m 0 #[.val (.ref x0), .unset] [] := by first | (simp [entryFrame, mkF, argsToLocals, Value.category]; done) | rfl
set_option maxRecDepth 65536 in
set_option maxHeartbeats 40000000 in
theorem c_utc3 {l : Launch} {Z : State} {a0 : Array Value} {G1 : Int32} (X : Ctx Z a0 G1) (t : Addr) (kt : ClassId) (c0 c1 c2 : Int32) (sv : Value) (h0 : Heap) (hE : Ext Z.heap h0) (Y : U16 Z sv) (Vt : Arv Z h0 t kt .byte (N (2 * 3)) (encU [c0, c1, c2]) (.int (0 : Int32))) (t0 : Ch c0) (t1 : Ch c1) (t2 : Ch c2) :
    Con l Z consts_1 (⟨"java/lang/StringUTF16", "toChars", "([B)[C"⟩ : MethodName) jdk_52_method_13_code 2 (some (.array .char)) [] ({ frames := 4, cells := 1, slots := 3, locals := 60 } : Room) #[(.ref t)] h0 (fun v h => ∃ (d : Addr) (kd : ClassId), v = some (.ref d) ∧ h0.size ≤ d ∧ Keep h0 h [] ∧ Arv Z h d kd .char (3 : Int32) [(.int c0), (.int c1), (.int c2)] (.int (0 : Int32))) := by
  refine Con.intro (plainFor_of_name pn_2) hE X.el ?_
  intro p e s m below meth c T W
  have hsz := W.size
  refine Go.cast (efutc3 m t) ?_
  have KP := Keep.refl h0 []
  refine W.an d26_0 rfl rfl ?_
  refine W.arraylength Vt d26_1 ?_
  refine W.ic d26_2 1 rfl ?_
  refine Go.step (fun _ kz => XS.ishr W.here W.hx rfl (W.d d26_3) rfl kz) ?_
  show Go (g := mkF m 4 #[rv t, .unset] [(.int ((N (2 * 3)) >>> ((1 : Int32) &&& 31)))]) ..
  show Go (g := mkF m 4 #[rv t, .unset] [(.int 3)]) ..
  refine W.newarr (X.w 1 rfl) d26_4 (by decide) (cap := 3) (by decide) (by decide) (by decide) (by decide) ?_
  intro T h b1 kb1 hb1 W Eb1 Vb1 Sfb1
  have sz_b1 : h0.size ≤ b1 := by rw [hb1]; exact KP.1
  have ne_t_b1 : t ≠ b1 := by rw [hb1]; exact Nat.ne_of_lt Vt.lt
  have gb1 : Z.heap.size ≤ b1 := by rw [hb1]; exact hsz
  replace KP := KP.ext Eb1
  replace Vt := Vt.ext Eb1
  replace hsz := W.size
  replace Vb1 : Arv Z h b1 kb1 .char (3 : Int32) [(.int (0 : Int32)), (.int (0 : Int32)), (.int (0 : Int32))] (.int (0 : Int32)) := Vb1.pad (pad_rep [] (.int (0 : Int32)) 3)
  refine W.asn (Ls' := #[rv t, rv b1]) d26_6 rfl rfl ?_
  refine W.an d26_7 rfl rfl ?_
  refine W.ic d26_8 0 rfl ?_
  refine W.an d26_9 rfl rfl ?_
  refine W.arraylength Vb1 d26_10 ?_
  refine W.an d26_11 rfl rfl ?_
  refine W.ic d26_12 0 rfl ?_
  refine W.callS (X.w 196 rfl) (X.w 197 rfl) (X.w 18 rfl) (X.w 198 rfl) (by decide) (c_ugc3 X t b1 _ _ c0 c1 c2 sv _ W.ext Y gb1 Vt Vb1 ne_t_b1 t0 t1 t2) (by decide) (Wd := 0) (by decide) [(.ref t), (.int (0 : Int32)), (.int (3 : Int32)), (.ref b1), (.int (0 : Int32))] [] rfl pd_18 rfl rfl rfl (Nat.le_of_eq rfl) d26_13 (by decide) (by decide) ?_
  intro v T h vm W hQ C
  obtain ⟨rfl, K2, Vb1'⟩ := hQ
  replace KP := KP.otrN K2 sz_b1
  replace Vt := Vt.keep K2 (nin1 ne_t_b1)
  replace hsz := W.size
  replace Vb1 := Vb1'
  show Go (g := mkF m 16 #[rv t, rv b1] []) ..
  refine W.an d26_16 rfl rfl ?_
  exact W.retR rfl rfl rfl d26_17 (⟨b1, _, rfl, sz_b1, KP, Vb1⟩) (by decide) (by decide)

theorem eftcal0 (m : MethodId) (x0 : Addr) : entryFrame m #[(.ref x0)] 1 = mkF m 0 #[.val (.ref x0)] [] := by first | (simp [entryFrame, mkF, argsToLocals, Value.category]; done) | rfl
set_option maxRecDepth 65536 in
set_option maxHeartbeats 40000000 in
theorem c_tcal0 {l : Launch} {Z : State} {a0 : Array Value} {G1 : Int32} (X : Ctx Z a0 G1) (a t : Addr) (kt : ClassId) (sv : Value) (h0 : Heap) (hE : Ext Z.heap h0) (Y : U16 Z sv) (Aa : Exa Z h0 a "java/lang/String") (FV : Fld Z h0 a "java/lang/String" "value" "[B" (.ref t)) (FC : Fld Z h0 a "java/lang/String" "coder" "B" (.int (0 : Int32))) (V : Arv Z h0 t kt .byte (0 : Int32) [] (.int (0 : Int32)))  :
    Con l Z consts_1 (⟨"java/lang/String", "toCharArray", "()[C"⟩ : MethodName) jdk_42_method_129_code 1 (some (.array .char)) [] ({ frames := 2, cells := 1, slots := 0, locals := 30 } : Room) #[(.ref a)] h0 (fun v h => ∃ (d : Addr) (kd : ClassId), v = some (.ref d) ∧ h0.size ≤ d ∧ Keep h0 h [] ∧ Arv Z h d kd .char (0 : Int32) [] (.int (0 : Int32))) := by
  refine Con.intro (plainFor_of_name pn_0) hE X.el ?_
  intro p e s m below meth c T W
  have hsz := W.size
  refine Go.cast (eftcal0 m a) ?_
  have KP := Keep.refl h0 []
  refine W.an d27_0 rfl rfl ?_
  refine W.virtual (X.w 68 rfl) (X.w 69 rfl) (notFace_of_selects (args := #[]) (mvT W.hZ (X.w 71 rfl))) (X.w 71 rfl) (X.w 70 rfl) (X.w 4 rfl) (X.w 72 rfl) (by decide) (c_isll X a _ W.ext FC) (by decide) (Wd := 0) (by decide) a Aa [] [] rfl pd_7 rfl rfl rfl (Nat.le_of_eq rfl) d27_1 (by decide) (by decide) ?_
  intro v T h vm W hQ C
  obtain ⟨rfl, rfl⟩ := hQ
  show Go (g := mkF m 4 #[rv a] [(.int 1)]) ..
  refine W.fn d27_4 ((if0 _ _).trans (feq (by decide : ¬ ((1 : Int32) = (0 : Int32)))).1) ?_
  refine W.an d27_7 rfl rfl ?_
  refine W.getF (host := "") (Or.inl (X.w 29 rfl)) Via.refl FV d27_8 ?_
  intro T W
  refine W.callS (X.w 73 rfl) (X.w 74 rfl) (X.w 75 rfl) (X.w 76 rfl) (by decide) (c_ltc0 X t _  _ W.ext V ) (by decide) (Wd := 0) (by decide) [(.ref t)] [] rfl pd_19 rfl rfl rfl (Nat.le_of_eq rfl) d27_11 (by decide) (by decide) ?_
  intro v T h vm W hQ C
  obtain ⟨b1, kb1, rfl, hn_b1, Kb1, Vb1⟩ := hQ
  have sz_b1 : h0.size ≤ b1 := Nat.le_trans KP.1 hn_b1
  replace KP := KP.otr0 Kb1
  replace FV := FV.keep Kb1 nin0
  replace FC := FC.keep Kb1 nin0
  replace V := V.keep Kb1 nin0
  replace Aa := Aa.keep Kb1
  replace hsz := W.size
  show Go (g := mkF m 14 #[rv a] [(.ref b1)]) ..
  refine W.gt (pc' := 24) d27_14 (by decide) (by decide) ?_
  exact W.retR rfl rfl rfl d27_24 (⟨b1, _, rfl, sz_b1, KP, Vb1⟩) (by decide) (by decide)

theorem c_tcx0 {l : Launch} {Z : State} {a0 : Array Value} {G1 : Int32} (X : Ctx Z a0 G1) (a : Addr) (sv : Value) (h0 : Heap) (hE : Ext Z.heap h0) (Y : U16 Z sv) (S : Str Z h0 a []) : Con l Z consts_1 (⟨"java/lang/String", "toCharArray", "()[C"⟩ : MethodName) jdk_42_method_129_code 1 (some (.array .char)) [] ({ frames := 2, cells := 1, slots := 0, locals := 30 } : Room) #[(.ref a)] h0 (fun v h => ∃ (d : Addr) (kd : ClassId), v = some (.ref d) ∧ h0.size ≤ d ∧ Keep h0 h [] ∧ Arv Z h d kd .char (0 : Int32) [] (.int (0 : Int32))) := by
  obtain ⟨t, kb, q1, q2, q3, q4, q5, q6⟩ := S
  exact c_tcal0 X a t kb sv h0 hE Y q1 q2 q3 q4

theorem eftcal1 (m : MethodId) (x0 : Addr) : entryFrame m #[(.ref x0)] 1 = mkF m 0 #[.val (.ref x0)] [] := by first | (simp [entryFrame, mkF, argsToLocals, Value.category]; done) | rfl
set_option maxRecDepth 65536 in
set_option maxHeartbeats 40000000 in
theorem c_tcal1 {l : Launch} {Z : State} {a0 : Array Value} {G1 : Int32} (X : Ctx Z a0 G1) (a t : Addr) (kt : ClassId) (c0 : Int32) (sv : Value) (h0 : Heap) (hE : Ext Z.heap h0) (Y : U16 Z sv) (Aa : Exa Z h0 a "java/lang/String") (FV : Fld Z h0 a "java/lang/String" "value" "[B" (.ref t)) (FC : Fld Z h0 a "java/lang/String" "coder" "B" (.int (0 : Int32))) (V : Arv Z h0 t kt .byte (1 : Int32) [(.int c0.toInt8.toInt32)] (.int (0 : Int32))) (t0 : Sm c0) :
    Con l Z consts_1 (⟨"java/lang/String", "toCharArray", "()[C"⟩ : MethodName) jdk_42_method_129_code 1 (some (.array .char)) [] ({ frames := 5, cells := 1, slots := 1, locals := 73 } : Room) #[(.ref a)] h0 (fun v h => ∃ (d : Addr) (kd : ClassId), v = some (.ref d) ∧ h0.size ≤ d ∧ Keep h0 h [] ∧ Arv Z h d kd .char (1 : Int32) [(.int c0)] (.int (0 : Int32))) := by
  refine Con.intro (plainFor_of_name pn_0) hE X.el ?_
  intro p e s m below meth c T W
  have hsz := W.size
  refine Go.cast (eftcal1 m a) ?_
  have KP := Keep.refl h0 []
  refine W.an d27_0 rfl rfl ?_
  refine W.virtual (X.w 68 rfl) (X.w 69 rfl) (notFace_of_selects (args := #[]) (mvT W.hZ (X.w 71 rfl))) (X.w 71 rfl) (X.w 70 rfl) (X.w 4 rfl) (X.w 72 rfl) (by decide) (c_isll X a _ W.ext FC) (by decide) (Wd := 0) (by decide) a Aa [] [] rfl pd_7 rfl rfl rfl (Nat.le_of_eq rfl) d27_1 (by decide) (by decide) ?_
  intro v T h vm W hQ C
  obtain ⟨rfl, rfl⟩ := hQ
  show Go (g := mkF m 4 #[rv a] [(.int 1)]) ..
  refine W.fn d27_4 ((if0 _ _).trans (feq (by decide : ¬ ((1 : Int32) = (0 : Int32)))).1) ?_
  refine W.an d27_7 rfl rfl ?_
  refine W.getF (host := "") (Or.inl (X.w 29 rfl)) Via.refl FV d27_8 ?_
  intro T W
  refine W.callS (X.w 73 rfl) (X.w 74 rfl) (X.w 75 rfl) (X.w 76 rfl) (by decide) (c_ltc1 X t _ c0 _ W.ext V t0) (by decide) (Wd := 0) (by decide) [(.ref t)] [] rfl pd_19 rfl rfl rfl (Nat.le_of_eq rfl) d27_11 (by decide) (by decide) ?_
  intro v T h vm W hQ C
  obtain ⟨b1, kb1, rfl, hn_b1, Kb1, Vb1⟩ := hQ
  have sz_b1 : h0.size ≤ b1 := Nat.le_trans KP.1 hn_b1
  replace KP := KP.otr0 Kb1
  replace FV := FV.keep Kb1 nin0
  replace FC := FC.keep Kb1 nin0
  replace V := V.keep Kb1 nin0
  replace Aa := Aa.keep Kb1
  replace hsz := W.size
  show Go (g := mkF m 14 #[rv a] [(.ref b1)]) ..
  refine W.gt (pc' := 24) d27_14 (by decide) (by decide) ?_
  exact W.retR rfl rfl rfl d27_24 (⟨b1, _, rfl, sz_b1, KP, Vb1⟩) (by decide) (by decide)

theorem eftcau1 (m : MethodId) (x0 : Addr) : entryFrame m #[(.ref x0)] 1 = mkF m 0 #[.val (.ref x0)] [] := by first | (simp [entryFrame, mkF, argsToLocals, Value.category]; done) | rfl
set_option maxRecDepth 65536 in
set_option maxHeartbeats 40000000 in
theorem c_tcau1 {l : Launch} {Z : State} {a0 : Array Value} {G1 : Int32} (X : Ctx Z a0 G1) (a t : Addr) (kt : ClassId) (c0 : Int32) (sv : Value) (h0 : Heap) (hE : Ext Z.heap h0) (Y : U16 Z sv) (Aa : Exa Z h0 a "java/lang/String") (FV : Fld Z h0 a "java/lang/String" "value" "[B" (.ref t)) (FC : Fld Z h0 a "java/lang/String" "coder" "B" (.int (1 : Int32))) (V : Arv Z h0 t kt .byte (N (2 * 1)) (encU [c0]) (.int (0 : Int32))) (t0 : Ch c0) :
    Con l Z consts_1 (⟨"java/lang/String", "toCharArray", "()[C"⟩ : MethodName) jdk_42_method_129_code 1 (some (.array .char)) [] ({ frames := 5, cells := 1, slots := 1, locals := 73 } : Room) #[(.ref a)] h0 (fun v h => ∃ (d : Addr) (kd : ClassId), v = some (.ref d) ∧ h0.size ≤ d ∧ Keep h0 h [] ∧ Arv Z h d kd .char (1 : Int32) [(.int c0)] (.int (0 : Int32))) := by
  refine Con.intro (plainFor_of_name pn_0) hE X.el ?_
  intro p e s m below meth c T W
  have hsz := W.size
  refine Go.cast (eftcau1 m a) ?_
  have KP := Keep.refl h0 []
  refine W.an d27_0 rfl rfl ?_
  refine W.virtual (X.w 68 rfl) (X.w 69 rfl) (notFace_of_selects (args := #[]) (mvT W.hZ (X.w 71 rfl))) (X.w 71 rfl) (X.w 70 rfl) (X.w 4 rfl) (X.w 72 rfl) (by decide) (c_islu X a _ W.ext FC) (by decide) (Wd := 0) (by decide) a Aa [] [] rfl pd_7 rfl rfl rfl (Nat.le_of_eq rfl) d27_1 (by decide) (by decide) ?_
  intro v T h vm W hQ C
  obtain ⟨rfl, rfl⟩ := hQ
  show Go (g := mkF m 4 #[rv a] [(.int 0)]) ..
  refine W.fy (pc' := 17) d27_4 ((if0 _ _).trans (teq (by decide : (0 : Int32) = (0 : Int32))).1) (by decide) (by decide) ?_
  refine W.an d27_17 rfl rfl ?_
  refine W.getF (host := "") (Or.inl (X.w 29 rfl)) Via.refl FV d27_18 ?_
  intro T W
  refine W.callS (X.w 193 rfl) (X.w 194 rfl) (X.w 18 rfl) (X.w 195 rfl) (by decide) (c_utc1 X t _ c0 sv _ W.ext Y V t0) (by decide) (Wd := 0) (by decide) [(.ref t)] [] rfl pd_19 rfl rfl rfl (Nat.le_of_eq rfl) d27_21 (by decide) (by decide) ?_
  intro v T h vm W hQ C
  obtain ⟨b1, kb1, rfl, hn_b1, Kb1, Vb1⟩ := hQ
  have sz_b1 : h0.size ≤ b1 := Nat.le_trans KP.1 hn_b1
  replace KP := KP.otr0 Kb1
  replace FV := FV.keep Kb1 nin0
  replace FC := FC.keep Kb1 nin0
  replace V := V.keep Kb1 nin0
  replace Aa := Aa.keep Kb1
  replace hsz := W.size
  show Go (g := mkF m 24 #[rv a] [(.ref b1)]) ..
  exact W.retR rfl rfl rfl d27_24 (⟨b1, _, rfl, sz_b1, KP, Vb1⟩) (by decide) (by decide)

theorem c_tcx1 {l : Launch} {Z : State} {a0 : Array Value} {G1 : Int32} (X : Ctx Z a0 G1) (a : Addr) (c0 : Int32) (sv : Value) (h0 : Heap) (hE : Ext Z.heap h0) (Y : U16 Z sv) (S : StrX Z h0 a [c0]) : Con l Z consts_1 (⟨"java/lang/String", "toCharArray", "()[C"⟩ : MethodName) jdk_42_method_129_code 1 (some (.array .char)) [] ({ frames := 5, cells := 1, slots := 1, locals := 73 } : Room) #[(.ref a)] h0 (fun v h => ∃ (d : Addr) (kd : ClassId), v = some (.ref d) ∧ h0.size ≤ d ∧ Keep h0 h [] ∧ Arv Z h d kd .char (1 : Int32) [(.int c0)] (.int (0 : Int32))) := by
  rcases S with ⟨t, kb, q1, q2, q3, q4, q5, q6⟩ | ⟨t, kb, q1, q2, q3, q4, q5, q6⟩
  · exact c_tcal1 X a t kb c0 sv h0 hE Y q1 q2 q3 q4 (q5 c0 (by simp))
  · exact c_tcau1 X a t kb c0 sv h0 hE Y q1 q2 q3 q4 (q5 c0 (by simp))

theorem eftcal2 (m : MethodId) (x0 : Addr) : entryFrame m #[(.ref x0)] 1 = mkF m 0 #[.val (.ref x0)] [] := by first | (simp [entryFrame, mkF, argsToLocals, Value.category]; done) | rfl
set_option maxRecDepth 65536 in
set_option maxHeartbeats 40000000 in
theorem c_tcal2 {l : Launch} {Z : State} {a0 : Array Value} {G1 : Int32} (X : Ctx Z a0 G1) (a t : Addr) (kt : ClassId) (c0 c1 : Int32) (sv : Value) (h0 : Heap) (hE : Ext Z.heap h0) (Y : U16 Z sv) (Aa : Exa Z h0 a "java/lang/String") (FV : Fld Z h0 a "java/lang/String" "value" "[B" (.ref t)) (FC : Fld Z h0 a "java/lang/String" "coder" "B" (.int (0 : Int32))) (V : Arv Z h0 t kt .byte (2 : Int32) [(.int c0.toInt8.toInt32), (.int c1.toInt8.toInt32)] (.int (0 : Int32))) (t0 : Sm c0) (t1 : Sm c1) :
    Con l Z consts_1 (⟨"java/lang/String", "toCharArray", "()[C"⟩ : MethodName) jdk_42_method_129_code 1 (some (.array .char)) [] ({ frames := 5, cells := 1, slots := 2, locals := 73 } : Room) #[(.ref a)] h0 (fun v h => ∃ (d : Addr) (kd : ClassId), v = some (.ref d) ∧ h0.size ≤ d ∧ Keep h0 h [] ∧ Arv Z h d kd .char (2 : Int32) [(.int c0), (.int c1)] (.int (0 : Int32))) := by
  refine Con.intro (plainFor_of_name pn_0) hE X.el ?_
  intro p e s m below meth c T W
  have hsz := W.size
  refine Go.cast (eftcal2 m a) ?_
  have KP := Keep.refl h0 []
  refine W.an d27_0 rfl rfl ?_
  refine W.virtual (X.w 68 rfl) (X.w 69 rfl) (notFace_of_selects (args := #[]) (mvT W.hZ (X.w 71 rfl))) (X.w 71 rfl) (X.w 70 rfl) (X.w 4 rfl) (X.w 72 rfl) (by decide) (c_isll X a _ W.ext FC) (by decide) (Wd := 0) (by decide) a Aa [] [] rfl pd_7 rfl rfl rfl (Nat.le_of_eq rfl) d27_1 (by decide) (by decide) ?_
  intro v T h vm W hQ C
  obtain ⟨rfl, rfl⟩ := hQ
  show Go (g := mkF m 4 #[rv a] [(.int 1)]) ..
  refine W.fn d27_4 ((if0 _ _).trans (feq (by decide : ¬ ((1 : Int32) = (0 : Int32)))).1) ?_
  refine W.an d27_7 rfl rfl ?_
  refine W.getF (host := "") (Or.inl (X.w 29 rfl)) Via.refl FV d27_8 ?_
  intro T W
  refine W.callS (X.w 73 rfl) (X.w 74 rfl) (X.w 75 rfl) (X.w 76 rfl) (by decide) (c_ltc2 X t _ c0 c1 _ W.ext V t0 t1) (by decide) (Wd := 0) (by decide) [(.ref t)] [] rfl pd_19 rfl rfl rfl (Nat.le_of_eq rfl) d27_11 (by decide) (by decide) ?_
  intro v T h vm W hQ C
  obtain ⟨b1, kb1, rfl, hn_b1, Kb1, Vb1⟩ := hQ
  have sz_b1 : h0.size ≤ b1 := Nat.le_trans KP.1 hn_b1
  replace KP := KP.otr0 Kb1
  replace FV := FV.keep Kb1 nin0
  replace FC := FC.keep Kb1 nin0
  replace V := V.keep Kb1 nin0
  replace Aa := Aa.keep Kb1
  replace hsz := W.size
  show Go (g := mkF m 14 #[rv a] [(.ref b1)]) ..
  refine W.gt (pc' := 24) d27_14 (by decide) (by decide) ?_
  exact W.retR rfl rfl rfl d27_24 (⟨b1, _, rfl, sz_b1, KP, Vb1⟩) (by decide) (by decide)

theorem eftcau2 (m : MethodId) (x0 : Addr) : entryFrame m #[(.ref x0)] 1 = mkF m 0 #[.val (.ref x0)] [] := by first | (simp [entryFrame, mkF, argsToLocals, Value.category]; done) | rfl
set_option maxRecDepth 65536 in
set_option maxHeartbeats 40000000 in
theorem c_tcau2 {l : Launch} {Z : State} {a0 : Array Value} {G1 : Int32} (X : Ctx Z a0 G1) (a t : Addr) (kt : ClassId) (c0 c1 : Int32) (sv : Value) (h0 : Heap) (hE : Ext Z.heap h0) (Y : U16 Z sv) (Aa : Exa Z h0 a "java/lang/String") (FV : Fld Z h0 a "java/lang/String" "value" "[B" (.ref t)) (FC : Fld Z h0 a "java/lang/String" "coder" "B" (.int (1 : Int32))) (V : Arv Z h0 t kt .byte (N (2 * 2)) (encU [c0, c1]) (.int (0 : Int32))) (t0 : Ch c0) (t1 : Ch c1) :
    Con l Z consts_1 (⟨"java/lang/String", "toCharArray", "()[C"⟩ : MethodName) jdk_42_method_129_code 1 (some (.array .char)) [] ({ frames := 5, cells := 1, slots := 2, locals := 73 } : Room) #[(.ref a)] h0 (fun v h => ∃ (d : Addr) (kd : ClassId), v = some (.ref d) ∧ h0.size ≤ d ∧ Keep h0 h [] ∧ Arv Z h d kd .char (2 : Int32) [(.int c0), (.int c1)] (.int (0 : Int32))) := by
  refine Con.intro (plainFor_of_name pn_0) hE X.el ?_
  intro p e s m below meth c T W
  have hsz := W.size
  refine Go.cast (eftcau2 m a) ?_
  have KP := Keep.refl h0 []
  refine W.an d27_0 rfl rfl ?_
  refine W.virtual (X.w 68 rfl) (X.w 69 rfl) (notFace_of_selects (args := #[]) (mvT W.hZ (X.w 71 rfl))) (X.w 71 rfl) (X.w 70 rfl) (X.w 4 rfl) (X.w 72 rfl) (by decide) (c_islu X a _ W.ext FC) (by decide) (Wd := 0) (by decide) a Aa [] [] rfl pd_7 rfl rfl rfl (Nat.le_of_eq rfl) d27_1 (by decide) (by decide) ?_
  intro v T h vm W hQ C
  obtain ⟨rfl, rfl⟩ := hQ
  show Go (g := mkF m 4 #[rv a] [(.int 0)]) ..
  refine W.fy (pc' := 17) d27_4 ((if0 _ _).trans (teq (by decide : (0 : Int32) = (0 : Int32))).1) (by decide) (by decide) ?_
  refine W.an d27_17 rfl rfl ?_
  refine W.getF (host := "") (Or.inl (X.w 29 rfl)) Via.refl FV d27_18 ?_
  intro T W
  refine W.callS (X.w 193 rfl) (X.w 194 rfl) (X.w 18 rfl) (X.w 195 rfl) (by decide) (c_utc2 X t _ c0 c1 sv _ W.ext Y V t0 t1) (by decide) (Wd := 0) (by decide) [(.ref t)] [] rfl pd_19 rfl rfl rfl (Nat.le_of_eq rfl) d27_21 (by decide) (by decide) ?_
  intro v T h vm W hQ C
  obtain ⟨b1, kb1, rfl, hn_b1, Kb1, Vb1⟩ := hQ
  have sz_b1 : h0.size ≤ b1 := Nat.le_trans KP.1 hn_b1
  replace KP := KP.otr0 Kb1
  replace FV := FV.keep Kb1 nin0
  replace FC := FC.keep Kb1 nin0
  replace V := V.keep Kb1 nin0
  replace Aa := Aa.keep Kb1
  replace hsz := W.size
  show Go (g := mkF m 24 #[rv a] [(.ref b1)]) ..
  exact W.retR rfl rfl rfl d27_24 (⟨b1, _, rfl, sz_b1, KP, Vb1⟩) (by decide) (by decide)

theorem c_tcx2 {l : Launch} {Z : State} {a0 : Array Value} {G1 : Int32} (X : Ctx Z a0 G1) (a : Addr) (c0 c1 : Int32) (sv : Value) (h0 : Heap) (hE : Ext Z.heap h0) (Y : U16 Z sv) (S : StrX Z h0 a [c0, c1]) : Con l Z consts_1 (⟨"java/lang/String", "toCharArray", "()[C"⟩ : MethodName) jdk_42_method_129_code 1 (some (.array .char)) [] ({ frames := 5, cells := 1, slots := 2, locals := 73 } : Room) #[(.ref a)] h0 (fun v h => ∃ (d : Addr) (kd : ClassId), v = some (.ref d) ∧ h0.size ≤ d ∧ Keep h0 h [] ∧ Arv Z h d kd .char (2 : Int32) [(.int c0), (.int c1)] (.int (0 : Int32))) := by
  rcases S with ⟨t, kb, q1, q2, q3, q4, q5, q6⟩ | ⟨t, kb, q1, q2, q3, q4, q5, q6⟩
  · exact c_tcal2 X a t kb c0 c1 sv h0 hE Y q1 q2 q3 q4 (q5 c0 (by simp)) (q5 c1 (by simp))
  · exact c_tcau2 X a t kb c0 c1 sv h0 hE Y q1 q2 q3 q4 (q5 c0 (by simp)) (q5 c1 (by simp))

theorem eftcal3 (m : MethodId) (x0 : Addr) : entryFrame m #[(.ref x0)] 1 = mkF m 0 #[.val (.ref x0)] [] := by first | (simp [entryFrame, mkF, argsToLocals, Value.category]; done) | rfl
set_option maxRecDepth 65536 in
set_option maxHeartbeats 40000000 in
theorem c_tcal3 {l : Launch} {Z : State} {a0 : Array Value} {G1 : Int32} (X : Ctx Z a0 G1) (a t : Addr) (kt : ClassId) (c0 c1 c2 : Int32) (sv : Value) (h0 : Heap) (hE : Ext Z.heap h0) (Y : U16 Z sv) (Aa : Exa Z h0 a "java/lang/String") (FV : Fld Z h0 a "java/lang/String" "value" "[B" (.ref t)) (FC : Fld Z h0 a "java/lang/String" "coder" "B" (.int (0 : Int32))) (V : Arv Z h0 t kt .byte (3 : Int32) [(.int c0.toInt8.toInt32), (.int c1.toInt8.toInt32), (.int c2.toInt8.toInt32)] (.int (0 : Int32))) (t0 : Sm c0) (t1 : Sm c1) (t2 : Sm c2) :
    Con l Z consts_1 (⟨"java/lang/String", "toCharArray", "()[C"⟩ : MethodName) jdk_42_method_129_code 1 (some (.array .char)) [] ({ frames := 5, cells := 1, slots := 3, locals := 73 } : Room) #[(.ref a)] h0 (fun v h => ∃ (d : Addr) (kd : ClassId), v = some (.ref d) ∧ h0.size ≤ d ∧ Keep h0 h [] ∧ Arv Z h d kd .char (3 : Int32) [(.int c0), (.int c1), (.int c2)] (.int (0 : Int32))) := by
  refine Con.intro (plainFor_of_name pn_0) hE X.el ?_
  intro p e s m below meth c T W
  have hsz := W.size
  refine Go.cast (eftcal3 m a) ?_
  have KP := Keep.refl h0 []
  refine W.an d27_0 rfl rfl ?_
  refine W.virtual (X.w 68 rfl) (X.w 69 rfl) (notFace_of_selects (args := #[]) (mvT W.hZ (X.w 71 rfl))) (X.w 71 rfl) (X.w 70 rfl) (X.w 4 rfl) (X.w 72 rfl) (by decide) (c_isll X a _ W.ext FC) (by decide) (Wd := 0) (by decide) a Aa [] [] rfl pd_7 rfl rfl rfl (Nat.le_of_eq rfl) d27_1 (by decide) (by decide) ?_
  intro v T h vm W hQ C
  obtain ⟨rfl, rfl⟩ := hQ
  show Go (g := mkF m 4 #[rv a] [(.int 1)]) ..
  refine W.fn d27_4 ((if0 _ _).trans (feq (by decide : ¬ ((1 : Int32) = (0 : Int32)))).1) ?_
  refine W.an d27_7 rfl rfl ?_
  refine W.getF (host := "") (Or.inl (X.w 29 rfl)) Via.refl FV d27_8 ?_
  intro T W
  refine W.callS (X.w 73 rfl) (X.w 74 rfl) (X.w 75 rfl) (X.w 76 rfl) (by decide) (c_ltc3 X t _ c0 c1 c2 _ W.ext V t0 t1 t2) (by decide) (Wd := 0) (by decide) [(.ref t)] [] rfl pd_19 rfl rfl rfl (Nat.le_of_eq rfl) d27_11 (by decide) (by decide) ?_
  intro v T h vm W hQ C
  obtain ⟨b1, kb1, rfl, hn_b1, Kb1, Vb1⟩ := hQ
  have sz_b1 : h0.size ≤ b1 := Nat.le_trans KP.1 hn_b1
  replace KP := KP.otr0 Kb1
  replace FV := FV.keep Kb1 nin0
  replace FC := FC.keep Kb1 nin0
  replace V := V.keep Kb1 nin0
  replace Aa := Aa.keep Kb1
  replace hsz := W.size
  show Go (g := mkF m 14 #[rv a] [(.ref b1)]) ..
  refine W.gt (pc' := 24) d27_14 (by decide) (by decide) ?_
  exact W.retR rfl rfl rfl d27_24 (⟨b1, _, rfl, sz_b1, KP, Vb1⟩) (by decide) (by decide)

theorem eftcau3 (m : MethodId) (x0 : Addr) : entryFrame m #[(.ref x0)] 1 = mkF m 0 #[.val (.ref x0)] [] := by first | (simp [entryFrame, mkF, argsToLocals, Value.category]; done) | rfl
set_option maxRecDepth 65536 in
set_option maxHeartbeats 40000000 in
theorem c_tcau3 {l : Launch} {Z : State} {a0 : Array Value} {G1 : Int32} (X : Ctx Z a0 G1) (a t : Addr) (kt : ClassId) (c0 c1 c2 : Int32) (sv : Value) (h0 : Heap) (hE : Ext Z.heap h0) (Y : U16 Z sv) (Aa : Exa Z h0 a "java/lang/String") (FV : Fld Z h0 a "java/lang/String" "value" "[B" (.ref t)) (FC : Fld Z h0 a "java/lang/String" "coder" "B" (.int (1 : Int32))) (V : Arv Z h0 t kt .byte (N (2 * 3)) (encU [c0, c1, c2]) (.int (0 : Int32))) (t0 : Ch c0) (t1 : Ch c1) (t2 : Ch c2) :
    Con l Z consts_1 (⟨"java/lang/String", "toCharArray", "()[C"⟩ : MethodName) jdk_42_method_129_code 1 (some (.array .char)) [] ({ frames := 5, cells := 1, slots := 3, locals := 73 } : Room) #[(.ref a)] h0 (fun v h => ∃ (d : Addr) (kd : ClassId), v = some (.ref d) ∧ h0.size ≤ d ∧ Keep h0 h [] ∧ Arv Z h d kd .char (3 : Int32) [(.int c0), (.int c1), (.int c2)] (.int (0 : Int32))) := by
  refine Con.intro (plainFor_of_name pn_0) hE X.el ?_
  intro p e s m below meth c T W
  have hsz := W.size
  refine Go.cast (eftcau3 m a) ?_
  have KP := Keep.refl h0 []
  refine W.an d27_0 rfl rfl ?_
  refine W.virtual (X.w 68 rfl) (X.w 69 rfl) (notFace_of_selects (args := #[]) (mvT W.hZ (X.w 71 rfl))) (X.w 71 rfl) (X.w 70 rfl) (X.w 4 rfl) (X.w 72 rfl) (by decide) (c_islu X a _ W.ext FC) (by decide) (Wd := 0) (by decide) a Aa [] [] rfl pd_7 rfl rfl rfl (Nat.le_of_eq rfl) d27_1 (by decide) (by decide) ?_
  intro v T h vm W hQ C
  obtain ⟨rfl, rfl⟩ := hQ
  show Go (g := mkF m 4 #[rv a] [(.int 0)]) ..
  refine W.fy (pc' := 17) d27_4 ((if0 _ _).trans (teq (by decide : (0 : Int32) = (0 : Int32))).1) (by decide) (by decide) ?_
  refine W.an d27_17 rfl rfl ?_
  refine W.getF (host := "") (Or.inl (X.w 29 rfl)) Via.refl FV d27_18 ?_
  intro T W
  refine W.callS (X.w 193 rfl) (X.w 194 rfl) (X.w 18 rfl) (X.w 195 rfl) (by decide) (c_utc3 X t _ c0 c1 c2 sv _ W.ext Y V t0 t1 t2) (by decide) (Wd := 0) (by decide) [(.ref t)] [] rfl pd_19 rfl rfl rfl (Nat.le_of_eq rfl) d27_21 (by decide) (by decide) ?_
  intro v T h vm W hQ C
  obtain ⟨b1, kb1, rfl, hn_b1, Kb1, Vb1⟩ := hQ
  have sz_b1 : h0.size ≤ b1 := Nat.le_trans KP.1 hn_b1
  replace KP := KP.otr0 Kb1
  replace FV := FV.keep Kb1 nin0
  replace FC := FC.keep Kb1 nin0
  replace V := V.keep Kb1 nin0
  replace Aa := Aa.keep Kb1
  replace hsz := W.size
  show Go (g := mkF m 24 #[rv a] [(.ref b1)]) ..
  exact W.retR rfl rfl rfl d27_24 (⟨b1, _, rfl, sz_b1, KP, Vb1⟩) (by decide) (by decide)

theorem c_tcx3 {l : Launch} {Z : State} {a0 : Array Value} {G1 : Int32} (X : Ctx Z a0 G1) (a : Addr) (c0 c1 c2 : Int32) (sv : Value) (h0 : Heap) (hE : Ext Z.heap h0) (Y : U16 Z sv) (S : StrX Z h0 a [c0, c1, c2]) : Con l Z consts_1 (⟨"java/lang/String", "toCharArray", "()[C"⟩ : MethodName) jdk_42_method_129_code 1 (some (.array .char)) [] ({ frames := 5, cells := 1, slots := 3, locals := 73 } : Room) #[(.ref a)] h0 (fun v h => ∃ (d : Addr) (kd : ClassId), v = some (.ref d) ∧ h0.size ≤ d ∧ Keep h0 h [] ∧ Arv Z h d kd .char (3 : Int32) [(.int c0), (.int c1), (.int c2)] (.int (0 : Int32))) := by
  rcases S with ⟨t, kb, q1, q2, q3, q4, q5, q6⟩ | ⟨t, kb, q1, q2, q3, q4, q5, q6⟩
  · exact c_tcal3 X a t kb c0 c1 c2 sv h0 hE Y q1 q2 q3 q4 (q5 c0 (by simp)) (q5 c1 (by simp)) (q5 c2 (by simp))
  · exact c_tcau3 X a t kb c0 c1 c2 sv h0 hE Y q1 q2 q3 q4 (q5 c0 (by simp)) (q5 c1 (by simp)) (q5 c2 (by simp))

theorem efabi (m : MethodId) (x0 : Addr) (x1 : Int32) : entryFrame m #[(.ref x0), (.int x1)] 2 = mkF m 0 #[.val (.ref x0), .val (.int x1)] [] := by first | (simp [entryFrame, mkF, argsToLocals, Value.category]; done) | rfl
set_option maxRecDepth 65536 in
set_option maxHeartbeats 40000000 in
theorem c_abi {l : Launch} {Z : State} {a0 : Array Value} {G1 : Int32} (X : Ctx Z a0 G1) (a : Addr) (k : Nat) (h0 : Heap) (hE : Ext Z.heap h0) (ga : Z.heap.size ≤ a) (Aa : Exa Z h0 a "java/lang/StringBuilder") (FV : Fld Z h0 a "java/lang/AbstractStringBuilder" "value" "[B" .null) (FC : Fld Z h0 a "java/lang/AbstractStringBuilder" "coder" "B" (.int (0 : Int32))) (FN : Fld Z h0 a "java/lang/AbstractStringBuilder" "count" "I" (.int (0 : Int32))) (FM : Fld Z h0 a "java/lang/AbstractStringBuilder" "maybeLatin1" "Z" (.int (0 : Int32))) (hk : k ≤ 3) :
    Con l Z consts_1 (⟨"java/lang/AbstractStringBuilder", "<init>", "(I)V"⟩ : MethodName) jdk_68_method_2_code 2 none [] ({ frames := 1, cells := 1, slots := 3, locals := 12 } : Room) #[(.ref a), (.int (N k))] h0 (fun v h => v = none ∧ Keep h0 h [a] ∧ ∃ (t : Addr) (kt : ClassId), h0.size ≤ t ∧ Z.vm.findClass "[B" = some kt ∧ Fld Z h a "java/lang/AbstractStringBuilder" "value" "[B" (.ref t) ∧ Fld Z h a "java/lang/AbstractStringBuilder" "coder" "B" (.int (0 : Int32)) ∧ Fld Z h a "java/lang/AbstractStringBuilder" "count" "I" (.int (0 : Int32)) ∧ Fld Z h a "java/lang/AbstractStringBuilder" "maybeLatin1" "Z" (.int (0 : Int32)) ∧ Arv Z h t kt .byte (N k) [] (.int (0 : Int32))) := by
  refine Con.intro (plainFor_of_name pn_4) hE X.el ?_
  intro p e s m below meth c T W
  have hsz := W.size
  refine Go.cast (efabi m a (N k)) ?_
  have KP := Keep.refl h0 [a]
  refine W.an d28_0 rfl rfl ?_
  refine W.initO (X.w 57 rfl) (X.w 13 rfl) (X.w 14 rfl) rfl d28_1 (by decide) (Wd := 0) (Nat.le_of_eq rfl) (by decide) ?_
  intro T W
  show Go (g := mkF m 4 #[rv a, iv (N k)] []) ..
  refine W.getS (host := "") (Or.inl (X.w 58 rfl)) Via.refl X.2.1 d28_4 ?_
  intro T W
  refine W.fn d28_7 ((if0 _ _).trans (feq X.2.2.1).1) ?_
  refine W.an d28_10 rfl rfl ?_
  refine W.iN d28_11 rfl ?_
  refine W.newarrB (X.w 20 rfl) d28_12 (N_nn (by omega)) (cap := 3) (by rw [N_nat (by omega)]; omega) (by decide) (by decide) (by decide) ?_
  intro T h b1 kb1 hb1 W Eb1 Vb1 Sfb1 cBb1
  have ne_a_b1 : a ≠ b1 := by rw [hb1]; exact Nat.ne_of_lt Aa.lt
  have sz_b1 : h0.size ≤ b1 := by rw [hb1]; exact KP.1
  have gb1 : Z.heap.size ≤ b1 := by rw [hb1]; exact hsz
  replace FV := FV.ext Eb1
  replace FC := FC.ext Eb1
  replace FN := FN.ext Eb1
  replace FM := FM.ext Eb1
  replace KP := KP.ext Eb1
  replace Aa := Aa.ext Eb1
  replace hsz := W.size
  refine W.putF (host := "") (Or.inl (X.w 59 rfl)) Via.refl FV Aa (Or.inl (X.w 60 rfl)) (X.w 36 rfl) (ty := (.array .byte)) (by decide) rfl rfl ga (Safe.exa W.hZ.alike Aa (by decide) (by decide)) d28_14 ?_
  intro T h W Wr2 FV'
  replace FM := FM.other Wr2 (Or.inr (slot_ne (Or.inl (X.w 231 rfl)) (Or.inl (X.w 60 rfl)) (by decide) (t := .boolean) (t' := (.array .byte)) (by decide) (by decide)))
  replace FC := FC.other Wr2 (Or.inr (slot_ne (Or.inl (X.w 62 rfl)) (Or.inl (X.w 60 rfl)) (by decide) (t := .byte) (t' := (.array .byte)) (by decide) (by decide)))
  replace FN := FN.other Wr2 (Or.inr (slot_ne (Or.inl (X.w 91 rfl)) (Or.inl (X.w 60 rfl)) (by decide) (t := .int) (t' := (.array .byte)) (by decide) (by decide)))
  replace KP := KP.otrM (Keep.of_wr Wr2) (by simp)
  replace Vb1 := Vb1.keep (Keep.of_wr Wr2) (nin1 (Ne.symm ne_a_b1))
  replace Aa := Aa.keep (Keep.of_wr Wr2)
  replace hsz := W.size
  replace FV := FV'
  refine W.an d28_17 rfl rfl ?_
  refine W.ic d28_18 0 rfl ?_
  refine W.putF (host := "") (Or.inl (X.w 61 rfl)) Via.refl FC Aa (Or.inl (X.w 62 rfl)) (X.w 36 rfl) (ty := .byte) (by decide) (by decide) (by decide) ga (Safe.exa W.hZ.alike Aa (by decide) (by decide)) d28_19 ?_
  intro T h W Wr3 FC'
  replace FM := FM.other Wr3 (Or.inr (slot_ne (Or.inl (X.w 231 rfl)) (Or.inl (X.w 62 rfl)) (by decide) (t := .boolean) (t' := .byte) (by decide) (by decide)))
  replace FV := FV.other Wr3 (Or.inr (slot_ne (Or.inl (X.w 60 rfl)) (Or.inl (X.w 62 rfl)) (by decide) (t := (.array .byte)) (t' := .byte) (by decide) (by decide)))
  replace FN := FN.other Wr3 (Or.inr (slot_ne (Or.inl (X.w 91 rfl)) (Or.inl (X.w 62 rfl)) (by decide) (t := .int) (t' := .byte) (by decide) (by decide)))
  replace KP := KP.otrM (Keep.of_wr Wr3) (by simp)
  replace Vb1 := Vb1.keep (Keep.of_wr Wr3) (nin1 (Ne.symm ne_a_b1))
  replace Aa := Aa.keep (Keep.of_wr Wr3)
  replace hsz := W.size
  replace FC := FC'
  refine W.gt (pc' := 38) d28_22 (by decide) (by decide) ?_
  exact W.retV d28_38 (⟨rfl, KP, b1, _, sz_b1, cBb1, FV, FC, FN, FM, Vb1⟩) (by decide) (by decide)

theorem efsbi (m : MethodId) (x0 : Addr) (x1 : Int32) : entryFrame m #[(.ref x0), (.int x1)] 2 = mkF m 0 #[.val (.ref x0), .val (.int x1)] [] := by first | (simp [entryFrame, mkF, argsToLocals, Value.category]; done) | rfl
set_option maxRecDepth 65536 in
set_option maxHeartbeats 40000000 in
theorem c_sbi {l : Launch} {Z : State} {a0 : Array Value} {G1 : Int32} (X : Ctx Z a0 G1) (a : Addr) (k : Nat) (h0 : Heap) (hE : Ext Z.heap h0) (ga : Z.heap.size ≤ a) (Aa : Exa Z h0 a "java/lang/StringBuilder") (FV : Fld Z h0 a "java/lang/AbstractStringBuilder" "value" "[B" .null) (FC : Fld Z h0 a "java/lang/AbstractStringBuilder" "coder" "B" (.int (0 : Int32))) (FN : Fld Z h0 a "java/lang/AbstractStringBuilder" "count" "I" (.int (0 : Int32))) (FM : Fld Z h0 a "java/lang/AbstractStringBuilder" "maybeLatin1" "Z" (.int (0 : Int32))) (hk : k ≤ 3) :
    Con l Z consts_1 (⟨"java/lang/StringBuilder", "<init>", "(I)V"⟩ : MethodName) jdk_67_method_2_code 2 none [] ({ frames := 2, cells := 1, slots := 3, locals := 25 } : Room) #[(.ref a), (.int (N k))] h0 (fun v h => v = none ∧ Keep h0 h [a] ∧ ∃ (t : Addr) (kt : ClassId), h0.size ≤ t ∧ Z.vm.findClass "[B" = some kt ∧ Fld Z h a "java/lang/AbstractStringBuilder" "value" "[B" (.ref t) ∧ Fld Z h a "java/lang/AbstractStringBuilder" "coder" "B" (.int (0 : Int32)) ∧ Fld Z h a "java/lang/AbstractStringBuilder" "count" "I" (.int (0 : Int32)) ∧ Fld Z h a "java/lang/AbstractStringBuilder" "maybeLatin1" "Z" (.int (0 : Int32)) ∧ Arv Z h t kt .byte (N k) [] (.int (0 : Int32))) := by
  refine Con.intro (plainFor_of_name pn_5) hE X.el ?_
  intro p e s m below meth c T W
  have hsz := W.size
  refine Go.cast (efsbi m a (N k)) ?_
  refine W.an d29_0 rfl rfl ?_
  refine W.iN d29_1 rfl ?_
  refine W.special rfl (X.w 51 rfl) (X.w 52 rfl) (X.w 55 rfl) (X.w 56 rfl) (by decide) (c_abi X a k _ W.ext ga Aa FV FC FN FM hk) (by decide) (Wd := 0) (by decide) a [(.int (N k))] [] rfl pd_20 rfl rfl rfl (Nat.le_of_eq rfl) d29_2 (by decide) (by decide) ?_
  intro v T h vm W hQ C
  obtain ⟨rfl, hQ⟩ := hQ
  show Go (g := mkF m 5 #[rv a, iv (N k)] []) ..
  exact W.retV d29_5 (⟨rfl, hQ⟩) (by decide) (by decide)

theorem efmxx (m : MethodId) (x0 : Int32) (x1 : Int32) : entryFrame m #[(.int x0), (.int x1)] 2 = mkF m 0 #[.val (.int x0), .val (.int x1)] [] := by first | (simp [entryFrame, mkF, argsToLocals, Value.category]; done) | rfl
set_option maxRecDepth 65536 in
set_option maxHeartbeats 40000000 in
theorem c_mxx {l : Launch} {Z : State} {a0 : Array Value} {G1 : Int32} (X : Ctx Z a0 G1) (q k : Nat) (h0 : Heap) (hE : Ext Z.heap h0) (hk : k ≤ 8000) (hq : q < k) :
    Con l Z consts_1 (⟨"java/lang/Math", "max", "(II)I"⟩ : MethodName) jdk_29_method_65_code 2 (some .int) [] ({ frames := 0, cells := 0, slots := 0, locals := 0 } : Room) #[(.int (N q)), (.int (N k))] h0 (fun v h => v = some (.int (N k)) ∧ h0 = h) := by
  refine Con.intro (Jvm.Free.JP.mathPlain rfl (by decide +kernel)) hE X.el ?_
  intro p e s m below meth c T W
  have hsz := W.size
  refine Go.cast (efmxx m (N q) (N k)) ?_
  refine W.iN d30_0 rfl ?_
  refine W.iN d30_1 rfl ?_
  refine W.cy (pc' := 9) d30_2 (tlt ((N_lt (by omega) (by omega)).mpr hq)).1 (by decide) (by decide) ?_
  refine W.iN d30_9 rfl ?_
  exact W.retI d30_10 (⟨rfl, rfl⟩) (by decide) (by decide)

theorem efmnn (m : MethodId) (x0 : Int32) (x1 : Int32) : entryFrame m #[(.int x0), (.int x1)] 2 = mkF m 0 #[.val (.int x0), .val (.int x1)] [] := by first | (simp [entryFrame, mkF, argsToLocals, Value.category]; done) | rfl
set_option maxRecDepth 65536 in
set_option maxHeartbeats 40000000 in
theorem c_mnn {l : Launch} {Z : State} {a0 : Array Value} {G1 : Int32} (X : Ctx Z a0 G1) (q k : Nat) (h0 : Heap) (hE : Ext Z.heap h0) (hk : k ≤ 8000) (hq : q ≤ k) :
    Con l Z consts_1 (⟨"java/lang/Math", "min", "(II)I"⟩ : MethodName) jdk_29_method_69_code 2 (some .int) [] ({ frames := 0, cells := 0, slots := 0, locals := 0 } : Room) #[(.int (N q)), (.int (N k))] h0 (fun v h => v = some (.int (N q)) ∧ h0 = h) := by
  refine Con.intro (Jvm.Free.JP.mathPlain rfl (by decide +kernel)) hE X.el ?_
  intro p e s m below meth c T W
  have hsz := W.size
  refine Go.cast (efmnn m (N q) (N k)) ?_
  refine W.iN d31_0 rfl ?_
  refine W.iN d31_1 rfl ?_
  refine W.cn d31_2 (flt (fun z => absurd ((N_lt (by omega) (by omega)).mp z) (by omega))).2.2.1 ?_
  refine W.iN d31_5 rfl ?_
  refine W.gt (pc' := 10) d31_6 (by decide) (by decide) ?_
  exact W.retI d31_10 (⟨rfl, rfl⟩) (by decide) (by decide)

theorem efnln (m : MethodId) (x0 : Int32) (x1 : Int32) (x2 : Int32) : entryFrame m #[(.int x0), (.int x1), (.int x2)] 4 = mkF m 0 #[.val (.int x0), .val (.int x1), .val (.int x2), .unset] [] := by first | (simp [entryFrame, mkF, argsToLocals, Value.category]; done) | rfl
set_option maxRecDepth 65536 in
set_option maxHeartbeats 40000000 in
theorem c_nln {l : Launch} {Z : State} {a0 : Array Value} {G1 : Int32} (X : Ctx Z a0 G1) (o q k : Nat) (h0 : Heap) (hE : Ext Z.heap h0) (hk : o + k ≤ 8000) (hq : q < k) :
    Con l Z consts_1 (⟨"jdk/internal/util/ArraysSupport", "newLength", "(III)I"⟩ : MethodName) jdk_48_method_27_code 4 (some .int) [] ({ frames := 1, cells := 0, slots := 0, locals := 14 } : Room) #[(.int (N o)), (.int (N q)), (.int (N k))] h0 (fun v h => v = some (.int (N (o + k))) ∧ h0 = h) := by
  refine Con.intro (plainFor_of_name pn_6) hE X.el ?_
  intro p e s m below meth c T W
  have hsz := W.size
  refine Go.cast (efnln m (N o) (N q) (N k)) ?_
  refine W.iN d32_0 rfl ?_
  refine W.iN d32_1 rfl ?_
  refine W.iN d32_2 rfl ?_
  refine W.callS (X.w 244 rfl) (X.w 245 rfl) (X.w 246 rfl) (X.w 247 rfl) (by decide) (c_mxx X q k _ W.ext (by omega) hq) (by decide) (Wd := 1) (by decide) [(.int (N q)), (.int (N k))] [(.int (N o))] rfl pd_21 rfl rfl rfl (Nat.le_of_eq rfl) d32_3 (by decide) (by decide) ?_
  intro v T h vm W hQ C
  obtain ⟨rfl, rfl⟩ := hQ
  show Go (g := mkF m 6 #[iv (N o), iv (N q), iv (N k), .unset] [(.int (N k)), (.int (N o))]) ..
  refine Go.step (fun _ kz => XS.iadd W.here W.hx rfl (W.d d32_6) rfl kz) ?_
  show Go (g := mkF m 7 #[iv (N o), iv (N q), iv (N k), .unset] [(.int ((N o) + (N k)))]) ..
  rw [N_add]
  show Go (g := mkF m 7 #[iv (N o), iv (N q), iv (N k), .unset] [(.int (N (o + k)))]) ..
  refine W.isn (Ls' := #[iv (N o), iv (N q), iv (N k), iv (N (o + k))]) d32_7 rfl ?_
  refine W.ic d32_8 0 rfl ?_
  refine W.iN d32_9 rfl ?_
  refine W.cn d32_10 (tlt (N_pos (by omega) (by omega))).2.1 ?_
  refine W.iN d32_13 rfl ?_
  refine W.ldcI (X.w 248 rfl) d32_14 ?_
  refine W.cn d32_16 (flt (N_top (by omega))).2.2.1 ?_
  refine W.iN d32_19 rfl ?_
  exact W.retI d32_20 (⟨rfl, rfl⟩) (by decide) (by decide)

theorem efmno (m : MethodId) (x0 : Int32) (x1 : Int32) : entryFrame m #[(.int x0), (.int x1)] 2 = mkF m 0 #[.val (.int x0), .val (.int x1)] [] := by first | (simp [entryFrame, mkF, argsToLocals, Value.category]; done) | rfl
set_option maxRecDepth 65536 in
set_option maxHeartbeats 40000000 in
theorem c_mno {l : Launch} {Z : State} {a0 : Array Value} {G1 : Int32} (X : Ctx Z a0 G1) (k q : Nat) (h0 : Heap) (hE : Ext Z.heap h0) (hk : k ≤ 8000) (hq : q < k) :
    Con l Z consts_1 (⟨"java/lang/Math", "min", "(II)I"⟩ : MethodName) jdk_29_method_69_code 2 (some .int) [] ({ frames := 0, cells := 0, slots := 0, locals := 0 } : Room) #[(.int (N k)), (.int (N q))] h0 (fun v h => v = some (.int (N q)) ∧ h0 = h) := by
  refine Con.intro (Jvm.Free.JP.mathPlain rfl (by decide +kernel)) hE X.el ?_
  intro p e s m below meth c T W
  have hsz := W.size
  refine Go.cast (efmno m (N k) (N q)) ?_
  refine W.iN d31_0 rfl ?_
  refine W.iN d31_1 rfl ?_
  refine W.cy (pc' := 9) d31_2 (tlt ((N_lt (by omega) (by omega)).mpr hq)).2.2.1 (by decide) (by decide) ?_
  refine W.iN d31_9 rfl ?_
  exact W.retI d31_10 (⟨rfl, rfl⟩) (by decide) (by decide)

theorem efncp0 (m : MethodId) (x0 : Addr) (x1 : Int32) : entryFrame m #[(.ref x0), (.int x1)] 6 = mkF m 0 #[.val (.ref x0), .val (.int x1), .unset, .unset, .unset, .unset] [] := by first | (simp [entryFrame, mkF, argsToLocals, Value.category]; done) | rfl
set_option maxRecDepth 65536 in
set_option maxHeartbeats 40000000 in
theorem c_ncp0 {l : Launch} {Z : State} {a0 : Array Value} {G1 : Int32} (X : Ctx Z a0 G1) (a t : Addr) (kt : ClassId) (k : Nat) (vs : List Value) (h0 : Heap) (hE : Ext Z.heap h0) (Aa : Exa Z h0 a "java/lang/StringBuilder") (FV : Fld Z h0 a "java/lang/AbstractStringBuilder" "value" "[B" (.ref t)) (FC : Fld Z h0 a "java/lang/AbstractStringBuilder" "coder" "B" (.int (0 : Int32))) (V : Arv Z h0 t kt .byte (N k) vs (.int (0 : Int32))) (hk : k ≤ 3) :
    Con l Z consts_1 (⟨"java/lang/AbstractStringBuilder", "newCapacity", "(I)I"⟩ : MethodName) jdk_68_method_10_code 6 (some .int) [] ({ frames := 2, cells := 0, slots := 0, locals := 29 } : Room) #[(.ref a), (.int (N (k + 1)))] h0 (fun v h => v = some (.int (N (2 * k + 2))) ∧ h0 = h) := by
  refine Con.intro (plainFor_of_name pn_4) hE X.el ?_
  intro p e s m below meth c T W
  have hsz := W.size
  refine Go.cast (efncp0 m a (N (k + 1))) ?_
  refine W.an d33_0 rfl rfl ?_
  refine W.getF (host := "") (Or.inl (X.w 59 rfl)) Via.refl FV d33_1 ?_
  intro T W
  refine W.arraylength V d33_4 ?_
  refine W.isn (Ls' := #[rv a, iv (N (k + 1)), iv (N k), .unset, .unset, .unset]) d33_5 rfl ?_
  refine W.iN d33_6 rfl ?_
  refine W.an d33_7 rfl rfl ?_
  refine W.getF (host := "") (Or.inl (X.w 61 rfl)) Via.refl FC d33_8 ?_
  intro T W
  refine Go.step (fun _ kz => XS.ishl W.here W.hx rfl (W.d d33_11) rfl kz) ?_
  show Go (g := mkF m 12 #[rv a, iv (N (k + 1)), iv (N k), .unset, .unset, .unset] [(.int ((N (k + 1)) <<< ((0 : Int32) &&& 31)))]) ..
  rw [N_shl0]
  show Go (g := mkF m 12 #[rv a, iv (N (k + 1)), iv (N k), .unset, .unset, .unset] [(.int (N (k + 1)))]) ..
  refine W.isn (Ls' := #[rv a, iv (N (k + 1)), iv (N k), iv (N (k + 1)), .unset, .unset]) d33_12 rfl ?_
  refine W.iN d33_13 rfl ?_
  refine W.iN d33_14 rfl ?_
  refine Go.step (fun _ kz => XS.isub W.here W.hx rfl (W.d d33_15) rfl kz) ?_
  show Go (g := mkF m 16 #[rv a, iv (N (k + 1)), iv (N k), iv (N (k + 1)), .unset, .unset] [(.int ((N (k + 1)) - (N k)))]) ..
  rw [N_sub (by omega)]
  show Go (g := mkF m 16 #[rv a, iv (N (k + 1)), iv (N k), iv (N (k + 1)), .unset, .unset] [(.int (N (k + 1 - k)))]) ..
  refine W.iss (Ls' := #[rv a, iv (N (k + 1)), iv (N k), iv (N (k + 1)), iv (N (k + 1 - k)), .unset]) d33_16 rfl ?_
  refine W.iN d33_18 rfl ?_
  refine W.il d33_19 rfl ?_
  refine W.iN d33_21 rfl ?_
  refine W.ic d33_22 2 rfl ?_
  refine W.an d33_23 rfl rfl ?_
  refine W.getF (host := "") (Or.inl (X.w 61 rfl)) Via.refl FC d33_24 ?_
  intro T W
  refine Go.step (fun _ kz => XS.ishl W.here W.hx rfl (W.d d33_27) rfl kz) ?_
  show Go (g := mkF m 28 #[rv a, iv (N (k + 1)), iv (N k), iv (N (k + 1)), iv (N (k + 1 - k)), .unset] [(.int ((2 : Int32) <<< ((0 : Int32) &&& 31))), (.int (N k)), (.int (N (k + 1 - k))), (.int (N k))]) ..
  refine Go.step (fun _ kz => XS.iadd W.here W.hx rfl (W.d d33_28) rfl kz) ?_
  show Go (g := mkF m 29 #[rv a, iv (N (k + 1)), iv (N k), iv (N (k + 1)), iv (N (k + 1 - k)), .unset] [(.int ((N k) + ((2 : Int32) <<< ((0 : Int32) &&& 31)))), (.int (N (k + 1 - k))), (.int (N k))]) ..
  rw [show (2 : Int32) <<< ((0 : Int32) &&& 31) = N 2 from by decide, N_add]
  show Go (g := mkF m 29 #[rv a, iv (N (k + 1)), iv (N k), iv (N (k + 1)), iv (N (k + 1 - k)), .unset] [(.int (N (k + 2))), (.int (N (k + 1 - k))), (.int (N k))]) ..
  refine W.callS (X.w 240 rfl) (X.w 241 rfl) (X.w 242 rfl) (X.w 243 rfl) (by decide) (c_nln X (k) (k + 1 - k) (k + 2) _ W.ext (by omega) (by omega)) (by decide) (Wd := 0) (by decide) [(.int (N k)), (.int (N (k + 1 - k))), (.int (N (k + 2)))] [] rfl pd_15 rfl rfl rfl (Nat.le_of_eq rfl) d33_29 (by decide) (by decide) ?_
  intro v T h vm W hQ C
  obtain ⟨rfl, rfl⟩ := hQ
  show Go (g := mkF m 32 #[rv a, iv (N (k + 1)), iv (N k), iv (N (k + 1)), iv (N (k + 1 - k)), .unset] [(.int (N (k + (k + 2))))]) ..
  refine W.iss (Ls' := #[rv a, iv (N (k + 1)), iv (N k), iv (N (k + 1)), iv (N (k + 1 - k)), iv (N (k + (k + 2)))]) d33_32 rfl ?_
  refine W.il d33_34 rfl ?_
  refine W.ldcI (X.w 249 rfl) d33_36 ?_
  refine W.cy (pc' := 51) d33_38 (feq (N_nmax (by omega))).2 (by decide) (by decide) ?_
  refine W.il d33_51 rfl ?_
  refine W.an d33_53 rfl rfl ?_
  refine W.getF (host := "") (Or.inl (X.w 61 rfl)) Via.refl FC d33_54 ?_
  intro T W
  refine Go.step (fun _ kz => XS.ishr W.here W.hx rfl (W.d d33_57) rfl kz) ?_
  show Go (g := mkF m 58 #[rv a, iv (N (k + 1)), iv (N k), iv (N (k + 1)), iv (N (k + 1 - k)), iv (N (k + (k + 2)))] [(.int ((N (k + (k + 2))) >>> ((0 : Int32) &&& 31)))]) ..
  exact W.retI d33_58 (⟨by rw [shr0, N_eq (by omega : k + (k + 2) = 2 * k + 2)], rfl⟩) (by decide) (by decide)

theorem efncp1 (m : MethodId) (x0 : Addr) (x1 : Int32) : entryFrame m #[(.ref x0), (.int x1)] 6 = mkF m 0 #[.val (.ref x0), .val (.int x1), .unset, .unset, .unset, .unset] [] := by first | (simp [entryFrame, mkF, argsToLocals, Value.category]; done) | rfl
set_option maxRecDepth 65536 in
set_option maxHeartbeats 40000000 in
theorem c_ncp1 {l : Launch} {Z : State} {a0 : Array Value} {G1 : Int32} (X : Ctx Z a0 G1) (a t : Addr) (kt : ClassId) (k : Nat) (vs : List Value) (h0 : Heap) (hE : Ext Z.heap h0) (Aa : Exa Z h0 a "java/lang/StringBuilder") (FV : Fld Z h0 a "java/lang/AbstractStringBuilder" "value" "[B" (.ref t)) (FC : Fld Z h0 a "java/lang/AbstractStringBuilder" "coder" "B" (.int (1 : Int32))) (V : Arv Z h0 t kt .byte (N (2 * k)) vs (.int (0 : Int32))) (hk : k ≤ 3) :
    Con l Z consts_1 (⟨"java/lang/AbstractStringBuilder", "newCapacity", "(I)I"⟩ : MethodName) jdk_68_method_10_code 6 (some .int) [] ({ frames := 2, cells := 0, slots := 0, locals := 29 } : Room) #[(.ref a), (.int (N (k + 1)))] h0 (fun v h => v = some (.int (N (2 * k + 2))) ∧ h0 = h) := by
  refine Con.intro (plainFor_of_name pn_4) hE X.el ?_
  intro p e s m below meth c T W
  have hsz := W.size
  refine Go.cast (efncp1 m a (N (k + 1))) ?_
  refine W.an d33_0 rfl rfl ?_
  refine W.getF (host := "") (Or.inl (X.w 59 rfl)) Via.refl FV d33_1 ?_
  intro T W
  refine W.arraylength V d33_4 ?_
  refine W.isn (Ls' := #[rv a, iv (N (k + 1)), iv (N (2 * k)), .unset, .unset, .unset]) d33_5 rfl ?_
  refine W.iN d33_6 rfl ?_
  refine W.an d33_7 rfl rfl ?_
  refine W.getF (host := "") (Or.inl (X.w 61 rfl)) Via.refl FC d33_8 ?_
  intro T W
  refine Go.step (fun _ kz => XS.ishl W.here W.hx rfl (W.d d33_11) rfl kz) ?_
  show Go (g := mkF m 12 #[rv a, iv (N (k + 1)), iv (N (2 * k)), .unset, .unset, .unset] [(.int ((N (k + 1)) <<< ((1 : Int32) &&& 31)))]) ..
  rw [N_shl1]
  show Go (g := mkF m 12 #[rv a, iv (N (k + 1)), iv (N (2 * k)), .unset, .unset, .unset] [(.int (N (2 * (k + 1))))]) ..
  refine W.isn (Ls' := #[rv a, iv (N (k + 1)), iv (N (2 * k)), iv (N (2 * (k + 1))), .unset, .unset]) d33_12 rfl ?_
  refine W.iN d33_13 rfl ?_
  refine W.iN d33_14 rfl ?_
  refine Go.step (fun _ kz => XS.isub W.here W.hx rfl (W.d d33_15) rfl kz) ?_
  show Go (g := mkF m 16 #[rv a, iv (N (k + 1)), iv (N (2 * k)), iv (N (2 * (k + 1))), .unset, .unset] [(.int ((N (2 * (k + 1))) - (N (2 * k))))]) ..
  rw [N_sub (by omega)]
  show Go (g := mkF m 16 #[rv a, iv (N (k + 1)), iv (N (2 * k)), iv (N (2 * (k + 1))), .unset, .unset] [(.int (N (2 * (k + 1) - 2 * k)))]) ..
  refine W.iss (Ls' := #[rv a, iv (N (k + 1)), iv (N (2 * k)), iv (N (2 * (k + 1))), iv (N (2 * (k + 1) - 2 * k)), .unset]) d33_16 rfl ?_
  refine W.iN d33_18 rfl ?_
  refine W.il d33_19 rfl ?_
  refine W.iN d33_21 rfl ?_
  refine W.ic d33_22 2 rfl ?_
  refine W.an d33_23 rfl rfl ?_
  refine W.getF (host := "") (Or.inl (X.w 61 rfl)) Via.refl FC d33_24 ?_
  intro T W
  refine Go.step (fun _ kz => XS.ishl W.here W.hx rfl (W.d d33_27) rfl kz) ?_
  show Go (g := mkF m 28 #[rv a, iv (N (k + 1)), iv (N (2 * k)), iv (N (2 * (k + 1))), iv (N (2 * (k + 1) - 2 * k)), .unset] [(.int ((2 : Int32) <<< ((1 : Int32) &&& 31))), (.int (N (2 * k))), (.int (N (2 * (k + 1) - 2 * k))), (.int (N (2 * k)))]) ..
  refine Go.step (fun _ kz => XS.iadd W.here W.hx rfl (W.d d33_28) rfl kz) ?_
  show Go (g := mkF m 29 #[rv a, iv (N (k + 1)), iv (N (2 * k)), iv (N (2 * (k + 1))), iv (N (2 * (k + 1) - 2 * k)), .unset] [(.int ((N (2 * k)) + ((2 : Int32) <<< ((1 : Int32) &&& 31)))), (.int (N (2 * (k + 1) - 2 * k))), (.int (N (2 * k)))]) ..
  rw [show (2 : Int32) <<< ((1 : Int32) &&& 31) = N 4 from by decide, N_add]
  show Go (g := mkF m 29 #[rv a, iv (N (k + 1)), iv (N (2 * k)), iv (N (2 * (k + 1))), iv (N (2 * (k + 1) - 2 * k)), .unset] [(.int (N (2 * k + 4))), (.int (N (2 * (k + 1) - 2 * k))), (.int (N (2 * k)))]) ..
  refine W.callS (X.w 240 rfl) (X.w 241 rfl) (X.w 242 rfl) (X.w 243 rfl) (by decide) (c_nln X (2 * k) (2 * (k + 1) - 2 * k) (2 * k + 4) _ W.ext (by omega) (by omega)) (by decide) (Wd := 0) (by decide) [(.int (N (2 * k))), (.int (N (2 * (k + 1) - 2 * k))), (.int (N (2 * k + 4)))] [] rfl pd_15 rfl rfl rfl (Nat.le_of_eq rfl) d33_29 (by decide) (by decide) ?_
  intro v T h vm W hQ C
  obtain ⟨rfl, rfl⟩ := hQ
  show Go (g := mkF m 32 #[rv a, iv (N (k + 1)), iv (N (2 * k)), iv (N (2 * (k + 1))), iv (N (2 * (k + 1) - 2 * k)), .unset] [(.int (N (2 * k + (2 * k + 4))))]) ..
  refine W.iss (Ls' := #[rv a, iv (N (k + 1)), iv (N (2 * k)), iv (N (2 * (k + 1))), iv (N (2 * (k + 1) - 2 * k)), iv (N (2 * k + (2 * k + 4)))]) d33_32 rfl ?_
  refine W.il d33_34 rfl ?_
  refine W.ldcI (X.w 249 rfl) d33_36 ?_
  refine W.cy (pc' := 51) d33_38 (feq (N_nmax (by omega))).2 (by decide) (by decide) ?_
  refine W.il d33_51 rfl ?_
  refine W.an d33_53 rfl rfl ?_
  refine W.getF (host := "") (Or.inl (X.w 61 rfl)) Via.refl FC d33_54 ?_
  intro T W
  refine Go.step (fun _ kz => XS.ishr W.here W.hx rfl (W.d d33_57) rfl kz) ?_
  show Go (g := mkF m 58 #[rv a, iv (N (k + 1)), iv (N (2 * k)), iv (N (2 * (k + 1))), iv (N (2 * (k + 1) - 2 * k)), iv (N (2 * k + (2 * k + 4)))] [(.int ((N (2 * k + (2 * k + 4))) >>> ((1 : Int32) &&& 31)))]) ..
  exact W.retI d33_58 (⟨by rw [N_eq (by omega : 2 * k + (2 * k + 4) = 2 * (2 * k + 2)), N_shr1 (by omega)], rfl⟩) (by decide) (by decide)

theorem efcpo (m : MethodId) (x0 : Addr) (x1 : Int32) : entryFrame m #[(.ref x0), (.int x1)] 3 = mkF m 0 #[.val (.ref x0), .val (.int x1), .unset] [] := by first | (simp [entryFrame, mkF, argsToLocals, Value.category]; done) | rfl
set_option maxRecDepth 65536 in
set_option maxHeartbeats 40000000 in
theorem c_cpo {l : Launch} {Z : State} {a0 : Array Value} {G1 : Int32} (X : Ctx Z a0 G1) (t : Addr) (kt : ClassId) (o q : Nat) (vs : List Value) (h0 : Heap) (hE : Ext Z.heap h0) (V : Arv Z h0 t kt .byte (N o) vs (.int (0 : Int32))) (hl : vs.length = o) (ho : o < q) (hq : q ≤ 16) :
    Con l Z consts_1 (⟨"java/util/Arrays", "copyOf", "([BI)[B"⟩ : MethodName) jdk_65_method_121_code 3 (some (.array .byte)) [] ({ frames := 1, cells := 1, slots := 16, locals := 45 } : Room) #[(.ref t), (.int (N q))] h0 (fun v h => ∃ (t1 : Addr) (k1 : ClassId), v = some (.ref t1) ∧ Z.vm.findClass "[B" = some k1 ∧ h0.size ≤ t1 ∧ Keep h0 h [] ∧ Arv Z h t1 k1 .byte (N q) vs (.int (0 : Int32))) := by
  refine Con.intro (plainFor_of_name pn_7) hE X.el ?_
  intro p e s m below meth c T W
  have hsz := W.size
  refine Go.cast (efcpo m t (N q)) ?_
  have KP := Keep.refl h0 []
  refine W.iN d34_0 rfl ?_
  refine W.an d34_1 rfl rfl ?_
  refine W.arraylength V d34_2 ?_
  refine W.cy (pc' := 14) d34_3 (feq (fun z => absurd ((N_inj (by omega) (by omega)).mp z) (by omega))).2 (by decide) (by decide) ?_
  refine W.iN d34_14 rfl ?_
  refine W.newarrB (X.w 20 rfl) d34_15 (N_nn (by omega)) (cap := 16) (by rw [N_nat (by omega)]; omega) (by decide) (by decide) (by decide) ?_
  intro T h b1 kb1 hb1 W Eb1 Vb1 Sfb1 cBb1
  have ne_t_b1 : t ≠ b1 := by rw [hb1]; exact Nat.ne_of_lt V.lt
  have sz_b1 : h0.size ≤ b1 := by rw [hb1]; exact KP.1
  have gb1 : Z.heap.size ≤ b1 := by rw [hb1]; exact hsz
  replace V := V.ext Eb1
  replace KP := KP.ext Eb1
  replace hsz := W.size
  refine W.asn (Ls' := #[rv t, iv (N q), rv b1]) d34_17 rfl rfl ?_
  refine W.an d34_18 rfl rfl ?_
  refine W.ic d34_19 0 rfl ?_
  refine W.an d34_20 rfl rfl ?_
  refine W.ic d34_21 0 rfl ?_
  refine W.an d34_22 rfl rfl ?_
  refine W.arraylength V d34_23 ?_
  refine W.iN d34_24 rfl ?_
  refine W.callS (X.w 253 rfl) (X.w 254 rfl) (X.w 246 rfl) (X.w 255 rfl) (by decide) (c_mnn X o q _ W.ext (by omega) (by omega)) (by decide) (Wd := 4) (by decide) [(.int (N o)), (.int (N q))] [(.int (0 : Int32)), (.ref b1), (.int (0 : Int32)), (.ref t)] rfl pd_21 rfl rfl rfl (Nat.le_of_eq rfl) d34_25 (by decide) (by decide) ?_
  intro v T h vm W hQ C
  obtain ⟨rfl, rfl⟩ := hQ
  replace Sfb1 := C.safe Vb1.lt Sfb1
  show Go (g := mkF m 28 #[rv t, iv (N q), rv b1] [(.int (N o)), (.int 0), (.ref b1), (.int 0), (.ref t)]) ..
  refine W.acopy0 (X.w 256 rfl) (X.w 259 rfl) (X.w 257 rfl) (X.w 258 rfl) V Vb1 (o := o) (q := q) (n := o) hl (by omega) (by omega) (by omega) (by omega) gb1 Sfb1 rfl d34_28 (by decide) (Wd := 0) (Nat.le_of_eq rfl) (by decide) ?_
  intro T h W K2 Vb1'
  replace V := V.keep K2 (nin1 ne_t_b1)
  replace KP := KP.otrN K2 sz_b1
  replace hsz := W.size
  replace Vb1 := Vb1'
  show Go (g := mkF m 31 #[rv t, iv (N q), rv b1] []) ..
  refine W.an d34_31 rfl rfl ?_
  exact W.retR rfl rfl rfl d34_32 (⟨b1, _, rfl, cBb1, sz_b1, KP, Vb1⟩) (by decide) (by decide)

theorem efckl (m : MethodId) (x0 : Int32) (x1 : Int32) : entryFrame m #[(.int x0), (.int x1)] 2 = mkF m 0 #[.val (.int x0), .val (.int x1)] [] := by first | (simp [entryFrame, mkF, argsToLocals, Value.category]; done) | rfl
set_option maxRecDepth 65536 in
set_option maxHeartbeats 40000000 in
theorem c_ckl {l : Launch} {Z : State} {a0 : Array Value} {G1 : Int32} (X : Ctx Z a0 G1) (q : Nat) (h0 : Heap) (hE : Ext Z.heap h0) (hq : q ≤ 16) :
    Con l Z consts_1 (⟨"java/util/Arrays", "checkLength", "(II)V"⟩ : MethodName) jdk_65_method_131_code 2 none [] ({ frames := 0, cells := 0, slots := 0, locals := 0 } : Room) #[(.int (0 : Int32)), (.int (N q))] h0 (fun v h => v = none ∧ h0 = h) := by
  refine Con.intro (plainFor_of_name pn_7) hE X.el ?_
  intro p e s m below meth c T W
  have hsz := W.size
  refine Go.cast (efckl m (0 : Int32) (N q)) ?_
  refine W.iN d35_0 rfl ?_
  refine W.iN d35_1 rfl ?_
  refine W.cy (pc' := 37) d35_2 (flt (N_nn (by omega))).2.1 (by decide) (by decide) ?_
  exact W.retV d35_37 (⟨rfl, rfl⟩) (by decide) (by decide)

theorem efcrb (m : MethodId) (x0 : Addr) (x1 : Int32) (x2 : Int32) : entryFrame m #[(.ref x0), (.int x1), (.int x2)] 5 = mkF m 0 #[.val (.ref x0), .val (.int x1), .val (.int x2), .unset, .unset] [] := by first | (simp [entryFrame, mkF, argsToLocals, Value.category]; done) | rfl
set_option maxRecDepth 65536 in
set_option maxHeartbeats 40000000 in
theorem c_crb {l : Launch} {Z : State} {a0 : Array Value} {G1 : Int32} (X : Ctx Z a0 G1) (t : Addr) (kt : ClassId) (k q : Nat) (vs : List Value) (h0 : Heap) (hE : Ext Z.heap h0) (V : Arv Z h0 t kt .byte (N k) vs (.int (0 : Int32))) (hl : vs.length = q) (hq : q < k) (hk : k ≤ 16) :
    Con l Z consts_1 (⟨"java/util/Arrays", "copyOfRangeByte", "([BII)[B"⟩ : MethodName) jdk_65_method_133_code 5 (some (.array .byte)) [] ({ frames := 1, cells := 1, slots := 16, locals := 45 } : Room) #[(.ref t), (.int (0 : Int32)), (.int (N q))] h0 (fun v h => ∃ (t1 : Addr) (k1 : ClassId), v = some (.ref t1) ∧ Z.vm.findClass "[B" = some k1 ∧ h0.size ≤ t1 ∧ Keep h0 h [] ∧ Arv Z h t1 k1 .byte (N q) vs (.int (0 : Int32))) := by
  refine Con.intro (plainFor_of_name pn_7) hE X.el ?_
  intro p e s m below meth c T W
  have hsz := W.size
  refine Go.cast (efcrb m t (0 : Int32) (N q)) ?_
  have KP := Keep.refl h0 []
  refine W.iN d36_0 rfl ?_
  refine W.iN d36_1 rfl ?_
  refine W.callS (X.w 263 rfl) (X.w 264 rfl) (X.w 133 rfl) (X.w 265 rfl) (by decide) (c_ckl X q _ W.ext (by omega)) (by decide) (Wd := 0) (by decide) [(.int (0 : Int32)), (.int (N q))] [] rfl pd_3 rfl rfl rfl (Nat.le_of_eq rfl) d36_2 (by decide) (by decide) ?_
  intro v T h vm W hQ C
  obtain ⟨rfl, rfl⟩ := hQ
  show Go (g := mkF m 5 #[rv t, iv 0, iv (N q), .unset, .unset] []) ..
  refine W.iN d36_5 rfl ?_
  refine W.iN d36_6 rfl ?_
  refine Go.step (fun _ kz => XS.isub W.here W.hx rfl (W.d d36_7) rfl kz) ?_
  show Go (g := mkF m 8 #[rv t, iv 0, iv (N q), .unset, .unset] [(.int ((N q) - (0 : Int32)))]) ..
  rw [N_sub0]
  show Go (g := mkF m 8 #[rv t, iv 0, iv (N q), .unset, .unset] [(.int (N q))]) ..
  refine W.isn (Ls' := #[rv t, iv 0, iv (N q), iv (N q), .unset]) d36_8 rfl ?_
  refine W.iN d36_9 rfl ?_
  refine W.newarrB (X.w 20 rfl) d36_10 (N_nn (by omega)) (cap := 16) (by rw [N_nat (by omega)]; omega) (by decide) (by decide) (by decide) ?_
  intro T h b1 kb1 hb1 W Eb1 Vb1 Sfb1 cBb1
  have ne_t_b1 : t ≠ b1 := by rw [hb1]; exact Nat.ne_of_lt V.lt
  have sz_b1 : h0.size ≤ b1 := by rw [hb1]; exact KP.1
  have gb1 : Z.heap.size ≤ b1 := by rw [hb1]; exact hsz
  replace V := V.ext Eb1
  replace KP := KP.ext Eb1
  replace hsz := W.size
  refine W.ass (Ls' := #[rv t, iv 0, iv (N q), iv (N q), rv b1]) d36_12 rfl rfl ?_
  refine W.an d36_14 rfl rfl ?_
  refine W.iN d36_15 rfl ?_
  refine W.al d36_16 rfl rfl ?_
  refine W.ic d36_18 0 rfl ?_
  refine W.an d36_19 rfl rfl ?_
  refine W.arraylength V d36_20 ?_
  refine W.iN d36_21 rfl ?_
  refine Go.step (fun _ kz => XS.isub W.here W.hx rfl (W.d d36_22) rfl kz) ?_
  show Go (g := mkF m 23 #[rv t, iv 0, iv (N q), iv (N q), rv b1] [(.int ((N k) - (0 : Int32))), (.int 0), (.ref b1), (.int 0), (.ref t)]) ..
  rw [N_sub0]
  show Go (g := mkF m 23 #[rv t, iv 0, iv (N q), iv (N q), rv b1] [(.int (N k)), (.int 0), (.ref b1), (.int 0), (.ref t)]) ..
  refine W.iN d36_23 rfl ?_
  refine W.callS (X.w 253 rfl) (X.w 254 rfl) (X.w 246 rfl) (X.w 255 rfl) (by decide) (c_mno X k q _ W.ext (by omega) (by omega)) (by decide) (Wd := 4) (by decide) [(.int (N k)), (.int (N q))] [(.int (0 : Int32)), (.ref b1), (.int (0 : Int32)), (.ref t)] rfl pd_21 rfl rfl rfl (Nat.le_of_eq rfl) d36_24 (by decide) (by decide) ?_
  intro v T h vm W hQ C
  obtain ⟨rfl, rfl⟩ := hQ
  replace Sfb1 := C.safe Vb1.lt Sfb1
  show Go (g := mkF m 27 #[rv t, iv 0, iv (N q), iv (N q), rv b1] [(.int (N q)), (.int 0), (.ref b1), (.int 0), (.ref t)]) ..
  refine W.acopy0 (X.w 256 rfl) (X.w 259 rfl) (X.w 257 rfl) (X.w 258 rfl) V Vb1 (o := k) (q := q) (n := q) hl (by omega) (by omega) (by omega) (by omega) gb1 Sfb1 rfl d36_27 (by decide) (Wd := 0) (Nat.le_of_eq rfl) (by decide) ?_
  intro T h W K2 Vb1'
  replace V := V.keep K2 (nin1 ne_t_b1)
  replace KP := KP.otrN K2 sz_b1
  replace hsz := W.size
  replace Vb1 := Vb1'
  show Go (g := mkF m 30 #[rv t, iv 0, iv (N q), iv (N q), rv b1] []) ..
  refine W.al d36_30 rfl rfl ?_
  exact W.retR rfl rfl rfl d36_32 (⟨b1, _, rfl, cBb1, sz_b1, KP, Vb1⟩) (by decide) (by decide)

theorem efcor (m : MethodId) (x0 : Addr) (x1 : Int32) (x2 : Int32) : entryFrame m #[(.ref x0), (.int x1), (.int x2)] 3 = mkF m 0 #[.val (.ref x0), .val (.int x1), .val (.int x2)] [] := by first | (simp [entryFrame, mkF, argsToLocals, Value.category]; done) | rfl
set_option maxRecDepth 65536 in
set_option maxHeartbeats 40000000 in
theorem c_cor {l : Launch} {Z : State} {a0 : Array Value} {G1 : Int32} (X : Ctx Z a0 G1) (t : Addr) (kt : ClassId) (k q : Nat) (vs : List Value) (h0 : Heap) (hE : Ext Z.heap h0) (cB : Z.vm.findClass "[B" = some kt) (V : Arv Z h0 t kt .byte (N k) vs (.int (0 : Int32))) (hl : vs.length = q) (hq : q ≤ k) (hk : k ≤ 16) :
    Con l Z consts_1 (⟨"java/util/Arrays", "copyOfRange", "([BII)[B"⟩ : MethodName) jdk_65_method_132_code 3 (some (.array .byte)) [] ({ frames := 2, cells := 1, slots := 16, locals := 61 } : Room) #[(.ref t), (.int (0 : Int32)), (.int (N q))] h0 (fun v h => ∃ (t1 : Addr) (k1 : ClassId), v = some (.ref t1) ∧ Z.vm.findClass "[B" = some k1 ∧ h0.size ≤ t1 ∧ Keep h0 h [] ∧ Arv Z h t1 k1 .byte (N q) vs (.int (0 : Int32))) := by
  refine Con.intro (plainFor_of_name pn_7) hE X.el ?_
  intro p e s m below meth c T W
  have hsz := W.size
  refine Go.cast (efcor m t (0 : Int32) (N q)) ?_
  have KP := Keep.refl h0 []
  refine W.iN d37_0 rfl ?_
  refine W.fn d37_1 ((if0 _ _).trans (teq (by decide : (0 : Int32) = (0 : Int32))).2) ?_
  refine W.iN d37_4 rfl ?_
  refine W.an d37_5 rfl rfl ?_
  refine W.arraylength V d37_6 ?_
  by_cases hc1 : (N q) = (N k)
  · refine W.cy (pc' := 17) d37_7 (teq hc1).1 (by decide) (by decide) ?_
    refine W.an d37_17 rfl rfl ?_
    refine W.clone (X.w 135 rfl) (X.w 136 rfl) (X.w 140 rfl) (X.w 138 rfl) (X.w 139 rfl) (X.w 141 rfl) V (exaArv V cB) rfl d37_18 (by decide) (Wd := 0) (cap := 16) (Nat.le_of_eq rfl) (by decide) (by rw [N_nat (by omega)]; omega) (by decide) (by decide) ?_
    intro T h b2 hb2 W Eb2 Ab2 Vb2
    have ne_t_b2 : t ≠ b2 := by rw [hb2]; exact Nat.ne_of_lt V.lt
    have sz_b2 : h0.size ≤ b2 := by rw [hb2]; exact KP.1
    have gb2 : Z.heap.size ≤ b2 := by rw [hb2]; exact hsz
    replace V := V.ext Eb2
    replace KP := KP.ext Eb2
    replace hsz := W.size
    show Go (g := mkF m 21 #[rv t, iv 0, iv (N q)] [(.ref b2)]) ..
    refine W.cast (X.w 142 rfl) (Ins.self Ab2) d37_21 ?_
    intro T W
    rw [← hc1] at Vb2
    exact W.retR rfl rfl rfl d37_24 (⟨b2, _, rfl, cB, sz_b2, KP, Vb2⟩) (by decide) (by decide)
  · refine W.cn d37_7 (feq hc1).1 ?_
    refine W.an d37_10 rfl rfl ?_
    refine W.iN d37_11 rfl ?_
    refine W.iN d37_12 rfl ?_
    have hqk : q < k := by have := mt (N_eq (i := q) (k := k)) hc1; omega
    refine W.callS (X.w 260 rfl) (X.w 261 rfl) (X.w 133 rfl) (X.w 262 rfl) (by decide) (c_crb X t _ k q vs _ W.ext V hl hqk hk) (by decide) (Wd := 0) (by decide) [(.ref t), (.int (0 : Int32)), (.int (N q))] [] rfl pd_22 rfl rfl rfl (Nat.le_of_eq rfl) d37_13 (by decide) (by decide) ?_
    intro v T h vm W hQ C
    obtain ⟨b3, kb3, rfl, cBb3, sz_b3, Kb3, Vb3⟩ := hQ
    replace V := V.keep Kb3 nin0
    replace KP := KP.otr0 Kb3
    replace hsz := W.size
    show Go (g := mkF m 16 #[rv t, iv 0, iv (N q)] [(.ref b3)]) ..
    exact W.retR rfl rfl rfl d37_16 (⟨b3, _, rfl, cBb3, sz_b3, KP, Vb3⟩) (by decide) (by decide)

theorem efeci0 (m : MethodId) (x0 : Addr) (x1 : Int32) : entryFrame m #[(.ref x0), (.int x1)] 3 = mkF m 0 #[.val (.ref x0), .val (.int x1), .unset] [] := by first | (simp [entryFrame, mkF, argsToLocals, Value.category]; done) | rfl
set_option maxRecDepth 65536 in
set_option maxHeartbeats 40000000 in
theorem c_eci0 {l : Launch} {Z : State} {a0 : Array Value} {G1 : Int32} (X : Ctx Z a0 G1) (a t : Addr) (kt : ClassId) (k n : Nat) (cs : List Int32) (h0 : Heap) (hE : Ext Z.heap h0) (ga : Z.heap.size ≤ a) (Aa : Exa Z h0 a "java/lang/StringBuilder") (FV : Fld Z h0 a "java/lang/AbstractStringBuilder" "value" "[B" (.ref t)) (FC : Fld Z h0 a "java/lang/AbstractStringBuilder" "coder" "B" (.int (0 : Int32))) (FN : Fld Z h0 a "java/lang/AbstractStringBuilder" "count" "I" (.int (N cs.length))) (FM : Fld Z h0 a "java/lang/AbstractStringBuilder" "maybeLatin1" "Z" (.int (0 : Int32))) (gt : Z.heap.size ≤ t) (cB : Z.vm.findClass "[B" = some kt) (V : Arv Z h0 t kt .byte (N k) (encL cs) (.int (0 : Int32))) (hk : k = n ∨ k = 2 * n + 2) (hn : n ≤ 3) (hj : cs.length ≤ k) (hj2 : cs.length + 1 ≤ 2 * n + 2) :
    Con l Z consts_1 (⟨"java/lang/AbstractStringBuilder", "ensureCapacityInternal", "(I)V"⟩ : MethodName) jdk_68_method_9_code 3 none [] ({ frames := 3, cells := 1, slots := 16, locals := 60 } : Room) #[(.ref a), (.int (N (cs.length + 1)))] h0 (fun v h => v = none ∧ Keep h0 h [a] ∧ ∃ (t1 : Addr) (kt1 : ClassId) (k1 : Nat), (t1 = t ∨ h0.size ≤ t1) ∧ Z.heap.size ≤ t1 ∧ Z.vm.findClass "[B" = some kt1 ∧ (k1 = n ∨ k1 = 2 * n + 2) ∧ cs.length + 1 ≤ k1 ∧ Fld Z h a "java/lang/AbstractStringBuilder" "value" "[B" (.ref t1) ∧ Fld Z h a "java/lang/AbstractStringBuilder" "coder" "B" (.int (0 : Int32)) ∧ Fld Z h a "java/lang/AbstractStringBuilder" "count" "I" (.int (N cs.length)) ∧ Fld Z h a "java/lang/AbstractStringBuilder" "maybeLatin1" "Z" (.int (0 : Int32)) ∧ Arv Z h t1 kt1 .byte (N k1) (encL cs) (.int (0 : Int32))) := by
  refine Con.intro (plainFor_of_name pn_4) hE X.el ?_
  intro p e s m below meth c T W
  have hsz := W.size
  refine Go.cast (efeci0 m a (N (cs.length + 1))) ?_
  have KP := Keep.refl h0 [a]
  refine W.an d38_0 rfl rfl ?_
  refine W.getF (host := "") (Or.inl (X.w 59 rfl)) Via.refl FV d38_1 ?_
  intro T W
  refine W.arraylength V d38_4 ?_
  refine W.an d38_5 rfl rfl ?_
  refine W.getF (host := "") (Or.inl (X.w 61 rfl)) Via.refl FC d38_6 ?_
  intro T W
  refine Go.step (fun _ kz => XS.ishr W.here W.hx rfl (W.d d38_9) rfl kz) ?_
  show Go (g := mkF m 10 #[rv a, iv (N (cs.length + 1)), .unset] [(.int ((N k) >>> ((0 : Int32) &&& 31)))]) ..
  rw [shr0]
  show Go (g := mkF m 10 #[rv a, iv (N (cs.length + 1)), .unset] [(.int (N k))]) ..
  refine W.isn (Ls' := #[rv a, iv (N (cs.length + 1)), iv (N k)]) d38_10 rfl ?_
  refine W.iN d38_11 rfl ?_
  refine W.iN d38_12 rfl ?_
  refine Go.step (fun _ kz => XS.isub W.here W.hx rfl (W.d d38_13) rfl kz) ?_
  show Go (g := mkF m 14 #[rv a, iv (N (cs.length + 1)), iv (N k)] [(.int ((N (cs.length + 1)) - (N k)))]) ..
  by_cases hc1 : (0 : Int32) < ((N (cs.length + 1)) - (N k))
  · refine W.fn d38_14 ((if0 _ _).trans (tlt hc1).2.2.2) ?_
    rw [N_sub_pos (by omega) (by omega)] at hc1
    have e_ : N (cs.length + 1) = N (k + 1) := N_eq (by omega)
    have hkn : k = n := by omega
    rw [e_]
    show Go (g := mkF m 17 #[rv a, iv (N (k + 1)), iv (N k)] []) ..
    refine W.an d38_17 rfl rfl ?_
    refine W.an d38_18 rfl rfl ?_
    refine W.getF (host := "") (Or.inl (X.w 59 rfl)) Via.refl FV d38_19 ?_
    intro T W
    refine W.an d38_22 rfl rfl ?_
    refine W.iN d38_23 rfl ?_
    refine W.privat (X.w 235 rfl) (X.w 236 rfl) (priv_sel (X.w 238 rfl) (X.w 236 rfl) (X.w 237 rfl) (by decide)) (X.w 237 rfl) (X.w 55 rfl) (X.w 239 rfl) (by decide) (c_ncp0 X a t _ k _ _ W.ext Aa FV FC V (by omega)) (by decide) (Wd := 2) (by decide) a Aa [(.int (N (k + 1)))] [(.ref t), (.ref a)] rfl pd_8 rfl rfl rfl (Nat.le_of_eq rfl) d38_24 (by decide) (by decide) ?_
    intro v T h vm W hQ C
    obtain ⟨rfl, rfl⟩ := hQ
    show Go (g := mkF m 27 #[rv a, iv (N (k + 1)), iv (N k)] [(.int (N (2 * k + 2))), (.ref t), (.ref a)]) ..
    refine W.an d38_27 rfl rfl ?_
    refine W.getF (host := "") (Or.inl (X.w 61 rfl)) Via.refl FC d38_28 ?_
    intro T W
    refine Go.step (fun _ kz => XS.ishl W.here W.hx rfl (W.d d38_31) rfl kz) ?_
    show Go (g := mkF m 32 #[rv a, iv (N (k + 1)), iv (N k)] [(.int ((N (2 * k + 2)) <<< ((0 : Int32) &&& 31))), (.ref t), (.ref a)]) ..
    rw [N_shl0]
    show Go (g := mkF m 32 #[rv a, iv (N (k + 1)), iv (N k)] [(.int (N (2 * k + 2))), (.ref t), (.ref a)]) ..
    refine W.callS (X.w 250 rfl) (X.w 251 rfl) (X.w 133 rfl) (X.w 252 rfl) (by decide) (c_cpo X t _ (k) (2 * k + 2) _ _ W.ext V (by rw [encL_len]; omega) (by omega) (by omega)) (by decide) (Wd := 1) (by decide) [(.ref t), (.int (N (2 * k + 2)))] [(.ref a)] rfl pd_23 rfl rfl rfl (Nat.le_of_eq rfl) d38_32 (by decide) (by decide) ?_
    intro v T h vm W hQ C
    obtain ⟨b2, kb2, rfl, cBb2, hn_b2, Kb2, Vb2⟩ := hQ
    have ne_a_b2 : a ≠ b2 := Nat.ne_of_lt (Nat.lt_of_lt_of_le Aa.lt hn_b2)
    have ne_t_b2 : t ≠ b2 := Nat.ne_of_lt (Nat.lt_of_lt_of_le V.lt hn_b2)
    have sz_b2 : h0.size ≤ b2 := Nat.le_trans KP.1 hn_b2
    have gb2 : Z.heap.size ≤ b2 := Nat.le_trans hsz hn_b2
    replace FV := FV.keep Kb2 nin0
    replace FC := FC.keep Kb2 nin0
    replace FN := FN.keep Kb2 nin0
    replace FM := FM.keep Kb2 nin0
    replace V := V.keep Kb2 nin0
    replace KP := KP.otr0 Kb2
    replace Aa := Aa.keep Kb2
    replace hsz := W.size
    show Go (g := mkF m 35 #[rv a, iv (N (k + 1)), iv (N k)] [(.ref b2), (.ref a)]) ..
    refine W.putF (host := "") (Or.inl (X.w 59 rfl)) Via.refl FV Aa (Or.inl (X.w 60 rfl)) (X.w 36 rfl) (ty := (.array .byte)) (by decide) rfl rfl ga (Safe.exa W.hZ.alike Aa (by decide) (by decide)) d38_35 ?_
    intro T h W Wr3 FV'
    replace FM := FM.other Wr3 (Or.inr (slot_ne (Or.inl (X.w 231 rfl)) (Or.inl (X.w 60 rfl)) (by decide) (t := .boolean) (t' := (.array .byte)) (by decide) (by decide)))
    replace FC := FC.other Wr3 (Or.inr (slot_ne (Or.inl (X.w 62 rfl)) (Or.inl (X.w 60 rfl)) (by decide) (t := .byte) (t' := (.array .byte)) (by decide) (by decide)))
    replace FN := FN.other Wr3 (Or.inr (slot_ne (Or.inl (X.w 91 rfl)) (Or.inl (X.w 60 rfl)) (by decide) (t := .int) (t' := (.array .byte)) (by decide) (by decide)))
    replace V := V.keep (Keep.of_wr Wr3) (nin1 (Ne.symm (Exa.neArv Aa V (X.w 36 rfl))))
    replace KP := KP.otrM (Keep.of_wr Wr3) (by simp)
    replace Vb2 := Vb2.keep (Keep.of_wr Wr3) (nin1 (Ne.symm ne_a_b2))
    replace Aa := Aa.keep (Keep.of_wr Wr3)
    replace hsz := W.size
    replace FV := FV'
    exact W.retV d38_38 (⟨rfl, KP, b2, _, 2 * k + 2, Or.inr sz_b2, gb2, cBb2, by omega, by omega, FV, FC, FN, FM, Vb2⟩) (by decide) (by decide)
  · refine W.fy (pc' := 38) d38_14 ((if0 _ _).trans (flt hc1).2.2.2) (by decide) (by decide) ?_
    rw [N_sub_pos (by omega) (by omega)] at hc1
    exact W.retV d38_38 (⟨rfl, KP, t, kt, k, Or.inl rfl, gt, cB, hk, by omega, FV, FC, FN, FM, V⟩) (by decide) (by decide)

theorem efabl0 (m : MethodId) (x0 : Addr) : entryFrame m #[(.ref x0)] 1 = mkF m 0 #[.val (.ref x0)] [] := by first | (simp [entryFrame, mkF, argsToLocals, Value.category]; done) | rfl
set_option maxRecDepth 65536 in
set_option maxHeartbeats 40000000 in
theorem c_abl0 {l : Launch} {Z : State} {a0 : Array Value} {G1 : Int32} (X : Ctx Z a0 G1) (a : Addr) (h0 : Heap) (hE : Ext Z.heap h0) (FC : Fld Z h0 a "java/lang/AbstractStringBuilder" "coder" "B" (.int (0 : Int32))) :
    Con l Z consts_1 (⟨"java/lang/AbstractStringBuilder", "isLatin1", "()Z"⟩ : MethodName) jdk_68_method_68_code 1 (some .boolean) [] ({ frames := 0, cells := 0, slots := 0, locals := 0 } : Room) #[(.ref a)] h0 (fun v h => v = some (.int (1 : Int32)) ∧ h0 = h) := by
  refine Con.intro (plainFor_of_name pn_4) hE X.el ?_
  intro p e s m below meth c T W
  have hsz := W.size
  refine Go.cast (efabl0 m a) ?_
  refine W.getS (host := "") (Or.inl (X.w 58 rfl)) Via.refl X.2.1 d39_0 ?_
  intro T W
  refine W.fn d39_3 ((if0 _ _).trans (feq X.2.2.1).1) ?_
  refine W.an d39_6 rfl rfl ?_
  refine W.getF (host := "") (Or.inl (X.w 61 rfl)) Via.refl FC d39_7 ?_
  intro T W
  refine W.fn d39_10 ((if0 _ _).trans (teq (by decide : (0 : Int32) = (0 : Int32))).2) ?_
  refine W.ic d39_13 1 rfl ?_
  refine W.gt (pc' := 18) d39_14 (by decide) (by decide) ?_
  exact W.retN (by simp) d39_18 (⟨rfl, rfl⟩) (by decide) (by decide)

theorem efeci1 (m : MethodId) (x0 : Addr) (x1 : Int32) : entryFrame m #[(.ref x0), (.int x1)] 3 = mkF m 0 #[.val (.ref x0), .val (.int x1), .unset] [] := by first | (simp [entryFrame, mkF, argsToLocals, Value.category]; done) | rfl
set_option maxRecDepth 65536 in
set_option maxHeartbeats 40000000 in
theorem c_eci1 {l : Launch} {Z : State} {a0 : Array Value} {G1 : Int32} (X : Ctx Z a0 G1) (a t : Addr) (kt : ClassId) (k n : Nat) (cs : List Int32) (h0 : Heap) (hE : Ext Z.heap h0) (ga : Z.heap.size ≤ a) (Aa : Exa Z h0 a "java/lang/StringBuilder") (FV : Fld Z h0 a "java/lang/AbstractStringBuilder" "value" "[B" (.ref t)) (FC : Fld Z h0 a "java/lang/AbstractStringBuilder" "coder" "B" (.int (1 : Int32))) (FN : Fld Z h0 a "java/lang/AbstractStringBuilder" "count" "I" (.int (N cs.length))) (FM : Fld Z h0 a "java/lang/AbstractStringBuilder" "maybeLatin1" "Z" (.int (0 : Int32))) (gt : Z.heap.size ≤ t) (cB : Z.vm.findClass "[B" = some kt) (V : Arv Z h0 t kt .byte (N (2 * k)) (encU cs) (.int (0 : Int32))) (hk : k = n ∨ k = 2 * n + 2) (hn : n ≤ 3) (hj : cs.length ≤ k) (hj2 : cs.length + 1 ≤ 2 * n + 2) :
    Con l Z consts_1 (⟨"java/lang/AbstractStringBuilder", "ensureCapacityInternal", "(I)V"⟩ : MethodName) jdk_68_method_9_code 3 none [] ({ frames := 3, cells := 1, slots := 16, locals := 60 } : Room) #[(.ref a), (.int (N (cs.length + 1)))] h0 (fun v h => v = none ∧ Keep h0 h [a] ∧ ∃ (t1 : Addr) (kt1 : ClassId) (k1 : Nat), (t1 = t ∨ h0.size ≤ t1) ∧ Z.heap.size ≤ t1 ∧ Z.vm.findClass "[B" = some kt1 ∧ (k1 = n ∨ k1 = 2 * n + 2) ∧ cs.length + 1 ≤ k1 ∧ Fld Z h a "java/lang/AbstractStringBuilder" "value" "[B" (.ref t1) ∧ Fld Z h a "java/lang/AbstractStringBuilder" "coder" "B" (.int (1 : Int32)) ∧ Fld Z h a "java/lang/AbstractStringBuilder" "count" "I" (.int (N cs.length)) ∧ Fld Z h a "java/lang/AbstractStringBuilder" "maybeLatin1" "Z" (.int (0 : Int32)) ∧ Arv Z h t1 kt1 .byte (N (2 * k1)) (encU cs) (.int (0 : Int32))) := by
  refine Con.intro (plainFor_of_name pn_4) hE X.el ?_
  intro p e s m below meth c T W
  have hsz := W.size
  refine Go.cast (efeci1 m a (N (cs.length + 1))) ?_
  have KP := Keep.refl h0 [a]
  refine W.an d38_0 rfl rfl ?_
  refine W.getF (host := "") (Or.inl (X.w 59 rfl)) Via.refl FV d38_1 ?_
  intro T W
  refine W.arraylength V d38_4 ?_
  refine W.an d38_5 rfl rfl ?_
  refine W.getF (host := "") (Or.inl (X.w 61 rfl)) Via.refl FC d38_6 ?_
  intro T W
  refine Go.step (fun _ kz => XS.ishr W.here W.hx rfl (W.d d38_9) rfl kz) ?_
  show Go (g := mkF m 10 #[rv a, iv (N (cs.length + 1)), .unset] [(.int ((N (2 * k)) >>> ((1 : Int32) &&& 31)))]) ..
  rw [N_shr1 (by omega)]
  show Go (g := mkF m 10 #[rv a, iv (N (cs.length + 1)), .unset] [(.int (N k))]) ..
  refine W.isn (Ls' := #[rv a, iv (N (cs.length + 1)), iv (N k)]) d38_10 rfl ?_
  refine W.iN d38_11 rfl ?_
  refine W.iN d38_12 rfl ?_
  refine Go.step (fun _ kz => XS.isub W.here W.hx rfl (W.d d38_13) rfl kz) ?_
  show Go (g := mkF m 14 #[rv a, iv (N (cs.length + 1)), iv (N k)] [(.int ((N (cs.length + 1)) - (N k)))]) ..
  by_cases hc1 : (0 : Int32) < ((N (cs.length + 1)) - (N k))
  · refine W.fn d38_14 ((if0 _ _).trans (tlt hc1).2.2.2) ?_
    rw [N_sub_pos (by omega) (by omega)] at hc1
    have e_ : N (cs.length + 1) = N (k + 1) := N_eq (by omega)
    have hkn : k = n := by omega
    rw [e_]
    show Go (g := mkF m 17 #[rv a, iv (N (k + 1)), iv (N k)] []) ..
    refine W.an d38_17 rfl rfl ?_
    refine W.an d38_18 rfl rfl ?_
    refine W.getF (host := "") (Or.inl (X.w 59 rfl)) Via.refl FV d38_19 ?_
    intro T W
    refine W.an d38_22 rfl rfl ?_
    refine W.iN d38_23 rfl ?_
    refine W.privat (X.w 235 rfl) (X.w 236 rfl) (priv_sel (X.w 238 rfl) (X.w 236 rfl) (X.w 237 rfl) (by decide)) (X.w 237 rfl) (X.w 55 rfl) (X.w 239 rfl) (by decide) (c_ncp1 X a t _ k _ _ W.ext Aa FV FC V (by omega)) (by decide) (Wd := 2) (by decide) a Aa [(.int (N (k + 1)))] [(.ref t), (.ref a)] rfl pd_8 rfl rfl rfl (Nat.le_of_eq rfl) d38_24 (by decide) (by decide) ?_
    intro v T h vm W hQ C
    obtain ⟨rfl, rfl⟩ := hQ
    show Go (g := mkF m 27 #[rv a, iv (N (k + 1)), iv (N k)] [(.int (N (2 * k + 2))), (.ref t), (.ref a)]) ..
    refine W.an d38_27 rfl rfl ?_
    refine W.getF (host := "") (Or.inl (X.w 61 rfl)) Via.refl FC d38_28 ?_
    intro T W
    refine Go.step (fun _ kz => XS.ishl W.here W.hx rfl (W.d d38_31) rfl kz) ?_
    show Go (g := mkF m 32 #[rv a, iv (N (k + 1)), iv (N k)] [(.int ((N (2 * k + 2)) <<< ((1 : Int32) &&& 31))), (.ref t), (.ref a)]) ..
    rw [N_shl1]
    show Go (g := mkF m 32 #[rv a, iv (N (k + 1)), iv (N k)] [(.int (N (2 * (2 * k + 2)))), (.ref t), (.ref a)]) ..
    refine W.callS (X.w 250 rfl) (X.w 251 rfl) (X.w 133 rfl) (X.w 252 rfl) (by decide) (c_cpo X t _ (2 * k) (2 * (2 * k + 2)) _ _ W.ext V (by rw [encU_len]; omega) (by omega) (by omega)) (by decide) (Wd := 1) (by decide) [(.ref t), (.int (N (2 * (2 * k + 2))))] [(.ref a)] rfl pd_23 rfl rfl rfl (Nat.le_of_eq rfl) d38_32 (by decide) (by decide) ?_
    intro v T h vm W hQ C
    obtain ⟨b2, kb2, rfl, cBb2, hn_b2, Kb2, Vb2⟩ := hQ
    have ne_a_b2 : a ≠ b2 := Nat.ne_of_lt (Nat.lt_of_lt_of_le Aa.lt hn_b2)
    have ne_t_b2 : t ≠ b2 := Nat.ne_of_lt (Nat.lt_of_lt_of_le V.lt hn_b2)
    have sz_b2 : h0.size ≤ b2 := Nat.le_trans KP.1 hn_b2
    have gb2 : Z.heap.size ≤ b2 := Nat.le_trans hsz hn_b2
    replace FV := FV.keep Kb2 nin0
    replace FC := FC.keep Kb2 nin0
    replace FN := FN.keep Kb2 nin0
    replace FM := FM.keep Kb2 nin0
    replace V := V.keep Kb2 nin0
    replace KP := KP.otr0 Kb2
    replace Aa := Aa.keep Kb2
    replace hsz := W.size
    show Go (g := mkF m 35 #[rv a, iv (N (k + 1)), iv (N k)] [(.ref b2), (.ref a)]) ..
    refine W.putF (host := "") (Or.inl (X.w 59 rfl)) Via.refl FV Aa (Or.inl (X.w 60 rfl)) (X.w 36 rfl) (ty := (.array .byte)) (by decide) rfl rfl ga (Safe.exa W.hZ.alike Aa (by decide) (by decide)) d38_35 ?_
    intro T h W Wr3 FV'
    replace FM := FM.other Wr3 (Or.inr (slot_ne (Or.inl (X.w 231 rfl)) (Or.inl (X.w 60 rfl)) (by decide) (t := .boolean) (t' := (.array .byte)) (by decide) (by decide)))
    replace FC := FC.other Wr3 (Or.inr (slot_ne (Or.inl (X.w 62 rfl)) (Or.inl (X.w 60 rfl)) (by decide) (t := .byte) (t' := (.array .byte)) (by decide) (by decide)))
    replace FN := FN.other Wr3 (Or.inr (slot_ne (Or.inl (X.w 91 rfl)) (Or.inl (X.w 60 rfl)) (by decide) (t := .int) (t' := (.array .byte)) (by decide) (by decide)))
    replace V := V.keep (Keep.of_wr Wr3) (nin1 (Ne.symm (Exa.neArv Aa V (X.w 36 rfl))))
    replace KP := KP.otrM (Keep.of_wr Wr3) (by simp)
    replace Vb2 := Vb2.keep (Keep.of_wr Wr3) (nin1 (Ne.symm ne_a_b2))
    replace Aa := Aa.keep (Keep.of_wr Wr3)
    replace hsz := W.size
    replace FV := FV'
    exact W.retV d38_38 (⟨rfl, KP, b2, _, 2 * k + 2, Or.inr sz_b2, gb2, cBb2, by omega, by omega, FV, FC, FN, FM, Vb2⟩) (by decide) (by decide)
  · refine W.fy (pc' := 38) d38_14 ((if0 _ _).trans (flt hc1).2.2.2) (by decide) (by decide) ?_
    rw [N_sub_pos (by omega) (by omega)] at hc1
    exact W.retV d38_38 (⟨rfl, KP, t, kt, k, Or.inl rfl, gt, cB, hk, by omega, FV, FC, FN, FM, V⟩) (by decide) (by decide)

theorem efabl1 (m : MethodId) (x0 : Addr) : entryFrame m #[(.ref x0)] 1 = mkF m 0 #[.val (.ref x0)] [] := by first | (simp [entryFrame, mkF, argsToLocals, Value.category]; done) | rfl
set_option maxRecDepth 65536 in
set_option maxHeartbeats 40000000 in
theorem c_abl1 {l : Launch} {Z : State} {a0 : Array Value} {G1 : Int32} (X : Ctx Z a0 G1) (a : Addr) (h0 : Heap) (hE : Ext Z.heap h0) (FC : Fld Z h0 a "java/lang/AbstractStringBuilder" "coder" "B" (.int (1 : Int32))) :
    Con l Z consts_1 (⟨"java/lang/AbstractStringBuilder", "isLatin1", "()Z"⟩ : MethodName) jdk_68_method_68_code 1 (some .boolean) [] ({ frames := 0, cells := 0, slots := 0, locals := 0 } : Room) #[(.ref a)] h0 (fun v h => v = some (.int (0 : Int32)) ∧ h0 = h) := by
  refine Con.intro (plainFor_of_name pn_4) hE X.el ?_
  intro p e s m below meth c T W
  have hsz := W.size
  refine Go.cast (efabl1 m a) ?_
  refine W.getS (host := "") (Or.inl (X.w 58 rfl)) Via.refl X.2.1 d39_0 ?_
  intro T W
  refine W.fn d39_3 ((if0 _ _).trans (feq X.2.2.1).1) ?_
  refine W.an d39_6 rfl rfl ?_
  refine W.getF (host := "") (Or.inl (X.w 61 rfl)) Via.refl FC d39_7 ?_
  intro T W
  refine W.fy (pc' := 17) d39_10 ((if0 _ _).trans (feq (by decide : ¬ ((1 : Int32) = (0 : Int32)))).2) (by decide) (by decide) ?_
  refine W.ic d39_17 0 rfl ?_
  exact W.retN (by simp) d39_18 (⟨rfl, rfl⟩) (by decide) (by decide)

theorem efce1 (m : MethodId) (x0 : Int32) : entryFrame m #[(.int x0)] 1 = mkF m 0 #[.val (.int x0)] [] := by first | (simp [entryFrame, mkF, argsToLocals, Value.category]; done) | rfl
set_option maxRecDepth 65536 in
set_option maxHeartbeats 40000000 in
theorem c_ce1 {l : Launch} {Z : State} {a0 : Array Value} {G1 : Int32} (X : Ctx Z a0 G1) (c0 : Int32) (h0 : Heap) (hE : Ext Z.heap h0) (tc : Sm c0) :
    Con l Z consts_1 (⟨"java/lang/StringLatin1", "canEncode", "(C)Z"⟩ : MethodName) jdk_43_method_3_code 1 (some .boolean) [] ({ frames := 0, cells := 0, slots := 0, locals := 0 } : Room) #[(.int c0)] h0 (fun v h => v = some (.int (1 : Int32)) ∧ h0 = h) := by
  refine Con.intro (plainFor_of_name pn_3) hE X.el ?_
  intro p e s m below meth c T W
  have hsz := W.size
  refine Go.cast (efce1 m c0) ?_
  refine W.iN d40_0 rfl ?_
  refine W.sp d40_1 255 rfl ?_
  refine W.cn d40_4 (flt tc.2).2.2.1 ?_
  refine W.ic d40_7 1 rfl ?_
  refine W.gt (pc' := 12) d40_8 (by decide) (by decide) ?_
  exact W.retN (by simp) d40_12 (⟨rfl, rfl⟩) (by decide) (by decide)

theorem efce0 (m : MethodId) (x0 : Int32) : entryFrame m #[(.int x0)] 1 = mkF m 0 #[.val (.int x0)] [] := by first | (simp [entryFrame, mkF, argsToLocals, Value.category]; done) | rfl
set_option maxRecDepth 65536 in
set_option maxHeartbeats 40000000 in
theorem c_ce0 {l : Launch} {Z : State} {a0 : Array Value} {G1 : Int32} (X : Ctx Z a0 G1) (c0 : Int32) (h0 : Heap) (hE : Ext Z.heap h0) (tb : (255 : Int32) < c0) :
    Con l Z consts_1 (⟨"java/lang/StringLatin1", "canEncode", "(C)Z"⟩ : MethodName) jdk_43_method_3_code 1 (some .boolean) [] ({ frames := 0, cells := 0, slots := 0, locals := 0 } : Room) #[(.int c0)] h0 (fun v h => v = some (.int (0 : Int32)) ∧ h0 = h) := by
  refine Con.intro (plainFor_of_name pn_3) hE X.el ?_
  intro p e s m below meth c T W
  have hsz := W.size
  refine Go.cast (efce0 m c0) ?_
  refine W.iN d40_0 rfl ?_
  refine W.sp d40_1 255 rfl ?_
  refine W.cy (pc' := 11) d40_4 (tlt tb).2.2.1 (by decide) (by decide) ?_
  refine W.ic d40_11 0 rfl ?_
  exact W.retN (by simp) d40_12 (⟨rfl, rfl⟩) (by decide) (by decide)

theorem efpsb (m : MethodId) (x0 : Addr) (x1 : Int32) (x2 : Int32) : entryFrame m #[(.ref x0), (.int x1), (.int x2)] 3 = mkF m 0 #[.val (.ref x0), .val (.int x1), .val (.int x2)] [] := by first | (simp [entryFrame, mkF, argsToLocals, Value.category]; done) | rfl
set_option maxRecDepth 65536 in
set_option maxHeartbeats 40000000 in
theorem c_psb {l : Launch} {Z : State} {a0 : Array Value} {G1 : Int32} (X : Ctx Z a0 G1) (t : Addr) (kt : ClassId) (j k : Nat) (c0 : Int32) (vs : List Value) (sv : Value) (h0 : Heap) (hE : Ext Z.heap h0) (Y : U16 Z sv) (gt : Z.heap.size ≤ t) (V : Arv Z h0 t kt .byte (N (2 * k)) vs (.int (0 : Int32))) (hk : k ≤ 4000) (hj : j < k) (hl : 2 * j + 1 < vs.length) :
    Con l Z consts_1 (⟨"java/lang/StringUTF16", "putCharSB", "([BII)V"⟩ : MethodName) jdk_52_method_71_code 3 none [] ({ frames := 3, cells := 0, slots := 0, locals := 40 } : Room) #[(.ref t), (.int (N j)), (.int c0)] h0 (fun v h => v = none ∧ Keep h0 h [t] ∧ Arv Z h t kt .byte (N (2 * k)) (((vs.set (2 * j) (.int (eb0 c0))).set (2 * j + 1) (.int (eb1 c0)))) (.int (0 : Int32))) := by
  refine Con.intro (plainFor_of_name pn_2) hE X.el ?_
  intro p e s m below meth c T W
  have hsz := W.size
  refine Go.cast (efpsb m t (N j) c0) ?_
  refine W.iN d41_0 rfl ?_
  refine W.an d41_1 rfl rfl ?_
  refine W.callS (X.w 226 rfl) (X.w 227 rfl) (X.w 18 rfl) (X.w 228 rfl) (by decide) (c_uci X j k t _ _ sv _ W.ext Y V (by omega) (by omega)) (by decide) (Wd := 0) (by decide) [(.int (N j)), (.ref t)] [] rfl pd_4 rfl rfl rfl (Nat.le_of_eq rfl) d41_2 (by decide) (by decide) ?_
  intro v T h vm W hQ C
  obtain ⟨rfl, rfl⟩ := hQ
  show Go (g := mkF m 5 #[rv t, iv (N j), iv c0] []) ..
  refine W.an d41_5 rfl rfl ?_
  refine W.iN d41_6 rfl ?_
  refine W.iN d41_7 rfl ?_
  refine W.callS (X.w 184 rfl) (X.w 185 rfl) (X.w 18 rfl) (X.w 186 rfl) (by decide) (c_puc X t _ j k c0 _ sv _ W.ext Y gt V hk hj hl) (by decide) (Wd := 0) (by decide) [(.ref t), (.int (N j)), (.int c0)] [] rfl pd_10 rfl rfl rfl (Nat.le_of_eq rfl) d41_8 (by decide) (by decide) ?_
  intro v T h vm W hQ C
  obtain ⟨rfl, hK, hV⟩ := hQ
  show Go (g := mkF m 11 #[rv t, iv (N j), iv c0] []) ..
  exact W.retV d41_11 (⟨rfl, hK, hV⟩) (by decide) (by decide)

theorem efuif (m : MethodId) (x0 : Addr) (x1 : Int32) (x2 : Addr) (x3 : Int32) (x4 : Int32) : entryFrame m #[(.ref x0), (.int x1), (.ref x2), (.int x3), (.int x4)] 6 = mkF m 0 #[.val (.ref x0), .val (.int x1), .val (.ref x2), .val (.int x3), .val (.int x4), .unset] [] := by first | (simp [entryFrame, mkF, argsToLocals, Value.category]; done) | rfl
set_option maxRecDepth 65536 in
set_option maxHeartbeats 40000000 in
theorem c_uif {l : Launch} {Z : State} {a0 : Array Value} {G1 : Int32} (X : Ctx Z a0 G1) (t d : Addr) (kt kd : ClassId) (k : Nat) (cs : List Int32) (sv : Value) (h0 : Heap) (hE : Ext Z.heap h0) (Y : U16 Z sv) (gd : Z.heap.size ≤ d) (Vt : Arv Z h0 t kt .byte (N k) (encL cs) (.int (0 : Int32))) (Vd : Arv Z h0 d kd .byte (N (2 * k)) [] (.int (0 : Int32))) (ne : t ≠ d) (hk : k ≤ 8) (hj : cs.length ≤ k) (hp : ∀ c ∈ cs, Sm c) :
    Con l Z consts_1 (⟨"java/lang/StringUTF16", "inflate", "([BI[BII)V"⟩ : MethodName) jdk_52_method_86_code 6 none [] ({ frames := 3, cells := 0, slots := 0, locals := 43 } : Room) #[(.ref t), (.int (0 : Int32)), (.ref d), (.int (0 : Int32)), (.int (N cs.length))] h0 (fun v h => v = none ∧ Keep h0 h [d] ∧ Arv Z h d kd .byte (N (2 * k)) (encU cs) (.int (0 : Int32))) := by
  refine Con.intro (plainFor_of_name pn_2) hE X.el ?_
  intro p e s m below meth c T W
  have hsz := W.size
  refine Go.cast (efuif m t (0 : Int32) d (0 : Int32) (N cs.length)) ?_
  have KP := Keep.refl h0 [d]
  refine W.iN d42_0 rfl ?_
  refine W.il d42_1 rfl ?_
  refine W.an d42_3 rfl rfl ?_
  refine W.callS (X.w 199 rfl) (X.w 200 rfl) (X.w 18 rfl) (X.w 201 rfl) (by decide) (c_boc X cs.length k d _ _ sv _ W.ext Y Vd (by omega) (by omega)) (by decide) (Wd := 0) (by decide) [(.int (0 : Int32)), (.int (N cs.length)), (.ref d)] [] rfl pd_17 rfl rfl rfl (Nat.le_of_eq rfl) d42_4 (by decide) (by decide) ?_
  intro v T h vm W hQ C
  obtain ⟨rfl, rfl⟩ := hQ
  show Go (g := mkF m 7 #[rv t, iv 0, rv d, iv 0, iv (N cs.length), .unset] []) ..
  refine W.ic d42_7 0 rfl ?_
  refine W.iss (Ls' := #[rv t, iv 0, rv d, iv 0, iv (N cs.length), iv 0]) d42_8 rfl ?_
  have J10 : ∀ (r i : Nat), i + r = cs.length → ∀ (T : State) (h : Heap) (vm : Vm), Wk p l e ({ frames := 3, cells := 0, slots := 0, locals := 43 } : Room) s m #[(.ref t), (.int (0 : Int32)), (.ref d), (.int (0 : Int32)), (.int (N cs.length))] below meth c Z a0 consts_1 (⟨"java/lang/StringUTF16", "inflate", "([BI[BII)V"⟩ : MethodName) jdk_52_method_86_code 6 none T h vm 0 0 → Keep h0 h [d] → Arv Z h t kt .byte (N k) (encL cs) (.int (0 : Int32)) → Arv Z h d kd .byte (N (2 * k)) (encU (cs.take i)) (.int (0 : Int32)) → Go p e below s Z consts_1 ({ frames := 3, cells := 0, slots := 0, locals := 43 } : Room).cells ({ frames := 3, cells := 0, slots := 0, locals := 43 } : Room).slots (fun v h => v = none ∧ Keep h0 h [d] ∧ Arv Z h d kd .byte (N (2 * k)) (encU cs) (.int (0 : Int32))) T (mkF m 10 #[rv t, iv (N i), rv d, iv (N i), iv (N cs.length), iv (N i)] []) := by
    intro r
    induction r with
    | zero =>
      intro i hi T h vm W KP Vt Vd
      have hsz := W.size
      refine W.il d42_10 rfl ?_
      refine W.il d42_12 rfl ?_
      refine W.cy (pc' := 41) d42_14 (flt (fun z => absurd ((N_lt (by omega) (by omega)).mp z) (by omega))).2.1 (by decide) (by decide) ?_
      have e_ : cs.take i = cs := List.take_of_length_le (by omega)
      rw [e_] at Vd
      exact W.retV d42_41 (⟨rfl, KP, Vd⟩) (by decide) (by decide)
    | succ r ih =>
      intro i hi T h vm W KP Vt Vd
      have hsz := W.size
      refine W.il d42_10 rfl ?_
      refine W.il d42_12 rfl ?_
      refine W.cn d42_14 (tlt ((N_lt (by omega) (by omega)).mpr (by omega))).2.1 ?_
      refine W.an d42_17 rfl rfl ?_
      refine W.iN d42_18 rfl ?_
      refine W.ii (Ls' := #[rv t, iv (N i), rv d, iv ((N i) + (1 : Int32)), iv (N cs.length), iv (N i)]) d42_19 rfl rfl ?_
      refine W.an d42_22 rfl rfl ?_
      refine W.iN d42_23 rfl ?_
      refine W.ii (Ls' := #[rv t, iv ((N i) + (1 : Int32)), rv d, iv ((N i) + (1 : Int32)), iv (N cs.length), iv (N i)]) d42_24 rfl rfl ?_
      refine W.baload (v := .int (cs.getD i 0).toInt8.toInt32) Vt ⟨N_nn (by omega), (N_lt (by omega) (by omega)).mpr (by omega)⟩ (by rw [N_nat (by omega)]; exact encL_at cs i (by omega) _) d42_27 ?_
      show Go (g := mkF m 28 #[rv t, iv ((N i) + (1 : Int32)), rv d, iv ((N i) + (1 : Int32)), iv (N cs.length), iv (N i)] [(.int (cs.getD i 0).toInt8.toInt32), (.int (N i)), (.ref d)]) ..
      refine W.sp d42_28 255 rfl ?_
      refine Go.step (fun _ kz => XS.iand W.here W.hx rfl (W.d d42_31) rfl kz) ?_
      show Go (g := mkF m 32 #[rv t, iv ((N i) + (1 : Int32)), rv d, iv ((N i) + (1 : Int32)), iv (N cs.length), iv (N i)] [(.int ((cs.getD i 0).toInt8.toInt32 &&& (255 : Int32))), (.int (N i)), (.ref d)]) ..
      rw [Jvm.Own.low_back (getD_all (P := Sm) hp (by omega))]
      show Go (g := mkF m 32 #[rv t, iv ((N i) + (1 : Int32)), rv d, iv ((N i) + (1 : Int32)), iv (N cs.length), iv (N i)] [(.int (cs.getD i 0)), (.int (N i)), (.ref d)]) ..
      have V2 := Vd.pad (pad_rep (encU (cs.take i)) (.int (0 : Int32)) 2)
      have e_ : (cs.take i).length = i := by rw [List.length_take]; omega
      refine W.callS (X.w 184 rfl) (X.w 185 rfl) (X.w 18 rfl) (X.w 186 rfl) (by decide) (c_puc X d _ i k (cs.getD i 0) _ sv _ W.ext Y gd V2 (by omega) (by omega) (by rw [List.length_append, encU_len, e_, List.length_replicate]; omega)) (by decide) (Wd := 0) (by decide) [(.ref d), (.int (N i)), (.int (cs.getD i 0))] [] rfl pd_10 rfl rfl rfl (Nat.le_of_eq rfl) d42_32 (by decide) (by decide) ?_
      intro v T h vm W hQ C
      obtain ⟨rfl, K1, V3⟩ := hQ
      replace KP := KP.otrM K1 (by simp)
      replace Vt := Vt.keep K1 (nin1 ne)
      replace hsz := W.size
      have e2 := set_snocU (cs.take i) (cs.getD i 0) (.int (0 : Int32))
      rw [e_, take_snoc cs i (by omega)] at e2
      rw [e2] at V3
      replace Vd := V3
      show Go (g := mkF m 35 #[rv t, iv ((N i) + (1 : Int32)), rv d, iv ((N i) + (1 : Int32)), iv (N cs.length), iv (N i)] []) ..
      refine W.ii (Ls' := #[rv t, iv ((N i) + (1 : Int32)), rv d, iv ((N i) + (1 : Int32)), iv (N cs.length), iv ((N i) + (1 : Int32))]) d42_35 rfl rfl ?_
      refine W.gt (pc' := 10) d42_38 (by decide) (by decide) ?_
      rw [N_add1]
      exact ih (i + 1) (by omega) _ _ _ W KP Vt Vd
  exact J10 cs.length 0 (by omega) _ _ _ W KP Vt (by rw [List.take_zero]; exact Vd)

theorem eflif (m : MethodId) (x0 : Addr) (x1 : Int32) (x2 : Addr) (x3 : Int32) (x4 : Int32) : entryFrame m #[(.ref x0), (.int x1), (.ref x2), (.int x3), (.int x4)] 5 = mkF m 0 #[.val (.ref x0), .val (.int x1), .val (.ref x2), .val (.int x3), .val (.int x4)] [] := by first | (simp [entryFrame, mkF, argsToLocals, Value.category]; done) | rfl
set_option maxRecDepth 65536 in
set_option maxHeartbeats 40000000 in
theorem c_lif {l : Launch} {Z : State} {a0 : Array Value} {G1 : Int32} (X : Ctx Z a0 G1) (t d : Addr) (kt kd : ClassId) (k : Nat) (cs : List Int32) (sv : Value) (h0 : Heap) (hE : Ext Z.heap h0) (Y : U16 Z sv) (gd : Z.heap.size ≤ d) (Vt : Arv Z h0 t kt .byte (N k) (encL cs) (.int (0 : Int32))) (Vd : Arv Z h0 d kd .byte (N (2 * k)) [] (.int (0 : Int32))) (ne : t ≠ d) (hk : k ≤ 8) (hj : cs.length ≤ k) (hp : ∀ c ∈ cs, Sm c) :
    Con l Z consts_1 (⟨"java/lang/StringLatin1", "inflate", "([BI[BII)V"⟩ : MethodName) jdk_43_method_50_code 5 none [] ({ frames := 4, cells := 0, slots := 0, locals := 60 } : Room) #[(.ref t), (.int (0 : Int32)), (.ref d), (.int (0 : Int32)), (.int (N cs.length))] h0 (fun v h => v = none ∧ Keep h0 h [d] ∧ Arv Z h d kd .byte (N (2 * k)) (encU cs) (.int (0 : Int32))) := by
  refine Con.intro (plainFor_of_name pn_3) hE X.el ?_
  intro p e s m below meth c T W
  have hsz := W.size
  refine Go.cast (eflif m t (0 : Int32) d (0 : Int32) (N cs.length)) ?_
  refine W.an d43_0 rfl rfl ?_
  refine W.iN d43_1 rfl ?_
  refine W.an d43_2 rfl rfl ?_
  refine W.iN d43_3 rfl ?_
  refine W.il d43_4 rfl ?_
  refine W.callS (X.w 220 rfl) (X.w 221 rfl) (X.w 18 rfl) (X.w 222 rfl) (by decide) (c_uif X t d _ _ k cs sv _ W.ext Y gd Vt Vd ne hk hj hp) (by decide) (Wd := 0) (by decide) [(.ref t), (.int (0 : Int32)), (.ref d), (.int (0 : Int32)), (.int (N cs.length))] [] rfl pd_24 rfl rfl rfl (Nat.le_of_eq rfl) d43_6 (by decide) (by decide) ?_
  intro v T h vm W hQ C
  obtain ⟨rfl, hK, hV⟩ := hQ
  show Go (g := mkF m 9 #[rv t, iv 0, rv d, iv 0, iv (N cs.length)] []) ..
  exact W.retV d43_9 (⟨rfl, hK, hV⟩) (by decide) (by decide)

theorem efinf (m : MethodId) (x0 : Addr) : entryFrame m #[(.ref x0)] 2 = mkF m 0 #[.val (.ref x0), .unset] [] := by first | (simp [entryFrame, mkF, argsToLocals, Value.category]; done) | rfl
set_option maxRecDepth 65536 in
set_option maxHeartbeats 40000000 in
theorem c_inf {l : Launch} {Z : State} {a0 : Array Value} {G1 : Int32} (X : Ctx Z a0 G1) (a t : Addr) (kt : ClassId) (k : Nat) (cs : List Int32) (sv : Value) (h0 : Heap) (hE : Ext Z.heap h0) (Y : U16 Z sv) (ga : Z.heap.size ≤ a) (Aa : Exa Z h0 a "java/lang/StringBuilder") (FV : Fld Z h0 a "java/lang/AbstractStringBuilder" "value" "[B" (.ref t)) (FC : Fld Z h0 a "java/lang/AbstractStringBuilder" "coder" "B" (.int (0 : Int32))) (FN : Fld Z h0 a "java/lang/AbstractStringBuilder" "count" "I" (.int (N cs.length))) (FM : Fld Z h0 a "java/lang/AbstractStringBuilder" "maybeLatin1" "Z" (.int (0 : Int32))) (V : Arv Z h0 t kt .byte (N k) (encL cs) (.int (0 : Int32))) (hk8 : k ≤ 8) (hj : cs.length ≤ k) (hp : ∀ c ∈ cs, Sm c) :
    Con l Z consts_1 (⟨"java/lang/AbstractStringBuilder", "inflate", "()V"⟩ : MethodName) jdk_68_method_11_code 2 none [] ({ frames := 5, cells := 1, slots := 20, locals := 76 } : Room) #[(.ref a)] h0 (fun v h => v = none ∧ Keep h0 h [a] ∧ ∃ (t1 : Addr) (kt1 : ClassId), h0.size ≤ t1 ∧ Z.vm.findClass "[B" = some kt1 ∧ Fld Z h a "java/lang/AbstractStringBuilder" "value" "[B" (.ref t1) ∧ Fld Z h a "java/lang/AbstractStringBuilder" "coder" "B" (.int (1 : Int32)) ∧ Fld Z h a "java/lang/AbstractStringBuilder" "count" "I" (.int (N cs.length)) ∧ Fld Z h a "java/lang/AbstractStringBuilder" "maybeLatin1" "Z" (.int (0 : Int32)) ∧ Arv Z h t1 kt1 .byte (N (2 * k)) (encU cs) (.int (0 : Int32))) := by
  refine Con.intro (plainFor_of_name pn_4) hE X.el ?_
  intro p e s m below meth c T W
  have hsz := W.size
  refine Go.cast (efinf m a) ?_
  have KP := Keep.refl h0 [a]
  refine W.an d44_0 rfl rfl ?_
  refine W.virtual (X.w 97 rfl) (X.w 98 rfl) (notFace_of_selects (args := #[]) (mvT W.hZ (X.w 100 rfl))) (X.w 100 rfl) (X.w 99 rfl) (X.w 55 rfl) (X.w 101 rfl) (by decide) (c_abl0 X a _ W.ext FC) (by decide) (Wd := 0) (by decide) a Aa [] [] rfl pd_7 rfl rfl rfl (Nat.le_of_eq rfl) d44_1 (by decide) (by decide) ?_
  intro v T h vm W hQ C
  obtain ⟨rfl, rfl⟩ := hQ
  show Go (g := mkF m 4 #[rv a, .unset] [(.int 1)]) ..
  refine W.fy (pc' := 8) d44_4 ((if0 _ _).trans (feq (by decide : ¬ ((1 : Int32) = (0 : Int32)))).2) (by decide) (by decide) ?_
  refine W.an d44_8 rfl rfl ?_
  refine W.getF (host := "") (Or.inl (X.w 59 rfl)) Via.refl FV d44_9 ?_
  intro T W
  refine W.arraylength V d44_12 ?_
  refine W.callS (X.w 216 rfl) (X.w 178 rfl) (X.w 18 rfl) (X.w 179 rfl) (by decide) (c_nbf X k _ W.ext (by omega)) (by decide) (Wd := 0) (by decide) [(.int (N k))] [] rfl pd_9 rfl rfl rfl (Nat.le_of_eq rfl) d44_13 (by decide) (by decide) ?_
  intro v T h vm W hQ C
  obtain ⟨b1, kb1, cBb1, rfl, hn_b1, Kb1, Vb1⟩ := hQ
  have ne_a_b1 : a ≠ b1 := Nat.ne_of_lt (Nat.lt_of_lt_of_le Aa.lt hn_b1)
  have ne_t_b1 : t ≠ b1 := Nat.ne_of_lt (Nat.lt_of_lt_of_le V.lt hn_b1)
  have sz_b1 : h0.size ≤ b1 := Nat.le_trans KP.1 hn_b1
  have gb1 : Z.heap.size ≤ b1 := Nat.le_trans hsz hn_b1
  replace FV := FV.keep Kb1 nin0
  replace FC := FC.keep Kb1 nin0
  replace FN := FN.keep Kb1 nin0
  replace FM := FM.keep Kb1 nin0
  replace V := V.keep Kb1 nin0
  replace KP := KP.otr0 Kb1
  replace Aa := Aa.keep Kb1
  replace hsz := W.size
  show Go (g := mkF m 16 #[rv a, .unset] [(.ref b1)]) ..
  refine W.asn (Ls' := #[rv a, rv b1]) d44_16 rfl rfl ?_
  refine W.an d44_17 rfl rfl ?_
  refine W.getF (host := "") (Or.inl (X.w 59 rfl)) Via.refl FV d44_18 ?_
  intro T W
  refine W.ic d44_21 0 rfl ?_
  refine W.an d44_22 rfl rfl ?_
  refine W.ic d44_23 0 rfl ?_
  refine W.an d44_24 rfl rfl ?_
  refine W.getF (host := "") (Or.inl (X.w 90 rfl)) Via.refl FN d44_25 ?_
  intro T W
  refine W.callS (X.w 217 rfl) (X.w 218 rfl) (X.w 75 rfl) (X.w 219 rfl) (by decide) (c_lif X t b1 _ _ k cs sv _ W.ext Y gb1 V Vb1 ne_t_b1 hk8 hj hp) (by decide) (Wd := 0) (by decide) [(.ref t), (.int (0 : Int32)), (.ref b1), (.int (0 : Int32)), (.int (N cs.length))] [] rfl pd_24 rfl rfl rfl (Nat.le_of_eq rfl) d44_28 (by decide) (by decide) ?_
  intro v T h vm W hQ C
  obtain ⟨rfl, K2, Vb1'⟩ := hQ
  replace FV := FV.keep K2 (nin1 ne_a_b1)
  replace FC := FC.keep K2 (nin1 ne_a_b1)
  replace FN := FN.keep K2 (nin1 ne_a_b1)
  replace FM := FM.keep K2 (nin1 ne_a_b1)
  replace V := V.keep K2 (nin1 ne_t_b1)
  replace KP := KP.otrN K2 sz_b1
  replace Aa := Aa.keep K2
  replace hsz := W.size
  replace Vb1 := Vb1'
  show Go (g := mkF m 31 #[rv a, rv b1] []) ..
  refine W.an d44_31 rfl rfl ?_
  refine W.an d44_32 rfl rfl ?_
  refine W.putF (host := "") (Or.inl (X.w 59 rfl)) Via.refl FV Aa (Or.inl (X.w 60 rfl)) (X.w 36 rfl) (ty := (.array .byte)) (by decide) rfl rfl ga (Safe.exa W.hZ.alike Aa (by decide) (by decide)) d44_33 ?_
  intro T h W Wr3 FV'
  replace FM := FM.other Wr3 (Or.inr (slot_ne (Or.inl (X.w 231 rfl)) (Or.inl (X.w 60 rfl)) (by decide) (t := .boolean) (t' := (.array .byte)) (by decide) (by decide)))
  replace FC := FC.other Wr3 (Or.inr (slot_ne (Or.inl (X.w 62 rfl)) (Or.inl (X.w 60 rfl)) (by decide) (t := .byte) (t' := (.array .byte)) (by decide) (by decide)))
  replace FN := FN.other Wr3 (Or.inr (slot_ne (Or.inl (X.w 91 rfl)) (Or.inl (X.w 60 rfl)) (by decide) (t := .int) (t' := (.array .byte)) (by decide) (by decide)))
  replace V := V.keep (Keep.of_wr Wr3) (nin1 (Ne.symm (Exa.neArv Aa V (X.w 36 rfl))))
  replace KP := KP.otrM (Keep.of_wr Wr3) (by simp)
  replace Vb1 := Vb1.keep (Keep.of_wr Wr3) (nin1 (Ne.symm ne_a_b1))
  replace Aa := Aa.keep (Keep.of_wr Wr3)
  replace hsz := W.size
  replace FV := FV'
  refine W.an d44_36 rfl rfl ?_
  refine W.ic d44_37 1 rfl ?_
  refine W.putF (host := "") (Or.inl (X.w 61 rfl)) Via.refl FC Aa (Or.inl (X.w 62 rfl)) (X.w 36 rfl) (ty := .byte) (by decide) (by decide) (by decide) ga (Safe.exa W.hZ.alike Aa (by decide) (by decide)) d44_38 ?_
  intro T h W Wr4 FC'
  replace FM := FM.other Wr4 (Or.inr (slot_ne (Or.inl (X.w 231 rfl)) (Or.inl (X.w 62 rfl)) (by decide) (t := .boolean) (t' := .byte) (by decide) (by decide)))
  replace FV := FV.other Wr4 (Or.inr (slot_ne (Or.inl (X.w 60 rfl)) (Or.inl (X.w 62 rfl)) (by decide) (t := (.array .byte)) (t' := .byte) (by decide) (by decide)))
  replace FN := FN.other Wr4 (Or.inr (slot_ne (Or.inl (X.w 91 rfl)) (Or.inl (X.w 62 rfl)) (by decide) (t := .int) (t' := .byte) (by decide) (by decide)))
  replace V := V.keep (Keep.of_wr Wr4) (nin1 (Ne.symm (Exa.neArv Aa V (X.w 36 rfl))))
  replace KP := KP.otrM (Keep.of_wr Wr4) (by simp)
  replace Vb1 := Vb1.keep (Keep.of_wr Wr4) (nin1 (Ne.symm ne_a_b1))
  replace Aa := Aa.keep (Keep.of_wr Wr4)
  replace hsz := W.size
  replace FC := FC'
  exact W.retV d44_41 (⟨rfl, KP, b1, _, sz_b1, cBb1, FV, FC, FN, FM, Vb1⟩) (by decide) (by decide)

theorem efapl (m : MethodId) (x0 : Addr) (x1 : Int32) : entryFrame m #[(.ref x0), (.int x1)] 2 = mkF m 0 #[.val (.ref x0), .val (.int x1)] [] := by first | (simp [entryFrame, mkF, argsToLocals, Value.category]; done) | rfl
set_option maxRecDepth 65536 in
set_option maxHeartbeats 40000000 in
theorem c_apl {l : Launch} {Z : State} {a0 : Array Value} {G1 : Int32} (X : Ctx Z a0 G1) (a t : Addr) (kt : ClassId) (k n : Nat) (cs : List Int32) (c0 : Int32) (sv : Value) (h0 : Heap) (hE : Ext Z.heap h0) (Y : U16 Z sv) (ga : Z.heap.size ≤ a) (Aa : Exa Z h0 a "java/lang/StringBuilder") (FV : Fld Z h0 a "java/lang/AbstractStringBuilder" "value" "[B" (.ref t)) (FC : Fld Z h0 a "java/lang/AbstractStringBuilder" "coder" "B" (.int (0 : Int32))) (FN : Fld Z h0 a "java/lang/AbstractStringBuilder" "count" "I" (.int (N cs.length))) (FM : Fld Z h0 a "java/lang/AbstractStringBuilder" "maybeLatin1" "Z" (.int (0 : Int32))) (gt : Z.heap.size ≤ t) (cB : Z.vm.findClass "[B" = some kt) (V : Arv Z h0 t kt .byte (N k) (encL cs) (.int (0 : Int32))) (hk : k = n ∨ k = 2 * n + 2) (hn : n ≤ 3) (hj : cs.length ≤ k) (hj2 : cs.length + 1 ≤ 2 * n + 2) (hp : ∀ c ∈ cs, Sm c) (tc : Sm c0) :
    Con l Z consts_1 (⟨"java/lang/AbstractStringBuilder", "append", "(C)Ljava/lang/AbstractStringBuilder;"⟩ : MethodName) jdk_68_method_31_code 2 (some (.object "java/lang/AbstractStringBuilder")) [] ({ frames := 4, cells := 1, slots := 16, locals := 74 } : Room) #[(.ref a), (.int c0)] h0 (fun v h => v = some (.ref a) ∧ Keep h0 h [a, t] ∧ ∃ (t1 : Addr) (kt1 : ClassId) (k1 : Nat), (t1 = t ∨ h0.size ≤ t1) ∧ Bt Z h a t1 kt1 k1 n (cs ++ [c0])) := by
  refine Con.intro (plainFor_of_name pn_4) hE X.el ?_
  intro p e s m below meth c T W
  have hsz := W.size
  refine Go.cast (efapl m a c0) ?_
  have KP := Keep.refl h0 [a, t]
  refine W.an d45_0 rfl rfl ?_
  refine W.an d45_1 rfl rfl ?_
  refine W.getF (host := "") (Or.inl (X.w 90 rfl)) Via.refl FN d45_2 ?_
  intro T W
  refine W.ic d45_5 1 rfl ?_
  refine Go.step (fun _ kz => XS.iadd W.here W.hx rfl (W.d d45_6) rfl kz) ?_
  show Go (g := mkF m 7 #[rv a, iv c0] [(.int ((N cs.length) + (1 : Int32))), (.ref a)]) ..
  rw [N_add1]
  show Go (g := mkF m 7 #[rv a, iv c0] [(.int (N (cs.length + 1))), (.ref a)]) ..
  refine W.privat (X.w 92 rfl) (X.w 93 rfl) (priv_sel (X.w 95 rfl) (X.w 93 rfl) (X.w 94 rfl) (by decide)) (X.w 94 rfl) (X.w 55 rfl) (X.w 96 rfl) (by decide) (c_eci0 X a t _ k n cs _ W.ext ga Aa FV FC FN FM gt cB V hk hn hj hj2) (by decide) (Wd := 0) (by decide) a Aa [(.int (N (cs.length + 1)))] [] rfl pd_20 rfl rfl rfl (Nat.le_of_eq rfl) d45_7 (by decide) (by decide) ?_
  intro v T h vm W hQ C
  obtain ⟨rfl, K1, t1, kt1, k1, so1, gt1, cB1, hk1, hj1, FV', FC', FN', FM', V1⟩ := hQ
  replace KP := KP.otrM K1 (by simp)
  replace Aa := Aa.keep K1
  replace hsz := W.size
  replace FV := FV'
  replace FC := FC'
  replace FN := FN'
  replace FM := FM'
  have so_t1 : t1 ∈ [a, t] ∨ h0.size ≤ t1 := so1.imp (fun q => by rw [q]; simp) id
  show Go (g := mkF m 10 #[rv a, iv c0] []) ..
  refine W.an d45_10 rfl rfl ?_
  refine W.virtual (X.w 97 rfl) (X.w 98 rfl) (notFace_of_selects (args := #[]) (mvT W.hZ (X.w 100 rfl))) (X.w 100 rfl) (X.w 99 rfl) (X.w 55 rfl) (X.w 101 rfl) (by decide) (c_abl0 X a _ W.ext FC) (by decide) (Wd := 0) (by decide) a Aa [] [] rfl pd_7 rfl rfl rfl (Nat.le_of_eq rfl) d45_11 (by decide) (by decide) ?_
  intro v T h vm W hQ C
  obtain ⟨rfl, rfl⟩ := hQ
  show Go (g := mkF m 14 #[rv a, iv c0] [(.int 1)]) ..
  refine W.fn d45_14 ((if0 _ _).trans (feq (by decide : ¬ ((1 : Int32) = (0 : Int32)))).1) ?_
  refine W.iN d45_17 rfl ?_
  refine W.callS (X.w 102 rfl) (X.w 103 rfl) (X.w 75 rfl) (X.w 104 rfl) (by decide) (c_ce1 X c0 _ W.ext tc) (by decide) (Wd := 0) (by decide) [(.int c0)] [] rfl pd_25 rfl rfl rfl (Nat.le_of_eq rfl) d45_18 (by decide) (by decide) ?_
  intro v T h vm W hQ C
  obtain ⟨rfl, rfl⟩ := hQ
  show Go (g := mkF m 21 #[rv a, iv c0] [(.int 1)]) ..
  refine W.fn d45_21 ((if0 _ _).trans (feq (by decide : ¬ ((1 : Int32) = (0 : Int32)))).1) ?_
  refine W.an d45_24 rfl rfl ?_
  refine W.getF (host := "") (Or.inl (X.w 59 rfl)) Via.refl FV d45_25 ?_
  intro T W
  refine W.an d45_28 rfl rfl ?_
  refine W.dp d45_29 rfl ?_
  refine W.getF (host := "") (Or.inl (X.w 90 rfl)) Via.refl FN d45_30 ?_
  intro T W
  refine Go.step (fun _ kz => XS.dupX1 W.here W.hx rfl (W.d d45_33) rfl rfl rfl kz) ?_
  show Go (g := mkF m 34 #[rv a, iv c0] [(.int (N cs.length)), (.ref a), (.int (N cs.length)), (.ref t1)]) ..
  refine W.ic d45_34 1 rfl ?_
  refine Go.step (fun _ kz => XS.iadd W.here W.hx rfl (W.d d45_35) rfl kz) ?_
  show Go (g := mkF m 36 #[rv a, iv c0] [(.int ((N cs.length) + (1 : Int32))), (.ref a), (.int (N cs.length)), (.ref t1)]) ..
  rw [N_add1]
  show Go (g := mkF m 36 #[rv a, iv c0] [(.int (N (cs.length + 1))), (.ref a), (.int (N cs.length)), (.ref t1)]) ..
  refine W.putF (host := "") (Or.inl (X.w 90 rfl)) Via.refl FN Aa (Or.inl (X.w 91 rfl)) (X.w 36 rfl) (ty := .int) (by decide) rfl rfl ga (Safe.exa W.hZ.alike Aa (by decide) (by decide)) d45_36 ?_
  intro T h W Wr1 FN'
  replace FM := FM.other Wr1 (Or.inr (slot_ne (Or.inl (X.w 231 rfl)) (Or.inl (X.w 91 rfl)) (by decide) (t := .boolean) (t' := .int) (by decide) (by decide)))
  replace FC := FC.other Wr1 (Or.inr (slot_ne (Or.inl (X.w 62 rfl)) (Or.inl (X.w 91 rfl)) (by decide) (t := .byte) (t' := .int) (by decide) (by decide)))
  replace FV := FV.other Wr1 (Or.inr (slot_ne (Or.inl (X.w 60 rfl)) (Or.inl (X.w 91 rfl)) (by decide) (t := (.array .byte)) (t' := .int) (by decide) (by decide)))
  replace KP := KP.otrM (Keep.of_wr Wr1) (by simp)
  replace V1 := V1.keep (Keep.of_wr Wr1) (nin1 (Ne.symm (Exa.neArv Aa V1 (X.w 36 rfl))))
  replace Aa := Aa.keep (Keep.of_wr Wr1)
  replace hsz := W.size
  replace FN := FN'
  refine W.iN d45_39 rfl ?_
  refine Go.step (fun _ kz => XS.i2b W.here W.hx rfl (W.d d45_40) rfl kz) ?_
  show Go (g := mkF m 41 #[rv a, iv c0] [(.int (c0.toInt8.toInt32)), (.int (N cs.length)), (.ref t1)]) ..
  have V2 := V1.pad (pad_rep (encL cs) (.int (0 : Int32)) 1)
  have hz1 : 0 ≠ (N k1).toNatClampNeg := by rw [N_nat (by omega)]; omega
  refine W.bastore V2 cs.length (N_nat (by omega)) (by simp [encL]) ⟨N_nn (by omega), (N_lt (by omega) (by omega)).mpr (by omega)⟩ gt1 (Safe.byt W.hZ (X.sb hz1) V2) d45_41 ?_
  intro T h W K2 V3
  replace FV := FV.keep K2 (nin1 (Exa.neArv Aa V1 (X.w 36 rfl)))
  replace FC := FC.keep K2 (nin1 (Exa.neArv Aa V1 (X.w 36 rfl)))
  replace FN := FN.keep K2 (nin1 (Exa.neArv Aa V1 (X.w 36 rfl)))
  replace FM := FM.keep K2 (nin1 (Exa.neArv Aa V1 (X.w 36 rfl)))
  replace KP := KP.otrE K2 so_t1
  replace Aa := Aa.keep K2
  replace hsz := W.size
  rw [nar_i8, set_snocL] at V3
  replace V1 := V3
  refine W.gt (pc' := 75) d45_42 (by decide) (by decide) ?_
  refine W.an d45_75 rfl rfl ?_
  rw [← len_snoc cs c0] at FN
  exact W.retR rfl rfl rfl d45_76 (⟨rfl, KP, t1, kt1, k1, so1, cB1, hk1, by rw [len_snoc]; omega, FV, FN, FM, Or.inl ⟨FC, V1, all_snoc hp tc⟩⟩) (by decide) (by decide)

theorem efapi (m : MethodId) (x0 : Addr) (x1 : Int32) : entryFrame m #[(.ref x0), (.int x1)] 2 = mkF m 0 #[.val (.ref x0), .val (.int x1)] [] := by first | (simp [entryFrame, mkF, argsToLocals, Value.category]; done) | rfl
set_option maxRecDepth 65536 in
set_option maxHeartbeats 40000000 in
theorem c_api {l : Launch} {Z : State} {a0 : Array Value} {G1 : Int32} (X : Ctx Z a0 G1) (a t : Addr) (kt : ClassId) (k n : Nat) (cs : List Int32) (c0 : Int32) (sv : Value) (h0 : Heap) (hE : Ext Z.heap h0) (Y : U16 Z sv) (ga : Z.heap.size ≤ a) (Aa : Exa Z h0 a "java/lang/StringBuilder") (FV : Fld Z h0 a "java/lang/AbstractStringBuilder" "value" "[B" (.ref t)) (FC : Fld Z h0 a "java/lang/AbstractStringBuilder" "coder" "B" (.int (0 : Int32))) (FN : Fld Z h0 a "java/lang/AbstractStringBuilder" "count" "I" (.int (N cs.length))) (FM : Fld Z h0 a "java/lang/AbstractStringBuilder" "maybeLatin1" "Z" (.int (0 : Int32))) (gt : Z.heap.size ≤ t) (cB : Z.vm.findClass "[B" = some kt) (V : Arv Z h0 t kt .byte (N k) (encL cs) (.int (0 : Int32))) (hk : k = n ∨ k = 2 * n + 2) (hn : n ≤ 3) (hj : cs.length ≤ k) (hj2 : cs.length + 1 ≤ 2 * n + 2) (hp : ∀ c ∈ cs, Sm c) (tc : Ch c0) (tb : (255 : Int32) < c0) :
    Con l Z consts_1 (⟨"java/lang/AbstractStringBuilder", "append", "(C)Ljava/lang/AbstractStringBuilder;"⟩ : MethodName) jdk_68_method_31_code 2 (some (.object "java/lang/AbstractStringBuilder")) [] ({ frames := 6, cells := 2, slots := 36, locals := 89 } : Room) #[(.ref a), (.int c0)] h0 (fun v h => v = some (.ref a) ∧ Keep h0 h [a, t] ∧ ∃ (t1 : Addr) (kt1 : ClassId) (k1 : Nat), (t1 = t ∨ h0.size ≤ t1) ∧ Bt Z h a t1 kt1 k1 n (cs ++ [c0])) := by
  refine Con.intro (plainFor_of_name pn_4) hE X.el ?_
  intro p e s m below meth c T W
  have hsz := W.size
  refine Go.cast (efapi m a c0) ?_
  have KP := Keep.refl h0 [a, t]
  refine W.an d45_0 rfl rfl ?_
  refine W.an d45_1 rfl rfl ?_
  refine W.getF (host := "") (Or.inl (X.w 90 rfl)) Via.refl FN d45_2 ?_
  intro T W
  refine W.ic d45_5 1 rfl ?_
  refine Go.step (fun _ kz => XS.iadd W.here W.hx rfl (W.d d45_6) rfl kz) ?_
  show Go (g := mkF m 7 #[rv a, iv c0] [(.int ((N cs.length) + (1 : Int32))), (.ref a)]) ..
  rw [N_add1]
  show Go (g := mkF m 7 #[rv a, iv c0] [(.int (N (cs.length + 1))), (.ref a)]) ..
  refine W.privat (X.w 92 rfl) (X.w 93 rfl) (priv_sel (X.w 95 rfl) (X.w 93 rfl) (X.w 94 rfl) (by decide)) (X.w 94 rfl) (X.w 55 rfl) (X.w 96 rfl) (by decide) (c_eci0 X a t _ k n cs _ W.ext ga Aa FV FC FN FM gt cB V hk hn hj hj2) (by decide) (Wd := 0) (by decide) a Aa [(.int (N (cs.length + 1)))] [] rfl pd_20 rfl rfl rfl (Nat.le_of_eq rfl) d45_7 (by decide) (by decide) ?_
  intro v T h vm W hQ C
  obtain ⟨rfl, K1, t1, kt1, k1, so1, gt1, cB1, hk1, hj1, FV', FC', FN', FM', V1⟩ := hQ
  replace KP := KP.otrM K1 (by simp)
  replace Aa := Aa.keep K1
  replace hsz := W.size
  replace FV := FV'
  replace FC := FC'
  replace FN := FN'
  replace FM := FM'
  have so_t1 : t1 ∈ [a, t] ∨ h0.size ≤ t1 := so1.imp (fun q => by rw [q]; simp) id
  show Go (g := mkF m 10 #[rv a, iv c0] []) ..
  refine W.an d45_10 rfl rfl ?_
  refine W.virtual (X.w 97 rfl) (X.w 98 rfl) (notFace_of_selects (args := #[]) (mvT W.hZ (X.w 100 rfl))) (X.w 100 rfl) (X.w 99 rfl) (X.w 55 rfl) (X.w 101 rfl) (by decide) (c_abl0 X a _ W.ext FC) (by decide) (Wd := 0) (by decide) a Aa [] [] rfl pd_7 rfl rfl rfl (Nat.le_of_eq rfl) d45_11 (by decide) (by decide) ?_
  intro v T h vm W hQ C
  obtain ⟨rfl, rfl⟩ := hQ
  show Go (g := mkF m 14 #[rv a, iv c0] [(.int 1)]) ..
  refine W.fn d45_14 ((if0 _ _).trans (feq (by decide : ¬ ((1 : Int32) = (0 : Int32)))).1) ?_
  refine W.iN d45_17 rfl ?_
  refine W.callS (X.w 102 rfl) (X.w 103 rfl) (X.w 75 rfl) (X.w 104 rfl) (by decide) (c_ce0 X c0 _ W.ext tb) (by decide) (Wd := 0) (by decide) [(.int c0)] [] rfl pd_25 rfl rfl rfl (Nat.le_of_eq rfl) d45_18 (by decide) (by decide) ?_
  intro v T h vm W hQ C
  obtain ⟨rfl, rfl⟩ := hQ
  show Go (g := mkF m 21 #[rv a, iv c0] [(.int 0)]) ..
  refine W.fy (pc' := 45) d45_21 ((if0 _ _).trans (teq (by decide : (0 : Int32) = (0 : Int32))).1) (by decide) (by decide) ?_
  refine W.an d45_45 rfl rfl ?_
  refine W.virtual (X.w 97 rfl) (X.w 98 rfl) (notFace_of_selects (args := #[]) (mvT W.hZ (X.w 100 rfl))) (X.w 100 rfl) (X.w 99 rfl) (X.w 55 rfl) (X.w 101 rfl) (by decide) (c_abl0 X a _ W.ext FC) (by decide) (Wd := 0) (by decide) a Aa [] [] rfl pd_7 rfl rfl rfl (Nat.le_of_eq rfl) d45_46 (by decide) (by decide) ?_
  intro v T h vm W hQ C
  obtain ⟨rfl, rfl⟩ := hQ
  show Go (g := mkF m 49 #[rv a, iv c0] [(.int 1)]) ..
  refine W.fn d45_49 ((if0 _ _).trans (feq (by decide : ¬ ((1 : Int32) = (0 : Int32)))).1) ?_
  refine W.an d45_52 rfl rfl ?_
  refine W.privat (X.w 211 rfl) (X.w 212 rfl) (priv_sel (X.w 214 rfl) (X.w 212 rfl) (X.w 213 rfl) (by decide)) (X.w 213 rfl) (X.w 55 rfl) (X.w 215 rfl) (by decide) (c_inf X a t1 _ k1 cs sv _ W.ext Y ga Aa FV FC FN FM V1 (by omega) (by omega) hp) (by decide) (Wd := 0) (by decide) a Aa [] [] rfl pd_26 rfl rfl rfl (Nat.le_of_eq rfl) d45_53 (by decide) (by decide) ?_
  intro v T h vm W hQ C
  obtain ⟨rfl, K2, t2, kt2, hn_t2, cB2, FV', FC', FN', FM', V2⟩ := hQ
  have ne_a_t2 : a ≠ t2 := Nat.ne_of_lt (Nat.lt_of_lt_of_le Aa.lt hn_t2)
  have sz_t2 : h0.size ≤ t2 := Nat.le_trans KP.1 hn_t2
  have ne_t1_t2 : t1 ≠ t2 := Nat.ne_of_lt (Nat.lt_of_lt_of_le V1.lt hn_t2)
  have gt2 : Z.heap.size ≤ t2 := Nat.le_trans hsz hn_t2
  replace KP := KP.otrM K2 (by simp)
  replace Aa := Aa.keep K2
  replace hsz := W.size
  replace FV := FV'
  replace FC := FC'
  replace FN := FN'
  replace FM := FM'
  show Go (g := mkF m 56 #[rv a, iv c0] []) ..
  refine W.an d45_56 rfl rfl ?_
  refine W.getF (host := "") (Or.inl (X.w 59 rfl)) Via.refl FV d45_57 ?_
  intro T W
  refine W.an d45_60 rfl rfl ?_
  refine W.dp d45_61 rfl ?_
  refine W.getF (host := "") (Or.inl (X.w 90 rfl)) Via.refl FN d45_62 ?_
  intro T W
  refine Go.step (fun _ kz => XS.dupX1 W.here W.hx rfl (W.d d45_65) rfl rfl rfl kz) ?_
  show Go (g := mkF m 66 #[rv a, iv c0] [(.int (N cs.length)), (.ref a), (.int (N cs.length)), (.ref t2)]) ..
  refine W.ic d45_66 1 rfl ?_
  refine Go.step (fun _ kz => XS.iadd W.here W.hx rfl (W.d d45_67) rfl kz) ?_
  show Go (g := mkF m 68 #[rv a, iv c0] [(.int ((N cs.length) + (1 : Int32))), (.ref a), (.int (N cs.length)), (.ref t2)]) ..
  rw [N_add1]
  show Go (g := mkF m 68 #[rv a, iv c0] [(.int (N (cs.length + 1))), (.ref a), (.int (N cs.length)), (.ref t2)]) ..
  refine W.putF (host := "") (Or.inl (X.w 90 rfl)) Via.refl FN Aa (Or.inl (X.w 91 rfl)) (X.w 36 rfl) (ty := .int) (by decide) rfl rfl ga (Safe.exa W.hZ.alike Aa (by decide) (by decide)) d45_68 ?_
  intro T h W Wr1 FN'
  replace FM := FM.other Wr1 (Or.inr (slot_ne (Or.inl (X.w 231 rfl)) (Or.inl (X.w 91 rfl)) (by decide) (t := .boolean) (t' := .int) (by decide) (by decide)))
  replace FC := FC.other Wr1 (Or.inr (slot_ne (Or.inl (X.w 62 rfl)) (Or.inl (X.w 91 rfl)) (by decide) (t := .byte) (t' := .int) (by decide) (by decide)))
  replace FV := FV.other Wr1 (Or.inr (slot_ne (Or.inl (X.w 60 rfl)) (Or.inl (X.w 91 rfl)) (by decide) (t := (.array .byte)) (t' := .int) (by decide) (by decide)))
  replace KP := KP.otrM (Keep.of_wr Wr1) (by simp)
  replace V2 := V2.keep (Keep.of_wr Wr1) (nin1 (Ne.symm ne_a_t2))
  replace Aa := Aa.keep (Keep.of_wr Wr1)
  replace hsz := W.size
  replace FN := FN'
  refine W.iN d45_71 rfl ?_
  have V5 := V2.pad (pad_rep (encU cs) (.int (0 : Int32)) 2)
  refine W.callS (X.w 223 rfl) (X.w 224 rfl) (X.w 18 rfl) (X.w 225 rfl) (by decide) (c_psb X t2 _ cs.length k1 c0 _ sv _ W.ext Y gt2 V5 (by omega) (by omega) (by rw [List.length_append, encU_len, List.length_replicate]; omega)) (by decide) (Wd := 0) (by decide) [(.ref t2), (.int (N cs.length)), (.int c0)] [] rfl pd_10 rfl rfl rfl (Nat.le_of_eq rfl) d45_72 (by decide) (by decide) ?_
  intro v T h vm W hQ C
  obtain ⟨rfl, K2, V6⟩ := hQ
  replace FV := FV.keep K2 (nin1 ne_a_t2)
  replace FC := FC.keep K2 (nin1 ne_a_t2)
  replace FN := FN.keep K2 (nin1 ne_a_t2)
  replace FM := FM.keep K2 (nin1 ne_a_t2)
  replace KP := KP.otrN K2 sz_t2
  replace Aa := Aa.keep K2
  replace hsz := W.size
  rw [set_snocU] at V6
  replace V2 := V6
  show Go (g := mkF m 75 #[rv a, iv c0] []) ..
  refine W.an d45_75 rfl rfl ?_
  rw [← len_snoc cs c0] at FN
  exact W.retR rfl rfl rfl d45_76 (⟨rfl, KP, t2, kt2, k1, Or.inr sz_t2, cB2, hk1, by rw [len_snoc]; omega, FV, FN, FM, Or.inr ⟨FC, V2, all_snoc (fun x hx => sm_ch (hp x hx)) tc⟩⟩) (by decide) (by decide)

theorem efapu (m : MethodId) (x0 : Addr) (x1 : Int32) : entryFrame m #[(.ref x0), (.int x1)] 2 = mkF m 0 #[.val (.ref x0), .val (.int x1)] [] := by first | (simp [entryFrame, mkF, argsToLocals, Value.category]; done) | rfl
set_option maxRecDepth 65536 in
set_option maxHeartbeats 40000000 in
theorem c_apu {l : Launch} {Z : State} {a0 : Array Value} {G1 : Int32} (X : Ctx Z a0 G1) (a t : Addr) (kt : ClassId) (k n : Nat) (cs : List Int32) (c0 : Int32) (sv : Value) (h0 : Heap) (hE : Ext Z.heap h0) (Y : U16 Z sv) (ga : Z.heap.size ≤ a) (Aa : Exa Z h0 a "java/lang/StringBuilder") (FV : Fld Z h0 a "java/lang/AbstractStringBuilder" "value" "[B" (.ref t)) (FC : Fld Z h0 a "java/lang/AbstractStringBuilder" "coder" "B" (.int (1 : Int32))) (FN : Fld Z h0 a "java/lang/AbstractStringBuilder" "count" "I" (.int (N cs.length))) (FM : Fld Z h0 a "java/lang/AbstractStringBuilder" "maybeLatin1" "Z" (.int (0 : Int32))) (gt : Z.heap.size ≤ t) (cB : Z.vm.findClass "[B" = some kt) (V : Arv Z h0 t kt .byte (N (2 * k)) (encU cs) (.int (0 : Int32))) (hk : k = n ∨ k = 2 * n + 2) (hn : n ≤ 3) (hj : cs.length ≤ k) (hj2 : cs.length + 1 ≤ 2 * n + 2) (hp : ∀ c ∈ cs, Ch c) (tc : Ch c0) :
    Con l Z consts_1 (⟨"java/lang/AbstractStringBuilder", "append", "(C)Ljava/lang/AbstractStringBuilder;"⟩ : MethodName) jdk_68_method_31_code 2 (some (.object "java/lang/AbstractStringBuilder")) [] ({ frames := 4, cells := 1, slots := 16, locals := 74 } : Room) #[(.ref a), (.int c0)] h0 (fun v h => v = some (.ref a) ∧ Keep h0 h [a, t] ∧ ∃ (t1 : Addr) (kt1 : ClassId) (k1 : Nat), (t1 = t ∨ h0.size ≤ t1) ∧ Bt Z h a t1 kt1 k1 n (cs ++ [c0])) := by
  refine Con.intro (plainFor_of_name pn_4) hE X.el ?_
  intro p e s m below meth c T W
  have hsz := W.size
  refine Go.cast (efapu m a c0) ?_
  have KP := Keep.refl h0 [a, t]
  refine W.an d45_0 rfl rfl ?_
  refine W.an d45_1 rfl rfl ?_
  refine W.getF (host := "") (Or.inl (X.w 90 rfl)) Via.refl FN d45_2 ?_
  intro T W
  refine W.ic d45_5 1 rfl ?_
  refine Go.step (fun _ kz => XS.iadd W.here W.hx rfl (W.d d45_6) rfl kz) ?_
  show Go (g := mkF m 7 #[rv a, iv c0] [(.int ((N cs.length) + (1 : Int32))), (.ref a)]) ..
  rw [N_add1]
  show Go (g := mkF m 7 #[rv a, iv c0] [(.int (N (cs.length + 1))), (.ref a)]) ..
  refine W.privat (X.w 92 rfl) (X.w 93 rfl) (priv_sel (X.w 95 rfl) (X.w 93 rfl) (X.w 94 rfl) (by decide)) (X.w 94 rfl) (X.w 55 rfl) (X.w 96 rfl) (by decide) (c_eci1 X a t _ k n cs _ W.ext ga Aa FV FC FN FM gt cB V hk hn hj hj2) (by decide) (Wd := 0) (by decide) a Aa [(.int (N (cs.length + 1)))] [] rfl pd_20 rfl rfl rfl (Nat.le_of_eq rfl) d45_7 (by decide) (by decide) ?_
  intro v T h vm W hQ C
  obtain ⟨rfl, K1, t1, kt1, k1, so1, gt1, cB1, hk1, hj1, FV', FC', FN', FM', V1⟩ := hQ
  replace KP := KP.otrM K1 (by simp)
  replace Aa := Aa.keep K1
  replace hsz := W.size
  replace FV := FV'
  replace FC := FC'
  replace FN := FN'
  replace FM := FM'
  have so_t1 : t1 ∈ [a, t] ∨ h0.size ≤ t1 := so1.imp (fun q => by rw [q]; simp) id
  show Go (g := mkF m 10 #[rv a, iv c0] []) ..
  refine W.an d45_10 rfl rfl ?_
  refine W.virtual (X.w 97 rfl) (X.w 98 rfl) (notFace_of_selects (args := #[]) (mvT W.hZ (X.w 100 rfl))) (X.w 100 rfl) (X.w 99 rfl) (X.w 55 rfl) (X.w 101 rfl) (by decide) (c_abl1 X a _ W.ext FC) (by decide) (Wd := 0) (by decide) a Aa [] [] rfl pd_7 rfl rfl rfl (Nat.le_of_eq rfl) d45_11 (by decide) (by decide) ?_
  intro v T h vm W hQ C
  obtain ⟨rfl, rfl⟩ := hQ
  show Go (g := mkF m 14 #[rv a, iv c0] [(.int 0)]) ..
  refine W.fy (pc' := 45) d45_14 ((if0 _ _).trans (teq (by decide : (0 : Int32) = (0 : Int32))).1) (by decide) (by decide) ?_
  refine W.an d45_45 rfl rfl ?_
  refine W.virtual (X.w 97 rfl) (X.w 98 rfl) (notFace_of_selects (args := #[]) (mvT W.hZ (X.w 100 rfl))) (X.w 100 rfl) (X.w 99 rfl) (X.w 55 rfl) (X.w 101 rfl) (by decide) (c_abl1 X a _ W.ext FC) (by decide) (Wd := 0) (by decide) a Aa [] [] rfl pd_7 rfl rfl rfl (Nat.le_of_eq rfl) d45_46 (by decide) (by decide) ?_
  intro v T h vm W hQ C
  obtain ⟨rfl, rfl⟩ := hQ
  show Go (g := mkF m 49 #[rv a, iv c0] [(.int 0)]) ..
  refine W.fy (pc' := 56) d45_49 ((if0 _ _).trans (teq (by decide : (0 : Int32) = (0 : Int32))).1) (by decide) (by decide) ?_
  refine W.an d45_56 rfl rfl ?_
  refine W.getF (host := "") (Or.inl (X.w 59 rfl)) Via.refl FV d45_57 ?_
  intro T W
  refine W.an d45_60 rfl rfl ?_
  refine W.dp d45_61 rfl ?_
  refine W.getF (host := "") (Or.inl (X.w 90 rfl)) Via.refl FN d45_62 ?_
  intro T W
  refine Go.step (fun _ kz => XS.dupX1 W.here W.hx rfl (W.d d45_65) rfl rfl rfl kz) ?_
  show Go (g := mkF m 66 #[rv a, iv c0] [(.int (N cs.length)), (.ref a), (.int (N cs.length)), (.ref t1)]) ..
  refine W.ic d45_66 1 rfl ?_
  refine Go.step (fun _ kz => XS.iadd W.here W.hx rfl (W.d d45_67) rfl kz) ?_
  show Go (g := mkF m 68 #[rv a, iv c0] [(.int ((N cs.length) + (1 : Int32))), (.ref a), (.int (N cs.length)), (.ref t1)]) ..
  rw [N_add1]
  show Go (g := mkF m 68 #[rv a, iv c0] [(.int (N (cs.length + 1))), (.ref a), (.int (N cs.length)), (.ref t1)]) ..
  refine W.putF (host := "") (Or.inl (X.w 90 rfl)) Via.refl FN Aa (Or.inl (X.w 91 rfl)) (X.w 36 rfl) (ty := .int) (by decide) rfl rfl ga (Safe.exa W.hZ.alike Aa (by decide) (by decide)) d45_68 ?_
  intro T h W Wr1 FN'
  replace FM := FM.other Wr1 (Or.inr (slot_ne (Or.inl (X.w 231 rfl)) (Or.inl (X.w 91 rfl)) (by decide) (t := .boolean) (t' := .int) (by decide) (by decide)))
  replace FC := FC.other Wr1 (Or.inr (slot_ne (Or.inl (X.w 62 rfl)) (Or.inl (X.w 91 rfl)) (by decide) (t := .byte) (t' := .int) (by decide) (by decide)))
  replace FV := FV.other Wr1 (Or.inr (slot_ne (Or.inl (X.w 60 rfl)) (Or.inl (X.w 91 rfl)) (by decide) (t := (.array .byte)) (t' := .int) (by decide) (by decide)))
  replace KP := KP.otrM (Keep.of_wr Wr1) (by simp)
  replace V1 := V1.keep (Keep.of_wr Wr1) (nin1 (Ne.symm (Exa.neArv Aa V1 (X.w 36 rfl))))
  replace Aa := Aa.keep (Keep.of_wr Wr1)
  replace hsz := W.size
  replace FN := FN'
  refine W.iN d45_71 rfl ?_
  have V5 := V1.pad (pad_rep (encU cs) (.int (0 : Int32)) 2)
  refine W.callS (X.w 223 rfl) (X.w 224 rfl) (X.w 18 rfl) (X.w 225 rfl) (by decide) (c_psb X t1 _ cs.length k1 c0 _ sv _ W.ext Y gt1 V5 (by omega) (by omega) (by rw [List.length_append, encU_len, List.length_replicate]; omega)) (by decide) (Wd := 0) (by decide) [(.ref t1), (.int (N cs.length)), (.int c0)] [] rfl pd_10 rfl rfl rfl (Nat.le_of_eq rfl) d45_72 (by decide) (by decide) ?_
  intro v T h vm W hQ C
  obtain ⟨rfl, K2, V6⟩ := hQ
  replace FV := FV.keep K2 (nin1 (Exa.neArv Aa V1 (X.w 36 rfl)))
  replace FC := FC.keep K2 (nin1 (Exa.neArv Aa V1 (X.w 36 rfl)))
  replace FN := FN.keep K2 (nin1 (Exa.neArv Aa V1 (X.w 36 rfl)))
  replace FM := FM.keep K2 (nin1 (Exa.neArv Aa V1 (X.w 36 rfl)))
  replace KP := KP.otrE K2 so_t1
  replace Aa := Aa.keep K2
  replace hsz := W.size
  rw [set_snocU] at V6
  replace V1 := V6
  show Go (g := mkF m 75 #[rv a, iv c0] []) ..
  refine W.an d45_75 rfl rfl ?_
  rw [← len_snoc cs c0] at FN
  exact W.retR rfl rfl rfl d45_76 (⟨rfl, KP, t1, kt1, k1, so1, cB1, hk1, by rw [len_snoc]; omega, FV, FN, FM, Or.inr ⟨FC, V1, all_snoc hp tc⟩⟩) (by decide) (by decide)

theorem efsap (m : MethodId) (x0 : Addr) (x1 : Int32) : entryFrame m #[(.ref x0), (.int x1)] 2 = mkF m 0 #[.val (.ref x0), .val (.int x1)] [] := by first | (simp [entryFrame, mkF, argsToLocals, Value.category]; done) | rfl
set_option maxRecDepth 65536 in
set_option maxHeartbeats 40000000 in
theorem c_sap {l : Launch} {Z : State} {a0 : Array Value} {G1 : Int32} (X : Ctx Z a0 G1) (a d : Addr) (kd : ClassId) (zd : Int32) (vd : List Value) (n : Nat) (cs : List Int32) (c0 : Int32) (sv : Value) (hh : Heap) (h0 : Heap) (hE : Ext Z.heap h0) (Y : U16 Z sv) (B : Bd Z hh h0 a d kd zd vd n cs) (tc : Ch c0) (hn : n ≤ 3) (hj2 : cs.length + 1 ≤ 2 * n + 2) :
    Con l Z consts_1 (⟨"java/lang/StringBuilder", "append", "(C)Ljava/lang/StringBuilder;"⟩ : MethodName) jdk_67_method_14_code 2 (some (.object "java/lang/StringBuilder")) [] ({ frames := 7, cells := 2, slots := 36, locals := 102 } : Room) #[(.ref a), (.int c0)] h0 (fun v h => v = some (.ref a) ∧ Bd Z hh h a d kd zd vd n (cs ++ [c0])) := by
  refine Con.intro (plainFor_of_name pn_5) hE X.el ?_
  intro p e s m below meth c T W
  have hsz := W.size
  refine Go.cast (efsap m a c0) ?_
  obtain ⟨KB, ha, hzz, Aa, Vd, t, kt, k, ht, cB, hk, hj, FV, FN, FM, hB⟩ := B
  have ga : Z.heap.size ≤ a := Nat.le_trans hzz ha
  have gt : Z.heap.size ≤ t := Nat.le_trans hzz ht
  rcases hB with ⟨FC, V, hp⟩ | ⟨FC, V, hp⟩
  · by_cases tb : (255 : Int32) < c0
    · have hw_ := W.size
      refine W.an d46_0 rfl rfl ?_
      refine W.iN d46_1 rfl ?_
      refine W.superC (X.w 85 rfl) (X.w 86 rfl) (nf_selC (C := "java/lang/StringBuilder") (y := (⟨"java/lang/AbstractStringBuilder", "getValue", "()[B"⟩ : MethodName)) (X.w 120 rfl)) (X.w 87 rfl) (by decide) (X.w 55 rfl) (X.w 89 rfl) (by decide) (c_api X a t _ k n cs c0 sv _ W.ext Y ga Aa FV FC FN FM gt cB V hk hn hj hj2 hp tc tb) (by decide) (Wd := 0) (by decide) a (Ins.self Aa) [(.int c0)] [] rfl pd_27 rfl rfl rfl (Nat.le_of_eq rfl) d46_2 (by decide) (by decide) ?_
      intro v T h vm W hQ C
      obtain ⟨rfl, K1, P1⟩ := hQ
      show Go (g := mkF m 5 #[rv a, iv c0] [(.ref a)]) ..
      refine W.pp d46_5 rfl ?_
      refine W.an d46_6 rfl rfl ?_
      exact W.retR rfl rfl rfl d46_7 (⟨rfl, Bd.step KB ha hzz Aa Vd V ht (X.w 36 rfl) K1 P1⟩) (by decide) (by decide)
    · have hw_ := W.size
      refine W.an d46_0 rfl rfl ?_
      refine W.iN d46_1 rfl ?_
      refine W.superC (X.w 85 rfl) (X.w 86 rfl) (nf_selC (C := "java/lang/StringBuilder") (y := (⟨"java/lang/AbstractStringBuilder", "getValue", "()[B"⟩ : MethodName)) (X.w 120 rfl)) (X.w 87 rfl) (by decide) (X.w 55 rfl) (X.w 89 rfl) (by decide) (c_apl X a t _ k n cs c0 sv _ W.ext Y ga Aa FV FC FN FM gt cB V hk hn hj hj2 hp ⟨tc.1, tb⟩) (by decide) (Wd := 0) (by decide) a (Ins.self Aa) [(.int c0)] [] rfl pd_27 rfl rfl rfl (Nat.le_of_eq rfl) d46_2 (by decide) (by decide) ?_
      intro v T h vm W hQ C
      obtain ⟨rfl, K1, P1⟩ := hQ
      show Go (g := mkF m 5 #[rv a, iv c0] [(.ref a)]) ..
      refine W.pp d46_5 rfl ?_
      refine W.an d46_6 rfl rfl ?_
      exact W.retR rfl rfl rfl d46_7 (⟨rfl, Bd.step KB ha hzz Aa Vd V ht (X.w 36 rfl) K1 P1⟩) (by decide) (by decide)
  · have hw_ := W.size
    refine W.an d46_0 rfl rfl ?_
    refine W.iN d46_1 rfl ?_
    refine W.superC (X.w 85 rfl) (X.w 86 rfl) (nf_selC (C := "java/lang/StringBuilder") (y := (⟨"java/lang/AbstractStringBuilder", "getValue", "()[B"⟩ : MethodName)) (X.w 120 rfl)) (X.w 87 rfl) (by decide) (X.w 55 rfl) (X.w 89 rfl) (by decide) (c_apu X a t _ k n cs c0 sv _ W.ext Y ga Aa FV FC FN FM gt cB V hk hn hj hj2 hp tc) (by decide) (Wd := 0) (by decide) a (Ins.self Aa) [(.int c0)] [] rfl pd_27 rfl rfl rfl (Nat.le_of_eq rfl) d46_2 (by decide) (by decide) ?_
    intro v T h vm W hQ C
    obtain ⟨rfl, K1, P1⟩ := hQ
    show Go (g := mkF m 5 #[rv a, iv c0] [(.ref a)]) ..
    refine W.pp d46_5 rfl ?_
    refine W.an d46_6 rfl rfl ?_
    exact W.retR rfl rfl rfl d46_7 (⟨rfl, Bd.step KB ha hzz Aa Vd V ht (X.w 36 rfl) K1 P1⟩) (by decide) (by decide)

theorem efgva (m : MethodId) (x0 : Addr) : entryFrame m #[(.ref x0)] 1 = mkF m 0 #[.val (.ref x0)] [] := by first | (simp [entryFrame, mkF, argsToLocals, Value.category]; done) | rfl
set_option maxRecDepth 65536 in
set_option maxHeartbeats 40000000 in
theorem c_gva {l : Launch} {Z : State} {a0 : Array Value} {G1 : Int32} (X : Ctx Z a0 G1) (a t : Addr) (h0 : Heap) (hE : Ext Z.heap h0) (FV : Fld Z h0 a "java/lang/AbstractStringBuilder" "value" "[B" (.ref t)) :
    Con l Z consts_1 (⟨"java/lang/AbstractStringBuilder", "getValue", "()[B"⟩ : MethodName) jdk_68_method_64_code 1 (some (.array .byte)) [] ({ frames := 0, cells := 0, slots := 0, locals := 0 } : Room) #[(.ref a)] h0 (fun v h => v = some (.ref t) ∧ h0 = h) := by
  refine Con.intro (plainFor_of_name pn_4) hE X.el ?_
  intro p e s m below meth c T W
  have hsz := W.size
  refine Go.cast (efgva m a) ?_
  refine W.an d47_0 rfl rfl ?_
  refine W.getF (host := "") (Or.inl (X.w 59 rfl)) Via.refl FV d47_1 ?_
  intro T W
  exact W.retR rfl rfl rfl d47_4 (⟨rfl, rfl⟩) (by decide) (by decide)

theorem efaln (m : MethodId) (x0 : Addr) : entryFrame m #[(.ref x0)] 1 = mkF m 0 #[.val (.ref x0)] [] := by first | (simp [entryFrame, mkF, argsToLocals, Value.category]; done) | rfl
set_option maxRecDepth 65536 in
set_option maxHeartbeats 40000000 in
theorem c_aln {l : Launch} {Z : State} {a0 : Array Value} {G1 : Int32} (X : Ctx Z a0 G1) (a : Addr) (z0 : Int32) (h0 : Heap) (hE : Ext Z.heap h0) (FN : Fld Z h0 a "java/lang/AbstractStringBuilder" "count" "I" (.int z0)) :
    Con l Z consts_1 (⟨"java/lang/AbstractStringBuilder", "length", "()I"⟩ : MethodName) jdk_68_method_6_code 1 (some .int) [] ({ frames := 0, cells := 0, slots := 0, locals := 0 } : Room) #[(.ref a)] h0 (fun v h => v = some (.int z0) ∧ h0 = h) := by
  refine Con.intro (plainFor_of_name pn_4) hE X.el ?_
  intro p e s m below meth c T W
  have hsz := W.size
  refine Go.cast (efaln m a) ?_
  refine W.an d48_0 rfl rfl ?_
  refine W.getF (host := "") (Or.inl (X.w 90 rfl)) Via.refl FN d48_1 ?_
  intro T W
  exact W.retI d48_4 (⟨rfl, rfl⟩) (by decide) (by decide)

theorem efsln (m : MethodId) (x0 : Addr) : entryFrame m #[(.ref x0)] 1 = mkF m 0 #[.val (.ref x0)] [] := by first | (simp [entryFrame, mkF, argsToLocals, Value.category]; done) | rfl
set_option maxRecDepth 65536 in
set_option maxHeartbeats 40000000 in
theorem c_sln {l : Launch} {Z : State} {a0 : Array Value} {G1 : Int32} (X : Ctx Z a0 G1) (a : Addr) (z0 : Int32) (h0 : Heap) (hE : Ext Z.heap h0) (Aa : Exa Z h0 a "java/lang/StringBuilder") (FN : Fld Z h0 a "java/lang/AbstractStringBuilder" "count" "I" (.int z0)) :
    Con l Z consts_1 (⟨"java/lang/StringBuilder", "length", "()I"⟩ : MethodName) jdk_67_method_93_code 1 (some .int) [] ({ frames := 1, cells := 0, slots := 0, locals := 12 } : Room) #[(.ref a)] h0 (fun v h => v = some (.int z0) ∧ h0 = h) := by
  refine Con.intro (plainFor_of_name pn_5) hE X.el ?_
  intro p e s m below meth c T W
  have hsz := W.size
  refine Go.cast (efsln m a) ?_
  refine W.an d49_0 rfl rfl ?_
  refine W.superC (X.w 128 rfl) (X.w 124 rfl) (nf_selC (C := "java/lang/StringBuilder") (y := (⟨"java/lang/AbstractStringBuilder", "getValue", "()[B"⟩ : MethodName)) (X.w 120 rfl)) (X.w 87 rfl) (by decide) (X.w 55 rfl) (X.w 129 rfl) (by decide) (c_aln X a z0 _ W.ext FN) (by decide) (Wd := 0) (by decide) a (Ins.self Aa) [] [] rfl pd_28 rfl rfl rfl (Nat.le_of_eq rfl) d49_1 (by decide) (by decide) ?_
  intro v T h vm W hQ C
  obtain ⟨rfl, rfl⟩ := hQ
  show Go (g := mkF m 4 #[rv a] [(.int z0)]) ..
  exact W.retI d49_4 (⟨rfl, rfl⟩) (by decide) (by decide)

theorem efsia0 (m : MethodId) (x0 : Addr) (x1 : Addr) : entryFrame m #[(.ref x0), (.ref x1), .null] 5 = mkF m 0 #[.val (.ref x0), .val (.ref x1), .val .null, .unset, .unset] [] := by first | (simp [entryFrame, mkF, argsToLocals, Value.category]; done) | rfl
set_option maxRecDepth 65536 in
set_option maxHeartbeats 40000000 in
theorem c_sia0 {l : Launch} {Z : State} {a0 : Array Value} {G1 : Int32} (X : Ctx Z a0 G1) (b a t : Addr) (kt : ClassId) (k : Nat) (cs : List Int32) (h0 : Heap) (hE : Ext Z.heap h0) (gb : Z.heap.size ≤ b) (Ab : Exa Z h0 b "java/lang/String") (BV : Fld Z h0 b "java/lang/String" "value" "[B" .null) (BC : Fld Z h0 b "java/lang/String" "coder" "B" (.int (0 : Int32))) (Aa : Exa Z h0 a "java/lang/StringBuilder") (FV : Fld Z h0 a "java/lang/AbstractStringBuilder" "value" "[B" (.ref t)) (FC : Fld Z h0 a "java/lang/AbstractStringBuilder" "coder" "B" (.int (0 : Int32))) (FN : Fld Z h0 a "java/lang/AbstractStringBuilder" "count" "I" (.int (N cs.length))) (FM : Fld Z h0 a "java/lang/AbstractStringBuilder" "maybeLatin1" "Z" (.int (0 : Int32))) (cB : Z.vm.findClass "[B" = some kt) (V : Arv Z h0 t kt .byte (N k) (encL cs) (.int (0 : Int32))) (hk : k ≤ 8) (hj : cs.length ≤ k) (hp : ∀ c ∈ cs, Sm c) :
    Con l Z consts_1 (⟨"java/lang/String", "<init>", "(Ljava/lang/AbstractStringBuilder;Ljava/lang/Void;)V"⟩ : MethodName) jdk_42_method_150_code 5 none [] ({ frames := 3, cells := 1, slots := 16, locals := 76 } : Room) #[(.ref b), (.ref a), .null] h0 (fun v h => v = none ∧ Keep h0 h [b] ∧ StrX Z h b cs) := by
  refine Con.intro (plainFor_of_name pn_0) hE X.el ?_
  intro p e s m below meth c T W
  have hsz := W.size
  refine Go.cast (efsia0 m b a) ?_
  have KP := Keep.refl h0 [b]
  refine W.an d50_0 rfl rfl ?_
  refine W.initO (X.w 12 rfl) (X.w 13 rfl) (X.w 14 rfl) rfl d50_1 (by decide) (Wd := 0) (Nat.le_of_eq rfl) (by decide) ?_
  intro T W
  show Go (g := mkF m 4 #[rv b, rv a, .val .null, .unset, .unset] []) ..
  refine W.an d50_4 rfl rfl ?_
  refine W.virtual (X.w 117 rfl) (X.w 118 rfl) (notFace_of_selects (args := #[]) (mvT W.hZ (X.w 120 rfl))) (X.w 120 rfl) (X.w 119 rfl) (X.w 55 rfl) (X.w 121 rfl) (by decide) (c_gva X a t _ W.ext FV) (by decide) (Wd := 0) (by decide) a Aa [] [] rfl pd_29 rfl rfl rfl (Nat.le_of_eq rfl) d50_5 (by decide) (by decide) ?_
  intro v T h vm W hQ C
  obtain ⟨rfl, rfl⟩ := hQ
  show Go (g := mkF m 8 #[rv b, rv a, .val .null, .unset, .unset] [(.ref t)]) ..
  refine W.asn (Ls' := #[rv b, rv a, .val .null, rv t, .unset]) d50_8 rfl rfl ?_
  refine W.an d50_9 rfl rfl ?_
  refine W.virtual (X.w 122 rfl) (X.w 123 rfl) (NoFace.at (nf_selC (C := "java/lang/StringBuilder") (y := (⟨"java/lang/AbstractStringBuilder", "getValue", "()[B"⟩ : MethodName)) (X.w 120 rfl)) W.hZ rfl) (X.w 125 rfl) (X.w 126 rfl) (X.w 37 rfl) (X.w 127 rfl) (by decide) (c_sln X a _ _ W.ext Aa FN) (by decide) (Wd := 0) (by decide) a Aa [] [] rfl pd_28 rfl rfl rfl (Nat.le_of_eq rfl) d50_10 (by decide) (by decide) ?_
  intro v T h vm W hQ C
  obtain ⟨rfl, rfl⟩ := hQ
  show Go (g := mkF m 13 #[rv b, rv a, .val .null, rv t, .unset] [(.int (N cs.length))]) ..
  refine W.iss (Ls' := #[rv b, rv a, .val .null, rv t, iv (N cs.length)]) d50_13 rfl ?_
  refine W.an d50_15 rfl rfl ?_
  refine W.virtual (X.w 130 rfl) (X.w 98 rfl) (notFace_of_selects (args := #[]) (mvT W.hZ (X.w 100 rfl))) (X.w 100 rfl) (X.w 99 rfl) (X.w 55 rfl) (X.w 101 rfl) (by decide) (c_abl0 X a _ W.ext FC) (by decide) (Wd := 0) (by decide) a Aa [] [] rfl pd_7 rfl rfl rfl (Nat.le_of_eq rfl) d50_16 (by decide) (by decide) ?_
  intro v T h vm W hQ C
  obtain ⟨rfl, rfl⟩ := hQ
  show Go (g := mkF m 19 #[rv b, rv a, .val .null, rv t, iv (N cs.length)] [(.int 1)]) ..
  refine W.fn d50_19 ((if0 _ _).trans (feq (by decide : ¬ ((1 : Int32) = (0 : Int32)))).1) ?_
  refine W.an d50_22 rfl rfl ?_
  refine W.ic d50_23 0 rfl ?_
  refine W.putF (host := "") (Or.inl (X.w 27 rfl)) Via.refl BC Ab (Or.inr ⟨(X.w 28 rfl), rfl, rfl⟩) (X.w 3 rfl) (ty := .byte) (by decide) (by decide) (by decide) gb (Safe.blank W.hZ.alike Ab BV) d50_24 ?_
  intro T h W Wr1 BC'
  replace BV := BV.other Wr1 (Or.inr (slot_ne (Or.inr (X.w 30 rfl)) (Or.inr (X.w 28 rfl)) (by decide) (t := (.array .byte)) (t' := .byte) (by decide) (by decide)))
  replace FV := FV.keep (Keep.of_wr Wr1) (nin1 (Exa.ne Aa Ab (by decide)))
  replace FC := FC.keep (Keep.of_wr Wr1) (nin1 (Exa.ne Aa Ab (by decide)))
  replace FN := FN.keep (Keep.of_wr Wr1) (nin1 (Exa.ne Aa Ab (by decide)))
  replace FM := FM.keep (Keep.of_wr Wr1) (nin1 (Exa.ne Aa Ab (by decide)))
  replace V := V.keep (Keep.of_wr Wr1) (nin1 (Ne.symm (Exa.neArv Ab V (X.w 3 rfl))))
  replace KP := KP.otrM (Keep.of_wr Wr1) (by simp)
  replace Ab := Ab.keep (Keep.of_wr Wr1)
  replace Aa := Aa.keep (Keep.of_wr Wr1)
  replace hsz := W.size
  replace BC := BC'
  refine W.an d50_27 rfl rfl ?_
  refine W.an d50_28 rfl rfl ?_
  refine W.ic d50_29 0 rfl ?_
  refine W.il d50_30 rfl ?_
  refine W.callS (X.w 131 rfl) (X.w 132 rfl) (X.w 133 rfl) (X.w 134 rfl) (by decide) (c_cor X t _ (k) (cs.length) _ _ W.ext cB V (encL_len _) (by omega) (by omega)) (by decide) (Wd := 1) (by decide) [(.ref t), (.int (0 : Int32)), (.int (N cs.length))] [(.ref b)] rfl pd_22 rfl rfl rfl (Nat.le_of_eq rfl) d50_32 (by decide) (by decide) ?_
  intro v T h vm W hQ C
  obtain ⟨b2, kb2, rfl, -, hn_b2, Kb2, Vb2⟩ := hQ
  have ne_b_b2 : b ≠ b2 := Nat.ne_of_lt (Nat.lt_of_lt_of_le Ab.lt hn_b2)
  have ne_a_b2 : a ≠ b2 := Nat.ne_of_lt (Nat.lt_of_lt_of_le Aa.lt hn_b2)
  have ne_t_b2 : t ≠ b2 := Nat.ne_of_lt (Nat.lt_of_lt_of_le V.lt hn_b2)
  have sz_b2 : h0.size ≤ b2 := Nat.le_trans KP.1 hn_b2
  have gb2 : Z.heap.size ≤ b2 := Nat.le_trans hsz hn_b2
  replace BV := BV.keep Kb2 nin0
  replace BC := BC.keep Kb2 nin0
  replace FV := FV.keep Kb2 nin0
  replace FC := FC.keep Kb2 nin0
  replace FN := FN.keep Kb2 nin0
  replace FM := FM.keep Kb2 nin0
  replace V := V.keep Kb2 nin0
  replace KP := KP.otr0 Kb2
  replace Ab := Ab.keep Kb2
  replace Aa := Aa.keep Kb2
  replace hsz := W.size
  show Go (g := mkF m 35 #[rv b, rv a, .val .null, rv t, iv (N cs.length)] [(.ref b2), (.ref b)]) ..
  refine W.putF (host := "") (Or.inl (X.w 29 rfl)) Via.refl BV Ab (Or.inr ⟨(X.w 30 rfl), rfl, rfl⟩) (X.w 3 rfl) (ty := (.array .byte)) (by decide) rfl rfl gb (Safe.blank W.hZ.alike Ab BV) d50_35 ?_
  intro T h W Wr3 BV'
  replace BC := BC.other Wr3 (Or.inr (slot_ne (Or.inr (X.w 28 rfl)) (Or.inr (X.w 30 rfl)) (by decide) (t := .byte) (t' := (.array .byte)) (by decide) (by decide)))
  replace FV := FV.keep (Keep.of_wr Wr3) (nin1 (Exa.ne Aa Ab (by decide)))
  replace FC := FC.keep (Keep.of_wr Wr3) (nin1 (Exa.ne Aa Ab (by decide)))
  replace FN := FN.keep (Keep.of_wr Wr3) (nin1 (Exa.ne Aa Ab (by decide)))
  replace FM := FM.keep (Keep.of_wr Wr3) (nin1 (Exa.ne Aa Ab (by decide)))
  replace V := V.keep (Keep.of_wr Wr3) (nin1 (Ne.symm (Exa.neArv Ab V (X.w 3 rfl))))
  replace KP := KP.otrM (Keep.of_wr Wr3) (by simp)
  replace Vb2 := Vb2.keep (Keep.of_wr Wr3) (nin1 (Ne.symm ne_b_b2))
  replace Ab := Ab.keep (Keep.of_wr Wr3)
  replace Aa := Aa.keep (Keep.of_wr Wr3)
  replace hsz := W.size
  replace BV := BV'
  refine W.gt (pc' := 97) d50_38 (by decide) (by decide) ?_
  exact W.retV d50_97 (⟨rfl, KP, Or.inl ⟨b2, _, Ab, BV, BC, Vb2, hp, by omega⟩⟩) (by decide) (by decide)

theorem efsis0 (m : MethodId) (x0 : Addr) (x1 : Addr) : entryFrame m #[(.ref x0), (.ref x1)] 2 = mkF m 0 #[.val (.ref x0), .val (.ref x1)] [] := by first | (simp [entryFrame, mkF, argsToLocals, Value.category]; done) | rfl
set_option maxRecDepth 65536 in
set_option maxHeartbeats 40000000 in
theorem c_sis0 {l : Launch} {Z : State} {a0 : Array Value} {G1 : Int32} (X : Ctx Z a0 G1) (b a t : Addr) (kt : ClassId) (k : Nat) (cs : List Int32) (h0 : Heap) (hE : Ext Z.heap h0) (gb : Z.heap.size ≤ b) (Ab : Exa Z h0 b "java/lang/String") (BV : Fld Z h0 b "java/lang/String" "value" "[B" .null) (BC : Fld Z h0 b "java/lang/String" "coder" "B" (.int (0 : Int32))) (Aa : Exa Z h0 a "java/lang/StringBuilder") (FV : Fld Z h0 a "java/lang/AbstractStringBuilder" "value" "[B" (.ref t)) (FC : Fld Z h0 a "java/lang/AbstractStringBuilder" "coder" "B" (.int (0 : Int32))) (FN : Fld Z h0 a "java/lang/AbstractStringBuilder" "count" "I" (.int (N cs.length))) (FM : Fld Z h0 a "java/lang/AbstractStringBuilder" "maybeLatin1" "Z" (.int (0 : Int32))) (cB : Z.vm.findClass "[B" = some kt) (V : Arv Z h0 t kt .byte (N k) (encL cs) (.int (0 : Int32))) (hk : k ≤ 8) (hj : cs.length ≤ k) (hp : ∀ c ∈ cs, Sm c) :
    Con l Z consts_1 (⟨"java/lang/String", "<init>", "(Ljava/lang/StringBuilder;)V"⟩ : MethodName) jdk_42_method_53_code 2 none [] ({ frames := 4, cells := 1, slots := 16, locals := 92 } : Room) #[(.ref b), (.ref a)] h0 (fun v h => v = none ∧ Keep h0 h [b] ∧ StrX Z h b cs) := by
  refine Con.intro (plainFor_of_name pn_0) hE X.el ?_
  intro p e s m below meth c T W
  have hsz := W.size
  refine Go.cast (efsis0 m b a) ?_
  refine W.an d51_0 rfl rfl ?_
  refine W.an d51_1 rfl rfl ?_
  refine Go.step (fun _ kz => XS.aconstNull W.here W.hx rfl (W.d d51_2) kz) ?_
  show Go (g := mkF m 3 #[rv b, rv a] [.null, (.ref a), (.ref b)]) ..
  refine W.special rfl (X.w 114 rfl) (X.w 115 rfl) (X.w 4 rfl) (X.w 116 rfl) (by decide) (c_sia0 X b a t _ k cs _ W.ext gb Ab BV BC Aa FV FC FN FM cB V hk hj hp) (by decide) (Wd := 0) (by decide) b [(.ref a), .null] [] rfl pd_30 rfl rfl rfl (Nat.le_of_eq rfl) d51_3 (by decide) (by decide) ?_
  intro v T h vm W hQ C
  obtain ⟨rfl, hK, hS⟩ := hQ
  show Go (g := mkF m 6 #[rv b, rv a] []) ..
  exact W.retV d51_6 (⟨rfl, hK, hS⟩) (by decide) (by decide)

theorem efsia1 (m : MethodId) (x0 : Addr) (x1 : Addr) : entryFrame m #[(.ref x0), (.ref x1), .null] 5 = mkF m 0 #[.val (.ref x0), .val (.ref x1), .val .null, .unset, .unset] [] := by first | (simp [entryFrame, mkF, argsToLocals, Value.category]; done) | rfl
set_option maxRecDepth 65536 in
set_option maxHeartbeats 40000000 in
theorem c_sia1 {l : Launch} {Z : State} {a0 : Array Value} {G1 : Int32} (X : Ctx Z a0 G1) (b a t : Addr) (kt : ClassId) (k : Nat) (cs : List Int32) (h0 : Heap) (hE : Ext Z.heap h0) (gb : Z.heap.size ≤ b) (Ab : Exa Z h0 b "java/lang/String") (BV : Fld Z h0 b "java/lang/String" "value" "[B" .null) (BC : Fld Z h0 b "java/lang/String" "coder" "B" (.int (0 : Int32))) (Aa : Exa Z h0 a "java/lang/StringBuilder") (FV : Fld Z h0 a "java/lang/AbstractStringBuilder" "value" "[B" (.ref t)) (FC : Fld Z h0 a "java/lang/AbstractStringBuilder" "coder" "B" (.int (1 : Int32))) (FN : Fld Z h0 a "java/lang/AbstractStringBuilder" "count" "I" (.int (N cs.length))) (FM : Fld Z h0 a "java/lang/AbstractStringBuilder" "maybeLatin1" "Z" (.int (0 : Int32))) (cB : Z.vm.findClass "[B" = some kt) (V : Arv Z h0 t kt .byte (N (2 * k)) (encU cs) (.int (0 : Int32))) (hk : k ≤ 8) (hj : cs.length ≤ k) (hp : ∀ c ∈ cs, Ch c) :
    Con l Z consts_1 (⟨"java/lang/String", "<init>", "(Ljava/lang/AbstractStringBuilder;Ljava/lang/Void;)V"⟩ : MethodName) jdk_42_method_150_code 5 none [] ({ frames := 3, cells := 1, slots := 16, locals := 76 } : Room) #[(.ref b), (.ref a), .null] h0 (fun v h => v = none ∧ Keep h0 h [b] ∧ StrX Z h b cs) := by
  refine Con.intro (plainFor_of_name pn_0) hE X.el ?_
  intro p e s m below meth c T W
  have hsz := W.size
  refine Go.cast (efsia1 m b a) ?_
  have KP := Keep.refl h0 [b]
  refine W.an d50_0 rfl rfl ?_
  refine W.initO (X.w 12 rfl) (X.w 13 rfl) (X.w 14 rfl) rfl d50_1 (by decide) (Wd := 0) (Nat.le_of_eq rfl) (by decide) ?_
  intro T W
  show Go (g := mkF m 4 #[rv b, rv a, .val .null, .unset, .unset] []) ..
  refine W.an d50_4 rfl rfl ?_
  refine W.virtual (X.w 117 rfl) (X.w 118 rfl) (notFace_of_selects (args := #[]) (mvT W.hZ (X.w 120 rfl))) (X.w 120 rfl) (X.w 119 rfl) (X.w 55 rfl) (X.w 121 rfl) (by decide) (c_gva X a t _ W.ext FV) (by decide) (Wd := 0) (by decide) a Aa [] [] rfl pd_29 rfl rfl rfl (Nat.le_of_eq rfl) d50_5 (by decide) (by decide) ?_
  intro v T h vm W hQ C
  obtain ⟨rfl, rfl⟩ := hQ
  show Go (g := mkF m 8 #[rv b, rv a, .val .null, .unset, .unset] [(.ref t)]) ..
  refine W.asn (Ls' := #[rv b, rv a, .val .null, rv t, .unset]) d50_8 rfl rfl ?_
  refine W.an d50_9 rfl rfl ?_
  refine W.virtual (X.w 122 rfl) (X.w 123 rfl) (NoFace.at (nf_selC (C := "java/lang/StringBuilder") (y := (⟨"java/lang/AbstractStringBuilder", "getValue", "()[B"⟩ : MethodName)) (X.w 120 rfl)) W.hZ rfl) (X.w 125 rfl) (X.w 126 rfl) (X.w 37 rfl) (X.w 127 rfl) (by decide) (c_sln X a _ _ W.ext Aa FN) (by decide) (Wd := 0) (by decide) a Aa [] [] rfl pd_28 rfl rfl rfl (Nat.le_of_eq rfl) d50_10 (by decide) (by decide) ?_
  intro v T h vm W hQ C
  obtain ⟨rfl, rfl⟩ := hQ
  show Go (g := mkF m 13 #[rv b, rv a, .val .null, rv t, .unset] [(.int (N cs.length))]) ..
  refine W.iss (Ls' := #[rv b, rv a, .val .null, rv t, iv (N cs.length)]) d50_13 rfl ?_
  refine W.an d50_15 rfl rfl ?_
  refine W.virtual (X.w 130 rfl) (X.w 98 rfl) (notFace_of_selects (args := #[]) (mvT W.hZ (X.w 100 rfl))) (X.w 100 rfl) (X.w 99 rfl) (X.w 55 rfl) (X.w 101 rfl) (by decide) (c_abl1 X a _ W.ext FC) (by decide) (Wd := 0) (by decide) a Aa [] [] rfl pd_7 rfl rfl rfl (Nat.le_of_eq rfl) d50_16 (by decide) (by decide) ?_
  intro v T h vm W hQ C
  obtain ⟨rfl, rfl⟩ := hQ
  show Go (g := mkF m 19 #[rv b, rv a, .val .null, rv t, iv (N cs.length)] [(.int 0)]) ..
  refine W.fy (pc' := 41) d50_19 ((if0 _ _).trans (teq (by decide : (0 : Int32) = (0 : Int32))).1) (by decide) (by decide) ?_
  refine W.getS (host := "") (Or.inl (X.w 15 rfl)) Via.refl X.2.1 d50_41 ?_
  intro T W
  refine W.fn d50_44 ((if0 _ _).trans (feq X.2.2.1).1) ?_
  refine W.an d50_47 rfl rfl ?_
  refine W.getF (host := "") (Or.inl (X.w 230 rfl)) Via.refl FM d50_48 ?_
  intro T W
  refine W.fy (pc' := 79) d50_51 ((if0 _ _).trans (teq (by decide : (0 : Int32) = (0 : Int32))).1) (by decide) (by decide) ?_
  refine W.an d50_79 rfl rfl ?_
  refine W.ic d50_80 1 rfl ?_
  refine W.putF (host := "") (Or.inl (X.w 27 rfl)) Via.refl BC Ab (Or.inr ⟨(X.w 28 rfl), rfl, rfl⟩) (X.w 3 rfl) (ty := .byte) (by decide) (by decide) (by decide) gb (Safe.blank W.hZ.alike Ab BV) d50_81 ?_
  intro T h W Wr1 BC'
  replace BV := BV.other Wr1 (Or.inr (slot_ne (Or.inr (X.w 30 rfl)) (Or.inr (X.w 28 rfl)) (by decide) (t := (.array .byte)) (t' := .byte) (by decide) (by decide)))
  replace FV := FV.keep (Keep.of_wr Wr1) (nin1 (Exa.ne Aa Ab (by decide)))
  replace FC := FC.keep (Keep.of_wr Wr1) (nin1 (Exa.ne Aa Ab (by decide)))
  replace FN := FN.keep (Keep.of_wr Wr1) (nin1 (Exa.ne Aa Ab (by decide)))
  replace FM := FM.keep (Keep.of_wr Wr1) (nin1 (Exa.ne Aa Ab (by decide)))
  replace V := V.keep (Keep.of_wr Wr1) (nin1 (Ne.symm (Exa.neArv Ab V (X.w 3 rfl))))
  replace KP := KP.otrM (Keep.of_wr Wr1) (by simp)
  replace Ab := Ab.keep (Keep.of_wr Wr1)
  replace Aa := Aa.keep (Keep.of_wr Wr1)
  replace hsz := W.size
  replace BC := BC'
  refine W.an d50_84 rfl rfl ?_
  refine W.an d50_85 rfl rfl ?_
  refine W.ic d50_86 0 rfl ?_
  refine W.il d50_87 rfl ?_
  refine W.ic d50_89 1 rfl ?_
  refine Go.step (fun _ kz => XS.ishl W.here W.hx rfl (W.d d50_90) rfl kz) ?_
  show Go (g := mkF m 91 #[rv b, rv a, .val .null, rv t, iv (N cs.length)] [(.int ((N cs.length) <<< ((1 : Int32) &&& 31))), (.int 0), (.ref t), (.ref b)]) ..
  rw [N_shl1]
  show Go (g := mkF m 91 #[rv b, rv a, .val .null, rv t, iv (N cs.length)] [(.int (N (2 * cs.length))), (.int 0), (.ref t), (.ref b)]) ..
  refine W.callS (X.w 131 rfl) (X.w 132 rfl) (X.w 133 rfl) (X.w 134 rfl) (by decide) (c_cor X t _ (2 * k) (2 * cs.length) _ _ W.ext cB V (encU_len _) (by omega) (by omega)) (by decide) (Wd := 1) (by decide) [(.ref t), (.int (0 : Int32)), (.int (N (2 * cs.length)))] [(.ref b)] rfl pd_22 rfl rfl rfl (Nat.le_of_eq rfl) d50_91 (by decide) (by decide) ?_
  intro v T h vm W hQ C
  obtain ⟨b2, kb2, rfl, -, hn_b2, Kb2, Vb2⟩ := hQ
  have ne_b_b2 : b ≠ b2 := Nat.ne_of_lt (Nat.lt_of_lt_of_le Ab.lt hn_b2)
  have ne_a_b2 : a ≠ b2 := Nat.ne_of_lt (Nat.lt_of_lt_of_le Aa.lt hn_b2)
  have ne_t_b2 : t ≠ b2 := Nat.ne_of_lt (Nat.lt_of_lt_of_le V.lt hn_b2)
  have sz_b2 : h0.size ≤ b2 := Nat.le_trans KP.1 hn_b2
  have gb2 : Z.heap.size ≤ b2 := Nat.le_trans hsz hn_b2
  replace BV := BV.keep Kb2 nin0
  replace BC := BC.keep Kb2 nin0
  replace FV := FV.keep Kb2 nin0
  replace FC := FC.keep Kb2 nin0
  replace FN := FN.keep Kb2 nin0
  replace FM := FM.keep Kb2 nin0
  replace V := V.keep Kb2 nin0
  replace KP := KP.otr0 Kb2
  replace Ab := Ab.keep Kb2
  replace Aa := Aa.keep Kb2
  replace hsz := W.size
  show Go (g := mkF m 94 #[rv b, rv a, .val .null, rv t, iv (N cs.length)] [(.ref b2), (.ref b)]) ..
  refine W.putF (host := "") (Or.inl (X.w 29 rfl)) Via.refl BV Ab (Or.inr ⟨(X.w 30 rfl), rfl, rfl⟩) (X.w 3 rfl) (ty := (.array .byte)) (by decide) rfl rfl gb (Safe.blank W.hZ.alike Ab BV) d50_94 ?_
  intro T h W Wr3 BV'
  replace BC := BC.other Wr3 (Or.inr (slot_ne (Or.inr (X.w 28 rfl)) (Or.inr (X.w 30 rfl)) (by decide) (t := .byte) (t' := (.array .byte)) (by decide) (by decide)))
  replace FV := FV.keep (Keep.of_wr Wr3) (nin1 (Exa.ne Aa Ab (by decide)))
  replace FC := FC.keep (Keep.of_wr Wr3) (nin1 (Exa.ne Aa Ab (by decide)))
  replace FN := FN.keep (Keep.of_wr Wr3) (nin1 (Exa.ne Aa Ab (by decide)))
  replace FM := FM.keep (Keep.of_wr Wr3) (nin1 (Exa.ne Aa Ab (by decide)))
  replace V := V.keep (Keep.of_wr Wr3) (nin1 (Ne.symm (Exa.neArv Ab V (X.w 3 rfl))))
  replace KP := KP.otrM (Keep.of_wr Wr3) (by simp)
  replace Vb2 := Vb2.keep (Keep.of_wr Wr3) (nin1 (Ne.symm ne_b_b2))
  replace Ab := Ab.keep (Keep.of_wr Wr3)
  replace Aa := Aa.keep (Keep.of_wr Wr3)
  replace hsz := W.size
  replace BV := BV'
  exact W.retV d50_97 (⟨rfl, KP, Or.inr ⟨b2, _, Ab, BV, BC, Vb2, hp, by omega⟩⟩) (by decide) (by decide)

theorem efsis1 (m : MethodId) (x0 : Addr) (x1 : Addr) : entryFrame m #[(.ref x0), (.ref x1)] 2 = mkF m 0 #[.val (.ref x0), .val (.ref x1)] [] := by first | (simp [entryFrame, mkF, argsToLocals, Value.category]; done) | rfl
set_option maxRecDepth 65536 in
set_option maxHeartbeats 40000000 in
theorem c_sis1 {l : Launch} {Z : State} {a0 : Array Value} {G1 : Int32} (X : Ctx Z a0 G1) (b a t : Addr) (kt : ClassId) (k : Nat) (cs : List Int32) (h0 : Heap) (hE : Ext Z.heap h0) (gb : Z.heap.size ≤ b) (Ab : Exa Z h0 b "java/lang/String") (BV : Fld Z h0 b "java/lang/String" "value" "[B" .null) (BC : Fld Z h0 b "java/lang/String" "coder" "B" (.int (0 : Int32))) (Aa : Exa Z h0 a "java/lang/StringBuilder") (FV : Fld Z h0 a "java/lang/AbstractStringBuilder" "value" "[B" (.ref t)) (FC : Fld Z h0 a "java/lang/AbstractStringBuilder" "coder" "B" (.int (1 : Int32))) (FN : Fld Z h0 a "java/lang/AbstractStringBuilder" "count" "I" (.int (N cs.length))) (FM : Fld Z h0 a "java/lang/AbstractStringBuilder" "maybeLatin1" "Z" (.int (0 : Int32))) (cB : Z.vm.findClass "[B" = some kt) (V : Arv Z h0 t kt .byte (N (2 * k)) (encU cs) (.int (0 : Int32))) (hk : k ≤ 8) (hj : cs.length ≤ k) (hp : ∀ c ∈ cs, Ch c) :
    Con l Z consts_1 (⟨"java/lang/String", "<init>", "(Ljava/lang/StringBuilder;)V"⟩ : MethodName) jdk_42_method_53_code 2 none [] ({ frames := 4, cells := 1, slots := 16, locals := 92 } : Room) #[(.ref b), (.ref a)] h0 (fun v h => v = none ∧ Keep h0 h [b] ∧ StrX Z h b cs) := by
  refine Con.intro (plainFor_of_name pn_0) hE X.el ?_
  intro p e s m below meth c T W
  have hsz := W.size
  refine Go.cast (efsis1 m b a) ?_
  refine W.an d51_0 rfl rfl ?_
  refine W.an d51_1 rfl rfl ?_
  refine Go.step (fun _ kz => XS.aconstNull W.here W.hx rfl (W.d d51_2) kz) ?_
  show Go (g := mkF m 3 #[rv b, rv a] [.null, (.ref a), (.ref b)]) ..
  refine W.special rfl (X.w 114 rfl) (X.w 115 rfl) (X.w 4 rfl) (X.w 116 rfl) (by decide) (c_sia1 X b a t _ k cs _ W.ext gb Ab BV BC Aa FV FC FN FM cB V hk hj hp) (by decide) (Wd := 0) (by decide) b [(.ref a), .null] [] rfl pd_30 rfl rfl rfl (Nat.le_of_eq rfl) d51_3 (by decide) (by decide) ?_
  intro v T h vm W hQ C
  obtain ⟨rfl, hK, hS⟩ := hQ
  show Go (g := mkF m 6 #[rv b, rv a] []) ..
  exact W.retV d51_6 (⟨rfl, hK, hS⟩) (by decide) (by decide)

theorem eftst (m : MethodId) (x0 : Addr) : entryFrame m #[(.ref x0)] 1 = mkF m 0 #[.val (.ref x0)] [] := by first | (simp [entryFrame, mkF, argsToLocals, Value.category]; done) | rfl
set_option maxRecDepth 65536 in
set_option maxHeartbeats 40000000 in
theorem c_tst {l : Launch} {Z : State} {a0 : Array Value} {G1 : Int32} (X : Ctx Z a0 G1) (a d : Addr) (kd : ClassId) (zd : Int32) (vd : List Value) (n : Nat) (cs : List Int32) (hh : Heap) (h0 : Heap) (hE : Ext Z.heap h0) (B : Bd Z hh h0 a d kd zd vd n cs) (hn : n ≤ 3) :
    Con l Z consts_1 (⟨"java/lang/StringBuilder", "toString", "()Ljava/lang/String;"⟩ : MethodName) jdk_67_method_42_code 1 (some (.object "java/lang/String")) [] ({ frames := 5, cells := 2, slots := 20, locals := 106 } : Room) #[(.ref a)] h0 (fun v h => ∃ r : Addr, v = some (.ref r) ∧ Keep hh h [] ∧ StrX Z h r cs) := by
  refine Con.intro (plainFor_of_name pn_5) hE X.el ?_
  intro p e s m below meth c T W
  have hsz := W.size
  refine Go.cast (eftst m a) ?_
  obtain ⟨KB, ha, hzz, Aa, Vd, t, kt, k, ht, cB, hk, hj, FV, FN, FM, hB⟩ := B
  have ga : Z.heap.size ≤ a := Nat.le_trans hzz ha
  have gt : Z.heap.size ≤ t := Nat.le_trans hzz ht
  rcases hB with ⟨FC, V, hp⟩ | ⟨FC, V, hp⟩
  · have KP := Keep.refl h0 []
    refine W.new (X.w 110 rfl) (X.w 3 rfl) (X.w 4 rfl) d52_0 (by decide) (by decide) ?_
    intro T h b1 hb1 W Eb1 Ab1 Db1
    have ne_a_b1 : a ≠ b1 := by rw [hb1]; exact Nat.ne_of_lt Aa.lt
    have ne_t_b1 : t ≠ b1 := by rw [hb1]; exact Nat.ne_of_lt V.lt
    have sz_b1 : h0.size ≤ b1 := by rw [hb1]; exact KP.1
    have gb1 : Z.heap.size ≤ b1 := by rw [hb1]; exact hsz
    replace FV := FV.ext Eb1
    replace FC := FC.ext Eb1
    replace FN := FN.ext Eb1
    replace FM := FM.ext Eb1
    replace V := V.ext Eb1
    replace KP := KP.ext Eb1
    replace Aa := Aa.ext Eb1
    replace hsz := W.size
    have F_coder_b1 : Fld Z h b1 "java/lang/String" "coder" "B" (.int (0 : Int32)) := Db1 (Or.inr (X.w 28 rfl)) (ty := .byte) (by decide)
    have F_value_b1 : Fld Z h b1 "java/lang/String" "value" "[B" .null := Db1 (Or.inr (X.w 30 rfl)) (ty := (.array .byte)) (by decide)
    refine W.dp d52_3 rfl ?_
    refine W.an d52_4 rfl rfl ?_
    refine W.special rfl (X.w 111 rfl) (X.w 112 rfl) (X.w 4 rfl) (X.w 113 rfl) (by decide) (c_sis0 X b1 a t _ k cs _ W.ext gb1 Ab1 F_value_b1 F_coder_b1 Aa FV FC FN FM cB V (by omega) hj hp) (by decide) (Wd := 1) (by decide) b1 [(.ref a)] [(.ref b1)] rfl pd_31 rfl rfl rfl (Nat.le_of_eq rfl) d52_5 (by decide) (by decide) ?_
    intro v T h vm W hQ C
    obtain ⟨rfl, Kb1, Sb1⟩ := hQ
    replace FV := FV.keep Kb1 (nin1 ne_a_b1)
    replace FC := FC.keep Kb1 (nin1 ne_a_b1)
    replace FN := FN.keep Kb1 (nin1 ne_a_b1)
    replace FM := FM.keep Kb1 (nin1 ne_a_b1)
    replace V := V.keep Kb1 (nin1 ne_t_b1)
    replace KP := KP.otrN Kb1 sz_b1
    replace Aa := Aa.keep Kb1
    replace hsz := W.size
    show Go (g := mkF m 8 #[rv a] [(.ref b1)]) ..
    exact W.retR rfl rfl rfl d52_8 (⟨b1, rfl, KB.otr0 KP, Sb1⟩) (by decide) (by decide)
  · have KP := Keep.refl h0 []
    refine W.new (X.w 110 rfl) (X.w 3 rfl) (X.w 4 rfl) d52_0 (by decide) (by decide) ?_
    intro T h b2 hb2 W Eb2 Ab2 Db2
    have ne_a_b2 : a ≠ b2 := by rw [hb2]; exact Nat.ne_of_lt Aa.lt
    have ne_t_b2 : t ≠ b2 := by rw [hb2]; exact Nat.ne_of_lt V.lt
    have sz_b2 : h0.size ≤ b2 := by rw [hb2]; exact KP.1
    have gb2 : Z.heap.size ≤ b2 := by rw [hb2]; exact hsz
    replace FV := FV.ext Eb2
    replace FC := FC.ext Eb2
    replace FN := FN.ext Eb2
    replace FM := FM.ext Eb2
    replace V := V.ext Eb2
    replace KP := KP.ext Eb2
    replace Aa := Aa.ext Eb2
    replace hsz := W.size
    have F_coder_b2 : Fld Z h b2 "java/lang/String" "coder" "B" (.int (0 : Int32)) := Db2 (Or.inr (X.w 28 rfl)) (ty := .byte) (by decide)
    have F_value_b2 : Fld Z h b2 "java/lang/String" "value" "[B" .null := Db2 (Or.inr (X.w 30 rfl)) (ty := (.array .byte)) (by decide)
    refine W.dp d52_3 rfl ?_
    refine W.an d52_4 rfl rfl ?_
    refine W.special rfl (X.w 111 rfl) (X.w 112 rfl) (X.w 4 rfl) (X.w 113 rfl) (by decide) (c_sis1 X b2 a t _ k cs _ W.ext gb2 Ab2 F_value_b2 F_coder_b2 Aa FV FC FN FM cB V (by omega) hj hp) (by decide) (Wd := 1) (by decide) b2 [(.ref a)] [(.ref b2)] rfl pd_31 rfl rfl rfl (Nat.le_of_eq rfl) d52_5 (by decide) (by decide) ?_
    intro v T h vm W hQ C
    obtain ⟨rfl, Kb2, Sb2⟩ := hQ
    replace FV := FV.keep Kb2 (nin1 ne_a_b2)
    replace FC := FC.keep Kb2 (nin1 ne_a_b2)
    replace FN := FN.keep Kb2 (nin1 ne_a_b2)
    replace FM := FM.keep Kb2 (nin1 ne_a_b2)
    replace V := V.keep Kb2 (nin1 ne_t_b2)
    replace KP := KP.otrN Kb2 sz_b2
    replace Aa := Aa.keep Kb2
    replace hsz := W.size
    show Go (g := mkF m 8 #[rv a] [(.ref b2)]) ..
    exact W.retR rfl rfl rfl d52_8 (⟨b2, rfl, KB.otr0 KP, Sb2⟩) (by decide) (by decide)

theorem efesc0 (m : MethodId) (x0 : Addr) : entryFrame m #[(.ref x0)] 6 = mkF m 0 #[.val (.ref x0), .unset, .unset, .unset, .unset, .unset] [] := by first | (simp [entryFrame, mkF, argsToLocals, Value.category]; done) | rfl
set_option maxRecDepth 65536 in
set_option maxHeartbeats 40000000 in
theorem c_esc0 {l : Launch} {Z : State} {a0 : Array Value} {G1 : Int32} (X : Ctx Z a0 G1) (a : Addr) (sv : Value) (h0 : Heap) (hE : Ext Z.heap h0) (Y : U16 Z sv) (S : Str Z h0 a [])  :
    Con l Z consts_1 (⟨"com/example/wary_validator/waryvalidator/messageinterpolation/MessageTemplates", "escape", "(Ljava/lang/String;)Ljava/lang/String;"⟩ : MethodName) prog_23_method_6_code 6 (some (.object "java/lang/String")) [] ({ frames := 6, cells := 5, slots := 27, locals := 118 } : Room) #[(.ref a)] h0 (fun v h => ∃ r : Addr, v = some (.ref r) ∧ Keep h0 h [] ∧ StrX Z h r ([] : List Int32)) := by
  refine Con.intro (plainFor_of_name pn_8) hE X.el ?_
  intro p e s m below meth c T W
  have hsz := W.size
  refine Go.cast (efesc0 m a) ?_
  have KP := Keep.refl h0 []
  refine W.new (X.w 35 rfl) (X.w 36 rfl) (X.w 37 rfl) d53_0 (by decide) (by decide) ?_
  intro T h b1 hb1 W Eb1 Ab1 Db1
  have sz_b1 : h0.size ≤ b1 := by rw [hb1]; exact KP.1
  have ne_a_b1 : a ≠ b1 := by rw [hb1]; exact Nat.ne_of_lt S.exa.lt
  have gb1 : Z.heap.size ≤ b1 := by rw [hb1]; exact hsz
  replace KP := KP.ext Eb1
  replace S := S.ext Eb1
  replace hsz := W.size
  have F_value_b1 : Fld Z h b1 "java/lang/AbstractStringBuilder" "value" "[B" .null := Db1 (Or.inl (X.w 60 rfl)) (ty := (.array .byte)) (by decide)
  have F_coder_b1 : Fld Z h b1 "java/lang/AbstractStringBuilder" "coder" "B" (.int (0 : Int32)) := Db1 (Or.inl (X.w 62 rfl)) (ty := .byte) (by decide)
  have F_count_b1 : Fld Z h b1 "java/lang/AbstractStringBuilder" "count" "I" (.int (0 : Int32)) := Db1 (Or.inl (X.w 91 rfl)) (ty := .int) (by decide)
  have F_maybeLatin1_b1 : Fld Z h b1 "java/lang/AbstractStringBuilder" "maybeLatin1" "Z" (.int (0 : Int32)) := Db1 (Or.inl (X.w 231 rfl)) (ty := .boolean) (by decide)
  refine W.dp d53_3 rfl ?_
  refine W.an d53_4 rfl rfl ?_
  refine W.virtual (X.w 38 rfl) (X.w 39 rfl) (notFace_of_selects (args := #[]) (mvT W.hZ (X.w 41 rfl))) (X.w 41 rfl) (X.w 40 rfl) (X.w 4 rfl) (X.w 42 rfl) (by decide) (c_lenx X a _ _ W.ext (Or.inl S)) (by decide) (Wd := 2) (by decide) a S.exa [] [(.ref b1), (.ref b1)] rfl pd_28 rfl rfl rfl (Nat.le_of_eq rfl) d53_5 (by decide) (by decide) ?_
  intro v T h vm W hQ C
  obtain ⟨rfl, rfl⟩ := hQ
  show Go (g := mkF m 8 #[rv a, .unset, .unset, .unset, .unset, .unset] [(.int (N 0)), (.ref b1), (.ref b1)]) ..
  refine W.special rfl (X.w 48 rfl) (X.w 49 rfl) (X.w 37 rfl) (X.w 50 rfl) (by decide) (c_sbi X b1 0 _ W.ext gb1 Ab1 F_value_b1 F_coder_b1 F_count_b1 F_maybeLatin1_b1 (by decide)) (by decide) (Wd := 1) (by decide) b1 [(.int (N 0))] [(.ref b1)] rfl pd_20 rfl rfl rfl (Nat.le_of_eq rfl) d53_8 (by decide) (by decide) ?_
  intro v T h vm W hQ C
  obtain ⟨rfl, Kb1, t, kt, hn_t, cB, FV, FC, FN, FM, Vt⟩ := hQ
  have sz_t : h0.size ≤ t := Nat.le_trans KP.1 hn_t
  have ne_a_t : a ≠ t := Nat.ne_of_lt (Nat.lt_of_lt_of_le S.exa.lt hn_t)
  have ne_b1_t : b1 ≠ t := Nat.ne_of_lt (Nat.lt_of_lt_of_le Ab1.lt hn_t)
  have gt : Z.heap.size ≤ t := Nat.le_trans hsz hn_t
  replace KP := KP.otrN Kb1 sz_b1
  replace S := S.keepE Kb1 Ab1 (by decide) (X.w 36 rfl)
  replace Ab1 := Ab1.keep Kb1
  replace hsz := W.size
  show Go (g := mkF m 11 #[rv a, .unset, .unset, .unset, .unset, .unset] [(.ref b1)]) ..
  refine W.asn (Ls' := #[rv a, rv b1, .unset, .unset, .unset, .unset]) d53_11 rfl rfl ?_
  refine W.an d53_12 rfl rfl ?_
  refine W.virtual (X.w 63 rfl) (X.w 64 rfl) (notFace_of_selects (args := #[]) (mvT W.hZ (X.w 66 rfl))) (X.w 66 rfl) (X.w 65 rfl) (X.w 4 rfl) (X.w 67 rfl) (by decide) (c_tcx0 X a  sv _ W.ext Y S) (by decide) (Wd := 0) (by decide) a S.exa [] [] rfl pd_32 rfl rfl rfl (Nat.le_of_eq rfl) d53_13 (by decide) (by decide) ?_
  intro v T h vm W hQ C
  obtain ⟨b2, kb2, rfl, -, Kb2, Vb2⟩ := hQ
  replace KP := KP.otr0 Kb2
  replace S := S.keep0 Kb2
  replace FV := FV.keep Kb2 nin0
  replace FC := FC.keep Kb2 nin0
  replace FN := FN.keep Kb2 nin0
  replace FM := FM.keep Kb2 nin0
  replace Vt := Vt.keep Kb2 nin0
  replace Ab1 := Ab1.keep Kb2
  replace hsz := W.size
  show Go (g := mkF m 16 #[rv a, rv b1, .unset, .unset, .unset, .unset] [(.ref b2)]) ..
  refine W.asn (Ls' := #[rv a, rv b1, rv b2, .unset, .unset, .unset]) d53_16 rfl rfl ?_
  refine W.an d53_17 rfl rfl ?_
  refine W.arraylength Vb2 d53_18 ?_
  refine W.isn (Ls' := #[rv a, rv b1, rv b2, iv 0, .unset, .unset]) d53_19 rfl ?_
  have B : Bd Z h0 h b1 b2 kb2 (0 : Int32) [] 0 ([] : List Int32) := ⟨KP, sz_b1, hE.1, Ab1, Vb2, t, kt, 0, sz_t, cB, Or.inl rfl, Nat.zero_le _, FV, FN, FM, Or.inl ⟨FC, Vt, sm0⟩⟩
  refine W.ic d53_20 0 rfl ?_
  refine W.iss (Ls' := #[rv a, rv b1, rv b2, iv 0, iv 0, .unset]) d53_21 rfl ?_
  refine W.il d53_23 rfl ?_
  refine W.iN d53_25 rfl ?_
  refine W.cy (pc' := 83) d53_26 (flt (by decide : ¬ ((0 : Int32) < (0 : Int32)))).2.1 (by decide) (by decide) ?_
  refine W.an d53_83 rfl rfl ?_
  refine W.virtual (X.w 105 rfl) (X.w 106 rfl) (notFace_of_selects (args := #[]) (mvT W.hZ (X.w 108 rfl))) (X.w 108 rfl) (X.w 107 rfl) (X.w 37 rfl) (X.w 109 rfl) (by decide) (c_tst X b1 b2 _ (0 : Int32) _ 0 ([] : List Int32) h0 _ W.ext B (by decide)) (by decide) (Wd := 0) (by decide) b1 B.2.2.2.1 [] [] rfl pd_33 rfl rfl rfl (Nat.le_of_eq rfl) d53_84 (by decide) (by decide) ?_
  intro v T h vm W hQ C
  obtain ⟨r, rfl, KE, SR⟩ := hQ
  show Go (g := mkF m 87 #[rv a, rv b1, rv b2, iv 0, iv 0, .unset] [(.ref r)]) ..
  exact W.retR rfl rfl rfl d53_87 (⟨r, rfl, KE, SR⟩) (by decide) (by decide)

theorem efesc1 (m : MethodId) (x0 : Addr) : entryFrame m #[(.ref x0)] 6 = mkF m 0 #[.val (.ref x0), .unset, .unset, .unset, .unset, .unset] [] := by first | (simp [entryFrame, mkF, argsToLocals, Value.category]; done) | rfl
set_option maxRecDepth 65536 in
set_option maxHeartbeats 40000000 in
theorem c_esc1 {l : Launch} {Z : State} {a0 : Array Value} {G1 : Int32} (X : Ctx Z a0 G1) (a : Addr) (c0 : Int32) (sv : Value) (h0 : Heap) (hE : Ext Z.heap h0) (Y : U16 Z sv) (S : StrX Z h0 a [c0]) (t0 : Ch c0) :
    Con l Z consts_1 (⟨"com/example/wary_validator/waryvalidator/messageinterpolation/MessageTemplates", "escape", "(Ljava/lang/String;)Ljava/lang/String;"⟩ : MethodName) prog_23_method_6_code 6 (some (.object "java/lang/String")) [] ({ frames := 8, cells := 9, slots := 100, locals := 118 } : Room) #[(.ref a)] h0 (fun v h => ∃ r : Addr, v = some (.ref r) ∧ Keep h0 h [] ∧ StrX Z h r (([] : List Int32) ++ esc c0)) := by
  refine Con.intro (plainFor_of_name pn_8) hE X.el ?_
  intro p e s m below meth c T W
  have hsz := W.size
  refine Go.cast (efesc1 m a) ?_
  have KP := Keep.refl h0 []
  refine W.new (X.w 35 rfl) (X.w 36 rfl) (X.w 37 rfl) d53_0 (by decide) (by decide) ?_
  intro T h b1 hb1 W Eb1 Ab1 Db1
  have sz_b1 : h0.size ≤ b1 := by rw [hb1]; exact KP.1
  have ne_a_b1 : a ≠ b1 := by rw [hb1]; exact Nat.ne_of_lt S.exa.lt
  have gb1 : Z.heap.size ≤ b1 := by rw [hb1]; exact hsz
  replace KP := KP.ext Eb1
  replace S := S.ext Eb1
  replace hsz := W.size
  have F_value_b1 : Fld Z h b1 "java/lang/AbstractStringBuilder" "value" "[B" .null := Db1 (Or.inl (X.w 60 rfl)) (ty := (.array .byte)) (by decide)
  have F_coder_b1 : Fld Z h b1 "java/lang/AbstractStringBuilder" "coder" "B" (.int (0 : Int32)) := Db1 (Or.inl (X.w 62 rfl)) (ty := .byte) (by decide)
  have F_count_b1 : Fld Z h b1 "java/lang/AbstractStringBuilder" "count" "I" (.int (0 : Int32)) := Db1 (Or.inl (X.w 91 rfl)) (ty := .int) (by decide)
  have F_maybeLatin1_b1 : Fld Z h b1 "java/lang/AbstractStringBuilder" "maybeLatin1" "Z" (.int (0 : Int32)) := Db1 (Or.inl (X.w 231 rfl)) (ty := .boolean) (by decide)
  refine W.dp d53_3 rfl ?_
  refine W.an d53_4 rfl rfl ?_
  refine W.virtual (X.w 38 rfl) (X.w 39 rfl) (notFace_of_selects (args := #[]) (mvT W.hZ (X.w 41 rfl))) (X.w 41 rfl) (X.w 40 rfl) (X.w 4 rfl) (X.w 42 rfl) (by decide) (c_lenx X a _ _ W.ext S) (by decide) (Wd := 2) (by decide) a S.exa [] [(.ref b1), (.ref b1)] rfl pd_28 rfl rfl rfl (Nat.le_of_eq rfl) d53_5 (by decide) (by decide) ?_
  intro v T h vm W hQ C
  obtain ⟨rfl, rfl⟩ := hQ
  show Go (g := mkF m 8 #[rv a, .unset, .unset, .unset, .unset, .unset] [(.int (N 1)), (.ref b1), (.ref b1)]) ..
  refine W.special rfl (X.w 48 rfl) (X.w 49 rfl) (X.w 37 rfl) (X.w 50 rfl) (by decide) (c_sbi X b1 1 _ W.ext gb1 Ab1 F_value_b1 F_coder_b1 F_count_b1 F_maybeLatin1_b1 (by decide)) (by decide) (Wd := 1) (by decide) b1 [(.int (N 1))] [(.ref b1)] rfl pd_20 rfl rfl rfl (Nat.le_of_eq rfl) d53_8 (by decide) (by decide) ?_
  intro v T h vm W hQ C
  obtain ⟨rfl, Kb1, t, kt, hn_t, cB, FV, FC, FN, FM, Vt⟩ := hQ
  have sz_t : h0.size ≤ t := Nat.le_trans KP.1 hn_t
  have ne_a_t : a ≠ t := Nat.ne_of_lt (Nat.lt_of_lt_of_le S.exa.lt hn_t)
  have ne_b1_t : b1 ≠ t := Nat.ne_of_lt (Nat.lt_of_lt_of_le Ab1.lt hn_t)
  have gt : Z.heap.size ≤ t := Nat.le_trans hsz hn_t
  replace KP := KP.otrN Kb1 sz_b1
  replace S := S.keepE Kb1 Ab1 (by decide) (X.w 36 rfl)
  replace Ab1 := Ab1.keep Kb1
  replace hsz := W.size
  show Go (g := mkF m 11 #[rv a, .unset, .unset, .unset, .unset, .unset] [(.ref b1)]) ..
  refine W.asn (Ls' := #[rv a, rv b1, .unset, .unset, .unset, .unset]) d53_11 rfl rfl ?_
  refine W.an d53_12 rfl rfl ?_
  refine W.virtual (X.w 63 rfl) (X.w 64 rfl) (notFace_of_selects (args := #[]) (mvT W.hZ (X.w 66 rfl))) (X.w 66 rfl) (X.w 65 rfl) (X.w 4 rfl) (X.w 67 rfl) (by decide) (c_tcx1 X a c0 sv _ W.ext Y S) (by decide) (Wd := 0) (by decide) a S.exa [] [] rfl pd_32 rfl rfl rfl (Nat.le_of_eq rfl) d53_13 (by decide) (by decide) ?_
  intro v T h vm W hQ C
  obtain ⟨b2, kb2, rfl, -, Kb2, Vb2⟩ := hQ
  replace KP := KP.otr0 Kb2
  replace S := S.keep0 Kb2
  replace FV := FV.keep Kb2 nin0
  replace FC := FC.keep Kb2 nin0
  replace FN := FN.keep Kb2 nin0
  replace FM := FM.keep Kb2 nin0
  replace Vt := Vt.keep Kb2 nin0
  replace Ab1 := Ab1.keep Kb2
  replace hsz := W.size
  show Go (g := mkF m 16 #[rv a, rv b1, .unset, .unset, .unset, .unset] [(.ref b2)]) ..
  refine W.asn (Ls' := #[rv a, rv b1, rv b2, .unset, .unset, .unset]) d53_16 rfl rfl ?_
  refine W.an d53_17 rfl rfl ?_
  refine W.arraylength Vb2 d53_18 ?_
  refine W.isn (Ls' := #[rv a, rv b1, rv b2, iv 1, .unset, .unset]) d53_19 rfl ?_
  have B : Bd Z h0 h b1 b2 kb2 (1 : Int32) [(.int c0)] 1 ([] : List Int32) := ⟨KP, sz_b1, hE.1, Ab1, Vb2, t, kt, 1, sz_t, cB, Or.inl rfl, Nat.zero_le _, FV, FN, FM, Or.inl ⟨FC, Vt, sm0⟩⟩
  refine W.ic d53_20 0 rfl ?_
  refine W.iss (Ls' := #[rv a, rv b1, rv b2, iv 1, iv 0, .unset]) d53_21 rfl ?_
  refine W.il d53_23 rfl ?_
  refine W.iN d53_25 rfl ?_
  refine W.cn d53_26 (tlt (by decide : (0 : Int32) < (1 : Int32))).2.1 ?_
  refine W.an d53_29 rfl rfl ?_
  refine W.il d53_30 rfl ?_
  refine W.caload (v := .int c0) B.2.2.2.2.1 (by decide) rfl d53_32 ?_
  refine W.iss (Ls' := #[rv a, rv b1, rv b2, iv 1, iv 0, iv c0]) d53_33 rfl ?_
  have J77 : ∀ (T : State) (h : Heap) (vm : Vm), Wk p l e ({ frames := 8, cells := 9, slots := 100, locals := 118 } : Room) s m #[(.ref a)] below meth c Z a0 consts_1 (⟨"com/example/wary_validator/waryvalidator/messageinterpolation/MessageTemplates", "escape", "(Ljava/lang/String;)Ljava/lang/String;"⟩ : MethodName) prog_23_method_6_code 6 (some (.object "java/lang/String")) T h vm 7 80 → Bd Z h0 h b1 b2 kb2 (1 : Int32) [(.int c0)] 1 (([] : List Int32) ++ esc c0) → Go p e below s Z consts_1 ({ frames := 8, cells := 9, slots := 100, locals := 118 } : Room).cells ({ frames := 8, cells := 9, slots := 100, locals := 118 } : Room).slots (fun v h => ∃ r : Addr, v = some (.ref r) ∧ Keep h0 h [] ∧ StrX Z h r (([] : List Int32) ++ esc c0)) T (mkF m 77 #[rv a, rv b1, rv b2, iv 1, iv 0, iv c0] []) := by
    intro T h vm W B
    have hsz := W.size
    refine W.ii (Ls' := #[rv a, rv b1, rv b2, iv 1, iv 1, iv c0]) d53_77 rfl rfl ?_
    refine W.gt (pc' := 23) d53_80 (by decide) (by decide) ?_
    refine W.il d53_23 rfl ?_
    refine W.iN d53_25 rfl ?_
    refine W.cy (pc' := 83) d53_26 (flt (by decide : ¬ ((1 : Int32) < (1 : Int32)))).2.1 (by decide) (by decide) ?_
    refine W.an d53_83 rfl rfl ?_
    refine W.virtual (X.w 105 rfl) (X.w 106 rfl) (notFace_of_selects (args := #[]) (mvT W.hZ (X.w 108 rfl))) (X.w 108 rfl) (X.w 107 rfl) (X.w 37 rfl) (X.w 109 rfl) (by decide) (c_tst X b1 b2 _ (1 : Int32) _ 1 (([] : List Int32) ++ esc c0) h0 _ W.ext B (by decide)) (by decide) (Wd := 0) (by decide) b1 B.2.2.2.1 [] [] rfl pd_33 rfl rfl rfl (Nat.le_of_eq rfl) d53_84 (by decide) (by decide) ?_
    intro v T h vm W hQ C
    obtain ⟨r, rfl, KE, SR⟩ := hQ
    show Go (g := mkF m 87 #[rv a, rv b1, rv b2, iv 1, iv 1, iv c0] [(.ref r)]) ..
    exact W.retR rfl rfl rfl d53_87 (⟨r, rfl, KE, SR⟩) (by decide) (by decide)
  by_cases hs : Sp c0
  · have J63 : Go p e below s Z consts_1 ({ frames := 8, cells := 9, slots := 100, locals := 118 } : Room).cells ({ frames := 8, cells := 9, slots := 100, locals := 118 } : Room).slots (fun v h => ∃ r : Addr, v = some (.ref r) ∧ Keep h0 h [] ∧ StrX Z h r (([] : List Int32) ++ esc c0)) T (mkF m 63 #[rv a, rv b1, rv b2, iv 1, iv 0, iv c0] []) := by
      refine W.an d53_63 rfl rfl ?_
      refine W.bp d53_64 92 rfl ?_
      refine W.virtual (X.w 80 rfl) (X.w 81 rfl) (notFace_of_selects (args := #[]) (mvT W.hZ (X.w 83 rfl))) (X.w 83 rfl) (X.w 82 rfl) (X.w 37 rfl) (X.w 84 rfl) (by decide) (c_sap X b1 b2 _ (1 : Int32) _ 1 ([] : List Int32) (92 : Int32) sv h0 _ W.ext Y B (by decide) (by decide) (by have e0 := esc_len c0; simp only [List.length_append, List.length_nil, List.length_cons] <;> omega)) (by decide) (Wd := 0) (by decide) b1 B.2.2.2.1 [(.int (92 : Int32))] [] rfl pd_34 rfl rfl rfl (Nat.le_of_eq rfl) d53_66 (by decide) (by decide) ?_
      intro v T h vm W hQ C
      obtain ⟨rfl, B⟩ := hQ
      show Go (g := mkF m 69 #[rv a, rv b1, rv b2, iv 1, iv 0, iv c0] [(.ref b1)]) ..
      refine W.pp d53_69 rfl ?_
      refine W.an d53_70 rfl rfl ?_
      refine W.il d53_71 rfl ?_
      refine W.virtual (X.w 80 rfl) (X.w 81 rfl) (notFace_of_selects (args := #[]) (mvT W.hZ (X.w 83 rfl))) (X.w 83 rfl) (X.w 82 rfl) (X.w 37 rfl) (X.w 84 rfl) (by decide) (c_sap X b1 b2 _ (1 : Int32) _ 1 (([] : List Int32) ++ [92]) c0 sv h0 _ W.ext Y B t0 (by decide) (by have e0 := esc_len c0; simp only [List.length_append, List.length_nil, List.length_cons] <;> omega)) (by decide) (Wd := 0) (by decide) b1 B.2.2.2.1 [(.int c0)] [] rfl pd_34 rfl rfl rfl (Nat.le_of_eq rfl) d53_73 (by decide) (by decide) ?_
      intro v T h vm W hQ C
      obtain ⟨rfl, B⟩ := hQ
      show Go (g := mkF m 76 #[rv a, rv b1, rv b2, iv 1, iv 0, iv c0] [(.ref b1)]) ..
      refine W.pp d53_76 rfl ?_
      have e_ : ((([] : List Int32) ++ [92]) ++ [c0]) = (([] : List Int32) ++ esc c0) := by rw [esc_yes hs]; simp
      rw [e_] at B
      exact J77 _ _ _ W B
    rcases hs with q | q | q | q
    · refine W.il d53_35 rfl ?_
      refine W.bp d53_37 92 rfl ?_
      refine W.cy (pc' := 63) d53_39 (teq q).1 (by decide) (by decide) ?_
      exact J63
    · refine W.il d53_35 rfl ?_
      refine W.bp d53_37 92 rfl ?_
      refine W.cn d53_39 (feq (by rw [q]; decide)).1 ?_
      refine W.il d53_42 rfl ?_
      refine W.bp d53_44 123 rfl ?_
      refine W.cy (pc' := 63) d53_46 (teq q).1 (by decide) (by decide) ?_
      exact J63
    · refine W.il d53_35 rfl ?_
      refine W.bp d53_37 92 rfl ?_
      refine W.cn d53_39 (feq (by rw [q]; decide)).1 ?_
      refine W.il d53_42 rfl ?_
      refine W.bp d53_44 123 rfl ?_
      refine W.cn d53_46 (feq (by rw [q]; decide)).1 ?_
      refine W.il d53_49 rfl ?_
      refine W.bp d53_51 125 rfl ?_
      refine W.cy (pc' := 63) d53_53 (teq q).1 (by decide) (by decide) ?_
      exact J63
    · refine W.il d53_35 rfl ?_
      refine W.bp d53_37 92 rfl ?_
      refine W.cn d53_39 (feq (by rw [q]; decide)).1 ?_
      refine W.il d53_42 rfl ?_
      refine W.bp d53_44 123 rfl ?_
      refine W.cn d53_46 (feq (by rw [q]; decide)).1 ?_
      refine W.il d53_49 rfl ?_
      refine W.bp d53_51 125 rfl ?_
      refine W.cn d53_53 (feq (by rw [q]; decide)).1 ?_
      refine W.il d53_56 rfl ?_
      refine W.bp d53_58 36 rfl ?_
      refine W.cn d53_60 (teq q).2 ?_
      exact J63
  · refine W.il d53_35 rfl ?_
    refine W.bp d53_37 92 rfl ?_
    refine W.cn d53_39 (feq (fun q => hs (Or.inl q))).1 ?_
    refine W.il d53_42 rfl ?_
    refine W.bp d53_44 123 rfl ?_
    refine W.cn d53_46 (feq (fun q => hs (Or.inr (Or.inl q)))).1 ?_
    refine W.il d53_49 rfl ?_
    refine W.bp d53_51 125 rfl ?_
    refine W.cn d53_53 (feq (fun q => hs (Or.inr (Or.inr (Or.inl q))))).1 ?_
    refine W.il d53_56 rfl ?_
    refine W.bp d53_58 36 rfl ?_
    refine W.cy (pc' := 70) d53_60 (feq (fun q => hs (Or.inr (Or.inr (Or.inr q))))).2 (by decide) (by decide) ?_
    refine W.an d53_70 rfl rfl ?_
    refine W.il d53_71 rfl ?_
    refine W.virtual (X.w 80 rfl) (X.w 81 rfl) (notFace_of_selects (args := #[]) (mvT W.hZ (X.w 83 rfl))) (X.w 83 rfl) (X.w 82 rfl) (X.w 37 rfl) (X.w 84 rfl) (by decide) (c_sap X b1 b2 _ (1 : Int32) _ 1 ([] : List Int32) c0 sv h0 _ W.ext Y B t0 (by decide) (by have e0 := esc_len c0; simp only [List.length_append, List.length_nil, List.length_cons] <;> omega)) (by decide) (Wd := 0) (by decide) b1 B.2.2.2.1 [(.int c0)] [] rfl pd_34 rfl rfl rfl (Nat.le_of_eq rfl) d53_73 (by decide) (by decide) ?_
    intro v T h vm W hQ C
    obtain ⟨rfl, B⟩ := hQ
    show Go (g := mkF m 76 #[rv a, rv b1, rv b2, iv 1, iv 0, iv c0] [(.ref b1)]) ..
    refine W.pp d53_76 rfl ?_
    have e_ : (([] : List Int32) ++ [c0]) = (([] : List Int32) ++ esc c0) := by rw [esc_no hs]
    rw [e_] at B
    exact J77 _ _ _ (W.more (by decide) (by decide)) B

theorem efesc2 (m : MethodId) (x0 : Addr) : entryFrame m #[(.ref x0)] 6 = mkF m 0 #[.val (.ref x0), .unset, .unset, .unset, .unset, .unset] [] := by first | (simp [entryFrame, mkF, argsToLocals, Value.category]; done) | rfl
set_option maxRecDepth 65536 in
set_option maxHeartbeats 40000000 in
theorem c_esc2 {l : Launch} {Z : State} {a0 : Array Value} {G1 : Int32} (X : Ctx Z a0 G1) (a : Addr) (c0 c1 : Int32) (sv : Value) (h0 : Heap) (hE : Ext Z.heap h0) (Y : U16 Z sv) (S : StrX Z h0 a [c0, c1]) (t0 : Ch c0) (t1 : Ch c1) :
    Con l Z consts_1 (⟨"com/example/wary_validator/waryvalidator/messageinterpolation/MessageTemplates", "escape", "(Ljava/lang/String;)Ljava/lang/String;"⟩ : MethodName) prog_23_method_6_code 6 (some (.object "java/lang/String")) [] ({ frames := 8, cells := 13, slots := 173, locals := 118 } : Room) #[(.ref a)] h0 (fun v h => ∃ r : Addr, v = some (.ref r) ∧ Keep h0 h [] ∧ StrX Z h r ((([] : List Int32) ++ esc c0) ++ esc c1)) := by
  refine Con.intro (plainFor_of_name pn_8) hE X.el ?_
  intro p e s m below meth c T W
  have hsz := W.size
  refine Go.cast (efesc2 m a) ?_
  have KP := Keep.refl h0 []
  refine W.new (X.w 35 rfl) (X.w 36 rfl) (X.w 37 rfl) d53_0 (by decide) (by decide) ?_
  intro T h b1 hb1 W Eb1 Ab1 Db1
  have sz_b1 : h0.size ≤ b1 := by rw [hb1]; exact KP.1
  have ne_a_b1 : a ≠ b1 := by rw [hb1]; exact Nat.ne_of_lt S.exa.lt
  have gb1 : Z.heap.size ≤ b1 := by rw [hb1]; exact hsz
  replace KP := KP.ext Eb1
  replace S := S.ext Eb1
  replace hsz := W.size
  have F_value_b1 : Fld Z h b1 "java/lang/AbstractStringBuilder" "value" "[B" .null := Db1 (Or.inl (X.w 60 rfl)) (ty := (.array .byte)) (by decide)
  have F_coder_b1 : Fld Z h b1 "java/lang/AbstractStringBuilder" "coder" "B" (.int (0 : Int32)) := Db1 (Or.inl (X.w 62 rfl)) (ty := .byte) (by decide)
  have F_count_b1 : Fld Z h b1 "java/lang/AbstractStringBuilder" "count" "I" (.int (0 : Int32)) := Db1 (Or.inl (X.w 91 rfl)) (ty := .int) (by decide)
  have F_maybeLatin1_b1 : Fld Z h b1 "java/lang/AbstractStringBuilder" "maybeLatin1" "Z" (.int (0 : Int32)) := Db1 (Or.inl (X.w 231 rfl)) (ty := .boolean) (by decide)
  refine W.dp d53_3 rfl ?_
  refine W.an d53_4 rfl rfl ?_
  refine W.virtual (X.w 38 rfl) (X.w 39 rfl) (notFace_of_selects (args := #[]) (mvT W.hZ (X.w 41 rfl))) (X.w 41 rfl) (X.w 40 rfl) (X.w 4 rfl) (X.w 42 rfl) (by decide) (c_lenx X a _ _ W.ext S) (by decide) (Wd := 2) (by decide) a S.exa [] [(.ref b1), (.ref b1)] rfl pd_28 rfl rfl rfl (Nat.le_of_eq rfl) d53_5 (by decide) (by decide) ?_
  intro v T h vm W hQ C
  obtain ⟨rfl, rfl⟩ := hQ
  show Go (g := mkF m 8 #[rv a, .unset, .unset, .unset, .unset, .unset] [(.int (N 2)), (.ref b1), (.ref b1)]) ..
  refine W.special rfl (X.w 48 rfl) (X.w 49 rfl) (X.w 37 rfl) (X.w 50 rfl) (by decide) (c_sbi X b1 2 _ W.ext gb1 Ab1 F_value_b1 F_coder_b1 F_count_b1 F_maybeLatin1_b1 (by decide)) (by decide) (Wd := 1) (by decide) b1 [(.int (N 2))] [(.ref b1)] rfl pd_20 rfl rfl rfl (Nat.le_of_eq rfl) d53_8 (by decide) (by decide) ?_
  intro v T h vm W hQ C
  obtain ⟨rfl, Kb1, t, kt, hn_t, cB, FV, FC, FN, FM, Vt⟩ := hQ
  have sz_t : h0.size ≤ t := Nat.le_trans KP.1 hn_t
  have ne_a_t : a ≠ t := Nat.ne_of_lt (Nat.lt_of_lt_of_le S.exa.lt hn_t)
  have ne_b1_t : b1 ≠ t := Nat.ne_of_lt (Nat.lt_of_lt_of_le Ab1.lt hn_t)
  have gt : Z.heap.size ≤ t := Nat.le_trans hsz hn_t
  replace KP := KP.otrN Kb1 sz_b1
  replace S := S.keepE Kb1 Ab1 (by decide) (X.w 36 rfl)
  replace Ab1 := Ab1.keep Kb1
  replace hsz := W.size
  show Go (g := mkF m 11 #[rv a, .unset, .unset, .unset, .unset, .unset] [(.ref b1)]) ..
  refine W.asn (Ls' := #[rv a, rv b1, .unset, .unset, .unset, .unset]) d53_11 rfl rfl ?_
  refine W.an d53_12 rfl rfl ?_
  refine W.virtual (X.w 63 rfl) (X.w 64 rfl) (notFace_of_selects (args := #[]) (mvT W.hZ (X.w 66 rfl))) (X.w 66 rfl) (X.w 65 rfl) (X.w 4 rfl) (X.w 67 rfl) (by decide) (c_tcx2 X a c0 c1 sv _ W.ext Y S) (by decide) (Wd := 0) (by decide) a S.exa [] [] rfl pd_32 rfl rfl rfl (Nat.le_of_eq rfl) d53_13 (by decide) (by decide) ?_
  intro v T h vm W hQ C
  obtain ⟨b2, kb2, rfl, -, Kb2, Vb2⟩ := hQ
  replace KP := KP.otr0 Kb2
  replace S := S.keep0 Kb2
  replace FV := FV.keep Kb2 nin0
  replace FC := FC.keep Kb2 nin0
  replace FN := FN.keep Kb2 nin0
  replace FM := FM.keep Kb2 nin0
  replace Vt := Vt.keep Kb2 nin0
  replace Ab1 := Ab1.keep Kb2
  replace hsz := W.size
  show Go (g := mkF m 16 #[rv a, rv b1, .unset, .unset, .unset, .unset] [(.ref b2)]) ..
  refine W.asn (Ls' := #[rv a, rv b1, rv b2, .unset, .unset, .unset]) d53_16 rfl rfl ?_
  refine W.an d53_17 rfl rfl ?_
  refine W.arraylength Vb2 d53_18 ?_
  refine W.isn (Ls' := #[rv a, rv b1, rv b2, iv 2, .unset, .unset]) d53_19 rfl ?_
  have B : Bd Z h0 h b1 b2 kb2 (2 : Int32) [(.int c0), (.int c1)] 2 ([] : List Int32) := ⟨KP, sz_b1, hE.1, Ab1, Vb2, t, kt, 2, sz_t, cB, Or.inl rfl, Nat.zero_le _, FV, FN, FM, Or.inl ⟨FC, Vt, sm0⟩⟩
  refine W.ic d53_20 0 rfl ?_
  refine W.iss (Ls' := #[rv a, rv b1, rv b2, iv 2, iv 0, .unset]) d53_21 rfl ?_
  refine W.il d53_23 rfl ?_
  refine W.iN d53_25 rfl ?_
  refine W.cn d53_26 (tlt (by decide : (0 : Int32) < (2 : Int32))).2.1 ?_
  refine W.an d53_29 rfl rfl ?_
  refine W.il d53_30 rfl ?_
  refine W.caload (v := .int c0) B.2.2.2.2.1 (by decide) rfl d53_32 ?_
  refine W.iss (Ls' := #[rv a, rv b1, rv b2, iv 2, iv 0, iv c0]) d53_33 rfl ?_
  have J77 : ∀ (T : State) (h : Heap) (vm : Vm), Wk p l e ({ frames := 8, cells := 13, slots := 173, locals := 118 } : Room) s m #[(.ref a)] below meth c Z a0 consts_1 (⟨"com/example/wary_validator/waryvalidator/messageinterpolation/MessageTemplates", "escape", "(Ljava/lang/String;)Ljava/lang/String;"⟩ : MethodName) prog_23_method_6_code 6 (some (.object "java/lang/String")) T h vm 7 81 → Bd Z h0 h b1 b2 kb2 (2 : Int32) [(.int c0), (.int c1)] 2 (([] : List Int32) ++ esc c0) → Go p e below s Z consts_1 ({ frames := 8, cells := 13, slots := 173, locals := 118 } : Room).cells ({ frames := 8, cells := 13, slots := 173, locals := 118 } : Room).slots (fun v h => ∃ r : Addr, v = some (.ref r) ∧ Keep h0 h [] ∧ StrX Z h r ((([] : List Int32) ++ esc c0) ++ esc c1)) T (mkF m 77 #[rv a, rv b1, rv b2, iv 2, iv 0, iv c0] []) := by
    intro T h vm W B
    have hsz := W.size
    refine W.ii (Ls' := #[rv a, rv b1, rv b2, iv 2, iv 1, iv c0]) d53_77 rfl rfl ?_
    refine W.gt (pc' := 23) d53_80 (by decide) (by decide) ?_
    refine W.il d53_23 rfl ?_
    refine W.iN d53_25 rfl ?_
    refine W.cn d53_26 (tlt (by decide : (1 : Int32) < (2 : Int32))).2.1 ?_
    refine W.an d53_29 rfl rfl ?_
    refine W.il d53_30 rfl ?_
    refine W.caload (v := .int c1) B.2.2.2.2.1 (by decide) rfl d53_32 ?_
    refine W.iss (Ls' := #[rv a, rv b1, rv b2, iv 2, iv 1, iv c1]) d53_33 rfl ?_
    have J77 : ∀ (T : State) (h : Heap) (vm : Vm), Wk p l e ({ frames := 8, cells := 13, slots := 173, locals := 118 } : Room) s m #[(.ref a)] below meth c Z a0 consts_1 (⟨"com/example/wary_validator/waryvalidator/messageinterpolation/MessageTemplates", "escape", "(Ljava/lang/String;)Ljava/lang/String;"⟩ : MethodName) prog_23_method_6_code 6 (some (.object "java/lang/String")) T h vm 11 153 → Bd Z h0 h b1 b2 kb2 (2 : Int32) [(.int c0), (.int c1)] 2 ((([] : List Int32) ++ esc c0) ++ esc c1) → Go p e below s Z consts_1 ({ frames := 8, cells := 13, slots := 173, locals := 118 } : Room).cells ({ frames := 8, cells := 13, slots := 173, locals := 118 } : Room).slots (fun v h => ∃ r : Addr, v = some (.ref r) ∧ Keep h0 h [] ∧ StrX Z h r ((([] : List Int32) ++ esc c0) ++ esc c1)) T (mkF m 77 #[rv a, rv b1, rv b2, iv 2, iv 1, iv c1] []) := by
      intro T h vm W B
      have hsz := W.size
      refine W.ii (Ls' := #[rv a, rv b1, rv b2, iv 2, iv 2, iv c1]) d53_77 rfl rfl ?_
      refine W.gt (pc' := 23) d53_80 (by decide) (by decide) ?_
      refine W.il d53_23 rfl ?_
      refine W.iN d53_25 rfl ?_
      refine W.cy (pc' := 83) d53_26 (flt (by decide : ¬ ((2 : Int32) < (2 : Int32)))).2.1 (by decide) (by decide) ?_
      refine W.an d53_83 rfl rfl ?_
      refine W.virtual (X.w 105 rfl) (X.w 106 rfl) (notFace_of_selects (args := #[]) (mvT W.hZ (X.w 108 rfl))) (X.w 108 rfl) (X.w 107 rfl) (X.w 37 rfl) (X.w 109 rfl) (by decide) (c_tst X b1 b2 _ (2 : Int32) _ 2 ((([] : List Int32) ++ esc c0) ++ esc c1) h0 _ W.ext B (by decide)) (by decide) (Wd := 0) (by decide) b1 B.2.2.2.1 [] [] rfl pd_33 rfl rfl rfl (Nat.le_of_eq rfl) d53_84 (by decide) (by decide) ?_
      intro v T h vm W hQ C
      obtain ⟨r, rfl, KE, SR⟩ := hQ
      show Go (g := mkF m 87 #[rv a, rv b1, rv b2, iv 2, iv 2, iv c1] [(.ref r)]) ..
      exact W.retR rfl rfl rfl d53_87 (⟨r, rfl, KE, SR⟩) (by decide) (by decide)
    by_cases hs : Sp c1
    · have J63 : Go p e below s Z consts_1 ({ frames := 8, cells := 13, slots := 173, locals := 118 } : Room).cells ({ frames := 8, cells := 13, slots := 173, locals := 118 } : Room).slots (fun v h => ∃ r : Addr, v = some (.ref r) ∧ Keep h0 h [] ∧ StrX Z h r ((([] : List Int32) ++ esc c0) ++ esc c1)) T (mkF m 63 #[rv a, rv b1, rv b2, iv 2, iv 1, iv c1] []) := by
        refine W.an d53_63 rfl rfl ?_
        refine W.bp d53_64 92 rfl ?_
        refine W.virtual (X.w 80 rfl) (X.w 81 rfl) (notFace_of_selects (args := #[]) (mvT W.hZ (X.w 83 rfl))) (X.w 83 rfl) (X.w 82 rfl) (X.w 37 rfl) (X.w 84 rfl) (by decide) (c_sap X b1 b2 _ (2 : Int32) _ 2 (([] : List Int32) ++ esc c0) (92 : Int32) sv h0 _ W.ext Y B (by decide) (by decide) (by have e0 := esc_len c0; have e1 := esc_len c1; simp only [List.length_append, List.length_nil, List.length_cons] <;> omega)) (by decide) (Wd := 0) (by decide) b1 B.2.2.2.1 [(.int (92 : Int32))] [] rfl pd_34 rfl rfl rfl (Nat.le_of_eq rfl) d53_66 (by decide) (by decide) ?_
        intro v T h vm W hQ C
        obtain ⟨rfl, B⟩ := hQ
        show Go (g := mkF m 69 #[rv a, rv b1, rv b2, iv 2, iv 1, iv c1] [(.ref b1)]) ..
        refine W.pp d53_69 rfl ?_
        refine W.an d53_70 rfl rfl ?_
        refine W.il d53_71 rfl ?_
        refine W.virtual (X.w 80 rfl) (X.w 81 rfl) (notFace_of_selects (args := #[]) (mvT W.hZ (X.w 83 rfl))) (X.w 83 rfl) (X.w 82 rfl) (X.w 37 rfl) (X.w 84 rfl) (by decide) (c_sap X b1 b2 _ (2 : Int32) _ 2 ((([] : List Int32) ++ esc c0) ++ [92]) c1 sv h0 _ W.ext Y B t1 (by decide) (by have e0 := esc_len c0; have e1 := esc_len c1; simp only [List.length_append, List.length_nil, List.length_cons] <;> omega)) (by decide) (Wd := 0) (by decide) b1 B.2.2.2.1 [(.int c1)] [] rfl pd_34 rfl rfl rfl (Nat.le_of_eq rfl) d53_73 (by decide) (by decide) ?_
        intro v T h vm W hQ C
        obtain ⟨rfl, B⟩ := hQ
        show Go (g := mkF m 76 #[rv a, rv b1, rv b2, iv 2, iv 1, iv c1] [(.ref b1)]) ..
        refine W.pp d53_76 rfl ?_
        have e_ : (((([] : List Int32) ++ esc c0) ++ [92]) ++ [c1]) = ((([] : List Int32) ++ esc c0) ++ esc c1) := by rw [esc_yes hs]; simp
        rw [e_] at B
        exact J77 _ _ _ W B
      rcases hs with q | q | q | q
      · refine W.il d53_35 rfl ?_
        refine W.bp d53_37 92 rfl ?_
        refine W.cy (pc' := 63) d53_39 (teq q).1 (by decide) (by decide) ?_
        exact J63
      · refine W.il d53_35 rfl ?_
        refine W.bp d53_37 92 rfl ?_
        refine W.cn d53_39 (feq (by rw [q]; decide)).1 ?_
        refine W.il d53_42 rfl ?_
        refine W.bp d53_44 123 rfl ?_
        refine W.cy (pc' := 63) d53_46 (teq q).1 (by decide) (by decide) ?_
        exact J63
      · refine W.il d53_35 rfl ?_
        refine W.bp d53_37 92 rfl ?_
        refine W.cn d53_39 (feq (by rw [q]; decide)).1 ?_
        refine W.il d53_42 rfl ?_
        refine W.bp d53_44 123 rfl ?_
        refine W.cn d53_46 (feq (by rw [q]; decide)).1 ?_
        refine W.il d53_49 rfl ?_
        refine W.bp d53_51 125 rfl ?_
        refine W.cy (pc' := 63) d53_53 (teq q).1 (by decide) (by decide) ?_
        exact J63
      · refine W.il d53_35 rfl ?_
        refine W.bp d53_37 92 rfl ?_
        refine W.cn d53_39 (feq (by rw [q]; decide)).1 ?_
        refine W.il d53_42 rfl ?_
        refine W.bp d53_44 123 rfl ?_
        refine W.cn d53_46 (feq (by rw [q]; decide)).1 ?_
        refine W.il d53_49 rfl ?_
        refine W.bp d53_51 125 rfl ?_
        refine W.cn d53_53 (feq (by rw [q]; decide)).1 ?_
        refine W.il d53_56 rfl ?_
        refine W.bp d53_58 36 rfl ?_
        refine W.cn d53_60 (teq q).2 ?_
        exact J63
    · refine W.il d53_35 rfl ?_
      refine W.bp d53_37 92 rfl ?_
      refine W.cn d53_39 (feq (fun q => hs (Or.inl q))).1 ?_
      refine W.il d53_42 rfl ?_
      refine W.bp d53_44 123 rfl ?_
      refine W.cn d53_46 (feq (fun q => hs (Or.inr (Or.inl q)))).1 ?_
      refine W.il d53_49 rfl ?_
      refine W.bp d53_51 125 rfl ?_
      refine W.cn d53_53 (feq (fun q => hs (Or.inr (Or.inr (Or.inl q))))).1 ?_
      refine W.il d53_56 rfl ?_
      refine W.bp d53_58 36 rfl ?_
      refine W.cy (pc' := 70) d53_60 (feq (fun q => hs (Or.inr (Or.inr (Or.inr q))))).2 (by decide) (by decide) ?_
      refine W.an d53_70 rfl rfl ?_
      refine W.il d53_71 rfl ?_
      refine W.virtual (X.w 80 rfl) (X.w 81 rfl) (notFace_of_selects (args := #[]) (mvT W.hZ (X.w 83 rfl))) (X.w 83 rfl) (X.w 82 rfl) (X.w 37 rfl) (X.w 84 rfl) (by decide) (c_sap X b1 b2 _ (2 : Int32) _ 2 (([] : List Int32) ++ esc c0) c1 sv h0 _ W.ext Y B t1 (by decide) (by have e0 := esc_len c0; have e1 := esc_len c1; simp only [List.length_append, List.length_nil, List.length_cons] <;> omega)) (by decide) (Wd := 0) (by decide) b1 B.2.2.2.1 [(.int c1)] [] rfl pd_34 rfl rfl rfl (Nat.le_of_eq rfl) d53_73 (by decide) (by decide) ?_
      intro v T h vm W hQ C
      obtain ⟨rfl, B⟩ := hQ
      show Go (g := mkF m 76 #[rv a, rv b1, rv b2, iv 2, iv 1, iv c1] [(.ref b1)]) ..
      refine W.pp d53_76 rfl ?_
      have e_ : ((([] : List Int32) ++ esc c0) ++ [c1]) = ((([] : List Int32) ++ esc c0) ++ esc c1) := by rw [esc_no hs]
      rw [e_] at B
      exact J77 _ _ _ (W.more (by decide) (by decide)) B
  by_cases hs : Sp c0
  · have J63 : Go p e below s Z consts_1 ({ frames := 8, cells := 13, slots := 173, locals := 118 } : Room).cells ({ frames := 8, cells := 13, slots := 173, locals := 118 } : Room).slots (fun v h => ∃ r : Addr, v = some (.ref r) ∧ Keep h0 h [] ∧ StrX Z h r ((([] : List Int32) ++ esc c0) ++ esc c1)) T (mkF m 63 #[rv a, rv b1, rv b2, iv 2, iv 0, iv c0] []) := by
      refine W.an d53_63 rfl rfl ?_
      refine W.bp d53_64 92 rfl ?_
      refine W.virtual (X.w 80 rfl) (X.w 81 rfl) (notFace_of_selects (args := #[]) (mvT W.hZ (X.w 83 rfl))) (X.w 83 rfl) (X.w 82 rfl) (X.w 37 rfl) (X.w 84 rfl) (by decide) (c_sap X b1 b2 _ (2 : Int32) _ 2 ([] : List Int32) (92 : Int32) sv h0 _ W.ext Y B (by decide) (by decide) (by have e0 := esc_len c0; have e1 := esc_len c1; simp only [List.length_append, List.length_nil, List.length_cons] <;> omega)) (by decide) (Wd := 0) (by decide) b1 B.2.2.2.1 [(.int (92 : Int32))] [] rfl pd_34 rfl rfl rfl (Nat.le_of_eq rfl) d53_66 (by decide) (by decide) ?_
      intro v T h vm W hQ C
      obtain ⟨rfl, B⟩ := hQ
      show Go (g := mkF m 69 #[rv a, rv b1, rv b2, iv 2, iv 0, iv c0] [(.ref b1)]) ..
      refine W.pp d53_69 rfl ?_
      refine W.an d53_70 rfl rfl ?_
      refine W.il d53_71 rfl ?_
      refine W.virtual (X.w 80 rfl) (X.w 81 rfl) (notFace_of_selects (args := #[]) (mvT W.hZ (X.w 83 rfl))) (X.w 83 rfl) (X.w 82 rfl) (X.w 37 rfl) (X.w 84 rfl) (by decide) (c_sap X b1 b2 _ (2 : Int32) _ 2 (([] : List Int32) ++ [92]) c0 sv h0 _ W.ext Y B t0 (by decide) (by have e0 := esc_len c0; have e1 := esc_len c1; simp only [List.length_append, List.length_nil, List.length_cons] <;> omega)) (by decide) (Wd := 0) (by decide) b1 B.2.2.2.1 [(.int c0)] [] rfl pd_34 rfl rfl rfl (Nat.le_of_eq rfl) d53_73 (by decide) (by decide) ?_
      intro v T h vm W hQ C
      obtain ⟨rfl, B⟩ := hQ
      show Go (g := mkF m 76 #[rv a, rv b1, rv b2, iv 2, iv 0, iv c0] [(.ref b1)]) ..
      refine W.pp d53_76 rfl ?_
      have e_ : ((([] : List Int32) ++ [92]) ++ [c0]) = (([] : List Int32) ++ esc c0) := by rw [esc_yes hs]; simp
      rw [e_] at B
      exact J77 _ _ _ W B
    rcases hs with q | q | q | q
    · refine W.il d53_35 rfl ?_
      refine W.bp d53_37 92 rfl ?_
      refine W.cy (pc' := 63) d53_39 (teq q).1 (by decide) (by decide) ?_
      exact J63
    · refine W.il d53_35 rfl ?_
      refine W.bp d53_37 92 rfl ?_
      refine W.cn d53_39 (feq (by rw [q]; decide)).1 ?_
      refine W.il d53_42 rfl ?_
      refine W.bp d53_44 123 rfl ?_
      refine W.cy (pc' := 63) d53_46 (teq q).1 (by decide) (by decide) ?_
      exact J63
    · refine W.il d53_35 rfl ?_
      refine W.bp d53_37 92 rfl ?_
      refine W.cn d53_39 (feq (by rw [q]; decide)).1 ?_
      refine W.il d53_42 rfl ?_
      refine W.bp d53_44 123 rfl ?_
      refine W.cn d53_46 (feq (by rw [q]; decide)).1 ?_
      refine W.il d53_49 rfl ?_
      refine W.bp d53_51 125 rfl ?_
      refine W.cy (pc' := 63) d53_53 (teq q).1 (by decide) (by decide) ?_
      exact J63
    · refine W.il d53_35 rfl ?_
      refine W.bp d53_37 92 rfl ?_
      refine W.cn d53_39 (feq (by rw [q]; decide)).1 ?_
      refine W.il d53_42 rfl ?_
      refine W.bp d53_44 123 rfl ?_
      refine W.cn d53_46 (feq (by rw [q]; decide)).1 ?_
      refine W.il d53_49 rfl ?_
      refine W.bp d53_51 125 rfl ?_
      refine W.cn d53_53 (feq (by rw [q]; decide)).1 ?_
      refine W.il d53_56 rfl ?_
      refine W.bp d53_58 36 rfl ?_
      refine W.cn d53_60 (teq q).2 ?_
      exact J63
  · refine W.il d53_35 rfl ?_
    refine W.bp d53_37 92 rfl ?_
    refine W.cn d53_39 (feq (fun q => hs (Or.inl q))).1 ?_
    refine W.il d53_42 rfl ?_
    refine W.bp d53_44 123 rfl ?_
    refine W.cn d53_46 (feq (fun q => hs (Or.inr (Or.inl q)))).1 ?_
    refine W.il d53_49 rfl ?_
    refine W.bp d53_51 125 rfl ?_
    refine W.cn d53_53 (feq (fun q => hs (Or.inr (Or.inr (Or.inl q))))).1 ?_
    refine W.il d53_56 rfl ?_
    refine W.bp d53_58 36 rfl ?_
    refine W.cy (pc' := 70) d53_60 (feq (fun q => hs (Or.inr (Or.inr (Or.inr q))))).2 (by decide) (by decide) ?_
    refine W.an d53_70 rfl rfl ?_
    refine W.il d53_71 rfl ?_
    refine W.virtual (X.w 80 rfl) (X.w 81 rfl) (notFace_of_selects (args := #[]) (mvT W.hZ (X.w 83 rfl))) (X.w 83 rfl) (X.w 82 rfl) (X.w 37 rfl) (X.w 84 rfl) (by decide) (c_sap X b1 b2 _ (2 : Int32) _ 2 ([] : List Int32) c0 sv h0 _ W.ext Y B t0 (by decide) (by have e0 := esc_len c0; have e1 := esc_len c1; simp only [List.length_append, List.length_nil, List.length_cons] <;> omega)) (by decide) (Wd := 0) (by decide) b1 B.2.2.2.1 [(.int c0)] [] rfl pd_34 rfl rfl rfl (Nat.le_of_eq rfl) d53_73 (by decide) (by decide) ?_
    intro v T h vm W hQ C
    obtain ⟨rfl, B⟩ := hQ
    show Go (g := mkF m 76 #[rv a, rv b1, rv b2, iv 2, iv 0, iv c0] [(.ref b1)]) ..
    refine W.pp d53_76 rfl ?_
    have e_ : (([] : List Int32) ++ [c0]) = (([] : List Int32) ++ esc c0) := by rw [esc_no hs]
    rw [e_] at B
    exact J77 _ _ _ (W.more (by decide) (by decide)) B

theorem efesc3 (m : MethodId) (x0 : Addr) : entryFrame m #[(.ref x0)] 6 = mkF m 0 #[.val (.ref x0), .unset, .unset, .unset, .unset, .unset] [] := by first | (simp [entryFrame, mkF, argsToLocals, Value.category]; done) | rfl
set_option maxRecDepth 65536 in
set_option maxHeartbeats 40000000 in
theorem c_esc3 {l : Launch} {Z : State} {a0 : Array Value} {G1 : Int32} (X : Ctx Z a0 G1) (a : Addr) (c0 c1 c2 : Int32) (sv : Value) (h0 : Heap) (hE : Ext Z.heap h0) (Y : U16 Z sv) (S : StrX Z h0 a [c0, c1, c2]) (t0 : Ch c0) (t1 : Ch c1) (t2 : Ch c2) :
    Con l Z consts_1 (⟨"com/example/wary_validator/waryvalidator/messageinterpolation/MessageTemplates", "escape", "(Ljava/lang/String;)Ljava/lang/String;"⟩ : MethodName) prog_23_method_6_code 6 (some (.object "java/lang/String")) [] ({ frames := 8, cells := 17, slots := 246, locals := 118 } : Room) #[(.ref a)] h0 (fun v h => ∃ r : Addr, v = some (.ref r) ∧ Keep h0 h [] ∧ StrX Z h r (((([] : List Int32) ++ esc c0) ++ esc c1) ++ esc c2)) := by
  refine Con.intro (plainFor_of_name pn_8) hE X.el ?_
  intro p e s m below meth c T W
  have hsz := W.size
  refine Go.cast (efesc3 m a) ?_
  have KP := Keep.refl h0 []
  refine W.new (X.w 35 rfl) (X.w 36 rfl) (X.w 37 rfl) d53_0 (by decide) (by decide) ?_
  intro T h b1 hb1 W Eb1 Ab1 Db1
  have sz_b1 : h0.size ≤ b1 := by rw [hb1]; exact KP.1
  have ne_a_b1 : a ≠ b1 := by rw [hb1]; exact Nat.ne_of_lt S.exa.lt
  have gb1 : Z.heap.size ≤ b1 := by rw [hb1]; exact hsz
  replace KP := KP.ext Eb1
  replace S := S.ext Eb1
  replace hsz := W.size
  have F_value_b1 : Fld Z h b1 "java/lang/AbstractStringBuilder" "value" "[B" .null := Db1 (Or.inl (X.w 60 rfl)) (ty := (.array .byte)) (by decide)
  have F_coder_b1 : Fld Z h b1 "java/lang/AbstractStringBuilder" "coder" "B" (.int (0 : Int32)) := Db1 (Or.inl (X.w 62 rfl)) (ty := .byte) (by decide)
  have F_count_b1 : Fld Z h b1 "java/lang/AbstractStringBuilder" "count" "I" (.int (0 : Int32)) := Db1 (Or.inl (X.w 91 rfl)) (ty := .int) (by decide)
  have F_maybeLatin1_b1 : Fld Z h b1 "java/lang/AbstractStringBuilder" "maybeLatin1" "Z" (.int (0 : Int32)) := Db1 (Or.inl (X.w 231 rfl)) (ty := .boolean) (by decide)
  refine W.dp d53_3 rfl ?_
  refine W.an d53_4 rfl rfl ?_
  refine W.virtual (X.w 38 rfl) (X.w 39 rfl) (notFace_of_selects (args := #[]) (mvT W.hZ (X.w 41 rfl))) (X.w 41 rfl) (X.w 40 rfl) (X.w 4 rfl) (X.w 42 rfl) (by decide) (c_lenx X a _ _ W.ext S) (by decide) (Wd := 2) (by decide) a S.exa [] [(.ref b1), (.ref b1)] rfl pd_28 rfl rfl rfl (Nat.le_of_eq rfl) d53_5 (by decide) (by decide) ?_
  intro v T h vm W hQ C
  obtain ⟨rfl, rfl⟩ := hQ
  show Go (g := mkF m 8 #[rv a, .unset, .unset, .unset, .unset, .unset] [(.int (N 3)), (.ref b1), (.ref b1)]) ..
  refine W.special rfl (X.w 48 rfl) (X.w 49 rfl) (X.w 37 rfl) (X.w 50 rfl) (by decide) (c_sbi X b1 3 _ W.ext gb1 Ab1 F_value_b1 F_coder_b1 F_count_b1 F_maybeLatin1_b1 (by decide)) (by decide) (Wd := 1) (by decide) b1 [(.int (N 3))] [(.ref b1)] rfl pd_20 rfl rfl rfl (Nat.le_of_eq rfl) d53_8 (by decide) (by decide) ?_
  intro v T h vm W hQ C
  obtain ⟨rfl, Kb1, t, kt, hn_t, cB, FV, FC, FN, FM, Vt⟩ := hQ
  have sz_t : h0.size ≤ t := Nat.le_trans KP.1 hn_t
  have ne_a_t : a ≠ t := Nat.ne_of_lt (Nat.lt_of_lt_of_le S.exa.lt hn_t)
  have ne_b1_t : b1 ≠ t := Nat.ne_of_lt (Nat.lt_of_lt_of_le Ab1.lt hn_t)
  have gt : Z.heap.size ≤ t := Nat.le_trans hsz hn_t
  replace KP := KP.otrN Kb1 sz_b1
  replace S := S.keepE Kb1 Ab1 (by decide) (X.w 36 rfl)
  replace Ab1 := Ab1.keep Kb1
  replace hsz := W.size
  show Go (g := mkF m 11 #[rv a, .unset, .unset, .unset, .unset, .unset] [(.ref b1)]) ..
  refine W.asn (Ls' := #[rv a, rv b1, .unset, .unset, .unset, .unset]) d53_11 rfl rfl ?_
  refine W.an d53_12 rfl rfl ?_
  refine W.virtual (X.w 63 rfl) (X.w 64 rfl) (notFace_of_selects (args := #[]) (mvT W.hZ (X.w 66 rfl))) (X.w 66 rfl) (X.w 65 rfl) (X.w 4 rfl) (X.w 67 rfl) (by decide) (c_tcx3 X a c0 c1 c2 sv _ W.ext Y S) (by decide) (Wd := 0) (by decide) a S.exa [] [] rfl pd_32 rfl rfl rfl (Nat.le_of_eq rfl) d53_13 (by decide) (by decide) ?_
  intro v T h vm W hQ C
  obtain ⟨b2, kb2, rfl, -, Kb2, Vb2⟩ := hQ
  replace KP := KP.otr0 Kb2
  replace S := S.keep0 Kb2
  replace FV := FV.keep Kb2 nin0
  replace FC := FC.keep Kb2 nin0
  replace FN := FN.keep Kb2 nin0
  replace FM := FM.keep Kb2 nin0
  replace Vt := Vt.keep Kb2 nin0
  replace Ab1 := Ab1.keep Kb2
  replace hsz := W.size
  show Go (g := mkF m 16 #[rv a, rv b1, .unset, .unset, .unset, .unset] [(.ref b2)]) ..
  refine W.asn (Ls' := #[rv a, rv b1, rv b2, .unset, .unset, .unset]) d53_16 rfl rfl ?_
  refine W.an d53_17 rfl rfl ?_
  refine W.arraylength Vb2 d53_18 ?_
  refine W.isn (Ls' := #[rv a, rv b1, rv b2, iv 3, .unset, .unset]) d53_19 rfl ?_
  have B : Bd Z h0 h b1 b2 kb2 (3 : Int32) [(.int c0), (.int c1), (.int c2)] 3 ([] : List Int32) := ⟨KP, sz_b1, hE.1, Ab1, Vb2, t, kt, 3, sz_t, cB, Or.inl rfl, Nat.zero_le _, FV, FN, FM, Or.inl ⟨FC, Vt, sm0⟩⟩
  refine W.ic d53_20 0 rfl ?_
  refine W.iss (Ls' := #[rv a, rv b1, rv b2, iv 3, iv 0, .unset]) d53_21 rfl ?_
  refine W.il d53_23 rfl ?_
  refine W.iN d53_25 rfl ?_
  refine W.cn d53_26 (tlt (by decide : (0 : Int32) < (3 : Int32))).2.1 ?_
  refine W.an d53_29 rfl rfl ?_
  refine W.il d53_30 rfl ?_
  refine W.caload (v := .int c0) B.2.2.2.2.1 (by decide) rfl d53_32 ?_
  refine W.iss (Ls' := #[rv a, rv b1, rv b2, iv 3, iv 0, iv c0]) d53_33 rfl ?_
  have J77 : ∀ (T : State) (h : Heap) (vm : Vm), Wk p l e ({ frames := 8, cells := 17, slots := 246, locals := 118 } : Room) s m #[(.ref a)] below meth c Z a0 consts_1 (⟨"com/example/wary_validator/waryvalidator/messageinterpolation/MessageTemplates", "escape", "(Ljava/lang/String;)Ljava/lang/String;"⟩ : MethodName) prog_23_method_6_code 6 (some (.object "java/lang/String")) T h vm 7 82 → Bd Z h0 h b1 b2 kb2 (3 : Int32) [(.int c0), (.int c1), (.int c2)] 3 (([] : List Int32) ++ esc c0) → Go p e below s Z consts_1 ({ frames := 8, cells := 17, slots := 246, locals := 118 } : Room).cells ({ frames := 8, cells := 17, slots := 246, locals := 118 } : Room).slots (fun v h => ∃ r : Addr, v = some (.ref r) ∧ Keep h0 h [] ∧ StrX Z h r (((([] : List Int32) ++ esc c0) ++ esc c1) ++ esc c2)) T (mkF m 77 #[rv a, rv b1, rv b2, iv 3, iv 0, iv c0] []) := by
    intro T h vm W B
    have hsz := W.size
    refine W.ii (Ls' := #[rv a, rv b1, rv b2, iv 3, iv 1, iv c0]) d53_77 rfl rfl ?_
    refine W.gt (pc' := 23) d53_80 (by decide) (by decide) ?_
    refine W.il d53_23 rfl ?_
    refine W.iN d53_25 rfl ?_
    refine W.cn d53_26 (tlt (by decide : (1 : Int32) < (3 : Int32))).2.1 ?_
    refine W.an d53_29 rfl rfl ?_
    refine W.il d53_30 rfl ?_
    refine W.caload (v := .int c1) B.2.2.2.2.1 (by decide) rfl d53_32 ?_
    refine W.iss (Ls' := #[rv a, rv b1, rv b2, iv 3, iv 1, iv c1]) d53_33 rfl ?_
    have J77 : ∀ (T : State) (h : Heap) (vm : Vm), Wk p l e ({ frames := 8, cells := 17, slots := 246, locals := 118 } : Room) s m #[(.ref a)] below meth c Z a0 consts_1 (⟨"com/example/wary_validator/waryvalidator/messageinterpolation/MessageTemplates", "escape", "(Ljava/lang/String;)Ljava/lang/String;"⟩ : MethodName) prog_23_method_6_code 6 (some (.object "java/lang/String")) T h vm 11 154 → Bd Z h0 h b1 b2 kb2 (3 : Int32) [(.int c0), (.int c1), (.int c2)] 3 ((([] : List Int32) ++ esc c0) ++ esc c1) → Go p e below s Z consts_1 ({ frames := 8, cells := 17, slots := 246, locals := 118 } : Room).cells ({ frames := 8, cells := 17, slots := 246, locals := 118 } : Room).slots (fun v h => ∃ r : Addr, v = some (.ref r) ∧ Keep h0 h [] ∧ StrX Z h r (((([] : List Int32) ++ esc c0) ++ esc c1) ++ esc c2)) T (mkF m 77 #[rv a, rv b1, rv b2, iv 3, iv 1, iv c1] []) := by
      intro T h vm W B
      have hsz := W.size
      refine W.ii (Ls' := #[rv a, rv b1, rv b2, iv 3, iv 2, iv c1]) d53_77 rfl rfl ?_
      refine W.gt (pc' := 23) d53_80 (by decide) (by decide) ?_
      refine W.il d53_23 rfl ?_
      refine W.iN d53_25 rfl ?_
      refine W.cn d53_26 (tlt (by decide : (2 : Int32) < (3 : Int32))).2.1 ?_
      refine W.an d53_29 rfl rfl ?_
      refine W.il d53_30 rfl ?_
      refine W.caload (v := .int c2) B.2.2.2.2.1 (by decide) rfl d53_32 ?_
      refine W.iss (Ls' := #[rv a, rv b1, rv b2, iv 3, iv 2, iv c2]) d53_33 rfl ?_
      have J77 : ∀ (T : State) (h : Heap) (vm : Vm), Wk p l e ({ frames := 8, cells := 17, slots := 246, locals := 118 } : Room) s m #[(.ref a)] below meth c Z a0 consts_1 (⟨"com/example/wary_validator/waryvalidator/messageinterpolation/MessageTemplates", "escape", "(Ljava/lang/String;)Ljava/lang/String;"⟩ : MethodName) prog_23_method_6_code 6 (some (.object "java/lang/String")) T h vm 15 226 → Bd Z h0 h b1 b2 kb2 (3 : Int32) [(.int c0), (.int c1), (.int c2)] 3 (((([] : List Int32) ++ esc c0) ++ esc c1) ++ esc c2) → Go p e below s Z consts_1 ({ frames := 8, cells := 17, slots := 246, locals := 118 } : Room).cells ({ frames := 8, cells := 17, slots := 246, locals := 118 } : Room).slots (fun v h => ∃ r : Addr, v = some (.ref r) ∧ Keep h0 h [] ∧ StrX Z h r (((([] : List Int32) ++ esc c0) ++ esc c1) ++ esc c2)) T (mkF m 77 #[rv a, rv b1, rv b2, iv 3, iv 2, iv c2] []) := by
        intro T h vm W B
        have hsz := W.size
        refine W.ii (Ls' := #[rv a, rv b1, rv b2, iv 3, iv 3, iv c2]) d53_77 rfl rfl ?_
        refine W.gt (pc' := 23) d53_80 (by decide) (by decide) ?_
        refine W.il d53_23 rfl ?_
        refine W.iN d53_25 rfl ?_
        refine W.cy (pc' := 83) d53_26 (flt (by decide : ¬ ((3 : Int32) < (3 : Int32)))).2.1 (by decide) (by decide) ?_
        refine W.an d53_83 rfl rfl ?_
        refine W.virtual (X.w 105 rfl) (X.w 106 rfl) (notFace_of_selects (args := #[]) (mvT W.hZ (X.w 108 rfl))) (X.w 108 rfl) (X.w 107 rfl) (X.w 37 rfl) (X.w 109 rfl) (by decide) (c_tst X b1 b2 _ (3 : Int32) _ 3 (((([] : List Int32) ++ esc c0) ++ esc c1) ++ esc c2) h0 _ W.ext B (by decide)) (by decide) (Wd := 0) (by decide) b1 B.2.2.2.1 [] [] rfl pd_33 rfl rfl rfl (Nat.le_of_eq rfl) d53_84 (by decide) (by decide) ?_
        intro v T h vm W hQ C
        obtain ⟨r, rfl, KE, SR⟩ := hQ
        show Go (g := mkF m 87 #[rv a, rv b1, rv b2, iv 3, iv 3, iv c2] [(.ref r)]) ..
        exact W.retR rfl rfl rfl d53_87 (⟨r, rfl, KE, SR⟩) (by decide) (by decide)
      by_cases hs : Sp c2
      · have J63 : Go p e below s Z consts_1 ({ frames := 8, cells := 17, slots := 246, locals := 118 } : Room).cells ({ frames := 8, cells := 17, slots := 246, locals := 118 } : Room).slots (fun v h => ∃ r : Addr, v = some (.ref r) ∧ Keep h0 h [] ∧ StrX Z h r (((([] : List Int32) ++ esc c0) ++ esc c1) ++ esc c2)) T (mkF m 63 #[rv a, rv b1, rv b2, iv 3, iv 2, iv c2] []) := by
          refine W.an d53_63 rfl rfl ?_
          refine W.bp d53_64 92 rfl ?_
          refine W.virtual (X.w 80 rfl) (X.w 81 rfl) (notFace_of_selects (args := #[]) (mvT W.hZ (X.w 83 rfl))) (X.w 83 rfl) (X.w 82 rfl) (X.w 37 rfl) (X.w 84 rfl) (by decide) (c_sap X b1 b2 _ (3 : Int32) _ 3 ((([] : List Int32) ++ esc c0) ++ esc c1) (92 : Int32) sv h0 _ W.ext Y B (by decide) (by decide) (by have e0 := esc_len c0; have e1 := esc_len c1; have e2 := esc_len c2; simp only [List.length_append, List.length_nil, List.length_cons] <;> omega)) (by decide) (Wd := 0) (by decide) b1 B.2.2.2.1 [(.int (92 : Int32))] [] rfl pd_34 rfl rfl rfl (Nat.le_of_eq rfl) d53_66 (by decide) (by decide) ?_
          intro v T h vm W hQ C
          obtain ⟨rfl, B⟩ := hQ
          show Go (g := mkF m 69 #[rv a, rv b1, rv b2, iv 3, iv 2, iv c2] [(.ref b1)]) ..
          refine W.pp d53_69 rfl ?_
          refine W.an d53_70 rfl rfl ?_
          refine W.il d53_71 rfl ?_
          refine W.virtual (X.w 80 rfl) (X.w 81 rfl) (notFace_of_selects (args := #[]) (mvT W.hZ (X.w 83 rfl))) (X.w 83 rfl) (X.w 82 rfl) (X.w 37 rfl) (X.w 84 rfl) (by decide) (c_sap X b1 b2 _ (3 : Int32) _ 3 (((([] : List Int32) ++ esc c0) ++ esc c1) ++ [92]) c2 sv h0 _ W.ext Y B t2 (by decide) (by have e0 := esc_len c0; have e1 := esc_len c1; have e2 := esc_len c2; simp only [List.length_append, List.length_nil, List.length_cons] <;> omega)) (by decide) (Wd := 0) (by decide) b1 B.2.2.2.1 [(.int c2)] [] rfl pd_34 rfl rfl rfl (Nat.le_of_eq rfl) d53_73 (by decide) (by decide) ?_
          intro v T h vm W hQ C
          obtain ⟨rfl, B⟩ := hQ
          show Go (g := mkF m 76 #[rv a, rv b1, rv b2, iv 3, iv 2, iv c2] [(.ref b1)]) ..
          refine W.pp d53_76 rfl ?_
          have e_ : ((((([] : List Int32) ++ esc c0) ++ esc c1) ++ [92]) ++ [c2]) = (((([] : List Int32) ++ esc c0) ++ esc c1) ++ esc c2) := by rw [esc_yes hs]; simp
          rw [e_] at B
          exact J77 _ _ _ W B
        rcases hs with q | q | q | q
        · refine W.il d53_35 rfl ?_
          refine W.bp d53_37 92 rfl ?_
          refine W.cy (pc' := 63) d53_39 (teq q).1 (by decide) (by decide) ?_
          exact J63
        · refine W.il d53_35 rfl ?_
          refine W.bp d53_37 92 rfl ?_
          refine W.cn d53_39 (feq (by rw [q]; decide)).1 ?_
          refine W.il d53_42 rfl ?_
          refine W.bp d53_44 123 rfl ?_
          refine W.cy (pc' := 63) d53_46 (teq q).1 (by decide) (by decide) ?_
          exact J63
        · refine W.il d53_35 rfl ?_
          refine W.bp d53_37 92 rfl ?_
          refine W.cn d53_39 (feq (by rw [q]; decide)).1 ?_
          refine W.il d53_42 rfl ?_
          refine W.bp d53_44 123 rfl ?_
          refine W.cn d53_46 (feq (by rw [q]; decide)).1 ?_
          refine W.il d53_49 rfl ?_
          refine W.bp d53_51 125 rfl ?_
          refine W.cy (pc' := 63) d53_53 (teq q).1 (by decide) (by decide) ?_
          exact J63
        · refine W.il d53_35 rfl ?_
          refine W.bp d53_37 92 rfl ?_
          refine W.cn d53_39 (feq (by rw [q]; decide)).1 ?_
          refine W.il d53_42 rfl ?_
          refine W.bp d53_44 123 rfl ?_
          refine W.cn d53_46 (feq (by rw [q]; decide)).1 ?_
          refine W.il d53_49 rfl ?_
          refine W.bp d53_51 125 rfl ?_
          refine W.cn d53_53 (feq (by rw [q]; decide)).1 ?_
          refine W.il d53_56 rfl ?_
          refine W.bp d53_58 36 rfl ?_
          refine W.cn d53_60 (teq q).2 ?_
          exact J63
      · refine W.il d53_35 rfl ?_
        refine W.bp d53_37 92 rfl ?_
        refine W.cn d53_39 (feq (fun q => hs (Or.inl q))).1 ?_
        refine W.il d53_42 rfl ?_
        refine W.bp d53_44 123 rfl ?_
        refine W.cn d53_46 (feq (fun q => hs (Or.inr (Or.inl q)))).1 ?_
        refine W.il d53_49 rfl ?_
        refine W.bp d53_51 125 rfl ?_
        refine W.cn d53_53 (feq (fun q => hs (Or.inr (Or.inr (Or.inl q))))).1 ?_
        refine W.il d53_56 rfl ?_
        refine W.bp d53_58 36 rfl ?_
        refine W.cy (pc' := 70) d53_60 (feq (fun q => hs (Or.inr (Or.inr (Or.inr q))))).2 (by decide) (by decide) ?_
        refine W.an d53_70 rfl rfl ?_
        refine W.il d53_71 rfl ?_
        refine W.virtual (X.w 80 rfl) (X.w 81 rfl) (notFace_of_selects (args := #[]) (mvT W.hZ (X.w 83 rfl))) (X.w 83 rfl) (X.w 82 rfl) (X.w 37 rfl) (X.w 84 rfl) (by decide) (c_sap X b1 b2 _ (3 : Int32) _ 3 ((([] : List Int32) ++ esc c0) ++ esc c1) c2 sv h0 _ W.ext Y B t2 (by decide) (by have e0 := esc_len c0; have e1 := esc_len c1; have e2 := esc_len c2; simp only [List.length_append, List.length_nil, List.length_cons] <;> omega)) (by decide) (Wd := 0) (by decide) b1 B.2.2.2.1 [(.int c2)] [] rfl pd_34 rfl rfl rfl (Nat.le_of_eq rfl) d53_73 (by decide) (by decide) ?_
        intro v T h vm W hQ C
        obtain ⟨rfl, B⟩ := hQ
        show Go (g := mkF m 76 #[rv a, rv b1, rv b2, iv 3, iv 2, iv c2] [(.ref b1)]) ..
        refine W.pp d53_76 rfl ?_
        have e_ : (((([] : List Int32) ++ esc c0) ++ esc c1) ++ [c2]) = (((([] : List Int32) ++ esc c0) ++ esc c1) ++ esc c2) := by rw [esc_no hs]
        rw [e_] at B
        exact J77 _ _ _ (W.more (by decide) (by decide)) B
    by_cases hs : Sp c1
    · have J63 : Go p e below s Z consts_1 ({ frames := 8, cells := 17, slots := 246, locals := 118 } : Room).cells ({ frames := 8, cells := 17, slots := 246, locals := 118 } : Room).slots (fun v h => ∃ r : Addr, v = some (.ref r) ∧ Keep h0 h [] ∧ StrX Z h r (((([] : List Int32) ++ esc c0) ++ esc c1) ++ esc c2)) T (mkF m 63 #[rv a, rv b1, rv b2, iv 3, iv 1, iv c1] []) := by
        refine W.an d53_63 rfl rfl ?_
        refine W.bp d53_64 92 rfl ?_
        refine W.virtual (X.w 80 rfl) (X.w 81 rfl) (notFace_of_selects (args := #[]) (mvT W.hZ (X.w 83 rfl))) (X.w 83 rfl) (X.w 82 rfl) (X.w 37 rfl) (X.w 84 rfl) (by decide) (c_sap X b1 b2 _ (3 : Int32) _ 3 (([] : List Int32) ++ esc c0) (92 : Int32) sv h0 _ W.ext Y B (by decide) (by decide) (by have e0 := esc_len c0; have e1 := esc_len c1; have e2 := esc_len c2; simp only [List.length_append, List.length_nil, List.length_cons] <;> omega)) (by decide) (Wd := 0) (by decide) b1 B.2.2.2.1 [(.int (92 : Int32))] [] rfl pd_34 rfl rfl rfl (Nat.le_of_eq rfl) d53_66 (by decide) (by decide) ?_
        intro v T h vm W hQ C
        obtain ⟨rfl, B⟩ := hQ
        show Go (g := mkF m 69 #[rv a, rv b1, rv b2, iv 3, iv 1, iv c1] [(.ref b1)]) ..
        refine W.pp d53_69 rfl ?_
        refine W.an d53_70 rfl rfl ?_
        refine W.il d53_71 rfl ?_
        refine W.virtual (X.w 80 rfl) (X.w 81 rfl) (notFace_of_selects (args := #[]) (mvT W.hZ (X.w 83 rfl))) (X.w 83 rfl) (X.w 82 rfl) (X.w 37 rfl) (X.w 84 rfl) (by decide) (c_sap X b1 b2 _ (3 : Int32) _ 3 ((([] : List Int32) ++ esc c0) ++ [92]) c1 sv h0 _ W.ext Y B t1 (by decide) (by have e0 := esc_len c0; have e1 := esc_len c1; have e2 := esc_len c2; simp only [List.length_append, List.length_nil, List.length_cons] <;> omega)) (by decide) (Wd := 0) (by decide) b1 B.2.2.2.1 [(.int c1)] [] rfl pd_34 rfl rfl rfl (Nat.le_of_eq rfl) d53_73 (by decide) (by decide) ?_
        intro v T h vm W hQ C
        obtain ⟨rfl, B⟩ := hQ
        show Go (g := mkF m 76 #[rv a, rv b1, rv b2, iv 3, iv 1, iv c1] [(.ref b1)]) ..
        refine W.pp d53_76 rfl ?_
        have e_ : (((([] : List Int32) ++ esc c0) ++ [92]) ++ [c1]) = ((([] : List Int32) ++ esc c0) ++ esc c1) := by rw [esc_yes hs]; simp
        rw [e_] at B
        exact J77 _ _ _ W B
      rcases hs with q | q | q | q
      · refine W.il d53_35 rfl ?_
        refine W.bp d53_37 92 rfl ?_
        refine W.cy (pc' := 63) d53_39 (teq q).1 (by decide) (by decide) ?_
        exact J63
      · refine W.il d53_35 rfl ?_
        refine W.bp d53_37 92 rfl ?_
        refine W.cn d53_39 (feq (by rw [q]; decide)).1 ?_
        refine W.il d53_42 rfl ?_
        refine W.bp d53_44 123 rfl ?_
        refine W.cy (pc' := 63) d53_46 (teq q).1 (by decide) (by decide) ?_
        exact J63
      · refine W.il d53_35 rfl ?_
        refine W.bp d53_37 92 rfl ?_
        refine W.cn d53_39 (feq (by rw [q]; decide)).1 ?_
        refine W.il d53_42 rfl ?_
        refine W.bp d53_44 123 rfl ?_
        refine W.cn d53_46 (feq (by rw [q]; decide)).1 ?_
        refine W.il d53_49 rfl ?_
        refine W.bp d53_51 125 rfl ?_
        refine W.cy (pc' := 63) d53_53 (teq q).1 (by decide) (by decide) ?_
        exact J63
      · refine W.il d53_35 rfl ?_
        refine W.bp d53_37 92 rfl ?_
        refine W.cn d53_39 (feq (by rw [q]; decide)).1 ?_
        refine W.il d53_42 rfl ?_
        refine W.bp d53_44 123 rfl ?_
        refine W.cn d53_46 (feq (by rw [q]; decide)).1 ?_
        refine W.il d53_49 rfl ?_
        refine W.bp d53_51 125 rfl ?_
        refine W.cn d53_53 (feq (by rw [q]; decide)).1 ?_
        refine W.il d53_56 rfl ?_
        refine W.bp d53_58 36 rfl ?_
        refine W.cn d53_60 (teq q).2 ?_
        exact J63
    · refine W.il d53_35 rfl ?_
      refine W.bp d53_37 92 rfl ?_
      refine W.cn d53_39 (feq (fun q => hs (Or.inl q))).1 ?_
      refine W.il d53_42 rfl ?_
      refine W.bp d53_44 123 rfl ?_
      refine W.cn d53_46 (feq (fun q => hs (Or.inr (Or.inl q)))).1 ?_
      refine W.il d53_49 rfl ?_
      refine W.bp d53_51 125 rfl ?_
      refine W.cn d53_53 (feq (fun q => hs (Or.inr (Or.inr (Or.inl q))))).1 ?_
      refine W.il d53_56 rfl ?_
      refine W.bp d53_58 36 rfl ?_
      refine W.cy (pc' := 70) d53_60 (feq (fun q => hs (Or.inr (Or.inr (Or.inr q))))).2 (by decide) (by decide) ?_
      refine W.an d53_70 rfl rfl ?_
      refine W.il d53_71 rfl ?_
      refine W.virtual (X.w 80 rfl) (X.w 81 rfl) (notFace_of_selects (args := #[]) (mvT W.hZ (X.w 83 rfl))) (X.w 83 rfl) (X.w 82 rfl) (X.w 37 rfl) (X.w 84 rfl) (by decide) (c_sap X b1 b2 _ (3 : Int32) _ 3 (([] : List Int32) ++ esc c0) c1 sv h0 _ W.ext Y B t1 (by decide) (by have e0 := esc_len c0; have e1 := esc_len c1; have e2 := esc_len c2; simp only [List.length_append, List.length_nil, List.length_cons] <;> omega)) (by decide) (Wd := 0) (by decide) b1 B.2.2.2.1 [(.int c1)] [] rfl pd_34 rfl rfl rfl (Nat.le_of_eq rfl) d53_73 (by decide) (by decide) ?_
      intro v T h vm W hQ C
      obtain ⟨rfl, B⟩ := hQ
      show Go (g := mkF m 76 #[rv a, rv b1, rv b2, iv 3, iv 1, iv c1] [(.ref b1)]) ..
      refine W.pp d53_76 rfl ?_
      have e_ : ((([] : List Int32) ++ esc c0) ++ [c1]) = ((([] : List Int32) ++ esc c0) ++ esc c1) := by rw [esc_no hs]
      rw [e_] at B
      exact J77 _ _ _ (W.more (by decide) (by decide)) B
  by_cases hs : Sp c0
  · have J63 : Go p e below s Z consts_1 ({ frames := 8, cells := 17, slots := 246, locals := 118 } : Room).cells ({ frames := 8, cells := 17, slots := 246, locals := 118 } : Room).slots (fun v h => ∃ r : Addr, v = some (.ref r) ∧ Keep h0 h [] ∧ StrX Z h r (((([] : List Int32) ++ esc c0) ++ esc c1) ++ esc c2)) T (mkF m 63 #[rv a, rv b1, rv b2, iv 3, iv 0, iv c0] []) := by
      refine W.an d53_63 rfl rfl ?_
      refine W.bp d53_64 92 rfl ?_
      refine W.virtual (X.w 80 rfl) (X.w 81 rfl) (notFace_of_selects (args := #[]) (mvT W.hZ (X.w 83 rfl))) (X.w 83 rfl) (X.w 82 rfl) (X.w 37 rfl) (X.w 84 rfl) (by decide) (c_sap X b1 b2 _ (3 : Int32) _ 3 ([] : List Int32) (92 : Int32) sv h0 _ W.ext Y B (by decide) (by decide) (by have e0 := esc_len c0; have e1 := esc_len c1; have e2 := esc_len c2; simp only [List.length_append, List.length_nil, List.length_cons] <;> omega)) (by decide) (Wd := 0) (by decide) b1 B.2.2.2.1 [(.int (92 : Int32))] [] rfl pd_34 rfl rfl rfl (Nat.le_of_eq rfl) d53_66 (by decide) (by decide) ?_
      intro v T h vm W hQ C
      obtain ⟨rfl, B⟩ := hQ
      show Go (g := mkF m 69 #[rv a, rv b1, rv b2, iv 3, iv 0, iv c0] [(.ref b1)]) ..
      refine W.pp d53_69 rfl ?_
      refine W.an d53_70 rfl rfl ?_
      refine W.il d53_71 rfl ?_
      refine W.virtual (X.w 80 rfl) (X.w 81 rfl) (notFace_of_selects (args := #[]) (mvT W.hZ (X.w 83 rfl))) (X.w 83 rfl) (X.w 82 rfl) (X.w 37 rfl) (X.w 84 rfl) (by decide) (c_sap X b1 b2 _ (3 : Int32) _ 3 (([] : List Int32) ++ [92]) c0 sv h0 _ W.ext Y B t0 (by decide) (by have e0 := esc_len c0; have e1 := esc_len c1; have e2 := esc_len c2; simp only [List.length_append, List.length_nil, List.length_cons] <;> omega)) (by decide) (Wd := 0) (by decide) b1 B.2.2.2.1 [(.int c0)] [] rfl pd_34 rfl rfl rfl (Nat.le_of_eq rfl) d53_73 (by decide) (by decide) ?_
      intro v T h vm W hQ C
      obtain ⟨rfl, B⟩ := hQ
      show Go (g := mkF m 76 #[rv a, rv b1, rv b2, iv 3, iv 0, iv c0] [(.ref b1)]) ..
      refine W.pp d53_76 rfl ?_
      have e_ : ((([] : List Int32) ++ [92]) ++ [c0]) = (([] : List Int32) ++ esc c0) := by rw [esc_yes hs]; simp
      rw [e_] at B
      exact J77 _ _ _ W B
    rcases hs with q | q | q | q
    · refine W.il d53_35 rfl ?_
      refine W.bp d53_37 92 rfl ?_
      refine W.cy (pc' := 63) d53_39 (teq q).1 (by decide) (by decide) ?_
      exact J63
    · refine W.il d53_35 rfl ?_
      refine W.bp d53_37 92 rfl ?_
      refine W.cn d53_39 (feq (by rw [q]; decide)).1 ?_
      refine W.il d53_42 rfl ?_
      refine W.bp d53_44 123 rfl ?_
      refine W.cy (pc' := 63) d53_46 (teq q).1 (by decide) (by decide) ?_
      exact J63
    · refine W.il d53_35 rfl ?_
      refine W.bp d53_37 92 rfl ?_
      refine W.cn d53_39 (feq (by rw [q]; decide)).1 ?_
      refine W.il d53_42 rfl ?_
      refine W.bp d53_44 123 rfl ?_
      refine W.cn d53_46 (feq (by rw [q]; decide)).1 ?_
      refine W.il d53_49 rfl ?_
      refine W.bp d53_51 125 rfl ?_
      refine W.cy (pc' := 63) d53_53 (teq q).1 (by decide) (by decide) ?_
      exact J63
    · refine W.il d53_35 rfl ?_
      refine W.bp d53_37 92 rfl ?_
      refine W.cn d53_39 (feq (by rw [q]; decide)).1 ?_
      refine W.il d53_42 rfl ?_
      refine W.bp d53_44 123 rfl ?_
      refine W.cn d53_46 (feq (by rw [q]; decide)).1 ?_
      refine W.il d53_49 rfl ?_
      refine W.bp d53_51 125 rfl ?_
      refine W.cn d53_53 (feq (by rw [q]; decide)).1 ?_
      refine W.il d53_56 rfl ?_
      refine W.bp d53_58 36 rfl ?_
      refine W.cn d53_60 (teq q).2 ?_
      exact J63
  · refine W.il d53_35 rfl ?_
    refine W.bp d53_37 92 rfl ?_
    refine W.cn d53_39 (feq (fun q => hs (Or.inl q))).1 ?_
    refine W.il d53_42 rfl ?_
    refine W.bp d53_44 123 rfl ?_
    refine W.cn d53_46 (feq (fun q => hs (Or.inr (Or.inl q)))).1 ?_
    refine W.il d53_49 rfl ?_
    refine W.bp d53_51 125 rfl ?_
    refine W.cn d53_53 (feq (fun q => hs (Or.inr (Or.inr (Or.inl q))))).1 ?_
    refine W.il d53_56 rfl ?_
    refine W.bp d53_58 36 rfl ?_
    refine W.cy (pc' := 70) d53_60 (feq (fun q => hs (Or.inr (Or.inr (Or.inr q))))).2 (by decide) (by decide) ?_
    refine W.an d53_70 rfl rfl ?_
    refine W.il d53_71 rfl ?_
    refine W.virtual (X.w 80 rfl) (X.w 81 rfl) (notFace_of_selects (args := #[]) (mvT W.hZ (X.w 83 rfl))) (X.w 83 rfl) (X.w 82 rfl) (X.w 37 rfl) (X.w 84 rfl) (by decide) (c_sap X b1 b2 _ (3 : Int32) _ 3 ([] : List Int32) c0 sv h0 _ W.ext Y B t0 (by decide) (by have e0 := esc_len c0; have e1 := esc_len c1; have e2 := esc_len c2; simp only [List.length_append, List.length_nil, List.length_cons] <;> omega)) (by decide) (Wd := 0) (by decide) b1 B.2.2.2.1 [(.int c0)] [] rfl pd_34 rfl rfl rfl (Nat.le_of_eq rfl) d53_73 (by decide) (by decide) ?_
    intro v T h vm W hQ C
    obtain ⟨rfl, B⟩ := hQ
    show Go (g := mkF m 76 #[rv a, rv b1, rv b2, iv 3, iv 0, iv c0] [(.ref b1)]) ..
    refine W.pp d53_76 rfl ?_
    have e_ : (([] : List Int32) ++ [c0]) = (([] : List Int32) ++ esc c0) := by rw [esc_no hs]
    rw [e_] at B
    exact J77 _ _ _ (W.more (by decide) (by decide)) B

theorem efspc (m : MethodId) (x0 : Int32) : entryFrame m #[(.int x0)] 1 = mkF m 0 #[.val (.int x0)] [] := by first | (simp [entryFrame, mkF, argsToLocals, Value.category]; done) | rfl
set_option maxRecDepth 65536 in
set_option maxHeartbeats 40000000 in
theorem c_spc {l : Launch} {Z : State} {a0 : Array Value} {G1 : Int32} (X : Ctx Z a0 G1) (c0 : Int32) (h0 : Heap) (hE : Ext Z.heap h0)  :
    Con l Z consts_1 (⟨"com/example/wary_validator/waryvalidator/messageinterpolation/MessageTemplatesEscapePinLaw", "special", "(C)Z"⟩ : MethodName) method_3_code 1 (some .boolean) [] ({ frames := 0, cells := 0, slots := 0, locals := 0 } : Room) #[(.int c0)] h0 (fun v h => ((v = some (.int (1 : Int32)) ∧ Sp c0) ∨ (v = some (.int (0 : Int32)) ∧ ¬ Sp c0)) ∧ h0 = h) := by
  refine Con.intro (plainFor_of_name pn_9) hE X.el ?_
  intro p e s m below meth c T W
  have hsz := W.size
  refine Go.cast (efspc m c0) ?_
  refine W.iN d54_0 rfl ?_
  refine W.bp d54_1 92 rfl ?_
  by_cases hc1 : c0 = (92 : Int32)
  · refine W.cy (pc' := 24) d54_3 (teq hc1).1 (by decide) (by decide) ?_
    refine W.ic d54_24 1 rfl ?_
    refine W.gt (pc' := 29) d54_25 (by decide) (by decide) ?_
    exact W.retN (by simp) d54_29 (⟨Or.inl ⟨rfl, Or.inl hc1⟩, rfl⟩) (by decide) (by decide)
  · refine W.cn d54_3 (feq hc1).1 ?_
    refine W.iN d54_6 rfl ?_
    refine W.bp d54_7 123 rfl ?_
    by_cases hc2 : c0 = (123 : Int32)
    · refine W.cy (pc' := 24) d54_9 (teq hc2).1 (by decide) (by decide) ?_
      refine W.ic d54_24 1 rfl ?_
      refine W.gt (pc' := 29) d54_25 (by decide) (by decide) ?_
      exact W.retN (by simp) d54_29 (⟨Or.inl ⟨rfl, Or.inr (Or.inl hc2)⟩, rfl⟩) (by decide) (by decide)
    · refine W.cn d54_9 (feq hc2).1 ?_
      refine W.iN d54_12 rfl ?_
      refine W.bp d54_13 125 rfl ?_
      by_cases hc3 : c0 = (125 : Int32)
      · refine W.cy (pc' := 24) d54_15 (teq hc3).1 (by decide) (by decide) ?_
        refine W.ic d54_24 1 rfl ?_
        refine W.gt (pc' := 29) d54_25 (by decide) (by decide) ?_
        exact W.retN (by simp) d54_29 (⟨Or.inl ⟨rfl, Or.inr (Or.inr (Or.inl hc3))⟩, rfl⟩) (by decide) (by decide)
      · refine W.cn d54_15 (feq hc3).1 ?_
        refine W.iN d54_18 rfl ?_
        refine W.bp d54_19 36 rfl ?_
        by_cases hc4 : c0 = (36 : Int32)
        · refine W.cn d54_21 (teq hc4).2 ?_
          refine W.ic d54_24 1 rfl ?_
          refine W.gt (pc' := 29) d54_25 (by decide) (by decide) ?_
          exact W.retN (by simp) d54_29 (⟨Or.inl ⟨rfl, Or.inr (Or.inr (Or.inr (hc4)))⟩, rfl⟩) (by decide) (by decide)
        · refine W.cy (pc' := 28) d54_21 (feq hc4).2 (by decide) (by decide) ?_
          refine W.ic d54_28 0 rfl ?_
          exact W.retN (by simp) d54_29 (⟨Or.inr ⟨rfl, fun q => q.elim hc1 (fun q => q.elim hc2 (fun q => q.elim hc3 hc4))⟩, rfl⟩) (by decide) (by decide)

theorem efput (m : MethodId) (x0 : Addr) (x1 : Int32) (x2 : Int32) : entryFrame m #[(.ref x0), (.int x1), (.int x2)] 4 = mkF m 0 #[.val (.ref x0), .val (.int x1), .val (.int x2), .unset] [] := by first | (simp [entryFrame, mkF, argsToLocals, Value.category]; done) | rfl
set_option maxRecDepth 65536 in
set_option maxHeartbeats 40000000 in
theorem c_put {l : Launch} {Z : State} {a0 : Array Value} {G1 : Int32} (X : Ctx Z a0 G1) (d : Addr) (kd : ClassId) (cs : List Int32) (c0 : Int32) (h0 : Heap) (hE : Ext Z.heap h0) (gd : Z.heap.size ≤ d) (Vd : Arv Z h0 d kd .char (6 : Int32) (cs.map Value.int) (.int (0 : Int32))) (hj : cs.length + 2 ≤ 6) (tc : Ch c0) :
    Con l Z consts_1 (⟨"com/example/wary_validator/waryvalidator/messageinterpolation/MessageTemplatesEscapePinLaw", "put", "([CIC)I"⟩ : MethodName) method_4_code 4 (some .int) [] ({ frames := 1, cells := 0, slots := 0, locals := 12 } : Room) #[(.ref d), (.int (N cs.length)), (.int c0)] h0 (fun v h => v = some (.int (N (cs ++ esc c0).length)) ∧ Keep h0 h [d] ∧ Arv Z h d kd .char (6 : Int32) ((cs ++ esc c0).map Value.int) (.int (0 : Int32))) := by
  refine Con.intro (plainFor_of_name pn_9) hE X.el ?_
  intro p e s m below meth c T W
  have hsz := W.size
  refine Go.cast (efput m d (N cs.length) c0) ?_
  have KP := Keep.refl h0 [d]
  refine W.iN d55_0 rfl ?_
  refine W.isn (Ls' := #[rv d, iv (N cs.length), iv c0, iv (N cs.length)]) d55_1 rfl ?_
  refine W.iN d55_2 rfl ?_
  refine W.callS (X.w 148 rfl) (X.w 149 rfl) (X.w 146 rfl) (X.w 150 rfl) (by decide) (c_spc X c0 _ W.ext) (by decide) (Wd := 0) (by decide) [(.int c0)] [] rfl pd_25 rfl rfl rfl (Nat.le_of_eq rfl) d55_3 (by decide) (by decide) ?_
  intro v T h vm W hQ C
  obtain ⟨hq, rfl⟩ := hQ
  rcases hq with ⟨rfl, hs⟩ | ⟨rfl, hs⟩
  · show Go (g := mkF m 6 #[rv d, iv (N cs.length), iv c0, iv (N cs.length)] [(.int 1)]) ..
    refine W.fn d55_6 ((if0 _ _).trans (feq (by decide : ¬ ((1 : Int32) = (0 : Int32)))).1) ?_
    refine W.an d55_9 rfl rfl ?_
    refine W.iN d55_10 rfl ?_
    refine W.bp d55_11 92 rfl ?_
    have V2 := Vd.pad (pad_rep (cs.map Value.int) (.int (0 : Int32)) 1)
    refine W.castore V2 cs.length (N_nat (by omega)) (by simp) ⟨N_nn (by omega), (N_lt (b := 6) (by omega) (by omega)).mpr (by omega)⟩ gd d55_13 ?_
    intro T h W K1 V3
    replace KP := KP.otrM K1 (by simp)
    replace hsz := W.size
    rw [nar_ch (by decide), set_snocC] at V3
    replace Vd := V3
    refine W.iN d55_14 rfl ?_
    refine W.ic d55_15 1 rfl ?_
    refine Go.step (fun _ kz => XS.iadd W.here W.hx rfl (W.d d55_16) rfl kz) ?_
    show Go (g := mkF m 17 #[rv d, iv (N cs.length), iv c0, iv (N cs.length)] [(.int ((N cs.length) + (1 : Int32)))]) ..
    rw [N_add1]
    show Go (g := mkF m 17 #[rv d, iv (N cs.length), iv c0, iv (N cs.length)] [(.int (N (cs.length + 1)))]) ..
    refine W.isn (Ls' := #[rv d, iv (N cs.length), iv c0, iv (N (cs.length + 1))]) d55_17 rfl ?_
    refine W.an d55_18 rfl rfl ?_
    refine W.iN d55_19 rfl ?_
    refine W.iN d55_20 rfl ?_
    have V2 := Vd.pad (pad_rep ((cs ++ [92]).map Value.int) (.int (0 : Int32)) 1)
    refine W.castore V2 (cs ++ [92]).length (by rw [N_nat (by omega), len_snoc]) (by simp) ⟨N_nn (by omega), (N_lt (b := 6) (by omega) (by omega)).mpr (by omega)⟩ gd d55_21 ?_
    intro T h W K2 V3
    replace KP := KP.otrM K2 (by simp)
    replace hsz := W.size
    rw [nar_ch tc, set_snocC] at V3
    replace Vd := V3
    refine W.iN d55_22 rfl ?_
    refine W.ic d55_23 1 rfl ?_
    refine Go.step (fun _ kz => XS.iadd W.here W.hx rfl (W.d d55_24) rfl kz) ?_
    show Go (g := mkF m 25 #[rv d, iv (N cs.length), iv c0, iv (N (cs.length + 1))] [(.int ((N (cs.length + 1)) + (1 : Int32)))]) ..
    rw [N_add1]
    show Go (g := mkF m 25 #[rv d, iv (N cs.length), iv c0, iv (N (cs.length + 1))] [(.int (N (cs.length + 1 + 1)))]) ..
    have e_ : ((cs ++ [92]) ++ [c0]) = cs ++ esc c0 := by rw [esc_yes hs]; simp
    have l_ : cs.length + 1 + 1 = (cs ++ esc c0).length := by rw [← e_]; simp
    rw [e_] at Vd
    exact W.retI d55_25 (⟨by rw [l_], KP, Vd⟩) (by decide) (by decide)
  · show Go (g := mkF m 6 #[rv d, iv (N cs.length), iv c0, iv (N cs.length)] [(.int 0)]) ..
    refine W.fy (pc' := 18) d55_6 ((if0 _ _).trans (teq (by decide : (0 : Int32) = (0 : Int32))).1) (by decide) (by decide) ?_
    refine W.an d55_18 rfl rfl ?_
    refine W.iN d55_19 rfl ?_
    refine W.iN d55_20 rfl ?_
    have V2 := Vd.pad (pad_rep (cs.map Value.int) (.int (0 : Int32)) 1)
    refine W.castore V2 cs.length (N_nat (by omega)) (by simp) ⟨N_nn (by omega), (N_lt (b := 6) (by omega) (by omega)).mpr (by omega)⟩ gd d55_21 ?_
    intro T h W K3 V3
    replace KP := KP.otrM K3 (by simp)
    replace hsz := W.size
    rw [nar_ch tc, set_snocC] at V3
    replace Vd := V3
    refine W.iN d55_22 rfl ?_
    refine W.ic d55_23 1 rfl ?_
    refine Go.step (fun _ kz => XS.iadd W.here W.hx rfl (W.d d55_24) rfl kz) ?_
    show Go (g := mkF m 25 #[rv d, iv (N cs.length), iv c0, iv (N cs.length)] [(.int ((N cs.length) + (1 : Int32)))]) ..
    rw [N_add1]
    show Go (g := mkF m 25 #[rv d, iv (N cs.length), iv c0, iv (N cs.length)] [(.int (N (cs.length + 1)))]) ..
    have e_ : (cs ++ [c0]) = cs ++ esc c0 := by rw [esc_no hs]
    have l_ : cs.length + 1 = (cs ++ esc c0).length := by rw [← e_]; simp
    rw [e_] at Vd
    exact W.retI d55_25 (⟨by rw [l_], KP, Vd⟩) (by decide) (by decide)

theorem efat (m : MethodId) (x0 : Addr) (x1 : Addr) (x2 : Int32) (x3 : Int32) : entryFrame m #[(.ref x0), (.ref x1), (.int x2), (.int x3)] 4 = mkF m 0 #[.val (.ref x0), .val (.ref x1), .val (.int x2), .val (.int x3)] [] := by first | (simp [entryFrame, mkF, argsToLocals, Value.category]; done) | rfl
set_option maxRecDepth 65536 in
set_option maxHeartbeats 40000000 in
theorem c_at {l : Launch} {Z : State} {a0 : Array Value} {G1 : Int32} (X : Ctx Z a0 G1) (r d : Addr) (kd : ClassId) (cs : List Int32) (i : Nat) (sv : Value) (h0 : Heap) (hE : Ext Z.heap h0) (Y : U16 Z sv) (S : StrX Z h0 r cs) (Vd : Arv Z h0 d kd .char (6 : Int32) (cs.map Value.int) (.int (0 : Int32))) (hi : i ≤ 5) (hl : cs.length ≤ 6) :
    Con l Z consts_1 (⟨"com/example/wary_validator/waryvalidator/messageinterpolation/MessageTemplatesEscapePinLaw", "at", "(Ljava/lang/String;[CII)Z"⟩ : MethodName) method_5_code 4 (some .boolean) [] ({ frames := 5, cells := 0, slots := 0, locals := 66 } : Room) #[(.ref r), (.ref d), (.int (N cs.length)), (.int (N i))] h0 (fun v h => v = some (.int (1 : Int32)) ∧ h0 = h) := by
  refine Con.intro (plainFor_of_name pn_9) hE X.el ?_
  intro p e s m below meth c T W
  have hsz := W.size
  refine Go.cast (efat m r d (N cs.length) (N i)) ?_
  refine W.iN d56_0 rfl ?_
  refine W.iN d56_1 rfl ?_
  by_cases hc1 : (N i) < (N cs.length)
  · refine W.cn d56_2 (tlt hc1).2.1 ?_
    have hj := (N_lt (by omega) (by omega)).mp hc1
    refine W.an d56_5 rfl rfl ?_
    refine W.iN d56_6 rfl ?_
    refine W.virtual (X.w 155 rfl) (X.w 156 rfl) (notFace_of_selects (args := #[]) (mvT W.hZ (X.w 158 rfl))) (X.w 158 rfl) (X.w 157 rfl) (X.w 4 rfl) (X.w 159 rfl) (by decide) (c_chax X r i cs sv _ W.ext Y S hj) (by decide) (Wd := 0) (by decide) r S.exa [(.int (N i))] [] rfl pd_35 rfl rfl rfl (Nat.le_of_eq rfl) d56_7 (by decide) (by decide) ?_
    intro v T h vm W hQ C
    obtain ⟨rfl, rfl⟩ := hQ
    show Go (g := mkF m 10 #[rv r, rv d, iv (N cs.length), iv (N i)] [(.int (cs.getD i 0))]) ..
    refine W.an d56_10 rfl rfl ?_
    refine W.iN d56_11 rfl ?_
    refine W.caload (v := .int (cs.getD i 0)) Vd ⟨N_nn (by omega), (N_lt (b := 6) (by omega) (by omega)).mpr (by omega)⟩ (by rw [N_nat (by omega)]; exact mapI_at cs i hj _) d56_12 ?_
    refine W.cn d56_13 (teq rfl).2 ?_
    refine W.ic d56_16 1 rfl ?_
    refine W.gt (pc' := 21) d56_17 (by decide) (by decide) ?_
    exact W.retN (by simp) d56_21 (⟨rfl, rfl⟩) (by decide) (by decide)
  · refine W.cy (pc' := 16) d56_2 (flt hc1).2.1 (by decide) (by decide) ?_
    refine W.ic d56_16 1 rfl ?_
    refine W.gt (pc' := 21) d56_17 (by decide) (by decide) ?_
    exact W.retN (by simp) d56_21 (⟨rfl, rfl⟩) (by decide) (by decide)

abbrev M4 (z : Int32) : Prop := z = 0 ∨ z = 1 ∨ z = 2 ∨ z = 3

theorem ef0 (m : MethodId) (x0 : Int32) (x1 : Int32) (x2 : Int32) (x3 : Int32) : entryFrame m #[(.int x0), (.int x1), (.int x2), (.int x3)] maxLocals = mkF m 0 #[.val (.int x0), .val (.int x1), .val (.int x2), .val (.int x3), .unset, .unset, .unset, .unset, .unset, .unset, .unset, .unset] [] := by first | (simp [entryFrame, mkF, argsToLocals, Value.category, maxLocals]; done) | rfl
set_option maxRecDepth 65536 in
set_option maxHeartbeats 40000000 in
theorem c_law {l : Launch} {Z : State} {a0 : Array Value} {G1 : Int32} (X : Ctx Z a0 G1) (p0 p1 p2 p3 : Int32) (h0 : Heap) (hE : Ext Z.heap h0) (sv : Value) (Y : U16 Z sv) :
    Con l Z consts_1 x code maxLocals ret tables_1 room_1 #[(.int p0), (.int p1), (.int p2), (.int p3)] h0 (fun v _ => v = some (.int 1)) := by
  refine Con.intro (plainFor_of_name pn_9) hE X.el ?_
  intro p e s m below meth c T W
  have hsz := W.size
  refine Go.cast (ef0 m p0 p1 p2 p3) ?_
  refine W.iN at_0 rfl ?_
  refine W.ic at_1 3 rfl ?_
  refine Go.step (fun _ kz => XS.iand W.here W.hx rfl (W.d at_2) rfl kz) ?_
  show Go (g := mkF m 3 #[iv p0, iv p1, iv p2, iv p3, .unset, .unset, .unset, .unset, .unset, .unset, .unset, .unset] [(.int (p3 &&& (3 : Int32)))]) ..
  refine W.iss (Ls' := #[iv p0, iv p1, iv p2, iv p3, iv (p3 &&& (3 : Int32)), .unset, .unset, .unset, .unset, .unset, .unset, .unset]) at_3 rfl ?_
  refine W.iN at_5 rfl ?_
  refine W.ldcI (X.w 0 rfl) at_6 ?_
  refine Go.step (fun _ kz => XS.iand W.here W.hx rfl (W.d at_8) rfl kz) ?_
  show Go (g := mkF m 9 #[iv p0, iv p1, iv p2, iv p3, iv (p3 &&& (3 : Int32)), .unset, .unset, .unset, .unset, .unset, .unset, .unset] [(.int (p0 &&& (65535 : Int32)))]) ..
  refine Go.step (fun _ kz => XS.i2c W.here W.hx rfl (W.d at_9) rfl kz) ?_
  show Go (g := mkF m 10 #[iv p0, iv p1, iv p2, iv p3, iv (p3 &&& (3 : Int32)), .unset, .unset, .unset, .unset, .unset, .unset, .unset] [(.int ((p0 &&& (65535 : Int32)).toUInt32.toUInt16.toUInt32.toInt32))]) ..
  refine W.iss (Ls' := #[iv p0, iv p1, iv p2, iv p3, iv (p3 &&& (3 : Int32)), iv ((p0 &&& (65535 : Int32)).toUInt32.toUInt16.toUInt32.toInt32), .unset, .unset, .unset, .unset, .unset, .unset]) at_10 rfl ?_
  refine W.iN at_12 rfl ?_
  refine W.ldcI (X.w 0 rfl) at_13 ?_
  refine Go.step (fun _ kz => XS.iand W.here W.hx rfl (W.d at_15) rfl kz) ?_
  show Go (g := mkF m 16 #[iv p0, iv p1, iv p2, iv p3, iv (p3 &&& (3 : Int32)), iv ((p0 &&& (65535 : Int32)).toUInt32.toUInt16.toUInt32.toInt32), .unset, .unset, .unset, .unset, .unset, .unset] [(.int (p1 &&& (65535 : Int32)))]) ..
  refine Go.step (fun _ kz => XS.i2c W.here W.hx rfl (W.d at_16) rfl kz) ?_
  show Go (g := mkF m 17 #[iv p0, iv p1, iv p2, iv p3, iv (p3 &&& (3 : Int32)), iv ((p0 &&& (65535 : Int32)).toUInt32.toUInt16.toUInt32.toInt32), .unset, .unset, .unset, .unset, .unset, .unset] [(.int ((p1 &&& (65535 : Int32)).toUInt32.toUInt16.toUInt32.toInt32))]) ..
  refine W.iss (Ls' := #[iv p0, iv p1, iv p2, iv p3, iv (p3 &&& (3 : Int32)), iv ((p0 &&& (65535 : Int32)).toUInt32.toUInt16.toUInt32.toInt32), iv ((p1 &&& (65535 : Int32)).toUInt32.toUInt16.toUInt32.toInt32), .unset, .unset, .unset, .unset, .unset]) at_17 rfl ?_
  refine W.iN at_19 rfl ?_
  refine W.ldcI (X.w 0 rfl) at_20 ?_
  refine Go.step (fun _ kz => XS.iand W.here W.hx rfl (W.d at_22) rfl kz) ?_
  show Go (g := mkF m 23 #[iv p0, iv p1, iv p2, iv p3, iv (p3 &&& (3 : Int32)), iv ((p0 &&& (65535 : Int32)).toUInt32.toUInt16.toUInt32.toInt32), iv ((p1 &&& (65535 : Int32)).toUInt32.toUInt16.toUInt32.toInt32), .unset, .unset, .unset, .unset, .unset] [(.int (p2 &&& (65535 : Int32)))]) ..
  refine Go.step (fun _ kz => XS.i2c W.here W.hx rfl (W.d at_23) rfl kz) ?_
  show Go (g := mkF m 24 #[iv p0, iv p1, iv p2, iv p3, iv (p3 &&& (3 : Int32)), iv ((p0 &&& (65535 : Int32)).toUInt32.toUInt16.toUInt32.toInt32), iv ((p1 &&& (65535 : Int32)).toUInt32.toUInt16.toUInt32.toInt32), .unset, .unset, .unset, .unset, .unset] [(.int ((p2 &&& (65535 : Int32)).toUInt32.toUInt16.toUInt32.toInt32))]) ..
  refine W.iss (Ls' := #[iv p0, iv p1, iv p2, iv p3, iv (p3 &&& (3 : Int32)), iv ((p0 &&& (65535 : Int32)).toUInt32.toUInt16.toUInt32.toInt32), iv ((p1 &&& (65535 : Int32)).toUInt32.toUInt16.toUInt32.toInt32), iv ((p2 &&& (65535 : Int32)).toUInt32.toUInt16.toUInt32.toInt32), .unset, .unset, .unset, .unset]) at_24 rfl ?_
  have t_c0 : Ch ((p0 &&& (65535 : Int32)).toUInt32.toUInt16.toUInt32.toInt32) := ch_i2c _
  generalize ((p0 &&& (65535 : Int32)).toUInt32.toUInt16.toUInt32.toInt32) = c0 at t_c0 ⊢
  have t_c1 : Ch ((p1 &&& (65535 : Int32)).toUInt32.toUInt16.toUInt32.toInt32) := ch_i2c _
  generalize ((p1 &&& (65535 : Int32)).toUInt32.toUInt16.toUInt32.toInt32) = c1 at t_c1 ⊢
  have t_c2 : Ch ((p2 &&& (65535 : Int32)).toUInt32.toUInt16.toUInt32.toInt32) := ch_i2c _
  generalize ((p2 &&& (65535 : Int32)).toUInt32.toUInt16.toUInt32.toInt32) = c2 at t_c2 ⊢
  have t_nn : M4 (p3 &&& (3 : Int32)) := mask3 _
  generalize (p3 &&& (3 : Int32)) = nn at t_nn ⊢
  rcases t_nn with rfl | rfl | rfl | rfl
  · show Go (g := mkF m 26 #[iv p0, iv p1, iv p2, iv p3, iv 0, iv c0, iv c1, iv c2, .unset, .unset, .unset, .unset] []) ..
    refine W.il at_26 rfl ?_
    refine W.fn at_28 ((if0 _ _).trans (teq (by decide : (0 : Int32) = (0 : Int32))).2) ?_
    refine W.ic at_31 0 rfl ?_
    refine W.newarr (X.w 1 rfl) at_32 (by decide) (cap := 0) (by decide) (by decide) (by decide) (by decide) ?_
    intro T h b1 kb1 hb1 W Eb1 Vb1 Sfb1
    have gb1 : Z.heap.size ≤ b1 := by rw [hb1]; exact hsz
    replace hsz := W.size
    replace Vb1 : Arv Z h b1 kb1 .char (0 : Int32) [] (.int (0 : Int32)) := Vb1.pad (pad_rep [] (.int (0 : Int32)) 0)
    refine W.ass (Ls' := #[iv p0, iv p1, iv p2, iv p3, iv 0, iv c0, iv c1, iv c2, rv b1, .unset, .unset, .unset]) at_34 rfl rfl ?_
    refine W.gt (pc' := 102) at_36 (by decide) (by decide) ?_
    refine W.new (X.w 2 rfl) (X.w 3 rfl) (X.w 4 rfl) at_102 (by decide) (by decide) ?_
    intro T h b2 hb2 W Eb2 Ab2 Db2
    have ne_b1_b2 : b1 ≠ b2 := by rw [hb2]; exact Nat.ne_of_lt Vb1.lt
    have gb2 : Z.heap.size ≤ b2 := by rw [hb2]; exact hsz
    replace Vb1 := Vb1.ext Eb2
    replace hsz := W.size
    have F_coder_b2 : Fld Z h b2 "java/lang/String" "coder" "B" (.int (0 : Int32)) := Db2 (Or.inr (X.w 28 rfl)) (ty := .byte) (by decide)
    have F_value_b2 : Fld Z h b2 "java/lang/String" "value" "[B" .null := Db2 (Or.inr (X.w 30 rfl)) (ty := (.array .byte)) (by decide)
    refine W.dp at_105 rfl ?_
    refine W.al at_106 rfl rfl ?_
    refine W.special rfl (X.w 5 rfl) (X.w 6 rfl) (X.w 4 rfl) (X.w 7 rfl) (by decide) (c_e1 X b2 b1 _ _ _ _ W.ext gb2 Ab2 F_value_b2 F_coder_b2 Vb1) (by decide) (Wd := 1) (by decide) b2 [(.ref b1)] [(.ref b2)] rfl pd_36 rfl rfl rfl (Nat.le_of_eq rfl) at_108 (by decide) (by decide) ?_
    intro v T h vm W hQ C
    obtain ⟨rfl, -, Sx⟩ := hQ
    replace hsz := W.size
    show Go (g := mkF m 111 #[iv p0, iv p1, iv p2, iv p3, iv 0, iv c0, iv c1, iv c2, rv b1, .unset, .unset, .unset] [(.ref b2)]) ..
    refine W.callS (X.w 31 rfl) (X.w 32 rfl) (X.w 33 rfl) (X.w 34 rfl) (by decide) (c_esc0 X b2  sv _ W.ext Y Sx ) (by decide) (Wd := 0) (by decide) [(.ref b2)] [] rfl pd_37 rfl rfl rfl (Nat.le_of_eq rfl) at_111 (by decide) (by decide) ?_
    intro v T h vm W hQ C
    obtain ⟨r, rfl, -, SR⟩ := hQ
    replace hsz := W.size
    show Go (g := mkF m 114 #[iv p0, iv p1, iv p2, iv p3, iv 0, iv c0, iv c1, iv c2, rv b1, .unset, .unset, .unset] [(.ref r)]) ..
    refine W.ass (Ls' := #[iv p0, iv p1, iv p2, iv p3, iv 0, iv c0, iv c1, iv c2, rv b1, rv r, .unset, .unset]) at_114 rfl rfl ?_
    refine W.bp at_116 6 rfl ?_
    refine W.newarr (X.w 1 rfl) at_118 (by decide) (cap := 6) (by decide) (by decide) (by decide) (by decide) ?_
    intro T h d kd hd_ W Ed Vd Sfd
    have gd : Z.heap.size ≤ d := by rw [hd_]; exact hsz
    replace SR := SR.ext Ed
    replace hsz := W.size
    replace Vd : Arv Z h d kd .char (6 : Int32) (([] : List Int32).map Value.int) (.int (0 : Int32)) := Vd
    refine W.ass (Ls' := #[iv p0, iv p1, iv p2, iv p3, iv 0, iv c0, iv c1, iv c2, rv b1, rv r, rv d, .unset]) at_120 rfl rfl ?_
    refine W.ic at_122 0 rfl ?_
    refine W.iss (Ls' := #[iv p0, iv p1, iv p2, iv p3, iv 0, iv c0, iv c1, iv c2, rv b1, rv r, rv d, iv 0]) at_123 rfl ?_
    show Go (g := mkF m 125 #[iv p0, iv p1, iv p2, iv p3, iv 0, iv c0, iv c1, iv c2, rv b1, rv r, rv d, iv (N ([] : List Int32).length)] []) ..
    refine W.il at_125 rfl ?_
    refine W.ic at_127 1 rfl ?_
    refine W.cy (pc' := 142) at_128 (tlt (by decide : (0 : Int32) < (1 : Int32))).1 (by decide) (by decide) ?_
    refine W.il at_142 rfl ?_
    refine W.ic at_144 2 rfl ?_
    refine W.cy (pc' := 159) at_145 (tlt (by decide : (0 : Int32) < (2 : Int32))).1 (by decide) (by decide) ?_
    refine W.il at_159 rfl ?_
    refine W.ic at_161 3 rfl ?_
    refine W.cy (pc' := 176) at_162 (tlt (by decide : (0 : Int32) < (3 : Int32))).1 (by decide) (by decide) ?_
    refine W.al at_176 rfl rfl ?_
    refine W.virtual (X.w 151 rfl) (X.w 39 rfl) (notFace_of_selects (args := #[]) (mvT W.hZ (X.w 41 rfl))) (X.w 41 rfl) (X.w 40 rfl) (X.w 4 rfl) (X.w 42 rfl) (by decide) (c_lenx X r _ _ W.ext SR) (by decide) (Wd := 0) (by decide) r SR.exa [] [] rfl pd_28 rfl rfl rfl (Nat.le_of_eq rfl) at_178 (by decide) (by decide) ?_
    intro v T h vm W hQ C
    obtain ⟨rfl, rfl⟩ := hQ
    show Go (g := mkF m 181 #[iv p0, iv p1, iv p2, iv p3, iv 0, iv c0, iv c1, iv c2, rv b1, rv r, rv d, iv (N ([] : List Int32).length)] [(.int (N ([] : List Int32).length))]) ..
    refine W.il at_181 rfl ?_
    refine W.cy (pc' := 188) at_183 (teq rfl).1 (by decide) (by decide) ?_
    refine W.al at_188 rfl rfl ?_
    refine W.al at_190 rfl rfl ?_
    refine W.il at_192 rfl ?_
    refine W.ic at_194 0 rfl ?_
    refine W.callS (X.w 152 rfl) (X.w 153 rfl) (X.w 146 rfl) (X.w 154 rfl) (by decide) (c_at X r d _ ([] : List Int32) 0 sv _ W.ext Y SR Vd (by decide) (by simp only [List.length_append, List.length_nil, List.length_cons] <;> omega)) (by decide) (Wd := 0) (by decide) [(.ref r), (.ref d), (.int (N ([] : List Int32).length)), (.int (0 : Int32))] [] rfl pd_38 rfl rfl rfl (Nat.le_of_eq rfl) at_195 (by decide) (by decide) ?_
    intro v T h vm W hQ C
    obtain ⟨rfl, rfl⟩ := hQ
    show Go (g := mkF m 198 #[iv p0, iv p1, iv p2, iv p3, iv 0, iv c0, iv c1, iv c2, rv b1, rv r, rv d, iv (N ([] : List Int32).length)] [(.int 1)]) ..
    refine W.fn at_198 ((if0 _ _).trans (feq (by decide : ¬ ((1 : Int32) = (0 : Int32)))).1) ?_
    refine W.al at_201 rfl rfl ?_
    refine W.al at_203 rfl rfl ?_
    refine W.il at_205 rfl ?_
    refine W.ic at_207 1 rfl ?_
    refine W.callS (X.w 152 rfl) (X.w 153 rfl) (X.w 146 rfl) (X.w 154 rfl) (by decide) (c_at X r d _ ([] : List Int32) 1 sv _ W.ext Y SR Vd (by decide) (by simp only [List.length_append, List.length_nil, List.length_cons] <;> omega)) (by decide) (Wd := 0) (by decide) [(.ref r), (.ref d), (.int (N ([] : List Int32).length)), (.int (1 : Int32))] [] rfl pd_38 rfl rfl rfl (Nat.le_of_eq rfl) at_208 (by decide) (by decide) ?_
    intro v T h vm W hQ C
    obtain ⟨rfl, rfl⟩ := hQ
    show Go (g := mkF m 211 #[iv p0, iv p1, iv p2, iv p3, iv 0, iv c0, iv c1, iv c2, rv b1, rv r, rv d, iv (N ([] : List Int32).length)] [(.int 1)]) ..
    refine W.fn at_211 ((if0 _ _).trans (feq (by decide : ¬ ((1 : Int32) = (0 : Int32)))).1) ?_
    refine W.al at_214 rfl rfl ?_
    refine W.al at_216 rfl rfl ?_
    refine W.il at_218 rfl ?_
    refine W.ic at_220 2 rfl ?_
    refine W.callS (X.w 152 rfl) (X.w 153 rfl) (X.w 146 rfl) (X.w 154 rfl) (by decide) (c_at X r d _ ([] : List Int32) 2 sv _ W.ext Y SR Vd (by decide) (by simp only [List.length_append, List.length_nil, List.length_cons] <;> omega)) (by decide) (Wd := 0) (by decide) [(.ref r), (.ref d), (.int (N ([] : List Int32).length)), (.int (2 : Int32))] [] rfl pd_38 rfl rfl rfl (Nat.le_of_eq rfl) at_221 (by decide) (by decide) ?_
    intro v T h vm W hQ C
    obtain ⟨rfl, rfl⟩ := hQ
    show Go (g := mkF m 224 #[iv p0, iv p1, iv p2, iv p3, iv 0, iv c0, iv c1, iv c2, rv b1, rv r, rv d, iv (N ([] : List Int32).length)] [(.int 1)]) ..
    refine W.fn at_224 ((if0 _ _).trans (feq (by decide : ¬ ((1 : Int32) = (0 : Int32)))).1) ?_
    refine W.al at_227 rfl rfl ?_
    refine W.al at_229 rfl rfl ?_
    refine W.il at_231 rfl ?_
    refine W.ic at_233 3 rfl ?_
    refine W.callS (X.w 152 rfl) (X.w 153 rfl) (X.w 146 rfl) (X.w 154 rfl) (by decide) (c_at X r d _ ([] : List Int32) 3 sv _ W.ext Y SR Vd (by decide) (by simp only [List.length_append, List.length_nil, List.length_cons] <;> omega)) (by decide) (Wd := 0) (by decide) [(.ref r), (.ref d), (.int (N ([] : List Int32).length)), (.int (3 : Int32))] [] rfl pd_38 rfl rfl rfl (Nat.le_of_eq rfl) at_234 (by decide) (by decide) ?_
    intro v T h vm W hQ C
    obtain ⟨rfl, rfl⟩ := hQ
    show Go (g := mkF m 237 #[iv p0, iv p1, iv p2, iv p3, iv 0, iv c0, iv c1, iv c2, rv b1, rv r, rv d, iv (N ([] : List Int32).length)] [(.int 1)]) ..
    refine W.fn at_237 ((if0 _ _).trans (feq (by decide : ¬ ((1 : Int32) = (0 : Int32)))).1) ?_
    refine W.al at_240 rfl rfl ?_
    refine W.al at_242 rfl rfl ?_
    refine W.il at_244 rfl ?_
    refine W.ic at_246 4 rfl ?_
    refine W.callS (X.w 152 rfl) (X.w 153 rfl) (X.w 146 rfl) (X.w 154 rfl) (by decide) (c_at X r d _ ([] : List Int32) 4 sv _ W.ext Y SR Vd (by decide) (by simp only [List.length_append, List.length_nil, List.length_cons] <;> omega)) (by decide) (Wd := 0) (by decide) [(.ref r), (.ref d), (.int (N ([] : List Int32).length)), (.int (4 : Int32))] [] rfl pd_38 rfl rfl rfl (Nat.le_of_eq rfl) at_247 (by decide) (by decide) ?_
    intro v T h vm W hQ C
    obtain ⟨rfl, rfl⟩ := hQ
    show Go (g := mkF m 250 #[iv p0, iv p1, iv p2, iv p3, iv 0, iv c0, iv c1, iv c2, rv b1, rv r, rv d, iv (N ([] : List Int32).length)] [(.int 1)]) ..
    refine W.fn at_250 ((if0 _ _).trans (feq (by decide : ¬ ((1 : Int32) = (0 : Int32)))).1) ?_
    refine W.al at_253 rfl rfl ?_
    refine W.al at_255 rfl rfl ?_
    refine W.il at_257 rfl ?_
    refine W.ic at_259 5 rfl ?_
    refine W.callS (X.w 152 rfl) (X.w 153 rfl) (X.w 146 rfl) (X.w 154 rfl) (by decide) (c_at X r d _ ([] : List Int32) 5 sv _ W.ext Y SR Vd (by decide) (by simp only [List.length_append, List.length_nil, List.length_cons] <;> omega)) (by decide) (Wd := 0) (by decide) [(.ref r), (.ref d), (.int (N ([] : List Int32).length)), (.int (5 : Int32))] [] rfl pd_38 rfl rfl rfl (Nat.le_of_eq rfl) at_260 (by decide) (by decide) ?_
    intro v T h vm W hQ C
    obtain ⟨rfl, rfl⟩ := hQ
    show Go (g := mkF m 263 #[iv p0, iv p1, iv p2, iv p3, iv 0, iv c0, iv c1, iv c2, rv b1, rv r, rv d, iv (N ([] : List Int32).length)] [(.int 1)]) ..
    refine W.fn at_263 ((if0 _ _).trans (feq (by decide : ¬ ((1 : Int32) = (0 : Int32)))).1) ?_
    refine W.ic at_266 1 rfl ?_
    refine W.gt (pc' := 271) at_267 (by decide) (by decide) ?_
    exact W.retN (by simp) at_271 (rfl) (by decide) (by decide)
  · show Go (g := mkF m 26 #[iv p0, iv p1, iv p2, iv p3, iv 1, iv c0, iv c1, iv c2, .unset, .unset, .unset, .unset] []) ..
    refine W.il at_26 rfl ?_
    refine W.fy (pc' := 39) at_28 ((if0 _ _).trans (feq (by decide : ¬ ((1 : Int32) = (0 : Int32)))).2) (by decide) (by decide) ?_
    refine W.il at_39 rfl ?_
    refine W.ic at_41 1 rfl ?_
    refine W.cn at_42 (teq (by decide : (1 : Int32) = (1 : Int32))).2 ?_
    refine W.ic at_45 1 rfl ?_
    refine W.newarr (X.w 1 rfl) at_46 (by decide) (cap := 1) (by decide) (by decide) (by decide) (by decide) ?_
    intro T h b3 kb3 hb3 W Eb3 Vb3 Sfb3
    have gb3 : Z.heap.size ≤ b3 := by rw [hb3]; exact hsz
    replace hsz := W.size
    replace Vb3 : Arv Z h b3 kb3 .char (1 : Int32) [(.int (0 : Int32))] (.int (0 : Int32)) := Vb3.pad (pad_rep [] (.int (0 : Int32)) 1)
    refine W.dp at_48 rfl ?_
    refine W.ic at_49 0 rfl ?_
    refine W.il at_50 rfl ?_
    refine W.castore Vb3 0 rfl (by simp) (by decide) gb3 at_52 ?_
    intro T h W K4 Vb3'
    replace hsz := W.size
    replace Vb3 : Arv Z h b3 kb3 .char (1 : Int32) [(.int (nar .char c0))] (.int (0 : Int32)) := Vb3'
    refine W.ass (Ls' := #[iv p0, iv p1, iv p2, iv p3, iv 1, iv c0, iv c1, iv c2, rv b3, .unset, .unset, .unset]) at_53 rfl rfl ?_
    refine W.gt (pc' := 102) at_55 (by decide) (by decide) ?_
    rw [nar_ch t_c0] at Vb3
    refine W.new (X.w 2 rfl) (X.w 3 rfl) (X.w 4 rfl) at_102 (by decide) (by decide) ?_
    intro T h b5 hb5 W Eb5 Ab5 Db5
    have ne_b3_b5 : b3 ≠ b5 := by rw [hb5]; exact Nat.ne_of_lt Vb3.lt
    have gb5 : Z.heap.size ≤ b5 := by rw [hb5]; exact hsz
    replace Vb3 := Vb3.ext Eb5
    replace hsz := W.size
    have F_coder_b5 : Fld Z h b5 "java/lang/String" "coder" "B" (.int (0 : Int32)) := Db5 (Or.inr (X.w 28 rfl)) (ty := .byte) (by decide)
    have F_value_b5 : Fld Z h b5 "java/lang/String" "value" "[B" .null := Db5 (Or.inr (X.w 30 rfl)) (ty := (.array .byte)) (by decide)
    refine W.dp at_105 rfl ?_
    refine W.al at_106 rfl rfl ?_
    have J111 : ∀ (T : State) (h : Heap) (vm : Vm), Wk p l e room_1 s m #[(.int p0), (.int p1), (.int p2), (.int p3)] below meth c Z a0 consts_1 x code maxLocals ret T h vm 4 26 → StrX Z h b5 [c0] → Go p e below s Z consts_1 room_1.cells room_1.slots (fun v _ => v = some (.int 1)) T (mkF m 111 #[iv p0, iv p1, iv p2, iv p3, iv 1, iv c0, iv c1, iv c2, rv b3, .unset, .unset, .unset] [(.ref b5)]) := by
      intro T h vm W Sx
      have hsz := W.size
      refine W.callS (X.w 31 rfl) (X.w 32 rfl) (X.w 33 rfl) (X.w 34 rfl) (by decide) (c_esc1 X b5 c0 sv _ W.ext Y Sx t_c0) (by decide) (Wd := 0) (by decide) [(.ref b5)] [] rfl pd_37 rfl rfl rfl (Nat.le_of_eq rfl) at_111 (by decide) (by decide) ?_
      intro v T h vm W hQ C
      obtain ⟨r, rfl, -, SR⟩ := hQ
      replace hsz := W.size
      show Go (g := mkF m 114 #[iv p0, iv p1, iv p2, iv p3, iv 1, iv c0, iv c1, iv c2, rv b3, .unset, .unset, .unset] [(.ref r)]) ..
      refine W.ass (Ls' := #[iv p0, iv p1, iv p2, iv p3, iv 1, iv c0, iv c1, iv c2, rv b3, rv r, .unset, .unset]) at_114 rfl rfl ?_
      refine W.bp at_116 6 rfl ?_
      refine W.newarr (X.w 1 rfl) at_118 (by decide) (cap := 6) (by decide) (by decide) (by decide) (by decide) ?_
      intro T h d kd hd_ W Ed Vd Sfd
      have gd : Z.heap.size ≤ d := by rw [hd_]; exact hsz
      replace SR := SR.ext Ed
      replace hsz := W.size
      replace Vd : Arv Z h d kd .char (6 : Int32) (([] : List Int32).map Value.int) (.int (0 : Int32)) := Vd
      refine W.ass (Ls' := #[iv p0, iv p1, iv p2, iv p3, iv 1, iv c0, iv c1, iv c2, rv b3, rv r, rv d, .unset]) at_120 rfl rfl ?_
      refine W.ic at_122 0 rfl ?_
      refine W.iss (Ls' := #[iv p0, iv p1, iv p2, iv p3, iv 1, iv c0, iv c1, iv c2, rv b3, rv r, rv d, iv 0]) at_123 rfl ?_
      show Go (g := mkF m 125 #[iv p0, iv p1, iv p2, iv p3, iv 1, iv c0, iv c1, iv c2, rv b3, rv r, rv d, iv (N ([] : List Int32).length)] []) ..
      refine W.il at_125 rfl ?_
      refine W.ic at_127 1 rfl ?_
      refine W.cn at_128 (flt (by decide : ¬ ((1 : Int32) < (1 : Int32)))).1 ?_
      refine W.al at_131 rfl rfl ?_
      refine W.il at_133 rfl ?_
      refine W.il at_135 rfl ?_
      refine W.callS (X.w 144 rfl) (X.w 145 rfl) (X.w 146 rfl) (X.w 147 rfl) (by decide) (c_put X d _ ([] : List Int32) c0 _ W.ext gd Vd (by simp only [List.length_append, List.length_nil, List.length_cons] <;> omega) t_c0) (by decide) (Wd := 0) (by decide) [(.ref d), (.int (N ([] : List Int32).length)), (.int c0)] [] rfl pd_39 rfl rfl rfl (Nat.le_of_eq rfl) at_137 (by decide) (by decide) ?_
      intro v T h vm W hQ C
      obtain ⟨rfl, K6, Vd'⟩ := hQ
      replace SR := SR.keepC K6 Vd (by decide) (X.w 3 rfl)
      replace hsz := W.size
      replace Vd := Vd'
      show Go (g := mkF m 140 #[iv p0, iv p1, iv p2, iv p3, iv 1, iv c0, iv c1, iv c2, rv b3, rv r, rv d, iv (N ([] : List Int32).length)] [(.int (N (([] : List Int32) ++ esc c0).length))]) ..
      refine W.iss (Ls' := #[iv p0, iv p1, iv p2, iv p3, iv 1, iv c0, iv c1, iv c2, rv b3, rv r, rv d, iv (N (([] : List Int32) ++ esc c0).length)]) at_140 rfl ?_
      refine W.il at_142 rfl ?_
      refine W.ic at_144 2 rfl ?_
      refine W.cy (pc' := 159) at_145 (tlt (by decide : (1 : Int32) < (2 : Int32))).1 (by decide) (by decide) ?_
      refine W.il at_159 rfl ?_
      refine W.ic at_161 3 rfl ?_
      refine W.cy (pc' := 176) at_162 (tlt (by decide : (1 : Int32) < (3 : Int32))).1 (by decide) (by decide) ?_
      refine W.al at_176 rfl rfl ?_
      refine W.virtual (X.w 151 rfl) (X.w 39 rfl) (notFace_of_selects (args := #[]) (mvT W.hZ (X.w 41 rfl))) (X.w 41 rfl) (X.w 40 rfl) (X.w 4 rfl) (X.w 42 rfl) (by decide) (c_lenx X r _ _ W.ext SR) (by decide) (Wd := 0) (by decide) r SR.exa [] [] rfl pd_28 rfl rfl rfl (Nat.le_of_eq rfl) at_178 (by decide) (by decide) ?_
      intro v T h vm W hQ C
      obtain ⟨rfl, rfl⟩ := hQ
      show Go (g := mkF m 181 #[iv p0, iv p1, iv p2, iv p3, iv 1, iv c0, iv c1, iv c2, rv b3, rv r, rv d, iv (N (([] : List Int32) ++ esc c0).length)] [(.int (N (([] : List Int32) ++ esc c0).length))]) ..
      refine W.il at_181 rfl ?_
      refine W.cy (pc' := 188) at_183 (teq rfl).1 (by decide) (by decide) ?_
      refine W.al at_188 rfl rfl ?_
      refine W.al at_190 rfl rfl ?_
      refine W.il at_192 rfl ?_
      refine W.ic at_194 0 rfl ?_
      refine W.callS (X.w 152 rfl) (X.w 153 rfl) (X.w 146 rfl) (X.w 154 rfl) (by decide) (c_at X r d _ (([] : List Int32) ++ esc c0) 0 sv _ W.ext Y SR Vd (by decide) (by have e0 := esc_len c0; simp only [List.length_append, List.length_nil, List.length_cons] <;> omega)) (by decide) (Wd := 0) (by decide) [(.ref r), (.ref d), (.int (N (([] : List Int32) ++ esc c0).length)), (.int (0 : Int32))] [] rfl pd_38 rfl rfl rfl (Nat.le_of_eq rfl) at_195 (by decide) (by decide) ?_
      intro v T h vm W hQ C
      obtain ⟨rfl, rfl⟩ := hQ
      show Go (g := mkF m 198 #[iv p0, iv p1, iv p2, iv p3, iv 1, iv c0, iv c1, iv c2, rv b3, rv r, rv d, iv (N (([] : List Int32) ++ esc c0).length)] [(.int 1)]) ..
      refine W.fn at_198 ((if0 _ _).trans (feq (by decide : ¬ ((1 : Int32) = (0 : Int32)))).1) ?_
      refine W.al at_201 rfl rfl ?_
      refine W.al at_203 rfl rfl ?_
      refine W.il at_205 rfl ?_
      refine W.ic at_207 1 rfl ?_
      refine W.callS (X.w 152 rfl) (X.w 153 rfl) (X.w 146 rfl) (X.w 154 rfl) (by decide) (c_at X r d _ (([] : List Int32) ++ esc c0) 1 sv _ W.ext Y SR Vd (by decide) (by have e0 := esc_len c0; simp only [List.length_append, List.length_nil, List.length_cons] <;> omega)) (by decide) (Wd := 0) (by decide) [(.ref r), (.ref d), (.int (N (([] : List Int32) ++ esc c0).length)), (.int (1 : Int32))] [] rfl pd_38 rfl rfl rfl (Nat.le_of_eq rfl) at_208 (by decide) (by decide) ?_
      intro v T h vm W hQ C
      obtain ⟨rfl, rfl⟩ := hQ
      show Go (g := mkF m 211 #[iv p0, iv p1, iv p2, iv p3, iv 1, iv c0, iv c1, iv c2, rv b3, rv r, rv d, iv (N (([] : List Int32) ++ esc c0).length)] [(.int 1)]) ..
      refine W.fn at_211 ((if0 _ _).trans (feq (by decide : ¬ ((1 : Int32) = (0 : Int32)))).1) ?_
      refine W.al at_214 rfl rfl ?_
      refine W.al at_216 rfl rfl ?_
      refine W.il at_218 rfl ?_
      refine W.ic at_220 2 rfl ?_
      refine W.callS (X.w 152 rfl) (X.w 153 rfl) (X.w 146 rfl) (X.w 154 rfl) (by decide) (c_at X r d _ (([] : List Int32) ++ esc c0) 2 sv _ W.ext Y SR Vd (by decide) (by have e0 := esc_len c0; simp only [List.length_append, List.length_nil, List.length_cons] <;> omega)) (by decide) (Wd := 0) (by decide) [(.ref r), (.ref d), (.int (N (([] : List Int32) ++ esc c0).length)), (.int (2 : Int32))] [] rfl pd_38 rfl rfl rfl (Nat.le_of_eq rfl) at_221 (by decide) (by decide) ?_
      intro v T h vm W hQ C
      obtain ⟨rfl, rfl⟩ := hQ
      show Go (g := mkF m 224 #[iv p0, iv p1, iv p2, iv p3, iv 1, iv c0, iv c1, iv c2, rv b3, rv r, rv d, iv (N (([] : List Int32) ++ esc c0).length)] [(.int 1)]) ..
      refine W.fn at_224 ((if0 _ _).trans (feq (by decide : ¬ ((1 : Int32) = (0 : Int32)))).1) ?_
      refine W.al at_227 rfl rfl ?_
      refine W.al at_229 rfl rfl ?_
      refine W.il at_231 rfl ?_
      refine W.ic at_233 3 rfl ?_
      refine W.callS (X.w 152 rfl) (X.w 153 rfl) (X.w 146 rfl) (X.w 154 rfl) (by decide) (c_at X r d _ (([] : List Int32) ++ esc c0) 3 sv _ W.ext Y SR Vd (by decide) (by have e0 := esc_len c0; simp only [List.length_append, List.length_nil, List.length_cons] <;> omega)) (by decide) (Wd := 0) (by decide) [(.ref r), (.ref d), (.int (N (([] : List Int32) ++ esc c0).length)), (.int (3 : Int32))] [] rfl pd_38 rfl rfl rfl (Nat.le_of_eq rfl) at_234 (by decide) (by decide) ?_
      intro v T h vm W hQ C
      obtain ⟨rfl, rfl⟩ := hQ
      show Go (g := mkF m 237 #[iv p0, iv p1, iv p2, iv p3, iv 1, iv c0, iv c1, iv c2, rv b3, rv r, rv d, iv (N (([] : List Int32) ++ esc c0).length)] [(.int 1)]) ..
      refine W.fn at_237 ((if0 _ _).trans (feq (by decide : ¬ ((1 : Int32) = (0 : Int32)))).1) ?_
      refine W.al at_240 rfl rfl ?_
      refine W.al at_242 rfl rfl ?_
      refine W.il at_244 rfl ?_
      refine W.ic at_246 4 rfl ?_
      refine W.callS (X.w 152 rfl) (X.w 153 rfl) (X.w 146 rfl) (X.w 154 rfl) (by decide) (c_at X r d _ (([] : List Int32) ++ esc c0) 4 sv _ W.ext Y SR Vd (by decide) (by have e0 := esc_len c0; simp only [List.length_append, List.length_nil, List.length_cons] <;> omega)) (by decide) (Wd := 0) (by decide) [(.ref r), (.ref d), (.int (N (([] : List Int32) ++ esc c0).length)), (.int (4 : Int32))] [] rfl pd_38 rfl rfl rfl (Nat.le_of_eq rfl) at_247 (by decide) (by decide) ?_
      intro v T h vm W hQ C
      obtain ⟨rfl, rfl⟩ := hQ
      show Go (g := mkF m 250 #[iv p0, iv p1, iv p2, iv p3, iv 1, iv c0, iv c1, iv c2, rv b3, rv r, rv d, iv (N (([] : List Int32) ++ esc c0).length)] [(.int 1)]) ..
      refine W.fn at_250 ((if0 _ _).trans (feq (by decide : ¬ ((1 : Int32) = (0 : Int32)))).1) ?_
      refine W.al at_253 rfl rfl ?_
      refine W.al at_255 rfl rfl ?_
      refine W.il at_257 rfl ?_
      refine W.ic at_259 5 rfl ?_
      refine W.callS (X.w 152 rfl) (X.w 153 rfl) (X.w 146 rfl) (X.w 154 rfl) (by decide) (c_at X r d _ (([] : List Int32) ++ esc c0) 5 sv _ W.ext Y SR Vd (by decide) (by have e0 := esc_len c0; simp only [List.length_append, List.length_nil, List.length_cons] <;> omega)) (by decide) (Wd := 0) (by decide) [(.ref r), (.ref d), (.int (N (([] : List Int32) ++ esc c0).length)), (.int (5 : Int32))] [] rfl pd_38 rfl rfl rfl (Nat.le_of_eq rfl) at_260 (by decide) (by decide) ?_
      intro v T h vm W hQ C
      obtain ⟨rfl, rfl⟩ := hQ
      show Go (g := mkF m 263 #[iv p0, iv p1, iv p2, iv p3, iv 1, iv c0, iv c1, iv c2, rv b3, rv r, rv d, iv (N (([] : List Int32) ++ esc c0).length)] [(.int 1)]) ..
      refine W.fn at_263 ((if0 _ _).trans (feq (by decide : ¬ ((1 : Int32) = (0 : Int32)))).1) ?_
      refine W.ic at_266 1 rfl ?_
      refine W.gt (pc' := 271) at_267 (by decide) (by decide) ?_
      exact W.retN (by simp) at_271 (rfl) (by decide) (by decide)
    by_cases hU : ¬ (255 : Int32) < c0
    · refine W.specialB rfl (X.w 5 rfl) (X.w 6 rfl) (X.w 7 rfl) (by decide) (bk_new X W.hZ W.ext gb5 Ab5 F_value_b5 F_coder_b5 (cs := [c0]) (n := 1) Vb3 rfl rfl (by decide) (by decide) (smS ⟨t_c0.1, hU⟩ sm0) (by decide) (by decide)) [b5] (fun _ _ _ q => ⟨q.2.1, q.2.2.1⟩) (sfS (Safe.blank W.hZ.alike Ab5 F_value_b5) sf0) (allS gb5 all0) b5 [(.ref b3)] [(.ref b5)] rfl pd_36 rfl rfl rfl (Wd := 1) (Nat.le_of_eq rfl) at_108 (by decide) (by decide) ?_
      intro v T h L W hQ
      obtain ⟨rfl, -, -, S1⟩ := hQ
      exact J111 _ _ _ (W.more (by decide) (by decide)) (Or.inl S1)
    · refine W.special rfl (X.w 5 rfl) (X.w 6 rfl) (X.w 4 rfl) (X.w 7 rfl) (by decide) (c_inc1 X b5 b3 _ c0 sv _ W.ext Y gb5 Ab5 F_value_b5 F_coder_b5 Vb3 hU (smS t_c0 sm0)) (by decide) (Wd := 1) (by decide) b5 [(.ref b3)] [(.ref b5)] rfl pd_36 rfl rfl rfl (Nat.le_of_eq rfl) at_108 (by decide) (by decide) ?_
      intro v T h vm W hQ C
      obtain ⟨rfl, -, S1⟩ := hQ
      exact J111 _ _ _ (W.more (by decide) (by decide)) (Or.inr S1)
  · show Go (g := mkF m 26 #[iv p0, iv p1, iv p2, iv p3, iv 2, iv c0, iv c1, iv c2, .unset, .unset, .unset, .unset] []) ..
    refine W.il at_26 rfl ?_
    refine W.fy (pc' := 39) at_28 ((if0 _ _).trans (feq (by decide : ¬ ((2 : Int32) = (0 : Int32)))).2) (by decide) (by decide) ?_
    refine W.il at_39 rfl ?_
    refine W.ic at_41 1 rfl ?_
    refine W.cy (pc' := 58) at_42 (feq (by decide : ¬ ((2 : Int32) = (1 : Int32)))).2 (by decide) (by decide) ?_
    refine W.il at_58 rfl ?_
    refine W.ic at_60 2 rfl ?_
    refine W.cn at_61 (teq (by decide : (2 : Int32) = (2 : Int32))).2 ?_
    refine W.ic at_64 2 rfl ?_
    refine W.newarr (X.w 1 rfl) at_65 (by decide) (cap := 2) (by decide) (by decide) (by decide) (by decide) ?_
    intro T h b7 kb7 hb7 W Eb7 Vb7 Sfb7
    have gb7 : Z.heap.size ≤ b7 := by rw [hb7]; exact hsz
    replace hsz := W.size
    replace Vb7 : Arv Z h b7 kb7 .char (2 : Int32) [(.int (0 : Int32)), (.int (0 : Int32))] (.int (0 : Int32)) := Vb7.pad (pad_rep [] (.int (0 : Int32)) 2)
    refine W.dp at_67 rfl ?_
    refine W.ic at_68 0 rfl ?_
    refine W.il at_69 rfl ?_
    refine W.castore Vb7 0 rfl (by simp) (by decide) gb7 at_71 ?_
    intro T h W K8 Vb7'
    replace hsz := W.size
    replace Vb7 : Arv Z h b7 kb7 .char (2 : Int32) [(.int (nar .char c0)), (.int (0 : Int32))] (.int (0 : Int32)) := Vb7'
    refine W.dp at_72 rfl ?_
    refine W.ic at_73 1 rfl ?_
    refine W.il at_74 rfl ?_
    refine W.castore Vb7 1 rfl (by simp) (by decide) gb7 at_76 ?_
    intro T h W K9 Vb7'
    replace hsz := W.size
    replace Vb7 : Arv Z h b7 kb7 .char (2 : Int32) [(.int (nar .char c0)), (.int (nar .char c1))] (.int (0 : Int32)) := Vb7'
    refine W.ass (Ls' := #[iv p0, iv p1, iv p2, iv p3, iv 2, iv c0, iv c1, iv c2, rv b7, .unset, .unset, .unset]) at_77 rfl rfl ?_
    refine W.gt (pc' := 102) at_79 (by decide) (by decide) ?_
    rw [nar_ch t_c0] at Vb7
    rw [nar_ch t_c1] at Vb7
    refine W.new (X.w 2 rfl) (X.w 3 rfl) (X.w 4 rfl) at_102 (by decide) (by decide) ?_
    intro T h b10 hb10 W Eb10 Ab10 Db10
    have ne_b7_b10 : b7 ≠ b10 := by rw [hb10]; exact Nat.ne_of_lt Vb7.lt
    have gb10 : Z.heap.size ≤ b10 := by rw [hb10]; exact hsz
    replace Vb7 := Vb7.ext Eb10
    replace hsz := W.size
    have F_coder_b10 : Fld Z h b10 "java/lang/String" "coder" "B" (.int (0 : Int32)) := Db10 (Or.inr (X.w 28 rfl)) (ty := .byte) (by decide)
    have F_value_b10 : Fld Z h b10 "java/lang/String" "value" "[B" .null := Db10 (Or.inr (X.w 30 rfl)) (ty := (.array .byte)) (by decide)
    refine W.dp at_105 rfl ?_
    refine W.al at_106 rfl rfl ?_
    have J111 : ∀ (T : State) (h : Heap) (vm : Vm), Wk p l e room_1 s m #[(.int p0), (.int p1), (.int p2), (.int p3)] below meth c Z a0 consts_1 x code maxLocals ret T h vm 4 28 → StrX Z h b10 [c0, c1] → Go p e below s Z consts_1 room_1.cells room_1.slots (fun v _ => v = some (.int 1)) T (mkF m 111 #[iv p0, iv p1, iv p2, iv p3, iv 2, iv c0, iv c1, iv c2, rv b7, .unset, .unset, .unset] [(.ref b10)]) := by
      intro T h vm W Sx
      have hsz := W.size
      refine W.callS (X.w 31 rfl) (X.w 32 rfl) (X.w 33 rfl) (X.w 34 rfl) (by decide) (c_esc2 X b10 c0 c1 sv _ W.ext Y Sx t_c0 t_c1) (by decide) (Wd := 0) (by decide) [(.ref b10)] [] rfl pd_37 rfl rfl rfl (Nat.le_of_eq rfl) at_111 (by decide) (by decide) ?_
      intro v T h vm W hQ C
      obtain ⟨r, rfl, -, SR⟩ := hQ
      replace hsz := W.size
      show Go (g := mkF m 114 #[iv p0, iv p1, iv p2, iv p3, iv 2, iv c0, iv c1, iv c2, rv b7, .unset, .unset, .unset] [(.ref r)]) ..
      refine W.ass (Ls' := #[iv p0, iv p1, iv p2, iv p3, iv 2, iv c0, iv c1, iv c2, rv b7, rv r, .unset, .unset]) at_114 rfl rfl ?_
      refine W.bp at_116 6 rfl ?_
      refine W.newarr (X.w 1 rfl) at_118 (by decide) (cap := 6) (by decide) (by decide) (by decide) (by decide) ?_
      intro T h d kd hd_ W Ed Vd Sfd
      have gd : Z.heap.size ≤ d := by rw [hd_]; exact hsz
      replace SR := SR.ext Ed
      replace hsz := W.size
      replace Vd : Arv Z h d kd .char (6 : Int32) (([] : List Int32).map Value.int) (.int (0 : Int32)) := Vd
      refine W.ass (Ls' := #[iv p0, iv p1, iv p2, iv p3, iv 2, iv c0, iv c1, iv c2, rv b7, rv r, rv d, .unset]) at_120 rfl rfl ?_
      refine W.ic at_122 0 rfl ?_
      refine W.iss (Ls' := #[iv p0, iv p1, iv p2, iv p3, iv 2, iv c0, iv c1, iv c2, rv b7, rv r, rv d, iv 0]) at_123 rfl ?_
      show Go (g := mkF m 125 #[iv p0, iv p1, iv p2, iv p3, iv 2, iv c0, iv c1, iv c2, rv b7, rv r, rv d, iv (N ([] : List Int32).length)] []) ..
      refine W.il at_125 rfl ?_
      refine W.ic at_127 1 rfl ?_
      refine W.cn at_128 (flt (by decide : ¬ ((2 : Int32) < (1 : Int32)))).1 ?_
      refine W.al at_131 rfl rfl ?_
      refine W.il at_133 rfl ?_
      refine W.il at_135 rfl ?_
      refine W.callS (X.w 144 rfl) (X.w 145 rfl) (X.w 146 rfl) (X.w 147 rfl) (by decide) (c_put X d _ ([] : List Int32) c0 _ W.ext gd Vd (by simp only [List.length_append, List.length_nil, List.length_cons] <;> omega) t_c0) (by decide) (Wd := 0) (by decide) [(.ref d), (.int (N ([] : List Int32).length)), (.int c0)] [] rfl pd_39 rfl rfl rfl (Nat.le_of_eq rfl) at_137 (by decide) (by decide) ?_
      intro v T h vm W hQ C
      obtain ⟨rfl, K11, Vd'⟩ := hQ
      replace SR := SR.keepC K11 Vd (by decide) (X.w 3 rfl)
      replace hsz := W.size
      replace Vd := Vd'
      show Go (g := mkF m 140 #[iv p0, iv p1, iv p2, iv p3, iv 2, iv c0, iv c1, iv c2, rv b7, rv r, rv d, iv (N ([] : List Int32).length)] [(.int (N (([] : List Int32) ++ esc c0).length))]) ..
      refine W.iss (Ls' := #[iv p0, iv p1, iv p2, iv p3, iv 2, iv c0, iv c1, iv c2, rv b7, rv r, rv d, iv (N (([] : List Int32) ++ esc c0).length)]) at_140 rfl ?_
      refine W.il at_142 rfl ?_
      refine W.ic at_144 2 rfl ?_
      refine W.cn at_145 (flt (by decide : ¬ ((2 : Int32) < (2 : Int32)))).1 ?_
      refine W.al at_148 rfl rfl ?_
      refine W.il at_150 rfl ?_
      refine W.il at_152 rfl ?_
      refine W.callS (X.w 144 rfl) (X.w 145 rfl) (X.w 146 rfl) (X.w 147 rfl) (by decide) (c_put X d _ (([] : List Int32) ++ esc c0) c1 _ W.ext gd Vd (by have e0 := esc_len c0; simp only [List.length_append, List.length_nil, List.length_cons] <;> omega) t_c1) (by decide) (Wd := 0) (by decide) [(.ref d), (.int (N (([] : List Int32) ++ esc c0).length)), (.int c1)] [] rfl pd_39 rfl rfl rfl (Nat.le_of_eq rfl) at_154 (by decide) (by decide) ?_
      intro v T h vm W hQ C
      obtain ⟨rfl, K12, Vd'⟩ := hQ
      replace SR := SR.keepC K12 Vd (by decide) (X.w 3 rfl)
      replace hsz := W.size
      replace Vd := Vd'
      show Go (g := mkF m 157 #[iv p0, iv p1, iv p2, iv p3, iv 2, iv c0, iv c1, iv c2, rv b7, rv r, rv d, iv (N (([] : List Int32) ++ esc c0).length)] [(.int (N ((([] : List Int32) ++ esc c0) ++ esc c1).length))]) ..
      refine W.iss (Ls' := #[iv p0, iv p1, iv p2, iv p3, iv 2, iv c0, iv c1, iv c2, rv b7, rv r, rv d, iv (N ((([] : List Int32) ++ esc c0) ++ esc c1).length)]) at_157 rfl ?_
      refine W.il at_159 rfl ?_
      refine W.ic at_161 3 rfl ?_
      refine W.cy (pc' := 176) at_162 (tlt (by decide : (2 : Int32) < (3 : Int32))).1 (by decide) (by decide) ?_
      refine W.al at_176 rfl rfl ?_
      refine W.virtual (X.w 151 rfl) (X.w 39 rfl) (notFace_of_selects (args := #[]) (mvT W.hZ (X.w 41 rfl))) (X.w 41 rfl) (X.w 40 rfl) (X.w 4 rfl) (X.w 42 rfl) (by decide) (c_lenx X r _ _ W.ext SR) (by decide) (Wd := 0) (by decide) r SR.exa [] [] rfl pd_28 rfl rfl rfl (Nat.le_of_eq rfl) at_178 (by decide) (by decide) ?_
      intro v T h vm W hQ C
      obtain ⟨rfl, rfl⟩ := hQ
      show Go (g := mkF m 181 #[iv p0, iv p1, iv p2, iv p3, iv 2, iv c0, iv c1, iv c2, rv b7, rv r, rv d, iv (N ((([] : List Int32) ++ esc c0) ++ esc c1).length)] [(.int (N ((([] : List Int32) ++ esc c0) ++ esc c1).length))]) ..
      refine W.il at_181 rfl ?_
      refine W.cy (pc' := 188) at_183 (teq rfl).1 (by decide) (by decide) ?_
      refine W.al at_188 rfl rfl ?_
      refine W.al at_190 rfl rfl ?_
      refine W.il at_192 rfl ?_
      refine W.ic at_194 0 rfl ?_
      refine W.callS (X.w 152 rfl) (X.w 153 rfl) (X.w 146 rfl) (X.w 154 rfl) (by decide) (c_at X r d _ ((([] : List Int32) ++ esc c0) ++ esc c1) 0 sv _ W.ext Y SR Vd (by decide) (by have e0 := esc_len c0; have e1 := esc_len c1; simp only [List.length_append, List.length_nil, List.length_cons] <;> omega)) (by decide) (Wd := 0) (by decide) [(.ref r), (.ref d), (.int (N ((([] : List Int32) ++ esc c0) ++ esc c1).length)), (.int (0 : Int32))] [] rfl pd_38 rfl rfl rfl (Nat.le_of_eq rfl) at_195 (by decide) (by decide) ?_
      intro v T h vm W hQ C
      obtain ⟨rfl, rfl⟩ := hQ
      show Go (g := mkF m 198 #[iv p0, iv p1, iv p2, iv p3, iv 2, iv c0, iv c1, iv c2, rv b7, rv r, rv d, iv (N ((([] : List Int32) ++ esc c0) ++ esc c1).length)] [(.int 1)]) ..
      refine W.fn at_198 ((if0 _ _).trans (feq (by decide : ¬ ((1 : Int32) = (0 : Int32)))).1) ?_
      refine W.al at_201 rfl rfl ?_
      refine W.al at_203 rfl rfl ?_
      refine W.il at_205 rfl ?_
      refine W.ic at_207 1 rfl ?_
      refine W.callS (X.w 152 rfl) (X.w 153 rfl) (X.w 146 rfl) (X.w 154 rfl) (by decide) (c_at X r d _ ((([] : List Int32) ++ esc c0) ++ esc c1) 1 sv _ W.ext Y SR Vd (by decide) (by have e0 := esc_len c0; have e1 := esc_len c1; simp only [List.length_append, List.length_nil, List.length_cons] <;> omega)) (by decide) (Wd := 0) (by decide) [(.ref r), (.ref d), (.int (N ((([] : List Int32) ++ esc c0) ++ esc c1).length)), (.int (1 : Int32))] [] rfl pd_38 rfl rfl rfl (Nat.le_of_eq rfl) at_208 (by decide) (by decide) ?_
      intro v T h vm W hQ C
      obtain ⟨rfl, rfl⟩ := hQ
      show Go (g := mkF m 211 #[iv p0, iv p1, iv p2, iv p3, iv 2, iv c0, iv c1, iv c2, rv b7, rv r, rv d, iv (N ((([] : List Int32) ++ esc c0) ++ esc c1).length)] [(.int 1)]) ..
      refine W.fn at_211 ((if0 _ _).trans (feq (by decide : ¬ ((1 : Int32) = (0 : Int32)))).1) ?_
      refine W.al at_214 rfl rfl ?_
      refine W.al at_216 rfl rfl ?_
      refine W.il at_218 rfl ?_
      refine W.ic at_220 2 rfl ?_
      refine W.callS (X.w 152 rfl) (X.w 153 rfl) (X.w 146 rfl) (X.w 154 rfl) (by decide) (c_at X r d _ ((([] : List Int32) ++ esc c0) ++ esc c1) 2 sv _ W.ext Y SR Vd (by decide) (by have e0 := esc_len c0; have e1 := esc_len c1; simp only [List.length_append, List.length_nil, List.length_cons] <;> omega)) (by decide) (Wd := 0) (by decide) [(.ref r), (.ref d), (.int (N ((([] : List Int32) ++ esc c0) ++ esc c1).length)), (.int (2 : Int32))] [] rfl pd_38 rfl rfl rfl (Nat.le_of_eq rfl) at_221 (by decide) (by decide) ?_
      intro v T h vm W hQ C
      obtain ⟨rfl, rfl⟩ := hQ
      show Go (g := mkF m 224 #[iv p0, iv p1, iv p2, iv p3, iv 2, iv c0, iv c1, iv c2, rv b7, rv r, rv d, iv (N ((([] : List Int32) ++ esc c0) ++ esc c1).length)] [(.int 1)]) ..
      refine W.fn at_224 ((if0 _ _).trans (feq (by decide : ¬ ((1 : Int32) = (0 : Int32)))).1) ?_
      refine W.al at_227 rfl rfl ?_
      refine W.al at_229 rfl rfl ?_
      refine W.il at_231 rfl ?_
      refine W.ic at_233 3 rfl ?_
      refine W.callS (X.w 152 rfl) (X.w 153 rfl) (X.w 146 rfl) (X.w 154 rfl) (by decide) (c_at X r d _ ((([] : List Int32) ++ esc c0) ++ esc c1) 3 sv _ W.ext Y SR Vd (by decide) (by have e0 := esc_len c0; have e1 := esc_len c1; simp only [List.length_append, List.length_nil, List.length_cons] <;> omega)) (by decide) (Wd := 0) (by decide) [(.ref r), (.ref d), (.int (N ((([] : List Int32) ++ esc c0) ++ esc c1).length)), (.int (3 : Int32))] [] rfl pd_38 rfl rfl rfl (Nat.le_of_eq rfl) at_234 (by decide) (by decide) ?_
      intro v T h vm W hQ C
      obtain ⟨rfl, rfl⟩ := hQ
      show Go (g := mkF m 237 #[iv p0, iv p1, iv p2, iv p3, iv 2, iv c0, iv c1, iv c2, rv b7, rv r, rv d, iv (N ((([] : List Int32) ++ esc c0) ++ esc c1).length)] [(.int 1)]) ..
      refine W.fn at_237 ((if0 _ _).trans (feq (by decide : ¬ ((1 : Int32) = (0 : Int32)))).1) ?_
      refine W.al at_240 rfl rfl ?_
      refine W.al at_242 rfl rfl ?_
      refine W.il at_244 rfl ?_
      refine W.ic at_246 4 rfl ?_
      refine W.callS (X.w 152 rfl) (X.w 153 rfl) (X.w 146 rfl) (X.w 154 rfl) (by decide) (c_at X r d _ ((([] : List Int32) ++ esc c0) ++ esc c1) 4 sv _ W.ext Y SR Vd (by decide) (by have e0 := esc_len c0; have e1 := esc_len c1; simp only [List.length_append, List.length_nil, List.length_cons] <;> omega)) (by decide) (Wd := 0) (by decide) [(.ref r), (.ref d), (.int (N ((([] : List Int32) ++ esc c0) ++ esc c1).length)), (.int (4 : Int32))] [] rfl pd_38 rfl rfl rfl (Nat.le_of_eq rfl) at_247 (by decide) (by decide) ?_
      intro v T h vm W hQ C
      obtain ⟨rfl, rfl⟩ := hQ
      show Go (g := mkF m 250 #[iv p0, iv p1, iv p2, iv p3, iv 2, iv c0, iv c1, iv c2, rv b7, rv r, rv d, iv (N ((([] : List Int32) ++ esc c0) ++ esc c1).length)] [(.int 1)]) ..
      refine W.fn at_250 ((if0 _ _).trans (feq (by decide : ¬ ((1 : Int32) = (0 : Int32)))).1) ?_
      refine W.al at_253 rfl rfl ?_
      refine W.al at_255 rfl rfl ?_
      refine W.il at_257 rfl ?_
      refine W.ic at_259 5 rfl ?_
      refine W.callS (X.w 152 rfl) (X.w 153 rfl) (X.w 146 rfl) (X.w 154 rfl) (by decide) (c_at X r d _ ((([] : List Int32) ++ esc c0) ++ esc c1) 5 sv _ W.ext Y SR Vd (by decide) (by have e0 := esc_len c0; have e1 := esc_len c1; simp only [List.length_append, List.length_nil, List.length_cons] <;> omega)) (by decide) (Wd := 0) (by decide) [(.ref r), (.ref d), (.int (N ((([] : List Int32) ++ esc c0) ++ esc c1).length)), (.int (5 : Int32))] [] rfl pd_38 rfl rfl rfl (Nat.le_of_eq rfl) at_260 (by decide) (by decide) ?_
      intro v T h vm W hQ C
      obtain ⟨rfl, rfl⟩ := hQ
      show Go (g := mkF m 263 #[iv p0, iv p1, iv p2, iv p3, iv 2, iv c0, iv c1, iv c2, rv b7, rv r, rv d, iv (N ((([] : List Int32) ++ esc c0) ++ esc c1).length)] [(.int 1)]) ..
      refine W.fn at_263 ((if0 _ _).trans (feq (by decide : ¬ ((1 : Int32) = (0 : Int32)))).1) ?_
      refine W.ic at_266 1 rfl ?_
      refine W.gt (pc' := 271) at_267 (by decide) (by decide) ?_
      exact W.retN (by simp) at_271 (rfl) (by decide) (by decide)
    by_cases hU : ¬ (255 : Int32) < c0 ∧ ¬ (255 : Int32) < c1
    · refine W.specialB rfl (X.w 5 rfl) (X.w 6 rfl) (X.w 7 rfl) (by decide) (bk_new X W.hZ W.ext gb10 Ab10 F_value_b10 F_coder_b10 (cs := [c0, c1]) (n := 2) Vb7 rfl rfl (by decide) (by decide) (smS ⟨t_c0.1, hU.1⟩ (smS ⟨t_c1.1, hU.2⟩ sm0)) (by decide) (by decide)) [b10] (fun _ _ _ q => ⟨q.2.1, q.2.2.1⟩) (sfS (Safe.blank W.hZ.alike Ab10 F_value_b10) sf0) (allS gb10 all0) b10 [(.ref b7)] [(.ref b10)] rfl pd_36 rfl rfl rfl (Wd := 1) (Nat.le_of_eq rfl) at_108 (by decide) (by decide) ?_
      intro v T h L W hQ
      obtain ⟨rfl, -, -, S1⟩ := hQ
      exact J111 _ _ _ (W.more (by decide) (by decide)) (Or.inl S1)
    · refine W.special rfl (X.w 5 rfl) (X.w 6 rfl) (X.w 4 rfl) (X.w 7 rfl) (by decide) (c_inc2 X b10 b7 _ c0 c1 sv _ W.ext Y gb10 Ab10 F_value_b10 F_coder_b10 Vb7 hU (smS t_c0 (smS t_c1 sm0))) (by decide) (Wd := 1) (by decide) b10 [(.ref b7)] [(.ref b10)] rfl pd_36 rfl rfl rfl (Nat.le_of_eq rfl) at_108 (by decide) (by decide) ?_
      intro v T h vm W hQ C
      obtain ⟨rfl, -, S1⟩ := hQ
      exact J111 _ _ _ (W.more (by decide) (by decide)) (Or.inr S1)
  · show Go (g := mkF m 26 #[iv p0, iv p1, iv p2, iv p3, iv 3, iv c0, iv c1, iv c2, .unset, .unset, .unset, .unset] []) ..
    refine W.il at_26 rfl ?_
    refine W.fy (pc' := 39) at_28 ((if0 _ _).trans (feq (by decide : ¬ ((3 : Int32) = (0 : Int32)))).2) (by decide) (by decide) ?_
    refine W.il at_39 rfl ?_
    refine W.ic at_41 1 rfl ?_
    refine W.cy (pc' := 58) at_42 (feq (by decide : ¬ ((3 : Int32) = (1 : Int32)))).2 (by decide) (by decide) ?_
    refine W.il at_58 rfl ?_
    refine W.ic at_60 2 rfl ?_
    refine W.cy (pc' := 82) at_61 (feq (by decide : ¬ ((3 : Int32) = (2 : Int32)))).2 (by decide) (by decide) ?_
    refine W.ic at_82 3 rfl ?_
    refine W.newarr (X.w 1 rfl) at_83 (by decide) (cap := 3) (by decide) (by decide) (by decide) (by decide) ?_
    intro T h b13 kb13 hb13 W Eb13 Vb13 Sfb13
    have gb13 : Z.heap.size ≤ b13 := by rw [hb13]; exact hsz
    replace hsz := W.size
    replace Vb13 : Arv Z h b13 kb13 .char (3 : Int32) [(.int (0 : Int32)), (.int (0 : Int32)), (.int (0 : Int32))] (.int (0 : Int32)) := Vb13.pad (pad_rep [] (.int (0 : Int32)) 3)
    refine W.dp at_85 rfl ?_
    refine W.ic at_86 0 rfl ?_
    refine W.il at_87 rfl ?_
    refine W.castore Vb13 0 rfl (by simp) (by decide) gb13 at_89 ?_
    intro T h W K14 Vb13'
    replace hsz := W.size
    replace Vb13 : Arv Z h b13 kb13 .char (3 : Int32) [(.int (nar .char c0)), (.int (0 : Int32)), (.int (0 : Int32))] (.int (0 : Int32)) := Vb13'
    refine W.dp at_90 rfl ?_
    refine W.ic at_91 1 rfl ?_
    refine W.il at_92 rfl ?_
    refine W.castore Vb13 1 rfl (by simp) (by decide) gb13 at_94 ?_
    intro T h W K15 Vb13'
    replace hsz := W.size
    replace Vb13 : Arv Z h b13 kb13 .char (3 : Int32) [(.int (nar .char c0)), (.int (nar .char c1)), (.int (0 : Int32))] (.int (0 : Int32)) := Vb13'
    refine W.dp at_95 rfl ?_
    refine W.ic at_96 2 rfl ?_
    refine W.il at_97 rfl ?_
    refine W.castore Vb13 2 rfl (by simp) (by decide) gb13 at_99 ?_
    intro T h W K16 Vb13'
    replace hsz := W.size
    replace Vb13 : Arv Z h b13 kb13 .char (3 : Int32) [(.int (nar .char c0)), (.int (nar .char c1)), (.int (nar .char c2))] (.int (0 : Int32)) := Vb13'
    refine W.ass (Ls' := #[iv p0, iv p1, iv p2, iv p3, iv 3, iv c0, iv c1, iv c2, rv b13, .unset, .unset, .unset]) at_100 rfl rfl ?_
    rw [nar_ch t_c0] at Vb13
    rw [nar_ch t_c1] at Vb13
    rw [nar_ch t_c2] at Vb13
    refine W.new (X.w 2 rfl) (X.w 3 rfl) (X.w 4 rfl) at_102 (by decide) (by decide) ?_
    intro T h b17 hb17 W Eb17 Ab17 Db17
    have ne_b13_b17 : b13 ≠ b17 := by rw [hb17]; exact Nat.ne_of_lt Vb13.lt
    have gb17 : Z.heap.size ≤ b17 := by rw [hb17]; exact hsz
    replace Vb13 := Vb13.ext Eb17
    replace hsz := W.size
    have F_coder_b17 : Fld Z h b17 "java/lang/String" "coder" "B" (.int (0 : Int32)) := Db17 (Or.inr (X.w 28 rfl)) (ty := .byte) (by decide)
    have F_value_b17 : Fld Z h b17 "java/lang/String" "value" "[B" .null := Db17 (Or.inr (X.w 30 rfl)) (ty := (.array .byte)) (by decide)
    refine W.dp at_105 rfl ?_
    refine W.al at_106 rfl rfl ?_
    have J111 : ∀ (T : State) (h : Heap) (vm : Vm), Wk p l e room_1 s m #[(.int p0), (.int p1), (.int p2), (.int p3)] below meth c Z a0 consts_1 x code maxLocals ret T h vm 4 30 → StrX Z h b17 [c0, c1, c2] → Go p e below s Z consts_1 room_1.cells room_1.slots (fun v _ => v = some (.int 1)) T (mkF m 111 #[iv p0, iv p1, iv p2, iv p3, iv 3, iv c0, iv c1, iv c2, rv b13, .unset, .unset, .unset] [(.ref b17)]) := by
      intro T h vm W Sx
      have hsz := W.size
      refine W.callS (X.w 31 rfl) (X.w 32 rfl) (X.w 33 rfl) (X.w 34 rfl) (by decide) (c_esc3 X b17 c0 c1 c2 sv _ W.ext Y Sx t_c0 t_c1 t_c2) (by decide) (Wd := 0) (by decide) [(.ref b17)] [] rfl pd_37 rfl rfl rfl (Nat.le_of_eq rfl) at_111 (by decide) (by decide) ?_
      intro v T h vm W hQ C
      obtain ⟨r, rfl, -, SR⟩ := hQ
      replace hsz := W.size
      show Go (g := mkF m 114 #[iv p0, iv p1, iv p2, iv p3, iv 3, iv c0, iv c1, iv c2, rv b13, .unset, .unset, .unset] [(.ref r)]) ..
      refine W.ass (Ls' := #[iv p0, iv p1, iv p2, iv p3, iv 3, iv c0, iv c1, iv c2, rv b13, rv r, .unset, .unset]) at_114 rfl rfl ?_
      refine W.bp at_116 6 rfl ?_
      refine W.newarr (X.w 1 rfl) at_118 (by decide) (cap := 6) (by decide) (by decide) (by decide) (by decide) ?_
      intro T h d kd hd_ W Ed Vd Sfd
      have gd : Z.heap.size ≤ d := by rw [hd_]; exact hsz
      replace SR := SR.ext Ed
      replace hsz := W.size
      replace Vd : Arv Z h d kd .char (6 : Int32) (([] : List Int32).map Value.int) (.int (0 : Int32)) := Vd
      refine W.ass (Ls' := #[iv p0, iv p1, iv p2, iv p3, iv 3, iv c0, iv c1, iv c2, rv b13, rv r, rv d, .unset]) at_120 rfl rfl ?_
      refine W.ic at_122 0 rfl ?_
      refine W.iss (Ls' := #[iv p0, iv p1, iv p2, iv p3, iv 3, iv c0, iv c1, iv c2, rv b13, rv r, rv d, iv 0]) at_123 rfl ?_
      show Go (g := mkF m 125 #[iv p0, iv p1, iv p2, iv p3, iv 3, iv c0, iv c1, iv c2, rv b13, rv r, rv d, iv (N ([] : List Int32).length)] []) ..
      refine W.il at_125 rfl ?_
      refine W.ic at_127 1 rfl ?_
      refine W.cn at_128 (flt (by decide : ¬ ((3 : Int32) < (1 : Int32)))).1 ?_
      refine W.al at_131 rfl rfl ?_
      refine W.il at_133 rfl ?_
      refine W.il at_135 rfl ?_
      refine W.callS (X.w 144 rfl) (X.w 145 rfl) (X.w 146 rfl) (X.w 147 rfl) (by decide) (c_put X d _ ([] : List Int32) c0 _ W.ext gd Vd (by simp only [List.length_append, List.length_nil, List.length_cons] <;> omega) t_c0) (by decide) (Wd := 0) (by decide) [(.ref d), (.int (N ([] : List Int32).length)), (.int c0)] [] rfl pd_39 rfl rfl rfl (Nat.le_of_eq rfl) at_137 (by decide) (by decide) ?_
      intro v T h vm W hQ C
      obtain ⟨rfl, K18, Vd'⟩ := hQ
      replace SR := SR.keepC K18 Vd (by decide) (X.w 3 rfl)
      replace hsz := W.size
      replace Vd := Vd'
      show Go (g := mkF m 140 #[iv p0, iv p1, iv p2, iv p3, iv 3, iv c0, iv c1, iv c2, rv b13, rv r, rv d, iv (N ([] : List Int32).length)] [(.int (N (([] : List Int32) ++ esc c0).length))]) ..
      refine W.iss (Ls' := #[iv p0, iv p1, iv p2, iv p3, iv 3, iv c0, iv c1, iv c2, rv b13, rv r, rv d, iv (N (([] : List Int32) ++ esc c0).length)]) at_140 rfl ?_
      refine W.il at_142 rfl ?_
      refine W.ic at_144 2 rfl ?_
      refine W.cn at_145 (flt (by decide : ¬ ((3 : Int32) < (2 : Int32)))).1 ?_
      refine W.al at_148 rfl rfl ?_
      refine W.il at_150 rfl ?_
      refine W.il at_152 rfl ?_
      refine W.callS (X.w 144 rfl) (X.w 145 rfl) (X.w 146 rfl) (X.w 147 rfl) (by decide) (c_put X d _ (([] : List Int32) ++ esc c0) c1 _ W.ext gd Vd (by have e0 := esc_len c0; simp only [List.length_append, List.length_nil, List.length_cons] <;> omega) t_c1) (by decide) (Wd := 0) (by decide) [(.ref d), (.int (N (([] : List Int32) ++ esc c0).length)), (.int c1)] [] rfl pd_39 rfl rfl rfl (Nat.le_of_eq rfl) at_154 (by decide) (by decide) ?_
      intro v T h vm W hQ C
      obtain ⟨rfl, K19, Vd'⟩ := hQ
      replace SR := SR.keepC K19 Vd (by decide) (X.w 3 rfl)
      replace hsz := W.size
      replace Vd := Vd'
      show Go (g := mkF m 157 #[iv p0, iv p1, iv p2, iv p3, iv 3, iv c0, iv c1, iv c2, rv b13, rv r, rv d, iv (N (([] : List Int32) ++ esc c0).length)] [(.int (N ((([] : List Int32) ++ esc c0) ++ esc c1).length))]) ..
      refine W.iss (Ls' := #[iv p0, iv p1, iv p2, iv p3, iv 3, iv c0, iv c1, iv c2, rv b13, rv r, rv d, iv (N ((([] : List Int32) ++ esc c0) ++ esc c1).length)]) at_157 rfl ?_
      refine W.il at_159 rfl ?_
      refine W.ic at_161 3 rfl ?_
      refine W.cn at_162 (flt (by decide : ¬ ((3 : Int32) < (3 : Int32)))).1 ?_
      refine W.al at_165 rfl rfl ?_
      refine W.il at_167 rfl ?_
      refine W.il at_169 rfl ?_
      refine W.callS (X.w 144 rfl) (X.w 145 rfl) (X.w 146 rfl) (X.w 147 rfl) (by decide) (c_put X d _ ((([] : List Int32) ++ esc c0) ++ esc c1) c2 _ W.ext gd Vd (by have e0 := esc_len c0; have e1 := esc_len c1; simp only [List.length_append, List.length_nil, List.length_cons] <;> omega) t_c2) (by decide) (Wd := 0) (by decide) [(.ref d), (.int (N ((([] : List Int32) ++ esc c0) ++ esc c1).length)), (.int c2)] [] rfl pd_39 rfl rfl rfl (Nat.le_of_eq rfl) at_171 (by decide) (by decide) ?_
      intro v T h vm W hQ C
      obtain ⟨rfl, K20, Vd'⟩ := hQ
      replace SR := SR.keepC K20 Vd (by decide) (X.w 3 rfl)
      replace hsz := W.size
      replace Vd := Vd'
      show Go (g := mkF m 174 #[iv p0, iv p1, iv p2, iv p3, iv 3, iv c0, iv c1, iv c2, rv b13, rv r, rv d, iv (N ((([] : List Int32) ++ esc c0) ++ esc c1).length)] [(.int (N (((([] : List Int32) ++ esc c0) ++ esc c1) ++ esc c2).length))]) ..
      refine W.iss (Ls' := #[iv p0, iv p1, iv p2, iv p3, iv 3, iv c0, iv c1, iv c2, rv b13, rv r, rv d, iv (N (((([] : List Int32) ++ esc c0) ++ esc c1) ++ esc c2).length)]) at_174 rfl ?_
      refine W.al at_176 rfl rfl ?_
      refine W.virtual (X.w 151 rfl) (X.w 39 rfl) (notFace_of_selects (args := #[]) (mvT W.hZ (X.w 41 rfl))) (X.w 41 rfl) (X.w 40 rfl) (X.w 4 rfl) (X.w 42 rfl) (by decide) (c_lenx X r _ _ W.ext SR) (by decide) (Wd := 0) (by decide) r SR.exa [] [] rfl pd_28 rfl rfl rfl (Nat.le_of_eq rfl) at_178 (by decide) (by decide) ?_
      intro v T h vm W hQ C
      obtain ⟨rfl, rfl⟩ := hQ
      show Go (g := mkF m 181 #[iv p0, iv p1, iv p2, iv p3, iv 3, iv c0, iv c1, iv c2, rv b13, rv r, rv d, iv (N (((([] : List Int32) ++ esc c0) ++ esc c1) ++ esc c2).length)] [(.int (N (((([] : List Int32) ++ esc c0) ++ esc c1) ++ esc c2).length))]) ..
      refine W.il at_181 rfl ?_
      refine W.cy (pc' := 188) at_183 (teq rfl).1 (by decide) (by decide) ?_
      refine W.al at_188 rfl rfl ?_
      refine W.al at_190 rfl rfl ?_
      refine W.il at_192 rfl ?_
      refine W.ic at_194 0 rfl ?_
      refine W.callS (X.w 152 rfl) (X.w 153 rfl) (X.w 146 rfl) (X.w 154 rfl) (by decide) (c_at X r d _ (((([] : List Int32) ++ esc c0) ++ esc c1) ++ esc c2) 0 sv _ W.ext Y SR Vd (by decide) (by have e0 := esc_len c0; have e1 := esc_len c1; have e2 := esc_len c2; simp only [List.length_append, List.length_nil, List.length_cons] <;> omega)) (by decide) (Wd := 0) (by decide) [(.ref r), (.ref d), (.int (N (((([] : List Int32) ++ esc c0) ++ esc c1) ++ esc c2).length)), (.int (0 : Int32))] [] rfl pd_38 rfl rfl rfl (Nat.le_of_eq rfl) at_195 (by decide) (by decide) ?_
      intro v T h vm W hQ C
      obtain ⟨rfl, rfl⟩ := hQ
      show Go (g := mkF m 198 #[iv p0, iv p1, iv p2, iv p3, iv 3, iv c0, iv c1, iv c2, rv b13, rv r, rv d, iv (N (((([] : List Int32) ++ esc c0) ++ esc c1) ++ esc c2).length)] [(.int 1)]) ..
      refine W.fn at_198 ((if0 _ _).trans (feq (by decide : ¬ ((1 : Int32) = (0 : Int32)))).1) ?_
      refine W.al at_201 rfl rfl ?_
      refine W.al at_203 rfl rfl ?_
      refine W.il at_205 rfl ?_
      refine W.ic at_207 1 rfl ?_
      refine W.callS (X.w 152 rfl) (X.w 153 rfl) (X.w 146 rfl) (X.w 154 rfl) (by decide) (c_at X r d _ (((([] : List Int32) ++ esc c0) ++ esc c1) ++ esc c2) 1 sv _ W.ext Y SR Vd (by decide) (by have e0 := esc_len c0; have e1 := esc_len c1; have e2 := esc_len c2; simp only [List.length_append, List.length_nil, List.length_cons] <;> omega)) (by decide) (Wd := 0) (by decide) [(.ref r), (.ref d), (.int (N (((([] : List Int32) ++ esc c0) ++ esc c1) ++ esc c2).length)), (.int (1 : Int32))] [] rfl pd_38 rfl rfl rfl (Nat.le_of_eq rfl) at_208 (by decide) (by decide) ?_
      intro v T h vm W hQ C
      obtain ⟨rfl, rfl⟩ := hQ
      show Go (g := mkF m 211 #[iv p0, iv p1, iv p2, iv p3, iv 3, iv c0, iv c1, iv c2, rv b13, rv r, rv d, iv (N (((([] : List Int32) ++ esc c0) ++ esc c1) ++ esc c2).length)] [(.int 1)]) ..
      refine W.fn at_211 ((if0 _ _).trans (feq (by decide : ¬ ((1 : Int32) = (0 : Int32)))).1) ?_
      refine W.al at_214 rfl rfl ?_
      refine W.al at_216 rfl rfl ?_
      refine W.il at_218 rfl ?_
      refine W.ic at_220 2 rfl ?_
      refine W.callS (X.w 152 rfl) (X.w 153 rfl) (X.w 146 rfl) (X.w 154 rfl) (by decide) (c_at X r d _ (((([] : List Int32) ++ esc c0) ++ esc c1) ++ esc c2) 2 sv _ W.ext Y SR Vd (by decide) (by have e0 := esc_len c0; have e1 := esc_len c1; have e2 := esc_len c2; simp only [List.length_append, List.length_nil, List.length_cons] <;> omega)) (by decide) (Wd := 0) (by decide) [(.ref r), (.ref d), (.int (N (((([] : List Int32) ++ esc c0) ++ esc c1) ++ esc c2).length)), (.int (2 : Int32))] [] rfl pd_38 rfl rfl rfl (Nat.le_of_eq rfl) at_221 (by decide) (by decide) ?_
      intro v T h vm W hQ C
      obtain ⟨rfl, rfl⟩ := hQ
      show Go (g := mkF m 224 #[iv p0, iv p1, iv p2, iv p3, iv 3, iv c0, iv c1, iv c2, rv b13, rv r, rv d, iv (N (((([] : List Int32) ++ esc c0) ++ esc c1) ++ esc c2).length)] [(.int 1)]) ..
      refine W.fn at_224 ((if0 _ _).trans (feq (by decide : ¬ ((1 : Int32) = (0 : Int32)))).1) ?_
      refine W.al at_227 rfl rfl ?_
      refine W.al at_229 rfl rfl ?_
      refine W.il at_231 rfl ?_
      refine W.ic at_233 3 rfl ?_
      refine W.callS (X.w 152 rfl) (X.w 153 rfl) (X.w 146 rfl) (X.w 154 rfl) (by decide) (c_at X r d _ (((([] : List Int32) ++ esc c0) ++ esc c1) ++ esc c2) 3 sv _ W.ext Y SR Vd (by decide) (by have e0 := esc_len c0; have e1 := esc_len c1; have e2 := esc_len c2; simp only [List.length_append, List.length_nil, List.length_cons] <;> omega)) (by decide) (Wd := 0) (by decide) [(.ref r), (.ref d), (.int (N (((([] : List Int32) ++ esc c0) ++ esc c1) ++ esc c2).length)), (.int (3 : Int32))] [] rfl pd_38 rfl rfl rfl (Nat.le_of_eq rfl) at_234 (by decide) (by decide) ?_
      intro v T h vm W hQ C
      obtain ⟨rfl, rfl⟩ := hQ
      show Go (g := mkF m 237 #[iv p0, iv p1, iv p2, iv p3, iv 3, iv c0, iv c1, iv c2, rv b13, rv r, rv d, iv (N (((([] : List Int32) ++ esc c0) ++ esc c1) ++ esc c2).length)] [(.int 1)]) ..
      refine W.fn at_237 ((if0 _ _).trans (feq (by decide : ¬ ((1 : Int32) = (0 : Int32)))).1) ?_
      refine W.al at_240 rfl rfl ?_
      refine W.al at_242 rfl rfl ?_
      refine W.il at_244 rfl ?_
      refine W.ic at_246 4 rfl ?_
      refine W.callS (X.w 152 rfl) (X.w 153 rfl) (X.w 146 rfl) (X.w 154 rfl) (by decide) (c_at X r d _ (((([] : List Int32) ++ esc c0) ++ esc c1) ++ esc c2) 4 sv _ W.ext Y SR Vd (by decide) (by have e0 := esc_len c0; have e1 := esc_len c1; have e2 := esc_len c2; simp only [List.length_append, List.length_nil, List.length_cons] <;> omega)) (by decide) (Wd := 0) (by decide) [(.ref r), (.ref d), (.int (N (((([] : List Int32) ++ esc c0) ++ esc c1) ++ esc c2).length)), (.int (4 : Int32))] [] rfl pd_38 rfl rfl rfl (Nat.le_of_eq rfl) at_247 (by decide) (by decide) ?_
      intro v T h vm W hQ C
      obtain ⟨rfl, rfl⟩ := hQ
      show Go (g := mkF m 250 #[iv p0, iv p1, iv p2, iv p3, iv 3, iv c0, iv c1, iv c2, rv b13, rv r, rv d, iv (N (((([] : List Int32) ++ esc c0) ++ esc c1) ++ esc c2).length)] [(.int 1)]) ..
      refine W.fn at_250 ((if0 _ _).trans (feq (by decide : ¬ ((1 : Int32) = (0 : Int32)))).1) ?_
      refine W.al at_253 rfl rfl ?_
      refine W.al at_255 rfl rfl ?_
      refine W.il at_257 rfl ?_
      refine W.ic at_259 5 rfl ?_
      refine W.callS (X.w 152 rfl) (X.w 153 rfl) (X.w 146 rfl) (X.w 154 rfl) (by decide) (c_at X r d _ (((([] : List Int32) ++ esc c0) ++ esc c1) ++ esc c2) 5 sv _ W.ext Y SR Vd (by decide) (by have e0 := esc_len c0; have e1 := esc_len c1; have e2 := esc_len c2; simp only [List.length_append, List.length_nil, List.length_cons] <;> omega)) (by decide) (Wd := 0) (by decide) [(.ref r), (.ref d), (.int (N (((([] : List Int32) ++ esc c0) ++ esc c1) ++ esc c2).length)), (.int (5 : Int32))] [] rfl pd_38 rfl rfl rfl (Nat.le_of_eq rfl) at_260 (by decide) (by decide) ?_
      intro v T h vm W hQ C
      obtain ⟨rfl, rfl⟩ := hQ
      show Go (g := mkF m 263 #[iv p0, iv p1, iv p2, iv p3, iv 3, iv c0, iv c1, iv c2, rv b13, rv r, rv d, iv (N (((([] : List Int32) ++ esc c0) ++ esc c1) ++ esc c2).length)] [(.int 1)]) ..
      refine W.fn at_263 ((if0 _ _).trans (feq (by decide : ¬ ((1 : Int32) = (0 : Int32)))).1) ?_
      refine W.ic at_266 1 rfl ?_
      refine W.gt (pc' := 271) at_267 (by decide) (by decide) ?_
      exact W.retN (by simp) at_271 (rfl) (by decide) (by decide)
    by_cases hU : ¬ (255 : Int32) < c0 ∧ ¬ (255 : Int32) < c1 ∧ ¬ (255 : Int32) < c2
    · refine W.specialB rfl (X.w 5 rfl) (X.w 6 rfl) (X.w 7 rfl) (by decide) (bk_new X W.hZ W.ext gb17 Ab17 F_value_b17 F_coder_b17 (cs := [c0, c1, c2]) (n := 3) Vb13 rfl rfl (by decide) (by decide) (smS ⟨t_c0.1, hU.1⟩ (smS ⟨t_c1.1, hU.2.1⟩ (smS ⟨t_c2.1, hU.2.2⟩ sm0))) (by decide) (by decide)) [b17] (fun _ _ _ q => ⟨q.2.1, q.2.2.1⟩) (sfS (Safe.blank W.hZ.alike Ab17 F_value_b17) sf0) (allS gb17 all0) b17 [(.ref b13)] [(.ref b17)] rfl pd_36 rfl rfl rfl (Wd := 1) (Nat.le_of_eq rfl) at_108 (by decide) (by decide) ?_
      intro v T h L W hQ
      obtain ⟨rfl, -, -, S1⟩ := hQ
      exact J111 _ _ _ (W.more (by decide) (by decide)) (Or.inl S1)
    · refine W.special rfl (X.w 5 rfl) (X.w 6 rfl) (X.w 4 rfl) (X.w 7 rfl) (by decide) (c_inc3 X b17 b13 _ c0 c1 c2 sv _ W.ext Y gb17 Ab17 F_value_b17 F_coder_b17 Vb13 hU (smS t_c0 (smS t_c1 (smS t_c2 sm0)))) (by decide) (Wd := 1) (by decide) b17 [(.ref b13)] [(.ref b17)] rfl pd_36 rfl rfl rfl (Nat.le_of_eq rfl) at_108 (by decide) (by decide) ?_
      intro v T h vm W hQ C
      obtain ⟨rfl, -, S1⟩ := hQ
      exact J111 _ _ _ (W.more (by decide) (by decide)) (Or.inr S1)
set_option maxRecDepth 65536 in
set_option maxHeartbeats 40000000 in
theorem comes_1 {Post : Tables → Env → Array Value → State → Outcome → State → Prop} (hpost : ∀ tb e args s v u, (limb_1_1.after args s (.returned v) u = true ∧ limb_1_2.after args s (.returned v) u = true ∧ True) → ReturnedEndW s (.returned v) u (Jvm.fieldLocs frame_1_writes args s ++ Jvm.arrayLocs frame_1_arrays args s ++ Jvm.staticLocs frame_1_statics s) 32 1216 → Post tb e args s (.returned v) u) :
    ArmFor flags0 classFile x code maxLocals ret World_1 tables_1 room_1 Calls_1 rest_1 Pre_1 Post := by
  intro l hfl _ _ p e ha hc hk s m args below hf hA hF happ hP
  obtain ⟨hcalls, hrest, hpre⟩ := hP
  obtain ⟨-, -, -, hnamed, -, -, -, hat⟩ := (Spec.applies_iff hf).mp happ
  obtain ⟨hg, hn⟩ := and_e (Cond.before_iff.mp (show (Jvm.Cond.and given_1 narrow_1).before args s = true from hpre))
  obtain ⟨g1, g2⟩ := and_e hg
  obtain ⟨g3, g4⟩ := and_e g2
  obtain ⟨g5, g6⟩ := and_e g4
  obtain ⟨g7, g8⟩ := and_e g6
  obtain ⟨w0, w1, w2, w3, rfl⟩ : ∃ w0 w1 w2 w3 : Value, args = #[w0, w1, w2, w3] := by
    have hs : args.size = 4 := by simpa [Cond.value, given_1] using g1
    obtain ⟨L⟩ := args
    match L, hs with
    | [w0, w1, w2, w3], _ => exact ⟨w0, w1, w2, w3, rfl⟩
  have hw := fun d (hd : d ∈ tables_1) => atoms_spec (ws := Jvm.Cond.code x code maxLocals ret :: tables_1) hat d (List.mem_cons_of_mem _ hd)
  obtain ⟨hsets, hown0⟩ := atoms_of _ (rest_1_c_eq ▸ (show rest_1_c.before _ s = true from hrest))
  obtain ⟨i0, ei0⟩ := is_v g3
  obtain rfl : w0 = (.int i0) := Option.some.inj ei0
  obtain ⟨i1, ei1⟩ := is_v g5
  obtain rfl : w1 = (.int i1) := Option.some.inj ei1
  obtain ⟨i2, ei2⟩ := is_v g7
  obtain rfl : w2 = (.int i2) := Option.some.inj ei2
  obtain ⟨i3, ei3⟩ := is_v g8
  obtain rfl : w3 = (.int i3) := Option.some.inj ei3
  obtain ⟨G1, eG⟩ := is_v (Cond.before_iff.mp (hsets _ (List.mem_of_getElem? (i := 1) rfl)))
  have S1 : Sta s s.heap "java/lang/String" "COMPACT_STRINGS" "Z" (.int G1) := Sta.start eG (Or.inl (hsets _ (List.mem_of_getElem? (i := 0) rfl)))
  have hcw := hsets _ (List.mem_of_getElem? (i := 2) rfl)
  have P1 : ¬ (G1 = (0 : Int32)) := gotF (Cond.eq_ints eG (Term.int_eval (0))) (not_v (Cond.before_iff.mp hcw))
  have hEL : EW s #[(.int i0), (.int i1), (.int i2), (.int i3)] consts_1 := (EW.cons (hw _ (List.mem_of_getElem? (i := 171) rfl)) (by decide +kernel) EW.nil)
  have hX : Ctx s _ G1 := ⟨hw, S1, P1, hEL⟩
  have y0 := Sta.start (eqI (Cond.before_iff.mp (hsets _ (List.mem_of_getElem? (i := 12) rfl)))) (Or.inl (hsets _ (List.mem_of_getElem? (i := 11) rfl)))
  have y1 := Sta.start (eqI (Cond.before_iff.mp (hsets _ (List.mem_of_getElem? (i := 15) rfl)))) (Or.inl (hsets _ (List.mem_of_getElem? (i := 14) rfl)))
  have y2 := Sta.start (eqI (Cond.before_iff.mp (hsets _ (List.mem_of_getElem? (i := 18) rfl)))) (Or.inl (hsets _ (List.mem_of_getElem? (i := 17) rfl)))
  obtain ⟨sv, ev, rsv⟩ := isR_v (Cond.before_iff.mp (hsets _ (List.mem_of_getElem? (i := 8) rfl)))
  have y3 := Sta.start ev (Or.inl (hsets _ (List.mem_of_getElem? (i := 7) rfl)))
  have hY : U16 s sv := ⟨y0, y1, y2, y3, rsv⟩
  have hc1 : (∀ q ∈ consts_1, Jvm.Lit.constHeld s q.1 q.2) ∧ True := hcalls
  have hCH : CHv s consts_1 s.vm s.heap := CHv.start hEL hc1.1 hcw (hw _ (List.mem_of_getElem? (i := 20) rfl)) (hw _ (List.mem_of_getElem? (i := 3) rfl))
  obtain ⟨n, o, h1, h2, h3, _, L, rfl, ⟨rfl, N, -⟩, -, hq⟩ := c_law (l := l) hX i0 i1 i2 i3 s.heap ⟨Nat.le_refl _, fun _ _ q => q⟩ sv hY p e ha hc hk s m _ below hf ((Spec.applies_iff_loose hf).mp happ).1 ⟨rfl, State.Warmed39.refl s, rfl, hCH⟩ trivial
  refine ⟨n, _, h1, h2, h3, hpost _ _ _ _ _ _ ⟨Cond.after_iff.mpr rfl, Cond.after_iff.mpr (eq_i res_at (Term.int_eval (1)) rfl), trivial⟩ ⟨hq.1, hq.2.1, hq.2.2.1, (hq.2.2.2.sift fun y hy => Or.inr (N y hy)).mono (by decide) (by decide)⟩⟩
theorem main_1_1 : Claimed_1_1 := comes_1 fun _ _ _ _ _ _ h hF => ⟨h.1, hF⟩
theorem main_1_2 : Claimed_1_2 := comes_1 fun _ _ _ _ _ _ h hF => ⟨h.2.1, hF⟩
end Jvm.Pilot.@@N@@
namespace Jvm.Pilot.@@N@@
open Jvm Jvm.ClassFile Sem Op Lib Jvm.Free Jvm.Stand Jvm.Pilot.@@N@@.Jvm.D
/-! MADE BY PROGRAM (witnessworld.py) out of the Statement's table words and the real class files: 26 classes; the members and pool entries that the words name. The judged class is class 1, her method 1. -/
namespace start1
open Jvm.ClassFile
def u (s : String) : CpInfo := .utf8 (stringToUtf16 s)
/-- a pool by its gaps: so many unusable entries, then the entry; so many at the end -/
def gap : Nat → List CpInfo → List CpInfo
  | 0, r => r
  | n + 1, r => .unusable :: gap n r
def poolList (es : List (Nat × CpInfo)) (last : Nat) : List CpInfo := es.foldr (fun e r => gap e.1 (e.2 :: r)) (gap last [])
def pool (es : List (Nat × CpInfo)) (last : Nat) : Array CpInfo := ⟨poolList es last⟩
def fileOf (pool : Array CpInfo) (this : Nat) (attrs : Array Attribute := #[]) (ms : Array MethodInfo := #[]) (fl : Nat := 33) (sup : Nat := 0) (ifs : Array Nat := #[]) (fds : Array FieldInfo := #[]) : ClassFile where
  minorVersion := 0
  majorVersion := 65
  constantPool := pool
  accessFlags := fl
  thisClass := this
  superClass := sup
  interfaces := ifs
  fields := fds
  methods := ms
  attributes := attrs
def plain (name : String) (sup : Option ClassId) : Class where
  name := name
  kind := .ordinary
  loader := none
  accessFlags := 33
  super := sup
  interfaces := #[]
  cf := none
  fields := #[]
  methods := #[]
  instanceTypes := #[]
  staticTypes := #[]
  resolved := #[]
  callSites := []
  init := .initialized
  statics := none
  mirror := none

def pool0 : Array CpInfo := pool [(5, u "<init>"), (0, u "()V"), (1, .class_ 10), (1, u "java/lang/Object"), (85, u "clone"), (0, u "()Ljava/lang/Object;")] 26

def k0c0 : Code := { maxStack := 0, maxLocals := 1, code := object_method_1_code, exceptionTable := #[], attributes := #[] }
def k0m0 : Method := { name := "<init>", desc := "()V", sig := { parameters := [], returnType := none }, accessFlags := 1, code := some k0c0 }
def k0m1 : Method := { name := "clone", desc := "()Ljava/lang/Object;", sig := { parameters := [], returnType := some (.object "java/lang/Object") }, accessFlags := 260, code := none }
/-- java/lang/Object -/
def k0 : Class := { plain "java/lang/Object" none with
  accessFlags := 33
  interfaces := #[]
  cf := some (fileOf pool0 8 #[] #[{ accessFlags := 1, nameIndex := 5, descriptorIndex := 6, attributes := #[] }, { accessFlags := 260, nameIndex := 96, descriptorIndex := 97, attributes := #[] }] 33 0 #[] #[])
  fields := #[]
  methods := #[k0m0, k0m1]
  instanceTypes := #[]
  staticTypes := #[]
  resolved := Array.replicate 124 none
  statics := none }

def pool1 : Array CpInfo := pool [(2, .class_ 4), (1, u "java/lang/Object"), (0, u "<init>"), (0, u "()V"), (0, .integer 65535), (0, .class_ 9), (0, u "java/lang/String"), (0, .methodref 8 11), (0, .nameAndType 5 12), (0, u "([C)V"), (0, .methodref 14 15), (0, .class_ 16), (0, .nameAndType 17 18), (0, u "com/example/wary_validator/waryvalidator/messageinterpolation/MessageTemplates"), (0, u "escape"), (0, u "(Ljava/lang/String;)Ljava/lang/String;"), (0, .methodref 20 21), (0, .class_ 22), (0, .nameAndType 23 24), (0, u "com/example/wary_validator/waryvalidator/messageinterpolation/MessageTemplatesEscapePinLaw"), (0, u "put"), (0, u "([CIC)I"), (0, .methodref 8 26), (0, .nameAndType 27 28), (0, u "length"), (0, u "()I"), (0, .methodref 20 30), (0, .nameAndType 31 32), (0, u "at"), (0, u "(Ljava/lang/String;[CII)Z"), (0, .methodref 20 34), (0, .nameAndType 35 36), (0, u "special"), (0, u "(C)Z"), (0, .methodref 8 38), (0, .nameAndType 39 40), (0, u "charAt"), (0, u "(I)C"), (2, u "law"), (0, u "(IIII)Z")] 5

def k1m0 : Method := { name := "<init>", desc := "()V", sig := { parameters := [], returnType := none }, accessFlags := 1, code := none }
def k1c1 : Code := { maxStack := 4, maxLocals := 12, code := code, exceptionTable := #[], attributes := #[] }
def k1m1 : Method := { name := "law", desc := "(IIII)Z", sig := { parameters := [.int, .int, .int, .int], returnType := some .boolean }, accessFlags := 9, code := some k1c1 }
def k1c2 : Code := { maxStack := 2, maxLocals := 1, code := method_3_code, exceptionTable := #[], attributes := #[] }
def k1m2 : Method := { name := "special", desc := "(C)Z", sig := { parameters := [.char], returnType := some .boolean }, accessFlags := 10, code := some k1c2 }
def k1c3 : Code := { maxStack := 3, maxLocals := 4, code := method_4_code, exceptionTable := #[], attributes := #[] }
def k1m3 : Method := { name := "put", desc := "([CIC)I", sig := { parameters := [(.array .char), .int, .char], returnType := some .int }, accessFlags := 10, code := some k1c3 }
def k1c4 : Code := { maxStack := 3, maxLocals := 4, code := method_5_code, exceptionTable := #[], attributes := #[] }
def k1m4 : Method := { name := "at", desc := "(Ljava/lang/String;[CII)Z", sig := { parameters := [(.object "java/lang/String"), (.array .char), .int, .int], returnType := some .boolean }, accessFlags := 10, code := some k1c4 }
/-- com/example/wary_validator/waryvalidator/messageinterpolation/MessageTemplatesEscapePinLaw -/
def k1 : Class := { plain "com/example/wary_validator/waryvalidator/messageinterpolation/MessageTemplatesEscapePinLaw" (some 0) with
  accessFlags := 49
  interfaces := #[]
  cf := some (fileOf pool1 20 #[] #[{ accessFlags := 1, nameIndex := 5, descriptorIndex := 6, attributes := #[] }, { accessFlags := 9, nameIndex := 43, descriptorIndex := 44, attributes := #[] }, { accessFlags := 10, nameIndex := 35, descriptorIndex := 36, attributes := #[] }, { accessFlags := 10, nameIndex := 23, descriptorIndex := 24, attributes := #[] }, { accessFlags := 10, nameIndex := 31, descriptorIndex := 32, attributes := #[] }] 49 2 #[] #[])
  fields := #[]
  methods := #[k1m0, k1m1, k1m2, k1m3, k1m4]
  instanceTypes := #[]
  staticTypes := #[]
  resolved := Array.replicate 50 none
  statics := none }

def pool2 : Array CpInfo := pool [(1, .class_ 2), (0, u "java/io/Serializable"), (0, .class_ 4), (0, u "java/lang/Object")] 2

/-- java/io/Serializable -/
def k2 : Class := { plain "java/io/Serializable" (some 0) with
  accessFlags := 1537
  interfaces := #[]
  cf := some (fileOf pool2 1 #[] #[] 1537 3 #[] #[])
  fields := #[]
  methods := #[]
  instanceTypes := #[]
  staticTypes := #[]
  resolved := Array.replicate 7 none
  statics := none }

def pool3 : Array CpInfo := pool [(1, .class_ 2), (0, u "java/lang/Comparable"), (0, .class_ 4), (0, u "java/lang/Object")] 7

/-- java/lang/Comparable -/
def k3 : Class := { plain "java/lang/Comparable" (some 0) with
  accessFlags := 1537
  interfaces := #[]
  cf := some (fileOf pool3 1 #[] #[] 1537 3 #[] #[])
  fields := #[]
  methods := #[]
  instanceTypes := #[]
  staticTypes := #[]
  resolved := Array.replicate 12 none
  statics := none }

def pool4 : Array CpInfo := pool [(2, .class_ 4), (1, u "java/lang/CharSequence"), (42, .class_ 48), (0, u "java/lang/CharSequence$1CodePointIterator"), (10, .class_ 60), (0, u "java/lang/CharSequence$1CharIterator"), (5, .class_ 67), (0, u "java/lang/Object")] 63

/-- java/lang/CharSequence -/
def k4 : Class := { plain "java/lang/CharSequence" (some 0) with
  accessFlags := 1537
  interfaces := #[]
  cf := some (fileOf pool4 2 #[.nestMembers #[47, 59]] #[] 1537 66 #[] #[])
  fields := #[]
  methods := #[]
  instanceTypes := #[]
  staticTypes := #[]
  resolved := Array.replicate 131 none
  statics := none }

def pool5 : Array CpInfo := pool [(1, .class_ 2), (0, u "java/lang/constant/Constable"), (0, .class_ 4), (0, u "java/lang/Object")] 6

/-- java/lang/constant/Constable -/
def k5 : Class := { plain "java/lang/constant/Constable" (some 0) with
  accessFlags := 1537
  interfaces := #[]
  cf := some (fileOf pool5 1 #[] #[] 1537 3 #[] #[])
  fields := #[]
  methods := #[]
  instanceTypes := #[]
  staticTypes := #[]
  resolved := Array.replicate 11 none
  statics := none }

def pool6 : Array CpInfo := pool [(1, .class_ 2), (0, u "java/lang/constant/ConstantDesc"), (0, .class_ 4), (0, u "java/lang/Object")] 32

/-- java/lang/constant/ConstantDesc -/
def k6 : Class := { plain "java/lang/constant/ConstantDesc" (some 0) with
  accessFlags := 1537
  interfaces := #[]
  cf := some (fileOf pool6 1 #[] #[] 1537 3 #[] #[])
  fields := #[]
  methods := #[]
  instanceTypes := #[]
  staticTypes := #[]
  resolved := Array.replicate 37 none
  statics := none }

def pool7 : Array CpInfo := pool [(1, .methodref 2 3), (0, .class_ 4), (0, .nameAndType 5 6), (0, u "java/lang/Object"), (0, u "<init>"), (0, u "()V"), (0, .string 8), (0, u ""), (0, .fieldref 10 11), (0, .class_ 12), (0, .nameAndType 13 14), (0, u "java/lang/String"), (0, u "value"), (0, u "[B"), (0, .fieldref 10 16), (0, .nameAndType 17 18), (0, u "coder"), (0, u "B"), (2, u "hash"), (0, u "I"), (2, u "hashIsZero"), (0, u "Z"), (0, .methodref 10 28), (0, .nameAndType 5 29), (0, u "([CIILjava/lang/Void;)V"), (6, u "checkBoundsOffCount"), (0, u "(III)I"), (0, .fieldref 10 39), (0, .nameAndType 40 26), (0, u "COMPACT_STRINGS"), (1, .class_ 44), (1, u "java/lang/StringUTF16"), (0, u "compress"), (1, .methodref 42 48), (0, .nameAndType 49 50), (0, u "coderFromArrayLen"), (0, u "([BI)B"), (3, .methodref 55 56), (0, .class_ 57), (0, .nameAndType 58 59), (0, u "java/util/Arrays"), (0, u "copyOfRange"), (0, u "([BII)[B"), (47, .class_ 109), (1, u "java/lang/StringLatin1"), (32, u "()Z"), (34, .methodref 42 178), (0, .nameAndType 45 179), (0, u "([CII)[B"), (119, .methodref 107 300), (0, .nameAndType 301 302), (0, u "toChars"), (0, u "([B)[C"), (0, .methodref 42 300), (30, u "()I"), (0, .methodref 10 336), (0, .nameAndType 17 337), (0, u "()B"), (2, u "()[B"), (22, u "([BI)C"), (27, u "(II)V"), (35, u "(I)C"), (61, .methodref 10 490), (0, .nameAndType 5 491), (0, u "(Ljava/lang/AbstractStringBuilder;Ljava/lang/Void;)V"), (0, .methodref 10 493), (0, .nameAndType 494 142), (0, u "isLatin1"), (0, .methodref 107 496), (0, .nameAndType 497 363), (0, u "charAt"), (0, .methodref 42 496), (2, u "checkIndex"), (4, .nameAndType 507 334), (0, u "length"), (41, .methodref 550 506), (0, .class_ 551), (0, u "java/lang/AbstractStringBuilder"), (0, .methodref 550 553), (0, .nameAndType 554 340), (0, u "getValue"), (20, .class_ 576), (0, u "java/lang/CharSequence"), (22, u "CASE_INSENSITIVE_ORDER"), (0, u "Ljava/util/Comparator;"), (354, u "toCharArray"), (0, u "()[C"), (53, u "([C)V"), (36, .methodref 550 493), (0, .fieldref 550 1049), (0, .nameAndType 1050 26), (0, u "maybeLatin1"), (2, .fieldref 1054 1055), (0, .class_ 1056), (0, .nameAndType 1057 1058), (0, u "jdk/internal/util/Preconditions"), (0, u "SIOOBE_FORMATTER"), (0, u "Ljava/util/function/BiFunction;"), (0, .methodref 1054 1060), (0, .nameAndType 501 1061), (0, u "(IILjava/util/function/BiFunction;)I"), (2, u "(IIILjava/util/function/BiFunction;)I"), (0, .methodref 1054 1066), (0, .nameAndType 1067 1064), (0, u "checkFromIndexSize"), (33, u "serialPersistentFields"), (0, u "[Ljava/io/ObjectStreamField;"), (0, .class_ 1104), (0, u "java/lang/String$CaseInsensitiveComparator"), (1, .class_ 1107), (0, u "java/io/Serializable"), (0, .class_ 1109), (0, u "java/lang/Comparable"), (0, .class_ 1111), (0, u "java/lang/constant/Constable"), (0, .class_ 1113), (0, u "java/lang/constant/ConstantDesc"), (2, u "serialVersionUID"), (0, u "J"), (3, u "REPL"), (0, u "C"), (2, u "LATIN1"), (1, u "UTF16"), (105, u "(Ljava/lang/StringBuilder;)V")] 217

def k7m0 : Method := { name := "<init>", desc := "()V", sig := { parameters := [], returnType := none }, accessFlags := 1, code := none }
def k7c1 : Code := { maxStack := 5, maxLocals := 2, code := jdk_42_method_3_code, exceptionTable := #[], attributes := #[] }
def k7m1 : Method := { name := "<init>", desc := "([C)V", sig := { parameters := [(.array .char)], returnType := none }, accessFlags := 1, code := some k7c1 }
def k7c2 : Code := { maxStack := 3, maxLocals := 2, code := jdk_42_method_53_code, exceptionTable := #[], attributes := #[] }
def k7m2 : Method := { name := "<init>", desc := "(Ljava/lang/StringBuilder;)V", sig := { parameters := [(.object "java/lang/StringBuilder")], returnType := none }, accessFlags := 1, code := some k7c2 }
def k7c3 : Code := { maxStack := 2, maxLocals := 1, code := jdk_42_method_54_code, exceptionTable := #[], attributes := #[] }
def k7m3 : Method := { name := "length", desc := "()I", sig := { parameters := [], returnType := some .int }, accessFlags := 1, code := some k7c3 }
def k7c4 : Code := { maxStack := 2, maxLocals := 2, code := jdk_42_method_56_code, exceptionTable := #[], attributes := #[] }
def k7m4 : Method := { name := "charAt", desc := "(I)C", sig := { parameters := [.int], returnType := some .char }, accessFlags := 1, code := some k7c4 }
def k7c5 : Code := { maxStack := 1, maxLocals := 1, code := jdk_42_method_129_code, exceptionTable := #[], attributes := #[] }
def k7m5 : Method := { name := "toCharArray", desc := "()[C", sig := { parameters := [], returnType := some (.array .char) }, accessFlags := 1, code := some k7c5 }
def k7c6 : Code := { maxStack := 4, maxLocals := 6, code := jdk_42_method_149_code, exceptionTable := #[], attributes := #[] }
def k7m6 : Method := { name := "<init>", desc := "([CIILjava/lang/Void;)V", sig := { parameters := [(.array .char), .int, .int, (.object "java/lang/Void")], returnType := none }, accessFlags := 2, code := some k7c6 }
def k7c7 : Code := { maxStack := 5, maxLocals := 5, code := jdk_42_method_150_code, exceptionTable := #[], attributes := #[] }
def k7m7 : Method := { name := "<init>", desc := "(Ljava/lang/AbstractStringBuilder;Ljava/lang/Void;)V", sig := { parameters := [(.object "java/lang/AbstractStringBuilder"), (.object "java/lang/Void")], returnType := none }, accessFlags := 0, code := some k7c7 }
def k7c8 : Code := { maxStack := 1, maxLocals := 1, code := jdk_42_method_152_code, exceptionTable := #[], attributes := #[] }
def k7m8 : Method := { name := "coder", desc := "()B", sig := { parameters := [], returnType := some .byte }, accessFlags := 0, code := some k7c8 }
def k7c9 : Code := { maxStack := 1, maxLocals := 1, code := jdk_42_method_154_code, exceptionTable := #[], attributes := #[] }
def k7m9 : Method := { name := "isLatin1", desc := "()Z", sig := { parameters := [], returnType := some .boolean }, accessFlags := 0, code := some k7c9 }
def k7c10 : Code := { maxStack := 3, maxLocals := 2, code := jdk_42_method_155_code, exceptionTable := #[], attributes := #[] }
def k7m10 : Method := { name := "checkIndex", desc := "(II)V", sig := { parameters := [.int, .int], returnType := none }, accessFlags := 8, code := some k7c10 }
def k7c11 : Code := { maxStack := 4, maxLocals := 3, code := jdk_42_method_157_code, exceptionTable := #[], attributes := #[] }
def k7m11 : Method := { name := "checkBoundsOffCount", desc := "(III)I", sig := { parameters := [.int, .int, .int], returnType := some .int }, accessFlags := 8, code := some k7c11 }
/-- java/lang/String -/
def k7 : Class := { plain "java/lang/String" (some 0) with
  accessFlags := 49
  interfaces := #[2, 3, 4, 5, 6]
  cf := some (fileOf pool7 10 #[.nestMembers #[1103]] #[{ accessFlags := 1, nameIndex := 5, descriptorIndex := 6, attributes := #[] }, { accessFlags := 1, nameIndex := 5, descriptorIndex := 1010, attributes := #[] }, { accessFlags := 1, nameIndex := 5, descriptorIndex := 1233, attributes := #[] }, { accessFlags := 1, nameIndex := 507, descriptorIndex := 334, attributes := #[] }, { accessFlags := 1, nameIndex := 497, descriptorIndex := 427, attributes := #[] }, { accessFlags := 1, nameIndex := 955, descriptorIndex := 956, attributes := #[] }, { accessFlags := 2, nameIndex := 5, descriptorIndex := 29, attributes := #[] }, { accessFlags := 0, nameIndex := 5, descriptorIndex := 491, attributes := #[] }, { accessFlags := 0, nameIndex := 17, descriptorIndex := 337, attributes := #[] }, { accessFlags := 0, nameIndex := 494, descriptorIndex := 142, attributes := #[] }, { accessFlags := 8, nameIndex := 501, descriptorIndex := 391, attributes := #[] }, { accessFlags := 8, nameIndex := 36, descriptorIndex := 37, attributes := #[] }] 49 2 #[1106, 1108, 575, 1110, 1112] #[{ accessFlags := 18, nameIndex := 13, descriptorIndex := 14, attributes := #[] }, { accessFlags := 18, nameIndex := 17, descriptorIndex := 18, attributes := #[] }, { accessFlags := 2, nameIndex := 21, descriptorIndex := 22, attributes := #[] }, { accessFlags := 2, nameIndex := 25, descriptorIndex := 26, attributes := #[] }, { accessFlags := 26, nameIndex := 1116, descriptorIndex := 1117, attributes := #[] }, { accessFlags := 24, nameIndex := 40, descriptorIndex := 26, attributes := #[] }, { accessFlags := 26, nameIndex := 1101, descriptorIndex := 1102, attributes := #[] }, { accessFlags := 26, nameIndex := 1121, descriptorIndex := 1122, attributes := #[] }, { accessFlags := 25, nameIndex := 599, descriptorIndex := 600, attributes := #[] }, { accessFlags := 24, nameIndex := 1125, descriptorIndex := 18, attributes := #[] }, { accessFlags := 24, nameIndex := 1127, descriptorIndex := 18, attributes := #[] }])
  fields := #[{ name := "value", type := (.array .byte), accessFlags := 18, slot := 0, constantValue := 0 }, { name := "coder", type := .byte, accessFlags := 18, slot := 1, constantValue := 0 }, { name := "hash", type := .int, accessFlags := 2, slot := 2, constantValue := 0 }, { name := "hashIsZero", type := .boolean, accessFlags := 2, slot := 3, constantValue := 0 }, { name := "serialVersionUID", type := .long, accessFlags := 26, slot := 0, constantValue := 0 }, { name := "COMPACT_STRINGS", type := .boolean, accessFlags := 24, slot := 1, constantValue := 0 }, { name := "serialPersistentFields", type := (.array (.object "java/io/ObjectStreamField")), accessFlags := 26, slot := 2, constantValue := 0 }, { name := "REPL", type := .char, accessFlags := 26, slot := 3, constantValue := 0 }, { name := "CASE_INSENSITIVE_ORDER", type := (.object "java/util/Comparator"), accessFlags := 25, slot := 4, constantValue := 0 }, { name := "LATIN1", type := .byte, accessFlags := 24, slot := 5, constantValue := 0 }, { name := "UTF16", type := .byte, accessFlags := 24, slot := 6, constantValue := 0 }]
  methods := #[k7m0, k7m1, k7m2, k7m3, k7m4, k7m5, k7m6, k7m7, k7m8, k7m9, k7m10, k7m11]
  instanceTypes := #[(.array .byte), .byte, .int, .boolean]
  staticTypes := #[.long, .boolean, (.array (.object "java/io/ObjectStreamField")), .char, (.object "java/util/Comparator"), .byte, .byte]
  resolved := Array.replicate 1451 none
  statics := some 0 }

def pool8 : Array CpInfo := pool [(3, .class_ 4), (0, u "java/lang/String"), (1, .class_ 8), (1, u "java/lang/Object"), (0, u "<init>"), (0, u "()V"), (0, .methodref 12 13), (0, .class_ 14), (0, .nameAndType 15 16), (0, u "java/lang/StringUTF16"), (0, u "newBytesLength"), (0, u "(I)I"), (3, .integer 1073741823), (23, .fieldref 12 45), (0, .nameAndType 46 47), (0, u "$assertionsDisabled"), (0, u "Z"), (0, .methodref 12 49), (0, .nameAndType 50 51), (0, u "length"), (0, u "([B)I"), (7, .fieldref 12 60), (0, .nameAndType 61 62), (0, u "HI_BYTE_SHIFT"), (0, u "I"), (0, .fieldref 12 64), (0, .nameAndType 65 62), (0, u "LO_BYTE_SHIFT"), (1, .methodref 12 68), (0, .nameAndType 69 70), (0, u "checkIndex"), (0, u "(I[B)V"), (0, .methodref 12 72), (0, .nameAndType 73 74), (0, u "getChar"), (0, u "([BI)C"), (24, u "(II[B)V"), (3, .methodref 12 104), (0, .nameAndType 105 106), (0, u "getChars"), (0, u "([BII[CI)V"), (0, .methodref 12 108), (0, .nameAndType 109 110), (0, u "newBytesFor"), (0, u "(I)[B"), (0, .methodref 12 112), (0, .nameAndType 113 114), (0, u "putChar"), (0, u "([BII)V"), (0, .methodref 12 116), (0, .nameAndType 117 118), (0, u "compress"), (0, u "([CI[BII)I"), (0, .methodref 12 120), (0, .nameAndType 121 122), (0, u "toBytes"), (0, u "([CII)[B"), (17, u "inflate"), (0, u "([BI[BII)V"), (31, .methodref 12 174), (0, .nameAndType 175 99), (0, u "checkBoundsOffCount"), (85, u "coderFromArrayLen"), (0, u "([BI)B"), (18, u "(III)I"), (60, u "toChars"), (26, .class_ 371), (1, u "java/lang/StringUTF16$LinesSpliterator"), (20, u "charAt"), (21, .methodref 3 415), (0, .nameAndType 69 416), (0, u "(II)V"), (2, .methodref 3 420), (0, .nameAndType 175 281), (9, u "MAX_LENGTH"), (23, u "([B)[C"), (131, u "putCharSB"), (40, .class_ 628), (0, u "java/lang/StringUTF16$CodePointsSpliterator"), (0, .class_ 630), (0, u "java/lang/StringUTF16$CharsSpliterator")] 4

def k8m0 : Method := { name := "<init>", desc := "()V", sig := { parameters := [], returnType := none }, accessFlags := 0, code := none }
def k8c1 : Code := { maxStack := 1, maxLocals := 1, code := jdk_52_method_2_code, exceptionTable := #[], attributes := #[] }
def k8m1 : Method := { name := "newBytesFor", desc := "(I)[B", sig := { parameters := [.int], returnType := some (.array .byte) }, accessFlags := 9, code := some k8c1 }
def k8c2 : Code := { maxStack := 4, maxLocals := 1, code := jdk_52_method_3_code, exceptionTable := #[], attributes := #[] }
def k8m2 : Method := { name := "newBytesLength", desc := "(I)I", sig := { parameters := [.int], returnType := some .int }, accessFlags := 9, code := some k8c2 }
def k8c3 : Code := { maxStack := 4, maxLocals := 3, code := jdk_52_method_4_code, exceptionTable := #[], attributes := #[] }
def k8m3 : Method := { name := "putChar", desc := "([BII)V", sig := { parameters := [(.array .byte), .int, .int], returnType := none }, accessFlags := 8, code := some k8c3 }
def k8c4 : Code := { maxStack := 3, maxLocals := 2, code := jdk_52_method_5_code, exceptionTable := #[], attributes := #[] }
def k8m4 : Method := { name := "getChar", desc := "([BI)C", sig := { parameters := [(.array .byte), .int], returnType := some .char }, accessFlags := 8, code := some k8c4 }
def k8c5 : Code := { maxStack := 2, maxLocals := 1, code := jdk_52_method_6_code, exceptionTable := #[], attributes := #[] }
def k8m5 : Method := { name := "length", desc := "([B)I", sig := { parameters := [(.array .byte)], returnType := some .int }, accessFlags := 9, code := some k8c5 }
def k8c6 : Code := { maxStack := 5, maxLocals := 2, code := jdk_52_method_13_code, exceptionTable := #[], attributes := #[] }
def k8m6 : Method := { name := "toChars", desc := "([B)[C", sig := { parameters := [(.array .byte)], returnType := some (.array .char) }, accessFlags := 9, code := some k8c6 }
def k8c7 : Code := { maxStack := 4, maxLocals := 5, code := jdk_52_method_14_code, exceptionTable := #[], attributes := #[] }
def k8m7 : Method := { name := "toBytes", desc := "([CII)[B", sig := { parameters := [(.array .char), .int, .int], returnType := some (.array .byte) }, accessFlags := 9, code := some k8c7 }
def k8c8 : Code := { maxStack := 2, maxLocals := 2, code := jdk_52_method_15_code, exceptionTable := #[], attributes := #[] }
def k8m8 : Method := { name := "coderFromArrayLen", desc := "([BI)B", sig := { parameters := [(.array .byte), .int], returnType := some .byte }, accessFlags := 8, code := some k8c8 }
def k8c9 : Code := { maxStack := 5, maxLocals := 6, code := jdk_52_method_16_code, exceptionTable := #[], attributes := #[] }
def k8m9 : Method := { name := "compress", desc := "([CII)[B", sig := { parameters := [(.array .char), .int, .int], returnType := some (.array .byte) }, accessFlags := 9, code := some k8c9 }
def k8c10 : Code := { maxStack := 3, maxLocals := 7, code := jdk_52_method_21_code, exceptionTable := #[], attributes := #[] }
def k8m10 : Method := { name := "compress", desc := "([CI[BII)I", sig := { parameters := [(.array .char), .int, (.array .byte), .int, .int], returnType := some .int }, accessFlags := 9, code := some k8c10 }
def k8c11 : Code := { maxStack := 4, maxLocals := 6, code := jdk_52_method_26_code, exceptionTable := #[], attributes := #[] }
def k8m11 : Method := { name := "getChars", desc := "([BII[CI)V", sig := { parameters := [(.array .byte), .int, .int, (.array .char), .int], returnType := none }, accessFlags := 9, code := some k8c11 }
def k8c12 : Code := { maxStack := 3, maxLocals := 3, code := jdk_52_method_71_code, exceptionTable := #[], attributes := #[] }
def k8m12 : Method := { name := "putCharSB", desc := "([BII)V", sig := { parameters := [(.array .byte), .int, .int], returnType := none }, accessFlags := 9, code := some k8c12 }
def k8c13 : Code := { maxStack := 2, maxLocals := 2, code := jdk_52_method_83_code, exceptionTable := #[], attributes := #[] }
def k8m13 : Method := { name := "charAt", desc := "([BI)C", sig := { parameters := [(.array .byte), .int], returnType := some .char }, accessFlags := 9, code := some k8c13 }
def k8c14 : Code := { maxStack := 4, maxLocals := 6, code := jdk_52_method_86_code, exceptionTable := #[], attributes := #[] }
def k8m14 : Method := { name := "inflate", desc := "([BI[BII)V", sig := { parameters := [(.array .byte), .int, (.array .byte), .int, .int], returnType := none }, accessFlags := 9, code := some k8c14 }
def k8c15 : Code := { maxStack := 2, maxLocals := 2, code := jdk_52_method_91_code, exceptionTable := #[], attributes := #[] }
def k8m15 : Method := { name := "checkIndex", desc := "(I[B)V", sig := { parameters := [.int, (.array .byte)], returnType := none }, accessFlags := 9, code := some k8c15 }
def k8c16 : Code := { maxStack := 3, maxLocals := 3, code := jdk_52_method_94_code, exceptionTable := #[], attributes := #[] }
def k8m16 : Method := { name := "checkBoundsOffCount", desc := "(II[B)V", sig := { parameters := [.int, .int, (.array .byte)], returnType := none }, accessFlags := 9, code := some k8c16 }
/-- java/lang/StringUTF16 -/
def k8 : Class := { plain "java/lang/StringUTF16" (some 0) with
  accessFlags := 48
  interfaces := #[]
  cf := some (fileOf pool8 12 #[.nestMembers #[627, 629, 369]] #[{ accessFlags := 0, nameIndex := 9, descriptorIndex := 10, attributes := #[] }, { accessFlags := 9, nameIndex := 109, descriptorIndex := 110, attributes := #[] }, { accessFlags := 9, nameIndex := 15, descriptorIndex := 16, attributes := #[] }, { accessFlags := 8, nameIndex := 113, descriptorIndex := 114, attributes := #[] }, { accessFlags := 8, nameIndex := 73, descriptorIndex := 74, attributes := #[] }, { accessFlags := 9, nameIndex := 50, descriptorIndex := 51, attributes := #[] }, { accessFlags := 9, nameIndex := 342, descriptorIndex := 454, attributes := #[] }, { accessFlags := 9, nameIndex := 121, descriptorIndex := 122, attributes := #[] }, { accessFlags := 8, nameIndex := 261, descriptorIndex := 262, attributes := #[] }, { accessFlags := 9, nameIndex := 117, descriptorIndex := 122, attributes := #[] }, { accessFlags := 9, nameIndex := 117, descriptorIndex := 118, attributes := #[] }, { accessFlags := 9, nameIndex := 105, descriptorIndex := 106, attributes := #[] }, { accessFlags := 9, nameIndex := 586, descriptorIndex := 114, attributes := #[] }, { accessFlags := 9, nameIndex := 392, descriptorIndex := 74, attributes := #[] }, { accessFlags := 9, nameIndex := 140, descriptorIndex := 141, attributes := #[] }, { accessFlags := 9, nameIndex := 69, descriptorIndex := 70, attributes := #[] }, { accessFlags := 9, nameIndex := 175, descriptorIndex := 99, attributes := #[] }] 48 6 #[] #[{ accessFlags := 26, nameIndex := 61, descriptorIndex := 62, attributes := #[] }, { accessFlags := 26, nameIndex := 65, descriptorIndex := 62, attributes := #[] }, { accessFlags := 24, nameIndex := 430, descriptorIndex := 62, attributes := #[] }, { accessFlags := 4120, nameIndex := 46, descriptorIndex := 47, attributes := #[] }])
  fields := #[{ name := "HI_BYTE_SHIFT", type := .int, accessFlags := 26, slot := 0, constantValue := 0 }, { name := "LO_BYTE_SHIFT", type := .int, accessFlags := 26, slot := 1, constantValue := 0 }, { name := "MAX_LENGTH", type := .int, accessFlags := 24, slot := 2, constantValue := 0 }, { name := "$assertionsDisabled", type := .boolean, accessFlags := 4120, slot := 3, constantValue := 0 }]
  methods := #[k8m0, k8m1, k8m2, k8m3, k8m4, k8m5, k8m6, k8m7, k8m8, k8m9, k8m10, k8m11, k8m12, k8m13, k8m14, k8m15, k8m16]
  instanceTypes := #[]
  staticTypes := #[.int, .int, .int, .boolean]
  resolved := Array.replicate 635 none
  statics := some 1 }

def pool9 : Array CpInfo := pool [(2, .class_ 4), (1, u "java/lang/Object"), (0, u "<init>"), (0, u "()V"), (1, .class_ 10), (1, u "com/example/wary_validator/waryvalidator/messageinterpolation/MessageTemplates"), (2, .class_ 14), (0, u "java/lang/StringBuilder"), (0, .methodref 16 17), (0, .class_ 18), (0, .nameAndType 19 20), (0, u "java/lang/String"), (0, u "length"), (0, u "()I"), (0, .methodref 13 22), (0, .nameAndType 5 23), (0, u "(I)V"), (0, .class_ 25), (0, u "com/example/wary_validator/waryvalidator/messageinterpolation/MessageTemplates$ExpressionEnds"), (13, u "append"), (18, .methodref 13 59), (0, .nameAndType 39 60), (0, u "(C)Ljava/lang/StringBuilder;"), (0, .methodref 13 62), (0, .nameAndType 63 64), (0, u "toString"), (0, u "()Ljava/lang/String;"), (6, u "escape"), (0, u "(Ljava/lang/String;)Ljava/lang/String;"), (0, .methodref 16 74), (0, .nameAndType 75 76), (0, u "toCharArray"), (0, u "()[C")] 27

def k9m0 : Method := { name := "<init>", desc := "()V", sig := { parameters := [], returnType := none }, accessFlags := 2, code := none }
def k9c1 : Code := { maxStack := 3, maxLocals := 6, code := prog_23_method_6_code, exceptionTable := #[], attributes := #[] }
def k9m1 : Method := { name := "escape", desc := "(Ljava/lang/String;)Ljava/lang/String;", sig := { parameters := [(.object "java/lang/String")], returnType := some (.object "java/lang/String") }, accessFlags := 8, code := some k9c1 }
/-- com/example/wary_validator/waryvalidator/messageinterpolation/MessageTemplates -/
def k9 : Class := { plain "com/example/wary_validator/waryvalidator/messageinterpolation/MessageTemplates" (some 0) with
  accessFlags := 48
  interfaces := #[]
  cf := some (fileOf pool9 8 #[.nestMembers #[24]] #[{ accessFlags := 2, nameIndex := 5, descriptorIndex := 6, attributes := #[] }, { accessFlags := 8, nameIndex := 71, descriptorIndex := 72, attributes := #[] }] 48 2 #[] #[])
  fields := #[]
  methods := #[k9m0, k9m1]
  instanceTypes := #[]
  staticTypes := #[]
  resolved := Array.replicate 104 none
  statics := none }

def pool10 : Array CpInfo := pool [(1, .class_ 2), (0, u "java/lang/Appendable"), (0, .class_ 4), (0, u "java/lang/Object")] 9

/-- java/lang/Appendable -/
def k10 : Class := { plain "java/lang/Appendable" (some 0) with
  accessFlags := 1537
  interfaces := #[]
  cf := some (fileOf pool10 1 #[] #[] 1537 3 #[] #[])
  fields := #[]
  methods := #[]
  instanceTypes := #[]
  staticTypes := #[]
  resolved := Array.replicate 14 none
  statics := none }

def pool11 : Array CpInfo := pool [(1, .class_ 2), (0, u "java/lang/String"), (0, .methodref 4 5), (0, .class_ 6), (0, .nameAndType 7 8), (0, u "java/lang/Object"), (0, u "<init>"), (0, u "()V"), (1, .class_ 12), (1, u "java/lang/AbstractStringBuilder"), (0, u "EMPTYVALUE"), (0, u "[B"), (0, .fieldref 10 16), (0, .nameAndType 17 14), (0, u "value"), (0, .fieldref 1 19), (0, .nameAndType 20 21), (0, u "COMPACT_STRINGS"), (0, u "Z"), (0, .fieldref 10 23), (0, .nameAndType 24 25), (0, u "coder"), (0, u "B"), (0, .methodref 27 28), (0, .class_ 29), (0, .nameAndType 30 31), (0, u "java/lang/StringUTF16"), (0, u "newBytesFor"), (0, u "(I)[B"), (2, u "length"), (0, u "()I"), (3, .integer 2147483647), (5, u "append"), (2, .class_ 49), (0, u "java/lang/CharSequence"), (25, u "maybeLatin1"), (3, .fieldref 10 80), (0, .nameAndType 81 82), (0, u "count"), (0, u "I"), (0, .methodref 10 84), (0, .nameAndType 85 86), (0, u "isLatin1"), (0, u "()Z"), (1, .class_ 90), (1, u "java/lang/StringLatin1"), (9, .methodref 10 101), (0, .nameAndType 102 103), (0, u "ensureCapacityInternal"), (0, u "(I)V"), (0, .methodref 10 105), (0, .nameAndType 106 107), (0, u "newCapacity"), (0, u "(I)I"), (0, .methodref 109 110), (0, .class_ 111), (0, .nameAndType 112 113), (0, u "java/util/Arrays"), (0, u "copyOf"), (0, u "([BI)[B"), (0, .methodref 115 116), (0, .class_ 117), (0, .nameAndType 118 119), (0, u "jdk/internal/util/ArraysSupport"), (0, u "newLength"), (0, u "(III)I"), (5, .methodref 88 126), (0, .nameAndType 127 128), (0, u "inflate"), (0, u "([BI[BII)V"), (7, u "([BII)V"), (54, .methodref 88 192), (0, .nameAndType 193 194), (0, u "canEncode"), (0, u "(C)Z"), (0, .methodref 10 196), (0, .nameAndType 127 8), (0, .methodref 27 198), (0, .nameAndType 199 136), (0, u "putCharSB"), (92, u "(C)Ljava/lang/AbstractStringBuilder;"), (110, u "()[B"), (40, .class_ 445), (0, u "java/lang/Appendable"), (106, u "getValue")] 56

def k11m0 : Method := { name := "<init>", desc := "()V", sig := { parameters := [], returnType := none }, accessFlags := 0, code := none }
def k11c1 : Code := { maxStack := 2, maxLocals := 2, code := jdk_68_method_2_code, exceptionTable := #[], attributes := #[] }
def k11m1 : Method := { name := "<init>", desc := "(I)V", sig := { parameters := [.int], returnType := none }, accessFlags := 0, code := some k11c1 }
def k11c2 : Code := { maxStack := 1, maxLocals := 1, code := jdk_68_method_6_code, exceptionTable := #[], attributes := #[] }
def k11m2 : Method := { name := "length", desc := "()I", sig := { parameters := [], returnType := some .int }, accessFlags := 1, code := some k11c2 }
def k11c3 : Code := { maxStack := 4, maxLocals := 3, code := jdk_68_method_9_code, exceptionTable := #[], attributes := #[] }
def k11m3 : Method := { name := "ensureCapacityInternal", desc := "(I)V", sig := { parameters := [.int], returnType := none }, accessFlags := 2, code := some k11c3 }
def k11c4 : Code := { maxStack := 5, maxLocals := 6, code := jdk_68_method_10_code, exceptionTable := #[], attributes := #[] }
def k11m4 : Method := { name := "newCapacity", desc := "(I)I", sig := { parameters := [.int], returnType := some .int }, accessFlags := 2, code := some k11c4 }
def k11c5 : Code := { maxStack := 5, maxLocals := 2, code := jdk_68_method_11_code, exceptionTable := #[], attributes := #[] }
def k11m5 : Method := { name := "inflate", desc := "()V", sig := { parameters := [], returnType := none }, accessFlags := 2, code := some k11c5 }
def k11c6 : Code := { maxStack := 5, maxLocals := 2, code := jdk_68_method_31_code, exceptionTable := #[], attributes := #[] }
def k11m6 : Method := { name := "append", desc := "(C)Ljava/lang/AbstractStringBuilder;", sig := { parameters := [.char], returnType := some (.object "java/lang/AbstractStringBuilder") }, accessFlags := 1, code := some k11c6 }
def k11c7 : Code := { maxStack := 1, maxLocals := 1, code := jdk_68_method_64_code, exceptionTable := #[], attributes := #[] }
def k11m7 : Method := { name := "getValue", desc := "()[B", sig := { parameters := [], returnType := some (.array .byte) }, accessFlags := 16, code := some k11c7 }
def k11c8 : Code := { maxStack := 1, maxLocals := 1, code := jdk_68_method_68_code, exceptionTable := #[], attributes := #[] }
def k11m8 : Method := { name := "isLatin1", desc := "()Z", sig := { parameters := [], returnType := some .boolean }, accessFlags := 16, code := some k11c8 }
/-- java/lang/AbstractStringBuilder -/
def k11 : Class := { plain "java/lang/AbstractStringBuilder" (some 0) with
  accessFlags := 1056
  interfaces := #[10, 4]
  cf := some (fileOf pool11 10 #[] #[{ accessFlags := 0, nameIndex := 7, descriptorIndex := 8, attributes := #[] }, { accessFlags := 0, nameIndex := 7, descriptorIndex := 103, attributes := #[] }, { accessFlags := 1, nameIndex := 34, descriptorIndex := 35, attributes := #[] }, { accessFlags := 2, nameIndex := 102, descriptorIndex := 103, attributes := #[] }, { accessFlags := 2, nameIndex := 106, descriptorIndex := 107, attributes := #[] }, { accessFlags := 2, nameIndex := 127, descriptorIndex := 8, attributes := #[] }, { accessFlags := 1, nameIndex := 45, descriptorIndex := 292, attributes := #[] }, { accessFlags := 16, nameIndex := 552, descriptorIndex := 403, attributes := #[] }, { accessFlags := 16, nameIndex := 85, descriptorIndex := 86, attributes := #[] }] 1056 4 #[444, 48] #[{ accessFlags := 0, nameIndex := 17, descriptorIndex := 14, attributes := #[] }, { accessFlags := 0, nameIndex := 24, descriptorIndex := 25, attributes := #[] }, { accessFlags := 0, nameIndex := 75, descriptorIndex := 21, attributes := #[] }, { accessFlags := 0, nameIndex := 81, descriptorIndex := 82, attributes := #[] }, { accessFlags := 26, nameIndex := 13, descriptorIndex := 14, attributes := #[] }])
  fields := #[{ name := "value", type := (.array .byte), accessFlags := 0, slot := 0, constantValue := 0 }, { name := "coder", type := .byte, accessFlags := 0, slot := 1, constantValue := 0 }, { name := "maybeLatin1", type := .boolean, accessFlags := 0, slot := 2, constantValue := 0 }, { name := "count", type := .int, accessFlags := 0, slot := 3, constantValue := 0 }, { name := "EMPTYVALUE", type := (.array .byte), accessFlags := 26, slot := 0, constantValue := 0 }]
  methods := #[k11m0, k11m1, k11m2, k11m3, k11m4, k11m5, k11m6, k11m7, k11m8]
  instanceTypes := #[(.array .byte), .byte, .boolean, .int]
  staticTypes := #[(.array .byte)]
  resolved := Array.replicate 609 none
  statics := none }

def pool12 : Array CpInfo := pool [(1, .methodref 2 3), (0, .class_ 4), (0, .nameAndType 5 6), (0, u "java/lang/AbstractStringBuilder"), (0, u "<init>"), (0, u "(I)V"), (11, .class_ 20), (1, u "java/lang/String"), (3, .class_ 26), (1, u "java/lang/StringBuilder"), (0, u "append"), (22, .methodref 2 51), (0, .nameAndType 27 52), (0, u "(C)Ljava/lang/AbstractStringBuilder;"), (84, .methodref 18 138), (0, .nameAndType 5 139), (0, u "(Ljava/lang/StringBuilder;)V"), (5, u "()V"), (10, u "()I"), (129, u "(C)Ljava/lang/StringBuilder;"), (56, .methodref 2 344), (0, .nameAndType 345 156), (0, u "length"), (3, .class_ 350), (0, u "java/lang/Appendable"), (0, .class_ 352), (0, u "java/io/Serializable"), (0, .class_ 354), (0, u "java/lang/Comparable"), (0, .class_ 356), (0, u "java/lang/CharSequence"), (0, u "serialVersionUID"), (0, u "J"), (40, u "toString"), (0, u "()Ljava/lang/String;")] 21

def k12m0 : Method := { name := "<init>", desc := "()V", sig := { parameters := [], returnType := none }, accessFlags := 1, code := none }
def k12c1 : Code := { maxStack := 2, maxLocals := 2, code := jdk_67_method_2_code, exceptionTable := #[], attributes := #[] }
def k12m1 : Method := { name := "<init>", desc := "(I)V", sig := { parameters := [.int], returnType := none }, accessFlags := 1, code := some k12c1 }
def k12c2 : Code := { maxStack := 2, maxLocals := 2, code := jdk_67_method_14_code, exceptionTable := #[], attributes := #[] }
def k12m2 : Method := { name := "append", desc := "(C)Ljava/lang/StringBuilder;", sig := { parameters := [.char], returnType := some (.object "java/lang/StringBuilder") }, accessFlags := 1, code := some k12c2 }
def k12c3 : Code := { maxStack := 3, maxLocals := 1, code := jdk_67_method_42_code, exceptionTable := #[], attributes := #[] }
def k12m3 : Method := { name := "toString", desc := "()Ljava/lang/String;", sig := { parameters := [], returnType := some (.object "java/lang/String") }, accessFlags := 1, code := some k12c3 }
def k12c4 : Code := { maxStack := 1, maxLocals := 1, code := jdk_67_method_93_code, exceptionTable := #[], attributes := #[] }
def k12m4 : Method := { name := "length", desc := "()I", sig := { parameters := [], returnType := some .int }, accessFlags := 4161, code := some k12c4 }
/-- java/lang/StringBuilder -/
def k12 : Class := { plain "java/lang/StringBuilder" (some 11) with
  accessFlags := 49
  interfaces := #[10, 2, 3, 4]
  cf := some (fileOf pool12 24 #[] #[{ accessFlags := 1, nameIndex := 5, descriptorIndex := 145, attributes := #[] }, { accessFlags := 1, nameIndex := 5, descriptorIndex := 6, attributes := #[] }, { accessFlags := 1, nameIndex := 27, descriptorIndex := 286, attributes := #[] }, { accessFlags := 1, nameIndex := 399, descriptorIndex := 400, attributes := #[] }, { accessFlags := 4161, nameIndex := 345, descriptorIndex := 156, attributes := #[] }] 49 2 #[349, 351, 353, 355] #[{ accessFlags := 24, nameIndex := 357, descriptorIndex := 358, attributes := #[] }])
  fields := #[{ name := "serialVersionUID", type := .long, accessFlags := 24, slot := 0, constantValue := 0 }]
  methods := #[k12m0, k12m1, k12m2, k12m3, k12m4]
  instanceTypes := #[(.array .byte), .byte, .boolean, .int]
  staticTypes := #[.long]
  resolved := Array.replicate 422 none
  statics := none }

def pool13 : Array CpInfo := pool [(1, .class_ 2), (0, u "java/lang/String"), (1, .class_ 6), (1, u "java/lang/Object"), (0, u "<init>"), (0, u "()V"), (0, .methodref 1 10), (0, .nameAndType 11 12), (0, u "checkIndex"), (0, u "(II)V"), (0, .methodref 14 15), (0, .class_ 16), (0, .nameAndType 17 18), (0, u "java/lang/StringLatin1"), (0, u "inflate"), (0, u "([BI[CII)V"), (1, .class_ 22), (1, u "java/lang/StringUTF16"), (3, .nameAndType 17 27), (0, u "([BI[BII)V"), (25, u "([BI)C"), (36, u "canEncode"), (14, u "(C)Z"), (15, u "$assertionsDisabled"), (0, u "Z"), (69, u "toChars"), (28, .class_ 223), (1, u "java/lang/StringLatin1$LinesSpliterator"), (16, .methodref 20 26), (11, u "charAt"), (15, u "([B)[C"), (121, .class_ 391), (0, u "java/lang/StringLatin1$CharsSpliterator")] 3

def k13m0 : Method := { name := "<init>", desc := "()V", sig := { parameters := [], returnType := none }, accessFlags := 0, code := none }
def k13c1 : Code := { maxStack := 2, maxLocals := 2, code := jdk_43_method_2_code, exceptionTable := #[], attributes := #[] }
def k13m1 : Method := { name := "charAt", desc := "([BI)C", sig := { parameters := [(.array .byte), .int], returnType := some .char }, accessFlags := 9, code := some k13c1 }
def k13c2 : Code := { maxStack := 2, maxLocals := 1, code := jdk_43_method_3_code, exceptionTable := #[], attributes := #[] }
def k13m2 : Method := { name := "canEncode", desc := "(C)Z", sig := { parameters := [.char], returnType := some .boolean }, accessFlags := 9, code := some k13c2 }
def k13c3 : Code := { maxStack := 5, maxLocals := 2, code := jdk_43_method_9_code, exceptionTable := #[], attributes := #[] }
def k13m3 : Method := { name := "toChars", desc := "([B)[C", sig := { parameters := [(.array .byte)], returnType := some (.array .char) }, accessFlags := 9, code := some k13c3 }
def k13c4 : Code := { maxStack := 4, maxLocals := 6, code := jdk_43_method_49_code, exceptionTable := #[], attributes := #[] }
def k13m4 : Method := { name := "inflate", desc := "([BI[CII)V", sig := { parameters := [(.array .byte), .int, (.array .char), .int, .int], returnType := none }, accessFlags := 9, code := some k13c4 }
def k13c5 : Code := { maxStack := 5, maxLocals := 5, code := jdk_43_method_50_code, exceptionTable := #[], attributes := #[] }
def k13m5 : Method := { name := "inflate", desc := "([BI[BII)V", sig := { parameters := [(.array .byte), .int, (.array .byte), .int, .int], returnType := none }, accessFlags := 9, code := some k13c5 }
/-- java/lang/StringLatin1 -/
def k13 : Class := { plain "java/lang/StringLatin1" (some 0) with
  accessFlags := 48
  interfaces := #[]
  cf := some (fileOf pool13 14 #[.nestMembers #[390, 221]] #[{ accessFlags := 0, nameIndex := 7, descriptorIndex := 8, attributes := #[] }, { accessFlags := 9, nameIndex := 252, descriptorIndex := 53, attributes := #[] }, { accessFlags := 9, nameIndex := 90, descriptorIndex := 105, attributes := #[] }, { accessFlags := 9, nameIndex := 192, descriptorIndex := 268, attributes := #[] }, { accessFlags := 9, nameIndex := 17, descriptorIndex := 18, attributes := #[] }, { accessFlags := 9, nameIndex := 17, descriptorIndex := 27, attributes := #[] }] 48 4 #[] #[{ accessFlags := 4120, nameIndex := 121, descriptorIndex := 122, attributes := #[] }])
  fields := #[{ name := "$assertionsDisabled", type := .boolean, accessFlags := 4120, slot := 0, constantValue := 0 }]
  methods := #[k13m0, k13m1, k13m2, k13m3, k13m4, k13m5]
  instanceTypes := #[]
  staticTypes := #[.boolean]
  resolved := Array.replicate 395 none
  statics := none }

def pool14 : Array CpInfo := pool [(2, .class_ 4), (1, u "java/lang/Object"), (0, u "<init>"), (0, u "()V"), (7, .class_ 16), (1, u "java/util/Arrays"), (57, .class_ 76), (1, u "java/util/Arrays$NaturalOrder"), (32, u "()Ljava/lang/Object;"), (3, .class_ 115), (1, u "java/util/Arrays$LegacyMergeSort"), (1, u "Z"), (10, .nameAndType 129 109), (0, u "clone"), (9, u "copyOfRange"), (10, .methodref 151 152), (0, .class_ 153), (0, .nameAndType 154 155), (0, u "java/lang/System"), (0, u "arraycopy"), (0, u "(Ljava/lang/Object;ILjava/lang/Object;II)V"), (146, u "copyOf"), (1, .methodref 305 306), (0, .class_ 307), (0, .nameAndType 308 309), (0, u "java/lang/Math"), (0, u "min"), (0, u "(II)I"), (0, .methodref 311 128), (0, .class_ 312), (0, u "[B"), (26, .methodref 14 340), (0, .nameAndType 341 342), (0, u "copyOfRangeByte"), (0, u "([BII)[B"), (0, .methodref 14 344), (0, .nameAndType 345 346), (0, u "checkLength"), (0, u "(II)V"), (28, .class_ 376), (0, u "java/util/Arrays$ArrayList"), (68, u "$assertionsDisabled"), (269, u "MIN_ARRAY_SORT_GRAN"), (0, u "I"), (2, u "INSERTIONSORT_THRESHOLD"), (149, u "([BI)[B"), (105, .class_ 976), (0, u "java/util/Arrays$ArrayItr")] 52

def k14m0 : Method := { name := "<init>", desc := "()V", sig := { parameters := [], returnType := none }, accessFlags := 2, code := none }
def k14c1 : Code := { maxStack := 6, maxLocals := 3, code := jdk_65_method_121_code, exceptionTable := #[], attributes := #[] }
def k14m1 : Method := { name := "copyOf", desc := "([BI)[B", sig := { parameters := [(.array .byte), .int], returnType := some (.array .byte) }, accessFlags := 9, code := some k14c1 }
def k14c2 : Code := { maxStack := 4, maxLocals := 2, code := jdk_65_method_131_code, exceptionTable := #[], attributes := #[] }
def k14m2 : Method := { name := "checkLength", desc := "(II)V", sig := { parameters := [.int, .int], returnType := none }, accessFlags := 10, code := some k14c2 }
def k14c3 : Code := { maxStack := 3, maxLocals := 3, code := jdk_65_method_132_code, exceptionTable := #[], attributes := #[] }
def k14m3 : Method := { name := "copyOfRange", desc := "([BII)[B", sig := { parameters := [(.array .byte), .int, .int], returnType := some (.array .byte) }, accessFlags := 9, code := some k14c3 }
def k14c4 : Code := { maxStack := 6, maxLocals := 5, code := jdk_65_method_133_code, exceptionTable := #[], attributes := #[] }
def k14m4 : Method := { name := "copyOfRangeByte", desc := "([BII)[B", sig := { parameters := [(.array .byte), .int, .int], returnType := some (.array .byte) }, accessFlags := 10, code := some k14c4 }
/-- java/util/Arrays -/
def k14 : Class := { plain "java/util/Arrays" (some 0) with
  accessFlags := 49
  interfaces := #[]
  cf := some (fileOf pool14 14 #[.nestMembers #[975, 375, 113, 74]] #[{ accessFlags := 2, nameIndex := 5, descriptorIndex := 6, attributes := #[] }, { accessFlags := 9, nameIndex := 302, descriptorIndex := 869, attributes := #[] }, { accessFlags := 10, nameIndex := 345, descriptorIndex := 346, attributes := #[] }, { accessFlags := 9, nameIndex := 139, descriptorIndex := 342, attributes := #[] }, { accessFlags := 10, nameIndex := 341, descriptorIndex := 342, attributes := #[] }] 49 2 #[] #[{ accessFlags := 26, nameIndex := 715, descriptorIndex := 716, attributes := #[] }, { accessFlags := 26, nameIndex := 719, descriptorIndex := 716, attributes := #[] }, { accessFlags := 4120, nameIndex := 445, descriptorIndex := 117, attributes := #[] }])
  fields := #[{ name := "MIN_ARRAY_SORT_GRAN", type := .int, accessFlags := 26, slot := 0, constantValue := 0 }, { name := "INSERTIONSORT_THRESHOLD", type := .int, accessFlags := 26, slot := 1, constantValue := 0 }, { name := "$assertionsDisabled", type := .boolean, accessFlags := 4120, slot := 2, constantValue := 0 }]
  methods := #[k14m0, k14m1, k14m2, k14m3, k14m4]
  instanceTypes := #[]
  staticTypes := #[.int, .int, .boolean]
  resolved := Array.replicate 1029 none
  statics := none }

def pool15 : Array CpInfo := pool [(1, .class_ 2), (0, u "java/lang/Cloneable"), (0, .class_ 4), (0, u "java/lang/Object")] 2

/-- java/lang/Cloneable -/
def k15 : Class := { plain "java/lang/Cloneable" (some 0) with
  accessFlags := 1537
  interfaces := #[]
  cf := some (fileOf pool15 1 #[] #[] 1537 3 #[] #[])
  fields := #[]
  methods := #[]
  instanceTypes := #[]
  staticTypes := #[]
  resolved := Array.replicate 7 none
  statics := none }

def pool16 : Array CpInfo := pool [(2, .class_ 4), (1, u "java/lang/Object"), (0, u "<init>"), (0, u "()V"), (17, .class_ 26), (1, u "jdk/internal/util/Preconditions"), (6, u "checkIndex"), (15, u "checkFromIndexSize"), (5, .class_ 56), (0, u "jdk/internal/util/Preconditions$4"), (57, .class_ 115), (0, u "jdk/internal/util/Preconditions$1"), (7, u "SIOOBE_FORMATTER"), (0, u "Ljava/util/function/BiFunction;"), (0, .class_ 126), (0, u "jdk/internal/util/Preconditions$2"), (3, u "AIOOBE_FORMATTER"), (0, .class_ 132), (0, u "jdk/internal/util/Preconditions$3"), (3, u "IOOBE_FORMATTER"), (41, u "(IILjava/util/function/BiFunction;)I"), (4, u "(IIILjava/util/function/BiFunction;)I")] 10

def k16m0 : Method := { name := "<init>", desc := "()V", sig := { parameters := [], returnType := none }, accessFlags := 1, code := none }
def k16c1 : Code := { maxStack := 3, maxLocals := 3, code := jdk_41_method_11_code, exceptionTable := #[], attributes := #[] }
def k16m1 : Method := { name := "checkIndex", desc := "(IILjava/util/function/BiFunction;)I", sig := { parameters := [.int, .int, (.object "java/util/function/BiFunction")], returnType := some .int }, accessFlags := 9, code := some k16c1 }
def k16c2 : Code := { maxStack := 4, maxLocals := 4, code := jdk_41_method_13_code, exceptionTable := #[], attributes := #[] }
def k16m2 : Method := { name := "checkFromIndexSize", desc := "(IIILjava/util/function/BiFunction;)I", sig := { parameters := [.int, .int, .int, (.object "java/util/function/BiFunction")], returnType := some .int }, accessFlags := 9, code := some k16c2 }
/-- jdk/internal/util/Preconditions -/
def k16 : Class := { plain "jdk/internal/util/Preconditions" (some 0) with
  accessFlags := 33
  interfaces := #[]
  cf := some (fileOf pool16 24 #[.nestMembers #[55, 131, 125, 114]] #[{ accessFlags := 1, nameIndex := 5, descriptorIndex := 6, attributes := #[] }, { accessFlags := 9, nameIndex := 33, descriptorIndex := 178, attributes := #[] }, { accessFlags := 9, nameIndex := 49, descriptorIndex := 183, attributes := #[] }] 33 2 #[] #[{ accessFlags := 25, nameIndex := 123, descriptorIndex := 124, attributes := #[] }, { accessFlags := 25, nameIndex := 130, descriptorIndex := 124, attributes := #[] }, { accessFlags := 25, nameIndex := 136, descriptorIndex := 124, attributes := #[] }])
  fields := #[{ name := "SIOOBE_FORMATTER", type := (.object "java/util/function/BiFunction"), accessFlags := 25, slot := 0, constantValue := 0 }, { name := "AIOOBE_FORMATTER", type := (.object "java/util/function/BiFunction"), accessFlags := 25, slot := 1, constantValue := 0 }, { name := "IOOBE_FORMATTER", type := (.object "java/util/function/BiFunction"), accessFlags := 25, slot := 2, constantValue := 0 }]
  methods := #[k16m0, k16m1, k16m2]
  instanceTypes := #[]
  staticTypes := #[(.object "java/util/function/BiFunction"), (.object "java/util/function/BiFunction"), (.object "java/util/function/BiFunction")]
  resolved := Array.replicate 194 none
  statics := some 2 }

def pool17 : Array CpInfo := pool [(9, u "<init>"), (6, .class_ 18), (1, u "java/lang/Object"), (0, u "()V"), (1, .class_ 23), (1, u "jdk/internal/util/ArraysSupport"), (0, u "LOG2_ARRAY_LONG_INDEX_SCALE"), (0, u "I"), (2, u "U"), (0, u "Ljdk/internal/misc/Unsafe;"), (8, u "BIG_ENDIAN"), (0, u "Z"), (8, u "LOG2_BYTE_BIT_SIZE"), (4, u "LOG2_ARRAY_INT_INDEX_SCALE"), (54, u "JLA"), (0, u "Ljdk/internal/access/JavaLangAccess;"), (11, u "LOG2_ARRAY_BOOLEAN_INDEX_SCALE"), (9, u "LOG2_ARRAY_BYTE_INDEX_SCALE"), (5, u "LOG2_ARRAY_CHAR_INDEX_SCALE"), (5, u "LOG2_ARRAY_SHORT_INDEX_SCALE"), (18, u "LOG2_ARRAY_FLOAT_INDEX_SCALE"), (24, u "LOG2_ARRAY_DOUBLE_INDEX_SCALE"), (6, .methodref 195 196), (0, .class_ 197), (0, .nameAndType 198 199), (0, u "java/lang/Math"), (0, u "max"), (0, u "(II)I"), (0, .integer 2147483639), (76, u "T_BOOLEAN"), (2, u "T_CHAR"), (1, u "T_FLOAT"), (1, u "T_DOUBLE"), (1, u "T_BYTE"), (1, u "T_SHORT"), (1, u "T_INT"), (1, u "T_LONG"), (1, u "SOFT_MAX_ARRAY_LENGTH"), (56, u "newLength"), (0, u "(III)I")] 25

def k17m0 : Method := { name := "<init>", desc := "()V", sig := { parameters := [], returnType := none }, accessFlags := 2, code := none }
def k17c1 : Code := { maxStack := 3, maxLocals := 4, code := jdk_48_method_27_code, exceptionTable := #[], attributes := #[] }
def k17m1 : Method := { name := "newLength", desc := "(III)I", sig := { parameters := [.int, .int, .int], returnType := some .int }, accessFlags := 9, code := some k17c1 }
/-- jdk/internal/util/ArraysSupport -/
def k17 : Class := { plain "jdk/internal/util/ArraysSupport" (some 0) with
  accessFlags := 33
  interfaces := #[]
  cf := some (fileOf pool17 21 #[] #[{ accessFlags := 2, nameIndex := 9, descriptorIndex := 19, attributes := #[] }, { accessFlags := 9, nameIndex := 351, descriptorIndex := 352, attributes := #[] }] 33 16 #[] #[{ accessFlags := 24, nameIndex := 28, descriptorIndex := 29, attributes := #[] }, { accessFlags := 26, nameIndex := 38, descriptorIndex := 39, attributes := #[] }, { accessFlags := 25, nameIndex := 121, descriptorIndex := 25, attributes := #[] }, { accessFlags := 25, nameIndex := 131, descriptorIndex := 25, attributes := #[] }, { accessFlags := 25, nameIndex := 137, descriptorIndex := 25, attributes := #[] }, { accessFlags := 25, nameIndex := 143, descriptorIndex := 25, attributes := #[] }, { accessFlags := 25, nameIndex := 53, descriptorIndex := 25, attributes := #[] }, { accessFlags := 25, nameIndex := 24, descriptorIndex := 25, attributes := #[] }, { accessFlags := 25, nameIndex := 162, descriptorIndex := 25, attributes := #[] }, { accessFlags := 25, nameIndex := 187, descriptorIndex := 25, attributes := #[] }, { accessFlags := 26, nameIndex := 48, descriptorIndex := 25, attributes := #[] }, { accessFlags := 25, nameIndex := 277, descriptorIndex := 25, attributes := #[] }, { accessFlags := 25, nameIndex := 280, descriptorIndex := 25, attributes := #[] }, { accessFlags := 25, nameIndex := 282, descriptorIndex := 25, attributes := #[] }, { accessFlags := 25, nameIndex := 284, descriptorIndex := 25, attributes := #[] }, { accessFlags := 25, nameIndex := 286, descriptorIndex := 25, attributes := #[] }, { accessFlags := 25, nameIndex := 288, descriptorIndex := 25, attributes := #[] }, { accessFlags := 25, nameIndex := 290, descriptorIndex := 25, attributes := #[] }, { accessFlags := 25, nameIndex := 292, descriptorIndex := 25, attributes := #[] }, { accessFlags := 26, nameIndex := 108, descriptorIndex := 109, attributes := #[] }, { accessFlags := 25, nameIndex := 294, descriptorIndex := 25, attributes := #[] }])
  fields := #[{ name := "U", type := (.object "jdk/internal/misc/Unsafe"), accessFlags := 24, slot := 0, constantValue := 0 }, { name := "BIG_ENDIAN", type := .boolean, accessFlags := 26, slot := 1, constantValue := 0 }, { name := "LOG2_ARRAY_BOOLEAN_INDEX_SCALE", type := .int, accessFlags := 25, slot := 2, constantValue := 0 }, { name := "LOG2_ARRAY_BYTE_INDEX_SCALE", type := .int, accessFlags := 25, slot := 3, constantValue := 0 }, { name := "LOG2_ARRAY_CHAR_INDEX_SCALE", type := .int, accessFlags := 25, slot := 4, constantValue := 0 }, { name := "LOG2_ARRAY_SHORT_INDEX_SCALE", type := .int, accessFlags := 25, slot := 5, constantValue := 0 }, { name := "LOG2_ARRAY_INT_INDEX_SCALE", type := .int, accessFlags := 25, slot := 6, constantValue := 0 }, { name := "LOG2_ARRAY_LONG_INDEX_SCALE", type := .int, accessFlags := 25, slot := 7, constantValue := 0 }, { name := "LOG2_ARRAY_FLOAT_INDEX_SCALE", type := .int, accessFlags := 25, slot := 8, constantValue := 0 }, { name := "LOG2_ARRAY_DOUBLE_INDEX_SCALE", type := .int, accessFlags := 25, slot := 9, constantValue := 0 }, { name := "LOG2_BYTE_BIT_SIZE", type := .int, accessFlags := 26, slot := 10, constantValue := 0 }, { name := "T_BOOLEAN", type := .int, accessFlags := 25, slot := 11, constantValue := 0 }, { name := "T_CHAR", type := .int, accessFlags := 25, slot := 12, constantValue := 0 }, { name := "T_FLOAT", type := .int, accessFlags := 25, slot := 13, constantValue := 0 }, { name := "T_DOUBLE", type := .int, accessFlags := 25, slot := 14, constantValue := 0 }, { name := "T_BYTE", type := .int, accessFlags := 25, slot := 15, constantValue := 0 }, { name := "T_SHORT", type := .int, accessFlags := 25, slot := 16, constantValue := 0 }, { name := "T_INT", type := .int, accessFlags := 25, slot := 17, constantValue := 0 }, { name := "T_LONG", type := .int, accessFlags := 25, slot := 18, constantValue := 0 }, { name := "JLA", type := (.object "jdk/internal/access/JavaLangAccess"), accessFlags := 26, slot := 19, constantValue := 0 }, { name := "SOFT_MAX_ARRAY_LENGTH", type := .int, accessFlags := 25, slot := 20, constantValue := 0 }]
  methods := #[k17m0, k17m1]
  instanceTypes := #[]
  staticTypes := #[(.object "jdk/internal/misc/Unsafe"), .boolean, .int, .int, .int, .int, .int, .int, .int, .int, .int, .int, .int, .int, .int, .int, .int, .int, .int, (.object "jdk/internal/access/JavaLangAccess"), .int]
  resolved := Array.replicate 378 none
  statics := none }

def pool18 : Array CpInfo := pool [(1, .class_ 2), (0, u "java/lang/Math"), (1, .class_ 6), (1, u "java/lang/Object"), (0, u "<init>"), (0, u "()V"), (89, .class_ 100), (1, u "java/lang/Math$RandomNumberGeneratorHolder"), (71, u "negativeZeroFloatBits"), (0, u "J"), (2, u "negativeZeroDoubleBits"), (21, u "max"), (2, u "min"), (43, u "$assertionsDisabled"), (0, u "Z"), (88, u "(II)I"), (2, u "twoToTheDoubleScaleDown"), (0, u "D"), (4, u "twoToTheDoubleScaleUp"), (9, u "E"), (3, u "PI"), (2, u "TAU"), (2, u "DEGREES_TO_RADIANS"), (0, u "RADIANS_TO_DEGREES")] 94

def k18m0 : Method := { name := "<init>", desc := "()V", sig := { parameters := [], returnType := none }, accessFlags := 2, code := none }
def k18c1 : Code := { maxStack := 2, maxLocals := 2, code := jdk_29_method_65_code, exceptionTable := #[], attributes := #[] }
def k18m1 : Method := { name := "max", desc := "(II)I", sig := { parameters := [.int, .int], returnType := some .int }, accessFlags := 9, code := some k18c1 }
def k18c2 : Code := { maxStack := 2, maxLocals := 2, code := jdk_29_method_69_code, exceptionTable := #[], attributes := #[] }
def k18m2 : Method := { name := "min", desc := "(II)I", sig := { parameters := [.int, .int], returnType := some .int }, accessFlags := 9, code := some k18c2 }
/-- java/lang/Math -/
def k18 : Class := { plain "java/lang/Math" (some 0) with
  accessFlags := 49
  interfaces := #[]
  cf := some (fileOf pool18 1 #[.nestMembers #[98]] #[{ accessFlags := 2, nameIndex := 7, descriptorIndex := 8, attributes := #[] }, { accessFlags := 9, nameIndex := 198, descriptorIndex := 335, attributes := #[] }, { accessFlags := 9, nameIndex := 201, descriptorIndex := 335, attributes := #[] }] 49 4 #[] #[{ accessFlags := 25, nameIndex := 354, descriptorIndex := 339, attributes := #[] }, { accessFlags := 25, nameIndex := 358, descriptorIndex := 339, attributes := #[] }, { accessFlags := 25, nameIndex := 361, descriptorIndex := 339, attributes := #[] }, { accessFlags := 26, nameIndex := 364, descriptorIndex := 339, attributes := #[] }, { accessFlags := 26, nameIndex := 365, descriptorIndex := 339, attributes := #[] }, { accessFlags := 26, nameIndex := 172, descriptorIndex := 173, attributes := #[] }, { accessFlags := 26, nameIndex := 176, descriptorIndex := 173, attributes := #[] }, { accessFlags := 8, nameIndex := 344, descriptorIndex := 339, attributes := #[] }, { accessFlags := 8, nameIndex := 338, descriptorIndex := 339, attributes := #[] }, { accessFlags := 4120, nameIndex := 245, descriptorIndex := 246, attributes := #[] }])
  fields := #[{ name := "E", type := .double, accessFlags := 25, slot := 0, constantValue := 0 }, { name := "PI", type := .double, accessFlags := 25, slot := 1, constantValue := 0 }, { name := "TAU", type := .double, accessFlags := 25, slot := 2, constantValue := 0 }, { name := "DEGREES_TO_RADIANS", type := .double, accessFlags := 26, slot := 3, constantValue := 0 }, { name := "RADIANS_TO_DEGREES", type := .double, accessFlags := 26, slot := 4, constantValue := 0 }, { name := "negativeZeroFloatBits", type := .long, accessFlags := 26, slot := 5, constantValue := 0 }, { name := "negativeZeroDoubleBits", type := .long, accessFlags := 26, slot := 6, constantValue := 0 }, { name := "twoToTheDoubleScaleUp", type := .double, accessFlags := 8, slot := 7, constantValue := 0 }, { name := "twoToTheDoubleScaleDown", type := .double, accessFlags := 8, slot := 8, constantValue := 0 }, { name := "$assertionsDisabled", type := .boolean, accessFlags := 4120, slot := 9, constantValue := 0 }]
  methods := #[k18m0, k18m1, k18m2]
  instanceTypes := #[]
  staticTypes := #[.double, .double, .double, .double, .double, .long, .long, .double, .double, .boolean]
  resolved := Array.replicate 460 none
  statics := none }

def pool19 : Array CpInfo := pool [(2, .class_ 4), (1, u "java/lang/Object"), (0, u "<init>"), (0, u "()V"), (1, .class_ 10), (1, u "java/lang/System"), (0, u "allowSecurityManager"), (0, u "I"), (16, u "cons"), (0, u "Ljava/io/Console;"), (77, .class_ 110), (1, u "java/lang/System$CallersHolder"), (43, u "initialErrStream"), (0, u "Ljava/io/PrintStream;"), (19, u "security"), (0, u "Ljava/lang/SecurityManager;"), (31, .class_ 209), (0, u "java/lang/System$1"), (7, u "props"), (0, u "Ljava/util/Properties;"), (2, u "lineSeparator"), (0, u "Ljava/lang/String;"), (96, .class_ 321), (1, u "java/lang/System$LoggerFinder"), (5, .class_ 328), (0, u "java/lang/System$Logger"), (67, u "err"), (2, u "out"), (91, u "notSupportedJnuEncoding"), (15, u "in"), (17, u "initialIn"), (0, u "Ljava/io/InputStream;"), (35, u "bootLayer"), (0, u "Ljava/lang/ModuleLayer;"), (99, .class_ 664), (0, u "java/lang/System$2"), (9, u "NEVER"), (2, u "MAYBE"), (49, u "arraycopy"), (0, u "(Ljava/lang/Object;ILjava/lang/Object;II)V"), (72, .class_ 802), (0, u "java/lang/System$Logger$Level")] 31

def k19m0 : Method := { name := "<init>", desc := "()V", sig := { parameters := [], returnType := none }, accessFlags := 2, code := none }
def k19m1 : Method := { name := "arraycopy", desc := "(Ljava/lang/Object;ILjava/lang/Object;II)V", sig := { parameters := [(.object "java/lang/Object"), .int, (.object "java/lang/Object"), .int, .int], returnType := none }, accessFlags := 265, code := none }
/-- java/lang/System -/
def k19 : Class := { plain "java/lang/System" (some 0) with
  accessFlags := 49
  interfaces := #[]
  cf := some (fileOf pool19 8 #[.nestMembers #[319, 327, 801, 108, 663, 208]] #[{ accessFlags := 2, nameIndex := 5, descriptorIndex := 6, attributes := #[] }, { accessFlags := 265, nameIndex := 727, descriptorIndex := 728, attributes := #[] }] 49 2 #[] #[{ accessFlags := 25, nameIndex := 507, descriptorIndex := 526, attributes := #[] }, { accessFlags := 25, nameIndex := 399, descriptorIndex := 155, attributes := #[] }, { accessFlags := 25, nameIndex := 396, descriptorIndex := 155, attributes := #[] }, { accessFlags := 10, nameIndex := 525, descriptorIndex := 526, attributes := #[] }, { accessFlags := 26, nameIndex := 674, descriptorIndex := 12, attributes := #[] }, { accessFlags := 26, nameIndex := 677, descriptorIndex := 12, attributes := #[] }, { accessFlags := 10, nameIndex := 11, descriptorIndex := 12, attributes := #[] }, { accessFlags := 74, nameIndex := 175, descriptorIndex := 176, attributes := #[] }, { accessFlags := 10, nameIndex := 491, descriptorIndex := 222, attributes := #[] }, { accessFlags := 74, nameIndex := 29, descriptorIndex := 30, attributes := #[] }, { accessFlags := 74, nameIndex := 154, descriptorIndex := 155, attributes := #[] }, { accessFlags := 10, nameIndex := 217, descriptorIndex := 218, attributes := #[] }, { accessFlags := 10, nameIndex := 221, descriptorIndex := 222, attributes := #[] }, { accessFlags := 8, nameIndex := 562, descriptorIndex := 563, attributes := #[] }])
  fields := #[{ name := "in", type := (.object "java/io/InputStream"), accessFlags := 25, slot := 0, constantValue := 0 }, { name := "out", type := (.object "java/io/PrintStream"), accessFlags := 25, slot := 1, constantValue := 0 }, { name := "err", type := (.object "java/io/PrintStream"), accessFlags := 25, slot := 2, constantValue := 0 }, { name := "initialIn", type := (.object "java/io/InputStream"), accessFlags := 10, slot := 3, constantValue := 0 }, { name := "NEVER", type := .int, accessFlags := 26, slot := 4, constantValue := 0 }, { name := "MAYBE", type := .int, accessFlags := 26, slot := 5, constantValue := 0 }, { name := "allowSecurityManager", type := .int, accessFlags := 10, slot := 6, constantValue := 0 }, { name := "security", type := (.object "java/lang/SecurityManager"), accessFlags := 74, slot := 7, constantValue := 0 }, { name := "notSupportedJnuEncoding", type := (.object "java/lang/String"), accessFlags := 10, slot := 8, constantValue := 0 }, { name := "cons", type := (.object "java/io/Console"), accessFlags := 74, slot := 9, constantValue := 0 }, { name := "initialErrStream", type := (.object "java/io/PrintStream"), accessFlags := 74, slot := 10, constantValue := 0 }, { name := "props", type := (.object "java/util/Properties"), accessFlags := 10, slot := 11, constantValue := 0 }, { name := "lineSeparator", type := (.object "java/lang/String"), accessFlags := 10, slot := 12, constantValue := 0 }, { name := "bootLayer", type := (.object "java/lang/ModuleLayer"), accessFlags := 8, slot := 13, constantValue := 0 }]
  methods := #[k19m0, k19m1]
  instanceTypes := #[]
  staticTypes := #[(.object "java/io/InputStream"), (.object "java/io/PrintStream"), (.object "java/io/PrintStream"), (.object "java/io/InputStream"), .int, .int, .int, (.object "java/lang/SecurityManager"), (.object "java/lang/String"), (.object "java/io/Console"), (.object "java/io/PrintStream"), (.object "java/util/Properties"), (.object "java/lang/String"), (.object "java/lang/ModuleLayer")]
  resolved := Array.replicate 834 none
  statics := none }

/-- the primitive byte -/
def k20 : Class := { plain "byte" none with kind := .primitive 'B', accessFlags := 0x411 }
/-- [B -/
def k21 : Class := { plain "[B" (some 0) with kind := .array 20 .byte, interfaces := #[15, 2], accessFlags := 1041 }

/-- the primitive char -/
def k22 : Class := { plain "char" none with kind := .primitive 'C', accessFlags := 0x411 }
/-- [C -/
def k23 : Class := { plain "[C" (some 0) with kind := .array 22 .char, interfaces := #[15, 2], accessFlags := 1041 }

/-- the primitive int -/
def k24 : Class := { plain "int" none with kind := .primitive 'I', accessFlags := 0x411 }
/-- [I -/
def k25 : Class := { plain "[I" (some 0) with kind := .array 24 .int, interfaces := #[15, 2], accessFlags := 1041 }

def heap : Heap := #[{ cls := 7, slots := #[.long 0, .int 1, .null, .int 0, .null, .int 0, .int 0], vm := .statics 7 },
  { cls := 8, slots := #[.int 0, .int 8, .int 0, .int 1], vm := .statics 8 },
  { cls := 16, slots := #[.null, .null, .null], vm := .statics 16 }]
def classes : Array Class := #[k0, k1, k2, k3, k4, k5, k6, k7, k8, k9, k10, k11, k12, k13, k14, k15, k16, k17, k18, k19, k20, k21, k22, k23, k24, k25]
def interned : List (Array UInt16 × Addr) := []
def slotsUsed : Nat := 14
def theMethod : MethodId := ⟨1, 1⟩
def args0 : Array Value := #[.int 5, .int 5, .int 5, .int 5]
def aboutOver (below : List Frame) : State where
  vm := { classes := classes, interned := interned.toArray }
  heap := heap
  slotsUsed := slotsUsed
  threads := #[{ frames := .invoking theMethod args0 :: below }]
def below0 : List Frame := [.native { method := ⟨0, 0⟩, args := #[] }]
def about1 : State := aboutOver below0
def p0 : Program := .bare "" "" ""
def e0 : Env := launch0.env 0 0 0
theorem w_frames : about1.frames = Frame.invoking theMethod args0 :: below0 := rfl
set_option maxRecDepth 65536 in
theorem w_args : argsFit about1.vm theMethod args0 = true := by decide +kernel
set_option maxRecDepth 65536 in
theorem w_heap : heapFits about1 = true := by decide +kernel
set_option maxRecDepth 65536 in
theorem w_runnable : about1.curStatus? = some .runnable := by decide +kernel
set_option maxRecDepth 65536 in
theorem w_alone : about1.alone = true := by decide +kernel
set_option maxRecDepth 65536 in
theorem w_named : about1.methodNamed? x = some theMethod := by decide +kernel
set_option maxRecDepth 65536 in
theorem w_hears : about1.hears theMethod below0 = true := by decide +kernel
set_option maxRecDepth 65536 in
theorem w_ripe : about1.ripe theMethod args0 below0 = true := by decide +kernel
theorem w_running : about1.status = .running := rfl
set_option maxRecDepth 65536 in
theorem w_room : about1.hasRoom e0.platform room_1 = true :=
  launch0.hasRoom_least _ room_1 (by decide +kernel) (by decide +kernel) (by decide +kernel) (by decide +kernel) (by decide +kernel) (by decide +kernel)
theorem allAtoms_all (ts : List Jvm.Cond) (a : Array Jvm.Value) (st : Jvm.State) : (allAtoms ts).before a st = ts.all (fun c => c.before a st) := by
  induction ts with
  | nil => rfl
  | cons c t ih =>
    show (Jvm.Cond.and c (allAtoms t)).before a st = _
    rw [Jvm.Cond.before_and, ih, List.all_cons]
def words1 : List Jvm.Cond := Jvm.Cond.code x code maxLocals ret :: tables_1
/-- a 'code' word, met by the world's own term for the bytes: nothing is compared byte by byte -/
theorem code_word {y : MethodName} {bytes : ByteArray} {mx : Nat} {rt : Option FieldType} {a : Array Value} {s : State} {m : MethodId} {meth : Method} {c : Code} (h1 : s.methodNamed? y = some m) (h2 : s.vm.method? m = some meth) (h3 : meth.code = some c) (h4 : c.code = bytes)
    (h5 : (c.maxLocals == mx && c.exceptionTable.isEmpty && decide (c.maxStack ≤ mostOperands) && decide (meth.sig.returnType = rt) && !meth.locks && decide (parseMethodDescriptor y.desc = some meth.sig)) = true) : (Jvm.Cond.code y bytes mx rt).before a s = true := by
  simp only [Bool.and_eq_true, beq_iff_eq, Bool.not_eq_true', decide_eq_true_eq] at h5
  obtain ⟨⟨⟨⟨⟨g1, g2⟩, g3⟩, g4⟩, g5⟩, g6⟩ := h5
  simp [Cond.before, Cond.holds, Cond.value, h1, h2, h3, h4, g1, g2, g3, g4, g5, g6]
def isCode : Jvm.Cond → Bool
  | .code _ _ _ _ => true
  | _ => false
theorem all_split {L : List Jvm.Cond} {P : Jvm.Cond → Bool} (h1 : L.all (fun c => isCode c || P c) = true) (h2 : ∀ c ∈ L.filter isCode, P c = true) : L.all P = true := by
  refine List.all_eq_true.mpr fun c hc => ?_
  have h := List.all_eq_true.mp h1 c hc
  rcases Bool.eq_false_or_eq_true (isCode c) with hi | hi
  · exact h2 c (List.mem_filter.mpr ⟨hc, hi⟩)
  · simpa [hi] using h
set_option maxRecDepth 65536 in
theorem w_c0 : (Jvm.Cond.code x code maxLocals ret).before args0 about1 = true := code_word (m := ⟨1, 1⟩) (meth := k1m1) (c := k1c1) (by decide +kernel) rfl rfl rfl (by decide +kernel)
set_option maxRecDepth 65536 in
theorem w_c1 : (Jvm.Cond.code ({ cls := "java/lang/String", name := "<init>", desc := "([C)V" } : Jvm.MethodName) jdk_42_method_3_code (2 : Nat) (Option.none : Option Jvm.ClassFile.FieldType)).before args0 about1 = true := code_word (m := ⟨7, 1⟩) (meth := k7m1) (c := k7c1) (by decide +kernel) rfl rfl rfl (by decide +kernel)
set_option maxRecDepth 65536 in
theorem w_c2 : (Jvm.Cond.code ({ cls := "java/lang/String", name := "<init>", desc := "([CIILjava/lang/Void;)V" } : Jvm.MethodName) jdk_42_method_149_code (6 : Nat) (Option.none : Option Jvm.ClassFile.FieldType)).before args0 about1 = true := code_word (m := ⟨7, 6⟩) (meth := k7m6) (c := k7c6) (by decide +kernel) rfl rfl rfl (by decide +kernel)
set_option maxRecDepth 65536 in
theorem w_c3 : (Jvm.Cond.code ({ cls := "java/lang/Object", name := "<init>", desc := "()V" } : Jvm.MethodName) object_method_1_code (1 : Nat) (Option.none : Option Jvm.ClassFile.FieldType)).before args0 about1 = true := code_word (m := ⟨0, 0⟩) (meth := k0m0) (c := k0c0) (by decide +kernel) rfl rfl rfl (by decide +kernel)
set_option maxRecDepth 65536 in
theorem w_c4 : (Jvm.Cond.code ({ cls := "java/lang/StringUTF16", name := "compress", desc := "([CII)[B" } : Jvm.MethodName) jdk_52_method_16_code (6 : Nat) (Option.some (Jvm.ClassFile.FieldType.array Jvm.ClassFile.FieldType.byte))).before args0 about1 = true := code_word (m := ⟨8, 9⟩) (meth := k8m9) (c := k8c9) (by decide +kernel) rfl rfl rfl (by decide +kernel)
set_option maxRecDepth 65536 in
theorem w_c5 : (Jvm.Cond.code ({ cls := "java/lang/StringUTF16", name := "compress", desc := "([CI[BII)I" } : Jvm.MethodName) jdk_52_method_21_code (7 : Nat) (Option.some Jvm.ClassFile.FieldType.int)).before args0 about1 = true := code_word (m := ⟨8, 10⟩) (meth := k8m10) (c := k8c10) (by decide +kernel) rfl rfl rfl (by decide +kernel)
set_option maxRecDepth 65536 in
theorem w_c6 : (Jvm.Cond.code ({ cls := "java/lang/StringUTF16", name := "coderFromArrayLen", desc := "([BI)B" } : Jvm.MethodName) jdk_52_method_15_code (2 : Nat) (Option.some Jvm.ClassFile.FieldType.byte)).before args0 about1 = true := code_word (m := ⟨8, 8⟩) (meth := k8m8) (c := k8c8) (by decide +kernel) rfl rfl rfl (by decide +kernel)
set_option maxRecDepth 65536 in
theorem w_c7 : (Jvm.Cond.code ({ cls := "com/example/wary_validator/waryvalidator/messageinterpolation/MessageTemplates", name := "escape", desc := "(Ljava/lang/String;)Ljava/lang/String;" } : Jvm.MethodName) prog_23_method_6_code (6 : Nat) (Option.some (Jvm.ClassFile.FieldType.object "java/lang/String"))).before args0 about1 = true := code_word (m := ⟨9, 1⟩) (meth := k9m1) (c := k9c1) (by decide +kernel) rfl rfl rfl (by decide +kernel)
set_option maxRecDepth 65536 in
theorem w_c8 : (Jvm.Cond.code ({ cls := "java/lang/String", name := "length", desc := "()I" } : Jvm.MethodName) jdk_42_method_54_code (1 : Nat) (Option.some Jvm.ClassFile.FieldType.int)).before args0 about1 = true := code_word (m := ⟨7, 3⟩) (meth := k7m3) (c := k7c3) (by decide +kernel) rfl rfl rfl (by decide +kernel)
set_option maxRecDepth 65536 in
theorem w_c9 : (Jvm.Cond.code ({ cls := "java/lang/String", name := "coder", desc := "()B" } : Jvm.MethodName) jdk_42_method_152_code (1 : Nat) (Option.some Jvm.ClassFile.FieldType.byte)).before args0 about1 = true := code_word (m := ⟨7, 8⟩) (meth := k7m8) (c := k7c8) (by decide +kernel) rfl rfl rfl (by decide +kernel)
set_option maxRecDepth 65536 in
theorem w_c10 : (Jvm.Cond.code ({ cls := "java/lang/StringBuilder", name := "<init>", desc := "(I)V" } : Jvm.MethodName) jdk_67_method_2_code (2 : Nat) (Option.none : Option Jvm.ClassFile.FieldType)).before args0 about1 = true := code_word (m := ⟨12, 1⟩) (meth := k12m1) (c := k12c1) (by decide +kernel) rfl rfl rfl (by decide +kernel)
set_option maxRecDepth 65536 in
theorem w_c11 : (Jvm.Cond.code ({ cls := "java/lang/AbstractStringBuilder", name := "<init>", desc := "(I)V" } : Jvm.MethodName) jdk_68_method_2_code (2 : Nat) (Option.none : Option Jvm.ClassFile.FieldType)).before args0 about1 = true := code_word (m := ⟨11, 1⟩) (meth := k11m1) (c := k11c1) (by decide +kernel) rfl rfl rfl (by decide +kernel)
set_option maxRecDepth 65536 in
theorem w_c12 : (Jvm.Cond.code ({ cls := "java/lang/String", name := "toCharArray", desc := "()[C" } : Jvm.MethodName) jdk_42_method_129_code (1 : Nat) (Option.some (Jvm.ClassFile.FieldType.array Jvm.ClassFile.FieldType.char))).before args0 about1 = true := code_word (m := ⟨7, 5⟩) (meth := k7m5) (c := k7c5) (by decide +kernel) rfl rfl rfl (by decide +kernel)
set_option maxRecDepth 65536 in
theorem w_c13 : (Jvm.Cond.code ({ cls := "java/lang/String", name := "isLatin1", desc := "()Z" } : Jvm.MethodName) jdk_42_method_154_code (1 : Nat) (Option.some Jvm.ClassFile.FieldType.boolean)).before args0 about1 = true := code_word (m := ⟨7, 9⟩) (meth := k7m9) (c := k7c9) (by decide +kernel) rfl rfl rfl (by decide +kernel)
set_option maxRecDepth 65536 in
theorem w_c14 : (Jvm.Cond.code ({ cls := "java/lang/StringLatin1", name := "toChars", desc := "([B)[C" } : Jvm.MethodName) jdk_43_method_9_code (2 : Nat) (Option.some (Jvm.ClassFile.FieldType.array Jvm.ClassFile.FieldType.char))).before args0 about1 = true := code_word (m := ⟨13, 3⟩) (meth := k13m3) (c := k13c3) (by decide +kernel) rfl rfl rfl (by decide +kernel)
set_option maxRecDepth 65536 in
theorem w_c15 : (Jvm.Cond.code ({ cls := "java/lang/StringLatin1", name := "inflate", desc := "([BI[CII)V" } : Jvm.MethodName) jdk_43_method_49_code (6 : Nat) (Option.none : Option Jvm.ClassFile.FieldType)).before args0 about1 = true := code_word (m := ⟨13, 4⟩) (meth := k13m4) (c := k13c4) (by decide +kernel) rfl rfl rfl (by decide +kernel)
set_option maxRecDepth 65536 in
theorem w_c16 : (Jvm.Cond.code ({ cls := "java/lang/StringBuilder", name := "append", desc := "(C)Ljava/lang/StringBuilder;" } : Jvm.MethodName) jdk_67_method_14_code (2 : Nat) (Option.some (Jvm.ClassFile.FieldType.object "java/lang/StringBuilder"))).before args0 about1 = true := code_word (m := ⟨12, 2⟩) (meth := k12m2) (c := k12c2) (by decide +kernel) rfl rfl rfl (by decide +kernel)
set_option maxRecDepth 65536 in
theorem w_c17 : (Jvm.Cond.code ({ cls := "java/lang/AbstractStringBuilder", name := "append", desc := "(C)Ljava/lang/AbstractStringBuilder;" } : Jvm.MethodName) jdk_68_method_31_code (2 : Nat) (Option.some (Jvm.ClassFile.FieldType.object "java/lang/AbstractStringBuilder"))).before args0 about1 = true := code_word (m := ⟨11, 6⟩) (meth := k11m6) (c := k11c6) (by decide +kernel) rfl rfl rfl (by decide +kernel)
set_option maxRecDepth 65536 in
theorem w_c18 : (Jvm.Cond.code ({ cls := "java/lang/AbstractStringBuilder", name := "ensureCapacityInternal", desc := "(I)V" } : Jvm.MethodName) jdk_68_method_9_code (3 : Nat) (Option.none : Option Jvm.ClassFile.FieldType)).before args0 about1 = true := code_word (m := ⟨11, 3⟩) (meth := k11m3) (c := k11c3) (by decide +kernel) rfl rfl rfl (by decide +kernel)
set_option maxRecDepth 65536 in
theorem w_c19 : (Jvm.Cond.code ({ cls := "java/lang/AbstractStringBuilder", name := "isLatin1", desc := "()Z" } : Jvm.MethodName) jdk_68_method_68_code (1 : Nat) (Option.some Jvm.ClassFile.FieldType.boolean)).before args0 about1 = true := code_word (m := ⟨11, 8⟩) (meth := k11m8) (c := k11c8) (by decide +kernel) rfl rfl rfl (by decide +kernel)
set_option maxRecDepth 65536 in
theorem w_c20 : (Jvm.Cond.code ({ cls := "java/lang/StringLatin1", name := "canEncode", desc := "(C)Z" } : Jvm.MethodName) jdk_43_method_3_code (1 : Nat) (Option.some Jvm.ClassFile.FieldType.boolean)).before args0 about1 = true := code_word (m := ⟨13, 2⟩) (meth := k13m2) (c := k13c2) (by decide +kernel) rfl rfl rfl (by decide +kernel)
set_option maxRecDepth 65536 in
theorem w_c21 : (Jvm.Cond.code ({ cls := "java/lang/StringBuilder", name := "toString", desc := "()Ljava/lang/String;" } : Jvm.MethodName) jdk_67_method_42_code (1 : Nat) (Option.some (Jvm.ClassFile.FieldType.object "java/lang/String"))).before args0 about1 = true := code_word (m := ⟨12, 3⟩) (meth := k12m3) (c := k12c3) (by decide +kernel) rfl rfl rfl (by decide +kernel)
set_option maxRecDepth 65536 in
theorem w_c22 : (Jvm.Cond.code ({ cls := "java/lang/String", name := "<init>", desc := "(Ljava/lang/StringBuilder;)V" } : Jvm.MethodName) jdk_42_method_53_code (2 : Nat) (Option.none : Option Jvm.ClassFile.FieldType)).before args0 about1 = true := code_word (m := ⟨7, 2⟩) (meth := k7m2) (c := k7c2) (by decide +kernel) rfl rfl rfl (by decide +kernel)
set_option maxRecDepth 65536 in
theorem w_c23 : (Jvm.Cond.code ({ cls := "java/lang/String", name := "<init>", desc := "(Ljava/lang/AbstractStringBuilder;Ljava/lang/Void;)V" } : Jvm.MethodName) jdk_42_method_150_code (5 : Nat) (Option.none : Option Jvm.ClassFile.FieldType)).before args0 about1 = true := code_word (m := ⟨7, 7⟩) (meth := k7m7) (c := k7c7) (by decide +kernel) rfl rfl rfl (by decide +kernel)
set_option maxRecDepth 65536 in
theorem w_c24 : (Jvm.Cond.code ({ cls := "java/lang/AbstractStringBuilder", name := "getValue", desc := "()[B" } : Jvm.MethodName) jdk_68_method_64_code (1 : Nat) (Option.some (Jvm.ClassFile.FieldType.array Jvm.ClassFile.FieldType.byte))).before args0 about1 = true := code_word (m := ⟨11, 7⟩) (meth := k11m7) (c := k11c7) (by decide +kernel) rfl rfl rfl (by decide +kernel)
set_option maxRecDepth 65536 in
theorem w_c25 : (Jvm.Cond.code ({ cls := "java/lang/StringBuilder", name := "length", desc := "()I" } : Jvm.MethodName) jdk_67_method_93_code (1 : Nat) (Option.some Jvm.ClassFile.FieldType.int)).before args0 about1 = true := code_word (m := ⟨12, 4⟩) (meth := k12m4) (c := k12c4) (by decide +kernel) rfl rfl rfl (by decide +kernel)
set_option maxRecDepth 65536 in
theorem w_c26 : (Jvm.Cond.code ({ cls := "java/lang/AbstractStringBuilder", name := "length", desc := "()I" } : Jvm.MethodName) jdk_68_method_6_code (1 : Nat) (Option.some Jvm.ClassFile.FieldType.int)).before args0 about1 = true := code_word (m := ⟨11, 2⟩) (meth := k11m2) (c := k11c2) (by decide +kernel) rfl rfl rfl (by decide +kernel)
set_option maxRecDepth 65536 in
theorem w_c27 : (Jvm.Cond.code ({ cls := "java/util/Arrays", name := "copyOfRange", desc := "([BII)[B" } : Jvm.MethodName) jdk_65_method_132_code (3 : Nat) (Option.some (Jvm.ClassFile.FieldType.array Jvm.ClassFile.FieldType.byte))).before args0 about1 = true := code_word (m := ⟨14, 3⟩) (meth := k14m3) (c := k14c3) (by decide +kernel) rfl rfl rfl (by decide +kernel)
set_option maxRecDepth 65536 in
theorem w_c28 : (Jvm.Cond.code ({ cls := "com/example/wary_validator/waryvalidator/messageinterpolation/MessageTemplatesEscapePinLaw", name := "put", desc := "([CIC)I" } : Jvm.MethodName) method_4_code (4 : Nat) (Option.some Jvm.ClassFile.FieldType.int)).before args0 about1 = true := code_word (m := ⟨1, 3⟩) (meth := k1m3) (c := k1c3) (by decide +kernel) rfl rfl rfl (by decide +kernel)
set_option maxRecDepth 65536 in
theorem w_c29 : (Jvm.Cond.code ({ cls := "com/example/wary_validator/waryvalidator/messageinterpolation/MessageTemplatesEscapePinLaw", name := "special", desc := "(C)Z" } : Jvm.MethodName) method_3_code (1 : Nat) (Option.some Jvm.ClassFile.FieldType.boolean)).before args0 about1 = true := code_word (m := ⟨1, 2⟩) (meth := k1m2) (c := k1c2) (by decide +kernel) rfl rfl rfl (by decide +kernel)
set_option maxRecDepth 65536 in
theorem w_c30 : (Jvm.Cond.code ({ cls := "com/example/wary_validator/waryvalidator/messageinterpolation/MessageTemplatesEscapePinLaw", name := "at", desc := "(Ljava/lang/String;[CII)Z" } : Jvm.MethodName) method_5_code (4 : Nat) (Option.some Jvm.ClassFile.FieldType.boolean)).before args0 about1 = true := code_word (m := ⟨1, 4⟩) (meth := k1m4) (c := k1c4) (by decide +kernel) rfl rfl rfl (by decide +kernel)
set_option maxRecDepth 65536 in
theorem w_c31 : (Jvm.Cond.code ({ cls := "java/lang/String", name := "charAt", desc := "(I)C" } : Jvm.MethodName) jdk_42_method_56_code (2 : Nat) (Option.some Jvm.ClassFile.FieldType.char)).before args0 about1 = true := code_word (m := ⟨7, 4⟩) (meth := k7m4) (c := k7c4) (by decide +kernel) rfl rfl rfl (by decide +kernel)
set_option maxRecDepth 65536 in
theorem w_c32 : (Jvm.Cond.code ({ cls := "java/lang/StringLatin1", name := "charAt", desc := "([BI)C" } : Jvm.MethodName) jdk_43_method_2_code (2 : Nat) (Option.some Jvm.ClassFile.FieldType.char)).before args0 about1 = true := code_word (m := ⟨13, 1⟩) (meth := k13m1) (c := k13c1) (by decide +kernel) rfl rfl rfl (by decide +kernel)
set_option maxRecDepth 65536 in
theorem w_c33 : (Jvm.Cond.code ({ cls := "java/lang/String", name := "checkIndex", desc := "(II)V" } : Jvm.MethodName) jdk_42_method_155_code (2 : Nat) (Option.none : Option Jvm.ClassFile.FieldType)).before args0 about1 = true := code_word (m := ⟨7, 10⟩) (meth := k7m10) (c := k7c10) (by decide +kernel) rfl rfl rfl (by decide +kernel)
set_option maxRecDepth 65536 in
theorem w_c34 : (Jvm.Cond.code ({ cls := "jdk/internal/util/Preconditions", name := "checkIndex", desc := "(IILjava/util/function/BiFunction;)I" } : Jvm.MethodName) jdk_41_method_11_code (3 : Nat) (Option.some Jvm.ClassFile.FieldType.int)).before args0 about1 = true := code_word (m := ⟨16, 1⟩) (meth := k16m1) (c := k16c1) (by decide +kernel) rfl rfl rfl (by decide +kernel)
set_option maxRecDepth 65536 in
theorem w_c35 : (Jvm.Cond.code ({ cls := "java/lang/StringUTF16", name := "toBytes", desc := "([CII)[B" } : Jvm.MethodName) jdk_52_method_14_code (5 : Nat) (Option.some (Jvm.ClassFile.FieldType.array Jvm.ClassFile.FieldType.byte))).before args0 about1 = true := code_word (m := ⟨8, 7⟩) (meth := k8m7) (c := k8c7) (by decide +kernel) rfl rfl rfl (by decide +kernel)
set_option maxRecDepth 65536 in
theorem w_c36 : (Jvm.Cond.code ({ cls := "java/lang/StringUTF16", name := "newBytesFor", desc := "(I)[B" } : Jvm.MethodName) jdk_52_method_2_code (1 : Nat) (Option.some (Jvm.ClassFile.FieldType.array Jvm.ClassFile.FieldType.byte))).before args0 about1 = true := code_word (m := ⟨8, 1⟩) (meth := k8m1) (c := k8c1) (by decide +kernel) rfl rfl rfl (by decide +kernel)
set_option maxRecDepth 65536 in
theorem w_c37 : (Jvm.Cond.code ({ cls := "java/lang/StringUTF16", name := "newBytesLength", desc := "(I)I" } : Jvm.MethodName) jdk_52_method_3_code (1 : Nat) (Option.some Jvm.ClassFile.FieldType.int)).before args0 about1 = true := code_word (m := ⟨8, 2⟩) (meth := k8m2) (c := k8c2) (by decide +kernel) rfl rfl rfl (by decide +kernel)
set_option maxRecDepth 65536 in
theorem w_c38 : (Jvm.Cond.code ({ cls := "java/lang/StringUTF16", name := "putChar", desc := "([BII)V" } : Jvm.MethodName) jdk_52_method_4_code (3 : Nat) (Option.none : Option Jvm.ClassFile.FieldType)).before args0 about1 = true := code_word (m := ⟨8, 3⟩) (meth := k8m3) (c := k8c3) (by decide +kernel) rfl rfl rfl (by decide +kernel)
set_option maxRecDepth 65536 in
theorem w_c39 : (Jvm.Cond.code ({ cls := "java/lang/StringUTF16", name := "getChar", desc := "([BI)C" } : Jvm.MethodName) jdk_52_method_5_code (2 : Nat) (Option.some Jvm.ClassFile.FieldType.char)).before args0 about1 = true := code_word (m := ⟨8, 4⟩) (meth := k8m4) (c := k8c4) (by decide +kernel) rfl rfl rfl (by decide +kernel)
set_option maxRecDepth 65536 in
theorem w_c40 : (Jvm.Cond.code ({ cls := "java/lang/StringUTF16", name := "toChars", desc := "([B)[C" } : Jvm.MethodName) jdk_52_method_13_code (2 : Nat) (Option.some (Jvm.ClassFile.FieldType.array Jvm.ClassFile.FieldType.char))).before args0 about1 = true := code_word (m := ⟨8, 6⟩) (meth := k8m6) (c := k8c6) (by decide +kernel) rfl rfl rfl (by decide +kernel)
set_option maxRecDepth 65536 in
theorem w_c41 : (Jvm.Cond.code ({ cls := "java/lang/StringUTF16", name := "getChars", desc := "([BII[CI)V" } : Jvm.MethodName) jdk_52_method_26_code (6 : Nat) (Option.none : Option Jvm.ClassFile.FieldType)).before args0 about1 = true := code_word (m := ⟨8, 11⟩) (meth := k8m11) (c := k8c11) (by decide +kernel) rfl rfl rfl (by decide +kernel)
set_option maxRecDepth 65536 in
theorem w_c42 : (Jvm.Cond.code ({ cls := "java/lang/StringUTF16", name := "checkBoundsOffCount", desc := "(II[B)V" } : Jvm.MethodName) jdk_52_method_94_code (3 : Nat) (Option.none : Option Jvm.ClassFile.FieldType)).before args0 about1 = true := code_word (m := ⟨8, 16⟩) (meth := k8m16) (c := k8c16) (by decide +kernel) rfl rfl rfl (by decide +kernel)
set_option maxRecDepth 65536 in
theorem w_c43 : (Jvm.Cond.code ({ cls := "java/lang/StringUTF16", name := "length", desc := "([B)I" } : Jvm.MethodName) jdk_52_method_6_code (1 : Nat) (Option.some Jvm.ClassFile.FieldType.int)).before args0 about1 = true := code_word (m := ⟨8, 5⟩) (meth := k8m5) (c := k8c5) (by decide +kernel) rfl rfl rfl (by decide +kernel)
set_option maxRecDepth 65536 in
theorem w_c44 : (Jvm.Cond.code ({ cls := "java/lang/String", name := "checkBoundsOffCount", desc := "(III)I" } : Jvm.MethodName) jdk_42_method_157_code (3 : Nat) (Option.some Jvm.ClassFile.FieldType.int)).before args0 about1 = true := code_word (m := ⟨7, 11⟩) (meth := k7m11) (c := k7c11) (by decide +kernel) rfl rfl rfl (by decide +kernel)
set_option maxRecDepth 65536 in
theorem w_c45 : (Jvm.Cond.code ({ cls := "jdk/internal/util/Preconditions", name := "checkFromIndexSize", desc := "(IIILjava/util/function/BiFunction;)I" } : Jvm.MethodName) jdk_41_method_13_code (4 : Nat) (Option.some Jvm.ClassFile.FieldType.int)).before args0 about1 = true := code_word (m := ⟨16, 2⟩) (meth := k16m2) (c := k16c2) (by decide +kernel) rfl rfl rfl (by decide +kernel)
set_option maxRecDepth 65536 in
theorem w_c46 : (Jvm.Cond.code ({ cls := "java/lang/AbstractStringBuilder", name := "inflate", desc := "()V" } : Jvm.MethodName) jdk_68_method_11_code (2 : Nat) (Option.none : Option Jvm.ClassFile.FieldType)).before args0 about1 = true := code_word (m := ⟨11, 5⟩) (meth := k11m5) (c := k11c5) (by decide +kernel) rfl rfl rfl (by decide +kernel)
set_option maxRecDepth 65536 in
theorem w_c47 : (Jvm.Cond.code ({ cls := "java/lang/StringLatin1", name := "inflate", desc := "([BI[BII)V" } : Jvm.MethodName) jdk_43_method_50_code (5 : Nat) (Option.none : Option Jvm.ClassFile.FieldType)).before args0 about1 = true := code_word (m := ⟨13, 5⟩) (meth := k13m5) (c := k13c5) (by decide +kernel) rfl rfl rfl (by decide +kernel)
set_option maxRecDepth 65536 in
theorem w_c48 : (Jvm.Cond.code ({ cls := "java/lang/StringUTF16", name := "inflate", desc := "([BI[BII)V" } : Jvm.MethodName) jdk_52_method_86_code (6 : Nat) (Option.none : Option Jvm.ClassFile.FieldType)).before args0 about1 = true := code_word (m := ⟨8, 14⟩) (meth := k8m14) (c := k8c14) (by decide +kernel) rfl rfl rfl (by decide +kernel)
set_option maxRecDepth 65536 in
theorem w_c49 : (Jvm.Cond.code ({ cls := "java/lang/StringUTF16", name := "putCharSB", desc := "([BII)V" } : Jvm.MethodName) jdk_52_method_71_code (3 : Nat) (Option.none : Option Jvm.ClassFile.FieldType)).before args0 about1 = true := code_word (m := ⟨8, 12⟩) (meth := k8m12) (c := k8c12) (by decide +kernel) rfl rfl rfl (by decide +kernel)
set_option maxRecDepth 65536 in
theorem w_c50 : (Jvm.Cond.code ({ cls := "java/lang/StringUTF16", name := "checkIndex", desc := "(I[B)V" } : Jvm.MethodName) jdk_52_method_91_code (2 : Nat) (Option.none : Option Jvm.ClassFile.FieldType)).before args0 about1 = true := code_word (m := ⟨8, 15⟩) (meth := k8m15) (c := k8c15) (by decide +kernel) rfl rfl rfl (by decide +kernel)
set_option maxRecDepth 65536 in
theorem w_c51 : (Jvm.Cond.code ({ cls := "java/lang/StringUTF16", name := "charAt", desc := "([BI)C" } : Jvm.MethodName) jdk_52_method_83_code (2 : Nat) (Option.some Jvm.ClassFile.FieldType.char)).before args0 about1 = true := code_word (m := ⟨8, 13⟩) (meth := k8m13) (c := k8c13) (by decide +kernel) rfl rfl rfl (by decide +kernel)
set_option maxRecDepth 65536 in
theorem w_c52 : (Jvm.Cond.code ({ cls := "java/lang/AbstractStringBuilder", name := "newCapacity", desc := "(I)I" } : Jvm.MethodName) jdk_68_method_10_code (6 : Nat) (Option.some Jvm.ClassFile.FieldType.int)).before args0 about1 = true := code_word (m := ⟨11, 4⟩) (meth := k11m4) (c := k11c4) (by decide +kernel) rfl rfl rfl (by decide +kernel)
set_option maxRecDepth 65536 in
theorem w_c53 : (Jvm.Cond.code ({ cls := "jdk/internal/util/ArraysSupport", name := "newLength", desc := "(III)I" } : Jvm.MethodName) jdk_48_method_27_code (4 : Nat) (Option.some Jvm.ClassFile.FieldType.int)).before args0 about1 = true := code_word (m := ⟨17, 1⟩) (meth := k17m1) (c := k17c1) (by decide +kernel) rfl rfl rfl (by decide +kernel)
set_option maxRecDepth 65536 in
theorem w_c54 : (Jvm.Cond.code ({ cls := "java/lang/Math", name := "max", desc := "(II)I" } : Jvm.MethodName) jdk_29_method_65_code (2 : Nat) (Option.some Jvm.ClassFile.FieldType.int)).before args0 about1 = true := code_word (m := ⟨18, 1⟩) (meth := k18m1) (c := k18c1) (by decide +kernel) rfl rfl rfl (by decide +kernel)
set_option maxRecDepth 65536 in
theorem w_c55 : (Jvm.Cond.code ({ cls := "java/util/Arrays", name := "copyOf", desc := "([BI)[B" } : Jvm.MethodName) jdk_65_method_121_code (3 : Nat) (Option.some (Jvm.ClassFile.FieldType.array Jvm.ClassFile.FieldType.byte))).before args0 about1 = true := code_word (m := ⟨14, 1⟩) (meth := k14m1) (c := k14c1) (by decide +kernel) rfl rfl rfl (by decide +kernel)
set_option maxRecDepth 65536 in
theorem w_c56 : (Jvm.Cond.code ({ cls := "java/lang/Math", name := "min", desc := "(II)I" } : Jvm.MethodName) jdk_29_method_69_code (2 : Nat) (Option.some Jvm.ClassFile.FieldType.int)).before args0 about1 = true := code_word (m := ⟨18, 2⟩) (meth := k18m2) (c := k18c2) (by decide +kernel) rfl rfl rfl (by decide +kernel)
set_option maxRecDepth 65536 in
theorem w_c57 : (Jvm.Cond.code ({ cls := "java/util/Arrays", name := "copyOfRangeByte", desc := "([BII)[B" } : Jvm.MethodName) jdk_65_method_133_code (5 : Nat) (Option.some (Jvm.ClassFile.FieldType.array Jvm.ClassFile.FieldType.byte))).before args0 about1 = true := code_word (m := ⟨14, 4⟩) (meth := k14m4) (c := k14c4) (by decide +kernel) rfl rfl rfl (by decide +kernel)
set_option maxRecDepth 65536 in
theorem w_c58 : (Jvm.Cond.code ({ cls := "java/util/Arrays", name := "checkLength", desc := "(II)V" } : Jvm.MethodName) jdk_65_method_131_code (2 : Nat) (Option.none : Option Jvm.ClassFile.FieldType)).before args0 about1 = true := code_word (m := ⟨14, 2⟩) (meth := k14m2) (c := k14c2) (by decide +kernel) rfl rfl rfl (by decide +kernel)
def codes1 : List Jvm.Cond := [Jvm.Cond.code x code maxLocals ret, Jvm.Cond.code ({ cls := "java/lang/String", name := "<init>", desc := "([C)V" } : Jvm.MethodName) jdk_42_method_3_code (2 : Nat) (Option.none : Option Jvm.ClassFile.FieldType), Jvm.Cond.code ({ cls := "java/lang/String", name := "<init>", desc := "([CIILjava/lang/Void;)V" } : Jvm.MethodName) jdk_42_method_149_code (6 : Nat) (Option.none : Option Jvm.ClassFile.FieldType), Jvm.Cond.code ({ cls := "java/lang/Object", name := "<init>", desc := "()V" } : Jvm.MethodName) object_method_1_code (1 : Nat) (Option.none : Option Jvm.ClassFile.FieldType), Jvm.Cond.code ({ cls := "java/lang/StringUTF16", name := "compress", desc := "([CII)[B" } : Jvm.MethodName) jdk_52_method_16_code (6 : Nat) (Option.some (Jvm.ClassFile.FieldType.array Jvm.ClassFile.FieldType.byte)), Jvm.Cond.code ({ cls := "java/lang/StringUTF16", name := "compress", desc := "([CI[BII)I" } : Jvm.MethodName) jdk_52_method_21_code (7 : Nat) (Option.some Jvm.ClassFile.FieldType.int), Jvm.Cond.code ({ cls := "java/lang/StringUTF16", name := "coderFromArrayLen", desc := "([BI)B" } : Jvm.MethodName) jdk_52_method_15_code (2 : Nat) (Option.some Jvm.ClassFile.FieldType.byte), Jvm.Cond.code ({ cls := "com/example/wary_validator/waryvalidator/messageinterpolation/MessageTemplates", name := "escape", desc := "(Ljava/lang/String;)Ljava/lang/String;" } : Jvm.MethodName) prog_23_method_6_code (6 : Nat) (Option.some (Jvm.ClassFile.FieldType.object "java/lang/String")), Jvm.Cond.code ({ cls := "java/lang/String", name := "length", desc := "()I" } : Jvm.MethodName) jdk_42_method_54_code (1 : Nat) (Option.some Jvm.ClassFile.FieldType.int), Jvm.Cond.code ({ cls := "java/lang/String", name := "coder", desc := "()B" } : Jvm.MethodName) jdk_42_method_152_code (1 : Nat) (Option.some Jvm.ClassFile.FieldType.byte), Jvm.Cond.code ({ cls := "java/lang/StringBuilder", name := "<init>", desc := "(I)V" } : Jvm.MethodName) jdk_67_method_2_code (2 : Nat) (Option.none : Option Jvm.ClassFile.FieldType), Jvm.Cond.code ({ cls := "java/lang/AbstractStringBuilder", name := "<init>", desc := "(I)V" } : Jvm.MethodName) jdk_68_method_2_code (2 : Nat) (Option.none : Option Jvm.ClassFile.FieldType), Jvm.Cond.code ({ cls := "java/lang/String", name := "toCharArray", desc := "()[C" } : Jvm.MethodName) jdk_42_method_129_code (1 : Nat) (Option.some (Jvm.ClassFile.FieldType.array Jvm.ClassFile.FieldType.char)), Jvm.Cond.code ({ cls := "java/lang/String", name := "isLatin1", desc := "()Z" } : Jvm.MethodName) jdk_42_method_154_code (1 : Nat) (Option.some Jvm.ClassFile.FieldType.boolean), Jvm.Cond.code ({ cls := "java/lang/StringLatin1", name := "toChars", desc := "([B)[C" } : Jvm.MethodName) jdk_43_method_9_code (2 : Nat) (Option.some (Jvm.ClassFile.FieldType.array Jvm.ClassFile.FieldType.char)), Jvm.Cond.code ({ cls := "java/lang/StringLatin1", name := "inflate", desc := "([BI[CII)V" } : Jvm.MethodName) jdk_43_method_49_code (6 : Nat) (Option.none : Option Jvm.ClassFile.FieldType), Jvm.Cond.code ({ cls := "java/lang/StringBuilder", name := "append", desc := "(C)Ljava/lang/StringBuilder;" } : Jvm.MethodName) jdk_67_method_14_code (2 : Nat) (Option.some (Jvm.ClassFile.FieldType.object "java/lang/StringBuilder")), Jvm.Cond.code ({ cls := "java/lang/AbstractStringBuilder", name := "append", desc := "(C)Ljava/lang/AbstractStringBuilder;" } : Jvm.MethodName) jdk_68_method_31_code (2 : Nat) (Option.some (Jvm.ClassFile.FieldType.object "java/lang/AbstractStringBuilder")), Jvm.Cond.code ({ cls := "java/lang/AbstractStringBuilder", name := "ensureCapacityInternal", desc := "(I)V" } : Jvm.MethodName) jdk_68_method_9_code (3 : Nat) (Option.none : Option Jvm.ClassFile.FieldType), Jvm.Cond.code ({ cls := "java/lang/AbstractStringBuilder", name := "isLatin1", desc := "()Z" } : Jvm.MethodName) jdk_68_method_68_code (1 : Nat) (Option.some Jvm.ClassFile.FieldType.boolean), Jvm.Cond.code ({ cls := "java/lang/StringLatin1", name := "canEncode", desc := "(C)Z" } : Jvm.MethodName) jdk_43_method_3_code (1 : Nat) (Option.some Jvm.ClassFile.FieldType.boolean), Jvm.Cond.code ({ cls := "java/lang/StringBuilder", name := "toString", desc := "()Ljava/lang/String;" } : Jvm.MethodName) jdk_67_method_42_code (1 : Nat) (Option.some (Jvm.ClassFile.FieldType.object "java/lang/String")), Jvm.Cond.code ({ cls := "java/lang/String", name := "<init>", desc := "(Ljava/lang/StringBuilder;)V" } : Jvm.MethodName) jdk_42_method_53_code (2 : Nat) (Option.none : Option Jvm.ClassFile.FieldType), Jvm.Cond.code ({ cls := "java/lang/String", name := "<init>", desc := "(Ljava/lang/AbstractStringBuilder;Ljava/lang/Void;)V" } : Jvm.MethodName) jdk_42_method_150_code (5 : Nat) (Option.none : Option Jvm.ClassFile.FieldType), Jvm.Cond.code ({ cls := "java/lang/AbstractStringBuilder", name := "getValue", desc := "()[B" } : Jvm.MethodName) jdk_68_method_64_code (1 : Nat) (Option.some (Jvm.ClassFile.FieldType.array Jvm.ClassFile.FieldType.byte)), Jvm.Cond.code ({ cls := "java/lang/StringBuilder", name := "length", desc := "()I" } : Jvm.MethodName) jdk_67_method_93_code (1 : Nat) (Option.some Jvm.ClassFile.FieldType.int), Jvm.Cond.code ({ cls := "java/lang/AbstractStringBuilder", name := "length", desc := "()I" } : Jvm.MethodName) jdk_68_method_6_code (1 : Nat) (Option.some Jvm.ClassFile.FieldType.int), Jvm.Cond.code ({ cls := "java/util/Arrays", name := "copyOfRange", desc := "([BII)[B" } : Jvm.MethodName) jdk_65_method_132_code (3 : Nat) (Option.some (Jvm.ClassFile.FieldType.array Jvm.ClassFile.FieldType.byte)), Jvm.Cond.code ({ cls := "com/example/wary_validator/waryvalidator/messageinterpolation/MessageTemplatesEscapePinLaw", name := "put", desc := "([CIC)I" } : Jvm.MethodName) method_4_code (4 : Nat) (Option.some Jvm.ClassFile.FieldType.int), Jvm.Cond.code ({ cls := "com/example/wary_validator/waryvalidator/messageinterpolation/MessageTemplatesEscapePinLaw", name := "special", desc := "(C)Z" } : Jvm.MethodName) method_3_code (1 : Nat) (Option.some Jvm.ClassFile.FieldType.boolean), Jvm.Cond.code ({ cls := "com/example/wary_validator/waryvalidator/messageinterpolation/MessageTemplatesEscapePinLaw", name := "at", desc := "(Ljava/lang/String;[CII)Z" } : Jvm.MethodName) method_5_code (4 : Nat) (Option.some Jvm.ClassFile.FieldType.boolean), Jvm.Cond.code ({ cls := "java/lang/String", name := "charAt", desc := "(I)C" } : Jvm.MethodName) jdk_42_method_56_code (2 : Nat) (Option.some Jvm.ClassFile.FieldType.char), Jvm.Cond.code ({ cls := "java/lang/StringLatin1", name := "charAt", desc := "([BI)C" } : Jvm.MethodName) jdk_43_method_2_code (2 : Nat) (Option.some Jvm.ClassFile.FieldType.char), Jvm.Cond.code ({ cls := "java/lang/String", name := "checkIndex", desc := "(II)V" } : Jvm.MethodName) jdk_42_method_155_code (2 : Nat) (Option.none : Option Jvm.ClassFile.FieldType), Jvm.Cond.code ({ cls := "jdk/internal/util/Preconditions", name := "checkIndex", desc := "(IILjava/util/function/BiFunction;)I" } : Jvm.MethodName) jdk_41_method_11_code (3 : Nat) (Option.some Jvm.ClassFile.FieldType.int), Jvm.Cond.code ({ cls := "java/lang/StringUTF16", name := "toBytes", desc := "([CII)[B" } : Jvm.MethodName) jdk_52_method_14_code (5 : Nat) (Option.some (Jvm.ClassFile.FieldType.array Jvm.ClassFile.FieldType.byte)), Jvm.Cond.code ({ cls := "java/lang/StringUTF16", name := "newBytesFor", desc := "(I)[B" } : Jvm.MethodName) jdk_52_method_2_code (1 : Nat) (Option.some (Jvm.ClassFile.FieldType.array Jvm.ClassFile.FieldType.byte)), Jvm.Cond.code ({ cls := "java/lang/StringUTF16", name := "newBytesLength", desc := "(I)I" } : Jvm.MethodName) jdk_52_method_3_code (1 : Nat) (Option.some Jvm.ClassFile.FieldType.int), Jvm.Cond.code ({ cls := "java/lang/StringUTF16", name := "putChar", desc := "([BII)V" } : Jvm.MethodName) jdk_52_method_4_code (3 : Nat) (Option.none : Option Jvm.ClassFile.FieldType), Jvm.Cond.code ({ cls := "java/lang/StringUTF16", name := "getChar", desc := "([BI)C" } : Jvm.MethodName) jdk_52_method_5_code (2 : Nat) (Option.some Jvm.ClassFile.FieldType.char), Jvm.Cond.code ({ cls := "java/lang/StringUTF16", name := "toChars", desc := "([B)[C" } : Jvm.MethodName) jdk_52_method_13_code (2 : Nat) (Option.some (Jvm.ClassFile.FieldType.array Jvm.ClassFile.FieldType.char)), Jvm.Cond.code ({ cls := "java/lang/StringUTF16", name := "getChars", desc := "([BII[CI)V" } : Jvm.MethodName) jdk_52_method_26_code (6 : Nat) (Option.none : Option Jvm.ClassFile.FieldType), Jvm.Cond.code ({ cls := "java/lang/StringUTF16", name := "checkBoundsOffCount", desc := "(II[B)V" } : Jvm.MethodName) jdk_52_method_94_code (3 : Nat) (Option.none : Option Jvm.ClassFile.FieldType), Jvm.Cond.code ({ cls := "java/lang/StringUTF16", name := "length", desc := "([B)I" } : Jvm.MethodName) jdk_52_method_6_code (1 : Nat) (Option.some Jvm.ClassFile.FieldType.int), Jvm.Cond.code ({ cls := "java/lang/String", name := "checkBoundsOffCount", desc := "(III)I" } : Jvm.MethodName) jdk_42_method_157_code (3 : Nat) (Option.some Jvm.ClassFile.FieldType.int), Jvm.Cond.code ({ cls := "jdk/internal/util/Preconditions", name := "checkFromIndexSize", desc := "(IIILjava/util/function/BiFunction;)I" } : Jvm.MethodName) jdk_41_method_13_code (4 : Nat) (Option.some Jvm.ClassFile.FieldType.int), Jvm.Cond.code ({ cls := "java/lang/AbstractStringBuilder", name := "inflate", desc := "()V" } : Jvm.MethodName) jdk_68_method_11_code (2 : Nat) (Option.none : Option Jvm.ClassFile.FieldType), Jvm.Cond.code ({ cls := "java/lang/StringLatin1", name := "inflate", desc := "([BI[BII)V" } : Jvm.MethodName) jdk_43_method_50_code (5 : Nat) (Option.none : Option Jvm.ClassFile.FieldType), Jvm.Cond.code ({ cls := "java/lang/StringUTF16", name := "inflate", desc := "([BI[BII)V" } : Jvm.MethodName) jdk_52_method_86_code (6 : Nat) (Option.none : Option Jvm.ClassFile.FieldType), Jvm.Cond.code ({ cls := "java/lang/StringUTF16", name := "putCharSB", desc := "([BII)V" } : Jvm.MethodName) jdk_52_method_71_code (3 : Nat) (Option.none : Option Jvm.ClassFile.FieldType), Jvm.Cond.code ({ cls := "java/lang/StringUTF16", name := "checkIndex", desc := "(I[B)V" } : Jvm.MethodName) jdk_52_method_91_code (2 : Nat) (Option.none : Option Jvm.ClassFile.FieldType), Jvm.Cond.code ({ cls := "java/lang/StringUTF16", name := "charAt", desc := "([BI)C" } : Jvm.MethodName) jdk_52_method_83_code (2 : Nat) (Option.some Jvm.ClassFile.FieldType.char), Jvm.Cond.code ({ cls := "java/lang/AbstractStringBuilder", name := "newCapacity", desc := "(I)I" } : Jvm.MethodName) jdk_68_method_10_code (6 : Nat) (Option.some Jvm.ClassFile.FieldType.int), Jvm.Cond.code ({ cls := "jdk/internal/util/ArraysSupport", name := "newLength", desc := "(III)I" } : Jvm.MethodName) jdk_48_method_27_code (4 : Nat) (Option.some Jvm.ClassFile.FieldType.int), Jvm.Cond.code ({ cls := "java/lang/Math", name := "max", desc := "(II)I" } : Jvm.MethodName) jdk_29_method_65_code (2 : Nat) (Option.some Jvm.ClassFile.FieldType.int), Jvm.Cond.code ({ cls := "java/util/Arrays", name := "copyOf", desc := "([BI)[B" } : Jvm.MethodName) jdk_65_method_121_code (3 : Nat) (Option.some (Jvm.ClassFile.FieldType.array Jvm.ClassFile.FieldType.byte)), Jvm.Cond.code ({ cls := "java/lang/Math", name := "min", desc := "(II)I" } : Jvm.MethodName) jdk_29_method_69_code (2 : Nat) (Option.some Jvm.ClassFile.FieldType.int), Jvm.Cond.code ({ cls := "java/util/Arrays", name := "copyOfRangeByte", desc := "([BII)[B" } : Jvm.MethodName) jdk_65_method_133_code (5 : Nat) (Option.some (Jvm.ClassFile.FieldType.array Jvm.ClassFile.FieldType.byte)), Jvm.Cond.code ({ cls := "java/util/Arrays", name := "checkLength", desc := "(II)V" } : Jvm.MethodName) jdk_65_method_131_code (2 : Nat) (Option.none : Option Jvm.ClassFile.FieldType)]
set_option maxRecDepth 65536 in
theorem codes_eq : words1.filter isCode = codes1 := rfl
theorem w_codes : ∀ c ∈ words1.filter isCode, c.before args0 about1 = true := by
  rw [codes_eq]
  intro c hc
  simp only [codes1, List.mem_cons, List.not_mem_nil, or_false] at hc
  rcases hc with rfl | rfl | rfl | rfl | rfl | rfl | rfl | rfl | rfl | rfl | rfl | rfl | rfl | rfl | rfl | rfl | rfl | rfl | rfl | rfl | rfl | rfl | rfl | rfl | rfl | rfl | rfl | rfl | rfl | rfl | rfl | rfl | rfl | rfl | rfl | rfl | rfl | rfl | rfl | rfl | rfl | rfl | rfl | rfl | rfl | rfl | rfl | rfl | rfl | rfl | rfl | rfl | rfl | rfl | rfl | rfl | rfl | rfl | rfl
  · exact w_c0
  · exact w_c1
  · exact w_c2
  · exact w_c3
  · exact w_c4
  · exact w_c5
  · exact w_c6
  · exact w_c7
  · exact w_c8
  · exact w_c9
  · exact w_c10
  · exact w_c11
  · exact w_c12
  · exact w_c13
  · exact w_c14
  · exact w_c15
  · exact w_c16
  · exact w_c17
  · exact w_c18
  · exact w_c19
  · exact w_c20
  · exact w_c21
  · exact w_c22
  · exact w_c23
  · exact w_c24
  · exact w_c25
  · exact w_c26
  · exact w_c27
  · exact w_c28
  · exact w_c29
  · exact w_c30
  · exact w_c31
  · exact w_c32
  · exact w_c33
  · exact w_c34
  · exact w_c35
  · exact w_c36
  · exact w_c37
  · exact w_c38
  · exact w_c39
  · exact w_c40
  · exact w_c41
  · exact w_c42
  · exact w_c43
  · exact w_c44
  · exact w_c45
  · exact w_c46
  · exact w_c47
  · exact w_c48
  · exact w_c49
  · exact w_c50
  · exact w_c51
  · exact w_c52
  · exact w_c53
  · exact w_c54
  · exact w_c55
  · exact w_c56
  · exact w_c57
  · exact w_c58
set_option maxRecDepth 65536 in
theorem w_t1 : (words1.take 24).all (fun c => isCode c || c.before args0 about1) = true := by decide +kernel
set_option maxRecDepth 65536 in
theorem w_t2 : ((words1.drop 24).take 24).all (fun c => isCode c || c.before args0 about1) = true := by decide +kernel
set_option maxRecDepth 65536 in
theorem w_t3 : (((words1.drop 24).drop 24).take 24).all (fun c => isCode c || c.before args0 about1) = true := by decide +kernel
set_option maxRecDepth 65536 in
theorem w_t4 : ((((words1.drop 24).drop 24).drop 24).take 24).all (fun c => isCode c || c.before args0 about1) = true := by decide +kernel
set_option maxRecDepth 65536 in
theorem w_t5 : (((((words1.drop 24).drop 24).drop 24).drop 24).take 24).all (fun c => isCode c || c.before args0 about1) = true := by decide +kernel
set_option maxRecDepth 65536 in
theorem w_t6 : ((((((words1.drop 24).drop 24).drop 24).drop 24).drop 24).take 24).all (fun c => isCode c || c.before args0 about1) = true := by decide +kernel
set_option maxRecDepth 65536 in
theorem w_t7 : (((((((words1.drop 24).drop 24).drop 24).drop 24).drop 24).drop 24).take 24).all (fun c => isCode c || c.before args0 about1) = true := by decide +kernel
set_option maxRecDepth 65536 in
theorem w_t8 : ((((((((words1.drop 24).drop 24).drop 24).drop 24).drop 24).drop 24).drop 24).take 24).all (fun c => isCode c || c.before args0 about1) = true := by decide +kernel
set_option maxRecDepth 65536 in
theorem w_t9 : (((((((((words1.drop 24).drop 24).drop 24).drop 24).drop 24).drop 24).drop 24).drop 24).take 24).all (fun c => isCode c || c.before args0 about1) = true := by decide +kernel
set_option maxRecDepth 65536 in
theorem w_t10 : ((((((((((words1.drop 24).drop 24).drop 24).drop 24).drop 24).drop 24).drop 24).drop 24).drop 24).take 24).all (fun c => isCode c || c.before args0 about1) = true := by decide +kernel
set_option maxRecDepth 65536 in
theorem w_t11 : (((((((((((words1.drop 24).drop 24).drop 24).drop 24).drop 24).drop 24).drop 24).drop 24).drop 24).drop 24).take 24).all (fun c => isCode c || c.before args0 about1) = true := by decide +kernel
set_option maxRecDepth 65536 in
theorem w_t12 : (((((((((((words1.drop 24).drop 24).drop 24).drop 24).drop 24).drop 24).drop 24).drop 24).drop 24).drop 24).drop 24).all (fun c => isCode c || c.before args0 about1) = true := by decide +kernel
theorem w_tables : (allAtoms (Jvm.Cond.code x code maxLocals ret :: tables_1)).before args0 about1 = true := by
  rw [allAtoms_all]
  show words1.all (fun c => c.before args0 about1) = true
  refine all_split ?_ w_codes
  rw [← List.take_append_drop 24 words1, List.all_append, w_t1, ← List.take_append_drop 24 (words1.drop 24), List.all_append, w_t2, ← List.take_append_drop 24 ((words1.drop 24).drop 24), List.all_append, w_t3, ← List.take_append_drop 24 (((words1.drop 24).drop 24).drop 24), List.all_append, w_t4, ← List.take_append_drop 24 ((((words1.drop 24).drop 24).drop 24).drop 24), List.all_append, w_t5, ← List.take_append_drop 24 (((((words1.drop 24).drop 24).drop 24).drop 24).drop 24), List.all_append, w_t6, ← List.take_append_drop 24 ((((((words1.drop 24).drop 24).drop 24).drop 24).drop 24).drop 24), List.all_append, w_t7, ← List.take_append_drop 24 (((((((words1.drop 24).drop 24).drop 24).drop 24).drop 24).drop 24).drop 24), List.all_append, w_t8, ← List.take_append_drop 24 ((((((((words1.drop 24).drop 24).drop 24).drop 24).drop 24).drop 24).drop 24).drop 24), List.all_append, w_t9, ← List.take_append_drop 24 (((((((((words1.drop 24).drop 24).drop 24).drop 24).drop 24).drop 24).drop 24).drop 24).drop 24), List.all_append, w_t10, ← List.take_append_drop 24 ((((((((((words1.drop 24).drop 24).drop 24).drop 24).drop 24).drop 24).drop 24).drop 24).drop 24).drop 24), List.all_append, w_t11, w_t12]
  rfl
set_option maxRecDepth 65536 in
theorem w_rest : rest_1_c.before args0 about1 = true := by decide +kernel
set_option maxRecDepth 65536 in
theorem w_case : (Jvm.Cond.and given_1 narrow_1).before args0 about1 = true := by decide +kernel
set_option maxRecDepth 65536 in
theorem w_consts : constsHeld consts_1 about1 := Jvm.Lit.constsHeldB_iff.mp (by decide +kernel)
theorem w_applies : (headSpec (Jvm.Cond.code x code maxLocals ret :: tables_1) room_1).applies x e0.platform about1 = true :=
  (Spec.applies_iff w_frames).mpr ⟨w_running, w_runnable, w_alone, w_named, w_hears, w_ripe, w_room, w_tables⟩
theorem atStart : AtStart classFile x code maxLocals ret World_1 tables_1 room_1 Calls_1 rest_1 Pre_1 launch0 p0 e0 about1 theMethod args0 below0 :=
  ⟨lists_1, trivial, launch0.admits_env _ _ _, launch0.least_env, fairChoices_fair.cas, fairChoices_fair.clock, w_frames, w_args, w_heap, w_applies, ⟨w_consts, trivial⟩, w_rest, w_case⟩
end start1
theorem witness_1 : WitnessClaimed_1 := ⟨start1.p0, start1.e0, start1.about1, start1.theMethod, start1.args0, start1.below0, start1.atStart⟩
end Jvm.Pilot.@@N@@
