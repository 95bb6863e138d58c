import JvmDerived
import JvmDerived.Pilot.@@N@@Statement
import JvmDerived.Pilot.@@N@@Code
set_option linter.unusedVariables false
set_option linter.unusedSimpArgs false
namespace Jvm.RoadKit
section OwnKeep
variable {h h' h0 : Heap} {ws : List Addr} {a : Addr}
theorem Keep.otr0 (K : Keep h0 h ws) (K' : Keep h h' []) : Keep h0 h' ws := K.trans K' fun _ q => nomatch q
theorem Keep.otrN (K : Keep h0 h ws) (K' : Keep h h' [a]) (q : h0.size ≤ a) : Keep h0 h' ws := K.trans K' fun x hx => by cases List.mem_singleton.mp hx; exact Or.inr q
theorem Keep.otrM (K : Keep h0 h ws) (K' : Keep h h' [a]) (q : a ∈ ws) : Keep h0 h' ws := K.trans K' fun x hx => by cases List.mem_singleton.mp hx; exact Or.inl q
end OwnKeep
end Jvm.RoadKit
namespace Jvm.Own
open Sem ClassFile Op Lib Bundle Jvm.Stand Jvm.Free Jvm.LawKit Jvm.RoadKit
section Walk
variable {p : Program} {l : Launch} {e : Env} {R : Room} {s : State} {m : MethodId} {args : Array Value} {below : List Frame} {meth : Method} {c : Code} {T T' : State} {cells slots : Nat} {Z : State} {a0 : Array Value} {EL : List (String × Nat)} {h h' : Heap} {vm0 vm1 : Vm} {y : MethodName} {bytes : ByteArray} {ml : Nat} {ret : Option FieldType} {KC KS : Nat} {Q : Option Value → Heap → Prop} {g g' : JFrame} {pc : Nat} {Ls : Array Slot} {st rest : List Value}
/-- from T with the top frame g the body returns, and what it leaves is Q -/
def Go (p : Program) (e : Env) (below : List Frame) (s Z : State) (EL : List (String × Nat)) (KC KS : Nat) (Q : Option Value → Heap → Prop) (T : State) (g : JFrame) : Prop :=
  ∃ s₂ o, Steps p.tables e below (T.setTop g) s₂ ∧ s₂.status = .running ∧ Ended s₂ below o ∧ ∃ v L, o = .returned v ∧ (Q v s₂.heap ∧ Fr Z.heap.size L ∧ Ext Z.heap s₂.heap) ∧ CHr Z EL s.vm s.heap s₂.vm s₂.heap ∧ ReturnedEndW s o s₂ L KC KS
theorem Go.step (f : ∀ t, Steps p.tables e below (T'.setTop g') t → Steps p.tables e below (T.setTop g) t) (k : Go p e below s Z EL KC KS Q T' g') : Go p e below s Z EL KC KS Q T g := by
  obtain ⟨s₂, o, h1, r⟩ := k
  exact ⟨s₂, o, f _ h1, r⟩
theorem Go.cast (q : g = g') (k : Go p e below s Z EL KC KS Q T g') : Go p e below s Z EL KC KS Q T g := q ▸ k
/-- the contract of a body: any start whose heap is h -/
def Con (l : Launch) (Z : State) (EL : List (String × Nat)) (y : MethodName) (bytes : ByteArray) (ml : Nat) (ret : Option FieldType) (ws : List Cond) (rm : Room) (as' : Array Value) (h : Heap) (Q : Option Value → Heap → Prop) : Prop :=
  MetFree l y (head1 (Cond.code y bytes ml ret :: ws) rm) (fun a U => a = as' ∧ Z.Warmed39 U.vm ∧ U.heap = h ∧ CHv Z EL U.vm h) (fun _ _ _ _ _ => True)
    (fun _ U o U' => ∃ v L, o = .returned v ∧ (Q v U'.heap ∧ Fr Z.heap.size L ∧ Ext Z.heap U'.heap) ∧ CHr Z EL U.vm U.heap U'.vm U'.heap ∧ ReturnedEndW U o U' L rm.cells rm.slots)
/-- where a walk stands -/
def Wk (p : Program) (l : Launch) (e : Env) (R : Room) (s : State) (m : MethodId) (args : Array Value) (below : List Frame) (meth : Method) (c : Code) (Z : State) (a0 : Array Value) (EL : List (String × Nat)) (y : MethodName) (bytes : ByteArray) (ml : Nat) (ret : Option FieldType) (T : State) (h : Heap) (vm0 : Vm) (cells slots : Nat) : Prop :=
  ∃ locs : List Loc, Stand p l e R (s.setVm vm0) m args below meth c T locs cells slots ∧ T.heap = h ∧ Z.Warmed39 (s.setVm vm0).vm ∧ (s.setVm vm0).vm.findClass y.cls = some m.cls ∧ (∃ k0, s.Since vm0 k0 ∧ k0 ≤ h.size) ∧ CHr Z EL s.vm s.heap vm0 h ∧ Fr Z.heap.size locs ∧ Ext Z.heap h ∧
    p.tables.exec = Jvm.exec ∧ c.code = bytes ∧ c.maxLocals = ml ∧ meth.sig.returnType = ret ∧ meth.locks = false ∧ meth.name = y.name ∧ EW Z a0 EL
theorem ext_trans {h1 h2 h3 : Heap} (A : Ext h1 h2) (B : Ext h2 h3) : Ext h1 h3 := ⟨Nat.le_trans A.1 B.1, fun a c q => B.2 a c (A.2 a c q)⟩
theorem ext_keep {ws : List Addr} (A : Ext Z.heap h) (K : Keep h h' ws) (q : ∀ x ∈ ws, Z.heap.size ≤ x) : Ext Z.heap h' := (Old.keep (show Old Z Z.heap.size h from ⟨rfl, A⟩) K q).2
theorem keep_ext (E : Ext h h') : Keep h h' [] := (Keep.refl h []).ext E
theorem ext_keep0 (K : Keep h h' []) : Ext h h' := ⟨K.1, fun a c q => K.2.1 a c q nin0⟩
theorem Wk.here (W : Wk p l e R s m args below meth c Z a0 EL y bytes ml ret T h vm0 cells slots) : At T m c below := by obtain ⟨_, X, -⟩ := W; exact X.here
theorem Wk.hx (W : Wk p l e R s m args below meth c Z a0 EL y bytes ml ret T h vm0 cells slots) : p.tables.exec = Jvm.exec := by obtain ⟨_, -, -, -, -, -, -, -, -, r, -⟩ := W; exact r
theorem Wk.d (W : Wk p l e R s m args below meth c Z a0 EL y bytes ml ret T h vm0 cells slots) {r : Except DecodeError (Instr × Nat)} (q : decode bytes pc = r) : decode c.code pc = r := by obtain ⟨_, -, -, -, -, -, -, -, -, -, u, -⟩ := W; exact hb u q
theorem Wk.ext (W : Wk p l e R s m args below meth c Z a0 EL y bytes ml ret T h vm0 cells slots) : Ext Z.heap h := by obtain ⟨_, -, -, -, -, -, -, -, r, -⟩ := W; exact r
theorem Wk.hZ (W : Wk p l e R s m args below meth c Z a0 EL y bytes ml ret T h vm0 cells slots) : Z.Warmed39 (s.setVm vm0).vm := by obtain ⟨_, -, -, r, -⟩ := W; exact r
theorem Wk.chr (W : Wk p l e R s m args below meth c Z a0 EL y bytes ml ret T h vm0 cells slots) : CHr Z EL s.vm s.heap vm0 h := by obtain ⟨_, -, -, -, -, -, r, -⟩ := W; exact r
theorem Wk.size (W : Wk p l e R s m args below meth c Z a0 EL y bytes ml ret T h vm0 cells slots) : Z.heap.size ≤ h.size := W.ext.1
theorem Wk.more (W : Wk p l e R s m args below meth c Z a0 EL y bytes ml ret T h vm0 cells slots) {cells' slots' : Nat} (hc : cells ≤ cells') (hs : slots ≤ slots') : Wk p l e R s m args below meth c Z a0 EL y bytes ml ret T h vm0 cells' slots' := by
  obtain ⟨locs, X, r⟩ := W
  exact ⟨locs, X.mono hc hs, r⟩
/-- a body's walk gives its contract -/
theorem Con.intro {rm : Room} {as' : Array Value} {ws : List Cond} (hpl : plainFor y = true) (hE : Ext Z.heap h) (hEL : EW Z a0 EL)
    (body : ∀ (p : Program) (e : Env) (s : State) (m : MethodId) (below : List Frame) (meth : Method) (c : Code) (T : State), Wk p l e rm s m as' below meth c Z a0 EL y bytes ml ret T h s.vm 0 0 → Go p e below s Z EL rm.cells rm.slots Q T (entryFrame m as' ml)) :
    Con l Z EL y bytes ml ret ws rm as' h Q := by
  refine MetFree.of_bodySF hpl hisR ?_
  intro p e s m args below meth c s₁ Bd hml0 hP hK
  obtain ⟨rfl, hZ, hh, hC⟩ := hP
  have hown : s.vm.findClass y.cls = some m.cls := findClass_of_methodNamed Bd.named
  have hnm := (name_of_methodNamed Bd.named Bd.method).1
  have X0 : Stand p l e rm s m args below meth c s₁ [] 0 0 := Stand.of_body Bd
  have e0 : s₁.heap = h := by rw [← hh, Bd.state]; rfl
  exact body p e s m below meth c s₁ ⟨[], X0, e0, hZ, hown, ⟨0, (State.WarmedH.refl s).since 0, Nat.zero_le _⟩, by rw [hh]; exact CHr.refl hC, Fr.nil _, hE, Bd.exec, Bd.bytes, hml0, Bd.returns, Bd.notSynchronized, hnm, hEL⟩
/-- a step that leaves the heap as it is -/
theorem Wk.stay (W : Wk p l e R s m args below meth c Z a0 EL y bytes ml ret T h vm0 cells slots) (f : ∀ locs, Stand p l e R (s.setVm vm0) m args below meth c T locs cells slots → ∃ T', Stand p l e R (s.setVm vm0) m args below meth c T' locs cells slots ∧ T'.heap = h ∧ ∀ target, Steps p.tables e below (T'.setTop g') target → Steps p.tables e below (T.setTop g) target)
    (K : ∀ T', Wk p l e R s m args below meth c Z a0 EL y bytes ml ret T' h vm0 cells slots → Go p e below s Z EL KC KS Q T' g') : Go p e below s Z EL KC KS Q T g := by
  obtain ⟨locs, X, hT, r⟩ := W
  obtain ⟨T', X', hT', st⟩ := f locs X
  exact Go.step st (K T' ⟨locs, X', hT', r⟩)
theorem Wk.getF (W : Wk p l e R s m args below meth c Z a0 EL y bytes ml ret T h vm0 cells slots) {R0 O n d host : String} {index : Nat} (w : (Cond.fieldLink y.cls index R0 n d).before a0 Z = true ∨ (Cond.fieldLinkNest y.cls index R0 n d host).before a0 Z = true) (via : Via Z R0 O n d) {a : Addr} {v : Value} (F : Fld Z h a O n d v) (hd : decode bytes pc = .ok (.getfield index, 3))
    (K : ∀ T', Wk p l e R s m args below meth c Z a0 EL y bytes ml ret T' h vm0 cells slots → Go p e below s Z EL KC KS Q T' (mkF m (pc + 3) Ls (v :: rest))) : Go p e below s Z EL KC KS Q T (mkF m pc Ls (.ref a :: rest)) := by
  refine W.stay (fun locs X => ?_) K
  obtain ⟨_, -, hT, hZ, hown, -⟩ := id W
  exact RoadKit.getF X W.hx hZ hown w via hT F (g := mkF m pc Ls (.ref a :: rest)) rfl rfl (W.d hd)
theorem Wk.getS (W : Wk p l e R s m args below meth c Z a0 EL y bytes ml ret T h vm0 cells slots) {R0 O n d host : String} {index : Nat} (w : (Cond.fieldLink y.cls index R0 n d).before a0 Z = true ∨ (Cond.fieldLinkNest y.cls index R0 n d host).before a0 Z = true) (via : Via Z R0 O n d) {v : Value} (F : Sta Z Z.heap O n d v) (hd : decode bytes pc = .ok (.getstatic index, 3))
    (K : ∀ T', Wk p l e R s m args below meth c Z a0 EL y bytes ml ret T' h vm0 cells slots → Go p e below s Z EL KC KS Q T' (mkF m (pc + 3) Ls (v :: rest))) : Go p e below s Z EL KC KS Q T (mkF m pc Ls rest) := by
  refine W.stay (fun locs X => ?_) K
  obtain ⟨_, -, hT, hZ, hown, -⟩ := id W
  exact getS2 X W.hx hZ hown w via hT (F.ext W.ext) (g := mkF m pc Ls rest) rfl (W.d hd)
theorem Wk.cast (W : Wk p l e R s m args below meth c Z a0 EL y bytes ml ret T h vm0 cells slots) {K' : String} {index : Nat} (w : (Cond.classLink y.cls index K').before a0 Z = true) {a : Addr} (F : Ins Z h a K' true) (hd : decode bytes pc = .ok (.checkcast index, 3))
    (K : ∀ T', Wk p l e R s m args below meth c Z a0 EL y bytes ml ret T' h vm0 cells slots → Go p e below s Z EL KC KS Q T' (mkF m (pc + 3) Ls (.ref a :: rest))) : Go p e below s Z EL KC KS Q T (mkF m pc Ls (.ref a :: rest)) := by
  refine W.stay (fun locs X => ?_) K
  obtain ⟨_, -, hT, hZ, hown, -⟩ := id W
  exact castY X W.hx hZ hown w hT F (g := mkF m pc Ls (.ref a :: rest)) rfl rfl (W.d hd)
theorem Wk.instY (W : Wk p l e R s m args below meth c Z a0 EL y bytes ml ret T h vm0 cells slots) {K' : String} {index : Nat} (w : (Cond.classLink y.cls index K').before a0 Z = true) {a : Addr} (F : Ins Z h a K' true) (hd : decode bytes pc = .ok (.instanceof index, 3))
    (K : ∀ T', Wk p l e R s m args below meth c Z a0 EL y bytes ml ret T' h vm0 cells slots → Go p e below s Z EL KC KS Q T' (mkF m (pc + 3) Ls (.int 1 :: rest))) : Go p e below s Z EL KC KS Q T (mkF m pc Ls (.ref a :: rest)) := by
  refine W.stay (fun locs X => ?_) K
  obtain ⟨_, -, hT, hZ, hown, -⟩ := id W
  exact RoadKit.instY X W.hx hZ hown w hT F (g := mkF m pc Ls (.ref a :: rest)) rfl rfl (W.d hd)
theorem Wk.instN (W : Wk p l e R s m args below meth c Z a0 EL y bytes ml ret T h vm0 cells slots) {K' C : String} {index : Nat} (w : (Cond.classLink y.cls index K').before a0 Z = true) {a : Addr} (E : Exa Z h a C) (F : ∃ c t, Z.vm.findClass C = some c ∧ Z.vm.findClass K' = some t ∧ Z.vm.assignable c t = false) (hd : decode bytes pc = .ok (.instanceof index, 3))
    (K : ∀ T', Wk p l e R s m args below meth c Z a0 EL y bytes ml ret T' h vm0 cells slots → Go p e below s Z EL KC KS Q T' (mkF m (pc + 3) Ls (.int 0 :: rest))) : Go p e below s Z EL KC KS Q T (mkF m pc Ls (.ref a :: rest)) := by
  refine W.stay (fun locs X => ?_) K
  obtain ⟨_, -, hT, hZ, hown, -⟩ := id W
  exact instNo X W.hx hZ hown w hT E F (g := mkF m pc Ls (.ref a :: rest)) rfl rfl (W.d hd)
theorem Wk.instNull (W : Wk p l e R s m args below meth c Z a0 EL y bytes ml ret T h vm0 cells slots) {index : Nat} (hd : decode bytes pc = .ok (.instanceof index, 3)) (K : Go p e below s Z EL KC KS Q T (mkF m (pc + 3) Ls (.int 0 :: rest))) : Go p e below s Z EL KC KS Q T (mkF m pc Ls (.null :: rest)) := by
  obtain ⟨_, X, -⟩ := id W
  exact Go.step (X.instanceofNull W.hx (g := mkF m pc Ls (.null :: rest)) rfl rfl (W.d hd)) K
theorem Wk.castNull (W : Wk p l e R s m args below meth c Z a0 EL y bytes ml ret T h vm0 cells slots) {index : Nat} (hd : decode bytes pc = .ok (.checkcast index, 3)) (K : Go p e below s Z EL KC KS Q T (mkF m (pc + 3) Ls (.null :: rest))) : Go p e below s Z EL KC KS Q T (mkF m pc Ls (.null :: rest)) := by
  obtain ⟨_, X, -⟩ := id W
  exact Go.step (X.checkcastNull W.hx (g := mkF m pc Ls (.null :: rest)) rfl rfl (W.d hd)) K
theorem Wk.acmp (W : Wk p l e R s m args below meth c Z a0 EL y bytes ml ret T h vm0 cells slots) {cd : ACond} {u v : Value} (h1 : u.isRef = true) (h2 : v.isRef = true) {o : Int} {pc' : Nat} {same : Bool} (hd : decode bytes pc = .ok (.if_acmp cd o, 3)) (hq : decide (u = v) = same) (ho : 0 ≤ (pc : Int) + o) (hp : pc' = if acV cd same = true then ((pc : Int) + o).toNat else pc + 3)
    (K : Go p e below s Z EL KC KS Q T (mkF m pc' Ls rest)) : Go p e below s Z EL KC KS Q T (mkF m pc Ls (v :: u :: rest)) := by
  obtain ⟨_, X, -⟩ := id W
  exact Go.step (fun _ k => RoadKit.acmp (g := mkF m pc Ls (v :: u :: rest)) X W.hx rfl h1 h2 rfl (W.d hd) rfl hq ho hp k) K
theorem Wk.initO (W : Wk p l e R s m args below meth c Z a0 EL y bytes ml ret T h vm0 cells slots) {idx : Nat} (w1 : (Cond.methodLink y.cls idx Lib.objectInit).before a0 Z = true) (w2 : (Cond.instanceMethod Lib.objectInit).before a0 Z = true) (w3 : (Cond.code Lib.objectInit ⟨#[0xb1]⟩ 1 none).before a0 Z = true) {a : Addr} (hsz : Ls.size = ml) (hd : decode bytes pc = .ok (.invokespecial idx, 3))
    (hf : 1 ≤ R.frames) {Wd : Nat} (hW : (rest.map fun v => v.category).sum ≤ Wd) (hl : Wd + 12 ≤ R.locals)
    (K : ∀ T', Wk p l e R s m args below meth c Z a0 EL y bytes ml ret T' h vm0 cells slots → Go p e below s Z EL KC KS Q T' (mkF m (pc + 3) Ls rest)) : Go p e below s Z EL KC KS Q T (mkF m pc Ls (.ref a :: rest)) := by
  refine W.stay (fun locs X => ?_) K
  obtain ⟨_, -, hT, hZ, hown, -, -, -, -, -, -, hml, -⟩ := id W
  exact RoadKit.initO X W.hx hZ hown w1 w2 w3 hT (g := mkF m pc Ls (.ref a :: rest)) rfl (by rw [hml]; exact hsz) rfl (W.d hd) hf (W := Wd) (by show 2 * 0 + _ ≤ _; omega) hl
theorem Wk.new (W : Wk p l e R s m args below meth c Z a0 EL y bytes ml ret T h vm0 cells slots) {C : String} {index n : Nat} (w : (Cond.classLink y.cls index C).before a0 Z = true) (wi : (Cond.instantiable C n).before a0 Z = true) (wz : (Cond.initialized C).before a0 Z = true) (hd : decode bytes pc = .ok (.new index, 3)) (hc : cells + 1 ≤ R.cells) (hl : slots + n ≤ R.slots)
    (K : ∀ T' h' a, a = h.size → Wk p l e R s m args below meth c Z a0 EL y bytes ml ret T' h' vm0 (cells + 1) (slots + n) → Ext h h' → Exa Z h' a C → (∀ {O nm d : String} {ty : FieldType}, Laid Z a0 C O nm d → parseFieldDescriptor d = some ty → Fld Z h' a O nm d (defaultValue ty)) → Go p e below s Z EL KC KS Q T' (mkF m (pc + 3) Ls (.ref a :: rest))) : Go p e below s Z EL KC KS Q T (mkF m pc Ls rest) := by
  have hx := W.hx; have hd' := W.d hd
  obtain ⟨locs, X, hT, hZ, hown, ⟨k0, hS, hk⟩, hC, hF, hE, r⟩ := W
  obtain ⟨T', h', X', e', E, A, D, -, st⟩ := newO X hx hZ hown w wi wz hT (g := mkF m pc Ls rest) rfl hd' hc hl
  exact Go.step st (K T' h' _ rfl ⟨locs, X', e', hZ, hown, ⟨k0, hS, Nat.le_trans hk E.1⟩, hC.trans (CHr.ext E hC.1), hF, ext_trans hE E, r⟩ E A D)
theorem Wk.newarr (W : Wk p l e R s m args below meth c Z a0 EL y bytes ml ret T h vm0 cells slots) {aty : ArrayType} (w : (Cond.arrayClass (newarray.typeOf aty)).before a0 Z = true) {n : Int32} (hd : decode bytes pc = .ok (.newarray aty, 2)) (hn : ¬ n < 0) {cap : Nat} (hcap : n.toNatClampNeg ≤ cap) (hb : cap * 8 ≤ 536870912) (hc : cells + 1 ≤ R.cells) (hl : slots + cap ≤ R.slots)
    (K : ∀ T' h' a k, a = h.size → Wk p l e R s m args below meth c Z a0 EL y bytes ml ret T' h' vm0 (cells + 1) (slots + cap) → Ext h h' → Arv Z h' a k (newarray.typeOf aty) n [] (defaultValue (newarray.typeOf aty)) → Safe Z EL vm0 h' a → Go p e below s Z EL KC KS Q T' (mkF m (pc + 2) Ls (.ref a :: rest))) : Go p e below s Z EL KC KS Q T (mkF m pc Ls (.int n :: rest)) := by
  have hx := W.hx; have hd' := W.d hd
  obtain ⟨locs, X, hT, hZ, hown, ⟨k0, hS, hk⟩, hC, hF, hE, r⟩ := W
  obtain ⟨T', h', cA, X', e', E, A, st⟩ := newP X hx hZ w hT (g := mkF m pc Ls (.int n :: rest)) rfl hd' rfl hn hcap hb hc hl
  exact Go.step st (K T' h' _ cA rfl ⟨locs, X', e', hZ, hown, ⟨k0, hS, Nat.le_trans hk E.1⟩, hC.trans (CHr.ext E hC.1), hF, ext_trans hE E, r⟩ E (Arv.new A hn) (Safe.ext E hC.1 (Safe.new (Nat.le_refl _))))
/-- a write into one cell made since the law began -/
theorem Wk.wrote (W : Wk p l e R s m args below meth c Z a0 EL y bytes ml ret T h vm0 cells slots) {a : Addr} {sl : Nat} {v : Value} (ha : Z.heap.size ≤ a) (S : Safe Z EL vm0 h a)
    (f : ∀ locs, Stand p l e R (s.setVm vm0) m args below meth c T locs cells slots → ∃ T' h', Stand p l e R (s.setVm vm0) m args below meth c T' (locs ++ [⟨a, sl⟩]) cells slots ∧ T'.heap = h' ∧ Wr h h' a sl v ∧ ∀ target, Steps p.tables e below (T'.setTop g') target → Steps p.tables e below (T.setTop g) target)
    (K : ∀ T' h', Wk p l e R s m args below meth c Z a0 EL y bytes ml ret T' h' vm0 cells slots → Wr h h' a sl v → Go p e below s Z EL KC KS Q T' g') : Go p e below s Z EL KC KS Q T g := by
  obtain ⟨locs, X, hT, hZ, hown, ⟨k0, hS, hk⟩, hC, hF, hE, r⟩ := W
  obtain ⟨T', h', X', e', Ww, st⟩ := f locs X
  exact Go.step st (K T' h' ⟨_, X', e', hZ, hown, ⟨k0, hS, by rw [Ww.size]; exact hk⟩, hC.trans (CHr.wr Ww S hC.1), Fr.snoc X' hF ha, ext_keep hE (Keep.of_wr Ww) (allS ha all0), r⟩ Ww)
theorem Wk.putF (W : Wk p l e R s m args below meth c Z a0 EL y bytes ml ret T h vm0 cells slots) {R0 O n d host C : String} {index kk : Nat} {ty : FieldType} (w : (Cond.fieldLink y.cls index R0 n d).before a0 Z = true ∨ (Cond.fieldLinkNest y.cls index R0 n d host).before a0 Z = true) (via : Via Z R0 O n d)
    {a : Addr} {v old : Value} (F : Fld Z h a O n d old) (E : Exa Z h a C) (L : (Cond.lays C O n d).before a0 Z = true ∨ ((Cond.laysFinal C O n d).before a0 Z = true ∧ y.cls = O ∧ y.name = "<init>")) (wi : (Cond.instantiable C kk).before a0 Z = true) (hty : parseFieldDescriptor d = some ty) (hn : narrow ty v = v) (hf : fits ty v = true)
    (ha : Z.heap.size ≤ a) (S : Safe Z EL vm0 h a) (hd : decode bytes pc = .ok (.putfield index, 3))
    (K : ∀ T' h', Wk p l e R s m args below meth c Z a0 EL y bytes ml ret T' h' vm0 cells slots → Wr h h' a (RoadKit.slotOf Z O n d) v → Fld Z h' a O n d v → Go p e below s Z EL KC KS Q T' (mkF m (pc + 3) Ls rest)) : Go p e below s Z EL KC KS Q T (mkF m pc Ls (v :: .ref a :: rest)) := by
  refine W.wrote (sl := RoadKit.slotOf Z O n d) (v := v) ha S (fun locs X => ?_) (fun T' h' W' Ww => K T' h' W' Ww (F.same Ww))
  obtain ⟨_, -, hT, hZ, hown, -, -, -, -, -, -, -, -, -, hnm, -⟩ := id W
  exact RoadKit.putF X W.hx hZ hown w via hT F E (L.imp id fun q => ⟨q.1, q.2.1, hnm.trans q.2.2⟩) wi hty hn hf (g := mkF m pc Ls (v :: .ref a :: rest)) rfl rfl (W.d hd)
theorem Wk.castore (W : Wk p l e R s m args below meth c Z a0 EL y bytes ml ret T h vm0 cells slots) {a : Addr} {k : ClassId} {n j x : Int32} {vs : List Value} {dv : Value} (V : Arv Z h a k .char n vs dv) (i : Nat) (hj : j.toNatClampNeg = i) (hi : i < vs.length) (hin : ¬ j < 0 ∧ j < n) (ha : Z.heap.size ≤ a) (hd : decode bytes pc = .ok (.castore, 1))
    (K : ∀ T' h', Wk p l e R s m args below meth c Z a0 EL y bytes ml ret T' h' vm0 cells slots → Keep h h' [a] → Arv Z h' a k .char n (vs.set i (.int (nar .char x))) dv → Go p e below s Z EL KC KS Q T' (mkF m (pc + 1) Ls rest)) : Go p e below s Z EL KC KS Q T (mkF m pc Ls (.int x :: .int j :: .ref a :: rest)) := by
  have S : Safe Z EL vm0 h a := Safe.arv W.hZ.alike V (by decide)
  obtain ⟨cl, A, q1, S1, q3, H, G⟩ := id V
  refine W.wrote (sl := j.toNatClampNeg) (v := .int (nar .char x)) ha S (fun locs X => ?_) (fun T' h' W' Ww => K T' h' W' (Keep.of_wr Ww) (Arv.set A q1 S1 q3 H G (fits_nar_char _) Ww i hj hi))
  obtain ⟨_, -, hT, hZ, -⟩ := id W
  exact stC X W.hx hZ hT A (inb_of S1 hin) (g := mkF m pc Ls (.int x :: .int j :: .ref a :: rest)) rfl rfl (W.d hd)
theorem Wk.bastore (W : Wk p l e R s m args below meth c Z a0 EL y bytes ml ret T h vm0 cells slots) {a : Addr} {k : ClassId} {n j x : Int32} {vs : List Value} {dv : Value} (V : Arv Z h a k .byte n vs dv) (i : Nat) (hj : j.toNatClampNeg = i) (hi : i < vs.length) (hin : ¬ j < 0 ∧ j < n) (ha : Z.heap.size ≤ a) (S : Safe Z EL vm0 h a) (hd : decode bytes pc = .ok (.bastore, 1))
    (K : ∀ T' h', Wk p l e R s m args below meth c Z a0 EL y bytes ml ret T' h' vm0 cells slots → Keep h h' [a] → Arv Z h' a k .byte n (vs.set i (.int (nar .byte x))) dv → Go p e below s Z EL KC KS Q T' (mkF m (pc + 1) Ls rest)) : Go p e below s Z EL KC KS Q T (mkF m pc Ls (.int x :: .int j :: .ref a :: rest)) := by
  obtain ⟨cl, A, q1, S1, q3, H, G⟩ := id V
  refine W.wrote (sl := j.toNatClampNeg) (v := .int (nar .byte x)) ha S (fun locs X => ?_) (fun T' h' W' Ww => K T' h' W' (Keep.of_wr Ww) (Arv.set A q1 S1 q3 H G (fits_nar_byte _) Ww i hj hi))
  obtain ⟨_, -, hT, hZ, -⟩ := id W
  exact stB X W.hx hZ hT A (inb_of S1 hin) (g := mkF m pc Ls (.int x :: .int j :: .ref a :: rest)) rfl rfl (W.d hd)
theorem Wk.baload (W : Wk p l e R s m args below meth c Z a0 EL y bytes ml ret T h vm0 cells slots) {a : Addr} {k : ClassId} {n j : Int32} {vs : List Value} {dv v : Value} (V : Arv Z h a k .byte n vs dv) (hin : ¬ j < 0 ∧ j < n) (hv : vs.getD j.toNatClampNeg dv = v) (hd : decode bytes pc = .ok (.baload, 1))
    (K : Go p e below s Z EL KC KS Q T (mkF m (pc + 1) Ls (v :: rest))) : Go p e below s Z EL KC KS Q T (mkF m pc Ls (.int j :: .ref a :: rest)) := by
  obtain ⟨cl, A, q1, S1, q3, H, G⟩ := id V
  obtain ⟨_, X, hT, hZ, -⟩ := id W
  exact Go.step (X.baloadBytes W.hx (j := j) (v := v) (by rw [hT]; exact A.1) (State.isArrayOf_alike hZ.alike A.2.1) A.2.2 (inb_of S1 hin) (H.at (inb_of S1 hin) hv) (g := mkF m pc Ls (.int j :: .ref a :: rest)) rfl rfl (W.d hd)) K
theorem Wk.caload (W : Wk p l e R s m args below meth c Z a0 EL y bytes ml ret T h vm0 cells slots) {a : Addr} {k : ClassId} {n j : Int32} {vs : List Value} {dv v : Value} (V : Arv Z h a k .char n vs dv) (hin : ¬ j < 0 ∧ j < n) (hv : vs.getD j.toNatClampNeg dv = v) (hd : decode bytes pc = .ok (.caload, 1))
    (K : Go p e below s Z EL KC KS Q T (mkF m (pc + 1) Ls (v :: rest))) : Go p e below s Z EL KC KS Q T (mkF m pc Ls (.int j :: .ref a :: rest)) := by
  obtain ⟨cl, A, q1, S1, q3, H, G⟩ := id V
  obtain ⟨_, X, hT, hZ, -⟩ := id W
  exact Go.step (X.caload W.hx (j := j) (v := v) (by rw [hT]; exact A.1) (State.isArrayOf_alike hZ.alike A.2.1) A.2.2 (inb_of S1 hin) (H.at (inb_of S1 hin) hv) (g := mkF m pc Ls (.int j :: .ref a :: rest)) rfl rfl (W.d hd)) K
theorem Wk.aaload (W : Wk p l e R s m args below meth c Z a0 EL y bytes ml ret T h vm0 cells slots) {a : Addr} {k : ClassId} {ty : FieldType} {n j : Int32} {vs : List Value} {dv v : Value} (V : Arv Z h a k ty n vs dv) (ht : ty.isReference = true) (hin : ¬ j < 0 ∧ j < n) (hv : vs.getD j.toNatClampNeg dv = v) (hd : decode bytes pc = .ok (.aaload, 1))
    (K : Go p e below s Z EL KC KS Q T (mkF m (pc + 1) Ls (v :: rest))) : Go p e below s Z EL KC KS Q T (mkF m pc Ls (.int j :: .ref a :: rest)) := by
  obtain ⟨cl, A, q1, S1, q3, H, G⟩ := id V
  obtain ⟨_, X, hT, hZ, -⟩ := id W
  exact Go.step (X.aaload W.hx (j := j) (v := v) (by rw [hT]; exact A.1) (State.isArrayOf_alike hZ.alike A.2.1) ht A.2.2 (inb_of S1 hin) (H.at (inb_of S1 hin) hv) (g := mkF m pc Ls (.int j :: .ref a :: rest)) rfl rfl (W.d hd)) K
/-- clone() of an array -/
theorem Wk.clone (W : Wk p l e R s m args below meth c Z a0 EL y bytes ml ret T h vm0 cells slots) {ad : String} {index : Nat} (w1 : (Cond.methodLink y.cls index ⟨ad, "clone", "()Ljava/lang/Object;"⟩).before a0 Z = true) (w2 : (Cond.sameMethod ad "java/lang/Object" "clone" "()Ljava/lang/Object;").before a0 Z = true) (w3 : (Cond.native ⟨"java/lang/Object", "clone", "()Ljava/lang/Object;"⟩).before a0 Z = true)
    (w4 : (Cond.instanceMethod ⟨"java/lang/Object", "clone", "()Ljava/lang/Object;"⟩).before a0 Z = true) (w5 : (Cond.selects ad ⟨ad, "clone", "()Ljava/lang/Object;"⟩ ⟨"java/lang/Object", "clone", "()Ljava/lang/Object;"⟩).before a0 Z = true) (w6 : (Cond.castable ad "java/lang/Cloneable").before a0 Z = true)
    {a : Addr} {k : ClassId} {ty : FieldType} {n : Int32} {vs : List Value} {dv : Value} (V : Arv Z h a k ty n vs dv) (E : Exa Z h a ad) (hsz : Ls.size = ml) (hd : decode bytes pc = .ok (.invokevirtual index, 3)) (hf : 1 ≤ R.frames) {Wd cap : Nat} (hW : (rest.map fun v => v.category).sum ≤ Wd) (hl : Wd + 14 ≤ R.locals) (hcap : n.toNatClampNeg ≤ cap) (hc : cells + 1 ≤ R.cells) (hsl : slots + cap ≤ R.slots)
    (K : ∀ T' h' b, b = h.size → Wk p l e R s m args below meth c Z a0 EL y bytes ml ret T' h' vm0 (cells + 1) (slots + cap) → Ext h h' → Exa Z h' b ad → Arv Z h' b k ty n vs dv → Go p e below s Z EL KC KS Q T' (mkF m (pc + 3) Ls (.ref b :: rest))) : Go p e below s Z EL KC KS Q T (mkF m pc Ls (.ref a :: rest)) := by
  have hx := W.hx; have hd' := W.d hd
  obtain ⟨locs, X, hT, hZ, hown, ⟨k0, hS, hk⟩, hC, hF, hE, r1, r2, hml, r⟩ := W
  obtain ⟨cl, A, q1, S, q3, H, G⟩ := V
  have FC : FitC Z cl := fitC_of A fun i hi v hv => by rw [H i hi] at hv; cases hv; exact G i hi
  obtain ⟨T', h', X', e', Ex, A', E', st⟩ := cloneA X hx hZ hown w1 w2 w3 w4 w5 w6 hT A E FC (g := mkF m pc Ls (.ref a :: rest)) rfl (by rw [hml]; exact hsz) rfl hd' hf (W := Wd) (by show 2 * 0 + _ ≤ _; omega) hl (by rw [S]; exact hcap) hc hsl
  exact Go.step st (K T' h' _ rfl ⟨locs, X', e', hZ, hown, ⟨k0, hS, Nat.le_trans hk Ex.1⟩, hC.trans (CHr.ext Ex hC.1), hF, ext_trans hE Ex, r1, r2, hml, r⟩ Ex E' ⟨cloneOf cl, A', q1, S, q3, H, G⟩)
theorem Wk.arraylength (W : Wk p l e R s m args below meth c Z a0 EL y bytes ml ret T h vm0 cells slots) {a : Addr} {k : ClassId} {ty : FieldType} {n : Int32} {vs : List Value} {dv : Value} (V : Arv Z h a k ty n vs dv) (hd : decode bytes pc = .ok (.arraylength, 1))
    (K : Go p e below s Z EL KC KS Q T (mkF m (pc + 1) Ls (.int n :: rest))) : Go p e below s Z EL KC KS Q T (mkF m pc Ls (.ref a :: rest)) := by
  obtain ⟨cl, A, q1, S1, q3, H, G⟩ := id V
  obtain ⟨_, X, hT, hZ, -⟩ := id W
  refine Go.step (X.arraylength W.hx (by rw [hT]; exact A.1) (State.isArrayOf_alike hZ.alike A.2.1) (g := mkF m pc Ls (.ref a :: rest)) rfl rfl (W.d hd)) ?_
  rw [len_of S1 q3]; exact K
/-- ldc of a String constant, not read -/
theorem Wk.ldcO (W : Wk p l e R s m args below meth c Z a0 EL y bytes ml ret T h vm0 cells slots) {text : String} {index : Nat} (w : (Cond.stringLink y.cls index text).before a0 Z = true) (wS : ∀ a ∈ Bundle.stringAtoms, a.before a0 Z = true) (hd : decode bytes pc = .ok (.ldc index, 2)) {n : Nat} (hn : 4 * text.toList.length ≤ n) (hbig : n ≤ 536870912) (hc : cells + 2 ≤ R.cells) (hl : slots + (n + 4) ≤ R.slots)
    (K : ∀ T' h' vm1 a, Wk p l e R s m args below meth c Z a0 EL y bytes ml ret T' h' vm1 (cells + 2) (slots + (n + 4)) → Ext h h' → CHr Z EL vm0 h vm1 h' → Go p e below s Z EL KC KS Q T' (mkF m (pc + 2) Ls (.ref a :: rest))) : Go p e below s Z EL KC KS Q T (mkF m pc Ls rest) := by
  have hx := W.hx; have hd' := W.d hd
  obtain ⟨locs, X, hT, hZ, hown, ⟨k0, hS, hk⟩, hC, hF, hE, r1, r2, r3, r4, r5, r6, hEL⟩ := W
  obtain ⟨a, T', h', k1, X', e', E, hS', hk', hZ', hown', hC', -, st⟩ := ldcOH X hx hZ hown w wS hT hS hk hEL hC.1 (g := mkF m pc Ls rest) rfl hd' hn hbig hc hl
  exact Go.step st (K T' h' T'.vm a ⟨locs, X', e', hZ', hown', ⟨k1, hS', hk'⟩, hC.trans hC', hF, ext_trans hE E, r1, r2, r3, r4, r5, r6, hEL⟩ E hC')
/-- ldc of a String constant, read -/
theorem Wk.ldcR (W : Wk p l e R s m args below meth c Z a0 EL y bytes ml ret T h vm0 cells slots) {text : String} {index : Nat} (w : (Cond.stringLink y.cls index text).before a0 Z = true) (wS : ∀ a ∈ Bundle.stringAtoms, a.before a0 Z = true) (hmem : (y.cls, index) ∈ EL) {vs : List Value} {z : Int32} (ht : (∀ c ∈ text.toList, c.toNat < 256) ∧ text.toList.map (fun c => Value.int (Jvm.Lit.byteI c.toNat.toUInt16)) = vs) (hz : ¬ z < 0) (hlz : z.toNatClampNeg = vs.length)
    (hd : decode bytes pc = .ok (.ldc index, 2)) {n : Nat} (hn : 4 * text.toList.length ≤ n) (hbig : n ≤ 536870912) (hc : cells + 2 ≤ R.cells) (hl : slots + (n + 4) ≤ R.slots)
    (K : ∀ T' h' vm1 a b k, Wk p l e R s m args below meth c Z a0 EL y bytes ml ret T' h' vm1 (cells + 2) (slots + (n + 4)) → Ext h h' → CHr Z EL vm0 h vm1 h' → Exa Z h' a "java/lang/String" → Fld Z h' a "java/lang/String" "coder" "B" (.int 0) → Fld Z h' a "java/lang/String" "value" "[B" (.ref b) → Arv Z h' b k .byte z vs (.int 0) → (∀ x, Safe Z EL vm1 h' x → x ≠ a ∧ x ≠ b) → Go p e below s Z EL KC KS Q T' (mkF m (pc + 2) Ls (.ref a :: rest))) : Go p e below s Z EL KC KS Q T (mkF m pc Ls rest) := by
  have hx := W.hx; have hd' := W.d hd
  obtain ⟨locs, X, hT, hZ, hown, ⟨k0, hS, hk⟩, hC, hF, hE, r1, r2, r3, r4, r5, r6, hEL⟩ := W
  obtain ⟨a, T', h', k1, b, k, X', e', E, hS', hk', hZ', hown', q1, q2, q3, q4, -, -, hC', -, q5, st⟩ := ldcCH X hx hZ hown w wS hT hS hk hEL hmem hC.1 ht hz hlz (g := mkF m pc Ls rest) rfl hd' hn hbig hc hl
  exact Go.step st (K T' h' T'.vm a b k ⟨locs, X', e', hZ', hown', ⟨k1, hS', hk'⟩, hC.trans hC', hF, ext_trans hE E, r1, r2, r3, r4, r5, r6, hEL⟩ E hC' q1 q2 q3 q4 q5)
/-- what a call by a contract gives back -/
theorem Wk.back (W : Wk p l e R s m args below meth c Z a0 EL y bytes ml ret T h vm0 cells slots) {y' : MethodName} {bytes' : ByteArray} {ml' : Nat} {ret' : Option FieldType} {rm : Room} {as' : Array Value} {Qc : Option Value → Heap → Prop} {len Wd : Nat} (C : Con l Z EL y' bytes' ml' ret' [] rm as' h Qc) (wc : (Cond.code y' bytes' ml' ret').before a0 Z = true) (wz : (Cond.initialized y'.cls).before a0 Z = true) (hfr : rm.frames + 1 ≤ R.frames) (hlo : Wd + (ml' + 11) + rm.locals ≤ R.locals) :
    BackS l R p e below (s.setVm vm0) args y' len Wd (fun A a => a = as' ∧ A.U.heap = h ∧ A.cells + rm.cells ≤ R.cells ∧ A.slots + rm.slots ≤ R.slots)
      (fun A _ v B => ∃ L, (Qc v B.U.heap ∧ Fr Z.heap.size L ∧ Ext Z.heap B.U.heap) ∧ B.locs = A.locs ++ L ∧ B.cells = A.cells + rm.cells ∧ B.slots = A.slots + rm.slots ∧ CHr Z EL vm0 h B.U.vm B.U.heap) := by
  obtain ⟨locs, X, hT, hZ, hown, -, hC, hF, hE, r1, r2, r3, r4, r5, r6, hEL⟩ := W
  exact backOfSH (Q := fun v h' L => Qc v h' ∧ Fr Z.heap.size L ∧ Ext Z.heap h') C hZ wc wz hfr hlo hEL hC.1
/-- behind such a call -/
theorem Wk.behind (W : Wk p l e R s m args below meth c Z a0 EL y bytes ml ret T h vm0 cells slots) {rm : Room} {Qc : Option Value → Heap → Prop} {locs : List Loc} (hF : Fr Z.heap.size locs) {v : Option Value} {B : Pt}
    (X' : Stand p l e R ((s.setVm vm0).setVm B.U.vm) m args below meth c B.U B.locs B.cells B.slots) (h2 : (s.setVm vm0).Since B.U.vm B.U.heap.size) (hg : T.heap.size ≤ B.U.heap.size) {L : List Loc} (hl : B.locs = locs ++ L) (hq : Qc v B.U.heap ∧ Fr Z.heap.size L ∧ Ext Z.heap B.U.heap) (hc : B.cells = cells + rm.cells) (hs : B.slots = slots + rm.slots) (hC' : CHr Z EL vm0 h B.U.vm B.U.heap) :
    Wk p l e R s m args below meth c Z a0 EL y bytes ml ret B.U B.U.heap B.U.vm (cells + rm.cells) (slots + rm.slots) := by
  obtain ⟨_, X, hT, hZ, hown, ⟨k0, hS, hk⟩, hC, -, hE, r⟩ := W
  obtain ⟨Y, hS', hZ', hown'⟩ := rebS hS (by rw [← hT] at hk; exact hk) X' h2 hg hZ hown
  rw [hl, hc, hs] at Y
  exact ⟨_, Y, rfl, hZ', hown', ⟨_, hS', Nat.le_refl _⟩, hC.trans hC', hF.app hq.2.1, hq.2.2, r⟩
theorem Wk.callS (W : Wk p l e R s m args below meth c Z a0 EL y bytes ml ret T h vm0 cells slots) {index : Nat} {y' : MethodName} {bytes' : ByteArray} {ml' : Nat} {ret' : Option FieldType} {rm : Room} {as' : Array Value} {Qc : Option Value → Heap → Prop} {Wd : Nat}
    (wl : (Cond.methodLink y.cls index y').before a0 Z = true) (wst : (Cond.static y').before a0 Z = true) (wz : (Cond.initialized y'.cls).before a0 Z = true) (wc : (Cond.code y' bytes' ml' ret').before a0 Z = true) (hy : y'.cls ≠ "java/lang/invoke/MethodHandle" ∧ y'.cls ≠ "java/lang/invoke/VarHandle")
    (C : Con l Z EL y' bytes' ml' ret' [] rm as' h Qc) (hfr : rm.frames + 1 ≤ R.frames) (hlo : Wd + (ml' + 11) + rm.locals ≤ R.locals) (argsL : List Value) (rest : List Value) (has : argsL.toArray = as') {ps : List FieldType} {r' : Option FieldType} (hdesc : parseMethodDescriptor y'.desc = some ⟨ps, r'⟩) (hlen : argsL.length = ps.length) (hsz : Ls.size = ml) (hst : st = argsL.reverse ++ rest) (hW : (rest.map fun v => v.category).sum ≤ Wd)
    (hd : decode bytes pc = .ok (.invokestatic index, 3)) (hc : cells + rm.cells ≤ R.cells) (hs : slots + rm.slots ≤ R.slots)
    (K : ∀ v T' h' vm1, Wk p l e R s m args below meth c Z a0 EL y bytes ml ret T' h' vm1 (cells + rm.cells) (slots + rm.slots) → Qc v h' → CHr Z EL vm0 h vm1 h' → Go p e below s Z EL KC KS Q T' (mkF m (pc + 3) Ls (v.toList ++ rest))) : Go p e below s Z EL KC KS Q T (mkF m pc Ls st) := by
  have bk := W.back (len := 3) (Wd := Wd) C wc wz hfr hlo
  have hx := W.hx; have hd' := W.d hd
  obtain ⟨locs, X, hT, hZ, hown, -, -, hF, -, -, -, hml, -⟩ := id W
  obtain ⟨v, vm₁, B, -, X', h2, hg, ⟨L, hq, hl, hcc, hss, hC'⟩, stp⟩ := callSS X hx hown (mvT hZ wl) (mvT hZ wst) (mvT hZ wz) (mvT hZ wc) hy bk (g := mkF m pc Ls st) rfl (by rw [hml]; exact hsz) (argsL := argsL) (rest := rest) (lenOf hdesc hlen) hst (by show 2 * 0 + _ ≤ _; omega) hd' (fun vm₁ _ => ⟨has, hT, hc, hs⟩)
  exact Go.step (fun _ k => stp.trans k) (K v B.U B.U.heap B.U.vm (W.behind (rm := rm) (Qc := Qc) hF X' h2 hg hl hq hcc hss hC') hq.1 hC')
theorem Wk.special (W : Wk p l e R s m args below meth c Z a0 EL y bytes ml ret T h vm0 cells slots) {index : Nat} {y' : MethodName} {bytes' : ByteArray} {ml' : Nat} {rm : Room} {as' : Array Value} {Qc : Option Value → Heap → Prop} {Wd : Nat} (hin : y'.name = "<init>")
    (wl : (Cond.methodLink y.cls index y').before a0 Z = true) (wi : (Cond.instanceMethod y').before a0 Z = true) (wz : (Cond.initialized y'.cls).before a0 Z = true) (wc : (Cond.code y' bytes' ml' none).before a0 Z = true) (hy : y'.cls ≠ "java/lang/invoke/MethodHandle" ∧ y'.cls ≠ "java/lang/invoke/VarHandle")
    (C : Con l Z EL y' bytes' ml' none [] rm as' h Qc) (hfr : rm.frames + 1 ≤ R.frames) (hlo : Wd + (ml' + 11) + rm.locals ≤ R.locals) (a : Addr) (argsL : List Value) (rest : List Value) (has : (.ref a :: argsL).toArray = as') {ps : List FieldType} {r' : Option FieldType} (hdesc : parseMethodDescriptor y'.desc = some ⟨ps, r'⟩) (hlen : argsL.length = ps.length) (hsz : Ls.size = ml) (hst : st = argsL.reverse ++ .ref a :: rest) (hW : (rest.map fun v => v.category).sum ≤ Wd)
    (hd : decode bytes pc = .ok (.invokespecial index, 3)) (hc : cells + rm.cells ≤ R.cells) (hs : slots + rm.slots ≤ R.slots)
    (K : ∀ v T' h' vm1, Wk p l e R s m args below meth c Z a0 EL y bytes ml ret T' h' vm1 (cells + rm.cells) (slots + rm.slots) → Qc v h' → CHr Z EL vm0 h vm1 h' → Go p e below s Z EL KC KS Q T' (mkF m (pc + 3) Ls (v.toList ++ rest))) : Go p e below s Z EL KC KS Q T (mkF m pc Ls st) := by
  have bk := W.back (len := 3) (Wd := Wd) C wc wz hfr hlo
  have hx := W.hx; have hd' := W.d hd
  obtain ⟨locs, X, hT, hZ, hown, -, -, hF, -, -, -, hml, -⟩ := id W
  obtain ⟨v, vm₁, B, -, X', h2, hg, ⟨L, hq, hl, hcc, hss, hC'⟩, stp⟩ := X.specialBackS hx hin hown (mvT hZ wl) (mvT hZ wi) (mvT hZ wc) hy bk (g := mkF m pc Ls st) rfl (by rw [hml]; exact hsz) (Steps.refl _) (a := a) (argsL := argsL) (rest := rest) (lenOf hdesc hlen) hst (by show 2 * 0 + _ ≤ _; omega) hd' (fun vm₁ _ => ⟨has, hT, hc, hs⟩)
  exact Go.step (fun _ k => stp.trans k) (K v B.U B.U.heap B.U.vm (W.behind (rm := rm) (Qc := Qc) hF X' h2 hg hl hq hcc hss hC') hq.1 hC')
theorem Wk.virtual (W : Wk p l e R s m args below meth c Z a0 EL y bytes ml ret T h vm0 cells slots) {index : Nat} {yr y' : MethodName} {D : String} {bytes' : ByteArray} {ml' : Nat} {ret' : Option FieldType} {rm : Room} {as' : Array Value} {Qc : Option Value → Heap → Prop} {Wd : Nat}
    (wl : (Cond.methodLink y.cls index yr).before a0 Z = true) (wd : (Cond.declares yr).before a0 Z = true) (hnf : NotFace (s.setVm vm0) yr) (wsel : (Cond.selects D yr y').before a0 Z = true) (wi : (Cond.instanceMethod y').before a0 Z = true) (wz : (Cond.initialized y'.cls).before a0 Z = true) (wc : (Cond.code y' bytes' ml' ret').before a0 Z = true) (hy : yr.cls ≠ "java/lang/invoke/MethodHandle" ∧ yr.cls ≠ "java/lang/invoke/VarHandle")
    (C : Con l Z EL y' bytes' ml' ret' [] rm as' h Qc) (hfr : rm.frames + 1 ≤ R.frames) (hlo : Wd + (ml' + 11) + rm.locals ≤ R.locals) (a : Addr) (E : Exa Z h a D) (argsL : List Value) (rest : List Value) (has : (.ref a :: argsL).toArray = as') {ps : List FieldType} {r' : Option FieldType} (hdesc : parseMethodDescriptor yr.desc = some ⟨ps, r'⟩) (hlen : argsL.length = ps.length) (hsz : Ls.size = ml) (hst : st = argsL.reverse ++ .ref a :: rest) (hW : (rest.map fun v => v.category).sum ≤ Wd)
    (hd : decode bytes pc = .ok (.invokevirtual index, 3)) (hc : cells + rm.cells ≤ R.cells) (hs : slots + rm.slots ≤ R.slots)
    (K : ∀ v T' h' vm1, Wk p l e R s m args below meth c Z a0 EL y bytes ml ret T' h' vm1 (cells + rm.cells) (slots + rm.slots) → Qc v h' → CHr Z EL vm0 h vm1 h' → Go p e below s Z EL KC KS Q T' (mkF m (pc + 3) Ls (v.toList ++ rest))) : Go p e below s Z EL KC KS Q T (mkF m pc Ls st) := by
  have bk := W.back (len := 3) (Wd := Wd) C wc wz hfr hlo
  have hx := W.hx; have hd' := W.d hd
  obtain ⟨locs, X, hT, hZ, hown, -, -, hF, -, -, -, hml, -⟩ := id W
  obtain ⟨cB, kB, i1, -, i3⟩ := isOf hZ hT E
  obtain ⟨v, vm₁, B, -, X', h2, hg, ⟨L, hq, hl, hcc, hss, hC'⟩, stp⟩ := X.virtualBackS hx hown (mvT hZ wl) (mvT hZ wd) hnf (mvT hZ wsel) (mvT hZ wi) hy bk i1 i3 (g := mkF m pc Ls st) rfl (by rw [hml]; exact hsz) (Steps.refl _) (argsL := argsL) (rest := rest) (lenOf hdesc hlen) hst (by show 2 * 0 + _ ≤ _; omega) hd' (fun vm₁ _ => ⟨has, hT, hc, hs⟩)
  exact Go.step (fun _ k => stp.trans k) (K v B.U B.U.heap B.U.vm (W.behind (rm := rm) (Qc := Qc) hF X' h2 hg hl hq hcc hss hC') hq.1 hC')
theorem Wk.iface (W : Wk p l e R s m args below meth c Z a0 EL y bytes ml ret T h vm0 cells slots) {index count : Nat} {yr y' : MethodName} {D : String} {bytes' : ByteArray} {ml' : Nat} {ret' : Option FieldType} {rm : Room} {as' : Array Value} {Qc : Option Value → Heap → Prop} {Wd : Nat}
    (wl : (Cond.methodLink y.cls index yr).before a0 Z = true) (wd : (Cond.declares yr).before a0 Z = true) (wf : (Cond.interfaceMethod yr.cls yr.cls yr.name yr.desc).before a0 Z = true) (wsel : (Cond.selects D yr y').before a0 Z = true) (wi : (Cond.instanceMethod y').before a0 Z = true) (wp : (Cond.publicMethod y').before a0 Z = true) (wu : (Cond.unhidden D yr.name yr.desc).before a0 Z = true) (wk : (Cond.castable D yr.cls).before a0 Z = true) (wz : (Cond.initialized y'.cls).before a0 Z = true) (wc : (Cond.code y' bytes' ml' ret').before a0 Z = true) (hy : yr.cls ≠ "java/lang/invoke/MethodHandle" ∧ yr.cls ≠ "java/lang/invoke/VarHandle")
    (C : Con l Z EL y' bytes' ml' ret' [] rm as' h Qc) (hfr : rm.frames + 1 ≤ R.frames) (hlo : Wd + (ml' + 11) + rm.locals ≤ R.locals) (a : Addr) (E : Exa Z h a D) (argsL : List Value) (rest : List Value) (has : (.ref a :: argsL).toArray = as') {ps : List FieldType} {r' : Option FieldType} (hdesc : parseMethodDescriptor yr.desc = some ⟨ps, r'⟩) (hlen : argsL.length = ps.length) (hsz : Ls.size = ml) (hst : st = argsL.reverse ++ .ref a :: rest) (hW : (rest.map fun v => v.category).sum ≤ Wd)
    (hd : decode bytes pc = .ok (.invokeinterface index count, 5)) (hc : cells + rm.cells ≤ R.cells) (hs : slots + rm.slots ≤ R.slots)
    (K : ∀ v T' h' vm1, Wk p l e R s m args below meth c Z a0 EL y bytes ml ret T' h' vm1 (cells + rm.cells) (slots + rm.slots) → Qc v h' → CHr Z EL vm0 h vm1 h' → Go p e below s Z EL KC KS Q T' (mkF m (pc + 5) Ls (v.toList ++ rest))) : Go p e below s Z EL KC KS Q T (mkF m pc Ls st) := by
  have bk := W.back (len := 5) (Wd := Wd) C wc wz hfr hlo
  have hx := W.hx; have hd' := W.d hd
  obtain ⟨locs, X, hT, hZ, hown, -, -, hF, -, -, -, hml, -⟩ := id W
  obtain ⟨cB, kB, i1, i2, i3⟩ := isOf hZ hT E
  obtain ⟨v, vm₁, B, -, X', h2, hg, ⟨L, hq, hl, hcc, hss, hC'⟩, stp⟩ := X.interfaceBackS hx hown (mvT hZ wl) (mvT hZ wd) (mvT hZ wf (by simp [Cond.onTables, Cond.keepsFace, Cond.faceAtom, Cond.keeps, Cond.steady, hy.1, hy.2])) (mvT hZ wsel) (mvT hZ wi) (mvT hZ wp) (mvT hZ wu) (mvT hZ wk) hy bk i1 i2 i3 (g := mkF m pc Ls st) rfl (by rw [hml]; exact hsz) (Steps.refl _) (argsL := argsL) (rest := rest) (lenOf hdesc hlen) hst (by show 2 * 0 + _ ≤ _; omega) hd' (fun vm₁ _ => ⟨has, hT, hc, hs⟩)
  exact Go.step (fun _ k => stp.trans k) (K v B.U B.U.heap B.U.vm (W.behind (rm := rm) (Qc := Qc) hF X' h2 hg hl hq hcc hss hC') hq.1 hC')
/-- behind a call by a law that interns nothing -/
theorem Wk.behindB (W : Wk p l e R s m args below meth c Z a0 EL y bytes ml ret T h vm0 cells slots) {kc ks : Nat} {locs L : List Loc} {ws : List Addr} (hF : Fr Z.heap.size locs) {B : Pt} (X' : Stand p l e R (s.setVm vm0) m args below meth c B.U B.locs B.cells B.slots) (hl : B.locs = locs ++ L) (hc : B.cells = cells + kc) (hs : B.slots = slots + ks) (hFL : Fr Z.heap.size L) (Kp : Keep h B.U.heap ws) (hsf : ∀ x ∈ ws, Safe Z EL vm0 h x) (hge : ∀ x ∈ ws, Z.heap.size ≤ x) :
    Wk p l e R s m args below meth c Z a0 EL y bytes ml ret B.U B.U.heap vm0 (cells + kc) (slots + ks) := by
  obtain ⟨_, X, hT, hZ, hown, ⟨k0, hS, hk⟩, hC, -, hE, r⟩ := W
  rw [hl, hc, hs] at X'
  exact ⟨_, X', rfl, hZ, hown, ⟨k0, hS, Nat.le_trans hk Kp.1⟩, hC.trans (CHr.keep Kp hsf hC.1), hF.app hFL, ext_keep hE Kp hge, r⟩
theorem Wk.specialB (W : Wk p l e R s m args below meth c Z a0 EL y bytes ml ret T h vm0 cells slots) {index : Nat} {y' : MethodName} {bytes' : ByteArray} {ml' : Nat} {as' : Array Value} {Qb : Option Value → Heap → List Loc → Prop} {kc ks Wd : Nat} (hin : y'.name = "<init>")
    (wl : (Cond.methodLink y.cls index y').before a0 Z = true) (wi : (Cond.instanceMethod y').before a0 Z = true) (wc : (Cond.code y' bytes' ml' none).before a0 Z = true) (hy : y'.cls ≠ "java/lang/invoke/MethodHandle" ∧ y'.cls ≠ "java/lang/invoke/VarHandle")
    (bk : Back l R p e below (s.setVm vm0) args y' 3 Wd (fun A a => a = as' ∧ A.U.heap = h ∧ A.cells + kc ≤ R.cells ∧ A.slots + ks ≤ R.slots) (fun A _ v B => ∃ L, Qb v B.U.heap L ∧ B.locs = A.locs ++ L ∧ B.cells = A.cells + kc ∧ B.slots = A.slots + ks))
    (ws : List Addr) (hQ : ∀ v h' L, Qb v h' L → Fr Z.heap.size L ∧ Keep h h' ws) (hsf : ∀ x ∈ ws, Safe Z EL vm0 h x) (hge : ∀ x ∈ ws, Z.heap.size ≤ x)
    (a : Addr) (argsL : List Value) (rest : List Value) (has : (.ref a :: argsL).toArray = as') {ps : List FieldType} {r' : Option FieldType} (hdesc : parseMethodDescriptor y'.desc = some ⟨ps, r'⟩) (hlen : argsL.length = ps.length) (hsz : Ls.size = ml) (hst : st = argsL.reverse ++ .ref a :: rest) (hW : (rest.map fun v => v.category).sum ≤ Wd)
    (hd : decode bytes pc = .ok (.invokespecial index, 3)) (hc : cells + kc ≤ R.cells) (hs : slots + ks ≤ R.slots)
    (K : ∀ v T' h' L, Wk p l e R s m args below meth c Z a0 EL y bytes ml ret T' h' vm0 (cells + kc) (slots + ks) → Qb v h' L → Go p e below s Z EL KC KS Q T' (mkF m (pc + 3) Ls (v.toList ++ rest))) : Go p e below s Z EL KC KS Q T (mkF m pc Ls st) := by
  have hx := W.hx; have hd' := W.d hd
  obtain ⟨locs, X, hT, hZ, hown, -, -, hF, -, -, -, hml, -⟩ := id W
  obtain ⟨v, vm₁, B, -, X', ⟨L, hq, hl, hcc, hss⟩, stp⟩ := X.specialBack hx hin hown (mvT hZ wl) (mvT hZ wi) (mvT hZ wc) hy bk (g := mkF m pc Ls st) rfl (by rw [hml]; exact hsz) (Steps.refl _) (a := a) (argsL := argsL) (rest := rest) (lenOf hdesc hlen) hst (by show 2 * 0 + _ ≤ _; omega) hd' (fun vm₁ _ => ⟨has, hT, hc, hs⟩)
  obtain ⟨f1, f2⟩ := hQ _ _ _ hq
  exact Go.step (fun _ k => stp.trans k) (K v B.U B.U.heap L (W.behindB hF X' hl hcc hss f1 f2 hsf hge) hq)
theorem Wk.virtualB (W : Wk p l e R s m args below meth c Z a0 EL y bytes ml ret T h vm0 cells slots) {index : Nat} {yr y' : MethodName} {D : String} {as' : Array Value} {Qb : Option Value → Heap → List Loc → Prop} {kc ks Wd : Nat}
    (wl : (Cond.methodLink y.cls index yr).before a0 Z = true) (wd : (Cond.declares yr).before a0 Z = true) (hnf : NotFace (s.setVm vm0) yr) (wsel : (Cond.selects D yr y').before a0 Z = true) (wi : (Cond.instanceMethod y').before a0 Z = true) (hy : yr.cls ≠ "java/lang/invoke/MethodHandle" ∧ yr.cls ≠ "java/lang/invoke/VarHandle")
    (bk : Back l R p e below (s.setVm vm0) args y' 3 Wd (fun A a => a = as' ∧ A.U.heap = h ∧ A.cells + kc ≤ R.cells ∧ A.slots + ks ≤ R.slots) (fun A _ v B => ∃ L, Qb v B.U.heap L ∧ B.locs = A.locs ++ L ∧ B.cells = A.cells + kc ∧ B.slots = A.slots + ks))
    (ws : List Addr) (hQ : ∀ v h' L, Qb v h' L → Fr Z.heap.size L ∧ Keep h h' ws) (hsf : ∀ x ∈ ws, Safe Z EL vm0 h x) (hge : ∀ x ∈ ws, Z.heap.size ≤ x)
    (a : Addr) (E : Exa Z h a D) (argsL : List Value) (rest : List Value) (has : (.ref a :: argsL).toArray = as') {ps : List FieldType} {r' : Option FieldType} (hdesc : parseMethodDescriptor yr.desc = some ⟨ps, r'⟩) (hlen : argsL.length = ps.length) (hsz : Ls.size = ml) (hst : st = argsL.reverse ++ .ref a :: rest) (hW : (rest.map fun v => v.category).sum ≤ Wd)
    (hd : decode bytes pc = .ok (.invokevirtual index, 3)) (hc : cells + kc ≤ R.cells) (hs : slots + ks ≤ R.slots)
    (K : ∀ v T' h' L, Wk p l e R s m args below meth c Z a0 EL y bytes ml ret T' h' vm0 (cells + kc) (slots + ks) → Qb v h' L → Go p e below s Z EL KC KS Q T' (mkF m (pc + 3) Ls (v.toList ++ rest))) : Go p e below s Z EL KC KS Q T (mkF m pc Ls st) := by
  have hx := W.hx; have hd' := W.d hd
  obtain ⟨locs, X, hT, hZ, hown, -, -, hF, -, -, -, hml, -⟩ := id W
  obtain ⟨cB, kB, i1, -, i3⟩ := isOf hZ hT E
  obtain ⟨v, vm₁, B, -, X', ⟨L, hq, hl, hcc, hss⟩, stp⟩ := X.virtualBack hx hown (mvT hZ wl) (mvT hZ wd) hnf (mvT hZ wsel) (mvT hZ wi) hy bk i1 i3 (g := mkF m pc Ls st) rfl (by rw [hml]; exact hsz) (Steps.refl _) (argsL := argsL) (rest := rest) (lenOf hdesc hlen) hst (by show 2 * 0 + _ ≤ _; omega) hd' (fun vm₁ _ => ⟨has, hT, hc, hs⟩)
  obtain ⟨f1, f2⟩ := hQ _ _ _ hq
  exact Go.step (fun _ k => stp.trans k) (K v B.U B.U.heap L (W.behindB hF X' hl hcc hss f1 f2 hsf hge) hq)
theorem Wk.ldcI (W : Wk p l e R s m args below meth c Z a0 EL y bytes ml ret T h vm0 cells slots) {index : Nat} {v : Int32} (w : (Cond.constant y.cls index v).before a0 Z = true) (hd : decode bytes pc = .ok (.ldc index, 2)) (K : Go p e below s Z EL KC KS Q T (mkF m (pc + 2) Ls (.int v :: rest))) : Go p e below s Z EL KC KS Q T (mkF m pc Ls rest) := by
  obtain ⟨_, X, -, hZ, hown, -⟩ := id W
  exact Go.step (X.ldcInt W.hx hown (mvT hZ w) (g := mkF m pc Ls rest) rfl (W.d hd)) K
theorem Wk.ldc2 (W : Wk p l e R s m args below meth c Z a0 EL y bytes ml ret T h vm0 cells slots) {index : Nat} {v : Int64} (w : (Cond.constantLong y.cls index v).before a0 Z = true) (hd : decode bytes pc = .ok (.ldc2_w index, 3)) (K : Go p e below s Z EL KC KS Q T (mkF m (pc + 3) Ls (.long v :: rest))) : Go p e below s Z EL KC KS Q T (mkF m pc Ls rest) := by
  obtain ⟨_, X, -, hZ, hown, -⟩ := id W
  exact Go.step (X.ldc2Long W.hx hown (mvT hZ w) (g := mkF m pc Ls rest) rfl (W.d hd)) K
/-- the end of a walk -/
theorem Wk.leave (W : Wk p l e R s m args below meth c Z a0 EL y bytes ml ret T h vm0 cells slots) {v : Option Value} (hv : ret = none → v = none) (hq : Q v h) (hc : cells ≤ KC) (hs : slots ≤ KS)
    (f : ∀ (locs : List Loc) (fs : List Frame), Stand p l e R (s.setVm vm0) m args below meth c T locs cells slots → meth.sig.returnType = ret → (∀ (f : JFrame) (acts : List Action), f.method = m → f.locked = none → f.entered = [] → (doReturn e (T.setTop f) acts v).1 = T.setFrames fs) → Steps p.tables e below (T.setTop g) (T.setFrames fs)) : Go p e below s Z EL KC KS Q T g := by
  obtain ⟨locs, X, hT, hZ, hown, ⟨k0, hS, hk⟩, hC, hF, hE, r1, r2, r3, r4, r5, r6, hEL⟩ := W
  obtain ⟨fs, hr, hrun, hended, hW⟩ := X.leaveW hS (by rw [hT]; exact hk) (v := v) (fun q => hv (r4.symm.trans q))
  refine ⟨_, _, f locs fs X r4 hr, hrun, hended, v, locs, rfl, ⟨?_, hF, ?_⟩, ?_, hW.1, hW.2.1, hW.2.2.1, hW.2.2.2.mono hc hs⟩
  · show Q v T.heap
    rw [hT]; exact hq
  · show Ext Z.heap T.heap
    rw [hT]; exact hE
  · show CHr Z EL s.vm s.heap T.vm T.heap
    rw [hT]; exact hC.trans (CHv.at X hZ hEL hC.1)
theorem Wk.retV (W : Wk p l e R s m args below meth c Z a0 EL y bytes ml none T h vm0 cells slots) (hd : decode bytes pc = .ok (.return_, 1)) (hq : Q none h) (hc : cells ≤ KC) (hs : slots ≤ KS) : Go p e below s Z EL KC KS Q T (mkF m pc Ls []) :=
  W.leave (fun _ => rfl) hq hc hs fun locs fs X hret hr => X.returnOut W.hx hret (W.d hd) hr
theorem Wk.retN {t : FieldType} (W : Wk p l e R s m args below meth c Z a0 EL y bytes ml (some t) T h vm0 cells slots) (ht : t = .boolean ∨ t = .byte ∨ t = .char ∨ t = .short) {z : Int32} (hd : decode bytes pc = .ok (.ireturn, 1)) (hq : Q (some (.int (nar t z))) h) (hc : cells ≤ KC) (hs : slots ≤ KS) : Go p e below s Z EL KC KS Q T (mkF m pc Ls (.int z :: rest)) :=
  W.leave (fun q => by cases q) hq hc hs fun locs fs X hret hr => RoadKit.retN X W.hx hret ht (W.d hd) hr
theorem Wk.retI (W : Wk p l e R s m args below meth c Z a0 EL y bytes ml (some .int) T h vm0 cells slots) {z : Int32} (hd : decode bytes pc = .ok (.ireturn, 1)) (hq : Q (some (.int z)) h) (hc : cells ≤ KC) (hs : slots ≤ KS) : Go p e below s Z EL KC KS Q T (mkF m pc Ls (.int z :: rest)) :=
  W.leave (fun q => by cases q) hq hc hs fun locs fs X hret hr => retOut X W.hx hret rfl (Or.inl ⟨rfl, Or.inl rfl, z, rfl⟩) (W.d hd) hr
theorem Wk.retL (W : Wk p l e R s m args below meth c Z a0 EL y bytes ml (some .long) T h vm0 cells slots) {z : Int64} (hd : decode bytes pc = .ok (.lreturn, 1)) (hq : Q (some (.long z)) h) (hc : cells ≤ KC) (hs : slots ≤ KS) : Go p e below s Z EL KC KS Q T (mkF m pc Ls (.long z :: rest)) :=
  W.leave (fun q => by cases q) hq hc hs fun locs fs X hret hr => retOut X W.hx hret rfl (Or.inr (Or.inl ⟨rfl, rfl, z, rfl⟩)) (W.d hd) hr
theorem Wk.retR {t : FieldType} (W : Wk p l e R s m args below meth c Z a0 EL y bytes ml (some t) T h vm0 cells slots) (ht : t.isReference = true) {v : Value} (hv : v.isRef = true) (hnr : narrow t v = v) (hd : decode bytes pc = .ok (.areturn, 1)) (hq : Q (some v) h) (hc : cells ≤ KC) (hs : slots ≤ KS) : Go p e below s Z EL KC KS Q T (mkF m pc Ls (v :: rest)) :=
  W.leave (fun q => by cases q) hq hc hs fun locs fs X hret hr => retOut X W.hx hret hnr (Or.inr (Or.inr (Or.inr (Or.inr ⟨rfl, ht, hv⟩)))) (W.d hd) hr
end Walk
section Facts
variable {Z : State} {h h' : Heap} {a b o : Addr} {C K S : String} {a0 : Array Value} {EL : List (String × Nat)} {vm : Vm}
theorem nin1 {x y : Addr} (q : x ≠ y) : x ∉ [y] := ninS q nin0
/-- K is no interface -/
def NoFace (Z : State) (K : String) : Prop := ∃ (t : ClassId) (kt : Class), Z.vm.findClass K = some t ∧ Z.vm.classes[t]? = some kt ∧ kt.isInterface = false
theorem nf_inst {n : Nat} (wk : (Cond.instantiable K n).before a0 Z = true) : NoFace Z K := by
  obtain ⟨t, kt, g1, g2, -, g4, -⟩ := Cond.instantiable_spec wk
  exact ⟨t, kt, g1, g2, by simp only [Bool.or_eq_false_iff] at g4; exact g4.1⟩
theorem nf_sel {y : MethodName} (w : (Cond.selects y.cls y y).before a0 Z = true) : NoFace Z y.cls := by
  obtain ⟨c, r, m, -, -, h3, -, mk, h5, h6⟩ := Cond.selects_spec w
  exact ⟨m.cls, mk, findClass_of_methodNamed h3, h5, h6⟩
/-- C's chain of superclasses does not meet K -/
theorem NSr {O : String} (w : (Cond.noSuperclass O).before a0 Z = true) (wk : NoFace Z K) (hn : O ≠ K) : NS Z O K := by
  obtain ⟨c, k, h1, h2, h3, -, -⟩ := Cond.noSuperclass_spec w
  obtain ⟨t, kt, g1, -⟩ := wk
  have ne := ids_ne h1 g1 hn
  refine ⟨c, t, h1, g1, fun fuel => ?_⟩
  cases fuel with
  | zero => rfl
  | succ f => simp [Vm.isSubclassAux, ne, h2, h3]
theorem NSno (w : (Cond.superclass C S).before a0 Z = true) (wk : NoFace Z K) (q : NS Z C K) (hn : C ≠ K) : ∃ c t, Z.vm.findClass C = some c ∧ Z.vm.findClass K = some t ∧ Z.vm.assignable c t = false := by
  obtain ⟨c, t, h0, g0, n3⟩ := q
  obtain ⟨p, k, kp, h1, h2, h3, h4, h5, -, h7⟩ := Cond.superclass_spec h0 w
  obtain ⟨t', kt, g1, g2, g7⟩ := wk
  cases g0.symm.trans g1
  have ne := ids_ne h0 g0 hn
  refine ⟨c, t, h0, g0, ?_⟩
  show Z.vm.assignableAux (255 + 1) c t = false
  cases hk : kt.kind <;> simp [Vm.assignableAux, ne, h2, g2, h5, hk, g7, Vm.isSubclass, n3]
/-- a String that is being made is none that the tables book: it has no array yet -/
theorem Safe.blank (hal : Z.vm.Alike vm) (E : Exa Z h a "java/lang/String") (F : Fld Z h a "java/lang/String" "value" "[B" .null) : Safe Z EL vm h a := fun B => by
  obtain ⟨cell, k, e1, e2, e3, -, -⟩ := E
  obtain ⟨cell', cf, kf, i, f, f1, f2, -, -, -, -, f7⟩ := F
  cases f1.symm.trans e1
  obtain ⟨pp, -, u, a', -, q, -, F', hy⟩ := B
  rcases hy with rfl | rfl
  · cases (show h[q.sa]? = some q.sC from F'.ha).symm.trans e1
    obtain ⟨cS, ⟨⟨-, -, -, ⟨c1, k1, i1, g1, -⟩, -, -, -, v1, -⟩, -⟩, -⟩ := F'
    obtain ⟨k3, g3, -⟩ := State.fieldFound?_setVm (s := Z) hal f2
    have g4 := (show (Wst Z vm h).fieldFound? "java/lang/String" "value" "[B" = _ from g3).symm.trans g1
    simp only [Option.some.injEq, Prod.mk.injEq] at g4
    rw [← g4.2.2.2, f7] at v1
    cases v1
  · cases (show h[q.sd]? = some q.SA from F'.hd).symm.trans e1
    obtain ⟨cS, ⟨⟨-, -, -, -, -, -, -, -, -, -, ⟨-, kB, hkB, compB, hkindB⟩, -⟩, -, -⟩, -, hB, -⟩ := F'
    have hB' : vm.findClass "[B" = some q.SA.cls := hB
    rw [hal.findClass] at hB'
    exact (ids_ne (C := "[B") (K := "java/lang/String") hB' e2 (by decide)) rfl
/-- a String: its signs, each below 256 -/
def Str (Z : State) (h : Heap) (a : Addr) (cs : List Int32) : Prop := ∃ (t : Addr) (kb : ClassId), Exa Z h a "java/lang/String" ∧ Fld Z h a "java/lang/String" "value" "[B" (.ref t) ∧ Fld Z h a "java/lang/String" "coder" "B" (.int 0) ∧ Arv Z h t kb .byte (Int32.ofNat cs.length) (cs.map fun c => Value.int c.toInt8.toInt32) (.int 0) ∧ (∀ c ∈ cs, ¬ c < 0 ∧ ¬ (255 : Int32) < c) ∧ cs.length ≤ 4000
variable {cs : List Int32} {ws : List Addr}
theorem Str.exa (F : Str Z h a cs) : Exa Z h a "java/lang/String" := by obtain ⟨_, _, r, -⟩ := F; exact r
theorem Str.ext (F : Str Z h a cs) (E : Ext h h') : Str Z h' a cs := by
  obtain ⟨t, kb, q1, q2, q3, q4, r⟩ := F
  exact ⟨t, kb, q1.ext E, q2.ext E, q3.ext E, q4.ext E, r⟩
theorem Str.keep0 (F : Str Z h a cs) (K : Keep h h' []) : Str Z h' a cs := F.ext (ext_keep0 K)
theorem Str.keepE {n : Nat} (F : Str Z h a cs) (K : Keep h h' [o]) (E : Exa Z h o C) (hn : C ≠ "java/lang/String") (wi : (Cond.instantiable C n).before a0 Z = true) : Str Z h' a cs := by
  obtain ⟨t, kb, q1, q2, q3, q4, r⟩ := F
  have n1 : a ≠ o := fun q => (Exa.ne E q1 hn) q.symm
  have n2 : t ≠ o := fun q => (Exa.neArv E q4 wi) q.symm
  exact ⟨t, kb, q1.keep K, q2.keep K (nin1 n1), q3.keep K (nin1 n1), q4.keep K (nin1 n2), r⟩
theorem arv_sort {k k' : ClassId} {ty ty' : FieldType} {z z' : Int32} {vs vs' : List Value} {d d' : Value} (A : Arv Z h a k ty z vs d) (B : Arv Z h b k' ty' z' vs' d') (hn : ty ≠ ty') : a ≠ b := fun q => by
  subst q
  obtain ⟨c1, ⟨e1, ⟨-, k1, f1, m1, g1⟩, -⟩, -⟩ := A
  obtain ⟨c2, ⟨e2, ⟨-, k2, f2, m2, g2⟩, -⟩, -⟩ := B
  cases e1.symm.trans e2
  cases f1.symm.trans f2
  have := g1.symm.trans g2
  injection this with _ e
  exact hn e
theorem Str.keepC {n : Nat} {k : ClassId} {ty : FieldType} {z : Int32} {vs : List Value} {d : Value} (F : Str Z h a cs) (K : Keep h h' [o]) (V : Arv Z h o k ty z vs d) (ht : FieldType.byte ≠ ty) (wi : (Cond.instantiable "java/lang/String" n).before a0 Z = true) : Str Z h' a cs := by
  obtain ⟨t, kb, q1, q2, q3, q4, r⟩ := F
  have n1 : a ≠ o := Exa.neArv q1 V wi
  have n2 : t ≠ o := arv_sort q4 V ht
  exact ⟨t, kb, q1.keep K, q2.keep K (nin1 n1), q3.keep K (nin1 n1), q4.keep K (nin1 n2), r⟩
theorem Str.keepS {n : Nat} (F : Str Z h a cs) (K : Keep h h' [o]) (E : Exa Z h o C) (wi : (Cond.instantiable C n).before a0 Z = true) (n1 : a ≠ o) : Str Z h' a cs := by
  obtain ⟨t, kb, q1, q2, q3, q4, r⟩ := F
  have n2 : t ≠ o := fun q => (Exa.neArv E q4 wi) q.symm
  exact ⟨t, kb, q1.keep K, q2.keep K (nin1 n1), q3.keep K (nin1 n1), q4.keep K (nin1 n2), r⟩
abbrev Sm (c : Int32) : Prop := ¬ c < 0 ∧ ¬ (255 : Int32) < c
theorem sm0 {P : Int32 → Prop} : ∀ x ∈ ([] : List Int32), P x := fun _ q => nomatch q
theorem smS {P : Int32 → Prop} {y : Int32} {L : List Int32} (q : P y) (r : ∀ x ∈ L, P x) : ∀ x ∈ y :: L, P x := fun x z => (List.mem_cons.mp z).elim (fun u => u ▸ q) (r x)
abbrev B2 (z : Int32) : Prop := z = 0 ∨ z = 1
abbrev T3 (z : Int32) : Prop := z = 0 ∨ z = 1 ∨ z = 2
/-- the signs of a text of at most two -/
def sel (n c0 c1 : Int32) : List Int32 := if n = 0 then [] else if n = 1 then [c0] else [c0, c1]
theorem sel_eq {n k a b c d : Int32} (hn : T3 n) (hk : T3 k) : sel n a b = sel k c d ↔ n = k ∧ (n < 1 ∨ a = c) ∧ (n < 2 ∨ b = d) := by
  rcases hn with rfl | rfl | rfl <;> rcases hk with rfl | rfl | rfl <;> simp [sel] <;> decide
theorem sel_sm {n a b : Int32} (ha : Sm a) (hb : Sm b) : ∀ c ∈ sel n a b, Sm c := by
  unfold sel
  split
  · exact sm0
  · split
    · exact smS ha sm0
    · exact smS ha (smS hb sm0)
/-- numbers below 256 -/
theorem fin256 {P : Int32 → Prop} (t : ∀ k : Fin 256, P (Int32.ofNat k.val)) {c : Int32} (h0 : ¬ c < 0) (h1 : ¬ (255 : Int32) < c) : P c := by
  rw [Int32.lt_iff_toInt_lt] at h0 h1
  have e0 : (0 : Int32).toInt = 0 := rfl
  have e1 : (255 : Int32).toInt = 255 := rfl
  have e : Int32.ofNat c.toInt.toNat = c := by
    rw [show Int32.ofNat c.toInt.toNat = Int32.ofInt (c.toInt.toNat : Int) from rfl, Int.toNat_of_nonneg (by omega)]; exact Int32.ofInt_toInt c
  have q := t ⟨c.toInt.toNat, by omega⟩
  rw [e] at q; exact q
theorem nar_small {c : Int32} (h : ¬ c < 0 ∧ ¬ (255 : Int32) < c) : nar .char c = c := fin256 (P := fun c => nar .char c = c) (by decide +kernel) h.1 h.2
theorem nar_byte8 {c : Int32} (h : ¬ c < 0 ∧ ¬ (255 : Int32) < c) : nar .byte (c.toInt8.toInt32) = c.toInt8.toInt32 := fin256 (P := fun c => nar .byte (c.toInt8.toInt32) = c.toInt8.toInt32) (by decide +kernel) h.1 h.2
theorem low_back {c : Int32} (h : ¬ c < 0 ∧ ¬ (255 : Int32) < c) : c.toInt8.toInt32 &&& 255 = c := fin256 (P := fun c => c.toInt8.toInt32 &&& 255 = c) (by decide +kernel) h.1 h.2
theorem low_inj {x y : Int32} (hx : Sm x) (hy : Sm y) (e : x.toInt8.toInt32 = y.toInt8.toInt32) : x = y := by
  have q := low_back hx
  rw [e, low_back hy] at q; exact q.symm
theorem Str.uniq {ds : List Int32} (F : Str Z h a cs) (G : Str Z h a ds) : cs = ds := by
  obtain ⟨t, kb, -, q2, -, q4, q5, q6⟩ := F
  obtain ⟨t', kb', -, r2, -, r4, r5, r6⟩ := G
  have et : t = t' := by
    obtain ⟨c1, _, _, _, _, h1, h2, -, -, -, -, h7⟩ := q2
    obtain ⟨c2, _, _, _, _, g1, g2, -, -, -, -, g7⟩ := r2
    cases h1.symm.trans g1; cases h2.symm.trans g2
    have := h7.symm.trans g7
    simpa using this
  subst et
  obtain ⟨c1, A1, -, s1, -, H1, -⟩ := q4
  obtain ⟨c2, A2, -, s2, -, H2, -⟩ := r4
  cases A1.1.symm.trans A2.1
  have n32 : ∀ n : Nat, n ≤ 4000 → (Int32.ofNat n).toNatClampNeg = n := fun n hn => by
    rw [Int32.toNatClampNeg, Int32.toInt_ofNat_of_lt (by omega)]; rfl
  rw [n32 _ q6] at s1
  rw [n32 _ r6] at s2
  have hl : cs.length = ds.length := s1.symm.trans s2
  apply List.ext_getElem hl
  intro i h1 h2
  have e1 := H1 i (by omega)
  have e2 := H2 i (by omega)
  rw [e1] at e2
  simp only [List.getD_eq_getElem?_getD, List.getElem?_map, List.getElem?_eq_getElem h1, List.getElem?_eq_getElem h2, Option.map_some, Option.getD_some, Option.some.injEq, Value.int.injEq] at e2
  exact low_inj (q5 _ (List.getElem_mem h1)) (r5 _ (List.getElem_mem h2)) e2
theorem maskN (k : Nat) (m : Int32) (hm : m.toBitVec.toNat = k) (x : Int32) : ∃ j : Nat, j ≤ k ∧ x &&& m = Int32.ofNat j := by
  refine ⟨(x &&& m).toBitVec.toNat, ?_, ?_⟩
  · simp only [Int32.toBitVec_and, BitVec.toNat_and]
    rw [hm]; exact Nat.and_le_right
  · apply Int32.toBitVec_inj.mp
    show _ = BitVec.ofNat 32 _
    rw [BitVec.ofNat_toNat]; simp
theorem maskL (k : Nat) (m : Int64) (hm : m.toBitVec.toNat = k) (x : Int64) : ∃ j : Nat, j ≤ k ∧ x &&& m = Int64.ofNat j := by
  refine ⟨(x &&& m).toBitVec.toNat, ?_, ?_⟩
  · simp only [Int64.toBitVec_and, BitVec.toNat_and]
    rw [hm]; exact Nat.and_le_right
  · apply Int64.toBitVec_inj.mp
    show _ = BitVec.ofNat 64 _
    rw [BitVec.ofNat_toNat]; simp
/-- (char) (x & 255) -/
theorem chr255 (x : Int32) : ¬ ((x &&& (255 : Int32)).toUInt32.toUInt16.toUInt32.toInt32) < 0 ∧ ¬ (255 : Int32) < ((x &&& (255 : Int32)).toUInt32.toUInt16.toUInt32.toInt32) := by
  have t : ∀ k : Fin 256, ¬ ((Int32.ofNat k.val).toUInt32.toUInt16.toUInt32.toInt32) < 0 ∧ ¬ (255 : Int32) < ((Int32.ofNat k.val).toUInt32.toUInt16.toUInt32.toInt32) := by decide +kernel
  obtain ⟨j, hj, e⟩ := maskN 255 255 rfl x
  rw [e]; exact t ⟨j, by omega⟩
theorem rem3 (x : Int32) : (x &&& (3 : Int32)) - ((x &&& (3 : Int32)) / (3 : Int32)) * (3 : Int32) = 0 ∨ (x &&& (3 : Int32)) - ((x &&& (3 : Int32)) / (3 : Int32)) * (3 : Int32) = 1 ∨ (x &&& (3 : Int32)) - ((x &&& (3 : Int32)) / (3 : Int32)) * (3 : Int32) = 2 := by
  have t : ∀ k : Fin 4, (Int32.ofNat k.val) - ((Int32.ofNat k.val) / (3 : Int32)) * (3 : Int32) = 0 ∨ (Int32.ofNat k.val) - ((Int32.ofNat k.val) / (3 : Int32)) * (3 : Int32) = 1 ∨ (Int32.ofNat k.val) - ((Int32.ofNat k.val) / (3 : Int32)) * (3 : Int32) = 2 := by decide +kernel
  obtain ⟨j, hj, e⟩ := maskN 3 3 rfl x
  rw [e]; exact t ⟨j, by omega⟩
end Facts
end Jvm.Own
/- laws to paste: Road.backV, Road.codOf (cut by pick.py; bodies as the Statement names them) -/
namespace Jvm.Pilot.@@N@@
namespace StrChars
open Jvm Sem ClassFile Op Lib Jvm.Stand Jvm.Free.XT Jvm.Free.ALB Jvm.Free.JM Jvm.Free
open Jvm.Lib.Cold (StaticIs)
/-- a char array whose places are chars -/
def Ch (a : Addr) (A : Cell) (U : State) : Prop := Arr .char a A U ∧ Typed .char A
theorem Ch.mv {a : Addr} {A : Cell} {U U' : State} (h : Ch a A U) (hal : U.vm.Alike U'.vm) (hh : U'.heap = U.heap) : Ch a A U' := ⟨h.1.mv hal hh, h.2⟩
theorem Ch.keep {a : Addr} {A : Cell} {U U' : State} (h : Ch a A U) (hal : U.vm.Alike U'.vm) (hk : U'.heap[a]? = some A) : Ch a A U' := ⟨h.1.keep hal hk, h.2⟩
/-- what place i of a char[]'s cell holds -/
def cv (A : Cell) (i : Nat) : Int32 := match A.slots[i]? with | some (.int x) => x | _ => 0
theorem Ch.get {a : Addr} {A : Cell} {U : State} (h : Ch a A U) {i : Nat} (hi : i < A.slots.size) : A.slots[i]? = some (.int (cv A i)) := by
  have e := Array.getElem?_eq_getElem hi
  have f := h.2 i _ e
  unfold cv; rw [e]
  generalize A.slots[i] = v at f
  cases v <;> simp [fits] at f ⊢
/-- the byte that i2b leaves of a char -/
def lo8 (x : Int32) : Int32 := x.toInt8.toInt32
theorem fits_lo8 (y : Int32) : fits .byte (.int (lo8 y)) = true := by
  have h1 := y.toInt8.le_toInt
  have h2 := y.toInt8.toInt_lt
  simp only [lo8, fits, Bool.and_eq_true, decide_eq_true_eq, Int32.le_iff_toInt_le, Int8.toInt_toInt32, show (-128 : Int32).toInt = -128 from by decide, show (127 : Int32).toInt = 127 from by decide]
  omega
/-- A' is A but that each place j of lo .. hi - 1 holds f j -/
def Laid (A A' : Cell) (lo hi : Nat) (f : Nat → Value) : Prop := A'.cls = A.cls ∧ A'.vm = A.vm ∧ A'.slots.size = A.slots.size ∧ ∀ i, A'.slots[i]? = if lo ≤ i ∧ i < hi then some (f i) else A.slots[i]?
theorem Laid.zero (A : Cell) (lo : Nat) (f : Nat → Value) : Laid A A lo (lo + 0) f := ⟨rfl, rfl, rfl, fun i => by rw [if_neg (by omega)]⟩
theorem Laid.step {A Ak : Cell} {lo k : Nat} {f : Nat → Value} {v : Value} (h : Laid A Ak lo k f) (hlo : lo ≤ k) (hk : k < Ak.slots.size) (hv : v = f k) : Laid A (Ak.setSlot k v) lo (k + 1) f := by
  refine ⟨h.1, h.2.1, by simpa [Cell.setSlot] using h.2.2.1, fun i => ?_⟩
  by_cases e : k = i
  · subst e; rw [Cell.slots_setSlot_self v hk, if_pos (by omega), hv]
  · rw [Cell.slots_setSlot_ne v e, h.2.2.2 i]
    by_cases q : lo ≤ i ∧ i < k
    · rw [if_pos q, if_pos (by omega)]
    · rw [if_neg q, if_neg (by omega)]
def U16 : String := "java/lang/StringUTF16"
namespace Cmp5
def yN : MethodName := ⟨"java/lang/StringUTF16", "compress", "([CI[BII)I"⟩
abbrev yB : ByteArray := jdk_52_method_21_code
theorem d0 : decode yB 0 = .ok (.iconst 0, 1) := by decide +kernel
theorem d1 : decode yB 1 = .ok (.istore 5, 2) := by decide +kernel
theorem d3 : decode yB 3 = .ok (.iload 5, 2) := by decide +kernel
theorem d5 : decode yB 5 = .ok (.iload 4, 2) := by decide +kernel
theorem d7 : decode yB 7 = .ok (.if_icmp (.ge) 37, 3) := by decide +kernel
theorem d10 : decode yB 10 = .ok (.aload_n 0, 1) := by decide +kernel
theorem d11 : decode yB 11 = .ok (.iload_n 1, 1) := by decide +kernel
theorem d12 : decode yB 12 = .ok (.caload, 1) := by decide +kernel
theorem d13 : decode yB 13 = .ok (.istore 6, 2) := by decide +kernel
theorem d15 : decode yB 15 = .ok (.iload 6, 2) := by decide +kernel
theorem d17 : decode yB 17 = .ok (.sipush 255, 3) := by decide +kernel
theorem d20 : decode yB 20 = .ok (.if_icmp (.le) 6, 3) := by decide +kernel
theorem d26 : decode yB 26 = .ok (.aload_n 2, 1) := by decide +kernel
theorem d27 : decode yB 27 = .ok (.iload_n 3, 1) := by decide +kernel
theorem d28 : decode yB 28 = .ok (.iload 6, 2) := by decide +kernel
theorem d30 : decode yB 30 = .ok (.i2b, 1) := by decide +kernel
theorem d31 : decode yB 31 = .ok (.bastore, 1) := by decide +kernel
theorem d32 : decode yB 32 = .ok (.iinc 1 1, 3) := by decide +kernel
theorem d35 : decode yB 35 = .ok (.iinc 3 1, 3) := by decide +kernel
theorem d38 : decode yB 38 = .ok (.iinc 5 1, 3) := by decide +kernel
theorem d41 : decode yB 41 = .ok (.goto (-38), 3) := by decide +kernel
theorem d44 : decode yB 44 = .ok (.iload 4, 2) := by decide +kernel
theorem d46 : decode yB 46 = .ok (.ireturn, 1) := by decide +kernel
def site : List Cond := []
def tab : Cond := tabOf yN yB 7 (some .int) site
def P (b : Addr) (A : Cell) (d : Addr) (B : Cell) (o q len : Nat) (args : Array Value) (s : State) : Prop := args = #[.ref b, .int (Int32.ofNat o), .ref d, .int (Int32.ofNat q), .int (Int32.ofNat len)] ∧ Ch b A s ∧ Arr .byte d B s ∧ b ≠ d ∧ o + len ≤ A.slots.size ∧ q + len ≤ B.slots.size ∧ ∀ i, i < len → ¬ 255 < cv A (o + i)
def E (b : Addr) (A : Cell) (d : Addr) (B : Cell) (o q len : Nat) (r : Option Value) (s u : State) : Prop := r = some (.int (Int32.ofNat len)) ∧ ∃ B', Put d B' s u ∧ Laid B B' q (q + len) (fun j => Value.int (lo8 (cv A (o + (j - q)))))
/-- no char of the range above 255: len; the places written hold each char's low byte -/
theorem law (l : Launch) (b : Addr) (A : Cell) (d : Addr) (B : Cell) (o q len : Nat) : Law l yN 5 5 0 0 yB 7 (some .int) site (P b A d B o q len) (E b A d B o q len) (copyLocs d q len) 0 0 := by
  refine Law.of_walk (plainFor_of_name (by decide +kernel)) (by decide +kernel) (by decide +kernel) (by decide) (fun _ _ h => by rw [h.1]; rfl) (fun _ U U' hal hh h => ⟨h.1, h.2.1.mv hal hh, h.2.2.1.mv hal hh, h.2.2.2⟩) (fun r U U' V V' h1 hal h2 h => ⟨h.1, h.2.elim fun B' q => ⟨B', q.1.mv h1 h2, q.2⟩⟩) ?_
  intro p e s m args below meth c s₁ X0 hexec hbytes hml hret hlk hnm hown hh0 W hP
  obtain ⟨rfl, hA, hB, hne, l1, l2, hp⟩ := hP
  have c1 : Steps p.tables e below (s₁.setTop (entryFrame m #[.ref b, .int (Int32.ofNat o), .ref d, .int (Int32.ofNat q), .int (Int32.ofNat len)] 7)) (s₁.setTop (mkF m 0 #[.val (.ref b), .val (.int (Int32.ofNat o)), .val (.ref d), .val (.int (Int32.ofNat q)), .val (.int (Int32.ofNat len)), .unset, .unset] [])) := entry rfl
  have hA0 := hA.1.mv X0.warmed.alike hh0
  have hB0 := hB.mv X0.warmed.alike hh0
  have a31 := hA.1.2.2.2
  have c2 : Steps p.tables e below (s₁.setTop (entryFrame m #[.ref b, .int (Int32.ofNat o), .ref d, .int (Int32.ofNat q), .int (Int32.ofNat len)] 7)) (s₁.setTop (mkF m 3 #[.val (.ref b), .val (.int (Int32.ofNat o)), .val (.ref d), .val (.int (Int32.ofNat q)), .val (.int (Int32.ofNat len)), .val (.int 0), .unset] [])) := c1.trans (by
    refine iconstV X0.here hexec rfl 0 (hb hbytes d0) (by decide) ?_
    refine XS.istore X0.here hexec rfl (hb hbytes d1) rfl rfl ?_
    exact Steps.refl _)
  have loop : ∀ (r i : Nat), i + r = len → ∀ (z : Slot), (z = .unset ∨ ∃ w, z = .val w ∧ w.category = 1) → ∀ (Tl : State) (Bk : Cell), Stand p l e { frames := 0, locals := 0, cells := 0, slots := 0 } s m #[.ref b, .int (Int32.ofNat o), .ref d, .int (Int32.ofNat q), .int (Int32.ofNat len)] below meth c Tl ([] ++ copyLocs d q i) 0 0 → Put d Bk s₁ Tl → Laid B Bk q (q + i) (fun j => Value.int (lo8 (cv A (o + (j - q))))) →
      Steps p.tables e below (s₁.setTop (entryFrame m #[.ref b, .int (Int32.ofNat o), .ref d, .int (Int32.ofNat q), .int (Int32.ofNat len)] 7)) (Tl.setTop (mkF m 3 #[.val (.ref b), .val (.int (Int32.ofNat (o + i))), .val (.ref d), .val (.int (Int32.ofNat (q + i))), .val (.int (Int32.ofNat len)), .val (.int (Int32.ofNat i)), z] [])) → ∃ (T' : State) (B' : Cell) (z' : Slot), Stand p l e { frames := 0, locals := 0, cells := 0, slots := 0 } s m #[.ref b, .int (Int32.ofNat o), .ref d, .int (Int32.ofNat q), .int (Int32.ofNat len)] below meth c T' ([] ++ copyLocs d q len) 0 0 ∧ Put d B' s₁ T' ∧ Laid B B' q (q + len) (fun j => Value.int (lo8 (cv A (o + (j - q))))) ∧
      Steps p.tables e below (s₁.setTop (entryFrame m #[.ref b, .int (Int32.ofNat o), .ref d, .int (Int32.ofNat q), .int (Int32.ofNat len)] 7)) (T'.setTop (mkF m 3 #[.val (.ref b), .val (.int (Int32.ofNat (o + len))), .val (.ref d), .val (.int (Int32.ofNat (q + len))), .val (.int (Int32.ofNat len)), .val (.int (Int32.ofNat len)), z'] [])) := by
    intro r
    induction r with
    | zero =>
      intro i hi z hz Tl Bk Xl pl fl cl
      have hil : i = len := by omega
      rw [hil] at Xl fl cl
      exact ⟨Tl, Bk, z, Xl, pl, fl, cl⟩
    | succ r ih =>
      intro i hi z hz Tl Bk Xl pl fl cl
      have all := X0.warmed.alike.symm.trans Xl.warmed.alike
      have hAl := hA0.keep all (pl.other hne hA0.1)
      have hBk := hB0.like all pl.1 fl.1 fl.2.1 fl.2.2.1
      have hlt : q + i < Bk.slots.size := by rw [fl.2.2.1]; omega
      have c3 : Steps p.tables e below (s₁.setTop (entryFrame m #[.ref b, .int (Int32.ofNat o), .ref d, .int (Int32.ofNat q), .int (Int32.ofNat len)] 7)) (Tl.setTop (mkF m 12 #[.val (.ref b), .val (.int (Int32.ofNat (o + i))), .val (.ref d), .val (.int (Int32.ofNat (q + i))), .val (.int (Int32.ofNat len)), .val (.int (Int32.ofNat i)), z] [.int (Int32.ofNat (o + i)), .ref b])) := cl.trans (by
        refine XS.iload Xl.here hexec rfl (hb hbytes d3) rfl ?_
        refine XS.iload Xl.here hexec rfl (hb hbytes d5) rfl ?_
        refine XS.icmpNo Xl.here hexec rfl (hb hbytes d7) rfl (ii_ge_f (lt32 (by omega) (by omega))) ?_
        refine XS.aloadN Xl.here hexec rfl (hb hbytes d10) rfl rfl ?_
        refine XS.iloadN Xl.here hexec rfl (hb hbytes d11) rfl ?_
        exact Steps.refl _)
      have c4 : Steps p.tables e below (s₁.setTop (entryFrame m #[.ref b, .int (Int32.ofNat o), .ref d, .int (Int32.ofNat q), .int (Int32.ofNat len)] 7)) (Tl.setTop (mkF m 13 #[.val (.ref b), .val (.int (Int32.ofNat (o + i))), .val (.ref d), .val (.int (Int32.ofNat (q + i))), .val (.int (Int32.ofNat len)), .val (.int (Int32.ofNat i)), z] [.int (cv A (o + i))])) := c3.trans (by
        refine Xl.aget hexec hAl rfl (hA.get (i := o + i) (by omega)) rfl rfl (hb hbytes d12) ?_
        exact Steps.refl _)
      have c5 : Steps p.tables e below (s₁.setTop (entryFrame m #[.ref b, .int (Int32.ofNat o), .ref d, .int (Int32.ofNat q), .int (Int32.ofNat len)] 7)) (Tl.setTop (mkF m 15 #[.val (.ref b), .val (.int (Int32.ofNat (o + i))), .val (.ref d), .val (.int (Int32.ofNat (q + i))), .val (.int (Int32.ofNat len)), .val (.int (Int32.ofNat i)), .val (.int (cv A (o + i)))] [])) := c4.trans (by
        refine XS.istoreS Xl.here hexec rfl (hb hbytes d13) rfl rfl hz ?_
        exact Steps.refl _)
      have c6 : Steps p.tables e below (s₁.setTop (entryFrame m #[.ref b, .int (Int32.ofNat o), .ref d, .int (Int32.ofNat q), .int (Int32.ofNat len)] 7)) (Tl.setTop (mkF m 31 #[.val (.ref b), .val (.int (Int32.ofNat (o + i))), .val (.ref d), .val (.int (Int32.ofNat (q + i))), .val (.int (Int32.ofNat len)), .val (.int (Int32.ofNat i)), .val (.int (cv A (o + i)))] [.int (lo8 (cv A (o + i))), .int (Int32.ofNat (q + i)), .ref d])) := c5.trans (by
        refine XS.iload Xl.here hexec rfl (hb hbytes d15) rfl ?_
        refine sipushV Xl.here hexec rfl 255 (hb hbytes d17) (by decide) ?_
        refine XS.icmpYes Xl.here hexec rfl (pc0 := 20) rfl (hb hbytes d20) rfl (ii_le_t (hp i (by omega))) (by decide) rfl ?_
        refine XS.aloadN Xl.here hexec rfl (hb hbytes d26) rfl rfl ?_
        refine XS.iloadN Xl.here hexec rfl (hb hbytes d27) rfl ?_
        refine XS.iload Xl.here hexec rfl (hb hbytes d28) rfl ?_
        refine i2b Xl.here hexec rfl (hb hbytes d30) rfl ?_
        exact Steps.refl _)
      obtain ⟨T7, X7, p7, st7⟩ := Xl.aput hexec hBk rfl hlt rfl (fits_lo8 (cv A (o + i))) (g := (mkF m 31 #[.val (.ref b), .val (.int (Int32.ofNat (o + i))), .val (.ref d), .val (.int (Int32.ofNat (q + i))), .val (.int (Int32.ofNat len)), .val (.int (Int32.ofNat i)), .val (.int (cv A (o + i)))] [.int (lo8 (cv A (o + i))), .int (Int32.ofNat (q + i)), .ref d])) rfl (rest := []) rfl (hb hbytes d31)
      have c8 : Steps p.tables e below (s₁.setTop (entryFrame m #[.ref b, .int (Int32.ofNat o), .ref d, .int (Int32.ofNat q), .int (Int32.ofNat len)] 7)) (T7.setTop (mkF m 32 #[.val (.ref b), .val (.int (Int32.ofNat (o + i))), .val (.ref d), .val (.int (Int32.ofNat (q + i))), .val (.int (Int32.ofNat len)), .val (.int (Int32.ofNat i)), .val (.int (cv A (o + i)))] [])) := c6.trans (st7 _ (Steps.refl _))
      have c9 : Steps p.tables e below (s₁.setTop (entryFrame m #[.ref b, .int (Int32.ofNat o), .ref d, .int (Int32.ofNat q), .int (Int32.ofNat len)] 7)) (T7.setTop (mkF m 3 #[.val (.ref b), .val (.int (Int32.ofNat (o + i) + 1)), .val (.ref d), .val (.int (Int32.ofNat (q + i) + 1)), .val (.int (Int32.ofNat len)), .val (.int (Int32.ofNat i + 1)), .val (.int (cv A (o + i)))] [])) := c8.trans (by
        refine iincV X7.here hexec rfl 1 (hb hbytes d32) (by decide) rfl rfl ?_
        refine iincV X7.here hexec rfl 1 (hb hbytes d35) (by decide) rfl rfl ?_
        refine iincV X7.here hexec rfl 1 (hb hbytes d38) (by decide) rfl rfl ?_
        refine XS.goto X7.here hexec rfl (pc0 := 41) rfl (hb hbytes d41) (by decide) rfl ?_
        exact Steps.refl _)
      have c10 : Steps p.tables e below (s₁.setTop (entryFrame m #[.ref b, .int (Int32.ofNat o), .ref d, .int (Int32.ofNat q), .int (Int32.ofNat len)] 7)) (T7.setTop (mkF m 3 #[.val (.ref b), .val (.int (Int32.ofNat (o + (i + 1)))), .val (.ref d), .val (.int (Int32.ofNat (q + (i + 1)))), .val (.int (Int32.ofNat len)), .val (.int (Int32.ofNat (i + 1))), .val (.int (cv A (o + i)))] [])) := by
        have := c9
        rw [succ32, succ32, succ32] at this
        exact this
      exact ih (i + 1) (by omega) _ (Or.inr ⟨_, rfl, rfl⟩) T7 _ (by rw [copyLocs_step, ← List.append_assoc]; exact X7) (pl.trans p7) (fl.step (by omega) hlt (by simp)) c10
  obtain ⟨T9, B9, z9, X9, p9, f9, g9⟩ := loop len 0 (by omega) .unset (Or.inl rfl) s₁ B (by simpa [copyLocs] using X0) ⟨hB0.1, fun _ _ => rfl, rfl⟩ (Laid.zero _ _ _) c2
  have c11 : Steps p.tables e below (s₁.setTop (entryFrame m #[.ref b, .int (Int32.ofNat o), .ref d, .int (Int32.ofNat q), .int (Int32.ofNat len)] 7)) (T9.setTop (mkF m 46 #[.val (.ref b), .val (.int (Int32.ofNat (o + len))), .val (.ref d), .val (.int (Int32.ofNat (q + len))), .val (.int (Int32.ofNat len)), .val (.int (Int32.ofNat len)), z9] [.int (Int32.ofNat len)])) := g9.trans (by
    refine XS.iload X9.here hexec rfl (hb hbytes d3) rfl ?_
    refine XS.iload X9.here hexec rfl (hb hbytes d5) rfl ?_
    refine XS.icmpYes X9.here hexec rfl (pc0 := 7) rfl (hb hbytes d7) rfl (ii_ge_t (nlt32 (by omega) (Nat.le_refl _))) (by decide) rfl ?_
    refine XS.iload X9.here hexec rfl (hb hbytes d44) rfl ?_
    exact Steps.refl _)
  exact ⟨T9, some (.int (Int32.ofNat len)), _, _, _, X9, by simp, rfl, rfl, (fun h => by cases h), ⟨rfl, B9, p9.from hh0, f9⟩, fun fs hl => c11.trans (X9.ireturnOut hexec hret rfl (Or.inl rfl) (hb hbytes d46) hl)⟩
end Cmp5
namespace Cmp3
def yN : MethodName := ⟨"java/lang/StringUTF16", "compress", "([CII)[B"⟩
abbrev yB : ByteArray := jdk_52_method_16_code
theorem d0 : decode yB 0 = .ok (.iload_n 2, 1) := by decide +kernel
theorem d1 : decode yB 1 = .ok (.newarray .byte, 2) := by decide +kernel
theorem d3 : decode yB 3 = .ok (.astore_n 3, 1) := by decide +kernel
theorem d4 : decode yB 4 = .ok (.aload_n 0, 1) := by decide +kernel
theorem d5 : decode yB 5 = .ok (.iload_n 1, 1) := by decide +kernel
theorem d6 : decode yB 6 = .ok (.aload_n 3, 1) := by decide +kernel
theorem d7 : decode yB 7 = .ok (.iconst 0, 1) := by decide +kernel
theorem d8 : decode yB 8 = .ok (.iload_n 2, 1) := by decide +kernel
theorem d9 : decode yB 9 = .ok (.invokestatic 115, 3) := by decide +kernel
theorem d12 : decode yB 12 = .ok (.istore 4, 2) := by decide +kernel
theorem d14 : decode yB 14 = .ok (.iload 4, 2) := by decide +kernel
theorem d16 : decode yB 16 = .ok (.iload_n 2, 1) := by decide +kernel
theorem d17 : decode yB 17 = .ok (.if_icmp (.eq) 40, 3) := by decide +kernel
theorem d57 : decode yB 57 = .ok (.aload_n 3, 1) := by decide +kernel
theorem d58 : decode yB 58 = .ok (.areturn, 1) := by decide +kernel
def site : List Cond := [.arrayClass .byte, Cmp5.tab] ++ staticW U16 115 Cmp5.yN
def tab : Cond := tabOf yN yB 6 (some (.array .byte)) site
def P (b : Addr) (A : Cell) (o len : Nat) (args : Array Value) (s : State) : Prop := args = #[.ref b, .int (Int32.ofNat o), .int (Int32.ofNat len)] ∧ Ch b A s ∧ o + len ≤ A.slots.size ∧ len ≤ 536870912 ∧ ∀ i, i < len → ¬ 255 < cv A (o + i)
def E (b : Addr) (A : Cell) (o len : Nat) (r : Option Value) (s u : State) : Prop := NewArr .byte "[B" len (fun j => .int (lo8 (cv A (o + j)))) r s u ∧ u.heap.size = s.heap.size + 1
/-- no char of the range above 255: a new byte[] of their low bytes -/
theorem law (l : Launch) (b : Addr) (A : Cell) (o len : Nat) : Law l yN 3 3 1 18 yB 6 (some (.array .byte)) site (P b A o len) (E b A o len) [] 1 len := by
  refine Law.of_walk (plainFor_of_name (by decide +kernel)) (by decide +kernel) (by decide +kernel) (by decide) (fun _ _ h => by rw [h.1]; rfl) (fun _ U U' hal hh h => ⟨h.1, h.2.1.mv hal hh, h.2.2⟩) (fun r U U' V V' h1 hal h2 h => ⟨NewArr.mv r U U' V V' h1 hal h2 h.1, by rw [h1, h2]; exact h.2⟩) ?_
  intro p e s m args below meth c s₁ X0 hexec hbytes hml hret hlk hnm hown hh0 W hP
  obtain ⟨rfl, hA, l1, l2, hp⟩ := hP
  have a31 := hA.1.2.2.2
  have c1 : Steps p.tables e below (s₁.setTop (entryFrame m #[.ref b, .int (Int32.ofNat o), .int (Int32.ofNat len)] 6)) (s₁.setTop (mkF m 0 #[.val (.ref b), .val (.int (Int32.ofNat o)), .val (.int (Int32.ofNat len)), .unset, .unset, .unset] [])) := entry rfl
  have c2 : Steps p.tables e below (s₁.setTop (entryFrame m #[.ref b, .int (Int32.ofNat o), .int (Int32.ofNat len)] 6)) (s₁.setTop (mkF m 1 #[.val (.ref b), .val (.int (Int32.ofNat o)), .val (.int (Int32.ofNat len)), .unset, .unset, .unset] [.int (Int32.ofNat len)])) := c1.trans (by
    refine XS.iloadN X0.here hexec rfl (hb hbytes d0) rfl ?_
    exact Steps.refl _)
  obtain ⟨T3, B3, X3, ba3, bs3, bv3, bh3, bf3, st3⟩ := X0.anew hexec (atype := .byte) (wk W (.arrayClass .byte)) rfl (by show len * 1 ≤ _; omega) (by omega) (g := (mkF m 1 #[.val (.ref b), .val (.int (Int32.ofNat o)), .val (.int (Int32.ofNat len)), .unset, .unset, .unset] [.int (Int32.ofNat len)])) rfl (hb hbytes d1) (rest := []) rfl (Nat.le_refl _) (by show 0 + len ≤ len; omega)
  rw [hh0] at ba3 st3
  have kp3 : XT.Kept s T3 := (XT.Kept.of_eq hh0).push bh3
  have hA3 := hA.keep X3.warmed.alike (kp3 _ _ hA.1.1)
  have hne : b ≠ s.heap.size := hA.1.ne
  have c4 : Steps p.tables e below (s₁.setTop (entryFrame m #[.ref b, .int (Int32.ofNat o), .int (Int32.ofNat len)] 6)) (T3.setTop (mkF m 3 #[.val (.ref b), .val (.int (Int32.ofNat o)), .val (.int (Int32.ofNat len)), .unset, .unset, .unset] [.ref s.heap.size])) := c2.trans (st3 _ (Steps.refl _))
  have c5 : Steps p.tables e below (s₁.setTop (entryFrame m #[.ref b, .int (Int32.ofNat o), .int (Int32.ofNat len)] 6)) (T3.setTop (mkF m 9 #[.val (.ref b), .val (.int (Int32.ofNat o)), .val (.int (Int32.ofNat len)), .val (.ref s.heap.size), .unset, .unset] [.int (Int32.ofNat len), .int 0, .ref s.heap.size, .int (Int32.ofNat o), .ref b])) := c4.trans (by
    refine XS.astoreN X3.here hexec rfl (hb hbytes d3) rfl rfl rfl ?_
    refine XS.aloadN X3.here hexec rfl (hb hbytes d4) rfl rfl ?_
    refine XS.iloadN X3.here hexec rfl (hb hbytes d5) rfl ?_
    refine XS.aloadN X3.here hexec rfl (hb hbytes d6) rfl rfl ?_
    refine iconstV X3.here hexec rfl 0 (hb hbytes d7) (by decide) ?_
    refine XS.iloadN X3.here hexec rfl (hb hbytes d8) rfl ?_
    exact Steps.refl _)
  obtain ⟨v6, T6, X6, E6, g6⟩ := X3.callS hexec (Cmp5.law l b A s.heap.size B3 o 0 len) hown (wks W (staticW U16 115 Cmp5.yN)) (wk W Cmp5.tab) (W := 0) (Nat.le_of_ble_eq_true rfl) (Nat.le_of_ble_eq_true rfl) (Nat.le_refl _) (by show 0 + len + 0 ≤ len; omega) (g := (mkF m 9 #[.val (.ref b), .val (.int (Int32.ofNat o)), .val (.int (Int32.ofNat len)), .val (.ref s.heap.size), .unset, .unset] [.int (Int32.ofNat len), .int (Int32.ofNat 0), .ref s.heap.size, .int (Int32.ofNat o), .ref b])) rfl (by rw [hml]; rfl) c5 (argsL := [.ref b, .int (Int32.ofNat o), .ref s.heap.size, .int (Int32.ofNat 0), .int (Int32.ofNat len)]) (rest := []) rfl rfl (by show 2 * 0 + 0 ≤ _; decide) (hb hbytes d9) (⟨rfl, hA3, ba3, hne, l1, by rw [bs3]; simp, hp⟩)
  obtain ⟨rfl, B6, p6, f6⟩ := E6
  have c7 : Steps p.tables e below (s₁.setTop (entryFrame m #[.ref b, .int (Int32.ofNat o), .int (Int32.ofNat len)] 6)) (T6.setTop (mkF m 12 #[.val (.ref b), .val (.int (Int32.ofNat o)), .val (.int (Int32.ofNat len)), .val (.ref s.heap.size), .unset, .unset] [.int (Int32.ofNat len)])) := g6
  have c8 : Steps p.tables e below (s₁.setTop (entryFrame m #[.ref b, .int (Int32.ofNat o), .int (Int32.ofNat len)] 6)) (T6.setTop (mkF m 58 #[.val (.ref b), .val (.int (Int32.ofNat o)), .val (.int (Int32.ofNat len)), .val (.ref s.heap.size), .val (.int (Int32.ofNat len)), .unset] [.ref s.heap.size])) := c7.trans (by
    refine XS.istore X6.here hexec rfl (hb hbytes d12) rfl rfl ?_
    refine XS.iload X6.here hexec rfl (hb hbytes d14) rfl ?_
    refine XS.iloadN X6.here hexec rfl (hb hbytes d16) rfl ?_
    refine XS.icmpYes X6.here hexec rfl (pc0 := 17) rfl (hb hbytes d17) rfl (ii_eq_t rfl) (by decide) rfl ?_
    refine XS.aloadN X6.here hexec rfl (hb hbytes d57) rfl rfl ?_
    exact Steps.refl _)
  have X8 := X6.wide (L' := []) (cells' := 1) (slots' := len) (fun x hx hlt => by
    simp only [List.nil_append, copyLocs, List.mem_map, List.mem_range] at hx
    obtain ⟨i, -, rfl⟩ := hx
    exact absurd hlt (Nat.lt_irrefl _)) (Nat.le_refl _) (by omega)
  exact ⟨T6, some (.ref s.heap.size), _, _, _, X8, rfl, rfl, rfl, (fun h => by cases h), ⟨⟨rfl, B6, ba3.like (X3.warmed.alike.symm.trans X6.warmed.alike) p6.1 f6.1 f6.2.1 f6.2.2.1, f6.2.1.trans bv3, by rw [X6.warmed.alike.findClass, f6.1]; exact bf3, by rw [f6.2.2.1, bs3]; simp, fun j hj => by rw [f6.2.2.2 j, if_pos (by omega)]; rfl, kp3.put p6 (Nat.le_refl _)⟩, by rw [p6.2.2, bh3, hh0]; simp⟩, fun fs hl => c8.trans (X8.areturnOut hexec rfl hret rfl (hb hbytes d58) hl)⟩
end Cmp3
namespace CodL
def yN : MethodName := ⟨"java/lang/StringUTF16", "coderFromArrayLen", "([BI)B"⟩
abbrev yB : ByteArray := jdk_52_method_15_code
theorem d0 : decode yB 0 = .ok (.iload_n 1, 1) := by decide +kernel
theorem d1 : decode yB 1 = .ok (.aload_n 0, 1) := by decide +kernel
theorem d2 : decode yB 2 = .ok (.arraylength, 1) := by decide +kernel
theorem d3 : decode yB 3 = .ok (.isub, 1) := by decide +kernel
theorem d4 : decode yB 4 = .ok (.bipush 31, 2) := by decide +kernel
theorem d6 : decode yB 6 = .ok (.iushr, 1) := by decide +kernel
theorem d7 : decode yB 7 = .ok (.i2b, 1) := by decide +kernel
theorem d8 : decode yB 8 = .ok (.ireturn, 1) := by decide +kernel
def site : List Cond := []
def tab : Cond := tabOf yN yB 2 (some .byte) site
def P (d : Addr) (B : Cell) (args : Array Value) (s : State) : Prop := args = #[.ref d, .int (Int32.ofNat B.slots.size)] ∧ Arr .byte d B s
def E (r : Option Value) (s u : State) : Prop := XT.PureE (some (.int 0)) r s u
/-- an array as long as the number of chars: LATIN1 -/
theorem law (l : Launch) (d : Addr) (B : Cell) : Law l yN 2 2 0 0 yB 2 (some .byte) site (P d B) E [] 0 0 := by
  refine Law.of_walk (plainFor_of_name (by decide +kernel)) (by decide +kernel) (by decide +kernel) (by decide) (fun _ _ h => by rw [h.1]; rfl) (fun _ U U' hal hh h => ⟨h.1, h.2.mv hal hh⟩) (fun r U U' V V' h1 hal h2 h => XT.PureE.mv r U U' V V' h1 hal h2 h) ?_
  intro p e s m args below meth c s₁ X0 hexec hbytes hml hret hlk hnm hown hh0 W hP
  obtain ⟨rfl, hB⟩ := hP
  have hB0 := hB.mv X0.warmed.alike hh0
  have c1 : Steps p.tables e below (s₁.setTop (entryFrame m #[.ref d, .int (Int32.ofNat B.slots.size)] 2)) (s₁.setTop (mkF m 0 #[.val (.ref d), .val (.int (Int32.ofNat B.slots.size))] [])) := entry rfl
  have c2 : Steps p.tables e below (s₁.setTop (entryFrame m #[.ref d, .int (Int32.ofNat B.slots.size)] 2)) (s₁.setTop (mkF m 2 #[.val (.ref d), .val (.int (Int32.ofNat B.slots.size))] [.ref d, .int (Int32.ofNat B.slots.size)])) := c1.trans (by
    refine XS.iloadN X0.here hexec rfl (hb hbytes d0) rfl ?_
    refine XS.aloadN X0.here hexec rfl (hb hbytes d1) rfl rfl ?_
    exact Steps.refl _)
  have c3 : Steps p.tables e below (s₁.setTop (entryFrame m #[.ref d, .int (Int32.ofNat B.slots.size)] 2)) (s₁.setTop (mkF m 8 #[.val (.ref d), .val (.int (Int32.ofNat B.slots.size))] [.int (lo8 (ushr (Int32.ofNat B.slots.size - Int32.ofNat B.slots.size) 31))])) := c2.trans (by
    refine X0.alen hexec hB0 rfl rfl (hb hbytes d2) ?_
    refine XS.isub X0.here hexec rfl (hb hbytes d3) rfl ?_
    refine bipushV X0.here hexec rfl 31 (hb hbytes d4) (by decide) ?_
    refine iushr X0.here hexec rfl (hb hbytes d6) rfl ?_
    refine i2b X0.here hexec rfl (hb hbytes d7) rfl ?_
    exact Steps.refl _)
  have e0 : lo8 (ushr (Int32.ofNat B.slots.size - Int32.ofNat B.slots.size) 31) = 0 := by rw [Int32.sub_self]; decide
  rw [e0] at c3
  exact ⟨s₁, some (.int 0), _, _, _, X0, rfl, rfl, rfl, (fun h => by cases h), ⟨rfl, hh0⟩, fun fs hl => c3.trans (X0.ireturnOut hexec hret rfl (Or.inr (Or.inr (Or.inl rfl))) (hb hbytes d8) hl)⟩
end CodL
/-- the String at a is Latin-1 over a new byte[] (the heap's one new cell): the low bytes of the len chars of A from o on; every cell but a is kept -/
def Got (a : Addr) (D : Cell) (fV fC : Field) (A : Cell) (o len : Nat) (r : Option Value) (s u : State) : Prop := r = none ∧ ∃ D' V : Cell, Blank "java/lang/String" a D' u ∧ Same D D' [fV.slot, fC.slot] ∧ D'.slots[fV.slot]? = some (.ref s.heap.size) ∧ D'.slots[fC.slot]? = some (.int 0) ∧ Arr .byte s.heap.size V u ∧ V.vm = .none ∧ u.vm.findClass "[B" = some V.cls ∧ V.slots.size = len ∧ (∀ j, j < len → V.slots[j]? = some (.int (lo8 (cv A (o + j))))) ∧ (∀ (y : Addr) (c : Cell), y ≠ a → s.heap[y]? = some c → u.heap[y]? = some c) ∧ u.heap.size = s.heap.size + 1
theorem Got.mv {a : Addr} {D A : Cell} {fV fC : Field} {o len : Nat} : ∀ r (U U' V V' : State), U'.heap = U.heap → V.vm.Alike V'.vm → V'.heap = V.heap → Got a D fV fC A o len r U V → Got a D fV fC A o len r U' V' :=
  fun r U U' V V' h1 hal h2 ⟨e0, D', X, a1, a2, a3, a4, a5, a6, a7, a8, a9, a10, a11⟩ => ⟨e0, D', X, a1.mv hal h2, a2, by rw [h1]; exact a3, a4, by rw [h1]; exact a5.mv hal h2, a6, by rw [hal.findClass]; exact a7, a8, a9, by rw [h1, h2]; exact a10, by rw [h1, h2]; exact a11⟩
namespace New4
def yN : MethodName := ⟨"java/lang/String", "<init>", "([CIILjava/lang/Void;)V"⟩
abbrev yB : ByteArray := jdk_42_method_149_code
theorem d0 : decode yB 0 = .ok (.aload_n 0, 1) := by decide +kernel
theorem d1 : decode yB 1 = .ok (.invokespecial 1, 3) := by decide +kernel
theorem d4 : decode yB 4 = .ok (.iload_n 3, 1) := by decide +kernel
theorem d5 : decode yB 5 = .ok (.ifCond (.ne) 22, 3) := by decide +kernel
theorem d27 : decode yB 27 = .ok (.getstatic 38, 3) := by decide +kernel
theorem d30 : decode yB 30 = .ok (.ifCond (.eq) 28, 3) := by decide +kernel
theorem d33 : decode yB 33 = .ok (.aload_n 1, 1) := by decide +kernel
theorem d34 : decode yB 34 = .ok (.iload_n 2, 1) := by decide +kernel
theorem d35 : decode yB 35 = .ok (.iload_n 3, 1) := by decide +kernel
theorem d36 : decode yB 36 = .ok (.invokestatic 177, 3) := by decide +kernel
theorem d39 : decode yB 39 = .ok (.astore 5, 2) := by decide +kernel
theorem d41 : decode yB 41 = .ok (.aload_n 0, 1) := by decide +kernel
theorem d42 : decode yB 42 = .ok (.aload 5, 2) := by decide +kernel
theorem d44 : decode yB 44 = .ok (.iload_n 3, 1) := by decide +kernel
theorem d45 : decode yB 45 = .ok (.invokestatic 47, 3) := by decide +kernel
theorem d48 : decode yB 48 = .ok (.putfield 15, 3) := by decide +kernel
theorem d51 : decode yB 51 = .ok (.aload_n 0, 1) := by decide +kernel
theorem d52 : decode yB 52 = .ok (.aload 5, 2) := by decide +kernel
theorem d54 : decode yB 54 = .ok (.putfield 9, 3) := by decide +kernel
theorem d57 : decode yB 57 = .ok (.return_, 1) := by decide +kernel
def site : List Cond := [.fieldLink "java/lang/String" 38 "java/lang/String" "COMPACT_STRINGS" "Z", Cmp3.tab, CodL.tab, .laysFinal "java/lang/String" "java/lang/String" "value" "[B", .fieldLink "java/lang/String" 9 "java/lang/String" "value" "[B", .laysFinal "java/lang/String" "java/lang/String" "coder" "B", .fieldLink "java/lang/String" 15 "java/lang/String" "coder" "B"] ++ objW "java/lang/String" 1 ++ staticW "java/lang/String" 177 Cmp3.yN ++ staticW "java/lang/String" 47 CodL.yN
def tab : Cond := tabOf yN yB 6 none site
def P (a : Addr) (D : Cell) (fV fC : Field) (b : Addr) (A : Cell) (z : Int32) (o len : Nat) (args : Array Value) (s : State) : Prop := args = #[.ref a, .ref b, .int (Int32.ofNat o), .int (Int32.ofNat len), .null] ∧ Blank "java/lang/String" a D s ∧ Found "java/lang/String" "value" "[B" fV s ∧ Found "java/lang/String" "coder" "B" fC s ∧ Ch b A s ∧ StaticIs s "java/lang/String" "COMPACT_STRINGS" "Z" (.int z) ∧ ¬ z = 0 ∧ 0 < len ∧ o + len ≤ A.slots.size ∧ len ≤ 536870912 ∧ ∀ i, i < len → ¬ 255 < cv A (o + i)
def E (a : Addr) (D : Cell) (fV fC : Field) (A : Cell) (o len : Nat) (r : Option Value) (s u : State) : Prop := Got a D fV fC A o len r s u
/-- len > 0, no char of the range above 255: a Latin-1 String of their low bytes -/
theorem law (l : Launch) (a : Addr) (D : Cell) (fV fC : Field) (b : Addr) (A : Cell) (z : Int32) (o len : Nat) : Law l yN 5 4 2 35 yB 6 none site (P a D fV fC b A z o len) (E a D fV fC A o len) [⟨a, fC.slot⟩, ⟨a, fV.slot⟩] 1 len := by
  refine Law.of_walk (plainFor_of_name (by decide +kernel)) (by decide +kernel) (by decide +kernel) (by decide) (fun _ _ h => by rw [h.1]; rfl) (fun _ U U' hal hh h => ⟨h.1, h.2.1.mv hal hh, h.2.2.1.al hal, h.2.2.2.1.al hal, h.2.2.2.2.1.mv hal hh, h.2.2.2.2.2.1.there hal hh, h.2.2.2.2.2.2⟩) (fun r U U' V V' h1 hal h2 h => Got.mv r U U' V V' h1 hal h2 h) ?_
  intro p e s m args below meth c s₁ X0 hexec hbytes hml hret hlk hnm hown hh0 W hP
  obtain ⟨rfl, hB, f1, f2, hA, s1, hz, l0, l1, l2, hp⟩ := hP
  have a31 := hA.1.2.2.2
  have c1 : Steps p.tables e below (s₁.setTop (entryFrame m #[.ref a, .ref b, .int (Int32.ofNat o), .int (Int32.ofNat len), .null] 6)) (s₁.setTop (mkF m 0 #[.val (.ref a), .val (.ref b), .val (.int (Int32.ofNat o)), .val (.int (Int32.ofNat len)), .val .null, .unset] [])) := entry rfl
  have c2 : Steps p.tables e below (s₁.setTop (entryFrame m #[.ref a, .ref b, .int (Int32.ofNat o), .int (Int32.ofNat len), .null] 6)) (s₁.setTop (mkF m 1 #[.val (.ref a), .val (.ref b), .val (.int (Int32.ofNat o)), .val (.int (Int32.ofNat len)), .val .null, .unset] [.ref a])) := c1.trans (by
    refine XS.aloadN X0.here hexec rfl (hb hbytes d0) rfl rfl ?_
    exact Steps.refl _)
  obtain ⟨T3, X3, q3, st3⟩ := X0.oinit hexec hown (wks W (objW "java/lang/String" 1)) (g := (mkF m 1 #[.val (.ref a), .val (.ref b), .val (.int (Int32.ofNat o)), .val (.int (Int32.ofNat len)), .val .null, .unset] [.ref a])) rfl (by rw [hml]; rfl) (rest := []) rfl (hb hbytes d1) (W := 0) (by show 2 * 0 + 0 ≤ _; decide) (Nat.le_of_ble_eq_true rfl) (Nat.le_of_ble_eq_true rfl)
  have hh3 := q3.trans hh0
  have c4 : Steps p.tables e below (s₁.setTop (entryFrame m #[.ref a, .ref b, .int (Int32.ofNat o), .int (Int32.ofNat len), .null] 6)) (T3.setTop (mkF m 27 #[.val (.ref a), .val (.ref b), .val (.int (Int32.ofNat o)), .val (.int (Int32.ofNat len)), .val .null, .unset] [])) := (c2.trans (st3 _ (Steps.refl _))).trans (by
    refine XS.iloadN X3.here hexec rfl (hb hbytes d4) rfl ?_
    refine XS.ifYes X3.here hexec rfl (pc0 := 5) rfl (hb hbytes d5) rfl (i0_ne_t (nz32 (by omega) l0)) (by decide) rfl ?_
    exact Steps.refl _)
  obtain ⟨T5, X5, q5, st5⟩ := X3.sget hexec hown (wk W (.fieldLink "java/lang/String" 38 "java/lang/String" "COMPACT_STRINGS" "Z")) s1 (fun _ _ h => by rw [hh3]; exact h) (g := (mkF m 27 #[.val (.ref a), .val (.ref b), .val (.int (Int32.ofNat o)), .val (.int (Int32.ofNat len)), .val .null, .unset] [])) rfl (hb hbytes d27)
  have hh5 := q5.trans hh3
  have c6 : Steps p.tables e below (s₁.setTop (entryFrame m #[.ref a, .ref b, .int (Int32.ofNat o), .int (Int32.ofNat len), .null] 6)) (T5.setTop (mkF m 30 #[.val (.ref a), .val (.ref b), .val (.int (Int32.ofNat o)), .val (.int (Int32.ofNat len)), .val .null, .unset] [.int z])) := c4.trans (st5 _ (Steps.refl _))
  have c7 : Steps p.tables e below (s₁.setTop (entryFrame m #[.ref a, .ref b, .int (Int32.ofNat o), .int (Int32.ofNat len), .null] 6)) (T5.setTop (mkF m 36 #[.val (.ref a), .val (.ref b), .val (.int (Int32.ofNat o)), .val (.int (Int32.ofNat len)), .val .null, .unset] [.int (Int32.ofNat len), .int (Int32.ofNat o), .ref b])) := c6.trans (by
    refine XS.ifNo X5.here hexec rfl (hb hbytes d30) rfl (i0_eq_f hz) ?_
    refine XS.aloadN X5.here hexec rfl (hb hbytes d33) rfl rfl ?_
    refine XS.iloadN X5.here hexec rfl (hb hbytes d34) rfl ?_
    refine XS.iloadN X5.here hexec rfl (hb hbytes d35) rfl ?_
    exact Steps.refl _)
  obtain ⟨v8, T8, X8, E8, g8⟩ := X5.callS hexec (Cmp3.law l b A o len) hown (wks W (staticW "java/lang/String" 177 Cmp3.yN)) (wk W Cmp3.tab) (W := 0) (Nat.le_of_ble_eq_true rfl) (Nat.le_of_ble_eq_true rfl) (Nat.le_refl _) (by show 0 + len ≤ len; omega) (g := (mkF m 36 #[.val (.ref a), .val (.ref b), .val (.int (Int32.ofNat o)), .val (.int (Int32.ofNat len)), .val .null, .unset] [.int (Int32.ofNat len), .int (Int32.ofNat o), .ref b])) rfl (by rw [hml]; rfl) c7 (argsL := [.ref b, .int (Int32.ofNat o), .int (Int32.ofNat len)]) (rest := []) rfl rfl (by show 2 * 0 + 0 ≤ _; decide) (hb hbytes d36) (⟨rfl, hA.mv X5.warmed.alike hh5, l1, l2, hp⟩)
  obtain ⟨e8, z8⟩ := E8
  obtain ⟨rfl, N, n1, n2, n3, n4, n5, n6⟩ := NewArr.mv _ T5 s _ _ hh5.symm (Vm.Alike.refl _) rfl e8
  rw [hh5] at z8
  have hB1 := hB.keep X8.warmed.alike (n6 _ _ hB.1)
  have hne : s.heap.size ≠ a := (Nat.ne_of_lt (Array.getElem?_eq_some_iff.mp hB.1).1).symm
  have c9 : Steps p.tables e below (s₁.setTop (entryFrame m #[.ref a, .ref b, .int (Int32.ofNat o), .int (Int32.ofNat len), .null] 6)) (T8.setTop (mkF m 39 #[.val (.ref a), .val (.ref b), .val (.int (Int32.ofNat o)), .val (.int (Int32.ofNat len)), .val .null, .unset] [.ref s.heap.size])) := g8
  have c10 : Steps p.tables e below (s₁.setTop (entryFrame m #[.ref a, .ref b, .int (Int32.ofNat o), .int (Int32.ofNat len), .null] 6)) (T8.setTop (mkF m 45 #[.val (.ref a), .val (.ref b), .val (.int (Int32.ofNat o)), .val (.int (Int32.ofNat len)), .val .null, .val (.ref s.heap.size)] [.int (Int32.ofNat N.slots.size), .ref s.heap.size, .ref a])) := by
    have hc : Steps p.tables e below (s₁.setTop (entryFrame m #[.ref a, .ref b, .int (Int32.ofNat o), .int (Int32.ofNat len), .null] 6)) (T8.setTop (mkF m 45 #[.val (.ref a), .val (.ref b), .val (.int (Int32.ofNat o)), .val (.int (Int32.ofNat len)), .val .null, .val (.ref s.heap.size)] [.int (Int32.ofNat len), .ref s.heap.size, .ref a])) := c9.trans (by
      refine XS.astore X8.here hexec rfl (hb hbytes d39) rfl rfl rfl ?_
      refine XS.aloadN X8.here hexec rfl (hb hbytes d41) rfl rfl ?_
      refine XS.aload X8.here hexec rfl (hb hbytes d42) rfl rfl ?_
      refine XS.iloadN X8.here hexec rfl (hb hbytes d44) rfl ?_
      exact Steps.refl _)
    rw [n4]; exact hc
  obtain ⟨v11, T11, X11, E11, g11⟩ := X8.callS hexec (CodL.law l s.heap.size N) hown (wks W (staticW "java/lang/String" 47 CodL.yN)) (wk W CodL.tab) (W := 1) (Nat.le_of_ble_eq_true rfl) (Nat.le_of_ble_eq_true rfl) (Nat.le_refl _) (by show 0 + len + 0 ≤ len; omega) (g := (mkF m 45 #[.val (.ref a), .val (.ref b), .val (.int (Int32.ofNat o)), .val (.int (Int32.ofNat len)), .val .null, .val (.ref s.heap.size)] [.int (Int32.ofNat N.slots.size), .ref s.heap.size, .ref a])) rfl (by rw [hml]; rfl) c10 (argsL := [.ref s.heap.size, .int (Int32.ofNat N.slots.size)]) (rest := [.ref a]) rfl rfl (by show 2 * 0 + (1 + 0) ≤ _; decide) (hb hbytes d45) (⟨rfl, n1⟩)
  obtain ⟨rfl, q11⟩ := E11
  have hB11 := hB1.mv (X8.warmed.alike.symm.trans X11.warmed.alike) q11
  have c12 : Steps p.tables e below (s₁.setTop (entryFrame m #[.ref a, .ref b, .int (Int32.ofNat o), .int (Int32.ofNat len), .null] 6)) (T11.setTop (mkF m 48 #[.val (.ref a), .val (.ref b), .val (.int (Int32.ofNat o)), .val (.int (Int32.ofNat len)), .val .null, .val (.ref s.heap.size)] [.int 0, .ref a])) := g11
  obtain ⟨T13, X13, p13, bl13, sl13, st13⟩ := X11.finit hexec hown (wk W (.fieldLink "java/lang/String" 15 "java/lang/String" "coder" "B")) (Or.inr ⟨_, (wk W (.laysFinal "java/lang/String" "java/lang/String" "coder" "B"))⟩) (Or.inl ⟨rfl, hnm⟩) f2 (Or.inl rfl) hB11 (t := .byte) (by decide +kernel) rfl (g := (mkF m 48 #[.val (.ref a), .val (.ref b), .val (.int (Int32.ofNat o)), .val (.int (Int32.ofNat len)), .val .null, .val (.ref s.heap.size)] [.int 0, .ref a])) rfl (rest := []) rfl (hb hbytes d48)
  have c14 : Steps p.tables e below (s₁.setTop (entryFrame m #[.ref a, .ref b, .int (Int32.ofNat o), .int (Int32.ofNat len), .null] 6)) (T13.setTop (mkF m 54 #[.val (.ref a), .val (.ref b), .val (.int (Int32.ofNat o)), .val (.int (Int32.ofNat len)), .val .null, .val (.ref s.heap.size)] [.ref s.heap.size, .ref a])) := (c12.trans (st13 _ (Steps.refl _))).trans (by
    refine XS.aloadN X13.here hexec rfl (hb hbytes d51) rfl rfl ?_
    refine XS.aload X13.here hexec rfl (hb hbytes d52) rfl rfl ?_
    exact Steps.refl _)
  obtain ⟨T15, X15, p15, bl15, sl15, st15⟩ := X13.finit hexec hown (wk W (.fieldLink "java/lang/String" 9 "java/lang/String" "value" "[B")) (Or.inr ⟨_, (wk W (.laysFinal "java/lang/String" "java/lang/String" "value" "[B"))⟩) (Or.inl ⟨rfl, hnm⟩) f1 (Or.inl rfl) bl13 (t := (.array .byte)) (by decide +kernel) rfl (g := (mkF m 54 #[.val (.ref a), .val (.ref b), .val (.int (Int32.ofNat o)), .val (.int (Int32.ofNat len)), .val .null, .val (.ref s.heap.size)] [.ref s.heap.size, .ref a])) rfl (rest := []) rfl (hb hbytes d54)
  have c16 : Steps p.tables e below (s₁.setTop (entryFrame m #[.ref a, .ref b, .int (Int32.ofNat o), .int (Int32.ofNat len), .null] 6)) (T15.setTop (mkF m 57 #[.val (.ref a), .val (.ref b), .val (.int (Int32.ofNat o)), .val (.int (Int32.ofNat len)), .val .null, .val (.ref s.heap.size)] [])) := c14.trans (st15 _ (Steps.refl _))
  have ap := apart (Or.inr ⟨_, (wk W (.laysFinal "java/lang/String" "java/lang/String" "value" "[B"))⟩) (Or.inr ⟨_, (wk W (.laysFinal "java/lang/String" "java/lang/String" "coder" "B"))⟩) f1 f2 (t₁ := .array .byte) (t₂ := .byte) (by decide +kernel) (by decide +kernel) (by decide)
  have al := X8.warmed.alike.symm.trans X15.warmed.alike
  have n7 : T11.heap[s.heap.size]? = some N := by rw [q11]; exact n1.1
  exact ⟨T15, none, _, _, _, X15, by simp, rfl, by omega, (fun _ => rfl), ⟨rfl, _, N, bl15, ((Same.refl D _).set _ (by simp)).set _ (by simp), sl15, (Cell.slots_setSlot_ne _ ap).trans sl13, n1.keep al (p15.other hne (p13.other hne n7)), n2, by rw [al.findClass]; exact n3, n4, n5, fun y c h1 h2 => p15.other h1 (p13.other h1 (by rw [q11]; exact n6 y c h2)), by rw [p15.2.2, p13.2.2, q11]; exact z8⟩, fun fs hl => c16.trans (X15.returnOut hexec hret (hb hbytes d57) hl)⟩
end New4
namespace New1
def yN : MethodName := ⟨"java/lang/String", "<init>", "([C)V"⟩
abbrev yB : ByteArray := jdk_42_method_3_code
theorem d0 : decode yB 0 = .ok (.aload_n 0, 1) := by decide +kernel
theorem d1 : decode yB 1 = .ok (.aload_n 1, 1) := by decide +kernel
theorem d2 : decode yB 2 = .ok (.iconst 0, 1) := by decide +kernel
theorem d3 : decode yB 3 = .ok (.aload_n 1, 1) := by decide +kernel
theorem d4 : decode yB 4 = .ok (.arraylength, 1) := by decide +kernel
theorem d5 : decode yB 5 = .ok (.aconst_null, 1) := by decide +kernel
theorem d6 : decode yB 6 = .ok (.invokespecial 27, 3) := by decide +kernel
theorem d9 : decode yB 9 = .ok (.return_, 1) := by decide +kernel
def site : List Cond := [New4.tab] ++ initW "java/lang/String" 27 New4.yN
def tab : Cond := tabOf yN yB 2 none site
def P (a : Addr) (D : Cell) (fV fC : Field) (b : Addr) (A : Cell) (z : Int32) (args : Array Value) (s : State) : Prop := args = #[.ref a, .ref b] ∧ Blank "java/lang/String" a D s ∧ Found "java/lang/String" "value" "[B" fV s ∧ Found "java/lang/String" "coder" "B" fC s ∧ Ch b A s ∧ StaticIs s "java/lang/String" "COMPACT_STRINGS" "Z" (.int z) ∧ ¬ z = 0 ∧ 0 < A.slots.size ∧ A.slots.size ≤ 536870912 ∧ ∀ i, i < A.slots.size → ¬ 255 < cv A i
def E (a : Addr) (D : Cell) (fV fC : Field) (A : Cell) (r : Option Value) (s u : State) : Prop := Got a D fV fC A 0 A.slots.size r s u
/-- new String(chars), not empty, no char above 255: a Latin-1 String of their low bytes -/
theorem law (l : Launch) (a : Addr) (D : Cell) (fV fC : Field) (b : Addr) (A : Cell) (z : Int32) : Law l yN 2 1 3 52 yB 2 none site (P a D fV fC b A z) (E a D fV fC A) [⟨a, fC.slot⟩, ⟨a, fV.slot⟩] 1 A.slots.size := by
  refine Law.of_walk (plainFor_of_name (by decide +kernel)) (by decide +kernel) (by decide +kernel) (by decide) (fun _ _ h => by rw [h.1]; rfl) (fun _ U U' hal hh h => ⟨h.1, h.2.1.mv hal hh, h.2.2.1.al hal, h.2.2.2.1.al hal, h.2.2.2.2.1.mv hal hh, h.2.2.2.2.2.1.there hal hh, h.2.2.2.2.2.2⟩) (fun r U U' V V' h1 hal h2 h => Got.mv r U U' V V' h1 hal h2 h) ?_
  intro p e s m args below meth c s₁ X0 hexec hbytes hml hret hlk hnm hown hh0 W hP
  obtain ⟨rfl, hB, f1, f2, hA, s1, hz, l0, l2, hp⟩ := hP
  have c1 : Steps p.tables e below (s₁.setTop (entryFrame m #[.ref a, .ref b] 2)) (s₁.setTop (mkF m 0 #[.val (.ref a), .val (.ref b)] [])) := entry rfl
  have c2 : Steps p.tables e below (s₁.setTop (entryFrame m #[.ref a, .ref b] 2)) (s₁.setTop (mkF m 6 #[.val (.ref a), .val (.ref b)] [.null, .int (Int32.ofNat A.slots.size), .int 0, .ref b, .ref a])) := c1.trans (by
    refine XS.aloadN X0.here hexec rfl (hb hbytes d0) rfl rfl ?_
    refine XS.aloadN X0.here hexec rfl (hb hbytes d1) rfl rfl ?_
    refine iconstV X0.here hexec rfl 0 (hb hbytes d2) (by decide) ?_
    refine XS.aloadN X0.here hexec rfl (hb hbytes d3) rfl rfl ?_
    refine X0.alen hexec (hA.1.mv X0.warmed.alike hh0) rfl rfl (hb hbytes d4) ?_
    refine XS.aconstNull X0.here hexec rfl (hb hbytes d5) ?_
    exact Steps.refl _)
  obtain ⟨v3, T3, X3, E3, g3⟩ := X0.callN hexec (New4.law l a D fV fC b A z 0 A.slots.size) rfl hown (wks W (initW "java/lang/String" 27 New4.yN)) (W New4.tab (by simp only [site, List.mem_cons, List.mem_append, true_or, or_true])) (W := 0) (Nat.le_of_ble_eq_true rfl) (Nat.le_of_ble_eq_true rfl) (Nat.le_refl _) (by show 0 + A.slots.size ≤ A.slots.size; omega) (g := (mkF m 6 #[.val (.ref a), .val (.ref b)] [.null, .int (Int32.ofNat A.slots.size), .int (Int32.ofNat 0), .ref b, .ref a])) rfl (by rw [hml]; rfl) c2 (argsL := [.ref b, .int (Int32.ofNat 0), .int (Int32.ofNat A.slots.size), .null]) (rest := []) rfl rfl (by show 2 * 0 + 0 ≤ _; decide) (hb hbytes d6) (⟨rfl, hB.mv X0.warmed.alike hh0, f1.al X0.warmed.alike, f2.al X0.warmed.alike, hA.mv X0.warmed.alike hh0, s1.there X0.warmed.alike hh0, hz, l0, by omega, l2, fun i hi => by rw [Nat.zero_add]; exact hp i hi⟩)
  have e0 := Got.mv _ s₁ s _ _ hh0.symm (Vm.Alike.refl _) rfl E3
  obtain rfl := e0.1
  have c4 : Steps p.tables e below (s₁.setTop (entryFrame m #[.ref a, .ref b] 2)) (T3.setTop (mkF m 9 #[.val (.ref a), .val (.ref b)] [])) := g3
  exact ⟨T3, none, _, _, _, X3, by simp, rfl, by omega, (fun _ => rfl), e0, fun fs hl => c4.trans (X3.returnOut hexec hret (hb hbytes d9) hl)⟩
theorem pays {l : Launch} {R : Room} {p : Program} {e : Env} {below : List Frame} {s : State} {sargs : Array Value} {len W : Nat} (a : Addr) (D : Cell) (fV fC : Field) (b : Addr) (A : Cell) (z : Int32) (htab : tab.before sargs s = true) (hfr : 4 ≤ R.frames) (hlo : W + 65 ≤ R.locals) :
    Back l R p e below s sargs yN len W (fun A₁ a₁ => A₁.cells + 1 ≤ R.cells ∧ A₁.slots + A.slots.size ≤ R.slots ∧ P a D fV fC b A z a₁ A₁.U) (fun A₁ _ v₁ B₁ => E a D fV fC A v₁ A₁.U B₁.U ∧ B₁.locs = A₁.locs ++ [⟨a, fC.slot⟩, ⟨a, fV.slot⟩] ∧ B₁.cells = A₁.cells + 1 ∧ B₁.slots = A₁.slots + A.slots.size) :=
  (law l a D fV fC b A z).pays htab hfr (by omega)
end New1
end StrChars
namespace StrChars.Road
open Jvm Sem ClassFile Op Lib Jvm.Stand Jvm.Free Jvm.Free.XT
open Jvm.Lib.Cold (StaticIs)
abbrev ST : String := "java/lang/String"
/-- every table word that New1's law asks, flat -/
abbrev words : List Jvm.Cond := [.code New1.yN New1.yB 2 none, .initialized ST, .methodLink ST 27 New4.yN, .instanceMethod New4.yN,
  .code New4.yN New4.yB 6 none, .fieldLink ST 38 ST "COMPACT_STRINGS" "Z", .laysFinal ST ST "value" "[B", .fieldLink ST 9 ST "value" "[B", .laysFinal ST ST "coder" "B", .fieldLink ST 15 ST "coder" "B",
  .methodLink ST 1 Lib.objectInit, .instanceMethod Lib.objectInit, .code Lib.objectInit ⟨#[0xb1]⟩ 1 none, .methodLink ST 177 Cmp3.yN, .static Cmp3.yN, .methodLink ST 47 CodL.yN, .static CodL.yN,
  .code Cmp3.yN Cmp3.yB 6 (some (.array .byte)), .initialized U16, .arrayClass .byte, .methodLink U16 115 Cmp5.yN, .static Cmp5.yN, .code Cmp5.yN Cmp5.yB 7 (some .int), .code CodL.yN CodL.yB 2 (some .byte)]
theorem tab_of {a : Array Value} {s : State} (h : ∀ w ∈ words, w.before a s = true) : New1.tab.before a s = true := by
  have h5 : Cmp5.tab.before a s = true := unparts (wk h (.code Cmp5.yN Cmp5.yB 7 (some .int))) (wks h (.initialized Cmp5.yN.cls :: Cmp5.site))
  have hc : CodL.tab.before a s = true := unparts (wk h (.code CodL.yN CodL.yB 2 (some .byte))) (wks h (.initialized CodL.yN.cls :: CodL.site))
  have q5 : ∀ w ∈ Cmp5.tab :: words, w.before a s = true := fun w hw => (List.mem_cons.mp hw).elim (fun e => e ▸ h5) (h w)
  have h3 : Cmp3.tab.before a s = true := unparts (wk q5 (.code Cmp3.yN Cmp3.yB 6 (some (.array .byte)))) (wks q5 (.initialized Cmp3.yN.cls :: Cmp3.site))
  have q3 : ∀ w ∈ Cmp3.tab :: CodL.tab :: words, w.before a s = true := fun w hw => (List.mem_cons.mp hw).elim (fun e => e ▸ h3) fun hw => (List.mem_cons.mp hw).elim (fun e => e ▸ hc) (h w)
  have h4 : New4.tab.before a s = true := unparts (wk q3 (.code New4.yN New4.yB 6 none)) (wks q3 (.initialized New4.yN.cls :: New4.site))
  have q4 : ∀ w ∈ New4.tab :: words, w.before a s = true := fun w hw => (List.mem_cons.mp hw).elim (fun e => e ▸ h4) (h w)
  exact unparts (wk q4 (.code New1.yN New1.yB 2 none)) (wks q4 (.initialized New1.yN.cls :: New1.site))
/-- the words ride from the start Z to the walk's own state -/
theorem moved {Z s : State} {a0 args : Array Value} (hZ : Z.Warmed39 s.vm) (hw : ∀ d ∈ words, d.before a0 Z = true) : ∀ d ∈ words, d.before args s = true := fun d hd => by
  have q := hw d hd
  have t : ∀ d ∈ words, d = .arrayClass .byte ∨ (d.onTables && d.keepsFace) = true := by decide +kernel
  rcases t d hd with rfl | t
  · exact RoadKit.mvA hZ q
  · exact RoadKit.mv hZ q t
/-- WHAT COMES BACK, over the tables of the start Z: h the heap at the call, h' behind it -/
def Q (Z : State) (x : Addr) (A : Cell) (h : Heap) (v : Option Value) (h' : Heap) (L : List Loc) : Prop := v = none ∧ (∀ y ∈ L, y.base = x) ∧ RoadKit.Keep h h' [x] ∧ h'.size = h.size + 1 ∧ RoadKit.Exa Z h' x ST ∧ RoadKit.Fld Z h' x ST "value" "[B" (.ref h.size) ∧ RoadKit.Fld Z h' x ST "coder" "B" (.int 0) ∧
  (∃ V : Cell, RoadKit.Arr Z h' h.size V .byte ∧ V.vm = .none ∧ Z.vm.findClass "[B" = some V.cls ∧ V.slots.size = A.slots.size ∧ ∀ j, j < A.slots.size → V.slots[j]? = some (.int (lo8 (cv A j)))) ∧
  ∀ (O n d : String) (w : Value), RoadKit.Fld Z h x O n d w → RoadKit.slotOf Z O n d ≠ RoadKit.slotOf Z ST "value" "[B" → RoadKit.slotOf Z O n d ≠ RoadKit.slotOf Z ST "coder" "B" → RoadKit.Fld Z h' x O n d w
/-- **new String(chars) AT A CALL, IN THE ROAD'S FORM**: for specialBack behind newO: x the fresh String, b the char[] with the cell A -/
theorem back {p : Program} {l : Launch} {e : Env} {R : Room} {s : State} {args : Array Value} {below : List Frame} {len W : Nat} {Z : State} {a0 : Array Value} {h : Heap} (hZ : Z.Warmed39 s.vm) (hw : ∀ d ∈ words, d.before a0 Z = true) {kI : Nat} (wi : (Jvm.Cond.instantiable ST kI).before a0 Z = true)
    {x b : Addr} {A : Cell} {z : Int32} {v0 c0 : Value} (E : RoadKit.Exa Z h x ST) (V : RoadKit.Fld Z h x ST "value" "[B" v0) (C : RoadKit.Fld Z h x ST "coder" "B" c0) (K : RoadKit.Arr Z h b A .char) (hty : Typed .char A) (S : RoadKit.Sta Z h ST "COMPACT_STRINGS" "Z" (.int z)) (hz : ¬ z = 0)
    (l0 : 0 < A.slots.size) (l2 : A.slots.size ≤ 536870912) (hp : ∀ i, i < A.slots.size → ¬ 255 < cv A i) (hfr : 4 ≤ R.frames) (hlo : W + 65 ≤ R.locals) :
    Back l R p e below s args New1.yN len W (fun P a => a = #[.ref x, .ref b] ∧ P.U.heap = h ∧ P.cells + 1 ≤ R.cells ∧ P.slots + A.slots.size ≤ R.slots)
      (fun P _ v B => ∃ L, Q Z x A h v B.U.heap L ∧ B.locs = P.locs ++ L ∧ B.cells = P.cells + 1 ∧ B.slots = P.slots + A.slots.size) := by
  intro m meth c P g ig mk a X hg hsize hdg hW hn hp'
  obtain ⟨rfl, rfl, r1, r2⟩ := hp'
  have al : Z.vm.Alike P.U.vm := hZ.alike.trans X.warmed.alike
  obtain ⟨D, cfV, kV, iV, fV, hD, gV, stV, knV, obV, asV, slV⟩ := id V
  obtain ⟨D', cfC, kC, iC, fC, hD', gC, stC, -, -, asC, slC⟩ := id C
  cases hD.symm.trans hD'
  obtain ⟨D2, kD, e1, e2, e3, e4, e5⟩ := id E
  cases hD.symm.trans e1
  obtain ⟨c2, k2, i1, i2, i3, -⟩ := Cond.instantiable_spec wi
  cases e2.symm.trans i1
  cases e3.symm.trans i2
  obtain ⟨kU, u1, u2⟩ := al.2.2 _ _ e3
  have hB : Blank ST x D P.U := ⟨hD, ⟨knV, fun q hq => by rw [hq] at obV; cases obV⟩, by rw [al.findClass]; exact e2, kU, u1, by rw [u2]; exact i3, by rw [u2]; exact e5 i3⟩
  have F1 : Found ST "value" "[B" fV P.U := ⟨SBG.found_only al ⟨cfV, kV, iV, gV⟩, stV⟩
  have F2 : Found ST "coder" "B" fC P.U := ⟨SBG.found_only al ⟨cfC, kC, iC, gC⟩, stC⟩
  have hA : Ch b A P.U := ⟨⟨K.1, State.isArrayOf_alike al K.2.1, K.2.2, by omega⟩, hty⟩
  have hS : StaticIs P.U ST "COMPACT_STRINGS" "Z" (.int z) := by
    obtain ⟨cfS, iS, kS, fS, st, cS, t1, t2, t3, t4, t5, t6, t7⟩ := S
    exact StaticIs.there (s := { Z with heap := P.U.heap }) ⟨cfS, iS, kS, fS, st, cS, t1, t2, t3, t4, t5, (fun q => by rw [q] at t6; cases t6), t7⟩ al rfl
  obtain ⟨v, B, X', ⟨⟨hv, E', V', q1, q2, q3, q4, q5, q6, q7, q8, q9, q10, q11⟩, hl, hc, hs⟩, st⟩ := New1.pays x D fV fC b A z (tab_of (moved hZ hw)) hfr hlo m meth c P g ig mk _ X hg hsize hdg hW hn ⟨r1, r2, rfl, hB, F1, F2, hA, hS, hz, l0, l2, hp⟩
  have al' : Z.vm.Alike B.U.vm := hZ.alike.trans X'.warmed.alike
  have hsz : E'.slots.size = D.slots.size := by
    obtain ⟨-, -, -, kB, w1, w2, w3⟩ := q1
    obtain ⟨kB', y1, y2⟩ := al'.2.2 _ _ e3
    rw [q2.2.1] at w1
    cases w1.symm.trans y1
    rw [w3, e5 i3, y2]
  refine ⟨v, B, X', ⟨_, ⟨hv, ?_, ⟨by omega, fun y cy hy hn' => q10 y cy (by simpa using hn') hy, fun y cy hy => ?_⟩, q11, ⟨E', _, q1.1, by rw [q2.2.1]; exact e2, by rw [q2.2.1]; exact e3, by rw [q2.1]; exact obV, fun _ => by rw [hsz]; exact e5 i3⟩,
    ⟨E', cfV, kV, iV, fV, q1.1, gV, stV, by rw [q2.1]; exact knV, by rw [q2.1]; exact obV, by rw [q2.2.1]; exact asV, q3⟩, ⟨E', cfC, kC, iC, fC, q1.1, gC, stC, by rw [q2.1]; exact knV, by rw [q2.1]; exact obV, by rw [q2.2.1]; exact asC, q4⟩,
    ⟨V', ⟨q5.1, State.isArrayOf_alike al'.symm q5.2.1, q5.2.2.1⟩, q6, by rw [← al'.findClass]; exact q7, q8, fun j hj => by have := q9 j hj; rwa [Nat.zero_add] at this⟩, fun O n d w F n1 n2 => ?_⟩, hl, hc, hs⟩, st⟩
  · intro y hy
    simp only [List.mem_cons, List.not_mem_nil, or_false] at hy
    rcases hy with rfl | rfl <;> rfl
  · by_cases q : y = x
    · subst q
      cases hD.symm.trans hy
      exact ⟨E', q1.1, q2.2.1, q2.1, hsz⟩
    · exact ⟨cy, q10 y cy q hy, rfl, rfl, rfl⟩
  · obtain ⟨D3, cf, k, i, f, g1, g2, g3, g4, g5, g6, g7⟩ := F
    cases hD.symm.trans g1
    simp only [RoadKit.slotOf, g2, gV, gC, Option.map_some, Option.getD_some] at n1 n2
    exact ⟨E', cf, k, i, f, q1.1, g2, g3, by rw [q2.1]; exact g4, by rw [q2.1]; exact g5, by rw [q2.2.1]; exact g6, by rw [q2.2.2 f.slot (by simp [n1, n2])]; exact g7⟩
end StrChars.Road
namespace StrChars.Road
open Jvm Sem ClassFile Op Lib Jvm.Stand Jvm.Free Jvm.Free.XT
/-- WHAT COMES BACK, the byte[] as a list of values -/
def QA (Z : State) (x : Addr) (zn : Int32) (cs : List Int32) (h : Heap) (v : Option Value) (h' : Heap) (L : List Loc) : Prop := v = none ∧ (∀ y ∈ L, y.base = x) ∧ RoadKit.Keep h h' [x] ∧ h'.size = h.size + 1 ∧ RoadKit.Exa Z h' x ST ∧ RoadKit.Fld Z h' x ST "value" "[B" (.ref h.size) ∧ RoadKit.Fld Z h' x ST "coder" "B" (.int 0) ∧
  (∃ kb, Z.vm.findClass "[B" = some kb ∧ RoadKit.Arv Z h' h.size kb .byte zn (cs.map fun c => .int (lo8 c)) (.int 0)) ∧
  ∀ (O n d : String) (w : Value), RoadKit.Fld Z h x O n d w → RoadKit.slotOf Z O n d ≠ RoadKit.slotOf Z ST "value" "[B" → RoadKit.slotOf Z O n d ≠ RoadKit.slotOf Z ST "coder" "B" → RoadKit.Fld Z h' x O n d w
/-- **new String(chars) AT A CALL, THE ARRAYS AS LISTS**: the char[] at b holds cs, not empty, no char above 255 -/
theorem backArv {p : Program} {l : Launch} {e : Env} {R : Room} {s : State} {args : Array Value} {below : List Frame} {len W : Nat} {Z : State} {a0 : Array Value} {h : Heap} (hZ : Z.Warmed39 s.vm) (hw : ∀ d ∈ words, d.before a0 Z = true) {kI : Nat} (wi : (Jvm.Cond.instantiable ST kI).before a0 Z = true)
    {x b : Addr} {k : ClassId} {zn z : Int32} {cs : List Int32} {dv v0 c0 : Value} (E : RoadKit.Exa Z h x ST) (V : RoadKit.Fld Z h x ST "value" "[B" v0) (C : RoadKit.Fld Z h x ST "coder" "B" c0) (K : RoadKit.Arv Z h b k .char zn (cs.map Value.int) dv) (S : RoadKit.Sta Z h ST "COMPACT_STRINGS" "Z" (.int z)) (hz : ¬ z = 0)
    (hlen : zn.toNatClampNeg = cs.length) (h0 : 0 < cs.length) (hbig : cs.length ≤ 536870912) (hall : ∀ c ∈ cs, ¬ 255 < c) (hfr : 4 ≤ R.frames) (hlo : W + 65 ≤ R.locals) :
    Back l R p e below s args New1.yN len W (fun P a => a = #[.ref x, .ref b] ∧ P.U.heap = h ∧ P.cells + 1 ≤ R.cells ∧ P.slots + cs.length ≤ R.slots)
      (fun P _ v B => ∃ L, QA Z x zn cs h v B.U.heap L ∧ B.locs = P.locs ++ L ∧ B.cells = P.cells + 1 ∧ B.slots = P.slots + cs.length) := by
  obtain ⟨A, K1, K2, K3, K4, K5, K6⟩ := K
  have e : A.slots.size = cs.length := K3.trans hlen
  have hat : ∀ (i : Nat) (hi : i < cs.length), A.slots[i]? = some (.int cs[i]) := fun i hi => by rw [K5 i (by omega)]; simp [List.getD_eq_getElem?_getD, hi]
  have hcv : ∀ (i : Nat) (hi : i < cs.length), cv A i = cs[i] := fun i hi => by unfold cv; rw [hat i hi]
  have hty : Typed .char A := fun i v hv => by
    have hi : i < A.slots.size := (Array.getElem?_eq_some_iff.mp hv).1
    have q := K5 i hi
    rw [hv] at q
    rw [Option.some.inj q]
    exact K6 i hi
  refine Back.mono (back hZ hw wi E V C K1 hty S hz (by omega) (by omega) (fun i hi => by rw [hcv i (by omega)]; exact hall _ (List.getElem_mem _)) hfr hlo) (fun P a hp => ⟨hp.1, hp.2.1, hp.2.2.1, by rw [e]; exact hp.2.2.2⟩) (fun P a v B hp hq => ?_)
  obtain ⟨L, ⟨q1, q2, q3, q4, q5, q6, q7, ⟨V', v1, v2, v3, v4, v5⟩, q9⟩, hl, hc, hs⟩ := hq
  refine ⟨L, ⟨q1, q2, q3, q4, q5, q6, q7, ⟨V'.cls, v3, V', v1, rfl, by rw [v4, e, hlen], K4, fun i hi => ?_, fun i hi => ?_⟩, q9⟩, hl, hc, by rw [hs, e]⟩
  · have hi' : i < cs.length := by omega
    rw [v5 i (by omega), hcv i hi']; simp [List.getD_eq_getElem?_getD, hi']
  · have hi' : i < cs.length := by omega
    simp only [List.getD_eq_getElem?_getD, List.getElem?_map, List.getElem?_eq_getElem hi', Option.map_some, Option.getD_some]
    exact fits_lo8 _
end StrChars.Road
namespace StrChars.Road
open Jvm Sem ClassFile Op Lib Jvm.Stand Jvm.Free Jvm.Free.XT
/-- WHAT COMES BACK, in the writer's own shape -/
def QV (Z : State) (x : Addr) (N : Int32) (bs : List Int32) (h : Heap) (n0 : Nat) (v : Option Value) (h' : Heap) (L : List Loc) : Prop := v = none ∧ RoadKit.Fr n0 L ∧ RoadKit.Keep h h' [x] ∧ RoadKit.Exa Z h' x ST ∧ RoadKit.Fld Z h' x ST "coder" "B" (.int 0) ∧
  ∃ (t : Addr) (kb : ClassId), n0 ≤ t ∧ h.size ≤ t ∧ ¬ t = x ∧ RoadKit.Fld Z h' x ST "value" "[B" (.ref t) ∧ RoadKit.Arv Z h' t kb .byte N (bs.map Value.int) (.int 0)
/-- **new String(chars) AT A CALL, FOR THE WRITER**: a char[] of n known ints, each 0 to 255 -/
theorem backV {p : Program} {l : Launch} {e : Env} {R : Room} {s : State} {args : Array Value} {below : List Frame} {len W : Nat} {Z : State} {a0 : Array Value} {h : Heap} (hZ : Z.Warmed39 s.vm) (hw : ∀ d ∈ words, d.before a0 Z = true) {kI : Nat} (wi : (Jvm.Cond.instantiable ST kI).before a0 Z = true)
    {x b : Addr} {kC : ClassId} {cs bs : List Int32} {d v0 c0 : Value} {z N : Int32} {n n0 : Nat} (hx0 : n0 ≤ x) (hh0 : n0 ≤ h.size) (E : RoadKit.Exa Z h x ST) (V : RoadKit.Fld Z h x ST "value" "[B" v0) (C : RoadKit.Fld Z h x ST "coder" "B" c0) (K : RoadKit.Arv Z h b kC .char N (cs.map Value.int) d) (S : RoadKit.Sta Z h ST "COMPACT_STRINGS" "Z" (.int z)) (hz : ¬ z = 0)
    (hn : cs.length = n) (hN : N = Int32.ofNat n) (l0 : 0 < n) (l2 : n ≤ 4000) (hp : ∀ c ∈ cs, ¬ c < 0 ∧ ¬ (255 : Int32) < c) (hb : bs = cs.map (fun c => c.toInt8.toInt32)) (hfr : 4 ≤ R.frames) (hlo : W + 65 ≤ R.locals) :
    Back l R p e below s args (⟨"java/lang/String", "<init>", "([C)V"⟩ : MethodName) len W (fun P a => a = #[.ref x, .ref b] ∧ P.U.heap = h ∧ P.cells + 1 ≤ R.cells ∧ P.slots + n ≤ R.slots)
      (fun P _ v B => ∃ L, QV Z x N bs h n0 v B.U.heap L ∧ B.locs = P.locs ++ L ∧ B.cells = P.cells + 1 ∧ B.slots = P.slots + n) := by
  subst hn hN hb
  refine Back.mono (backArv hZ hw wi E V C K S hz (n32 (by omega)) l0 (by omega) (fun c hc => (hp c hc).2) hfr hlo) (fun P a hp => hp) (fun P a v B hp hq => ?_)
  obtain ⟨L, ⟨q1, q2, q3, q4, q5, q6, q7, ⟨kb, v1, v2⟩, q9⟩, hl, hc, hs⟩ := hq
  exact ⟨L, ⟨q1, fun y hy => by rw [q2 y hy]; exact hx0, q3, q5, q7, h.size, kb, hh0, Nat.le_refl _, Nat.ne_of_gt E.lt, q6, by rw [List.map_map]; exact v2⟩, hl, hc, hs⟩
end StrChars.Road
namespace StrChars
open Jvm Sem ClassFile Op Lib Jvm.Stand Jvm.Free.XT Jvm.Free.ALB Jvm.Free.JM Jvm.Free
open Jvm.Lib.Cold (StaticIs)
def hi8 (x : Int32) : Int32 := lo8 (x >>> ((8 : Int32) &&& 31))
end StrChars
namespace StrChars.Road
open Jvm Sem ClassFile Op Lib Jvm.Stand Jvm.Free Jvm.Free.XT
open Jvm.Lib.Cold (StaticIs)
/-- the bytes of the chars cs, low before high -/
def wideBytes : List Int32 → List Value
  | [] => []
  | c :: cs => .int (lo8 c) :: .int (hi8 c) :: wideBytes cs
/-- an array of N2 bytes vs codes the chars cs by the coder cd -/
def CodA (cs : List Int32) (cd N2 : Int32) (vs : List Value) : Prop := (cd = 0 ∧ N2 = Int32.ofNat cs.length ∧ vs = (cs.map fun c => Value.int (lo8 c)) ∧ ∀ c ∈ cs, ¬ 255 < c) ∨ (cd = 1 ∧ N2 = Int32.ofNat (2 * cs.length) ∧ vs = wideBytes cs ∧ ∃ c ∈ cs, 255 < c)
end StrChars.Road
namespace StrChars.Road
open Jvm Sem ClassFile Op Lib Jvm.Stand Jvm.Free Jvm.Free.XT
open Jvm.Lib.Cold (StaticIs)
/-- what backV says of its String, as the contracts of this text ask it: cs's low bytes, coder 0 -/
theorem codOf {cs : List Int32} {n : Nat} (hn : cs.length = n) (hb : ∀ c ∈ cs, ¬ 255 < c) : CodA cs 0 (Int32.ofNat n) ((cs.map lo8).map Value.int) := Or.inl ⟨rfl, by rw [hn], by simp [List.map_map, Function.comp_def], hb⟩
end StrChars.Road
end Jvm.Pilot.@@N@@
namespace Jvm.Own
open Sem ClassFile Op Lib Bundle Jvm.Stand Jvm.Free Jvm.LawKit Jvm.RoadKit
section Start
variable {args : Array Value} {Z : State} {t u : Term} {a : Addr} {cl : Cell} {ty : FieldType} {z : Int32} {vs : List Value} {dv : Value}
theorem eqI {n : Int32} (h : (Cond.eq t (.int n)).value args Z none Z [] = some true) : t.eval args Z none [] Z = some (.int n) := Cond.eq_int (beq_iff_eq.mpr h) rfl
theorem eqRef (h : (Cond.eq t u).value args Z none Z [] = some true) (hu : u.eval args Z none [] Z = some (.ref a)) : t.eval args Z none [] Z = some (.ref a) := by
  obtain ⟨x, y, hx, hy, -, k2⟩ := cmp_v (Or.inl h)
  cases hu.symm.trans hy
  have q := gotT (eq_R hx hu k2.2 rfl) h
  rw [hx, q]
theorem arvStart (hf : Fit Z) (A : Arr Z Z.heap a cl ty) (et : t.eval args Z none [] Z = some (.ref a)) (hlen : (Term.length t).eval args Z none [] Z = some (.int z)) (hz : ¬ z < 0) (hl : z.toNatClampNeg = vs.length) (H : HasL cl 0 vs) : Arv Z Z.heap a cl.cls ty z vs dv := by
  have ha : Z.arrayAt? a = some cl := Arr.fin (Vm.Alike.refl _) A
  by_cases q : cl.slots.size < 2 ^ 31
  · have e := (len_f et ha q).symm.trans hlen
    exact Arv.start hf A q (by simpa using e) hz hl H
  · exfalso
    simp only [Term.eval, et, ha, Option.bind_eq_bind, Option.bind_some] at hlen
    rw [if_neg q] at hlen
    cases hlen
theorem elemAt {j : Int32} {v : Value} (A : Arr Z Z.heap a cl ty) (et : t.eval args Z none [] Z = some (.ref a)) (h : (Term.elem t (.int j)).eval args Z none [] Z = some v) : cl.slots[j.toNatClampNeg]? = some v := (elem_in h et rfl A.1).2
end Start
end Jvm.Own
namespace Jvm.Pilot.@@N@@
open Jvm Jvm.ClassFile Sem Op Lib Jvm.Free Jvm.Stand Jvm.LawKit Jvm.RoadKit Bundle Jvm.Own Jvm.Pilot.@@N@@.Jvm.D
/-- what every body of this claim may lean on -/
def Ctx (Z : State) (a0 : Array Value) (G1 : Int32) : Prop := (∀ d ∈ tables_1, d.before a0 Z = true) ∧ Sta Z Z.heap "java/lang/String" "COMPACT_STRINGS" "Z" (.int G1) ∧ ¬ G1 = 0 ∧ EW Z a0 consts_1
theorem Ctx.w {Z : State} {a0 : Array Value} {G1 : Int32} (X : Ctx Z a0 G1) (i : Nat) {d : Jvm.Cond} (q : tables_1[i]? = some d) : d.before a0 Z = true := X.1 d (List.mem_of_getElem? q)
theorem Ctx.el {Z : State} {a0 : Array Value} {G1 : Int32} (X : Ctx Z a0 G1) : EW Z a0 consts_1 := X.2.2.2
theorem Ctx.ws {Z : State} {a0 : Array Value} {G1 : Int32} (X : Ctx Z a0 G1) : ∀ a ∈ Bundle.stringAtoms, a.before a0 Z = true := fun d hd => X.1 d ((by decide +kernel : ∀ d ∈ Bundle.stringAtoms, d ∈ tables_1) d hd)
theorem pd_0 : parseMethodDescriptor "([CIILjava/lang/Void;)V" = some ⟨[(.array .char), .int, .int, (.object "java/lang/Void")], none⟩ := by decide +kernel
theorem pd_1 : parseMethodDescriptor "()Z" = some ⟨[], some .boolean⟩ := by decide +kernel
theorem pd_2 : parseMethodDescriptor "()B" = some ⟨[], some .byte⟩ := by decide +kernel
theorem pd_3 : parseMethodDescriptor "(BB)Z" = some ⟨[.byte, .byte], some .boolean⟩ := by decide +kernel
theorem pd_4 : parseMethodDescriptor "()I" = some ⟨[], some .int⟩ := by decide +kernel
theorem pd_5 : parseMethodDescriptor "([BI[BII)Z" = some ⟨[(.array .byte), .int, (.array .byte), .int, .int], some .boolean⟩ := by decide +kernel
theorem pd_6 : parseMethodDescriptor "(ZILjava/lang/String;II)Z" = some ⟨[.boolean, .int, (.object "java/lang/String"), .int, .int], some .boolean⟩ := by decide +kernel
theorem pd_7 : parseMethodDescriptor "(Ljava/lang/String;)Z" = some ⟨[(.object "java/lang/String")], some .boolean⟩ := by decide +kernel
theorem pd_8 : parseMethodDescriptor "(Ljava/lang/Object;)Z" = some ⟨[(.object "java/lang/Object")], some .boolean⟩ := by decide +kernel
theorem pd_9 : parseMethodDescriptor "(Z)Ljava/lang/Boolean;" = some ⟨[.boolean], some (.object "java/lang/Boolean")⟩ := by decide +kernel
theorem pd_10 : parseMethodDescriptor "(IIIC)C" = some ⟨[.int, .int, .int, .char], some .char⟩ := by decide +kernel
theorem pd_11 : parseMethodDescriptor "(ICCCCC)[C" = some ⟨[.int, .char, .char, .char, .char, .char], some (.array .char)⟩ := by decide +kernel
theorem pd_12 : parseMethodDescriptor "([C)V" = some ⟨[(.array .char)], none⟩ := by decide +kernel
theorem pd_13 : parseMethodDescriptor "(CC)Z" = some ⟨[.char, .char], some .boolean⟩ := by decide +kernel
theorem pn_0 : plainName "java/lang/String" = true := by first | (simp [plainName, overriddenIn]; done) | decide +kernel
theorem pn_1 : plainName "java/lang/Boolean" = true := by first | (simp [plainName, overriddenIn]; done) | decide +kernel
theorem pn_2 : plainName "com/example/wary_validator/waryvalidator/messageinterpolation/ExpressionOperators" = true := by first | (simp [plainName, overriddenIn]; done) | decide +kernel
theorem pn_3 : plainName "com/example/wary_validator/waryvalidator/messageinterpolation/ExpressionOperatorsToBooleanPinLaw" = true := by first | (simp [plainName, overriddenIn]; done) | decide +kernel
theorem pn_4 : plainName "java/lang/CharacterDataLatin1" = true := by first | (simp [plainName, overriddenIn]; done) | decide +kernel
theorem pn_5 : plainName "java/lang/StringLatin1" = true := by first | (simp [plainName, overriddenIn]; done) | decide +kernel
theorem de2_0 : decode jdk_42_method_149_code 0 = .ok (.aload_n 0, 1) := by decide +kernel
theorem de2_1 : decode jdk_42_method_149_code 1 = .ok (.invokespecial 1, 3) := by decide +kernel
theorem de2_4 : decode jdk_42_method_149_code 4 = .ok (.iload_n 3, 1) := by decide +kernel
theorem de2_5 : decode jdk_42_method_149_code 5 = .ok (.ifCond .ne 22, 3) := by decide +kernel
theorem de2_8 : decode jdk_42_method_149_code 8 = .ok (.aload_n 0, 1) := by decide +kernel
theorem de2_9 : decode jdk_42_method_149_code 9 = .ok (.ldc 7, 2) := by decide +kernel
theorem de2_11 : decode jdk_42_method_149_code 11 = .ok (.getfield 9, 3) := by decide +kernel
theorem de2_14 : decode jdk_42_method_149_code 14 = .ok (.putfield 9, 3) := by decide +kernel
theorem de2_17 : decode jdk_42_method_149_code 17 = .ok (.aload_n 0, 1) := by decide +kernel
theorem de2_18 : decode jdk_42_method_149_code 18 = .ok (.ldc 7, 2) := by decide +kernel
theorem de2_20 : decode jdk_42_method_149_code 20 = .ok (.getfield 15, 3) := by decide +kernel
theorem de2_23 : decode jdk_42_method_149_code 23 = .ok (.putfield 15, 3) := by decide +kernel
theorem de2_26 : decode jdk_42_method_149_code 26 = .ok (.return_, 1) := by decide +kernel
theorem efe2 (m : MethodId) (x0 x1 : Addr) : entryFrame m #[(.ref x0), (.ref x1), (.int (0 : Int32)), (.int (0 : Int32)), .null] 6 = mkF m 0 #[.val (.ref x0), .val (.ref x1), .val (.int (0 : Int32)), .val (.int (0 : Int32)), .val .null, .unset] [] := by first | (simp [entryFrame, mkF, argsToLocals, Value.category]; done) | rfl
set_option maxRecDepth 65536 in
set_option maxHeartbeats 40000000 in
theorem c_e2 {l : Launch} {Z : State} {a0 : Array Value} {G1 : Int32} (X : Ctx Z a0 G1) (a b : Addr) (h0 : Heap) (hE : Ext Z.heap h0) (ga : Z.heap.size ≤ a) (A : Exa Z h0 a "java/lang/String") (FV : Fld Z h0 a "java/lang/String" "value" "[B" .null) (FC : Fld Z h0 a "java/lang/String" "coder" "B" (.int (0 : Int32))) :
    Con l Z consts_1 (⟨"java/lang/String", "<init>", "([CIILjava/lang/Void;)V"⟩ : MethodName) jdk_42_method_149_code 6 none [] ({ frames := 1, cells := 4, slots := 8, locals := 12 } : Room) #[(.ref a), (.ref b), (.int (0 : Int32)), (.int (0 : Int32)), .null] h0 (fun v h => v = none ∧ Keep h0 h [a] ∧ Str Z h a []) := by
  refine Con.intro (plainFor_of_name pn_0) hE X.el ?_
  intro p e s m below meth c T W
  refine Go.cast (efe2 m a b) ?_
  refine Go.step (fun _ k => XS.aloadN W.here W.hx rfl (W.d de2_0) rfl rfl k) ?_
  show Go _ _ _ _ _ _ _ _ _ _ (mkF m 1 #[.val (.ref a), .val (.ref b), .val (.int (0 : Int32)), .val (.int (0 : Int32)), .val .null, .unset] [(.ref a)])
  refine W.initO (X.w 37 rfl) (X.w 38 rfl) (X.w 39 rfl) rfl de2_1 (by decide) (Wd := 0) (Nat.le_of_eq rfl) (by decide) ?_
  intro T W
  show Go _ _ _ _ _ _ _ _ _ _ (mkF m 4 #[.val (.ref a), .val (.ref b), .val (.int (0 : Int32)), .val (.int (0 : Int32)), .val .null, .unset] [])
  refine Go.step (fun _ k => XS.iloadN W.here W.hx rfl (W.d de2_4) rfl k) ?_
  show Go _ _ _ _ _ _ _ _ _ _ (mkF m 5 #[.val (.ref a), .val (.ref b), .val (.int (0 : Int32)), .val (.int (0 : Int32)), .val .null, .unset] [(.int (0 : Int32))])
  refine Go.step (fun _ k => XS.ifNo W.here W.hx rfl (W.d de2_5) rfl ((if0 _ _).trans (teq (rfl : (0 : Int32) = 0)).2) k) ?_
  show Go _ _ _ _ _ _ _ _ _ _ (mkF m 8 #[.val (.ref a), .val (.ref b), .val (.int (0 : Int32)), .val (.int (0 : Int32)), .val .null, .unset] [])
  refine Go.step (fun _ k => XS.aloadN W.here W.hx rfl (W.d de2_8) rfl rfl k) ?_
  show Go _ _ _ _ _ _ _ _ _ _ (mkF m 9 #[.val (.ref a), .val (.ref b), .val (.int (0 : Int32)), .val (.int (0 : Int32)), .val .null, .unset] [(.ref a)])
  refine W.ldcR (X.w 80 rfl) X.ws (List.mem_of_getElem? (i := 1) rfl) (vs := []) (z := 0) ⟨by decide +kernel, by decide +kernel⟩ (by decide) rfl de2_9 (n := 0) (by decide) (by decide) (by decide) (by decide) ?_
  intro T h1 vm1 a1 b1 k1 W E1 C1 A1 A2 A3 A4 N1
  show Go _ _ _ _ _ _ _ _ _ _ (mkF m 11 #[.val (.ref a), .val (.ref b), .val (.int (0 : Int32)), .val (.int (0 : Int32)), .val .null, .unset] [(.ref a1), (.ref a)])
  refine W.getF (host := "") (Or.inl (X.w 54 rfl)) Via.refl A3 de2_11 ?_
  intro T W
  show Go _ _ _ _ _ _ _ _ _ _ (mkF m 14 #[.val (.ref a), .val (.ref b), .val (.int (0 : Int32)), .val (.int (0 : Int32)), .val .null, .unset] [(.ref b1), (.ref a)])
  have B1 := A.ext E1
  have V1 := FV.ext E1
  have Cd1 := FC.ext E1
  have S1 : Safe Z consts_1 vm1 h1 a := Safe.blank W.hZ.alike B1 V1
  have H1 := W.chr.1
  refine W.putF (host := "") (Or.inl (X.w 54 rfl)) Via.refl V1 B1 (Or.inr ⟨(X.w 55 rfl), rfl, rfl⟩) (X.w 28 rfl) (ty := .array .byte) (by decide) rfl rfl ga S1 de2_14 ?_
  intro T h2 W Wr1 V2
  show Go _ _ _ _ _ _ _ _ _ _ (mkF m 17 #[.val (.ref a), .val (.ref b), .val (.int (0 : Int32)), .val (.int (0 : Int32)), .val .null, .unset] [])
  have S2 := Safe.wr Wr1 S1 H1 S1
  have ne1 : a ≠ b1 := Exa.neArv B1 A4 (X.w 28 rfl)
  have B2 := B1.wr Wr1
  have Cd2 := Cd1.other Wr1 (Or.inr (slot_ne (Or.inr (X.w 53 rfl)) (Or.inr (X.w 55 rfl)) (by decide) (t := .byte) (t' := .array .byte) (by decide) (by decide)))
  have Av2 := A4.other Wr1 (Ne.symm ne1)
  refine Go.step (fun _ k => XS.aloadN W.here W.hx rfl (W.d de2_17) rfl rfl k) ?_
  show Go _ _ _ _ _ _ _ _ _ _ (mkF m 18 #[.val (.ref a), .val (.ref b), .val (.int (0 : Int32)), .val (.int (0 : Int32)), .val .null, .unset] [(.ref a)])
  refine W.ldcR (X.w 80 rfl) X.ws (List.mem_of_getElem? (i := 1) rfl) (vs := []) (z := 0) ⟨by decide +kernel, by decide +kernel⟩ (by decide) rfl de2_18 (n := 0) (by decide) (by decide) (by decide) (by decide) ?_
  intro T h3 vm2 a2 b2 k2 W E2 C2 D1 D2 D3 D4 N2
  show Go _ _ _ _ _ _ _ _ _ _ (mkF m 20 #[.val (.ref a), .val (.ref b), .val (.int (0 : Int32)), .val (.int (0 : Int32)), .val .null, .unset] [(.ref a2), (.ref a)])
  have S3 := C2.safe B2.lt S2
  have B3 := B2.ext E2
  have V3 := V2.ext E2
  have Cd3 := Cd2.ext E2
  have Av3 := Av2.ext E2
  refine W.getF (host := "") (Or.inl (X.w 52 rfl)) Via.refl D2 de2_20 ?_
  intro T W
  show Go _ _ _ _ _ _ _ _ _ _ (mkF m 23 #[.val (.ref a), .val (.ref b), .val (.int (0 : Int32)), .val (.int (0 : Int32)), .val .null, .unset] [(.int (0 : Int32)), (.ref a)])
  refine W.putF (host := "") (Or.inl (X.w 52 rfl)) Via.refl Cd3 B3 (Or.inr ⟨(X.w 53 rfl), rfl, rfl⟩) (X.w 28 rfl) (ty := .byte) (by decide) rfl rfl ga S3 de2_23 ?_
  intro T h4 W Wr2 Cd4
  show Go _ _ _ _ _ _ _ _ _ _ (mkF m 26 #[.val (.ref a), .val (.ref b), .val (.int (0 : Int32)), .val (.int (0 : Int32)), .val .null, .unset] [])
  have V4 := V3.other Wr2 (Or.inr (slot_ne (Or.inr (X.w 55 rfl)) (Or.inr (X.w 53 rfl)) (by decide) (t := .array .byte) (t' := .byte) (by decide) (by decide)))
  refine W.retV de2_26 ⟨rfl, ?_, b1, k1, B3.wr Wr2, V4, Cd4, Av3.other Wr2 (Ne.symm ne1), sm0, Nat.zero_le _⟩ (by decide) (by decide)
  exact ((((Keep.refl h0 [a]).ext E1).wr Wr1 (Or.inl (by simp))).ext E2).wr Wr2 (Or.inl (by simp))
theorem de1_0 : decode jdk_42_method_3_code 0 = .ok (.aload_n 0, 1) := by decide +kernel
theorem de1_1 : decode jdk_42_method_3_code 1 = .ok (.aload_n 1, 1) := by decide +kernel
theorem de1_2 : decode jdk_42_method_3_code 2 = .ok (.iconst 0, 1) := by decide +kernel
theorem de1_3 : decode jdk_42_method_3_code 3 = .ok (.aload_n 1, 1) := by decide +kernel
theorem de1_4 : decode jdk_42_method_3_code 4 = .ok (.arraylength, 1) := by decide +kernel
theorem de1_5 : decode jdk_42_method_3_code 5 = .ok (.aconst_null, 1) := by decide +kernel
theorem de1_6 : decode jdk_42_method_3_code 6 = .ok (.invokespecial 27, 3) := by decide +kernel
theorem de1_9 : decode jdk_42_method_3_code 9 = .ok (.return_, 1) := by decide +kernel
theorem efe1 (m : MethodId) (x0 : Addr) (x1 : Addr) : entryFrame m #[(.ref x0), (.ref x1)] 2 = mkF m 0 #[.val (.ref x0), .val (.ref x1)] [] := by first | (simp [entryFrame, mkF, argsToLocals, Value.category]; done) | rfl
set_option maxRecDepth 65536 in
set_option maxHeartbeats 40000000 in
theorem c_e1 {l : Launch} {Z : State} {a0 : Array Value} {G1 : Int32} (X : Ctx Z a0 G1) (a b : Addr) (kb : ClassId) (vs : List Value) (dv : Value) (h0 : Heap) (hE : Ext Z.heap h0) (ga : Z.heap.size ≤ a) (A : Exa Z h0 a "java/lang/String") (FV : Fld Z h0 a "java/lang/String" "value" "[B" .null) (FC : Fld Z h0 a "java/lang/String" "coder" "B" (.int (0 : Int32))) (V : Arv Z h0 b kb .char (0 : Int32) vs dv) :
    Con l Z consts_1 (⟨"java/lang/String", "<init>", "([C)V"⟩ : MethodName) jdk_42_method_3_code 2 none [] ({ frames := 2, cells := 4, slots := 8, locals := 29 } : Room) #[(.ref a), (.ref b)] h0 (fun v h => v = none ∧ Keep h0 h [a] ∧ Str Z h a []) := by
  refine Con.intro (plainFor_of_name pn_0) hE X.el ?_
  intro p e s m below meth c T W
  have hsz := W.size
  refine Go.cast (efe1 m a b) ?_
  refine Go.step (fun _ k => XS.aloadN W.here W.hx rfl (W.d de1_0) rfl rfl k) ?_
  show Go _ _ _ _ _ _ _ _ _ _ (mkF m 1 #[.val (.ref a), .val (.ref b)] [(.ref a)])
  refine Go.step (fun _ k => XS.aloadN W.here W.hx rfl (W.d de1_1) rfl rfl k) ?_
  show Go _ _ _ _ _ _ _ _ _ _ (mkF m 2 #[.val (.ref a), .val (.ref b)] [(.ref b), (.ref a)])
  refine Go.step (fun _ k => XS.iconst W.here W.hx rfl (W.d de1_2) k) ?_
  show Go _ _ _ _ _ _ _ _ _ _ (mkF m 3 #[.val (.ref a), .val (.ref b)] [(.int (0 : Int32)), (.ref b), (.ref a)])
  refine Go.step (fun _ k => XS.aloadN W.here W.hx rfl (W.d de1_3) rfl rfl k) ?_
  show Go _ _ _ _ _ _ _ _ _ _ (mkF m 4 #[.val (.ref a), .val (.ref b)] [(.ref b), (.int (0 : Int32)), (.ref b), (.ref a)])
  refine W.arraylength V de1_4 ?_
  show Go _ _ _ _ _ _ _ _ _ _ (mkF m 5 #[.val (.ref a), .val (.ref b)] [(.int (0 : Int32)), (.int (0 : Int32)), (.ref b), (.ref a)])
  refine Go.step (fun _ k => XS.aconstNull W.here W.hx rfl (W.d de1_5) k) ?_
  show Go _ _ _ _ _ _ _ _ _ _ (mkF m 6 #[.val (.ref a), .val (.ref b)] [.null, (.int (0 : Int32)), (.int (0 : Int32)), (.ref b), (.ref a)])
  refine W.special rfl (X.w 33 rfl) (X.w 34 rfl) (X.w 29 rfl) (X.w 36 rfl) (by decide) (c_e2 X a b _ W.ext ga A FV FC) (by decide) (Wd := 0) (by decide) a [(.ref b), (.int (0 : Int32)), (.int (0 : Int32)), .null] [] rfl pd_0 rfl rfl rfl (Nat.le_of_eq rfl) de1_6 (by decide) (by decide) ?_
  intro v T h vm W hQ C
  obtain ⟨rfl, hK, hS⟩ := hQ
  show Go _ _ _ _ _ _ _ _ _ _ (mkF m 9 #[.val (.ref a), .val (.ref b)] [])
  exact W.retV de1_9 (⟨rfl, hK, hS⟩) (by decide) (by decide)

def NewQ (Z : State) (h : Heap) (a : Addr) (cs : List Int32) (v : Option Value) (h' : Heap) (L : List Loc) : Prop := v = none ∧ Fr Z.heap.size L ∧ Keep h h' [a] ∧ Str Z h' a cs
theorem bk_new {p : Program} {l : Launch} {e : Env} {R : Room} {s : State} {args : Array Value} {below : List Frame} {Z : State} {a0 : Array Value} {G1 : Int32} {vm0 : Vm} {h : Heap} {a b : Addr} {cs : List Int32} {kC : ClassId} {N : Int32} {d : Value} {Wd n : Nat} (X : Ctx Z a0 G1) (hZ : Z.Warmed39 (s.setVm vm0).vm) (hE : Ext Z.heap h) (ga : Z.heap.size ≤ a) (A : Exa Z h a "java/lang/String") (FV : Fld Z h a "java/lang/String" "value" "[B" .null) (FC : Fld Z h a "java/lang/String" "coder" "B" (.int (0 : Int32))) (V : Arv Z h b kC .char N (cs.map Value.int) d)
    (hn : cs.length = n) (hN : N = Int32.ofNat n) (l0 : 0 < n) (l2 : n ≤ 4000) (hp : ∀ c ∈ cs, Sm c) (hfr : 4 ≤ R.frames) (hlo : Wd + 65 ≤ R.locals) :
    Back l R p e below (s.setVm vm0) args (⟨"java/lang/String", "<init>", "([C)V"⟩ : MethodName) 3 Wd (fun P a' => a' = #[.ref a, .ref b] ∧ P.U.heap = h ∧ P.cells + 1 ≤ R.cells ∧ P.slots + n ≤ R.slots)
      (fun P _ v B => ∃ L, NewQ Z h a cs v B.U.heap L ∧ B.locs = P.locs ++ L ∧ B.cells = P.cells + 1 ∧ B.slots = P.slots + n) := by
  refine Back.mono (StrChars.Road.backV hZ (fun d hd => X.1 d ((by decide +kernel : ∀ d ∈ StrChars.Road.words, d ∈ tables_1) d hd)) (kI := 4) (X.w 28 rfl) (bs := cs.map (fun c => c.toInt8.toInt32)) (n0 := Z.heap.size) ga hE.1 A FV FC V (X.2.1.ext hE) X.2.2.1 hn hN l0 l2 hp rfl hfr hlo) (fun P a hp => hp) (fun P a v B hp' hq => ?_)
  obtain ⟨L, ⟨q1, q2, q3, q4, q5, t, kb, -, -, -, q6, q7⟩, r⟩ := hq
  subst hn hN
  exact ⟨L, ⟨q1, q2, q3, t, kb, q4, q6, q5, by rw [List.map_map] at q7; exact q7, hp, l2⟩, r⟩

/-- what the Booleans hold at the start -/
def Bo (Z : State) (bt bf : Addr) : Prop := Sta Z Z.heap "java/lang/Boolean" "TRUE" "Ljava/lang/Boolean;" (.ref bt) ∧ Exa Z Z.heap bt "java/lang/Boolean" ∧ Fld Z Z.heap bt "java/lang/Boolean" "value" "Z" (.int (1 : Int32)) ∧ Sta Z Z.heap "java/lang/Boolean" "FALSE" "Ljava/lang/Boolean;" (.ref bf) ∧ Exa Z Z.heap bf "java/lang/Boolean" ∧ Fld Z Z.heap bf "java/lang/Boolean" "value" "Z" (.int (0 : Int32))
/-- a sign is the letter, small or great -/
def SmL (c lw : Int32) : Prop := c = lw ∨ c = lw - (32 : Int32)
/-- the text is 'true', small or great -/
def IsTrue (cs : List Int32) : Prop := ∃ a b c d, cs = [a, b, c, d] ∧ SmL a 116 ∧ SmL b 114 ∧ SmL c 117 ∧ SmL d 101
theorem isTrue4 (a b c d : Int32) : IsTrue [a, b, c, d] ↔ SmL a 116 ∧ SmL b 114 ∧ SmL c 117 ∧ SmL d 101 := by
  constructor
  · rintro ⟨_, _, _, _, e, r⟩
    cases e; exact r
  · intro r; exact ⟨_, _, _, _, rfl, r⟩
theorem isTrue_len {cs : List Int32} (h : IsTrue cs) : cs.length = 4 := by
  obtain ⟨_, _, _, _, rfl, -⟩ := h; rfl
theorem smL_le (x : Int32) (h : Sm x) : ∀ lw : Int32, (lw = 116 ∨ lw = 114 ∨ lw = 117 ∨ lw = 101) → ((lw = x.toInt8.toInt32 ∨ lw &&& 223 = x.toInt8.toInt32 &&& 223) ↔ SmL x lw) := by
  rintro lw (rfl | rfl | rfl | rfl)
  · exact fin256 (P := fun x => ((116 : Int32) = x.toInt8.toInt32 ∨ (116 : Int32) &&& 223 = x.toInt8.toInt32 &&& 223) ↔ (x = 116 ∨ x = 116 - 32)) (by decide +kernel) h.1 h.2
  · exact fin256 (P := fun x => ((114 : Int32) = x.toInt8.toInt32 ∨ (114 : Int32) &&& 223 = x.toInt8.toInt32 &&& 223) ↔ (x = 114 ∨ x = 114 - 32)) (by decide +kernel) h.1 h.2
  · exact fin256 (P := fun x => ((117 : Int32) = x.toInt8.toInt32 ∨ (117 : Int32) &&& 223 = x.toInt8.toInt32 &&& 223) ↔ (x = 117 ∨ x = 117 - 32)) (by decide +kernel) h.1 h.2
  · exact fin256 (P := fun x => ((101 : Int32) = x.toInt8.toInt32 ∨ (101 : Int32) &&& 223 = x.toInt8.toInt32 &&& 223) ↔ (x = 101 ∨ x = 101 - 32)) (by decide +kernel) h.1 h.2
theorem shr0 (x : Int32) : x >>> ((0 : Int32) &&& 31) = x := by
  apply Int32.toBitVec_inj.mp
  simp
theorem and255 (y : Int32) : Sm (y &&& (255 : Int32)) := by
  have t : ∀ k : Fin 256, Sm (Int32.ofNat k.val) := by decide +kernel
  obtain ⟨j, hj, e⟩ := maskN 255 255 rfl y
  rw [e]; exact t ⟨j, by omega⟩
theorem chr_sm {d : Int32} (h : Sm d) : Sm (nar .char (d.toUInt32.toUInt16.toUInt32.toInt32)) := fin256 (P := fun d => Sm (nar .char (d.toUInt32.toUInt16.toUInt32.toInt32))) (by decide +kernel) h.1 h.2
theorem rem6 (x : Int32) : (x &&& (2147483647 : Int32)) - ((x &&& (2147483647 : Int32)) / (6 : Int32)) * (6 : Int32) = 0 ∨ (x &&& (2147483647 : Int32)) - ((x &&& (2147483647 : Int32)) / (6 : Int32)) * (6 : Int32) = 1 ∨ (x &&& (2147483647 : Int32)) - ((x &&& (2147483647 : Int32)) / (6 : Int32)) * (6 : Int32) = 2 ∨ (x &&& (2147483647 : Int32)) - ((x &&& (2147483647 : Int32)) / (6 : Int32)) * (6 : Int32) = 3 ∨ (x &&& (2147483647 : Int32)) - ((x &&& (2147483647 : Int32)) / (6 : Int32)) * (6 : Int32) = 4 ∨ (x &&& (2147483647 : Int32)) - ((x &&& (2147483647 : Int32)) / (6 : Int32)) * (6 : Int32) = 5 := by
  obtain ⟨j, hj, e⟩ := maskN 2147483647 2147483647 rfl x
  rw [e]
  have e1 : (Int32.ofNat j).toInt = j := Int32.toInt_ofNat_of_lt (by omega)
  have e2 : (Int32.ofNat j) - (Int32.ofNat j / 6) * 6 = Int32.ofNat (j % 6) := by
    apply Int32.toInt_inj.mp
    rw [Int32.toInt_sub, Int32.toInt_mul, Int32.toInt_div, e1, Int32.toInt_ofNat_of_lt (by omega), show (6 : Int32).toInt = 6 from rfl]
    have d1 : (j : Int).tdiv 6 = ((j / 6 : Nat) : Int) := by rw [Int.tdiv_eq_ediv_of_nonneg (Int.natCast_nonneg j)]; omega
    rw [d1]
    have d2 : (((j / 6 : Nat) : Int).bmod (2 ^ 32)) = ((j / 6 : Nat) : Int) := by rw [Int.bmod_def]; omega
    rw [d2]
    have d3 : ((((j / 6 : Nat) : Int) * 6).bmod (2 ^ 32)) = ((j / 6 : Nat) : Int) * 6 := by rw [Int.bmod_def]; omega
    rw [d3, Int.bmod_def]; omega
  rw [e2]
  have h6 : j % 6 = 0 ∨ j % 6 = 1 ∨ j % 6 = 2 ∨ j % 6 = 3 ∨ j % 6 = 4 ∨ j % 6 = 5 := by omega
  rcases h6 with h | h | h | h | h | h <;> rw [h] <;> decide

theorem dbv1_0 : decode jdk_2055_method_5_code 0 = .ok (.iload_n 0, 1) := by decide +kernel
theorem dbv1_1 : decode jdk_2055_method_5_code 1 = .ok (.ifCond .eq 9, 3) := by decide +kernel
theorem dbv1_4 : decode jdk_2055_method_5_code 4 = .ok (.getstatic 27, 3) := by decide +kernel
theorem dbv1_7 : decode jdk_2055_method_5_code 7 = .ok (.goto 6, 3) := by decide +kernel
theorem dbv1_13 : decode jdk_2055_method_5_code 13 = .ok (.areturn, 1) := by decide +kernel
theorem efbv1 (m : MethodId) (x0 : Int32) : entryFrame m #[(.int x0)] 1 = mkF m 0 #[.val (.int x0)] [] := by first | (simp [entryFrame, mkF, argsToLocals, Value.category]; done) | rfl
set_option maxRecDepth 65536 in
set_option maxHeartbeats 40000000 in
theorem c_bv1 {l : Launch} {Z : State} {a0 : Array Value} {G1 : Int32} (X : Ctx Z a0 G1) (bt bf : Addr) (h0 : Heap) (hE : Ext Z.heap h0) (N : Bo Z bt bf) :
    Con l Z consts_1 (⟨"java/lang/Boolean", "valueOf", "(Z)Ljava/lang/Boolean;"⟩ : MethodName) jdk_2055_method_5_code 1 (some (.object "java/lang/Boolean")) [] ({ frames := 0, cells := 0, slots := 0, locals := 0 } : Room) #[(.int (1 : Int32))] h0 (fun v h => v = some (.ref bt) ∧ h0 = h) := by
  refine Con.intro (plainFor_of_name pn_1) hE X.el ?_
  intro p e s m below meth c T W
  have hsz := W.size
  refine Go.cast (efbv1 m (1 : Int32)) ?_
  refine Go.step (fun _ k => XS.iloadN W.here W.hx rfl (W.d dbv1_0) rfl k) ?_
  show Go _ _ _ _ _ _ _ _ _ _ (mkF m 1 #[.val (.int (1 : Int32))] [(.int (1 : Int32))])
  refine Go.step (fun _ k => XS.ifNo W.here W.hx rfl (W.d dbv1_1) rfl ((if0 _ _).trans (feq (by decide : ¬ ((1 : Int32) = (0 : Int32)))).1) k) ?_
  show Go _ _ _ _ _ _ _ _ _ _ (mkF m 4 #[.val (.int (1 : Int32))] [])
  refine W.getS (host := "") (Or.inl (X.w 8 rfl)) Via.refl N.1 dbv1_4 ?_
  intro T W
  show Go _ _ _ _ _ _ _ _ _ _ (mkF m 7 #[.val (.int (1 : Int32))] [(.ref bt)])
  refine Go.step (fun _ k => XS.goto W.here W.hx rfl (pc0 := 7) (pc' := 13) rfl (W.d dbv1_7) (by decide) (by decide) k) ?_
  show Go _ _ _ _ _ _ _ _ _ _ (mkF m 13 #[.val (.int (1 : Int32))] [(.ref bt)])
  exact W.retR rfl rfl rfl dbv1_13 (⟨rfl, rfl⟩) (by decide) (by decide)

theorem dbb1_0 : decode jdk_2055_method_4_code 0 = .ok (.aload_n 0, 1) := by decide +kernel
theorem dbb1_1 : decode jdk_2055_method_4_code 1 = .ok (.getfield 7, 3) := by decide +kernel
theorem dbb1_4 : decode jdk_2055_method_4_code 4 = .ok (.ireturn, 1) := by decide +kernel
theorem efbb1 (m : MethodId) (x0 : Addr) : entryFrame m #[(.ref x0)] 1 = mkF m 0 #[.val (.ref x0)] [] := by first | (simp [entryFrame, mkF, argsToLocals, Value.category]; done) | rfl
set_option maxRecDepth 65536 in
set_option maxHeartbeats 40000000 in
theorem c_bb1 {l : Launch} {Z : State} {a0 : Array Value} {G1 : Int32} (X : Ctx Z a0 G1) (a : Addr) (h0 : Heap) (hE : Ext Z.heap h0) (F : Fld Z h0 a "java/lang/Boolean" "value" "Z" (.int (1 : Int32))) :
    Con l Z consts_1 (⟨"java/lang/Boolean", "booleanValue", "()Z"⟩ : MethodName) jdk_2055_method_4_code 1 (some .boolean) [] ({ frames := 0, cells := 0, slots := 0, locals := 0 } : Room) #[(.ref a)] h0 (fun v h => v = some (.int 1) ∧ h0 = h) := by
  refine Con.intro (plainFor_of_name pn_1) hE X.el ?_
  intro p e s m below meth c T W
  have hsz := W.size
  refine Go.cast (efbb1 m a) ?_
  refine Go.step (fun _ k => XS.aloadN W.here W.hx rfl (W.d dbb1_0) rfl rfl k) ?_
  show Go _ _ _ _ _ _ _ _ _ _ (mkF m 1 #[.val (.ref a)] [(.ref a)])
  refine W.getF (host := "") (Or.inl (X.w 16 rfl)) Via.refl F dbb1_1 ?_
  intro T W
  show Go _ _ _ _ _ _ _ _ _ _ (mkF m 4 #[.val (.ref a)] [(.int (1 : Int32))])
  exact W.retN (by simp) dbb1_4 (⟨rfl, rfl⟩) (by decide) (by decide)

theorem dtb1_0 : decode prog_17_method_5_code 0 = .ok (.aload_n 0, 1) := by decide +kernel
theorem dtb1_1 : decode prog_17_method_5_code 1 = .ok (.ifnonnull 8, 3) := by decide +kernel
theorem dtb1_9 : decode prog_17_method_5_code 9 = .ok (.aload_n 0, 1) := by decide +kernel
theorem dtb1_10 : decode prog_17_method_5_code 10 = .ok (.instanceof 61, 3) := by decide +kernel
theorem dtb1_13 : decode prog_17_method_5_code 13 = .ok (.ifCond .eq 16, 3) := by decide +kernel
theorem dtb1_16 : decode prog_17_method_5_code 16 = .ok (.aload_n 0, 1) := by decide +kernel
theorem dtb1_17 : decode prog_17_method_5_code 17 = .ok (.checkcast 61, 3) := by decide +kernel
theorem dtb1_20 : decode prog_17_method_5_code 20 = .ok (.astore_n 3, 1) := by decide +kernel
theorem dtb1_21 : decode prog_17_method_5_code 21 = .ok (.aload_n 3, 1) := by decide +kernel
theorem dtb1_22 : decode prog_17_method_5_code 22 = .ok (.invokevirtual 177, 3) := by decide +kernel
theorem dtb1_25 : decode prog_17_method_5_code 25 = .ok (.istore_n 1, 1) := by decide +kernel
theorem dtb1_26 : decode prog_17_method_5_code 26 = .ok (.goto 30, 3) := by decide +kernel
theorem dtb1_56 : decode prog_17_method_5_code 56 = .ok (.iload_n 1, 1) := by decide +kernel
theorem dtb1_57 : decode prog_17_method_5_code 57 = .ok (.ireturn, 1) := by decide +kernel
theorem eftb1 (m : MethodId) (x0 : Addr) : entryFrame m #[(.ref x0)] 4 = mkF m 0 #[.val (.ref x0), .unset, .unset, .unset] [] := by first | (simp [entryFrame, mkF, argsToLocals, Value.category]; done) | rfl
set_option maxRecDepth 65536 in
set_option maxHeartbeats 40000000 in
theorem c_tb1 {l : Launch} {Z : State} {a0 : Array Value} {G1 : Int32} (X : Ctx Z a0 G1) (a : Addr) (h0 : Heap) (hE : Ext Z.heap h0) (A : Exa Z h0 a "java/lang/Boolean") (F : Fld Z h0 a "java/lang/Boolean" "value" "Z" (.int (1 : Int32))) :
    Con l Z consts_1 (⟨"com/example/wary_validator/waryvalidator/messageinterpolation/ExpressionOperators", "toBoolean", "(Ljava/lang/Object;)Z"⟩ : MethodName) prog_17_method_5_code 4 (some .boolean) [] ({ frames := 1, cells := 0, slots := 0, locals := 12 } : Room) #[(.ref a)] h0 (fun v h => v = some (.int 1) ∧ h0 = h) := by
  refine Con.intro (plainFor_of_name pn_2) hE X.el ?_
  intro p e s m below meth c T W
  have hsz := W.size
  refine Go.cast (eftb1 m a) ?_
  refine Go.step (fun _ k => XS.aloadN W.here W.hx rfl (W.d dtb1_0) rfl rfl k) ?_
  show Go _ _ _ _ _ _ _ _ _ _ (mkF m 1 #[.val (.ref a), .unset, .unset, .unset] [(.ref a)])
  refine Go.step (fun _ k => XS.ifnonnullYes W.here W.hx rfl (pc0 := 1) (pc' := 9) rfl (W.d dtb1_1) rfl (by decide) (by decide) k) ?_
  show Go _ _ _ _ _ _ _ _ _ _ (mkF m 9 #[.val (.ref a), .unset, .unset, .unset] [])
  refine Go.step (fun _ k => XS.aloadN W.here W.hx rfl (W.d dtb1_9) rfl rfl k) ?_
  show Go _ _ _ _ _ _ _ _ _ _ (mkF m 10 #[.val (.ref a), .unset, .unset, .unset] [(.ref a)])
  refine W.instY (X.w 9 rfl) (Ins.self A) dtb1_10 ?_
  intro T W
  show Go _ _ _ _ _ _ _ _ _ _ (mkF m 13 #[.val (.ref a), .unset, .unset, .unset] [(.int (1 : Int32))])
  refine Go.step (fun _ k => XS.ifNo W.here W.hx rfl (W.d dtb1_13) rfl ((if0 _ _).trans (feq (by decide : ¬ ((1 : Int32) = (0 : Int32)))).1) k) ?_
  show Go _ _ _ _ _ _ _ _ _ _ (mkF m 16 #[.val (.ref a), .unset, .unset, .unset] [])
  refine Go.step (fun _ k => XS.aloadN W.here W.hx rfl (W.d dtb1_16) rfl rfl k) ?_
  show Go _ _ _ _ _ _ _ _ _ _ (mkF m 17 #[.val (.ref a), .unset, .unset, .unset] [(.ref a)])
  refine W.cast (X.w 9 rfl) (Ins.self A) dtb1_17 ?_
  intro T W
  show Go _ _ _ _ _ _ _ _ _ _ (mkF m 20 #[.val (.ref a), .unset, .unset, .unset] [(.ref a)])
  refine Go.step (fun _ k => XS.astoreN W.here W.hx rfl (W.d dtb1_20) rfl rfl (l' := #[.val (.ref a), .unset, .unset, .val (.ref a)]) rfl k) ?_
  show Go _ _ _ _ _ _ _ _ _ _ (mkF m 21 #[.val (.ref a), .unset, .unset, .val (.ref a)] [])
  refine Go.step (fun _ k => XS.aloadN W.here W.hx rfl (W.d dtb1_21) rfl rfl k) ?_
  show Go _ _ _ _ _ _ _ _ _ _ (mkF m 22 #[.val (.ref a), .unset, .unset, .val (.ref a)] [(.ref a)])
  refine W.virtual (X.w 11 rfl) (X.w 12 rfl) (notFace_of_selects (args := #[]) (mvT W.hZ (X.w 14 rfl))) (X.w 14 rfl) (X.w 13 rfl) (X.w 6 rfl) (X.w 15 rfl) (by decide) (c_bb1 X a _ W.ext F) (by decide) (Wd := 0) (by decide) a A [] [] rfl pd_1 rfl rfl rfl (Nat.le_of_eq rfl) dtb1_22 (by decide) (by decide) ?_
  intro v T h vm W hQ C
  obtain ⟨rfl, rfl⟩ := hQ
  show Go _ _ _ _ _ _ _ _ _ _ (mkF m 25 #[.val (.ref a), .unset, .unset, .val (.ref a)] [(.int (1 : Int32))])
  refine Go.step (fun _ k => XS.istoreN W.here W.hx rfl (W.d dtb1_25) rfl (l' := #[.val (.ref a), .val (.int (1 : Int32)), .unset, .val (.ref a)]) rfl k) ?_
  show Go _ _ _ _ _ _ _ _ _ _ (mkF m 26 #[.val (.ref a), .val (.int (1 : Int32)), .unset, .val (.ref a)] [])
  refine Go.step (fun _ k => XS.goto W.here W.hx rfl (pc0 := 26) (pc' := 56) rfl (W.d dtb1_26) (by decide) (by decide) k) ?_
  show Go _ _ _ _ _ _ _ _ _ _ (mkF m 56 #[.val (.ref a), .val (.int (1 : Int32)), .unset, .val (.ref a)] [])
  refine Go.step (fun _ k => XS.iloadN W.here W.hx rfl (W.d dtb1_56) rfl k) ?_
  show Go _ _ _ _ _ _ _ _ _ _ (mkF m 57 #[.val (.ref a), .val (.int (1 : Int32)), .unset, .val (.ref a)] [(.int (1 : Int32))])
  exact W.retN (by simp) dtb1_57 (⟨rfl, rfl⟩) (by decide) (by decide)

theorem dbv0_0 : decode jdk_2055_method_5_code 0 = .ok (.iload_n 0, 1) := by decide +kernel
theorem dbv0_1 : decode jdk_2055_method_5_code 1 = .ok (.ifCond .eq 9, 3) := by decide +kernel
theorem dbv0_10 : decode jdk_2055_method_5_code 10 = .ok (.getstatic 31, 3) := by decide +kernel
theorem dbv0_13 : decode jdk_2055_method_5_code 13 = .ok (.areturn, 1) := by decide +kernel
theorem efbv0 (m : MethodId) (x0 : Int32) : entryFrame m #[(.int x0)] 1 = mkF m 0 #[.val (.int x0)] [] := by first | (simp [entryFrame, mkF, argsToLocals, Value.category]; done) | rfl
set_option maxRecDepth 65536 in
set_option maxHeartbeats 40000000 in
theorem c_bv0 {l : Launch} {Z : State} {a0 : Array Value} {G1 : Int32} (X : Ctx Z a0 G1) (bt bf : Addr) (h0 : Heap) (hE : Ext Z.heap h0) (N : Bo Z bt bf) :
    Con l Z consts_1 (⟨"java/lang/Boolean", "valueOf", "(Z)Ljava/lang/Boolean;"⟩ : MethodName) jdk_2055_method_5_code 1 (some (.object "java/lang/Boolean")) [] ({ frames := 0, cells := 0, slots := 0, locals := 0 } : Room) #[(.int (0 : Int32))] h0 (fun v h => v = some (.ref bf) ∧ h0 = h) := by
  refine Con.intro (plainFor_of_name pn_1) hE X.el ?_
  intro p e s m below meth c T W
  have hsz := W.size
  refine Go.cast (efbv0 m (0 : Int32)) ?_
  refine Go.step (fun _ k => XS.iloadN W.here W.hx rfl (W.d dbv0_0) rfl k) ?_
  show Go _ _ _ _ _ _ _ _ _ _ (mkF m 1 #[.val (.int (0 : Int32))] [(.int (0 : Int32))])
  refine Go.step (fun _ k => XS.ifYes W.here W.hx rfl (pc0 := 1) (pc' := 10) rfl (W.d dbv0_1) rfl ((if0 _ _).trans (teq (by decide : (0 : Int32) = (0 : Int32))).1) (by decide) (by decide) k) ?_
  show Go _ _ _ _ _ _ _ _ _ _ (mkF m 10 #[.val (.int (0 : Int32))] [])
  refine W.getS (host := "") (Or.inl (X.w 81 rfl)) Via.refl N.2.2.2.1 dbv0_10 ?_
  intro T W
  show Go _ _ _ _ _ _ _ _ _ _ (mkF m 13 #[.val (.int (0 : Int32))] [(.ref bf)])
  exact W.retR rfl rfl rfl dbv0_13 (⟨rfl, rfl⟩) (by decide) (by decide)

theorem dbb0_0 : decode jdk_2055_method_4_code 0 = .ok (.aload_n 0, 1) := by decide +kernel
theorem dbb0_1 : decode jdk_2055_method_4_code 1 = .ok (.getfield 7, 3) := by decide +kernel
theorem dbb0_4 : decode jdk_2055_method_4_code 4 = .ok (.ireturn, 1) := by decide +kernel
theorem efbb0 (m : MethodId) (x0 : Addr) : entryFrame m #[(.ref x0)] 1 = mkF m 0 #[.val (.ref x0)] [] := by first | (simp [entryFrame, mkF, argsToLocals, Value.category]; done) | rfl
set_option maxRecDepth 65536 in
set_option maxHeartbeats 40000000 in
theorem c_bb0 {l : Launch} {Z : State} {a0 : Array Value} {G1 : Int32} (X : Ctx Z a0 G1) (a : Addr) (h0 : Heap) (hE : Ext Z.heap h0) (F : Fld Z h0 a "java/lang/Boolean" "value" "Z" (.int (0 : Int32))) :
    Con l Z consts_1 (⟨"java/lang/Boolean", "booleanValue", "()Z"⟩ : MethodName) jdk_2055_method_4_code 1 (some .boolean) [] ({ frames := 0, cells := 0, slots := 0, locals := 0 } : Room) #[(.ref a)] h0 (fun v h => v = some (.int 0) ∧ h0 = h) := by
  refine Con.intro (plainFor_of_name pn_1) hE X.el ?_
  intro p e s m below meth c T W
  have hsz := W.size
  refine Go.cast (efbb0 m a) ?_
  refine Go.step (fun _ k => XS.aloadN W.here W.hx rfl (W.d dbb0_0) rfl rfl k) ?_
  show Go _ _ _ _ _ _ _ _ _ _ (mkF m 1 #[.val (.ref a)] [(.ref a)])
  refine W.getF (host := "") (Or.inl (X.w 16 rfl)) Via.refl F dbb0_1 ?_
  intro T W
  show Go _ _ _ _ _ _ _ _ _ _ (mkF m 4 #[.val (.ref a)] [(.int (0 : Int32))])
  exact W.retN (by simp) dbb0_4 (⟨rfl, rfl⟩) (by decide) (by decide)

theorem dtb0_0 : decode prog_17_method_5_code 0 = .ok (.aload_n 0, 1) := by decide +kernel
theorem dtb0_1 : decode prog_17_method_5_code 1 = .ok (.ifnonnull 8, 3) := by decide +kernel
theorem dtb0_9 : decode prog_17_method_5_code 9 = .ok (.aload_n 0, 1) := by decide +kernel
theorem dtb0_10 : decode prog_17_method_5_code 10 = .ok (.instanceof 61, 3) := by decide +kernel
theorem dtb0_13 : decode prog_17_method_5_code 13 = .ok (.ifCond .eq 16, 3) := by decide +kernel
theorem dtb0_16 : decode prog_17_method_5_code 16 = .ok (.aload_n 0, 1) := by decide +kernel
theorem dtb0_17 : decode prog_17_method_5_code 17 = .ok (.checkcast 61, 3) := by decide +kernel
theorem dtb0_20 : decode prog_17_method_5_code 20 = .ok (.astore_n 3, 1) := by decide +kernel
theorem dtb0_21 : decode prog_17_method_5_code 21 = .ok (.aload_n 3, 1) := by decide +kernel
theorem dtb0_22 : decode prog_17_method_5_code 22 = .ok (.invokevirtual 177, 3) := by decide +kernel
theorem dtb0_25 : decode prog_17_method_5_code 25 = .ok (.istore_n 1, 1) := by decide +kernel
theorem dtb0_26 : decode prog_17_method_5_code 26 = .ok (.goto 30, 3) := by decide +kernel
theorem dtb0_56 : decode prog_17_method_5_code 56 = .ok (.iload_n 1, 1) := by decide +kernel
theorem dtb0_57 : decode prog_17_method_5_code 57 = .ok (.ireturn, 1) := by decide +kernel
theorem eftb0 (m : MethodId) (x0 : Addr) : entryFrame m #[(.ref x0)] 4 = mkF m 0 #[.val (.ref x0), .unset, .unset, .unset] [] := by first | (simp [entryFrame, mkF, argsToLocals, Value.category]; done) | rfl
set_option maxRecDepth 65536 in
set_option maxHeartbeats 40000000 in
theorem c_tb0 {l : Launch} {Z : State} {a0 : Array Value} {G1 : Int32} (X : Ctx Z a0 G1) (a : Addr) (h0 : Heap) (hE : Ext Z.heap h0) (A : Exa Z h0 a "java/lang/Boolean") (F : Fld Z h0 a "java/lang/Boolean" "value" "Z" (.int (0 : Int32))) :
    Con l Z consts_1 (⟨"com/example/wary_validator/waryvalidator/messageinterpolation/ExpressionOperators", "toBoolean", "(Ljava/lang/Object;)Z"⟩ : MethodName) prog_17_method_5_code 4 (some .boolean) [] ({ frames := 1, cells := 0, slots := 0, locals := 12 } : Room) #[(.ref a)] h0 (fun v h => v = some (.int 0) ∧ h0 = h) := by
  refine Con.intro (plainFor_of_name pn_2) hE X.el ?_
  intro p e s m below meth c T W
  have hsz := W.size
  refine Go.cast (eftb0 m a) ?_
  refine Go.step (fun _ k => XS.aloadN W.here W.hx rfl (W.d dtb0_0) rfl rfl k) ?_
  show Go _ _ _ _ _ _ _ _ _ _ (mkF m 1 #[.val (.ref a), .unset, .unset, .unset] [(.ref a)])
  refine Go.step (fun _ k => XS.ifnonnullYes W.here W.hx rfl (pc0 := 1) (pc' := 9) rfl (W.d dtb0_1) rfl (by decide) (by decide) k) ?_
  show Go _ _ _ _ _ _ _ _ _ _ (mkF m 9 #[.val (.ref a), .unset, .unset, .unset] [])
  refine Go.step (fun _ k => XS.aloadN W.here W.hx rfl (W.d dtb0_9) rfl rfl k) ?_
  show Go _ _ _ _ _ _ _ _ _ _ (mkF m 10 #[.val (.ref a), .unset, .unset, .unset] [(.ref a)])
  refine W.instY (X.w 9 rfl) (Ins.self A) dtb0_10 ?_
  intro T W
  show Go _ _ _ _ _ _ _ _ _ _ (mkF m 13 #[.val (.ref a), .unset, .unset, .unset] [(.int (1 : Int32))])
  refine Go.step (fun _ k => XS.ifNo W.here W.hx rfl (W.d dtb0_13) rfl ((if0 _ _).trans (feq (by decide : ¬ ((1 : Int32) = (0 : Int32)))).1) k) ?_
  show Go _ _ _ _ _ _ _ _ _ _ (mkF m 16 #[.val (.ref a), .unset, .unset, .unset] [])
  refine Go.step (fun _ k => XS.aloadN W.here W.hx rfl (W.d dtb0_16) rfl rfl k) ?_
  show Go _ _ _ _ _ _ _ _ _ _ (mkF m 17 #[.val (.ref a), .unset, .unset, .unset] [(.ref a)])
  refine W.cast (X.w 9 rfl) (Ins.self A) dtb0_17 ?_
  intro T W
  show Go _ _ _ _ _ _ _ _ _ _ (mkF m 20 #[.val (.ref a), .unset, .unset, .unset] [(.ref a)])
  refine Go.step (fun _ k => XS.astoreN W.here W.hx rfl (W.d dtb0_20) rfl rfl (l' := #[.val (.ref a), .unset, .unset, .val (.ref a)]) rfl k) ?_
  show Go _ _ _ _ _ _ _ _ _ _ (mkF m 21 #[.val (.ref a), .unset, .unset, .val (.ref a)] [])
  refine Go.step (fun _ k => XS.aloadN W.here W.hx rfl (W.d dtb0_21) rfl rfl k) ?_
  show Go _ _ _ _ _ _ _ _ _ _ (mkF m 22 #[.val (.ref a), .unset, .unset, .val (.ref a)] [(.ref a)])
  refine W.virtual (X.w 11 rfl) (X.w 12 rfl) (notFace_of_selects (args := #[]) (mvT W.hZ (X.w 14 rfl))) (X.w 14 rfl) (X.w 13 rfl) (X.w 6 rfl) (X.w 15 rfl) (by decide) (c_bb0 X a _ W.ext F) (by decide) (Wd := 0) (by decide) a A [] [] rfl pd_1 rfl rfl rfl (Nat.le_of_eq rfl) dtb0_22 (by decide) (by decide) ?_
  intro v T h vm W hQ C
  obtain ⟨rfl, rfl⟩ := hQ
  show Go _ _ _ _ _ _ _ _ _ _ (mkF m 25 #[.val (.ref a), .unset, .unset, .val (.ref a)] [(.int (0 : Int32))])
  refine Go.step (fun _ k => XS.istoreN W.here W.hx rfl (W.d dtb0_25) rfl (l' := #[.val (.ref a), .val (.int (0 : Int32)), .unset, .val (.ref a)]) rfl k) ?_
  show Go _ _ _ _ _ _ _ _ _ _ (mkF m 26 #[.val (.ref a), .val (.int (0 : Int32)), .unset, .val (.ref a)] [])
  refine Go.step (fun _ k => XS.goto W.here W.hx rfl (pc0 := 26) (pc' := 56) rfl (W.d dtb0_26) (by decide) (by decide) k) ?_
  show Go _ _ _ _ _ _ _ _ _ _ (mkF m 56 #[.val (.ref a), .val (.int (0 : Int32)), .unset, .val (.ref a)] [])
  refine Go.step (fun _ k => XS.iloadN W.here W.hx rfl (W.d dtb0_56) rfl k) ?_
  show Go _ _ _ _ _ _ _ _ _ _ (mkF m 57 #[.val (.ref a), .val (.int (0 : Int32)), .unset, .val (.ref a)] [(.int (0 : Int32))])
  exact W.retN (by simp) dtb0_57 (⟨rfl, rfl⟩) (by decide) (by decide)

theorem dtbn_0 : decode prog_17_method_5_code 0 = .ok (.aload_n 0, 1) := by decide +kernel
theorem dtbn_1 : decode prog_17_method_5_code 1 = .ok (.ifnonnull 8, 3) := by decide +kernel
theorem dtbn_4 : decode prog_17_method_5_code 4 = .ok (.iconst 0, 1) := by decide +kernel
theorem dtbn_5 : decode prog_17_method_5_code 5 = .ok (.istore_n 1, 1) := by decide +kernel
theorem dtbn_6 : decode prog_17_method_5_code 6 = .ok (.goto 50, 3) := by decide +kernel
theorem dtbn_56 : decode prog_17_method_5_code 56 = .ok (.iload_n 1, 1) := by decide +kernel
theorem dtbn_57 : decode prog_17_method_5_code 57 = .ok (.ireturn, 1) := by decide +kernel
theorem eftbn (m : MethodId)  : entryFrame m #[.null] 4 = mkF m 0 #[.val .null, .unset, .unset, .unset] [] := by first | (simp [entryFrame, mkF, argsToLocals, Value.category]; done) | rfl
set_option maxRecDepth 65536 in
set_option maxHeartbeats 40000000 in
theorem c_tbn {l : Launch} {Z : State} {a0 : Array Value} {G1 : Int32} (X : Ctx Z a0 G1)  (h0 : Heap) (hE : Ext Z.heap h0)  :
    Con l Z consts_1 (⟨"com/example/wary_validator/waryvalidator/messageinterpolation/ExpressionOperators", "toBoolean", "(Ljava/lang/Object;)Z"⟩ : MethodName) prog_17_method_5_code 4 (some .boolean) [] ({ frames := 0, cells := 0, slots := 0, locals := 0 } : Room) #[.null] h0 (fun v h => v = some (.int 0) ∧ h0 = h) := by
  refine Con.intro (plainFor_of_name pn_2) hE X.el ?_
  intro p e s m below meth c T W
  have hsz := W.size
  refine Go.cast (eftbn m ) ?_
  refine Go.step (fun _ k => XS.aloadN W.here W.hx rfl (W.d dtbn_0) rfl rfl k) ?_
  show Go _ _ _ _ _ _ _ _ _ _ (mkF m 1 #[.val .null, .unset, .unset, .unset] [.null])
  refine Go.step (fun _ k => XS.ifnonnullNo W.here W.hx rfl (W.d dtbn_1) rfl k) ?_
  show Go _ _ _ _ _ _ _ _ _ _ (mkF m 4 #[.val .null, .unset, .unset, .unset] [])
  refine Go.step (fun _ k => XS.iconst W.here W.hx rfl (W.d dtbn_4) k) ?_
  show Go _ _ _ _ _ _ _ _ _ _ (mkF m 5 #[.val .null, .unset, .unset, .unset] [(.int (0 : Int32))])
  refine Go.step (fun _ k => XS.istoreN W.here W.hx rfl (W.d dtbn_5) rfl (l' := #[.val .null, .val (.int (0 : Int32)), .unset, .unset]) rfl k) ?_
  show Go _ _ _ _ _ _ _ _ _ _ (mkF m 6 #[.val .null, .val (.int (0 : Int32)), .unset, .unset] [])
  refine Go.step (fun _ k => XS.goto W.here W.hx rfl (pc0 := 6) (pc' := 56) rfl (W.d dtbn_6) (by decide) (by decide) k) ?_
  show Go _ _ _ _ _ _ _ _ _ _ (mkF m 56 #[.val .null, .val (.int (0 : Int32)), .unset, .unset] [])
  refine Go.step (fun _ k => XS.iloadN W.here W.hx rfl (W.d dtbn_56) rfl k) ?_
  show Go _ _ _ _ _ _ _ _ _ _ (mkF m 57 #[.val .null, .val (.int (0 : Int32)), .unset, .unset] [(.int (0 : Int32))])
  exact W.retN (by simp) dtbn_57 (⟨rfl, rfl⟩) (by decide) (by decide)

theorem dpick_0 : decode method_3_code 0 = .ok (.iload_n 0, 1) := by decide +kernel
theorem dpick_1 : decode method_3_code 1 = .ok (.iconst 2, 1) := by decide +kernel
theorem dpick_2 : decode method_3_code 2 = .ok (.iload_n 1, 1) := by decide +kernel
theorem dpick_3 : decode method_3_code 3 = .ok (.imul, 1) := by decide +kernel
theorem dpick_4 : decode method_3_code 4 = .ok (.iushr, 1) := by decide +kernel
theorem dpick_5 : decode method_3_code 5 = .ok (.iconst 3, 1) := by decide +kernel
theorem dpick_6 : decode method_3_code 6 = .ok (.iand, 1) := by decide +kernel
theorem dpick_7 : decode method_3_code 7 = .ok (.istore 4, 2) := by decide +kernel
theorem dpick_9 : decode method_3_code 9 = .ok (.iload 4, 2) := by decide +kernel
theorem dpick_11 : decode method_3_code 11 = .ok (.ifCond .ne 5, 3) := by decide +kernel
theorem dpick_14 : decode method_3_code 14 = .ok (.iload_n 3, 1) := by decide +kernel
theorem dpick_15 : decode method_3_code 15 = .ok (.ireturn, 1) := by decide +kernel
theorem dpick_16 : decode method_3_code 16 = .ok (.iload 4, 2) := by decide +kernel
theorem dpick_18 : decode method_3_code 18 = .ok (.iconst 1, 1) := by decide +kernel
theorem dpick_19 : decode method_3_code 19 = .ok (.if_icmp .ne 9, 3) := by decide +kernel
theorem dpick_22 : decode method_3_code 22 = .ok (.iload_n 3, 1) := by decide +kernel
theorem dpick_23 : decode method_3_code 23 = .ok (.bipush 32, 2) := by decide +kernel
theorem dpick_25 : decode method_3_code 25 = .ok (.isub, 1) := by decide +kernel
theorem dpick_26 : decode method_3_code 26 = .ok (.i2c, 1) := by decide +kernel
theorem dpick_27 : decode method_3_code 27 = .ok (.ireturn, 1) := by decide +kernel
theorem dpick_28 : decode method_3_code 28 = .ok (.iload_n 2, 1) := by decide +kernel
theorem dpick_29 : decode method_3_code 29 = .ok (.i2c, 1) := by decide +kernel
theorem dpick_30 : decode method_3_code 30 = .ok (.ireturn, 1) := by decide +kernel
theorem efpick (m : MethodId) (x0 : Int32) (x1 : Int32) (x2 : Int32) (x3 : Int32) : entryFrame m #[(.int x0), (.int x1), (.int x2), (.int x3)] 5 = mkF m 0 #[.val (.int x0), .val (.int x1), .val (.int x2), .val (.int x3), .unset] [] := by first | (simp [entryFrame, mkF, argsToLocals, Value.category]; done) | rfl
set_option maxRecDepth 65536 in
set_option maxHeartbeats 40000000 in
theorem c_pick {l : Launch} {Z : State} {a0 : Array Value} {G1 : Int32} (X : Ctx Z a0 G1) (s0 i0 d0 lw : Int32) (h0 : Heap) (hE : Ext Z.heap h0) (hl : lw = 116 ∨ lw = 114 ∨ lw = 117 ∨ lw = 101) (td : Sm d0) :
    Con l Z consts_1 (⟨"com/example/wary_validator/waryvalidator/messageinterpolation/ExpressionOperatorsToBooleanPinLaw", "pick", "(IIIC)C"⟩ : MethodName) method_3_code 5 (some .char) [] ({ frames := 0, cells := 0, slots := 0, locals := 0 } : Room) #[(.int s0), (.int i0), (.int d0), (.int lw)] h0 (fun v h => ∃ z, v = some (.int z) ∧ Sm z ∧ h0 = h) := by
  refine Con.intro (plainFor_of_name pn_3) hE X.el ?_
  intro p e s m below meth c T W
  have hsz := W.size
  refine Go.cast (efpick m s0 i0 d0 lw) ?_
  refine Go.step (fun _ k => XS.iloadN W.here W.hx rfl (W.d dpick_0) rfl k) ?_
  show Go _ _ _ _ _ _ _ _ _ _ (mkF m 1 #[.val (.int s0), .val (.int i0), .val (.int d0), .val (.int lw), .unset] [(.int s0)])
  refine Go.step (fun _ k => XS.iconst W.here W.hx rfl (W.d dpick_1) k) ?_
  show Go _ _ _ _ _ _ _ _ _ _ (mkF m 2 #[.val (.int s0), .val (.int i0), .val (.int d0), .val (.int lw), .unset] [(.int (2 : Int32)), (.int s0)])
  refine Go.step (fun _ k => XS.iloadN W.here W.hx rfl (W.d dpick_2) rfl k) ?_
  show Go _ _ _ _ _ _ _ _ _ _ (mkF m 3 #[.val (.int s0), .val (.int i0), .val (.int d0), .val (.int lw), .unset] [(.int i0), (.int (2 : Int32)), (.int s0)])
  refine Go.step (fun _ k => XS.imul W.here W.hx rfl (W.d dpick_3) rfl k) ?_
  show Go _ _ _ _ _ _ _ _ _ _ (mkF m 4 #[.val (.int s0), .val (.int i0), .val (.int d0), .val (.int lw), .unset] [(.int ((2 : Int32) * i0)), (.int s0)])
  refine Go.step (fun _ k => XS.iushr W.here W.hx rfl (W.d dpick_4) rfl k) ?_
  show Go _ _ _ _ _ _ _ _ _ _ (mkF m 5 #[.val (.int s0), .val (.int i0), .val (.int d0), .val (.int lw), .unset] [(.int ((s0.toUInt32 >>> (((2 : Int32) * i0) &&& 31).toUInt32).toInt32))])
  refine Go.step (fun _ k => XS.iconst W.here W.hx rfl (W.d dpick_5) k) ?_
  show Go _ _ _ _ _ _ _ _ _ _ (mkF m 6 #[.val (.int s0), .val (.int i0), .val (.int d0), .val (.int lw), .unset] [(.int (3 : Int32)), (.int ((s0.toUInt32 >>> (((2 : Int32) * i0) &&& 31).toUInt32).toInt32))])
  refine Go.step (fun _ k => XS.iand W.here W.hx rfl (W.d dpick_6) rfl k) ?_
  show Go _ _ _ _ _ _ _ _ _ _ (mkF m 7 #[.val (.int s0), .val (.int i0), .val (.int d0), .val (.int lw), .unset] [(.int (((s0.toUInt32 >>> (((2 : Int32) * i0) &&& 31).toUInt32).toInt32) &&& (3 : Int32)))])
  refine Go.step (fun _ k => XS.istore W.here W.hx rfl (W.d dpick_7) rfl (l' := #[.val (.int s0), .val (.int i0), .val (.int d0), .val (.int lw), .val (.int (((s0.toUInt32 >>> (((2 : Int32) * i0) &&& 31).toUInt32).toInt32) &&& (3 : Int32)))]) rfl k) ?_
  show Go _ _ _ _ _ _ _ _ _ _ (mkF m 9 #[.val (.int s0), .val (.int i0), .val (.int d0), .val (.int lw), .val (.int (((s0.toUInt32 >>> (((2 : Int32) * i0) &&& 31).toUInt32).toInt32) &&& (3 : Int32)))] [])
  refine Go.step (fun _ k => XS.iload W.here W.hx rfl (W.d dpick_9) rfl k) ?_
  show Go _ _ _ _ _ _ _ _ _ _ (mkF m 11 #[.val (.int s0), .val (.int i0), .val (.int d0), .val (.int lw), .val (.int (((s0.toUInt32 >>> (((2 : Int32) * i0) &&& 31).toUInt32).toInt32) &&& (3 : Int32)))] [(.int (((s0.toUInt32 >>> (((2 : Int32) * i0) &&& 31).toUInt32).toInt32) &&& (3 : Int32)))])
  by_cases hc1 : (((s0.toUInt32 >>> (((2 : Int32) * i0) &&& 31).toUInt32).toInt32) &&& (3 : Int32)) = (0 : Int32)
  · refine Go.step (fun _ k => XS.ifNo W.here W.hx rfl (W.d dpick_11) rfl ((if0 _ _).trans (teq hc1).2) k) ?_
    show Go _ _ _ _ _ _ _ _ _ _ (mkF m 14 #[.val (.int s0), .val (.int i0), .val (.int d0), .val (.int lw), .val (.int (((s0.toUInt32 >>> (((2 : Int32) * i0) &&& 31).toUInt32).toInt32) &&& (3 : Int32)))] [])
    refine Go.step (fun _ k => XS.iloadN W.here W.hx rfl (W.d dpick_14) rfl k) ?_
    show Go _ _ _ _ _ _ _ _ _ _ (mkF m 15 #[.val (.int s0), .val (.int i0), .val (.int d0), .val (.int lw), .val (.int (((s0.toUInt32 >>> (((2 : Int32) * i0) &&& 31).toUInt32).toInt32) &&& (3 : Int32)))] [(.int lw)])
    exact W.retN (by simp) dpick_15 (⟨_, rfl, (by rcases hl with rfl | rfl | rfl | rfl <;> decide), rfl⟩) (by decide) (by decide)
  · refine Go.step (fun _ k => XS.ifYes W.here W.hx rfl (pc0 := 11) (pc' := 16) rfl (W.d dpick_11) rfl ((if0 _ _).trans (feq hc1).2) (by decide) (by decide) k) ?_
    show Go _ _ _ _ _ _ _ _ _ _ (mkF m 16 #[.val (.int s0), .val (.int i0), .val (.int d0), .val (.int lw), .val (.int (((s0.toUInt32 >>> (((2 : Int32) * i0) &&& 31).toUInt32).toInt32) &&& (3 : Int32)))] [])
    refine Go.step (fun _ k => XS.iload W.here W.hx rfl (W.d dpick_16) rfl k) ?_
    show Go _ _ _ _ _ _ _ _ _ _ (mkF m 18 #[.val (.int s0), .val (.int i0), .val (.int d0), .val (.int lw), .val (.int (((s0.toUInt32 >>> (((2 : Int32) * i0) &&& 31).toUInt32).toInt32) &&& (3 : Int32)))] [(.int (((s0.toUInt32 >>> (((2 : Int32) * i0) &&& 31).toUInt32).toInt32) &&& (3 : Int32)))])
    refine Go.step (fun _ k => XS.iconst W.here W.hx rfl (W.d dpick_18) k) ?_
    show Go _ _ _ _ _ _ _ _ _ _ (mkF m 19 #[.val (.int s0), .val (.int i0), .val (.int d0), .val (.int lw), .val (.int (((s0.toUInt32 >>> (((2 : Int32) * i0) &&& 31).toUInt32).toInt32) &&& (3 : Int32)))] [(.int (1 : Int32)), (.int (((s0.toUInt32 >>> (((2 : Int32) * i0) &&& 31).toUInt32).toInt32) &&& (3 : Int32)))])
    by_cases hc2 : (((s0.toUInt32 >>> (((2 : Int32) * i0) &&& 31).toUInt32).toInt32) &&& (3 : Int32)) = (1 : Int32)
    · refine Go.step (fun _ k => XS.icmpNo W.here W.hx rfl (W.d dpick_19) rfl (teq hc2).2 k) ?_
      show Go _ _ _ _ _ _ _ _ _ _ (mkF m 22 #[.val (.int s0), .val (.int i0), .val (.int d0), .val (.int lw), .val (.int (((s0.toUInt32 >>> (((2 : Int32) * i0) &&& 31).toUInt32).toInt32) &&& (3 : Int32)))] [])
      refine Go.step (fun _ k => XS.iloadN W.here W.hx rfl (W.d dpick_22) rfl k) ?_
      show Go _ _ _ _ _ _ _ _ _ _ (mkF m 23 #[.val (.int s0), .val (.int i0), .val (.int d0), .val (.int lw), .val (.int (((s0.toUInt32 >>> (((2 : Int32) * i0) &&& 31).toUInt32).toInt32) &&& (3 : Int32)))] [(.int lw)])
      refine Go.step (fun _ k => XS.bipush W.here W.hx rfl (W.d dpick_23) k) ?_
      show Go _ _ _ _ _ _ _ _ _ _ (mkF m 25 #[.val (.int s0), .val (.int i0), .val (.int d0), .val (.int lw), .val (.int (((s0.toUInt32 >>> (((2 : Int32) * i0) &&& 31).toUInt32).toInt32) &&& (3 : Int32)))] [(.int (32 : Int32)), (.int lw)])
      refine Go.step (fun _ k => XS.isub W.here W.hx rfl (W.d dpick_25) rfl k) ?_
      show Go _ _ _ _ _ _ _ _ _ _ (mkF m 26 #[.val (.int s0), .val (.int i0), .val (.int d0), .val (.int lw), .val (.int (((s0.toUInt32 >>> (((2 : Int32) * i0) &&& 31).toUInt32).toInt32) &&& (3 : Int32)))] [(.int (lw - (32 : Int32)))])
      refine Go.step (fun _ k => XS.i2c W.here W.hx rfl (W.d dpick_26) rfl k) ?_
      show Go _ _ _ _ _ _ _ _ _ _ (mkF m 27 #[.val (.int s0), .val (.int i0), .val (.int d0), .val (.int lw), .val (.int (((s0.toUInt32 >>> (((2 : Int32) * i0) &&& 31).toUInt32).toInt32) &&& (3 : Int32)))] [(.int ((lw - (32 : Int32)).toUInt32.toUInt16.toUInt32.toInt32))])
      exact W.retN (by simp) dpick_27 (⟨_, rfl, (by rcases hl with rfl | rfl | rfl | rfl <;> decide), rfl⟩) (by decide) (by decide)
    · refine Go.step (fun _ k => XS.icmpYes W.here W.hx rfl (pc0 := 19) (pc' := 28) rfl (W.d dpick_19) rfl (feq hc2).2 (by decide) (by decide) k) ?_
      show Go _ _ _ _ _ _ _ _ _ _ (mkF m 28 #[.val (.int s0), .val (.int i0), .val (.int d0), .val (.int lw), .val (.int (((s0.toUInt32 >>> (((2 : Int32) * i0) &&& 31).toUInt32).toInt32) &&& (3 : Int32)))] [])
      refine Go.step (fun _ k => XS.iloadN W.here W.hx rfl (W.d dpick_28) rfl k) ?_
      show Go _ _ _ _ _ _ _ _ _ _ (mkF m 29 #[.val (.int s0), .val (.int i0), .val (.int d0), .val (.int lw), .val (.int (((s0.toUInt32 >>> (((2 : Int32) * i0) &&& 31).toUInt32).toInt32) &&& (3 : Int32)))] [(.int d0)])
      refine Go.step (fun _ k => XS.i2c W.here W.hx rfl (W.d dpick_29) rfl k) ?_
      show Go _ _ _ _ _ _ _ _ _ _ (mkF m 30 #[.val (.int s0), .val (.int i0), .val (.int d0), .val (.int lw), .val (.int (((s0.toUInt32 >>> (((2 : Int32) * i0) &&& 31).toUInt32).toInt32) &&& (3 : Int32)))] [(.int (d0.toUInt32.toUInt16.toUInt32.toInt32))])
      exact W.retN (by simp) dpick_30 (⟨_, rfl, chr_sm td, rfl⟩) (by decide) (by decide)

theorem dsame_0 : decode method_4_code 0 = .ok (.iload_n 0, 1) := by decide +kernel
theorem dsame_1 : decode method_4_code 1 = .ok (.iload_n 1, 1) := by decide +kernel
theorem dsame_2 : decode method_4_code 2 = .ok (.if_icmp .eq 12, 3) := by decide +kernel
theorem dsame_5 : decode method_4_code 5 = .ok (.iload_n 0, 1) := by decide +kernel
theorem dsame_6 : decode method_4_code 6 = .ok (.iload_n 1, 1) := by decide +kernel
theorem dsame_7 : decode method_4_code 7 = .ok (.bipush 32, 2) := by decide +kernel
theorem dsame_9 : decode method_4_code 9 = .ok (.isub, 1) := by decide +kernel
theorem dsame_10 : decode method_4_code 10 = .ok (.i2c, 1) := by decide +kernel
theorem dsame_11 : decode method_4_code 11 = .ok (.if_icmp .ne 7, 3) := by decide +kernel
theorem dsame_14 : decode method_4_code 14 = .ok (.iconst 1, 1) := by decide +kernel
theorem dsame_15 : decode method_4_code 15 = .ok (.goto 4, 3) := by decide +kernel
theorem dsame_18 : decode method_4_code 18 = .ok (.iconst 0, 1) := by decide +kernel
theorem dsame_19 : decode method_4_code 19 = .ok (.ireturn, 1) := by decide +kernel
theorem efsame (m : MethodId) (x0 : Int32) (x1 : Int32) : entryFrame m #[(.int x0), (.int x1)] 2 = mkF m 0 #[.val (.int x0), .val (.int x1)] [] := by first | (simp [entryFrame, mkF, argsToLocals, Value.category]; done) | rfl
set_option maxRecDepth 65536 in
set_option maxHeartbeats 40000000 in
theorem c_same {l : Launch} {Z : State} {a0 : Array Value} {G1 : Int32} (X : Ctx Z a0 G1) (c0 lw : Int32) (h0 : Heap) (hE : Ext Z.heap h0) (hl : lw = 116 ∨ lw = 114 ∨ lw = 117 ∨ lw = 101) :
    Con l Z consts_1 (⟨"com/example/wary_validator/waryvalidator/messageinterpolation/ExpressionOperatorsToBooleanPinLaw", "same", "(CC)Z"⟩ : MethodName) method_4_code 2 (some .boolean) [] ({ frames := 0, cells := 0, slots := 0, locals := 0 } : Room) #[(.int c0), (.int lw)] h0 (fun v h => ((v = some (.int 1) ∧ SmL c0 lw) ∨ (v = some (.int 0) ∧ ¬ SmL c0 lw)) ∧ h0 = h) := by
  refine Con.intro (plainFor_of_name pn_3) hE X.el ?_
  intro p e s m below meth c T W
  have hsz := W.size
  refine Go.cast (efsame m c0 lw) ?_
  refine Go.step (fun _ k => XS.iloadN W.here W.hx rfl (W.d dsame_0) rfl k) ?_
  show Go _ _ _ _ _ _ _ _ _ _ (mkF m 1 #[.val (.int c0), .val (.int lw)] [(.int c0)])
  refine Go.step (fun _ k => XS.iloadN W.here W.hx rfl (W.d dsame_1) rfl k) ?_
  show Go _ _ _ _ _ _ _ _ _ _ (mkF m 2 #[.val (.int c0), .val (.int lw)] [(.int lw), (.int c0)])
  by_cases hc1 : c0 = lw
  · refine Go.step (fun _ k => XS.icmpYes W.here W.hx rfl (pc0 := 2) (pc' := 14) rfl (W.d dsame_2) rfl (teq hc1).1 (by decide) (by decide) k) ?_
    show Go _ _ _ _ _ _ _ _ _ _ (mkF m 14 #[.val (.int c0), .val (.int lw)] [])
    refine Go.step (fun _ k => XS.iconst W.here W.hx rfl (W.d dsame_14) k) ?_
    show Go _ _ _ _ _ _ _ _ _ _ (mkF m 15 #[.val (.int c0), .val (.int lw)] [(.int (1 : Int32))])
    refine Go.step (fun _ k => XS.goto W.here W.hx rfl (pc0 := 15) (pc' := 19) rfl (W.d dsame_15) (by decide) (by decide) k) ?_
    show Go _ _ _ _ _ _ _ _ _ _ (mkF m 19 #[.val (.int c0), .val (.int lw)] [(.int (1 : Int32))])
    have hk : ((lw - (32 : Int32)).toUInt32.toUInt16.toUInt32.toInt32) = lw - (32 : Int32) := by rcases hl with rfl | rfl | rfl | rfl <;> decide
    exact W.retN (by simp) dsame_19 (⟨Or.inl ⟨rfl, Or.inl hc1⟩, rfl⟩) (by decide) (by decide)
  · refine Go.step (fun _ k => XS.icmpNo W.here W.hx rfl (W.d dsame_2) rfl (feq hc1).1 k) ?_
    show Go _ _ _ _ _ _ _ _ _ _ (mkF m 5 #[.val (.int c0), .val (.int lw)] [])
    refine Go.step (fun _ k => XS.iloadN W.here W.hx rfl (W.d dsame_5) rfl k) ?_
    show Go _ _ _ _ _ _ _ _ _ _ (mkF m 6 #[.val (.int c0), .val (.int lw)] [(.int c0)])
    refine Go.step (fun _ k => XS.iloadN W.here W.hx rfl (W.d dsame_6) rfl k) ?_
    show Go _ _ _ _ _ _ _ _ _ _ (mkF m 7 #[.val (.int c0), .val (.int lw)] [(.int lw), (.int c0)])
    refine Go.step (fun _ k => XS.bipush W.here W.hx rfl (W.d dsame_7) k) ?_
    show Go _ _ _ _ _ _ _ _ _ _ (mkF m 9 #[.val (.int c0), .val (.int lw)] [(.int (32 : Int32)), (.int lw), (.int c0)])
    refine Go.step (fun _ k => XS.isub W.here W.hx rfl (W.d dsame_9) rfl k) ?_
    show Go _ _ _ _ _ _ _ _ _ _ (mkF m 10 #[.val (.int c0), .val (.int lw)] [(.int (lw - (32 : Int32))), (.int c0)])
    refine Go.step (fun _ k => XS.i2c W.here W.hx rfl (W.d dsame_10) rfl k) ?_
    show Go _ _ _ _ _ _ _ _ _ _ (mkF m 11 #[.val (.int c0), .val (.int lw)] [(.int ((lw - (32 : Int32)).toUInt32.toUInt16.toUInt32.toInt32)), (.int c0)])
    by_cases hc2 : c0 = ((lw - (32 : Int32)).toUInt32.toUInt16.toUInt32.toInt32)
    · refine Go.step (fun _ k => XS.icmpNo W.here W.hx rfl (W.d dsame_11) rfl (teq hc2).2 k) ?_
      show Go _ _ _ _ _ _ _ _ _ _ (mkF m 14 #[.val (.int c0), .val (.int lw)] [])
      refine Go.step (fun _ k => XS.iconst W.here W.hx rfl (W.d dsame_14) k) ?_
      show Go _ _ _ _ _ _ _ _ _ _ (mkF m 15 #[.val (.int c0), .val (.int lw)] [(.int (1 : Int32))])
      refine Go.step (fun _ k => XS.goto W.here W.hx rfl (pc0 := 15) (pc' := 19) rfl (W.d dsame_15) (by decide) (by decide) k) ?_
      show Go _ _ _ _ _ _ _ _ _ _ (mkF m 19 #[.val (.int c0), .val (.int lw)] [(.int (1 : Int32))])
      have hk : ((lw - (32 : Int32)).toUInt32.toUInt16.toUInt32.toInt32) = lw - (32 : Int32) := by rcases hl with rfl | rfl | rfl | rfl <;> decide
      exact W.retN (by simp) dsame_19 (⟨Or.inl ⟨rfl, Or.inr (hc2.trans hk)⟩, rfl⟩) (by decide) (by decide)
    · refine Go.step (fun _ k => XS.icmpYes W.here W.hx rfl (pc0 := 11) (pc' := 18) rfl (W.d dsame_11) rfl (feq hc2).2 (by decide) (by decide) k) ?_
      show Go _ _ _ _ _ _ _ _ _ _ (mkF m 18 #[.val (.int c0), .val (.int lw)] [])
      refine Go.step (fun _ k => XS.iconst W.here W.hx rfl (W.d dsame_18) k) ?_
      show Go _ _ _ _ _ _ _ _ _ _ (mkF m 19 #[.val (.int c0), .val (.int lw)] [(.int (0 : Int32))])
      have hk : ((lw - (32 : Int32)).toUInt32.toUInt16.toUInt32.toInt32) = lw - (32 : Int32) := by rcases hl with rfl | rfl | rfl | rfl <;> decide
      exact W.retN (by simp) dsame_19 (⟨Or.inr ⟨rfl, fun q => q.elim hc1 (fun r => hc2 (r.trans hk.symm))⟩, rfl⟩) (by decide) (by decide)

theorem dmk0_0 : decode method_5_code 0 = .ok (.iload_n 0, 1) := by decide +kernel
theorem dmk0_1 : decode method_5_code 1 = .ok (.ifCond .ne 7, 3) := by decide +kernel
theorem dmk0_4 : decode method_5_code 4 = .ok (.iconst 0, 1) := by decide +kernel
theorem dmk0_5 : decode method_5_code 5 = .ok (.newarray .char, 2) := by decide +kernel
theorem dmk0_7 : decode method_5_code 7 = .ok (.areturn, 1) := by decide +kernel
theorem efmk0 (m : MethodId) (x0 : Int32) (x1 : Int32) (x2 : Int32) (x3 : Int32) (x4 : Int32) (x5 : Int32) : entryFrame m #[(.int x0), (.int x1), (.int x2), (.int x3), (.int x4), (.int x5)] 6 = mkF m 0 #[.val (.int x0), .val (.int x1), .val (.int x2), .val (.int x3), .val (.int x4), .val (.int x5)] [] := by first | (simp [entryFrame, mkF, argsToLocals, Value.category]; done) | rfl
set_option maxRecDepth 65536 in
set_option maxHeartbeats 40000000 in
theorem c_mk0 {l : Launch} {Z : State} {a0 : Array Value} {G1 : Int32} (X : Ctx Z a0 G1) (y0 y1 y2 y3 y4 : Int32) (h0 : Heap) (hE : Ext Z.heap h0) (ty0 : Sm y0) (ty1 : Sm y1) (ty2 : Sm y2) (ty3 : Sm y3) (ty4 : Sm y4) :
    Con l Z consts_1 (⟨"com/example/wary_validator/waryvalidator/messageinterpolation/ExpressionOperatorsToBooleanPinLaw", "make", "(ICCCCC)[C"⟩ : MethodName) method_5_code 6 (some (.array .char)) [] ({ frames := 0, cells := 1, slots := 0, locals := 0 } : Room) #[(.int (0 : Int32)), (.int y0), (.int y1), (.int y2), (.int y3), (.int y4)] h0 (fun v h => ∃ (a : Addr) (k : ClassId), v = some (.ref a) ∧ Z.heap.size ≤ a ∧ Keep h0 h [] ∧ Arv Z h a k .char (0 : Int32) [] (.int (0 : Int32))) := by
  refine Con.intro (plainFor_of_name pn_3) hE X.el ?_
  intro p e s m below meth c T W
  have hsz := W.size
  refine Go.cast (efmk0 m (0 : Int32) y0 y1 y2 y3 y4) ?_
  have KP := Keep.refl h0 []
  refine Go.step (fun _ k => XS.iloadN W.here W.hx rfl (W.d dmk0_0) rfl k) ?_
  show Go _ _ _ _ _ _ _ _ _ _ (mkF m 1 #[.val (.int (0 : Int32)), .val (.int y0), .val (.int y1), .val (.int y2), .val (.int y3), .val (.int y4)] [(.int (0 : Int32))])
  refine Go.step (fun _ k => XS.ifNo W.here W.hx rfl (W.d dmk0_1) rfl ((if0 _ _).trans (teq (by decide : (0 : Int32) = (0 : Int32))).2) k) ?_
  show Go _ _ _ _ _ _ _ _ _ _ (mkF m 4 #[.val (.int (0 : Int32)), .val (.int y0), .val (.int y1), .val (.int y2), .val (.int y3), .val (.int y4)] [])
  refine Go.step (fun _ k => XS.iconst W.here W.hx rfl (W.d dmk0_4) k) ?_
  show Go _ _ _ _ _ _ _ _ _ _ (mkF m 5 #[.val (.int (0 : Int32)), .val (.int y0), .val (.int y1), .val (.int y2), .val (.int y3), .val (.int y4)] [(.int (0 : Int32))])
  refine W.newarr (X.w 26 rfl) dmk0_5 (by decide) (cap := 0) (by decide) (by decide) (by decide) (by decide) ?_
  intro T h b1 kb1 hb1 W Eb1 Vb1 Sfb1
  have sz_b1 : h0.size ≤ b1 := by rw [hb1]; exact KP.1
  have gb1 : Z.heap.size ≤ b1 := by rw [hb1]; exact hsz
  replace KP := KP.ext Eb1
  replace hsz := W.size
  replace Vb1 : Arv Z h b1 kb1 .char (0 : Int32) [] (.int (0 : Int32)) := Vb1.pad (pad_rep [] (.int (0 : Int32)) 0)
  show Go _ _ _ _ _ _ _ _ _ _ (mkF m 7 #[.val (.int (0 : Int32)), .val (.int y0), .val (.int y1), .val (.int y2), .val (.int y3), .val (.int y4)] [(.ref b1)])
  exact W.retR rfl rfl rfl dmk0_7 (⟨b1, kb1, rfl, gb1, KP, Vb1⟩) (by decide) (by decide)

theorem dmk1_0 : decode method_5_code 0 = .ok (.iload_n 0, 1) := by decide +kernel
theorem dmk1_1 : decode method_5_code 1 = .ok (.ifCond .ne 7, 3) := by decide +kernel
theorem dmk1_8 : decode method_5_code 8 = .ok (.iload_n 0, 1) := by decide +kernel
theorem dmk1_9 : decode method_5_code 9 = .ok (.iconst 1, 1) := by decide +kernel
theorem dmk1_10 : decode method_5_code 10 = .ok (.if_icmp .ne 11, 3) := by decide +kernel
theorem dmk1_13 : decode method_5_code 13 = .ok (.iconst 1, 1) := by decide +kernel
theorem dmk1_14 : decode method_5_code 14 = .ok (.newarray .char, 2) := by decide +kernel
theorem dmk1_16 : decode method_5_code 16 = .ok (.dup, 1) := by decide +kernel
theorem dmk1_17 : decode method_5_code 17 = .ok (.iconst 0, 1) := by decide +kernel
theorem dmk1_18 : decode method_5_code 18 = .ok (.iload_n 1, 1) := by decide +kernel
theorem dmk1_19 : decode method_5_code 19 = .ok (.castore, 1) := by decide +kernel
theorem dmk1_20 : decode method_5_code 20 = .ok (.areturn, 1) := by decide +kernel
theorem efmk1 (m : MethodId) (x0 : Int32) (x1 : Int32) (x2 : Int32) (x3 : Int32) (x4 : Int32) (x5 : Int32) : entryFrame m #[(.int x0), (.int x1), (.int x2), (.int x3), (.int x4), (.int x5)] 6 = mkF m 0 #[.val (.int x0), .val (.int x1), .val (.int x2), .val (.int x3), .val (.int x4), .val (.int x5)] [] := by first | (simp [entryFrame, mkF, argsToLocals, Value.category]; done) | rfl
set_option maxRecDepth 65536 in
set_option maxHeartbeats 40000000 in
theorem c_mk1 {l : Launch} {Z : State} {a0 : Array Value} {G1 : Int32} (X : Ctx Z a0 G1) (y0 y1 y2 y3 y4 : Int32) (h0 : Heap) (hE : Ext Z.heap h0) (ty0 : Sm y0) (ty1 : Sm y1) (ty2 : Sm y2) (ty3 : Sm y3) (ty4 : Sm y4) :
    Con l Z consts_1 (⟨"com/example/wary_validator/waryvalidator/messageinterpolation/ExpressionOperatorsToBooleanPinLaw", "make", "(ICCCCC)[C"⟩ : MethodName) method_5_code 6 (some (.array .char)) [] ({ frames := 0, cells := 1, slots := 1, locals := 0 } : Room) #[(.int (1 : Int32)), (.int y0), (.int y1), (.int y2), (.int y3), (.int y4)] h0 (fun v h => ∃ (a : Addr) (k : ClassId), v = some (.ref a) ∧ Z.heap.size ≤ a ∧ Keep h0 h [] ∧ Arv Z h a k .char (1 : Int32) [(.int y0)] (.int (0 : Int32))) := by
  refine Con.intro (plainFor_of_name pn_3) hE X.el ?_
  intro p e s m below meth c T W
  have hsz := W.size
  refine Go.cast (efmk1 m (1 : Int32) y0 y1 y2 y3 y4) ?_
  have KP := Keep.refl h0 []
  refine Go.step (fun _ k => XS.iloadN W.here W.hx rfl (W.d dmk1_0) rfl k) ?_
  show Go _ _ _ _ _ _ _ _ _ _ (mkF m 1 #[.val (.int (1 : Int32)), .val (.int y0), .val (.int y1), .val (.int y2), .val (.int y3), .val (.int y4)] [(.int (1 : Int32))])
  refine Go.step (fun _ k => XS.ifYes W.here W.hx rfl (pc0 := 1) (pc' := 8) rfl (W.d dmk1_1) rfl ((if0 _ _).trans (feq (by decide : ¬ ((1 : Int32) = (0 : Int32)))).2) (by decide) (by decide) k) ?_
  show Go _ _ _ _ _ _ _ _ _ _ (mkF m 8 #[.val (.int (1 : Int32)), .val (.int y0), .val (.int y1), .val (.int y2), .val (.int y3), .val (.int y4)] [])
  refine Go.step (fun _ k => XS.iloadN W.here W.hx rfl (W.d dmk1_8) rfl k) ?_
  show Go _ _ _ _ _ _ _ _ _ _ (mkF m 9 #[.val (.int (1 : Int32)), .val (.int y0), .val (.int y1), .val (.int y2), .val (.int y3), .val (.int y4)] [(.int (1 : Int32))])
  refine Go.step (fun _ k => XS.iconst W.here W.hx rfl (W.d dmk1_9) k) ?_
  show Go _ _ _ _ _ _ _ _ _ _ (mkF m 10 #[.val (.int (1 : Int32)), .val (.int y0), .val (.int y1), .val (.int y2), .val (.int y3), .val (.int y4)] [(.int (1 : Int32)), (.int (1 : Int32))])
  refine Go.step (fun _ k => XS.icmpNo W.here W.hx rfl (W.d dmk1_10) rfl (teq (by decide : (1 : Int32) = (1 : Int32))).2 k) ?_
  show Go _ _ _ _ _ _ _ _ _ _ (mkF m 13 #[.val (.int (1 : Int32)), .val (.int y0), .val (.int y1), .val (.int y2), .val (.int y3), .val (.int y4)] [])
  refine Go.step (fun _ k => XS.iconst W.here W.hx rfl (W.d dmk1_13) k) ?_
  show Go _ _ _ _ _ _ _ _ _ _ (mkF m 14 #[.val (.int (1 : Int32)), .val (.int y0), .val (.int y1), .val (.int y2), .val (.int y3), .val (.int y4)] [(.int (1 : Int32))])
  refine W.newarr (X.w 26 rfl) dmk1_14 (by decide) (cap := 1) (by decide) (by decide) (by decide) (by decide) ?_
  intro T h b1 kb1 hb1 W Eb1 Vb1 Sfb1
  have sz_b1 : h0.size ≤ b1 := by rw [hb1]; exact KP.1
  have gb1 : Z.heap.size ≤ b1 := by rw [hb1]; exact hsz
  replace KP := KP.ext Eb1
  replace hsz := W.size
  replace Vb1 : Arv Z h b1 kb1 .char (1 : Int32) [(.int (0 : Int32))] (.int (0 : Int32)) := Vb1.pad (pad_rep [] (.int (0 : Int32)) 1)
  show Go _ _ _ _ _ _ _ _ _ _ (mkF m 16 #[.val (.int (1 : Int32)), .val (.int y0), .val (.int y1), .val (.int y2), .val (.int y3), .val (.int y4)] [(.ref b1)])
  refine Go.step (fun _ k => XS.dup W.here W.hx rfl (W.d dmk1_16) rfl rfl k) ?_
  show Go _ _ _ _ _ _ _ _ _ _ (mkF m 17 #[.val (.int (1 : Int32)), .val (.int y0), .val (.int y1), .val (.int y2), .val (.int y3), .val (.int y4)] [(.ref b1), (.ref b1)])
  refine Go.step (fun _ k => XS.iconst W.here W.hx rfl (W.d dmk1_17) k) ?_
  show Go _ _ _ _ _ _ _ _ _ _ (mkF m 18 #[.val (.int (1 : Int32)), .val (.int y0), .val (.int y1), .val (.int y2), .val (.int y3), .val (.int y4)] [(.int (0 : Int32)), (.ref b1), (.ref b1)])
  refine Go.step (fun _ k => XS.iloadN W.here W.hx rfl (W.d dmk1_18) rfl k) ?_
  show Go _ _ _ _ _ _ _ _ _ _ (mkF m 19 #[.val (.int (1 : Int32)), .val (.int y0), .val (.int y1), .val (.int y2), .val (.int y3), .val (.int y4)] [(.int y0), (.int (0 : Int32)), (.ref b1), (.ref b1)])
  refine W.castore Vb1 0 rfl (by simp) (by decide) gb1 dmk1_19 ?_
  intro T h W K2 Vb1'
  replace KP := KP.otrN K2 sz_b1
  replace hsz := W.size
  replace Vb1 : Arv Z h b1 kb1 .char (1 : Int32) [(.int (nar .char y0))] (.int (0 : Int32)) := Vb1'
  rw [nar_small ty0] at Vb1
  show Go _ _ _ _ _ _ _ _ _ _ (mkF m 20 #[.val (.int (1 : Int32)), .val (.int y0), .val (.int y1), .val (.int y2), .val (.int y3), .val (.int y4)] [(.ref b1)])
  exact W.retR rfl rfl rfl dmk1_20 (⟨b1, kb1, rfl, gb1, KP, Vb1⟩) (by decide) (by decide)

theorem dmk2_0 : decode method_5_code 0 = .ok (.iload_n 0, 1) := by decide +kernel
theorem dmk2_1 : decode method_5_code 1 = .ok (.ifCond .ne 7, 3) := by decide +kernel
theorem dmk2_8 : decode method_5_code 8 = .ok (.iload_n 0, 1) := by decide +kernel
theorem dmk2_9 : decode method_5_code 9 = .ok (.iconst 1, 1) := by decide +kernel
theorem dmk2_10 : decode method_5_code 10 = .ok (.if_icmp .ne 11, 3) := by decide +kernel
theorem dmk2_21 : decode method_5_code 21 = .ok (.iload_n 0, 1) := by decide +kernel
theorem dmk2_22 : decode method_5_code 22 = .ok (.iconst 2, 1) := by decide +kernel
theorem dmk2_23 : decode method_5_code 23 = .ok (.if_icmp .ne 15, 3) := by decide +kernel
theorem dmk2_26 : decode method_5_code 26 = .ok (.iconst 2, 1) := by decide +kernel
theorem dmk2_27 : decode method_5_code 27 = .ok (.newarray .char, 2) := by decide +kernel
theorem dmk2_29 : decode method_5_code 29 = .ok (.dup, 1) := by decide +kernel
theorem dmk2_30 : decode method_5_code 30 = .ok (.iconst 0, 1) := by decide +kernel
theorem dmk2_31 : decode method_5_code 31 = .ok (.iload_n 1, 1) := by decide +kernel
theorem dmk2_32 : decode method_5_code 32 = .ok (.castore, 1) := by decide +kernel
theorem dmk2_33 : decode method_5_code 33 = .ok (.dup, 1) := by decide +kernel
theorem dmk2_34 : decode method_5_code 34 = .ok (.iconst 1, 1) := by decide +kernel
theorem dmk2_35 : decode method_5_code 35 = .ok (.iload_n 2, 1) := by decide +kernel
theorem dmk2_36 : decode method_5_code 36 = .ok (.castore, 1) := by decide +kernel
theorem dmk2_37 : decode method_5_code 37 = .ok (.areturn, 1) := by decide +kernel
theorem efmk2 (m : MethodId) (x0 : Int32) (x1 : Int32) (x2 : Int32) (x3 : Int32) (x4 : Int32) (x5 : Int32) : entryFrame m #[(.int x0), (.int x1), (.int x2), (.int x3), (.int x4), (.int x5)] 6 = mkF m 0 #[.val (.int x0), .val (.int x1), .val (.int x2), .val (.int x3), .val (.int x4), .val (.int x5)] [] := by first | (simp [entryFrame, mkF, argsToLocals, Value.category]; done) | rfl
set_option maxRecDepth 65536 in
set_option maxHeartbeats 40000000 in
theorem c_mk2 {l : Launch} {Z : State} {a0 : Array Value} {G1 : Int32} (X : Ctx Z a0 G1) (y0 y1 y2 y3 y4 : Int32) (h0 : Heap) (hE : Ext Z.heap h0) (ty0 : Sm y0) (ty1 : Sm y1) (ty2 : Sm y2) (ty3 : Sm y3) (ty4 : Sm y4) :
    Con l Z consts_1 (⟨"com/example/wary_validator/waryvalidator/messageinterpolation/ExpressionOperatorsToBooleanPinLaw", "make", "(ICCCCC)[C"⟩ : MethodName) method_5_code 6 (some (.array .char)) [] ({ frames := 0, cells := 1, slots := 2, locals := 0 } : Room) #[(.int (2 : Int32)), (.int y0), (.int y1), (.int y2), (.int y3), (.int y4)] h0 (fun v h => ∃ (a : Addr) (k : ClassId), v = some (.ref a) ∧ Z.heap.size ≤ a ∧ Keep h0 h [] ∧ Arv Z h a k .char (2 : Int32) [(.int y0), (.int y1)] (.int (0 : Int32))) := by
  refine Con.intro (plainFor_of_name pn_3) hE X.el ?_
  intro p e s m below meth c T W
  have hsz := W.size
  refine Go.cast (efmk2 m (2 : Int32) y0 y1 y2 y3 y4) ?_
  have KP := Keep.refl h0 []
  refine Go.step (fun _ k => XS.iloadN W.here W.hx rfl (W.d dmk2_0) rfl k) ?_
  show Go _ _ _ _ _ _ _ _ _ _ (mkF m 1 #[.val (.int (2 : Int32)), .val (.int y0), .val (.int y1), .val (.int y2), .val (.int y3), .val (.int y4)] [(.int (2 : Int32))])
  refine Go.step (fun _ k => XS.ifYes W.here W.hx rfl (pc0 := 1) (pc' := 8) rfl (W.d dmk2_1) rfl ((if0 _ _).trans (feq (by decide : ¬ ((2 : Int32) = (0 : Int32)))).2) (by decide) (by decide) k) ?_
  show Go _ _ _ _ _ _ _ _ _ _ (mkF m 8 #[.val (.int (2 : Int32)), .val (.int y0), .val (.int y1), .val (.int y2), .val (.int y3), .val (.int y4)] [])
  refine Go.step (fun _ k => XS.iloadN W.here W.hx rfl (W.d dmk2_8) rfl k) ?_
  show Go _ _ _ _ _ _ _ _ _ _ (mkF m 9 #[.val (.int (2 : Int32)), .val (.int y0), .val (.int y1), .val (.int y2), .val (.int y3), .val (.int y4)] [(.int (2 : Int32))])
  refine Go.step (fun _ k => XS.iconst W.here W.hx rfl (W.d dmk2_9) k) ?_
  show Go _ _ _ _ _ _ _ _ _ _ (mkF m 10 #[.val (.int (2 : Int32)), .val (.int y0), .val (.int y1), .val (.int y2), .val (.int y3), .val (.int y4)] [(.int (1 : Int32)), (.int (2 : Int32))])
  refine Go.step (fun _ k => XS.icmpYes W.here W.hx rfl (pc0 := 10) (pc' := 21) rfl (W.d dmk2_10) rfl (feq (by decide : ¬ ((2 : Int32) = (1 : Int32)))).2 (by decide) (by decide) k) ?_
  show Go _ _ _ _ _ _ _ _ _ _ (mkF m 21 #[.val (.int (2 : Int32)), .val (.int y0), .val (.int y1), .val (.int y2), .val (.int y3), .val (.int y4)] [])
  refine Go.step (fun _ k => XS.iloadN W.here W.hx rfl (W.d dmk2_21) rfl k) ?_
  show Go _ _ _ _ _ _ _ _ _ _ (mkF m 22 #[.val (.int (2 : Int32)), .val (.int y0), .val (.int y1), .val (.int y2), .val (.int y3), .val (.int y4)] [(.int (2 : Int32))])
  refine Go.step (fun _ k => XS.iconst W.here W.hx rfl (W.d dmk2_22) k) ?_
  show Go _ _ _ _ _ _ _ _ _ _ (mkF m 23 #[.val (.int (2 : Int32)), .val (.int y0), .val (.int y1), .val (.int y2), .val (.int y3), .val (.int y4)] [(.int (2 : Int32)), (.int (2 : Int32))])
  refine Go.step (fun _ k => XS.icmpNo W.here W.hx rfl (W.d dmk2_23) rfl (teq (by decide : (2 : Int32) = (2 : Int32))).2 k) ?_
  show Go _ _ _ _ _ _ _ _ _ _ (mkF m 26 #[.val (.int (2 : Int32)), .val (.int y0), .val (.int y1), .val (.int y2), .val (.int y3), .val (.int y4)] [])
  refine Go.step (fun _ k => XS.iconst W.here W.hx rfl (W.d dmk2_26) k) ?_
  show Go _ _ _ _ _ _ _ _ _ _ (mkF m 27 #[.val (.int (2 : Int32)), .val (.int y0), .val (.int y1), .val (.int y2), .val (.int y3), .val (.int y4)] [(.int (2 : Int32))])
  refine W.newarr (X.w 26 rfl) dmk2_27 (by decide) (cap := 2) (by decide) (by decide) (by decide) (by decide) ?_
  intro T h b1 kb1 hb1 W Eb1 Vb1 Sfb1
  have sz_b1 : h0.size ≤ b1 := by rw [hb1]; exact KP.1
  have gb1 : Z.heap.size ≤ b1 := by rw [hb1]; exact hsz
  replace KP := KP.ext Eb1
  replace hsz := W.size
  replace Vb1 : Arv Z h b1 kb1 .char (2 : Int32) [(.int (0 : Int32)), (.int (0 : Int32))] (.int (0 : Int32)) := Vb1.pad (pad_rep [] (.int (0 : Int32)) 2)
  show Go _ _ _ _ _ _ _ _ _ _ (mkF m 29 #[.val (.int (2 : Int32)), .val (.int y0), .val (.int y1), .val (.int y2), .val (.int y3), .val (.int y4)] [(.ref b1)])
  refine Go.step (fun _ k => XS.dup W.here W.hx rfl (W.d dmk2_29) rfl rfl k) ?_
  show Go _ _ _ _ _ _ _ _ _ _ (mkF m 30 #[.val (.int (2 : Int32)), .val (.int y0), .val (.int y1), .val (.int y2), .val (.int y3), .val (.int y4)] [(.ref b1), (.ref b1)])
  refine Go.step (fun _ k => XS.iconst W.here W.hx rfl (W.d dmk2_30) k) ?_
  show Go _ _ _ _ _ _ _ _ _ _ (mkF m 31 #[.val (.int (2 : Int32)), .val (.int y0), .val (.int y1), .val (.int y2), .val (.int y3), .val (.int y4)] [(.int (0 : Int32)), (.ref b1), (.ref b1)])
  refine Go.step (fun _ k => XS.iloadN W.here W.hx rfl (W.d dmk2_31) rfl k) ?_
  show Go _ _ _ _ _ _ _ _ _ _ (mkF m 32 #[.val (.int (2 : Int32)), .val (.int y0), .val (.int y1), .val (.int y2), .val (.int y3), .val (.int y4)] [(.int y0), (.int (0 : Int32)), (.ref b1), (.ref b1)])
  refine W.castore Vb1 0 rfl (by simp) (by decide) gb1 dmk2_32 ?_
  intro T h W K2 Vb1'
  replace KP := KP.otrN K2 sz_b1
  replace hsz := W.size
  replace Vb1 : Arv Z h b1 kb1 .char (2 : Int32) [(.int (nar .char y0)), (.int (0 : Int32))] (.int (0 : Int32)) := Vb1'
  rw [nar_small ty0] at Vb1
  show Go _ _ _ _ _ _ _ _ _ _ (mkF m 33 #[.val (.int (2 : Int32)), .val (.int y0), .val (.int y1), .val (.int y2), .val (.int y3), .val (.int y4)] [(.ref b1)])
  refine Go.step (fun _ k => XS.dup W.here W.hx rfl (W.d dmk2_33) rfl rfl k) ?_
  show Go _ _ _ _ _ _ _ _ _ _ (mkF m 34 #[.val (.int (2 : Int32)), .val (.int y0), .val (.int y1), .val (.int y2), .val (.int y3), .val (.int y4)] [(.ref b1), (.ref b1)])
  refine Go.step (fun _ k => XS.iconst W.here W.hx rfl (W.d dmk2_34) k) ?_
  show Go _ _ _ _ _ _ _ _ _ _ (mkF m 35 #[.val (.int (2 : Int32)), .val (.int y0), .val (.int y1), .val (.int y2), .val (.int y3), .val (.int y4)] [(.int (1 : Int32)), (.ref b1), (.ref b1)])
  refine Go.step (fun _ k => XS.iloadN W.here W.hx rfl (W.d dmk2_35) rfl k) ?_
  show Go _ _ _ _ _ _ _ _ _ _ (mkF m 36 #[.val (.int (2 : Int32)), .val (.int y0), .val (.int y1), .val (.int y2), .val (.int y3), .val (.int y4)] [(.int y1), (.int (1 : Int32)), (.ref b1), (.ref b1)])
  refine W.castore Vb1 1 rfl (by simp) (by decide) gb1 dmk2_36 ?_
  intro T h W K3 Vb1'
  replace KP := KP.otrN K3 sz_b1
  replace hsz := W.size
  replace Vb1 : Arv Z h b1 kb1 .char (2 : Int32) [(.int y0), (.int (nar .char y1))] (.int (0 : Int32)) := Vb1'
  rw [nar_small ty1] at Vb1
  show Go _ _ _ _ _ _ _ _ _ _ (mkF m 37 #[.val (.int (2 : Int32)), .val (.int y0), .val (.int y1), .val (.int y2), .val (.int y3), .val (.int y4)] [(.ref b1)])
  exact W.retR rfl rfl rfl dmk2_37 (⟨b1, kb1, rfl, gb1, KP, Vb1⟩) (by decide) (by decide)

theorem dmk3_0 : decode method_5_code 0 = .ok (.iload_n 0, 1) := by decide +kernel
theorem dmk3_1 : decode method_5_code 1 = .ok (.ifCond .ne 7, 3) := by decide +kernel
theorem dmk3_8 : decode method_5_code 8 = .ok (.iload_n 0, 1) := by decide +kernel
theorem dmk3_9 : decode method_5_code 9 = .ok (.iconst 1, 1) := by decide +kernel
theorem dmk3_10 : decode method_5_code 10 = .ok (.if_icmp .ne 11, 3) := by decide +kernel
theorem dmk3_21 : decode method_5_code 21 = .ok (.iload_n 0, 1) := by decide +kernel
theorem dmk3_22 : decode method_5_code 22 = .ok (.iconst 2, 1) := by decide +kernel
theorem dmk3_23 : decode method_5_code 23 = .ok (.if_icmp .ne 15, 3) := by decide +kernel
theorem dmk3_38 : decode method_5_code 38 = .ok (.iload_n 0, 1) := by decide +kernel
theorem dmk3_39 : decode method_5_code 39 = .ok (.iconst 3, 1) := by decide +kernel
theorem dmk3_40 : decode method_5_code 40 = .ok (.if_icmp .ne 19, 3) := by decide +kernel
theorem dmk3_43 : decode method_5_code 43 = .ok (.iconst 3, 1) := by decide +kernel
theorem dmk3_44 : decode method_5_code 44 = .ok (.newarray .char, 2) := by decide +kernel
theorem dmk3_46 : decode method_5_code 46 = .ok (.dup, 1) := by decide +kernel
theorem dmk3_47 : decode method_5_code 47 = .ok (.iconst 0, 1) := by decide +kernel
theorem dmk3_48 : decode method_5_code 48 = .ok (.iload_n 1, 1) := by decide +kernel
theorem dmk3_49 : decode method_5_code 49 = .ok (.castore, 1) := by decide +kernel
theorem dmk3_50 : decode method_5_code 50 = .ok (.dup, 1) := by decide +kernel
theorem dmk3_51 : decode method_5_code 51 = .ok (.iconst 1, 1) := by decide +kernel
theorem dmk3_52 : decode method_5_code 52 = .ok (.iload_n 2, 1) := by decide +kernel
theorem dmk3_53 : decode method_5_code 53 = .ok (.castore, 1) := by decide +kernel
theorem dmk3_54 : decode method_5_code 54 = .ok (.dup, 1) := by decide +kernel
theorem dmk3_55 : decode method_5_code 55 = .ok (.iconst 2, 1) := by decide +kernel
theorem dmk3_56 : decode method_5_code 56 = .ok (.iload_n 3, 1) := by decide +kernel
theorem dmk3_57 : decode method_5_code 57 = .ok (.castore, 1) := by decide +kernel
theorem dmk3_58 : decode method_5_code 58 = .ok (.areturn, 1) := by decide +kernel
theorem efmk3 (m : MethodId) (x0 : Int32) (x1 : Int32) (x2 : Int32) (x3 : Int32) (x4 : Int32) (x5 : Int32) : entryFrame m #[(.int x0), (.int x1), (.int x2), (.int x3), (.int x4), (.int x5)] 6 = mkF m 0 #[.val (.int x0), .val (.int x1), .val (.int x2), .val (.int x3), .val (.int x4), .val (.int x5)] [] := by first | (simp [entryFrame, mkF, argsToLocals, Value.category]; done) | rfl
set_option maxRecDepth 65536 in
set_option maxHeartbeats 40000000 in
theorem c_mk3 {l : Launch} {Z : State} {a0 : Array Value} {G1 : Int32} (X : Ctx Z a0 G1) (y0 y1 y2 y3 y4 : Int32) (h0 : Heap) (hE : Ext Z.heap h0) (ty0 : Sm y0) (ty1 : Sm y1) (ty2 : Sm y2) (ty3 : Sm y3) (ty4 : Sm y4) :
    Con l Z consts_1 (⟨"com/example/wary_validator/waryvalidator/messageinterpolation/ExpressionOperatorsToBooleanPinLaw", "make", "(ICCCCC)[C"⟩ : MethodName) method_5_code 6 (some (.array .char)) [] ({ frames := 0, cells := 1, slots := 3, locals := 0 } : Room) #[(.int (3 : Int32)), (.int y0), (.int y1), (.int y2), (.int y3), (.int y4)] h0 (fun v h => ∃ (a : Addr) (k : ClassId), v = some (.ref a) ∧ Z.heap.size ≤ a ∧ Keep h0 h [] ∧ Arv Z h a k .char (3 : Int32) [(.int y0), (.int y1), (.int y2)] (.int (0 : Int32))) := by
  refine Con.intro (plainFor_of_name pn_3) hE X.el ?_
  intro p e s m below meth c T W
  have hsz := W.size
  refine Go.cast (efmk3 m (3 : Int32) y0 y1 y2 y3 y4) ?_
  have KP := Keep.refl h0 []
  refine Go.step (fun _ k => XS.iloadN W.here W.hx rfl (W.d dmk3_0) rfl k) ?_
  show Go _ _ _ _ _ _ _ _ _ _ (mkF m 1 #[.val (.int (3 : Int32)), .val (.int y0), .val (.int y1), .val (.int y2), .val (.int y3), .val (.int y4)] [(.int (3 : Int32))])
  refine Go.step (fun _ k => XS.ifYes W.here W.hx rfl (pc0 := 1) (pc' := 8) rfl (W.d dmk3_1) rfl ((if0 _ _).trans (feq (by decide : ¬ ((3 : Int32) = (0 : Int32)))).2) (by decide) (by decide) k) ?_
  show Go _ _ _ _ _ _ _ _ _ _ (mkF m 8 #[.val (.int (3 : Int32)), .val (.int y0), .val (.int y1), .val (.int y2), .val (.int y3), .val (.int y4)] [])
  refine Go.step (fun _ k => XS.iloadN W.here W.hx rfl (W.d dmk3_8) rfl k) ?_
  show Go _ _ _ _ _ _ _ _ _ _ (mkF m 9 #[.val (.int (3 : Int32)), .val (.int y0), .val (.int y1), .val (.int y2), .val (.int y3), .val (.int y4)] [(.int (3 : Int32))])
  refine Go.step (fun _ k => XS.iconst W.here W.hx rfl (W.d dmk3_9) k) ?_
  show Go _ _ _ _ _ _ _ _ _ _ (mkF m 10 #[.val (.int (3 : Int32)), .val (.int y0), .val (.int y1), .val (.int y2), .val (.int y3), .val (.int y4)] [(.int (1 : Int32)), (.int (3 : Int32))])
  refine Go.step (fun _ k => XS.icmpYes W.here W.hx rfl (pc0 := 10) (pc' := 21) rfl (W.d dmk3_10) rfl (feq (by decide : ¬ ((3 : Int32) = (1 : Int32)))).2 (by decide) (by decide) k) ?_
  show Go _ _ _ _ _ _ _ _ _ _ (mkF m 21 #[.val (.int (3 : Int32)), .val (.int y0), .val (.int y1), .val (.int y2), .val (.int y3), .val (.int y4)] [])
  refine Go.step (fun _ k => XS.iloadN W.here W.hx rfl (W.d dmk3_21) rfl k) ?_
  show Go _ _ _ _ _ _ _ _ _ _ (mkF m 22 #[.val (.int (3 : Int32)), .val (.int y0), .val (.int y1), .val (.int y2), .val (.int y3), .val (.int y4)] [(.int (3 : Int32))])
  refine Go.step (fun _ k => XS.iconst W.here W.hx rfl (W.d dmk3_22) k) ?_
  show Go _ _ _ _ _ _ _ _ _ _ (mkF m 23 #[.val (.int (3 : Int32)), .val (.int y0), .val (.int y1), .val (.int y2), .val (.int y3), .val (.int y4)] [(.int (2 : Int32)), (.int (3 : Int32))])
  refine Go.step (fun _ k => XS.icmpYes W.here W.hx rfl (pc0 := 23) (pc' := 38) rfl (W.d dmk3_23) rfl (feq (by decide : ¬ ((3 : Int32) = (2 : Int32)))).2 (by decide) (by decide) k) ?_
  show Go _ _ _ _ _ _ _ _ _ _ (mkF m 38 #[.val (.int (3 : Int32)), .val (.int y0), .val (.int y1), .val (.int y2), .val (.int y3), .val (.int y4)] [])
  refine Go.step (fun _ k => XS.iloadN W.here W.hx rfl (W.d dmk3_38) rfl k) ?_
  show Go _ _ _ _ _ _ _ _ _ _ (mkF m 39 #[.val (.int (3 : Int32)), .val (.int y0), .val (.int y1), .val (.int y2), .val (.int y3), .val (.int y4)] [(.int (3 : Int32))])
  refine Go.step (fun _ k => XS.iconst W.here W.hx rfl (W.d dmk3_39) k) ?_
  show Go _ _ _ _ _ _ _ _ _ _ (mkF m 40 #[.val (.int (3 : Int32)), .val (.int y0), .val (.int y1), .val (.int y2), .val (.int y3), .val (.int y4)] [(.int (3 : Int32)), (.int (3 : Int32))])
  refine Go.step (fun _ k => XS.icmpNo W.here W.hx rfl (W.d dmk3_40) rfl (teq (by decide : (3 : Int32) = (3 : Int32))).2 k) ?_
  show Go _ _ _ _ _ _ _ _ _ _ (mkF m 43 #[.val (.int (3 : Int32)), .val (.int y0), .val (.int y1), .val (.int y2), .val (.int y3), .val (.int y4)] [])
  refine Go.step (fun _ k => XS.iconst W.here W.hx rfl (W.d dmk3_43) k) ?_
  show Go _ _ _ _ _ _ _ _ _ _ (mkF m 44 #[.val (.int (3 : Int32)), .val (.int y0), .val (.int y1), .val (.int y2), .val (.int y3), .val (.int y4)] [(.int (3 : Int32))])
  refine W.newarr (X.w 26 rfl) dmk3_44 (by decide) (cap := 3) (by decide) (by decide) (by decide) (by decide) ?_
  intro T h b1 kb1 hb1 W Eb1 Vb1 Sfb1
  have sz_b1 : h0.size ≤ b1 := by rw [hb1]; exact KP.1
  have gb1 : Z.heap.size ≤ b1 := by rw [hb1]; exact hsz
  replace KP := KP.ext Eb1
  replace hsz := W.size
  replace Vb1 : Arv Z h b1 kb1 .char (3 : Int32) [(.int (0 : Int32)), (.int (0 : Int32)), (.int (0 : Int32))] (.int (0 : Int32)) := Vb1.pad (pad_rep [] (.int (0 : Int32)) 3)
  show Go _ _ _ _ _ _ _ _ _ _ (mkF m 46 #[.val (.int (3 : Int32)), .val (.int y0), .val (.int y1), .val (.int y2), .val (.int y3), .val (.int y4)] [(.ref b1)])
  refine Go.step (fun _ k => XS.dup W.here W.hx rfl (W.d dmk3_46) rfl rfl k) ?_
  show Go _ _ _ _ _ _ _ _ _ _ (mkF m 47 #[.val (.int (3 : Int32)), .val (.int y0), .val (.int y1), .val (.int y2), .val (.int y3), .val (.int y4)] [(.ref b1), (.ref b1)])
  refine Go.step (fun _ k => XS.iconst W.here W.hx rfl (W.d dmk3_47) k) ?_
  show Go _ _ _ _ _ _ _ _ _ _ (mkF m 48 #[.val (.int (3 : Int32)), .val (.int y0), .val (.int y1), .val (.int y2), .val (.int y3), .val (.int y4)] [(.int (0 : Int32)), (.ref b1), (.ref b1)])
  refine Go.step (fun _ k => XS.iloadN W.here W.hx rfl (W.d dmk3_48) rfl k) ?_
  show Go _ _ _ _ _ _ _ _ _ _ (mkF m 49 #[.val (.int (3 : Int32)), .val (.int y0), .val (.int y1), .val (.int y2), .val (.int y3), .val (.int y4)] [(.int y0), (.int (0 : Int32)), (.ref b1), (.ref b1)])
  refine W.castore Vb1 0 rfl (by simp) (by decide) gb1 dmk3_49 ?_
  intro T h W K2 Vb1'
  replace KP := KP.otrN K2 sz_b1
  replace hsz := W.size
  replace Vb1 : Arv Z h b1 kb1 .char (3 : Int32) [(.int (nar .char y0)), (.int (0 : Int32)), (.int (0 : Int32))] (.int (0 : Int32)) := Vb1'
  rw [nar_small ty0] at Vb1
  show Go _ _ _ _ _ _ _ _ _ _ (mkF m 50 #[.val (.int (3 : Int32)), .val (.int y0), .val (.int y1), .val (.int y2), .val (.int y3), .val (.int y4)] [(.ref b1)])
  refine Go.step (fun _ k => XS.dup W.here W.hx rfl (W.d dmk3_50) rfl rfl k) ?_
  show Go _ _ _ _ _ _ _ _ _ _ (mkF m 51 #[.val (.int (3 : Int32)), .val (.int y0), .val (.int y1), .val (.int y2), .val (.int y3), .val (.int y4)] [(.ref b1), (.ref b1)])
  refine Go.step (fun _ k => XS.iconst W.here W.hx rfl (W.d dmk3_51) k) ?_
  show Go _ _ _ _ _ _ _ _ _ _ (mkF m 52 #[.val (.int (3 : Int32)), .val (.int y0), .val (.int y1), .val (.int y2), .val (.int y3), .val (.int y4)] [(.int (1 : Int32)), (.ref b1), (.ref b1)])
  refine Go.step (fun _ k => XS.iloadN W.here W.hx rfl (W.d dmk3_52) rfl k) ?_
  show Go _ _ _ _ _ _ _ _ _ _ (mkF m 53 #[.val (.int (3 : Int32)), .val (.int y0), .val (.int y1), .val (.int y2), .val (.int y3), .val (.int y4)] [(.int y1), (.int (1 : Int32)), (.ref b1), (.ref b1)])
  refine W.castore Vb1 1 rfl (by simp) (by decide) gb1 dmk3_53 ?_
  intro T h W K3 Vb1'
  replace KP := KP.otrN K3 sz_b1
  replace hsz := W.size
  replace Vb1 : Arv Z h b1 kb1 .char (3 : Int32) [(.int y0), (.int (nar .char y1)), (.int (0 : Int32))] (.int (0 : Int32)) := Vb1'
  rw [nar_small ty1] at Vb1
  show Go _ _ _ _ _ _ _ _ _ _ (mkF m 54 #[.val (.int (3 : Int32)), .val (.int y0), .val (.int y1), .val (.int y2), .val (.int y3), .val (.int y4)] [(.ref b1)])
  refine Go.step (fun _ k => XS.dup W.here W.hx rfl (W.d dmk3_54) rfl rfl k) ?_
  show Go _ _ _ _ _ _ _ _ _ _ (mkF m 55 #[.val (.int (3 : Int32)), .val (.int y0), .val (.int y1), .val (.int y2), .val (.int y3), .val (.int y4)] [(.ref b1), (.ref b1)])
  refine Go.step (fun _ k => XS.iconst W.here W.hx rfl (W.d dmk3_55) k) ?_
  show Go _ _ _ _ _ _ _ _ _ _ (mkF m 56 #[.val (.int (3 : Int32)), .val (.int y0), .val (.int y1), .val (.int y2), .val (.int y3), .val (.int y4)] [(.int (2 : Int32)), (.ref b1), (.ref b1)])
  refine Go.step (fun _ k => XS.iloadN W.here W.hx rfl (W.d dmk3_56) rfl k) ?_
  show Go _ _ _ _ _ _ _ _ _ _ (mkF m 57 #[.val (.int (3 : Int32)), .val (.int y0), .val (.int y1), .val (.int y2), .val (.int y3), .val (.int y4)] [(.int y2), (.int (2 : Int32)), (.ref b1), (.ref b1)])
  refine W.castore Vb1 2 rfl (by simp) (by decide) gb1 dmk3_57 ?_
  intro T h W K4 Vb1'
  replace KP := KP.otrN K4 sz_b1
  replace hsz := W.size
  replace Vb1 : Arv Z h b1 kb1 .char (3 : Int32) [(.int y0), (.int y1), (.int (nar .char y2))] (.int (0 : Int32)) := Vb1'
  rw [nar_small ty2] at Vb1
  show Go _ _ _ _ _ _ _ _ _ _ (mkF m 58 #[.val (.int (3 : Int32)), .val (.int y0), .val (.int y1), .val (.int y2), .val (.int y3), .val (.int y4)] [(.ref b1)])
  exact W.retR rfl rfl rfl dmk3_58 (⟨b1, kb1, rfl, gb1, KP, Vb1⟩) (by decide) (by decide)

theorem dmk4_0 : decode method_5_code 0 = .ok (.iload_n 0, 1) := by decide +kernel
theorem dmk4_1 : decode method_5_code 1 = .ok (.ifCond .ne 7, 3) := by decide +kernel
theorem dmk4_8 : decode method_5_code 8 = .ok (.iload_n 0, 1) := by decide +kernel
theorem dmk4_9 : decode method_5_code 9 = .ok (.iconst 1, 1) := by decide +kernel
theorem dmk4_10 : decode method_5_code 10 = .ok (.if_icmp .ne 11, 3) := by decide +kernel
theorem dmk4_21 : decode method_5_code 21 = .ok (.iload_n 0, 1) := by decide +kernel
theorem dmk4_22 : decode method_5_code 22 = .ok (.iconst 2, 1) := by decide +kernel
theorem dmk4_23 : decode method_5_code 23 = .ok (.if_icmp .ne 15, 3) := by decide +kernel
theorem dmk4_38 : decode method_5_code 38 = .ok (.iload_n 0, 1) := by decide +kernel
theorem dmk4_39 : decode method_5_code 39 = .ok (.iconst 3, 1) := by decide +kernel
theorem dmk4_40 : decode method_5_code 40 = .ok (.if_icmp .ne 19, 3) := by decide +kernel
theorem dmk4_59 : decode method_5_code 59 = .ok (.iload_n 0, 1) := by decide +kernel
theorem dmk4_60 : decode method_5_code 60 = .ok (.iconst 4, 1) := by decide +kernel
theorem dmk4_61 : decode method_5_code 61 = .ok (.if_icmp .ne 24, 3) := by decide +kernel
theorem dmk4_64 : decode method_5_code 64 = .ok (.iconst 4, 1) := by decide +kernel
theorem dmk4_65 : decode method_5_code 65 = .ok (.newarray .char, 2) := by decide +kernel
theorem dmk4_67 : decode method_5_code 67 = .ok (.dup, 1) := by decide +kernel
theorem dmk4_68 : decode method_5_code 68 = .ok (.iconst 0, 1) := by decide +kernel
theorem dmk4_69 : decode method_5_code 69 = .ok (.iload_n 1, 1) := by decide +kernel
theorem dmk4_70 : decode method_5_code 70 = .ok (.castore, 1) := by decide +kernel
theorem dmk4_71 : decode method_5_code 71 = .ok (.dup, 1) := by decide +kernel
theorem dmk4_72 : decode method_5_code 72 = .ok (.iconst 1, 1) := by decide +kernel
theorem dmk4_73 : decode method_5_code 73 = .ok (.iload_n 2, 1) := by decide +kernel
theorem dmk4_74 : decode method_5_code 74 = .ok (.castore, 1) := by decide +kernel
theorem dmk4_75 : decode method_5_code 75 = .ok (.dup, 1) := by decide +kernel
theorem dmk4_76 : decode method_5_code 76 = .ok (.iconst 2, 1) := by decide +kernel
theorem dmk4_77 : decode method_5_code 77 = .ok (.iload_n 3, 1) := by decide +kernel
theorem dmk4_78 : decode method_5_code 78 = .ok (.castore, 1) := by decide +kernel
theorem dmk4_79 : decode method_5_code 79 = .ok (.dup, 1) := by decide +kernel
theorem dmk4_80 : decode method_5_code 80 = .ok (.iconst 3, 1) := by decide +kernel
theorem dmk4_81 : decode method_5_code 81 = .ok (.iload 4, 2) := by decide +kernel
theorem dmk4_83 : decode method_5_code 83 = .ok (.castore, 1) := by decide +kernel
theorem dmk4_84 : decode method_5_code 84 = .ok (.areturn, 1) := by decide +kernel
theorem efmk4 (m : MethodId) (x0 : Int32) (x1 : Int32) (x2 : Int32) (x3 : Int32) (x4 : Int32) (x5 : Int32) : entryFrame m #[(.int x0), (.int x1), (.int x2), (.int x3), (.int x4), (.int x5)] 6 = mkF m 0 #[.val (.int x0), .val (.int x1), .val (.int x2), .val (.int x3), .val (.int x4), .val (.int x5)] [] := by first | (simp [entryFrame, mkF, argsToLocals, Value.category]; done) | rfl
set_option maxRecDepth 65536 in
set_option maxHeartbeats 40000000 in
theorem c_mk4 {l : Launch} {Z : State} {a0 : Array Value} {G1 : Int32} (X : Ctx Z a0 G1) (y0 y1 y2 y3 y4 : Int32) (h0 : Heap) (hE : Ext Z.heap h0) (ty0 : Sm y0) (ty1 : Sm y1) (ty2 : Sm y2) (ty3 : Sm y3) (ty4 : Sm y4) :
    Con l Z consts_1 (⟨"com/example/wary_validator/waryvalidator/messageinterpolation/ExpressionOperatorsToBooleanPinLaw", "make", "(ICCCCC)[C"⟩ : MethodName) method_5_code 6 (some (.array .char)) [] ({ frames := 0, cells := 1, slots := 4, locals := 0 } : Room) #[(.int (4 : Int32)), (.int y0), (.int y1), (.int y2), (.int y3), (.int y4)] h0 (fun v h => ∃ (a : Addr) (k : ClassId), v = some (.ref a) ∧ Z.heap.size ≤ a ∧ Keep h0 h [] ∧ Arv Z h a k .char (4 : Int32) [(.int y0), (.int y1), (.int y2), (.int y3)] (.int (0 : Int32))) := by
  refine Con.intro (plainFor_of_name pn_3) hE X.el ?_
  intro p e s m below meth c T W
  have hsz := W.size
  refine Go.cast (efmk4 m (4 : Int32) y0 y1 y2 y3 y4) ?_
  have KP := Keep.refl h0 []
  refine Go.step (fun _ k => XS.iloadN W.here W.hx rfl (W.d dmk4_0) rfl k) ?_
  show Go _ _ _ _ _ _ _ _ _ _ (mkF m 1 #[.val (.int (4 : Int32)), .val (.int y0), .val (.int y1), .val (.int y2), .val (.int y3), .val (.int y4)] [(.int (4 : Int32))])
  refine Go.step (fun _ k => XS.ifYes W.here W.hx rfl (pc0 := 1) (pc' := 8) rfl (W.d dmk4_1) rfl ((if0 _ _).trans (feq (by decide : ¬ ((4 : Int32) = (0 : Int32)))).2) (by decide) (by decide) k) ?_
  show Go _ _ _ _ _ _ _ _ _ _ (mkF m 8 #[.val (.int (4 : Int32)), .val (.int y0), .val (.int y1), .val (.int y2), .val (.int y3), .val (.int y4)] [])
  refine Go.step (fun _ k => XS.iloadN W.here W.hx rfl (W.d dmk4_8) rfl k) ?_
  show Go _ _ _ _ _ _ _ _ _ _ (mkF m 9 #[.val (.int (4 : Int32)), .val (.int y0), .val (.int y1), .val (.int y2), .val (.int y3), .val (.int y4)] [(.int (4 : Int32))])
  refine Go.step (fun _ k => XS.iconst W.here W.hx rfl (W.d dmk4_9) k) ?_
  show Go _ _ _ _ _ _ _ _ _ _ (mkF m 10 #[.val (.int (4 : Int32)), .val (.int y0), .val (.int y1), .val (.int y2), .val (.int y3), .val (.int y4)] [(.int (1 : Int32)), (.int (4 : Int32))])
  refine Go.step (fun _ k => XS.icmpYes W.here W.hx rfl (pc0 := 10) (pc' := 21) rfl (W.d dmk4_10) rfl (feq (by decide : ¬ ((4 : Int32) = (1 : Int32)))).2 (by decide) (by decide) k) ?_
  show Go _ _ _ _ _ _ _ _ _ _ (mkF m 21 #[.val (.int (4 : Int32)), .val (.int y0), .val (.int y1), .val (.int y2), .val (.int y3), .val (.int y4)] [])
  refine Go.step (fun _ k => XS.iloadN W.here W.hx rfl (W.d dmk4_21) rfl k) ?_
  show Go _ _ _ _ _ _ _ _ _ _ (mkF m 22 #[.val (.int (4 : Int32)), .val (.int y0), .val (.int y1), .val (.int y2), .val (.int y3), .val (.int y4)] [(.int (4 : Int32))])
  refine Go.step (fun _ k => XS.iconst W.here W.hx rfl (W.d dmk4_22) k) ?_
  show Go _ _ _ _ _ _ _ _ _ _ (mkF m 23 #[.val (.int (4 : Int32)), .val (.int y0), .val (.int y1), .val (.int y2), .val (.int y3), .val (.int y4)] [(.int (2 : Int32)), (.int (4 : Int32))])
  refine Go.step (fun _ k => XS.icmpYes W.here W.hx rfl (pc0 := 23) (pc' := 38) rfl (W.d dmk4_23) rfl (feq (by decide : ¬ ((4 : Int32) = (2 : Int32)))).2 (by decide) (by decide) k) ?_
  show Go _ _ _ _ _ _ _ _ _ _ (mkF m 38 #[.val (.int (4 : Int32)), .val (.int y0), .val (.int y1), .val (.int y2), .val (.int y3), .val (.int y4)] [])
  refine Go.step (fun _ k => XS.iloadN W.here W.hx rfl (W.d dmk4_38) rfl k) ?_
  show Go _ _ _ _ _ _ _ _ _ _ (mkF m 39 #[.val (.int (4 : Int32)), .val (.int y0), .val (.int y1), .val (.int y2), .val (.int y3), .val (.int y4)] [(.int (4 : Int32))])
  refine Go.step (fun _ k => XS.iconst W.here W.hx rfl (W.d dmk4_39) k) ?_
  show Go _ _ _ _ _ _ _ _ _ _ (mkF m 40 #[.val (.int (4 : Int32)), .val (.int y0), .val (.int y1), .val (.int y2), .val (.int y3), .val (.int y4)] [(.int (3 : Int32)), (.int (4 : Int32))])
  refine Go.step (fun _ k => XS.icmpYes W.here W.hx rfl (pc0 := 40) (pc' := 59) rfl (W.d dmk4_40) rfl (feq (by decide : ¬ ((4 : Int32) = (3 : Int32)))).2 (by decide) (by decide) k) ?_
  show Go _ _ _ _ _ _ _ _ _ _ (mkF m 59 #[.val (.int (4 : Int32)), .val (.int y0), .val (.int y1), .val (.int y2), .val (.int y3), .val (.int y4)] [])
  refine Go.step (fun _ k => XS.iloadN W.here W.hx rfl (W.d dmk4_59) rfl k) ?_
  show Go _ _ _ _ _ _ _ _ _ _ (mkF m 60 #[.val (.int (4 : Int32)), .val (.int y0), .val (.int y1), .val (.int y2), .val (.int y3), .val (.int y4)] [(.int (4 : Int32))])
  refine Go.step (fun _ k => XS.iconst W.here W.hx rfl (W.d dmk4_60) k) ?_
  show Go _ _ _ _ _ _ _ _ _ _ (mkF m 61 #[.val (.int (4 : Int32)), .val (.int y0), .val (.int y1), .val (.int y2), .val (.int y3), .val (.int y4)] [(.int (4 : Int32)), (.int (4 : Int32))])
  refine Go.step (fun _ k => XS.icmpNo W.here W.hx rfl (W.d dmk4_61) rfl (teq (by decide : (4 : Int32) = (4 : Int32))).2 k) ?_
  show Go _ _ _ _ _ _ _ _ _ _ (mkF m 64 #[.val (.int (4 : Int32)), .val (.int y0), .val (.int y1), .val (.int y2), .val (.int y3), .val (.int y4)] [])
  refine Go.step (fun _ k => XS.iconst W.here W.hx rfl (W.d dmk4_64) k) ?_
  show Go _ _ _ _ _ _ _ _ _ _ (mkF m 65 #[.val (.int (4 : Int32)), .val (.int y0), .val (.int y1), .val (.int y2), .val (.int y3), .val (.int y4)] [(.int (4 : Int32))])
  refine W.newarr (X.w 26 rfl) dmk4_65 (by decide) (cap := 4) (by decide) (by decide) (by decide) (by decide) ?_
  intro T h b1 kb1 hb1 W Eb1 Vb1 Sfb1
  have sz_b1 : h0.size ≤ b1 := by rw [hb1]; exact KP.1
  have gb1 : Z.heap.size ≤ b1 := by rw [hb1]; exact hsz
  replace KP := KP.ext Eb1
  replace hsz := W.size
  replace Vb1 : Arv Z h b1 kb1 .char (4 : Int32) [(.int (0 : Int32)), (.int (0 : Int32)), (.int (0 : Int32)), (.int (0 : Int32))] (.int (0 : Int32)) := Vb1.pad (pad_rep [] (.int (0 : Int32)) 4)
  show Go _ _ _ _ _ _ _ _ _ _ (mkF m 67 #[.val (.int (4 : Int32)), .val (.int y0), .val (.int y1), .val (.int y2), .val (.int y3), .val (.int y4)] [(.ref b1)])
  refine Go.step (fun _ k => XS.dup W.here W.hx rfl (W.d dmk4_67) rfl rfl k) ?_
  show Go _ _ _ _ _ _ _ _ _ _ (mkF m 68 #[.val (.int (4 : Int32)), .val (.int y0), .val (.int y1), .val (.int y2), .val (.int y3), .val (.int y4)] [(.ref b1), (.ref b1)])
  refine Go.step (fun _ k => XS.iconst W.here W.hx rfl (W.d dmk4_68) k) ?_
  show Go _ _ _ _ _ _ _ _ _ _ (mkF m 69 #[.val (.int (4 : Int32)), .val (.int y0), .val (.int y1), .val (.int y2), .val (.int y3), .val (.int y4)] [(.int (0 : Int32)), (.ref b1), (.ref b1)])
  refine Go.step (fun _ k => XS.iloadN W.here W.hx rfl (W.d dmk4_69) rfl k) ?_
  show Go _ _ _ _ _ _ _ _ _ _ (mkF m 70 #[.val (.int (4 : Int32)), .val (.int y0), .val (.int y1), .val (.int y2), .val (.int y3), .val (.int y4)] [(.int y0), (.int (0 : Int32)), (.ref b1), (.ref b1)])
  refine W.castore Vb1 0 rfl (by simp) (by decide) gb1 dmk4_70 ?_
  intro T h W K2 Vb1'
  replace KP := KP.otrN K2 sz_b1
  replace hsz := W.size
  replace Vb1 : Arv Z h b1 kb1 .char (4 : Int32) [(.int (nar .char y0)), (.int (0 : Int32)), (.int (0 : Int32)), (.int (0 : Int32))] (.int (0 : Int32)) := Vb1'
  rw [nar_small ty0] at Vb1
  show Go _ _ _ _ _ _ _ _ _ _ (mkF m 71 #[.val (.int (4 : Int32)), .val (.int y0), .val (.int y1), .val (.int y2), .val (.int y3), .val (.int y4)] [(.ref b1)])
  refine Go.step (fun _ k => XS.dup W.here W.hx rfl (W.d dmk4_71) rfl rfl k) ?_
  show Go _ _ _ _ _ _ _ _ _ _ (mkF m 72 #[.val (.int (4 : Int32)), .val (.int y0), .val (.int y1), .val (.int y2), .val (.int y3), .val (.int y4)] [(.ref b1), (.ref b1)])
  refine Go.step (fun _ k => XS.iconst W.here W.hx rfl (W.d dmk4_72) k) ?_
  show Go _ _ _ _ _ _ _ _ _ _ (mkF m 73 #[.val (.int (4 : Int32)), .val (.int y0), .val (.int y1), .val (.int y2), .val (.int y3), .val (.int y4)] [(.int (1 : Int32)), (.ref b1), (.ref b1)])
  refine Go.step (fun _ k => XS.iloadN W.here W.hx rfl (W.d dmk4_73) rfl k) ?_
  show Go _ _ _ _ _ _ _ _ _ _ (mkF m 74 #[.val (.int (4 : Int32)), .val (.int y0), .val (.int y1), .val (.int y2), .val (.int y3), .val (.int y4)] [(.int y1), (.int (1 : Int32)), (.ref b1), (.ref b1)])
  refine W.castore Vb1 1 rfl (by simp) (by decide) gb1 dmk4_74 ?_
  intro T h W K3 Vb1'
  replace KP := KP.otrN K3 sz_b1
  replace hsz := W.size
  replace Vb1 : Arv Z h b1 kb1 .char (4 : Int32) [(.int y0), (.int (nar .char y1)), (.int (0 : Int32)), (.int (0 : Int32))] (.int (0 : Int32)) := Vb1'
  rw [nar_small ty1] at Vb1
  show Go _ _ _ _ _ _ _ _ _ _ (mkF m 75 #[.val (.int (4 : Int32)), .val (.int y0), .val (.int y1), .val (.int y2), .val (.int y3), .val (.int y4)] [(.ref b1)])
  refine Go.step (fun _ k => XS.dup W.here W.hx rfl (W.d dmk4_75) rfl rfl k) ?_
  show Go _ _ _ _ _ _ _ _ _ _ (mkF m 76 #[.val (.int (4 : Int32)), .val (.int y0), .val (.int y1), .val (.int y2), .val (.int y3), .val (.int y4)] [(.ref b1), (.ref b1)])
  refine Go.step (fun _ k => XS.iconst W.here W.hx rfl (W.d dmk4_76) k) ?_
  show Go _ _ _ _ _ _ _ _ _ _ (mkF m 77 #[.val (.int (4 : Int32)), .val (.int y0), .val (.int y1), .val (.int y2), .val (.int y3), .val (.int y4)] [(.int (2 : Int32)), (.ref b1), (.ref b1)])
  refine Go.step (fun _ k => XS.iloadN W.here W.hx rfl (W.d dmk4_77) rfl k) ?_
  show Go _ _ _ _ _ _ _ _ _ _ (mkF m 78 #[.val (.int (4 : Int32)), .val (.int y0), .val (.int y1), .val (.int y2), .val (.int y3), .val (.int y4)] [(.int y2), (.int (2 : Int32)), (.ref b1), (.ref b1)])
  refine W.castore Vb1 2 rfl (by simp) (by decide) gb1 dmk4_78 ?_
  intro T h W K4 Vb1'
  replace KP := KP.otrN K4 sz_b1
  replace hsz := W.size
  replace Vb1 : Arv Z h b1 kb1 .char (4 : Int32) [(.int y0), (.int y1), (.int (nar .char y2)), (.int (0 : Int32))] (.int (0 : Int32)) := Vb1'
  rw [nar_small ty2] at Vb1
  show Go _ _ _ _ _ _ _ _ _ _ (mkF m 79 #[.val (.int (4 : Int32)), .val (.int y0), .val (.int y1), .val (.int y2), .val (.int y3), .val (.int y4)] [(.ref b1)])
  refine Go.step (fun _ k => XS.dup W.here W.hx rfl (W.d dmk4_79) rfl rfl k) ?_
  show Go _ _ _ _ _ _ _ _ _ _ (mkF m 80 #[.val (.int (4 : Int32)), .val (.int y0), .val (.int y1), .val (.int y2), .val (.int y3), .val (.int y4)] [(.ref b1), (.ref b1)])
  refine Go.step (fun _ k => XS.iconst W.here W.hx rfl (W.d dmk4_80) k) ?_
  show Go _ _ _ _ _ _ _ _ _ _ (mkF m 81 #[.val (.int (4 : Int32)), .val (.int y0), .val (.int y1), .val (.int y2), .val (.int y3), .val (.int y4)] [(.int (3 : Int32)), (.ref b1), (.ref b1)])
  refine Go.step (fun _ k => XS.iload W.here W.hx rfl (W.d dmk4_81) rfl k) ?_
  show Go _ _ _ _ _ _ _ _ _ _ (mkF m 83 #[.val (.int (4 : Int32)), .val (.int y0), .val (.int y1), .val (.int y2), .val (.int y3), .val (.int y4)] [(.int y3), (.int (3 : Int32)), (.ref b1), (.ref b1)])
  refine W.castore Vb1 3 rfl (by simp) (by decide) gb1 dmk4_83 ?_
  intro T h W K5 Vb1'
  replace KP := KP.otrN K5 sz_b1
  replace hsz := W.size
  replace Vb1 : Arv Z h b1 kb1 .char (4 : Int32) [(.int y0), (.int y1), (.int y2), (.int (nar .char y3))] (.int (0 : Int32)) := Vb1'
  rw [nar_small ty3] at Vb1
  show Go _ _ _ _ _ _ _ _ _ _ (mkF m 84 #[.val (.int (4 : Int32)), .val (.int y0), .val (.int y1), .val (.int y2), .val (.int y3), .val (.int y4)] [(.ref b1)])
  exact W.retR rfl rfl rfl dmk4_84 (⟨b1, kb1, rfl, gb1, KP, Vb1⟩) (by decide) (by decide)

theorem dmk5_0 : decode method_5_code 0 = .ok (.iload_n 0, 1) := by decide +kernel
theorem dmk5_1 : decode method_5_code 1 = .ok (.ifCond .ne 7, 3) := by decide +kernel
theorem dmk5_8 : decode method_5_code 8 = .ok (.iload_n 0, 1) := by decide +kernel
theorem dmk5_9 : decode method_5_code 9 = .ok (.iconst 1, 1) := by decide +kernel
theorem dmk5_10 : decode method_5_code 10 = .ok (.if_icmp .ne 11, 3) := by decide +kernel
theorem dmk5_21 : decode method_5_code 21 = .ok (.iload_n 0, 1) := by decide +kernel
theorem dmk5_22 : decode method_5_code 22 = .ok (.iconst 2, 1) := by decide +kernel
theorem dmk5_23 : decode method_5_code 23 = .ok (.if_icmp .ne 15, 3) := by decide +kernel
theorem dmk5_38 : decode method_5_code 38 = .ok (.iload_n 0, 1) := by decide +kernel
theorem dmk5_39 : decode method_5_code 39 = .ok (.iconst 3, 1) := by decide +kernel
theorem dmk5_40 : decode method_5_code 40 = .ok (.if_icmp .ne 19, 3) := by decide +kernel
theorem dmk5_59 : decode method_5_code 59 = .ok (.iload_n 0, 1) := by decide +kernel
theorem dmk5_60 : decode method_5_code 60 = .ok (.iconst 4, 1) := by decide +kernel
theorem dmk5_61 : decode method_5_code 61 = .ok (.if_icmp .ne 24, 3) := by decide +kernel
theorem dmk5_85 : decode method_5_code 85 = .ok (.iconst 5, 1) := by decide +kernel
theorem dmk5_86 : decode method_5_code 86 = .ok (.newarray .char, 2) := by decide +kernel
theorem dmk5_88 : decode method_5_code 88 = .ok (.dup, 1) := by decide +kernel
theorem dmk5_89 : decode method_5_code 89 = .ok (.iconst 0, 1) := by decide +kernel
theorem dmk5_90 : decode method_5_code 90 = .ok (.iload_n 1, 1) := by decide +kernel
theorem dmk5_91 : decode method_5_code 91 = .ok (.castore, 1) := by decide +kernel
theorem dmk5_92 : decode method_5_code 92 = .ok (.dup, 1) := by decide +kernel
theorem dmk5_93 : decode method_5_code 93 = .ok (.iconst 1, 1) := by decide +kernel
theorem dmk5_94 : decode method_5_code 94 = .ok (.iload_n 2, 1) := by decide +kernel
theorem dmk5_95 : decode method_5_code 95 = .ok (.castore, 1) := by decide +kernel
theorem dmk5_96 : decode method_5_code 96 = .ok (.dup, 1) := by decide +kernel
theorem dmk5_97 : decode method_5_code 97 = .ok (.iconst 2, 1) := by decide +kernel
theorem dmk5_98 : decode method_5_code 98 = .ok (.iload_n 3, 1) := by decide +kernel
theorem dmk5_99 : decode method_5_code 99 = .ok (.castore, 1) := by decide +kernel
theorem dmk5_100 : decode method_5_code 100 = .ok (.dup, 1) := by decide +kernel
theorem dmk5_101 : decode method_5_code 101 = .ok (.iconst 3, 1) := by decide +kernel
theorem dmk5_102 : decode method_5_code 102 = .ok (.iload 4, 2) := by decide +kernel
theorem dmk5_104 : decode method_5_code 104 = .ok (.castore, 1) := by decide +kernel
theorem dmk5_105 : decode method_5_code 105 = .ok (.dup, 1) := by decide +kernel
theorem dmk5_106 : decode method_5_code 106 = .ok (.iconst 4, 1) := by decide +kernel
theorem dmk5_107 : decode method_5_code 107 = .ok (.iload 5, 2) := by decide +kernel
theorem dmk5_109 : decode method_5_code 109 = .ok (.castore, 1) := by decide +kernel
theorem dmk5_110 : decode method_5_code 110 = .ok (.areturn, 1) := by decide +kernel
theorem efmk5 (m : MethodId) (x0 : Int32) (x1 : Int32) (x2 : Int32) (x3 : Int32) (x4 : Int32) (x5 : Int32) : entryFrame m #[(.int x0), (.int x1), (.int x2), (.int x3), (.int x4), (.int x5)] 6 = mkF m 0 #[.val (.int x0), .val (.int x1), .val (.int x2), .val (.int x3), .val (.int x4), .val (.int x5)] [] := by first | (simp [entryFrame, mkF, argsToLocals, Value.category]; done) | rfl
set_option maxRecDepth 65536 in
set_option maxHeartbeats 40000000 in
theorem c_mk5 {l : Launch} {Z : State} {a0 : Array Value} {G1 : Int32} (X : Ctx Z a0 G1) (y0 y1 y2 y3 y4 : Int32) (h0 : Heap) (hE : Ext Z.heap h0) (ty0 : Sm y0) (ty1 : Sm y1) (ty2 : Sm y2) (ty3 : Sm y3) (ty4 : Sm y4) :
    Con l Z consts_1 (⟨"com/example/wary_validator/waryvalidator/messageinterpolation/ExpressionOperatorsToBooleanPinLaw", "make", "(ICCCCC)[C"⟩ : MethodName) method_5_code 6 (some (.array .char)) [] ({ frames := 0, cells := 1, slots := 5, locals := 0 } : Room) #[(.int (5 : Int32)), (.int y0), (.int y1), (.int y2), (.int y3), (.int y4)] h0 (fun v h => ∃ (a : Addr) (k : ClassId), v = some (.ref a) ∧ Z.heap.size ≤ a ∧ Keep h0 h [] ∧ Arv Z h a k .char (5 : Int32) [(.int y0), (.int y1), (.int y2), (.int y3), (.int y4)] (.int (0 : Int32))) := by
  refine Con.intro (plainFor_of_name pn_3) hE X.el ?_
  intro p e s m below meth c T W
  have hsz := W.size
  refine Go.cast (efmk5 m (5 : Int32) y0 y1 y2 y3 y4) ?_
  have KP := Keep.refl h0 []
  refine Go.step (fun _ k => XS.iloadN W.here W.hx rfl (W.d dmk5_0) rfl k) ?_
  show Go _ _ _ _ _ _ _ _ _ _ (mkF m 1 #[.val (.int (5 : Int32)), .val (.int y0), .val (.int y1), .val (.int y2), .val (.int y3), .val (.int y4)] [(.int (5 : Int32))])
  refine Go.step (fun _ k => XS.ifYes W.here W.hx rfl (pc0 := 1) (pc' := 8) rfl (W.d dmk5_1) rfl ((if0 _ _).trans (feq (by decide : ¬ ((5 : Int32) = (0 : Int32)))).2) (by decide) (by decide) k) ?_
  show Go _ _ _ _ _ _ _ _ _ _ (mkF m 8 #[.val (.int (5 : Int32)), .val (.int y0), .val (.int y1), .val (.int y2), .val (.int y3), .val (.int y4)] [])
  refine Go.step (fun _ k => XS.iloadN W.here W.hx rfl (W.d dmk5_8) rfl k) ?_
  show Go _ _ _ _ _ _ _ _ _ _ (mkF m 9 #[.val (.int (5 : Int32)), .val (.int y0), .val (.int y1), .val (.int y2), .val (.int y3), .val (.int y4)] [(.int (5 : Int32))])
  refine Go.step (fun _ k => XS.iconst W.here W.hx rfl (W.d dmk5_9) k) ?_
  show Go _ _ _ _ _ _ _ _ _ _ (mkF m 10 #[.val (.int (5 : Int32)), .val (.int y0), .val (.int y1), .val (.int y2), .val (.int y3), .val (.int y4)] [(.int (1 : Int32)), (.int (5 : Int32))])
  refine Go.step (fun _ k => XS.icmpYes W.here W.hx rfl (pc0 := 10) (pc' := 21) rfl (W.d dmk5_10) rfl (feq (by decide : ¬ ((5 : Int32) = (1 : Int32)))).2 (by decide) (by decide) k) ?_
  show Go _ _ _ _ _ _ _ _ _ _ (mkF m 21 #[.val (.int (5 : Int32)), .val (.int y0), .val (.int y1), .val (.int y2), .val (.int y3), .val (.int y4)] [])
  refine Go.step (fun _ k => XS.iloadN W.here W.hx rfl (W.d dmk5_21) rfl k) ?_
  show Go _ _ _ _ _ _ _ _ _ _ (mkF m 22 #[.val (.int (5 : Int32)), .val (.int y0), .val (.int y1), .val (.int y2), .val (.int y3), .val (.int y4)] [(.int (5 : Int32))])
  refine Go.step (fun _ k => XS.iconst W.here W.hx rfl (W.d dmk5_22) k) ?_
  show Go _ _ _ _ _ _ _ _ _ _ (mkF m 23 #[.val (.int (5 : Int32)), .val (.int y0), .val (.int y1), .val (.int y2), .val (.int y3), .val (.int y4)] [(.int (2 : Int32)), (.int (5 : Int32))])
  refine Go.step (fun _ k => XS.icmpYes W.here W.hx rfl (pc0 := 23) (pc' := 38) rfl (W.d dmk5_23) rfl (feq (by decide : ¬ ((5 : Int32) = (2 : Int32)))).2 (by decide) (by decide) k) ?_
  show Go _ _ _ _ _ _ _ _ _ _ (mkF m 38 #[.val (.int (5 : Int32)), .val (.int y0), .val (.int y1), .val (.int y2), .val (.int y3), .val (.int y4)] [])
  refine Go.step (fun _ k => XS.iloadN W.here W.hx rfl (W.d dmk5_38) rfl k) ?_
  show Go _ _ _ _ _ _ _ _ _ _ (mkF m 39 #[.val (.int (5 : Int32)), .val (.int y0), .val (.int y1), .val (.int y2), .val (.int y3), .val (.int y4)] [(.int (5 : Int32))])
  refine Go.step (fun _ k => XS.iconst W.here W.hx rfl (W.d dmk5_39) k) ?_
  show Go _ _ _ _ _ _ _ _ _ _ (mkF m 40 #[.val (.int (5 : Int32)), .val (.int y0), .val (.int y1), .val (.int y2), .val (.int y3), .val (.int y4)] [(.int (3 : Int32)), (.int (5 : Int32))])
  refine Go.step (fun _ k => XS.icmpYes W.here W.hx rfl (pc0 := 40) (pc' := 59) rfl (W.d dmk5_40) rfl (feq (by decide : ¬ ((5 : Int32) = (3 : Int32)))).2 (by decide) (by decide) k) ?_
  show Go _ _ _ _ _ _ _ _ _ _ (mkF m 59 #[.val (.int (5 : Int32)), .val (.int y0), .val (.int y1), .val (.int y2), .val (.int y3), .val (.int y4)] [])
  refine Go.step (fun _ k => XS.iloadN W.here W.hx rfl (W.d dmk5_59) rfl k) ?_
  show Go _ _ _ _ _ _ _ _ _ _ (mkF m 60 #[.val (.int (5 : Int32)), .val (.int y0), .val (.int y1), .val (.int y2), .val (.int y3), .val (.int y4)] [(.int (5 : Int32))])
  refine Go.step (fun _ k => XS.iconst W.here W.hx rfl (W.d dmk5_60) k) ?_
  show Go _ _ _ _ _ _ _ _ _ _ (mkF m 61 #[.val (.int (5 : Int32)), .val (.int y0), .val (.int y1), .val (.int y2), .val (.int y3), .val (.int y4)] [(.int (4 : Int32)), (.int (5 : Int32))])
  refine Go.step (fun _ k => XS.icmpYes W.here W.hx rfl (pc0 := 61) (pc' := 85) rfl (W.d dmk5_61) rfl (feq (by decide : ¬ ((5 : Int32) = (4 : Int32)))).2 (by decide) (by decide) k) ?_
  show Go _ _ _ _ _ _ _ _ _ _ (mkF m 85 #[.val (.int (5 : Int32)), .val (.int y0), .val (.int y1), .val (.int y2), .val (.int y3), .val (.int y4)] [])
  refine Go.step (fun _ k => XS.iconst W.here W.hx rfl (W.d dmk5_85) k) ?_
  show Go _ _ _ _ _ _ _ _ _ _ (mkF m 86 #[.val (.int (5 : Int32)), .val (.int y0), .val (.int y1), .val (.int y2), .val (.int y3), .val (.int y4)] [(.int (5 : Int32))])
  refine W.newarr (X.w 26 rfl) dmk5_86 (by decide) (cap := 5) (by decide) (by decide) (by decide) (by decide) ?_
  intro T h b1 kb1 hb1 W Eb1 Vb1 Sfb1
  have sz_b1 : h0.size ≤ b1 := by rw [hb1]; exact KP.1
  have gb1 : Z.heap.size ≤ b1 := by rw [hb1]; exact hsz
  replace KP := KP.ext Eb1
  replace hsz := W.size
  replace Vb1 : Arv Z h b1 kb1 .char (5 : Int32) [(.int (0 : Int32)), (.int (0 : Int32)), (.int (0 : Int32)), (.int (0 : Int32)), (.int (0 : Int32))] (.int (0 : Int32)) := Vb1.pad (pad_rep [] (.int (0 : Int32)) 5)
  show Go _ _ _ _ _ _ _ _ _ _ (mkF m 88 #[.val (.int (5 : Int32)), .val (.int y0), .val (.int y1), .val (.int y2), .val (.int y3), .val (.int y4)] [(.ref b1)])
  refine Go.step (fun _ k => XS.dup W.here W.hx rfl (W.d dmk5_88) rfl rfl k) ?_
  show Go _ _ _ _ _ _ _ _ _ _ (mkF m 89 #[.val (.int (5 : Int32)), .val (.int y0), .val (.int y1), .val (.int y2), .val (.int y3), .val (.int y4)] [(.ref b1), (.ref b1)])
  refine Go.step (fun _ k => XS.iconst W.here W.hx rfl (W.d dmk5_89) k) ?_
  show Go _ _ _ _ _ _ _ _ _ _ (mkF m 90 #[.val (.int (5 : Int32)), .val (.int y0), .val (.int y1), .val (.int y2), .val (.int y3), .val (.int y4)] [(.int (0 : Int32)), (.ref b1), (.ref b1)])
  refine Go.step (fun _ k => XS.iloadN W.here W.hx rfl (W.d dmk5_90) rfl k) ?_
  show Go _ _ _ _ _ _ _ _ _ _ (mkF m 91 #[.val (.int (5 : Int32)), .val (.int y0), .val (.int y1), .val (.int y2), .val (.int y3), .val (.int y4)] [(.int y0), (.int (0 : Int32)), (.ref b1), (.ref b1)])
  refine W.castore Vb1 0 rfl (by simp) (by decide) gb1 dmk5_91 ?_
  intro T h W K2 Vb1'
  replace KP := KP.otrN K2 sz_b1
  replace hsz := W.size
  replace Vb1 : Arv Z h b1 kb1 .char (5 : Int32) [(.int (nar .char y0)), (.int (0 : Int32)), (.int (0 : Int32)), (.int (0 : Int32)), (.int (0 : Int32))] (.int (0 : Int32)) := Vb1'
  rw [nar_small ty0] at Vb1
  show Go _ _ _ _ _ _ _ _ _ _ (mkF m 92 #[.val (.int (5 : Int32)), .val (.int y0), .val (.int y1), .val (.int y2), .val (.int y3), .val (.int y4)] [(.ref b1)])
  refine Go.step (fun _ k => XS.dup W.here W.hx rfl (W.d dmk5_92) rfl rfl k) ?_
  show Go _ _ _ _ _ _ _ _ _ _ (mkF m 93 #[.val (.int (5 : Int32)), .val (.int y0), .val (.int y1), .val (.int y2), .val (.int y3), .val (.int y4)] [(.ref b1), (.ref b1)])
  refine Go.step (fun _ k => XS.iconst W.here W.hx rfl (W.d dmk5_93) k) ?_
  show Go _ _ _ _ _ _ _ _ _ _ (mkF m 94 #[.val (.int (5 : Int32)), .val (.int y0), .val (.int y1), .val (.int y2), .val (.int y3), .val (.int y4)] [(.int (1 : Int32)), (.ref b1), (.ref b1)])
  refine Go.step (fun _ k => XS.iloadN W.here W.hx rfl (W.d dmk5_94) rfl k) ?_
  show Go _ _ _ _ _ _ _ _ _ _ (mkF m 95 #[.val (.int (5 : Int32)), .val (.int y0), .val (.int y1), .val (.int y2), .val (.int y3), .val (.int y4)] [(.int y1), (.int (1 : Int32)), (.ref b1), (.ref b1)])
  refine W.castore Vb1 1 rfl (by simp) (by decide) gb1 dmk5_95 ?_
  intro T h W K3 Vb1'
  replace KP := KP.otrN K3 sz_b1
  replace hsz := W.size
  replace Vb1 : Arv Z h b1 kb1 .char (5 : Int32) [(.int y0), (.int (nar .char y1)), (.int (0 : Int32)), (.int (0 : Int32)), (.int (0 : Int32))] (.int (0 : Int32)) := Vb1'
  rw [nar_small ty1] at Vb1
  show Go _ _ _ _ _ _ _ _ _ _ (mkF m 96 #[.val (.int (5 : Int32)), .val (.int y0), .val (.int y1), .val (.int y2), .val (.int y3), .val (.int y4)] [(.ref b1)])
  refine Go.step (fun _ k => XS.dup W.here W.hx rfl (W.d dmk5_96) rfl rfl k) ?_
  show Go _ _ _ _ _ _ _ _ _ _ (mkF m 97 #[.val (.int (5 : Int32)), .val (.int y0), .val (.int y1), .val (.int y2), .val (.int y3), .val (.int y4)] [(.ref b1), (.ref b1)])
  refine Go.step (fun _ k => XS.iconst W.here W.hx rfl (W.d dmk5_97) k) ?_
  show Go _ _ _ _ _ _ _ _ _ _ (mkF m 98 #[.val (.int (5 : Int32)), .val (.int y0), .val (.int y1), .val (.int y2), .val (.int y3), .val (.int y4)] [(.int (2 : Int32)), (.ref b1), (.ref b1)])
  refine Go.step (fun _ k => XS.iloadN W.here W.hx rfl (W.d dmk5_98) rfl k) ?_
  show Go _ _ _ _ _ _ _ _ _ _ (mkF m 99 #[.val (.int (5 : Int32)), .val (.int y0), .val (.int y1), .val (.int y2), .val (.int y3), .val (.int y4)] [(.int y2), (.int (2 : Int32)), (.ref b1), (.ref b1)])
  refine W.castore Vb1 2 rfl (by simp) (by decide) gb1 dmk5_99 ?_
  intro T h W K4 Vb1'
  replace KP := KP.otrN K4 sz_b1
  replace hsz := W.size
  replace Vb1 : Arv Z h b1 kb1 .char (5 : Int32) [(.int y0), (.int y1), (.int (nar .char y2)), (.int (0 : Int32)), (.int (0 : Int32))] (.int (0 : Int32)) := Vb1'
  rw [nar_small ty2] at Vb1
  show Go _ _ _ _ _ _ _ _ _ _ (mkF m 100 #[.val (.int (5 : Int32)), .val (.int y0), .val (.int y1), .val (.int y2), .val (.int y3), .val (.int y4)] [(.ref b1)])
  refine Go.step (fun _ k => XS.dup W.here W.hx rfl (W.d dmk5_100) rfl rfl k) ?_
  show Go _ _ _ _ _ _ _ _ _ _ (mkF m 101 #[.val (.int (5 : Int32)), .val (.int y0), .val (.int y1), .val (.int y2), .val (.int y3), .val (.int y4)] [(.ref b1), (.ref b1)])
  refine Go.step (fun _ k => XS.iconst W.here W.hx rfl (W.d dmk5_101) k) ?_
  show Go _ _ _ _ _ _ _ _ _ _ (mkF m 102 #[.val (.int (5 : Int32)), .val (.int y0), .val (.int y1), .val (.int y2), .val (.int y3), .val (.int y4)] [(.int (3 : Int32)), (.ref b1), (.ref b1)])
  refine Go.step (fun _ k => XS.iload W.here W.hx rfl (W.d dmk5_102) rfl k) ?_
  show Go _ _ _ _ _ _ _ _ _ _ (mkF m 104 #[.val (.int (5 : Int32)), .val (.int y0), .val (.int y1), .val (.int y2), .val (.int y3), .val (.int y4)] [(.int y3), (.int (3 : Int32)), (.ref b1), (.ref b1)])
  refine W.castore Vb1 3 rfl (by simp) (by decide) gb1 dmk5_104 ?_
  intro T h W K5 Vb1'
  replace KP := KP.otrN K5 sz_b1
  replace hsz := W.size
  replace Vb1 : Arv Z h b1 kb1 .char (5 : Int32) [(.int y0), (.int y1), (.int y2), (.int (nar .char y3)), (.int (0 : Int32))] (.int (0 : Int32)) := Vb1'
  rw [nar_small ty3] at Vb1
  show Go _ _ _ _ _ _ _ _ _ _ (mkF m 105 #[.val (.int (5 : Int32)), .val (.int y0), .val (.int y1), .val (.int y2), .val (.int y3), .val (.int y4)] [(.ref b1)])
  refine Go.step (fun _ k => XS.dup W.here W.hx rfl (W.d dmk5_105) rfl rfl k) ?_
  show Go _ _ _ _ _ _ _ _ _ _ (mkF m 106 #[.val (.int (5 : Int32)), .val (.int y0), .val (.int y1), .val (.int y2), .val (.int y3), .val (.int y4)] [(.ref b1), (.ref b1)])
  refine Go.step (fun _ k => XS.iconst W.here W.hx rfl (W.d dmk5_106) k) ?_
  show Go _ _ _ _ _ _ _ _ _ _ (mkF m 107 #[.val (.int (5 : Int32)), .val (.int y0), .val (.int y1), .val (.int y2), .val (.int y3), .val (.int y4)] [(.int (4 : Int32)), (.ref b1), (.ref b1)])
  refine Go.step (fun _ k => XS.iload W.here W.hx rfl (W.d dmk5_107) rfl k) ?_
  show Go _ _ _ _ _ _ _ _ _ _ (mkF m 109 #[.val (.int (5 : Int32)), .val (.int y0), .val (.int y1), .val (.int y2), .val (.int y3), .val (.int y4)] [(.int y4), (.int (4 : Int32)), (.ref b1), (.ref b1)])
  refine W.castore Vb1 4 rfl (by simp) (by decide) gb1 dmk5_109 ?_
  intro T h W K6 Vb1'
  replace KP := KP.otrN K6 sz_b1
  replace hsz := W.size
  replace Vb1 : Arv Z h b1 kb1 .char (5 : Int32) [(.int y0), (.int y1), (.int y2), (.int y3), (.int (nar .char y4))] (.int (0 : Int32)) := Vb1'
  rw [nar_small ty4] at Vb1
  show Go _ _ _ _ _ _ _ _ _ _ (mkF m 110 #[.val (.int (5 : Int32)), .val (.int y0), .val (.int y1), .val (.int y2), .val (.int y3), .val (.int y4)] [(.ref b1)])
  exact W.retR rfl rfl rfl dmk5_110 (⟨b1, kb1, rfl, gb1, KP, Vb1⟩) (by decide) (by decide)

theorem dcod_0 : decode jdk_42_method_152_code 0 = .ok (.getstatic 38, 3) := by decide +kernel
theorem dcod_3 : decode jdk_42_method_152_code 3 = .ok (.ifCond .eq 10, 3) := by decide +kernel
theorem dcod_6 : decode jdk_42_method_152_code 6 = .ok (.aload_n 0, 1) := by decide +kernel
theorem dcod_7 : decode jdk_42_method_152_code 7 = .ok (.getfield 15, 3) := by decide +kernel
theorem dcod_10 : decode jdk_42_method_152_code 10 = .ok (.goto 4, 3) := by decide +kernel
theorem dcod_14 : decode jdk_42_method_152_code 14 = .ok (.ireturn, 1) := by decide +kernel
theorem efcod (m : MethodId) (x0 : Addr) : entryFrame m #[(.ref x0)] 1 = mkF m 0 #[.val (.ref x0)] [] := by first | (simp [entryFrame, mkF, argsToLocals, Value.category]; done) | rfl
set_option maxRecDepth 65536 in
set_option maxHeartbeats 40000000 in
theorem c_cod {l : Launch} {Z : State} {a0 : Array Value} {G1 : Int32} (X : Ctx Z a0 G1) (a : Addr) (h0 : Heap) (hE : Ext Z.heap h0) (FC : Fld Z h0 a "java/lang/String" "coder" "B" (.int (0 : Int32))) :
    Con l Z consts_1 (⟨"java/lang/String", "coder", "()B"⟩ : MethodName) jdk_42_method_152_code 1 (some .byte) [] ({ frames := 0, cells := 0, slots := 0, locals := 0 } : Room) #[(.ref a)] h0 (fun v h => v = some (.int 0) ∧ h0 = h) := by
  refine Con.intro (plainFor_of_name pn_0) hE X.el ?_
  intro p e s m below meth c T W
  have hsz := W.size
  refine Go.cast (efcod m a) ?_
  refine W.getS (host := "") (Or.inl (X.w 40 rfl)) Via.refl X.2.1 dcod_0 ?_
  intro T W
  show Go _ _ _ _ _ _ _ _ _ _ (mkF m 3 #[.val (.ref a)] [(.int G1)])
  refine Go.step (fun _ k => XS.ifNo W.here W.hx rfl (W.d dcod_3) rfl ((if0 _ _).trans (feq X.2.2.1).1) k) ?_
  show Go _ _ _ _ _ _ _ _ _ _ (mkF m 6 #[.val (.ref a)] [])
  refine Go.step (fun _ k => XS.aloadN W.here W.hx rfl (W.d dcod_6) rfl rfl k) ?_
  show Go _ _ _ _ _ _ _ _ _ _ (mkF m 7 #[.val (.ref a)] [(.ref a)])
  refine W.getF (host := "") (Or.inl (X.w 52 rfl)) Via.refl FC dcod_7 ?_
  intro T W
  show Go _ _ _ _ _ _ _ _ _ _ (mkF m 10 #[.val (.ref a)] [(.int (0 : Int32))])
  refine Go.step (fun _ k => XS.goto W.here W.hx rfl (pc0 := 10) (pc' := 14) rfl (W.d dcod_10) (by decide) (by decide) k) ?_
  show Go _ _ _ _ _ _ _ _ _ _ (mkF m 14 #[.val (.ref a)] [(.int (0 : Int32))])
  exact W.retN (by simp) dcod_14 (⟨rfl, rfl⟩) (by decide) (by decide)

theorem dlen_0 : decode jdk_42_method_54_code 0 = .ok (.aload_n 0, 1) := by decide +kernel
theorem dlen_1 : decode jdk_42_method_54_code 1 = .ok (.getfield 9, 3) := by decide +kernel
theorem dlen_4 : decode jdk_42_method_54_code 4 = .ok (.arraylength, 1) := by decide +kernel
theorem dlen_5 : decode jdk_42_method_54_code 5 = .ok (.aload_n 0, 1) := by decide +kernel
theorem dlen_6 : decode jdk_42_method_54_code 6 = .ok (.invokevirtual 335, 3) := by decide +kernel
theorem dlen_9 : decode jdk_42_method_54_code 9 = .ok (.ishr, 1) := by decide +kernel
theorem dlen_10 : decode jdk_42_method_54_code 10 = .ok (.ireturn, 1) := by decide +kernel
theorem eflen (m : MethodId) (x0 : Addr) : entryFrame m #[(.ref x0)] 1 = mkF m 0 #[.val (.ref x0)] [] := by first | (simp [entryFrame, mkF, argsToLocals, Value.category]; done) | rfl
set_option maxRecDepth 65536 in
set_option maxHeartbeats 40000000 in
theorem c_len {l : Launch} {Z : State} {a0 : Array Value} {G1 : Int32} (X : Ctx Z a0 G1) (a ta : Addr) (ka : ClassId) (cs : List Int32) (h0 : Heap) (hE : Ext Z.heap h0) (Aa : Exa Z h0 a "java/lang/String") (FVa : Fld Z h0 a "java/lang/String" "value" "[B" (.ref ta)) (FCa : Fld Z h0 a "java/lang/String" "coder" "B" (.int (0 : Int32))) (Va : Arv Z h0 ta ka .byte (Int32.ofNat cs.length) (cs.map fun c => Value.int c.toInt8.toInt32) (.int (0 : Int32))) :
    Con l Z consts_1 (⟨"java/lang/String", "length", "()I"⟩ : MethodName) jdk_42_method_54_code 1 (some .int) [] ({ frames := 1, cells := 0, slots := 0, locals := 13 } : Room) #[(.ref a)] h0 (fun v h => v = some (.int (Int32.ofNat cs.length)) ∧ h0 = h) := by
  refine Con.intro (plainFor_of_name pn_0) hE X.el ?_
  intro p e s m below meth c T W
  have hsz := W.size
  refine Go.cast (eflen m a) ?_
  refine Go.step (fun _ k => XS.aloadN W.here W.hx rfl (W.d dlen_0) rfl rfl k) ?_
  show Go _ _ _ _ _ _ _ _ _ _ (mkF m 1 #[.val (.ref a)] [(.ref a)])
  refine W.getF (host := "") (Or.inl (X.w 54 rfl)) Via.refl FVa dlen_1 ?_
  intro T W
  show Go _ _ _ _ _ _ _ _ _ _ (mkF m 4 #[.val (.ref a)] [(.ref ta)])
  refine W.arraylength Va dlen_4 ?_
  show Go _ _ _ _ _ _ _ _ _ _ (mkF m 5 #[.val (.ref a)] [(.int (Int32.ofNat cs.length))])
  refine Go.step (fun _ k => XS.aloadN W.here W.hx rfl (W.d dlen_5) rfl rfl k) ?_
  show Go _ _ _ _ _ _ _ _ _ _ (mkF m 6 #[.val (.ref a)] [(.ref a), (.int (Int32.ofNat cs.length))])
  refine W.virtual (X.w 75 rfl) (X.w 76 rfl) (notFace_of_selects (args := #[]) (mvT W.hZ (X.w 78 rfl))) (X.w 78 rfl) (X.w 77 rfl) (X.w 29 rfl) (X.w 79 rfl) (by decide) (c_cod X a _ W.ext FCa) (by decide) (Wd := 1) (by decide) a Aa [] [(.int (Int32.ofNat cs.length))] rfl pd_2 rfl rfl rfl (Nat.le_of_eq rfl) dlen_6 (by decide) (by decide) ?_
  intro v T h vm W hQ C
  obtain ⟨rfl, rfl⟩ := hQ
  show Go _ _ _ _ _ _ _ _ _ _ (mkF m 9 #[.val (.ref a)] [(.int (0 : Int32)), (.int (Int32.ofNat cs.length))])
  refine Go.step (fun _ k => XS.ishr W.here W.hx rfl (W.d dlen_9) rfl k) ?_
  show Go _ _ _ _ _ _ _ _ _ _ (mkF m 10 #[.val (.ref a)] [(.int ((Int32.ofNat cs.length) >>> ((0 : Int32) &&& 31)))])
  exact W.retI dlen_10 (⟨by rw [shr0], rfl⟩) (by decide) (by decide)

theorem dci116_0 : decode jdk_116_method_22_code 0 = .ok (.iload_n 0, 1) := by decide +kernel
theorem dci116_1 : decode jdk_116_method_22_code 1 = .ok (.iload_n 1, 1) := by decide +kernel
theorem dci116_2 : decode jdk_116_method_22_code 2 = .ok (.if_icmp .ne 5, 3) := by decide +kernel
theorem dci116_5 : decode jdk_116_method_22_code 5 = .ok (.iconst 1, 1) := by decide +kernel
theorem dci116_6 : decode jdk_116_method_22_code 6 = .ok (.ireturn, 1) := by decide +kernel
theorem dci116_7 : decode jdk_116_method_22_code 7 = .ok (.iload_n 0, 1) := by decide +kernel
theorem dci116_8 : decode jdk_116_method_22_code 8 = .ok (.sipush 223, 3) := by decide +kernel
theorem dci116_11 : decode jdk_116_method_22_code 11 = .ok (.iand, 1) := by decide +kernel
theorem dci116_12 : decode jdk_116_method_22_code 12 = .ok (.istore_n 2, 1) := by decide +kernel
theorem dci116_13 : decode jdk_116_method_22_code 13 = .ok (.iload_n 2, 1) := by decide +kernel
theorem dci116_14 : decode jdk_116_method_22_code 14 = .ok (.bipush 65, 2) := by decide +kernel
theorem dci116_16 : decode jdk_116_method_22_code 16 = .ok (.if_icmp .ge 5, 3) := by decide +kernel
theorem dci116_21 : decode jdk_116_method_22_code 21 = .ok (.iload_n 2, 1) := by decide +kernel
theorem dci116_22 : decode jdk_116_method_22_code 22 = .ok (.bipush 90, 2) := by decide +kernel
theorem dci116_24 : decode jdk_116_method_22_code 24 = .ok (.if_icmp .le 24, 3) := by decide +kernel
theorem dci116_48 : decode jdk_116_method_22_code 48 = .ok (.iload_n 2, 1) := by decide +kernel
theorem dci116_49 : decode jdk_116_method_22_code 49 = .ok (.iload_n 1, 1) := by decide +kernel
theorem dci116_50 : decode jdk_116_method_22_code 50 = .ok (.sipush 223, 3) := by decide +kernel
theorem dci116_53 : decode jdk_116_method_22_code 53 = .ok (.iand, 1) := by decide +kernel
theorem dci116_54 : decode jdk_116_method_22_code 54 = .ok (.if_icmp .ne 7, 3) := by decide +kernel
theorem dci116_57 : decode jdk_116_method_22_code 57 = .ok (.iconst 1, 1) := by decide +kernel
theorem dci116_58 : decode jdk_116_method_22_code 58 = .ok (.goto 4, 3) := by decide +kernel
theorem dci116_61 : decode jdk_116_method_22_code 61 = .ok (.iconst 0, 1) := by decide +kernel
theorem dci116_62 : decode jdk_116_method_22_code 62 = .ok (.ireturn, 1) := by decide +kernel
theorem efci116 (m : MethodId) (x0 : Int32) (x1 : Int32) : entryFrame m #[(.int x0), (.int x1)] 3 = mkF m 0 #[.val (.int x0), .val (.int x1), .unset] [] := by first | (simp [entryFrame, mkF, argsToLocals, Value.category]; done) | rfl
set_option maxRecDepth 65536 in
set_option maxHeartbeats 40000000 in
theorem c_ci116 {l : Launch} {Z : State} {a0 : Array Value} {G1 : Int32} (X : Ctx Z a0 G1) (x0 : Int32) (h0 : Heap) (hE : Ext Z.heap h0) (tx : Sm x0) :
    Con l Z consts_1 (⟨"java/lang/CharacterDataLatin1", "equalsIgnoreCase", "(BB)Z"⟩ : MethodName) jdk_116_method_22_code 3 (some .boolean) [] ({ frames := 0, cells := 0, slots := 0, locals := 0 } : Room) #[(.int (116 : Int32)), (.int x0.toInt8.toInt32)] h0 (fun v h => ((v = some (.int 1) ∧ SmL x0 116) ∨ (v = some (.int 0) ∧ ¬ SmL x0 116)) ∧ h0 = h) := by
  refine Con.intro (plainFor_of_name pn_4) hE X.el ?_
  intro p e s m below meth c T W
  have hsz := W.size
  refine Go.cast (efci116 m (116 : Int32) x0.toInt8.toInt32) ?_
  refine Go.step (fun _ k => XS.iloadN W.here W.hx rfl (W.d dci116_0) rfl k) ?_
  show Go _ _ _ _ _ _ _ _ _ _ (mkF m 1 #[.val (.int (116 : Int32)), .val (.int x0.toInt8.toInt32), .unset] [(.int (116 : Int32))])
  refine Go.step (fun _ k => XS.iloadN W.here W.hx rfl (W.d dci116_1) rfl k) ?_
  show Go _ _ _ _ _ _ _ _ _ _ (mkF m 2 #[.val (.int (116 : Int32)), .val (.int x0.toInt8.toInt32), .unset] [(.int x0.toInt8.toInt32), (.int (116 : Int32))])
  by_cases hc1 : (116 : Int32) = x0.toInt8.toInt32
  · refine Go.step (fun _ k => XS.icmpNo W.here W.hx rfl (W.d dci116_2) rfl (teq hc1).2 k) ?_
    show Go _ _ _ _ _ _ _ _ _ _ (mkF m 5 #[.val (.int (116 : Int32)), .val (.int x0.toInt8.toInt32), .unset] [])
    refine Go.step (fun _ k => XS.iconst W.here W.hx rfl (W.d dci116_5) k) ?_
    show Go _ _ _ _ _ _ _ _ _ _ (mkF m 6 #[.val (.int (116 : Int32)), .val (.int x0.toInt8.toInt32), .unset] [(.int (1 : Int32))])
    exact W.retN (by simp) dci116_6 (⟨Or.inl ⟨rfl, (smL_le x0 tx _ (by decide)).mp (Or.inl hc1)⟩, rfl⟩) (by decide) (by decide)
  · refine Go.step (fun _ k => XS.icmpYes W.here W.hx rfl (pc0 := 2) (pc' := 7) rfl (W.d dci116_2) rfl (feq hc1).2 (by decide) (by decide) k) ?_
    show Go _ _ _ _ _ _ _ _ _ _ (mkF m 7 #[.val (.int (116 : Int32)), .val (.int x0.toInt8.toInt32), .unset] [])
    refine Go.step (fun _ k => XS.iloadN W.here W.hx rfl (W.d dci116_7) rfl k) ?_
    show Go _ _ _ _ _ _ _ _ _ _ (mkF m 8 #[.val (.int (116 : Int32)), .val (.int x0.toInt8.toInt32), .unset] [(.int (116 : Int32))])
    refine Go.step (fun _ k => XS.sipush W.here W.hx rfl (W.d dci116_8) k) ?_
    show Go _ _ _ _ _ _ _ _ _ _ (mkF m 11 #[.val (.int (116 : Int32)), .val (.int x0.toInt8.toInt32), .unset] [(.int (223 : Int32)), (.int (116 : Int32))])
    refine Go.step (fun _ k => XS.iand W.here W.hx rfl (W.d dci116_11) rfl k) ?_
    show Go _ _ _ _ _ _ _ _ _ _ (mkF m 12 #[.val (.int (116 : Int32)), .val (.int x0.toInt8.toInt32), .unset] [(.int (84 : Int32))])
    refine Go.step (fun _ k => XS.istoreN W.here W.hx rfl (W.d dci116_12) rfl (l' := #[.val (.int (116 : Int32)), .val (.int x0.toInt8.toInt32), .val (.int (84 : Int32))]) rfl k) ?_
    show Go _ _ _ _ _ _ _ _ _ _ (mkF m 13 #[.val (.int (116 : Int32)), .val (.int x0.toInt8.toInt32), .val (.int (84 : Int32))] [])
    refine Go.step (fun _ k => XS.iloadN W.here W.hx rfl (W.d dci116_13) rfl k) ?_
    show Go _ _ _ _ _ _ _ _ _ _ (mkF m 14 #[.val (.int (116 : Int32)), .val (.int x0.toInt8.toInt32), .val (.int (84 : Int32))] [(.int (84 : Int32))])
    refine Go.step (fun _ k => XS.bipush W.here W.hx rfl (W.d dci116_14) k) ?_
    show Go _ _ _ _ _ _ _ _ _ _ (mkF m 16 #[.val (.int (116 : Int32)), .val (.int x0.toInt8.toInt32), .val (.int (84 : Int32))] [(.int (65 : Int32)), (.int (84 : Int32))])
    refine Go.step (fun _ k => XS.icmpYes W.here W.hx rfl (pc0 := 16) (pc' := 21) rfl (W.d dci116_16) rfl (flt (by decide : ¬ ((84 : Int32) < (65 : Int32)))).2.1 (by decide) (by decide) k) ?_
    show Go _ _ _ _ _ _ _ _ _ _ (mkF m 21 #[.val (.int (116 : Int32)), .val (.int x0.toInt8.toInt32), .val (.int (84 : Int32))] [])
    refine Go.step (fun _ k => XS.iloadN W.here W.hx rfl (W.d dci116_21) rfl k) ?_
    show Go _ _ _ _ _ _ _ _ _ _ (mkF m 22 #[.val (.int (116 : Int32)), .val (.int x0.toInt8.toInt32), .val (.int (84 : Int32))] [(.int (84 : Int32))])
    refine Go.step (fun _ k => XS.bipush W.here W.hx rfl (W.d dci116_22) k) ?_
    show Go _ _ _ _ _ _ _ _ _ _ (mkF m 24 #[.val (.int (116 : Int32)), .val (.int x0.toInt8.toInt32), .val (.int (84 : Int32))] [(.int (90 : Int32)), (.int (84 : Int32))])
    refine Go.step (fun _ k => XS.icmpYes W.here W.hx rfl (pc0 := 24) (pc' := 48) rfl (W.d dci116_24) rfl (flt (by decide : ¬ ((90 : Int32) < (84 : Int32)))).2.2.2 (by decide) (by decide) k) ?_
    show Go _ _ _ _ _ _ _ _ _ _ (mkF m 48 #[.val (.int (116 : Int32)), .val (.int x0.toInt8.toInt32), .val (.int (84 : Int32))] [])
    refine Go.step (fun _ k => XS.iloadN W.here W.hx rfl (W.d dci116_48) rfl k) ?_
    show Go _ _ _ _ _ _ _ _ _ _ (mkF m 49 #[.val (.int (116 : Int32)), .val (.int x0.toInt8.toInt32), .val (.int (84 : Int32))] [(.int (84 : Int32))])
    refine Go.step (fun _ k => XS.iloadN W.here W.hx rfl (W.d dci116_49) rfl k) ?_
    show Go _ _ _ _ _ _ _ _ _ _ (mkF m 50 #[.val (.int (116 : Int32)), .val (.int x0.toInt8.toInt32), .val (.int (84 : Int32))] [(.int x0.toInt8.toInt32), (.int (84 : Int32))])
    refine Go.step (fun _ k => XS.sipush W.here W.hx rfl (W.d dci116_50) k) ?_
    show Go _ _ _ _ _ _ _ _ _ _ (mkF m 53 #[.val (.int (116 : Int32)), .val (.int x0.toInt8.toInt32), .val (.int (84 : Int32))] [(.int (223 : Int32)), (.int x0.toInt8.toInt32), (.int (84 : Int32))])
    refine Go.step (fun _ k => XS.iand W.here W.hx rfl (W.d dci116_53) rfl k) ?_
    show Go _ _ _ _ _ _ _ _ _ _ (mkF m 54 #[.val (.int (116 : Int32)), .val (.int x0.toInt8.toInt32), .val (.int (84 : Int32))] [(.int (x0.toInt8.toInt32 &&& (223 : Int32))), (.int (84 : Int32))])
    by_cases hc2 : (84 : Int32) = (x0.toInt8.toInt32 &&& (223 : Int32))
    · refine Go.step (fun _ k => XS.icmpNo W.here W.hx rfl (W.d dci116_54) rfl (teq hc2).2 k) ?_
      show Go _ _ _ _ _ _ _ _ _ _ (mkF m 57 #[.val (.int (116 : Int32)), .val (.int x0.toInt8.toInt32), .val (.int (84 : Int32))] [])
      refine Go.step (fun _ k => XS.iconst W.here W.hx rfl (W.d dci116_57) k) ?_
      show Go _ _ _ _ _ _ _ _ _ _ (mkF m 58 #[.val (.int (116 : Int32)), .val (.int x0.toInt8.toInt32), .val (.int (84 : Int32))] [(.int (1 : Int32))])
      refine Go.step (fun _ k => XS.goto W.here W.hx rfl (pc0 := 58) (pc' := 62) rfl (W.d dci116_58) (by decide) (by decide) k) ?_
      show Go _ _ _ _ _ _ _ _ _ _ (mkF m 62 #[.val (.int (116 : Int32)), .val (.int x0.toInt8.toInt32), .val (.int (84 : Int32))] [(.int (1 : Int32))])
      exact W.retN (by simp) dci116_62 (⟨Or.inl ⟨rfl, (smL_le x0 tx _ (by decide)).mp (Or.inr hc2)⟩, rfl⟩) (by decide) (by decide)
    · refine Go.step (fun _ k => XS.icmpYes W.here W.hx rfl (pc0 := 54) (pc' := 61) rfl (W.d dci116_54) rfl (feq hc2).2 (by decide) (by decide) k) ?_
      show Go _ _ _ _ _ _ _ _ _ _ (mkF m 61 #[.val (.int (116 : Int32)), .val (.int x0.toInt8.toInt32), .val (.int (84 : Int32))] [])
      refine Go.step (fun _ k => XS.iconst W.here W.hx rfl (W.d dci116_61) k) ?_
      show Go _ _ _ _ _ _ _ _ _ _ (mkF m 62 #[.val (.int (116 : Int32)), .val (.int x0.toInt8.toInt32), .val (.int (84 : Int32))] [(.int (0 : Int32))])
      exact W.retN (by simp) dci116_62 (⟨Or.inr ⟨rfl, fun q => ((smL_le x0 tx _ (by decide)).mpr q).elim hc1 hc2⟩, rfl⟩) (by decide) (by decide)

theorem dci114_0 : decode jdk_116_method_22_code 0 = .ok (.iload_n 0, 1) := by decide +kernel
theorem dci114_1 : decode jdk_116_method_22_code 1 = .ok (.iload_n 1, 1) := by decide +kernel
theorem dci114_2 : decode jdk_116_method_22_code 2 = .ok (.if_icmp .ne 5, 3) := by decide +kernel
theorem dci114_5 : decode jdk_116_method_22_code 5 = .ok (.iconst 1, 1) := by decide +kernel
theorem dci114_6 : decode jdk_116_method_22_code 6 = .ok (.ireturn, 1) := by decide +kernel
theorem dci114_7 : decode jdk_116_method_22_code 7 = .ok (.iload_n 0, 1) := by decide +kernel
theorem dci114_8 : decode jdk_116_method_22_code 8 = .ok (.sipush 223, 3) := by decide +kernel
theorem dci114_11 : decode jdk_116_method_22_code 11 = .ok (.iand, 1) := by decide +kernel
theorem dci114_12 : decode jdk_116_method_22_code 12 = .ok (.istore_n 2, 1) := by decide +kernel
theorem dci114_13 : decode jdk_116_method_22_code 13 = .ok (.iload_n 2, 1) := by decide +kernel
theorem dci114_14 : decode jdk_116_method_22_code 14 = .ok (.bipush 65, 2) := by decide +kernel
theorem dci114_16 : decode jdk_116_method_22_code 16 = .ok (.if_icmp .ge 5, 3) := by decide +kernel
theorem dci114_21 : decode jdk_116_method_22_code 21 = .ok (.iload_n 2, 1) := by decide +kernel
theorem dci114_22 : decode jdk_116_method_22_code 22 = .ok (.bipush 90, 2) := by decide +kernel
theorem dci114_24 : decode jdk_116_method_22_code 24 = .ok (.if_icmp .le 24, 3) := by decide +kernel
theorem dci114_48 : decode jdk_116_method_22_code 48 = .ok (.iload_n 2, 1) := by decide +kernel
theorem dci114_49 : decode jdk_116_method_22_code 49 = .ok (.iload_n 1, 1) := by decide +kernel
theorem dci114_50 : decode jdk_116_method_22_code 50 = .ok (.sipush 223, 3) := by decide +kernel
theorem dci114_53 : decode jdk_116_method_22_code 53 = .ok (.iand, 1) := by decide +kernel
theorem dci114_54 : decode jdk_116_method_22_code 54 = .ok (.if_icmp .ne 7, 3) := by decide +kernel
theorem dci114_57 : decode jdk_116_method_22_code 57 = .ok (.iconst 1, 1) := by decide +kernel
theorem dci114_58 : decode jdk_116_method_22_code 58 = .ok (.goto 4, 3) := by decide +kernel
theorem dci114_61 : decode jdk_116_method_22_code 61 = .ok (.iconst 0, 1) := by decide +kernel
theorem dci114_62 : decode jdk_116_method_22_code 62 = .ok (.ireturn, 1) := by decide +kernel
theorem efci114 (m : MethodId) (x0 : Int32) (x1 : Int32) : entryFrame m #[(.int x0), (.int x1)] 3 = mkF m 0 #[.val (.int x0), .val (.int x1), .unset] [] := by first | (simp [entryFrame, mkF, argsToLocals, Value.category]; done) | rfl
set_option maxRecDepth 65536 in
set_option maxHeartbeats 40000000 in
theorem c_ci114 {l : Launch} {Z : State} {a0 : Array Value} {G1 : Int32} (X : Ctx Z a0 G1) (x0 : Int32) (h0 : Heap) (hE : Ext Z.heap h0) (tx : Sm x0) :
    Con l Z consts_1 (⟨"java/lang/CharacterDataLatin1", "equalsIgnoreCase", "(BB)Z"⟩ : MethodName) jdk_116_method_22_code 3 (some .boolean) [] ({ frames := 0, cells := 0, slots := 0, locals := 0 } : Room) #[(.int (114 : Int32)), (.int x0.toInt8.toInt32)] h0 (fun v h => ((v = some (.int 1) ∧ SmL x0 114) ∨ (v = some (.int 0) ∧ ¬ SmL x0 114)) ∧ h0 = h) := by
  refine Con.intro (plainFor_of_name pn_4) hE X.el ?_
  intro p e s m below meth c T W
  have hsz := W.size
  refine Go.cast (efci114 m (114 : Int32) x0.toInt8.toInt32) ?_
  refine Go.step (fun _ k => XS.iloadN W.here W.hx rfl (W.d dci114_0) rfl k) ?_
  show Go _ _ _ _ _ _ _ _ _ _ (mkF m 1 #[.val (.int (114 : Int32)), .val (.int x0.toInt8.toInt32), .unset] [(.int (114 : Int32))])
  refine Go.step (fun _ k => XS.iloadN W.here W.hx rfl (W.d dci114_1) rfl k) ?_
  show Go _ _ _ _ _ _ _ _ _ _ (mkF m 2 #[.val (.int (114 : Int32)), .val (.int x0.toInt8.toInt32), .unset] [(.int x0.toInt8.toInt32), (.int (114 : Int32))])
  by_cases hc1 : (114 : Int32) = x0.toInt8.toInt32
  · refine Go.step (fun _ k => XS.icmpNo W.here W.hx rfl (W.d dci114_2) rfl (teq hc1).2 k) ?_
    show Go _ _ _ _ _ _ _ _ _ _ (mkF m 5 #[.val (.int (114 : Int32)), .val (.int x0.toInt8.toInt32), .unset] [])
    refine Go.step (fun _ k => XS.iconst W.here W.hx rfl (W.d dci114_5) k) ?_
    show Go _ _ _ _ _ _ _ _ _ _ (mkF m 6 #[.val (.int (114 : Int32)), .val (.int x0.toInt8.toInt32), .unset] [(.int (1 : Int32))])
    exact W.retN (by simp) dci114_6 (⟨Or.inl ⟨rfl, (smL_le x0 tx _ (by decide)).mp (Or.inl hc1)⟩, rfl⟩) (by decide) (by decide)
  · refine Go.step (fun _ k => XS.icmpYes W.here W.hx rfl (pc0 := 2) (pc' := 7) rfl (W.d dci114_2) rfl (feq hc1).2 (by decide) (by decide) k) ?_
    show Go _ _ _ _ _ _ _ _ _ _ (mkF m 7 #[.val (.int (114 : Int32)), .val (.int x0.toInt8.toInt32), .unset] [])
    refine Go.step (fun _ k => XS.iloadN W.here W.hx rfl (W.d dci114_7) rfl k) ?_
    show Go _ _ _ _ _ _ _ _ _ _ (mkF m 8 #[.val (.int (114 : Int32)), .val (.int x0.toInt8.toInt32), .unset] [(.int (114 : Int32))])
    refine Go.step (fun _ k => XS.sipush W.here W.hx rfl (W.d dci114_8) k) ?_
    show Go _ _ _ _ _ _ _ _ _ _ (mkF m 11 #[.val (.int (114 : Int32)), .val (.int x0.toInt8.toInt32), .unset] [(.int (223 : Int32)), (.int (114 : Int32))])
    refine Go.step (fun _ k => XS.iand W.here W.hx rfl (W.d dci114_11) rfl k) ?_
    show Go _ _ _ _ _ _ _ _ _ _ (mkF m 12 #[.val (.int (114 : Int32)), .val (.int x0.toInt8.toInt32), .unset] [(.int (82 : Int32))])
    refine Go.step (fun _ k => XS.istoreN W.here W.hx rfl (W.d dci114_12) rfl (l' := #[.val (.int (114 : Int32)), .val (.int x0.toInt8.toInt32), .val (.int (82 : Int32))]) rfl k) ?_
    show Go _ _ _ _ _ _ _ _ _ _ (mkF m 13 #[.val (.int (114 : Int32)), .val (.int x0.toInt8.toInt32), .val (.int (82 : Int32))] [])
    refine Go.step (fun _ k => XS.iloadN W.here W.hx rfl (W.d dci114_13) rfl k) ?_
    show Go _ _ _ _ _ _ _ _ _ _ (mkF m 14 #[.val (.int (114 : Int32)), .val (.int x0.toInt8.toInt32), .val (.int (82 : Int32))] [(.int (82 : Int32))])
    refine Go.step (fun _ k => XS.bipush W.here W.hx rfl (W.d dci114_14) k) ?_
    show Go _ _ _ _ _ _ _ _ _ _ (mkF m 16 #[.val (.int (114 : Int32)), .val (.int x0.toInt8.toInt32), .val (.int (82 : Int32))] [(.int (65 : Int32)), (.int (82 : Int32))])
    refine Go.step (fun _ k => XS.icmpYes W.here W.hx rfl (pc0 := 16) (pc' := 21) rfl (W.d dci114_16) rfl (flt (by decide : ¬ ((82 : Int32) < (65 : Int32)))).2.1 (by decide) (by decide) k) ?_
    show Go _ _ _ _ _ _ _ _ _ _ (mkF m 21 #[.val (.int (114 : Int32)), .val (.int x0.toInt8.toInt32), .val (.int (82 : Int32))] [])
    refine Go.step (fun _ k => XS.iloadN W.here W.hx rfl (W.d dci114_21) rfl k) ?_
    show Go _ _ _ _ _ _ _ _ _ _ (mkF m 22 #[.val (.int (114 : Int32)), .val (.int x0.toInt8.toInt32), .val (.int (82 : Int32))] [(.int (82 : Int32))])
    refine Go.step (fun _ k => XS.bipush W.here W.hx rfl (W.d dci114_22) k) ?_
    show Go _ _ _ _ _ _ _ _ _ _ (mkF m 24 #[.val (.int (114 : Int32)), .val (.int x0.toInt8.toInt32), .val (.int (82 : Int32))] [(.int (90 : Int32)), (.int (82 : Int32))])
    refine Go.step (fun _ k => XS.icmpYes W.here W.hx rfl (pc0 := 24) (pc' := 48) rfl (W.d dci114_24) rfl (flt (by decide : ¬ ((90 : Int32) < (82 : Int32)))).2.2.2 (by decide) (by decide) k) ?_
    show Go _ _ _ _ _ _ _ _ _ _ (mkF m 48 #[.val (.int (114 : Int32)), .val (.int x0.toInt8.toInt32), .val (.int (82 : Int32))] [])
    refine Go.step (fun _ k => XS.iloadN W.here W.hx rfl (W.d dci114_48) rfl k) ?_
    show Go _ _ _ _ _ _ _ _ _ _ (mkF m 49 #[.val (.int (114 : Int32)), .val (.int x0.toInt8.toInt32), .val (.int (82 : Int32))] [(.int (82 : Int32))])
    refine Go.step (fun _ k => XS.iloadN W.here W.hx rfl (W.d dci114_49) rfl k) ?_
    show Go _ _ _ _ _ _ _ _ _ _ (mkF m 50 #[.val (.int (114 : Int32)), .val (.int x0.toInt8.toInt32), .val (.int (82 : Int32))] [(.int x0.toInt8.toInt32), (.int (82 : Int32))])
    refine Go.step (fun _ k => XS.sipush W.here W.hx rfl (W.d dci114_50) k) ?_
    show Go _ _ _ _ _ _ _ _ _ _ (mkF m 53 #[.val (.int (114 : Int32)), .val (.int x0.toInt8.toInt32), .val (.int (82 : Int32))] [(.int (223 : Int32)), (.int x0.toInt8.toInt32), (.int (82 : Int32))])
    refine Go.step (fun _ k => XS.iand W.here W.hx rfl (W.d dci114_53) rfl k) ?_
    show Go _ _ _ _ _ _ _ _ _ _ (mkF m 54 #[.val (.int (114 : Int32)), .val (.int x0.toInt8.toInt32), .val (.int (82 : Int32))] [(.int (x0.toInt8.toInt32 &&& (223 : Int32))), (.int (82 : Int32))])
    by_cases hc2 : (82 : Int32) = (x0.toInt8.toInt32 &&& (223 : Int32))
    · refine Go.step (fun _ k => XS.icmpNo W.here W.hx rfl (W.d dci114_54) rfl (teq hc2).2 k) ?_
      show Go _ _ _ _ _ _ _ _ _ _ (mkF m 57 #[.val (.int (114 : Int32)), .val (.int x0.toInt8.toInt32), .val (.int (82 : Int32))] [])
      refine Go.step (fun _ k => XS.iconst W.here W.hx rfl (W.d dci114_57) k) ?_
      show Go _ _ _ _ _ _ _ _ _ _ (mkF m 58 #[.val (.int (114 : Int32)), .val (.int x0.toInt8.toInt32), .val (.int (82 : Int32))] [(.int (1 : Int32))])
      refine Go.step (fun _ k => XS.goto W.here W.hx rfl (pc0 := 58) (pc' := 62) rfl (W.d dci114_58) (by decide) (by decide) k) ?_
      show Go _ _ _ _ _ _ _ _ _ _ (mkF m 62 #[.val (.int (114 : Int32)), .val (.int x0.toInt8.toInt32), .val (.int (82 : Int32))] [(.int (1 : Int32))])
      exact W.retN (by simp) dci114_62 (⟨Or.inl ⟨rfl, (smL_le x0 tx _ (by decide)).mp (Or.inr hc2)⟩, rfl⟩) (by decide) (by decide)
    · refine Go.step (fun _ k => XS.icmpYes W.here W.hx rfl (pc0 := 54) (pc' := 61) rfl (W.d dci114_54) rfl (feq hc2).2 (by decide) (by decide) k) ?_
      show Go _ _ _ _ _ _ _ _ _ _ (mkF m 61 #[.val (.int (114 : Int32)), .val (.int x0.toInt8.toInt32), .val (.int (82 : Int32))] [])
      refine Go.step (fun _ k => XS.iconst W.here W.hx rfl (W.d dci114_61) k) ?_
      show Go _ _ _ _ _ _ _ _ _ _ (mkF m 62 #[.val (.int (114 : Int32)), .val (.int x0.toInt8.toInt32), .val (.int (82 : Int32))] [(.int (0 : Int32))])
      exact W.retN (by simp) dci114_62 (⟨Or.inr ⟨rfl, fun q => ((smL_le x0 tx _ (by decide)).mpr q).elim hc1 hc2⟩, rfl⟩) (by decide) (by decide)

theorem dci117_0 : decode jdk_116_method_22_code 0 = .ok (.iload_n 0, 1) := by decide +kernel
theorem dci117_1 : decode jdk_116_method_22_code 1 = .ok (.iload_n 1, 1) := by decide +kernel
theorem dci117_2 : decode jdk_116_method_22_code 2 = .ok (.if_icmp .ne 5, 3) := by decide +kernel
theorem dci117_5 : decode jdk_116_method_22_code 5 = .ok (.iconst 1, 1) := by decide +kernel
theorem dci117_6 : decode jdk_116_method_22_code 6 = .ok (.ireturn, 1) := by decide +kernel
theorem dci117_7 : decode jdk_116_method_22_code 7 = .ok (.iload_n 0, 1) := by decide +kernel
theorem dci117_8 : decode jdk_116_method_22_code 8 = .ok (.sipush 223, 3) := by decide +kernel
theorem dci117_11 : decode jdk_116_method_22_code 11 = .ok (.iand, 1) := by decide +kernel
theorem dci117_12 : decode jdk_116_method_22_code 12 = .ok (.istore_n 2, 1) := by decide +kernel
theorem dci117_13 : decode jdk_116_method_22_code 13 = .ok (.iload_n 2, 1) := by decide +kernel
theorem dci117_14 : decode jdk_116_method_22_code 14 = .ok (.bipush 65, 2) := by decide +kernel
theorem dci117_16 : decode jdk_116_method_22_code 16 = .ok (.if_icmp .ge 5, 3) := by decide +kernel
theorem dci117_21 : decode jdk_116_method_22_code 21 = .ok (.iload_n 2, 1) := by decide +kernel
theorem dci117_22 : decode jdk_116_method_22_code 22 = .ok (.bipush 90, 2) := by decide +kernel
theorem dci117_24 : decode jdk_116_method_22_code 24 = .ok (.if_icmp .le 24, 3) := by decide +kernel
theorem dci117_48 : decode jdk_116_method_22_code 48 = .ok (.iload_n 2, 1) := by decide +kernel
theorem dci117_49 : decode jdk_116_method_22_code 49 = .ok (.iload_n 1, 1) := by decide +kernel
theorem dci117_50 : decode jdk_116_method_22_code 50 = .ok (.sipush 223, 3) := by decide +kernel
theorem dci117_53 : decode jdk_116_method_22_code 53 = .ok (.iand, 1) := by decide +kernel
theorem dci117_54 : decode jdk_116_method_22_code 54 = .ok (.if_icmp .ne 7, 3) := by decide +kernel
theorem dci117_57 : decode jdk_116_method_22_code 57 = .ok (.iconst 1, 1) := by decide +kernel
theorem dci117_58 : decode jdk_116_method_22_code 58 = .ok (.goto 4, 3) := by decide +kernel
theorem dci117_61 : decode jdk_116_method_22_code 61 = .ok (.iconst 0, 1) := by decide +kernel
theorem dci117_62 : decode jdk_116_method_22_code 62 = .ok (.ireturn, 1) := by decide +kernel
theorem efci117 (m : MethodId) (x0 : Int32) (x1 : Int32) : entryFrame m #[(.int x0), (.int x1)] 3 = mkF m 0 #[.val (.int x0), .val (.int x1), .unset] [] := by first | (simp [entryFrame, mkF, argsToLocals, Value.category]; done) | rfl
set_option maxRecDepth 65536 in
set_option maxHeartbeats 40000000 in
theorem c_ci117 {l : Launch} {Z : State} {a0 : Array Value} {G1 : Int32} (X : Ctx Z a0 G1) (x0 : Int32) (h0 : Heap) (hE : Ext Z.heap h0) (tx : Sm x0) :
    Con l Z consts_1 (⟨"java/lang/CharacterDataLatin1", "equalsIgnoreCase", "(BB)Z"⟩ : MethodName) jdk_116_method_22_code 3 (some .boolean) [] ({ frames := 0, cells := 0, slots := 0, locals := 0 } : Room) #[(.int (117 : Int32)), (.int x0.toInt8.toInt32)] h0 (fun v h => ((v = some (.int 1) ∧ SmL x0 117) ∨ (v = some (.int 0) ∧ ¬ SmL x0 117)) ∧ h0 = h) := by
  refine Con.intro (plainFor_of_name pn_4) hE X.el ?_
  intro p e s m below meth c T W
  have hsz := W.size
  refine Go.cast (efci117 m (117 : Int32) x0.toInt8.toInt32) ?_
  refine Go.step (fun _ k => XS.iloadN W.here W.hx rfl (W.d dci117_0) rfl k) ?_
  show Go _ _ _ _ _ _ _ _ _ _ (mkF m 1 #[.val (.int (117 : Int32)), .val (.int x0.toInt8.toInt32), .unset] [(.int (117 : Int32))])
  refine Go.step (fun _ k => XS.iloadN W.here W.hx rfl (W.d dci117_1) rfl k) ?_
  show Go _ _ _ _ _ _ _ _ _ _ (mkF m 2 #[.val (.int (117 : Int32)), .val (.int x0.toInt8.toInt32), .unset] [(.int x0.toInt8.toInt32), (.int (117 : Int32))])
  by_cases hc1 : (117 : Int32) = x0.toInt8.toInt32
  · refine Go.step (fun _ k => XS.icmpNo W.here W.hx rfl (W.d dci117_2) rfl (teq hc1).2 k) ?_
    show Go _ _ _ _ _ _ _ _ _ _ (mkF m 5 #[.val (.int (117 : Int32)), .val (.int x0.toInt8.toInt32), .unset] [])
    refine Go.step (fun _ k => XS.iconst W.here W.hx rfl (W.d dci117_5) k) ?_
    show Go _ _ _ _ _ _ _ _ _ _ (mkF m 6 #[.val (.int (117 : Int32)), .val (.int x0.toInt8.toInt32), .unset] [(.int (1 : Int32))])
    exact W.retN (by simp) dci117_6 (⟨Or.inl ⟨rfl, (smL_le x0 tx _ (by decide)).mp (Or.inl hc1)⟩, rfl⟩) (by decide) (by decide)
  · refine Go.step (fun _ k => XS.icmpYes W.here W.hx rfl (pc0 := 2) (pc' := 7) rfl (W.d dci117_2) rfl (feq hc1).2 (by decide) (by decide) k) ?_
    show Go _ _ _ _ _ _ _ _ _ _ (mkF m 7 #[.val (.int (117 : Int32)), .val (.int x0.toInt8.toInt32), .unset] [])
    refine Go.step (fun _ k => XS.iloadN W.here W.hx rfl (W.d dci117_7) rfl k) ?_
    show Go _ _ _ _ _ _ _ _ _ _ (mkF m 8 #[.val (.int (117 : Int32)), .val (.int x0.toInt8.toInt32), .unset] [(.int (117 : Int32))])
    refine Go.step (fun _ k => XS.sipush W.here W.hx rfl (W.d dci117_8) k) ?_
    show Go _ _ _ _ _ _ _ _ _ _ (mkF m 11 #[.val (.int (117 : Int32)), .val (.int x0.toInt8.toInt32), .unset] [(.int (223 : Int32)), (.int (117 : Int32))])
    refine Go.step (fun _ k => XS.iand W.here W.hx rfl (W.d dci117_11) rfl k) ?_
    show Go _ _ _ _ _ _ _ _ _ _ (mkF m 12 #[.val (.int (117 : Int32)), .val (.int x0.toInt8.toInt32), .unset] [(.int (85 : Int32))])
    refine Go.step (fun _ k => XS.istoreN W.here W.hx rfl (W.d dci117_12) rfl (l' := #[.val (.int (117 : Int32)), .val (.int x0.toInt8.toInt32), .val (.int (85 : Int32))]) rfl k) ?_
    show Go _ _ _ _ _ _ _ _ _ _ (mkF m 13 #[.val (.int (117 : Int32)), .val (.int x0.toInt8.toInt32), .val (.int (85 : Int32))] [])
    refine Go.step (fun _ k => XS.iloadN W.here W.hx rfl (W.d dci117_13) rfl k) ?_
    show Go _ _ _ _ _ _ _ _ _ _ (mkF m 14 #[.val (.int (117 : Int32)), .val (.int x0.toInt8.toInt32), .val (.int (85 : Int32))] [(.int (85 : Int32))])
    refine Go.step (fun _ k => XS.bipush W.here W.hx rfl (W.d dci117_14) k) ?_
    show Go _ _ _ _ _ _ _ _ _ _ (mkF m 16 #[.val (.int (117 : Int32)), .val (.int x0.toInt8.toInt32), .val (.int (85 : Int32))] [(.int (65 : Int32)), (.int (85 : Int32))])
    refine Go.step (fun _ k => XS.icmpYes W.here W.hx rfl (pc0 := 16) (pc' := 21) rfl (W.d dci117_16) rfl (flt (by decide : ¬ ((85 : Int32) < (65 : Int32)))).2.1 (by decide) (by decide) k) ?_
    show Go _ _ _ _ _ _ _ _ _ _ (mkF m 21 #[.val (.int (117 : Int32)), .val (.int x0.toInt8.toInt32), .val (.int (85 : Int32))] [])
    refine Go.step (fun _ k => XS.iloadN W.here W.hx rfl (W.d dci117_21) rfl k) ?_
    show Go _ _ _ _ _ _ _ _ _ _ (mkF m 22 #[.val (.int (117 : Int32)), .val (.int x0.toInt8.toInt32), .val (.int (85 : Int32))] [(.int (85 : Int32))])
    refine Go.step (fun _ k => XS.bipush W.here W.hx rfl (W.d dci117_22) k) ?_
    show Go _ _ _ _ _ _ _ _ _ _ (mkF m 24 #[.val (.int (117 : Int32)), .val (.int x0.toInt8.toInt32), .val (.int (85 : Int32))] [(.int (90 : Int32)), (.int (85 : Int32))])
    refine Go.step (fun _ k => XS.icmpYes W.here W.hx rfl (pc0 := 24) (pc' := 48) rfl (W.d dci117_24) rfl (flt (by decide : ¬ ((90 : Int32) < (85 : Int32)))).2.2.2 (by decide) (by decide) k) ?_
    show Go _ _ _ _ _ _ _ _ _ _ (mkF m 48 #[.val (.int (117 : Int32)), .val (.int x0.toInt8.toInt32), .val (.int (85 : Int32))] [])
    refine Go.step (fun _ k => XS.iloadN W.here W.hx rfl (W.d dci117_48) rfl k) ?_
    show Go _ _ _ _ _ _ _ _ _ _ (mkF m 49 #[.val (.int (117 : Int32)), .val (.int x0.toInt8.toInt32), .val (.int (85 : Int32))] [(.int (85 : Int32))])
    refine Go.step (fun _ k => XS.iloadN W.here W.hx rfl (W.d dci117_49) rfl k) ?_
    show Go _ _ _ _ _ _ _ _ _ _ (mkF m 50 #[.val (.int (117 : Int32)), .val (.int x0.toInt8.toInt32), .val (.int (85 : Int32))] [(.int x0.toInt8.toInt32), (.int (85 : Int32))])
    refine Go.step (fun _ k => XS.sipush W.here W.hx rfl (W.d dci117_50) k) ?_
    show Go _ _ _ _ _ _ _ _ _ _ (mkF m 53 #[.val (.int (117 : Int32)), .val (.int x0.toInt8.toInt32), .val (.int (85 : Int32))] [(.int (223 : Int32)), (.int x0.toInt8.toInt32), (.int (85 : Int32))])
    refine Go.step (fun _ k => XS.iand W.here W.hx rfl (W.d dci117_53) rfl k) ?_
    show Go _ _ _ _ _ _ _ _ _ _ (mkF m 54 #[.val (.int (117 : Int32)), .val (.int x0.toInt8.toInt32), .val (.int (85 : Int32))] [(.int (x0.toInt8.toInt32 &&& (223 : Int32))), (.int (85 : Int32))])
    by_cases hc2 : (85 : Int32) = (x0.toInt8.toInt32 &&& (223 : Int32))
    · refine Go.step (fun _ k => XS.icmpNo W.here W.hx rfl (W.d dci117_54) rfl (teq hc2).2 k) ?_
      show Go _ _ _ _ _ _ _ _ _ _ (mkF m 57 #[.val (.int (117 : Int32)), .val (.int x0.toInt8.toInt32), .val (.int (85 : Int32))] [])
      refine Go.step (fun _ k => XS.iconst W.here W.hx rfl (W.d dci117_57) k) ?_
      show Go _ _ _ _ _ _ _ _ _ _ (mkF m 58 #[.val (.int (117 : Int32)), .val (.int x0.toInt8.toInt32), .val (.int (85 : Int32))] [(.int (1 : Int32))])
      refine Go.step (fun _ k => XS.goto W.here W.hx rfl (pc0 := 58) (pc' := 62) rfl (W.d dci117_58) (by decide) (by decide) k) ?_
      show Go _ _ _ _ _ _ _ _ _ _ (mkF m 62 #[.val (.int (117 : Int32)), .val (.int x0.toInt8.toInt32), .val (.int (85 : Int32))] [(.int (1 : Int32))])
      exact W.retN (by simp) dci117_62 (⟨Or.inl ⟨rfl, (smL_le x0 tx _ (by decide)).mp (Or.inr hc2)⟩, rfl⟩) (by decide) (by decide)
    · refine Go.step (fun _ k => XS.icmpYes W.here W.hx rfl (pc0 := 54) (pc' := 61) rfl (W.d dci117_54) rfl (feq hc2).2 (by decide) (by decide) k) ?_
      show Go _ _ _ _ _ _ _ _ _ _ (mkF m 61 #[.val (.int (117 : Int32)), .val (.int x0.toInt8.toInt32), .val (.int (85 : Int32))] [])
      refine Go.step (fun _ k => XS.iconst W.here W.hx rfl (W.d dci117_61) k) ?_
      show Go _ _ _ _ _ _ _ _ _ _ (mkF m 62 #[.val (.int (117 : Int32)), .val (.int x0.toInt8.toInt32), .val (.int (85 : Int32))] [(.int (0 : Int32))])
      exact W.retN (by simp) dci117_62 (⟨Or.inr ⟨rfl, fun q => ((smL_le x0 tx _ (by decide)).mpr q).elim hc1 hc2⟩, rfl⟩) (by decide) (by decide)

theorem dci101_0 : decode jdk_116_method_22_code 0 = .ok (.iload_n 0, 1) := by decide +kernel
theorem dci101_1 : decode jdk_116_method_22_code 1 = .ok (.iload_n 1, 1) := by decide +kernel
theorem dci101_2 : decode jdk_116_method_22_code 2 = .ok (.if_icmp .ne 5, 3) := by decide +kernel
theorem dci101_5 : decode jdk_116_method_22_code 5 = .ok (.iconst 1, 1) := by decide +kernel
theorem dci101_6 : decode jdk_116_method_22_code 6 = .ok (.ireturn, 1) := by decide +kernel
theorem dci101_7 : decode jdk_116_method_22_code 7 = .ok (.iload_n 0, 1) := by decide +kernel
theorem dci101_8 : decode jdk_116_method_22_code 8 = .ok (.sipush 223, 3) := by decide +kernel
theorem dci101_11 : decode jdk_116_method_22_code 11 = .ok (.iand, 1) := by decide +kernel
theorem dci101_12 : decode jdk_116_method_22_code 12 = .ok (.istore_n 2, 1) := by decide +kernel
theorem dci101_13 : decode jdk_116_method_22_code 13 = .ok (.iload_n 2, 1) := by decide +kernel
theorem dci101_14 : decode jdk_116_method_22_code 14 = .ok (.bipush 65, 2) := by decide +kernel
theorem dci101_16 : decode jdk_116_method_22_code 16 = .ok (.if_icmp .ge 5, 3) := by decide +kernel
theorem dci101_21 : decode jdk_116_method_22_code 21 = .ok (.iload_n 2, 1) := by decide +kernel
theorem dci101_22 : decode jdk_116_method_22_code 22 = .ok (.bipush 90, 2) := by decide +kernel
theorem dci101_24 : decode jdk_116_method_22_code 24 = .ok (.if_icmp .le 24, 3) := by decide +kernel
theorem dci101_48 : decode jdk_116_method_22_code 48 = .ok (.iload_n 2, 1) := by decide +kernel
theorem dci101_49 : decode jdk_116_method_22_code 49 = .ok (.iload_n 1, 1) := by decide +kernel
theorem dci101_50 : decode jdk_116_method_22_code 50 = .ok (.sipush 223, 3) := by decide +kernel
theorem dci101_53 : decode jdk_116_method_22_code 53 = .ok (.iand, 1) := by decide +kernel
theorem dci101_54 : decode jdk_116_method_22_code 54 = .ok (.if_icmp .ne 7, 3) := by decide +kernel
theorem dci101_57 : decode jdk_116_method_22_code 57 = .ok (.iconst 1, 1) := by decide +kernel
theorem dci101_58 : decode jdk_116_method_22_code 58 = .ok (.goto 4, 3) := by decide +kernel
theorem dci101_61 : decode jdk_116_method_22_code 61 = .ok (.iconst 0, 1) := by decide +kernel
theorem dci101_62 : decode jdk_116_method_22_code 62 = .ok (.ireturn, 1) := by decide +kernel
theorem efci101 (m : MethodId) (x0 : Int32) (x1 : Int32) : entryFrame m #[(.int x0), (.int x1)] 3 = mkF m 0 #[.val (.int x0), .val (.int x1), .unset] [] := by first | (simp [entryFrame, mkF, argsToLocals, Value.category]; done) | rfl
set_option maxRecDepth 65536 in
set_option maxHeartbeats 40000000 in
theorem c_ci101 {l : Launch} {Z : State} {a0 : Array Value} {G1 : Int32} (X : Ctx Z a0 G1) (x0 : Int32) (h0 : Heap) (hE : Ext Z.heap h0) (tx : Sm x0) :
    Con l Z consts_1 (⟨"java/lang/CharacterDataLatin1", "equalsIgnoreCase", "(BB)Z"⟩ : MethodName) jdk_116_method_22_code 3 (some .boolean) [] ({ frames := 0, cells := 0, slots := 0, locals := 0 } : Room) #[(.int (101 : Int32)), (.int x0.toInt8.toInt32)] h0 (fun v h => ((v = some (.int 1) ∧ SmL x0 101) ∨ (v = some (.int 0) ∧ ¬ SmL x0 101)) ∧ h0 = h) := by
  refine Con.intro (plainFor_of_name pn_4) hE X.el ?_
  intro p e s m below meth c T W
  have hsz := W.size
  refine Go.cast (efci101 m (101 : Int32) x0.toInt8.toInt32) ?_
  refine Go.step (fun _ k => XS.iloadN W.here W.hx rfl (W.d dci101_0) rfl k) ?_
  show Go _ _ _ _ _ _ _ _ _ _ (mkF m 1 #[.val (.int (101 : Int32)), .val (.int x0.toInt8.toInt32), .unset] [(.int (101 : Int32))])
  refine Go.step (fun _ k => XS.iloadN W.here W.hx rfl (W.d dci101_1) rfl k) ?_
  show Go _ _ _ _ _ _ _ _ _ _ (mkF m 2 #[.val (.int (101 : Int32)), .val (.int x0.toInt8.toInt32), .unset] [(.int x0.toInt8.toInt32), (.int (101 : Int32))])
  by_cases hc1 : (101 : Int32) = x0.toInt8.toInt32
  · refine Go.step (fun _ k => XS.icmpNo W.here W.hx rfl (W.d dci101_2) rfl (teq hc1).2 k) ?_
    show Go _ _ _ _ _ _ _ _ _ _ (mkF m 5 #[.val (.int (101 : Int32)), .val (.int x0.toInt8.toInt32), .unset] [])
    refine Go.step (fun _ k => XS.iconst W.here W.hx rfl (W.d dci101_5) k) ?_
    show Go _ _ _ _ _ _ _ _ _ _ (mkF m 6 #[.val (.int (101 : Int32)), .val (.int x0.toInt8.toInt32), .unset] [(.int (1 : Int32))])
    exact W.retN (by simp) dci101_6 (⟨Or.inl ⟨rfl, (smL_le x0 tx _ (by decide)).mp (Or.inl hc1)⟩, rfl⟩) (by decide) (by decide)
  · refine Go.step (fun _ k => XS.icmpYes W.here W.hx rfl (pc0 := 2) (pc' := 7) rfl (W.d dci101_2) rfl (feq hc1).2 (by decide) (by decide) k) ?_
    show Go _ _ _ _ _ _ _ _ _ _ (mkF m 7 #[.val (.int (101 : Int32)), .val (.int x0.toInt8.toInt32), .unset] [])
    refine Go.step (fun _ k => XS.iloadN W.here W.hx rfl (W.d dci101_7) rfl k) ?_
    show Go _ _ _ _ _ _ _ _ _ _ (mkF m 8 #[.val (.int (101 : Int32)), .val (.int x0.toInt8.toInt32), .unset] [(.int (101 : Int32))])
    refine Go.step (fun _ k => XS.sipush W.here W.hx rfl (W.d dci101_8) k) ?_
    show Go _ _ _ _ _ _ _ _ _ _ (mkF m 11 #[.val (.int (101 : Int32)), .val (.int x0.toInt8.toInt32), .unset] [(.int (223 : Int32)), (.int (101 : Int32))])
    refine Go.step (fun _ k => XS.iand W.here W.hx rfl (W.d dci101_11) rfl k) ?_
    show Go _ _ _ _ _ _ _ _ _ _ (mkF m 12 #[.val (.int (101 : Int32)), .val (.int x0.toInt8.toInt32), .unset] [(.int (69 : Int32))])
    refine Go.step (fun _ k => XS.istoreN W.here W.hx rfl (W.d dci101_12) rfl (l' := #[.val (.int (101 : Int32)), .val (.int x0.toInt8.toInt32), .val (.int (69 : Int32))]) rfl k) ?_
    show Go _ _ _ _ _ _ _ _ _ _ (mkF m 13 #[.val (.int (101 : Int32)), .val (.int x0.toInt8.toInt32), .val (.int (69 : Int32))] [])
    refine Go.step (fun _ k => XS.iloadN W.here W.hx rfl (W.d dci101_13) rfl k) ?_
    show Go _ _ _ _ _ _ _ _ _ _ (mkF m 14 #[.val (.int (101 : Int32)), .val (.int x0.toInt8.toInt32), .val (.int (69 : Int32))] [(.int (69 : Int32))])
    refine Go.step (fun _ k => XS.bipush W.here W.hx rfl (W.d dci101_14) k) ?_
    show Go _ _ _ _ _ _ _ _ _ _ (mkF m 16 #[.val (.int (101 : Int32)), .val (.int x0.toInt8.toInt32), .val (.int (69 : Int32))] [(.int (65 : Int32)), (.int (69 : Int32))])
    refine Go.step (fun _ k => XS.icmpYes W.here W.hx rfl (pc0 := 16) (pc' := 21) rfl (W.d dci101_16) rfl (flt (by decide : ¬ ((69 : Int32) < (65 : Int32)))).2.1 (by decide) (by decide) k) ?_
    show Go _ _ _ _ _ _ _ _ _ _ (mkF m 21 #[.val (.int (101 : Int32)), .val (.int x0.toInt8.toInt32), .val (.int (69 : Int32))] [])
    refine Go.step (fun _ k => XS.iloadN W.here W.hx rfl (W.d dci101_21) rfl k) ?_
    show Go _ _ _ _ _ _ _ _ _ _ (mkF m 22 #[.val (.int (101 : Int32)), .val (.int x0.toInt8.toInt32), .val (.int (69 : Int32))] [(.int (69 : Int32))])
    refine Go.step (fun _ k => XS.bipush W.here W.hx rfl (W.d dci101_22) k) ?_
    show Go _ _ _ _ _ _ _ _ _ _ (mkF m 24 #[.val (.int (101 : Int32)), .val (.int x0.toInt8.toInt32), .val (.int (69 : Int32))] [(.int (90 : Int32)), (.int (69 : Int32))])
    refine Go.step (fun _ k => XS.icmpYes W.here W.hx rfl (pc0 := 24) (pc' := 48) rfl (W.d dci101_24) rfl (flt (by decide : ¬ ((90 : Int32) < (69 : Int32)))).2.2.2 (by decide) (by decide) k) ?_
    show Go _ _ _ _ _ _ _ _ _ _ (mkF m 48 #[.val (.int (101 : Int32)), .val (.int x0.toInt8.toInt32), .val (.int (69 : Int32))] [])
    refine Go.step (fun _ k => XS.iloadN W.here W.hx rfl (W.d dci101_48) rfl k) ?_
    show Go _ _ _ _ _ _ _ _ _ _ (mkF m 49 #[.val (.int (101 : Int32)), .val (.int x0.toInt8.toInt32), .val (.int (69 : Int32))] [(.int (69 : Int32))])
    refine Go.step (fun _ k => XS.iloadN W.here W.hx rfl (W.d dci101_49) rfl k) ?_
    show Go _ _ _ _ _ _ _ _ _ _ (mkF m 50 #[.val (.int (101 : Int32)), .val (.int x0.toInt8.toInt32), .val (.int (69 : Int32))] [(.int x0.toInt8.toInt32), (.int (69 : Int32))])
    refine Go.step (fun _ k => XS.sipush W.here W.hx rfl (W.d dci101_50) k) ?_
    show Go _ _ _ _ _ _ _ _ _ _ (mkF m 53 #[.val (.int (101 : Int32)), .val (.int x0.toInt8.toInt32), .val (.int (69 : Int32))] [(.int (223 : Int32)), (.int x0.toInt8.toInt32), (.int (69 : Int32))])
    refine Go.step (fun _ k => XS.iand W.here W.hx rfl (W.d dci101_53) rfl k) ?_
    show Go _ _ _ _ _ _ _ _ _ _ (mkF m 54 #[.val (.int (101 : Int32)), .val (.int x0.toInt8.toInt32), .val (.int (69 : Int32))] [(.int (x0.toInt8.toInt32 &&& (223 : Int32))), (.int (69 : Int32))])
    by_cases hc2 : (69 : Int32) = (x0.toInt8.toInt32 &&& (223 : Int32))
    · refine Go.step (fun _ k => XS.icmpNo W.here W.hx rfl (W.d dci101_54) rfl (teq hc2).2 k) ?_
      show Go _ _ _ _ _ _ _ _ _ _ (mkF m 57 #[.val (.int (101 : Int32)), .val (.int x0.toInt8.toInt32), .val (.int (69 : Int32))] [])
      refine Go.step (fun _ k => XS.iconst W.here W.hx rfl (W.d dci101_57) k) ?_
      show Go _ _ _ _ _ _ _ _ _ _ (mkF m 58 #[.val (.int (101 : Int32)), .val (.int x0.toInt8.toInt32), .val (.int (69 : Int32))] [(.int (1 : Int32))])
      refine Go.step (fun _ k => XS.goto W.here W.hx rfl (pc0 := 58) (pc' := 62) rfl (W.d dci101_58) (by decide) (by decide) k) ?_
      show Go _ _ _ _ _ _ _ _ _ _ (mkF m 62 #[.val (.int (101 : Int32)), .val (.int x0.toInt8.toInt32), .val (.int (69 : Int32))] [(.int (1 : Int32))])
      exact W.retN (by simp) dci101_62 (⟨Or.inl ⟨rfl, (smL_le x0 tx _ (by decide)).mp (Or.inr hc2)⟩, rfl⟩) (by decide) (by decide)
    · refine Go.step (fun _ k => XS.icmpYes W.here W.hx rfl (pc0 := 54) (pc' := 61) rfl (W.d dci101_54) rfl (feq hc2).2 (by decide) (by decide) k) ?_
      show Go _ _ _ _ _ _ _ _ _ _ (mkF m 61 #[.val (.int (101 : Int32)), .val (.int x0.toInt8.toInt32), .val (.int (69 : Int32))] [])
      refine Go.step (fun _ k => XS.iconst W.here W.hx rfl (W.d dci101_61) k) ?_
      show Go _ _ _ _ _ _ _ _ _ _ (mkF m 62 #[.val (.int (101 : Int32)), .val (.int x0.toInt8.toInt32), .val (.int (69 : Int32))] [(.int (0 : Int32))])
      exact W.retN (by simp) dci101_62 (⟨Or.inr ⟨rfl, fun q => ((smL_le x0 tx _ (by decide)).mpr q).elim hc1 hc2⟩, rfl⟩) (by decide) (by decide)

theorem drc_0 : decode jdk_43_method_30_code 0 = .ok (.iload_n 1, 1) := by decide +kernel
theorem drc_1 : decode jdk_43_method_30_code 1 = .ok (.iload 4, 2) := by decide +kernel
theorem drc_3 : decode jdk_43_method_30_code 3 = .ok (.iadd, 1) := by decide +kernel
theorem drc_4 : decode jdk_43_method_30_code 4 = .ok (.istore 5, 2) := by decide +kernel
theorem drc_6 : decode jdk_43_method_30_code 6 = .ok (.iload_n 1, 1) := by decide +kernel
theorem drc_7 : decode jdk_43_method_30_code 7 = .ok (.iload 5, 2) := by decide +kernel
theorem drc_9 : decode jdk_43_method_30_code 9 = .ok (.if_icmp .ge 34, 3) := by decide +kernel
theorem drc_12 : decode jdk_43_method_30_code 12 = .ok (.aload_n 0, 1) := by decide +kernel
theorem drc_13 : decode jdk_43_method_30_code 13 = .ok (.iload_n 1, 1) := by decide +kernel
theorem drc_14 : decode jdk_43_method_30_code 14 = .ok (.iinc 1 1, 3) := by decide +kernel
theorem drc_17 : decode jdk_43_method_30_code 17 = .ok (.baload, 1) := by decide +kernel
theorem drc_18 : decode jdk_43_method_30_code 18 = .ok (.istore 6, 2) := by decide +kernel
theorem drc_20 : decode jdk_43_method_30_code 20 = .ok (.aload_n 2, 1) := by decide +kernel
theorem drc_21 : decode jdk_43_method_30_code 21 = .ok (.iload_n 3, 1) := by decide +kernel
theorem drc_22 : decode jdk_43_method_30_code 22 = .ok (.iinc 3 1, 3) := by decide +kernel
theorem drc_25 : decode jdk_43_method_30_code 25 = .ok (.baload, 1) := by decide +kernel
theorem drc_26 : decode jdk_43_method_30_code 26 = .ok (.istore 7, 2) := by decide +kernel
theorem drc_28 : decode jdk_43_method_30_code 28 = .ok (.iload 6, 2) := by decide +kernel
theorem drc_30 : decode jdk_43_method_30_code 30 = .ok (.iload 7, 2) := by decide +kernel
theorem drc_32 : decode jdk_43_method_30_code 32 = .ok (.invokestatic 153, 3) := by decide +kernel
theorem drc_35 : decode jdk_43_method_30_code 35 = .ok (.ifCond .eq 6, 3) := by decide +kernel
theorem drc_38 : decode jdk_43_method_30_code 38 = .ok (.goto (-32), 3) := by decide +kernel
theorem drc_41 : decode jdk_43_method_30_code 41 = .ok (.iconst 0, 1) := by decide +kernel
theorem drc_42 : decode jdk_43_method_30_code 42 = .ok (.ireturn, 1) := by decide +kernel
theorem drc_43 : decode jdk_43_method_30_code 43 = .ok (.iconst 1, 1) := by decide +kernel
theorem drc_44 : decode jdk_43_method_30_code 44 = .ok (.ireturn, 1) := by decide +kernel
theorem efrc (m : MethodId) (x0 : Addr) (x1 : Int32) (x2 : Addr) (x3 : Int32) (x4 : Int32) : entryFrame m #[(.ref x0), (.int x1), (.ref x2), (.int x3), (.int x4)] 8 = mkF m 0 #[.val (.ref x0), .val (.int x1), .val (.ref x2), .val (.int x3), .val (.int x4), .unset, .unset, .unset] [] := by first | (simp [entryFrame, mkF, argsToLocals, Value.category]; done) | rfl
set_option maxRecDepth 65536 in
set_option maxHeartbeats 40000000 in
theorem c_rc {l : Launch} {Z : State} {a0 : Array Value} {G1 : Int32} (X : Ctx Z a0 G1) (a b : Addr) (ka kb : ClassId) (x0 x1 x2 x3 : Int32) (h0 : Heap) (hE : Ext Z.heap h0) (V1 : Arv Z h0 a ka .byte (4 : Int32) [(.int (116 : Int32)), (.int (114 : Int32)), (.int (117 : Int32)), (.int (101 : Int32))] (.int (0 : Int32))) (V2 : Arv Z h0 b kb .byte (4 : Int32) [(.int x0.toInt8.toInt32), (.int x1.toInt8.toInt32), (.int x2.toInt8.toInt32), (.int x3.toInt8.toInt32)] (.int (0 : Int32))) (tx0 : Sm x0) (tx1 : Sm x1) (tx2 : Sm x2) (tx3 : Sm x3) :
    Con l Z consts_1 (⟨"java/lang/StringLatin1", "regionMatchesCI", "([BI[BII)Z"⟩ : MethodName) jdk_43_method_30_code 8 (some .boolean) [] ({ frames := 1, cells := 0, slots := 0, locals := 14 } : Room) #[(.ref a), (.int (0 : Int32)), (.ref b), (.int (0 : Int32)), (.int (4 : Int32))] h0 (fun v h => ((v = some (.int 1) ∧ IsTrue [x0, x1, x2, x3]) ∨ (v = some (.int 0) ∧ ¬ IsTrue [x0, x1, x2, x3])) ∧ h0 = h) := by
  refine Con.intro (plainFor_of_name pn_5) hE X.el ?_
  intro p e s m below meth c T W
  have hsz := W.size
  refine Go.cast (efrc m a (0 : Int32) b (0 : Int32) (4 : Int32)) ?_
  refine Go.step (fun _ k => XS.iloadN W.here W.hx rfl (W.d drc_0) rfl k) ?_
  show Go _ _ _ _ _ _ _ _ _ _ (mkF m 1 #[.val (.ref a), .val (.int (0 : Int32)), .val (.ref b), .val (.int (0 : Int32)), .val (.int (4 : Int32)), .unset, .unset, .unset] [(.int (0 : Int32))])
  refine Go.step (fun _ k => XS.iload W.here W.hx rfl (W.d drc_1) rfl k) ?_
  show Go _ _ _ _ _ _ _ _ _ _ (mkF m 3 #[.val (.ref a), .val (.int (0 : Int32)), .val (.ref b), .val (.int (0 : Int32)), .val (.int (4 : Int32)), .unset, .unset, .unset] [(.int (4 : Int32)), (.int (0 : Int32))])
  refine Go.step (fun _ k => XS.iadd W.here W.hx rfl (W.d drc_3) rfl k) ?_
  show Go _ _ _ _ _ _ _ _ _ _ (mkF m 4 #[.val (.ref a), .val (.int (0 : Int32)), .val (.ref b), .val (.int (0 : Int32)), .val (.int (4 : Int32)), .unset, .unset, .unset] [(.int (4 : Int32))])
  refine Go.step (fun _ k => XS.istore W.here W.hx rfl (W.d drc_4) rfl (l' := #[.val (.ref a), .val (.int (0 : Int32)), .val (.ref b), .val (.int (0 : Int32)), .val (.int (4 : Int32)), .val (.int (4 : Int32)), .unset, .unset]) rfl k) ?_
  show Go _ _ _ _ _ _ _ _ _ _ (mkF m 6 #[.val (.ref a), .val (.int (0 : Int32)), .val (.ref b), .val (.int (0 : Int32)), .val (.int (4 : Int32)), .val (.int (4 : Int32)), .unset, .unset] [])
  refine Go.step (fun _ k => XS.iloadN W.here W.hx rfl (W.d drc_6) rfl k) ?_
  show Go _ _ _ _ _ _ _ _ _ _ (mkF m 7 #[.val (.ref a), .val (.int (0 : Int32)), .val (.ref b), .val (.int (0 : Int32)), .val (.int (4 : Int32)), .val (.int (4 : Int32)), .unset, .unset] [(.int (0 : Int32))])
  refine Go.step (fun _ k => XS.iload W.here W.hx rfl (W.d drc_7) rfl k) ?_
  show Go _ _ _ _ _ _ _ _ _ _ (mkF m 9 #[.val (.ref a), .val (.int (0 : Int32)), .val (.ref b), .val (.int (0 : Int32)), .val (.int (4 : Int32)), .val (.int (4 : Int32)), .unset, .unset] [(.int (4 : Int32)), (.int (0 : Int32))])
  refine Go.step (fun _ k => XS.icmpNo W.here W.hx rfl (W.d drc_9) rfl (tlt (by decide : (0 : Int32) < (4 : Int32))).2.1 k) ?_
  show Go _ _ _ _ _ _ _ _ _ _ (mkF m 12 #[.val (.ref a), .val (.int (0 : Int32)), .val (.ref b), .val (.int (0 : Int32)), .val (.int (4 : Int32)), .val (.int (4 : Int32)), .unset, .unset] [])
  refine Go.step (fun _ k => XS.aloadN W.here W.hx rfl (W.d drc_12) rfl rfl k) ?_
  show Go _ _ _ _ _ _ _ _ _ _ (mkF m 13 #[.val (.ref a), .val (.int (0 : Int32)), .val (.ref b), .val (.int (0 : Int32)), .val (.int (4 : Int32)), .val (.int (4 : Int32)), .unset, .unset] [(.ref a)])
  refine Go.step (fun _ k => XS.iloadN W.here W.hx rfl (W.d drc_13) rfl k) ?_
  show Go _ _ _ _ _ _ _ _ _ _ (mkF m 14 #[.val (.ref a), .val (.int (0 : Int32)), .val (.ref b), .val (.int (0 : Int32)), .val (.int (4 : Int32)), .val (.int (4 : Int32)), .unset, .unset] [(.int (0 : Int32)), (.ref a)])
  refine Go.step (fun _ k => XS.iinc W.here W.hx rfl (W.d drc_14) rfl (l' := #[.val (.ref a), .val (.int (1 : Int32)), .val (.ref b), .val (.int (0 : Int32)), .val (.int (4 : Int32)), .val (.int (4 : Int32)), .unset, .unset]) rfl k) ?_
  show Go _ _ _ _ _ _ _ _ _ _ (mkF m 17 #[.val (.ref a), .val (.int (1 : Int32)), .val (.ref b), .val (.int (0 : Int32)), .val (.int (4 : Int32)), .val (.int (4 : Int32)), .unset, .unset] [(.int (0 : Int32)), (.ref a)])
  refine W.baload V1 (by decide) rfl drc_17 ?_
  show Go _ _ _ _ _ _ _ _ _ _ (mkF m 18 #[.val (.ref a), .val (.int (1 : Int32)), .val (.ref b), .val (.int (0 : Int32)), .val (.int (4 : Int32)), .val (.int (4 : Int32)), .unset, .unset] [(.int (116 : Int32))])
  refine Go.step (fun _ k => XS.istore W.here W.hx rfl (W.d drc_18) rfl (l' := #[.val (.ref a), .val (.int (1 : Int32)), .val (.ref b), .val (.int (0 : Int32)), .val (.int (4 : Int32)), .val (.int (4 : Int32)), .val (.int (116 : Int32)), .unset]) rfl k) ?_
  show Go _ _ _ _ _ _ _ _ _ _ (mkF m 20 #[.val (.ref a), .val (.int (1 : Int32)), .val (.ref b), .val (.int (0 : Int32)), .val (.int (4 : Int32)), .val (.int (4 : Int32)), .val (.int (116 : Int32)), .unset] [])
  refine Go.step (fun _ k => XS.aloadN W.here W.hx rfl (W.d drc_20) rfl rfl k) ?_
  show Go _ _ _ _ _ _ _ _ _ _ (mkF m 21 #[.val (.ref a), .val (.int (1 : Int32)), .val (.ref b), .val (.int (0 : Int32)), .val (.int (4 : Int32)), .val (.int (4 : Int32)), .val (.int (116 : Int32)), .unset] [(.ref b)])
  refine Go.step (fun _ k => XS.iloadN W.here W.hx rfl (W.d drc_21) rfl k) ?_
  show Go _ _ _ _ _ _ _ _ _ _ (mkF m 22 #[.val (.ref a), .val (.int (1 : Int32)), .val (.ref b), .val (.int (0 : Int32)), .val (.int (4 : Int32)), .val (.int (4 : Int32)), .val (.int (116 : Int32)), .unset] [(.int (0 : Int32)), (.ref b)])
  refine Go.step (fun _ k => XS.iinc W.here W.hx rfl (W.d drc_22) rfl (l' := #[.val (.ref a), .val (.int (1 : Int32)), .val (.ref b), .val (.int (1 : Int32)), .val (.int (4 : Int32)), .val (.int (4 : Int32)), .val (.int (116 : Int32)), .unset]) rfl k) ?_
  show Go _ _ _ _ _ _ _ _ _ _ (mkF m 25 #[.val (.ref a), .val (.int (1 : Int32)), .val (.ref b), .val (.int (1 : Int32)), .val (.int (4 : Int32)), .val (.int (4 : Int32)), .val (.int (116 : Int32)), .unset] [(.int (0 : Int32)), (.ref b)])
  refine W.baload V2 (by decide) rfl drc_25 ?_
  show Go _ _ _ _ _ _ _ _ _ _ (mkF m 26 #[.val (.ref a), .val (.int (1 : Int32)), .val (.ref b), .val (.int (1 : Int32)), .val (.int (4 : Int32)), .val (.int (4 : Int32)), .val (.int (116 : Int32)), .unset] [(.int x0.toInt8.toInt32)])
  refine Go.step (fun _ k => XS.istore W.here W.hx rfl (W.d drc_26) rfl (l' := #[.val (.ref a), .val (.int (1 : Int32)), .val (.ref b), .val (.int (1 : Int32)), .val (.int (4 : Int32)), .val (.int (4 : Int32)), .val (.int (116 : Int32)), .val (.int x0.toInt8.toInt32)]) rfl k) ?_
  show Go _ _ _ _ _ _ _ _ _ _ (mkF m 28 #[.val (.ref a), .val (.int (1 : Int32)), .val (.ref b), .val (.int (1 : Int32)), .val (.int (4 : Int32)), .val (.int (4 : Int32)), .val (.int (116 : Int32)), .val (.int x0.toInt8.toInt32)] [])
  refine Go.step (fun _ k => XS.iload W.here W.hx rfl (W.d drc_28) rfl k) ?_
  show Go _ _ _ _ _ _ _ _ _ _ (mkF m 30 #[.val (.ref a), .val (.int (1 : Int32)), .val (.ref b), .val (.int (1 : Int32)), .val (.int (4 : Int32)), .val (.int (4 : Int32)), .val (.int (116 : Int32)), .val (.int x0.toInt8.toInt32)] [(.int (116 : Int32))])
  refine Go.step (fun _ k => XS.iload W.here W.hx rfl (W.d drc_30) rfl k) ?_
  show Go _ _ _ _ _ _ _ _ _ _ (mkF m 32 #[.val (.ref a), .val (.int (1 : Int32)), .val (.ref b), .val (.int (1 : Int32)), .val (.int (4 : Int32)), .val (.int (4 : Int32)), .val (.int (116 : Int32)), .val (.int x0.toInt8.toInt32)] [(.int x0.toInt8.toInt32), (.int (116 : Int32))])
  refine W.callS (X.w 94 rfl) (X.w 95 rfl) (X.w 96 rfl) (X.w 97 rfl) (by decide) (c_ci116 X x0 _ W.ext tx0) (by decide) (Wd := 0) (by decide) [(.int (116 : Int32)), (.int x0.toInt8.toInt32)] [] rfl pd_3 rfl rfl rfl (Nat.le_of_eq rfl) drc_32 (by decide) (by decide) ?_
  intro v T h vm W hQ C
  obtain ⟨hq1, rfl⟩ := hQ
  rcases hq1 with ⟨rfl, hq1⟩ | ⟨rfl, hq1⟩
  · show Go _ _ _ _ _ _ _ _ _ _ (mkF m 35 #[.val (.ref a), .val (.int (1 : Int32)), .val (.ref b), .val (.int (1 : Int32)), .val (.int (4 : Int32)), .val (.int (4 : Int32)), .val (.int (116 : Int32)), .val (.int x0.toInt8.toInt32)] [(.int (1 : Int32))])
    refine Go.step (fun _ k => XS.ifNo W.here W.hx rfl (W.d drc_35) rfl ((if0 _ _).trans (feq (by decide : ¬ ((1 : Int32) = (0 : Int32)))).1) k) ?_
    show Go _ _ _ _ _ _ _ _ _ _ (mkF m 38 #[.val (.ref a), .val (.int (1 : Int32)), .val (.ref b), .val (.int (1 : Int32)), .val (.int (4 : Int32)), .val (.int (4 : Int32)), .val (.int (116 : Int32)), .val (.int x0.toInt8.toInt32)] [])
    refine Go.step (fun _ k => XS.goto W.here W.hx rfl (pc0 := 38) (pc' := 6) rfl (W.d drc_38) (by decide) (by decide) k) ?_
    show Go _ _ _ _ _ _ _ _ _ _ (mkF m 6 #[.val (.ref a), .val (.int (1 : Int32)), .val (.ref b), .val (.int (1 : Int32)), .val (.int (4 : Int32)), .val (.int (4 : Int32)), .val (.int (116 : Int32)), .val (.int x0.toInt8.toInt32)] [])
    refine Go.step (fun _ k => XS.iloadN W.here W.hx rfl (W.d drc_6) rfl k) ?_
    show Go _ _ _ _ _ _ _ _ _ _ (mkF m 7 #[.val (.ref a), .val (.int (1 : Int32)), .val (.ref b), .val (.int (1 : Int32)), .val (.int (4 : Int32)), .val (.int (4 : Int32)), .val (.int (116 : Int32)), .val (.int x0.toInt8.toInt32)] [(.int (1 : Int32))])
    refine Go.step (fun _ k => XS.iload W.here W.hx rfl (W.d drc_7) rfl k) ?_
    show Go _ _ _ _ _ _ _ _ _ _ (mkF m 9 #[.val (.ref a), .val (.int (1 : Int32)), .val (.ref b), .val (.int (1 : Int32)), .val (.int (4 : Int32)), .val (.int (4 : Int32)), .val (.int (116 : Int32)), .val (.int x0.toInt8.toInt32)] [(.int (4 : Int32)), (.int (1 : Int32))])
    refine Go.step (fun _ k => XS.icmpNo W.here W.hx rfl (W.d drc_9) rfl (tlt (by decide : (1 : Int32) < (4 : Int32))).2.1 k) ?_
    show Go _ _ _ _ _ _ _ _ _ _ (mkF m 12 #[.val (.ref a), .val (.int (1 : Int32)), .val (.ref b), .val (.int (1 : Int32)), .val (.int (4 : Int32)), .val (.int (4 : Int32)), .val (.int (116 : Int32)), .val (.int x0.toInt8.toInt32)] [])
    refine Go.step (fun _ k => XS.aloadN W.here W.hx rfl (W.d drc_12) rfl rfl k) ?_
    show Go _ _ _ _ _ _ _ _ _ _ (mkF m 13 #[.val (.ref a), .val (.int (1 : Int32)), .val (.ref b), .val (.int (1 : Int32)), .val (.int (4 : Int32)), .val (.int (4 : Int32)), .val (.int (116 : Int32)), .val (.int x0.toInt8.toInt32)] [(.ref a)])
    refine Go.step (fun _ k => XS.iloadN W.here W.hx rfl (W.d drc_13) rfl k) ?_
    show Go _ _ _ _ _ _ _ _ _ _ (mkF m 14 #[.val (.ref a), .val (.int (1 : Int32)), .val (.ref b), .val (.int (1 : Int32)), .val (.int (4 : Int32)), .val (.int (4 : Int32)), .val (.int (116 : Int32)), .val (.int x0.toInt8.toInt32)] [(.int (1 : Int32)), (.ref a)])
    refine Go.step (fun _ k => XS.iinc W.here W.hx rfl (W.d drc_14) rfl (l' := #[.val (.ref a), .val (.int (2 : Int32)), .val (.ref b), .val (.int (1 : Int32)), .val (.int (4 : Int32)), .val (.int (4 : Int32)), .val (.int (116 : Int32)), .val (.int x0.toInt8.toInt32)]) rfl k) ?_
    show Go _ _ _ _ _ _ _ _ _ _ (mkF m 17 #[.val (.ref a), .val (.int (2 : Int32)), .val (.ref b), .val (.int (1 : Int32)), .val (.int (4 : Int32)), .val (.int (4 : Int32)), .val (.int (116 : Int32)), .val (.int x0.toInt8.toInt32)] [(.int (1 : Int32)), (.ref a)])
    refine W.baload V1 (by decide) rfl drc_17 ?_
    show Go _ _ _ _ _ _ _ _ _ _ (mkF m 18 #[.val (.ref a), .val (.int (2 : Int32)), .val (.ref b), .val (.int (1 : Int32)), .val (.int (4 : Int32)), .val (.int (4 : Int32)), .val (.int (116 : Int32)), .val (.int x0.toInt8.toInt32)] [(.int (114 : Int32))])
    refine Go.step (fun _ k => XS.istore W.here W.hx rfl (W.d drc_18) rfl (l' := #[.val (.ref a), .val (.int (2 : Int32)), .val (.ref b), .val (.int (1 : Int32)), .val (.int (4 : Int32)), .val (.int (4 : Int32)), .val (.int (114 : Int32)), .val (.int x0.toInt8.toInt32)]) rfl k) ?_
    show Go _ _ _ _ _ _ _ _ _ _ (mkF m 20 #[.val (.ref a), .val (.int (2 : Int32)), .val (.ref b), .val (.int (1 : Int32)), .val (.int (4 : Int32)), .val (.int (4 : Int32)), .val (.int (114 : Int32)), .val (.int x0.toInt8.toInt32)] [])
    refine Go.step (fun _ k => XS.aloadN W.here W.hx rfl (W.d drc_20) rfl rfl k) ?_
    show Go _ _ _ _ _ _ _ _ _ _ (mkF m 21 #[.val (.ref a), .val (.int (2 : Int32)), .val (.ref b), .val (.int (1 : Int32)), .val (.int (4 : Int32)), .val (.int (4 : Int32)), .val (.int (114 : Int32)), .val (.int x0.toInt8.toInt32)] [(.ref b)])
    refine Go.step (fun _ k => XS.iloadN W.here W.hx rfl (W.d drc_21) rfl k) ?_
    show Go _ _ _ _ _ _ _ _ _ _ (mkF m 22 #[.val (.ref a), .val (.int (2 : Int32)), .val (.ref b), .val (.int (1 : Int32)), .val (.int (4 : Int32)), .val (.int (4 : Int32)), .val (.int (114 : Int32)), .val (.int x0.toInt8.toInt32)] [(.int (1 : Int32)), (.ref b)])
    refine Go.step (fun _ k => XS.iinc W.here W.hx rfl (W.d drc_22) rfl (l' := #[.val (.ref a), .val (.int (2 : Int32)), .val (.ref b), .val (.int (2 : Int32)), .val (.int (4 : Int32)), .val (.int (4 : Int32)), .val (.int (114 : Int32)), .val (.int x0.toInt8.toInt32)]) rfl k) ?_
    show Go _ _ _ _ _ _ _ _ _ _ (mkF m 25 #[.val (.ref a), .val (.int (2 : Int32)), .val (.ref b), .val (.int (2 : Int32)), .val (.int (4 : Int32)), .val (.int (4 : Int32)), .val (.int (114 : Int32)), .val (.int x0.toInt8.toInt32)] [(.int (1 : Int32)), (.ref b)])
    refine W.baload V2 (by decide) rfl drc_25 ?_
    show Go _ _ _ _ _ _ _ _ _ _ (mkF m 26 #[.val (.ref a), .val (.int (2 : Int32)), .val (.ref b), .val (.int (2 : Int32)), .val (.int (4 : Int32)), .val (.int (4 : Int32)), .val (.int (114 : Int32)), .val (.int x0.toInt8.toInt32)] [(.int x1.toInt8.toInt32)])
    refine Go.step (fun _ k => XS.istore W.here W.hx rfl (W.d drc_26) rfl (l' := #[.val (.ref a), .val (.int (2 : Int32)), .val (.ref b), .val (.int (2 : Int32)), .val (.int (4 : Int32)), .val (.int (4 : Int32)), .val (.int (114 : Int32)), .val (.int x1.toInt8.toInt32)]) rfl k) ?_
    show Go _ _ _ _ _ _ _ _ _ _ (mkF m 28 #[.val (.ref a), .val (.int (2 : Int32)), .val (.ref b), .val (.int (2 : Int32)), .val (.int (4 : Int32)), .val (.int (4 : Int32)), .val (.int (114 : Int32)), .val (.int x1.toInt8.toInt32)] [])
    refine Go.step (fun _ k => XS.iload W.here W.hx rfl (W.d drc_28) rfl k) ?_
    show Go _ _ _ _ _ _ _ _ _ _ (mkF m 30 #[.val (.ref a), .val (.int (2 : Int32)), .val (.ref b), .val (.int (2 : Int32)), .val (.int (4 : Int32)), .val (.int (4 : Int32)), .val (.int (114 : Int32)), .val (.int x1.toInt8.toInt32)] [(.int (114 : Int32))])
    refine Go.step (fun _ k => XS.iload W.here W.hx rfl (W.d drc_30) rfl k) ?_
    show Go _ _ _ _ _ _ _ _ _ _ (mkF m 32 #[.val (.ref a), .val (.int (2 : Int32)), .val (.ref b), .val (.int (2 : Int32)), .val (.int (4 : Int32)), .val (.int (4 : Int32)), .val (.int (114 : Int32)), .val (.int x1.toInt8.toInt32)] [(.int x1.toInt8.toInt32), (.int (114 : Int32))])
    refine W.callS (X.w 94 rfl) (X.w 95 rfl) (X.w 96 rfl) (X.w 97 rfl) (by decide) (c_ci114 X x1 _ W.ext tx1) (by decide) (Wd := 0) (by decide) [(.int (114 : Int32)), (.int x1.toInt8.toInt32)] [] rfl pd_3 rfl rfl rfl (Nat.le_of_eq rfl) drc_32 (by decide) (by decide) ?_
    intro v T h vm W hQ C
    obtain ⟨hq2, rfl⟩ := hQ
    rcases hq2 with ⟨rfl, hq2⟩ | ⟨rfl, hq2⟩
    · show Go _ _ _ _ _ _ _ _ _ _ (mkF m 35 #[.val (.ref a), .val (.int (2 : Int32)), .val (.ref b), .val (.int (2 : Int32)), .val (.int (4 : Int32)), .val (.int (4 : Int32)), .val (.int (114 : Int32)), .val (.int x1.toInt8.toInt32)] [(.int (1 : Int32))])
      refine Go.step (fun _ k => XS.ifNo W.here W.hx rfl (W.d drc_35) rfl ((if0 _ _).trans (feq (by decide : ¬ ((1 : Int32) = (0 : Int32)))).1) k) ?_
      show Go _ _ _ _ _ _ _ _ _ _ (mkF m 38 #[.val (.ref a), .val (.int (2 : Int32)), .val (.ref b), .val (.int (2 : Int32)), .val (.int (4 : Int32)), .val (.int (4 : Int32)), .val (.int (114 : Int32)), .val (.int x1.toInt8.toInt32)] [])
      refine Go.step (fun _ k => XS.goto W.here W.hx rfl (pc0 := 38) (pc' := 6) rfl (W.d drc_38) (by decide) (by decide) k) ?_
      show Go _ _ _ _ _ _ _ _ _ _ (mkF m 6 #[.val (.ref a), .val (.int (2 : Int32)), .val (.ref b), .val (.int (2 : Int32)), .val (.int (4 : Int32)), .val (.int (4 : Int32)), .val (.int (114 : Int32)), .val (.int x1.toInt8.toInt32)] [])
      refine Go.step (fun _ k => XS.iloadN W.here W.hx rfl (W.d drc_6) rfl k) ?_
      show Go _ _ _ _ _ _ _ _ _ _ (mkF m 7 #[.val (.ref a), .val (.int (2 : Int32)), .val (.ref b), .val (.int (2 : Int32)), .val (.int (4 : Int32)), .val (.int (4 : Int32)), .val (.int (114 : Int32)), .val (.int x1.toInt8.toInt32)] [(.int (2 : Int32))])
      refine Go.step (fun _ k => XS.iload W.here W.hx rfl (W.d drc_7) rfl k) ?_
      show Go _ _ _ _ _ _ _ _ _ _ (mkF m 9 #[.val (.ref a), .val (.int (2 : Int32)), .val (.ref b), .val (.int (2 : Int32)), .val (.int (4 : Int32)), .val (.int (4 : Int32)), .val (.int (114 : Int32)), .val (.int x1.toInt8.toInt32)] [(.int (4 : Int32)), (.int (2 : Int32))])
      refine Go.step (fun _ k => XS.icmpNo W.here W.hx rfl (W.d drc_9) rfl (tlt (by decide : (2 : Int32) < (4 : Int32))).2.1 k) ?_
      show Go _ _ _ _ _ _ _ _ _ _ (mkF m 12 #[.val (.ref a), .val (.int (2 : Int32)), .val (.ref b), .val (.int (2 : Int32)), .val (.int (4 : Int32)), .val (.int (4 : Int32)), .val (.int (114 : Int32)), .val (.int x1.toInt8.toInt32)] [])
      refine Go.step (fun _ k => XS.aloadN W.here W.hx rfl (W.d drc_12) rfl rfl k) ?_
      show Go _ _ _ _ _ _ _ _ _ _ (mkF m 13 #[.val (.ref a), .val (.int (2 : Int32)), .val (.ref b), .val (.int (2 : Int32)), .val (.int (4 : Int32)), .val (.int (4 : Int32)), .val (.int (114 : Int32)), .val (.int x1.toInt8.toInt32)] [(.ref a)])
      refine Go.step (fun _ k => XS.iloadN W.here W.hx rfl (W.d drc_13) rfl k) ?_
      show Go _ _ _ _ _ _ _ _ _ _ (mkF m 14 #[.val (.ref a), .val (.int (2 : Int32)), .val (.ref b), .val (.int (2 : Int32)), .val (.int (4 : Int32)), .val (.int (4 : Int32)), .val (.int (114 : Int32)), .val (.int x1.toInt8.toInt32)] [(.int (2 : Int32)), (.ref a)])
      refine Go.step (fun _ k => XS.iinc W.here W.hx rfl (W.d drc_14) rfl (l' := #[.val (.ref a), .val (.int (3 : Int32)), .val (.ref b), .val (.int (2 : Int32)), .val (.int (4 : Int32)), .val (.int (4 : Int32)), .val (.int (114 : Int32)), .val (.int x1.toInt8.toInt32)]) rfl k) ?_
      show Go _ _ _ _ _ _ _ _ _ _ (mkF m 17 #[.val (.ref a), .val (.int (3 : Int32)), .val (.ref b), .val (.int (2 : Int32)), .val (.int (4 : Int32)), .val (.int (4 : Int32)), .val (.int (114 : Int32)), .val (.int x1.toInt8.toInt32)] [(.int (2 : Int32)), (.ref a)])
      refine W.baload V1 (by decide) rfl drc_17 ?_
      show Go _ _ _ _ _ _ _ _ _ _ (mkF m 18 #[.val (.ref a), .val (.int (3 : Int32)), .val (.ref b), .val (.int (2 : Int32)), .val (.int (4 : Int32)), .val (.int (4 : Int32)), .val (.int (114 : Int32)), .val (.int x1.toInt8.toInt32)] [(.int (117 : Int32))])
      refine Go.step (fun _ k => XS.istore W.here W.hx rfl (W.d drc_18) rfl (l' := #[.val (.ref a), .val (.int (3 : Int32)), .val (.ref b), .val (.int (2 : Int32)), .val (.int (4 : Int32)), .val (.int (4 : Int32)), .val (.int (117 : Int32)), .val (.int x1.toInt8.toInt32)]) rfl k) ?_
      show Go _ _ _ _ _ _ _ _ _ _ (mkF m 20 #[.val (.ref a), .val (.int (3 : Int32)), .val (.ref b), .val (.int (2 : Int32)), .val (.int (4 : Int32)), .val (.int (4 : Int32)), .val (.int (117 : Int32)), .val (.int x1.toInt8.toInt32)] [])
      refine Go.step (fun _ k => XS.aloadN W.here W.hx rfl (W.d drc_20) rfl rfl k) ?_
      show Go _ _ _ _ _ _ _ _ _ _ (mkF m 21 #[.val (.ref a), .val (.int (3 : Int32)), .val (.ref b), .val (.int (2 : Int32)), .val (.int (4 : Int32)), .val (.int (4 : Int32)), .val (.int (117 : Int32)), .val (.int x1.toInt8.toInt32)] [(.ref b)])
      refine Go.step (fun _ k => XS.iloadN W.here W.hx rfl (W.d drc_21) rfl k) ?_
      show Go _ _ _ _ _ _ _ _ _ _ (mkF m 22 #[.val (.ref a), .val (.int (3 : Int32)), .val (.ref b), .val (.int (2 : Int32)), .val (.int (4 : Int32)), .val (.int (4 : Int32)), .val (.int (117 : Int32)), .val (.int x1.toInt8.toInt32)] [(.int (2 : Int32)), (.ref b)])
      refine Go.step (fun _ k => XS.iinc W.here W.hx rfl (W.d drc_22) rfl (l' := #[.val (.ref a), .val (.int (3 : Int32)), .val (.ref b), .val (.int (3 : Int32)), .val (.int (4 : Int32)), .val (.int (4 : Int32)), .val (.int (117 : Int32)), .val (.int x1.toInt8.toInt32)]) rfl k) ?_
      show Go _ _ _ _ _ _ _ _ _ _ (mkF m 25 #[.val (.ref a), .val (.int (3 : Int32)), .val (.ref b), .val (.int (3 : Int32)), .val (.int (4 : Int32)), .val (.int (4 : Int32)), .val (.int (117 : Int32)), .val (.int x1.toInt8.toInt32)] [(.int (2 : Int32)), (.ref b)])
      refine W.baload V2 (by decide) rfl drc_25 ?_
      show Go _ _ _ _ _ _ _ _ _ _ (mkF m 26 #[.val (.ref a), .val (.int (3 : Int32)), .val (.ref b), .val (.int (3 : Int32)), .val (.int (4 : Int32)), .val (.int (4 : Int32)), .val (.int (117 : Int32)), .val (.int x1.toInt8.toInt32)] [(.int x2.toInt8.toInt32)])
      refine Go.step (fun _ k => XS.istore W.here W.hx rfl (W.d drc_26) rfl (l' := #[.val (.ref a), .val (.int (3 : Int32)), .val (.ref b), .val (.int (3 : Int32)), .val (.int (4 : Int32)), .val (.int (4 : Int32)), .val (.int (117 : Int32)), .val (.int x2.toInt8.toInt32)]) rfl k) ?_
      show Go _ _ _ _ _ _ _ _ _ _ (mkF m 28 #[.val (.ref a), .val (.int (3 : Int32)), .val (.ref b), .val (.int (3 : Int32)), .val (.int (4 : Int32)), .val (.int (4 : Int32)), .val (.int (117 : Int32)), .val (.int x2.toInt8.toInt32)] [])
      refine Go.step (fun _ k => XS.iload W.here W.hx rfl (W.d drc_28) rfl k) ?_
      show Go _ _ _ _ _ _ _ _ _ _ (mkF m 30 #[.val (.ref a), .val (.int (3 : Int32)), .val (.ref b), .val (.int (3 : Int32)), .val (.int (4 : Int32)), .val (.int (4 : Int32)), .val (.int (117 : Int32)), .val (.int x2.toInt8.toInt32)] [(.int (117 : Int32))])
      refine Go.step (fun _ k => XS.iload W.here W.hx rfl (W.d drc_30) rfl k) ?_
      show Go _ _ _ _ _ _ _ _ _ _ (mkF m 32 #[.val (.ref a), .val (.int (3 : Int32)), .val (.ref b), .val (.int (3 : Int32)), .val (.int (4 : Int32)), .val (.int (4 : Int32)), .val (.int (117 : Int32)), .val (.int x2.toInt8.toInt32)] [(.int x2.toInt8.toInt32), (.int (117 : Int32))])
      refine W.callS (X.w 94 rfl) (X.w 95 rfl) (X.w 96 rfl) (X.w 97 rfl) (by decide) (c_ci117 X x2 _ W.ext tx2) (by decide) (Wd := 0) (by decide) [(.int (117 : Int32)), (.int x2.toInt8.toInt32)] [] rfl pd_3 rfl rfl rfl (Nat.le_of_eq rfl) drc_32 (by decide) (by decide) ?_
      intro v T h vm W hQ C
      obtain ⟨hq3, rfl⟩ := hQ
      rcases hq3 with ⟨rfl, hq3⟩ | ⟨rfl, hq3⟩
      · show Go _ _ _ _ _ _ _ _ _ _ (mkF m 35 #[.val (.ref a), .val (.int (3 : Int32)), .val (.ref b), .val (.int (3 : Int32)), .val (.int (4 : Int32)), .val (.int (4 : Int32)), .val (.int (117 : Int32)), .val (.int x2.toInt8.toInt32)] [(.int (1 : Int32))])
        refine Go.step (fun _ k => XS.ifNo W.here W.hx rfl (W.d drc_35) rfl ((if0 _ _).trans (feq (by decide : ¬ ((1 : Int32) = (0 : Int32)))).1) k) ?_
        show Go _ _ _ _ _ _ _ _ _ _ (mkF m 38 #[.val (.ref a), .val (.int (3 : Int32)), .val (.ref b), .val (.int (3 : Int32)), .val (.int (4 : Int32)), .val (.int (4 : Int32)), .val (.int (117 : Int32)), .val (.int x2.toInt8.toInt32)] [])
        refine Go.step (fun _ k => XS.goto W.here W.hx rfl (pc0 := 38) (pc' := 6) rfl (W.d drc_38) (by decide) (by decide) k) ?_
        show Go _ _ _ _ _ _ _ _ _ _ (mkF m 6 #[.val (.ref a), .val (.int (3 : Int32)), .val (.ref b), .val (.int (3 : Int32)), .val (.int (4 : Int32)), .val (.int (4 : Int32)), .val (.int (117 : Int32)), .val (.int x2.toInt8.toInt32)] [])
        refine Go.step (fun _ k => XS.iloadN W.here W.hx rfl (W.d drc_6) rfl k) ?_
        show Go _ _ _ _ _ _ _ _ _ _ (mkF m 7 #[.val (.ref a), .val (.int (3 : Int32)), .val (.ref b), .val (.int (3 : Int32)), .val (.int (4 : Int32)), .val (.int (4 : Int32)), .val (.int (117 : Int32)), .val (.int x2.toInt8.toInt32)] [(.int (3 : Int32))])
        refine Go.step (fun _ k => XS.iload W.here W.hx rfl (W.d drc_7) rfl k) ?_
        show Go _ _ _ _ _ _ _ _ _ _ (mkF m 9 #[.val (.ref a), .val (.int (3 : Int32)), .val (.ref b), .val (.int (3 : Int32)), .val (.int (4 : Int32)), .val (.int (4 : Int32)), .val (.int (117 : Int32)), .val (.int x2.toInt8.toInt32)] [(.int (4 : Int32)), (.int (3 : Int32))])
        refine Go.step (fun _ k => XS.icmpNo W.here W.hx rfl (W.d drc_9) rfl (tlt (by decide : (3 : Int32) < (4 : Int32))).2.1 k) ?_
        show Go _ _ _ _ _ _ _ _ _ _ (mkF m 12 #[.val (.ref a), .val (.int (3 : Int32)), .val (.ref b), .val (.int (3 : Int32)), .val (.int (4 : Int32)), .val (.int (4 : Int32)), .val (.int (117 : Int32)), .val (.int x2.toInt8.toInt32)] [])
        refine Go.step (fun _ k => XS.aloadN W.here W.hx rfl (W.d drc_12) rfl rfl k) ?_
        show Go _ _ _ _ _ _ _ _ _ _ (mkF m 13 #[.val (.ref a), .val (.int (3 : Int32)), .val (.ref b), .val (.int (3 : Int32)), .val (.int (4 : Int32)), .val (.int (4 : Int32)), .val (.int (117 : Int32)), .val (.int x2.toInt8.toInt32)] [(.ref a)])
        refine Go.step (fun _ k => XS.iloadN W.here W.hx rfl (W.d drc_13) rfl k) ?_
        show Go _ _ _ _ _ _ _ _ _ _ (mkF m 14 #[.val (.ref a), .val (.int (3 : Int32)), .val (.ref b), .val (.int (3 : Int32)), .val (.int (4 : Int32)), .val (.int (4 : Int32)), .val (.int (117 : Int32)), .val (.int x2.toInt8.toInt32)] [(.int (3 : Int32)), (.ref a)])
        refine Go.step (fun _ k => XS.iinc W.here W.hx rfl (W.d drc_14) rfl (l' := #[.val (.ref a), .val (.int (4 : Int32)), .val (.ref b), .val (.int (3 : Int32)), .val (.int (4 : Int32)), .val (.int (4 : Int32)), .val (.int (117 : Int32)), .val (.int x2.toInt8.toInt32)]) rfl k) ?_
        show Go _ _ _ _ _ _ _ _ _ _ (mkF m 17 #[.val (.ref a), .val (.int (4 : Int32)), .val (.ref b), .val (.int (3 : Int32)), .val (.int (4 : Int32)), .val (.int (4 : Int32)), .val (.int (117 : Int32)), .val (.int x2.toInt8.toInt32)] [(.int (3 : Int32)), (.ref a)])
        refine W.baload V1 (by decide) rfl drc_17 ?_
        show Go _ _ _ _ _ _ _ _ _ _ (mkF m 18 #[.val (.ref a), .val (.int (4 : Int32)), .val (.ref b), .val (.int (3 : Int32)), .val (.int (4 : Int32)), .val (.int (4 : Int32)), .val (.int (117 : Int32)), .val (.int x2.toInt8.toInt32)] [(.int (101 : Int32))])
        refine Go.step (fun _ k => XS.istore W.here W.hx rfl (W.d drc_18) rfl (l' := #[.val (.ref a), .val (.int (4 : Int32)), .val (.ref b), .val (.int (3 : Int32)), .val (.int (4 : Int32)), .val (.int (4 : Int32)), .val (.int (101 : Int32)), .val (.int x2.toInt8.toInt32)]) rfl k) ?_
        show Go _ _ _ _ _ _ _ _ _ _ (mkF m 20 #[.val (.ref a), .val (.int (4 : Int32)), .val (.ref b), .val (.int (3 : Int32)), .val (.int (4 : Int32)), .val (.int (4 : Int32)), .val (.int (101 : Int32)), .val (.int x2.toInt8.toInt32)] [])
        refine Go.step (fun _ k => XS.aloadN W.here W.hx rfl (W.d drc_20) rfl rfl k) ?_
        show Go _ _ _ _ _ _ _ _ _ _ (mkF m 21 #[.val (.ref a), .val (.int (4 : Int32)), .val (.ref b), .val (.int (3 : Int32)), .val (.int (4 : Int32)), .val (.int (4 : Int32)), .val (.int (101 : Int32)), .val (.int x2.toInt8.toInt32)] [(.ref b)])
        refine Go.step (fun _ k => XS.iloadN W.here W.hx rfl (W.d drc_21) rfl k) ?_
        show Go _ _ _ _ _ _ _ _ _ _ (mkF m 22 #[.val (.ref a), .val (.int (4 : Int32)), .val (.ref b), .val (.int (3 : Int32)), .val (.int (4 : Int32)), .val (.int (4 : Int32)), .val (.int (101 : Int32)), .val (.int x2.toInt8.toInt32)] [(.int (3 : Int32)), (.ref b)])
        refine Go.step (fun _ k => XS.iinc W.here W.hx rfl (W.d drc_22) rfl (l' := #[.val (.ref a), .val (.int (4 : Int32)), .val (.ref b), .val (.int (4 : Int32)), .val (.int (4 : Int32)), .val (.int (4 : Int32)), .val (.int (101 : Int32)), .val (.int x2.toInt8.toInt32)]) rfl k) ?_
        show Go _ _ _ _ _ _ _ _ _ _ (mkF m 25 #[.val (.ref a), .val (.int (4 : Int32)), .val (.ref b), .val (.int (4 : Int32)), .val (.int (4 : Int32)), .val (.int (4 : Int32)), .val (.int (101 : Int32)), .val (.int x2.toInt8.toInt32)] [(.int (3 : Int32)), (.ref b)])
        refine W.baload V2 (by decide) rfl drc_25 ?_
        show Go _ _ _ _ _ _ _ _ _ _ (mkF m 26 #[.val (.ref a), .val (.int (4 : Int32)), .val (.ref b), .val (.int (4 : Int32)), .val (.int (4 : Int32)), .val (.int (4 : Int32)), .val (.int (101 : Int32)), .val (.int x2.toInt8.toInt32)] [(.int x3.toInt8.toInt32)])
        refine Go.step (fun _ k => XS.istore W.here W.hx rfl (W.d drc_26) rfl (l' := #[.val (.ref a), .val (.int (4 : Int32)), .val (.ref b), .val (.int (4 : Int32)), .val (.int (4 : Int32)), .val (.int (4 : Int32)), .val (.int (101 : Int32)), .val (.int x3.toInt8.toInt32)]) rfl k) ?_
        show Go _ _ _ _ _ _ _ _ _ _ (mkF m 28 #[.val (.ref a), .val (.int (4 : Int32)), .val (.ref b), .val (.int (4 : Int32)), .val (.int (4 : Int32)), .val (.int (4 : Int32)), .val (.int (101 : Int32)), .val (.int x3.toInt8.toInt32)] [])
        refine Go.step (fun _ k => XS.iload W.here W.hx rfl (W.d drc_28) rfl k) ?_
        show Go _ _ _ _ _ _ _ _ _ _ (mkF m 30 #[.val (.ref a), .val (.int (4 : Int32)), .val (.ref b), .val (.int (4 : Int32)), .val (.int (4 : Int32)), .val (.int (4 : Int32)), .val (.int (101 : Int32)), .val (.int x3.toInt8.toInt32)] [(.int (101 : Int32))])
        refine Go.step (fun _ k => XS.iload W.here W.hx rfl (W.d drc_30) rfl k) ?_
        show Go _ _ _ _ _ _ _ _ _ _ (mkF m 32 #[.val (.ref a), .val (.int (4 : Int32)), .val (.ref b), .val (.int (4 : Int32)), .val (.int (4 : Int32)), .val (.int (4 : Int32)), .val (.int (101 : Int32)), .val (.int x3.toInt8.toInt32)] [(.int x3.toInt8.toInt32), (.int (101 : Int32))])
        refine W.callS (X.w 94 rfl) (X.w 95 rfl) (X.w 96 rfl) (X.w 97 rfl) (by decide) (c_ci101 X x3 _ W.ext tx3) (by decide) (Wd := 0) (by decide) [(.int (101 : Int32)), (.int x3.toInt8.toInt32)] [] rfl pd_3 rfl rfl rfl (Nat.le_of_eq rfl) drc_32 (by decide) (by decide) ?_
        intro v T h vm W hQ C
        obtain ⟨hq4, rfl⟩ := hQ
        rcases hq4 with ⟨rfl, hq4⟩ | ⟨rfl, hq4⟩
        · show Go _ _ _ _ _ _ _ _ _ _ (mkF m 35 #[.val (.ref a), .val (.int (4 : Int32)), .val (.ref b), .val (.int (4 : Int32)), .val (.int (4 : Int32)), .val (.int (4 : Int32)), .val (.int (101 : Int32)), .val (.int x3.toInt8.toInt32)] [(.int (1 : Int32))])
          refine Go.step (fun _ k => XS.ifNo W.here W.hx rfl (W.d drc_35) rfl ((if0 _ _).trans (feq (by decide : ¬ ((1 : Int32) = (0 : Int32)))).1) k) ?_
          show Go _ _ _ _ _ _ _ _ _ _ (mkF m 38 #[.val (.ref a), .val (.int (4 : Int32)), .val (.ref b), .val (.int (4 : Int32)), .val (.int (4 : Int32)), .val (.int (4 : Int32)), .val (.int (101 : Int32)), .val (.int x3.toInt8.toInt32)] [])
          refine Go.step (fun _ k => XS.goto W.here W.hx rfl (pc0 := 38) (pc' := 6) rfl (W.d drc_38) (by decide) (by decide) k) ?_
          show Go _ _ _ _ _ _ _ _ _ _ (mkF m 6 #[.val (.ref a), .val (.int (4 : Int32)), .val (.ref b), .val (.int (4 : Int32)), .val (.int (4 : Int32)), .val (.int (4 : Int32)), .val (.int (101 : Int32)), .val (.int x3.toInt8.toInt32)] [])
          refine Go.step (fun _ k => XS.iloadN W.here W.hx rfl (W.d drc_6) rfl k) ?_
          show Go _ _ _ _ _ _ _ _ _ _ (mkF m 7 #[.val (.ref a), .val (.int (4 : Int32)), .val (.ref b), .val (.int (4 : Int32)), .val (.int (4 : Int32)), .val (.int (4 : Int32)), .val (.int (101 : Int32)), .val (.int x3.toInt8.toInt32)] [(.int (4 : Int32))])
          refine Go.step (fun _ k => XS.iload W.here W.hx rfl (W.d drc_7) rfl k) ?_
          show Go _ _ _ _ _ _ _ _ _ _ (mkF m 9 #[.val (.ref a), .val (.int (4 : Int32)), .val (.ref b), .val (.int (4 : Int32)), .val (.int (4 : Int32)), .val (.int (4 : Int32)), .val (.int (101 : Int32)), .val (.int x3.toInt8.toInt32)] [(.int (4 : Int32)), (.int (4 : Int32))])
          refine Go.step (fun _ k => XS.icmpYes W.here W.hx rfl (pc0 := 9) (pc' := 43) rfl (W.d drc_9) rfl (flt (by decide : ¬ ((4 : Int32) < (4 : Int32)))).2.1 (by decide) (by decide) k) ?_
          show Go _ _ _ _ _ _ _ _ _ _ (mkF m 43 #[.val (.ref a), .val (.int (4 : Int32)), .val (.ref b), .val (.int (4 : Int32)), .val (.int (4 : Int32)), .val (.int (4 : Int32)), .val (.int (101 : Int32)), .val (.int x3.toInt8.toInt32)] [])
          refine Go.step (fun _ k => XS.iconst W.here W.hx rfl (W.d drc_43) k) ?_
          show Go _ _ _ _ _ _ _ _ _ _ (mkF m 44 #[.val (.ref a), .val (.int (4 : Int32)), .val (.ref b), .val (.int (4 : Int32)), .val (.int (4 : Int32)), .val (.int (4 : Int32)), .val (.int (101 : Int32)), .val (.int x3.toInt8.toInt32)] [(.int (1 : Int32))])
          exact W.retN (by simp) drc_44 (⟨Or.inl ⟨rfl, (isTrue4 _ _ _ _).mpr ⟨hq1, hq2, hq3, hq4⟩⟩, rfl⟩) (by decide) (by decide)
        · show Go _ _ _ _ _ _ _ _ _ _ (mkF m 35 #[.val (.ref a), .val (.int (4 : Int32)), .val (.ref b), .val (.int (4 : Int32)), .val (.int (4 : Int32)), .val (.int (4 : Int32)), .val (.int (101 : Int32)), .val (.int x3.toInt8.toInt32)] [(.int (0 : Int32))])
          refine Go.step (fun _ k => XS.ifYes W.here W.hx rfl (pc0 := 35) (pc' := 41) rfl (W.d drc_35) rfl ((if0 _ _).trans (teq (by decide : (0 : Int32) = (0 : Int32))).1) (by decide) (by decide) k) ?_
          show Go _ _ _ _ _ _ _ _ _ _ (mkF m 41 #[.val (.ref a), .val (.int (4 : Int32)), .val (.ref b), .val (.int (4 : Int32)), .val (.int (4 : Int32)), .val (.int (4 : Int32)), .val (.int (101 : Int32)), .val (.int x3.toInt8.toInt32)] [])
          refine Go.step (fun _ k => XS.iconst W.here W.hx rfl (W.d drc_41) k) ?_
          show Go _ _ _ _ _ _ _ _ _ _ (mkF m 42 #[.val (.ref a), .val (.int (4 : Int32)), .val (.ref b), .val (.int (4 : Int32)), .val (.int (4 : Int32)), .val (.int (4 : Int32)), .val (.int (101 : Int32)), .val (.int x3.toInt8.toInt32)] [(.int (0 : Int32))])
          exact W.retN (by simp) drc_42 (⟨Or.inr ⟨rfl, fun q => hq4 ((isTrue4 _ _ _ _).mp q).2.2.2⟩, rfl⟩) (by decide) (by decide)
      · show Go _ _ _ _ _ _ _ _ _ _ (mkF m 35 #[.val (.ref a), .val (.int (3 : Int32)), .val (.ref b), .val (.int (3 : Int32)), .val (.int (4 : Int32)), .val (.int (4 : Int32)), .val (.int (117 : Int32)), .val (.int x2.toInt8.toInt32)] [(.int (0 : Int32))])
        refine Go.step (fun _ k => XS.ifYes W.here W.hx rfl (pc0 := 35) (pc' := 41) rfl (W.d drc_35) rfl ((if0 _ _).trans (teq (by decide : (0 : Int32) = (0 : Int32))).1) (by decide) (by decide) k) ?_
        show Go _ _ _ _ _ _ _ _ _ _ (mkF m 41 #[.val (.ref a), .val (.int (3 : Int32)), .val (.ref b), .val (.int (3 : Int32)), .val (.int (4 : Int32)), .val (.int (4 : Int32)), .val (.int (117 : Int32)), .val (.int x2.toInt8.toInt32)] [])
        refine Go.step (fun _ k => XS.iconst W.here W.hx rfl (W.d drc_41) k) ?_
        show Go _ _ _ _ _ _ _ _ _ _ (mkF m 42 #[.val (.ref a), .val (.int (3 : Int32)), .val (.ref b), .val (.int (3 : Int32)), .val (.int (4 : Int32)), .val (.int (4 : Int32)), .val (.int (117 : Int32)), .val (.int x2.toInt8.toInt32)] [(.int (0 : Int32))])
        exact W.retN (by simp) drc_42 (⟨Or.inr ⟨rfl, fun q => hq3 ((isTrue4 _ _ _ _).mp q).2.2.1⟩, rfl⟩) (by decide) (by decide)
    · show Go _ _ _ _ _ _ _ _ _ _ (mkF m 35 #[.val (.ref a), .val (.int (2 : Int32)), .val (.ref b), .val (.int (2 : Int32)), .val (.int (4 : Int32)), .val (.int (4 : Int32)), .val (.int (114 : Int32)), .val (.int x1.toInt8.toInt32)] [(.int (0 : Int32))])
      refine Go.step (fun _ k => XS.ifYes W.here W.hx rfl (pc0 := 35) (pc' := 41) rfl (W.d drc_35) rfl ((if0 _ _).trans (teq (by decide : (0 : Int32) = (0 : Int32))).1) (by decide) (by decide) k) ?_
      show Go _ _ _ _ _ _ _ _ _ _ (mkF m 41 #[.val (.ref a), .val (.int (2 : Int32)), .val (.ref b), .val (.int (2 : Int32)), .val (.int (4 : Int32)), .val (.int (4 : Int32)), .val (.int (114 : Int32)), .val (.int x1.toInt8.toInt32)] [])
      refine Go.step (fun _ k => XS.iconst W.here W.hx rfl (W.d drc_41) k) ?_
      show Go _ _ _ _ _ _ _ _ _ _ (mkF m 42 #[.val (.ref a), .val (.int (2 : Int32)), .val (.ref b), .val (.int (2 : Int32)), .val (.int (4 : Int32)), .val (.int (4 : Int32)), .val (.int (114 : Int32)), .val (.int x1.toInt8.toInt32)] [(.int (0 : Int32))])
      exact W.retN (by simp) drc_42 (⟨Or.inr ⟨rfl, fun q => hq2 ((isTrue4 _ _ _ _).mp q).2.1⟩, rfl⟩) (by decide) (by decide)
  · show Go _ _ _ _ _ _ _ _ _ _ (mkF m 35 #[.val (.ref a), .val (.int (1 : Int32)), .val (.ref b), .val (.int (1 : Int32)), .val (.int (4 : Int32)), .val (.int (4 : Int32)), .val (.int (116 : Int32)), .val (.int x0.toInt8.toInt32)] [(.int (0 : Int32))])
    refine Go.step (fun _ k => XS.ifYes W.here W.hx rfl (pc0 := 35) (pc' := 41) rfl (W.d drc_35) rfl ((if0 _ _).trans (teq (by decide : (0 : Int32) = (0 : Int32))).1) (by decide) (by decide) k) ?_
    show Go _ _ _ _ _ _ _ _ _ _ (mkF m 41 #[.val (.ref a), .val (.int (1 : Int32)), .val (.ref b), .val (.int (1 : Int32)), .val (.int (4 : Int32)), .val (.int (4 : Int32)), .val (.int (116 : Int32)), .val (.int x0.toInt8.toInt32)] [])
    refine Go.step (fun _ k => XS.iconst W.here W.hx rfl (W.d drc_41) k) ?_
    show Go _ _ _ _ _ _ _ _ _ _ (mkF m 42 #[.val (.ref a), .val (.int (1 : Int32)), .val (.ref b), .val (.int (1 : Int32)), .val (.int (4 : Int32)), .val (.int (4 : Int32)), .val (.int (116 : Int32)), .val (.int x0.toInt8.toInt32)] [(.int (0 : Int32))])
    exact W.retN (by simp) drc_42 (⟨Or.inr ⟨rfl, fun q => hq1 ((isTrue4 _ _ _ _).mp q).1⟩, rfl⟩) (by decide) (by decide)

theorem drm_0 : decode jdk_42_method_74_code 0 = .ok (.iload_n 1, 1) := by decide +kernel
theorem drm_1 : decode jdk_42_method_74_code 1 = .ok (.ifCond .ne 14, 3) := by decide +kernel
theorem drm_15 : decode jdk_42_method_74_code 15 = .ok (.iload 4, 2) := by decide +kernel
theorem drm_17 : decode jdk_42_method_74_code 17 = .ok (.ifCond .lt 38, 3) := by decide +kernel
theorem drm_20 : decode jdk_42_method_74_code 20 = .ok (.iload_n 2, 1) := by decide +kernel
theorem drm_21 : decode jdk_42_method_74_code 21 = .ok (.ifCond .lt 34, 3) := by decide +kernel
theorem drm_24 : decode jdk_42_method_74_code 24 = .ok (.iload_n 2, 1) := by decide +kernel
theorem drm_25 : decode jdk_42_method_74_code 25 = .ok (.i2l, 1) := by decide +kernel
theorem drm_26 : decode jdk_42_method_74_code 26 = .ok (.aload_n 0, 1) := by decide +kernel
theorem drm_27 : decode jdk_42_method_74_code 27 = .ok (.invokevirtual 505, 3) := by decide +kernel
theorem drm_30 : decode jdk_42_method_74_code 30 = .ok (.i2l, 1) := by decide +kernel
theorem drm_31 : decode jdk_42_method_74_code 31 = .ok (.iload 5, 2) := by decide +kernel
theorem drm_33 : decode jdk_42_method_74_code 33 = .ok (.i2l, 1) := by decide +kernel
theorem drm_34 : decode jdk_42_method_74_code 34 = .ok (.lsub, 1) := by decide +kernel
theorem drm_35 : decode jdk_42_method_74_code 35 = .ok (.lcmp, 1) := by decide +kernel
theorem drm_36 : decode jdk_42_method_74_code 36 = .ok (.ifCond .gt 19, 3) := by decide +kernel
theorem drm_39 : decode jdk_42_method_74_code 39 = .ok (.iload 4, 2) := by decide +kernel
theorem drm_41 : decode jdk_42_method_74_code 41 = .ok (.i2l, 1) := by decide +kernel
theorem drm_42 : decode jdk_42_method_74_code 42 = .ok (.aload_n 3, 1) := by decide +kernel
theorem drm_43 : decode jdk_42_method_74_code 43 = .ok (.invokevirtual 505, 3) := by decide +kernel
theorem drm_46 : decode jdk_42_method_74_code 46 = .ok (.i2l, 1) := by decide +kernel
theorem drm_47 : decode jdk_42_method_74_code 47 = .ok (.iload 5, 2) := by decide +kernel
theorem drm_49 : decode jdk_42_method_74_code 49 = .ok (.i2l, 1) := by decide +kernel
theorem drm_50 : decode jdk_42_method_74_code 50 = .ok (.lsub, 1) := by decide +kernel
theorem drm_51 : decode jdk_42_method_74_code 51 = .ok (.lcmp, 1) := by decide +kernel
theorem drm_52 : decode jdk_42_method_74_code 52 = .ok (.ifCond .le 5, 3) := by decide +kernel
theorem drm_57 : decode jdk_42_method_74_code 57 = .ok (.aload_n 0, 1) := by decide +kernel
theorem drm_58 : decode jdk_42_method_74_code 58 = .ok (.getfield 9, 3) := by decide +kernel
theorem drm_61 : decode jdk_42_method_74_code 61 = .ok (.astore 6, 2) := by decide +kernel
theorem drm_63 : decode jdk_42_method_74_code 63 = .ok (.aload_n 3, 1) := by decide +kernel
theorem drm_64 : decode jdk_42_method_74_code 64 = .ok (.getfield 9, 3) := by decide +kernel
theorem drm_67 : decode jdk_42_method_74_code 67 = .ok (.astore 7, 2) := by decide +kernel
theorem drm_69 : decode jdk_42_method_74_code 69 = .ok (.aload_n 0, 1) := by decide +kernel
theorem drm_70 : decode jdk_42_method_74_code 70 = .ok (.invokevirtual 335, 3) := by decide +kernel
theorem drm_73 : decode jdk_42_method_74_code 73 = .ok (.istore 8, 2) := by decide +kernel
theorem drm_75 : decode jdk_42_method_74_code 75 = .ok (.iload 8, 2) := by decide +kernel
theorem drm_77 : decode jdk_42_method_74_code 77 = .ok (.aload_n 3, 1) := by decide +kernel
theorem drm_78 : decode jdk_42_method_74_code 78 = .ok (.invokevirtual 335, 3) := by decide +kernel
theorem drm_81 : decode jdk_42_method_74_code 81 = .ok (.if_icmp .ne 36, 3) := by decide +kernel
theorem drm_84 : decode jdk_42_method_74_code 84 = .ok (.iload 8, 2) := by decide +kernel
theorem drm_86 : decode jdk_42_method_74_code 86 = .ok (.ifCond .ne 18, 3) := by decide +kernel
theorem drm_89 : decode jdk_42_method_74_code 89 = .ok (.aload 6, 2) := by decide +kernel
theorem drm_91 : decode jdk_42_method_74_code 91 = .ok (.iload_n 2, 1) := by decide +kernel
theorem drm_92 : decode jdk_42_method_74_code 92 = .ok (.aload 7, 2) := by decide +kernel
theorem drm_94 : decode jdk_42_method_74_code 94 = .ok (.iload 4, 2) := by decide +kernel
theorem drm_96 : decode jdk_42_method_74_code 96 = .ok (.iload 5, 2) := by decide +kernel
theorem drm_98 : decode jdk_42_method_74_code 98 = .ok (.invokestatic 613, 3) := by decide +kernel
theorem drm_101 : decode jdk_42_method_74_code 101 = .ok (.goto 15, 3) := by decide +kernel
theorem drm_116 : decode jdk_42_method_74_code 116 = .ok (.ireturn, 1) := by decide +kernel
theorem efrm (m : MethodId) (x0 : Addr) (x1 : Int32) (x2 : Int32) (x3 : Addr) (x4 : Int32) (x5 : Int32) : entryFrame m #[(.ref x0), (.int x1), (.int x2), (.ref x3), (.int x4), (.int x5)] 9 = mkF m 0 #[.val (.ref x0), .val (.int x1), .val (.int x2), .val (.ref x3), .val (.int x4), .val (.int x5), .unset, .unset, .unset] [] := by first | (simp [entryFrame, mkF, argsToLocals, Value.category]; done) | rfl
set_option maxRecDepth 65536 in
set_option maxHeartbeats 40000000 in
theorem c_rm {l : Launch} {Z : State} {a0 : Array Value} {G1 : Int32} (X : Ctx Z a0 G1) (a b ta tb : Addr) (ka kb : ClassId) (x0 x1 x2 x3 : Int32) (h0 : Heap) (hE : Ext Z.heap h0) (Aa : Exa Z h0 a "java/lang/String") (FVa : Fld Z h0 a "java/lang/String" "value" "[B" (.ref ta)) (FCa : Fld Z h0 a "java/lang/String" "coder" "B" (.int (0 : Int32))) (Va : Arv Z h0 ta ka .byte (Int32.ofNat [(116 : Int32), (114 : Int32), (117 : Int32), (101 : Int32)].length) ([(116 : Int32), (114 : Int32), (117 : Int32), (101 : Int32)].map fun c => Value.int c.toInt8.toInt32) (.int (0 : Int32))) (Ab : Exa Z h0 b "java/lang/String") (FVb : Fld Z h0 b "java/lang/String" "value" "[B" (.ref tb)) (FCb : Fld Z h0 b "java/lang/String" "coder" "B" (.int (0 : Int32))) (Vb : Arv Z h0 tb kb .byte (Int32.ofNat [x0, x1, x2, x3].length) ([x0, x1, x2, x3].map fun c => Value.int c.toInt8.toInt32) (.int (0 : Int32))) (tx0 : Sm x0) (tx1 : Sm x1) (tx2 : Sm x2) (tx3 : Sm x3) :
    Con l Z consts_1 (⟨"java/lang/String", "regionMatches", "(ZILjava/lang/String;II)Z"⟩ : MethodName) jdk_42_method_74_code 9 (some .boolean) [] ({ frames := 2, cells := 0, slots := 0, locals := 33 } : Room) #[(.ref a), (.int (1 : Int32)), (.int (0 : Int32)), (.ref b), (.int (0 : Int32)), (.int (4 : Int32))] h0 (fun v h => ((v = some (.int 1) ∧ IsTrue [x0, x1, x2, x3]) ∨ (v = some (.int 0) ∧ ¬ IsTrue [x0, x1, x2, x3])) ∧ h0 = h) := by
  refine Con.intro (plainFor_of_name pn_0) hE X.el ?_
  intro p e s m below meth c T W
  have hsz := W.size
  refine Go.cast (efrm m a (1 : Int32) (0 : Int32) b (0 : Int32) (4 : Int32)) ?_
  refine Go.step (fun _ k => XS.iloadN W.here W.hx rfl (W.d drm_0) rfl k) ?_
  show Go _ _ _ _ _ _ _ _ _ _ (mkF m 1 #[.val (.ref a), .val (.int (1 : Int32)), .val (.int (0 : Int32)), .val (.ref b), .val (.int (0 : Int32)), .val (.int (4 : Int32)), .unset, .unset, .unset] [(.int (1 : Int32))])
  refine Go.step (fun _ k => XS.ifYes W.here W.hx rfl (pc0 := 1) (pc' := 15) rfl (W.d drm_1) rfl ((if0 _ _).trans (feq (by decide : ¬ ((1 : Int32) = (0 : Int32)))).2) (by decide) (by decide) k) ?_
  show Go _ _ _ _ _ _ _ _ _ _ (mkF m 15 #[.val (.ref a), .val (.int (1 : Int32)), .val (.int (0 : Int32)), .val (.ref b), .val (.int (0 : Int32)), .val (.int (4 : Int32)), .unset, .unset, .unset] [])
  refine Go.step (fun _ k => XS.iload W.here W.hx rfl (W.d drm_15) rfl k) ?_
  show Go _ _ _ _ _ _ _ _ _ _ (mkF m 17 #[.val (.ref a), .val (.int (1 : Int32)), .val (.int (0 : Int32)), .val (.ref b), .val (.int (0 : Int32)), .val (.int (4 : Int32)), .unset, .unset, .unset] [(.int (0 : Int32))])
  refine Go.step (fun _ k => XS.ifNo W.here W.hx rfl (W.d drm_17) rfl ((if0 _ _).trans (flt (by decide : ¬ ((0 : Int32) < (0 : Int32)))).1) k) ?_
  show Go _ _ _ _ _ _ _ _ _ _ (mkF m 20 #[.val (.ref a), .val (.int (1 : Int32)), .val (.int (0 : Int32)), .val (.ref b), .val (.int (0 : Int32)), .val (.int (4 : Int32)), .unset, .unset, .unset] [])
  refine Go.step (fun _ k => XS.iloadN W.here W.hx rfl (W.d drm_20) rfl k) ?_
  show Go _ _ _ _ _ _ _ _ _ _ (mkF m 21 #[.val (.ref a), .val (.int (1 : Int32)), .val (.int (0 : Int32)), .val (.ref b), .val (.int (0 : Int32)), .val (.int (4 : Int32)), .unset, .unset, .unset] [(.int (0 : Int32))])
  refine Go.step (fun _ k => XS.ifNo W.here W.hx rfl (W.d drm_21) rfl ((if0 _ _).trans (flt (by decide : ¬ ((0 : Int32) < (0 : Int32)))).1) k) ?_
  show Go _ _ _ _ _ _ _ _ _ _ (mkF m 24 #[.val (.ref a), .val (.int (1 : Int32)), .val (.int (0 : Int32)), .val (.ref b), .val (.int (0 : Int32)), .val (.int (4 : Int32)), .unset, .unset, .unset] [])
  refine Go.step (fun _ k => XS.iloadN W.here W.hx rfl (W.d drm_24) rfl k) ?_
  show Go _ _ _ _ _ _ _ _ _ _ (mkF m 25 #[.val (.ref a), .val (.int (1 : Int32)), .val (.int (0 : Int32)), .val (.ref b), .val (.int (0 : Int32)), .val (.int (4 : Int32)), .unset, .unset, .unset] [(.int (0 : Int32))])
  refine Go.step (fun _ k => XS.i2l W.here W.hx rfl (W.d drm_25) rfl k) ?_
  show Go _ _ _ _ _ _ _ _ _ _ (mkF m 26 #[.val (.ref a), .val (.int (1 : Int32)), .val (.int (0 : Int32)), .val (.ref b), .val (.int (0 : Int32)), .val (.int (4 : Int32)), .unset, .unset, .unset] [(.long ((0 : Int32).toInt64))])
  refine Go.step (fun _ k => XS.aloadN W.here W.hx rfl (W.d drm_26) rfl rfl k) ?_
  show Go _ _ _ _ _ _ _ _ _ _ (mkF m 27 #[.val (.ref a), .val (.int (1 : Int32)), .val (.int (0 : Int32)), .val (.ref b), .val (.int (0 : Int32)), .val (.int (4 : Int32)), .unset, .unset, .unset] [(.ref a), (.long ((0 : Int32).toInt64))])
  refine W.virtual (X.w 70 rfl) (X.w 71 rfl) (notFace_of_selects (args := #[]) (mvT W.hZ (X.w 73 rfl))) (X.w 73 rfl) (X.w 72 rfl) (X.w 29 rfl) (X.w 74 rfl) (by decide) (c_len X a ta ka _ _ W.ext Aa FVa FCa Va) (by decide) (Wd := 2) (by decide) a Aa [] [(.long ((0 : Int32).toInt64))] rfl pd_4 rfl rfl rfl (Nat.le_of_eq rfl) drm_27 (by decide) (by decide) ?_
  intro v T h vm W hQ C
  obtain ⟨rfl, rfl⟩ := hQ
  show Go _ _ _ _ _ _ _ _ _ _ (mkF m 30 #[.val (.ref a), .val (.int (1 : Int32)), .val (.int (0 : Int32)), .val (.ref b), .val (.int (0 : Int32)), .val (.int (4 : Int32)), .unset, .unset, .unset] [(.int (4 : Int32)), (.long ((0 : Int32).toInt64))])
  refine Go.step (fun _ k => XS.i2l W.here W.hx rfl (W.d drm_30) rfl k) ?_
  show Go _ _ _ _ _ _ _ _ _ _ (mkF m 31 #[.val (.ref a), .val (.int (1 : Int32)), .val (.int (0 : Int32)), .val (.ref b), .val (.int (0 : Int32)), .val (.int (4 : Int32)), .unset, .unset, .unset] [(.long ((4 : Int32).toInt64)), (.long ((0 : Int32).toInt64))])
  refine Go.step (fun _ k => XS.iload W.here W.hx rfl (W.d drm_31) rfl k) ?_
  show Go _ _ _ _ _ _ _ _ _ _ (mkF m 33 #[.val (.ref a), .val (.int (1 : Int32)), .val (.int (0 : Int32)), .val (.ref b), .val (.int (0 : Int32)), .val (.int (4 : Int32)), .unset, .unset, .unset] [(.int (4 : Int32)), (.long ((4 : Int32).toInt64)), (.long ((0 : Int32).toInt64))])
  refine Go.step (fun _ k => XS.i2l W.here W.hx rfl (W.d drm_33) rfl k) ?_
  show Go _ _ _ _ _ _ _ _ _ _ (mkF m 34 #[.val (.ref a), .val (.int (1 : Int32)), .val (.int (0 : Int32)), .val (.ref b), .val (.int (0 : Int32)), .val (.int (4 : Int32)), .unset, .unset, .unset] [(.long ((4 : Int32).toInt64)), (.long ((4 : Int32).toInt64)), (.long ((0 : Int32).toInt64))])
  refine Go.step (fun _ k => XS.lsub W.here W.hx rfl (W.d drm_34) rfl k) ?_
  show Go _ _ _ _ _ _ _ _ _ _ (mkF m 35 #[.val (.ref a), .val (.int (1 : Int32)), .val (.int (0 : Int32)), .val (.ref b), .val (.int (0 : Int32)), .val (.int (4 : Int32)), .unset, .unset, .unset] [(.long (((4 : Int32).toInt64) - ((4 : Int32).toInt64))), (.long ((0 : Int32).toInt64))])
  refine Go.step (fun _ k => XS.lcmp W.here W.hx rfl (W.d drm_35) rfl k) ?_
  show Go _ _ _ _ _ _ _ _ _ _ (mkF m 36 #[.val (.ref a), .val (.int (1 : Int32)), .val (.int (0 : Int32)), .val (.ref b), .val (.int (0 : Int32)), .val (.int (4 : Int32)), .unset, .unset, .unset] [(.int (lcmpW ((0 : Int32).toInt64) (((4 : Int32).toInt64) - ((4 : Int32).toInt64))))])
  refine Go.step (fun _ k => XS.ifNo W.here W.hx rfl (W.d drm_36) rfl ((if0 _ _).trans (flt (by decide)).2.2.1) k) ?_
  show Go _ _ _ _ _ _ _ _ _ _ (mkF m 39 #[.val (.ref a), .val (.int (1 : Int32)), .val (.int (0 : Int32)), .val (.ref b), .val (.int (0 : Int32)), .val (.int (4 : Int32)), .unset, .unset, .unset] [])
  refine Go.step (fun _ k => XS.iload W.here W.hx rfl (W.d drm_39) rfl k) ?_
  show Go _ _ _ _ _ _ _ _ _ _ (mkF m 41 #[.val (.ref a), .val (.int (1 : Int32)), .val (.int (0 : Int32)), .val (.ref b), .val (.int (0 : Int32)), .val (.int (4 : Int32)), .unset, .unset, .unset] [(.int (0 : Int32))])
  refine Go.step (fun _ k => XS.i2l W.here W.hx rfl (W.d drm_41) rfl k) ?_
  show Go _ _ _ _ _ _ _ _ _ _ (mkF m 42 #[.val (.ref a), .val (.int (1 : Int32)), .val (.int (0 : Int32)), .val (.ref b), .val (.int (0 : Int32)), .val (.int (4 : Int32)), .unset, .unset, .unset] [(.long ((0 : Int32).toInt64))])
  refine Go.step (fun _ k => XS.aloadN W.here W.hx rfl (W.d drm_42) rfl rfl k) ?_
  show Go _ _ _ _ _ _ _ _ _ _ (mkF m 43 #[.val (.ref a), .val (.int (1 : Int32)), .val (.int (0 : Int32)), .val (.ref b), .val (.int (0 : Int32)), .val (.int (4 : Int32)), .unset, .unset, .unset] [(.ref b), (.long ((0 : Int32).toInt64))])
  refine W.virtual (X.w 70 rfl) (X.w 71 rfl) (notFace_of_selects (args := #[]) (mvT W.hZ (X.w 73 rfl))) (X.w 73 rfl) (X.w 72 rfl) (X.w 29 rfl) (X.w 74 rfl) (by decide) (c_len X b tb kb _ _ W.ext Ab FVb FCb Vb) (by decide) (Wd := 2) (by decide) b Ab [] [(.long ((0 : Int32).toInt64))] rfl pd_4 rfl rfl rfl (Nat.le_of_eq rfl) drm_43 (by decide) (by decide) ?_
  intro v T h vm W hQ C
  obtain ⟨rfl, rfl⟩ := hQ
  show Go _ _ _ _ _ _ _ _ _ _ (mkF m 46 #[.val (.ref a), .val (.int (1 : Int32)), .val (.int (0 : Int32)), .val (.ref b), .val (.int (0 : Int32)), .val (.int (4 : Int32)), .unset, .unset, .unset] [(.int (4 : Int32)), (.long ((0 : Int32).toInt64))])
  refine Go.step (fun _ k => XS.i2l W.here W.hx rfl (W.d drm_46) rfl k) ?_
  show Go _ _ _ _ _ _ _ _ _ _ (mkF m 47 #[.val (.ref a), .val (.int (1 : Int32)), .val (.int (0 : Int32)), .val (.ref b), .val (.int (0 : Int32)), .val (.int (4 : Int32)), .unset, .unset, .unset] [(.long ((4 : Int32).toInt64)), (.long ((0 : Int32).toInt64))])
  refine Go.step (fun _ k => XS.iload W.here W.hx rfl (W.d drm_47) rfl k) ?_
  show Go _ _ _ _ _ _ _ _ _ _ (mkF m 49 #[.val (.ref a), .val (.int (1 : Int32)), .val (.int (0 : Int32)), .val (.ref b), .val (.int (0 : Int32)), .val (.int (4 : Int32)), .unset, .unset, .unset] [(.int (4 : Int32)), (.long ((4 : Int32).toInt64)), (.long ((0 : Int32).toInt64))])
  refine Go.step (fun _ k => XS.i2l W.here W.hx rfl (W.d drm_49) rfl k) ?_
  show Go _ _ _ _ _ _ _ _ _ _ (mkF m 50 #[.val (.ref a), .val (.int (1 : Int32)), .val (.int (0 : Int32)), .val (.ref b), .val (.int (0 : Int32)), .val (.int (4 : Int32)), .unset, .unset, .unset] [(.long ((4 : Int32).toInt64)), (.long ((4 : Int32).toInt64)), (.long ((0 : Int32).toInt64))])
  refine Go.step (fun _ k => XS.lsub W.here W.hx rfl (W.d drm_50) rfl k) ?_
  show Go _ _ _ _ _ _ _ _ _ _ (mkF m 51 #[.val (.ref a), .val (.int (1 : Int32)), .val (.int (0 : Int32)), .val (.ref b), .val (.int (0 : Int32)), .val (.int (4 : Int32)), .unset, .unset, .unset] [(.long (((4 : Int32).toInt64) - ((4 : Int32).toInt64))), (.long ((0 : Int32).toInt64))])
  refine Go.step (fun _ k => XS.lcmp W.here W.hx rfl (W.d drm_51) rfl k) ?_
  show Go _ _ _ _ _ _ _ _ _ _ (mkF m 52 #[.val (.ref a), .val (.int (1 : Int32)), .val (.int (0 : Int32)), .val (.ref b), .val (.int (0 : Int32)), .val (.int (4 : Int32)), .unset, .unset, .unset] [(.int (lcmpW ((0 : Int32).toInt64) (((4 : Int32).toInt64) - ((4 : Int32).toInt64))))])
  refine Go.step (fun _ k => XS.ifYes W.here W.hx rfl (pc0 := 52) (pc' := 57) rfl (W.d drm_52) rfl ((if0 _ _).trans (flt (by decide)).2.2.2) (by decide) (by decide) k) ?_
  show Go _ _ _ _ _ _ _ _ _ _ (mkF m 57 #[.val (.ref a), .val (.int (1 : Int32)), .val (.int (0 : Int32)), .val (.ref b), .val (.int (0 : Int32)), .val (.int (4 : Int32)), .unset, .unset, .unset] [])
  refine Go.step (fun _ k => XS.aloadN W.here W.hx rfl (W.d drm_57) rfl rfl k) ?_
  show Go _ _ _ _ _ _ _ _ _ _ (mkF m 58 #[.val (.ref a), .val (.int (1 : Int32)), .val (.int (0 : Int32)), .val (.ref b), .val (.int (0 : Int32)), .val (.int (4 : Int32)), .unset, .unset, .unset] [(.ref a)])
  refine W.getF (host := "") (Or.inl (X.w 54 rfl)) Via.refl FVa drm_58 ?_
  intro T W
  show Go _ _ _ _ _ _ _ _ _ _ (mkF m 61 #[.val (.ref a), .val (.int (1 : Int32)), .val (.int (0 : Int32)), .val (.ref b), .val (.int (0 : Int32)), .val (.int (4 : Int32)), .unset, .unset, .unset] [(.ref ta)])
  refine Go.step (fun _ k => XS.astore W.here W.hx rfl (W.d drm_61) rfl rfl (l' := #[.val (.ref a), .val (.int (1 : Int32)), .val (.int (0 : Int32)), .val (.ref b), .val (.int (0 : Int32)), .val (.int (4 : Int32)), .val (.ref ta), .unset, .unset]) rfl k) ?_
  show Go _ _ _ _ _ _ _ _ _ _ (mkF m 63 #[.val (.ref a), .val (.int (1 : Int32)), .val (.int (0 : Int32)), .val (.ref b), .val (.int (0 : Int32)), .val (.int (4 : Int32)), .val (.ref ta), .unset, .unset] [])
  refine Go.step (fun _ k => XS.aloadN W.here W.hx rfl (W.d drm_63) rfl rfl k) ?_
  show Go _ _ _ _ _ _ _ _ _ _ (mkF m 64 #[.val (.ref a), .val (.int (1 : Int32)), .val (.int (0 : Int32)), .val (.ref b), .val (.int (0 : Int32)), .val (.int (4 : Int32)), .val (.ref ta), .unset, .unset] [(.ref b)])
  refine W.getF (host := "") (Or.inl (X.w 54 rfl)) Via.refl FVb drm_64 ?_
  intro T W
  show Go _ _ _ _ _ _ _ _ _ _ (mkF m 67 #[.val (.ref a), .val (.int (1 : Int32)), .val (.int (0 : Int32)), .val (.ref b), .val (.int (0 : Int32)), .val (.int (4 : Int32)), .val (.ref ta), .unset, .unset] [(.ref tb)])
  refine Go.step (fun _ k => XS.astore W.here W.hx rfl (W.d drm_67) rfl rfl (l' := #[.val (.ref a), .val (.int (1 : Int32)), .val (.int (0 : Int32)), .val (.ref b), .val (.int (0 : Int32)), .val (.int (4 : Int32)), .val (.ref ta), .val (.ref tb), .unset]) rfl k) ?_
  show Go _ _ _ _ _ _ _ _ _ _ (mkF m 69 #[.val (.ref a), .val (.int (1 : Int32)), .val (.int (0 : Int32)), .val (.ref b), .val (.int (0 : Int32)), .val (.int (4 : Int32)), .val (.ref ta), .val (.ref tb), .unset] [])
  refine Go.step (fun _ k => XS.aloadN W.here W.hx rfl (W.d drm_69) rfl rfl k) ?_
  show Go _ _ _ _ _ _ _ _ _ _ (mkF m 70 #[.val (.ref a), .val (.int (1 : Int32)), .val (.int (0 : Int32)), .val (.ref b), .val (.int (0 : Int32)), .val (.int (4 : Int32)), .val (.ref ta), .val (.ref tb), .unset] [(.ref a)])
  refine W.virtual (X.w 75 rfl) (X.w 76 rfl) (notFace_of_selects (args := #[]) (mvT W.hZ (X.w 78 rfl))) (X.w 78 rfl) (X.w 77 rfl) (X.w 29 rfl) (X.w 79 rfl) (by decide) (c_cod X a _ W.ext FCa) (by decide) (Wd := 0) (by decide) a Aa [] [] rfl pd_2 rfl rfl rfl (Nat.le_of_eq rfl) drm_70 (by decide) (by decide) ?_
  intro v T h vm W hQ C
  obtain ⟨rfl, rfl⟩ := hQ
  show Go _ _ _ _ _ _ _ _ _ _ (mkF m 73 #[.val (.ref a), .val (.int (1 : Int32)), .val (.int (0 : Int32)), .val (.ref b), .val (.int (0 : Int32)), .val (.int (4 : Int32)), .val (.ref ta), .val (.ref tb), .unset] [(.int (0 : Int32))])
  refine Go.step (fun _ k => XS.istore W.here W.hx rfl (W.d drm_73) rfl (l' := #[.val (.ref a), .val (.int (1 : Int32)), .val (.int (0 : Int32)), .val (.ref b), .val (.int (0 : Int32)), .val (.int (4 : Int32)), .val (.ref ta), .val (.ref tb), .val (.int (0 : Int32))]) rfl k) ?_
  show Go _ _ _ _ _ _ _ _ _ _ (mkF m 75 #[.val (.ref a), .val (.int (1 : Int32)), .val (.int (0 : Int32)), .val (.ref b), .val (.int (0 : Int32)), .val (.int (4 : Int32)), .val (.ref ta), .val (.ref tb), .val (.int (0 : Int32))] [])
  refine Go.step (fun _ k => XS.iload W.here W.hx rfl (W.d drm_75) rfl k) ?_
  show Go _ _ _ _ _ _ _ _ _ _ (mkF m 77 #[.val (.ref a), .val (.int (1 : Int32)), .val (.int (0 : Int32)), .val (.ref b), .val (.int (0 : Int32)), .val (.int (4 : Int32)), .val (.ref ta), .val (.ref tb), .val (.int (0 : Int32))] [(.int (0 : Int32))])
  refine Go.step (fun _ k => XS.aloadN W.here W.hx rfl (W.d drm_77) rfl rfl k) ?_
  show Go _ _ _ _ _ _ _ _ _ _ (mkF m 78 #[.val (.ref a), .val (.int (1 : Int32)), .val (.int (0 : Int32)), .val (.ref b), .val (.int (0 : Int32)), .val (.int (4 : Int32)), .val (.ref ta), .val (.ref tb), .val (.int (0 : Int32))] [(.ref b), (.int (0 : Int32))])
  refine W.virtual (X.w 75 rfl) (X.w 76 rfl) (notFace_of_selects (args := #[]) (mvT W.hZ (X.w 78 rfl))) (X.w 78 rfl) (X.w 77 rfl) (X.w 29 rfl) (X.w 79 rfl) (by decide) (c_cod X b _ W.ext FCb) (by decide) (Wd := 1) (by decide) b Ab [] [(.int (0 : Int32))] rfl pd_2 rfl rfl rfl (Nat.le_of_eq rfl) drm_78 (by decide) (by decide) ?_
  intro v T h vm W hQ C
  obtain ⟨rfl, rfl⟩ := hQ
  show Go _ _ _ _ _ _ _ _ _ _ (mkF m 81 #[.val (.ref a), .val (.int (1 : Int32)), .val (.int (0 : Int32)), .val (.ref b), .val (.int (0 : Int32)), .val (.int (4 : Int32)), .val (.ref ta), .val (.ref tb), .val (.int (0 : Int32))] [(.int (0 : Int32)), (.int (0 : Int32))])
  refine Go.step (fun _ k => XS.icmpNo W.here W.hx rfl (W.d drm_81) rfl (teq (by decide : (0 : Int32) = (0 : Int32))).2 k) ?_
  show Go _ _ _ _ _ _ _ _ _ _ (mkF m 84 #[.val (.ref a), .val (.int (1 : Int32)), .val (.int (0 : Int32)), .val (.ref b), .val (.int (0 : Int32)), .val (.int (4 : Int32)), .val (.ref ta), .val (.ref tb), .val (.int (0 : Int32))] [])
  refine Go.step (fun _ k => XS.iload W.here W.hx rfl (W.d drm_84) rfl k) ?_
  show Go _ _ _ _ _ _ _ _ _ _ (mkF m 86 #[.val (.ref a), .val (.int (1 : Int32)), .val (.int (0 : Int32)), .val (.ref b), .val (.int (0 : Int32)), .val (.int (4 : Int32)), .val (.ref ta), .val (.ref tb), .val (.int (0 : Int32))] [(.int (0 : Int32))])
  refine Go.step (fun _ k => XS.ifNo W.here W.hx rfl (W.d drm_86) rfl ((if0 _ _).trans (teq (by decide : (0 : Int32) = (0 : Int32))).2) k) ?_
  show Go _ _ _ _ _ _ _ _ _ _ (mkF m 89 #[.val (.ref a), .val (.int (1 : Int32)), .val (.int (0 : Int32)), .val (.ref b), .val (.int (0 : Int32)), .val (.int (4 : Int32)), .val (.ref ta), .val (.ref tb), .val (.int (0 : Int32))] [])
  refine Go.step (fun _ k => XS.aload W.here W.hx rfl (W.d drm_89) rfl rfl k) ?_
  show Go _ _ _ _ _ _ _ _ _ _ (mkF m 91 #[.val (.ref a), .val (.int (1 : Int32)), .val (.int (0 : Int32)), .val (.ref b), .val (.int (0 : Int32)), .val (.int (4 : Int32)), .val (.ref ta), .val (.ref tb), .val (.int (0 : Int32))] [(.ref ta)])
  refine Go.step (fun _ k => XS.iloadN W.here W.hx rfl (W.d drm_91) rfl k) ?_
  show Go _ _ _ _ _ _ _ _ _ _ (mkF m 92 #[.val (.ref a), .val (.int (1 : Int32)), .val (.int (0 : Int32)), .val (.ref b), .val (.int (0 : Int32)), .val (.int (4 : Int32)), .val (.ref ta), .val (.ref tb), .val (.int (0 : Int32))] [(.int (0 : Int32)), (.ref ta)])
  refine Go.step (fun _ k => XS.aload W.here W.hx rfl (W.d drm_92) rfl rfl k) ?_
  show Go _ _ _ _ _ _ _ _ _ _ (mkF m 94 #[.val (.ref a), .val (.int (1 : Int32)), .val (.int (0 : Int32)), .val (.ref b), .val (.int (0 : Int32)), .val (.int (4 : Int32)), .val (.ref ta), .val (.ref tb), .val (.int (0 : Int32))] [(.ref tb), (.int (0 : Int32)), (.ref ta)])
  refine Go.step (fun _ k => XS.iload W.here W.hx rfl (W.d drm_94) rfl k) ?_
  show Go _ _ _ _ _ _ _ _ _ _ (mkF m 96 #[.val (.ref a), .val (.int (1 : Int32)), .val (.int (0 : Int32)), .val (.ref b), .val (.int (0 : Int32)), .val (.int (4 : Int32)), .val (.ref ta), .val (.ref tb), .val (.int (0 : Int32))] [(.int (0 : Int32)), (.ref tb), (.int (0 : Int32)), (.ref ta)])
  refine Go.step (fun _ k => XS.iload W.here W.hx rfl (W.d drm_96) rfl k) ?_
  show Go _ _ _ _ _ _ _ _ _ _ (mkF m 98 #[.val (.ref a), .val (.int (1 : Int32)), .val (.int (0 : Int32)), .val (.ref b), .val (.int (0 : Int32)), .val (.int (4 : Int32)), .val (.ref ta), .val (.ref tb), .val (.int (0 : Int32))] [(.int (4 : Int32)), (.int (0 : Int32)), (.ref tb), (.int (0 : Int32)), (.ref ta)])
  refine W.callS (X.w 90 rfl) (X.w 91 rfl) (X.w 92 rfl) (X.w 93 rfl) (by decide) (c_rc X ta tb _ _ x0 x1 x2 x3 _ W.ext Va Vb tx0 tx1 tx2 tx3) (by decide) (Wd := 0) (by decide) [(.ref ta), (.int (0 : Int32)), (.ref tb), (.int (0 : Int32)), (.int (4 : Int32))] [] rfl pd_5 rfl rfl rfl (Nat.le_of_eq rfl) drm_98 (by decide) (by decide) ?_
  intro v T h vm W hQ C
  obtain ⟨hq1, rfl⟩ := hQ
  rcases hq1 with ⟨rfl, hq1⟩ | ⟨rfl, hq1⟩
  · show Go _ _ _ _ _ _ _ _ _ _ (mkF m 101 #[.val (.ref a), .val (.int (1 : Int32)), .val (.int (0 : Int32)), .val (.ref b), .val (.int (0 : Int32)), .val (.int (4 : Int32)), .val (.ref ta), .val (.ref tb), .val (.int (0 : Int32))] [(.int (1 : Int32))])
    refine Go.step (fun _ k => XS.goto W.here W.hx rfl (pc0 := 101) (pc' := 116) rfl (W.d drm_101) (by decide) (by decide) k) ?_
    show Go _ _ _ _ _ _ _ _ _ _ (mkF m 116 #[.val (.ref a), .val (.int (1 : Int32)), .val (.int (0 : Int32)), .val (.ref b), .val (.int (0 : Int32)), .val (.int (4 : Int32)), .val (.ref ta), .val (.ref tb), .val (.int (0 : Int32))] [(.int (1 : Int32))])
    exact W.retN (by simp) drm_116 (⟨Or.inl ⟨rfl, hq1⟩, rfl⟩) (by decide) (by decide)
  · show Go _ _ _ _ _ _ _ _ _ _ (mkF m 101 #[.val (.ref a), .val (.int (1 : Int32)), .val (.int (0 : Int32)), .val (.ref b), .val (.int (0 : Int32)), .val (.int (4 : Int32)), .val (.ref ta), .val (.ref tb), .val (.int (0 : Int32))] [(.int (0 : Int32))])
    refine Go.step (fun _ k => XS.goto W.here W.hx rfl (pc0 := 101) (pc' := 116) rfl (W.d drm_101) (by decide) (by decide) k) ?_
    show Go _ _ _ _ _ _ _ _ _ _ (mkF m 116 #[.val (.ref a), .val (.int (1 : Int32)), .val (.int (0 : Int32)), .val (.ref b), .val (.int (0 : Int32)), .val (.int (4 : Int32)), .val (.ref ta), .val (.ref tb), .val (.int (0 : Int32))] [(.int (0 : Int32))])
    exact W.retN (by simp) drm_116 (⟨Or.inr ⟨rfl, hq1⟩, rfl⟩) (by decide) (by decide)

theorem dei4_0 : decode jdk_42_method_70_code 0 = .ok (.aload_n 0, 1) := by decide +kernel
theorem dei4_1 : decode jdk_42_method_70_code 1 = .ok (.aload_n 1, 1) := by decide +kernel
theorem dei4_2 : decode jdk_42_method_70_code 2 = .ok (.if_acmp .ne 7, 3) := by decide +kernel
theorem dei4_9 : decode jdk_42_method_70_code 9 = .ok (.aload_n 1, 1) := by decide +kernel
theorem dei4_10 : decode jdk_42_method_70_code 10 = .ok (.ifnull 33, 3) := by decide +kernel
theorem dei4_13 : decode jdk_42_method_70_code 13 = .ok (.aload_n 1, 1) := by decide +kernel
theorem dei4_14 : decode jdk_42_method_70_code 14 = .ok (.invokevirtual 505, 3) := by decide +kernel
theorem dei4_17 : decode jdk_42_method_70_code 17 = .ok (.aload_n 0, 1) := by decide +kernel
theorem dei4_18 : decode jdk_42_method_70_code 18 = .ok (.invokevirtual 505, 3) := by decide +kernel
theorem dei4_21 : decode jdk_42_method_70_code 21 = .ok (.if_icmp .ne 22, 3) := by decide +kernel
theorem dei4_24 : decode jdk_42_method_70_code 24 = .ok (.aload_n 0, 1) := by decide +kernel
theorem dei4_25 : decode jdk_42_method_70_code 25 = .ok (.iconst 1, 1) := by decide +kernel
theorem dei4_26 : decode jdk_42_method_70_code 26 = .ok (.iconst 0, 1) := by decide +kernel
theorem dei4_27 : decode jdk_42_method_70_code 27 = .ok (.aload_n 1, 1) := by decide +kernel
theorem dei4_28 : decode jdk_42_method_70_code 28 = .ok (.iconst 0, 1) := by decide +kernel
theorem dei4_29 : decode jdk_42_method_70_code 29 = .ok (.aload_n 0, 1) := by decide +kernel
theorem dei4_30 : decode jdk_42_method_70_code 30 = .ok (.invokevirtual 505, 3) := by decide +kernel
theorem dei4_33 : decode jdk_42_method_70_code 33 = .ok (.invokevirtual 582, 3) := by decide +kernel
theorem dei4_36 : decode jdk_42_method_70_code 36 = .ok (.ifCond .eq 7, 3) := by decide +kernel
theorem dei4_39 : decode jdk_42_method_70_code 39 = .ok (.iconst 1, 1) := by decide +kernel
theorem dei4_40 : decode jdk_42_method_70_code 40 = .ok (.goto 4, 3) := by decide +kernel
theorem dei4_43 : decode jdk_42_method_70_code 43 = .ok (.iconst 0, 1) := by decide +kernel
theorem dei4_44 : decode jdk_42_method_70_code 44 = .ok (.ireturn, 1) := by decide +kernel
theorem efei4 (m : MethodId) (x0 : Addr) (x1 : Addr) : entryFrame m #[(.ref x0), (.ref x1)] 2 = mkF m 0 #[.val (.ref x0), .val (.ref x1)] [] := by first | (simp [entryFrame, mkF, argsToLocals, Value.category]; done) | rfl
set_option maxRecDepth 65536 in
set_option maxHeartbeats 40000000 in
theorem c_ei4 {l : Launch} {Z : State} {a0 : Array Value} {G1 : Int32} (X : Ctx Z a0 G1) (a b ta tb : Addr) (ka kb : ClassId) (x0 x1 x2 x3 : Int32) (h0 : Heap) (hE : Ext Z.heap h0) (Aa : Exa Z h0 a "java/lang/String") (FVa : Fld Z h0 a "java/lang/String" "value" "[B" (.ref ta)) (FCa : Fld Z h0 a "java/lang/String" "coder" "B" (.int (0 : Int32))) (Va : Arv Z h0 ta ka .byte (Int32.ofNat [(116 : Int32), (114 : Int32), (117 : Int32), (101 : Int32)].length) ([(116 : Int32), (114 : Int32), (117 : Int32), (101 : Int32)].map fun c => Value.int c.toInt8.toInt32) (.int (0 : Int32))) (Ab : Exa Z h0 b "java/lang/String") (FVb : Fld Z h0 b "java/lang/String" "value" "[B" (.ref tb)) (FCb : Fld Z h0 b "java/lang/String" "coder" "B" (.int (0 : Int32))) (Vb : Arv Z h0 tb kb .byte (Int32.ofNat [x0, x1, x2, x3].length) ([x0, x1, x2, x3].map fun c => Value.int c.toInt8.toInt32) (.int (0 : Int32))) (tx0 : Sm x0) (tx1 : Sm x1) (tx2 : Sm x2) (tx3 : Sm x3) (ne : a ≠ b) :
    Con l Z consts_1 (⟨"java/lang/String", "equalsIgnoreCase", "(Ljava/lang/String;)Z"⟩ : MethodName) jdk_42_method_70_code 2 (some .boolean) [] ({ frames := 3, cells := 0, slots := 0, locals := 53 } : Room) #[(.ref a), (.ref b)] h0 (fun v h => ((v = some (.int 1) ∧ IsTrue [x0, x1, x2, x3]) ∨ (v = some (.int 0) ∧ ¬ IsTrue [x0, x1, x2, x3])) ∧ h0 = h) := by
  refine Con.intro (plainFor_of_name pn_0) hE X.el ?_
  intro p e s m below meth c T W
  have hsz := W.size
  refine Go.cast (efei4 m a b) ?_
  refine Go.step (fun _ k => XS.aloadN W.here W.hx rfl (W.d dei4_0) rfl rfl k) ?_
  show Go _ _ _ _ _ _ _ _ _ _ (mkF m 1 #[.val (.ref a), .val (.ref b)] [(.ref a)])
  refine Go.step (fun _ k => XS.aloadN W.here W.hx rfl (W.d dei4_1) rfl rfl k) ?_
  show Go _ _ _ _ _ _ _ _ _ _ (mkF m 2 #[.val (.ref a), .val (.ref b)] [(.ref b), (.ref a)])
  refine W.acmp (pc' := 9) (same := false) rfl rfl dei4_2 (decide_eq_false fun q => ne (Value.ref.inj q)) (by decide) (by decide) ?_
  show Go _ _ _ _ _ _ _ _ _ _ (mkF m 9 #[.val (.ref a), .val (.ref b)] [])
  refine Go.step (fun _ k => XS.aloadN W.here W.hx rfl (W.d dei4_9) rfl rfl k) ?_
  show Go _ _ _ _ _ _ _ _ _ _ (mkF m 10 #[.val (.ref a), .val (.ref b)] [(.ref b)])
  refine Go.step (fun _ k => XS.ifnullNo W.here W.hx rfl (W.d dei4_10) rfl k) ?_
  show Go _ _ _ _ _ _ _ _ _ _ (mkF m 13 #[.val (.ref a), .val (.ref b)] [])
  refine Go.step (fun _ k => XS.aloadN W.here W.hx rfl (W.d dei4_13) rfl rfl k) ?_
  show Go _ _ _ _ _ _ _ _ _ _ (mkF m 14 #[.val (.ref a), .val (.ref b)] [(.ref b)])
  refine W.virtual (X.w 70 rfl) (X.w 71 rfl) (notFace_of_selects (args := #[]) (mvT W.hZ (X.w 73 rfl))) (X.w 73 rfl) (X.w 72 rfl) (X.w 29 rfl) (X.w 74 rfl) (by decide) (c_len X b tb kb _ _ W.ext Ab FVb FCb Vb) (by decide) (Wd := 0) (by decide) b Ab [] [] rfl pd_4 rfl rfl rfl (Nat.le_of_eq rfl) dei4_14 (by decide) (by decide) ?_
  intro v T h vm W hQ C
  obtain ⟨rfl, rfl⟩ := hQ
  show Go _ _ _ _ _ _ _ _ _ _ (mkF m 17 #[.val (.ref a), .val (.ref b)] [(.int (4 : Int32))])
  refine Go.step (fun _ k => XS.aloadN W.here W.hx rfl (W.d dei4_17) rfl rfl k) ?_
  show Go _ _ _ _ _ _ _ _ _ _ (mkF m 18 #[.val (.ref a), .val (.ref b)] [(.ref a), (.int (4 : Int32))])
  refine W.virtual (X.w 70 rfl) (X.w 71 rfl) (notFace_of_selects (args := #[]) (mvT W.hZ (X.w 73 rfl))) (X.w 73 rfl) (X.w 72 rfl) (X.w 29 rfl) (X.w 74 rfl) (by decide) (c_len X a ta ka _ _ W.ext Aa FVa FCa Va) (by decide) (Wd := 1) (by decide) a Aa [] [(.int (4 : Int32))] rfl pd_4 rfl rfl rfl (Nat.le_of_eq rfl) dei4_18 (by decide) (by decide) ?_
  intro v T h vm W hQ C
  obtain ⟨rfl, rfl⟩ := hQ
  show Go _ _ _ _ _ _ _ _ _ _ (mkF m 21 #[.val (.ref a), .val (.ref b)] [(.int (4 : Int32)), (.int (4 : Int32))])
  refine Go.step (fun _ k => XS.icmpNo W.here W.hx rfl (W.d dei4_21) rfl (teq (by decide : (4 : Int32) = (4 : Int32))).2 k) ?_
  show Go _ _ _ _ _ _ _ _ _ _ (mkF m 24 #[.val (.ref a), .val (.ref b)] [])
  refine Go.step (fun _ k => XS.aloadN W.here W.hx rfl (W.d dei4_24) rfl rfl k) ?_
  show Go _ _ _ _ _ _ _ _ _ _ (mkF m 25 #[.val (.ref a), .val (.ref b)] [(.ref a)])
  refine Go.step (fun _ k => XS.iconst W.here W.hx rfl (W.d dei4_25) k) ?_
  show Go _ _ _ _ _ _ _ _ _ _ (mkF m 26 #[.val (.ref a), .val (.ref b)] [(.int (1 : Int32)), (.ref a)])
  refine Go.step (fun _ k => XS.iconst W.here W.hx rfl (W.d dei4_26) k) ?_
  show Go _ _ _ _ _ _ _ _ _ _ (mkF m 27 #[.val (.ref a), .val (.ref b)] [(.int (0 : Int32)), (.int (1 : Int32)), (.ref a)])
  refine Go.step (fun _ k => XS.aloadN W.here W.hx rfl (W.d dei4_27) rfl rfl k) ?_
  show Go _ _ _ _ _ _ _ _ _ _ (mkF m 28 #[.val (.ref a), .val (.ref b)] [(.ref b), (.int (0 : Int32)), (.int (1 : Int32)), (.ref a)])
  refine Go.step (fun _ k => XS.iconst W.here W.hx rfl (W.d dei4_28) k) ?_
  show Go _ _ _ _ _ _ _ _ _ _ (mkF m 29 #[.val (.ref a), .val (.ref b)] [(.int (0 : Int32)), (.ref b), (.int (0 : Int32)), (.int (1 : Int32)), (.ref a)])
  refine Go.step (fun _ k => XS.aloadN W.here W.hx rfl (W.d dei4_29) rfl rfl k) ?_
  show Go _ _ _ _ _ _ _ _ _ _ (mkF m 30 #[.val (.ref a), .val (.ref b)] [(.ref a), (.int (0 : Int32)), (.ref b), (.int (0 : Int32)), (.int (1 : Int32)), (.ref a)])
  refine W.virtual (X.w 70 rfl) (X.w 71 rfl) (notFace_of_selects (args := #[]) (mvT W.hZ (X.w 73 rfl))) (X.w 73 rfl) (X.w 72 rfl) (X.w 29 rfl) (X.w 74 rfl) (by decide) (c_len X a ta ka _ _ W.ext Aa FVa FCa Va) (by decide) (Wd := 5) (by decide) a Aa [] [(.int (0 : Int32)), (.ref b), (.int (0 : Int32)), (.int (1 : Int32)), (.ref a)] rfl pd_4 rfl rfl rfl (Nat.le_of_eq rfl) dei4_30 (by decide) (by decide) ?_
  intro v T h vm W hQ C
  obtain ⟨rfl, rfl⟩ := hQ
  show Go _ _ _ _ _ _ _ _ _ _ (mkF m 33 #[.val (.ref a), .val (.ref b)] [(.int (4 : Int32)), (.int (0 : Int32)), (.ref b), (.int (0 : Int32)), (.int (1 : Int32)), (.ref a)])
  refine W.virtual (X.w 85 rfl) (X.w 86 rfl) (notFace_of_selects (args := #[]) (mvT W.hZ (X.w 88 rfl))) (X.w 88 rfl) (X.w 87 rfl) (X.w 29 rfl) (X.w 89 rfl) (by decide) (c_rm X a b ta tb ka kb x0 x1 x2 x3 _ W.ext Aa FVa FCa Va Ab FVb FCb Vb tx0 tx1 tx2 tx3) (by decide) (Wd := 0) (by decide) a Aa [(.int (1 : Int32)), (.int (0 : Int32)), (.ref b), (.int (0 : Int32)), (.int (4 : Int32))] [] rfl pd_6 rfl rfl rfl (Nat.le_of_eq rfl) dei4_33 (by decide) (by decide) ?_
  intro v T h vm W hQ C
  obtain ⟨hq1, rfl⟩ := hQ
  rcases hq1 with ⟨rfl, hq1⟩ | ⟨rfl, hq1⟩
  · show Go _ _ _ _ _ _ _ _ _ _ (mkF m 36 #[.val (.ref a), .val (.ref b)] [(.int (1 : Int32))])
    refine Go.step (fun _ k => XS.ifNo W.here W.hx rfl (W.d dei4_36) rfl ((if0 _ _).trans (feq (by decide : ¬ ((1 : Int32) = (0 : Int32)))).1) k) ?_
    show Go _ _ _ _ _ _ _ _ _ _ (mkF m 39 #[.val (.ref a), .val (.ref b)] [])
    refine Go.step (fun _ k => XS.iconst W.here W.hx rfl (W.d dei4_39) k) ?_
    show Go _ _ _ _ _ _ _ _ _ _ (mkF m 40 #[.val (.ref a), .val (.ref b)] [(.int (1 : Int32))])
    refine Go.step (fun _ k => XS.goto W.here W.hx rfl (pc0 := 40) (pc' := 44) rfl (W.d dei4_40) (by decide) (by decide) k) ?_
    show Go _ _ _ _ _ _ _ _ _ _ (mkF m 44 #[.val (.ref a), .val (.ref b)] [(.int (1 : Int32))])
    exact W.retN (by simp) dei4_44 (⟨Or.inl ⟨rfl, hq1⟩, rfl⟩) (by decide) (by decide)
  · show Go _ _ _ _ _ _ _ _ _ _ (mkF m 36 #[.val (.ref a), .val (.ref b)] [(.int (0 : Int32))])
    refine Go.step (fun _ k => XS.ifYes W.here W.hx rfl (pc0 := 36) (pc' := 43) rfl (W.d dei4_36) rfl ((if0 _ _).trans (teq (by decide : (0 : Int32) = (0 : Int32))).1) (by decide) (by decide) k) ?_
    show Go _ _ _ _ _ _ _ _ _ _ (mkF m 43 #[.val (.ref a), .val (.ref b)] [])
    refine Go.step (fun _ k => XS.iconst W.here W.hx rfl (W.d dei4_43) k) ?_
    show Go _ _ _ _ _ _ _ _ _ _ (mkF m 44 #[.val (.ref a), .val (.ref b)] [(.int (0 : Int32))])
    exact W.retN (by simp) dei4_44 (⟨Or.inr ⟨rfl, hq1⟩, rfl⟩) (by decide) (by decide)

theorem deiN_0 : decode jdk_42_method_70_code 0 = .ok (.aload_n 0, 1) := by decide +kernel
theorem deiN_1 : decode jdk_42_method_70_code 1 = .ok (.aload_n 1, 1) := by decide +kernel
theorem deiN_2 : decode jdk_42_method_70_code 2 = .ok (.if_acmp .ne 7, 3) := by decide +kernel
theorem deiN_9 : decode jdk_42_method_70_code 9 = .ok (.aload_n 1, 1) := by decide +kernel
theorem deiN_10 : decode jdk_42_method_70_code 10 = .ok (.ifnull 33, 3) := by decide +kernel
theorem deiN_13 : decode jdk_42_method_70_code 13 = .ok (.aload_n 1, 1) := by decide +kernel
theorem deiN_14 : decode jdk_42_method_70_code 14 = .ok (.invokevirtual 505, 3) := by decide +kernel
theorem deiN_17 : decode jdk_42_method_70_code 17 = .ok (.aload_n 0, 1) := by decide +kernel
theorem deiN_18 : decode jdk_42_method_70_code 18 = .ok (.invokevirtual 505, 3) := by decide +kernel
theorem deiN_21 : decode jdk_42_method_70_code 21 = .ok (.if_icmp .ne 22, 3) := by decide +kernel
theorem deiN_43 : decode jdk_42_method_70_code 43 = .ok (.iconst 0, 1) := by decide +kernel
theorem deiN_44 : decode jdk_42_method_70_code 44 = .ok (.ireturn, 1) := by decide +kernel
theorem efeiN (m : MethodId) (x0 : Addr) (x1 : Addr) : entryFrame m #[(.ref x0), (.ref x1)] 2 = mkF m 0 #[.val (.ref x0), .val (.ref x1)] [] := by first | (simp [entryFrame, mkF, argsToLocals, Value.category]; done) | rfl
set_option maxRecDepth 65536 in
set_option maxHeartbeats 40000000 in
theorem c_eiN {l : Launch} {Z : State} {a0 : Array Value} {G1 : Int32} (X : Ctx Z a0 G1) (a b ta tb : Addr) (ka kb : ClassId) (cs : List Int32) (h0 : Heap) (hE : Ext Z.heap h0) (Aa : Exa Z h0 a "java/lang/String") (FVa : Fld Z h0 a "java/lang/String" "value" "[B" (.ref ta)) (FCa : Fld Z h0 a "java/lang/String" "coder" "B" (.int (0 : Int32))) (Va : Arv Z h0 ta ka .byte (Int32.ofNat [(116 : Int32), (114 : Int32), (117 : Int32), (101 : Int32)].length) ([(116 : Int32), (114 : Int32), (117 : Int32), (101 : Int32)].map fun c => Value.int c.toInt8.toInt32) (.int (0 : Int32))) (Ab : Exa Z h0 b "java/lang/String") (FVb : Fld Z h0 b "java/lang/String" "value" "[B" (.ref tb)) (FCb : Fld Z h0 b "java/lang/String" "coder" "B" (.int (0 : Int32))) (Vb : Arv Z h0 tb kb .byte (Int32.ofNat cs.length) (cs.map fun c => Value.int c.toInt8.toInt32) (.int (0 : Int32))) (ne : a ≠ b) (hne : ¬ Int32.ofNat cs.length = (4 : Int32)) (hnt : ¬ IsTrue cs) :
    Con l Z consts_1 (⟨"java/lang/String", "equalsIgnoreCase", "(Ljava/lang/String;)Z"⟩ : MethodName) jdk_42_method_70_code 2 (some .boolean) [] ({ frames := 3, cells := 0, slots := 0, locals := 53 } : Room) #[(.ref a), (.ref b)] h0 (fun v h => ((v = some (.int 1) ∧ IsTrue cs) ∨ (v = some (.int 0) ∧ ¬ IsTrue cs)) ∧ h0 = h) := by
  refine Con.intro (plainFor_of_name pn_0) hE X.el ?_
  intro p e s m below meth c T W
  have hsz := W.size
  refine Go.cast (efeiN m a b) ?_
  refine Go.step (fun _ k => XS.aloadN W.here W.hx rfl (W.d deiN_0) rfl rfl k) ?_
  show Go _ _ _ _ _ _ _ _ _ _ (mkF m 1 #[.val (.ref a), .val (.ref b)] [(.ref a)])
  refine Go.step (fun _ k => XS.aloadN W.here W.hx rfl (W.d deiN_1) rfl rfl k) ?_
  show Go _ _ _ _ _ _ _ _ _ _ (mkF m 2 #[.val (.ref a), .val (.ref b)] [(.ref b), (.ref a)])
  refine W.acmp (pc' := 9) (same := false) rfl rfl deiN_2 (decide_eq_false fun q => ne (Value.ref.inj q)) (by decide) (by decide) ?_
  show Go _ _ _ _ _ _ _ _ _ _ (mkF m 9 #[.val (.ref a), .val (.ref b)] [])
  refine Go.step (fun _ k => XS.aloadN W.here W.hx rfl (W.d deiN_9) rfl rfl k) ?_
  show Go _ _ _ _ _ _ _ _ _ _ (mkF m 10 #[.val (.ref a), .val (.ref b)] [(.ref b)])
  refine Go.step (fun _ k => XS.ifnullNo W.here W.hx rfl (W.d deiN_10) rfl k) ?_
  show Go _ _ _ _ _ _ _ _ _ _ (mkF m 13 #[.val (.ref a), .val (.ref b)] [])
  refine Go.step (fun _ k => XS.aloadN W.here W.hx rfl (W.d deiN_13) rfl rfl k) ?_
  show Go _ _ _ _ _ _ _ _ _ _ (mkF m 14 #[.val (.ref a), .val (.ref b)] [(.ref b)])
  refine W.virtual (X.w 70 rfl) (X.w 71 rfl) (notFace_of_selects (args := #[]) (mvT W.hZ (X.w 73 rfl))) (X.w 73 rfl) (X.w 72 rfl) (X.w 29 rfl) (X.w 74 rfl) (by decide) (c_len X b tb kb _ _ W.ext Ab FVb FCb Vb) (by decide) (Wd := 0) (by decide) b Ab [] [] rfl pd_4 rfl rfl rfl (Nat.le_of_eq rfl) deiN_14 (by decide) (by decide) ?_
  intro v T h vm W hQ C
  obtain ⟨rfl, rfl⟩ := hQ
  show Go _ _ _ _ _ _ _ _ _ _ (mkF m 17 #[.val (.ref a), .val (.ref b)] [(.int (Int32.ofNat cs.length))])
  refine Go.step (fun _ k => XS.aloadN W.here W.hx rfl (W.d deiN_17) rfl rfl k) ?_
  show Go _ _ _ _ _ _ _ _ _ _ (mkF m 18 #[.val (.ref a), .val (.ref b)] [(.ref a), (.int (Int32.ofNat cs.length))])
  refine W.virtual (X.w 70 rfl) (X.w 71 rfl) (notFace_of_selects (args := #[]) (mvT W.hZ (X.w 73 rfl))) (X.w 73 rfl) (X.w 72 rfl) (X.w 29 rfl) (X.w 74 rfl) (by decide) (c_len X a ta ka _ _ W.ext Aa FVa FCa Va) (by decide) (Wd := 1) (by decide) a Aa [] [(.int (Int32.ofNat cs.length))] rfl pd_4 rfl rfl rfl (Nat.le_of_eq rfl) deiN_18 (by decide) (by decide) ?_
  intro v T h vm W hQ C
  obtain ⟨rfl, rfl⟩ := hQ
  show Go _ _ _ _ _ _ _ _ _ _ (mkF m 21 #[.val (.ref a), .val (.ref b)] [(.int (4 : Int32)), (.int (Int32.ofNat cs.length))])
  refine Go.step (fun _ k => XS.icmpYes W.here W.hx rfl (pc0 := 21) (pc' := 43) rfl (W.d deiN_21) rfl (feq hne).2 (by decide) (by decide) k) ?_
  show Go _ _ _ _ _ _ _ _ _ _ (mkF m 43 #[.val (.ref a), .val (.ref b)] [])
  refine Go.step (fun _ k => XS.iconst W.here W.hx rfl (W.d deiN_43) k) ?_
  show Go _ _ _ _ _ _ _ _ _ _ (mkF m 44 #[.val (.ref a), .val (.ref b)] [(.int (0 : Int32))])
  exact W.retN (by simp) deiN_44 (⟨Or.inr ⟨rfl, hnt⟩, rfl⟩) (by decide) (by decide)

theorem deiS_0 : decode jdk_42_method_70_code 0 = .ok (.aload_n 0, 1) := by decide +kernel
theorem deiS_1 : decode jdk_42_method_70_code 1 = .ok (.aload_n 1, 1) := by decide +kernel
theorem deiS_2 : decode jdk_42_method_70_code 2 = .ok (.if_acmp .ne 7, 3) := by decide +kernel
theorem deiS_5 : decode jdk_42_method_70_code 5 = .ok (.iconst 1, 1) := by decide +kernel
theorem deiS_6 : decode jdk_42_method_70_code 6 = .ok (.goto 38, 3) := by decide +kernel
theorem deiS_44 : decode jdk_42_method_70_code 44 = .ok (.ireturn, 1) := by decide +kernel
theorem efeiS (m : MethodId) (x0 : Addr) (x1 : Addr) : entryFrame m #[(.ref x0), (.ref x1)] 2 = mkF m 0 #[.val (.ref x0), .val (.ref x1)] [] := by first | (simp [entryFrame, mkF, argsToLocals, Value.category]; done) | rfl
set_option maxRecDepth 65536 in
set_option maxHeartbeats 40000000 in
theorem c_eiS {l : Launch} {Z : State} {a0 : Array Value} {G1 : Int32} (X : Ctx Z a0 G1) (a : Addr) (cs : List Int32) (h0 : Heap) (hE : Ext Z.heap h0) (ht : IsTrue cs) :
    Con l Z consts_1 (⟨"java/lang/String", "equalsIgnoreCase", "(Ljava/lang/String;)Z"⟩ : MethodName) jdk_42_method_70_code 2 (some .boolean) [] ({ frames := 3, cells := 0, slots := 0, locals := 53 } : Room) #[(.ref a), (.ref a)] h0 (fun v h => ((v = some (.int 1) ∧ IsTrue cs) ∨ (v = some (.int 0) ∧ ¬ IsTrue cs)) ∧ h0 = h) := by
  refine Con.intro (plainFor_of_name pn_0) hE X.el ?_
  intro p e s m below meth c T W
  have hsz := W.size
  refine Go.cast (efeiS m a a) ?_
  refine Go.step (fun _ k => XS.aloadN W.here W.hx rfl (W.d deiS_0) rfl rfl k) ?_
  show Go _ _ _ _ _ _ _ _ _ _ (mkF m 1 #[.val (.ref a), .val (.ref a)] [(.ref a)])
  refine Go.step (fun _ k => XS.aloadN W.here W.hx rfl (W.d deiS_1) rfl rfl k) ?_
  show Go _ _ _ _ _ _ _ _ _ _ (mkF m 2 #[.val (.ref a), .val (.ref a)] [(.ref a), (.ref a)])
  refine W.acmp (pc' := 5) (same := true) rfl rfl deiS_2 (decide_eq_true rfl) (by decide) (by decide) ?_
  show Go _ _ _ _ _ _ _ _ _ _ (mkF m 5 #[.val (.ref a), .val (.ref a)] [])
  refine Go.step (fun _ k => XS.iconst W.here W.hx rfl (W.d deiS_5) k) ?_
  show Go _ _ _ _ _ _ _ _ _ _ (mkF m 6 #[.val (.ref a), .val (.ref a)] [(.int (1 : Int32))])
  refine Go.step (fun _ k => XS.goto W.here W.hx rfl (pc0 := 6) (pc' := 44) rfl (W.d deiS_6) (by decide) (by decide) k) ?_
  show Go _ _ _ _ _ _ _ _ _ _ (mkF m 44 #[.val (.ref a), .val (.ref a)] [(.int (1 : Int32))])
  exact W.retN (by simp) deiS_44 (⟨Or.inl ⟨rfl, ht⟩, rfl⟩) (by decide) (by decide)

theorem c_ei {l : Launch} {Z : State} {a0 : Array Value} {G1 : Int32} (X : Ctx Z a0 G1) (a b : Addr) (cs : List Int32) (h0 : Heap) (hE : Ext Z.heap h0) (S1 : Str Z h0 a [(116 : Int32), (114 : Int32), (117 : Int32), (101 : Int32)]) (S2 : Str Z h0 b cs) :
    Con l Z consts_1 (⟨"java/lang/String", "equalsIgnoreCase", "(Ljava/lang/String;)Z"⟩ : MethodName) jdk_42_method_70_code 2 (some .boolean) [] ({ frames := 3, cells := 0, slots := 0, locals := 53 } : Room) #[(.ref a), (.ref b)] h0 (fun v h => ((v = some (.int 1) ∧ IsTrue cs) ∨ (v = some (.int 0) ∧ ¬ IsTrue cs)) ∧ h0 = h) := by
  by_cases e : a = b
  · subst e
    have u := S1.uniq S2
    subst u
    exact c_eiS X a _ h0 hE ((isTrue4 _ _ _ _).mpr ⟨Or.inl rfl, Or.inl rfl, Or.inl rfl, Or.inl rfl⟩)
  · obtain ⟨t, kb, q1, q2, q3, q4, q5, q6⟩ := S1
    obtain ⟨t', kb', r1, r2, r3, r4, r5, r6⟩ := S2
    by_cases hn : cs.length = 4
    · match cs, hn, r4, r5 with
      | [x0, x1, x2, x3], _, r4, r5 => exact c_ei4 X a b t t' kb kb' x0 x1 x2 x3 h0 hE q1 q2 q3 q4 r1 r2 r3 r4 (r5 _ (by simp)) (r5 _ (by simp)) (r5 _ (by simp)) (r5 _ (by simp)) e
    · refine c_eiN X a b t t' kb kb' cs h0 hE q1 q2 q3 q4 r1 r2 r3 r4 e (fun q => hn ?_) (fun q => hn (isTrue_len q))
      have := congrArg Int32.toInt q
      rw [Int32.toInt_ofNat_of_lt (by omega), show (4 : Int32).toInt = 4 from rfl] at this
      omega

theorem dpb_0 : decode jdk_2055_method_3_code 0 = .ok (.ldc 20, 2) := by decide +kernel
theorem dpb_2 : decode jdk_2055_method_3_code 2 = .ok (.aload_n 0, 1) := by decide +kernel
theorem dpb_3 : decode jdk_2055_method_3_code 3 = .ok (.invokevirtual 22, 3) := by decide +kernel
theorem dpb_6 : decode jdk_2055_method_3_code 6 = .ok (.ireturn, 1) := by decide +kernel
theorem efpb (m : MethodId) (x0 : Addr) : entryFrame m #[(.ref x0)] 1 = mkF m 0 #[.val (.ref x0)] [] := by first | (simp [entryFrame, mkF, argsToLocals, Value.category]; done) | rfl
set_option maxRecDepth 65536 in
set_option maxHeartbeats 40000000 in
theorem c_pb {l : Launch} {Z : State} {a0 : Array Value} {G1 : Int32} (X : Ctx Z a0 G1) (b : Addr) (cs : List Int32) (h0 : Heap) (hE : Ext Z.heap h0) (S : Str Z h0 b cs) :
    Con l Z consts_1 (⟨"java/lang/Boolean", "parseBoolean", "(Ljava/lang/String;)Z"⟩ : MethodName) jdk_2055_method_3_code 1 (some .boolean) [] ({ frames := 4, cells := 2, slots := 20, locals := 66 } : Room) #[(.ref b)] h0 (fun v h => ((v = some (.int 1) ∧ IsTrue cs) ∨ (v = some (.int 0) ∧ ¬ IsTrue cs)) ∧ Keep h0 h []) := by
  refine Con.intro (plainFor_of_name pn_1) hE X.el ?_
  intro p e s m below meth c T W
  have hsz := W.size
  refine Go.cast (efpb m b) ?_
  have KP := Keep.refl h0 []
  refine W.ldcR (X.w 62 rfl) X.ws (List.mem_of_getElem? (i := 0) rfl) (vs := [(.int (116 : Int32)), (.int (114 : Int32)), (.int (117 : Int32)), (.int (101 : Int32))]) (z := 4) ⟨by decide +kernel, by decide +kernel⟩ (by decide) rfl dpb_0 (n := 16) (by decide) (by decide) (by decide) (by decide) ?_
  intro T h vm s1 qs1 ks1 W Es1 Cs1 A1s1 A2s1 A3s1 A4s1 Ns1
  replace S := S.ext Es1
  replace KP := KP.ext Es1
  replace hsz := W.size
  have Ss1 : Str Z h s1 [(116 : Int32), (114 : Int32), (117 : Int32), (101 : Int32)] := ⟨qs1, ks1, A1s1, A3s1, A2s1, A4s1, (smS (by decide) (smS (by decide) (smS (by decide) (smS (by decide) sm0)))), Nat.le_of_ble_eq_true rfl⟩
  show Go _ _ _ _ _ _ _ _ _ _ (mkF m 2 #[.val (.ref b)] [(.ref s1)])
  refine Go.step (fun _ k => XS.aloadN W.here W.hx rfl (W.d dpb_2) rfl rfl k) ?_
  show Go _ _ _ _ _ _ _ _ _ _ (mkF m 3 #[.val (.ref b)] [(.ref b), (.ref s1)])
  refine W.virtual (X.w 65 rfl) (X.w 66 rfl) (notFace_of_selects (args := #[]) (mvT W.hZ (X.w 68 rfl))) (X.w 68 rfl) (X.w 67 rfl) (X.w 29 rfl) (X.w 69 rfl) (by decide) (c_ei X s1 b _ _ W.ext Ss1 S) (by decide) (Wd := 0) (by decide) s1 Ss1.exa [(.ref b)] [] rfl pd_7 rfl rfl rfl (Nat.le_of_eq rfl) dpb_3 (by decide) (by decide) ?_
  intro v T h vm W hQ C
  obtain ⟨hq2, rfl⟩ := hQ
  rcases hq2 with ⟨rfl, hq2⟩ | ⟨rfl, hq2⟩
  · show Go _ _ _ _ _ _ _ _ _ _ (mkF m 6 #[.val (.ref b)] [(.int (1 : Int32))])
    exact W.retN (by simp) dpb_6 (⟨Or.inl ⟨rfl, hq2⟩, KP⟩) (by decide) (by decide)
  · show Go _ _ _ _ _ _ _ _ _ _ (mkF m 6 #[.val (.ref b)] [(.int (0 : Int32))])
    exact W.retN (by simp) dpb_6 (⟨Or.inr ⟨rfl, hq2⟩, KP⟩) (by decide) (by decide)

theorem dtbs_0 : decode prog_17_method_5_code 0 = .ok (.aload_n 0, 1) := by decide +kernel
theorem dtbs_1 : decode prog_17_method_5_code 1 = .ok (.ifnonnull 8, 3) := by decide +kernel
theorem dtbs_9 : decode prog_17_method_5_code 9 = .ok (.aload_n 0, 1) := by decide +kernel
theorem dtbs_10 : decode prog_17_method_5_code 10 = .ok (.instanceof 61, 3) := by decide +kernel
theorem dtbs_13 : decode prog_17_method_5_code 13 = .ok (.ifCond .eq 16, 3) := by decide +kernel
theorem dtbs_29 : decode prog_17_method_5_code 29 = .ok (.aload_n 0, 1) := by decide +kernel
theorem dtbs_30 : decode prog_17_method_5_code 30 = .ok (.instanceof 8, 3) := by decide +kernel
theorem dtbs_33 : decode prog_17_method_5_code 33 = .ok (.ifCond .eq 16, 3) := by decide +kernel
theorem dtbs_36 : decode prog_17_method_5_code 36 = .ok (.aload_n 0, 1) := by decide +kernel
theorem dtbs_37 : decode prog_17_method_5_code 37 = .ok (.checkcast 8, 3) := by decide +kernel
theorem dtbs_40 : decode prog_17_method_5_code 40 = .ok (.astore_n 2, 1) := by decide +kernel
theorem dtbs_41 : decode prog_17_method_5_code 41 = .ok (.aload_n 2, 1) := by decide +kernel
theorem dtbs_42 : decode prog_17_method_5_code 42 = .ok (.invokestatic 180, 3) := by decide +kernel
theorem dtbs_45 : decode prog_17_method_5_code 45 = .ok (.istore_n 1, 1) := by decide +kernel
theorem dtbs_46 : decode prog_17_method_5_code 46 = .ok (.goto 10, 3) := by decide +kernel
theorem dtbs_56 : decode prog_17_method_5_code 56 = .ok (.iload_n 1, 1) := by decide +kernel
theorem dtbs_57 : decode prog_17_method_5_code 57 = .ok (.ireturn, 1) := by decide +kernel
theorem eftbs (m : MethodId) (x0 : Addr) : entryFrame m #[(.ref x0)] 4 = mkF m 0 #[.val (.ref x0), .unset, .unset, .unset] [] := by first | (simp [entryFrame, mkF, argsToLocals, Value.category]; done) | rfl
set_option maxRecDepth 65536 in
set_option maxHeartbeats 40000000 in
theorem c_tbs {l : Launch} {Z : State} {a0 : Array Value} {G1 : Int32} (X : Ctx Z a0 G1) (b : Addr) (cs : List Int32) (h0 : Heap) (hE : Ext Z.heap h0) (S : Str Z h0 b cs) :
    Con l Z consts_1 (⟨"com/example/wary_validator/waryvalidator/messageinterpolation/ExpressionOperators", "toBoolean", "(Ljava/lang/Object;)Z"⟩ : MethodName) prog_17_method_5_code 4 (some .boolean) [] ({ frames := 5, cells := 2, slots := 20, locals := 78 } : Room) #[(.ref b)] h0 (fun v h => ((v = some (.int 1) ∧ IsTrue cs) ∨ (v = some (.int 0) ∧ ¬ IsTrue cs)) ∧ Keep h0 h []) := by
  refine Con.intro (plainFor_of_name pn_2) hE X.el ?_
  intro p e s m below meth c T W
  have hsz := W.size
  refine Go.cast (eftbs m b) ?_
  refine Go.step (fun _ k => XS.aloadN W.here W.hx rfl (W.d dtbs_0) rfl rfl k) ?_
  show Go _ _ _ _ _ _ _ _ _ _ (mkF m 1 #[.val (.ref b), .unset, .unset, .unset] [(.ref b)])
  refine Go.step (fun _ k => XS.ifnonnullYes W.here W.hx rfl (pc0 := 1) (pc' := 9) rfl (W.d dtbs_1) rfl (by decide) (by decide) k) ?_
  show Go _ _ _ _ _ _ _ _ _ _ (mkF m 9 #[.val (.ref b), .unset, .unset, .unset] [])
  refine Go.step (fun _ k => XS.aloadN W.here W.hx rfl (W.d dtbs_9) rfl rfl k) ?_
  show Go _ _ _ _ _ _ _ _ _ _ (mkF m 10 #[.val (.ref b), .unset, .unset, .unset] [(.ref b)])
  refine W.instN (X.w 9 rfl) S.exa (NSno (X.w 56 rfl) (nf_sel (y := (⟨"java/lang/Boolean", "booleanValue", "()Z"⟩ : MethodName)) (X.w 14 rfl)) (NS.step (X.w 56 rfl) (NSr (X.w 57 rfl) (nf_sel (y := (⟨"java/lang/Boolean", "booleanValue", "()Z"⟩ : MethodName)) (X.w 14 rfl)) (by decide)) (by decide)) (by decide)) dtbs_10 ?_
  intro T W
  show Go _ _ _ _ _ _ _ _ _ _ (mkF m 13 #[.val (.ref b), .unset, .unset, .unset] [(.int (0 : Int32))])
  refine Go.step (fun _ k => XS.ifYes W.here W.hx rfl (pc0 := 13) (pc' := 29) rfl (W.d dtbs_13) rfl ((if0 _ _).trans (teq (by decide : (0 : Int32) = (0 : Int32))).1) (by decide) (by decide) k) ?_
  show Go _ _ _ _ _ _ _ _ _ _ (mkF m 29 #[.val (.ref b), .unset, .unset, .unset] [])
  refine Go.step (fun _ k => XS.aloadN W.here W.hx rfl (W.d dtbs_29) rfl rfl k) ?_
  show Go _ _ _ _ _ _ _ _ _ _ (mkF m 30 #[.val (.ref b), .unset, .unset, .unset] [(.ref b)])
  refine W.instY (X.w 58 rfl) (Ins.self S.exa) dtbs_30 ?_
  intro T W
  show Go _ _ _ _ _ _ _ _ _ _ (mkF m 33 #[.val (.ref b), .unset, .unset, .unset] [(.int (1 : Int32))])
  refine Go.step (fun _ k => XS.ifNo W.here W.hx rfl (W.d dtbs_33) rfl ((if0 _ _).trans (feq (by decide : ¬ ((1 : Int32) = (0 : Int32)))).1) k) ?_
  show Go _ _ _ _ _ _ _ _ _ _ (mkF m 36 #[.val (.ref b), .unset, .unset, .unset] [])
  refine Go.step (fun _ k => XS.aloadN W.here W.hx rfl (W.d dtbs_36) rfl rfl k) ?_
  show Go _ _ _ _ _ _ _ _ _ _ (mkF m 37 #[.val (.ref b), .unset, .unset, .unset] [(.ref b)])
  refine W.cast (X.w 58 rfl) (Ins.self S.exa) dtbs_37 ?_
  intro T W
  show Go _ _ _ _ _ _ _ _ _ _ (mkF m 40 #[.val (.ref b), .unset, .unset, .unset] [(.ref b)])
  refine Go.step (fun _ k => XS.astoreN W.here W.hx rfl (W.d dtbs_40) rfl rfl (l' := #[.val (.ref b), .unset, .val (.ref b), .unset]) rfl k) ?_
  show Go _ _ _ _ _ _ _ _ _ _ (mkF m 41 #[.val (.ref b), .unset, .val (.ref b), .unset] [])
  refine Go.step (fun _ k => XS.aloadN W.here W.hx rfl (W.d dtbs_41) rfl rfl k) ?_
  show Go _ _ _ _ _ _ _ _ _ _ (mkF m 42 #[.val (.ref b), .unset, .val (.ref b), .unset] [(.ref b)])
  refine W.callS (X.w 59 rfl) (X.w 60 rfl) (X.w 6 rfl) (X.w 61 rfl) (by decide) (c_pb X b cs _ W.ext S) (by decide) (Wd := 0) (by decide) [(.ref b)] [] rfl pd_7 rfl rfl rfl (Nat.le_of_eq rfl) dtbs_42 (by decide) (by decide) ?_
  intro v T h vm W hQ C
  obtain ⟨hq1, KP⟩ := hQ
  rcases hq1 with ⟨rfl, hq1⟩ | ⟨rfl, hq1⟩
  · show Go _ _ _ _ _ _ _ _ _ _ (mkF m 45 #[.val (.ref b), .unset, .val (.ref b), .unset] [(.int (1 : Int32))])
    refine Go.step (fun _ k => XS.istoreN W.here W.hx rfl (W.d dtbs_45) rfl (l' := #[.val (.ref b), .val (.int (1 : Int32)), .val (.ref b), .unset]) rfl k) ?_
    show Go _ _ _ _ _ _ _ _ _ _ (mkF m 46 #[.val (.ref b), .val (.int (1 : Int32)), .val (.ref b), .unset] [])
    refine Go.step (fun _ k => XS.goto W.here W.hx rfl (pc0 := 46) (pc' := 56) rfl (W.d dtbs_46) (by decide) (by decide) k) ?_
    show Go _ _ _ _ _ _ _ _ _ _ (mkF m 56 #[.val (.ref b), .val (.int (1 : Int32)), .val (.ref b), .unset] [])
    refine Go.step (fun _ k => XS.iloadN W.here W.hx rfl (W.d dtbs_56) rfl k) ?_
    show Go _ _ _ _ _ _ _ _ _ _ (mkF m 57 #[.val (.ref b), .val (.int (1 : Int32)), .val (.ref b), .unset] [(.int (1 : Int32))])
    exact W.retN (by simp) dtbs_57 (⟨Or.inl ⟨rfl, hq1⟩, KP⟩) (by decide) (by decide)
  · show Go _ _ _ _ _ _ _ _ _ _ (mkF m 45 #[.val (.ref b), .unset, .val (.ref b), .unset] [(.int (0 : Int32))])
    refine Go.step (fun _ k => XS.istoreN W.here W.hx rfl (W.d dtbs_45) rfl (l' := #[.val (.ref b), .val (.int (0 : Int32)), .val (.ref b), .unset]) rfl k) ?_
    show Go _ _ _ _ _ _ _ _ _ _ (mkF m 46 #[.val (.ref b), .val (.int (0 : Int32)), .val (.ref b), .unset] [])
    refine Go.step (fun _ k => XS.goto W.here W.hx rfl (pc0 := 46) (pc' := 56) rfl (W.d dtbs_46) (by decide) (by decide) k) ?_
    show Go _ _ _ _ _ _ _ _ _ _ (mkF m 56 #[.val (.ref b), .val (.int (0 : Int32)), .val (.ref b), .unset] [])
    refine Go.step (fun _ k => XS.iloadN W.here W.hx rfl (W.d dtbs_56) rfl k) ?_
    show Go _ _ _ _ _ _ _ _ _ _ (mkF m 57 #[.val (.ref b), .val (.int (0 : Int32)), .val (.ref b), .unset] [(.int (0 : Int32))])
    exact W.retN (by simp) dtbs_57 (⟨Or.inr ⟨rfl, hq1⟩, KP⟩) (by decide) (by decide)

abbrev N6 (z : Int32) : Prop := z = 0 ∨ z = 1 ∨ z = 2 ∨ z = 3 ∨ z = 4 ∨ z = 5
theorem ef0 (m : MethodId) (x0 : Int32) (x1 : Int32) (x2 : Int32) (x3 : Int32) (x4 : Int32) (x5 : Int32) : entryFrame m #[(.int x0), (.int x1), (.int x2), (.int x3), (.int x4), (.int x5)] maxLocals = mkF m 0 #[.val (.int x0), .val (.int x1), .val (.int x2), .val (.int x3), .val (.int x4), .val (.int x5), .unset, .unset, .unset, .unset, .unset, .unset, .unset, .unset, .unset, .unset] [] := by first | (simp [entryFrame, mkF, argsToLocals, Value.category, maxLocals]; done) | rfl
set_option maxRecDepth 65536 in
set_option maxHeartbeats 40000000 in
theorem c_law {l : Launch} {Z : State} {a0 : Array Value} {G1 : Int32} (X : Ctx Z a0 G1) (p0 p1 p2 p3 p4 p5 : Int32) (h0 : Heap) (hE : Ext Z.heap h0) (bt bf : Addr) (N : Bo Z bt bf) :
    Con l Z consts_1 x code maxLocals ret tables_1 room_1 #[(.int p0), (.int p1), (.int p2), (.int p3), (.int p4), (.int p5)] h0 (fun v _ => v = some (.int 1)) := by
  refine Con.intro (plainFor_of_name pn_3) hE X.el ?_
  intro p e s m below meth c T W
  have hsz := W.size
  refine Go.cast (ef0 m p0 p1 p2 p3 p4 p5) ?_
  refine Go.step (fun _ k => XS.iloadN W.here W.hx rfl (W.d at_0) rfl k) ?_
  show Go _ _ _ _ _ _ _ _ _ _ (mkF m 1 #[.val (.int p0), .val (.int p1), .val (.int p2), .val (.int p3), .val (.int p4), .val (.int p5), .unset, .unset, .unset, .unset, .unset, .unset, .unset, .unset, .unset, .unset] [(.int p0)])
  refine Go.step (fun _ k => XS.iconst W.here W.hx rfl (W.d at_1) k) ?_
  show Go _ _ _ _ _ _ _ _ _ _ (mkF m 2 #[.val (.int p0), .val (.int p1), .val (.int p2), .val (.int p3), .val (.int p4), .val (.int p5), .unset, .unset, .unset, .unset, .unset, .unset, .unset, .unset, .unset, .unset] [(.int (3 : Int32)), (.int p0)])
  refine Go.step (fun _ k => XS.iand W.here W.hx rfl (W.d at_2) rfl k) ?_
  show Go _ _ _ _ _ _ _ _ _ _ (mkF m 3 #[.val (.int p0), .val (.int p1), .val (.int p2), .val (.int p3), .val (.int p4), .val (.int p5), .unset, .unset, .unset, .unset, .unset, .unset, .unset, .unset, .unset, .unset] [(.int (p0 &&& (3 : Int32)))])
  refine Go.step (fun _ k => XS.istore W.here W.hx rfl (W.d at_3) rfl (l' := #[.val (.int p0), .val (.int p1), .val (.int p2), .val (.int p3), .val (.int p4), .val (.int p5), .val (.int (p0 &&& (3 : Int32))), .unset, .unset, .unset, .unset, .unset, .unset, .unset, .unset, .unset]) rfl k) ?_
  show Go _ _ _ _ _ _ _ _ _ _ (mkF m 5 #[.val (.int p0), .val (.int p1), .val (.int p2), .val (.int p3), .val (.int p4), .val (.int p5), .val (.int (p0 &&& (3 : Int32))), .unset, .unset, .unset, .unset, .unset, .unset, .unset, .unset, .unset] [])
  refine Go.step (fun _ k => XS.iload W.here W.hx rfl (W.d at_5) rfl k) ?_
  show Go _ _ _ _ _ _ _ _ _ _ (mkF m 7 #[.val (.int p0), .val (.int p1), .val (.int p2), .val (.int p3), .val (.int p4), .val (.int p5), .val (.int (p0 &&& (3 : Int32))), .unset, .unset, .unset, .unset, .unset, .unset, .unset, .unset, .unset] [(.int (p0 &&& (3 : Int32)))])
  by_cases hc1 : (p0 &&& (3 : Int32)) = (0 : Int32)
  · refine Go.step (fun _ k => XS.ifNo W.here W.hx rfl (W.d at_7) rfl ((if0 _ _).trans (teq hc1).2) k) ?_
    show Go _ _ _ _ _ _ _ _ _ _ (mkF m 10 #[.val (.int p0), .val (.int p1), .val (.int p2), .val (.int p3), .val (.int p4), .val (.int p5), .val (.int (p0 &&& (3 : Int32))), .unset, .unset, .unset, .unset, .unset, .unset, .unset, .unset, .unset] [])
    refine Go.step (fun _ k => XS.aconstNull W.here W.hx rfl (W.d at_10) k) ?_
    show Go _ _ _ _ _ _ _ _ _ _ (mkF m 11 #[.val (.int p0), .val (.int p1), .val (.int p2), .val (.int p3), .val (.int p4), .val (.int p5), .val (.int (p0 &&& (3 : Int32))), .unset, .unset, .unset, .unset, .unset, .unset, .unset, .unset, .unset] [.null])
    refine Go.step (fun _ k => XS.astore W.here W.hx rfl (W.d at_11) rfl rfl (l' := #[.val (.int p0), .val (.int p1), .val (.int p2), .val (.int p3), .val (.int p4), .val (.int p5), .val (.int (p0 &&& (3 : Int32))), .val .null, .unset, .unset, .unset, .unset, .unset, .unset, .unset, .unset]) rfl k) ?_
    show Go _ _ _ _ _ _ _ _ _ _ (mkF m 13 #[.val (.int p0), .val (.int p1), .val (.int p2), .val (.int p3), .val (.int p4), .val (.int p5), .val (.int (p0 &&& (3 : Int32))), .val .null, .unset, .unset, .unset, .unset, .unset, .unset, .unset, .unset] [])
    refine Go.step (fun _ k => XS.aload W.here W.hx rfl (W.d at_13) rfl rfl k) ?_
    show Go _ _ _ _ _ _ _ _ _ _ (mkF m 15 #[.val (.int p0), .val (.int p1), .val (.int p2), .val (.int p3), .val (.int p4), .val (.int p5), .val (.int (p0 &&& (3 : Int32))), .val .null, .unset, .unset, .unset, .unset, .unset, .unset, .unset, .unset] [.null])
    refine W.callS (X.w 0 rfl) (X.w 1 rfl) (X.w 2 rfl) (X.w 3 rfl) (by decide) (c_tbn X _ W.ext) (by decide) (Wd := 0) (by decide) [.null] [] rfl pd_8 rfl rfl rfl (Nat.le_of_eq rfl) at_15 (by decide) (by decide) ?_
    intro v T h vm W hQ C
    obtain ⟨rfl, rfl⟩ := hQ
    show Go _ _ _ _ _ _ _ _ _ _ (mkF m 18 #[.val (.int p0), .val (.int p1), .val (.int p2), .val (.int p3), .val (.int p4), .val (.int p5), .val (.int (p0 &&& (3 : Int32))), .val .null, .unset, .unset, .unset, .unset, .unset, .unset, .unset, .unset] [(.int (0 : Int32))])
    refine Go.step (fun _ k => XS.ifNo W.here W.hx rfl (W.d at_18) rfl ((if0 _ _).trans (teq (by decide : (0 : Int32) = (0 : Int32))).2) k) ?_
    show Go _ _ _ _ _ _ _ _ _ _ (mkF m 21 #[.val (.int p0), .val (.int p1), .val (.int p2), .val (.int p3), .val (.int p4), .val (.int p5), .val (.int (p0 &&& (3 : Int32))), .val .null, .unset, .unset, .unset, .unset, .unset, .unset, .unset, .unset] [])
    refine Go.step (fun _ k => XS.iconst W.here W.hx rfl (W.d at_21) k) ?_
    show Go _ _ _ _ _ _ _ _ _ _ (mkF m 22 #[.val (.int p0), .val (.int p1), .val (.int p2), .val (.int p3), .val (.int p4), .val (.int p5), .val (.int (p0 &&& (3 : Int32))), .val .null, .unset, .unset, .unset, .unset, .unset, .unset, .unset, .unset] [(.int (1 : Int32))])
    refine Go.step (fun _ k => XS.goto W.here W.hx rfl (pc0 := 22) (pc' := 26) rfl (W.d at_22) (by decide) (by decide) k) ?_
    show Go _ _ _ _ _ _ _ _ _ _ (mkF m 26 #[.val (.int p0), .val (.int p1), .val (.int p2), .val (.int p3), .val (.int p4), .val (.int p5), .val (.int (p0 &&& (3 : Int32))), .val .null, .unset, .unset, .unset, .unset, .unset, .unset, .unset, .unset] [(.int (1 : Int32))])
    exact W.retN (by simp) at_26 (rfl) (by decide) (by decide)
  · refine Go.step (fun _ k => XS.ifYes W.here W.hx rfl (pc0 := 7) (pc' := 27) rfl (W.d at_7) rfl ((if0 _ _).trans (feq hc1).2) (by decide) (by decide) k) ?_
    show Go _ _ _ _ _ _ _ _ _ _ (mkF m 27 #[.val (.int p0), .val (.int p1), .val (.int p2), .val (.int p3), .val (.int p4), .val (.int p5), .val (.int (p0 &&& (3 : Int32))), .unset, .unset, .unset, .unset, .unset, .unset, .unset, .unset, .unset] [])
    refine Go.step (fun _ k => XS.iload W.here W.hx rfl (W.d at_27) rfl k) ?_
    show Go _ _ _ _ _ _ _ _ _ _ (mkF m 29 #[.val (.int p0), .val (.int p1), .val (.int p2), .val (.int p3), .val (.int p4), .val (.int p5), .val (.int (p0 &&& (3 : Int32))), .unset, .unset, .unset, .unset, .unset, .unset, .unset, .unset, .unset] [(.int (p0 &&& (3 : Int32)))])
    refine Go.step (fun _ k => XS.iconst W.here W.hx rfl (W.d at_29) k) ?_
    show Go _ _ _ _ _ _ _ _ _ _ (mkF m 30 #[.val (.int p0), .val (.int p1), .val (.int p2), .val (.int p3), .val (.int p4), .val (.int p5), .val (.int (p0 &&& (3 : Int32))), .unset, .unset, .unset, .unset, .unset, .unset, .unset, .unset, .unset] [(.int (1 : Int32)), (.int (p0 &&& (3 : Int32)))])
    by_cases hc2 : (p0 &&& (3 : Int32)) = (1 : Int32)
    · refine Go.step (fun _ k => XS.icmpNo W.here W.hx rfl (W.d at_30) rfl (teq hc2).2 k) ?_
      show Go _ _ _ _ _ _ _ _ _ _ (mkF m 33 #[.val (.int p0), .val (.int p1), .val (.int p2), .val (.int p3), .val (.int p4), .val (.int p5), .val (.int (p0 &&& (3 : Int32))), .unset, .unset, .unset, .unset, .unset, .unset, .unset, .unset, .unset] [])
      refine Go.step (fun _ k => XS.iloadN W.here W.hx rfl (W.d at_33) rfl k) ?_
      show Go _ _ _ _ _ _ _ _ _ _ (mkF m 34 #[.val (.int p0), .val (.int p1), .val (.int p2), .val (.int p3), .val (.int p4), .val (.int p5), .val (.int (p0 &&& (3 : Int32))), .unset, .unset, .unset, .unset, .unset, .unset, .unset, .unset, .unset] [(.int p0)])
      refine Go.step (fun _ k => XS.iconst W.here W.hx rfl (W.d at_34) k) ?_
      show Go _ _ _ _ _ _ _ _ _ _ (mkF m 35 #[.val (.int p0), .val (.int p1), .val (.int p2), .val (.int p3), .val (.int p4), .val (.int p5), .val (.int (p0 &&& (3 : Int32))), .unset, .unset, .unset, .unset, .unset, .unset, .unset, .unset, .unset] [(.int (2 : Int32)), (.int p0)])
      refine Go.step (fun _ k => XS.iushr W.here W.hx rfl (W.d at_35) rfl k) ?_
      show Go _ _ _ _ _ _ _ _ _ _ (mkF m 36 #[.val (.int p0), .val (.int p1), .val (.int p2), .val (.int p3), .val (.int p4), .val (.int p5), .val (.int (p0 &&& (3 : Int32))), .unset, .unset, .unset, .unset, .unset, .unset, .unset, .unset, .unset] [(.int ((p0.toUInt32 >>> ((2 : Int32) &&& 31).toUInt32).toInt32))])
      refine Go.step (fun _ k => XS.iconst W.here W.hx rfl (W.d at_36) k) ?_
      show Go _ _ _ _ _ _ _ _ _ _ (mkF m 37 #[.val (.int p0), .val (.int p1), .val (.int p2), .val (.int p3), .val (.int p4), .val (.int p5), .val (.int (p0 &&& (3 : Int32))), .unset, .unset, .unset, .unset, .unset, .unset, .unset, .unset, .unset] [(.int (1 : Int32)), (.int ((p0.toUInt32 >>> ((2 : Int32) &&& 31).toUInt32).toInt32))])
      refine Go.step (fun _ k => XS.iand W.here W.hx rfl (W.d at_37) rfl k) ?_
      show Go _ _ _ _ _ _ _ _ _ _ (mkF m 38 #[.val (.int p0), .val (.int p1), .val (.int p2), .val (.int p3), .val (.int p4), .val (.int p5), .val (.int (p0 &&& (3 : Int32))), .unset, .unset, .unset, .unset, .unset, .unset, .unset, .unset, .unset] [(.int (((p0.toUInt32 >>> ((2 : Int32) &&& 31).toUInt32).toInt32) &&& (1 : Int32)))])
      by_cases hc3 : (((p0.toUInt32 >>> ((2 : Int32) &&& 31).toUInt32).toInt32) &&& (1 : Int32)) = (0 : Int32)
      · refine Go.step (fun _ k => XS.ifYes W.here W.hx rfl (pc0 := 38) (pc' := 45) rfl (W.d at_38) rfl ((if0 _ _).trans (teq hc3).1) (by decide) (by decide) k) ?_
        show Go _ _ _ _ _ _ _ _ _ _ (mkF m 45 #[.val (.int p0), .val (.int p1), .val (.int p2), .val (.int p3), .val (.int p4), .val (.int p5), .val (.int (p0 &&& (3 : Int32))), .unset, .unset, .unset, .unset, .unset, .unset, .unset, .unset, .unset] [])
        refine Go.step (fun _ k => XS.iconst W.here W.hx rfl (W.d at_45) k) ?_
        show Go _ _ _ _ _ _ _ _ _ _ (mkF m 46 #[.val (.int p0), .val (.int p1), .val (.int p2), .val (.int p3), .val (.int p4), .val (.int p5), .val (.int (p0 &&& (3 : Int32))), .unset, .unset, .unset, .unset, .unset, .unset, .unset, .unset, .unset] [(.int (0 : Int32))])
        refine Go.step (fun _ k => XS.istore W.here W.hx rfl (W.d at_46) rfl (l' := #[.val (.int p0), .val (.int p1), .val (.int p2), .val (.int p3), .val (.int p4), .val (.int p5), .val (.int (p0 &&& (3 : Int32))), .val (.int (0 : Int32)), .unset, .unset, .unset, .unset, .unset, .unset, .unset, .unset]) rfl k) ?_
        show Go _ _ _ _ _ _ _ _ _ _ (mkF m 48 #[.val (.int p0), .val (.int p1), .val (.int p2), .val (.int p3), .val (.int p4), .val (.int p5), .val (.int (p0 &&& (3 : Int32))), .val (.int (0 : Int32)), .unset, .unset, .unset, .unset, .unset, .unset, .unset, .unset] [])
        refine Go.step (fun _ k => XS.iload W.here W.hx rfl (W.d at_48) rfl k) ?_
        show Go _ _ _ _ _ _ _ _ _ _ (mkF m 50 #[.val (.int p0), .val (.int p1), .val (.int p2), .val (.int p3), .val (.int p4), .val (.int p5), .val (.int (p0 &&& (3 : Int32))), .val (.int (0 : Int32)), .unset, .unset, .unset, .unset, .unset, .unset, .unset, .unset] [(.int (0 : Int32))])
        refine W.callS (X.w 4 rfl) (X.w 5 rfl) (X.w 6 rfl) (X.w 7 rfl) (by decide) (c_bv0 X bt bf _ W.ext N) (by decide) (Wd := 0) (by decide) [(.int (0 : Int32))] [] rfl pd_9 rfl rfl rfl (Nat.le_of_eq rfl) at_50 (by decide) (by decide) ?_
        intro v T h vm W hQ C
        obtain ⟨rfl, rfl⟩ := hQ
        show Go _ _ _ _ _ _ _ _ _ _ (mkF m 53 #[.val (.int p0), .val (.int p1), .val (.int p2), .val (.int p3), .val (.int p4), .val (.int p5), .val (.int (p0 &&& (3 : Int32))), .val (.int (0 : Int32)), .unset, .unset, .unset, .unset, .unset, .unset, .unset, .unset] [(.ref bf)])
        refine Go.step (fun _ k => XS.astore W.here W.hx rfl (W.d at_53) rfl rfl (l' := #[.val (.int p0), .val (.int p1), .val (.int p2), .val (.int p3), .val (.int p4), .val (.int p5), .val (.int (p0 &&& (3 : Int32))), .val (.int (0 : Int32)), .val (.ref bf), .unset, .unset, .unset, .unset, .unset, .unset, .unset]) rfl k) ?_
        show Go _ _ _ _ _ _ _ _ _ _ (mkF m 55 #[.val (.int p0), .val (.int p1), .val (.int p2), .val (.int p3), .val (.int p4), .val (.int p5), .val (.int (p0 &&& (3 : Int32))), .val (.int (0 : Int32)), .val (.ref bf), .unset, .unset, .unset, .unset, .unset, .unset, .unset] [])
        refine Go.step (fun _ k => XS.aload W.here W.hx rfl (W.d at_55) rfl rfl k) ?_
        show Go _ _ _ _ _ _ _ _ _ _ (mkF m 57 #[.val (.int p0), .val (.int p1), .val (.int p2), .val (.int p3), .val (.int p4), .val (.int p5), .val (.int (p0 &&& (3 : Int32))), .val (.int (0 : Int32)), .val (.ref bf), .unset, .unset, .unset, .unset, .unset, .unset, .unset] [(.ref bf)])
        refine W.callS (X.w 0 rfl) (X.w 1 rfl) (X.w 2 rfl) (X.w 3 rfl) (by decide) (c_tb0 X bf _ W.ext (N.2.2.2.2.1.ext W.ext) (N.2.2.2.2.2.ext W.ext)) (by decide) (Wd := 0) (by decide) [(.ref bf)] [] rfl pd_8 rfl rfl rfl (Nat.le_of_eq rfl) at_57 (by decide) (by decide) ?_
        intro v T h vm W hQ C
        obtain ⟨rfl, rfl⟩ := hQ
        show Go _ _ _ _ _ _ _ _ _ _ (mkF m 60 #[.val (.int p0), .val (.int p1), .val (.int p2), .val (.int p3), .val (.int p4), .val (.int p5), .val (.int (p0 &&& (3 : Int32))), .val (.int (0 : Int32)), .val (.ref bf), .unset, .unset, .unset, .unset, .unset, .unset, .unset] [(.int (0 : Int32))])
        refine Go.step (fun _ k => XS.iload W.here W.hx rfl (W.d at_60) rfl k) ?_
        show Go _ _ _ _ _ _ _ _ _ _ (mkF m 62 #[.val (.int p0), .val (.int p1), .val (.int p2), .val (.int p3), .val (.int p4), .val (.int p5), .val (.int (p0 &&& (3 : Int32))), .val (.int (0 : Int32)), .val (.ref bf), .unset, .unset, .unset, .unset, .unset, .unset, .unset] [(.int (0 : Int32)), (.int (0 : Int32))])
        refine Go.step (fun _ k => XS.icmpNo W.here W.hx rfl (W.d at_62) rfl (teq (by decide : (0 : Int32) = (0 : Int32))).2 k) ?_
        show Go _ _ _ _ _ _ _ _ _ _ (mkF m 65 #[.val (.int p0), .val (.int p1), .val (.int p2), .val (.int p3), .val (.int p4), .val (.int p5), .val (.int (p0 &&& (3 : Int32))), .val (.int (0 : Int32)), .val (.ref bf), .unset, .unset, .unset, .unset, .unset, .unset, .unset] [])
        refine Go.step (fun _ k => XS.iconst W.here W.hx rfl (W.d at_65) k) ?_
        show Go _ _ _ _ _ _ _ _ _ _ (mkF m 66 #[.val (.int p0), .val (.int p1), .val (.int p2), .val (.int p3), .val (.int p4), .val (.int p5), .val (.int (p0 &&& (3 : Int32))), .val (.int (0 : Int32)), .val (.ref bf), .unset, .unset, .unset, .unset, .unset, .unset, .unset] [(.int (1 : Int32))])
        refine Go.step (fun _ k => XS.goto W.here W.hx rfl (pc0 := 66) (pc' := 70) rfl (W.d at_66) (by decide) (by decide) k) ?_
        show Go _ _ _ _ _ _ _ _ _ _ (mkF m 70 #[.val (.int p0), .val (.int p1), .val (.int p2), .val (.int p3), .val (.int p4), .val (.int p5), .val (.int (p0 &&& (3 : Int32))), .val (.int (0 : Int32)), .val (.ref bf), .unset, .unset, .unset, .unset, .unset, .unset, .unset] [(.int (1 : Int32))])
        exact W.retN (by simp) at_70 (rfl) (by decide) (by decide)
      · refine Go.step (fun _ k => XS.ifNo W.here W.hx rfl (W.d at_38) rfl ((if0 _ _).trans (feq hc3).1) k) ?_
        show Go _ _ _ _ _ _ _ _ _ _ (mkF m 41 #[.val (.int p0), .val (.int p1), .val (.int p2), .val (.int p3), .val (.int p4), .val (.int p5), .val (.int (p0 &&& (3 : Int32))), .unset, .unset, .unset, .unset, .unset, .unset, .unset, .unset, .unset] [])
        refine Go.step (fun _ k => XS.iconst W.here W.hx rfl (W.d at_41) k) ?_
        show Go _ _ _ _ _ _ _ _ _ _ (mkF m 42 #[.val (.int p0), .val (.int p1), .val (.int p2), .val (.int p3), .val (.int p4), .val (.int p5), .val (.int (p0 &&& (3 : Int32))), .unset, .unset, .unset, .unset, .unset, .unset, .unset, .unset, .unset] [(.int (1 : Int32))])
        refine Go.step (fun _ k => XS.goto W.here W.hx rfl (pc0 := 42) (pc' := 46) rfl (W.d at_42) (by decide) (by decide) k) ?_
        show Go _ _ _ _ _ _ _ _ _ _ (mkF m 46 #[.val (.int p0), .val (.int p1), .val (.int p2), .val (.int p3), .val (.int p4), .val (.int p5), .val (.int (p0 &&& (3 : Int32))), .unset, .unset, .unset, .unset, .unset, .unset, .unset, .unset, .unset] [(.int (1 : Int32))])
        refine Go.step (fun _ k => XS.istore W.here W.hx rfl (W.d at_46) rfl (l' := #[.val (.int p0), .val (.int p1), .val (.int p2), .val (.int p3), .val (.int p4), .val (.int p5), .val (.int (p0 &&& (3 : Int32))), .val (.int (1 : Int32)), .unset, .unset, .unset, .unset, .unset, .unset, .unset, .unset]) rfl k) ?_
        show Go _ _ _ _ _ _ _ _ _ _ (mkF m 48 #[.val (.int p0), .val (.int p1), .val (.int p2), .val (.int p3), .val (.int p4), .val (.int p5), .val (.int (p0 &&& (3 : Int32))), .val (.int (1 : Int32)), .unset, .unset, .unset, .unset, .unset, .unset, .unset, .unset] [])
        refine Go.step (fun _ k => XS.iload W.here W.hx rfl (W.d at_48) rfl k) ?_
        show Go _ _ _ _ _ _ _ _ _ _ (mkF m 50 #[.val (.int p0), .val (.int p1), .val (.int p2), .val (.int p3), .val (.int p4), .val (.int p5), .val (.int (p0 &&& (3 : Int32))), .val (.int (1 : Int32)), .unset, .unset, .unset, .unset, .unset, .unset, .unset, .unset] [(.int (1 : Int32))])
        refine W.callS (X.w 4 rfl) (X.w 5 rfl) (X.w 6 rfl) (X.w 7 rfl) (by decide) (c_bv1 X bt bf _ W.ext N) (by decide) (Wd := 0) (by decide) [(.int (1 : Int32))] [] rfl pd_9 rfl rfl rfl (Nat.le_of_eq rfl) at_50 (by decide) (by decide) ?_
        intro v T h vm W hQ C
        obtain ⟨rfl, rfl⟩ := hQ
        show Go _ _ _ _ _ _ _ _ _ _ (mkF m 53 #[.val (.int p0), .val (.int p1), .val (.int p2), .val (.int p3), .val (.int p4), .val (.int p5), .val (.int (p0 &&& (3 : Int32))), .val (.int (1 : Int32)), .unset, .unset, .unset, .unset, .unset, .unset, .unset, .unset] [(.ref bt)])
        refine Go.step (fun _ k => XS.astore W.here W.hx rfl (W.d at_53) rfl rfl (l' := #[.val (.int p0), .val (.int p1), .val (.int p2), .val (.int p3), .val (.int p4), .val (.int p5), .val (.int (p0 &&& (3 : Int32))), .val (.int (1 : Int32)), .val (.ref bt), .unset, .unset, .unset, .unset, .unset, .unset, .unset]) rfl k) ?_
        show Go _ _ _ _ _ _ _ _ _ _ (mkF m 55 #[.val (.int p0), .val (.int p1), .val (.int p2), .val (.int p3), .val (.int p4), .val (.int p5), .val (.int (p0 &&& (3 : Int32))), .val (.int (1 : Int32)), .val (.ref bt), .unset, .unset, .unset, .unset, .unset, .unset, .unset] [])
        refine Go.step (fun _ k => XS.aload W.here W.hx rfl (W.d at_55) rfl rfl k) ?_
        show Go _ _ _ _ _ _ _ _ _ _ (mkF m 57 #[.val (.int p0), .val (.int p1), .val (.int p2), .val (.int p3), .val (.int p4), .val (.int p5), .val (.int (p0 &&& (3 : Int32))), .val (.int (1 : Int32)), .val (.ref bt), .unset, .unset, .unset, .unset, .unset, .unset, .unset] [(.ref bt)])
        refine W.callS (X.w 0 rfl) (X.w 1 rfl) (X.w 2 rfl) (X.w 3 rfl) (by decide) (c_tb1 X bt _ W.ext (N.2.1.ext W.ext) (N.2.2.1.ext W.ext)) (by decide) (Wd := 0) (by decide) [(.ref bt)] [] rfl pd_8 rfl rfl rfl (Nat.le_of_eq rfl) at_57 (by decide) (by decide) ?_
        intro v T h vm W hQ C
        obtain ⟨rfl, rfl⟩ := hQ
        show Go _ _ _ _ _ _ _ _ _ _ (mkF m 60 #[.val (.int p0), .val (.int p1), .val (.int p2), .val (.int p3), .val (.int p4), .val (.int p5), .val (.int (p0 &&& (3 : Int32))), .val (.int (1 : Int32)), .val (.ref bt), .unset, .unset, .unset, .unset, .unset, .unset, .unset] [(.int (1 : Int32))])
        refine Go.step (fun _ k => XS.iload W.here W.hx rfl (W.d at_60) rfl k) ?_
        show Go _ _ _ _ _ _ _ _ _ _ (mkF m 62 #[.val (.int p0), .val (.int p1), .val (.int p2), .val (.int p3), .val (.int p4), .val (.int p5), .val (.int (p0 &&& (3 : Int32))), .val (.int (1 : Int32)), .val (.ref bt), .unset, .unset, .unset, .unset, .unset, .unset, .unset] [(.int (1 : Int32)), (.int (1 : Int32))])
        refine Go.step (fun _ k => XS.icmpNo W.here W.hx rfl (W.d at_62) rfl (teq (by decide : (1 : Int32) = (1 : Int32))).2 k) ?_
        show Go _ _ _ _ _ _ _ _ _ _ (mkF m 65 #[.val (.int p0), .val (.int p1), .val (.int p2), .val (.int p3), .val (.int p4), .val (.int p5), .val (.int (p0 &&& (3 : Int32))), .val (.int (1 : Int32)), .val (.ref bt), .unset, .unset, .unset, .unset, .unset, .unset, .unset] [])
        refine Go.step (fun _ k => XS.iconst W.here W.hx rfl (W.d at_65) k) ?_
        show Go _ _ _ _ _ _ _ _ _ _ (mkF m 66 #[.val (.int p0), .val (.int p1), .val (.int p2), .val (.int p3), .val (.int p4), .val (.int p5), .val (.int (p0 &&& (3 : Int32))), .val (.int (1 : Int32)), .val (.ref bt), .unset, .unset, .unset, .unset, .unset, .unset, .unset] [(.int (1 : Int32))])
        refine Go.step (fun _ k => XS.goto W.here W.hx rfl (pc0 := 66) (pc' := 70) rfl (W.d at_66) (by decide) (by decide) k) ?_
        show Go _ _ _ _ _ _ _ _ _ _ (mkF m 70 #[.val (.int p0), .val (.int p1), .val (.int p2), .val (.int p3), .val (.int p4), .val (.int p5), .val (.int (p0 &&& (3 : Int32))), .val (.int (1 : Int32)), .val (.ref bt), .unset, .unset, .unset, .unset, .unset, .unset, .unset] [(.int (1 : Int32))])
        exact W.retN (by simp) at_70 (rfl) (by decide) (by decide)
    · refine Go.step (fun _ k => XS.icmpYes W.here W.hx rfl (pc0 := 30) (pc' := 71) rfl (W.d at_30) rfl (feq hc2).2 (by decide) (by decide) k) ?_
      show Go _ _ _ _ _ _ _ _ _ _ (mkF m 71 #[.val (.int p0), .val (.int p1), .val (.int p2), .val (.int p3), .val (.int p4), .val (.int p5), .val (.int (p0 &&& (3 : Int32))), .unset, .unset, .unset, .unset, .unset, .unset, .unset, .unset, .unset] [])
      refine Go.step (fun _ k => XS.iloadN W.here W.hx rfl (W.d at_71) rfl k) ?_
      show Go _ _ _ _ _ _ _ _ _ _ (mkF m 72 #[.val (.int p0), .val (.int p1), .val (.int p2), .val (.int p3), .val (.int p4), .val (.int p5), .val (.int (p0 &&& (3 : Int32))), .unset, .unset, .unset, .unset, .unset, .unset, .unset, .unset, .unset] [(.int p1)])
      refine W.ldcI (X.w 18 rfl) at_72 ?_
      show Go _ _ _ _ _ _ _ _ _ _ (mkF m 74 #[.val (.int p0), .val (.int p1), .val (.int p2), .val (.int p3), .val (.int p4), .val (.int p5), .val (.int (p0 &&& (3 : Int32))), .unset, .unset, .unset, .unset, .unset, .unset, .unset, .unset, .unset] [(.int (2147483647 : Int32)), (.int p1)])
      refine Go.step (fun _ k => XS.iand W.here W.hx rfl (W.d at_74) rfl k) ?_
      show Go _ _ _ _ _ _ _ _ _ _ (mkF m 75 #[.val (.int p0), .val (.int p1), .val (.int p2), .val (.int p3), .val (.int p4), .val (.int p5), .val (.int (p0 &&& (3 : Int32))), .unset, .unset, .unset, .unset, .unset, .unset, .unset, .unset, .unset] [(.int (p1 &&& (2147483647 : Int32)))])
      refine Go.step (fun _ k => XS.bipush W.here W.hx rfl (W.d at_75) k) ?_
      show Go _ _ _ _ _ _ _ _ _ _ (mkF m 77 #[.val (.int p0), .val (.int p1), .val (.int p2), .val (.int p3), .val (.int p4), .val (.int p5), .val (.int (p0 &&& (3 : Int32))), .unset, .unset, .unset, .unset, .unset, .unset, .unset, .unset, .unset] [(.int (6 : Int32)), (.int (p1 &&& (2147483647 : Int32)))])
      refine Go.step (fun _ k => XS.irem W.here W.hx rfl (W.d at_77) rfl (by decide) k) ?_
      show Go _ _ _ _ _ _ _ _ _ _ (mkF m 78 #[.val (.int p0), .val (.int p1), .val (.int p2), .val (.int p3), .val (.int p4), .val (.int p5), .val (.int (p0 &&& (3 : Int32))), .unset, .unset, .unset, .unset, .unset, .unset, .unset, .unset, .unset] [(.int ((p1 &&& (2147483647 : Int32)) - ((p1 &&& (2147483647 : Int32)) / (6 : Int32)) * (6 : Int32)))])
      refine Go.step (fun _ k => XS.istore W.here W.hx rfl (W.d at_78) rfl (l' := #[.val (.int p0), .val (.int p1), .val (.int p2), .val (.int p3), .val (.int p4), .val (.int p5), .val (.int (p0 &&& (3 : Int32))), .val (.int ((p1 &&& (2147483647 : Int32)) - ((p1 &&& (2147483647 : Int32)) / (6 : Int32)) * (6 : Int32))), .unset, .unset, .unset, .unset, .unset, .unset, .unset, .unset]) rfl k) ?_
      show Go _ _ _ _ _ _ _ _ _ _ (mkF m 80 #[.val (.int p0), .val (.int p1), .val (.int p2), .val (.int p3), .val (.int p4), .val (.int p5), .val (.int (p0 &&& (3 : Int32))), .val (.int ((p1 &&& (2147483647 : Int32)) - ((p1 &&& (2147483647 : Int32)) / (6 : Int32)) * (6 : Int32))), .unset, .unset, .unset, .unset, .unset, .unset, .unset, .unset] [])
      have t_nn : N6 ((p1 &&& (2147483647 : Int32)) - ((p1 &&& (2147483647 : Int32)) / (6 : Int32)) * (6 : Int32)) := rem6 _
      generalize ((p1 &&& (2147483647 : Int32)) - ((p1 &&& (2147483647 : Int32)) / (6 : Int32)) * (6 : Int32)) = nn at t_nn ⊢
      refine Go.step (fun _ k => XS.iload W.here W.hx rfl (W.d at_80) rfl k) ?_
      show Go _ _ _ _ _ _ _ _ _ _ (mkF m 82 #[.val (.int p0), .val (.int p1), .val (.int p2), .val (.int p3), .val (.int p4), .val (.int p5), .val (.int (p0 &&& (3 : Int32))), .val (.int nn), .unset, .unset, .unset, .unset, .unset, .unset, .unset, .unset] [(.int p5)])
      refine Go.step (fun _ k => XS.iconst W.here W.hx rfl (W.d at_82) k) ?_
      show Go _ _ _ _ _ _ _ _ _ _ (mkF m 83 #[.val (.int p0), .val (.int p1), .val (.int p2), .val (.int p3), .val (.int p4), .val (.int p5), .val (.int (p0 &&& (3 : Int32))), .val (.int nn), .unset, .unset, .unset, .unset, .unset, .unset, .unset, .unset] [(.int (0 : Int32)), (.int p5)])
      refine Go.step (fun _ k => XS.iloadN W.here W.hx rfl (W.d at_83) rfl k) ?_
      show Go _ _ _ _ _ _ _ _ _ _ (mkF m 84 #[.val (.int p0), .val (.int p1), .val (.int p2), .val (.int p3), .val (.int p4), .val (.int p5), .val (.int (p0 &&& (3 : Int32))), .val (.int nn), .unset, .unset, .unset, .unset, .unset, .unset, .unset, .unset] [(.int p2), (.int (0 : Int32)), (.int p5)])
      refine Go.step (fun _ k => XS.sipush W.here W.hx rfl (W.d at_84) k) ?_
      show Go _ _ _ _ _ _ _ _ _ _ (mkF m 87 #[.val (.int p0), .val (.int p1), .val (.int p2), .val (.int p3), .val (.int p4), .val (.int p5), .val (.int (p0 &&& (3 : Int32))), .val (.int nn), .unset, .unset, .unset, .unset, .unset, .unset, .unset, .unset] [(.int (255 : Int32)), (.int p2), (.int (0 : Int32)), (.int p5)])
      refine Go.step (fun _ k => XS.iand W.here W.hx rfl (W.d at_87) rfl k) ?_
      show Go _ _ _ _ _ _ _ _ _ _ (mkF m 88 #[.val (.int p0), .val (.int p1), .val (.int p2), .val (.int p3), .val (.int p4), .val (.int p5), .val (.int (p0 &&& (3 : Int32))), .val (.int nn), .unset, .unset, .unset, .unset, .unset, .unset, .unset, .unset] [(.int (p2 &&& (255 : Int32))), (.int (0 : Int32)), (.int p5)])
      refine Go.step (fun _ k => XS.bipush W.here W.hx rfl (W.d at_88) k) ?_
      show Go _ _ _ _ _ _ _ _ _ _ (mkF m 90 #[.val (.int p0), .val (.int p1), .val (.int p2), .val (.int p3), .val (.int p4), .val (.int p5), .val (.int (p0 &&& (3 : Int32))), .val (.int nn), .unset, .unset, .unset, .unset, .unset, .unset, .unset, .unset] [(.int (116 : Int32)), (.int (p2 &&& (255 : Int32))), (.int (0 : Int32)), (.int p5)])
      refine W.callS (X.w 19 rfl) (X.w 20 rfl) (X.w 21 rfl) (X.w 22 rfl) (by decide) (c_pick X p5 (0 : Int32) (p2 &&& (255 : Int32)) (116 : Int32) _ W.ext (by decide) (and255 _)) (by decide) (Wd := 0) (by decide) [(.int p5), (.int (0 : Int32)), (.int (p2 &&& (255 : Int32))), (.int (116 : Int32))] [] rfl pd_10 rfl rfl rfl (Nat.le_of_eq rfl) at_90 (by decide) (by decide) ?_
      intro v T h vm W hQ C
      obtain ⟨y0, rfl, ty0, rfl⟩ := hQ
      show Go _ _ _ _ _ _ _ _ _ _ (mkF m 93 #[.val (.int p0), .val (.int p1), .val (.int p2), .val (.int p3), .val (.int p4), .val (.int p5), .val (.int (p0 &&& (3 : Int32))), .val (.int nn), .unset, .unset, .unset, .unset, .unset, .unset, .unset, .unset] [(.int y0)])
      refine Go.step (fun _ k => XS.istore W.here W.hx rfl (W.d at_93) rfl (l' := #[.val (.int p0), .val (.int p1), .val (.int p2), .val (.int p3), .val (.int p4), .val (.int p5), .val (.int (p0 &&& (3 : Int32))), .val (.int nn), .val (.int y0), .unset, .unset, .unset, .unset, .unset, .unset, .unset]) rfl k) ?_
      show Go _ _ _ _ _ _ _ _ _ _ (mkF m 95 #[.val (.int p0), .val (.int p1), .val (.int p2), .val (.int p3), .val (.int p4), .val (.int p5), .val (.int (p0 &&& (3 : Int32))), .val (.int nn), .val (.int y0), .unset, .unset, .unset, .unset, .unset, .unset, .unset] [])
      refine Go.step (fun _ k => XS.iload W.here W.hx rfl (W.d at_95) rfl k) ?_
      show Go _ _ _ _ _ _ _ _ _ _ (mkF m 97 #[.val (.int p0), .val (.int p1), .val (.int p2), .val (.int p3), .val (.int p4), .val (.int p5), .val (.int (p0 &&& (3 : Int32))), .val (.int nn), .val (.int y0), .unset, .unset, .unset, .unset, .unset, .unset, .unset] [(.int p5)])
      refine Go.step (fun _ k => XS.iconst W.here W.hx rfl (W.d at_97) k) ?_
      show Go _ _ _ _ _ _ _ _ _ _ (mkF m 98 #[.val (.int p0), .val (.int p1), .val (.int p2), .val (.int p3), .val (.int p4), .val (.int p5), .val (.int (p0 &&& (3 : Int32))), .val (.int nn), .val (.int y0), .unset, .unset, .unset, .unset, .unset, .unset, .unset] [(.int (1 : Int32)), (.int p5)])
      refine Go.step (fun _ k => XS.iloadN W.here W.hx rfl (W.d at_98) rfl k) ?_
      show Go _ _ _ _ _ _ _ _ _ _ (mkF m 99 #[.val (.int p0), .val (.int p1), .val (.int p2), .val (.int p3), .val (.int p4), .val (.int p5), .val (.int (p0 &&& (3 : Int32))), .val (.int nn), .val (.int y0), .unset, .unset, .unset, .unset, .unset, .unset, .unset] [(.int p3), (.int (1 : Int32)), (.int p5)])
      refine Go.step (fun _ k => XS.sipush W.here W.hx rfl (W.d at_99) k) ?_
      show Go _ _ _ _ _ _ _ _ _ _ (mkF m 102 #[.val (.int p0), .val (.int p1), .val (.int p2), .val (.int p3), .val (.int p4), .val (.int p5), .val (.int (p0 &&& (3 : Int32))), .val (.int nn), .val (.int y0), .unset, .unset, .unset, .unset, .unset, .unset, .unset] [(.int (255 : Int32)), (.int p3), (.int (1 : Int32)), (.int p5)])
      refine Go.step (fun _ k => XS.iand W.here W.hx rfl (W.d at_102) rfl k) ?_
      show Go _ _ _ _ _ _ _ _ _ _ (mkF m 103 #[.val (.int p0), .val (.int p1), .val (.int p2), .val (.int p3), .val (.int p4), .val (.int p5), .val (.int (p0 &&& (3 : Int32))), .val (.int nn), .val (.int y0), .unset, .unset, .unset, .unset, .unset, .unset, .unset] [(.int (p3 &&& (255 : Int32))), (.int (1 : Int32)), (.int p5)])
      refine Go.step (fun _ k => XS.bipush W.here W.hx rfl (W.d at_103) k) ?_
      show Go _ _ _ _ _ _ _ _ _ _ (mkF m 105 #[.val (.int p0), .val (.int p1), .val (.int p2), .val (.int p3), .val (.int p4), .val (.int p5), .val (.int (p0 &&& (3 : Int32))), .val (.int nn), .val (.int y0), .unset, .unset, .unset, .unset, .unset, .unset, .unset] [(.int (114 : Int32)), (.int (p3 &&& (255 : Int32))), (.int (1 : Int32)), (.int p5)])
      refine W.callS (X.w 19 rfl) (X.w 20 rfl) (X.w 21 rfl) (X.w 22 rfl) (by decide) (c_pick X p5 (1 : Int32) (p3 &&& (255 : Int32)) (114 : Int32) _ W.ext (by decide) (and255 _)) (by decide) (Wd := 0) (by decide) [(.int p5), (.int (1 : Int32)), (.int (p3 &&& (255 : Int32))), (.int (114 : Int32))] [] rfl pd_10 rfl rfl rfl (Nat.le_of_eq rfl) at_105 (by decide) (by decide) ?_
      intro v T h vm W hQ C
      obtain ⟨y1, rfl, ty1, rfl⟩ := hQ
      show Go _ _ _ _ _ _ _ _ _ _ (mkF m 108 #[.val (.int p0), .val (.int p1), .val (.int p2), .val (.int p3), .val (.int p4), .val (.int p5), .val (.int (p0 &&& (3 : Int32))), .val (.int nn), .val (.int y0), .unset, .unset, .unset, .unset, .unset, .unset, .unset] [(.int y1)])
      refine Go.step (fun _ k => XS.istore W.here W.hx rfl (W.d at_108) rfl (l' := #[.val (.int p0), .val (.int p1), .val (.int p2), .val (.int p3), .val (.int p4), .val (.int p5), .val (.int (p0 &&& (3 : Int32))), .val (.int nn), .val (.int y0), .val (.int y1), .unset, .unset, .unset, .unset, .unset, .unset]) rfl k) ?_
      show Go _ _ _ _ _ _ _ _ _ _ (mkF m 110 #[.val (.int p0), .val (.int p1), .val (.int p2), .val (.int p3), .val (.int p4), .val (.int p5), .val (.int (p0 &&& (3 : Int32))), .val (.int nn), .val (.int y0), .val (.int y1), .unset, .unset, .unset, .unset, .unset, .unset] [])
      refine Go.step (fun _ k => XS.iload W.here W.hx rfl (W.d at_110) rfl k) ?_
      show Go _ _ _ _ _ _ _ _ _ _ (mkF m 112 #[.val (.int p0), .val (.int p1), .val (.int p2), .val (.int p3), .val (.int p4), .val (.int p5), .val (.int (p0 &&& (3 : Int32))), .val (.int nn), .val (.int y0), .val (.int y1), .unset, .unset, .unset, .unset, .unset, .unset] [(.int p5)])
      refine Go.step (fun _ k => XS.iconst W.here W.hx rfl (W.d at_112) k) ?_
      show Go _ _ _ _ _ _ _ _ _ _ (mkF m 113 #[.val (.int p0), .val (.int p1), .val (.int p2), .val (.int p3), .val (.int p4), .val (.int p5), .val (.int (p0 &&& (3 : Int32))), .val (.int nn), .val (.int y0), .val (.int y1), .unset, .unset, .unset, .unset, .unset, .unset] [(.int (2 : Int32)), (.int p5)])
      refine Go.step (fun _ k => XS.iload W.here W.hx rfl (W.d at_113) rfl k) ?_
      show Go _ _ _ _ _ _ _ _ _ _ (mkF m 115 #[.val (.int p0), .val (.int p1), .val (.int p2), .val (.int p3), .val (.int p4), .val (.int p5), .val (.int (p0 &&& (3 : Int32))), .val (.int nn), .val (.int y0), .val (.int y1), .unset, .unset, .unset, .unset, .unset, .unset] [(.int p4), (.int (2 : Int32)), (.int p5)])
      refine Go.step (fun _ k => XS.sipush W.here W.hx rfl (W.d at_115) k) ?_
      show Go _ _ _ _ _ _ _ _ _ _ (mkF m 118 #[.val (.int p0), .val (.int p1), .val (.int p2), .val (.int p3), .val (.int p4), .val (.int p5), .val (.int (p0 &&& (3 : Int32))), .val (.int nn), .val (.int y0), .val (.int y1), .unset, .unset, .unset, .unset, .unset, .unset] [(.int (255 : Int32)), (.int p4), (.int (2 : Int32)), (.int p5)])
      refine Go.step (fun _ k => XS.iand W.here W.hx rfl (W.d at_118) rfl k) ?_
      show Go _ _ _ _ _ _ _ _ _ _ (mkF m 119 #[.val (.int p0), .val (.int p1), .val (.int p2), .val (.int p3), .val (.int p4), .val (.int p5), .val (.int (p0 &&& (3 : Int32))), .val (.int nn), .val (.int y0), .val (.int y1), .unset, .unset, .unset, .unset, .unset, .unset] [(.int (p4 &&& (255 : Int32))), (.int (2 : Int32)), (.int p5)])
      refine Go.step (fun _ k => XS.bipush W.here W.hx rfl (W.d at_119) k) ?_
      show Go _ _ _ _ _ _ _ _ _ _ (mkF m 121 #[.val (.int p0), .val (.int p1), .val (.int p2), .val (.int p3), .val (.int p4), .val (.int p5), .val (.int (p0 &&& (3 : Int32))), .val (.int nn), .val (.int y0), .val (.int y1), .unset, .unset, .unset, .unset, .unset, .unset] [(.int (117 : Int32)), (.int (p4 &&& (255 : Int32))), (.int (2 : Int32)), (.int p5)])
      refine W.callS (X.w 19 rfl) (X.w 20 rfl) (X.w 21 rfl) (X.w 22 rfl) (by decide) (c_pick X p5 (2 : Int32) (p4 &&& (255 : Int32)) (117 : Int32) _ W.ext (by decide) (and255 _)) (by decide) (Wd := 0) (by decide) [(.int p5), (.int (2 : Int32)), (.int (p4 &&& (255 : Int32))), (.int (117 : Int32))] [] rfl pd_10 rfl rfl rfl (Nat.le_of_eq rfl) at_121 (by decide) (by decide) ?_
      intro v T h vm W hQ C
      obtain ⟨y2, rfl, ty2, rfl⟩ := hQ
      show Go _ _ _ _ _ _ _ _ _ _ (mkF m 124 #[.val (.int p0), .val (.int p1), .val (.int p2), .val (.int p3), .val (.int p4), .val (.int p5), .val (.int (p0 &&& (3 : Int32))), .val (.int nn), .val (.int y0), .val (.int y1), .unset, .unset, .unset, .unset, .unset, .unset] [(.int y2)])
      refine Go.step (fun _ k => XS.istore W.here W.hx rfl (W.d at_124) rfl (l' := #[.val (.int p0), .val (.int p1), .val (.int p2), .val (.int p3), .val (.int p4), .val (.int p5), .val (.int (p0 &&& (3 : Int32))), .val (.int nn), .val (.int y0), .val (.int y1), .val (.int y2), .unset, .unset, .unset, .unset, .unset]) rfl k) ?_
      show Go _ _ _ _ _ _ _ _ _ _ (mkF m 126 #[.val (.int p0), .val (.int p1), .val (.int p2), .val (.int p3), .val (.int p4), .val (.int p5), .val (.int (p0 &&& (3 : Int32))), .val (.int nn), .val (.int y0), .val (.int y1), .val (.int y2), .unset, .unset, .unset, .unset, .unset] [])
      refine Go.step (fun _ k => XS.iload W.here W.hx rfl (W.d at_126) rfl k) ?_
      show Go _ _ _ _ _ _ _ _ _ _ (mkF m 128 #[.val (.int p0), .val (.int p1), .val (.int p2), .val (.int p3), .val (.int p4), .val (.int p5), .val (.int (p0 &&& (3 : Int32))), .val (.int nn), .val (.int y0), .val (.int y1), .val (.int y2), .unset, .unset, .unset, .unset, .unset] [(.int p5)])
      refine Go.step (fun _ k => XS.iconst W.here W.hx rfl (W.d at_128) k) ?_
      show Go _ _ _ _ _ _ _ _ _ _ (mkF m 129 #[.val (.int p0), .val (.int p1), .val (.int p2), .val (.int p3), .val (.int p4), .val (.int p5), .val (.int (p0 &&& (3 : Int32))), .val (.int nn), .val (.int y0), .val (.int y1), .val (.int y2), .unset, .unset, .unset, .unset, .unset] [(.int (3 : Int32)), (.int p5)])
      refine Go.step (fun _ k => XS.iloadN W.here W.hx rfl (W.d at_129) rfl k) ?_
      show Go _ _ _ _ _ _ _ _ _ _ (mkF m 130 #[.val (.int p0), .val (.int p1), .val (.int p2), .val (.int p3), .val (.int p4), .val (.int p5), .val (.int (p0 &&& (3 : Int32))), .val (.int nn), .val (.int y0), .val (.int y1), .val (.int y2), .unset, .unset, .unset, .unset, .unset] [(.int p2), (.int (3 : Int32)), (.int p5)])
      refine Go.step (fun _ k => XS.bipush W.here W.hx rfl (W.d at_130) k) ?_
      show Go _ _ _ _ _ _ _ _ _ _ (mkF m 132 #[.val (.int p0), .val (.int p1), .val (.int p2), .val (.int p3), .val (.int p4), .val (.int p5), .val (.int (p0 &&& (3 : Int32))), .val (.int nn), .val (.int y0), .val (.int y1), .val (.int y2), .unset, .unset, .unset, .unset, .unset] [(.int (8 : Int32)), (.int p2), (.int (3 : Int32)), (.int p5)])
      refine Go.step (fun _ k => XS.iushr W.here W.hx rfl (W.d at_132) rfl k) ?_
      show Go _ _ _ _ _ _ _ _ _ _ (mkF m 133 #[.val (.int p0), .val (.int p1), .val (.int p2), .val (.int p3), .val (.int p4), .val (.int p5), .val (.int (p0 &&& (3 : Int32))), .val (.int nn), .val (.int y0), .val (.int y1), .val (.int y2), .unset, .unset, .unset, .unset, .unset] [(.int ((p2.toUInt32 >>> ((8 : Int32) &&& 31).toUInt32).toInt32)), (.int (3 : Int32)), (.int p5)])
      refine Go.step (fun _ k => XS.sipush W.here W.hx rfl (W.d at_133) k) ?_
      show Go _ _ _ _ _ _ _ _ _ _ (mkF m 136 #[.val (.int p0), .val (.int p1), .val (.int p2), .val (.int p3), .val (.int p4), .val (.int p5), .val (.int (p0 &&& (3 : Int32))), .val (.int nn), .val (.int y0), .val (.int y1), .val (.int y2), .unset, .unset, .unset, .unset, .unset] [(.int (255 : Int32)), (.int ((p2.toUInt32 >>> ((8 : Int32) &&& 31).toUInt32).toInt32)), (.int (3 : Int32)), (.int p5)])
      refine Go.step (fun _ k => XS.iand W.here W.hx rfl (W.d at_136) rfl k) ?_
      show Go _ _ _ _ _ _ _ _ _ _ (mkF m 137 #[.val (.int p0), .val (.int p1), .val (.int p2), .val (.int p3), .val (.int p4), .val (.int p5), .val (.int (p0 &&& (3 : Int32))), .val (.int nn), .val (.int y0), .val (.int y1), .val (.int y2), .unset, .unset, .unset, .unset, .unset] [(.int (((p2.toUInt32 >>> ((8 : Int32) &&& 31).toUInt32).toInt32) &&& (255 : Int32))), (.int (3 : Int32)), (.int p5)])
      refine Go.step (fun _ k => XS.bipush W.here W.hx rfl (W.d at_137) k) ?_
      show Go _ _ _ _ _ _ _ _ _ _ (mkF m 139 #[.val (.int p0), .val (.int p1), .val (.int p2), .val (.int p3), .val (.int p4), .val (.int p5), .val (.int (p0 &&& (3 : Int32))), .val (.int nn), .val (.int y0), .val (.int y1), .val (.int y2), .unset, .unset, .unset, .unset, .unset] [(.int (101 : Int32)), (.int (((p2.toUInt32 >>> ((8 : Int32) &&& 31).toUInt32).toInt32) &&& (255 : Int32))), (.int (3 : Int32)), (.int p5)])
      refine W.callS (X.w 19 rfl) (X.w 20 rfl) (X.w 21 rfl) (X.w 22 rfl) (by decide) (c_pick X p5 (3 : Int32) (((p2.toUInt32 >>> ((8 : Int32) &&& 31).toUInt32).toInt32) &&& (255 : Int32)) (101 : Int32) _ W.ext (by decide) (and255 _)) (by decide) (Wd := 0) (by decide) [(.int p5), (.int (3 : Int32)), (.int (((p2.toUInt32 >>> ((8 : Int32) &&& 31).toUInt32).toInt32) &&& (255 : Int32))), (.int (101 : Int32))] [] rfl pd_10 rfl rfl rfl (Nat.le_of_eq rfl) at_139 (by decide) (by decide) ?_
      intro v T h vm W hQ C
      obtain ⟨y3, rfl, ty3, rfl⟩ := hQ
      show Go _ _ _ _ _ _ _ _ _ _ (mkF m 142 #[.val (.int p0), .val (.int p1), .val (.int p2), .val (.int p3), .val (.int p4), .val (.int p5), .val (.int (p0 &&& (3 : Int32))), .val (.int nn), .val (.int y0), .val (.int y1), .val (.int y2), .unset, .unset, .unset, .unset, .unset] [(.int y3)])
      refine Go.step (fun _ k => XS.istore W.here W.hx rfl (W.d at_142) rfl (l' := #[.val (.int p0), .val (.int p1), .val (.int p2), .val (.int p3), .val (.int p4), .val (.int p5), .val (.int (p0 &&& (3 : Int32))), .val (.int nn), .val (.int y0), .val (.int y1), .val (.int y2), .val (.int y3), .unset, .unset, .unset, .unset]) rfl k) ?_
      show Go _ _ _ _ _ _ _ _ _ _ (mkF m 144 #[.val (.int p0), .val (.int p1), .val (.int p2), .val (.int p3), .val (.int p4), .val (.int p5), .val (.int (p0 &&& (3 : Int32))), .val (.int nn), .val (.int y0), .val (.int y1), .val (.int y2), .val (.int y3), .unset, .unset, .unset, .unset] [])
      refine Go.step (fun _ k => XS.iloadN W.here W.hx rfl (W.d at_144) rfl k) ?_
      show Go _ _ _ _ _ _ _ _ _ _ (mkF m 145 #[.val (.int p0), .val (.int p1), .val (.int p2), .val (.int p3), .val (.int p4), .val (.int p5), .val (.int (p0 &&& (3 : Int32))), .val (.int nn), .val (.int y0), .val (.int y1), .val (.int y2), .val (.int y3), .unset, .unset, .unset, .unset] [(.int p3)])
      refine Go.step (fun _ k => XS.bipush W.here W.hx rfl (W.d at_145) k) ?_
      show Go _ _ _ _ _ _ _ _ _ _ (mkF m 147 #[.val (.int p0), .val (.int p1), .val (.int p2), .val (.int p3), .val (.int p4), .val (.int p5), .val (.int (p0 &&& (3 : Int32))), .val (.int nn), .val (.int y0), .val (.int y1), .val (.int y2), .val (.int y3), .unset, .unset, .unset, .unset] [(.int (8 : Int32)), (.int p3)])
      refine Go.step (fun _ k => XS.iushr W.here W.hx rfl (W.d at_147) rfl k) ?_
      show Go _ _ _ _ _ _ _ _ _ _ (mkF m 148 #[.val (.int p0), .val (.int p1), .val (.int p2), .val (.int p3), .val (.int p4), .val (.int p5), .val (.int (p0 &&& (3 : Int32))), .val (.int nn), .val (.int y0), .val (.int y1), .val (.int y2), .val (.int y3), .unset, .unset, .unset, .unset] [(.int ((p3.toUInt32 >>> ((8 : Int32) &&& 31).toUInt32).toInt32))])
      refine Go.step (fun _ k => XS.sipush W.here W.hx rfl (W.d at_148) k) ?_
      show Go _ _ _ _ _ _ _ _ _ _ (mkF m 151 #[.val (.int p0), .val (.int p1), .val (.int p2), .val (.int p3), .val (.int p4), .val (.int p5), .val (.int (p0 &&& (3 : Int32))), .val (.int nn), .val (.int y0), .val (.int y1), .val (.int y2), .val (.int y3), .unset, .unset, .unset, .unset] [(.int (255 : Int32)), (.int ((p3.toUInt32 >>> ((8 : Int32) &&& 31).toUInt32).toInt32))])
      refine Go.step (fun _ k => XS.iand W.here W.hx rfl (W.d at_151) rfl k) ?_
      show Go _ _ _ _ _ _ _ _ _ _ (mkF m 152 #[.val (.int p0), .val (.int p1), .val (.int p2), .val (.int p3), .val (.int p4), .val (.int p5), .val (.int (p0 &&& (3 : Int32))), .val (.int nn), .val (.int y0), .val (.int y1), .val (.int y2), .val (.int y3), .unset, .unset, .unset, .unset] [(.int (((p3.toUInt32 >>> ((8 : Int32) &&& 31).toUInt32).toInt32) &&& (255 : Int32)))])
      refine Go.step (fun _ k => XS.i2c W.here W.hx rfl (W.d at_152) rfl k) ?_
      show Go _ _ _ _ _ _ _ _ _ _ (mkF m 153 #[.val (.int p0), .val (.int p1), .val (.int p2), .val (.int p3), .val (.int p4), .val (.int p5), .val (.int (p0 &&& (3 : Int32))), .val (.int nn), .val (.int y0), .val (.int y1), .val (.int y2), .val (.int y3), .unset, .unset, .unset, .unset] [(.int ((((p3.toUInt32 >>> ((8 : Int32) &&& 31).toUInt32).toInt32) &&& (255 : Int32)).toUInt32.toUInt16.toUInt32.toInt32))])
      refine Go.step (fun _ k => XS.istore W.here W.hx rfl (W.d at_153) rfl (l' := #[.val (.int p0), .val (.int p1), .val (.int p2), .val (.int p3), .val (.int p4), .val (.int p5), .val (.int (p0 &&& (3 : Int32))), .val (.int nn), .val (.int y0), .val (.int y1), .val (.int y2), .val (.int y3), .val (.int ((((p3.toUInt32 >>> ((8 : Int32) &&& 31).toUInt32).toInt32) &&& (255 : Int32)).toUInt32.toUInt16.toUInt32.toInt32)), .unset, .unset, .unset]) rfl k) ?_
      show Go _ _ _ _ _ _ _ _ _ _ (mkF m 155 #[.val (.int p0), .val (.int p1), .val (.int p2), .val (.int p3), .val (.int p4), .val (.int p5), .val (.int (p0 &&& (3 : Int32))), .val (.int nn), .val (.int y0), .val (.int y1), .val (.int y2), .val (.int y3), .val (.int ((((p3.toUInt32 >>> ((8 : Int32) &&& 31).toUInt32).toInt32) &&& (255 : Int32)).toUInt32.toUInt16.toUInt32.toInt32)), .unset, .unset, .unset] [])
      have t_y4 : Sm ((((p3.toUInt32 >>> ((8 : Int32) &&& 31).toUInt32).toInt32) &&& (255 : Int32)).toUInt32.toUInt16.toUInt32.toInt32) := chr255 _
      generalize ((((p3.toUInt32 >>> ((8 : Int32) &&& 31).toUInt32).toInt32) &&& (255 : Int32)).toUInt32.toUInt16.toUInt32.toInt32) = y4 at t_y4 ⊢
      rcases t_nn with rfl | rfl | rfl | rfl | rfl | rfl
      · have ty4 := t_y4
        show Go _ _ _ _ _ _ _ _ _ _ (mkF m 155 #[.val (.int p0), .val (.int p1), .val (.int p2), .val (.int p3), .val (.int p4), .val (.int p5), .val (.int (p0 &&& (3 : Int32))), .val (.int (0 : Int32)), .val (.int y0), .val (.int y1), .val (.int y2), .val (.int y3), .val (.int y4), .unset, .unset, .unset] [])
        refine Go.step (fun _ k => XS.iload W.here W.hx rfl (W.d at_155) rfl k) ?_
        show Go _ _ _ _ _ _ _ _ _ _ (mkF m 157 #[.val (.int p0), .val (.int p1), .val (.int p2), .val (.int p3), .val (.int p4), .val (.int p5), .val (.int (p0 &&& (3 : Int32))), .val (.int (0 : Int32)), .val (.int y0), .val (.int y1), .val (.int y2), .val (.int y3), .val (.int y4), .unset, .unset, .unset] [(.int (0 : Int32))])
        refine Go.step (fun _ k => XS.iload W.here W.hx rfl (W.d at_157) rfl k) ?_
        show Go _ _ _ _ _ _ _ _ _ _ (mkF m 159 #[.val (.int p0), .val (.int p1), .val (.int p2), .val (.int p3), .val (.int p4), .val (.int p5), .val (.int (p0 &&& (3 : Int32))), .val (.int (0 : Int32)), .val (.int y0), .val (.int y1), .val (.int y2), .val (.int y3), .val (.int y4), .unset, .unset, .unset] [(.int y0), (.int (0 : Int32))])
        refine Go.step (fun _ k => XS.iload W.here W.hx rfl (W.d at_159) rfl k) ?_
        show Go _ _ _ _ _ _ _ _ _ _ (mkF m 161 #[.val (.int p0), .val (.int p1), .val (.int p2), .val (.int p3), .val (.int p4), .val (.int p5), .val (.int (p0 &&& (3 : Int32))), .val (.int (0 : Int32)), .val (.int y0), .val (.int y1), .val (.int y2), .val (.int y3), .val (.int y4), .unset, .unset, .unset] [(.int y1), (.int y0), (.int (0 : Int32))])
        refine Go.step (fun _ k => XS.iload W.here W.hx rfl (W.d at_161) rfl k) ?_
        show Go _ _ _ _ _ _ _ _ _ _ (mkF m 163 #[.val (.int p0), .val (.int p1), .val (.int p2), .val (.int p3), .val (.int p4), .val (.int p5), .val (.int (p0 &&& (3 : Int32))), .val (.int (0 : Int32)), .val (.int y0), .val (.int y1), .val (.int y2), .val (.int y3), .val (.int y4), .unset, .unset, .unset] [(.int y2), (.int y1), (.int y0), (.int (0 : Int32))])
        refine Go.step (fun _ k => XS.iload W.here W.hx rfl (W.d at_163) rfl k) ?_
        show Go _ _ _ _ _ _ _ _ _ _ (mkF m 165 #[.val (.int p0), .val (.int p1), .val (.int p2), .val (.int p3), .val (.int p4), .val (.int p5), .val (.int (p0 &&& (3 : Int32))), .val (.int (0 : Int32)), .val (.int y0), .val (.int y1), .val (.int y2), .val (.int y3), .val (.int y4), .unset, .unset, .unset] [(.int y3), (.int y2), (.int y1), (.int y0), (.int (0 : Int32))])
        refine Go.step (fun _ k => XS.iload W.here W.hx rfl (W.d at_165) rfl k) ?_
        show Go _ _ _ _ _ _ _ _ _ _ (mkF m 167 #[.val (.int p0), .val (.int p1), .val (.int p2), .val (.int p3), .val (.int p4), .val (.int p5), .val (.int (p0 &&& (3 : Int32))), .val (.int (0 : Int32)), .val (.int y0), .val (.int y1), .val (.int y2), .val (.int y3), .val (.int y4), .unset, .unset, .unset] [(.int y4), (.int y3), (.int y2), (.int y1), (.int y0), (.int (0 : Int32))])
        refine W.callS (X.w 23 rfl) (X.w 24 rfl) (X.w 21 rfl) (X.w 25 rfl) (by decide) (c_mk0 X y0 y1 y2 y3 y4 _ W.ext ty0 ty1 ty2 ty3 ty4) (by decide) (Wd := 0) (by decide) [(.int (0 : Int32)), (.int y0), (.int y1), (.int y2), (.int y3), (.int y4)] [] rfl pd_11 rfl rfl rfl (Nat.le_of_eq rfl) at_167 (by decide) (by decide) ?_
        intro v T h vm W hQ C
        obtain ⟨b4, kb4, rfl, gb4, Kb4, Vb4⟩ := hQ
        replace hsz := W.size
        show Go _ _ _ _ _ _ _ _ _ _ (mkF m 170 #[.val (.int p0), .val (.int p1), .val (.int p2), .val (.int p3), .val (.int p4), .val (.int p5), .val (.int (p0 &&& (3 : Int32))), .val (.int (0 : Int32)), .val (.int y0), .val (.int y1), .val (.int y2), .val (.int y3), .val (.int y4), .unset, .unset, .unset] [(.ref b4)])
        refine Go.step (fun _ k => XS.astore W.here W.hx rfl (W.d at_170) rfl rfl (l' := #[.val (.int p0), .val (.int p1), .val (.int p2), .val (.int p3), .val (.int p4), .val (.int p5), .val (.int (p0 &&& (3 : Int32))), .val (.int (0 : Int32)), .val (.int y0), .val (.int y1), .val (.int y2), .val (.int y3), .val (.int y4), .val (.ref b4), .unset, .unset]) rfl k) ?_
        show Go _ _ _ _ _ _ _ _ _ _ (mkF m 172 #[.val (.int p0), .val (.int p1), .val (.int p2), .val (.int p3), .val (.int p4), .val (.int p5), .val (.int (p0 &&& (3 : Int32))), .val (.int (0 : Int32)), .val (.int y0), .val (.int y1), .val (.int y2), .val (.int y3), .val (.int y4), .val (.ref b4), .unset, .unset] [])
        refine W.new (X.w 27 rfl) (X.w 28 rfl) (X.w 29 rfl) at_172 (by decide) (by decide) ?_
        intro T h b5 hb5 W Eb5 Ab5 Db5
        have ne_b4_b5 : b4 ≠ b5 := by rw [hb5]; exact Nat.ne_of_lt Vb4.lt
        have gb5 : Z.heap.size ≤ b5 := by rw [hb5]; exact hsz
        replace Vb4 := Vb4.ext Eb5
        replace hsz := W.size
        have F_coder_b5 : Fld Z h b5 "java/lang/String" "coder" "B" (.int (0 : Int32)) := Db5 (Or.inr (X.w 53 rfl)) (ty := .byte) (by decide)
        have F_value_b5 : Fld Z h b5 "java/lang/String" "value" "[B" .null := Db5 (Or.inr (X.w 55 rfl)) (ty := (.array .byte)) (by decide)
        show Go _ _ _ _ _ _ _ _ _ _ (mkF m 175 #[.val (.int p0), .val (.int p1), .val (.int p2), .val (.int p3), .val (.int p4), .val (.int p5), .val (.int (p0 &&& (3 : Int32))), .val (.int (0 : Int32)), .val (.int y0), .val (.int y1), .val (.int y2), .val (.int y3), .val (.int y4), .val (.ref b4), .unset, .unset] [(.ref b5)])
        refine Go.step (fun _ k => XS.dup W.here W.hx rfl (W.d at_175) rfl rfl k) ?_
        show Go _ _ _ _ _ _ _ _ _ _ (mkF m 176 #[.val (.int p0), .val (.int p1), .val (.int p2), .val (.int p3), .val (.int p4), .val (.int p5), .val (.int (p0 &&& (3 : Int32))), .val (.int (0 : Int32)), .val (.int y0), .val (.int y1), .val (.int y2), .val (.int y3), .val (.int y4), .val (.ref b4), .unset, .unset] [(.ref b5), (.ref b5)])
        refine Go.step (fun _ k => XS.aload W.here W.hx rfl (W.d at_176) rfl rfl k) ?_
        show Go _ _ _ _ _ _ _ _ _ _ (mkF m 178 #[.val (.int p0), .val (.int p1), .val (.int p2), .val (.int p3), .val (.int p4), .val (.int p5), .val (.int (p0 &&& (3 : Int32))), .val (.int (0 : Int32)), .val (.int y0), .val (.int y1), .val (.int y2), .val (.int y3), .val (.int y4), .val (.ref b4), .unset, .unset] [(.ref b4), (.ref b5), (.ref b5)])
        refine W.special rfl (X.w 30 rfl) (X.w 31 rfl) (X.w 29 rfl) (X.w 32 rfl) (by decide) (c_e1 X b5 b4 _ _ _ _ W.ext gb5 Ab5 F_value_b5 F_coder_b5 Vb4) (by decide) (Wd := 1) (by decide) b5 [(.ref b4)] [(.ref b5)] rfl pd_12 rfl rfl rfl (Nat.le_of_eq rfl) at_178 (by decide) (by decide) ?_
        intro v T h vm W hQ C
        obtain ⟨rfl, Kb5, Sb5⟩ := hQ
        replace Vb4 := Vb4.keep Kb5 (nin1 ne_b4_b5)
        replace hsz := W.size
        show Go _ _ _ _ _ _ _ _ _ _ (mkF m 181 #[.val (.int p0), .val (.int p1), .val (.int p2), .val (.int p3), .val (.int p4), .val (.int p5), .val (.int (p0 &&& (3 : Int32))), .val (.int (0 : Int32)), .val (.int y0), .val (.int y1), .val (.int y2), .val (.int y3), .val (.int y4), .val (.ref b4), .unset, .unset] [(.ref b5)])
        refine Go.step (fun _ k => XS.astore W.here W.hx rfl (W.d at_181) rfl rfl (l' := #[.val (.int p0), .val (.int p1), .val (.int p2), .val (.int p3), .val (.int p4), .val (.int p5), .val (.int (p0 &&& (3 : Int32))), .val (.int (0 : Int32)), .val (.int y0), .val (.int y1), .val (.int y2), .val (.int y3), .val (.int y4), .val (.ref b4), .val (.ref b5), .unset]) rfl k) ?_
        show Go _ _ _ _ _ _ _ _ _ _ (mkF m 183 #[.val (.int p0), .val (.int p1), .val (.int p2), .val (.int p3), .val (.int p4), .val (.int p5), .val (.int (p0 &&& (3 : Int32))), .val (.int (0 : Int32)), .val (.int y0), .val (.int y1), .val (.int y2), .val (.int y3), .val (.int y4), .val (.ref b4), .val (.ref b5), .unset] [])
        refine Go.step (fun _ k => XS.iload W.here W.hx rfl (W.d at_183) rfl k) ?_
        show Go _ _ _ _ _ _ _ _ _ _ (mkF m 185 #[.val (.int p0), .val (.int p1), .val (.int p2), .val (.int p3), .val (.int p4), .val (.int p5), .val (.int (p0 &&& (3 : Int32))), .val (.int (0 : Int32)), .val (.int y0), .val (.int y1), .val (.int y2), .val (.int y3), .val (.int y4), .val (.ref b4), .val (.ref b5), .unset] [(.int (0 : Int32))])
        refine Go.step (fun _ k => XS.iconst W.here W.hx rfl (W.d at_185) k) ?_
        show Go _ _ _ _ _ _ _ _ _ _ (mkF m 186 #[.val (.int p0), .val (.int p1), .val (.int p2), .val (.int p3), .val (.int p4), .val (.int p5), .val (.int (p0 &&& (3 : Int32))), .val (.int (0 : Int32)), .val (.int y0), .val (.int y1), .val (.int y2), .val (.int y3), .val (.int y4), .val (.ref b4), .val (.ref b5), .unset] [(.int (4 : Int32)), (.int (0 : Int32))])
        refine Go.step (fun _ k => XS.icmpYes W.here W.hx rfl (pc0 := 186) (pc' := 233) rfl (W.d at_186) rfl (feq (by decide : ¬ ((0 : Int32) = (4 : Int32)))).2 (by decide) (by decide) k) ?_
        show Go _ _ _ _ _ _ _ _ _ _ (mkF m 233 #[.val (.int p0), .val (.int p1), .val (.int p2), .val (.int p3), .val (.int p4), .val (.int p5), .val (.int (p0 &&& (3 : Int32))), .val (.int (0 : Int32)), .val (.int y0), .val (.int y1), .val (.int y2), .val (.int y3), .val (.int y4), .val (.ref b4), .val (.ref b5), .unset] [])
        refine Go.step (fun _ k => XS.iconst W.here W.hx rfl (W.d at_233) k) ?_
        show Go _ _ _ _ _ _ _ _ _ _ (mkF m 234 #[.val (.int p0), .val (.int p1), .val (.int p2), .val (.int p3), .val (.int p4), .val (.int p5), .val (.int (p0 &&& (3 : Int32))), .val (.int (0 : Int32)), .val (.int y0), .val (.int y1), .val (.int y2), .val (.int y3), .val (.int y4), .val (.ref b4), .val (.ref b5), .unset] [(.int (0 : Int32))])
        refine Go.step (fun _ k => XS.istore W.here W.hx rfl (W.d at_234) rfl (l' := #[.val (.int p0), .val (.int p1), .val (.int p2), .val (.int p3), .val (.int p4), .val (.int p5), .val (.int (p0 &&& (3 : Int32))), .val (.int (0 : Int32)), .val (.int y0), .val (.int y1), .val (.int y2), .val (.int y3), .val (.int y4), .val (.ref b4), .val (.ref b5), .val (.int (0 : Int32))]) rfl k) ?_
        show Go _ _ _ _ _ _ _ _ _ _ (mkF m 236 #[.val (.int p0), .val (.int p1), .val (.int p2), .val (.int p3), .val (.int p4), .val (.int p5), .val (.int (p0 &&& (3 : Int32))), .val (.int (0 : Int32)), .val (.int y0), .val (.int y1), .val (.int y2), .val (.int y3), .val (.int y4), .val (.ref b4), .val (.ref b5), .val (.int (0 : Int32))] [])
        refine Go.step (fun _ k => XS.aload W.here W.hx rfl (W.d at_236) rfl rfl k) ?_
        show Go _ _ _ _ _ _ _ _ _ _ (mkF m 238 #[.val (.int p0), .val (.int p1), .val (.int p2), .val (.int p3), .val (.int p4), .val (.int p5), .val (.int (p0 &&& (3 : Int32))), .val (.int (0 : Int32)), .val (.int y0), .val (.int y1), .val (.int y2), .val (.int y3), .val (.int y4), .val (.ref b4), .val (.ref b5), .val (.int (0 : Int32))] [(.ref b5)])
        refine W.callS (X.w 0 rfl) (X.w 1 rfl) (X.w 2 rfl) (X.w 3 rfl) (by decide) (c_tbs X b5 _ _ W.ext Sb5) (by decide) (Wd := 0) (by decide) [(.ref b5)] [] rfl pd_8 rfl rfl rfl (Nat.le_of_eq rfl) at_238 (by decide) (by decide) ?_
        intro v T h vm W hQ C
        obtain ⟨hq6, K7⟩ := hQ
        rcases hq6 with ⟨rfl, hq6⟩ | ⟨rfl, hq6⟩
        · replace hsz := W.size
          show Go _ _ _ _ _ _ _ _ _ _ (mkF m 241 #[.val (.int p0), .val (.int p1), .val (.int p2), .val (.int p3), .val (.int p4), .val (.int p5), .val (.int (p0 &&& (3 : Int32))), .val (.int (0 : Int32)), .val (.int y0), .val (.int y1), .val (.int y2), .val (.int y3), .val (.int y4), .val (.ref b4), .val (.ref b5), .val (.int (0 : Int32))] [(.int (1 : Int32))])
          refine Go.step (fun _ k => XS.iload W.here W.hx rfl (W.d at_241) rfl k) ?_
          show Go _ _ _ _ _ _ _ _ _ _ (mkF m 243 #[.val (.int p0), .val (.int p1), .val (.int p2), .val (.int p3), .val (.int p4), .val (.int p5), .val (.int (p0 &&& (3 : Int32))), .val (.int (0 : Int32)), .val (.int y0), .val (.int y1), .val (.int y2), .val (.int y3), .val (.int y4), .val (.ref b4), .val (.ref b5), .val (.int (0 : Int32))] [(.int (0 : Int32)), (.int (1 : Int32))])
          refine Go.step (fun _ k => XS.icmpYes W.here W.hx rfl (pc0 := 243) (pc' := 250) rfl (W.d at_243) rfl (feq (by decide : ¬ ((1 : Int32) = (0 : Int32)))).2 (by decide) (by decide) k) ?_
          show Go _ _ _ _ _ _ _ _ _ _ (mkF m 250 #[.val (.int p0), .val (.int p1), .val (.int p2), .val (.int p3), .val (.int p4), .val (.int p5), .val (.int (p0 &&& (3 : Int32))), .val (.int (0 : Int32)), .val (.int y0), .val (.int y1), .val (.int y2), .val (.int y3), .val (.int y4), .val (.ref b4), .val (.ref b5), .val (.int (0 : Int32))] [])
          refine Go.step (fun _ k => XS.iconst W.here W.hx rfl (W.d at_250) k) ?_
          show Go _ _ _ _ _ _ _ _ _ _ (mkF m 251 #[.val (.int p0), .val (.int p1), .val (.int p2), .val (.int p3), .val (.int p4), .val (.int p5), .val (.int (p0 &&& (3 : Int32))), .val (.int (0 : Int32)), .val (.int y0), .val (.int y1), .val (.int y2), .val (.int y3), .val (.int y4), .val (.ref b4), .val (.ref b5), .val (.int (0 : Int32))] [(.int (0 : Int32))])
          exact absurd (isTrue_len hq6) (by simp)
        · replace hsz := W.size
          show Go _ _ _ _ _ _ _ _ _ _ (mkF m 241 #[.val (.int p0), .val (.int p1), .val (.int p2), .val (.int p3), .val (.int p4), .val (.int p5), .val (.int (p0 &&& (3 : Int32))), .val (.int (0 : Int32)), .val (.int y0), .val (.int y1), .val (.int y2), .val (.int y3), .val (.int y4), .val (.ref b4), .val (.ref b5), .val (.int (0 : Int32))] [(.int (0 : Int32))])
          refine Go.step (fun _ k => XS.iload W.here W.hx rfl (W.d at_241) rfl k) ?_
          show Go _ _ _ _ _ _ _ _ _ _ (mkF m 243 #[.val (.int p0), .val (.int p1), .val (.int p2), .val (.int p3), .val (.int p4), .val (.int p5), .val (.int (p0 &&& (3 : Int32))), .val (.int (0 : Int32)), .val (.int y0), .val (.int y1), .val (.int y2), .val (.int y3), .val (.int y4), .val (.ref b4), .val (.ref b5), .val (.int (0 : Int32))] [(.int (0 : Int32)), (.int (0 : Int32))])
          refine Go.step (fun _ k => XS.icmpNo W.here W.hx rfl (W.d at_243) rfl (teq (by decide : (0 : Int32) = (0 : Int32))).2 k) ?_
          show Go _ _ _ _ _ _ _ _ _ _ (mkF m 246 #[.val (.int p0), .val (.int p1), .val (.int p2), .val (.int p3), .val (.int p4), .val (.int p5), .val (.int (p0 &&& (3 : Int32))), .val (.int (0 : Int32)), .val (.int y0), .val (.int y1), .val (.int y2), .val (.int y3), .val (.int y4), .val (.ref b4), .val (.ref b5), .val (.int (0 : Int32))] [])
          refine Go.step (fun _ k => XS.iconst W.here W.hx rfl (W.d at_246) k) ?_
          show Go _ _ _ _ _ _ _ _ _ _ (mkF m 247 #[.val (.int p0), .val (.int p1), .val (.int p2), .val (.int p3), .val (.int p4), .val (.int p5), .val (.int (p0 &&& (3 : Int32))), .val (.int (0 : Int32)), .val (.int y0), .val (.int y1), .val (.int y2), .val (.int y3), .val (.int y4), .val (.ref b4), .val (.ref b5), .val (.int (0 : Int32))] [(.int (1 : Int32))])
          refine Go.step (fun _ k => XS.goto W.here W.hx rfl (pc0 := 247) (pc' := 251) rfl (W.d at_247) (by decide) (by decide) k) ?_
          show Go _ _ _ _ _ _ _ _ _ _ (mkF m 251 #[.val (.int p0), .val (.int p1), .val (.int p2), .val (.int p3), .val (.int p4), .val (.int p5), .val (.int (p0 &&& (3 : Int32))), .val (.int (0 : Int32)), .val (.int y0), .val (.int y1), .val (.int y2), .val (.int y3), .val (.int y4), .val (.ref b4), .val (.ref b5), .val (.int (0 : Int32))] [(.int (1 : Int32))])
          exact W.retN (by simp) at_251 (rfl) (by decide) (by decide)
      · have ty4 := t_y4
        show Go _ _ _ _ _ _ _ _ _ _ (mkF m 155 #[.val (.int p0), .val (.int p1), .val (.int p2), .val (.int p3), .val (.int p4), .val (.int p5), .val (.int (p0 &&& (3 : Int32))), .val (.int (1 : Int32)), .val (.int y0), .val (.int y1), .val (.int y2), .val (.int y3), .val (.int y4), .unset, .unset, .unset] [])
        refine Go.step (fun _ k => XS.iload W.here W.hx rfl (W.d at_155) rfl k) ?_
        show Go _ _ _ _ _ _ _ _ _ _ (mkF m 157 #[.val (.int p0), .val (.int p1), .val (.int p2), .val (.int p3), .val (.int p4), .val (.int p5), .val (.int (p0 &&& (3 : Int32))), .val (.int (1 : Int32)), .val (.int y0), .val (.int y1), .val (.int y2), .val (.int y3), .val (.int y4), .unset, .unset, .unset] [(.int (1 : Int32))])
        refine Go.step (fun _ k => XS.iload W.here W.hx rfl (W.d at_157) rfl k) ?_
        show Go _ _ _ _ _ _ _ _ _ _ (mkF m 159 #[.val (.int p0), .val (.int p1), .val (.int p2), .val (.int p3), .val (.int p4), .val (.int p5), .val (.int (p0 &&& (3 : Int32))), .val (.int (1 : Int32)), .val (.int y0), .val (.int y1), .val (.int y2), .val (.int y3), .val (.int y4), .unset, .unset, .unset] [(.int y0), (.int (1 : Int32))])
        refine Go.step (fun _ k => XS.iload W.here W.hx rfl (W.d at_159) rfl k) ?_
        show Go _ _ _ _ _ _ _ _ _ _ (mkF m 161 #[.val (.int p0), .val (.int p1), .val (.int p2), .val (.int p3), .val (.int p4), .val (.int p5), .val (.int (p0 &&& (3 : Int32))), .val (.int (1 : Int32)), .val (.int y0), .val (.int y1), .val (.int y2), .val (.int y3), .val (.int y4), .unset, .unset, .unset] [(.int y1), (.int y0), (.int (1 : Int32))])
        refine Go.step (fun _ k => XS.iload W.here W.hx rfl (W.d at_161) rfl k) ?_
        show Go _ _ _ _ _ _ _ _ _ _ (mkF m 163 #[.val (.int p0), .val (.int p1), .val (.int p2), .val (.int p3), .val (.int p4), .val (.int p5), .val (.int (p0 &&& (3 : Int32))), .val (.int (1 : Int32)), .val (.int y0), .val (.int y1), .val (.int y2), .val (.int y3), .val (.int y4), .unset, .unset, .unset] [(.int y2), (.int y1), (.int y0), (.int (1 : Int32))])
        refine Go.step (fun _ k => XS.iload W.here W.hx rfl (W.d at_163) rfl k) ?_
        show Go _ _ _ _ _ _ _ _ _ _ (mkF m 165 #[.val (.int p0), .val (.int p1), .val (.int p2), .val (.int p3), .val (.int p4), .val (.int p5), .val (.int (p0 &&& (3 : Int32))), .val (.int (1 : Int32)), .val (.int y0), .val (.int y1), .val (.int y2), .val (.int y3), .val (.int y4), .unset, .unset, .unset] [(.int y3), (.int y2), (.int y1), (.int y0), (.int (1 : Int32))])
        refine Go.step (fun _ k => XS.iload W.here W.hx rfl (W.d at_165) rfl k) ?_
        show Go _ _ _ _ _ _ _ _ _ _ (mkF m 167 #[.val (.int p0), .val (.int p1), .val (.int p2), .val (.int p3), .val (.int p4), .val (.int p5), .val (.int (p0 &&& (3 : Int32))), .val (.int (1 : Int32)), .val (.int y0), .val (.int y1), .val (.int y2), .val (.int y3), .val (.int y4), .unset, .unset, .unset] [(.int y4), (.int y3), (.int y2), (.int y1), (.int y0), (.int (1 : Int32))])
        refine W.callS (X.w 23 rfl) (X.w 24 rfl) (X.w 21 rfl) (X.w 25 rfl) (by decide) (c_mk1 X y0 y1 y2 y3 y4 _ W.ext ty0 ty1 ty2 ty3 ty4) (by decide) (Wd := 0) (by decide) [(.int (1 : Int32)), (.int y0), (.int y1), (.int y2), (.int y3), (.int y4)] [] rfl pd_11 rfl rfl rfl (Nat.le_of_eq rfl) at_167 (by decide) (by decide) ?_
        intro v T h vm W hQ C
        obtain ⟨b8, kb8, rfl, gb8, Kb8, Vb8⟩ := hQ
        replace hsz := W.size
        show Go _ _ _ _ _ _ _ _ _ _ (mkF m 170 #[.val (.int p0), .val (.int p1), .val (.int p2), .val (.int p3), .val (.int p4), .val (.int p5), .val (.int (p0 &&& (3 : Int32))), .val (.int (1 : Int32)), .val (.int y0), .val (.int y1), .val (.int y2), .val (.int y3), .val (.int y4), .unset, .unset, .unset] [(.ref b8)])
        refine Go.step (fun _ k => XS.astore W.here W.hx rfl (W.d at_170) rfl rfl (l' := #[.val (.int p0), .val (.int p1), .val (.int p2), .val (.int p3), .val (.int p4), .val (.int p5), .val (.int (p0 &&& (3 : Int32))), .val (.int (1 : Int32)), .val (.int y0), .val (.int y1), .val (.int y2), .val (.int y3), .val (.int y4), .val (.ref b8), .unset, .unset]) rfl k) ?_
        show Go _ _ _ _ _ _ _ _ _ _ (mkF m 172 #[.val (.int p0), .val (.int p1), .val (.int p2), .val (.int p3), .val (.int p4), .val (.int p5), .val (.int (p0 &&& (3 : Int32))), .val (.int (1 : Int32)), .val (.int y0), .val (.int y1), .val (.int y2), .val (.int y3), .val (.int y4), .val (.ref b8), .unset, .unset] [])
        refine W.new (X.w 27 rfl) (X.w 28 rfl) (X.w 29 rfl) at_172 (by decide) (by decide) ?_
        intro T h b9 hb9 W Eb9 Ab9 Db9
        have ne_b8_b9 : b8 ≠ b9 := by rw [hb9]; exact Nat.ne_of_lt Vb8.lt
        have gb9 : Z.heap.size ≤ b9 := by rw [hb9]; exact hsz
        replace Vb8 := Vb8.ext Eb9
        replace hsz := W.size
        have F_coder_b9 : Fld Z h b9 "java/lang/String" "coder" "B" (.int (0 : Int32)) := Db9 (Or.inr (X.w 53 rfl)) (ty := .byte) (by decide)
        have F_value_b9 : Fld Z h b9 "java/lang/String" "value" "[B" .null := Db9 (Or.inr (X.w 55 rfl)) (ty := (.array .byte)) (by decide)
        show Go _ _ _ _ _ _ _ _ _ _ (mkF m 175 #[.val (.int p0), .val (.int p1), .val (.int p2), .val (.int p3), .val (.int p4), .val (.int p5), .val (.int (p0 &&& (3 : Int32))), .val (.int (1 : Int32)), .val (.int y0), .val (.int y1), .val (.int y2), .val (.int y3), .val (.int y4), .val (.ref b8), .unset, .unset] [(.ref b9)])
        refine Go.step (fun _ k => XS.dup W.here W.hx rfl (W.d at_175) rfl rfl k) ?_
        show Go _ _ _ _ _ _ _ _ _ _ (mkF m 176 #[.val (.int p0), .val (.int p1), .val (.int p2), .val (.int p3), .val (.int p4), .val (.int p5), .val (.int (p0 &&& (3 : Int32))), .val (.int (1 : Int32)), .val (.int y0), .val (.int y1), .val (.int y2), .val (.int y3), .val (.int y4), .val (.ref b8), .unset, .unset] [(.ref b9), (.ref b9)])
        refine Go.step (fun _ k => XS.aload W.here W.hx rfl (W.d at_176) rfl rfl k) ?_
        show Go _ _ _ _ _ _ _ _ _ _ (mkF m 178 #[.val (.int p0), .val (.int p1), .val (.int p2), .val (.int p3), .val (.int p4), .val (.int p5), .val (.int (p0 &&& (3 : Int32))), .val (.int (1 : Int32)), .val (.int y0), .val (.int y1), .val (.int y2), .val (.int y3), .val (.int y4), .val (.ref b8), .unset, .unset] [(.ref b8), (.ref b9), (.ref b9)])
        refine W.specialB rfl (X.w 30 rfl) (X.w 31 rfl) (X.w 32 rfl) (by decide) (bk_new X W.hZ W.ext gb9 Ab9 F_value_b9 F_coder_b9 (cs := [y0]) (n := 1) Vb8 rfl rfl (by decide) (by decide) (smS ty0 sm0) (by decide) (by decide)) [b9] (fun _ _ _ q => ⟨q.2.1, q.2.2.1⟩) (sfS (Safe.blank W.hZ.alike Ab9 F_value_b9) sf0) (allS gb9 all0) b9 [(.ref b8)] [(.ref b9)] rfl pd_12 rfl rfl rfl (Wd := 1) (Nat.le_of_eq rfl) at_178 (by decide) (by decide) ?_
        intro v T h L W hQ
        obtain ⟨rfl, -, Kb9, Sb9⟩ := hQ
        replace Vb8 := Vb8.keep Kb9 (nin1 ne_b8_b9)
        replace hsz := W.size
        show Go _ _ _ _ _ _ _ _ _ _ (mkF m 181 #[.val (.int p0), .val (.int p1), .val (.int p2), .val (.int p3), .val (.int p4), .val (.int p5), .val (.int (p0 &&& (3 : Int32))), .val (.int (1 : Int32)), .val (.int y0), .val (.int y1), .val (.int y2), .val (.int y3), .val (.int y4), .val (.ref b8), .unset, .unset] [(.ref b9)])
        refine Go.step (fun _ k => XS.astore W.here W.hx rfl (W.d at_181) rfl rfl (l' := #[.val (.int p0), .val (.int p1), .val (.int p2), .val (.int p3), .val (.int p4), .val (.int p5), .val (.int (p0 &&& (3 : Int32))), .val (.int (1 : Int32)), .val (.int y0), .val (.int y1), .val (.int y2), .val (.int y3), .val (.int y4), .val (.ref b8), .val (.ref b9), .unset]) rfl k) ?_
        show Go _ _ _ _ _ _ _ _ _ _ (mkF m 183 #[.val (.int p0), .val (.int p1), .val (.int p2), .val (.int p3), .val (.int p4), .val (.int p5), .val (.int (p0 &&& (3 : Int32))), .val (.int (1 : Int32)), .val (.int y0), .val (.int y1), .val (.int y2), .val (.int y3), .val (.int y4), .val (.ref b8), .val (.ref b9), .unset] [])
        refine Go.step (fun _ k => XS.iload W.here W.hx rfl (W.d at_183) rfl k) ?_
        show Go _ _ _ _ _ _ _ _ _ _ (mkF m 185 #[.val (.int p0), .val (.int p1), .val (.int p2), .val (.int p3), .val (.int p4), .val (.int p5), .val (.int (p0 &&& (3 : Int32))), .val (.int (1 : Int32)), .val (.int y0), .val (.int y1), .val (.int y2), .val (.int y3), .val (.int y4), .val (.ref b8), .val (.ref b9), .unset] [(.int (1 : Int32))])
        refine Go.step (fun _ k => XS.iconst W.here W.hx rfl (W.d at_185) k) ?_
        show Go _ _ _ _ _ _ _ _ _ _ (mkF m 186 #[.val (.int p0), .val (.int p1), .val (.int p2), .val (.int p3), .val (.int p4), .val (.int p5), .val (.int (p0 &&& (3 : Int32))), .val (.int (1 : Int32)), .val (.int y0), .val (.int y1), .val (.int y2), .val (.int y3), .val (.int y4), .val (.ref b8), .val (.ref b9), .unset] [(.int (4 : Int32)), (.int (1 : Int32))])
        refine Go.step (fun _ k => XS.icmpYes W.here W.hx rfl (pc0 := 186) (pc' := 233) rfl (W.d at_186) rfl (feq (by decide : ¬ ((1 : Int32) = (4 : Int32)))).2 (by decide) (by decide) k) ?_
        show Go _ _ _ _ _ _ _ _ _ _ (mkF m 233 #[.val (.int p0), .val (.int p1), .val (.int p2), .val (.int p3), .val (.int p4), .val (.int p5), .val (.int (p0 &&& (3 : Int32))), .val (.int (1 : Int32)), .val (.int y0), .val (.int y1), .val (.int y2), .val (.int y3), .val (.int y4), .val (.ref b8), .val (.ref b9), .unset] [])
        refine Go.step (fun _ k => XS.iconst W.here W.hx rfl (W.d at_233) k) ?_
        show Go _ _ _ _ _ _ _ _ _ _ (mkF m 234 #[.val (.int p0), .val (.int p1), .val (.int p2), .val (.int p3), .val (.int p4), .val (.int p5), .val (.int (p0 &&& (3 : Int32))), .val (.int (1 : Int32)), .val (.int y0), .val (.int y1), .val (.int y2), .val (.int y3), .val (.int y4), .val (.ref b8), .val (.ref b9), .unset] [(.int (0 : Int32))])
        refine Go.step (fun _ k => XS.istore W.here W.hx rfl (W.d at_234) rfl (l' := #[.val (.int p0), .val (.int p1), .val (.int p2), .val (.int p3), .val (.int p4), .val (.int p5), .val (.int (p0 &&& (3 : Int32))), .val (.int (1 : Int32)), .val (.int y0), .val (.int y1), .val (.int y2), .val (.int y3), .val (.int y4), .val (.ref b8), .val (.ref b9), .val (.int (0 : Int32))]) rfl k) ?_
        show Go _ _ _ _ _ _ _ _ _ _ (mkF m 236 #[.val (.int p0), .val (.int p1), .val (.int p2), .val (.int p3), .val (.int p4), .val (.int p5), .val (.int (p0 &&& (3 : Int32))), .val (.int (1 : Int32)), .val (.int y0), .val (.int y1), .val (.int y2), .val (.int y3), .val (.int y4), .val (.ref b8), .val (.ref b9), .val (.int (0 : Int32))] [])
        refine Go.step (fun _ k => XS.aload W.here W.hx rfl (W.d at_236) rfl rfl k) ?_
        show Go _ _ _ _ _ _ _ _ _ _ (mkF m 238 #[.val (.int p0), .val (.int p1), .val (.int p2), .val (.int p3), .val (.int p4), .val (.int p5), .val (.int (p0 &&& (3 : Int32))), .val (.int (1 : Int32)), .val (.int y0), .val (.int y1), .val (.int y2), .val (.int y3), .val (.int y4), .val (.ref b8), .val (.ref b9), .val (.int (0 : Int32))] [(.ref b9)])
        refine W.callS (X.w 0 rfl) (X.w 1 rfl) (X.w 2 rfl) (X.w 3 rfl) (by decide) (c_tbs X b9 _ _ W.ext Sb9) (by decide) (Wd := 0) (by decide) [(.ref b9)] [] rfl pd_8 rfl rfl rfl (Nat.le_of_eq rfl) at_238 (by decide) (by decide) ?_
        intro v T h vm W hQ C
        obtain ⟨hq10, K11⟩ := hQ
        rcases hq10 with ⟨rfl, hq10⟩ | ⟨rfl, hq10⟩
        · replace hsz := W.size
          show Go _ _ _ _ _ _ _ _ _ _ (mkF m 241 #[.val (.int p0), .val (.int p1), .val (.int p2), .val (.int p3), .val (.int p4), .val (.int p5), .val (.int (p0 &&& (3 : Int32))), .val (.int (1 : Int32)), .val (.int y0), .val (.int y1), .val (.int y2), .val (.int y3), .val (.int y4), .val (.ref b8), .val (.ref b9), .val (.int (0 : Int32))] [(.int (1 : Int32))])
          refine Go.step (fun _ k => XS.iload W.here W.hx rfl (W.d at_241) rfl k) ?_
          show Go _ _ _ _ _ _ _ _ _ _ (mkF m 243 #[.val (.int p0), .val (.int p1), .val (.int p2), .val (.int p3), .val (.int p4), .val (.int p5), .val (.int (p0 &&& (3 : Int32))), .val (.int (1 : Int32)), .val (.int y0), .val (.int y1), .val (.int y2), .val (.int y3), .val (.int y4), .val (.ref b8), .val (.ref b9), .val (.int (0 : Int32))] [(.int (0 : Int32)), (.int (1 : Int32))])
          refine Go.step (fun _ k => XS.icmpYes W.here W.hx rfl (pc0 := 243) (pc' := 250) rfl (W.d at_243) rfl (feq (by decide : ¬ ((1 : Int32) = (0 : Int32)))).2 (by decide) (by decide) k) ?_
          show Go _ _ _ _ _ _ _ _ _ _ (mkF m 250 #[.val (.int p0), .val (.int p1), .val (.int p2), .val (.int p3), .val (.int p4), .val (.int p5), .val (.int (p0 &&& (3 : Int32))), .val (.int (1 : Int32)), .val (.int y0), .val (.int y1), .val (.int y2), .val (.int y3), .val (.int y4), .val (.ref b8), .val (.ref b9), .val (.int (0 : Int32))] [])
          refine Go.step (fun _ k => XS.iconst W.here W.hx rfl (W.d at_250) k) ?_
          show Go _ _ _ _ _ _ _ _ _ _ (mkF m 251 #[.val (.int p0), .val (.int p1), .val (.int p2), .val (.int p3), .val (.int p4), .val (.int p5), .val (.int (p0 &&& (3 : Int32))), .val (.int (1 : Int32)), .val (.int y0), .val (.int y1), .val (.int y2), .val (.int y3), .val (.int y4), .val (.ref b8), .val (.ref b9), .val (.int (0 : Int32))] [(.int (0 : Int32))])
          exact absurd (isTrue_len hq10) (by simp)
        · replace hsz := W.size
          show Go _ _ _ _ _ _ _ _ _ _ (mkF m 241 #[.val (.int p0), .val (.int p1), .val (.int p2), .val (.int p3), .val (.int p4), .val (.int p5), .val (.int (p0 &&& (3 : Int32))), .val (.int (1 : Int32)), .val (.int y0), .val (.int y1), .val (.int y2), .val (.int y3), .val (.int y4), .val (.ref b8), .val (.ref b9), .val (.int (0 : Int32))] [(.int (0 : Int32))])
          refine Go.step (fun _ k => XS.iload W.here W.hx rfl (W.d at_241) rfl k) ?_
          show Go _ _ _ _ _ _ _ _ _ _ (mkF m 243 #[.val (.int p0), .val (.int p1), .val (.int p2), .val (.int p3), .val (.int p4), .val (.int p5), .val (.int (p0 &&& (3 : Int32))), .val (.int (1 : Int32)), .val (.int y0), .val (.int y1), .val (.int y2), .val (.int y3), .val (.int y4), .val (.ref b8), .val (.ref b9), .val (.int (0 : Int32))] [(.int (0 : Int32)), (.int (0 : Int32))])
          refine Go.step (fun _ k => XS.icmpNo W.here W.hx rfl (W.d at_243) rfl (teq (by decide : (0 : Int32) = (0 : Int32))).2 k) ?_
          show Go _ _ _ _ _ _ _ _ _ _ (mkF m 246 #[.val (.int p0), .val (.int p1), .val (.int p2), .val (.int p3), .val (.int p4), .val (.int p5), .val (.int (p0 &&& (3 : Int32))), .val (.int (1 : Int32)), .val (.int y0), .val (.int y1), .val (.int y2), .val (.int y3), .val (.int y4), .val (.ref b8), .val (.ref b9), .val (.int (0 : Int32))] [])
          refine Go.step (fun _ k => XS.iconst W.here W.hx rfl (W.d at_246) k) ?_
          show Go _ _ _ _ _ _ _ _ _ _ (mkF m 247 #[.val (.int p0), .val (.int p1), .val (.int p2), .val (.int p3), .val (.int p4), .val (.int p5), .val (.int (p0 &&& (3 : Int32))), .val (.int (1 : Int32)), .val (.int y0), .val (.int y1), .val (.int y2), .val (.int y3), .val (.int y4), .val (.ref b8), .val (.ref b9), .val (.int (0 : Int32))] [(.int (1 : Int32))])
          refine Go.step (fun _ k => XS.goto W.here W.hx rfl (pc0 := 247) (pc' := 251) rfl (W.d at_247) (by decide) (by decide) k) ?_
          show Go _ _ _ _ _ _ _ _ _ _ (mkF m 251 #[.val (.int p0), .val (.int p1), .val (.int p2), .val (.int p3), .val (.int p4), .val (.int p5), .val (.int (p0 &&& (3 : Int32))), .val (.int (1 : Int32)), .val (.int y0), .val (.int y1), .val (.int y2), .val (.int y3), .val (.int y4), .val (.ref b8), .val (.ref b9), .val (.int (0 : Int32))] [(.int (1 : Int32))])
          exact W.retN (by simp) at_251 (rfl) (by decide) (by decide)
      · have ty4 := t_y4
        show Go _ _ _ _ _ _ _ _ _ _ (mkF m 155 #[.val (.int p0), .val (.int p1), .val (.int p2), .val (.int p3), .val (.int p4), .val (.int p5), .val (.int (p0 &&& (3 : Int32))), .val (.int (2 : Int32)), .val (.int y0), .val (.int y1), .val (.int y2), .val (.int y3), .val (.int y4), .unset, .unset, .unset] [])
        refine Go.step (fun _ k => XS.iload W.here W.hx rfl (W.d at_155) rfl k) ?_
        show Go _ _ _ _ _ _ _ _ _ _ (mkF m 157 #[.val (.int p0), .val (.int p1), .val (.int p2), .val (.int p3), .val (.int p4), .val (.int p5), .val (.int (p0 &&& (3 : Int32))), .val (.int (2 : Int32)), .val (.int y0), .val (.int y1), .val (.int y2), .val (.int y3), .val (.int y4), .unset, .unset, .unset] [(.int (2 : Int32))])
        refine Go.step (fun _ k => XS.iload W.here W.hx rfl (W.d at_157) rfl k) ?_
        show Go _ _ _ _ _ _ _ _ _ _ (mkF m 159 #[.val (.int p0), .val (.int p1), .val (.int p2), .val (.int p3), .val (.int p4), .val (.int p5), .val (.int (p0 &&& (3 : Int32))), .val (.int (2 : Int32)), .val (.int y0), .val (.int y1), .val (.int y2), .val (.int y3), .val (.int y4), .unset, .unset, .unset] [(.int y0), (.int (2 : Int32))])
        refine Go.step (fun _ k => XS.iload W.here W.hx rfl (W.d at_159) rfl k) ?_
        show Go _ _ _ _ _ _ _ _ _ _ (mkF m 161 #[.val (.int p0), .val (.int p1), .val (.int p2), .val (.int p3), .val (.int p4), .val (.int p5), .val (.int (p0 &&& (3 : Int32))), .val (.int (2 : Int32)), .val (.int y0), .val (.int y1), .val (.int y2), .val (.int y3), .val (.int y4), .unset, .unset, .unset] [(.int y1), (.int y0), (.int (2 : Int32))])
        refine Go.step (fun _ k => XS.iload W.here W.hx rfl (W.d at_161) rfl k) ?_
        show Go _ _ _ _ _ _ _ _ _ _ (mkF m 163 #[.val (.int p0), .val (.int p1), .val (.int p2), .val (.int p3), .val (.int p4), .val (.int p5), .val (.int (p0 &&& (3 : Int32))), .val (.int (2 : Int32)), .val (.int y0), .val (.int y1), .val (.int y2), .val (.int y3), .val (.int y4), .unset, .unset, .unset] [(.int y2), (.int y1), (.int y0), (.int (2 : Int32))])
        refine Go.step (fun _ k => XS.iload W.here W.hx rfl (W.d at_163) rfl k) ?_
        show Go _ _ _ _ _ _ _ _ _ _ (mkF m 165 #[.val (.int p0), .val (.int p1), .val (.int p2), .val (.int p3), .val (.int p4), .val (.int p5), .val (.int (p0 &&& (3 : Int32))), .val (.int (2 : Int32)), .val (.int y0), .val (.int y1), .val (.int y2), .val (.int y3), .val (.int y4), .unset, .unset, .unset] [(.int y3), (.int y2), (.int y1), (.int y0), (.int (2 : Int32))])
        refine Go.step (fun _ k => XS.iload W.here W.hx rfl (W.d at_165) rfl k) ?_
        show Go _ _ _ _ _ _ _ _ _ _ (mkF m 167 #[.val (.int p0), .val (.int p1), .val (.int p2), .val (.int p3), .val (.int p4), .val (.int p5), .val (.int (p0 &&& (3 : Int32))), .val (.int (2 : Int32)), .val (.int y0), .val (.int y1), .val (.int y2), .val (.int y3), .val (.int y4), .unset, .unset, .unset] [(.int y4), (.int y3), (.int y2), (.int y1), (.int y0), (.int (2 : Int32))])
        refine W.callS (X.w 23 rfl) (X.w 24 rfl) (X.w 21 rfl) (X.w 25 rfl) (by decide) (c_mk2 X y0 y1 y2 y3 y4 _ W.ext ty0 ty1 ty2 ty3 ty4) (by decide) (Wd := 0) (by decide) [(.int (2 : Int32)), (.int y0), (.int y1), (.int y2), (.int y3), (.int y4)] [] rfl pd_11 rfl rfl rfl (Nat.le_of_eq rfl) at_167 (by decide) (by decide) ?_
        intro v T h vm W hQ C
        obtain ⟨b12, kb12, rfl, gb12, Kb12, Vb12⟩ := hQ
        replace hsz := W.size
        show Go _ _ _ _ _ _ _ _ _ _ (mkF m 170 #[.val (.int p0), .val (.int p1), .val (.int p2), .val (.int p3), .val (.int p4), .val (.int p5), .val (.int (p0 &&& (3 : Int32))), .val (.int (2 : Int32)), .val (.int y0), .val (.int y1), .val (.int y2), .val (.int y3), .val (.int y4), .unset, .unset, .unset] [(.ref b12)])
        refine Go.step (fun _ k => XS.astore W.here W.hx rfl (W.d at_170) rfl rfl (l' := #[.val (.int p0), .val (.int p1), .val (.int p2), .val (.int p3), .val (.int p4), .val (.int p5), .val (.int (p0 &&& (3 : Int32))), .val (.int (2 : Int32)), .val (.int y0), .val (.int y1), .val (.int y2), .val (.int y3), .val (.int y4), .val (.ref b12), .unset, .unset]) rfl k) ?_
        show Go _ _ _ _ _ _ _ _ _ _ (mkF m 172 #[.val (.int p0), .val (.int p1), .val (.int p2), .val (.int p3), .val (.int p4), .val (.int p5), .val (.int (p0 &&& (3 : Int32))), .val (.int (2 : Int32)), .val (.int y0), .val (.int y1), .val (.int y2), .val (.int y3), .val (.int y4), .val (.ref b12), .unset, .unset] [])
        refine W.new (X.w 27 rfl) (X.w 28 rfl) (X.w 29 rfl) at_172 (by decide) (by decide) ?_
        intro T h b13 hb13 W Eb13 Ab13 Db13
        have ne_b12_b13 : b12 ≠ b13 := by rw [hb13]; exact Nat.ne_of_lt Vb12.lt
        have gb13 : Z.heap.size ≤ b13 := by rw [hb13]; exact hsz
        replace Vb12 := Vb12.ext Eb13
        replace hsz := W.size
        have F_coder_b13 : Fld Z h b13 "java/lang/String" "coder" "B" (.int (0 : Int32)) := Db13 (Or.inr (X.w 53 rfl)) (ty := .byte) (by decide)
        have F_value_b13 : Fld Z h b13 "java/lang/String" "value" "[B" .null := Db13 (Or.inr (X.w 55 rfl)) (ty := (.array .byte)) (by decide)
        show Go _ _ _ _ _ _ _ _ _ _ (mkF m 175 #[.val (.int p0), .val (.int p1), .val (.int p2), .val (.int p3), .val (.int p4), .val (.int p5), .val (.int (p0 &&& (3 : Int32))), .val (.int (2 : Int32)), .val (.int y0), .val (.int y1), .val (.int y2), .val (.int y3), .val (.int y4), .val (.ref b12), .unset, .unset] [(.ref b13)])
        refine Go.step (fun _ k => XS.dup W.here W.hx rfl (W.d at_175) rfl rfl k) ?_
        show Go _ _ _ _ _ _ _ _ _ _ (mkF m 176 #[.val (.int p0), .val (.int p1), .val (.int p2), .val (.int p3), .val (.int p4), .val (.int p5), .val (.int (p0 &&& (3 : Int32))), .val (.int (2 : Int32)), .val (.int y0), .val (.int y1), .val (.int y2), .val (.int y3), .val (.int y4), .val (.ref b12), .unset, .unset] [(.ref b13), (.ref b13)])
        refine Go.step (fun _ k => XS.aload W.here W.hx rfl (W.d at_176) rfl rfl k) ?_
        show Go _ _ _ _ _ _ _ _ _ _ (mkF m 178 #[.val (.int p0), .val (.int p1), .val (.int p2), .val (.int p3), .val (.int p4), .val (.int p5), .val (.int (p0 &&& (3 : Int32))), .val (.int (2 : Int32)), .val (.int y0), .val (.int y1), .val (.int y2), .val (.int y3), .val (.int y4), .val (.ref b12), .unset, .unset] [(.ref b12), (.ref b13), (.ref b13)])
        refine W.specialB rfl (X.w 30 rfl) (X.w 31 rfl) (X.w 32 rfl) (by decide) (bk_new X W.hZ W.ext gb13 Ab13 F_value_b13 F_coder_b13 (cs := [y0, y1]) (n := 2) Vb12 rfl rfl (by decide) (by decide) (smS ty0 (smS ty1 sm0)) (by decide) (by decide)) [b13] (fun _ _ _ q => ⟨q.2.1, q.2.2.1⟩) (sfS (Safe.blank W.hZ.alike Ab13 F_value_b13) sf0) (allS gb13 all0) b13 [(.ref b12)] [(.ref b13)] rfl pd_12 rfl rfl rfl (Wd := 1) (Nat.le_of_eq rfl) at_178 (by decide) (by decide) ?_
        intro v T h L W hQ
        obtain ⟨rfl, -, Kb13, Sb13⟩ := hQ
        replace Vb12 := Vb12.keep Kb13 (nin1 ne_b12_b13)
        replace hsz := W.size
        show Go _ _ _ _ _ _ _ _ _ _ (mkF m 181 #[.val (.int p0), .val (.int p1), .val (.int p2), .val (.int p3), .val (.int p4), .val (.int p5), .val (.int (p0 &&& (3 : Int32))), .val (.int (2 : Int32)), .val (.int y0), .val (.int y1), .val (.int y2), .val (.int y3), .val (.int y4), .val (.ref b12), .unset, .unset] [(.ref b13)])
        refine Go.step (fun _ k => XS.astore W.here W.hx rfl (W.d at_181) rfl rfl (l' := #[.val (.int p0), .val (.int p1), .val (.int p2), .val (.int p3), .val (.int p4), .val (.int p5), .val (.int (p0 &&& (3 : Int32))), .val (.int (2 : Int32)), .val (.int y0), .val (.int y1), .val (.int y2), .val (.int y3), .val (.int y4), .val (.ref b12), .val (.ref b13), .unset]) rfl k) ?_
        show Go _ _ _ _ _ _ _ _ _ _ (mkF m 183 #[.val (.int p0), .val (.int p1), .val (.int p2), .val (.int p3), .val (.int p4), .val (.int p5), .val (.int (p0 &&& (3 : Int32))), .val (.int (2 : Int32)), .val (.int y0), .val (.int y1), .val (.int y2), .val (.int y3), .val (.int y4), .val (.ref b12), .val (.ref b13), .unset] [])
        refine Go.step (fun _ k => XS.iload W.here W.hx rfl (W.d at_183) rfl k) ?_
        show Go _ _ _ _ _ _ _ _ _ _ (mkF m 185 #[.val (.int p0), .val (.int p1), .val (.int p2), .val (.int p3), .val (.int p4), .val (.int p5), .val (.int (p0 &&& (3 : Int32))), .val (.int (2 : Int32)), .val (.int y0), .val (.int y1), .val (.int y2), .val (.int y3), .val (.int y4), .val (.ref b12), .val (.ref b13), .unset] [(.int (2 : Int32))])
        refine Go.step (fun _ k => XS.iconst W.here W.hx rfl (W.d at_185) k) ?_
        show Go _ _ _ _ _ _ _ _ _ _ (mkF m 186 #[.val (.int p0), .val (.int p1), .val (.int p2), .val (.int p3), .val (.int p4), .val (.int p5), .val (.int (p0 &&& (3 : Int32))), .val (.int (2 : Int32)), .val (.int y0), .val (.int y1), .val (.int y2), .val (.int y3), .val (.int y4), .val (.ref b12), .val (.ref b13), .unset] [(.int (4 : Int32)), (.int (2 : Int32))])
        refine Go.step (fun _ k => XS.icmpYes W.here W.hx rfl (pc0 := 186) (pc' := 233) rfl (W.d at_186) rfl (feq (by decide : ¬ ((2 : Int32) = (4 : Int32)))).2 (by decide) (by decide) k) ?_
        show Go _ _ _ _ _ _ _ _ _ _ (mkF m 233 #[.val (.int p0), .val (.int p1), .val (.int p2), .val (.int p3), .val (.int p4), .val (.int p5), .val (.int (p0 &&& (3 : Int32))), .val (.int (2 : Int32)), .val (.int y0), .val (.int y1), .val (.int y2), .val (.int y3), .val (.int y4), .val (.ref b12), .val (.ref b13), .unset] [])
        refine Go.step (fun _ k => XS.iconst W.here W.hx rfl (W.d at_233) k) ?_
        show Go _ _ _ _ _ _ _ _ _ _ (mkF m 234 #[.val (.int p0), .val (.int p1), .val (.int p2), .val (.int p3), .val (.int p4), .val (.int p5), .val (.int (p0 &&& (3 : Int32))), .val (.int (2 : Int32)), .val (.int y0), .val (.int y1), .val (.int y2), .val (.int y3), .val (.int y4), .val (.ref b12), .val (.ref b13), .unset] [(.int (0 : Int32))])
        refine Go.step (fun _ k => XS.istore W.here W.hx rfl (W.d at_234) rfl (l' := #[.val (.int p0), .val (.int p1), .val (.int p2), .val (.int p3), .val (.int p4), .val (.int p5), .val (.int (p0 &&& (3 : Int32))), .val (.int (2 : Int32)), .val (.int y0), .val (.int y1), .val (.int y2), .val (.int y3), .val (.int y4), .val (.ref b12), .val (.ref b13), .val (.int (0 : Int32))]) rfl k) ?_
        show Go _ _ _ _ _ _ _ _ _ _ (mkF m 236 #[.val (.int p0), .val (.int p1), .val (.int p2), .val (.int p3), .val (.int p4), .val (.int p5), .val (.int (p0 &&& (3 : Int32))), .val (.int (2 : Int32)), .val (.int y0), .val (.int y1), .val (.int y2), .val (.int y3), .val (.int y4), .val (.ref b12), .val (.ref b13), .val (.int (0 : Int32))] [])
        refine Go.step (fun _ k => XS.aload W.here W.hx rfl (W.d at_236) rfl rfl k) ?_
        show Go _ _ _ _ _ _ _ _ _ _ (mkF m 238 #[.val (.int p0), .val (.int p1), .val (.int p2), .val (.int p3), .val (.int p4), .val (.int p5), .val (.int (p0 &&& (3 : Int32))), .val (.int (2 : Int32)), .val (.int y0), .val (.int y1), .val (.int y2), .val (.int y3), .val (.int y4), .val (.ref b12), .val (.ref b13), .val (.int (0 : Int32))] [(.ref b13)])
        refine W.callS (X.w 0 rfl) (X.w 1 rfl) (X.w 2 rfl) (X.w 3 rfl) (by decide) (c_tbs X b13 _ _ W.ext Sb13) (by decide) (Wd := 0) (by decide) [(.ref b13)] [] rfl pd_8 rfl rfl rfl (Nat.le_of_eq rfl) at_238 (by decide) (by decide) ?_
        intro v T h vm W hQ C
        obtain ⟨hq14, K15⟩ := hQ
        rcases hq14 with ⟨rfl, hq14⟩ | ⟨rfl, hq14⟩
        · replace hsz := W.size
          show Go _ _ _ _ _ _ _ _ _ _ (mkF m 241 #[.val (.int p0), .val (.int p1), .val (.int p2), .val (.int p3), .val (.int p4), .val (.int p5), .val (.int (p0 &&& (3 : Int32))), .val (.int (2 : Int32)), .val (.int y0), .val (.int y1), .val (.int y2), .val (.int y3), .val (.int y4), .val (.ref b12), .val (.ref b13), .val (.int (0 : Int32))] [(.int (1 : Int32))])
          refine Go.step (fun _ k => XS.iload W.here W.hx rfl (W.d at_241) rfl k) ?_
          show Go _ _ _ _ _ _ _ _ _ _ (mkF m 243 #[.val (.int p0), .val (.int p1), .val (.int p2), .val (.int p3), .val (.int p4), .val (.int p5), .val (.int (p0 &&& (3 : Int32))), .val (.int (2 : Int32)), .val (.int y0), .val (.int y1), .val (.int y2), .val (.int y3), .val (.int y4), .val (.ref b12), .val (.ref b13), .val (.int (0 : Int32))] [(.int (0 : Int32)), (.int (1 : Int32))])
          refine Go.step (fun _ k => XS.icmpYes W.here W.hx rfl (pc0 := 243) (pc' := 250) rfl (W.d at_243) rfl (feq (by decide : ¬ ((1 : Int32) = (0 : Int32)))).2 (by decide) (by decide) k) ?_
          show Go _ _ _ _ _ _ _ _ _ _ (mkF m 250 #[.val (.int p0), .val (.int p1), .val (.int p2), .val (.int p3), .val (.int p4), .val (.int p5), .val (.int (p0 &&& (3 : Int32))), .val (.int (2 : Int32)), .val (.int y0), .val (.int y1), .val (.int y2), .val (.int y3), .val (.int y4), .val (.ref b12), .val (.ref b13), .val (.int (0 : Int32))] [])
          refine Go.step (fun _ k => XS.iconst W.here W.hx rfl (W.d at_250) k) ?_
          show Go _ _ _ _ _ _ _ _ _ _ (mkF m 251 #[.val (.int p0), .val (.int p1), .val (.int p2), .val (.int p3), .val (.int p4), .val (.int p5), .val (.int (p0 &&& (3 : Int32))), .val (.int (2 : Int32)), .val (.int y0), .val (.int y1), .val (.int y2), .val (.int y3), .val (.int y4), .val (.ref b12), .val (.ref b13), .val (.int (0 : Int32))] [(.int (0 : Int32))])
          exact absurd (isTrue_len hq14) (by simp)
        · replace hsz := W.size
          show Go _ _ _ _ _ _ _ _ _ _ (mkF m 241 #[.val (.int p0), .val (.int p1), .val (.int p2), .val (.int p3), .val (.int p4), .val (.int p5), .val (.int (p0 &&& (3 : Int32))), .val (.int (2 : Int32)), .val (.int y0), .val (.int y1), .val (.int y2), .val (.int y3), .val (.int y4), .val (.ref b12), .val (.ref b13), .val (.int (0 : Int32))] [(.int (0 : Int32))])
          refine Go.step (fun _ k => XS.iload W.here W.hx rfl (W.d at_241) rfl k) ?_
          show Go _ _ _ _ _ _ _ _ _ _ (mkF m 243 #[.val (.int p0), .val (.int p1), .val (.int p2), .val (.int p3), .val (.int p4), .val (.int p5), .val (.int (p0 &&& (3 : Int32))), .val (.int (2 : Int32)), .val (.int y0), .val (.int y1), .val (.int y2), .val (.int y3), .val (.int y4), .val (.ref b12), .val (.ref b13), .val (.int (0 : Int32))] [(.int (0 : Int32)), (.int (0 : Int32))])
          refine Go.step (fun _ k => XS.icmpNo W.here W.hx rfl (W.d at_243) rfl (teq (by decide : (0 : Int32) = (0 : Int32))).2 k) ?_
          show Go _ _ _ _ _ _ _ _ _ _ (mkF m 246 #[.val (.int p0), .val (.int p1), .val (.int p2), .val (.int p3), .val (.int p4), .val (.int p5), .val (.int (p0 &&& (3 : Int32))), .val (.int (2 : Int32)), .val (.int y0), .val (.int y1), .val (.int y2), .val (.int y3), .val (.int y4), .val (.ref b12), .val (.ref b13), .val (.int (0 : Int32))] [])
          refine Go.step (fun _ k => XS.iconst W.here W.hx rfl (W.d at_246) k) ?_
          show Go _ _ _ _ _ _ _ _ _ _ (mkF m 247 #[.val (.int p0), .val (.int p1), .val (.int p2), .val (.int p3), .val (.int p4), .val (.int p5), .val (.int (p0 &&& (3 : Int32))), .val (.int (2 : Int32)), .val (.int y0), .val (.int y1), .val (.int y2), .val (.int y3), .val (.int y4), .val (.ref b12), .val (.ref b13), .val (.int (0 : Int32))] [(.int (1 : Int32))])
          refine Go.step (fun _ k => XS.goto W.here W.hx rfl (pc0 := 247) (pc' := 251) rfl (W.d at_247) (by decide) (by decide) k) ?_
          show Go _ _ _ _ _ _ _ _ _ _ (mkF m 251 #[.val (.int p0), .val (.int p1), .val (.int p2), .val (.int p3), .val (.int p4), .val (.int p5), .val (.int (p0 &&& (3 : Int32))), .val (.int (2 : Int32)), .val (.int y0), .val (.int y1), .val (.int y2), .val (.int y3), .val (.int y4), .val (.ref b12), .val (.ref b13), .val (.int (0 : Int32))] [(.int (1 : Int32))])
          exact W.retN (by simp) at_251 (rfl) (by decide) (by decide)
      · have ty4 := t_y4
        show Go _ _ _ _ _ _ _ _ _ _ (mkF m 155 #[.val (.int p0), .val (.int p1), .val (.int p2), .val (.int p3), .val (.int p4), .val (.int p5), .val (.int (p0 &&& (3 : Int32))), .val (.int (3 : Int32)), .val (.int y0), .val (.int y1), .val (.int y2), .val (.int y3), .val (.int y4), .unset, .unset, .unset] [])
        refine Go.step (fun _ k => XS.iload W.here W.hx rfl (W.d at_155) rfl k) ?_
        show Go _ _ _ _ _ _ _ _ _ _ (mkF m 157 #[.val (.int p0), .val (.int p1), .val (.int p2), .val (.int p3), .val (.int p4), .val (.int p5), .val (.int (p0 &&& (3 : Int32))), .val (.int (3 : Int32)), .val (.int y0), .val (.int y1), .val (.int y2), .val (.int y3), .val (.int y4), .unset, .unset, .unset] [(.int (3 : Int32))])
        refine Go.step (fun _ k => XS.iload W.here W.hx rfl (W.d at_157) rfl k) ?_
        show Go _ _ _ _ _ _ _ _ _ _ (mkF m 159 #[.val (.int p0), .val (.int p1), .val (.int p2), .val (.int p3), .val (.int p4), .val (.int p5), .val (.int (p0 &&& (3 : Int32))), .val (.int (3 : Int32)), .val (.int y0), .val (.int y1), .val (.int y2), .val (.int y3), .val (.int y4), .unset, .unset, .unset] [(.int y0), (.int (3 : Int32))])
        refine Go.step (fun _ k => XS.iload W.here W.hx rfl (W.d at_159) rfl k) ?_
        show Go _ _ _ _ _ _ _ _ _ _ (mkF m 161 #[.val (.int p0), .val (.int p1), .val (.int p2), .val (.int p3), .val (.int p4), .val (.int p5), .val (.int (p0 &&& (3 : Int32))), .val (.int (3 : Int32)), .val (.int y0), .val (.int y1), .val (.int y2), .val (.int y3), .val (.int y4), .unset, .unset, .unset] [(.int y1), (.int y0), (.int (3 : Int32))])
        refine Go.step (fun _ k => XS.iload W.here W.hx rfl (W.d at_161) rfl k) ?_
        show Go _ _ _ _ _ _ _ _ _ _ (mkF m 163 #[.val (.int p0), .val (.int p1), .val (.int p2), .val (.int p3), .val (.int p4), .val (.int p5), .val (.int (p0 &&& (3 : Int32))), .val (.int (3 : Int32)), .val (.int y0), .val (.int y1), .val (.int y2), .val (.int y3), .val (.int y4), .unset, .unset, .unset] [(.int y2), (.int y1), (.int y0), (.int (3 : Int32))])
        refine Go.step (fun _ k => XS.iload W.here W.hx rfl (W.d at_163) rfl k) ?_
        show Go _ _ _ _ _ _ _ _ _ _ (mkF m 165 #[.val (.int p0), .val (.int p1), .val (.int p2), .val (.int p3), .val (.int p4), .val (.int p5), .val (.int (p0 &&& (3 : Int32))), .val (.int (3 : Int32)), .val (.int y0), .val (.int y1), .val (.int y2), .val (.int y3), .val (.int y4), .unset, .unset, .unset] [(.int y3), (.int y2), (.int y1), (.int y0), (.int (3 : Int32))])
        refine Go.step (fun _ k => XS.iload W.here W.hx rfl (W.d at_165) rfl k) ?_
        show Go _ _ _ _ _ _ _ _ _ _ (mkF m 167 #[.val (.int p0), .val (.int p1), .val (.int p2), .val (.int p3), .val (.int p4), .val (.int p5), .val (.int (p0 &&& (3 : Int32))), .val (.int (3 : Int32)), .val (.int y0), .val (.int y1), .val (.int y2), .val (.int y3), .val (.int y4), .unset, .unset, .unset] [(.int y4), (.int y3), (.int y2), (.int y1), (.int y0), (.int (3 : Int32))])
        refine W.callS (X.w 23 rfl) (X.w 24 rfl) (X.w 21 rfl) (X.w 25 rfl) (by decide) (c_mk3 X y0 y1 y2 y3 y4 _ W.ext ty0 ty1 ty2 ty3 ty4) (by decide) (Wd := 0) (by decide) [(.int (3 : Int32)), (.int y0), (.int y1), (.int y2), (.int y3), (.int y4)] [] rfl pd_11 rfl rfl rfl (Nat.le_of_eq rfl) at_167 (by decide) (by decide) ?_
        intro v T h vm W hQ C
        obtain ⟨b16, kb16, rfl, gb16, Kb16, Vb16⟩ := hQ
        replace hsz := W.size
        show Go _ _ _ _ _ _ _ _ _ _ (mkF m 170 #[.val (.int p0), .val (.int p1), .val (.int p2), .val (.int p3), .val (.int p4), .val (.int p5), .val (.int (p0 &&& (3 : Int32))), .val (.int (3 : Int32)), .val (.int y0), .val (.int y1), .val (.int y2), .val (.int y3), .val (.int y4), .unset, .unset, .unset] [(.ref b16)])
        refine Go.step (fun _ k => XS.astore W.here W.hx rfl (W.d at_170) rfl rfl (l' := #[.val (.int p0), .val (.int p1), .val (.int p2), .val (.int p3), .val (.int p4), .val (.int p5), .val (.int (p0 &&& (3 : Int32))), .val (.int (3 : Int32)), .val (.int y0), .val (.int y1), .val (.int y2), .val (.int y3), .val (.int y4), .val (.ref b16), .unset, .unset]) rfl k) ?_
        show Go _ _ _ _ _ _ _ _ _ _ (mkF m 172 #[.val (.int p0), .val (.int p1), .val (.int p2), .val (.int p3), .val (.int p4), .val (.int p5), .val (.int (p0 &&& (3 : Int32))), .val (.int (3 : Int32)), .val (.int y0), .val (.int y1), .val (.int y2), .val (.int y3), .val (.int y4), .val (.ref b16), .unset, .unset] [])
        refine W.new (X.w 27 rfl) (X.w 28 rfl) (X.w 29 rfl) at_172 (by decide) (by decide) ?_
        intro T h b17 hb17 W Eb17 Ab17 Db17
        have ne_b16_b17 : b16 ≠ b17 := by rw [hb17]; exact Nat.ne_of_lt Vb16.lt
        have gb17 : Z.heap.size ≤ b17 := by rw [hb17]; exact hsz
        replace Vb16 := Vb16.ext Eb17
        replace hsz := W.size
        have F_coder_b17 : Fld Z h b17 "java/lang/String" "coder" "B" (.int (0 : Int32)) := Db17 (Or.inr (X.w 53 rfl)) (ty := .byte) (by decide)
        have F_value_b17 : Fld Z h b17 "java/lang/String" "value" "[B" .null := Db17 (Or.inr (X.w 55 rfl)) (ty := (.array .byte)) (by decide)
        show Go _ _ _ _ _ _ _ _ _ _ (mkF m 175 #[.val (.int p0), .val (.int p1), .val (.int p2), .val (.int p3), .val (.int p4), .val (.int p5), .val (.int (p0 &&& (3 : Int32))), .val (.int (3 : Int32)), .val (.int y0), .val (.int y1), .val (.int y2), .val (.int y3), .val (.int y4), .val (.ref b16), .unset, .unset] [(.ref b17)])
        refine Go.step (fun _ k => XS.dup W.here W.hx rfl (W.d at_175) rfl rfl k) ?_
        show Go _ _ _ _ _ _ _ _ _ _ (mkF m 176 #[.val (.int p0), .val (.int p1), .val (.int p2), .val (.int p3), .val (.int p4), .val (.int p5), .val (.int (p0 &&& (3 : Int32))), .val (.int (3 : Int32)), .val (.int y0), .val (.int y1), .val (.int y2), .val (.int y3), .val (.int y4), .val (.ref b16), .unset, .unset] [(.ref b17), (.ref b17)])
        refine Go.step (fun _ k => XS.aload W.here W.hx rfl (W.d at_176) rfl rfl k) ?_
        show Go _ _ _ _ _ _ _ _ _ _ (mkF m 178 #[.val (.int p0), .val (.int p1), .val (.int p2), .val (.int p3), .val (.int p4), .val (.int p5), .val (.int (p0 &&& (3 : Int32))), .val (.int (3 : Int32)), .val (.int y0), .val (.int y1), .val (.int y2), .val (.int y3), .val (.int y4), .val (.ref b16), .unset, .unset] [(.ref b16), (.ref b17), (.ref b17)])
        refine W.specialB rfl (X.w 30 rfl) (X.w 31 rfl) (X.w 32 rfl) (by decide) (bk_new X W.hZ W.ext gb17 Ab17 F_value_b17 F_coder_b17 (cs := [y0, y1, y2]) (n := 3) Vb16 rfl rfl (by decide) (by decide) (smS ty0 (smS ty1 (smS ty2 sm0))) (by decide) (by decide)) [b17] (fun _ _ _ q => ⟨q.2.1, q.2.2.1⟩) (sfS (Safe.blank W.hZ.alike Ab17 F_value_b17) sf0) (allS gb17 all0) b17 [(.ref b16)] [(.ref b17)] rfl pd_12 rfl rfl rfl (Wd := 1) (Nat.le_of_eq rfl) at_178 (by decide) (by decide) ?_
        intro v T h L W hQ
        obtain ⟨rfl, -, Kb17, Sb17⟩ := hQ
        replace Vb16 := Vb16.keep Kb17 (nin1 ne_b16_b17)
        replace hsz := W.size
        show Go _ _ _ _ _ _ _ _ _ _ (mkF m 181 #[.val (.int p0), .val (.int p1), .val (.int p2), .val (.int p3), .val (.int p4), .val (.int p5), .val (.int (p0 &&& (3 : Int32))), .val (.int (3 : Int32)), .val (.int y0), .val (.int y1), .val (.int y2), .val (.int y3), .val (.int y4), .val (.ref b16), .unset, .unset] [(.ref b17)])
        refine Go.step (fun _ k => XS.astore W.here W.hx rfl (W.d at_181) rfl rfl (l' := #[.val (.int p0), .val (.int p1), .val (.int p2), .val (.int p3), .val (.int p4), .val (.int p5), .val (.int (p0 &&& (3 : Int32))), .val (.int (3 : Int32)), .val (.int y0), .val (.int y1), .val (.int y2), .val (.int y3), .val (.int y4), .val (.ref b16), .val (.ref b17), .unset]) rfl k) ?_
        show Go _ _ _ _ _ _ _ _ _ _ (mkF m 183 #[.val (.int p0), .val (.int p1), .val (.int p2), .val (.int p3), .val (.int p4), .val (.int p5), .val (.int (p0 &&& (3 : Int32))), .val (.int (3 : Int32)), .val (.int y0), .val (.int y1), .val (.int y2), .val (.int y3), .val (.int y4), .val (.ref b16), .val (.ref b17), .unset] [])
        refine Go.step (fun _ k => XS.iload W.here W.hx rfl (W.d at_183) rfl k) ?_
        show Go _ _ _ _ _ _ _ _ _ _ (mkF m 185 #[.val (.int p0), .val (.int p1), .val (.int p2), .val (.int p3), .val (.int p4), .val (.int p5), .val (.int (p0 &&& (3 : Int32))), .val (.int (3 : Int32)), .val (.int y0), .val (.int y1), .val (.int y2), .val (.int y3), .val (.int y4), .val (.ref b16), .val (.ref b17), .unset] [(.int (3 : Int32))])
        refine Go.step (fun _ k => XS.iconst W.here W.hx rfl (W.d at_185) k) ?_
        show Go _ _ _ _ _ _ _ _ _ _ (mkF m 186 #[.val (.int p0), .val (.int p1), .val (.int p2), .val (.int p3), .val (.int p4), .val (.int p5), .val (.int (p0 &&& (3 : Int32))), .val (.int (3 : Int32)), .val (.int y0), .val (.int y1), .val (.int y2), .val (.int y3), .val (.int y4), .val (.ref b16), .val (.ref b17), .unset] [(.int (4 : Int32)), (.int (3 : Int32))])
        refine Go.step (fun _ k => XS.icmpYes W.here W.hx rfl (pc0 := 186) (pc' := 233) rfl (W.d at_186) rfl (feq (by decide : ¬ ((3 : Int32) = (4 : Int32)))).2 (by decide) (by decide) k) ?_
        show Go _ _ _ _ _ _ _ _ _ _ (mkF m 233 #[.val (.int p0), .val (.int p1), .val (.int p2), .val (.int p3), .val (.int p4), .val (.int p5), .val (.int (p0 &&& (3 : Int32))), .val (.int (3 : Int32)), .val (.int y0), .val (.int y1), .val (.int y2), .val (.int y3), .val (.int y4), .val (.ref b16), .val (.ref b17), .unset] [])
        refine Go.step (fun _ k => XS.iconst W.here W.hx rfl (W.d at_233) k) ?_
        show Go _ _ _ _ _ _ _ _ _ _ (mkF m 234 #[.val (.int p0), .val (.int p1), .val (.int p2), .val (.int p3), .val (.int p4), .val (.int p5), .val (.int (p0 &&& (3 : Int32))), .val (.int (3 : Int32)), .val (.int y0), .val (.int y1), .val (.int y2), .val (.int y3), .val (.int y4), .val (.ref b16), .val (.ref b17), .unset] [(.int (0 : Int32))])
        refine Go.step (fun _ k => XS.istore W.here W.hx rfl (W.d at_234) rfl (l' := #[.val (.int p0), .val (.int p1), .val (.int p2), .val (.int p3), .val (.int p4), .val (.int p5), .val (.int (p0 &&& (3 : Int32))), .val (.int (3 : Int32)), .val (.int y0), .val (.int y1), .val (.int y2), .val (.int y3), .val (.int y4), .val (.ref b16), .val (.ref b17), .val (.int (0 : Int32))]) rfl k) ?_
        show Go _ _ _ _ _ _ _ _ _ _ (mkF m 236 #[.val (.int p0), .val (.int p1), .val (.int p2), .val (.int p3), .val (.int p4), .val (.int p5), .val (.int (p0 &&& (3 : Int32))), .val (.int (3 : Int32)), .val (.int y0), .val (.int y1), .val (.int y2), .val (.int y3), .val (.int y4), .val (.ref b16), .val (.ref b17), .val (.int (0 : Int32))] [])
        refine Go.step (fun _ k => XS.aload W.here W.hx rfl (W.d at_236) rfl rfl k) ?_
        show Go _ _ _ _ _ _ _ _ _ _ (mkF m 238 #[.val (.int p0), .val (.int p1), .val (.int p2), .val (.int p3), .val (.int p4), .val (.int p5), .val (.int (p0 &&& (3 : Int32))), .val (.int (3 : Int32)), .val (.int y0), .val (.int y1), .val (.int y2), .val (.int y3), .val (.int y4), .val (.ref b16), .val (.ref b17), .val (.int (0 : Int32))] [(.ref b17)])
        refine W.callS (X.w 0 rfl) (X.w 1 rfl) (X.w 2 rfl) (X.w 3 rfl) (by decide) (c_tbs X b17 _ _ W.ext Sb17) (by decide) (Wd := 0) (by decide) [(.ref b17)] [] rfl pd_8 rfl rfl rfl (Nat.le_of_eq rfl) at_238 (by decide) (by decide) ?_
        intro v T h vm W hQ C
        obtain ⟨hq18, K19⟩ := hQ
        rcases hq18 with ⟨rfl, hq18⟩ | ⟨rfl, hq18⟩
        · replace hsz := W.size
          show Go _ _ _ _ _ _ _ _ _ _ (mkF m 241 #[.val (.int p0), .val (.int p1), .val (.int p2), .val (.int p3), .val (.int p4), .val (.int p5), .val (.int (p0 &&& (3 : Int32))), .val (.int (3 : Int32)), .val (.int y0), .val (.int y1), .val (.int y2), .val (.int y3), .val (.int y4), .val (.ref b16), .val (.ref b17), .val (.int (0 : Int32))] [(.int (1 : Int32))])
          refine Go.step (fun _ k => XS.iload W.here W.hx rfl (W.d at_241) rfl k) ?_
          show Go _ _ _ _ _ _ _ _ _ _ (mkF m 243 #[.val (.int p0), .val (.int p1), .val (.int p2), .val (.int p3), .val (.int p4), .val (.int p5), .val (.int (p0 &&& (3 : Int32))), .val (.int (3 : Int32)), .val (.int y0), .val (.int y1), .val (.int y2), .val (.int y3), .val (.int y4), .val (.ref b16), .val (.ref b17), .val (.int (0 : Int32))] [(.int (0 : Int32)), (.int (1 : Int32))])
          refine Go.step (fun _ k => XS.icmpYes W.here W.hx rfl (pc0 := 243) (pc' := 250) rfl (W.d at_243) rfl (feq (by decide : ¬ ((1 : Int32) = (0 : Int32)))).2 (by decide) (by decide) k) ?_
          show Go _ _ _ _ _ _ _ _ _ _ (mkF m 250 #[.val (.int p0), .val (.int p1), .val (.int p2), .val (.int p3), .val (.int p4), .val (.int p5), .val (.int (p0 &&& (3 : Int32))), .val (.int (3 : Int32)), .val (.int y0), .val (.int y1), .val (.int y2), .val (.int y3), .val (.int y4), .val (.ref b16), .val (.ref b17), .val (.int (0 : Int32))] [])
          refine Go.step (fun _ k => XS.iconst W.here W.hx rfl (W.d at_250) k) ?_
          show Go _ _ _ _ _ _ _ _ _ _ (mkF m 251 #[.val (.int p0), .val (.int p1), .val (.int p2), .val (.int p3), .val (.int p4), .val (.int p5), .val (.int (p0 &&& (3 : Int32))), .val (.int (3 : Int32)), .val (.int y0), .val (.int y1), .val (.int y2), .val (.int y3), .val (.int y4), .val (.ref b16), .val (.ref b17), .val (.int (0 : Int32))] [(.int (0 : Int32))])
          exact absurd (isTrue_len hq18) (by simp)
        · replace hsz := W.size
          show Go _ _ _ _ _ _ _ _ _ _ (mkF m 241 #[.val (.int p0), .val (.int p1), .val (.int p2), .val (.int p3), .val (.int p4), .val (.int p5), .val (.int (p0 &&& (3 : Int32))), .val (.int (3 : Int32)), .val (.int y0), .val (.int y1), .val (.int y2), .val (.int y3), .val (.int y4), .val (.ref b16), .val (.ref b17), .val (.int (0 : Int32))] [(.int (0 : Int32))])
          refine Go.step (fun _ k => XS.iload W.here W.hx rfl (W.d at_241) rfl k) ?_
          show Go _ _ _ _ _ _ _ _ _ _ (mkF m 243 #[.val (.int p0), .val (.int p1), .val (.int p2), .val (.int p3), .val (.int p4), .val (.int p5), .val (.int (p0 &&& (3 : Int32))), .val (.int (3 : Int32)), .val (.int y0), .val (.int y1), .val (.int y2), .val (.int y3), .val (.int y4), .val (.ref b16), .val (.ref b17), .val (.int (0 : Int32))] [(.int (0 : Int32)), (.int (0 : Int32))])
          refine Go.step (fun _ k => XS.icmpNo W.here W.hx rfl (W.d at_243) rfl (teq (by decide : (0 : Int32) = (0 : Int32))).2 k) ?_
          show Go _ _ _ _ _ _ _ _ _ _ (mkF m 246 #[.val (.int p0), .val (.int p1), .val (.int p2), .val (.int p3), .val (.int p4), .val (.int p5), .val (.int (p0 &&& (3 : Int32))), .val (.int (3 : Int32)), .val (.int y0), .val (.int y1), .val (.int y2), .val (.int y3), .val (.int y4), .val (.ref b16), .val (.ref b17), .val (.int (0 : Int32))] [])
          refine Go.step (fun _ k => XS.iconst W.here W.hx rfl (W.d at_246) k) ?_
          show Go _ _ _ _ _ _ _ _ _ _ (mkF m 247 #[.val (.int p0), .val (.int p1), .val (.int p2), .val (.int p3), .val (.int p4), .val (.int p5), .val (.int (p0 &&& (3 : Int32))), .val (.int (3 : Int32)), .val (.int y0), .val (.int y1), .val (.int y2), .val (.int y3), .val (.int y4), .val (.ref b16), .val (.ref b17), .val (.int (0 : Int32))] [(.int (1 : Int32))])
          refine Go.step (fun _ k => XS.goto W.here W.hx rfl (pc0 := 247) (pc' := 251) rfl (W.d at_247) (by decide) (by decide) k) ?_
          show Go _ _ _ _ _ _ _ _ _ _ (mkF m 251 #[.val (.int p0), .val (.int p1), .val (.int p2), .val (.int p3), .val (.int p4), .val (.int p5), .val (.int (p0 &&& (3 : Int32))), .val (.int (3 : Int32)), .val (.int y0), .val (.int y1), .val (.int y2), .val (.int y3), .val (.int y4), .val (.ref b16), .val (.ref b17), .val (.int (0 : Int32))] [(.int (1 : Int32))])
          exact W.retN (by simp) at_251 (rfl) (by decide) (by decide)
      · have ty4 := t_y4
        show Go _ _ _ _ _ _ _ _ _ _ (mkF m 155 #[.val (.int p0), .val (.int p1), .val (.int p2), .val (.int p3), .val (.int p4), .val (.int p5), .val (.int (p0 &&& (3 : Int32))), .val (.int (4 : Int32)), .val (.int y0), .val (.int y1), .val (.int y2), .val (.int y3), .val (.int y4), .unset, .unset, .unset] [])
        refine Go.step (fun _ k => XS.iload W.here W.hx rfl (W.d at_155) rfl k) ?_
        show Go _ _ _ _ _ _ _ _ _ _ (mkF m 157 #[.val (.int p0), .val (.int p1), .val (.int p2), .val (.int p3), .val (.int p4), .val (.int p5), .val (.int (p0 &&& (3 : Int32))), .val (.int (4 : Int32)), .val (.int y0), .val (.int y1), .val (.int y2), .val (.int y3), .val (.int y4), .unset, .unset, .unset] [(.int (4 : Int32))])
        refine Go.step (fun _ k => XS.iload W.here W.hx rfl (W.d at_157) rfl k) ?_
        show Go _ _ _ _ _ _ _ _ _ _ (mkF m 159 #[.val (.int p0), .val (.int p1), .val (.int p2), .val (.int p3), .val (.int p4), .val (.int p5), .val (.int (p0 &&& (3 : Int32))), .val (.int (4 : Int32)), .val (.int y0), .val (.int y1), .val (.int y2), .val (.int y3), .val (.int y4), .unset, .unset, .unset] [(.int y0), (.int (4 : Int32))])
        refine Go.step (fun _ k => XS.iload W.here W.hx rfl (W.d at_159) rfl k) ?_
        show Go _ _ _ _ _ _ _ _ _ _ (mkF m 161 #[.val (.int p0), .val (.int p1), .val (.int p2), .val (.int p3), .val (.int p4), .val (.int p5), .val (.int (p0 &&& (3 : Int32))), .val (.int (4 : Int32)), .val (.int y0), .val (.int y1), .val (.int y2), .val (.int y3), .val (.int y4), .unset, .unset, .unset] [(.int y1), (.int y0), (.int (4 : Int32))])
        refine Go.step (fun _ k => XS.iload W.here W.hx rfl (W.d at_161) rfl k) ?_
        show Go _ _ _ _ _ _ _ _ _ _ (mkF m 163 #[.val (.int p0), .val (.int p1), .val (.int p2), .val (.int p3), .val (.int p4), .val (.int p5), .val (.int (p0 &&& (3 : Int32))), .val (.int (4 : Int32)), .val (.int y0), .val (.int y1), .val (.int y2), .val (.int y3), .val (.int y4), .unset, .unset, .unset] [(.int y2), (.int y1), (.int y0), (.int (4 : Int32))])
        refine Go.step (fun _ k => XS.iload W.here W.hx rfl (W.d at_163) rfl k) ?_
        show Go _ _ _ _ _ _ _ _ _ _ (mkF m 165 #[.val (.int p0), .val (.int p1), .val (.int p2), .val (.int p3), .val (.int p4), .val (.int p5), .val (.int (p0 &&& (3 : Int32))), .val (.int (4 : Int32)), .val (.int y0), .val (.int y1), .val (.int y2), .val (.int y3), .val (.int y4), .unset, .unset, .unset] [(.int y3), (.int y2), (.int y1), (.int y0), (.int (4 : Int32))])
        refine Go.step (fun _ k => XS.iload W.here W.hx rfl (W.d at_165) rfl k) ?_
        show Go _ _ _ _ _ _ _ _ _ _ (mkF m 167 #[.val (.int p0), .val (.int p1), .val (.int p2), .val (.int p3), .val (.int p4), .val (.int p5), .val (.int (p0 &&& (3 : Int32))), .val (.int (4 : Int32)), .val (.int y0), .val (.int y1), .val (.int y2), .val (.int y3), .val (.int y4), .unset, .unset, .unset] [(.int y4), (.int y3), (.int y2), (.int y1), (.int y0), (.int (4 : Int32))])
        refine W.callS (X.w 23 rfl) (X.w 24 rfl) (X.w 21 rfl) (X.w 25 rfl) (by decide) (c_mk4 X y0 y1 y2 y3 y4 _ W.ext ty0 ty1 ty2 ty3 ty4) (by decide) (Wd := 0) (by decide) [(.int (4 : Int32)), (.int y0), (.int y1), (.int y2), (.int y3), (.int y4)] [] rfl pd_11 rfl rfl rfl (Nat.le_of_eq rfl) at_167 (by decide) (by decide) ?_
        intro v T h vm W hQ C
        obtain ⟨b20, kb20, rfl, gb20, Kb20, Vb20⟩ := hQ
        replace hsz := W.size
        show Go _ _ _ _ _ _ _ _ _ _ (mkF m 170 #[.val (.int p0), .val (.int p1), .val (.int p2), .val (.int p3), .val (.int p4), .val (.int p5), .val (.int (p0 &&& (3 : Int32))), .val (.int (4 : Int32)), .val (.int y0), .val (.int y1), .val (.int y2), .val (.int y3), .val (.int y4), .unset, .unset, .unset] [(.ref b20)])
        refine Go.step (fun _ k => XS.astore W.here W.hx rfl (W.d at_170) rfl rfl (l' := #[.val (.int p0), .val (.int p1), .val (.int p2), .val (.int p3), .val (.int p4), .val (.int p5), .val (.int (p0 &&& (3 : Int32))), .val (.int (4 : Int32)), .val (.int y0), .val (.int y1), .val (.int y2), .val (.int y3), .val (.int y4), .val (.ref b20), .unset, .unset]) rfl k) ?_
        show Go _ _ _ _ _ _ _ _ _ _ (mkF m 172 #[.val (.int p0), .val (.int p1), .val (.int p2), .val (.int p3), .val (.int p4), .val (.int p5), .val (.int (p0 &&& (3 : Int32))), .val (.int (4 : Int32)), .val (.int y0), .val (.int y1), .val (.int y2), .val (.int y3), .val (.int y4), .val (.ref b20), .unset, .unset] [])
        refine W.new (X.w 27 rfl) (X.w 28 rfl) (X.w 29 rfl) at_172 (by decide) (by decide) ?_
        intro T h b21 hb21 W Eb21 Ab21 Db21
        have ne_b20_b21 : b20 ≠ b21 := by rw [hb21]; exact Nat.ne_of_lt Vb20.lt
        have gb21 : Z.heap.size ≤ b21 := by rw [hb21]; exact hsz
        replace Vb20 := Vb20.ext Eb21
        replace hsz := W.size
        have F_coder_b21 : Fld Z h b21 "java/lang/String" "coder" "B" (.int (0 : Int32)) := Db21 (Or.inr (X.w 53 rfl)) (ty := .byte) (by decide)
        have F_value_b21 : Fld Z h b21 "java/lang/String" "value" "[B" .null := Db21 (Or.inr (X.w 55 rfl)) (ty := (.array .byte)) (by decide)
        show Go _ _ _ _ _ _ _ _ _ _ (mkF m 175 #[.val (.int p0), .val (.int p1), .val (.int p2), .val (.int p3), .val (.int p4), .val (.int p5), .val (.int (p0 &&& (3 : Int32))), .val (.int (4 : Int32)), .val (.int y0), .val (.int y1), .val (.int y2), .val (.int y3), .val (.int y4), .val (.ref b20), .unset, .unset] [(.ref b21)])
        refine Go.step (fun _ k => XS.dup W.here W.hx rfl (W.d at_175) rfl rfl k) ?_
        show Go _ _ _ _ _ _ _ _ _ _ (mkF m 176 #[.val (.int p0), .val (.int p1), .val (.int p2), .val (.int p3), .val (.int p4), .val (.int p5), .val (.int (p0 &&& (3 : Int32))), .val (.int (4 : Int32)), .val (.int y0), .val (.int y1), .val (.int y2), .val (.int y3), .val (.int y4), .val (.ref b20), .unset, .unset] [(.ref b21), (.ref b21)])
        refine Go.step (fun _ k => XS.aload W.here W.hx rfl (W.d at_176) rfl rfl k) ?_
        show Go _ _ _ _ _ _ _ _ _ _ (mkF m 178 #[.val (.int p0), .val (.int p1), .val (.int p2), .val (.int p3), .val (.int p4), .val (.int p5), .val (.int (p0 &&& (3 : Int32))), .val (.int (4 : Int32)), .val (.int y0), .val (.int y1), .val (.int y2), .val (.int y3), .val (.int y4), .val (.ref b20), .unset, .unset] [(.ref b20), (.ref b21), (.ref b21)])
        refine W.specialB rfl (X.w 30 rfl) (X.w 31 rfl) (X.w 32 rfl) (by decide) (bk_new X W.hZ W.ext gb21 Ab21 F_value_b21 F_coder_b21 (cs := [y0, y1, y2, y3]) (n := 4) Vb20 rfl rfl (by decide) (by decide) (smS ty0 (smS ty1 (smS ty2 (smS ty3 sm0)))) (by decide) (by decide)) [b21] (fun _ _ _ q => ⟨q.2.1, q.2.2.1⟩) (sfS (Safe.blank W.hZ.alike Ab21 F_value_b21) sf0) (allS gb21 all0) b21 [(.ref b20)] [(.ref b21)] rfl pd_12 rfl rfl rfl (Wd := 1) (Nat.le_of_eq rfl) at_178 (by decide) (by decide) ?_
        intro v T h L W hQ
        obtain ⟨rfl, -, Kb21, Sb21⟩ := hQ
        replace Vb20 := Vb20.keep Kb21 (nin1 ne_b20_b21)
        replace hsz := W.size
        show Go _ _ _ _ _ _ _ _ _ _ (mkF m 181 #[.val (.int p0), .val (.int p1), .val (.int p2), .val (.int p3), .val (.int p4), .val (.int p5), .val (.int (p0 &&& (3 : Int32))), .val (.int (4 : Int32)), .val (.int y0), .val (.int y1), .val (.int y2), .val (.int y3), .val (.int y4), .val (.ref b20), .unset, .unset] [(.ref b21)])
        refine Go.step (fun _ k => XS.astore W.here W.hx rfl (W.d at_181) rfl rfl (l' := #[.val (.int p0), .val (.int p1), .val (.int p2), .val (.int p3), .val (.int p4), .val (.int p5), .val (.int (p0 &&& (3 : Int32))), .val (.int (4 : Int32)), .val (.int y0), .val (.int y1), .val (.int y2), .val (.int y3), .val (.int y4), .val (.ref b20), .val (.ref b21), .unset]) rfl k) ?_
        show Go _ _ _ _ _ _ _ _ _ _ (mkF m 183 #[.val (.int p0), .val (.int p1), .val (.int p2), .val (.int p3), .val (.int p4), .val (.int p5), .val (.int (p0 &&& (3 : Int32))), .val (.int (4 : Int32)), .val (.int y0), .val (.int y1), .val (.int y2), .val (.int y3), .val (.int y4), .val (.ref b20), .val (.ref b21), .unset] [])
        refine Go.step (fun _ k => XS.iload W.here W.hx rfl (W.d at_183) rfl k) ?_
        show Go _ _ _ _ _ _ _ _ _ _ (mkF m 185 #[.val (.int p0), .val (.int p1), .val (.int p2), .val (.int p3), .val (.int p4), .val (.int p5), .val (.int (p0 &&& (3 : Int32))), .val (.int (4 : Int32)), .val (.int y0), .val (.int y1), .val (.int y2), .val (.int y3), .val (.int y4), .val (.ref b20), .val (.ref b21), .unset] [(.int (4 : Int32))])
        refine Go.step (fun _ k => XS.iconst W.here W.hx rfl (W.d at_185) k) ?_
        show Go _ _ _ _ _ _ _ _ _ _ (mkF m 186 #[.val (.int p0), .val (.int p1), .val (.int p2), .val (.int p3), .val (.int p4), .val (.int p5), .val (.int (p0 &&& (3 : Int32))), .val (.int (4 : Int32)), .val (.int y0), .val (.int y1), .val (.int y2), .val (.int y3), .val (.int y4), .val (.ref b20), .val (.ref b21), .unset] [(.int (4 : Int32)), (.int (4 : Int32))])
        refine Go.step (fun _ k => XS.icmpNo W.here W.hx rfl (W.d at_186) rfl (teq (by decide : (4 : Int32) = (4 : Int32))).2 k) ?_
        show Go _ _ _ _ _ _ _ _ _ _ (mkF m 189 #[.val (.int p0), .val (.int p1), .val (.int p2), .val (.int p3), .val (.int p4), .val (.int p5), .val (.int (p0 &&& (3 : Int32))), .val (.int (4 : Int32)), .val (.int y0), .val (.int y1), .val (.int y2), .val (.int y3), .val (.int y4), .val (.ref b20), .val (.ref b21), .unset] [])
        refine Go.step (fun _ k => XS.iload W.here W.hx rfl (W.d at_189) rfl k) ?_
        show Go _ _ _ _ _ _ _ _ _ _ (mkF m 191 #[.val (.int p0), .val (.int p1), .val (.int p2), .val (.int p3), .val (.int p4), .val (.int p5), .val (.int (p0 &&& (3 : Int32))), .val (.int (4 : Int32)), .val (.int y0), .val (.int y1), .val (.int y2), .val (.int y3), .val (.int y4), .val (.ref b20), .val (.ref b21), .unset] [(.int y0)])
        refine Go.step (fun _ k => XS.bipush W.here W.hx rfl (W.d at_191) k) ?_
        show Go _ _ _ _ _ _ _ _ _ _ (mkF m 193 #[.val (.int p0), .val (.int p1), .val (.int p2), .val (.int p3), .val (.int p4), .val (.int p5), .val (.int (p0 &&& (3 : Int32))), .val (.int (4 : Int32)), .val (.int y0), .val (.int y1), .val (.int y2), .val (.int y3), .val (.int y4), .val (.ref b20), .val (.ref b21), .unset] [(.int (116 : Int32)), (.int y0)])
        refine W.callS (X.w 82 rfl) (X.w 83 rfl) (X.w 21 rfl) (X.w 84 rfl) (by decide) (c_same X y0 (116 : Int32) _ W.ext (by decide)) (by decide) (Wd := 0) (by decide) [(.int y0), (.int (116 : Int32))] [] rfl pd_13 rfl rfl rfl (Nat.le_of_eq rfl) at_193 (by decide) (by decide) ?_
        intro v T h vm W hQ C
        obtain ⟨hq22, rfl⟩ := hQ
        rcases hq22 with ⟨rfl, hq22⟩ | ⟨rfl, hq22⟩
        · show Go _ _ _ _ _ _ _ _ _ _ (mkF m 196 #[.val (.int p0), .val (.int p1), .val (.int p2), .val (.int p3), .val (.int p4), .val (.int p5), .val (.int (p0 &&& (3 : Int32))), .val (.int (4 : Int32)), .val (.int y0), .val (.int y1), .val (.int y2), .val (.int y3), .val (.int y4), .val (.ref b20), .val (.ref b21), .unset] [(.int (1 : Int32))])
          refine Go.step (fun _ k => XS.ifNo W.here W.hx rfl (W.d at_196) rfl ((if0 _ _).trans (feq (by decide : ¬ ((1 : Int32) = (0 : Int32)))).1) k) ?_
          show Go _ _ _ _ _ _ _ _ _ _ (mkF m 199 #[.val (.int p0), .val (.int p1), .val (.int p2), .val (.int p3), .val (.int p4), .val (.int p5), .val (.int (p0 &&& (3 : Int32))), .val (.int (4 : Int32)), .val (.int y0), .val (.int y1), .val (.int y2), .val (.int y3), .val (.int y4), .val (.ref b20), .val (.ref b21), .unset] [])
          refine Go.step (fun _ k => XS.iload W.here W.hx rfl (W.d at_199) rfl k) ?_
          show Go _ _ _ _ _ _ _ _ _ _ (mkF m 201 #[.val (.int p0), .val (.int p1), .val (.int p2), .val (.int p3), .val (.int p4), .val (.int p5), .val (.int (p0 &&& (3 : Int32))), .val (.int (4 : Int32)), .val (.int y0), .val (.int y1), .val (.int y2), .val (.int y3), .val (.int y4), .val (.ref b20), .val (.ref b21), .unset] [(.int y1)])
          refine Go.step (fun _ k => XS.bipush W.here W.hx rfl (W.d at_201) k) ?_
          show Go _ _ _ _ _ _ _ _ _ _ (mkF m 203 #[.val (.int p0), .val (.int p1), .val (.int p2), .val (.int p3), .val (.int p4), .val (.int p5), .val (.int (p0 &&& (3 : Int32))), .val (.int (4 : Int32)), .val (.int y0), .val (.int y1), .val (.int y2), .val (.int y3), .val (.int y4), .val (.ref b20), .val (.ref b21), .unset] [(.int (114 : Int32)), (.int y1)])
          refine W.callS (X.w 82 rfl) (X.w 83 rfl) (X.w 21 rfl) (X.w 84 rfl) (by decide) (c_same X y1 (114 : Int32) _ W.ext (by decide)) (by decide) (Wd := 0) (by decide) [(.int y1), (.int (114 : Int32))] [] rfl pd_13 rfl rfl rfl (Nat.le_of_eq rfl) at_203 (by decide) (by decide) ?_
          intro v T h vm W hQ C
          obtain ⟨hq23, rfl⟩ := hQ
          rcases hq23 with ⟨rfl, hq23⟩ | ⟨rfl, hq23⟩
          · show Go _ _ _ _ _ _ _ _ _ _ (mkF m 206 #[.val (.int p0), .val (.int p1), .val (.int p2), .val (.int p3), .val (.int p4), .val (.int p5), .val (.int (p0 &&& (3 : Int32))), .val (.int (4 : Int32)), .val (.int y0), .val (.int y1), .val (.int y2), .val (.int y3), .val (.int y4), .val (.ref b20), .val (.ref b21), .unset] [(.int (1 : Int32))])
            refine Go.step (fun _ k => XS.ifNo W.here W.hx rfl (W.d at_206) rfl ((if0 _ _).trans (feq (by decide : ¬ ((1 : Int32) = (0 : Int32)))).1) k) ?_
            show Go _ _ _ _ _ _ _ _ _ _ (mkF m 209 #[.val (.int p0), .val (.int p1), .val (.int p2), .val (.int p3), .val (.int p4), .val (.int p5), .val (.int (p0 &&& (3 : Int32))), .val (.int (4 : Int32)), .val (.int y0), .val (.int y1), .val (.int y2), .val (.int y3), .val (.int y4), .val (.ref b20), .val (.ref b21), .unset] [])
            refine Go.step (fun _ k => XS.iload W.here W.hx rfl (W.d at_209) rfl k) ?_
            show Go _ _ _ _ _ _ _ _ _ _ (mkF m 211 #[.val (.int p0), .val (.int p1), .val (.int p2), .val (.int p3), .val (.int p4), .val (.int p5), .val (.int (p0 &&& (3 : Int32))), .val (.int (4 : Int32)), .val (.int y0), .val (.int y1), .val (.int y2), .val (.int y3), .val (.int y4), .val (.ref b20), .val (.ref b21), .unset] [(.int y2)])
            refine Go.step (fun _ k => XS.bipush W.here W.hx rfl (W.d at_211) k) ?_
            show Go _ _ _ _ _ _ _ _ _ _ (mkF m 213 #[.val (.int p0), .val (.int p1), .val (.int p2), .val (.int p3), .val (.int p4), .val (.int p5), .val (.int (p0 &&& (3 : Int32))), .val (.int (4 : Int32)), .val (.int y0), .val (.int y1), .val (.int y2), .val (.int y3), .val (.int y4), .val (.ref b20), .val (.ref b21), .unset] [(.int (117 : Int32)), (.int y2)])
            refine W.callS (X.w 82 rfl) (X.w 83 rfl) (X.w 21 rfl) (X.w 84 rfl) (by decide) (c_same X y2 (117 : Int32) _ W.ext (by decide)) (by decide) (Wd := 0) (by decide) [(.int y2), (.int (117 : Int32))] [] rfl pd_13 rfl rfl rfl (Nat.le_of_eq rfl) at_213 (by decide) (by decide) ?_
            intro v T h vm W hQ C
            obtain ⟨hq24, rfl⟩ := hQ
            rcases hq24 with ⟨rfl, hq24⟩ | ⟨rfl, hq24⟩
            · show Go _ _ _ _ _ _ _ _ _ _ (mkF m 216 #[.val (.int p0), .val (.int p1), .val (.int p2), .val (.int p3), .val (.int p4), .val (.int p5), .val (.int (p0 &&& (3 : Int32))), .val (.int (4 : Int32)), .val (.int y0), .val (.int y1), .val (.int y2), .val (.int y3), .val (.int y4), .val (.ref b20), .val (.ref b21), .unset] [(.int (1 : Int32))])
              refine Go.step (fun _ k => XS.ifNo W.here W.hx rfl (W.d at_216) rfl ((if0 _ _).trans (feq (by decide : ¬ ((1 : Int32) = (0 : Int32)))).1) k) ?_
              show Go _ _ _ _ _ _ _ _ _ _ (mkF m 219 #[.val (.int p0), .val (.int p1), .val (.int p2), .val (.int p3), .val (.int p4), .val (.int p5), .val (.int (p0 &&& (3 : Int32))), .val (.int (4 : Int32)), .val (.int y0), .val (.int y1), .val (.int y2), .val (.int y3), .val (.int y4), .val (.ref b20), .val (.ref b21), .unset] [])
              refine Go.step (fun _ k => XS.iload W.here W.hx rfl (W.d at_219) rfl k) ?_
              show Go _ _ _ _ _ _ _ _ _ _ (mkF m 221 #[.val (.int p0), .val (.int p1), .val (.int p2), .val (.int p3), .val (.int p4), .val (.int p5), .val (.int (p0 &&& (3 : Int32))), .val (.int (4 : Int32)), .val (.int y0), .val (.int y1), .val (.int y2), .val (.int y3), .val (.int y4), .val (.ref b20), .val (.ref b21), .unset] [(.int y3)])
              refine Go.step (fun _ k => XS.bipush W.here W.hx rfl (W.d at_221) k) ?_
              show Go _ _ _ _ _ _ _ _ _ _ (mkF m 223 #[.val (.int p0), .val (.int p1), .val (.int p2), .val (.int p3), .val (.int p4), .val (.int p5), .val (.int (p0 &&& (3 : Int32))), .val (.int (4 : Int32)), .val (.int y0), .val (.int y1), .val (.int y2), .val (.int y3), .val (.int y4), .val (.ref b20), .val (.ref b21), .unset] [(.int (101 : Int32)), (.int y3)])
              refine W.callS (X.w 82 rfl) (X.w 83 rfl) (X.w 21 rfl) (X.w 84 rfl) (by decide) (c_same X y3 (101 : Int32) _ W.ext (by decide)) (by decide) (Wd := 0) (by decide) [(.int y3), (.int (101 : Int32))] [] rfl pd_13 rfl rfl rfl (Nat.le_of_eq rfl) at_223 (by decide) (by decide) ?_
              intro v T h vm W hQ C
              obtain ⟨hq25, rfl⟩ := hQ
              rcases hq25 with ⟨rfl, hq25⟩ | ⟨rfl, hq25⟩
              · show Go _ _ _ _ _ _ _ _ _ _ (mkF m 226 #[.val (.int p0), .val (.int p1), .val (.int p2), .val (.int p3), .val (.int p4), .val (.int p5), .val (.int (p0 &&& (3 : Int32))), .val (.int (4 : Int32)), .val (.int y0), .val (.int y1), .val (.int y2), .val (.int y3), .val (.int y4), .val (.ref b20), .val (.ref b21), .unset] [(.int (1 : Int32))])
                refine Go.step (fun _ k => XS.ifNo W.here W.hx rfl (W.d at_226) rfl ((if0 _ _).trans (feq (by decide : ¬ ((1 : Int32) = (0 : Int32)))).1) k) ?_
                show Go _ _ _ _ _ _ _ _ _ _ (mkF m 229 #[.val (.int p0), .val (.int p1), .val (.int p2), .val (.int p3), .val (.int p4), .val (.int p5), .val (.int (p0 &&& (3 : Int32))), .val (.int (4 : Int32)), .val (.int y0), .val (.int y1), .val (.int y2), .val (.int y3), .val (.int y4), .val (.ref b20), .val (.ref b21), .unset] [])
                refine Go.step (fun _ k => XS.iconst W.here W.hx rfl (W.d at_229) k) ?_
                show Go _ _ _ _ _ _ _ _ _ _ (mkF m 230 #[.val (.int p0), .val (.int p1), .val (.int p2), .val (.int p3), .val (.int p4), .val (.int p5), .val (.int (p0 &&& (3 : Int32))), .val (.int (4 : Int32)), .val (.int y0), .val (.int y1), .val (.int y2), .val (.int y3), .val (.int y4), .val (.ref b20), .val (.ref b21), .unset] [(.int (1 : Int32))])
                refine Go.step (fun _ k => XS.goto W.here W.hx rfl (pc0 := 230) (pc' := 234) rfl (W.d at_230) (by decide) (by decide) k) ?_
                show Go _ _ _ _ _ _ _ _ _ _ (mkF m 234 #[.val (.int p0), .val (.int p1), .val (.int p2), .val (.int p3), .val (.int p4), .val (.int p5), .val (.int (p0 &&& (3 : Int32))), .val (.int (4 : Int32)), .val (.int y0), .val (.int y1), .val (.int y2), .val (.int y3), .val (.int y4), .val (.ref b20), .val (.ref b21), .unset] [(.int (1 : Int32))])
                refine Go.step (fun _ k => XS.istore W.here W.hx rfl (W.d at_234) rfl (l' := #[.val (.int p0), .val (.int p1), .val (.int p2), .val (.int p3), .val (.int p4), .val (.int p5), .val (.int (p0 &&& (3 : Int32))), .val (.int (4 : Int32)), .val (.int y0), .val (.int y1), .val (.int y2), .val (.int y3), .val (.int y4), .val (.ref b20), .val (.ref b21), .val (.int (1 : Int32))]) rfl k) ?_
                show Go _ _ _ _ _ _ _ _ _ _ (mkF m 236 #[.val (.int p0), .val (.int p1), .val (.int p2), .val (.int p3), .val (.int p4), .val (.int p5), .val (.int (p0 &&& (3 : Int32))), .val (.int (4 : Int32)), .val (.int y0), .val (.int y1), .val (.int y2), .val (.int y3), .val (.int y4), .val (.ref b20), .val (.ref b21), .val (.int (1 : Int32))] [])
                refine Go.step (fun _ k => XS.aload W.here W.hx rfl (W.d at_236) rfl rfl k) ?_
                show Go _ _ _ _ _ _ _ _ _ _ (mkF m 238 #[.val (.int p0), .val (.int p1), .val (.int p2), .val (.int p3), .val (.int p4), .val (.int p5), .val (.int (p0 &&& (3 : Int32))), .val (.int (4 : Int32)), .val (.int y0), .val (.int y1), .val (.int y2), .val (.int y3), .val (.int y4), .val (.ref b20), .val (.ref b21), .val (.int (1 : Int32))] [(.ref b21)])
                refine W.callS (X.w 0 rfl) (X.w 1 rfl) (X.w 2 rfl) (X.w 3 rfl) (by decide) (c_tbs X b21 _ _ W.ext Sb21) (by decide) (Wd := 0) (by decide) [(.ref b21)] [] rfl pd_8 rfl rfl rfl (Nat.le_of_eq rfl) at_238 (by decide) (by decide) ?_
                intro v T h vm W hQ C
                obtain ⟨hq26, K27⟩ := hQ
                rcases hq26 with ⟨rfl, hq26⟩ | ⟨rfl, hq26⟩
                · replace hsz := W.size
                  show Go _ _ _ _ _ _ _ _ _ _ (mkF m 241 #[.val (.int p0), .val (.int p1), .val (.int p2), .val (.int p3), .val (.int p4), .val (.int p5), .val (.int (p0 &&& (3 : Int32))), .val (.int (4 : Int32)), .val (.int y0), .val (.int y1), .val (.int y2), .val (.int y3), .val (.int y4), .val (.ref b20), .val (.ref b21), .val (.int (1 : Int32))] [(.int (1 : Int32))])
                  refine Go.step (fun _ k => XS.iload W.here W.hx rfl (W.d at_241) rfl k) ?_
                  show Go _ _ _ _ _ _ _ _ _ _ (mkF m 243 #[.val (.int p0), .val (.int p1), .val (.int p2), .val (.int p3), .val (.int p4), .val (.int p5), .val (.int (p0 &&& (3 : Int32))), .val (.int (4 : Int32)), .val (.int y0), .val (.int y1), .val (.int y2), .val (.int y3), .val (.int y4), .val (.ref b20), .val (.ref b21), .val (.int (1 : Int32))] [(.int (1 : Int32)), (.int (1 : Int32))])
                  refine Go.step (fun _ k => XS.icmpNo W.here W.hx rfl (W.d at_243) rfl (teq (by decide : (1 : Int32) = (1 : Int32))).2 k) ?_
                  show Go _ _ _ _ _ _ _ _ _ _ (mkF m 246 #[.val (.int p0), .val (.int p1), .val (.int p2), .val (.int p3), .val (.int p4), .val (.int p5), .val (.int (p0 &&& (3 : Int32))), .val (.int (4 : Int32)), .val (.int y0), .val (.int y1), .val (.int y2), .val (.int y3), .val (.int y4), .val (.ref b20), .val (.ref b21), .val (.int (1 : Int32))] [])
                  refine Go.step (fun _ k => XS.iconst W.here W.hx rfl (W.d at_246) k) ?_
                  show Go _ _ _ _ _ _ _ _ _ _ (mkF m 247 #[.val (.int p0), .val (.int p1), .val (.int p2), .val (.int p3), .val (.int p4), .val (.int p5), .val (.int (p0 &&& (3 : Int32))), .val (.int (4 : Int32)), .val (.int y0), .val (.int y1), .val (.int y2), .val (.int y3), .val (.int y4), .val (.ref b20), .val (.ref b21), .val (.int (1 : Int32))] [(.int (1 : Int32))])
                  refine Go.step (fun _ k => XS.goto W.here W.hx rfl (pc0 := 247) (pc' := 251) rfl (W.d at_247) (by decide) (by decide) k) ?_
                  show Go _ _ _ _ _ _ _ _ _ _ (mkF m 251 #[.val (.int p0), .val (.int p1), .val (.int p2), .val (.int p3), .val (.int p4), .val (.int p5), .val (.int (p0 &&& (3 : Int32))), .val (.int (4 : Int32)), .val (.int y0), .val (.int y1), .val (.int y2), .val (.int y3), .val (.int y4), .val (.ref b20), .val (.ref b21), .val (.int (1 : Int32))] [(.int (1 : Int32))])
                  exact W.retN (by simp) at_251 (rfl) (by decide) (by decide)
                · replace hsz := W.size
                  show Go _ _ _ _ _ _ _ _ _ _ (mkF m 241 #[.val (.int p0), .val (.int p1), .val (.int p2), .val (.int p3), .val (.int p4), .val (.int p5), .val (.int (p0 &&& (3 : Int32))), .val (.int (4 : Int32)), .val (.int y0), .val (.int y1), .val (.int y2), .val (.int y3), .val (.int y4), .val (.ref b20), .val (.ref b21), .val (.int (1 : Int32))] [(.int (0 : Int32))])
                  refine Go.step (fun _ k => XS.iload W.here W.hx rfl (W.d at_241) rfl k) ?_
                  show Go _ _ _ _ _ _ _ _ _ _ (mkF m 243 #[.val (.int p0), .val (.int p1), .val (.int p2), .val (.int p3), .val (.int p4), .val (.int p5), .val (.int (p0 &&& (3 : Int32))), .val (.int (4 : Int32)), .val (.int y0), .val (.int y1), .val (.int y2), .val (.int y3), .val (.int y4), .val (.ref b20), .val (.ref b21), .val (.int (1 : Int32))] [(.int (1 : Int32)), (.int (0 : Int32))])
                  refine Go.step (fun _ k => XS.icmpYes W.here W.hx rfl (pc0 := 243) (pc' := 250) rfl (W.d at_243) rfl (feq (by decide : ¬ ((0 : Int32) = (1 : Int32)))).2 (by decide) (by decide) k) ?_
                  show Go _ _ _ _ _ _ _ _ _ _ (mkF m 250 #[.val (.int p0), .val (.int p1), .val (.int p2), .val (.int p3), .val (.int p4), .val (.int p5), .val (.int (p0 &&& (3 : Int32))), .val (.int (4 : Int32)), .val (.int y0), .val (.int y1), .val (.int y2), .val (.int y3), .val (.int y4), .val (.ref b20), .val (.ref b21), .val (.int (1 : Int32))] [])
                  refine Go.step (fun _ k => XS.iconst W.here W.hx rfl (W.d at_250) k) ?_
                  show Go _ _ _ _ _ _ _ _ _ _ (mkF m 251 #[.val (.int p0), .val (.int p1), .val (.int p2), .val (.int p3), .val (.int p4), .val (.int p5), .val (.int (p0 &&& (3 : Int32))), .val (.int (4 : Int32)), .val (.int y0), .val (.int y1), .val (.int y2), .val (.int y3), .val (.int y4), .val (.ref b20), .val (.ref b21), .val (.int (1 : Int32))] [(.int (0 : Int32))])
                  exact absurd ((isTrue4 _ _ _ _).mpr ⟨hq22, hq23, hq24, hq25⟩) hq26
              · show Go _ _ _ _ _ _ _ _ _ _ (mkF m 226 #[.val (.int p0), .val (.int p1), .val (.int p2), .val (.int p3), .val (.int p4), .val (.int p5), .val (.int (p0 &&& (3 : Int32))), .val (.int (4 : Int32)), .val (.int y0), .val (.int y1), .val (.int y2), .val (.int y3), .val (.int y4), .val (.ref b20), .val (.ref b21), .unset] [(.int (0 : Int32))])
                refine Go.step (fun _ k => XS.ifYes W.here W.hx rfl (pc0 := 226) (pc' := 233) rfl (W.d at_226) rfl ((if0 _ _).trans (teq (by decide : (0 : Int32) = (0 : Int32))).1) (by decide) (by decide) k) ?_
                show Go _ _ _ _ _ _ _ _ _ _ (mkF m 233 #[.val (.int p0), .val (.int p1), .val (.int p2), .val (.int p3), .val (.int p4), .val (.int p5), .val (.int (p0 &&& (3 : Int32))), .val (.int (4 : Int32)), .val (.int y0), .val (.int y1), .val (.int y2), .val (.int y3), .val (.int y4), .val (.ref b20), .val (.ref b21), .unset] [])
                refine Go.step (fun _ k => XS.iconst W.here W.hx rfl (W.d at_233) k) ?_
                show Go _ _ _ _ _ _ _ _ _ _ (mkF m 234 #[.val (.int p0), .val (.int p1), .val (.int p2), .val (.int p3), .val (.int p4), .val (.int p5), .val (.int (p0 &&& (3 : Int32))), .val (.int (4 : Int32)), .val (.int y0), .val (.int y1), .val (.int y2), .val (.int y3), .val (.int y4), .val (.ref b20), .val (.ref b21), .unset] [(.int (0 : Int32))])
                refine Go.step (fun _ k => XS.istore W.here W.hx rfl (W.d at_234) rfl (l' := #[.val (.int p0), .val (.int p1), .val (.int p2), .val (.int p3), .val (.int p4), .val (.int p5), .val (.int (p0 &&& (3 : Int32))), .val (.int (4 : Int32)), .val (.int y0), .val (.int y1), .val (.int y2), .val (.int y3), .val (.int y4), .val (.ref b20), .val (.ref b21), .val (.int (0 : Int32))]) rfl k) ?_
                show Go _ _ _ _ _ _ _ _ _ _ (mkF m 236 #[.val (.int p0), .val (.int p1), .val (.int p2), .val (.int p3), .val (.int p4), .val (.int p5), .val (.int (p0 &&& (3 : Int32))), .val (.int (4 : Int32)), .val (.int y0), .val (.int y1), .val (.int y2), .val (.int y3), .val (.int y4), .val (.ref b20), .val (.ref b21), .val (.int (0 : Int32))] [])
                refine Go.step (fun _ k => XS.aload W.here W.hx rfl (W.d at_236) rfl rfl k) ?_
                show Go _ _ _ _ _ _ _ _ _ _ (mkF m 238 #[.val (.int p0), .val (.int p1), .val (.int p2), .val (.int p3), .val (.int p4), .val (.int p5), .val (.int (p0 &&& (3 : Int32))), .val (.int (4 : Int32)), .val (.int y0), .val (.int y1), .val (.int y2), .val (.int y3), .val (.int y4), .val (.ref b20), .val (.ref b21), .val (.int (0 : Int32))] [(.ref b21)])
                refine W.callS (X.w 0 rfl) (X.w 1 rfl) (X.w 2 rfl) (X.w 3 rfl) (by decide) (c_tbs X b21 _ _ W.ext Sb21) (by decide) (Wd := 0) (by decide) [(.ref b21)] [] rfl pd_8 rfl rfl rfl (Nat.le_of_eq rfl) at_238 (by decide) (by decide) ?_
                intro v T h vm W hQ C
                obtain ⟨hq28, K29⟩ := hQ
                rcases hq28 with ⟨rfl, hq28⟩ | ⟨rfl, hq28⟩
                · replace hsz := W.size
                  show Go _ _ _ _ _ _ _ _ _ _ (mkF m 241 #[.val (.int p0), .val (.int p1), .val (.int p2), .val (.int p3), .val (.int p4), .val (.int p5), .val (.int (p0 &&& (3 : Int32))), .val (.int (4 : Int32)), .val (.int y0), .val (.int y1), .val (.int y2), .val (.int y3), .val (.int y4), .val (.ref b20), .val (.ref b21), .val (.int (0 : Int32))] [(.int (1 : Int32))])
                  refine Go.step (fun _ k => XS.iload W.here W.hx rfl (W.d at_241) rfl k) ?_
                  show Go _ _ _ _ _ _ _ _ _ _ (mkF m 243 #[.val (.int p0), .val (.int p1), .val (.int p2), .val (.int p3), .val (.int p4), .val (.int p5), .val (.int (p0 &&& (3 : Int32))), .val (.int (4 : Int32)), .val (.int y0), .val (.int y1), .val (.int y2), .val (.int y3), .val (.int y4), .val (.ref b20), .val (.ref b21), .val (.int (0 : Int32))] [(.int (0 : Int32)), (.int (1 : Int32))])
                  refine Go.step (fun _ k => XS.icmpYes W.here W.hx rfl (pc0 := 243) (pc' := 250) rfl (W.d at_243) rfl (feq (by decide : ¬ ((1 : Int32) = (0 : Int32)))).2 (by decide) (by decide) k) ?_
                  show Go _ _ _ _ _ _ _ _ _ _ (mkF m 250 #[.val (.int p0), .val (.int p1), .val (.int p2), .val (.int p3), .val (.int p4), .val (.int p5), .val (.int (p0 &&& (3 : Int32))), .val (.int (4 : Int32)), .val (.int y0), .val (.int y1), .val (.int y2), .val (.int y3), .val (.int y4), .val (.ref b20), .val (.ref b21), .val (.int (0 : Int32))] [])
                  refine Go.step (fun _ k => XS.iconst W.here W.hx rfl (W.d at_250) k) ?_
                  show Go _ _ _ _ _ _ _ _ _ _ (mkF m 251 #[.val (.int p0), .val (.int p1), .val (.int p2), .val (.int p3), .val (.int p4), .val (.int p5), .val (.int (p0 &&& (3 : Int32))), .val (.int (4 : Int32)), .val (.int y0), .val (.int y1), .val (.int y2), .val (.int y3), .val (.int y4), .val (.ref b20), .val (.ref b21), .val (.int (0 : Int32))] [(.int (0 : Int32))])
                  exact absurd ((isTrue4 _ _ _ _).mp hq28).2.2.2 hq25
                · replace hsz := W.size
                  show Go _ _ _ _ _ _ _ _ _ _ (mkF m 241 #[.val (.int p0), .val (.int p1), .val (.int p2), .val (.int p3), .val (.int p4), .val (.int p5), .val (.int (p0 &&& (3 : Int32))), .val (.int (4 : Int32)), .val (.int y0), .val (.int y1), .val (.int y2), .val (.int y3), .val (.int y4), .val (.ref b20), .val (.ref b21), .val (.int (0 : Int32))] [(.int (0 : Int32))])
                  refine Go.step (fun _ k => XS.iload W.here W.hx rfl (W.d at_241) rfl k) ?_
                  show Go _ _ _ _ _ _ _ _ _ _ (mkF m 243 #[.val (.int p0), .val (.int p1), .val (.int p2), .val (.int p3), .val (.int p4), .val (.int p5), .val (.int (p0 &&& (3 : Int32))), .val (.int (4 : Int32)), .val (.int y0), .val (.int y1), .val (.int y2), .val (.int y3), .val (.int y4), .val (.ref b20), .val (.ref b21), .val (.int (0 : Int32))] [(.int (0 : Int32)), (.int (0 : Int32))])
                  refine Go.step (fun _ k => XS.icmpNo W.here W.hx rfl (W.d at_243) rfl (teq (by decide : (0 : Int32) = (0 : Int32))).2 k) ?_
                  show Go _ _ _ _ _ _ _ _ _ _ (mkF m 246 #[.val (.int p0), .val (.int p1), .val (.int p2), .val (.int p3), .val (.int p4), .val (.int p5), .val (.int (p0 &&& (3 : Int32))), .val (.int (4 : Int32)), .val (.int y0), .val (.int y1), .val (.int y2), .val (.int y3), .val (.int y4), .val (.ref b20), .val (.ref b21), .val (.int (0 : Int32))] [])
                  refine Go.step (fun _ k => XS.iconst W.here W.hx rfl (W.d at_246) k) ?_
                  show Go _ _ _ _ _ _ _ _ _ _ (mkF m 247 #[.val (.int p0), .val (.int p1), .val (.int p2), .val (.int p3), .val (.int p4), .val (.int p5), .val (.int (p0 &&& (3 : Int32))), .val (.int (4 : Int32)), .val (.int y0), .val (.int y1), .val (.int y2), .val (.int y3), .val (.int y4), .val (.ref b20), .val (.ref b21), .val (.int (0 : Int32))] [(.int (1 : Int32))])
                  refine Go.step (fun _ k => XS.goto W.here W.hx rfl (pc0 := 247) (pc' := 251) rfl (W.d at_247) (by decide) (by decide) k) ?_
                  show Go _ _ _ _ _ _ _ _ _ _ (mkF m 251 #[.val (.int p0), .val (.int p1), .val (.int p2), .val (.int p3), .val (.int p4), .val (.int p5), .val (.int (p0 &&& (3 : Int32))), .val (.int (4 : Int32)), .val (.int y0), .val (.int y1), .val (.int y2), .val (.int y3), .val (.int y4), .val (.ref b20), .val (.ref b21), .val (.int (0 : Int32))] [(.int (1 : Int32))])
                  exact W.retN (by simp) at_251 (rfl) (by decide) (by decide)
            · show Go _ _ _ _ _ _ _ _ _ _ (mkF m 216 #[.val (.int p0), .val (.int p1), .val (.int p2), .val (.int p3), .val (.int p4), .val (.int p5), .val (.int (p0 &&& (3 : Int32))), .val (.int (4 : Int32)), .val (.int y0), .val (.int y1), .val (.int y2), .val (.int y3), .val (.int y4), .val (.ref b20), .val (.ref b21), .unset] [(.int (0 : Int32))])
              refine Go.step (fun _ k => XS.ifYes W.here W.hx rfl (pc0 := 216) (pc' := 233) rfl (W.d at_216) rfl ((if0 _ _).trans (teq (by decide : (0 : Int32) = (0 : Int32))).1) (by decide) (by decide) k) ?_
              show Go _ _ _ _ _ _ _ _ _ _ (mkF m 233 #[.val (.int p0), .val (.int p1), .val (.int p2), .val (.int p3), .val (.int p4), .val (.int p5), .val (.int (p0 &&& (3 : Int32))), .val (.int (4 : Int32)), .val (.int y0), .val (.int y1), .val (.int y2), .val (.int y3), .val (.int y4), .val (.ref b20), .val (.ref b21), .unset] [])
              refine Go.step (fun _ k => XS.iconst W.here W.hx rfl (W.d at_233) k) ?_
              show Go _ _ _ _ _ _ _ _ _ _ (mkF m 234 #[.val (.int p0), .val (.int p1), .val (.int p2), .val (.int p3), .val (.int p4), .val (.int p5), .val (.int (p0 &&& (3 : Int32))), .val (.int (4 : Int32)), .val (.int y0), .val (.int y1), .val (.int y2), .val (.int y3), .val (.int y4), .val (.ref b20), .val (.ref b21), .unset] [(.int (0 : Int32))])
              refine Go.step (fun _ k => XS.istore W.here W.hx rfl (W.d at_234) rfl (l' := #[.val (.int p0), .val (.int p1), .val (.int p2), .val (.int p3), .val (.int p4), .val (.int p5), .val (.int (p0 &&& (3 : Int32))), .val (.int (4 : Int32)), .val (.int y0), .val (.int y1), .val (.int y2), .val (.int y3), .val (.int y4), .val (.ref b20), .val (.ref b21), .val (.int (0 : Int32))]) rfl k) ?_
              show Go _ _ _ _ _ _ _ _ _ _ (mkF m 236 #[.val (.int p0), .val (.int p1), .val (.int p2), .val (.int p3), .val (.int p4), .val (.int p5), .val (.int (p0 &&& (3 : Int32))), .val (.int (4 : Int32)), .val (.int y0), .val (.int y1), .val (.int y2), .val (.int y3), .val (.int y4), .val (.ref b20), .val (.ref b21), .val (.int (0 : Int32))] [])
              refine Go.step (fun _ k => XS.aload W.here W.hx rfl (W.d at_236) rfl rfl k) ?_
              show Go _ _ _ _ _ _ _ _ _ _ (mkF m 238 #[.val (.int p0), .val (.int p1), .val (.int p2), .val (.int p3), .val (.int p4), .val (.int p5), .val (.int (p0 &&& (3 : Int32))), .val (.int (4 : Int32)), .val (.int y0), .val (.int y1), .val (.int y2), .val (.int y3), .val (.int y4), .val (.ref b20), .val (.ref b21), .val (.int (0 : Int32))] [(.ref b21)])
              refine W.callS (X.w 0 rfl) (X.w 1 rfl) (X.w 2 rfl) (X.w 3 rfl) (by decide) (c_tbs X b21 _ _ W.ext Sb21) (by decide) (Wd := 0) (by decide) [(.ref b21)] [] rfl pd_8 rfl rfl rfl (Nat.le_of_eq rfl) at_238 (by decide) (by decide) ?_
              intro v T h vm W hQ C
              obtain ⟨hq30, K31⟩ := hQ
              rcases hq30 with ⟨rfl, hq30⟩ | ⟨rfl, hq30⟩
              · replace hsz := W.size
                show Go _ _ _ _ _ _ _ _ _ _ (mkF m 241 #[.val (.int p0), .val (.int p1), .val (.int p2), .val (.int p3), .val (.int p4), .val (.int p5), .val (.int (p0 &&& (3 : Int32))), .val (.int (4 : Int32)), .val (.int y0), .val (.int y1), .val (.int y2), .val (.int y3), .val (.int y4), .val (.ref b20), .val (.ref b21), .val (.int (0 : Int32))] [(.int (1 : Int32))])
                refine Go.step (fun _ k => XS.iload W.here W.hx rfl (W.d at_241) rfl k) ?_
                show Go _ _ _ _ _ _ _ _ _ _ (mkF m 243 #[.val (.int p0), .val (.int p1), .val (.int p2), .val (.int p3), .val (.int p4), .val (.int p5), .val (.int (p0 &&& (3 : Int32))), .val (.int (4 : Int32)), .val (.int y0), .val (.int y1), .val (.int y2), .val (.int y3), .val (.int y4), .val (.ref b20), .val (.ref b21), .val (.int (0 : Int32))] [(.int (0 : Int32)), (.int (1 : Int32))])
                refine Go.step (fun _ k => XS.icmpYes W.here W.hx rfl (pc0 := 243) (pc' := 250) rfl (W.d at_243) rfl (feq (by decide : ¬ ((1 : Int32) = (0 : Int32)))).2 (by decide) (by decide) k) ?_
                show Go _ _ _ _ _ _ _ _ _ _ (mkF m 250 #[.val (.int p0), .val (.int p1), .val (.int p2), .val (.int p3), .val (.int p4), .val (.int p5), .val (.int (p0 &&& (3 : Int32))), .val (.int (4 : Int32)), .val (.int y0), .val (.int y1), .val (.int y2), .val (.int y3), .val (.int y4), .val (.ref b20), .val (.ref b21), .val (.int (0 : Int32))] [])
                refine Go.step (fun _ k => XS.iconst W.here W.hx rfl (W.d at_250) k) ?_
                show Go _ _ _ _ _ _ _ _ _ _ (mkF m 251 #[.val (.int p0), .val (.int p1), .val (.int p2), .val (.int p3), .val (.int p4), .val (.int p5), .val (.int (p0 &&& (3 : Int32))), .val (.int (4 : Int32)), .val (.int y0), .val (.int y1), .val (.int y2), .val (.int y3), .val (.int y4), .val (.ref b20), .val (.ref b21), .val (.int (0 : Int32))] [(.int (0 : Int32))])
                exact absurd ((isTrue4 _ _ _ _).mp hq30).2.2.1 hq24
              · replace hsz := W.size
                show Go _ _ _ _ _ _ _ _ _ _ (mkF m 241 #[.val (.int p0), .val (.int p1), .val (.int p2), .val (.int p3), .val (.int p4), .val (.int p5), .val (.int (p0 &&& (3 : Int32))), .val (.int (4 : Int32)), .val (.int y0), .val (.int y1), .val (.int y2), .val (.int y3), .val (.int y4), .val (.ref b20), .val (.ref b21), .val (.int (0 : Int32))] [(.int (0 : Int32))])
                refine Go.step (fun _ k => XS.iload W.here W.hx rfl (W.d at_241) rfl k) ?_
                show Go _ _ _ _ _ _ _ _ _ _ (mkF m 243 #[.val (.int p0), .val (.int p1), .val (.int p2), .val (.int p3), .val (.int p4), .val (.int p5), .val (.int (p0 &&& (3 : Int32))), .val (.int (4 : Int32)), .val (.int y0), .val (.int y1), .val (.int y2), .val (.int y3), .val (.int y4), .val (.ref b20), .val (.ref b21), .val (.int (0 : Int32))] [(.int (0 : Int32)), (.int (0 : Int32))])
                refine Go.step (fun _ k => XS.icmpNo W.here W.hx rfl (W.d at_243) rfl (teq (by decide : (0 : Int32) = (0 : Int32))).2 k) ?_
                show Go _ _ _ _ _ _ _ _ _ _ (mkF m 246 #[.val (.int p0), .val (.int p1), .val (.int p2), .val (.int p3), .val (.int p4), .val (.int p5), .val (.int (p0 &&& (3 : Int32))), .val (.int (4 : Int32)), .val (.int y0), .val (.int y1), .val (.int y2), .val (.int y3), .val (.int y4), .val (.ref b20), .val (.ref b21), .val (.int (0 : Int32))] [])
                refine Go.step (fun _ k => XS.iconst W.here W.hx rfl (W.d at_246) k) ?_
                show Go _ _ _ _ _ _ _ _ _ _ (mkF m 247 #[.val (.int p0), .val (.int p1), .val (.int p2), .val (.int p3), .val (.int p4), .val (.int p5), .val (.int (p0 &&& (3 : Int32))), .val (.int (4 : Int32)), .val (.int y0), .val (.int y1), .val (.int y2), .val (.int y3), .val (.int y4), .val (.ref b20), .val (.ref b21), .val (.int (0 : Int32))] [(.int (1 : Int32))])
                refine Go.step (fun _ k => XS.goto W.here W.hx rfl (pc0 := 247) (pc' := 251) rfl (W.d at_247) (by decide) (by decide) k) ?_
                show Go _ _ _ _ _ _ _ _ _ _ (mkF m 251 #[.val (.int p0), .val (.int p1), .val (.int p2), .val (.int p3), .val (.int p4), .val (.int p5), .val (.int (p0 &&& (3 : Int32))), .val (.int (4 : Int32)), .val (.int y0), .val (.int y1), .val (.int y2), .val (.int y3), .val (.int y4), .val (.ref b20), .val (.ref b21), .val (.int (0 : Int32))] [(.int (1 : Int32))])
                exact W.retN (by simp) at_251 (rfl) (by decide) (by decide)
          · show Go _ _ _ _ _ _ _ _ _ _ (mkF m 206 #[.val (.int p0), .val (.int p1), .val (.int p2), .val (.int p3), .val (.int p4), .val (.int p5), .val (.int (p0 &&& (3 : Int32))), .val (.int (4 : Int32)), .val (.int y0), .val (.int y1), .val (.int y2), .val (.int y3), .val (.int y4), .val (.ref b20), .val (.ref b21), .unset] [(.int (0 : Int32))])
            refine Go.step (fun _ k => XS.ifYes W.here W.hx rfl (pc0 := 206) (pc' := 233) rfl (W.d at_206) rfl ((if0 _ _).trans (teq (by decide : (0 : Int32) = (0 : Int32))).1) (by decide) (by decide) k) ?_
            show Go _ _ _ _ _ _ _ _ _ _ (mkF m 233 #[.val (.int p0), .val (.int p1), .val (.int p2), .val (.int p3), .val (.int p4), .val (.int p5), .val (.int (p0 &&& (3 : Int32))), .val (.int (4 : Int32)), .val (.int y0), .val (.int y1), .val (.int y2), .val (.int y3), .val (.int y4), .val (.ref b20), .val (.ref b21), .unset] [])
            refine Go.step (fun _ k => XS.iconst W.here W.hx rfl (W.d at_233) k) ?_
            show Go _ _ _ _ _ _ _ _ _ _ (mkF m 234 #[.val (.int p0), .val (.int p1), .val (.int p2), .val (.int p3), .val (.int p4), .val (.int p5), .val (.int (p0 &&& (3 : Int32))), .val (.int (4 : Int32)), .val (.int y0), .val (.int y1), .val (.int y2), .val (.int y3), .val (.int y4), .val (.ref b20), .val (.ref b21), .unset] [(.int (0 : Int32))])
            refine Go.step (fun _ k => XS.istore W.here W.hx rfl (W.d at_234) rfl (l' := #[.val (.int p0), .val (.int p1), .val (.int p2), .val (.int p3), .val (.int p4), .val (.int p5), .val (.int (p0 &&& (3 : Int32))), .val (.int (4 : Int32)), .val (.int y0), .val (.int y1), .val (.int y2), .val (.int y3), .val (.int y4), .val (.ref b20), .val (.ref b21), .val (.int (0 : Int32))]) rfl k) ?_
            show Go _ _ _ _ _ _ _ _ _ _ (mkF m 236 #[.val (.int p0), .val (.int p1), .val (.int p2), .val (.int p3), .val (.int p4), .val (.int p5), .val (.int (p0 &&& (3 : Int32))), .val (.int (4 : Int32)), .val (.int y0), .val (.int y1), .val (.int y2), .val (.int y3), .val (.int y4), .val (.ref b20), .val (.ref b21), .val (.int (0 : Int32))] [])
            refine Go.step (fun _ k => XS.aload W.here W.hx rfl (W.d at_236) rfl rfl k) ?_
            show Go _ _ _ _ _ _ _ _ _ _ (mkF m 238 #[.val (.int p0), .val (.int p1), .val (.int p2), .val (.int p3), .val (.int p4), .val (.int p5), .val (.int (p0 &&& (3 : Int32))), .val (.int (4 : Int32)), .val (.int y0), .val (.int y1), .val (.int y2), .val (.int y3), .val (.int y4), .val (.ref b20), .val (.ref b21), .val (.int (0 : Int32))] [(.ref b21)])
            refine W.callS (X.w 0 rfl) (X.w 1 rfl) (X.w 2 rfl) (X.w 3 rfl) (by decide) (c_tbs X b21 _ _ W.ext Sb21) (by decide) (Wd := 0) (by decide) [(.ref b21)] [] rfl pd_8 rfl rfl rfl (Nat.le_of_eq rfl) at_238 (by decide) (by decide) ?_
            intro v T h vm W hQ C
            obtain ⟨hq32, K33⟩ := hQ
            rcases hq32 with ⟨rfl, hq32⟩ | ⟨rfl, hq32⟩
            · replace hsz := W.size
              show Go _ _ _ _ _ _ _ _ _ _ (mkF m 241 #[.val (.int p0), .val (.int p1), .val (.int p2), .val (.int p3), .val (.int p4), .val (.int p5), .val (.int (p0 &&& (3 : Int32))), .val (.int (4 : Int32)), .val (.int y0), .val (.int y1), .val (.int y2), .val (.int y3), .val (.int y4), .val (.ref b20), .val (.ref b21), .val (.int (0 : Int32))] [(.int (1 : Int32))])
              refine Go.step (fun _ k => XS.iload W.here W.hx rfl (W.d at_241) rfl k) ?_
              show Go _ _ _ _ _ _ _ _ _ _ (mkF m 243 #[.val (.int p0), .val (.int p1), .val (.int p2), .val (.int p3), .val (.int p4), .val (.int p5), .val (.int (p0 &&& (3 : Int32))), .val (.int (4 : Int32)), .val (.int y0), .val (.int y1), .val (.int y2), .val (.int y3), .val (.int y4), .val (.ref b20), .val (.ref b21), .val (.int (0 : Int32))] [(.int (0 : Int32)), (.int (1 : Int32))])
              refine Go.step (fun _ k => XS.icmpYes W.here W.hx rfl (pc0 := 243) (pc' := 250) rfl (W.d at_243) rfl (feq (by decide : ¬ ((1 : Int32) = (0 : Int32)))).2 (by decide) (by decide) k) ?_
              show Go _ _ _ _ _ _ _ _ _ _ (mkF m 250 #[.val (.int p0), .val (.int p1), .val (.int p2), .val (.int p3), .val (.int p4), .val (.int p5), .val (.int (p0 &&& (3 : Int32))), .val (.int (4 : Int32)), .val (.int y0), .val (.int y1), .val (.int y2), .val (.int y3), .val (.int y4), .val (.ref b20), .val (.ref b21), .val (.int (0 : Int32))] [])
              refine Go.step (fun _ k => XS.iconst W.here W.hx rfl (W.d at_250) k) ?_
              show Go _ _ _ _ _ _ _ _ _ _ (mkF m 251 #[.val (.int p0), .val (.int p1), .val (.int p2), .val (.int p3), .val (.int p4), .val (.int p5), .val (.int (p0 &&& (3 : Int32))), .val (.int (4 : Int32)), .val (.int y0), .val (.int y1), .val (.int y2), .val (.int y3), .val (.int y4), .val (.ref b20), .val (.ref b21), .val (.int (0 : Int32))] [(.int (0 : Int32))])
              exact absurd ((isTrue4 _ _ _ _).mp hq32).2.1 hq23
            · replace hsz := W.size
              show Go _ _ _ _ _ _ _ _ _ _ (mkF m 241 #[.val (.int p0), .val (.int p1), .val (.int p2), .val (.int p3), .val (.int p4), .val (.int p5), .val (.int (p0 &&& (3 : Int32))), .val (.int (4 : Int32)), .val (.int y0), .val (.int y1), .val (.int y2), .val (.int y3), .val (.int y4), .val (.ref b20), .val (.ref b21), .val (.int (0 : Int32))] [(.int (0 : Int32))])
              refine Go.step (fun _ k => XS.iload W.here W.hx rfl (W.d at_241) rfl k) ?_
              show Go _ _ _ _ _ _ _ _ _ _ (mkF m 243 #[.val (.int p0), .val (.int p1), .val (.int p2), .val (.int p3), .val (.int p4), .val (.int p5), .val (.int (p0 &&& (3 : Int32))), .val (.int (4 : Int32)), .val (.int y0), .val (.int y1), .val (.int y2), .val (.int y3), .val (.int y4), .val (.ref b20), .val (.ref b21), .val (.int (0 : Int32))] [(.int (0 : Int32)), (.int (0 : Int32))])
              refine Go.step (fun _ k => XS.icmpNo W.here W.hx rfl (W.d at_243) rfl (teq (by decide : (0 : Int32) = (0 : Int32))).2 k) ?_
              show Go _ _ _ _ _ _ _ _ _ _ (mkF m 246 #[.val (.int p0), .val (.int p1), .val (.int p2), .val (.int p3), .val (.int p4), .val (.int p5), .val (.int (p0 &&& (3 : Int32))), .val (.int (4 : Int32)), .val (.int y0), .val (.int y1), .val (.int y2), .val (.int y3), .val (.int y4), .val (.ref b20), .val (.ref b21), .val (.int (0 : Int32))] [])
              refine Go.step (fun _ k => XS.iconst W.here W.hx rfl (W.d at_246) k) ?_
              show Go _ _ _ _ _ _ _ _ _ _ (mkF m 247 #[.val (.int p0), .val (.int p1), .val (.int p2), .val (.int p3), .val (.int p4), .val (.int p5), .val (.int (p0 &&& (3 : Int32))), .val (.int (4 : Int32)), .val (.int y0), .val (.int y1), .val (.int y2), .val (.int y3), .val (.int y4), .val (.ref b20), .val (.ref b21), .val (.int (0 : Int32))] [(.int (1 : Int32))])
              refine Go.step (fun _ k => XS.goto W.here W.hx rfl (pc0 := 247) (pc' := 251) rfl (W.d at_247) (by decide) (by decide) k) ?_
              show Go _ _ _ _ _ _ _ _ _ _ (mkF m 251 #[.val (.int p0), .val (.int p1), .val (.int p2), .val (.int p3), .val (.int p4), .val (.int p5), .val (.int (p0 &&& (3 : Int32))), .val (.int (4 : Int32)), .val (.int y0), .val (.int y1), .val (.int y2), .val (.int y3), .val (.int y4), .val (.ref b20), .val (.ref b21), .val (.int (0 : Int32))] [(.int (1 : Int32))])
              exact W.retN (by simp) at_251 (rfl) (by decide) (by decide)
        · show Go _ _ _ _ _ _ _ _ _ _ (mkF m 196 #[.val (.int p0), .val (.int p1), .val (.int p2), .val (.int p3), .val (.int p4), .val (.int p5), .val (.int (p0 &&& (3 : Int32))), .val (.int (4 : Int32)), .val (.int y0), .val (.int y1), .val (.int y2), .val (.int y3), .val (.int y4), .val (.ref b20), .val (.ref b21), .unset] [(.int (0 : Int32))])
          refine Go.step (fun _ k => XS.ifYes W.here W.hx rfl (pc0 := 196) (pc' := 233) rfl (W.d at_196) rfl ((if0 _ _).trans (teq (by decide : (0 : Int32) = (0 : Int32))).1) (by decide) (by decide) k) ?_
          show Go _ _ _ _ _ _ _ _ _ _ (mkF m 233 #[.val (.int p0), .val (.int p1), .val (.int p2), .val (.int p3), .val (.int p4), .val (.int p5), .val (.int (p0 &&& (3 : Int32))), .val (.int (4 : Int32)), .val (.int y0), .val (.int y1), .val (.int y2), .val (.int y3), .val (.int y4), .val (.ref b20), .val (.ref b21), .unset] [])
          refine Go.step (fun _ k => XS.iconst W.here W.hx rfl (W.d at_233) k) ?_
          show Go _ _ _ _ _ _ _ _ _ _ (mkF m 234 #[.val (.int p0), .val (.int p1), .val (.int p2), .val (.int p3), .val (.int p4), .val (.int p5), .val (.int (p0 &&& (3 : Int32))), .val (.int (4 : Int32)), .val (.int y0), .val (.int y1), .val (.int y2), .val (.int y3), .val (.int y4), .val (.ref b20), .val (.ref b21), .unset] [(.int (0 : Int32))])
          refine Go.step (fun _ k => XS.istore W.here W.hx rfl (W.d at_234) rfl (l' := #[.val (.int p0), .val (.int p1), .val (.int p2), .val (.int p3), .val (.int p4), .val (.int p5), .val (.int (p0 &&& (3 : Int32))), .val (.int (4 : Int32)), .val (.int y0), .val (.int y1), .val (.int y2), .val (.int y3), .val (.int y4), .val (.ref b20), .val (.ref b21), .val (.int (0 : Int32))]) rfl k) ?_
          show Go _ _ _ _ _ _ _ _ _ _ (mkF m 236 #[.val (.int p0), .val (.int p1), .val (.int p2), .val (.int p3), .val (.int p4), .val (.int p5), .val (.int (p0 &&& (3 : Int32))), .val (.int (4 : Int32)), .val (.int y0), .val (.int y1), .val (.int y2), .val (.int y3), .val (.int y4), .val (.ref b20), .val (.ref b21), .val (.int (0 : Int32))] [])
          refine Go.step (fun _ k => XS.aload W.here W.hx rfl (W.d at_236) rfl rfl k) ?_
          show Go _ _ _ _ _ _ _ _ _ _ (mkF m 238 #[.val (.int p0), .val (.int p1), .val (.int p2), .val (.int p3), .val (.int p4), .val (.int p5), .val (.int (p0 &&& (3 : Int32))), .val (.int (4 : Int32)), .val (.int y0), .val (.int y1), .val (.int y2), .val (.int y3), .val (.int y4), .val (.ref b20), .val (.ref b21), .val (.int (0 : Int32))] [(.ref b21)])
          refine W.callS (X.w 0 rfl) (X.w 1 rfl) (X.w 2 rfl) (X.w 3 rfl) (by decide) (c_tbs X b21 _ _ W.ext Sb21) (by decide) (Wd := 0) (by decide) [(.ref b21)] [] rfl pd_8 rfl rfl rfl (Nat.le_of_eq rfl) at_238 (by decide) (by decide) ?_
          intro v T h vm W hQ C
          obtain ⟨hq34, K35⟩ := hQ
          rcases hq34 with ⟨rfl, hq34⟩ | ⟨rfl, hq34⟩
          · replace hsz := W.size
            show Go _ _ _ _ _ _ _ _ _ _ (mkF m 241 #[.val (.int p0), .val (.int p1), .val (.int p2), .val (.int p3), .val (.int p4), .val (.int p5), .val (.int (p0 &&& (3 : Int32))), .val (.int (4 : Int32)), .val (.int y0), .val (.int y1), .val (.int y2), .val (.int y3), .val (.int y4), .val (.ref b20), .val (.ref b21), .val (.int (0 : Int32))] [(.int (1 : Int32))])
            refine Go.step (fun _ k => XS.iload W.here W.hx rfl (W.d at_241) rfl k) ?_
            show Go _ _ _ _ _ _ _ _ _ _ (mkF m 243 #[.val (.int p0), .val (.int p1), .val (.int p2), .val (.int p3), .val (.int p4), .val (.int p5), .val (.int (p0 &&& (3 : Int32))), .val (.int (4 : Int32)), .val (.int y0), .val (.int y1), .val (.int y2), .val (.int y3), .val (.int y4), .val (.ref b20), .val (.ref b21), .val (.int (0 : Int32))] [(.int (0 : Int32)), (.int (1 : Int32))])
            refine Go.step (fun _ k => XS.icmpYes W.here W.hx rfl (pc0 := 243) (pc' := 250) rfl (W.d at_243) rfl (feq (by decide : ¬ ((1 : Int32) = (0 : Int32)))).2 (by decide) (by decide) k) ?_
            show Go _ _ _ _ _ _ _ _ _ _ (mkF m 250 #[.val (.int p0), .val (.int p1), .val (.int p2), .val (.int p3), .val (.int p4), .val (.int p5), .val (.int (p0 &&& (3 : Int32))), .val (.int (4 : Int32)), .val (.int y0), .val (.int y1), .val (.int y2), .val (.int y3), .val (.int y4), .val (.ref b20), .val (.ref b21), .val (.int (0 : Int32))] [])
            refine Go.step (fun _ k => XS.iconst W.here W.hx rfl (W.d at_250) k) ?_
            show Go _ _ _ _ _ _ _ _ _ _ (mkF m 251 #[.val (.int p0), .val (.int p1), .val (.int p2), .val (.int p3), .val (.int p4), .val (.int p5), .val (.int (p0 &&& (3 : Int32))), .val (.int (4 : Int32)), .val (.int y0), .val (.int y1), .val (.int y2), .val (.int y3), .val (.int y4), .val (.ref b20), .val (.ref b21), .val (.int (0 : Int32))] [(.int (0 : Int32))])
            exact absurd ((isTrue4 _ _ _ _).mp hq34).1 hq22
          · replace hsz := W.size
            show Go _ _ _ _ _ _ _ _ _ _ (mkF m 241 #[.val (.int p0), .val (.int p1), .val (.int p2), .val (.int p3), .val (.int p4), .val (.int p5), .val (.int (p0 &&& (3 : Int32))), .val (.int (4 : Int32)), .val (.int y0), .val (.int y1), .val (.int y2), .val (.int y3), .val (.int y4), .val (.ref b20), .val (.ref b21), .val (.int (0 : Int32))] [(.int (0 : Int32))])
            refine Go.step (fun _ k => XS.iload W.here W.hx rfl (W.d at_241) rfl k) ?_
            show Go _ _ _ _ _ _ _ _ _ _ (mkF m 243 #[.val (.int p0), .val (.int p1), .val (.int p2), .val (.int p3), .val (.int p4), .val (.int p5), .val (.int (p0 &&& (3 : Int32))), .val (.int (4 : Int32)), .val (.int y0), .val (.int y1), .val (.int y2), .val (.int y3), .val (.int y4), .val (.ref b20), .val (.ref b21), .val (.int (0 : Int32))] [(.int (0 : Int32)), (.int (0 : Int32))])
            refine Go.step (fun _ k => XS.icmpNo W.here W.hx rfl (W.d at_243) rfl (teq (by decide : (0 : Int32) = (0 : Int32))).2 k) ?_
            show Go _ _ _ _ _ _ _ _ _ _ (mkF m 246 #[.val (.int p0), .val (.int p1), .val (.int p2), .val (.int p3), .val (.int p4), .val (.int p5), .val (.int (p0 &&& (3 : Int32))), .val (.int (4 : Int32)), .val (.int y0), .val (.int y1), .val (.int y2), .val (.int y3), .val (.int y4), .val (.ref b20), .val (.ref b21), .val (.int (0 : Int32))] [])
            refine Go.step (fun _ k => XS.iconst W.here W.hx rfl (W.d at_246) k) ?_
            show Go _ _ _ _ _ _ _ _ _ _ (mkF m 247 #[.val (.int p0), .val (.int p1), .val (.int p2), .val (.int p3), .val (.int p4), .val (.int p5), .val (.int (p0 &&& (3 : Int32))), .val (.int (4 : Int32)), .val (.int y0), .val (.int y1), .val (.int y2), .val (.int y3), .val (.int y4), .val (.ref b20), .val (.ref b21), .val (.int (0 : Int32))] [(.int (1 : Int32))])
            refine Go.step (fun _ k => XS.goto W.here W.hx rfl (pc0 := 247) (pc' := 251) rfl (W.d at_247) (by decide) (by decide) k) ?_
            show Go _ _ _ _ _ _ _ _ _ _ (mkF m 251 #[.val (.int p0), .val (.int p1), .val (.int p2), .val (.int p3), .val (.int p4), .val (.int p5), .val (.int (p0 &&& (3 : Int32))), .val (.int (4 : Int32)), .val (.int y0), .val (.int y1), .val (.int y2), .val (.int y3), .val (.int y4), .val (.ref b20), .val (.ref b21), .val (.int (0 : Int32))] [(.int (1 : Int32))])
            exact W.retN (by simp) at_251 (rfl) (by decide) (by decide)
      · have ty4 := t_y4
        show Go _ _ _ _ _ _ _ _ _ _ (mkF m 155 #[.val (.int p0), .val (.int p1), .val (.int p2), .val (.int p3), .val (.int p4), .val (.int p5), .val (.int (p0 &&& (3 : Int32))), .val (.int (5 : Int32)), .val (.int y0), .val (.int y1), .val (.int y2), .val (.int y3), .val (.int y4), .unset, .unset, .unset] [])
        refine Go.step (fun _ k => XS.iload W.here W.hx rfl (W.d at_155) rfl k) ?_
        show Go _ _ _ _ _ _ _ _ _ _ (mkF m 157 #[.val (.int p0), .val (.int p1), .val (.int p2), .val (.int p3), .val (.int p4), .val (.int p5), .val (.int (p0 &&& (3 : Int32))), .val (.int (5 : Int32)), .val (.int y0), .val (.int y1), .val (.int y2), .val (.int y3), .val (.int y4), .unset, .unset, .unset] [(.int (5 : Int32))])
        refine Go.step (fun _ k => XS.iload W.here W.hx rfl (W.d at_157) rfl k) ?_
        show Go _ _ _ _ _ _ _ _ _ _ (mkF m 159 #[.val (.int p0), .val (.int p1), .val (.int p2), .val (.int p3), .val (.int p4), .val (.int p5), .val (.int (p0 &&& (3 : Int32))), .val (.int (5 : Int32)), .val (.int y0), .val (.int y1), .val (.int y2), .val (.int y3), .val (.int y4), .unset, .unset, .unset] [(.int y0), (.int (5 : Int32))])
        refine Go.step (fun _ k => XS.iload W.here W.hx rfl (W.d at_159) rfl k) ?_
        show Go _ _ _ _ _ _ _ _ _ _ (mkF m 161 #[.val (.int p0), .val (.int p1), .val (.int p2), .val (.int p3), .val (.int p4), .val (.int p5), .val (.int (p0 &&& (3 : Int32))), .val (.int (5 : Int32)), .val (.int y0), .val (.int y1), .val (.int y2), .val (.int y3), .val (.int y4), .unset, .unset, .unset] [(.int y1), (.int y0), (.int (5 : Int32))])
        refine Go.step (fun _ k => XS.iload W.here W.hx rfl (W.d at_161) rfl k) ?_
        show Go _ _ _ _ _ _ _ _ _ _ (mkF m 163 #[.val (.int p0), .val (.int p1), .val (.int p2), .val (.int p3), .val (.int p4), .val (.int p5), .val (.int (p0 &&& (3 : Int32))), .val (.int (5 : Int32)), .val (.int y0), .val (.int y1), .val (.int y2), .val (.int y3), .val (.int y4), .unset, .unset, .unset] [(.int y2), (.int y1), (.int y0), (.int (5 : Int32))])
        refine Go.step (fun _ k => XS.iload W.here W.hx rfl (W.d at_163) rfl k) ?_
        show Go _ _ _ _ _ _ _ _ _ _ (mkF m 165 #[.val (.int p0), .val (.int p1), .val (.int p2), .val (.int p3), .val (.int p4), .val (.int p5), .val (.int (p0 &&& (3 : Int32))), .val (.int (5 : Int32)), .val (.int y0), .val (.int y1), .val (.int y2), .val (.int y3), .val (.int y4), .unset, .unset, .unset] [(.int y3), (.int y2), (.int y1), (.int y0), (.int (5 : Int32))])
        refine Go.step (fun _ k => XS.iload W.here W.hx rfl (W.d at_165) rfl k) ?_
        show Go _ _ _ _ _ _ _ _ _ _ (mkF m 167 #[.val (.int p0), .val (.int p1), .val (.int p2), .val (.int p3), .val (.int p4), .val (.int p5), .val (.int (p0 &&& (3 : Int32))), .val (.int (5 : Int32)), .val (.int y0), .val (.int y1), .val (.int y2), .val (.int y3), .val (.int y4), .unset, .unset, .unset] [(.int y4), (.int y3), (.int y2), (.int y1), (.int y0), (.int (5 : Int32))])
        refine W.callS (X.w 23 rfl) (X.w 24 rfl) (X.w 21 rfl) (X.w 25 rfl) (by decide) (c_mk5 X y0 y1 y2 y3 y4 _ W.ext ty0 ty1 ty2 ty3 ty4) (by decide) (Wd := 0) (by decide) [(.int (5 : Int32)), (.int y0), (.int y1), (.int y2), (.int y3), (.int y4)] [] rfl pd_11 rfl rfl rfl (Nat.le_of_eq rfl) at_167 (by decide) (by decide) ?_
        intro v T h vm W hQ C
        obtain ⟨b36, kb36, rfl, gb36, Kb36, Vb36⟩ := hQ
        replace hsz := W.size
        show Go _ _ _ _ _ _ _ _ _ _ (mkF m 170 #[.val (.int p0), .val (.int p1), .val (.int p2), .val (.int p3), .val (.int p4), .val (.int p5), .val (.int (p0 &&& (3 : Int32))), .val (.int (5 : Int32)), .val (.int y0), .val (.int y1), .val (.int y2), .val (.int y3), .val (.int y4), .unset, .unset, .unset] [(.ref b36)])
        refine Go.step (fun _ k => XS.astore W.here W.hx rfl (W.d at_170) rfl rfl (l' := #[.val (.int p0), .val (.int p1), .val (.int p2), .val (.int p3), .val (.int p4), .val (.int p5), .val (.int (p0 &&& (3 : Int32))), .val (.int (5 : Int32)), .val (.int y0), .val (.int y1), .val (.int y2), .val (.int y3), .val (.int y4), .val (.ref b36), .unset, .unset]) rfl k) ?_
        show Go _ _ _ _ _ _ _ _ _ _ (mkF m 172 #[.val (.int p0), .val (.int p1), .val (.int p2), .val (.int p3), .val (.int p4), .val (.int p5), .val (.int (p0 &&& (3 : Int32))), .val (.int (5 : Int32)), .val (.int y0), .val (.int y1), .val (.int y2), .val (.int y3), .val (.int y4), .val (.ref b36), .unset, .unset] [])
        refine W.new (X.w 27 rfl) (X.w 28 rfl) (X.w 29 rfl) at_172 (by decide) (by decide) ?_
        intro T h b37 hb37 W Eb37 Ab37 Db37
        have ne_b36_b37 : b36 ≠ b37 := by rw [hb37]; exact Nat.ne_of_lt Vb36.lt
        have gb37 : Z.heap.size ≤ b37 := by rw [hb37]; exact hsz
        replace Vb36 := Vb36.ext Eb37
        replace hsz := W.size
        have F_coder_b37 : Fld Z h b37 "java/lang/String" "coder" "B" (.int (0 : Int32)) := Db37 (Or.inr (X.w 53 rfl)) (ty := .byte) (by decide)
        have F_value_b37 : Fld Z h b37 "java/lang/String" "value" "[B" .null := Db37 (Or.inr (X.w 55 rfl)) (ty := (.array .byte)) (by decide)
        show Go _ _ _ _ _ _ _ _ _ _ (mkF m 175 #[.val (.int p0), .val (.int p1), .val (.int p2), .val (.int p3), .val (.int p4), .val (.int p5), .val (.int (p0 &&& (3 : Int32))), .val (.int (5 : Int32)), .val (.int y0), .val (.int y1), .val (.int y2), .val (.int y3), .val (.int y4), .val (.ref b36), .unset, .unset] [(.ref b37)])
        refine Go.step (fun _ k => XS.dup W.here W.hx rfl (W.d at_175) rfl rfl k) ?_
        show Go _ _ _ _ _ _ _ _ _ _ (mkF m 176 #[.val (.int p0), .val (.int p1), .val (.int p2), .val (.int p3), .val (.int p4), .val (.int p5), .val (.int (p0 &&& (3 : Int32))), .val (.int (5 : Int32)), .val (.int y0), .val (.int y1), .val (.int y2), .val (.int y3), .val (.int y4), .val (.ref b36), .unset, .unset] [(.ref b37), (.ref b37)])
        refine Go.step (fun _ k => XS.aload W.here W.hx rfl (W.d at_176) rfl rfl k) ?_
        show Go _ _ _ _ _ _ _ _ _ _ (mkF m 178 #[.val (.int p0), .val (.int p1), .val (.int p2), .val (.int p3), .val (.int p4), .val (.int p5), .val (.int (p0 &&& (3 : Int32))), .val (.int (5 : Int32)), .val (.int y0), .val (.int y1), .val (.int y2), .val (.int y3), .val (.int y4), .val (.ref b36), .unset, .unset] [(.ref b36), (.ref b37), (.ref b37)])
        refine W.specialB rfl (X.w 30 rfl) (X.w 31 rfl) (X.w 32 rfl) (by decide) (bk_new X W.hZ W.ext gb37 Ab37 F_value_b37 F_coder_b37 (cs := [y0, y1, y2, y3, y4]) (n := 5) Vb36 rfl rfl (by decide) (by decide) (smS ty0 (smS ty1 (smS ty2 (smS ty3 (smS t_y4 sm0))))) (by decide) (by decide)) [b37] (fun _ _ _ q => ⟨q.2.1, q.2.2.1⟩) (sfS (Safe.blank W.hZ.alike Ab37 F_value_b37) sf0) (allS gb37 all0) b37 [(.ref b36)] [(.ref b37)] rfl pd_12 rfl rfl rfl (Wd := 1) (Nat.le_of_eq rfl) at_178 (by decide) (by decide) ?_
        intro v T h L W hQ
        obtain ⟨rfl, -, Kb37, Sb37⟩ := hQ
        replace Vb36 := Vb36.keep Kb37 (nin1 ne_b36_b37)
        replace hsz := W.size
        show Go _ _ _ _ _ _ _ _ _ _ (mkF m 181 #[.val (.int p0), .val (.int p1), .val (.int p2), .val (.int p3), .val (.int p4), .val (.int p5), .val (.int (p0 &&& (3 : Int32))), .val (.int (5 : Int32)), .val (.int y0), .val (.int y1), .val (.int y2), .val (.int y3), .val (.int y4), .val (.ref b36), .unset, .unset] [(.ref b37)])
        refine Go.step (fun _ k => XS.astore W.here W.hx rfl (W.d at_181) rfl rfl (l' := #[.val (.int p0), .val (.int p1), .val (.int p2), .val (.int p3), .val (.int p4), .val (.int p5), .val (.int (p0 &&& (3 : Int32))), .val (.int (5 : Int32)), .val (.int y0), .val (.int y1), .val (.int y2), .val (.int y3), .val (.int y4), .val (.ref b36), .val (.ref b37), .unset]) rfl k) ?_
        show Go _ _ _ _ _ _ _ _ _ _ (mkF m 183 #[.val (.int p0), .val (.int p1), .val (.int p2), .val (.int p3), .val (.int p4), .val (.int p5), .val (.int (p0 &&& (3 : Int32))), .val (.int (5 : Int32)), .val (.int y0), .val (.int y1), .val (.int y2), .val (.int y3), .val (.int y4), .val (.ref b36), .val (.ref b37), .unset] [])
        refine Go.step (fun _ k => XS.iload W.here W.hx rfl (W.d at_183) rfl k) ?_
        show Go _ _ _ _ _ _ _ _ _ _ (mkF m 185 #[.val (.int p0), .val (.int p1), .val (.int p2), .val (.int p3), .val (.int p4), .val (.int p5), .val (.int (p0 &&& (3 : Int32))), .val (.int (5 : Int32)), .val (.int y0), .val (.int y1), .val (.int y2), .val (.int y3), .val (.int y4), .val (.ref b36), .val (.ref b37), .unset] [(.int (5 : Int32))])
        refine Go.step (fun _ k => XS.iconst W.here W.hx rfl (W.d at_185) k) ?_
        show Go _ _ _ _ _ _ _ _ _ _ (mkF m 186 #[.val (.int p0), .val (.int p1), .val (.int p2), .val (.int p3), .val (.int p4), .val (.int p5), .val (.int (p0 &&& (3 : Int32))), .val (.int (5 : Int32)), .val (.int y0), .val (.int y1), .val (.int y2), .val (.int y3), .val (.int y4), .val (.ref b36), .val (.ref b37), .unset] [(.int (4 : Int32)), (.int (5 : Int32))])
        refine Go.step (fun _ k => XS.icmpYes W.here W.hx rfl (pc0 := 186) (pc' := 233) rfl (W.d at_186) rfl (feq (by decide : ¬ ((5 : Int32) = (4 : Int32)))).2 (by decide) (by decide) k) ?_
        show Go _ _ _ _ _ _ _ _ _ _ (mkF m 233 #[.val (.int p0), .val (.int p1), .val (.int p2), .val (.int p3), .val (.int p4), .val (.int p5), .val (.int (p0 &&& (3 : Int32))), .val (.int (5 : Int32)), .val (.int y0), .val (.int y1), .val (.int y2), .val (.int y3), .val (.int y4), .val (.ref b36), .val (.ref b37), .unset] [])
        refine Go.step (fun _ k => XS.iconst W.here W.hx rfl (W.d at_233) k) ?_
        show Go _ _ _ _ _ _ _ _ _ _ (mkF m 234 #[.val (.int p0), .val (.int p1), .val (.int p2), .val (.int p3), .val (.int p4), .val (.int p5), .val (.int (p0 &&& (3 : Int32))), .val (.int (5 : Int32)), .val (.int y0), .val (.int y1), .val (.int y2), .val (.int y3), .val (.int y4), .val (.ref b36), .val (.ref b37), .unset] [(.int (0 : Int32))])
        refine Go.step (fun _ k => XS.istore W.here W.hx rfl (W.d at_234) rfl (l' := #[.val (.int p0), .val (.int p1), .val (.int p2), .val (.int p3), .val (.int p4), .val (.int p5), .val (.int (p0 &&& (3 : Int32))), .val (.int (5 : Int32)), .val (.int y0), .val (.int y1), .val (.int y2), .val (.int y3), .val (.int y4), .val (.ref b36), .val (.ref b37), .val (.int (0 : Int32))]) rfl k) ?_
        show Go _ _ _ _ _ _ _ _ _ _ (mkF m 236 #[.val (.int p0), .val (.int p1), .val (.int p2), .val (.int p3), .val (.int p4), .val (.int p5), .val (.int (p0 &&& (3 : Int32))), .val (.int (5 : Int32)), .val (.int y0), .val (.int y1), .val (.int y2), .val (.int y3), .val (.int y4), .val (.ref b36), .val (.ref b37), .val (.int (0 : Int32))] [])
        refine Go.step (fun _ k => XS.aload W.here W.hx rfl (W.d at_236) rfl rfl k) ?_
        show Go _ _ _ _ _ _ _ _ _ _ (mkF m 238 #[.val (.int p0), .val (.int p1), .val (.int p2), .val (.int p3), .val (.int p4), .val (.int p5), .val (.int (p0 &&& (3 : Int32))), .val (.int (5 : Int32)), .val (.int y0), .val (.int y1), .val (.int y2), .val (.int y3), .val (.int y4), .val (.ref b36), .val (.ref b37), .val (.int (0 : Int32))] [(.ref b37)])
        refine W.callS (X.w 0 rfl) (X.w 1 rfl) (X.w 2 rfl) (X.w 3 rfl) (by decide) (c_tbs X b37 _ _ W.ext Sb37) (by decide) (Wd := 0) (by decide) [(.ref b37)] [] rfl pd_8 rfl rfl rfl (Nat.le_of_eq rfl) at_238 (by decide) (by decide) ?_
        intro v T h vm W hQ C
        obtain ⟨hq38, K39⟩ := hQ
        rcases hq38 with ⟨rfl, hq38⟩ | ⟨rfl, hq38⟩
        · replace hsz := W.size
          show Go _ _ _ _ _ _ _ _ _ _ (mkF m 241 #[.val (.int p0), .val (.int p1), .val (.int p2), .val (.int p3), .val (.int p4), .val (.int p5), .val (.int (p0 &&& (3 : Int32))), .val (.int (5 : Int32)), .val (.int y0), .val (.int y1), .val (.int y2), .val (.int y3), .val (.int y4), .val (.ref b36), .val (.ref b37), .val (.int (0 : Int32))] [(.int (1 : Int32))])
          refine Go.step (fun _ k => XS.iload W.here W.hx rfl (W.d at_241) rfl k) ?_
          show Go _ _ _ _ _ _ _ _ _ _ (mkF m 243 #[.val (.int p0), .val (.int p1), .val (.int p2), .val (.int p3), .val (.int p4), .val (.int p5), .val (.int (p0 &&& (3 : Int32))), .val (.int (5 : Int32)), .val (.int y0), .val (.int y1), .val (.int y2), .val (.int y3), .val (.int y4), .val (.ref b36), .val (.ref b37), .val (.int (0 : Int32))] [(.int (0 : Int32)), (.int (1 : Int32))])
          refine Go.step (fun _ k => XS.icmpYes W.here W.hx rfl (pc0 := 243) (pc' := 250) rfl (W.d at_243) rfl (feq (by decide : ¬ ((1 : Int32) = (0 : Int32)))).2 (by decide) (by decide) k) ?_
          show Go _ _ _ _ _ _ _ _ _ _ (mkF m 250 #[.val (.int p0), .val (.int p1), .val (.int p2), .val (.int p3), .val (.int p4), .val (.int p5), .val (.int (p0 &&& (3 : Int32))), .val (.int (5 : Int32)), .val (.int y0), .val (.int y1), .val (.int y2), .val (.int y3), .val (.int y4), .val (.ref b36), .val (.ref b37), .val (.int (0 : Int32))] [])
          refine Go.step (fun _ k => XS.iconst W.here W.hx rfl (W.d at_250) k) ?_
          show Go _ _ _ _ _ _ _ _ _ _ (mkF m 251 #[.val (.int p0), .val (.int p1), .val (.int p2), .val (.int p3), .val (.int p4), .val (.int p5), .val (.int (p0 &&& (3 : Int32))), .val (.int (5 : Int32)), .val (.int y0), .val (.int y1), .val (.int y2), .val (.int y3), .val (.int y4), .val (.ref b36), .val (.ref b37), .val (.int (0 : Int32))] [(.int (0 : Int32))])
          exact absurd (isTrue_len hq38) (by simp)
        · replace hsz := W.size
          show Go _ _ _ _ _ _ _ _ _ _ (mkF m 241 #[.val (.int p0), .val (.int p1), .val (.int p2), .val (.int p3), .val (.int p4), .val (.int p5), .val (.int (p0 &&& (3 : Int32))), .val (.int (5 : Int32)), .val (.int y0), .val (.int y1), .val (.int y2), .val (.int y3), .val (.int y4), .val (.ref b36), .val (.ref b37), .val (.int (0 : Int32))] [(.int (0 : Int32))])
          refine Go.step (fun _ k => XS.iload W.here W.hx rfl (W.d at_241) rfl k) ?_
          show Go _ _ _ _ _ _ _ _ _ _ (mkF m 243 #[.val (.int p0), .val (.int p1), .val (.int p2), .val (.int p3), .val (.int p4), .val (.int p5), .val (.int (p0 &&& (3 : Int32))), .val (.int (5 : Int32)), .val (.int y0), .val (.int y1), .val (.int y2), .val (.int y3), .val (.int y4), .val (.ref b36), .val (.ref b37), .val (.int (0 : Int32))] [(.int (0 : Int32)), (.int (0 : Int32))])
          refine Go.step (fun _ k => XS.icmpNo W.here W.hx rfl (W.d at_243) rfl (teq (by decide : (0 : Int32) = (0 : Int32))).2 k) ?_
          show Go _ _ _ _ _ _ _ _ _ _ (mkF m 246 #[.val (.int p0), .val (.int p1), .val (.int p2), .val (.int p3), .val (.int p4), .val (.int p5), .val (.int (p0 &&& (3 : Int32))), .val (.int (5 : Int32)), .val (.int y0), .val (.int y1), .val (.int y2), .val (.int y3), .val (.int y4), .val (.ref b36), .val (.ref b37), .val (.int (0 : Int32))] [])
          refine Go.step (fun _ k => XS.iconst W.here W.hx rfl (W.d at_246) k) ?_
          show Go _ _ _ _ _ _ _ _ _ _ (mkF m 247 #[.val (.int p0), .val (.int p1), .val (.int p2), .val (.int p3), .val (.int p4), .val (.int p5), .val (.int (p0 &&& (3 : Int32))), .val (.int (5 : Int32)), .val (.int y0), .val (.int y1), .val (.int y2), .val (.int y3), .val (.int y4), .val (.ref b36), .val (.ref b37), .val (.int (0 : Int32))] [(.int (1 : Int32))])
          refine Go.step (fun _ k => XS.goto W.here W.hx rfl (pc0 := 247) (pc' := 251) rfl (W.d at_247) (by decide) (by decide) k) ?_
          show Go _ _ _ _ _ _ _ _ _ _ (mkF m 251 #[.val (.int p0), .val (.int p1), .val (.int p2), .val (.int p3), .val (.int p4), .val (.int p5), .val (.int (p0 &&& (3 : Int32))), .val (.int (5 : Int32)), .val (.int y0), .val (.int y1), .val (.int y2), .val (.int y3), .val (.int y4), .val (.ref b36), .val (.ref b37), .val (.int (0 : Int32))] [(.int (1 : Int32))])
          exact W.retN (by simp) at_251 (rfl) (by decide) (by decide)
set_option maxRecDepth 65536 in
set_option maxHeartbeats 40000000 in
theorem comes_1 {Post : Tables → Env → Array Value → State → Outcome → State → Prop} (hpost : ∀ tb e args s v u, (limb_1_1.after args s (.returned v) u = true ∧ limb_1_2.after args s (.returned v) u = true ∧ True) → ReturnedEndW s (.returned v) u (Jvm.fieldLocs frame_1_writes args s ++ Jvm.arrayLocs frame_1_arrays args s ++ Jvm.staticLocs frame_1_statics s) 24 2176 → Post tb e args s (.returned v) u) :
    ArmFor flags0 classFile x code maxLocals ret World_1 tables_1 room_1 Calls_1 rest_1 Pre_1 Post := by
  intro l hfl _ _ p e ha hc hk s m args below hf hA hF happ hP
  obtain ⟨hcalls, hrest, hpre⟩ := hP
  obtain ⟨-, -, -, hnamed, -, -, -, hat⟩ := (Spec.applies_iff hf).mp happ
  obtain ⟨hg, hn⟩ := and_e (Cond.before_iff.mp (show (Jvm.Cond.and given_1 narrow_1).before args s = true from hpre))
  obtain ⟨g1, g2⟩ := and_e hg
  obtain ⟨g3, g4⟩ := and_e g2
  obtain ⟨g5, g6⟩ := and_e g4
  obtain ⟨g7, g8⟩ := and_e g6
  obtain ⟨g9, g10⟩ := and_e g8
  obtain ⟨g11, g12⟩ := and_e g10
  obtain ⟨w0, w1, w2, w3, w4, w5, rfl⟩ : ∃ w0 w1 w2 w3 w4 w5 : Value, args = #[w0, w1, w2, w3, w4, w5] := by
    have hs : args.size = 6 := by simpa [Cond.value, given_1] using g1
    obtain ⟨L⟩ := args
    match L, hs with
    | [w0, w1, w2, w3, w4, w5], _ => exact ⟨w0, w1, w2, w3, w4, w5, rfl⟩
  have hw := fun d (hd : d ∈ tables_1) => atoms_spec (ws := Jvm.Cond.code x code maxLocals ret :: tables_1) hat d (List.mem_cons_of_mem _ hd)
  obtain ⟨hsets, hown0⟩ := atoms_of _ (rest_1_c_eq ▸ (show rest_1_c.before _ s = true from hrest))
  obtain ⟨i0, ei0⟩ := is_v g3
  obtain rfl : w0 = (.int i0) := Option.some.inj ei0
  obtain ⟨i1, ei1⟩ := is_v g5
  obtain rfl : w1 = (.int i1) := Option.some.inj ei1
  obtain ⟨i2, ei2⟩ := is_v g7
  obtain rfl : w2 = (.int i2) := Option.some.inj ei2
  obtain ⟨i3, ei3⟩ := is_v g9
  obtain rfl : w3 = (.int i3) := Option.some.inj ei3
  obtain ⟨i4, ei4⟩ := is_v g11
  obtain rfl : w4 = (.int i4) := Option.some.inj ei4
  obtain ⟨i5, ei5⟩ := is_v g12
  obtain rfl : w5 = (.int i5) := Option.some.inj ei5
  obtain ⟨G1, eG⟩ := is_v (Cond.before_iff.mp (hsets _ (List.mem_of_getElem? (i := 5) rfl)))
  have S1 : Sta s s.heap "java/lang/String" "COMPACT_STRINGS" "Z" (.int G1) := Sta.start eG (Or.inl (hsets _ (List.mem_of_getElem? (i := 4) rfl)))
  have hcw := hsets _ (List.mem_of_getElem? (i := 6) rfl)
  have P1 : ¬ (G1 = (0 : Int32)) := gotF (Cond.eq_ints eG (Term.int_eval (0))) (not_v (Cond.before_iff.mp hcw))
  have hEL : EW s #[(.int i0), (.int i1), (.int i2), (.int i3), (.int i4), (.int i5)] consts_1 := (EW.cons (hw _ (List.mem_of_getElem? (i := 62) rfl)) (by decide +kernel) (EW.cons (hw _ (List.mem_of_getElem? (i := 80) rfl)) (by decide +kernel) EW.nil))
  have hX : Ctx s _ G1 := ⟨hw, S1, P1, hEL⟩
  obtain ⟨bt, ebt⟩ := exa_v (Cond.before_iff.mp (hsets _ (List.mem_of_getElem? (i := 2) rfl)))
  have xbt := Exa.start ebt (Cond.before_iff.mp (hsets _ (List.mem_of_getElem? (i := 2) rfl)))
  have sbt := Sta.start ebt (Or.inl (hsets _ (List.mem_of_getElem? (i := 1) rfl)))
  have fbt := Fld.start ((fld_at ebt).symm.trans (eqI (Cond.before_iff.mp (hsets _ (List.mem_of_getElem? (i := 3) rfl)))))
  obtain ⟨bf, ebf⟩ := exa_v (Cond.before_iff.mp (hsets _ (List.mem_of_getElem? (i := 15) rfl)))
  have xbf := Exa.start ebf (Cond.before_iff.mp (hsets _ (List.mem_of_getElem? (i := 15) rfl)))
  have sbf := Sta.start ebf (Or.inl (hsets _ (List.mem_of_getElem? (i := 14) rfl)))
  have fbf := Fld.start ((fld_at ebf).symm.trans (eqI (Cond.before_iff.mp (hsets _ (List.mem_of_getElem? (i := 16) rfl)))))
  have hN : Bo s bt bf := ⟨sbt, xbt, fbt, sbf, xbf, fbf⟩
  have hc1 : (∀ q ∈ consts_1, Jvm.Lit.constHeld s q.1 q.2) ∧ True := hcalls
  have hCH : CHv s consts_1 s.vm s.heap := CHv.start hEL hc1.1 hcw (hw _ (List.mem_of_getElem? (i := 45) rfl)) (hw _ (List.mem_of_getElem? (i := 28) rfl))
  obtain ⟨n, o, h1, h2, h3, _, L, rfl, ⟨rfl, N, -⟩, -, hq⟩ := c_law (l := l) hX i0 i1 i2 i3 i4 i5 s.heap ⟨Nat.le_refl _, fun _ _ q => q⟩ bt bf hN p e ha hc hk s m _ below hf ((Spec.applies_iff_loose hf).mp happ).1 ⟨rfl, State.Warmed39.refl s, rfl, hCH⟩ trivial
  refine ⟨n, _, h1, h2, h3, hpost _ _ _ _ _ _ ⟨Cond.after_iff.mpr rfl, Cond.after_iff.mpr (eq_i res_at (Term.int_eval (1)) rfl), trivial⟩ ⟨hq.1, hq.2.1, hq.2.2.1, (hq.2.2.2.sift fun y hy => Or.inr (N y hy)).mono (by decide) (by decide)⟩⟩
theorem main_1_1 : Claimed_1_1 := comes_1 fun _ _ _ _ _ _ h hF => ⟨h.1, hF⟩
theorem main_1_2 : Claimed_1_2 := comes_1 fun _ _ _ _ _ _ h hF => ⟨h.2.1, hF⟩
end Jvm.Pilot.@@N@@
namespace Jvm.Pilot.@@N@@
open Jvm Jvm.ClassFile Sem Op Lib Jvm.Free Jvm.Stand Jvm.Pilot.@@N@@.Jvm.D
/-! MADE BY PROGRAM (witnessworld.py) out of the Statement's table words and the real class files: 23 classes; the members and pool entries that the words name. The judged class is class 1, her method 1. -/
namespace start1
open Jvm.ClassFile
def u (s : String) : CpInfo := .utf8 (stringToUtf16 s)
/-- a pool by its gaps: so many unusable entries, then the entry; so many at the end -/
def gap : Nat → List CpInfo → List CpInfo
  | 0, r => r
  | n + 1, r => .unusable :: gap n r
def poolList (es : List (Nat × CpInfo)) (last : Nat) : List CpInfo := es.foldr (fun e r => gap e.1 (e.2 :: r)) (gap last [])
def pool (es : List (Nat × CpInfo)) (last : Nat) : Array CpInfo := ⟨poolList es last⟩
def fileOf (pool : Array CpInfo) (this : Nat) (attrs : Array Attribute := #[]) (ms : Array MethodInfo := #[]) (fl : Nat := 33) (sup : Nat := 0) (ifs : Array Nat := #[]) (fds : Array FieldInfo := #[]) : ClassFile where
  minorVersion := 0
  majorVersion := 65
  constantPool := pool
  accessFlags := fl
  thisClass := this
  superClass := sup
  interfaces := ifs
  fields := fds
  methods := ms
  attributes := attrs
def plain (name : String) (sup : Option ClassId) : Class where
  name := name
  kind := .ordinary
  loader := none
  accessFlags := 33
  super := sup
  interfaces := #[]
  cf := none
  fields := #[]
  methods := #[]
  instanceTypes := #[]
  staticTypes := #[]
  resolved := #[]
  callSites := []
  init := .initialized
  statics := none
  mirror := none

def pool0 : Array CpInfo := pool [(5, u "<init>"), (0, u "()V"), (1, .class_ 10), (1, u "java/lang/Object")] 113

def k0c0 : Code := { maxStack := 0, maxLocals := 1, code := object_method_1_code, exceptionTable := #[], attributes := #[] }
def k0m0 : Method := { name := "<init>", desc := "()V", sig := { parameters := [], returnType := none }, accessFlags := 1, code := some k0c0 }
/-- java/lang/Object -/
def k0 : Class := { plain "java/lang/Object" none with
  accessFlags := 33
  interfaces := #[]
  cf := some (fileOf pool0 8 #[] #[{ accessFlags := 1, nameIndex := 5, descriptorIndex := 6, attributes := #[] }] 33 0 #[] #[])
  fields := #[]
  methods := #[k0m0]
  instanceTypes := #[]
  staticTypes := #[]
  resolved := Array.replicate 124 none
  statics := none }

def pool1 : Array CpInfo := pool [(2, .class_ 4), (1, u "java/lang/Object"), (0, u "<init>"), (0, u "()V"), (0, .methodref 8 9), (0, .class_ 10), (0, .nameAndType 11 12), (0, u "com/example/wary_validator/waryvalidator/messageinterpolation/ExpressionOperators"), (0, u "toBoolean"), (0, u "(Ljava/lang/Object;)Z"), (0, .methodref 14 15), (0, .class_ 16), (0, .nameAndType 17 18), (0, u "java/lang/Boolean"), (0, u "valueOf"), (0, u "(Z)Ljava/lang/Boolean;"), (0, .integer 2147483647), (0, .methodref 21 22), (0, .class_ 23), (0, .nameAndType 24 25), (0, u "com/example/wary_validator/waryvalidator/messageinterpolation/ExpressionOperatorsToBooleanPinLaw"), (0, u "pick"), (0, u "(IIIC)C"), (0, .methodref 21 27), (0, .nameAndType 28 29), (0, u "make"), (0, u "(ICCCCC)[C"), (0, .class_ 31), (0, u "java/lang/String"), (0, .methodref 30 33), (0, .nameAndType 5 34), (0, u "([C)V"), (0, .methodref 21 36), (0, .nameAndType 37 38), (0, u "same"), (0, u "(CC)Z"), (2, u "law"), (0, u "(IIIIII)Z")] 5

def k1m0 : Method := { name := "<init>", desc := "()V", sig := { parameters := [], returnType := none }, accessFlags := 2, code := none }
def k1c1 : Code := { maxStack := 6, maxLocals := 16, code := code, exceptionTable := #[], attributes := #[] }
def k1m1 : Method := { name := "law", desc := "(IIIIII)Z", sig := { parameters := [.int, .int, .int, .int, .int, .int], returnType := some .boolean }, accessFlags := 9, code := some k1c1 }
def k1c2 : Code := { maxStack := 3, maxLocals := 5, code := method_3_code, exceptionTable := #[], attributes := #[] }
def k1m2 : Method := { name := "pick", desc := "(IIIC)C", sig := { parameters := [.int, .int, .int, .char], returnType := some .char }, accessFlags := 10, code := some k1c2 }
def k1c3 : Code := { maxStack := 3, maxLocals := 2, code := method_4_code, exceptionTable := #[], attributes := #[] }
def k1m3 : Method := { name := "same", desc := "(CC)Z", sig := { parameters := [.char, .char], returnType := some .boolean }, accessFlags := 10, code := some k1c3 }
def k1c4 : Code := { maxStack := 4, maxLocals := 6, code := method_5_code, exceptionTable := #[], attributes := #[] }
def k1m4 : Method := { name := "make", desc := "(ICCCCC)[C", sig := { parameters := [.int, .char, .char, .char, .char, .char], returnType := some (.array .char) }, accessFlags := 10, code := some k1c4 }
/-- com/example/wary_validator/waryvalidator/messageinterpolation/ExpressionOperatorsToBooleanPinLaw -/
def k1 : Class := { plain "com/example/wary_validator/waryvalidator/messageinterpolation/ExpressionOperatorsToBooleanPinLaw" (some 0) with
  accessFlags := 49
  interfaces := #[]
  cf := some (fileOf pool1 21 #[] #[{ accessFlags := 2, nameIndex := 5, descriptorIndex := 6, attributes := #[] }, { accessFlags := 9, nameIndex := 41, descriptorIndex := 42, attributes := #[] }, { accessFlags := 10, nameIndex := 24, descriptorIndex := 25, attributes := #[] }, { accessFlags := 10, nameIndex := 37, descriptorIndex := 38, attributes := #[] }, { accessFlags := 10, nameIndex := 28, descriptorIndex := 29, attributes := #[] }] 49 2 #[] #[])
  fields := #[]
  methods := #[k1m0, k1m1, k1m2, k1m3, k1m4]
  instanceTypes := #[]
  staticTypes := #[]
  resolved := Array.replicate 48 none
  statics := none }

def pool2 : Array CpInfo := pool [(2, .class_ 4), (1, u "java/lang/Object"), (0, u "<init>"), (0, u "()V"), (1, .class_ 10), (1, u "java/lang/String"), (7, u "(Ljava/lang/Object;)Z"), (13, .class_ 34), (1, u "com/example/wary_validator/waryvalidator/messageinterpolation/ExpressionOperators$Arithmetic"), (3, .class_ 40), (1, u "com/example/wary_validator/waryvalidator/messageinterpolation/ExpressionOperators"), (20, .class_ 63), (1, u "java/lang/Boolean"), (25, u "(Ljava/lang/String;)Z"), (65, u "()Z"), (21, .methodref 61 178), (0, .nameAndType 179 155), (0, u "booleanValue"), (0, .methodref 61 181), (0, .nameAndType 182 89), (0, u "parseBoolean"), (87, u "DECIMALS"), (0, u "Ljava/math/MathContext;"), (12, u "toBoolean"), (123, u "MAX_NUMBER_TEXT"), (0, u "I")] 85

def k2m0 : Method := { name := "<init>", desc := "()V", sig := { parameters := [], returnType := none }, accessFlags := 2, code := none }
def k2c1 : Code := { maxStack := 2, maxLocals := 4, code := prog_17_method_5_code, exceptionTable := #[], attributes := #[] }
def k2m1 : Method := { name := "toBoolean", desc := "(Ljava/lang/Object;)Z", sig := { parameters := [(.object "java/lang/Object")], returnType := some .boolean }, accessFlags := 8, code := some k2c1 }
/-- com/example/wary_validator/waryvalidator/messageinterpolation/ExpressionOperators -/
def k2 : Class := { plain "com/example/wary_validator/waryvalidator/messageinterpolation/ExpressionOperators" (some 0) with
  accessFlags := 48
  interfaces := #[]
  cf := some (fileOf pool2 38 #[.nestMembers #[32]] #[{ accessFlags := 2, nameIndex := 5, descriptorIndex := 6, attributes := #[] }, { accessFlags := 8, nameIndex := 284, descriptorIndex := 18, attributes := #[] }] 48 2 #[] #[{ accessFlags := 26, nameIndex := 408, descriptorIndex := 409, attributes := #[] }, { accessFlags := 26, nameIndex := 270, descriptorIndex := 271, attributes := #[] }])
  fields := #[{ name := "MAX_NUMBER_TEXT", type := .int, accessFlags := 26, slot := 0, constantValue := 0 }, { name := "DECIMALS", type := (.object "java/math/MathContext"), accessFlags := 26, slot := 1, constantValue := 0 }]
  methods := #[k2m0, k2m1]
  instanceTypes := #[]
  staticTypes := #[.int, (.object "java/math/MathContext")]
  resolved := Array.replicate 495 none
  statics := none }

def pool3 : Array CpInfo := pool [(1, .class_ 2), (0, u "java/io/Serializable"), (0, .class_ 4), (0, u "java/lang/Object")] 2

/-- java/io/Serializable -/
def k3 : Class := { plain "java/io/Serializable" (some 0) with
  accessFlags := 1537
  interfaces := #[]
  cf := some (fileOf pool3 1 #[] #[] 1537 3 #[] #[])
  fields := #[]
  methods := #[]
  instanceTypes := #[]
  staticTypes := #[]
  resolved := Array.replicate 7 none
  statics := none }

def pool4 : Array CpInfo := pool [(1, .class_ 2), (0, u "java/lang/Comparable"), (0, .class_ 4), (0, u "java/lang/Object")] 7

/-- java/lang/Comparable -/
def k4 : Class := { plain "java/lang/Comparable" (some 0) with
  accessFlags := 1537
  interfaces := #[]
  cf := some (fileOf pool4 1 #[] #[] 1537 3 #[] #[])
  fields := #[]
  methods := #[]
  instanceTypes := #[]
  staticTypes := #[]
  resolved := Array.replicate 12 none
  statics := none }

def pool5 : Array CpInfo := pool [(1, .class_ 2), (0, u "java/lang/constant/Constable"), (0, .class_ 4), (0, u "java/lang/Object")] 6

/-- java/lang/constant/Constable -/
def k5 : Class := { plain "java/lang/constant/Constable" (some 0) with
  accessFlags := 1537
  interfaces := #[]
  cf := some (fileOf pool5 1 #[] #[] 1537 3 #[] #[])
  fields := #[]
  methods := #[]
  instanceTypes := #[]
  staticTypes := #[]
  resolved := Array.replicate 11 none
  statics := none }

def pool6 : Array CpInfo := pool [(2, .class_ 4), (1, u "java/lang/Object"), (2, .fieldref 8 9), (0, .class_ 10), (0, .nameAndType 11 12), (0, u "java/lang/Boolean"), (0, u "value"), (0, u "Z"), (2, u "parseBoolean"), (0, u "(Ljava/lang/String;)Z"), (3, .string 21), (0, u "true"), (0, .methodref 23 24), (0, .class_ 25), (0, .nameAndType 26 16), (0, u "java/lang/String"), (0, u "equalsIgnoreCase"), (0, .fieldref 8 28), (0, .nameAndType 29 30), (0, u "TRUE"), (0, u "Ljava/lang/Boolean;"), (0, .fieldref 8 32), (0, .nameAndType 33 30), (0, u "FALSE"), (2, u "valueOf"), (7, u "booleanValue"), (0, u "()Z"), (41, u "TYPE"), (0, u "Ljava/lang/Class;"), (0, .class_ 90), (0, u "java/io/Serializable"), (0, .class_ 92), (0, u "java/lang/Comparable"), (0, .class_ 94), (0, u "java/lang/constant/Constable"), (2, u "serialVersionUID"), (0, u "J"), (18, u "(Z)Ljava/lang/Boolean;")] 34

def k6c0 : Code := { maxStack := 2, maxLocals := 1, code := jdk_2055_method_3_code, exceptionTable := #[], attributes := #[] }
def k6m0 : Method := { name := "parseBoolean", desc := "(Ljava/lang/String;)Z", sig := { parameters := [(.object "java/lang/String")], returnType := some .boolean }, accessFlags := 9, code := some k6c0 }
def k6c1 : Code := { maxStack := 1, maxLocals := 1, code := jdk_2055_method_4_code, exceptionTable := #[], attributes := #[] }
def k6m1 : Method := { name := "booleanValue", desc := "()Z", sig := { parameters := [], returnType := some .boolean }, accessFlags := 1, code := some k6c1 }
def k6c2 : Code := { maxStack := 1, maxLocals := 1, code := jdk_2055_method_5_code, exceptionTable := #[], attributes := #[] }
def k6m2 : Method := { name := "valueOf", desc := "(Z)Ljava/lang/Boolean;", sig := { parameters := [.boolean], returnType := some (.object "java/lang/Boolean") }, accessFlags := 9, code := some k6c2 }
/-- java/lang/Boolean -/
def k6 : Class := { plain "java/lang/Boolean" (some 0) with
  accessFlags := 49
  interfaces := #[3, 4, 5]
  cf := some (fileOf pool6 8 #[] #[{ accessFlags := 9, nameIndex := 15, descriptorIndex := 16, attributes := #[] }, { accessFlags := 1, nameIndex := 44, descriptorIndex := 45, attributes := #[] }, { accessFlags := 9, nameIndex := 36, descriptorIndex := 117, attributes := #[] }] 49 2 #[89, 91, 93] #[{ accessFlags := 25, nameIndex := 29, descriptorIndex := 30, attributes := #[] }, { accessFlags := 25, nameIndex := 33, descriptorIndex := 30, attributes := #[] }, { accessFlags := 25, nameIndex := 87, descriptorIndex := 88, attributes := #[] }, { accessFlags := 18, nameIndex := 11, descriptorIndex := 12, attributes := #[] }, { accessFlags := 26, nameIndex := 97, descriptorIndex := 98, attributes := #[] }])
  fields := #[{ name := "TRUE", type := (.object "java/lang/Boolean"), accessFlags := 25, slot := 0, constantValue := 0 }, { name := "FALSE", type := (.object "java/lang/Boolean"), accessFlags := 25, slot := 1, constantValue := 0 }, { name := "TYPE", type := (.object "java/lang/Class"), accessFlags := 25, slot := 2, constantValue := 0 }, { name := "value", type := .boolean, accessFlags := 18, slot := 0, constantValue := 0 }, { name := "serialVersionUID", type := .long, accessFlags := 26, slot := 3, constantValue := 0 }]
  methods := #[k6m0, k6m1, k6m2]
  instanceTypes := #[.boolean]
  staticTypes := #[(.object "java/lang/Boolean"), (.object "java/lang/Boolean"), (.object "java/lang/Class"), .long]
  resolved := Array.replicate 152 none
  statics := some 0 }

def pool7 : Array CpInfo := pool [(2, .class_ 4), (1, u "java/lang/CharSequence"), (42, .class_ 48), (0, u "java/lang/CharSequence$1CodePointIterator"), (10, .class_ 60), (0, u "java/lang/CharSequence$1CharIterator"), (5, .class_ 67), (0, u "java/lang/Object")] 63

/-- java/lang/CharSequence -/
def k7 : Class := { plain "java/lang/CharSequence" (some 0) with
  accessFlags := 1537
  interfaces := #[]
  cf := some (fileOf pool7 2 #[.nestMembers #[47, 59]] #[] 1537 66 #[] #[])
  fields := #[]
  methods := #[]
  instanceTypes := #[]
  staticTypes := #[]
  resolved := Array.replicate 131 none
  statics := none }

def pool8 : Array CpInfo := pool [(1, .class_ 2), (0, u "java/lang/constant/ConstantDesc"), (0, .class_ 4), (0, u "java/lang/Object")] 32

/-- java/lang/constant/ConstantDesc -/
def k8 : Class := { plain "java/lang/constant/ConstantDesc" (some 0) with
  accessFlags := 1537
  interfaces := #[]
  cf := some (fileOf pool8 1 #[] #[] 1537 3 #[] #[])
  fields := #[]
  methods := #[]
  instanceTypes := #[]
  staticTypes := #[]
  resolved := Array.replicate 37 none
  statics := none }

def pool9 : Array CpInfo := pool [(1, .methodref 2 3), (0, .class_ 4), (0, .nameAndType 5 6), (0, u "java/lang/Object"), (0, u "<init>"), (0, u "()V"), (0, .string 8), (0, u ""), (0, .fieldref 10 11), (0, .class_ 12), (0, .nameAndType 13 14), (0, u "java/lang/String"), (0, u "value"), (0, u "[B"), (0, .fieldref 10 16), (0, .nameAndType 17 18), (0, u "coder"), (0, u "B"), (2, u "hash"), (0, u "I"), (2, u "hashIsZero"), (0, u "Z"), (0, .methodref 10 28), (0, .nameAndType 5 29), (0, u "([CIILjava/lang/Void;)V"), (8, .fieldref 10 39), (0, .nameAndType 40 26), (0, u "COMPACT_STRINGS"), (1, .class_ 44), (1, u "java/lang/StringUTF16"), (0, u "compress"), (1, .methodref 42 48), (0, .nameAndType 49 50), (0, u "coderFromArrayLen"), (0, u "([BI)B"), (56, .class_ 109), (1, u "java/lang/StringLatin1"), (67, .methodref 42 178), (0, .nameAndType 45 179), (0, u "([CII)[B"), (154, u "()I"), (0, .methodref 10 336), (0, .nameAndType 17 337), (0, u "()B"), (167, .methodref 10 506), (0, .nameAndType 507 334), (0, u "length"), (67, .class_ 576), (0, u "java/lang/CharSequence"), (5, .methodref 10 583), (0, .nameAndType 584 585), (0, u "regionMatches"), (0, u "(ZILjava/lang/String;II)Z"), (13, u "CASE_INSENSITIVE_ORDER"), (0, u "Ljava/util/Comparator;"), (12, .methodref 107 614), (0, .nameAndType 615 616), (0, u "regionMatchesCI"), (0, u "([BI[BII)Z"), (393, u "([C)V"), (90, u "serialPersistentFields"), (0, u "[Ljava/io/ObjectStreamField;"), (0, .class_ 1104), (0, u "java/lang/String$CaseInsensitiveComparator"), (1, .class_ 1107), (0, u "java/io/Serializable"), (0, .class_ 1109), (0, u "java/lang/Comparable"), (0, .class_ 1111), (0, u "java/lang/constant/Constable"), (0, .class_ 1113), (0, u "java/lang/constant/ConstantDesc"), (2, u "serialVersionUID"), (0, u "J"), (3, u "REPL"), (0, u "C"), (2, u "LATIN1"), (1, u "UTF16"), (128, u "equalsIgnoreCase"), (0, u "(Ljava/lang/String;)Z")] 193

def k9m0 : Method := { name := "<init>", desc := "()V", sig := { parameters := [], returnType := none }, accessFlags := 1, code := none }
def k9c1 : Code := { maxStack := 5, maxLocals := 2, code := jdk_42_method_3_code, exceptionTable := #[], attributes := #[] }
def k9m1 : Method := { name := "<init>", desc := "([C)V", sig := { parameters := [(.array .char)], returnType := none }, accessFlags := 1, code := some k9c1 }
def k9c2 : Code := { maxStack := 2, maxLocals := 1, code := jdk_42_method_54_code, exceptionTable := #[], attributes := #[] }
def k9m2 : Method := { name := "length", desc := "()I", sig := { parameters := [], returnType := some .int }, accessFlags := 1, code := some k9c2 }
def k9c3 : Code := { maxStack := 6, maxLocals := 2, code := jdk_42_method_70_code, exceptionTable := #[], attributes := #[] }
def k9m3 : Method := { name := "equalsIgnoreCase", desc := "(Ljava/lang/String;)Z", sig := { parameters := [(.object "java/lang/String")], returnType := some .boolean }, accessFlags := 1, code := some k9c3 }
def k9c4 : Code := { maxStack := 6, maxLocals := 9, code := jdk_42_method_74_code, exceptionTable := #[], attributes := #[] }
def k9m4 : Method := { name := "regionMatches", desc := "(ZILjava/lang/String;II)Z", sig := { parameters := [.boolean, .int, (.object "java/lang/String"), .int, .int], returnType := some .boolean }, accessFlags := 1, code := some k9c4 }
def k9c5 : Code := { maxStack := 4, maxLocals := 6, code := jdk_42_method_149_code, exceptionTable := #[], attributes := #[] }
def k9m5 : Method := { name := "<init>", desc := "([CIILjava/lang/Void;)V", sig := { parameters := [(.array .char), .int, .int, (.object "java/lang/Void")], returnType := none }, accessFlags := 2, code := some k9c5 }
def k9c6 : Code := { maxStack := 1, maxLocals := 1, code := jdk_42_method_152_code, exceptionTable := #[], attributes := #[] }
def k9m6 : Method := { name := "coder", desc := "()B", sig := { parameters := [], returnType := some .byte }, accessFlags := 0, code := some k9c6 }
/-- java/lang/String -/
def k9 : Class := { plain "java/lang/String" (some 0) with
  accessFlags := 49
  interfaces := #[3, 4, 7, 5, 8]
  cf := some (fileOf pool9 10 #[.nestMembers #[1103]] #[{ accessFlags := 1, nameIndex := 5, descriptorIndex := 6, attributes := #[] }, { accessFlags := 1, nameIndex := 5, descriptorIndex := 1010, attributes := #[] }, { accessFlags := 1, nameIndex := 507, descriptorIndex := 334, attributes := #[] }, { accessFlags := 1, nameIndex := 1256, descriptorIndex := 1257, attributes := #[] }, { accessFlags := 1, nameIndex := 584, descriptorIndex := 585, attributes := #[] }, { accessFlags := 2, nameIndex := 5, descriptorIndex := 29, attributes := #[] }, { accessFlags := 0, nameIndex := 17, descriptorIndex := 337, attributes := #[] }] 49 2 #[1106, 1108, 575, 1110, 1112] #[{ accessFlags := 18, nameIndex := 13, descriptorIndex := 14, attributes := #[] }, { accessFlags := 18, nameIndex := 17, descriptorIndex := 18, attributes := #[] }, { accessFlags := 2, nameIndex := 21, descriptorIndex := 22, attributes := #[] }, { accessFlags := 2, nameIndex := 25, descriptorIndex := 26, attributes := #[] }, { accessFlags := 26, nameIndex := 1116, descriptorIndex := 1117, attributes := #[] }, { accessFlags := 24, nameIndex := 40, descriptorIndex := 26, attributes := #[] }, { accessFlags := 26, nameIndex := 1101, descriptorIndex := 1102, attributes := #[] }, { accessFlags := 26, nameIndex := 1121, descriptorIndex := 1122, attributes := #[] }, { accessFlags := 25, nameIndex := 599, descriptorIndex := 600, attributes := #[] }, { accessFlags := 24, nameIndex := 1125, descriptorIndex := 18, attributes := #[] }, { accessFlags := 24, nameIndex := 1127, descriptorIndex := 18, attributes := #[] }])
  fields := #[{ name := "value", type := (.array .byte), accessFlags := 18, slot := 0, constantValue := 0 }, { name := "coder", type := .byte, accessFlags := 18, slot := 1, constantValue := 0 }, { name := "hash", type := .int, accessFlags := 2, slot := 2, constantValue := 0 }, { name := "hashIsZero", type := .boolean, accessFlags := 2, slot := 3, constantValue := 0 }, { name := "serialVersionUID", type := .long, accessFlags := 26, slot := 0, constantValue := 0 }, { name := "COMPACT_STRINGS", type := .boolean, accessFlags := 24, slot := 1, constantValue := 0 }, { name := "serialPersistentFields", type := (.array (.object "java/io/ObjectStreamField")), accessFlags := 26, slot := 2, constantValue := 0 }, { name := "REPL", type := .char, accessFlags := 26, slot := 3, constantValue := 0 }, { name := "CASE_INSENSITIVE_ORDER", type := (.object "java/util/Comparator"), accessFlags := 25, slot := 4, constantValue := 0 }, { name := "LATIN1", type := .byte, accessFlags := 24, slot := 5, constantValue := 0 }, { name := "UTF16", type := .byte, accessFlags := 24, slot := 6, constantValue := 0 }]
  methods := #[k9m0, k9m1, k9m2, k9m3, k9m4, k9m5, k9m6]
  instanceTypes := #[(.array .byte), .byte, .int, .boolean]
  staticTypes := #[.long, .boolean, (.array (.object "java/io/ObjectStreamField")), .char, (.object "java/util/Comparator"), .byte, .byte]
  resolved := Array.replicate 1451 none
  statics := some 1 }

def pool10 : Array CpInfo := pool [(6, .class_ 8), (1, u "java/lang/Object"), (0, u "<init>"), (0, u "()V"), (1, .class_ 14), (1, u "java/lang/StringUTF16"), (31, u "$assertionsDisabled"), (0, u "Z"), (13, u "HI_BYTE_SHIFT"), (0, u "I"), (2, u "LO_BYTE_SHIFT"), (49, .methodref 12 116), (0, .nameAndType 117 118), (0, u "compress"), (0, u "([CI[BII)I"), (3, u "([CII)[B"), (138, u "coderFromArrayLen"), (0, u "([BI)B"), (106, .class_ 371), (1, u "java/lang/StringUTF16$LinesSpliterator"), (58, u "MAX_LENGTH"), (196, .class_ 628), (0, u "java/lang/StringUTF16$CodePointsSpliterator"), (0, .class_ 630), (0, u "java/lang/StringUTF16$CharsSpliterator")] 4

def k10m0 : Method := { name := "<init>", desc := "()V", sig := { parameters := [], returnType := none }, accessFlags := 0, code := none }
def k10c1 : Code := { maxStack := 2, maxLocals := 2, code := jdk_52_method_15_code, exceptionTable := #[], attributes := #[] }
def k10m1 : Method := { name := "coderFromArrayLen", desc := "([BI)B", sig := { parameters := [(.array .byte), .int], returnType := some .byte }, accessFlags := 8, code := some k10c1 }
def k10c2 : Code := { maxStack := 5, maxLocals := 6, code := jdk_52_method_16_code, exceptionTable := #[], attributes := #[] }
def k10m2 : Method := { name := "compress", desc := "([CII)[B", sig := { parameters := [(.array .char), .int, .int], returnType := some (.array .byte) }, accessFlags := 9, code := some k10c2 }
def k10c3 : Code := { maxStack := 3, maxLocals := 7, code := jdk_52_method_21_code, exceptionTable := #[], attributes := #[] }
def k10m3 : Method := { name := "compress", desc := "([CI[BII)I", sig := { parameters := [(.array .char), .int, (.array .byte), .int, .int], returnType := some .int }, accessFlags := 9, code := some k10c3 }
/-- java/lang/StringUTF16 -/
def k10 : Class := { plain "java/lang/StringUTF16" (some 0) with
  accessFlags := 48
  interfaces := #[]
  cf := some (fileOf pool10 12 #[.nestMembers #[627, 629, 369]] #[{ accessFlags := 0, nameIndex := 9, descriptorIndex := 10, attributes := #[] }, { accessFlags := 8, nameIndex := 261, descriptorIndex := 262, attributes := #[] }, { accessFlags := 9, nameIndex := 117, descriptorIndex := 122, attributes := #[] }, { accessFlags := 9, nameIndex := 117, descriptorIndex := 118, attributes := #[] }] 48 6 #[] #[{ accessFlags := 26, nameIndex := 61, descriptorIndex := 62, attributes := #[] }, { accessFlags := 26, nameIndex := 65, descriptorIndex := 62, attributes := #[] }, { accessFlags := 24, nameIndex := 430, descriptorIndex := 62, attributes := #[] }, { accessFlags := 4120, nameIndex := 46, descriptorIndex := 47, attributes := #[] }])
  fields := #[{ name := "HI_BYTE_SHIFT", type := .int, accessFlags := 26, slot := 0, constantValue := 0 }, { name := "LO_BYTE_SHIFT", type := .int, accessFlags := 26, slot := 1, constantValue := 0 }, { name := "MAX_LENGTH", type := .int, accessFlags := 24, slot := 2, constantValue := 0 }, { name := "$assertionsDisabled", type := .boolean, accessFlags := 4120, slot := 3, constantValue := 0 }]
  methods := #[k10m0, k10m1, k10m2, k10m3]
  instanceTypes := #[]
  staticTypes := #[.int, .int, .int, .boolean]
  resolved := Array.replicate 635 none
  statics := none }

def pool11 : Array CpInfo := pool [(4, .class_ 6), (1, u "java/lang/Object"), (0, u "<init>"), (0, u "()V"), (5, .class_ 16), (1, u "java/lang/StringLatin1"), (50, .class_ 69), (1, u "java/lang/CharacterDataLatin1"), (51, u "$assertionsDisabled"), (0, u "Z"), (30, .methodref 67 154), (0, .nameAndType 155 156), (0, u "equalsIgnoreCase"), (0, u "(BB)Z"), (64, .class_ 223), (1, u "java/lang/StringLatin1$LinesSpliterator"), (116, u "regionMatchesCI"), (0, u "([BI[BII)Z"), (48, .class_ 391), (0, u "java/lang/StringLatin1$CharsSpliterator")] 3

def k11m0 : Method := { name := "<init>", desc := "()V", sig := { parameters := [], returnType := none }, accessFlags := 0, code := none }
def k11c1 : Code := { maxStack := 2, maxLocals := 8, code := jdk_43_method_30_code, exceptionTable := #[], attributes := #[] }
def k11m1 : Method := { name := "regionMatchesCI", desc := "([BI[BII)Z", sig := { parameters := [(.array .byte), .int, (.array .byte), .int, .int], returnType := some .boolean }, accessFlags := 9, code := some k11c1 }
/-- java/lang/StringLatin1 -/
def k11 : Class := { plain "java/lang/StringLatin1" (some 0) with
  accessFlags := 48
  interfaces := #[]
  cf := some (fileOf pool11 14 #[.nestMembers #[390, 221]] #[{ accessFlags := 0, nameIndex := 7, descriptorIndex := 8, attributes := #[] }, { accessFlags := 9, nameIndex := 340, descriptorIndex := 341, attributes := #[] }] 48 4 #[] #[{ accessFlags := 4120, nameIndex := 121, descriptorIndex := 122, attributes := #[] }])
  fields := #[{ name := "$assertionsDisabled", type := .boolean, accessFlags := 4120, slot := 0, constantValue := 0 }]
  methods := #[k11m0, k11m1]
  instanceTypes := #[]
  staticTypes := #[.boolean]
  resolved := Array.replicate 395 none
  statics := none }

def pool12 : Array CpInfo := pool [(2, .class_ 4), (1, u "java/lang/Object"), (0, u "<init>"), (0, u "()V"), (1, .class_ 10), (1, u "java/lang/CharacterData")] 75

def k12m0 : Method := { name := "<init>", desc := "()V", sig := { parameters := [], returnType := none }, accessFlags := 0, code := none }
/-- java/lang/CharacterData -/
def k12 : Class := { plain "java/lang/CharacterData" (some 0) with
  accessFlags := 1056
  interfaces := #[]
  cf := some (fileOf pool12 8 #[] #[{ accessFlags := 0, nameIndex := 5, descriptorIndex := 6, attributes := #[] }] 1056 2 #[] #[])
  fields := #[]
  methods := #[k12m0]
  instanceTypes := #[]
  staticTypes := #[]
  resolved := Array.replicate 86 none
  statics := none }

def pool13 : Array CpInfo := pool [(2, .class_ 4), (1, u "java/lang/CharacterDataLatin1"), (0, u "A"), (0, u "[I"), (2, u "B"), (0, u "[C"), (16, u "DIGITS"), (0, u "[B"), (8, u "sharpsMap"), (1, .class_ 41), (1, u "java/lang/CharacterData"), (0, u "<init>"), (0, u "()V"), (3, u "instance"), (0, u "Ljava/lang/CharacterDataLatin1;"), (66, u "equalsIgnoreCase"), (0, u "(BB)Z")] 24

def k13c0 : Code := { maxStack := 3, maxLocals := 3, code := jdk_116_method_22_code, exceptionTable := #[], attributes := #[] }
def k13m0 : Method := { name := "equalsIgnoreCase", desc := "(BB)Z", sig := { parameters := [.byte, .byte], returnType := some .boolean }, accessFlags := 8, code := some k13c0 }
def k13m1 : Method := { name := "<init>", desc := "()V", sig := { parameters := [], returnType := none }, accessFlags := 2, code := none }
/-- java/lang/CharacterDataLatin1 -/
def k13 : Class := { plain "java/lang/CharacterDataLatin1" (some 12) with
  accessFlags := 32
  interfaces := #[]
  cf := some (fileOf pool13 2 #[] #[{ accessFlags := 8, nameIndex := 115, descriptorIndex := 116, attributes := #[] }, { accessFlags := 2, nameIndex := 42, descriptorIndex := 43, attributes := #[] }] 32 39 #[] #[{ accessFlags := 26, nameIndex := 27, descriptorIndex := 28, attributes := #[] }, { accessFlags := 8, nameIndex := 37, descriptorIndex := 10, attributes := #[] }, { accessFlags := 24, nameIndex := 47, descriptorIndex := 48, attributes := #[] }, { accessFlags := 24, nameIndex := 5, descriptorIndex := 6, attributes := #[] }, { accessFlags := 24, nameIndex := 9, descriptorIndex := 10, attributes := #[] }])
  fields := #[{ name := "DIGITS", type := (.array .byte), accessFlags := 26, slot := 0, constantValue := 0 }, { name := "sharpsMap", type := (.array .char), accessFlags := 8, slot := 1, constantValue := 0 }, { name := "instance", type := (.object "java/lang/CharacterDataLatin1"), accessFlags := 24, slot := 2, constantValue := 0 }, { name := "A", type := (.array .int), accessFlags := 24, slot := 3, constantValue := 0 }, { name := "B", type := (.array .char), accessFlags := 24, slot := 4, constantValue := 0 }]
  methods := #[k13m0, k13m1]
  instanceTypes := #[]
  staticTypes := #[(.array .byte), (.array .char), (.object "java/lang/CharacterDataLatin1"), (.array .int), (.array .char)]
  resolved := Array.replicate 141 none
  statics := none }

def pool14 : Array CpInfo := pool [(2, .class_ 4), (1, u "java/lang/Object"), (0, u "<init>"), (0, u "()V"), (17, .class_ 26), (1, u "jdk/internal/util/Preconditions"), (28, .class_ 56), (0, u "jdk/internal/util/Preconditions$4"), (57, .class_ 115), (0, u "jdk/internal/util/Preconditions$1"), (7, u "SIOOBE_FORMATTER"), (0, u "Ljava/util/function/BiFunction;"), (0, .class_ 126), (0, u "jdk/internal/util/Preconditions$2"), (3, u "AIOOBE_FORMATTER"), (0, .class_ 132), (0, u "jdk/internal/util/Preconditions$3"), (3, u "IOOBE_FORMATTER")] 57

def k14m0 : Method := { name := "<init>", desc := "()V", sig := { parameters := [], returnType := none }, accessFlags := 1, code := none }
/-- jdk/internal/util/Preconditions -/
def k14 : Class := { plain "jdk/internal/util/Preconditions" (some 0) with
  accessFlags := 33
  interfaces := #[]
  cf := some (fileOf pool14 24 #[.nestMembers #[55, 131, 125, 114]] #[{ accessFlags := 1, nameIndex := 5, descriptorIndex := 6, attributes := #[] }] 33 2 #[] #[{ accessFlags := 25, nameIndex := 123, descriptorIndex := 124, attributes := #[] }, { accessFlags := 25, nameIndex := 130, descriptorIndex := 124, attributes := #[] }, { accessFlags := 25, nameIndex := 136, descriptorIndex := 124, attributes := #[] }])
  fields := #[{ name := "SIOOBE_FORMATTER", type := (.object "java/util/function/BiFunction"), accessFlags := 25, slot := 0, constantValue := 0 }, { name := "AIOOBE_FORMATTER", type := (.object "java/util/function/BiFunction"), accessFlags := 25, slot := 1, constantValue := 0 }, { name := "IOOBE_FORMATTER", type := (.object "java/util/function/BiFunction"), accessFlags := 25, slot := 2, constantValue := 0 }]
  methods := #[k14m0]
  instanceTypes := #[]
  staticTypes := #[(.object "java/util/function/BiFunction"), (.object "java/util/function/BiFunction"), (.object "java/util/function/BiFunction")]
  resolved := Array.replicate 194 none
  statics := some 2 }

def pool15 : Array CpInfo := pool [(9, u "<init>"), (6, .class_ 18), (1, u "java/lang/Object"), (0, u "()V"), (1, .class_ 23), (1, u "jdk/internal/util/ArraysSupport"), (0, u "LOG2_ARRAY_LONG_INDEX_SCALE"), (0, u "I"), (2, u "U"), (0, u "Ljdk/internal/misc/Unsafe;"), (8, u "BIG_ENDIAN"), (0, u "Z"), (8, u "LOG2_BYTE_BIT_SIZE"), (4, u "LOG2_ARRAY_INT_INDEX_SCALE"), (54, u "JLA"), (0, u "Ljdk/internal/access/JavaLangAccess;"), (11, u "LOG2_ARRAY_BOOLEAN_INDEX_SCALE"), (9, u "LOG2_ARRAY_BYTE_INDEX_SCALE"), (5, u "LOG2_ARRAY_CHAR_INDEX_SCALE"), (5, u "LOG2_ARRAY_SHORT_INDEX_SCALE"), (18, u "LOG2_ARRAY_FLOAT_INDEX_SCALE"), (24, u "LOG2_ARRAY_DOUBLE_INDEX_SCALE"), (89, u "T_BOOLEAN"), (2, u "T_CHAR"), (1, u "T_FLOAT"), (1, u "T_DOUBLE"), (1, u "T_BYTE"), (1, u "T_SHORT"), (1, u "T_INT"), (1, u "T_LONG"), (1, u "SOFT_MAX_ARRAY_LENGTH")] 83

def k15m0 : Method := { name := "<init>", desc := "()V", sig := { parameters := [], returnType := none }, accessFlags := 2, code := none }
/-- jdk/internal/util/ArraysSupport -/
def k15 : Class := { plain "jdk/internal/util/ArraysSupport" (some 0) with
  accessFlags := 33
  interfaces := #[]
  cf := some (fileOf pool15 21 #[] #[{ accessFlags := 2, nameIndex := 9, descriptorIndex := 19, attributes := #[] }] 33 16 #[] #[{ accessFlags := 24, nameIndex := 28, descriptorIndex := 29, attributes := #[] }, { accessFlags := 26, nameIndex := 38, descriptorIndex := 39, attributes := #[] }, { accessFlags := 25, nameIndex := 121, descriptorIndex := 25, attributes := #[] }, { accessFlags := 25, nameIndex := 131, descriptorIndex := 25, attributes := #[] }, { accessFlags := 25, nameIndex := 137, descriptorIndex := 25, attributes := #[] }, { accessFlags := 25, nameIndex := 143, descriptorIndex := 25, attributes := #[] }, { accessFlags := 25, nameIndex := 53, descriptorIndex := 25, attributes := #[] }, { accessFlags := 25, nameIndex := 24, descriptorIndex := 25, attributes := #[] }, { accessFlags := 25, nameIndex := 162, descriptorIndex := 25, attributes := #[] }, { accessFlags := 25, nameIndex := 187, descriptorIndex := 25, attributes := #[] }, { accessFlags := 26, nameIndex := 48, descriptorIndex := 25, attributes := #[] }, { accessFlags := 25, nameIndex := 277, descriptorIndex := 25, attributes := #[] }, { accessFlags := 25, nameIndex := 280, descriptorIndex := 25, attributes := #[] }, { accessFlags := 25, nameIndex := 282, descriptorIndex := 25, attributes := #[] }, { accessFlags := 25, nameIndex := 284, descriptorIndex := 25, attributes := #[] }, { accessFlags := 25, nameIndex := 286, descriptorIndex := 25, attributes := #[] }, { accessFlags := 25, nameIndex := 288, descriptorIndex := 25, attributes := #[] }, { accessFlags := 25, nameIndex := 290, descriptorIndex := 25, attributes := #[] }, { accessFlags := 25, nameIndex := 292, descriptorIndex := 25, attributes := #[] }, { accessFlags := 26, nameIndex := 108, descriptorIndex := 109, attributes := #[] }, { accessFlags := 25, nameIndex := 294, descriptorIndex := 25, attributes := #[] }])
  fields := #[{ name := "U", type := (.object "jdk/internal/misc/Unsafe"), accessFlags := 24, slot := 0, constantValue := 0 }, { name := "BIG_ENDIAN", type := .boolean, accessFlags := 26, slot := 1, constantValue := 0 }, { name := "LOG2_ARRAY_BOOLEAN_INDEX_SCALE", type := .int, accessFlags := 25, slot := 2, constantValue := 0 }, { name := "LOG2_ARRAY_BYTE_INDEX_SCALE", type := .int, accessFlags := 25, slot := 3, constantValue := 0 }, { name := "LOG2_ARRAY_CHAR_INDEX_SCALE", type := .int, accessFlags := 25, slot := 4, constantValue := 0 }, { name := "LOG2_ARRAY_SHORT_INDEX_SCALE", type := .int, accessFlags := 25, slot := 5, constantValue := 0 }, { name := "LOG2_ARRAY_INT_INDEX_SCALE", type := .int, accessFlags := 25, slot := 6, constantValue := 0 }, { name := "LOG2_ARRAY_LONG_INDEX_SCALE", type := .int, accessFlags := 25, slot := 7, constantValue := 0 }, { name := "LOG2_ARRAY_FLOAT_INDEX_SCALE", type := .int, accessFlags := 25, slot := 8, constantValue := 0 }, { name := "LOG2_ARRAY_DOUBLE_INDEX_SCALE", type := .int, accessFlags := 25, slot := 9, constantValue := 0 }, { name := "LOG2_BYTE_BIT_SIZE", type := .int, accessFlags := 26, slot := 10, constantValue := 0 }, { name := "T_BOOLEAN", type := .int, accessFlags := 25, slot := 11, constantValue := 0 }, { name := "T_CHAR", type := .int, accessFlags := 25, slot := 12, constantValue := 0 }, { name := "T_FLOAT", type := .int, accessFlags := 25, slot := 13, constantValue := 0 }, { name := "T_DOUBLE", type := .int, accessFlags := 25, slot := 14, constantValue := 0 }, { name := "T_BYTE", type := .int, accessFlags := 25, slot := 15, constantValue := 0 }, { name := "T_SHORT", type := .int, accessFlags := 25, slot := 16, constantValue := 0 }, { name := "T_INT", type := .int, accessFlags := 25, slot := 17, constantValue := 0 }, { name := "T_LONG", type := .int, accessFlags := 25, slot := 18, constantValue := 0 }, { name := "JLA", type := (.object "jdk/internal/access/JavaLangAccess"), accessFlags := 26, slot := 19, constantValue := 0 }, { name := "SOFT_MAX_ARRAY_LENGTH", type := .int, accessFlags := 25, slot := 20, constantValue := 0 }]
  methods := #[k15m0]
  instanceTypes := #[]
  staticTypes := #[(.object "jdk/internal/misc/Unsafe"), .boolean, .int, .int, .int, .int, .int, .int, .int, .int, .int, .int, .int, .int, .int, .int, .int, .int, .int, (.object "jdk/internal/access/JavaLangAccess"), .int]
  resolved := Array.replicate 378 none
  statics := none }

def pool16 : Array CpInfo := pool [(1, u "java/lang/Cloneable"), (0, .class_ 1), (0, u "java/lang/Object"), (0, .class_ 3)] 3

/-- java/lang/Cloneable -/
def k16 : Class := { plain "java/lang/Cloneable" (some 0) with
  accessFlags := 1537
  interfaces := #[]
  cf := some (fileOf pool16 2 #[] #[] 1537 4 #[] #[])
  fields := #[]
  methods := #[]
  instanceTypes := #[]
  staticTypes := #[]
  resolved := Array.replicate 8 none
  statics := none }

/-- the primitive byte -/
def k17 : Class := { plain "byte" none with kind := .primitive 'B', accessFlags := 0x411 }
/-- [B -/
def k18 : Class := { plain "[B" (some 0) with kind := .array 17 .byte, interfaces := #[16, 3], accessFlags := 1041 }

/-- the primitive char -/
def k19 : Class := { plain "char" none with kind := .primitive 'C', accessFlags := 0x411 }
/-- [C -/
def k20 : Class := { plain "[C" (some 0) with kind := .array 19 .char, interfaces := #[16, 3], accessFlags := 1041 }

/-- the primitive int -/
def k21 : Class := { plain "int" none with kind := .primitive 'I', accessFlags := 0x411 }
/-- [I -/
def k22 : Class := { plain "[I" (some 0) with kind := .array 21 .int, interfaces := #[16, 3], accessFlags := 1041 }

def heap : Heap := #[{ cls := 6, slots := #[.ref 3, .ref 4, .null, .long 0], vm := .statics 6 },
  { cls := 9, slots := #[.long 0, .int 1, .null, .int 0, .null, .int 0, .int 0], vm := .statics 9 },
  { cls := 14, slots := #[.null, .null, .null], vm := .statics 14 },
  { cls := 6, slots := #[.int 1], vm := .none },
  { cls := 6, slots := #[.int 0], vm := .none }]
def classes : Array Class := #[k0, k1, k2, k3, k4, k5, k6, k7, k8, k9, k10, k11, k12, k13, k14, k15, k16, k17, k18, k19, k20, k21, k22]
def interned : List (Array UInt16 × Addr) := []
def slotsUsed : Nat := 16
def theMethod : MethodId := ⟨1, 1⟩
def args0 : Array Value := #[.int 5, .int 5, .int 5, .int 5, .int 5, .int 5]
def aboutOver (below : List Frame) : State where
  vm := { classes := classes, interned := interned.toArray }
  heap := heap
  slotsUsed := slotsUsed
  threads := #[{ frames := .invoking theMethod args0 :: below }]
def below0 : List Frame := [.native { method := ⟨0, 0⟩, args := #[] }]
def about1 : State := aboutOver below0
def p0 : Program := .bare "" "" ""
def e0 : Env := launch0.env 0 0 0
theorem w_frames : about1.frames = Frame.invoking theMethod args0 :: below0 := rfl
set_option maxRecDepth 65536 in
theorem w_args : argsFit about1.vm theMethod args0 = true := by decide +kernel
set_option maxRecDepth 65536 in
theorem w_heap : heapFits about1 = true := by decide +kernel
set_option maxRecDepth 65536 in
theorem w_runnable : about1.curStatus? = some .runnable := by decide +kernel
set_option maxRecDepth 65536 in
theorem w_alone : about1.alone = true := by decide +kernel
set_option maxRecDepth 65536 in
theorem w_named : about1.methodNamed? x = some theMethod := by decide +kernel
set_option maxRecDepth 65536 in
theorem w_hears : about1.hears theMethod below0 = true := by decide +kernel
set_option maxRecDepth 65536 in
theorem w_ripe : about1.ripe theMethod args0 below0 = true := by decide +kernel
theorem w_running : about1.status = .running := rfl
set_option maxRecDepth 65536 in
theorem w_room : about1.hasRoom e0.platform room_1 = true :=
  launch0.hasRoom_least _ room_1 (by decide +kernel) (by decide +kernel) (by decide +kernel) (by decide +kernel) (by decide +kernel) (by decide +kernel)
theorem allAtoms_all (ts : List Jvm.Cond) (a : Array Jvm.Value) (st : Jvm.State) : (allAtoms ts).before a st = ts.all (fun c => c.before a st) := by
  induction ts with
  | nil => rfl
  | cons c t ih =>
    show (Jvm.Cond.and c (allAtoms t)).before a st = _
    rw [Jvm.Cond.before_and, ih, List.all_cons]
def words1 : List Jvm.Cond := Jvm.Cond.code x code maxLocals ret :: tables_1
/-- a 'code' word, met by the world's own term for the bytes: nothing is compared byte by byte -/
theorem code_word {y : MethodName} {bytes : ByteArray} {mx : Nat} {rt : Option FieldType} {a : Array Value} {s : State} {m : MethodId} {meth : Method} {c : Code} (h1 : s.methodNamed? y = some m) (h2 : s.vm.method? m = some meth) (h3 : meth.code = some c) (h4 : c.code = bytes)
    (h5 : (c.maxLocals == mx && c.exceptionTable.isEmpty && decide (c.maxStack ≤ mostOperands) && decide (meth.sig.returnType = rt) && !meth.locks && decide (parseMethodDescriptor y.desc = some meth.sig)) = true) : (Jvm.Cond.code y bytes mx rt).before a s = true := by
  simp only [Bool.and_eq_true, beq_iff_eq, Bool.not_eq_true', decide_eq_true_eq] at h5
  obtain ⟨⟨⟨⟨⟨g1, g2⟩, g3⟩, g4⟩, g5⟩, g6⟩ := h5
  simp [Cond.before, Cond.holds, Cond.value, h1, h2, h3, h4, g1, g2, g3, g4, g5, g6]
def isCode : Jvm.Cond → Bool
  | .code _ _ _ _ => true
  | _ => false
theorem all_split {L : List Jvm.Cond} {P : Jvm.Cond → Bool} (h1 : L.all (fun c => isCode c || P c) = true) (h2 : ∀ c ∈ L.filter isCode, P c = true) : L.all P = true := by
  refine List.all_eq_true.mpr fun c hc => ?_
  have h := List.all_eq_true.mp h1 c hc
  rcases Bool.eq_false_or_eq_true (isCode c) with hi | hi
  · exact h2 c (List.mem_filter.mpr ⟨hc, hi⟩)
  · simpa [hi] using h
set_option maxRecDepth 65536 in
theorem w_c0 : (Jvm.Cond.code x code maxLocals ret).before args0 about1 = true := code_word (m := ⟨1, 1⟩) (meth := k1m1) (c := k1c1) (by decide +kernel) rfl rfl rfl (by decide +kernel)
set_option maxRecDepth 65536 in
theorem w_c1 : (Jvm.Cond.code ({ cls := "com/example/wary_validator/waryvalidator/messageinterpolation/ExpressionOperators", name := "toBoolean", desc := "(Ljava/lang/Object;)Z" } : Jvm.MethodName) prog_17_method_5_code (4 : Nat) (Option.some Jvm.ClassFile.FieldType.boolean)).before args0 about1 = true := code_word (m := ⟨2, 1⟩) (meth := k2m1) (c := k2c1) (by decide +kernel) rfl rfl rfl (by decide +kernel)
set_option maxRecDepth 65536 in
theorem w_c2 : (Jvm.Cond.code ({ cls := "java/lang/Boolean", name := "valueOf", desc := "(Z)Ljava/lang/Boolean;" } : Jvm.MethodName) jdk_2055_method_5_code (1 : Nat) (Option.some (Jvm.ClassFile.FieldType.object "java/lang/Boolean"))).before args0 about1 = true := code_word (m := ⟨6, 2⟩) (meth := k6m2) (c := k6c2) (by decide +kernel) rfl rfl rfl (by decide +kernel)
set_option maxRecDepth 65536 in
theorem w_c3 : (Jvm.Cond.code ({ cls := "java/lang/Boolean", name := "booleanValue", desc := "()Z" } : Jvm.MethodName) jdk_2055_method_4_code (1 : Nat) (Option.some Jvm.ClassFile.FieldType.boolean)).before args0 about1 = true := code_word (m := ⟨6, 1⟩) (meth := k6m1) (c := k6c1) (by decide +kernel) rfl rfl rfl (by decide +kernel)
set_option maxRecDepth 65536 in
theorem w_c4 : (Jvm.Cond.code ({ cls := "com/example/wary_validator/waryvalidator/messageinterpolation/ExpressionOperatorsToBooleanPinLaw", name := "pick", desc := "(IIIC)C" } : Jvm.MethodName) method_3_code (5 : Nat) (Option.some Jvm.ClassFile.FieldType.char)).before args0 about1 = true := code_word (m := ⟨1, 2⟩) (meth := k1m2) (c := k1c2) (by decide +kernel) rfl rfl rfl (by decide +kernel)
set_option maxRecDepth 65536 in
theorem w_c5 : (Jvm.Cond.code ({ cls := "com/example/wary_validator/waryvalidator/messageinterpolation/ExpressionOperatorsToBooleanPinLaw", name := "make", desc := "(ICCCCC)[C" } : Jvm.MethodName) method_5_code (6 : Nat) (Option.some (Jvm.ClassFile.FieldType.array Jvm.ClassFile.FieldType.char))).before args0 about1 = true := code_word (m := ⟨1, 4⟩) (meth := k1m4) (c := k1c4) (by decide +kernel) rfl rfl rfl (by decide +kernel)
set_option maxRecDepth 65536 in
theorem w_c6 : (Jvm.Cond.code ({ cls := "java/lang/String", name := "<init>", desc := "([C)V" } : Jvm.MethodName) jdk_42_method_3_code (2 : Nat) (Option.none : Option Jvm.ClassFile.FieldType)).before args0 about1 = true := code_word (m := ⟨9, 1⟩) (meth := k9m1) (c := k9c1) (by decide +kernel) rfl rfl rfl (by decide +kernel)
set_option maxRecDepth 65536 in
theorem w_c7 : (Jvm.Cond.code ({ cls := "java/lang/String", name := "<init>", desc := "([CIILjava/lang/Void;)V" } : Jvm.MethodName) jdk_42_method_149_code (6 : Nat) (Option.none : Option Jvm.ClassFile.FieldType)).before args0 about1 = true := code_word (m := ⟨9, 5⟩) (meth := k9m5) (c := k9c5) (by decide +kernel) rfl rfl rfl (by decide +kernel)
set_option maxRecDepth 65536 in
theorem w_c8 : (Jvm.Cond.code ({ cls := "java/lang/Object", name := "<init>", desc := "()V" } : Jvm.MethodName) object_method_1_code (1 : Nat) (Option.none : Option Jvm.ClassFile.FieldType)).before args0 about1 = true := code_word (m := ⟨0, 0⟩) (meth := k0m0) (c := k0c0) (by decide +kernel) rfl rfl rfl (by decide +kernel)
set_option maxRecDepth 65536 in
theorem w_c9 : (Jvm.Cond.code ({ cls := "java/lang/StringUTF16", name := "compress", desc := "([CII)[B" } : Jvm.MethodName) jdk_52_method_16_code (6 : Nat) (Option.some (Jvm.ClassFile.FieldType.array Jvm.ClassFile.FieldType.byte))).before args0 about1 = true := code_word (m := ⟨10, 2⟩) (meth := k10m2) (c := k10c2) (by decide +kernel) rfl rfl rfl (by decide +kernel)
set_option maxRecDepth 65536 in
theorem w_c10 : (Jvm.Cond.code ({ cls := "java/lang/StringUTF16", name := "compress", desc := "([CI[BII)I" } : Jvm.MethodName) jdk_52_method_21_code (7 : Nat) (Option.some Jvm.ClassFile.FieldType.int)).before args0 about1 = true := code_word (m := ⟨10, 3⟩) (meth := k10m3) (c := k10c3) (by decide +kernel) rfl rfl rfl (by decide +kernel)
set_option maxRecDepth 65536 in
theorem w_c11 : (Jvm.Cond.code ({ cls := "java/lang/StringUTF16", name := "coderFromArrayLen", desc := "([BI)B" } : Jvm.MethodName) jdk_52_method_15_code (2 : Nat) (Option.some Jvm.ClassFile.FieldType.byte)).before args0 about1 = true := code_word (m := ⟨10, 1⟩) (meth := k10m1) (c := k10c1) (by decide +kernel) rfl rfl rfl (by decide +kernel)
set_option maxRecDepth 65536 in
theorem w_c12 : (Jvm.Cond.code ({ cls := "java/lang/Boolean", name := "parseBoolean", desc := "(Ljava/lang/String;)Z" } : Jvm.MethodName) jdk_2055_method_3_code (1 : Nat) (Option.some Jvm.ClassFile.FieldType.boolean)).before args0 about1 = true := code_word (m := ⟨6, 0⟩) (meth := k6m0) (c := k6c0) (by decide +kernel) rfl rfl rfl (by decide +kernel)
set_option maxRecDepth 65536 in
theorem w_c13 : (Jvm.Cond.code ({ cls := "java/lang/String", name := "equalsIgnoreCase", desc := "(Ljava/lang/String;)Z" } : Jvm.MethodName) jdk_42_method_70_code (2 : Nat) (Option.some Jvm.ClassFile.FieldType.boolean)).before args0 about1 = true := code_word (m := ⟨9, 3⟩) (meth := k9m3) (c := k9c3) (by decide +kernel) rfl rfl rfl (by decide +kernel)
set_option maxRecDepth 65536 in
theorem w_c14 : (Jvm.Cond.code ({ cls := "java/lang/String", name := "length", desc := "()I" } : Jvm.MethodName) jdk_42_method_54_code (1 : Nat) (Option.some Jvm.ClassFile.FieldType.int)).before args0 about1 = true := code_word (m := ⟨9, 2⟩) (meth := k9m2) (c := k9c2) (by decide +kernel) rfl rfl rfl (by decide +kernel)
set_option maxRecDepth 65536 in
theorem w_c15 : (Jvm.Cond.code ({ cls := "java/lang/String", name := "coder", desc := "()B" } : Jvm.MethodName) jdk_42_method_152_code (1 : Nat) (Option.some Jvm.ClassFile.FieldType.byte)).before args0 about1 = true := code_word (m := ⟨9, 6⟩) (meth := k9m6) (c := k9c6) (by decide +kernel) rfl rfl rfl (by decide +kernel)
set_option maxRecDepth 65536 in
theorem w_c16 : (Jvm.Cond.code ({ cls := "com/example/wary_validator/waryvalidator/messageinterpolation/ExpressionOperatorsToBooleanPinLaw", name := "same", desc := "(CC)Z" } : Jvm.MethodName) method_4_code (2 : Nat) (Option.some Jvm.ClassFile.FieldType.boolean)).before args0 about1 = true := code_word (m := ⟨1, 3⟩) (meth := k1m3) (c := k1c3) (by decide +kernel) rfl rfl rfl (by decide +kernel)
set_option maxRecDepth 65536 in
theorem w_c17 : (Jvm.Cond.code ({ cls := "java/lang/String", name := "regionMatches", desc := "(ZILjava/lang/String;II)Z" } : Jvm.MethodName) jdk_42_method_74_code (9 : Nat) (Option.some Jvm.ClassFile.FieldType.boolean)).before args0 about1 = true := code_word (m := ⟨9, 4⟩) (meth := k9m4) (c := k9c4) (by decide +kernel) rfl rfl rfl (by decide +kernel)
set_option maxRecDepth 65536 in
theorem w_c18 : (Jvm.Cond.code ({ cls := "java/lang/StringLatin1", name := "regionMatchesCI", desc := "([BI[BII)Z" } : Jvm.MethodName) jdk_43_method_30_code (8 : Nat) (Option.some Jvm.ClassFile.FieldType.boolean)).before args0 about1 = true := code_word (m := ⟨11, 1⟩) (meth := k11m1) (c := k11c1) (by decide +kernel) rfl rfl rfl (by decide +kernel)
set_option maxRecDepth 65536 in
theorem w_c19 : (Jvm.Cond.code ({ cls := "java/lang/CharacterDataLatin1", name := "equalsIgnoreCase", desc := "(BB)Z" } : Jvm.MethodName) jdk_116_method_22_code (3 : Nat) (Option.some Jvm.ClassFile.FieldType.boolean)).before args0 about1 = true := code_word (m := ⟨13, 0⟩) (meth := k13m0) (c := k13c0) (by decide +kernel) rfl rfl rfl (by decide +kernel)
def codes1 : List Jvm.Cond := [Jvm.Cond.code x code maxLocals ret, Jvm.Cond.code ({ cls := "com/example/wary_validator/waryvalidator/messageinterpolation/ExpressionOperators", name := "toBoolean", desc := "(Ljava/lang/Object;)Z" } : Jvm.MethodName) prog_17_method_5_code (4 : Nat) (Option.some Jvm.ClassFile.FieldType.boolean), Jvm.Cond.code ({ cls := "java/lang/Boolean", name := "valueOf", desc := "(Z)Ljava/lang/Boolean;" } : Jvm.MethodName) jdk_2055_method_5_code (1 : Nat) (Option.some (Jvm.ClassFile.FieldType.object "java/lang/Boolean")), Jvm.Cond.code ({ cls := "java/lang/Boolean", name := "booleanValue", desc := "()Z" } : Jvm.MethodName) jdk_2055_method_4_code (1 : Nat) (Option.some Jvm.ClassFile.FieldType.boolean), Jvm.Cond.code ({ cls := "com/example/wary_validator/waryvalidator/messageinterpolation/ExpressionOperatorsToBooleanPinLaw", name := "pick", desc := "(IIIC)C" } : Jvm.MethodName) method_3_code (5 : Nat) (Option.some Jvm.ClassFile.FieldType.char), Jvm.Cond.code ({ cls := "com/example/wary_validator/waryvalidator/messageinterpolation/ExpressionOperatorsToBooleanPinLaw", name := "make", desc := "(ICCCCC)[C" } : Jvm.MethodName) method_5_code (6 : Nat) (Option.some (Jvm.ClassFile.FieldType.array Jvm.ClassFile.FieldType.char)), Jvm.Cond.code ({ cls := "java/lang/String", name := "<init>", desc := "([C)V" } : Jvm.MethodName) jdk_42_method_3_code (2 : Nat) (Option.none : Option Jvm.ClassFile.FieldType), Jvm.Cond.code ({ cls := "java/lang/String", name := "<init>", desc := "([CIILjava/lang/Void;)V" } : Jvm.MethodName) jdk_42_method_149_code (6 : Nat) (Option.none : Option Jvm.ClassFile.FieldType), Jvm.Cond.code ({ cls := "java/lang/Object", name := "<init>", desc := "()V" } : Jvm.MethodName) object_method_1_code (1 : Nat) (Option.none : Option Jvm.ClassFile.FieldType), Jvm.Cond.code ({ cls := "java/lang/StringUTF16", name := "compress", desc := "([CII)[B" } : Jvm.MethodName) jdk_52_method_16_code (6 : Nat) (Option.some (Jvm.ClassFile.FieldType.array Jvm.ClassFile.FieldType.byte)), Jvm.Cond.code ({ cls := "java/lang/StringUTF16", name := "compress", desc := "([CI[BII)I" } : Jvm.MethodName) jdk_52_method_21_code (7 : Nat) (Option.some Jvm.ClassFile.FieldType.int), Jvm.Cond.code ({ cls := "java/lang/StringUTF16", name := "coderFromArrayLen", desc := "([BI)B" } : Jvm.MethodName) jdk_52_method_15_code (2 : Nat) (Option.some Jvm.ClassFile.FieldType.byte), Jvm.Cond.code ({ cls := "java/lang/Boolean", name := "parseBoolean", desc := "(Ljava/lang/String;)Z" } : Jvm.MethodName) jdk_2055_method_3_code (1 : Nat) (Option.some Jvm.ClassFile.FieldType.boolean), Jvm.Cond.code ({ cls := "java/lang/String", name := "equalsIgnoreCase", desc := "(Ljava/lang/String;)Z" } : Jvm.MethodName) jdk_42_method_70_code (2 : Nat) (Option.some Jvm.ClassFile.FieldType.boolean), Jvm.Cond.code ({ cls := "java/lang/String", name := "length", desc := "()I" } : Jvm.MethodName) jdk_42_method_54_code (1 : Nat) (Option.some Jvm.ClassFile.FieldType.int), Jvm.Cond.code ({ cls := "java/lang/String", name := "coder", desc := "()B" } : Jvm.MethodName) jdk_42_method_152_code (1 : Nat) (Option.some Jvm.ClassFile.FieldType.byte), Jvm.Cond.code ({ cls := "com/example/wary_validator/waryvalidator/messageinterpolation/ExpressionOperatorsToBooleanPinLaw", name := "same", desc := "(CC)Z" } : Jvm.MethodName) method_4_code (2 : Nat) (Option.some Jvm.ClassFile.FieldType.boolean), Jvm.Cond.code ({ cls := "java/lang/String", name := "regionMatches", desc := "(ZILjava/lang/String;II)Z" } : Jvm.MethodName) jdk_42_method_74_code (9 : Nat) (Option.some Jvm.ClassFile.FieldType.boolean), Jvm.Cond.code ({ cls := "java/lang/StringLatin1", name := "regionMatchesCI", desc := "([BI[BII)Z" } : Jvm.MethodName) jdk_43_method_30_code (8 : Nat) (Option.some Jvm.ClassFile.FieldType.boolean), Jvm.Cond.code ({ cls := "java/lang/CharacterDataLatin1", name := "equalsIgnoreCase", desc := "(BB)Z" } : Jvm.MethodName) jdk_116_method_22_code (3 : Nat) (Option.some Jvm.ClassFile.FieldType.boolean)]
set_option maxRecDepth 65536 in
theorem codes_eq : words1.filter isCode = codes1 := rfl
theorem w_codes : ∀ c ∈ words1.filter isCode, c.before args0 about1 = true := by
  rw [codes_eq]
  intro c hc
  simp only [codes1, List.mem_cons, List.not_mem_nil, or_false] at hc
  rcases hc with rfl | rfl | rfl | rfl | rfl | rfl | rfl | rfl | rfl | rfl | rfl | rfl | rfl | rfl | rfl | rfl | rfl | rfl | rfl | rfl
  · exact w_c0
  · exact w_c1
  · exact w_c2
  · exact w_c3
  · exact w_c4
  · exact w_c5
  · exact w_c6
  · exact w_c7
  · exact w_c8
  · exact w_c9
  · exact w_c10
  · exact w_c11
  · exact w_c12
  · exact w_c13
  · exact w_c14
  · exact w_c15
  · exact w_c16
  · exact w_c17
  · exact w_c18
  · exact w_c19
set_option maxRecDepth 65536 in
theorem w_t1 : (words1.take 24).all (fun c => isCode c || c.before args0 about1) = true := by decide +kernel
set_option maxRecDepth 65536 in
theorem w_t2 : ((words1.drop 24).take 24).all (fun c => isCode c || c.before args0 about1) = true := by decide +kernel
set_option maxRecDepth 65536 in
theorem w_t3 : (((words1.drop 24).drop 24).take 24).all (fun c => isCode c || c.before args0 about1) = true := by decide +kernel
set_option maxRecDepth 65536 in
theorem w_t4 : ((((words1.drop 24).drop 24).drop 24).take 24).all (fun c => isCode c || c.before args0 about1) = true := by decide +kernel
set_option maxRecDepth 65536 in
theorem w_t5 : ((((words1.drop 24).drop 24).drop 24).drop 24).all (fun c => isCode c || c.before args0 about1) = true := by decide +kernel
theorem w_tables : (allAtoms (Jvm.Cond.code x code maxLocals ret :: tables_1)).before args0 about1 = true := by
  rw [allAtoms_all]
  show words1.all (fun c => c.before args0 about1) = true
  refine all_split ?_ w_codes
  rw [← List.take_append_drop 24 words1, List.all_append, w_t1, ← List.take_append_drop 24 (words1.drop 24), List.all_append, w_t2, ← List.take_append_drop 24 ((words1.drop 24).drop 24), List.all_append, w_t3, ← List.take_append_drop 24 (((words1.drop 24).drop 24).drop 24), List.all_append, w_t4, w_t5]
  rfl
set_option maxRecDepth 65536 in
theorem w_rest : rest_1_c.before args0 about1 = true := by decide +kernel
set_option maxRecDepth 65536 in
theorem w_case : (Jvm.Cond.and given_1 narrow_1).before args0 about1 = true := by decide +kernel
set_option maxRecDepth 65536 in
theorem w_consts : constsHeld consts_1 about1 := Jvm.Lit.constsHeldB_iff.mp (by decide +kernel)
theorem w_applies : (headSpec (Jvm.Cond.code x code maxLocals ret :: tables_1) room_1).applies x e0.platform about1 = true :=
  (Spec.applies_iff w_frames).mpr ⟨w_running, w_runnable, w_alone, w_named, w_hears, w_ripe, w_room, w_tables⟩
theorem atStart : AtStart classFile x code maxLocals ret World_1 tables_1 room_1 Calls_1 rest_1 Pre_1 launch0 p0 e0 about1 theMethod args0 below0 :=
  ⟨lists_1, trivial, launch0.admits_env _ _ _, launch0.least_env, fairChoices_fair.cas, fairChoices_fair.clock, w_frames, w_args, w_heap, w_applies, ⟨w_consts, trivial⟩, w_rest, w_case⟩
end start1
theorem witness_1 : WitnessClaimed_1 := ⟨start1.p0, start1.e0, start1.about1, start1.theMethod, start1.args0, start1.below0, start1.atStart⟩
end Jvm.Pilot.@@N@@
