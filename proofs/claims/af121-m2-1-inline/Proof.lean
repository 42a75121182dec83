import JvmDerived
import JvmDerived.Pilot.@@N@@Statement
import JvmDerived.Pilot.@@N@@Code
set_option linter.unusedVariables false
set_option linter.unusedSimpArgs false
namespace Jvm.Pilot.@@N@@
open Jvm Jvm.ClassFile Sem Op Lib Jvm.Free Jvm.Stand Jvm.LawKit Jvm.RoadKit Bundle Jvm.Pilot.@@N@@.Jvm.D
/-! ## A small program logic over 'Stand': oGo says that from here the method comes to its end and Q holds there. -/
def oDok (Z : State) (EL : List (String × Nat)) (vm : Vm) (h : Heap) (D : List Addr) : Prop := ∀ x ∈ D, Z.heap.size ≤ x ∧ x < h.size ∧ Safe Z EL vm h x
def oInv (l : Launch) (Z : State) (a0 : Array Value) (EL : List (String × Nat)) (wd : Prop) (p : Program) (e : Env) (s : State) (m : MethodId) (args : Array Value) (below : List Frame) (meth : Method) (c : Code) (R : Room) (own : String) (bytes : ByteArray) (mx : Nat) (rt : Option FieldType) (nm : String)
    (D : List Addr) (h : Heap) (k n : Nat) (T : State) (locs : List Loc) (vm0 : Vm) (k0 : Nat) : Prop :=
  (p.tables.exec = Jvm.exec ∧ c.code = bytes ∧ c.maxLocals = mx ∧ meth.sig.returnType = rt ∧ meth.locks = false ∧ meth.name = nm ∧ EW Z a0 EL) ∧
  T.heap = h ∧ Ext Z.heap h ∧ Fr Z.heap.size locs ∧ Stand p l e R (s.setVm vm0) m args below meth c T locs k n ∧ s.Since vm0 k0 ∧ k0 ≤ h.size ∧ Z.Warmed39 vm0 ∧ vm0.findClass own = some m.cls ∧ CHr Z EL s.vm s.heap vm0 h ∧ (wd ∨ s.WarmedH vm0) ∧ oDok Z EL vm0 h D
def oRes (Z : State) (EL : List (String × Nat)) (wd : Prop) (p : Program) (e : Env) (s : State) (below : List Frame) (R : Room) (Q : Option Value → Heap → Prop) (O : Option Value → Heap → Addr → Prop) (t : State) : Prop :=
  ∃ (V : State) (v : Option Value) (L : List Loc), Steps p.tables e below t V ∧ V.status = .running ∧ Ended V below (.returned v) ∧ (Q v V.heap ∧ ∀ x, O v V.heap x → Z.heap.size ≤ x ∧ x < V.heap.size ∧ Safe Z EL V.vm V.heap x) ∧ Fr Z.heap.size L ∧ Ext Z.heap V.heap ∧ CHr Z EL s.vm s.heap V.vm V.heap ∧ (wd ∨ s.WarmedH V.vm) ∧ ReturnedEndW s (.returned v) V L R.cells R.slots
def oGo (l : Launch) (Z : State) (a0 : Array Value) (EL : List (String × Nat)) (wd : Prop) (p : Program) (e : Env) (s : State) (m : MethodId) (args : Array Value) (below : List Frame) (meth : Method) (c : Code) (R : Room) (own : String) (bytes : ByteArray) (mx : Nat) (rt : Option FieldType) (nm : String)
    (Q : Option Value → Heap → Prop) (O : Option Value → Heap → Addr → Prop) (D : List Addr) (h : Heap) (k n : Nat) (pc : Nat) (Ls : Array Slot) (st : List Value) : Prop :=
  ∀ T locs vm0 k0, oInv l Z a0 EL wd p e s m args below meth c R own bytes mx rt nm D h k n T locs vm0 k0 → oRes Z EL wd p e s below R Q O (T.setTop (mkF m pc Ls st))
def oCtr (ws : List Jvm.Cond) (l : Launch) (Z : State) (a0 : Array Value) (EL : List (String × Nat)) (wd : Prop) (y : MethodName) (bytes : ByteArray) (mx : Nat) (rt : Option FieldType) (rm : Room) (as' : Array Value) (D : List Addr) (h : Heap) (Q : Option Value → Heap → Prop) (O : Option Value → Heap → Addr → Prop) : Prop :=
  MetFree l y (head1 (Cond.code y bytes mx rt :: ws) rm) (fun a U => a = as' ∧ Z.Warmed39 U.vm ∧ U.heap = h ∧ Ext Z.heap h ∧ CHv Z EL U.vm h ∧ oDok Z EL U.vm h D) (fun _ _ _ _ _ => True)
    (fun _ U o U' => ∃ v L, o = .returned v ∧ (Q v U'.heap ∧ ∀ x, O v U'.heap x → Z.heap.size ≤ x ∧ x < U'.heap.size ∧ Safe Z EL U'.vm U'.heap x) ∧ Fr Z.heap.size L ∧ Ext Z.heap U'.heap ∧ CHr Z EL U.vm U.heap U'.vm U'.heap ∧ (wd ∨ U.WarmedH U'.vm) ∧ ReturnedEndW U o U' L rm.cells rm.slots)
abbrev oRet : Option Value → Heap → Addr → Prop := fun v _ x => v = some (.ref x)
abbrev oNo : Option Value → Heap → Addr → Prop := fun _ _ _ => False
section Logic
variable {l : Launch} {Z : State} {a0 : Array Value} {EL : List (String × Nat)} {wd : Prop} {p : Program} {e : Env} {s : State} {m : MethodId} {args : Array Value} {below : List Frame} {meth : Method} {c : Code} {R : Room} {own : String} {bytes : ByteArray} {mx : Nat} {rt : Option FieldType} {nm : String}
  {Q : Option Value → Heap → Prop} {O : Option Value → Heap → Addr → Prop} {D : List Addr} {h : Heap} {k n : Nat} {pc pc' pc1 pc2 : Nat} {Ls Ls' : Array Slot} {st st' : List Value}
theorem oDok.ext {vm : Vm} {h' : Heap} (E : Ext h h') (H : CHv Z EL vm h) (q : oDok Z EL vm h D) : oDok Z EL vm h' D := fun x hx => ⟨(q x hx).1, Nat.lt_of_lt_of_le (q x hx).2.1 E.1, (q x hx).2.2.ext E H⟩
theorem oDok.wr {vm : Vm} {h' : Heap} {a : Addr} {sl : Nat} {v : Value} (W : Wr h h' a sl v) (S : Safe Z EL vm h a) (H : CHv Z EL vm h) (q : oDok Z EL vm h D) : oDok Z EL vm h' D := fun x hx => ⟨(q x hx).1, by rw [W.size]; exact (q x hx).2.1, Safe.wr W S H (q x hx).2.2⟩
theorem oDok.chr {vm vm1 : Vm} {h' : Heap} (A : CHr Z EL vm h vm1 h') (q : oDok Z EL vm h D) : oDok Z EL vm1 h' D := fun x hx => ⟨(q x hx).1, Nat.lt_of_lt_of_le (q x hx).2.1 A.2.1, A.safe (q x hx).2.1 (q x hx).2.2⟩
theorem oDok.sub {vm : Vm} {D' : List Addr} (q : oDok Z EL vm h D) (hs : ∀ x ∈ D', x ∈ D) : oDok Z EL vm h D' := fun x hx => q x (hs x hx)
theorem ext_refl (h : Heap) : Ext h h := ⟨Nat.le_refl _, fun _ _ q => q⟩
theorem ext_trans {h h' h2 : Heap} (A : Ext h h') (B : Ext h' h2) : Ext h h2 := ⟨Nat.le_trans A.1 B.1, fun a c q => B.2 a c (A.2 a c q)⟩
theorem ext_wr {h0 h h' : Heap} {a : Addr} {sl : Nat} {v : Value} (E : Ext h0 h) (W : Wr h h' a sl v) (q : h0.size ≤ a) : Ext h0 h' := by
  refine ⟨by rw [W.size]; exact E.1, fun b cb hb => ?_⟩
  obtain ⟨cb', h1, -, -, -, h5, -⟩ := wr_at W (E.2 b cb hb)
  rw [← h5 (fun e1 => by subst e1; exact absurd (Array.getElem?_eq_some_iff.mp hb).1 (Nat.not_lt.mpr q))]; exact h1
/-- entering -/
theorem oCtr.enter {ws : List Jvm.Cond} {y : MethodName} {rm : Room} {as' : Array Value} (pn : plainFor y = true) (hEW : EW Z a0 EL) (ef : ∀ m, entryFrame m as' mx = mkF m 0 Ls [])
    (g : ∀ (p : Program) (e : Env) (s : State) (m : MethodId) (below : List Frame) (meth : Method) (c : Code), oGo l Z a0 EL wd p e s m as' below meth c rm y.cls bytes mx rt y.name Q O D h 0 0 0 Ls []) : oCtr ws l Z a0 EL wd y bytes mx rt rm as' D h Q O := by
  refine MetFree.of_bodySF pn hisR ?_
  intro p e s m args below meth c s₁ Bd hml0 hP hK
  obtain ⟨rfl, hZ, hh, hE, hC, hD⟩ := hP
  have X0 : Stand p l e rm s m args below meth c s₁ [] 0 0 := Stand.of_body Bd
  have e0 : s₁.heap = h := by rw [← hh, Bd.state]; rfl
  have hown : s.vm.findClass y.cls = some m.cls := findClass_of_methodNamed Bd.named
  have hnm := (name_of_methodNamed Bd.named Bd.method).1
  obtain ⟨V, v, L, h1, h2, h3, h4, h5, h6, h7, h8, h9⟩ := g p e s m below meth c s₁ [] s.vm s.heap.size ⟨⟨Bd.exec, Bd.bytes, hml0, Bd.returns, Bd.notSynchronized, hnm, hEW⟩, e0, hE, Fr.nil _, X0, (State.WarmedH.refl s).since _, by rw [hh]; exact Nat.le_refl _, hZ, hown, by rw [hh]; exact CHr.refl hC, Or.inr (State.WarmedH.refl s), hD⟩
  exact ⟨V, .returned v, by rw [ef]; exact h1, h2, h3, v, L, rfl, h4, h5, h6, h7, h8, h9⟩
/-- steps that touch neither heap nor tables -/
theorem oGo.pure (H : ∀ T : State, At T m c below → c.code = bytes → p.tables.exec = Jvm.exec → ∀ t, Steps p.tables e below (T.setTop (mkF m pc' Ls' st')) t → Steps p.tables e below (T.setTop (mkF m pc Ls st)) t)
    (g : oGo l Z a0 EL wd p e s m args below meth c R own bytes mx rt nm Q O D h k n pc' Ls' st') : oGo l Z a0 EL wd p e s m args below meth c R own bytes mx rt nm Q O D h k n pc Ls st := by
  intro T locs vm0 k0 I
  obtain ⟨V, v, L, hs, r⟩ := g T locs vm0 k0 I
  obtain ⟨⟨hx, hb, -⟩, -, -, -, X, -⟩ := I
  exact ⟨V, v, L, H T X.here hb hx V hs, r⟩
def oSl (o : Slot) : Prop := o = .unset ∨ ∃ w : Value, o = .val w ∧ w.category = 1
theorem oGo.aload {i : Nat} {v : Value} (hd : decode bytes pc = .ok (.aload i, 2)) (hp : pc + 2 = pc') (hl : Ls[i]? = some (.val v)) (hv : v.isRef = true) (g : oGo l Z a0 EL wd p e s m args below meth c R own bytes mx rt nm Q O D h k n pc' Ls (v :: st)) : oGo l Z a0 EL wd p e s m args below meth c R own bytes mx rt nm Q O D h k n pc Ls (st) := by
  subst hp; exact oGo.pure (fun T hA hb hx t hr => XS.aload hA hx rfl (by rw [hb]; exact hd) hl hv hr) g
theorem oGo.aload_n {i : Fin 4} {v : Value} (hd : decode bytes pc = .ok (.aload_n i, 1)) (hp : pc + 1 = pc') (hl : Ls[i.val]? = some (.val v)) (hv : v.isRef = true) (g : oGo l Z a0 EL wd p e s m args below meth c R own bytes mx rt nm Q O D h k n pc' Ls (v :: st)) : oGo l Z a0 EL wd p e s m args below meth c R own bytes mx rt nm Q O D h k n pc Ls (st) := by
  subst hp; exact oGo.pure (fun T hA hb hx t hr => XS.aloadN hA hx rfl (by rw [hb]; exact hd) hl hv hr) g
theorem oGo.iload {i : Nat} {v : Int32} (hd : decode bytes pc = .ok (.iload i, 2)) (hp : pc + 2 = pc') (hl : Ls[i]? = some (.val (.int v))) (g : oGo l Z a0 EL wd p e s m args below meth c R own bytes mx rt nm Q O D h k n pc' Ls (.int v :: st)) : oGo l Z a0 EL wd p e s m args below meth c R own bytes mx rt nm Q O D h k n pc Ls (st) := by
  subst hp; exact oGo.pure (fun T hA hb hx t hr => XS.iload hA hx rfl (by rw [hb]; exact hd) hl hr) g
theorem oGo.iload_n {i : Fin 4} {v : Int32} (hd : decode bytes pc = .ok (.iload_n i, 1)) (hp : pc + 1 = pc') (hl : Ls[i.val]? = some (.val (.int v))) (g : oGo l Z a0 EL wd p e s m args below meth c R own bytes mx rt nm Q O D h k n pc' Ls (.int v :: st)) : oGo l Z a0 EL wd p e s m args below meth c R own bytes mx rt nm Q O D h k n pc Ls (st) := by
  subst hp; exact oGo.pure (fun T hA hb hx t hr => XS.iloadN hA hx rfl (by rw [hb]; exact hd) hl hr) g
theorem oGo.istore {i : Nat} {v : Int32} (hd : decode bytes pc = .ok (.istore i, 2)) (hp : pc + 2 = pc') (hl : storeLocals Ls i (.int v) = some Ls') (g : oGo l Z a0 EL wd p e s m args below meth c R own bytes mx rt nm Q O D h k n pc' Ls' (st)) : oGo l Z a0 EL wd p e s m args below meth c R own bytes mx rt nm Q O D h k n pc Ls (.int v :: st) := by
  subst hp; exact oGo.pure (fun T hA hb hx t hr => XS.istore hA hx rfl (by rw [hb]; exact hd) rfl hl hr) g
theorem oGo.istore_n {i : Fin 4} {v : Int32} (hd : decode bytes pc = .ok (.istore_n i, 1)) (hp : pc + 1 = pc') (hl : storeLocals Ls i.val (.int v) = some Ls') (g : oGo l Z a0 EL wd p e s m args below meth c R own bytes mx rt nm Q O D h k n pc' Ls' (st)) : oGo l Z a0 EL wd p e s m args below meth c R own bytes mx rt nm Q O D h k n pc Ls (.int v :: st) := by
  subst hp; exact oGo.pure (fun T hA hb hx t hr => XS.istoreN hA hx rfl (by rw [hb]; exact hd) rfl hl hr) g
theorem oGo.lload {i : Nat} {v : Int64} (hd : decode bytes pc = .ok (.lload i, 2)) (hp : pc + 2 = pc') (hl : Ls[i]? = some (.val (.long v))) (g : oGo l Z a0 EL wd p e s m args below meth c R own bytes mx rt nm Q O D h k n pc' Ls (.long v :: st)) : oGo l Z a0 EL wd p e s m args below meth c R own bytes mx rt nm Q O D h k n pc Ls (st) := by
  subst hp; exact oGo.pure (fun T hA hb hx t hr => XT.lload hA hx rfl (by rw [hb]; exact hd) hl hr) g
theorem oGo.lload_n {i : Fin 4} {v : Int64} (hd : decode bytes pc = .ok (.lload_n i, 1)) (hp : pc + 1 = pc') (hl : Ls[i.val]? = some (.val (.long v))) (g : oGo l Z a0 EL wd p e s m args below meth c R own bytes mx rt nm Q O D h k n pc' Ls (.long v :: st)) : oGo l Z a0 EL wd p e s m args below meth c R own bytes mx rt nm Q O D h k n pc Ls (st) := by
  subst hp; exact oGo.pure (fun T hA hb hx t hr => XT.lloadN hA hx rfl (by rw [hb]; exact hd) hl hr) g
theorem oGo.lstore {i : Nat} {v : Int64} (hd : decode bytes pc = .ok (.lstore i, 2)) (hp : pc + 2 = pc') (hl : storeLocals Ls i (.long v) = some Ls') (g : oGo l Z a0 EL wd p e s m args below meth c R own bytes mx rt nm Q O D h k n pc' Ls' (st)) : oGo l Z a0 EL wd p e s m args below meth c R own bytes mx rt nm Q O D h k n pc Ls (.long v :: st) := by
  subst hp; exact oGo.pure (fun T hA hb hx t hr => XT.lstore hA hx rfl (by rw [hb]; exact hd) rfl hl hr) g
theorem oGo.lstore_n {i : Fin 4} {v : Int64} (hd : decode bytes pc = .ok (.lstore_n i, 1)) (hp : pc + 1 = pc') (hl : storeLocals Ls i.val (.long v) = some Ls') (g : oGo l Z a0 EL wd p e s m args below meth c R own bytes mx rt nm Q O D h k n pc' Ls' (st)) : oGo l Z a0 EL wd p e s m args below meth c R own bytes mx rt nm Q O D h k n pc Ls (.long v :: st) := by
  subst hp; exact oGo.pure (fun T hA hb hx t hr => XT.lstoreN hA hx rfl (by rw [hb]; exact hd) rfl hl hr) g
theorem oGo.astore {i : Nat} {v : Value} (hd : decode bytes pc = .ok (.astore i, 2)) (hp : pc + 2 = pc') (hv : v.isRef = true) (hl : storeLocals Ls i v = some Ls') (g : oGo l Z a0 EL wd p e s m args below meth c R own bytes mx rt nm Q O D h k n pc' Ls' (st)) : oGo l Z a0 EL wd p e s m args below meth c R own bytes mx rt nm Q O D h k n pc Ls (v :: st) := by
  subst hp; exact oGo.pure (fun T hA hb hx t hr => XS.astore hA hx rfl (by rw [hb]; exact hd) rfl hv hl hr) g
theorem oGo.astore_n {i : Fin 4} {v : Value} (hd : decode bytes pc = .ok (.astore_n i, 1)) (hp : pc + 1 = pc') (hv : v.isRef = true) (hl : storeLocals Ls i.val v = some Ls') (g : oGo l Z a0 EL wd p e s m args below meth c R own bytes mx rt nm Q O D h k n pc' Ls' (st)) : oGo l Z a0 EL wd p e s m args below meth c R own bytes mx rt nm Q O D h k n pc Ls (v :: st) := by
  subst hp; exact oGo.pure (fun T hA hb hx t hr => XS.astoreN hA hx rfl (by rw [hb]; exact hd) rfl hv hl hr) g
theorem oGo.istoreS {i : Nat} {v : Int32} {o : Slot} (hd : decode bytes pc = .ok (.istore i, 2)) (hp : pc + 2 = pc') (ho : oSl o) (hold : Ls[i]? = some o) (hl : Ls.setIfInBounds i (.val (.int v)) = Ls') (g : oGo l Z a0 EL wd p e s m args below meth c R own bytes mx rt nm Q O D h k n pc' Ls' st) : oGo l Z a0 EL wd p e s m args below meth c R own bytes mx rt nm Q O D h k n pc Ls (.int v :: st) := by
  subst hp hl; exact oGo.pure (fun T hA hb hx t hr => XS.istore hA hx rfl (by rw [hb]; exact hd) rfl (XS.store1 hold ho rfl) hr) g
theorem oGo.istore_nS {i : Fin 4} {v : Int32} {o : Slot} (hd : decode bytes pc = .ok (.istore_n i, 1)) (hp : pc + 1 = pc') (ho : oSl o) (hold : Ls[i.val]? = some o) (hl : Ls.setIfInBounds i.val (.val (.int v)) = Ls') (g : oGo l Z a0 EL wd p e s m args below meth c R own bytes mx rt nm Q O D h k n pc' Ls' st) : oGo l Z a0 EL wd p e s m args below meth c R own bytes mx rt nm Q O D h k n pc Ls (.int v :: st) := by
  subst hp hl; exact oGo.pure (fun T hA hb hx t hr => XS.istoreN hA hx rfl (by rw [hb]; exact hd) rfl (XS.store1 hold ho rfl) hr) g
theorem oGo.astoreS {i : Nat} {v : Value} {o : Slot} (hd : decode bytes pc = .ok (.astore i, 2)) (hp : pc + 2 = pc') (hv : v.isRef = true) (hc : v.category = 1) (ho : oSl o) (hold : Ls[i]? = some o) (hl : Ls.setIfInBounds i (.val (v)) = Ls') (g : oGo l Z a0 EL wd p e s m args below meth c R own bytes mx rt nm Q O D h k n pc' Ls' st) : oGo l Z a0 EL wd p e s m args below meth c R own bytes mx rt nm Q O D h k n pc Ls (v :: st) := by
  subst hp hl; exact oGo.pure (fun T hA hb hx t hr => XS.astore hA hx rfl (by rw [hb]; exact hd) rfl hv (XS.store1 hold ho hc) hr) g
theorem oGo.astore_nS {i : Fin 4} {v : Value} {o : Slot} (hd : decode bytes pc = .ok (.astore_n i, 1)) (hp : pc + 1 = pc') (hv : v.isRef = true) (hc : v.category = 1) (ho : oSl o) (hold : Ls[i.val]? = some o) (hl : Ls.setIfInBounds i.val (.val (v)) = Ls') (g : oGo l Z a0 EL wd p e s m args below meth c R own bytes mx rt nm Q O D h k n pc' Ls' st) : oGo l Z a0 EL wd p e s m args below meth c R own bytes mx rt nm Q O D h k n pc Ls (v :: st) := by
  subst hp hl; exact oGo.pure (fun T hA hb hx t hr => XS.astoreN hA hx rfl (by rw [hb]; exact hd) rfl hv (XS.store1 hold ho hc) hr) g
theorem oGo.iconst {i : Int} {v : Int32} (hd : decode bytes pc = .ok (.iconst i, 1)) (hp : pc + 1 = pc') (hv : Int32.ofInt i = v) (g : oGo l Z a0 EL wd p e s m args below meth c R own bytes mx rt nm Q O D h k n pc' Ls (.int v :: st)) : oGo l Z a0 EL wd p e s m args below meth c R own bytes mx rt nm Q O D h k n pc Ls (st) := by
  subst hp; subst hv; exact oGo.pure (fun T hA hb hx t hr => XS.iconst hA hx rfl (by rw [hb]; exact hd)  hr) g
theorem oGo.bipush {i : Int} {v : Int32} (hd : decode bytes pc = .ok (.bipush i, 2)) (hp : pc + 2 = pc') (hv : (Int8.ofInt i).toInt32 = v) (g : oGo l Z a0 EL wd p e s m args below meth c R own bytes mx rt nm Q O D h k n pc' Ls (.int v :: st)) : oGo l Z a0 EL wd p e s m args below meth c R own bytes mx rt nm Q O D h k n pc Ls (st) := by
  subst hp; subst hv; exact oGo.pure (fun T hA hb hx t hr => XS.bipush hA hx rfl (by rw [hb]; exact hd)  hr) g
theorem oGo.sipush {i : Int} {v : Int32} (hd : decode bytes pc = .ok (.sipush i, 3)) (hp : pc + 3 = pc') (hv : (Int16.ofInt i).toInt32 = v) (g : oGo l Z a0 EL wd p e s m args below meth c R own bytes mx rt nm Q O D h k n pc' Ls (.int v :: st)) : oGo l Z a0 EL wd p e s m args below meth c R own bytes mx rt nm Q O D h k n pc Ls (st) := by
  subst hp; subst hv; exact oGo.pure (fun T hA hb hx t hr => XS.sipush hA hx rfl (by rw [hb]; exact hd)  hr) g
theorem oGo.lconst {i : Fin 2} {v : Int64} (hd : decode bytes pc = .ok (.lconst i, 1)) (hp : pc + 1 = pc') (hv : Int64.ofNat i = v) (g : oGo l Z a0 EL wd p e s m args below meth c R own bytes mx rt nm Q O D h k n pc' Ls (.long v :: st)) : oGo l Z a0 EL wd p e s m args below meth c R own bytes mx rt nm Q O D h k n pc Ls (st) := by
  subst hp; subst hv; exact oGo.pure (fun T hA hb hx t hr => XT.lconst hA hx rfl (by rw [hb]; exact hd)  hr) g
theorem oGo.aconst_null  (hd : decode bytes pc = .ok (.aconst_null, 1)) (hp : pc + 1 = pc') (g : oGo l Z a0 EL wd p e s m args below meth c R own bytes mx rt nm Q O D h k n pc' Ls (.null :: st)) : oGo l Z a0 EL wd p e s m args below meth c R own bytes mx rt nm Q O D h k n pc Ls (st) := by
  subst hp; exact oGo.pure (fun T hA hb hx t hr => XS.aconstNull hA hx rfl (by rw [hb]; exact hd)  hr) g
theorem oGo.iadd {x y : Int32} (hd : decode bytes pc = .ok (.iadd, 1)) (hp : pc + 1 = pc') (g : oGo l Z a0 EL wd p e s m args below meth c R own bytes mx rt nm Q O D h k n pc' Ls (.int (x + y) :: st)) : oGo l Z a0 EL wd p e s m args below meth c R own bytes mx rt nm Q O D h k n pc Ls (.int y :: .int x :: st) := by
  subst hp; exact oGo.pure (fun T hA hb hx t hr => XS.iadd hA hx rfl (by rw [hb]; exact hd) rfl hr) g
theorem oGo.ladd {x y : Int64} (hd : decode bytes pc = .ok (.ladd, 1)) (hp : pc + 1 = pc') (g : oGo l Z a0 EL wd p e s m args below meth c R own bytes mx rt nm Q O D h k n pc' Ls (.long (x + y) :: st)) : oGo l Z a0 EL wd p e s m args below meth c R own bytes mx rt nm Q O D h k n pc Ls (.long y :: .long x :: st) := by
  subst hp; exact oGo.pure (fun T hA hb hx t hr => XT.ladd hA hx rfl (by rw [hb]; exact hd) rfl hr) g
theorem oGo.isub {x y : Int32} (hd : decode bytes pc = .ok (.isub, 1)) (hp : pc + 1 = pc') (g : oGo l Z a0 EL wd p e s m args below meth c R own bytes mx rt nm Q O D h k n pc' Ls (.int (x - y) :: st)) : oGo l Z a0 EL wd p e s m args below meth c R own bytes mx rt nm Q O D h k n pc Ls (.int y :: .int x :: st) := by
  subst hp; exact oGo.pure (fun T hA hb hx t hr => XS.isub hA hx rfl (by rw [hb]; exact hd) rfl hr) g
theorem oGo.lsub {x y : Int64} (hd : decode bytes pc = .ok (.lsub, 1)) (hp : pc + 1 = pc') (g : oGo l Z a0 EL wd p e s m args below meth c R own bytes mx rt nm Q O D h k n pc' Ls (.long (x - y) :: st)) : oGo l Z a0 EL wd p e s m args below meth c R own bytes mx rt nm Q O D h k n pc Ls (.long y :: .long x :: st) := by
  subst hp; exact oGo.pure (fun T hA hb hx t hr => XT.lsub hA hx rfl (by rw [hb]; exact hd) rfl hr) g
theorem oGo.imul {x y : Int32} (hd : decode bytes pc = .ok (.imul, 1)) (hp : pc + 1 = pc') (g : oGo l Z a0 EL wd p e s m args below meth c R own bytes mx rt nm Q O D h k n pc' Ls (.int (x * y) :: st)) : oGo l Z a0 EL wd p e s m args below meth c R own bytes mx rt nm Q O D h k n pc Ls (.int y :: .int x :: st) := by
  subst hp; exact oGo.pure (fun T hA hb hx t hr => XS.imul hA hx rfl (by rw [hb]; exact hd) rfl hr) g
theorem oGo.lmul {x y : Int64} (hd : decode bytes pc = .ok (.lmul, 1)) (hp : pc + 1 = pc') (g : oGo l Z a0 EL wd p e s m args below meth c R own bytes mx rt nm Q O D h k n pc' Ls (.long (x * y) :: st)) : oGo l Z a0 EL wd p e s m args below meth c R own bytes mx rt nm Q O D h k n pc Ls (.long y :: .long x :: st) := by
  subst hp; exact oGo.pure (fun T hA hb hx t hr => XT.lmul hA hx rfl (by rw [hb]; exact hd) rfl hr) g
theorem oGo.iand {x y : Int32} (hd : decode bytes pc = .ok (.iand, 1)) (hp : pc + 1 = pc') (g : oGo l Z a0 EL wd p e s m args below meth c R own bytes mx rt nm Q O D h k n pc' Ls (.int (x &&& y) :: st)) : oGo l Z a0 EL wd p e s m args below meth c R own bytes mx rt nm Q O D h k n pc Ls (.int y :: .int x :: st) := by
  subst hp; exact oGo.pure (fun T hA hb hx t hr => XS.iand hA hx rfl (by rw [hb]; exact hd) rfl hr) g
theorem oGo.land {x y : Int64} (hd : decode bytes pc = .ok (.land, 1)) (hp : pc + 1 = pc') (g : oGo l Z a0 EL wd p e s m args below meth c R own bytes mx rt nm Q O D h k n pc' Ls (.long (x &&& y) :: st)) : oGo l Z a0 EL wd p e s m args below meth c R own bytes mx rt nm Q O D h k n pc Ls (.long y :: .long x :: st) := by
  subst hp; exact oGo.pure (fun T hA hb hx t hr => XT.land hA hx rfl (by rw [hb]; exact hd) rfl hr) g
theorem oGo.ior {x y : Int32} (hd : decode bytes pc = .ok (.ior, 1)) (hp : pc + 1 = pc') (g : oGo l Z a0 EL wd p e s m args below meth c R own bytes mx rt nm Q O D h k n pc' Ls (.int (x ||| y) :: st)) : oGo l Z a0 EL wd p e s m args below meth c R own bytes mx rt nm Q O D h k n pc Ls (.int y :: .int x :: st) := by
  subst hp; exact oGo.pure (fun T hA hb hx t hr => XT.ior hA hx rfl (by rw [hb]; exact hd) rfl hr) g
theorem oGo.lor {x y : Int64} (hd : decode bytes pc = .ok (.lor, 1)) (hp : pc + 1 = pc') (g : oGo l Z a0 EL wd p e s m args below meth c R own bytes mx rt nm Q O D h k n pc' Ls (.long (x ||| y) :: st)) : oGo l Z a0 EL wd p e s m args below meth c R own bytes mx rt nm Q O D h k n pc Ls (.long y :: .long x :: st) := by
  subst hp; exact oGo.pure (fun T hA hb hx t hr => XT.lor hA hx rfl (by rw [hb]; exact hd) rfl hr) g
theorem oGo.ixor {x y : Int32} (hd : decode bytes pc = .ok (.ixor, 1)) (hp : pc + 1 = pc') (g : oGo l Z a0 EL wd p e s m args below meth c R own bytes mx rt nm Q O D h k n pc' Ls (.int (x ^^^ y) :: st)) : oGo l Z a0 EL wd p e s m args below meth c R own bytes mx rt nm Q O D h k n pc Ls (.int y :: .int x :: st) := by
  subst hp; exact oGo.pure (fun T hA hb hx t hr => XT.ixor hA hx rfl (by rw [hb]; exact hd) rfl hr) g
theorem oGo.lxor {x y : Int64} (hd : decode bytes pc = .ok (.lxor, 1)) (hp : pc + 1 = pc') (g : oGo l Z a0 EL wd p e s m args below meth c R own bytes mx rt nm Q O D h k n pc' Ls (.long (x ^^^ y) :: st)) : oGo l Z a0 EL wd p e s m args below meth c R own bytes mx rt nm Q O D h k n pc Ls (.long y :: .long x :: st) := by
  subst hp; exact oGo.pure (fun T hA hb hx t hr => XT.lxor hA hx rfl (by rw [hb]; exact hd) rfl hr) g
theorem oGo.ishl {x y : Int32} (hd : decode bytes pc = .ok (.ishl, 1)) (hp : pc + 1 = pc') (g : oGo l Z a0 EL wd p e s m args below meth c R own bytes mx rt nm Q O D h k n pc' Ls (.int (x <<< (y &&& 31)) :: st)) : oGo l Z a0 EL wd p e s m args below meth c R own bytes mx rt nm Q O D h k n pc Ls (.int y :: .int x :: st) := by
  subst hp; exact oGo.pure (fun T hA hb hx t hr => XT.ishl hA hx rfl (by rw [hb]; exact hd) rfl hr) g
theorem oGo.ishr {x y : Int32} (hd : decode bytes pc = .ok (.ishr, 1)) (hp : pc + 1 = pc') (g : oGo l Z a0 EL wd p e s m args below meth c R own bytes mx rt nm Q O D h k n pc' Ls (.int (x >>> (y &&& 31)) :: st)) : oGo l Z a0 EL wd p e s m args below meth c R own bytes mx rt nm Q O D h k n pc Ls (.int y :: .int x :: st) := by
  subst hp; exact oGo.pure (fun T hA hb hx t hr => XT.ishr hA hx rfl (by rw [hb]; exact hd) rfl hr) g
theorem oGo.iushr {x y : Int32} (hd : decode bytes pc = .ok (.iushr, 1)) (hp : pc + 1 = pc') (g : oGo l Z a0 EL wd p e s m args below meth c R own bytes mx rt nm Q O D h k n pc' Ls (.int (XT.ushr x y) :: st)) : oGo l Z a0 EL wd p e s m args below meth c R own bytes mx rt nm Q O D h k n pc Ls (.int y :: .int x :: st) := by
  subst hp; exact oGo.pure (fun T hA hb hx t hr => XT.iushr hA hx rfl (by rw [hb]; exact hd) rfl hr) g
theorem oGo.idiv {x y : Int32} (hd : decode bytes pc = .ok (.idiv, 1)) (hp : pc + 1 = pc') (hy : y ≠ 0) (g : oGo l Z a0 EL wd p e s m args below meth c R own bytes mx rt nm Q O D h k n pc' Ls (.int (x / y) :: st)) : oGo l Z a0 EL wd p e s m args below meth c R own bytes mx rt nm Q O D h k n pc Ls (.int y :: .int x :: st) := by
  subst hp; exact oGo.pure (fun T hA hb hx t hr => XS.idiv hA hx rfl (by rw [hb]; exact hd) rfl hy hr) g
theorem oGo.ldiv {x y : Int64} (hd : decode bytes pc = .ok (.ldiv, 1)) (hp : pc + 1 = pc') (hy : y ≠ 0) (g : oGo l Z a0 EL wd p e s m args below meth c R own bytes mx rt nm Q O D h k n pc' Ls (.long (x / y) :: st)) : oGo l Z a0 EL wd p e s m args below meth c R own bytes mx rt nm Q O D h k n pc Ls (.long y :: .long x :: st) := by
  subst hp; exact oGo.pure (fun T hA hb hx t hr => XT.ldiv hA hx rfl (by rw [hb]; exact hd) rfl hy hr) g
theorem oGo.irem {x y : Int32} (hd : decode bytes pc = .ok (.irem, 1)) (hp : pc + 1 = pc') (hy : y ≠ 0) (g : oGo l Z a0 EL wd p e s m args below meth c R own bytes mx rt nm Q O D h k n pc' Ls (.int (x % y) :: st)) : oGo l Z a0 EL wd p e s m args below meth c R own bytes mx rt nm Q O D h k n pc Ls (.int y :: .int x :: st) := by
  subst hp; rw [← irem_eq_mod] at g; exact oGo.pure (fun T hA hb hx t hr => XS.irem hA hx rfl (by rw [hb]; exact hd) rfl hy hr) g
theorem oGo.lrem {x y : Int64} (hd : decode bytes pc = .ok (.lrem, 1)) (hp : pc + 1 = pc') (hy : y ≠ 0) (g : oGo l Z a0 EL wd p e s m args below meth c R own bytes mx rt nm Q O D h k n pc' Ls (.long (x - x / y * y) :: st)) : oGo l Z a0 EL wd p e s m args below meth c R own bytes mx rt nm Q O D h k n pc Ls (.long y :: .long x :: st) := by
  subst hp; exact oGo.pure (fun T hA hb hx t hr => XT.lrem hA hx rfl (by rw [hb]; exact hd) rfl hy hr) g
theorem oGo.ineg {x : Int32} (hd : decode bytes pc = .ok (.ineg, 1)) (hp : pc + 1 = pc') (g : oGo l Z a0 EL wd p e s m args below meth c R own bytes mx rt nm Q O D h k n pc' Ls (.int (-x) :: st)) : oGo l Z a0 EL wd p e s m args below meth c R own bytes mx rt nm Q O D h k n pc Ls (.int x :: st) := by
  subst hp; exact oGo.pure (fun T hA hb hx t hr => XS.ineg hA hx rfl (by rw [hb]; exact hd) rfl hr) g
theorem oGo.lneg {x : Int64} (hd : decode bytes pc = .ok (.lneg, 1)) (hp : pc + 1 = pc') (g : oGo l Z a0 EL wd p e s m args below meth c R own bytes mx rt nm Q O D h k n pc' Ls (.long (-x) :: st)) : oGo l Z a0 EL wd p e s m args below meth c R own bytes mx rt nm Q O D h k n pc Ls (.long x :: st) := by
  subst hp; exact oGo.pure (fun T hA hb hx t hr => XT.lneg hA hx rfl (by rw [hb]; exact hd) rfl hr) g
theorem oGo.i2l {x : Int32} (hd : decode bytes pc = .ok (.i2l, 1)) (hp : pc + 1 = pc') (g : oGo l Z a0 EL wd p e s m args below meth c R own bytes mx rt nm Q O D h k n pc' Ls (.long x.toInt64 :: st)) : oGo l Z a0 EL wd p e s m args below meth c R own bytes mx rt nm Q O D h k n pc Ls (.int x :: st) := by
  subst hp; exact oGo.pure (fun T hA hb hx t hr => XT.i2l hA hx rfl (by rw [hb]; exact hd) rfl hr) g
theorem oGo.l2i {x : Int64} (hd : decode bytes pc = .ok (.l2i, 1)) (hp : pc + 1 = pc') (g : oGo l Z a0 EL wd p e s m args below meth c R own bytes mx rt nm Q O D h k n pc' Ls (.int x.toInt32 :: st)) : oGo l Z a0 EL wd p e s m args below meth c R own bytes mx rt nm Q O D h k n pc Ls (.long x :: st) := by
  subst hp; exact oGo.pure (fun T hA hb hx t hr => XT.l2i hA hx rfl (by rw [hb]; exact hd) rfl hr) g
theorem oGo.i2b {x : Int32} (hd : decode bytes pc = .ok (.i2b, 1)) (hp : pc + 1 = pc') (g : oGo l Z a0 EL wd p e s m args below meth c R own bytes mx rt nm Q O D h k n pc' Ls (.int x.toInt8.toInt32 :: st)) : oGo l Z a0 EL wd p e s m args below meth c R own bytes mx rt nm Q O D h k n pc Ls (.int x :: st) := by
  subst hp; exact oGo.pure (fun T hA hb hx t hr => XT.i2b hA hx rfl (by rw [hb]; exact hd) rfl hr) g
theorem oGo.i2c {x : Int32} (hd : decode bytes pc = .ok (.i2c, 1)) (hp : pc + 1 = pc') (g : oGo l Z a0 EL wd p e s m args below meth c R own bytes mx rt nm Q O D h k n pc' Ls (.int x.toUInt32.toUInt16.toUInt32.toInt32 :: st)) : oGo l Z a0 EL wd p e s m args below meth c R own bytes mx rt nm Q O D h k n pc Ls (.int x :: st) := by
  subst hp; exact oGo.pure (fun T hA hb hx t hr => XT.i2c hA hx rfl (by rw [hb]; exact hd) rfl hr) g
theorem oGo.lcmp {x y : Int64} (hd : decode bytes pc = .ok (.lcmp, 1)) (hp : pc + 1 = pc') (g : oGo l Z a0 EL wd p e s m args below meth c R own bytes mx rt nm Q O D h k n pc' Ls (.int (XT.cmpL x y) :: st)) : oGo l Z a0 EL wd p e s m args below meth c R own bytes mx rt nm Q O D h k n pc Ls (.long y :: .long x :: st) := by
  subst hp; exact oGo.pure (fun T hA hb hx t hr => XT.lcmp hA hx rfl (by rw [hb]; exact hd) rfl hr) g
theorem oGo.iinc {i : Nat} {d : Int} {x y : Int32} (hd : decode bytes pc = .ok (.iinc i d, 3)) (hp : pc + 3 = pc') (hl : Ls[i]? = some (.val (.int x))) (hv : Int32.ofInt d = y) (hl' : storeLocals Ls i (.int (x + y)) = some Ls') (g : oGo l Z a0 EL wd p e s m args below meth c R own bytes mx rt nm Q O D h k n pc' Ls' (st)) : oGo l Z a0 EL wd p e s m args below meth c R own bytes mx rt nm Q O D h k n pc Ls (st) := by
  subst hp; exact oGo.pure (fun T hA hb hx t hr => XS.iinc hA hx rfl (by rw [hb]; exact hd) hl (by rw [hv]; exact hl') hr) g
theorem oGo.dup {v : Value} (hd : decode bytes pc = .ok (.dup, 1)) (hp : pc + 1 = pc') (hc : v.category = 1) (g : oGo l Z a0 EL wd p e s m args below meth c R own bytes mx rt nm Q O D h k n pc' Ls (v :: v :: st)) : oGo l Z a0 EL wd p e s m args below meth c R own bytes mx rt nm Q O D h k n pc Ls (v :: st) := by
  subst hp; exact oGo.pure (fun T hA hb hx t hr => XS.dup hA hx rfl (by rw [hb]; exact hd) rfl hc hr) g
theorem oGo.pop {v : Value} (hd : decode bytes pc = .ok (.pop, 1)) (hp : pc + 1 = pc') (hc : v.category = 1) (g : oGo l Z a0 EL wd p e s m args below meth c R own bytes mx rt nm Q O D h k n pc' Ls (st)) : oGo l Z a0 EL wd p e s m args below meth c R own bytes mx rt nm Q O D h k n pc Ls (v :: st) := by
  subst hp; exact oGo.pure (fun T hA hb hx t hr => XT.pop hA hx rfl (by rw [hb]; exact hd) rfl hc hr) g
theorem oGo.dup_x1 {v w : Value} (hd : decode bytes pc = .ok (.dup_x1, 1)) (hp : pc + 1 = pc') (hc : v.category = 1) (hc' : w.category = 1) (g : oGo l Z a0 EL wd p e s m args below meth c R own bytes mx rt nm Q O D h k n pc' Ls (v :: w :: v :: st)) : oGo l Z a0 EL wd p e s m args below meth c R own bytes mx rt nm Q O D h k n pc Ls (v :: w :: st) := by
  subst hp; exact oGo.pure (fun T hA hb hx t hr => XT.dupX1 hA hx rfl (by rw [hb]; exact hd) rfl hc hc' hr) g
theorem oGo.dup2 {v w : Value} (hd : decode bytes pc = .ok (.dup2, 1)) (hp : pc + 1 = pc') (hc : v.category = 1) (hc' : w.category = 1) (g : oGo l Z a0 EL wd p e s m args below meth c R own bytes mx rt nm Q O D h k n pc' Ls (v :: w :: v :: w :: st)) : oGo l Z a0 EL wd p e s m args below meth c R own bytes mx rt nm Q O D h k n pc Ls (v :: w :: st) := by
  subst hp; exact oGo.pure (fun T hA hb hx t hr => XT.dup2 hA hx rfl (by rw [hb]; exact hd) rfl hc hc' hr) g
theorem oGo.goto {o : Int} (hd : decode bytes pc = .ok (.goto o, 3)) (ho : (pc : Int) + o = (pc' : Int)) (g : oGo l Z a0 EL wd p e s m args below meth c R own bytes mx rt nm Q O D h k n pc' Ls st) : oGo l Z a0 EL wd p e s m args below meth c R own bytes mx rt nm Q O D h k n pc Ls st :=
  oGo.pure (fun T hA hb hx t hr => XS.goto hA hx rfl (pc0 := pc) (pc' := pc') rfl (by rw [hb]; exact hd) (by omega) (by omega) hr) g
theorem own_icmp_eq {x y : Int32} : if_icmp.holds .eq x y = true ↔ x = y := by simp [if_icmp.holds, Int32.not_lt]
theorem own_icmp_eqN {x y : Int32} : if_icmp.holds .eq x y = false ↔ ¬ x = y := by simp [if_icmp.holds, Int32.not_lt]
theorem oGo.icmp_eq {x y : Int32} {o : Int} (hd : decode bytes pc = .ok (.if_icmp .eq o, 3)) (hp : pc + 3 = pc1) (ho : (pc : Int) + o = (pc2 : Int)) (gy : x = y → oGo l Z a0 EL wd p e s m args below meth c R own bytes mx rt nm Q O D h k n pc2 Ls st) (gn : ¬ x = y → oGo l Z a0 EL wd p e s m args below meth c R own bytes mx rt nm Q O D h k n pc1 Ls st) : oGo l Z a0 EL wd p e s m args below meth c R own bytes mx rt nm Q O D h k n pc Ls (.int y :: .int x :: st) := by
  subst hp
  by_cases q : x = y
  · exact oGo.pure (fun T hA hb hx t hr => XS.icmpYes hA hx rfl (pc0 := pc) (pc' := pc2) rfl (by rw [hb]; exact hd) rfl (own_icmp_eq.2 q) (by omega) (by omega) hr) (gy q)
  · exact oGo.pure (fun T hA hb hx t hr => XS.icmpNo hA hx rfl (by rw [hb]; exact hd) rfl (own_icmp_eqN.2 q) hr) (gn q)
theorem own_icmp_ne {x y : Int32} : if_icmp.holds .ne x y = true ↔ ¬ x = y := by simp [if_icmp.holds, Int32.not_lt]
theorem own_icmp_neN {x y : Int32} : if_icmp.holds .ne x y = false ↔ x = y := by simp [if_icmp.holds, Int32.not_lt]
theorem oGo.icmp_ne {x y : Int32} {o : Int} (hd : decode bytes pc = .ok (.if_icmp .ne o, 3)) (hp : pc + 3 = pc1) (ho : (pc : Int) + o = (pc2 : Int)) (gy : ¬ x = y → oGo l Z a0 EL wd p e s m args below meth c R own bytes mx rt nm Q O D h k n pc2 Ls st) (gn : x = y → oGo l Z a0 EL wd p e s m args below meth c R own bytes mx rt nm Q O D h k n pc1 Ls st) : oGo l Z a0 EL wd p e s m args below meth c R own bytes mx rt nm Q O D h k n pc Ls (.int y :: .int x :: st) := by
  subst hp
  by_cases q : x = y
  · exact oGo.pure (fun T hA hb hx t hr => XS.icmpNo hA hx rfl (by rw [hb]; exact hd) rfl (own_icmp_neN.2 q) hr) (gn q)
  · exact oGo.pure (fun T hA hb hx t hr => XS.icmpYes hA hx rfl (pc0 := pc) (pc' := pc2) rfl (by rw [hb]; exact hd) rfl (own_icmp_ne.2 q) (by omega) (by omega) hr) (gy q)
theorem own_icmp_lt {x y : Int32} : if_icmp.holds .lt x y = true ↔ x < y := by simp [if_icmp.holds, Int32.not_lt]
theorem own_icmp_ltN {x y : Int32} : if_icmp.holds .lt x y = false ↔ ¬ x < y := by simp [if_icmp.holds, Int32.not_lt]
theorem oGo.icmp_lt {x y : Int32} {o : Int} (hd : decode bytes pc = .ok (.if_icmp .lt o, 3)) (hp : pc + 3 = pc1) (ho : (pc : Int) + o = (pc2 : Int)) (gy : x < y → oGo l Z a0 EL wd p e s m args below meth c R own bytes mx rt nm Q O D h k n pc2 Ls st) (gn : ¬ x < y → oGo l Z a0 EL wd p e s m args below meth c R own bytes mx rt nm Q O D h k n pc1 Ls st) : oGo l Z a0 EL wd p e s m args below meth c R own bytes mx rt nm Q O D h k n pc Ls (.int y :: .int x :: st) := by
  subst hp
  by_cases q : x < y
  · exact oGo.pure (fun T hA hb hx t hr => XS.icmpYes hA hx rfl (pc0 := pc) (pc' := pc2) rfl (by rw [hb]; exact hd) rfl (own_icmp_lt.2 q) (by omega) (by omega) hr) (gy q)
  · exact oGo.pure (fun T hA hb hx t hr => XS.icmpNo hA hx rfl (by rw [hb]; exact hd) rfl (own_icmp_ltN.2 q) hr) (gn q)
theorem own_icmp_ge {x y : Int32} : if_icmp.holds .ge x y = true ↔ ¬ x < y := by simp [if_icmp.holds, Int32.not_lt]
theorem own_icmp_geN {x y : Int32} : if_icmp.holds .ge x y = false ↔ x < y := by simp [if_icmp.holds, Int32.not_lt]
theorem oGo.icmp_ge {x y : Int32} {o : Int} (hd : decode bytes pc = .ok (.if_icmp .ge o, 3)) (hp : pc + 3 = pc1) (ho : (pc : Int) + o = (pc2 : Int)) (gy : ¬ x < y → oGo l Z a0 EL wd p e s m args below meth c R own bytes mx rt nm Q O D h k n pc2 Ls st) (gn : x < y → oGo l Z a0 EL wd p e s m args below meth c R own bytes mx rt nm Q O D h k n pc1 Ls st) : oGo l Z a0 EL wd p e s m args below meth c R own bytes mx rt nm Q O D h k n pc Ls (.int y :: .int x :: st) := by
  subst hp
  by_cases q : x < y
  · exact oGo.pure (fun T hA hb hx t hr => XS.icmpNo hA hx rfl (by rw [hb]; exact hd) rfl (own_icmp_geN.2 q) hr) (gn q)
  · exact oGo.pure (fun T hA hb hx t hr => XS.icmpYes hA hx rfl (pc0 := pc) (pc' := pc2) rfl (by rw [hb]; exact hd) rfl (own_icmp_ge.2 q) (by omega) (by omega) hr) (gy q)
theorem own_icmp_gt {x y : Int32} : if_icmp.holds .gt x y = true ↔ y < x := by simp [if_icmp.holds, Int32.not_lt]
theorem own_icmp_gtN {x y : Int32} : if_icmp.holds .gt x y = false ↔ ¬ y < x := by simp [if_icmp.holds, Int32.not_lt]
theorem oGo.icmp_gt {x y : Int32} {o : Int} (hd : decode bytes pc = .ok (.if_icmp .gt o, 3)) (hp : pc + 3 = pc1) (ho : (pc : Int) + o = (pc2 : Int)) (gy : y < x → oGo l Z a0 EL wd p e s m args below meth c R own bytes mx rt nm Q O D h k n pc2 Ls st) (gn : ¬ y < x → oGo l Z a0 EL wd p e s m args below meth c R own bytes mx rt nm Q O D h k n pc1 Ls st) : oGo l Z a0 EL wd p e s m args below meth c R own bytes mx rt nm Q O D h k n pc Ls (.int y :: .int x :: st) := by
  subst hp
  by_cases q : y < x
  · exact oGo.pure (fun T hA hb hx t hr => XS.icmpYes hA hx rfl (pc0 := pc) (pc' := pc2) rfl (by rw [hb]; exact hd) rfl (own_icmp_gt.2 q) (by omega) (by omega) hr) (gy q)
  · exact oGo.pure (fun T hA hb hx t hr => XS.icmpNo hA hx rfl (by rw [hb]; exact hd) rfl (own_icmp_gtN.2 q) hr) (gn q)
theorem own_icmp_le {x y : Int32} : if_icmp.holds .le x y = true ↔ ¬ y < x := by simp [if_icmp.holds, Int32.not_lt]
theorem own_icmp_leN {x y : Int32} : if_icmp.holds .le x y = false ↔ y < x := by simp [if_icmp.holds, Int32.not_lt]
theorem oGo.icmp_le {x y : Int32} {o : Int} (hd : decode bytes pc = .ok (.if_icmp .le o, 3)) (hp : pc + 3 = pc1) (ho : (pc : Int) + o = (pc2 : Int)) (gy : ¬ y < x → oGo l Z a0 EL wd p e s m args below meth c R own bytes mx rt nm Q O D h k n pc2 Ls st) (gn : y < x → oGo l Z a0 EL wd p e s m args below meth c R own bytes mx rt nm Q O D h k n pc1 Ls st) : oGo l Z a0 EL wd p e s m args below meth c R own bytes mx rt nm Q O D h k n pc Ls (.int y :: .int x :: st) := by
  subst hp
  by_cases q : y < x
  · exact oGo.pure (fun T hA hb hx t hr => XS.icmpNo hA hx rfl (by rw [hb]; exact hd) rfl (own_icmp_leN.2 q) hr) (gn q)
  · exact oGo.pure (fun T hA hb hx t hr => XS.icmpYes hA hx rfl (pc0 := pc) (pc' := pc2) rfl (by rw [hb]; exact hd) rfl (own_icmp_le.2 q) (by omega) (by omega) hr) (gy q)
theorem own_if_eq {x : Int32} : ifCond.holds .eq x = true ↔ x = 0 := by simp [ifCond.holds, Int32.not_lt]
theorem own_if_eqN {x : Int32} : ifCond.holds .eq x = false ↔ ¬ x = 0 := by simp [ifCond.holds, Int32.not_lt]
theorem oGo.if_eq {x : Int32} {o : Int} (hd : decode bytes pc = .ok (.ifCond .eq o, 3)) (hp : pc + 3 = pc1) (ho : (pc : Int) + o = (pc2 : Int)) (gy : x = 0 → oGo l Z a0 EL wd p e s m args below meth c R own bytes mx rt nm Q O D h k n pc2 Ls st) (gn : ¬ x = 0 → oGo l Z a0 EL wd p e s m args below meth c R own bytes mx rt nm Q O D h k n pc1 Ls st) : oGo l Z a0 EL wd p e s m args below meth c R own bytes mx rt nm Q O D h k n pc Ls (.int x :: st) := by
  subst hp
  by_cases q : x = 0
  · exact oGo.pure (fun T hA hb hx t hr => XS.ifYes hA hx rfl (pc0 := pc) (pc' := pc2) rfl (by rw [hb]; exact hd) rfl (own_if_eq.2 q) (by omega) (by omega) hr) (gy q)
  · exact oGo.pure (fun T hA hb hx t hr => XS.ifNo hA hx rfl (by rw [hb]; exact hd) rfl (own_if_eqN.2 q) hr) (gn q)
theorem own_if_ne {x : Int32} : ifCond.holds .ne x = true ↔ ¬ x = 0 := by simp [ifCond.holds, Int32.not_lt]
theorem own_if_neN {x : Int32} : ifCond.holds .ne x = false ↔ x = 0 := by simp [ifCond.holds, Int32.not_lt]
theorem oGo.if_ne {x : Int32} {o : Int} (hd : decode bytes pc = .ok (.ifCond .ne o, 3)) (hp : pc + 3 = pc1) (ho : (pc : Int) + o = (pc2 : Int)) (gy : ¬ x = 0 → oGo l Z a0 EL wd p e s m args below meth c R own bytes mx rt nm Q O D h k n pc2 Ls st) (gn : x = 0 → oGo l Z a0 EL wd p e s m args below meth c R own bytes mx rt nm Q O D h k n pc1 Ls st) : oGo l Z a0 EL wd p e s m args below meth c R own bytes mx rt nm Q O D h k n pc Ls (.int x :: st) := by
  subst hp
  by_cases q : x = 0
  · exact oGo.pure (fun T hA hb hx t hr => XS.ifNo hA hx rfl (by rw [hb]; exact hd) rfl (own_if_neN.2 q) hr) (gn q)
  · exact oGo.pure (fun T hA hb hx t hr => XS.ifYes hA hx rfl (pc0 := pc) (pc' := pc2) rfl (by rw [hb]; exact hd) rfl (own_if_ne.2 q) (by omega) (by omega) hr) (gy q)
theorem own_if_lt {x : Int32} : ifCond.holds .lt x = true ↔ x < 0 := by simp [ifCond.holds, Int32.not_lt]
theorem own_if_ltN {x : Int32} : ifCond.holds .lt x = false ↔ ¬ x < 0 := by simp [ifCond.holds, Int32.not_lt]
theorem oGo.if_lt {x : Int32} {o : Int} (hd : decode bytes pc = .ok (.ifCond .lt o, 3)) (hp : pc + 3 = pc1) (ho : (pc : Int) + o = (pc2 : Int)) (gy : x < 0 → oGo l Z a0 EL wd p e s m args below meth c R own bytes mx rt nm Q O D h k n pc2 Ls st) (gn : ¬ x < 0 → oGo l Z a0 EL wd p e s m args below meth c R own bytes mx rt nm Q O D h k n pc1 Ls st) : oGo l Z a0 EL wd p e s m args below meth c R own bytes mx rt nm Q O D h k n pc Ls (.int x :: st) := by
  subst hp
  by_cases q : x < 0
  · exact oGo.pure (fun T hA hb hx t hr => XS.ifYes hA hx rfl (pc0 := pc) (pc' := pc2) rfl (by rw [hb]; exact hd) rfl (own_if_lt.2 q) (by omega) (by omega) hr) (gy q)
  · exact oGo.pure (fun T hA hb hx t hr => XS.ifNo hA hx rfl (by rw [hb]; exact hd) rfl (own_if_ltN.2 q) hr) (gn q)
theorem own_if_ge {x : Int32} : ifCond.holds .ge x = true ↔ ¬ x < 0 := by simp [ifCond.holds, Int32.not_lt]
theorem own_if_geN {x : Int32} : ifCond.holds .ge x = false ↔ x < 0 := by simp [ifCond.holds, Int32.not_lt]
theorem oGo.if_ge {x : Int32} {o : Int} (hd : decode bytes pc = .ok (.ifCond .ge o, 3)) (hp : pc + 3 = pc1) (ho : (pc : Int) + o = (pc2 : Int)) (gy : ¬ x < 0 → oGo l Z a0 EL wd p e s m args below meth c R own bytes mx rt nm Q O D h k n pc2 Ls st) (gn : x < 0 → oGo l Z a0 EL wd p e s m args below meth c R own bytes mx rt nm Q O D h k n pc1 Ls st) : oGo l Z a0 EL wd p e s m args below meth c R own bytes mx rt nm Q O D h k n pc Ls (.int x :: st) := by
  subst hp
  by_cases q : x < 0
  · exact oGo.pure (fun T hA hb hx t hr => XS.ifNo hA hx rfl (by rw [hb]; exact hd) rfl (own_if_geN.2 q) hr) (gn q)
  · exact oGo.pure (fun T hA hb hx t hr => XS.ifYes hA hx rfl (pc0 := pc) (pc' := pc2) rfl (by rw [hb]; exact hd) rfl (own_if_ge.2 q) (by omega) (by omega) hr) (gy q)
theorem own_if_gt {x : Int32} : ifCond.holds .gt x = true ↔ 0 < x := by simp [ifCond.holds, Int32.not_lt]
theorem own_if_gtN {x : Int32} : ifCond.holds .gt x = false ↔ ¬ 0 < x := by simp [ifCond.holds, Int32.not_lt]
theorem oGo.if_gt {x : Int32} {o : Int} (hd : decode bytes pc = .ok (.ifCond .gt o, 3)) (hp : pc + 3 = pc1) (ho : (pc : Int) + o = (pc2 : Int)) (gy : 0 < x → oGo l Z a0 EL wd p e s m args below meth c R own bytes mx rt nm Q O D h k n pc2 Ls st) (gn : ¬ 0 < x → oGo l Z a0 EL wd p e s m args below meth c R own bytes mx rt nm Q O D h k n pc1 Ls st) : oGo l Z a0 EL wd p e s m args below meth c R own bytes mx rt nm Q O D h k n pc Ls (.int x :: st) := by
  subst hp
  by_cases q : 0 < x
  · exact oGo.pure (fun T hA hb hx t hr => XS.ifYes hA hx rfl (pc0 := pc) (pc' := pc2) rfl (by rw [hb]; exact hd) rfl (own_if_gt.2 q) (by omega) (by omega) hr) (gy q)
  · exact oGo.pure (fun T hA hb hx t hr => XS.ifNo hA hx rfl (by rw [hb]; exact hd) rfl (own_if_gtN.2 q) hr) (gn q)
theorem own_if_le {x : Int32} : ifCond.holds .le x = true ↔ ¬ 0 < x := by simp [ifCond.holds, Int32.not_lt]
theorem own_if_leN {x : Int32} : ifCond.holds .le x = false ↔ 0 < x := by simp [ifCond.holds, Int32.not_lt]
theorem oGo.if_le {x : Int32} {o : Int} (hd : decode bytes pc = .ok (.ifCond .le o, 3)) (hp : pc + 3 = pc1) (ho : (pc : Int) + o = (pc2 : Int)) (gy : ¬ 0 < x → oGo l Z a0 EL wd p e s m args below meth c R own bytes mx rt nm Q O D h k n pc2 Ls st) (gn : 0 < x → oGo l Z a0 EL wd p e s m args below meth c R own bytes mx rt nm Q O D h k n pc1 Ls st) : oGo l Z a0 EL wd p e s m args below meth c R own bytes mx rt nm Q O D h k n pc Ls (.int x :: st) := by
  subst hp
  by_cases q : 0 < x
  · exact oGo.pure (fun T hA hb hx t hr => XS.ifNo hA hx rfl (by rw [hb]; exact hd) rfl (own_if_leN.2 q) hr) (gn q)
  · exact oGo.pure (fun T hA hb hx t hr => XS.ifYes hA hx rfl (pc0 := pc) (pc' := pc2) rfl (by rw [hb]; exact hd) rfl (own_if_le.2 q) (by omega) (by omega) hr) (gy q)
theorem oGo.ifnull_y {o : Int} {b : Addr} (hd : decode bytes pc = .ok (.ifnull o, 3)) (ho : (pc : Int) + o = (pc2 : Int)) (g : oGo l Z a0 EL wd p e s m args below meth c R own bytes mx rt nm Q O D h k n pc2 Ls st) : oGo l Z a0 EL wd p e s m args below meth c R own bytes mx rt nm Q O D h k n pc Ls (.null :: st) :=
  oGo.pure (fun T hA hb hx t hr => XS.ifnullYes hA hx rfl (pc0 := pc) (pc' := pc2) rfl (by rw [hb]; exact hd) rfl (by omega) (by omega) hr) g
theorem oGo.ifnull_n {o : Int} {b : Addr} (hd : decode bytes pc = .ok (.ifnull o, 3)) (hp : pc + 3 = pc1) (g : oGo l Z a0 EL wd p e s m args below meth c R own bytes mx rt nm Q O D h k n pc1 Ls st) : oGo l Z a0 EL wd p e s m args below meth c R own bytes mx rt nm Q O D h k n pc Ls (.ref b :: st) := by
  subst hp; exact oGo.pure (fun T hA hb hx t hr => XS.ifnullNo hA hx rfl (by rw [hb]; exact hd) rfl hr) g
theorem oGo.ifnonnull_y {o : Int} {b : Addr} (hd : decode bytes pc = .ok (.ifnonnull o, 3)) (ho : (pc : Int) + o = (pc2 : Int)) (g : oGo l Z a0 EL wd p e s m args below meth c R own bytes mx rt nm Q O D h k n pc2 Ls st) : oGo l Z a0 EL wd p e s m args below meth c R own bytes mx rt nm Q O D h k n pc Ls (.ref b :: st) :=
  oGo.pure (fun T hA hb hx t hr => XT.ifnonnullYes hA hx rfl (pc0 := pc) (pc' := pc2) rfl (by rw [hb]; exact hd) rfl (by omega) (by omega) hr) g
theorem oGo.ifnonnull_n {o : Int} {b : Addr} (hd : decode bytes pc = .ok (.ifnonnull o, 3)) (hp : pc + 3 = pc1) (g : oGo l Z a0 EL wd p e s m args below meth c R own bytes mx rt nm Q O D h k n pc1 Ls st) : oGo l Z a0 EL wd p e s m args below meth c R own bytes mx rt nm Q O D h k n pc Ls (.null :: st) := by
  subst hp; exact oGo.pure (fun T hA hb hx t hr => XT.ifnonnullNo hA hx rfl (by rw [hb]; exact hd) rfl hr) g
theorem oGo.acmp_y {cd : ClassFile.ACond} {v w : Value} {o : Int} (hd : decode bytes pc = .ok (.if_acmp cd o, 3)) (ho : (pc : Int) + o = (pc2 : Int)) (hv : v.isRef = true) (hw : w.isRef = true) (hq : XT.acmp cd v w = true) (g : oGo l Z a0 EL wd p e s m args below meth c R own bytes mx rt nm Q O D h k n pc2 Ls st) : oGo l Z a0 EL wd p e s m args below meth c R own bytes mx rt nm Q O D h k n pc Ls (w :: v :: st) :=
  oGo.pure (fun T hA hb hx t hr => XT.acmpYes hA hx rfl (pc0 := pc) (pc' := pc2) rfl (by rw [hb]; exact hd) rfl hv hw hq (by omega) (by omega) hr) g
theorem oGo.acmp_n {cd : ClassFile.ACond} {v w : Value} {o : Int} (hd : decode bytes pc = .ok (.if_acmp cd o, 3)) (hp : pc + 3 = pc1) (hv : v.isRef = true) (hw : w.isRef = true) (hq : XT.acmp cd v w = false) (g : oGo l Z a0 EL wd p e s m args below meth c R own bytes mx rt nm Q O D h k n pc1 Ls st) : oGo l Z a0 EL wd p e s m args below meth c R own bytes mx rt nm Q O D h k n pc Ls (w :: v :: st) := by
  subst hp; exact oGo.pure (fun T hA hb hx t hr => XT.acmpNo hA hx rfl (by rw [hb]; exact hd) rfl hv hw hq hr) g
/-- steps that may warm the tables -/
theorem oGo.move (H : ∀ (T : State) (locs : List Loc) (vm0 : Vm), Stand p l e R (s.setVm vm0) m args below meth c T locs k n → T.heap = h → Z.Warmed39 vm0 → vm0.findClass own = some m.cls → c.code = bytes → p.tables.exec = Jvm.exec → meth.name = nm → c.maxLocals = mx → ∃ T', Stand p l e R (s.setVm vm0) m args below meth c T' locs k n ∧ T'.heap = h ∧ ∀ t, Steps p.tables e below (T'.setTop (mkF m pc' Ls' st')) t → Steps p.tables e below (T.setTop (mkF m pc Ls st)) t)
    (g : oGo l Z a0 EL wd p e s m args below meth c R own bytes mx rt nm Q O D h k n pc' Ls' st') : oGo l Z a0 EL wd p e s m args below meth c R own bytes mx rt nm Q O D h k n pc Ls st := by
  intro T locs vm0 k0 I
  obtain ⟨⟨hx, hb, hm, hr, hl, hn, hE⟩, hT, hO, hF, X, hS, hk, hZ, hown, hC, hwd, hD⟩ := I
  obtain ⟨T', X', hT', hst⟩ := H T locs vm0 X hT hZ hown hb hx hn hm
  obtain ⟨V, v, L, hs, r⟩ := g T' locs vm0 k0 ⟨⟨hx, hb, hm, hr, hl, hn, hE⟩, hT', hO, hF, X', hS, hk, hZ, hown, hC, hwd, hD⟩
  exact ⟨V, v, L, hst V hs, r⟩
/-- steps that make a cell -/
theorem oGo.grow {P : Heap → Prop} {D' : List Addr} {k' n' : Nat} (H : ∀ (T : State) (locs : List Loc) (vm0 : Vm), Stand p l e R (s.setVm vm0) m args below meth c T locs k n → T.heap = h → Z.Warmed39 vm0 → vm0.findClass own = some m.cls → c.code = bytes → p.tables.exec = Jvm.exec → meth.name = nm → c.maxLocals = mx → ∃ T' h', Stand p l e R (s.setVm vm0) m args below meth c T' locs k' n' ∧ T'.heap = h' ∧ Ext h h' ∧ P h' ∧ ∀ t, Steps p.tables e below (T'.setTop (mkF m pc' Ls' st')) t → Steps p.tables e below (T.setTop (mkF m pc Ls st)) t)
    (hD : ∀ h', P h' → ∀ x ∈ D', x ∈ D ∨ (h.size ≤ x ∧ x < h'.size)) (g : ∀ h', Ext h h' → P h' → oGo l Z a0 EL wd p e s m args below meth c R own bytes mx rt nm Q O D' h' k' n' pc' Ls' st') : oGo l Z a0 EL wd p e s m args below meth c R own bytes mx rt nm Q O D h k n pc Ls st := by
  intro T locs vm0 k0 I
  obtain ⟨⟨hx, hb, hm, hr, hl, hn, hE⟩, hT, hO, hF, X, hS, hk, hZ, hown, hC, hwd, hDk⟩ := I
  obtain ⟨T', h', X', hT', hEx, hP, hst⟩ := H T locs vm0 X hT hZ hown hb hx hn hm
  have hD2 : oDok Z EL vm0 h' D' := fun x hx' => by
    rcases hD h' hP x hx' with q | ⟨q1, q2⟩
    · exact oDok.ext hEx hC.1 hDk x q
    · exact ⟨Nat.le_trans hO.1 q1, q2, (Safe.new q1).ext hEx hC.1⟩
  obtain ⟨V, v, L, hs, r⟩ := g h' hEx hP T' locs vm0 k0 ⟨⟨hx, hb, hm, hr, hl, hn, hE⟩, hT', ext_trans hO hEx, hF, X', hS, Nat.le_trans hk hEx.1, hZ, hown, hC.trans (CHr.ext hEx hC.1), hwd, hD2⟩
  exact ⟨V, v, L, hst V hs, r⟩
/-- a store into one slot -/
theorem oGo.write {a : Addr} {sl : Nat} {w : Value} (H : ∀ (T : State) (locs : List Loc) (vm0 : Vm), Stand p l e R (s.setVm vm0) m args below meth c T locs k n → T.heap = h → Z.Warmed39 vm0 → vm0.findClass own = some m.cls → c.code = bytes → p.tables.exec = Jvm.exec → meth.name = nm → c.maxLocals = mx → ∃ T' h', Stand p l e R (s.setVm vm0) m args below meth c T' (locs ++ [⟨a, sl⟩]) k n ∧ T'.heap = h' ∧ Wr h h' a sl w ∧ ∀ t, Steps p.tables e below (T'.setTop (mkF m pc' Ls' st')) t → Steps p.tables e below (T.setTop (mkF m pc Ls st)) t)
    (ha : a ∈ D) (g : ∀ h', Wr h h' a sl w → h'.size = h.size → oGo l Z a0 EL wd p e s m args below meth c R own bytes mx rt nm Q O D h' k n pc' Ls' st') : oGo l Z a0 EL wd p e s m args below meth c R own bytes mx rt nm Q O D h k n pc Ls st := by
  intro T locs vm0 k0 I
  obtain ⟨⟨hx, hb, hm, hr, hl, hn, hE⟩, hT, hO, hF, X, hS, hk, hZ, hown, hC, hwd, hDk⟩ := I
  obtain ⟨T', h', X', hT', W, hst⟩ := H T locs vm0 X hT hZ hown hb hx hn hm
  obtain ⟨q1, q2, q3⟩ := hDk a ha
  obtain ⟨V, v, L, hs, r⟩ := g h' W W.size T' _ vm0 k0 ⟨⟨hx, hb, hm, hr, hl, hn, hE⟩, hT', ext_wr hO W q1, Fr.snoc X' hF q1, X', hS, by rw [W.size]; exact hk, hZ, hown, hC.trans (CHr.wr W q3 hC.1), hwd, hDk.wr W q3 hC.1⟩
  exact ⟨V, v, L, hst V hs, r⟩
/-- a step that writes into known cells (arraycopy) -/
theorem oGo.writes {ws : List Addr} {P : Heap → Prop} (H : ∀ (T : State) (locs : List Loc) (vm0 : Vm), Stand p l e R (s.setVm vm0) m args below meth c T locs k n → T.heap = h → Z.Warmed39 vm0 → vm0.findClass own = some m.cls → c.code = bytes → p.tables.exec = Jvm.exec → meth.name = nm → c.maxLocals = mx → Fr Z.heap.size locs → (∀ x ∈ D, Z.heap.size ≤ x) → ∃ T' h' L', Stand p l e R (s.setVm vm0) m args below meth c T' L' k n ∧ T'.heap = h' ∧ Fr Z.heap.size L' ∧ Keep h h' ws ∧ P h' ∧ ∀ t, Steps p.tables e below (T'.setTop (mkF m pc' Ls' st')) t → Steps p.tables e below (T.setTop (mkF m pc Ls st)) t)
    (ha : ∀ x ∈ ws, x ∈ D) (g : ∀ h', Keep h h' ws → P h' → oGo l Z a0 EL wd p e s m args below meth c R own bytes mx rt nm Q O D h' k n pc' Ls' st') : oGo l Z a0 EL wd p e s m args below meth c R own bytes mx rt nm Q O D h k n pc Ls st := by
  intro T locs vm0 k0 I
  obtain ⟨⟨hx, hb, hm, hr, hl, hn, hE⟩, hT, hO, hF, X, hS, hk, hZ, hown, hC, hwd, hDk⟩ := I
  obtain ⟨T', h', L', X', hT', hF', K, hP, hst⟩ := H T locs vm0 X hT hZ hown hb hx hn hm hF (fun x q => (hDk x q).1)
  have hsafe : ∀ x ∈ ws, Safe Z EL vm0 h x := fun x q => (hDk x (ha x q)).2.2
  have hO' : Ext Z.heap h' := (Old.keep (Z := Z) (n0 := Z.heap.size) ⟨rfl, hO⟩ K fun x q => (hDk x (ha x q)).1).2
  obtain ⟨V, v, L, hs, r⟩ := g h' K hP T' L' vm0 k0 ⟨⟨hx, hb, hm, hr, hl, hn, hE⟩, hT', hO', hF', X', hS, Nat.le_trans hk K.1, hZ, hown, hC.trans (CHr.keep K hsafe hC.1), hwd, hDk.chr (CHr.keep K hsafe hC.1)⟩
  exact ⟨V, v, L, hst V hs, r⟩
/-- what stood at the start stands still -/
theorem oGo.old (g : Ext Z.heap h → Z.heap.size ≤ h.size → oGo l Z a0 EL wd p e s m args below meth c R own bytes mx rt nm Q O D h k n pc Ls st) : oGo l Z a0 EL wd p e s m args below meth c R own bytes mx rt nm Q O D h k n pc Ls st := fun T locs vm0 k0 I => g I.2.2.1 I.2.2.1.1 T locs vm0 k0 I
/-- steps that leave the state -/
theorem oGo.read (H : ∀ (T : State) (locs : List Loc) (vm0 : Vm), Stand p l e R (s.setVm vm0) m args below meth c T locs k n → T.heap = h → Z.Warmed39 vm0 → vm0.findClass own = some m.cls → c.code = bytes → p.tables.exec = Jvm.exec → meth.name = nm → c.maxLocals = mx → ∀ t, Steps p.tables e below (T.setTop (mkF m pc' Ls' st')) t → Steps p.tables e below (T.setTop (mkF m pc Ls st)) t)
    (g : oGo l Z a0 EL wd p e s m args below meth c R own bytes mx rt nm Q O D h k n pc' Ls' st') : oGo l Z a0 EL wd p e s m args below meth c R own bytes mx rt nm Q O D h k n pc Ls st := oGo.move (fun T locs vm0 X hT hZ hown hb hx hn hm => ⟨T, X, hT, H T locs vm0 X hT hZ hown hb hx hn hm⟩) g
theorem oGo.ldc_int {idx : Nat} {v : Int32} (hd : decode bytes pc = .ok (.ldc idx, 2)) (hp : pc + 2 = pc') (w : (Cond.constant own idx v).before a0 Z = true) (g : oGo l Z a0 EL wd p e s m args below meth c R own bytes mx rt nm Q O D h k n pc' Ls (.int v :: st)) : oGo l Z a0 EL wd p e s m args below meth c R own bytes mx rt nm Q O D h k n pc Ls st := by
  subst hp; exact oGo.read (fun T locs vm0 X hT hZ hown hb hx hn hm => X.ldcInt hx hown (mvT (s := s.setVm vm0) hZ w) (g := mkF m pc Ls st) rfl (by rw [hb]; exact hd)) g
theorem oGo.ldc2_long {idx : Nat} {v : Int64} (hd : decode bytes pc = .ok (.ldc2_w idx, 3)) (hp : pc + 3 = pc') (w : (Cond.constantLong own idx v).before a0 Z = true) (g : oGo l Z a0 EL wd p e s m args below meth c R own bytes mx rt nm Q O D h k n pc' Ls (.long v :: st)) : oGo l Z a0 EL wd p e s m args below meth c R own bytes mx rt nm Q O D h k n pc Ls st := by
  subst hp; exact oGo.read (fun T locs vm0 X hT hZ hown hb hx hn hm => X.ldc2Long hx hown (mvT (s := s.setVm vm0) hZ w) (g := mkF m pc Ls st) rfl (by rw [hb]; exact hd)) g
theorem oGo.getfield {idx : Nat} {a : Addr} {R0 Ow f d : String} {v : Value} (hd : decode bytes pc = .ok (.getfield idx, 3)) (hp : pc + 3 = pc') (w : (Cond.fieldLink own idx R0 f d).before a0 Z = true) (via : Via Z R0 Ow f d) (F : Fld Z h a Ow f d v)
    (g : oGo l Z a0 EL wd p e s m args below meth c R own bytes mx rt nm Q O D h k n pc' Ls (v :: st)) : oGo l Z a0 EL wd p e s m args below meth c R own bytes mx rt nm Q O D h k n pc Ls (.ref a :: st) := by
  subst hp; exact oGo.move (fun T locs vm0 X hT hZ hown hb hx hn hm => getF (s := s.setVm vm0) X hx hZ hown (host := "") (Or.inl w) via hT F (g := mkF m pc Ls (.ref a :: st)) rfl rfl (by rw [hb]; exact hd)) g
theorem oGo.getstatic {idx : Nat} {R0 Ow f d : String} {v : Value} (hd : decode bytes pc = .ok (.getstatic idx, 3)) (hp : pc + 3 = pc') (w : (Cond.fieldLink own idx R0 f d).before a0 Z = true) (via : Via Z R0 Ow f d) (F : Sta Z Z.heap Ow f d v)
    (g : oGo l Z a0 EL wd p e s m args below meth c R own bytes mx rt nm Q O D h k n pc' Ls (v :: st)) : oGo l Z a0 EL wd p e s m args below meth c R own bytes mx rt nm Q O D h k n pc Ls st := by
  subst hp
  intro T locs vm0 k0 I
  have hO : Ext Z.heap h := I.2.2.1
  exact oGo.move (fun T locs vm0 X hT hZ hown hb hx hn hm => getS (s := s.setVm vm0) (host := "") X hx hZ hown w via hT (F.ext hO) (g := mkF m pc Ls st) rfl (by rw [hb]; exact hd)) g T locs vm0 k0 I
theorem oGo.putfield {idx kk : Nat} {a : Addr} {R0 Ow f d Cn : String} {v old : Value} {ty : FieldType} (hd : decode bytes pc = .ok (.putfield idx, 3)) (hp : pc + 3 = pc') (w : (Cond.fieldLink own idx R0 f d).before a0 Z = true) (via : Via Z R0 Ow f d) (F : Fld Z h a Ow f d old) (E : Exa Z h a Cn)
    (L : (Cond.lays Cn Ow f d).before a0 Z = true ∨ ((Cond.laysFinal Cn Ow f d).before a0 Z = true ∧ own = Ow ∧ nm = "<init>")) (wi : (Cond.instantiable Cn kk).before a0 Z = true) (hty : parseFieldDescriptor d = some ty) (hnv : narrow ty v = v) (hf : fits ty v = true) (ha : a ∈ D)
    (g : ∀ h', Wr h h' a (Jvm.RoadKit.slotOf Z Ow f d) v → h'.size = h.size → oGo l Z a0 EL wd p e s m args below meth c R own bytes mx rt nm Q O D h' k n pc' Ls st) : oGo l Z a0 EL wd p e s m args below meth c R own bytes mx rt nm Q O D h k n pc Ls (v :: .ref a :: st) := by
  subst hp; exact oGo.write (fun T locs vm0 X hT hZ hown hb hx hn hm => putF (s := s.setVm vm0) X hx hZ hown (host := "") (Or.inl w) via hT F E (L.imp id fun q => ⟨q.1, q.2.1, hn.trans q.2.2⟩) wi hty hnv hf (g := mkF m pc Ls (v :: .ref a :: st)) rfl rfl (by rw [hb]; exact hd)) ha g
theorem oGo.new {idx sz : Nat} {Cn : String} {k' n' : Nat} (hd : decode bytes pc = .ok (.new idx, 3)) (hp : pc + 3 = pc') (w : (Cond.classLink own idx Cn).before a0 Z = true) (wi : (Cond.instantiable Cn sz).before a0 Z = true) (wz : (Cond.initialized Cn).before a0 Z = true) (hk : k + 1 = k') (hn : n + sz = n') (hc : k' ≤ R.cells) (hl : n' ≤ R.slots)
    (g : ∀ (h' : Heap) (a : Nat), a = h.size → a < h'.size → Ext h h' → Exa Z h' a Cn → (∀ {Ow f d : String} {ty : FieldType}, Laid Z a0 Cn Ow f d → parseFieldDescriptor d = some ty → Fld Z h' a Ow f d (defaultValue ty)) → oGo l Z a0 EL wd p e s m args below meth c R own bytes mx rt nm Q O (a :: D) h' k' n' pc' Ls (.ref a :: st)) : oGo l Z a0 EL wd p e s m args below meth c R own bytes mx rt nm Q O D h k n pc Ls st := by
  subst hp hk hn
  refine oGo.grow (P := fun h' => Exa Z h' h.size Cn ∧ ∀ {Ow f d : String} {ty : FieldType}, Laid Z a0 Cn Ow f d → parseFieldDescriptor d = some ty → Fld Z h' h.size Ow f d (defaultValue ty)) (D' := h.size :: D) (fun T locs vm0 X hT hZ hown hb hx hn hm => ?_) (fun h' q x hx => ?_) (fun h' E q => g h' _ rfl q.1.lt E q.1 q.2)
  · obtain ⟨T', h', X', e', E, A, F, -, hst⟩ := newO (s := s.setVm vm0) X hx hZ hown w wi wz hT (g := mkF m pc Ls st) rfl (by rw [hb]; exact hd) hc hl
    exact ⟨T', h', X', e', E, ⟨A, F⟩, hst⟩
  · rcases List.mem_cons.mp hx with rfl | hx
    · exact Or.inr ⟨Nat.le_refl _, q.1.lt⟩
    · exact Or.inl hx
theorem oGo.objinit {idx : Nat} {a : Addr} (hd : decode bytes pc = .ok (.invokespecial idx, 3)) (hp : pc + 3 = pc') (w1 : (Cond.methodLink own idx Lib.objectInit).before a0 Z = true) (w2 : (Cond.instanceMethod Lib.objectInit).before a0 Z = true) (w3 : (Cond.code Lib.objectInit ⟨#[0xb1]⟩ 1 none).before a0 Z = true)
    (hsz : Ls.size = mx) (hf : 1 ≤ R.frames) (hl : (st.map fun v => v.category).sum + 12 ≤ R.locals) (g : oGo l Z a0 EL wd p e s m args below meth c R own bytes mx rt nm Q O D h k n pc' Ls st) : oGo l Z a0 EL wd p e s m args below meth c R own bytes mx rt nm Q O D h k n pc Ls (.ref a :: st) := by
  subst hp; exact oGo.move (fun T locs vm0 X hT hZ hown hb hx hn hm => initO (s := s.setVm vm0) X hx hZ hown w1 w2 w3 hT (g := mkF m pc Ls (.ref a :: st)) rfl (hsz.trans hm.symm) rfl (by rw [hb]; exact hd) hf (W := (st.map fun v => v.category).sum) (by show 2 * 0 + _ ≤ _; omega) hl) g
/-! ### arrays -/
def oArr (Z : State) (h : Heap) (a : Addr) (ty : FieldType) (vs : List Value) : Prop := ∃ cl : Cell, Arr Z h a cl ty ∧ cl.slots.toList = vs ∧ vs.length < 2147483648 ∧ ∀ v ∈ vs, fits ty v = true
theorem oArr.lt {a : Addr} {ty : FieldType} {vs : List Value} (A : oArr Z h a ty vs) : a < h.size := A.elim fun _ q => q.1.lt
theorem oArr.ext {a : Addr} {ty : FieldType} {vs : List Value} {h' : Heap} (E : Ext h h') (A : oArr Z h a ty vs) : oArr Z h' a ty vs := A.elim fun cl q => ⟨cl, q.1.ext E, q.2⟩
theorem oArr.other {a b : Addr} {ty : FieldType} {vs : List Value} {h' : Heap} {sl : Nat} {w : Value} (W : Wr h h' b sl w) (A : oArr Z h a ty vs) (q : a ≠ b) : oArr Z h' a ty vs := A.elim fun cl r => ⟨cl, r.1.other W q, r.2⟩
theorem oArr.keep {a : Addr} {ty : FieldType} {vs : List Value} {h' : Heap} {ws : List Addr} (A : oArr Z h a ty vs) (K : Keep h h' ws) (q : a ∉ ws) : oArr Z h' a ty vs := A.elim fun cl r => ⟨cl, ⟨K.2.1 a cl r.1.1 q, r.1.2⟩, r.2⟩
theorem oArr.set {a : Addr} {ty : FieldType} {vs : List Value} {h' : Heap} {i : Nat} {w : Value} (W : Wr h h' a i w) (A : oArr Z h a ty vs) (hf : fits ty w = true) : oArr Z h' a ty (vs.set i w) := by
  obtain ⟨cl, h1, rfl, h3, h4⟩ := A
  refine ⟨cl.setSlot i w, h1.same W, by simp [Cell.setSlot], by simpa using h3, fun v hv => ?_⟩
  rcases List.mem_or_eq_of_mem_set hv with q | q
  · exact h4 v q
  · exact q ▸ hf
theorem own_n32 {i : Nat} (h : i < 2147483648) : (Int32.ofNat i).toNatClampNeg = i := by
  have q : i.toInt32.toInt = i := len_toInt (by omega)
  show i.toInt32.toNatClampNeg = i
  simp only [Int32.toNatClampNeg, q]; omega
theorem own_i32 {i : Nat} (h : i < 2147483648) : (Int32.ofNat i).toInt = i := len_toInt (by omega)
theorem own_nn {i : Nat} (h : i < 2147483648) : ¬ Int32.ofNat i < 0 := by
  rw [Int32.lt_iff_toInt_lt, own_i32 h]; simp
theorem own_inb {c : Cell} {vs : List Value} {i : Nat} (e : c.slots.toList = vs) (hb : vs.length < 2147483648) (hi : i < vs.length) : ¬ (Int32.ofNat i < 0 ∨ c.slots.size ≤ (Int32.ofNat i).toNatClampNeg) := by
  rw [own_n32 (by omega)]
  have : c.slots.size = vs.length := by rw [← e]; simp
  rintro (q | q)
  · exact own_nn (by omega) q
  · omega
theorem oArr.arv {a : Addr} {ty : FieldType} {vs : List Value} (A : oArr Z h a ty vs) (d : Value) : ∃ kk, Arv Z h a kk ty (Int32.ofNat vs.length) vs d := by
  obtain ⟨cl, h1, rfl, h3, h4⟩ := A
  refine ⟨cl.cls, cl, h1, rfl, by rw [own_n32 h3]; simp, own_nn h3, fun i hi => by simp [List.getD_eq_getElem?_getD, hi], fun i hi => h4 _ ?_⟩
  simp [List.getD_eq_getElem?_getD, hi]
theorem oArr.of_arv {a : Addr} {ty : FieldType} {vs : List Value} {kk : ClassId} {z : Int32} {d : Value} (A : Arv Z h a kk ty z vs d) (hl : z.toNatClampNeg = vs.length) : oArr Z h a ty vs := by
  obtain ⟨cl, h1, h2, h3, h4, h5, h6⟩ := A
  have hz := Int32.toInt_lt z
  have e : cl.slots.toList = vs := by
    apply List.ext_getElem?
    intro i
    by_cases q : i < cl.slots.size
    · have := h5 i q
      rw [← Array.getElem?_toList] at this
      rw [this]
      have q' : i < vs.length := by omega
      simp [List.getD_eq_getElem?_getD, q']
    · rw [List.getElem?_eq_none (by simpa using q), List.getElem?_eq_none (by omega)]
  refine ⟨cl, h1, e, by rw [← hl]; simp only [Int32.toNatClampNeg]; omega, fun v hv => ?_⟩
  obtain ⟨i, hi, rfl⟩ := List.getElem_of_mem hv
  have := h6 i (by omega)
  rwa [List.getD_eq_getElem?_getD, List.getElem?_eq_getElem hi] at this
theorem oGo.arraylength {a : Addr} {ty : FieldType} {vs : List Value} {z : Int32} (hd : decode bytes pc = .ok (.arraylength, 1)) (hp : pc + 1 = pc') (A : oArr Z h a ty vs) (hv : Int32.ofNat vs.length = z) (g : oGo l Z a0 EL wd p e s m args below meth c R own bytes mx rt nm Q O D h k n pc' Ls (.int z :: st)) : oGo l Z a0 EL wd p e s m args below meth c R own bytes mx rt nm Q O D h k n pc Ls (.ref a :: st) := by
  subst hp hv
  obtain ⟨cl, h1, rfl, h3, h4⟩ := A
  exact oGo.read (fun T locs vm0 X hT hZ hown hb hx hn hm t hr => X.arraylength hx (by rw [hT]; exact h1.1) (State.isArrayOf_alike (T := s.setVm vm0) hZ.alike h1.2.1) (g := mkF m pc Ls (.ref a :: st)) rfl rfl (by rw [hb]; exact hd) t (by simpa using hr)) g
theorem oGo.caload {a : Addr} {vs : List Value} {j : Int32} {i : Nat} {v : Value} (hd : decode bytes pc = .ok (.caload, 1)) (hp : pc + 1 = pc') (A : oArr Z h a .char vs) (hj : j = Int32.ofNat i) (hi : vs[i]? = some v) (g : oGo l Z a0 EL wd p e s m args below meth c R own bytes mx rt nm Q O D h k n pc' Ls (v :: st)) : oGo l Z a0 EL wd p e s m args below meth c R own bytes mx rt nm Q O D h k n pc Ls (.int j :: .ref a :: st) := by
  subst hp hj
  obtain ⟨cl, h1, rfl, h3, h4⟩ := A
  have hl : i < cl.slots.toList.length := (List.getElem?_eq_some_iff.mp hi).1
  exact oGo.read (fun T locs vm0 X hT hZ hown hb hx hn hm t hr => X.caload hx (by rw [hT]; exact h1.1) (State.isArrayOf_alike (T := s.setVm vm0) hZ.alike h1.2.1) h1.2.2 (own_inb rfl h3 hl) (by rw [own_n32 (by omega), ← Array.getElem?_toList]; exact hi) (g := mkF m pc Ls (.int (Int32.ofNat i) :: .ref a :: st)) rfl rfl (by rw [hb]; exact hd) t hr) g
theorem oGo.baload {a : Addr} {vs : List Value} {j : Int32} {i : Nat} {v : Value} (hd : decode bytes pc = .ok (.baload, 1)) (hp : pc + 1 = pc') (A : oArr Z h a .byte vs) (hj : j = Int32.ofNat i) (hi : vs[i]? = some v) (g : oGo l Z a0 EL wd p e s m args below meth c R own bytes mx rt nm Q O D h k n pc' Ls (v :: st)) : oGo l Z a0 EL wd p e s m args below meth c R own bytes mx rt nm Q O D h k n pc Ls (.int j :: .ref a :: st) := by
  subst hp hj
  obtain ⟨cl, h1, rfl, h3, h4⟩ := A
  have hl : i < cl.slots.toList.length := (List.getElem?_eq_some_iff.mp hi).1
  exact oGo.read (fun T locs vm0 X hT hZ hown hb hx hn hm t hr => X.baloadBytes hx (by rw [hT]; exact h1.1) (State.isArrayOf_alike (T := s.setVm vm0) hZ.alike h1.2.1) h1.2.2 (own_inb rfl h3 hl) (by rw [own_n32 (by omega), ← Array.getElem?_toList]; exact hi) (g := mkF m pc Ls (.int (Int32.ofNat i) :: .ref a :: st)) rfl rfl (by rw [hb]; exact hd) t hr) g
theorem oGo.laload {a : Addr} {vs : List Value} {j : Int32} {i : Nat} {v : Value} (hd : decode bytes pc = .ok (.laload, 1)) (hp : pc + 1 = pc') (A : oArr Z h a .long vs) (hj : j = Int32.ofNat i) (hi : vs[i]? = some v) (g : oGo l Z a0 EL wd p e s m args below meth c R own bytes mx rt nm Q O D h k n pc' Ls (v :: st)) : oGo l Z a0 EL wd p e s m args below meth c R own bytes mx rt nm Q O D h k n pc Ls (.int j :: .ref a :: st) := by
  subst hp hj
  obtain ⟨cl, h1, rfl, h3, h4⟩ := A
  have hl : i < cl.slots.toList.length := (List.getElem?_eq_some_iff.mp hi).1
  exact oGo.read (fun T locs vm0 X hT hZ hown hb hx hn hm t hr => X.laload hx (by rw [hT]; exact h1.1) (State.isArrayOf_alike (T := s.setVm vm0) hZ.alike h1.2.1) h1.2.2 (own_inb rfl h3 hl) (by rw [own_n32 (by omega), ← Array.getElem?_toList]; exact hi) (g := mkF m pc Ls (.int (Int32.ofNat i) :: .ref a :: st)) rfl rfl (by rw [hb]; exact hd) t hr) g
theorem oGo.iaload {a : Addr} {vs : List Value} {j : Int32} {i : Nat} {v : Value} (hd : decode bytes pc = .ok (.iaload, 1)) (hp : pc + 1 = pc') (A : oArr Z h a .int vs) (hj : j = Int32.ofNat i) (hi : vs[i]? = some v) (g : oGo l Z a0 EL wd p e s m args below meth c R own bytes mx rt nm Q O D h k n pc' Ls (v :: st)) : oGo l Z a0 EL wd p e s m args below meth c R own bytes mx rt nm Q O D h k n pc Ls (.int j :: .ref a :: st) := by
  subst hp hj
  obtain ⟨cl, h1, rfl, h3, h4⟩ := A
  have hl : i < cl.slots.toList.length := (List.getElem?_eq_some_iff.mp hi).1
  exact oGo.read (fun T locs vm0 X hT hZ hown hb hx hn hm t hr => X.iaload hx (by rw [hT]; exact h1.1) (State.isArrayOf_alike (T := s.setVm vm0) hZ.alike h1.2.1) h1.2.2 (own_inb rfl h3 hl) (by rw [own_n32 (by omega), ← Array.getElem?_toList]; exact hi) (g := mkF m pc Ls (.int (Int32.ofNat i) :: .ref a :: st)) rfl rfl (by rw [hb]; exact hd) t hr) g
theorem oGo.aaload {a : Addr} {ty : FieldType} {vs : List Value} {j : Int32} {i : Nat} {v : Value} (hd : decode bytes pc = .ok (.aaload, 1)) (hp : pc + 1 = pc') (A : oArr Z h a ty vs) (ht : ty.isReference = true) (hj : j = Int32.ofNat i) (hi : vs[i]? = some v) (g : oGo l Z a0 EL wd p e s m args below meth c R own bytes mx rt nm Q O D h k n pc' Ls (v :: st)) : oGo l Z a0 EL wd p e s m args below meth c R own bytes mx rt nm Q O D h k n pc Ls (.int j :: .ref a :: st) := by
  subst hp hj
  obtain ⟨cl, h1, rfl, h3, h4⟩ := A
  have hl : i < cl.slots.toList.length := (List.getElem?_eq_some_iff.mp hi).1
  exact oGo.read (fun T locs vm0 X hT hZ hown hb hx hn hm t hr => X.aaload hx (by rw [hT]; exact h1.1) (State.isArrayOf_alike (T := s.setVm vm0) hZ.alike h1.2.1) ht h1.2.2 (own_inb rfl h3 hl) (by rw [own_n32 (by omega), ← Array.getElem?_toList]; exact hi) (g := mkF m pc Ls (.int (Int32.ofNat i) :: .ref a :: st)) rfl rfl (by rw [hb]; exact hd) t hr) g
theorem oGo.castore {a : Addr} {vs : List Value} {j : Int32} {i : Nat} {x w : Int32} (hd : decode bytes pc = .ok (.castore, 1)) (hp : pc + 1 = pc') (A : oArr Z h a .char vs) (hj : j = Int32.ofNat i) (hi : i < vs.length) (hw : nar .char x = w) (ha : a ∈ D) (g : ∀ h', Wr h h' a i (.int w) → h'.size = h.size → oArr Z h' a .char (vs.set i (.int w)) → oGo l Z a0 EL wd p e s m args below meth c R own bytes mx rt nm Q O D h' k n pc' Ls st) : oGo l Z a0 EL wd p e s m args below meth c R own bytes mx rt nm Q O D h k n pc Ls (.int x :: .int j :: .ref a :: st) := by
  subst hp hj hw
  have A0 := A
  obtain ⟨cl, h1, rfl, h3, h4⟩ := A
  refine oGo.write (fun T locs vm0 X hT hZ hown hb hx hn hm => ?_) ha (fun h' W hs => g h' W hs (A0.set W (fits_nar_char x)))
  have q := stC (s := s.setVm vm0) X hx hZ hT h1 (own_inb rfl h3 hi) (g := mkF m pc Ls (.int x :: .int (Int32.ofNat i) :: .ref a :: st)) rfl rfl (by rw [hb]; exact hd)
  rw [own_n32 (by omega)] at q
  exact q
theorem oGo.bastore {a : Addr} {vs : List Value} {j : Int32} {i : Nat} {x w : Int32} (hd : decode bytes pc = .ok (.bastore, 1)) (hp : pc + 1 = pc') (A : oArr Z h a .byte vs) (hj : j = Int32.ofNat i) (hi : i < vs.length) (hw : nar .byte x = w) (ha : a ∈ D) (g : ∀ h', Wr h h' a i (.int w) → h'.size = h.size → oArr Z h' a .byte (vs.set i (.int w)) → oGo l Z a0 EL wd p e s m args below meth c R own bytes mx rt nm Q O D h' k n pc' Ls st) : oGo l Z a0 EL wd p e s m args below meth c R own bytes mx rt nm Q O D h k n pc Ls (.int x :: .int j :: .ref a :: st) := by
  subst hp hj hw
  have A0 := A
  obtain ⟨cl, h1, rfl, h3, h4⟩ := A
  refine oGo.write (fun T locs vm0 X hT hZ hown hb hx hn hm => ?_) ha (fun h' W hs => g h' W hs (A0.set W (fits_nar_byte x)))
  have q := stB (s := s.setVm vm0) X hx hZ hT h1 (own_inb rfl h3 hi) (g := mkF m pc Ls (.int x :: .int (Int32.ofNat i) :: .ref a :: st)) rfl rfl (by rw [hb]; exact hd)
  rw [own_n32 (by omega)] at q
  exact q
theorem oGo.iastore {a : Addr} {vs : List Value} {j : Int32} {i : Nat} {x w : Int32} (hd : decode bytes pc = .ok (.iastore, 1)) (hp : pc + 1 = pc') (A : oArr Z h a .int vs) (hj : j = Int32.ofNat i) (hi : i < vs.length) (hw : x = w) (ha : a ∈ D) (g : ∀ h', Wr h h' a i (.int w) → h'.size = h.size → oArr Z h' a .int (vs.set i (.int w)) → oGo l Z a0 EL wd p e s m args below meth c R own bytes mx rt nm Q O D h' k n pc' Ls st) : oGo l Z a0 EL wd p e s m args below meth c R own bytes mx rt nm Q O D h k n pc Ls (.int x :: .int j :: .ref a :: st) := by
  subst hp hj hw
  have A0 := A
  obtain ⟨cl, h1, rfl, h3, h4⟩ := A
  refine oGo.write (fun T locs vm0 X hT hZ hown hb hx hn hm => ?_) ha (fun h' W hs => g h' W hs (A0.set W (rfl)))
  have q := stI (s := s.setVm vm0) X hx hZ hT h1 (own_inb rfl h3 hi) (g := mkF m pc Ls (.int x :: .int (Int32.ofNat i) :: .ref a :: st)) rfl rfl (by rw [hb]; exact hd)
  rw [own_n32 (by omega)] at q
  exact q
theorem oGo.lastore {a : Addr} {vs : List Value} {j : Int32} {i : Nat} {x w : Int64} (hd : decode bytes pc = .ok (.lastore, 1)) (hp : pc + 1 = pc') (A : oArr Z h a .long vs) (hj : j = Int32.ofNat i) (hi : i < vs.length) (hw : x = w) (ha : a ∈ D) (g : ∀ h', Wr h h' a i (.long w) → h'.size = h.size → oArr Z h' a .long (vs.set i (.long w)) → oGo l Z a0 EL wd p e s m args below meth c R own bytes mx rt nm Q O D h' k n pc' Ls st) : oGo l Z a0 EL wd p e s m args below meth c R own bytes mx rt nm Q O D h k n pc Ls (.long x :: .int j :: .ref a :: st) := by
  subst hp hj hw
  have A0 := A
  obtain ⟨cl, h1, rfl, h3, h4⟩ := A
  refine oGo.write (fun T locs vm0 X hT hZ hown hb hx hn hm => ?_) ha (fun h' W hs => g h' W hs (A0.set W (rfl)))
  have q := stJ (s := s.setVm vm0) X hx hZ hT h1 (own_inb rfl h3 hi) (g := mkF m pc Ls (.long x :: .int (Int32.ofNat i) :: .ref a :: st)) rfl rfl (by rw [hb]; exact hd)
  rw [own_n32 (by omega)] at q
  exact q
theorem oGo.newarray {aty : ArrayType} {z : Int32} {i : Nat} {k' n' : Nat} (hd : decode bytes pc = .ok (.newarray aty, 2)) (hp : pc + 2 = pc') (w : (Cond.arrayClass (newarray.typeOf aty)).before a0 Z = true) (hz : z = Int32.ofNat i) (cap : Nat) (hi : i ≤ cap) (hcap : cap * 8 ≤ 536870912) (hk : k + 1 = k') (hn : n + cap = n') (hc : k' ≤ R.cells) (hl : n' ≤ R.slots) (hfd : fits (newarray.typeOf aty) (defaultValue (newarray.typeOf aty)) = true)
    (g : ∀ (h' : Heap) (a : Nat), a = h.size → a < h'.size → Ext h h' → oArr Z h' a (newarray.typeOf aty) (List.replicate i (defaultValue (newarray.typeOf aty))) → oGo l Z a0 EL wd p e s m args below meth c R own bytes mx rt nm Q O (a :: D) h' k' n' pc' Ls (.ref a :: st)) : oGo l Z a0 EL wd p e s m args below meth c R own bytes mx rt nm Q O D h k n pc Ls (.int z :: st) := by
  subst hp hk hn hz
  have hb31 : i < 2147483648 := by omega
  refine oGo.grow (P := fun h' => oArr Z h' h.size (newarray.typeOf aty) (List.replicate i (defaultValue (newarray.typeOf aty)))) (D' := h.size :: D) (fun T locs vm0 X hT hZ hown hb hx hn hm => ?_) (fun h' q x hx => ?_) (fun h' E q => g h' _ rfl q.lt E q)
  · obtain ⟨T', h', cA, X', e', E, A, hst⟩ := newP (s := s.setVm vm0) X hx hZ w hT (g := mkF m pc Ls (.int (Int32.ofNat i) :: st)) rfl (by rw [hb]; exact hd) rfl (own_nn hb31) (cap := cap) (by rw [own_n32 hb31]; exact hi) hcap hc hl
    refine ⟨T', h', X', e', E, ⟨_, A, ?_, by simpa using hb31, fun v hv => ?_⟩, hst⟩
    · simp [newA, own_n32 hb31]
    · rw [(List.mem_replicate.mp hv).2]; exact hfd
  · rcases List.mem_cons.mp hx with rfl | hx
    · exact Or.inr ⟨Nat.le_refl _, q.lt⟩
    · exact Or.inl hx
/-! ### calls -/
theorem oCtr.back {y : MethodName} {b' : ByteArray} {mx' : Nat} {rt' : Option FieldType} {rm : Room} {len W : Nat} {as' : Array Value} {Q' : Option Value → Heap → Prop} {O' : Option Value → Heap → Addr → Prop} {D' : List Addr} {vm0 : Vm}
    (hM : oCtr [] l Z a0 EL wd y b' mx' rt' rm as' D' h Q' O') (hZ : Z.Warmed39 vm0) (wc : (Cond.code y b' mx' rt').before a0 Z = true) (wz : (Cond.initialized y.cls).before a0 Z = true) (hf : rm.frames + 1 ≤ R.frames) (hl : W + (mx' + 11) + rm.locals ≤ R.locals) (hEL : EW Z a0 EL) (hO : Ext Z.heap h) (H : CHv Z EL vm0 h) (hD : oDok Z EL vm0 h D') :
    BackS l R p e below (s.setVm vm0) args y len W (fun A a => a = as' ∧ A.U.heap = h ∧ A.cells + rm.cells ≤ R.cells ∧ A.slots + rm.slots ≤ R.slots)
      (fun A _ v B => ∃ L, (Q' v B.U.heap ∧ ∀ x, O' v B.U.heap x → Z.heap.size ≤ x ∧ x < B.U.heap.size ∧ Safe Z EL B.U.vm B.U.heap x) ∧ Fr Z.heap.size L ∧ Ext Z.heap B.U.heap ∧ B.locs = A.locs ++ L ∧ B.cells = A.cells + rm.cells ∧ B.slots = A.slots + rm.slots ∧ CHr Z EL vm0 h B.U.vm B.U.heap ∧ (wd ∨ A.U.WarmedH B.U.vm)) :=
  BackS.of_freeW (bytes := b') (maxL := mx') (ret := rt') (E := fun _ first o t L k n => k = rm.cells ∧ n = rm.slots ∧ (∃ v, o = .returned v ∧ Q' v t.heap ∧ ∀ x, O' v t.heap x → Z.heap.size ≤ x ∧ x < t.heap.size ∧ Safe Z EL t.vm t.heap x) ∧ Fr Z.heap.size L ∧ Ext Z.heap t.heap ∧ CHr Z EL first.vm first.heap t.vm t.heap ∧ (wd ∨ first.WarmedH t.vm)) hM hf hl
    (fun m meth c A a Y hp => have hU : Z.Warmed39 A.U.vm := wtrans (s := s.setVm vm0) hZ Y.warmed
      ⟨by show (Cond.and _ .tt).before a A.U = true; rw [Cond.before_and, mv hU wc]; rfl, mv hU wc, mv hU wz, hp.2.2.1, hp.2.2.2⟩)
    (fun m meth c A a g mk Y hp => ⟨hp.1, wtrans (s := s.setVm vm0) hZ Y.warmed, hp.2.1, hO, (CHv.at (T := A.U) Y hZ hEL H).1, hD.chr (CHv.at (T := A.U) Y hZ hEL H)⟩) (fun _ _ _ _ _ _ _ _ _ => trivial)
    (fun _ _ _ _ ⟨v, L, h1, h2, h3, h4, h5, h6, h7⟩ => ⟨L, _, _, h7, rfl, rfl, ⟨v, h1, h2⟩, h3, h4, h5, h6⟩)
    (fun m meth c A a g mk v t L k n Y hp _ _ ⟨e1, e2, ⟨v', e3, e4⟩, e5, e6, e7, e8⟩ => by
      cases e3; subst e1 e2
      refine ⟨L, e4, e5, e6, rfl, rfl, rfl, (CHv.at Y hZ hEL H).trans ?_, e8⟩
      rw [← hp.2.1]; exact e7)
theorem oGo.after {T : State} {locs : List Loc} {vm0 : Vm} {k0 : Nat} {rm : Room} {k' n' : Nat} {Q' : Option Value → Heap → Prop} {O' : Option Value → Heap → Addr → Prop} {rest : List Value} {as' : Array Value}
    (I : oInv l Z a0 EL wd p e s m args below meth c R own bytes mx rt nm D h k n T locs vm0 k0) (hk : k + rm.cells = k') (hn : n + rm.slots = n')
    (X : ∃ (v : Option Value) (vm₁ : Vm) (B : Pt), (s.setVm vm0).WarmedH vm₁ ∧ Stand p l e R ((s.setVm vm0).setVm B.U.vm) m args below meth c B.U B.locs B.cells B.slots ∧ (s.setVm vm0).Since B.U.vm B.U.heap.size ∧ T.heap.size ≤ B.U.heap.size ∧
      (fun (A : Pt) (_ : Array Value) (v : Option Value) (B : Pt) => ∃ L, (Q' v B.U.heap ∧ ∀ x, O' v B.U.heap x → Z.heap.size ≤ x ∧ x < B.U.heap.size ∧ Safe Z EL B.U.vm B.U.heap x) ∧ Fr Z.heap.size L ∧ Ext Z.heap B.U.heap ∧ B.locs = A.locs ++ L ∧ B.cells = A.cells + rm.cells ∧ B.slots = A.slots + rm.slots ∧ CHr Z EL vm0 h B.U.vm B.U.heap ∧ (wd ∨ A.U.WarmedH B.U.vm)) ⟨T.setVm vm₁, locs, k, n⟩ as' v B ∧
      Steps p.tables e below (T.setTop (mkF m pc Ls st)) (B.U.setTop (mkF m pc' Ls (v.toList ++ rest))))
    (g : ∀ v h', h.size ≤ h'.size → Q' v h' → ∃ D2 : List Addr, (∀ x ∈ D2, x ∈ D ∨ O' v h' x) ∧ oGo l Z a0 EL wd p e s m args below meth c R own bytes mx rt nm Q O D2 h' k' n' pc' Ls (v.toList ++ rest)) : oRes Z EL wd p e s below R Q O (T.setTop (mkF m pc Ls st)) := by
  subst hk hn
  obtain ⟨⟨hx, hb, hm, hr, hl, hn, hE⟩, hT, hO, hF, X0, hS, hk, hZ, hown, hC, hwd, hDk⟩ := I
  obtain ⟨v, vm₁, ⟨U, Lb, kb, nb⟩, hW1, XB, hSB, hsz, ⟨L, ⟨hq, hOq⟩, hFL, hOB, e1, e2, e3, hCB, hwB⟩, hst⟩ := X
  dsimp only [Pt.U, Pt.locs, Pt.cells, Pt.slots] at *
  subst e1 e2 e3
  rw [hT] at hsz
  obtain ⟨X', hS', hZ', hown'⟩ := rebS hS hk XB hSB hsz hZ hown
  have hwd' : wd ∨ s.WarmedH U.vm := by
    rcases hwd with q | q
    · exact Or.inl q
    · rcases hwB with r | r
      · exact Or.inl r
      · exact Or.inr (State.WarmedH.trans (t := s.setVm vm0) q (State.WarmedH.trans (s := s.setVm vm0) (t := T.setVm vm₁) hW1 r))
  obtain ⟨D2, hD2, g2⟩ := g v U.heap hsz hq
  have hDk2 : oDok Z EL U.vm U.heap D2 := fun x hx' => (hD2 x hx').elim (fun q => hDk.chr hCB x q) (fun q => hOq x q)
  obtain ⟨V, v', L', hs, r⟩ := g2 U (locs ++ L) U.vm U.heap.size ⟨⟨hx, hb, hm, hr, hl, hn, hE⟩, rfl, hOB, hF.app hFL, X', hS', Nat.le_refl _, hZ', hown', hC.trans hCB, hwd', hDk2⟩
  exact ⟨V, v', L', hst.trans hs, r⟩
theorem oGo.invokestatic {idx : Nat} {y : MethodName} {b' : ByteArray} {mx' : Nat} {rt' rs : Option FieldType} {ps : List FieldType} {rm : Room} {D' : List Addr} {Q' : Option Value → Heap → Prop} {O' : Option Value → Heap → Addr → Prop} {k' n' : Nat} {argsL rest : List Value}
    (hd : decode bytes pc = .ok (.invokestatic idx, 3)) (hp : pc + 3 = pc') (w1 : (Cond.methodLink own idx y).before a0 Z = true) (w2 : (Cond.static y).before a0 Z = true) (w3 : (Cond.initialized y.cls).before a0 Z = true) (w4 : (Cond.code y b' mx' rt').before a0 Z = true)
    (hy : y.cls ≠ "java/lang/invoke/MethodHandle" ∧ y.cls ≠ "java/lang/invoke/VarHandle") (pd : parseMethodDescriptor y.desc = some ⟨ps, rs⟩) (hll : argsL.length = ps.length) (hst : st = argsL.reverse ++ rest) (hsz : Ls.size = mx)
    (hM : oCtr [] l Z a0 EL wd y b' mx' rt' rm argsL.toArray D' h Q' O') (hD : ∀ x ∈ D', x ∈ D) (hf : rm.frames + 1 ≤ R.frames) (hl : (rest.map fun v => v.category).sum + (mx' + 11) + rm.locals ≤ R.locals) (hk : k + rm.cells = k') (hn : n + rm.slots = n') (hc : k' ≤ R.cells) (hs : n' ≤ R.slots)
    (g : ∀ v h', h.size ≤ h'.size → Q' v h' → ∃ D2 : List Addr, (∀ x ∈ D2, x ∈ D ∨ O' v h' x) ∧ oGo l Z a0 EL wd p e s m args below meth c R own bytes mx rt nm Q O D2 h' k' n' pc' Ls (v.toList ++ rest)) : oGo l Z a0 EL wd p e s m args below meth c R own bytes mx rt nm Q O D h k n pc Ls st := by
  subst hp hst
  intro T locs vm0 k0 I
  have I0 := I
  obtain ⟨⟨hx, hb, hm, hr, hlk, hnm, hE⟩, hT, hO, hF, X, hS, hk0, hZ, hown, hC, hwd, hDk⟩ := I
  refine oGo.after I0 hk hn (as' := argsL.toArray) (rest := rest) (callSS (s := s.setVm vm0) X hx hown (mvT (s := s.setVm vm0) hZ w1) (mvT (s := s.setVm vm0) hZ w2) (mvT (s := s.setVm vm0) hZ w3) (mvT (s := s.setVm vm0) hZ w4) hy
    (oCtr.back (W := (rest.map fun v => v.category).sum) hM hZ w4 w3 hf hl hE hO hC.1 (hDk.sub hD)) (g := mkF m pc Ls (argsL.reverse ++ rest)) rfl (hsz.trans hm.symm) (lenOf pd hll) rfl (by show 2 * 0 + _ ≤ _; omega) (by rw [hb]; exact hd) (fun _ _ => ⟨rfl, hT, by show k + _ ≤ _; omega, by show n + _ ≤ _; omega⟩)) g
theorem oGo.invokespecial {idx : Nat} {y : MethodName} {b' : ByteArray} {mx' : Nat} {rs : Option FieldType} {ps : List FieldType} {rm : Room} {D' : List Addr} {Q' : Option Value → Heap → Prop} {O' : Option Value → Heap → Addr → Prop} {k' n' : Nat} {a : Addr} {argsL rest : List Value}
    (hd : decode bytes pc = .ok (.invokespecial idx, 3)) (hp : pc + 3 = pc') (hi : y.name = "<init>") (w1 : (Cond.methodLink own idx y).before a0 Z = true) (w2 : (Cond.instanceMethod y).before a0 Z = true) (w3 : (Cond.initialized y.cls).before a0 Z = true) (w4 : (Cond.code y b' mx' none).before a0 Z = true)
    (hy : y.cls ≠ "java/lang/invoke/MethodHandle" ∧ y.cls ≠ "java/lang/invoke/VarHandle") (pd : parseMethodDescriptor y.desc = some ⟨ps, rs⟩) (hll : argsL.length = ps.length) (hst : st = argsL.reverse ++ .ref a :: rest) (hsz : Ls.size = mx)
    (hM : oCtr [] l Z a0 EL wd y b' mx' none rm (.ref a :: argsL).toArray D' h Q' O') (hD : ∀ x ∈ D', x ∈ D) (hf : rm.frames + 1 ≤ R.frames) (hl : (rest.map fun v => v.category).sum + (mx' + 11) + rm.locals ≤ R.locals) (hk : k + rm.cells = k') (hn : n + rm.slots = n') (hc : k' ≤ R.cells) (hs : n' ≤ R.slots)
    (g : ∀ v h', h.size ≤ h'.size → Q' v h' → ∃ D2 : List Addr, (∀ x ∈ D2, x ∈ D ∨ O' v h' x) ∧ oGo l Z a0 EL wd p e s m args below meth c R own bytes mx rt nm Q O D2 h' k' n' pc' Ls (v.toList ++ rest)) : oGo l Z a0 EL wd p e s m args below meth c R own bytes mx rt nm Q O D h k n pc Ls st := by
  subst hp hst
  intro T locs vm0 k0 I
  have I0 := I
  obtain ⟨⟨hx, hb, hm, hr, hlk, hnm, hE⟩, hT, hO, hF, X, hS, hk0, hZ, hown, hC, hwd, hDk⟩ := I
  refine oGo.after I0 hk hn (as' := (.ref a :: argsL).toArray) (rest := rest) (X.specialBackS hx hi hown (mvT (s := s.setVm vm0) hZ w1) (mvT (s := s.setVm vm0) hZ w2) (mvT (s := s.setVm vm0) hZ w4) hy
    (oCtr.back (W := (rest.map fun v => v.category).sum) hM hZ w4 w3 hf hl hE hO hC.1 (hDk.sub hD)) (g := mkF m pc Ls (argsL.reverse ++ .ref a :: rest)) rfl (hsz.trans hm.symm) (Steps.refl _) (lenOf pd hll) rfl (by show 2 * 0 + _ ≤ _; omega) (by rw [hb]; exact hd) (fun _ _ => ⟨rfl, hT, by show k + _ ≤ _; omega, by show n + _ ≤ _; omega⟩)) g
theorem own_notface {args : Array Value} {s : State} {C5 : String} {y y5 z5 : MethodName} (w : (Cond.selects C5 y5 z5).before args s = true) (h : z5.cls = y.cls) : NotFace s y := fun r0 h0 => by
  obtain ⟨c2, r2, m2, -, -, q3, -, kP, hkP, hkPi⟩ := Cond.selects_spec w
  have f1 := findClass_of_methodNamed q3
  have f2 := findClass_of_methodNamed h0
  rw [h] at f1
  have e := Option.some.inj (f1.symm.trans f2)
  rw [e] at hkP; exact ⟨kP, hkP, hkPi⟩
theorem oGo.invokevirtual {idx : Nat} {y z : MethodName} {Cn C5 : String} {y5 z5 : MethodName} {b' : ByteArray} {mx' : Nat} {rt' rs : Option FieldType} {ps : List FieldType} {rm : Room} {D' : List Addr} {Q' : Option Value → Heap → Prop} {O' : Option Value → Heap → Addr → Prop} {k' n' : Nat} {a : Addr} {argsL rest : List Value}
    (hd : decode bytes pc = .ok (.invokevirtual idx, 3)) (hp : pc + 3 = pc') (w1 : (Cond.methodLink own idx y).before a0 Z = true) (w2 : (Cond.declares y).before a0 Z = true) (w5 : (Cond.selects Cn y z).before a0 Z = true) (w7 : (Cond.selects C5 y5 z5).before a0 Z = true) (h7 : z5.cls = y.cls) (w6 : (Cond.instanceMethod z).before a0 Z = true) (w3 : (Cond.initialized z.cls).before a0 Z = true) (w4 : (Cond.code z b' mx' rt').before a0 Z = true)
    (hy : y.cls ≠ "java/lang/invoke/MethodHandle" ∧ y.cls ≠ "java/lang/invoke/VarHandle") (pd : parseMethodDescriptor y.desc = some ⟨ps, rs⟩) (hll : argsL.length = ps.length) (hst : st = argsL.reverse ++ .ref a :: rest) (hsz : Ls.size = mx) (E : Exa Z h a Cn)
    (hM : oCtr [] l Z a0 EL wd z b' mx' rt' rm (.ref a :: argsL).toArray D' h Q' O') (hD : ∀ x ∈ D', x ∈ D) (hf : rm.frames + 1 ≤ R.frames) (hl : (rest.map fun v => v.category).sum + (mx' + 11) + rm.locals ≤ R.locals) (hk : k + rm.cells = k') (hn : n + rm.slots = n') (hc : k' ≤ R.cells) (hs : n' ≤ R.slots)
    (g : ∀ v h', h.size ≤ h'.size → Q' v h' → ∃ D2 : List Addr, (∀ x ∈ D2, x ∈ D ∨ O' v h' x) ∧ oGo l Z a0 EL wd p e s m args below meth c R own bytes mx rt nm Q O D2 h' k' n' pc' Ls (v.toList ++ rest)) : oGo l Z a0 EL wd p e s m args below meth c R own bytes mx rt nm Q O D h k n pc Ls st := by
  subst hp hst
  intro T locs vm0 k0 I
  have I0 := I
  obtain ⟨⟨hx, hb, hm, hr, hlk, hnm, hE⟩, hT, hO, hF, X, hS, hk0, hZ, hown, hC, hwd, hDk⟩ := I
  obtain ⟨cq, kq, q1, q2, q3⟩ := isOf (s := s.setVm vm0) (T := T) hZ hT E
  refine oGo.after I0 hk hn (as' := (.ref a :: argsL).toArray) (rest := rest) (X.virtualBackS hx hown (mvT (s := s.setVm vm0) hZ w1) (mvT (s := s.setVm vm0) hZ w2) (own_notface (args := #[]) (mvT (s := s.setVm vm0) hZ w7) h7) (mvT (s := s.setVm vm0) hZ w5) (mvT (s := s.setVm vm0) hZ w6) hy
    (oCtr.back (W := (rest.map fun v => v.category).sum) hM hZ w4 w3 hf hl hE hO hC.1 (hDk.sub hD)) q1 q3 (g := mkF m pc Ls (argsL.reverse ++ .ref a :: rest)) rfl (hsz.trans hm.symm) (Steps.refl _) (lenOf pd hll) rfl (by show 2 * 0 + _ ≤ _; omega) (by rw [hb]; exact hd) (fun _ _ => ⟨rfl, hT, by show k + _ ≤ _; omega, by show n + _ ≤ _; omega⟩)) g
/-! ### the end -/
theorem oGo.leave {T : State} {locs : List Loc} {vm0 : Vm} {k0 : Nat} {v : Option Value} (I : oInv l Z a0 EL wd p e s m args below meth c R own bytes mx rt nm D h k n T locs vm0 k0) (hk : k ≤ R.cells) (hn : n ≤ R.slots) (hv : rt = none → v = none) (hq : Q v h) (hOx : ∀ x, O v h x → x ∈ D)
    (hst : ∀ fs, (∀ (f : JFrame) (acts : List Action), f.method = m → f.locked = none → f.entered = [] → (doReturn e (T.setTop f) acts v).1 = T.setFrames fs) → Steps p.tables e below (T.setTop (mkF m pc Ls st)) (T.setFrames fs)) : oRes Z EL wd p e s below R Q O (T.setTop (mkF m pc Ls st)) := by
  obtain ⟨⟨hx, hb, hm, hr, hl, hnm, hE⟩, hT, hO, hF, X, hS, hk0, hZ, hown, hC, hwd, hDk⟩ := I
  obtain ⟨fs, h1, h2, h3, h4⟩ := X.leaveW hS (by rw [hT]; exact hk0) (v := v) (by rw [hr]; exact hv) hl
  have hW : (s.setVm vm0).WarmedH T.vm := X.warmed
  refine ⟨T.setFrames fs, v, locs, hst fs h1, h2, h3, ⟨by show Q v T.heap; rw [hT]; exact hq, fun x qx => ?_⟩, hF, by show Ext Z.heap T.heap; rw [hT]; exact hO, ?_, ?_, h4.1, h4.2.1, h4.2.2.1, h4.2.2.2.mono hk hn⟩
  · have qx' : O v h x := by rw [← hT]; exact qx
    show Z.heap.size ≤ x ∧ x < T.heap.size ∧ Safe Z EL T.vm T.heap x
    rw [hT]; exact hDk.chr (CHv.at X hZ hE hC.1) x (hOx x qx')
  · show CHr Z EL s.vm s.heap T.vm T.heap
    rw [hT]; exact hC.trans (CHv.at X hZ hE hC.1)
  · exact hwd.imp id fun q => State.WarmedH.trans (t := s.setVm vm0) q hW
theorem oGo.ireturn {z : Int32} (hd : decode bytes pc = .ok (.ireturn, 1)) (hr : rt = some .int) (hk : k ≤ R.cells) (hn : n ≤ R.slots) (hq : Q (some (.int z)) h) (hOx : ∀ x, O (some (.int z)) h x → x ∈ D) : oGo l Z a0 EL wd p e s m args below meth c R own bytes mx rt nm Q O D h k n pc Ls (.int z :: st) := fun T locs vm0 k0 I =>
  oGo.leave I hk hn (fun q => by rw [hr] at q; cases q) hq hOx fun fs hfs => retOut I.2.2.2.2.1 I.1.1 (by rw [I.1.2.2.2.1]; exact hr) rfl (Or.inl ⟨rfl, Or.inl rfl, z, rfl⟩) (by rw [I.1.2.1]; exact hd) hfs
theorem oGo.nreturn {z w : Int32} {t : FieldType} (hd : decode bytes pc = .ok (.ireturn, 1)) (hr : rt = some t) (ht : t = .boolean ∨ t = .byte ∨ t = .char ∨ t = .short) (hw : nar t z = w) (hk : k ≤ R.cells) (hn : n ≤ R.slots) (hq : Q (some (.int w)) h) (hOx : ∀ x, O (some (.int w)) h x → x ∈ D) : oGo l Z a0 EL wd p e s m args below meth c R own bytes mx rt nm Q O D h k n pc Ls (.int z :: st) := fun T locs vm0 k0 I =>
  oGo.leave I hk hn (fun q => by rw [hr] at q; cases q) hq hOx fun fs hfs => retN I.2.2.2.2.1 I.1.1 (by rw [I.1.2.2.2.1]; exact hr) ht (by rw [I.1.2.1]; exact hd) (by rw [hw]; exact hfs)
theorem oGo.lreturn {z : Int64} (hd : decode bytes pc = .ok (.lreturn, 1)) (hr : rt = some .long) (hk : k ≤ R.cells) (hn : n ≤ R.slots) (hq : Q (some (.long z)) h) (hOx : ∀ x, O (some (.long z)) h x → x ∈ D) : oGo l Z a0 EL wd p e s m args below meth c R own bytes mx rt nm Q O D h k n pc Ls (.long z :: st) := fun T locs vm0 k0 I =>
  oGo.leave I hk hn (fun q => by rw [hr] at q; cases q) hq hOx fun fs hfs => retOut I.2.2.2.2.1 I.1.1 (by rw [I.1.2.2.2.1]; exact hr) rfl (Or.inr (Or.inl ⟨rfl, rfl, z, rfl⟩)) (by rw [I.1.2.1]; exact hd) hfs
theorem oGo.areturn {v : Value} {t : FieldType} (hd : decode bytes pc = .ok (.areturn, 1)) (hr : rt = some t) (ht : t.isReference = true) (hv : v.isRef = true) (hw : narrow t v = v) (hk : k ≤ R.cells) (hn : n ≤ R.slots) (hq : Q (some v) h) (hOx : ∀ x, O (some v) h x → x ∈ D) : oGo l Z a0 EL wd p e s m args below meth c R own bytes mx rt nm Q O D h k n pc Ls (v :: st) := fun T locs vm0 k0 I =>
  oGo.leave I hk hn (fun q => by rw [hr] at q; cases q) hq hOx fun fs hfs => retOut I.2.2.2.2.1 I.1.1 (by rw [I.1.2.2.2.1]; exact hr) hw (Or.inr (Or.inr (Or.inr (Or.inr ⟨rfl, ht, hv⟩)))) (by rw [I.1.2.1]; exact hd) hfs
theorem oGo.return_ (hd : decode bytes pc = .ok (.return_, 1)) (hr : rt = none) (hk : k ≤ R.cells) (hn : n ≤ R.slots) (hq : Q none h) (hOx : ∀ x, O none h x → x ∈ D) : oGo l Z a0 EL wd p e s m args below meth c R own bytes mx rt nm Q O D h k n pc Ls [] := fun T locs vm0 k0 I =>
  oGo.leave I hk hn (fun _ => rfl) hq hOx fun fs hfs => I.2.2.2.2.1.returnOut I.1.1 (by rw [I.1.2.2.2.1]; exact hr) (by rw [I.1.2.1]; exact hd) hfs
end Logic
/-! ### addresses are natural numbers -/
theorem own_ne {a b : Nat} (h : a ≠ b) : a ≠ b := h
theorem own_ltN {a n : Nat} (h : a < n) : a < n := h
theorem own_leN {a n : Nat} (h : a ≤ n) : a ≤ n := h
theorem own_ne_ge {x y n : Nat} (h : x < n) (g : n ≤ y) : x ≠ y := by omega
theorem own_ne_ge' {x y n : Nat} (h : x < n) (g : n ≤ y) : y ≠ x := by omega
theorem own_ne_or {x y z n : Nat} (h : x ≠ y) (l : x < n) (q : z = y ∨ n ≤ z) : x ≠ z := by rcases q with rfl | q; exact h; omega
theorem own_ne_or' {x y z n : Nat} (h : x ≠ y) (l : x < n) (q : z = y ∨ n ≤ z) : z ≠ x := Ne.symm (own_ne_or h l q)
theorem own_ge_or {y z n m : Nat} (h : m ≤ y) (l : m ≤ n) (q : z = y ∨ n ≤ z) : m ≤ z := by rcases q with rfl | q; exact h; omega
theorem own_lt_le {x n m : Nat} (h : x < n) (g : n ≤ m) : x < m := Nat.lt_of_lt_of_le h g
theorem own_le_le {x n m : Nat} (h : x ≤ n) (g : n ≤ m) : x ≤ m := Nat.le_trans h g
theorem own_ge_eq {a n : Nat} (h : a = n) : n ≤ a := by omega
theorem own_nin1 {a b : Nat} (h : a ≠ b) : a ∉ [b] := by simpa using h
theorem own_nin2 {a b c : Nat} (h : a ≠ b) (h2 : a ≠ c) : a ∉ [b, c] := by simp [h, h2]
theorem own_new1 {a n : Nat} {ws : List Nat} (h : n ≤ a) : ∀ x ∈ [a], x ∈ ws ∨ n ≤ x := fun x hx => Or.inr (by rw [List.mem_singleton.mp hx]; exact h)
theorem own_new2 {a b n : Nat} {ws : List Nat} (h : n ≤ a) (h2 : n ≤ b) : ∀ x ∈ [a, b], x ∈ ws ∨ n ≤ x := fun x hx => Or.inr (by rcases List.mem_cons.mp hx with rfl | hx; exact h; rw [List.mem_singleton.mp hx]; exact h2)
theorem own_D1 {t : Nat} {D : List Nat} {P : Nat → Prop} (h : P t) : ∀ x ∈ t :: D, x ∈ D ∨ P x := fun x hx => (List.mem_cons.mp hx).elim (fun e => Or.inr (e ▸ h)) Or.inl
/-! ### numbers and texts -/
abbrev oI (xs : List Int32) : List Value := xs.map Value.int
def lo8 (x : Int32) : Int32 := x.toInt8.toInt32
def hi8 (x : Int32) : Int32 := lo8 (x >>> ((8 : Int32) &&& 31))
def wide2 (cs : List Int32) : List Int32 := cs.flatMap fun c => [lo8 c, hi8 c]
theorem lo8_idem (x : Int32) : nar .byte (lo8 x) = lo8 x := by
  show (x.toInt8.toInt32).toInt8.toInt32 = x.toInt8.toInt32
  rw [Int8.toInt8_toInt32]
theorem own_succ (i : Nat) : Int32.ofNat i + 1 = Int32.ofNat (i + 1) := by
  rw [Int32.ofNat_add]; rfl
theorem own_lt {a b : Nat} (ha : a < 2147483648) (hb : b < 2147483648) : Int32.ofNat a < Int32.ofNat b ↔ a < b := by
  rw [Int32.lt_iff_toInt_lt, own_i32 ha, own_i32 hb]; omega
theorem own_eq {a b : Nat} (ha : a < 2147483648) (hb : b < 2147483648) : Int32.ofNat a = Int32.ofNat b ↔ a = b := by
  rw [← Int32.toInt_inj, own_i32 ha, own_i32 hb]; omega
theorem own_shl1 (i : Nat) : Int32.ofNat i <<< ((1 : Int32) &&& 31) = Int32.ofNat (2 * i) := by
  rw [shlm (m := 2) (by decide), Nat.mul_comm, Int32.ofNat_mul]; rfl
theorem own_ge0 {x : Int32} : ¬ x < 0 ↔ 0 ≤ x.toInt := by rw [Int32.lt_iff_toInt_lt]; simp
theorem own_le {x : Int32} {n : Int32} : ¬ n < x ↔ x.toInt ≤ n.toInt := by rw [Int32.lt_iff_toInt_lt]; omega
/-- an int between two bounds, as a natural number -/
theorem own_nat {x : Int32} {N : Nat} (h0 : 0 ≤ x.toInt) (h1 : x.toInt < N) : ∃ i : Nat, i < N ∧ x = Int32.ofNat i := by
  refine ⟨x.toInt.toNat, by omega, ?_⟩
  apply Int32.toInt_inj.mp
  have := Int32.toInt_lt x
  rw [own_i32 (by omega)]; omega
theorem own_char {x : Int32} (h : fits .char (.int x) = true) : ¬ x < 0 ∧ ¬ 65535 < x := rng_char h
theorem own_take_set {α : Type} (xs : List α) (i : Nat) (v : α) (h : i < xs.length) : (xs.set i v).take (i + 1) = xs.take i ++ [v] := by
  rw [List.take_set, List.take_add_one, List.set_append_right _ _ (by simp; omega)]
  simp [h, Nat.min_eq_left (Nat.le_of_lt h)]
theorem own_take_succ {α : Type} (xs : List α) (i : Nat) (v : α) (h : xs[i]? = some v) : xs.take (i + 1) = xs.take i ++ [v] := by
  rw [List.take_add_one, h]; rfl
theorem wide2_len (cs : List Int32) : (wide2 cs).length = 2 * cs.length := by
  induction cs with
  | nil => rfl
  | cons c cs ih => simp only [wide2, List.flatMap_cons, List.length_append, List.length_cons, List.length_nil] at ih ⊢; rw [ih]; omega
theorem wide2_get (cs : List Int32) : ∀ (i : Nat) (c : Int32), cs[i]? = some c → (wide2 cs)[2 * i]? = some (lo8 c) ∧ (wide2 cs)[2 * i + 1]? = some (hi8 c) := by
  induction cs with
  | nil => intro i c h; simp at h
  | cons a cs ih =>
    intro i c h
    cases i with
    | zero => simp at h; subst h; exact ⟨rfl, rfl⟩
    | succ i =>
      have := ih i c (by simpa using h)
      have e : wide2 (a :: cs) = lo8 a :: hi8 a :: wide2 cs := rfl
      rw [e, show 2 * (i + 1) = 2 * i + 1 + 1 by omega]
      simpa using this
theorem wide2_lo (cs : List Int32) (i : Nat) (c : Int32) (h : cs[i]? = some c) : (oI (wide2 cs))[2 * i]? = some (.int (lo8 c)) := by rw [List.getElem?_map, (wide2_get cs i c h).1]; rfl
theorem wide2_hi (cs : List Int32) (i : Nat) (c : Int32) (h : cs[i]? = some c) : (oI (wide2 cs))[2 * i + 1]? = some (.int (hi8 c)) := by rw [List.getElem?_map, (wide2_get cs i c h).2]; rfl
theorem wide2_step (cs : List Int32) (vs : List Value) (i : Nat) (c : Int32) (h : cs[i]? = some c) (hv : 2 * i + 1 < vs.length) (ht : vs.take (2 * i) = (oI (wide2 cs)).take (2 * i)) :
    ((vs.set (2 * i) (.int (lo8 c))).set (2 * i + 1) (.int (hi8 c))).take (2 * (i + 1)) = (oI (wide2 cs)).take (2 * (i + 1)) := by
  rw [show 2 * (i + 1) = 2 * i + 1 + 1 by omega, own_take_set _ _ _ (by simpa using hv), own_take_set _ _ _ (by omega), ht, own_take_succ _ _ _ (wide2_hi cs i c h), own_take_succ _ _ _ (wide2_lo cs i c h)]
def oStr (Z : State) (h : Heap) (x t : Addr) (cs : List Int32) : Prop := Exa Z h x "java/lang/String" ∧ Fld Z h x "java/lang/String" "value" "[B" (.ref t) ∧
  ((Fld Z h x "java/lang/String" "coder" "B" (.int 0) ∧ oArr Z h t .byte (oI (cs.map lo8)) ∧ ∀ c ∈ cs, ¬ 255 < c) ∨ (Fld Z h x "java/lang/String" "coder" "B" (.int 1) ∧ oArr Z h t .byte (oI (wide2 cs)))) ∧ ∀ c ∈ cs, ¬ c < 0 ∧ ¬ 65535 < c
theorem shr0 (c : Int32) : c >>> ((0 : Int32) &&& 31) = c := by
  rw [show ((0 : Int32) &&& 31) = 0 from by decide]; simp
theorem own_toNat {x : Int32} (h0 : 0 ≤ x.toInt) : (x.toBitVec.toNat : Int) = x.toInt := by
  have := x.toBitVec.isLt
  have e : x.toInt = x.toBitVec.toInt := rfl
  rw [e] at h0 ⊢
  rw [BitVec.toInt_eq_toNat_cond] at h0 ⊢
  split at h0 <;> split <;> omega
theorem own_ofNat {x : Int32} {n : Nat} (h : x.toBitVec.toNat = n) : x = Int32.ofNat n := by
  apply Int32.toBitVec_inj.mp
  apply BitVec.eq_of_toNat_eq
  rw [h]
  show _ = (BitVec.ofNat 32 n).toNat
  rw [BitVec.toNat_ofNat, ← h]; have := x.toBitVec.isLt; omega
theorem lo8_and (x : Int32) : (lo8 x &&& 255).toBitVec.toNat = x.toBitVec.toNat % 256 := by
  have h : (lo8 x).toBitVec = (x.toBitVec.signExtend 8).signExtend 32 := by rw [lo8, Int8.toBitVec_toInt32, Int32.toBitVec_toInt8]
  have e : ((x.toBitVec.signExtend 8).signExtend 32).toNat % 256 = x.toBitVec.toNat % 256 := by
    have hlt := x.toBitVec.isLt
    simp only [BitVec.toNat_setWidth, BitVec.toNat_signExtend]
    split <;> split <;> omega
  rw [Int32.toBitVec_and, BitVec.toNat_and, h, ← e]
  exact Nat.and_two_pow_sub_one_eq_mod _ 8
theorem own_i2c (x : Int32) : (x.toUInt32.toUInt16.toUInt32.toInt32).toBitVec.toNat = x.toBitVec.toNat % 65536 := by
  show ((x.toBitVec.setWidth 16).setWidth 32).toNat = _
  have := x.toBitVec.isLt
  simp only [BitVec.toNat_setWidth]; omega
theorem nar_char {c : Int32} (h0 : ¬ c < 0) (h1 : ¬ 65535 < c) : nar .char c = c := by
  have a := own_toNat (own_ge0.mp h0)
  have b := own_le.mp h1
  have e : (65535 : Int32).toInt = 65535 := rfl
  apply Int32.toBitVec_inj.mp
  apply BitVec.eq_of_toNat_eq
  show (c.toUInt32.toUInt16.toUInt32.toInt32).toBitVec.toNat = _
  rw [own_i2c]; omega
theorem nar_nar (x : Int32) : nar .char (nar .char x) = nar .char x := nar_char (own_char (fits_nar_char x)).1 (own_char (fits_nar_char x)).2
theorem lat_says {c : Int32} (h0 : ¬ c < 0) (h1 : ¬ 255 < c) : nar .char ((lo8 c &&& 255).toUInt32.toUInt16.toUInt32.toInt32) = c := by
  have a := own_toNat (own_ge0.mp h0)
  have b := own_le.mp h1
  have e : (255 : Int32).toInt = 255 := rfl
  apply Int32.toBitVec_inj.mp
  apply BitVec.eq_of_toNat_eq
  show ((lo8 c &&& 255).toUInt32.toUInt16.toUInt32.toInt32.toUInt32.toUInt16.toUInt32.toInt32).toBitVec.toNat = _
  rw [own_i2c, own_i2c, lo8_and]; omega
theorem pair_says {c : Int32} (h0 : ¬ c < 0) (h1 : ¬ 65535 < c) : nar .char ((((lo8 c &&& 255) <<< ((0 : Int32) &&& 31)) ||| ((hi8 c &&& 255) <<< ((8 : Int32) &&& 31))).toUInt32.toUInt16.toUInt32.toInt32) = c := by
  have a := own_toNat (own_ge0.mp h0)
  have b := own_le.mp h1
  have e : (65535 : Int32).toInt = 65535 := rfl
  have hn : c.toBitVec.toNat < 65536 := by omega
  have a1 := lo8_and c
  have a2 : (hi8 c &&& 255).toBitVec.toNat = c.toBitVec.toNat / 256 := by
    rw [hi8, lo8_and]
    have e : ((8 : Int32) &&& 31) = 8 := by decide
    rw [e, Int32.toBitVec_shiftRight]
    have e2 : ((8 : Int32).toBitVec.smod 32) = 8#32 := by decide
    rw [e2, BitVec.sshiftRight_eq', BitVec.toNat_sshiftRight_of_msb_false (by rw [BitVec.msb_eq_false_iff_two_mul_lt]; omega)]
    show c.toBitVec.toNat >>> 8 % 256 = _
    rw [Nat.shiftRight_eq_div_pow]
    omega
  rw [shlm (x := lo8 c &&& 255) (k := 0) (m := 1) (by decide), shlm (x := hi8 c &&& 255) (k := 8) (m := 256) (by decide), Int32.mul_one]
  apply Int32.toBitVec_inj.mp
  apply BitVec.eq_of_toNat_eq
  show ((((lo8 c &&& 255) ||| ((hi8 c &&& 255) * 256)).toUInt32.toUInt16.toUInt32.toInt32).toUInt32.toUInt16.toUInt32.toInt32).toBitVec.toNat = _
  rw [own_i2c, own_i2c, Int32.toBitVec_or, BitVec.toNat_or, a1, Int32.toBitVec_mul, BitVec.toNat_mul, a2]
  have e3 : (c.toBitVec.toNat / 256 * (256 : Int32).toBitVec.toNat) % 2 ^ 32 = 2 ^ 8 * (c.toBitVec.toNat / 256) := by
    show (c.toBitVec.toNat / 256 * 256) % 4294967296 = _
    omega
  rw [e3, Nat.or_comm, ← Nat.two_pow_add_eq_or_of_lt (by omega)]
  omega
theorem own_shr1 {n : Nat} (h : 2 * n < 2147483648) : Int32.ofNat (2 * n) >>> ((1 : Int32) &&& 31) = Int32.ofNat n := by
  have a := own_toNat (x := Int32.ofNat (2 * n)) (by rw [own_i32 h]; omega)
  rw [own_i32 h] at a
  apply own_ofNat
  rw [show ((1 : Int32) &&& 31) = 1 by decide, Int32.toBitVec_shiftRight, show ((1 : Int32).toBitVec.smod 32) = 1#32 by decide, BitVec.sshiftRight_eq', BitVec.toNat_sshiftRight_of_msb_false (by rw [BitVec.msb_eq_false_iff_two_mul_lt]; omega)]
  show (Int32.ofNat (2 * n)).toBitVec.toNat >>> 1 = _
  rw [Nat.shiftRight_eq_div_pow]; omega
theorem own_and_lo (x m : Int32) (hm : ¬ m < 0) : ¬ (x &&& m) < 0 := own_ge0.mpr ((c_andS x m).2.2 (own_ge0.mp hm))
theorem own_and_hi (x m : Int32) (hm : ¬ m < 0) : ¬ m < (x &&& m) := by
  rw [own_le]
  have a := own_toNat (own_ge0.mp (own_and_lo x m hm))
  have b := own_toNat (own_ge0.mp hm)
  have c : (x &&& m).toBitVec.toNat ≤ m.toBitVec.toNat := by
    rw [Int32.toBitVec_and, BitVec.toNat_and]; exact Nat.and_le_right
  omega
theorem own_sub {x y : Int32} (h1 : -2147483648 ≤ x.toInt - y.toInt) (h2 : x.toInt - y.toInt < 2147483648) : (x - y).toInt = x.toInt - y.toInt := by
  rw [Int32.toInt_sub]
  exact Int.bmod_eq_of_le (by omega) (by omega)
theorem own_subI {i j : Nat} (hi : i < 1000000) (hj : j < 1000000) : (Int32.ofNat j - Int32.ofNat i).toInt = (j : Int) - i := by
  have a := own_i32 (i := i) (by omega)
  have b := own_i32 (i := j) (by omega)
  rw [own_sub (by omega) (by omega), a, b]
theorem own_subc {x k : Int32} (h0 : 0 ≤ k.toInt) (h1 : k.toInt ≤ x.toInt) : (x - k).toInt = x.toInt - k.toInt := by
  have := Int32.toInt_lt x
  exact own_sub (by omega) (by omega)
theorem own_eqI {args : Array Value} {first s : State} {o : Option Outcome} {idx : List Nat} {t : Term} {n : Int32} (h : (Cond.eq t (Term.int n)).value args first o s idx = some true) : t.eval args first o idx s = some (.int n) := by
  simp only [Cond.value, Term.int_eval] at h
  cases ht : t.eval args first o idx s with
  | none => simp [ht] at h
  | some x => cases x <;> simp [ht] at h ⊢; exact h
theorem own_255 {c : Int32} (h : ¬ 255 < c) : ¬ 65535 < c := by
  rw [own_le] at h ⊢
  have e : (255 : Int32).toInt = 255 := rfl
  have e2 : (65535 : Int32).toInt = 65535 := rfl
  omega
theorem own_b255 (x : Int32) : ¬ (x &&& 255).toUInt32.toUInt16.toUInt32.toInt32 < 0 ∧ ¬ 255 < (x &&& 255).toUInt32.toUInt16.toUInt32.toInt32 := by
  have h0 := own_and_lo x 255 (by decide)
  have h1 := own_and_hi x 255 (by decide)
  have e : (x &&& 255).toUInt32.toUInt16.toUInt32.toInt32 = x &&& 255 := nar_char h0 (own_255 h1)
  rw [e]; exact ⟨h0, h1⟩
theorem own_irem (x k : Int32) (n : Nat) (h0 : 0 < n) (h1 : n < 2147483648) (hk : k = Int32.ofNat n) : ∃ i : Nat, i < n ∧ (x &&& 2147483647) % k = Int32.ofNat i := by
  have a := own_ge0.mp (own_and_lo x 2147483647 (by decide))
  have e : k.toInt = (n : Int) := by rw [hk, own_i32 h1]
  have b := (c_irem (x &&& 2147483647) k (n : Int) e).1 a
  refine own_nat ?_ ?_
  · rw [b]; exact Int.emod_nonneg _ (by omega)
  · rw [b]; exact Int.emod_lt_of_pos _ (by omega)
theorem own_subN {i j : Nat} (h : i ≤ j) (hj : j < 2147483648) : Int32.ofNat j - Int32.ofNat i = Int32.ofNat (j - i) := by
  apply Int32.toInt_inj.mp
  have a := own_i32 (i := i) (by omega)
  have b := own_i32 hj
  have c := own_i32 (i := j - i) (by omega)
  rw [own_sub (by omega) (by omega), a, b, c]; omega
theorem own_add2 (i : Nat) : Int32.ofNat i + 2 = Int32.ofNat (i + 2) := by rw [Int32.ofNat_add]; rfl
theorem shl0 (c : Int32) : c <<< ((0 : Int32) &&& 31) = c := by rw [shlm (m := 1) (by decide), Int32.mul_one]
theorem own_app_take {vs : List Value} {cs ds : List Int32} (hv : vs.take cs.length = oI (cs.map lo8)) (hl : cs.length + ds.length ≤ vs.length) : (vs.take cs.length ++ oI (ds.map lo8) ++ vs.drop (cs.length + ds.length)).take (cs.length + ds.length) = oI ((cs ++ ds).map lo8) := by
  rw [hv, List.take_left' (by simp)]; simp
theorem own_sub_map (cs : List Int32) (i k : Nat) : ((oI (cs.map lo8)).drop i).take k = oI (((cs.drop i).take k).map lo8) := by
  simp [List.map_drop, List.map_take]
section Logic2
variable {l : Launch} {Z : State} {a0 : Array Value} {EL : List (String × Nat)} {wd : Prop} {p : Program} {e : Env} {s : State} {m : MethodId} {args : Array Value} {below : List Frame} {meth : Method} {c : Code} {R : Room} {own : String} {bytes : ByteArray} {mx : Nat} {rt : Option FieldType} {nm : String}
  {Q : Option Value → Heap → Prop} {O : Option Value → Heap → Addr → Prop} {D : List Addr} {h : Heap} {k n : Nat} {pc pc' pc1 pc2 : Nat} {Ls Ls' : Array Slot} {st st' : List Value}
/-- a String constant whose text is known -/
theorem oGo.ldc_str {idx : Nat} {text : String} {vs : List Value} {k' n' : Nat} (hd : decode bytes pc = .ok (.ldc idx, 2)) (hp : pc + 2 = pc') (hwd : wd) (w : (Cond.stringLink own idx text).before a0 Z = true) (wS : ∀ a ∈ Bundle.stringAtoms, a.before a0 Z = true) (hmem : (own, idx) ∈ EL)
    (ht : (∀ c ∈ text.toList, c.toNat < 256) ∧ text.toList.map (fun c => Value.int (Jvm.Lit.byteI c.toNat.toUInt16)) = vs) (hvl : vs.length < 1000) (hk : k + 2 = k') (hn : n + (4 * text.toList.length + 4) = n') (hc : k' ≤ R.cells) (hl : n' ≤ R.slots)
    (g : ∀ (h' : Heap) (a b : Nat), Ext h h' → Exa Z h' a "java/lang/String" → Fld Z h' a "java/lang/String" "coder" "B" (.int 0) → Fld Z h' a "java/lang/String" "value" "[B" (.ref b) → oArr Z h' b .byte vs → a < h'.size → b < h'.size → (∀ x : Nat, x ∈ D → x ≠ a ∧ x ≠ b) → oGo l Z a0 EL wd p e s m args below meth c R own bytes mx rt nm Q O D h' k' n' pc' Ls (.ref a :: st)) : oGo l Z a0 EL wd p e s m args below meth c R own bytes mx rt nm Q O D h k n pc Ls st := by
  subst hp hk hn
  intro T locs vm0 k0 I
  obtain ⟨⟨hx, hb, hm, hr, hlk, hnm, hE⟩, hT, hO, hF, X, hS, hk0, hZ, hown, hC, hw2, hDk⟩ := I
  have hbig : 4 * text.toList.length ≤ 536870912 := by
    have : text.toList.length = vs.length := by rw [← ht.2]; simp
    omega
  obtain ⟨a, T', h', k1, b, kk, X', hT', E, hS', hk1, hZ', hown', x1, x2, x3, x4, x5, x6, x7, -, x8, hst⟩ := ldcCH X hx hZ hown w wS hT hS hk0 hE hmem hC.1 ht (z := Int32.ofNat vs.length) (own_nn (by omega)) (by rw [own_n32 (by omega)]) (g := mkF m pc Ls st) rfl (by rw [hb]; exact hd) (n := 4 * text.toList.length) (Nat.le_refl _) hbig hc hl
  obtain ⟨V, v, L, hs, r⟩ := g h' a b E x1 x2 x3 (oArr.of_arv x4 (by rw [own_n32 (by omega)])) x5 x6 (fun x hx' => x8 x (x7.safe (hDk x hx').2.1 (hDk x hx').2.2)) T' locs T'.vm k1 ⟨⟨hx, hb, hm, hr, hlk, hnm, hE⟩, hT', ext_trans hO E, hF, X', hS', hk1, hZ', hown', hC.trans x7, Or.inl hwd, hDk.chr x7⟩
  exact ⟨V, v, L, hst V hs, r⟩
/-- a String constant of which nothing is asked -/
theorem oGo.ldc_op {idx : Nat} {text : String} {k' n' : Nat} (hd : decode bytes pc = .ok (.ldc idx, 2)) (hp : pc + 2 = pc') (hwd : wd) (w : (Cond.stringLink own idx text).before a0 Z = true) (wS : ∀ a ∈ Bundle.stringAtoms, a.before a0 Z = true)
    (hbig : 4 * text.toList.length ≤ 536870912) (hk : k + 2 = k') (hn : n + (4 * text.toList.length + 4) = n') (hc : k' ≤ R.cells) (hl : n' ≤ R.slots) (g : ∀ (h' : Heap) (a : Nat), Ext h h' → oGo l Z a0 EL wd p e s m args below meth c R own bytes mx rt nm Q O D h' k' n' pc' Ls (.ref a :: st)) : oGo l Z a0 EL wd p e s m args below meth c R own bytes mx rt nm Q O D h k n pc Ls st := by
  subst hp hk hn
  intro T locs vm0 k0 I
  obtain ⟨⟨hx, hb, hm, hr, hlk, hnm, hE⟩, hT, hO, hF, X, hS, hk0, hZ, hown, hC, hw2, hDk⟩ := I
  obtain ⟨a, T', h', k1, X', hT', E, hS', hk1, hZ', hown', x7, -, hst⟩ := ldcOH X hx hZ hown w wS hT hS hk0 hE hC.1 (g := mkF m pc Ls st) rfl (by rw [hb]; exact hd) (n := 4 * text.toList.length) (Nat.le_refl _) hbig hc hl
  obtain ⟨V, v, L, hs, r⟩ := g h' a E T' locs T'.vm k1 ⟨⟨hx, hb, hm, hr, hlk, hnm, hE⟩, hT', ext_trans hO E, hF, X', hS', hk1, hZ', hown', hC.trans x7, Or.inl hwd, hDk.chr x7⟩
  exact ⟨V, v, L, hst V hs, r⟩
/-- invokevirtual of a private method -/
theorem oGo.invokeprivate {idx : Nat} {y : MethodName} {Cn : String} {b' : ByteArray} {mx' : Nat} {rt' rs : Option FieldType} {ps : List FieldType} {rm : Room} {D' : List Addr} {Q' : Option Value → Heap → Prop} {O' : Option Value → Heap → Addr → Prop} {k' n' : Nat} {a : Addr} {argsL rest : List Value}
    (hd : decode bytes pc = .ok (.invokevirtual idx, 3)) (hp : pc + 3 = pc') (w1 : (Cond.methodLink own idx y).before a0 Z = true) (w2 : (Cond.privateMethod y).before a0 Z = true) (w5 : (Cond.selects Cn y y).before a0 Z = true) (w6 : (Cond.instanceMethod y).before a0 Z = true) (w3 : (Cond.initialized y.cls).before a0 Z = true) (w4 : (Cond.code y b' mx' rt').before a0 Z = true)
    (hy : y.cls ≠ "java/lang/invoke/MethodHandle" ∧ y.cls ≠ "java/lang/invoke/VarHandle") (pd : parseMethodDescriptor y.desc = some ⟨ps, rs⟩) (hll : argsL.length = ps.length) (hst : st = argsL.reverse ++ .ref a :: rest) (hsz : Ls.size = mx) (E : Exa Z h a Cn)
    (hM : oCtr [] l Z a0 EL wd y b' mx' rt' rm (.ref a :: argsL).toArray D' h Q' O') (hD : ∀ x ∈ D', x ∈ D) (hf : rm.frames + 1 ≤ R.frames) (hl : (rest.map fun v => v.category).sum + (mx' + 11) + rm.locals ≤ R.locals) (hk : k + rm.cells = k') (hn : n + rm.slots = n') (hc : k' ≤ R.cells) (hs : n' ≤ R.slots)
    (g : ∀ v h', h.size ≤ h'.size → Q' v h' → ∃ D2 : List Addr, (∀ x ∈ D2, x ∈ D ∨ O' v h' x) ∧ oGo l Z a0 EL wd p e s m args below meth c R own bytes mx rt nm Q O D2 h' k' n' pc' Ls (v.toList ++ rest)) : oGo l Z a0 EL wd p e s m args below meth c R own bytes mx rt nm Q O D h k n pc Ls st := by
  subst hp hst
  intro T locs vm0 k0 I
  have I0 := I
  obtain ⟨⟨hx, hb, hm, hr, hlk, hnm, hE⟩, hT, hO, hF, X, hS, hk0, hZ, hown, hC, hwd, hDk⟩ := I
  have hi' := mvT (s := s.setVm vm0) (args := args) hZ w6
  have hc' := mvT (s := s.setVm vm0) (args := args) hZ w4
  have hs' := mvT (s := s.setVm vm0) (args := args) hZ w5
  have hpr := Cond.privateMethod_at (mvP (s := s.setVm vm0) (args := args) hZ w2)
  obtain ⟨mk, mM, n1, n2, n3, n4⟩ := Cond.instanceMethod_spec hi'
  obtain ⟨mM', cM, n5, -, -, -, -, -, -, n6⟩ := Cond.code_spec n1 hc'
  cases n2.symm.trans n5
  obtain ⟨c2, r2, m2, -, -, n7, -, kP, n8, n9⟩ := Cond.selects_spec hs'
  cases n1.symm.trans n7
  obtain ⟨cell, e1, e2⟩ := E.cell
  obtain ⟨vm₁, X₁, st1⟩ := X.invokevirtual hx hown (mvT (s := s.setVm vm0) hZ w1) n1 n2 n3 n8 n9 hy (a := a) (cell := cell) (by rw [hT]; exact e1) e2 (selectMethod_private n2 (hpr mk mM n1 n2)) n2 n4 n8 n9 (g := mkF m pc Ls (argsL.reverse ++ .ref a :: rest)) rfl (argsL := argsL) (rest := rest) (lenOf pd hll _ n6) rfl (by rw [hb]; exact hd)
  obtain ⟨v, B, X2, hS2, hgr, hpo, hst2⟩ := (oCtr.back (p := p) (e := e) (s := s) (args := args) (below := below) (R := R) (len := 3) (W := (rest.map fun v => v.category).sum) hM hZ w4 w3 hf hl hE hO hC.1 (hDk.sub hD)) m meth c ⟨T.setVm vm₁, locs, k, n⟩ (mkF m pc Ls rest) (.invokevirtual idx) mk (.ref a :: argsL).toArray X₁ rfl (hsz.trans hm.symm) (by show decode c.code pc = _; rw [hb]; exact hd) (by show 2 * 0 + (rest.map fun v => v.category).sum ≤ _; omega) (X₁.named n1) ⟨rfl, hT, by show k + _ ≤ _; omega, by show n + _ ≤ _; omega⟩
  exact oGo.after I0 hk hn (as' := (.ref a :: argsL).toArray) (rest := rest) ⟨v, vm₁, B, X₁.warmed, X2, hS2, hgr, hpo, (st1 _ fun acts => by rw [doInvoke_state]; exact Steps.refl _).trans hst2⟩ g
/-- invokespecial of a superclass's method -/
theorem oGo.invokesuper {idx : Nat} {y : MethodName} {Cn : String} {b' : ByteArray} {mx' : Nat} {rt' rs : Option FieldType} {ps : List FieldType} {rm : Room} {D' : List Addr} {Q' : Option Value → Heap → Prop} {O' : Option Value → Heap → Addr → Prop} {k' n' : Nat} {a : Addr} {argsL rest : List Value}
    (hd : decode bytes pc = .ok (.invokespecial idx, 3)) (hp : pc + 3 = pc') (hni : y.name ≠ "<init>") (w1 : (Cond.methodLink own idx y).before a0 Z = true) (w2 : (Cond.superclass own y.cls).before a0 Z = true) (w6 : (Cond.instanceMethod y).before a0 Z = true) {C5 : String} {y5 z5 : MethodName} (w5 : (Cond.selects C5 y5 z5).before a0 Z = true) (h5 : z5.cls = y.cls) (w3 : (Cond.initialized y.cls).before a0 Z = true) (w4 : (Cond.code y b' mx' rt').before a0 Z = true)
    (hy : y.cls ≠ "java/lang/invoke/MethodHandle" ∧ y.cls ≠ "java/lang/invoke/VarHandle") (pd : parseMethodDescriptor y.desc = some ⟨ps, rs⟩) (hll : argsL.length = ps.length) (hst : st = argsL.reverse ++ .ref a :: rest) (hsz : Ls.size = mx) (E : Exa Z h a Cn)
    (hM : oCtr [] l Z a0 EL wd y b' mx' rt' rm (.ref a :: argsL).toArray D' h Q' O') (hD : ∀ x ∈ D', x ∈ D) (hf : rm.frames + 1 ≤ R.frames) (hl : (rest.map fun v => v.category).sum + (mx' + 11) + rm.locals ≤ R.locals) (hk : k + rm.cells = k') (hn : n + rm.slots = n') (hc : k' ≤ R.cells) (hs : n' ≤ R.slots)
    (g : ∀ v h', h.size ≤ h'.size → Q' v h' → ∃ D2 : List Addr, (∀ x ∈ D2, x ∈ D ∨ O' v h' x) ∧ oGo l Z a0 EL wd p e s m args below meth c R own bytes mx rt nm Q O D2 h' k' n' pc' Ls (v.toList ++ rest)) : oGo l Z a0 EL wd p e s m args below meth c R own bytes mx rt nm Q O D h k n pc Ls st := by
  subst hp hst
  intro T locs vm0 k0 I
  have I0 := I
  obtain ⟨⟨hx, hb, hm, hr, hlk, hnm, hE⟩, hT, hO, hF, X, hS, hk0, hZ, hown, hC, hwd, hDk⟩ := I
  obtain ⟨mk, mM, n1, n2, n3, n4⟩ := Cond.instanceMethod_spec (mvT (s := s.setVm vm0) (args := args) hZ w6)
  obtain ⟨mM', cM, n5, -, -, -, -, -, -, n6⟩ := Cond.code_spec n1 (mvT (s := s.setVm vm0) (args := args) hZ w4)
  cases n2.symm.trans n5
  have hcn := findClass_of_methodNamed n1
  obtain ⟨dk, hdk, -⟩ := Vm.findClass_spec (vm := (s.setVm vm0).vm) hown
  obtain ⟨kp, hkp, -⟩ := Vm.findClass_spec hcn
  have ws := mvT (s := s.setVm vm0) (args := args) hZ w2
  have hown' : (s.setVm vm0).vm.findClass own = some m.cls := hown
  simp only [Cond.before, Cond.holds, Cond.value, hown', hcn, hdk, hkp, Option.bind_some, Option.map_some] at ws
  have ws' : ((dk.super = some mk.cls ∧ dk.kind = .ordinary) ∧ kp.kind = .ordinary) ∧ dk.isInterface = false := by simpa using ws
  obtain ⟨c5, r5, m5, -, -, f5, -, kP, f6, f7⟩ := Cond.selects_spec (mvT (s := s.setVm vm0) (args := args) hZ w5)
  have f8 := findClass_of_methodNamed f5
  rw [h5] at f8
  have f9 : mk.cls = m5.cls := Option.some.inj (hcn.symm.trans f8)
  have hki : kp.isInterface = false := by rw [f9] at hkp; cases hkp.symm.trans f6; exact f7
  have hsame : (Cond.sameMethod y.cls y.cls y.name y.desc).before args (s.setVm vm0) = true := by
    have q := State.methodFound?_of_named n1 hy
    have hcn' : vm0.findClass y.cls = some mk.cls := hcn
    have hkp' : vm0.classes[mk.cls]? = some kp := hkp
    simp [Cond.before, Cond.holds, Cond.value, hcn', q, n1, hkp', hki]
  obtain ⟨cell, kc, e1, e2, e3, e4, -⟩ := E
  obtain ⟨kc', e5, -⟩ := hZ.alike.2.2 _ _ e3
  obtain ⟨vm₁, X₁, st1⟩ := X.invokespecialUp hx (owner := y.cls) hown (mvT (s := s.setVm vm0) hZ w1) hsame n1 n2 n3 n4 hni hdk ws'.2 hcn ws'.1.1.1 (by simp [Vm.isSubclass, Vm.isSubclassAux]) (a := a) (by rw [hT]; exact e1) (fun q e => by rw [e] at e4; cases e4) e5 (g := mkF m pc Ls (argsL.reverse ++ .ref a :: rest)) rfl (argsL := argsL) (rest := rest) (lenOf pd hll _ n6) rfl (by rw [hb]; exact hd)
  obtain ⟨v, B, X2, hS2, hgr, hpo, hst2⟩ := (oCtr.back (p := p) (e := e) (s := s) (args := args) (below := below) (R := R) (len := 3) (W := (rest.map fun v => v.category).sum) hM hZ w4 w3 hf hl hE hO hC.1 (hDk.sub hD)) m meth c ⟨T.setVm vm₁, locs, k, n⟩ (mkF m pc Ls rest) (.invokespecial idx) mk (.ref a :: argsL).toArray X₁ rfl (hsz.trans hm.symm) (by show decode c.code pc = _; rw [hb]; exact hd) (by show 2 * 0 + (rest.map fun v => v.category).sum ≤ _; omega) (X₁.named n1) ⟨rfl, hT, by show k + _ ≤ _; omega, by show n + _ ≤ _; omega⟩
  exact oGo.after I0 hk hn (as' := (.ref a :: argsL).toArray) (rest := rest) ⟨v, vm₁, B, X₁.warmed, X2, hS2, hgr, hpo, st1 _ hst2⟩ g
/-- System.arraycopy between two arrays of bytes, not the same one -/
theorem oGo.arraycopy {idx : Nat} {a b : Addr} {vs ws : List Value} {i j q : Nat} (hd : decode bytes pc = .ok (.invokestatic idx, 3)) (hp : pc + 3 = pc') (w1 : (Cond.methodLink own idx Jvm.Stand.acN).before a0 Z = true) (w2 : (Cond.native Jvm.Stand.acN).before a0 Z = true) (w3 : (Cond.static Jvm.Stand.acN).before a0 Z = true) (w4 : (Cond.initialized "java/lang/System").before a0 Z = true)
    (A : oArr Z h a .byte vs) (B : oArr Z h b .byte ws) (h1 : i + q ≤ vs.length) (h2 : j + q ≤ ws.length) (hsz : Ls.size = mx) (hf : 1 ≤ R.frames) (hlo : (st.map fun v => v.category).sum + (nativeFrameWords "java/lang/System" "arraycopy" 5 + 11) ≤ R.locals) (ha : b ∈ D)
    (g : ∀ h', Keep h h' [b] → h.size ≤ h'.size → oArr Z h' b .byte (ws.take j ++ (vs.drop i).take q ++ ws.drop (j + q)) → oGo l Z a0 EL wd p e s m args below meth c R own bytes mx rt nm Q O D h' k n pc' Ls st) : oGo l Z a0 EL wd p e s m args below meth c R own bytes mx rt nm Q O D h k n pc Ls (.int (Int32.ofNat q) :: .int (Int32.ofNat j) :: .ref b :: .int (Int32.ofNat i) :: .ref a :: st) := by
  subst hp
  have hv : vs.length < 2147483648 := by obtain ⟨_, _, _, z, _⟩ := A; exact z
  have hw : ws.length < 2147483648 := by obtain ⟨_, _, _, z, _⟩ := B; exact z
  obtain ⟨ka, A'⟩ := A.arv (.int 0)
  obtain ⟨kb, B'⟩ := B.arv (.int 0)
  have e1 := own_n32 (i := i) (by omega); have e2 := own_n32 (i := j) (by omega); have e3 := own_n32 (i := q) (by omega)
  have e4 := own_n32 hv; have e5 := own_n32 hw
  have eus : (List.range (Int32.ofNat q).toNatClampNeg).map (fun z => vs.getD ((Int32.ofNat i).toNatClampNeg + z) (.int 0)) = (vs.drop i).take q := by
    rw [e1, e3]
    apply List.ext_getElem?
    intro z
    by_cases hz : z < q
    · rw [List.getElem?_map, List.getElem?_range hz, List.getElem?_take_of_lt hz, List.getElem?_drop]
      have : i + z < vs.length := by omega
      simp [List.getD_eq_getElem?_getD, this]
    · rw [List.getElem?_eq_none (by simpa using hz), List.getElem?_eq_none (by simp; omega)]
  refine oGo.writes (ws := [b]) (P := fun h' => oArr Z h' b .byte (ws.take j ++ (vs.drop i).take q ++ ws.drop (j + q))) (fun T locs vm0 X hT hZ hown hb hx hn hm hF hDz => ?_) (fun x hx => by rw [List.mem_singleton.mp hx]; exact ha) (fun h' K P => g h' K K.1 P)
  obtain ⟨T', h', L', X', hT', hF', K, A2, hst⟩ := cpA (s := s.setVm vm0) X hx hZ hown w1 w2 w3 w4 hT A' B' (sp := Int32.ofNat i) (dp := Int32.ofNat j) (nn := Int32.ofNat q) (us := (vs.drop i).take q) (Or.inl ⟨rfl, rfl⟩) (own_nn (by omega)) (own_nn (by omega)) (own_nn (by omega)) (by rw [e1, e3, e4]; exact h1) (by rw [e2, e3, e5]; exact h2) eus.symm (by rw [e2, e3]; exact h2) hF (hDz b ha) (g := mkF m pc Ls (.int (Int32.ofNat q) :: .int (Int32.ofNat j) :: .ref b :: .int (Int32.ofNat i) :: .ref a :: st)) rfl (hsz.trans hm.symm) rfl (by rw [hb]; exact hd) hf (W := (st.map fun v => v.category).sum) (by show 2 * 0 + _ ≤ _; omega) hlo
  rw [e2, e3] at A2
  refine ⟨T', h', L', X', hT', hF', K, oArr.of_arv A2 ?_, hst⟩
  rw [e5]; simp; omega
/-- checkcast of an object whose class is known -/
theorem oGo.checkcast {idx : Nat} {a : Addr} {Cn K : String} (hd : decode bytes pc = .ok (.checkcast idx, 3)) (hp : pc + 3 = pc') (w : (Cond.classLink own idx K).before a0 Z = true) (F : Ins Z h a K true) (g : oGo l Z a0 EL wd p e s m args below meth c R own bytes mx rt nm Q O D h k n pc' Ls (.ref a :: st)) : oGo l Z a0 EL wd p e s m args below meth c R own bytes mx rt nm Q O D h k n pc Ls (.ref a :: st) := by
  subst hp; exact oGo.move (fun T locs vm0 X hT hZ hown hb hx hn hm => castY (s := s.setVm vm0) X hx hZ hown w hT F (g := mkF m pc Ls (.ref a :: st)) rfl rfl (by rw [hb]; exact hd)) g
theorem oGo.instanceof_y {idx : Nat} {a : Addr} {K : String} (hd : decode bytes pc = .ok (.instanceof idx, 3)) (hp : pc + 3 = pc') (w : (Cond.classLink own idx K).before a0 Z = true) (F : Ins Z h a K true) (g : oGo l Z a0 EL wd p e s m args below meth c R own bytes mx rt nm Q O D h k n pc' Ls (.int 1 :: st)) : oGo l Z a0 EL wd p e s m args below meth c R own bytes mx rt nm Q O D h k n pc Ls (.ref a :: st) := by
  subst hp; exact oGo.move (fun T locs vm0 X hT hZ hown hb hx hn hm => instY (s := s.setVm vm0) X hx hZ hown w hT F (g := mkF m pc Ls (.ref a :: st)) rfl rfl (by rw [hb]; exact hd)) g
end Logic2
/-! ### Latin-1 Strings -/
def oS (Z : State) (h : Heap) (x t : Addr) (cs : List Int32) : Prop := Exa Z h x "java/lang/String" ∧ Fld Z h x "java/lang/String" "value" "[B" (.ref t) ∧ Fld Z h x "java/lang/String" "coder" "B" (.int 0) ∧ oArr Z h t .byte (oI (cs.map lo8)) ∧ ∀ c ∈ cs, ¬ c < 0 ∧ ¬ 255 < c
section Str
variable {Z : State} {h h' : Heap} {x t a : Addr} {cs : List Int32} {ws : List Addr}
theorem oS.ext (S : oS Z h x t cs) (E : Ext h h') : oS Z h' x t cs := ⟨S.1.ext E, S.2.1.ext E, S.2.2.1.ext E, S.2.2.2.1.ext E, S.2.2.2.2⟩
theorem oS.keep (S : oS Z h x t cs) (K : Keep h h' ws) (q : x ∉ ws) (r : t ∉ ws) : oS Z h' x t cs := ⟨S.1.keep K, S.2.1.keep K q, S.2.2.1.keep K q, S.2.2.2.1.keep K r, S.2.2.2.2⟩
theorem oS.other {sl : Nat} {v : Value} (S : oS Z h x t cs) (W : Wr h h' a sl v) (q : x ≠ a) (r : t ≠ a) : oS Z h' x t cs := ⟨S.1.wr W, S.2.1.other W (Or.inl q), S.2.2.1.other W (Or.inl q), S.2.2.2.1.other W r, S.2.2.2.2⟩
theorem oS.len (S : oS Z h x t cs) : cs.length < 2147483648 := by obtain ⟨_, _, _, ⟨_, _, _, q, _⟩, _⟩ := S; simpa using q
end Str
def oG (a0 : Array Value) (Z : State) (EL : List (String × Nat)) : Prop := (∀ d ∈ tables_1, d.before a0 Z = true) ∧ EW Z a0 EL ∧ (∀ d ∈ jdkStatics_1, d.before a0 Z = true) ∧ ∀ p ∈ consts_1, p ∈ EL
theorem sCOMPACT {a0 : Array Value} {Z : State} {EL : List (String × Nat)} (hG : oG a0 Z EL) : ∃ z, Sta Z Z.heap "java/lang/String" "COMPACT_STRINGS" "Z" (.int z) ∧ ¬ z = 0 := by
  obtain ⟨z, e⟩ := is_v (Cond.before_iff.mp (hG.2.2.1 _ (List.mem_of_getElem? (i := 1) rfl)))
  exact ⟨z, Sta.start e (Or.inl (hG.2.2.1 _ (List.mem_of_getElem? (i := 0) rfl))), gotF (Cond.eq_ints e (Term.int_eval (0))) (not_v (Cond.before_iff.mp (hG.2.2.1 _ (List.mem_of_getElem? (i := 2) rfl))))⟩
theorem sSIOOBE {a0 : Array Value} {Z : State} {EL : List (String × Nat)} (hG : oG a0 Z EL) : ∃ v, Sta Z Z.heap "jdk/internal/util/Preconditions" "SIOOBE_FORMATTER" "Ljava/util/function/BiFunction;" v ∧ v.isRef = true := by
  obtain ⟨v, e, r⟩ := isR_v (Cond.before_iff.mp (hG.2.2.1 _ (List.mem_of_getElem? (i := 8) rfl)))
  exact ⟨v, Sta.start e (Or.inl (hG.2.2.1 _ (List.mem_of_getElem? (i := 7) rfl))), r⟩
theorem sEMPTY {a0 : Array Value} {Z : State} {EL : List (String × Nat)} (hG : oG a0 Z EL) : ∃ es, Sta Z Z.heap "java/util/ImmutableCollections" "EMPTY_SET" "Ljava/util/ImmutableCollections$SetN;" (.ref es) ∧ Exa Z Z.heap es "java/util/ImmutableCollections$SetN" := by
  obtain ⟨a, _, _, _, e1, -⟩ := Cond.exactly_spec (hG.2.2.1 _ (List.mem_of_getElem? (i := 11) rfl))
  exact ⟨a, Sta.start e1 (Or.inl (hG.2.2.1 _ (List.mem_of_getElem? (i := 10) rfl))), Exa.start e1 (Cond.before_iff.mp (hG.2.2.1 _ (List.mem_of_getElem? (i := 11) rfl)))⟩
theorem w0 {a0 : Array Value} {Z : State} {EL : List (String × Nat)} (hG : oG a0 Z EL) : ((Jvm.Cond.constant "com/example/soft_sieve/softsieve/JudgedQueryToStringPinLaw" (7 : Nat) (2147483647 : Int32))).before a0 Z = true := hG.1 _ (List.mem_of_getElem? (i := 0) rfl)
theorem w1 {a0 : Array Value} {Z : State} {EL : List (String × Nat)} (hG : oG a0 Z EL) : ((Jvm.Cond.methodLink "com/example/soft_sieve/softsieve/JudgedQueryToStringPinLaw" (8 : Nat) ({ cls := "com/example/soft_sieve/softsieve/JudgedQueryToStringPinLaw", name := "mk", desc := "(ICC)Ljava/lang/String;" } : Jvm.MethodName))).before a0 Z = true := hG.1 _ (List.mem_of_getElem? (i := 1) rfl)
theorem w2 {a0 : Array Value} {Z : State} {EL : List (String × Nat)} (hG : oG a0 Z EL) : ((Jvm.Cond.static ({ cls := "com/example/soft_sieve/softsieve/JudgedQueryToStringPinLaw", name := "mk", desc := "(ICC)Ljava/lang/String;" } : Jvm.MethodName))).before a0 Z = true := hG.1 _ (List.mem_of_getElem? (i := 2) rfl)
theorem w3 {a0 : Array Value} {Z : State} {EL : List (String × Nat)} (hG : oG a0 Z EL) : ((Jvm.Cond.initialized "com/example/soft_sieve/softsieve/JudgedQueryToStringPinLaw")).before a0 Z = true := hG.1 _ (List.mem_of_getElem? (i := 3) rfl)
theorem w4 {a0 : Array Value} {Z : State} {EL : List (String × Nat)} (hG : oG a0 Z EL) : ((Jvm.Cond.code ({ cls := "com/example/soft_sieve/softsieve/JudgedQueryToStringPinLaw", name := "mk", desc := "(ICC)Ljava/lang/String;" } : Jvm.MethodName) method_3_code (4 : Nat) (Option.some (Jvm.ClassFile.FieldType.object "java/lang/String")))).before a0 Z = true := hG.1 _ (List.mem_of_getElem? (i := 4) rfl)
theorem w5 {a0 : Array Value} {Z : State} {EL : List (String × Nat)} (hG : oG a0 Z EL) : ((Jvm.Cond.classLink "com/example/soft_sieve/softsieve/JudgedQueryToStringPinLaw" (30 : Nat) "java/lang/String")).before a0 Z = true := hG.1 _ (List.mem_of_getElem? (i := 5) rfl)
theorem w6 {a0 : Array Value} {Z : State} {EL : List (String × Nat)} (hG : oG a0 Z EL) : ((Jvm.Cond.instantiable "java/lang/String" (4 : Nat))).before a0 Z = true := hG.1 _ (List.mem_of_getElem? (i := 6) rfl)
theorem w7 {a0 : Array Value} {Z : State} {EL : List (String × Nat)} (hG : oG a0 Z EL) : ((Jvm.Cond.initialized "java/lang/String")).before a0 Z = true := hG.1 _ (List.mem_of_getElem? (i := 7) rfl)
theorem w8 {a0 : Array Value} {Z : State} {EL : List (String × Nat)} (hG : oG a0 Z EL) : ((Jvm.Cond.arrayClass Jvm.ClassFile.FieldType.char)).before a0 Z = true := hG.1 _ (List.mem_of_getElem? (i := 8) rfl)
theorem w9 {a0 : Array Value} {Z : State} {EL : List (String × Nat)} (hG : oG a0 Z EL) : ((Jvm.Cond.methodLink "com/example/soft_sieve/softsieve/JudgedQueryToStringPinLaw" (49 : Nat) ({ cls := "java/lang/String", name := "<init>", desc := "([C)V" } : Jvm.MethodName))).before a0 Z = true := hG.1 _ (List.mem_of_getElem? (i := 9) rfl)
theorem w10 {a0 : Array Value} {Z : State} {EL : List (String × Nat)} (hG : oG a0 Z EL) : ((Jvm.Cond.instanceMethod ({ cls := "java/lang/String", name := "<init>", desc := "([C)V" } : Jvm.MethodName))).before a0 Z = true := hG.1 _ (List.mem_of_getElem? (i := 10) rfl)
theorem w11 {a0 : Array Value} {Z : State} {EL : List (String × Nat)} (hG : oG a0 Z EL) : ((Jvm.Cond.code ({ cls := "java/lang/String", name := "<init>", desc := "([C)V" } : Jvm.MethodName) jdk_42_method_3_code (2 : Nat) (Option.none : Option Jvm.ClassFile.FieldType))).before a0 Z = true := hG.1 _ (List.mem_of_getElem? (i := 11) rfl)
theorem w12 {a0 : Array Value} {Z : State} {EL : List (String × Nat)} (hG : oG a0 Z EL) : ((Jvm.Cond.methodLink "java/lang/String" (27 : Nat) ({ cls := "java/lang/String", name := "<init>", desc := "([CIILjava/lang/Void;)V" } : Jvm.MethodName))).before a0 Z = true := hG.1 _ (List.mem_of_getElem? (i := 12) rfl)
theorem w13 {a0 : Array Value} {Z : State} {EL : List (String × Nat)} (hG : oG a0 Z EL) : ((Jvm.Cond.instanceMethod ({ cls := "java/lang/String", name := "<init>", desc := "([CIILjava/lang/Void;)V" } : Jvm.MethodName))).before a0 Z = true := hG.1 _ (List.mem_of_getElem? (i := 13) rfl)
theorem w15 {a0 : Array Value} {Z : State} {EL : List (String × Nat)} (hG : oG a0 Z EL) : ((Jvm.Cond.code ({ cls := "java/lang/String", name := "<init>", desc := "([CIILjava/lang/Void;)V" } : Jvm.MethodName) jdk_42_method_149_code (6 : Nat) (Option.none : Option Jvm.ClassFile.FieldType))).before a0 Z = true := hG.1 _ (List.mem_of_getElem? (i := 15) rfl)
theorem w16 {a0 : Array Value} {Z : State} {EL : List (String × Nat)} (hG : oG a0 Z EL) : ((Jvm.Cond.methodLink "java/lang/String" (1 : Nat) ({ cls := "java/lang/Object", name := "<init>", desc := "()V" } : Jvm.MethodName))).before a0 Z = true := hG.1 _ (List.mem_of_getElem? (i := 16) rfl)
theorem w17 {a0 : Array Value} {Z : State} {EL : List (String × Nat)} (hG : oG a0 Z EL) : ((Jvm.Cond.instanceMethod ({ cls := "java/lang/Object", name := "<init>", desc := "()V" } : Jvm.MethodName))).before a0 Z = true := hG.1 _ (List.mem_of_getElem? (i := 17) rfl)
theorem w18 {a0 : Array Value} {Z : State} {EL : List (String × Nat)} (hG : oG a0 Z EL) : ((Jvm.Cond.code ({ cls := "java/lang/Object", name := "<init>", desc := "()V" } : Jvm.MethodName) object_method_1_code (1 : Nat) (Option.none : Option Jvm.ClassFile.FieldType))).before a0 Z = true := hG.1 _ (List.mem_of_getElem? (i := 18) rfl)
theorem w19 {a0 : Array Value} {Z : State} {EL : List (String × Nat)} (hG : oG a0 Z EL) : ((Jvm.Cond.stringLink "java/lang/String" (7 : Nat) "")).before a0 Z = true := hG.1 _ (List.mem_of_getElem? (i := 19) rfl)
theorem w20 {a0 : Array Value} {Z : State} {EL : List (String × Nat)} (hG : oG a0 Z EL) : ((Jvm.Cond.arrayClass Jvm.ClassFile.FieldType.byte)).before a0 Z = true := hG.1 _ (List.mem_of_getElem? (i := 20) rfl)
theorem w21 {a0 : Array Value} {Z : State} {EL : List (String × Nat)} (hG : oG a0 Z EL) : ((Jvm.Cond.laysFinal "java/lang/String" "java/lang/String" "value" "[B")).before a0 Z = true := hG.1 _ (List.mem_of_getElem? (i := 21) rfl)
theorem w22 {a0 : Array Value} {Z : State} {EL : List (String × Nat)} (hG : oG a0 Z EL) : ((Jvm.Cond.laysFinal "java/lang/String" "java/lang/String" "coder" "B")).before a0 Z = true := hG.1 _ (List.mem_of_getElem? (i := 22) rfl)
theorem w23 {a0 : Array Value} {Z : State} {EL : List (String × Nat)} (hG : oG a0 Z EL) : ((Jvm.Cond.soleField "java/lang/String" "value")).before a0 Z = true := hG.1 _ (List.mem_of_getElem? (i := 23) rfl)
theorem w24 {a0 : Array Value} {Z : State} {EL : List (String × Nat)} (hG : oG a0 Z EL) : ((Jvm.Cond.soleField "java/lang/String" "coder")).before a0 Z = true := hG.1 _ (List.mem_of_getElem? (i := 24) rfl)
theorem w25 {a0 : Array Value} {Z : State} {EL : List (String × Nat)} (hG : oG a0 Z EL) : ((Jvm.Cond.fieldLink "java/lang/String" (9 : Nat) "java/lang/String" "value" "[B")).before a0 Z = true := hG.1 _ (List.mem_of_getElem? (i := 25) rfl)
theorem w26 {a0 : Array Value} {Z : State} {EL : List (String × Nat)} (hG : oG a0 Z EL) : ((Jvm.Cond.fieldLink "java/lang/String" (15 : Nat) "java/lang/String" "coder" "B")).before a0 Z = true := hG.1 _ (List.mem_of_getElem? (i := 26) rfl)
theorem w27 {a0 : Array Value} {Z : State} {EL : List (String × Nat)} (hG : oG a0 Z EL) : ((Jvm.Cond.fieldLink "java/lang/String" (38 : Nat) "java/lang/String" "COMPACT_STRINGS" "Z")).before a0 Z = true := hG.1 _ (List.mem_of_getElem? (i := 27) rfl)
theorem w28 {a0 : Array Value} {Z : State} {EL : List (String × Nat)} (hG : oG a0 Z EL) : ((Jvm.Cond.methodLink "java/lang/String" (177 : Nat) ({ cls := "java/lang/StringUTF16", name := "compress", desc := "([CII)[B" } : Jvm.MethodName))).before a0 Z = true := hG.1 _ (List.mem_of_getElem? (i := 28) rfl)
theorem w29 {a0 : Array Value} {Z : State} {EL : List (String × Nat)} (hG : oG a0 Z EL) : ((Jvm.Cond.static ({ cls := "java/lang/StringUTF16", name := "compress", desc := "([CII)[B" } : Jvm.MethodName))).before a0 Z = true := hG.1 _ (List.mem_of_getElem? (i := 29) rfl)
theorem w30 {a0 : Array Value} {Z : State} {EL : List (String × Nat)} (hG : oG a0 Z EL) : ((Jvm.Cond.initialized "java/lang/StringUTF16")).before a0 Z = true := hG.1 _ (List.mem_of_getElem? (i := 30) rfl)
theorem w31 {a0 : Array Value} {Z : State} {EL : List (String × Nat)} (hG : oG a0 Z EL) : ((Jvm.Cond.code ({ cls := "java/lang/StringUTF16", name := "compress", desc := "([CII)[B" } : Jvm.MethodName) jdk_52_method_16_code (6 : Nat) (Option.some (Jvm.ClassFile.FieldType.array Jvm.ClassFile.FieldType.byte)))).before a0 Z = true := hG.1 _ (List.mem_of_getElem? (i := 31) rfl)
theorem w32 {a0 : Array Value} {Z : State} {EL : List (String × Nat)} (hG : oG a0 Z EL) : ((Jvm.Cond.methodLink "java/lang/StringUTF16" (115 : Nat) ({ cls := "java/lang/StringUTF16", name := "compress", desc := "([CI[BII)I" } : Jvm.MethodName))).before a0 Z = true := hG.1 _ (List.mem_of_getElem? (i := 32) rfl)
theorem w33 {a0 : Array Value} {Z : State} {EL : List (String × Nat)} (hG : oG a0 Z EL) : ((Jvm.Cond.static ({ cls := "java/lang/StringUTF16", name := "compress", desc := "([CI[BII)I" } : Jvm.MethodName))).before a0 Z = true := hG.1 _ (List.mem_of_getElem? (i := 33) rfl)
theorem w34 {a0 : Array Value} {Z : State} {EL : List (String × Nat)} (hG : oG a0 Z EL) : ((Jvm.Cond.code ({ cls := "java/lang/StringUTF16", name := "compress", desc := "([CI[BII)I" } : Jvm.MethodName) jdk_52_method_21_code (7 : Nat) (Option.some Jvm.ClassFile.FieldType.int))).before a0 Z = true := hG.1 _ (List.mem_of_getElem? (i := 34) rfl)
theorem w35 {a0 : Array Value} {Z : State} {EL : List (String × Nat)} (hG : oG a0 Z EL) : ((Jvm.Cond.methodLink "java/lang/String" (47 : Nat) ({ cls := "java/lang/StringUTF16", name := "coderFromArrayLen", desc := "([BI)B" } : Jvm.MethodName))).before a0 Z = true := hG.1 _ (List.mem_of_getElem? (i := 35) rfl)
theorem w36 {a0 : Array Value} {Z : State} {EL : List (String × Nat)} (hG : oG a0 Z EL) : ((Jvm.Cond.static ({ cls := "java/lang/StringUTF16", name := "coderFromArrayLen", desc := "([BI)B" } : Jvm.MethodName))).before a0 Z = true := hG.1 _ (List.mem_of_getElem? (i := 36) rfl)
theorem w37 {a0 : Array Value} {Z : State} {EL : List (String × Nat)} (hG : oG a0 Z EL) : ((Jvm.Cond.code ({ cls := "java/lang/StringUTF16", name := "coderFromArrayLen", desc := "([BI)B" } : Jvm.MethodName) jdk_52_method_15_code (2 : Nat) (Option.some Jvm.ClassFile.FieldType.byte))).before a0 Z = true := hG.1 _ (List.mem_of_getElem? (i := 37) rfl)
theorem w38 {a0 : Array Value} {Z : State} {EL : List (String × Nat)} (hG : oG a0 Z EL) : ((Jvm.Cond.classLink "com/example/soft_sieve/softsieve/JudgedQueryToStringPinLaw" (14 : Nat) "com/example/soft_sieve/softsieve/JudgedQuery")).before a0 Z = true := hG.1 _ (List.mem_of_getElem? (i := 38) rfl)
theorem w39 {a0 : Array Value} {Z : State} {EL : List (String × Nat)} (hG : oG a0 Z EL) : ((Jvm.Cond.instantiable "com/example/soft_sieve/softsieve/JudgedQuery" (3 : Nat))).before a0 Z = true := hG.1 _ (List.mem_of_getElem? (i := 39) rfl)
theorem w40 {a0 : Array Value} {Z : State} {EL : List (String × Nat)} (hG : oG a0 Z EL) : ((Jvm.Cond.initialized "com/example/soft_sieve/softsieve/JudgedQuery")).before a0 Z = true := hG.1 _ (List.mem_of_getElem? (i := 40) rfl)
theorem w41 {a0 : Array Value} {Z : State} {EL : List (String × Nat)} (hG : oG a0 Z EL) : ((Jvm.Cond.methodLink "com/example/soft_sieve/softsieve/JudgedQueryToStringPinLaw" (16 : Nat) ({ cls := "java/util/Set", name := "of", desc := "()Ljava/util/Set;" } : Jvm.MethodName))).before a0 Z = true := hG.1 _ (List.mem_of_getElem? (i := 41) rfl)
theorem w42 {a0 : Array Value} {Z : State} {EL : List (String × Nat)} (hG : oG a0 Z EL) : ((Jvm.Cond.static ({ cls := "java/util/Set", name := "of", desc := "()Ljava/util/Set;" } : Jvm.MethodName))).before a0 Z = true := hG.1 _ (List.mem_of_getElem? (i := 42) rfl)
theorem w43 {a0 : Array Value} {Z : State} {EL : List (String × Nat)} (hG : oG a0 Z EL) : ((Jvm.Cond.initialized "java/util/Set")).before a0 Z = true := hG.1 _ (List.mem_of_getElem? (i := 43) rfl)
theorem w44 {a0 : Array Value} {Z : State} {EL : List (String × Nat)} (hG : oG a0 Z EL) : ((Jvm.Cond.code ({ cls := "java/util/Set", name := "of", desc := "()Ljava/util/Set;" } : Jvm.MethodName) jdk_96_method_17_code (0 : Nat) (Option.some (Jvm.ClassFile.FieldType.object "java/util/Set")))).before a0 Z = true := hG.1 _ (List.mem_of_getElem? (i := 44) rfl)
theorem w45 {a0 : Array Value} {Z : State} {EL : List (String × Nat)} (hG : oG a0 Z EL) : ((Jvm.Cond.fieldLink "java/util/Set" (9 : Nat) "java/util/ImmutableCollections" "EMPTY_SET" "Ljava/util/ImmutableCollections$SetN;")).before a0 Z = true := hG.1 _ (List.mem_of_getElem? (i := 45) rfl)
theorem w47 {a0 : Array Value} {Z : State} {EL : List (String × Nat)} (hG : oG a0 Z EL) : ((Jvm.Cond.methodLink "com/example/soft_sieve/softsieve/JudgedQueryToStringPinLaw" (22 : Nat) ({ cls := "com/example/soft_sieve/softsieve/JudgedQuery", name := "<init>", desc := "(Ljava/lang/String;Ljava/lang/String;Ljava/util/Set;)V" } : Jvm.MethodName))).before a0 Z = true := hG.1 _ (List.mem_of_getElem? (i := 47) rfl)
theorem w48 {a0 : Array Value} {Z : State} {EL : List (String × Nat)} (hG : oG a0 Z EL) : ((Jvm.Cond.instanceMethod ({ cls := "com/example/soft_sieve/softsieve/JudgedQuery", name := "<init>", desc := "(Ljava/lang/String;Ljava/lang/String;Ljava/util/Set;)V" } : Jvm.MethodName))).before a0 Z = true := hG.1 _ (List.mem_of_getElem? (i := 48) rfl)
theorem w49 {a0 : Array Value} {Z : State} {EL : List (String × Nat)} (hG : oG a0 Z EL) : ((Jvm.Cond.code ({ cls := "com/example/soft_sieve/softsieve/JudgedQuery", name := "<init>", desc := "(Ljava/lang/String;Ljava/lang/String;Ljava/util/Set;)V" } : Jvm.MethodName) prog_6_method_1_code (4 : Nat) (Option.none : Option Jvm.ClassFile.FieldType))).before a0 Z = true := hG.1 _ (List.mem_of_getElem? (i := 49) rfl)
theorem w50 {a0 : Array Value} {Z : State} {EL : List (String × Nat)} (hG : oG a0 Z EL) : ((Jvm.Cond.methodLink "com/example/soft_sieve/softsieve/JudgedQuery" (1 : Nat) ({ cls := "java/lang/Object", name := "<init>", desc := "()V" } : Jvm.MethodName))).before a0 Z = true := hG.1 _ (List.mem_of_getElem? (i := 50) rfl)
theorem w51 {a0 : Array Value} {Z : State} {EL : List (String × Nat)} (hG : oG a0 Z EL) : ((Jvm.Cond.stringLink "com/example/soft_sieve/softsieve/JudgedQuery" (7 : Nat) "id")).before a0 Z = true := hG.1 _ (List.mem_of_getElem? (i := 51) rfl)
theorem w52 {a0 : Array Value} {Z : State} {EL : List (String × Nat)} (hG : oG a0 Z EL) : ((Jvm.Cond.methodLink "com/example/soft_sieve/softsieve/JudgedQuery" (9 : Nat) ({ cls := "java/util/Objects", name := "requireNonNull", desc := "(Ljava/lang/Object;Ljava/lang/String;)Ljava/lang/Object;" } : Jvm.MethodName))).before a0 Z = true := hG.1 _ (List.mem_of_getElem? (i := 52) rfl)
theorem w53 {a0 : Array Value} {Z : State} {EL : List (String × Nat)} (hG : oG a0 Z EL) : ((Jvm.Cond.static ({ cls := "java/util/Objects", name := "requireNonNull", desc := "(Ljava/lang/Object;Ljava/lang/String;)Ljava/lang/Object;" } : Jvm.MethodName))).before a0 Z = true := hG.1 _ (List.mem_of_getElem? (i := 53) rfl)
theorem w54 {a0 : Array Value} {Z : State} {EL : List (String × Nat)} (hG : oG a0 Z EL) : ((Jvm.Cond.initialized "java/util/Objects")).before a0 Z = true := hG.1 _ (List.mem_of_getElem? (i := 54) rfl)
theorem w55 {a0 : Array Value} {Z : State} {EL : List (String × Nat)} (hG : oG a0 Z EL) : ((Jvm.Cond.code ({ cls := "java/util/Objects", name := "requireNonNull", desc := "(Ljava/lang/Object;Ljava/lang/String;)Ljava/lang/Object;" } : Jvm.MethodName) jdk_31_method_11_code (2 : Nat) (Option.some (Jvm.ClassFile.FieldType.object "java/lang/Object")))).before a0 Z = true := hG.1 _ (List.mem_of_getElem? (i := 55) rfl)
theorem w56 {a0 : Array Value} {Z : State} {EL : List (String × Nat)} (hG : oG a0 Z EL) : ((Jvm.Cond.classLink "com/example/soft_sieve/softsieve/JudgedQuery" (15 : Nat) "java/lang/String")).before a0 Z = true := hG.1 _ (List.mem_of_getElem? (i := 56) rfl)
theorem w57 {a0 : Array Value} {Z : State} {EL : List (String × Nat)} (hG : oG a0 Z EL) : ((Jvm.Cond.fieldLink "com/example/soft_sieve/softsieve/JudgedQuery" (17 : Nat) "com/example/soft_sieve/softsieve/JudgedQuery" "id" "Ljava/lang/String;")).before a0 Z = true := hG.1 _ (List.mem_of_getElem? (i := 57) rfl)
theorem w58 {a0 : Array Value} {Z : State} {EL : List (String × Nat)} (hG : oG a0 Z EL) : ((Jvm.Cond.laysFinal "com/example/soft_sieve/softsieve/JudgedQuery" "com/example/soft_sieve/softsieve/JudgedQuery" "id" "Ljava/lang/String;")).before a0 Z = true := hG.1 _ (List.mem_of_getElem? (i := 58) rfl)
theorem w59 {a0 : Array Value} {Z : State} {EL : List (String × Nat)} (hG : oG a0 Z EL) : ((Jvm.Cond.stringLink "com/example/soft_sieve/softsieve/JudgedQuery" (22 : Nat) "words")).before a0 Z = true := hG.1 _ (List.mem_of_getElem? (i := 59) rfl)
theorem w60 {a0 : Array Value} {Z : State} {EL : List (String × Nat)} (hG : oG a0 Z EL) : ((Jvm.Cond.fieldLink "com/example/soft_sieve/softsieve/JudgedQuery" (24 : Nat) "com/example/soft_sieve/softsieve/JudgedQuery" "words" "Ljava/lang/String;")).before a0 Z = true := hG.1 _ (List.mem_of_getElem? (i := 60) rfl)
theorem w61 {a0 : Array Value} {Z : State} {EL : List (String × Nat)} (hG : oG a0 Z EL) : ((Jvm.Cond.laysFinal "com/example/soft_sieve/softsieve/JudgedQuery" "com/example/soft_sieve/softsieve/JudgedQuery" "words" "Ljava/lang/String;")).before a0 Z = true := hG.1 _ (List.mem_of_getElem? (i := 61) rfl)
theorem w62 {a0 : Array Value} {Z : State} {EL : List (String × Nat)} (hG : oG a0 Z EL) : ((Jvm.Cond.methodLink "com/example/soft_sieve/softsieve/JudgedQuery" (26 : Nat) ({ cls := "java/util/Set", name := "copyOf", desc := "(Ljava/util/Collection;)Ljava/util/Set;" } : Jvm.MethodName))).before a0 Z = true := hG.1 _ (List.mem_of_getElem? (i := 62) rfl)
theorem w63 {a0 : Array Value} {Z : State} {EL : List (String × Nat)} (hG : oG a0 Z EL) : ((Jvm.Cond.static ({ cls := "java/util/Set", name := "copyOf", desc := "(Ljava/util/Collection;)Ljava/util/Set;" } : Jvm.MethodName))).before a0 Z = true := hG.1 _ (List.mem_of_getElem? (i := 63) rfl)
theorem w64 {a0 : Array Value} {Z : State} {EL : List (String × Nat)} (hG : oG a0 Z EL) : ((Jvm.Cond.code ({ cls := "java/util/Set", name := "copyOf", desc := "(Ljava/util/Collection;)Ljava/util/Set;" } : Jvm.MethodName) jdk_96_method_29_code (1 : Nat) (Option.some (Jvm.ClassFile.FieldType.object "java/util/Set")))).before a0 Z = true := hG.1 _ (List.mem_of_getElem? (i := 64) rfl)
theorem w65 {a0 : Array Value} {Z : State} {EL : List (String × Nat)} (hG : oG a0 Z EL) : ((Jvm.Cond.classLink "java/util/Set" (31 : Nat) "java/util/ImmutableCollections$AbstractImmutableSet")).before a0 Z = true := hG.1 _ (List.mem_of_getElem? (i := 65) rfl)
theorem w66 {a0 : Array Value} {Z : State} {EL : List (String × Nat)} (hG : oG a0 Z EL) : ((Jvm.Cond.castable "java/util/ImmutableCollections$SetN" "java/util/ImmutableCollections$AbstractImmutableSet")).before a0 Z = true := hG.1 _ (List.mem_of_getElem? (i := 66) rfl)
theorem w67 {a0 : Array Value} {Z : State} {EL : List (String × Nat)} (hG : oG a0 Z EL) : ((Jvm.Cond.classLink "java/util/Set" (33 : Nat) "java/util/Set")).before a0 Z = true := hG.1 _ (List.mem_of_getElem? (i := 67) rfl)
theorem w68 {a0 : Array Value} {Z : State} {EL : List (String × Nat)} (hG : oG a0 Z EL) : ((Jvm.Cond.castable "java/util/ImmutableCollections$SetN" "java/util/Set")).before a0 Z = true := hG.1 _ (List.mem_of_getElem? (i := 68) rfl)
theorem w69 {a0 : Array Value} {Z : State} {EL : List (String × Nat)} (hG : oG a0 Z EL) : ((Jvm.Cond.fieldLink "com/example/soft_sieve/softsieve/JudgedQuery" (32 : Nat) "com/example/soft_sieve/softsieve/JudgedQuery" "relevant" "Ljava/util/Set;")).before a0 Z = true := hG.1 _ (List.mem_of_getElem? (i := 69) rfl)
theorem w70 {a0 : Array Value} {Z : State} {EL : List (String × Nat)} (hG : oG a0 Z EL) : ((Jvm.Cond.laysFinal "com/example/soft_sieve/softsieve/JudgedQuery" "com/example/soft_sieve/softsieve/JudgedQuery" "relevant" "Ljava/util/Set;")).before a0 Z = true := hG.1 _ (List.mem_of_getElem? (i := 70) rfl)
theorem w71 {a0 : Array Value} {Z : State} {EL : List (String × Nat)} (hG : oG a0 Z EL) : ((Jvm.Cond.methodLink "com/example/soft_sieve/softsieve/JudgedQueryToStringPinLaw" (25 : Nat) ({ cls := "com/example/soft_sieve/softsieve/JudgedQuery", name := "toString", desc := "()Ljava/lang/String;" } : Jvm.MethodName))).before a0 Z = true := hG.1 _ (List.mem_of_getElem? (i := 71) rfl)
theorem w72 {a0 : Array Value} {Z : State} {EL : List (String × Nat)} (hG : oG a0 Z EL) : ((Jvm.Cond.declares ({ cls := "com/example/soft_sieve/softsieve/JudgedQuery", name := "toString", desc := "()Ljava/lang/String;" } : Jvm.MethodName))).before a0 Z = true := hG.1 _ (List.mem_of_getElem? (i := 72) rfl)
theorem w73 {a0 : Array Value} {Z : State} {EL : List (String × Nat)} (hG : oG a0 Z EL) : ((Jvm.Cond.instanceMethod ({ cls := "com/example/soft_sieve/softsieve/JudgedQuery", name := "toString", desc := "()Ljava/lang/String;" } : Jvm.MethodName))).before a0 Z = true := hG.1 _ (List.mem_of_getElem? (i := 73) rfl)
theorem w74 {a0 : Array Value} {Z : State} {EL : List (String × Nat)} (hG : oG a0 Z EL) : ((Jvm.Cond.selects "com/example/soft_sieve/softsieve/JudgedQuery" ({ cls := "com/example/soft_sieve/softsieve/JudgedQuery", name := "toString", desc := "()Ljava/lang/String;" } : Jvm.MethodName) ({ cls := "com/example/soft_sieve/softsieve/JudgedQuery", name := "toString", desc := "()Ljava/lang/String;" } : Jvm.MethodName))).before a0 Z = true := hG.1 _ (List.mem_of_getElem? (i := 74) rfl)
theorem w75 {a0 : Array Value} {Z : State} {EL : List (String × Nat)} (hG : oG a0 Z EL) : ((Jvm.Cond.code ({ cls := "com/example/soft_sieve/softsieve/JudgedQuery", name := "toString", desc := "()Ljava/lang/String;" } : Jvm.MethodName) prog_6_method_7_code (1 : Nat) (Option.some (Jvm.ClassFile.FieldType.object "java/lang/String")))).before a0 Z = true := hG.1 _ (List.mem_of_getElem? (i := 75) rfl)
theorem w76 {a0 : Array Value} {Z : State} {EL : List (String × Nat)} (hG : oG a0 Z EL) : ((Jvm.Cond.classLink "com/example/soft_sieve/softsieve/JudgedQuery" (45 : Nat) "java/lang/StringBuilder")).before a0 Z = true := hG.1 _ (List.mem_of_getElem? (i := 76) rfl)
theorem w77 {a0 : Array Value} {Z : State} {EL : List (String × Nat)} (hG : oG a0 Z EL) : ((Jvm.Cond.instantiable "java/lang/StringBuilder" (4 : Nat))).before a0 Z = true := hG.1 _ (List.mem_of_getElem? (i := 77) rfl)
theorem w78 {a0 : Array Value} {Z : State} {EL : List (String × Nat)} (hG : oG a0 Z EL) : ((Jvm.Cond.initialized "java/lang/StringBuilder")).before a0 Z = true := hG.1 _ (List.mem_of_getElem? (i := 78) rfl)
theorem w79 {a0 : Array Value} {Z : State} {EL : List (String × Nat)} (hG : oG a0 Z EL) : ((Jvm.Cond.methodLink "com/example/soft_sieve/softsieve/JudgedQuery" (47 : Nat) ({ cls := "java/lang/StringBuilder", name := "<init>", desc := "()V" } : Jvm.MethodName))).before a0 Z = true := hG.1 _ (List.mem_of_getElem? (i := 79) rfl)
theorem w80 {a0 : Array Value} {Z : State} {EL : List (String × Nat)} (hG : oG a0 Z EL) : ((Jvm.Cond.instanceMethod ({ cls := "java/lang/StringBuilder", name := "<init>", desc := "()V" } : Jvm.MethodName))).before a0 Z = true := hG.1 _ (List.mem_of_getElem? (i := 80) rfl)
theorem w81 {a0 : Array Value} {Z : State} {EL : List (String × Nat)} (hG : oG a0 Z EL) : ((Jvm.Cond.code ({ cls := "java/lang/StringBuilder", name := "<init>", desc := "()V" } : Jvm.MethodName) jdk_67_method_1_code (1 : Nat) (Option.none : Option Jvm.ClassFile.FieldType))).before a0 Z = true := hG.1 _ (List.mem_of_getElem? (i := 81) rfl)
theorem w82 {a0 : Array Value} {Z : State} {EL : List (String × Nat)} (hG : oG a0 Z EL) : ((Jvm.Cond.methodLink "java/lang/StringBuilder" (1 : Nat) ({ cls := "java/lang/AbstractStringBuilder", name := "<init>", desc := "(I)V" } : Jvm.MethodName))).before a0 Z = true := hG.1 _ (List.mem_of_getElem? (i := 82) rfl)
theorem w83 {a0 : Array Value} {Z : State} {EL : List (String × Nat)} (hG : oG a0 Z EL) : ((Jvm.Cond.instanceMethod ({ cls := "java/lang/AbstractStringBuilder", name := "<init>", desc := "(I)V" } : Jvm.MethodName))).before a0 Z = true := hG.1 _ (List.mem_of_getElem? (i := 83) rfl)
theorem w86 {a0 : Array Value} {Z : State} {EL : List (String × Nat)} (hG : oG a0 Z EL) : ((Jvm.Cond.initialized "java/lang/AbstractStringBuilder")).before a0 Z = true := hG.1 _ (List.mem_of_getElem? (i := 86) rfl)
theorem w87 {a0 : Array Value} {Z : State} {EL : List (String × Nat)} (hG : oG a0 Z EL) : ((Jvm.Cond.code ({ cls := "java/lang/AbstractStringBuilder", name := "<init>", desc := "(I)V" } : Jvm.MethodName) jdk_68_method_2_code (2 : Nat) (Option.none : Option Jvm.ClassFile.FieldType))).before a0 Z = true := hG.1 _ (List.mem_of_getElem? (i := 87) rfl)
theorem w88 {a0 : Array Value} {Z : State} {EL : List (String × Nat)} (hG : oG a0 Z EL) : ((Jvm.Cond.methodLink "java/lang/AbstractStringBuilder" (3 : Nat) ({ cls := "java/lang/Object", name := "<init>", desc := "()V" } : Jvm.MethodName))).before a0 Z = true := hG.1 _ (List.mem_of_getElem? (i := 88) rfl)
theorem w89 {a0 : Array Value} {Z : State} {EL : List (String × Nat)} (hG : oG a0 Z EL) : ((Jvm.Cond.fieldLink "java/lang/AbstractStringBuilder" (18 : Nat) "java/lang/String" "COMPACT_STRINGS" "Z")).before a0 Z = true := hG.1 _ (List.mem_of_getElem? (i := 89) rfl)
theorem w90 {a0 : Array Value} {Z : State} {EL : List (String × Nat)} (hG : oG a0 Z EL) : ((Jvm.Cond.fieldLink "java/lang/AbstractStringBuilder" (15 : Nat) "java/lang/AbstractStringBuilder" "value" "[B")).before a0 Z = true := hG.1 _ (List.mem_of_getElem? (i := 90) rfl)
theorem w91 {a0 : Array Value} {Z : State} {EL : List (String × Nat)} (hG : oG a0 Z EL) : ((Jvm.Cond.lays "java/lang/StringBuilder" "java/lang/AbstractStringBuilder" "value" "[B")).before a0 Z = true := hG.1 _ (List.mem_of_getElem? (i := 91) rfl)
theorem w92 {a0 : Array Value} {Z : State} {EL : List (String × Nat)} (hG : oG a0 Z EL) : ((Jvm.Cond.fieldLink "java/lang/AbstractStringBuilder" (22 : Nat) "java/lang/AbstractStringBuilder" "coder" "B")).before a0 Z = true := hG.1 _ (List.mem_of_getElem? (i := 92) rfl)
theorem w93 {a0 : Array Value} {Z : State} {EL : List (String × Nat)} (hG : oG a0 Z EL) : ((Jvm.Cond.lays "java/lang/StringBuilder" "java/lang/AbstractStringBuilder" "coder" "B")).before a0 Z = true := hG.1 _ (List.mem_of_getElem? (i := 93) rfl)
theorem w94 {a0 : Array Value} {Z : State} {EL : List (String × Nat)} (hG : oG a0 Z EL) : ((Jvm.Cond.stringLink "com/example/soft_sieve/softsieve/JudgedQuery" (48 : Nat) "JudgedQuery[id=")).before a0 Z = true := hG.1 _ (List.mem_of_getElem? (i := 94) rfl)
theorem w95 {a0 : Array Value} {Z : State} {EL : List (String × Nat)} (hG : oG a0 Z EL) : ((Jvm.Cond.methodLink "com/example/soft_sieve/softsieve/JudgedQuery" (50 : Nat) ({ cls := "java/lang/StringBuilder", name := "append", desc := "(Ljava/lang/String;)Ljava/lang/StringBuilder;" } : Jvm.MethodName))).before a0 Z = true := hG.1 _ (List.mem_of_getElem? (i := 95) rfl)
theorem w96 {a0 : Array Value} {Z : State} {EL : List (String × Nat)} (hG : oG a0 Z EL) : ((Jvm.Cond.declares ({ cls := "java/lang/StringBuilder", name := "append", desc := "(Ljava/lang/String;)Ljava/lang/StringBuilder;" } : Jvm.MethodName))).before a0 Z = true := hG.1 _ (List.mem_of_getElem? (i := 96) rfl)
theorem w97 {a0 : Array Value} {Z : State} {EL : List (String × Nat)} (hG : oG a0 Z EL) : ((Jvm.Cond.instanceMethod ({ cls := "java/lang/StringBuilder", name := "append", desc := "(Ljava/lang/String;)Ljava/lang/StringBuilder;" } : Jvm.MethodName))).before a0 Z = true := hG.1 _ (List.mem_of_getElem? (i := 97) rfl)
theorem w98 {a0 : Array Value} {Z : State} {EL : List (String × Nat)} (hG : oG a0 Z EL) : ((Jvm.Cond.selects "java/lang/StringBuilder" ({ cls := "java/lang/StringBuilder", name := "append", desc := "(Ljava/lang/String;)Ljava/lang/StringBuilder;" } : Jvm.MethodName) ({ cls := "java/lang/StringBuilder", name := "append", desc := "(Ljava/lang/String;)Ljava/lang/StringBuilder;" } : Jvm.MethodName))).before a0 Z = true := hG.1 _ (List.mem_of_getElem? (i := 98) rfl)
theorem w99 {a0 : Array Value} {Z : State} {EL : List (String × Nat)} (hG : oG a0 Z EL) : ((Jvm.Cond.code ({ cls := "java/lang/StringBuilder", name := "append", desc := "(Ljava/lang/String;)Ljava/lang/StringBuilder;" } : Jvm.MethodName) jdk_67_method_7_code (2 : Nat) (Option.some (Jvm.ClassFile.FieldType.object "java/lang/StringBuilder")))).before a0 Z = true := hG.1 _ (List.mem_of_getElem? (i := 99) rfl)
theorem w100 {a0 : Array Value} {Z : State} {EL : List (String × Nat)} (hG : oG a0 Z EL) : ((Jvm.Cond.methodLink "java/lang/StringBuilder" (29 : Nat) ({ cls := "java/lang/AbstractStringBuilder", name := "append", desc := "(Ljava/lang/String;)Ljava/lang/AbstractStringBuilder;" } : Jvm.MethodName))).before a0 Z = true := hG.1 _ (List.mem_of_getElem? (i := 100) rfl)
theorem w101 {a0 : Array Value} {Z : State} {EL : List (String × Nat)} (hG : oG a0 Z EL) : ((Jvm.Cond.instanceMethod ({ cls := "java/lang/AbstractStringBuilder", name := "append", desc := "(Ljava/lang/String;)Ljava/lang/AbstractStringBuilder;" } : Jvm.MethodName))).before a0 Z = true := hG.1 _ (List.mem_of_getElem? (i := 101) rfl)
theorem w102 {a0 : Array Value} {Z : State} {EL : List (String × Nat)} (hG : oG a0 Z EL) : ((Jvm.Cond.superclass "java/lang/StringBuilder" "java/lang/AbstractStringBuilder")).before a0 Z = true := hG.1 _ (List.mem_of_getElem? (i := 102) rfl)
theorem w104 {a0 : Array Value} {Z : State} {EL : List (String × Nat)} (hG : oG a0 Z EL) : ((Jvm.Cond.code ({ cls := "java/lang/AbstractStringBuilder", name := "append", desc := "(Ljava/lang/String;)Ljava/lang/AbstractStringBuilder;" } : Jvm.MethodName) jdk_68_method_22_code (3 : Nat) (Option.some (Jvm.ClassFile.FieldType.object "java/lang/AbstractStringBuilder")))).before a0 Z = true := hG.1 _ (List.mem_of_getElem? (i := 104) rfl)
theorem w105 {a0 : Array Value} {Z : State} {EL : List (String × Nat)} (hG : oG a0 Z EL) : ((Jvm.Cond.methodLink "java/lang/AbstractStringBuilder" (32 : Nat) ({ cls := "java/lang/String", name := "length", desc := "()I" } : Jvm.MethodName))).before a0 Z = true := hG.1 _ (List.mem_of_getElem? (i := 105) rfl)
theorem w106 {a0 : Array Value} {Z : State} {EL : List (String × Nat)} (hG : oG a0 Z EL) : ((Jvm.Cond.declares ({ cls := "java/lang/String", name := "length", desc := "()I" } : Jvm.MethodName))).before a0 Z = true := hG.1 _ (List.mem_of_getElem? (i := 106) rfl)
theorem w107 {a0 : Array Value} {Z : State} {EL : List (String × Nat)} (hG : oG a0 Z EL) : ((Jvm.Cond.instanceMethod ({ cls := "java/lang/String", name := "length", desc := "()I" } : Jvm.MethodName))).before a0 Z = true := hG.1 _ (List.mem_of_getElem? (i := 107) rfl)
theorem w108 {a0 : Array Value} {Z : State} {EL : List (String × Nat)} (hG : oG a0 Z EL) : ((Jvm.Cond.selects "java/lang/String" ({ cls := "java/lang/String", name := "length", desc := "()I" } : Jvm.MethodName) ({ cls := "java/lang/String", name := "length", desc := "()I" } : Jvm.MethodName))).before a0 Z = true := hG.1 _ (List.mem_of_getElem? (i := 108) rfl)
theorem w109 {a0 : Array Value} {Z : State} {EL : List (String × Nat)} (hG : oG a0 Z EL) : ((Jvm.Cond.code ({ cls := "java/lang/String", name := "length", desc := "()I" } : Jvm.MethodName) jdk_42_method_54_code (1 : Nat) (Option.some Jvm.ClassFile.FieldType.int))).before a0 Z = true := hG.1 _ (List.mem_of_getElem? (i := 109) rfl)
theorem w110 {a0 : Array Value} {Z : State} {EL : List (String × Nat)} (hG : oG a0 Z EL) : ((Jvm.Cond.methodLink "java/lang/String" (335 : Nat) ({ cls := "java/lang/String", name := "coder", desc := "()B" } : Jvm.MethodName))).before a0 Z = true := hG.1 _ (List.mem_of_getElem? (i := 110) rfl)
theorem w111 {a0 : Array Value} {Z : State} {EL : List (String × Nat)} (hG : oG a0 Z EL) : ((Jvm.Cond.declares ({ cls := "java/lang/String", name := "coder", desc := "()B" } : Jvm.MethodName))).before a0 Z = true := hG.1 _ (List.mem_of_getElem? (i := 111) rfl)
theorem w112 {a0 : Array Value} {Z : State} {EL : List (String × Nat)} (hG : oG a0 Z EL) : ((Jvm.Cond.instanceMethod ({ cls := "java/lang/String", name := "coder", desc := "()B" } : Jvm.MethodName))).before a0 Z = true := hG.1 _ (List.mem_of_getElem? (i := 112) rfl)
theorem w113 {a0 : Array Value} {Z : State} {EL : List (String × Nat)} (hG : oG a0 Z EL) : ((Jvm.Cond.selects "java/lang/String" ({ cls := "java/lang/String", name := "coder", desc := "()B" } : Jvm.MethodName) ({ cls := "java/lang/String", name := "coder", desc := "()B" } : Jvm.MethodName))).before a0 Z = true := hG.1 _ (List.mem_of_getElem? (i := 113) rfl)
theorem w114 {a0 : Array Value} {Z : State} {EL : List (String × Nat)} (hG : oG a0 Z EL) : ((Jvm.Cond.code ({ cls := "java/lang/String", name := "coder", desc := "()B" } : Jvm.MethodName) jdk_42_method_152_code (1 : Nat) (Option.some Jvm.ClassFile.FieldType.byte))).before a0 Z = true := hG.1 _ (List.mem_of_getElem? (i := 114) rfl)
theorem w115 {a0 : Array Value} {Z : State} {EL : List (String × Nat)} (hG : oG a0 Z EL) : ((Jvm.Cond.fieldLink "java/lang/AbstractStringBuilder" (79 : Nat) "java/lang/AbstractStringBuilder" "count" "I")).before a0 Z = true := hG.1 _ (List.mem_of_getElem? (i := 115) rfl)
theorem w116 {a0 : Array Value} {Z : State} {EL : List (String × Nat)} (hG : oG a0 Z EL) : ((Jvm.Cond.lays "java/lang/StringBuilder" "java/lang/AbstractStringBuilder" "count" "I")).before a0 Z = true := hG.1 _ (List.mem_of_getElem? (i := 116) rfl)
theorem w117 {a0 : Array Value} {Z : State} {EL : List (String × Nat)} (hG : oG a0 Z EL) : ((Jvm.Cond.methodLink "java/lang/AbstractStringBuilder" (100 : Nat) ({ cls := "java/lang/AbstractStringBuilder", name := "ensureCapacityInternal", desc := "(I)V" } : Jvm.MethodName))).before a0 Z = true := hG.1 _ (List.mem_of_getElem? (i := 117) rfl)
theorem w118 {a0 : Array Value} {Z : State} {EL : List (String × Nat)} (hG : oG a0 Z EL) : ((Jvm.Cond.instanceMethod ({ cls := "java/lang/AbstractStringBuilder", name := "ensureCapacityInternal", desc := "(I)V" } : Jvm.MethodName))).before a0 Z = true := hG.1 _ (List.mem_of_getElem? (i := 118) rfl)
theorem w119 {a0 : Array Value} {Z : State} {EL : List (String × Nat)} (hG : oG a0 Z EL) : ((Jvm.Cond.privateMethod ({ cls := "java/lang/AbstractStringBuilder", name := "ensureCapacityInternal", desc := "(I)V" } : Jvm.MethodName))).before a0 Z = true := hG.1 _ (List.mem_of_getElem? (i := 119) rfl)
theorem w120 {a0 : Array Value} {Z : State} {EL : List (String × Nat)} (hG : oG a0 Z EL) : ((Jvm.Cond.selects "java/lang/StringBuilder" ({ cls := "java/lang/AbstractStringBuilder", name := "ensureCapacityInternal", desc := "(I)V" } : Jvm.MethodName) ({ cls := "java/lang/AbstractStringBuilder", name := "ensureCapacityInternal", desc := "(I)V" } : Jvm.MethodName))).before a0 Z = true := hG.1 _ (List.mem_of_getElem? (i := 120) rfl)
theorem w121 {a0 : Array Value} {Z : State} {EL : List (String × Nat)} (hG : oG a0 Z EL) : ((Jvm.Cond.code ({ cls := "java/lang/AbstractStringBuilder", name := "ensureCapacityInternal", desc := "(I)V" } : Jvm.MethodName) jdk_68_method_9_code (3 : Nat) (Option.none : Option Jvm.ClassFile.FieldType))).before a0 Z = true := hG.1 _ (List.mem_of_getElem? (i := 121) rfl)
theorem w122 {a0 : Array Value} {Z : State} {EL : List (String × Nat)} (hG : oG a0 Z EL) : ((Jvm.Cond.methodLink "java/lang/AbstractStringBuilder" (208 : Nat) ({ cls := "java/lang/AbstractStringBuilder", name := "putStringAt", desc := "(ILjava/lang/String;)V" } : Jvm.MethodName))).before a0 Z = true := hG.1 _ (List.mem_of_getElem? (i := 122) rfl)
theorem w123 {a0 : Array Value} {Z : State} {EL : List (String × Nat)} (hG : oG a0 Z EL) : ((Jvm.Cond.instanceMethod ({ cls := "java/lang/AbstractStringBuilder", name := "putStringAt", desc := "(ILjava/lang/String;)V" } : Jvm.MethodName))).before a0 Z = true := hG.1 _ (List.mem_of_getElem? (i := 123) rfl)
theorem w124 {a0 : Array Value} {Z : State} {EL : List (String × Nat)} (hG : oG a0 Z EL) : ((Jvm.Cond.privateMethod ({ cls := "java/lang/AbstractStringBuilder", name := "putStringAt", desc := "(ILjava/lang/String;)V" } : Jvm.MethodName))).before a0 Z = true := hG.1 _ (List.mem_of_getElem? (i := 124) rfl)
theorem w125 {a0 : Array Value} {Z : State} {EL : List (String × Nat)} (hG : oG a0 Z EL) : ((Jvm.Cond.selects "java/lang/StringBuilder" ({ cls := "java/lang/AbstractStringBuilder", name := "putStringAt", desc := "(ILjava/lang/String;)V" } : Jvm.MethodName) ({ cls := "java/lang/AbstractStringBuilder", name := "putStringAt", desc := "(ILjava/lang/String;)V" } : Jvm.MethodName))).before a0 Z = true := hG.1 _ (List.mem_of_getElem? (i := 125) rfl)
theorem w126 {a0 : Array Value} {Z : State} {EL : List (String × Nat)} (hG : oG a0 Z EL) : ((Jvm.Cond.code ({ cls := "java/lang/AbstractStringBuilder", name := "putStringAt", desc := "(ILjava/lang/String;)V" } : Jvm.MethodName) jdk_68_method_73_code (3 : Nat) (Option.none : Option Jvm.ClassFile.FieldType))).before a0 Z = true := hG.1 _ (List.mem_of_getElem? (i := 126) rfl)
theorem w127 {a0 : Array Value} {Z : State} {EL : List (String × Nat)} (hG : oG a0 Z EL) : ((Jvm.Cond.methodLink "java/lang/AbstractStringBuilder" (397 : Nat) ({ cls := "java/lang/AbstractStringBuilder", name := "inflateIfNeededFor", desc := "(Ljava/lang/String;)V" } : Jvm.MethodName))).before a0 Z = true := hG.1 _ (List.mem_of_getElem? (i := 127) rfl)
theorem w128 {a0 : Array Value} {Z : State} {EL : List (String × Nat)} (hG : oG a0 Z EL) : ((Jvm.Cond.instanceMethod ({ cls := "java/lang/AbstractStringBuilder", name := "inflateIfNeededFor", desc := "(Ljava/lang/String;)V" } : Jvm.MethodName))).before a0 Z = true := hG.1 _ (List.mem_of_getElem? (i := 128) rfl)
theorem w129 {a0 : Array Value} {Z : State} {EL : List (String × Nat)} (hG : oG a0 Z EL) : ((Jvm.Cond.privateMethod ({ cls := "java/lang/AbstractStringBuilder", name := "inflateIfNeededFor", desc := "(Ljava/lang/String;)V" } : Jvm.MethodName))).before a0 Z = true := hG.1 _ (List.mem_of_getElem? (i := 129) rfl)
theorem w130 {a0 : Array Value} {Z : State} {EL : List (String × Nat)} (hG : oG a0 Z EL) : ((Jvm.Cond.selects "java/lang/StringBuilder" ({ cls := "java/lang/AbstractStringBuilder", name := "inflateIfNeededFor", desc := "(Ljava/lang/String;)V" } : Jvm.MethodName) ({ cls := "java/lang/AbstractStringBuilder", name := "inflateIfNeededFor", desc := "(Ljava/lang/String;)V" } : Jvm.MethodName))).before a0 Z = true := hG.1 _ (List.mem_of_getElem? (i := 130) rfl)
theorem w131 {a0 : Array Value} {Z : State} {EL : List (String × Nat)} (hG : oG a0 Z EL) : ((Jvm.Cond.code ({ cls := "java/lang/AbstractStringBuilder", name := "inflateIfNeededFor", desc := "(Ljava/lang/String;)V" } : Jvm.MethodName) jdk_68_method_71_code (2 : Nat) (Option.none : Option Jvm.ClassFile.FieldType))).before a0 Z = true := hG.1 _ (List.mem_of_getElem? (i := 131) rfl)
theorem w132 {a0 : Array Value} {Z : State} {EL : List (String × Nat)} (hG : oG a0 Z EL) : ((Jvm.Cond.methodLink "java/lang/AbstractStringBuilder" (40 : Nat) ({ cls := "java/lang/String", name := "coder", desc := "()B" } : Jvm.MethodName))).before a0 Z = true := hG.1 _ (List.mem_of_getElem? (i := 132) rfl)
theorem w133 {a0 : Array Value} {Z : State} {EL : List (String × Nat)} (hG : oG a0 Z EL) : ((Jvm.Cond.methodLink "java/lang/AbstractStringBuilder" (399 : Nat) ({ cls := "java/lang/String", name := "getBytes", desc := "([BIB)V" } : Jvm.MethodName))).before a0 Z = true := hG.1 _ (List.mem_of_getElem? (i := 133) rfl)
theorem w134 {a0 : Array Value} {Z : State} {EL : List (String × Nat)} (hG : oG a0 Z EL) : ((Jvm.Cond.declares ({ cls := "java/lang/String", name := "getBytes", desc := "([BIB)V" } : Jvm.MethodName))).before a0 Z = true := hG.1 _ (List.mem_of_getElem? (i := 134) rfl)
theorem w135 {a0 : Array Value} {Z : State} {EL : List (String × Nat)} (hG : oG a0 Z EL) : ((Jvm.Cond.instanceMethod ({ cls := "java/lang/String", name := "getBytes", desc := "([BIB)V" } : Jvm.MethodName))).before a0 Z = true := hG.1 _ (List.mem_of_getElem? (i := 135) rfl)
theorem w136 {a0 : Array Value} {Z : State} {EL : List (String × Nat)} (hG : oG a0 Z EL) : ((Jvm.Cond.selects "java/lang/String" ({ cls := "java/lang/String", name := "getBytes", desc := "([BIB)V" } : Jvm.MethodName) ({ cls := "java/lang/String", name := "getBytes", desc := "([BIB)V" } : Jvm.MethodName))).before a0 Z = true := hG.1 _ (List.mem_of_getElem? (i := 136) rfl)
theorem w137 {a0 : Array Value} {Z : State} {EL : List (String × Nat)} (hG : oG a0 Z EL) : ((Jvm.Cond.code ({ cls := "java/lang/String", name := "getBytes", desc := "([BIB)V" } : Jvm.MethodName) jdk_42_method_147_code (4 : Nat) (Option.none : Option Jvm.ClassFile.FieldType))).before a0 Z = true := hG.1 _ (List.mem_of_getElem? (i := 137) rfl)
theorem w138 {a0 : Array Value} {Z : State} {EL : List (String × Nat)} (hG : oG a0 Z EL) : ((Jvm.Cond.methodLink "java/lang/String" (212 : Nat) ({ cls := "java/lang/System", name := "arraycopy", desc := "(Ljava/lang/Object;ILjava/lang/Object;II)V" } : Jvm.MethodName))).before a0 Z = true := hG.1 _ (List.mem_of_getElem? (i := 138) rfl)
theorem w139 {a0 : Array Value} {Z : State} {EL : List (String × Nat)} (hG : oG a0 Z EL) : ((Jvm.Cond.static ({ cls := "java/lang/System", name := "arraycopy", desc := "(Ljava/lang/Object;ILjava/lang/Object;II)V" } : Jvm.MethodName))).before a0 Z = true := hG.1 _ (List.mem_of_getElem? (i := 139) rfl)
theorem w140 {a0 : Array Value} {Z : State} {EL : List (String × Nat)} (hG : oG a0 Z EL) : ((Jvm.Cond.initialized "java/lang/System")).before a0 Z = true := hG.1 _ (List.mem_of_getElem? (i := 140) rfl)
theorem w141 {a0 : Array Value} {Z : State} {EL : List (String × Nat)} (hG : oG a0 Z EL) : ((Jvm.Cond.native ({ cls := "java/lang/System", name := "arraycopy", desc := "(Ljava/lang/Object;ILjava/lang/Object;II)V" } : Jvm.MethodName))).before a0 Z = true := hG.1 _ (List.mem_of_getElem? (i := 141) rfl)
theorem w142 {a0 : Array Value} {Z : State} {EL : List (String × Nat)} (hG : oG a0 Z EL) : ((Jvm.Cond.stringLink "com/example/soft_sieve/softsieve/JudgedQuery" (54 : Nat) ", words=")).before a0 Z = true := hG.1 _ (List.mem_of_getElem? (i := 142) rfl)
theorem w143 {a0 : Array Value} {Z : State} {EL : List (String × Nat)} (hG : oG a0 Z EL) : ((Jvm.Cond.methodLink "java/lang/AbstractStringBuilder" (104 : Nat) ({ cls := "java/lang/AbstractStringBuilder", name := "newCapacity", desc := "(I)I" } : Jvm.MethodName))).before a0 Z = true := hG.1 _ (List.mem_of_getElem? (i := 143) rfl)
theorem w144 {a0 : Array Value} {Z : State} {EL : List (String × Nat)} (hG : oG a0 Z EL) : ((Jvm.Cond.instanceMethod ({ cls := "java/lang/AbstractStringBuilder", name := "newCapacity", desc := "(I)I" } : Jvm.MethodName))).before a0 Z = true := hG.1 _ (List.mem_of_getElem? (i := 144) rfl)
theorem w145 {a0 : Array Value} {Z : State} {EL : List (String × Nat)} (hG : oG a0 Z EL) : ((Jvm.Cond.privateMethod ({ cls := "java/lang/AbstractStringBuilder", name := "newCapacity", desc := "(I)I" } : Jvm.MethodName))).before a0 Z = true := hG.1 _ (List.mem_of_getElem? (i := 145) rfl)
theorem w146 {a0 : Array Value} {Z : State} {EL : List (String × Nat)} (hG : oG a0 Z EL) : ((Jvm.Cond.selects "java/lang/StringBuilder" ({ cls := "java/lang/AbstractStringBuilder", name := "newCapacity", desc := "(I)I" } : Jvm.MethodName) ({ cls := "java/lang/AbstractStringBuilder", name := "newCapacity", desc := "(I)I" } : Jvm.MethodName))).before a0 Z = true := hG.1 _ (List.mem_of_getElem? (i := 146) rfl)
theorem w147 {a0 : Array Value} {Z : State} {EL : List (String × Nat)} (hG : oG a0 Z EL) : ((Jvm.Cond.code ({ cls := "java/lang/AbstractStringBuilder", name := "newCapacity", desc := "(I)I" } : Jvm.MethodName) jdk_68_method_10_code (6 : Nat) (Option.some Jvm.ClassFile.FieldType.int))).before a0 Z = true := hG.1 _ (List.mem_of_getElem? (i := 147) rfl)
theorem w148 {a0 : Array Value} {Z : State} {EL : List (String × Nat)} (hG : oG a0 Z EL) : ((Jvm.Cond.methodLink "java/lang/AbstractStringBuilder" (114 : Nat) ({ cls := "jdk/internal/util/ArraysSupport", name := "newLength", desc := "(III)I" } : Jvm.MethodName))).before a0 Z = true := hG.1 _ (List.mem_of_getElem? (i := 148) rfl)
theorem w149 {a0 : Array Value} {Z : State} {EL : List (String × Nat)} (hG : oG a0 Z EL) : ((Jvm.Cond.static ({ cls := "jdk/internal/util/ArraysSupport", name := "newLength", desc := "(III)I" } : Jvm.MethodName))).before a0 Z = true := hG.1 _ (List.mem_of_getElem? (i := 149) rfl)
theorem w150 {a0 : Array Value} {Z : State} {EL : List (String × Nat)} (hG : oG a0 Z EL) : ((Jvm.Cond.initialized "jdk/internal/util/ArraysSupport")).before a0 Z = true := hG.1 _ (List.mem_of_getElem? (i := 150) rfl)
theorem w151 {a0 : Array Value} {Z : State} {EL : List (String × Nat)} (hG : oG a0 Z EL) : ((Jvm.Cond.code ({ cls := "jdk/internal/util/ArraysSupport", name := "newLength", desc := "(III)I" } : Jvm.MethodName) jdk_48_method_27_code (4 : Nat) (Option.some Jvm.ClassFile.FieldType.int))).before a0 Z = true := hG.1 _ (List.mem_of_getElem? (i := 151) rfl)
theorem w152 {a0 : Array Value} {Z : State} {EL : List (String × Nat)} (hG : oG a0 Z EL) : ((Jvm.Cond.methodLink "jdk/internal/util/ArraysSupport" (194 : Nat) ({ cls := "java/lang/Math", name := "max", desc := "(II)I" } : Jvm.MethodName))).before a0 Z = true := hG.1 _ (List.mem_of_getElem? (i := 152) rfl)
theorem w153 {a0 : Array Value} {Z : State} {EL : List (String × Nat)} (hG : oG a0 Z EL) : ((Jvm.Cond.static ({ cls := "java/lang/Math", name := "max", desc := "(II)I" } : Jvm.MethodName))).before a0 Z = true := hG.1 _ (List.mem_of_getElem? (i := 153) rfl)
theorem w154 {a0 : Array Value} {Z : State} {EL : List (String × Nat)} (hG : oG a0 Z EL) : ((Jvm.Cond.initialized "java/lang/Math")).before a0 Z = true := hG.1 _ (List.mem_of_getElem? (i := 154) rfl)
theorem w155 {a0 : Array Value} {Z : State} {EL : List (String × Nat)} (hG : oG a0 Z EL) : ((Jvm.Cond.code ({ cls := "java/lang/Math", name := "max", desc := "(II)I" } : Jvm.MethodName) jdk_29_method_65_code (2 : Nat) (Option.some Jvm.ClassFile.FieldType.int))).before a0 Z = true := hG.1 _ (List.mem_of_getElem? (i := 155) rfl)
theorem w156 {a0 : Array Value} {Z : State} {EL : List (String × Nat)} (hG : oG a0 Z EL) : ((Jvm.Cond.constant "jdk/internal/util/ArraysSupport" (200 : Nat) (2147483639 : Int32))).before a0 Z = true := hG.1 _ (List.mem_of_getElem? (i := 156) rfl)
theorem w157 {a0 : Array Value} {Z : State} {EL : List (String × Nat)} (hG : oG a0 Z EL) : ((Jvm.Cond.constant "java/lang/AbstractStringBuilder" (39 : Nat) (2147483647 : Int32))).before a0 Z = true := hG.1 _ (List.mem_of_getElem? (i := 157) rfl)
theorem w158 {a0 : Array Value} {Z : State} {EL : List (String × Nat)} (hG : oG a0 Z EL) : ((Jvm.Cond.methodLink "java/lang/AbstractStringBuilder" (108 : Nat) ({ cls := "java/util/Arrays", name := "copyOf", desc := "([BI)[B" } : Jvm.MethodName))).before a0 Z = true := hG.1 _ (List.mem_of_getElem? (i := 158) rfl)
theorem w159 {a0 : Array Value} {Z : State} {EL : List (String × Nat)} (hG : oG a0 Z EL) : ((Jvm.Cond.static ({ cls := "java/util/Arrays", name := "copyOf", desc := "([BI)[B" } : Jvm.MethodName))).before a0 Z = true := hG.1 _ (List.mem_of_getElem? (i := 159) rfl)
theorem w160 {a0 : Array Value} {Z : State} {EL : List (String × Nat)} (hG : oG a0 Z EL) : ((Jvm.Cond.initialized "java/util/Arrays")).before a0 Z = true := hG.1 _ (List.mem_of_getElem? (i := 160) rfl)
theorem w161 {a0 : Array Value} {Z : State} {EL : List (String × Nat)} (hG : oG a0 Z EL) : ((Jvm.Cond.code ({ cls := "java/util/Arrays", name := "copyOf", desc := "([BI)[B" } : Jvm.MethodName) jdk_65_method_121_code (3 : Nat) (Option.some (Jvm.ClassFile.FieldType.array Jvm.ClassFile.FieldType.byte)))).before a0 Z = true := hG.1 _ (List.mem_of_getElem? (i := 161) rfl)
theorem w162 {a0 : Array Value} {Z : State} {EL : List (String × Nat)} (hG : oG a0 Z EL) : ((Jvm.Cond.methodLink "java/util/Arrays" (304 : Nat) ({ cls := "java/lang/Math", name := "min", desc := "(II)I" } : Jvm.MethodName))).before a0 Z = true := hG.1 _ (List.mem_of_getElem? (i := 162) rfl)
theorem w163 {a0 : Array Value} {Z : State} {EL : List (String × Nat)} (hG : oG a0 Z EL) : ((Jvm.Cond.static ({ cls := "java/lang/Math", name := "min", desc := "(II)I" } : Jvm.MethodName))).before a0 Z = true := hG.1 _ (List.mem_of_getElem? (i := 163) rfl)
theorem w164 {a0 : Array Value} {Z : State} {EL : List (String × Nat)} (hG : oG a0 Z EL) : ((Jvm.Cond.code ({ cls := "java/lang/Math", name := "min", desc := "(II)I" } : Jvm.MethodName) jdk_29_method_69_code (2 : Nat) (Option.some Jvm.ClassFile.FieldType.int))).before a0 Z = true := hG.1 _ (List.mem_of_getElem? (i := 164) rfl)
theorem w165 {a0 : Array Value} {Z : State} {EL : List (String × Nat)} (hG : oG a0 Z EL) : ((Jvm.Cond.methodLink "java/util/Arrays" (150 : Nat) ({ cls := "java/lang/System", name := "arraycopy", desc := "(Ljava/lang/Object;ILjava/lang/Object;II)V" } : Jvm.MethodName))).before a0 Z = true := hG.1 _ (List.mem_of_getElem? (i := 165) rfl)
theorem w166 {a0 : Array Value} {Z : State} {EL : List (String × Nat)} (hG : oG a0 Z EL) : ((Jvm.Cond.stringLink "com/example/soft_sieve/softsieve/JudgedQuery" (56 : Nat) "]")).before a0 Z = true := hG.1 _ (List.mem_of_getElem? (i := 166) rfl)
theorem w167 {a0 : Array Value} {Z : State} {EL : List (String × Nat)} (hG : oG a0 Z EL) : ((Jvm.Cond.methodLink "com/example/soft_sieve/softsieve/JudgedQuery" (58 : Nat) ({ cls := "java/lang/StringBuilder", name := "toString", desc := "()Ljava/lang/String;" } : Jvm.MethodName))).before a0 Z = true := hG.1 _ (List.mem_of_getElem? (i := 167) rfl)
theorem w168 {a0 : Array Value} {Z : State} {EL : List (String × Nat)} (hG : oG a0 Z EL) : ((Jvm.Cond.declares ({ cls := "java/lang/StringBuilder", name := "toString", desc := "()Ljava/lang/String;" } : Jvm.MethodName))).before a0 Z = true := hG.1 _ (List.mem_of_getElem? (i := 168) rfl)
theorem w169 {a0 : Array Value} {Z : State} {EL : List (String × Nat)} (hG : oG a0 Z EL) : ((Jvm.Cond.instanceMethod ({ cls := "java/lang/StringBuilder", name := "toString", desc := "()Ljava/lang/String;" } : Jvm.MethodName))).before a0 Z = true := hG.1 _ (List.mem_of_getElem? (i := 169) rfl)
theorem w170 {a0 : Array Value} {Z : State} {EL : List (String × Nat)} (hG : oG a0 Z EL) : ((Jvm.Cond.selects "java/lang/StringBuilder" ({ cls := "java/lang/StringBuilder", name := "toString", desc := "()Ljava/lang/String;" } : Jvm.MethodName) ({ cls := "java/lang/StringBuilder", name := "toString", desc := "()Ljava/lang/String;" } : Jvm.MethodName))).before a0 Z = true := hG.1 _ (List.mem_of_getElem? (i := 170) rfl)
theorem w171 {a0 : Array Value} {Z : State} {EL : List (String × Nat)} (hG : oG a0 Z EL) : ((Jvm.Cond.code ({ cls := "java/lang/StringBuilder", name := "toString", desc := "()Ljava/lang/String;" } : Jvm.MethodName) jdk_67_method_42_code (1 : Nat) (Option.some (Jvm.ClassFile.FieldType.object "java/lang/String")))).before a0 Z = true := hG.1 _ (List.mem_of_getElem? (i := 171) rfl)
theorem w172 {a0 : Array Value} {Z : State} {EL : List (String × Nat)} (hG : oG a0 Z EL) : ((Jvm.Cond.classLink "java/lang/StringBuilder" (18 : Nat) "java/lang/String")).before a0 Z = true := hG.1 _ (List.mem_of_getElem? (i := 172) rfl)
theorem w173 {a0 : Array Value} {Z : State} {EL : List (String × Nat)} (hG : oG a0 Z EL) : ((Jvm.Cond.methodLink "java/lang/StringBuilder" (137 : Nat) ({ cls := "java/lang/String", name := "<init>", desc := "(Ljava/lang/StringBuilder;)V" } : Jvm.MethodName))).before a0 Z = true := hG.1 _ (List.mem_of_getElem? (i := 173) rfl)
theorem w174 {a0 : Array Value} {Z : State} {EL : List (String × Nat)} (hG : oG a0 Z EL) : ((Jvm.Cond.instanceMethod ({ cls := "java/lang/String", name := "<init>", desc := "(Ljava/lang/StringBuilder;)V" } : Jvm.MethodName))).before a0 Z = true := hG.1 _ (List.mem_of_getElem? (i := 174) rfl)
theorem w175 {a0 : Array Value} {Z : State} {EL : List (String × Nat)} (hG : oG a0 Z EL) : ((Jvm.Cond.code ({ cls := "java/lang/String", name := "<init>", desc := "(Ljava/lang/StringBuilder;)V" } : Jvm.MethodName) jdk_42_method_53_code (2 : Nat) (Option.none : Option Jvm.ClassFile.FieldType))).before a0 Z = true := hG.1 _ (List.mem_of_getElem? (i := 175) rfl)
theorem w176 {a0 : Array Value} {Z : State} {EL : List (String × Nat)} (hG : oG a0 Z EL) : ((Jvm.Cond.methodLink "java/lang/String" (489 : Nat) ({ cls := "java/lang/String", name := "<init>", desc := "(Ljava/lang/AbstractStringBuilder;Ljava/lang/Void;)V" } : Jvm.MethodName))).before a0 Z = true := hG.1 _ (List.mem_of_getElem? (i := 176) rfl)
theorem w177 {a0 : Array Value} {Z : State} {EL : List (String × Nat)} (hG : oG a0 Z EL) : ((Jvm.Cond.instanceMethod ({ cls := "java/lang/String", name := "<init>", desc := "(Ljava/lang/AbstractStringBuilder;Ljava/lang/Void;)V" } : Jvm.MethodName))).before a0 Z = true := hG.1 _ (List.mem_of_getElem? (i := 177) rfl)
theorem w178 {a0 : Array Value} {Z : State} {EL : List (String × Nat)} (hG : oG a0 Z EL) : ((Jvm.Cond.code ({ cls := "java/lang/String", name := "<init>", desc := "(Ljava/lang/AbstractStringBuilder;Ljava/lang/Void;)V" } : Jvm.MethodName) jdk_42_method_150_code (5 : Nat) (Option.none : Option Jvm.ClassFile.FieldType))).before a0 Z = true := hG.1 _ (List.mem_of_getElem? (i := 178) rfl)
theorem w179 {a0 : Array Value} {Z : State} {EL : List (String × Nat)} (hG : oG a0 Z EL) : ((Jvm.Cond.methodLink "java/lang/String" (552 : Nat) ({ cls := "java/lang/AbstractStringBuilder", name := "getValue", desc := "()[B" } : Jvm.MethodName))).before a0 Z = true := hG.1 _ (List.mem_of_getElem? (i := 179) rfl)
theorem w180 {a0 : Array Value} {Z : State} {EL : List (String × Nat)} (hG : oG a0 Z EL) : ((Jvm.Cond.declares ({ cls := "java/lang/AbstractStringBuilder", name := "getValue", desc := "()[B" } : Jvm.MethodName))).before a0 Z = true := hG.1 _ (List.mem_of_getElem? (i := 180) rfl)
theorem w181 {a0 : Array Value} {Z : State} {EL : List (String × Nat)} (hG : oG a0 Z EL) : ((Jvm.Cond.instanceMethod ({ cls := "java/lang/AbstractStringBuilder", name := "getValue", desc := "()[B" } : Jvm.MethodName))).before a0 Z = true := hG.1 _ (List.mem_of_getElem? (i := 181) rfl)
theorem w182 {a0 : Array Value} {Z : State} {EL : List (String × Nat)} (hG : oG a0 Z EL) : ((Jvm.Cond.selects "java/lang/StringBuilder" ({ cls := "java/lang/AbstractStringBuilder", name := "getValue", desc := "()[B" } : Jvm.MethodName) ({ cls := "java/lang/AbstractStringBuilder", name := "getValue", desc := "()[B" } : Jvm.MethodName))).before a0 Z = true := hG.1 _ (List.mem_of_getElem? (i := 182) rfl)
theorem w183 {a0 : Array Value} {Z : State} {EL : List (String × Nat)} (hG : oG a0 Z EL) : ((Jvm.Cond.code ({ cls := "java/lang/AbstractStringBuilder", name := "getValue", desc := "()[B" } : Jvm.MethodName) jdk_68_method_64_code (1 : Nat) (Option.some (Jvm.ClassFile.FieldType.array Jvm.ClassFile.FieldType.byte)))).before a0 Z = true := hG.1 _ (List.mem_of_getElem? (i := 183) rfl)
theorem w184 {a0 : Array Value} {Z : State} {EL : List (String × Nat)} (hG : oG a0 Z EL) : ((Jvm.Cond.methodLink "java/lang/String" (549 : Nat) ({ cls := "java/lang/AbstractStringBuilder", name := "length", desc := "()I" } : Jvm.MethodName))).before a0 Z = true := hG.1 _ (List.mem_of_getElem? (i := 184) rfl)
theorem w185 {a0 : Array Value} {Z : State} {EL : List (String × Nat)} (hG : oG a0 Z EL) : ((Jvm.Cond.declares ({ cls := "java/lang/AbstractStringBuilder", name := "length", desc := "()I" } : Jvm.MethodName))).before a0 Z = true := hG.1 _ (List.mem_of_getElem? (i := 185) rfl)
theorem w186 {a0 : Array Value} {Z : State} {EL : List (String × Nat)} (hG : oG a0 Z EL) : ((Jvm.Cond.instanceMethod ({ cls := "java/lang/AbstractStringBuilder", name := "length", desc := "()I" } : Jvm.MethodName))).before a0 Z = true := hG.1 _ (List.mem_of_getElem? (i := 186) rfl)
theorem w187 {a0 : Array Value} {Z : State} {EL : List (String × Nat)} (hG : oG a0 Z EL) : ((Jvm.Cond.selects "java/lang/StringBuilder" ({ cls := "java/lang/AbstractStringBuilder", name := "length", desc := "()I" } : Jvm.MethodName) ({ cls := "java/lang/StringBuilder", name := "length", desc := "()I" } : Jvm.MethodName))).before a0 Z = true := hG.1 _ (List.mem_of_getElem? (i := 187) rfl)
theorem w188 {a0 : Array Value} {Z : State} {EL : List (String × Nat)} (hG : oG a0 Z EL) : ((Jvm.Cond.instanceMethod ({ cls := "java/lang/StringBuilder", name := "length", desc := "()I" } : Jvm.MethodName))).before a0 Z = true := hG.1 _ (List.mem_of_getElem? (i := 188) rfl)
theorem w189 {a0 : Array Value} {Z : State} {EL : List (String × Nat)} (hG : oG a0 Z EL) : ((Jvm.Cond.code ({ cls := "java/lang/StringBuilder", name := "length", desc := "()I" } : Jvm.MethodName) jdk_67_method_93_code (1 : Nat) (Option.some Jvm.ClassFile.FieldType.int))).before a0 Z = true := hG.1 _ (List.mem_of_getElem? (i := 189) rfl)
theorem w190 {a0 : Array Value} {Z : State} {EL : List (String × Nat)} (hG : oG a0 Z EL) : ((Jvm.Cond.methodLink "java/lang/StringBuilder" (343 : Nat) ({ cls := "java/lang/AbstractStringBuilder", name := "length", desc := "()I" } : Jvm.MethodName))).before a0 Z = true := hG.1 _ (List.mem_of_getElem? (i := 190) rfl)
theorem w191 {a0 : Array Value} {Z : State} {EL : List (String × Nat)} (hG : oG a0 Z EL) : ((Jvm.Cond.code ({ cls := "java/lang/AbstractStringBuilder", name := "length", desc := "()I" } : Jvm.MethodName) jdk_68_method_6_code (1 : Nat) (Option.some Jvm.ClassFile.FieldType.int))).before a0 Z = true := hG.1 _ (List.mem_of_getElem? (i := 191) rfl)
theorem w192 {a0 : Array Value} {Z : State} {EL : List (String × Nat)} (hG : oG a0 Z EL) : ((Jvm.Cond.methodLink "java/lang/String" (1047 : Nat) ({ cls := "java/lang/AbstractStringBuilder", name := "isLatin1", desc := "()Z" } : Jvm.MethodName))).before a0 Z = true := hG.1 _ (List.mem_of_getElem? (i := 192) rfl)
theorem w193 {a0 : Array Value} {Z : State} {EL : List (String × Nat)} (hG : oG a0 Z EL) : ((Jvm.Cond.declares ({ cls := "java/lang/AbstractStringBuilder", name := "isLatin1", desc := "()Z" } : Jvm.MethodName))).before a0 Z = true := hG.1 _ (List.mem_of_getElem? (i := 193) rfl)
theorem w194 {a0 : Array Value} {Z : State} {EL : List (String × Nat)} (hG : oG a0 Z EL) : ((Jvm.Cond.instanceMethod ({ cls := "java/lang/AbstractStringBuilder", name := "isLatin1", desc := "()Z" } : Jvm.MethodName))).before a0 Z = true := hG.1 _ (List.mem_of_getElem? (i := 194) rfl)
theorem w195 {a0 : Array Value} {Z : State} {EL : List (String × Nat)} (hG : oG a0 Z EL) : ((Jvm.Cond.selects "java/lang/StringBuilder" ({ cls := "java/lang/AbstractStringBuilder", name := "isLatin1", desc := "()Z" } : Jvm.MethodName) ({ cls := "java/lang/AbstractStringBuilder", name := "isLatin1", desc := "()Z" } : Jvm.MethodName))).before a0 Z = true := hG.1 _ (List.mem_of_getElem? (i := 195) rfl)
theorem w196 {a0 : Array Value} {Z : State} {EL : List (String × Nat)} (hG : oG a0 Z EL) : ((Jvm.Cond.code ({ cls := "java/lang/AbstractStringBuilder", name := "isLatin1", desc := "()Z" } : Jvm.MethodName) jdk_68_method_68_code (1 : Nat) (Option.some Jvm.ClassFile.FieldType.boolean))).before a0 Z = true := hG.1 _ (List.mem_of_getElem? (i := 196) rfl)
theorem w197 {a0 : Array Value} {Z : State} {EL : List (String × Nat)} (hG : oG a0 Z EL) : ((Jvm.Cond.methodLink "java/lang/String" (54 : Nat) ({ cls := "java/util/Arrays", name := "copyOfRange", desc := "([BII)[B" } : Jvm.MethodName))).before a0 Z = true := hG.1 _ (List.mem_of_getElem? (i := 197) rfl)
theorem w198 {a0 : Array Value} {Z : State} {EL : List (String × Nat)} (hG : oG a0 Z EL) : ((Jvm.Cond.static ({ cls := "java/util/Arrays", name := "copyOfRange", desc := "([BII)[B" } : Jvm.MethodName))).before a0 Z = true := hG.1 _ (List.mem_of_getElem? (i := 198) rfl)
theorem w199 {a0 : Array Value} {Z : State} {EL : List (String × Nat)} (hG : oG a0 Z EL) : ((Jvm.Cond.code ({ cls := "java/util/Arrays", name := "copyOfRange", desc := "([BII)[B" } : Jvm.MethodName) jdk_65_method_132_code (3 : Nat) (Option.some (Jvm.ClassFile.FieldType.array Jvm.ClassFile.FieldType.byte)))).before a0 Z = true := hG.1 _ (List.mem_of_getElem? (i := 199) rfl)
theorem w200 {a0 : Array Value} {Z : State} {EL : List (String × Nat)} (hG : oG a0 Z EL) : ((Jvm.Cond.methodLink "java/util/Arrays" (339 : Nat) ({ cls := "java/util/Arrays", name := "copyOfRangeByte", desc := "([BII)[B" } : Jvm.MethodName))).before a0 Z = true := hG.1 _ (List.mem_of_getElem? (i := 200) rfl)
theorem w201 {a0 : Array Value} {Z : State} {EL : List (String × Nat)} (hG : oG a0 Z EL) : ((Jvm.Cond.static ({ cls := "java/util/Arrays", name := "copyOfRangeByte", desc := "([BII)[B" } : Jvm.MethodName))).before a0 Z = true := hG.1 _ (List.mem_of_getElem? (i := 201) rfl)
theorem w202 {a0 : Array Value} {Z : State} {EL : List (String × Nat)} (hG : oG a0 Z EL) : ((Jvm.Cond.code ({ cls := "java/util/Arrays", name := "copyOfRangeByte", desc := "([BII)[B" } : Jvm.MethodName) jdk_65_method_133_code (5 : Nat) (Option.some (Jvm.ClassFile.FieldType.array Jvm.ClassFile.FieldType.byte)))).before a0 Z = true := hG.1 _ (List.mem_of_getElem? (i := 202) rfl)
theorem w203 {a0 : Array Value} {Z : State} {EL : List (String × Nat)} (hG : oG a0 Z EL) : ((Jvm.Cond.methodLink "java/util/Arrays" (343 : Nat) ({ cls := "java/util/Arrays", name := "checkLength", desc := "(II)V" } : Jvm.MethodName))).before a0 Z = true := hG.1 _ (List.mem_of_getElem? (i := 203) rfl)
theorem w204 {a0 : Array Value} {Z : State} {EL : List (String × Nat)} (hG : oG a0 Z EL) : ((Jvm.Cond.static ({ cls := "java/util/Arrays", name := "checkLength", desc := "(II)V" } : Jvm.MethodName))).before a0 Z = true := hG.1 _ (List.mem_of_getElem? (i := 204) rfl)
theorem w205 {a0 : Array Value} {Z : State} {EL : List (String × Nat)} (hG : oG a0 Z EL) : ((Jvm.Cond.code ({ cls := "java/util/Arrays", name := "checkLength", desc := "(II)V" } : Jvm.MethodName) jdk_65_method_131_code (2 : Nat) (Option.none : Option Jvm.ClassFile.FieldType))).before a0 Z = true := hG.1 _ (List.mem_of_getElem? (i := 205) rfl)
theorem w206 {a0 : Array Value} {Z : State} {EL : List (String × Nat)} (hG : oG a0 Z EL) : ((Jvm.Cond.methodLink "com/example/soft_sieve/softsieve/JudgedQueryToStringPinLaw" (29 : Nat) ({ cls := "java/lang/String", name := "length", desc := "()I" } : Jvm.MethodName))).before a0 Z = true := hG.1 _ (List.mem_of_getElem? (i := 206) rfl)
theorem w207 {a0 : Array Value} {Z : State} {EL : List (String × Nat)} (hG : oG a0 Z EL) : ((Jvm.Cond.stringLink "com/example/soft_sieve/softsieve/JudgedQueryToStringPinLaw" (35 : Nat) "JudgedQu")).before a0 Z = true := hG.1 _ (List.mem_of_getElem? (i := 207) rfl)
theorem w208 {a0 : Array Value} {Z : State} {EL : List (String × Nat)} (hG : oG a0 Z EL) : ((Jvm.Cond.methodLink "com/example/soft_sieve/softsieve/JudgedQueryToStringPinLaw" (37 : Nat) ({ cls := "com/example/soft_sieve/softsieve/JudgedQueryToStringPinLaw", name := "eq8", desc := "(Ljava/lang/String;ILjava/lang/String;)Z" } : Jvm.MethodName))).before a0 Z = true := hG.1 _ (List.mem_of_getElem? (i := 208) rfl)
theorem w209 {a0 : Array Value} {Z : State} {EL : List (String × Nat)} (hG : oG a0 Z EL) : ((Jvm.Cond.static ({ cls := "com/example/soft_sieve/softsieve/JudgedQueryToStringPinLaw", name := "eq8", desc := "(Ljava/lang/String;ILjava/lang/String;)Z" } : Jvm.MethodName))).before a0 Z = true := hG.1 _ (List.mem_of_getElem? (i := 209) rfl)
theorem w210 {a0 : Array Value} {Z : State} {EL : List (String × Nat)} (hG : oG a0 Z EL) : ((Jvm.Cond.code ({ cls := "com/example/soft_sieve/softsieve/JudgedQueryToStringPinLaw", name := "eq8", desc := "(Ljava/lang/String;ILjava/lang/String;)Z" } : Jvm.MethodName) method_4_code (3 : Nat) (Option.some Jvm.ClassFile.FieldType.boolean))).before a0 Z = true := hG.1 _ (List.mem_of_getElem? (i := 210) rfl)
theorem w211 {a0 : Array Value} {Z : State} {EL : List (String × Nat)} (hG : oG a0 Z EL) : ((Jvm.Cond.methodLink "com/example/soft_sieve/softsieve/JudgedQueryToStringPinLaw" (43 : Nat) ({ cls := "java/lang/String", name := "charAt", desc := "(I)C" } : Jvm.MethodName))).before a0 Z = true := hG.1 _ (List.mem_of_getElem? (i := 211) rfl)
theorem w212 {a0 : Array Value} {Z : State} {EL : List (String × Nat)} (hG : oG a0 Z EL) : ((Jvm.Cond.declares ({ cls := "java/lang/String", name := "charAt", desc := "(I)C" } : Jvm.MethodName))).before a0 Z = true := hG.1 _ (List.mem_of_getElem? (i := 212) rfl)
theorem w213 {a0 : Array Value} {Z : State} {EL : List (String × Nat)} (hG : oG a0 Z EL) : ((Jvm.Cond.instanceMethod ({ cls := "java/lang/String", name := "charAt", desc := "(I)C" } : Jvm.MethodName))).before a0 Z = true := hG.1 _ (List.mem_of_getElem? (i := 213) rfl)
theorem w214 {a0 : Array Value} {Z : State} {EL : List (String × Nat)} (hG : oG a0 Z EL) : ((Jvm.Cond.selects "java/lang/String" ({ cls := "java/lang/String", name := "charAt", desc := "(I)C" } : Jvm.MethodName) ({ cls := "java/lang/String", name := "charAt", desc := "(I)C" } : Jvm.MethodName))).before a0 Z = true := hG.1 _ (List.mem_of_getElem? (i := 214) rfl)
theorem w215 {a0 : Array Value} {Z : State} {EL : List (String × Nat)} (hG : oG a0 Z EL) : ((Jvm.Cond.code ({ cls := "java/lang/String", name := "charAt", desc := "(I)C" } : Jvm.MethodName) jdk_42_method_56_code (2 : Nat) (Option.some Jvm.ClassFile.FieldType.char))).before a0 Z = true := hG.1 _ (List.mem_of_getElem? (i := 215) rfl)
theorem w216 {a0 : Array Value} {Z : State} {EL : List (String × Nat)} (hG : oG a0 Z EL) : ((Jvm.Cond.methodLink "java/lang/String" (492 : Nat) ({ cls := "java/lang/String", name := "isLatin1", desc := "()Z" } : Jvm.MethodName))).before a0 Z = true := hG.1 _ (List.mem_of_getElem? (i := 216) rfl)
theorem w217 {a0 : Array Value} {Z : State} {EL : List (String × Nat)} (hG : oG a0 Z EL) : ((Jvm.Cond.declares ({ cls := "java/lang/String", name := "isLatin1", desc := "()Z" } : Jvm.MethodName))).before a0 Z = true := hG.1 _ (List.mem_of_getElem? (i := 217) rfl)
theorem w218 {a0 : Array Value} {Z : State} {EL : List (String × Nat)} (hG : oG a0 Z EL) : ((Jvm.Cond.instanceMethod ({ cls := "java/lang/String", name := "isLatin1", desc := "()Z" } : Jvm.MethodName))).before a0 Z = true := hG.1 _ (List.mem_of_getElem? (i := 218) rfl)
theorem w219 {a0 : Array Value} {Z : State} {EL : List (String × Nat)} (hG : oG a0 Z EL) : ((Jvm.Cond.selects "java/lang/String" ({ cls := "java/lang/String", name := "isLatin1", desc := "()Z" } : Jvm.MethodName) ({ cls := "java/lang/String", name := "isLatin1", desc := "()Z" } : Jvm.MethodName))).before a0 Z = true := hG.1 _ (List.mem_of_getElem? (i := 219) rfl)
theorem w220 {a0 : Array Value} {Z : State} {EL : List (String × Nat)} (hG : oG a0 Z EL) : ((Jvm.Cond.code ({ cls := "java/lang/String", name := "isLatin1", desc := "()Z" } : Jvm.MethodName) jdk_42_method_154_code (1 : Nat) (Option.some Jvm.ClassFile.FieldType.boolean))).before a0 Z = true := hG.1 _ (List.mem_of_getElem? (i := 220) rfl)
theorem w221 {a0 : Array Value} {Z : State} {EL : List (String × Nat)} (hG : oG a0 Z EL) : ((Jvm.Cond.methodLink "java/lang/String" (495 : Nat) ({ cls := "java/lang/StringLatin1", name := "charAt", desc := "([BI)C" } : Jvm.MethodName))).before a0 Z = true := hG.1 _ (List.mem_of_getElem? (i := 221) rfl)
theorem w222 {a0 : Array Value} {Z : State} {EL : List (String × Nat)} (hG : oG a0 Z EL) : ((Jvm.Cond.static ({ cls := "java/lang/StringLatin1", name := "charAt", desc := "([BI)C" } : Jvm.MethodName))).before a0 Z = true := hG.1 _ (List.mem_of_getElem? (i := 222) rfl)
theorem w223 {a0 : Array Value} {Z : State} {EL : List (String × Nat)} (hG : oG a0 Z EL) : ((Jvm.Cond.initialized "java/lang/StringLatin1")).before a0 Z = true := hG.1 _ (List.mem_of_getElem? (i := 223) rfl)
theorem w224 {a0 : Array Value} {Z : State} {EL : List (String × Nat)} (hG : oG a0 Z EL) : ((Jvm.Cond.code ({ cls := "java/lang/StringLatin1", name := "charAt", desc := "([BI)C" } : Jvm.MethodName) jdk_43_method_2_code (2 : Nat) (Option.some Jvm.ClassFile.FieldType.char))).before a0 Z = true := hG.1 _ (List.mem_of_getElem? (i := 224) rfl)
theorem w225 {a0 : Array Value} {Z : State} {EL : List (String × Nat)} (hG : oG a0 Z EL) : ((Jvm.Cond.methodLink "java/lang/StringLatin1" (9 : Nat) ({ cls := "java/lang/String", name := "checkIndex", desc := "(II)V" } : Jvm.MethodName))).before a0 Z = true := hG.1 _ (List.mem_of_getElem? (i := 225) rfl)
theorem w226 {a0 : Array Value} {Z : State} {EL : List (String × Nat)} (hG : oG a0 Z EL) : ((Jvm.Cond.static ({ cls := "java/lang/String", name := "checkIndex", desc := "(II)V" } : Jvm.MethodName))).before a0 Z = true := hG.1 _ (List.mem_of_getElem? (i := 226) rfl)
theorem w227 {a0 : Array Value} {Z : State} {EL : List (String × Nat)} (hG : oG a0 Z EL) : ((Jvm.Cond.code ({ cls := "java/lang/String", name := "checkIndex", desc := "(II)V" } : Jvm.MethodName) jdk_42_method_155_code (2 : Nat) (Option.none : Option Jvm.ClassFile.FieldType))).before a0 Z = true := hG.1 _ (List.mem_of_getElem? (i := 227) rfl)
theorem w228 {a0 : Array Value} {Z : State} {EL : List (String × Nat)} (hG : oG a0 Z EL) : ((Jvm.Cond.fieldLink "java/lang/String" (1053 : Nat) "jdk/internal/util/Preconditions" "SIOOBE_FORMATTER" "Ljava/util/function/BiFunction;")).before a0 Z = true := hG.1 _ (List.mem_of_getElem? (i := 228) rfl)
theorem w229 {a0 : Array Value} {Z : State} {EL : List (String × Nat)} (hG : oG a0 Z EL) : ((Jvm.Cond.initialized "jdk/internal/util/Preconditions")).before a0 Z = true := hG.1 _ (List.mem_of_getElem? (i := 229) rfl)
theorem w230 {a0 : Array Value} {Z : State} {EL : List (String × Nat)} (hG : oG a0 Z EL) : ((Jvm.Cond.methodLink "java/lang/String" (1059 : Nat) ({ cls := "jdk/internal/util/Preconditions", name := "checkIndex", desc := "(IILjava/util/function/BiFunction;)I" } : Jvm.MethodName))).before a0 Z = true := hG.1 _ (List.mem_of_getElem? (i := 230) rfl)
theorem w231 {a0 : Array Value} {Z : State} {EL : List (String × Nat)} (hG : oG a0 Z EL) : ((Jvm.Cond.static ({ cls := "jdk/internal/util/Preconditions", name := "checkIndex", desc := "(IILjava/util/function/BiFunction;)I" } : Jvm.MethodName))).before a0 Z = true := hG.1 _ (List.mem_of_getElem? (i := 231) rfl)
theorem w232 {a0 : Array Value} {Z : State} {EL : List (String × Nat)} (hG : oG a0 Z EL) : ((Jvm.Cond.code ({ cls := "jdk/internal/util/Preconditions", name := "checkIndex", desc := "(IILjava/util/function/BiFunction;)I" } : Jvm.MethodName) jdk_41_method_11_code (3 : Nat) (Option.some Jvm.ClassFile.FieldType.int))).before a0 Z = true := hG.1 _ (List.mem_of_getElem? (i := 232) rfl)
theorem w233 {a0 : Array Value} {Z : State} {EL : List (String × Nat)} (hG : oG a0 Z EL) : ((Jvm.Cond.stringLink "com/example/soft_sieve/softsieve/JudgedQueryToStringPinLaw" (41 : Nat) "uery[id=")).before a0 Z = true := hG.1 _ (List.mem_of_getElem? (i := 233) rfl)
theorem w234 {a0 : Array Value} {Z : State} {EL : List (String × Nat)} (hG : oG a0 Z EL) : ((Jvm.Cond.stringLink "com/example/soft_sieve/softsieve/JudgedQueryToStringPinLaw" (47 : Nat) ", words=")).before a0 Z = true := hG.1 _ (List.mem_of_getElem? (i := 234) rfl)
theorem strAt {a0 : Array Value} {Z : State} {EL : List (String × Nat)} (hG : oG a0 Z EL) : ∀ a ∈ Bundle.stringAtoms, a.before a0 Z = true := by
  intro a ha
  simp only [Bundle.stringAtoms, Bundle.sN, List.mem_cons, List.not_mem_nil, or_false] at ha
  rcases ha with rfl | rfl | rfl | rfl | rfl | rfl | rfl
  · exact w7 hG
  · exact w6 hG
  · exact w20 hG
  · exact w21 hG
  · exact w22 hG
  · exact w23 hG
  · exact w24 hG
theorem d1_0 : decode method_3_code 0 = .ok (.iload_n 0, 1) := by decide +kernel
theorem d1_1 : decode method_3_code 1 = .ok (.ifCond .ne 14, 3) := by decide +kernel
theorem d1_4 : decode method_3_code 4 = .ok (.new 30, 3) := by decide +kernel
theorem d1_7 : decode method_3_code 7 = .ok (.dup, 1) := by decide +kernel
theorem d1_8 : decode method_3_code 8 = .ok (.iconst 0, 1) := by decide +kernel
theorem d1_9 : decode method_3_code 9 = .ok (.newarray .char, 2) := by decide +kernel
theorem d1_11 : decode method_3_code 11 = .ok (.invokespecial 49, 3) := by decide +kernel
theorem d1_14 : decode method_3_code 14 = .ok (.areturn, 1) := by decide +kernel
theorem d1_15 : decode method_3_code 15 = .ok (.iload_n 0, 1) := by decide +kernel
theorem d1_16 : decode method_3_code 16 = .ok (.iconst 1, 1) := by decide +kernel
theorem d1_17 : decode method_3_code 17 = .ok (.if_icmp .ne 20, 3) := by decide +kernel
theorem d1_20 : decode method_3_code 20 = .ok (.iconst 1, 1) := by decide +kernel
theorem d1_21 : decode method_3_code 21 = .ok (.newarray .char, 2) := by decide +kernel
theorem d1_23 : decode method_3_code 23 = .ok (.astore_n 3, 1) := by decide +kernel
theorem d1_24 : decode method_3_code 24 = .ok (.aload_n 3, 1) := by decide +kernel
theorem d1_25 : decode method_3_code 25 = .ok (.iconst 0, 1) := by decide +kernel
theorem d1_26 : decode method_3_code 26 = .ok (.iload_n 1, 1) := by decide +kernel
theorem d1_27 : decode method_3_code 27 = .ok (.castore, 1) := by decide +kernel
theorem d1_28 : decode method_3_code 28 = .ok (.new 30, 3) := by decide +kernel
theorem d1_31 : decode method_3_code 31 = .ok (.dup, 1) := by decide +kernel
theorem d1_32 : decode method_3_code 32 = .ok (.aload_n 3, 1) := by decide +kernel
theorem d1_33 : decode method_3_code 33 = .ok (.invokespecial 49, 3) := by decide +kernel
theorem d1_36 : decode method_3_code 36 = .ok (.areturn, 1) := by decide +kernel
theorem d1_37 : decode method_3_code 37 = .ok (.iconst 2, 1) := by decide +kernel
theorem d1_38 : decode method_3_code 38 = .ok (.newarray .char, 2) := by decide +kernel
theorem d1_40 : decode method_3_code 40 = .ok (.astore_n 3, 1) := by decide +kernel
theorem d1_41 : decode method_3_code 41 = .ok (.aload_n 3, 1) := by decide +kernel
theorem d1_42 : decode method_3_code 42 = .ok (.iconst 0, 1) := by decide +kernel
theorem d1_43 : decode method_3_code 43 = .ok (.iload_n 1, 1) := by decide +kernel
theorem d1_44 : decode method_3_code 44 = .ok (.castore, 1) := by decide +kernel
theorem d1_45 : decode method_3_code 45 = .ok (.aload_n 3, 1) := by decide +kernel
theorem d1_46 : decode method_3_code 46 = .ok (.iconst 1, 1) := by decide +kernel
theorem d1_47 : decode method_3_code 47 = .ok (.iload_n 2, 1) := by decide +kernel
theorem d1_48 : decode method_3_code 48 = .ok (.castore, 1) := by decide +kernel
theorem d1_49 : decode method_3_code 49 = .ok (.new 30, 3) := by decide +kernel
theorem d1_52 : decode method_3_code 52 = .ok (.dup, 1) := by decide +kernel
theorem d1_53 : decode method_3_code 53 = .ok (.aload_n 3, 1) := by decide +kernel
theorem d1_54 : decode method_3_code 54 = .ok (.invokespecial 49, 3) := by decide +kernel
theorem d1_57 : decode method_3_code 57 = .ok (.areturn, 1) := by decide +kernel
theorem d2_0 : decode jdk_42_method_3_code 0 = .ok (.aload_n 0, 1) := by decide +kernel
theorem d2_1 : decode jdk_42_method_3_code 1 = .ok (.aload_n 1, 1) := by decide +kernel
theorem d2_2 : decode jdk_42_method_3_code 2 = .ok (.iconst 0, 1) := by decide +kernel
theorem d2_3 : decode jdk_42_method_3_code 3 = .ok (.aload_n 1, 1) := by decide +kernel
theorem d2_4 : decode jdk_42_method_3_code 4 = .ok (.arraylength, 1) := by decide +kernel
theorem d2_5 : decode jdk_42_method_3_code 5 = .ok (.aconst_null, 1) := by decide +kernel
theorem d2_6 : decode jdk_42_method_3_code 6 = .ok (.invokespecial 27, 3) := by decide +kernel
theorem d2_9 : decode jdk_42_method_3_code 9 = .ok (.return_, 1) := by decide +kernel
theorem d3_0 : decode jdk_42_method_149_code 0 = .ok (.aload_n 0, 1) := by decide +kernel
theorem d3_1 : decode jdk_42_method_149_code 1 = .ok (.invokespecial 1, 3) := by decide +kernel
theorem d3_4 : decode jdk_42_method_149_code 4 = .ok (.iload_n 3, 1) := by decide +kernel
theorem d3_5 : decode jdk_42_method_149_code 5 = .ok (.ifCond .ne 22, 3) := by decide +kernel
theorem d3_8 : decode jdk_42_method_149_code 8 = .ok (.aload_n 0, 1) := by decide +kernel
theorem d3_9 : decode jdk_42_method_149_code 9 = .ok (.ldc 7, 2) := by decide +kernel
theorem d3_11 : decode jdk_42_method_149_code 11 = .ok (.getfield 9, 3) := by decide +kernel
theorem d3_14 : decode jdk_42_method_149_code 14 = .ok (.putfield 9, 3) := by decide +kernel
theorem d3_17 : decode jdk_42_method_149_code 17 = .ok (.aload_n 0, 1) := by decide +kernel
theorem d3_18 : decode jdk_42_method_149_code 18 = .ok (.ldc 7, 2) := by decide +kernel
theorem d3_20 : decode jdk_42_method_149_code 20 = .ok (.getfield 15, 3) := by decide +kernel
theorem d3_23 : decode jdk_42_method_149_code 23 = .ok (.putfield 15, 3) := by decide +kernel
theorem d3_26 : decode jdk_42_method_149_code 26 = .ok (.return_, 1) := by decide +kernel
theorem d3_27 : decode jdk_42_method_149_code 27 = .ok (.getstatic 38, 3) := by decide +kernel
theorem d3_30 : decode jdk_42_method_149_code 30 = .ok (.ifCond .eq 28, 3) := by decide +kernel
theorem d3_33 : decode jdk_42_method_149_code 33 = .ok (.aload_n 1, 1) := by decide +kernel
theorem d3_34 : decode jdk_42_method_149_code 34 = .ok (.iload_n 2, 1) := by decide +kernel
theorem d3_35 : decode jdk_42_method_149_code 35 = .ok (.iload_n 3, 1) := by decide +kernel
theorem d3_36 : decode jdk_42_method_149_code 36 = .ok (.invokestatic 177, 3) := by decide +kernel
theorem d3_39 : decode jdk_42_method_149_code 39 = .ok (.astore 5, 2) := by decide +kernel
theorem d3_41 : decode jdk_42_method_149_code 41 = .ok (.aload_n 0, 1) := by decide +kernel
theorem d3_42 : decode jdk_42_method_149_code 42 = .ok (.aload 5, 2) := by decide +kernel
theorem d3_44 : decode jdk_42_method_149_code 44 = .ok (.iload_n 3, 1) := by decide +kernel
theorem d3_45 : decode jdk_42_method_149_code 45 = .ok (.invokestatic 47, 3) := by decide +kernel
theorem d3_48 : decode jdk_42_method_149_code 48 = .ok (.putfield 15, 3) := by decide +kernel
theorem d3_51 : decode jdk_42_method_149_code 51 = .ok (.aload_n 0, 1) := by decide +kernel
theorem d3_52 : decode jdk_42_method_149_code 52 = .ok (.aload 5, 2) := by decide +kernel
theorem d3_54 : decode jdk_42_method_149_code 54 = .ok (.putfield 9, 3) := by decide +kernel
theorem d3_57 : decode jdk_42_method_149_code 57 = .ok (.return_, 1) := by decide +kernel
theorem d5_0 : decode jdk_52_method_16_code 0 = .ok (.iload_n 2, 1) := by decide +kernel
theorem d5_1 : decode jdk_52_method_16_code 1 = .ok (.newarray .byte, 2) := by decide +kernel
theorem d5_3 : decode jdk_52_method_16_code 3 = .ok (.astore_n 3, 1) := by decide +kernel
theorem d5_4 : decode jdk_52_method_16_code 4 = .ok (.aload_n 0, 1) := by decide +kernel
theorem d5_5 : decode jdk_52_method_16_code 5 = .ok (.iload_n 1, 1) := by decide +kernel
theorem d5_6 : decode jdk_52_method_16_code 6 = .ok (.aload_n 3, 1) := by decide +kernel
theorem d5_7 : decode jdk_52_method_16_code 7 = .ok (.iconst 0, 1) := by decide +kernel
theorem d5_8 : decode jdk_52_method_16_code 8 = .ok (.iload_n 2, 1) := by decide +kernel
theorem d5_9 : decode jdk_52_method_16_code 9 = .ok (.invokestatic 115, 3) := by decide +kernel
theorem d5_12 : decode jdk_52_method_16_code 12 = .ok (.istore 4, 2) := by decide +kernel
theorem d5_14 : decode jdk_52_method_16_code 14 = .ok (.iload 4, 2) := by decide +kernel
theorem d5_16 : decode jdk_52_method_16_code 16 = .ok (.iload_n 2, 1) := by decide +kernel
theorem d5_17 : decode jdk_52_method_16_code 17 = .ok (.if_icmp .eq 40, 3) := by decide +kernel
theorem d5_57 : decode jdk_52_method_16_code 57 = .ok (.aload_n 3, 1) := by decide +kernel
theorem d5_58 : decode jdk_52_method_16_code 58 = .ok (.areturn, 1) := by decide +kernel
theorem d6_0 : decode jdk_52_method_21_code 0 = .ok (.iconst 0, 1) := by decide +kernel
theorem d6_1 : decode jdk_52_method_21_code 1 = .ok (.istore 5, 2) := by decide +kernel
theorem d6_3 : decode jdk_52_method_21_code 3 = .ok (.iload 5, 2) := by decide +kernel
theorem d6_5 : decode jdk_52_method_21_code 5 = .ok (.iload 4, 2) := by decide +kernel
theorem d6_7 : decode jdk_52_method_21_code 7 = .ok (.if_icmp .ge 37, 3) := by decide +kernel
theorem d6_10 : decode jdk_52_method_21_code 10 = .ok (.aload_n 0, 1) := by decide +kernel
theorem d6_11 : decode jdk_52_method_21_code 11 = .ok (.iload_n 1, 1) := by decide +kernel
theorem d6_12 : decode jdk_52_method_21_code 12 = .ok (.caload, 1) := by decide +kernel
theorem d6_13 : decode jdk_52_method_21_code 13 = .ok (.istore 6, 2) := by decide +kernel
theorem d6_15 : decode jdk_52_method_21_code 15 = .ok (.iload 6, 2) := by decide +kernel
theorem d6_17 : decode jdk_52_method_21_code 17 = .ok (.sipush 255, 3) := by decide +kernel
theorem d6_20 : decode jdk_52_method_21_code 20 = .ok (.if_icmp .le 6, 3) := by decide +kernel
theorem d6_23 : decode jdk_52_method_21_code 23 = .ok (.iload 5, 2) := by decide +kernel
theorem d6_25 : decode jdk_52_method_21_code 25 = .ok (.ireturn, 1) := by decide +kernel
theorem d6_26 : decode jdk_52_method_21_code 26 = .ok (.aload_n 2, 1) := by decide +kernel
theorem d6_27 : decode jdk_52_method_21_code 27 = .ok (.iload_n 3, 1) := by decide +kernel
theorem d6_28 : decode jdk_52_method_21_code 28 = .ok (.iload 6, 2) := by decide +kernel
theorem d6_30 : decode jdk_52_method_21_code 30 = .ok (.i2b, 1) := by decide +kernel
theorem d6_31 : decode jdk_52_method_21_code 31 = .ok (.bastore, 1) := by decide +kernel
theorem d6_32 : decode jdk_52_method_21_code 32 = .ok (.iinc 1 1, 3) := by decide +kernel
theorem d6_35 : decode jdk_52_method_21_code 35 = .ok (.iinc 3 1, 3) := by decide +kernel
theorem d6_38 : decode jdk_52_method_21_code 38 = .ok (.iinc 5 1, 3) := by decide +kernel
theorem d6_41 : decode jdk_52_method_21_code 41 = .ok (.goto (-38), 3) := by decide +kernel
theorem d6_44 : decode jdk_52_method_21_code 44 = .ok (.iload 4, 2) := by decide +kernel
theorem d6_46 : decode jdk_52_method_21_code 46 = .ok (.ireturn, 1) := by decide +kernel
theorem d7_0 : decode jdk_52_method_15_code 0 = .ok (.iload_n 1, 1) := by decide +kernel
theorem d7_1 : decode jdk_52_method_15_code 1 = .ok (.aload_n 0, 1) := by decide +kernel
theorem d7_2 : decode jdk_52_method_15_code 2 = .ok (.arraylength, 1) := by decide +kernel
theorem d7_3 : decode jdk_52_method_15_code 3 = .ok (.isub, 1) := by decide +kernel
theorem d7_4 : decode jdk_52_method_15_code 4 = .ok (.bipush 31, 2) := by decide +kernel
theorem d7_6 : decode jdk_52_method_15_code 6 = .ok (.iushr, 1) := by decide +kernel
theorem d7_7 : decode jdk_52_method_15_code 7 = .ok (.i2b, 1) := by decide +kernel
theorem d7_8 : decode jdk_52_method_15_code 8 = .ok (.ireturn, 1) := by decide +kernel
theorem d8_0 : decode jdk_96_method_17_code 0 = .ok (.getstatic 9, 3) := by decide +kernel
theorem d8_3 : decode jdk_96_method_17_code 3 = .ok (.areturn, 1) := by decide +kernel
theorem d9_0 : decode prog_6_method_1_code 0 = .ok (.aload_n 0, 1) := by decide +kernel
theorem d9_1 : decode prog_6_method_1_code 1 = .ok (.invokespecial 1, 3) := by decide +kernel
theorem d9_4 : decode prog_6_method_1_code 4 = .ok (.aload_n 0, 1) := by decide +kernel
theorem d9_5 : decode prog_6_method_1_code 5 = .ok (.aload_n 1, 1) := by decide +kernel
theorem d9_6 : decode prog_6_method_1_code 6 = .ok (.ldc 7, 2) := by decide +kernel
theorem d9_8 : decode prog_6_method_1_code 8 = .ok (.invokestatic 9, 3) := by decide +kernel
theorem d9_11 : decode prog_6_method_1_code 11 = .ok (.checkcast 15, 3) := by decide +kernel
theorem d9_14 : decode prog_6_method_1_code 14 = .ok (.putfield 17, 3) := by decide +kernel
theorem d9_17 : decode prog_6_method_1_code 17 = .ok (.aload_n 0, 1) := by decide +kernel
theorem d9_18 : decode prog_6_method_1_code 18 = .ok (.aload_n 2, 1) := by decide +kernel
theorem d9_19 : decode prog_6_method_1_code 19 = .ok (.ldc 22, 2) := by decide +kernel
theorem d9_21 : decode prog_6_method_1_code 21 = .ok (.invokestatic 9, 3) := by decide +kernel
theorem d9_24 : decode prog_6_method_1_code 24 = .ok (.checkcast 15, 3) := by decide +kernel
theorem d9_27 : decode prog_6_method_1_code 27 = .ok (.putfield 24, 3) := by decide +kernel
theorem d9_30 : decode prog_6_method_1_code 30 = .ok (.aload_n 0, 1) := by decide +kernel
theorem d9_31 : decode prog_6_method_1_code 31 = .ok (.aload_n 3, 1) := by decide +kernel
theorem d9_32 : decode prog_6_method_1_code 32 = .ok (.invokestatic 26, 3) := by decide +kernel
theorem d9_35 : decode prog_6_method_1_code 35 = .ok (.putfield 32, 3) := by decide +kernel
theorem d9_38 : decode prog_6_method_1_code 38 = .ok (.return_, 1) := by decide +kernel
theorem d10_0 : decode jdk_31_method_11_code 0 = .ok (.aload_n 0, 1) := by decide +kernel
theorem d10_1 : decode jdk_31_method_11_code 1 = .ok (.ifnonnull 12, 3) := by decide +kernel
theorem d10_13 : decode jdk_31_method_11_code 13 = .ok (.aload_n 0, 1) := by decide +kernel
theorem d10_14 : decode jdk_31_method_11_code 14 = .ok (.areturn, 1) := by decide +kernel
theorem d11_0 : decode jdk_96_method_29_code 0 = .ok (.aload_n 0, 1) := by decide +kernel
theorem d11_1 : decode jdk_96_method_29_code 1 = .ok (.instanceof 31, 3) := by decide +kernel
theorem d11_4 : decode jdk_96_method_29_code 4 = .ok (.ifCond .eq 8, 3) := by decide +kernel
theorem d11_7 : decode jdk_96_method_29_code 7 = .ok (.aload_n 0, 1) := by decide +kernel
theorem d11_8 : decode jdk_96_method_29_code 8 = .ok (.checkcast 33, 3) := by decide +kernel
theorem d11_11 : decode jdk_96_method_29_code 11 = .ok (.areturn, 1) := by decide +kernel
theorem d12_0 : decode prog_6_method_7_code 0 = .ok (.new 45, 3) := by decide +kernel
theorem d12_3 : decode prog_6_method_7_code 3 = .ok (.dup, 1) := by decide +kernel
theorem d12_4 : decode prog_6_method_7_code 4 = .ok (.invokespecial 47, 3) := by decide +kernel
theorem d12_7 : decode prog_6_method_7_code 7 = .ok (.ldc 48, 2) := by decide +kernel
theorem d12_9 : decode prog_6_method_7_code 9 = .ok (.invokevirtual 50, 3) := by decide +kernel
theorem d12_12 : decode prog_6_method_7_code 12 = .ok (.aload_n 0, 1) := by decide +kernel
theorem d12_13 : decode prog_6_method_7_code 13 = .ok (.getfield 17, 3) := by decide +kernel
theorem d12_16 : decode prog_6_method_7_code 16 = .ok (.invokevirtual 50, 3) := by decide +kernel
theorem d12_19 : decode prog_6_method_7_code 19 = .ok (.ldc 54, 2) := by decide +kernel
theorem d12_21 : decode prog_6_method_7_code 21 = .ok (.invokevirtual 50, 3) := by decide +kernel
theorem d12_24 : decode prog_6_method_7_code 24 = .ok (.aload_n 0, 1) := by decide +kernel
theorem d12_25 : decode prog_6_method_7_code 25 = .ok (.getfield 24, 3) := by decide +kernel
theorem d12_28 : decode prog_6_method_7_code 28 = .ok (.invokevirtual 50, 3) := by decide +kernel
theorem d12_31 : decode prog_6_method_7_code 31 = .ok (.ldc 56, 2) := by decide +kernel
theorem d12_33 : decode prog_6_method_7_code 33 = .ok (.invokevirtual 50, 3) := by decide +kernel
theorem d12_36 : decode prog_6_method_7_code 36 = .ok (.invokevirtual 58, 3) := by decide +kernel
theorem d12_39 : decode prog_6_method_7_code 39 = .ok (.areturn, 1) := by decide +kernel
theorem d13_0 : decode jdk_67_method_1_code 0 = .ok (.aload_n 0, 1) := by decide +kernel
theorem d13_1 : decode jdk_67_method_1_code 1 = .ok (.bipush 16, 2) := by decide +kernel
theorem d13_3 : decode jdk_67_method_1_code 3 = .ok (.invokespecial 1, 3) := by decide +kernel
theorem d13_6 : decode jdk_67_method_1_code 6 = .ok (.return_, 1) := by decide +kernel
theorem d14_0 : decode jdk_68_method_2_code 0 = .ok (.aload_n 0, 1) := by decide +kernel
theorem d14_1 : decode jdk_68_method_2_code 1 = .ok (.invokespecial 3, 3) := by decide +kernel
theorem d14_4 : decode jdk_68_method_2_code 4 = .ok (.getstatic 18, 3) := by decide +kernel
theorem d14_7 : decode jdk_68_method_2_code 7 = .ok (.ifCond .eq 18, 3) := by decide +kernel
theorem d14_10 : decode jdk_68_method_2_code 10 = .ok (.aload_n 0, 1) := by decide +kernel
theorem d14_11 : decode jdk_68_method_2_code 11 = .ok (.iload_n 1, 1) := by decide +kernel
theorem d14_12 : decode jdk_68_method_2_code 12 = .ok (.newarray .byte, 2) := by decide +kernel
theorem d14_14 : decode jdk_68_method_2_code 14 = .ok (.putfield 15, 3) := by decide +kernel
theorem d14_17 : decode jdk_68_method_2_code 17 = .ok (.aload_n 0, 1) := by decide +kernel
theorem d14_18 : decode jdk_68_method_2_code 18 = .ok (.iconst 0, 1) := by decide +kernel
theorem d14_19 : decode jdk_68_method_2_code 19 = .ok (.putfield 22, 3) := by decide +kernel
theorem d14_22 : decode jdk_68_method_2_code 22 = .ok (.goto 16, 3) := by decide +kernel
theorem d14_38 : decode jdk_68_method_2_code 38 = .ok (.return_, 1) := by decide +kernel
theorem d15_0 : decode jdk_67_method_7_code 0 = .ok (.aload_n 0, 1) := by decide +kernel
theorem d15_1 : decode jdk_67_method_7_code 1 = .ok (.aload_n 1, 1) := by decide +kernel
theorem d15_2 : decode jdk_67_method_7_code 2 = .ok (.invokespecial 29, 3) := by decide +kernel
theorem d15_5 : decode jdk_67_method_7_code 5 = .ok (.pop, 1) := by decide +kernel
theorem d15_6 : decode jdk_67_method_7_code 6 = .ok (.aload_n 0, 1) := by decide +kernel
theorem d15_7 : decode jdk_67_method_7_code 7 = .ok (.areturn, 1) := by decide +kernel
theorem d16_0 : decode jdk_68_method_22_code 0 = .ok (.aload_n 1, 1) := by decide +kernel
theorem d16_1 : decode jdk_68_method_22_code 1 = .ok (.ifnonnull 8, 3) := by decide +kernel
theorem d16_9 : decode jdk_68_method_22_code 9 = .ok (.aload_n 1, 1) := by decide +kernel
theorem d16_10 : decode jdk_68_method_22_code 10 = .ok (.invokevirtual 32, 3) := by decide +kernel
theorem d16_13 : decode jdk_68_method_22_code 13 = .ok (.istore_n 2, 1) := by decide +kernel
theorem d16_14 : decode jdk_68_method_22_code 14 = .ok (.aload_n 0, 1) := by decide +kernel
theorem d16_15 : decode jdk_68_method_22_code 15 = .ok (.aload_n 0, 1) := by decide +kernel
theorem d16_16 : decode jdk_68_method_22_code 16 = .ok (.getfield 79, 3) := by decide +kernel
theorem d16_19 : decode jdk_68_method_22_code 19 = .ok (.iload_n 2, 1) := by decide +kernel
theorem d16_20 : decode jdk_68_method_22_code 20 = .ok (.iadd, 1) := by decide +kernel
theorem d16_21 : decode jdk_68_method_22_code 21 = .ok (.invokevirtual 100, 3) := by decide +kernel
theorem d16_24 : decode jdk_68_method_22_code 24 = .ok (.aload_n 0, 1) := by decide +kernel
theorem d16_25 : decode jdk_68_method_22_code 25 = .ok (.aload_n 0, 1) := by decide +kernel
theorem d16_26 : decode jdk_68_method_22_code 26 = .ok (.getfield 79, 3) := by decide +kernel
theorem d16_29 : decode jdk_68_method_22_code 29 = .ok (.aload_n 1, 1) := by decide +kernel
theorem d16_30 : decode jdk_68_method_22_code 30 = .ok (.invokevirtual 208, 3) := by decide +kernel
theorem d16_33 : decode jdk_68_method_22_code 33 = .ok (.aload_n 0, 1) := by decide +kernel
theorem d16_34 : decode jdk_68_method_22_code 34 = .ok (.dup, 1) := by decide +kernel
theorem d16_35 : decode jdk_68_method_22_code 35 = .ok (.getfield 79, 3) := by decide +kernel
theorem d16_38 : decode jdk_68_method_22_code 38 = .ok (.iload_n 2, 1) := by decide +kernel
theorem d16_39 : decode jdk_68_method_22_code 39 = .ok (.iadd, 1) := by decide +kernel
theorem d16_40 : decode jdk_68_method_22_code 40 = .ok (.putfield 79, 3) := by decide +kernel
theorem d16_43 : decode jdk_68_method_22_code 43 = .ok (.aload_n 0, 1) := by decide +kernel
theorem d16_44 : decode jdk_68_method_22_code 44 = .ok (.areturn, 1) := by decide +kernel
theorem d17_0 : decode jdk_42_method_54_code 0 = .ok (.aload_n 0, 1) := by decide +kernel
theorem d17_1 : decode jdk_42_method_54_code 1 = .ok (.getfield 9, 3) := by decide +kernel
theorem d17_4 : decode jdk_42_method_54_code 4 = .ok (.arraylength, 1) := by decide +kernel
theorem d17_5 : decode jdk_42_method_54_code 5 = .ok (.aload_n 0, 1) := by decide +kernel
theorem d17_6 : decode jdk_42_method_54_code 6 = .ok (.invokevirtual 335, 3) := by decide +kernel
theorem d17_9 : decode jdk_42_method_54_code 9 = .ok (.ishr, 1) := by decide +kernel
theorem d17_10 : decode jdk_42_method_54_code 10 = .ok (.ireturn, 1) := by decide +kernel
theorem d18_0 : decode jdk_42_method_152_code 0 = .ok (.getstatic 38, 3) := by decide +kernel
theorem d18_3 : decode jdk_42_method_152_code 3 = .ok (.ifCond .eq 10, 3) := by decide +kernel
theorem d18_6 : decode jdk_42_method_152_code 6 = .ok (.aload_n 0, 1) := by decide +kernel
theorem d18_7 : decode jdk_42_method_152_code 7 = .ok (.getfield 15, 3) := by decide +kernel
theorem d18_10 : decode jdk_42_method_152_code 10 = .ok (.goto 4, 3) := by decide +kernel
theorem d18_14 : decode jdk_42_method_152_code 14 = .ok (.ireturn, 1) := by decide +kernel
theorem d19_0 : decode jdk_68_method_9_code 0 = .ok (.aload_n 0, 1) := by decide +kernel
theorem d19_1 : decode jdk_68_method_9_code 1 = .ok (.getfield 15, 3) := by decide +kernel
theorem d19_4 : decode jdk_68_method_9_code 4 = .ok (.arraylength, 1) := by decide +kernel
theorem d19_5 : decode jdk_68_method_9_code 5 = .ok (.aload_n 0, 1) := by decide +kernel
theorem d19_6 : decode jdk_68_method_9_code 6 = .ok (.getfield 22, 3) := by decide +kernel
theorem d19_9 : decode jdk_68_method_9_code 9 = .ok (.ishr, 1) := by decide +kernel
theorem d19_10 : decode jdk_68_method_9_code 10 = .ok (.istore_n 2, 1) := by decide +kernel
theorem d19_11 : decode jdk_68_method_9_code 11 = .ok (.iload_n 1, 1) := by decide +kernel
theorem d19_12 : decode jdk_68_method_9_code 12 = .ok (.iload_n 2, 1) := by decide +kernel
theorem d19_13 : decode jdk_68_method_9_code 13 = .ok (.isub, 1) := by decide +kernel
theorem d19_14 : decode jdk_68_method_9_code 14 = .ok (.ifCond .le 24, 3) := by decide +kernel
theorem d19_17 : decode jdk_68_method_9_code 17 = .ok (.aload_n 0, 1) := by decide +kernel
theorem d19_18 : decode jdk_68_method_9_code 18 = .ok (.aload_n 0, 1) := by decide +kernel
theorem d19_19 : decode jdk_68_method_9_code 19 = .ok (.getfield 15, 3) := by decide +kernel
theorem d19_22 : decode jdk_68_method_9_code 22 = .ok (.aload_n 0, 1) := by decide +kernel
theorem d19_23 : decode jdk_68_method_9_code 23 = .ok (.iload_n 1, 1) := by decide +kernel
theorem d19_24 : decode jdk_68_method_9_code 24 = .ok (.invokevirtual 104, 3) := by decide +kernel
theorem d19_27 : decode jdk_68_method_9_code 27 = .ok (.aload_n 0, 1) := by decide +kernel
theorem d19_28 : decode jdk_68_method_9_code 28 = .ok (.getfield 22, 3) := by decide +kernel
theorem d19_31 : decode jdk_68_method_9_code 31 = .ok (.ishl, 1) := by decide +kernel
theorem d19_32 : decode jdk_68_method_9_code 32 = .ok (.invokestatic 108, 3) := by decide +kernel
theorem d19_35 : decode jdk_68_method_9_code 35 = .ok (.putfield 15, 3) := by decide +kernel
theorem d19_38 : decode jdk_68_method_9_code 38 = .ok (.return_, 1) := by decide +kernel
theorem d20_0 : decode jdk_68_method_73_code 0 = .ok (.aload_n 0, 1) := by decide +kernel
theorem d20_1 : decode jdk_68_method_73_code 1 = .ok (.aload_n 2, 1) := by decide +kernel
theorem d20_2 : decode jdk_68_method_73_code 2 = .ok (.invokevirtual 397, 3) := by decide +kernel
theorem d20_5 : decode jdk_68_method_73_code 5 = .ok (.aload_n 2, 1) := by decide +kernel
theorem d20_6 : decode jdk_68_method_73_code 6 = .ok (.aload_n 0, 1) := by decide +kernel
theorem d20_7 : decode jdk_68_method_73_code 7 = .ok (.getfield 15, 3) := by decide +kernel
theorem d20_10 : decode jdk_68_method_73_code 10 = .ok (.iload_n 1, 1) := by decide +kernel
theorem d20_11 : decode jdk_68_method_73_code 11 = .ok (.aload_n 0, 1) := by decide +kernel
theorem d20_12 : decode jdk_68_method_73_code 12 = .ok (.getfield 22, 3) := by decide +kernel
theorem d20_15 : decode jdk_68_method_73_code 15 = .ok (.invokevirtual 399, 3) := by decide +kernel
theorem d20_18 : decode jdk_68_method_73_code 18 = .ok (.return_, 1) := by decide +kernel
theorem d21_0 : decode jdk_68_method_71_code 0 = .ok (.getstatic 18, 3) := by decide +kernel
theorem d21_3 : decode jdk_68_method_71_code 3 = .ok (.ifCond .eq 18, 3) := by decide +kernel
theorem d21_6 : decode jdk_68_method_71_code 6 = .ok (.aload_n 0, 1) := by decide +kernel
theorem d21_7 : decode jdk_68_method_71_code 7 = .ok (.getfield 22, 3) := by decide +kernel
theorem d21_10 : decode jdk_68_method_71_code 10 = .ok (.aload_n 1, 1) := by decide +kernel
theorem d21_11 : decode jdk_68_method_71_code 11 = .ok (.invokevirtual 40, 3) := by decide +kernel
theorem d21_14 : decode jdk_68_method_71_code 14 = .ok (.if_icmp .eq 7, 3) := by decide +kernel
theorem d21_21 : decode jdk_68_method_71_code 21 = .ok (.return_, 1) := by decide +kernel
theorem d22_0 : decode jdk_42_method_147_code 0 = .ok (.aload_n 0, 1) := by decide +kernel
theorem d22_1 : decode jdk_42_method_147_code 1 = .ok (.invokevirtual 335, 3) := by decide +kernel
theorem d22_4 : decode jdk_42_method_147_code 4 = .ok (.iload_n 3, 1) := by decide +kernel
theorem d22_5 : decode jdk_42_method_147_code 5 = .ok (.if_icmp .ne 23, 3) := by decide +kernel
theorem d22_8 : decode jdk_42_method_147_code 8 = .ok (.aload_n 0, 1) := by decide +kernel
theorem d22_9 : decode jdk_42_method_147_code 9 = .ok (.getfield 9, 3) := by decide +kernel
theorem d22_12 : decode jdk_42_method_147_code 12 = .ok (.iconst 0, 1) := by decide +kernel
theorem d22_13 : decode jdk_42_method_147_code 13 = .ok (.aload_n 1, 1) := by decide +kernel
theorem d22_14 : decode jdk_42_method_147_code 14 = .ok (.iload_n 2, 1) := by decide +kernel
theorem d22_15 : decode jdk_42_method_147_code 15 = .ok (.iload_n 3, 1) := by decide +kernel
theorem d22_16 : decode jdk_42_method_147_code 16 = .ok (.ishl, 1) := by decide +kernel
theorem d22_17 : decode jdk_42_method_147_code 17 = .ok (.aload_n 0, 1) := by decide +kernel
theorem d22_18 : decode jdk_42_method_147_code 18 = .ok (.getfield 9, 3) := by decide +kernel
theorem d22_21 : decode jdk_42_method_147_code 21 = .ok (.arraylength, 1) := by decide +kernel
theorem d22_22 : decode jdk_42_method_147_code 22 = .ok (.invokestatic 212, 3) := by decide +kernel
theorem d22_25 : decode jdk_42_method_147_code 25 = .ok (.goto 18, 3) := by decide +kernel
theorem d22_43 : decode jdk_42_method_147_code 43 = .ok (.return_, 1) := by decide +kernel
theorem d23_0 : decode jdk_68_method_10_code 0 = .ok (.aload_n 0, 1) := by decide +kernel
theorem d23_1 : decode jdk_68_method_10_code 1 = .ok (.getfield 15, 3) := by decide +kernel
theorem d23_4 : decode jdk_68_method_10_code 4 = .ok (.arraylength, 1) := by decide +kernel
theorem d23_5 : decode jdk_68_method_10_code 5 = .ok (.istore_n 2, 1) := by decide +kernel
theorem d23_6 : decode jdk_68_method_10_code 6 = .ok (.iload_n 1, 1) := by decide +kernel
theorem d23_7 : decode jdk_68_method_10_code 7 = .ok (.aload_n 0, 1) := by decide +kernel
theorem d23_8 : decode jdk_68_method_10_code 8 = .ok (.getfield 22, 3) := by decide +kernel
theorem d23_11 : decode jdk_68_method_10_code 11 = .ok (.ishl, 1) := by decide +kernel
theorem d23_12 : decode jdk_68_method_10_code 12 = .ok (.istore_n 3, 1) := by decide +kernel
theorem d23_13 : decode jdk_68_method_10_code 13 = .ok (.iload_n 3, 1) := by decide +kernel
theorem d23_14 : decode jdk_68_method_10_code 14 = .ok (.iload_n 2, 1) := by decide +kernel
theorem d23_15 : decode jdk_68_method_10_code 15 = .ok (.isub, 1) := by decide +kernel
theorem d23_16 : decode jdk_68_method_10_code 16 = .ok (.istore 4, 2) := by decide +kernel
theorem d23_18 : decode jdk_68_method_10_code 18 = .ok (.iload_n 2, 1) := by decide +kernel
theorem d23_19 : decode jdk_68_method_10_code 19 = .ok (.iload 4, 2) := by decide +kernel
theorem d23_21 : decode jdk_68_method_10_code 21 = .ok (.iload_n 2, 1) := by decide +kernel
theorem d23_22 : decode jdk_68_method_10_code 22 = .ok (.iconst 2, 1) := by decide +kernel
theorem d23_23 : decode jdk_68_method_10_code 23 = .ok (.aload_n 0, 1) := by decide +kernel
theorem d23_24 : decode jdk_68_method_10_code 24 = .ok (.getfield 22, 3) := by decide +kernel
theorem d23_27 : decode jdk_68_method_10_code 27 = .ok (.ishl, 1) := by decide +kernel
theorem d23_28 : decode jdk_68_method_10_code 28 = .ok (.iadd, 1) := by decide +kernel
theorem d23_29 : decode jdk_68_method_10_code 29 = .ok (.invokestatic 114, 3) := by decide +kernel
theorem d23_32 : decode jdk_68_method_10_code 32 = .ok (.istore 5, 2) := by decide +kernel
theorem d23_34 : decode jdk_68_method_10_code 34 = .ok (.iload 5, 2) := by decide +kernel
theorem d23_36 : decode jdk_68_method_10_code 36 = .ok (.ldc 39, 2) := by decide +kernel
theorem d23_38 : decode jdk_68_method_10_code 38 = .ok (.if_icmp .ne 13, 3) := by decide +kernel
theorem d23_51 : decode jdk_68_method_10_code 51 = .ok (.iload 5, 2) := by decide +kernel
theorem d23_53 : decode jdk_68_method_10_code 53 = .ok (.aload_n 0, 1) := by decide +kernel
theorem d23_54 : decode jdk_68_method_10_code 54 = .ok (.getfield 22, 3) := by decide +kernel
theorem d23_57 : decode jdk_68_method_10_code 57 = .ok (.ishr, 1) := by decide +kernel
theorem d23_58 : decode jdk_68_method_10_code 58 = .ok (.ireturn, 1) := by decide +kernel
theorem d24_0 : decode jdk_48_method_27_code 0 = .ok (.iload_n 0, 1) := by decide +kernel
theorem d24_1 : decode jdk_48_method_27_code 1 = .ok (.iload_n 1, 1) := by decide +kernel
theorem d24_2 : decode jdk_48_method_27_code 2 = .ok (.iload_n 2, 1) := by decide +kernel
theorem d24_3 : decode jdk_48_method_27_code 3 = .ok (.invokestatic 194, 3) := by decide +kernel
theorem d24_6 : decode jdk_48_method_27_code 6 = .ok (.iadd, 1) := by decide +kernel
theorem d24_7 : decode jdk_48_method_27_code 7 = .ok (.istore_n 3, 1) := by decide +kernel
theorem d24_8 : decode jdk_48_method_27_code 8 = .ok (.iconst 0, 1) := by decide +kernel
theorem d24_9 : decode jdk_48_method_27_code 9 = .ok (.iload_n 3, 1) := by decide +kernel
theorem d24_10 : decode jdk_48_method_27_code 10 = .ok (.if_icmp .ge 11, 3) := by decide +kernel
theorem d24_13 : decode jdk_48_method_27_code 13 = .ok (.iload_n 3, 1) := by decide +kernel
theorem d24_14 : decode jdk_48_method_27_code 14 = .ok (.ldc 200, 2) := by decide +kernel
theorem d24_16 : decode jdk_48_method_27_code 16 = .ok (.if_icmp .gt 5, 3) := by decide +kernel
theorem d24_19 : decode jdk_48_method_27_code 19 = .ok (.iload_n 3, 1) := by decide +kernel
theorem d24_20 : decode jdk_48_method_27_code 20 = .ok (.ireturn, 1) := by decide +kernel
theorem d25_0 : decode jdk_29_method_65_code 0 = .ok (.iload_n 0, 1) := by decide +kernel
theorem d25_1 : decode jdk_29_method_65_code 1 = .ok (.iload_n 1, 1) := by decide +kernel
theorem d25_2 : decode jdk_29_method_65_code 2 = .ok (.if_icmp .lt 7, 3) := by decide +kernel
theorem d25_5 : decode jdk_29_method_65_code 5 = .ok (.iload_n 0, 1) := by decide +kernel
theorem d25_6 : decode jdk_29_method_65_code 6 = .ok (.goto 4, 3) := by decide +kernel
theorem d25_9 : decode jdk_29_method_65_code 9 = .ok (.iload_n 1, 1) := by decide +kernel
theorem d25_10 : decode jdk_29_method_65_code 10 = .ok (.ireturn, 1) := by decide +kernel
theorem d26_0 : decode jdk_65_method_121_code 0 = .ok (.iload_n 1, 1) := by decide +kernel
theorem d26_1 : decode jdk_65_method_121_code 1 = .ok (.aload_n 0, 1) := by decide +kernel
theorem d26_2 : decode jdk_65_method_121_code 2 = .ok (.arraylength, 1) := by decide +kernel
theorem d26_3 : decode jdk_65_method_121_code 3 = .ok (.if_icmp .ne 11, 3) := by decide +kernel
theorem d26_14 : decode jdk_65_method_121_code 14 = .ok (.iload_n 1, 1) := by decide +kernel
theorem d26_15 : decode jdk_65_method_121_code 15 = .ok (.newarray .byte, 2) := by decide +kernel
theorem d26_17 : decode jdk_65_method_121_code 17 = .ok (.astore_n 2, 1) := by decide +kernel
theorem d26_18 : decode jdk_65_method_121_code 18 = .ok (.aload_n 0, 1) := by decide +kernel
theorem d26_19 : decode jdk_65_method_121_code 19 = .ok (.iconst 0, 1) := by decide +kernel
theorem d26_20 : decode jdk_65_method_121_code 20 = .ok (.aload_n 2, 1) := by decide +kernel
theorem d26_21 : decode jdk_65_method_121_code 21 = .ok (.iconst 0, 1) := by decide +kernel
theorem d26_22 : decode jdk_65_method_121_code 22 = .ok (.aload_n 0, 1) := by decide +kernel
theorem d26_23 : decode jdk_65_method_121_code 23 = .ok (.arraylength, 1) := by decide +kernel
theorem d26_24 : decode jdk_65_method_121_code 24 = .ok (.iload_n 1, 1) := by decide +kernel
theorem d26_25 : decode jdk_65_method_121_code 25 = .ok (.invokestatic 304, 3) := by decide +kernel
theorem d26_28 : decode jdk_65_method_121_code 28 = .ok (.invokestatic 150, 3) := by decide +kernel
theorem d26_31 : decode jdk_65_method_121_code 31 = .ok (.aload_n 2, 1) := by decide +kernel
theorem d26_32 : decode jdk_65_method_121_code 32 = .ok (.areturn, 1) := by decide +kernel
theorem d27_0 : decode jdk_29_method_69_code 0 = .ok (.iload_n 0, 1) := by decide +kernel
theorem d27_1 : decode jdk_29_method_69_code 1 = .ok (.iload_n 1, 1) := by decide +kernel
theorem d27_2 : decode jdk_29_method_69_code 2 = .ok (.if_icmp .gt 7, 3) := by decide +kernel
theorem d27_5 : decode jdk_29_method_69_code 5 = .ok (.iload_n 0, 1) := by decide +kernel
theorem d27_6 : decode jdk_29_method_69_code 6 = .ok (.goto 4, 3) := by decide +kernel
theorem d27_9 : decode jdk_29_method_69_code 9 = .ok (.iload_n 1, 1) := by decide +kernel
theorem d27_10 : decode jdk_29_method_69_code 10 = .ok (.ireturn, 1) := by decide +kernel
theorem d28_0 : decode jdk_67_method_42_code 0 = .ok (.new 18, 3) := by decide +kernel
theorem d28_3 : decode jdk_67_method_42_code 3 = .ok (.dup, 1) := by decide +kernel
theorem d28_4 : decode jdk_67_method_42_code 4 = .ok (.aload_n 0, 1) := by decide +kernel
theorem d28_5 : decode jdk_67_method_42_code 5 = .ok (.invokespecial 137, 3) := by decide +kernel
theorem d28_8 : decode jdk_67_method_42_code 8 = .ok (.areturn, 1) := by decide +kernel
theorem d29_0 : decode jdk_42_method_53_code 0 = .ok (.aload_n 0, 1) := by decide +kernel
theorem d29_1 : decode jdk_42_method_53_code 1 = .ok (.aload_n 1, 1) := by decide +kernel
theorem d29_2 : decode jdk_42_method_53_code 2 = .ok (.aconst_null, 1) := by decide +kernel
theorem d29_3 : decode jdk_42_method_53_code 3 = .ok (.invokespecial 489, 3) := by decide +kernel
theorem d29_6 : decode jdk_42_method_53_code 6 = .ok (.return_, 1) := by decide +kernel
theorem d30_0 : decode jdk_42_method_150_code 0 = .ok (.aload_n 0, 1) := by decide +kernel
theorem d30_1 : decode jdk_42_method_150_code 1 = .ok (.invokespecial 1, 3) := by decide +kernel
theorem d30_4 : decode jdk_42_method_150_code 4 = .ok (.aload_n 1, 1) := by decide +kernel
theorem d30_5 : decode jdk_42_method_150_code 5 = .ok (.invokevirtual 552, 3) := by decide +kernel
theorem d30_8 : decode jdk_42_method_150_code 8 = .ok (.astore_n 3, 1) := by decide +kernel
theorem d30_9 : decode jdk_42_method_150_code 9 = .ok (.aload_n 1, 1) := by decide +kernel
theorem d30_10 : decode jdk_42_method_150_code 10 = .ok (.invokevirtual 549, 3) := by decide +kernel
theorem d30_13 : decode jdk_42_method_150_code 13 = .ok (.istore 4, 2) := by decide +kernel
theorem d30_15 : decode jdk_42_method_150_code 15 = .ok (.aload_n 1, 1) := by decide +kernel
theorem d30_16 : decode jdk_42_method_150_code 16 = .ok (.invokevirtual 1047, 3) := by decide +kernel
theorem d30_19 : decode jdk_42_method_150_code 19 = .ok (.ifCond .eq 22, 3) := by decide +kernel
theorem d30_22 : decode jdk_42_method_150_code 22 = .ok (.aload_n 0, 1) := by decide +kernel
theorem d30_23 : decode jdk_42_method_150_code 23 = .ok (.iconst 0, 1) := by decide +kernel
theorem d30_24 : decode jdk_42_method_150_code 24 = .ok (.putfield 15, 3) := by decide +kernel
theorem d30_27 : decode jdk_42_method_150_code 27 = .ok (.aload_n 0, 1) := by decide +kernel
theorem d30_28 : decode jdk_42_method_150_code 28 = .ok (.aload_n 3, 1) := by decide +kernel
theorem d30_29 : decode jdk_42_method_150_code 29 = .ok (.iconst 0, 1) := by decide +kernel
theorem d30_30 : decode jdk_42_method_150_code 30 = .ok (.iload 4, 2) := by decide +kernel
theorem d30_32 : decode jdk_42_method_150_code 32 = .ok (.invokestatic 54, 3) := by decide +kernel
theorem d30_35 : decode jdk_42_method_150_code 35 = .ok (.putfield 9, 3) := by decide +kernel
theorem d30_38 : decode jdk_42_method_150_code 38 = .ok (.goto 59, 3) := by decide +kernel
theorem d30_97 : decode jdk_42_method_150_code 97 = .ok (.return_, 1) := by decide +kernel
theorem d31_0 : decode jdk_68_method_64_code 0 = .ok (.aload_n 0, 1) := by decide +kernel
theorem d31_1 : decode jdk_68_method_64_code 1 = .ok (.getfield 15, 3) := by decide +kernel
theorem d31_4 : decode jdk_68_method_64_code 4 = .ok (.areturn, 1) := by decide +kernel
theorem d32_0 : decode jdk_67_method_93_code 0 = .ok (.aload_n 0, 1) := by decide +kernel
theorem d32_1 : decode jdk_67_method_93_code 1 = .ok (.invokespecial 343, 3) := by decide +kernel
theorem d32_4 : decode jdk_67_method_93_code 4 = .ok (.ireturn, 1) := by decide +kernel
theorem d33_0 : decode jdk_68_method_6_code 0 = .ok (.aload_n 0, 1) := by decide +kernel
theorem d33_1 : decode jdk_68_method_6_code 1 = .ok (.getfield 79, 3) := by decide +kernel
theorem d33_4 : decode jdk_68_method_6_code 4 = .ok (.ireturn, 1) := by decide +kernel
theorem d34_0 : decode jdk_68_method_68_code 0 = .ok (.getstatic 18, 3) := by decide +kernel
theorem d34_3 : decode jdk_68_method_68_code 3 = .ok (.ifCond .eq 14, 3) := by decide +kernel
theorem d34_6 : decode jdk_68_method_68_code 6 = .ok (.aload_n 0, 1) := by decide +kernel
theorem d34_7 : decode jdk_68_method_68_code 7 = .ok (.getfield 22, 3) := by decide +kernel
theorem d34_10 : decode jdk_68_method_68_code 10 = .ok (.ifCond .ne 7, 3) := by decide +kernel
theorem d34_13 : decode jdk_68_method_68_code 13 = .ok (.iconst 1, 1) := by decide +kernel
theorem d34_14 : decode jdk_68_method_68_code 14 = .ok (.goto 4, 3) := by decide +kernel
theorem d34_18 : decode jdk_68_method_68_code 18 = .ok (.ireturn, 1) := by decide +kernel
theorem d35_0 : decode jdk_65_method_132_code 0 = .ok (.iload_n 1, 1) := by decide +kernel
theorem d35_1 : decode jdk_65_method_132_code 1 = .ok (.ifCond .ne 9, 3) := by decide +kernel
theorem d35_4 : decode jdk_65_method_132_code 4 = .ok (.iload_n 2, 1) := by decide +kernel
theorem d35_5 : decode jdk_65_method_132_code 5 = .ok (.aload_n 0, 1) := by decide +kernel
theorem d35_6 : decode jdk_65_method_132_code 6 = .ok (.arraylength, 1) := by decide +kernel
theorem d35_7 : decode jdk_65_method_132_code 7 = .ok (.if_icmp .eq 10, 3) := by decide +kernel
theorem d35_10 : decode jdk_65_method_132_code 10 = .ok (.aload_n 0, 1) := by decide +kernel
theorem d35_11 : decode jdk_65_method_132_code 11 = .ok (.iload_n 1, 1) := by decide +kernel
theorem d35_12 : decode jdk_65_method_132_code 12 = .ok (.iload_n 2, 1) := by decide +kernel
theorem d35_13 : decode jdk_65_method_132_code 13 = .ok (.invokestatic 339, 3) := by decide +kernel
theorem d35_16 : decode jdk_65_method_132_code 16 = .ok (.areturn, 1) := by decide +kernel
theorem d36_0 : decode jdk_65_method_133_code 0 = .ok (.iload_n 1, 1) := by decide +kernel
theorem d36_1 : decode jdk_65_method_133_code 1 = .ok (.iload_n 2, 1) := by decide +kernel
theorem d36_2 : decode jdk_65_method_133_code 2 = .ok (.invokestatic 343, 3) := by decide +kernel
theorem d36_5 : decode jdk_65_method_133_code 5 = .ok (.iload_n 2, 1) := by decide +kernel
theorem d36_6 : decode jdk_65_method_133_code 6 = .ok (.iload_n 1, 1) := by decide +kernel
theorem d36_7 : decode jdk_65_method_133_code 7 = .ok (.isub, 1) := by decide +kernel
theorem d36_8 : decode jdk_65_method_133_code 8 = .ok (.istore_n 3, 1) := by decide +kernel
theorem d36_9 : decode jdk_65_method_133_code 9 = .ok (.iload_n 3, 1) := by decide +kernel
theorem d36_10 : decode jdk_65_method_133_code 10 = .ok (.newarray .byte, 2) := by decide +kernel
theorem d36_12 : decode jdk_65_method_133_code 12 = .ok (.astore 4, 2) := by decide +kernel
theorem d36_14 : decode jdk_65_method_133_code 14 = .ok (.aload_n 0, 1) := by decide +kernel
theorem d36_15 : decode jdk_65_method_133_code 15 = .ok (.iload_n 1, 1) := by decide +kernel
theorem d36_16 : decode jdk_65_method_133_code 16 = .ok (.aload 4, 2) := by decide +kernel
theorem d36_18 : decode jdk_65_method_133_code 18 = .ok (.iconst 0, 1) := by decide +kernel
theorem d36_19 : decode jdk_65_method_133_code 19 = .ok (.aload_n 0, 1) := by decide +kernel
theorem d36_20 : decode jdk_65_method_133_code 20 = .ok (.arraylength, 1) := by decide +kernel
theorem d36_21 : decode jdk_65_method_133_code 21 = .ok (.iload_n 1, 1) := by decide +kernel
theorem d36_22 : decode jdk_65_method_133_code 22 = .ok (.isub, 1) := by decide +kernel
theorem d36_23 : decode jdk_65_method_133_code 23 = .ok (.iload_n 3, 1) := by decide +kernel
theorem d36_24 : decode jdk_65_method_133_code 24 = .ok (.invokestatic 304, 3) := by decide +kernel
theorem d36_27 : decode jdk_65_method_133_code 27 = .ok (.invokestatic 150, 3) := by decide +kernel
theorem d36_30 : decode jdk_65_method_133_code 30 = .ok (.aload 4, 2) := by decide +kernel
theorem d36_32 : decode jdk_65_method_133_code 32 = .ok (.areturn, 1) := by decide +kernel
theorem d37_0 : decode jdk_65_method_131_code 0 = .ok (.iload_n 1, 1) := by decide +kernel
theorem d37_1 : decode jdk_65_method_131_code 1 = .ok (.iload_n 0, 1) := by decide +kernel
theorem d37_2 : decode jdk_65_method_131_code 2 = .ok (.if_icmp .ge 35, 3) := by decide +kernel
theorem d37_37 : decode jdk_65_method_131_code 37 = .ok (.return_, 1) := by decide +kernel
theorem d38_0 : decode method_4_code 0 = .ok (.aload_n 0, 1) := by decide +kernel
theorem d38_1 : decode method_4_code 1 = .ok (.iload_n 1, 1) := by decide +kernel
theorem d38_2 : decode method_4_code 2 = .ok (.invokevirtual 43, 3) := by decide +kernel
theorem d38_5 : decode method_4_code 5 = .ok (.aload_n 2, 1) := by decide +kernel
theorem d38_6 : decode method_4_code 6 = .ok (.iconst 0, 1) := by decide +kernel
theorem d38_7 : decode method_4_code 7 = .ok (.invokevirtual 43, 3) := by decide +kernel
theorem d38_10 : decode method_4_code 10 = .ok (.if_icmp .ne 116, 3) := by decide +kernel
theorem d38_13 : decode method_4_code 13 = .ok (.aload_n 0, 1) := by decide +kernel
theorem d38_14 : decode method_4_code 14 = .ok (.iload_n 1, 1) := by decide +kernel
theorem d38_15 : decode method_4_code 15 = .ok (.iconst 1, 1) := by decide +kernel
theorem d38_16 : decode method_4_code 16 = .ok (.iadd, 1) := by decide +kernel
theorem d38_17 : decode method_4_code 17 = .ok (.invokevirtual 43, 3) := by decide +kernel
theorem d38_20 : decode method_4_code 20 = .ok (.aload_n 2, 1) := by decide +kernel
theorem d38_21 : decode method_4_code 21 = .ok (.iconst 1, 1) := by decide +kernel
theorem d38_22 : decode method_4_code 22 = .ok (.invokevirtual 43, 3) := by decide +kernel
theorem d38_25 : decode method_4_code 25 = .ok (.if_icmp .ne 101, 3) := by decide +kernel
theorem d38_28 : decode method_4_code 28 = .ok (.aload_n 0, 1) := by decide +kernel
theorem d38_29 : decode method_4_code 29 = .ok (.iload_n 1, 1) := by decide +kernel
theorem d38_30 : decode method_4_code 30 = .ok (.iconst 2, 1) := by decide +kernel
theorem d38_31 : decode method_4_code 31 = .ok (.iadd, 1) := by decide +kernel
theorem d38_32 : decode method_4_code 32 = .ok (.invokevirtual 43, 3) := by decide +kernel
theorem d38_35 : decode method_4_code 35 = .ok (.aload_n 2, 1) := by decide +kernel
theorem d38_36 : decode method_4_code 36 = .ok (.iconst 2, 1) := by decide +kernel
theorem d38_37 : decode method_4_code 37 = .ok (.invokevirtual 43, 3) := by decide +kernel
theorem d38_40 : decode method_4_code 40 = .ok (.if_icmp .ne 86, 3) := by decide +kernel
theorem d38_43 : decode method_4_code 43 = .ok (.aload_n 0, 1) := by decide +kernel
theorem d38_44 : decode method_4_code 44 = .ok (.iload_n 1, 1) := by decide +kernel
theorem d38_45 : decode method_4_code 45 = .ok (.iconst 3, 1) := by decide +kernel
theorem d38_46 : decode method_4_code 46 = .ok (.iadd, 1) := by decide +kernel
theorem d38_47 : decode method_4_code 47 = .ok (.invokevirtual 43, 3) := by decide +kernel
theorem d38_50 : decode method_4_code 50 = .ok (.aload_n 2, 1) := by decide +kernel
theorem d38_51 : decode method_4_code 51 = .ok (.iconst 3, 1) := by decide +kernel
theorem d38_52 : decode method_4_code 52 = .ok (.invokevirtual 43, 3) := by decide +kernel
theorem d38_55 : decode method_4_code 55 = .ok (.if_icmp .ne 71, 3) := by decide +kernel
theorem d38_58 : decode method_4_code 58 = .ok (.aload_n 0, 1) := by decide +kernel
theorem d38_59 : decode method_4_code 59 = .ok (.iload_n 1, 1) := by decide +kernel
theorem d38_60 : decode method_4_code 60 = .ok (.iconst 4, 1) := by decide +kernel
theorem d38_61 : decode method_4_code 61 = .ok (.iadd, 1) := by decide +kernel
theorem d38_62 : decode method_4_code 62 = .ok (.invokevirtual 43, 3) := by decide +kernel
theorem d38_65 : decode method_4_code 65 = .ok (.aload_n 2, 1) := by decide +kernel
theorem d38_66 : decode method_4_code 66 = .ok (.iconst 4, 1) := by decide +kernel
theorem d38_67 : decode method_4_code 67 = .ok (.invokevirtual 43, 3) := by decide +kernel
theorem d38_70 : decode method_4_code 70 = .ok (.if_icmp .ne 56, 3) := by decide +kernel
theorem d38_73 : decode method_4_code 73 = .ok (.aload_n 0, 1) := by decide +kernel
theorem d38_74 : decode method_4_code 74 = .ok (.iload_n 1, 1) := by decide +kernel
theorem d38_75 : decode method_4_code 75 = .ok (.iconst 5, 1) := by decide +kernel
theorem d38_76 : decode method_4_code 76 = .ok (.iadd, 1) := by decide +kernel
theorem d38_77 : decode method_4_code 77 = .ok (.invokevirtual 43, 3) := by decide +kernel
theorem d38_80 : decode method_4_code 80 = .ok (.aload_n 2, 1) := by decide +kernel
theorem d38_81 : decode method_4_code 81 = .ok (.iconst 5, 1) := by decide +kernel
theorem d38_82 : decode method_4_code 82 = .ok (.invokevirtual 43, 3) := by decide +kernel
theorem d38_85 : decode method_4_code 85 = .ok (.if_icmp .ne 41, 3) := by decide +kernel
theorem d38_88 : decode method_4_code 88 = .ok (.aload_n 0, 1) := by decide +kernel
theorem d38_89 : decode method_4_code 89 = .ok (.iload_n 1, 1) := by decide +kernel
theorem d38_90 : decode method_4_code 90 = .ok (.bipush 6, 2) := by decide +kernel
theorem d38_92 : decode method_4_code 92 = .ok (.iadd, 1) := by decide +kernel
theorem d38_93 : decode method_4_code 93 = .ok (.invokevirtual 43, 3) := by decide +kernel
theorem d38_96 : decode method_4_code 96 = .ok (.aload_n 2, 1) := by decide +kernel
theorem d38_97 : decode method_4_code 97 = .ok (.bipush 6, 2) := by decide +kernel
theorem d38_99 : decode method_4_code 99 = .ok (.invokevirtual 43, 3) := by decide +kernel
theorem d38_102 : decode method_4_code 102 = .ok (.if_icmp .ne 24, 3) := by decide +kernel
theorem d38_105 : decode method_4_code 105 = .ok (.aload_n 0, 1) := by decide +kernel
theorem d38_106 : decode method_4_code 106 = .ok (.iload_n 1, 1) := by decide +kernel
theorem d38_107 : decode method_4_code 107 = .ok (.bipush 7, 2) := by decide +kernel
theorem d38_109 : decode method_4_code 109 = .ok (.iadd, 1) := by decide +kernel
theorem d38_110 : decode method_4_code 110 = .ok (.invokevirtual 43, 3) := by decide +kernel
theorem d38_113 : decode method_4_code 113 = .ok (.aload_n 2, 1) := by decide +kernel
theorem d38_114 : decode method_4_code 114 = .ok (.bipush 7, 2) := by decide +kernel
theorem d38_116 : decode method_4_code 116 = .ok (.invokevirtual 43, 3) := by decide +kernel
theorem d38_119 : decode method_4_code 119 = .ok (.if_icmp .ne 7, 3) := by decide +kernel
theorem d38_122 : decode method_4_code 122 = .ok (.iconst 1, 1) := by decide +kernel
theorem d38_123 : decode method_4_code 123 = .ok (.goto 4, 3) := by decide +kernel
theorem d38_127 : decode method_4_code 127 = .ok (.ireturn, 1) := by decide +kernel
theorem d39_0 : decode jdk_42_method_56_code 0 = .ok (.aload_n 0, 1) := by decide +kernel
theorem d39_1 : decode jdk_42_method_56_code 1 = .ok (.invokevirtual 492, 3) := by decide +kernel
theorem d39_4 : decode jdk_42_method_56_code 4 = .ok (.ifCond .eq 12, 3) := by decide +kernel
theorem d39_7 : decode jdk_42_method_56_code 7 = .ok (.aload_n 0, 1) := by decide +kernel
theorem d39_8 : decode jdk_42_method_56_code 8 = .ok (.getfield 9, 3) := by decide +kernel
theorem d39_11 : decode jdk_42_method_56_code 11 = .ok (.iload_n 1, 1) := by decide +kernel
theorem d39_12 : decode jdk_42_method_56_code 12 = .ok (.invokestatic 495, 3) := by decide +kernel
theorem d39_15 : decode jdk_42_method_56_code 15 = .ok (.ireturn, 1) := by decide +kernel
theorem d40_0 : decode jdk_42_method_154_code 0 = .ok (.getstatic 38, 3) := by decide +kernel
theorem d40_3 : decode jdk_42_method_154_code 3 = .ok (.ifCond .eq 14, 3) := by decide +kernel
theorem d40_6 : decode jdk_42_method_154_code 6 = .ok (.aload_n 0, 1) := by decide +kernel
theorem d40_7 : decode jdk_42_method_154_code 7 = .ok (.getfield 15, 3) := by decide +kernel
theorem d40_10 : decode jdk_42_method_154_code 10 = .ok (.ifCond .ne 7, 3) := by decide +kernel
theorem d40_13 : decode jdk_42_method_154_code 13 = .ok (.iconst 1, 1) := by decide +kernel
theorem d40_14 : decode jdk_42_method_154_code 14 = .ok (.goto 4, 3) := by decide +kernel
theorem d40_17 : decode jdk_42_method_154_code 17 = .ok (.iconst 0, 1) := by decide +kernel
theorem d40_18 : decode jdk_42_method_154_code 18 = .ok (.ireturn, 1) := by decide +kernel
theorem d41_0 : decode jdk_43_method_2_code 0 = .ok (.iload_n 1, 1) := by decide +kernel
theorem d41_1 : decode jdk_43_method_2_code 1 = .ok (.aload_n 0, 1) := by decide +kernel
theorem d41_2 : decode jdk_43_method_2_code 2 = .ok (.arraylength, 1) := by decide +kernel
theorem d41_3 : decode jdk_43_method_2_code 3 = .ok (.invokestatic 9, 3) := by decide +kernel
theorem d41_6 : decode jdk_43_method_2_code 6 = .ok (.aload_n 0, 1) := by decide +kernel
theorem d41_7 : decode jdk_43_method_2_code 7 = .ok (.iload_n 1, 1) := by decide +kernel
theorem d41_8 : decode jdk_43_method_2_code 8 = .ok (.baload, 1) := by decide +kernel
theorem d41_9 : decode jdk_43_method_2_code 9 = .ok (.sipush 255, 3) := by decide +kernel
theorem d41_12 : decode jdk_43_method_2_code 12 = .ok (.iand, 1) := by decide +kernel
theorem d41_13 : decode jdk_43_method_2_code 13 = .ok (.i2c, 1) := by decide +kernel
theorem d41_14 : decode jdk_43_method_2_code 14 = .ok (.ireturn, 1) := by decide +kernel
theorem d42_0 : decode jdk_42_method_155_code 0 = .ok (.iload_n 0, 1) := by decide +kernel
theorem d42_1 : decode jdk_42_method_155_code 1 = .ok (.iload_n 1, 1) := by decide +kernel
theorem d42_2 : decode jdk_42_method_155_code 2 = .ok (.getstatic 1053, 3) := by decide +kernel
theorem d42_5 : decode jdk_42_method_155_code 5 = .ok (.invokestatic 1059, 3) := by decide +kernel
theorem d42_8 : decode jdk_42_method_155_code 8 = .ok (.pop, 1) := by decide +kernel
theorem d42_9 : decode jdk_42_method_155_code 9 = .ok (.return_, 1) := by decide +kernel
theorem d43_0 : decode jdk_41_method_11_code 0 = .ok (.iload_n 0, 1) := by decide +kernel
theorem d43_1 : decode jdk_41_method_11_code 1 = .ok (.ifCond .lt 8, 3) := by decide +kernel
theorem d43_4 : decode jdk_41_method_11_code 4 = .ok (.iload_n 0, 1) := by decide +kernel
theorem d43_5 : decode jdk_41_method_11_code 5 = .ok (.iload_n 1, 1) := by decide +kernel
theorem d43_6 : decode jdk_41_method_11_code 6 = .ok (.if_icmp .lt 10, 3) := by decide +kernel
theorem d43_16 : decode jdk_41_method_11_code 16 = .ok (.iload_n 0, 1) := by decide +kernel
theorem d43_17 : decode jdk_41_method_11_code 17 = .ok (.ireturn, 1) := by decide +kernel
theorem pd0 : parseMethodDescriptor "([CI[BII)I" = some ⟨[(.array .char), .int, (.array .byte), .int, .int], some .int⟩ := by decide +kernel
theorem pd1 : parseMethodDescriptor "([CII)[B" = some ⟨[(.array .char), .int, .int], some (.array .byte)⟩ := by decide +kernel
theorem pd2 : parseMethodDescriptor "([BI)B" = some ⟨[(.array .byte), .int], some .byte⟩ := by decide +kernel
theorem pd3 : parseMethodDescriptor "([CIILjava/lang/Void;)V" = some ⟨[(.array .char), .int, .int, (.object "java/lang/Void")], none⟩ := by decide +kernel
theorem pd4 : parseMethodDescriptor "()B" = some ⟨[], some .byte⟩ := by decide +kernel
theorem pd5 : parseMethodDescriptor "(II)V" = some ⟨[.int, .int], none⟩ := by decide +kernel
theorem pd6 : parseMethodDescriptor "(II)I" = some ⟨[.int, .int], some .int⟩ := by decide +kernel
theorem pd7 : parseMethodDescriptor "([BII)[B" = some ⟨[(.array .byte), .int, .int], some (.array .byte)⟩ := by decide +kernel
theorem pd8 : parseMethodDescriptor "(I)V" = some ⟨[.int], none⟩ := by decide +kernel
theorem pd9 : parseMethodDescriptor "(III)I" = some ⟨[.int, .int, .int], some .int⟩ := by decide +kernel
theorem pd10 : parseMethodDescriptor "(I)I" = some ⟨[.int], some .int⟩ := by decide +kernel
theorem pd11 : parseMethodDescriptor "([BI)[B" = some ⟨[(.array .byte), .int], some (.array .byte)⟩ := by decide +kernel
theorem pd12 : parseMethodDescriptor "(Ljava/lang/String;)V" = some ⟨[(.object "java/lang/String")], none⟩ := by decide +kernel
theorem pd13 : parseMethodDescriptor "([BIB)V" = some ⟨[(.array .byte), .int, .byte], none⟩ := by decide +kernel
theorem pd14 : parseMethodDescriptor "()I" = some ⟨[], some .int⟩ := by decide +kernel
theorem pd15 : parseMethodDescriptor "(ILjava/lang/String;)V" = some ⟨[.int, (.object "java/lang/String")], none⟩ := by decide +kernel
theorem pd16 : parseMethodDescriptor "(Ljava/lang/String;)Ljava/lang/AbstractStringBuilder;" = some ⟨[(.object "java/lang/String")], some (.object "java/lang/AbstractStringBuilder")⟩ := by decide +kernel
theorem pd17 : parseMethodDescriptor "()[B" = some ⟨[], some (.array .byte)⟩ := by decide +kernel
theorem pd18 : parseMethodDescriptor "()Z" = some ⟨[], some .boolean⟩ := by decide +kernel
theorem pd19 : parseMethodDescriptor "(Ljava/lang/AbstractStringBuilder;Ljava/lang/Void;)V" = some ⟨[(.object "java/lang/AbstractStringBuilder"), (.object "java/lang/Void")], none⟩ := by decide +kernel
theorem pd20 : parseMethodDescriptor "(Ljava/lang/StringBuilder;)V" = some ⟨[(.object "java/lang/StringBuilder")], none⟩ := by decide +kernel
theorem pd21 : parseMethodDescriptor "(IILjava/util/function/BiFunction;)I" = some ⟨[.int, .int, (.object "java/util/function/BiFunction")], some .int⟩ := by decide +kernel
theorem pd22 : parseMethodDescriptor "([BI)C" = some ⟨[(.array .byte), .int], some .char⟩ := by decide +kernel
theorem pd23 : parseMethodDescriptor "([C)V" = some ⟨[(.array .char)], none⟩ := by decide +kernel
theorem pd24 : parseMethodDescriptor "(Ljava/lang/Object;Ljava/lang/String;)Ljava/lang/Object;" = some ⟨[(.object "java/lang/Object"), (.object "java/lang/String")], some (.object "java/lang/Object")⟩ := by decide +kernel
theorem pd25 : parseMethodDescriptor "(Ljava/util/Collection;)Ljava/util/Set;" = some ⟨[(.object "java/util/Collection")], some (.object "java/util/Set")⟩ := by decide +kernel
theorem pd26 : parseMethodDescriptor "()V" = some ⟨[], none⟩ := by decide +kernel
theorem pd27 : parseMethodDescriptor "(Ljava/lang/String;)Ljava/lang/StringBuilder;" = some ⟨[(.object "java/lang/String")], some (.object "java/lang/StringBuilder")⟩ := by decide +kernel
theorem pd28 : parseMethodDescriptor "()Ljava/lang/String;" = some ⟨[], some (.object "java/lang/String")⟩ := by decide +kernel
theorem pd29 : parseMethodDescriptor "(I)C" = some ⟨[.int], some .char⟩ := by decide +kernel
theorem pd30 : parseMethodDescriptor "(ICC)Ljava/lang/String;" = some ⟨[.int, .char, .char], some (.object "java/lang/String")⟩ := by decide +kernel
theorem pd31 : parseMethodDescriptor "()Ljava/util/Set;" = some ⟨[], some (.object "java/util/Set")⟩ := by decide +kernel
theorem pd32 : parseMethodDescriptor "(Ljava/lang/String;Ljava/lang/String;Ljava/util/Set;)V" = some ⟨[(.object "java/lang/String"), (.object "java/lang/String"), (.object "java/util/Set")], none⟩ := by decide +kernel
theorem pd33 : parseMethodDescriptor "(Ljava/lang/String;ILjava/lang/String;)Z" = some ⟨[(.object "java/lang/String"), .int, (.object "java/lang/String")], some .boolean⟩ := by decide +kernel
theorem pn0 : plainName "java/lang/StringUTF16" = true := by first | (simp [plainName, overriddenIn]; done) | decide +kernel
theorem pn1 : plainName "java/lang/String" = true := by first | (simp [plainName, overriddenIn]; done) | decide +kernel
theorem pn2 : plainName "java/util/Arrays" = true := by first | (simp [plainName, overriddenIn]; done) | decide +kernel
theorem pn3 : plainName "java/lang/AbstractStringBuilder" = true := by first | (simp [plainName, overriddenIn]; done) | decide +kernel
theorem pn4 : plainName "java/lang/StringBuilder" = true := by first | (simp [plainName, overriddenIn]; done) | decide +kernel
theorem pn5 : plainName "jdk/internal/util/ArraysSupport" = true := by first | (simp [plainName, overriddenIn]; done) | decide +kernel
theorem pn6 : plainName "jdk/internal/util/Preconditions" = true := by first | (simp [plainName, overriddenIn]; done) | decide +kernel
theorem pn7 : plainName "java/lang/StringLatin1" = true := by first | (simp [plainName, overriddenIn]; done) | decide +kernel
theorem pn8 : plainName "java/util/Objects" = true := by first | (simp [plainName, overriddenIn]; done) | decide +kernel
theorem pn9 : plainName "com/example/soft_sieve/softsieve/JudgedQueryToStringPinLaw" = true := by first | (simp [plainName, overriddenIn]; done) | decide +kernel
theorem pn10 : plainName "java/util/Set" = true := by first | (simp [plainName, overriddenIn]; done) | decide +kernel
theorem pn11 : plainName "com/example/soft_sieve/softsieve/JudgedQuery" = true := by first | (simp [plainName, overriddenIn]; done) | decide +kernel
def codF (z : Int32) (n : Nat) : Int32 := nar .byte (lo8 (XT.ushr (z - Int32.ofNat n) 31))
set_option maxRecDepth 65536 in
set_option maxHeartbeats 4000000 in
theorem c_coderLen {l : Launch} {Z : State} {a0 : Array Value} {EL : List (String × Nat)} (hG : oG a0 Z EL) (d : Nat) (ws : List Value) (z : Int32) (h : Heap) (B : oArr Z h d .byte ws) :
    oCtr [] l Z a0 EL True (⟨"java/lang/StringUTF16", "coderFromArrayLen", "([BI)B"⟩ : MethodName) jdk_52_method_15_code 2 (some .byte) ({ frames := 0, cells := 0, slots := 0, locals := 0 } : Room) #[.ref d, .int z] [] h (fun v h' => v = some (.int (codF z ws.length)) ∧ h' = h) oNo := by
  refine oCtr.enter (Ls := #[.val (.ref d), .val (.int z)]) (plainFor_of_name pn0) hG.2.1 (fun m => by first | (simp [entryFrame, mkF, argsToLocals, Value.category]; done) | rfl) ?_
  intro pP eE sS mM bB tT cC
  refine oGo.iload_n (pc' := 1) d7_0 rfl rfl ?_
  refine oGo.aload_n (pc' := 2) d7_1 rfl rfl rfl ?_
  refine oGo.arraylength (pc' := 3) (z := (Int32.ofNat ws.length)) d7_2 rfl B rfl ?_
  refine oGo.isub (pc' := 4) d7_3 rfl ?_
  refine oGo.bipush (pc' := 6) (v := 31) d7_4 rfl (by decide) ?_
  refine oGo.iushr (pc' := 7) d7_6 rfl ?_
  refine oGo.i2b (pc' := 8) d7_7 rfl ?_
  exact oGo.nreturn d7_8 rfl (by simp) rfl (by decide) (by decide) ⟨rfl, rfl⟩ (fun _ q => q.elim)
theorem codF0 (n : Nat) : codF (Int32.ofNat n) n = 0 := by
  unfold codF; rw [show Int32.ofNat n - Int32.ofNat n = 0 from by simp]; decide
set_option maxRecDepth 65536 in
set_option maxHeartbeats 4000000 in
theorem c_coder {l : Launch} {Z : State} {a0 : Array Value} {EL : List (String × Nat)} (hG : oG a0 Z EL) (x : Nat) (cd : Int32) (hc : cd = 0 ∨ cd = 1) (h : Heap) (F : Fld Z h x "java/lang/String" "coder" "B" (.int cd)) :
    oCtr [] l Z a0 EL True (⟨"java/lang/String", "coder", "()B"⟩ : MethodName) jdk_42_method_152_code 1 (some .byte) ({ frames := 0, cells := 0, slots := 0, locals := 0 } : Room) #[.ref x] [] h (fun v h' => v = some (.int cd) ∧ h' = h) oNo := by
  obtain ⟨z, hzs, hz⟩ := sCOMPACT hG
  refine oCtr.enter (Ls := #[.val (.ref x)]) (plainFor_of_name pn1) hG.2.1 (fun m => by first | (simp [entryFrame, mkF, argsToLocals, Value.category]; done) | rfl) ?_
  intro pP eE sS mM bB tT cC
  refine oGo.getstatic (pc' := 3) d18_0 rfl (w27 hG) Via.refl hzs ?_
  refine oGo.if_eq (pc1 := 6) (pc2 := 13) d18_3 rfl (by decide) (fun q => absurd q hz) (fun q1 => ?_)
  refine oGo.aload_n (pc' := 7) d18_6 rfl rfl rfl ?_
  refine oGo.getfield (pc' := 10) d18_7 rfl (w26 hG) Via.refl F ?_
  refine oGo.goto (pc' := 14) d18_10 (by decide) ?_
  exact oGo.nreturn d18_14 rfl (by simp) (by rcases hc with rfl | rfl <;> decide) (by decide) (by decide) ⟨rfl, rfl⟩ (fun _ q => q.elim)
abbrev q_cmp5 (Z : State) (h : Heap) (d : Nat) (cs : List Int32) : Option Value → Heap → Prop := fun v h' => Keep h h' [d] ∧ ∃ r : Nat, v = some (.int (Int32.ofNat r)) ∧ ((r = cs.length ∧ oArr Z h' d .byte (oI (cs.map lo8)) ∧ ∀ c ∈ cs, ¬ 255 < c) ∨ (r < cs.length ∧ ∃ c, cs[r]? = some c ∧ 255 < c))
set_option maxRecDepth 65536 in
set_option maxHeartbeats 4000000 in
theorem c_cmp5 {l : Launch} {Z : State} {a0 : Array Value} {EL : List (String × Nat)} (hG : oG a0 Z EL) (b d : Nat) (cs : List Int32) (ws : List Value) (h : Heap) (A : oArr Z h b .char (oI cs)) (B : oArr Z h d .byte ws) (hl : ws.length = cs.length) (hne : b ≠ d) :
    oCtr [] l Z a0 EL True (⟨"java/lang/StringUTF16", "compress", "([CI[BII)I"⟩ : MethodName) jdk_52_method_21_code 7 (some .int) ({ frames := 0, cells := 0, slots := 0, locals := 0 } : Room) #[.ref b, .int (0 : Int32), .ref d, .int (0 : Int32), .int (Int32.ofNat cs.length)] [d] h ((q_cmp5 Z h d cs)) oNo := by
  refine oCtr.enter (Ls := #[.val (.ref b), .val (.int (0 : Int32)), .val (.ref d), .val (.int (0 : Int32)), .val (.int (Int32.ofNat cs.length)), .unset, .unset]) (plainFor_of_name pn0) hG.2.1 (fun m => by first | (simp [entryFrame, mkF, argsToLocals, Value.category]; done) | rfl) ?_
  intro pP eE sS mM bB tT cC
  have hb31 : cs.length < 2147483648 := by obtain ⟨_, _, _, q, _⟩ := A; simpa using q
  refine oGo.iconst (pc' := 1) (v := 0) d6_0 rfl (by decide) ?_
  refine oGo.istore (pc' := 3) (Ls' := #[.val (.ref b), .val (.int (0 : Int32)), .val (.ref d), .val (.int (0 : Int32)), .val (.int (Int32.ofNat cs.length)), .val (.int (0 : Int32)), .unset]) d6_1 rfl rfl ?_
  have loop : ∀ (r i : Nat) (h1 : Heap) (vs : List Value) (s6 : Slot), r + i = cs.length → Keep h h1 [d] → oArr Z h1 d .byte vs → vs.length = cs.length → vs.take i = (oI (cs.map lo8)).take i → (∀ c ∈ cs.take i, ¬ 255 < c) → oSl s6 → oGo l Z a0 EL True pP eE sS mM #[.ref b, .int (0 : Int32), .ref d, .int (0 : Int32), .int (Int32.ofNat cs.length)] bB tT cC ({ frames := 0, cells := 0, slots := 0, locals := 0 } : Room) "java/lang/StringUTF16" jdk_52_method_21_code 7 (some .int) "compress" (q_cmp5 Z h d cs) oNo [d] h1 0 0 3 #[.val (.ref b), .val (.int (Int32.ofNat i)), .val (.ref d), .val (.int (Int32.ofNat i)), .val (.int (Int32.ofNat cs.length)), .val (.int (Int32.ofNat i)), s6] [] := by
    intro r
    induction r with
    | zero =>
      intro i h1 vs s6 hr K B1 hv ht hc hs6
      obtain rfl : i = cs.length := by omega
      refine oGo.iload (pc' := 5) d6_3 rfl rfl ?_
      refine oGo.iload (pc' := 7) d6_5 rfl rfl ?_
      refine oGo.icmp_ge (pc1 := 10) (pc2 := 44) d6_7 rfl (by decide) (fun q1 => ?_) (fun q => absurd q (by rw [own_lt hb31 hb31]; omega))
      refine oGo.iload (pc' := 46) d6_44 rfl rfl ?_
      exact oGo.ireturn d6_46 rfl (by decide) (by decide) ⟨K, cs.length, rfl, Or.inl ⟨rfl, by rw [List.take_of_length_le (by omega), List.take_of_length_le (by simp)] at ht; rw [← ht]; exact B1, by simpa using hc⟩⟩ (fun _ q => q.elim)
    | succ r ih =>
      intro i h1 vs s6 hr K B1 hv ht hc hs6
      have hi : i < cs.length := by omega
      obtain ⟨c, hci⟩ : ∃ c, cs[i]? = some c := ⟨_, List.getElem?_eq_getElem hi⟩
      have A1 := oArr.keep A K (own_nin1 hne)
      refine oGo.iload (pc' := 5) d6_3 rfl rfl ?_
      refine oGo.iload (pc' := 7) d6_5 rfl rfl ?_
      refine oGo.icmp_ge (pc1 := 10) (pc2 := 44) d6_7 rfl (by decide) (fun q => absurd ((own_lt (by omega) hb31).mpr hi) q) (fun q2 => ?_)
      refine oGo.aload_n (pc' := 11) d6_10 rfl rfl rfl ?_
      refine oGo.iload_n (pc' := 12) d6_11 rfl rfl ?_
      refine oGo.caload (pc' := 13) (i := i) d6_12 rfl A1 rfl (by rw [List.getElem?_map, hci]; rfl) ?_
      refine oGo.istoreS (pc' := 15) (Ls' := #[.val (.ref b), .val (.int (Int32.ofNat i)), .val (.ref d), .val (.int (Int32.ofNat i)), .val (.int (Int32.ofNat cs.length)), .val (.int (Int32.ofNat i)), .val (.int c)]) d6_13 rfl hs6 rfl rfl ?_
      refine oGo.iload (pc' := 17) d6_15 rfl rfl ?_
      refine oGo.sipush (pc' := 20) (v := 255) d6_17 rfl (by decide) ?_
      refine oGo.icmp_le (pc1 := 23) (pc2 := 26) d6_20 rfl (by decide) (fun q => ?_) (fun q => ?_)
      · refine oGo.aload_n (pc' := 27) d6_26 rfl rfl rfl ?_
        refine oGo.iload_n (pc' := 28) d6_27 rfl rfl ?_
        refine oGo.iload (pc' := 30) d6_28 rfl rfl ?_
        refine oGo.i2b (pc' := 31) d6_30 rfl ?_
        refine oGo.bastore (pc' := 32) (i := i) (w := lo8 c) d6_31 rfl B1 rfl (by omega) (lo8_idem c) (by simp) ?_
        intro h2 W sh2 B2
        refine oGo.iinc (pc' := 35) (y := 1) (Ls' := #[.val (.ref b), .val (.int ((Int32.ofNat i) + (1 : Int32))), .val (.ref d), .val (.int (Int32.ofNat i)), .val (.int (Int32.ofNat cs.length)), .val (.int (Int32.ofNat i)), .val (.int c)]) d6_32 rfl rfl (by decide) rfl ?_
        refine oGo.iinc (pc' := 38) (y := 1) (Ls' := #[.val (.ref b), .val (.int ((Int32.ofNat i) + (1 : Int32))), .val (.ref d), .val (.int ((Int32.ofNat i) + (1 : Int32))), .val (.int (Int32.ofNat cs.length)), .val (.int (Int32.ofNat i)), .val (.int c)]) d6_35 rfl rfl (by decide) rfl ?_
        refine oGo.iinc (pc' := 41) (y := 1) (Ls' := #[.val (.ref b), .val (.int ((Int32.ofNat i) + (1 : Int32))), .val (.ref d), .val (.int ((Int32.ofNat i) + (1 : Int32))), .val (.int (Int32.ofNat cs.length)), .val (.int ((Int32.ofNat i) + (1 : Int32))), .val (.int c)]) d6_38 rfl rfl (by decide) rfl ?_
        refine oGo.goto (pc' := 3) d6_41 (by decide) ?_
        rw [own_succ]
        refine ih (i + 1) h2 _ _ (by omega) (K.wr W (Or.inl (by simp))) B2 (by simpa using hv) ?_ ?_ (Or.inr ⟨_, rfl, rfl⟩)
        · rw [own_take_set _ _ _ (by omega), ht, own_take_succ (oI (cs.map lo8)) i (.int (lo8 c)) (by simp [hci])]
        · intro c' hc'
          rw [own_take_succ cs i c hci] at hc'
          rcases List.mem_append.mp hc' with q' | q'
          · exact hc c' q'
          · rw [List.mem_singleton.mp q']; exact q
      · refine oGo.iload (pc' := 25) d6_23 rfl rfl ?_
        exact oGo.ireturn d6_25 rfl (by decide) (by decide) ⟨K, i, rfl, Or.inr ⟨hi, c, hci, q⟩⟩ (fun _ q => q.elim)
  exact loop cs.length 0 h ws _ rfl (Keep.refl _ _) B hl rfl (by simp) (Or.inl rfl)
abbrev q_cmp3 (Z : State) (h : Heap) (cs : List Int32) : Option Value → Heap → Prop := fun v h' => Keep h h' [] ∧ ∃ t : Nat, v = some (.ref t) ∧ h.size ≤ t ∧ oArr Z h' t .byte (oI (cs.map lo8))
set_option maxRecDepth 65536 in
set_option maxHeartbeats 4000000 in
theorem c_cmp3 {l : Launch} {Z : State} {a0 : Array Value} {EL : List (String × Nat)} (hG : oG a0 Z EL) (b : Nat) (cs : List Int32) (hn : cs.length ≤ 2) (hcs : ∀ c ∈ cs, ¬ c < 0 ∧ ¬ 255 < c) (h : Heap) (A : oArr Z h b .char (oI cs)) :
    oCtr [] l Z a0 EL True (⟨"java/lang/StringUTF16", "compress", "([CII)[B"⟩ : MethodName) jdk_52_method_16_code 6 (some (.array .byte)) ({ frames := 1, cells := 1, slots := 2, locals := 18 } : Room) #[.ref b, .int (0 : Int32), .int (Int32.ofNat cs.length)] [] h ((q_cmp3 Z h cs)) oNo := by
  refine oCtr.enter (Ls := #[.val (.ref b), .val (.int (0 : Int32)), .val (.int (Int32.ofNat cs.length)), .unset, .unset, .unset]) (plainFor_of_name pn0) hG.2.1 (fun m => by first | (simp [entryFrame, mkF, argsToLocals, Value.category]; done) | rfl) ?_
  intro pP eE sS mM bB tT cC
  have hb31 : cs.length < 2147483648 := by omega
  have hbl : b < h.size := A.lt
  refine oGo.iload_n (pc' := 1) d5_0 rfl rfl ?_
  refine oGo.newarray (pc' := 3) (k' := 1) (n' := 2) (i := cs.length) d5_1 rfl (w20 hG) rfl 2 (hn) (by decide) rfl rfl (by decide) (by decide) (by decide) ?_
  intro h1 a2 qa2 la2 E3 A4'
  have A4 : oArr Z h1 a2 .byte (List.replicate (cs.length) (.int 0)) := A4'
  refine oGo.astore_n (pc' := 4) (Ls' := #[.val (.ref b), .val (.int (0 : Int32)), .val (.int (Int32.ofNat cs.length)), .val (.ref a2), .unset, .unset]) d5_3 rfl rfl rfl ?_
  refine oGo.aload_n (pc' := 5) d5_4 rfl rfl rfl ?_
  refine oGo.iload_n (pc' := 6) d5_5 rfl rfl ?_
  refine oGo.aload_n (pc' := 7) d5_6 rfl rfl rfl ?_
  refine oGo.iconst (pc' := 8) (v := 0) d5_7 rfl (by decide) ?_
  refine oGo.iload_n (pc' := 9) d5_8 rfl rfl ?_
  have f5 := oArr.ext E3 A
  refine oGo.invokestatic (pc' := 12) (k' := 1) (n' := 2) (argsL := [.ref b, .int (0 : Int32), .ref a2, .int (0 : Int32), .int (Int32.ofNat cs.length)]) (rest := []) d5_9 rfl (w32 hG) (w33 hG) (w30 hG) (w34 hG) (by decide) pd0 rfl rfl rfl (c_cmp5 hG b a2 cs _ _ f5 A4 (by simp) (by omega)) (by simp) (by decide) (Nat.le_of_ble_eq_true rfl) rfl rfl (by decide) (by decide) ?_
  intro v6 h7 sh7 q8
  obtain ⟨K3, r, rfl, hr⟩ := q8
  obtain ⟨rfl, B3⟩ : r = cs.length ∧ oArr Z h7 a2 .byte (oI (cs.map lo8)) := by
    rcases hr with ⟨h1, h2, -⟩ | ⟨-, c, h2, h3⟩
    · exact ⟨h1, h2⟩
    · exact absurd h3 (hcs c (List.mem_of_getElem? h2)).2
  refine ⟨_, fun _ hx => Or.inl hx, ?_⟩
  show oGo l Z a0 EL True pP eE sS mM _ bB tT cC _ _ _ _ _ _ _ _ [a2] h7 1 2 12 #[.val (.ref b), .val (.int (0 : Int32)), .val (.int (Int32.ofNat cs.length)), .val (.ref a2), .unset, .unset] [.int (Int32.ofNat cs.length)]
  refine oGo.istore (pc' := 14) (Ls' := #[.val (.ref b), .val (.int (0 : Int32)), .val (.int (Int32.ofNat cs.length)), .val (.ref a2), .val (.int (Int32.ofNat cs.length)), .unset]) d5_12 rfl rfl ?_
  refine oGo.iload (pc' := 16) d5_14 rfl rfl ?_
  refine oGo.iload_n (pc' := 17) d5_16 rfl rfl ?_
  refine oGo.icmp_eq (pc1 := 20) (pc2 := 57) d5_17 rfl (by decide) (fun q9 => ?_) (fun q => absurd rfl q)
  refine oGo.aload_n (pc' := 58) d5_57 rfl rfl rfl ?_
  exact oGo.areturn d5_58 rfl rfl rfl rfl (by decide) (by decide) ⟨(((Keep.refl h []).ext E3).trans K3 (own_new1 (by omega))), a2, rfl, by omega, B3⟩ (fun _ q => q.elim)
abbrev q_strI (Z : State) (h : Heap) (x : Nat) (cs : List Int32) : Option Value → Heap → Prop := fun v h' => v = none ∧ Keep h h' [x] ∧ ∃ t : Nat, oS Z h' x t cs
set_option maxRecDepth 65536 in
set_option maxHeartbeats 4000000 in
theorem c_strI4 {l : Launch} {Z : State} {a0 : Array Value} {EL : List (String × Nat)} (hG : oG a0 Z EL) (x b : Nat) (cs : List Int32) (hn : cs.length ≤ 2) (hcs : ∀ c ∈ cs, ¬ c < 0 ∧ ¬ 255 < c) (u w0 : Value) (h : Heap) (A : oArr Z h b .char (oI cs)) (E : Exa Z h x "java/lang/String") (F1 : Fld Z h x "java/lang/String" "value" "[B" u) (F2 : Fld Z h x "java/lang/String" "coder" "B" w0) :
    oCtr [] l Z a0 EL True (⟨"java/lang/String", "<init>", "([CIILjava/lang/Void;)V"⟩ : MethodName) jdk_42_method_149_code 6 none ({ frames := 2, cells := 4, slots := 8, locals := 35 } : Room) #[.ref x, .ref b, .int (0 : Int32), .int (Int32.ofNat cs.length), .null] [x] h ((q_strI Z h x cs)) oNo := by
  obtain ⟨z, hzs, hz⟩ := sCOMPACT hG
  have hb31 : cs.length < 2147483648 := by omega
  have hxl : x < h.size := E.lt
  refine oCtr.enter (Ls := #[.val (.ref x), .val (.ref b), .val (.int (0 : Int32)), .val (.int (Int32.ofNat cs.length)), .val .null, .unset]) (plainFor_of_name pn1) hG.2.1 (fun m => by first | (simp [entryFrame, mkF, argsToLocals, Value.category]; done) | rfl) ?_
  intro pP eE sS mM bB tT cC
  refine oGo.aload_n (pc' := 1) d3_0 rfl rfl rfl ?_
  refine oGo.objinit (pc' := 4) d3_1 rfl (w16 hG) (w17 hG) (w18 hG) rfl (by decide) (Nat.le_of_ble_eq_true rfl) ?_
  refine oGo.iload_n (pc' := 5) d3_4 rfl rfl ?_
  refine oGo.if_ne (pc1 := 8) (pc2 := 27) d3_5 rfl (by decide) (fun q => ?_) (fun q => ?_)
  · refine oGo.getstatic (pc' := 30) d3_27 rfl (w27 hG) Via.refl hzs ?_
    refine oGo.if_eq (pc1 := 33) (pc2 := 58) d3_30 rfl (by decide) (fun q => absurd q hz) (fun q1 => ?_)
    refine oGo.aload_n (pc' := 34) d3_33 rfl rfl rfl ?_
    refine oGo.iload_n (pc' := 35) d3_34 rfl rfl ?_
    refine oGo.iload_n (pc' := 36) d3_35 rfl rfl ?_
    refine oGo.invokestatic (pc' := 39) (k' := 1) (n' := 2) (argsL := [.ref b, .int (0 : Int32), .int (Int32.ofNat cs.length)]) (rest := []) d3_36 rfl (w28 hG) (w29 hG) (w30 hG) (w31 hG) (by decide) pd1 rfl rfl rfl (c_cmp3 hG b cs hn hcs h A) (by simp) (by decide) (Nat.le_of_ble_eq_true rfl) rfl rfl (by decide) (by decide) ?_
    intro v2 h3 sh3 q4
    obtain ⟨K2, t, rfl, ht, B2⟩ := q4
    refine ⟨_, fun _ hx => Or.inl hx, ?_⟩
    show oGo l Z a0 EL True pP eE sS mM _ bB tT cC _ _ _ _ _ _ _ _ [x] h3 1 2 39 #[.val (.ref x), .val (.ref b), .val (.int (0 : Int32)), .val (.int (Int32.ofNat cs.length)), .val .null, .unset] [.ref t]
    refine oGo.astore (pc' := 41) (Ls' := #[.val (.ref x), .val (.ref b), .val (.int (0 : Int32)), .val (.int (Int32.ofNat cs.length)), .val .null, .val (.ref t)]) d3_39 rfl rfl rfl ?_
    refine oGo.aload_n (pc' := 42) d3_41 rfl rfl rfl ?_
    refine oGo.aload (pc' := 44) d3_42 rfl rfl rfl ?_
    refine oGo.iload_n (pc' := 45) d3_44 rfl rfl ?_
    refine oGo.invokestatic (pc' := 48) (k' := 1) (n' := 2) (argsL := [.ref t, .int (Int32.ofNat cs.length)]) (rest := [.ref x]) d3_45 rfl (w35 hG) (w36 hG) (w30 hG) (w37 hG) (by decide) pd2 rfl rfl rfl (c_coderLen hG t _ (Int32.ofNat cs.length) _ B2) (by simp) (by decide) (Nat.le_of_ble_eq_true rfl) rfl rfl (by decide) (by decide) ?_
    intro v5 h6 sh6 q7
    obtain ⟨rfl, ee⟩ := q7
    obtain rfl := ee.symm
    refine ⟨_, fun _ hx => Or.inl hx, ?_⟩
    show oGo l Z a0 EL True pP eE sS mM _ bB tT cC _ _ _ _ _ _ _ _ [x] h3 1 2 48 #[.val (.ref x), .val (.ref b), .val (.int (0 : Int32)), .val (.int (Int32.ofNat cs.length)), .val .null, .val (.ref t)] [.int (codF (Int32.ofNat cs.length) (oI (cs.map lo8)).length), .ref x]
    rw [List.length_map, List.length_map, codF0]
    have f8 := Fld.keep F2 K2 nin0
    have f9 := Exa.keep E K2
    refine oGo.putfield (pc' := 51) (ty := .byte) d3_48 rfl (w26 hG) Via.refl f8 f9 (Or.inr ⟨(w22 hG), rfl, rfl⟩) (w6 hG) (by decide) (by decide) (by decide) (by simp) ?_
    intro h10 W11 sh10
    have f12 := Fld.same W11 f8
    refine oGo.aload_n (pc' := 52) d3_51 rfl rfl rfl ?_
    refine oGo.aload (pc' := 54) d3_52 rfl rfl rfl ?_
    have f13 := Fld.keep F1 K2 nin0
    have f14 := Fld.other W11 f13 (Or.inr (slot_ne (C := "java/lang/String") (Or.inr (w21 hG)) (Or.inr (w22 hG)) (by decide) (t := (.array .byte)) (t' := .byte) (by decide) (by decide)))
    have f15 := Exa.wr W11 f9
    refine oGo.putfield (pc' := 57) (ty := (.array .byte)) d3_54 rfl (w25 hG) Via.refl f14 f15 (Or.inr ⟨(w21 hG), rfl, rfl⟩) (w6 hG) (by decide) rfl rfl (by simp) ?_
    intro h16 W17 sh16
    have f18 := Fld.same W17 f14
    have f19 := Fld.other W17 f12 (Or.inr (slot_ne (C := "java/lang/String") (Or.inr (w22 hG)) (Or.inr (w21 hG)) (by decide) (t := .byte) (t' := (.array .byte)) (by decide) (by decide)))
    have f20 := Exa.wr W17 f15
    have f21 := oArr.other W11 B2 (own_ne (by omega))
    have f22 := oArr.other W17 f21 (own_ne (by omega))
    exact oGo.return_ d3_57 rfl (by decide) (by decide) ⟨rfl, (((Keep.refl h [x]).trans K2 (by simp)).wr W11 (Or.inl (by simp))).wr W17 (Or.inl (by simp)), t, f20, f18, f19, f22, hcs⟩ (fun _ q => q.elim)
  · obtain rfl : cs = [] := List.length_eq_zero_iff.mp ((own_eq (b := 0) hb31 (by omega)).mp q)
    refine oGo.aload_n (pc' := 9) d3_8 rfl rfl rfl ?_
    refine oGo.ldc_str (pc' := 11) (k' := 2) (n' := 4) (vs := oI (([] : List Int32).map lo8)) d3_9 rfl trivial (w19 hG) (strAt hG) (hG.2.2.2 _ (by decide)) (by decide) (by decide) rfl rfl (by decide) (by decide) ?_
    intro h23 a24 b25 E26 Xa24 Ca24 Va24 Ba24 la24 lb25 na24
    have S27 : oS Z h23 a24 b25 [] := ⟨Xa24, Va24, Ca24, Ba24, by decide⟩
    refine oGo.getfield (pc' := 14) d3_11 rfl (w25 hG) Via.refl Va24 ?_
    have f28 := Fld.ext E26 F1
    have f29 := Exa.ext E26 E
    refine oGo.putfield (pc' := 17) (ty := (.array .byte)) d3_14 rfl (w25 hG) Via.refl f28 f29 (Or.inr ⟨(w21 hG), rfl, rfl⟩) (w6 hG) (by decide) rfl rfl (by simp) ?_
    intro h30 W31 sh30
    have f32 := Fld.same W31 f28
    refine oGo.aload_n (pc' := 18) d3_17 rfl rfl rfl ?_
    refine oGo.ldc_str (pc' := 20) (k' := 4) (n' := 8) (vs := oI (([] : List Int32).map lo8)) d3_18 rfl trivial (w19 hG) (strAt hG) (hG.2.2.2 _ (by decide)) (by decide) (by decide) rfl rfl (by decide) (by decide) ?_
    intro h33 a34 b35 E36 Xa34 Ca34 Va34 Ba34 la34 lb35 na34
    have S37 : oS Z h33 a34 b35 [] := ⟨Xa34, Va34, Ca34, Ba34, by decide⟩
    refine oGo.getfield (pc' := 23) d3_20 rfl (w26 hG) Via.refl Ca34 ?_
    have f38 := Fld.ext E26 F2
    have f39 := Fld.other W31 f38 (Or.inr (slot_ne (C := "java/lang/String") (Or.inr (w22 hG)) (Or.inr (w21 hG)) (by decide) (t := .byte) (t' := (.array .byte)) (by decide) (by decide)))
    have f40 := Fld.ext E36 f39
    have f41 := Exa.wr W31 f29
    have f42 := Exa.ext E36 f41
    refine oGo.putfield (pc' := 26) (ty := .byte) d3_23 rfl (w26 hG) Via.refl f40 f42 (Or.inr ⟨(w22 hG), rfl, rfl⟩) (w6 hG) (by decide) (by decide) (by decide) (by simp) ?_
    intro h43 W44 sh43
    have f45 := Fld.same W44 f40
    have f46 := Fld.ext E36 f32
    have f47 := Fld.other W44 f46 (Or.inr (slot_ne (C := "java/lang/String") (Or.inr (w21 hG)) (Or.inr (w22 hG)) (by decide) (t := (.array .byte)) (t' := .byte) (by decide) (by decide)))
    have f48 := Exa.wr W44 f42
    have f49 := oArr.other W31 Ba24 (Ne.symm (na24 x (by simp)).2)
    have f50 := oArr.ext E36 f49
    have f51 := oArr.other W44 f50 (Ne.symm (na24 x (by simp)).2)
    exact oGo.return_ d3_26 rfl (by decide) (by decide) ⟨rfl, (((((Keep.refl h [x]).ext E26).wr W31 (Or.inl (by simp))).ext E36).wr W44 (Or.inl (by simp))), b25, f48, f47, f45, f51, by simp⟩ (fun _ q => q.elim)
set_option maxRecDepth 65536 in
set_option maxHeartbeats 4000000 in
theorem c_strI1 {l : Launch} {Z : State} {a0 : Array Value} {EL : List (String × Nat)} (hG : oG a0 Z EL) (x b : Nat) (cs : List Int32) (hn : cs.length ≤ 2) (hcs : ∀ c ∈ cs, ¬ c < 0 ∧ ¬ 255 < c) (u w0 : Value) (h : Heap) (A : oArr Z h b .char (oI cs)) (E : Exa Z h x "java/lang/String") (F1 : Fld Z h x "java/lang/String" "value" "[B" u) (F2 : Fld Z h x "java/lang/String" "coder" "B" w0) :
    oCtr [] l Z a0 EL True (⟨"java/lang/String", "<init>", "([C)V"⟩ : MethodName) jdk_42_method_3_code 2 none ({ frames := 3, cells := 4, slots := 8, locals := 52 } : Room) #[.ref x, .ref b] [x] h ((q_strI Z h x cs)) oNo := by
  refine oCtr.enter (Ls := #[.val (.ref x), .val (.ref b)]) (plainFor_of_name pn1) hG.2.1 (fun m => by first | (simp [entryFrame, mkF, argsToLocals, Value.category]; done) | rfl) ?_
  intro pP eE sS mM bB tT cC
  refine oGo.aload_n (pc' := 1) d2_0 rfl rfl rfl ?_
  refine oGo.aload_n (pc' := 2) d2_1 rfl rfl rfl ?_
  refine oGo.iconst (pc' := 3) (v := 0) d2_2 rfl (by decide) ?_
  refine oGo.aload_n (pc' := 4) d2_3 rfl rfl rfl ?_
  refine oGo.arraylength (pc' := 5) (z := (Int32.ofNat cs.length)) d2_4 rfl A (by rw [List.length_map]) ?_
  refine oGo.aconst_null (pc' := 6) d2_5 rfl ?_
  refine oGo.invokespecial (pc' := 9) (k' := 4) (n' := 8) (a := x) (argsL := [.ref b, .int (0 : Int32), .int (Int32.ofNat cs.length), .null]) (rest := []) d2_6 rfl rfl (w12 hG) (w13 hG) (w7 hG) (w15 hG) (by decide) pd3 rfl rfl rfl (c_strI4 hG x b cs hn hcs u w0 h A E F1 F2) (by simp) (by decide) (Nat.le_of_ble_eq_true rfl) rfl rfl (by decide) (by decide) ?_
  intro v1 h2 sh2 q3
  obtain ⟨rfl, hq⟩ := q3
  refine ⟨_, fun _ hx => Or.inl hx, ?_⟩
  show oGo l Z a0 EL True pP eE sS mM _ bB tT cC _ _ _ _ _ _ _ _ [x] h2 4 8 9 #[.val (.ref x), .val (.ref b)] []
  exact oGo.return_ d2_9 rfl (by decide) (by decide) ⟨rfl, hq⟩ (fun _ q => q.elim)
set_option maxRecDepth 65536 in
set_option maxHeartbeats 4000000 in
theorem c_length {l : Launch} {Z : State} {a0 : Array Value} {EL : List (String × Nat)} (hG : oG a0 Z EL) (x t : Nat) (cs : List Int32) (h : Heap) (Sx : oS Z h x t cs) :
    oCtr [] l Z a0 EL True (⟨"java/lang/String", "length", "()I"⟩ : MethodName) jdk_42_method_54_code 1 (some .int) ({ frames := 1, cells := 0, slots := 0, locals := 13 } : Room) #[.ref x] [] h (fun v h' => v = some (.int (Int32.ofNat cs.length)) ∧ h' = h) oNo := by
  refine oCtr.enter (Ls := #[.val (.ref x)]) (plainFor_of_name pn1) hG.2.1 (fun m => by first | (simp [entryFrame, mkF, argsToLocals, Value.category]; done) | rfl) ?_
  intro pP eE sS mM bB tT cC
  refine oGo.aload_n (pc' := 1) d17_0 rfl rfl rfl ?_
  refine oGo.getfield (pc' := 4) d17_1 rfl (w25 hG) Via.refl Sx.2.1 ?_
  refine oGo.arraylength (pc' := 5) (z := (Int32.ofNat cs.length)) d17_4 rfl Sx.2.2.2.1 (by rw [List.length_map, List.length_map]) ?_
  refine oGo.aload_n (pc' := 6) d17_5 rfl rfl rfl ?_
  refine oGo.invokevirtual (pc' := 9) (k' := 0) (n' := 0) (a := x) (argsL := []) (rest := [.int (Int32.ofNat cs.length)]) d17_6 rfl (w110 hG) (w111 hG) (w113 hG) (w113 hG) rfl (w112 hG) (w7 hG) (w114 hG) (by decide) pd4 rfl rfl rfl Sx.1 (c_coder hG x 0 (Or.inl rfl) h Sx.2.2.1) (by simp) (by decide) (Nat.le_of_ble_eq_true rfl) rfl rfl (by decide) (by decide) ?_
  intro v1 h2 sh2 q3
  obtain ⟨rfl, ee⟩ := q3
  obtain rfl := ee.symm
  refine ⟨_, fun _ hx => Or.inl hx, ?_⟩
  show oGo l Z a0 EL True pP eE sS mM _ bB tT cC _ _ _ _ _ _ _ _ [] h 0 0 9 #[.val (.ref x)] [.int (0 : Int32), .int (Int32.ofNat cs.length)]
  refine oGo.ishr (pc' := 10) d17_9 rfl ?_
  exact oGo.ireturn d17_10 rfl (by decide) (by decide) ⟨by rw [shr0], rfl⟩ (fun _ q => q.elim)
def oSB (Z : State) (h : Heap) (sb b : Nat) (cs : List Int32) (cap : Nat) : Prop := Exa Z h sb "java/lang/StringBuilder" ∧ Fld Z h sb "java/lang/AbstractStringBuilder" "value" "[B" (.ref b) ∧ Fld Z h sb "java/lang/AbstractStringBuilder" "coder" "B" (.int 0) ∧ Fld Z h sb "java/lang/AbstractStringBuilder" "count" "I" (.int (Int32.ofNat cs.length)) ∧
  ∃ vs, oArr Z h b .byte vs ∧ vs.length = cap ∧ vs.take cs.length = oI (cs.map lo8) ∧ cs.length ≤ cap
abbrev oBuf (Z : State) (sb : Nat) : Option Value → Heap → Addr → Prop := fun _ h' x => Fld Z h' sb "java/lang/AbstractStringBuilder" "value" "[B" (.ref x)
def capF (cap m : Nat) : Nat := if m ≤ cap then cap else max m (2 * cap + 2)
section SB
variable {Z : State} {h h' : Heap} {sb b a : Addr} {cs : List Int32} {cap : Nat} {ws : List Addr}
theorem oSB.ext (S : oSB Z h sb b cs cap) (E : Ext h h') : oSB Z h' sb b cs cap := by
  obtain ⟨h1, h2, h3, h4, vs, h5, h6⟩ := S; exact ⟨h1.ext E, h2.ext E, h3.ext E, h4.ext E, vs, h5.ext E, h6⟩
theorem oSB.keep (S : oSB Z h sb b cs cap) (K : Keep h h' ws) (q : sb ∉ ws) (r : b ∉ ws) : oSB Z h' sb b cs cap := by
  obtain ⟨h1, h2, h3, h4, vs, h5, h6⟩ := S; exact ⟨h1.keep K, h2.keep K q, h3.keep K q, h4.keep K q, vs, h5.keep K r, h6⟩
theorem oFld_det {C n d : String} {v w : Value} (F : Fld Z h a C n d v) (G : Fld Z h a C n d w) : v = w := Classical.byContradiction fun q => absurd rfl (Fld.ne F G q)
end SB
theorem oSB_ne {a0 : Array Value} {Z : State} {EL : List (String × Nat)} (hG : oG a0 Z EL) {h : Heap} {sb b : Addr} {cs : List Int32} {cap : Nat} (S : oSB Z h sb b cs cap) : sb ≠ b := by
  obtain ⟨h1, -, -, -, vs, ⟨cl, h2, -⟩, -⟩ := S
  exact ne_arr h1 (w77 hG) h2
set_option maxRecDepth 65536 in
set_option maxHeartbeats 4000000 in
theorem c_min {l : Launch} {Z : State} {a0 : Array Value} {EL : List (String × Nat)} (hG : oG a0 Z EL) (i j : Nat) (hi : i < 2147483648) (hj : j < 2147483648) (h : Heap)  :
    oCtr [] l Z a0 EL True (⟨"java/lang/Math", "min", "(II)I"⟩ : MethodName) jdk_29_method_69_code 2 (some .int) ({ frames := 0, cells := 0, slots := 0, locals := 0 } : Room) #[.int (Int32.ofNat i), .int (Int32.ofNat j)] [] h (fun v h' => v = some (.int (Int32.ofNat (min i j))) ∧ h' = h) oNo := by
  refine oCtr.enter (Ls := #[.val (.int (Int32.ofNat i)), .val (.int (Int32.ofNat j))]) (Jvm.Free.JP.mathPlain rfl (by decide +kernel)) hG.2.1 (fun m => by first | (simp [entryFrame, mkF, argsToLocals, Value.category]; done) | rfl) ?_
  intro pP eE sS mM bB tT cC
  refine oGo.iload_n (pc' := 1) d27_0 rfl rfl ?_
  refine oGo.iload_n (pc' := 2) d27_1 rfl rfl ?_
  refine oGo.icmp_gt (pc1 := 5) (pc2 := 9) d27_2 rfl (by decide) (fun q => ?_) (fun q => ?_)
  · refine oGo.iload_n (pc' := 10) d27_9 rfl rfl ?_
    exact oGo.ireturn d27_10 rfl (by decide) (by decide) ⟨by rw [Nat.min_eq_right (by rw [own_lt hj hi] at q; omega)], rfl⟩ (fun _ q => q.elim)
  · refine oGo.iload_n (pc' := 6) d27_5 rfl rfl ?_
    refine oGo.goto (pc' := 10) d27_6 (by decide) ?_
    exact oGo.ireturn d27_10 rfl (by decide) (by decide) ⟨by rw [Nat.min_eq_left (by rw [own_lt hj hi] at q; omega)], rfl⟩ (fun _ q => q.elim)
set_option maxRecDepth 65536 in
set_option maxHeartbeats 4000000 in
theorem c_max {l : Launch} {Z : State} {a0 : Array Value} {EL : List (String × Nat)} (hG : oG a0 Z EL) (i j : Nat) (hi : i < 2147483648) (hj : j < 2147483648) (h : Heap)  :
    oCtr [] l Z a0 EL True (⟨"java/lang/Math", "max", "(II)I"⟩ : MethodName) jdk_29_method_65_code 2 (some .int) ({ frames := 0, cells := 0, slots := 0, locals := 0 } : Room) #[.int (Int32.ofNat i), .int (Int32.ofNat j)] [] h (fun v h' => v = some (.int (Int32.ofNat (max i j))) ∧ h' = h) oNo := by
  refine oCtr.enter (Ls := #[.val (.int (Int32.ofNat i)), .val (.int (Int32.ofNat j))]) (Jvm.Free.JP.mathPlain rfl (by decide +kernel)) hG.2.1 (fun m => by first | (simp [entryFrame, mkF, argsToLocals, Value.category]; done) | rfl) ?_
  intro pP eE sS mM bB tT cC
  refine oGo.iload_n (pc' := 1) d25_0 rfl rfl ?_
  refine oGo.iload_n (pc' := 2) d25_1 rfl rfl ?_
  refine oGo.icmp_lt (pc1 := 5) (pc2 := 9) d25_2 rfl (by decide) (fun q => ?_) (fun q => ?_)
  · refine oGo.iload_n (pc' := 10) d25_9 rfl rfl ?_
    exact oGo.ireturn d25_10 rfl (by decide) (by decide) ⟨by rw [Nat.max_eq_right (by rw [own_lt hi hj] at q; omega)], rfl⟩ (fun _ q => q.elim)
  · refine oGo.iload_n (pc' := 6) d25_5 rfl rfl ?_
    refine oGo.goto (pc' := 10) d25_6 (by decide) ?_
    exact oGo.ireturn d25_10 rfl (by decide) (by decide) ⟨by rw [Nat.max_eq_left (by rw [own_lt hi hj] at q; omega)], rfl⟩ (fun _ q => q.elim)
set_option maxRecDepth 65536 in
set_option maxHeartbeats 4000000 in
theorem c_checkLength {l : Launch} {Z : State} {a0 : Array Value} {EL : List (String × Nat)} (hG : oG a0 Z EL) (i j : Nat) (hij : i ≤ j) (hj : j < 2147483648) (h : Heap)  :
    oCtr [] l Z a0 EL True (⟨"java/util/Arrays", "checkLength", "(II)V"⟩ : MethodName) jdk_65_method_131_code 2 none ({ frames := 0, cells := 0, slots := 0, locals := 0 } : Room) #[.int (Int32.ofNat i), .int (Int32.ofNat j)] [] h (fun v h' => v = none ∧ h' = h) oNo := by
  refine oCtr.enter (Ls := #[.val (.int (Int32.ofNat i)), .val (.int (Int32.ofNat j))]) (plainFor_of_name pn2) hG.2.1 (fun m => by first | (simp [entryFrame, mkF, argsToLocals, Value.category]; done) | rfl) ?_
  intro pP eE sS mM bB tT cC
  refine oGo.iload_n (pc' := 1) d37_0 rfl rfl ?_
  refine oGo.iload_n (pc' := 2) d37_1 rfl rfl ?_
  refine oGo.icmp_ge (pc1 := 5) (pc2 := 37) d37_2 rfl (by decide) (fun q1 => ?_) (fun q => absurd q (by rw [own_lt hj (by omega)]; omega))
  exact oGo.return_ d37_37 rfl (by decide) (by decide) ⟨rfl, rfl⟩ (fun _ q => q.elim)
abbrev q_cor (Z : State) (h : Heap) (vs : List Value) (i j : Nat) : Option Value → Heap → Prop := fun v h' => Keep h h' [] ∧ ∃ t : Nat, v = some (.ref t) ∧ h.size ≤ t ∧ oArr Z h' t .byte ((vs.drop i).take (j - i))
set_option maxRecDepth 65536 in
set_option maxHeartbeats 4000000 in
theorem c_corb {l : Launch} {Z : State} {a0 : Array Value} {EL : List (String × Nat)} (hG : oG a0 Z EL) (a : Nat) (vs : List Value) (i j : Nat) (hij : i ≤ j) (hj : j ≤ vs.length) (hN : j - i ≤ 30) (h : Heap) (A : oArr Z h a .byte vs) :
    oCtr [] l Z a0 EL True (⟨"java/util/Arrays", "copyOfRangeByte", "([BII)[B"⟩ : MethodName) jdk_65_method_133_code 5 (some (.array .byte)) ({ frames := 1, cells := 1, slots := 30, locals := 18 } : Room) #[.ref a, .int (Int32.ofNat i), .int (Int32.ofNat j)] [] h ((q_cor Z h vs i j)) oRet := by
  have hb31 : vs.length < 2147483648 := by obtain ⟨_, _, _, q, _⟩ := A; exact q
  have hal := own_ltN A.lt
  refine oCtr.enter (Ls := #[.val (.ref a), .val (.int (Int32.ofNat i)), .val (.int (Int32.ofNat j)), .unset, .unset]) (plainFor_of_name pn2) hG.2.1 (fun m => by first | (simp [entryFrame, mkF, argsToLocals, Value.category]; done) | rfl) ?_
  intro pP eE sS mM bB tT cC
  refine oGo.iload_n (pc' := 1) d36_0 rfl rfl ?_
  refine oGo.iload_n (pc' := 2) d36_1 rfl rfl ?_
  refine oGo.invokestatic (pc' := 5) (k' := 0) (n' := 0) (argsL := [.int (Int32.ofNat i), .int (Int32.ofNat j)]) (rest := []) d36_2 rfl (w203 hG) (w204 hG) (w160 hG) (w205 hG) (by decide) pd5 rfl rfl rfl (c_checkLength hG i j hij (by omega) h) (by simp) (by decide) (Nat.le_of_ble_eq_true rfl) rfl rfl (by decide) (by decide) ?_
  intro v1 h2 sh2 q3
  obtain ⟨rfl, ee⟩ := q3
  obtain rfl := ee.symm
  refine ⟨_, fun _ hx => Or.inl hx, ?_⟩
  show oGo l Z a0 EL True pP eE sS mM _ bB tT cC _ _ _ _ _ _ _ _ [] h 0 0 5 #[.val (.ref a), .val (.int (Int32.ofNat i)), .val (.int (Int32.ofNat j)), .unset, .unset] []
  refine oGo.iload_n (pc' := 6) d36_5 rfl rfl ?_
  refine oGo.iload_n (pc' := 7) d36_6 rfl rfl ?_
  refine oGo.isub (pc' := 8) d36_7 rfl ?_
  rw [own_subN hij (by omega)]
  refine oGo.istore_n (pc' := 9) (Ls' := #[.val (.ref a), .val (.int (Int32.ofNat i)), .val (.int (Int32.ofNat j)), .val (.int (Int32.ofNat (j - i))), .unset]) d36_8 rfl rfl ?_
  refine oGo.iload_n (pc' := 10) d36_9 rfl rfl ?_
  refine oGo.newarray (pc' := 12) (k' := 1) (n' := 30) (i := (j - i)) d36_10 rfl (w20 hG) rfl 30 (hN) (by decide) rfl rfl (by decide) (by decide) (by decide) ?_
  intro h4 a5 qa5 la5 E6 A7'
  have A7 : oArr Z h4 a5 .byte (List.replicate ((j - i)) (.int 0)) := A7'
  refine oGo.astore (pc' := 14) (Ls' := #[.val (.ref a), .val (.int (Int32.ofNat i)), .val (.int (Int32.ofNat j)), .val (.int (Int32.ofNat (j - i))), .val (.ref a5)]) d36_12 rfl rfl rfl ?_
  refine oGo.aload_n (pc' := 15) d36_14 rfl rfl rfl ?_
  refine oGo.iload_n (pc' := 16) d36_15 rfl rfl ?_
  refine oGo.aload (pc' := 18) d36_16 rfl rfl rfl ?_
  refine oGo.iconst (pc' := 19) (v := 0) d36_18 rfl (by decide) ?_
  refine oGo.aload_n (pc' := 20) d36_19 rfl rfl rfl ?_
  have f8 := oArr.ext E6 A
  refine oGo.arraylength (pc' := 21) (z := (Int32.ofNat vs.length)) d36_20 rfl f8 rfl ?_
  refine oGo.iload_n (pc' := 22) d36_21 rfl rfl ?_
  refine oGo.isub (pc' := 23) d36_22 rfl ?_
  rw [own_subN (i := i) (j := vs.length) (by omega) hb31]
  refine oGo.iload_n (pc' := 24) d36_23 rfl rfl ?_
  refine oGo.invokestatic (pc' := 27) (k' := 1) (n' := 30) (argsL := [.int (Int32.ofNat (vs.length - i)), .int (Int32.ofNat (j - i))]) (rest := [.int (0 : Int32), .ref a5, .int (Int32.ofNat i), .ref a]) d36_24 rfl (w162 hG) (w163 hG) (w154 hG) (w164 hG) (by decide) pd6 rfl rfl rfl (c_min hG (vs.length - i) (j - i) (by omega) (by omega) _) (by simp) (by decide) (Nat.le_of_ble_eq_true rfl) rfl rfl (by decide) (by decide) ?_
  intro v9 h10 sh10 q11
  obtain ⟨rfl, ee⟩ := q11
  obtain rfl := ee.symm
  refine ⟨_, fun _ hx => Or.inl hx, ?_⟩
  show oGo l Z a0 EL True pP eE sS mM _ bB tT cC _ _ _ _ _ _ _ _ [a5] h4 1 30 27 #[.val (.ref a), .val (.int (Int32.ofNat i)), .val (.int (Int32.ofNat j)), .val (.int (Int32.ofNat (j - i))), .val (.ref a5)] [.int (Int32.ofNat (min (vs.length - i) (j - i))), .int (0 : Int32), .ref a5, .int (Int32.ofNat i), .ref a]
  rw [Nat.min_eq_right (by omega : j - i ≤ vs.length - i)]
  refine oGo.arraycopy (pc' := 30) (i := i) (j := 0) (q := (j - i)) d36_27 rfl (w165 hG) (w141 hG) (w139 hG) (w140 hG) f8 A7 (by omega) (by simp) rfl (by decide) (Nat.le_of_ble_eq_true rfl) (by simp) ?_
  intro h12 K13 sh12 A14
  refine oGo.aload (pc' := 32) d36_30 rfl rfl rfl ?_
  exact oGo.areturn d36_32 rfl rfl rfl rfl (by decide) (by decide) ⟨((Keep.refl h []).ext E6).trans K13 (own_new1 (by omega)), a5, rfl, by omega, by simpa using A14⟩ (fun x q => by cases q; simp)
set_option maxRecDepth 65536 in
set_option maxHeartbeats 4000000 in
theorem c_cor {l : Launch} {Z : State} {a0 : Array Value} {EL : List (String × Nat)} (hG : oG a0 Z EL) (a : Nat) (vs : List Value) (i j : Nat) (hij : i ≤ j) (hj : j ≤ vs.length) (hN : j - i ≤ 30) (hne : ¬ (i = 0 ∧ j = vs.length)) (h : Heap) (A : oArr Z h a .byte vs) :
    oCtr [] l Z a0 EL True (⟨"java/util/Arrays", "copyOfRange", "([BII)[B"⟩ : MethodName) jdk_65_method_132_code 3 (some (.array .byte)) ({ frames := 2, cells := 1, slots := 30, locals := 34 } : Room) #[.ref a, .int (Int32.ofNat i), .int (Int32.ofNat j)] [] h ((q_cor Z h vs i j)) oRet := by
  have hb31 : vs.length < 2147483648 := by obtain ⟨_, _, _, q, _⟩ := A; exact q
  refine oCtr.enter (Ls := #[.val (.ref a), .val (.int (Int32.ofNat i)), .val (.int (Int32.ofNat j))]) (plainFor_of_name pn2) hG.2.1 (fun m => by first | (simp [entryFrame, mkF, argsToLocals, Value.category]; done) | rfl) ?_
  intro pP eE sS mM bB tT cC
  refine oGo.iload_n (pc' := 1) d35_0 rfl rfl ?_
  refine oGo.if_ne (pc1 := 4) (pc2 := 10) d35_1 rfl (by decide) (fun q => ?_) (fun q => ?_)
  · refine oGo.aload_n (pc' := 11) d35_10 rfl rfl rfl ?_
    refine oGo.iload_n (pc' := 12) d35_11 rfl rfl ?_
    refine oGo.iload_n (pc' := 13) d35_12 rfl rfl ?_
    refine oGo.invokestatic (pc' := 16) (k' := 1) (n' := 30) (argsL := [.ref a, .int (Int32.ofNat i), .int (Int32.ofNat j)]) (rest := []) d35_13 rfl (w200 hG) (w201 hG) (w160 hG) (w202 hG) (by decide) pd7 rfl rfl rfl (c_corb hG a vs i j hij hj hN h A) (by simp) (by decide) (Nat.le_of_ble_eq_true rfl) rfl rfl (by decide) (by decide) ?_
    intro v1 h2 sh2 q3
    obtain ⟨K2, t, rfl, ht, B⟩ := q3
    refine ⟨[t], own_D1 (rfl), ?_⟩
    show oGo l Z a0 EL True pP eE sS mM _ bB tT cC _ _ _ _ _ _ _ _ [t] h2 1 30 16 #[.val (.ref a), .val (.int (Int32.ofNat i)), .val (.int (Int32.ofNat j))] [.ref t]
    exact oGo.areturn d35_16 rfl rfl rfl rfl (by decide) (by decide) ⟨K2, t, rfl, ht, B⟩ (fun x q => by cases q; simp)
  · have hi0 : i = 0 := (own_eq (b := 0) (by omega) (by omega)).mp q
    refine oGo.iload_n (pc' := 5) d35_4 rfl rfl ?_
    refine oGo.aload_n (pc' := 6) d35_5 rfl rfl rfl ?_
    refine oGo.arraylength (pc' := 7) (z := (Int32.ofNat vs.length)) d35_6 rfl A rfl ?_
    refine oGo.icmp_eq (pc1 := 10) (pc2 := 17) d35_7 rfl (by decide) (fun q => absurd ⟨hi0, (own_eq (by omega) hb31).mp q⟩ hne) (fun q4 => ?_)
    refine oGo.aload_n (pc' := 11) d35_10 rfl rfl rfl ?_
    refine oGo.iload_n (pc' := 12) d35_11 rfl rfl ?_
    refine oGo.iload_n (pc' := 13) d35_12 rfl rfl ?_
    refine oGo.invokestatic (pc' := 16) (k' := 1) (n' := 30) (argsL := [.ref a, .int (Int32.ofNat i), .int (Int32.ofNat j)]) (rest := []) d35_13 rfl (w200 hG) (w201 hG) (w160 hG) (w202 hG) (by decide) pd7 rfl rfl rfl (c_corb hG a vs i j hij hj hN h A) (by simp) (by decide) (Nat.le_of_ble_eq_true rfl) rfl rfl (by decide) (by decide) ?_
    intro v5 h6 sh6 q7
    obtain ⟨K2, t, rfl, ht, B⟩ := q7
    refine ⟨[t], own_D1 (rfl), ?_⟩
    show oGo l Z a0 EL True pP eE sS mM _ bB tT cC _ _ _ _ _ _ _ _ [t] h6 1 30 16 #[.val (.ref a), .val (.int (Int32.ofNat i)), .val (.int (Int32.ofNat j))] [.ref t]
    exact oGo.areturn d35_16 rfl rfl rfl rfl (by decide) (by decide) ⟨K2, t, rfl, ht, B⟩ (fun x q => by cases q; simp)
abbrev q_copyOf (Z : State) (h : Heap) (vs : List Value) (q : Nat) : Option Value → Heap → Prop := fun v h' => Keep h h' [] ∧ ∃ t : Nat, v = some (.ref t) ∧ h.size ≤ t ∧ oArr Z h' t .byte (vs ++ List.replicate (q - vs.length) (.int 0))
set_option maxRecDepth 65536 in
set_option maxHeartbeats 4000000 in
theorem c_copyOf {l : Launch} {Z : State} {a0 : Array Value} {EL : List (String × Nat)} (hG : oG a0 Z EL) (a : Nat) (vs : List Value) (q : Nat) (hq : vs.length < q) (hN : q ≤ 34) (h : Heap) (A : oArr Z h a .byte vs) :
    oCtr [] l Z a0 EL True (⟨"java/util/Arrays", "copyOf", "([BI)[B"⟩ : MethodName) jdk_65_method_121_code 3 (some (.array .byte)) ({ frames := 1, cells := 1, slots := 34, locals := 18 } : Room) #[.ref a, .int (Int32.ofNat q)] [] h ((q_copyOf Z h vs q)) oRet := by
  have hal := own_ltN A.lt
  refine oCtr.enter (Ls := #[.val (.ref a), .val (.int (Int32.ofNat q)), .unset]) (plainFor_of_name pn2) hG.2.1 (fun m => by first | (simp [entryFrame, mkF, argsToLocals, Value.category]; done) | rfl) ?_
  intro pP eE sS mM bB tT cC
  refine oGo.iload_n (pc' := 1) d26_0 rfl rfl ?_
  refine oGo.aload_n (pc' := 2) d26_1 rfl rfl rfl ?_
  refine oGo.arraylength (pc' := 3) (z := (Int32.ofNat vs.length)) d26_2 rfl A rfl ?_
  refine oGo.icmp_ne (pc1 := 6) (pc2 := 14) d26_3 rfl (by decide) (fun q1 => ?_) (fun q => absurd ((own_eq (by omega) (by omega)).mp q) (by omega))
  refine oGo.iload_n (pc' := 15) d26_14 rfl rfl ?_
  refine oGo.newarray (pc' := 17) (k' := 1) (n' := 34) (i := q) d26_15 rfl (w20 hG) rfl 34 (hN) (by decide) rfl rfl (by decide) (by decide) (by decide) ?_
  intro h2 a3 qa3 la3 E4 A5'
  have A5 : oArr Z h2 a3 .byte (List.replicate (q) (.int 0)) := A5'
  refine oGo.astore_n (pc' := 18) (Ls' := #[.val (.ref a), .val (.int (Int32.ofNat q)), .val (.ref a3)]) d26_17 rfl rfl rfl ?_
  refine oGo.aload_n (pc' := 19) d26_18 rfl rfl rfl ?_
  refine oGo.iconst (pc' := 20) (v := 0) d26_19 rfl (by decide) ?_
  refine oGo.aload_n (pc' := 21) d26_20 rfl rfl rfl ?_
  refine oGo.iconst (pc' := 22) (v := 0) d26_21 rfl (by decide) ?_
  refine oGo.aload_n (pc' := 23) d26_22 rfl rfl rfl ?_
  have f6 := oArr.ext E4 A
  refine oGo.arraylength (pc' := 24) (z := (Int32.ofNat vs.length)) d26_23 rfl f6 rfl ?_
  refine oGo.iload_n (pc' := 25) d26_24 rfl rfl ?_
  refine oGo.invokestatic (pc' := 28) (k' := 1) (n' := 34) (argsL := [.int (Int32.ofNat vs.length), .int (Int32.ofNat q)]) (rest := [.int (0 : Int32), .ref a3, .int (0 : Int32), .ref a]) d26_25 rfl (w162 hG) (w163 hG) (w154 hG) (w164 hG) (by decide) pd6 rfl rfl rfl (c_min hG vs.length q (by omega) (by omega) _) (by simp) (by decide) (Nat.le_of_ble_eq_true rfl) rfl rfl (by decide) (by decide) ?_
  intro v7 h8 sh8 q9
  obtain ⟨rfl, ee⟩ := q9
  obtain rfl := ee.symm
  refine ⟨_, fun _ hx => Or.inl hx, ?_⟩
  show oGo l Z a0 EL True pP eE sS mM _ bB tT cC _ _ _ _ _ _ _ _ [a3] h2 1 34 28 #[.val (.ref a), .val (.int (Int32.ofNat q)), .val (.ref a3)] [.int (Int32.ofNat (min vs.length q)), .int (0 : Int32), .ref a3, .int (0 : Int32), .ref a]
  rw [Nat.min_eq_left (by omega : vs.length ≤ q)]
  refine oGo.arraycopy (pc' := 31) (i := 0) (j := 0) (q := vs.length) d26_28 rfl (w165 hG) (w141 hG) (w139 hG) (w140 hG) f6 A5 (by omega) (by simp; omega) rfl (by decide) (Nat.le_of_ble_eq_true rfl) (by simp) ?_
  intro h10 K11 sh10 A12
  refine oGo.aload_n (pc' := 32) d26_31 rfl rfl rfl ?_
  exact oGo.areturn d26_32 rfl rfl rfl rfl (by decide) (by decide) ⟨((Keep.refl h []).ext E4).trans K11 (own_new1 (by omega)), a3, rfl, by omega, by simpa using A12⟩ (fun x q => by cases q; simp)
abbrev q_sbInit (Z : State) (h : Heap) (sb : Nat) (cap : Nat) : Option Value → Heap → Prop := fun v h' => v = none ∧ Keep h h' [sb] ∧ ∃ b : Nat, h.size ≤ b ∧ oSB Z h' sb b [] cap
set_option maxRecDepth 65536 in
set_option maxHeartbeats 4000000 in
theorem c_asbInit {l : Launch} {Z : State} {a0 : Array Value} {EL : List (String × Nat)} (hG : oG a0 Z EL) (sb : Nat) (q : Nat) (hq : q ≤ 16) (u : Value) (h : Heap) (E : Exa Z h sb "java/lang/StringBuilder") (F1 : Fld Z h sb "java/lang/AbstractStringBuilder" "value" "[B" u) (F2 : Fld Z h sb "java/lang/AbstractStringBuilder" "coder" "B" (.int 0)) (F3 : Fld Z h sb "java/lang/AbstractStringBuilder" "count" "I" (.int 0)) :
    oCtr [] l Z a0 EL True (⟨"java/lang/AbstractStringBuilder", "<init>", "(I)V"⟩ : MethodName) jdk_68_method_2_code 2 none ({ frames := 1, cells := 1, slots := 16, locals := 12 } : Room) #[.ref sb, .int (Int32.ofNat q)] [sb] h ((q_sbInit Z h sb q)) (oBuf Z sb) := by
  obtain ⟨z, hzs, hz⟩ := sCOMPACT hG
  have hsl := own_ltN E.lt
  refine oCtr.enter (Ls := #[.val (.ref sb), .val (.int (Int32.ofNat q))]) (plainFor_of_name pn3) hG.2.1 (fun m => by first | (simp [entryFrame, mkF, argsToLocals, Value.category]; done) | rfl) ?_
  intro pP eE sS mM bB tT cC
  refine oGo.aload_n (pc' := 1) d14_0 rfl rfl rfl ?_
  refine oGo.objinit (pc' := 4) d14_1 rfl (w88 hG) (w17 hG) (w18 hG) rfl (by decide) (Nat.le_of_ble_eq_true rfl) ?_
  refine oGo.getstatic (pc' := 7) d14_4 rfl (w89 hG) Via.refl hzs ?_
  refine oGo.if_eq (pc1 := 10) (pc2 := 25) d14_7 rfl (by decide) (fun q => absurd q hz) (fun q1 => ?_)
  refine oGo.aload_n (pc' := 11) d14_10 rfl rfl rfl ?_
  refine oGo.iload_n (pc' := 12) d14_11 rfl rfl ?_
  refine oGo.newarray (pc' := 14) (k' := 1) (n' := 16) (i := q) d14_12 rfl (w20 hG) rfl 16 (hq) (by decide) rfl rfl (by decide) (by decide) (by decide) ?_
  intro h2 a3 qa3 la3 E4 A5'
  have A5 : oArr Z h2 a3 .byte (List.replicate (q) (.int 0)) := A5'
  have f6 := Fld.ext E4 F1
  have f7 := Exa.ext E4 E
  refine oGo.putfield (pc' := 17) (ty := (.array .byte)) d14_14 rfl (w90 hG) Via.refl f6 f7 (Or.inl (w91 hG)) (w77 hG) (by decide) rfl rfl (by simp) ?_
  intro h8 W9 sh8
  have f10 := Fld.same W9 f6
  refine oGo.aload_n (pc' := 18) d14_17 rfl rfl rfl ?_
  refine oGo.iconst (pc' := 19) (v := 0) d14_18 rfl (by decide) ?_
  have f11 := Fld.ext E4 F2
  have f12 := Fld.other W9 f11 (Or.inr (slot_ne (C := "java/lang/StringBuilder") (Or.inl (w93 hG)) (Or.inl (w91 hG)) (by decide) (t := .byte) (t' := (.array .byte)) (by decide) (by decide)))
  have f13 := Exa.wr W9 f7
  refine oGo.putfield (pc' := 22) (ty := .byte) d14_19 rfl (w92 hG) Via.refl f12 f13 (Or.inl (w93 hG)) (w77 hG) (by decide) (by decide) (by decide) (by simp) ?_
  intro h14 W15 sh14
  have f16 := Fld.same W15 f12
  refine oGo.goto (pc' := 38) d14_22 (by decide) ?_
  have f17 := Exa.wr W15 f13
  have f18 := Fld.other W15 f10 (Or.inr (slot_ne (C := "java/lang/StringBuilder") (Or.inl (w91 hG)) (Or.inl (w93 hG)) (by decide) (t := (.array .byte)) (t' := .byte) (by decide) (by decide)))
  have f19 := Fld.ext E4 F3
  have f20 := Fld.other W9 f19 (Or.inr (slot_ne (C := "java/lang/StringBuilder") (Or.inl (w116 hG)) (Or.inl (w91 hG)) (by decide) (t := .int) (t' := (.array .byte)) (by decide) (by decide)))
  have f21 := Fld.other W15 f20 (Or.inr (slot_ne (C := "java/lang/StringBuilder") (Or.inl (w116 hG)) (Or.inl (w93 hG)) (by decide) (t := .int) (t' := .byte) (by decide) (by decide)))
  have f22 := oArr.other W9 A5 (own_ne (by omega))
  have f23 := oArr.other W15 f22 (own_ne (by omega))
  exact oGo.return_ d14_38 rfl (by decide) (by decide) ⟨rfl, ((((Keep.refl h [sb]).ext E4).wr W9 (Or.inl (by simp))).wr W15 (Or.inl (by simp))), a3, by omega, f17, f18, f16, f21, _, f23, by simp, by simp, by simp⟩ (fun x q => by cases oFld_det f18 q; simp)
set_option maxRecDepth 65536 in
set_option maxHeartbeats 4000000 in
theorem c_sbInit {l : Launch} {Z : State} {a0 : Array Value} {EL : List (String × Nat)} (hG : oG a0 Z EL) (sb : Nat) (u : Value) (h : Heap) (E : Exa Z h sb "java/lang/StringBuilder") (F1 : Fld Z h sb "java/lang/AbstractStringBuilder" "value" "[B" u) (F2 : Fld Z h sb "java/lang/AbstractStringBuilder" "coder" "B" (.int 0)) (F3 : Fld Z h sb "java/lang/AbstractStringBuilder" "count" "I" (.int 0)) :
    oCtr [] l Z a0 EL True (⟨"java/lang/StringBuilder", "<init>", "()V"⟩ : MethodName) jdk_67_method_1_code 1 none ({ frames := 2, cells := 1, slots := 16, locals := 25 } : Room) #[.ref sb] [sb] h ((q_sbInit Z h sb 16)) (oBuf Z sb) := by
  refine oCtr.enter (Ls := #[.val (.ref sb)]) (plainFor_of_name pn4) hG.2.1 (fun m => by first | (simp [entryFrame, mkF, argsToLocals, Value.category]; done) | rfl) ?_
  intro pP eE sS mM bB tT cC
  refine oGo.aload_n (pc' := 1) d13_0 rfl rfl rfl ?_
  refine oGo.bipush (pc' := 3) (v := 16) d13_1 rfl (by decide) ?_
  refine oGo.invokespecial (pc' := 6) (k' := 1) (n' := 16) (a := sb) (argsL := [.int (16 : Int32)]) (rest := []) d13_3 rfl rfl (w82 hG) (w83 hG) (w86 hG) (w87 hG) (by decide) pd8 rfl rfl rfl (c_asbInit hG sb 16 (by decide) u h E F1 F2 F3) (by simp) (by decide) (Nat.le_of_ble_eq_true rfl) rfl rfl (by decide) (by decide) ?_
  intro v1 h2 sh2 q3
  obtain ⟨rfl, K2, b, hb, S2⟩ := q3
  refine ⟨[b, sb], own_D1 (S2.2.1), ?_⟩
  show oGo l Z a0 EL True pP eE sS mM _ bB tT cC _ _ _ _ _ _ _ _ [b, sb] h2 1 16 6 #[.val (.ref sb)] []
  exact oGo.return_ d13_6 rfl (by decide) (by decide) ⟨rfl, K2, b, hb, S2⟩ (fun x q => by cases oFld_det S2.2.1 q; simp)
set_option maxRecDepth 65536 in
set_option maxHeartbeats 4000000 in
theorem c_newLength {l : Launch} {Z : State} {a0 : Array Value} {EL : List (String × Nat)} (hG : oG a0 Z EL) (o g f : Nat) (ho : o < 100000) (hg : g < 100000) (hf : f < 100000) (h0 : 0 < g) (h : Heap)  :
    oCtr [] l Z a0 EL True (⟨"jdk/internal/util/ArraysSupport", "newLength", "(III)I"⟩ : MethodName) jdk_48_method_27_code 4 (some .int) ({ frames := 1, cells := 0, slots := 0, locals := 14 } : Room) #[.int (Int32.ofNat o), .int (Int32.ofNat g), .int (Int32.ofNat f)] [] h (fun v h' => v = some (.int (Int32.ofNat (o + max g f))) ∧ h' = h) oNo := by
  refine oCtr.enter (Ls := #[.val (.int (Int32.ofNat o)), .val (.int (Int32.ofNat g)), .val (.int (Int32.ofNat f)), .unset]) (plainFor_of_name pn5) hG.2.1 (fun m => by first | (simp [entryFrame, mkF, argsToLocals, Value.category]; done) | rfl) ?_
  intro pP eE sS mM bB tT cC
  refine oGo.iload_n (pc' := 1) d24_0 rfl rfl ?_
  refine oGo.iload_n (pc' := 2) d24_1 rfl rfl ?_
  refine oGo.iload_n (pc' := 3) d24_2 rfl rfl ?_
  refine oGo.invokestatic (pc' := 6) (k' := 0) (n' := 0) (argsL := [.int (Int32.ofNat g), .int (Int32.ofNat f)]) (rest := [.int (Int32.ofNat o)]) d24_3 rfl (w152 hG) (w153 hG) (w154 hG) (w155 hG) (by decide) pd6 rfl rfl rfl (c_max hG g f (by omega) (by omega) h) (by simp) (by decide) (Nat.le_of_ble_eq_true rfl) rfl rfl (by decide) (by decide) ?_
  intro v1 h2 sh2 q3
  obtain ⟨rfl, ee⟩ := q3
  obtain rfl := ee.symm
  refine ⟨_, fun _ hx => Or.inl hx, ?_⟩
  show oGo l Z a0 EL True pP eE sS mM _ bB tT cC _ _ _ _ _ _ _ _ [] h 0 0 6 #[.val (.int (Int32.ofNat o)), .val (.int (Int32.ofNat g)), .val (.int (Int32.ofNat f)), .unset] [.int (Int32.ofNat (max g f)), .int (Int32.ofNat o)]
  refine oGo.iadd (pc' := 7) d24_6 rfl ?_
  rw [← Int32.ofNat_add]
  refine oGo.istore_n (pc' := 8) (Ls' := #[.val (.int (Int32.ofNat o)), .val (.int (Int32.ofNat g)), .val (.int (Int32.ofNat f)), .val (.int (Int32.ofNat (o + max g f)))]) d24_7 rfl rfl ?_
  refine oGo.iconst (pc' := 9) (v := 0) d24_8 rfl (by decide) ?_
  refine oGo.iload_n (pc' := 10) d24_9 rfl rfl ?_
  refine oGo.icmp_ge (pc1 := 13) (pc2 := 21) d24_10 rfl (by decide) (fun q => absurd ((own_lt (a := 0) (by omega) (by omega)).mpr (by omega)) q) (fun q4 => ?_)
  refine oGo.iload_n (pc' := 14) d24_13 rfl rfl ?_
  refine oGo.ldc_int (pc' := 16) d24_14 rfl (w156 hG) ?_
  refine oGo.icmp_gt (pc1 := 19) (pc2 := 21) d24_16 rfl (by decide) (fun q => absurd q (by rw [show (2147483639 : Int32) = Int32.ofNat 2147483639 from rfl, own_lt (by omega) (by omega)]; omega)) (fun q5 => ?_)
  refine oGo.iload_n (pc' := 20) d24_19 rfl rfl ?_
  exact oGo.ireturn d24_20 rfl (by decide) (by decide) ⟨rfl, rfl⟩ (fun _ q => q.elim)
set_option maxRecDepth 65536 in
set_option maxHeartbeats 4000000 in
theorem c_newCapacity {l : Launch} {Z : State} {a0 : Array Value} {EL : List (String × Nat)} (hG : oG a0 Z EL) (sb b : Nat) (cs : List Int32) (cap q : Nat) (hc : cap < 10000) (hq : q < 10000) (hlt : cap < q) (h : Heap) (SB : oSB Z h sb b cs cap) :
    oCtr [] l Z a0 EL True (⟨"java/lang/AbstractStringBuilder", "newCapacity", "(I)I"⟩ : MethodName) jdk_68_method_10_code 6 (some .int) ({ frames := 2, cells := 0, slots := 0, locals := 29 } : Room) #[.ref sb, .int (Int32.ofNat q)] [] h (fun v h' => v = some (.int (Int32.ofNat (capF cap q))) ∧ h' = h) oNo := by
  refine oCtr.enter (Ls := #[.val (.ref sb), .val (.int (Int32.ofNat q)), .unset, .unset, .unset, .unset]) (plainFor_of_name pn3) hG.2.1 (fun m => by first | (simp [entryFrame, mkF, argsToLocals, Value.category]; done) | rfl) ?_
  intro pP eE sS mM bB tT cC
  obtain ⟨E, F1, F2, F3, vs, B, hcap, hvs, hle⟩ := SB
  have hsl := own_ltN E.lt
  have hbl := own_ltN B.lt
  refine oGo.aload_n (pc' := 1) d23_0 rfl rfl rfl ?_
  refine oGo.getfield (pc' := 4) d23_1 rfl (w90 hG) Via.refl F1 ?_
  refine oGo.arraylength (pc' := 5) (z := (Int32.ofNat cap)) d23_4 rfl B (by rw [hcap]) ?_
  refine oGo.istore_n (pc' := 6) (Ls' := #[.val (.ref sb), .val (.int (Int32.ofNat q)), .val (.int (Int32.ofNat cap)), .unset, .unset, .unset]) d23_5 rfl rfl ?_
  refine oGo.iload_n (pc' := 7) d23_6 rfl rfl ?_
  refine oGo.aload_n (pc' := 8) d23_7 rfl rfl rfl ?_
  refine oGo.getfield (pc' := 11) d23_8 rfl (w92 hG) Via.refl F2 ?_
  refine oGo.ishl (pc' := 12) d23_11 rfl ?_
  rw [shl0]
  refine oGo.istore_n (pc' := 13) (Ls' := #[.val (.ref sb), .val (.int (Int32.ofNat q)), .val (.int (Int32.ofNat cap)), .val (.int (Int32.ofNat q)), .unset, .unset]) d23_12 rfl rfl ?_
  refine oGo.iload_n (pc' := 14) d23_13 rfl rfl ?_
  refine oGo.iload_n (pc' := 15) d23_14 rfl rfl ?_
  refine oGo.isub (pc' := 16) d23_15 rfl ?_
  rw [own_subN (by omega : cap ≤ q) (by omega)]
  refine oGo.istore (pc' := 18) (Ls' := #[.val (.ref sb), .val (.int (Int32.ofNat q)), .val (.int (Int32.ofNat cap)), .val (.int (Int32.ofNat q)), .val (.int (Int32.ofNat (q - cap))), .unset]) d23_16 rfl rfl ?_
  refine oGo.iload_n (pc' := 19) d23_18 rfl rfl ?_
  refine oGo.iload (pc' := 21) d23_19 rfl rfl ?_
  refine oGo.iload_n (pc' := 22) d23_21 rfl rfl ?_
  refine oGo.iconst (pc' := 23) (v := 2) d23_22 rfl (by decide) ?_
  refine oGo.aload_n (pc' := 24) d23_23 rfl rfl rfl ?_
  refine oGo.getfield (pc' := 27) d23_24 rfl (w92 hG) Via.refl F2 ?_
  refine oGo.ishl (pc' := 28) d23_27 rfl ?_
  rw [shl0]
  refine oGo.iadd (pc' := 29) d23_28 rfl ?_
  rw [own_add2]
  refine oGo.invokestatic (pc' := 32) (k' := 0) (n' := 0) (argsL := [.int (Int32.ofNat cap), .int (Int32.ofNat (q - cap)), .int (Int32.ofNat (cap + 2))]) (rest := []) d23_29 rfl (w148 hG) (w149 hG) (w150 hG) (w151 hG) (by decide) pd9 rfl rfl rfl (c_newLength hG cap (q - cap) (cap + 2) (by omega) (by omega) (by omega) (by omega) h) (by simp) (by decide) (Nat.le_of_ble_eq_true rfl) rfl rfl (by decide) (by decide) ?_
  intro v1 h2 sh2 q3
  obtain ⟨rfl, ee⟩ := q3
  obtain rfl := ee.symm
  refine ⟨_, fun _ hx => Or.inl hx, ?_⟩
  show oGo l Z a0 EL True pP eE sS mM _ bB tT cC _ _ _ _ _ _ _ _ [] h 0 0 32 #[.val (.ref sb), .val (.int (Int32.ofNat q)), .val (.int (Int32.ofNat cap)), .val (.int (Int32.ofNat q)), .val (.int (Int32.ofNat (q - cap))), .unset] [.int (Int32.ofNat (cap + max (q - cap) (cap + 2)))]
  refine oGo.istore (pc' := 34) (Ls' := #[.val (.ref sb), .val (.int (Int32.ofNat q)), .val (.int (Int32.ofNat cap)), .val (.int (Int32.ofNat q)), .val (.int (Int32.ofNat (q - cap))), .val (.int (Int32.ofNat (cap + max (q - cap) (cap + 2))))]) d23_32 rfl rfl ?_
  refine oGo.iload (pc' := 36) d23_34 rfl rfl ?_
  refine oGo.ldc_int (pc' := 38) d23_36 rfl (w157 hG) ?_
  refine oGo.icmp_ne (pc1 := 41) (pc2 := 51) d23_38 rfl (by decide) (fun q4 => ?_) (fun q => absurd q (by rw [show (2147483647 : Int32) = Int32.ofNat 2147483647 from rfl, own_eq (by omega) (by omega)]; omega))
  refine oGo.iload (pc' := 53) d23_51 rfl rfl ?_
  refine oGo.aload_n (pc' := 54) d23_53 rfl rfl rfl ?_
  refine oGo.getfield (pc' := 57) d23_54 rfl (w92 hG) Via.refl F2 ?_
  refine oGo.ishr (pc' := 58) d23_57 rfl ?_
  exact oGo.ireturn d23_58 rfl (by decide) (by decide) ⟨by rw [shr0, capF, if_neg (by omega), show cap + max (q - cap) (cap + 2) = max q (2 * cap + 2) by omega], rfl⟩ (fun _ q => q.elim)
abbrev q_ensure (Z : State) (h : Heap) (sb b : Nat) (cs : List Int32) (cap q : Nat) : Option Value → Heap → Prop := fun v h' => v = none ∧ Keep h h' [sb] ∧ ∃ b' : Nat, (b' = b ∨ h.size ≤ b') ∧ oSB Z h' sb b' cs (capF cap q)
set_option maxRecDepth 65536 in
set_option maxHeartbeats 4000000 in
theorem c_ensure {l : Launch} {Z : State} {a0 : Array Value} {EL : List (String × Nat)} (hG : oG a0 Z EL) (sb b : Nat) (cs : List Int32) (cap q : Nat) (hM : capF cap q ≤ 34) (hc : cap < 10000) (hq : q < 10000) (h : Heap) (SB : oSB Z h sb b cs cap) :
    oCtr [] l Z a0 EL True (⟨"java/lang/AbstractStringBuilder", "ensureCapacityInternal", "(I)V"⟩ : MethodName) jdk_68_method_9_code 3 none ({ frames := 3, cells := 1, slots := 34, locals := 48 } : Room) #[.ref sb, .int (Int32.ofNat q)] [sb, b] h ((q_ensure Z h sb b cs cap q)) (oBuf Z sb) := by
  refine oCtr.enter (Ls := #[.val (.ref sb), .val (.int (Int32.ofNat q)), .unset]) (plainFor_of_name pn3) hG.2.1 (fun m => by first | (simp [entryFrame, mkF, argsToLocals, Value.category]; done) | rfl) ?_
  intro pP eE sS mM bB tT cC
  have SB0 := SB
  obtain ⟨E, F1, F2, F3, vs, B, hcap, hvs, hle⟩ := SB
  have hsl := own_ltN E.lt
  have hbl := own_ltN B.lt
  refine oGo.aload_n (pc' := 1) d19_0 rfl rfl rfl ?_
  refine oGo.getfield (pc' := 4) d19_1 rfl (w90 hG) Via.refl F1 ?_
  refine oGo.arraylength (pc' := 5) (z := (Int32.ofNat cap)) d19_4 rfl B (by rw [hcap]) ?_
  refine oGo.aload_n (pc' := 6) d19_5 rfl rfl rfl ?_
  refine oGo.getfield (pc' := 9) d19_6 rfl (w92 hG) Via.refl F2 ?_
  refine oGo.ishr (pc' := 10) d19_9 rfl ?_
  rw [shr0]
  refine oGo.istore_n (pc' := 11) (Ls' := #[.val (.ref sb), .val (.int (Int32.ofNat q)), .val (.int (Int32.ofNat cap))]) d19_10 rfl rfl ?_
  refine oGo.iload_n (pc' := 12) d19_11 rfl rfl ?_
  refine oGo.iload_n (pc' := 13) d19_12 rfl rfl ?_
  refine oGo.isub (pc' := 14) d19_13 rfl ?_
  have hsu := own_subI (i := cap) (j := q) (by omega) (by omega)
  refine oGo.if_le (pc1 := 17) (pc2 := 38) d19_14 rfl (by decide) (fun q1 => ?_) (fun q1 => ?_)
  · have hle2 : q ≤ cap := by rw [Int32.lt_iff_toInt_lt] at q1; have e0 : (0 : Int32).toInt = 0 := rfl; omega
    exact oGo.return_ d19_38 rfl (by decide) (by decide) ⟨rfl, Keep.refl _ _, b, Or.inl rfl, by rw [capF, if_pos hle2]; exact SB0⟩ (fun x q => by cases oFld_det F1 q; simp)
  · have hlt2 : cap < q := by rw [Int32.lt_iff_toInt_lt] at q1; have e0 : (0 : Int32).toInt = 0 := rfl; omega
    refine oGo.aload_n (pc' := 18) d19_17 rfl rfl rfl ?_
    refine oGo.aload_n (pc' := 19) d19_18 rfl rfl rfl ?_
    refine oGo.getfield (pc' := 22) d19_19 rfl (w90 hG) Via.refl F1 ?_
    refine oGo.aload_n (pc' := 23) d19_22 rfl rfl rfl ?_
    refine oGo.iload_n (pc' := 24) d19_23 rfl rfl ?_
    refine oGo.invokeprivate (pc' := 27) (k' := 0) (n' := 0) (a := sb) (argsL := [.int (Int32.ofNat q)]) (rest := [.ref b, .ref sb]) d19_24 rfl (w143 hG) (w145 hG) (w146 hG) (w144 hG) (w86 hG) (w147 hG) (by decide) pd10 rfl rfl rfl E (c_newCapacity hG sb b cs cap q hc hq hlt2 h SB0) (by simp) (by decide) (Nat.le_of_ble_eq_true rfl) rfl rfl (by decide) (by decide) ?_
    intro v1 h2 sh2 q3
    obtain ⟨rfl, ee⟩ := q3
    obtain rfl := ee.symm
    refine ⟨_, fun _ hx => Or.inl hx, ?_⟩
    show oGo l Z a0 EL True pP eE sS mM _ bB tT cC _ _ _ _ _ _ _ _ [sb, b] h 0 0 27 #[.val (.ref sb), .val (.int (Int32.ofNat q)), .val (.int (Int32.ofNat cap))] [.int (Int32.ofNat (capF cap q)), .ref b, .ref sb]
    refine oGo.aload_n (pc' := 28) d19_27 rfl rfl rfl ?_
    refine oGo.getfield (pc' := 31) d19_28 rfl (w92 hG) Via.refl F2 ?_
    refine oGo.ishl (pc' := 32) d19_31 rfl ?_
    rw [shl0]
    have hcl : cap < capF cap q := by rw [capF, if_neg (by omega)]; omega
    refine oGo.invokestatic (pc' := 35) (k' := 1) (n' := 34) (argsL := [.ref b, .int (Int32.ofNat (capF cap q))]) (rest := [.ref sb]) d19_32 rfl (w158 hG) (w159 hG) (w160 hG) (w161 hG) (by decide) pd11 rfl rfl rfl (c_copyOf hG b vs (capF cap q) (by omega) hM h B) (by simp) (by decide) (Nat.le_of_ble_eq_true rfl) rfl rfl (by decide) (by decide) ?_
    intro v4 h5 sh5 q6
    obtain ⟨K2, t, rfl, ht, B2⟩ := q6
    refine ⟨[t, sb, b], own_D1 (rfl), ?_⟩
    show oGo l Z a0 EL True pP eE sS mM _ bB tT cC _ _ _ _ _ _ _ _ [t, sb, b] h5 1 34 35 #[.val (.ref sb), .val (.int (Int32.ofNat q)), .val (.int (Int32.ofNat cap))] [.ref t, .ref sb]
    have f7 := Fld.keep F1 K2 nin0
    have f8 := Exa.keep E K2
    refine oGo.putfield (pc' := 38) (ty := (.array .byte)) d19_35 rfl (w90 hG) Via.refl f7 f8 (Or.inl (w91 hG)) (w77 hG) (by decide) rfl rfl (by simp) ?_
    intro h9 W10 sh9
    have f11 := Fld.same W10 f7
    have f12 := Exa.wr W10 f8
    have f13 := Fld.keep F2 K2 nin0
    have f14 := Fld.other W10 f13 (Or.inr (slot_ne (C := "java/lang/StringBuilder") (Or.inl (w93 hG)) (Or.inl (w91 hG)) (by decide) (t := .byte) (t' := (.array .byte)) (by decide) (by decide)))
    have f15 := Fld.keep F3 K2 nin0
    have f16 := Fld.other W10 f15 (Or.inr (slot_ne (C := "java/lang/StringBuilder") (Or.inl (w116 hG)) (Or.inl (w91 hG)) (by decide) (t := .int) (t' := (.array .byte)) (by decide) (by decide)))
    have f17 := oArr.other W10 B2 (own_ne (by omega))
    exact oGo.return_ d19_38 rfl (by decide) (by decide) ⟨rfl, ((Keep.refl h [sb]).trans K2 (by simp)).wr W10 (Or.inl (by simp)), t, Or.inr ht, f12, f11, f14, f16, _, f17, by simp; omega, by rw [List.take_append_of_le_length (by omega)]; exact hvs, by omega⟩ (fun x q => by cases oFld_det f11 q; simp)
set_option maxRecDepth 65536 in
set_option maxHeartbeats 4000000 in
theorem c_inflate {l : Launch} {Z : State} {a0 : Array Value} {EL : List (String × Nat)} (hG : oG a0 Z EL) (sb x t : Nat) (ds : List Int32) (h : Heap) (F2 : Fld Z h sb "java/lang/AbstractStringBuilder" "coder" "B" (.int 0)) (Sx : oS Z h x t ds) :
    oCtr [] l Z a0 EL True (⟨"java/lang/AbstractStringBuilder", "inflateIfNeededFor", "(Ljava/lang/String;)V"⟩ : MethodName) jdk_68_method_71_code 2 none ({ frames := 1, cells := 0, slots := 0, locals := 13 } : Room) #[.ref sb, .ref x] [] h (fun v h' => v = none ∧ h' = h) oNo := by
  obtain ⟨z, hzs, hz⟩ := sCOMPACT hG
  refine oCtr.enter (Ls := #[.val (.ref sb), .val (.ref x)]) (plainFor_of_name pn3) hG.2.1 (fun m => by first | (simp [entryFrame, mkF, argsToLocals, Value.category]; done) | rfl) ?_
  intro pP eE sS mM bB tT cC
  refine oGo.getstatic (pc' := 3) d21_0 rfl (w89 hG) Via.refl hzs ?_
  refine oGo.if_eq (pc1 := 6) (pc2 := 21) d21_3 rfl (by decide) (fun q => absurd q hz) (fun q1 => ?_)
  refine oGo.aload_n (pc' := 7) d21_6 rfl rfl rfl ?_
  refine oGo.getfield (pc' := 10) d21_7 rfl (w92 hG) Via.refl F2 ?_
  refine oGo.aload_n (pc' := 11) d21_10 rfl rfl rfl ?_
  refine oGo.invokevirtual (pc' := 14) (k' := 0) (n' := 0) (a := x) (argsL := []) (rest := [.int (0 : Int32)]) d21_11 rfl (w132 hG) (w111 hG) (w113 hG) (w113 hG) rfl (w112 hG) (w7 hG) (w114 hG) (by decide) pd4 rfl rfl rfl Sx.1 (c_coder hG x 0 (Or.inl rfl) h Sx.2.2.1) (by simp) (by decide) (Nat.le_of_ble_eq_true rfl) rfl rfl (by decide) (by decide) ?_
  intro v2 h3 sh3 q4
  obtain ⟨rfl, ee⟩ := q4
  obtain rfl := ee.symm
  refine ⟨_, fun _ hx => Or.inl hx, ?_⟩
  show oGo l Z a0 EL True pP eE sS mM _ bB tT cC _ _ _ _ _ _ _ _ [] h 0 0 14 #[.val (.ref sb), .val (.ref x)] [.int (0 : Int32), .int (0 : Int32)]
  refine oGo.icmp_eq (pc1 := 17) (pc2 := 21) d21_14 rfl (by decide) (fun q5 => ?_) (fun q => absurd rfl q)
  exact oGo.return_ d21_21 rfl (by decide) (by decide) ⟨rfl, rfl⟩ (fun _ q => q.elim)
set_option maxRecDepth 65536 in
set_option maxHeartbeats 4000000 in
theorem c_getBytes {l : Launch} {Z : State} {a0 : Array Value} {EL : List (String × Nat)} (hG : oG a0 Z EL) (x t b : Nat) (ds : List Int32) (ws : List Value) (i : Nat) (hi : i + ds.length ≤ ws.length) (hne : t ≠ b) (h : Heap) (B : oArr Z h b .byte ws) (Sx : oS Z h x t ds) :
    oCtr [] l Z a0 EL True (⟨"java/lang/String", "getBytes", "([BIB)V"⟩ : MethodName) jdk_42_method_147_code 4 none ({ frames := 1, cells := 0, slots := 0, locals := 18 } : Room) #[.ref x, .ref b, .int (Int32.ofNat i), .int (0 : Int32)] [b] h (fun v h' => v = none ∧ Keep h h' [b] ∧ oArr Z h' b .byte (ws.take i ++ oI (ds.map lo8) ++ ws.drop (i + ds.length))) oNo := by
  refine oCtr.enter (Ls := #[.val (.ref x), .val (.ref b), .val (.int (Int32.ofNat i)), .val (.int (0 : Int32))]) (plainFor_of_name pn1) hG.2.1 (fun m => by first | (simp [entryFrame, mkF, argsToLocals, Value.category]; done) | rfl) ?_
  intro pP eE sS mM bB tT cC
  refine oGo.aload_n (pc' := 1) d22_0 rfl rfl rfl ?_
  refine oGo.invokevirtual (pc' := 4) (k' := 0) (n' := 0) (a := x) (argsL := []) (rest := []) d22_1 rfl (w110 hG) (w111 hG) (w113 hG) (w113 hG) rfl (w112 hG) (w7 hG) (w114 hG) (by decide) pd4 rfl rfl rfl Sx.1 (c_coder hG x 0 (Or.inl rfl) h Sx.2.2.1) (by simp) (by decide) (Nat.le_of_ble_eq_true rfl) rfl rfl (by decide) (by decide) ?_
  intro v1 h2 sh2 q3
  obtain ⟨rfl, ee⟩ := q3
  obtain rfl := ee.symm
  refine ⟨_, fun _ hx => Or.inl hx, ?_⟩
  show oGo l Z a0 EL True pP eE sS mM _ bB tT cC _ _ _ _ _ _ _ _ [b] h 0 0 4 #[.val (.ref x), .val (.ref b), .val (.int (Int32.ofNat i)), .val (.int (0 : Int32))] [.int (0 : Int32)]
  refine oGo.iload_n (pc' := 5) d22_4 rfl rfl ?_
  refine oGo.icmp_ne (pc1 := 8) (pc2 := 28) d22_5 rfl (by decide) (fun q => absurd rfl q) (fun q4 => ?_)
  refine oGo.aload_n (pc' := 9) d22_8 rfl rfl rfl ?_
  refine oGo.getfield (pc' := 12) d22_9 rfl (w25 hG) Via.refl Sx.2.1 ?_
  refine oGo.iconst (pc' := 13) (v := 0) d22_12 rfl (by decide) ?_
  refine oGo.aload_n (pc' := 14) d22_13 rfl rfl rfl ?_
  refine oGo.iload_n (pc' := 15) d22_14 rfl rfl ?_
  refine oGo.iload_n (pc' := 16) d22_15 rfl rfl ?_
  refine oGo.ishl (pc' := 17) d22_16 rfl ?_
  rw [shl0]
  refine oGo.aload_n (pc' := 18) d22_17 rfl rfl rfl ?_
  refine oGo.getfield (pc' := 21) d22_18 rfl (w25 hG) Via.refl Sx.2.1 ?_
  refine oGo.arraylength (pc' := 22) (z := (Int32.ofNat ds.length)) d22_21 rfl Sx.2.2.2.1 (by rw [List.length_map, List.length_map]) ?_
  refine oGo.arraycopy (pc' := 25) (i := 0) (j := i) (q := ds.length) d22_22 rfl (w138 hG) (w141 hG) (w139 hG) (w140 hG) Sx.2.2.2.1 B (by simp) (hi) rfl (by decide) (Nat.le_of_ble_eq_true rfl) (by simp) ?_
  intro h5 K6 sh5 A7
  rw [show ((oI (ds.map lo8)).drop 0).take ds.length = oI (ds.map lo8) from by rw [List.drop_zero]; exact List.take_of_length_le (by simp)] at A7
  refine oGo.goto (pc' := 43) d22_25 (by decide) ?_
  exact oGo.return_ d22_43 rfl (by decide) (by decide) ⟨rfl, K6, A7⟩ (fun _ q => q.elim)
set_option maxRecDepth 65536 in
set_option maxHeartbeats 4000000 in
theorem c_putStr {l : Launch} {Z : State} {a0 : Array Value} {EL : List (String × Nat)} (hG : oG a0 Z EL) (sb x t b : Nat) (ds : List Int32) (ws : List Value) (i : Nat) (hi : i + ds.length ≤ ws.length) (hne : t ≠ b) (h : Heap) (E : Exa Z h sb "java/lang/StringBuilder") (F1 : Fld Z h sb "java/lang/AbstractStringBuilder" "value" "[B" (.ref b)) (F2 : Fld Z h sb "java/lang/AbstractStringBuilder" "coder" "B" (.int 0)) (B : oArr Z h b .byte ws) (Sx : oS Z h x t ds) :
    oCtr [] l Z a0 EL True (⟨"java/lang/AbstractStringBuilder", "putStringAt", "(ILjava/lang/String;)V"⟩ : MethodName) jdk_68_method_73_code 3 none ({ frames := 2, cells := 0, slots := 0, locals := 33 } : Room) #[.ref sb, .int (Int32.ofNat i), .ref x] [b] h (fun v h' => v = none ∧ Keep h h' [b] ∧ oArr Z h' b .byte (ws.take i ++ oI (ds.map lo8) ++ ws.drop (i + ds.length))) oNo := by
  refine oCtr.enter (Ls := #[.val (.ref sb), .val (.int (Int32.ofNat i)), .val (.ref x)]) (plainFor_of_name pn3) hG.2.1 (fun m => by first | (simp [entryFrame, mkF, argsToLocals, Value.category]; done) | rfl) ?_
  intro pP eE sS mM bB tT cC
  refine oGo.aload_n (pc' := 1) d20_0 rfl rfl rfl ?_
  refine oGo.aload_n (pc' := 2) d20_1 rfl rfl rfl ?_
  refine oGo.invokeprivate (pc' := 5) (k' := 0) (n' := 0) (a := sb) (argsL := [.ref x]) (rest := []) d20_2 rfl (w127 hG) (w129 hG) (w130 hG) (w128 hG) (w86 hG) (w131 hG) (by decide) pd12 rfl rfl rfl E (c_inflate hG sb x t ds h F2 Sx) (by simp) (by decide) (Nat.le_of_ble_eq_true rfl) rfl rfl (by decide) (by decide) ?_
  intro v1 h2 sh2 q3
  obtain ⟨rfl, ee⟩ := q3
  obtain rfl := ee.symm
  refine ⟨_, fun _ hx => Or.inl hx, ?_⟩
  show oGo l Z a0 EL True pP eE sS mM _ bB tT cC _ _ _ _ _ _ _ _ [b] h 0 0 5 #[.val (.ref sb), .val (.int (Int32.ofNat i)), .val (.ref x)] []
  refine oGo.aload_n (pc' := 6) d20_5 rfl rfl rfl ?_
  refine oGo.aload_n (pc' := 7) d20_6 rfl rfl rfl ?_
  refine oGo.getfield (pc' := 10) d20_7 rfl (w90 hG) Via.refl F1 ?_
  refine oGo.iload_n (pc' := 11) d20_10 rfl rfl ?_
  refine oGo.aload_n (pc' := 12) d20_11 rfl rfl rfl ?_
  refine oGo.getfield (pc' := 15) d20_12 rfl (w92 hG) Via.refl F2 ?_
  refine oGo.invokevirtual (pc' := 18) (k' := 0) (n' := 0) (a := x) (argsL := [.ref b, .int (Int32.ofNat i), .int (0 : Int32)]) (rest := []) d20_15 rfl (w133 hG) (w134 hG) (w136 hG) (w136 hG) rfl (w135 hG) (w7 hG) (w137 hG) (by decide) pd13 rfl rfl rfl Sx.1 (c_getBytes hG x t b ds ws i hi hne h B Sx) (by simp) (by decide) (Nat.le_of_ble_eq_true rfl) rfl rfl (by decide) (by decide) ?_
  intro v4 h5 sh5 q6
  obtain ⟨rfl, K2, B2⟩ := q6
  refine ⟨_, fun _ hx => Or.inl hx, ?_⟩
  show oGo l Z a0 EL True pP eE sS mM _ bB tT cC _ _ _ _ _ _ _ _ [b] h5 0 0 18 #[.val (.ref sb), .val (.int (Int32.ofNat i)), .val (.ref x)] []
  exact oGo.return_ d20_18 rfl (by decide) (by decide) ⟨rfl, K2, B2⟩ (fun _ q => q.elim)
abbrev q_append (Z : State) (h : Heap) (sb b : Nat) (cs ds : List Int32) (cap : Nat) : Option Value → Heap → Prop := fun v h' => v = some (.ref sb) ∧ Keep h h' [sb, b] ∧ ∃ b' : Nat, (b' = b ∨ h.size ≤ b') ∧ oSB Z h' sb b' (cs ++ ds) (capF cap (cs.length + ds.length))
set_option maxRecDepth 65536 in
set_option maxHeartbeats 4000000 in
theorem c_asbAppend {l : Launch} {Z : State} {a0 : Array Value} {EL : List (String × Nat)} (hG : oG a0 Z EL) (sb b x t : Nat) (cs ds : List Int32) (cap : Nat) (hM : capF cap (cs.length + ds.length) ≤ 34) (hc : cap < 5000) (hl : ds.length < 5000) (hne : x ≠ sb ∧ x ≠ b ∧ t ≠ sb ∧ t ≠ b) (h : Heap) (SB : oSB Z h sb b cs cap) (Sx : oS Z h x t ds) :
    oCtr [] l Z a0 EL True (⟨"java/lang/AbstractStringBuilder", "append", "(Ljava/lang/String;)Ljava/lang/AbstractStringBuilder;"⟩ : MethodName) jdk_68_method_22_code 3 (some (.object "java/lang/AbstractStringBuilder")) ({ frames := 4, cells := 1, slots := 34, locals := 62 } : Room) #[.ref sb, .ref x] [sb, b] h ((q_append Z h sb b cs ds cap)) (oBuf Z sb) := by
  refine oCtr.enter (Ls := #[.val (.ref sb), .val (.ref x), .unset]) (plainFor_of_name pn3) hG.2.1 (fun m => by first | (simp [entryFrame, mkF, argsToLocals, Value.category]; done) | rfl) ?_
  intro pP eE sS mM bB tT cC
  have SB0 := SB
  have hxl := own_ltN Sx.1.lt
  have htl := own_ltN Sx.2.2.2.1.lt
  obtain ⟨E, F1, F2, F3, vs, B, hcap, hvs, hle⟩ := SB
  have hsl := own_ltN E.lt
  have hbl := own_ltN B.lt
  refine oGo.aload_n (pc' := 1) d16_0 rfl rfl rfl ?_
  refine oGo.ifnonnull_y (pc2 := 9) d16_1 (by decide) ?_
  refine oGo.aload_n (pc' := 10) d16_9 rfl rfl rfl ?_
  refine oGo.invokevirtual (pc' := 13) (k' := 0) (n' := 0) (a := x) (argsL := []) (rest := []) d16_10 rfl (w105 hG) (w106 hG) (w108 hG) (w108 hG) rfl (w107 hG) (w7 hG) (w109 hG) (by decide) pd14 rfl rfl rfl Sx.1 (c_length hG x t ds h Sx) (by simp) (by decide) (Nat.le_of_ble_eq_true rfl) rfl rfl (by decide) (by decide) ?_
  intro v1 h2 sh2 q3
  obtain ⟨rfl, ee⟩ := q3
  obtain rfl := ee.symm
  refine ⟨_, fun _ hx => Or.inl hx, ?_⟩
  show oGo l Z a0 EL True pP eE sS mM _ bB tT cC _ _ _ _ _ _ _ _ [sb, b] h 0 0 13 #[.val (.ref sb), .val (.ref x), .unset] [.int (Int32.ofNat ds.length)]
  refine oGo.istore_n (pc' := 14) (Ls' := #[.val (.ref sb), .val (.ref x), .val (.int (Int32.ofNat ds.length))]) d16_13 rfl rfl ?_
  refine oGo.aload_n (pc' := 15) d16_14 rfl rfl rfl ?_
  refine oGo.aload_n (pc' := 16) d16_15 rfl rfl rfl ?_
  refine oGo.getfield (pc' := 19) d16_16 rfl (w115 hG) Via.refl F3 ?_
  refine oGo.iload_n (pc' := 20) d16_19 rfl rfl ?_
  refine oGo.iadd (pc' := 21) d16_20 rfl ?_
  rw [← Int32.ofNat_add]
  have hcF : cs.length + ds.length ≤ capF cap (cs.length + ds.length) := by unfold capF; split <;> omega
  refine oGo.invokeprivate (pc' := 24) (k' := 1) (n' := 34) (a := sb) (argsL := [.int (Int32.ofNat (cs.length + ds.length))]) (rest := []) d16_21 rfl (w117 hG) (w119 hG) (w120 hG) (w118 hG) (w86 hG) (w121 hG) (by decide) pd8 rfl rfl rfl E (c_ensure hG sb b cs cap (cs.length + ds.length) hM (by omega) (by omega) h SB0) (by simp) (by decide) (Nat.le_of_ble_eq_true rfl) rfl rfl (by decide) (by decide) ?_
  intro v4 h5 sh5 q6
  obtain ⟨rfl, K2, b', hb', S2⟩ := q6
  obtain ⟨E2, G1, G2, G3, ws, B2, hcap2, hvs2, hle2⟩ := S2
  have hbl2 := own_ltN B2.lt
  refine ⟨[b', sb, b], own_D1 (G1), ?_⟩
  show oGo l Z a0 EL True pP eE sS mM _ bB tT cC _ _ _ _ _ _ _ _ [b', sb, b] h5 1 34 24 #[.val (.ref sb), .val (.ref x), .val (.int (Int32.ofNat ds.length))] []
  refine oGo.aload_n (pc' := 25) d16_24 rfl rfl rfl ?_
  refine oGo.aload_n (pc' := 26) d16_25 rfl rfl rfl ?_
  refine oGo.getfield (pc' := 29) d16_26 rfl (w115 hG) Via.refl G3 ?_
  refine oGo.aload_n (pc' := 30) d16_29 rfl rfl rfl ?_
  have f7 := Sx.keep K2 (own_nin1 (own_ne (by omega))) (own_nin1 (own_ne (by omega)))
  have hne2 : t ≠ b' := by rcases hb' with rfl | q <;> omega
  have hsb2 : sb ≠ b' := by
    rcases hb' with rfl | q
    · exact fun q => absurd q (oSB_ne hG SB0)
    · omega
  refine oGo.invokeprivate (pc' := 33) (k' := 1) (n' := 34) (a := sb) (argsL := [.int (Int32.ofNat cs.length), .ref x]) (rest := []) d16_30 rfl (w122 hG) (w124 hG) (w125 hG) (w123 hG) (w86 hG) (w126 hG) (by decide) pd15 rfl rfl rfl E2 (c_putStr hG sb x t b' ds ws cs.length (by omega) hne2 _ E2 G1 G2 B2 f7) (by simp) (by decide) (Nat.le_of_ble_eq_true rfl) rfl rfl (by decide) (by decide) ?_
  intro v8 h9 sh9 q10
  obtain ⟨rfl, K3, B3⟩ := q10
  refine ⟨_, fun _ hx => Or.inl hx, ?_⟩
  show oGo l Z a0 EL True pP eE sS mM _ bB tT cC _ _ _ _ _ _ _ _ [b', sb, b] h9 1 34 33 #[.val (.ref sb), .val (.ref x), .val (.int (Int32.ofNat ds.length))] []
  refine oGo.aload_n (pc' := 34) d16_33 rfl rfl rfl ?_
  refine oGo.dup (pc' := 35) d16_34 rfl rfl ?_
  have f11 := Fld.keep G3 K3 (own_nin1 (own_ne (by omega)))
  refine oGo.getfield (pc' := 38) d16_35 rfl (w115 hG) Via.refl f11 ?_
  refine oGo.iload_n (pc' := 39) d16_38 rfl rfl ?_
  refine oGo.iadd (pc' := 40) d16_39 rfl ?_
  rw [← Int32.ofNat_add]
  have f12 := Exa.keep E2 K3
  refine oGo.putfield (pc' := 43) (ty := .int) d16_40 rfl (w115 hG) Via.refl f11 f12 (Or.inl (w116 hG)) (w77 hG) (by decide) rfl rfl (by simp) ?_
  intro h13 W14 sh13
  have f15 := Fld.same W14 f11
  refine oGo.aload_n (pc' := 44) d16_43 rfl rfl rfl ?_
  have f16 := Exa.wr W14 f12
  have f17 := Fld.keep G1 K3 (own_nin1 (own_ne (by omega)))
  have f18 := Fld.other W14 f17 (Or.inr (slot_ne (C := "java/lang/StringBuilder") (Or.inl (w91 hG)) (Or.inl (w116 hG)) (by decide) (t := (.array .byte)) (t' := .int) (by decide) (by decide)))
  have f19 := Fld.keep G2 K3 (own_nin1 (own_ne (by omega)))
  have f20 := Fld.other W14 f19 (Or.inr (slot_ne (C := "java/lang/StringBuilder") (Or.inl (w93 hG)) (Or.inl (w116 hG)) (by decide) (t := .byte) (t' := .int) (by decide) (by decide)))
  have f21 := oArr.other W14 B3 (own_ne (by omega))
  exact oGo.areturn d16_44 rfl rfl rfl rfl (by decide) (by decide) ⟨rfl, (((Keep.refl h [sb, b]).trans K2 (by simp)).trans K3 (fun x hx => by rw [List.mem_singleton.mp hx]; rcases hb' with q' | q'; exact Or.inl (by simp [q']); exact Or.inr q')).wr W14 (Or.inl (by simp)), b', hb', f16, f18, f20, by rw [List.length_append]; exact f15, _, f21, by simp; omega, by rw [List.length_append]; exact own_app_take hvs2 (by omega), by rw [List.length_append]; exact hcF⟩ (fun x q => by cases oFld_det f18 q; simp)
set_option maxRecDepth 65536 in
set_option maxHeartbeats 4000000 in
theorem c_append {l : Launch} {Z : State} {a0 : Array Value} {EL : List (String × Nat)} (hG : oG a0 Z EL) (sb b x t : Nat) (cs ds : List Int32) (cap : Nat) (hM : capF cap (cs.length + ds.length) ≤ 34) (hc : cap < 5000) (hl : ds.length < 5000) (hne : x ≠ sb ∧ x ≠ b ∧ t ≠ sb ∧ t ≠ b) (h : Heap) (SB : oSB Z h sb b cs cap) (Sx : oS Z h x t ds) :
    oCtr [] l Z a0 EL True (⟨"java/lang/StringBuilder", "append", "(Ljava/lang/String;)Ljava/lang/StringBuilder;"⟩ : MethodName) jdk_67_method_7_code 2 (some (.object "java/lang/StringBuilder")) ({ frames := 5, cells := 1, slots := 34, locals := 76 } : Room) #[.ref sb, .ref x] [sb, b] h ((q_append Z h sb b cs ds cap)) (oBuf Z sb) := by
  refine oCtr.enter (Ls := #[.val (.ref sb), .val (.ref x)]) (plainFor_of_name pn4) hG.2.1 (fun m => by first | (simp [entryFrame, mkF, argsToLocals, Value.category]; done) | rfl) ?_
  intro pP eE sS mM bB tT cC
  refine oGo.aload_n (pc' := 1) d15_0 rfl rfl rfl ?_
  refine oGo.aload_n (pc' := 2) d15_1 rfl rfl rfl ?_
  refine oGo.invokesuper (pc' := 5) (k' := 1) (n' := 34) (a := sb) (argsL := [.ref x]) (rest := []) d15_2 rfl (by decide) (w100 hG) (w102 hG) (w101 hG) (w120 hG) rfl (w86 hG) (w104 hG) (by decide) pd16 rfl rfl rfl SB.1 (c_asbAppend hG sb b x t cs ds cap hM hc hl hne h SB Sx) (by simp) (by decide) (Nat.le_of_ble_eq_true rfl) rfl rfl (by decide) (by decide) ?_
  intro v1 h2 sh2 q3
  obtain ⟨rfl, K2, b', hb', S2⟩ := q3
  refine ⟨[b', sb, b], own_D1 (S2.2.1), ?_⟩
  show oGo l Z a0 EL True pP eE sS mM _ bB tT cC _ _ _ _ _ _ _ _ [b', sb, b] h2 1 34 5 #[.val (.ref sb), .val (.ref x)] [.ref sb]
  refine oGo.pop (pc' := 6) d15_5 rfl rfl ?_
  refine oGo.aload_n (pc' := 7) d15_6 rfl rfl rfl ?_
  exact oGo.areturn d15_7 rfl rfl rfl rfl (by decide) (by decide) ⟨rfl, K2, b', hb', S2⟩ (fun x q => by cases oFld_det S2.2.1 q; simp)
set_option maxRecDepth 65536 in
set_option maxHeartbeats 4000000 in
theorem c_getValue {l : Launch} {Z : State} {a0 : Array Value} {EL : List (String × Nat)} (hG : oG a0 Z EL) (sb b : Nat) (h : Heap) (F1 : Fld Z h sb "java/lang/AbstractStringBuilder" "value" "[B" (.ref b)) :
    oCtr [] l Z a0 EL True (⟨"java/lang/AbstractStringBuilder", "getValue", "()[B"⟩ : MethodName) jdk_68_method_64_code 1 (some (.array .byte)) ({ frames := 0, cells := 0, slots := 0, locals := 0 } : Room) #[.ref sb] [] h (fun v h' => v = some (.ref b) ∧ h' = h) oNo := by
  refine oCtr.enter (Ls := #[.val (.ref sb)]) (plainFor_of_name pn3) hG.2.1 (fun m => by first | (simp [entryFrame, mkF, argsToLocals, Value.category]; done) | rfl) ?_
  intro pP eE sS mM bB tT cC
  refine oGo.aload_n (pc' := 1) d31_0 rfl rfl rfl ?_
  refine oGo.getfield (pc' := 4) d31_1 rfl (w90 hG) Via.refl F1 ?_
  exact oGo.areturn d31_4 rfl rfl rfl rfl (by decide) (by decide) ⟨rfl, rfl⟩ (fun _ q => q.elim)
set_option maxRecDepth 65536 in
set_option maxHeartbeats 4000000 in
theorem c_asbLen {l : Launch} {Z : State} {a0 : Array Value} {EL : List (String × Nat)} (hG : oG a0 Z EL) (sb : Nat) (z : Int32) (h : Heap) (F3 : Fld Z h sb "java/lang/AbstractStringBuilder" "count" "I" (.int z)) :
    oCtr [] l Z a0 EL True (⟨"java/lang/AbstractStringBuilder", "length", "()I"⟩ : MethodName) jdk_68_method_6_code 1 (some .int) ({ frames := 0, cells := 0, slots := 0, locals := 0 } : Room) #[.ref sb] [] h (fun v h' => v = some (.int z) ∧ h' = h) oNo := by
  refine oCtr.enter (Ls := #[.val (.ref sb)]) (plainFor_of_name pn3) hG.2.1 (fun m => by first | (simp [entryFrame, mkF, argsToLocals, Value.category]; done) | rfl) ?_
  intro pP eE sS mM bB tT cC
  refine oGo.aload_n (pc' := 1) d33_0 rfl rfl rfl ?_
  refine oGo.getfield (pc' := 4) d33_1 rfl (w115 hG) Via.refl F3 ?_
  exact oGo.ireturn d33_4 rfl (by decide) (by decide) ⟨rfl, rfl⟩ (fun _ q => q.elim)
set_option maxRecDepth 65536 in
set_option maxHeartbeats 4000000 in
theorem c_sbLen {l : Launch} {Z : State} {a0 : Array Value} {EL : List (String × Nat)} (hG : oG a0 Z EL) (sb : Nat) (z : Int32) (h : Heap) (E : Exa Z h sb "java/lang/StringBuilder") (F3 : Fld Z h sb "java/lang/AbstractStringBuilder" "count" "I" (.int z)) :
    oCtr [] l Z a0 EL True (⟨"java/lang/StringBuilder", "length", "()I"⟩ : MethodName) jdk_67_method_93_code 1 (some .int) ({ frames := 1, cells := 0, slots := 0, locals := 12 } : Room) #[.ref sb] [] h (fun v h' => v = some (.int z) ∧ h' = h) oNo := by
  refine oCtr.enter (Ls := #[.val (.ref sb)]) (plainFor_of_name pn4) hG.2.1 (fun m => by first | (simp [entryFrame, mkF, argsToLocals, Value.category]; done) | rfl) ?_
  intro pP eE sS mM bB tT cC
  refine oGo.aload_n (pc' := 1) d32_0 rfl rfl rfl ?_
  refine oGo.invokesuper (pc' := 4) (k' := 0) (n' := 0) (a := sb) (argsL := []) (rest := []) d32_1 rfl (by decide) (w190 hG) (w102 hG) (w186 hG) (w120 hG) rfl (w86 hG) (w191 hG) (by decide) pd14 rfl rfl rfl E (c_asbLen hG sb z h F3) (by simp) (by decide) (Nat.le_of_ble_eq_true rfl) rfl rfl (by decide) (by decide) ?_
  intro v1 h2 sh2 q3
  obtain ⟨rfl, ee⟩ := q3
  obtain rfl := ee.symm
  refine ⟨_, fun _ hx => Or.inl hx, ?_⟩
  show oGo l Z a0 EL True pP eE sS mM _ bB tT cC _ _ _ _ _ _ _ _ [] h 0 0 4 #[.val (.ref sb)] [.int z]
  exact oGo.ireturn d32_4 rfl (by decide) (by decide) ⟨rfl, rfl⟩ (fun _ q => q.elim)
set_option maxRecDepth 65536 in
set_option maxHeartbeats 4000000 in
theorem c_asbLat {l : Launch} {Z : State} {a0 : Array Value} {EL : List (String × Nat)} (hG : oG a0 Z EL) (sb : Nat) (h : Heap) (F2 : Fld Z h sb "java/lang/AbstractStringBuilder" "coder" "B" (.int 0)) :
    oCtr [] l Z a0 EL True (⟨"java/lang/AbstractStringBuilder", "isLatin1", "()Z"⟩ : MethodName) jdk_68_method_68_code 1 (some .boolean) ({ frames := 0, cells := 0, slots := 0, locals := 0 } : Room) #[.ref sb] [] h (fun v h' => v = some (.int 1) ∧ h' = h) oNo := by
  obtain ⟨z, hzs, hz⟩ := sCOMPACT hG
  refine oCtr.enter (Ls := #[.val (.ref sb)]) (plainFor_of_name pn3) hG.2.1 (fun m => by first | (simp [entryFrame, mkF, argsToLocals, Value.category]; done) | rfl) ?_
  intro pP eE sS mM bB tT cC
  refine oGo.getstatic (pc' := 3) d34_0 rfl (w89 hG) Via.refl hzs ?_
  refine oGo.if_eq (pc1 := 6) (pc2 := 17) d34_3 rfl (by decide) (fun q => absurd q hz) (fun q1 => ?_)
  refine oGo.aload_n (pc' := 7) d34_6 rfl rfl rfl ?_
  refine oGo.getfield (pc' := 10) d34_7 rfl (w92 hG) Via.refl F2 ?_
  refine oGo.if_ne (pc1 := 13) (pc2 := 17) d34_10 rfl (by decide) (fun q => absurd rfl q) (fun q2 => ?_)
  refine oGo.iconst (pc' := 14) (v := 1) d34_13 rfl (by decide) ?_
  refine oGo.goto (pc' := 18) d34_14 (by decide) ?_
  exact oGo.nreturn d34_18 rfl (by simp) rfl (by decide) (by decide) ⟨rfl, rfl⟩ (fun _ q => q.elim)
abbrev q_strSB (Z : State) (h : Heap) (x : Nat) (cs : List Int32) : Option Value → Heap → Prop := fun v h' => v = none ∧ Keep h h' [x] ∧ ∃ t : Nat, h.size ≤ t ∧ oS Z h' x t cs
set_option maxRecDepth 65536 in
set_option maxHeartbeats 4000000 in
theorem c_strASB {l : Launch} {Z : State} {a0 : Array Value} {EL : List (String × Nat)} (hG : oG a0 Z EL) (x sb b : Nat) (cs : List Int32) (cap : Nat) (hN : cs.length ≤ 30) (hne : cs.length < cap) (hcs : ∀ c ∈ cs, ¬ c < 0 ∧ ¬ 255 < c) (u w0 : Value) (hxs : x ≠ sb ∧ x ≠ b) (h : Heap) (SB : oSB Z h sb b cs cap) (EX : Exa Z h x "java/lang/String") (G1 : Fld Z h x "java/lang/String" "value" "[B" u) (G2 : Fld Z h x "java/lang/String" "coder" "B" w0) :
    oCtr [] l Z a0 EL True (⟨"java/lang/String", "<init>", "(Ljava/lang/AbstractStringBuilder;Ljava/lang/Void;)V"⟩ : MethodName) jdk_42_method_150_code 5 none ({ frames := 3, cells := 1, slots := 30, locals := 49 } : Room) #[.ref x, .ref sb, .null] [x] h ((q_strSB Z h x cs)) oNo := by
  have hxl := own_ltN EX.lt
  refine oCtr.enter (Ls := #[.val (.ref x), .val (.ref sb), .val .null, .unset, .unset]) (plainFor_of_name pn1) hG.2.1 (fun m => by first | (simp [entryFrame, mkF, argsToLocals, Value.category]; done) | rfl) ?_
  intro pP eE sS mM bB tT cC
  obtain ⟨E, F1, F2, F3, vs, B, hcap, hvs, hle⟩ := SB
  have hsl := own_ltN E.lt
  have hbl := own_ltN B.lt
  refine oGo.aload_n (pc' := 1) d30_0 rfl rfl rfl ?_
  refine oGo.objinit (pc' := 4) d30_1 rfl (w16 hG) (w17 hG) (w18 hG) rfl (by decide) (Nat.le_of_ble_eq_true rfl) ?_
  refine oGo.aload_n (pc' := 5) d30_4 rfl rfl rfl ?_
  refine oGo.invokevirtual (pc' := 8) (k' := 0) (n' := 0) (a := sb) (argsL := []) (rest := []) d30_5 rfl (w179 hG) (w180 hG) (w182 hG) (w182 hG) rfl (w181 hG) (w86 hG) (w183 hG) (by decide) pd17 rfl rfl rfl E (c_getValue hG sb b h F1) (by simp) (by decide) (Nat.le_of_ble_eq_true rfl) rfl rfl (by decide) (by decide) ?_
  intro v1 h2 sh2 q3
  obtain ⟨rfl, ee⟩ := q3
  obtain rfl := ee.symm
  refine ⟨_, fun _ hx => Or.inl hx, ?_⟩
  show oGo l Z a0 EL True pP eE sS mM _ bB tT cC _ _ _ _ _ _ _ _ [x] h 0 0 8 #[.val (.ref x), .val (.ref sb), .val .null, .unset, .unset] [.ref b]
  refine oGo.astore_n (pc' := 9) (Ls' := #[.val (.ref x), .val (.ref sb), .val .null, .val (.ref b), .unset]) d30_8 rfl rfl rfl ?_
  refine oGo.aload_n (pc' := 10) d30_9 rfl rfl rfl ?_
  refine oGo.invokevirtual (pc' := 13) (k' := 0) (n' := 0) (a := sb) (argsL := []) (rest := []) d30_10 rfl (w184 hG) (w185 hG) (w187 hG) (w120 hG) rfl (w188 hG) (w78 hG) (w189 hG) (by decide) pd14 rfl rfl rfl E (c_sbLen hG sb _ h E F3) (by simp) (by decide) (Nat.le_of_ble_eq_true rfl) rfl rfl (by decide) (by decide) ?_
  intro v4 h5 sh5 q6
  obtain ⟨rfl, ee⟩ := q6
  obtain rfl := ee.symm
  refine ⟨_, fun _ hx => Or.inl hx, ?_⟩
  show oGo l Z a0 EL True pP eE sS mM _ bB tT cC _ _ _ _ _ _ _ _ [x] h 0 0 13 #[.val (.ref x), .val (.ref sb), .val .null, .val (.ref b), .unset] [.int (Int32.ofNat cs.length)]
  refine oGo.istore (pc' := 15) (Ls' := #[.val (.ref x), .val (.ref sb), .val .null, .val (.ref b), .val (.int (Int32.ofNat cs.length))]) d30_13 rfl rfl ?_
  refine oGo.aload_n (pc' := 16) d30_15 rfl rfl rfl ?_
  refine oGo.invokevirtual (pc' := 19) (k' := 0) (n' := 0) (a := sb) (argsL := []) (rest := []) d30_16 rfl (w192 hG) (w193 hG) (w195 hG) (w195 hG) rfl (w194 hG) (w86 hG) (w196 hG) (by decide) pd18 rfl rfl rfl E (c_asbLat hG sb h F2) (by simp) (by decide) (Nat.le_of_ble_eq_true rfl) rfl rfl (by decide) (by decide) ?_
  intro v7 h8 sh8 q9
  obtain ⟨rfl, ee⟩ := q9
  obtain rfl := ee.symm
  refine ⟨_, fun _ hx => Or.inl hx, ?_⟩
  show oGo l Z a0 EL True pP eE sS mM _ bB tT cC _ _ _ _ _ _ _ _ [x] h 0 0 19 #[.val (.ref x), .val (.ref sb), .val .null, .val (.ref b), .val (.int (Int32.ofNat cs.length))] [.int (1 : Int32)]
  refine oGo.if_eq (pc1 := 22) (pc2 := 41) d30_19 rfl (by decide) (fun q => by first | exact absurd q (by decide) | exact absurd (by decide) q) (fun q10 => ?_)
  refine oGo.aload_n (pc' := 23) d30_22 rfl rfl rfl ?_
  refine oGo.iconst (pc' := 24) (v := 0) d30_23 rfl (by decide) ?_
  refine oGo.putfield (pc' := 27) (ty := .byte) d30_24 rfl (w26 hG) Via.refl G2 EX (Or.inr ⟨(w22 hG), rfl, rfl⟩) (w6 hG) (by decide) (by decide) (by decide) (by simp) ?_
  intro h11 W12 sh11
  have f13 := Fld.same W12 G2
  refine oGo.aload_n (pc' := 28) d30_27 rfl rfl rfl ?_
  refine oGo.aload_n (pc' := 29) d30_28 rfl rfl rfl ?_
  refine oGo.iconst (pc' := 30) (v := 0) d30_29 rfl (by decide) ?_
  refine oGo.iload (pc' := 32) d30_30 rfl rfl ?_
  have f14 := oArr.other W12 B (own_ne (by omega))
  refine oGo.invokestatic (pc' := 35) (k' := 1) (n' := 30) (argsL := [.ref b, .int (0 : Int32), .int (Int32.ofNat cs.length)]) (rest := [.ref x]) d30_32 rfl (w197 hG) (w198 hG) (w160 hG) (w199 hG) (by decide) pd7 rfl rfl rfl (c_cor hG b vs 0 cs.length (by omega) (by omega) (by omega) (by omega) _ f14) (by simp) (by decide) (Nat.le_of_ble_eq_true rfl) rfl rfl (by decide) (by decide) ?_
  intro v15 h16 sh16 q17
  obtain ⟨K2, t, rfl, ht, B2⟩ := q17
  rw [List.drop_zero, Nat.sub_zero, hvs] at B2
  refine ⟨[t, x], own_D1 (rfl), ?_⟩
  show oGo l Z a0 EL True pP eE sS mM _ bB tT cC _ _ _ _ _ _ _ _ [t, x] h16 1 30 35 #[.val (.ref x), .val (.ref sb), .val .null, .val (.ref b), .val (.int (Int32.ofNat cs.length))] [.ref t, .ref x]
  have f18 := Fld.other W12 G1 (Or.inr (slot_ne (C := "java/lang/String") (Or.inr (w21 hG)) (Or.inr (w22 hG)) (by decide) (t := (.array .byte)) (t' := .byte) (by decide) (by decide)))
  have f19 := Fld.keep f18 K2 nin0
  have f20 := Exa.wr W12 EX
  have f21 := Exa.keep f20 K2
  refine oGo.putfield (pc' := 38) (ty := (.array .byte)) d30_35 rfl (w25 hG) Via.refl f19 f21 (Or.inr ⟨(w21 hG), rfl, rfl⟩) (w6 hG) (by decide) rfl rfl (by simp) ?_
  intro h22 W23 sh22
  have f24 := Fld.same W23 f19
  refine oGo.goto (pc' := 97) d30_38 (by decide) ?_
  have f25 := Exa.wr W23 f21
  have f26 := Fld.keep f13 K2 nin0
  have f27 := Fld.other W23 f26 (Or.inr (slot_ne (C := "java/lang/String") (Or.inr (w22 hG)) (Or.inr (w21 hG)) (by decide) (t := .byte) (t' := (.array .byte)) (by decide) (by decide)))
  have f28 := oArr.other W23 B2 (own_ne (by omega))
  exact oGo.return_ d30_97 rfl (by decide) (by decide) ⟨rfl, (((Keep.refl h [x]).wr W12 (Or.inl (by simp))).trans K2 (by simp)).wr W23 (Or.inl (by simp)), t, by omega, f25, f24, f27, f28, hcs⟩ (fun _ q => q.elim)
set_option maxRecDepth 65536 in
set_option maxHeartbeats 4000000 in
theorem c_strSB {l : Launch} {Z : State} {a0 : Array Value} {EL : List (String × Nat)} (hG : oG a0 Z EL) (x sb b : Nat) (cs : List Int32) (cap : Nat) (hN : cs.length ≤ 30) (hne : cs.length < cap) (hcs : ∀ c ∈ cs, ¬ c < 0 ∧ ¬ 255 < c) (u w0 : Value) (hxs : x ≠ sb ∧ x ≠ b) (h : Heap) (SB : oSB Z h sb b cs cap) (EX : Exa Z h x "java/lang/String") (G1 : Fld Z h x "java/lang/String" "value" "[B" u) (G2 : Fld Z h x "java/lang/String" "coder" "B" w0) :
    oCtr [] l Z a0 EL True (⟨"java/lang/String", "<init>", "(Ljava/lang/StringBuilder;)V"⟩ : MethodName) jdk_42_method_53_code 2 none ({ frames := 4, cells := 1, slots := 30, locals := 65 } : Room) #[.ref x, .ref sb] [x] h ((q_strSB Z h x cs)) oNo := by
  refine oCtr.enter (Ls := #[.val (.ref x), .val (.ref sb)]) (plainFor_of_name pn1) hG.2.1 (fun m => by first | (simp [entryFrame, mkF, argsToLocals, Value.category]; done) | rfl) ?_
  intro pP eE sS mM bB tT cC
  refine oGo.aload_n (pc' := 1) d29_0 rfl rfl rfl ?_
  refine oGo.aload_n (pc' := 2) d29_1 rfl rfl rfl ?_
  refine oGo.aconst_null (pc' := 3) d29_2 rfl ?_
  refine oGo.invokespecial (pc' := 6) (k' := 1) (n' := 30) (a := x) (argsL := [.ref sb, .null]) (rest := []) d29_3 rfl rfl (w176 hG) (w177 hG) (w7 hG) (w178 hG) (by decide) pd19 rfl rfl rfl (c_strASB hG x sb b cs cap hN hne hcs u w0 hxs h SB EX G1 G2) (by simp) (by decide) (Nat.le_of_ble_eq_true rfl) rfl rfl (by decide) (by decide) ?_
  intro v1 h2 sh2 q3
  obtain ⟨rfl, hq⟩ := q3
  refine ⟨_, fun _ hx => Or.inl hx, ?_⟩
  show oGo l Z a0 EL True pP eE sS mM _ bB tT cC _ _ _ _ _ _ _ _ [x] h2 1 30 6 #[.val (.ref x), .val (.ref sb)] []
  exact oGo.return_ d29_6 rfl (by decide) (by decide) ⟨rfl, hq⟩ (fun _ q => q.elim)
abbrev q_toStr (Z : State) (h : Heap) (cs : List Int32) : Option Value → Heap → Prop := fun v h' => Keep h h' [] ∧ ∃ x t : Nat, v = some (.ref x) ∧ h.size ≤ x ∧ h.size ≤ t ∧ oS Z h' x t cs
set_option maxRecDepth 65536 in
set_option maxHeartbeats 4000000 in
theorem c_toStr {l : Launch} {Z : State} {a0 : Array Value} {EL : List (String × Nat)} (hG : oG a0 Z EL) (sb b : Nat) (cs : List Int32) (cap : Nat) (hN : cs.length ≤ 30) (hne : cs.length < cap) (hcs : ∀ c ∈ cs, ¬ c < 0 ∧ ¬ 255 < c) (h : Heap) (SB : oSB Z h sb b cs cap) :
    oCtr [] l Z a0 EL True (⟨"java/lang/StringBuilder", "toString", "()Ljava/lang/String;"⟩ : MethodName) jdk_67_method_42_code 1 (some (.object "java/lang/String")) ({ frames := 5, cells := 2, slots := 34, locals := 79 } : Room) #[.ref sb] [] h ((q_toStr Z h cs)) oNo := by
  have hsl := own_ltN SB.1.lt
  have hbl : b < h.size := by obtain ⟨_, _, _, _, _, B, _⟩ := SB; exact own_ltN B.lt
  refine oCtr.enter (Ls := #[.val (.ref sb)]) (plainFor_of_name pn4) hG.2.1 (fun m => by first | (simp [entryFrame, mkF, argsToLocals, Value.category]; done) | rfl) ?_
  intro pP eE sS mM bB tT cC
  refine oGo.new (pc' := 3) (k' := 1) (n' := 4) d28_0 rfl (w172 hG) (w6 hG) (w7 hG) rfl rfl (by decide) (by decide) ?_
  intro h1 a2 qa2 la2 E3 X4 F5
  have f6 := F5 (Or.inr (w21 hG)) (ty := (.array .byte)) (by decide)
  have f7 := F5 (Or.inr (w22 hG)) (ty := .byte) (by decide)
  refine oGo.dup (pc' := 4) d28_3 rfl rfl ?_
  refine oGo.aload_n (pc' := 5) d28_4 rfl rfl rfl ?_
  have f8 := SB.ext E3
  refine oGo.invokespecial (pc' := 8) (k' := 2) (n' := 34) (a := a2) (argsL := [.ref sb]) (rest := [.ref a2]) d28_5 rfl rfl (w173 hG) (w174 hG) (w7 hG) (w175 hG) (by decide) pd20 rfl rfl rfl (c_strSB hG a2 sb b cs cap hN hne hcs _ _ (by omega) _ f8 X4 f6 f7) (by simp) (by decide) (Nat.le_of_ble_eq_true rfl) rfl rfl (by decide) (by decide) ?_
  intro v9 h10 sh10 q11
  obtain ⟨rfl, K2, t, ht, S2⟩ := q11
  refine ⟨_, fun _ hx => Or.inl hx, ?_⟩
  show oGo l Z a0 EL True pP eE sS mM _ bB tT cC _ _ _ _ _ _ _ _ [a2] h10 2 34 8 #[.val (.ref sb)] [.ref a2]
  exact oGo.areturn d28_8 rfl rfl rfl rfl (by decide) (by decide) ⟨((Keep.refl h []).ext E3).trans K2 (own_new1 (by omega)), a2, t, rfl, by omega, by omega, S2⟩ (fun _ q => q.elim)
set_option maxRecDepth 65536 in
set_option maxHeartbeats 4000000 in
theorem c_preCheck {l : Launch} {Z : State} {a0 : Array Value} {EL : List (String × Nat)} (hG : oG a0 Z EL) (i n : Int32) (fm : Value) (hf : fm.isRef = true) (h0 : ¬ i < 0) (h1 : i < n) (h : Heap)  :
    oCtr [] l Z a0 EL True (⟨"jdk/internal/util/Preconditions", "checkIndex", "(IILjava/util/function/BiFunction;)I"⟩ : MethodName) jdk_41_method_11_code 3 (some .int) ({ frames := 0, cells := 0, slots := 0, locals := 0 } : Room) #[.int i, .int n, fm] [] h (fun v h' => v = some (.int i) ∧ h' = h) oNo := by
  refine oCtr.enter (Ls := #[.val (.int i), .val (.int n), .val fm]) (plainFor_of_name pn6) hG.2.1 (fun m => by rcases ref_cases hf with rfl | ⟨_, rfl⟩ <;> first | (simp [entryFrame, mkF, argsToLocals, Value.category]; done) | rfl) ?_
  intro pP eE sS mM bB tT cC
  refine oGo.iload_n (pc' := 1) d43_0 rfl rfl ?_
  refine oGo.if_lt (pc1 := 4) (pc2 := 9) d43_1 rfl (by decide) (fun q => absurd q h0) (fun q1 => ?_)
  refine oGo.iload_n (pc' := 5) d43_4 rfl rfl ?_
  refine oGo.iload_n (pc' := 6) d43_5 rfl rfl ?_
  refine oGo.icmp_lt (pc1 := 9) (pc2 := 16) d43_6 rfl (by decide) (fun q2 => ?_) (fun q => absurd h1 q)
  refine oGo.iload_n (pc' := 17) d43_16 rfl rfl ?_
  exact oGo.ireturn d43_17 rfl (by decide) (by decide) ⟨rfl, rfl⟩ (fun _ q => q.elim)
set_option maxRecDepth 65536 in
set_option maxHeartbeats 4000000 in
theorem c_checkIndex {l : Launch} {Z : State} {a0 : Array Value} {EL : List (String × Nat)} (hG : oG a0 Z EL) (i n : Int32) (h0 : ¬ i < 0) (h1 : i < n) (h : Heap)  :
    oCtr [] l Z a0 EL True (⟨"java/lang/String", "checkIndex", "(II)V"⟩ : MethodName) jdk_42_method_155_code 2 none ({ frames := 1, cells := 0, slots := 0, locals := 14 } : Room) #[.int i, .int n] [] h (fun v h' => v = none ∧ h' = h) oNo := by
  obtain ⟨fm, hfs, hfr⟩ := sSIOOBE hG
  refine oCtr.enter (Ls := #[.val (.int i), .val (.int n)]) (plainFor_of_name pn1) hG.2.1 (fun m => by first | (simp [entryFrame, mkF, argsToLocals, Value.category]; done) | rfl) ?_
  intro pP eE sS mM bB tT cC
  refine oGo.iload_n (pc' := 1) d42_0 rfl rfl ?_
  refine oGo.iload_n (pc' := 2) d42_1 rfl rfl ?_
  refine oGo.getstatic (pc' := 5) d42_2 rfl (w228 hG) Via.refl hfs ?_
  refine oGo.invokestatic (pc' := 8) (k' := 0) (n' := 0) (argsL := [.int i, .int n, fm]) (rest := []) d42_5 rfl (w230 hG) (w231 hG) (w229 hG) (w232 hG) (by decide) pd21 rfl rfl rfl (c_preCheck hG i n fm hfr h0 h1 h) (by simp) (by decide) (Nat.le_of_ble_eq_true rfl) rfl rfl (by decide) (by decide) ?_
  intro v1 h2 sh2 q3
  obtain ⟨rfl, ee⟩ := q3
  obtain rfl := ee.symm
  refine ⟨_, fun _ hx => Or.inl hx, ?_⟩
  show oGo l Z a0 EL True pP eE sS mM _ bB tT cC _ _ _ _ _ _ _ _ [] h 0 0 8 #[.val (.int i), .val (.int n)] [.int i]
  refine oGo.pop (pc' := 9) d42_8 rfl rfl ?_
  exact oGo.return_ d42_9 rfl (by decide) (by decide) ⟨rfl, rfl⟩ (fun _ q => q.elim)
set_option maxRecDepth 65536 in
set_option maxHeartbeats 4000000 in
theorem c_isLatin1 {l : Launch} {Z : State} {a0 : Array Value} {EL : List (String × Nat)} (hG : oG a0 Z EL) (x : Nat) (cd : Int32) (h : Heap) (F : Fld Z h x "java/lang/String" "coder" "B" (.int cd)) :
    oCtr [] l Z a0 EL True (⟨"java/lang/String", "isLatin1", "()Z"⟩ : MethodName) jdk_42_method_154_code 1 (some .boolean) ({ frames := 0, cells := 0, slots := 0, locals := 0 } : Room) #[.ref x] [] h (fun v h' => v = some (.int (if cd = 0 then 1 else 0)) ∧ h' = h) oNo := by
  obtain ⟨z, hzs, hz⟩ := sCOMPACT hG
  refine oCtr.enter (Ls := #[.val (.ref x)]) (plainFor_of_name pn1) hG.2.1 (fun m => by first | (simp [entryFrame, mkF, argsToLocals, Value.category]; done) | rfl) ?_
  intro pP eE sS mM bB tT cC
  refine oGo.getstatic (pc' := 3) d40_0 rfl (w27 hG) Via.refl hzs ?_
  refine oGo.if_eq (pc1 := 6) (pc2 := 17) d40_3 rfl (by decide) (fun q => absurd q hz) (fun q1 => ?_)
  refine oGo.aload_n (pc' := 7) d40_6 rfl rfl rfl ?_
  refine oGo.getfield (pc' := 10) d40_7 rfl (w26 hG) Via.refl F ?_
  refine oGo.if_ne (pc1 := 13) (pc2 := 17) d40_10 rfl (by decide) (fun q => ?_) (fun q => ?_)
  · refine oGo.iconst (pc' := 18) (v := 0) d40_17 rfl (by decide) ?_
    exact oGo.nreturn d40_18 rfl (by simp) rfl (by decide) (by decide) ⟨by rw [if_neg q]; rfl, rfl⟩ (fun _ q => q.elim)
  · refine oGo.iconst (pc' := 14) (v := 1) d40_13 rfl (by decide) ?_
    refine oGo.goto (pc' := 18) d40_14 (by decide) ?_
    exact oGo.nreturn d40_18 rfl (by simp) rfl (by decide) (by decide) ⟨by rw [if_pos q]; rfl, rfl⟩ (fun _ q => q.elim)
set_option maxRecDepth 65536 in
set_option maxHeartbeats 4000000 in
theorem c_latCharAt {l : Launch} {Z : State} {a0 : Array Value} {EL : List (String × Nat)} (hG : oG a0 Z EL) (t : Nat) (cs : List Int32) (i : Nat) (c : Int32) (hc : ¬ c < 0 ∧ ¬ 255 < c) (hi : cs[i]? = some c) (h : Heap) (B : oArr Z h t .byte (oI (cs.map lo8))) :
    oCtr [] l Z a0 EL True (⟨"java/lang/StringLatin1", "charAt", "([BI)C"⟩ : MethodName) jdk_43_method_2_code 2 (some .char) ({ frames := 2, cells := 0, slots := 0, locals := 27 } : Room) #[.ref t, .int (Int32.ofNat i)] [] h (fun v h' => v = some (.int c) ∧ h' = h) oNo := by
  have hl : i < cs.length := (List.getElem?_eq_some_iff.mp hi).1
  have hb31 : cs.length < 2147483648 := by obtain ⟨_, _, _, q, _⟩ := B; simpa using q
  refine oCtr.enter (Ls := #[.val (.ref t), .val (.int (Int32.ofNat i))]) (plainFor_of_name pn7) hG.2.1 (fun m => by first | (simp [entryFrame, mkF, argsToLocals, Value.category]; done) | rfl) ?_
  intro pP eE sS mM bB tT cC
  refine oGo.iload_n (pc' := 1) d41_0 rfl rfl ?_
  refine oGo.aload_n (pc' := 2) d41_1 rfl rfl rfl ?_
  refine oGo.arraylength (pc' := 3) (z := (Int32.ofNat cs.length)) d41_2 rfl B (by rw [List.length_map, List.length_map]) ?_
  refine oGo.invokestatic (pc' := 6) (k' := 0) (n' := 0) (argsL := [.int (Int32.ofNat i), .int (Int32.ofNat cs.length)]) (rest := []) d41_3 rfl (w225 hG) (w226 hG) (w7 hG) (w227 hG) (by decide) pd5 rfl rfl rfl (c_checkIndex hG _ _ (own_nn (by omega)) ((own_lt (by omega) hb31).mpr hl) h) (by simp) (by decide) (Nat.le_of_ble_eq_true rfl) rfl rfl (by decide) (by decide) ?_
  intro v1 h2 sh2 q3
  obtain ⟨rfl, ee⟩ := q3
  obtain rfl := ee.symm
  refine ⟨_, fun _ hx => Or.inl hx, ?_⟩
  show oGo l Z a0 EL True pP eE sS mM _ bB tT cC _ _ _ _ _ _ _ _ [] h 0 0 6 #[.val (.ref t), .val (.int (Int32.ofNat i))] []
  refine oGo.aload_n (pc' := 7) d41_6 rfl rfl rfl ?_
  refine oGo.iload_n (pc' := 8) d41_7 rfl rfl ?_
  refine oGo.baload (pc' := 9) (i := i) d41_8 rfl B rfl (v := .int (lo8 c)) (by simp [hi]) ?_
  refine oGo.sipush (pc' := 12) (v := 255) d41_9 rfl (by decide) ?_
  refine oGo.iand (pc' := 13) d41_12 rfl ?_
  refine oGo.i2c (pc' := 14) d41_13 rfl ?_
  exact oGo.nreturn d41_14 rfl (by simp) (lat_says hc.1 hc.2) (by decide) (by decide) ⟨rfl, rfl⟩ (fun _ q => q.elim)
set_option maxRecDepth 65536 in
set_option maxHeartbeats 4000000 in
theorem c_charAt {l : Launch} {Z : State} {a0 : Array Value} {EL : List (String × Nat)} (hG : oG a0 Z EL) (x t : Nat) (cs : List Int32) (i : Nat) (c : Int32) (hi : cs[i]? = some c) (h : Heap) (Sx : oS Z h x t cs) :
    oCtr [] l Z a0 EL True (⟨"java/lang/String", "charAt", "(I)C"⟩ : MethodName) jdk_42_method_56_code 2 (some .char) ({ frames := 3, cells := 0, slots := 0, locals := 40 } : Room) #[.ref x, .int (Int32.ofNat i)] [] h (fun v h' => v = some (.int c) ∧ h' = h) oNo := by
  have hc := Sx.2.2.2.2 c (List.mem_of_getElem? hi)
  refine oCtr.enter (Ls := #[.val (.ref x), .val (.int (Int32.ofNat i))]) (plainFor_of_name pn1) hG.2.1 (fun m => by first | (simp [entryFrame, mkF, argsToLocals, Value.category]; done) | rfl) ?_
  intro pP eE sS mM bB tT cC
  refine oGo.aload_n (pc' := 1) d39_0 rfl rfl rfl ?_
  refine oGo.invokevirtual (pc' := 4) (k' := 0) (n' := 0) (a := x) (argsL := []) (rest := []) d39_1 rfl (w216 hG) (w217 hG) (w219 hG) (w219 hG) rfl (w218 hG) (w7 hG) (w220 hG) (by decide) pd18 rfl rfl rfl Sx.1 (c_isLatin1 hG x 0 h Sx.2.2.1) (by simp) (by decide) (Nat.le_of_ble_eq_true rfl) rfl rfl (by decide) (by decide) ?_
  intro v1 h2 sh2 q3
  obtain ⟨rfl, ee⟩ := q3
  obtain rfl := ee.symm
  refine ⟨_, fun _ hx => Or.inl hx, ?_⟩
  show oGo l Z a0 EL True pP eE sS mM _ bB tT cC _ _ _ _ _ _ _ _ [] h 0 0 4 #[.val (.ref x), .val (.int (Int32.ofNat i))] [.int (1 : Int32)]
  refine oGo.if_eq (pc1 := 7) (pc2 := 16) d39_4 rfl (by decide) (fun q => by first | exact absurd q (by decide) | exact absurd (by decide) q) (fun q4 => ?_)
  refine oGo.aload_n (pc' := 8) d39_7 rfl rfl rfl ?_
  refine oGo.getfield (pc' := 11) d39_8 rfl (w25 hG) Via.refl Sx.2.1 ?_
  refine oGo.iload_n (pc' := 12) d39_11 rfl rfl ?_
  refine oGo.invokestatic (pc' := 15) (k' := 0) (n' := 0) (argsL := [.ref t, .int (Int32.ofNat i)]) (rest := []) d39_12 rfl (w221 hG) (w222 hG) (w223 hG) (w224 hG) (by decide) pd22 rfl rfl rfl (c_latCharAt hG t cs i c hc hi h Sx.2.2.2.1) (by simp) (by decide) (Nat.le_of_ble_eq_true rfl) rfl rfl (by decide) (by decide) ?_
  intro v5 h6 sh6 q7
  obtain ⟨rfl, ee⟩ := q7
  obtain rfl := ee.symm
  refine ⟨_, fun _ hx => Or.inl hx, ?_⟩
  show oGo l Z a0 EL True pP eE sS mM _ bB tT cC _ _ _ _ _ _ _ _ [] h 0 0 15 #[.val (.ref x), .val (.int (Int32.ofNat i))] [.int c]
  exact oGo.nreturn d39_15 rfl (by simp) (nar_char hc.1 (own_255 hc.2)) (by decide) (by decide) ⟨rfl, rfl⟩ (fun _ q => q.elim)
set_option maxRecDepth 65536 in
set_option maxHeartbeats 4000000 in
theorem c_rnn {l : Launch} {Z : State} {a0 : Array Value} {EL : List (String × Nat)} (hG : oG a0 Z EL) (x y : Nat) (h : Heap)  :
    oCtr [] l Z a0 EL True (⟨"java/util/Objects", "requireNonNull", "(Ljava/lang/Object;Ljava/lang/String;)Ljava/lang/Object;"⟩ : MethodName) jdk_31_method_11_code 2 (some (.object "java/lang/Object")) ({ frames := 0, cells := 0, slots := 0, locals := 0 } : Room) #[.ref x, .ref y] [] h (fun v h' => v = some (.ref x) ∧ h' = h) oNo := by
  refine oCtr.enter (Ls := #[.val (.ref x), .val (.ref y)]) (plainFor_of_name pn8) hG.2.1 (fun m => by first | (simp [entryFrame, mkF, argsToLocals, Value.category]; done) | rfl) ?_
  intro pP eE sS mM bB tT cC
  refine oGo.aload_n (pc' := 1) d10_0 rfl rfl rfl ?_
  refine oGo.ifnonnull_y (pc2 := 13) d10_1 (by decide) ?_
  refine oGo.aload_n (pc' := 14) d10_13 rfl rfl rfl ?_
  exact oGo.areturn d10_14 rfl rfl rfl rfl (by decide) (by decide) ⟨rfl, rfl⟩ (fun _ q => q.elim)
theorem rng3 (x : Int32) : ∃ i : Nat, i < 3 ∧ (x &&& 2147483647) % 3 = Int32.ofNat i := own_irem x 3 3 (by decide) (by decide) rfl
theorem own_addL (o k : Nat) (z : Int32) (hz : z = Int32.ofNat k) : Int32.ofNat o + z = Int32.ofNat (o + k) := by rw [hz, Int32.ofNat_add]
theorem own_eq8 (cs ps : List Int32) (o : Nat) (h : (cs.drop o).take 8 = ps ∧ ps.length = 8) (j : Nat) (hj : j < 8) : ∃ c, cs[o + j]? = some c ∧ ps[j]? = some c := by
  obtain ⟨h1, h2⟩ := h
  have hp : j < ps.length := by omega
  refine ⟨ps[j], ?_, List.getElem?_eq_getElem hp⟩
  rw [← List.getElem?_drop, ← List.getElem?_take_of_lt hj, h1]; exact List.getElem?_eq_getElem hp
abbrev q_str (Z : State) (h : Heap) (cs : List Int32) : Option Value → Heap → Prop := fun v h' => Keep h h' [] ∧ ∃ x t : Nat, v = some (.ref x) ∧ oS Z h' x t cs
set_option maxRecDepth 65536 in
set_option maxHeartbeats 4000000 in
theorem c_mk0 {l : Launch} {Z : State} {a0 : Array Value} {EL : List (String × Nat)} (hG : oG a0 Z EL) (c0 c1 : Int32) (bc0 : ¬ c0 < 0 ∧ ¬ 255 < c0) (bc1 : ¬ c1 < 0 ∧ ¬ 255 < c1) (h : Heap)  :
    oCtr [] l Z a0 EL True (⟨"com/example/soft_sieve/softsieve/JudgedQueryToStringPinLaw", "mk", "(ICC)Ljava/lang/String;"⟩ : MethodName) method_3_code 4 (some (.object "java/lang/String")) ({ frames := 4, cells := 6, slots := 14, locals := 66 } : Room) #[.int (0 : Int32), .int c0, .int c1] [] h ((q_str Z h [])) oNo := by
  refine oCtr.enter (Ls := #[.val (.int (0 : Int32)), .val (.int c0), .val (.int c1), .unset]) (plainFor_of_name pn9) hG.2.1 (fun m => by first | (simp [entryFrame, mkF, argsToLocals, Value.category]; done) | rfl) ?_
  intro pP eE sS mM bB tT cC
  refine oGo.iload_n (pc' := 1) d1_0 rfl rfl ?_
  refine oGo.if_ne (pc1 := 4) (pc2 := 15) d1_1 rfl (by decide) (fun q => by first | exact absurd q (by decide) | exact absurd (by decide) q) (fun q1 => ?_)
  refine oGo.new (pc' := 7) (k' := 1) (n' := 4) d1_4 rfl (w5 hG) (w6 hG) (w7 hG) rfl rfl (by decide) (by decide) ?_
  intro h2 a3 qa3 la3 E4 X5 F6
  have f7 := F6 (Or.inr (w21 hG)) (ty := (.array .byte)) (by decide)
  have f8 := F6 (Or.inr (w22 hG)) (ty := .byte) (by decide)
  refine oGo.dup (pc' := 8) d1_7 rfl rfl ?_
  refine oGo.iconst (pc' := 9) (v := 0) d1_8 rfl (by decide) ?_
  refine oGo.newarray (pc' := 11) (k' := 2) (n' := 4) (i := 0) d1_9 rfl (w8 hG) rfl 0 (by decide) (by decide) rfl rfl (by decide) (by decide) (by decide) ?_
  intro h9 a10 qa10 la10 E11 A12'
  have A12 : oArr Z h9 a10 .char (List.replicate (0) (.int 0)) := A12'
  have A13 : oArr Z h9 a10 .char (oI []) := A12
  have f14 := Exa.ext E11 X5
  have f15 := Fld.ext E11 f7
  have f16 := Fld.ext E11 f8
  refine oGo.invokespecial (pc' := 14) (k' := 6) (n' := 12) (a := a3) (argsL := [.ref a10]) (rest := [.ref a3]) d1_11 rfl rfl (w9 hG) (w10 hG) (w7 hG) (w11 hG) (by decide) pd23 rfl rfl rfl (c_strI1 hG a3 a10 [] (by simp) (by simp) _ _ _ A13 f14 f15 f16) (by simp) (by decide) (Nat.le_of_ble_eq_true rfl) rfl rfl (by decide) (by decide) ?_
  intro v17 h18 sh18 q19
  obtain ⟨rfl, KX, tX, SX⟩ := q19
  have lxX := own_ltN SX.1.lt
  have ltX := own_ltN SX.2.2.2.1.lt
  refine ⟨_, fun _ hx => Or.inl hx, ?_⟩
  show oGo l Z a0 EL True pP eE sS mM _ bB tT cC _ _ _ _ _ _ _ _ [a10, a3] h18 6 12 14 #[.val (.int (0 : Int32)), .val (.int c0), .val (.int c1), .unset] [.ref a3]
  have K20 : Keep h h18 [] := ((((Keep.refl h []).ext E4).ext E11).trans KX (own_new1 (own_le_le (x := h.size) (Nat.le_refl _) (own_ge_eq qa3))))
  exact oGo.areturn d1_14 rfl rfl rfl rfl (by decide) (by decide) ⟨K20, a3, tX, rfl, SX⟩ (fun _ q => q.elim)
set_option maxRecDepth 65536 in
set_option maxHeartbeats 4000000 in
theorem c_mk1 {l : Launch} {Z : State} {a0 : Array Value} {EL : List (String × Nat)} (hG : oG a0 Z EL) (c0 c1 : Int32) (bc0 : ¬ c0 < 0 ∧ ¬ 255 < c0) (bc1 : ¬ c1 < 0 ∧ ¬ 255 < c1) (h : Heap)  :
    oCtr [] l Z a0 EL True (⟨"com/example/soft_sieve/softsieve/JudgedQueryToStringPinLaw", "mk", "(ICC)Ljava/lang/String;"⟩ : MethodName) method_3_code 4 (some (.object "java/lang/String")) ({ frames := 4, cells := 6, slots := 14, locals := 66 } : Room) #[.int (1 : Int32), .int c0, .int c1] [] h ((q_str Z h [c0])) oNo := by
  refine oCtr.enter (Ls := #[.val (.int (1 : Int32)), .val (.int c0), .val (.int c1), .unset]) (plainFor_of_name pn9) hG.2.1 (fun m => by first | (simp [entryFrame, mkF, argsToLocals, Value.category]; done) | rfl) ?_
  intro pP eE sS mM bB tT cC
  refine oGo.iload_n (pc' := 1) d1_0 rfl rfl ?_
  refine oGo.if_ne (pc1 := 4) (pc2 := 15) d1_1 rfl (by decide) (fun q1 => ?_) (fun q => by first | exact absurd q (by decide) | exact absurd (by decide) q)
  refine oGo.iload_n (pc' := 16) d1_15 rfl rfl ?_
  refine oGo.iconst (pc' := 17) (v := 1) d1_16 rfl (by decide) ?_
  refine oGo.icmp_ne (pc1 := 20) (pc2 := 37) d1_17 rfl (by decide) (fun q => by first | exact absurd q (by decide) | exact absurd (by decide) q) (fun q2 => ?_)
  refine oGo.iconst (pc' := 21) (v := 1) d1_20 rfl (by decide) ?_
  refine oGo.newarray (pc' := 23) (k' := 1) (n' := 1) (i := 1) d1_21 rfl (w8 hG) rfl 1 (by decide) (by decide) rfl rfl (by decide) (by decide) (by decide) ?_
  intro h3 a4 qa4 la4 E5 A6'
  have A6 : oArr Z h3 a4 .char (List.replicate (1) (.int 0)) := A6'
  refine oGo.astore_n (pc' := 24) (Ls' := #[.val (.int (1 : Int32)), .val (.int c0), .val (.int c1), .val (.ref a4)]) d1_23 rfl rfl rfl ?_
  refine oGo.aload_n (pc' := 25) d1_24 rfl rfl rfl ?_
  refine oGo.iconst (pc' := 26) (v := 0) d1_25 rfl (by decide) ?_
  refine oGo.iload_n (pc' := 27) d1_26 rfl rfl ?_
  refine oGo.castore (pc' := 28) (i := 0) (w := c0) d1_27 rfl A6 rfl (by simp) (nar_char bc0.1 (own_255 bc0.2)) (by simp) ?_
  intro h7 W8 sh7 A9
  refine oGo.new (pc' := 31) (k' := 2) (n' := 5) d1_28 rfl (w5 hG) (w6 hG) (w7 hG) rfl rfl (by decide) (by decide) ?_
  intro h10 a11 qa11 la11 E12 X13 F14
  have f15 := F14 (Or.inr (w21 hG)) (ty := (.array .byte)) (by decide)
  have f16 := F14 (Or.inr (w22 hG)) (ty := .byte) (by decide)
  refine oGo.dup (pc' := 32) d1_31 rfl rfl ?_
  refine oGo.aload_n (pc' := 33) d1_32 rfl rfl rfl ?_
  have f17 := oArr.ext E12 A9
  have A18 : oArr Z h10 a4 .char (oI [c0]) := f17
  refine oGo.invokespecial (pc' := 36) (k' := 6) (n' := 13) (a := a11) (argsL := [.ref a4]) (rest := [.ref a11]) d1_33 rfl rfl (w9 hG) (w10 hG) (w7 hG) (w11 hG) (by decide) pd23 rfl rfl rfl (c_strI1 hG a11 a4 [c0] (by simp) (by intro c hc; simp only [List.mem_cons, List.not_mem_nil, or_false] at hc; rcases hc with rfl <;> first | decide | assumption) _ _ _ A18 X13 f15 f16) (by simp) (by decide) (Nat.le_of_ble_eq_true rfl) rfl rfl (by decide) (by decide) ?_
  intro v19 h20 sh20 q21
  obtain ⟨rfl, KX, tX, SX⟩ := q21
  have lxX := own_ltN SX.1.lt
  have ltX := own_ltN SX.2.2.2.1.lt
  refine ⟨_, fun _ hx => Or.inl hx, ?_⟩
  show oGo l Z a0 EL True pP eE sS mM _ bB tT cC _ _ _ _ _ _ _ _ [a11, a4] h20 6 13 36 #[.val (.int (1 : Int32)), .val (.int c0), .val (.int c1), .val (.ref a4)] [.ref a11]
  have z22 := own_le_le (x := h.size) (Nat.le_refl _) E5.1
  have z23 := own_le_le (x := h.size) z22 (Nat.le_of_eq (Wr.size W8).symm)
  have K24 : Keep h h20 [] := (((((Keep.refl h []).ext E5).wr W8 (Or.inr (own_le_le (x := h.size) (Nat.le_refl _) (own_ge_eq qa4)))).ext E12).trans KX (own_new1 (own_le_le (x := h.size) z23 (own_ge_eq qa11))))
  exact oGo.areturn d1_36 rfl rfl rfl rfl (by decide) (by decide) ⟨K24, a11, tX, rfl, SX⟩ (fun _ q => q.elim)
set_option maxRecDepth 65536 in
set_option maxHeartbeats 4000000 in
theorem c_mk2 {l : Launch} {Z : State} {a0 : Array Value} {EL : List (String × Nat)} (hG : oG a0 Z EL) (c0 c1 : Int32) (bc0 : ¬ c0 < 0 ∧ ¬ 255 < c0) (bc1 : ¬ c1 < 0 ∧ ¬ 255 < c1) (h : Heap)  :
    oCtr [] l Z a0 EL True (⟨"com/example/soft_sieve/softsieve/JudgedQueryToStringPinLaw", "mk", "(ICC)Ljava/lang/String;"⟩ : MethodName) method_3_code 4 (some (.object "java/lang/String")) ({ frames := 4, cells := 6, slots := 14, locals := 66 } : Room) #[.int (2 : Int32), .int c0, .int c1] [] h ((q_str Z h [c0, c1])) oNo := by
  refine oCtr.enter (Ls := #[.val (.int (2 : Int32)), .val (.int c0), .val (.int c1), .unset]) (plainFor_of_name pn9) hG.2.1 (fun m => by first | (simp [entryFrame, mkF, argsToLocals, Value.category]; done) | rfl) ?_
  intro pP eE sS mM bB tT cC
  refine oGo.iload_n (pc' := 1) d1_0 rfl rfl ?_
  refine oGo.if_ne (pc1 := 4) (pc2 := 15) d1_1 rfl (by decide) (fun q1 => ?_) (fun q => by first | exact absurd q (by decide) | exact absurd (by decide) q)
  refine oGo.iload_n (pc' := 16) d1_15 rfl rfl ?_
  refine oGo.iconst (pc' := 17) (v := 1) d1_16 rfl (by decide) ?_
  refine oGo.icmp_ne (pc1 := 20) (pc2 := 37) d1_17 rfl (by decide) (fun q2 => ?_) (fun q => by first | exact absurd q (by decide) | exact absurd (by decide) q)
  refine oGo.iconst (pc' := 38) (v := 2) d1_37 rfl (by decide) ?_
  refine oGo.newarray (pc' := 40) (k' := 1) (n' := 2) (i := 2) d1_38 rfl (w8 hG) rfl 2 (by decide) (by decide) rfl rfl (by decide) (by decide) (by decide) ?_
  intro h3 a4 qa4 la4 E5 A6'
  have A6 : oArr Z h3 a4 .char (List.replicate (2) (.int 0)) := A6'
  refine oGo.astore_n (pc' := 41) (Ls' := #[.val (.int (2 : Int32)), .val (.int c0), .val (.int c1), .val (.ref a4)]) d1_40 rfl rfl rfl ?_
  refine oGo.aload_n (pc' := 42) d1_41 rfl rfl rfl ?_
  refine oGo.iconst (pc' := 43) (v := 0) d1_42 rfl (by decide) ?_
  refine oGo.iload_n (pc' := 44) d1_43 rfl rfl ?_
  refine oGo.castore (pc' := 45) (i := 0) (w := c0) d1_44 rfl A6 rfl (by simp) (nar_char bc0.1 (own_255 bc0.2)) (by simp) ?_
  intro h7 W8 sh7 A9
  refine oGo.aload_n (pc' := 46) d1_45 rfl rfl rfl ?_
  refine oGo.iconst (pc' := 47) (v := 1) d1_46 rfl (by decide) ?_
  refine oGo.iload_n (pc' := 48) d1_47 rfl rfl ?_
  refine oGo.castore (pc' := 49) (i := 1) (w := c1) d1_48 rfl A9 rfl (by simp) (nar_char bc1.1 (own_255 bc1.2)) (by simp) ?_
  intro h10 W11 sh10 A12
  refine oGo.new (pc' := 52) (k' := 2) (n' := 6) d1_49 rfl (w5 hG) (w6 hG) (w7 hG) rfl rfl (by decide) (by decide) ?_
  intro h13 a14 qa14 la14 E15 X16 F17
  have f18 := F17 (Or.inr (w21 hG)) (ty := (.array .byte)) (by decide)
  have f19 := F17 (Or.inr (w22 hG)) (ty := .byte) (by decide)
  refine oGo.dup (pc' := 53) d1_52 rfl rfl ?_
  refine oGo.aload_n (pc' := 54) d1_53 rfl rfl rfl ?_
  have f20 := oArr.ext E15 A12
  have A21 : oArr Z h13 a4 .char (oI [c0, c1]) := f20
  refine oGo.invokespecial (pc' := 57) (k' := 6) (n' := 14) (a := a14) (argsL := [.ref a4]) (rest := [.ref a14]) d1_54 rfl rfl (w9 hG) (w10 hG) (w7 hG) (w11 hG) (by decide) pd23 rfl rfl rfl (c_strI1 hG a14 a4 [c0, c1] (by simp) (by intro c hc; simp only [List.mem_cons, List.not_mem_nil, or_false] at hc; rcases hc with rfl | rfl <;> first | decide | assumption) _ _ _ A21 X16 f18 f19) (by simp) (by decide) (Nat.le_of_ble_eq_true rfl) rfl rfl (by decide) (by decide) ?_
  intro v22 h23 sh23 q24
  obtain ⟨rfl, KX, tX, SX⟩ := q24
  have lxX := own_ltN SX.1.lt
  have ltX := own_ltN SX.2.2.2.1.lt
  refine ⟨_, fun _ hx => Or.inl hx, ?_⟩
  show oGo l Z a0 EL True pP eE sS mM _ bB tT cC _ _ _ _ _ _ _ _ [a14, a4] h23 6 14 57 #[.val (.int (2 : Int32)), .val (.int c0), .val (.int c1), .val (.ref a4)] [.ref a14]
  have z25 := own_le_le (x := h.size) (Nat.le_refl _) E5.1
  have z26 := own_le_le (x := h.size) z25 (Nat.le_of_eq (Wr.size W8).symm)
  have z27 := own_le_le (x := h.size) z26 (Nat.le_of_eq (Wr.size W11).symm)
  have K28 : Keep h h23 [] := ((((((Keep.refl h []).ext E5).wr W8 (Or.inr (own_le_le (x := h.size) (Nat.le_refl _) (own_ge_eq qa4)))).wr W11 (Or.inr (own_le_le (x := h.size) (Nat.le_refl _) (own_ge_eq qa4)))).ext E15).trans KX (own_new1 (own_le_le (x := h.size) z27 (own_ge_eq qa14))))
  exact oGo.areturn d1_57 rfl rfl rfl rfl (by decide) (by decide) ⟨K28, a14, tX, rfl, SX⟩ (fun _ q => q.elim)
set_option maxRecDepth 65536 in
set_option maxHeartbeats 4000000 in
theorem c_setOf {l : Launch} {Z : State} {a0 : Array Value} {EL : List (String × Nat)} (hG : oG a0 Z EL) (es : Nat) (h : Heap) (Se : Sta Z Z.heap "java/util/ImmutableCollections" "EMPTY_SET" "Ljava/util/ImmutableCollections$SetN;" (.ref es)) :
    oCtr [] l Z a0 EL True (⟨"java/util/Set", "of", "()Ljava/util/Set;"⟩ : MethodName) jdk_96_method_17_code 0 (some (.object "java/util/Set")) ({ frames := 0, cells := 0, slots := 0, locals := 0 } : Room) #[] [] h (fun v h' => v = some (.ref es) ∧ h' = h) oNo := by
  refine oCtr.enter (Ls := #[]) (plainFor_of_name pn10) hG.2.1 (fun m => by first | (simp [entryFrame, mkF, argsToLocals, Value.category]; done) | rfl) ?_
  intro pP eE sS mM bB tT cC
  refine oGo.getstatic (pc' := 3) d8_0 rfl (w45 hG) Via.refl Se ?_
  exact oGo.areturn d8_3 rfl rfl rfl rfl (by decide) (by decide) ⟨rfl, rfl⟩ (fun _ q => q.elim)
set_option maxRecDepth 65536 in
set_option maxHeartbeats 4000000 in
theorem c_copyOfSet {l : Launch} {Z : State} {a0 : Array Value} {EL : List (String × Nat)} (hG : oG a0 Z EL) (es : Nat) (h : Heap) (E : Exa Z h es "java/util/ImmutableCollections$SetN") :
    oCtr [] l Z a0 EL True (⟨"java/util/Set", "copyOf", "(Ljava/util/Collection;)Ljava/util/Set;"⟩ : MethodName) jdk_96_method_29_code 1 (some (.object "java/util/Set")) ({ frames := 0, cells := 0, slots := 0, locals := 0 } : Room) #[.ref es] [] h (fun v h' => v = some (.ref es) ∧ h' = h) oNo := by
  refine oCtr.enter (Ls := #[.val (.ref es)]) (plainFor_of_name pn10) hG.2.1 (fun m => by first | (simp [entryFrame, mkF, argsToLocals, Value.category]; done) | rfl) ?_
  intro pP eE sS mM bB tT cC
  refine oGo.aload_n (pc' := 1) d11_0 rfl rfl rfl ?_
  refine oGo.instanceof_y (pc' := 4) d11_1 rfl (w65 hG) (Ins.of_exa E (w66 hG)) ?_
  refine oGo.if_eq (pc1 := 7) (pc2 := 12) d11_4 rfl (by decide) (fun q => by first | exact absurd q (by decide) | exact absurd (by decide) q) (fun q1 => ?_)
  refine oGo.aload_n (pc' := 8) d11_7 rfl rfl rfl ?_
  refine oGo.checkcast (Cn := "") (pc' := 11) d11_8 rfl (w67 hG) (Ins.of_exa E (w68 hG)) ?_
  exact oGo.areturn d11_11 rfl rfl rfl rfl (by decide) (by decide) ⟨rfl, rfl⟩ (fun _ q => q.elim)
abbrev q_jq (Z : State) (h : Heap) (jq p r : Nat) : Option Value → Heap → Prop := fun v h' => v = none ∧ Keep h h' [jq] ∧ Exa Z h' jq "com/example/soft_sieve/softsieve/JudgedQuery" ∧ Fld Z h' jq "com/example/soft_sieve/softsieve/JudgedQuery" "id" "Ljava/lang/String;" (.ref p) ∧ Fld Z h' jq "com/example/soft_sieve/softsieve/JudgedQuery" "words" "Ljava/lang/String;" (.ref r)
set_option maxRecDepth 65536 in
set_option maxHeartbeats 4000000 in
theorem c_jq {l : Launch} {Z : State} {a0 : Array Value} {EL : List (String × Nat)} (hG : oG a0 Z EL) (jq p r es : Nat) (h : Heap) (E : Exa Z h jq "com/example/soft_sieve/softsieve/JudgedQuery") (Ep : Exa Z h p "java/lang/String") (Er : Exa Z h r "java/lang/String") (Es : Exa Z h es "java/util/ImmutableCollections$SetN") (F1 : Fld Z h jq "com/example/soft_sieve/softsieve/JudgedQuery" "id" "Ljava/lang/String;" .null) (F2 : Fld Z h jq "com/example/soft_sieve/softsieve/JudgedQuery" "words" "Ljava/lang/String;" .null) (F3 : Fld Z h jq "com/example/soft_sieve/softsieve/JudgedQuery" "relevant" "Ljava/util/Set;" .null) :
    oCtr [] l Z a0 EL True (⟨"com/example/soft_sieve/softsieve/JudgedQuery", "<init>", "(Ljava/lang/String;Ljava/lang/String;Ljava/util/Set;)V"⟩ : MethodName) prog_6_method_1_code 4 none ({ frames := 1, cells := 4, slots := 36, locals := 14 } : Room) #[.ref jq, .ref p, .ref r, .ref es] [jq] h ((q_jq Z h jq p r)) oNo := by
  have ljq := own_ltN E.lt
  refine oCtr.enter (Ls := #[.val (.ref jq), .val (.ref p), .val (.ref r), .val (.ref es)]) (plainFor_of_name pn11) hG.2.1 (fun m => by first | (simp [entryFrame, mkF, argsToLocals, Value.category]; done) | rfl) ?_
  intro pP eE sS mM bB tT cC
  refine oGo.aload_n (pc' := 1) d9_0 rfl rfl rfl ?_
  refine oGo.objinit (pc' := 4) d9_1 rfl (w50 hG) (w17 hG) (w18 hG) rfl (by decide) (Nat.le_of_ble_eq_true rfl) ?_
  refine oGo.aload_n (pc' := 5) d9_4 rfl rfl rfl ?_
  refine oGo.aload_n (pc' := 6) d9_5 rfl rfl rfl ?_
  refine oGo.ldc_op (pc' := 8) (k' := 2) (n' := 12) d9_6 rfl trivial (w51 hG) (strAt hG) (by decide) rfl rfl (by decide) (by decide) ?_
  intro h1 a2 E3
  have sh1 := E3.1
  refine oGo.invokestatic (pc' := 11) (k' := 2) (n' := 12) (argsL := [.ref p, .ref a2]) (rest := [.ref jq]) d9_8 rfl (w52 hG) (w53 hG) (w54 hG) (w55 hG) (by decide) pd24 rfl rfl rfl (c_rnn hG p a2 _) (by simp) (by decide) (Nat.le_of_ble_eq_true rfl) rfl rfl (by decide) (by decide) ?_
  intro v4 h5 sh5 q6
  obtain ⟨rfl, ee⟩ := q6
  obtain rfl := ee.symm
  refine ⟨_, fun _ hx => Or.inl hx, ?_⟩
  show oGo l Z a0 EL True pP eE sS mM _ bB tT cC _ _ _ _ _ _ _ _ [jq] h1 2 12 11 #[.val (.ref jq), .val (.ref p), .val (.ref r), .val (.ref es)] [.ref p, .ref jq]
  have f7 := Exa.ext E3 Ep
  refine oGo.checkcast (Cn := "") (pc' := 14) d9_11 rfl (w56 hG) (Ins.self f7) ?_
  have f8 := Fld.ext E3 F1
  have f9 := Exa.ext E3 E
  refine oGo.putfield (pc' := 17) (ty := (.object "java/lang/String")) d9_14 rfl (w57 hG) Via.refl f8 f9 (Or.inr ⟨(w58 hG), rfl, rfl⟩) (w39 hG) (by decide) rfl rfl (by simp) ?_
  intro h10 W11 sh10
  have f12 := Fld.same W11 f8
  refine oGo.aload_n (pc' := 18) d9_17 rfl rfl rfl ?_
  refine oGo.aload_n (pc' := 19) d9_18 rfl rfl rfl ?_
  refine oGo.ldc_op (pc' := 21) (k' := 4) (n' := 36) d9_19 rfl trivial (w59 hG) (strAt hG) (by decide) rfl rfl (by decide) (by decide) ?_
  intro h13 a14 E15
  have sh13 := E15.1
  refine oGo.invokestatic (pc' := 24) (k' := 4) (n' := 36) (argsL := [.ref r, .ref a14]) (rest := [.ref jq]) d9_21 rfl (w52 hG) (w53 hG) (w54 hG) (w55 hG) (by decide) pd24 rfl rfl rfl (c_rnn hG r a14 _) (by simp) (by decide) (Nat.le_of_ble_eq_true rfl) rfl rfl (by decide) (by decide) ?_
  intro v16 h17 sh17 q18
  obtain ⟨rfl, ee⟩ := q18
  obtain rfl := ee.symm
  refine ⟨_, fun _ hx => Or.inl hx, ?_⟩
  show oGo l Z a0 EL True pP eE sS mM _ bB tT cC _ _ _ _ _ _ _ _ [jq] h13 4 36 24 #[.val (.ref jq), .val (.ref p), .val (.ref r), .val (.ref es)] [.ref r, .ref jq]
  have f19 := Exa.ext E3 Er
  have f20 := Exa.wr W11 f19
  have f21 := Exa.ext E15 f20
  refine oGo.checkcast (Cn := "") (pc' := 27) d9_24 rfl (w56 hG) (Ins.self f21) ?_
  have f22 := Fld.ext E3 F2
  have f23 := Fld.other W11 f22 (Or.inr (slot_ne (C := "com/example/soft_sieve/softsieve/JudgedQuery") (Or.inr (w61 hG)) (Or.inr (w58 hG)) (by decide) (t := (.object "java/lang/String")) (t' := (.object "java/lang/String")) (by decide) (by decide)))
  have f24 := Fld.ext E15 f23
  have f25 := Exa.wr W11 f9
  have f26 := Exa.ext E15 f25
  refine oGo.putfield (pc' := 30) (ty := (.object "java/lang/String")) d9_27 rfl (w60 hG) Via.refl f24 f26 (Or.inr ⟨(w61 hG), rfl, rfl⟩) (w39 hG) (by decide) rfl rfl (by simp) ?_
  intro h27 W28 sh27
  have f29 := Fld.same W28 f24
  refine oGo.aload_n (pc' := 31) d9_30 rfl rfl rfl ?_
  refine oGo.aload_n (pc' := 32) d9_31 rfl rfl rfl ?_
  have f30 := Exa.ext E3 Es
  have f31 := Exa.wr W11 f30
  have f32 := Exa.ext E15 f31
  have f33 := Exa.wr W28 f32
  refine oGo.invokestatic (pc' := 35) (k' := 4) (n' := 36) (argsL := [.ref es]) (rest := [.ref jq]) d9_32 rfl (w62 hG) (w63 hG) (w43 hG) (w64 hG) (by decide) pd25 rfl rfl rfl (c_copyOfSet hG es _ f33) (by simp) (by decide) (Nat.le_of_ble_eq_true rfl) rfl rfl (by decide) (by decide) ?_
  intro v34 h35 sh35 q36
  obtain ⟨rfl, ee⟩ := q36
  obtain rfl := ee.symm
  refine ⟨_, fun _ hx => Or.inl hx, ?_⟩
  show oGo l Z a0 EL True pP eE sS mM _ bB tT cC _ _ _ _ _ _ _ _ [jq] h27 4 36 35 #[.val (.ref jq), .val (.ref p), .val (.ref r), .val (.ref es)] [.ref es, .ref jq]
  have f37 := Fld.ext E3 F3
  have f38 := Fld.other W11 f37 (Or.inr (slot_ne (C := "com/example/soft_sieve/softsieve/JudgedQuery") (Or.inr (w70 hG)) (Or.inr (w58 hG)) (by decide) (t := (.object "java/util/Set")) (t' := (.object "java/lang/String")) (by decide) (by decide)))
  have f39 := Fld.ext E15 f38
  have f40 := Fld.other W28 f39 (Or.inr (slot_ne (C := "com/example/soft_sieve/softsieve/JudgedQuery") (Or.inr (w70 hG)) (Or.inr (w61 hG)) (by decide) (t := (.object "java/util/Set")) (t' := (.object "java/lang/String")) (by decide) (by decide)))
  have f41 := Exa.wr W28 f26
  refine oGo.putfield (pc' := 38) (ty := (.object "java/util/Set")) d9_35 rfl (w69 hG) Via.refl f40 f41 (Or.inr ⟨(w70 hG), rfl, rfl⟩) (w39 hG) (by decide) rfl rfl (by simp) ?_
  intro h42 W43 sh42
  have f44 := Fld.same W43 f40
  have f45 := Exa.wr W43 f41
  have f46 := Fld.ext E15 f12
  have f47 := Fld.other W28 f46 (Or.inr (slot_ne (C := "com/example/soft_sieve/softsieve/JudgedQuery") (Or.inr (w58 hG)) (Or.inr (w61 hG)) (by decide) (t := (.object "java/lang/String")) (t' := (.object "java/lang/String")) (by decide) (by decide)))
  have f48 := Fld.other W43 f47 (Or.inr (slot_ne (C := "com/example/soft_sieve/softsieve/JudgedQuery") (Or.inr (w58 hG)) (Or.inr (w70 hG)) (by decide) (t := (.object "java/lang/String")) (t' := (.object "java/util/Set")) (by decide) (by decide)))
  have f49 := Fld.other W43 f29 (Or.inr (slot_ne (C := "com/example/soft_sieve/softsieve/JudgedQuery") (Or.inr (w61 hG)) (Or.inr (w70 hG)) (by decide) (t := (.object "java/lang/String")) (t' := (.object "java/util/Set")) (by decide) (by decide)))
  exact oGo.return_ d9_38 rfl (by decide) (by decide) ⟨rfl, ((((((Keep.refl h [jq]).ext E3).wr W11 (Or.inl (by simp))).ext E15).wr W28 (Or.inl (by simp))).wr W43 (Or.inl (by simp))), f45, f48, f49⟩ (fun _ q => q.elim)
set_option maxRecDepth 65536 in
set_option maxHeartbeats 4000000 in
theorem c_ts00 {l : Launch} {Z : State} {a0 : Array Value} {EL : List (String × Nat)} (hG : oG a0 Z EL) (jq p tp r tr : Nat) (h : Heap) (F1 : Fld Z h jq "com/example/soft_sieve/softsieve/JudgedQuery" "id" "Ljava/lang/String;" (.ref p)) (F2 : Fld Z h jq "com/example/soft_sieve/softsieve/JudgedQuery" "words" "Ljava/lang/String;" (.ref r)) (Sp : oS Z h p tp []) (Sr : oS Z h r tr []) :
    oCtr [] l Z a0 EL True (⟨"com/example/soft_sieve/softsieve/JudgedQuery", "toString", "()Ljava/lang/String;"⟩ : MethodName) prog_6_method_7_code 1 (some (.object "java/lang/String")) ({ frames := 6, cells := 20, slots := 1000, locals := 91 } : Room) #[.ref jq] [] h ((q_toStr Z h [74, 117, 100, 103, 101, 100, 81, 117, 101, 114, 121, 91, 105, 100, 61, 44, 32, 119, 111, 114, 100, 115, 61, 93])) oNo := by
  have ljq := own_ltN F1.lt
  have lp := own_ltN Sp.1.lt
  have ltp := own_ltN Sp.2.2.2.1.lt
  have lr := own_ltN Sr.1.lt
  have ltr := own_ltN Sr.2.2.2.1.lt
  refine oCtr.enter (Ls := #[.val (.ref jq)]) (plainFor_of_name pn11) hG.2.1 (fun m => by first | (simp [entryFrame, mkF, argsToLocals, Value.category]; done) | rfl) ?_
  intro pP eE sS mM bB tT cC
  refine oGo.new (pc' := 3) (k' := 1) (n' := 4) d12_0 rfl (w76 hG) (w77 hG) (w78 hG) rfl rfl (by decide) (by decide) ?_
  intro h1 a2 qa2 la2 E3 X4 F5
  have f6 := F5 (Or.inl (w91 hG)) (ty := (.array .byte)) (by decide)
  have f7 := F5 (Or.inl (w93 hG)) (ty := .byte) (by decide)
  have f8 := F5 (Or.inl (w116 hG)) (ty := .int) (by decide)
  refine oGo.dup (pc' := 4) d12_3 rfl rfl ?_
  refine oGo.invokespecial (pc' := 7) (k' := 2) (n' := 20) (a := a2) (argsL := []) (rest := [.ref a2]) d12_4 rfl rfl (w79 hG) (w80 hG) (w78 hG) (w81 hG) (by decide) pd26 rfl rfl rfl (c_sbInit hG a2 _ _ X4 f6 f7 f8) (by simp) (by decide) (Nat.le_of_ble_eq_true rfl) rfl rfl (by decide) (by decide) ?_
  intro v9 h10 sh10 q11
  obtain ⟨rfl, Kc0, bc0, hbc0, SBc0⟩ := q11
  have lbc0 : bc0 < h10.size := by obtain ⟨_, _, _, _, _, B, _⟩ := SBc0; exact own_ltN B.lt
  refine ⟨[bc0, a2], own_D1 (SBc0.2.1), ?_⟩
  show oGo l Z a0 EL True pP eE sS mM _ bB tT cC _ _ _ _ _ _ _ _ [bc0, a2] h10 2 20 7 #[.val (.ref jq)] [.ref a2]
  refine oGo.ldc_str (pc' := 9) (k' := 4) (n' := 84) (vs := oI (([74, 117, 100, 103, 101, 100, 81, 117, 101, 114, 121, 91, 105, 100, 61] : List Int32).map lo8)) d12_7 rfl trivial (w94 hG) (strAt hG) (hG.2.2.2 _ (by decide)) (by decide) (by decide) rfl rfl (by decide) (by decide) ?_
  intro h12 a13 b14 E15 Xa13 Ca13 Va13 Ba13 la13 lb14 na13
  have S16 : oS Z h12 a13 b14 [74, 117, 100, 103, 101, 100, 81, 117, 101, 114, 121, 91, 105, 100, 61] := ⟨Xa13, Va13, Ca13, Ba13, by decide⟩
  have f17 := SBc0.ext E15
  have f21 := Exa.ext E15 SBc0.1
  refine oGo.invokevirtual (pc' := 12) (k' := 5) (n' := 118) (a := a2) (argsL := [.ref a13]) (rest := []) d12_9 rfl (w95 hG) (w96 hG) (w98 hG) (w98 hG) rfl (w97 hG) (w78 hG) (w99 hG) (by decide) pd27 rfl rfl rfl f21 (c_append hG a2 bc0 a13 b14 [] [74, 117, 100, 103, 101, 100, 81, 117, 101, 114, 121, 91, 105, 100, 61] 16 (Nat.le_of_ble_eq_true rfl) (by decide) (Nat.lt_of_sub_pos (by simp)) ⟨(Ne.symm (na13 a2 (by simp)).1), (Ne.symm (na13 bc0 (by simp)).1), (Ne.symm (na13 a2 (by simp)).2), (Ne.symm (na13 bc0 (by simp)).2)⟩ _ f17 S16) (by simp) (by decide) (Nat.le_of_ble_eq_true rfl) rfl rfl (by decide) (by decide) ?_
  intro v18 h19 sh19 q20
  obtain ⟨rfl, Kc1, bc1, hbc1, SBc1'⟩ := q20
  have SBc1 : oSB Z h19 a2 bc1 [74, 117, 100, 103, 101, 100, 81, 117, 101, 114, 121, 91, 105, 100, 61] 16 := SBc1'
  have lbc1 : bc1 < h19.size := by obtain ⟨_, _, _, _, _, B, _⟩ := SBc1; exact own_ltN B.lt
  refine ⟨[bc1, bc0, a2], own_D1 (SBc1.2.1), ?_⟩
  show oGo l Z a0 EL True pP eE sS mM _ bB tT cC _ _ _ _ _ _ _ _ [bc1, bc0, a2] h19 5 118 12 #[.val (.ref jq)] [.ref a2]
  refine oGo.aload_n (pc' := 13) d12_12 rfl rfl rfl ?_
  have f22 := Fld.ext E3 F1
  have f23 := Fld.keep f22 Kc0 (own_nin1 (own_ne_ge (x := jq) (y := a2) ljq (own_ge_eq qa2)))
  have f24 := Fld.ext E15 f23
  have g26 := own_lt_le (x := jq) ljq E3.1
  have f25 := Fld.keep f24 Kc1 (own_nin2 (own_ne_ge (x := jq) (y := a2) ljq (own_ge_eq qa2)) (own_ne_ge (x := jq) (y := bc0) g26 hbc0))
  refine oGo.getfield (pc' := 16) d12_13 rfl (w57 hG) Via.refl f25 ?_
  have f27 := Sp.ext E3
  have f28 := f27.keep Kc0 (own_nin1 (own_ne_ge (x := p) (y := a2) lp (own_ge_eq qa2))) (own_nin1 (own_ne_ge (x := tp) (y := a2) ltp (own_ge_eq qa2)))
  have f29 := f28.ext E15
  have g31 := own_lt_le (x := p) lp E3.1
  have g32 := own_lt_le (x := tp) ltp E3.1
  have f30 := f29.keep Kc1 (own_nin2 (own_ne_ge (x := p) (y := a2) lp (own_ge_eq qa2)) (own_ne_ge (x := p) (y := bc0) g31 hbc0)) (own_nin2 (own_ne_ge (x := tp) (y := a2) ltp (own_ge_eq qa2)) (own_ne_ge (x := tp) (y := bc0) g32 hbc0))
  have g33 := own_lt_le (x := p) g31 Kc0.1
  have g34 := own_lt_le (x := p) g33 E15.1
  have g35 := own_lt_le (x := tp) g32 Kc0.1
  have g36 := own_lt_le (x := tp) g35 E15.1
  refine oGo.invokevirtual (pc' := 19) (k' := 6) (n' := 152) (a := a2) (argsL := [.ref p]) (rest := []) d12_16 rfl (w95 hG) (w96 hG) (w98 hG) (w98 hG) rfl (w97 hG) (w78 hG) (w99 hG) (by decide) pd27 rfl rfl rfl SBc1.1 (c_append hG a2 bc1 p tp [74, 117, 100, 103, 101, 100, 81, 117, 101, 114, 121, 91, 105, 100, 61] [] 16 (Nat.le_of_ble_eq_true rfl) (by decide) (Nat.lt_of_sub_pos (by simp)) ⟨(own_ne_ge (x := p) (y := a2) lp (own_ge_eq qa2)), (own_ne_or (x := p) (z := bc1) (own_ne_ge (x := p) (y := bc0) g31 hbc0) g34 hbc1), (own_ne_ge (x := tp) (y := a2) ltp (own_ge_eq qa2)), (own_ne_or (x := tp) (z := bc1) (own_ne_ge (x := tp) (y := bc0) g32 hbc0) g36 hbc1)⟩ _ SBc1 f30) (by simp) (by decide) (Nat.le_of_ble_eq_true rfl) rfl rfl (by decide) (by decide) ?_
  intro v37 h38 sh38 q39
  obtain ⟨rfl, Kc2, bc2, hbc2, SBc2'⟩ := q39
  have SBc2 : oSB Z h38 a2 bc2 [74, 117, 100, 103, 101, 100, 81, 117, 101, 114, 121, 91, 105, 100, 61] 16 := SBc2'
  have lbc2 : bc2 < h38.size := by obtain ⟨_, _, _, _, _, B, _⟩ := SBc2; exact own_ltN B.lt
  refine ⟨[bc2, bc1, bc0, a2], own_D1 (SBc2.2.1), ?_⟩
  show oGo l Z a0 EL True pP eE sS mM _ bB tT cC _ _ _ _ _ _ _ _ [bc2, bc1, bc0, a2] h38 6 152 19 #[.val (.ref jq)] [.ref a2]
  refine oGo.ldc_str (pc' := 21) (k' := 8) (n' := 188) (vs := oI (([44, 32, 119, 111, 114, 100, 115, 61] : List Int32).map lo8)) d12_19 rfl trivial (w142 hG) (strAt hG) (hG.2.2.2 _ (by decide)) (by decide) (by decide) rfl rfl (by decide) (by decide) ?_
  intro h40 a41 b42 E43 Xa41 Ca41 Va41 Ba41 la41 lb42 na41
  have S44 : oS Z h40 a41 b42 [44, 32, 119, 111, 114, 100, 115, 61] := ⟨Xa41, Va41, Ca41, Ba41, by decide⟩
  have f45 := SBc2.ext E43
  have f49 := Exa.ext E43 SBc2.1
  refine oGo.invokevirtual (pc' := 24) (k' := 9) (n' := 222) (a := a2) (argsL := [.ref a41]) (rest := []) d12_21 rfl (w95 hG) (w96 hG) (w98 hG) (w98 hG) rfl (w97 hG) (w78 hG) (w99 hG) (by decide) pd27 rfl rfl rfl f49 (c_append hG a2 bc2 a41 b42 [74, 117, 100, 103, 101, 100, 81, 117, 101, 114, 121, 91, 105, 100, 61] [44, 32, 119, 111, 114, 100, 115, 61] 16 (Nat.le_of_ble_eq_true rfl) (by decide) (Nat.lt_of_sub_pos (by simp)) ⟨(Ne.symm (na41 a2 (by simp)).1), (Ne.symm (na41 bc2 (by simp)).1), (Ne.symm (na41 a2 (by simp)).2), (Ne.symm (na41 bc2 (by simp)).2)⟩ _ f45 S44) (by simp) (by decide) (Nat.le_of_ble_eq_true rfl) rfl rfl (by decide) (by decide) ?_
  intro v46 h47 sh47 q48
  obtain ⟨rfl, Kc3, bc3, hbc3, SBc3'⟩ := q48
  have SBc3 : oSB Z h47 a2 bc3 [74, 117, 100, 103, 101, 100, 81, 117, 101, 114, 121, 91, 105, 100, 61, 44, 32, 119, 111, 114, 100, 115, 61] 34 := SBc3'
  have lbc3 : bc3 < h47.size := by obtain ⟨_, _, _, _, _, B, _⟩ := SBc3; exact own_ltN B.lt
  refine ⟨[bc3, bc2, bc1, bc0, a2], own_D1 (SBc3.2.1), ?_⟩
  show oGo l Z a0 EL True pP eE sS mM _ bB tT cC _ _ _ _ _ _ _ _ [bc3, bc2, bc1, bc0, a2] h47 9 222 24 #[.val (.ref jq)] [.ref a2]
  refine oGo.aload_n (pc' := 25) d12_24 rfl rfl rfl ?_
  have f50 := Fld.ext E3 F2
  have f51 := Fld.keep f50 Kc0 (own_nin1 (own_ne_ge (x := jq) (y := a2) ljq (own_ge_eq qa2)))
  have f52 := Fld.ext E15 f51
  have f53 := Fld.keep f52 Kc1 (own_nin2 (own_ne_ge (x := jq) (y := a2) ljq (own_ge_eq qa2)) (own_ne_ge (x := jq) (y := bc0) g26 hbc0))
  have g55 := own_lt_le (x := jq) g26 Kc0.1
  have g56 := own_lt_le (x := jq) g55 E15.1
  have f54 := Fld.keep f53 Kc2 (own_nin2 (own_ne_ge (x := jq) (y := a2) ljq (own_ge_eq qa2)) (own_ne_or (x := jq) (z := bc1) (own_ne_ge (x := jq) (y := bc0) g26 hbc0) g56 hbc1))
  have f57 := Fld.ext E43 f54
  have g59 := own_lt_le (x := jq) g56 Kc1.1
  have f58 := Fld.keep f57 Kc3 (own_nin2 (own_ne_ge (x := jq) (y := a2) ljq (own_ge_eq qa2)) (own_ne_or (x := jq) (z := bc2) (own_ne_or (x := jq) (z := bc1) (own_ne_ge (x := jq) (y := bc0) g26 hbc0) g56 hbc1) g59 hbc2))
  refine oGo.getfield (pc' := 28) d12_25 rfl (w60 hG) Via.refl f58 ?_
  have f60 := Sr.ext E3
  have f61 := f60.keep Kc0 (own_nin1 (own_ne_ge (x := r) (y := a2) lr (own_ge_eq qa2))) (own_nin1 (own_ne_ge (x := tr) (y := a2) ltr (own_ge_eq qa2)))
  have f62 := f61.ext E15
  have g64 := own_lt_le (x := r) lr E3.1
  have g65 := own_lt_le (x := tr) ltr E3.1
  have f63 := f62.keep Kc1 (own_nin2 (own_ne_ge (x := r) (y := a2) lr (own_ge_eq qa2)) (own_ne_ge (x := r) (y := bc0) g64 hbc0)) (own_nin2 (own_ne_ge (x := tr) (y := a2) ltr (own_ge_eq qa2)) (own_ne_ge (x := tr) (y := bc0) g65 hbc0))
  have g67 := own_lt_le (x := r) g64 Kc0.1
  have g68 := own_lt_le (x := r) g67 E15.1
  have g69 := own_lt_le (x := tr) g65 Kc0.1
  have g70 := own_lt_le (x := tr) g69 E15.1
  have f66 := f63.keep Kc2 (own_nin2 (own_ne_ge (x := r) (y := a2) lr (own_ge_eq qa2)) (own_ne_or (x := r) (z := bc1) (own_ne_ge (x := r) (y := bc0) g64 hbc0) g68 hbc1)) (own_nin2 (own_ne_ge (x := tr) (y := a2) ltr (own_ge_eq qa2)) (own_ne_or (x := tr) (z := bc1) (own_ne_ge (x := tr) (y := bc0) g65 hbc0) g70 hbc1))
  have f71 := f66.ext E43
  have g73 := own_lt_le (x := r) g68 Kc1.1
  have g74 := own_lt_le (x := tr) g70 Kc1.1
  have f72 := f71.keep Kc3 (own_nin2 (own_ne_ge (x := r) (y := a2) lr (own_ge_eq qa2)) (own_ne_or (x := r) (z := bc2) (own_ne_or (x := r) (z := bc1) (own_ne_ge (x := r) (y := bc0) g64 hbc0) g68 hbc1) g73 hbc2)) (own_nin2 (own_ne_ge (x := tr) (y := a2) ltr (own_ge_eq qa2)) (own_ne_or (x := tr) (z := bc2) (own_ne_or (x := tr) (z := bc1) (own_ne_ge (x := tr) (y := bc0) g65 hbc0) g70 hbc1) g74 hbc2))
  have g75 := own_lt_le (x := r) g73 Kc2.1
  have g76 := own_lt_le (x := r) g75 E43.1
  have g77 := own_lt_le (x := tr) g74 Kc2.1
  have g78 := own_lt_le (x := tr) g77 E43.1
  refine oGo.invokevirtual (pc' := 31) (k' := 10) (n' := 256) (a := a2) (argsL := [.ref r]) (rest := []) d12_28 rfl (w95 hG) (w96 hG) (w98 hG) (w98 hG) rfl (w97 hG) (w78 hG) (w99 hG) (by decide) pd27 rfl rfl rfl SBc3.1 (c_append hG a2 bc3 r tr [74, 117, 100, 103, 101, 100, 81, 117, 101, 114, 121, 91, 105, 100, 61, 44, 32, 119, 111, 114, 100, 115, 61] [] 34 (Nat.le_of_ble_eq_true rfl) (by decide) (Nat.lt_of_sub_pos (by simp)) ⟨(own_ne_ge (x := r) (y := a2) lr (own_ge_eq qa2)), (own_ne_or (x := r) (z := bc3) (own_ne_or (x := r) (z := bc2) (own_ne_or (x := r) (z := bc1) (own_ne_ge (x := r) (y := bc0) g64 hbc0) g68 hbc1) g73 hbc2) g76 hbc3), (own_ne_ge (x := tr) (y := a2) ltr (own_ge_eq qa2)), (own_ne_or (x := tr) (z := bc3) (own_ne_or (x := tr) (z := bc2) (own_ne_or (x := tr) (z := bc1) (own_ne_ge (x := tr) (y := bc0) g65 hbc0) g70 hbc1) g74 hbc2) g78 hbc3)⟩ _ SBc3 f72) (by simp) (by decide) (Nat.le_of_ble_eq_true rfl) rfl rfl (by decide) (by decide) ?_
  intro v79 h80 sh80 q81
  obtain ⟨rfl, Kc4, bc4, hbc4, SBc4'⟩ := q81
  have SBc4 : oSB Z h80 a2 bc4 [74, 117, 100, 103, 101, 100, 81, 117, 101, 114, 121, 91, 105, 100, 61, 44, 32, 119, 111, 114, 100, 115, 61] 34 := SBc4'
  have lbc4 : bc4 < h80.size := by obtain ⟨_, _, _, _, _, B, _⟩ := SBc4; exact own_ltN B.lt
  refine ⟨[bc4, bc3, bc2, bc1, bc0, a2], own_D1 (SBc4.2.1), ?_⟩
  show oGo l Z a0 EL True pP eE sS mM _ bB tT cC _ _ _ _ _ _ _ _ [bc4, bc3, bc2, bc1, bc0, a2] h80 10 256 31 #[.val (.ref jq)] [.ref a2]
  refine oGo.ldc_str (pc' := 33) (k' := 12) (n' := 264) (vs := oI (([93] : List Int32).map lo8)) d12_31 rfl trivial (w166 hG) (strAt hG) (hG.2.2.2 _ (by decide)) (by decide) (by decide) rfl rfl (by decide) (by decide) ?_
  intro h82 a83 b84 E85 Xa83 Ca83 Va83 Ba83 la83 lb84 na83
  have S86 : oS Z h82 a83 b84 [93] := ⟨Xa83, Va83, Ca83, Ba83, by decide⟩
  have f87 := SBc4.ext E85
  have f91 := Exa.ext E85 SBc4.1
  refine oGo.invokevirtual (pc' := 36) (k' := 13) (n' := 298) (a := a2) (argsL := [.ref a83]) (rest := []) d12_33 rfl (w95 hG) (w96 hG) (w98 hG) (w98 hG) rfl (w97 hG) (w78 hG) (w99 hG) (by decide) pd27 rfl rfl rfl f91 (c_append hG a2 bc4 a83 b84 [74, 117, 100, 103, 101, 100, 81, 117, 101, 114, 121, 91, 105, 100, 61, 44, 32, 119, 111, 114, 100, 115, 61] [93] 34 (Nat.le_of_ble_eq_true rfl) (by decide) (Nat.lt_of_sub_pos (by simp)) ⟨(Ne.symm (na83 a2 (by simp)).1), (Ne.symm (na83 bc4 (by simp)).1), (Ne.symm (na83 a2 (by simp)).2), (Ne.symm (na83 bc4 (by simp)).2)⟩ _ f87 S86) (by simp) (by decide) (Nat.le_of_ble_eq_true rfl) rfl rfl (by decide) (by decide) ?_
  intro v88 h89 sh89 q90
  obtain ⟨rfl, Kc5, bc5, hbc5, SBc5'⟩ := q90
  have SBc5 : oSB Z h89 a2 bc5 [74, 117, 100, 103, 101, 100, 81, 117, 101, 114, 121, 91, 105, 100, 61, 44, 32, 119, 111, 114, 100, 115, 61, 93] 34 := SBc5'
  have lbc5 : bc5 < h89.size := by obtain ⟨_, _, _, _, _, B, _⟩ := SBc5; exact own_ltN B.lt
  refine ⟨[bc5, bc4, bc3, bc2, bc1, bc0, a2], own_D1 (SBc5.2.1), ?_⟩
  show oGo l Z a0 EL True pP eE sS mM _ bB tT cC _ _ _ _ _ _ _ _ [bc5, bc4, bc3, bc2, bc1, bc0, a2] h89 13 298 36 #[.val (.ref jq)] [.ref a2]
  refine oGo.invokevirtual (pc' := 39) (k' := 15) (n' := 332) (a := a2) (argsL := []) (rest := []) d12_36 rfl (w167 hG) (w168 hG) (w170 hG) (w170 hG) rfl (w169 hG) (w78 hG) (w171 hG) (by decide) pd28 rfl rfl rfl SBc5.1 (c_toStr hG a2 bc5 [74, 117, 100, 103, 101, 100, 81, 117, 101, 114, 121, 91, 105, 100, 61, 44, 32, 119, 111, 114, 100, 115, 61, 93] 34 (by simp) (by simp) (by intro c hc; simp only [List.mem_cons, List.not_mem_nil, or_false] at hc; rcases hc with rfl | rfl | rfl | rfl | rfl | rfl | rfl | rfl | rfl | rfl | rfl | rfl | rfl | rfl | rfl | rfl | rfl | rfl | rfl | rfl | rfl | rfl | rfl | rfl <;> first | decide | assumption) _ SBc5) (by simp) (by decide) (Nat.le_of_ble_eq_true rfl) rfl rfl (by decide) (by decide) ?_
  intro v92 h93 sh93 q94
  obtain ⟨Kz, xz, tz, rfl, gxz, gtz, Sz⟩ := q94
  have lxz := own_ltN Sz.1.lt
  have ltz := own_ltN Sz.2.2.2.1.lt
  refine ⟨_, fun _ hx => Or.inl hx, ?_⟩
  show oGo l Z a0 EL True pP eE sS mM _ bB tT cC _ _ _ _ _ _ _ _ [bc5, bc4, bc3, bc2, bc1, bc0, a2] h93 15 332 39 #[.val (.ref jq)] [.ref xz]
  have z95 := own_le_le (x := h.size) (Nat.le_refl _) E3.1
  have z96 := own_le_le (x := h.size) z95 Kc0.1
  have z97 := own_le_le (x := h.size) z96 E15.1
  have z98 := own_le_le (x := h.size) z97 Kc1.1
  have z99 := own_le_le (x := h.size) z98 Kc2.1
  have z100 := own_le_le (x := h.size) z99 E43.1
  have z101 := own_le_le (x := h.size) z100 Kc3.1
  have K102 : Keep h h93 [] := ((((((((((((Keep.refl h []).ext E3).trans Kc0 (own_new1 (own_le_le (x := h.size) (Nat.le_refl _) (own_ge_eq qa2)))).ext E15).trans Kc1 (own_new2 (own_le_le (x := h.size) (Nat.le_refl _) (own_ge_eq qa2)) (own_le_le (x := h.size) z95 hbc0))).trans Kc2 (own_new2 (own_le_le (x := h.size) (Nat.le_refl _) (own_ge_eq qa2)) (own_ge_or (own_le_le (x := h.size) z95 hbc0) z97 hbc1))).ext E43).trans Kc3 (own_new2 (own_le_le (x := h.size) (Nat.le_refl _) (own_ge_eq qa2)) (own_ge_or (own_ge_or (own_le_le (x := h.size) z95 hbc0) z97 hbc1) z98 hbc2))).trans Kc4 (own_new2 (own_le_le (x := h.size) (Nat.le_refl _) (own_ge_eq qa2)) (own_ge_or (own_ge_or (own_ge_or (own_le_le (x := h.size) z95 hbc0) z97 hbc1) z98 hbc2) z100 hbc3))).ext E85).trans Kc5 (own_new2 (own_le_le (x := h.size) (Nat.le_refl _) (own_ge_eq qa2)) (own_ge_or (own_ge_or (own_ge_or (own_ge_or (own_le_le (x := h.size) z95 hbc0) z97 hbc1) z98 hbc2) z100 hbc3) z101 hbc4))).trans Kz (by simp))
  have z103 := own_le_le (x := h.size) z101 Kc4.1
  have z104 := own_le_le (x := h.size) z103 E85.1
  have z105 := own_le_le (x := h.size) z104 Kc5.1
  exact oGo.areturn d12_39 rfl rfl rfl rfl (by decide) (by decide) ⟨K102, xz, tz, rfl, (own_le_le (x := h.size) z105 gxz), (own_le_le (x := h.size) z105 gtz), Sz⟩ (fun _ q => q.elim)
set_option maxRecDepth 65536 in
set_option maxHeartbeats 4000000 in
theorem c_ts01 {l : Launch} {Z : State} {a0 : Array Value} {EL : List (String × Nat)} (hG : oG a0 Z EL) (jq p tp r tr : Nat) (r0 : Int32) (br0 : ¬ r0 < 0 ∧ ¬ 255 < r0) (h : Heap) (F1 : Fld Z h jq "com/example/soft_sieve/softsieve/JudgedQuery" "id" "Ljava/lang/String;" (.ref p)) (F2 : Fld Z h jq "com/example/soft_sieve/softsieve/JudgedQuery" "words" "Ljava/lang/String;" (.ref r)) (Sp : oS Z h p tp []) (Sr : oS Z h r tr [r0]) :
    oCtr [] l Z a0 EL True (⟨"com/example/soft_sieve/softsieve/JudgedQuery", "toString", "()Ljava/lang/String;"⟩ : MethodName) prog_6_method_7_code 1 (some (.object "java/lang/String")) ({ frames := 6, cells := 20, slots := 1000, locals := 91 } : Room) #[.ref jq] [] h ((q_toStr Z h [74, 117, 100, 103, 101, 100, 81, 117, 101, 114, 121, 91, 105, 100, 61, 44, 32, 119, 111, 114, 100, 115, 61, r0, 93])) oNo := by
  have ljq := own_ltN F1.lt
  have lp := own_ltN Sp.1.lt
  have ltp := own_ltN Sp.2.2.2.1.lt
  have lr := own_ltN Sr.1.lt
  have ltr := own_ltN Sr.2.2.2.1.lt
  refine oCtr.enter (Ls := #[.val (.ref jq)]) (plainFor_of_name pn11) hG.2.1 (fun m => by first | (simp [entryFrame, mkF, argsToLocals, Value.category]; done) | rfl) ?_
  intro pP eE sS mM bB tT cC
  refine oGo.new (pc' := 3) (k' := 1) (n' := 4) d12_0 rfl (w76 hG) (w77 hG) (w78 hG) rfl rfl (by decide) (by decide) ?_
  intro h1 a2 qa2 la2 E3 X4 F5
  have f6 := F5 (Or.inl (w91 hG)) (ty := (.array .byte)) (by decide)
  have f7 := F5 (Or.inl (w93 hG)) (ty := .byte) (by decide)
  have f8 := F5 (Or.inl (w116 hG)) (ty := .int) (by decide)
  refine oGo.dup (pc' := 4) d12_3 rfl rfl ?_
  refine oGo.invokespecial (pc' := 7) (k' := 2) (n' := 20) (a := a2) (argsL := []) (rest := [.ref a2]) d12_4 rfl rfl (w79 hG) (w80 hG) (w78 hG) (w81 hG) (by decide) pd26 rfl rfl rfl (c_sbInit hG a2 _ _ X4 f6 f7 f8) (by simp) (by decide) (Nat.le_of_ble_eq_true rfl) rfl rfl (by decide) (by decide) ?_
  intro v9 h10 sh10 q11
  obtain ⟨rfl, Kc0, bc0, hbc0, SBc0⟩ := q11
  have lbc0 : bc0 < h10.size := by obtain ⟨_, _, _, _, _, B, _⟩ := SBc0; exact own_ltN B.lt
  refine ⟨[bc0, a2], own_D1 (SBc0.2.1), ?_⟩
  show oGo l Z a0 EL True pP eE sS mM _ bB tT cC _ _ _ _ _ _ _ _ [bc0, a2] h10 2 20 7 #[.val (.ref jq)] [.ref a2]
  refine oGo.ldc_str (pc' := 9) (k' := 4) (n' := 84) (vs := oI (([74, 117, 100, 103, 101, 100, 81, 117, 101, 114, 121, 91, 105, 100, 61] : List Int32).map lo8)) d12_7 rfl trivial (w94 hG) (strAt hG) (hG.2.2.2 _ (by decide)) (by decide) (by decide) rfl rfl (by decide) (by decide) ?_
  intro h12 a13 b14 E15 Xa13 Ca13 Va13 Ba13 la13 lb14 na13
  have S16 : oS Z h12 a13 b14 [74, 117, 100, 103, 101, 100, 81, 117, 101, 114, 121, 91, 105, 100, 61] := ⟨Xa13, Va13, Ca13, Ba13, by decide⟩
  have f17 := SBc0.ext E15
  have f21 := Exa.ext E15 SBc0.1
  refine oGo.invokevirtual (pc' := 12) (k' := 5) (n' := 118) (a := a2) (argsL := [.ref a13]) (rest := []) d12_9 rfl (w95 hG) (w96 hG) (w98 hG) (w98 hG) rfl (w97 hG) (w78 hG) (w99 hG) (by decide) pd27 rfl rfl rfl f21 (c_append hG a2 bc0 a13 b14 [] [74, 117, 100, 103, 101, 100, 81, 117, 101, 114, 121, 91, 105, 100, 61] 16 (Nat.le_of_ble_eq_true rfl) (by decide) (Nat.lt_of_sub_pos (by simp)) ⟨(Ne.symm (na13 a2 (by simp)).1), (Ne.symm (na13 bc0 (by simp)).1), (Ne.symm (na13 a2 (by simp)).2), (Ne.symm (na13 bc0 (by simp)).2)⟩ _ f17 S16) (by simp) (by decide) (Nat.le_of_ble_eq_true rfl) rfl rfl (by decide) (by decide) ?_
  intro v18 h19 sh19 q20
  obtain ⟨rfl, Kc1, bc1, hbc1, SBc1'⟩ := q20
  have SBc1 : oSB Z h19 a2 bc1 [74, 117, 100, 103, 101, 100, 81, 117, 101, 114, 121, 91, 105, 100, 61] 16 := SBc1'
  have lbc1 : bc1 < h19.size := by obtain ⟨_, _, _, _, _, B, _⟩ := SBc1; exact own_ltN B.lt
  refine ⟨[bc1, bc0, a2], own_D1 (SBc1.2.1), ?_⟩
  show oGo l Z a0 EL True pP eE sS mM _ bB tT cC _ _ _ _ _ _ _ _ [bc1, bc0, a2] h19 5 118 12 #[.val (.ref jq)] [.ref a2]
  refine oGo.aload_n (pc' := 13) d12_12 rfl rfl rfl ?_
  have f22 := Fld.ext E3 F1
  have f23 := Fld.keep f22 Kc0 (own_nin1 (own_ne_ge (x := jq) (y := a2) ljq (own_ge_eq qa2)))
  have f24 := Fld.ext E15 f23
  have g26 := own_lt_le (x := jq) ljq E3.1
  have f25 := Fld.keep f24 Kc1 (own_nin2 (own_ne_ge (x := jq) (y := a2) ljq (own_ge_eq qa2)) (own_ne_ge (x := jq) (y := bc0) g26 hbc0))
  refine oGo.getfield (pc' := 16) d12_13 rfl (w57 hG) Via.refl f25 ?_
  have f27 := Sp.ext E3
  have f28 := f27.keep Kc0 (own_nin1 (own_ne_ge (x := p) (y := a2) lp (own_ge_eq qa2))) (own_nin1 (own_ne_ge (x := tp) (y := a2) ltp (own_ge_eq qa2)))
  have f29 := f28.ext E15
  have g31 := own_lt_le (x := p) lp E3.1
  have g32 := own_lt_le (x := tp) ltp E3.1
  have f30 := f29.keep Kc1 (own_nin2 (own_ne_ge (x := p) (y := a2) lp (own_ge_eq qa2)) (own_ne_ge (x := p) (y := bc0) g31 hbc0)) (own_nin2 (own_ne_ge (x := tp) (y := a2) ltp (own_ge_eq qa2)) (own_ne_ge (x := tp) (y := bc0) g32 hbc0))
  have g33 := own_lt_le (x := p) g31 Kc0.1
  have g34 := own_lt_le (x := p) g33 E15.1
  have g35 := own_lt_le (x := tp) g32 Kc0.1
  have g36 := own_lt_le (x := tp) g35 E15.1
  refine oGo.invokevirtual (pc' := 19) (k' := 6) (n' := 152) (a := a2) (argsL := [.ref p]) (rest := []) d12_16 rfl (w95 hG) (w96 hG) (w98 hG) (w98 hG) rfl (w97 hG) (w78 hG) (w99 hG) (by decide) pd27 rfl rfl rfl SBc1.1 (c_append hG a2 bc1 p tp [74, 117, 100, 103, 101, 100, 81, 117, 101, 114, 121, 91, 105, 100, 61] [] 16 (Nat.le_of_ble_eq_true rfl) (by decide) (Nat.lt_of_sub_pos (by simp)) ⟨(own_ne_ge (x := p) (y := a2) lp (own_ge_eq qa2)), (own_ne_or (x := p) (z := bc1) (own_ne_ge (x := p) (y := bc0) g31 hbc0) g34 hbc1), (own_ne_ge (x := tp) (y := a2) ltp (own_ge_eq qa2)), (own_ne_or (x := tp) (z := bc1) (own_ne_ge (x := tp) (y := bc0) g32 hbc0) g36 hbc1)⟩ _ SBc1 f30) (by simp) (by decide) (Nat.le_of_ble_eq_true rfl) rfl rfl (by decide) (by decide) ?_
  intro v37 h38 sh38 q39
  obtain ⟨rfl, Kc2, bc2, hbc2, SBc2'⟩ := q39
  have SBc2 : oSB Z h38 a2 bc2 [74, 117, 100, 103, 101, 100, 81, 117, 101, 114, 121, 91, 105, 100, 61] 16 := SBc2'
  have lbc2 : bc2 < h38.size := by obtain ⟨_, _, _, _, _, B, _⟩ := SBc2; exact own_ltN B.lt
  refine ⟨[bc2, bc1, bc0, a2], own_D1 (SBc2.2.1), ?_⟩
  show oGo l Z a0 EL True pP eE sS mM _ bB tT cC _ _ _ _ _ _ _ _ [bc2, bc1, bc0, a2] h38 6 152 19 #[.val (.ref jq)] [.ref a2]
  refine oGo.ldc_str (pc' := 21) (k' := 8) (n' := 188) (vs := oI (([44, 32, 119, 111, 114, 100, 115, 61] : List Int32).map lo8)) d12_19 rfl trivial (w142 hG) (strAt hG) (hG.2.2.2 _ (by decide)) (by decide) (by decide) rfl rfl (by decide) (by decide) ?_
  intro h40 a41 b42 E43 Xa41 Ca41 Va41 Ba41 la41 lb42 na41
  have S44 : oS Z h40 a41 b42 [44, 32, 119, 111, 114, 100, 115, 61] := ⟨Xa41, Va41, Ca41, Ba41, by decide⟩
  have f45 := SBc2.ext E43
  have f49 := Exa.ext E43 SBc2.1
  refine oGo.invokevirtual (pc' := 24) (k' := 9) (n' := 222) (a := a2) (argsL := [.ref a41]) (rest := []) d12_21 rfl (w95 hG) (w96 hG) (w98 hG) (w98 hG) rfl (w97 hG) (w78 hG) (w99 hG) (by decide) pd27 rfl rfl rfl f49 (c_append hG a2 bc2 a41 b42 [74, 117, 100, 103, 101, 100, 81, 117, 101, 114, 121, 91, 105, 100, 61] [44, 32, 119, 111, 114, 100, 115, 61] 16 (Nat.le_of_ble_eq_true rfl) (by decide) (Nat.lt_of_sub_pos (by simp)) ⟨(Ne.symm (na41 a2 (by simp)).1), (Ne.symm (na41 bc2 (by simp)).1), (Ne.symm (na41 a2 (by simp)).2), (Ne.symm (na41 bc2 (by simp)).2)⟩ _ f45 S44) (by simp) (by decide) (Nat.le_of_ble_eq_true rfl) rfl rfl (by decide) (by decide) ?_
  intro v46 h47 sh47 q48
  obtain ⟨rfl, Kc3, bc3, hbc3, SBc3'⟩ := q48
  have SBc3 : oSB Z h47 a2 bc3 [74, 117, 100, 103, 101, 100, 81, 117, 101, 114, 121, 91, 105, 100, 61, 44, 32, 119, 111, 114, 100, 115, 61] 34 := SBc3'
  have lbc3 : bc3 < h47.size := by obtain ⟨_, _, _, _, _, B, _⟩ := SBc3; exact own_ltN B.lt
  refine ⟨[bc3, bc2, bc1, bc0, a2], own_D1 (SBc3.2.1), ?_⟩
  show oGo l Z a0 EL True pP eE sS mM _ bB tT cC _ _ _ _ _ _ _ _ [bc3, bc2, bc1, bc0, a2] h47 9 222 24 #[.val (.ref jq)] [.ref a2]
  refine oGo.aload_n (pc' := 25) d12_24 rfl rfl rfl ?_
  have f50 := Fld.ext E3 F2
  have f51 := Fld.keep f50 Kc0 (own_nin1 (own_ne_ge (x := jq) (y := a2) ljq (own_ge_eq qa2)))
  have f52 := Fld.ext E15 f51
  have f53 := Fld.keep f52 Kc1 (own_nin2 (own_ne_ge (x := jq) (y := a2) ljq (own_ge_eq qa2)) (own_ne_ge (x := jq) (y := bc0) g26 hbc0))
  have g55 := own_lt_le (x := jq) g26 Kc0.1
  have g56 := own_lt_le (x := jq) g55 E15.1
  have f54 := Fld.keep f53 Kc2 (own_nin2 (own_ne_ge (x := jq) (y := a2) ljq (own_ge_eq qa2)) (own_ne_or (x := jq) (z := bc1) (own_ne_ge (x := jq) (y := bc0) g26 hbc0) g56 hbc1))
  have f57 := Fld.ext E43 f54
  have g59 := own_lt_le (x := jq) g56 Kc1.1
  have f58 := Fld.keep f57 Kc3 (own_nin2 (own_ne_ge (x := jq) (y := a2) ljq (own_ge_eq qa2)) (own_ne_or (x := jq) (z := bc2) (own_ne_or (x := jq) (z := bc1) (own_ne_ge (x := jq) (y := bc0) g26 hbc0) g56 hbc1) g59 hbc2))
  refine oGo.getfield (pc' := 28) d12_25 rfl (w60 hG) Via.refl f58 ?_
  have f60 := Sr.ext E3
  have f61 := f60.keep Kc0 (own_nin1 (own_ne_ge (x := r) (y := a2) lr (own_ge_eq qa2))) (own_nin1 (own_ne_ge (x := tr) (y := a2) ltr (own_ge_eq qa2)))
  have f62 := f61.ext E15
  have g64 := own_lt_le (x := r) lr E3.1
  have g65 := own_lt_le (x := tr) ltr E3.1
  have f63 := f62.keep Kc1 (own_nin2 (own_ne_ge (x := r) (y := a2) lr (own_ge_eq qa2)) (own_ne_ge (x := r) (y := bc0) g64 hbc0)) (own_nin2 (own_ne_ge (x := tr) (y := a2) ltr (own_ge_eq qa2)) (own_ne_ge (x := tr) (y := bc0) g65 hbc0))
  have g67 := own_lt_le (x := r) g64 Kc0.1
  have g68 := own_lt_le (x := r) g67 E15.1
  have g69 := own_lt_le (x := tr) g65 Kc0.1
  have g70 := own_lt_le (x := tr) g69 E15.1
  have f66 := f63.keep Kc2 (own_nin2 (own_ne_ge (x := r) (y := a2) lr (own_ge_eq qa2)) (own_ne_or (x := r) (z := bc1) (own_ne_ge (x := r) (y := bc0) g64 hbc0) g68 hbc1)) (own_nin2 (own_ne_ge (x := tr) (y := a2) ltr (own_ge_eq qa2)) (own_ne_or (x := tr) (z := bc1) (own_ne_ge (x := tr) (y := bc0) g65 hbc0) g70 hbc1))
  have f71 := f66.ext E43
  have g73 := own_lt_le (x := r) g68 Kc1.1
  have g74 := own_lt_le (x := tr) g70 Kc1.1
  have f72 := f71.keep Kc3 (own_nin2 (own_ne_ge (x := r) (y := a2) lr (own_ge_eq qa2)) (own_ne_or (x := r) (z := bc2) (own_ne_or (x := r) (z := bc1) (own_ne_ge (x := r) (y := bc0) g64 hbc0) g68 hbc1) g73 hbc2)) (own_nin2 (own_ne_ge (x := tr) (y := a2) ltr (own_ge_eq qa2)) (own_ne_or (x := tr) (z := bc2) (own_ne_or (x := tr) (z := bc1) (own_ne_ge (x := tr) (y := bc0) g65 hbc0) g70 hbc1) g74 hbc2))
  have g75 := own_lt_le (x := r) g73 Kc2.1
  have g76 := own_lt_le (x := r) g75 E43.1
  have g77 := own_lt_le (x := tr) g74 Kc2.1
  have g78 := own_lt_le (x := tr) g77 E43.1
  refine oGo.invokevirtual (pc' := 31) (k' := 10) (n' := 256) (a := a2) (argsL := [.ref r]) (rest := []) d12_28 rfl (w95 hG) (w96 hG) (w98 hG) (w98 hG) rfl (w97 hG) (w78 hG) (w99 hG) (by decide) pd27 rfl rfl rfl SBc3.1 (c_append hG a2 bc3 r tr [74, 117, 100, 103, 101, 100, 81, 117, 101, 114, 121, 91, 105, 100, 61, 44, 32, 119, 111, 114, 100, 115, 61] [r0] 34 (Nat.le_of_ble_eq_true rfl) (by decide) (Nat.lt_of_sub_pos (by simp)) ⟨(own_ne_ge (x := r) (y := a2) lr (own_ge_eq qa2)), (own_ne_or (x := r) (z := bc3) (own_ne_or (x := r) (z := bc2) (own_ne_or (x := r) (z := bc1) (own_ne_ge (x := r) (y := bc0) g64 hbc0) g68 hbc1) g73 hbc2) g76 hbc3), (own_ne_ge (x := tr) (y := a2) ltr (own_ge_eq qa2)), (own_ne_or (x := tr) (z := bc3) (own_ne_or (x := tr) (z := bc2) (own_ne_or (x := tr) (z := bc1) (own_ne_ge (x := tr) (y := bc0) g65 hbc0) g70 hbc1) g74 hbc2) g78 hbc3)⟩ _ SBc3 f72) (by simp) (by decide) (Nat.le_of_ble_eq_true rfl) rfl rfl (by decide) (by decide) ?_
  intro v79 h80 sh80 q81
  obtain ⟨rfl, Kc4, bc4, hbc4, SBc4'⟩ := q81
  have SBc4 : oSB Z h80 a2 bc4 [74, 117, 100, 103, 101, 100, 81, 117, 101, 114, 121, 91, 105, 100, 61, 44, 32, 119, 111, 114, 100, 115, 61, r0] 34 := SBc4'
  have lbc4 : bc4 < h80.size := by obtain ⟨_, _, _, _, _, B, _⟩ := SBc4; exact own_ltN B.lt
  refine ⟨[bc4, bc3, bc2, bc1, bc0, a2], own_D1 (SBc4.2.1), ?_⟩
  show oGo l Z a0 EL True pP eE sS mM _ bB tT cC _ _ _ _ _ _ _ _ [bc4, bc3, bc2, bc1, bc0, a2] h80 10 256 31 #[.val (.ref jq)] [.ref a2]
  refine oGo.ldc_str (pc' := 33) (k' := 12) (n' := 264) (vs := oI (([93] : List Int32).map lo8)) d12_31 rfl trivial (w166 hG) (strAt hG) (hG.2.2.2 _ (by decide)) (by decide) (by decide) rfl rfl (by decide) (by decide) ?_
  intro h82 a83 b84 E85 Xa83 Ca83 Va83 Ba83 la83 lb84 na83
  have S86 : oS Z h82 a83 b84 [93] := ⟨Xa83, Va83, Ca83, Ba83, by decide⟩
  have f87 := SBc4.ext E85
  have f91 := Exa.ext E85 SBc4.1
  refine oGo.invokevirtual (pc' := 36) (k' := 13) (n' := 298) (a := a2) (argsL := [.ref a83]) (rest := []) d12_33 rfl (w95 hG) (w96 hG) (w98 hG) (w98 hG) rfl (w97 hG) (w78 hG) (w99 hG) (by decide) pd27 rfl rfl rfl f91 (c_append hG a2 bc4 a83 b84 [74, 117, 100, 103, 101, 100, 81, 117, 101, 114, 121, 91, 105, 100, 61, 44, 32, 119, 111, 114, 100, 115, 61, r0] [93] 34 (Nat.le_of_ble_eq_true rfl) (by decide) (Nat.lt_of_sub_pos (by simp)) ⟨(Ne.symm (na83 a2 (by simp)).1), (Ne.symm (na83 bc4 (by simp)).1), (Ne.symm (na83 a2 (by simp)).2), (Ne.symm (na83 bc4 (by simp)).2)⟩ _ f87 S86) (by simp) (by decide) (Nat.le_of_ble_eq_true rfl) rfl rfl (by decide) (by decide) ?_
  intro v88 h89 sh89 q90
  obtain ⟨rfl, Kc5, bc5, hbc5, SBc5'⟩ := q90
  have SBc5 : oSB Z h89 a2 bc5 [74, 117, 100, 103, 101, 100, 81, 117, 101, 114, 121, 91, 105, 100, 61, 44, 32, 119, 111, 114, 100, 115, 61, r0, 93] 34 := SBc5'
  have lbc5 : bc5 < h89.size := by obtain ⟨_, _, _, _, _, B, _⟩ := SBc5; exact own_ltN B.lt
  refine ⟨[bc5, bc4, bc3, bc2, bc1, bc0, a2], own_D1 (SBc5.2.1), ?_⟩
  show oGo l Z a0 EL True pP eE sS mM _ bB tT cC _ _ _ _ _ _ _ _ [bc5, bc4, bc3, bc2, bc1, bc0, a2] h89 13 298 36 #[.val (.ref jq)] [.ref a2]
  refine oGo.invokevirtual (pc' := 39) (k' := 15) (n' := 332) (a := a2) (argsL := []) (rest := []) d12_36 rfl (w167 hG) (w168 hG) (w170 hG) (w170 hG) rfl (w169 hG) (w78 hG) (w171 hG) (by decide) pd28 rfl rfl rfl SBc5.1 (c_toStr hG a2 bc5 [74, 117, 100, 103, 101, 100, 81, 117, 101, 114, 121, 91, 105, 100, 61, 44, 32, 119, 111, 114, 100, 115, 61, r0, 93] 34 (by simp) (by simp) (by intro c hc; simp only [List.mem_cons, List.not_mem_nil, or_false] at hc; rcases hc with rfl | rfl | rfl | rfl | rfl | rfl | rfl | rfl | rfl | rfl | rfl | rfl | rfl | rfl | rfl | rfl | rfl | rfl | rfl | rfl | rfl | rfl | rfl | rfl | rfl <;> first | decide | assumption) _ SBc5) (by simp) (by decide) (Nat.le_of_ble_eq_true rfl) rfl rfl (by decide) (by decide) ?_
  intro v92 h93 sh93 q94
  obtain ⟨Kz, xz, tz, rfl, gxz, gtz, Sz⟩ := q94
  have lxz := own_ltN Sz.1.lt
  have ltz := own_ltN Sz.2.2.2.1.lt
  refine ⟨_, fun _ hx => Or.inl hx, ?_⟩
  show oGo l Z a0 EL True pP eE sS mM _ bB tT cC _ _ _ _ _ _ _ _ [bc5, bc4, bc3, bc2, bc1, bc0, a2] h93 15 332 39 #[.val (.ref jq)] [.ref xz]
  have z95 := own_le_le (x := h.size) (Nat.le_refl _) E3.1
  have z96 := own_le_le (x := h.size) z95 Kc0.1
  have z97 := own_le_le (x := h.size) z96 E15.1
  have z98 := own_le_le (x := h.size) z97 Kc1.1
  have z99 := own_le_le (x := h.size) z98 Kc2.1
  have z100 := own_le_le (x := h.size) z99 E43.1
  have z101 := own_le_le (x := h.size) z100 Kc3.1
  have K102 : Keep h h93 [] := ((((((((((((Keep.refl h []).ext E3).trans Kc0 (own_new1 (own_le_le (x := h.size) (Nat.le_refl _) (own_ge_eq qa2)))).ext E15).trans Kc1 (own_new2 (own_le_le (x := h.size) (Nat.le_refl _) (own_ge_eq qa2)) (own_le_le (x := h.size) z95 hbc0))).trans Kc2 (own_new2 (own_le_le (x := h.size) (Nat.le_refl _) (own_ge_eq qa2)) (own_ge_or (own_le_le (x := h.size) z95 hbc0) z97 hbc1))).ext E43).trans Kc3 (own_new2 (own_le_le (x := h.size) (Nat.le_refl _) (own_ge_eq qa2)) (own_ge_or (own_ge_or (own_le_le (x := h.size) z95 hbc0) z97 hbc1) z98 hbc2))).trans Kc4 (own_new2 (own_le_le (x := h.size) (Nat.le_refl _) (own_ge_eq qa2)) (own_ge_or (own_ge_or (own_ge_or (own_le_le (x := h.size) z95 hbc0) z97 hbc1) z98 hbc2) z100 hbc3))).ext E85).trans Kc5 (own_new2 (own_le_le (x := h.size) (Nat.le_refl _) (own_ge_eq qa2)) (own_ge_or (own_ge_or (own_ge_or (own_ge_or (own_le_le (x := h.size) z95 hbc0) z97 hbc1) z98 hbc2) z100 hbc3) z101 hbc4))).trans Kz (by simp))
  have z103 := own_le_le (x := h.size) z101 Kc4.1
  have z104 := own_le_le (x := h.size) z103 E85.1
  have z105 := own_le_le (x := h.size) z104 Kc5.1
  exact oGo.areturn d12_39 rfl rfl rfl rfl (by decide) (by decide) ⟨K102, xz, tz, rfl, (own_le_le (x := h.size) z105 gxz), (own_le_le (x := h.size) z105 gtz), Sz⟩ (fun _ q => q.elim)
set_option maxRecDepth 65536 in
set_option maxHeartbeats 4000000 in
theorem c_ts02 {l : Launch} {Z : State} {a0 : Array Value} {EL : List (String × Nat)} (hG : oG a0 Z EL) (jq p tp r tr : Nat) (r0 r1 : Int32) (br0 : ¬ r0 < 0 ∧ ¬ 255 < r0) (br1 : ¬ r1 < 0 ∧ ¬ 255 < r1) (h : Heap) (F1 : Fld Z h jq "com/example/soft_sieve/softsieve/JudgedQuery" "id" "Ljava/lang/String;" (.ref p)) (F2 : Fld Z h jq "com/example/soft_sieve/softsieve/JudgedQuery" "words" "Ljava/lang/String;" (.ref r)) (Sp : oS Z h p tp []) (Sr : oS Z h r tr [r0, r1]) :
    oCtr [] l Z a0 EL True (⟨"com/example/soft_sieve/softsieve/JudgedQuery", "toString", "()Ljava/lang/String;"⟩ : MethodName) prog_6_method_7_code 1 (some (.object "java/lang/String")) ({ frames := 6, cells := 20, slots := 1000, locals := 91 } : Room) #[.ref jq] [] h ((q_toStr Z h [74, 117, 100, 103, 101, 100, 81, 117, 101, 114, 121, 91, 105, 100, 61, 44, 32, 119, 111, 114, 100, 115, 61, r0, r1, 93])) oNo := by
  have ljq := own_ltN F1.lt
  have lp := own_ltN Sp.1.lt
  have ltp := own_ltN Sp.2.2.2.1.lt
  have lr := own_ltN Sr.1.lt
  have ltr := own_ltN Sr.2.2.2.1.lt
  refine oCtr.enter (Ls := #[.val (.ref jq)]) (plainFor_of_name pn11) hG.2.1 (fun m => by first | (simp [entryFrame, mkF, argsToLocals, Value.category]; done) | rfl) ?_
  intro pP eE sS mM bB tT cC
  refine oGo.new (pc' := 3) (k' := 1) (n' := 4) d12_0 rfl (w76 hG) (w77 hG) (w78 hG) rfl rfl (by decide) (by decide) ?_
  intro h1 a2 qa2 la2 E3 X4 F5
  have f6 := F5 (Or.inl (w91 hG)) (ty := (.array .byte)) (by decide)
  have f7 := F5 (Or.inl (w93 hG)) (ty := .byte) (by decide)
  have f8 := F5 (Or.inl (w116 hG)) (ty := .int) (by decide)
  refine oGo.dup (pc' := 4) d12_3 rfl rfl ?_
  refine oGo.invokespecial (pc' := 7) (k' := 2) (n' := 20) (a := a2) (argsL := []) (rest := [.ref a2]) d12_4 rfl rfl (w79 hG) (w80 hG) (w78 hG) (w81 hG) (by decide) pd26 rfl rfl rfl (c_sbInit hG a2 _ _ X4 f6 f7 f8) (by simp) (by decide) (Nat.le_of_ble_eq_true rfl) rfl rfl (by decide) (by decide) ?_
  intro v9 h10 sh10 q11
  obtain ⟨rfl, Kc0, bc0, hbc0, SBc0⟩ := q11
  have lbc0 : bc0 < h10.size := by obtain ⟨_, _, _, _, _, B, _⟩ := SBc0; exact own_ltN B.lt
  refine ⟨[bc0, a2], own_D1 (SBc0.2.1), ?_⟩
  show oGo l Z a0 EL True pP eE sS mM _ bB tT cC _ _ _ _ _ _ _ _ [bc0, a2] h10 2 20 7 #[.val (.ref jq)] [.ref a2]
  refine oGo.ldc_str (pc' := 9) (k' := 4) (n' := 84) (vs := oI (([74, 117, 100, 103, 101, 100, 81, 117, 101, 114, 121, 91, 105, 100, 61] : List Int32).map lo8)) d12_7 rfl trivial (w94 hG) (strAt hG) (hG.2.2.2 _ (by decide)) (by decide) (by decide) rfl rfl (by decide) (by decide) ?_
  intro h12 a13 b14 E15 Xa13 Ca13 Va13 Ba13 la13 lb14 na13
  have S16 : oS Z h12 a13 b14 [74, 117, 100, 103, 101, 100, 81, 117, 101, 114, 121, 91, 105, 100, 61] := ⟨Xa13, Va13, Ca13, Ba13, by decide⟩
  have f17 := SBc0.ext E15
  have f21 := Exa.ext E15 SBc0.1
  refine oGo.invokevirtual (pc' := 12) (k' := 5) (n' := 118) (a := a2) (argsL := [.ref a13]) (rest := []) d12_9 rfl (w95 hG) (w96 hG) (w98 hG) (w98 hG) rfl (w97 hG) (w78 hG) (w99 hG) (by decide) pd27 rfl rfl rfl f21 (c_append hG a2 bc0 a13 b14 [] [74, 117, 100, 103, 101, 100, 81, 117, 101, 114, 121, 91, 105, 100, 61] 16 (Nat.le_of_ble_eq_true rfl) (by decide) (Nat.lt_of_sub_pos (by simp)) ⟨(Ne.symm (na13 a2 (by simp)).1), (Ne.symm (na13 bc0 (by simp)).1), (Ne.symm (na13 a2 (by simp)).2), (Ne.symm (na13 bc0 (by simp)).2)⟩ _ f17 S16) (by simp) (by decide) (Nat.le_of_ble_eq_true rfl) rfl rfl (by decide) (by decide) ?_
  intro v18 h19 sh19 q20
  obtain ⟨rfl, Kc1, bc1, hbc1, SBc1'⟩ := q20
  have SBc1 : oSB Z h19 a2 bc1 [74, 117, 100, 103, 101, 100, 81, 117, 101, 114, 121, 91, 105, 100, 61] 16 := SBc1'
  have lbc1 : bc1 < h19.size := by obtain ⟨_, _, _, _, _, B, _⟩ := SBc1; exact own_ltN B.lt
  refine ⟨[bc1, bc0, a2], own_D1 (SBc1.2.1), ?_⟩
  show oGo l Z a0 EL True pP eE sS mM _ bB tT cC _ _ _ _ _ _ _ _ [bc1, bc0, a2] h19 5 118 12 #[.val (.ref jq)] [.ref a2]
  refine oGo.aload_n (pc' := 13) d12_12 rfl rfl rfl ?_
  have f22 := Fld.ext E3 F1
  have f23 := Fld.keep f22 Kc0 (own_nin1 (own_ne_ge (x := jq) (y := a2) ljq (own_ge_eq qa2)))
  have f24 := Fld.ext E15 f23
  have g26 := own_lt_le (x := jq) ljq E3.1
  have f25 := Fld.keep f24 Kc1 (own_nin2 (own_ne_ge (x := jq) (y := a2) ljq (own_ge_eq qa2)) (own_ne_ge (x := jq) (y := bc0) g26 hbc0))
  refine oGo.getfield (pc' := 16) d12_13 rfl (w57 hG) Via.refl f25 ?_
  have f27 := Sp.ext E3
  have f28 := f27.keep Kc0 (own_nin1 (own_ne_ge (x := p) (y := a2) lp (own_ge_eq qa2))) (own_nin1 (own_ne_ge (x := tp) (y := a2) ltp (own_ge_eq qa2)))
  have f29 := f28.ext E15
  have g31 := own_lt_le (x := p) lp E3.1
  have g32 := own_lt_le (x := tp) ltp E3.1
  have f30 := f29.keep Kc1 (own_nin2 (own_ne_ge (x := p) (y := a2) lp (own_ge_eq qa2)) (own_ne_ge (x := p) (y := bc0) g31 hbc0)) (own_nin2 (own_ne_ge (x := tp) (y := a2) ltp (own_ge_eq qa2)) (own_ne_ge (x := tp) (y := bc0) g32 hbc0))
  have g33 := own_lt_le (x := p) g31 Kc0.1
  have g34 := own_lt_le (x := p) g33 E15.1
  have g35 := own_lt_le (x := tp) g32 Kc0.1
  have g36 := own_lt_le (x := tp) g35 E15.1
  refine oGo.invokevirtual (pc' := 19) (k' := 6) (n' := 152) (a := a2) (argsL := [.ref p]) (rest := []) d12_16 rfl (w95 hG) (w96 hG) (w98 hG) (w98 hG) rfl (w97 hG) (w78 hG) (w99 hG) (by decide) pd27 rfl rfl rfl SBc1.1 (c_append hG a2 bc1 p tp [74, 117, 100, 103, 101, 100, 81, 117, 101, 114, 121, 91, 105, 100, 61] [] 16 (Nat.le_of_ble_eq_true rfl) (by decide) (Nat.lt_of_sub_pos (by simp)) ⟨(own_ne_ge (x := p) (y := a2) lp (own_ge_eq qa2)), (own_ne_or (x := p) (z := bc1) (own_ne_ge (x := p) (y := bc0) g31 hbc0) g34 hbc1), (own_ne_ge (x := tp) (y := a2) ltp (own_ge_eq qa2)), (own_ne_or (x := tp) (z := bc1) (own_ne_ge (x := tp) (y := bc0) g32 hbc0) g36 hbc1)⟩ _ SBc1 f30) (by simp) (by decide) (Nat.le_of_ble_eq_true rfl) rfl rfl (by decide) (by decide) ?_
  intro v37 h38 sh38 q39
  obtain ⟨rfl, Kc2, bc2, hbc2, SBc2'⟩ := q39
  have SBc2 : oSB Z h38 a2 bc2 [74, 117, 100, 103, 101, 100, 81, 117, 101, 114, 121, 91, 105, 100, 61] 16 := SBc2'
  have lbc2 : bc2 < h38.size := by obtain ⟨_, _, _, _, _, B, _⟩ := SBc2; exact own_ltN B.lt
  refine ⟨[bc2, bc1, bc0, a2], own_D1 (SBc2.2.1), ?_⟩
  show oGo l Z a0 EL True pP eE sS mM _ bB tT cC _ _ _ _ _ _ _ _ [bc2, bc1, bc0, a2] h38 6 152 19 #[.val (.ref jq)] [.ref a2]
  refine oGo.ldc_str (pc' := 21) (k' := 8) (n' := 188) (vs := oI (([44, 32, 119, 111, 114, 100, 115, 61] : List Int32).map lo8)) d12_19 rfl trivial (w142 hG) (strAt hG) (hG.2.2.2 _ (by decide)) (by decide) (by decide) rfl rfl (by decide) (by decide) ?_
  intro h40 a41 b42 E43 Xa41 Ca41 Va41 Ba41 la41 lb42 na41
  have S44 : oS Z h40 a41 b42 [44, 32, 119, 111, 114, 100, 115, 61] := ⟨Xa41, Va41, Ca41, Ba41, by decide⟩
  have f45 := SBc2.ext E43
  have f49 := Exa.ext E43 SBc2.1
  refine oGo.invokevirtual (pc' := 24) (k' := 9) (n' := 222) (a := a2) (argsL := [.ref a41]) (rest := []) d12_21 rfl (w95 hG) (w96 hG) (w98 hG) (w98 hG) rfl (w97 hG) (w78 hG) (w99 hG) (by decide) pd27 rfl rfl rfl f49 (c_append hG a2 bc2 a41 b42 [74, 117, 100, 103, 101, 100, 81, 117, 101, 114, 121, 91, 105, 100, 61] [44, 32, 119, 111, 114, 100, 115, 61] 16 (Nat.le_of_ble_eq_true rfl) (by decide) (Nat.lt_of_sub_pos (by simp)) ⟨(Ne.symm (na41 a2 (by simp)).1), (Ne.symm (na41 bc2 (by simp)).1), (Ne.symm (na41 a2 (by simp)).2), (Ne.symm (na41 bc2 (by simp)).2)⟩ _ f45 S44) (by simp) (by decide) (Nat.le_of_ble_eq_true rfl) rfl rfl (by decide) (by decide) ?_
  intro v46 h47 sh47 q48
  obtain ⟨rfl, Kc3, bc3, hbc3, SBc3'⟩ := q48
  have SBc3 : oSB Z h47 a2 bc3 [74, 117, 100, 103, 101, 100, 81, 117, 101, 114, 121, 91, 105, 100, 61, 44, 32, 119, 111, 114, 100, 115, 61] 34 := SBc3'
  have lbc3 : bc3 < h47.size := by obtain ⟨_, _, _, _, _, B, _⟩ := SBc3; exact own_ltN B.lt
  refine ⟨[bc3, bc2, bc1, bc0, a2], own_D1 (SBc3.2.1), ?_⟩
  show oGo l Z a0 EL True pP eE sS mM _ bB tT cC _ _ _ _ _ _ _ _ [bc3, bc2, bc1, bc0, a2] h47 9 222 24 #[.val (.ref jq)] [.ref a2]
  refine oGo.aload_n (pc' := 25) d12_24 rfl rfl rfl ?_
  have f50 := Fld.ext E3 F2
  have f51 := Fld.keep f50 Kc0 (own_nin1 (own_ne_ge (x := jq) (y := a2) ljq (own_ge_eq qa2)))
  have f52 := Fld.ext E15 f51
  have f53 := Fld.keep f52 Kc1 (own_nin2 (own_ne_ge (x := jq) (y := a2) ljq (own_ge_eq qa2)) (own_ne_ge (x := jq) (y := bc0) g26 hbc0))
  have g55 := own_lt_le (x := jq) g26 Kc0.1
  have g56 := own_lt_le (x := jq) g55 E15.1
  have f54 := Fld.keep f53 Kc2 (own_nin2 (own_ne_ge (x := jq) (y := a2) ljq (own_ge_eq qa2)) (own_ne_or (x := jq) (z := bc1) (own_ne_ge (x := jq) (y := bc0) g26 hbc0) g56 hbc1))
  have f57 := Fld.ext E43 f54
  have g59 := own_lt_le (x := jq) g56 Kc1.1
  have f58 := Fld.keep f57 Kc3 (own_nin2 (own_ne_ge (x := jq) (y := a2) ljq (own_ge_eq qa2)) (own_ne_or (x := jq) (z := bc2) (own_ne_or (x := jq) (z := bc1) (own_ne_ge (x := jq) (y := bc0) g26 hbc0) g56 hbc1) g59 hbc2))
  refine oGo.getfield (pc' := 28) d12_25 rfl (w60 hG) Via.refl f58 ?_
  have f60 := Sr.ext E3
  have f61 := f60.keep Kc0 (own_nin1 (own_ne_ge (x := r) (y := a2) lr (own_ge_eq qa2))) (own_nin1 (own_ne_ge (x := tr) (y := a2) ltr (own_ge_eq qa2)))
  have f62 := f61.ext E15
  have g64 := own_lt_le (x := r) lr E3.1
  have g65 := own_lt_le (x := tr) ltr E3.1
  have f63 := f62.keep Kc1 (own_nin2 (own_ne_ge (x := r) (y := a2) lr (own_ge_eq qa2)) (own_ne_ge (x := r) (y := bc0) g64 hbc0)) (own_nin2 (own_ne_ge (x := tr) (y := a2) ltr (own_ge_eq qa2)) (own_ne_ge (x := tr) (y := bc0) g65 hbc0))
  have g67 := own_lt_le (x := r) g64 Kc0.1
  have g68 := own_lt_le (x := r) g67 E15.1
  have g69 := own_lt_le (x := tr) g65 Kc0.1
  have g70 := own_lt_le (x := tr) g69 E15.1
  have f66 := f63.keep Kc2 (own_nin2 (own_ne_ge (x := r) (y := a2) lr (own_ge_eq qa2)) (own_ne_or (x := r) (z := bc1) (own_ne_ge (x := r) (y := bc0) g64 hbc0) g68 hbc1)) (own_nin2 (own_ne_ge (x := tr) (y := a2) ltr (own_ge_eq qa2)) (own_ne_or (x := tr) (z := bc1) (own_ne_ge (x := tr) (y := bc0) g65 hbc0) g70 hbc1))
  have f71 := f66.ext E43
  have g73 := own_lt_le (x := r) g68 Kc1.1
  have g74 := own_lt_le (x := tr) g70 Kc1.1
  have f72 := f71.keep Kc3 (own_nin2 (own_ne_ge (x := r) (y := a2) lr (own_ge_eq qa2)) (own_ne_or (x := r) (z := bc2) (own_ne_or (x := r) (z := bc1) (own_ne_ge (x := r) (y := bc0) g64 hbc0) g68 hbc1) g73 hbc2)) (own_nin2 (own_ne_ge (x := tr) (y := a2) ltr (own_ge_eq qa2)) (own_ne_or (x := tr) (z := bc2) (own_ne_or (x := tr) (z := bc1) (own_ne_ge (x := tr) (y := bc0) g65 hbc0) g70 hbc1) g74 hbc2))
  have g75 := own_lt_le (x := r) g73 Kc2.1
  have g76 := own_lt_le (x := r) g75 E43.1
  have g77 := own_lt_le (x := tr) g74 Kc2.1
  have g78 := own_lt_le (x := tr) g77 E43.1
  refine oGo.invokevirtual (pc' := 31) (k' := 10) (n' := 256) (a := a2) (argsL := [.ref r]) (rest := []) d12_28 rfl (w95 hG) (w96 hG) (w98 hG) (w98 hG) rfl (w97 hG) (w78 hG) (w99 hG) (by decide) pd27 rfl rfl rfl SBc3.1 (c_append hG a2 bc3 r tr [74, 117, 100, 103, 101, 100, 81, 117, 101, 114, 121, 91, 105, 100, 61, 44, 32, 119, 111, 114, 100, 115, 61] [r0, r1] 34 (Nat.le_of_ble_eq_true rfl) (by decide) (Nat.lt_of_sub_pos (by simp)) ⟨(own_ne_ge (x := r) (y := a2) lr (own_ge_eq qa2)), (own_ne_or (x := r) (z := bc3) (own_ne_or (x := r) (z := bc2) (own_ne_or (x := r) (z := bc1) (own_ne_ge (x := r) (y := bc0) g64 hbc0) g68 hbc1) g73 hbc2) g76 hbc3), (own_ne_ge (x := tr) (y := a2) ltr (own_ge_eq qa2)), (own_ne_or (x := tr) (z := bc3) (own_ne_or (x := tr) (z := bc2) (own_ne_or (x := tr) (z := bc1) (own_ne_ge (x := tr) (y := bc0) g65 hbc0) g70 hbc1) g74 hbc2) g78 hbc3)⟩ _ SBc3 f72) (by simp) (by decide) (Nat.le_of_ble_eq_true rfl) rfl rfl (by decide) (by decide) ?_
  intro v79 h80 sh80 q81
  obtain ⟨rfl, Kc4, bc4, hbc4, SBc4'⟩ := q81
  have SBc4 : oSB Z h80 a2 bc4 [74, 117, 100, 103, 101, 100, 81, 117, 101, 114, 121, 91, 105, 100, 61, 44, 32, 119, 111, 114, 100, 115, 61, r0, r1] 34 := SBc4'
  have lbc4 : bc4 < h80.size := by obtain ⟨_, _, _, _, _, B, _⟩ := SBc4; exact own_ltN B.lt
  refine ⟨[bc4, bc3, bc2, bc1, bc0, a2], own_D1 (SBc4.2.1), ?_⟩
  show oGo l Z a0 EL True pP eE sS mM _ bB tT cC _ _ _ _ _ _ _ _ [bc4, bc3, bc2, bc1, bc0, a2] h80 10 256 31 #[.val (.ref jq)] [.ref a2]
  refine oGo.ldc_str (pc' := 33) (k' := 12) (n' := 264) (vs := oI (([93] : List Int32).map lo8)) d12_31 rfl trivial (w166 hG) (strAt hG) (hG.2.2.2 _ (by decide)) (by decide) (by decide) rfl rfl (by decide) (by decide) ?_
  intro h82 a83 b84 E85 Xa83 Ca83 Va83 Ba83 la83 lb84 na83
  have S86 : oS Z h82 a83 b84 [93] := ⟨Xa83, Va83, Ca83, Ba83, by decide⟩
  have f87 := SBc4.ext E85
  have f91 := Exa.ext E85 SBc4.1
  refine oGo.invokevirtual (pc' := 36) (k' := 13) (n' := 298) (a := a2) (argsL := [.ref a83]) (rest := []) d12_33 rfl (w95 hG) (w96 hG) (w98 hG) (w98 hG) rfl (w97 hG) (w78 hG) (w99 hG) (by decide) pd27 rfl rfl rfl f91 (c_append hG a2 bc4 a83 b84 [74, 117, 100, 103, 101, 100, 81, 117, 101, 114, 121, 91, 105, 100, 61, 44, 32, 119, 111, 114, 100, 115, 61, r0, r1] [93] 34 (Nat.le_of_ble_eq_true rfl) (by decide) (Nat.lt_of_sub_pos (by simp)) ⟨(Ne.symm (na83 a2 (by simp)).1), (Ne.symm (na83 bc4 (by simp)).1), (Ne.symm (na83 a2 (by simp)).2), (Ne.symm (na83 bc4 (by simp)).2)⟩ _ f87 S86) (by simp) (by decide) (Nat.le_of_ble_eq_true rfl) rfl rfl (by decide) (by decide) ?_
  intro v88 h89 sh89 q90
  obtain ⟨rfl, Kc5, bc5, hbc5, SBc5'⟩ := q90
  have SBc5 : oSB Z h89 a2 bc5 [74, 117, 100, 103, 101, 100, 81, 117, 101, 114, 121, 91, 105, 100, 61, 44, 32, 119, 111, 114, 100, 115, 61, r0, r1, 93] 34 := SBc5'
  have lbc5 : bc5 < h89.size := by obtain ⟨_, _, _, _, _, B, _⟩ := SBc5; exact own_ltN B.lt
  refine ⟨[bc5, bc4, bc3, bc2, bc1, bc0, a2], own_D1 (SBc5.2.1), ?_⟩
  show oGo l Z a0 EL True pP eE sS mM _ bB tT cC _ _ _ _ _ _ _ _ [bc5, bc4, bc3, bc2, bc1, bc0, a2] h89 13 298 36 #[.val (.ref jq)] [.ref a2]
  refine oGo.invokevirtual (pc' := 39) (k' := 15) (n' := 332) (a := a2) (argsL := []) (rest := []) d12_36 rfl (w167 hG) (w168 hG) (w170 hG) (w170 hG) rfl (w169 hG) (w78 hG) (w171 hG) (by decide) pd28 rfl rfl rfl SBc5.1 (c_toStr hG a2 bc5 [74, 117, 100, 103, 101, 100, 81, 117, 101, 114, 121, 91, 105, 100, 61, 44, 32, 119, 111, 114, 100, 115, 61, r0, r1, 93] 34 (by simp) (by simp) (by intro c hc; simp only [List.mem_cons, List.not_mem_nil, or_false] at hc; rcases hc with rfl | rfl | rfl | rfl | rfl | rfl | rfl | rfl | rfl | rfl | rfl | rfl | rfl | rfl | rfl | rfl | rfl | rfl | rfl | rfl | rfl | rfl | rfl | rfl | rfl | rfl <;> first | decide | assumption) _ SBc5) (by simp) (by decide) (Nat.le_of_ble_eq_true rfl) rfl rfl (by decide) (by decide) ?_
  intro v92 h93 sh93 q94
  obtain ⟨Kz, xz, tz, rfl, gxz, gtz, Sz⟩ := q94
  have lxz := own_ltN Sz.1.lt
  have ltz := own_ltN Sz.2.2.2.1.lt
  refine ⟨_, fun _ hx => Or.inl hx, ?_⟩
  show oGo l Z a0 EL True pP eE sS mM _ bB tT cC _ _ _ _ _ _ _ _ [bc5, bc4, bc3, bc2, bc1, bc0, a2] h93 15 332 39 #[.val (.ref jq)] [.ref xz]
  have z95 := own_le_le (x := h.size) (Nat.le_refl _) E3.1
  have z96 := own_le_le (x := h.size) z95 Kc0.1
  have z97 := own_le_le (x := h.size) z96 E15.1
  have z98 := own_le_le (x := h.size) z97 Kc1.1
  have z99 := own_le_le (x := h.size) z98 Kc2.1
  have z100 := own_le_le (x := h.size) z99 E43.1
  have z101 := own_le_le (x := h.size) z100 Kc3.1
  have K102 : Keep h h93 [] := ((((((((((((Keep.refl h []).ext E3).trans Kc0 (own_new1 (own_le_le (x := h.size) (Nat.le_refl _) (own_ge_eq qa2)))).ext E15).trans Kc1 (own_new2 (own_le_le (x := h.size) (Nat.le_refl _) (own_ge_eq qa2)) (own_le_le (x := h.size) z95 hbc0))).trans Kc2 (own_new2 (own_le_le (x := h.size) (Nat.le_refl _) (own_ge_eq qa2)) (own_ge_or (own_le_le (x := h.size) z95 hbc0) z97 hbc1))).ext E43).trans Kc3 (own_new2 (own_le_le (x := h.size) (Nat.le_refl _) (own_ge_eq qa2)) (own_ge_or (own_ge_or (own_le_le (x := h.size) z95 hbc0) z97 hbc1) z98 hbc2))).trans Kc4 (own_new2 (own_le_le (x := h.size) (Nat.le_refl _) (own_ge_eq qa2)) (own_ge_or (own_ge_or (own_ge_or (own_le_le (x := h.size) z95 hbc0) z97 hbc1) z98 hbc2) z100 hbc3))).ext E85).trans Kc5 (own_new2 (own_le_le (x := h.size) (Nat.le_refl _) (own_ge_eq qa2)) (own_ge_or (own_ge_or (own_ge_or (own_ge_or (own_le_le (x := h.size) z95 hbc0) z97 hbc1) z98 hbc2) z100 hbc3) z101 hbc4))).trans Kz (by simp))
  have z103 := own_le_le (x := h.size) z101 Kc4.1
  have z104 := own_le_le (x := h.size) z103 E85.1
  have z105 := own_le_le (x := h.size) z104 Kc5.1
  exact oGo.areturn d12_39 rfl rfl rfl rfl (by decide) (by decide) ⟨K102, xz, tz, rfl, (own_le_le (x := h.size) z105 gxz), (own_le_le (x := h.size) z105 gtz), Sz⟩ (fun _ q => q.elim)
set_option maxRecDepth 65536 in
set_option maxHeartbeats 4000000 in
theorem c_ts10 {l : Launch} {Z : State} {a0 : Array Value} {EL : List (String × Nat)} (hG : oG a0 Z EL) (jq p tp r tr : Nat) (p0 : Int32) (bp0 : ¬ p0 < 0 ∧ ¬ 255 < p0) (h : Heap) (F1 : Fld Z h jq "com/example/soft_sieve/softsieve/JudgedQuery" "id" "Ljava/lang/String;" (.ref p)) (F2 : Fld Z h jq "com/example/soft_sieve/softsieve/JudgedQuery" "words" "Ljava/lang/String;" (.ref r)) (Sp : oS Z h p tp [p0]) (Sr : oS Z h r tr []) :
    oCtr [] l Z a0 EL True (⟨"com/example/soft_sieve/softsieve/JudgedQuery", "toString", "()Ljava/lang/String;"⟩ : MethodName) prog_6_method_7_code 1 (some (.object "java/lang/String")) ({ frames := 6, cells := 20, slots := 1000, locals := 91 } : Room) #[.ref jq] [] h ((q_toStr Z h [74, 117, 100, 103, 101, 100, 81, 117, 101, 114, 121, 91, 105, 100, 61, p0, 44, 32, 119, 111, 114, 100, 115, 61, 93])) oNo := by
  have ljq := own_ltN F1.lt
  have lp := own_ltN Sp.1.lt
  have ltp := own_ltN Sp.2.2.2.1.lt
  have lr := own_ltN Sr.1.lt
  have ltr := own_ltN Sr.2.2.2.1.lt
  refine oCtr.enter (Ls := #[.val (.ref jq)]) (plainFor_of_name pn11) hG.2.1 (fun m => by first | (simp [entryFrame, mkF, argsToLocals, Value.category]; done) | rfl) ?_
  intro pP eE sS mM bB tT cC
  refine oGo.new (pc' := 3) (k' := 1) (n' := 4) d12_0 rfl (w76 hG) (w77 hG) (w78 hG) rfl rfl (by decide) (by decide) ?_
  intro h1 a2 qa2 la2 E3 X4 F5
  have f6 := F5 (Or.inl (w91 hG)) (ty := (.array .byte)) (by decide)
  have f7 := F5 (Or.inl (w93 hG)) (ty := .byte) (by decide)
  have f8 := F5 (Or.inl (w116 hG)) (ty := .int) (by decide)
  refine oGo.dup (pc' := 4) d12_3 rfl rfl ?_
  refine oGo.invokespecial (pc' := 7) (k' := 2) (n' := 20) (a := a2) (argsL := []) (rest := [.ref a2]) d12_4 rfl rfl (w79 hG) (w80 hG) (w78 hG) (w81 hG) (by decide) pd26 rfl rfl rfl (c_sbInit hG a2 _ _ X4 f6 f7 f8) (by simp) (by decide) (Nat.le_of_ble_eq_true rfl) rfl rfl (by decide) (by decide) ?_
  intro v9 h10 sh10 q11
  obtain ⟨rfl, Kc0, bc0, hbc0, SBc0⟩ := q11
  have lbc0 : bc0 < h10.size := by obtain ⟨_, _, _, _, _, B, _⟩ := SBc0; exact own_ltN B.lt
  refine ⟨[bc0, a2], own_D1 (SBc0.2.1), ?_⟩
  show oGo l Z a0 EL True pP eE sS mM _ bB tT cC _ _ _ _ _ _ _ _ [bc0, a2] h10 2 20 7 #[.val (.ref jq)] [.ref a2]
  refine oGo.ldc_str (pc' := 9) (k' := 4) (n' := 84) (vs := oI (([74, 117, 100, 103, 101, 100, 81, 117, 101, 114, 121, 91, 105, 100, 61] : List Int32).map lo8)) d12_7 rfl trivial (w94 hG) (strAt hG) (hG.2.2.2 _ (by decide)) (by decide) (by decide) rfl rfl (by decide) (by decide) ?_
  intro h12 a13 b14 E15 Xa13 Ca13 Va13 Ba13 la13 lb14 na13
  have S16 : oS Z h12 a13 b14 [74, 117, 100, 103, 101, 100, 81, 117, 101, 114, 121, 91, 105, 100, 61] := ⟨Xa13, Va13, Ca13, Ba13, by decide⟩
  have f17 := SBc0.ext E15
  have f21 := Exa.ext E15 SBc0.1
  refine oGo.invokevirtual (pc' := 12) (k' := 5) (n' := 118) (a := a2) (argsL := [.ref a13]) (rest := []) d12_9 rfl (w95 hG) (w96 hG) (w98 hG) (w98 hG) rfl (w97 hG) (w78 hG) (w99 hG) (by decide) pd27 rfl rfl rfl f21 (c_append hG a2 bc0 a13 b14 [] [74, 117, 100, 103, 101, 100, 81, 117, 101, 114, 121, 91, 105, 100, 61] 16 (Nat.le_of_ble_eq_true rfl) (by decide) (Nat.lt_of_sub_pos (by simp)) ⟨(Ne.symm (na13 a2 (by simp)).1), (Ne.symm (na13 bc0 (by simp)).1), (Ne.symm (na13 a2 (by simp)).2), (Ne.symm (na13 bc0 (by simp)).2)⟩ _ f17 S16) (by simp) (by decide) (Nat.le_of_ble_eq_true rfl) rfl rfl (by decide) (by decide) ?_
  intro v18 h19 sh19 q20
  obtain ⟨rfl, Kc1, bc1, hbc1, SBc1'⟩ := q20
  have SBc1 : oSB Z h19 a2 bc1 [74, 117, 100, 103, 101, 100, 81, 117, 101, 114, 121, 91, 105, 100, 61] 16 := SBc1'
  have lbc1 : bc1 < h19.size := by obtain ⟨_, _, _, _, _, B, _⟩ := SBc1; exact own_ltN B.lt
  refine ⟨[bc1, bc0, a2], own_D1 (SBc1.2.1), ?_⟩
  show oGo l Z a0 EL True pP eE sS mM _ bB tT cC _ _ _ _ _ _ _ _ [bc1, bc0, a2] h19 5 118 12 #[.val (.ref jq)] [.ref a2]
  refine oGo.aload_n (pc' := 13) d12_12 rfl rfl rfl ?_
  have f22 := Fld.ext E3 F1
  have f23 := Fld.keep f22 Kc0 (own_nin1 (own_ne_ge (x := jq) (y := a2) ljq (own_ge_eq qa2)))
  have f24 := Fld.ext E15 f23
  have g26 := own_lt_le (x := jq) ljq E3.1
  have f25 := Fld.keep f24 Kc1 (own_nin2 (own_ne_ge (x := jq) (y := a2) ljq (own_ge_eq qa2)) (own_ne_ge (x := jq) (y := bc0) g26 hbc0))
  refine oGo.getfield (pc' := 16) d12_13 rfl (w57 hG) Via.refl f25 ?_
  have f27 := Sp.ext E3
  have f28 := f27.keep Kc0 (own_nin1 (own_ne_ge (x := p) (y := a2) lp (own_ge_eq qa2))) (own_nin1 (own_ne_ge (x := tp) (y := a2) ltp (own_ge_eq qa2)))
  have f29 := f28.ext E15
  have g31 := own_lt_le (x := p) lp E3.1
  have g32 := own_lt_le (x := tp) ltp E3.1
  have f30 := f29.keep Kc1 (own_nin2 (own_ne_ge (x := p) (y := a2) lp (own_ge_eq qa2)) (own_ne_ge (x := p) (y := bc0) g31 hbc0)) (own_nin2 (own_ne_ge (x := tp) (y := a2) ltp (own_ge_eq qa2)) (own_ne_ge (x := tp) (y := bc0) g32 hbc0))
  have g33 := own_lt_le (x := p) g31 Kc0.1
  have g34 := own_lt_le (x := p) g33 E15.1
  have g35 := own_lt_le (x := tp) g32 Kc0.1
  have g36 := own_lt_le (x := tp) g35 E15.1
  refine oGo.invokevirtual (pc' := 19) (k' := 6) (n' := 152) (a := a2) (argsL := [.ref p]) (rest := []) d12_16 rfl (w95 hG) (w96 hG) (w98 hG) (w98 hG) rfl (w97 hG) (w78 hG) (w99 hG) (by decide) pd27 rfl rfl rfl SBc1.1 (c_append hG a2 bc1 p tp [74, 117, 100, 103, 101, 100, 81, 117, 101, 114, 121, 91, 105, 100, 61] [p0] 16 (Nat.le_of_ble_eq_true rfl) (by decide) (Nat.lt_of_sub_pos (by simp)) ⟨(own_ne_ge (x := p) (y := a2) lp (own_ge_eq qa2)), (own_ne_or (x := p) (z := bc1) (own_ne_ge (x := p) (y := bc0) g31 hbc0) g34 hbc1), (own_ne_ge (x := tp) (y := a2) ltp (own_ge_eq qa2)), (own_ne_or (x := tp) (z := bc1) (own_ne_ge (x := tp) (y := bc0) g32 hbc0) g36 hbc1)⟩ _ SBc1 f30) (by simp) (by decide) (Nat.le_of_ble_eq_true rfl) rfl rfl (by decide) (by decide) ?_
  intro v37 h38 sh38 q39
  obtain ⟨rfl, Kc2, bc2, hbc2, SBc2'⟩ := q39
  have SBc2 : oSB Z h38 a2 bc2 [74, 117, 100, 103, 101, 100, 81, 117, 101, 114, 121, 91, 105, 100, 61, p0] 16 := SBc2'
  have lbc2 : bc2 < h38.size := by obtain ⟨_, _, _, _, _, B, _⟩ := SBc2; exact own_ltN B.lt
  refine ⟨[bc2, bc1, bc0, a2], own_D1 (SBc2.2.1), ?_⟩
  show oGo l Z a0 EL True pP eE sS mM _ bB tT cC _ _ _ _ _ _ _ _ [bc2, bc1, bc0, a2] h38 6 152 19 #[.val (.ref jq)] [.ref a2]
  refine oGo.ldc_str (pc' := 21) (k' := 8) (n' := 188) (vs := oI (([44, 32, 119, 111, 114, 100, 115, 61] : List Int32).map lo8)) d12_19 rfl trivial (w142 hG) (strAt hG) (hG.2.2.2 _ (by decide)) (by decide) (by decide) rfl rfl (by decide) (by decide) ?_
  intro h40 a41 b42 E43 Xa41 Ca41 Va41 Ba41 la41 lb42 na41
  have S44 : oS Z h40 a41 b42 [44, 32, 119, 111, 114, 100, 115, 61] := ⟨Xa41, Va41, Ca41, Ba41, by decide⟩
  have f45 := SBc2.ext E43
  have f49 := Exa.ext E43 SBc2.1
  refine oGo.invokevirtual (pc' := 24) (k' := 9) (n' := 222) (a := a2) (argsL := [.ref a41]) (rest := []) d12_21 rfl (w95 hG) (w96 hG) (w98 hG) (w98 hG) rfl (w97 hG) (w78 hG) (w99 hG) (by decide) pd27 rfl rfl rfl f49 (c_append hG a2 bc2 a41 b42 [74, 117, 100, 103, 101, 100, 81, 117, 101, 114, 121, 91, 105, 100, 61, p0] [44, 32, 119, 111, 114, 100, 115, 61] 16 (Nat.le_of_ble_eq_true rfl) (by decide) (Nat.lt_of_sub_pos (by simp)) ⟨(Ne.symm (na41 a2 (by simp)).1), (Ne.symm (na41 bc2 (by simp)).1), (Ne.symm (na41 a2 (by simp)).2), (Ne.symm (na41 bc2 (by simp)).2)⟩ _ f45 S44) (by simp) (by decide) (Nat.le_of_ble_eq_true rfl) rfl rfl (by decide) (by decide) ?_
  intro v46 h47 sh47 q48
  obtain ⟨rfl, Kc3, bc3, hbc3, SBc3'⟩ := q48
  have SBc3 : oSB Z h47 a2 bc3 [74, 117, 100, 103, 101, 100, 81, 117, 101, 114, 121, 91, 105, 100, 61, p0, 44, 32, 119, 111, 114, 100, 115, 61] 34 := SBc3'
  have lbc3 : bc3 < h47.size := by obtain ⟨_, _, _, _, _, B, _⟩ := SBc3; exact own_ltN B.lt
  refine ⟨[bc3, bc2, bc1, bc0, a2], own_D1 (SBc3.2.1), ?_⟩
  show oGo l Z a0 EL True pP eE sS mM _ bB tT cC _ _ _ _ _ _ _ _ [bc3, bc2, bc1, bc0, a2] h47 9 222 24 #[.val (.ref jq)] [.ref a2]
  refine oGo.aload_n (pc' := 25) d12_24 rfl rfl rfl ?_
  have f50 := Fld.ext E3 F2
  have f51 := Fld.keep f50 Kc0 (own_nin1 (own_ne_ge (x := jq) (y := a2) ljq (own_ge_eq qa2)))
  have f52 := Fld.ext E15 f51
  have f53 := Fld.keep f52 Kc1 (own_nin2 (own_ne_ge (x := jq) (y := a2) ljq (own_ge_eq qa2)) (own_ne_ge (x := jq) (y := bc0) g26 hbc0))
  have g55 := own_lt_le (x := jq) g26 Kc0.1
  have g56 := own_lt_le (x := jq) g55 E15.1
  have f54 := Fld.keep f53 Kc2 (own_nin2 (own_ne_ge (x := jq) (y := a2) ljq (own_ge_eq qa2)) (own_ne_or (x := jq) (z := bc1) (own_ne_ge (x := jq) (y := bc0) g26 hbc0) g56 hbc1))
  have f57 := Fld.ext E43 f54
  have g59 := own_lt_le (x := jq) g56 Kc1.1
  have f58 := Fld.keep f57 Kc3 (own_nin2 (own_ne_ge (x := jq) (y := a2) ljq (own_ge_eq qa2)) (own_ne_or (x := jq) (z := bc2) (own_ne_or (x := jq) (z := bc1) (own_ne_ge (x := jq) (y := bc0) g26 hbc0) g56 hbc1) g59 hbc2))
  refine oGo.getfield (pc' := 28) d12_25 rfl (w60 hG) Via.refl f58 ?_
  have f60 := Sr.ext E3
  have f61 := f60.keep Kc0 (own_nin1 (own_ne_ge (x := r) (y := a2) lr (own_ge_eq qa2))) (own_nin1 (own_ne_ge (x := tr) (y := a2) ltr (own_ge_eq qa2)))
  have f62 := f61.ext E15
  have g64 := own_lt_le (x := r) lr E3.1
  have g65 := own_lt_le (x := tr) ltr E3.1
  have f63 := f62.keep Kc1 (own_nin2 (own_ne_ge (x := r) (y := a2) lr (own_ge_eq qa2)) (own_ne_ge (x := r) (y := bc0) g64 hbc0)) (own_nin2 (own_ne_ge (x := tr) (y := a2) ltr (own_ge_eq qa2)) (own_ne_ge (x := tr) (y := bc0) g65 hbc0))
  have g67 := own_lt_le (x := r) g64 Kc0.1
  have g68 := own_lt_le (x := r) g67 E15.1
  have g69 := own_lt_le (x := tr) g65 Kc0.1
  have g70 := own_lt_le (x := tr) g69 E15.1
  have f66 := f63.keep Kc2 (own_nin2 (own_ne_ge (x := r) (y := a2) lr (own_ge_eq qa2)) (own_ne_or (x := r) (z := bc1) (own_ne_ge (x := r) (y := bc0) g64 hbc0) g68 hbc1)) (own_nin2 (own_ne_ge (x := tr) (y := a2) ltr (own_ge_eq qa2)) (own_ne_or (x := tr) (z := bc1) (own_ne_ge (x := tr) (y := bc0) g65 hbc0) g70 hbc1))
  have f71 := f66.ext E43
  have g73 := own_lt_le (x := r) g68 Kc1.1
  have g74 := own_lt_le (x := tr) g70 Kc1.1
  have f72 := f71.keep Kc3 (own_nin2 (own_ne_ge (x := r) (y := a2) lr (own_ge_eq qa2)) (own_ne_or (x := r) (z := bc2) (own_ne_or (x := r) (z := bc1) (own_ne_ge (x := r) (y := bc0) g64 hbc0) g68 hbc1) g73 hbc2)) (own_nin2 (own_ne_ge (x := tr) (y := a2) ltr (own_ge_eq qa2)) (own_ne_or (x := tr) (z := bc2) (own_ne_or (x := tr) (z := bc1) (own_ne_ge (x := tr) (y := bc0) g65 hbc0) g70 hbc1) g74 hbc2))
  have g75 := own_lt_le (x := r) g73 Kc2.1
  have g76 := own_lt_le (x := r) g75 E43.1
  have g77 := own_lt_le (x := tr) g74 Kc2.1
  have g78 := own_lt_le (x := tr) g77 E43.1
  refine oGo.invokevirtual (pc' := 31) (k' := 10) (n' := 256) (a := a2) (argsL := [.ref r]) (rest := []) d12_28 rfl (w95 hG) (w96 hG) (w98 hG) (w98 hG) rfl (w97 hG) (w78 hG) (w99 hG) (by decide) pd27 rfl rfl rfl SBc3.1 (c_append hG a2 bc3 r tr [74, 117, 100, 103, 101, 100, 81, 117, 101, 114, 121, 91, 105, 100, 61, p0, 44, 32, 119, 111, 114, 100, 115, 61] [] 34 (Nat.le_of_ble_eq_true rfl) (by decide) (Nat.lt_of_sub_pos (by simp)) ⟨(own_ne_ge (x := r) (y := a2) lr (own_ge_eq qa2)), (own_ne_or (x := r) (z := bc3) (own_ne_or (x := r) (z := bc2) (own_ne_or (x := r) (z := bc1) (own_ne_ge (x := r) (y := bc0) g64 hbc0) g68 hbc1) g73 hbc2) g76 hbc3), (own_ne_ge (x := tr) (y := a2) ltr (own_ge_eq qa2)), (own_ne_or (x := tr) (z := bc3) (own_ne_or (x := tr) (z := bc2) (own_ne_or (x := tr) (z := bc1) (own_ne_ge (x := tr) (y := bc0) g65 hbc0) g70 hbc1) g74 hbc2) g78 hbc3)⟩ _ SBc3 f72) (by simp) (by decide) (Nat.le_of_ble_eq_true rfl) rfl rfl (by decide) (by decide) ?_
  intro v79 h80 sh80 q81
  obtain ⟨rfl, Kc4, bc4, hbc4, SBc4'⟩ := q81
  have SBc4 : oSB Z h80 a2 bc4 [74, 117, 100, 103, 101, 100, 81, 117, 101, 114, 121, 91, 105, 100, 61, p0, 44, 32, 119, 111, 114, 100, 115, 61] 34 := SBc4'
  have lbc4 : bc4 < h80.size := by obtain ⟨_, _, _, _, _, B, _⟩ := SBc4; exact own_ltN B.lt
  refine ⟨[bc4, bc3, bc2, bc1, bc0, a2], own_D1 (SBc4.2.1), ?_⟩
  show oGo l Z a0 EL True pP eE sS mM _ bB tT cC _ _ _ _ _ _ _ _ [bc4, bc3, bc2, bc1, bc0, a2] h80 10 256 31 #[.val (.ref jq)] [.ref a2]
  refine oGo.ldc_str (pc' := 33) (k' := 12) (n' := 264) (vs := oI (([93] : List Int32).map lo8)) d12_31 rfl trivial (w166 hG) (strAt hG) (hG.2.2.2 _ (by decide)) (by decide) (by decide) rfl rfl (by decide) (by decide) ?_
  intro h82 a83 b84 E85 Xa83 Ca83 Va83 Ba83 la83 lb84 na83
  have S86 : oS Z h82 a83 b84 [93] := ⟨Xa83, Va83, Ca83, Ba83, by decide⟩
  have f87 := SBc4.ext E85
  have f91 := Exa.ext E85 SBc4.1
  refine oGo.invokevirtual (pc' := 36) (k' := 13) (n' := 298) (a := a2) (argsL := [.ref a83]) (rest := []) d12_33 rfl (w95 hG) (w96 hG) (w98 hG) (w98 hG) rfl (w97 hG) (w78 hG) (w99 hG) (by decide) pd27 rfl rfl rfl f91 (c_append hG a2 bc4 a83 b84 [74, 117, 100, 103, 101, 100, 81, 117, 101, 114, 121, 91, 105, 100, 61, p0, 44, 32, 119, 111, 114, 100, 115, 61] [93] 34 (Nat.le_of_ble_eq_true rfl) (by decide) (Nat.lt_of_sub_pos (by simp)) ⟨(Ne.symm (na83 a2 (by simp)).1), (Ne.symm (na83 bc4 (by simp)).1), (Ne.symm (na83 a2 (by simp)).2), (Ne.symm (na83 bc4 (by simp)).2)⟩ _ f87 S86) (by simp) (by decide) (Nat.le_of_ble_eq_true rfl) rfl rfl (by decide) (by decide) ?_
  intro v88 h89 sh89 q90
  obtain ⟨rfl, Kc5, bc5, hbc5, SBc5'⟩ := q90
  have SBc5 : oSB Z h89 a2 bc5 [74, 117, 100, 103, 101, 100, 81, 117, 101, 114, 121, 91, 105, 100, 61, p0, 44, 32, 119, 111, 114, 100, 115, 61, 93] 34 := SBc5'
  have lbc5 : bc5 < h89.size := by obtain ⟨_, _, _, _, _, B, _⟩ := SBc5; exact own_ltN B.lt
  refine ⟨[bc5, bc4, bc3, bc2, bc1, bc0, a2], own_D1 (SBc5.2.1), ?_⟩
  show oGo l Z a0 EL True pP eE sS mM _ bB tT cC _ _ _ _ _ _ _ _ [bc5, bc4, bc3, bc2, bc1, bc0, a2] h89 13 298 36 #[.val (.ref jq)] [.ref a2]
  refine oGo.invokevirtual (pc' := 39) (k' := 15) (n' := 332) (a := a2) (argsL := []) (rest := []) d12_36 rfl (w167 hG) (w168 hG) (w170 hG) (w170 hG) rfl (w169 hG) (w78 hG) (w171 hG) (by decide) pd28 rfl rfl rfl SBc5.1 (c_toStr hG a2 bc5 [74, 117, 100, 103, 101, 100, 81, 117, 101, 114, 121, 91, 105, 100, 61, p0, 44, 32, 119, 111, 114, 100, 115, 61, 93] 34 (by simp) (by simp) (by intro c hc; simp only [List.mem_cons, List.not_mem_nil, or_false] at hc; rcases hc with rfl | rfl | rfl | rfl | rfl | rfl | rfl | rfl | rfl | rfl | rfl | rfl | rfl | rfl | rfl | rfl | rfl | rfl | rfl | rfl | rfl | rfl | rfl | rfl | rfl <;> first | decide | assumption) _ SBc5) (by simp) (by decide) (Nat.le_of_ble_eq_true rfl) rfl rfl (by decide) (by decide) ?_
  intro v92 h93 sh93 q94
  obtain ⟨Kz, xz, tz, rfl, gxz, gtz, Sz⟩ := q94
  have lxz := own_ltN Sz.1.lt
  have ltz := own_ltN Sz.2.2.2.1.lt
  refine ⟨_, fun _ hx => Or.inl hx, ?_⟩
  show oGo l Z a0 EL True pP eE sS mM _ bB tT cC _ _ _ _ _ _ _ _ [bc5, bc4, bc3, bc2, bc1, bc0, a2] h93 15 332 39 #[.val (.ref jq)] [.ref xz]
  have z95 := own_le_le (x := h.size) (Nat.le_refl _) E3.1
  have z96 := own_le_le (x := h.size) z95 Kc0.1
  have z97 := own_le_le (x := h.size) z96 E15.1
  have z98 := own_le_le (x := h.size) z97 Kc1.1
  have z99 := own_le_le (x := h.size) z98 Kc2.1
  have z100 := own_le_le (x := h.size) z99 E43.1
  have z101 := own_le_le (x := h.size) z100 Kc3.1
  have K102 : Keep h h93 [] := ((((((((((((Keep.refl h []).ext E3).trans Kc0 (own_new1 (own_le_le (x := h.size) (Nat.le_refl _) (own_ge_eq qa2)))).ext E15).trans Kc1 (own_new2 (own_le_le (x := h.size) (Nat.le_refl _) (own_ge_eq qa2)) (own_le_le (x := h.size) z95 hbc0))).trans Kc2 (own_new2 (own_le_le (x := h.size) (Nat.le_refl _) (own_ge_eq qa2)) (own_ge_or (own_le_le (x := h.size) z95 hbc0) z97 hbc1))).ext E43).trans Kc3 (own_new2 (own_le_le (x := h.size) (Nat.le_refl _) (own_ge_eq qa2)) (own_ge_or (own_ge_or (own_le_le (x := h.size) z95 hbc0) z97 hbc1) z98 hbc2))).trans Kc4 (own_new2 (own_le_le (x := h.size) (Nat.le_refl _) (own_ge_eq qa2)) (own_ge_or (own_ge_or (own_ge_or (own_le_le (x := h.size) z95 hbc0) z97 hbc1) z98 hbc2) z100 hbc3))).ext E85).trans Kc5 (own_new2 (own_le_le (x := h.size) (Nat.le_refl _) (own_ge_eq qa2)) (own_ge_or (own_ge_or (own_ge_or (own_ge_or (own_le_le (x := h.size) z95 hbc0) z97 hbc1) z98 hbc2) z100 hbc3) z101 hbc4))).trans Kz (by simp))
  have z103 := own_le_le (x := h.size) z101 Kc4.1
  have z104 := own_le_le (x := h.size) z103 E85.1
  have z105 := own_le_le (x := h.size) z104 Kc5.1
  exact oGo.areturn d12_39 rfl rfl rfl rfl (by decide) (by decide) ⟨K102, xz, tz, rfl, (own_le_le (x := h.size) z105 gxz), (own_le_le (x := h.size) z105 gtz), Sz⟩ (fun _ q => q.elim)
set_option maxRecDepth 65536 in
set_option maxHeartbeats 4000000 in
theorem c_ts11 {l : Launch} {Z : State} {a0 : Array Value} {EL : List (String × Nat)} (hG : oG a0 Z EL) (jq p tp r tr : Nat) (p0 r0 : Int32) (bp0 : ¬ p0 < 0 ∧ ¬ 255 < p0) (br0 : ¬ r0 < 0 ∧ ¬ 255 < r0) (h : Heap) (F1 : Fld Z h jq "com/example/soft_sieve/softsieve/JudgedQuery" "id" "Ljava/lang/String;" (.ref p)) (F2 : Fld Z h jq "com/example/soft_sieve/softsieve/JudgedQuery" "words" "Ljava/lang/String;" (.ref r)) (Sp : oS Z h p tp [p0]) (Sr : oS Z h r tr [r0]) :
    oCtr [] l Z a0 EL True (⟨"com/example/soft_sieve/softsieve/JudgedQuery", "toString", "()Ljava/lang/String;"⟩ : MethodName) prog_6_method_7_code 1 (some (.object "java/lang/String")) ({ frames := 6, cells := 20, slots := 1000, locals := 91 } : Room) #[.ref jq] [] h ((q_toStr Z h [74, 117, 100, 103, 101, 100, 81, 117, 101, 114, 121, 91, 105, 100, 61, p0, 44, 32, 119, 111, 114, 100, 115, 61, r0, 93])) oNo := by
  have ljq := own_ltN F1.lt
  have lp := own_ltN Sp.1.lt
  have ltp := own_ltN Sp.2.2.2.1.lt
  have lr := own_ltN Sr.1.lt
  have ltr := own_ltN Sr.2.2.2.1.lt
  refine oCtr.enter (Ls := #[.val (.ref jq)]) (plainFor_of_name pn11) hG.2.1 (fun m => by first | (simp [entryFrame, mkF, argsToLocals, Value.category]; done) | rfl) ?_
  intro pP eE sS mM bB tT cC
  refine oGo.new (pc' := 3) (k' := 1) (n' := 4) d12_0 rfl (w76 hG) (w77 hG) (w78 hG) rfl rfl (by decide) (by decide) ?_
  intro h1 a2 qa2 la2 E3 X4 F5
  have f6 := F5 (Or.inl (w91 hG)) (ty := (.array .byte)) (by decide)
  have f7 := F5 (Or.inl (w93 hG)) (ty := .byte) (by decide)
  have f8 := F5 (Or.inl (w116 hG)) (ty := .int) (by decide)
  refine oGo.dup (pc' := 4) d12_3 rfl rfl ?_
  refine oGo.invokespecial (pc' := 7) (k' := 2) (n' := 20) (a := a2) (argsL := []) (rest := [.ref a2]) d12_4 rfl rfl (w79 hG) (w80 hG) (w78 hG) (w81 hG) (by decide) pd26 rfl rfl rfl (c_sbInit hG a2 _ _ X4 f6 f7 f8) (by simp) (by decide) (Nat.le_of_ble_eq_true rfl) rfl rfl (by decide) (by decide) ?_
  intro v9 h10 sh10 q11
  obtain ⟨rfl, Kc0, bc0, hbc0, SBc0⟩ := q11
  have lbc0 : bc0 < h10.size := by obtain ⟨_, _, _, _, _, B, _⟩ := SBc0; exact own_ltN B.lt
  refine ⟨[bc0, a2], own_D1 (SBc0.2.1), ?_⟩
  show oGo l Z a0 EL True pP eE sS mM _ bB tT cC _ _ _ _ _ _ _ _ [bc0, a2] h10 2 20 7 #[.val (.ref jq)] [.ref a2]
  refine oGo.ldc_str (pc' := 9) (k' := 4) (n' := 84) (vs := oI (([74, 117, 100, 103, 101, 100, 81, 117, 101, 114, 121, 91, 105, 100, 61] : List Int32).map lo8)) d12_7 rfl trivial (w94 hG) (strAt hG) (hG.2.2.2 _ (by decide)) (by decide) (by decide) rfl rfl (by decide) (by decide) ?_
  intro h12 a13 b14 E15 Xa13 Ca13 Va13 Ba13 la13 lb14 na13
  have S16 : oS Z h12 a13 b14 [74, 117, 100, 103, 101, 100, 81, 117, 101, 114, 121, 91, 105, 100, 61] := ⟨Xa13, Va13, Ca13, Ba13, by decide⟩
  have f17 := SBc0.ext E15
  have f21 := Exa.ext E15 SBc0.1
  refine oGo.invokevirtual (pc' := 12) (k' := 5) (n' := 118) (a := a2) (argsL := [.ref a13]) (rest := []) d12_9 rfl (w95 hG) (w96 hG) (w98 hG) (w98 hG) rfl (w97 hG) (w78 hG) (w99 hG) (by decide) pd27 rfl rfl rfl f21 (c_append hG a2 bc0 a13 b14 [] [74, 117, 100, 103, 101, 100, 81, 117, 101, 114, 121, 91, 105, 100, 61] 16 (Nat.le_of_ble_eq_true rfl) (by decide) (Nat.lt_of_sub_pos (by simp)) ⟨(Ne.symm (na13 a2 (by simp)).1), (Ne.symm (na13 bc0 (by simp)).1), (Ne.symm (na13 a2 (by simp)).2), (Ne.symm (na13 bc0 (by simp)).2)⟩ _ f17 S16) (by simp) (by decide) (Nat.le_of_ble_eq_true rfl) rfl rfl (by decide) (by decide) ?_
  intro v18 h19 sh19 q20
  obtain ⟨rfl, Kc1, bc1, hbc1, SBc1'⟩ := q20
  have SBc1 : oSB Z h19 a2 bc1 [74, 117, 100, 103, 101, 100, 81, 117, 101, 114, 121, 91, 105, 100, 61] 16 := SBc1'
  have lbc1 : bc1 < h19.size := by obtain ⟨_, _, _, _, _, B, _⟩ := SBc1; exact own_ltN B.lt
  refine ⟨[bc1, bc0, a2], own_D1 (SBc1.2.1), ?_⟩
  show oGo l Z a0 EL True pP eE sS mM _ bB tT cC _ _ _ _ _ _ _ _ [bc1, bc0, a2] h19 5 118 12 #[.val (.ref jq)] [.ref a2]
  refine oGo.aload_n (pc' := 13) d12_12 rfl rfl rfl ?_
  have f22 := Fld.ext E3 F1
  have f23 := Fld.keep f22 Kc0 (own_nin1 (own_ne_ge (x := jq) (y := a2) ljq (own_ge_eq qa2)))
  have f24 := Fld.ext E15 f23
  have g26 := own_lt_le (x := jq) ljq E3.1
  have f25 := Fld.keep f24 Kc1 (own_nin2 (own_ne_ge (x := jq) (y := a2) ljq (own_ge_eq qa2)) (own_ne_ge (x := jq) (y := bc0) g26 hbc0))
  refine oGo.getfield (pc' := 16) d12_13 rfl (w57 hG) Via.refl f25 ?_
  have f27 := Sp.ext E3
  have f28 := f27.keep Kc0 (own_nin1 (own_ne_ge (x := p) (y := a2) lp (own_ge_eq qa2))) (own_nin1 (own_ne_ge (x := tp) (y := a2) ltp (own_ge_eq qa2)))
  have f29 := f28.ext E15
  have g31 := own_lt_le (x := p) lp E3.1
  have g32 := own_lt_le (x := tp) ltp E3.1
  have f30 := f29.keep Kc1 (own_nin2 (own_ne_ge (x := p) (y := a2) lp (own_ge_eq qa2)) (own_ne_ge (x := p) (y := bc0) g31 hbc0)) (own_nin2 (own_ne_ge (x := tp) (y := a2) ltp (own_ge_eq qa2)) (own_ne_ge (x := tp) (y := bc0) g32 hbc0))
  have g33 := own_lt_le (x := p) g31 Kc0.1
  have g34 := own_lt_le (x := p) g33 E15.1
  have g35 := own_lt_le (x := tp) g32 Kc0.1
  have g36 := own_lt_le (x := tp) g35 E15.1
  refine oGo.invokevirtual (pc' := 19) (k' := 6) (n' := 152) (a := a2) (argsL := [.ref p]) (rest := []) d12_16 rfl (w95 hG) (w96 hG) (w98 hG) (w98 hG) rfl (w97 hG) (w78 hG) (w99 hG) (by decide) pd27 rfl rfl rfl SBc1.1 (c_append hG a2 bc1 p tp [74, 117, 100, 103, 101, 100, 81, 117, 101, 114, 121, 91, 105, 100, 61] [p0] 16 (Nat.le_of_ble_eq_true rfl) (by decide) (Nat.lt_of_sub_pos (by simp)) ⟨(own_ne_ge (x := p) (y := a2) lp (own_ge_eq qa2)), (own_ne_or (x := p) (z := bc1) (own_ne_ge (x := p) (y := bc0) g31 hbc0) g34 hbc1), (own_ne_ge (x := tp) (y := a2) ltp (own_ge_eq qa2)), (own_ne_or (x := tp) (z := bc1) (own_ne_ge (x := tp) (y := bc0) g32 hbc0) g36 hbc1)⟩ _ SBc1 f30) (by simp) (by decide) (Nat.le_of_ble_eq_true rfl) rfl rfl (by decide) (by decide) ?_
  intro v37 h38 sh38 q39
  obtain ⟨rfl, Kc2, bc2, hbc2, SBc2'⟩ := q39
  have SBc2 : oSB Z h38 a2 bc2 [74, 117, 100, 103, 101, 100, 81, 117, 101, 114, 121, 91, 105, 100, 61, p0] 16 := SBc2'
  have lbc2 : bc2 < h38.size := by obtain ⟨_, _, _, _, _, B, _⟩ := SBc2; exact own_ltN B.lt
  refine ⟨[bc2, bc1, bc0, a2], own_D1 (SBc2.2.1), ?_⟩
  show oGo l Z a0 EL True pP eE sS mM _ bB tT cC _ _ _ _ _ _ _ _ [bc2, bc1, bc0, a2] h38 6 152 19 #[.val (.ref jq)] [.ref a2]
  refine oGo.ldc_str (pc' := 21) (k' := 8) (n' := 188) (vs := oI (([44, 32, 119, 111, 114, 100, 115, 61] : List Int32).map lo8)) d12_19 rfl trivial (w142 hG) (strAt hG) (hG.2.2.2 _ (by decide)) (by decide) (by decide) rfl rfl (by decide) (by decide) ?_
  intro h40 a41 b42 E43 Xa41 Ca41 Va41 Ba41 la41 lb42 na41
  have S44 : oS Z h40 a41 b42 [44, 32, 119, 111, 114, 100, 115, 61] := ⟨Xa41, Va41, Ca41, Ba41, by decide⟩
  have f45 := SBc2.ext E43
  have f49 := Exa.ext E43 SBc2.1
  refine oGo.invokevirtual (pc' := 24) (k' := 9) (n' := 222) (a := a2) (argsL := [.ref a41]) (rest := []) d12_21 rfl (w95 hG) (w96 hG) (w98 hG) (w98 hG) rfl (w97 hG) (w78 hG) (w99 hG) (by decide) pd27 rfl rfl rfl f49 (c_append hG a2 bc2 a41 b42 [74, 117, 100, 103, 101, 100, 81, 117, 101, 114, 121, 91, 105, 100, 61, p0] [44, 32, 119, 111, 114, 100, 115, 61] 16 (Nat.le_of_ble_eq_true rfl) (by decide) (Nat.lt_of_sub_pos (by simp)) ⟨(Ne.symm (na41 a2 (by simp)).1), (Ne.symm (na41 bc2 (by simp)).1), (Ne.symm (na41 a2 (by simp)).2), (Ne.symm (na41 bc2 (by simp)).2)⟩ _ f45 S44) (by simp) (by decide) (Nat.le_of_ble_eq_true rfl) rfl rfl (by decide) (by decide) ?_
  intro v46 h47 sh47 q48
  obtain ⟨rfl, Kc3, bc3, hbc3, SBc3'⟩ := q48
  have SBc3 : oSB Z h47 a2 bc3 [74, 117, 100, 103, 101, 100, 81, 117, 101, 114, 121, 91, 105, 100, 61, p0, 44, 32, 119, 111, 114, 100, 115, 61] 34 := SBc3'
  have lbc3 : bc3 < h47.size := by obtain ⟨_, _, _, _, _, B, _⟩ := SBc3; exact own_ltN B.lt
  refine ⟨[bc3, bc2, bc1, bc0, a2], own_D1 (SBc3.2.1), ?_⟩
  show oGo l Z a0 EL True pP eE sS mM _ bB tT cC _ _ _ _ _ _ _ _ [bc3, bc2, bc1, bc0, a2] h47 9 222 24 #[.val (.ref jq)] [.ref a2]
  refine oGo.aload_n (pc' := 25) d12_24 rfl rfl rfl ?_
  have f50 := Fld.ext E3 F2
  have f51 := Fld.keep f50 Kc0 (own_nin1 (own_ne_ge (x := jq) (y := a2) ljq (own_ge_eq qa2)))
  have f52 := Fld.ext E15 f51
  have f53 := Fld.keep f52 Kc1 (own_nin2 (own_ne_ge (x := jq) (y := a2) ljq (own_ge_eq qa2)) (own_ne_ge (x := jq) (y := bc0) g26 hbc0))
  have g55 := own_lt_le (x := jq) g26 Kc0.1
  have g56 := own_lt_le (x := jq) g55 E15.1
  have f54 := Fld.keep f53 Kc2 (own_nin2 (own_ne_ge (x := jq) (y := a2) ljq (own_ge_eq qa2)) (own_ne_or (x := jq) (z := bc1) (own_ne_ge (x := jq) (y := bc0) g26 hbc0) g56 hbc1))
  have f57 := Fld.ext E43 f54
  have g59 := own_lt_le (x := jq) g56 Kc1.1
  have f58 := Fld.keep f57 Kc3 (own_nin2 (own_ne_ge (x := jq) (y := a2) ljq (own_ge_eq qa2)) (own_ne_or (x := jq) (z := bc2) (own_ne_or (x := jq) (z := bc1) (own_ne_ge (x := jq) (y := bc0) g26 hbc0) g56 hbc1) g59 hbc2))
  refine oGo.getfield (pc' := 28) d12_25 rfl (w60 hG) Via.refl f58 ?_
  have f60 := Sr.ext E3
  have f61 := f60.keep Kc0 (own_nin1 (own_ne_ge (x := r) (y := a2) lr (own_ge_eq qa2))) (own_nin1 (own_ne_ge (x := tr) (y := a2) ltr (own_ge_eq qa2)))
  have f62 := f61.ext E15
  have g64 := own_lt_le (x := r) lr E3.1
  have g65 := own_lt_le (x := tr) ltr E3.1
  have f63 := f62.keep Kc1 (own_nin2 (own_ne_ge (x := r) (y := a2) lr (own_ge_eq qa2)) (own_ne_ge (x := r) (y := bc0) g64 hbc0)) (own_nin2 (own_ne_ge (x := tr) (y := a2) ltr (own_ge_eq qa2)) (own_ne_ge (x := tr) (y := bc0) g65 hbc0))
  have g67 := own_lt_le (x := r) g64 Kc0.1
  have g68 := own_lt_le (x := r) g67 E15.1
  have g69 := own_lt_le (x := tr) g65 Kc0.1
  have g70 := own_lt_le (x := tr) g69 E15.1
  have f66 := f63.keep Kc2 (own_nin2 (own_ne_ge (x := r) (y := a2) lr (own_ge_eq qa2)) (own_ne_or (x := r) (z := bc1) (own_ne_ge (x := r) (y := bc0) g64 hbc0) g68 hbc1)) (own_nin2 (own_ne_ge (x := tr) (y := a2) ltr (own_ge_eq qa2)) (own_ne_or (x := tr) (z := bc1) (own_ne_ge (x := tr) (y := bc0) g65 hbc0) g70 hbc1))
  have f71 := f66.ext E43
  have g73 := own_lt_le (x := r) g68 Kc1.1
  have g74 := own_lt_le (x := tr) g70 Kc1.1
  have f72 := f71.keep Kc3 (own_nin2 (own_ne_ge (x := r) (y := a2) lr (own_ge_eq qa2)) (own_ne_or (x := r) (z := bc2) (own_ne_or (x := r) (z := bc1) (own_ne_ge (x := r) (y := bc0) g64 hbc0) g68 hbc1) g73 hbc2)) (own_nin2 (own_ne_ge (x := tr) (y := a2) ltr (own_ge_eq qa2)) (own_ne_or (x := tr) (z := bc2) (own_ne_or (x := tr) (z := bc1) (own_ne_ge (x := tr) (y := bc0) g65 hbc0) g70 hbc1) g74 hbc2))
  have g75 := own_lt_le (x := r) g73 Kc2.1
  have g76 := own_lt_le (x := r) g75 E43.1
  have g77 := own_lt_le (x := tr) g74 Kc2.1
  have g78 := own_lt_le (x := tr) g77 E43.1
  refine oGo.invokevirtual (pc' := 31) (k' := 10) (n' := 256) (a := a2) (argsL := [.ref r]) (rest := []) d12_28 rfl (w95 hG) (w96 hG) (w98 hG) (w98 hG) rfl (w97 hG) (w78 hG) (w99 hG) (by decide) pd27 rfl rfl rfl SBc3.1 (c_append hG a2 bc3 r tr [74, 117, 100, 103, 101, 100, 81, 117, 101, 114, 121, 91, 105, 100, 61, p0, 44, 32, 119, 111, 114, 100, 115, 61] [r0] 34 (Nat.le_of_ble_eq_true rfl) (by decide) (Nat.lt_of_sub_pos (by simp)) ⟨(own_ne_ge (x := r) (y := a2) lr (own_ge_eq qa2)), (own_ne_or (x := r) (z := bc3) (own_ne_or (x := r) (z := bc2) (own_ne_or (x := r) (z := bc1) (own_ne_ge (x := r) (y := bc0) g64 hbc0) g68 hbc1) g73 hbc2) g76 hbc3), (own_ne_ge (x := tr) (y := a2) ltr (own_ge_eq qa2)), (own_ne_or (x := tr) (z := bc3) (own_ne_or (x := tr) (z := bc2) (own_ne_or (x := tr) (z := bc1) (own_ne_ge (x := tr) (y := bc0) g65 hbc0) g70 hbc1) g74 hbc2) g78 hbc3)⟩ _ SBc3 f72) (by simp) (by decide) (Nat.le_of_ble_eq_true rfl) rfl rfl (by decide) (by decide) ?_
  intro v79 h80 sh80 q81
  obtain ⟨rfl, Kc4, bc4, hbc4, SBc4'⟩ := q81
  have SBc4 : oSB Z h80 a2 bc4 [74, 117, 100, 103, 101, 100, 81, 117, 101, 114, 121, 91, 105, 100, 61, p0, 44, 32, 119, 111, 114, 100, 115, 61, r0] 34 := SBc4'
  have lbc4 : bc4 < h80.size := by obtain ⟨_, _, _, _, _, B, _⟩ := SBc4; exact own_ltN B.lt
  refine ⟨[bc4, bc3, bc2, bc1, bc0, a2], own_D1 (SBc4.2.1), ?_⟩
  show oGo l Z a0 EL True pP eE sS mM _ bB tT cC _ _ _ _ _ _ _ _ [bc4, bc3, bc2, bc1, bc0, a2] h80 10 256 31 #[.val (.ref jq)] [.ref a2]
  refine oGo.ldc_str (pc' := 33) (k' := 12) (n' := 264) (vs := oI (([93] : List Int32).map lo8)) d12_31 rfl trivial (w166 hG) (strAt hG) (hG.2.2.2 _ (by decide)) (by decide) (by decide) rfl rfl (by decide) (by decide) ?_
  intro h82 a83 b84 E85 Xa83 Ca83 Va83 Ba83 la83 lb84 na83
  have S86 : oS Z h82 a83 b84 [93] := ⟨Xa83, Va83, Ca83, Ba83, by decide⟩
  have f87 := SBc4.ext E85
  have f91 := Exa.ext E85 SBc4.1
  refine oGo.invokevirtual (pc' := 36) (k' := 13) (n' := 298) (a := a2) (argsL := [.ref a83]) (rest := []) d12_33 rfl (w95 hG) (w96 hG) (w98 hG) (w98 hG) rfl (w97 hG) (w78 hG) (w99 hG) (by decide) pd27 rfl rfl rfl f91 (c_append hG a2 bc4 a83 b84 [74, 117, 100, 103, 101, 100, 81, 117, 101, 114, 121, 91, 105, 100, 61, p0, 44, 32, 119, 111, 114, 100, 115, 61, r0] [93] 34 (Nat.le_of_ble_eq_true rfl) (by decide) (Nat.lt_of_sub_pos (by simp)) ⟨(Ne.symm (na83 a2 (by simp)).1), (Ne.symm (na83 bc4 (by simp)).1), (Ne.symm (na83 a2 (by simp)).2), (Ne.symm (na83 bc4 (by simp)).2)⟩ _ f87 S86) (by simp) (by decide) (Nat.le_of_ble_eq_true rfl) rfl rfl (by decide) (by decide) ?_
  intro v88 h89 sh89 q90
  obtain ⟨rfl, Kc5, bc5, hbc5, SBc5'⟩ := q90
  have SBc5 : oSB Z h89 a2 bc5 [74, 117, 100, 103, 101, 100, 81, 117, 101, 114, 121, 91, 105, 100, 61, p0, 44, 32, 119, 111, 114, 100, 115, 61, r0, 93] 34 := SBc5'
  have lbc5 : bc5 < h89.size := by obtain ⟨_, _, _, _, _, B, _⟩ := SBc5; exact own_ltN B.lt
  refine ⟨[bc5, bc4, bc3, bc2, bc1, bc0, a2], own_D1 (SBc5.2.1), ?_⟩
  show oGo l Z a0 EL True pP eE sS mM _ bB tT cC _ _ _ _ _ _ _ _ [bc5, bc4, bc3, bc2, bc1, bc0, a2] h89 13 298 36 #[.val (.ref jq)] [.ref a2]
  refine oGo.invokevirtual (pc' := 39) (k' := 15) (n' := 332) (a := a2) (argsL := []) (rest := []) d12_36 rfl (w167 hG) (w168 hG) (w170 hG) (w170 hG) rfl (w169 hG) (w78 hG) (w171 hG) (by decide) pd28 rfl rfl rfl SBc5.1 (c_toStr hG a2 bc5 [74, 117, 100, 103, 101, 100, 81, 117, 101, 114, 121, 91, 105, 100, 61, p0, 44, 32, 119, 111, 114, 100, 115, 61, r0, 93] 34 (by simp) (by simp) (by intro c hc; simp only [List.mem_cons, List.not_mem_nil, or_false] at hc; rcases hc with rfl | rfl | rfl | rfl | rfl | rfl | rfl | rfl | rfl | rfl | rfl | rfl | rfl | rfl | rfl | rfl | rfl | rfl | rfl | rfl | rfl | rfl | rfl | rfl | rfl | rfl <;> first | decide | assumption) _ SBc5) (by simp) (by decide) (Nat.le_of_ble_eq_true rfl) rfl rfl (by decide) (by decide) ?_
  intro v92 h93 sh93 q94
  obtain ⟨Kz, xz, tz, rfl, gxz, gtz, Sz⟩ := q94
  have lxz := own_ltN Sz.1.lt
  have ltz := own_ltN Sz.2.2.2.1.lt
  refine ⟨_, fun _ hx => Or.inl hx, ?_⟩
  show oGo l Z a0 EL True pP eE sS mM _ bB tT cC _ _ _ _ _ _ _ _ [bc5, bc4, bc3, bc2, bc1, bc0, a2] h93 15 332 39 #[.val (.ref jq)] [.ref xz]
  have z95 := own_le_le (x := h.size) (Nat.le_refl _) E3.1
  have z96 := own_le_le (x := h.size) z95 Kc0.1
  have z97 := own_le_le (x := h.size) z96 E15.1
  have z98 := own_le_le (x := h.size) z97 Kc1.1
  have z99 := own_le_le (x := h.size) z98 Kc2.1
  have z100 := own_le_le (x := h.size) z99 E43.1
  have z101 := own_le_le (x := h.size) z100 Kc3.1
  have K102 : Keep h h93 [] := ((((((((((((Keep.refl h []).ext E3).trans Kc0 (own_new1 (own_le_le (x := h.size) (Nat.le_refl _) (own_ge_eq qa2)))).ext E15).trans Kc1 (own_new2 (own_le_le (x := h.size) (Nat.le_refl _) (own_ge_eq qa2)) (own_le_le (x := h.size) z95 hbc0))).trans Kc2 (own_new2 (own_le_le (x := h.size) (Nat.le_refl _) (own_ge_eq qa2)) (own_ge_or (own_le_le (x := h.size) z95 hbc0) z97 hbc1))).ext E43).trans Kc3 (own_new2 (own_le_le (x := h.size) (Nat.le_refl _) (own_ge_eq qa2)) (own_ge_or (own_ge_or (own_le_le (x := h.size) z95 hbc0) z97 hbc1) z98 hbc2))).trans Kc4 (own_new2 (own_le_le (x := h.size) (Nat.le_refl _) (own_ge_eq qa2)) (own_ge_or (own_ge_or (own_ge_or (own_le_le (x := h.size) z95 hbc0) z97 hbc1) z98 hbc2) z100 hbc3))).ext E85).trans Kc5 (own_new2 (own_le_le (x := h.size) (Nat.le_refl _) (own_ge_eq qa2)) (own_ge_or (own_ge_or (own_ge_or (own_ge_or (own_le_le (x := h.size) z95 hbc0) z97 hbc1) z98 hbc2) z100 hbc3) z101 hbc4))).trans Kz (by simp))
  have z103 := own_le_le (x := h.size) z101 Kc4.1
  have z104 := own_le_le (x := h.size) z103 E85.1
  have z105 := own_le_le (x := h.size) z104 Kc5.1
  exact oGo.areturn d12_39 rfl rfl rfl rfl (by decide) (by decide) ⟨K102, xz, tz, rfl, (own_le_le (x := h.size) z105 gxz), (own_le_le (x := h.size) z105 gtz), Sz⟩ (fun _ q => q.elim)
set_option maxRecDepth 65536 in
set_option maxHeartbeats 4000000 in
theorem c_ts12 {l : Launch} {Z : State} {a0 : Array Value} {EL : List (String × Nat)} (hG : oG a0 Z EL) (jq p tp r tr : Nat) (p0 r0 r1 : Int32) (bp0 : ¬ p0 < 0 ∧ ¬ 255 < p0) (br0 : ¬ r0 < 0 ∧ ¬ 255 < r0) (br1 : ¬ r1 < 0 ∧ ¬ 255 < r1) (h : Heap) (F1 : Fld Z h jq "com/example/soft_sieve/softsieve/JudgedQuery" "id" "Ljava/lang/String;" (.ref p)) (F2 : Fld Z h jq "com/example/soft_sieve/softsieve/JudgedQuery" "words" "Ljava/lang/String;" (.ref r)) (Sp : oS Z h p tp [p0]) (Sr : oS Z h r tr [r0, r1]) :
    oCtr [] l Z a0 EL True (⟨"com/example/soft_sieve/softsieve/JudgedQuery", "toString", "()Ljava/lang/String;"⟩ : MethodName) prog_6_method_7_code 1 (some (.object "java/lang/String")) ({ frames := 6, cells := 20, slots := 1000, locals := 91 } : Room) #[.ref jq] [] h ((q_toStr Z h [74, 117, 100, 103, 101, 100, 81, 117, 101, 114, 121, 91, 105, 100, 61, p0, 44, 32, 119, 111, 114, 100, 115, 61, r0, r1, 93])) oNo := by
  have ljq := own_ltN F1.lt
  have lp := own_ltN Sp.1.lt
  have ltp := own_ltN Sp.2.2.2.1.lt
  have lr := own_ltN Sr.1.lt
  have ltr := own_ltN Sr.2.2.2.1.lt
  refine oCtr.enter (Ls := #[.val (.ref jq)]) (plainFor_of_name pn11) hG.2.1 (fun m => by first | (simp [entryFrame, mkF, argsToLocals, Value.category]; done) | rfl) ?_
  intro pP eE sS mM bB tT cC
  refine oGo.new (pc' := 3) (k' := 1) (n' := 4) d12_0 rfl (w76 hG) (w77 hG) (w78 hG) rfl rfl (by decide) (by decide) ?_
  intro h1 a2 qa2 la2 E3 X4 F5
  have f6 := F5 (Or.inl (w91 hG)) (ty := (.array .byte)) (by decide)
  have f7 := F5 (Or.inl (w93 hG)) (ty := .byte) (by decide)
  have f8 := F5 (Or.inl (w116 hG)) (ty := .int) (by decide)
  refine oGo.dup (pc' := 4) d12_3 rfl rfl ?_
  refine oGo.invokespecial (pc' := 7) (k' := 2) (n' := 20) (a := a2) (argsL := []) (rest := [.ref a2]) d12_4 rfl rfl (w79 hG) (w80 hG) (w78 hG) (w81 hG) (by decide) pd26 rfl rfl rfl (c_sbInit hG a2 _ _ X4 f6 f7 f8) (by simp) (by decide) (Nat.le_of_ble_eq_true rfl) rfl rfl (by decide) (by decide) ?_
  intro v9 h10 sh10 q11
  obtain ⟨rfl, Kc0, bc0, hbc0, SBc0⟩ := q11
  have lbc0 : bc0 < h10.size := by obtain ⟨_, _, _, _, _, B, _⟩ := SBc0; exact own_ltN B.lt
  refine ⟨[bc0, a2], own_D1 (SBc0.2.1), ?_⟩
  show oGo l Z a0 EL True pP eE sS mM _ bB tT cC _ _ _ _ _ _ _ _ [bc0, a2] h10 2 20 7 #[.val (.ref jq)] [.ref a2]
  refine oGo.ldc_str (pc' := 9) (k' := 4) (n' := 84) (vs := oI (([74, 117, 100, 103, 101, 100, 81, 117, 101, 114, 121, 91, 105, 100, 61] : List Int32).map lo8)) d12_7 rfl trivial (w94 hG) (strAt hG) (hG.2.2.2 _ (by decide)) (by decide) (by decide) rfl rfl (by decide) (by decide) ?_
  intro h12 a13 b14 E15 Xa13 Ca13 Va13 Ba13 la13 lb14 na13
  have S16 : oS Z h12 a13 b14 [74, 117, 100, 103, 101, 100, 81, 117, 101, 114, 121, 91, 105, 100, 61] := ⟨Xa13, Va13, Ca13, Ba13, by decide⟩
  have f17 := SBc0.ext E15
  have f21 := Exa.ext E15 SBc0.1
  refine oGo.invokevirtual (pc' := 12) (k' := 5) (n' := 118) (a := a2) (argsL := [.ref a13]) (rest := []) d12_9 rfl (w95 hG) (w96 hG) (w98 hG) (w98 hG) rfl (w97 hG) (w78 hG) (w99 hG) (by decide) pd27 rfl rfl rfl f21 (c_append hG a2 bc0 a13 b14 [] [74, 117, 100, 103, 101, 100, 81, 117, 101, 114, 121, 91, 105, 100, 61] 16 (Nat.le_of_ble_eq_true rfl) (by decide) (Nat.lt_of_sub_pos (by simp)) ⟨(Ne.symm (na13 a2 (by simp)).1), (Ne.symm (na13 bc0 (by simp)).1), (Ne.symm (na13 a2 (by simp)).2), (Ne.symm (na13 bc0 (by simp)).2)⟩ _ f17 S16) (by simp) (by decide) (Nat.le_of_ble_eq_true rfl) rfl rfl (by decide) (by decide) ?_
  intro v18 h19 sh19 q20
  obtain ⟨rfl, Kc1, bc1, hbc1, SBc1'⟩ := q20
  have SBc1 : oSB Z h19 a2 bc1 [74, 117, 100, 103, 101, 100, 81, 117, 101, 114, 121, 91, 105, 100, 61] 16 := SBc1'
  have lbc1 : bc1 < h19.size := by obtain ⟨_, _, _, _, _, B, _⟩ := SBc1; exact own_ltN B.lt
  refine ⟨[bc1, bc0, a2], own_D1 (SBc1.2.1), ?_⟩
  show oGo l Z a0 EL True pP eE sS mM _ bB tT cC _ _ _ _ _ _ _ _ [bc1, bc0, a2] h19 5 118 12 #[.val (.ref jq)] [.ref a2]
  refine oGo.aload_n (pc' := 13) d12_12 rfl rfl rfl ?_
  have f22 := Fld.ext E3 F1
  have f23 := Fld.keep f22 Kc0 (own_nin1 (own_ne_ge (x := jq) (y := a2) ljq (own_ge_eq qa2)))
  have f24 := Fld.ext E15 f23
  have g26 := own_lt_le (x := jq) ljq E3.1
  have f25 := Fld.keep f24 Kc1 (own_nin2 (own_ne_ge (x := jq) (y := a2) ljq (own_ge_eq qa2)) (own_ne_ge (x := jq) (y := bc0) g26 hbc0))
  refine oGo.getfield (pc' := 16) d12_13 rfl (w57 hG) Via.refl f25 ?_
  have f27 := Sp.ext E3
  have f28 := f27.keep Kc0 (own_nin1 (own_ne_ge (x := p) (y := a2) lp (own_ge_eq qa2))) (own_nin1 (own_ne_ge (x := tp) (y := a2) ltp (own_ge_eq qa2)))
  have f29 := f28.ext E15
  have g31 := own_lt_le (x := p) lp E3.1
  have g32 := own_lt_le (x := tp) ltp E3.1
  have f30 := f29.keep Kc1 (own_nin2 (own_ne_ge (x := p) (y := a2) lp (own_ge_eq qa2)) (own_ne_ge (x := p) (y := bc0) g31 hbc0)) (own_nin2 (own_ne_ge (x := tp) (y := a2) ltp (own_ge_eq qa2)) (own_ne_ge (x := tp) (y := bc0) g32 hbc0))
  have g33 := own_lt_le (x := p) g31 Kc0.1
  have g34 := own_lt_le (x := p) g33 E15.1
  have g35 := own_lt_le (x := tp) g32 Kc0.1
  have g36 := own_lt_le (x := tp) g35 E15.1
  refine oGo.invokevirtual (pc' := 19) (k' := 6) (n' := 152) (a := a2) (argsL := [.ref p]) (rest := []) d12_16 rfl (w95 hG) (w96 hG) (w98 hG) (w98 hG) rfl (w97 hG) (w78 hG) (w99 hG) (by decide) pd27 rfl rfl rfl SBc1.1 (c_append hG a2 bc1 p tp [74, 117, 100, 103, 101, 100, 81, 117, 101, 114, 121, 91, 105, 100, 61] [p0] 16 (Nat.le_of_ble_eq_true rfl) (by decide) (Nat.lt_of_sub_pos (by simp)) ⟨(own_ne_ge (x := p) (y := a2) lp (own_ge_eq qa2)), (own_ne_or (x := p) (z := bc1) (own_ne_ge (x := p) (y := bc0) g31 hbc0) g34 hbc1), (own_ne_ge (x := tp) (y := a2) ltp (own_ge_eq qa2)), (own_ne_or (x := tp) (z := bc1) (own_ne_ge (x := tp) (y := bc0) g32 hbc0) g36 hbc1)⟩ _ SBc1 f30) (by simp) (by decide) (Nat.le_of_ble_eq_true rfl) rfl rfl (by decide) (by decide) ?_
  intro v37 h38 sh38 q39
  obtain ⟨rfl, Kc2, bc2, hbc2, SBc2'⟩ := q39
  have SBc2 : oSB Z h38 a2 bc2 [74, 117, 100, 103, 101, 100, 81, 117, 101, 114, 121, 91, 105, 100, 61, p0] 16 := SBc2'
  have lbc2 : bc2 < h38.size := by obtain ⟨_, _, _, _, _, B, _⟩ := SBc2; exact own_ltN B.lt
  refine ⟨[bc2, bc1, bc0, a2], own_D1 (SBc2.2.1), ?_⟩
  show oGo l Z a0 EL True pP eE sS mM _ bB tT cC _ _ _ _ _ _ _ _ [bc2, bc1, bc0, a2] h38 6 152 19 #[.val (.ref jq)] [.ref a2]
  refine oGo.ldc_str (pc' := 21) (k' := 8) (n' := 188) (vs := oI (([44, 32, 119, 111, 114, 100, 115, 61] : List Int32).map lo8)) d12_19 rfl trivial (w142 hG) (strAt hG) (hG.2.2.2 _ (by decide)) (by decide) (by decide) rfl rfl (by decide) (by decide) ?_
  intro h40 a41 b42 E43 Xa41 Ca41 Va41 Ba41 la41 lb42 na41
  have S44 : oS Z h40 a41 b42 [44, 32, 119, 111, 114, 100, 115, 61] := ⟨Xa41, Va41, Ca41, Ba41, by decide⟩
  have f45 := SBc2.ext E43
  have f49 := Exa.ext E43 SBc2.1
  refine oGo.invokevirtual (pc' := 24) (k' := 9) (n' := 222) (a := a2) (argsL := [.ref a41]) (rest := []) d12_21 rfl (w95 hG) (w96 hG) (w98 hG) (w98 hG) rfl (w97 hG) (w78 hG) (w99 hG) (by decide) pd27 rfl rfl rfl f49 (c_append hG a2 bc2 a41 b42 [74, 117, 100, 103, 101, 100, 81, 117, 101, 114, 121, 91, 105, 100, 61, p0] [44, 32, 119, 111, 114, 100, 115, 61] 16 (Nat.le_of_ble_eq_true rfl) (by decide) (Nat.lt_of_sub_pos (by simp)) ⟨(Ne.symm (na41 a2 (by simp)).1), (Ne.symm (na41 bc2 (by simp)).1), (Ne.symm (na41 a2 (by simp)).2), (Ne.symm (na41 bc2 (by simp)).2)⟩ _ f45 S44) (by simp) (by decide) (Nat.le_of_ble_eq_true rfl) rfl rfl (by decide) (by decide) ?_
  intro v46 h47 sh47 q48
  obtain ⟨rfl, Kc3, bc3, hbc3, SBc3'⟩ := q48
  have SBc3 : oSB Z h47 a2 bc3 [74, 117, 100, 103, 101, 100, 81, 117, 101, 114, 121, 91, 105, 100, 61, p0, 44, 32, 119, 111, 114, 100, 115, 61] 34 := SBc3'
  have lbc3 : bc3 < h47.size := by obtain ⟨_, _, _, _, _, B, _⟩ := SBc3; exact own_ltN B.lt
  refine ⟨[bc3, bc2, bc1, bc0, a2], own_D1 (SBc3.2.1), ?_⟩
  show oGo l Z a0 EL True pP eE sS mM _ bB tT cC _ _ _ _ _ _ _ _ [bc3, bc2, bc1, bc0, a2] h47 9 222 24 #[.val (.ref jq)] [.ref a2]
  refine oGo.aload_n (pc' := 25) d12_24 rfl rfl rfl ?_
  have f50 := Fld.ext E3 F2
  have f51 := Fld.keep f50 Kc0 (own_nin1 (own_ne_ge (x := jq) (y := a2) ljq (own_ge_eq qa2)))
  have f52 := Fld.ext E15 f51
  have f53 := Fld.keep f52 Kc1 (own_nin2 (own_ne_ge (x := jq) (y := a2) ljq (own_ge_eq qa2)) (own_ne_ge (x := jq) (y := bc0) g26 hbc0))
  have g55 := own_lt_le (x := jq) g26 Kc0.1
  have g56 := own_lt_le (x := jq) g55 E15.1
  have f54 := Fld.keep f53 Kc2 (own_nin2 (own_ne_ge (x := jq) (y := a2) ljq (own_ge_eq qa2)) (own_ne_or (x := jq) (z := bc1) (own_ne_ge (x := jq) (y := bc0) g26 hbc0) g56 hbc1))
  have f57 := Fld.ext E43 f54
  have g59 := own_lt_le (x := jq) g56 Kc1.1
  have f58 := Fld.keep f57 Kc3 (own_nin2 (own_ne_ge (x := jq) (y := a2) ljq (own_ge_eq qa2)) (own_ne_or (x := jq) (z := bc2) (own_ne_or (x := jq) (z := bc1) (own_ne_ge (x := jq) (y := bc0) g26 hbc0) g56 hbc1) g59 hbc2))
  refine oGo.getfield (pc' := 28) d12_25 rfl (w60 hG) Via.refl f58 ?_
  have f60 := Sr.ext E3
  have f61 := f60.keep Kc0 (own_nin1 (own_ne_ge (x := r) (y := a2) lr (own_ge_eq qa2))) (own_nin1 (own_ne_ge (x := tr) (y := a2) ltr (own_ge_eq qa2)))
  have f62 := f61.ext E15
  have g64 := own_lt_le (x := r) lr E3.1
  have g65 := own_lt_le (x := tr) ltr E3.1
  have f63 := f62.keep Kc1 (own_nin2 (own_ne_ge (x := r) (y := a2) lr (own_ge_eq qa2)) (own_ne_ge (x := r) (y := bc0) g64 hbc0)) (own_nin2 (own_ne_ge (x := tr) (y := a2) ltr (own_ge_eq qa2)) (own_ne_ge (x := tr) (y := bc0) g65 hbc0))
  have g67 := own_lt_le (x := r) g64 Kc0.1
  have g68 := own_lt_le (x := r) g67 E15.1
  have g69 := own_lt_le (x := tr) g65 Kc0.1
  have g70 := own_lt_le (x := tr) g69 E15.1
  have f66 := f63.keep Kc2 (own_nin2 (own_ne_ge (x := r) (y := a2) lr (own_ge_eq qa2)) (own_ne_or (x := r) (z := bc1) (own_ne_ge (x := r) (y := bc0) g64 hbc0) g68 hbc1)) (own_nin2 (own_ne_ge (x := tr) (y := a2) ltr (own_ge_eq qa2)) (own_ne_or (x := tr) (z := bc1) (own_ne_ge (x := tr) (y := bc0) g65 hbc0) g70 hbc1))
  have f71 := f66.ext E43
  have g73 := own_lt_le (x := r) g68 Kc1.1
  have g74 := own_lt_le (x := tr) g70 Kc1.1
  have f72 := f71.keep Kc3 (own_nin2 (own_ne_ge (x := r) (y := a2) lr (own_ge_eq qa2)) (own_ne_or (x := r) (z := bc2) (own_ne_or (x := r) (z := bc1) (own_ne_ge (x := r) (y := bc0) g64 hbc0) g68 hbc1) g73 hbc2)) (own_nin2 (own_ne_ge (x := tr) (y := a2) ltr (own_ge_eq qa2)) (own_ne_or (x := tr) (z := bc2) (own_ne_or (x := tr) (z := bc1) (own_ne_ge (x := tr) (y := bc0) g65 hbc0) g70 hbc1) g74 hbc2))
  have g75 := own_lt_le (x := r) g73 Kc2.1
  have g76 := own_lt_le (x := r) g75 E43.1
  have g77 := own_lt_le (x := tr) g74 Kc2.1
  have g78 := own_lt_le (x := tr) g77 E43.1
  refine oGo.invokevirtual (pc' := 31) (k' := 10) (n' := 256) (a := a2) (argsL := [.ref r]) (rest := []) d12_28 rfl (w95 hG) (w96 hG) (w98 hG) (w98 hG) rfl (w97 hG) (w78 hG) (w99 hG) (by decide) pd27 rfl rfl rfl SBc3.1 (c_append hG a2 bc3 r tr [74, 117, 100, 103, 101, 100, 81, 117, 101, 114, 121, 91, 105, 100, 61, p0, 44, 32, 119, 111, 114, 100, 115, 61] [r0, r1] 34 (Nat.le_of_ble_eq_true rfl) (by decide) (Nat.lt_of_sub_pos (by simp)) ⟨(own_ne_ge (x := r) (y := a2) lr (own_ge_eq qa2)), (own_ne_or (x := r) (z := bc3) (own_ne_or (x := r) (z := bc2) (own_ne_or (x := r) (z := bc1) (own_ne_ge (x := r) (y := bc0) g64 hbc0) g68 hbc1) g73 hbc2) g76 hbc3), (own_ne_ge (x := tr) (y := a2) ltr (own_ge_eq qa2)), (own_ne_or (x := tr) (z := bc3) (own_ne_or (x := tr) (z := bc2) (own_ne_or (x := tr) (z := bc1) (own_ne_ge (x := tr) (y := bc0) g65 hbc0) g70 hbc1) g74 hbc2) g78 hbc3)⟩ _ SBc3 f72) (by simp) (by decide) (Nat.le_of_ble_eq_true rfl) rfl rfl (by decide) (by decide) ?_
  intro v79 h80 sh80 q81
  obtain ⟨rfl, Kc4, bc4, hbc4, SBc4'⟩ := q81
  have SBc4 : oSB Z h80 a2 bc4 [74, 117, 100, 103, 101, 100, 81, 117, 101, 114, 121, 91, 105, 100, 61, p0, 44, 32, 119, 111, 114, 100, 115, 61, r0, r1] 34 := SBc4'
  have lbc4 : bc4 < h80.size := by obtain ⟨_, _, _, _, _, B, _⟩ := SBc4; exact own_ltN B.lt
  refine ⟨[bc4, bc3, bc2, bc1, bc0, a2], own_D1 (SBc4.2.1), ?_⟩
  show oGo l Z a0 EL True pP eE sS mM _ bB tT cC _ _ _ _ _ _ _ _ [bc4, bc3, bc2, bc1, bc0, a2] h80 10 256 31 #[.val (.ref jq)] [.ref a2]
  refine oGo.ldc_str (pc' := 33) (k' := 12) (n' := 264) (vs := oI (([93] : List Int32).map lo8)) d12_31 rfl trivial (w166 hG) (strAt hG) (hG.2.2.2 _ (by decide)) (by decide) (by decide) rfl rfl (by decide) (by decide) ?_
  intro h82 a83 b84 E85 Xa83 Ca83 Va83 Ba83 la83 lb84 na83
  have S86 : oS Z h82 a83 b84 [93] := ⟨Xa83, Va83, Ca83, Ba83, by decide⟩
  have f87 := SBc4.ext E85
  have f91 := Exa.ext E85 SBc4.1
  refine oGo.invokevirtual (pc' := 36) (k' := 13) (n' := 298) (a := a2) (argsL := [.ref a83]) (rest := []) d12_33 rfl (w95 hG) (w96 hG) (w98 hG) (w98 hG) rfl (w97 hG) (w78 hG) (w99 hG) (by decide) pd27 rfl rfl rfl f91 (c_append hG a2 bc4 a83 b84 [74, 117, 100, 103, 101, 100, 81, 117, 101, 114, 121, 91, 105, 100, 61, p0, 44, 32, 119, 111, 114, 100, 115, 61, r0, r1] [93] 34 (Nat.le_of_ble_eq_true rfl) (by decide) (Nat.lt_of_sub_pos (by simp)) ⟨(Ne.symm (na83 a2 (by simp)).1), (Ne.symm (na83 bc4 (by simp)).1), (Ne.symm (na83 a2 (by simp)).2), (Ne.symm (na83 bc4 (by simp)).2)⟩ _ f87 S86) (by simp) (by decide) (Nat.le_of_ble_eq_true rfl) rfl rfl (by decide) (by decide) ?_
  intro v88 h89 sh89 q90
  obtain ⟨rfl, Kc5, bc5, hbc5, SBc5'⟩ := q90
  have SBc5 : oSB Z h89 a2 bc5 [74, 117, 100, 103, 101, 100, 81, 117, 101, 114, 121, 91, 105, 100, 61, p0, 44, 32, 119, 111, 114, 100, 115, 61, r0, r1, 93] 34 := SBc5'
  have lbc5 : bc5 < h89.size := by obtain ⟨_, _, _, _, _, B, _⟩ := SBc5; exact own_ltN B.lt
  refine ⟨[bc5, bc4, bc3, bc2, bc1, bc0, a2], own_D1 (SBc5.2.1), ?_⟩
  show oGo l Z a0 EL True pP eE sS mM _ bB tT cC _ _ _ _ _ _ _ _ [bc5, bc4, bc3, bc2, bc1, bc0, a2] h89 13 298 36 #[.val (.ref jq)] [.ref a2]
  refine oGo.invokevirtual (pc' := 39) (k' := 15) (n' := 332) (a := a2) (argsL := []) (rest := []) d12_36 rfl (w167 hG) (w168 hG) (w170 hG) (w170 hG) rfl (w169 hG) (w78 hG) (w171 hG) (by decide) pd28 rfl rfl rfl SBc5.1 (c_toStr hG a2 bc5 [74, 117, 100, 103, 101, 100, 81, 117, 101, 114, 121, 91, 105, 100, 61, p0, 44, 32, 119, 111, 114, 100, 115, 61, r0, r1, 93] 34 (by simp) (by simp) (by intro c hc; simp only [List.mem_cons, List.not_mem_nil, or_false] at hc; rcases hc with rfl | rfl | rfl | rfl | rfl | rfl | rfl | rfl | rfl | rfl | rfl | rfl | rfl | rfl | rfl | rfl | rfl | rfl | rfl | rfl | rfl | rfl | rfl | rfl | rfl | rfl | rfl <;> first | decide | assumption) _ SBc5) (by simp) (by decide) (Nat.le_of_ble_eq_true rfl) rfl rfl (by decide) (by decide) ?_
  intro v92 h93 sh93 q94
  obtain ⟨Kz, xz, tz, rfl, gxz, gtz, Sz⟩ := q94
  have lxz := own_ltN Sz.1.lt
  have ltz := own_ltN Sz.2.2.2.1.lt
  refine ⟨_, fun _ hx => Or.inl hx, ?_⟩
  show oGo l Z a0 EL True pP eE sS mM _ bB tT cC _ _ _ _ _ _ _ _ [bc5, bc4, bc3, bc2, bc1, bc0, a2] h93 15 332 39 #[.val (.ref jq)] [.ref xz]
  have z95 := own_le_le (x := h.size) (Nat.le_refl _) E3.1
  have z96 := own_le_le (x := h.size) z95 Kc0.1
  have z97 := own_le_le (x := h.size) z96 E15.1
  have z98 := own_le_le (x := h.size) z97 Kc1.1
  have z99 := own_le_le (x := h.size) z98 Kc2.1
  have z100 := own_le_le (x := h.size) z99 E43.1
  have z101 := own_le_le (x := h.size) z100 Kc3.1
  have K102 : Keep h h93 [] := ((((((((((((Keep.refl h []).ext E3).trans Kc0 (own_new1 (own_le_le (x := h.size) (Nat.le_refl _) (own_ge_eq qa2)))).ext E15).trans Kc1 (own_new2 (own_le_le (x := h.size) (Nat.le_refl _) (own_ge_eq qa2)) (own_le_le (x := h.size) z95 hbc0))).trans Kc2 (own_new2 (own_le_le (x := h.size) (Nat.le_refl _) (own_ge_eq qa2)) (own_ge_or (own_le_le (x := h.size) z95 hbc0) z97 hbc1))).ext E43).trans Kc3 (own_new2 (own_le_le (x := h.size) (Nat.le_refl _) (own_ge_eq qa2)) (own_ge_or (own_ge_or (own_le_le (x := h.size) z95 hbc0) z97 hbc1) z98 hbc2))).trans Kc4 (own_new2 (own_le_le (x := h.size) (Nat.le_refl _) (own_ge_eq qa2)) (own_ge_or (own_ge_or (own_ge_or (own_le_le (x := h.size) z95 hbc0) z97 hbc1) z98 hbc2) z100 hbc3))).ext E85).trans Kc5 (own_new2 (own_le_le (x := h.size) (Nat.le_refl _) (own_ge_eq qa2)) (own_ge_or (own_ge_or (own_ge_or (own_ge_or (own_le_le (x := h.size) z95 hbc0) z97 hbc1) z98 hbc2) z100 hbc3) z101 hbc4))).trans Kz (by simp))
  have z103 := own_le_le (x := h.size) z101 Kc4.1
  have z104 := own_le_le (x := h.size) z103 E85.1
  have z105 := own_le_le (x := h.size) z104 Kc5.1
  exact oGo.areturn d12_39 rfl rfl rfl rfl (by decide) (by decide) ⟨K102, xz, tz, rfl, (own_le_le (x := h.size) z105 gxz), (own_le_le (x := h.size) z105 gtz), Sz⟩ (fun _ q => q.elim)
set_option maxRecDepth 65536 in
set_option maxHeartbeats 4000000 in
theorem c_ts20 {l : Launch} {Z : State} {a0 : Array Value} {EL : List (String × Nat)} (hG : oG a0 Z EL) (jq p tp r tr : Nat) (p0 p1 : Int32) (bp0 : ¬ p0 < 0 ∧ ¬ 255 < p0) (bp1 : ¬ p1 < 0 ∧ ¬ 255 < p1) (h : Heap) (F1 : Fld Z h jq "com/example/soft_sieve/softsieve/JudgedQuery" "id" "Ljava/lang/String;" (.ref p)) (F2 : Fld Z h jq "com/example/soft_sieve/softsieve/JudgedQuery" "words" "Ljava/lang/String;" (.ref r)) (Sp : oS Z h p tp [p0, p1]) (Sr : oS Z h r tr []) :
    oCtr [] l Z a0 EL True (⟨"com/example/soft_sieve/softsieve/JudgedQuery", "toString", "()Ljava/lang/String;"⟩ : MethodName) prog_6_method_7_code 1 (some (.object "java/lang/String")) ({ frames := 6, cells := 20, slots := 1000, locals := 91 } : Room) #[.ref jq] [] h ((q_toStr Z h [74, 117, 100, 103, 101, 100, 81, 117, 101, 114, 121, 91, 105, 100, 61, p0, p1, 44, 32, 119, 111, 114, 100, 115, 61, 93])) oNo := by
  have ljq := own_ltN F1.lt
  have lp := own_ltN Sp.1.lt
  have ltp := own_ltN Sp.2.2.2.1.lt
  have lr := own_ltN Sr.1.lt
  have ltr := own_ltN Sr.2.2.2.1.lt
  refine oCtr.enter (Ls := #[.val (.ref jq)]) (plainFor_of_name pn11) hG.2.1 (fun m => by first | (simp [entryFrame, mkF, argsToLocals, Value.category]; done) | rfl) ?_
  intro pP eE sS mM bB tT cC
  refine oGo.new (pc' := 3) (k' := 1) (n' := 4) d12_0 rfl (w76 hG) (w77 hG) (w78 hG) rfl rfl (by decide) (by decide) ?_
  intro h1 a2 qa2 la2 E3 X4 F5
  have f6 := F5 (Or.inl (w91 hG)) (ty := (.array .byte)) (by decide)
  have f7 := F5 (Or.inl (w93 hG)) (ty := .byte) (by decide)
  have f8 := F5 (Or.inl (w116 hG)) (ty := .int) (by decide)
  refine oGo.dup (pc' := 4) d12_3 rfl rfl ?_
  refine oGo.invokespecial (pc' := 7) (k' := 2) (n' := 20) (a := a2) (argsL := []) (rest := [.ref a2]) d12_4 rfl rfl (w79 hG) (w80 hG) (w78 hG) (w81 hG) (by decide) pd26 rfl rfl rfl (c_sbInit hG a2 _ _ X4 f6 f7 f8) (by simp) (by decide) (Nat.le_of_ble_eq_true rfl) rfl rfl (by decide) (by decide) ?_
  intro v9 h10 sh10 q11
  obtain ⟨rfl, Kc0, bc0, hbc0, SBc0⟩ := q11
  have lbc0 : bc0 < h10.size := by obtain ⟨_, _, _, _, _, B, _⟩ := SBc0; exact own_ltN B.lt
  refine ⟨[bc0, a2], own_D1 (SBc0.2.1), ?_⟩
  show oGo l Z a0 EL True pP eE sS mM _ bB tT cC _ _ _ _ _ _ _ _ [bc0, a2] h10 2 20 7 #[.val (.ref jq)] [.ref a2]
  refine oGo.ldc_str (pc' := 9) (k' := 4) (n' := 84) (vs := oI (([74, 117, 100, 103, 101, 100, 81, 117, 101, 114, 121, 91, 105, 100, 61] : List Int32).map lo8)) d12_7 rfl trivial (w94 hG) (strAt hG) (hG.2.2.2 _ (by decide)) (by decide) (by decide) rfl rfl (by decide) (by decide) ?_
  intro h12 a13 b14 E15 Xa13 Ca13 Va13 Ba13 la13 lb14 na13
  have S16 : oS Z h12 a13 b14 [74, 117, 100, 103, 101, 100, 81, 117, 101, 114, 121, 91, 105, 100, 61] := ⟨Xa13, Va13, Ca13, Ba13, by decide⟩
  have f17 := SBc0.ext E15
  have f21 := Exa.ext E15 SBc0.1
  refine oGo.invokevirtual (pc' := 12) (k' := 5) (n' := 118) (a := a2) (argsL := [.ref a13]) (rest := []) d12_9 rfl (w95 hG) (w96 hG) (w98 hG) (w98 hG) rfl (w97 hG) (w78 hG) (w99 hG) (by decide) pd27 rfl rfl rfl f21 (c_append hG a2 bc0 a13 b14 [] [74, 117, 100, 103, 101, 100, 81, 117, 101, 114, 121, 91, 105, 100, 61] 16 (Nat.le_of_ble_eq_true rfl) (by decide) (Nat.lt_of_sub_pos (by simp)) ⟨(Ne.symm (na13 a2 (by simp)).1), (Ne.symm (na13 bc0 (by simp)).1), (Ne.symm (na13 a2 (by simp)).2), (Ne.symm (na13 bc0 (by simp)).2)⟩ _ f17 S16) (by simp) (by decide) (Nat.le_of_ble_eq_true rfl) rfl rfl (by decide) (by decide) ?_
  intro v18 h19 sh19 q20
  obtain ⟨rfl, Kc1, bc1, hbc1, SBc1'⟩ := q20
  have SBc1 : oSB Z h19 a2 bc1 [74, 117, 100, 103, 101, 100, 81, 117, 101, 114, 121, 91, 105, 100, 61] 16 := SBc1'
  have lbc1 : bc1 < h19.size := by obtain ⟨_, _, _, _, _, B, _⟩ := SBc1; exact own_ltN B.lt
  refine ⟨[bc1, bc0, a2], own_D1 (SBc1.2.1), ?_⟩
  show oGo l Z a0 EL True pP eE sS mM _ bB tT cC _ _ _ _ _ _ _ _ [bc1, bc0, a2] h19 5 118 12 #[.val (.ref jq)] [.ref a2]
  refine oGo.aload_n (pc' := 13) d12_12 rfl rfl rfl ?_
  have f22 := Fld.ext E3 F1
  have f23 := Fld.keep f22 Kc0 (own_nin1 (own_ne_ge (x := jq) (y := a2) ljq (own_ge_eq qa2)))
  have f24 := Fld.ext E15 f23
  have g26 := own_lt_le (x := jq) ljq E3.1
  have f25 := Fld.keep f24 Kc1 (own_nin2 (own_ne_ge (x := jq) (y := a2) ljq (own_ge_eq qa2)) (own_ne_ge (x := jq) (y := bc0) g26 hbc0))
  refine oGo.getfield (pc' := 16) d12_13 rfl (w57 hG) Via.refl f25 ?_
  have f27 := Sp.ext E3
  have f28 := f27.keep Kc0 (own_nin1 (own_ne_ge (x := p) (y := a2) lp (own_ge_eq qa2))) (own_nin1 (own_ne_ge (x := tp) (y := a2) ltp (own_ge_eq qa2)))
  have f29 := f28.ext E15
  have g31 := own_lt_le (x := p) lp E3.1
  have g32 := own_lt_le (x := tp) ltp E3.1
  have f30 := f29.keep Kc1 (own_nin2 (own_ne_ge (x := p) (y := a2) lp (own_ge_eq qa2)) (own_ne_ge (x := p) (y := bc0) g31 hbc0)) (own_nin2 (own_ne_ge (x := tp) (y := a2) ltp (own_ge_eq qa2)) (own_ne_ge (x := tp) (y := bc0) g32 hbc0))
  have g33 := own_lt_le (x := p) g31 Kc0.1
  have g34 := own_lt_le (x := p) g33 E15.1
  have g35 := own_lt_le (x := tp) g32 Kc0.1
  have g36 := own_lt_le (x := tp) g35 E15.1
  refine oGo.invokevirtual (pc' := 19) (k' := 6) (n' := 152) (a := a2) (argsL := [.ref p]) (rest := []) d12_16 rfl (w95 hG) (w96 hG) (w98 hG) (w98 hG) rfl (w97 hG) (w78 hG) (w99 hG) (by decide) pd27 rfl rfl rfl SBc1.1 (c_append hG a2 bc1 p tp [74, 117, 100, 103, 101, 100, 81, 117, 101, 114, 121, 91, 105, 100, 61] [p0, p1] 16 (Nat.le_of_ble_eq_true rfl) (by decide) (Nat.lt_of_sub_pos (by simp)) ⟨(own_ne_ge (x := p) (y := a2) lp (own_ge_eq qa2)), (own_ne_or (x := p) (z := bc1) (own_ne_ge (x := p) (y := bc0) g31 hbc0) g34 hbc1), (own_ne_ge (x := tp) (y := a2) ltp (own_ge_eq qa2)), (own_ne_or (x := tp) (z := bc1) (own_ne_ge (x := tp) (y := bc0) g32 hbc0) g36 hbc1)⟩ _ SBc1 f30) (by simp) (by decide) (Nat.le_of_ble_eq_true rfl) rfl rfl (by decide) (by decide) ?_
  intro v37 h38 sh38 q39
  obtain ⟨rfl, Kc2, bc2, hbc2, SBc2'⟩ := q39
  have SBc2 : oSB Z h38 a2 bc2 [74, 117, 100, 103, 101, 100, 81, 117, 101, 114, 121, 91, 105, 100, 61, p0, p1] 34 := SBc2'
  have lbc2 : bc2 < h38.size := by obtain ⟨_, _, _, _, _, B, _⟩ := SBc2; exact own_ltN B.lt
  refine ⟨[bc2, bc1, bc0, a2], own_D1 (SBc2.2.1), ?_⟩
  show oGo l Z a0 EL True pP eE sS mM _ bB tT cC _ _ _ _ _ _ _ _ [bc2, bc1, bc0, a2] h38 6 152 19 #[.val (.ref jq)] [.ref a2]
  refine oGo.ldc_str (pc' := 21) (k' := 8) (n' := 188) (vs := oI (([44, 32, 119, 111, 114, 100, 115, 61] : List Int32).map lo8)) d12_19 rfl trivial (w142 hG) (strAt hG) (hG.2.2.2 _ (by decide)) (by decide) (by decide) rfl rfl (by decide) (by decide) ?_
  intro h40 a41 b42 E43 Xa41 Ca41 Va41 Ba41 la41 lb42 na41
  have S44 : oS Z h40 a41 b42 [44, 32, 119, 111, 114, 100, 115, 61] := ⟨Xa41, Va41, Ca41, Ba41, by decide⟩
  have f45 := SBc2.ext E43
  have f49 := Exa.ext E43 SBc2.1
  refine oGo.invokevirtual (pc' := 24) (k' := 9) (n' := 222) (a := a2) (argsL := [.ref a41]) (rest := []) d12_21 rfl (w95 hG) (w96 hG) (w98 hG) (w98 hG) rfl (w97 hG) (w78 hG) (w99 hG) (by decide) pd27 rfl rfl rfl f49 (c_append hG a2 bc2 a41 b42 [74, 117, 100, 103, 101, 100, 81, 117, 101, 114, 121, 91, 105, 100, 61, p0, p1] [44, 32, 119, 111, 114, 100, 115, 61] 34 (Nat.le_of_ble_eq_true rfl) (by decide) (Nat.lt_of_sub_pos (by simp)) ⟨(Ne.symm (na41 a2 (by simp)).1), (Ne.symm (na41 bc2 (by simp)).1), (Ne.symm (na41 a2 (by simp)).2), (Ne.symm (na41 bc2 (by simp)).2)⟩ _ f45 S44) (by simp) (by decide) (Nat.le_of_ble_eq_true rfl) rfl rfl (by decide) (by decide) ?_
  intro v46 h47 sh47 q48
  obtain ⟨rfl, Kc3, bc3, hbc3, SBc3'⟩ := q48
  have SBc3 : oSB Z h47 a2 bc3 [74, 117, 100, 103, 101, 100, 81, 117, 101, 114, 121, 91, 105, 100, 61, p0, p1, 44, 32, 119, 111, 114, 100, 115, 61] 34 := SBc3'
  have lbc3 : bc3 < h47.size := by obtain ⟨_, _, _, _, _, B, _⟩ := SBc3; exact own_ltN B.lt
  refine ⟨[bc3, bc2, bc1, bc0, a2], own_D1 (SBc3.2.1), ?_⟩
  show oGo l Z a0 EL True pP eE sS mM _ bB tT cC _ _ _ _ _ _ _ _ [bc3, bc2, bc1, bc0, a2] h47 9 222 24 #[.val (.ref jq)] [.ref a2]
  refine oGo.aload_n (pc' := 25) d12_24 rfl rfl rfl ?_
  have f50 := Fld.ext E3 F2
  have f51 := Fld.keep f50 Kc0 (own_nin1 (own_ne_ge (x := jq) (y := a2) ljq (own_ge_eq qa2)))
  have f52 := Fld.ext E15 f51
  have f53 := Fld.keep f52 Kc1 (own_nin2 (own_ne_ge (x := jq) (y := a2) ljq (own_ge_eq qa2)) (own_ne_ge (x := jq) (y := bc0) g26 hbc0))
  have g55 := own_lt_le (x := jq) g26 Kc0.1
  have g56 := own_lt_le (x := jq) g55 E15.1
  have f54 := Fld.keep f53 Kc2 (own_nin2 (own_ne_ge (x := jq) (y := a2) ljq (own_ge_eq qa2)) (own_ne_or (x := jq) (z := bc1) (own_ne_ge (x := jq) (y := bc0) g26 hbc0) g56 hbc1))
  have f57 := Fld.ext E43 f54
  have g59 := own_lt_le (x := jq) g56 Kc1.1
  have f58 := Fld.keep f57 Kc3 (own_nin2 (own_ne_ge (x := jq) (y := a2) ljq (own_ge_eq qa2)) (own_ne_or (x := jq) (z := bc2) (own_ne_or (x := jq) (z := bc1) (own_ne_ge (x := jq) (y := bc0) g26 hbc0) g56 hbc1) g59 hbc2))
  refine oGo.getfield (pc' := 28) d12_25 rfl (w60 hG) Via.refl f58 ?_
  have f60 := Sr.ext E3
  have f61 := f60.keep Kc0 (own_nin1 (own_ne_ge (x := r) (y := a2) lr (own_ge_eq qa2))) (own_nin1 (own_ne_ge (x := tr) (y := a2) ltr (own_ge_eq qa2)))
  have f62 := f61.ext E15
  have g64 := own_lt_le (x := r) lr E3.1
  have g65 := own_lt_le (x := tr) ltr E3.1
  have f63 := f62.keep Kc1 (own_nin2 (own_ne_ge (x := r) (y := a2) lr (own_ge_eq qa2)) (own_ne_ge (x := r) (y := bc0) g64 hbc0)) (own_nin2 (own_ne_ge (x := tr) (y := a2) ltr (own_ge_eq qa2)) (own_ne_ge (x := tr) (y := bc0) g65 hbc0))
  have g67 := own_lt_le (x := r) g64 Kc0.1
  have g68 := own_lt_le (x := r) g67 E15.1
  have g69 := own_lt_le (x := tr) g65 Kc0.1
  have g70 := own_lt_le (x := tr) g69 E15.1
  have f66 := f63.keep Kc2 (own_nin2 (own_ne_ge (x := r) (y := a2) lr (own_ge_eq qa2)) (own_ne_or (x := r) (z := bc1) (own_ne_ge (x := r) (y := bc0) g64 hbc0) g68 hbc1)) (own_nin2 (own_ne_ge (x := tr) (y := a2) ltr (own_ge_eq qa2)) (own_ne_or (x := tr) (z := bc1) (own_ne_ge (x := tr) (y := bc0) g65 hbc0) g70 hbc1))
  have f71 := f66.ext E43
  have g73 := own_lt_le (x := r) g68 Kc1.1
  have g74 := own_lt_le (x := tr) g70 Kc1.1
  have f72 := f71.keep Kc3 (own_nin2 (own_ne_ge (x := r) (y := a2) lr (own_ge_eq qa2)) (own_ne_or (x := r) (z := bc2) (own_ne_or (x := r) (z := bc1) (own_ne_ge (x := r) (y := bc0) g64 hbc0) g68 hbc1) g73 hbc2)) (own_nin2 (own_ne_ge (x := tr) (y := a2) ltr (own_ge_eq qa2)) (own_ne_or (x := tr) (z := bc2) (own_ne_or (x := tr) (z := bc1) (own_ne_ge (x := tr) (y := bc0) g65 hbc0) g70 hbc1) g74 hbc2))
  have g75 := own_lt_le (x := r) g73 Kc2.1
  have g76 := own_lt_le (x := r) g75 E43.1
  have g77 := own_lt_le (x := tr) g74 Kc2.1
  have g78 := own_lt_le (x := tr) g77 E43.1
  refine oGo.invokevirtual (pc' := 31) (k' := 10) (n' := 256) (a := a2) (argsL := [.ref r]) (rest := []) d12_28 rfl (w95 hG) (w96 hG) (w98 hG) (w98 hG) rfl (w97 hG) (w78 hG) (w99 hG) (by decide) pd27 rfl rfl rfl SBc3.1 (c_append hG a2 bc3 r tr [74, 117, 100, 103, 101, 100, 81, 117, 101, 114, 121, 91, 105, 100, 61, p0, p1, 44, 32, 119, 111, 114, 100, 115, 61] [] 34 (Nat.le_of_ble_eq_true rfl) (by decide) (Nat.lt_of_sub_pos (by simp)) ⟨(own_ne_ge (x := r) (y := a2) lr (own_ge_eq qa2)), (own_ne_or (x := r) (z := bc3) (own_ne_or (x := r) (z := bc2) (own_ne_or (x := r) (z := bc1) (own_ne_ge (x := r) (y := bc0) g64 hbc0) g68 hbc1) g73 hbc2) g76 hbc3), (own_ne_ge (x := tr) (y := a2) ltr (own_ge_eq qa2)), (own_ne_or (x := tr) (z := bc3) (own_ne_or (x := tr) (z := bc2) (own_ne_or (x := tr) (z := bc1) (own_ne_ge (x := tr) (y := bc0) g65 hbc0) g70 hbc1) g74 hbc2) g78 hbc3)⟩ _ SBc3 f72) (by simp) (by decide) (Nat.le_of_ble_eq_true rfl) rfl rfl (by decide) (by decide) ?_
  intro v79 h80 sh80 q81
  obtain ⟨rfl, Kc4, bc4, hbc4, SBc4'⟩ := q81
  have SBc4 : oSB Z h80 a2 bc4 [74, 117, 100, 103, 101, 100, 81, 117, 101, 114, 121, 91, 105, 100, 61, p0, p1, 44, 32, 119, 111, 114, 100, 115, 61] 34 := SBc4'
  have lbc4 : bc4 < h80.size := by obtain ⟨_, _, _, _, _, B, _⟩ := SBc4; exact own_ltN B.lt
  refine ⟨[bc4, bc3, bc2, bc1, bc0, a2], own_D1 (SBc4.2.1), ?_⟩
  show oGo l Z a0 EL True pP eE sS mM _ bB tT cC _ _ _ _ _ _ _ _ [bc4, bc3, bc2, bc1, bc0, a2] h80 10 256 31 #[.val (.ref jq)] [.ref a2]
  refine oGo.ldc_str (pc' := 33) (k' := 12) (n' := 264) (vs := oI (([93] : List Int32).map lo8)) d12_31 rfl trivial (w166 hG) (strAt hG) (hG.2.2.2 _ (by decide)) (by decide) (by decide) rfl rfl (by decide) (by decide) ?_
  intro h82 a83 b84 E85 Xa83 Ca83 Va83 Ba83 la83 lb84 na83
  have S86 : oS Z h82 a83 b84 [93] := ⟨Xa83, Va83, Ca83, Ba83, by decide⟩
  have f87 := SBc4.ext E85
  have f91 := Exa.ext E85 SBc4.1
  refine oGo.invokevirtual (pc' := 36) (k' := 13) (n' := 298) (a := a2) (argsL := [.ref a83]) (rest := []) d12_33 rfl (w95 hG) (w96 hG) (w98 hG) (w98 hG) rfl (w97 hG) (w78 hG) (w99 hG) (by decide) pd27 rfl rfl rfl f91 (c_append hG a2 bc4 a83 b84 [74, 117, 100, 103, 101, 100, 81, 117, 101, 114, 121, 91, 105, 100, 61, p0, p1, 44, 32, 119, 111, 114, 100, 115, 61] [93] 34 (Nat.le_of_ble_eq_true rfl) (by decide) (Nat.lt_of_sub_pos (by simp)) ⟨(Ne.symm (na83 a2 (by simp)).1), (Ne.symm (na83 bc4 (by simp)).1), (Ne.symm (na83 a2 (by simp)).2), (Ne.symm (na83 bc4 (by simp)).2)⟩ _ f87 S86) (by simp) (by decide) (Nat.le_of_ble_eq_true rfl) rfl rfl (by decide) (by decide) ?_
  intro v88 h89 sh89 q90
  obtain ⟨rfl, Kc5, bc5, hbc5, SBc5'⟩ := q90
  have SBc5 : oSB Z h89 a2 bc5 [74, 117, 100, 103, 101, 100, 81, 117, 101, 114, 121, 91, 105, 100, 61, p0, p1, 44, 32, 119, 111, 114, 100, 115, 61, 93] 34 := SBc5'
  have lbc5 : bc5 < h89.size := by obtain ⟨_, _, _, _, _, B, _⟩ := SBc5; exact own_ltN B.lt
  refine ⟨[bc5, bc4, bc3, bc2, bc1, bc0, a2], own_D1 (SBc5.2.1), ?_⟩
  show oGo l Z a0 EL True pP eE sS mM _ bB tT cC _ _ _ _ _ _ _ _ [bc5, bc4, bc3, bc2, bc1, bc0, a2] h89 13 298 36 #[.val (.ref jq)] [.ref a2]
  refine oGo.invokevirtual (pc' := 39) (k' := 15) (n' := 332) (a := a2) (argsL := []) (rest := []) d12_36 rfl (w167 hG) (w168 hG) (w170 hG) (w170 hG) rfl (w169 hG) (w78 hG) (w171 hG) (by decide) pd28 rfl rfl rfl SBc5.1 (c_toStr hG a2 bc5 [74, 117, 100, 103, 101, 100, 81, 117, 101, 114, 121, 91, 105, 100, 61, p0, p1, 44, 32, 119, 111, 114, 100, 115, 61, 93] 34 (by simp) (by simp) (by intro c hc; simp only [List.mem_cons, List.not_mem_nil, or_false] at hc; rcases hc with rfl | rfl | rfl | rfl | rfl | rfl | rfl | rfl | rfl | rfl | rfl | rfl | rfl | rfl | rfl | rfl | rfl | rfl | rfl | rfl | rfl | rfl | rfl | rfl | rfl | rfl <;> first | decide | assumption) _ SBc5) (by simp) (by decide) (Nat.le_of_ble_eq_true rfl) rfl rfl (by decide) (by decide) ?_
  intro v92 h93 sh93 q94
  obtain ⟨Kz, xz, tz, rfl, gxz, gtz, Sz⟩ := q94
  have lxz := own_ltN Sz.1.lt
  have ltz := own_ltN Sz.2.2.2.1.lt
  refine ⟨_, fun _ hx => Or.inl hx, ?_⟩
  show oGo l Z a0 EL True pP eE sS mM _ bB tT cC _ _ _ _ _ _ _ _ [bc5, bc4, bc3, bc2, bc1, bc0, a2] h93 15 332 39 #[.val (.ref jq)] [.ref xz]
  have z95 := own_le_le (x := h.size) (Nat.le_refl _) E3.1
  have z96 := own_le_le (x := h.size) z95 Kc0.1
  have z97 := own_le_le (x := h.size) z96 E15.1
  have z98 := own_le_le (x := h.size) z97 Kc1.1
  have z99 := own_le_le (x := h.size) z98 Kc2.1
  have z100 := own_le_le (x := h.size) z99 E43.1
  have z101 := own_le_le (x := h.size) z100 Kc3.1
  have K102 : Keep h h93 [] := ((((((((((((Keep.refl h []).ext E3).trans Kc0 (own_new1 (own_le_le (x := h.size) (Nat.le_refl _) (own_ge_eq qa2)))).ext E15).trans Kc1 (own_new2 (own_le_le (x := h.size) (Nat.le_refl _) (own_ge_eq qa2)) (own_le_le (x := h.size) z95 hbc0))).trans Kc2 (own_new2 (own_le_le (x := h.size) (Nat.le_refl _) (own_ge_eq qa2)) (own_ge_or (own_le_le (x := h.size) z95 hbc0) z97 hbc1))).ext E43).trans Kc3 (own_new2 (own_le_le (x := h.size) (Nat.le_refl _) (own_ge_eq qa2)) (own_ge_or (own_ge_or (own_le_le (x := h.size) z95 hbc0) z97 hbc1) z98 hbc2))).trans Kc4 (own_new2 (own_le_le (x := h.size) (Nat.le_refl _) (own_ge_eq qa2)) (own_ge_or (own_ge_or (own_ge_or (own_le_le (x := h.size) z95 hbc0) z97 hbc1) z98 hbc2) z100 hbc3))).ext E85).trans Kc5 (own_new2 (own_le_le (x := h.size) (Nat.le_refl _) (own_ge_eq qa2)) (own_ge_or (own_ge_or (own_ge_or (own_ge_or (own_le_le (x := h.size) z95 hbc0) z97 hbc1) z98 hbc2) z100 hbc3) z101 hbc4))).trans Kz (by simp))
  have z103 := own_le_le (x := h.size) z101 Kc4.1
  have z104 := own_le_le (x := h.size) z103 E85.1
  have z105 := own_le_le (x := h.size) z104 Kc5.1
  exact oGo.areturn d12_39 rfl rfl rfl rfl (by decide) (by decide) ⟨K102, xz, tz, rfl, (own_le_le (x := h.size) z105 gxz), (own_le_le (x := h.size) z105 gtz), Sz⟩ (fun _ q => q.elim)
set_option maxRecDepth 65536 in
set_option maxHeartbeats 4000000 in
theorem c_ts21 {l : Launch} {Z : State} {a0 : Array Value} {EL : List (String × Nat)} (hG : oG a0 Z EL) (jq p tp r tr : Nat) (p0 p1 r0 : Int32) (bp0 : ¬ p0 < 0 ∧ ¬ 255 < p0) (bp1 : ¬ p1 < 0 ∧ ¬ 255 < p1) (br0 : ¬ r0 < 0 ∧ ¬ 255 < r0) (h : Heap) (F1 : Fld Z h jq "com/example/soft_sieve/softsieve/JudgedQuery" "id" "Ljava/lang/String;" (.ref p)) (F2 : Fld Z h jq "com/example/soft_sieve/softsieve/JudgedQuery" "words" "Ljava/lang/String;" (.ref r)) (Sp : oS Z h p tp [p0, p1]) (Sr : oS Z h r tr [r0]) :
    oCtr [] l Z a0 EL True (⟨"com/example/soft_sieve/softsieve/JudgedQuery", "toString", "()Ljava/lang/String;"⟩ : MethodName) prog_6_method_7_code 1 (some (.object "java/lang/String")) ({ frames := 6, cells := 20, slots := 1000, locals := 91 } : Room) #[.ref jq] [] h ((q_toStr Z h [74, 117, 100, 103, 101, 100, 81, 117, 101, 114, 121, 91, 105, 100, 61, p0, p1, 44, 32, 119, 111, 114, 100, 115, 61, r0, 93])) oNo := by
  have ljq := own_ltN F1.lt
  have lp := own_ltN Sp.1.lt
  have ltp := own_ltN Sp.2.2.2.1.lt
  have lr := own_ltN Sr.1.lt
  have ltr := own_ltN Sr.2.2.2.1.lt
  refine oCtr.enter (Ls := #[.val (.ref jq)]) (plainFor_of_name pn11) hG.2.1 (fun m => by first | (simp [entryFrame, mkF, argsToLocals, Value.category]; done) | rfl) ?_
  intro pP eE sS mM bB tT cC
  refine oGo.new (pc' := 3) (k' := 1) (n' := 4) d12_0 rfl (w76 hG) (w77 hG) (w78 hG) rfl rfl (by decide) (by decide) ?_
  intro h1 a2 qa2 la2 E3 X4 F5
  have f6 := F5 (Or.inl (w91 hG)) (ty := (.array .byte)) (by decide)
  have f7 := F5 (Or.inl (w93 hG)) (ty := .byte) (by decide)
  have f8 := F5 (Or.inl (w116 hG)) (ty := .int) (by decide)
  refine oGo.dup (pc' := 4) d12_3 rfl rfl ?_
  refine oGo.invokespecial (pc' := 7) (k' := 2) (n' := 20) (a := a2) (argsL := []) (rest := [.ref a2]) d12_4 rfl rfl (w79 hG) (w80 hG) (w78 hG) (w81 hG) (by decide) pd26 rfl rfl rfl (c_sbInit hG a2 _ _ X4 f6 f7 f8) (by simp) (by decide) (Nat.le_of_ble_eq_true rfl) rfl rfl (by decide) (by decide) ?_
  intro v9 h10 sh10 q11
  obtain ⟨rfl, Kc0, bc0, hbc0, SBc0⟩ := q11
  have lbc0 : bc0 < h10.size := by obtain ⟨_, _, _, _, _, B, _⟩ := SBc0; exact own_ltN B.lt
  refine ⟨[bc0, a2], own_D1 (SBc0.2.1), ?_⟩
  show oGo l Z a0 EL True pP eE sS mM _ bB tT cC _ _ _ _ _ _ _ _ [bc0, a2] h10 2 20 7 #[.val (.ref jq)] [.ref a2]
  refine oGo.ldc_str (pc' := 9) (k' := 4) (n' := 84) (vs := oI (([74, 117, 100, 103, 101, 100, 81, 117, 101, 114, 121, 91, 105, 100, 61] : List Int32).map lo8)) d12_7 rfl trivial (w94 hG) (strAt hG) (hG.2.2.2 _ (by decide)) (by decide) (by decide) rfl rfl (by decide) (by decide) ?_
  intro h12 a13 b14 E15 Xa13 Ca13 Va13 Ba13 la13 lb14 na13
  have S16 : oS Z h12 a13 b14 [74, 117, 100, 103, 101, 100, 81, 117, 101, 114, 121, 91, 105, 100, 61] := ⟨Xa13, Va13, Ca13, Ba13, by decide⟩
  have f17 := SBc0.ext E15
  have f21 := Exa.ext E15 SBc0.1
  refine oGo.invokevirtual (pc' := 12) (k' := 5) (n' := 118) (a := a2) (argsL := [.ref a13]) (rest := []) d12_9 rfl (w95 hG) (w96 hG) (w98 hG) (w98 hG) rfl (w97 hG) (w78 hG) (w99 hG) (by decide) pd27 rfl rfl rfl f21 (c_append hG a2 bc0 a13 b14 [] [74, 117, 100, 103, 101, 100, 81, 117, 101, 114, 121, 91, 105, 100, 61] 16 (Nat.le_of_ble_eq_true rfl) (by decide) (Nat.lt_of_sub_pos (by simp)) ⟨(Ne.symm (na13 a2 (by simp)).1), (Ne.symm (na13 bc0 (by simp)).1), (Ne.symm (na13 a2 (by simp)).2), (Ne.symm (na13 bc0 (by simp)).2)⟩ _ f17 S16) (by simp) (by decide) (Nat.le_of_ble_eq_true rfl) rfl rfl (by decide) (by decide) ?_
  intro v18 h19 sh19 q20
  obtain ⟨rfl, Kc1, bc1, hbc1, SBc1'⟩ := q20
  have SBc1 : oSB Z h19 a2 bc1 [74, 117, 100, 103, 101, 100, 81, 117, 101, 114, 121, 91, 105, 100, 61] 16 := SBc1'
  have lbc1 : bc1 < h19.size := by obtain ⟨_, _, _, _, _, B, _⟩ := SBc1; exact own_ltN B.lt
  refine ⟨[bc1, bc0, a2], own_D1 (SBc1.2.1), ?_⟩
  show oGo l Z a0 EL True pP eE sS mM _ bB tT cC _ _ _ _ _ _ _ _ [bc1, bc0, a2] h19 5 118 12 #[.val (.ref jq)] [.ref a2]
  refine oGo.aload_n (pc' := 13) d12_12 rfl rfl rfl ?_
  have f22 := Fld.ext E3 F1
  have f23 := Fld.keep f22 Kc0 (own_nin1 (own_ne_ge (x := jq) (y := a2) ljq (own_ge_eq qa2)))
  have f24 := Fld.ext E15 f23
  have g26 := own_lt_le (x := jq) ljq E3.1
  have f25 := Fld.keep f24 Kc1 (own_nin2 (own_ne_ge (x := jq) (y := a2) ljq (own_ge_eq qa2)) (own_ne_ge (x := jq) (y := bc0) g26 hbc0))
  refine oGo.getfield (pc' := 16) d12_13 rfl (w57 hG) Via.refl f25 ?_
  have f27 := Sp.ext E3
  have f28 := f27.keep Kc0 (own_nin1 (own_ne_ge (x := p) (y := a2) lp (own_ge_eq qa2))) (own_nin1 (own_ne_ge (x := tp) (y := a2) ltp (own_ge_eq qa2)))
  have f29 := f28.ext E15
  have g31 := own_lt_le (x := p) lp E3.1
  have g32 := own_lt_le (x := tp) ltp E3.1
  have f30 := f29.keep Kc1 (own_nin2 (own_ne_ge (x := p) (y := a2) lp (own_ge_eq qa2)) (own_ne_ge (x := p) (y := bc0) g31 hbc0)) (own_nin2 (own_ne_ge (x := tp) (y := a2) ltp (own_ge_eq qa2)) (own_ne_ge (x := tp) (y := bc0) g32 hbc0))
  have g33 := own_lt_le (x := p) g31 Kc0.1
  have g34 := own_lt_le (x := p) g33 E15.1
  have g35 := own_lt_le (x := tp) g32 Kc0.1
  have g36 := own_lt_le (x := tp) g35 E15.1
  refine oGo.invokevirtual (pc' := 19) (k' := 6) (n' := 152) (a := a2) (argsL := [.ref p]) (rest := []) d12_16 rfl (w95 hG) (w96 hG) (w98 hG) (w98 hG) rfl (w97 hG) (w78 hG) (w99 hG) (by decide) pd27 rfl rfl rfl SBc1.1 (c_append hG a2 bc1 p tp [74, 117, 100, 103, 101, 100, 81, 117, 101, 114, 121, 91, 105, 100, 61] [p0, p1] 16 (Nat.le_of_ble_eq_true rfl) (by decide) (Nat.lt_of_sub_pos (by simp)) ⟨(own_ne_ge (x := p) (y := a2) lp (own_ge_eq qa2)), (own_ne_or (x := p) (z := bc1) (own_ne_ge (x := p) (y := bc0) g31 hbc0) g34 hbc1), (own_ne_ge (x := tp) (y := a2) ltp (own_ge_eq qa2)), (own_ne_or (x := tp) (z := bc1) (own_ne_ge (x := tp) (y := bc0) g32 hbc0) g36 hbc1)⟩ _ SBc1 f30) (by simp) (by decide) (Nat.le_of_ble_eq_true rfl) rfl rfl (by decide) (by decide) ?_
  intro v37 h38 sh38 q39
  obtain ⟨rfl, Kc2, bc2, hbc2, SBc2'⟩ := q39
  have SBc2 : oSB Z h38 a2 bc2 [74, 117, 100, 103, 101, 100, 81, 117, 101, 114, 121, 91, 105, 100, 61, p0, p1] 34 := SBc2'
  have lbc2 : bc2 < h38.size := by obtain ⟨_, _, _, _, _, B, _⟩ := SBc2; exact own_ltN B.lt
  refine ⟨[bc2, bc1, bc0, a2], own_D1 (SBc2.2.1), ?_⟩
  show oGo l Z a0 EL True pP eE sS mM _ bB tT cC _ _ _ _ _ _ _ _ [bc2, bc1, bc0, a2] h38 6 152 19 #[.val (.ref jq)] [.ref a2]
  refine oGo.ldc_str (pc' := 21) (k' := 8) (n' := 188) (vs := oI (([44, 32, 119, 111, 114, 100, 115, 61] : List Int32).map lo8)) d12_19 rfl trivial (w142 hG) (strAt hG) (hG.2.2.2 _ (by decide)) (by decide) (by decide) rfl rfl (by decide) (by decide) ?_
  intro h40 a41 b42 E43 Xa41 Ca41 Va41 Ba41 la41 lb42 na41
  have S44 : oS Z h40 a41 b42 [44, 32, 119, 111, 114, 100, 115, 61] := ⟨Xa41, Va41, Ca41, Ba41, by decide⟩
  have f45 := SBc2.ext E43
  have f49 := Exa.ext E43 SBc2.1
  refine oGo.invokevirtual (pc' := 24) (k' := 9) (n' := 222) (a := a2) (argsL := [.ref a41]) (rest := []) d12_21 rfl (w95 hG) (w96 hG) (w98 hG) (w98 hG) rfl (w97 hG) (w78 hG) (w99 hG) (by decide) pd27 rfl rfl rfl f49 (c_append hG a2 bc2 a41 b42 [74, 117, 100, 103, 101, 100, 81, 117, 101, 114, 121, 91, 105, 100, 61, p0, p1] [44, 32, 119, 111, 114, 100, 115, 61] 34 (Nat.le_of_ble_eq_true rfl) (by decide) (Nat.lt_of_sub_pos (by simp)) ⟨(Ne.symm (na41 a2 (by simp)).1), (Ne.symm (na41 bc2 (by simp)).1), (Ne.symm (na41 a2 (by simp)).2), (Ne.symm (na41 bc2 (by simp)).2)⟩ _ f45 S44) (by simp) (by decide) (Nat.le_of_ble_eq_true rfl) rfl rfl (by decide) (by decide) ?_
  intro v46 h47 sh47 q48
  obtain ⟨rfl, Kc3, bc3, hbc3, SBc3'⟩ := q48
  have SBc3 : oSB Z h47 a2 bc3 [74, 117, 100, 103, 101, 100, 81, 117, 101, 114, 121, 91, 105, 100, 61, p0, p1, 44, 32, 119, 111, 114, 100, 115, 61] 34 := SBc3'
  have lbc3 : bc3 < h47.size := by obtain ⟨_, _, _, _, _, B, _⟩ := SBc3; exact own_ltN B.lt
  refine ⟨[bc3, bc2, bc1, bc0, a2], own_D1 (SBc3.2.1), ?_⟩
  show oGo l Z a0 EL True pP eE sS mM _ bB tT cC _ _ _ _ _ _ _ _ [bc3, bc2, bc1, bc0, a2] h47 9 222 24 #[.val (.ref jq)] [.ref a2]
  refine oGo.aload_n (pc' := 25) d12_24 rfl rfl rfl ?_
  have f50 := Fld.ext E3 F2
  have f51 := Fld.keep f50 Kc0 (own_nin1 (own_ne_ge (x := jq) (y := a2) ljq (own_ge_eq qa2)))
  have f52 := Fld.ext E15 f51
  have f53 := Fld.keep f52 Kc1 (own_nin2 (own_ne_ge (x := jq) (y := a2) ljq (own_ge_eq qa2)) (own_ne_ge (x := jq) (y := bc0) g26 hbc0))
  have g55 := own_lt_le (x := jq) g26 Kc0.1
  have g56 := own_lt_le (x := jq) g55 E15.1
  have f54 := Fld.keep f53 Kc2 (own_nin2 (own_ne_ge (x := jq) (y := a2) ljq (own_ge_eq qa2)) (own_ne_or (x := jq) (z := bc1) (own_ne_ge (x := jq) (y := bc0) g26 hbc0) g56 hbc1))
  have f57 := Fld.ext E43 f54
  have g59 := own_lt_le (x := jq) g56 Kc1.1
  have f58 := Fld.keep f57 Kc3 (own_nin2 (own_ne_ge (x := jq) (y := a2) ljq (own_ge_eq qa2)) (own_ne_or (x := jq) (z := bc2) (own_ne_or (x := jq) (z := bc1) (own_ne_ge (x := jq) (y := bc0) g26 hbc0) g56 hbc1) g59 hbc2))
  refine oGo.getfield (pc' := 28) d12_25 rfl (w60 hG) Via.refl f58 ?_
  have f60 := Sr.ext E3
  have f61 := f60.keep Kc0 (own_nin1 (own_ne_ge (x := r) (y := a2) lr (own_ge_eq qa2))) (own_nin1 (own_ne_ge (x := tr) (y := a2) ltr (own_ge_eq qa2)))
  have f62 := f61.ext E15
  have g64 := own_lt_le (x := r) lr E3.1
  have g65 := own_lt_le (x := tr) ltr E3.1
  have f63 := f62.keep Kc1 (own_nin2 (own_ne_ge (x := r) (y := a2) lr (own_ge_eq qa2)) (own_ne_ge (x := r) (y := bc0) g64 hbc0)) (own_nin2 (own_ne_ge (x := tr) (y := a2) ltr (own_ge_eq qa2)) (own_ne_ge (x := tr) (y := bc0) g65 hbc0))
  have g67 := own_lt_le (x := r) g64 Kc0.1
  have g68 := own_lt_le (x := r) g67 E15.1
  have g69 := own_lt_le (x := tr) g65 Kc0.1
  have g70 := own_lt_le (x := tr) g69 E15.1
  have f66 := f63.keep Kc2 (own_nin2 (own_ne_ge (x := r) (y := a2) lr (own_ge_eq qa2)) (own_ne_or (x := r) (z := bc1) (own_ne_ge (x := r) (y := bc0) g64 hbc0) g68 hbc1)) (own_nin2 (own_ne_ge (x := tr) (y := a2) ltr (own_ge_eq qa2)) (own_ne_or (x := tr) (z := bc1) (own_ne_ge (x := tr) (y := bc0) g65 hbc0) g70 hbc1))
  have f71 := f66.ext E43
  have g73 := own_lt_le (x := r) g68 Kc1.1
  have g74 := own_lt_le (x := tr) g70 Kc1.1
  have f72 := f71.keep Kc3 (own_nin2 (own_ne_ge (x := r) (y := a2) lr (own_ge_eq qa2)) (own_ne_or (x := r) (z := bc2) (own_ne_or (x := r) (z := bc1) (own_ne_ge (x := r) (y := bc0) g64 hbc0) g68 hbc1) g73 hbc2)) (own_nin2 (own_ne_ge (x := tr) (y := a2) ltr (own_ge_eq qa2)) (own_ne_or (x := tr) (z := bc2) (own_ne_or (x := tr) (z := bc1) (own_ne_ge (x := tr) (y := bc0) g65 hbc0) g70 hbc1) g74 hbc2))
  have g75 := own_lt_le (x := r) g73 Kc2.1
  have g76 := own_lt_le (x := r) g75 E43.1
  have g77 := own_lt_le (x := tr) g74 Kc2.1
  have g78 := own_lt_le (x := tr) g77 E43.1
  refine oGo.invokevirtual (pc' := 31) (k' := 10) (n' := 256) (a := a2) (argsL := [.ref r]) (rest := []) d12_28 rfl (w95 hG) (w96 hG) (w98 hG) (w98 hG) rfl (w97 hG) (w78 hG) (w99 hG) (by decide) pd27 rfl rfl rfl SBc3.1 (c_append hG a2 bc3 r tr [74, 117, 100, 103, 101, 100, 81, 117, 101, 114, 121, 91, 105, 100, 61, p0, p1, 44, 32, 119, 111, 114, 100, 115, 61] [r0] 34 (Nat.le_of_ble_eq_true rfl) (by decide) (Nat.lt_of_sub_pos (by simp)) ⟨(own_ne_ge (x := r) (y := a2) lr (own_ge_eq qa2)), (own_ne_or (x := r) (z := bc3) (own_ne_or (x := r) (z := bc2) (own_ne_or (x := r) (z := bc1) (own_ne_ge (x := r) (y := bc0) g64 hbc0) g68 hbc1) g73 hbc2) g76 hbc3), (own_ne_ge (x := tr) (y := a2) ltr (own_ge_eq qa2)), (own_ne_or (x := tr) (z := bc3) (own_ne_or (x := tr) (z := bc2) (own_ne_or (x := tr) (z := bc1) (own_ne_ge (x := tr) (y := bc0) g65 hbc0) g70 hbc1) g74 hbc2) g78 hbc3)⟩ _ SBc3 f72) (by simp) (by decide) (Nat.le_of_ble_eq_true rfl) rfl rfl (by decide) (by decide) ?_
  intro v79 h80 sh80 q81
  obtain ⟨rfl, Kc4, bc4, hbc4, SBc4'⟩ := q81
  have SBc4 : oSB Z h80 a2 bc4 [74, 117, 100, 103, 101, 100, 81, 117, 101, 114, 121, 91, 105, 100, 61, p0, p1, 44, 32, 119, 111, 114, 100, 115, 61, r0] 34 := SBc4'
  have lbc4 : bc4 < h80.size := by obtain ⟨_, _, _, _, _, B, _⟩ := SBc4; exact own_ltN B.lt
  refine ⟨[bc4, bc3, bc2, bc1, bc0, a2], own_D1 (SBc4.2.1), ?_⟩
  show oGo l Z a0 EL True pP eE sS mM _ bB tT cC _ _ _ _ _ _ _ _ [bc4, bc3, bc2, bc1, bc0, a2] h80 10 256 31 #[.val (.ref jq)] [.ref a2]
  refine oGo.ldc_str (pc' := 33) (k' := 12) (n' := 264) (vs := oI (([93] : List Int32).map lo8)) d12_31 rfl trivial (w166 hG) (strAt hG) (hG.2.2.2 _ (by decide)) (by decide) (by decide) rfl rfl (by decide) (by decide) ?_
  intro h82 a83 b84 E85 Xa83 Ca83 Va83 Ba83 la83 lb84 na83
  have S86 : oS Z h82 a83 b84 [93] := ⟨Xa83, Va83, Ca83, Ba83, by decide⟩
  have f87 := SBc4.ext E85
  have f91 := Exa.ext E85 SBc4.1
  refine oGo.invokevirtual (pc' := 36) (k' := 13) (n' := 298) (a := a2) (argsL := [.ref a83]) (rest := []) d12_33 rfl (w95 hG) (w96 hG) (w98 hG) (w98 hG) rfl (w97 hG) (w78 hG) (w99 hG) (by decide) pd27 rfl rfl rfl f91 (c_append hG a2 bc4 a83 b84 [74, 117, 100, 103, 101, 100, 81, 117, 101, 114, 121, 91, 105, 100, 61, p0, p1, 44, 32, 119, 111, 114, 100, 115, 61, r0] [93] 34 (Nat.le_of_ble_eq_true rfl) (by decide) (Nat.lt_of_sub_pos (by simp)) ⟨(Ne.symm (na83 a2 (by simp)).1), (Ne.symm (na83 bc4 (by simp)).1), (Ne.symm (na83 a2 (by simp)).2), (Ne.symm (na83 bc4 (by simp)).2)⟩ _ f87 S86) (by simp) (by decide) (Nat.le_of_ble_eq_true rfl) rfl rfl (by decide) (by decide) ?_
  intro v88 h89 sh89 q90
  obtain ⟨rfl, Kc5, bc5, hbc5, SBc5'⟩ := q90
  have SBc5 : oSB Z h89 a2 bc5 [74, 117, 100, 103, 101, 100, 81, 117, 101, 114, 121, 91, 105, 100, 61, p0, p1, 44, 32, 119, 111, 114, 100, 115, 61, r0, 93] 34 := SBc5'
  have lbc5 : bc5 < h89.size := by obtain ⟨_, _, _, _, _, B, _⟩ := SBc5; exact own_ltN B.lt
  refine ⟨[bc5, bc4, bc3, bc2, bc1, bc0, a2], own_D1 (SBc5.2.1), ?_⟩
  show oGo l Z a0 EL True pP eE sS mM _ bB tT cC _ _ _ _ _ _ _ _ [bc5, bc4, bc3, bc2, bc1, bc0, a2] h89 13 298 36 #[.val (.ref jq)] [.ref a2]
  refine oGo.invokevirtual (pc' := 39) (k' := 15) (n' := 332) (a := a2) (argsL := []) (rest := []) d12_36 rfl (w167 hG) (w168 hG) (w170 hG) (w170 hG) rfl (w169 hG) (w78 hG) (w171 hG) (by decide) pd28 rfl rfl rfl SBc5.1 (c_toStr hG a2 bc5 [74, 117, 100, 103, 101, 100, 81, 117, 101, 114, 121, 91, 105, 100, 61, p0, p1, 44, 32, 119, 111, 114, 100, 115, 61, r0, 93] 34 (by simp) (by simp) (by intro c hc; simp only [List.mem_cons, List.not_mem_nil, or_false] at hc; rcases hc with rfl | rfl | rfl | rfl | rfl | rfl | rfl | rfl | rfl | rfl | rfl | rfl | rfl | rfl | rfl | rfl | rfl | rfl | rfl | rfl | rfl | rfl | rfl | rfl | rfl | rfl | rfl <;> first | decide | assumption) _ SBc5) (by simp) (by decide) (Nat.le_of_ble_eq_true rfl) rfl rfl (by decide) (by decide) ?_
  intro v92 h93 sh93 q94
  obtain ⟨Kz, xz, tz, rfl, gxz, gtz, Sz⟩ := q94
  have lxz := own_ltN Sz.1.lt
  have ltz := own_ltN Sz.2.2.2.1.lt
  refine ⟨_, fun _ hx => Or.inl hx, ?_⟩
  show oGo l Z a0 EL True pP eE sS mM _ bB tT cC _ _ _ _ _ _ _ _ [bc5, bc4, bc3, bc2, bc1, bc0, a2] h93 15 332 39 #[.val (.ref jq)] [.ref xz]
  have z95 := own_le_le (x := h.size) (Nat.le_refl _) E3.1
  have z96 := own_le_le (x := h.size) z95 Kc0.1
  have z97 := own_le_le (x := h.size) z96 E15.1
  have z98 := own_le_le (x := h.size) z97 Kc1.1
  have z99 := own_le_le (x := h.size) z98 Kc2.1
  have z100 := own_le_le (x := h.size) z99 E43.1
  have z101 := own_le_le (x := h.size) z100 Kc3.1
  have K102 : Keep h h93 [] := ((((((((((((Keep.refl h []).ext E3).trans Kc0 (own_new1 (own_le_le (x := h.size) (Nat.le_refl _) (own_ge_eq qa2)))).ext E15).trans Kc1 (own_new2 (own_le_le (x := h.size) (Nat.le_refl _) (own_ge_eq qa2)) (own_le_le (x := h.size) z95 hbc0))).trans Kc2 (own_new2 (own_le_le (x := h.size) (Nat.le_refl _) (own_ge_eq qa2)) (own_ge_or (own_le_le (x := h.size) z95 hbc0) z97 hbc1))).ext E43).trans Kc3 (own_new2 (own_le_le (x := h.size) (Nat.le_refl _) (own_ge_eq qa2)) (own_ge_or (own_ge_or (own_le_le (x := h.size) z95 hbc0) z97 hbc1) z98 hbc2))).trans Kc4 (own_new2 (own_le_le (x := h.size) (Nat.le_refl _) (own_ge_eq qa2)) (own_ge_or (own_ge_or (own_ge_or (own_le_le (x := h.size) z95 hbc0) z97 hbc1) z98 hbc2) z100 hbc3))).ext E85).trans Kc5 (own_new2 (own_le_le (x := h.size) (Nat.le_refl _) (own_ge_eq qa2)) (own_ge_or (own_ge_or (own_ge_or (own_ge_or (own_le_le (x := h.size) z95 hbc0) z97 hbc1) z98 hbc2) z100 hbc3) z101 hbc4))).trans Kz (by simp))
  have z103 := own_le_le (x := h.size) z101 Kc4.1
  have z104 := own_le_le (x := h.size) z103 E85.1
  have z105 := own_le_le (x := h.size) z104 Kc5.1
  exact oGo.areturn d12_39 rfl rfl rfl rfl (by decide) (by decide) ⟨K102, xz, tz, rfl, (own_le_le (x := h.size) z105 gxz), (own_le_le (x := h.size) z105 gtz), Sz⟩ (fun _ q => q.elim)
set_option maxRecDepth 65536 in
set_option maxHeartbeats 4000000 in
theorem c_ts22 {l : Launch} {Z : State} {a0 : Array Value} {EL : List (String × Nat)} (hG : oG a0 Z EL) (jq p tp r tr : Nat) (p0 p1 r0 r1 : Int32) (bp0 : ¬ p0 < 0 ∧ ¬ 255 < p0) (bp1 : ¬ p1 < 0 ∧ ¬ 255 < p1) (br0 : ¬ r0 < 0 ∧ ¬ 255 < r0) (br1 : ¬ r1 < 0 ∧ ¬ 255 < r1) (h : Heap) (F1 : Fld Z h jq "com/example/soft_sieve/softsieve/JudgedQuery" "id" "Ljava/lang/String;" (.ref p)) (F2 : Fld Z h jq "com/example/soft_sieve/softsieve/JudgedQuery" "words" "Ljava/lang/String;" (.ref r)) (Sp : oS Z h p tp [p0, p1]) (Sr : oS Z h r tr [r0, r1]) :
    oCtr [] l Z a0 EL True (⟨"com/example/soft_sieve/softsieve/JudgedQuery", "toString", "()Ljava/lang/String;"⟩ : MethodName) prog_6_method_7_code 1 (some (.object "java/lang/String")) ({ frames := 6, cells := 20, slots := 1000, locals := 91 } : Room) #[.ref jq] [] h ((q_toStr Z h [74, 117, 100, 103, 101, 100, 81, 117, 101, 114, 121, 91, 105, 100, 61, p0, p1, 44, 32, 119, 111, 114, 100, 115, 61, r0, r1, 93])) oNo := by
  have ljq := own_ltN F1.lt
  have lp := own_ltN Sp.1.lt
  have ltp := own_ltN Sp.2.2.2.1.lt
  have lr := own_ltN Sr.1.lt
  have ltr := own_ltN Sr.2.2.2.1.lt
  refine oCtr.enter (Ls := #[.val (.ref jq)]) (plainFor_of_name pn11) hG.2.1 (fun m => by first | (simp [entryFrame, mkF, argsToLocals, Value.category]; done) | rfl) ?_
  intro pP eE sS mM bB tT cC
  refine oGo.new (pc' := 3) (k' := 1) (n' := 4) d12_0 rfl (w76 hG) (w77 hG) (w78 hG) rfl rfl (by decide) (by decide) ?_
  intro h1 a2 qa2 la2 E3 X4 F5
  have f6 := F5 (Or.inl (w91 hG)) (ty := (.array .byte)) (by decide)
  have f7 := F5 (Or.inl (w93 hG)) (ty := .byte) (by decide)
  have f8 := F5 (Or.inl (w116 hG)) (ty := .int) (by decide)
  refine oGo.dup (pc' := 4) d12_3 rfl rfl ?_
  refine oGo.invokespecial (pc' := 7) (k' := 2) (n' := 20) (a := a2) (argsL := []) (rest := [.ref a2]) d12_4 rfl rfl (w79 hG) (w80 hG) (w78 hG) (w81 hG) (by decide) pd26 rfl rfl rfl (c_sbInit hG a2 _ _ X4 f6 f7 f8) (by simp) (by decide) (Nat.le_of_ble_eq_true rfl) rfl rfl (by decide) (by decide) ?_
  intro v9 h10 sh10 q11
  obtain ⟨rfl, Kc0, bc0, hbc0, SBc0⟩ := q11
  have lbc0 : bc0 < h10.size := by obtain ⟨_, _, _, _, _, B, _⟩ := SBc0; exact own_ltN B.lt
  refine ⟨[bc0, a2], own_D1 (SBc0.2.1), ?_⟩
  show oGo l Z a0 EL True pP eE sS mM _ bB tT cC _ _ _ _ _ _ _ _ [bc0, a2] h10 2 20 7 #[.val (.ref jq)] [.ref a2]
  refine oGo.ldc_str (pc' := 9) (k' := 4) (n' := 84) (vs := oI (([74, 117, 100, 103, 101, 100, 81, 117, 101, 114, 121, 91, 105, 100, 61] : List Int32).map lo8)) d12_7 rfl trivial (w94 hG) (strAt hG) (hG.2.2.2 _ (by decide)) (by decide) (by decide) rfl rfl (by decide) (by decide) ?_
  intro h12 a13 b14 E15 Xa13 Ca13 Va13 Ba13 la13 lb14 na13
  have S16 : oS Z h12 a13 b14 [74, 117, 100, 103, 101, 100, 81, 117, 101, 114, 121, 91, 105, 100, 61] := ⟨Xa13, Va13, Ca13, Ba13, by decide⟩
  have f17 := SBc0.ext E15
  have f21 := Exa.ext E15 SBc0.1
  refine oGo.invokevirtual (pc' := 12) (k' := 5) (n' := 118) (a := a2) (argsL := [.ref a13]) (rest := []) d12_9 rfl (w95 hG) (w96 hG) (w98 hG) (w98 hG) rfl (w97 hG) (w78 hG) (w99 hG) (by decide) pd27 rfl rfl rfl f21 (c_append hG a2 bc0 a13 b14 [] [74, 117, 100, 103, 101, 100, 81, 117, 101, 114, 121, 91, 105, 100, 61] 16 (Nat.le_of_ble_eq_true rfl) (by decide) (Nat.lt_of_sub_pos (by simp)) ⟨(Ne.symm (na13 a2 (by simp)).1), (Ne.symm (na13 bc0 (by simp)).1), (Ne.symm (na13 a2 (by simp)).2), (Ne.symm (na13 bc0 (by simp)).2)⟩ _ f17 S16) (by simp) (by decide) (Nat.le_of_ble_eq_true rfl) rfl rfl (by decide) (by decide) ?_
  intro v18 h19 sh19 q20
  obtain ⟨rfl, Kc1, bc1, hbc1, SBc1'⟩ := q20
  have SBc1 : oSB Z h19 a2 bc1 [74, 117, 100, 103, 101, 100, 81, 117, 101, 114, 121, 91, 105, 100, 61] 16 := SBc1'
  have lbc1 : bc1 < h19.size := by obtain ⟨_, _, _, _, _, B, _⟩ := SBc1; exact own_ltN B.lt
  refine ⟨[bc1, bc0, a2], own_D1 (SBc1.2.1), ?_⟩
  show oGo l Z a0 EL True pP eE sS mM _ bB tT cC _ _ _ _ _ _ _ _ [bc1, bc0, a2] h19 5 118 12 #[.val (.ref jq)] [.ref a2]
  refine oGo.aload_n (pc' := 13) d12_12 rfl rfl rfl ?_
  have f22 := Fld.ext E3 F1
  have f23 := Fld.keep f22 Kc0 (own_nin1 (own_ne_ge (x := jq) (y := a2) ljq (own_ge_eq qa2)))
  have f24 := Fld.ext E15 f23
  have g26 := own_lt_le (x := jq) ljq E3.1
  have f25 := Fld.keep f24 Kc1 (own_nin2 (own_ne_ge (x := jq) (y := a2) ljq (own_ge_eq qa2)) (own_ne_ge (x := jq) (y := bc0) g26 hbc0))
  refine oGo.getfield (pc' := 16) d12_13 rfl (w57 hG) Via.refl f25 ?_
  have f27 := Sp.ext E3
  have f28 := f27.keep Kc0 (own_nin1 (own_ne_ge (x := p) (y := a2) lp (own_ge_eq qa2))) (own_nin1 (own_ne_ge (x := tp) (y := a2) ltp (own_ge_eq qa2)))
  have f29 := f28.ext E15
  have g31 := own_lt_le (x := p) lp E3.1
  have g32 := own_lt_le (x := tp) ltp E3.1
  have f30 := f29.keep Kc1 (own_nin2 (own_ne_ge (x := p) (y := a2) lp (own_ge_eq qa2)) (own_ne_ge (x := p) (y := bc0) g31 hbc0)) (own_nin2 (own_ne_ge (x := tp) (y := a2) ltp (own_ge_eq qa2)) (own_ne_ge (x := tp) (y := bc0) g32 hbc0))
  have g33 := own_lt_le (x := p) g31 Kc0.1
  have g34 := own_lt_le (x := p) g33 E15.1
  have g35 := own_lt_le (x := tp) g32 Kc0.1
  have g36 := own_lt_le (x := tp) g35 E15.1
  refine oGo.invokevirtual (pc' := 19) (k' := 6) (n' := 152) (a := a2) (argsL := [.ref p]) (rest := []) d12_16 rfl (w95 hG) (w96 hG) (w98 hG) (w98 hG) rfl (w97 hG) (w78 hG) (w99 hG) (by decide) pd27 rfl rfl rfl SBc1.1 (c_append hG a2 bc1 p tp [74, 117, 100, 103, 101, 100, 81, 117, 101, 114, 121, 91, 105, 100, 61] [p0, p1] 16 (Nat.le_of_ble_eq_true rfl) (by decide) (Nat.lt_of_sub_pos (by simp)) ⟨(own_ne_ge (x := p) (y := a2) lp (own_ge_eq qa2)), (own_ne_or (x := p) (z := bc1) (own_ne_ge (x := p) (y := bc0) g31 hbc0) g34 hbc1), (own_ne_ge (x := tp) (y := a2) ltp (own_ge_eq qa2)), (own_ne_or (x := tp) (z := bc1) (own_ne_ge (x := tp) (y := bc0) g32 hbc0) g36 hbc1)⟩ _ SBc1 f30) (by simp) (by decide) (Nat.le_of_ble_eq_true rfl) rfl rfl (by decide) (by decide) ?_
  intro v37 h38 sh38 q39
  obtain ⟨rfl, Kc2, bc2, hbc2, SBc2'⟩ := q39
  have SBc2 : oSB Z h38 a2 bc2 [74, 117, 100, 103, 101, 100, 81, 117, 101, 114, 121, 91, 105, 100, 61, p0, p1] 34 := SBc2'
  have lbc2 : bc2 < h38.size := by obtain ⟨_, _, _, _, _, B, _⟩ := SBc2; exact own_ltN B.lt
  refine ⟨[bc2, bc1, bc0, a2], own_D1 (SBc2.2.1), ?_⟩
  show oGo l Z a0 EL True pP eE sS mM _ bB tT cC _ _ _ _ _ _ _ _ [bc2, bc1, bc0, a2] h38 6 152 19 #[.val (.ref jq)] [.ref a2]
  refine oGo.ldc_str (pc' := 21) (k' := 8) (n' := 188) (vs := oI (([44, 32, 119, 111, 114, 100, 115, 61] : List Int32).map lo8)) d12_19 rfl trivial (w142 hG) (strAt hG) (hG.2.2.2 _ (by decide)) (by decide) (by decide) rfl rfl (by decide) (by decide) ?_
  intro h40 a41 b42 E43 Xa41 Ca41 Va41 Ba41 la41 lb42 na41
  have S44 : oS Z h40 a41 b42 [44, 32, 119, 111, 114, 100, 115, 61] := ⟨Xa41, Va41, Ca41, Ba41, by decide⟩
  have f45 := SBc2.ext E43
  have f49 := Exa.ext E43 SBc2.1
  refine oGo.invokevirtual (pc' := 24) (k' := 9) (n' := 222) (a := a2) (argsL := [.ref a41]) (rest := []) d12_21 rfl (w95 hG) (w96 hG) (w98 hG) (w98 hG) rfl (w97 hG) (w78 hG) (w99 hG) (by decide) pd27 rfl rfl rfl f49 (c_append hG a2 bc2 a41 b42 [74, 117, 100, 103, 101, 100, 81, 117, 101, 114, 121, 91, 105, 100, 61, p0, p1] [44, 32, 119, 111, 114, 100, 115, 61] 34 (Nat.le_of_ble_eq_true rfl) (by decide) (Nat.lt_of_sub_pos (by simp)) ⟨(Ne.symm (na41 a2 (by simp)).1), (Ne.symm (na41 bc2 (by simp)).1), (Ne.symm (na41 a2 (by simp)).2), (Ne.symm (na41 bc2 (by simp)).2)⟩ _ f45 S44) (by simp) (by decide) (Nat.le_of_ble_eq_true rfl) rfl rfl (by decide) (by decide) ?_
  intro v46 h47 sh47 q48
  obtain ⟨rfl, Kc3, bc3, hbc3, SBc3'⟩ := q48
  have SBc3 : oSB Z h47 a2 bc3 [74, 117, 100, 103, 101, 100, 81, 117, 101, 114, 121, 91, 105, 100, 61, p0, p1, 44, 32, 119, 111, 114, 100, 115, 61] 34 := SBc3'
  have lbc3 : bc3 < h47.size := by obtain ⟨_, _, _, _, _, B, _⟩ := SBc3; exact own_ltN B.lt
  refine ⟨[bc3, bc2, bc1, bc0, a2], own_D1 (SBc3.2.1), ?_⟩
  show oGo l Z a0 EL True pP eE sS mM _ bB tT cC _ _ _ _ _ _ _ _ [bc3, bc2, bc1, bc0, a2] h47 9 222 24 #[.val (.ref jq)] [.ref a2]
  refine oGo.aload_n (pc' := 25) d12_24 rfl rfl rfl ?_
  have f50 := Fld.ext E3 F2
  have f51 := Fld.keep f50 Kc0 (own_nin1 (own_ne_ge (x := jq) (y := a2) ljq (own_ge_eq qa2)))
  have f52 := Fld.ext E15 f51
  have f53 := Fld.keep f52 Kc1 (own_nin2 (own_ne_ge (x := jq) (y := a2) ljq (own_ge_eq qa2)) (own_ne_ge (x := jq) (y := bc0) g26 hbc0))
  have g55 := own_lt_le (x := jq) g26 Kc0.1
  have g56 := own_lt_le (x := jq) g55 E15.1
  have f54 := Fld.keep f53 Kc2 (own_nin2 (own_ne_ge (x := jq) (y := a2) ljq (own_ge_eq qa2)) (own_ne_or (x := jq) (z := bc1) (own_ne_ge (x := jq) (y := bc0) g26 hbc0) g56 hbc1))
  have f57 := Fld.ext E43 f54
  have g59 := own_lt_le (x := jq) g56 Kc1.1
  have f58 := Fld.keep f57 Kc3 (own_nin2 (own_ne_ge (x := jq) (y := a2) ljq (own_ge_eq qa2)) (own_ne_or (x := jq) (z := bc2) (own_ne_or (x := jq) (z := bc1) (own_ne_ge (x := jq) (y := bc0) g26 hbc0) g56 hbc1) g59 hbc2))
  refine oGo.getfield (pc' := 28) d12_25 rfl (w60 hG) Via.refl f58 ?_
  have f60 := Sr.ext E3
  have f61 := f60.keep Kc0 (own_nin1 (own_ne_ge (x := r) (y := a2) lr (own_ge_eq qa2))) (own_nin1 (own_ne_ge (x := tr) (y := a2) ltr (own_ge_eq qa2)))
  have f62 := f61.ext E15
  have g64 := own_lt_le (x := r) lr E3.1
  have g65 := own_lt_le (x := tr) ltr E3.1
  have f63 := f62.keep Kc1 (own_nin2 (own_ne_ge (x := r) (y := a2) lr (own_ge_eq qa2)) (own_ne_ge (x := r) (y := bc0) g64 hbc0)) (own_nin2 (own_ne_ge (x := tr) (y := a2) ltr (own_ge_eq qa2)) (own_ne_ge (x := tr) (y := bc0) g65 hbc0))
  have g67 := own_lt_le (x := r) g64 Kc0.1
  have g68 := own_lt_le (x := r) g67 E15.1
  have g69 := own_lt_le (x := tr) g65 Kc0.1
  have g70 := own_lt_le (x := tr) g69 E15.1
  have f66 := f63.keep Kc2 (own_nin2 (own_ne_ge (x := r) (y := a2) lr (own_ge_eq qa2)) (own_ne_or (x := r) (z := bc1) (own_ne_ge (x := r) (y := bc0) g64 hbc0) g68 hbc1)) (own_nin2 (own_ne_ge (x := tr) (y := a2) ltr (own_ge_eq qa2)) (own_ne_or (x := tr) (z := bc1) (own_ne_ge (x := tr) (y := bc0) g65 hbc0) g70 hbc1))
  have f71 := f66.ext E43
  have g73 := own_lt_le (x := r) g68 Kc1.1
  have g74 := own_lt_le (x := tr) g70 Kc1.1
  have f72 := f71.keep Kc3 (own_nin2 (own_ne_ge (x := r) (y := a2) lr (own_ge_eq qa2)) (own_ne_or (x := r) (z := bc2) (own_ne_or (x := r) (z := bc1) (own_ne_ge (x := r) (y := bc0) g64 hbc0) g68 hbc1) g73 hbc2)) (own_nin2 (own_ne_ge (x := tr) (y := a2) ltr (own_ge_eq qa2)) (own_ne_or (x := tr) (z := bc2) (own_ne_or (x := tr) (z := bc1) (own_ne_ge (x := tr) (y := bc0) g65 hbc0) g70 hbc1) g74 hbc2))
  have g75 := own_lt_le (x := r) g73 Kc2.1
  have g76 := own_lt_le (x := r) g75 E43.1
  have g77 := own_lt_le (x := tr) g74 Kc2.1
  have g78 := own_lt_le (x := tr) g77 E43.1
  refine oGo.invokevirtual (pc' := 31) (k' := 10) (n' := 256) (a := a2) (argsL := [.ref r]) (rest := []) d12_28 rfl (w95 hG) (w96 hG) (w98 hG) (w98 hG) rfl (w97 hG) (w78 hG) (w99 hG) (by decide) pd27 rfl rfl rfl SBc3.1 (c_append hG a2 bc3 r tr [74, 117, 100, 103, 101, 100, 81, 117, 101, 114, 121, 91, 105, 100, 61, p0, p1, 44, 32, 119, 111, 114, 100, 115, 61] [r0, r1] 34 (Nat.le_of_ble_eq_true rfl) (by decide) (Nat.lt_of_sub_pos (by simp)) ⟨(own_ne_ge (x := r) (y := a2) lr (own_ge_eq qa2)), (own_ne_or (x := r) (z := bc3) (own_ne_or (x := r) (z := bc2) (own_ne_or (x := r) (z := bc1) (own_ne_ge (x := r) (y := bc0) g64 hbc0) g68 hbc1) g73 hbc2) g76 hbc3), (own_ne_ge (x := tr) (y := a2) ltr (own_ge_eq qa2)), (own_ne_or (x := tr) (z := bc3) (own_ne_or (x := tr) (z := bc2) (own_ne_or (x := tr) (z := bc1) (own_ne_ge (x := tr) (y := bc0) g65 hbc0) g70 hbc1) g74 hbc2) g78 hbc3)⟩ _ SBc3 f72) (by simp) (by decide) (Nat.le_of_ble_eq_true rfl) rfl rfl (by decide) (by decide) ?_
  intro v79 h80 sh80 q81
  obtain ⟨rfl, Kc4, bc4, hbc4, SBc4'⟩ := q81
  have SBc4 : oSB Z h80 a2 bc4 [74, 117, 100, 103, 101, 100, 81, 117, 101, 114, 121, 91, 105, 100, 61, p0, p1, 44, 32, 119, 111, 114, 100, 115, 61, r0, r1] 34 := SBc4'
  have lbc4 : bc4 < h80.size := by obtain ⟨_, _, _, _, _, B, _⟩ := SBc4; exact own_ltN B.lt
  refine ⟨[bc4, bc3, bc2, bc1, bc0, a2], own_D1 (SBc4.2.1), ?_⟩
  show oGo l Z a0 EL True pP eE sS mM _ bB tT cC _ _ _ _ _ _ _ _ [bc4, bc3, bc2, bc1, bc0, a2] h80 10 256 31 #[.val (.ref jq)] [.ref a2]
  refine oGo.ldc_str (pc' := 33) (k' := 12) (n' := 264) (vs := oI (([93] : List Int32).map lo8)) d12_31 rfl trivial (w166 hG) (strAt hG) (hG.2.2.2 _ (by decide)) (by decide) (by decide) rfl rfl (by decide) (by decide) ?_
  intro h82 a83 b84 E85 Xa83 Ca83 Va83 Ba83 la83 lb84 na83
  have S86 : oS Z h82 a83 b84 [93] := ⟨Xa83, Va83, Ca83, Ba83, by decide⟩
  have f87 := SBc4.ext E85
  have f91 := Exa.ext E85 SBc4.1
  refine oGo.invokevirtual (pc' := 36) (k' := 13) (n' := 298) (a := a2) (argsL := [.ref a83]) (rest := []) d12_33 rfl (w95 hG) (w96 hG) (w98 hG) (w98 hG) rfl (w97 hG) (w78 hG) (w99 hG) (by decide) pd27 rfl rfl rfl f91 (c_append hG a2 bc4 a83 b84 [74, 117, 100, 103, 101, 100, 81, 117, 101, 114, 121, 91, 105, 100, 61, p0, p1, 44, 32, 119, 111, 114, 100, 115, 61, r0, r1] [93] 34 (Nat.le_of_ble_eq_true rfl) (by decide) (Nat.lt_of_sub_pos (by simp)) ⟨(Ne.symm (na83 a2 (by simp)).1), (Ne.symm (na83 bc4 (by simp)).1), (Ne.symm (na83 a2 (by simp)).2), (Ne.symm (na83 bc4 (by simp)).2)⟩ _ f87 S86) (by simp) (by decide) (Nat.le_of_ble_eq_true rfl) rfl rfl (by decide) (by decide) ?_
  intro v88 h89 sh89 q90
  obtain ⟨rfl, Kc5, bc5, hbc5, SBc5'⟩ := q90
  have SBc5 : oSB Z h89 a2 bc5 [74, 117, 100, 103, 101, 100, 81, 117, 101, 114, 121, 91, 105, 100, 61, p0, p1, 44, 32, 119, 111, 114, 100, 115, 61, r0, r1, 93] 34 := SBc5'
  have lbc5 : bc5 < h89.size := by obtain ⟨_, _, _, _, _, B, _⟩ := SBc5; exact own_ltN B.lt
  refine ⟨[bc5, bc4, bc3, bc2, bc1, bc0, a2], own_D1 (SBc5.2.1), ?_⟩
  show oGo l Z a0 EL True pP eE sS mM _ bB tT cC _ _ _ _ _ _ _ _ [bc5, bc4, bc3, bc2, bc1, bc0, a2] h89 13 298 36 #[.val (.ref jq)] [.ref a2]
  refine oGo.invokevirtual (pc' := 39) (k' := 15) (n' := 332) (a := a2) (argsL := []) (rest := []) d12_36 rfl (w167 hG) (w168 hG) (w170 hG) (w170 hG) rfl (w169 hG) (w78 hG) (w171 hG) (by decide) pd28 rfl rfl rfl SBc5.1 (c_toStr hG a2 bc5 [74, 117, 100, 103, 101, 100, 81, 117, 101, 114, 121, 91, 105, 100, 61, p0, p1, 44, 32, 119, 111, 114, 100, 115, 61, r0, r1, 93] 34 (by simp) (by simp) (by intro c hc; simp only [List.mem_cons, List.not_mem_nil, or_false] at hc; rcases hc with rfl | rfl | rfl | rfl | rfl | rfl | rfl | rfl | rfl | rfl | rfl | rfl | rfl | rfl | rfl | rfl | rfl | rfl | rfl | rfl | rfl | rfl | rfl | rfl | rfl | rfl | rfl | rfl <;> first | decide | assumption) _ SBc5) (by simp) (by decide) (Nat.le_of_ble_eq_true rfl) rfl rfl (by decide) (by decide) ?_
  intro v92 h93 sh93 q94
  obtain ⟨Kz, xz, tz, rfl, gxz, gtz, Sz⟩ := q94
  have lxz := own_ltN Sz.1.lt
  have ltz := own_ltN Sz.2.2.2.1.lt
  refine ⟨_, fun _ hx => Or.inl hx, ?_⟩
  show oGo l Z a0 EL True pP eE sS mM _ bB tT cC _ _ _ _ _ _ _ _ [bc5, bc4, bc3, bc2, bc1, bc0, a2] h93 15 332 39 #[.val (.ref jq)] [.ref xz]
  have z95 := own_le_le (x := h.size) (Nat.le_refl _) E3.1
  have z96 := own_le_le (x := h.size) z95 Kc0.1
  have z97 := own_le_le (x := h.size) z96 E15.1
  have z98 := own_le_le (x := h.size) z97 Kc1.1
  have z99 := own_le_le (x := h.size) z98 Kc2.1
  have z100 := own_le_le (x := h.size) z99 E43.1
  have z101 := own_le_le (x := h.size) z100 Kc3.1
  have K102 : Keep h h93 [] := ((((((((((((Keep.refl h []).ext E3).trans Kc0 (own_new1 (own_le_le (x := h.size) (Nat.le_refl _) (own_ge_eq qa2)))).ext E15).trans Kc1 (own_new2 (own_le_le (x := h.size) (Nat.le_refl _) (own_ge_eq qa2)) (own_le_le (x := h.size) z95 hbc0))).trans Kc2 (own_new2 (own_le_le (x := h.size) (Nat.le_refl _) (own_ge_eq qa2)) (own_ge_or (own_le_le (x := h.size) z95 hbc0) z97 hbc1))).ext E43).trans Kc3 (own_new2 (own_le_le (x := h.size) (Nat.le_refl _) (own_ge_eq qa2)) (own_ge_or (own_ge_or (own_le_le (x := h.size) z95 hbc0) z97 hbc1) z98 hbc2))).trans Kc4 (own_new2 (own_le_le (x := h.size) (Nat.le_refl _) (own_ge_eq qa2)) (own_ge_or (own_ge_or (own_ge_or (own_le_le (x := h.size) z95 hbc0) z97 hbc1) z98 hbc2) z100 hbc3))).ext E85).trans Kc5 (own_new2 (own_le_le (x := h.size) (Nat.le_refl _) (own_ge_eq qa2)) (own_ge_or (own_ge_or (own_ge_or (own_ge_or (own_le_le (x := h.size) z95 hbc0) z97 hbc1) z98 hbc2) z100 hbc3) z101 hbc4))).trans Kz (by simp))
  have z103 := own_le_le (x := h.size) z101 Kc4.1
  have z104 := own_le_le (x := h.size) z103 E85.1
  have z105 := own_le_le (x := h.size) z104 Kc5.1
  exact oGo.areturn d12_39 rfl rfl rfl rfl (by decide) (by decide) ⟨K102, xz, tz, rfl, (own_le_le (x := h.size) z105 gxz), (own_le_le (x := h.size) z105 gtz), Sz⟩ (fun _ q => q.elim)
set_option maxRecDepth 65536 in
set_option maxHeartbeats 4000000 in
theorem c_eq8 {l : Launch} {Z : State} {a0 : Array Value} {EL : List (String × Nat)} (hG : oG a0 Z EL) (x t y u : Nat) (cs ps : List Int32) (o : Nat) (hq : ∀ j, j < 8 → ∃ c, cs[o + j]? = some c ∧ ps[j]? = some c) (h : Heap) (Sx : oS Z h x t cs) (Sy : oS Z h y u ps) :
    oCtr [] l Z a0 EL True (⟨"com/example/soft_sieve/softsieve/JudgedQueryToStringPinLaw", "eq8", "(Ljava/lang/String;ILjava/lang/String;)Z"⟩ : MethodName) method_4_code 3 (some .boolean) ({ frames := 4, cells := 0, slots := 0, locals := 54 } : Room) #[.ref x, .int (Int32.ofNat o), .ref y] [] h (fun v h' => v = some (.int 1) ∧ h' = h) oNo := by
  refine oCtr.enter (Ls := #[.val (.ref x), .val (.int (Int32.ofNat o)), .val (.ref y)]) (plainFor_of_name pn9) hG.2.1 (fun m => by first | (simp [entryFrame, mkF, argsToLocals, Value.category]; done) | rfl) ?_
  intro pP eE sS mM bB tT cC
  obtain ⟨c0, hx0, hy0⟩ := hq 0 (by decide)
  refine oGo.aload_n (pc' := 1) d38_0 rfl rfl rfl ?_
  refine oGo.iload_n (pc' := 2) d38_1 rfl rfl ?_
  refine oGo.invokevirtual (pc' := 5) (k' := 0) (n' := 0) (a := x) (argsL := [.int (Int32.ofNat o)]) (rest := []) d38_2 rfl (w211 hG) (w212 hG) (w214 hG) (w214 hG) rfl (w213 hG) (w7 hG) (w215 hG) (by decide) pd29 rfl rfl rfl Sx.1 (c_charAt hG x t cs (o + 0) c0 hx0 h Sx) (by simp) (by decide) (Nat.le_of_ble_eq_true rfl) rfl rfl (by decide) (by decide) ?_
  intro v1 h2 sh2 q3
  obtain ⟨rfl, ee⟩ := q3
  obtain rfl := ee.symm
  refine ⟨_, fun _ hx => Or.inl hx, ?_⟩
  show oGo l Z a0 EL True pP eE sS mM _ bB tT cC _ _ _ _ _ _ _ _ [] h 0 0 5 #[.val (.ref x), .val (.int (Int32.ofNat o)), .val (.ref y)] [.int c0]
  refine oGo.aload_n (pc' := 6) d38_5 rfl rfl rfl ?_
  refine oGo.iconst (pc' := 7) (v := 0) d38_6 rfl (by decide) ?_
  refine oGo.invokevirtual (pc' := 10) (k' := 0) (n' := 0) (a := y) (argsL := [.int (0 : Int32)]) (rest := [.int c0]) d38_7 rfl (w211 hG) (w212 hG) (w214 hG) (w214 hG) rfl (w213 hG) (w7 hG) (w215 hG) (by decide) pd29 rfl rfl rfl Sy.1 (c_charAt hG y u ps 0 c0 hy0 h Sy) (by simp) (by decide) (Nat.le_of_ble_eq_true rfl) rfl rfl (by decide) (by decide) ?_
  intro v4 h5 sh5 q6
  obtain ⟨rfl, ee⟩ := q6
  obtain rfl := ee.symm
  refine ⟨_, fun _ hx => Or.inl hx, ?_⟩
  show oGo l Z a0 EL True pP eE sS mM _ bB tT cC _ _ _ _ _ _ _ _ [] h 0 0 10 #[.val (.ref x), .val (.int (Int32.ofNat o)), .val (.ref y)] [.int c0, .int c0]
  refine oGo.icmp_ne (pc1 := 13) (pc2 := 126) d38_10 rfl (by decide) (fun q => absurd rfl q) (fun q7 => ?_)
  obtain ⟨c1, hx1, hy1⟩ := hq 1 (by decide)
  refine oGo.aload_n (pc' := 14) d38_13 rfl rfl rfl ?_
  refine oGo.iload_n (pc' := 15) d38_14 rfl rfl ?_
  refine oGo.iconst (pc' := 16) (v := 1) d38_15 rfl (by decide) ?_
  refine oGo.iadd (pc' := 17) d38_16 rfl ?_
  rw [own_addL o 1 1 rfl]
  refine oGo.invokevirtual (pc' := 20) (k' := 0) (n' := 0) (a := x) (argsL := [.int (Int32.ofNat (o + 1))]) (rest := []) d38_17 rfl (w211 hG) (w212 hG) (w214 hG) (w214 hG) rfl (w213 hG) (w7 hG) (w215 hG) (by decide) pd29 rfl rfl rfl Sx.1 (c_charAt hG x t cs (o + 1) c1 hx1 h Sx) (by simp) (by decide) (Nat.le_of_ble_eq_true rfl) rfl rfl (by decide) (by decide) ?_
  intro v8 h9 sh9 q10
  obtain ⟨rfl, ee⟩ := q10
  obtain rfl := ee.symm
  refine ⟨_, fun _ hx => Or.inl hx, ?_⟩
  show oGo l Z a0 EL True pP eE sS mM _ bB tT cC _ _ _ _ _ _ _ _ [] h 0 0 20 #[.val (.ref x), .val (.int (Int32.ofNat o)), .val (.ref y)] [.int c1]
  refine oGo.aload_n (pc' := 21) d38_20 rfl rfl rfl ?_
  refine oGo.iconst (pc' := 22) (v := 1) d38_21 rfl (by decide) ?_
  refine oGo.invokevirtual (pc' := 25) (k' := 0) (n' := 0) (a := y) (argsL := [.int (1 : Int32)]) (rest := [.int c1]) d38_22 rfl (w211 hG) (w212 hG) (w214 hG) (w214 hG) rfl (w213 hG) (w7 hG) (w215 hG) (by decide) pd29 rfl rfl rfl Sy.1 (c_charAt hG y u ps 1 c1 hy1 h Sy) (by simp) (by decide) (Nat.le_of_ble_eq_true rfl) rfl rfl (by decide) (by decide) ?_
  intro v11 h12 sh12 q13
  obtain ⟨rfl, ee⟩ := q13
  obtain rfl := ee.symm
  refine ⟨_, fun _ hx => Or.inl hx, ?_⟩
  show oGo l Z a0 EL True pP eE sS mM _ bB tT cC _ _ _ _ _ _ _ _ [] h 0 0 25 #[.val (.ref x), .val (.int (Int32.ofNat o)), .val (.ref y)] [.int c1, .int c1]
  refine oGo.icmp_ne (pc1 := 28) (pc2 := 126) d38_25 rfl (by decide) (fun q => absurd rfl q) (fun q14 => ?_)
  obtain ⟨c2, hx2, hy2⟩ := hq 2 (by decide)
  refine oGo.aload_n (pc' := 29) d38_28 rfl rfl rfl ?_
  refine oGo.iload_n (pc' := 30) d38_29 rfl rfl ?_
  refine oGo.iconst (pc' := 31) (v := 2) d38_30 rfl (by decide) ?_
  refine oGo.iadd (pc' := 32) d38_31 rfl ?_
  rw [own_addL o 2 2 rfl]
  refine oGo.invokevirtual (pc' := 35) (k' := 0) (n' := 0) (a := x) (argsL := [.int (Int32.ofNat (o + 2))]) (rest := []) d38_32 rfl (w211 hG) (w212 hG) (w214 hG) (w214 hG) rfl (w213 hG) (w7 hG) (w215 hG) (by decide) pd29 rfl rfl rfl Sx.1 (c_charAt hG x t cs (o + 2) c2 hx2 h Sx) (by simp) (by decide) (Nat.le_of_ble_eq_true rfl) rfl rfl (by decide) (by decide) ?_
  intro v15 h16 sh16 q17
  obtain ⟨rfl, ee⟩ := q17
  obtain rfl := ee.symm
  refine ⟨_, fun _ hx => Or.inl hx, ?_⟩
  show oGo l Z a0 EL True pP eE sS mM _ bB tT cC _ _ _ _ _ _ _ _ [] h 0 0 35 #[.val (.ref x), .val (.int (Int32.ofNat o)), .val (.ref y)] [.int c2]
  refine oGo.aload_n (pc' := 36) d38_35 rfl rfl rfl ?_
  refine oGo.iconst (pc' := 37) (v := 2) d38_36 rfl (by decide) ?_
  refine oGo.invokevirtual (pc' := 40) (k' := 0) (n' := 0) (a := y) (argsL := [.int (2 : Int32)]) (rest := [.int c2]) d38_37 rfl (w211 hG) (w212 hG) (w214 hG) (w214 hG) rfl (w213 hG) (w7 hG) (w215 hG) (by decide) pd29 rfl rfl rfl Sy.1 (c_charAt hG y u ps 2 c2 hy2 h Sy) (by simp) (by decide) (Nat.le_of_ble_eq_true rfl) rfl rfl (by decide) (by decide) ?_
  intro v18 h19 sh19 q20
  obtain ⟨rfl, ee⟩ := q20
  obtain rfl := ee.symm
  refine ⟨_, fun _ hx => Or.inl hx, ?_⟩
  show oGo l Z a0 EL True pP eE sS mM _ bB tT cC _ _ _ _ _ _ _ _ [] h 0 0 40 #[.val (.ref x), .val (.int (Int32.ofNat o)), .val (.ref y)] [.int c2, .int c2]
  refine oGo.icmp_ne (pc1 := 43) (pc2 := 126) d38_40 rfl (by decide) (fun q => absurd rfl q) (fun q21 => ?_)
  obtain ⟨c3, hx3, hy3⟩ := hq 3 (by decide)
  refine oGo.aload_n (pc' := 44) d38_43 rfl rfl rfl ?_
  refine oGo.iload_n (pc' := 45) d38_44 rfl rfl ?_
  refine oGo.iconst (pc' := 46) (v := 3) d38_45 rfl (by decide) ?_
  refine oGo.iadd (pc' := 47) d38_46 rfl ?_
  rw [own_addL o 3 3 rfl]
  refine oGo.invokevirtual (pc' := 50) (k' := 0) (n' := 0) (a := x) (argsL := [.int (Int32.ofNat (o + 3))]) (rest := []) d38_47 rfl (w211 hG) (w212 hG) (w214 hG) (w214 hG) rfl (w213 hG) (w7 hG) (w215 hG) (by decide) pd29 rfl rfl rfl Sx.1 (c_charAt hG x t cs (o + 3) c3 hx3 h Sx) (by simp) (by decide) (Nat.le_of_ble_eq_true rfl) rfl rfl (by decide) (by decide) ?_
  intro v22 h23 sh23 q24
  obtain ⟨rfl, ee⟩ := q24
  obtain rfl := ee.symm
  refine ⟨_, fun _ hx => Or.inl hx, ?_⟩
  show oGo l Z a0 EL True pP eE sS mM _ bB tT cC _ _ _ _ _ _ _ _ [] h 0 0 50 #[.val (.ref x), .val (.int (Int32.ofNat o)), .val (.ref y)] [.int c3]
  refine oGo.aload_n (pc' := 51) d38_50 rfl rfl rfl ?_
  refine oGo.iconst (pc' := 52) (v := 3) d38_51 rfl (by decide) ?_
  refine oGo.invokevirtual (pc' := 55) (k' := 0) (n' := 0) (a := y) (argsL := [.int (3 : Int32)]) (rest := [.int c3]) d38_52 rfl (w211 hG) (w212 hG) (w214 hG) (w214 hG) rfl (w213 hG) (w7 hG) (w215 hG) (by decide) pd29 rfl rfl rfl Sy.1 (c_charAt hG y u ps 3 c3 hy3 h Sy) (by simp) (by decide) (Nat.le_of_ble_eq_true rfl) rfl rfl (by decide) (by decide) ?_
  intro v25 h26 sh26 q27
  obtain ⟨rfl, ee⟩ := q27
  obtain rfl := ee.symm
  refine ⟨_, fun _ hx => Or.inl hx, ?_⟩
  show oGo l Z a0 EL True pP eE sS mM _ bB tT cC _ _ _ _ _ _ _ _ [] h 0 0 55 #[.val (.ref x), .val (.int (Int32.ofNat o)), .val (.ref y)] [.int c3, .int c3]
  refine oGo.icmp_ne (pc1 := 58) (pc2 := 126) d38_55 rfl (by decide) (fun q => absurd rfl q) (fun q28 => ?_)
  obtain ⟨c4, hx4, hy4⟩ := hq 4 (by decide)
  refine oGo.aload_n (pc' := 59) d38_58 rfl rfl rfl ?_
  refine oGo.iload_n (pc' := 60) d38_59 rfl rfl ?_
  refine oGo.iconst (pc' := 61) (v := 4) d38_60 rfl (by decide) ?_
  refine oGo.iadd (pc' := 62) d38_61 rfl ?_
  rw [own_addL o 4 4 rfl]
  refine oGo.invokevirtual (pc' := 65) (k' := 0) (n' := 0) (a := x) (argsL := [.int (Int32.ofNat (o + 4))]) (rest := []) d38_62 rfl (w211 hG) (w212 hG) (w214 hG) (w214 hG) rfl (w213 hG) (w7 hG) (w215 hG) (by decide) pd29 rfl rfl rfl Sx.1 (c_charAt hG x t cs (o + 4) c4 hx4 h Sx) (by simp) (by decide) (Nat.le_of_ble_eq_true rfl) rfl rfl (by decide) (by decide) ?_
  intro v29 h30 sh30 q31
  obtain ⟨rfl, ee⟩ := q31
  obtain rfl := ee.symm
  refine ⟨_, fun _ hx => Or.inl hx, ?_⟩
  show oGo l Z a0 EL True pP eE sS mM _ bB tT cC _ _ _ _ _ _ _ _ [] h 0 0 65 #[.val (.ref x), .val (.int (Int32.ofNat o)), .val (.ref y)] [.int c4]
  refine oGo.aload_n (pc' := 66) d38_65 rfl rfl rfl ?_
  refine oGo.iconst (pc' := 67) (v := 4) d38_66 rfl (by decide) ?_
  refine oGo.invokevirtual (pc' := 70) (k' := 0) (n' := 0) (a := y) (argsL := [.int (4 : Int32)]) (rest := [.int c4]) d38_67 rfl (w211 hG) (w212 hG) (w214 hG) (w214 hG) rfl (w213 hG) (w7 hG) (w215 hG) (by decide) pd29 rfl rfl rfl Sy.1 (c_charAt hG y u ps 4 c4 hy4 h Sy) (by simp) (by decide) (Nat.le_of_ble_eq_true rfl) rfl rfl (by decide) (by decide) ?_
  intro v32 h33 sh33 q34
  obtain ⟨rfl, ee⟩ := q34
  obtain rfl := ee.symm
  refine ⟨_, fun _ hx => Or.inl hx, ?_⟩
  show oGo l Z a0 EL True pP eE sS mM _ bB tT cC _ _ _ _ _ _ _ _ [] h 0 0 70 #[.val (.ref x), .val (.int (Int32.ofNat o)), .val (.ref y)] [.int c4, .int c4]
  refine oGo.icmp_ne (pc1 := 73) (pc2 := 126) d38_70 rfl (by decide) (fun q => absurd rfl q) (fun q35 => ?_)
  obtain ⟨c5, hx5, hy5⟩ := hq 5 (by decide)
  refine oGo.aload_n (pc' := 74) d38_73 rfl rfl rfl ?_
  refine oGo.iload_n (pc' := 75) d38_74 rfl rfl ?_
  refine oGo.iconst (pc' := 76) (v := 5) d38_75 rfl (by decide) ?_
  refine oGo.iadd (pc' := 77) d38_76 rfl ?_
  rw [own_addL o 5 5 rfl]
  refine oGo.invokevirtual (pc' := 80) (k' := 0) (n' := 0) (a := x) (argsL := [.int (Int32.ofNat (o + 5))]) (rest := []) d38_77 rfl (w211 hG) (w212 hG) (w214 hG) (w214 hG) rfl (w213 hG) (w7 hG) (w215 hG) (by decide) pd29 rfl rfl rfl Sx.1 (c_charAt hG x t cs (o + 5) c5 hx5 h Sx) (by simp) (by decide) (Nat.le_of_ble_eq_true rfl) rfl rfl (by decide) (by decide) ?_
  intro v36 h37 sh37 q38
  obtain ⟨rfl, ee⟩ := q38
  obtain rfl := ee.symm
  refine ⟨_, fun _ hx => Or.inl hx, ?_⟩
  show oGo l Z a0 EL True pP eE sS mM _ bB tT cC _ _ _ _ _ _ _ _ [] h 0 0 80 #[.val (.ref x), .val (.int (Int32.ofNat o)), .val (.ref y)] [.int c5]
  refine oGo.aload_n (pc' := 81) d38_80 rfl rfl rfl ?_
  refine oGo.iconst (pc' := 82) (v := 5) d38_81 rfl (by decide) ?_
  refine oGo.invokevirtual (pc' := 85) (k' := 0) (n' := 0) (a := y) (argsL := [.int (5 : Int32)]) (rest := [.int c5]) d38_82 rfl (w211 hG) (w212 hG) (w214 hG) (w214 hG) rfl (w213 hG) (w7 hG) (w215 hG) (by decide) pd29 rfl rfl rfl Sy.1 (c_charAt hG y u ps 5 c5 hy5 h Sy) (by simp) (by decide) (Nat.le_of_ble_eq_true rfl) rfl rfl (by decide) (by decide) ?_
  intro v39 h40 sh40 q41
  obtain ⟨rfl, ee⟩ := q41
  obtain rfl := ee.symm
  refine ⟨_, fun _ hx => Or.inl hx, ?_⟩
  show oGo l Z a0 EL True pP eE sS mM _ bB tT cC _ _ _ _ _ _ _ _ [] h 0 0 85 #[.val (.ref x), .val (.int (Int32.ofNat o)), .val (.ref y)] [.int c5, .int c5]
  refine oGo.icmp_ne (pc1 := 88) (pc2 := 126) d38_85 rfl (by decide) (fun q => absurd rfl q) (fun q42 => ?_)
  obtain ⟨c6, hx6, hy6⟩ := hq 6 (by decide)
  refine oGo.aload_n (pc' := 89) d38_88 rfl rfl rfl ?_
  refine oGo.iload_n (pc' := 90) d38_89 rfl rfl ?_
  refine oGo.bipush (pc' := 92) (v := 6) d38_90 rfl (by decide) ?_
  refine oGo.iadd (pc' := 93) d38_92 rfl ?_
  rw [own_addL o 6 6 rfl]
  refine oGo.invokevirtual (pc' := 96) (k' := 0) (n' := 0) (a := x) (argsL := [.int (Int32.ofNat (o + 6))]) (rest := []) d38_93 rfl (w211 hG) (w212 hG) (w214 hG) (w214 hG) rfl (w213 hG) (w7 hG) (w215 hG) (by decide) pd29 rfl rfl rfl Sx.1 (c_charAt hG x t cs (o + 6) c6 hx6 h Sx) (by simp) (by decide) (Nat.le_of_ble_eq_true rfl) rfl rfl (by decide) (by decide) ?_
  intro v43 h44 sh44 q45
  obtain ⟨rfl, ee⟩ := q45
  obtain rfl := ee.symm
  refine ⟨_, fun _ hx => Or.inl hx, ?_⟩
  show oGo l Z a0 EL True pP eE sS mM _ bB tT cC _ _ _ _ _ _ _ _ [] h 0 0 96 #[.val (.ref x), .val (.int (Int32.ofNat o)), .val (.ref y)] [.int c6]
  refine oGo.aload_n (pc' := 97) d38_96 rfl rfl rfl ?_
  refine oGo.bipush (pc' := 99) (v := 6) d38_97 rfl (by decide) ?_
  refine oGo.invokevirtual (pc' := 102) (k' := 0) (n' := 0) (a := y) (argsL := [.int (6 : Int32)]) (rest := [.int c6]) d38_99 rfl (w211 hG) (w212 hG) (w214 hG) (w214 hG) rfl (w213 hG) (w7 hG) (w215 hG) (by decide) pd29 rfl rfl rfl Sy.1 (c_charAt hG y u ps 6 c6 hy6 h Sy) (by simp) (by decide) (Nat.le_of_ble_eq_true rfl) rfl rfl (by decide) (by decide) ?_
  intro v46 h47 sh47 q48
  obtain ⟨rfl, ee⟩ := q48
  obtain rfl := ee.symm
  refine ⟨_, fun _ hx => Or.inl hx, ?_⟩
  show oGo l Z a0 EL True pP eE sS mM _ bB tT cC _ _ _ _ _ _ _ _ [] h 0 0 102 #[.val (.ref x), .val (.int (Int32.ofNat o)), .val (.ref y)] [.int c6, .int c6]
  refine oGo.icmp_ne (pc1 := 105) (pc2 := 126) d38_102 rfl (by decide) (fun q => absurd rfl q) (fun q49 => ?_)
  obtain ⟨c7, hx7, hy7⟩ := hq 7 (by decide)
  refine oGo.aload_n (pc' := 106) d38_105 rfl rfl rfl ?_
  refine oGo.iload_n (pc' := 107) d38_106 rfl rfl ?_
  refine oGo.bipush (pc' := 109) (v := 7) d38_107 rfl (by decide) ?_
  refine oGo.iadd (pc' := 110) d38_109 rfl ?_
  rw [own_addL o 7 7 rfl]
  refine oGo.invokevirtual (pc' := 113) (k' := 0) (n' := 0) (a := x) (argsL := [.int (Int32.ofNat (o + 7))]) (rest := []) d38_110 rfl (w211 hG) (w212 hG) (w214 hG) (w214 hG) rfl (w213 hG) (w7 hG) (w215 hG) (by decide) pd29 rfl rfl rfl Sx.1 (c_charAt hG x t cs (o + 7) c7 hx7 h Sx) (by simp) (by decide) (Nat.le_of_ble_eq_true rfl) rfl rfl (by decide) (by decide) ?_
  intro v50 h51 sh51 q52
  obtain ⟨rfl, ee⟩ := q52
  obtain rfl := ee.symm
  refine ⟨_, fun _ hx => Or.inl hx, ?_⟩
  show oGo l Z a0 EL True pP eE sS mM _ bB tT cC _ _ _ _ _ _ _ _ [] h 0 0 113 #[.val (.ref x), .val (.int (Int32.ofNat o)), .val (.ref y)] [.int c7]
  refine oGo.aload_n (pc' := 114) d38_113 rfl rfl rfl ?_
  refine oGo.bipush (pc' := 116) (v := 7) d38_114 rfl (by decide) ?_
  refine oGo.invokevirtual (pc' := 119) (k' := 0) (n' := 0) (a := y) (argsL := [.int (7 : Int32)]) (rest := [.int c7]) d38_116 rfl (w211 hG) (w212 hG) (w214 hG) (w214 hG) rfl (w213 hG) (w7 hG) (w215 hG) (by decide) pd29 rfl rfl rfl Sy.1 (c_charAt hG y u ps 7 c7 hy7 h Sy) (by simp) (by decide) (Nat.le_of_ble_eq_true rfl) rfl rfl (by decide) (by decide) ?_
  intro v53 h54 sh54 q55
  obtain ⟨rfl, ee⟩ := q55
  obtain rfl := ee.symm
  refine ⟨_, fun _ hx => Or.inl hx, ?_⟩
  show oGo l Z a0 EL True pP eE sS mM _ bB tT cC _ _ _ _ _ _ _ _ [] h 0 0 119 #[.val (.ref x), .val (.int (Int32.ofNat o)), .val (.ref y)] [.int c7, .int c7]
  refine oGo.icmp_ne (pc1 := 122) (pc2 := 126) d38_119 rfl (by decide) (fun q => absurd rfl q) (fun q56 => ?_)
  refine oGo.iconst (pc' := 123) (v := 1) d38_122 rfl (by decide) ?_
  refine oGo.goto (pc' := 127) d38_123 (by decide) ?_
  exact oGo.nreturn d38_127 rfl (by simp) rfl (by decide) (by decide) ⟨rfl, rfl⟩ (fun _ q => q.elim)
set_option maxRecDepth 65536 in
set_option maxHeartbeats 4000000 in
theorem c_law {l : Launch} {Z : State} {a0 : Array Value} {EL : List (String × Nat)} (hG : oG a0 Z EL) (i0 i1 i2 i3 : Int32) (h : Heap)  :
    oCtr tables_1 l Z a0 EL True (⟨"com/example/soft_sieve/softsieve/JudgedQueryToStringPinLaw", "law", "(IIII)Z"⟩ : MethodName) code 15 (some .boolean) room_1 #[.int i0, .int i1, .int i2, .int i3] [] h (fun v h' => v = some (.int 1)) oNo := by
  refine oCtr.enter (Ls := #[.val (.int i0), .val (.int i1), .val (.int i2), .val (.int i3), .unset, .unset, .unset, .unset, .unset, .unset, .unset, .unset, .unset, .unset, .unset]) (plainFor_of_name pn9) hG.2.1 (fun m => by first | (simp [entryFrame, mkF, argsToLocals, Value.category]; done) | rfl) ?_
  intro pP eE sS mM bB tT cC
  obtain ⟨es, Se, Ee⟩ := sEMPTY hG
  refine oGo.iload_n (pc' := 1) at_0 rfl rfl ?_
  refine oGo.ldc_int (pc' := 3) at_1 rfl (w0 hG) ?_
  refine oGo.iand (pc' := 4) at_3 rfl ?_
  refine oGo.iconst (pc' := 5) (v := 3) at_4 rfl (by decide) ?_
  refine oGo.irem (pc' := 6) at_5 rfl (by decide) ?_
  obtain ⟨li, hli, eli⟩ := rng3 i0
  rw [eli]
  refine oGo.istore (pc' := 8) (Ls' := #[.val (.int i0), .val (.int i1), .val (.int i2), .val (.int i3), .val (.int (Int32.ofNat li)), .unset, .unset, .unset, .unset, .unset, .unset, .unset, .unset, .unset, .unset]) at_6 rfl rfl ?_
  refine oGo.iload_n (pc' := 9) at_8 rfl rfl ?_
  refine oGo.ldc_int (pc' := 11) at_9 rfl (w0 hG) ?_
  refine oGo.iand (pc' := 12) at_11 rfl ?_
  refine oGo.iconst (pc' := 13) (v := 3) at_12 rfl (by decide) ?_
  refine oGo.irem (pc' := 14) at_13 rfl (by decide) ?_
  obtain ⟨lw, hlw, elw⟩ := rng3 i2
  rw [elw]
  refine oGo.istore (pc' := 16) (Ls' := #[.val (.int i0), .val (.int i1), .val (.int i2), .val (.int i3), .val (.int (Int32.ofNat li)), .val (.int (Int32.ofNat lw)), .unset, .unset, .unset, .unset, .unset, .unset, .unset, .unset, .unset]) at_14 rfl rfl ?_
  refine oGo.iload_n (pc' := 17) at_16 rfl rfl ?_
  refine oGo.sipush (pc' := 20) (v := 255) at_17 rfl (by decide) ?_
  refine oGo.iand (pc' := 21) at_20 rfl ?_
  refine oGo.i2c (pc' := 22) at_21 rfl ?_
  obtain ⟨p0, hp0⟩ : ∃ c, c = ((i1 &&& (255 : Int32)).toUInt32.toUInt16.toUInt32.toInt32) := ⟨_, rfl⟩
  rw [← hp0]
  have bp0 : ¬ p0 < 0 ∧ ¬ 255 < p0 := by rw [hp0]; exact own_b255 _
  refine oGo.istore (pc' := 24) (Ls' := #[.val (.int i0), .val (.int i1), .val (.int i2), .val (.int i3), .val (.int (Int32.ofNat li)), .val (.int (Int32.ofNat lw)), .val (.int p0), .unset, .unset, .unset, .unset, .unset, .unset, .unset, .unset]) at_22 rfl rfl ?_
  refine oGo.iload_n (pc' := 25) at_24 rfl rfl ?_
  refine oGo.bipush (pc' := 27) (v := 8) at_25 rfl (by decide) ?_
  refine oGo.iushr (pc' := 28) at_27 rfl ?_
  refine oGo.sipush (pc' := 31) (v := 255) at_28 rfl (by decide) ?_
  refine oGo.iand (pc' := 32) at_31 rfl ?_
  refine oGo.i2c (pc' := 33) at_32 rfl ?_
  obtain ⟨p1, hp1⟩ : ∃ c, c = (((XT.ushr i1 (8 : Int32)) &&& (255 : Int32)).toUInt32.toUInt16.toUInt32.toInt32) := ⟨_, rfl⟩
  rw [← hp1]
  have bp1 : ¬ p1 < 0 ∧ ¬ 255 < p1 := by rw [hp1]; exact own_b255 _
  refine oGo.istore (pc' := 35) (Ls' := #[.val (.int i0), .val (.int i1), .val (.int i2), .val (.int i3), .val (.int (Int32.ofNat li)), .val (.int (Int32.ofNat lw)), .val (.int p0), .val (.int p1), .unset, .unset, .unset, .unset, .unset, .unset, .unset]) at_33 rfl rfl ?_
  refine oGo.iload_n (pc' := 36) at_35 rfl rfl ?_
  refine oGo.sipush (pc' := 39) (v := 255) at_36 rfl (by decide) ?_
  refine oGo.iand (pc' := 40) at_39 rfl ?_
  refine oGo.i2c (pc' := 41) at_40 rfl ?_
  obtain ⟨r0, hr0⟩ : ∃ c, c = ((i3 &&& (255 : Int32)).toUInt32.toUInt16.toUInt32.toInt32) := ⟨_, rfl⟩
  rw [← hr0]
  have br0 : ¬ r0 < 0 ∧ ¬ 255 < r0 := by rw [hr0]; exact own_b255 _
  refine oGo.istore (pc' := 43) (Ls' := #[.val (.int i0), .val (.int i1), .val (.int i2), .val (.int i3), .val (.int (Int32.ofNat li)), .val (.int (Int32.ofNat lw)), .val (.int p0), .val (.int p1), .val (.int r0), .unset, .unset, .unset, .unset, .unset, .unset]) at_41 rfl rfl ?_
  refine oGo.iload_n (pc' := 44) at_43 rfl rfl ?_
  refine oGo.bipush (pc' := 46) (v := 8) at_44 rfl (by decide) ?_
  refine oGo.iushr (pc' := 47) at_46 rfl ?_
  refine oGo.sipush (pc' := 50) (v := 255) at_47 rfl (by decide) ?_
  refine oGo.iand (pc' := 51) at_50 rfl ?_
  refine oGo.i2c (pc' := 52) at_51 rfl ?_
  obtain ⟨r1, hr1⟩ : ∃ c, c = (((XT.ushr i3 (8 : Int32)) &&& (255 : Int32)).toUInt32.toUInt16.toUInt32.toInt32) := ⟨_, rfl⟩
  rw [← hr1]
  have br1 : ¬ r1 < 0 ∧ ¬ 255 < r1 := by rw [hr1]; exact own_b255 _
  rcases (show li = 0 ∨ li = 1 ∨ li = 2 by omega) with rfl | rfl | rfl
  · show oGo l Z a0 EL True pP eE sS mM _ bB tT cC _ _ _ _ _ _ _ _ [] h 0 0 52 #[.val (.int i0), .val (.int i1), .val (.int i2), .val (.int i3), .val (.int (0 : Int32)), .val (.int (Int32.ofNat lw)), .val (.int p0), .val (.int p1), .val (.int r0), .unset, .unset, .unset, .unset, .unset, .unset] [.int r1]
    refine oGo.istore (pc' := 54) (Ls' := #[.val (.int i0), .val (.int i1), .val (.int i2), .val (.int i3), .val (.int (0 : Int32)), .val (.int (Int32.ofNat lw)), .val (.int p0), .val (.int p1), .val (.int r0), .val (.int r1), .unset, .unset, .unset, .unset, .unset]) at_52 rfl rfl ?_
    refine oGo.iload (pc' := 56) at_54 rfl rfl ?_
    refine oGo.iload (pc' := 58) at_56 rfl rfl ?_
    refine oGo.iload (pc' := 60) at_58 rfl rfl ?_
    refine oGo.invokestatic (pc' := 63) (k' := 6) (n' := 14) (argsL := [.int (0 : Int32), .int p0, .int p1]) (rest := []) at_60 rfl (w1 hG) (w2 hG) (w3 hG) (w4 hG) (by decide) pd30 rfl rfl rfl (c_mk0 hG p0 p1 bp0 bp1 _) (by simp) (by decide) (Nat.le_of_ble_eq_true rfl) rfl rfl (by decide) (by decide) ?_
    intro v1 h2 sh2 q3
    obtain ⟨K1, p, tp, rfl, Sp⟩ := q3
    have lp := own_ltN Sp.1.lt
    have ltp := own_ltN Sp.2.2.2.1.lt
    refine ⟨_, fun _ hx => Or.inl hx, ?_⟩
    show oGo l Z a0 EL True pP eE sS mM _ bB tT cC _ _ _ _ _ _ _ _ [] h2 6 14 63 #[.val (.int i0), .val (.int i1), .val (.int i2), .val (.int i3), .val (.int (0 : Int32)), .val (.int (Int32.ofNat lw)), .val (.int p0), .val (.int p1), .val (.int r0), .val (.int r1), .unset, .unset, .unset, .unset, .unset] [.ref p]
    rcases (show lw = 0 ∨ lw = 1 ∨ lw = 2 by omega) with rfl | rfl | rfl
    · show oGo l Z a0 EL True pP eE sS mM _ bB tT cC _ _ _ _ _ _ _ _ [] h2 6 14 63 #[.val (.int i0), .val (.int i1), .val (.int i2), .val (.int i3), .val (.int (0 : Int32)), .val (.int (0 : Int32)), .val (.int p0), .val (.int p1), .val (.int r0), .val (.int r1), .unset, .unset, .unset, .unset, .unset] [.ref p]
      refine oGo.astore (pc' := 65) (Ls' := #[.val (.int i0), .val (.int i1), .val (.int i2), .val (.int i3), .val (.int (0 : Int32)), .val (.int (0 : Int32)), .val (.int p0), .val (.int p1), .val (.int r0), .val (.int r1), .val (.ref p), .unset, .unset, .unset, .unset]) at_63 rfl rfl rfl ?_
      refine oGo.iload (pc' := 67) at_65 rfl rfl ?_
      refine oGo.iload (pc' := 69) at_67 rfl rfl ?_
      refine oGo.iload (pc' := 71) at_69 rfl rfl ?_
      refine oGo.invokestatic (pc' := 74) (k' := 12) (n' := 28) (argsL := [.int (0 : Int32), .int r0, .int r1]) (rest := []) at_71 rfl (w1 hG) (w2 hG) (w3 hG) (w4 hG) (by decide) pd30 rfl rfl rfl (c_mk0 hG r0 r1 br0 br1 _) (by simp) (by decide) (Nat.le_of_ble_eq_true rfl) rfl rfl (by decide) (by decide) ?_
      intro v4 h5 sh5 q6
      obtain ⟨K2, r, tr, rfl, Sr⟩ := q6
      have lr := own_ltN Sr.1.lt
      have ltr := own_ltN Sr.2.2.2.1.lt
      refine ⟨_, fun _ hx => Or.inl hx, ?_⟩
      show oGo l Z a0 EL True pP eE sS mM _ bB tT cC _ _ _ _ _ _ _ _ [] h5 12 28 74 #[.val (.int i0), .val (.int i1), .val (.int i2), .val (.int i3), .val (.int (0 : Int32)), .val (.int (0 : Int32)), .val (.int p0), .val (.int p1), .val (.int r0), .val (.int r1), .val (.ref p), .unset, .unset, .unset, .unset] [.ref r]
      refine oGo.astore (pc' := 76) (Ls' := #[.val (.int i0), .val (.int i1), .val (.int i2), .val (.int i3), .val (.int (0 : Int32)), .val (.int (0 : Int32)), .val (.int p0), .val (.int p1), .val (.int r0), .val (.int r1), .val (.ref p), .val (.ref r), .unset, .unset, .unset]) at_74 rfl rfl rfl ?_
      refine oGo.new (pc' := 79) (k' := 13) (n' := 31) at_76 rfl (w38 hG) (w39 hG) (w40 hG) rfl rfl (by decide) (by decide) ?_
      intro h7 a8 qa8 la8 E9 X10 F11
      have f12 := F11 (Or.inr (w58 hG)) (ty := (.object "java/lang/String")) (by decide)
      have f13 := F11 (Or.inr (w61 hG)) (ty := (.object "java/lang/String")) (by decide)
      have f14 := F11 (Or.inr (w70 hG)) (ty := (.object "java/util/Set")) (by decide)
      refine oGo.dup (pc' := 80) at_79 rfl rfl ?_
      refine oGo.aload (pc' := 82) at_80 rfl rfl rfl ?_
      refine oGo.aload (pc' := 84) at_82 rfl rfl rfl ?_
      refine oGo.invokestatic (pc' := 87) (k' := 13) (n' := 31) (argsL := []) (rest := [.ref r, .ref p, .ref a8, .ref a8]) at_84 rfl (w41 hG) (w42 hG) (w43 hG) (w44 hG) (by decide) pd31 rfl rfl rfl (c_setOf hG es _ Se) (by simp) (by decide) (Nat.le_of_ble_eq_true rfl) rfl rfl (by decide) (by decide) ?_
      intro v15 h16 sh16 q17
      obtain ⟨rfl, ee⟩ := q17
      obtain rfl := ee.symm
      refine ⟨_, fun _ hx => Or.inl hx, ?_⟩
      show oGo l Z a0 EL True pP eE sS mM _ bB tT cC _ _ _ _ _ _ _ _ [a8] h7 13 31 87 #[.val (.int i0), .val (.int i1), .val (.int i2), .val (.int i3), .val (.int (0 : Int32)), .val (.int (0 : Int32)), .val (.int p0), .val (.int p1), .val (.int r0), .val (.int r1), .val (.ref p), .val (.ref r), .unset, .unset, .unset] [.ref es, .ref r, .ref p, .ref a8, .ref a8]
      refine oGo.old (fun hO18 hO18' => ?_)
      have f19 := Exa.ext hO18 Ee
      have lf19 := own_ltN Ee.lt
      have f20 := Exa.keep Sp.1 K2
      have f21 := Exa.ext E9 f20
      have f22 := Exa.ext E9 Sr.1
      refine oGo.invokespecial (pc' := 90) (k' := 17) (n' := 67) (a := a8) (argsL := [.ref p, .ref r, .ref es]) (rest := [.ref a8]) at_87 rfl rfl (w47 hG) (w48 hG) (w40 hG) (w49 hG) (by decide) pd32 rfl rfl rfl (c_jq hG a8 p r es _ X10 f21 f22 f19 f12 f13 f14) (by simp) (by decide) (Nat.le_of_ble_eq_true rfl) rfl rfl (by decide) (by decide) ?_
      intro v23 h24 sh24 q25
      obtain ⟨rfl, KB, EB, G1, G2⟩ := q25
      refine ⟨_, fun _ hx => Or.inl hx, ?_⟩
      show oGo l Z a0 EL True pP eE sS mM _ bB tT cC _ _ _ _ _ _ _ _ [a8] h24 17 67 90 #[.val (.int i0), .val (.int i1), .val (.int i2), .val (.int i3), .val (.int (0 : Int32)), .val (.int (0 : Int32)), .val (.int p0), .val (.int p1), .val (.int r0), .val (.int r1), .val (.ref p), .val (.ref r), .unset, .unset, .unset] [.ref a8]
      refine oGo.astore (pc' := 92) (Ls' := #[.val (.int i0), .val (.int i1), .val (.int i2), .val (.int i3), .val (.int (0 : Int32)), .val (.int (0 : Int32)), .val (.int p0), .val (.int p1), .val (.int r0), .val (.int r1), .val (.ref p), .val (.ref r), .val (.ref a8), .unset, .unset]) at_90 rfl rfl rfl ?_
      refine oGo.aload (pc' := 94) at_92 rfl rfl rfl ?_
      have f26 := Sp.keep K2 nin0 nin0
      have f27 := f26.ext E9
      have g29 := own_lt_le (x := p) lp K2.1
      have g30 := own_lt_le (x := tp) ltp K2.1
      have f28 := f27.keep KB (own_nin1 (own_ne_ge (x := p) (y := a8) g29 (own_ge_eq qa8))) (own_nin1 (own_ne_ge (x := tp) (y := a8) g30 (own_ge_eq qa8)))
      have f31 := Sr.ext E9
      have f32 := f31.keep KB (own_nin1 (own_ne_ge (x := r) (y := a8) lr (own_ge_eq qa8))) (own_nin1 (own_ne_ge (x := tr) (y := a8) ltr (own_ge_eq qa8)))
      refine oGo.invokevirtual (pc' := 97) (k' := 37) (n' := 1067) (a := a8) (argsL := []) (rest := []) at_94 rfl (w71 hG) (w72 hG) (w74 hG) (w74 hG) rfl (w73 hG) (w40 hG) (w75 hG) (by decide) pd28 rfl rfl rfl EB (c_ts00 hG a8 p tp r tr _ G1 G2 f28 f32) (by simp) (by decide) (Nat.le_of_ble_eq_true rfl) rfl rfl (by decide) (by decide) ?_
      intro v33 h34 sh34 q35
      obtain ⟨KT, y, ty, rfl, gy, gty, Sy⟩ := q35
      refine ⟨_, fun _ hx => Or.inl hx, ?_⟩
      show oGo l Z a0 EL True pP eE sS mM _ bB tT cC _ _ _ _ _ _ _ _ [a8] h34 37 1067 97 #[.val (.int i0), .val (.int i1), .val (.int i2), .val (.int i3), .val (.int (0 : Int32)), .val (.int (0 : Int32)), .val (.int p0), .val (.int p1), .val (.int r0), .val (.int r1), .val (.ref p), .val (.ref r), .val (.ref a8), .unset, .unset] [.ref y]
      refine oGo.astore (pc' := 99) (Ls' := #[.val (.int i0), .val (.int i1), .val (.int i2), .val (.int i3), .val (.int (0 : Int32)), .val (.int (0 : Int32)), .val (.int p0), .val (.int p1), .val (.int r0), .val (.int r1), .val (.ref p), .val (.ref r), .val (.ref a8), .val (.ref y), .unset]) at_97 rfl rfl rfl ?_
      refine oGo.aload (pc' := 101) at_99 rfl rfl rfl ?_
      refine oGo.ifnull_n (pc1 := 104) at_101 rfl ?_
      refine oGo.aload (pc' := 106) at_104 rfl rfl rfl ?_
      refine oGo.invokevirtual (pc' := 109) (k' := 37) (n' := 1067) (a := y) (argsL := []) (rest := []) at_106 rfl (w206 hG) (w106 hG) (w108 hG) (w108 hG) rfl (w107 hG) (w7 hG) (w109 hG) (by decide) pd14 rfl rfl rfl Sy.1 (c_length hG y ty [74, 117, 100, 103, 101, 100, 81, 117, 101, 114, 121, 91, 105, 100, 61, 44, 32, 119, 111, 114, 100, 115, 61, 93] _ Sy) (by simp) (by decide) (Nat.le_of_ble_eq_true rfl) rfl rfl (by decide) (by decide) ?_
      intro v36 h37 sh37 q38
      obtain ⟨rfl, ee⟩ := q38
      obtain rfl := ee.symm
      refine ⟨_, fun _ hx => Or.inl hx, ?_⟩
      show oGo l Z a0 EL True pP eE sS mM _ bB tT cC _ _ _ _ _ _ _ _ [a8] h34 37 1067 109 #[.val (.int i0), .val (.int i1), .val (.int i2), .val (.int i3), .val (.int (0 : Int32)), .val (.int (0 : Int32)), .val (.int p0), .val (.int p1), .val (.int r0), .val (.int r1), .val (.ref p), .val (.ref r), .val (.ref a8), .val (.ref y), .unset] [.int (24 : Int32)]
      refine oGo.bipush (pc' := 111) (v := 24) at_109 rfl (by decide) ?_
      refine oGo.iload (pc' := 113) at_111 rfl rfl ?_
      refine oGo.iadd (pc' := 114) at_113 rfl ?_
      rw [show (24 : Int32) + (0 : Int32) = (24 : Int32) from by decide]
      refine oGo.iload (pc' := 116) at_114 rfl rfl ?_
      refine oGo.iadd (pc' := 117) at_116 rfl ?_
      rw [show (24 : Int32) + (0 : Int32) = (24 : Int32) from by decide]
      refine oGo.icmp_eq (pc1 := 120) (pc2 := 122) at_117 rfl (by decide) (fun q39 => ?_) (fun q => by first | exact absurd q (by decide) | exact absurd (by decide) q)
      refine oGo.aload (pc' := 124) at_122 rfl rfl rfl ?_
      refine oGo.iconst (pc' := 125) (v := 0) at_124 rfl (by decide) ?_
      refine oGo.ldc_str (pc' := 127) (k' := 39) (n' := 1103) (vs := oI (([74, 117, 100, 103, 101, 100, 81, 117] : List Int32).map lo8)) at_125 rfl trivial (w207 hG) (strAt hG) (hG.2.2.2 _ (by decide)) (by decide) (by decide) rfl rfl (by decide) (by decide) ?_
      intro h40 a41 b42 E43 Xa41 Ca41 Va41 Ba41 la41 lb42 na41
      have S44 : oS Z h40 a41 b42 [74, 117, 100, 103, 101, 100, 81, 117] := ⟨Xa41, Va41, Ca41, Ba41, by decide⟩
      have f45 := Sy.ext E43
      refine oGo.invokestatic (pc' := 130) (k' := 39) (n' := 1103) (argsL := [.ref y, .int (0 : Int32), .ref a41]) (rest := []) at_127 rfl (w208 hG) (w209 hG) (w3 hG) (w210 hG) (by decide) pd33 rfl rfl rfl (c_eq8 hG y ty a41 b42 [74, 117, 100, 103, 101, 100, 81, 117, 101, 114, 121, 91, 105, 100, 61, 44, 32, 119, 111, 114, 100, 115, 61, 93] [74, 117, 100, 103, 101, 100, 81, 117] 0 (fun j hj => own_eq8 [74, 117, 100, 103, 101, 100, 81, 117, 101, 114, 121, 91, 105, 100, 61, 44, 32, 119, 111, 114, 100, 115, 61, 93] [74, 117, 100, 103, 101, 100, 81, 117] 0 ⟨rfl, rfl⟩ j hj) _ f45 S44) (by simp) (by decide) (Nat.le_of_ble_eq_true rfl) rfl rfl (by decide) (by decide) ?_
      intro v46 h47 sh47 q48
      obtain ⟨rfl, ee⟩ := q48
      obtain rfl := ee.symm
      refine ⟨_, fun _ hx => Or.inl hx, ?_⟩
      show oGo l Z a0 EL True pP eE sS mM _ bB tT cC _ _ _ _ _ _ _ _ [a8] h40 39 1103 130 #[.val (.int i0), .val (.int i1), .val (.int i2), .val (.int i3), .val (.int (0 : Int32)), .val (.int (0 : Int32)), .val (.int p0), .val (.int p1), .val (.int r0), .val (.int r1), .val (.ref p), .val (.ref r), .val (.ref a8), .val (.ref y), .unset] [.int (1 : Int32)]
      refine oGo.if_eq (pc1 := 133) (pc2 := 145) at_130 rfl (by decide) (fun q => by first | exact absurd q (by decide) | exact absurd (by decide) q) (fun q49 => ?_)
      refine oGo.aload (pc' := 135) at_133 rfl rfl rfl ?_
      refine oGo.bipush (pc' := 137) (v := 7) at_135 rfl (by decide) ?_
      refine oGo.ldc_str (pc' := 139) (k' := 41) (n' := 1139) (vs := oI (([117, 101, 114, 121, 91, 105, 100, 61] : List Int32).map lo8)) at_137 rfl trivial (w233 hG) (strAt hG) (hG.2.2.2 _ (by decide)) (by decide) (by decide) rfl rfl (by decide) (by decide) ?_
      intro h50 a51 b52 E53 Xa51 Ca51 Va51 Ba51 la51 lb52 na51
      have S54 : oS Z h50 a51 b52 [117, 101, 114, 121, 91, 105, 100, 61] := ⟨Xa51, Va51, Ca51, Ba51, by decide⟩
      have f55 := f45.ext E53
      refine oGo.invokestatic (pc' := 142) (k' := 41) (n' := 1139) (argsL := [.ref y, .int (7 : Int32), .ref a51]) (rest := []) at_139 rfl (w208 hG) (w209 hG) (w3 hG) (w210 hG) (by decide) pd33 rfl rfl rfl (c_eq8 hG y ty a51 b52 [74, 117, 100, 103, 101, 100, 81, 117, 101, 114, 121, 91, 105, 100, 61, 44, 32, 119, 111, 114, 100, 115, 61, 93] [117, 101, 114, 121, 91, 105, 100, 61] 7 (fun j hj => own_eq8 [74, 117, 100, 103, 101, 100, 81, 117, 101, 114, 121, 91, 105, 100, 61, 44, 32, 119, 111, 114, 100, 115, 61, 93] [117, 101, 114, 121, 91, 105, 100, 61] 7 ⟨rfl, rfl⟩ j hj) _ f55 S54) (by simp) (by decide) (Nat.le_of_ble_eq_true rfl) rfl rfl (by decide) (by decide) ?_
      intro v56 h57 sh57 q58
      obtain ⟨rfl, ee⟩ := q58
      obtain rfl := ee.symm
      refine ⟨_, fun _ hx => Or.inl hx, ?_⟩
      show oGo l Z a0 EL True pP eE sS mM _ bB tT cC _ _ _ _ _ _ _ _ [a8] h50 41 1139 142 #[.val (.int i0), .val (.int i1), .val (.int i2), .val (.int i3), .val (.int (0 : Int32)), .val (.int (0 : Int32)), .val (.int p0), .val (.int p1), .val (.int r0), .val (.int r1), .val (.ref p), .val (.ref r), .val (.ref a8), .val (.ref y), .unset] [.int (1 : Int32)]
      refine oGo.if_ne (pc1 := 145) (pc2 := 147) at_142 rfl (by decide) (fun q59 => ?_) (fun q => by first | exact absurd q (by decide) | exact absurd (by decide) q)
      refine oGo.iload (pc' := 149) at_147 rfl rfl ?_
      refine oGo.iconst (pc' := 150) (v := 1) at_149 rfl (by decide) ?_
      refine oGo.icmp_lt (pc1 := 153) (pc2 := 167) at_150 rfl (by decide) (fun q60 => ?_) (fun q => by first | exact absurd q (by decide) | exact absurd (by decide) q)
      refine oGo.iload (pc' := 169) at_167 rfl rfl ?_
      refine oGo.iconst (pc' := 170) (v := 2) at_169 rfl (by decide) ?_
      refine oGo.icmp_lt (pc1 := 173) (pc2 := 187) at_170 rfl (by decide) (fun q61 => ?_) (fun q => by first | exact absurd q (by decide) | exact absurd (by decide) q)
      refine oGo.aload (pc' := 189) at_187 rfl rfl rfl ?_
      refine oGo.bipush (pc' := 191) (v := 15) at_189 rfl (by decide) ?_
      refine oGo.iload (pc' := 193) at_191 rfl rfl ?_
      refine oGo.iadd (pc' := 194) at_193 rfl ?_
      rw [show (15 : Int32) + (0 : Int32) = (15 : Int32) from by decide]
      refine oGo.ldc_str (pc' := 196) (k' := 43) (n' := 1175) (vs := oI (([44, 32, 119, 111, 114, 100, 115, 61] : List Int32).map lo8)) at_194 rfl trivial (w234 hG) (strAt hG) (hG.2.2.2 _ (by decide)) (by decide) (by decide) rfl rfl (by decide) (by decide) ?_
      intro h62 a63 b64 E65 Xa63 Ca63 Va63 Ba63 la63 lb64 na63
      have S66 : oS Z h62 a63 b64 [44, 32, 119, 111, 114, 100, 115, 61] := ⟨Xa63, Va63, Ca63, Ba63, by decide⟩
      have f67 := f55.ext E65
      refine oGo.invokestatic (pc' := 199) (k' := 43) (n' := 1175) (argsL := [.ref y, .int (15 : Int32), .ref a63]) (rest := []) at_196 rfl (w208 hG) (w209 hG) (w3 hG) (w210 hG) (by decide) pd33 rfl rfl rfl (c_eq8 hG y ty a63 b64 [74, 117, 100, 103, 101, 100, 81, 117, 101, 114, 121, 91, 105, 100, 61, 44, 32, 119, 111, 114, 100, 115, 61, 93] [44, 32, 119, 111, 114, 100, 115, 61] 15 (fun j hj => own_eq8 [74, 117, 100, 103, 101, 100, 81, 117, 101, 114, 121, 91, 105, 100, 61, 44, 32, 119, 111, 114, 100, 115, 61, 93] [44, 32, 119, 111, 114, 100, 115, 61] 15 ⟨rfl, rfl⟩ j hj) _ f67 S66) (by simp) (by decide) (Nat.le_of_ble_eq_true rfl) rfl rfl (by decide) (by decide) ?_
      intro v68 h69 sh69 q70
      obtain ⟨rfl, ee⟩ := q70
      obtain rfl := ee.symm
      refine ⟨_, fun _ hx => Or.inl hx, ?_⟩
      show oGo l Z a0 EL True pP eE sS mM _ bB tT cC _ _ _ _ _ _ _ _ [a8] h62 43 1175 199 #[.val (.int i0), .val (.int i1), .val (.int i2), .val (.int i3), .val (.int (0 : Int32)), .val (.int (0 : Int32)), .val (.int p0), .val (.int p1), .val (.int r0), .val (.int r1), .val (.ref p), .val (.ref r), .val (.ref a8), .val (.ref y), .unset] [.int (1 : Int32)]
      refine oGo.if_ne (pc1 := 202) (pc2 := 204) at_199 rfl (by decide) (fun q71 => ?_) (fun q => by first | exact absurd q (by decide) | exact absurd (by decide) q)
      refine oGo.bipush (pc' := 206) (v := 23) at_204 rfl (by decide) ?_
      refine oGo.iload (pc' := 208) at_206 rfl rfl ?_
      refine oGo.iadd (pc' := 209) at_208 rfl ?_
      rw [show (23 : Int32) + (0 : Int32) = (23 : Int32) from by decide]
      refine oGo.istore (pc' := 211) (Ls' := #[.val (.int i0), .val (.int i1), .val (.int i2), .val (.int i3), .val (.int (0 : Int32)), .val (.int (0 : Int32)), .val (.int p0), .val (.int p1), .val (.int r0), .val (.int r1), .val (.ref p), .val (.ref r), .val (.ref a8), .val (.ref y), .val (.int (23 : Int32))]) at_209 rfl rfl ?_
      refine oGo.iload (pc' := 213) at_211 rfl rfl ?_
      refine oGo.iconst (pc' := 214) (v := 1) at_213 rfl (by decide) ?_
      refine oGo.icmp_lt (pc1 := 217) (pc2 := 231) at_214 rfl (by decide) (fun q72 => ?_) (fun q => by first | exact absurd q (by decide) | exact absurd (by decide) q)
      refine oGo.iload (pc' := 233) at_231 rfl rfl ?_
      refine oGo.iconst (pc' := 234) (v := 2) at_233 rfl (by decide) ?_
      refine oGo.icmp_lt (pc1 := 237) (pc2 := 253) at_234 rfl (by decide) (fun q73 => ?_) (fun q => by first | exact absurd q (by decide) | exact absurd (by decide) q)
      refine oGo.aload (pc' := 255) at_253 rfl rfl rfl ?_
      refine oGo.iload (pc' := 257) at_255 rfl rfl ?_
      refine oGo.iload (pc' := 259) at_257 rfl rfl ?_
      refine oGo.iadd (pc' := 260) at_259 rfl ?_
      rw [show (23 : Int32) + (0 : Int32) = (23 : Int32) from by decide]
      have f77 := Exa.ext E43 Sy.1
      have f78 := Exa.ext E53 f77
      have f79 := Exa.ext E65 f78
      refine oGo.invokevirtual (pc' := 263) (k' := 43) (n' := 1175) (a := y) (argsL := [.int (23 : Int32)]) (rest := []) at_260 rfl (w211 hG) (w212 hG) (w214 hG) (w214 hG) rfl (w213 hG) (w7 hG) (w215 hG) (by decide) pd29 rfl rfl rfl f79 (c_charAt hG y ty [74, 117, 100, 103, 101, 100, 81, 117, 101, 114, 121, 91, 105, 100, 61, 44, 32, 119, 111, 114, 100, 115, 61, 93] 23 93 rfl _ f67) (by simp) (by decide) (Nat.le_of_ble_eq_true rfl) rfl rfl (by decide) (by decide) ?_
      intro v74 h75 sh75 q76
      obtain ⟨rfl, ee⟩ := q76
      obtain rfl := ee.symm
      refine ⟨_, fun _ hx => Or.inl hx, ?_⟩
      show oGo l Z a0 EL True pP eE sS mM _ bB tT cC _ _ _ _ _ _ _ _ [a8] h62 43 1175 263 #[.val (.int i0), .val (.int i1), .val (.int i2), .val (.int i3), .val (.int (0 : Int32)), .val (.int (0 : Int32)), .val (.int p0), .val (.int p1), .val (.int r0), .val (.int r1), .val (.ref p), .val (.ref r), .val (.ref a8), .val (.ref y), .val (.int (23 : Int32))] [.int (93 : Int32)]
      refine oGo.bipush (pc' := 265) (v := 93) at_263 rfl (by decide) ?_
      refine oGo.icmp_ne (pc1 := 268) (pc2 := 272) at_265 rfl (by decide) (fun q => absurd rfl q) (fun q80 => ?_)
      refine oGo.iconst (pc' := 269) (v := 1) at_268 rfl (by decide) ?_
      refine oGo.goto (pc' := 273) at_269 (by decide) ?_
      exact oGo.nreturn at_273 rfl (by simp) rfl (by decide) (by decide) rfl (fun _ q => q.elim)
    · show oGo l Z a0 EL True pP eE sS mM _ bB tT cC _ _ _ _ _ _ _ _ [] h2 6 14 63 #[.val (.int i0), .val (.int i1), .val (.int i2), .val (.int i3), .val (.int (0 : Int32)), .val (.int (1 : Int32)), .val (.int p0), .val (.int p1), .val (.int r0), .val (.int r1), .unset, .unset, .unset, .unset, .unset] [.ref p]
      refine oGo.astore (pc' := 65) (Ls' := #[.val (.int i0), .val (.int i1), .val (.int i2), .val (.int i3), .val (.int (0 : Int32)), .val (.int (1 : Int32)), .val (.int p0), .val (.int p1), .val (.int r0), .val (.int r1), .val (.ref p), .unset, .unset, .unset, .unset]) at_63 rfl rfl rfl ?_
      refine oGo.iload (pc' := 67) at_65 rfl rfl ?_
      refine oGo.iload (pc' := 69) at_67 rfl rfl ?_
      refine oGo.iload (pc' := 71) at_69 rfl rfl ?_
      refine oGo.invokestatic (pc' := 74) (k' := 12) (n' := 28) (argsL := [.int (1 : Int32), .int r0, .int r1]) (rest := []) at_71 rfl (w1 hG) (w2 hG) (w3 hG) (w4 hG) (by decide) pd30 rfl rfl rfl (c_mk1 hG r0 r1 br0 br1 _) (by simp) (by decide) (Nat.le_of_ble_eq_true rfl) rfl rfl (by decide) (by decide) ?_
      intro v81 h82 sh82 q83
      obtain ⟨K2, r, tr, rfl, Sr⟩ := q83
      have lr := own_ltN Sr.1.lt
      have ltr := own_ltN Sr.2.2.2.1.lt
      refine ⟨_, fun _ hx => Or.inl hx, ?_⟩
      show oGo l Z a0 EL True pP eE sS mM _ bB tT cC _ _ _ _ _ _ _ _ [] h82 12 28 74 #[.val (.int i0), .val (.int i1), .val (.int i2), .val (.int i3), .val (.int (0 : Int32)), .val (.int (1 : Int32)), .val (.int p0), .val (.int p1), .val (.int r0), .val (.int r1), .val (.ref p), .unset, .unset, .unset, .unset] [.ref r]
      refine oGo.astore (pc' := 76) (Ls' := #[.val (.int i0), .val (.int i1), .val (.int i2), .val (.int i3), .val (.int (0 : Int32)), .val (.int (1 : Int32)), .val (.int p0), .val (.int p1), .val (.int r0), .val (.int r1), .val (.ref p), .val (.ref r), .unset, .unset, .unset]) at_74 rfl rfl rfl ?_
      refine oGo.new (pc' := 79) (k' := 13) (n' := 31) at_76 rfl (w38 hG) (w39 hG) (w40 hG) rfl rfl (by decide) (by decide) ?_
      intro h84 a85 qa85 la85 E86 X87 F88
      have f89 := F88 (Or.inr (w58 hG)) (ty := (.object "java/lang/String")) (by decide)
      have f90 := F88 (Or.inr (w61 hG)) (ty := (.object "java/lang/String")) (by decide)
      have f91 := F88 (Or.inr (w70 hG)) (ty := (.object "java/util/Set")) (by decide)
      refine oGo.dup (pc' := 80) at_79 rfl rfl ?_
      refine oGo.aload (pc' := 82) at_80 rfl rfl rfl ?_
      refine oGo.aload (pc' := 84) at_82 rfl rfl rfl ?_
      refine oGo.invokestatic (pc' := 87) (k' := 13) (n' := 31) (argsL := []) (rest := [.ref r, .ref p, .ref a85, .ref a85]) at_84 rfl (w41 hG) (w42 hG) (w43 hG) (w44 hG) (by decide) pd31 rfl rfl rfl (c_setOf hG es _ Se) (by simp) (by decide) (Nat.le_of_ble_eq_true rfl) rfl rfl (by decide) (by decide) ?_
      intro v92 h93 sh93 q94
      obtain ⟨rfl, ee⟩ := q94
      obtain rfl := ee.symm
      refine ⟨_, fun _ hx => Or.inl hx, ?_⟩
      show oGo l Z a0 EL True pP eE sS mM _ bB tT cC _ _ _ _ _ _ _ _ [a85] h84 13 31 87 #[.val (.int i0), .val (.int i1), .val (.int i2), .val (.int i3), .val (.int (0 : Int32)), .val (.int (1 : Int32)), .val (.int p0), .val (.int p1), .val (.int r0), .val (.int r1), .val (.ref p), .val (.ref r), .unset, .unset, .unset] [.ref es, .ref r, .ref p, .ref a85, .ref a85]
      refine oGo.old (fun hO95 hO95' => ?_)
      have f96 := Exa.ext hO95 Ee
      have lf96 := own_ltN Ee.lt
      have f97 := Exa.keep Sp.1 K2
      have f98 := Exa.ext E86 f97
      have f99 := Exa.ext E86 Sr.1
      refine oGo.invokespecial (pc' := 90) (k' := 17) (n' := 67) (a := a85) (argsL := [.ref p, .ref r, .ref es]) (rest := [.ref a85]) at_87 rfl rfl (w47 hG) (w48 hG) (w40 hG) (w49 hG) (by decide) pd32 rfl rfl rfl (c_jq hG a85 p r es _ X87 f98 f99 f96 f89 f90 f91) (by simp) (by decide) (Nat.le_of_ble_eq_true rfl) rfl rfl (by decide) (by decide) ?_
      intro v100 h101 sh101 q102
      obtain ⟨rfl, KB, EB, G1, G2⟩ := q102
      refine ⟨_, fun _ hx => Or.inl hx, ?_⟩
      show oGo l Z a0 EL True pP eE sS mM _ bB tT cC _ _ _ _ _ _ _ _ [a85] h101 17 67 90 #[.val (.int i0), .val (.int i1), .val (.int i2), .val (.int i3), .val (.int (0 : Int32)), .val (.int (1 : Int32)), .val (.int p0), .val (.int p1), .val (.int r0), .val (.int r1), .val (.ref p), .val (.ref r), .unset, .unset, .unset] [.ref a85]
      refine oGo.astore (pc' := 92) (Ls' := #[.val (.int i0), .val (.int i1), .val (.int i2), .val (.int i3), .val (.int (0 : Int32)), .val (.int (1 : Int32)), .val (.int p0), .val (.int p1), .val (.int r0), .val (.int r1), .val (.ref p), .val (.ref r), .val (.ref a85), .unset, .unset]) at_90 rfl rfl rfl ?_
      refine oGo.aload (pc' := 94) at_92 rfl rfl rfl ?_
      have f103 := Sp.keep K2 nin0 nin0
      have f104 := f103.ext E86
      have g106 := own_lt_le (x := p) lp K2.1
      have g107 := own_lt_le (x := tp) ltp K2.1
      have f105 := f104.keep KB (own_nin1 (own_ne_ge (x := p) (y := a85) g106 (own_ge_eq qa85))) (own_nin1 (own_ne_ge (x := tp) (y := a85) g107 (own_ge_eq qa85)))
      have f108 := Sr.ext E86
      have f109 := f108.keep KB (own_nin1 (own_ne_ge (x := r) (y := a85) lr (own_ge_eq qa85))) (own_nin1 (own_ne_ge (x := tr) (y := a85) ltr (own_ge_eq qa85)))
      refine oGo.invokevirtual (pc' := 97) (k' := 37) (n' := 1067) (a := a85) (argsL := []) (rest := []) at_94 rfl (w71 hG) (w72 hG) (w74 hG) (w74 hG) rfl (w73 hG) (w40 hG) (w75 hG) (by decide) pd28 rfl rfl rfl EB (c_ts01 hG a85 p tp r tr r0 br0 _ G1 G2 f105 f109) (by simp) (by decide) (Nat.le_of_ble_eq_true rfl) rfl rfl (by decide) (by decide) ?_
      intro v110 h111 sh111 q112
      obtain ⟨KT, y, ty, rfl, gy, gty, Sy⟩ := q112
      refine ⟨_, fun _ hx => Or.inl hx, ?_⟩
      show oGo l Z a0 EL True pP eE sS mM _ bB tT cC _ _ _ _ _ _ _ _ [a85] h111 37 1067 97 #[.val (.int i0), .val (.int i1), .val (.int i2), .val (.int i3), .val (.int (0 : Int32)), .val (.int (1 : Int32)), .val (.int p0), .val (.int p1), .val (.int r0), .val (.int r1), .val (.ref p), .val (.ref r), .val (.ref a85), .unset, .unset] [.ref y]
      refine oGo.astore (pc' := 99) (Ls' := #[.val (.int i0), .val (.int i1), .val (.int i2), .val (.int i3), .val (.int (0 : Int32)), .val (.int (1 : Int32)), .val (.int p0), .val (.int p1), .val (.int r0), .val (.int r1), .val (.ref p), .val (.ref r), .val (.ref a85), .val (.ref y), .unset]) at_97 rfl rfl rfl ?_
      refine oGo.aload (pc' := 101) at_99 rfl rfl rfl ?_
      refine oGo.ifnull_n (pc1 := 104) at_101 rfl ?_
      refine oGo.aload (pc' := 106) at_104 rfl rfl rfl ?_
      refine oGo.invokevirtual (pc' := 109) (k' := 37) (n' := 1067) (a := y) (argsL := []) (rest := []) at_106 rfl (w206 hG) (w106 hG) (w108 hG) (w108 hG) rfl (w107 hG) (w7 hG) (w109 hG) (by decide) pd14 rfl rfl rfl Sy.1 (c_length hG y ty [74, 117, 100, 103, 101, 100, 81, 117, 101, 114, 121, 91, 105, 100, 61, 44, 32, 119, 111, 114, 100, 115, 61, r0, 93] _ Sy) (by simp) (by decide) (Nat.le_of_ble_eq_true rfl) rfl rfl (by decide) (by decide) ?_
      intro v113 h114 sh114 q115
      obtain ⟨rfl, ee⟩ := q115
      obtain rfl := ee.symm
      refine ⟨_, fun _ hx => Or.inl hx, ?_⟩
      show oGo l Z a0 EL True pP eE sS mM _ bB tT cC _ _ _ _ _ _ _ _ [a85] h111 37 1067 109 #[.val (.int i0), .val (.int i1), .val (.int i2), .val (.int i3), .val (.int (0 : Int32)), .val (.int (1 : Int32)), .val (.int p0), .val (.int p1), .val (.int r0), .val (.int r1), .val (.ref p), .val (.ref r), .val (.ref a85), .val (.ref y), .unset] [.int (25 : Int32)]
      refine oGo.bipush (pc' := 111) (v := 24) at_109 rfl (by decide) ?_
      refine oGo.iload (pc' := 113) at_111 rfl rfl ?_
      refine oGo.iadd (pc' := 114) at_113 rfl ?_
      rw [show (24 : Int32) + (0 : Int32) = (24 : Int32) from by decide]
      refine oGo.iload (pc' := 116) at_114 rfl rfl ?_
      refine oGo.iadd (pc' := 117) at_116 rfl ?_
      rw [show (24 : Int32) + (1 : Int32) = (25 : Int32) from by decide]
      refine oGo.icmp_eq (pc1 := 120) (pc2 := 122) at_117 rfl (by decide) (fun q116 => ?_) (fun q => by first | exact absurd q (by decide) | exact absurd (by decide) q)
      refine oGo.aload (pc' := 124) at_122 rfl rfl rfl ?_
      refine oGo.iconst (pc' := 125) (v := 0) at_124 rfl (by decide) ?_
      refine oGo.ldc_str (pc' := 127) (k' := 39) (n' := 1103) (vs := oI (([74, 117, 100, 103, 101, 100, 81, 117] : List Int32).map lo8)) at_125 rfl trivial (w207 hG) (strAt hG) (hG.2.2.2 _ (by decide)) (by decide) (by decide) rfl rfl (by decide) (by decide) ?_
      intro h117 a118 b119 E120 Xa118 Ca118 Va118 Ba118 la118 lb119 na118
      have S121 : oS Z h117 a118 b119 [74, 117, 100, 103, 101, 100, 81, 117] := ⟨Xa118, Va118, Ca118, Ba118, by decide⟩
      have f122 := Sy.ext E120
      refine oGo.invokestatic (pc' := 130) (k' := 39) (n' := 1103) (argsL := [.ref y, .int (0 : Int32), .ref a118]) (rest := []) at_127 rfl (w208 hG) (w209 hG) (w3 hG) (w210 hG) (by decide) pd33 rfl rfl rfl (c_eq8 hG y ty a118 b119 [74, 117, 100, 103, 101, 100, 81, 117, 101, 114, 121, 91, 105, 100, 61, 44, 32, 119, 111, 114, 100, 115, 61, r0, 93] [74, 117, 100, 103, 101, 100, 81, 117] 0 (fun j hj => own_eq8 [74, 117, 100, 103, 101, 100, 81, 117, 101, 114, 121, 91, 105, 100, 61, 44, 32, 119, 111, 114, 100, 115, 61, r0, 93] [74, 117, 100, 103, 101, 100, 81, 117] 0 ⟨rfl, rfl⟩ j hj) _ f122 S121) (by simp) (by decide) (Nat.le_of_ble_eq_true rfl) rfl rfl (by decide) (by decide) ?_
      intro v123 h124 sh124 q125
      obtain ⟨rfl, ee⟩ := q125
      obtain rfl := ee.symm
      refine ⟨_, fun _ hx => Or.inl hx, ?_⟩
      show oGo l Z a0 EL True pP eE sS mM _ bB tT cC _ _ _ _ _ _ _ _ [a85] h117 39 1103 130 #[.val (.int i0), .val (.int i1), .val (.int i2), .val (.int i3), .val (.int (0 : Int32)), .val (.int (1 : Int32)), .val (.int p0), .val (.int p1), .val (.int r0), .val (.int r1), .val (.ref p), .val (.ref r), .val (.ref a85), .val (.ref y), .unset] [.int (1 : Int32)]
      refine oGo.if_eq (pc1 := 133) (pc2 := 145) at_130 rfl (by decide) (fun q => by first | exact absurd q (by decide) | exact absurd (by decide) q) (fun q126 => ?_)
      refine oGo.aload (pc' := 135) at_133 rfl rfl rfl ?_
      refine oGo.bipush (pc' := 137) (v := 7) at_135 rfl (by decide) ?_
      refine oGo.ldc_str (pc' := 139) (k' := 41) (n' := 1139) (vs := oI (([117, 101, 114, 121, 91, 105, 100, 61] : List Int32).map lo8)) at_137 rfl trivial (w233 hG) (strAt hG) (hG.2.2.2 _ (by decide)) (by decide) (by decide) rfl rfl (by decide) (by decide) ?_
      intro h127 a128 b129 E130 Xa128 Ca128 Va128 Ba128 la128 lb129 na128
      have S131 : oS Z h127 a128 b129 [117, 101, 114, 121, 91, 105, 100, 61] := ⟨Xa128, Va128, Ca128, Ba128, by decide⟩
      have f132 := f122.ext E130
      refine oGo.invokestatic (pc' := 142) (k' := 41) (n' := 1139) (argsL := [.ref y, .int (7 : Int32), .ref a128]) (rest := []) at_139 rfl (w208 hG) (w209 hG) (w3 hG) (w210 hG) (by decide) pd33 rfl rfl rfl (c_eq8 hG y ty a128 b129 [74, 117, 100, 103, 101, 100, 81, 117, 101, 114, 121, 91, 105, 100, 61, 44, 32, 119, 111, 114, 100, 115, 61, r0, 93] [117, 101, 114, 121, 91, 105, 100, 61] 7 (fun j hj => own_eq8 [74, 117, 100, 103, 101, 100, 81, 117, 101, 114, 121, 91, 105, 100, 61, 44, 32, 119, 111, 114, 100, 115, 61, r0, 93] [117, 101, 114, 121, 91, 105, 100, 61] 7 ⟨rfl, rfl⟩ j hj) _ f132 S131) (by simp) (by decide) (Nat.le_of_ble_eq_true rfl) rfl rfl (by decide) (by decide) ?_
      intro v133 h134 sh134 q135
      obtain ⟨rfl, ee⟩ := q135
      obtain rfl := ee.symm
      refine ⟨_, fun _ hx => Or.inl hx, ?_⟩
      show oGo l Z a0 EL True pP eE sS mM _ bB tT cC _ _ _ _ _ _ _ _ [a85] h127 41 1139 142 #[.val (.int i0), .val (.int i1), .val (.int i2), .val (.int i3), .val (.int (0 : Int32)), .val (.int (1 : Int32)), .val (.int p0), .val (.int p1), .val (.int r0), .val (.int r1), .val (.ref p), .val (.ref r), .val (.ref a85), .val (.ref y), .unset] [.int (1 : Int32)]
      refine oGo.if_ne (pc1 := 145) (pc2 := 147) at_142 rfl (by decide) (fun q136 => ?_) (fun q => by first | exact absurd q (by decide) | exact absurd (by decide) q)
      refine oGo.iload (pc' := 149) at_147 rfl rfl ?_
      refine oGo.iconst (pc' := 150) (v := 1) at_149 rfl (by decide) ?_
      refine oGo.icmp_lt (pc1 := 153) (pc2 := 167) at_150 rfl (by decide) (fun q137 => ?_) (fun q => by first | exact absurd q (by decide) | exact absurd (by decide) q)
      refine oGo.iload (pc' := 169) at_167 rfl rfl ?_
      refine oGo.iconst (pc' := 170) (v := 2) at_169 rfl (by decide) ?_
      refine oGo.icmp_lt (pc1 := 173) (pc2 := 187) at_170 rfl (by decide) (fun q138 => ?_) (fun q => by first | exact absurd q (by decide) | exact absurd (by decide) q)
      refine oGo.aload (pc' := 189) at_187 rfl rfl rfl ?_
      refine oGo.bipush (pc' := 191) (v := 15) at_189 rfl (by decide) ?_
      refine oGo.iload (pc' := 193) at_191 rfl rfl ?_
      refine oGo.iadd (pc' := 194) at_193 rfl ?_
      rw [show (15 : Int32) + (0 : Int32) = (15 : Int32) from by decide]
      refine oGo.ldc_str (pc' := 196) (k' := 43) (n' := 1175) (vs := oI (([44, 32, 119, 111, 114, 100, 115, 61] : List Int32).map lo8)) at_194 rfl trivial (w234 hG) (strAt hG) (hG.2.2.2 _ (by decide)) (by decide) (by decide) rfl rfl (by decide) (by decide) ?_
      intro h139 a140 b141 E142 Xa140 Ca140 Va140 Ba140 la140 lb141 na140
      have S143 : oS Z h139 a140 b141 [44, 32, 119, 111, 114, 100, 115, 61] := ⟨Xa140, Va140, Ca140, Ba140, by decide⟩
      have f144 := f132.ext E142
      refine oGo.invokestatic (pc' := 199) (k' := 43) (n' := 1175) (argsL := [.ref y, .int (15 : Int32), .ref a140]) (rest := []) at_196 rfl (w208 hG) (w209 hG) (w3 hG) (w210 hG) (by decide) pd33 rfl rfl rfl (c_eq8 hG y ty a140 b141 [74, 117, 100, 103, 101, 100, 81, 117, 101, 114, 121, 91, 105, 100, 61, 44, 32, 119, 111, 114, 100, 115, 61, r0, 93] [44, 32, 119, 111, 114, 100, 115, 61] 15 (fun j hj => own_eq8 [74, 117, 100, 103, 101, 100, 81, 117, 101, 114, 121, 91, 105, 100, 61, 44, 32, 119, 111, 114, 100, 115, 61, r0, 93] [44, 32, 119, 111, 114, 100, 115, 61] 15 ⟨rfl, rfl⟩ j hj) _ f144 S143) (by simp) (by decide) (Nat.le_of_ble_eq_true rfl) rfl rfl (by decide) (by decide) ?_
      intro v145 h146 sh146 q147
      obtain ⟨rfl, ee⟩ := q147
      obtain rfl := ee.symm
      refine ⟨_, fun _ hx => Or.inl hx, ?_⟩
      show oGo l Z a0 EL True pP eE sS mM _ bB tT cC _ _ _ _ _ _ _ _ [a85] h139 43 1175 199 #[.val (.int i0), .val (.int i1), .val (.int i2), .val (.int i3), .val (.int (0 : Int32)), .val (.int (1 : Int32)), .val (.int p0), .val (.int p1), .val (.int r0), .val (.int r1), .val (.ref p), .val (.ref r), .val (.ref a85), .val (.ref y), .unset] [.int (1 : Int32)]
      refine oGo.if_ne (pc1 := 202) (pc2 := 204) at_199 rfl (by decide) (fun q148 => ?_) (fun q => by first | exact absurd q (by decide) | exact absurd (by decide) q)
      refine oGo.bipush (pc' := 206) (v := 23) at_204 rfl (by decide) ?_
      refine oGo.iload (pc' := 208) at_206 rfl rfl ?_
      refine oGo.iadd (pc' := 209) at_208 rfl ?_
      rw [show (23 : Int32) + (0 : Int32) = (23 : Int32) from by decide]
      refine oGo.istore (pc' := 211) (Ls' := #[.val (.int i0), .val (.int i1), .val (.int i2), .val (.int i3), .val (.int (0 : Int32)), .val (.int (1 : Int32)), .val (.int p0), .val (.int p1), .val (.int r0), .val (.int r1), .val (.ref p), .val (.ref r), .val (.ref a85), .val (.ref y), .val (.int (23 : Int32))]) at_209 rfl rfl ?_
      refine oGo.iload (pc' := 213) at_211 rfl rfl ?_
      refine oGo.iconst (pc' := 214) (v := 1) at_213 rfl (by decide) ?_
      refine oGo.icmp_lt (pc1 := 217) (pc2 := 231) at_214 rfl (by decide) (fun q => by first | exact absurd q (by decide) | exact absurd (by decide) q) (fun q149 => ?_)
      refine oGo.aload (pc' := 219) at_217 rfl rfl rfl ?_
      refine oGo.iload (pc' := 221) at_219 rfl rfl ?_
      have f153 := Exa.ext E120 Sy.1
      have f154 := Exa.ext E130 f153
      have f155 := Exa.ext E142 f154
      refine oGo.invokevirtual (pc' := 224) (k' := 43) (n' := 1175) (a := y) (argsL := [.int (23 : Int32)]) (rest := []) at_221 rfl (w211 hG) (w212 hG) (w214 hG) (w214 hG) rfl (w213 hG) (w7 hG) (w215 hG) (by decide) pd29 rfl rfl rfl f155 (c_charAt hG y ty [74, 117, 100, 103, 101, 100, 81, 117, 101, 114, 121, 91, 105, 100, 61, 44, 32, 119, 111, 114, 100, 115, 61, r0, 93] 23 r0 rfl _ f144) (by simp) (by decide) (Nat.le_of_ble_eq_true rfl) rfl rfl (by decide) (by decide) ?_
      intro v150 h151 sh151 q152
      obtain ⟨rfl, ee⟩ := q152
      obtain rfl := ee.symm
      refine ⟨_, fun _ hx => Or.inl hx, ?_⟩
      show oGo l Z a0 EL True pP eE sS mM _ bB tT cC _ _ _ _ _ _ _ _ [a85] h139 43 1175 224 #[.val (.int i0), .val (.int i1), .val (.int i2), .val (.int i3), .val (.int (0 : Int32)), .val (.int (1 : Int32)), .val (.int p0), .val (.int p1), .val (.int r0), .val (.int r1), .val (.ref p), .val (.ref r), .val (.ref a85), .val (.ref y), .val (.int (23 : Int32))] [.int r0]
      refine oGo.iload (pc' := 226) at_224 rfl rfl ?_
      refine oGo.icmp_eq (pc1 := 229) (pc2 := 231) at_226 rfl (by decide) (fun q156 => ?_) (fun q => absurd rfl q)
      refine oGo.iload (pc' := 233) at_231 rfl rfl ?_
      refine oGo.iconst (pc' := 234) (v := 2) at_233 rfl (by decide) ?_
      refine oGo.icmp_lt (pc1 := 237) (pc2 := 253) at_234 rfl (by decide) (fun q157 => ?_) (fun q => by first | exact absurd q (by decide) | exact absurd (by decide) q)
      refine oGo.aload (pc' := 255) at_253 rfl rfl rfl ?_
      refine oGo.iload (pc' := 257) at_255 rfl rfl ?_
      refine oGo.iload (pc' := 259) at_257 rfl rfl ?_
      refine oGo.iadd (pc' := 260) at_259 rfl ?_
      rw [show (23 : Int32) + (1 : Int32) = (24 : Int32) from by decide]
      refine oGo.invokevirtual (pc' := 263) (k' := 43) (n' := 1175) (a := y) (argsL := [.int (24 : Int32)]) (rest := []) at_260 rfl (w211 hG) (w212 hG) (w214 hG) (w214 hG) rfl (w213 hG) (w7 hG) (w215 hG) (by decide) pd29 rfl rfl rfl f155 (c_charAt hG y ty [74, 117, 100, 103, 101, 100, 81, 117, 101, 114, 121, 91, 105, 100, 61, 44, 32, 119, 111, 114, 100, 115, 61, r0, 93] 24 93 rfl _ f144) (by simp) (by decide) (Nat.le_of_ble_eq_true rfl) rfl rfl (by decide) (by decide) ?_
      intro v158 h159 sh159 q160
      obtain ⟨rfl, ee⟩ := q160
      obtain rfl := ee.symm
      refine ⟨_, fun _ hx => Or.inl hx, ?_⟩
      show oGo l Z a0 EL True pP eE sS mM _ bB tT cC _ _ _ _ _ _ _ _ [a85] h139 43 1175 263 #[.val (.int i0), .val (.int i1), .val (.int i2), .val (.int i3), .val (.int (0 : Int32)), .val (.int (1 : Int32)), .val (.int p0), .val (.int p1), .val (.int r0), .val (.int r1), .val (.ref p), .val (.ref r), .val (.ref a85), .val (.ref y), .val (.int (23 : Int32))] [.int (93 : Int32)]
      refine oGo.bipush (pc' := 265) (v := 93) at_263 rfl (by decide) ?_
      refine oGo.icmp_ne (pc1 := 268) (pc2 := 272) at_265 rfl (by decide) (fun q => absurd rfl q) (fun q161 => ?_)
      refine oGo.iconst (pc' := 269) (v := 1) at_268 rfl (by decide) ?_
      refine oGo.goto (pc' := 273) at_269 (by decide) ?_
      exact oGo.nreturn at_273 rfl (by simp) rfl (by decide) (by decide) rfl (fun _ q => q.elim)
    · show oGo l Z a0 EL True pP eE sS mM _ bB tT cC _ _ _ _ _ _ _ _ [] h2 6 14 63 #[.val (.int i0), .val (.int i1), .val (.int i2), .val (.int i3), .val (.int (0 : Int32)), .val (.int (2 : Int32)), .val (.int p0), .val (.int p1), .val (.int r0), .val (.int r1), .unset, .unset, .unset, .unset, .unset] [.ref p]
      refine oGo.astore (pc' := 65) (Ls' := #[.val (.int i0), .val (.int i1), .val (.int i2), .val (.int i3), .val (.int (0 : Int32)), .val (.int (2 : Int32)), .val (.int p0), .val (.int p1), .val (.int r0), .val (.int r1), .val (.ref p), .unset, .unset, .unset, .unset]) at_63 rfl rfl rfl ?_
      refine oGo.iload (pc' := 67) at_65 rfl rfl ?_
      refine oGo.iload (pc' := 69) at_67 rfl rfl ?_
      refine oGo.iload (pc' := 71) at_69 rfl rfl ?_
      refine oGo.invokestatic (pc' := 74) (k' := 12) (n' := 28) (argsL := [.int (2 : Int32), .int r0, .int r1]) (rest := []) at_71 rfl (w1 hG) (w2 hG) (w3 hG) (w4 hG) (by decide) pd30 rfl rfl rfl (c_mk2 hG r0 r1 br0 br1 _) (by simp) (by decide) (Nat.le_of_ble_eq_true rfl) rfl rfl (by decide) (by decide) ?_
      intro v162 h163 sh163 q164
      obtain ⟨K2, r, tr, rfl, Sr⟩ := q164
      have lr := own_ltN Sr.1.lt
      have ltr := own_ltN Sr.2.2.2.1.lt
      refine ⟨_, fun _ hx => Or.inl hx, ?_⟩
      show oGo l Z a0 EL True pP eE sS mM _ bB tT cC _ _ _ _ _ _ _ _ [] h163 12 28 74 #[.val (.int i0), .val (.int i1), .val (.int i2), .val (.int i3), .val (.int (0 : Int32)), .val (.int (2 : Int32)), .val (.int p0), .val (.int p1), .val (.int r0), .val (.int r1), .val (.ref p), .unset, .unset, .unset, .unset] [.ref r]
      refine oGo.astore (pc' := 76) (Ls' := #[.val (.int i0), .val (.int i1), .val (.int i2), .val (.int i3), .val (.int (0 : Int32)), .val (.int (2 : Int32)), .val (.int p0), .val (.int p1), .val (.int r0), .val (.int r1), .val (.ref p), .val (.ref r), .unset, .unset, .unset]) at_74 rfl rfl rfl ?_
      refine oGo.new (pc' := 79) (k' := 13) (n' := 31) at_76 rfl (w38 hG) (w39 hG) (w40 hG) rfl rfl (by decide) (by decide) ?_
      intro h165 a166 qa166 la166 E167 X168 F169
      have f170 := F169 (Or.inr (w58 hG)) (ty := (.object "java/lang/String")) (by decide)
      have f171 := F169 (Or.inr (w61 hG)) (ty := (.object "java/lang/String")) (by decide)
      have f172 := F169 (Or.inr (w70 hG)) (ty := (.object "java/util/Set")) (by decide)
      refine oGo.dup (pc' := 80) at_79 rfl rfl ?_
      refine oGo.aload (pc' := 82) at_80 rfl rfl rfl ?_
      refine oGo.aload (pc' := 84) at_82 rfl rfl rfl ?_
      refine oGo.invokestatic (pc' := 87) (k' := 13) (n' := 31) (argsL := []) (rest := [.ref r, .ref p, .ref a166, .ref a166]) at_84 rfl (w41 hG) (w42 hG) (w43 hG) (w44 hG) (by decide) pd31 rfl rfl rfl (c_setOf hG es _ Se) (by simp) (by decide) (Nat.le_of_ble_eq_true rfl) rfl rfl (by decide) (by decide) ?_
      intro v173 h174 sh174 q175
      obtain ⟨rfl, ee⟩ := q175
      obtain rfl := ee.symm
      refine ⟨_, fun _ hx => Or.inl hx, ?_⟩
      show oGo l Z a0 EL True pP eE sS mM _ bB tT cC _ _ _ _ _ _ _ _ [a166] h165 13 31 87 #[.val (.int i0), .val (.int i1), .val (.int i2), .val (.int i3), .val (.int (0 : Int32)), .val (.int (2 : Int32)), .val (.int p0), .val (.int p1), .val (.int r0), .val (.int r1), .val (.ref p), .val (.ref r), .unset, .unset, .unset] [.ref es, .ref r, .ref p, .ref a166, .ref a166]
      refine oGo.old (fun hO176 hO176' => ?_)
      have f177 := Exa.ext hO176 Ee
      have lf177 := own_ltN Ee.lt
      have f178 := Exa.keep Sp.1 K2
      have f179 := Exa.ext E167 f178
      have f180 := Exa.ext E167 Sr.1
      refine oGo.invokespecial (pc' := 90) (k' := 17) (n' := 67) (a := a166) (argsL := [.ref p, .ref r, .ref es]) (rest := [.ref a166]) at_87 rfl rfl (w47 hG) (w48 hG) (w40 hG) (w49 hG) (by decide) pd32 rfl rfl rfl (c_jq hG a166 p r es _ X168 f179 f180 f177 f170 f171 f172) (by simp) (by decide) (Nat.le_of_ble_eq_true rfl) rfl rfl (by decide) (by decide) ?_
      intro v181 h182 sh182 q183
      obtain ⟨rfl, KB, EB, G1, G2⟩ := q183
      refine ⟨_, fun _ hx => Or.inl hx, ?_⟩
      show oGo l Z a0 EL True pP eE sS mM _ bB tT cC _ _ _ _ _ _ _ _ [a166] h182 17 67 90 #[.val (.int i0), .val (.int i1), .val (.int i2), .val (.int i3), .val (.int (0 : Int32)), .val (.int (2 : Int32)), .val (.int p0), .val (.int p1), .val (.int r0), .val (.int r1), .val (.ref p), .val (.ref r), .unset, .unset, .unset] [.ref a166]
      refine oGo.astore (pc' := 92) (Ls' := #[.val (.int i0), .val (.int i1), .val (.int i2), .val (.int i3), .val (.int (0 : Int32)), .val (.int (2 : Int32)), .val (.int p0), .val (.int p1), .val (.int r0), .val (.int r1), .val (.ref p), .val (.ref r), .val (.ref a166), .unset, .unset]) at_90 rfl rfl rfl ?_
      refine oGo.aload (pc' := 94) at_92 rfl rfl rfl ?_
      have f184 := Sp.keep K2 nin0 nin0
      have f185 := f184.ext E167
      have g187 := own_lt_le (x := p) lp K2.1
      have g188 := own_lt_le (x := tp) ltp K2.1
      have f186 := f185.keep KB (own_nin1 (own_ne_ge (x := p) (y := a166) g187 (own_ge_eq qa166))) (own_nin1 (own_ne_ge (x := tp) (y := a166) g188 (own_ge_eq qa166)))
      have f189 := Sr.ext E167
      have f190 := f189.keep KB (own_nin1 (own_ne_ge (x := r) (y := a166) lr (own_ge_eq qa166))) (own_nin1 (own_ne_ge (x := tr) (y := a166) ltr (own_ge_eq qa166)))
      refine oGo.invokevirtual (pc' := 97) (k' := 37) (n' := 1067) (a := a166) (argsL := []) (rest := []) at_94 rfl (w71 hG) (w72 hG) (w74 hG) (w74 hG) rfl (w73 hG) (w40 hG) (w75 hG) (by decide) pd28 rfl rfl rfl EB (c_ts02 hG a166 p tp r tr r0 r1 br0 br1 _ G1 G2 f186 f190) (by simp) (by decide) (Nat.le_of_ble_eq_true rfl) rfl rfl (by decide) (by decide) ?_
      intro v191 h192 sh192 q193
      obtain ⟨KT, y, ty, rfl, gy, gty, Sy⟩ := q193
      refine ⟨_, fun _ hx => Or.inl hx, ?_⟩
      show oGo l Z a0 EL True pP eE sS mM _ bB tT cC _ _ _ _ _ _ _ _ [a166] h192 37 1067 97 #[.val (.int i0), .val (.int i1), .val (.int i2), .val (.int i3), .val (.int (0 : Int32)), .val (.int (2 : Int32)), .val (.int p0), .val (.int p1), .val (.int r0), .val (.int r1), .val (.ref p), .val (.ref r), .val (.ref a166), .unset, .unset] [.ref y]
      refine oGo.astore (pc' := 99) (Ls' := #[.val (.int i0), .val (.int i1), .val (.int i2), .val (.int i3), .val (.int (0 : Int32)), .val (.int (2 : Int32)), .val (.int p0), .val (.int p1), .val (.int r0), .val (.int r1), .val (.ref p), .val (.ref r), .val (.ref a166), .val (.ref y), .unset]) at_97 rfl rfl rfl ?_
      refine oGo.aload (pc' := 101) at_99 rfl rfl rfl ?_
      refine oGo.ifnull_n (pc1 := 104) at_101 rfl ?_
      refine oGo.aload (pc' := 106) at_104 rfl rfl rfl ?_
      refine oGo.invokevirtual (pc' := 109) (k' := 37) (n' := 1067) (a := y) (argsL := []) (rest := []) at_106 rfl (w206 hG) (w106 hG) (w108 hG) (w108 hG) rfl (w107 hG) (w7 hG) (w109 hG) (by decide) pd14 rfl rfl rfl Sy.1 (c_length hG y ty [74, 117, 100, 103, 101, 100, 81, 117, 101, 114, 121, 91, 105, 100, 61, 44, 32, 119, 111, 114, 100, 115, 61, r0, r1, 93] _ Sy) (by simp) (by decide) (Nat.le_of_ble_eq_true rfl) rfl rfl (by decide) (by decide) ?_
      intro v194 h195 sh195 q196
      obtain ⟨rfl, ee⟩ := q196
      obtain rfl := ee.symm
      refine ⟨_, fun _ hx => Or.inl hx, ?_⟩
      show oGo l Z a0 EL True pP eE sS mM _ bB tT cC _ _ _ _ _ _ _ _ [a166] h192 37 1067 109 #[.val (.int i0), .val (.int i1), .val (.int i2), .val (.int i3), .val (.int (0 : Int32)), .val (.int (2 : Int32)), .val (.int p0), .val (.int p1), .val (.int r0), .val (.int r1), .val (.ref p), .val (.ref r), .val (.ref a166), .val (.ref y), .unset] [.int (26 : Int32)]
      refine oGo.bipush (pc' := 111) (v := 24) at_109 rfl (by decide) ?_
      refine oGo.iload (pc' := 113) at_111 rfl rfl ?_
      refine oGo.iadd (pc' := 114) at_113 rfl ?_
      rw [show (24 : Int32) + (0 : Int32) = (24 : Int32) from by decide]
      refine oGo.iload (pc' := 116) at_114 rfl rfl ?_
      refine oGo.iadd (pc' := 117) at_116 rfl ?_
      rw [show (24 : Int32) + (2 : Int32) = (26 : Int32) from by decide]
      refine oGo.icmp_eq (pc1 := 120) (pc2 := 122) at_117 rfl (by decide) (fun q197 => ?_) (fun q => by first | exact absurd q (by decide) | exact absurd (by decide) q)
      refine oGo.aload (pc' := 124) at_122 rfl rfl rfl ?_
      refine oGo.iconst (pc' := 125) (v := 0) at_124 rfl (by decide) ?_
      refine oGo.ldc_str (pc' := 127) (k' := 39) (n' := 1103) (vs := oI (([74, 117, 100, 103, 101, 100, 81, 117] : List Int32).map lo8)) at_125 rfl trivial (w207 hG) (strAt hG) (hG.2.2.2 _ (by decide)) (by decide) (by decide) rfl rfl (by decide) (by decide) ?_
      intro h198 a199 b200 E201 Xa199 Ca199 Va199 Ba199 la199 lb200 na199
      have S202 : oS Z h198 a199 b200 [74, 117, 100, 103, 101, 100, 81, 117] := ⟨Xa199, Va199, Ca199, Ba199, by decide⟩
      have f203 := Sy.ext E201
      refine oGo.invokestatic (pc' := 130) (k' := 39) (n' := 1103) (argsL := [.ref y, .int (0 : Int32), .ref a199]) (rest := []) at_127 rfl (w208 hG) (w209 hG) (w3 hG) (w210 hG) (by decide) pd33 rfl rfl rfl (c_eq8 hG y ty a199 b200 [74, 117, 100, 103, 101, 100, 81, 117, 101, 114, 121, 91, 105, 100, 61, 44, 32, 119, 111, 114, 100, 115, 61, r0, r1, 93] [74, 117, 100, 103, 101, 100, 81, 117] 0 (fun j hj => own_eq8 [74, 117, 100, 103, 101, 100, 81, 117, 101, 114, 121, 91, 105, 100, 61, 44, 32, 119, 111, 114, 100, 115, 61, r0, r1, 93] [74, 117, 100, 103, 101, 100, 81, 117] 0 ⟨rfl, rfl⟩ j hj) _ f203 S202) (by simp) (by decide) (Nat.le_of_ble_eq_true rfl) rfl rfl (by decide) (by decide) ?_
      intro v204 h205 sh205 q206
      obtain ⟨rfl, ee⟩ := q206
      obtain rfl := ee.symm
      refine ⟨_, fun _ hx => Or.inl hx, ?_⟩
      show oGo l Z a0 EL True pP eE sS mM _ bB tT cC _ _ _ _ _ _ _ _ [a166] h198 39 1103 130 #[.val (.int i0), .val (.int i1), .val (.int i2), .val (.int i3), .val (.int (0 : Int32)), .val (.int (2 : Int32)), .val (.int p0), .val (.int p1), .val (.int r0), .val (.int r1), .val (.ref p), .val (.ref r), .val (.ref a166), .val (.ref y), .unset] [.int (1 : Int32)]
      refine oGo.if_eq (pc1 := 133) (pc2 := 145) at_130 rfl (by decide) (fun q => by first | exact absurd q (by decide) | exact absurd (by decide) q) (fun q207 => ?_)
      refine oGo.aload (pc' := 135) at_133 rfl rfl rfl ?_
      refine oGo.bipush (pc' := 137) (v := 7) at_135 rfl (by decide) ?_
      refine oGo.ldc_str (pc' := 139) (k' := 41) (n' := 1139) (vs := oI (([117, 101, 114, 121, 91, 105, 100, 61] : List Int32).map lo8)) at_137 rfl trivial (w233 hG) (strAt hG) (hG.2.2.2 _ (by decide)) (by decide) (by decide) rfl rfl (by decide) (by decide) ?_
      intro h208 a209 b210 E211 Xa209 Ca209 Va209 Ba209 la209 lb210 na209
      have S212 : oS Z h208 a209 b210 [117, 101, 114, 121, 91, 105, 100, 61] := ⟨Xa209, Va209, Ca209, Ba209, by decide⟩
      have f213 := f203.ext E211
      refine oGo.invokestatic (pc' := 142) (k' := 41) (n' := 1139) (argsL := [.ref y, .int (7 : Int32), .ref a209]) (rest := []) at_139 rfl (w208 hG) (w209 hG) (w3 hG) (w210 hG) (by decide) pd33 rfl rfl rfl (c_eq8 hG y ty a209 b210 [74, 117, 100, 103, 101, 100, 81, 117, 101, 114, 121, 91, 105, 100, 61, 44, 32, 119, 111, 114, 100, 115, 61, r0, r1, 93] [117, 101, 114, 121, 91, 105, 100, 61] 7 (fun j hj => own_eq8 [74, 117, 100, 103, 101, 100, 81, 117, 101, 114, 121, 91, 105, 100, 61, 44, 32, 119, 111, 114, 100, 115, 61, r0, r1, 93] [117, 101, 114, 121, 91, 105, 100, 61] 7 ⟨rfl, rfl⟩ j hj) _ f213 S212) (by simp) (by decide) (Nat.le_of_ble_eq_true rfl) rfl rfl (by decide) (by decide) ?_
      intro v214 h215 sh215 q216
      obtain ⟨rfl, ee⟩ := q216
      obtain rfl := ee.symm
      refine ⟨_, fun _ hx => Or.inl hx, ?_⟩
      show oGo l Z a0 EL True pP eE sS mM _ bB tT cC _ _ _ _ _ _ _ _ [a166] h208 41 1139 142 #[.val (.int i0), .val (.int i1), .val (.int i2), .val (.int i3), .val (.int (0 : Int32)), .val (.int (2 : Int32)), .val (.int p0), .val (.int p1), .val (.int r0), .val (.int r1), .val (.ref p), .val (.ref r), .val (.ref a166), .val (.ref y), .unset] [.int (1 : Int32)]
      refine oGo.if_ne (pc1 := 145) (pc2 := 147) at_142 rfl (by decide) (fun q217 => ?_) (fun q => by first | exact absurd q (by decide) | exact absurd (by decide) q)
      refine oGo.iload (pc' := 149) at_147 rfl rfl ?_
      refine oGo.iconst (pc' := 150) (v := 1) at_149 rfl (by decide) ?_
      refine oGo.icmp_lt (pc1 := 153) (pc2 := 167) at_150 rfl (by decide) (fun q218 => ?_) (fun q => by first | exact absurd q (by decide) | exact absurd (by decide) q)
      refine oGo.iload (pc' := 169) at_167 rfl rfl ?_
      refine oGo.iconst (pc' := 170) (v := 2) at_169 rfl (by decide) ?_
      refine oGo.icmp_lt (pc1 := 173) (pc2 := 187) at_170 rfl (by decide) (fun q219 => ?_) (fun q => by first | exact absurd q (by decide) | exact absurd (by decide) q)
      refine oGo.aload (pc' := 189) at_187 rfl rfl rfl ?_
      refine oGo.bipush (pc' := 191) (v := 15) at_189 rfl (by decide) ?_
      refine oGo.iload (pc' := 193) at_191 rfl rfl ?_
      refine oGo.iadd (pc' := 194) at_193 rfl ?_
      rw [show (15 : Int32) + (0 : Int32) = (15 : Int32) from by decide]
      refine oGo.ldc_str (pc' := 196) (k' := 43) (n' := 1175) (vs := oI (([44, 32, 119, 111, 114, 100, 115, 61] : List Int32).map lo8)) at_194 rfl trivial (w234 hG) (strAt hG) (hG.2.2.2 _ (by decide)) (by decide) (by decide) rfl rfl (by decide) (by decide) ?_
      intro h220 a221 b222 E223 Xa221 Ca221 Va221 Ba221 la221 lb222 na221
      have S224 : oS Z h220 a221 b222 [44, 32, 119, 111, 114, 100, 115, 61] := ⟨Xa221, Va221, Ca221, Ba221, by decide⟩
      have f225 := f213.ext E223
      refine oGo.invokestatic (pc' := 199) (k' := 43) (n' := 1175) (argsL := [.ref y, .int (15 : Int32), .ref a221]) (rest := []) at_196 rfl (w208 hG) (w209 hG) (w3 hG) (w210 hG) (by decide) pd33 rfl rfl rfl (c_eq8 hG y ty a221 b222 [74, 117, 100, 103, 101, 100, 81, 117, 101, 114, 121, 91, 105, 100, 61, 44, 32, 119, 111, 114, 100, 115, 61, r0, r1, 93] [44, 32, 119, 111, 114, 100, 115, 61] 15 (fun j hj => own_eq8 [74, 117, 100, 103, 101, 100, 81, 117, 101, 114, 121, 91, 105, 100, 61, 44, 32, 119, 111, 114, 100, 115, 61, r0, r1, 93] [44, 32, 119, 111, 114, 100, 115, 61] 15 ⟨rfl, rfl⟩ j hj) _ f225 S224) (by simp) (by decide) (Nat.le_of_ble_eq_true rfl) rfl rfl (by decide) (by decide) ?_
      intro v226 h227 sh227 q228
      obtain ⟨rfl, ee⟩ := q228
      obtain rfl := ee.symm
      refine ⟨_, fun _ hx => Or.inl hx, ?_⟩
      show oGo l Z a0 EL True pP eE sS mM _ bB tT cC _ _ _ _ _ _ _ _ [a166] h220 43 1175 199 #[.val (.int i0), .val (.int i1), .val (.int i2), .val (.int i3), .val (.int (0 : Int32)), .val (.int (2 : Int32)), .val (.int p0), .val (.int p1), .val (.int r0), .val (.int r1), .val (.ref p), .val (.ref r), .val (.ref a166), .val (.ref y), .unset] [.int (1 : Int32)]
      refine oGo.if_ne (pc1 := 202) (pc2 := 204) at_199 rfl (by decide) (fun q229 => ?_) (fun q => by first | exact absurd q (by decide) | exact absurd (by decide) q)
      refine oGo.bipush (pc' := 206) (v := 23) at_204 rfl (by decide) ?_
      refine oGo.iload (pc' := 208) at_206 rfl rfl ?_
      refine oGo.iadd (pc' := 209) at_208 rfl ?_
      rw [show (23 : Int32) + (0 : Int32) = (23 : Int32) from by decide]
      refine oGo.istore (pc' := 211) (Ls' := #[.val (.int i0), .val (.int i1), .val (.int i2), .val (.int i3), .val (.int (0 : Int32)), .val (.int (2 : Int32)), .val (.int p0), .val (.int p1), .val (.int r0), .val (.int r1), .val (.ref p), .val (.ref r), .val (.ref a166), .val (.ref y), .val (.int (23 : Int32))]) at_209 rfl rfl ?_
      refine oGo.iload (pc' := 213) at_211 rfl rfl ?_
      refine oGo.iconst (pc' := 214) (v := 1) at_213 rfl (by decide) ?_
      refine oGo.icmp_lt (pc1 := 217) (pc2 := 231) at_214 rfl (by decide) (fun q => by first | exact absurd q (by decide) | exact absurd (by decide) q) (fun q230 => ?_)
      refine oGo.aload (pc' := 219) at_217 rfl rfl rfl ?_
      refine oGo.iload (pc' := 221) at_219 rfl rfl ?_
      have f234 := Exa.ext E201 Sy.1
      have f235 := Exa.ext E211 f234
      have f236 := Exa.ext E223 f235
      refine oGo.invokevirtual (pc' := 224) (k' := 43) (n' := 1175) (a := y) (argsL := [.int (23 : Int32)]) (rest := []) at_221 rfl (w211 hG) (w212 hG) (w214 hG) (w214 hG) rfl (w213 hG) (w7 hG) (w215 hG) (by decide) pd29 rfl rfl rfl f236 (c_charAt hG y ty [74, 117, 100, 103, 101, 100, 81, 117, 101, 114, 121, 91, 105, 100, 61, 44, 32, 119, 111, 114, 100, 115, 61, r0, r1, 93] 23 r0 rfl _ f225) (by simp) (by decide) (Nat.le_of_ble_eq_true rfl) rfl rfl (by decide) (by decide) ?_
      intro v231 h232 sh232 q233
      obtain ⟨rfl, ee⟩ := q233
      obtain rfl := ee.symm
      refine ⟨_, fun _ hx => Or.inl hx, ?_⟩
      show oGo l Z a0 EL True pP eE sS mM _ bB tT cC _ _ _ _ _ _ _ _ [a166] h220 43 1175 224 #[.val (.int i0), .val (.int i1), .val (.int i2), .val (.int i3), .val (.int (0 : Int32)), .val (.int (2 : Int32)), .val (.int p0), .val (.int p1), .val (.int r0), .val (.int r1), .val (.ref p), .val (.ref r), .val (.ref a166), .val (.ref y), .val (.int (23 : Int32))] [.int r0]
      refine oGo.iload (pc' := 226) at_224 rfl rfl ?_
      refine oGo.icmp_eq (pc1 := 229) (pc2 := 231) at_226 rfl (by decide) (fun q237 => ?_) (fun q => absurd rfl q)
      refine oGo.iload (pc' := 233) at_231 rfl rfl ?_
      refine oGo.iconst (pc' := 234) (v := 2) at_233 rfl (by decide) ?_
      refine oGo.icmp_lt (pc1 := 237) (pc2 := 253) at_234 rfl (by decide) (fun q => by first | exact absurd q (by decide) | exact absurd (by decide) q) (fun q238 => ?_)
      refine oGo.aload (pc' := 239) at_237 rfl rfl rfl ?_
      refine oGo.iload (pc' := 241) at_239 rfl rfl ?_
      refine oGo.iconst (pc' := 242) (v := 1) at_241 rfl (by decide) ?_
      refine oGo.iadd (pc' := 243) at_242 rfl ?_
      rw [show (23 : Int32) + (1 : Int32) = (24 : Int32) from by decide]
      refine oGo.invokevirtual (pc' := 246) (k' := 43) (n' := 1175) (a := y) (argsL := [.int (24 : Int32)]) (rest := []) at_243 rfl (w211 hG) (w212 hG) (w214 hG) (w214 hG) rfl (w213 hG) (w7 hG) (w215 hG) (by decide) pd29 rfl rfl rfl f236 (c_charAt hG y ty [74, 117, 100, 103, 101, 100, 81, 117, 101, 114, 121, 91, 105, 100, 61, 44, 32, 119, 111, 114, 100, 115, 61, r0, r1, 93] 24 r1 rfl _ f225) (by simp) (by decide) (Nat.le_of_ble_eq_true rfl) rfl rfl (by decide) (by decide) ?_
      intro v239 h240 sh240 q241
      obtain ⟨rfl, ee⟩ := q241
      obtain rfl := ee.symm
      refine ⟨_, fun _ hx => Or.inl hx, ?_⟩
      show oGo l Z a0 EL True pP eE sS mM _ bB tT cC _ _ _ _ _ _ _ _ [a166] h220 43 1175 246 #[.val (.int i0), .val (.int i1), .val (.int i2), .val (.int i3), .val (.int (0 : Int32)), .val (.int (2 : Int32)), .val (.int p0), .val (.int p1), .val (.int r0), .val (.int r1), .val (.ref p), .val (.ref r), .val (.ref a166), .val (.ref y), .val (.int (23 : Int32))] [.int r1]
      refine oGo.iload (pc' := 248) at_246 rfl rfl ?_
      refine oGo.icmp_eq (pc1 := 251) (pc2 := 253) at_248 rfl (by decide) (fun q242 => ?_) (fun q => absurd rfl q)
      refine oGo.aload (pc' := 255) at_253 rfl rfl rfl ?_
      refine oGo.iload (pc' := 257) at_255 rfl rfl ?_
      refine oGo.iload (pc' := 259) at_257 rfl rfl ?_
      refine oGo.iadd (pc' := 260) at_259 rfl ?_
      rw [show (23 : Int32) + (2 : Int32) = (25 : Int32) from by decide]
      refine oGo.invokevirtual (pc' := 263) (k' := 43) (n' := 1175) (a := y) (argsL := [.int (25 : Int32)]) (rest := []) at_260 rfl (w211 hG) (w212 hG) (w214 hG) (w214 hG) rfl (w213 hG) (w7 hG) (w215 hG) (by decide) pd29 rfl rfl rfl f236 (c_charAt hG y ty [74, 117, 100, 103, 101, 100, 81, 117, 101, 114, 121, 91, 105, 100, 61, 44, 32, 119, 111, 114, 100, 115, 61, r0, r1, 93] 25 93 rfl _ f225) (by simp) (by decide) (Nat.le_of_ble_eq_true rfl) rfl rfl (by decide) (by decide) ?_
      intro v243 h244 sh244 q245
      obtain ⟨rfl, ee⟩ := q245
      obtain rfl := ee.symm
      refine ⟨_, fun _ hx => Or.inl hx, ?_⟩
      show oGo l Z a0 EL True pP eE sS mM _ bB tT cC _ _ _ _ _ _ _ _ [a166] h220 43 1175 263 #[.val (.int i0), .val (.int i1), .val (.int i2), .val (.int i3), .val (.int (0 : Int32)), .val (.int (2 : Int32)), .val (.int p0), .val (.int p1), .val (.int r0), .val (.int r1), .val (.ref p), .val (.ref r), .val (.ref a166), .val (.ref y), .val (.int (23 : Int32))] [.int (93 : Int32)]
      refine oGo.bipush (pc' := 265) (v := 93) at_263 rfl (by decide) ?_
      refine oGo.icmp_ne (pc1 := 268) (pc2 := 272) at_265 rfl (by decide) (fun q => absurd rfl q) (fun q246 => ?_)
      refine oGo.iconst (pc' := 269) (v := 1) at_268 rfl (by decide) ?_
      refine oGo.goto (pc' := 273) at_269 (by decide) ?_
      exact oGo.nreturn at_273 rfl (by simp) rfl (by decide) (by decide) rfl (fun _ q => q.elim)
  · show oGo l Z a0 EL True pP eE sS mM _ bB tT cC _ _ _ _ _ _ _ _ [] h 0 0 52 #[.val (.int i0), .val (.int i1), .val (.int i2), .val (.int i3), .val (.int (1 : Int32)), .val (.int (Int32.ofNat lw)), .val (.int p0), .val (.int p1), .val (.int r0), .unset, .unset, .unset, .unset, .unset, .unset] [.int r1]
    refine oGo.istore (pc' := 54) (Ls' := #[.val (.int i0), .val (.int i1), .val (.int i2), .val (.int i3), .val (.int (1 : Int32)), .val (.int (Int32.ofNat lw)), .val (.int p0), .val (.int p1), .val (.int r0), .val (.int r1), .unset, .unset, .unset, .unset, .unset]) at_52 rfl rfl ?_
    refine oGo.iload (pc' := 56) at_54 rfl rfl ?_
    refine oGo.iload (pc' := 58) at_56 rfl rfl ?_
    refine oGo.iload (pc' := 60) at_58 rfl rfl ?_
    refine oGo.invokestatic (pc' := 63) (k' := 6) (n' := 14) (argsL := [.int (1 : Int32), .int p0, .int p1]) (rest := []) at_60 rfl (w1 hG) (w2 hG) (w3 hG) (w4 hG) (by decide) pd30 rfl rfl rfl (c_mk1 hG p0 p1 bp0 bp1 _) (by simp) (by decide) (Nat.le_of_ble_eq_true rfl) rfl rfl (by decide) (by decide) ?_
    intro v247 h248 sh248 q249
    obtain ⟨K1, p, tp, rfl, Sp⟩ := q249
    have lp := own_ltN Sp.1.lt
    have ltp := own_ltN Sp.2.2.2.1.lt
    refine ⟨_, fun _ hx => Or.inl hx, ?_⟩
    show oGo l Z a0 EL True pP eE sS mM _ bB tT cC _ _ _ _ _ _ _ _ [] h248 6 14 63 #[.val (.int i0), .val (.int i1), .val (.int i2), .val (.int i3), .val (.int (1 : Int32)), .val (.int (Int32.ofNat lw)), .val (.int p0), .val (.int p1), .val (.int r0), .val (.int r1), .unset, .unset, .unset, .unset, .unset] [.ref p]
    rcases (show lw = 0 ∨ lw = 1 ∨ lw = 2 by omega) with rfl | rfl | rfl
    · show oGo l Z a0 EL True pP eE sS mM _ bB tT cC _ _ _ _ _ _ _ _ [] h248 6 14 63 #[.val (.int i0), .val (.int i1), .val (.int i2), .val (.int i3), .val (.int (1 : Int32)), .val (.int (0 : Int32)), .val (.int p0), .val (.int p1), .val (.int r0), .val (.int r1), .unset, .unset, .unset, .unset, .unset] [.ref p]
      refine oGo.astore (pc' := 65) (Ls' := #[.val (.int i0), .val (.int i1), .val (.int i2), .val (.int i3), .val (.int (1 : Int32)), .val (.int (0 : Int32)), .val (.int p0), .val (.int p1), .val (.int r0), .val (.int r1), .val (.ref p), .unset, .unset, .unset, .unset]) at_63 rfl rfl rfl ?_
      refine oGo.iload (pc' := 67) at_65 rfl rfl ?_
      refine oGo.iload (pc' := 69) at_67 rfl rfl ?_
      refine oGo.iload (pc' := 71) at_69 rfl rfl ?_
      refine oGo.invokestatic (pc' := 74) (k' := 12) (n' := 28) (argsL := [.int (0 : Int32), .int r0, .int r1]) (rest := []) at_71 rfl (w1 hG) (w2 hG) (w3 hG) (w4 hG) (by decide) pd30 rfl rfl rfl (c_mk0 hG r0 r1 br0 br1 _) (by simp) (by decide) (Nat.le_of_ble_eq_true rfl) rfl rfl (by decide) (by decide) ?_
      intro v250 h251 sh251 q252
      obtain ⟨K2, r, tr, rfl, Sr⟩ := q252
      have lr := own_ltN Sr.1.lt
      have ltr := own_ltN Sr.2.2.2.1.lt
      refine ⟨_, fun _ hx => Or.inl hx, ?_⟩
      show oGo l Z a0 EL True pP eE sS mM _ bB tT cC _ _ _ _ _ _ _ _ [] h251 12 28 74 #[.val (.int i0), .val (.int i1), .val (.int i2), .val (.int i3), .val (.int (1 : Int32)), .val (.int (0 : Int32)), .val (.int p0), .val (.int p1), .val (.int r0), .val (.int r1), .val (.ref p), .unset, .unset, .unset, .unset] [.ref r]
      refine oGo.astore (pc' := 76) (Ls' := #[.val (.int i0), .val (.int i1), .val (.int i2), .val (.int i3), .val (.int (1 : Int32)), .val (.int (0 : Int32)), .val (.int p0), .val (.int p1), .val (.int r0), .val (.int r1), .val (.ref p), .val (.ref r), .unset, .unset, .unset]) at_74 rfl rfl rfl ?_
      refine oGo.new (pc' := 79) (k' := 13) (n' := 31) at_76 rfl (w38 hG) (w39 hG) (w40 hG) rfl rfl (by decide) (by decide) ?_
      intro h253 a254 qa254 la254 E255 X256 F257
      have f258 := F257 (Or.inr (w58 hG)) (ty := (.object "java/lang/String")) (by decide)
      have f259 := F257 (Or.inr (w61 hG)) (ty := (.object "java/lang/String")) (by decide)
      have f260 := F257 (Or.inr (w70 hG)) (ty := (.object "java/util/Set")) (by decide)
      refine oGo.dup (pc' := 80) at_79 rfl rfl ?_
      refine oGo.aload (pc' := 82) at_80 rfl rfl rfl ?_
      refine oGo.aload (pc' := 84) at_82 rfl rfl rfl ?_
      refine oGo.invokestatic (pc' := 87) (k' := 13) (n' := 31) (argsL := []) (rest := [.ref r, .ref p, .ref a254, .ref a254]) at_84 rfl (w41 hG) (w42 hG) (w43 hG) (w44 hG) (by decide) pd31 rfl rfl rfl (c_setOf hG es _ Se) (by simp) (by decide) (Nat.le_of_ble_eq_true rfl) rfl rfl (by decide) (by decide) ?_
      intro v261 h262 sh262 q263
      obtain ⟨rfl, ee⟩ := q263
      obtain rfl := ee.symm
      refine ⟨_, fun _ hx => Or.inl hx, ?_⟩
      show oGo l Z a0 EL True pP eE sS mM _ bB tT cC _ _ _ _ _ _ _ _ [a254] h253 13 31 87 #[.val (.int i0), .val (.int i1), .val (.int i2), .val (.int i3), .val (.int (1 : Int32)), .val (.int (0 : Int32)), .val (.int p0), .val (.int p1), .val (.int r0), .val (.int r1), .val (.ref p), .val (.ref r), .unset, .unset, .unset] [.ref es, .ref r, .ref p, .ref a254, .ref a254]
      refine oGo.old (fun hO264 hO264' => ?_)
      have f265 := Exa.ext hO264 Ee
      have lf265 := own_ltN Ee.lt
      have f266 := Exa.keep Sp.1 K2
      have f267 := Exa.ext E255 f266
      have f268 := Exa.ext E255 Sr.1
      refine oGo.invokespecial (pc' := 90) (k' := 17) (n' := 67) (a := a254) (argsL := [.ref p, .ref r, .ref es]) (rest := [.ref a254]) at_87 rfl rfl (w47 hG) (w48 hG) (w40 hG) (w49 hG) (by decide) pd32 rfl rfl rfl (c_jq hG a254 p r es _ X256 f267 f268 f265 f258 f259 f260) (by simp) (by decide) (Nat.le_of_ble_eq_true rfl) rfl rfl (by decide) (by decide) ?_
      intro v269 h270 sh270 q271
      obtain ⟨rfl, KB, EB, G1, G2⟩ := q271
      refine ⟨_, fun _ hx => Or.inl hx, ?_⟩
      show oGo l Z a0 EL True pP eE sS mM _ bB tT cC _ _ _ _ _ _ _ _ [a254] h270 17 67 90 #[.val (.int i0), .val (.int i1), .val (.int i2), .val (.int i3), .val (.int (1 : Int32)), .val (.int (0 : Int32)), .val (.int p0), .val (.int p1), .val (.int r0), .val (.int r1), .val (.ref p), .val (.ref r), .unset, .unset, .unset] [.ref a254]
      refine oGo.astore (pc' := 92) (Ls' := #[.val (.int i0), .val (.int i1), .val (.int i2), .val (.int i3), .val (.int (1 : Int32)), .val (.int (0 : Int32)), .val (.int p0), .val (.int p1), .val (.int r0), .val (.int r1), .val (.ref p), .val (.ref r), .val (.ref a254), .unset, .unset]) at_90 rfl rfl rfl ?_
      refine oGo.aload (pc' := 94) at_92 rfl rfl rfl ?_
      have f272 := Sp.keep K2 nin0 nin0
      have f273 := f272.ext E255
      have g275 := own_lt_le (x := p) lp K2.1
      have g276 := own_lt_le (x := tp) ltp K2.1
      have f274 := f273.keep KB (own_nin1 (own_ne_ge (x := p) (y := a254) g275 (own_ge_eq qa254))) (own_nin1 (own_ne_ge (x := tp) (y := a254) g276 (own_ge_eq qa254)))
      have f277 := Sr.ext E255
      have f278 := f277.keep KB (own_nin1 (own_ne_ge (x := r) (y := a254) lr (own_ge_eq qa254))) (own_nin1 (own_ne_ge (x := tr) (y := a254) ltr (own_ge_eq qa254)))
      refine oGo.invokevirtual (pc' := 97) (k' := 37) (n' := 1067) (a := a254) (argsL := []) (rest := []) at_94 rfl (w71 hG) (w72 hG) (w74 hG) (w74 hG) rfl (w73 hG) (w40 hG) (w75 hG) (by decide) pd28 rfl rfl rfl EB (c_ts10 hG a254 p tp r tr p0 bp0 _ G1 G2 f274 f278) (by simp) (by decide) (Nat.le_of_ble_eq_true rfl) rfl rfl (by decide) (by decide) ?_
      intro v279 h280 sh280 q281
      obtain ⟨KT, y, ty, rfl, gy, gty, Sy⟩ := q281
      refine ⟨_, fun _ hx => Or.inl hx, ?_⟩
      show oGo l Z a0 EL True pP eE sS mM _ bB tT cC _ _ _ _ _ _ _ _ [a254] h280 37 1067 97 #[.val (.int i0), .val (.int i1), .val (.int i2), .val (.int i3), .val (.int (1 : Int32)), .val (.int (0 : Int32)), .val (.int p0), .val (.int p1), .val (.int r0), .val (.int r1), .val (.ref p), .val (.ref r), .val (.ref a254), .unset, .unset] [.ref y]
      refine oGo.astore (pc' := 99) (Ls' := #[.val (.int i0), .val (.int i1), .val (.int i2), .val (.int i3), .val (.int (1 : Int32)), .val (.int (0 : Int32)), .val (.int p0), .val (.int p1), .val (.int r0), .val (.int r1), .val (.ref p), .val (.ref r), .val (.ref a254), .val (.ref y), .unset]) at_97 rfl rfl rfl ?_
      refine oGo.aload (pc' := 101) at_99 rfl rfl rfl ?_
      refine oGo.ifnull_n (pc1 := 104) at_101 rfl ?_
      refine oGo.aload (pc' := 106) at_104 rfl rfl rfl ?_
      refine oGo.invokevirtual (pc' := 109) (k' := 37) (n' := 1067) (a := y) (argsL := []) (rest := []) at_106 rfl (w206 hG) (w106 hG) (w108 hG) (w108 hG) rfl (w107 hG) (w7 hG) (w109 hG) (by decide) pd14 rfl rfl rfl Sy.1 (c_length hG y ty [74, 117, 100, 103, 101, 100, 81, 117, 101, 114, 121, 91, 105, 100, 61, p0, 44, 32, 119, 111, 114, 100, 115, 61, 93] _ Sy) (by simp) (by decide) (Nat.le_of_ble_eq_true rfl) rfl rfl (by decide) (by decide) ?_
      intro v282 h283 sh283 q284
      obtain ⟨rfl, ee⟩ := q284
      obtain rfl := ee.symm
      refine ⟨_, fun _ hx => Or.inl hx, ?_⟩
      show oGo l Z a0 EL True pP eE sS mM _ bB tT cC _ _ _ _ _ _ _ _ [a254] h280 37 1067 109 #[.val (.int i0), .val (.int i1), .val (.int i2), .val (.int i3), .val (.int (1 : Int32)), .val (.int (0 : Int32)), .val (.int p0), .val (.int p1), .val (.int r0), .val (.int r1), .val (.ref p), .val (.ref r), .val (.ref a254), .val (.ref y), .unset] [.int (25 : Int32)]
      refine oGo.bipush (pc' := 111) (v := 24) at_109 rfl (by decide) ?_
      refine oGo.iload (pc' := 113) at_111 rfl rfl ?_
      refine oGo.iadd (pc' := 114) at_113 rfl ?_
      rw [show (24 : Int32) + (1 : Int32) = (25 : Int32) from by decide]
      refine oGo.iload (pc' := 116) at_114 rfl rfl ?_
      refine oGo.iadd (pc' := 117) at_116 rfl ?_
      rw [show (25 : Int32) + (0 : Int32) = (25 : Int32) from by decide]
      refine oGo.icmp_eq (pc1 := 120) (pc2 := 122) at_117 rfl (by decide) (fun q285 => ?_) (fun q => by first | exact absurd q (by decide) | exact absurd (by decide) q)
      refine oGo.aload (pc' := 124) at_122 rfl rfl rfl ?_
      refine oGo.iconst (pc' := 125) (v := 0) at_124 rfl (by decide) ?_
      refine oGo.ldc_str (pc' := 127) (k' := 39) (n' := 1103) (vs := oI (([74, 117, 100, 103, 101, 100, 81, 117] : List Int32).map lo8)) at_125 rfl trivial (w207 hG) (strAt hG) (hG.2.2.2 _ (by decide)) (by decide) (by decide) rfl rfl (by decide) (by decide) ?_
      intro h286 a287 b288 E289 Xa287 Ca287 Va287 Ba287 la287 lb288 na287
      have S290 : oS Z h286 a287 b288 [74, 117, 100, 103, 101, 100, 81, 117] := ⟨Xa287, Va287, Ca287, Ba287, by decide⟩
      have f291 := Sy.ext E289
      refine oGo.invokestatic (pc' := 130) (k' := 39) (n' := 1103) (argsL := [.ref y, .int (0 : Int32), .ref a287]) (rest := []) at_127 rfl (w208 hG) (w209 hG) (w3 hG) (w210 hG) (by decide) pd33 rfl rfl rfl (c_eq8 hG y ty a287 b288 [74, 117, 100, 103, 101, 100, 81, 117, 101, 114, 121, 91, 105, 100, 61, p0, 44, 32, 119, 111, 114, 100, 115, 61, 93] [74, 117, 100, 103, 101, 100, 81, 117] 0 (fun j hj => own_eq8 [74, 117, 100, 103, 101, 100, 81, 117, 101, 114, 121, 91, 105, 100, 61, p0, 44, 32, 119, 111, 114, 100, 115, 61, 93] [74, 117, 100, 103, 101, 100, 81, 117] 0 ⟨rfl, rfl⟩ j hj) _ f291 S290) (by simp) (by decide) (Nat.le_of_ble_eq_true rfl) rfl rfl (by decide) (by decide) ?_
      intro v292 h293 sh293 q294
      obtain ⟨rfl, ee⟩ := q294
      obtain rfl := ee.symm
      refine ⟨_, fun _ hx => Or.inl hx, ?_⟩
      show oGo l Z a0 EL True pP eE sS mM _ bB tT cC _ _ _ _ _ _ _ _ [a254] h286 39 1103 130 #[.val (.int i0), .val (.int i1), .val (.int i2), .val (.int i3), .val (.int (1 : Int32)), .val (.int (0 : Int32)), .val (.int p0), .val (.int p1), .val (.int r0), .val (.int r1), .val (.ref p), .val (.ref r), .val (.ref a254), .val (.ref y), .unset] [.int (1 : Int32)]
      refine oGo.if_eq (pc1 := 133) (pc2 := 145) at_130 rfl (by decide) (fun q => by first | exact absurd q (by decide) | exact absurd (by decide) q) (fun q295 => ?_)
      refine oGo.aload (pc' := 135) at_133 rfl rfl rfl ?_
      refine oGo.bipush (pc' := 137) (v := 7) at_135 rfl (by decide) ?_
      refine oGo.ldc_str (pc' := 139) (k' := 41) (n' := 1139) (vs := oI (([117, 101, 114, 121, 91, 105, 100, 61] : List Int32).map lo8)) at_137 rfl trivial (w233 hG) (strAt hG) (hG.2.2.2 _ (by decide)) (by decide) (by decide) rfl rfl (by decide) (by decide) ?_
      intro h296 a297 b298 E299 Xa297 Ca297 Va297 Ba297 la297 lb298 na297
      have S300 : oS Z h296 a297 b298 [117, 101, 114, 121, 91, 105, 100, 61] := ⟨Xa297, Va297, Ca297, Ba297, by decide⟩
      have f301 := f291.ext E299
      refine oGo.invokestatic (pc' := 142) (k' := 41) (n' := 1139) (argsL := [.ref y, .int (7 : Int32), .ref a297]) (rest := []) at_139 rfl (w208 hG) (w209 hG) (w3 hG) (w210 hG) (by decide) pd33 rfl rfl rfl (c_eq8 hG y ty a297 b298 [74, 117, 100, 103, 101, 100, 81, 117, 101, 114, 121, 91, 105, 100, 61, p0, 44, 32, 119, 111, 114, 100, 115, 61, 93] [117, 101, 114, 121, 91, 105, 100, 61] 7 (fun j hj => own_eq8 [74, 117, 100, 103, 101, 100, 81, 117, 101, 114, 121, 91, 105, 100, 61, p0, 44, 32, 119, 111, 114, 100, 115, 61, 93] [117, 101, 114, 121, 91, 105, 100, 61] 7 ⟨rfl, rfl⟩ j hj) _ f301 S300) (by simp) (by decide) (Nat.le_of_ble_eq_true rfl) rfl rfl (by decide) (by decide) ?_
      intro v302 h303 sh303 q304
      obtain ⟨rfl, ee⟩ := q304
      obtain rfl := ee.symm
      refine ⟨_, fun _ hx => Or.inl hx, ?_⟩
      show oGo l Z a0 EL True pP eE sS mM _ bB tT cC _ _ _ _ _ _ _ _ [a254] h296 41 1139 142 #[.val (.int i0), .val (.int i1), .val (.int i2), .val (.int i3), .val (.int (1 : Int32)), .val (.int (0 : Int32)), .val (.int p0), .val (.int p1), .val (.int r0), .val (.int r1), .val (.ref p), .val (.ref r), .val (.ref a254), .val (.ref y), .unset] [.int (1 : Int32)]
      refine oGo.if_ne (pc1 := 145) (pc2 := 147) at_142 rfl (by decide) (fun q305 => ?_) (fun q => by first | exact absurd q (by decide) | exact absurd (by decide) q)
      refine oGo.iload (pc' := 149) at_147 rfl rfl ?_
      refine oGo.iconst (pc' := 150) (v := 1) at_149 rfl (by decide) ?_
      refine oGo.icmp_lt (pc1 := 153) (pc2 := 167) at_150 rfl (by decide) (fun q => by first | exact absurd q (by decide) | exact absurd (by decide) q) (fun q306 => ?_)
      refine oGo.aload (pc' := 155) at_153 rfl rfl rfl ?_
      refine oGo.bipush (pc' := 157) (v := 15) at_155 rfl (by decide) ?_
      have f310 := Exa.ext E289 Sy.1
      have f311 := Exa.ext E299 f310
      refine oGo.invokevirtual (pc' := 160) (k' := 41) (n' := 1139) (a := y) (argsL := [.int (15 : Int32)]) (rest := []) at_157 rfl (w211 hG) (w212 hG) (w214 hG) (w214 hG) rfl (w213 hG) (w7 hG) (w215 hG) (by decide) pd29 rfl rfl rfl f311 (c_charAt hG y ty [74, 117, 100, 103, 101, 100, 81, 117, 101, 114, 121, 91, 105, 100, 61, p0, 44, 32, 119, 111, 114, 100, 115, 61, 93] 15 p0 rfl _ f301) (by simp) (by decide) (Nat.le_of_ble_eq_true rfl) rfl rfl (by decide) (by decide) ?_
      intro v307 h308 sh308 q309
      obtain ⟨rfl, ee⟩ := q309
      obtain rfl := ee.symm
      refine ⟨_, fun _ hx => Or.inl hx, ?_⟩
      show oGo l Z a0 EL True pP eE sS mM _ bB tT cC _ _ _ _ _ _ _ _ [a254] h296 41 1139 160 #[.val (.int i0), .val (.int i1), .val (.int i2), .val (.int i3), .val (.int (1 : Int32)), .val (.int (0 : Int32)), .val (.int p0), .val (.int p1), .val (.int r0), .val (.int r1), .val (.ref p), .val (.ref r), .val (.ref a254), .val (.ref y), .unset] [.int p0]
      refine oGo.iload (pc' := 162) at_160 rfl rfl ?_
      refine oGo.icmp_eq (pc1 := 165) (pc2 := 167) at_162 rfl (by decide) (fun q312 => ?_) (fun q => absurd rfl q)
      refine oGo.iload (pc' := 169) at_167 rfl rfl ?_
      refine oGo.iconst (pc' := 170) (v := 2) at_169 rfl (by decide) ?_
      refine oGo.icmp_lt (pc1 := 173) (pc2 := 187) at_170 rfl (by decide) (fun q313 => ?_) (fun q => by first | exact absurd q (by decide) | exact absurd (by decide) q)
      refine oGo.aload (pc' := 189) at_187 rfl rfl rfl ?_
      refine oGo.bipush (pc' := 191) (v := 15) at_189 rfl (by decide) ?_
      refine oGo.iload (pc' := 193) at_191 rfl rfl ?_
      refine oGo.iadd (pc' := 194) at_193 rfl ?_
      rw [show (15 : Int32) + (1 : Int32) = (16 : Int32) from by decide]
      refine oGo.ldc_str (pc' := 196) (k' := 43) (n' := 1175) (vs := oI (([44, 32, 119, 111, 114, 100, 115, 61] : List Int32).map lo8)) at_194 rfl trivial (w234 hG) (strAt hG) (hG.2.2.2 _ (by decide)) (by decide) (by decide) rfl rfl (by decide) (by decide) ?_
      intro h314 a315 b316 E317 Xa315 Ca315 Va315 Ba315 la315 lb316 na315
      have S318 : oS Z h314 a315 b316 [44, 32, 119, 111, 114, 100, 115, 61] := ⟨Xa315, Va315, Ca315, Ba315, by decide⟩
      have f319 := f301.ext E317
      refine oGo.invokestatic (pc' := 199) (k' := 43) (n' := 1175) (argsL := [.ref y, .int (16 : Int32), .ref a315]) (rest := []) at_196 rfl (w208 hG) (w209 hG) (w3 hG) (w210 hG) (by decide) pd33 rfl rfl rfl (c_eq8 hG y ty a315 b316 [74, 117, 100, 103, 101, 100, 81, 117, 101, 114, 121, 91, 105, 100, 61, p0, 44, 32, 119, 111, 114, 100, 115, 61, 93] [44, 32, 119, 111, 114, 100, 115, 61] 16 (fun j hj => own_eq8 [74, 117, 100, 103, 101, 100, 81, 117, 101, 114, 121, 91, 105, 100, 61, p0, 44, 32, 119, 111, 114, 100, 115, 61, 93] [44, 32, 119, 111, 114, 100, 115, 61] 16 ⟨rfl, rfl⟩ j hj) _ f319 S318) (by simp) (by decide) (Nat.le_of_ble_eq_true rfl) rfl rfl (by decide) (by decide) ?_
      intro v320 h321 sh321 q322
      obtain ⟨rfl, ee⟩ := q322
      obtain rfl := ee.symm
      refine ⟨_, fun _ hx => Or.inl hx, ?_⟩
      show oGo l Z a0 EL True pP eE sS mM _ bB tT cC _ _ _ _ _ _ _ _ [a254] h314 43 1175 199 #[.val (.int i0), .val (.int i1), .val (.int i2), .val (.int i3), .val (.int (1 : Int32)), .val (.int (0 : Int32)), .val (.int p0), .val (.int p1), .val (.int r0), .val (.int r1), .val (.ref p), .val (.ref r), .val (.ref a254), .val (.ref y), .unset] [.int (1 : Int32)]
      refine oGo.if_ne (pc1 := 202) (pc2 := 204) at_199 rfl (by decide) (fun q323 => ?_) (fun q => by first | exact absurd q (by decide) | exact absurd (by decide) q)
      refine oGo.bipush (pc' := 206) (v := 23) at_204 rfl (by decide) ?_
      refine oGo.iload (pc' := 208) at_206 rfl rfl ?_
      refine oGo.iadd (pc' := 209) at_208 rfl ?_
      rw [show (23 : Int32) + (1 : Int32) = (24 : Int32) from by decide]
      refine oGo.istore (pc' := 211) (Ls' := #[.val (.int i0), .val (.int i1), .val (.int i2), .val (.int i3), .val (.int (1 : Int32)), .val (.int (0 : Int32)), .val (.int p0), .val (.int p1), .val (.int r0), .val (.int r1), .val (.ref p), .val (.ref r), .val (.ref a254), .val (.ref y), .val (.int (24 : Int32))]) at_209 rfl rfl ?_
      refine oGo.iload (pc' := 213) at_211 rfl rfl ?_
      refine oGo.iconst (pc' := 214) (v := 1) at_213 rfl (by decide) ?_
      refine oGo.icmp_lt (pc1 := 217) (pc2 := 231) at_214 rfl (by decide) (fun q324 => ?_) (fun q => by first | exact absurd q (by decide) | exact absurd (by decide) q)
      refine oGo.iload (pc' := 233) at_231 rfl rfl ?_
      refine oGo.iconst (pc' := 234) (v := 2) at_233 rfl (by decide) ?_
      refine oGo.icmp_lt (pc1 := 237) (pc2 := 253) at_234 rfl (by decide) (fun q325 => ?_) (fun q => by first | exact absurd q (by decide) | exact absurd (by decide) q)
      refine oGo.aload (pc' := 255) at_253 rfl rfl rfl ?_
      refine oGo.iload (pc' := 257) at_255 rfl rfl ?_
      refine oGo.iload (pc' := 259) at_257 rfl rfl ?_
      refine oGo.iadd (pc' := 260) at_259 rfl ?_
      rw [show (24 : Int32) + (0 : Int32) = (24 : Int32) from by decide]
      have f329 := Exa.ext E317 f311
      refine oGo.invokevirtual (pc' := 263) (k' := 43) (n' := 1175) (a := y) (argsL := [.int (24 : Int32)]) (rest := []) at_260 rfl (w211 hG) (w212 hG) (w214 hG) (w214 hG) rfl (w213 hG) (w7 hG) (w215 hG) (by decide) pd29 rfl rfl rfl f329 (c_charAt hG y ty [74, 117, 100, 103, 101, 100, 81, 117, 101, 114, 121, 91, 105, 100, 61, p0, 44, 32, 119, 111, 114, 100, 115, 61, 93] 24 93 rfl _ f319) (by simp) (by decide) (Nat.le_of_ble_eq_true rfl) rfl rfl (by decide) (by decide) ?_
      intro v326 h327 sh327 q328
      obtain ⟨rfl, ee⟩ := q328
      obtain rfl := ee.symm
      refine ⟨_, fun _ hx => Or.inl hx, ?_⟩
      show oGo l Z a0 EL True pP eE sS mM _ bB tT cC _ _ _ _ _ _ _ _ [a254] h314 43 1175 263 #[.val (.int i0), .val (.int i1), .val (.int i2), .val (.int i3), .val (.int (1 : Int32)), .val (.int (0 : Int32)), .val (.int p0), .val (.int p1), .val (.int r0), .val (.int r1), .val (.ref p), .val (.ref r), .val (.ref a254), .val (.ref y), .val (.int (24 : Int32))] [.int (93 : Int32)]
      refine oGo.bipush (pc' := 265) (v := 93) at_263 rfl (by decide) ?_
      refine oGo.icmp_ne (pc1 := 268) (pc2 := 272) at_265 rfl (by decide) (fun q => absurd rfl q) (fun q330 => ?_)
      refine oGo.iconst (pc' := 269) (v := 1) at_268 rfl (by decide) ?_
      refine oGo.goto (pc' := 273) at_269 (by decide) ?_
      exact oGo.nreturn at_273 rfl (by simp) rfl (by decide) (by decide) rfl (fun _ q => q.elim)
    · show oGo l Z a0 EL True pP eE sS mM _ bB tT cC _ _ _ _ _ _ _ _ [] h248 6 14 63 #[.val (.int i0), .val (.int i1), .val (.int i2), .val (.int i3), .val (.int (1 : Int32)), .val (.int (1 : Int32)), .val (.int p0), .val (.int p1), .val (.int r0), .val (.int r1), .unset, .unset, .unset, .unset, .unset] [.ref p]
      refine oGo.astore (pc' := 65) (Ls' := #[.val (.int i0), .val (.int i1), .val (.int i2), .val (.int i3), .val (.int (1 : Int32)), .val (.int (1 : Int32)), .val (.int p0), .val (.int p1), .val (.int r0), .val (.int r1), .val (.ref p), .unset, .unset, .unset, .unset]) at_63 rfl rfl rfl ?_
      refine oGo.iload (pc' := 67) at_65 rfl rfl ?_
      refine oGo.iload (pc' := 69) at_67 rfl rfl ?_
      refine oGo.iload (pc' := 71) at_69 rfl rfl ?_
      refine oGo.invokestatic (pc' := 74) (k' := 12) (n' := 28) (argsL := [.int (1 : Int32), .int r0, .int r1]) (rest := []) at_71 rfl (w1 hG) (w2 hG) (w3 hG) (w4 hG) (by decide) pd30 rfl rfl rfl (c_mk1 hG r0 r1 br0 br1 _) (by simp) (by decide) (Nat.le_of_ble_eq_true rfl) rfl rfl (by decide) (by decide) ?_
      intro v331 h332 sh332 q333
      obtain ⟨K2, r, tr, rfl, Sr⟩ := q333
      have lr := own_ltN Sr.1.lt
      have ltr := own_ltN Sr.2.2.2.1.lt
      refine ⟨_, fun _ hx => Or.inl hx, ?_⟩
      show oGo l Z a0 EL True pP eE sS mM _ bB tT cC _ _ _ _ _ _ _ _ [] h332 12 28 74 #[.val (.int i0), .val (.int i1), .val (.int i2), .val (.int i3), .val (.int (1 : Int32)), .val (.int (1 : Int32)), .val (.int p0), .val (.int p1), .val (.int r0), .val (.int r1), .val (.ref p), .unset, .unset, .unset, .unset] [.ref r]
      refine oGo.astore (pc' := 76) (Ls' := #[.val (.int i0), .val (.int i1), .val (.int i2), .val (.int i3), .val (.int (1 : Int32)), .val (.int (1 : Int32)), .val (.int p0), .val (.int p1), .val (.int r0), .val (.int r1), .val (.ref p), .val (.ref r), .unset, .unset, .unset]) at_74 rfl rfl rfl ?_
      refine oGo.new (pc' := 79) (k' := 13) (n' := 31) at_76 rfl (w38 hG) (w39 hG) (w40 hG) rfl rfl (by decide) (by decide) ?_
      intro h334 a335 qa335 la335 E336 X337 F338
      have f339 := F338 (Or.inr (w58 hG)) (ty := (.object "java/lang/String")) (by decide)
      have f340 := F338 (Or.inr (w61 hG)) (ty := (.object "java/lang/String")) (by decide)
      have f341 := F338 (Or.inr (w70 hG)) (ty := (.object "java/util/Set")) (by decide)
      refine oGo.dup (pc' := 80) at_79 rfl rfl ?_
      refine oGo.aload (pc' := 82) at_80 rfl rfl rfl ?_
      refine oGo.aload (pc' := 84) at_82 rfl rfl rfl ?_
      refine oGo.invokestatic (pc' := 87) (k' := 13) (n' := 31) (argsL := []) (rest := [.ref r, .ref p, .ref a335, .ref a335]) at_84 rfl (w41 hG) (w42 hG) (w43 hG) (w44 hG) (by decide) pd31 rfl rfl rfl (c_setOf hG es _ Se) (by simp) (by decide) (Nat.le_of_ble_eq_true rfl) rfl rfl (by decide) (by decide) ?_
      intro v342 h343 sh343 q344
      obtain ⟨rfl, ee⟩ := q344
      obtain rfl := ee.symm
      refine ⟨_, fun _ hx => Or.inl hx, ?_⟩
      show oGo l Z a0 EL True pP eE sS mM _ bB tT cC _ _ _ _ _ _ _ _ [a335] h334 13 31 87 #[.val (.int i0), .val (.int i1), .val (.int i2), .val (.int i3), .val (.int (1 : Int32)), .val (.int (1 : Int32)), .val (.int p0), .val (.int p1), .val (.int r0), .val (.int r1), .val (.ref p), .val (.ref r), .unset, .unset, .unset] [.ref es, .ref r, .ref p, .ref a335, .ref a335]
      refine oGo.old (fun hO345 hO345' => ?_)
      have f346 := Exa.ext hO345 Ee
      have lf346 := own_ltN Ee.lt
      have f347 := Exa.keep Sp.1 K2
      have f348 := Exa.ext E336 f347
      have f349 := Exa.ext E336 Sr.1
      refine oGo.invokespecial (pc' := 90) (k' := 17) (n' := 67) (a := a335) (argsL := [.ref p, .ref r, .ref es]) (rest := [.ref a335]) at_87 rfl rfl (w47 hG) (w48 hG) (w40 hG) (w49 hG) (by decide) pd32 rfl rfl rfl (c_jq hG a335 p r es _ X337 f348 f349 f346 f339 f340 f341) (by simp) (by decide) (Nat.le_of_ble_eq_true rfl) rfl rfl (by decide) (by decide) ?_
      intro v350 h351 sh351 q352
      obtain ⟨rfl, KB, EB, G1, G2⟩ := q352
      refine ⟨_, fun _ hx => Or.inl hx, ?_⟩
      show oGo l Z a0 EL True pP eE sS mM _ bB tT cC _ _ _ _ _ _ _ _ [a335] h351 17 67 90 #[.val (.int i0), .val (.int i1), .val (.int i2), .val (.int i3), .val (.int (1 : Int32)), .val (.int (1 : Int32)), .val (.int p0), .val (.int p1), .val (.int r0), .val (.int r1), .val (.ref p), .val (.ref r), .unset, .unset, .unset] [.ref a335]
      refine oGo.astore (pc' := 92) (Ls' := #[.val (.int i0), .val (.int i1), .val (.int i2), .val (.int i3), .val (.int (1 : Int32)), .val (.int (1 : Int32)), .val (.int p0), .val (.int p1), .val (.int r0), .val (.int r1), .val (.ref p), .val (.ref r), .val (.ref a335), .unset, .unset]) at_90 rfl rfl rfl ?_
      refine oGo.aload (pc' := 94) at_92 rfl rfl rfl ?_
      have f353 := Sp.keep K2 nin0 nin0
      have f354 := f353.ext E336
      have g356 := own_lt_le (x := p) lp K2.1
      have g357 := own_lt_le (x := tp) ltp K2.1
      have f355 := f354.keep KB (own_nin1 (own_ne_ge (x := p) (y := a335) g356 (own_ge_eq qa335))) (own_nin1 (own_ne_ge (x := tp) (y := a335) g357 (own_ge_eq qa335)))
      have f358 := Sr.ext E336
      have f359 := f358.keep KB (own_nin1 (own_ne_ge (x := r) (y := a335) lr (own_ge_eq qa335))) (own_nin1 (own_ne_ge (x := tr) (y := a335) ltr (own_ge_eq qa335)))
      refine oGo.invokevirtual (pc' := 97) (k' := 37) (n' := 1067) (a := a335) (argsL := []) (rest := []) at_94 rfl (w71 hG) (w72 hG) (w74 hG) (w74 hG) rfl (w73 hG) (w40 hG) (w75 hG) (by decide) pd28 rfl rfl rfl EB (c_ts11 hG a335 p tp r tr p0 r0 bp0 br0 _ G1 G2 f355 f359) (by simp) (by decide) (Nat.le_of_ble_eq_true rfl) rfl rfl (by decide) (by decide) ?_
      intro v360 h361 sh361 q362
      obtain ⟨KT, y, ty, rfl, gy, gty, Sy⟩ := q362
      refine ⟨_, fun _ hx => Or.inl hx, ?_⟩
      show oGo l Z a0 EL True pP eE sS mM _ bB tT cC _ _ _ _ _ _ _ _ [a335] h361 37 1067 97 #[.val (.int i0), .val (.int i1), .val (.int i2), .val (.int i3), .val (.int (1 : Int32)), .val (.int (1 : Int32)), .val (.int p0), .val (.int p1), .val (.int r0), .val (.int r1), .val (.ref p), .val (.ref r), .val (.ref a335), .unset, .unset] [.ref y]
      refine oGo.astore (pc' := 99) (Ls' := #[.val (.int i0), .val (.int i1), .val (.int i2), .val (.int i3), .val (.int (1 : Int32)), .val (.int (1 : Int32)), .val (.int p0), .val (.int p1), .val (.int r0), .val (.int r1), .val (.ref p), .val (.ref r), .val (.ref a335), .val (.ref y), .unset]) at_97 rfl rfl rfl ?_
      refine oGo.aload (pc' := 101) at_99 rfl rfl rfl ?_
      refine oGo.ifnull_n (pc1 := 104) at_101 rfl ?_
      refine oGo.aload (pc' := 106) at_104 rfl rfl rfl ?_
      refine oGo.invokevirtual (pc' := 109) (k' := 37) (n' := 1067) (a := y) (argsL := []) (rest := []) at_106 rfl (w206 hG) (w106 hG) (w108 hG) (w108 hG) rfl (w107 hG) (w7 hG) (w109 hG) (by decide) pd14 rfl rfl rfl Sy.1 (c_length hG y ty [74, 117, 100, 103, 101, 100, 81, 117, 101, 114, 121, 91, 105, 100, 61, p0, 44, 32, 119, 111, 114, 100, 115, 61, r0, 93] _ Sy) (by simp) (by decide) (Nat.le_of_ble_eq_true rfl) rfl rfl (by decide) (by decide) ?_
      intro v363 h364 sh364 q365
      obtain ⟨rfl, ee⟩ := q365
      obtain rfl := ee.symm
      refine ⟨_, fun _ hx => Or.inl hx, ?_⟩
      show oGo l Z a0 EL True pP eE sS mM _ bB tT cC _ _ _ _ _ _ _ _ [a335] h361 37 1067 109 #[.val (.int i0), .val (.int i1), .val (.int i2), .val (.int i3), .val (.int (1 : Int32)), .val (.int (1 : Int32)), .val (.int p0), .val (.int p1), .val (.int r0), .val (.int r1), .val (.ref p), .val (.ref r), .val (.ref a335), .val (.ref y), .unset] [.int (26 : Int32)]
      refine oGo.bipush (pc' := 111) (v := 24) at_109 rfl (by decide) ?_
      refine oGo.iload (pc' := 113) at_111 rfl rfl ?_
      refine oGo.iadd (pc' := 114) at_113 rfl ?_
      rw [show (24 : Int32) + (1 : Int32) = (25 : Int32) from by decide]
      refine oGo.iload (pc' := 116) at_114 rfl rfl ?_
      refine oGo.iadd (pc' := 117) at_116 rfl ?_
      rw [show (25 : Int32) + (1 : Int32) = (26 : Int32) from by decide]
      refine oGo.icmp_eq (pc1 := 120) (pc2 := 122) at_117 rfl (by decide) (fun q366 => ?_) (fun q => by first | exact absurd q (by decide) | exact absurd (by decide) q)
      refine oGo.aload (pc' := 124) at_122 rfl rfl rfl ?_
      refine oGo.iconst (pc' := 125) (v := 0) at_124 rfl (by decide) ?_
      refine oGo.ldc_str (pc' := 127) (k' := 39) (n' := 1103) (vs := oI (([74, 117, 100, 103, 101, 100, 81, 117] : List Int32).map lo8)) at_125 rfl trivial (w207 hG) (strAt hG) (hG.2.2.2 _ (by decide)) (by decide) (by decide) rfl rfl (by decide) (by decide) ?_
      intro h367 a368 b369 E370 Xa368 Ca368 Va368 Ba368 la368 lb369 na368
      have S371 : oS Z h367 a368 b369 [74, 117, 100, 103, 101, 100, 81, 117] := ⟨Xa368, Va368, Ca368, Ba368, by decide⟩
      have f372 := Sy.ext E370
      refine oGo.invokestatic (pc' := 130) (k' := 39) (n' := 1103) (argsL := [.ref y, .int (0 : Int32), .ref a368]) (rest := []) at_127 rfl (w208 hG) (w209 hG) (w3 hG) (w210 hG) (by decide) pd33 rfl rfl rfl (c_eq8 hG y ty a368 b369 [74, 117, 100, 103, 101, 100, 81, 117, 101, 114, 121, 91, 105, 100, 61, p0, 44, 32, 119, 111, 114, 100, 115, 61, r0, 93] [74, 117, 100, 103, 101, 100, 81, 117] 0 (fun j hj => own_eq8 [74, 117, 100, 103, 101, 100, 81, 117, 101, 114, 121, 91, 105, 100, 61, p0, 44, 32, 119, 111, 114, 100, 115, 61, r0, 93] [74, 117, 100, 103, 101, 100, 81, 117] 0 ⟨rfl, rfl⟩ j hj) _ f372 S371) (by simp) (by decide) (Nat.le_of_ble_eq_true rfl) rfl rfl (by decide) (by decide) ?_
      intro v373 h374 sh374 q375
      obtain ⟨rfl, ee⟩ := q375
      obtain rfl := ee.symm
      refine ⟨_, fun _ hx => Or.inl hx, ?_⟩
      show oGo l Z a0 EL True pP eE sS mM _ bB tT cC _ _ _ _ _ _ _ _ [a335] h367 39 1103 130 #[.val (.int i0), .val (.int i1), .val (.int i2), .val (.int i3), .val (.int (1 : Int32)), .val (.int (1 : Int32)), .val (.int p0), .val (.int p1), .val (.int r0), .val (.int r1), .val (.ref p), .val (.ref r), .val (.ref a335), .val (.ref y), .unset] [.int (1 : Int32)]
      refine oGo.if_eq (pc1 := 133) (pc2 := 145) at_130 rfl (by decide) (fun q => by first | exact absurd q (by decide) | exact absurd (by decide) q) (fun q376 => ?_)
      refine oGo.aload (pc' := 135) at_133 rfl rfl rfl ?_
      refine oGo.bipush (pc' := 137) (v := 7) at_135 rfl (by decide) ?_
      refine oGo.ldc_str (pc' := 139) (k' := 41) (n' := 1139) (vs := oI (([117, 101, 114, 121, 91, 105, 100, 61] : List Int32).map lo8)) at_137 rfl trivial (w233 hG) (strAt hG) (hG.2.2.2 _ (by decide)) (by decide) (by decide) rfl rfl (by decide) (by decide) ?_
      intro h377 a378 b379 E380 Xa378 Ca378 Va378 Ba378 la378 lb379 na378
      have S381 : oS Z h377 a378 b379 [117, 101, 114, 121, 91, 105, 100, 61] := ⟨Xa378, Va378, Ca378, Ba378, by decide⟩
      have f382 := f372.ext E380
      refine oGo.invokestatic (pc' := 142) (k' := 41) (n' := 1139) (argsL := [.ref y, .int (7 : Int32), .ref a378]) (rest := []) at_139 rfl (w208 hG) (w209 hG) (w3 hG) (w210 hG) (by decide) pd33 rfl rfl rfl (c_eq8 hG y ty a378 b379 [74, 117, 100, 103, 101, 100, 81, 117, 101, 114, 121, 91, 105, 100, 61, p0, 44, 32, 119, 111, 114, 100, 115, 61, r0, 93] [117, 101, 114, 121, 91, 105, 100, 61] 7 (fun j hj => own_eq8 [74, 117, 100, 103, 101, 100, 81, 117, 101, 114, 121, 91, 105, 100, 61, p0, 44, 32, 119, 111, 114, 100, 115, 61, r0, 93] [117, 101, 114, 121, 91, 105, 100, 61] 7 ⟨rfl, rfl⟩ j hj) _ f382 S381) (by simp) (by decide) (Nat.le_of_ble_eq_true rfl) rfl rfl (by decide) (by decide) ?_
      intro v383 h384 sh384 q385
      obtain ⟨rfl, ee⟩ := q385
      obtain rfl := ee.symm
      refine ⟨_, fun _ hx => Or.inl hx, ?_⟩
      show oGo l Z a0 EL True pP eE sS mM _ bB tT cC _ _ _ _ _ _ _ _ [a335] h377 41 1139 142 #[.val (.int i0), .val (.int i1), .val (.int i2), .val (.int i3), .val (.int (1 : Int32)), .val (.int (1 : Int32)), .val (.int p0), .val (.int p1), .val (.int r0), .val (.int r1), .val (.ref p), .val (.ref r), .val (.ref a335), .val (.ref y), .unset] [.int (1 : Int32)]
      refine oGo.if_ne (pc1 := 145) (pc2 := 147) at_142 rfl (by decide) (fun q386 => ?_) (fun q => by first | exact absurd q (by decide) | exact absurd (by decide) q)
      refine oGo.iload (pc' := 149) at_147 rfl rfl ?_
      refine oGo.iconst (pc' := 150) (v := 1) at_149 rfl (by decide) ?_
      refine oGo.icmp_lt (pc1 := 153) (pc2 := 167) at_150 rfl (by decide) (fun q => by first | exact absurd q (by decide) | exact absurd (by decide) q) (fun q387 => ?_)
      refine oGo.aload (pc' := 155) at_153 rfl rfl rfl ?_
      refine oGo.bipush (pc' := 157) (v := 15) at_155 rfl (by decide) ?_
      have f391 := Exa.ext E370 Sy.1
      have f392 := Exa.ext E380 f391
      refine oGo.invokevirtual (pc' := 160) (k' := 41) (n' := 1139) (a := y) (argsL := [.int (15 : Int32)]) (rest := []) at_157 rfl (w211 hG) (w212 hG) (w214 hG) (w214 hG) rfl (w213 hG) (w7 hG) (w215 hG) (by decide) pd29 rfl rfl rfl f392 (c_charAt hG y ty [74, 117, 100, 103, 101, 100, 81, 117, 101, 114, 121, 91, 105, 100, 61, p0, 44, 32, 119, 111, 114, 100, 115, 61, r0, 93] 15 p0 rfl _ f382) (by simp) (by decide) (Nat.le_of_ble_eq_true rfl) rfl rfl (by decide) (by decide) ?_
      intro v388 h389 sh389 q390
      obtain ⟨rfl, ee⟩ := q390
      obtain rfl := ee.symm
      refine ⟨_, fun _ hx => Or.inl hx, ?_⟩
      show oGo l Z a0 EL True pP eE sS mM _ bB tT cC _ _ _ _ _ _ _ _ [a335] h377 41 1139 160 #[.val (.int i0), .val (.int i1), .val (.int i2), .val (.int i3), .val (.int (1 : Int32)), .val (.int (1 : Int32)), .val (.int p0), .val (.int p1), .val (.int r0), .val (.int r1), .val (.ref p), .val (.ref r), .val (.ref a335), .val (.ref y), .unset] [.int p0]
      refine oGo.iload (pc' := 162) at_160 rfl rfl ?_
      refine oGo.icmp_eq (pc1 := 165) (pc2 := 167) at_162 rfl (by decide) (fun q393 => ?_) (fun q => absurd rfl q)
      refine oGo.iload (pc' := 169) at_167 rfl rfl ?_
      refine oGo.iconst (pc' := 170) (v := 2) at_169 rfl (by decide) ?_
      refine oGo.icmp_lt (pc1 := 173) (pc2 := 187) at_170 rfl (by decide) (fun q394 => ?_) (fun q => by first | exact absurd q (by decide) | exact absurd (by decide) q)
      refine oGo.aload (pc' := 189) at_187 rfl rfl rfl ?_
      refine oGo.bipush (pc' := 191) (v := 15) at_189 rfl (by decide) ?_
      refine oGo.iload (pc' := 193) at_191 rfl rfl ?_
      refine oGo.iadd (pc' := 194) at_193 rfl ?_
      rw [show (15 : Int32) + (1 : Int32) = (16 : Int32) from by decide]
      refine oGo.ldc_str (pc' := 196) (k' := 43) (n' := 1175) (vs := oI (([44, 32, 119, 111, 114, 100, 115, 61] : List Int32).map lo8)) at_194 rfl trivial (w234 hG) (strAt hG) (hG.2.2.2 _ (by decide)) (by decide) (by decide) rfl rfl (by decide) (by decide) ?_
      intro h395 a396 b397 E398 Xa396 Ca396 Va396 Ba396 la396 lb397 na396
      have S399 : oS Z h395 a396 b397 [44, 32, 119, 111, 114, 100, 115, 61] := ⟨Xa396, Va396, Ca396, Ba396, by decide⟩
      have f400 := f382.ext E398
      refine oGo.invokestatic (pc' := 199) (k' := 43) (n' := 1175) (argsL := [.ref y, .int (16 : Int32), .ref a396]) (rest := []) at_196 rfl (w208 hG) (w209 hG) (w3 hG) (w210 hG) (by decide) pd33 rfl rfl rfl (c_eq8 hG y ty a396 b397 [74, 117, 100, 103, 101, 100, 81, 117, 101, 114, 121, 91, 105, 100, 61, p0, 44, 32, 119, 111, 114, 100, 115, 61, r0, 93] [44, 32, 119, 111, 114, 100, 115, 61] 16 (fun j hj => own_eq8 [74, 117, 100, 103, 101, 100, 81, 117, 101, 114, 121, 91, 105, 100, 61, p0, 44, 32, 119, 111, 114, 100, 115, 61, r0, 93] [44, 32, 119, 111, 114, 100, 115, 61] 16 ⟨rfl, rfl⟩ j hj) _ f400 S399) (by simp) (by decide) (Nat.le_of_ble_eq_true rfl) rfl rfl (by decide) (by decide) ?_
      intro v401 h402 sh402 q403
      obtain ⟨rfl, ee⟩ := q403
      obtain rfl := ee.symm
      refine ⟨_, fun _ hx => Or.inl hx, ?_⟩
      show oGo l Z a0 EL True pP eE sS mM _ bB tT cC _ _ _ _ _ _ _ _ [a335] h395 43 1175 199 #[.val (.int i0), .val (.int i1), .val (.int i2), .val (.int i3), .val (.int (1 : Int32)), .val (.int (1 : Int32)), .val (.int p0), .val (.int p1), .val (.int r0), .val (.int r1), .val (.ref p), .val (.ref r), .val (.ref a335), .val (.ref y), .unset] [.int (1 : Int32)]
      refine oGo.if_ne (pc1 := 202) (pc2 := 204) at_199 rfl (by decide) (fun q404 => ?_) (fun q => by first | exact absurd q (by decide) | exact absurd (by decide) q)
      refine oGo.bipush (pc' := 206) (v := 23) at_204 rfl (by decide) ?_
      refine oGo.iload (pc' := 208) at_206 rfl rfl ?_
      refine oGo.iadd (pc' := 209) at_208 rfl ?_
      rw [show (23 : Int32) + (1 : Int32) = (24 : Int32) from by decide]
      refine oGo.istore (pc' := 211) (Ls' := #[.val (.int i0), .val (.int i1), .val (.int i2), .val (.int i3), .val (.int (1 : Int32)), .val (.int (1 : Int32)), .val (.int p0), .val (.int p1), .val (.int r0), .val (.int r1), .val (.ref p), .val (.ref r), .val (.ref a335), .val (.ref y), .val (.int (24 : Int32))]) at_209 rfl rfl ?_
      refine oGo.iload (pc' := 213) at_211 rfl rfl ?_
      refine oGo.iconst (pc' := 214) (v := 1) at_213 rfl (by decide) ?_
      refine oGo.icmp_lt (pc1 := 217) (pc2 := 231) at_214 rfl (by decide) (fun q => by first | exact absurd q (by decide) | exact absurd (by decide) q) (fun q405 => ?_)
      refine oGo.aload (pc' := 219) at_217 rfl rfl rfl ?_
      refine oGo.iload (pc' := 221) at_219 rfl rfl ?_
      have f409 := Exa.ext E398 f392
      refine oGo.invokevirtual (pc' := 224) (k' := 43) (n' := 1175) (a := y) (argsL := [.int (24 : Int32)]) (rest := []) at_221 rfl (w211 hG) (w212 hG) (w214 hG) (w214 hG) rfl (w213 hG) (w7 hG) (w215 hG) (by decide) pd29 rfl rfl rfl f409 (c_charAt hG y ty [74, 117, 100, 103, 101, 100, 81, 117, 101, 114, 121, 91, 105, 100, 61, p0, 44, 32, 119, 111, 114, 100, 115, 61, r0, 93] 24 r0 rfl _ f400) (by simp) (by decide) (Nat.le_of_ble_eq_true rfl) rfl rfl (by decide) (by decide) ?_
      intro v406 h407 sh407 q408
      obtain ⟨rfl, ee⟩ := q408
      obtain rfl := ee.symm
      refine ⟨_, fun _ hx => Or.inl hx, ?_⟩
      show oGo l Z a0 EL True pP eE sS mM _ bB tT cC _ _ _ _ _ _ _ _ [a335] h395 43 1175 224 #[.val (.int i0), .val (.int i1), .val (.int i2), .val (.int i3), .val (.int (1 : Int32)), .val (.int (1 : Int32)), .val (.int p0), .val (.int p1), .val (.int r0), .val (.int r1), .val (.ref p), .val (.ref r), .val (.ref a335), .val (.ref y), .val (.int (24 : Int32))] [.int r0]
      refine oGo.iload (pc' := 226) at_224 rfl rfl ?_
      refine oGo.icmp_eq (pc1 := 229) (pc2 := 231) at_226 rfl (by decide) (fun q410 => ?_) (fun q => absurd rfl q)
      refine oGo.iload (pc' := 233) at_231 rfl rfl ?_
      refine oGo.iconst (pc' := 234) (v := 2) at_233 rfl (by decide) ?_
      refine oGo.icmp_lt (pc1 := 237) (pc2 := 253) at_234 rfl (by decide) (fun q411 => ?_) (fun q => by first | exact absurd q (by decide) | exact absurd (by decide) q)
      refine oGo.aload (pc' := 255) at_253 rfl rfl rfl ?_
      refine oGo.iload (pc' := 257) at_255 rfl rfl ?_
      refine oGo.iload (pc' := 259) at_257 rfl rfl ?_
      refine oGo.iadd (pc' := 260) at_259 rfl ?_
      rw [show (24 : Int32) + (1 : Int32) = (25 : Int32) from by decide]
      refine oGo.invokevirtual (pc' := 263) (k' := 43) (n' := 1175) (a := y) (argsL := [.int (25 : Int32)]) (rest := []) at_260 rfl (w211 hG) (w212 hG) (w214 hG) (w214 hG) rfl (w213 hG) (w7 hG) (w215 hG) (by decide) pd29 rfl rfl rfl f409 (c_charAt hG y ty [74, 117, 100, 103, 101, 100, 81, 117, 101, 114, 121, 91, 105, 100, 61, p0, 44, 32, 119, 111, 114, 100, 115, 61, r0, 93] 25 93 rfl _ f400) (by simp) (by decide) (Nat.le_of_ble_eq_true rfl) rfl rfl (by decide) (by decide) ?_
      intro v412 h413 sh413 q414
      obtain ⟨rfl, ee⟩ := q414
      obtain rfl := ee.symm
      refine ⟨_, fun _ hx => Or.inl hx, ?_⟩
      show oGo l Z a0 EL True pP eE sS mM _ bB tT cC _ _ _ _ _ _ _ _ [a335] h395 43 1175 263 #[.val (.int i0), .val (.int i1), .val (.int i2), .val (.int i3), .val (.int (1 : Int32)), .val (.int (1 : Int32)), .val (.int p0), .val (.int p1), .val (.int r0), .val (.int r1), .val (.ref p), .val (.ref r), .val (.ref a335), .val (.ref y), .val (.int (24 : Int32))] [.int (93 : Int32)]
      refine oGo.bipush (pc' := 265) (v := 93) at_263 rfl (by decide) ?_
      refine oGo.icmp_ne (pc1 := 268) (pc2 := 272) at_265 rfl (by decide) (fun q => absurd rfl q) (fun q415 => ?_)
      refine oGo.iconst (pc' := 269) (v := 1) at_268 rfl (by decide) ?_
      refine oGo.goto (pc' := 273) at_269 (by decide) ?_
      exact oGo.nreturn at_273 rfl (by simp) rfl (by decide) (by decide) rfl (fun _ q => q.elim)
    · show oGo l Z a0 EL True pP eE sS mM _ bB tT cC _ _ _ _ _ _ _ _ [] h248 6 14 63 #[.val (.int i0), .val (.int i1), .val (.int i2), .val (.int i3), .val (.int (1 : Int32)), .val (.int (2 : Int32)), .val (.int p0), .val (.int p1), .val (.int r0), .val (.int r1), .unset, .unset, .unset, .unset, .unset] [.ref p]
      refine oGo.astore (pc' := 65) (Ls' := #[.val (.int i0), .val (.int i1), .val (.int i2), .val (.int i3), .val (.int (1 : Int32)), .val (.int (2 : Int32)), .val (.int p0), .val (.int p1), .val (.int r0), .val (.int r1), .val (.ref p), .unset, .unset, .unset, .unset]) at_63 rfl rfl rfl ?_
      refine oGo.iload (pc' := 67) at_65 rfl rfl ?_
      refine oGo.iload (pc' := 69) at_67 rfl rfl ?_
      refine oGo.iload (pc' := 71) at_69 rfl rfl ?_
      refine oGo.invokestatic (pc' := 74) (k' := 12) (n' := 28) (argsL := [.int (2 : Int32), .int r0, .int r1]) (rest := []) at_71 rfl (w1 hG) (w2 hG) (w3 hG) (w4 hG) (by decide) pd30 rfl rfl rfl (c_mk2 hG r0 r1 br0 br1 _) (by simp) (by decide) (Nat.le_of_ble_eq_true rfl) rfl rfl (by decide) (by decide) ?_
      intro v416 h417 sh417 q418
      obtain ⟨K2, r, tr, rfl, Sr⟩ := q418
      have lr := own_ltN Sr.1.lt
      have ltr := own_ltN Sr.2.2.2.1.lt
      refine ⟨_, fun _ hx => Or.inl hx, ?_⟩
      show oGo l Z a0 EL True pP eE sS mM _ bB tT cC _ _ _ _ _ _ _ _ [] h417 12 28 74 #[.val (.int i0), .val (.int i1), .val (.int i2), .val (.int i3), .val (.int (1 : Int32)), .val (.int (2 : Int32)), .val (.int p0), .val (.int p1), .val (.int r0), .val (.int r1), .val (.ref p), .unset, .unset, .unset, .unset] [.ref r]
      refine oGo.astore (pc' := 76) (Ls' := #[.val (.int i0), .val (.int i1), .val (.int i2), .val (.int i3), .val (.int (1 : Int32)), .val (.int (2 : Int32)), .val (.int p0), .val (.int p1), .val (.int r0), .val (.int r1), .val (.ref p), .val (.ref r), .unset, .unset, .unset]) at_74 rfl rfl rfl ?_
      refine oGo.new (pc' := 79) (k' := 13) (n' := 31) at_76 rfl (w38 hG) (w39 hG) (w40 hG) rfl rfl (by decide) (by decide) ?_
      intro h419 a420 qa420 la420 E421 X422 F423
      have f424 := F423 (Or.inr (w58 hG)) (ty := (.object "java/lang/String")) (by decide)
      have f425 := F423 (Or.inr (w61 hG)) (ty := (.object "java/lang/String")) (by decide)
      have f426 := F423 (Or.inr (w70 hG)) (ty := (.object "java/util/Set")) (by decide)
      refine oGo.dup (pc' := 80) at_79 rfl rfl ?_
      refine oGo.aload (pc' := 82) at_80 rfl rfl rfl ?_
      refine oGo.aload (pc' := 84) at_82 rfl rfl rfl ?_
      refine oGo.invokestatic (pc' := 87) (k' := 13) (n' := 31) (argsL := []) (rest := [.ref r, .ref p, .ref a420, .ref a420]) at_84 rfl (w41 hG) (w42 hG) (w43 hG) (w44 hG) (by decide) pd31 rfl rfl rfl (c_setOf hG es _ Se) (by simp) (by decide) (Nat.le_of_ble_eq_true rfl) rfl rfl (by decide) (by decide) ?_
      intro v427 h428 sh428 q429
      obtain ⟨rfl, ee⟩ := q429
      obtain rfl := ee.symm
      refine ⟨_, fun _ hx => Or.inl hx, ?_⟩
      show oGo l Z a0 EL True pP eE sS mM _ bB tT cC _ _ _ _ _ _ _ _ [a420] h419 13 31 87 #[.val (.int i0), .val (.int i1), .val (.int i2), .val (.int i3), .val (.int (1 : Int32)), .val (.int (2 : Int32)), .val (.int p0), .val (.int p1), .val (.int r0), .val (.int r1), .val (.ref p), .val (.ref r), .unset, .unset, .unset] [.ref es, .ref r, .ref p, .ref a420, .ref a420]
      refine oGo.old (fun hO430 hO430' => ?_)
      have f431 := Exa.ext hO430 Ee
      have lf431 := own_ltN Ee.lt
      have f432 := Exa.keep Sp.1 K2
      have f433 := Exa.ext E421 f432
      have f434 := Exa.ext E421 Sr.1
      refine oGo.invokespecial (pc' := 90) (k' := 17) (n' := 67) (a := a420) (argsL := [.ref p, .ref r, .ref es]) (rest := [.ref a420]) at_87 rfl rfl (w47 hG) (w48 hG) (w40 hG) (w49 hG) (by decide) pd32 rfl rfl rfl (c_jq hG a420 p r es _ X422 f433 f434 f431 f424 f425 f426) (by simp) (by decide) (Nat.le_of_ble_eq_true rfl) rfl rfl (by decide) (by decide) ?_
      intro v435 h436 sh436 q437
      obtain ⟨rfl, KB, EB, G1, G2⟩ := q437
      refine ⟨_, fun _ hx => Or.inl hx, ?_⟩
      show oGo l Z a0 EL True pP eE sS mM _ bB tT cC _ _ _ _ _ _ _ _ [a420] h436 17 67 90 #[.val (.int i0), .val (.int i1), .val (.int i2), .val (.int i3), .val (.int (1 : Int32)), .val (.int (2 : Int32)), .val (.int p0), .val (.int p1), .val (.int r0), .val (.int r1), .val (.ref p), .val (.ref r), .unset, .unset, .unset] [.ref a420]
      refine oGo.astore (pc' := 92) (Ls' := #[.val (.int i0), .val (.int i1), .val (.int i2), .val (.int i3), .val (.int (1 : Int32)), .val (.int (2 : Int32)), .val (.int p0), .val (.int p1), .val (.int r0), .val (.int r1), .val (.ref p), .val (.ref r), .val (.ref a420), .unset, .unset]) at_90 rfl rfl rfl ?_
      refine oGo.aload (pc' := 94) at_92 rfl rfl rfl ?_
      have f438 := Sp.keep K2 nin0 nin0
      have f439 := f438.ext E421
      have g441 := own_lt_le (x := p) lp K2.1
      have g442 := own_lt_le (x := tp) ltp K2.1
      have f440 := f439.keep KB (own_nin1 (own_ne_ge (x := p) (y := a420) g441 (own_ge_eq qa420))) (own_nin1 (own_ne_ge (x := tp) (y := a420) g442 (own_ge_eq qa420)))
      have f443 := Sr.ext E421
      have f444 := f443.keep KB (own_nin1 (own_ne_ge (x := r) (y := a420) lr (own_ge_eq qa420))) (own_nin1 (own_ne_ge (x := tr) (y := a420) ltr (own_ge_eq qa420)))
      refine oGo.invokevirtual (pc' := 97) (k' := 37) (n' := 1067) (a := a420) (argsL := []) (rest := []) at_94 rfl (w71 hG) (w72 hG) (w74 hG) (w74 hG) rfl (w73 hG) (w40 hG) (w75 hG) (by decide) pd28 rfl rfl rfl EB (c_ts12 hG a420 p tp r tr p0 r0 r1 bp0 br0 br1 _ G1 G2 f440 f444) (by simp) (by decide) (Nat.le_of_ble_eq_true rfl) rfl rfl (by decide) (by decide) ?_
      intro v445 h446 sh446 q447
      obtain ⟨KT, y, ty, rfl, gy, gty, Sy⟩ := q447
      refine ⟨_, fun _ hx => Or.inl hx, ?_⟩
      show oGo l Z a0 EL True pP eE sS mM _ bB tT cC _ _ _ _ _ _ _ _ [a420] h446 37 1067 97 #[.val (.int i0), .val (.int i1), .val (.int i2), .val (.int i3), .val (.int (1 : Int32)), .val (.int (2 : Int32)), .val (.int p0), .val (.int p1), .val (.int r0), .val (.int r1), .val (.ref p), .val (.ref r), .val (.ref a420), .unset, .unset] [.ref y]
      refine oGo.astore (pc' := 99) (Ls' := #[.val (.int i0), .val (.int i1), .val (.int i2), .val (.int i3), .val (.int (1 : Int32)), .val (.int (2 : Int32)), .val (.int p0), .val (.int p1), .val (.int r0), .val (.int r1), .val (.ref p), .val (.ref r), .val (.ref a420), .val (.ref y), .unset]) at_97 rfl rfl rfl ?_
      refine oGo.aload (pc' := 101) at_99 rfl rfl rfl ?_
      refine oGo.ifnull_n (pc1 := 104) at_101 rfl ?_
      refine oGo.aload (pc' := 106) at_104 rfl rfl rfl ?_
      refine oGo.invokevirtual (pc' := 109) (k' := 37) (n' := 1067) (a := y) (argsL := []) (rest := []) at_106 rfl (w206 hG) (w106 hG) (w108 hG) (w108 hG) rfl (w107 hG) (w7 hG) (w109 hG) (by decide) pd14 rfl rfl rfl Sy.1 (c_length hG y ty [74, 117, 100, 103, 101, 100, 81, 117, 101, 114, 121, 91, 105, 100, 61, p0, 44, 32, 119, 111, 114, 100, 115, 61, r0, r1, 93] _ Sy) (by simp) (by decide) (Nat.le_of_ble_eq_true rfl) rfl rfl (by decide) (by decide) ?_
      intro v448 h449 sh449 q450
      obtain ⟨rfl, ee⟩ := q450
      obtain rfl := ee.symm
      refine ⟨_, fun _ hx => Or.inl hx, ?_⟩
      show oGo l Z a0 EL True pP eE sS mM _ bB tT cC _ _ _ _ _ _ _ _ [a420] h446 37 1067 109 #[.val (.int i0), .val (.int i1), .val (.int i2), .val (.int i3), .val (.int (1 : Int32)), .val (.int (2 : Int32)), .val (.int p0), .val (.int p1), .val (.int r0), .val (.int r1), .val (.ref p), .val (.ref r), .val (.ref a420), .val (.ref y), .unset] [.int (27 : Int32)]
      refine oGo.bipush (pc' := 111) (v := 24) at_109 rfl (by decide) ?_
      refine oGo.iload (pc' := 113) at_111 rfl rfl ?_
      refine oGo.iadd (pc' := 114) at_113 rfl ?_
      rw [show (24 : Int32) + (1 : Int32) = (25 : Int32) from by decide]
      refine oGo.iload (pc' := 116) at_114 rfl rfl ?_
      refine oGo.iadd (pc' := 117) at_116 rfl ?_
      rw [show (25 : Int32) + (2 : Int32) = (27 : Int32) from by decide]
      refine oGo.icmp_eq (pc1 := 120) (pc2 := 122) at_117 rfl (by decide) (fun q451 => ?_) (fun q => by first | exact absurd q (by decide) | exact absurd (by decide) q)
      refine oGo.aload (pc' := 124) at_122 rfl rfl rfl ?_
      refine oGo.iconst (pc' := 125) (v := 0) at_124 rfl (by decide) ?_
      refine oGo.ldc_str (pc' := 127) (k' := 39) (n' := 1103) (vs := oI (([74, 117, 100, 103, 101, 100, 81, 117] : List Int32).map lo8)) at_125 rfl trivial (w207 hG) (strAt hG) (hG.2.2.2 _ (by decide)) (by decide) (by decide) rfl rfl (by decide) (by decide) ?_
      intro h452 a453 b454 E455 Xa453 Ca453 Va453 Ba453 la453 lb454 na453
      have S456 : oS Z h452 a453 b454 [74, 117, 100, 103, 101, 100, 81, 117] := ⟨Xa453, Va453, Ca453, Ba453, by decide⟩
      have f457 := Sy.ext E455
      refine oGo.invokestatic (pc' := 130) (k' := 39) (n' := 1103) (argsL := [.ref y, .int (0 : Int32), .ref a453]) (rest := []) at_127 rfl (w208 hG) (w209 hG) (w3 hG) (w210 hG) (by decide) pd33 rfl rfl rfl (c_eq8 hG y ty a453 b454 [74, 117, 100, 103, 101, 100, 81, 117, 101, 114, 121, 91, 105, 100, 61, p0, 44, 32, 119, 111, 114, 100, 115, 61, r0, r1, 93] [74, 117, 100, 103, 101, 100, 81, 117] 0 (fun j hj => own_eq8 [74, 117, 100, 103, 101, 100, 81, 117, 101, 114, 121, 91, 105, 100, 61, p0, 44, 32, 119, 111, 114, 100, 115, 61, r0, r1, 93] [74, 117, 100, 103, 101, 100, 81, 117] 0 ⟨rfl, rfl⟩ j hj) _ f457 S456) (by simp) (by decide) (Nat.le_of_ble_eq_true rfl) rfl rfl (by decide) (by decide) ?_
      intro v458 h459 sh459 q460
      obtain ⟨rfl, ee⟩ := q460
      obtain rfl := ee.symm
      refine ⟨_, fun _ hx => Or.inl hx, ?_⟩
      show oGo l Z a0 EL True pP eE sS mM _ bB tT cC _ _ _ _ _ _ _ _ [a420] h452 39 1103 130 #[.val (.int i0), .val (.int i1), .val (.int i2), .val (.int i3), .val (.int (1 : Int32)), .val (.int (2 : Int32)), .val (.int p0), .val (.int p1), .val (.int r0), .val (.int r1), .val (.ref p), .val (.ref r), .val (.ref a420), .val (.ref y), .unset] [.int (1 : Int32)]
      refine oGo.if_eq (pc1 := 133) (pc2 := 145) at_130 rfl (by decide) (fun q => by first | exact absurd q (by decide) | exact absurd (by decide) q) (fun q461 => ?_)
      refine oGo.aload (pc' := 135) at_133 rfl rfl rfl ?_
      refine oGo.bipush (pc' := 137) (v := 7) at_135 rfl (by decide) ?_
      refine oGo.ldc_str (pc' := 139) (k' := 41) (n' := 1139) (vs := oI (([117, 101, 114, 121, 91, 105, 100, 61] : List Int32).map lo8)) at_137 rfl trivial (w233 hG) (strAt hG) (hG.2.2.2 _ (by decide)) (by decide) (by decide) rfl rfl (by decide) (by decide) ?_
      intro h462 a463 b464 E465 Xa463 Ca463 Va463 Ba463 la463 lb464 na463
      have S466 : oS Z h462 a463 b464 [117, 101, 114, 121, 91, 105, 100, 61] := ⟨Xa463, Va463, Ca463, Ba463, by decide⟩
      have f467 := f457.ext E465
      refine oGo.invokestatic (pc' := 142) (k' := 41) (n' := 1139) (argsL := [.ref y, .int (7 : Int32), .ref a463]) (rest := []) at_139 rfl (w208 hG) (w209 hG) (w3 hG) (w210 hG) (by decide) pd33 rfl rfl rfl (c_eq8 hG y ty a463 b464 [74, 117, 100, 103, 101, 100, 81, 117, 101, 114, 121, 91, 105, 100, 61, p0, 44, 32, 119, 111, 114, 100, 115, 61, r0, r1, 93] [117, 101, 114, 121, 91, 105, 100, 61] 7 (fun j hj => own_eq8 [74, 117, 100, 103, 101, 100, 81, 117, 101, 114, 121, 91, 105, 100, 61, p0, 44, 32, 119, 111, 114, 100, 115, 61, r0, r1, 93] [117, 101, 114, 121, 91, 105, 100, 61] 7 ⟨rfl, rfl⟩ j hj) _ f467 S466) (by simp) (by decide) (Nat.le_of_ble_eq_true rfl) rfl rfl (by decide) (by decide) ?_
      intro v468 h469 sh469 q470
      obtain ⟨rfl, ee⟩ := q470
      obtain rfl := ee.symm
      refine ⟨_, fun _ hx => Or.inl hx, ?_⟩
      show oGo l Z a0 EL True pP eE sS mM _ bB tT cC _ _ _ _ _ _ _ _ [a420] h462 41 1139 142 #[.val (.int i0), .val (.int i1), .val (.int i2), .val (.int i3), .val (.int (1 : Int32)), .val (.int (2 : Int32)), .val (.int p0), .val (.int p1), .val (.int r0), .val (.int r1), .val (.ref p), .val (.ref r), .val (.ref a420), .val (.ref y), .unset] [.int (1 : Int32)]
      refine oGo.if_ne (pc1 := 145) (pc2 := 147) at_142 rfl (by decide) (fun q471 => ?_) (fun q => by first | exact absurd q (by decide) | exact absurd (by decide) q)
      refine oGo.iload (pc' := 149) at_147 rfl rfl ?_
      refine oGo.iconst (pc' := 150) (v := 1) at_149 rfl (by decide) ?_
      refine oGo.icmp_lt (pc1 := 153) (pc2 := 167) at_150 rfl (by decide) (fun q => by first | exact absurd q (by decide) | exact absurd (by decide) q) (fun q472 => ?_)
      refine oGo.aload (pc' := 155) at_153 rfl rfl rfl ?_
      refine oGo.bipush (pc' := 157) (v := 15) at_155 rfl (by decide) ?_
      have f476 := Exa.ext E455 Sy.1
      have f477 := Exa.ext E465 f476
      refine oGo.invokevirtual (pc' := 160) (k' := 41) (n' := 1139) (a := y) (argsL := [.int (15 : Int32)]) (rest := []) at_157 rfl (w211 hG) (w212 hG) (w214 hG) (w214 hG) rfl (w213 hG) (w7 hG) (w215 hG) (by decide) pd29 rfl rfl rfl f477 (c_charAt hG y ty [74, 117, 100, 103, 101, 100, 81, 117, 101, 114, 121, 91, 105, 100, 61, p0, 44, 32, 119, 111, 114, 100, 115, 61, r0, r1, 93] 15 p0 rfl _ f467) (by simp) (by decide) (Nat.le_of_ble_eq_true rfl) rfl rfl (by decide) (by decide) ?_
      intro v473 h474 sh474 q475
      obtain ⟨rfl, ee⟩ := q475
      obtain rfl := ee.symm
      refine ⟨_, fun _ hx => Or.inl hx, ?_⟩
      show oGo l Z a0 EL True pP eE sS mM _ bB tT cC _ _ _ _ _ _ _ _ [a420] h462 41 1139 160 #[.val (.int i0), .val (.int i1), .val (.int i2), .val (.int i3), .val (.int (1 : Int32)), .val (.int (2 : Int32)), .val (.int p0), .val (.int p1), .val (.int r0), .val (.int r1), .val (.ref p), .val (.ref r), .val (.ref a420), .val (.ref y), .unset] [.int p0]
      refine oGo.iload (pc' := 162) at_160 rfl rfl ?_
      refine oGo.icmp_eq (pc1 := 165) (pc2 := 167) at_162 rfl (by decide) (fun q478 => ?_) (fun q => absurd rfl q)
      refine oGo.iload (pc' := 169) at_167 rfl rfl ?_
      refine oGo.iconst (pc' := 170) (v := 2) at_169 rfl (by decide) ?_
      refine oGo.icmp_lt (pc1 := 173) (pc2 := 187) at_170 rfl (by decide) (fun q479 => ?_) (fun q => by first | exact absurd q (by decide) | exact absurd (by decide) q)
      refine oGo.aload (pc' := 189) at_187 rfl rfl rfl ?_
      refine oGo.bipush (pc' := 191) (v := 15) at_189 rfl (by decide) ?_
      refine oGo.iload (pc' := 193) at_191 rfl rfl ?_
      refine oGo.iadd (pc' := 194) at_193 rfl ?_
      rw [show (15 : Int32) + (1 : Int32) = (16 : Int32) from by decide]
      refine oGo.ldc_str (pc' := 196) (k' := 43) (n' := 1175) (vs := oI (([44, 32, 119, 111, 114, 100, 115, 61] : List Int32).map lo8)) at_194 rfl trivial (w234 hG) (strAt hG) (hG.2.2.2 _ (by decide)) (by decide) (by decide) rfl rfl (by decide) (by decide) ?_
      intro h480 a481 b482 E483 Xa481 Ca481 Va481 Ba481 la481 lb482 na481
      have S484 : oS Z h480 a481 b482 [44, 32, 119, 111, 114, 100, 115, 61] := ⟨Xa481, Va481, Ca481, Ba481, by decide⟩
      have f485 := f467.ext E483
      refine oGo.invokestatic (pc' := 199) (k' := 43) (n' := 1175) (argsL := [.ref y, .int (16 : Int32), .ref a481]) (rest := []) at_196 rfl (w208 hG) (w209 hG) (w3 hG) (w210 hG) (by decide) pd33 rfl rfl rfl (c_eq8 hG y ty a481 b482 [74, 117, 100, 103, 101, 100, 81, 117, 101, 114, 121, 91, 105, 100, 61, p0, 44, 32, 119, 111, 114, 100, 115, 61, r0, r1, 93] [44, 32, 119, 111, 114, 100, 115, 61] 16 (fun j hj => own_eq8 [74, 117, 100, 103, 101, 100, 81, 117, 101, 114, 121, 91, 105, 100, 61, p0, 44, 32, 119, 111, 114, 100, 115, 61, r0, r1, 93] [44, 32, 119, 111, 114, 100, 115, 61] 16 ⟨rfl, rfl⟩ j hj) _ f485 S484) (by simp) (by decide) (Nat.le_of_ble_eq_true rfl) rfl rfl (by decide) (by decide) ?_
      intro v486 h487 sh487 q488
      obtain ⟨rfl, ee⟩ := q488
      obtain rfl := ee.symm
      refine ⟨_, fun _ hx => Or.inl hx, ?_⟩
      show oGo l Z a0 EL True pP eE sS mM _ bB tT cC _ _ _ _ _ _ _ _ [a420] h480 43 1175 199 #[.val (.int i0), .val (.int i1), .val (.int i2), .val (.int i3), .val (.int (1 : Int32)), .val (.int (2 : Int32)), .val (.int p0), .val (.int p1), .val (.int r0), .val (.int r1), .val (.ref p), .val (.ref r), .val (.ref a420), .val (.ref y), .unset] [.int (1 : Int32)]
      refine oGo.if_ne (pc1 := 202) (pc2 := 204) at_199 rfl (by decide) (fun q489 => ?_) (fun q => by first | exact absurd q (by decide) | exact absurd (by decide) q)
      refine oGo.bipush (pc' := 206) (v := 23) at_204 rfl (by decide) ?_
      refine oGo.iload (pc' := 208) at_206 rfl rfl ?_
      refine oGo.iadd (pc' := 209) at_208 rfl ?_
      rw [show (23 : Int32) + (1 : Int32) = (24 : Int32) from by decide]
      refine oGo.istore (pc' := 211) (Ls' := #[.val (.int i0), .val (.int i1), .val (.int i2), .val (.int i3), .val (.int (1 : Int32)), .val (.int (2 : Int32)), .val (.int p0), .val (.int p1), .val (.int r0), .val (.int r1), .val (.ref p), .val (.ref r), .val (.ref a420), .val (.ref y), .val (.int (24 : Int32))]) at_209 rfl rfl ?_
      refine oGo.iload (pc' := 213) at_211 rfl rfl ?_
      refine oGo.iconst (pc' := 214) (v := 1) at_213 rfl (by decide) ?_
      refine oGo.icmp_lt (pc1 := 217) (pc2 := 231) at_214 rfl (by decide) (fun q => by first | exact absurd q (by decide) | exact absurd (by decide) q) (fun q490 => ?_)
      refine oGo.aload (pc' := 219) at_217 rfl rfl rfl ?_
      refine oGo.iload (pc' := 221) at_219 rfl rfl ?_
      have f494 := Exa.ext E483 f477
      refine oGo.invokevirtual (pc' := 224) (k' := 43) (n' := 1175) (a := y) (argsL := [.int (24 : Int32)]) (rest := []) at_221 rfl (w211 hG) (w212 hG) (w214 hG) (w214 hG) rfl (w213 hG) (w7 hG) (w215 hG) (by decide) pd29 rfl rfl rfl f494 (c_charAt hG y ty [74, 117, 100, 103, 101, 100, 81, 117, 101, 114, 121, 91, 105, 100, 61, p0, 44, 32, 119, 111, 114, 100, 115, 61, r0, r1, 93] 24 r0 rfl _ f485) (by simp) (by decide) (Nat.le_of_ble_eq_true rfl) rfl rfl (by decide) (by decide) ?_
      intro v491 h492 sh492 q493
      obtain ⟨rfl, ee⟩ := q493
      obtain rfl := ee.symm
      refine ⟨_, fun _ hx => Or.inl hx, ?_⟩
      show oGo l Z a0 EL True pP eE sS mM _ bB tT cC _ _ _ _ _ _ _ _ [a420] h480 43 1175 224 #[.val (.int i0), .val (.int i1), .val (.int i2), .val (.int i3), .val (.int (1 : Int32)), .val (.int (2 : Int32)), .val (.int p0), .val (.int p1), .val (.int r0), .val (.int r1), .val (.ref p), .val (.ref r), .val (.ref a420), .val (.ref y), .val (.int (24 : Int32))] [.int r0]
      refine oGo.iload (pc' := 226) at_224 rfl rfl ?_
      refine oGo.icmp_eq (pc1 := 229) (pc2 := 231) at_226 rfl (by decide) (fun q495 => ?_) (fun q => absurd rfl q)
      refine oGo.iload (pc' := 233) at_231 rfl rfl ?_
      refine oGo.iconst (pc' := 234) (v := 2) at_233 rfl (by decide) ?_
      refine oGo.icmp_lt (pc1 := 237) (pc2 := 253) at_234 rfl (by decide) (fun q => by first | exact absurd q (by decide) | exact absurd (by decide) q) (fun q496 => ?_)
      refine oGo.aload (pc' := 239) at_237 rfl rfl rfl ?_
      refine oGo.iload (pc' := 241) at_239 rfl rfl ?_
      refine oGo.iconst (pc' := 242) (v := 1) at_241 rfl (by decide) ?_
      refine oGo.iadd (pc' := 243) at_242 rfl ?_
      rw [show (24 : Int32) + (1 : Int32) = (25 : Int32) from by decide]
      refine oGo.invokevirtual (pc' := 246) (k' := 43) (n' := 1175) (a := y) (argsL := [.int (25 : Int32)]) (rest := []) at_243 rfl (w211 hG) (w212 hG) (w214 hG) (w214 hG) rfl (w213 hG) (w7 hG) (w215 hG) (by decide) pd29 rfl rfl rfl f494 (c_charAt hG y ty [74, 117, 100, 103, 101, 100, 81, 117, 101, 114, 121, 91, 105, 100, 61, p0, 44, 32, 119, 111, 114, 100, 115, 61, r0, r1, 93] 25 r1 rfl _ f485) (by simp) (by decide) (Nat.le_of_ble_eq_true rfl) rfl rfl (by decide) (by decide) ?_
      intro v497 h498 sh498 q499
      obtain ⟨rfl, ee⟩ := q499
      obtain rfl := ee.symm
      refine ⟨_, fun _ hx => Or.inl hx, ?_⟩
      show oGo l Z a0 EL True pP eE sS mM _ bB tT cC _ _ _ _ _ _ _ _ [a420] h480 43 1175 246 #[.val (.int i0), .val (.int i1), .val (.int i2), .val (.int i3), .val (.int (1 : Int32)), .val (.int (2 : Int32)), .val (.int p0), .val (.int p1), .val (.int r0), .val (.int r1), .val (.ref p), .val (.ref r), .val (.ref a420), .val (.ref y), .val (.int (24 : Int32))] [.int r1]
      refine oGo.iload (pc' := 248) at_246 rfl rfl ?_
      refine oGo.icmp_eq (pc1 := 251) (pc2 := 253) at_248 rfl (by decide) (fun q500 => ?_) (fun q => absurd rfl q)
      refine oGo.aload (pc' := 255) at_253 rfl rfl rfl ?_
      refine oGo.iload (pc' := 257) at_255 rfl rfl ?_
      refine oGo.iload (pc' := 259) at_257 rfl rfl ?_
      refine oGo.iadd (pc' := 260) at_259 rfl ?_
      rw [show (24 : Int32) + (2 : Int32) = (26 : Int32) from by decide]
      refine oGo.invokevirtual (pc' := 263) (k' := 43) (n' := 1175) (a := y) (argsL := [.int (26 : Int32)]) (rest := []) at_260 rfl (w211 hG) (w212 hG) (w214 hG) (w214 hG) rfl (w213 hG) (w7 hG) (w215 hG) (by decide) pd29 rfl rfl rfl f494 (c_charAt hG y ty [74, 117, 100, 103, 101, 100, 81, 117, 101, 114, 121, 91, 105, 100, 61, p0, 44, 32, 119, 111, 114, 100, 115, 61, r0, r1, 93] 26 93 rfl _ f485) (by simp) (by decide) (Nat.le_of_ble_eq_true rfl) rfl rfl (by decide) (by decide) ?_
      intro v501 h502 sh502 q503
      obtain ⟨rfl, ee⟩ := q503
      obtain rfl := ee.symm
      refine ⟨_, fun _ hx => Or.inl hx, ?_⟩
      show oGo l Z a0 EL True pP eE sS mM _ bB tT cC _ _ _ _ _ _ _ _ [a420] h480 43 1175 263 #[.val (.int i0), .val (.int i1), .val (.int i2), .val (.int i3), .val (.int (1 : Int32)), .val (.int (2 : Int32)), .val (.int p0), .val (.int p1), .val (.int r0), .val (.int r1), .val (.ref p), .val (.ref r), .val (.ref a420), .val (.ref y), .val (.int (24 : Int32))] [.int (93 : Int32)]
      refine oGo.bipush (pc' := 265) (v := 93) at_263 rfl (by decide) ?_
      refine oGo.icmp_ne (pc1 := 268) (pc2 := 272) at_265 rfl (by decide) (fun q => absurd rfl q) (fun q504 => ?_)
      refine oGo.iconst (pc' := 269) (v := 1) at_268 rfl (by decide) ?_
      refine oGo.goto (pc' := 273) at_269 (by decide) ?_
      exact oGo.nreturn at_273 rfl (by simp) rfl (by decide) (by decide) rfl (fun _ q => q.elim)
  · show oGo l Z a0 EL True pP eE sS mM _ bB tT cC _ _ _ _ _ _ _ _ [] h 0 0 52 #[.val (.int i0), .val (.int i1), .val (.int i2), .val (.int i3), .val (.int (2 : Int32)), .val (.int (Int32.ofNat lw)), .val (.int p0), .val (.int p1), .val (.int r0), .unset, .unset, .unset, .unset, .unset, .unset] [.int r1]
    refine oGo.istore (pc' := 54) (Ls' := #[.val (.int i0), .val (.int i1), .val (.int i2), .val (.int i3), .val (.int (2 : Int32)), .val (.int (Int32.ofNat lw)), .val (.int p0), .val (.int p1), .val (.int r0), .val (.int r1), .unset, .unset, .unset, .unset, .unset]) at_52 rfl rfl ?_
    refine oGo.iload (pc' := 56) at_54 rfl rfl ?_
    refine oGo.iload (pc' := 58) at_56 rfl rfl ?_
    refine oGo.iload (pc' := 60) at_58 rfl rfl ?_
    refine oGo.invokestatic (pc' := 63) (k' := 6) (n' := 14) (argsL := [.int (2 : Int32), .int p0, .int p1]) (rest := []) at_60 rfl (w1 hG) (w2 hG) (w3 hG) (w4 hG) (by decide) pd30 rfl rfl rfl (c_mk2 hG p0 p1 bp0 bp1 _) (by simp) (by decide) (Nat.le_of_ble_eq_true rfl) rfl rfl (by decide) (by decide) ?_
    intro v505 h506 sh506 q507
    obtain ⟨K1, p, tp, rfl, Sp⟩ := q507
    have lp := own_ltN Sp.1.lt
    have ltp := own_ltN Sp.2.2.2.1.lt
    refine ⟨_, fun _ hx => Or.inl hx, ?_⟩
    show oGo l Z a0 EL True pP eE sS mM _ bB tT cC _ _ _ _ _ _ _ _ [] h506 6 14 63 #[.val (.int i0), .val (.int i1), .val (.int i2), .val (.int i3), .val (.int (2 : Int32)), .val (.int (Int32.ofNat lw)), .val (.int p0), .val (.int p1), .val (.int r0), .val (.int r1), .unset, .unset, .unset, .unset, .unset] [.ref p]
    rcases (show lw = 0 ∨ lw = 1 ∨ lw = 2 by omega) with rfl | rfl | rfl
    · show oGo l Z a0 EL True pP eE sS mM _ bB tT cC _ _ _ _ _ _ _ _ [] h506 6 14 63 #[.val (.int i0), .val (.int i1), .val (.int i2), .val (.int i3), .val (.int (2 : Int32)), .val (.int (0 : Int32)), .val (.int p0), .val (.int p1), .val (.int r0), .val (.int r1), .unset, .unset, .unset, .unset, .unset] [.ref p]
      refine oGo.astore (pc' := 65) (Ls' := #[.val (.int i0), .val (.int i1), .val (.int i2), .val (.int i3), .val (.int (2 : Int32)), .val (.int (0 : Int32)), .val (.int p0), .val (.int p1), .val (.int r0), .val (.int r1), .val (.ref p), .unset, .unset, .unset, .unset]) at_63 rfl rfl rfl ?_
      refine oGo.iload (pc' := 67) at_65 rfl rfl ?_
      refine oGo.iload (pc' := 69) at_67 rfl rfl ?_
      refine oGo.iload (pc' := 71) at_69 rfl rfl ?_
      refine oGo.invokestatic (pc' := 74) (k' := 12) (n' := 28) (argsL := [.int (0 : Int32), .int r0, .int r1]) (rest := []) at_71 rfl (w1 hG) (w2 hG) (w3 hG) (w4 hG) (by decide) pd30 rfl rfl rfl (c_mk0 hG r0 r1 br0 br1 _) (by simp) (by decide) (Nat.le_of_ble_eq_true rfl) rfl rfl (by decide) (by decide) ?_
      intro v508 h509 sh509 q510
      obtain ⟨K2, r, tr, rfl, Sr⟩ := q510
      have lr := own_ltN Sr.1.lt
      have ltr := own_ltN Sr.2.2.2.1.lt
      refine ⟨_, fun _ hx => Or.inl hx, ?_⟩
      show oGo l Z a0 EL True pP eE sS mM _ bB tT cC _ _ _ _ _ _ _ _ [] h509 12 28 74 #[.val (.int i0), .val (.int i1), .val (.int i2), .val (.int i3), .val (.int (2 : Int32)), .val (.int (0 : Int32)), .val (.int p0), .val (.int p1), .val (.int r0), .val (.int r1), .val (.ref p), .unset, .unset, .unset, .unset] [.ref r]
      refine oGo.astore (pc' := 76) (Ls' := #[.val (.int i0), .val (.int i1), .val (.int i2), .val (.int i3), .val (.int (2 : Int32)), .val (.int (0 : Int32)), .val (.int p0), .val (.int p1), .val (.int r0), .val (.int r1), .val (.ref p), .val (.ref r), .unset, .unset, .unset]) at_74 rfl rfl rfl ?_
      refine oGo.new (pc' := 79) (k' := 13) (n' := 31) at_76 rfl (w38 hG) (w39 hG) (w40 hG) rfl rfl (by decide) (by decide) ?_
      intro h511 a512 qa512 la512 E513 X514 F515
      have f516 := F515 (Or.inr (w58 hG)) (ty := (.object "java/lang/String")) (by decide)
      have f517 := F515 (Or.inr (w61 hG)) (ty := (.object "java/lang/String")) (by decide)
      have f518 := F515 (Or.inr (w70 hG)) (ty := (.object "java/util/Set")) (by decide)
      refine oGo.dup (pc' := 80) at_79 rfl rfl ?_
      refine oGo.aload (pc' := 82) at_80 rfl rfl rfl ?_
      refine oGo.aload (pc' := 84) at_82 rfl rfl rfl ?_
      refine oGo.invokestatic (pc' := 87) (k' := 13) (n' := 31) (argsL := []) (rest := [.ref r, .ref p, .ref a512, .ref a512]) at_84 rfl (w41 hG) (w42 hG) (w43 hG) (w44 hG) (by decide) pd31 rfl rfl rfl (c_setOf hG es _ Se) (by simp) (by decide) (Nat.le_of_ble_eq_true rfl) rfl rfl (by decide) (by decide) ?_
      intro v519 h520 sh520 q521
      obtain ⟨rfl, ee⟩ := q521
      obtain rfl := ee.symm
      refine ⟨_, fun _ hx => Or.inl hx, ?_⟩
      show oGo l Z a0 EL True pP eE sS mM _ bB tT cC _ _ _ _ _ _ _ _ [a512] h511 13 31 87 #[.val (.int i0), .val (.int i1), .val (.int i2), .val (.int i3), .val (.int (2 : Int32)), .val (.int (0 : Int32)), .val (.int p0), .val (.int p1), .val (.int r0), .val (.int r1), .val (.ref p), .val (.ref r), .unset, .unset, .unset] [.ref es, .ref r, .ref p, .ref a512, .ref a512]
      refine oGo.old (fun hO522 hO522' => ?_)
      have f523 := Exa.ext hO522 Ee
      have lf523 := own_ltN Ee.lt
      have f524 := Exa.keep Sp.1 K2
      have f525 := Exa.ext E513 f524
      have f526 := Exa.ext E513 Sr.1
      refine oGo.invokespecial (pc' := 90) (k' := 17) (n' := 67) (a := a512) (argsL := [.ref p, .ref r, .ref es]) (rest := [.ref a512]) at_87 rfl rfl (w47 hG) (w48 hG) (w40 hG) (w49 hG) (by decide) pd32 rfl rfl rfl (c_jq hG a512 p r es _ X514 f525 f526 f523 f516 f517 f518) (by simp) (by decide) (Nat.le_of_ble_eq_true rfl) rfl rfl (by decide) (by decide) ?_
      intro v527 h528 sh528 q529
      obtain ⟨rfl, KB, EB, G1, G2⟩ := q529
      refine ⟨_, fun _ hx => Or.inl hx, ?_⟩
      show oGo l Z a0 EL True pP eE sS mM _ bB tT cC _ _ _ _ _ _ _ _ [a512] h528 17 67 90 #[.val (.int i0), .val (.int i1), .val (.int i2), .val (.int i3), .val (.int (2 : Int32)), .val (.int (0 : Int32)), .val (.int p0), .val (.int p1), .val (.int r0), .val (.int r1), .val (.ref p), .val (.ref r), .unset, .unset, .unset] [.ref a512]
      refine oGo.astore (pc' := 92) (Ls' := #[.val (.int i0), .val (.int i1), .val (.int i2), .val (.int i3), .val (.int (2 : Int32)), .val (.int (0 : Int32)), .val (.int p0), .val (.int p1), .val (.int r0), .val (.int r1), .val (.ref p), .val (.ref r), .val (.ref a512), .unset, .unset]) at_90 rfl rfl rfl ?_
      refine oGo.aload (pc' := 94) at_92 rfl rfl rfl ?_
      have f530 := Sp.keep K2 nin0 nin0
      have f531 := f530.ext E513
      have g533 := own_lt_le (x := p) lp K2.1
      have g534 := own_lt_le (x := tp) ltp K2.1
      have f532 := f531.keep KB (own_nin1 (own_ne_ge (x := p) (y := a512) g533 (own_ge_eq qa512))) (own_nin1 (own_ne_ge (x := tp) (y := a512) g534 (own_ge_eq qa512)))
      have f535 := Sr.ext E513
      have f536 := f535.keep KB (own_nin1 (own_ne_ge (x := r) (y := a512) lr (own_ge_eq qa512))) (own_nin1 (own_ne_ge (x := tr) (y := a512) ltr (own_ge_eq qa512)))
      refine oGo.invokevirtual (pc' := 97) (k' := 37) (n' := 1067) (a := a512) (argsL := []) (rest := []) at_94 rfl (w71 hG) (w72 hG) (w74 hG) (w74 hG) rfl (w73 hG) (w40 hG) (w75 hG) (by decide) pd28 rfl rfl rfl EB (c_ts20 hG a512 p tp r tr p0 p1 bp0 bp1 _ G1 G2 f532 f536) (by simp) (by decide) (Nat.le_of_ble_eq_true rfl) rfl rfl (by decide) (by decide) ?_
      intro v537 h538 sh538 q539
      obtain ⟨KT, y, ty, rfl, gy, gty, Sy⟩ := q539
      refine ⟨_, fun _ hx => Or.inl hx, ?_⟩
      show oGo l Z a0 EL True pP eE sS mM _ bB tT cC _ _ _ _ _ _ _ _ [a512] h538 37 1067 97 #[.val (.int i0), .val (.int i1), .val (.int i2), .val (.int i3), .val (.int (2 : Int32)), .val (.int (0 : Int32)), .val (.int p0), .val (.int p1), .val (.int r0), .val (.int r1), .val (.ref p), .val (.ref r), .val (.ref a512), .unset, .unset] [.ref y]
      refine oGo.astore (pc' := 99) (Ls' := #[.val (.int i0), .val (.int i1), .val (.int i2), .val (.int i3), .val (.int (2 : Int32)), .val (.int (0 : Int32)), .val (.int p0), .val (.int p1), .val (.int r0), .val (.int r1), .val (.ref p), .val (.ref r), .val (.ref a512), .val (.ref y), .unset]) at_97 rfl rfl rfl ?_
      refine oGo.aload (pc' := 101) at_99 rfl rfl rfl ?_
      refine oGo.ifnull_n (pc1 := 104) at_101 rfl ?_
      refine oGo.aload (pc' := 106) at_104 rfl rfl rfl ?_
      refine oGo.invokevirtual (pc' := 109) (k' := 37) (n' := 1067) (a := y) (argsL := []) (rest := []) at_106 rfl (w206 hG) (w106 hG) (w108 hG) (w108 hG) rfl (w107 hG) (w7 hG) (w109 hG) (by decide) pd14 rfl rfl rfl Sy.1 (c_length hG y ty [74, 117, 100, 103, 101, 100, 81, 117, 101, 114, 121, 91, 105, 100, 61, p0, p1, 44, 32, 119, 111, 114, 100, 115, 61, 93] _ Sy) (by simp) (by decide) (Nat.le_of_ble_eq_true rfl) rfl rfl (by decide) (by decide) ?_
      intro v540 h541 sh541 q542
      obtain ⟨rfl, ee⟩ := q542
      obtain rfl := ee.symm
      refine ⟨_, fun _ hx => Or.inl hx, ?_⟩
      show oGo l Z a0 EL True pP eE sS mM _ bB tT cC _ _ _ _ _ _ _ _ [a512] h538 37 1067 109 #[.val (.int i0), .val (.int i1), .val (.int i2), .val (.int i3), .val (.int (2 : Int32)), .val (.int (0 : Int32)), .val (.int p0), .val (.int p1), .val (.int r0), .val (.int r1), .val (.ref p), .val (.ref r), .val (.ref a512), .val (.ref y), .unset] [.int (26 : Int32)]
      refine oGo.bipush (pc' := 111) (v := 24) at_109 rfl (by decide) ?_
      refine oGo.iload (pc' := 113) at_111 rfl rfl ?_
      refine oGo.iadd (pc' := 114) at_113 rfl ?_
      rw [show (24 : Int32) + (2 : Int32) = (26 : Int32) from by decide]
      refine oGo.iload (pc' := 116) at_114 rfl rfl ?_
      refine oGo.iadd (pc' := 117) at_116 rfl ?_
      rw [show (26 : Int32) + (0 : Int32) = (26 : Int32) from by decide]
      refine oGo.icmp_eq (pc1 := 120) (pc2 := 122) at_117 rfl (by decide) (fun q543 => ?_) (fun q => by first | exact absurd q (by decide) | exact absurd (by decide) q)
      refine oGo.aload (pc' := 124) at_122 rfl rfl rfl ?_
      refine oGo.iconst (pc' := 125) (v := 0) at_124 rfl (by decide) ?_
      refine oGo.ldc_str (pc' := 127) (k' := 39) (n' := 1103) (vs := oI (([74, 117, 100, 103, 101, 100, 81, 117] : List Int32).map lo8)) at_125 rfl trivial (w207 hG) (strAt hG) (hG.2.2.2 _ (by decide)) (by decide) (by decide) rfl rfl (by decide) (by decide) ?_
      intro h544 a545 b546 E547 Xa545 Ca545 Va545 Ba545 la545 lb546 na545
      have S548 : oS Z h544 a545 b546 [74, 117, 100, 103, 101, 100, 81, 117] := ⟨Xa545, Va545, Ca545, Ba545, by decide⟩
      have f549 := Sy.ext E547
      refine oGo.invokestatic (pc' := 130) (k' := 39) (n' := 1103) (argsL := [.ref y, .int (0 : Int32), .ref a545]) (rest := []) at_127 rfl (w208 hG) (w209 hG) (w3 hG) (w210 hG) (by decide) pd33 rfl rfl rfl (c_eq8 hG y ty a545 b546 [74, 117, 100, 103, 101, 100, 81, 117, 101, 114, 121, 91, 105, 100, 61, p0, p1, 44, 32, 119, 111, 114, 100, 115, 61, 93] [74, 117, 100, 103, 101, 100, 81, 117] 0 (fun j hj => own_eq8 [74, 117, 100, 103, 101, 100, 81, 117, 101, 114, 121, 91, 105, 100, 61, p0, p1, 44, 32, 119, 111, 114, 100, 115, 61, 93] [74, 117, 100, 103, 101, 100, 81, 117] 0 ⟨rfl, rfl⟩ j hj) _ f549 S548) (by simp) (by decide) (Nat.le_of_ble_eq_true rfl) rfl rfl (by decide) (by decide) ?_
      intro v550 h551 sh551 q552
      obtain ⟨rfl, ee⟩ := q552
      obtain rfl := ee.symm
      refine ⟨_, fun _ hx => Or.inl hx, ?_⟩
      show oGo l Z a0 EL True pP eE sS mM _ bB tT cC _ _ _ _ _ _ _ _ [a512] h544 39 1103 130 #[.val (.int i0), .val (.int i1), .val (.int i2), .val (.int i3), .val (.int (2 : Int32)), .val (.int (0 : Int32)), .val (.int p0), .val (.int p1), .val (.int r0), .val (.int r1), .val (.ref p), .val (.ref r), .val (.ref a512), .val (.ref y), .unset] [.int (1 : Int32)]
      refine oGo.if_eq (pc1 := 133) (pc2 := 145) at_130 rfl (by decide) (fun q => by first | exact absurd q (by decide) | exact absurd (by decide) q) (fun q553 => ?_)
      refine oGo.aload (pc' := 135) at_133 rfl rfl rfl ?_
      refine oGo.bipush (pc' := 137) (v := 7) at_135 rfl (by decide) ?_
      refine oGo.ldc_str (pc' := 139) (k' := 41) (n' := 1139) (vs := oI (([117, 101, 114, 121, 91, 105, 100, 61] : List Int32).map lo8)) at_137 rfl trivial (w233 hG) (strAt hG) (hG.2.2.2 _ (by decide)) (by decide) (by decide) rfl rfl (by decide) (by decide) ?_
      intro h554 a555 b556 E557 Xa555 Ca555 Va555 Ba555 la555 lb556 na555
      have S558 : oS Z h554 a555 b556 [117, 101, 114, 121, 91, 105, 100, 61] := ⟨Xa555, Va555, Ca555, Ba555, by decide⟩
      have f559 := f549.ext E557
      refine oGo.invokestatic (pc' := 142) (k' := 41) (n' := 1139) (argsL := [.ref y, .int (7 : Int32), .ref a555]) (rest := []) at_139 rfl (w208 hG) (w209 hG) (w3 hG) (w210 hG) (by decide) pd33 rfl rfl rfl (c_eq8 hG y ty a555 b556 [74, 117, 100, 103, 101, 100, 81, 117, 101, 114, 121, 91, 105, 100, 61, p0, p1, 44, 32, 119, 111, 114, 100, 115, 61, 93] [117, 101, 114, 121, 91, 105, 100, 61] 7 (fun j hj => own_eq8 [74, 117, 100, 103, 101, 100, 81, 117, 101, 114, 121, 91, 105, 100, 61, p0, p1, 44, 32, 119, 111, 114, 100, 115, 61, 93] [117, 101, 114, 121, 91, 105, 100, 61] 7 ⟨rfl, rfl⟩ j hj) _ f559 S558) (by simp) (by decide) (Nat.le_of_ble_eq_true rfl) rfl rfl (by decide) (by decide) ?_
      intro v560 h561 sh561 q562
      obtain ⟨rfl, ee⟩ := q562
      obtain rfl := ee.symm
      refine ⟨_, fun _ hx => Or.inl hx, ?_⟩
      show oGo l Z a0 EL True pP eE sS mM _ bB tT cC _ _ _ _ _ _ _ _ [a512] h554 41 1139 142 #[.val (.int i0), .val (.int i1), .val (.int i2), .val (.int i3), .val (.int (2 : Int32)), .val (.int (0 : Int32)), .val (.int p0), .val (.int p1), .val (.int r0), .val (.int r1), .val (.ref p), .val (.ref r), .val (.ref a512), .val (.ref y), .unset] [.int (1 : Int32)]
      refine oGo.if_ne (pc1 := 145) (pc2 := 147) at_142 rfl (by decide) (fun q563 => ?_) (fun q => by first | exact absurd q (by decide) | exact absurd (by decide) q)
      refine oGo.iload (pc' := 149) at_147 rfl rfl ?_
      refine oGo.iconst (pc' := 150) (v := 1) at_149 rfl (by decide) ?_
      refine oGo.icmp_lt (pc1 := 153) (pc2 := 167) at_150 rfl (by decide) (fun q => by first | exact absurd q (by decide) | exact absurd (by decide) q) (fun q564 => ?_)
      refine oGo.aload (pc' := 155) at_153 rfl rfl rfl ?_
      refine oGo.bipush (pc' := 157) (v := 15) at_155 rfl (by decide) ?_
      have f568 := Exa.ext E547 Sy.1
      have f569 := Exa.ext E557 f568
      refine oGo.invokevirtual (pc' := 160) (k' := 41) (n' := 1139) (a := y) (argsL := [.int (15 : Int32)]) (rest := []) at_157 rfl (w211 hG) (w212 hG) (w214 hG) (w214 hG) rfl (w213 hG) (w7 hG) (w215 hG) (by decide) pd29 rfl rfl rfl f569 (c_charAt hG y ty [74, 117, 100, 103, 101, 100, 81, 117, 101, 114, 121, 91, 105, 100, 61, p0, p1, 44, 32, 119, 111, 114, 100, 115, 61, 93] 15 p0 rfl _ f559) (by simp) (by decide) (Nat.le_of_ble_eq_true rfl) rfl rfl (by decide) (by decide) ?_
      intro v565 h566 sh566 q567
      obtain ⟨rfl, ee⟩ := q567
      obtain rfl := ee.symm
      refine ⟨_, fun _ hx => Or.inl hx, ?_⟩
      show oGo l Z a0 EL True pP eE sS mM _ bB tT cC _ _ _ _ _ _ _ _ [a512] h554 41 1139 160 #[.val (.int i0), .val (.int i1), .val (.int i2), .val (.int i3), .val (.int (2 : Int32)), .val (.int (0 : Int32)), .val (.int p0), .val (.int p1), .val (.int r0), .val (.int r1), .val (.ref p), .val (.ref r), .val (.ref a512), .val (.ref y), .unset] [.int p0]
      refine oGo.iload (pc' := 162) at_160 rfl rfl ?_
      refine oGo.icmp_eq (pc1 := 165) (pc2 := 167) at_162 rfl (by decide) (fun q570 => ?_) (fun q => absurd rfl q)
      refine oGo.iload (pc' := 169) at_167 rfl rfl ?_
      refine oGo.iconst (pc' := 170) (v := 2) at_169 rfl (by decide) ?_
      refine oGo.icmp_lt (pc1 := 173) (pc2 := 187) at_170 rfl (by decide) (fun q => by first | exact absurd q (by decide) | exact absurd (by decide) q) (fun q571 => ?_)
      refine oGo.aload (pc' := 175) at_173 rfl rfl rfl ?_
      refine oGo.bipush (pc' := 177) (v := 16) at_175 rfl (by decide) ?_
      refine oGo.invokevirtual (pc' := 180) (k' := 41) (n' := 1139) (a := y) (argsL := [.int (16 : Int32)]) (rest := []) at_177 rfl (w211 hG) (w212 hG) (w214 hG) (w214 hG) rfl (w213 hG) (w7 hG) (w215 hG) (by decide) pd29 rfl rfl rfl f569 (c_charAt hG y ty [74, 117, 100, 103, 101, 100, 81, 117, 101, 114, 121, 91, 105, 100, 61, p0, p1, 44, 32, 119, 111, 114, 100, 115, 61, 93] 16 p1 rfl _ f559) (by simp) (by decide) (Nat.le_of_ble_eq_true rfl) rfl rfl (by decide) (by decide) ?_
      intro v572 h573 sh573 q574
      obtain ⟨rfl, ee⟩ := q574
      obtain rfl := ee.symm
      refine ⟨_, fun _ hx => Or.inl hx, ?_⟩
      show oGo l Z a0 EL True pP eE sS mM _ bB tT cC _ _ _ _ _ _ _ _ [a512] h554 41 1139 180 #[.val (.int i0), .val (.int i1), .val (.int i2), .val (.int i3), .val (.int (2 : Int32)), .val (.int (0 : Int32)), .val (.int p0), .val (.int p1), .val (.int r0), .val (.int r1), .val (.ref p), .val (.ref r), .val (.ref a512), .val (.ref y), .unset] [.int p1]
      refine oGo.iload (pc' := 182) at_180 rfl rfl ?_
      refine oGo.icmp_eq (pc1 := 185) (pc2 := 187) at_182 rfl (by decide) (fun q575 => ?_) (fun q => absurd rfl q)
      refine oGo.aload (pc' := 189) at_187 rfl rfl rfl ?_
      refine oGo.bipush (pc' := 191) (v := 15) at_189 rfl (by decide) ?_
      refine oGo.iload (pc' := 193) at_191 rfl rfl ?_
      refine oGo.iadd (pc' := 194) at_193 rfl ?_
      rw [show (15 : Int32) + (2 : Int32) = (17 : Int32) from by decide]
      refine oGo.ldc_str (pc' := 196) (k' := 43) (n' := 1175) (vs := oI (([44, 32, 119, 111, 114, 100, 115, 61] : List Int32).map lo8)) at_194 rfl trivial (w234 hG) (strAt hG) (hG.2.2.2 _ (by decide)) (by decide) (by decide) rfl rfl (by decide) (by decide) ?_
      intro h576 a577 b578 E579 Xa577 Ca577 Va577 Ba577 la577 lb578 na577
      have S580 : oS Z h576 a577 b578 [44, 32, 119, 111, 114, 100, 115, 61] := ⟨Xa577, Va577, Ca577, Ba577, by decide⟩
      have f581 := f559.ext E579
      refine oGo.invokestatic (pc' := 199) (k' := 43) (n' := 1175) (argsL := [.ref y, .int (17 : Int32), .ref a577]) (rest := []) at_196 rfl (w208 hG) (w209 hG) (w3 hG) (w210 hG) (by decide) pd33 rfl rfl rfl (c_eq8 hG y ty a577 b578 [74, 117, 100, 103, 101, 100, 81, 117, 101, 114, 121, 91, 105, 100, 61, p0, p1, 44, 32, 119, 111, 114, 100, 115, 61, 93] [44, 32, 119, 111, 114, 100, 115, 61] 17 (fun j hj => own_eq8 [74, 117, 100, 103, 101, 100, 81, 117, 101, 114, 121, 91, 105, 100, 61, p0, p1, 44, 32, 119, 111, 114, 100, 115, 61, 93] [44, 32, 119, 111, 114, 100, 115, 61] 17 ⟨rfl, rfl⟩ j hj) _ f581 S580) (by simp) (by decide) (Nat.le_of_ble_eq_true rfl) rfl rfl (by decide) (by decide) ?_
      intro v582 h583 sh583 q584
      obtain ⟨rfl, ee⟩ := q584
      obtain rfl := ee.symm
      refine ⟨_, fun _ hx => Or.inl hx, ?_⟩
      show oGo l Z a0 EL True pP eE sS mM _ bB tT cC _ _ _ _ _ _ _ _ [a512] h576 43 1175 199 #[.val (.int i0), .val (.int i1), .val (.int i2), .val (.int i3), .val (.int (2 : Int32)), .val (.int (0 : Int32)), .val (.int p0), .val (.int p1), .val (.int r0), .val (.int r1), .val (.ref p), .val (.ref r), .val (.ref a512), .val (.ref y), .unset] [.int (1 : Int32)]
      refine oGo.if_ne (pc1 := 202) (pc2 := 204) at_199 rfl (by decide) (fun q585 => ?_) (fun q => by first | exact absurd q (by decide) | exact absurd (by decide) q)
      refine oGo.bipush (pc' := 206) (v := 23) at_204 rfl (by decide) ?_
      refine oGo.iload (pc' := 208) at_206 rfl rfl ?_
      refine oGo.iadd (pc' := 209) at_208 rfl ?_
      rw [show (23 : Int32) + (2 : Int32) = (25 : Int32) from by decide]
      refine oGo.istore (pc' := 211) (Ls' := #[.val (.int i0), .val (.int i1), .val (.int i2), .val (.int i3), .val (.int (2 : Int32)), .val (.int (0 : Int32)), .val (.int p0), .val (.int p1), .val (.int r0), .val (.int r1), .val (.ref p), .val (.ref r), .val (.ref a512), .val (.ref y), .val (.int (25 : Int32))]) at_209 rfl rfl ?_
      refine oGo.iload (pc' := 213) at_211 rfl rfl ?_
      refine oGo.iconst (pc' := 214) (v := 1) at_213 rfl (by decide) ?_
      refine oGo.icmp_lt (pc1 := 217) (pc2 := 231) at_214 rfl (by decide) (fun q586 => ?_) (fun q => by first | exact absurd q (by decide) | exact absurd (by decide) q)
      refine oGo.iload (pc' := 233) at_231 rfl rfl ?_
      refine oGo.iconst (pc' := 234) (v := 2) at_233 rfl (by decide) ?_
      refine oGo.icmp_lt (pc1 := 237) (pc2 := 253) at_234 rfl (by decide) (fun q587 => ?_) (fun q => by first | exact absurd q (by decide) | exact absurd (by decide) q)
      refine oGo.aload (pc' := 255) at_253 rfl rfl rfl ?_
      refine oGo.iload (pc' := 257) at_255 rfl rfl ?_
      refine oGo.iload (pc' := 259) at_257 rfl rfl ?_
      refine oGo.iadd (pc' := 260) at_259 rfl ?_
      rw [show (25 : Int32) + (0 : Int32) = (25 : Int32) from by decide]
      have f591 := Exa.ext E579 f569
      refine oGo.invokevirtual (pc' := 263) (k' := 43) (n' := 1175) (a := y) (argsL := [.int (25 : Int32)]) (rest := []) at_260 rfl (w211 hG) (w212 hG) (w214 hG) (w214 hG) rfl (w213 hG) (w7 hG) (w215 hG) (by decide) pd29 rfl rfl rfl f591 (c_charAt hG y ty [74, 117, 100, 103, 101, 100, 81, 117, 101, 114, 121, 91, 105, 100, 61, p0, p1, 44, 32, 119, 111, 114, 100, 115, 61, 93] 25 93 rfl _ f581) (by simp) (by decide) (Nat.le_of_ble_eq_true rfl) rfl rfl (by decide) (by decide) ?_
      intro v588 h589 sh589 q590
      obtain ⟨rfl, ee⟩ := q590
      obtain rfl := ee.symm
      refine ⟨_, fun _ hx => Or.inl hx, ?_⟩
      show oGo l Z a0 EL True pP eE sS mM _ bB tT cC _ _ _ _ _ _ _ _ [a512] h576 43 1175 263 #[.val (.int i0), .val (.int i1), .val (.int i2), .val (.int i3), .val (.int (2 : Int32)), .val (.int (0 : Int32)), .val (.int p0), .val (.int p1), .val (.int r0), .val (.int r1), .val (.ref p), .val (.ref r), .val (.ref a512), .val (.ref y), .val (.int (25 : Int32))] [.int (93 : Int32)]
      refine oGo.bipush (pc' := 265) (v := 93) at_263 rfl (by decide) ?_
      refine oGo.icmp_ne (pc1 := 268) (pc2 := 272) at_265 rfl (by decide) (fun q => absurd rfl q) (fun q592 => ?_)
      refine oGo.iconst (pc' := 269) (v := 1) at_268 rfl (by decide) ?_
      refine oGo.goto (pc' := 273) at_269 (by decide) ?_
      exact oGo.nreturn at_273 rfl (by simp) rfl (by decide) (by decide) rfl (fun _ q => q.elim)
    · show oGo l Z a0 EL True pP eE sS mM _ bB tT cC _ _ _ _ _ _ _ _ [] h506 6 14 63 #[.val (.int i0), .val (.int i1), .val (.int i2), .val (.int i3), .val (.int (2 : Int32)), .val (.int (1 : Int32)), .val (.int p0), .val (.int p1), .val (.int r0), .val (.int r1), .unset, .unset, .unset, .unset, .unset] [.ref p]
      refine oGo.astore (pc' := 65) (Ls' := #[.val (.int i0), .val (.int i1), .val (.int i2), .val (.int i3), .val (.int (2 : Int32)), .val (.int (1 : Int32)), .val (.int p0), .val (.int p1), .val (.int r0), .val (.int r1), .val (.ref p), .unset, .unset, .unset, .unset]) at_63 rfl rfl rfl ?_
      refine oGo.iload (pc' := 67) at_65 rfl rfl ?_
      refine oGo.iload (pc' := 69) at_67 rfl rfl ?_
      refine oGo.iload (pc' := 71) at_69 rfl rfl ?_
      refine oGo.invokestatic (pc' := 74) (k' := 12) (n' := 28) (argsL := [.int (1 : Int32), .int r0, .int r1]) (rest := []) at_71 rfl (w1 hG) (w2 hG) (w3 hG) (w4 hG) (by decide) pd30 rfl rfl rfl (c_mk1 hG r0 r1 br0 br1 _) (by simp) (by decide) (Nat.le_of_ble_eq_true rfl) rfl rfl (by decide) (by decide) ?_
      intro v593 h594 sh594 q595
      obtain ⟨K2, r, tr, rfl, Sr⟩ := q595
      have lr := own_ltN Sr.1.lt
      have ltr := own_ltN Sr.2.2.2.1.lt
      refine ⟨_, fun _ hx => Or.inl hx, ?_⟩
      show oGo l Z a0 EL True pP eE sS mM _ bB tT cC _ _ _ _ _ _ _ _ [] h594 12 28 74 #[.val (.int i0), .val (.int i1), .val (.int i2), .val (.int i3), .val (.int (2 : Int32)), .val (.int (1 : Int32)), .val (.int p0), .val (.int p1), .val (.int r0), .val (.int r1), .val (.ref p), .unset, .unset, .unset, .unset] [.ref r]
      refine oGo.astore (pc' := 76) (Ls' := #[.val (.int i0), .val (.int i1), .val (.int i2), .val (.int i3), .val (.int (2 : Int32)), .val (.int (1 : Int32)), .val (.int p0), .val (.int p1), .val (.int r0), .val (.int r1), .val (.ref p), .val (.ref r), .unset, .unset, .unset]) at_74 rfl rfl rfl ?_
      refine oGo.new (pc' := 79) (k' := 13) (n' := 31) at_76 rfl (w38 hG) (w39 hG) (w40 hG) rfl rfl (by decide) (by decide) ?_
      intro h596 a597 qa597 la597 E598 X599 F600
      have f601 := F600 (Or.inr (w58 hG)) (ty := (.object "java/lang/String")) (by decide)
      have f602 := F600 (Or.inr (w61 hG)) (ty := (.object "java/lang/String")) (by decide)
      have f603 := F600 (Or.inr (w70 hG)) (ty := (.object "java/util/Set")) (by decide)
      refine oGo.dup (pc' := 80) at_79 rfl rfl ?_
      refine oGo.aload (pc' := 82) at_80 rfl rfl rfl ?_
      refine oGo.aload (pc' := 84) at_82 rfl rfl rfl ?_
      refine oGo.invokestatic (pc' := 87) (k' := 13) (n' := 31) (argsL := []) (rest := [.ref r, .ref p, .ref a597, .ref a597]) at_84 rfl (w41 hG) (w42 hG) (w43 hG) (w44 hG) (by decide) pd31 rfl rfl rfl (c_setOf hG es _ Se) (by simp) (by decide) (Nat.le_of_ble_eq_true rfl) rfl rfl (by decide) (by decide) ?_
      intro v604 h605 sh605 q606
      obtain ⟨rfl, ee⟩ := q606
      obtain rfl := ee.symm
      refine ⟨_, fun _ hx => Or.inl hx, ?_⟩
      show oGo l Z a0 EL True pP eE sS mM _ bB tT cC _ _ _ _ _ _ _ _ [a597] h596 13 31 87 #[.val (.int i0), .val (.int i1), .val (.int i2), .val (.int i3), .val (.int (2 : Int32)), .val (.int (1 : Int32)), .val (.int p0), .val (.int p1), .val (.int r0), .val (.int r1), .val (.ref p), .val (.ref r), .unset, .unset, .unset] [.ref es, .ref r, .ref p, .ref a597, .ref a597]
      refine oGo.old (fun hO607 hO607' => ?_)
      have f608 := Exa.ext hO607 Ee
      have lf608 := own_ltN Ee.lt
      have f609 := Exa.keep Sp.1 K2
      have f610 := Exa.ext E598 f609
      have f611 := Exa.ext E598 Sr.1
      refine oGo.invokespecial (pc' := 90) (k' := 17) (n' := 67) (a := a597) (argsL := [.ref p, .ref r, .ref es]) (rest := [.ref a597]) at_87 rfl rfl (w47 hG) (w48 hG) (w40 hG) (w49 hG) (by decide) pd32 rfl rfl rfl (c_jq hG a597 p r es _ X599 f610 f611 f608 f601 f602 f603) (by simp) (by decide) (Nat.le_of_ble_eq_true rfl) rfl rfl (by decide) (by decide) ?_
      intro v612 h613 sh613 q614
      obtain ⟨rfl, KB, EB, G1, G2⟩ := q614
      refine ⟨_, fun _ hx => Or.inl hx, ?_⟩
      show oGo l Z a0 EL True pP eE sS mM _ bB tT cC _ _ _ _ _ _ _ _ [a597] h613 17 67 90 #[.val (.int i0), .val (.int i1), .val (.int i2), .val (.int i3), .val (.int (2 : Int32)), .val (.int (1 : Int32)), .val (.int p0), .val (.int p1), .val (.int r0), .val (.int r1), .val (.ref p), .val (.ref r), .unset, .unset, .unset] [.ref a597]
      refine oGo.astore (pc' := 92) (Ls' := #[.val (.int i0), .val (.int i1), .val (.int i2), .val (.int i3), .val (.int (2 : Int32)), .val (.int (1 : Int32)), .val (.int p0), .val (.int p1), .val (.int r0), .val (.int r1), .val (.ref p), .val (.ref r), .val (.ref a597), .unset, .unset]) at_90 rfl rfl rfl ?_
      refine oGo.aload (pc' := 94) at_92 rfl rfl rfl ?_
      have f615 := Sp.keep K2 nin0 nin0
      have f616 := f615.ext E598
      have g618 := own_lt_le (x := p) lp K2.1
      have g619 := own_lt_le (x := tp) ltp K2.1
      have f617 := f616.keep KB (own_nin1 (own_ne_ge (x := p) (y := a597) g618 (own_ge_eq qa597))) (own_nin1 (own_ne_ge (x := tp) (y := a597) g619 (own_ge_eq qa597)))
      have f620 := Sr.ext E598
      have f621 := f620.keep KB (own_nin1 (own_ne_ge (x := r) (y := a597) lr (own_ge_eq qa597))) (own_nin1 (own_ne_ge (x := tr) (y := a597) ltr (own_ge_eq qa597)))
      refine oGo.invokevirtual (pc' := 97) (k' := 37) (n' := 1067) (a := a597) (argsL := []) (rest := []) at_94 rfl (w71 hG) (w72 hG) (w74 hG) (w74 hG) rfl (w73 hG) (w40 hG) (w75 hG) (by decide) pd28 rfl rfl rfl EB (c_ts21 hG a597 p tp r tr p0 p1 r0 bp0 bp1 br0 _ G1 G2 f617 f621) (by simp) (by decide) (Nat.le_of_ble_eq_true rfl) rfl rfl (by decide) (by decide) ?_
      intro v622 h623 sh623 q624
      obtain ⟨KT, y, ty, rfl, gy, gty, Sy⟩ := q624
      refine ⟨_, fun _ hx => Or.inl hx, ?_⟩
      show oGo l Z a0 EL True pP eE sS mM _ bB tT cC _ _ _ _ _ _ _ _ [a597] h623 37 1067 97 #[.val (.int i0), .val (.int i1), .val (.int i2), .val (.int i3), .val (.int (2 : Int32)), .val (.int (1 : Int32)), .val (.int p0), .val (.int p1), .val (.int r0), .val (.int r1), .val (.ref p), .val (.ref r), .val (.ref a597), .unset, .unset] [.ref y]
      refine oGo.astore (pc' := 99) (Ls' := #[.val (.int i0), .val (.int i1), .val (.int i2), .val (.int i3), .val (.int (2 : Int32)), .val (.int (1 : Int32)), .val (.int p0), .val (.int p1), .val (.int r0), .val (.int r1), .val (.ref p), .val (.ref r), .val (.ref a597), .val (.ref y), .unset]) at_97 rfl rfl rfl ?_
      refine oGo.aload (pc' := 101) at_99 rfl rfl rfl ?_
      refine oGo.ifnull_n (pc1 := 104) at_101 rfl ?_
      refine oGo.aload (pc' := 106) at_104 rfl rfl rfl ?_
      refine oGo.invokevirtual (pc' := 109) (k' := 37) (n' := 1067) (a := y) (argsL := []) (rest := []) at_106 rfl (w206 hG) (w106 hG) (w108 hG) (w108 hG) rfl (w107 hG) (w7 hG) (w109 hG) (by decide) pd14 rfl rfl rfl Sy.1 (c_length hG y ty [74, 117, 100, 103, 101, 100, 81, 117, 101, 114, 121, 91, 105, 100, 61, p0, p1, 44, 32, 119, 111, 114, 100, 115, 61, r0, 93] _ Sy) (by simp) (by decide) (Nat.le_of_ble_eq_true rfl) rfl rfl (by decide) (by decide) ?_
      intro v625 h626 sh626 q627
      obtain ⟨rfl, ee⟩ := q627
      obtain rfl := ee.symm
      refine ⟨_, fun _ hx => Or.inl hx, ?_⟩
      show oGo l Z a0 EL True pP eE sS mM _ bB tT cC _ _ _ _ _ _ _ _ [a597] h623 37 1067 109 #[.val (.int i0), .val (.int i1), .val (.int i2), .val (.int i3), .val (.int (2 : Int32)), .val (.int (1 : Int32)), .val (.int p0), .val (.int p1), .val (.int r0), .val (.int r1), .val (.ref p), .val (.ref r), .val (.ref a597), .val (.ref y), .unset] [.int (27 : Int32)]
      refine oGo.bipush (pc' := 111) (v := 24) at_109 rfl (by decide) ?_
      refine oGo.iload (pc' := 113) at_111 rfl rfl ?_
      refine oGo.iadd (pc' := 114) at_113 rfl ?_
      rw [show (24 : Int32) + (2 : Int32) = (26 : Int32) from by decide]
      refine oGo.iload (pc' := 116) at_114 rfl rfl ?_
      refine oGo.iadd (pc' := 117) at_116 rfl ?_
      rw [show (26 : Int32) + (1 : Int32) = (27 : Int32) from by decide]
      refine oGo.icmp_eq (pc1 := 120) (pc2 := 122) at_117 rfl (by decide) (fun q628 => ?_) (fun q => by first | exact absurd q (by decide) | exact absurd (by decide) q)
      refine oGo.aload (pc' := 124) at_122 rfl rfl rfl ?_
      refine oGo.iconst (pc' := 125) (v := 0) at_124 rfl (by decide) ?_
      refine oGo.ldc_str (pc' := 127) (k' := 39) (n' := 1103) (vs := oI (([74, 117, 100, 103, 101, 100, 81, 117] : List Int32).map lo8)) at_125 rfl trivial (w207 hG) (strAt hG) (hG.2.2.2 _ (by decide)) (by decide) (by decide) rfl rfl (by decide) (by decide) ?_
      intro h629 a630 b631 E632 Xa630 Ca630 Va630 Ba630 la630 lb631 na630
      have S633 : oS Z h629 a630 b631 [74, 117, 100, 103, 101, 100, 81, 117] := ⟨Xa630, Va630, Ca630, Ba630, by decide⟩
      have f634 := Sy.ext E632
      refine oGo.invokestatic (pc' := 130) (k' := 39) (n' := 1103) (argsL := [.ref y, .int (0 : Int32), .ref a630]) (rest := []) at_127 rfl (w208 hG) (w209 hG) (w3 hG) (w210 hG) (by decide) pd33 rfl rfl rfl (c_eq8 hG y ty a630 b631 [74, 117, 100, 103, 101, 100, 81, 117, 101, 114, 121, 91, 105, 100, 61, p0, p1, 44, 32, 119, 111, 114, 100, 115, 61, r0, 93] [74, 117, 100, 103, 101, 100, 81, 117] 0 (fun j hj => own_eq8 [74, 117, 100, 103, 101, 100, 81, 117, 101, 114, 121, 91, 105, 100, 61, p0, p1, 44, 32, 119, 111, 114, 100, 115, 61, r0, 93] [74, 117, 100, 103, 101, 100, 81, 117] 0 ⟨rfl, rfl⟩ j hj) _ f634 S633) (by simp) (by decide) (Nat.le_of_ble_eq_true rfl) rfl rfl (by decide) (by decide) ?_
      intro v635 h636 sh636 q637
      obtain ⟨rfl, ee⟩ := q637
      obtain rfl := ee.symm
      refine ⟨_, fun _ hx => Or.inl hx, ?_⟩
      show oGo l Z a0 EL True pP eE sS mM _ bB tT cC _ _ _ _ _ _ _ _ [a597] h629 39 1103 130 #[.val (.int i0), .val (.int i1), .val (.int i2), .val (.int i3), .val (.int (2 : Int32)), .val (.int (1 : Int32)), .val (.int p0), .val (.int p1), .val (.int r0), .val (.int r1), .val (.ref p), .val (.ref r), .val (.ref a597), .val (.ref y), .unset] [.int (1 : Int32)]
      refine oGo.if_eq (pc1 := 133) (pc2 := 145) at_130 rfl (by decide) (fun q => by first | exact absurd q (by decide) | exact absurd (by decide) q) (fun q638 => ?_)
      refine oGo.aload (pc' := 135) at_133 rfl rfl rfl ?_
      refine oGo.bipush (pc' := 137) (v := 7) at_135 rfl (by decide) ?_
      refine oGo.ldc_str (pc' := 139) (k' := 41) (n' := 1139) (vs := oI (([117, 101, 114, 121, 91, 105, 100, 61] : List Int32).map lo8)) at_137 rfl trivial (w233 hG) (strAt hG) (hG.2.2.2 _ (by decide)) (by decide) (by decide) rfl rfl (by decide) (by decide) ?_
      intro h639 a640 b641 E642 Xa640 Ca640 Va640 Ba640 la640 lb641 na640
      have S643 : oS Z h639 a640 b641 [117, 101, 114, 121, 91, 105, 100, 61] := ⟨Xa640, Va640, Ca640, Ba640, by decide⟩
      have f644 := f634.ext E642
      refine oGo.invokestatic (pc' := 142) (k' := 41) (n' := 1139) (argsL := [.ref y, .int (7 : Int32), .ref a640]) (rest := []) at_139 rfl (w208 hG) (w209 hG) (w3 hG) (w210 hG) (by decide) pd33 rfl rfl rfl (c_eq8 hG y ty a640 b641 [74, 117, 100, 103, 101, 100, 81, 117, 101, 114, 121, 91, 105, 100, 61, p0, p1, 44, 32, 119, 111, 114, 100, 115, 61, r0, 93] [117, 101, 114, 121, 91, 105, 100, 61] 7 (fun j hj => own_eq8 [74, 117, 100, 103, 101, 100, 81, 117, 101, 114, 121, 91, 105, 100, 61, p0, p1, 44, 32, 119, 111, 114, 100, 115, 61, r0, 93] [117, 101, 114, 121, 91, 105, 100, 61] 7 ⟨rfl, rfl⟩ j hj) _ f644 S643) (by simp) (by decide) (Nat.le_of_ble_eq_true rfl) rfl rfl (by decide) (by decide) ?_
      intro v645 h646 sh646 q647
      obtain ⟨rfl, ee⟩ := q647
      obtain rfl := ee.symm
      refine ⟨_, fun _ hx => Or.inl hx, ?_⟩
      show oGo l Z a0 EL True pP eE sS mM _ bB tT cC _ _ _ _ _ _ _ _ [a597] h639 41 1139 142 #[.val (.int i0), .val (.int i1), .val (.int i2), .val (.int i3), .val (.int (2 : Int32)), .val (.int (1 : Int32)), .val (.int p0), .val (.int p1), .val (.int r0), .val (.int r1), .val (.ref p), .val (.ref r), .val (.ref a597), .val (.ref y), .unset] [.int (1 : Int32)]
      refine oGo.if_ne (pc1 := 145) (pc2 := 147) at_142 rfl (by decide) (fun q648 => ?_) (fun q => by first | exact absurd q (by decide) | exact absurd (by decide) q)
      refine oGo.iload (pc' := 149) at_147 rfl rfl ?_
      refine oGo.iconst (pc' := 150) (v := 1) at_149 rfl (by decide) ?_
      refine oGo.icmp_lt (pc1 := 153) (pc2 := 167) at_150 rfl (by decide) (fun q => by first | exact absurd q (by decide) | exact absurd (by decide) q) (fun q649 => ?_)
      refine oGo.aload (pc' := 155) at_153 rfl rfl rfl ?_
      refine oGo.bipush (pc' := 157) (v := 15) at_155 rfl (by decide) ?_
      have f653 := Exa.ext E632 Sy.1
      have f654 := Exa.ext E642 f653
      refine oGo.invokevirtual (pc' := 160) (k' := 41) (n' := 1139) (a := y) (argsL := [.int (15 : Int32)]) (rest := []) at_157 rfl (w211 hG) (w212 hG) (w214 hG) (w214 hG) rfl (w213 hG) (w7 hG) (w215 hG) (by decide) pd29 rfl rfl rfl f654 (c_charAt hG y ty [74, 117, 100, 103, 101, 100, 81, 117, 101, 114, 121, 91, 105, 100, 61, p0, p1, 44, 32, 119, 111, 114, 100, 115, 61, r0, 93] 15 p0 rfl _ f644) (by simp) (by decide) (Nat.le_of_ble_eq_true rfl) rfl rfl (by decide) (by decide) ?_
      intro v650 h651 sh651 q652
      obtain ⟨rfl, ee⟩ := q652
      obtain rfl := ee.symm
      refine ⟨_, fun _ hx => Or.inl hx, ?_⟩
      show oGo l Z a0 EL True pP eE sS mM _ bB tT cC _ _ _ _ _ _ _ _ [a597] h639 41 1139 160 #[.val (.int i0), .val (.int i1), .val (.int i2), .val (.int i3), .val (.int (2 : Int32)), .val (.int (1 : Int32)), .val (.int p0), .val (.int p1), .val (.int r0), .val (.int r1), .val (.ref p), .val (.ref r), .val (.ref a597), .val (.ref y), .unset] [.int p0]
      refine oGo.iload (pc' := 162) at_160 rfl rfl ?_
      refine oGo.icmp_eq (pc1 := 165) (pc2 := 167) at_162 rfl (by decide) (fun q655 => ?_) (fun q => absurd rfl q)
      refine oGo.iload (pc' := 169) at_167 rfl rfl ?_
      refine oGo.iconst (pc' := 170) (v := 2) at_169 rfl (by decide) ?_
      refine oGo.icmp_lt (pc1 := 173) (pc2 := 187) at_170 rfl (by decide) (fun q => by first | exact absurd q (by decide) | exact absurd (by decide) q) (fun q656 => ?_)
      refine oGo.aload (pc' := 175) at_173 rfl rfl rfl ?_
      refine oGo.bipush (pc' := 177) (v := 16) at_175 rfl (by decide) ?_
      refine oGo.invokevirtual (pc' := 180) (k' := 41) (n' := 1139) (a := y) (argsL := [.int (16 : Int32)]) (rest := []) at_177 rfl (w211 hG) (w212 hG) (w214 hG) (w214 hG) rfl (w213 hG) (w7 hG) (w215 hG) (by decide) pd29 rfl rfl rfl f654 (c_charAt hG y ty [74, 117, 100, 103, 101, 100, 81, 117, 101, 114, 121, 91, 105, 100, 61, p0, p1, 44, 32, 119, 111, 114, 100, 115, 61, r0, 93] 16 p1 rfl _ f644) (by simp) (by decide) (Nat.le_of_ble_eq_true rfl) rfl rfl (by decide) (by decide) ?_
      intro v657 h658 sh658 q659
      obtain ⟨rfl, ee⟩ := q659
      obtain rfl := ee.symm
      refine ⟨_, fun _ hx => Or.inl hx, ?_⟩
      show oGo l Z a0 EL True pP eE sS mM _ bB tT cC _ _ _ _ _ _ _ _ [a597] h639 41 1139 180 #[.val (.int i0), .val (.int i1), .val (.int i2), .val (.int i3), .val (.int (2 : Int32)), .val (.int (1 : Int32)), .val (.int p0), .val (.int p1), .val (.int r0), .val (.int r1), .val (.ref p), .val (.ref r), .val (.ref a597), .val (.ref y), .unset] [.int p1]
      refine oGo.iload (pc' := 182) at_180 rfl rfl ?_
      refine oGo.icmp_eq (pc1 := 185) (pc2 := 187) at_182 rfl (by decide) (fun q660 => ?_) (fun q => absurd rfl q)
      refine oGo.aload (pc' := 189) at_187 rfl rfl rfl ?_
      refine oGo.bipush (pc' := 191) (v := 15) at_189 rfl (by decide) ?_
      refine oGo.iload (pc' := 193) at_191 rfl rfl ?_
      refine oGo.iadd (pc' := 194) at_193 rfl ?_
      rw [show (15 : Int32) + (2 : Int32) = (17 : Int32) from by decide]
      refine oGo.ldc_str (pc' := 196) (k' := 43) (n' := 1175) (vs := oI (([44, 32, 119, 111, 114, 100, 115, 61] : List Int32).map lo8)) at_194 rfl trivial (w234 hG) (strAt hG) (hG.2.2.2 _ (by decide)) (by decide) (by decide) rfl rfl (by decide) (by decide) ?_
      intro h661 a662 b663 E664 Xa662 Ca662 Va662 Ba662 la662 lb663 na662
      have S665 : oS Z h661 a662 b663 [44, 32, 119, 111, 114, 100, 115, 61] := ⟨Xa662, Va662, Ca662, Ba662, by decide⟩
      have f666 := f644.ext E664
      refine oGo.invokestatic (pc' := 199) (k' := 43) (n' := 1175) (argsL := [.ref y, .int (17 : Int32), .ref a662]) (rest := []) at_196 rfl (w208 hG) (w209 hG) (w3 hG) (w210 hG) (by decide) pd33 rfl rfl rfl (c_eq8 hG y ty a662 b663 [74, 117, 100, 103, 101, 100, 81, 117, 101, 114, 121, 91, 105, 100, 61, p0, p1, 44, 32, 119, 111, 114, 100, 115, 61, r0, 93] [44, 32, 119, 111, 114, 100, 115, 61] 17 (fun j hj => own_eq8 [74, 117, 100, 103, 101, 100, 81, 117, 101, 114, 121, 91, 105, 100, 61, p0, p1, 44, 32, 119, 111, 114, 100, 115, 61, r0, 93] [44, 32, 119, 111, 114, 100, 115, 61] 17 ⟨rfl, rfl⟩ j hj) _ f666 S665) (by simp) (by decide) (Nat.le_of_ble_eq_true rfl) rfl rfl (by decide) (by decide) ?_
      intro v667 h668 sh668 q669
      obtain ⟨rfl, ee⟩ := q669
      obtain rfl := ee.symm
      refine ⟨_, fun _ hx => Or.inl hx, ?_⟩
      show oGo l Z a0 EL True pP eE sS mM _ bB tT cC _ _ _ _ _ _ _ _ [a597] h661 43 1175 199 #[.val (.int i0), .val (.int i1), .val (.int i2), .val (.int i3), .val (.int (2 : Int32)), .val (.int (1 : Int32)), .val (.int p0), .val (.int p1), .val (.int r0), .val (.int r1), .val (.ref p), .val (.ref r), .val (.ref a597), .val (.ref y), .unset] [.int (1 : Int32)]
      refine oGo.if_ne (pc1 := 202) (pc2 := 204) at_199 rfl (by decide) (fun q670 => ?_) (fun q => by first | exact absurd q (by decide) | exact absurd (by decide) q)
      refine oGo.bipush (pc' := 206) (v := 23) at_204 rfl (by decide) ?_
      refine oGo.iload (pc' := 208) at_206 rfl rfl ?_
      refine oGo.iadd (pc' := 209) at_208 rfl ?_
      rw [show (23 : Int32) + (2 : Int32) = (25 : Int32) from by decide]
      refine oGo.istore (pc' := 211) (Ls' := #[.val (.int i0), .val (.int i1), .val (.int i2), .val (.int i3), .val (.int (2 : Int32)), .val (.int (1 : Int32)), .val (.int p0), .val (.int p1), .val (.int r0), .val (.int r1), .val (.ref p), .val (.ref r), .val (.ref a597), .val (.ref y), .val (.int (25 : Int32))]) at_209 rfl rfl ?_
      refine oGo.iload (pc' := 213) at_211 rfl rfl ?_
      refine oGo.iconst (pc' := 214) (v := 1) at_213 rfl (by decide) ?_
      refine oGo.icmp_lt (pc1 := 217) (pc2 := 231) at_214 rfl (by decide) (fun q => by first | exact absurd q (by decide) | exact absurd (by decide) q) (fun q671 => ?_)
      refine oGo.aload (pc' := 219) at_217 rfl rfl rfl ?_
      refine oGo.iload (pc' := 221) at_219 rfl rfl ?_
      have f675 := Exa.ext E664 f654
      refine oGo.invokevirtual (pc' := 224) (k' := 43) (n' := 1175) (a := y) (argsL := [.int (25 : Int32)]) (rest := []) at_221 rfl (w211 hG) (w212 hG) (w214 hG) (w214 hG) rfl (w213 hG) (w7 hG) (w215 hG) (by decide) pd29 rfl rfl rfl f675 (c_charAt hG y ty [74, 117, 100, 103, 101, 100, 81, 117, 101, 114, 121, 91, 105, 100, 61, p0, p1, 44, 32, 119, 111, 114, 100, 115, 61, r0, 93] 25 r0 rfl _ f666) (by simp) (by decide) (Nat.le_of_ble_eq_true rfl) rfl rfl (by decide) (by decide) ?_
      intro v672 h673 sh673 q674
      obtain ⟨rfl, ee⟩ := q674
      obtain rfl := ee.symm
      refine ⟨_, fun _ hx => Or.inl hx, ?_⟩
      show oGo l Z a0 EL True pP eE sS mM _ bB tT cC _ _ _ _ _ _ _ _ [a597] h661 43 1175 224 #[.val (.int i0), .val (.int i1), .val (.int i2), .val (.int i3), .val (.int (2 : Int32)), .val (.int (1 : Int32)), .val (.int p0), .val (.int p1), .val (.int r0), .val (.int r1), .val (.ref p), .val (.ref r), .val (.ref a597), .val (.ref y), .val (.int (25 : Int32))] [.int r0]
      refine oGo.iload (pc' := 226) at_224 rfl rfl ?_
      refine oGo.icmp_eq (pc1 := 229) (pc2 := 231) at_226 rfl (by decide) (fun q676 => ?_) (fun q => absurd rfl q)
      refine oGo.iload (pc' := 233) at_231 rfl rfl ?_
      refine oGo.iconst (pc' := 234) (v := 2) at_233 rfl (by decide) ?_
      refine oGo.icmp_lt (pc1 := 237) (pc2 := 253) at_234 rfl (by decide) (fun q677 => ?_) (fun q => by first | exact absurd q (by decide) | exact absurd (by decide) q)
      refine oGo.aload (pc' := 255) at_253 rfl rfl rfl ?_
      refine oGo.iload (pc' := 257) at_255 rfl rfl ?_
      refine oGo.iload (pc' := 259) at_257 rfl rfl ?_
      refine oGo.iadd (pc' := 260) at_259 rfl ?_
      rw [show (25 : Int32) + (1 : Int32) = (26 : Int32) from by decide]
      refine oGo.invokevirtual (pc' := 263) (k' := 43) (n' := 1175) (a := y) (argsL := [.int (26 : Int32)]) (rest := []) at_260 rfl (w211 hG) (w212 hG) (w214 hG) (w214 hG) rfl (w213 hG) (w7 hG) (w215 hG) (by decide) pd29 rfl rfl rfl f675 (c_charAt hG y ty [74, 117, 100, 103, 101, 100, 81, 117, 101, 114, 121, 91, 105, 100, 61, p0, p1, 44, 32, 119, 111, 114, 100, 115, 61, r0, 93] 26 93 rfl _ f666) (by simp) (by decide) (Nat.le_of_ble_eq_true rfl) rfl rfl (by decide) (by decide) ?_
      intro v678 h679 sh679 q680
      obtain ⟨rfl, ee⟩ := q680
      obtain rfl := ee.symm
      refine ⟨_, fun _ hx => Or.inl hx, ?_⟩
      show oGo l Z a0 EL True pP eE sS mM _ bB tT cC _ _ _ _ _ _ _ _ [a597] h661 43 1175 263 #[.val (.int i0), .val (.int i1), .val (.int i2), .val (.int i3), .val (.int (2 : Int32)), .val (.int (1 : Int32)), .val (.int p0), .val (.int p1), .val (.int r0), .val (.int r1), .val (.ref p), .val (.ref r), .val (.ref a597), .val (.ref y), .val (.int (25 : Int32))] [.int (93 : Int32)]
      refine oGo.bipush (pc' := 265) (v := 93) at_263 rfl (by decide) ?_
      refine oGo.icmp_ne (pc1 := 268) (pc2 := 272) at_265 rfl (by decide) (fun q => absurd rfl q) (fun q681 => ?_)
      refine oGo.iconst (pc' := 269) (v := 1) at_268 rfl (by decide) ?_
      refine oGo.goto (pc' := 273) at_269 (by decide) ?_
      exact oGo.nreturn at_273 rfl (by simp) rfl (by decide) (by decide) rfl (fun _ q => q.elim)
    · show oGo l Z a0 EL True pP eE sS mM _ bB tT cC _ _ _ _ _ _ _ _ [] h506 6 14 63 #[.val (.int i0), .val (.int i1), .val (.int i2), .val (.int i3), .val (.int (2 : Int32)), .val (.int (2 : Int32)), .val (.int p0), .val (.int p1), .val (.int r0), .val (.int r1), .unset, .unset, .unset, .unset, .unset] [.ref p]
      refine oGo.astore (pc' := 65) (Ls' := #[.val (.int i0), .val (.int i1), .val (.int i2), .val (.int i3), .val (.int (2 : Int32)), .val (.int (2 : Int32)), .val (.int p0), .val (.int p1), .val (.int r0), .val (.int r1), .val (.ref p), .unset, .unset, .unset, .unset]) at_63 rfl rfl rfl ?_
      refine oGo.iload (pc' := 67) at_65 rfl rfl ?_
      refine oGo.iload (pc' := 69) at_67 rfl rfl ?_
      refine oGo.iload (pc' := 71) at_69 rfl rfl ?_
      refine oGo.invokestatic (pc' := 74) (k' := 12) (n' := 28) (argsL := [.int (2 : Int32), .int r0, .int r1]) (rest := []) at_71 rfl (w1 hG) (w2 hG) (w3 hG) (w4 hG) (by decide) pd30 rfl rfl rfl (c_mk2 hG r0 r1 br0 br1 _) (by simp) (by decide) (Nat.le_of_ble_eq_true rfl) rfl rfl (by decide) (by decide) ?_
      intro v682 h683 sh683 q684
      obtain ⟨K2, r, tr, rfl, Sr⟩ := q684
      have lr := own_ltN Sr.1.lt
      have ltr := own_ltN Sr.2.2.2.1.lt
      refine ⟨_, fun _ hx => Or.inl hx, ?_⟩
      show oGo l Z a0 EL True pP eE sS mM _ bB tT cC _ _ _ _ _ _ _ _ [] h683 12 28 74 #[.val (.int i0), .val (.int i1), .val (.int i2), .val (.int i3), .val (.int (2 : Int32)), .val (.int (2 : Int32)), .val (.int p0), .val (.int p1), .val (.int r0), .val (.int r1), .val (.ref p), .unset, .unset, .unset, .unset] [.ref r]
      refine oGo.astore (pc' := 76) (Ls' := #[.val (.int i0), .val (.int i1), .val (.int i2), .val (.int i3), .val (.int (2 : Int32)), .val (.int (2 : Int32)), .val (.int p0), .val (.int p1), .val (.int r0), .val (.int r1), .val (.ref p), .val (.ref r), .unset, .unset, .unset]) at_74 rfl rfl rfl ?_
      refine oGo.new (pc' := 79) (k' := 13) (n' := 31) at_76 rfl (w38 hG) (w39 hG) (w40 hG) rfl rfl (by decide) (by decide) ?_
      intro h685 a686 qa686 la686 E687 X688 F689
      have f690 := F689 (Or.inr (w58 hG)) (ty := (.object "java/lang/String")) (by decide)
      have f691 := F689 (Or.inr (w61 hG)) (ty := (.object "java/lang/String")) (by decide)
      have f692 := F689 (Or.inr (w70 hG)) (ty := (.object "java/util/Set")) (by decide)
      refine oGo.dup (pc' := 80) at_79 rfl rfl ?_
      refine oGo.aload (pc' := 82) at_80 rfl rfl rfl ?_
      refine oGo.aload (pc' := 84) at_82 rfl rfl rfl ?_
      refine oGo.invokestatic (pc' := 87) (k' := 13) (n' := 31) (argsL := []) (rest := [.ref r, .ref p, .ref a686, .ref a686]) at_84 rfl (w41 hG) (w42 hG) (w43 hG) (w44 hG) (by decide) pd31 rfl rfl rfl (c_setOf hG es _ Se) (by simp) (by decide) (Nat.le_of_ble_eq_true rfl) rfl rfl (by decide) (by decide) ?_
      intro v693 h694 sh694 q695
      obtain ⟨rfl, ee⟩ := q695
      obtain rfl := ee.symm
      refine ⟨_, fun _ hx => Or.inl hx, ?_⟩
      show oGo l Z a0 EL True pP eE sS mM _ bB tT cC _ _ _ _ _ _ _ _ [a686] h685 13 31 87 #[.val (.int i0), .val (.int i1), .val (.int i2), .val (.int i3), .val (.int (2 : Int32)), .val (.int (2 : Int32)), .val (.int p0), .val (.int p1), .val (.int r0), .val (.int r1), .val (.ref p), .val (.ref r), .unset, .unset, .unset] [.ref es, .ref r, .ref p, .ref a686, .ref a686]
      refine oGo.old (fun hO696 hO696' => ?_)
      have f697 := Exa.ext hO696 Ee
      have lf697 := own_ltN Ee.lt
      have f698 := Exa.keep Sp.1 K2
      have f699 := Exa.ext E687 f698
      have f700 := Exa.ext E687 Sr.1
      refine oGo.invokespecial (pc' := 90) (k' := 17) (n' := 67) (a := a686) (argsL := [.ref p, .ref r, .ref es]) (rest := [.ref a686]) at_87 rfl rfl (w47 hG) (w48 hG) (w40 hG) (w49 hG) (by decide) pd32 rfl rfl rfl (c_jq hG a686 p r es _ X688 f699 f700 f697 f690 f691 f692) (by simp) (by decide) (Nat.le_of_ble_eq_true rfl) rfl rfl (by decide) (by decide) ?_
      intro v701 h702 sh702 q703
      obtain ⟨rfl, KB, EB, G1, G2⟩ := q703
      refine ⟨_, fun _ hx => Or.inl hx, ?_⟩
      show oGo l Z a0 EL True pP eE sS mM _ bB tT cC _ _ _ _ _ _ _ _ [a686] h702 17 67 90 #[.val (.int i0), .val (.int i1), .val (.int i2), .val (.int i3), .val (.int (2 : Int32)), .val (.int (2 : Int32)), .val (.int p0), .val (.int p1), .val (.int r0), .val (.int r1), .val (.ref p), .val (.ref r), .unset, .unset, .unset] [.ref a686]
      refine oGo.astore (pc' := 92) (Ls' := #[.val (.int i0), .val (.int i1), .val (.int i2), .val (.int i3), .val (.int (2 : Int32)), .val (.int (2 : Int32)), .val (.int p0), .val (.int p1), .val (.int r0), .val (.int r1), .val (.ref p), .val (.ref r), .val (.ref a686), .unset, .unset]) at_90 rfl rfl rfl ?_
      refine oGo.aload (pc' := 94) at_92 rfl rfl rfl ?_
      have f704 := Sp.keep K2 nin0 nin0
      have f705 := f704.ext E687
      have g707 := own_lt_le (x := p) lp K2.1
      have g708 := own_lt_le (x := tp) ltp K2.1
      have f706 := f705.keep KB (own_nin1 (own_ne_ge (x := p) (y := a686) g707 (own_ge_eq qa686))) (own_nin1 (own_ne_ge (x := tp) (y := a686) g708 (own_ge_eq qa686)))
      have f709 := Sr.ext E687
      have f710 := f709.keep KB (own_nin1 (own_ne_ge (x := r) (y := a686) lr (own_ge_eq qa686))) (own_nin1 (own_ne_ge (x := tr) (y := a686) ltr (own_ge_eq qa686)))
      refine oGo.invokevirtual (pc' := 97) (k' := 37) (n' := 1067) (a := a686) (argsL := []) (rest := []) at_94 rfl (w71 hG) (w72 hG) (w74 hG) (w74 hG) rfl (w73 hG) (w40 hG) (w75 hG) (by decide) pd28 rfl rfl rfl EB (c_ts22 hG a686 p tp r tr p0 p1 r0 r1 bp0 bp1 br0 br1 _ G1 G2 f706 f710) (by simp) (by decide) (Nat.le_of_ble_eq_true rfl) rfl rfl (by decide) (by decide) ?_
      intro v711 h712 sh712 q713
      obtain ⟨KT, y, ty, rfl, gy, gty, Sy⟩ := q713
      refine ⟨_, fun _ hx => Or.inl hx, ?_⟩
      show oGo l Z a0 EL True pP eE sS mM _ bB tT cC _ _ _ _ _ _ _ _ [a686] h712 37 1067 97 #[.val (.int i0), .val (.int i1), .val (.int i2), .val (.int i3), .val (.int (2 : Int32)), .val (.int (2 : Int32)), .val (.int p0), .val (.int p1), .val (.int r0), .val (.int r1), .val (.ref p), .val (.ref r), .val (.ref a686), .unset, .unset] [.ref y]
      refine oGo.astore (pc' := 99) (Ls' := #[.val (.int i0), .val (.int i1), .val (.int i2), .val (.int i3), .val (.int (2 : Int32)), .val (.int (2 : Int32)), .val (.int p0), .val (.int p1), .val (.int r0), .val (.int r1), .val (.ref p), .val (.ref r), .val (.ref a686), .val (.ref y), .unset]) at_97 rfl rfl rfl ?_
      refine oGo.aload (pc' := 101) at_99 rfl rfl rfl ?_
      refine oGo.ifnull_n (pc1 := 104) at_101 rfl ?_
      refine oGo.aload (pc' := 106) at_104 rfl rfl rfl ?_
      refine oGo.invokevirtual (pc' := 109) (k' := 37) (n' := 1067) (a := y) (argsL := []) (rest := []) at_106 rfl (w206 hG) (w106 hG) (w108 hG) (w108 hG) rfl (w107 hG) (w7 hG) (w109 hG) (by decide) pd14 rfl rfl rfl Sy.1 (c_length hG y ty [74, 117, 100, 103, 101, 100, 81, 117, 101, 114, 121, 91, 105, 100, 61, p0, p1, 44, 32, 119, 111, 114, 100, 115, 61, r0, r1, 93] _ Sy) (by simp) (by decide) (Nat.le_of_ble_eq_true rfl) rfl rfl (by decide) (by decide) ?_
      intro v714 h715 sh715 q716
      obtain ⟨rfl, ee⟩ := q716
      obtain rfl := ee.symm
      refine ⟨_, fun _ hx => Or.inl hx, ?_⟩
      show oGo l Z a0 EL True pP eE sS mM _ bB tT cC _ _ _ _ _ _ _ _ [a686] h712 37 1067 109 #[.val (.int i0), .val (.int i1), .val (.int i2), .val (.int i3), .val (.int (2 : Int32)), .val (.int (2 : Int32)), .val (.int p0), .val (.int p1), .val (.int r0), .val (.int r1), .val (.ref p), .val (.ref r), .val (.ref a686), .val (.ref y), .unset] [.int (28 : Int32)]
      refine oGo.bipush (pc' := 111) (v := 24) at_109 rfl (by decide) ?_
      refine oGo.iload (pc' := 113) at_111 rfl rfl ?_
      refine oGo.iadd (pc' := 114) at_113 rfl ?_
      rw [show (24 : Int32) + (2 : Int32) = (26 : Int32) from by decide]
      refine oGo.iload (pc' := 116) at_114 rfl rfl ?_
      refine oGo.iadd (pc' := 117) at_116 rfl ?_
      rw [show (26 : Int32) + (2 : Int32) = (28 : Int32) from by decide]
      refine oGo.icmp_eq (pc1 := 120) (pc2 := 122) at_117 rfl (by decide) (fun q717 => ?_) (fun q => by first | exact absurd q (by decide) | exact absurd (by decide) q)
      refine oGo.aload (pc' := 124) at_122 rfl rfl rfl ?_
      refine oGo.iconst (pc' := 125) (v := 0) at_124 rfl (by decide) ?_
      refine oGo.ldc_str (pc' := 127) (k' := 39) (n' := 1103) (vs := oI (([74, 117, 100, 103, 101, 100, 81, 117] : List Int32).map lo8)) at_125 rfl trivial (w207 hG) (strAt hG) (hG.2.2.2 _ (by decide)) (by decide) (by decide) rfl rfl (by decide) (by decide) ?_
      intro h718 a719 b720 E721 Xa719 Ca719 Va719 Ba719 la719 lb720 na719
      have S722 : oS Z h718 a719 b720 [74, 117, 100, 103, 101, 100, 81, 117] := ⟨Xa719, Va719, Ca719, Ba719, by decide⟩
      have f723 := Sy.ext E721
      refine oGo.invokestatic (pc' := 130) (k' := 39) (n' := 1103) (argsL := [.ref y, .int (0 : Int32), .ref a719]) (rest := []) at_127 rfl (w208 hG) (w209 hG) (w3 hG) (w210 hG) (by decide) pd33 rfl rfl rfl (c_eq8 hG y ty a719 b720 [74, 117, 100, 103, 101, 100, 81, 117, 101, 114, 121, 91, 105, 100, 61, p0, p1, 44, 32, 119, 111, 114, 100, 115, 61, r0, r1, 93] [74, 117, 100, 103, 101, 100, 81, 117] 0 (fun j hj => own_eq8 [74, 117, 100, 103, 101, 100, 81, 117, 101, 114, 121, 91, 105, 100, 61, p0, p1, 44, 32, 119, 111, 114, 100, 115, 61, r0, r1, 93] [74, 117, 100, 103, 101, 100, 81, 117] 0 ⟨rfl, rfl⟩ j hj) _ f723 S722) (by simp) (by decide) (Nat.le_of_ble_eq_true rfl) rfl rfl (by decide) (by decide) ?_
      intro v724 h725 sh725 q726
      obtain ⟨rfl, ee⟩ := q726
      obtain rfl := ee.symm
      refine ⟨_, fun _ hx => Or.inl hx, ?_⟩
      show oGo l Z a0 EL True pP eE sS mM _ bB tT cC _ _ _ _ _ _ _ _ [a686] h718 39 1103 130 #[.val (.int i0), .val (.int i1), .val (.int i2), .val (.int i3), .val (.int (2 : Int32)), .val (.int (2 : Int32)), .val (.int p0), .val (.int p1), .val (.int r0), .val (.int r1), .val (.ref p), .val (.ref r), .val (.ref a686), .val (.ref y), .unset] [.int (1 : Int32)]
      refine oGo.if_eq (pc1 := 133) (pc2 := 145) at_130 rfl (by decide) (fun q => by first | exact absurd q (by decide) | exact absurd (by decide) q) (fun q727 => ?_)
      refine oGo.aload (pc' := 135) at_133 rfl rfl rfl ?_
      refine oGo.bipush (pc' := 137) (v := 7) at_135 rfl (by decide) ?_
      refine oGo.ldc_str (pc' := 139) (k' := 41) (n' := 1139) (vs := oI (([117, 101, 114, 121, 91, 105, 100, 61] : List Int32).map lo8)) at_137 rfl trivial (w233 hG) (strAt hG) (hG.2.2.2 _ (by decide)) (by decide) (by decide) rfl rfl (by decide) (by decide) ?_
      intro h728 a729 b730 E731 Xa729 Ca729 Va729 Ba729 la729 lb730 na729
      have S732 : oS Z h728 a729 b730 [117, 101, 114, 121, 91, 105, 100, 61] := ⟨Xa729, Va729, Ca729, Ba729, by decide⟩
      have f733 := f723.ext E731
      refine oGo.invokestatic (pc' := 142) (k' := 41) (n' := 1139) (argsL := [.ref y, .int (7 : Int32), .ref a729]) (rest := []) at_139 rfl (w208 hG) (w209 hG) (w3 hG) (w210 hG) (by decide) pd33 rfl rfl rfl (c_eq8 hG y ty a729 b730 [74, 117, 100, 103, 101, 100, 81, 117, 101, 114, 121, 91, 105, 100, 61, p0, p1, 44, 32, 119, 111, 114, 100, 115, 61, r0, r1, 93] [117, 101, 114, 121, 91, 105, 100, 61] 7 (fun j hj => own_eq8 [74, 117, 100, 103, 101, 100, 81, 117, 101, 114, 121, 91, 105, 100, 61, p0, p1, 44, 32, 119, 111, 114, 100, 115, 61, r0, r1, 93] [117, 101, 114, 121, 91, 105, 100, 61] 7 ⟨rfl, rfl⟩ j hj) _ f733 S732) (by simp) (by decide) (Nat.le_of_ble_eq_true rfl) rfl rfl (by decide) (by decide) ?_
      intro v734 h735 sh735 q736
      obtain ⟨rfl, ee⟩ := q736
      obtain rfl := ee.symm
      refine ⟨_, fun _ hx => Or.inl hx, ?_⟩
      show oGo l Z a0 EL True pP eE sS mM _ bB tT cC _ _ _ _ _ _ _ _ [a686] h728 41 1139 142 #[.val (.int i0), .val (.int i1), .val (.int i2), .val (.int i3), .val (.int (2 : Int32)), .val (.int (2 : Int32)), .val (.int p0), .val (.int p1), .val (.int r0), .val (.int r1), .val (.ref p), .val (.ref r), .val (.ref a686), .val (.ref y), .unset] [.int (1 : Int32)]
      refine oGo.if_ne (pc1 := 145) (pc2 := 147) at_142 rfl (by decide) (fun q737 => ?_) (fun q => by first | exact absurd q (by decide) | exact absurd (by decide) q)
      refine oGo.iload (pc' := 149) at_147 rfl rfl ?_
      refine oGo.iconst (pc' := 150) (v := 1) at_149 rfl (by decide) ?_
      refine oGo.icmp_lt (pc1 := 153) (pc2 := 167) at_150 rfl (by decide) (fun q => by first | exact absurd q (by decide) | exact absurd (by decide) q) (fun q738 => ?_)
      refine oGo.aload (pc' := 155) at_153 rfl rfl rfl ?_
      refine oGo.bipush (pc' := 157) (v := 15) at_155 rfl (by decide) ?_
      have f742 := Exa.ext E721 Sy.1
      have f743 := Exa.ext E731 f742
      refine oGo.invokevirtual (pc' := 160) (k' := 41) (n' := 1139) (a := y) (argsL := [.int (15 : Int32)]) (rest := []) at_157 rfl (w211 hG) (w212 hG) (w214 hG) (w214 hG) rfl (w213 hG) (w7 hG) (w215 hG) (by decide) pd29 rfl rfl rfl f743 (c_charAt hG y ty [74, 117, 100, 103, 101, 100, 81, 117, 101, 114, 121, 91, 105, 100, 61, p0, p1, 44, 32, 119, 111, 114, 100, 115, 61, r0, r1, 93] 15 p0 rfl _ f733) (by simp) (by decide) (Nat.le_of_ble_eq_true rfl) rfl rfl (by decide) (by decide) ?_
      intro v739 h740 sh740 q741
      obtain ⟨rfl, ee⟩ := q741
      obtain rfl := ee.symm
      refine ⟨_, fun _ hx => Or.inl hx, ?_⟩
      show oGo l Z a0 EL True pP eE sS mM _ bB tT cC _ _ _ _ _ _ _ _ [a686] h728 41 1139 160 #[.val (.int i0), .val (.int i1), .val (.int i2), .val (.int i3), .val (.int (2 : Int32)), .val (.int (2 : Int32)), .val (.int p0), .val (.int p1), .val (.int r0), .val (.int r1), .val (.ref p), .val (.ref r), .val (.ref a686), .val (.ref y), .unset] [.int p0]
      refine oGo.iload (pc' := 162) at_160 rfl rfl ?_
      refine oGo.icmp_eq (pc1 := 165) (pc2 := 167) at_162 rfl (by decide) (fun q744 => ?_) (fun q => absurd rfl q)
      refine oGo.iload (pc' := 169) at_167 rfl rfl ?_
      refine oGo.iconst (pc' := 170) (v := 2) at_169 rfl (by decide) ?_
      refine oGo.icmp_lt (pc1 := 173) (pc2 := 187) at_170 rfl (by decide) (fun q => by first | exact absurd q (by decide) | exact absurd (by decide) q) (fun q745 => ?_)
      refine oGo.aload (pc' := 175) at_173 rfl rfl rfl ?_
      refine oGo.bipush (pc' := 177) (v := 16) at_175 rfl (by decide) ?_
      refine oGo.invokevirtual (pc' := 180) (k' := 41) (n' := 1139) (a := y) (argsL := [.int (16 : Int32)]) (rest := []) at_177 rfl (w211 hG) (w212 hG) (w214 hG) (w214 hG) rfl (w213 hG) (w7 hG) (w215 hG) (by decide) pd29 rfl rfl rfl f743 (c_charAt hG y ty [74, 117, 100, 103, 101, 100, 81, 117, 101, 114, 121, 91, 105, 100, 61, p0, p1, 44, 32, 119, 111, 114, 100, 115, 61, r0, r1, 93] 16 p1 rfl _ f733) (by simp) (by decide) (Nat.le_of_ble_eq_true rfl) rfl rfl (by decide) (by decide) ?_
      intro v746 h747 sh747 q748
      obtain ⟨rfl, ee⟩ := q748
      obtain rfl := ee.symm
      refine ⟨_, fun _ hx => Or.inl hx, ?_⟩
      show oGo l Z a0 EL True pP eE sS mM _ bB tT cC _ _ _ _ _ _ _ _ [a686] h728 41 1139 180 #[.val (.int i0), .val (.int i1), .val (.int i2), .val (.int i3), .val (.int (2 : Int32)), .val (.int (2 : Int32)), .val (.int p0), .val (.int p1), .val (.int r0), .val (.int r1), .val (.ref p), .val (.ref r), .val (.ref a686), .val (.ref y), .unset] [.int p1]
      refine oGo.iload (pc' := 182) at_180 rfl rfl ?_
      refine oGo.icmp_eq (pc1 := 185) (pc2 := 187) at_182 rfl (by decide) (fun q749 => ?_) (fun q => absurd rfl q)
      refine oGo.aload (pc' := 189) at_187 rfl rfl rfl ?_
      refine oGo.bipush (pc' := 191) (v := 15) at_189 rfl (by decide) ?_
      refine oGo.iload (pc' := 193) at_191 rfl rfl ?_
      refine oGo.iadd (pc' := 194) at_193 rfl ?_
      rw [show (15 : Int32) + (2 : Int32) = (17 : Int32) from by decide]
      refine oGo.ldc_str (pc' := 196) (k' := 43) (n' := 1175) (vs := oI (([44, 32, 119, 111, 114, 100, 115, 61] : List Int32).map lo8)) at_194 rfl trivial (w234 hG) (strAt hG) (hG.2.2.2 _ (by decide)) (by decide) (by decide) rfl rfl (by decide) (by decide) ?_
      intro h750 a751 b752 E753 Xa751 Ca751 Va751 Ba751 la751 lb752 na751
      have S754 : oS Z h750 a751 b752 [44, 32, 119, 111, 114, 100, 115, 61] := ⟨Xa751, Va751, Ca751, Ba751, by decide⟩
      have f755 := f733.ext E753
      refine oGo.invokestatic (pc' := 199) (k' := 43) (n' := 1175) (argsL := [.ref y, .int (17 : Int32), .ref a751]) (rest := []) at_196 rfl (w208 hG) (w209 hG) (w3 hG) (w210 hG) (by decide) pd33 rfl rfl rfl (c_eq8 hG y ty a751 b752 [74, 117, 100, 103, 101, 100, 81, 117, 101, 114, 121, 91, 105, 100, 61, p0, p1, 44, 32, 119, 111, 114, 100, 115, 61, r0, r1, 93] [44, 32, 119, 111, 114, 100, 115, 61] 17 (fun j hj => own_eq8 [74, 117, 100, 103, 101, 100, 81, 117, 101, 114, 121, 91, 105, 100, 61, p0, p1, 44, 32, 119, 111, 114, 100, 115, 61, r0, r1, 93] [44, 32, 119, 111, 114, 100, 115, 61] 17 ⟨rfl, rfl⟩ j hj) _ f755 S754) (by simp) (by decide) (Nat.le_of_ble_eq_true rfl) rfl rfl (by decide) (by decide) ?_
      intro v756 h757 sh757 q758
      obtain ⟨rfl, ee⟩ := q758
      obtain rfl := ee.symm
      refine ⟨_, fun _ hx => Or.inl hx, ?_⟩
      show oGo l Z a0 EL True pP eE sS mM _ bB tT cC _ _ _ _ _ _ _ _ [a686] h750 43 1175 199 #[.val (.int i0), .val (.int i1), .val (.int i2), .val (.int i3), .val (.int (2 : Int32)), .val (.int (2 : Int32)), .val (.int p0), .val (.int p1), .val (.int r0), .val (.int r1), .val (.ref p), .val (.ref r), .val (.ref a686), .val (.ref y), .unset] [.int (1 : Int32)]
      refine oGo.if_ne (pc1 := 202) (pc2 := 204) at_199 rfl (by decide) (fun q759 => ?_) (fun q => by first | exact absurd q (by decide) | exact absurd (by decide) q)
      refine oGo.bipush (pc' := 206) (v := 23) at_204 rfl (by decide) ?_
      refine oGo.iload (pc' := 208) at_206 rfl rfl ?_
      refine oGo.iadd (pc' := 209) at_208 rfl ?_
      rw [show (23 : Int32) + (2 : Int32) = (25 : Int32) from by decide]
      refine oGo.istore (pc' := 211) (Ls' := #[.val (.int i0), .val (.int i1), .val (.int i2), .val (.int i3), .val (.int (2 : Int32)), .val (.int (2 : Int32)), .val (.int p0), .val (.int p1), .val (.int r0), .val (.int r1), .val (.ref p), .val (.ref r), .val (.ref a686), .val (.ref y), .val (.int (25 : Int32))]) at_209 rfl rfl ?_
      refine oGo.iload (pc' := 213) at_211 rfl rfl ?_
      refine oGo.iconst (pc' := 214) (v := 1) at_213 rfl (by decide) ?_
      refine oGo.icmp_lt (pc1 := 217) (pc2 := 231) at_214 rfl (by decide) (fun q => by first | exact absurd q (by decide) | exact absurd (by decide) q) (fun q760 => ?_)
      refine oGo.aload (pc' := 219) at_217 rfl rfl rfl ?_
      refine oGo.iload (pc' := 221) at_219 rfl rfl ?_
      have f764 := Exa.ext E753 f743
      refine oGo.invokevirtual (pc' := 224) (k' := 43) (n' := 1175) (a := y) (argsL := [.int (25 : Int32)]) (rest := []) at_221 rfl (w211 hG) (w212 hG) (w214 hG) (w214 hG) rfl (w213 hG) (w7 hG) (w215 hG) (by decide) pd29 rfl rfl rfl f764 (c_charAt hG y ty [74, 117, 100, 103, 101, 100, 81, 117, 101, 114, 121, 91, 105, 100, 61, p0, p1, 44, 32, 119, 111, 114, 100, 115, 61, r0, r1, 93] 25 r0 rfl _ f755) (by simp) (by decide) (Nat.le_of_ble_eq_true rfl) rfl rfl (by decide) (by decide) ?_
      intro v761 h762 sh762 q763
      obtain ⟨rfl, ee⟩ := q763
      obtain rfl := ee.symm
      refine ⟨_, fun _ hx => Or.inl hx, ?_⟩
      show oGo l Z a0 EL True pP eE sS mM _ bB tT cC _ _ _ _ _ _ _ _ [a686] h750 43 1175 224 #[.val (.int i0), .val (.int i1), .val (.int i2), .val (.int i3), .val (.int (2 : Int32)), .val (.int (2 : Int32)), .val (.int p0), .val (.int p1), .val (.int r0), .val (.int r1), .val (.ref p), .val (.ref r), .val (.ref a686), .val (.ref y), .val (.int (25 : Int32))] [.int r0]
      refine oGo.iload (pc' := 226) at_224 rfl rfl ?_
      refine oGo.icmp_eq (pc1 := 229) (pc2 := 231) at_226 rfl (by decide) (fun q765 => ?_) (fun q => absurd rfl q)
      refine oGo.iload (pc' := 233) at_231 rfl rfl ?_
      refine oGo.iconst (pc' := 234) (v := 2) at_233 rfl (by decide) ?_
      refine oGo.icmp_lt (pc1 := 237) (pc2 := 253) at_234 rfl (by decide) (fun q => by first | exact absurd q (by decide) | exact absurd (by decide) q) (fun q766 => ?_)
      refine oGo.aload (pc' := 239) at_237 rfl rfl rfl ?_
      refine oGo.iload (pc' := 241) at_239 rfl rfl ?_
      refine oGo.iconst (pc' := 242) (v := 1) at_241 rfl (by decide) ?_
      refine oGo.iadd (pc' := 243) at_242 rfl ?_
      rw [show (25 : Int32) + (1 : Int32) = (26 : Int32) from by decide]
      refine oGo.invokevirtual (pc' := 246) (k' := 43) (n' := 1175) (a := y) (argsL := [.int (26 : Int32)]) (rest := []) at_243 rfl (w211 hG) (w212 hG) (w214 hG) (w214 hG) rfl (w213 hG) (w7 hG) (w215 hG) (by decide) pd29 rfl rfl rfl f764 (c_charAt hG y ty [74, 117, 100, 103, 101, 100, 81, 117, 101, 114, 121, 91, 105, 100, 61, p0, p1, 44, 32, 119, 111, 114, 100, 115, 61, r0, r1, 93] 26 r1 rfl _ f755) (by simp) (by decide) (Nat.le_of_ble_eq_true rfl) rfl rfl (by decide) (by decide) ?_
      intro v767 h768 sh768 q769
      obtain ⟨rfl, ee⟩ := q769
      obtain rfl := ee.symm
      refine ⟨_, fun _ hx => Or.inl hx, ?_⟩
      show oGo l Z a0 EL True pP eE sS mM _ bB tT cC _ _ _ _ _ _ _ _ [a686] h750 43 1175 246 #[.val (.int i0), .val (.int i1), .val (.int i2), .val (.int i3), .val (.int (2 : Int32)), .val (.int (2 : Int32)), .val (.int p0), .val (.int p1), .val (.int r0), .val (.int r1), .val (.ref p), .val (.ref r), .val (.ref a686), .val (.ref y), .val (.int (25 : Int32))] [.int r1]
      refine oGo.iload (pc' := 248) at_246 rfl rfl ?_
      refine oGo.icmp_eq (pc1 := 251) (pc2 := 253) at_248 rfl (by decide) (fun q770 => ?_) (fun q => absurd rfl q)
      refine oGo.aload (pc' := 255) at_253 rfl rfl rfl ?_
      refine oGo.iload (pc' := 257) at_255 rfl rfl ?_
      refine oGo.iload (pc' := 259) at_257 rfl rfl ?_
      refine oGo.iadd (pc' := 260) at_259 rfl ?_
      rw [show (25 : Int32) + (2 : Int32) = (27 : Int32) from by decide]
      refine oGo.invokevirtual (pc' := 263) (k' := 43) (n' := 1175) (a := y) (argsL := [.int (27 : Int32)]) (rest := []) at_260 rfl (w211 hG) (w212 hG) (w214 hG) (w214 hG) rfl (w213 hG) (w7 hG) (w215 hG) (by decide) pd29 rfl rfl rfl f764 (c_charAt hG y ty [74, 117, 100, 103, 101, 100, 81, 117, 101, 114, 121, 91, 105, 100, 61, p0, p1, 44, 32, 119, 111, 114, 100, 115, 61, r0, r1, 93] 27 93 rfl _ f755) (by simp) (by decide) (Nat.le_of_ble_eq_true rfl) rfl rfl (by decide) (by decide) ?_
      intro v771 h772 sh772 q773
      obtain ⟨rfl, ee⟩ := q773
      obtain rfl := ee.symm
      refine ⟨_, fun _ hx => Or.inl hx, ?_⟩
      show oGo l Z a0 EL True pP eE sS mM _ bB tT cC _ _ _ _ _ _ _ _ [a686] h750 43 1175 263 #[.val (.int i0), .val (.int i1), .val (.int i2), .val (.int i3), .val (.int (2 : Int32)), .val (.int (2 : Int32)), .val (.int p0), .val (.int p1), .val (.int r0), .val (.int r1), .val (.ref p), .val (.ref r), .val (.ref a686), .val (.ref y), .val (.int (25 : Int32))] [.int (93 : Int32)]
      refine oGo.bipush (pc' := 265) (v := 93) at_263 rfl (by decide) ?_
      refine oGo.icmp_ne (pc1 := 268) (pc2 := 272) at_265 rfl (by decide) (fun q => absurd rfl q) (fun q774 => ?_)
      refine oGo.iconst (pc' := 269) (v := 1) at_268 rfl (by decide) ?_
      refine oGo.goto (pc' := 273) at_269 (by decide) ?_
      exact oGo.nreturn at_273 rfl (by simp) rfl (by decide) (by decide) rfl (fun _ q => q.elim)
theorem own_held {s : State} {o : String} {i : Nat} (h : Jvm.Pilot.@@N@@.Jvm.D.constHeld s o i) : Jvm.Lit.constHeld s o i := h
theorem own_compactW {a0 : Array Value} {s : State} (h : (Jvm.Cond.not (Jvm.Cond.eq (Jvm.Term.static "java/lang/String" "COMPACT_STRINGS" "Z") (Jvm.Term.int (0 : Int32)))).before a0 s = true) : Jvm.Lit.compactW.before a0 s = true := h
set_option maxRecDepth 65536 in
set_option maxHeartbeats 4000000 in
theorem comes_1 {Post : Tables → Env → Array Value → State → Outcome → State → Prop} (hpost : ∀ tb e args s v u, (limb_1_1.after args s (.returned v) u = true ∧ limb_1_2.after args s (.returned v) u = true) → D.FramedW s (.returned v) u (Jvm.fieldLocs frame_1_writes args s ++ Jvm.arrayLocs frame_1_arrays args s ++ Jvm.staticLocs frame_1_statics s) 56 9536 → Post tb e args s (.returned v) u) :
    ArmFor flags0 classFile x code maxLocals ret World_1 tables_1 room_1 Calls_1 rest_1 Pre_1 Post := by
  intro l hfl _ _ p e ha hc hk s m args below hf hA hF happ hP
  obtain ⟨hcalls, hrest, hpre⟩ := hP
  obtain ⟨-, -, -, hnamed, -, -, -, hat⟩ := (Spec.applies_iff hf).mp happ
  obtain ⟨hg, hn⟩ := and_e (Cond.before_iff.mp (show (Jvm.Cond.and given_1 narrow_1).before args s = true from hpre))
  obtain ⟨g0, g1⟩ := and_e hg
  obtain ⟨t0, r0⟩ := and_e g1
  obtain ⟨t1, r1⟩ := and_e r0
  obtain ⟨t2, r2⟩ := and_e r1
  obtain ⟨w0, w1, w2, w3, rfl⟩ : ∃ w0 w1 w2 w3 : Value, args = #[w0, w1, w2, w3] := by
    have hs : args.size = 4 := by simpa [Cond.value, given_1] using g0
    obtain ⟨L⟩ := args
    match L, hs with
    | [w0, w1, w2, w3], _ => exact ⟨w0, w1, w2, w3, rfl⟩
  have hw := fun d (hd : d ∈ tables_1) => atoms_spec (ws := Jvm.Cond.code x code maxLocals ret :: tables_1) hat d (List.mem_cons_of_mem _ hd)
  obtain ⟨hsets, hown0⟩ := atoms_of _ (rest_1_c_eq ▸ (show rest_1_c.before _ s = true from hrest))
  obtain ⟨i0, ei0⟩ := is_v t0
  obtain rfl : w0 = (.int i0) := Option.some.inj ei0
  obtain ⟨i1, ei1⟩ := is_v t1
  obtain rfl : w1 = (.int i1) := Option.some.inj ei1
  obtain ⟨i2, ei2⟩ := is_v t2
  obtain rfl : w2 = (.int i2) := Option.some.inj ei2
  obtain ⟨i3, ei3⟩ := is_v r2
  obtain rfl : w3 = (.int i3) := Option.some.inj ei3
  have hEW : EW s #[.int i0, .int i1, .int i2, .int i3] consts_1 := (EW.cons (hw _ (List.mem_of_getElem? (i := 51) rfl)) (by decide) (EW.cons (hw _ (List.mem_of_getElem? (i := 59) rfl)) (by decide) (EW.cons (hw _ (List.mem_of_getElem? (i := 94) rfl)) (by decide) (EW.cons (hw _ (List.mem_of_getElem? (i := 142) rfl)) (by decide) (EW.cons (hw _ (List.mem_of_getElem? (i := 166) rfl)) (by decide) (EW.cons (hw _ (List.mem_of_getElem? (i := 207) rfl)) (by decide) (EW.cons (hw _ (List.mem_of_getElem? (i := 233) rfl)) (by decide) (EW.cons (hw _ (List.mem_of_getElem? (i := 234) rfl)) (by decide) (EW.cons (hw _ (List.mem_of_getElem? (i := 19) rfl)) (by decide) EW.nil)))))))))
  have hG : oG #[.int i0, .int i1, .int i2, .int i3] s consts_1 := ⟨hw, hEW, hsets, fun _ h => h⟩
  have hCH : CHv s consts_1 s.vm s.heap := CHv.start hEW (fun p hp => own_held (hcalls.1 p hp)) (own_compactW (hsets _ (List.mem_of_getElem? (i := 2) rfl))) (w20 hG) (w6 hG)
  obtain ⟨n, o, h1, h2, h3, v, L, rfl, ⟨rfl, -⟩, hN, -, -, -, hR⟩ := c_law (l := l) hG i0 i1 i2 i3 s.heap p e ha hc hk s m _ below hf ((Spec.applies_iff_loose hf).mp happ).1 ⟨rfl, State.Warmed39.refl s, rfl, ext_refl _, hCH, (fun x hx => by simp at hx)⟩ trivial
  refine ⟨n, _, h1, h2, h3, hpost _ _ _ _ _ _ ⟨Cond.after_iff.mpr rfl, Cond.after_iff.mpr (eq_i res_at (Term.int_eval (1)) rfl)⟩ ⟨⟨_, rfl⟩, hR.2.1, hR.2.2.1, (hR.2.2.2.sift fun y hy => Or.inr (hN y hy)).mono (by decide) (by decide)⟩⟩
theorem main_1_1 : Claimed_1_1 := comes_1 fun _ _ _ _ _ _ h hF => ⟨h.1, hF⟩
theorem main_1_2 : Claimed_1_2 := comes_1 fun _ _ _ _ _ _ h hF => ⟨h.2, hF⟩
end Jvm.Pilot.@@N@@
namespace Jvm.Pilot.@@N@@
open Jvm Jvm.ClassFile Sem Op Lib Jvm.Free Jvm.Stand Jvm.Pilot.@@N@@.Jvm.D
/-! MADE BY PROGRAM (witnessworld.py) out of the Statement's table words and the real class files: 36 classes; the members and pool entries that the words name. The judged class is class 1, her method 1. -/
namespace start1
open Jvm.ClassFile
def u (s : String) : CpInfo := .utf8 (stringToUtf16 s)
/-- a pool by its gaps: so many unusable entries, then the entry; so many at the end -/
def gap : Nat → List CpInfo → List CpInfo
  | 0, r => r
  | n + 1, r => .unusable :: gap n r
def poolList (es : List (Nat × CpInfo)) (last : Nat) : List CpInfo := es.foldr (fun e r => gap e.1 (e.2 :: r)) (gap last [])
def pool (es : List (Nat × CpInfo)) (last : Nat) : Array CpInfo := ⟨poolList es last⟩
def fileOf (pool : Array CpInfo) (this : Nat) (attrs : Array Attribute := #[]) (ms : Array MethodInfo := #[]) (fl : Nat := 33) (sup : Nat := 0) (ifs : Array Nat := #[]) (fds : Array FieldInfo := #[]) : ClassFile where
  minorVersion := 0
  majorVersion := 65
  constantPool := pool
  accessFlags := fl
  thisClass := this
  superClass := sup
  interfaces := ifs
  fields := fds
  methods := ms
  attributes := attrs
def plain (name : String) (sup : Option ClassId) : Class where
  name := name
  kind := .ordinary
  loader := none
  accessFlags := 33
  super := sup
  interfaces := #[]
  cf := none
  fields := #[]
  methods := #[]
  instanceTypes := #[]
  staticTypes := #[]
  resolved := #[]
  callSites := []
  init := .initialized
  statics := none
  mirror := none

def pool0 : Array CpInfo := pool [(5, u "<init>"), (0, u "()V"), (1, .class_ 10), (1, u "java/lang/Object")] 113

def k0c0 : Code := { maxStack := 0, maxLocals := 1, code := object_method_1_code, exceptionTable := #[], attributes := #[] }
def k0m0 : Method := { name := "<init>", desc := "()V", sig := { parameters := [], returnType := none }, accessFlags := 1, code := some k0c0 }
/-- java/lang/Object -/
def k0 : Class := { plain "java/lang/Object" none with
  accessFlags := 33
  interfaces := #[]
  cf := some (fileOf pool0 8 #[] #[{ accessFlags := 1, nameIndex := 5, descriptorIndex := 6, attributes := #[] }] 33 0 #[] #[])
  fields := #[]
  methods := #[k0m0]
  instanceTypes := #[]
  staticTypes := #[]
  resolved := Array.replicate 124 none
  statics := none }

def pool1 : Array CpInfo := pool [(2, .class_ 4), (1, u "java/lang/Object"), (0, u "<init>"), (0, u "()V"), (0, .integer 2147483647), (0, .methodref 9 10), (0, .class_ 11), (0, .nameAndType 12 13), (0, u "com/example/soft_sieve/softsieve/JudgedQueryToStringPinLaw"), (0, u "mk"), (0, u "(ICC)Ljava/lang/String;"), (0, .class_ 15), (0, u "com/example/soft_sieve/softsieve/JudgedQuery"), (0, .interfaceMethodref 17 18), (0, .class_ 19), (0, .nameAndType 20 21), (0, u "java/util/Set"), (0, u "of"), (0, u "()Ljava/util/Set;"), (0, .methodref 14 23), (0, .nameAndType 5 24), (0, u "(Ljava/lang/String;Ljava/lang/String;Ljava/util/Set;)V"), (0, .methodref 14 26), (0, .nameAndType 27 28), (0, u "toString"), (0, u "()Ljava/lang/String;"), (0, .methodref 30 31), (0, .class_ 32), (0, .nameAndType 33 34), (0, u "java/lang/String"), (0, u "length"), (0, u "()I"), (0, .string 36), (0, u "JudgedQu"), (0, .methodref 9 38), (0, .nameAndType 39 40), (0, u "eq8"), (0, u "(Ljava/lang/String;ILjava/lang/String;)Z"), (0, .string 42), (0, u "uery[id="), (0, .methodref 30 44), (0, .nameAndType 45 46), (0, u "charAt"), (0, u "(I)C"), (0, .string 48), (0, u ", words="), (0, .methodref 30 50), (0, .nameAndType 5 51), (0, u "([C)V"), (2, u "law"), (0, u "(IIII)Z")] 3

def k1m0 : Method := { name := "<init>", desc := "()V", sig := { parameters := [], returnType := none }, accessFlags := 1, code := none }
def k1c1 : Code := { maxStack := 5, maxLocals := 15, code := code, exceptionTable := #[], attributes := #[] }
def k1m1 : Method := { name := "law", desc := "(IIII)Z", sig := { parameters := [.int, .int, .int, .int], returnType := some .boolean }, accessFlags := 9, code := some k1c1 }
def k1c2 : Code := { maxStack := 3, maxLocals := 4, code := method_3_code, exceptionTable := #[], attributes := #[] }
def k1m2 : Method := { name := "mk", desc := "(ICC)Ljava/lang/String;", sig := { parameters := [.int, .char, .char], returnType := some (.object "java/lang/String") }, accessFlags := 10, code := some k1c2 }
def k1c3 : Code := { maxStack := 3, maxLocals := 3, code := method_4_code, exceptionTable := #[], attributes := #[] }
def k1m3 : Method := { name := "eq8", desc := "(Ljava/lang/String;ILjava/lang/String;)Z", sig := { parameters := [(.object "java/lang/String"), .int, (.object "java/lang/String")], returnType := some .boolean }, accessFlags := 10, code := some k1c3 }
/-- com/example/soft_sieve/softsieve/JudgedQueryToStringPinLaw -/
def k1 : Class := { plain "com/example/soft_sieve/softsieve/JudgedQueryToStringPinLaw" (some 0) with
  accessFlags := 49
  interfaces := #[]
  cf := some (fileOf pool1 9 #[] #[{ accessFlags := 1, nameIndex := 5, descriptorIndex := 6, attributes := #[] }, { accessFlags := 9, nameIndex := 54, descriptorIndex := 55, attributes := #[] }, { accessFlags := 10, nameIndex := 12, descriptorIndex := 13, attributes := #[] }, { accessFlags := 10, nameIndex := 39, descriptorIndex := 40, attributes := #[] }] 49 2 #[] #[])
  fields := #[]
  methods := #[k1m0, k1m1, k1m2, k1m3]
  instanceTypes := #[]
  staticTypes := #[]
  resolved := Array.replicate 59 none
  statics := none }

def pool2 : Array CpInfo := pool [(1, .class_ 2), (0, u "java/io/Serializable"), (0, .class_ 4), (0, u "java/lang/Object")] 2

/-- java/io/Serializable -/
def k2 : Class := { plain "java/io/Serializable" (some 0) with
  accessFlags := 1537
  interfaces := #[]
  cf := some (fileOf pool2 1 #[] #[] 1537 3 #[] #[])
  fields := #[]
  methods := #[]
  instanceTypes := #[]
  staticTypes := #[]
  resolved := Array.replicate 7 none
  statics := none }

def pool3 : Array CpInfo := pool [(1, .class_ 2), (0, u "java/lang/Comparable"), (0, .class_ 4), (0, u "java/lang/Object")] 7

/-- java/lang/Comparable -/
def k3 : Class := { plain "java/lang/Comparable" (some 0) with
  accessFlags := 1537
  interfaces := #[]
  cf := some (fileOf pool3 1 #[] #[] 1537 3 #[] #[])
  fields := #[]
  methods := #[]
  instanceTypes := #[]
  staticTypes := #[]
  resolved := Array.replicate 12 none
  statics := none }

def pool4 : Array CpInfo := pool [(2, .class_ 4), (1, u "java/lang/CharSequence"), (42, .class_ 48), (0, u "java/lang/CharSequence$1CodePointIterator"), (10, .class_ 60), (0, u "java/lang/CharSequence$1CharIterator"), (5, .class_ 67), (0, u "java/lang/Object")] 63

/-- java/lang/CharSequence -/
def k4 : Class := { plain "java/lang/CharSequence" (some 0) with
  accessFlags := 1537
  interfaces := #[]
  cf := some (fileOf pool4 2 #[.nestMembers #[47, 59]] #[] 1537 66 #[] #[])
  fields := #[]
  methods := #[]
  instanceTypes := #[]
  staticTypes := #[]
  resolved := Array.replicate 131 none
  statics := none }

def pool5 : Array CpInfo := pool [(1, .class_ 2), (0, u "java/lang/constant/Constable"), (0, .class_ 4), (0, u "java/lang/Object")] 6

/-- java/lang/constant/Constable -/
def k5 : Class := { plain "java/lang/constant/Constable" (some 0) with
  accessFlags := 1537
  interfaces := #[]
  cf := some (fileOf pool5 1 #[] #[] 1537 3 #[] #[])
  fields := #[]
  methods := #[]
  instanceTypes := #[]
  staticTypes := #[]
  resolved := Array.replicate 11 none
  statics := none }

def pool6 : Array CpInfo := pool [(1, .class_ 2), (0, u "java/lang/constant/ConstantDesc"), (0, .class_ 4), (0, u "java/lang/Object")] 32

/-- java/lang/constant/ConstantDesc -/
def k6 : Class := { plain "java/lang/constant/ConstantDesc" (some 0) with
  accessFlags := 1537
  interfaces := #[]
  cf := some (fileOf pool6 1 #[] #[] 1537 3 #[] #[])
  fields := #[]
  methods := #[]
  instanceTypes := #[]
  staticTypes := #[]
  resolved := Array.replicate 37 none
  statics := none }

def pool7 : Array CpInfo := pool [(1, .methodref 2 3), (0, .class_ 4), (0, .nameAndType 5 6), (0, u "java/lang/Object"), (0, u "<init>"), (0, u "()V"), (0, .string 8), (0, u ""), (0, .fieldref 10 11), (0, .class_ 12), (0, .nameAndType 13 14), (0, u "java/lang/String"), (0, u "value"), (0, u "[B"), (0, .fieldref 10 16), (0, .nameAndType 17 18), (0, u "coder"), (0, u "B"), (2, u "hash"), (0, u "I"), (2, u "hashIsZero"), (0, u "Z"), (0, .methodref 10 28), (0, .nameAndType 5 29), (0, u "([CIILjava/lang/Void;)V"), (8, .fieldref 10 39), (0, .nameAndType 40 26), (0, u "COMPACT_STRINGS"), (1, .class_ 44), (1, u "java/lang/StringUTF16"), (0, u "compress"), (1, .methodref 42 48), (0, .nameAndType 49 50), (0, u "coderFromArrayLen"), (0, u "([BI)B"), (3, .methodref 55 56), (0, .class_ 57), (0, .nameAndType 58 59), (0, u "java/util/Arrays"), (0, u "copyOfRange"), (0, u "([BII)[B"), (47, .class_ 109), (1, u "java/lang/StringLatin1"), (32, u "()Z"), (34, .methodref 42 178), (0, .nameAndType 45 179), (0, u "([CII)[B"), (13, .class_ 195), (1, u "java/lang/System"), (16, .methodref 193 213), (0, .nameAndType 214 215), (0, u "arraycopy"), (0, u "(Ljava/lang/Object;ILjava/lang/Object;II)V"), (118, u "()I"), (0, .methodref 10 336), (0, .nameAndType 17 337), (0, u "()B"), (2, u "()[B"), (22, u "([BI)C"), (27, u "(II)V"), (35, u "(I)C"), (61, .methodref 10 490), (0, .nameAndType 5 491), (0, u "(Ljava/lang/AbstractStringBuilder;Ljava/lang/Void;)V"), (0, .methodref 10 493), (0, .nameAndType 494 142), (0, u "isLatin1"), (0, .methodref 107 496), (0, .nameAndType 497 363), (0, u "charAt"), (3, u "checkIndex"), (4, .nameAndType 507 334), (0, u "length"), (24, u "getBytes"), (16, .methodref 550 506), (0, .class_ 551), (0, u "java/lang/AbstractStringBuilder"), (0, .methodref 550 553), (0, .nameAndType 554 340), (0, u "getValue"), (20, .class_ 576), (0, u "java/lang/CharSequence"), (22, u "CASE_INSENSITIVE_ORDER"), (0, u "Ljava/util/Comparator;"), (220, u "([BIB)V"), (188, u "([C)V"), (36, .methodref 550 493), (5, .fieldref 1054 1055), (0, .class_ 1056), (0, .nameAndType 1057 1058), (0, u "jdk/internal/util/Preconditions"), (0, u "SIOOBE_FORMATTER"), (0, u "Ljava/util/function/BiFunction;"), (0, .methodref 1054 1060), (0, .nameAndType 501 1061), (0, u "(IILjava/util/function/BiFunction;)I"), (39, u "serialPersistentFields"), (0, u "[Ljava/io/ObjectStreamField;"), (0, .class_ 1104), (0, u "java/lang/String$CaseInsensitiveComparator"), (1, .class_ 1107), (0, u "java/io/Serializable"), (0, .class_ 1109), (0, u "java/lang/Comparable"), (0, .class_ 1111), (0, u "java/lang/constant/Constable"), (0, .class_ 1113), (0, u "java/lang/constant/ConstantDesc"), (2, u "serialVersionUID"), (0, u "J"), (3, u "REPL"), (0, u "C"), (2, u "LATIN1"), (1, u "UTF16"), (105, u "(Ljava/lang/StringBuilder;)V")] 217

def k7m0 : Method := { name := "<init>", desc := "()V", sig := { parameters := [], returnType := none }, accessFlags := 1, code := none }
def k7c1 : Code := { maxStack := 5, maxLocals := 2, code := jdk_42_method_3_code, exceptionTable := #[], attributes := #[] }
def k7m1 : Method := { name := "<init>", desc := "([C)V", sig := { parameters := [(.array .char)], returnType := none }, accessFlags := 1, code := some k7c1 }
def k7c2 : Code := { maxStack := 3, maxLocals := 2, code := jdk_42_method_53_code, exceptionTable := #[], attributes := #[] }
def k7m2 : Method := { name := "<init>", desc := "(Ljava/lang/StringBuilder;)V", sig := { parameters := [(.object "java/lang/StringBuilder")], returnType := none }, accessFlags := 1, code := some k7c2 }
def k7c3 : Code := { maxStack := 2, maxLocals := 1, code := jdk_42_method_54_code, exceptionTable := #[], attributes := #[] }
def k7m3 : Method := { name := "length", desc := "()I", sig := { parameters := [], returnType := some .int }, accessFlags := 1, code := some k7c3 }
def k7c4 : Code := { maxStack := 2, maxLocals := 2, code := jdk_42_method_56_code, exceptionTable := #[], attributes := #[] }
def k7m4 : Method := { name := "charAt", desc := "(I)C", sig := { parameters := [.int], returnType := some .char }, accessFlags := 1, code := some k7c4 }
def k7c5 : Code := { maxStack := 5, maxLocals := 4, code := jdk_42_method_147_code, exceptionTable := #[], attributes := #[] }
def k7m5 : Method := { name := "getBytes", desc := "([BIB)V", sig := { parameters := [(.array .byte), .int, .byte], returnType := none }, accessFlags := 0, code := some k7c5 }
def k7c6 : Code := { maxStack := 4, maxLocals := 6, code := jdk_42_method_149_code, exceptionTable := #[], attributes := #[] }
def k7m6 : Method := { name := "<init>", desc := "([CIILjava/lang/Void;)V", sig := { parameters := [(.array .char), .int, .int, (.object "java/lang/Void")], returnType := none }, accessFlags := 2, code := some k7c6 }
def k7c7 : Code := { maxStack := 5, maxLocals := 5, code := jdk_42_method_150_code, exceptionTable := #[], attributes := #[] }
def k7m7 : Method := { name := "<init>", desc := "(Ljava/lang/AbstractStringBuilder;Ljava/lang/Void;)V", sig := { parameters := [(.object "java/lang/AbstractStringBuilder"), (.object "java/lang/Void")], returnType := none }, accessFlags := 0, code := some k7c7 }
def k7c8 : Code := { maxStack := 1, maxLocals := 1, code := jdk_42_method_152_code, exceptionTable := #[], attributes := #[] }
def k7m8 : Method := { name := "coder", desc := "()B", sig := { parameters := [], returnType := some .byte }, accessFlags := 0, code := some k7c8 }
def k7c9 : Code := { maxStack := 1, maxLocals := 1, code := jdk_42_method_154_code, exceptionTable := #[], attributes := #[] }
def k7m9 : Method := { name := "isLatin1", desc := "()Z", sig := { parameters := [], returnType := some .boolean }, accessFlags := 0, code := some k7c9 }
def k7c10 : Code := { maxStack := 3, maxLocals := 2, code := jdk_42_method_155_code, exceptionTable := #[], attributes := #[] }
def k7m10 : Method := { name := "checkIndex", desc := "(II)V", sig := { parameters := [.int, .int], returnType := none }, accessFlags := 8, code := some k7c10 }
/-- java/lang/String -/
def k7 : Class := { plain "java/lang/String" (some 0) with
  accessFlags := 49
  interfaces := #[2, 3, 4, 5, 6]
  cf := some (fileOf pool7 10 #[.nestMembers #[1103]] #[{ accessFlags := 1, nameIndex := 5, descriptorIndex := 6, attributes := #[] }, { accessFlags := 1, nameIndex := 5, descriptorIndex := 1010, attributes := #[] }, { accessFlags := 1, nameIndex := 5, descriptorIndex := 1233, attributes := #[] }, { accessFlags := 1, nameIndex := 507, descriptorIndex := 334, attributes := #[] }, { accessFlags := 1, nameIndex := 497, descriptorIndex := 427, attributes := #[] }, { accessFlags := 0, nameIndex := 532, descriptorIndex := 821, attributes := #[] }, { accessFlags := 2, nameIndex := 5, descriptorIndex := 29, attributes := #[] }, { accessFlags := 0, nameIndex := 5, descriptorIndex := 491, attributes := #[] }, { accessFlags := 0, nameIndex := 17, descriptorIndex := 337, attributes := #[] }, { accessFlags := 0, nameIndex := 494, descriptorIndex := 142, attributes := #[] }, { accessFlags := 8, nameIndex := 501, descriptorIndex := 391, attributes := #[] }] 49 2 #[1106, 1108, 575, 1110, 1112] #[{ accessFlags := 18, nameIndex := 13, descriptorIndex := 14, attributes := #[] }, { accessFlags := 18, nameIndex := 17, descriptorIndex := 18, attributes := #[] }, { accessFlags := 2, nameIndex := 21, descriptorIndex := 22, attributes := #[] }, { accessFlags := 2, nameIndex := 25, descriptorIndex := 26, attributes := #[] }, { accessFlags := 26, nameIndex := 1116, descriptorIndex := 1117, attributes := #[] }, { accessFlags := 24, nameIndex := 40, descriptorIndex := 26, attributes := #[] }, { accessFlags := 26, nameIndex := 1101, descriptorIndex := 1102, attributes := #[] }, { accessFlags := 26, nameIndex := 1121, descriptorIndex := 1122, attributes := #[] }, { accessFlags := 25, nameIndex := 599, descriptorIndex := 600, attributes := #[] }, { accessFlags := 24, nameIndex := 1125, descriptorIndex := 18, attributes := #[] }, { accessFlags := 24, nameIndex := 1127, descriptorIndex := 18, attributes := #[] }])
  fields := #[{ name := "value", type := (.array .byte), accessFlags := 18, slot := 0, constantValue := 0 }, { name := "coder", type := .byte, accessFlags := 18, slot := 1, constantValue := 0 }, { name := "hash", type := .int, accessFlags := 2, slot := 2, constantValue := 0 }, { name := "hashIsZero", type := .boolean, accessFlags := 2, slot := 3, constantValue := 0 }, { name := "serialVersionUID", type := .long, accessFlags := 26, slot := 0, constantValue := 0 }, { name := "COMPACT_STRINGS", type := .boolean, accessFlags := 24, slot := 1, constantValue := 0 }, { name := "serialPersistentFields", type := (.array (.object "java/io/ObjectStreamField")), accessFlags := 26, slot := 2, constantValue := 0 }, { name := "REPL", type := .char, accessFlags := 26, slot := 3, constantValue := 0 }, { name := "CASE_INSENSITIVE_ORDER", type := (.object "java/util/Comparator"), accessFlags := 25, slot := 4, constantValue := 0 }, { name := "LATIN1", type := .byte, accessFlags := 24, slot := 5, constantValue := 0 }, { name := "UTF16", type := .byte, accessFlags := 24, slot := 6, constantValue := 0 }]
  methods := #[k7m0, k7m1, k7m2, k7m3, k7m4, k7m5, k7m6, k7m7, k7m8, k7m9, k7m10]
  instanceTypes := #[(.array .byte), .byte, .int, .boolean]
  staticTypes := #[.long, .boolean, (.array (.object "java/io/ObjectStreamField")), .char, (.object "java/util/Comparator"), .byte, .byte]
  resolved := Array.replicate 1451 none
  statics := some 0 }

def pool8 : Array CpInfo := pool [(6, .class_ 8), (1, u "java/lang/Object"), (0, u "<init>"), (0, u "()V"), (1, .class_ 14), (1, u "java/lang/StringUTF16"), (31, u "$assertionsDisabled"), (0, u "Z"), (13, u "HI_BYTE_SHIFT"), (0, u "I"), (2, u "LO_BYTE_SHIFT"), (49, .methodref 12 116), (0, .nameAndType 117 118), (0, u "compress"), (0, u "([CI[BII)I"), (3, u "([CII)[B"), (138, u "coderFromArrayLen"), (0, u "([BI)B"), (106, .class_ 371), (1, u "java/lang/StringUTF16$LinesSpliterator"), (58, u "MAX_LENGTH"), (196, .class_ 628), (0, u "java/lang/StringUTF16$CodePointsSpliterator"), (0, .class_ 630), (0, u "java/lang/StringUTF16$CharsSpliterator")] 4

def k8m0 : Method := { name := "<init>", desc := "()V", sig := { parameters := [], returnType := none }, accessFlags := 0, code := none }
def k8c1 : Code := { maxStack := 2, maxLocals := 2, code := jdk_52_method_15_code, exceptionTable := #[], attributes := #[] }
def k8m1 : Method := { name := "coderFromArrayLen", desc := "([BI)B", sig := { parameters := [(.array .byte), .int], returnType := some .byte }, accessFlags := 8, code := some k8c1 }
def k8c2 : Code := { maxStack := 5, maxLocals := 6, code := jdk_52_method_16_code, exceptionTable := #[], attributes := #[] }
def k8m2 : Method := { name := "compress", desc := "([CII)[B", sig := { parameters := [(.array .char), .int, .int], returnType := some (.array .byte) }, accessFlags := 9, code := some k8c2 }
def k8c3 : Code := { maxStack := 3, maxLocals := 7, code := jdk_52_method_21_code, exceptionTable := #[], attributes := #[] }
def k8m3 : Method := { name := "compress", desc := "([CI[BII)I", sig := { parameters := [(.array .char), .int, (.array .byte), .int, .int], returnType := some .int }, accessFlags := 9, code := some k8c3 }
/-- java/lang/StringUTF16 -/
def k8 : Class := { plain "java/lang/StringUTF16" (some 0) with
  accessFlags := 48
  interfaces := #[]
  cf := some (fileOf pool8 12 #[.nestMembers #[627, 629, 369]] #[{ accessFlags := 0, nameIndex := 9, descriptorIndex := 10, attributes := #[] }, { accessFlags := 8, nameIndex := 261, descriptorIndex := 262, attributes := #[] }, { accessFlags := 9, nameIndex := 117, descriptorIndex := 122, attributes := #[] }, { accessFlags := 9, nameIndex := 117, descriptorIndex := 118, attributes := #[] }] 48 6 #[] #[{ accessFlags := 26, nameIndex := 61, descriptorIndex := 62, attributes := #[] }, { accessFlags := 26, nameIndex := 65, descriptorIndex := 62, attributes := #[] }, { accessFlags := 24, nameIndex := 430, descriptorIndex := 62, attributes := #[] }, { accessFlags := 4120, nameIndex := 46, descriptorIndex := 47, attributes := #[] }])
  fields := #[{ name := "HI_BYTE_SHIFT", type := .int, accessFlags := 26, slot := 0, constantValue := 0 }, { name := "LO_BYTE_SHIFT", type := .int, accessFlags := 26, slot := 1, constantValue := 0 }, { name := "MAX_LENGTH", type := .int, accessFlags := 24, slot := 2, constantValue := 0 }, { name := "$assertionsDisabled", type := .boolean, accessFlags := 4120, slot := 3, constantValue := 0 }]
  methods := #[k8m0, k8m1, k8m2, k8m3]
  instanceTypes := #[]
  staticTypes := #[.int, .int, .int, .boolean]
  resolved := Array.replicate 635 none
  statics := none }

def pool9 : Array CpInfo := pool [(1, .methodref 2 3), (0, .class_ 4), (0, .nameAndType 5 6), (0, u "java/lang/Object"), (0, u "<init>"), (0, u "()V"), (0, .string 8), (0, u "id"), (0, .methodref 10 11), (0, .class_ 12), (0, .nameAndType 13 14), (0, u "java/util/Objects"), (0, u "requireNonNull"), (0, u "(Ljava/lang/Object;Ljava/lang/String;)Ljava/lang/Object;"), (0, .class_ 16), (0, u "java/lang/String"), (0, .fieldref 18 19), (0, .class_ 20), (0, .nameAndType 8 21), (0, u "com/example/soft_sieve/softsieve/JudgedQuery"), (0, u "Ljava/lang/String;"), (0, .string 23), (0, u "words"), (0, .fieldref 18 25), (0, .nameAndType 23 21), (0, .interfaceMethodref 27 28), (0, .class_ 29), (0, .nameAndType 30 31), (0, u "java/util/Set"), (0, u "copyOf"), (0, u "(Ljava/util/Collection;)Ljava/util/Set;"), (0, .fieldref 18 33), (0, .nameAndType 34 35), (0, u "relevant"), (0, u "Ljava/util/Set;"), (9, .class_ 46), (0, u "java/lang/StringBuilder"), (0, .methodref 45 3), (0, .string 49), (0, u "JudgedQuery[id="), (0, .methodref 45 51), (0, .nameAndType 52 53), (0, u "append"), (0, u "(Ljava/lang/String;)Ljava/lang/StringBuilder;"), (0, .string 55), (0, u ", words="), (0, .string 57), (0, u "]"), (0, .methodref 45 59), (0, .nameAndType 60 61), (0, u "toString"), (0, u "()Ljava/lang/String;"), (2, u "(Ljava/lang/String;Ljava/lang/String;Ljava/util/Set;)V")] 13

def k9c0 : Code := { maxStack := 3, maxLocals := 4, code := prog_6_method_1_code, exceptionTable := #[], attributes := #[] }
def k9m0 : Method := { name := "<init>", desc := "(Ljava/lang/String;Ljava/lang/String;Ljava/util/Set;)V", sig := { parameters := [(.object "java/lang/String"), (.object "java/lang/String"), (.object "java/util/Set")], returnType := none }, accessFlags := 1, code := some k9c0 }
def k9c1 : Code := { maxStack := 2, maxLocals := 1, code := prog_6_method_7_code, exceptionTable := #[], attributes := #[] }
def k9m1 : Method := { name := "toString", desc := "()Ljava/lang/String;", sig := { parameters := [], returnType := some (.object "java/lang/String") }, accessFlags := 1, code := some k9c1 }
/-- com/example/soft_sieve/softsieve/JudgedQuery -/
def k9 : Class := { plain "com/example/soft_sieve/softsieve/JudgedQuery" (some 0) with
  accessFlags := 33
  interfaces := #[]
  cf := some (fileOf pool9 18 #[] #[{ accessFlags := 1, nameIndex := 5, descriptorIndex := 64, attributes := #[] }, { accessFlags := 1, nameIndex := 60, descriptorIndex := 61, attributes := #[] }] 33 2 #[] #[{ accessFlags := 18, nameIndex := 8, descriptorIndex := 21, attributes := #[] }, { accessFlags := 18, nameIndex := 23, descriptorIndex := 21, attributes := #[] }, { accessFlags := 18, nameIndex := 34, descriptorIndex := 35, attributes := #[] }])
  fields := #[{ name := "id", type := (.object "java/lang/String"), accessFlags := 18, slot := 0, constantValue := 0 }, { name := "words", type := (.object "java/lang/String"), accessFlags := 18, slot := 1, constantValue := 0 }, { name := "relevant", type := (.object "java/util/Set"), accessFlags := 18, slot := 2, constantValue := 0 }]
  methods := #[k9m0, k9m1]
  instanceTypes := #[(.object "java/lang/String"), (.object "java/lang/String"), (.object "java/util/Set")]
  staticTypes := #[]
  resolved := Array.replicate 78 none
  statics := none }

def pool10 : Array CpInfo := pool [(8, .class_ 10), (1, u "java/lang/Iterable"), (24, .class_ 36), (0, u "java/lang/Object")] 25

/-- java/lang/Iterable -/
def k10 : Class := { plain "java/lang/Iterable" (some 0) with
  accessFlags := 1537
  interfaces := #[]
  cf := some (fileOf pool10 8 #[] #[] 1537 35 #[] #[])
  fields := #[]
  methods := #[]
  instanceTypes := #[]
  staticTypes := #[]
  resolved := Array.replicate 62 none
  statics := none }

def pool11 : Array CpInfo := pool [(10, .class_ 12), (1, u "java/util/Collection"), (47, .class_ 61), (0, u "java/lang/Object"), (0, .class_ 63), (0, u "java/lang/Iterable")] 51

/-- java/util/Collection -/
def k11 : Class := { plain "java/util/Collection" (some 0) with
  accessFlags := 1537
  interfaces := #[10]
  cf := some (fileOf pool11 10 #[] #[] 1537 60 #[62] #[])
  fields := #[]
  methods := #[]
  instanceTypes := #[]
  staticTypes := #[]
  resolved := Array.replicate 115 none
  statics := none }

def pool12 : Array CpInfo := pool [(9, .fieldref 10 11), (0, .class_ 12), (0, .nameAndType 13 14), (0, u "java/util/ImmutableCollections"), (0, u "EMPTY_SET"), (0, u "Ljava/util/ImmutableCollections$SetN;"), (11, .class_ 27), (0, u "java/lang/Object"), (3, .class_ 32), (0, u "java/util/ImmutableCollections$AbstractImmutableSet"), (0, .class_ 34), (0, u "java/util/Set"), (1, .class_ 38), (1, u "java/util/Collection"), (4, u "of"), (0, u "()Ljava/util/Set;"), (86, u "copyOf"), (0, u "(Ljava/util/Collection;)Ljava/util/Set;")] 11

def k12c0 : Code := { maxStack := 1, maxLocals := 0, code := jdk_96_method_17_code, exceptionTable := #[], attributes := #[] }
def k12m0 : Method := { name := "of", desc := "()Ljava/util/Set;", sig := { parameters := [], returnType := some (.object "java/util/Set") }, accessFlags := 9, code := some k12c0 }
def k12c1 : Code := { maxStack := 3, maxLocals := 1, code := jdk_96_method_29_code, exceptionTable := #[], attributes := #[] }
def k12m1 : Method := { name := "copyOf", desc := "(Ljava/util/Collection;)Ljava/util/Set;", sig := { parameters := [(.object "java/util/Collection")], returnType := some (.object "java/util/Set") }, accessFlags := 9, code := some k12c1 }
/-- java/util/Set -/
def k12 : Class := { plain "java/util/Set" (some 0) with
  accessFlags := 1537
  interfaces := #[11]
  cf := some (fileOf pool12 33 #[] #[{ accessFlags := 9, nameIndex := 43, descriptorIndex := 44, attributes := #[] }, { accessFlags := 9, nameIndex := 131, descriptorIndex := 132, attributes := #[] }] 1537 26 #[36] #[])
  fields := #[]
  methods := #[k12m0, k12m1]
  instanceTypes := #[]
  staticTypes := #[]
  resolved := Array.replicate 144 none
  statics := none }

def pool13 : Array CpInfo := pool [(2, .class_ 4), (1, u "java/lang/Object"), (0, u "<init>"), (0, u "()V"), (3, .class_ 11), (0, u "java/util/ImmutableCollections$List12"), (0, .class_ 13), (0, u "java/util/ImmutableCollections$ListN"), (3, u "Z"), (29, .class_ 49), (1, u "java/util/ImmutableCollections"), (0, u "$assertionsDisabled"), (5, u "[Ljava/lang/Object;"), (5, u "EMPTY_LIST"), (0, u "Ljava/util/ImmutableCollections$ListN;"), (8, u "EMPTY_LIST_NULLS"), (22, u "SALT32L"), (0, u "J"), (2, u "REVERSE"), (6, u "archivedObjects"), (2, u "EMPTY"), (0, u "Ljava/lang/Object;"), (0, .class_ 112), (0, u "java/util/ImmutableCollections$SetN"), (5, u "EMPTY_SET"), (0, u "Ljava/util/ImmutableCollections$SetN;"), (0, .class_ 121), (0, u "java/util/ImmutableCollections$MapN"), (3, u "EMPTY_MAP"), (0, u "Ljava/util/ImmutableCollections$MapN;"), (4, u "EXPAND_FACTOR"), (0, u "I"), (36, .class_ 170), (0, u "java/util/ImmutableCollections$MapN$MapNIterator"), (0, .class_ 172), (0, u "java/util/ImmutableCollections$MapN$1"), (0, .class_ 174), (0, u "java/util/ImmutableCollections$Map1"), (0, .class_ 176), (0, u "java/util/ImmutableCollections$AbstractImmutableMap"), (0, .class_ 178), (0, u "java/util/ImmutableCollections$SetN$SetNIterator"), (0, .class_ 180), (0, u "java/util/ImmutableCollections$Set12"), (0, .class_ 182), (0, u "java/util/ImmutableCollections$Set12$1"), (0, .class_ 184), (0, u "java/util/ImmutableCollections$AbstractImmutableSet"), (0, .class_ 186), (0, u "java/util/ImmutableCollections$SubList"), (0, .class_ 188), (0, u "java/util/ImmutableCollections$ListItr"), (0, .class_ 190), (0, u "java/util/ImmutableCollections$AbstractImmutableList"), (0, .class_ 192), (0, u "java/util/ImmutableCollections$AbstractImmutableCollection"), (0, .class_ 194), (0, u "java/util/ImmutableCollections$Access"), (0, .class_ 196), (0, u "java/util/ImmutableCollections$Access$1")] 16

def k13m0 : Method := { name := "<init>", desc := "()V", sig := { parameters := [], returnType := none }, accessFlags := 2, code := none }
/-- java/util/ImmutableCollections -/
def k13 : Class := { plain "java/util/ImmutableCollections" (some 0) with
  accessFlags := 32
  interfaces := #[]
  cf := some (fileOf pool13 47 #[.nestMembers #[120, 169, 171, 173, 175, 111, 177, 179, 181, 183, 12, 10, 185, 187, 189, 191, 193, 195]] #[{ accessFlags := 2, nameIndex := 5, descriptorIndex := 6, attributes := #[] }] 32 2 #[] #[{ accessFlags := 26, nameIndex := 95, descriptorIndex := 96, attributes := #[] }, { accessFlags := 26, nameIndex := 99, descriptorIndex := 17, attributes := #[] }, { accessFlags := 10, nameIndex := 106, descriptorIndex := 56, attributes := #[] }, { accessFlags := 26, nameIndex := 109, descriptorIndex := 110, attributes := #[] }, { accessFlags := 24, nameIndex := 62, descriptorIndex := 63, attributes := #[] }, { accessFlags := 24, nameIndex := 72, descriptorIndex := 63, attributes := #[] }, { accessFlags := 24, nameIndex := 118, descriptorIndex := 119, attributes := #[] }, { accessFlags := 24, nameIndex := 125, descriptorIndex := 126, attributes := #[] }, { accessFlags := 24, nameIndex := 131, descriptorIndex := 132, attributes := #[] }, { accessFlags := 4120, nameIndex := 50, descriptorIndex := 17, attributes := #[] }])
  fields := #[{ name := "SALT32L", type := .long, accessFlags := 26, slot := 0, constantValue := 0 }, { name := "REVERSE", type := .boolean, accessFlags := 26, slot := 1, constantValue := 0 }, { name := "archivedObjects", type := (.array (.object "java/lang/Object")), accessFlags := 10, slot := 2, constantValue := 0 }, { name := "EMPTY", type := (.object "java/lang/Object"), accessFlags := 26, slot := 3, constantValue := 0 }, { name := "EMPTY_LIST", type := (.object "java/util/ImmutableCollections$ListN"), accessFlags := 24, slot := 4, constantValue := 0 }, { name := "EMPTY_LIST_NULLS", type := (.object "java/util/ImmutableCollections$ListN"), accessFlags := 24, slot := 5, constantValue := 0 }, { name := "EMPTY_SET", type := (.object "java/util/ImmutableCollections$SetN"), accessFlags := 24, slot := 6, constantValue := 0 }, { name := "EMPTY_MAP", type := (.object "java/util/ImmutableCollections$MapN"), accessFlags := 24, slot := 7, constantValue := 0 }, { name := "EXPAND_FACTOR", type := .int, accessFlags := 24, slot := 8, constantValue := 0 }, { name := "$assertionsDisabled", type := .boolean, accessFlags := 4120, slot := 9, constantValue := 0 }]
  methods := #[k13m0]
  instanceTypes := #[]
  staticTypes := #[.long, .boolean, (.array (.object "java/lang/Object")), (.object "java/lang/Object"), (.object "java/util/ImmutableCollections$ListN"), (.object "java/util/ImmutableCollections$ListN"), (.object "java/util/ImmutableCollections$SetN"), (.object "java/util/ImmutableCollections$MapN"), .int, .boolean]
  resolved := Array.replicate 213 none
  statics := some 1 }

def pool14 : Array CpInfo := pool [(2, .class_ 4), (1, u "java/lang/Object"), (0, u "<init>"), (0, u "()V"), (35, .class_ 44), (1, u "java/util/Objects"), (0, u "requireNonNull"), (48, u "(Ljava/lang/Object;Ljava/lang/String;)Ljava/lang/Object;")] 89

def k14m0 : Method := { name := "<init>", desc := "()V", sig := { parameters := [], returnType := none }, accessFlags := 2, code := none }
def k14c1 : Code := { maxStack := 3, maxLocals := 2, code := jdk_31_method_11_code, exceptionTable := #[], attributes := #[] }
def k14m1 : Method := { name := "requireNonNull", desc := "(Ljava/lang/Object;Ljava/lang/String;)Ljava/lang/Object;", sig := { parameters := [(.object "java/lang/Object"), (.object "java/lang/String")], returnType := some (.object "java/lang/Object") }, accessFlags := 9, code := some k14c1 }
/-- java/util/Objects -/
def k14 : Class := { plain "java/util/Objects" (some 0) with
  accessFlags := 49
  interfaces := #[]
  cf := some (fileOf pool14 42 #[] #[{ accessFlags := 2, nameIndex := 5, descriptorIndex := 6, attributes := #[] }, { accessFlags := 9, nameIndex := 45, descriptorIndex := 94, attributes := #[] }] 49 2 #[] #[])
  fields := #[]
  methods := #[k14m0, k14m1]
  instanceTypes := #[]
  staticTypes := #[]
  resolved := Array.replicate 184 none
  statics := none }

def pool15 : Array CpInfo := pool [(2, .class_ 4), (1, u "java/lang/Object"), (0, u "<init>"), (0, u "()V"), (1, .class_ 10), (1, u "java/util/AbstractCollection"), (66, .class_ 78), (0, u "java/util/Collection")] 81

def k15m0 : Method := { name := "<init>", desc := "()V", sig := { parameters := [], returnType := none }, accessFlags := 4, code := none }
/-- java/util/AbstractCollection -/
def k15 : Class := { plain "java/util/AbstractCollection" (some 0) with
  accessFlags := 1057
  interfaces := #[11]
  cf := some (fileOf pool15 8 #[] #[{ accessFlags := 4, nameIndex := 5, descriptorIndex := 6, attributes := #[] }] 1057 2 #[77] #[])
  fields := #[]
  methods := #[k15m0]
  instanceTypes := #[]
  staticTypes := #[]
  resolved := Array.replicate 160 none
  statics := none }

def pool16 : Array CpInfo := pool [(2, .class_ 4), (1, u "java/util/AbstractCollection"), (0, u "<init>"), (0, u "()V"), (1, .class_ 10), (1, u "java/util/ImmutableCollections"), (2, .class_ 14), (0, u "java/util/ImmutableCollections$AbstractImmutableCollection")] 41

def k16m0 : Method := { name := "<init>", desc := "()V", sig := { parameters := [], returnType := none }, accessFlags := 0, code := none }
/-- java/util/ImmutableCollections$AbstractImmutableCollection -/
def k16 : Class := { plain "java/util/ImmutableCollections$AbstractImmutableCollection" (some 15) with
  accessFlags := 1056
  interfaces := #[]
  cf := some (fileOf pool16 13 #[.nestHost 8] #[{ accessFlags := 0, nameIndex := 5, descriptorIndex := 6, attributes := #[] }] 1056 2 #[] #[])
  fields := #[]
  methods := #[k16m0]
  instanceTypes := #[]
  staticTypes := #[]
  resolved := Array.replicate 56 none
  statics := none }

def pool17 : Array CpInfo := pool [(2, .class_ 4), (1, u "java/util/ImmutableCollections$AbstractImmutableCollection"), (0, u "<init>"), (0, u "()V"), (0, .class_ 8), (0, u "java/util/Set"), (7, .class_ 17), (0, u "java/util/ImmutableCollections$AbstractImmutableSet"), (43, .class_ 62), (0, u "java/util/ImmutableCollections")] 3

def k17m0 : Method := { name := "<init>", desc := "()V", sig := { parameters := [], returnType := none }, accessFlags := 0, code := none }
/-- java/util/ImmutableCollections$AbstractImmutableSet -/
def k17 : Class := { plain "java/util/ImmutableCollections$AbstractImmutableSet" (some 16) with
  accessFlags := 1056
  interfaces := #[12]
  cf := some (fileOf pool17 16 #[.nestHost 61] #[{ accessFlags := 0, nameIndex := 5, descriptorIndex := 6, attributes := #[] }] 1056 2 #[7] #[])
  fields := #[]
  methods := #[k17m0]
  instanceTypes := #[]
  staticTypes := #[]
  resolved := Array.replicate 66 none
  statics := none }

def pool18 : Array CpInfo := pool [(1, .class_ 2), (0, u "java/util/ImmutableCollections"), (1, .class_ 6), (1, u "java/util/ImmutableCollections$AbstractImmutableSet"), (3, .class_ 12), (1, u "java/util/ImmutableCollections$SetN"), (0, u "size"), (0, u "I"), (4, u "elements"), (0, u "[Ljava/lang/Object;"), (86, .class_ 108), (0, u "java/io/Serializable")] 59

/-- java/util/ImmutableCollections$SetN -/
def k18 : Class := { plain "java/util/ImmutableCollections$SetN" (some 17) with
  accessFlags := 48
  interfaces := #[2]
  cf := some (fileOf pool18 10 #[.nestHost 1] #[] 48 4 #[107] #[{ accessFlags := 16, nameIndex := 19, descriptorIndex := 20, attributes := #[] }, { accessFlags := 16, nameIndex := 13, descriptorIndex := 14, attributes := #[] }])
  fields := #[{ name := "elements", type := (.array (.object "java/lang/Object")), accessFlags := 16, slot := 0, constantValue := 0 }, { name := "size", type := .int, accessFlags := 16, slot := 1, constantValue := 0 }]
  methods := #[]
  instanceTypes := #[(.array (.object "java/lang/Object")), .int]
  staticTypes := #[]
  resolved := Array.replicate 168 none
  statics := none }

def pool19 : Array CpInfo := pool [(1, .class_ 2), (0, u "java/lang/Appendable"), (0, .class_ 4), (0, u "java/lang/Object")] 9

/-- java/lang/Appendable -/
def k19 : Class := { plain "java/lang/Appendable" (some 0) with
  accessFlags := 1537
  interfaces := #[]
  cf := some (fileOf pool19 1 #[] #[] 1537 3 #[] #[])
  fields := #[]
  methods := #[]
  instanceTypes := #[]
  staticTypes := #[]
  resolved := Array.replicate 14 none
  statics := none }

def pool20 : Array CpInfo := pool [(1, .class_ 2), (0, u "java/lang/String"), (0, .methodref 4 5), (0, .class_ 6), (0, .nameAndType 7 8), (0, u "java/lang/Object"), (0, u "<init>"), (0, u "()V"), (1, .class_ 12), (1, u "java/lang/AbstractStringBuilder"), (0, u "EMPTYVALUE"), (0, u "[B"), (0, .fieldref 10 16), (0, .nameAndType 17 14), (0, u "value"), (0, .fieldref 1 19), (0, .nameAndType 20 21), (0, u "COMPACT_STRINGS"), (0, u "Z"), (0, .fieldref 10 23), (0, .nameAndType 24 25), (0, u "coder"), (0, u "B"), (6, .methodref 1 33), (0, .nameAndType 34 35), (0, u "length"), (0, u "()I"), (3, .integer 2147483647), (0, .methodref 1 41), (0, .nameAndType 24 42), (0, u "()B"), (2, u "append"), (0, u "(Ljava/lang/String;)Ljava/lang/AbstractStringBuilder;"), (1, .class_ 49), (0, u "java/lang/CharSequence"), (19, u "(Ljava/lang/String;)V"), (5, u "maybeLatin1"), (3, .fieldref 10 80), (0, .nameAndType 81 82), (0, u "count"), (0, u "I"), (2, u "isLatin1"), (0, u "()Z"), (13, .methodref 10 101), (0, .nameAndType 102 103), (0, u "ensureCapacityInternal"), (0, u "(I)V"), (0, .methodref 10 105), (0, .nameAndType 106 107), (0, u "newCapacity"), (0, u "(I)I"), (0, .methodref 109 110), (0, .class_ 111), (0, .nameAndType 112 113), (0, u "java/util/Arrays"), (0, u "copyOf"), (0, u "([BI)[B"), (0, .methodref 115 116), (0, .class_ 117), (0, .nameAndType 118 119), (0, u "jdk/internal/util/ArraysSupport"), (0, u "newLength"), (0, u "(III)I"), (88, .methodref 10 209), (0, .nameAndType 210 211), (0, u "putStringAt"), (0, u "(ILjava/lang/String;)V"), (5, u "inflateIfNeededFor"), (2, .nameAndType 221 222), (0, u "getBytes"), (0, u "([BIB)V"), (174, .methodref 10 398), (0, .nameAndType 217 69), (0, .methodref 1 220), (3, u "()[B"), (40, .class_ 445), (0, u "java/lang/Appendable"), (106, u "getValue")] 56

def k20m0 : Method := { name := "<init>", desc := "()V", sig := { parameters := [], returnType := none }, accessFlags := 0, code := none }
def k20c1 : Code := { maxStack := 2, maxLocals := 2, code := jdk_68_method_2_code, exceptionTable := #[], attributes := #[] }
def k20m1 : Method := { name := "<init>", desc := "(I)V", sig := { parameters := [.int], returnType := none }, accessFlags := 0, code := some k20c1 }
def k20c2 : Code := { maxStack := 1, maxLocals := 1, code := jdk_68_method_6_code, exceptionTable := #[], attributes := #[] }
def k20m2 : Method := { name := "length", desc := "()I", sig := { parameters := [], returnType := some .int }, accessFlags := 1, code := some k20c2 }
def k20c3 : Code := { maxStack := 4, maxLocals := 3, code := jdk_68_method_9_code, exceptionTable := #[], attributes := #[] }
def k20m3 : Method := { name := "ensureCapacityInternal", desc := "(I)V", sig := { parameters := [.int], returnType := none }, accessFlags := 2, code := some k20c3 }
def k20c4 : Code := { maxStack := 5, maxLocals := 6, code := jdk_68_method_10_code, exceptionTable := #[], attributes := #[] }
def k20m4 : Method := { name := "newCapacity", desc := "(I)I", sig := { parameters := [.int], returnType := some .int }, accessFlags := 2, code := some k20c4 }
def k20c5 : Code := { maxStack := 3, maxLocals := 3, code := jdk_68_method_22_code, exceptionTable := #[], attributes := #[] }
def k20m5 : Method := { name := "append", desc := "(Ljava/lang/String;)Ljava/lang/AbstractStringBuilder;", sig := { parameters := [(.object "java/lang/String")], returnType := some (.object "java/lang/AbstractStringBuilder") }, accessFlags := 1, code := some k20c5 }
def k20c6 : Code := { maxStack := 1, maxLocals := 1, code := jdk_68_method_64_code, exceptionTable := #[], attributes := #[] }
def k20m6 : Method := { name := "getValue", desc := "()[B", sig := { parameters := [], returnType := some (.array .byte) }, accessFlags := 16, code := some k20c6 }
def k20c7 : Code := { maxStack := 1, maxLocals := 1, code := jdk_68_method_68_code, exceptionTable := #[], attributes := #[] }
def k20m7 : Method := { name := "isLatin1", desc := "()Z", sig := { parameters := [], returnType := some .boolean }, accessFlags := 16, code := some k20c7 }
def k20c8 : Code := { maxStack := 2, maxLocals := 2, code := jdk_68_method_71_code, exceptionTable := #[], attributes := #[] }
def k20m8 : Method := { name := "inflateIfNeededFor", desc := "(Ljava/lang/String;)V", sig := { parameters := [(.object "java/lang/String")], returnType := none }, accessFlags := 2, code := some k20c8 }
def k20c9 : Code := { maxStack := 4, maxLocals := 3, code := jdk_68_method_73_code, exceptionTable := #[], attributes := #[] }
def k20m9 : Method := { name := "putStringAt", desc := "(ILjava/lang/String;)V", sig := { parameters := [.int, (.object "java/lang/String")], returnType := none }, accessFlags := 2, code := some k20c9 }
/-- java/lang/AbstractStringBuilder -/
def k20 : Class := { plain "java/lang/AbstractStringBuilder" (some 0) with
  accessFlags := 1056
  interfaces := #[19, 4]
  cf := some (fileOf pool20 10 #[] #[{ accessFlags := 0, nameIndex := 7, descriptorIndex := 8, attributes := #[] }, { accessFlags := 0, nameIndex := 7, descriptorIndex := 103, attributes := #[] }, { accessFlags := 1, nameIndex := 34, descriptorIndex := 35, attributes := #[] }, { accessFlags := 2, nameIndex := 102, descriptorIndex := 103, attributes := #[] }, { accessFlags := 2, nameIndex := 106, descriptorIndex := 107, attributes := #[] }, { accessFlags := 1, nameIndex := 45, descriptorIndex := 46, attributes := #[] }, { accessFlags := 16, nameIndex := 552, descriptorIndex := 403, attributes := #[] }, { accessFlags := 16, nameIndex := 85, descriptorIndex := 86, attributes := #[] }, { accessFlags := 2, nameIndex := 217, descriptorIndex := 69, attributes := #[] }, { accessFlags := 2, nameIndex := 210, descriptorIndex := 211, attributes := #[] }] 1056 4 #[444, 48] #[{ accessFlags := 0, nameIndex := 17, descriptorIndex := 14, attributes := #[] }, { accessFlags := 0, nameIndex := 24, descriptorIndex := 25, attributes := #[] }, { accessFlags := 0, nameIndex := 75, descriptorIndex := 21, attributes := #[] }, { accessFlags := 0, nameIndex := 81, descriptorIndex := 82, attributes := #[] }, { accessFlags := 26, nameIndex := 13, descriptorIndex := 14, attributes := #[] }])
  fields := #[{ name := "value", type := (.array .byte), accessFlags := 0, slot := 0, constantValue := 0 }, { name := "coder", type := .byte, accessFlags := 0, slot := 1, constantValue := 0 }, { name := "maybeLatin1", type := .boolean, accessFlags := 0, slot := 2, constantValue := 0 }, { name := "count", type := .int, accessFlags := 0, slot := 3, constantValue := 0 }, { name := "EMPTYVALUE", type := (.array .byte), accessFlags := 26, slot := 0, constantValue := 0 }]
  methods := #[k20m0, k20m1, k20m2, k20m3, k20m4, k20m5, k20m6, k20m7, k20m8, k20m9]
  instanceTypes := #[(.array .byte), .byte, .boolean, .int]
  staticTypes := #[(.array .byte)]
  resolved := Array.replicate 609 none
  statics := none }

def pool21 : Array CpInfo := pool [(1, .methodref 2 3), (0, .class_ 4), (0, .nameAndType 5 6), (0, u "java/lang/AbstractStringBuilder"), (0, u "<init>"), (0, u "(I)V"), (11, .class_ 20), (1, u "java/lang/String"), (3, .class_ 26), (1, u "java/lang/StringBuilder"), (0, u "append"), (0, u "(Ljava/lang/String;)Ljava/lang/StringBuilder;"), (0, .methodref 2 30), (0, .nameAndType 27 31), (0, u "(Ljava/lang/String;)Ljava/lang/AbstractStringBuilder;"), (105, .methodref 18 138), (0, .nameAndType 5 139), (0, u "(Ljava/lang/StringBuilder;)V"), (5, u "()V"), (10, u "()I"), (186, .methodref 2 344), (0, .nameAndType 345 156), (0, u "length"), (3, .class_ 350), (0, u "java/lang/Appendable"), (0, .class_ 352), (0, u "java/io/Serializable"), (0, .class_ 354), (0, u "java/lang/Comparable"), (0, .class_ 356), (0, u "java/lang/CharSequence"), (0, u "serialVersionUID"), (0, u "J"), (40, u "toString"), (0, u "()Ljava/lang/String;")] 21

def k21c0 : Code := { maxStack := 2, maxLocals := 1, code := jdk_67_method_1_code, exceptionTable := #[], attributes := #[] }
def k21m0 : Method := { name := "<init>", desc := "()V", sig := { parameters := [], returnType := none }, accessFlags := 1, code := some k21c0 }
def k21c1 : Code := { maxStack := 2, maxLocals := 2, code := jdk_67_method_7_code, exceptionTable := #[], attributes := #[] }
def k21m1 : Method := { name := "append", desc := "(Ljava/lang/String;)Ljava/lang/StringBuilder;", sig := { parameters := [(.object "java/lang/String")], returnType := some (.object "java/lang/StringBuilder") }, accessFlags := 1, code := some k21c1 }
def k21c2 : Code := { maxStack := 3, maxLocals := 1, code := jdk_67_method_42_code, exceptionTable := #[], attributes := #[] }
def k21m2 : Method := { name := "toString", desc := "()Ljava/lang/String;", sig := { parameters := [], returnType := some (.object "java/lang/String") }, accessFlags := 1, code := some k21c2 }
def k21c3 : Code := { maxStack := 1, maxLocals := 1, code := jdk_67_method_93_code, exceptionTable := #[], attributes := #[] }
def k21m3 : Method := { name := "length", desc := "()I", sig := { parameters := [], returnType := some .int }, accessFlags := 4161, code := some k21c3 }
/-- java/lang/StringBuilder -/
def k21 : Class := { plain "java/lang/StringBuilder" (some 20) with
  accessFlags := 49
  interfaces := #[19, 2, 3, 4]
  cf := some (fileOf pool21 24 #[] #[{ accessFlags := 1, nameIndex := 5, descriptorIndex := 145, attributes := #[] }, { accessFlags := 1, nameIndex := 27, descriptorIndex := 28, attributes := #[] }, { accessFlags := 1, nameIndex := 399, descriptorIndex := 400, attributes := #[] }, { accessFlags := 4161, nameIndex := 345, descriptorIndex := 156, attributes := #[] }] 49 2 #[349, 351, 353, 355] #[{ accessFlags := 24, nameIndex := 357, descriptorIndex := 358, attributes := #[] }])
  fields := #[{ name := "serialVersionUID", type := .long, accessFlags := 24, slot := 0, constantValue := 0 }]
  methods := #[k21m0, k21m1, k21m2, k21m3]
  instanceTypes := #[(.array .byte), .byte, .boolean, .int]
  staticTypes := #[.long]
  resolved := Array.replicate 422 none
  statics := none }

def pool22 : Array CpInfo := pool [(2, .class_ 4), (1, u "java/lang/Object"), (0, u "<init>"), (0, u "()V"), (1, .class_ 10), (1, u "java/lang/System"), (0, u "allowSecurityManager"), (0, u "I"), (16, u "cons"), (0, u "Ljava/io/Console;"), (77, .class_ 110), (1, u "java/lang/System$CallersHolder"), (43, u "initialErrStream"), (0, u "Ljava/io/PrintStream;"), (19, u "security"), (0, u "Ljava/lang/SecurityManager;"), (31, .class_ 209), (0, u "java/lang/System$1"), (7, u "props"), (0, u "Ljava/util/Properties;"), (2, u "lineSeparator"), (0, u "Ljava/lang/String;"), (96, .class_ 321), (1, u "java/lang/System$LoggerFinder"), (5, .class_ 328), (0, u "java/lang/System$Logger"), (67, u "err"), (2, u "out"), (91, u "notSupportedJnuEncoding"), (15, u "in"), (17, u "initialIn"), (0, u "Ljava/io/InputStream;"), (35, u "bootLayer"), (0, u "Ljava/lang/ModuleLayer;"), (99, .class_ 664), (0, u "java/lang/System$2"), (9, u "NEVER"), (2, u "MAYBE"), (49, u "arraycopy"), (0, u "(Ljava/lang/Object;ILjava/lang/Object;II)V"), (72, .class_ 802), (0, u "java/lang/System$Logger$Level")] 31

def k22m0 : Method := { name := "<init>", desc := "()V", sig := { parameters := [], returnType := none }, accessFlags := 2, code := none }
def k22m1 : Method := { name := "arraycopy", desc := "(Ljava/lang/Object;ILjava/lang/Object;II)V", sig := { parameters := [(.object "java/lang/Object"), .int, (.object "java/lang/Object"), .int, .int], returnType := none }, accessFlags := 265, code := none }
/-- java/lang/System -/
def k22 : Class := { plain "java/lang/System" (some 0) with
  accessFlags := 49
  interfaces := #[]
  cf := some (fileOf pool22 8 #[.nestMembers #[319, 327, 801, 108, 663, 208]] #[{ accessFlags := 2, nameIndex := 5, descriptorIndex := 6, attributes := #[] }, { accessFlags := 265, nameIndex := 727, descriptorIndex := 728, attributes := #[] }] 49 2 #[] #[{ accessFlags := 25, nameIndex := 507, descriptorIndex := 526, attributes := #[] }, { accessFlags := 25, nameIndex := 399, descriptorIndex := 155, attributes := #[] }, { accessFlags := 25, nameIndex := 396, descriptorIndex := 155, attributes := #[] }, { accessFlags := 10, nameIndex := 525, descriptorIndex := 526, attributes := #[] }, { accessFlags := 26, nameIndex := 674, descriptorIndex := 12, attributes := #[] }, { accessFlags := 26, nameIndex := 677, descriptorIndex := 12, attributes := #[] }, { accessFlags := 10, nameIndex := 11, descriptorIndex := 12, attributes := #[] }, { accessFlags := 74, nameIndex := 175, descriptorIndex := 176, attributes := #[] }, { accessFlags := 10, nameIndex := 491, descriptorIndex := 222, attributes := #[] }, { accessFlags := 74, nameIndex := 29, descriptorIndex := 30, attributes := #[] }, { accessFlags := 74, nameIndex := 154, descriptorIndex := 155, attributes := #[] }, { accessFlags := 10, nameIndex := 217, descriptorIndex := 218, attributes := #[] }, { accessFlags := 10, nameIndex := 221, descriptorIndex := 222, attributes := #[] }, { accessFlags := 8, nameIndex := 562, descriptorIndex := 563, attributes := #[] }])
  fields := #[{ name := "in", type := (.object "java/io/InputStream"), accessFlags := 25, slot := 0, constantValue := 0 }, { name := "out", type := (.object "java/io/PrintStream"), accessFlags := 25, slot := 1, constantValue := 0 }, { name := "err", type := (.object "java/io/PrintStream"), accessFlags := 25, slot := 2, constantValue := 0 }, { name := "initialIn", type := (.object "java/io/InputStream"), accessFlags := 10, slot := 3, constantValue := 0 }, { name := "NEVER", type := .int, accessFlags := 26, slot := 4, constantValue := 0 }, { name := "MAYBE", type := .int, accessFlags := 26, slot := 5, constantValue := 0 }, { name := "allowSecurityManager", type := .int, accessFlags := 10, slot := 6, constantValue := 0 }, { name := "security", type := (.object "java/lang/SecurityManager"), accessFlags := 74, slot := 7, constantValue := 0 }, { name := "notSupportedJnuEncoding", type := (.object "java/lang/String"), accessFlags := 10, slot := 8, constantValue := 0 }, { name := "cons", type := (.object "java/io/Console"), accessFlags := 74, slot := 9, constantValue := 0 }, { name := "initialErrStream", type := (.object "java/io/PrintStream"), accessFlags := 74, slot := 10, constantValue := 0 }, { name := "props", type := (.object "java/util/Properties"), accessFlags := 10, slot := 11, constantValue := 0 }, { name := "lineSeparator", type := (.object "java/lang/String"), accessFlags := 10, slot := 12, constantValue := 0 }, { name := "bootLayer", type := (.object "java/lang/ModuleLayer"), accessFlags := 8, slot := 13, constantValue := 0 }]
  methods := #[k22m0, k22m1]
  instanceTypes := #[]
  staticTypes := #[(.object "java/io/InputStream"), (.object "java/io/PrintStream"), (.object "java/io/PrintStream"), (.object "java/io/InputStream"), .int, .int, .int, (.object "java/lang/SecurityManager"), (.object "java/lang/String"), (.object "java/io/Console"), (.object "java/io/PrintStream"), (.object "java/util/Properties"), (.object "java/lang/String"), (.object "java/lang/ModuleLayer")]
  resolved := Array.replicate 834 none
  statics := none }

def pool23 : Array CpInfo := pool [(9, u "<init>"), (6, .class_ 18), (1, u "java/lang/Object"), (0, u "()V"), (1, .class_ 23), (1, u "jdk/internal/util/ArraysSupport"), (0, u "LOG2_ARRAY_LONG_INDEX_SCALE"), (0, u "I"), (2, u "U"), (0, u "Ljdk/internal/misc/Unsafe;"), (8, u "BIG_ENDIAN"), (0, u "Z"), (8, u "LOG2_BYTE_BIT_SIZE"), (4, u "LOG2_ARRAY_INT_INDEX_SCALE"), (54, u "JLA"), (0, u "Ljdk/internal/access/JavaLangAccess;"), (11, u "LOG2_ARRAY_BOOLEAN_INDEX_SCALE"), (9, u "LOG2_ARRAY_BYTE_INDEX_SCALE"), (5, u "LOG2_ARRAY_CHAR_INDEX_SCALE"), (5, u "LOG2_ARRAY_SHORT_INDEX_SCALE"), (18, u "LOG2_ARRAY_FLOAT_INDEX_SCALE"), (24, u "LOG2_ARRAY_DOUBLE_INDEX_SCALE"), (6, .methodref 195 196), (0, .class_ 197), (0, .nameAndType 198 199), (0, u "java/lang/Math"), (0, u "max"), (0, u "(II)I"), (0, .integer 2147483639), (76, u "T_BOOLEAN"), (2, u "T_CHAR"), (1, u "T_FLOAT"), (1, u "T_DOUBLE"), (1, u "T_BYTE"), (1, u "T_SHORT"), (1, u "T_INT"), (1, u "T_LONG"), (1, u "SOFT_MAX_ARRAY_LENGTH"), (56, u "newLength"), (0, u "(III)I")] 25

def k23m0 : Method := { name := "<init>", desc := "()V", sig := { parameters := [], returnType := none }, accessFlags := 2, code := none }
def k23c1 : Code := { maxStack := 3, maxLocals := 4, code := jdk_48_method_27_code, exceptionTable := #[], attributes := #[] }
def k23m1 : Method := { name := "newLength", desc := "(III)I", sig := { parameters := [.int, .int, .int], returnType := some .int }, accessFlags := 9, code := some k23c1 }
/-- jdk/internal/util/ArraysSupport -/
def k23 : Class := { plain "jdk/internal/util/ArraysSupport" (some 0) with
  accessFlags := 33
  interfaces := #[]
  cf := some (fileOf pool23 21 #[] #[{ accessFlags := 2, nameIndex := 9, descriptorIndex := 19, attributes := #[] }, { accessFlags := 9, nameIndex := 351, descriptorIndex := 352, attributes := #[] }] 33 16 #[] #[{ accessFlags := 24, nameIndex := 28, descriptorIndex := 29, attributes := #[] }, { accessFlags := 26, nameIndex := 38, descriptorIndex := 39, attributes := #[] }, { accessFlags := 25, nameIndex := 121, descriptorIndex := 25, attributes := #[] }, { accessFlags := 25, nameIndex := 131, descriptorIndex := 25, attributes := #[] }, { accessFlags := 25, nameIndex := 137, descriptorIndex := 25, attributes := #[] }, { accessFlags := 25, nameIndex := 143, descriptorIndex := 25, attributes := #[] }, { accessFlags := 25, nameIndex := 53, descriptorIndex := 25, attributes := #[] }, { accessFlags := 25, nameIndex := 24, descriptorIndex := 25, attributes := #[] }, { accessFlags := 25, nameIndex := 162, descriptorIndex := 25, attributes := #[] }, { accessFlags := 25, nameIndex := 187, descriptorIndex := 25, attributes := #[] }, { accessFlags := 26, nameIndex := 48, descriptorIndex := 25, attributes := #[] }, { accessFlags := 25, nameIndex := 277, descriptorIndex := 25, attributes := #[] }, { accessFlags := 25, nameIndex := 280, descriptorIndex := 25, attributes := #[] }, { accessFlags := 25, nameIndex := 282, descriptorIndex := 25, attributes := #[] }, { accessFlags := 25, nameIndex := 284, descriptorIndex := 25, attributes := #[] }, { accessFlags := 25, nameIndex := 286, descriptorIndex := 25, attributes := #[] }, { accessFlags := 25, nameIndex := 288, descriptorIndex := 25, attributes := #[] }, { accessFlags := 25, nameIndex := 290, descriptorIndex := 25, attributes := #[] }, { accessFlags := 25, nameIndex := 292, descriptorIndex := 25, attributes := #[] }, { accessFlags := 26, nameIndex := 108, descriptorIndex := 109, attributes := #[] }, { accessFlags := 25, nameIndex := 294, descriptorIndex := 25, attributes := #[] }])
  fields := #[{ name := "U", type := (.object "jdk/internal/misc/Unsafe"), accessFlags := 24, slot := 0, constantValue := 0 }, { name := "BIG_ENDIAN", type := .boolean, accessFlags := 26, slot := 1, constantValue := 0 }, { name := "LOG2_ARRAY_BOOLEAN_INDEX_SCALE", type := .int, accessFlags := 25, slot := 2, constantValue := 0 }, { name := "LOG2_ARRAY_BYTE_INDEX_SCALE", type := .int, accessFlags := 25, slot := 3, constantValue := 0 }, { name := "LOG2_ARRAY_CHAR_INDEX_SCALE", type := .int, accessFlags := 25, slot := 4, constantValue := 0 }, { name := "LOG2_ARRAY_SHORT_INDEX_SCALE", type := .int, accessFlags := 25, slot := 5, constantValue := 0 }, { name := "LOG2_ARRAY_INT_INDEX_SCALE", type := .int, accessFlags := 25, slot := 6, constantValue := 0 }, { name := "LOG2_ARRAY_LONG_INDEX_SCALE", type := .int, accessFlags := 25, slot := 7, constantValue := 0 }, { name := "LOG2_ARRAY_FLOAT_INDEX_SCALE", type := .int, accessFlags := 25, slot := 8, constantValue := 0 }, { name := "LOG2_ARRAY_DOUBLE_INDEX_SCALE", type := .int, accessFlags := 25, slot := 9, constantValue := 0 }, { name := "LOG2_BYTE_BIT_SIZE", type := .int, accessFlags := 26, slot := 10, constantValue := 0 }, { name := "T_BOOLEAN", type := .int, accessFlags := 25, slot := 11, constantValue := 0 }, { name := "T_CHAR", type := .int, accessFlags := 25, slot := 12, constantValue := 0 }, { name := "T_FLOAT", type := .int, accessFlags := 25, slot := 13, constantValue := 0 }, { name := "T_DOUBLE", type := .int, accessFlags := 25, slot := 14, constantValue := 0 }, { name := "T_BYTE", type := .int, accessFlags := 25, slot := 15, constantValue := 0 }, { name := "T_SHORT", type := .int, accessFlags := 25, slot := 16, constantValue := 0 }, { name := "T_INT", type := .int, accessFlags := 25, slot := 17, constantValue := 0 }, { name := "T_LONG", type := .int, accessFlags := 25, slot := 18, constantValue := 0 }, { name := "JLA", type := (.object "jdk/internal/access/JavaLangAccess"), accessFlags := 26, slot := 19, constantValue := 0 }, { name := "SOFT_MAX_ARRAY_LENGTH", type := .int, accessFlags := 25, slot := 20, constantValue := 0 }]
  methods := #[k23m0, k23m1]
  instanceTypes := #[]
  staticTypes := #[(.object "jdk/internal/misc/Unsafe"), .boolean, .int, .int, .int, .int, .int, .int, .int, .int, .int, .int, .int, .int, .int, .int, .int, .int, .int, (.object "jdk/internal/access/JavaLangAccess"), .int]
  resolved := Array.replicate 378 none
  statics := none }

def pool24 : Array CpInfo := pool [(1, .class_ 2), (0, u "java/lang/Math"), (1, .class_ 6), (1, u "java/lang/Object"), (0, u "<init>"), (0, u "()V"), (89, .class_ 100), (1, u "java/lang/Math$RandomNumberGeneratorHolder"), (71, u "negativeZeroFloatBits"), (0, u "J"), (2, u "negativeZeroDoubleBits"), (21, u "max"), (2, u "min"), (43, u "$assertionsDisabled"), (0, u "Z"), (88, u "(II)I"), (2, u "twoToTheDoubleScaleDown"), (0, u "D"), (4, u "twoToTheDoubleScaleUp"), (9, u "E"), (3, u "PI"), (2, u "TAU"), (2, u "DEGREES_TO_RADIANS"), (0, u "RADIANS_TO_DEGREES")] 94

def k24m0 : Method := { name := "<init>", desc := "()V", sig := { parameters := [], returnType := none }, accessFlags := 2, code := none }
def k24c1 : Code := { maxStack := 2, maxLocals := 2, code := jdk_29_method_65_code, exceptionTable := #[], attributes := #[] }
def k24m1 : Method := { name := "max", desc := "(II)I", sig := { parameters := [.int, .int], returnType := some .int }, accessFlags := 9, code := some k24c1 }
def k24c2 : Code := { maxStack := 2, maxLocals := 2, code := jdk_29_method_69_code, exceptionTable := #[], attributes := #[] }
def k24m2 : Method := { name := "min", desc := "(II)I", sig := { parameters := [.int, .int], returnType := some .int }, accessFlags := 9, code := some k24c2 }
/-- java/lang/Math -/
def k24 : Class := { plain "java/lang/Math" (some 0) with
  accessFlags := 49
  interfaces := #[]
  cf := some (fileOf pool24 1 #[.nestMembers #[98]] #[{ accessFlags := 2, nameIndex := 7, descriptorIndex := 8, attributes := #[] }, { accessFlags := 9, nameIndex := 198, descriptorIndex := 335, attributes := #[] }, { accessFlags := 9, nameIndex := 201, descriptorIndex := 335, attributes := #[] }] 49 4 #[] #[{ accessFlags := 25, nameIndex := 354, descriptorIndex := 339, attributes := #[] }, { accessFlags := 25, nameIndex := 358, descriptorIndex := 339, attributes := #[] }, { accessFlags := 25, nameIndex := 361, descriptorIndex := 339, attributes := #[] }, { accessFlags := 26, nameIndex := 364, descriptorIndex := 339, attributes := #[] }, { accessFlags := 26, nameIndex := 365, descriptorIndex := 339, attributes := #[] }, { accessFlags := 26, nameIndex := 172, descriptorIndex := 173, attributes := #[] }, { accessFlags := 26, nameIndex := 176, descriptorIndex := 173, attributes := #[] }, { accessFlags := 8, nameIndex := 344, descriptorIndex := 339, attributes := #[] }, { accessFlags := 8, nameIndex := 338, descriptorIndex := 339, attributes := #[] }, { accessFlags := 4120, nameIndex := 245, descriptorIndex := 246, attributes := #[] }])
  fields := #[{ name := "E", type := .double, accessFlags := 25, slot := 0, constantValue := 0 }, { name := "PI", type := .double, accessFlags := 25, slot := 1, constantValue := 0 }, { name := "TAU", type := .double, accessFlags := 25, slot := 2, constantValue := 0 }, { name := "DEGREES_TO_RADIANS", type := .double, accessFlags := 26, slot := 3, constantValue := 0 }, { name := "RADIANS_TO_DEGREES", type := .double, accessFlags := 26, slot := 4, constantValue := 0 }, { name := "negativeZeroFloatBits", type := .long, accessFlags := 26, slot := 5, constantValue := 0 }, { name := "negativeZeroDoubleBits", type := .long, accessFlags := 26, slot := 6, constantValue := 0 }, { name := "twoToTheDoubleScaleUp", type := .double, accessFlags := 8, slot := 7, constantValue := 0 }, { name := "twoToTheDoubleScaleDown", type := .double, accessFlags := 8, slot := 8, constantValue := 0 }, { name := "$assertionsDisabled", type := .boolean, accessFlags := 4120, slot := 9, constantValue := 0 }]
  methods := #[k24m0, k24m1, k24m2]
  instanceTypes := #[]
  staticTypes := #[.double, .double, .double, .double, .double, .long, .long, .double, .double, .boolean]
  resolved := Array.replicate 460 none
  statics := none }

def pool25 : Array CpInfo := pool [(2, .class_ 4), (1, u "java/lang/Object"), (0, u "<init>"), (0, u "()V"), (7, .class_ 16), (1, u "java/util/Arrays"), (57, .class_ 76), (1, u "java/util/Arrays$NaturalOrder"), (36, .class_ 115), (1, u "java/util/Arrays$LegacyMergeSort"), (1, u "Z"), (21, u "copyOfRange"), (10, .methodref 151 152), (0, .class_ 153), (0, .nameAndType 154 155), (0, u "java/lang/System"), (0, u "arraycopy"), (0, u "(Ljava/lang/Object;ILjava/lang/Object;II)V"), (146, u "copyOf"), (1, .methodref 305 306), (0, .class_ 307), (0, .nameAndType 308 309), (0, u "java/lang/Math"), (0, u "min"), (0, u "(II)I"), (29, .methodref 14 340), (0, .nameAndType 341 342), (0, u "copyOfRangeByte"), (0, u "([BII)[B"), (0, .methodref 14 344), (0, .nameAndType 345 346), (0, u "checkLength"), (0, u "(II)V"), (28, .class_ 376), (0, u "java/util/Arrays$ArrayList"), (68, u "$assertionsDisabled"), (269, u "MIN_ARRAY_SORT_GRAN"), (0, u "I"), (2, u "INSERTIONSORT_THRESHOLD"), (149, u "([BI)[B"), (105, .class_ 976), (0, u "java/util/Arrays$ArrayItr")] 52

def k25m0 : Method := { name := "<init>", desc := "()V", sig := { parameters := [], returnType := none }, accessFlags := 2, code := none }
def k25c1 : Code := { maxStack := 6, maxLocals := 3, code := jdk_65_method_121_code, exceptionTable := #[], attributes := #[] }
def k25m1 : Method := { name := "copyOf", desc := "([BI)[B", sig := { parameters := [(.array .byte), .int], returnType := some (.array .byte) }, accessFlags := 9, code := some k25c1 }
def k25c2 : Code := { maxStack := 4, maxLocals := 2, code := jdk_65_method_131_code, exceptionTable := #[], attributes := #[] }
def k25m2 : Method := { name := "checkLength", desc := "(II)V", sig := { parameters := [.int, .int], returnType := none }, accessFlags := 10, code := some k25c2 }
def k25c3 : Code := { maxStack := 3, maxLocals := 3, code := jdk_65_method_132_code, exceptionTable := #[], attributes := #[] }
def k25m3 : Method := { name := "copyOfRange", desc := "([BII)[B", sig := { parameters := [(.array .byte), .int, .int], returnType := some (.array .byte) }, accessFlags := 9, code := some k25c3 }
def k25c4 : Code := { maxStack := 6, maxLocals := 5, code := jdk_65_method_133_code, exceptionTable := #[], attributes := #[] }
def k25m4 : Method := { name := "copyOfRangeByte", desc := "([BII)[B", sig := { parameters := [(.array .byte), .int, .int], returnType := some (.array .byte) }, accessFlags := 10, code := some k25c4 }
/-- java/util/Arrays -/
def k25 : Class := { plain "java/util/Arrays" (some 0) with
  accessFlags := 49
  interfaces := #[]
  cf := some (fileOf pool25 14 #[.nestMembers #[975, 375, 113, 74]] #[{ accessFlags := 2, nameIndex := 5, descriptorIndex := 6, attributes := #[] }, { accessFlags := 9, nameIndex := 302, descriptorIndex := 869, attributes := #[] }, { accessFlags := 10, nameIndex := 345, descriptorIndex := 346, attributes := #[] }, { accessFlags := 9, nameIndex := 139, descriptorIndex := 342, attributes := #[] }, { accessFlags := 10, nameIndex := 341, descriptorIndex := 342, attributes := #[] }] 49 2 #[] #[{ accessFlags := 26, nameIndex := 715, descriptorIndex := 716, attributes := #[] }, { accessFlags := 26, nameIndex := 719, descriptorIndex := 716, attributes := #[] }, { accessFlags := 4120, nameIndex := 445, descriptorIndex := 117, attributes := #[] }])
  fields := #[{ name := "MIN_ARRAY_SORT_GRAN", type := .int, accessFlags := 26, slot := 0, constantValue := 0 }, { name := "INSERTIONSORT_THRESHOLD", type := .int, accessFlags := 26, slot := 1, constantValue := 0 }, { name := "$assertionsDisabled", type := .boolean, accessFlags := 4120, slot := 2, constantValue := 0 }]
  methods := #[k25m0, k25m1, k25m2, k25m3, k25m4]
  instanceTypes := #[]
  staticTypes := #[.int, .int, .boolean]
  resolved := Array.replicate 1029 none
  statics := none }

def pool26 : Array CpInfo := pool [(1, .class_ 2), (0, u "java/lang/String"), (1, .class_ 6), (1, u "java/lang/Object"), (0, u "<init>"), (0, u "()V"), (0, .methodref 1 10), (0, .nameAndType 11 12), (0, u "checkIndex"), (0, u "(II)V"), (1, .class_ 16), (1, u "java/lang/StringLatin1"), (36, u "([BI)C"), (67, u "$assertionsDisabled"), (0, u "Z"), (98, .class_ 223), (1, u "java/lang/StringLatin1$LinesSpliterator"), (28, u "charAt"), (137, .class_ 391), (0, u "java/lang/StringLatin1$CharsSpliterator")] 3

def k26m0 : Method := { name := "<init>", desc := "()V", sig := { parameters := [], returnType := none }, accessFlags := 0, code := none }
def k26c1 : Code := { maxStack := 2, maxLocals := 2, code := jdk_43_method_2_code, exceptionTable := #[], attributes := #[] }
def k26m1 : Method := { name := "charAt", desc := "([BI)C", sig := { parameters := [(.array .byte), .int], returnType := some .char }, accessFlags := 9, code := some k26c1 }
/-- java/lang/StringLatin1 -/
def k26 : Class := { plain "java/lang/StringLatin1" (some 0) with
  accessFlags := 48
  interfaces := #[]
  cf := some (fileOf pool26 14 #[.nestMembers #[390, 221]] #[{ accessFlags := 0, nameIndex := 7, descriptorIndex := 8, attributes := #[] }, { accessFlags := 9, nameIndex := 252, descriptorIndex := 53, attributes := #[] }] 48 4 #[] #[{ accessFlags := 4120, nameIndex := 121, descriptorIndex := 122, attributes := #[] }])
  fields := #[{ name := "$assertionsDisabled", type := .boolean, accessFlags := 4120, slot := 0, constantValue := 0 }]
  methods := #[k26m0, k26m1]
  instanceTypes := #[]
  staticTypes := #[.boolean]
  resolved := Array.replicate 395 none
  statics := none }

def pool27 : Array CpInfo := pool [(2, .class_ 4), (1, u "java/lang/Object"), (0, u "<init>"), (0, u "()V"), (17, .class_ 26), (1, u "jdk/internal/util/Preconditions"), (6, u "checkIndex"), (21, .class_ 56), (0, u "jdk/internal/util/Preconditions$4"), (57, .class_ 115), (0, u "jdk/internal/util/Preconditions$1"), (7, u "SIOOBE_FORMATTER"), (0, u "Ljava/util/function/BiFunction;"), (0, .class_ 126), (0, u "jdk/internal/util/Preconditions$2"), (3, u "AIOOBE_FORMATTER"), (0, .class_ 132), (0, u "jdk/internal/util/Preconditions$3"), (3, u "IOOBE_FORMATTER"), (41, u "(IILjava/util/function/BiFunction;)I")] 15

def k27m0 : Method := { name := "<init>", desc := "()V", sig := { parameters := [], returnType := none }, accessFlags := 1, code := none }
def k27c1 : Code := { maxStack := 3, maxLocals := 3, code := jdk_41_method_11_code, exceptionTable := #[], attributes := #[] }
def k27m1 : Method := { name := "checkIndex", desc := "(IILjava/util/function/BiFunction;)I", sig := { parameters := [.int, .int, (.object "java/util/function/BiFunction")], returnType := some .int }, accessFlags := 9, code := some k27c1 }
/-- jdk/internal/util/Preconditions -/
def k27 : Class := { plain "jdk/internal/util/Preconditions" (some 0) with
  accessFlags := 33
  interfaces := #[]
  cf := some (fileOf pool27 24 #[.nestMembers #[55, 131, 125, 114]] #[{ accessFlags := 1, nameIndex := 5, descriptorIndex := 6, attributes := #[] }, { accessFlags := 9, nameIndex := 33, descriptorIndex := 178, attributes := #[] }] 33 2 #[] #[{ accessFlags := 25, nameIndex := 123, descriptorIndex := 124, attributes := #[] }, { accessFlags := 25, nameIndex := 130, descriptorIndex := 124, attributes := #[] }, { accessFlags := 25, nameIndex := 136, descriptorIndex := 124, attributes := #[] }])
  fields := #[{ name := "SIOOBE_FORMATTER", type := (.object "java/util/function/BiFunction"), accessFlags := 25, slot := 0, constantValue := 0 }, { name := "AIOOBE_FORMATTER", type := (.object "java/util/function/BiFunction"), accessFlags := 25, slot := 1, constantValue := 0 }, { name := "IOOBE_FORMATTER", type := (.object "java/util/function/BiFunction"), accessFlags := 25, slot := 2, constantValue := 0 }]
  methods := #[k27m0, k27m1]
  instanceTypes := #[]
  staticTypes := #[(.object "java/util/function/BiFunction"), (.object "java/util/function/BiFunction"), (.object "java/util/function/BiFunction")]
  resolved := Array.replicate 194 none
  statics := some 2 }

def pool28 : Array CpInfo := pool [(1, u "java/lang/Cloneable"), (0, .class_ 1), (0, u "java/lang/Object"), (0, .class_ 3)] 3

/-- java/lang/Cloneable -/
def k28 : Class := { plain "java/lang/Cloneable" (some 0) with
  accessFlags := 1537
  interfaces := #[]
  cf := some (fileOf pool28 2 #[] #[] 1537 4 #[] #[])
  fields := #[]
  methods := #[]
  instanceTypes := #[]
  staticTypes := #[]
  resolved := Array.replicate 8 none
  statics := none }

/-- the primitive byte -/
def k29 : Class := { plain "byte" none with kind := .primitive 'B', accessFlags := 0x411 }
/-- [B -/
def k30 : Class := { plain "[B" (some 0) with kind := .array 29 .byte, interfaces := #[28, 2], accessFlags := 1041 }

/-- the primitive char -/
def k31 : Class := { plain "char" none with kind := .primitive 'C', accessFlags := 0x411 }
/-- [C -/
def k32 : Class := { plain "[C" (some 0) with kind := .array 31 .char, interfaces := #[28, 2], accessFlags := 1041 }

/-- the primitive int -/
def k33 : Class := { plain "int" none with kind := .primitive 'I', accessFlags := 0x411 }
/-- [I -/
def k34 : Class := { plain "[I" (some 0) with kind := .array 33 .int, interfaces := #[28, 2], accessFlags := 1041 }

/-- [Ljava/lang/Object; -/
def k35 : Class := { plain "[Ljava/lang/Object;" (some 0) with kind := .array 0 (.object "java/lang/Object"), interfaces := #[28, 2], accessFlags := 1041 }

def heap : Heap := #[{ cls := 7, slots := #[.long 0, .int 1, .null, .int 0, .null, .int 0, .int 0], vm := .statics 7 },
  { cls := 13, slots := #[.long 0, .int 0, .null, .null, .null, .null, .ref 4, .null, .int 0, .int 0], vm := .statics 13 },
  { cls := 27, slots := #[.null, .null, .null], vm := .statics 27 },
  { cls := 35, slots := #[], vm := .none },
  { cls := 18, slots := #[.ref 3, .int 0], vm := .none }]
def classes : Array Class := #[k0, k1, k2, k3, k4, k5, k6, k7, k8, k9, k10, k11, k12, k13, k14, k15, k16, k17, k18, k19, k20, k21, k22, k23, k24, k25, k26, k27, k28, k29, k30, k31, k32, k33, k34, k35]
def interned : List (Array UInt16 × Addr) := []
def slotsUsed : Nat := 22
def theMethod : MethodId := ⟨1, 1⟩
def args0 : Array Value := #[.int 3, .int 5, .int 7, .int 9]
def aboutOver (below : List Frame) : State where
  vm := { classes := classes, interned := interned.toArray }
  heap := heap
  slotsUsed := slotsUsed
  threads := #[{ frames := .invoking theMethod args0 :: below }]
def below0 : List Frame := [.native { method := ⟨0, 0⟩, args := #[] }]
def about1 : State := aboutOver below0
def p0 : Program := .bare "" "" ""
def e0 : Env := launch0.env 0 0 0
theorem w_frames : about1.frames = Frame.invoking theMethod args0 :: below0 := rfl
set_option maxRecDepth 65536 in
theorem w_args : argsFit about1.vm theMethod args0 = true := by decide +kernel
set_option maxRecDepth 65536 in
theorem w_heap : heapFits about1 = true := by decide +kernel
set_option maxRecDepth 65536 in
theorem w_runnable : about1.curStatus? = some .runnable := by decide +kernel
set_option maxRecDepth 65536 in
theorem w_alone : about1.alone = true := by decide +kernel
set_option maxRecDepth 65536 in
theorem w_named : about1.methodNamed? x = some theMethod := by decide +kernel
set_option maxRecDepth 65536 in
theorem w_hears : about1.hears theMethod below0 = true := by decide +kernel
set_option maxRecDepth 65536 in
theorem w_ripe : about1.ripe theMethod args0 below0 = true := by decide +kernel
theorem w_running : about1.status = .running := rfl
set_option maxRecDepth 65536 in
theorem w_room : about1.hasRoom e0.platform room_1 = true :=
  launch0.hasRoom_least _ room_1 (by decide +kernel) (by decide +kernel) (by decide +kernel) (by decide +kernel) (by decide +kernel) (by decide +kernel)
theorem allAtoms_all (ts : List Jvm.Cond) (a : Array Jvm.Value) (st : Jvm.State) : (allAtoms ts).before a st = ts.all (fun c => c.before a st) := by
  induction ts with
  | nil => rfl
  | cons c t ih =>
    show (Jvm.Cond.and c (allAtoms t)).before a st = _
    rw [Jvm.Cond.before_and, ih, List.all_cons]
def words1 : List Jvm.Cond := Jvm.Cond.code x code maxLocals ret :: tables_1
/-- a 'code' word, met by the world's own term for the bytes: nothing is compared byte by byte -/
theorem code_word {y : MethodName} {bytes : ByteArray} {mx : Nat} {rt : Option FieldType} {a : Array Value} {s : State} {m : MethodId} {meth : Method} {c : Code} (h1 : s.methodNamed? y = some m) (h2 : s.vm.method? m = some meth) (h3 : meth.code = some c) (h4 : c.code = bytes)
    (h5 : (c.maxLocals == mx && c.exceptionTable.isEmpty && decide (c.maxStack ≤ mostOperands) && decide (meth.sig.returnType = rt) && !meth.locks && decide (parseMethodDescriptor y.desc = some meth.sig)) = true) : (Jvm.Cond.code y bytes mx rt).before a s = true := by
  simp only [Bool.and_eq_true, beq_iff_eq, Bool.not_eq_true', decide_eq_true_eq] at h5
  obtain ⟨⟨⟨⟨⟨g1, g2⟩, g3⟩, g4⟩, g5⟩, g6⟩ := h5
  simp [Cond.before, Cond.holds, Cond.value, h1, h2, h3, h4, g1, g2, g3, g4, g5, g6]
def isCode : Jvm.Cond → Bool
  | .code _ _ _ _ => true
  | _ => false
theorem all_split {L : List Jvm.Cond} {P : Jvm.Cond → Bool} (h1 : L.all (fun c => isCode c || P c) = true) (h2 : ∀ c ∈ L.filter isCode, P c = true) : L.all P = true := by
  refine List.all_eq_true.mpr fun c hc => ?_
  have h := List.all_eq_true.mp h1 c hc
  rcases Bool.eq_false_or_eq_true (isCode c) with hi | hi
  · exact h2 c (List.mem_filter.mpr ⟨hc, hi⟩)
  · simpa [hi] using h
set_option maxRecDepth 65536 in
theorem w_c0 : (Jvm.Cond.code x code maxLocals ret).before args0 about1 = true := code_word (m := ⟨1, 1⟩) (meth := k1m1) (c := k1c1) (by decide +kernel) rfl rfl rfl (by decide +kernel)
set_option maxRecDepth 65536 in
theorem w_c1 : (Jvm.Cond.code ({ cls := "com/example/soft_sieve/softsieve/JudgedQueryToStringPinLaw", name := "mk", desc := "(ICC)Ljava/lang/String;" } : Jvm.MethodName) method_3_code (4 : Nat) (Option.some (Jvm.ClassFile.FieldType.object "java/lang/String"))).before args0 about1 = true := code_word (m := ⟨1, 2⟩) (meth := k1m2) (c := k1c2) (by decide +kernel) rfl rfl rfl (by decide +kernel)
set_option maxRecDepth 65536 in
theorem w_c2 : (Jvm.Cond.code ({ cls := "java/lang/String", name := "<init>", desc := "([C)V" } : Jvm.MethodName) jdk_42_method_3_code (2 : Nat) (Option.none : Option Jvm.ClassFile.FieldType)).before args0 about1 = true := code_word (m := ⟨7, 1⟩) (meth := k7m1) (c := k7c1) (by decide +kernel) rfl rfl rfl (by decide +kernel)
set_option maxRecDepth 65536 in
theorem w_c3 : (Jvm.Cond.code ({ cls := "java/lang/String", name := "<init>", desc := "([CIILjava/lang/Void;)V" } : Jvm.MethodName) jdk_42_method_149_code (6 : Nat) (Option.none : Option Jvm.ClassFile.FieldType)).before args0 about1 = true := code_word (m := ⟨7, 6⟩) (meth := k7m6) (c := k7c6) (by decide +kernel) rfl rfl rfl (by decide +kernel)
set_option maxRecDepth 65536 in
theorem w_c4 : (Jvm.Cond.code ({ cls := "java/lang/Object", name := "<init>", desc := "()V" } : Jvm.MethodName) object_method_1_code (1 : Nat) (Option.none : Option Jvm.ClassFile.FieldType)).before args0 about1 = true := code_word (m := ⟨0, 0⟩) (meth := k0m0) (c := k0c0) (by decide +kernel) rfl rfl rfl (by decide +kernel)
set_option maxRecDepth 65536 in
theorem w_c5 : (Jvm.Cond.code ({ cls := "java/lang/StringUTF16", name := "compress", desc := "([CII)[B" } : Jvm.MethodName) jdk_52_method_16_code (6 : Nat) (Option.some (Jvm.ClassFile.FieldType.array Jvm.ClassFile.FieldType.byte))).before args0 about1 = true := code_word (m := ⟨8, 2⟩) (meth := k8m2) (c := k8c2) (by decide +kernel) rfl rfl rfl (by decide +kernel)
set_option maxRecDepth 65536 in
theorem w_c6 : (Jvm.Cond.code ({ cls := "java/lang/StringUTF16", name := "compress", desc := "([CI[BII)I" } : Jvm.MethodName) jdk_52_method_21_code (7 : Nat) (Option.some Jvm.ClassFile.FieldType.int)).before args0 about1 = true := code_word (m := ⟨8, 3⟩) (meth := k8m3) (c := k8c3) (by decide +kernel) rfl rfl rfl (by decide +kernel)
set_option maxRecDepth 65536 in
theorem w_c7 : (Jvm.Cond.code ({ cls := "java/lang/StringUTF16", name := "coderFromArrayLen", desc := "([BI)B" } : Jvm.MethodName) jdk_52_method_15_code (2 : Nat) (Option.some Jvm.ClassFile.FieldType.byte)).before args0 about1 = true := code_word (m := ⟨8, 1⟩) (meth := k8m1) (c := k8c1) (by decide +kernel) rfl rfl rfl (by decide +kernel)
set_option maxRecDepth 65536 in
theorem w_c8 : (Jvm.Cond.code ({ cls := "java/util/Set", name := "of", desc := "()Ljava/util/Set;" } : Jvm.MethodName) jdk_96_method_17_code (0 : Nat) (Option.some (Jvm.ClassFile.FieldType.object "java/util/Set"))).before args0 about1 = true := code_word (m := ⟨12, 0⟩) (meth := k12m0) (c := k12c0) (by decide +kernel) rfl rfl rfl (by decide +kernel)
set_option maxRecDepth 65536 in
theorem w_c9 : (Jvm.Cond.code ({ cls := "com/example/soft_sieve/softsieve/JudgedQuery", name := "<init>", desc := "(Ljava/lang/String;Ljava/lang/String;Ljava/util/Set;)V" } : Jvm.MethodName) prog_6_method_1_code (4 : Nat) (Option.none : Option Jvm.ClassFile.FieldType)).before args0 about1 = true := code_word (m := ⟨9, 0⟩) (meth := k9m0) (c := k9c0) (by decide +kernel) rfl rfl rfl (by decide +kernel)
set_option maxRecDepth 65536 in
theorem w_c10 : (Jvm.Cond.code ({ cls := "java/util/Objects", name := "requireNonNull", desc := "(Ljava/lang/Object;Ljava/lang/String;)Ljava/lang/Object;" } : Jvm.MethodName) jdk_31_method_11_code (2 : Nat) (Option.some (Jvm.ClassFile.FieldType.object "java/lang/Object"))).before args0 about1 = true := code_word (m := ⟨14, 1⟩) (meth := k14m1) (c := k14c1) (by decide +kernel) rfl rfl rfl (by decide +kernel)
set_option maxRecDepth 65536 in
theorem w_c11 : (Jvm.Cond.code ({ cls := "java/util/Set", name := "copyOf", desc := "(Ljava/util/Collection;)Ljava/util/Set;" } : Jvm.MethodName) jdk_96_method_29_code (1 : Nat) (Option.some (Jvm.ClassFile.FieldType.object "java/util/Set"))).before args0 about1 = true := code_word (m := ⟨12, 1⟩) (meth := k12m1) (c := k12c1) (by decide +kernel) rfl rfl rfl (by decide +kernel)
set_option maxRecDepth 65536 in
theorem w_c12 : (Jvm.Cond.code ({ cls := "com/example/soft_sieve/softsieve/JudgedQuery", name := "toString", desc := "()Ljava/lang/String;" } : Jvm.MethodName) prog_6_method_7_code (1 : Nat) (Option.some (Jvm.ClassFile.FieldType.object "java/lang/String"))).before args0 about1 = true := code_word (m := ⟨9, 1⟩) (meth := k9m1) (c := k9c1) (by decide +kernel) rfl rfl rfl (by decide +kernel)
set_option maxRecDepth 65536 in
theorem w_c13 : (Jvm.Cond.code ({ cls := "java/lang/StringBuilder", name := "<init>", desc := "()V" } : Jvm.MethodName) jdk_67_method_1_code (1 : Nat) (Option.none : Option Jvm.ClassFile.FieldType)).before args0 about1 = true := code_word (m := ⟨21, 0⟩) (meth := k21m0) (c := k21c0) (by decide +kernel) rfl rfl rfl (by decide +kernel)
set_option maxRecDepth 65536 in
theorem w_c14 : (Jvm.Cond.code ({ cls := "java/lang/AbstractStringBuilder", name := "<init>", desc := "(I)V" } : Jvm.MethodName) jdk_68_method_2_code (2 : Nat) (Option.none : Option Jvm.ClassFile.FieldType)).before args0 about1 = true := code_word (m := ⟨20, 1⟩) (meth := k20m1) (c := k20c1) (by decide +kernel) rfl rfl rfl (by decide +kernel)
set_option maxRecDepth 65536 in
theorem w_c15 : (Jvm.Cond.code ({ cls := "java/lang/StringBuilder", name := "append", desc := "(Ljava/lang/String;)Ljava/lang/StringBuilder;" } : Jvm.MethodName) jdk_67_method_7_code (2 : Nat) (Option.some (Jvm.ClassFile.FieldType.object "java/lang/StringBuilder"))).before args0 about1 = true := code_word (m := ⟨21, 1⟩) (meth := k21m1) (c := k21c1) (by decide +kernel) rfl rfl rfl (by decide +kernel)
set_option maxRecDepth 65536 in
theorem w_c16 : (Jvm.Cond.code ({ cls := "java/lang/AbstractStringBuilder", name := "append", desc := "(Ljava/lang/String;)Ljava/lang/AbstractStringBuilder;" } : Jvm.MethodName) jdk_68_method_22_code (3 : Nat) (Option.some (Jvm.ClassFile.FieldType.object "java/lang/AbstractStringBuilder"))).before args0 about1 = true := code_word (m := ⟨20, 5⟩) (meth := k20m5) (c := k20c5) (by decide +kernel) rfl rfl rfl (by decide +kernel)
set_option maxRecDepth 65536 in
theorem w_c17 : (Jvm.Cond.code ({ cls := "java/lang/String", name := "length", desc := "()I" } : Jvm.MethodName) jdk_42_method_54_code (1 : Nat) (Option.some Jvm.ClassFile.FieldType.int)).before args0 about1 = true := code_word (m := ⟨7, 3⟩) (meth := k7m3) (c := k7c3) (by decide +kernel) rfl rfl rfl (by decide +kernel)
set_option maxRecDepth 65536 in
theorem w_c18 : (Jvm.Cond.code ({ cls := "java/lang/String", name := "coder", desc := "()B" } : Jvm.MethodName) jdk_42_method_152_code (1 : Nat) (Option.some Jvm.ClassFile.FieldType.byte)).before args0 about1 = true := code_word (m := ⟨7, 8⟩) (meth := k7m8) (c := k7c8) (by decide +kernel) rfl rfl rfl (by decide +kernel)
set_option maxRecDepth 65536 in
theorem w_c19 : (Jvm.Cond.code ({ cls := "java/lang/AbstractStringBuilder", name := "ensureCapacityInternal", desc := "(I)V" } : Jvm.MethodName) jdk_68_method_9_code (3 : Nat) (Option.none : Option Jvm.ClassFile.FieldType)).before args0 about1 = true := code_word (m := ⟨20, 3⟩) (meth := k20m3) (c := k20c3) (by decide +kernel) rfl rfl rfl (by decide +kernel)
set_option maxRecDepth 65536 in
theorem w_c20 : (Jvm.Cond.code ({ cls := "java/lang/AbstractStringBuilder", name := "putStringAt", desc := "(ILjava/lang/String;)V" } : Jvm.MethodName) jdk_68_method_73_code (3 : Nat) (Option.none : Option Jvm.ClassFile.FieldType)).before args0 about1 = true := code_word (m := ⟨20, 9⟩) (meth := k20m9) (c := k20c9) (by decide +kernel) rfl rfl rfl (by decide +kernel)
set_option maxRecDepth 65536 in
theorem w_c21 : (Jvm.Cond.code ({ cls := "java/lang/AbstractStringBuilder", name := "inflateIfNeededFor", desc := "(Ljava/lang/String;)V" } : Jvm.MethodName) jdk_68_method_71_code (2 : Nat) (Option.none : Option Jvm.ClassFile.FieldType)).before args0 about1 = true := code_word (m := ⟨20, 8⟩) (meth := k20m8) (c := k20c8) (by decide +kernel) rfl rfl rfl (by decide +kernel)
set_option maxRecDepth 65536 in
theorem w_c22 : (Jvm.Cond.code ({ cls := "java/lang/String", name := "getBytes", desc := "([BIB)V" } : Jvm.MethodName) jdk_42_method_147_code (4 : Nat) (Option.none : Option Jvm.ClassFile.FieldType)).before args0 about1 = true := code_word (m := ⟨7, 5⟩) (meth := k7m5) (c := k7c5) (by decide +kernel) rfl rfl rfl (by decide +kernel)
set_option maxRecDepth 65536 in
theorem w_c23 : (Jvm.Cond.code ({ cls := "java/lang/AbstractStringBuilder", name := "newCapacity", desc := "(I)I" } : Jvm.MethodName) jdk_68_method_10_code (6 : Nat) (Option.some Jvm.ClassFile.FieldType.int)).before args0 about1 = true := code_word (m := ⟨20, 4⟩) (meth := k20m4) (c := k20c4) (by decide +kernel) rfl rfl rfl (by decide +kernel)
set_option maxRecDepth 65536 in
theorem w_c24 : (Jvm.Cond.code ({ cls := "jdk/internal/util/ArraysSupport", name := "newLength", desc := "(III)I" } : Jvm.MethodName) jdk_48_method_27_code (4 : Nat) (Option.some Jvm.ClassFile.FieldType.int)).before args0 about1 = true := code_word (m := ⟨23, 1⟩) (meth := k23m1) (c := k23c1) (by decide +kernel) rfl rfl rfl (by decide +kernel)
set_option maxRecDepth 65536 in
theorem w_c25 : (Jvm.Cond.code ({ cls := "java/lang/Math", name := "max", desc := "(II)I" } : Jvm.MethodName) jdk_29_method_65_code (2 : Nat) (Option.some Jvm.ClassFile.FieldType.int)).before args0 about1 = true := code_word (m := ⟨24, 1⟩) (meth := k24m1) (c := k24c1) (by decide +kernel) rfl rfl rfl (by decide +kernel)
set_option maxRecDepth 65536 in
theorem w_c26 : (Jvm.Cond.code ({ cls := "java/util/Arrays", name := "copyOf", desc := "([BI)[B" } : Jvm.MethodName) jdk_65_method_121_code (3 : Nat) (Option.some (Jvm.ClassFile.FieldType.array Jvm.ClassFile.FieldType.byte))).before args0 about1 = true := code_word (m := ⟨25, 1⟩) (meth := k25m1) (c := k25c1) (by decide +kernel) rfl rfl rfl (by decide +kernel)
set_option maxRecDepth 65536 in
theorem w_c27 : (Jvm.Cond.code ({ cls := "java/lang/Math", name := "min", desc := "(II)I" } : Jvm.MethodName) jdk_29_method_69_code (2 : Nat) (Option.some Jvm.ClassFile.FieldType.int)).before args0 about1 = true := code_word (m := ⟨24, 2⟩) (meth := k24m2) (c := k24c2) (by decide +kernel) rfl rfl rfl (by decide +kernel)
set_option maxRecDepth 65536 in
theorem w_c28 : (Jvm.Cond.code ({ cls := "java/lang/StringBuilder", name := "toString", desc := "()Ljava/lang/String;" } : Jvm.MethodName) jdk_67_method_42_code (1 : Nat) (Option.some (Jvm.ClassFile.FieldType.object "java/lang/String"))).before args0 about1 = true := code_word (m := ⟨21, 2⟩) (meth := k21m2) (c := k21c2) (by decide +kernel) rfl rfl rfl (by decide +kernel)
set_option maxRecDepth 65536 in
theorem w_c29 : (Jvm.Cond.code ({ cls := "java/lang/String", name := "<init>", desc := "(Ljava/lang/StringBuilder;)V" } : Jvm.MethodName) jdk_42_method_53_code (2 : Nat) (Option.none : Option Jvm.ClassFile.FieldType)).before args0 about1 = true := code_word (m := ⟨7, 2⟩) (meth := k7m2) (c := k7c2) (by decide +kernel) rfl rfl rfl (by decide +kernel)
set_option maxRecDepth 65536 in
theorem w_c30 : (Jvm.Cond.code ({ cls := "java/lang/String", name := "<init>", desc := "(Ljava/lang/AbstractStringBuilder;Ljava/lang/Void;)V" } : Jvm.MethodName) jdk_42_method_150_code (5 : Nat) (Option.none : Option Jvm.ClassFile.FieldType)).before args0 about1 = true := code_word (m := ⟨7, 7⟩) (meth := k7m7) (c := k7c7) (by decide +kernel) rfl rfl rfl (by decide +kernel)
set_option maxRecDepth 65536 in
theorem w_c31 : (Jvm.Cond.code ({ cls := "java/lang/AbstractStringBuilder", name := "getValue", desc := "()[B" } : Jvm.MethodName) jdk_68_method_64_code (1 : Nat) (Option.some (Jvm.ClassFile.FieldType.array Jvm.ClassFile.FieldType.byte))).before args0 about1 = true := code_word (m := ⟨20, 6⟩) (meth := k20m6) (c := k20c6) (by decide +kernel) rfl rfl rfl (by decide +kernel)
set_option maxRecDepth 65536 in
theorem w_c32 : (Jvm.Cond.code ({ cls := "java/lang/StringBuilder", name := "length", desc := "()I" } : Jvm.MethodName) jdk_67_method_93_code (1 : Nat) (Option.some Jvm.ClassFile.FieldType.int)).before args0 about1 = true := code_word (m := ⟨21, 3⟩) (meth := k21m3) (c := k21c3) (by decide +kernel) rfl rfl rfl (by decide +kernel)
set_option maxRecDepth 65536 in
theorem w_c33 : (Jvm.Cond.code ({ cls := "java/lang/AbstractStringBuilder", name := "length", desc := "()I" } : Jvm.MethodName) jdk_68_method_6_code (1 : Nat) (Option.some Jvm.ClassFile.FieldType.int)).before args0 about1 = true := code_word (m := ⟨20, 2⟩) (meth := k20m2) (c := k20c2) (by decide +kernel) rfl rfl rfl (by decide +kernel)
set_option maxRecDepth 65536 in
theorem w_c34 : (Jvm.Cond.code ({ cls := "java/lang/AbstractStringBuilder", name := "isLatin1", desc := "()Z" } : Jvm.MethodName) jdk_68_method_68_code (1 : Nat) (Option.some Jvm.ClassFile.FieldType.boolean)).before args0 about1 = true := code_word (m := ⟨20, 7⟩) (meth := k20m7) (c := k20c7) (by decide +kernel) rfl rfl rfl (by decide +kernel)
set_option maxRecDepth 65536 in
theorem w_c35 : (Jvm.Cond.code ({ cls := "java/util/Arrays", name := "copyOfRange", desc := "([BII)[B" } : Jvm.MethodName) jdk_65_method_132_code (3 : Nat) (Option.some (Jvm.ClassFile.FieldType.array Jvm.ClassFile.FieldType.byte))).before args0 about1 = true := code_word (m := ⟨25, 3⟩) (meth := k25m3) (c := k25c3) (by decide +kernel) rfl rfl rfl (by decide +kernel)
set_option maxRecDepth 65536 in
theorem w_c36 : (Jvm.Cond.code ({ cls := "java/util/Arrays", name := "copyOfRangeByte", desc := "([BII)[B" } : Jvm.MethodName) jdk_65_method_133_code (5 : Nat) (Option.some (Jvm.ClassFile.FieldType.array Jvm.ClassFile.FieldType.byte))).before args0 about1 = true := code_word (m := ⟨25, 4⟩) (meth := k25m4) (c := k25c4) (by decide +kernel) rfl rfl rfl (by decide +kernel)
set_option maxRecDepth 65536 in
theorem w_c37 : (Jvm.Cond.code ({ cls := "java/util/Arrays", name := "checkLength", desc := "(II)V" } : Jvm.MethodName) jdk_65_method_131_code (2 : Nat) (Option.none : Option Jvm.ClassFile.FieldType)).before args0 about1 = true := code_word (m := ⟨25, 2⟩) (meth := k25m2) (c := k25c2) (by decide +kernel) rfl rfl rfl (by decide +kernel)
set_option maxRecDepth 65536 in
theorem w_c38 : (Jvm.Cond.code ({ cls := "com/example/soft_sieve/softsieve/JudgedQueryToStringPinLaw", name := "eq8", desc := "(Ljava/lang/String;ILjava/lang/String;)Z" } : Jvm.MethodName) method_4_code (3 : Nat) (Option.some Jvm.ClassFile.FieldType.boolean)).before args0 about1 = true := code_word (m := ⟨1, 3⟩) (meth := k1m3) (c := k1c3) (by decide +kernel) rfl rfl rfl (by decide +kernel)
set_option maxRecDepth 65536 in
theorem w_c39 : (Jvm.Cond.code ({ cls := "java/lang/String", name := "charAt", desc := "(I)C" } : Jvm.MethodName) jdk_42_method_56_code (2 : Nat) (Option.some Jvm.ClassFile.FieldType.char)).before args0 about1 = true := code_word (m := ⟨7, 4⟩) (meth := k7m4) (c := k7c4) (by decide +kernel) rfl rfl rfl (by decide +kernel)
set_option maxRecDepth 65536 in
theorem w_c40 : (Jvm.Cond.code ({ cls := "java/lang/String", name := "isLatin1", desc := "()Z" } : Jvm.MethodName) jdk_42_method_154_code (1 : Nat) (Option.some Jvm.ClassFile.FieldType.boolean)).before args0 about1 = true := code_word (m := ⟨7, 9⟩) (meth := k7m9) (c := k7c9) (by decide +kernel) rfl rfl rfl (by decide +kernel)
set_option maxRecDepth 65536 in
theorem w_c41 : (Jvm.Cond.code ({ cls := "java/lang/StringLatin1", name := "charAt", desc := "([BI)C" } : Jvm.MethodName) jdk_43_method_2_code (2 : Nat) (Option.some Jvm.ClassFile.FieldType.char)).before args0 about1 = true := code_word (m := ⟨26, 1⟩) (meth := k26m1) (c := k26c1) (by decide +kernel) rfl rfl rfl (by decide +kernel)
set_option maxRecDepth 65536 in
theorem w_c42 : (Jvm.Cond.code ({ cls := "java/lang/String", name := "checkIndex", desc := "(II)V" } : Jvm.MethodName) jdk_42_method_155_code (2 : Nat) (Option.none : Option Jvm.ClassFile.FieldType)).before args0 about1 = true := code_word (m := ⟨7, 10⟩) (meth := k7m10) (c := k7c10) (by decide +kernel) rfl rfl rfl (by decide +kernel)
set_option maxRecDepth 65536 in
theorem w_c43 : (Jvm.Cond.code ({ cls := "jdk/internal/util/Preconditions", name := "checkIndex", desc := "(IILjava/util/function/BiFunction;)I" } : Jvm.MethodName) jdk_41_method_11_code (3 : Nat) (Option.some Jvm.ClassFile.FieldType.int)).before args0 about1 = true := code_word (m := ⟨27, 1⟩) (meth := k27m1) (c := k27c1) (by decide +kernel) rfl rfl rfl (by decide +kernel)
def codes1 : List Jvm.Cond := [Jvm.Cond.code x code maxLocals ret, Jvm.Cond.code ({ cls := "com/example/soft_sieve/softsieve/JudgedQueryToStringPinLaw", name := "mk", desc := "(ICC)Ljava/lang/String;" } : Jvm.MethodName) method_3_code (4 : Nat) (Option.some (Jvm.ClassFile.FieldType.object "java/lang/String")), Jvm.Cond.code ({ cls := "java/lang/String", name := "<init>", desc := "([C)V" } : Jvm.MethodName) jdk_42_method_3_code (2 : Nat) (Option.none : Option Jvm.ClassFile.FieldType), Jvm.Cond.code ({ cls := "java/lang/String", name := "<init>", desc := "([CIILjava/lang/Void;)V" } : Jvm.MethodName) jdk_42_method_149_code (6 : Nat) (Option.none : Option Jvm.ClassFile.FieldType), Jvm.Cond.code ({ cls := "java/lang/Object", name := "<init>", desc := "()V" } : Jvm.MethodName) object_method_1_code (1 : Nat) (Option.none : Option Jvm.ClassFile.FieldType), Jvm.Cond.code ({ cls := "java/lang/StringUTF16", name := "compress", desc := "([CII)[B" } : Jvm.MethodName) jdk_52_method_16_code (6 : Nat) (Option.some (Jvm.ClassFile.FieldType.array Jvm.ClassFile.FieldType.byte)), Jvm.Cond.code ({ cls := "java/lang/StringUTF16", name := "compress", desc := "([CI[BII)I" } : Jvm.MethodName) jdk_52_method_21_code (7 : Nat) (Option.some Jvm.ClassFile.FieldType.int), Jvm.Cond.code ({ cls := "java/lang/StringUTF16", name := "coderFromArrayLen", desc := "([BI)B" } : Jvm.MethodName) jdk_52_method_15_code (2 : Nat) (Option.some Jvm.ClassFile.FieldType.byte), Jvm.Cond.code ({ cls := "java/util/Set", name := "of", desc := "()Ljava/util/Set;" } : Jvm.MethodName) jdk_96_method_17_code (0 : Nat) (Option.some (Jvm.ClassFile.FieldType.object "java/util/Set")), Jvm.Cond.code ({ cls := "com/example/soft_sieve/softsieve/JudgedQuery", name := "<init>", desc := "(Ljava/lang/String;Ljava/lang/String;Ljava/util/Set;)V" } : Jvm.MethodName) prog_6_method_1_code (4 : Nat) (Option.none : Option Jvm.ClassFile.FieldType), Jvm.Cond.code ({ cls := "java/util/Objects", name := "requireNonNull", desc := "(Ljava/lang/Object;Ljava/lang/String;)Ljava/lang/Object;" } : Jvm.MethodName) jdk_31_method_11_code (2 : Nat) (Option.some (Jvm.ClassFile.FieldType.object "java/lang/Object")), Jvm.Cond.code ({ cls := "java/util/Set", name := "copyOf", desc := "(Ljava/util/Collection;)Ljava/util/Set;" } : Jvm.MethodName) jdk_96_method_29_code (1 : Nat) (Option.some (Jvm.ClassFile.FieldType.object "java/util/Set")), Jvm.Cond.code ({ cls := "com/example/soft_sieve/softsieve/JudgedQuery", name := "toString", desc := "()Ljava/lang/String;" } : Jvm.MethodName) prog_6_method_7_code (1 : Nat) (Option.some (Jvm.ClassFile.FieldType.object "java/lang/String")), Jvm.Cond.code ({ cls := "java/lang/StringBuilder", name := "<init>", desc := "()V" } : Jvm.MethodName) jdk_67_method_1_code (1 : Nat) (Option.none : Option Jvm.ClassFile.FieldType), Jvm.Cond.code ({ cls := "java/lang/AbstractStringBuilder", name := "<init>", desc := "(I)V" } : Jvm.MethodName) jdk_68_method_2_code (2 : Nat) (Option.none : Option Jvm.ClassFile.FieldType), Jvm.Cond.code ({ cls := "java/lang/StringBuilder", name := "append", desc := "(Ljava/lang/String;)Ljava/lang/StringBuilder;" } : Jvm.MethodName) jdk_67_method_7_code (2 : Nat) (Option.some (Jvm.ClassFile.FieldType.object "java/lang/StringBuilder")), Jvm.Cond.code ({ cls := "java/lang/AbstractStringBuilder", name := "append", desc := "(Ljava/lang/String;)Ljava/lang/AbstractStringBuilder;" } : Jvm.MethodName) jdk_68_method_22_code (3 : Nat) (Option.some (Jvm.ClassFile.FieldType.object "java/lang/AbstractStringBuilder")), Jvm.Cond.code ({ cls := "java/lang/String", name := "length", desc := "()I" } : Jvm.MethodName) jdk_42_method_54_code (1 : Nat) (Option.some Jvm.ClassFile.FieldType.int), Jvm.Cond.code ({ cls := "java/lang/String", name := "coder", desc := "()B" } : Jvm.MethodName) jdk_42_method_152_code (1 : Nat) (Option.some Jvm.ClassFile.FieldType.byte), Jvm.Cond.code ({ cls := "java/lang/AbstractStringBuilder", name := "ensureCapacityInternal", desc := "(I)V" } : Jvm.MethodName) jdk_68_method_9_code (3 : Nat) (Option.none : Option Jvm.ClassFile.FieldType), Jvm.Cond.code ({ cls := "java/lang/AbstractStringBuilder", name := "putStringAt", desc := "(ILjava/lang/String;)V" } : Jvm.MethodName) jdk_68_method_73_code (3 : Nat) (Option.none : Option Jvm.ClassFile.FieldType), Jvm.Cond.code ({ cls := "java/lang/AbstractStringBuilder", name := "inflateIfNeededFor", desc := "(Ljava/lang/String;)V" } : Jvm.MethodName) jdk_68_method_71_code (2 : Nat) (Option.none : Option Jvm.ClassFile.FieldType), Jvm.Cond.code ({ cls := "java/lang/String", name := "getBytes", desc := "([BIB)V" } : Jvm.MethodName) jdk_42_method_147_code (4 : Nat) (Option.none : Option Jvm.ClassFile.FieldType), Jvm.Cond.code ({ cls := "java/lang/AbstractStringBuilder", name := "newCapacity", desc := "(I)I" } : Jvm.MethodName) jdk_68_method_10_code (6 : Nat) (Option.some Jvm.ClassFile.FieldType.int), Jvm.Cond.code ({ cls := "jdk/internal/util/ArraysSupport", name := "newLength", desc := "(III)I" } : Jvm.MethodName) jdk_48_method_27_code (4 : Nat) (Option.some Jvm.ClassFile.FieldType.int), Jvm.Cond.code ({ cls := "java/lang/Math", name := "max", desc := "(II)I" } : Jvm.MethodName) jdk_29_method_65_code (2 : Nat) (Option.some Jvm.ClassFile.FieldType.int), Jvm.Cond.code ({ cls := "java/util/Arrays", name := "copyOf", desc := "([BI)[B" } : Jvm.MethodName) jdk_65_method_121_code (3 : Nat) (Option.some (Jvm.ClassFile.FieldType.array Jvm.ClassFile.FieldType.byte)), Jvm.Cond.code ({ cls := "java/lang/Math", name := "min", desc := "(II)I" } : Jvm.MethodName) jdk_29_method_69_code (2 : Nat) (Option.some Jvm.ClassFile.FieldType.int), Jvm.Cond.code ({ cls := "java/lang/StringBuilder", name := "toString", desc := "()Ljava/lang/String;" } : Jvm.MethodName) jdk_67_method_42_code (1 : Nat) (Option.some (Jvm.ClassFile.FieldType.object "java/lang/String")), Jvm.Cond.code ({ cls := "java/lang/String", name := "<init>", desc := "(Ljava/lang/StringBuilder;)V" } : Jvm.MethodName) jdk_42_method_53_code (2 : Nat) (Option.none : Option Jvm.ClassFile.FieldType), Jvm.Cond.code ({ cls := "java/lang/String", name := "<init>", desc := "(Ljava/lang/AbstractStringBuilder;Ljava/lang/Void;)V" } : Jvm.MethodName) jdk_42_method_150_code (5 : Nat) (Option.none : Option Jvm.ClassFile.FieldType), Jvm.Cond.code ({ cls := "java/lang/AbstractStringBuilder", name := "getValue", desc := "()[B" } : Jvm.MethodName) jdk_68_method_64_code (1 : Nat) (Option.some (Jvm.ClassFile.FieldType.array Jvm.ClassFile.FieldType.byte)), Jvm.Cond.code ({ cls := "java/lang/StringBuilder", name := "length", desc := "()I" } : Jvm.MethodName) jdk_67_method_93_code (1 : Nat) (Option.some Jvm.ClassFile.FieldType.int), Jvm.Cond.code ({ cls := "java/lang/AbstractStringBuilder", name := "length", desc := "()I" } : Jvm.MethodName) jdk_68_method_6_code (1 : Nat) (Option.some Jvm.ClassFile.FieldType.int), Jvm.Cond.code ({ cls := "java/lang/AbstractStringBuilder", name := "isLatin1", desc := "()Z" } : Jvm.MethodName) jdk_68_method_68_code (1 : Nat) (Option.some Jvm.ClassFile.FieldType.boolean), Jvm.Cond.code ({ cls := "java/util/Arrays", name := "copyOfRange", desc := "([BII)[B" } : Jvm.MethodName) jdk_65_method_132_code (3 : Nat) (Option.some (Jvm.ClassFile.FieldType.array Jvm.ClassFile.FieldType.byte)), Jvm.Cond.code ({ cls := "java/util/Arrays", name := "copyOfRangeByte", desc := "([BII)[B" } : Jvm.MethodName) jdk_65_method_133_code (5 : Nat) (Option.some (Jvm.ClassFile.FieldType.array Jvm.ClassFile.FieldType.byte)), Jvm.Cond.code ({ cls := "java/util/Arrays", name := "checkLength", desc := "(II)V" } : Jvm.MethodName) jdk_65_method_131_code (2 : Nat) (Option.none : Option Jvm.ClassFile.FieldType), Jvm.Cond.code ({ cls := "com/example/soft_sieve/softsieve/JudgedQueryToStringPinLaw", name := "eq8", desc := "(Ljava/lang/String;ILjava/lang/String;)Z" } : Jvm.MethodName) method_4_code (3 : Nat) (Option.some Jvm.ClassFile.FieldType.boolean), Jvm.Cond.code ({ cls := "java/lang/String", name := "charAt", desc := "(I)C" } : Jvm.MethodName) jdk_42_method_56_code (2 : Nat) (Option.some Jvm.ClassFile.FieldType.char), Jvm.Cond.code ({ cls := "java/lang/String", name := "isLatin1", desc := "()Z" } : Jvm.MethodName) jdk_42_method_154_code (1 : Nat) (Option.some Jvm.ClassFile.FieldType.boolean), Jvm.Cond.code ({ cls := "java/lang/StringLatin1", name := "charAt", desc := "([BI)C" } : Jvm.MethodName) jdk_43_method_2_code (2 : Nat) (Option.some Jvm.ClassFile.FieldType.char), Jvm.Cond.code ({ cls := "java/lang/String", name := "checkIndex", desc := "(II)V" } : Jvm.MethodName) jdk_42_method_155_code (2 : Nat) (Option.none : Option Jvm.ClassFile.FieldType), Jvm.Cond.code ({ cls := "jdk/internal/util/Preconditions", name := "checkIndex", desc := "(IILjava/util/function/BiFunction;)I" } : Jvm.MethodName) jdk_41_method_11_code (3 : Nat) (Option.some Jvm.ClassFile.FieldType.int)]
set_option maxRecDepth 65536 in
theorem codes_eq : words1.filter isCode = codes1 := rfl
theorem w_codes : ∀ c ∈ words1.filter isCode, c.before args0 about1 = true := by
  rw [codes_eq]
  intro c hc
  simp only [codes1, List.mem_cons, List.not_mem_nil, or_false] at hc
  rcases hc with rfl | rfl | rfl | rfl | rfl | rfl | rfl | rfl | rfl | rfl | rfl | rfl | rfl | rfl | rfl | rfl | rfl | rfl | rfl | rfl | rfl | rfl | rfl | rfl | rfl | rfl | rfl | rfl | rfl | rfl | rfl | rfl | rfl | rfl | rfl | rfl | rfl | rfl | rfl | rfl | rfl | rfl | rfl | rfl
  · exact w_c0
  · exact w_c1
  · exact w_c2
  · exact w_c3
  · exact w_c4
  · exact w_c5
  · exact w_c6
  · exact w_c7
  · exact w_c8
  · exact w_c9
  · exact w_c10
  · exact w_c11
  · exact w_c12
  · exact w_c13
  · exact w_c14
  · exact w_c15
  · exact w_c16
  · exact w_c17
  · exact w_c18
  · exact w_c19
  · exact w_c20
  · exact w_c21
  · exact w_c22
  · exact w_c23
  · exact w_c24
  · exact w_c25
  · exact w_c26
  · exact w_c27
  · exact w_c28
  · exact w_c29
  · exact w_c30
  · exact w_c31
  · exact w_c32
  · exact w_c33
  · exact w_c34
  · exact w_c35
  · exact w_c36
  · exact w_c37
  · exact w_c38
  · exact w_c39
  · exact w_c40
  · exact w_c41
  · exact w_c42
  · exact w_c43
set_option maxRecDepth 65536 in
theorem w_t1 : (words1.take 24).all (fun c => isCode c || c.before args0 about1) = true := by decide +kernel
set_option maxRecDepth 65536 in
theorem w_t2 : ((words1.drop 24).take 24).all (fun c => isCode c || c.before args0 about1) = true := by decide +kernel
set_option maxRecDepth 65536 in
theorem w_t3 : (((words1.drop 24).drop 24).take 24).all (fun c => isCode c || c.before args0 about1) = true := by decide +kernel
set_option maxRecDepth 65536 in
theorem w_t4 : ((((words1.drop 24).drop 24).drop 24).take 24).all (fun c => isCode c || c.before args0 about1) = true := by decide +kernel
set_option maxRecDepth 65536 in
theorem w_t5 : (((((words1.drop 24).drop 24).drop 24).drop 24).take 24).all (fun c => isCode c || c.before args0 about1) = true := by decide +kernel
set_option maxRecDepth 65536 in
theorem w_t6 : ((((((words1.drop 24).drop 24).drop 24).drop 24).drop 24).take 24).all (fun c => isCode c || c.before args0 about1) = true := by decide +kernel
set_option maxRecDepth 65536 in
theorem w_t7 : (((((((words1.drop 24).drop 24).drop 24).drop 24).drop 24).drop 24).take 24).all (fun c => isCode c || c.before args0 about1) = true := by decide +kernel
set_option maxRecDepth 65536 in
theorem w_t8 : ((((((((words1.drop 24).drop 24).drop 24).drop 24).drop 24).drop 24).drop 24).take 24).all (fun c => isCode c || c.before args0 about1) = true := by decide +kernel
set_option maxRecDepth 65536 in
theorem w_t9 : (((((((((words1.drop 24).drop 24).drop 24).drop 24).drop 24).drop 24).drop 24).drop 24).take 24).all (fun c => isCode c || c.before args0 about1) = true := by decide +kernel
set_option maxRecDepth 65536 in
theorem w_t10 : (((((((((words1.drop 24).drop 24).drop 24).drop 24).drop 24).drop 24).drop 24).drop 24).drop 24).all (fun c => isCode c || c.before args0 about1) = true := by decide +kernel
theorem w_tables : (allAtoms (Jvm.Cond.code x code maxLocals ret :: tables_1)).before args0 about1 = true := by
  rw [allAtoms_all]
  show words1.all (fun c => c.before args0 about1) = true
  refine all_split ?_ w_codes
  rw [← List.take_append_drop 24 words1, List.all_append, w_t1, ← List.take_append_drop 24 (words1.drop 24), List.all_append, w_t2, ← List.take_append_drop 24 ((words1.drop 24).drop 24), List.all_append, w_t3, ← List.take_append_drop 24 (((words1.drop 24).drop 24).drop 24), List.all_append, w_t4, ← List.take_append_drop 24 ((((words1.drop 24).drop 24).drop 24).drop 24), List.all_append, w_t5, ← List.take_append_drop 24 (((((words1.drop 24).drop 24).drop 24).drop 24).drop 24), List.all_append, w_t6, ← List.take_append_drop 24 ((((((words1.drop 24).drop 24).drop 24).drop 24).drop 24).drop 24), List.all_append, w_t7, ← List.take_append_drop 24 (((((((words1.drop 24).drop 24).drop 24).drop 24).drop 24).drop 24).drop 24), List.all_append, w_t8, ← List.take_append_drop 24 ((((((((words1.drop 24).drop 24).drop 24).drop 24).drop 24).drop 24).drop 24).drop 24), List.all_append, w_t9, w_t10]
  rfl
set_option maxRecDepth 65536 in
theorem w_rest : rest_1_c.before args0 about1 = true := by decide +kernel
set_option maxRecDepth 65536 in
theorem w_case : (Jvm.Cond.and given_1 narrow_1).before args0 about1 = true := by decide +kernel
set_option maxRecDepth 65536 in
theorem w_consts : constsHeld consts_1 about1 := Jvm.Lit.constsHeldB_iff.mp (by decide +kernel)
theorem w_applies : (headSpec (Jvm.Cond.code x code maxLocals ret :: tables_1) room_1).applies x e0.platform about1 = true :=
  (Spec.applies_iff w_frames).mpr ⟨w_running, w_runnable, w_alone, w_named, w_hears, w_ripe, w_room, w_tables⟩
theorem atStart : AtStart classFile x code maxLocals ret World_1 tables_1 room_1 Calls_1 rest_1 Pre_1 launch0 p0 e0 about1 theMethod args0 below0 :=
  ⟨lists_1, trivial, launch0.admits_env _ _ _, launch0.least_env, fairChoices_fair.cas, fairChoices_fair.clock, w_frames, w_args, w_heap, w_applies, ⟨w_consts, trivial⟩, w_rest, w_case⟩
end start1
theorem witness_1 : WitnessClaimed_1 := ⟨start1.p0, start1.e0, start1.about1, start1.theMethod, start1.args0, start1.below0, start1.atStart⟩
end Jvm.Pilot.@@N@@
