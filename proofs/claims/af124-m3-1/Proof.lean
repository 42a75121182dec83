import JvmDerived
import JvmDerived.Pilot.@@N@@Statement
import JvmDerived.Pilot.@@N@@Code
set_option linter.unusedVariables false
set_option linter.unusedSimpArgs false
namespace Jvm.Pilot.@@N@@
open Jvm Jvm.ClassFile Sem Op Lib Jvm.Free Jvm.Stand Jvm.LawKit Jvm.RoadKit Bundle Jvm.Pilot.@@N@@.Jvm.D
/-! ## A small program logic over 'Stand': oGo says that from here the method comes to its end and Q holds there. -/
def oDok (Z : State) (EL : List (String × Nat)) (vm : Vm) (h : Heap) (D : List Addr) : Prop := ∀ x ∈ D, Z.heap.size ≤ x ∧ x < h.size ∧ Safe Z EL vm h x
def oInv (l : Launch) (Z : State) (a0 : Array Value) (EL : List (String × Nat)) (wd : Prop) (p : Program) (e : Env) (s : State) (m : MethodId) (args : Array Value) (below : List Frame) (meth : Method) (c : Code) (R : Room) (own : String) (bytes : ByteArray) (mx : Nat) (rt : Option FieldType) (nm : String)
    (D : List Addr) (h : Heap) (k n : Nat) (T : State) (locs : List Loc) (vm0 : Vm) (k0 : Nat) : Prop :=
  (p.tables.exec = Jvm.exec ∧ c.code = bytes ∧ c.maxLocals = mx ∧ meth.sig.returnType = rt ∧ meth.locks = false ∧ meth.name = nm ∧ EW Z a0 EL) ∧
  T.heap = h ∧ Ext Z.heap h ∧ Fr Z.heap.size locs ∧ Stand p l e R (s.setVm vm0) m args below meth c T locs k n ∧ s.Since vm0 k0 ∧ k0 ≤ h.size ∧ Z.Warmed39 vm0 ∧ vm0.findClass own = some m.cls ∧ CHr Z EL s.vm s.heap vm0 h ∧ (wd ∨ s.WarmedH vm0) ∧ oDok Z EL vm0 h D
def oRes (Z : State) (EL : List (String × Nat)) (wd : Prop) (p : Program) (e : Env) (s : State) (below : List Frame) (R : Room) (Q : Option Value → Heap → Prop) (O : Option Value → Heap → Addr → Prop) (t : State) : Prop :=
  ∃ (V : State) (v : Option Value) (L : List Loc), Steps p.tables e below t V ∧ V.status = .running ∧ Ended V below (.returned v) ∧ (Q v V.heap ∧ ∀ x, O v V.heap x → Z.heap.size ≤ x ∧ x < V.heap.size ∧ Safe Z EL V.vm V.heap x) ∧ Fr Z.heap.size L ∧ Ext Z.heap V.heap ∧ CHr Z EL s.vm s.heap V.vm V.heap ∧ (wd ∨ s.WarmedH V.vm) ∧ ReturnedEndW s (.returned v) V L R.cells R.slots
def oGo (l : Launch) (Z : State) (a0 : Array Value) (EL : List (String × Nat)) (wd : Prop) (p : Program) (e : Env) (s : State) (m : MethodId) (args : Array Value) (below : List Frame) (meth : Method) (c : Code) (R : Room) (own : String) (bytes : ByteArray) (mx : Nat) (rt : Option FieldType) (nm : String)
    (Q : Option Value → Heap → Prop) (O : Option Value → Heap → Addr → Prop) (D : List Addr) (h : Heap) (k n : Nat) (pc : Nat) (Ls : Array Slot) (st : List Value) : Prop :=
  ∀ T locs vm0 k0, oInv l Z a0 EL wd p e s m args below meth c R own bytes mx rt nm D h k n T locs vm0 k0 → oRes Z EL wd p e s below R Q O (T.setTop (mkF m pc Ls st))
def oCtr (ws : List Jvm.Cond) (l : Launch) (Z : State) (a0 : Array Value) (EL : List (String × Nat)) (wd : Prop) (y : MethodName) (bytes : ByteArray) (mx : Nat) (rt : Option FieldType) (rm : Room) (as' : Array Value) (D : List Addr) (h : Heap) (Q : Option Value → Heap → Prop) (O : Option Value → Heap → Addr → Prop) : Prop :=
  MetFree l y (head1 (Cond.code y bytes mx rt :: ws) rm) (fun a U => a = as' ∧ Z.Warmed39 U.vm ∧ U.heap = h ∧ Ext Z.heap h ∧ CHv Z EL U.vm h ∧ oDok Z EL U.vm h D) (fun _ _ _ _ _ => True)
    (fun _ U o U' => ∃ v L, o = .returned v ∧ (Q v U'.heap ∧ ∀ x, O v U'.heap x → Z.heap.size ≤ x ∧ x < U'.heap.size ∧ Safe Z EL U'.vm U'.heap x) ∧ Fr Z.heap.size L ∧ Ext Z.heap U'.heap ∧ CHr Z EL U.vm U.heap U'.vm U'.heap ∧ (wd ∨ U.WarmedH U'.vm) ∧ ReturnedEndW U o U' L rm.cells rm.slots)
abbrev oRet : Option Value → Heap → Addr → Prop := fun v _ x => v = some (.ref x)
abbrev oNo : Option Value → Heap → Addr → Prop := fun _ _ _ => False
section Logic
variable {l : Launch} {Z : State} {a0 : Array Value} {EL : List (String × Nat)} {wd : Prop} {p : Program} {e : Env} {s : State} {m : MethodId} {args : Array Value} {below : List Frame} {meth : Method} {c : Code} {R : Room} {own : String} {bytes : ByteArray} {mx : Nat} {rt : Option FieldType} {nm : String}
  {Q : Option Value → Heap → Prop} {O : Option Value → Heap → Addr → Prop} {D : List Addr} {h : Heap} {k n : Nat} {pc pc' pc1 pc2 : Nat} {Ls Ls' : Array Slot} {st st' : List Value}
theorem oDok.ext {vm : Vm} {h' : Heap} (E : Ext h h') (H : CHv Z EL vm h) (q : oDok Z EL vm h D) : oDok Z EL vm h' D := fun x hx => ⟨(q x hx).1, Nat.lt_of_lt_of_le (q x hx).2.1 E.1, (q x hx).2.2.ext E H⟩
theorem oDok.wr {vm : Vm} {h' : Heap} {a : Addr} {sl : Nat} {v : Value} (W : Wr h h' a sl v) (S : Safe Z EL vm h a) (H : CHv Z EL vm h) (q : oDok Z EL vm h D) : oDok Z EL vm h' D := fun x hx => ⟨(q x hx).1, by rw [W.size]; exact (q x hx).2.1, Safe.wr W S H (q x hx).2.2⟩
theorem oDok.chr {vm vm1 : Vm} {h' : Heap} (A : CHr Z EL vm h vm1 h') (q : oDok Z EL vm h D) : oDok Z EL vm1 h' D := fun x hx => ⟨(q x hx).1, Nat.lt_of_lt_of_le (q x hx).2.1 A.2.1, A.safe (q x hx).2.1 (q x hx).2.2⟩
theorem oDok.sub {vm : Vm} {D' : List Addr} (q : oDok Z EL vm h D) (hs : ∀ x ∈ D', x ∈ D) : oDok Z EL vm h D' := fun x hx => q x (hs x hx)
theorem ext_refl (h : Heap) : Ext h h := ⟨Nat.le_refl _, fun _ _ q => q⟩
theorem ext_trans {h h' h2 : Heap} (A : Ext h h') (B : Ext h' h2) : Ext h h2 := ⟨Nat.le_trans A.1 B.1, fun a c q => B.2 a c (A.2 a c q)⟩
theorem ext_wr {h0 h h' : Heap} {a : Addr} {sl : Nat} {v : Value} (E : Ext h0 h) (W : Wr h h' a sl v) (q : h0.size ≤ a) : Ext h0 h' := by
  refine ⟨by rw [W.size]; exact E.1, fun b cb hb => ?_⟩
  obtain ⟨cb', h1, -, -, -, h5, -⟩ := wr_at W (E.2 b cb hb)
  rw [← h5 (fun e1 => by subst e1; exact absurd (Array.getElem?_eq_some_iff.mp hb).1 (Nat.not_lt.mpr q))]; exact h1
/-- entering -/
theorem oCtr.enter {ws : List Jvm.Cond} {y : MethodName} {rm : Room} {as' : Array Value} (pn : plainFor y = true) (hEW : EW Z a0 EL) (ef : ∀ m, entryFrame m as' mx = mkF m 0 Ls [])
    (g : ∀ (p : Program) (e : Env) (s : State) (m : MethodId) (below : List Frame) (meth : Method) (c : Code), oGo l Z a0 EL wd p e s m as' below meth c rm y.cls bytes mx rt y.name Q O D h 0 0 0 Ls []) : oCtr ws l Z a0 EL wd y bytes mx rt rm as' D h Q O := by
  refine MetFree.of_bodySF pn hisR ?_
  intro p e s m args below meth c s₁ Bd hml0 hP hK
  obtain ⟨rfl, hZ, hh, hE, hC, hD⟩ := hP
  have X0 : Stand p l e rm s m args below meth c s₁ [] 0 0 := Stand.of_body Bd
  have e0 : s₁.heap = h := by rw [← hh, Bd.state]; rfl
  have hown : s.vm.findClass y.cls = some m.cls := findClass_of_methodNamed Bd.named
  have hnm := (name_of_methodNamed Bd.named Bd.method).1
  obtain ⟨V, v, L, h1, h2, h3, h4, h5, h6, h7, h8, h9⟩ := g p e s m below meth c s₁ [] s.vm s.heap.size ⟨⟨Bd.exec, Bd.bytes, hml0, Bd.returns, Bd.notSynchronized, hnm, hEW⟩, e0, hE, Fr.nil _, X0, (State.WarmedH.refl s).since _, by rw [hh]; exact Nat.le_refl _, hZ, hown, by rw [hh]; exact CHr.refl hC, Or.inr (State.WarmedH.refl s), hD⟩
  exact ⟨V, .returned v, by rw [ef]; exact h1, h2, h3, v, L, rfl, h4, h5, h6, h7, h8, h9⟩
/-- steps that touch neither heap nor tables -/
theorem oGo.pure (H : ∀ T : State, At T m c below → c.code = bytes → p.tables.exec = Jvm.exec → ∀ t, Steps p.tables e below (T.setTop (mkF m pc' Ls' st')) t → Steps p.tables e below (T.setTop (mkF m pc Ls st)) t)
    (g : oGo l Z a0 EL wd p e s m args below meth c R own bytes mx rt nm Q O D h k n pc' Ls' st') : oGo l Z a0 EL wd p e s m args below meth c R own bytes mx rt nm Q O D h k n pc Ls st := by
  intro T locs vm0 k0 I
  obtain ⟨V, v, L, hs, r⟩ := g T locs vm0 k0 I
  obtain ⟨⟨hx, hb, -⟩, -, -, -, X, -⟩ := I
  exact ⟨V, v, L, H T X.here hb hx V hs, r⟩
def oSl (o : Slot) : Prop := o = .unset ∨ ∃ w : Value, o = .val w ∧ w.category = 1
theorem oGo.aload {i : Nat} {v : Value} (hd : decode bytes pc = .ok (.aload i, 2)) (hp : pc + 2 = pc') (hl : Ls[i]? = some (.val v)) (hv : v.isRef = true) (g : oGo l Z a0 EL wd p e s m args below meth c R own bytes mx rt nm Q O D h k n pc' Ls (v :: st)) : oGo l Z a0 EL wd p e s m args below meth c R own bytes mx rt nm Q O D h k n pc Ls (st) := by
  subst hp; exact oGo.pure (fun T hA hb hx t hr => XS.aload hA hx rfl (by rw [hb]; exact hd) hl hv hr) g
theorem oGo.aload_n {i : Fin 4} {v : Value} (hd : decode bytes pc = .ok (.aload_n i, 1)) (hp : pc + 1 = pc') (hl : Ls[i.val]? = some (.val v)) (hv : v.isRef = true) (g : oGo l Z a0 EL wd p e s m args below meth c R own bytes mx rt nm Q O D h k n pc' Ls (v :: st)) : oGo l Z a0 EL wd p e s m args below meth c R own bytes mx rt nm Q O D h k n pc Ls (st) := by
  subst hp; exact oGo.pure (fun T hA hb hx t hr => XS.aloadN hA hx rfl (by rw [hb]; exact hd) hl hv hr) g
theorem oGo.iload {i : Nat} {v : Int32} (hd : decode bytes pc = .ok (.iload i, 2)) (hp : pc + 2 = pc') (hl : Ls[i]? = some (.val (.int v))) (g : oGo l Z a0 EL wd p e s m args below meth c R own bytes mx rt nm Q O D h k n pc' Ls (.int v :: st)) : oGo l Z a0 EL wd p e s m args below meth c R own bytes mx rt nm Q O D h k n pc Ls (st) := by
  subst hp; exact oGo.pure (fun T hA hb hx t hr => XS.iload hA hx rfl (by rw [hb]; exact hd) hl hr) g
theorem oGo.iload_n {i : Fin 4} {v : Int32} (hd : decode bytes pc = .ok (.iload_n i, 1)) (hp : pc + 1 = pc') (hl : Ls[i.val]? = some (.val (.int v))) (g : oGo l Z a0 EL wd p e s m args below meth c R own bytes mx rt nm Q O D h k n pc' Ls (.int v :: st)) : oGo l Z a0 EL wd p e s m args below meth c R own bytes mx rt nm Q O D h k n pc Ls (st) := by
  subst hp; exact oGo.pure (fun T hA hb hx t hr => XS.iloadN hA hx rfl (by rw [hb]; exact hd) hl hr) g
theorem oGo.istore {i : Nat} {v : Int32} (hd : decode bytes pc = .ok (.istore i, 2)) (hp : pc + 2 = pc') (hl : storeLocals Ls i (.int v) = some Ls') (g : oGo l Z a0 EL wd p e s m args below meth c R own bytes mx rt nm Q O D h k n pc' Ls' (st)) : oGo l Z a0 EL wd p e s m args below meth c R own bytes mx rt nm Q O D h k n pc Ls (.int v :: st) := by
  subst hp; exact oGo.pure (fun T hA hb hx t hr => XS.istore hA hx rfl (by rw [hb]; exact hd) rfl hl hr) g
theorem oGo.istore_n {i : Fin 4} {v : Int32} (hd : decode bytes pc = .ok (.istore_n i, 1)) (hp : pc + 1 = pc') (hl : storeLocals Ls i.val (.int v) = some Ls') (g : oGo l Z a0 EL wd p e s m args below meth c R own bytes mx rt nm Q O D h k n pc' Ls' (st)) : oGo l Z a0 EL wd p e s m args below meth c R own bytes mx rt nm Q O D h k n pc Ls (.int v :: st) := by
  subst hp; exact oGo.pure (fun T hA hb hx t hr => XS.istoreN hA hx rfl (by rw [hb]; exact hd) rfl hl hr) g
theorem oGo.lload {i : Nat} {v : Int64} (hd : decode bytes pc = .ok (.lload i, 2)) (hp : pc + 2 = pc') (hl : Ls[i]? = some (.val (.long v))) (g : oGo l Z a0 EL wd p e s m args below meth c R own bytes mx rt nm Q O D h k n pc' Ls (.long v :: st)) : oGo l Z a0 EL wd p e s m args below meth c R own bytes mx rt nm Q O D h k n pc Ls (st) := by
  subst hp; exact oGo.pure (fun T hA hb hx t hr => XT.lload hA hx rfl (by rw [hb]; exact hd) hl hr) g
theorem oGo.lload_n {i : Fin 4} {v : Int64} (hd : decode bytes pc = .ok (.lload_n i, 1)) (hp : pc + 1 = pc') (hl : Ls[i.val]? = some (.val (.long v))) (g : oGo l Z a0 EL wd p e s m args below meth c R own bytes mx rt nm Q O D h k n pc' Ls (.long v :: st)) : oGo l Z a0 EL wd p e s m args below meth c R own bytes mx rt nm Q O D h k n pc Ls (st) := by
  subst hp; exact oGo.pure (fun T hA hb hx t hr => XT.lloadN hA hx rfl (by rw [hb]; exact hd) hl hr) g
theorem oGo.lstore {i : Nat} {v : Int64} (hd : decode bytes pc = .ok (.lstore i, 2)) (hp : pc + 2 = pc') (hl : storeLocals Ls i (.long v) = some Ls') (g : oGo l Z a0 EL wd p e s m args below meth c R own bytes mx rt nm Q O D h k n pc' Ls' (st)) : oGo l Z a0 EL wd p e s m args below meth c R own bytes mx rt nm Q O D h k n pc Ls (.long v :: st) := by
  subst hp; exact oGo.pure (fun T hA hb hx t hr => XT.lstore hA hx rfl (by rw [hb]; exact hd) rfl hl hr) g
theorem oGo.lstore_n {i : Fin 4} {v : Int64} (hd : decode bytes pc = .ok (.lstore_n i, 1)) (hp : pc + 1 = pc') (hl : storeLocals Ls i.val (.long v) = some Ls') (g : oGo l Z a0 EL wd p e s m args below meth c R own bytes mx rt nm Q O D h k n pc' Ls' (st)) : oGo l Z a0 EL wd p e s m args below meth c R own bytes mx rt nm Q O D h k n pc Ls (.long v :: st) := by
  subst hp; exact oGo.pure (fun T hA hb hx t hr => XT.lstoreN hA hx rfl (by rw [hb]; exact hd) rfl hl hr) g
theorem oGo.astore {i : Nat} {v : Value} (hd : decode bytes pc = .ok (.astore i, 2)) (hp : pc + 2 = pc') (hv : v.isRef = true) (hl : storeLocals Ls i v = some Ls') (g : oGo l Z a0 EL wd p e s m args below meth c R own bytes mx rt nm Q O D h k n pc' Ls' (st)) : oGo l Z a0 EL wd p e s m args below meth c R own bytes mx rt nm Q O D h k n pc Ls (v :: st) := by
  subst hp; exact oGo.pure (fun T hA hb hx t hr => XS.astore hA hx rfl (by rw [hb]; exact hd) rfl hv hl hr) g
theorem oGo.astore_n {i : Fin 4} {v : Value} (hd : decode bytes pc = .ok (.astore_n i, 1)) (hp : pc + 1 = pc') (hv : v.isRef = true) (hl : storeLocals Ls i.val v = some Ls') (g : oGo l Z a0 EL wd p e s m args below meth c R own bytes mx rt nm Q O D h k n pc' Ls' (st)) : oGo l Z a0 EL wd p e s m args below meth c R own bytes mx rt nm Q O D h k n pc Ls (v :: st) := by
  subst hp; exact oGo.pure (fun T hA hb hx t hr => XS.astoreN hA hx rfl (by rw [hb]; exact hd) rfl hv hl hr) g
theorem oGo.istoreS {i : Nat} {v : Int32} {o : Slot} (hd : decode bytes pc = .ok (.istore i, 2)) (hp : pc + 2 = pc') (ho : oSl o) (hold : Ls[i]? = some o) (hl : Ls.setIfInBounds i (.val (.int v)) = Ls') (g : oGo l Z a0 EL wd p e s m args below meth c R own bytes mx rt nm Q O D h k n pc' Ls' st) : oGo l Z a0 EL wd p e s m args below meth c R own bytes mx rt nm Q O D h k n pc Ls (.int v :: st) := by
  subst hp hl; exact oGo.pure (fun T hA hb hx t hr => XS.istore hA hx rfl (by rw [hb]; exact hd) rfl (XS.store1 hold ho rfl) hr) g
theorem oGo.istore_nS {i : Fin 4} {v : Int32} {o : Slot} (hd : decode bytes pc = .ok (.istore_n i, 1)) (hp : pc + 1 = pc') (ho : oSl o) (hold : Ls[i.val]? = some o) (hl : Ls.setIfInBounds i.val (.val (.int v)) = Ls') (g : oGo l Z a0 EL wd p e s m args below meth c R own bytes mx rt nm Q O D h k n pc' Ls' st) : oGo l Z a0 EL wd p e s m args below meth c R own bytes mx rt nm Q O D h k n pc Ls (.int v :: st) := by
  subst hp hl; exact oGo.pure (fun T hA hb hx t hr => XS.istoreN hA hx rfl (by rw [hb]; exact hd) rfl (XS.store1 hold ho rfl) hr) g
theorem oGo.astoreS {i : Nat} {v : Value} {o : Slot} (hd : decode bytes pc = .ok (.astore i, 2)) (hp : pc + 2 = pc') (hv : v.isRef = true) (hc : v.category = 1) (ho : oSl o) (hold : Ls[i]? = some o) (hl : Ls.setIfInBounds i (.val (v)) = Ls') (g : oGo l Z a0 EL wd p e s m args below meth c R own bytes mx rt nm Q O D h k n pc' Ls' st) : oGo l Z a0 EL wd p e s m args below meth c R own bytes mx rt nm Q O D h k n pc Ls (v :: st) := by
  subst hp hl; exact oGo.pure (fun T hA hb hx t hr => XS.astore hA hx rfl (by rw [hb]; exact hd) rfl hv (XS.store1 hold ho hc) hr) g
theorem oGo.astore_nS {i : Fin 4} {v : Value} {o : Slot} (hd : decode bytes pc = .ok (.astore_n i, 1)) (hp : pc + 1 = pc') (hv : v.isRef = true) (hc : v.category = 1) (ho : oSl o) (hold : Ls[i.val]? = some o) (hl : Ls.setIfInBounds i.val (.val (v)) = Ls') (g : oGo l Z a0 EL wd p e s m args below meth c R own bytes mx rt nm Q O D h k n pc' Ls' st) : oGo l Z a0 EL wd p e s m args below meth c R own bytes mx rt nm Q O D h k n pc Ls (v :: st) := by
  subst hp hl; exact oGo.pure (fun T hA hb hx t hr => XS.astoreN hA hx rfl (by rw [hb]; exact hd) rfl hv (XS.store1 hold ho hc) hr) g
theorem oGo.iconst {i : Int} {v : Int32} (hd : decode bytes pc = .ok (.iconst i, 1)) (hp : pc + 1 = pc') (hv : Int32.ofInt i = v) (g : oGo l Z a0 EL wd p e s m args below meth c R own bytes mx rt nm Q O D h k n pc' Ls (.int v :: st)) : oGo l Z a0 EL wd p e s m args below meth c R own bytes mx rt nm Q O D h k n pc Ls (st) := by
  subst hp; subst hv; exact oGo.pure (fun T hA hb hx t hr => XS.iconst hA hx rfl (by rw [hb]; exact hd)  hr) g
theorem oGo.bipush {i : Int} {v : Int32} (hd : decode bytes pc = .ok (.bipush i, 2)) (hp : pc + 2 = pc') (hv : (Int8.ofInt i).toInt32 = v) (g : oGo l Z a0 EL wd p e s m args below meth c R own bytes mx rt nm Q O D h k n pc' Ls (.int v :: st)) : oGo l Z a0 EL wd p e s m args below meth c R own bytes mx rt nm Q O D h k n pc Ls (st) := by
  subst hp; subst hv; exact oGo.pure (fun T hA hb hx t hr => XS.bipush hA hx rfl (by rw [hb]; exact hd)  hr) g
theorem oGo.sipush {i : Int} {v : Int32} (hd : decode bytes pc = .ok (.sipush i, 3)) (hp : pc + 3 = pc') (hv : (Int16.ofInt i).toInt32 = v) (g : oGo l Z a0 EL wd p e s m args below meth c R own bytes mx rt nm Q O D h k n pc' Ls (.int v :: st)) : oGo l Z a0 EL wd p e s m args below meth c R own bytes mx rt nm Q O D h k n pc Ls (st) := by
  subst hp; subst hv; exact oGo.pure (fun T hA hb hx t hr => XS.sipush hA hx rfl (by rw [hb]; exact hd)  hr) g
theorem oGo.lconst {i : Fin 2} {v : Int64} (hd : decode bytes pc = .ok (.lconst i, 1)) (hp : pc + 1 = pc') (hv : Int64.ofNat i = v) (g : oGo l Z a0 EL wd p e s m args below meth c R own bytes mx rt nm Q O D h k n pc' Ls (.long v :: st)) : oGo l Z a0 EL wd p e s m args below meth c R own bytes mx rt nm Q O D h k n pc Ls (st) := by
  subst hp; subst hv; exact oGo.pure (fun T hA hb hx t hr => XT.lconst hA hx rfl (by rw [hb]; exact hd)  hr) g
theorem oGo.aconst_null  (hd : decode bytes pc = .ok (.aconst_null, 1)) (hp : pc + 1 = pc') (g : oGo l Z a0 EL wd p e s m args below meth c R own bytes mx rt nm Q O D h k n pc' Ls (.null :: st)) : oGo l Z a0 EL wd p e s m args below meth c R own bytes mx rt nm Q O D h k n pc Ls (st) := by
  subst hp; exact oGo.pure (fun T hA hb hx t hr => XS.aconstNull hA hx rfl (by rw [hb]; exact hd)  hr) g
theorem oGo.iadd {x y : Int32} (hd : decode bytes pc = .ok (.iadd, 1)) (hp : pc + 1 = pc') (g : oGo l Z a0 EL wd p e s m args below meth c R own bytes mx rt nm Q O D h k n pc' Ls (.int (x + y) :: st)) : oGo l Z a0 EL wd p e s m args below meth c R own bytes mx rt nm Q O D h k n pc Ls (.int y :: .int x :: st) := by
  subst hp; exact oGo.pure (fun T hA hb hx t hr => XS.iadd hA hx rfl (by rw [hb]; exact hd) rfl hr) g
theorem oGo.ladd {x y : Int64} (hd : decode bytes pc = .ok (.ladd, 1)) (hp : pc + 1 = pc') (g : oGo l Z a0 EL wd p e s m args below meth c R own bytes mx rt nm Q O D h k n pc' Ls (.long (x + y) :: st)) : oGo l Z a0 EL wd p e s m args below meth c R own bytes mx rt nm Q O D h k n pc Ls (.long y :: .long x :: st) := by
  subst hp; exact oGo.pure (fun T hA hb hx t hr => XT.ladd hA hx rfl (by rw [hb]; exact hd) rfl hr) g
theorem oGo.isub {x y : Int32} (hd : decode bytes pc = .ok (.isub, 1)) (hp : pc + 1 = pc') (g : oGo l Z a0 EL wd p e s m args below meth c R own bytes mx rt nm Q O D h k n pc' Ls (.int (x - y) :: st)) : oGo l Z a0 EL wd p e s m args below meth c R own bytes mx rt nm Q O D h k n pc Ls (.int y :: .int x :: st) := by
  subst hp; exact oGo.pure (fun T hA hb hx t hr => XS.isub hA hx rfl (by rw [hb]; exact hd) rfl hr) g
theorem oGo.lsub {x y : Int64} (hd : decode bytes pc = .ok (.lsub, 1)) (hp : pc + 1 = pc') (g : oGo l Z a0 EL wd p e s m args below meth c R own bytes mx rt nm Q O D h k n pc' Ls (.long (x - y) :: st)) : oGo l Z a0 EL wd p e s m args below meth c R own bytes mx rt nm Q O D h k n pc Ls (.long y :: .long x :: st) := by
  subst hp; exact oGo.pure (fun T hA hb hx t hr => XT.lsub hA hx rfl (by rw [hb]; exact hd) rfl hr) g
theorem oGo.imul {x y : Int32} (hd : decode bytes pc = .ok (.imul, 1)) (hp : pc + 1 = pc') (g : oGo l Z a0 EL wd p e s m args below meth c R own bytes mx rt nm Q O D h k n pc' Ls (.int (x * y) :: st)) : oGo l Z a0 EL wd p e s m args below meth c R own bytes mx rt nm Q O D h k n pc Ls (.int y :: .int x :: st) := by
  subst hp; exact oGo.pure (fun T hA hb hx t hr => XS.imul hA hx rfl (by rw [hb]; exact hd) rfl hr) g
theorem oGo.lmul {x y : Int64} (hd : decode bytes pc = .ok (.lmul, 1)) (hp : pc + 1 = pc') (g : oGo l Z a0 EL wd p e s m args below meth c R own bytes mx rt nm Q O D h k n pc' Ls (.long (x * y) :: st)) : oGo l Z a0 EL wd p e s m args below meth c R own bytes mx rt nm Q O D h k n pc Ls (.long y :: .long x :: st) := by
  subst hp; exact oGo.pure (fun T hA hb hx t hr => XT.lmul hA hx rfl (by rw [hb]; exact hd) rfl hr) g
theorem oGo.iand {x y : Int32} (hd : decode bytes pc = .ok (.iand, 1)) (hp : pc + 1 = pc') (g : oGo l Z a0 EL wd p e s m args below meth c R own bytes mx rt nm Q O D h k n pc' Ls (.int (x &&& y) :: st)) : oGo l Z a0 EL wd p e s m args below meth c R own bytes mx rt nm Q O D h k n pc Ls (.int y :: .int x :: st) := by
  subst hp; exact oGo.pure (fun T hA hb hx t hr => XS.iand hA hx rfl (by rw [hb]; exact hd) rfl hr) g
theorem oGo.land {x y : Int64} (hd : decode bytes pc = .ok (.land, 1)) (hp : pc + 1 = pc') (g : oGo l Z a0 EL wd p e s m args below meth c R own bytes mx rt nm Q O D h k n pc' Ls (.long (x &&& y) :: st)) : oGo l Z a0 EL wd p e s m args below meth c R own bytes mx rt nm Q O D h k n pc Ls (.long y :: .long x :: st) := by
  subst hp; exact oGo.pure (fun T hA hb hx t hr => XT.land hA hx rfl (by rw [hb]; exact hd) rfl hr) g
theorem oGo.ior {x y : Int32} (hd : decode bytes pc = .ok (.ior, 1)) (hp : pc + 1 = pc') (g : oGo l Z a0 EL wd p e s m args below meth c R own bytes mx rt nm Q O D h k n pc' Ls (.int (x ||| y) :: st)) : oGo l Z a0 EL wd p e s m args below meth c R own bytes mx rt nm Q O D h k n pc Ls (.int y :: .int x :: st) := by
  subst hp; exact oGo.pure (fun T hA hb hx t hr => XT.ior hA hx rfl (by rw [hb]; exact hd) rfl hr) g
theorem oGo.lor {x y : Int64} (hd : decode bytes pc = .ok (.lor, 1)) (hp : pc + 1 = pc') (g : oGo l Z a0 EL wd p e s m args below meth c R own bytes mx rt nm Q O D h k n pc' Ls (.long (x ||| y) :: st)) : oGo l Z a0 EL wd p e s m args below meth c R own bytes mx rt nm Q O D h k n pc Ls (.long y :: .long x :: st) := by
  subst hp; exact oGo.pure (fun T hA hb hx t hr => XT.lor hA hx rfl (by rw [hb]; exact hd) rfl hr) g
theorem oGo.ixor {x y : Int32} (hd : decode bytes pc = .ok (.ixor, 1)) (hp : pc + 1 = pc') (g : oGo l Z a0 EL wd p e s m args below meth c R own bytes mx rt nm Q O D h k n pc' Ls (.int (x ^^^ y) :: st)) : oGo l Z a0 EL wd p e s m args below meth c R own bytes mx rt nm Q O D h k n pc Ls (.int y :: .int x :: st) := by
  subst hp; exact oGo.pure (fun T hA hb hx t hr => XT.ixor hA hx rfl (by rw [hb]; exact hd) rfl hr) g
theorem oGo.lxor {x y : Int64} (hd : decode bytes pc = .ok (.lxor, 1)) (hp : pc + 1 = pc') (g : oGo l Z a0 EL wd p e s m args below meth c R own bytes mx rt nm Q O D h k n pc' Ls (.long (x ^^^ y) :: st)) : oGo l Z a0 EL wd p e s m args below meth c R own bytes mx rt nm Q O D h k n pc Ls (.long y :: .long x :: st) := by
  subst hp; exact oGo.pure (fun T hA hb hx t hr => XT.lxor hA hx rfl (by rw [hb]; exact hd) rfl hr) g
theorem oGo.ishl {x y : Int32} (hd : decode bytes pc = .ok (.ishl, 1)) (hp : pc + 1 = pc') (g : oGo l Z a0 EL wd p e s m args below meth c R own bytes mx rt nm Q O D h k n pc' Ls (.int (x <<< (y &&& 31)) :: st)) : oGo l Z a0 EL wd p e s m args below meth c R own bytes mx rt nm Q O D h k n pc Ls (.int y :: .int x :: st) := by
  subst hp; exact oGo.pure (fun T hA hb hx t hr => XT.ishl hA hx rfl (by rw [hb]; exact hd) rfl hr) g
theorem oGo.ishr {x y : Int32} (hd : decode bytes pc = .ok (.ishr, 1)) (hp : pc + 1 = pc') (g : oGo l Z a0 EL wd p e s m args below meth c R own bytes mx rt nm Q O D h k n pc' Ls (.int (x >>> (y &&& 31)) :: st)) : oGo l Z a0 EL wd p e s m args below meth c R own bytes mx rt nm Q O D h k n pc Ls (.int y :: .int x :: st) := by
  subst hp; exact oGo.pure (fun T hA hb hx t hr => XT.ishr hA hx rfl (by rw [hb]; exact hd) rfl hr) g
theorem oGo.iushr {x y : Int32} (hd : decode bytes pc = .ok (.iushr, 1)) (hp : pc + 1 = pc') (g : oGo l Z a0 EL wd p e s m args below meth c R own bytes mx rt nm Q O D h k n pc' Ls (.int (XT.ushr x y) :: st)) : oGo l Z a0 EL wd p e s m args below meth c R own bytes mx rt nm Q O D h k n pc Ls (.int y :: .int x :: st) := by
  subst hp; exact oGo.pure (fun T hA hb hx t hr => XT.iushr hA hx rfl (by rw [hb]; exact hd) rfl hr) g
theorem oGo.idiv {x y : Int32} (hd : decode bytes pc = .ok (.idiv, 1)) (hp : pc + 1 = pc') (hy : y ≠ 0) (g : oGo l Z a0 EL wd p e s m args below meth c R own bytes mx rt nm Q O D h k n pc' Ls (.int (x / y) :: st)) : oGo l Z a0 EL wd p e s m args below meth c R own bytes mx rt nm Q O D h k n pc Ls (.int y :: .int x :: st) := by
  subst hp; exact oGo.pure (fun T hA hb hx t hr => XS.idiv hA hx rfl (by rw [hb]; exact hd) rfl hy hr) g
theorem oGo.ldiv {x y : Int64} (hd : decode bytes pc = .ok (.ldiv, 1)) (hp : pc + 1 = pc') (hy : y ≠ 0) (g : oGo l Z a0 EL wd p e s m args below meth c R own bytes mx rt nm Q O D h k n pc' Ls (.long (x / y) :: st)) : oGo l Z a0 EL wd p e s m args below meth c R own bytes mx rt nm Q O D h k n pc Ls (.long y :: .long x :: st) := by
  subst hp; exact oGo.pure (fun T hA hb hx t hr => XT.ldiv hA hx rfl (by rw [hb]; exact hd) rfl hy hr) g
theorem oGo.irem {x y : Int32} (hd : decode bytes pc = .ok (.irem, 1)) (hp : pc + 1 = pc') (hy : y ≠ 0) (g : oGo l Z a0 EL wd p e s m args below meth c R own bytes mx rt nm Q O D h k n pc' Ls (.int (x % y) :: st)) : oGo l Z a0 EL wd p e s m args below meth c R own bytes mx rt nm Q O D h k n pc Ls (.int y :: .int x :: st) := by
  subst hp; rw [← irem_eq_mod] at g; exact oGo.pure (fun T hA hb hx t hr => XS.irem hA hx rfl (by rw [hb]; exact hd) rfl hy hr) g
theorem oGo.lrem {x y : Int64} (hd : decode bytes pc = .ok (.lrem, 1)) (hp : pc + 1 = pc') (hy : y ≠ 0) (g : oGo l Z a0 EL wd p e s m args below meth c R own bytes mx rt nm Q O D h k n pc' Ls (.long (x - x / y * y) :: st)) : oGo l Z a0 EL wd p e s m args below meth c R own bytes mx rt nm Q O D h k n pc Ls (.long y :: .long x :: st) := by
  subst hp; exact oGo.pure (fun T hA hb hx t hr => XT.lrem hA hx rfl (by rw [hb]; exact hd) rfl hy hr) g
theorem oGo.ineg {x : Int32} (hd : decode bytes pc = .ok (.ineg, 1)) (hp : pc + 1 = pc') (g : oGo l Z a0 EL wd p e s m args below meth c R own bytes mx rt nm Q O D h k n pc' Ls (.int (-x) :: st)) : oGo l Z a0 EL wd p e s m args below meth c R own bytes mx rt nm Q O D h k n pc Ls (.int x :: st) := by
  subst hp; exact oGo.pure (fun T hA hb hx t hr => XS.ineg hA hx rfl (by rw [hb]; exact hd) rfl hr) g
theorem oGo.lneg {x : Int64} (hd : decode bytes pc = .ok (.lneg, 1)) (hp : pc + 1 = pc') (g : oGo l Z a0 EL wd p e s m args below meth c R own bytes mx rt nm Q O D h k n pc' Ls (.long (-x) :: st)) : oGo l Z a0 EL wd p e s m args below meth c R own bytes mx rt nm Q O D h k n pc Ls (.long x :: st) := by
  subst hp; exact oGo.pure (fun T hA hb hx t hr => XT.lneg hA hx rfl (by rw [hb]; exact hd) rfl hr) g
theorem oGo.i2l {x : Int32} (hd : decode bytes pc = .ok (.i2l, 1)) (hp : pc + 1 = pc') (g : oGo l Z a0 EL wd p e s m args below meth c R own bytes mx rt nm Q O D h k n pc' Ls (.long x.toInt64 :: st)) : oGo l Z a0 EL wd p e s m args below meth c R own bytes mx rt nm Q O D h k n pc Ls (.int x :: st) := by
  subst hp; exact oGo.pure (fun T hA hb hx t hr => XT.i2l hA hx rfl (by rw [hb]; exact hd) rfl hr) g
theorem oGo.l2i {x : Int64} (hd : decode bytes pc = .ok (.l2i, 1)) (hp : pc + 1 = pc') (g : oGo l Z a0 EL wd p e s m args below meth c R own bytes mx rt nm Q O D h k n pc' Ls (.int x.toInt32 :: st)) : oGo l Z a0 EL wd p e s m args below meth c R own bytes mx rt nm Q O D h k n pc Ls (.long x :: st) := by
  subst hp; exact oGo.pure (fun T hA hb hx t hr => XT.l2i hA hx rfl (by rw [hb]; exact hd) rfl hr) g
theorem oGo.i2b {x : Int32} (hd : decode bytes pc = .ok (.i2b, 1)) (hp : pc + 1 = pc') (g : oGo l Z a0 EL wd p e s m args below meth c R own bytes mx rt nm Q O D h k n pc' Ls (.int x.toInt8.toInt32 :: st)) : oGo l Z a0 EL wd p e s m args below meth c R own bytes mx rt nm Q O D h k n pc Ls (.int x :: st) := by
  subst hp; exact oGo.pure (fun T hA hb hx t hr => XT.i2b hA hx rfl (by rw [hb]; exact hd) rfl hr) g
theorem oGo.i2c {x : Int32} (hd : decode bytes pc = .ok (.i2c, 1)) (hp : pc + 1 = pc') (g : oGo l Z a0 EL wd p e s m args below meth c R own bytes mx rt nm Q O D h k n pc' Ls (.int x.toUInt32.toUInt16.toUInt32.toInt32 :: st)) : oGo l Z a0 EL wd p e s m args below meth c R own bytes mx rt nm Q O D h k n pc Ls (.int x :: st) := by
  subst hp; exact oGo.pure (fun T hA hb hx t hr => XT.i2c hA hx rfl (by rw [hb]; exact hd) rfl hr) g
theorem oGo.lcmp {x y : Int64} (hd : decode bytes pc = .ok (.lcmp, 1)) (hp : pc + 1 = pc') (g : oGo l Z a0 EL wd p e s m args below meth c R own bytes mx rt nm Q O D h k n pc' Ls (.int (XT.cmpL x y) :: st)) : oGo l Z a0 EL wd p e s m args below meth c R own bytes mx rt nm Q O D h k n pc Ls (.long y :: .long x :: st) := by
  subst hp; exact oGo.pure (fun T hA hb hx t hr => XT.lcmp hA hx rfl (by rw [hb]; exact hd) rfl hr) g
theorem oGo.iinc {i : Nat} {d : Int} {x y : Int32} (hd : decode bytes pc = .ok (.iinc i d, 3)) (hp : pc + 3 = pc') (hl : Ls[i]? = some (.val (.int x))) (hv : Int32.ofInt d = y) (hl' : storeLocals Ls i (.int (x + y)) = some Ls') (g : oGo l Z a0 EL wd p e s m args below meth c R own bytes mx rt nm Q O D h k n pc' Ls' (st)) : oGo l Z a0 EL wd p e s m args below meth c R own bytes mx rt nm Q O D h k n pc Ls (st) := by
  subst hp; exact oGo.pure (fun T hA hb hx t hr => XS.iinc hA hx rfl (by rw [hb]; exact hd) hl (by rw [hv]; exact hl') hr) g
theorem oGo.dup {v : Value} (hd : decode bytes pc = .ok (.dup, 1)) (hp : pc + 1 = pc') (hc : v.category = 1) (g : oGo l Z a0 EL wd p e s m args below meth c R own bytes mx rt nm Q O D h k n pc' Ls (v :: v :: st)) : oGo l Z a0 EL wd p e s m args below meth c R own bytes mx rt nm Q O D h k n pc Ls (v :: st) := by
  subst hp; exact oGo.pure (fun T hA hb hx t hr => XS.dup hA hx rfl (by rw [hb]; exact hd) rfl hc hr) g
theorem oGo.pop {v : Value} (hd : decode bytes pc = .ok (.pop, 1)) (hp : pc + 1 = pc') (hc : v.category = 1) (g : oGo l Z a0 EL wd p e s m args below meth c R own bytes mx rt nm Q O D h k n pc' Ls (st)) : oGo l Z a0 EL wd p e s m args below meth c R own bytes mx rt nm Q O D h k n pc Ls (v :: st) := by
  subst hp; exact oGo.pure (fun T hA hb hx t hr => XT.pop hA hx rfl (by rw [hb]; exact hd) rfl hc hr) g
theorem oGo.dup_x1 {v w : Value} (hd : decode bytes pc = .ok (.dup_x1, 1)) (hp : pc + 1 = pc') (hc : v.category = 1) (hc' : w.category = 1) (g : oGo l Z a0 EL wd p e s m args below meth c R own bytes mx rt nm Q O D h k n pc' Ls (v :: w :: v :: st)) : oGo l Z a0 EL wd p e s m args below meth c R own bytes mx rt nm Q O D h k n pc Ls (v :: w :: st) := by
  subst hp; exact oGo.pure (fun T hA hb hx t hr => XT.dupX1 hA hx rfl (by rw [hb]; exact hd) rfl hc hc' hr) g
theorem oGo.dup2 {v w : Value} (hd : decode bytes pc = .ok (.dup2, 1)) (hp : pc + 1 = pc') (hc : v.category = 1) (hc' : w.category = 1) (g : oGo l Z a0 EL wd p e s m args below meth c R own bytes mx rt nm Q O D h k n pc' Ls (v :: w :: v :: w :: st)) : oGo l Z a0 EL wd p e s m args below meth c R own bytes mx rt nm Q O D h k n pc Ls (v :: w :: st) := by
  subst hp; exact oGo.pure (fun T hA hb hx t hr => XT.dup2 hA hx rfl (by rw [hb]; exact hd) rfl hc hc' hr) g
theorem oGo.goto {o : Int} (hd : decode bytes pc = .ok (.goto o, 3)) (ho : (pc : Int) + o = (pc' : Int)) (g : oGo l Z a0 EL wd p e s m args below meth c R own bytes mx rt nm Q O D h k n pc' Ls st) : oGo l Z a0 EL wd p e s m args below meth c R own bytes mx rt nm Q O D h k n pc Ls st :=
  oGo.pure (fun T hA hb hx t hr => XS.goto hA hx rfl (pc0 := pc) (pc' := pc') rfl (by rw [hb]; exact hd) (by omega) (by omega) hr) g
theorem own_icmp_eq {x y : Int32} : if_icmp.holds .eq x y = true ↔ x = y := by simp [if_icmp.holds, Int32.not_lt]
theorem own_icmp_eqN {x y : Int32} : if_icmp.holds .eq x y = false ↔ ¬ x = y := by simp [if_icmp.holds, Int32.not_lt]
theorem oGo.icmp_eq {x y : Int32} {o : Int} (hd : decode bytes pc = .ok (.if_icmp .eq o, 3)) (hp : pc + 3 = pc1) (ho : (pc : Int) + o = (pc2 : Int)) (gy : x = y → oGo l Z a0 EL wd p e s m args below meth c R own bytes mx rt nm Q O D h k n pc2 Ls st) (gn : ¬ x = y → oGo l Z a0 EL wd p e s m args below meth c R own bytes mx rt nm Q O D h k n pc1 Ls st) : oGo l Z a0 EL wd p e s m args below meth c R own bytes mx rt nm Q O D h k n pc Ls (.int y :: .int x :: st) := by
  subst hp
  by_cases q : x = y
  · exact oGo.pure (fun T hA hb hx t hr => XS.icmpYes hA hx rfl (pc0 := pc) (pc' := pc2) rfl (by rw [hb]; exact hd) rfl (own_icmp_eq.2 q) (by omega) (by omega) hr) (gy q)
  · exact oGo.pure (fun T hA hb hx t hr => XS.icmpNo hA hx rfl (by rw [hb]; exact hd) rfl (own_icmp_eqN.2 q) hr) (gn q)
theorem own_icmp_ne {x y : Int32} : if_icmp.holds .ne x y = true ↔ ¬ x = y := by simp [if_icmp.holds, Int32.not_lt]
theorem own_icmp_neN {x y : Int32} : if_icmp.holds .ne x y = false ↔ x = y := by simp [if_icmp.holds, Int32.not_lt]
theorem oGo.icmp_ne {x y : Int32} {o : Int} (hd : decode bytes pc = .ok (.if_icmp .ne o, 3)) (hp : pc + 3 = pc1) (ho : (pc : Int) + o = (pc2 : Int)) (gy : ¬ x = y → oGo l Z a0 EL wd p e s m args below meth c R own bytes mx rt nm Q O D h k n pc2 Ls st) (gn : x = y → oGo l Z a0 EL wd p e s m args below meth c R own bytes mx rt nm Q O D h k n pc1 Ls st) : oGo l Z a0 EL wd p e s m args below meth c R own bytes mx rt nm Q O D h k n pc Ls (.int y :: .int x :: st) := by
  subst hp
  by_cases q : x = y
  · exact oGo.pure (fun T hA hb hx t hr => XS.icmpNo hA hx rfl (by rw [hb]; exact hd) rfl (own_icmp_neN.2 q) hr) (gn q)
  · exact oGo.pure (fun T hA hb hx t hr => XS.icmpYes hA hx rfl (pc0 := pc) (pc' := pc2) rfl (by rw [hb]; exact hd) rfl (own_icmp_ne.2 q) (by omega) (by omega) hr) (gy q)
theorem own_icmp_lt {x y : Int32} : if_icmp.holds .lt x y = true ↔ x < y := by simp [if_icmp.holds, Int32.not_lt]
theorem own_icmp_ltN {x y : Int32} : if_icmp.holds .lt x y = false ↔ ¬ x < y := by simp [if_icmp.holds, Int32.not_lt]
theorem oGo.icmp_lt {x y : Int32} {o : Int} (hd : decode bytes pc = .ok (.if_icmp .lt o, 3)) (hp : pc + 3 = pc1) (ho : (pc : Int) + o = (pc2 : Int)) (gy : x < y → oGo l Z a0 EL wd p e s m args below meth c R own bytes mx rt nm Q O D h k n pc2 Ls st) (gn : ¬ x < y → oGo l Z a0 EL wd p e s m args below meth c R own bytes mx rt nm Q O D h k n pc1 Ls st) : oGo l Z a0 EL wd p e s m args below meth c R own bytes mx rt nm Q O D h k n pc Ls (.int y :: .int x :: st) := by
  subst hp
  by_cases q : x < y
  · exact oGo.pure (fun T hA hb hx t hr => XS.icmpYes hA hx rfl (pc0 := pc) (pc' := pc2) rfl (by rw [hb]; exact hd) rfl (own_icmp_lt.2 q) (by omega) (by omega) hr) (gy q)
  · exact oGo.pure (fun T hA hb hx t hr => XS.icmpNo hA hx rfl (by rw [hb]; exact hd) rfl (own_icmp_ltN.2 q) hr) (gn q)
theorem own_icmp_ge {x y : Int32} : if_icmp.holds .ge x y = true ↔ ¬ x < y := by simp [if_icmp.holds, Int32.not_lt]
theorem own_icmp_geN {x y : Int32} : if_icmp.holds .ge x y = false ↔ x < y := by simp [if_icmp.holds, Int32.not_lt]
theorem oGo.icmp_ge {x y : Int32} {o : Int} (hd : decode bytes pc = .ok (.if_icmp .ge o, 3)) (hp : pc + 3 = pc1) (ho : (pc : Int) + o = (pc2 : Int)) (gy : ¬ x < y → oGo l Z a0 EL wd p e s m args below meth c R own bytes mx rt nm Q O D h k n pc2 Ls st) (gn : x < y → oGo l Z a0 EL wd p e s m args below meth c R own bytes mx rt nm Q O D h k n pc1 Ls st) : oGo l Z a0 EL wd p e s m args below meth c R own bytes mx rt nm Q O D h k n pc Ls (.int y :: .int x :: st) := by
  subst hp
  by_cases q : x < y
  · exact oGo.pure (fun T hA hb hx t hr => XS.icmpNo hA hx rfl (by rw [hb]; exact hd) rfl (own_icmp_geN.2 q) hr) (gn q)
  · exact oGo.pure (fun T hA hb hx t hr => XS.icmpYes hA hx rfl (pc0 := pc) (pc' := pc2) rfl (by rw [hb]; exact hd) rfl (own_icmp_ge.2 q) (by omega) (by omega) hr) (gy q)
theorem own_icmp_gt {x y : Int32} : if_icmp.holds .gt x y = true ↔ y < x := by simp [if_icmp.holds, Int32.not_lt]
theorem own_icmp_gtN {x y : Int32} : if_icmp.holds .gt x y = false ↔ ¬ y < x := by simp [if_icmp.holds, Int32.not_lt]
theorem oGo.icmp_gt {x y : Int32} {o : Int} (hd : decode bytes pc = .ok (.if_icmp .gt o, 3)) (hp : pc + 3 = pc1) (ho : (pc : Int) + o = (pc2 : Int)) (gy : y < x → oGo l Z a0 EL wd p e s m args below meth c R own bytes mx rt nm Q O D h k n pc2 Ls st) (gn : ¬ y < x → oGo l Z a0 EL wd p e s m args below meth c R own bytes mx rt nm Q O D h k n pc1 Ls st) : oGo l Z a0 EL wd p e s m args below meth c R own bytes mx rt nm Q O D h k n pc Ls (.int y :: .int x :: st) := by
  subst hp
  by_cases q : y < x
  · exact oGo.pure (fun T hA hb hx t hr => XS.icmpYes hA hx rfl (pc0 := pc) (pc' := pc2) rfl (by rw [hb]; exact hd) rfl (own_icmp_gt.2 q) (by omega) (by omega) hr) (gy q)
  · exact oGo.pure (fun T hA hb hx t hr => XS.icmpNo hA hx rfl (by rw [hb]; exact hd) rfl (own_icmp_gtN.2 q) hr) (gn q)
theorem own_icmp_le {x y : Int32} : if_icmp.holds .le x y = true ↔ ¬ y < x := by simp [if_icmp.holds, Int32.not_lt]
theorem own_icmp_leN {x y : Int32} : if_icmp.holds .le x y = false ↔ y < x := by simp [if_icmp.holds, Int32.not_lt]
theorem oGo.icmp_le {x y : Int32} {o : Int} (hd : decode bytes pc = .ok (.if_icmp .le o, 3)) (hp : pc + 3 = pc1) (ho : (pc : Int) + o = (pc2 : Int)) (gy : ¬ y < x → oGo l Z a0 EL wd p e s m args below meth c R own bytes mx rt nm Q O D h k n pc2 Ls st) (gn : y < x → oGo l Z a0 EL wd p e s m args below meth c R own bytes mx rt nm Q O D h k n pc1 Ls st) : oGo l Z a0 EL wd p e s m args below meth c R own bytes mx rt nm Q O D h k n pc Ls (.int y :: .int x :: st) := by
  subst hp
  by_cases q : y < x
  · exact oGo.pure (fun T hA hb hx t hr => XS.icmpNo hA hx rfl (by rw [hb]; exact hd) rfl (own_icmp_leN.2 q) hr) (gn q)
  · exact oGo.pure (fun T hA hb hx t hr => XS.icmpYes hA hx rfl (pc0 := pc) (pc' := pc2) rfl (by rw [hb]; exact hd) rfl (own_icmp_le.2 q) (by omega) (by omega) hr) (gy q)
theorem own_if_eq {x : Int32} : ifCond.holds .eq x = true ↔ x = 0 := by simp [ifCond.holds, Int32.not_lt]
theorem own_if_eqN {x : Int32} : ifCond.holds .eq x = false ↔ ¬ x = 0 := by simp [ifCond.holds, Int32.not_lt]
theorem oGo.if_eq {x : Int32} {o : Int} (hd : decode bytes pc = .ok (.ifCond .eq o, 3)) (hp : pc + 3 = pc1) (ho : (pc : Int) + o = (pc2 : Int)) (gy : x = 0 → oGo l Z a0 EL wd p e s m args below meth c R own bytes mx rt nm Q O D h k n pc2 Ls st) (gn : ¬ x = 0 → oGo l Z a0 EL wd p e s m args below meth c R own bytes mx rt nm Q O D h k n pc1 Ls st) : oGo l Z a0 EL wd p e s m args below meth c R own bytes mx rt nm Q O D h k n pc Ls (.int x :: st) := by
  subst hp
  by_cases q : x = 0
  · exact oGo.pure (fun T hA hb hx t hr => XS.ifYes hA hx rfl (pc0 := pc) (pc' := pc2) rfl (by rw [hb]; exact hd) rfl (own_if_eq.2 q) (by omega) (by omega) hr) (gy q)
  · exact oGo.pure (fun T hA hb hx t hr => XS.ifNo hA hx rfl (by rw [hb]; exact hd) rfl (own_if_eqN.2 q) hr) (gn q)
theorem own_if_ne {x : Int32} : ifCond.holds .ne x = true ↔ ¬ x = 0 := by simp [ifCond.holds, Int32.not_lt]
theorem own_if_neN {x : Int32} : ifCond.holds .ne x = false ↔ x = 0 := by simp [ifCond.holds, Int32.not_lt]
theorem oGo.if_ne {x : Int32} {o : Int} (hd : decode bytes pc = .ok (.ifCond .ne o, 3)) (hp : pc + 3 = pc1) (ho : (pc : Int) + o = (pc2 : Int)) (gy : ¬ x = 0 → oGo l Z a0 EL wd p e s m args below meth c R own bytes mx rt nm Q O D h k n pc2 Ls st) (gn : x = 0 → oGo l Z a0 EL wd p e s m args below meth c R own bytes mx rt nm Q O D h k n pc1 Ls st) : oGo l Z a0 EL wd p e s m args below meth c R own bytes mx rt nm Q O D h k n pc Ls (.int x :: st) := by
  subst hp
  by_cases q : x = 0
  · exact oGo.pure (fun T hA hb hx t hr => XS.ifNo hA hx rfl (by rw [hb]; exact hd) rfl (own_if_neN.2 q) hr) (gn q)
  · exact oGo.pure (fun T hA hb hx t hr => XS.ifYes hA hx rfl (pc0 := pc) (pc' := pc2) rfl (by rw [hb]; exact hd) rfl (own_if_ne.2 q) (by omega) (by omega) hr) (gy q)
theorem own_if_lt {x : Int32} : ifCond.holds .lt x = true ↔ x < 0 := by simp [ifCond.holds, Int32.not_lt]
theorem own_if_ltN {x : Int32} : ifCond.holds .lt x = false ↔ ¬ x < 0 := by simp [ifCond.holds, Int32.not_lt]
theorem oGo.if_lt {x : Int32} {o : Int} (hd : decode bytes pc = .ok (.ifCond .lt o, 3)) (hp : pc + 3 = pc1) (ho : (pc : Int) + o = (pc2 : Int)) (gy : x < 0 → oGo l Z a0 EL wd p e s m args below meth c R own bytes mx rt nm Q O D h k n pc2 Ls st) (gn : ¬ x < 0 → oGo l Z a0 EL wd p e s m args below meth c R own bytes mx rt nm Q O D h k n pc1 Ls st) : oGo l Z a0 EL wd p e s m args below meth c R own bytes mx rt nm Q O D h k n pc Ls (.int x :: st) := by
  subst hp
  by_cases q : x < 0
  · exact oGo.pure (fun T hA hb hx t hr => XS.ifYes hA hx rfl (pc0 := pc) (pc' := pc2) rfl (by rw [hb]; exact hd) rfl (own_if_lt.2 q) (by omega) (by omega) hr) (gy q)
  · exact oGo.pure (fun T hA hb hx t hr => XS.ifNo hA hx rfl (by rw [hb]; exact hd) rfl (own_if_ltN.2 q) hr) (gn q)
theorem own_if_ge {x : Int32} : ifCond.holds .ge x = true ↔ ¬ x < 0 := by simp [ifCond.holds, Int32.not_lt]
theorem own_if_geN {x : Int32} : ifCond.holds .ge x = false ↔ x < 0 := by simp [ifCond.holds, Int32.not_lt]
theorem oGo.if_ge {x : Int32} {o : Int} (hd : decode bytes pc = .ok (.ifCond .ge o, 3)) (hp : pc + 3 = pc1) (ho : (pc : Int) + o = (pc2 : Int)) (gy : ¬ x < 0 → oGo l Z a0 EL wd p e s m args below meth c R own bytes mx rt nm Q O D h k n pc2 Ls st) (gn : x < 0 → oGo l Z a0 EL wd p e s m args below meth c R own bytes mx rt nm Q O D h k n pc1 Ls st) : oGo l Z a0 EL wd p e s m args below meth c R own bytes mx rt nm Q O D h k n pc Ls (.int x :: st) := by
  subst hp
  by_cases q : x < 0
  · exact oGo.pure (fun T hA hb hx t hr => XS.ifNo hA hx rfl (by rw [hb]; exact hd) rfl (own_if_geN.2 q) hr) (gn q)
  · exact oGo.pure (fun T hA hb hx t hr => XS.ifYes hA hx rfl (pc0 := pc) (pc' := pc2) rfl (by rw [hb]; exact hd) rfl (own_if_ge.2 q) (by omega) (by omega) hr) (gy q)
theorem own_if_gt {x : Int32} : ifCond.holds .gt x = true ↔ 0 < x := by simp [ifCond.holds, Int32.not_lt]
theorem own_if_gtN {x : Int32} : ifCond.holds .gt x = false ↔ ¬ 0 < x := by simp [ifCond.holds, Int32.not_lt]
theorem oGo.if_gt {x : Int32} {o : Int} (hd : decode bytes pc = .ok (.ifCond .gt o, 3)) (hp : pc + 3 = pc1) (ho : (pc : Int) + o = (pc2 : Int)) (gy : 0 < x → oGo l Z a0 EL wd p e s m args below meth c R own bytes mx rt nm Q O D h k n pc2 Ls st) (gn : ¬ 0 < x → oGo l Z a0 EL wd p e s m args below meth c R own bytes mx rt nm Q O D h k n pc1 Ls st) : oGo l Z a0 EL wd p e s m args below meth c R own bytes mx rt nm Q O D h k n pc Ls (.int x :: st) := by
  subst hp
  by_cases q : 0 < x
  · exact oGo.pure (fun T hA hb hx t hr => XS.ifYes hA hx rfl (pc0 := pc) (pc' := pc2) rfl (by rw [hb]; exact hd) rfl (own_if_gt.2 q) (by omega) (by omega) hr) (gy q)
  · exact oGo.pure (fun T hA hb hx t hr => XS.ifNo hA hx rfl (by rw [hb]; exact hd) rfl (own_if_gtN.2 q) hr) (gn q)
theorem own_if_le {x : Int32} : ifCond.holds .le x = true ↔ ¬ 0 < x := by simp [ifCond.holds, Int32.not_lt]
theorem own_if_leN {x : Int32} : ifCond.holds .le x = false ↔ 0 < x := by simp [ifCond.holds, Int32.not_lt]
theorem oGo.if_le {x : Int32} {o : Int} (hd : decode bytes pc = .ok (.ifCond .le o, 3)) (hp : pc + 3 = pc1) (ho : (pc : Int) + o = (pc2 : Int)) (gy : ¬ 0 < x → oGo l Z a0 EL wd p e s m args below meth c R own bytes mx rt nm Q O D h k n pc2 Ls st) (gn : 0 < x → oGo l Z a0 EL wd p e s m args below meth c R own bytes mx rt nm Q O D h k n pc1 Ls st) : oGo l Z a0 EL wd p e s m args below meth c R own bytes mx rt nm Q O D h k n pc Ls (.int x :: st) := by
  subst hp
  by_cases q : 0 < x
  · exact oGo.pure (fun T hA hb hx t hr => XS.ifNo hA hx rfl (by rw [hb]; exact hd) rfl (own_if_leN.2 q) hr) (gn q)
  · exact oGo.pure (fun T hA hb hx t hr => XS.ifYes hA hx rfl (pc0 := pc) (pc' := pc2) rfl (by rw [hb]; exact hd) rfl (own_if_le.2 q) (by omega) (by omega) hr) (gy q)
theorem oGo.ifnull_y {o : Int} {b : Addr} (hd : decode bytes pc = .ok (.ifnull o, 3)) (ho : (pc : Int) + o = (pc2 : Int)) (g : oGo l Z a0 EL wd p e s m args below meth c R own bytes mx rt nm Q O D h k n pc2 Ls st) : oGo l Z a0 EL wd p e s m args below meth c R own bytes mx rt nm Q O D h k n pc Ls (.null :: st) :=
  oGo.pure (fun T hA hb hx t hr => XS.ifnullYes hA hx rfl (pc0 := pc) (pc' := pc2) rfl (by rw [hb]; exact hd) rfl (by omega) (by omega) hr) g
theorem oGo.ifnull_n {o : Int} {b : Addr} (hd : decode bytes pc = .ok (.ifnull o, 3)) (hp : pc + 3 = pc1) (g : oGo l Z a0 EL wd p e s m args below meth c R own bytes mx rt nm Q O D h k n pc1 Ls st) : oGo l Z a0 EL wd p e s m args below meth c R own bytes mx rt nm Q O D h k n pc Ls (.ref b :: st) := by
  subst hp; exact oGo.pure (fun T hA hb hx t hr => XS.ifnullNo hA hx rfl (by rw [hb]; exact hd) rfl hr) g
theorem oGo.ifnonnull_y {o : Int} {b : Addr} (hd : decode bytes pc = .ok (.ifnonnull o, 3)) (ho : (pc : Int) + o = (pc2 : Int)) (g : oGo l Z a0 EL wd p e s m args below meth c R own bytes mx rt nm Q O D h k n pc2 Ls st) : oGo l Z a0 EL wd p e s m args below meth c R own bytes mx rt nm Q O D h k n pc Ls (.ref b :: st) :=
  oGo.pure (fun T hA hb hx t hr => XT.ifnonnullYes hA hx rfl (pc0 := pc) (pc' := pc2) rfl (by rw [hb]; exact hd) rfl (by omega) (by omega) hr) g
theorem oGo.ifnonnull_n {o : Int} {b : Addr} (hd : decode bytes pc = .ok (.ifnonnull o, 3)) (hp : pc + 3 = pc1) (g : oGo l Z a0 EL wd p e s m args below meth c R own bytes mx rt nm Q O D h k n pc1 Ls st) : oGo l Z a0 EL wd p e s m args below meth c R own bytes mx rt nm Q O D h k n pc Ls (.null :: st) := by
  subst hp; exact oGo.pure (fun T hA hb hx t hr => XT.ifnonnullNo hA hx rfl (by rw [hb]; exact hd) rfl hr) g
theorem oGo.acmp_y {cd : ClassFile.ACond} {v w : Value} {o : Int} (hd : decode bytes pc = .ok (.if_acmp cd o, 3)) (ho : (pc : Int) + o = (pc2 : Int)) (hv : v.isRef = true) (hw : w.isRef = true) (hq : XT.acmp cd v w = true) (g : oGo l Z a0 EL wd p e s m args below meth c R own bytes mx rt nm Q O D h k n pc2 Ls st) : oGo l Z a0 EL wd p e s m args below meth c R own bytes mx rt nm Q O D h k n pc Ls (w :: v :: st) :=
  oGo.pure (fun T hA hb hx t hr => XT.acmpYes hA hx rfl (pc0 := pc) (pc' := pc2) rfl (by rw [hb]; exact hd) rfl hv hw hq (by omega) (by omega) hr) g
theorem oGo.acmp_n {cd : ClassFile.ACond} {v w : Value} {o : Int} (hd : decode bytes pc = .ok (.if_acmp cd o, 3)) (hp : pc + 3 = pc1) (hv : v.isRef = true) (hw : w.isRef = true) (hq : XT.acmp cd v w = false) (g : oGo l Z a0 EL wd p e s m args below meth c R own bytes mx rt nm Q O D h k n pc1 Ls st) : oGo l Z a0 EL wd p e s m args below meth c R own bytes mx rt nm Q O D h k n pc Ls (w :: v :: st) := by
  subst hp; exact oGo.pure (fun T hA hb hx t hr => XT.acmpNo hA hx rfl (by rw [hb]; exact hd) rfl hv hw hq hr) g
/-- steps that may warm the tables -/
theorem oGo.move (H : ∀ (T : State) (locs : List Loc) (vm0 : Vm), Stand p l e R (s.setVm vm0) m args below meth c T locs k n → T.heap = h → Z.Warmed39 vm0 → vm0.findClass own = some m.cls → c.code = bytes → p.tables.exec = Jvm.exec → meth.name = nm → c.maxLocals = mx → ∃ T', Stand p l e R (s.setVm vm0) m args below meth c T' locs k n ∧ T'.heap = h ∧ ∀ t, Steps p.tables e below (T'.setTop (mkF m pc' Ls' st')) t → Steps p.tables e below (T.setTop (mkF m pc Ls st)) t)
    (g : oGo l Z a0 EL wd p e s m args below meth c R own bytes mx rt nm Q O D h k n pc' Ls' st') : oGo l Z a0 EL wd p e s m args below meth c R own bytes mx rt nm Q O D h k n pc Ls st := by
  intro T locs vm0 k0 I
  obtain ⟨⟨hx, hb, hm, hr, hl, hn, hE⟩, hT, hO, hF, X, hS, hk, hZ, hown, hC, hwd, hD⟩ := I
  obtain ⟨T', X', hT', hst⟩ := H T locs vm0 X hT hZ hown hb hx hn hm
  obtain ⟨V, v, L, hs, r⟩ := g T' locs vm0 k0 ⟨⟨hx, hb, hm, hr, hl, hn, hE⟩, hT', hO, hF, X', hS, hk, hZ, hown, hC, hwd, hD⟩
  exact ⟨V, v, L, hst V hs, r⟩
/-- steps that make a cell -/
theorem oGo.grow {P : Heap → Prop} {D' : List Addr} {k' n' : Nat} (H : ∀ (T : State) (locs : List Loc) (vm0 : Vm), Stand p l e R (s.setVm vm0) m args below meth c T locs k n → T.heap = h → Z.Warmed39 vm0 → vm0.findClass own = some m.cls → c.code = bytes → p.tables.exec = Jvm.exec → meth.name = nm → c.maxLocals = mx → ∃ T' h', Stand p l e R (s.setVm vm0) m args below meth c T' locs k' n' ∧ T'.heap = h' ∧ Ext h h' ∧ P h' ∧ ∀ t, Steps p.tables e below (T'.setTop (mkF m pc' Ls' st')) t → Steps p.tables e below (T.setTop (mkF m pc Ls st)) t)
    (hD : ∀ h', P h' → ∀ x ∈ D', x ∈ D ∨ (h.size ≤ x ∧ x < h'.size)) (g : ∀ h', Ext h h' → P h' → oGo l Z a0 EL wd p e s m args below meth c R own bytes mx rt nm Q O D' h' k' n' pc' Ls' st') : oGo l Z a0 EL wd p e s m args below meth c R own bytes mx rt nm Q O D h k n pc Ls st := by
  intro T locs vm0 k0 I
  obtain ⟨⟨hx, hb, hm, hr, hl, hn, hE⟩, hT, hO, hF, X, hS, hk, hZ, hown, hC, hwd, hDk⟩ := I
  obtain ⟨T', h', X', hT', hEx, hP, hst⟩ := H T locs vm0 X hT hZ hown hb hx hn hm
  have hD2 : oDok Z EL vm0 h' D' := fun x hx' => by
    rcases hD h' hP x hx' with q | ⟨q1, q2⟩
    · exact oDok.ext hEx hC.1 hDk x q
    · exact ⟨Nat.le_trans hO.1 q1, q2, (Safe.new q1).ext hEx hC.1⟩
  obtain ⟨V, v, L, hs, r⟩ := g h' hEx hP T' locs vm0 k0 ⟨⟨hx, hb, hm, hr, hl, hn, hE⟩, hT', ext_trans hO hEx, hF, X', hS, Nat.le_trans hk hEx.1, hZ, hown, hC.trans (CHr.ext hEx hC.1), hwd, hD2⟩
  exact ⟨V, v, L, hst V hs, r⟩
/-- a store into one slot -/
theorem oGo.write {a : Addr} {sl : Nat} {w : Value} (H : ∀ (T : State) (locs : List Loc) (vm0 : Vm), Stand p l e R (s.setVm vm0) m args below meth c T locs k n → T.heap = h → Z.Warmed39 vm0 → vm0.findClass own = some m.cls → c.code = bytes → p.tables.exec = Jvm.exec → meth.name = nm → c.maxLocals = mx → ∃ T' h', Stand p l e R (s.setVm vm0) m args below meth c T' (locs ++ [⟨a, sl⟩]) k n ∧ T'.heap = h' ∧ Wr h h' a sl w ∧ ∀ t, Steps p.tables e below (T'.setTop (mkF m pc' Ls' st')) t → Steps p.tables e below (T.setTop (mkF m pc Ls st)) t)
    (ha : a ∈ D) (g : ∀ h', Wr h h' a sl w → h'.size = h.size → oGo l Z a0 EL wd p e s m args below meth c R own bytes mx rt nm Q O D h' k n pc' Ls' st') : oGo l Z a0 EL wd p e s m args below meth c R own bytes mx rt nm Q O D h k n pc Ls st := by
  intro T locs vm0 k0 I
  obtain ⟨⟨hx, hb, hm, hr, hl, hn, hE⟩, hT, hO, hF, X, hS, hk, hZ, hown, hC, hwd, hDk⟩ := I
  obtain ⟨T', h', X', hT', W, hst⟩ := H T locs vm0 X hT hZ hown hb hx hn hm
  obtain ⟨q1, q2, q3⟩ := hDk a ha
  obtain ⟨V, v, L, hs, r⟩ := g h' W W.size T' _ vm0 k0 ⟨⟨hx, hb, hm, hr, hl, hn, hE⟩, hT', ext_wr hO W q1, Fr.snoc X' hF q1, X', hS, by rw [W.size]; exact hk, hZ, hown, hC.trans (CHr.wr W q3 hC.1), hwd, hDk.wr W q3 hC.1⟩
  exact ⟨V, v, L, hst V hs, r⟩
/-- a step that writes into known cells (arraycopy) -/
theorem oGo.writes {ws : List Addr} {P : Heap → Prop} (H : ∀ (T : State) (locs : List Loc) (vm0 : Vm), Stand p l e R (s.setVm vm0) m args below meth c T locs k n → T.heap = h → Z.Warmed39 vm0 → vm0.findClass own = some m.cls → c.code = bytes → p.tables.exec = Jvm.exec → meth.name = nm → c.maxLocals = mx → Fr Z.heap.size locs → (∀ x ∈ D, Z.heap.size ≤ x) → ∃ T' h' L', Stand p l e R (s.setVm vm0) m args below meth c T' L' k n ∧ T'.heap = h' ∧ Fr Z.heap.size L' ∧ Keep h h' ws ∧ P h' ∧ ∀ t, Steps p.tables e below (T'.setTop (mkF m pc' Ls' st')) t → Steps p.tables e below (T.setTop (mkF m pc Ls st)) t)
    (ha : ∀ x ∈ ws, x ∈ D) (g : ∀ h', Keep h h' ws → P h' → oGo l Z a0 EL wd p e s m args below meth c R own bytes mx rt nm Q O D h' k n pc' Ls' st') : oGo l Z a0 EL wd p e s m args below meth c R own bytes mx rt nm Q O D h k n pc Ls st := by
  intro T locs vm0 k0 I
  obtain ⟨⟨hx, hb, hm, hr, hl, hn, hE⟩, hT, hO, hF, X, hS, hk, hZ, hown, hC, hwd, hDk⟩ := I
  obtain ⟨T', h', L', X', hT', hF', K, hP, hst⟩ := H T locs vm0 X hT hZ hown hb hx hn hm hF (fun x q => (hDk x q).1)
  have hsafe : ∀ x ∈ ws, Safe Z EL vm0 h x := fun x q => (hDk x (ha x q)).2.2
  have hO' : Ext Z.heap h' := (Old.keep (Z := Z) (n0 := Z.heap.size) ⟨rfl, hO⟩ K fun x q => (hDk x (ha x q)).1).2
  obtain ⟨V, v, L, hs, r⟩ := g h' K hP T' L' vm0 k0 ⟨⟨hx, hb, hm, hr, hl, hn, hE⟩, hT', hO', hF', X', hS, Nat.le_trans hk K.1, hZ, hown, hC.trans (CHr.keep K hsafe hC.1), hwd, hDk.chr (CHr.keep K hsafe hC.1)⟩
  exact ⟨V, v, L, hst V hs, r⟩
/-- what stood at the start stands still -/
theorem oGo.old (g : Ext Z.heap h → Z.heap.size ≤ h.size → oGo l Z a0 EL wd p e s m args below meth c R own bytes mx rt nm Q O D h k n pc Ls st) : oGo l Z a0 EL wd p e s m args below meth c R own bytes mx rt nm Q O D h k n pc Ls st := fun T locs vm0 k0 I => g I.2.2.1 I.2.2.1.1 T locs vm0 k0 I
/-- steps that leave the state -/
theorem oGo.read (H : ∀ (T : State) (locs : List Loc) (vm0 : Vm), Stand p l e R (s.setVm vm0) m args below meth c T locs k n → T.heap = h → Z.Warmed39 vm0 → vm0.findClass own = some m.cls → c.code = bytes → p.tables.exec = Jvm.exec → meth.name = nm → c.maxLocals = mx → ∀ t, Steps p.tables e below (T.setTop (mkF m pc' Ls' st')) t → Steps p.tables e below (T.setTop (mkF m pc Ls st)) t)
    (g : oGo l Z a0 EL wd p e s m args below meth c R own bytes mx rt nm Q O D h k n pc' Ls' st') : oGo l Z a0 EL wd p e s m args below meth c R own bytes mx rt nm Q O D h k n pc Ls st := oGo.move (fun T locs vm0 X hT hZ hown hb hx hn hm => ⟨T, X, hT, H T locs vm0 X hT hZ hown hb hx hn hm⟩) g
theorem oGo.ldc_int {idx : Nat} {v : Int32} (hd : decode bytes pc = .ok (.ldc idx, 2)) (hp : pc + 2 = pc') (w : (Cond.constant own idx v).before a0 Z = true) (g : oGo l Z a0 EL wd p e s m args below meth c R own bytes mx rt nm Q O D h k n pc' Ls (.int v :: st)) : oGo l Z a0 EL wd p e s m args below meth c R own bytes mx rt nm Q O D h k n pc Ls st := by
  subst hp; exact oGo.read (fun T locs vm0 X hT hZ hown hb hx hn hm => X.ldcInt hx hown (mvT (s := s.setVm vm0) hZ w) (g := mkF m pc Ls st) rfl (by rw [hb]; exact hd)) g
theorem oGo.ldc2_long {idx : Nat} {v : Int64} (hd : decode bytes pc = .ok (.ldc2_w idx, 3)) (hp : pc + 3 = pc') (w : (Cond.constantLong own idx v).before a0 Z = true) (g : oGo l Z a0 EL wd p e s m args below meth c R own bytes mx rt nm Q O D h k n pc' Ls (.long v :: st)) : oGo l Z a0 EL wd p e s m args below meth c R own bytes mx rt nm Q O D h k n pc Ls st := by
  subst hp; exact oGo.read (fun T locs vm0 X hT hZ hown hb hx hn hm => X.ldc2Long hx hown (mvT (s := s.setVm vm0) hZ w) (g := mkF m pc Ls st) rfl (by rw [hb]; exact hd)) g
theorem oGo.getfield {idx : Nat} {a : Addr} {R0 Ow f d : String} {v : Value} (hd : decode bytes pc = .ok (.getfield idx, 3)) (hp : pc + 3 = pc') (w : (Cond.fieldLink own idx R0 f d).before a0 Z = true) (via : Via Z R0 Ow f d) (F : Fld Z h a Ow f d v)
    (g : oGo l Z a0 EL wd p e s m args below meth c R own bytes mx rt nm Q O D h k n pc' Ls (v :: st)) : oGo l Z a0 EL wd p e s m args below meth c R own bytes mx rt nm Q O D h k n pc Ls (.ref a :: st) := by
  subst hp; exact oGo.move (fun T locs vm0 X hT hZ hown hb hx hn hm => getF (s := s.setVm vm0) X hx hZ hown (host := "") (Or.inl w) via hT F (g := mkF m pc Ls (.ref a :: st)) rfl rfl (by rw [hb]; exact hd)) g
theorem oGo.getstatic {idx : Nat} {R0 Ow f d : String} {v : Value} (hd : decode bytes pc = .ok (.getstatic idx, 3)) (hp : pc + 3 = pc') (w : (Cond.fieldLink own idx R0 f d).before a0 Z = true) (via : Via Z R0 Ow f d) (F : Sta Z Z.heap Ow f d v)
    (g : oGo l Z a0 EL wd p e s m args below meth c R own bytes mx rt nm Q O D h k n pc' Ls (v :: st)) : oGo l Z a0 EL wd p e s m args below meth c R own bytes mx rt nm Q O D h k n pc Ls st := by
  subst hp
  intro T locs vm0 k0 I
  have hO : Ext Z.heap h := I.2.2.1
  exact oGo.move (fun T locs vm0 X hT hZ hown hb hx hn hm => getS (s := s.setVm vm0) (host := "") X hx hZ hown w via hT (F.ext hO) (g := mkF m pc Ls st) rfl (by rw [hb]; exact hd)) g T locs vm0 k0 I
theorem oGo.putfield {idx kk : Nat} {a : Addr} {R0 Ow f d Cn : String} {v old : Value} {ty : FieldType} (hd : decode bytes pc = .ok (.putfield idx, 3)) (hp : pc + 3 = pc') (w : (Cond.fieldLink own idx R0 f d).before a0 Z = true) (via : Via Z R0 Ow f d) (F : Fld Z h a Ow f d old) (E : Exa Z h a Cn)
    (L : (Cond.lays Cn Ow f d).before a0 Z = true ∨ ((Cond.laysFinal Cn Ow f d).before a0 Z = true ∧ own = Ow ∧ nm = "<init>")) (wi : (Cond.instantiable Cn kk).before a0 Z = true) (hty : parseFieldDescriptor d = some ty) (hnv : narrow ty v = v) (hf : fits ty v = true) (ha : a ∈ D)
    (g : ∀ h', Wr h h' a (Jvm.RoadKit.slotOf Z Ow f d) v → h'.size = h.size → oGo l Z a0 EL wd p e s m args below meth c R own bytes mx rt nm Q O D h' k n pc' Ls st) : oGo l Z a0 EL wd p e s m args below meth c R own bytes mx rt nm Q O D h k n pc Ls (v :: .ref a :: st) := by
  subst hp; exact oGo.write (fun T locs vm0 X hT hZ hown hb hx hn hm => putF (s := s.setVm vm0) X hx hZ hown (host := "") (Or.inl w) via hT F E (L.imp id fun q => ⟨q.1, q.2.1, hn.trans q.2.2⟩) wi hty hnv hf (g := mkF m pc Ls (v :: .ref a :: st)) rfl rfl (by rw [hb]; exact hd)) ha g
theorem oGo.new {idx sz : Nat} {Cn : String} {k' n' : Nat} (hd : decode bytes pc = .ok (.new idx, 3)) (hp : pc + 3 = pc') (w : (Cond.classLink own idx Cn).before a0 Z = true) (wi : (Cond.instantiable Cn sz).before a0 Z = true) (wz : (Cond.initialized Cn).before a0 Z = true) (hk : k + 1 = k') (hn : n + sz = n') (hc : k' ≤ R.cells) (hl : n' ≤ R.slots)
    (g : ∀ (h' : Heap) (a : Nat), a = h.size → a < h'.size → Ext h h' → Exa Z h' a Cn → (∀ {Ow f d : String} {ty : FieldType}, Laid Z a0 Cn Ow f d → parseFieldDescriptor d = some ty → Fld Z h' a Ow f d (defaultValue ty)) → oGo l Z a0 EL wd p e s m args below meth c R own bytes mx rt nm Q O (a :: D) h' k' n' pc' Ls (.ref a :: st)) : oGo l Z a0 EL wd p e s m args below meth c R own bytes mx rt nm Q O D h k n pc Ls st := by
  subst hp hk hn
  refine oGo.grow (P := fun h' => Exa Z h' h.size Cn ∧ ∀ {Ow f d : String} {ty : FieldType}, Laid Z a0 Cn Ow f d → parseFieldDescriptor d = some ty → Fld Z h' h.size Ow f d (defaultValue ty)) (D' := h.size :: D) (fun T locs vm0 X hT hZ hown hb hx hn hm => ?_) (fun h' q x hx => ?_) (fun h' E q => g h' _ rfl q.1.lt E q.1 q.2)
  · obtain ⟨T', h', X', e', E, A, F, -, hst⟩ := newO (s := s.setVm vm0) X hx hZ hown w wi wz hT (g := mkF m pc Ls st) rfl (by rw [hb]; exact hd) hc hl
    exact ⟨T', h', X', e', E, ⟨A, F⟩, hst⟩
  · rcases List.mem_cons.mp hx with rfl | hx
    · exact Or.inr ⟨Nat.le_refl _, q.1.lt⟩
    · exact Or.inl hx
theorem oGo.objinit {idx : Nat} {a : Addr} (hd : decode bytes pc = .ok (.invokespecial idx, 3)) (hp : pc + 3 = pc') (w1 : (Cond.methodLink own idx Lib.objectInit).before a0 Z = true) (w2 : (Cond.instanceMethod Lib.objectInit).before a0 Z = true) (w3 : (Cond.code Lib.objectInit ⟨#[0xb1]⟩ 1 none).before a0 Z = true)
    (hsz : Ls.size = mx) (hf : 1 ≤ R.frames) (hl : (st.map fun v => v.category).sum + 12 ≤ R.locals) (g : oGo l Z a0 EL wd p e s m args below meth c R own bytes mx rt nm Q O D h k n pc' Ls st) : oGo l Z a0 EL wd p e s m args below meth c R own bytes mx rt nm Q O D h k n pc Ls (.ref a :: st) := by
  subst hp; exact oGo.move (fun T locs vm0 X hT hZ hown hb hx hn hm => initO (s := s.setVm vm0) X hx hZ hown w1 w2 w3 hT (g := mkF m pc Ls (.ref a :: st)) rfl (hsz.trans hm.symm) rfl (by rw [hb]; exact hd) hf (W := (st.map fun v => v.category).sum) (by show 2 * 0 + _ ≤ _; omega) hl) g
/-! ### arrays -/
def oArr (Z : State) (h : Heap) (a : Addr) (ty : FieldType) (vs : List Value) : Prop := ∃ cl : Cell, Arr Z h a cl ty ∧ cl.slots.toList = vs ∧ vs.length < 2147483648 ∧ ∀ v ∈ vs, fits ty v = true
theorem oArr.lt {a : Addr} {ty : FieldType} {vs : List Value} (A : oArr Z h a ty vs) : a < h.size := A.elim fun _ q => q.1.lt
theorem oArr.ext {a : Addr} {ty : FieldType} {vs : List Value} {h' : Heap} (E : Ext h h') (A : oArr Z h a ty vs) : oArr Z h' a ty vs := A.elim fun cl q => ⟨cl, q.1.ext E, q.2⟩
theorem oArr.other {a b : Addr} {ty : FieldType} {vs : List Value} {h' : Heap} {sl : Nat} {w : Value} (W : Wr h h' b sl w) (A : oArr Z h a ty vs) (q : a ≠ b) : oArr Z h' a ty vs := A.elim fun cl r => ⟨cl, r.1.other W q, r.2⟩
theorem oArr.keep {a : Addr} {ty : FieldType} {vs : List Value} {h' : Heap} {ws : List Addr} (A : oArr Z h a ty vs) (K : Keep h h' ws) (q : a ∉ ws) : oArr Z h' a ty vs := A.elim fun cl r => ⟨cl, ⟨K.2.1 a cl r.1.1 q, r.1.2⟩, r.2⟩
theorem oArr.set {a : Addr} {ty : FieldType} {vs : List Value} {h' : Heap} {i : Nat} {w : Value} (W : Wr h h' a i w) (A : oArr Z h a ty vs) (hf : fits ty w = true) : oArr Z h' a ty (vs.set i w) := by
  obtain ⟨cl, h1, rfl, h3, h4⟩ := A
  refine ⟨cl.setSlot i w, h1.same W, by simp [Cell.setSlot], by simpa using h3, fun v hv => ?_⟩
  rcases List.mem_or_eq_of_mem_set hv with q | q
  · exact h4 v q
  · exact q ▸ hf
theorem own_n32 {i : Nat} (h : i < 2147483648) : (Int32.ofNat i).toNatClampNeg = i := by
  have q : i.toInt32.toInt = i := len_toInt (by omega)
  show i.toInt32.toNatClampNeg = i
  simp only [Int32.toNatClampNeg, q]; omega
theorem own_i32 {i : Nat} (h : i < 2147483648) : (Int32.ofNat i).toInt = i := len_toInt (by omega)
theorem own_nn {i : Nat} (h : i < 2147483648) : ¬ Int32.ofNat i < 0 := by
  rw [Int32.lt_iff_toInt_lt, own_i32 h]; simp
theorem own_inb {c : Cell} {vs : List Value} {i : Nat} (e : c.slots.toList = vs) (hb : vs.length < 2147483648) (hi : i < vs.length) : ¬ (Int32.ofNat i < 0 ∨ c.slots.size ≤ (Int32.ofNat i).toNatClampNeg) := by
  rw [own_n32 (by omega)]
  have : c.slots.size = vs.length := by rw [← e]; simp
  rintro (q | q)
  · exact own_nn (by omega) q
  · omega
theorem oArr.arv {a : Addr} {ty : FieldType} {vs : List Value} (A : oArr Z h a ty vs) (d : Value) : ∃ kk, Arv Z h a kk ty (Int32.ofNat vs.length) vs d := by
  obtain ⟨cl, h1, rfl, h3, h4⟩ := A
  refine ⟨cl.cls, cl, h1, rfl, by rw [own_n32 h3]; simp, own_nn h3, fun i hi => by simp [List.getD_eq_getElem?_getD, hi], fun i hi => h4 _ ?_⟩
  simp [List.getD_eq_getElem?_getD, hi]
theorem oArr.of_arv {a : Addr} {ty : FieldType} {vs : List Value} {kk : ClassId} {z : Int32} {d : Value} (A : Arv Z h a kk ty z vs d) (hl : z.toNatClampNeg = vs.length) : oArr Z h a ty vs := by
  obtain ⟨cl, h1, h2, h3, h4, h5, h6⟩ := A
  have hz := Int32.toInt_lt z
  have e : cl.slots.toList = vs := by
    apply List.ext_getElem?
    intro i
    by_cases q : i < cl.slots.size
    · have := h5 i q
      rw [← Array.getElem?_toList] at this
      rw [this]
      have q' : i < vs.length := by omega
      simp [List.getD_eq_getElem?_getD, q']
    · rw [List.getElem?_eq_none (by simpa using q), List.getElem?_eq_none (by omega)]
  refine ⟨cl, h1, e, by rw [← hl]; simp only [Int32.toNatClampNeg]; omega, fun v hv => ?_⟩
  obtain ⟨i, hi, rfl⟩ := List.getElem_of_mem hv
  have := h6 i (by omega)
  rwa [List.getD_eq_getElem?_getD, List.getElem?_eq_getElem hi] at this
theorem oGo.arraylength {a : Addr} {ty : FieldType} {vs : List Value} {z : Int32} (hd : decode bytes pc = .ok (.arraylength, 1)) (hp : pc + 1 = pc') (A : oArr Z h a ty vs) (hv : Int32.ofNat vs.length = z) (g : oGo l Z a0 EL wd p e s m args below meth c R own bytes mx rt nm Q O D h k n pc' Ls (.int z :: st)) : oGo l Z a0 EL wd p e s m args below meth c R own bytes mx rt nm Q O D h k n pc Ls (.ref a :: st) := by
  subst hp hv
  obtain ⟨cl, h1, rfl, h3, h4⟩ := A
  exact oGo.read (fun T locs vm0 X hT hZ hown hb hx hn hm t hr => X.arraylength hx (by rw [hT]; exact h1.1) (State.isArrayOf_alike (T := s.setVm vm0) hZ.alike h1.2.1) (g := mkF m pc Ls (.ref a :: st)) rfl rfl (by rw [hb]; exact hd) t (by simpa using hr)) g
theorem oGo.caload {a : Addr} {vs : List Value} {j : Int32} {i : Nat} {v : Value} (hd : decode bytes pc = .ok (.caload, 1)) (hp : pc + 1 = pc') (A : oArr Z h a .char vs) (hj : j = Int32.ofNat i) (hi : vs[i]? = some v) (g : oGo l Z a0 EL wd p e s m args below meth c R own bytes mx rt nm Q O D h k n pc' Ls (v :: st)) : oGo l Z a0 EL wd p e s m args below meth c R own bytes mx rt nm Q O D h k n pc Ls (.int j :: .ref a :: st) := by
  subst hp hj
  obtain ⟨cl, h1, rfl, h3, h4⟩ := A
  have hl : i < cl.slots.toList.length := (List.getElem?_eq_some_iff.mp hi).1
  exact oGo.read (fun T locs vm0 X hT hZ hown hb hx hn hm t hr => X.caload hx (by rw [hT]; exact h1.1) (State.isArrayOf_alike (T := s.setVm vm0) hZ.alike h1.2.1) h1.2.2 (own_inb rfl h3 hl) (by rw [own_n32 (by omega), ← Array.getElem?_toList]; exact hi) (g := mkF m pc Ls (.int (Int32.ofNat i) :: .ref a :: st)) rfl rfl (by rw [hb]; exact hd) t hr) g
theorem oGo.baload {a : Addr} {vs : List Value} {j : Int32} {i : Nat} {v : Value} (hd : decode bytes pc = .ok (.baload, 1)) (hp : pc + 1 = pc') (A : oArr Z h a .byte vs) (hj : j = Int32.ofNat i) (hi : vs[i]? = some v) (g : oGo l Z a0 EL wd p e s m args below meth c R own bytes mx rt nm Q O D h k n pc' Ls (v :: st)) : oGo l Z a0 EL wd p e s m args below meth c R own bytes mx rt nm Q O D h k n pc Ls (.int j :: .ref a :: st) := by
  subst hp hj
  obtain ⟨cl, h1, rfl, h3, h4⟩ := A
  have hl : i < cl.slots.toList.length := (List.getElem?_eq_some_iff.mp hi).1
  exact oGo.read (fun T locs vm0 X hT hZ hown hb hx hn hm t hr => X.baloadBytes hx (by rw [hT]; exact h1.1) (State.isArrayOf_alike (T := s.setVm vm0) hZ.alike h1.2.1) h1.2.2 (own_inb rfl h3 hl) (by rw [own_n32 (by omega), ← Array.getElem?_toList]; exact hi) (g := mkF m pc Ls (.int (Int32.ofNat i) :: .ref a :: st)) rfl rfl (by rw [hb]; exact hd) t hr) g
theorem oGo.laload {a : Addr} {vs : List Value} {j : Int32} {i : Nat} {v : Value} (hd : decode bytes pc = .ok (.laload, 1)) (hp : pc + 1 = pc') (A : oArr Z h a .long vs) (hj : j = Int32.ofNat i) (hi : vs[i]? = some v) (g : oGo l Z a0 EL wd p e s m args below meth c R own bytes mx rt nm Q O D h k n pc' Ls (v :: st)) : oGo l Z a0 EL wd p e s m args below meth c R own bytes mx rt nm Q O D h k n pc Ls (.int j :: .ref a :: st) := by
  subst hp hj
  obtain ⟨cl, h1, rfl, h3, h4⟩ := A
  have hl : i < cl.slots.toList.length := (List.getElem?_eq_some_iff.mp hi).1
  exact oGo.read (fun T locs vm0 X hT hZ hown hb hx hn hm t hr => X.laload hx (by rw [hT]; exact h1.1) (State.isArrayOf_alike (T := s.setVm vm0) hZ.alike h1.2.1) h1.2.2 (own_inb rfl h3 hl) (by rw [own_n32 (by omega), ← Array.getElem?_toList]; exact hi) (g := mkF m pc Ls (.int (Int32.ofNat i) :: .ref a :: st)) rfl rfl (by rw [hb]; exact hd) t hr) g
theorem oGo.iaload {a : Addr} {vs : List Value} {j : Int32} {i : Nat} {v : Value} (hd : decode bytes pc = .ok (.iaload, 1)) (hp : pc + 1 = pc') (A : oArr Z h a .int vs) (hj : j = Int32.ofNat i) (hi : vs[i]? = some v) (g : oGo l Z a0 EL wd p e s m args below meth c R own bytes mx rt nm Q O D h k n pc' Ls (v :: st)) : oGo l Z a0 EL wd p e s m args below meth c R own bytes mx rt nm Q O D h k n pc Ls (.int j :: .ref a :: st) := by
  subst hp hj
  obtain ⟨cl, h1, rfl, h3, h4⟩ := A
  have hl : i < cl.slots.toList.length := (List.getElem?_eq_some_iff.mp hi).1
  exact oGo.read (fun T locs vm0 X hT hZ hown hb hx hn hm t hr => X.iaload hx (by rw [hT]; exact h1.1) (State.isArrayOf_alike (T := s.setVm vm0) hZ.alike h1.2.1) h1.2.2 (own_inb rfl h3 hl) (by rw [own_n32 (by omega), ← Array.getElem?_toList]; exact hi) (g := mkF m pc Ls (.int (Int32.ofNat i) :: .ref a :: st)) rfl rfl (by rw [hb]; exact hd) t hr) g
theorem oGo.aaload {a : Addr} {ty : FieldType} {vs : List Value} {j : Int32} {i : Nat} {v : Value} (hd : decode bytes pc = .ok (.aaload, 1)) (hp : pc + 1 = pc') (A : oArr Z h a ty vs) (ht : ty.isReference = true) (hj : j = Int32.ofNat i) (hi : vs[i]? = some v) (g : oGo l Z a0 EL wd p e s m args below meth c R own bytes mx rt nm Q O D h k n pc' Ls (v :: st)) : oGo l Z a0 EL wd p e s m args below meth c R own bytes mx rt nm Q O D h k n pc Ls (.int j :: .ref a :: st) := by
  subst hp hj
  obtain ⟨cl, h1, rfl, h3, h4⟩ := A
  have hl : i < cl.slots.toList.length := (List.getElem?_eq_some_iff.mp hi).1
  exact oGo.read (fun T locs vm0 X hT hZ hown hb hx hn hm t hr => X.aaload hx (by rw [hT]; exact h1.1) (State.isArrayOf_alike (T := s.setVm vm0) hZ.alike h1.2.1) ht h1.2.2 (own_inb rfl h3 hl) (by rw [own_n32 (by omega), ← Array.getElem?_toList]; exact hi) (g := mkF m pc Ls (.int (Int32.ofNat i) :: .ref a :: st)) rfl rfl (by rw [hb]; exact hd) t hr) g
theorem oGo.castore {a : Addr} {vs : List Value} {j : Int32} {i : Nat} {x w : Int32} (hd : decode bytes pc = .ok (.castore, 1)) (hp : pc + 1 = pc') (A : oArr Z h a .char vs) (hj : j = Int32.ofNat i) (hi : i < vs.length) (hw : nar .char x = w) (ha : a ∈ D) (g : ∀ h', Wr h h' a i (.int w) → h'.size = h.size → oArr Z h' a .char (vs.set i (.int w)) → oGo l Z a0 EL wd p e s m args below meth c R own bytes mx rt nm Q O D h' k n pc' Ls st) : oGo l Z a0 EL wd p e s m args below meth c R own bytes mx rt nm Q O D h k n pc Ls (.int x :: .int j :: .ref a :: st) := by
  subst hp hj hw
  have A0 := A
  obtain ⟨cl, h1, rfl, h3, h4⟩ := A
  refine oGo.write (fun T locs vm0 X hT hZ hown hb hx hn hm => ?_) ha (fun h' W hs => g h' W hs (A0.set W (fits_nar_char x)))
  have q := stC (s := s.setVm vm0) X hx hZ hT h1 (own_inb rfl h3 hi) (g := mkF m pc Ls (.int x :: .int (Int32.ofNat i) :: .ref a :: st)) rfl rfl (by rw [hb]; exact hd)
  rw [own_n32 (by omega)] at q
  exact q
theorem oGo.bastore {a : Addr} {vs : List Value} {j : Int32} {i : Nat} {x w : Int32} (hd : decode bytes pc = .ok (.bastore, 1)) (hp : pc + 1 = pc') (A : oArr Z h a .byte vs) (hj : j = Int32.ofNat i) (hi : i < vs.length) (hw : nar .byte x = w) (ha : a ∈ D) (g : ∀ h', Wr h h' a i (.int w) → h'.size = h.size → oArr Z h' a .byte (vs.set i (.int w)) → oGo l Z a0 EL wd p e s m args below meth c R own bytes mx rt nm Q O D h' k n pc' Ls st) : oGo l Z a0 EL wd p e s m args below meth c R own bytes mx rt nm Q O D h k n pc Ls (.int x :: .int j :: .ref a :: st) := by
  subst hp hj hw
  have A0 := A
  obtain ⟨cl, h1, rfl, h3, h4⟩ := A
  refine oGo.write (fun T locs vm0 X hT hZ hown hb hx hn hm => ?_) ha (fun h' W hs => g h' W hs (A0.set W (fits_nar_byte x)))
  have q := stB (s := s.setVm vm0) X hx hZ hT h1 (own_inb rfl h3 hi) (g := mkF m pc Ls (.int x :: .int (Int32.ofNat i) :: .ref a :: st)) rfl rfl (by rw [hb]; exact hd)
  rw [own_n32 (by omega)] at q
  exact q
theorem oGo.iastore {a : Addr} {vs : List Value} {j : Int32} {i : Nat} {x w : Int32} (hd : decode bytes pc = .ok (.iastore, 1)) (hp : pc + 1 = pc') (A : oArr Z h a .int vs) (hj : j = Int32.ofNat i) (hi : i < vs.length) (hw : x = w) (ha : a ∈ D) (g : ∀ h', Wr h h' a i (.int w) → h'.size = h.size → oArr Z h' a .int (vs.set i (.int w)) → oGo l Z a0 EL wd p e s m args below meth c R own bytes mx rt nm Q O D h' k n pc' Ls st) : oGo l Z a0 EL wd p e s m args below meth c R own bytes mx rt nm Q O D h k n pc Ls (.int x :: .int j :: .ref a :: st) := by
  subst hp hj hw
  have A0 := A
  obtain ⟨cl, h1, rfl, h3, h4⟩ := A
  refine oGo.write (fun T locs vm0 X hT hZ hown hb hx hn hm => ?_) ha (fun h' W hs => g h' W hs (A0.set W (rfl)))
  have q := stI (s := s.setVm vm0) X hx hZ hT h1 (own_inb rfl h3 hi) (g := mkF m pc Ls (.int x :: .int (Int32.ofNat i) :: .ref a :: st)) rfl rfl (by rw [hb]; exact hd)
  rw [own_n32 (by omega)] at q
  exact q
theorem oGo.lastore {a : Addr} {vs : List Value} {j : Int32} {i : Nat} {x w : Int64} (hd : decode bytes pc = .ok (.lastore, 1)) (hp : pc + 1 = pc') (A : oArr Z h a .long vs) (hj : j = Int32.ofNat i) (hi : i < vs.length) (hw : x = w) (ha : a ∈ D) (g : ∀ h', Wr h h' a i (.long w) → h'.size = h.size → oArr Z h' a .long (vs.set i (.long w)) → oGo l Z a0 EL wd p e s m args below meth c R own bytes mx rt nm Q O D h' k n pc' Ls st) : oGo l Z a0 EL wd p e s m args below meth c R own bytes mx rt nm Q O D h k n pc Ls (.long x :: .int j :: .ref a :: st) := by
  subst hp hj hw
  have A0 := A
  obtain ⟨cl, h1, rfl, h3, h4⟩ := A
  refine oGo.write (fun T locs vm0 X hT hZ hown hb hx hn hm => ?_) ha (fun h' W hs => g h' W hs (A0.set W (rfl)))
  have q := stJ (s := s.setVm vm0) X hx hZ hT h1 (own_inb rfl h3 hi) (g := mkF m pc Ls (.long x :: .int (Int32.ofNat i) :: .ref a :: st)) rfl rfl (by rw [hb]; exact hd)
  rw [own_n32 (by omega)] at q
  exact q
theorem oGo.newarray {aty : ArrayType} {z : Int32} {i : Nat} {k' n' : Nat} (hd : decode bytes pc = .ok (.newarray aty, 2)) (hp : pc + 2 = pc') (w : (Cond.arrayClass (newarray.typeOf aty)).before a0 Z = true) (hz : z = Int32.ofNat i) (cap : Nat) (hi : i ≤ cap) (hcap : cap * 8 ≤ 536870912) (hk : k + 1 = k') (hn : n + cap = n') (hc : k' ≤ R.cells) (hl : n' ≤ R.slots) (hfd : fits (newarray.typeOf aty) (defaultValue (newarray.typeOf aty)) = true)
    (g : ∀ (h' : Heap) (a : Nat), a = h.size → a < h'.size → Ext h h' → oArr Z h' a (newarray.typeOf aty) (List.replicate i (defaultValue (newarray.typeOf aty))) → oGo l Z a0 EL wd p e s m args below meth c R own bytes mx rt nm Q O (a :: D) h' k' n' pc' Ls (.ref a :: st)) : oGo l Z a0 EL wd p e s m args below meth c R own bytes mx rt nm Q O D h k n pc Ls (.int z :: st) := by
  subst hp hk hn hz
  have hb31 : i < 2147483648 := by omega
  refine oGo.grow (P := fun h' => oArr Z h' h.size (newarray.typeOf aty) (List.replicate i (defaultValue (newarray.typeOf aty)))) (D' := h.size :: D) (fun T locs vm0 X hT hZ hown hb hx hn hm => ?_) (fun h' q x hx => ?_) (fun h' E q => g h' _ rfl q.lt E q)
  · obtain ⟨T', h', cA, X', e', E, A, hst⟩ := newP (s := s.setVm vm0) X hx hZ w hT (g := mkF m pc Ls (.int (Int32.ofNat i) :: st)) rfl (by rw [hb]; exact hd) rfl (own_nn hb31) (cap := cap) (by rw [own_n32 hb31]; exact hi) hcap hc hl
    refine ⟨T', h', X', e', E, ⟨_, A, ?_, by simpa using hb31, fun v hv => ?_⟩, hst⟩
    · simp [newA, own_n32 hb31]
    · rw [(List.mem_replicate.mp hv).2]; exact hfd
  · rcases List.mem_cons.mp hx with rfl | hx
    · exact Or.inr ⟨Nat.le_refl _, q.lt⟩
    · exact Or.inl hx
/-! ### calls -/
theorem oCtr.back {y : MethodName} {b' : ByteArray} {mx' : Nat} {rt' : Option FieldType} {rm : Room} {len W : Nat} {as' : Array Value} {Q' : Option Value → Heap → Prop} {O' : Option Value → Heap → Addr → Prop} {D' : List Addr} {vm0 : Vm}
    (hM : oCtr [] l Z a0 EL wd y b' mx' rt' rm as' D' h Q' O') (hZ : Z.Warmed39 vm0) (wc : (Cond.code y b' mx' rt').before a0 Z = true) (wz : (Cond.initialized y.cls).before a0 Z = true) (hf : rm.frames + 1 ≤ R.frames) (hl : W + (mx' + 11) + rm.locals ≤ R.locals) (hEL : EW Z a0 EL) (hO : Ext Z.heap h) (H : CHv Z EL vm0 h) (hD : oDok Z EL vm0 h D') :
    BackS l R p e below (s.setVm vm0) args y len W (fun A a => a = as' ∧ A.U.heap = h ∧ A.cells + rm.cells ≤ R.cells ∧ A.slots + rm.slots ≤ R.slots)
      (fun A _ v B => ∃ L, (Q' v B.U.heap ∧ ∀ x, O' v B.U.heap x → Z.heap.size ≤ x ∧ x < B.U.heap.size ∧ Safe Z EL B.U.vm B.U.heap x) ∧ Fr Z.heap.size L ∧ Ext Z.heap B.U.heap ∧ B.locs = A.locs ++ L ∧ B.cells = A.cells + rm.cells ∧ B.slots = A.slots + rm.slots ∧ CHr Z EL vm0 h B.U.vm B.U.heap ∧ (wd ∨ A.U.WarmedH B.U.vm)) :=
  BackS.of_freeW (bytes := b') (maxL := mx') (ret := rt') (E := fun _ first o t L k n => k = rm.cells ∧ n = rm.slots ∧ (∃ v, o = .returned v ∧ Q' v t.heap ∧ ∀ x, O' v t.heap x → Z.heap.size ≤ x ∧ x < t.heap.size ∧ Safe Z EL t.vm t.heap x) ∧ Fr Z.heap.size L ∧ Ext Z.heap t.heap ∧ CHr Z EL first.vm first.heap t.vm t.heap ∧ (wd ∨ first.WarmedH t.vm)) hM hf hl
    (fun m meth c A a Y hp => have hU : Z.Warmed39 A.U.vm := wtrans (s := s.setVm vm0) hZ Y.warmed
      ⟨by show (Cond.and _ .tt).before a A.U = true; rw [Cond.before_and, mv hU wc]; rfl, mv hU wc, mv hU wz, hp.2.2.1, hp.2.2.2⟩)
    (fun m meth c A a g mk Y hp => ⟨hp.1, wtrans (s := s.setVm vm0) hZ Y.warmed, hp.2.1, hO, (CHv.at (T := A.U) Y hZ hEL H).1, hD.chr (CHv.at (T := A.U) Y hZ hEL H)⟩) (fun _ _ _ _ _ _ _ _ _ => trivial)
    (fun _ _ _ _ ⟨v, L, h1, h2, h3, h4, h5, h6, h7⟩ => ⟨L, _, _, h7, rfl, rfl, ⟨v, h1, h2⟩, h3, h4, h5, h6⟩)
    (fun m meth c A a g mk v t L k n Y hp _ _ ⟨e1, e2, ⟨v', e3, e4⟩, e5, e6, e7, e8⟩ => by
      cases e3; subst e1 e2
      refine ⟨L, e4, e5, e6, rfl, rfl, rfl, (CHv.at Y hZ hEL H).trans ?_, e8⟩
      rw [← hp.2.1]; exact e7)
theorem oGo.after {T : State} {locs : List Loc} {vm0 : Vm} {k0 : Nat} {rm : Room} {k' n' : Nat} {Q' : Option Value → Heap → Prop} {O' : Option Value → Heap → Addr → Prop} {rest : List Value} {as' : Array Value}
    (I : oInv l Z a0 EL wd p e s m args below meth c R own bytes mx rt nm D h k n T locs vm0 k0) (hk : k + rm.cells = k') (hn : n + rm.slots = n')
    (X : ∃ (v : Option Value) (vm₁ : Vm) (B : Pt), (s.setVm vm0).WarmedH vm₁ ∧ Stand p l e R ((s.setVm vm0).setVm B.U.vm) m args below meth c B.U B.locs B.cells B.slots ∧ (s.setVm vm0).Since B.U.vm B.U.heap.size ∧ T.heap.size ≤ B.U.heap.size ∧
      (fun (A : Pt) (_ : Array Value) (v : Option Value) (B : Pt) => ∃ L, (Q' v B.U.heap ∧ ∀ x, O' v B.U.heap x → Z.heap.size ≤ x ∧ x < B.U.heap.size ∧ Safe Z EL B.U.vm B.U.heap x) ∧ Fr Z.heap.size L ∧ Ext Z.heap B.U.heap ∧ B.locs = A.locs ++ L ∧ B.cells = A.cells + rm.cells ∧ B.slots = A.slots + rm.slots ∧ CHr Z EL vm0 h B.U.vm B.U.heap ∧ (wd ∨ A.U.WarmedH B.U.vm)) ⟨T.setVm vm₁, locs, k, n⟩ as' v B ∧
      Steps p.tables e below (T.setTop (mkF m pc Ls st)) (B.U.setTop (mkF m pc' Ls (v.toList ++ rest))))
    (g : ∀ v h', h.size ≤ h'.size → Q' v h' → ∃ D2 : List Addr, (∀ x ∈ D2, x ∈ D ∨ O' v h' x) ∧ oGo l Z a0 EL wd p e s m args below meth c R own bytes mx rt nm Q O D2 h' k' n' pc' Ls (v.toList ++ rest)) : oRes Z EL wd p e s below R Q O (T.setTop (mkF m pc Ls st)) := by
  subst hk hn
  obtain ⟨⟨hx, hb, hm, hr, hl, hn, hE⟩, hT, hO, hF, X0, hS, hk, hZ, hown, hC, hwd, hDk⟩ := I
  obtain ⟨v, vm₁, ⟨U, Lb, kb, nb⟩, hW1, XB, hSB, hsz, ⟨L, ⟨hq, hOq⟩, hFL, hOB, e1, e2, e3, hCB, hwB⟩, hst⟩ := X
  dsimp only [Pt.U, Pt.locs, Pt.cells, Pt.slots] at *
  subst e1 e2 e3
  rw [hT] at hsz
  obtain ⟨X', hS', hZ', hown'⟩ := rebS hS hk XB hSB hsz hZ hown
  have hwd' : wd ∨ s.WarmedH U.vm := by
    rcases hwd with q | q
    · exact Or.inl q
    · rcases hwB with r | r
      · exact Or.inl r
      · exact Or.inr (State.WarmedH.trans (t := s.setVm vm0) q (State.WarmedH.trans (s := s.setVm vm0) (t := T.setVm vm₁) hW1 r))
  obtain ⟨D2, hD2, g2⟩ := g v U.heap hsz hq
  have hDk2 : oDok Z EL U.vm U.heap D2 := fun x hx' => (hD2 x hx').elim (fun q => hDk.chr hCB x q) (fun q => hOq x q)
  obtain ⟨V, v', L', hs, r⟩ := g2 U (locs ++ L) U.vm U.heap.size ⟨⟨hx, hb, hm, hr, hl, hn, hE⟩, rfl, hOB, hF.app hFL, X', hS', Nat.le_refl _, hZ', hown', hC.trans hCB, hwd', hDk2⟩
  exact ⟨V, v', L', hst.trans hs, r⟩
theorem oGo.invokestatic {idx : Nat} {y : MethodName} {b' : ByteArray} {mx' : Nat} {rt' rs : Option FieldType} {ps : List FieldType} {rm : Room} {D' : List Addr} {Q' : Option Value → Heap → Prop} {O' : Option Value → Heap → Addr → Prop} {k' n' : Nat} {argsL rest : List Value}
    (hd : decode bytes pc = .ok (.invokestatic idx, 3)) (hp : pc + 3 = pc') (w1 : (Cond.methodLink own idx y).before a0 Z = true) (w2 : (Cond.static y).before a0 Z = true) (w3 : (Cond.initialized y.cls).before a0 Z = true) (w4 : (Cond.code y b' mx' rt').before a0 Z = true)
    (hy : y.cls ≠ "java/lang/invoke/MethodHandle" ∧ y.cls ≠ "java/lang/invoke/VarHandle") (pd : parseMethodDescriptor y.desc = some ⟨ps, rs⟩) (hll : argsL.length = ps.length) (hst : st = argsL.reverse ++ rest) (hsz : Ls.size = mx)
    (hM : oCtr [] l Z a0 EL wd y b' mx' rt' rm argsL.toArray D' h Q' O') (hD : ∀ x ∈ D', x ∈ D) (hf : rm.frames + 1 ≤ R.frames) (hl : (rest.map fun v => v.category).sum + (mx' + 11) + rm.locals ≤ R.locals) (hk : k + rm.cells = k') (hn : n + rm.slots = n') (hc : k' ≤ R.cells) (hs : n' ≤ R.slots)
    (g : ∀ v h', h.size ≤ h'.size → Q' v h' → ∃ D2 : List Addr, (∀ x ∈ D2, x ∈ D ∨ O' v h' x) ∧ oGo l Z a0 EL wd p e s m args below meth c R own bytes mx rt nm Q O D2 h' k' n' pc' Ls (v.toList ++ rest)) : oGo l Z a0 EL wd p e s m args below meth c R own bytes mx rt nm Q O D h k n pc Ls st := by
  subst hp hst
  intro T locs vm0 k0 I
  have I0 := I
  obtain ⟨⟨hx, hb, hm, hr, hlk, hnm, hE⟩, hT, hO, hF, X, hS, hk0, hZ, hown, hC, hwd, hDk⟩ := I
  refine oGo.after I0 hk hn (as' := argsL.toArray) (rest := rest) (callSS (s := s.setVm vm0) X hx hown (mvT (s := s.setVm vm0) hZ w1) (mvT (s := s.setVm vm0) hZ w2) (mvT (s := s.setVm vm0) hZ w3) (mvT (s := s.setVm vm0) hZ w4) hy
    (oCtr.back (W := (rest.map fun v => v.category).sum) hM hZ w4 w3 hf hl hE hO hC.1 (hDk.sub hD)) (g := mkF m pc Ls (argsL.reverse ++ rest)) rfl (hsz.trans hm.symm) (lenOf pd hll) rfl (by show 2 * 0 + _ ≤ _; omega) (by rw [hb]; exact hd) (fun _ _ => ⟨rfl, hT, by show k + _ ≤ _; omega, by show n + _ ≤ _; omega⟩)) g
theorem oGo.invokespecial {idx : Nat} {y : MethodName} {b' : ByteArray} {mx' : Nat} {rs : Option FieldType} {ps : List FieldType} {rm : Room} {D' : List Addr} {Q' : Option Value → Heap → Prop} {O' : Option Value → Heap → Addr → Prop} {k' n' : Nat} {a : Addr} {argsL rest : List Value}
    (hd : decode bytes pc = .ok (.invokespecial idx, 3)) (hp : pc + 3 = pc') (hi : y.name = "<init>") (w1 : (Cond.methodLink own idx y).before a0 Z = true) (w2 : (Cond.instanceMethod y).before a0 Z = true) (w3 : (Cond.initialized y.cls).before a0 Z = true) (w4 : (Cond.code y b' mx' none).before a0 Z = true)
    (hy : y.cls ≠ "java/lang/invoke/MethodHandle" ∧ y.cls ≠ "java/lang/invoke/VarHandle") (pd : parseMethodDescriptor y.desc = some ⟨ps, rs⟩) (hll : argsL.length = ps.length) (hst : st = argsL.reverse ++ .ref a :: rest) (hsz : Ls.size = mx)
    (hM : oCtr [] l Z a0 EL wd y b' mx' none rm (.ref a :: argsL).toArray D' h Q' O') (hD : ∀ x ∈ D', x ∈ D) (hf : rm.frames + 1 ≤ R.frames) (hl : (rest.map fun v => v.category).sum + (mx' + 11) + rm.locals ≤ R.locals) (hk : k + rm.cells = k') (hn : n + rm.slots = n') (hc : k' ≤ R.cells) (hs : n' ≤ R.slots)
    (g : ∀ v h', h.size ≤ h'.size → Q' v h' → ∃ D2 : List Addr, (∀ x ∈ D2, x ∈ D ∨ O' v h' x) ∧ oGo l Z a0 EL wd p e s m args below meth c R own bytes mx rt nm Q O D2 h' k' n' pc' Ls (v.toList ++ rest)) : oGo l Z a0 EL wd p e s m args below meth c R own bytes mx rt nm Q O D h k n pc Ls st := by
  subst hp hst
  intro T locs vm0 k0 I
  have I0 := I
  obtain ⟨⟨hx, hb, hm, hr, hlk, hnm, hE⟩, hT, hO, hF, X, hS, hk0, hZ, hown, hC, hwd, hDk⟩ := I
  refine oGo.after I0 hk hn (as' := (.ref a :: argsL).toArray) (rest := rest) (X.specialBackS hx hi hown (mvT (s := s.setVm vm0) hZ w1) (mvT (s := s.setVm vm0) hZ w2) (mvT (s := s.setVm vm0) hZ w4) hy
    (oCtr.back (W := (rest.map fun v => v.category).sum) hM hZ w4 w3 hf hl hE hO hC.1 (hDk.sub hD)) (g := mkF m pc Ls (argsL.reverse ++ .ref a :: rest)) rfl (hsz.trans hm.symm) (Steps.refl _) (lenOf pd hll) rfl (by show 2 * 0 + _ ≤ _; omega) (by rw [hb]; exact hd) (fun _ _ => ⟨rfl, hT, by show k + _ ≤ _; omega, by show n + _ ≤ _; omega⟩)) g
theorem own_notface {args : Array Value} {s : State} {C5 : String} {y y5 z5 : MethodName} (w : (Cond.selects C5 y5 z5).before args s = true) (h : z5.cls = y.cls) : NotFace s y := fun r0 h0 => by
  obtain ⟨c2, r2, m2, -, -, q3, -, kP, hkP, hkPi⟩ := Cond.selects_spec w
  have f1 := findClass_of_methodNamed q3
  have f2 := findClass_of_methodNamed h0
  rw [h] at f1
  have e := Option.some.inj (f1.symm.trans f2)
  rw [e] at hkP; exact ⟨kP, hkP, hkPi⟩
theorem oGo.invokevirtual {idx : Nat} {y z : MethodName} {Cn C5 : String} {y5 z5 : MethodName} {b' : ByteArray} {mx' : Nat} {rt' rs : Option FieldType} {ps : List FieldType} {rm : Room} {D' : List Addr} {Q' : Option Value → Heap → Prop} {O' : Option Value → Heap → Addr → Prop} {k' n' : Nat} {a : Addr} {argsL rest : List Value}
    (hd : decode bytes pc = .ok (.invokevirtual idx, 3)) (hp : pc + 3 = pc') (w1 : (Cond.methodLink own idx y).before a0 Z = true) (w2 : (Cond.declares y).before a0 Z = true) (w5 : (Cond.selects Cn y z).before a0 Z = true) (w7 : (Cond.selects C5 y5 z5).before a0 Z = true) (h7 : z5.cls = y.cls) (w6 : (Cond.instanceMethod z).before a0 Z = true) (w3 : (Cond.initialized z.cls).before a0 Z = true) (w4 : (Cond.code z b' mx' rt').before a0 Z = true)
    (hy : y.cls ≠ "java/lang/invoke/MethodHandle" ∧ y.cls ≠ "java/lang/invoke/VarHandle") (pd : parseMethodDescriptor y.desc = some ⟨ps, rs⟩) (hll : argsL.length = ps.length) (hst : st = argsL.reverse ++ .ref a :: rest) (hsz : Ls.size = mx) (E : Exa Z h a Cn)
    (hM : oCtr [] l Z a0 EL wd z b' mx' rt' rm (.ref a :: argsL).toArray D' h Q' O') (hD : ∀ x ∈ D', x ∈ D) (hf : rm.frames + 1 ≤ R.frames) (hl : (rest.map fun v => v.category).sum + (mx' + 11) + rm.locals ≤ R.locals) (hk : k + rm.cells = k') (hn : n + rm.slots = n') (hc : k' ≤ R.cells) (hs : n' ≤ R.slots)
    (g : ∀ v h', h.size ≤ h'.size → Q' v h' → ∃ D2 : List Addr, (∀ x ∈ D2, x ∈ D ∨ O' v h' x) ∧ oGo l Z a0 EL wd p e s m args below meth c R own bytes mx rt nm Q O D2 h' k' n' pc' Ls (v.toList ++ rest)) : oGo l Z a0 EL wd p e s m args below meth c R own bytes mx rt nm Q O D h k n pc Ls st := by
  subst hp hst
  intro T locs vm0 k0 I
  have I0 := I
  obtain ⟨⟨hx, hb, hm, hr, hlk, hnm, hE⟩, hT, hO, hF, X, hS, hk0, hZ, hown, hC, hwd, hDk⟩ := I
  obtain ⟨cq, kq, q1, q2, q3⟩ := isOf (s := s.setVm vm0) (T := T) hZ hT E
  refine oGo.after I0 hk hn (as' := (.ref a :: argsL).toArray) (rest := rest) (X.virtualBackS hx hown (mvT (s := s.setVm vm0) hZ w1) (mvT (s := s.setVm vm0) hZ w2) (own_notface (args := #[]) (mvT (s := s.setVm vm0) hZ w7) h7) (mvT (s := s.setVm vm0) hZ w5) (mvT (s := s.setVm vm0) hZ w6) hy
    (oCtr.back (W := (rest.map fun v => v.category).sum) hM hZ w4 w3 hf hl hE hO hC.1 (hDk.sub hD)) q1 q3 (g := mkF m pc Ls (argsL.reverse ++ .ref a :: rest)) rfl (hsz.trans hm.symm) (Steps.refl _) (lenOf pd hll) rfl (by show 2 * 0 + _ ≤ _; omega) (by rw [hb]; exact hd) (fun _ _ => ⟨rfl, hT, by show k + _ ≤ _; omega, by show n + _ ≤ _; omega⟩)) g
/-! ### the end -/
theorem oGo.leave {T : State} {locs : List Loc} {vm0 : Vm} {k0 : Nat} {v : Option Value} (I : oInv l Z a0 EL wd p e s m args below meth c R own bytes mx rt nm D h k n T locs vm0 k0) (hk : k ≤ R.cells) (hn : n ≤ R.slots) (hv : rt = none → v = none) (hq : Q v h) (hOx : ∀ x, O v h x → x ∈ D)
    (hst : ∀ fs, (∀ (f : JFrame) (acts : List Action), f.method = m → f.locked = none → f.entered = [] → (doReturn e (T.setTop f) acts v).1 = T.setFrames fs) → Steps p.tables e below (T.setTop (mkF m pc Ls st)) (T.setFrames fs)) : oRes Z EL wd p e s below R Q O (T.setTop (mkF m pc Ls st)) := by
  obtain ⟨⟨hx, hb, hm, hr, hl, hnm, hE⟩, hT, hO, hF, X, hS, hk0, hZ, hown, hC, hwd, hDk⟩ := I
  obtain ⟨fs, h1, h2, h3, h4⟩ := X.leaveW hS (by rw [hT]; exact hk0) (v := v) (by rw [hr]; exact hv) hl
  have hW : (s.setVm vm0).WarmedH T.vm := X.warmed
  refine ⟨T.setFrames fs, v, locs, hst fs h1, h2, h3, ⟨by show Q v T.heap; rw [hT]; exact hq, fun x qx => ?_⟩, hF, by show Ext Z.heap T.heap; rw [hT]; exact hO, ?_, ?_, h4.1, h4.2.1, h4.2.2.1, h4.2.2.2.mono hk hn⟩
  · have qx' : O v h x := by rw [← hT]; exact qx
    show Z.heap.size ≤ x ∧ x < T.heap.size ∧ Safe Z EL T.vm T.heap x
    rw [hT]; exact hDk.chr (CHv.at X hZ hE hC.1) x (hOx x qx')
  · show CHr Z EL s.vm s.heap T.vm T.heap
    rw [hT]; exact hC.trans (CHv.at X hZ hE hC.1)
  · exact hwd.imp id fun q => State.WarmedH.trans (t := s.setVm vm0) q hW
theorem oGo.ireturn {z : Int32} (hd : decode bytes pc = .ok (.ireturn, 1)) (hr : rt = some .int) (hk : k ≤ R.cells) (hn : n ≤ R.slots) (hq : Q (some (.int z)) h) (hOx : ∀ x, O (some (.int z)) h x → x ∈ D) : oGo l Z a0 EL wd p e s m args below meth c R own bytes mx rt nm Q O D h k n pc Ls (.int z :: st) := fun T locs vm0 k0 I =>
  oGo.leave I hk hn (fun q => by rw [hr] at q; cases q) hq hOx fun fs hfs => retOut I.2.2.2.2.1 I.1.1 (by rw [I.1.2.2.2.1]; exact hr) rfl (Or.inl ⟨rfl, Or.inl rfl, z, rfl⟩) (by rw [I.1.2.1]; exact hd) hfs
theorem oGo.nreturn {z w : Int32} {t : FieldType} (hd : decode bytes pc = .ok (.ireturn, 1)) (hr : rt = some t) (ht : t = .boolean ∨ t = .byte ∨ t = .char ∨ t = .short) (hw : nar t z = w) (hk : k ≤ R.cells) (hn : n ≤ R.slots) (hq : Q (some (.int w)) h) (hOx : ∀ x, O (some (.int w)) h x → x ∈ D) : oGo l Z a0 EL wd p e s m args below meth c R own bytes mx rt nm Q O D h k n pc Ls (.int z :: st) := fun T locs vm0 k0 I =>
  oGo.leave I hk hn (fun q => by rw [hr] at q; cases q) hq hOx fun fs hfs => retN I.2.2.2.2.1 I.1.1 (by rw [I.1.2.2.2.1]; exact hr) ht (by rw [I.1.2.1]; exact hd) (by rw [hw]; exact hfs)
theorem oGo.lreturn {z : Int64} (hd : decode bytes pc = .ok (.lreturn, 1)) (hr : rt = some .long) (hk : k ≤ R.cells) (hn : n ≤ R.slots) (hq : Q (some (.long z)) h) (hOx : ∀ x, O (some (.long z)) h x → x ∈ D) : oGo l Z a0 EL wd p e s m args below meth c R own bytes mx rt nm Q O D h k n pc Ls (.long z :: st) := fun T locs vm0 k0 I =>
  oGo.leave I hk hn (fun q => by rw [hr] at q; cases q) hq hOx fun fs hfs => retOut I.2.2.2.2.1 I.1.1 (by rw [I.1.2.2.2.1]; exact hr) rfl (Or.inr (Or.inl ⟨rfl, rfl, z, rfl⟩)) (by rw [I.1.2.1]; exact hd) hfs
theorem oGo.areturn {v : Value} {t : FieldType} (hd : decode bytes pc = .ok (.areturn, 1)) (hr : rt = some t) (ht : t.isReference = true) (hv : v.isRef = true) (hw : narrow t v = v) (hk : k ≤ R.cells) (hn : n ≤ R.slots) (hq : Q (some v) h) (hOx : ∀ x, O (some v) h x → x ∈ D) : oGo l Z a0 EL wd p e s m args below meth c R own bytes mx rt nm Q O D h k n pc Ls (v :: st) := fun T locs vm0 k0 I =>
  oGo.leave I hk hn (fun q => by rw [hr] at q; cases q) hq hOx fun fs hfs => retOut I.2.2.2.2.1 I.1.1 (by rw [I.1.2.2.2.1]; exact hr) hw (Or.inr (Or.inr (Or.inr (Or.inr ⟨rfl, ht, hv⟩)))) (by rw [I.1.2.1]; exact hd) hfs
theorem oGo.return_ (hd : decode bytes pc = .ok (.return_, 1)) (hr : rt = none) (hk : k ≤ R.cells) (hn : n ≤ R.slots) (hq : Q none h) (hOx : ∀ x, O none h x → x ∈ D) : oGo l Z a0 EL wd p e s m args below meth c R own bytes mx rt nm Q O D h k n pc Ls [] := fun T locs vm0 k0 I =>
  oGo.leave I hk hn (fun _ => rfl) hq hOx fun fs hfs => I.2.2.2.2.1.returnOut I.1.1 (by rw [I.1.2.2.2.1]; exact hr) (by rw [I.1.2.1]; exact hd) hfs
end Logic
/-! ### addresses are natural numbers -/
theorem own_ne {a b : Nat} (h : a ≠ b) : a ≠ b := h
theorem own_ltN {a n : Nat} (h : a < n) : a < n := h
theorem own_leN {a n : Nat} (h : a ≤ n) : a ≤ n := h
theorem own_ne_ge {x y n : Nat} (h : x < n) (g : n ≤ y) : x ≠ y := by omega
theorem own_ne_ge' {x y n : Nat} (h : x < n) (g : n ≤ y) : y ≠ x := by omega
theorem own_ne_or {x y z n : Nat} (h : x ≠ y) (l : x < n) (q : z = y ∨ n ≤ z) : x ≠ z := by rcases q with rfl | q; exact h; omega
theorem own_ne_or' {x y z n : Nat} (h : x ≠ y) (l : x < n) (q : z = y ∨ n ≤ z) : z ≠ x := Ne.symm (own_ne_or h l q)
theorem own_ge_or {y z n m : Nat} (h : m ≤ y) (l : m ≤ n) (q : z = y ∨ n ≤ z) : m ≤ z := by rcases q with rfl | q; exact h; omega
theorem own_lt_le {x n m : Nat} (h : x < n) (g : n ≤ m) : x < m := Nat.lt_of_lt_of_le h g
theorem own_le_le {x n m : Nat} (h : x ≤ n) (g : n ≤ m) : x ≤ m := Nat.le_trans h g
theorem own_ge_eq {a n : Nat} (h : a = n) : n ≤ a := by omega
theorem own_nin1 {a b : Nat} (h : a ≠ b) : a ∉ [b] := by simpa using h
theorem own_nin2 {a b c : Nat} (h : a ≠ b) (h2 : a ≠ c) : a ∉ [b, c] := by simp [h, h2]
theorem own_new1 {a n : Nat} {ws : List Nat} (h : n ≤ a) : ∀ x ∈ [a], x ∈ ws ∨ n ≤ x := fun x hx => Or.inr (by rw [List.mem_singleton.mp hx]; exact h)
theorem own_new2 {a b n : Nat} {ws : List Nat} (h : n ≤ a) (h2 : n ≤ b) : ∀ x ∈ [a, b], x ∈ ws ∨ n ≤ x := fun x hx => Or.inr (by rcases List.mem_cons.mp hx with rfl | hx; exact h; rw [List.mem_singleton.mp hx]; exact h2)
theorem own_D1 {t : Nat} {D : List Nat} {P : Nat → Prop} (h : P t) : ∀ x ∈ t :: D, x ∈ D ∨ P x := fun x hx => (List.mem_cons.mp hx).elim (fun e => Or.inr (e ▸ h)) Or.inl
/-! ### numbers and texts -/
abbrev oI (xs : List Int32) : List Value := xs.map Value.int
def lo8 (x : Int32) : Int32 := x.toInt8.toInt32
def hi8 (x : Int32) : Int32 := lo8 (x >>> ((8 : Int32) &&& 31))
def wide2 (cs : List Int32) : List Int32 := cs.flatMap fun c => [lo8 c, hi8 c]
theorem lo8_idem (x : Int32) : nar .byte (lo8 x) = lo8 x := by
  show (x.toInt8.toInt32).toInt8.toInt32 = x.toInt8.toInt32
  rw [Int8.toInt8_toInt32]
theorem own_succ (i : Nat) : Int32.ofNat i + 1 = Int32.ofNat (i + 1) := by
  rw [Int32.ofNat_add]; rfl
theorem own_lt {a b : Nat} (ha : a < 2147483648) (hb : b < 2147483648) : Int32.ofNat a < Int32.ofNat b ↔ a < b := by
  rw [Int32.lt_iff_toInt_lt, own_i32 ha, own_i32 hb]; omega
theorem own_eq {a b : Nat} (ha : a < 2147483648) (hb : b < 2147483648) : Int32.ofNat a = Int32.ofNat b ↔ a = b := by
  rw [← Int32.toInt_inj, own_i32 ha, own_i32 hb]; omega
theorem own_shl1 (i : Nat) : Int32.ofNat i <<< ((1 : Int32) &&& 31) = Int32.ofNat (2 * i) := by
  rw [shlm (m := 2) (by decide), Nat.mul_comm, Int32.ofNat_mul]; rfl
theorem own_ge0 {x : Int32} : ¬ x < 0 ↔ 0 ≤ x.toInt := by rw [Int32.lt_iff_toInt_lt]; simp
theorem own_le {x : Int32} {n : Int32} : ¬ n < x ↔ x.toInt ≤ n.toInt := by rw [Int32.lt_iff_toInt_lt]; omega
/-- an int between two bounds, as a natural number -/
theorem own_nat {x : Int32} {N : Nat} (h0 : 0 ≤ x.toInt) (h1 : x.toInt < N) : ∃ i : Nat, i < N ∧ x = Int32.ofNat i := by
  refine ⟨x.toInt.toNat, by omega, ?_⟩
  apply Int32.toInt_inj.mp
  have := Int32.toInt_lt x
  rw [own_i32 (by omega)]; omega
theorem own_char {x : Int32} (h : fits .char (.int x) = true) : ¬ x < 0 ∧ ¬ 65535 < x := rng_char h
theorem own_take_set {α : Type} (xs : List α) (i : Nat) (v : α) (h : i < xs.length) : (xs.set i v).take (i + 1) = xs.take i ++ [v] := by
  rw [List.take_set, List.take_add_one, List.set_append_right _ _ (by simp; omega)]
  simp [h, Nat.min_eq_left (Nat.le_of_lt h)]
theorem own_take_succ {α : Type} (xs : List α) (i : Nat) (v : α) (h : xs[i]? = some v) : xs.take (i + 1) = xs.take i ++ [v] := by
  rw [List.take_add_one, h]; rfl
theorem wide2_len (cs : List Int32) : (wide2 cs).length = 2 * cs.length := by
  induction cs with
  | nil => rfl
  | cons c cs ih => simp only [wide2, List.flatMap_cons, List.length_append, List.length_cons, List.length_nil] at ih ⊢; rw [ih]; omega
theorem wide2_get (cs : List Int32) : ∀ (i : Nat) (c : Int32), cs[i]? = some c → (wide2 cs)[2 * i]? = some (lo8 c) ∧ (wide2 cs)[2 * i + 1]? = some (hi8 c) := by
  induction cs with
  | nil => intro i c h; simp at h
  | cons a cs ih =>
    intro i c h
    cases i with
    | zero => simp at h; subst h; exact ⟨rfl, rfl⟩
    | succ i =>
      have := ih i c (by simpa using h)
      have e : wide2 (a :: cs) = lo8 a :: hi8 a :: wide2 cs := rfl
      rw [e, show 2 * (i + 1) = 2 * i + 1 + 1 by omega]
      simpa using this
theorem wide2_lo (cs : List Int32) (i : Nat) (c : Int32) (h : cs[i]? = some c) : (oI (wide2 cs))[2 * i]? = some (.int (lo8 c)) := by rw [List.getElem?_map, (wide2_get cs i c h).1]; rfl
theorem wide2_hi (cs : List Int32) (i : Nat) (c : Int32) (h : cs[i]? = some c) : (oI (wide2 cs))[2 * i + 1]? = some (.int (hi8 c)) := by rw [List.getElem?_map, (wide2_get cs i c h).2]; rfl
theorem wide2_step (cs : List Int32) (vs : List Value) (i : Nat) (c : Int32) (h : cs[i]? = some c) (hv : 2 * i + 1 < vs.length) (ht : vs.take (2 * i) = (oI (wide2 cs)).take (2 * i)) :
    ((vs.set (2 * i) (.int (lo8 c))).set (2 * i + 1) (.int (hi8 c))).take (2 * (i + 1)) = (oI (wide2 cs)).take (2 * (i + 1)) := by
  rw [show 2 * (i + 1) = 2 * i + 1 + 1 by omega, own_take_set _ _ _ (by simpa using hv), own_take_set _ _ _ (by omega), ht, own_take_succ _ _ _ (wide2_hi cs i c h), own_take_succ _ _ _ (wide2_lo cs i c h)]
def oStr (Z : State) (h : Heap) (x t : Addr) (cs : List Int32) : Prop := Exa Z h x "java/lang/String" ∧ Fld Z h x "java/lang/String" "value" "[B" (.ref t) ∧
  ((Fld Z h x "java/lang/String" "coder" "B" (.int 0) ∧ oArr Z h t .byte (oI (cs.map lo8)) ∧ ∀ c ∈ cs, ¬ 255 < c) ∨ (Fld Z h x "java/lang/String" "coder" "B" (.int 1) ∧ oArr Z h t .byte (oI (wide2 cs)))) ∧ ∀ c ∈ cs, ¬ c < 0 ∧ ¬ 65535 < c
theorem shr0 (c : Int32) : c >>> ((0 : Int32) &&& 31) = c := by
  rw [show ((0 : Int32) &&& 31) = 0 from by decide]; simp
theorem own_toNat {x : Int32} (h0 : 0 ≤ x.toInt) : (x.toBitVec.toNat : Int) = x.toInt := by
  have := x.toBitVec.isLt
  have e : x.toInt = x.toBitVec.toInt := rfl
  rw [e] at h0 ⊢
  rw [BitVec.toInt_eq_toNat_cond] at h0 ⊢
  split at h0 <;> split <;> omega
theorem own_ofNat {x : Int32} {n : Nat} (h : x.toBitVec.toNat = n) : x = Int32.ofNat n := by
  apply Int32.toBitVec_inj.mp
  apply BitVec.eq_of_toNat_eq
  rw [h]
  show _ = (BitVec.ofNat 32 n).toNat
  rw [BitVec.toNat_ofNat, ← h]; have := x.toBitVec.isLt; omega
theorem lo8_and (x : Int32) : (lo8 x &&& 255).toBitVec.toNat = x.toBitVec.toNat % 256 := by
  have h : (lo8 x).toBitVec = (x.toBitVec.signExtend 8).signExtend 32 := by rw [lo8, Int8.toBitVec_toInt32, Int32.toBitVec_toInt8]
  have e : ((x.toBitVec.signExtend 8).signExtend 32).toNat % 256 = x.toBitVec.toNat % 256 := by
    have hlt := x.toBitVec.isLt
    simp only [BitVec.toNat_setWidth, BitVec.toNat_signExtend]
    split <;> split <;> omega
  rw [Int32.toBitVec_and, BitVec.toNat_and, h, ← e]
  exact Nat.and_two_pow_sub_one_eq_mod _ 8
theorem own_i2c (x : Int32) : (x.toUInt32.toUInt16.toUInt32.toInt32).toBitVec.toNat = x.toBitVec.toNat % 65536 := by
  show ((x.toBitVec.setWidth 16).setWidth 32).toNat = _
  have := x.toBitVec.isLt
  simp only [BitVec.toNat_setWidth]; omega
theorem nar_char {c : Int32} (h0 : ¬ c < 0) (h1 : ¬ 65535 < c) : nar .char c = c := by
  have a := own_toNat (own_ge0.mp h0)
  have b := own_le.mp h1
  have e : (65535 : Int32).toInt = 65535 := rfl
  apply Int32.toBitVec_inj.mp
  apply BitVec.eq_of_toNat_eq
  show (c.toUInt32.toUInt16.toUInt32.toInt32).toBitVec.toNat = _
  rw [own_i2c]; omega
theorem nar_nar (x : Int32) : nar .char (nar .char x) = nar .char x := nar_char (own_char (fits_nar_char x)).1 (own_char (fits_nar_char x)).2
theorem lat_says {c : Int32} (h0 : ¬ c < 0) (h1 : ¬ 255 < c) : nar .char ((lo8 c &&& 255).toUInt32.toUInt16.toUInt32.toInt32) = c := by
  have a := own_toNat (own_ge0.mp h0)
  have b := own_le.mp h1
  have e : (255 : Int32).toInt = 255 := rfl
  apply Int32.toBitVec_inj.mp
  apply BitVec.eq_of_toNat_eq
  show ((lo8 c &&& 255).toUInt32.toUInt16.toUInt32.toInt32.toUInt32.toUInt16.toUInt32.toInt32).toBitVec.toNat = _
  rw [own_i2c, own_i2c, lo8_and]; omega
theorem pair_says {c : Int32} (h0 : ¬ c < 0) (h1 : ¬ 65535 < c) : nar .char ((((lo8 c &&& 255) <<< ((0 : Int32) &&& 31)) ||| ((hi8 c &&& 255) <<< ((8 : Int32) &&& 31))).toUInt32.toUInt16.toUInt32.toInt32) = c := by
  have a := own_toNat (own_ge0.mp h0)
  have b := own_le.mp h1
  have e : (65535 : Int32).toInt = 65535 := rfl
  have hn : c.toBitVec.toNat < 65536 := by omega
  have a1 := lo8_and c
  have a2 : (hi8 c &&& 255).toBitVec.toNat = c.toBitVec.toNat / 256 := by
    rw [hi8, lo8_and]
    have e : ((8 : Int32) &&& 31) = 8 := by decide
    rw [e, Int32.toBitVec_shiftRight]
    have e2 : ((8 : Int32).toBitVec.smod 32) = 8#32 := by decide
    rw [e2, BitVec.sshiftRight_eq', BitVec.toNat_sshiftRight_of_msb_false (by rw [BitVec.msb_eq_false_iff_two_mul_lt]; omega)]
    show c.toBitVec.toNat >>> 8 % 256 = _
    rw [Nat.shiftRight_eq_div_pow]
    omega
  rw [shlm (x := lo8 c &&& 255) (k := 0) (m := 1) (by decide), shlm (x := hi8 c &&& 255) (k := 8) (m := 256) (by decide), Int32.mul_one]
  apply Int32.toBitVec_inj.mp
  apply BitVec.eq_of_toNat_eq
  show ((((lo8 c &&& 255) ||| ((hi8 c &&& 255) * 256)).toUInt32.toUInt16.toUInt32.toInt32).toUInt32.toUInt16.toUInt32.toInt32).toBitVec.toNat = _
  rw [own_i2c, own_i2c, Int32.toBitVec_or, BitVec.toNat_or, a1, Int32.toBitVec_mul, BitVec.toNat_mul, a2]
  have e3 : (c.toBitVec.toNat / 256 * (256 : Int32).toBitVec.toNat) % 2 ^ 32 = 2 ^ 8 * (c.toBitVec.toNat / 256) := by
    show (c.toBitVec.toNat / 256 * 256) % 4294967296 = _
    omega
  rw [e3, Nat.or_comm, ← Nat.two_pow_add_eq_or_of_lt (by omega)]
  omega
theorem own_shr1 {n : Nat} (h : 2 * n < 2147483648) : Int32.ofNat (2 * n) >>> ((1 : Int32) &&& 31) = Int32.ofNat n := by
  have a := own_toNat (x := Int32.ofNat (2 * n)) (by rw [own_i32 h]; omega)
  rw [own_i32 h] at a
  apply own_ofNat
  rw [show ((1 : Int32) &&& 31) = 1 by decide, Int32.toBitVec_shiftRight, show ((1 : Int32).toBitVec.smod 32) = 1#32 by decide, BitVec.sshiftRight_eq', BitVec.toNat_sshiftRight_of_msb_false (by rw [BitVec.msb_eq_false_iff_two_mul_lt]; omega)]
  show (Int32.ofNat (2 * n)).toBitVec.toNat >>> 1 = _
  rw [Nat.shiftRight_eq_div_pow]; omega
theorem own_and_lo (x m : Int32) (hm : ¬ m < 0) : ¬ (x &&& m) < 0 := own_ge0.mpr ((c_andS x m).2.2 (own_ge0.mp hm))
theorem own_and_hi (x m : Int32) (hm : ¬ m < 0) : ¬ m < (x &&& m) := by
  rw [own_le]
  have a := own_toNat (own_ge0.mp (own_and_lo x m hm))
  have b := own_toNat (own_ge0.mp hm)
  have c : (x &&& m).toBitVec.toNat ≤ m.toBitVec.toNat := by
    rw [Int32.toBitVec_and, BitVec.toNat_and]; exact Nat.and_le_right
  omega
theorem own_sub {x y : Int32} (h1 : -2147483648 ≤ x.toInt - y.toInt) (h2 : x.toInt - y.toInt < 2147483648) : (x - y).toInt = x.toInt - y.toInt := by
  rw [Int32.toInt_sub]
  exact Int.bmod_eq_of_le (by omega) (by omega)
theorem own_subI {i j : Nat} (hi : i < 1000000) (hj : j < 1000000) : (Int32.ofNat j - Int32.ofNat i).toInt = (j : Int) - i := by
  have a := own_i32 (i := i) (by omega)
  have b := own_i32 (i := j) (by omega)
  rw [own_sub (by omega) (by omega), a, b]
theorem own_subc {x k : Int32} (h0 : 0 ≤ k.toInt) (h1 : k.toInt ≤ x.toInt) : (x - k).toInt = x.toInt - k.toInt := by
  have := Int32.toInt_lt x
  exact own_sub (by omega) (by omega)
theorem own_eqI {args : Array Value} {first s : State} {o : Option Outcome} {idx : List Nat} {t : Term} {n : Int32} (h : (Cond.eq t (Term.int n)).value args first o s idx = some true) : t.eval args first o idx s = some (.int n) := by
  simp only [Cond.value, Term.int_eval] at h
  cases ht : t.eval args first o idx s with
  | none => simp [ht] at h
  | some x => cases x <;> simp [ht] at h ⊢; exact h
theorem own_255 {c : Int32} (h : ¬ 255 < c) : ¬ 65535 < c := by
  rw [own_le] at h ⊢
  have e : (255 : Int32).toInt = 255 := rfl
  have e2 : (65535 : Int32).toInt = 65535 := rfl
  omega
theorem own_b255 (x : Int32) : ¬ (x &&& 255).toUInt32.toUInt16.toUInt32.toInt32 < 0 ∧ ¬ 255 < (x &&& 255).toUInt32.toUInt16.toUInt32.toInt32 := by
  have h0 := own_and_lo x 255 (by decide)
  have h1 := own_and_hi x 255 (by decide)
  have e : (x &&& 255).toUInt32.toUInt16.toUInt32.toInt32 = x &&& 255 := nar_char h0 (own_255 h1)
  rw [e]; exact ⟨h0, h1⟩
theorem own_irem (x k : Int32) (n : Nat) (h0 : 0 < n) (h1 : n < 2147483648) (hk : k = Int32.ofNat n) : ∃ i : Nat, i < n ∧ (x &&& 2147483647) % k = Int32.ofNat i := by
  have a := own_ge0.mp (own_and_lo x 2147483647 (by decide))
  have e : k.toInt = (n : Int) := by rw [hk, own_i32 h1]
  have b := (c_irem (x &&& 2147483647) k (n : Int) e).1 a
  refine own_nat ?_ ?_
  · rw [b]; exact Int.emod_nonneg _ (by omega)
  · rw [b]; exact Int.emod_lt_of_pos _ (by omega)
theorem own_subN {i j : Nat} (h : i ≤ j) (hj : j < 2147483648) : Int32.ofNat j - Int32.ofNat i = Int32.ofNat (j - i) := by
  apply Int32.toInt_inj.mp
  have a := own_i32 (i := i) (by omega)
  have b := own_i32 hj
  have c := own_i32 (i := j - i) (by omega)
  rw [own_sub (by omega) (by omega), a, b, c]; omega
theorem own_add2 (i : Nat) : Int32.ofNat i + 2 = Int32.ofNat (i + 2) := by rw [Int32.ofNat_add]; rfl
theorem shl0 (c : Int32) : c <<< ((0 : Int32) &&& 31) = c := by rw [shlm (m := 1) (by decide), Int32.mul_one]
theorem own_app_take {vs : List Value} {cs ds : List Int32} (hv : vs.take cs.length = oI (cs.map lo8)) (hl : cs.length + ds.length ≤ vs.length) : (vs.take cs.length ++ oI (ds.map lo8) ++ vs.drop (cs.length + ds.length)).take (cs.length + ds.length) = oI ((cs ++ ds).map lo8) := by
  rw [hv, List.take_left' (by simp)]; simp
theorem own_sub_map (cs : List Int32) (i k : Nat) : ((oI (cs.map lo8)).drop i).take k = oI (((cs.drop i).take k).map lo8) := by
  simp [List.map_drop, List.map_take]
section Logic2
variable {l : Launch} {Z : State} {a0 : Array Value} {EL : List (String × Nat)} {wd : Prop} {p : Program} {e : Env} {s : State} {m : MethodId} {args : Array Value} {below : List Frame} {meth : Method} {c : Code} {R : Room} {own : String} {bytes : ByteArray} {mx : Nat} {rt : Option FieldType} {nm : String}
  {Q : Option Value → Heap → Prop} {O : Option Value → Heap → Addr → Prop} {D : List Addr} {h : Heap} {k n : Nat} {pc pc' pc1 pc2 : Nat} {Ls Ls' : Array Slot} {st st' : List Value}
/-- a String constant whose text is known -/
theorem oGo.ldc_str {idx : Nat} {text : String} {vs : List Value} {k' n' : Nat} (hd : decode bytes pc = .ok (.ldc idx, 2)) (hp : pc + 2 = pc') (hwd : wd) (w : (Cond.stringLink own idx text).before a0 Z = true) (wS : ∀ a ∈ Bundle.stringAtoms, a.before a0 Z = true) (hmem : (own, idx) ∈ EL)
    (ht : (∀ c ∈ text.toList, c.toNat < 256) ∧ text.toList.map (fun c => Value.int (Jvm.Lit.byteI c.toNat.toUInt16)) = vs) (hvl : vs.length < 1000) (hk : k + 2 = k') (hn : n + (4 * text.toList.length + 4) = n') (hc : k' ≤ R.cells) (hl : n' ≤ R.slots)
    (g : ∀ (h' : Heap) (a b : Nat), Ext h h' → Exa Z h' a "java/lang/String" → Fld Z h' a "java/lang/String" "coder" "B" (.int 0) → Fld Z h' a "java/lang/String" "value" "[B" (.ref b) → oArr Z h' b .byte vs → a < h'.size → b < h'.size → (∀ x : Nat, x ∈ D → x ≠ a ∧ x ≠ b) → oGo l Z a0 EL wd p e s m args below meth c R own bytes mx rt nm Q O D h' k' n' pc' Ls (.ref a :: st)) : oGo l Z a0 EL wd p e s m args below meth c R own bytes mx rt nm Q O D h k n pc Ls st := by
  subst hp hk hn
  intro T locs vm0 k0 I
  obtain ⟨⟨hx, hb, hm, hr, hlk, hnm, hE⟩, hT, hO, hF, X, hS, hk0, hZ, hown, hC, hw2, hDk⟩ := I
  have hbig : 4 * text.toList.length ≤ 536870912 := by
    have : text.toList.length = vs.length := by rw [← ht.2]; simp
    omega
  obtain ⟨a, T', h', k1, b, kk, X', hT', E, hS', hk1, hZ', hown', x1, x2, x3, x4, x5, x6, x7, -, x8, hst⟩ := ldcCH X hx hZ hown w wS hT hS hk0 hE hmem hC.1 ht (z := Int32.ofNat vs.length) (own_nn (by omega)) (by rw [own_n32 (by omega)]) (g := mkF m pc Ls st) rfl (by rw [hb]; exact hd) (n := 4 * text.toList.length) (Nat.le_refl _) hbig hc hl
  obtain ⟨V, v, L, hs, r⟩ := g h' a b E x1 x2 x3 (oArr.of_arv x4 (by rw [own_n32 (by omega)])) x5 x6 (fun x hx' => x8 x (x7.safe (hDk x hx').2.1 (hDk x hx').2.2)) T' locs T'.vm k1 ⟨⟨hx, hb, hm, hr, hlk, hnm, hE⟩, hT', ext_trans hO E, hF, X', hS', hk1, hZ', hown', hC.trans x7, Or.inl hwd, hDk.chr x7⟩
  exact ⟨V, v, L, hst V hs, r⟩
/-- a String constant of which nothing is asked -/
theorem oGo.ldc_op {idx : Nat} {text : String} {k' n' : Nat} (hd : decode bytes pc = .ok (.ldc idx, 2)) (hp : pc + 2 = pc') (hwd : wd) (w : (Cond.stringLink own idx text).before a0 Z = true) (wS : ∀ a ∈ Bundle.stringAtoms, a.before a0 Z = true)
    (hbig : 4 * text.toList.length ≤ 536870912) (hk : k + 2 = k') (hn : n + (4 * text.toList.length + 4) = n') (hc : k' ≤ R.cells) (hl : n' ≤ R.slots) (g : ∀ (h' : Heap) (a : Nat), Ext h h' → oGo l Z a0 EL wd p e s m args below meth c R own bytes mx rt nm Q O D h' k' n' pc' Ls (.ref a :: st)) : oGo l Z a0 EL wd p e s m args below meth c R own bytes mx rt nm Q O D h k n pc Ls st := by
  subst hp hk hn
  intro T locs vm0 k0 I
  obtain ⟨⟨hx, hb, hm, hr, hlk, hnm, hE⟩, hT, hO, hF, X, hS, hk0, hZ, hown, hC, hw2, hDk⟩ := I
  obtain ⟨a, T', h', k1, X', hT', E, hS', hk1, hZ', hown', x7, -, hst⟩ := ldcOH X hx hZ hown w wS hT hS hk0 hE hC.1 (g := mkF m pc Ls st) rfl (by rw [hb]; exact hd) (n := 4 * text.toList.length) (Nat.le_refl _) hbig hc hl
  obtain ⟨V, v, L, hs, r⟩ := g h' a E T' locs T'.vm k1 ⟨⟨hx, hb, hm, hr, hlk, hnm, hE⟩, hT', ext_trans hO E, hF, X', hS', hk1, hZ', hown', hC.trans x7, Or.inl hwd, hDk.chr x7⟩
  exact ⟨V, v, L, hst V hs, r⟩
/-- invokevirtual of a private method -/
theorem oGo.invokeprivate {idx : Nat} {y : MethodName} {Cn : String} {b' : ByteArray} {mx' : Nat} {rt' rs : Option FieldType} {ps : List FieldType} {rm : Room} {D' : List Addr} {Q' : Option Value → Heap → Prop} {O' : Option Value → Heap → Addr → Prop} {k' n' : Nat} {a : Addr} {argsL rest : List Value}
    (hd : decode bytes pc = .ok (.invokevirtual idx, 3)) (hp : pc + 3 = pc') (w1 : (Cond.methodLink own idx y).before a0 Z = true) (w2 : (Cond.privateMethod y).before a0 Z = true) (w5 : (Cond.selects Cn y y).before a0 Z = true) (w6 : (Cond.instanceMethod y).before a0 Z = true) (w3 : (Cond.initialized y.cls).before a0 Z = true) (w4 : (Cond.code y b' mx' rt').before a0 Z = true)
    (hy : y.cls ≠ "java/lang/invoke/MethodHandle" ∧ y.cls ≠ "java/lang/invoke/VarHandle") (pd : parseMethodDescriptor y.desc = some ⟨ps, rs⟩) (hll : argsL.length = ps.length) (hst : st = argsL.reverse ++ .ref a :: rest) (hsz : Ls.size = mx) (E : Exa Z h a Cn)
    (hM : oCtr [] l Z a0 EL wd y b' mx' rt' rm (.ref a :: argsL).toArray D' h Q' O') (hD : ∀ x ∈ D', x ∈ D) (hf : rm.frames + 1 ≤ R.frames) (hl : (rest.map fun v => v.category).sum + (mx' + 11) + rm.locals ≤ R.locals) (hk : k + rm.cells = k') (hn : n + rm.slots = n') (hc : k' ≤ R.cells) (hs : n' ≤ R.slots)
    (g : ∀ v h', h.size ≤ h'.size → Q' v h' → ∃ D2 : List Addr, (∀ x ∈ D2, x ∈ D ∨ O' v h' x) ∧ oGo l Z a0 EL wd p e s m args below meth c R own bytes mx rt nm Q O D2 h' k' n' pc' Ls (v.toList ++ rest)) : oGo l Z a0 EL wd p e s m args below meth c R own bytes mx rt nm Q O D h k n pc Ls st := by
  subst hp hst
  intro T locs vm0 k0 I
  have I0 := I
  obtain ⟨⟨hx, hb, hm, hr, hlk, hnm, hE⟩, hT, hO, hF, X, hS, hk0, hZ, hown, hC, hwd, hDk⟩ := I
  have hi' := mvT (s := s.setVm vm0) (args := args) hZ w6
  have hc' := mvT (s := s.setVm vm0) (args := args) hZ w4
  have hs' := mvT (s := s.setVm vm0) (args := args) hZ w5
  have hpr := Cond.privateMethod_at (mvP (s := s.setVm vm0) (args := args) hZ w2)
  obtain ⟨mk, mM, n1, n2, n3, n4⟩ := Cond.instanceMethod_spec hi'
  obtain ⟨mM', cM, n5, -, -, -, -, -, -, n6⟩ := Cond.code_spec n1 hc'
  cases n2.symm.trans n5
  obtain ⟨c2, r2, m2, -, -, n7, -, kP, n8, n9⟩ := Cond.selects_spec hs'
  cases n1.symm.trans n7
  obtain ⟨cell, e1, e2⟩ := E.cell
  obtain ⟨vm₁, X₁, st1⟩ := X.invokevirtual hx hown (mvT (s := s.setVm vm0) hZ w1) n1 n2 n3 n8 n9 hy (a := a) (cell := cell) (by rw [hT]; exact e1) e2 (selectMethod_private n2 (hpr mk mM n1 n2)) n2 n4 n8 n9 (g := mkF m pc Ls (argsL.reverse ++ .ref a :: rest)) rfl (argsL := argsL) (rest := rest) (lenOf pd hll _ n6) rfl (by rw [hb]; exact hd)
  obtain ⟨v, B, X2, hS2, hgr, hpo, hst2⟩ := (oCtr.back (p := p) (e := e) (s := s) (args := args) (below := below) (R := R) (len := 3) (W := (rest.map fun v => v.category).sum) hM hZ w4 w3 hf hl hE hO hC.1 (hDk.sub hD)) m meth c ⟨T.setVm vm₁, locs, k, n⟩ (mkF m pc Ls rest) (.invokevirtual idx) mk (.ref a :: argsL).toArray X₁ rfl (hsz.trans hm.symm) (by show decode c.code pc = _; rw [hb]; exact hd) (by show 2 * 0 + (rest.map fun v => v.category).sum ≤ _; omega) (X₁.named n1) ⟨rfl, hT, by show k + _ ≤ _; omega, by show n + _ ≤ _; omega⟩
  exact oGo.after I0 hk hn (as' := (.ref a :: argsL).toArray) (rest := rest) ⟨v, vm₁, B, X₁.warmed, X2, hS2, hgr, hpo, (st1 _ fun acts => by rw [doInvoke_state]; exact Steps.refl _).trans hst2⟩ g
/-- invokespecial of a superclass's method -/
theorem oGo.invokesuper {idx : Nat} {y : MethodName} {Cn : String} {b' : ByteArray} {mx' : Nat} {rt' rs : Option FieldType} {ps : List FieldType} {rm : Room} {D' : List Addr} {Q' : Option Value → Heap → Prop} {O' : Option Value → Heap → Addr → Prop} {k' n' : Nat} {a : Addr} {argsL rest : List Value}
    (hd : decode bytes pc = .ok (.invokespecial idx, 3)) (hp : pc + 3 = pc') (hni : y.name ≠ "<init>") (w1 : (Cond.methodLink own idx y).before a0 Z = true) (w2 : (Cond.superclass own y.cls).before a0 Z = true) (w6 : (Cond.instanceMethod y).before a0 Z = true) {C5 : String} {y5 z5 : MethodName} (w5 : (Cond.selects C5 y5 z5).before a0 Z = true) (h5 : z5.cls = y.cls) (w3 : (Cond.initialized y.cls).before a0 Z = true) (w4 : (Cond.code y b' mx' rt').before a0 Z = true)
    (hy : y.cls ≠ "java/lang/invoke/MethodHandle" ∧ y.cls ≠ "java/lang/invoke/VarHandle") (pd : parseMethodDescriptor y.desc = some ⟨ps, rs⟩) (hll : argsL.length = ps.length) (hst : st = argsL.reverse ++ .ref a :: rest) (hsz : Ls.size = mx) (E : Exa Z h a Cn)
    (hM : oCtr [] l Z a0 EL wd y b' mx' rt' rm (.ref a :: argsL).toArray D' h Q' O') (hD : ∀ x ∈ D', x ∈ D) (hf : rm.frames + 1 ≤ R.frames) (hl : (rest.map fun v => v.category).sum + (mx' + 11) + rm.locals ≤ R.locals) (hk : k + rm.cells = k') (hn : n + rm.slots = n') (hc : k' ≤ R.cells) (hs : n' ≤ R.slots)
    (g : ∀ v h', h.size ≤ h'.size → Q' v h' → ∃ D2 : List Addr, (∀ x ∈ D2, x ∈ D ∨ O' v h' x) ∧ oGo l Z a0 EL wd p e s m args below meth c R own bytes mx rt nm Q O D2 h' k' n' pc' Ls (v.toList ++ rest)) : oGo l Z a0 EL wd p e s m args below meth c R own bytes mx rt nm Q O D h k n pc Ls st := by
  subst hp hst
  intro T locs vm0 k0 I
  have I0 := I
  obtain ⟨⟨hx, hb, hm, hr, hlk, hnm, hE⟩, hT, hO, hF, X, hS, hk0, hZ, hown, hC, hwd, hDk⟩ := I
  obtain ⟨mk, mM, n1, n2, n3, n4⟩ := Cond.instanceMethod_spec (mvT (s := s.setVm vm0) (args := args) hZ w6)
  obtain ⟨mM', cM, n5, -, -, -, -, -, -, n6⟩ := Cond.code_spec n1 (mvT (s := s.setVm vm0) (args := args) hZ w4)
  cases n2.symm.trans n5
  have hcn := findClass_of_methodNamed n1
  obtain ⟨dk, hdk, -⟩ := Vm.findClass_spec (vm := (s.setVm vm0).vm) hown
  obtain ⟨kp, hkp, -⟩ := Vm.findClass_spec hcn
  have ws := mvT (s := s.setVm vm0) (args := args) hZ w2
  have hown' : (s.setVm vm0).vm.findClass own = some m.cls := hown
  simp only [Cond.before, Cond.holds, Cond.value, hown', hcn, hdk, hkp, Option.bind_some, Option.map_some] at ws
  have ws' : ((dk.super = some mk.cls ∧ dk.kind = .ordinary) ∧ kp.kind = .ordinary) ∧ dk.isInterface = false := by simpa using ws
  obtain ⟨c5, r5, m5, -, -, f5, -, kP, f6, f7⟩ := Cond.selects_spec (mvT (s := s.setVm vm0) (args := args) hZ w5)
  have f8 := findClass_of_methodNamed f5
  rw [h5] at f8
  have f9 : mk.cls = m5.cls := Option.some.inj (hcn.symm.trans f8)
  have hki : kp.isInterface = false := by rw [f9] at hkp; cases hkp.symm.trans f6; exact f7
  have hsame : (Cond.sameMethod y.cls y.cls y.name y.desc).before args (s.setVm vm0) = true := by
    have q := State.methodFound?_of_named n1 hy
    have hcn' : vm0.findClass y.cls = some mk.cls := hcn
    have hkp' : vm0.classes[mk.cls]? = some kp := hkp
    simp [Cond.before, Cond.holds, Cond.value, hcn', q, n1, hkp', hki]
  obtain ⟨cell, kc, e1, e2, e3, e4, -⟩ := E
  obtain ⟨kc', e5, -⟩ := hZ.alike.2.2 _ _ e3
  obtain ⟨vm₁, X₁, st1⟩ := X.invokespecialUp hx (owner := y.cls) hown (mvT (s := s.setVm vm0) hZ w1) hsame n1 n2 n3 n4 hni hdk ws'.2 hcn ws'.1.1.1 (by simp [Vm.isSubclass, Vm.isSubclassAux]) (a := a) (by rw [hT]; exact e1) (fun q e => by rw [e] at e4; cases e4) e5 (g := mkF m pc Ls (argsL.reverse ++ .ref a :: rest)) rfl (argsL := argsL) (rest := rest) (lenOf pd hll _ n6) rfl (by rw [hb]; exact hd)
  obtain ⟨v, B, X2, hS2, hgr, hpo, hst2⟩ := (oCtr.back (p := p) (e := e) (s := s) (args := args) (below := below) (R := R) (len := 3) (W := (rest.map fun v => v.category).sum) hM hZ w4 w3 hf hl hE hO hC.1 (hDk.sub hD)) m meth c ⟨T.setVm vm₁, locs, k, n⟩ (mkF m pc Ls rest) (.invokespecial idx) mk (.ref a :: argsL).toArray X₁ rfl (hsz.trans hm.symm) (by show decode c.code pc = _; rw [hb]; exact hd) (by show 2 * 0 + (rest.map fun v => v.category).sum ≤ _; omega) (X₁.named n1) ⟨rfl, hT, by show k + _ ≤ _; omega, by show n + _ ≤ _; omega⟩
  exact oGo.after I0 hk hn (as' := (.ref a :: argsL).toArray) (rest := rest) ⟨v, vm₁, B, X₁.warmed, X2, hS2, hgr, hpo, st1 _ hst2⟩ g
/-- System.arraycopy between two arrays of bytes, not the same one -/
theorem oGo.arraycopy {idx : Nat} {a b : Addr} {vs ws : List Value} {i j q : Nat} (hd : decode bytes pc = .ok (.invokestatic idx, 3)) (hp : pc + 3 = pc') (w1 : (Cond.methodLink own idx Jvm.Stand.acN).before a0 Z = true) (w2 : (Cond.native Jvm.Stand.acN).before a0 Z = true) (w3 : (Cond.static Jvm.Stand.acN).before a0 Z = true) (w4 : (Cond.initialized "java/lang/System").before a0 Z = true)
    (A : oArr Z h a .byte vs) (B : oArr Z h b .byte ws) (h1 : i + q ≤ vs.length) (h2 : j + q ≤ ws.length) (hsz : Ls.size = mx) (hf : 1 ≤ R.frames) (hlo : (st.map fun v => v.category).sum + (nativeFrameWords "java/lang/System" "arraycopy" 5 + 11) ≤ R.locals) (ha : b ∈ D)
    (g : ∀ h', Keep h h' [b] → h.size ≤ h'.size → oArr Z h' b .byte (ws.take j ++ (vs.drop i).take q ++ ws.drop (j + q)) → oGo l Z a0 EL wd p e s m args below meth c R own bytes mx rt nm Q O D h' k n pc' Ls st) : oGo l Z a0 EL wd p e s m args below meth c R own bytes mx rt nm Q O D h k n pc Ls (.int (Int32.ofNat q) :: .int (Int32.ofNat j) :: .ref b :: .int (Int32.ofNat i) :: .ref a :: st) := by
  subst hp
  have hv : vs.length < 2147483648 := by obtain ⟨_, _, _, z, _⟩ := A; exact z
  have hw : ws.length < 2147483648 := by obtain ⟨_, _, _, z, _⟩ := B; exact z
  obtain ⟨ka, A'⟩ := A.arv (.int 0)
  obtain ⟨kb, B'⟩ := B.arv (.int 0)
  have e1 := own_n32 (i := i) (by omega); have e2 := own_n32 (i := j) (by omega); have e3 := own_n32 (i := q) (by omega)
  have e4 := own_n32 hv; have e5 := own_n32 hw
  have eus : (List.range (Int32.ofNat q).toNatClampNeg).map (fun z => vs.getD ((Int32.ofNat i).toNatClampNeg + z) (.int 0)) = (vs.drop i).take q := by
    rw [e1, e3]
    apply List.ext_getElem?
    intro z
    by_cases hz : z < q
    · rw [List.getElem?_map, List.getElem?_range hz, List.getElem?_take_of_lt hz, List.getElem?_drop]
      have : i + z < vs.length := by omega
      simp [List.getD_eq_getElem?_getD, this]
    · rw [List.getElem?_eq_none (by simpa using hz), List.getElem?_eq_none (by simp; omega)]
  refine oGo.writes (ws := [b]) (P := fun h' => oArr Z h' b .byte (ws.take j ++ (vs.drop i).take q ++ ws.drop (j + q))) (fun T locs vm0 X hT hZ hown hb hx hn hm hF hDz => ?_) (fun x hx => by rw [List.mem_singleton.mp hx]; exact ha) (fun h' K P => g h' K K.1 P)
  obtain ⟨T', h', L', X', hT', hF', K, A2, hst⟩ := cpA (s := s.setVm vm0) X hx hZ hown w1 w2 w3 w4 hT A' B' (sp := Int32.ofNat i) (dp := Int32.ofNat j) (nn := Int32.ofNat q) (us := (vs.drop i).take q) (Or.inl ⟨rfl, rfl⟩) (own_nn (by omega)) (own_nn (by omega)) (own_nn (by omega)) (by rw [e1, e3, e4]; exact h1) (by rw [e2, e3, e5]; exact h2) eus.symm (by rw [e2, e3]; exact h2) hF (hDz b ha) (g := mkF m pc Ls (.int (Int32.ofNat q) :: .int (Int32.ofNat j) :: .ref b :: .int (Int32.ofNat i) :: .ref a :: st)) rfl (hsz.trans hm.symm) rfl (by rw [hb]; exact hd) hf (W := (st.map fun v => v.category).sum) (by show 2 * 0 + _ ≤ _; omega) hlo
  rw [e2, e3] at A2
  refine ⟨T', h', L', X', hT', hF', K, oArr.of_arv A2 ?_, hst⟩
  rw [e5]; simp; omega
/-- checkcast of an object whose class is known -/
theorem oGo.checkcast {idx : Nat} {a : Addr} {Cn K : String} (hd : decode bytes pc = .ok (.checkcast idx, 3)) (hp : pc + 3 = pc') (w : (Cond.classLink own idx K).before a0 Z = true) (F : Ins Z h a K true) (g : oGo l Z a0 EL wd p e s m args below meth c R own bytes mx rt nm Q O D h k n pc' Ls (.ref a :: st)) : oGo l Z a0 EL wd p e s m args below meth c R own bytes mx rt nm Q O D h k n pc Ls (.ref a :: st) := by
  subst hp; exact oGo.move (fun T locs vm0 X hT hZ hown hb hx hn hm => castY (s := s.setVm vm0) X hx hZ hown w hT F (g := mkF m pc Ls (.ref a :: st)) rfl rfl (by rw [hb]; exact hd)) g
theorem oGo.instanceof_y {idx : Nat} {a : Addr} {K : String} (hd : decode bytes pc = .ok (.instanceof idx, 3)) (hp : pc + 3 = pc') (w : (Cond.classLink own idx K).before a0 Z = true) (F : Ins Z h a K true) (g : oGo l Z a0 EL wd p e s m args below meth c R own bytes mx rt nm Q O D h k n pc' Ls (.int 1 :: st)) : oGo l Z a0 EL wd p e s m args below meth c R own bytes mx rt nm Q O D h k n pc Ls (.ref a :: st) := by
  subst hp; exact oGo.move (fun T locs vm0 X hT hZ hown hb hx hn hm => instY (s := s.setVm vm0) X hx hZ hown w hT F (g := mkF m pc Ls (.ref a :: st)) rfl rfl (by rw [hb]; exact hd)) g
end Logic2
/-! ### Latin-1 Strings -/
def oS (Z : State) (h : Heap) (x t : Addr) (cs : List Int32) : Prop := Exa Z h x "java/lang/String" ∧ Fld Z h x "java/lang/String" "value" "[B" (.ref t) ∧ Fld Z h x "java/lang/String" "coder" "B" (.int 0) ∧ oArr Z h t .byte (oI (cs.map lo8)) ∧ ∀ c ∈ cs, ¬ c < 0 ∧ ¬ 255 < c
section Str
variable {Z : State} {h h' : Heap} {x t a : Addr} {cs : List Int32} {ws : List Addr}
theorem oS.ext (S : oS Z h x t cs) (E : Ext h h') : oS Z h' x t cs := ⟨S.1.ext E, S.2.1.ext E, S.2.2.1.ext E, S.2.2.2.1.ext E, S.2.2.2.2⟩
theorem oS.keep (S : oS Z h x t cs) (K : Keep h h' ws) (q : x ∉ ws) (r : t ∉ ws) : oS Z h' x t cs := ⟨S.1.keep K, S.2.1.keep K q, S.2.2.1.keep K q, S.2.2.2.1.keep K r, S.2.2.2.2⟩
theorem oS.other {sl : Nat} {v : Value} (S : oS Z h x t cs) (W : Wr h h' a sl v) (q : x ≠ a) (r : t ≠ a) : oS Z h' x t cs := ⟨S.1.wr W, S.2.1.other W (Or.inl q), S.2.2.1.other W (Or.inl q), S.2.2.2.1.other W r, S.2.2.2.2⟩
theorem oS.len (S : oS Z h x t cs) : cs.length < 2147483648 := by obtain ⟨_, _, _, ⟨_, _, _, q, _⟩, _⟩ := S; simpa using q
end Str
section Logic3
variable {l : Launch} {Z : State} {a0 : Array Value} {EL : List (String × Nat)} {wd : Prop} {p : Program} {e : Env} {s : State} {m : MethodId} {args : Array Value} {below : List Frame} {meth : Method} {c : Code} {R : Room} {own : String} {bytes : ByteArray} {mx : Nat} {rt : Option FieldType} {nm : String}
  {Q : Option Value → Heap → Prop} {O : Option Value → Heap → Addr → Prop} {D : List Addr} {h : Heap} {k n : Nat} {pc pc' pc1 pc2 : Nat} {Ls Ls' : Array Slot} {st st' : List Value}
/-- newarray, with the class of what it makes -/
theorem oGo.newarrayE {aty : ArrayType} {z : Int32} {i : Nat} {k' n' : Nat} {ad : String} (hd : decode bytes pc = .ok (.newarray aty, 2)) (hp : pc + 2 = pc') (w : (Cond.arrayClass (newarray.typeOf aty)).before a0 Z = true) (hz : z = Int32.ofNat i) (cap : Nat) (hi : i ≤ cap) (hcap : cap * 8 ≤ 536870912) (hk : k + 1 = k') (hn : n + cap = n') (hc : k' ≤ R.cells) (hl : n' ≤ R.slots) (hfd : fits (newarray.typeOf aty) (defaultValue (newarray.typeOf aty)) = true) (had : "[" ++ (newarray.typeOf aty).toString = ad)
    (g : ∀ (h' : Heap) (a : Nat), a = h.size → a < h'.size → Ext h h' → oArr Z h' a (newarray.typeOf aty) (List.replicate i (defaultValue (newarray.typeOf aty))) → Exa Z h' a ad → oGo l Z a0 EL wd p e s m args below meth c R own bytes mx rt nm Q O (a :: D) h' k' n' pc' Ls (.ref a :: st)) : oGo l Z a0 EL wd p e s m args below meth c R own bytes mx rt nm Q O D h k n pc Ls (.int z :: st) := by
  subst hp hk hn hz
  have hb31 : i < 2147483648 := by omega
  refine oGo.grow (P := fun h' => oArr Z h' h.size (newarray.typeOf aty) (List.replicate i (defaultValue (newarray.typeOf aty))) ∧ Exa Z h' h.size ad) (D' := h.size :: D) (fun T locs vm0 X hT hZ hown hb hx hn hm => ?_) (fun h' q x hx => ?_) (fun h' E q => g h' _ rfl q.1.lt E q.1 q.2)
  · obtain ⟨T', h', cA, X', e', E, A, EA, hst⟩ := newPE (s := s.setVm vm0) X hx hZ w hT (g := mkF m pc Ls (.int (Int32.ofNat i) :: st)) rfl (by rw [hb]; exact hd) rfl (own_nn hb31) (cap := cap) (by rw [own_n32 hb31]; exact hi) hcap hc hl had
    refine ⟨T', h', X', e', E, ⟨⟨_, A, ?_, by simpa using hb31, fun v hv => ?_⟩, EA⟩, hst⟩
    · simp [newA, own_n32 hb31]
    · rw [(List.mem_replicate.mp hv).2]; exact hfd
  · rcases List.mem_cons.mp hx with rfl | hx
    · exact Or.inr ⟨Nat.le_refl _, q.1.lt⟩
    · exact Or.inl hx
/-- an array of n references, whose components are of the class C -/
def oRA (Z : State) (h : Heap) (a : Addr) (C : String) (n : Nat) : Prop := ∃ (cl : Cell) (ty : FieldType), Arr Z h a cl ty ∧ ty.isReference = true ∧ cl.slots.size = n ∧ n < 2147483648 ∧ (Ovr Z cl.cls C ∨ ∃ t, OvrA Z cl.cls t C)
theorem oRA.lt {a : Addr} {C : String} {q : Nat} (A : oRA Z h a C q) : a < h.size := by obtain ⟨_, _, h1, _⟩ := A; exact h1.lt
theorem oRA.ext {a : Addr} {C : String} {q : Nat} {h' : Heap} (A : oRA Z h a C q) (E : Ext h h') : oRA Z h' a C q := by obtain ⟨cl, ty, h1, h2⟩ := A; exact ⟨cl, ty, h1.ext E, h2⟩
theorem oRA.keep {a : Addr} {C : String} {q : Nat} {h' : Heap} {ws : List Addr} (A : oRA Z h a C q) (K : Keep h h' ws) (r : a ∉ ws) : oRA Z h' a C q := by obtain ⟨cl, ty, h1, h2⟩ := A; exact ⟨cl, ty, ⟨K.2.1 a cl h1.1 r, h1.2⟩, h2⟩
theorem oRA.other {a b : Addr} {C : String} {q sl : Nat} {w : Value} {h' : Heap} (A : oRA Z h a C q) (W : Wr h h' b sl w) (r : a ≠ b) : oRA Z h' a C q := by obtain ⟨cl, ty, h1, h2⟩ := A; exact ⟨cl, ty, h1.other W r, h2⟩
theorem oRA.set {a : Addr} {C : String} {q sl : Nat} {w : Value} {h' : Heap} (A : oRA Z h a C q) (W : Wr h h' a sl w) : oRA Z h' a C q := by
  obtain ⟨cl, ty, h1, h2, h3, h4, h5⟩ := A; exact ⟨cl.setSlot sl w, ty, h1.same W, h2, by rw [sz_set]; exact h3, h4, h5⟩
theorem oGo.anewarray {idx i : Nat} {C : String} {z : Int32} {k' n' : Nat} (hd : decode bytes pc = .ok (.anewarray idx, 3)) (hp : pc + 3 = pc') (w1 : (Cond.classLink own idx C).before a0 Z = true) (w2 : (Cond.arrayOver (.object C)).before a0 Z = true) (hz : z = Int32.ofNat i) (cap : Nat) (hi : i ≤ cap) (hcap : cap * 8 ≤ 536870912) (hk : k + 1 = k') (hn : n + cap = n') (hc : k' ≤ R.cells) (hl : n' ≤ R.slots)
    (g : ∀ (h' : Heap) (a : Nat), a = h.size → a < h'.size → Ext h h' → oRA Z h' a C i → oGo l Z a0 EL wd p e s m args below meth c R own bytes mx rt nm Q O (a :: D) h' k' n' pc' Ls (.ref a :: st)) : oGo l Z a0 EL wd p e s m args below meth c R own bytes mx rt nm Q O D h k n pc Ls (.int z :: st) := by
  subst hp hk hn hz
  have hb31 : i < 2147483648 := by omega
  refine oGo.grow (P := fun h' => oRA Z h' h.size C i) (D' := h.size :: D) (fun T locs vm0 X hT hZ hown hb hx hn hm => ?_) (fun h' q x hx => ?_) (fun h' E q => g h' _ rfl q.lt E q)
  · obtain ⟨T', h', cA, X', e', E, A, OV, hst⟩ := newR (s := s.setVm vm0) X hx hZ hown w1 w2 hT (g := mkF m pc Ls (.int (Int32.ofNat i) :: st)) rfl (by rw [hb]; exact hd) rfl (own_nn hb31) (cap := cap) (by rw [own_n32 hb31]; exact hi) hcap hc hl
    exact ⟨T', h', X', e', E, ⟨_, _, A, rfl, by rw [sz_new, own_n32 hb31], hb31, Or.inl OV⟩, hst⟩
  · rcases List.mem_cons.mp hx with rfl | hx
    · exact Or.inr ⟨Nat.le_refl _, q.lt⟩
    · exact Or.inl hx
theorem oGo.anewarrayA {idx i : Nat} {C : String} {ty : FieldType} {z : Int32} {k' n' : Nat} (hd : decode bytes pc = .ok (.anewarray idx, 3)) (hp : pc + 3 = pc') (hC : (FieldType.array ty).toString = C) (w1 : (Cond.classLink own idx C).before a0 Z = true) (w2 : (Cond.arrayOver (.array ty)).before a0 Z = true) (hz : z = Int32.ofNat i) (cap : Nat) (hi : i ≤ cap) (hcap : cap * 8 ≤ 536870912) (hk : k + 1 = k') (hn : n + cap = n') (hc : k' ≤ R.cells) (hl : n' ≤ R.slots)
    (g : ∀ (h' : Heap) (a : Nat), a = h.size → a < h'.size → Ext h h' → oRA Z h' a C i → oGo l Z a0 EL wd p e s m args below meth c R own bytes mx rt nm Q O (a :: D) h' k' n' pc' Ls (.ref a :: st)) : oGo l Z a0 EL wd p e s m args below meth c R own bytes mx rt nm Q O D h k n pc Ls (.int z :: st) := by
  subst hp hk hn hz
  have hb31 : i < 2147483648 := by omega
  refine oGo.grow (P := fun h' => oRA Z h' h.size C i) (D' := h.size :: D) (fun T locs vm0 X hT hZ hown hb hx hn hm => ?_) (fun h' q x hx => ?_) (fun h' E q => g h' _ rfl q.lt E q)
  · obtain ⟨T', h', cA, X', e', E, A, -, OV, hst⟩ := newRA (s := s.setVm vm0) X hx hZ hown hC w1 w2 hT (g := mkF m pc Ls (.int (Int32.ofNat i) :: st)) rfl (by rw [hb]; exact hd) rfl (own_nn hb31) (cap := cap) (by rw [own_n32 hb31]; exact hi) hcap hc hl rfl
    exact ⟨T', h', X', e', E, ⟨_, _, A, rfl, by rw [sz_new, own_n32 hb31], hb31, Or.inr ⟨_, OV⟩⟩, hst⟩
  · rcases List.mem_cons.mp hx with rfl | hx
    · exact Or.inr ⟨Nat.le_refl _, q.lt⟩
    · exact Or.inl hx
theorem oGo.aastore {a y : Addr} {C : String} {q : Nat} {j : Int32} {i : Nat} (hd : decode bytes pc = .ok (.aastore, 1)) (hp : pc + 1 = pc') (A : oRA Z h a C q) (hj : j = Int32.ofNat i) (hi : i < q) (I : Ins Z h y C true) (ha : a ∈ D)
    (g : ∀ h', Wr h h' a i (.ref y) → h'.size = h.size → oRA Z h' a C q → oGo l Z a0 EL wd p e s m args below meth c R own bytes mx rt nm Q O D h' k n pc' Ls st) : oGo l Z a0 EL wd p e s m args below meth c R own bytes mx rt nm Q O D h k n pc Ls (.ref y :: .int j :: .ref a :: st) := by
  subst hp hj
  have A0 := A
  obtain ⟨cl, ty, h1, h2, h3, h4, h5⟩ := A
  have hS : Sto Z h a (.ref y) := by
    rcases h5 with h5 | ⟨t, h5⟩
    · exact Sto.of h1 h5 I
    · exact Sto.ofVA h1 rfl h5 I
  refine oGo.write (fun T locs vm0 X hT hZ hown hb hx hn hm => ?_) ha (fun h' W hs => g h' W hs (A0.set W))
  have r := stR (s := s.setVm vm0) X hx hZ hT h1 (j := Int32.ofNat i) (by rw [own_n32 (by omega), h3]; rintro (z | z); exact own_nn (by omega) z; omega) h2 hS (g := mkF m pc Ls (.ref y :: .int (Int32.ofNat i) :: .ref a :: st)) rfl rfl (by rw [hb]; exact hd)
  rw [own_n32 (by omega)] at r
  exact r
theorem oGo.invokeinterface {idx cnt : Nat} {y z : MethodName} {Cn : String} {b' : ByteArray} {mx' : Nat} {rt' rs : Option FieldType} {ps : List FieldType} {rm : Room} {D' : List Addr} {Q' : Option Value → Heap → Prop} {O' : Option Value → Heap → Addr → Prop} {k' n' : Nat} {a : Addr} {argsL rest : List Value}
    (hd : decode bytes pc = .ok (.invokeinterface idx cnt, 5)) (hp : pc + 5 = pc') (w1 : (Cond.methodLink own idx y).before a0 Z = true) (w2 : (Cond.declares y).before a0 Z = true) (w8 : (Cond.interfaceMethod y.cls y.cls y.name y.desc).before a0 Z = true) (w5 : (Cond.selects Cn y z).before a0 Z = true) (w6 : (Cond.instanceMethod z).before a0 Z = true) (w9 : (Cond.publicMethod z).before a0 Z = true) (w10 : (Cond.unhidden Cn y.name y.desc).before a0 Z = true) (w11 : (Cond.castable Cn y.cls).before a0 Z = true) (w3 : (Cond.initialized z.cls).before a0 Z = true) (w4 : (Cond.code z b' mx' rt').before a0 Z = true)
    (m8 : ((Cond.interfaceMethod y.cls y.cls y.name y.desc).onTables && (Cond.interfaceMethod y.cls y.cls y.name y.desc).keepsFace) = true) (m10 : ((Cond.unhidden Cn y.name y.desc).onTables && (Cond.unhidden Cn y.name y.desc).keepsFace) = true) (m9 : ((Cond.publicMethod z).onTables && (Cond.publicMethod z).keepsFace) = true)
    (hy : y.cls ≠ "java/lang/invoke/MethodHandle" ∧ y.cls ≠ "java/lang/invoke/VarHandle") (pd : parseMethodDescriptor y.desc = some ⟨ps, rs⟩) (hll : argsL.length = ps.length) (hst : st = argsL.reverse ++ .ref a :: rest) (hsz : Ls.size = mx) (E : Exa Z h a Cn)
    (hM : oCtr [] l Z a0 EL wd z b' mx' rt' rm (.ref a :: argsL).toArray D' h Q' O') (hD : ∀ x ∈ D', x ∈ D) (hf : rm.frames + 1 ≤ R.frames) (hl : (rest.map fun v => v.category).sum + (mx' + 11) + rm.locals ≤ R.locals) (hk : k + rm.cells = k') (hn : n + rm.slots = n') (hc : k' ≤ R.cells) (hs : n' ≤ R.slots)
    (g : ∀ v h', h.size ≤ h'.size → Q' v h' → ∃ D2 : List Addr, (∀ x ∈ D2, x ∈ D ∨ O' v h' x) ∧ oGo l Z a0 EL wd p e s m args below meth c R own bytes mx rt nm Q O D2 h' k' n' pc' Ls (v.toList ++ rest)) : oGo l Z a0 EL wd p e s m args below meth c R own bytes mx rt nm Q O D h k n pc Ls st := by
  subst hp hst
  intro T locs vm0 k0 I
  have I0 := I
  obtain ⟨⟨hx, hb, hm, hr, hlk, hnm, hE⟩, hT, hO, hF, X, hS, hk0, hZ, hown, hC, hwd, hDk⟩ := I
  obtain ⟨cq, kq, q1, q2, q3⟩ := isOf (s := s.setVm vm0) (T := T) hZ hT E
  refine oGo.after I0 hk hn (as' := (.ref a :: argsL).toArray) (rest := rest) (X.interfaceBackS hx hown (mvT (s := s.setVm vm0) hZ w1) (mvT (s := s.setVm vm0) hZ w2) (mvT (s := s.setVm vm0) hZ w8 m8) (mvT (s := s.setVm vm0) hZ w5) (mvT (s := s.setVm vm0) hZ w6) (mvT (s := s.setVm vm0) hZ w9 m9) (mvT (s := s.setVm vm0) hZ w10 m10) (mvT (s := s.setVm vm0) hZ w11) hy
    (oCtr.back (W := (rest.map fun v => v.category).sum) hM hZ w4 w3 hf hl hE hO hC.1 (hDk.sub hD)) q1 q2 q3 (g := mkF m pc Ls (argsL.reverse ++ .ref a :: rest)) rfl (hsz.trans hm.symm) (Steps.refl _) (lenOf pd hll) rfl (by show 2 * 0 + _ ≤ _; omega) (by rw [hb]; exact hd) (fun _ _ => ⟨rfl, hT, by show k + _ ≤ _; omega, by show n + _ ≤ _; omega⟩)) g
end Logic3
theorem oFld_det2 {Z : State} {h : Heap} {a : Addr} {C n d : String} {v w : Value} (F : Fld Z h a C n d v) (G : Fld Z h a C n d w) : v = w := Classical.byContradiction fun q => absurd rfl (Fld.ne F G q)
theorem own_D3 {a b c : Nat} {D : List Nat} {P : Nat → Prop} (h1 : P a) (h2 : P b) (h3 : P c) : ∀ x ∈ a :: b :: c :: D, x ∈ D ∨ P x := by
  intro x hx
  simp only [List.mem_cons] at hx
  rcases hx with rfl | rfl | rfl | hx
  · exact Or.inr h1
  · exact Or.inr h2
  · exact Or.inr h3
  · exact Or.inl hx
theorem own_nin3 {a b c d : Nat} (h1 : a ≠ b) (h2 : a ≠ c) (h3 : a ≠ d) : a ∉ [b, c, d] := by simp [h1, h2, h3]
theorem own_addL (o k : Nat) (z : Int32) (hz : z = Int32.ofNat k) : Int32.ofNat o + z = Int32.ofNat (o + k) := by rw [hz, Int32.ofNat_add]
theorem own_and3 (x : Int32) : ∃ k : Nat, k < 4 ∧ x &&& 3 = Int32.ofNat k := by
  refine ⟨x.toBitVec.toNat % 4, Nat.mod_lt _ (by decide), ?_⟩
  apply Int32.toBitVec_inj.mp
  apply BitVec.eq_of_toNat_eq
  rw [Int32.toBitVec_and, BitVec.toNat_and]
  show x.toBitVec.toNat &&& (2 ^ 2 - 1) = _
  rw [Nat.and_two_pow_sub_one_eq_mod]
  show _ = (BitVec.ofNat 32 (x.toBitVec.toNat % 4)).toNat
  rw [BitVec.toNat_ofNat, Nat.mod_eq_of_lt (b := 2 ^ 32) (by omega)]
theorem oGo.boolz {l : Launch} {Z : State} {a0 : Array Value} {EL : List (String × Nat)} {wd : Prop} {p : Program} {e : Env} {s : State} {m : MethodId} {args : Array Value} {below : List Frame} {meth : Method} {c : Code} {R : Room} {own : String} {bytes : ByteArray} {mx : Nat} {rt : Option FieldType} {nm : String}
  {Q : Option Value → Heap → Prop} {O : Option Value → Heap → Addr → Prop} {D : List Addr} {h : Heap} {k n : Nat} {pc pc' : Nat} {Ls : Array Slot} {st : List Value} {x : Int32}
  (h1 : decode bytes pc = .ok (.ifCond .eq 7, 3)) (h2 : decode bytes (pc + 3) = .ok (.iconst 1, 1)) (h3 : decode bytes (pc + 4) = .ok (.goto 4, 3)) (h4 : decode bytes (pc + 7) = .ok (.iconst 0, 1)) (hp : pc + 8 = pc')
  (g : ∀ z : Int32, (z = 0 ∨ z = 1) → oGo l Z a0 EL wd p e s m args below meth c R own bytes mx rt nm Q O D h k n pc' Ls (.int z :: st)) : oGo l Z a0 EL wd p e s m args below meth c R own bytes mx rt nm Q O D h k n pc Ls (.int x :: st) := by
  subst hp
  refine oGo.if_eq (pc1 := pc + 3) (pc2 := pc + 7) h1 rfl (by omega) (fun _ => ?_) (fun _ => ?_)
  · exact oGo.iconst (pc' := pc + 8) (v := 0) h4 rfl (by decide) (g 0 (Or.inl rfl))
  · exact oGo.iconst (pc' := pc + 4) (v := 1) h2 rfl (by decide) (oGo.goto (pc' := pc + 8) h3 (by omega) (g 1 (Or.inr rfl)))
def oG (a0 : Array Value) (Z : State) (EL : List (String × Nat)) : Prop := (∀ d ∈ tables_1, d.before a0 Z = true) ∧ EW Z a0 EL ∧ (∀ d ∈ jdkStatics_1, d.before a0 Z = true) ∧ True
theorem w0 {a0 : Array Value} {Z : State} {EL : List (String × Nat)} (hG : oG a0 Z EL) : ((Jvm.Cond.arrayClass Jvm.ClassFile.FieldType.byte)).before a0 Z = true := hG.1 _ (List.mem_of_getElem? (i := 0) rfl)
theorem w1 {a0 : Array Value} {Z : State} {EL : List (String × Nat)} (hG : oG a0 Z EL) : ((Jvm.Cond.classLink "com/example/nonet/nonet/BatchIsFullPinLaw" (7 : Nat) "com/example/nonet/nonet/Answer")).before a0 Z = true := hG.1 _ (List.mem_of_getElem? (i := 1) rfl)
theorem w2 {a0 : Array Value} {Z : State} {EL : List (String × Nat)} (hG : oG a0 Z EL) : ((Jvm.Cond.instantiable "com/example/nonet/nonet/Answer" (2 : Nat))).before a0 Z = true := hG.1 _ (List.mem_of_getElem? (i := 2) rfl)
theorem w3 {a0 : Array Value} {Z : State} {EL : List (String × Nat)} (hG : oG a0 Z EL) : ((Jvm.Cond.initialized "com/example/nonet/nonet/Answer")).before a0 Z = true := hG.1 _ (List.mem_of_getElem? (i := 3) rfl)
theorem w4 {a0 : Array Value} {Z : State} {EL : List (String × Nat)} (hG : oG a0 Z EL) : ((Jvm.Cond.methodLink "com/example/nonet/nonet/BatchIsFullPinLaw" (9 : Nat) ({ cls := "com/example/nonet/nonet/Answer", name := "<init>", desc := "([BI)V" } : Jvm.MethodName))).before a0 Z = true := hG.1 _ (List.mem_of_getElem? (i := 4) rfl)
theorem w5 {a0 : Array Value} {Z : State} {EL : List (String × Nat)} (hG : oG a0 Z EL) : ((Jvm.Cond.instanceMethod ({ cls := "com/example/nonet/nonet/Answer", name := "<init>", desc := "([BI)V" } : Jvm.MethodName))).before a0 Z = true := hG.1 _ (List.mem_of_getElem? (i := 5) rfl)
theorem w6 {a0 : Array Value} {Z : State} {EL : List (String × Nat)} (hG : oG a0 Z EL) : ((Jvm.Cond.code ({ cls := "com/example/nonet/nonet/Answer", name := "<init>", desc := "([BI)V" } : Jvm.MethodName) prog_1_method_2_code (3 : Nat) (Option.none : Option Jvm.ClassFile.FieldType))).before a0 Z = true := hG.1 _ (List.mem_of_getElem? (i := 6) rfl)
theorem w7 {a0 : Array Value} {Z : State} {EL : List (String × Nat)} (hG : oG a0 Z EL) : ((Jvm.Cond.methodLink "com/example/nonet/nonet/Answer" (1 : Nat) ({ cls := "java/lang/Record", name := "<init>", desc := "()V" } : Jvm.MethodName))).before a0 Z = true := hG.1 _ (List.mem_of_getElem? (i := 7) rfl)
theorem w8 {a0 : Array Value} {Z : State} {EL : List (String × Nat)} (hG : oG a0 Z EL) : ((Jvm.Cond.instanceMethod ({ cls := "java/lang/Record", name := "<init>", desc := "()V" } : Jvm.MethodName))).before a0 Z = true := hG.1 _ (List.mem_of_getElem? (i := 8) rfl)
theorem w10 {a0 : Array Value} {Z : State} {EL : List (String × Nat)} (hG : oG a0 Z EL) : ((Jvm.Cond.initialized "java/lang/Record")).before a0 Z = true := hG.1 _ (List.mem_of_getElem? (i := 10) rfl)
theorem w11 {a0 : Array Value} {Z : State} {EL : List (String × Nat)} (hG : oG a0 Z EL) : ((Jvm.Cond.code ({ cls := "java/lang/Record", name := "<init>", desc := "()V" } : Jvm.MethodName) jdk_30_method_1_code (1 : Nat) (Option.none : Option Jvm.ClassFile.FieldType))).before a0 Z = true := hG.1 _ (List.mem_of_getElem? (i := 11) rfl)
theorem w12 {a0 : Array Value} {Z : State} {EL : List (String × Nat)} (hG : oG a0 Z EL) : ((Jvm.Cond.methodLink "java/lang/Record" (1 : Nat) ({ cls := "java/lang/Object", name := "<init>", desc := "()V" } : Jvm.MethodName))).before a0 Z = true := hG.1 _ (List.mem_of_getElem? (i := 12) rfl)
theorem w13 {a0 : Array Value} {Z : State} {EL : List (String × Nat)} (hG : oG a0 Z EL) : ((Jvm.Cond.instanceMethod ({ cls := "java/lang/Object", name := "<init>", desc := "()V" } : Jvm.MethodName))).before a0 Z = true := hG.1 _ (List.mem_of_getElem? (i := 13) rfl)
theorem w14 {a0 : Array Value} {Z : State} {EL : List (String × Nat)} (hG : oG a0 Z EL) : ((Jvm.Cond.code ({ cls := "java/lang/Object", name := "<init>", desc := "()V" } : Jvm.MethodName) object_method_1_code (1 : Nat) (Option.none : Option Jvm.ClassFile.FieldType))).before a0 Z = true := hG.1 _ (List.mem_of_getElem? (i := 14) rfl)
theorem w15 {a0 : Array Value} {Z : State} {EL : List (String × Nat)} (hG : oG a0 Z EL) : ((Jvm.Cond.fieldLink "com/example/nonet/nonet/Answer" (7 : Nat) "com/example/nonet/nonet/Answer" "line" "[B")).before a0 Z = true := hG.1 _ (List.mem_of_getElem? (i := 15) rfl)
theorem w16 {a0 : Array Value} {Z : State} {EL : List (String × Nat)} (hG : oG a0 Z EL) : ((Jvm.Cond.laysFinal "com/example/nonet/nonet/Answer" "com/example/nonet/nonet/Answer" "line" "[B")).before a0 Z = true := hG.1 _ (List.mem_of_getElem? (i := 16) rfl)
theorem w17 {a0 : Array Value} {Z : State} {EL : List (String × Nat)} (hG : oG a0 Z EL) : ((Jvm.Cond.fieldLink "com/example/nonet/nonet/Answer" (13 : Nat) "com/example/nonet/nonet/Answer" "status" "I")).before a0 Z = true := hG.1 _ (List.mem_of_getElem? (i := 17) rfl)
theorem w18 {a0 : Array Value} {Z : State} {EL : List (String × Nat)} (hG : oG a0 Z EL) : ((Jvm.Cond.laysFinal "com/example/nonet/nonet/Answer" "com/example/nonet/nonet/Answer" "status" "I")).before a0 Z = true := hG.1 _ (List.mem_of_getElem? (i := 18) rfl)
theorem w19 {a0 : Array Value} {Z : State} {EL : List (String × Nat)} (hG : oG a0 Z EL) : ((Jvm.Cond.classLink "com/example/nonet/nonet/BatchIsFullPinLaw" (12 : Nat) "com/example/nonet/nonet/Message")).before a0 Z = true := hG.1 _ (List.mem_of_getElem? (i := 19) rfl)
theorem w20 {a0 : Array Value} {Z : State} {EL : List (String × Nat)} (hG : oG a0 Z EL) : ((Jvm.Cond.instantiable "com/example/nonet/nonet/Message" (3 : Nat))).before a0 Z = true := hG.1 _ (List.mem_of_getElem? (i := 20) rfl)
theorem w21 {a0 : Array Value} {Z : State} {EL : List (String × Nat)} (hG : oG a0 Z EL) : ((Jvm.Cond.initialized "com/example/nonet/nonet/Message")).before a0 Z = true := hG.1 _ (List.mem_of_getElem? (i := 21) rfl)
theorem w22 {a0 : Array Value} {Z : State} {EL : List (String × Nat)} (hG : oG a0 Z EL) : ((Jvm.Cond.stringLink "com/example/nonet/nonet/BatchIsFullPinLaw" (14 : Nat) "x")).before a0 Z = true := hG.1 _ (List.mem_of_getElem? (i := 22) rfl)
theorem w23 {a0 : Array Value} {Z : State} {EL : List (String × Nat)} (hG : oG a0 Z EL) : ((Jvm.Cond.initialized "java/lang/String")).before a0 Z = true := hG.1 _ (List.mem_of_getElem? (i := 23) rfl)
theorem w24 {a0 : Array Value} {Z : State} {EL : List (String × Nat)} (hG : oG a0 Z EL) : ((Jvm.Cond.instantiable "java/lang/String" (4 : Nat))).before a0 Z = true := hG.1 _ (List.mem_of_getElem? (i := 24) rfl)
theorem w25 {a0 : Array Value} {Z : State} {EL : List (String × Nat)} (hG : oG a0 Z EL) : ((Jvm.Cond.laysFinal "java/lang/String" "java/lang/String" "value" "[B")).before a0 Z = true := hG.1 _ (List.mem_of_getElem? (i := 25) rfl)
theorem w26 {a0 : Array Value} {Z : State} {EL : List (String × Nat)} (hG : oG a0 Z EL) : ((Jvm.Cond.laysFinal "java/lang/String" "java/lang/String" "coder" "B")).before a0 Z = true := hG.1 _ (List.mem_of_getElem? (i := 26) rfl)
theorem w27 {a0 : Array Value} {Z : State} {EL : List (String × Nat)} (hG : oG a0 Z EL) : ((Jvm.Cond.soleField "java/lang/String" "value")).before a0 Z = true := hG.1 _ (List.mem_of_getElem? (i := 27) rfl)
theorem w28 {a0 : Array Value} {Z : State} {EL : List (String × Nat)} (hG : oG a0 Z EL) : ((Jvm.Cond.soleField "java/lang/String" "coder")).before a0 Z = true := hG.1 _ (List.mem_of_getElem? (i := 28) rfl)
theorem w29 {a0 : Array Value} {Z : State} {EL : List (String × Nat)} (hG : oG a0 Z EL) : ((Jvm.Cond.stringLink "com/example/nonet/nonet/BatchIsFullPinLaw" (16 : Nat) "y")).before a0 Z = true := hG.1 _ (List.mem_of_getElem? (i := 29) rfl)
theorem w30 {a0 : Array Value} {Z : State} {EL : List (String × Nat)} (hG : oG a0 Z EL) : ((Jvm.Cond.methodLink "com/example/nonet/nonet/BatchIsFullPinLaw" (18 : Nat) ({ cls := "com/example/nonet/nonet/Message", name := "<init>", desc := "(Ljava/lang/String;Ljava/lang/String;)V" } : Jvm.MethodName))).before a0 Z = true := hG.1 _ (List.mem_of_getElem? (i := 30) rfl)
theorem w31 {a0 : Array Value} {Z : State} {EL : List (String × Nat)} (hG : oG a0 Z EL) : ((Jvm.Cond.instanceMethod ({ cls := "com/example/nonet/nonet/Message", name := "<init>", desc := "(Ljava/lang/String;Ljava/lang/String;)V" } : Jvm.MethodName))).before a0 Z = true := hG.1 _ (List.mem_of_getElem? (i := 31) rfl)
theorem w32 {a0 : Array Value} {Z : State} {EL : List (String × Nat)} (hG : oG a0 Z EL) : ((Jvm.Cond.code ({ cls := "com/example/nonet/nonet/Message", name := "<init>", desc := "(Ljava/lang/String;Ljava/lang/String;)V" } : Jvm.MethodName) prog_13_method_1_code (3 : Nat) (Option.none : Option Jvm.ClassFile.FieldType))).before a0 Z = true := hG.1 _ (List.mem_of_getElem? (i := 32) rfl)
theorem w33 {a0 : Array Value} {Z : State} {EL : List (String × Nat)} (hG : oG a0 Z EL) : ((Jvm.Cond.methodLink "com/example/nonet/nonet/Message" (20 : Nat) ({ cls := "com/example/nonet/nonet/Message", name := "<init>", desc := "(Ljava/lang/String;JLjava/lang/String;)V" } : Jvm.MethodName))).before a0 Z = true := hG.1 _ (List.mem_of_getElem? (i := 33) rfl)
theorem w34 {a0 : Array Value} {Z : State} {EL : List (String × Nat)} (hG : oG a0 Z EL) : ((Jvm.Cond.instanceMethod ({ cls := "com/example/nonet/nonet/Message", name := "<init>", desc := "(Ljava/lang/String;JLjava/lang/String;)V" } : Jvm.MethodName))).before a0 Z = true := hG.1 _ (List.mem_of_getElem? (i := 34) rfl)
theorem w35 {a0 : Array Value} {Z : State} {EL : List (String × Nat)} (hG : oG a0 Z EL) : ((Jvm.Cond.code ({ cls := "com/example/nonet/nonet/Message", name := "<init>", desc := "(Ljava/lang/String;JLjava/lang/String;)V" } : Jvm.MethodName) prog_13_method_2_code (5 : Nat) (Option.none : Option Jvm.ClassFile.FieldType))).before a0 Z = true := hG.1 _ (List.mem_of_getElem? (i := 35) rfl)
theorem w36 {a0 : Array Value} {Z : State} {EL : List (String × Nat)} (hG : oG a0 Z EL) : ((Jvm.Cond.methodLink "com/example/nonet/nonet/Message" (1 : Nat) ({ cls := "java/lang/Record", name := "<init>", desc := "()V" } : Jvm.MethodName))).before a0 Z = true := hG.1 _ (List.mem_of_getElem? (i := 36) rfl)
theorem w37 {a0 : Array Value} {Z : State} {EL : List (String × Nat)} (hG : oG a0 Z EL) : ((Jvm.Cond.fieldLink "com/example/nonet/nonet/Message" (7 : Nat) "com/example/nonet/nonet/Message" "input" "Ljava/lang/String;")).before a0 Z = true := hG.1 _ (List.mem_of_getElem? (i := 37) rfl)
theorem w38 {a0 : Array Value} {Z : State} {EL : List (String × Nat)} (hG : oG a0 Z EL) : ((Jvm.Cond.laysFinal "com/example/nonet/nonet/Message" "com/example/nonet/nonet/Message" "input" "Ljava/lang/String;")).before a0 Z = true := hG.1 _ (List.mem_of_getElem? (i := 38) rfl)
theorem w39 {a0 : Array Value} {Z : State} {EL : List (String × Nat)} (hG : oG a0 Z EL) : ((Jvm.Cond.fieldLink "com/example/nonet/nonet/Message" (13 : Nat) "com/example/nonet/nonet/Message" "line" "J")).before a0 Z = true := hG.1 _ (List.mem_of_getElem? (i := 39) rfl)
theorem w40 {a0 : Array Value} {Z : State} {EL : List (String × Nat)} (hG : oG a0 Z EL) : ((Jvm.Cond.laysFinal "com/example/nonet/nonet/Message" "com/example/nonet/nonet/Message" "line" "J")).before a0 Z = true := hG.1 _ (List.mem_of_getElem? (i := 40) rfl)
theorem w41 {a0 : Array Value} {Z : State} {EL : List (String × Nat)} (hG : oG a0 Z EL) : ((Jvm.Cond.fieldLink "com/example/nonet/nonet/Message" (17 : Nat) "com/example/nonet/nonet/Message" "problem" "Ljava/lang/String;")).before a0 Z = true := hG.1 _ (List.mem_of_getElem? (i := 41) rfl)
theorem w42 {a0 : Array Value} {Z : State} {EL : List (String × Nat)} (hG : oG a0 Z EL) : ((Jvm.Cond.laysFinal "com/example/nonet/nonet/Message" "com/example/nonet/nonet/Message" "problem" "Ljava/lang/String;")).before a0 Z = true := hG.1 _ (List.mem_of_getElem? (i := 42) rfl)
theorem w43 {a0 : Array Value} {Z : State} {EL : List (String × Nat)} (hG : oG a0 Z EL) : ((Jvm.Cond.classLink "com/example/nonet/nonet/BatchIsFullPinLaw" (21 : Nat) "com/example/nonet/nonet/Batch")).before a0 Z = true := hG.1 _ (List.mem_of_getElem? (i := 43) rfl)
theorem w44 {a0 : Array Value} {Z : State} {EL : List (String × Nat)} (hG : oG a0 Z EL) : ((Jvm.Cond.instantiable "com/example/nonet/nonet/Batch" (8 : Nat))).before a0 Z = true := hG.1 _ (List.mem_of_getElem? (i := 44) rfl)
theorem w45 {a0 : Array Value} {Z : State} {EL : List (String × Nat)} (hG : oG a0 Z EL) : ((Jvm.Cond.initialized "com/example/nonet/nonet/Batch")).before a0 Z = true := hG.1 _ (List.mem_of_getElem? (i := 45) rfl)
theorem w46 {a0 : Array Value} {Z : State} {EL : List (String × Nat)} (hG : oG a0 Z EL) : ((Jvm.Cond.methodLink "com/example/nonet/nonet/BatchIsFullPinLaw" (23 : Nat) ({ cls := "com/example/nonet/nonet/Batch", name := "<init>", desc := "()V" } : Jvm.MethodName))).before a0 Z = true := hG.1 _ (List.mem_of_getElem? (i := 46) rfl)
theorem w47 {a0 : Array Value} {Z : State} {EL : List (String × Nat)} (hG : oG a0 Z EL) : ((Jvm.Cond.instanceMethod ({ cls := "com/example/nonet/nonet/Batch", name := "<init>", desc := "()V" } : Jvm.MethodName))).before a0 Z = true := hG.1 _ (List.mem_of_getElem? (i := 47) rfl)
theorem w48 {a0 : Array Value} {Z : State} {EL : List (String × Nat)} (hG : oG a0 Z EL) : ((Jvm.Cond.code ({ cls := "com/example/nonet/nonet/Batch", name := "<init>", desc := "()V" } : Jvm.MethodName) prog_2_method_1_code (1 : Nat) (Option.none : Option Jvm.ClassFile.FieldType))).before a0 Z = true := hG.1 _ (List.mem_of_getElem? (i := 48) rfl)
theorem w49 {a0 : Array Value} {Z : State} {EL : List (String × Nat)} (hG : oG a0 Z EL) : ((Jvm.Cond.methodLink "com/example/nonet/nonet/Batch" (1 : Nat) ({ cls := "java/lang/Object", name := "<init>", desc := "()V" } : Jvm.MethodName))).before a0 Z = true := hG.1 _ (List.mem_of_getElem? (i := 49) rfl)
theorem w50 {a0 : Array Value} {Z : State} {EL : List (String × Nat)} (hG : oG a0 Z EL) : ((Jvm.Cond.classLink "com/example/nonet/nonet/Batch" (9 : Nat) "[B")).before a0 Z = true := hG.1 _ (List.mem_of_getElem? (i := 50) rfl)
theorem w51 {a0 : Array Value} {Z : State} {EL : List (String × Nat)} (hG : oG a0 Z EL) : ((Jvm.Cond.arrayOver (Jvm.ClassFile.FieldType.array Jvm.ClassFile.FieldType.byte))).before a0 Z = true := hG.1 _ (List.mem_of_getElem? (i := 51) rfl)
theorem w52 {a0 : Array Value} {Z : State} {EL : List (String × Nat)} (hG : oG a0 Z EL) : ((Jvm.Cond.fieldLink "com/example/nonet/nonet/Batch" (11 : Nat) "com/example/nonet/nonet/Batch" "puzzles" "[[B")).before a0 Z = true := hG.1 _ (List.mem_of_getElem? (i := 52) rfl)
theorem w53 {a0 : Array Value} {Z : State} {EL : List (String × Nat)} (hG : oG a0 Z EL) : ((Jvm.Cond.laysFinal "com/example/nonet/nonet/Batch" "com/example/nonet/nonet/Batch" "puzzles" "[[B")).before a0 Z = true := hG.1 _ (List.mem_of_getElem? (i := 53) rfl)
theorem w54 {a0 : Array Value} {Z : State} {EL : List (String × Nat)} (hG : oG a0 Z EL) : ((Jvm.Cond.classLink "com/example/nonet/nonet/Batch" (15 : Nat) "com/example/nonet/nonet/Answer")).before a0 Z = true := hG.1 _ (List.mem_of_getElem? (i := 54) rfl)
theorem w55 {a0 : Array Value} {Z : State} {EL : List (String × Nat)} (hG : oG a0 Z EL) : ((Jvm.Cond.arrayOver (Jvm.ClassFile.FieldType.object "com/example/nonet/nonet/Answer"))).before a0 Z = true := hG.1 _ (List.mem_of_getElem? (i := 55) rfl)
theorem w56 {a0 : Array Value} {Z : State} {EL : List (String × Nat)} (hG : oG a0 Z EL) : ((Jvm.Cond.fieldLink "com/example/nonet/nonet/Batch" (17 : Nat) "com/example/nonet/nonet/Batch" "answers" "[Lcom/example/nonet/nonet/Answer;")).before a0 Z = true := hG.1 _ (List.mem_of_getElem? (i := 56) rfl)
theorem w57 {a0 : Array Value} {Z : State} {EL : List (String × Nat)} (hG : oG a0 Z EL) : ((Jvm.Cond.laysFinal "com/example/nonet/nonet/Batch" "com/example/nonet/nonet/Batch" "answers" "[Lcom/example/nonet/nonet/Answer;")).before a0 Z = true := hG.1 _ (List.mem_of_getElem? (i := 57) rfl)
theorem w58 {a0 : Array Value} {Z : State} {EL : List (String × Nat)} (hG : oG a0 Z EL) : ((Jvm.Cond.classLink "com/example/nonet/nonet/Batch" (21 : Nat) "java/util/ArrayList")).before a0 Z = true := hG.1 _ (List.mem_of_getElem? (i := 58) rfl)
theorem w59 {a0 : Array Value} {Z : State} {EL : List (String × Nat)} (hG : oG a0 Z EL) : ((Jvm.Cond.instantiable "java/util/ArrayList" (3 : Nat))).before a0 Z = true := hG.1 _ (List.mem_of_getElem? (i := 59) rfl)
theorem w60 {a0 : Array Value} {Z : State} {EL : List (String × Nat)} (hG : oG a0 Z EL) : ((Jvm.Cond.initialized "java/util/ArrayList")).before a0 Z = true := hG.1 _ (List.mem_of_getElem? (i := 60) rfl)
theorem w61 {a0 : Array Value} {Z : State} {EL : List (String × Nat)} (hG : oG a0 Z EL) : ((Jvm.Cond.methodLink "com/example/nonet/nonet/Batch" (23 : Nat) ({ cls := "java/util/ArrayList", name := "<init>", desc := "()V" } : Jvm.MethodName))).before a0 Z = true := hG.1 _ (List.mem_of_getElem? (i := 61) rfl)
theorem w62 {a0 : Array Value} {Z : State} {EL : List (String × Nat)} (hG : oG a0 Z EL) : ((Jvm.Cond.instanceMethod ({ cls := "java/util/ArrayList", name := "<init>", desc := "()V" } : Jvm.MethodName))).before a0 Z = true := hG.1 _ (List.mem_of_getElem? (i := 62) rfl)
theorem w63 {a0 : Array Value} {Z : State} {EL : List (String × Nat)} (hG : oG a0 Z EL) : ((Jvm.Cond.code ({ cls := "java/util/ArrayList", name := "<init>", desc := "()V" } : Jvm.MethodName) jdk_38_method_2_code (1 : Nat) (Option.none : Option Jvm.ClassFile.FieldType))).before a0 Z = true := hG.1 _ (List.mem_of_getElem? (i := 63) rfl)
theorem w64 {a0 : Array Value} {Z : State} {EL : List (String × Nat)} (hG : oG a0 Z EL) : ((Jvm.Cond.methodLink "java/util/ArrayList" (1 : Nat) ({ cls := "java/util/AbstractList", name := "<init>", desc := "()V" } : Jvm.MethodName))).before a0 Z = true := hG.1 _ (List.mem_of_getElem? (i := 64) rfl)
theorem w65 {a0 : Array Value} {Z : State} {EL : List (String × Nat)} (hG : oG a0 Z EL) : ((Jvm.Cond.instanceMethod ({ cls := "java/util/AbstractList", name := "<init>", desc := "()V" } : Jvm.MethodName))).before a0 Z = true := hG.1 _ (List.mem_of_getElem? (i := 65) rfl)
theorem w68 {a0 : Array Value} {Z : State} {EL : List (String × Nat)} (hG : oG a0 Z EL) : ((Jvm.Cond.initialized "java/util/AbstractList")).before a0 Z = true := hG.1 _ (List.mem_of_getElem? (i := 68) rfl)
theorem w69 {a0 : Array Value} {Z : State} {EL : List (String × Nat)} (hG : oG a0 Z EL) : ((Jvm.Cond.code ({ cls := "java/util/AbstractList", name := "<init>", desc := "()V" } : Jvm.MethodName) jdk_39_method_1_code (1 : Nat) (Option.none : Option Jvm.ClassFile.FieldType))).before a0 Z = true := hG.1 _ (List.mem_of_getElem? (i := 69) rfl)
theorem w70 {a0 : Array Value} {Z : State} {EL : List (String × Nat)} (hG : oG a0 Z EL) : ((Jvm.Cond.methodLink "java/util/AbstractList" (1 : Nat) ({ cls := "java/util/AbstractCollection", name := "<init>", desc := "()V" } : Jvm.MethodName))).before a0 Z = true := hG.1 _ (List.mem_of_getElem? (i := 70) rfl)
theorem w71 {a0 : Array Value} {Z : State} {EL : List (String × Nat)} (hG : oG a0 Z EL) : ((Jvm.Cond.instanceMethod ({ cls := "java/util/AbstractCollection", name := "<init>", desc := "()V" } : Jvm.MethodName))).before a0 Z = true := hG.1 _ (List.mem_of_getElem? (i := 71) rfl)
theorem w74 {a0 : Array Value} {Z : State} {EL : List (String × Nat)} (hG : oG a0 Z EL) : ((Jvm.Cond.initialized "java/util/AbstractCollection")).before a0 Z = true := hG.1 _ (List.mem_of_getElem? (i := 74) rfl)
theorem w75 {a0 : Array Value} {Z : State} {EL : List (String × Nat)} (hG : oG a0 Z EL) : ((Jvm.Cond.code ({ cls := "java/util/AbstractCollection", name := "<init>", desc := "()V" } : Jvm.MethodName) jdk_22_method_1_code (1 : Nat) (Option.none : Option Jvm.ClassFile.FieldType))).before a0 Z = true := hG.1 _ (List.mem_of_getElem? (i := 75) rfl)
theorem w76 {a0 : Array Value} {Z : State} {EL : List (String × Nat)} (hG : oG a0 Z EL) : ((Jvm.Cond.methodLink "java/util/AbstractCollection" (1 : Nat) ({ cls := "java/lang/Object", name := "<init>", desc := "()V" } : Jvm.MethodName))).before a0 Z = true := hG.1 _ (List.mem_of_getElem? (i := 76) rfl)
theorem w77 {a0 : Array Value} {Z : State} {EL : List (String × Nat)} (hG : oG a0 Z EL) : ((Jvm.Cond.fieldLink "java/util/AbstractList" (7 : Nat) "java/util/AbstractList" "modCount" "I")).before a0 Z = true := hG.1 _ (List.mem_of_getElem? (i := 77) rfl)
theorem w78 {a0 : Array Value} {Z : State} {EL : List (String × Nat)} (hG : oG a0 Z EL) : ((Jvm.Cond.lays "java/util/ArrayList" "java/util/AbstractList" "modCount" "I")).before a0 Z = true := hG.1 _ (List.mem_of_getElem? (i := 78) rfl)
theorem w79 {a0 : Array Value} {Z : State} {EL : List (String × Nat)} (hG : oG a0 Z EL) : ((Jvm.Cond.fieldLink "java/util/ArrayList" (39 : Nat) "java/util/ArrayList" "DEFAULTCAPACITY_EMPTY_ELEMENTDATA" "[Ljava/lang/Object;")).before a0 Z = true := hG.1 _ (List.mem_of_getElem? (i := 79) rfl)
theorem w80 {a0 : Array Value} {Z : State} {EL : List (String × Nat)} (hG : oG a0 Z EL) : ((Jvm.Cond.fieldLink "java/util/ArrayList" (9 : Nat) "java/util/ArrayList" "elementData" "[Ljava/lang/Object;")).before a0 Z = true := hG.1 _ (List.mem_of_getElem? (i := 80) rfl)
theorem w81 {a0 : Array Value} {Z : State} {EL : List (String × Nat)} (hG : oG a0 Z EL) : ((Jvm.Cond.lays "java/util/ArrayList" "java/util/ArrayList" "elementData" "[Ljava/lang/Object;")).before a0 Z = true := hG.1 _ (List.mem_of_getElem? (i := 81) rfl)
theorem w82 {a0 : Array Value} {Z : State} {EL : List (String × Nat)} (hG : oG a0 Z EL) : ((Jvm.Cond.fieldLink "com/example/nonet/nonet/Batch" (24 : Nat) "com/example/nonet/nonet/Batch" "messages" "Ljava/util/List;")).before a0 Z = true := hG.1 _ (List.mem_of_getElem? (i := 82) rfl)
theorem w83 {a0 : Array Value} {Z : State} {EL : List (String × Nat)} (hG : oG a0 Z EL) : ((Jvm.Cond.laysFinal "com/example/nonet/nonet/Batch" "com/example/nonet/nonet/Batch" "messages" "Ljava/util/List;")).before a0 Z = true := hG.1 _ (List.mem_of_getElem? (i := 83) rfl)
theorem w84 {a0 : Array Value} {Z : State} {EL : List (String × Nat)} (hG : oG a0 Z EL) : ((Jvm.Cond.methodLink "com/example/nonet/nonet/BatchIsFullPinLaw" (38 : Nat) ({ cls := "com/example/nonet/nonet/Batch", name := "isFull", desc := "()Z" } : Jvm.MethodName))).before a0 Z = true := hG.1 _ (List.mem_of_getElem? (i := 84) rfl)
theorem w85 {a0 : Array Value} {Z : State} {EL : List (String × Nat)} (hG : oG a0 Z EL) : ((Jvm.Cond.declares ({ cls := "com/example/nonet/nonet/Batch", name := "isFull", desc := "()Z" } : Jvm.MethodName))).before a0 Z = true := hG.1 _ (List.mem_of_getElem? (i := 85) rfl)
theorem w86 {a0 : Array Value} {Z : State} {EL : List (String × Nat)} (hG : oG a0 Z EL) : ((Jvm.Cond.instanceMethod ({ cls := "com/example/nonet/nonet/Batch", name := "isFull", desc := "()Z" } : Jvm.MethodName))).before a0 Z = true := hG.1 _ (List.mem_of_getElem? (i := 86) rfl)
theorem w87 {a0 : Array Value} {Z : State} {EL : List (String × Nat)} (hG : oG a0 Z EL) : ((Jvm.Cond.selects "com/example/nonet/nonet/Batch" ({ cls := "com/example/nonet/nonet/Batch", name := "isFull", desc := "()Z" } : Jvm.MethodName) ({ cls := "com/example/nonet/nonet/Batch", name := "isFull", desc := "()Z" } : Jvm.MethodName))).before a0 Z = true := hG.1 _ (List.mem_of_getElem? (i := 87) rfl)
theorem w88 {a0 : Array Value} {Z : State} {EL : List (String × Nat)} (hG : oG a0 Z EL) : ((Jvm.Cond.code ({ cls := "com/example/nonet/nonet/Batch", name := "isFull", desc := "()Z" } : Jvm.MethodName) prog_2_method_5_code (1 : Nat) (Option.some Jvm.ClassFile.FieldType.boolean))).before a0 Z = true := hG.1 _ (List.mem_of_getElem? (i := 88) rfl)
theorem w89 {a0 : Array Value} {Z : State} {EL : List (String × Nat)} (hG : oG a0 Z EL) : ((Jvm.Cond.fieldLink "com/example/nonet/nonet/Batch" (28 : Nat) "com/example/nonet/nonet/Batch" "size" "I")).before a0 Z = true := hG.1 _ (List.mem_of_getElem? (i := 89) rfl)
theorem w90 {a0 : Array Value} {Z : State} {EL : List (String × Nat)} (hG : oG a0 Z EL) : ((Jvm.Cond.lays "com/example/nonet/nonet/Batch" "com/example/nonet/nonet/Batch" "size" "I")).before a0 Z = true := hG.1 _ (List.mem_of_getElem? (i := 90) rfl)
theorem w91 {a0 : Array Value} {Z : State} {EL : List (String × Nat)} (hG : oG a0 Z EL) : ((Jvm.Cond.methodLink "com/example/nonet/nonet/BatchIsFullPinLaw" (42 : Nat) ({ cls := "com/example/nonet/nonet/Batch", name := "isEmpty", desc := "()Z" } : Jvm.MethodName))).before a0 Z = true := hG.1 _ (List.mem_of_getElem? (i := 91) rfl)
theorem w92 {a0 : Array Value} {Z : State} {EL : List (String × Nat)} (hG : oG a0 Z EL) : ((Jvm.Cond.declares ({ cls := "com/example/nonet/nonet/Batch", name := "isEmpty", desc := "()Z" } : Jvm.MethodName))).before a0 Z = true := hG.1 _ (List.mem_of_getElem? (i := 92) rfl)
theorem w93 {a0 : Array Value} {Z : State} {EL : List (String × Nat)} (hG : oG a0 Z EL) : ((Jvm.Cond.instanceMethod ({ cls := "com/example/nonet/nonet/Batch", name := "isEmpty", desc := "()Z" } : Jvm.MethodName))).before a0 Z = true := hG.1 _ (List.mem_of_getElem? (i := 93) rfl)
theorem w94 {a0 : Array Value} {Z : State} {EL : List (String × Nat)} (hG : oG a0 Z EL) : ((Jvm.Cond.selects "com/example/nonet/nonet/Batch" ({ cls := "com/example/nonet/nonet/Batch", name := "isEmpty", desc := "()Z" } : Jvm.MethodName) ({ cls := "com/example/nonet/nonet/Batch", name := "isEmpty", desc := "()Z" } : Jvm.MethodName))).before a0 Z = true := hG.1 _ (List.mem_of_getElem? (i := 94) rfl)
theorem w95 {a0 : Array Value} {Z : State} {EL : List (String × Nat)} (hG : oG a0 Z EL) : ((Jvm.Cond.code ({ cls := "com/example/nonet/nonet/Batch", name := "isEmpty", desc := "()Z" } : Jvm.MethodName) prog_2_method_6_code (1 : Nat) (Option.some Jvm.ClassFile.FieldType.boolean))).before a0 Z = true := hG.1 _ (List.mem_of_getElem? (i := 95) rfl)
theorem w96 {a0 : Array Value} {Z : State} {EL : List (String × Nat)} (hG : oG a0 Z EL) : ((Jvm.Cond.methodLink "com/example/nonet/nonet/Batch" (38 : Nat) ({ cls := "java/util/List", name := "isEmpty", desc := "()Z" } : Jvm.MethodName))).before a0 Z = true := hG.1 _ (List.mem_of_getElem? (i := 96) rfl)
theorem w97 {a0 : Array Value} {Z : State} {EL : List (String × Nat)} (hG : oG a0 Z EL) : ((Jvm.Cond.declares ({ cls := "java/util/List", name := "isEmpty", desc := "()Z" } : Jvm.MethodName))).before a0 Z = true := hG.1 _ (List.mem_of_getElem? (i := 97) rfl)
theorem w98 {a0 : Array Value} {Z : State} {EL : List (String × Nat)} (hG : oG a0 Z EL) : ((Jvm.Cond.interfaceMethod "java/util/List" "java/util/List" "isEmpty" "()Z")).before a0 Z = true := hG.1 _ (List.mem_of_getElem? (i := 98) rfl)
theorem w99 {a0 : Array Value} {Z : State} {EL : List (String × Nat)} (hG : oG a0 Z EL) : ((Jvm.Cond.selects "java/util/ArrayList" ({ cls := "java/util/List", name := "isEmpty", desc := "()Z" } : Jvm.MethodName) ({ cls := "java/util/ArrayList", name := "isEmpty", desc := "()Z" } : Jvm.MethodName))).before a0 Z = true := hG.1 _ (List.mem_of_getElem? (i := 99) rfl)
theorem w100 {a0 : Array Value} {Z : State} {EL : List (String × Nat)} (hG : oG a0 Z EL) : ((Jvm.Cond.instanceMethod ({ cls := "java/util/ArrayList", name := "isEmpty", desc := "()Z" } : Jvm.MethodName))).before a0 Z = true := hG.1 _ (List.mem_of_getElem? (i := 100) rfl)
theorem w101 {a0 : Array Value} {Z : State} {EL : List (String × Nat)} (hG : oG a0 Z EL) : ((Jvm.Cond.publicMethod ({ cls := "java/util/ArrayList", name := "isEmpty", desc := "()Z" } : Jvm.MethodName))).before a0 Z = true := hG.1 _ (List.mem_of_getElem? (i := 101) rfl)
theorem w102 {a0 : Array Value} {Z : State} {EL : List (String × Nat)} (hG : oG a0 Z EL) : ((Jvm.Cond.unhidden "java/util/ArrayList" "isEmpty" "()Z")).before a0 Z = true := hG.1 _ (List.mem_of_getElem? (i := 102) rfl)
theorem w103 {a0 : Array Value} {Z : State} {EL : List (String × Nat)} (hG : oG a0 Z EL) : ((Jvm.Cond.castable "java/util/ArrayList" "java/util/List")).before a0 Z = true := hG.1 _ (List.mem_of_getElem? (i := 103) rfl)
theorem w104 {a0 : Array Value} {Z : State} {EL : List (String × Nat)} (hG : oG a0 Z EL) : ((Jvm.Cond.code ({ cls := "java/util/ArrayList", name := "isEmpty", desc := "()Z" } : Jvm.MethodName) jdk_38_method_9_code (1 : Nat) (Option.some Jvm.ClassFile.FieldType.boolean))).before a0 Z = true := hG.1 _ (List.mem_of_getElem? (i := 104) rfl)
theorem w105 {a0 : Array Value} {Z : State} {EL : List (String × Nat)} (hG : oG a0 Z EL) : ((Jvm.Cond.fieldLink "java/util/ArrayList" (48 : Nat) "java/util/ArrayList" "size" "I")).before a0 Z = true := hG.1 _ (List.mem_of_getElem? (i := 105) rfl)
theorem w106 {a0 : Array Value} {Z : State} {EL : List (String × Nat)} (hG : oG a0 Z EL) : ((Jvm.Cond.lays "java/util/ArrayList" "java/util/ArrayList" "size" "I")).before a0 Z = true := hG.1 _ (List.mem_of_getElem? (i := 106) rfl)
theorem w107 {a0 : Array Value} {Z : State} {EL : List (String × Nat)} (hG : oG a0 Z EL) : ((Jvm.Cond.methodLink "com/example/nonet/nonet/BatchIsFullPinLaw" (24 : Nat) ({ cls := "com/example/nonet/nonet/BatchIsFullPinLaw", name := "addOne", desc := "(Lcom/example/nonet/nonet/Batch;Z[BLcom/example/nonet/nonet/Answer;)V" } : Jvm.MethodName))).before a0 Z = true := hG.1 _ (List.mem_of_getElem? (i := 107) rfl)
theorem w108 {a0 : Array Value} {Z : State} {EL : List (String × Nat)} (hG : oG a0 Z EL) : ((Jvm.Cond.static ({ cls := "com/example/nonet/nonet/BatchIsFullPinLaw", name := "addOne", desc := "(Lcom/example/nonet/nonet/Batch;Z[BLcom/example/nonet/nonet/Answer;)V" } : Jvm.MethodName))).before a0 Z = true := hG.1 _ (List.mem_of_getElem? (i := 108) rfl)
theorem w109 {a0 : Array Value} {Z : State} {EL : List (String × Nat)} (hG : oG a0 Z EL) : ((Jvm.Cond.initialized "com/example/nonet/nonet/BatchIsFullPinLaw")).before a0 Z = true := hG.1 _ (List.mem_of_getElem? (i := 109) rfl)
theorem w110 {a0 : Array Value} {Z : State} {EL : List (String × Nat)} (hG : oG a0 Z EL) : ((Jvm.Cond.code ({ cls := "com/example/nonet/nonet/BatchIsFullPinLaw", name := "addOne", desc := "(Lcom/example/nonet/nonet/Batch;Z[BLcom/example/nonet/nonet/Answer;)V" } : Jvm.MethodName) method_3_code (4 : Nat) (Option.none : Option Jvm.ClassFile.FieldType))).before a0 Z = true := hG.1 _ (List.mem_of_getElem? (i := 110) rfl)
theorem w111 {a0 : Array Value} {Z : State} {EL : List (String × Nat)} (hG : oG a0 Z EL) : ((Jvm.Cond.methodLink "com/example/nonet/nonet/BatchIsFullPinLaw" (49 : Nat) ({ cls := "com/example/nonet/nonet/Batch", name := "add", desc := "(Lcom/example/nonet/nonet/Answer;)V" } : Jvm.MethodName))).before a0 Z = true := hG.1 _ (List.mem_of_getElem? (i := 111) rfl)
theorem w112 {a0 : Array Value} {Z : State} {EL : List (String × Nat)} (hG : oG a0 Z EL) : ((Jvm.Cond.declares ({ cls := "com/example/nonet/nonet/Batch", name := "add", desc := "(Lcom/example/nonet/nonet/Answer;)V" } : Jvm.MethodName))).before a0 Z = true := hG.1 _ (List.mem_of_getElem? (i := 112) rfl)
theorem w113 {a0 : Array Value} {Z : State} {EL : List (String × Nat)} (hG : oG a0 Z EL) : ((Jvm.Cond.instanceMethod ({ cls := "com/example/nonet/nonet/Batch", name := "add", desc := "(Lcom/example/nonet/nonet/Answer;)V" } : Jvm.MethodName))).before a0 Z = true := hG.1 _ (List.mem_of_getElem? (i := 113) rfl)
theorem w114 {a0 : Array Value} {Z : State} {EL : List (String × Nat)} (hG : oG a0 Z EL) : ((Jvm.Cond.selects "com/example/nonet/nonet/Batch" ({ cls := "com/example/nonet/nonet/Batch", name := "add", desc := "(Lcom/example/nonet/nonet/Answer;)V" } : Jvm.MethodName) ({ cls := "com/example/nonet/nonet/Batch", name := "add", desc := "(Lcom/example/nonet/nonet/Answer;)V" } : Jvm.MethodName))).before a0 Z = true := hG.1 _ (List.mem_of_getElem? (i := 114) rfl)
theorem w115 {a0 : Array Value} {Z : State} {EL : List (String × Nat)} (hG : oG a0 Z EL) : ((Jvm.Cond.code ({ cls := "com/example/nonet/nonet/Batch", name := "add", desc := "(Lcom/example/nonet/nonet/Answer;)V" } : Jvm.MethodName) prog_2_method_3_code (2 : Nat) (Option.none : Option Jvm.ClassFile.FieldType))).before a0 Z = true := hG.1 _ (List.mem_of_getElem? (i := 115) rfl)
theorem w116 {a0 : Array Value} {Z : State} {EL : List (String × Nat)} (hG : oG a0 Z EL) : ((Jvm.Cond.castable "com/example/nonet/nonet/Answer" "com/example/nonet/nonet/Answer")).before a0 Z = true := hG.1 _ (List.mem_of_getElem? (i := 116) rfl)
theorem w117 {a0 : Array Value} {Z : State} {EL : List (String × Nat)} (hG : oG a0 Z EL) : ((Jvm.Cond.methodLink "com/example/nonet/nonet/BatchIsFullPinLaw" (30 : Nat) ({ cls := "com/example/nonet/nonet/Batch", name := "report", desc := "(Lcom/example/nonet/nonet/Message;)V" } : Jvm.MethodName))).before a0 Z = true := hG.1 _ (List.mem_of_getElem? (i := 117) rfl)
theorem w118 {a0 : Array Value} {Z : State} {EL : List (String × Nat)} (hG : oG a0 Z EL) : ((Jvm.Cond.declares ({ cls := "com/example/nonet/nonet/Batch", name := "report", desc := "(Lcom/example/nonet/nonet/Message;)V" } : Jvm.MethodName))).before a0 Z = true := hG.1 _ (List.mem_of_getElem? (i := 118) rfl)
theorem w119 {a0 : Array Value} {Z : State} {EL : List (String × Nat)} (hG : oG a0 Z EL) : ((Jvm.Cond.instanceMethod ({ cls := "com/example/nonet/nonet/Batch", name := "report", desc := "(Lcom/example/nonet/nonet/Message;)V" } : Jvm.MethodName))).before a0 Z = true := hG.1 _ (List.mem_of_getElem? (i := 119) rfl)
theorem w120 {a0 : Array Value} {Z : State} {EL : List (String × Nat)} (hG : oG a0 Z EL) : ((Jvm.Cond.selects "com/example/nonet/nonet/Batch" ({ cls := "com/example/nonet/nonet/Batch", name := "report", desc := "(Lcom/example/nonet/nonet/Message;)V" } : Jvm.MethodName) ({ cls := "com/example/nonet/nonet/Batch", name := "report", desc := "(Lcom/example/nonet/nonet/Message;)V" } : Jvm.MethodName))).before a0 Z = true := hG.1 _ (List.mem_of_getElem? (i := 120) rfl)
theorem w121 {a0 : Array Value} {Z : State} {EL : List (String × Nat)} (hG : oG a0 Z EL) : ((Jvm.Cond.code ({ cls := "com/example/nonet/nonet/Batch", name := "report", desc := "(Lcom/example/nonet/nonet/Message;)V" } : Jvm.MethodName) prog_2_method_4_code (2 : Nat) (Option.none : Option Jvm.ClassFile.FieldType))).before a0 Z = true := hG.1 _ (List.mem_of_getElem? (i := 121) rfl)
theorem w122 {a0 : Array Value} {Z : State} {EL : List (String × Nat)} (hG : oG a0 Z EL) : ((Jvm.Cond.methodLink "com/example/nonet/nonet/Batch" (32 : Nat) ({ cls := "java/util/List", name := "add", desc := "(Ljava/lang/Object;)Z" } : Jvm.MethodName))).before a0 Z = true := hG.1 _ (List.mem_of_getElem? (i := 122) rfl)
theorem w123 {a0 : Array Value} {Z : State} {EL : List (String × Nat)} (hG : oG a0 Z EL) : ((Jvm.Cond.declares ({ cls := "java/util/List", name := "add", desc := "(Ljava/lang/Object;)Z" } : Jvm.MethodName))).before a0 Z = true := hG.1 _ (List.mem_of_getElem? (i := 123) rfl)
theorem w124 {a0 : Array Value} {Z : State} {EL : List (String × Nat)} (hG : oG a0 Z EL) : ((Jvm.Cond.interfaceMethod "java/util/List" "java/util/List" "add" "(Ljava/lang/Object;)Z")).before a0 Z = true := hG.1 _ (List.mem_of_getElem? (i := 124) rfl)
theorem w125 {a0 : Array Value} {Z : State} {EL : List (String × Nat)} (hG : oG a0 Z EL) : ((Jvm.Cond.selects "java/util/ArrayList" ({ cls := "java/util/List", name := "add", desc := "(Ljava/lang/Object;)Z" } : Jvm.MethodName) ({ cls := "java/util/ArrayList", name := "add", desc := "(Ljava/lang/Object;)Z" } : Jvm.MethodName))).before a0 Z = true := hG.1 _ (List.mem_of_getElem? (i := 125) rfl)
theorem w126 {a0 : Array Value} {Z : State} {EL : List (String × Nat)} (hG : oG a0 Z EL) : ((Jvm.Cond.instanceMethod ({ cls := "java/util/ArrayList", name := "add", desc := "(Ljava/lang/Object;)Z" } : Jvm.MethodName))).before a0 Z = true := hG.1 _ (List.mem_of_getElem? (i := 126) rfl)
theorem w127 {a0 : Array Value} {Z : State} {EL : List (String × Nat)} (hG : oG a0 Z EL) : ((Jvm.Cond.publicMethod ({ cls := "java/util/ArrayList", name := "add", desc := "(Ljava/lang/Object;)Z" } : Jvm.MethodName))).before a0 Z = true := hG.1 _ (List.mem_of_getElem? (i := 127) rfl)
theorem w128 {a0 : Array Value} {Z : State} {EL : List (String × Nat)} (hG : oG a0 Z EL) : ((Jvm.Cond.unhidden "java/util/ArrayList" "add" "(Ljava/lang/Object;)Z")).before a0 Z = true := hG.1 _ (List.mem_of_getElem? (i := 128) rfl)
theorem w129 {a0 : Array Value} {Z : State} {EL : List (String × Nat)} (hG : oG a0 Z EL) : ((Jvm.Cond.code ({ cls := "java/util/ArrayList", name := "add", desc := "(Ljava/lang/Object;)Z" } : Jvm.MethodName) jdk_38_method_25_code (2 : Nat) (Option.some Jvm.ClassFile.FieldType.boolean))).before a0 Z = true := hG.1 _ (List.mem_of_getElem? (i := 129) rfl)
theorem w130 {a0 : Array Value} {Z : State} {EL : List (String × Nat)} (hG : oG a0 Z EL) : ((Jvm.Cond.fieldLink "java/util/ArrayList" (63 : Nat) "java/util/ArrayList" "modCount" "I")).before a0 Z = true := hG.1 _ (List.mem_of_getElem? (i := 130) rfl)
theorem w131 {a0 : Array Value} {Z : State} {EL : List (String × Nat)} (hG : oG a0 Z EL) : ((Jvm.Cond.sameField "java/util/ArrayList" "java/util/AbstractList" "modCount" "I")).before a0 Z = true := hG.1 _ (List.mem_of_getElem? (i := 131) rfl)
theorem w132 {a0 : Array Value} {Z : State} {EL : List (String × Nat)} (hG : oG a0 Z EL) : ((Jvm.Cond.methodLink "java/util/ArrayList" (131 : Nat) ({ cls := "java/util/ArrayList", name := "add", desc := "(Ljava/lang/Object;[Ljava/lang/Object;I)V" } : Jvm.MethodName))).before a0 Z = true := hG.1 _ (List.mem_of_getElem? (i := 132) rfl)
theorem w133 {a0 : Array Value} {Z : State} {EL : List (String × Nat)} (hG : oG a0 Z EL) : ((Jvm.Cond.instanceMethod ({ cls := "java/util/ArrayList", name := "add", desc := "(Ljava/lang/Object;[Ljava/lang/Object;I)V" } : Jvm.MethodName))).before a0 Z = true := hG.1 _ (List.mem_of_getElem? (i := 133) rfl)
theorem w134 {a0 : Array Value} {Z : State} {EL : List (String × Nat)} (hG : oG a0 Z EL) : ((Jvm.Cond.privateMethod ({ cls := "java/util/ArrayList", name := "add", desc := "(Ljava/lang/Object;[Ljava/lang/Object;I)V" } : Jvm.MethodName))).before a0 Z = true := hG.1 _ (List.mem_of_getElem? (i := 134) rfl)
theorem w135 {a0 : Array Value} {Z : State} {EL : List (String × Nat)} (hG : oG a0 Z EL) : ((Jvm.Cond.selects "java/util/ArrayList" ({ cls := "java/util/ArrayList", name := "add", desc := "(Ljava/lang/Object;[Ljava/lang/Object;I)V" } : Jvm.MethodName) ({ cls := "java/util/ArrayList", name := "add", desc := "(Ljava/lang/Object;[Ljava/lang/Object;I)V" } : Jvm.MethodName))).before a0 Z = true := hG.1 _ (List.mem_of_getElem? (i := 135) rfl)
theorem w136 {a0 : Array Value} {Z : State} {EL : List (String × Nat)} (hG : oG a0 Z EL) : ((Jvm.Cond.code ({ cls := "java/util/ArrayList", name := "add", desc := "(Ljava/lang/Object;[Ljava/lang/Object;I)V" } : Jvm.MethodName) jdk_38_method_24_code (4 : Nat) (Option.none : Option Jvm.ClassFile.FieldType))).before a0 Z = true := hG.1 _ (List.mem_of_getElem? (i := 136) rfl)
theorem w137 {a0 : Array Value} {Z : State} {EL : List (String × Nat)} (hG : oG a0 Z EL) : ((Jvm.Cond.methodLink "java/util/ArrayList" (129 : Nat) ({ cls := "java/util/ArrayList", name := "grow", desc := "()[Ljava/lang/Object;" } : Jvm.MethodName))).before a0 Z = true := hG.1 _ (List.mem_of_getElem? (i := 137) rfl)
theorem w138 {a0 : Array Value} {Z : State} {EL : List (String × Nat)} (hG : oG a0 Z EL) : ((Jvm.Cond.instanceMethod ({ cls := "java/util/ArrayList", name := "grow", desc := "()[Ljava/lang/Object;" } : Jvm.MethodName))).before a0 Z = true := hG.1 _ (List.mem_of_getElem? (i := 138) rfl)
theorem w139 {a0 : Array Value} {Z : State} {EL : List (String × Nat)} (hG : oG a0 Z EL) : ((Jvm.Cond.privateMethod ({ cls := "java/util/ArrayList", name := "grow", desc := "()[Ljava/lang/Object;" } : Jvm.MethodName))).before a0 Z = true := hG.1 _ (List.mem_of_getElem? (i := 139) rfl)
theorem w140 {a0 : Array Value} {Z : State} {EL : List (String × Nat)} (hG : oG a0 Z EL) : ((Jvm.Cond.selects "java/util/ArrayList" ({ cls := "java/util/ArrayList", name := "grow", desc := "()[Ljava/lang/Object;" } : Jvm.MethodName) ({ cls := "java/util/ArrayList", name := "grow", desc := "()[Ljava/lang/Object;" } : Jvm.MethodName))).before a0 Z = true := hG.1 _ (List.mem_of_getElem? (i := 140) rfl)
theorem w141 {a0 : Array Value} {Z : State} {EL : List (String × Nat)} (hG : oG a0 Z EL) : ((Jvm.Cond.code ({ cls := "java/util/ArrayList", name := "grow", desc := "()[Ljava/lang/Object;" } : Jvm.MethodName) jdk_38_method_7_code (1 : Nat) (Option.some (Jvm.ClassFile.FieldType.array (Jvm.ClassFile.FieldType.object "java/lang/Object"))))).before a0 Z = true := hG.1 _ (List.mem_of_getElem? (i := 141) rfl)
theorem w142 {a0 : Array Value} {Z : State} {EL : List (String × Nat)} (hG : oG a0 Z EL) : ((Jvm.Cond.methodLink "java/util/ArrayList" (69 : Nat) ({ cls := "java/util/ArrayList", name := "grow", desc := "(I)[Ljava/lang/Object;" } : Jvm.MethodName))).before a0 Z = true := hG.1 _ (List.mem_of_getElem? (i := 142) rfl)
theorem w143 {a0 : Array Value} {Z : State} {EL : List (String × Nat)} (hG : oG a0 Z EL) : ((Jvm.Cond.instanceMethod ({ cls := "java/util/ArrayList", name := "grow", desc := "(I)[Ljava/lang/Object;" } : Jvm.MethodName))).before a0 Z = true := hG.1 _ (List.mem_of_getElem? (i := 143) rfl)
theorem w144 {a0 : Array Value} {Z : State} {EL : List (String × Nat)} (hG : oG a0 Z EL) : ((Jvm.Cond.privateMethod ({ cls := "java/util/ArrayList", name := "grow", desc := "(I)[Ljava/lang/Object;" } : Jvm.MethodName))).before a0 Z = true := hG.1 _ (List.mem_of_getElem? (i := 144) rfl)
theorem w145 {a0 : Array Value} {Z : State} {EL : List (String × Nat)} (hG : oG a0 Z EL) : ((Jvm.Cond.selects "java/util/ArrayList" ({ cls := "java/util/ArrayList", name := "grow", desc := "(I)[Ljava/lang/Object;" } : Jvm.MethodName) ({ cls := "java/util/ArrayList", name := "grow", desc := "(I)[Ljava/lang/Object;" } : Jvm.MethodName))).before a0 Z = true := hG.1 _ (List.mem_of_getElem? (i := 145) rfl)
theorem w146 {a0 : Array Value} {Z : State} {EL : List (String × Nat)} (hG : oG a0 Z EL) : ((Jvm.Cond.code ({ cls := "java/util/ArrayList", name := "grow", desc := "(I)[Ljava/lang/Object;" } : Jvm.MethodName) jdk_38_method_6_code (4 : Nat) (Option.some (Jvm.ClassFile.FieldType.array (Jvm.ClassFile.FieldType.object "java/lang/Object"))))).before a0 Z = true := hG.1 _ (List.mem_of_getElem? (i := 146) rfl)
theorem w147 {a0 : Array Value} {Z : State} {EL : List (String × Nat)} (hG : oG a0 Z EL) : ((Jvm.Cond.methodLink "java/util/ArrayList" (79 : Nat) ({ cls := "java/lang/Math", name := "max", desc := "(II)I" } : Jvm.MethodName))).before a0 Z = true := hG.1 _ (List.mem_of_getElem? (i := 147) rfl)
theorem w148 {a0 : Array Value} {Z : State} {EL : List (String × Nat)} (hG : oG a0 Z EL) : ((Jvm.Cond.static ({ cls := "java/lang/Math", name := "max", desc := "(II)I" } : Jvm.MethodName))).before a0 Z = true := hG.1 _ (List.mem_of_getElem? (i := 148) rfl)
theorem w149 {a0 : Array Value} {Z : State} {EL : List (String × Nat)} (hG : oG a0 Z EL) : ((Jvm.Cond.initialized "java/lang/Math")).before a0 Z = true := hG.1 _ (List.mem_of_getElem? (i := 149) rfl)
theorem w150 {a0 : Array Value} {Z : State} {EL : List (String × Nat)} (hG : oG a0 Z EL) : ((Jvm.Cond.code ({ cls := "java/lang/Math", name := "max", desc := "(II)I" } : Jvm.MethodName) jdk_29_method_65_code (2 : Nat) (Option.some Jvm.ClassFile.FieldType.int))).before a0 Z = true := hG.1 _ (List.mem_of_getElem? (i := 150) rfl)
theorem w151 {a0 : Array Value} {Z : State} {EL : List (String × Nat)} (hG : oG a0 Z EL) : ((Jvm.Cond.classLink "java/util/ArrayList" (7 : Nat) "java/lang/Object")).before a0 Z = true := hG.1 _ (List.mem_of_getElem? (i := 151) rfl)
theorem w152 {a0 : Array Value} {Z : State} {EL : List (String × Nat)} (hG : oG a0 Z EL) : ((Jvm.Cond.arrayOver (Jvm.ClassFile.FieldType.object "java/lang/Object"))).before a0 Z = true := hG.1 _ (List.mem_of_getElem? (i := 152) rfl)
theorem w153 {a0 : Array Value} {Z : State} {EL : List (String × Nat)} (hG : oG a0 Z EL) : ((Jvm.Cond.castable "com/example/nonet/nonet/Message" "java/lang/Object")).before a0 Z = true := hG.1 _ (List.mem_of_getElem? (i := 153) rfl)
theorem w154 {a0 : Array Value} {Z : State} {EL : List (String × Nat)} (hG : oG a0 Z EL) : ((Jvm.Cond.methodLink "com/example/nonet/nonet/BatchIsFullPinLaw" (34 : Nat) ({ cls := "com/example/nonet/nonet/Batch", name := "markLast", desc := "(I)V" } : Jvm.MethodName))).before a0 Z = true := hG.1 _ (List.mem_of_getElem? (i := 154) rfl)
theorem w155 {a0 : Array Value} {Z : State} {EL : List (String × Nat)} (hG : oG a0 Z EL) : ((Jvm.Cond.declares ({ cls := "com/example/nonet/nonet/Batch", name := "markLast", desc := "(I)V" } : Jvm.MethodName))).before a0 Z = true := hG.1 _ (List.mem_of_getElem? (i := 155) rfl)
theorem w156 {a0 : Array Value} {Z : State} {EL : List (String × Nat)} (hG : oG a0 Z EL) : ((Jvm.Cond.instanceMethod ({ cls := "com/example/nonet/nonet/Batch", name := "markLast", desc := "(I)V" } : Jvm.MethodName))).before a0 Z = true := hG.1 _ (List.mem_of_getElem? (i := 156) rfl)
theorem w157 {a0 : Array Value} {Z : State} {EL : List (String × Nat)} (hG : oG a0 Z EL) : ((Jvm.Cond.selects "com/example/nonet/nonet/Batch" ({ cls := "com/example/nonet/nonet/Batch", name := "markLast", desc := "(I)V" } : Jvm.MethodName) ({ cls := "com/example/nonet/nonet/Batch", name := "markLast", desc := "(I)V" } : Jvm.MethodName))).before a0 Z = true := hG.1 _ (List.mem_of_getElem? (i := 157) rfl)
theorem w158 {a0 : Array Value} {Z : State} {EL : List (String × Nat)} (hG : oG a0 Z EL) : ((Jvm.Cond.code ({ cls := "com/example/nonet/nonet/Batch", name := "markLast", desc := "(I)V" } : Jvm.MethodName) prog_2_method_8_code (2 : Nat) (Option.none : Option Jvm.ClassFile.FieldType))).before a0 Z = true := hG.1 _ (List.mem_of_getElem? (i := 158) rfl)
theorem w159 {a0 : Array Value} {Z : State} {EL : List (String × Nat)} (hG : oG a0 Z EL) : ((Jvm.Cond.fieldLink "com/example/nonet/nonet/Batch" (46 : Nat) "com/example/nonet/nonet/Batch" "last" "Z")).before a0 Z = true := hG.1 _ (List.mem_of_getElem? (i := 159) rfl)
theorem w160 {a0 : Array Value} {Z : State} {EL : List (String × Nat)} (hG : oG a0 Z EL) : ((Jvm.Cond.lays "com/example/nonet/nonet/Batch" "com/example/nonet/nonet/Batch" "last" "Z")).before a0 Z = true := hG.1 _ (List.mem_of_getElem? (i := 160) rfl)
theorem w161 {a0 : Array Value} {Z : State} {EL : List (String × Nat)} (hG : oG a0 Z EL) : ((Jvm.Cond.fieldLink "com/example/nonet/nonet/Batch" (49 : Nat) "com/example/nonet/nonet/Batch" "status" "I")).before a0 Z = true := hG.1 _ (List.mem_of_getElem? (i := 161) rfl)
theorem w162 {a0 : Array Value} {Z : State} {EL : List (String × Nat)} (hG : oG a0 Z EL) : ((Jvm.Cond.lays "com/example/nonet/nonet/Batch" "com/example/nonet/nonet/Batch" "status" "I")).before a0 Z = true := hG.1 _ (List.mem_of_getElem? (i := 162) rfl)
theorem w163 {a0 : Array Value} {Z : State} {EL : List (String × Nat)} (hG : oG a0 Z EL) : ((Jvm.Cond.methodLink "com/example/nonet/nonet/Batch" (52 : Nat) ({ cls := "java/lang/Math", name := "max", desc := "(II)I" } : Jvm.MethodName))).before a0 Z = true := hG.1 _ (List.mem_of_getElem? (i := 163) rfl)
theorem w164 {a0 : Array Value} {Z : State} {EL : List (String × Nat)} (hG : oG a0 Z EL) : ((Jvm.Cond.methodLink "com/example/nonet/nonet/BatchIsFullPinLaw" (45 : Nat) ({ cls := "com/example/nonet/nonet/Batch", name := "add", desc := "([B)V" } : Jvm.MethodName))).before a0 Z = true := hG.1 _ (List.mem_of_getElem? (i := 164) rfl)
theorem w165 {a0 : Array Value} {Z : State} {EL : List (String × Nat)} (hG : oG a0 Z EL) : ((Jvm.Cond.declares ({ cls := "com/example/nonet/nonet/Batch", name := "add", desc := "([B)V" } : Jvm.MethodName))).before a0 Z = true := hG.1 _ (List.mem_of_getElem? (i := 165) rfl)
theorem w166 {a0 : Array Value} {Z : State} {EL : List (String × Nat)} (hG : oG a0 Z EL) : ((Jvm.Cond.instanceMethod ({ cls := "com/example/nonet/nonet/Batch", name := "add", desc := "([B)V" } : Jvm.MethodName))).before a0 Z = true := hG.1 _ (List.mem_of_getElem? (i := 166) rfl)
theorem w167 {a0 : Array Value} {Z : State} {EL : List (String × Nat)} (hG : oG a0 Z EL) : ((Jvm.Cond.selects "com/example/nonet/nonet/Batch" ({ cls := "com/example/nonet/nonet/Batch", name := "add", desc := "([B)V" } : Jvm.MethodName) ({ cls := "com/example/nonet/nonet/Batch", name := "add", desc := "([B)V" } : Jvm.MethodName))).before a0 Z = true := hG.1 _ (List.mem_of_getElem? (i := 167) rfl)
theorem w168 {a0 : Array Value} {Z : State} {EL : List (String × Nat)} (hG : oG a0 Z EL) : ((Jvm.Cond.code ({ cls := "com/example/nonet/nonet/Batch", name := "add", desc := "([B)V" } : Jvm.MethodName) prog_2_method_2_code (2 : Nat) (Option.none : Option Jvm.ClassFile.FieldType))).before a0 Z = true := hG.1 _ (List.mem_of_getElem? (i := 168) rfl)
theorem w169 {a0 : Array Value} {Z : State} {EL : List (String × Nat)} (hG : oG a0 Z EL) : ((Jvm.Cond.castable "[B" "[B")).before a0 Z = true := hG.1 _ (List.mem_of_getElem? (i := 169) rfl)
theorem strAt {a0 : Array Value} {Z : State} {EL : List (String × Nat)} (hG : oG a0 Z EL) : ∀ a ∈ Bundle.stringAtoms, a.before a0 Z = true := by
  intro a ha
  simp only [Bundle.stringAtoms, Bundle.sN, List.mem_cons, List.not_mem_nil, or_false] at ha
  rcases ha with rfl | rfl | rfl | rfl | rfl | rfl | rfl
  · exact w23 hG
  · exact w24 hG
  · exact w0 hG
  · exact w25 hG
  · exact w26 hG
  · exact w27 hG
  · exact w28 hG
theorem own_len {args : Array Value} {Z : State} {t : Term} {a : Addr} {c : Cell} {ty : FieldType} {n : Nat} (hn : n < 2147483648) (A : Arr Z Z.heap a c ty) (ev : t.eval args Z none [] Z = some (.ref a)) (hl : (Term.length t).eval args Z none [] Z = some (.int (Int32.ofNat n))) : c.slots.size = n := by
  obtain ⟨sd, SA, hev, hat, -⟩ := Term.length_spec hl
  have e : (Term.length t).eval args Z none [] Z = some (.int SA.slots.size.toInt32) := by
    by_cases h31 : SA.slots.size < 2147483648
    · simp [Term.eval, hev, hat, h31]
    · simp [Term.eval, hev, hat, h31] at hl
  have h31 : SA.slots.size < 2147483648 := by
    by_cases h31 : SA.slots.size < 2147483648
    · exact h31
    · simp [Term.eval, hev, hat, h31] at hl
  have e1 : sd = a := by have := hev.symm.trans ev; injection this with q; injection q
  subst e1
  have e2 : SA = c := Option.some.inj ((State.arrayAt?_spec hat).1.symm.trans A.1)
  subst e2
  have e3 : Value.int SA.slots.size.toInt32 = Value.int (Int32.ofNat n) := Option.some.inj (e.symm.trans hl)
  injection e3 with e3
  have e4 := congrArg Int32.toNatClampNeg e3
  have e5 : SA.slots.size.toInt32 = Int32.ofNat SA.slots.size := rfl
  rw [e5, own_n32 h31, own_n32 hn] at e4
  exact e4

theorem sDEF {a0 : Array Value} {Z : State} {EL : List (String × Nat)} (hG : oG a0 Z EL) : ∃ da : Nat, Sta Z Z.heap "java/util/ArrayList" "DEFAULTCAPACITY_EMPTY_ELEMENTDATA" "[Ljava/lang/Object;" (.ref da) ∧ oArr Z Z.heap da (.object "java/lang/Object") [] := by
  obtain ⟨a, _, _, _, e1, -⟩ := Cond.exactly_spec (hG.2.2.1 _ (List.mem_of_getElem? (i := 7) rfl))
  obtain ⟨c, A⟩ := Arr.start e1 (Cond.before_iff.mp (hG.2.2.1 _ (List.mem_of_getElem? (i := 6) rfl)))
  have hz := own_len (n := 0) (by decide) A e1 (own_eqI (Cond.before_iff.mp (hG.2.2.1 _ (List.mem_of_getElem? (i := 8) rfl))))
  have hz2 : c.slots.toList = [] := List.eq_nil_of_length_eq_zero hz
  exact ⟨a, Sta.start e1 (Or.inr ⟨(w60 hG), (hG.2.2.1 _ (List.mem_of_getElem? (i := 2) rfl))⟩), c, A, hz2, by decide, fun v hv => by simp at hv⟩
theorem d1_0 : decode prog_1_method_2_code 0 = .ok (.aload_n 0, 1) := by decide +kernel
theorem d1_1 : decode prog_1_method_2_code 1 = .ok (.invokespecial 1, 3) := by decide +kernel
theorem d1_4 : decode prog_1_method_2_code 4 = .ok (.aload_n 0, 1) := by decide +kernel
theorem d1_5 : decode prog_1_method_2_code 5 = .ok (.aload_n 1, 1) := by decide +kernel
theorem d1_6 : decode prog_1_method_2_code 6 = .ok (.putfield 7, 3) := by decide +kernel
theorem d1_9 : decode prog_1_method_2_code 9 = .ok (.aload_n 0, 1) := by decide +kernel
theorem d1_10 : decode prog_1_method_2_code 10 = .ok (.iload_n 2, 1) := by decide +kernel
theorem d1_11 : decode prog_1_method_2_code 11 = .ok (.putfield 13, 3) := by decide +kernel
theorem d1_14 : decode prog_1_method_2_code 14 = .ok (.return_, 1) := by decide +kernel
theorem d2_0 : decode jdk_30_method_1_code 0 = .ok (.aload_n 0, 1) := by decide +kernel
theorem d2_1 : decode jdk_30_method_1_code 1 = .ok (.invokespecial 1, 3) := by decide +kernel
theorem d2_4 : decode jdk_30_method_1_code 4 = .ok (.return_, 1) := by decide +kernel
theorem d4_0 : decode prog_13_method_1_code 0 = .ok (.aload_n 0, 1) := by decide +kernel
theorem d4_1 : decode prog_13_method_1_code 1 = .ok (.aload_n 1, 1) := by decide +kernel
theorem d4_2 : decode prog_13_method_1_code 2 = .ok (.lconst 0, 1) := by decide +kernel
theorem d4_3 : decode prog_13_method_1_code 3 = .ok (.aload_n 2, 1) := by decide +kernel
theorem d4_4 : decode prog_13_method_1_code 4 = .ok (.invokespecial 20, 3) := by decide +kernel
theorem d4_7 : decode prog_13_method_1_code 7 = .ok (.return_, 1) := by decide +kernel
theorem d5_0 : decode prog_13_method_2_code 0 = .ok (.aload_n 0, 1) := by decide +kernel
theorem d5_1 : decode prog_13_method_2_code 1 = .ok (.invokespecial 1, 3) := by decide +kernel
theorem d5_4 : decode prog_13_method_2_code 4 = .ok (.aload_n 0, 1) := by decide +kernel
theorem d5_5 : decode prog_13_method_2_code 5 = .ok (.aload_n 1, 1) := by decide +kernel
theorem d5_6 : decode prog_13_method_2_code 6 = .ok (.putfield 7, 3) := by decide +kernel
theorem d5_9 : decode prog_13_method_2_code 9 = .ok (.aload_n 0, 1) := by decide +kernel
theorem d5_10 : decode prog_13_method_2_code 10 = .ok (.lload_n 2, 1) := by decide +kernel
theorem d5_11 : decode prog_13_method_2_code 11 = .ok (.putfield 13, 3) := by decide +kernel
theorem d5_14 : decode prog_13_method_2_code 14 = .ok (.aload_n 0, 1) := by decide +kernel
theorem d5_15 : decode prog_13_method_2_code 15 = .ok (.aload 4, 2) := by decide +kernel
theorem d5_17 : decode prog_13_method_2_code 17 = .ok (.putfield 17, 3) := by decide +kernel
theorem d5_20 : decode prog_13_method_2_code 20 = .ok (.return_, 1) := by decide +kernel
theorem d6_0 : decode prog_2_method_1_code 0 = .ok (.aload_n 0, 1) := by decide +kernel
theorem d6_1 : decode prog_2_method_1_code 1 = .ok (.invokespecial 1, 3) := by decide +kernel
theorem d6_4 : decode prog_2_method_1_code 4 = .ok (.aload_n 0, 1) := by decide +kernel
theorem d6_5 : decode prog_2_method_1_code 5 = .ok (.sipush 128, 3) := by decide +kernel
theorem d6_8 : decode prog_2_method_1_code 8 = .ok (.anewarray 9, 3) := by decide +kernel
theorem d6_11 : decode prog_2_method_1_code 11 = .ok (.putfield 11, 3) := by decide +kernel
theorem d6_14 : decode prog_2_method_1_code 14 = .ok (.aload_n 0, 1) := by decide +kernel
theorem d6_15 : decode prog_2_method_1_code 15 = .ok (.sipush 128, 3) := by decide +kernel
theorem d6_18 : decode prog_2_method_1_code 18 = .ok (.anewarray 15, 3) := by decide +kernel
theorem d6_21 : decode prog_2_method_1_code 21 = .ok (.putfield 17, 3) := by decide +kernel
theorem d6_24 : decode prog_2_method_1_code 24 = .ok (.aload_n 0, 1) := by decide +kernel
theorem d6_25 : decode prog_2_method_1_code 25 = .ok (.new 21, 3) := by decide +kernel
theorem d6_28 : decode prog_2_method_1_code 28 = .ok (.dup, 1) := by decide +kernel
theorem d6_29 : decode prog_2_method_1_code 29 = .ok (.invokespecial 23, 3) := by decide +kernel
theorem d6_32 : decode prog_2_method_1_code 32 = .ok (.putfield 24, 3) := by decide +kernel
theorem d6_35 : decode prog_2_method_1_code 35 = .ok (.return_, 1) := by decide +kernel
theorem d7_0 : decode jdk_38_method_2_code 0 = .ok (.aload_n 0, 1) := by decide +kernel
theorem d7_1 : decode jdk_38_method_2_code 1 = .ok (.invokespecial 1, 3) := by decide +kernel
theorem d7_4 : decode jdk_38_method_2_code 4 = .ok (.aload_n 0, 1) := by decide +kernel
theorem d7_5 : decode jdk_38_method_2_code 5 = .ok (.getstatic 39, 3) := by decide +kernel
theorem d7_8 : decode jdk_38_method_2_code 8 = .ok (.putfield 9, 3) := by decide +kernel
theorem d7_11 : decode jdk_38_method_2_code 11 = .ok (.return_, 1) := by decide +kernel
theorem d8_0 : decode jdk_39_method_1_code 0 = .ok (.aload_n 0, 1) := by decide +kernel
theorem d8_1 : decode jdk_39_method_1_code 1 = .ok (.invokespecial 1, 3) := by decide +kernel
theorem d8_4 : decode jdk_39_method_1_code 4 = .ok (.aload_n 0, 1) := by decide +kernel
theorem d8_5 : decode jdk_39_method_1_code 5 = .ok (.iconst 0, 1) := by decide +kernel
theorem d8_6 : decode jdk_39_method_1_code 6 = .ok (.putfield 7, 3) := by decide +kernel
theorem d8_9 : decode jdk_39_method_1_code 9 = .ok (.return_, 1) := by decide +kernel
theorem d9_0 : decode jdk_22_method_1_code 0 = .ok (.aload_n 0, 1) := by decide +kernel
theorem d9_1 : decode jdk_22_method_1_code 1 = .ok (.invokespecial 1, 3) := by decide +kernel
theorem d9_4 : decode jdk_22_method_1_code 4 = .ok (.return_, 1) := by decide +kernel
theorem d10_0 : decode prog_2_method_5_code 0 = .ok (.aload_n 0, 1) := by decide +kernel
theorem d10_1 : decode prog_2_method_5_code 1 = .ok (.getfield 28, 3) := by decide +kernel
theorem d10_4 : decode prog_2_method_5_code 4 = .ok (.sipush 128, 3) := by decide +kernel
theorem d10_7 : decode prog_2_method_5_code 7 = .ok (.if_icmp .ne 7, 3) := by decide +kernel
theorem d10_14 : decode prog_2_method_5_code 14 = .ok (.iconst 0, 1) := by decide +kernel
theorem d10_15 : decode prog_2_method_5_code 15 = .ok (.ireturn, 1) := by decide +kernel
theorem d11_0 : decode prog_2_method_6_code 0 = .ok (.aload_n 0, 1) := by decide +kernel
theorem d11_1 : decode prog_2_method_6_code 1 = .ok (.getfield 28, 3) := by decide +kernel
theorem d11_4 : decode prog_2_method_6_code 4 = .ok (.ifCond .ne 19, 3) := by decide +kernel
theorem d11_7 : decode prog_2_method_6_code 7 = .ok (.aload_n 0, 1) := by decide +kernel
theorem d11_8 : decode prog_2_method_6_code 8 = .ok (.getfield 24, 3) := by decide +kernel
theorem d11_11 : decode prog_2_method_6_code 11 = .ok (.invokeinterface 38 1, 5) := by decide +kernel
theorem d11_16 : decode prog_2_method_6_code 16 = .ok (.ifCond .eq 7, 3) := by decide +kernel
theorem d11_19 : decode prog_2_method_6_code 19 = .ok (.iconst 1, 1) := by decide +kernel
theorem d11_20 : decode prog_2_method_6_code 20 = .ok (.goto 4, 3) := by decide +kernel
theorem d11_23 : decode prog_2_method_6_code 23 = .ok (.iconst 0, 1) := by decide +kernel
theorem d11_24 : decode prog_2_method_6_code 24 = .ok (.ireturn, 1) := by decide +kernel
theorem d12_0 : decode jdk_38_method_9_code 0 = .ok (.aload_n 0, 1) := by decide +kernel
theorem d12_1 : decode jdk_38_method_9_code 1 = .ok (.getfield 48, 3) := by decide +kernel
theorem d12_4 : decode jdk_38_method_9_code 4 = .ok (.ifCond .ne 7, 3) := by decide +kernel
theorem d12_7 : decode jdk_38_method_9_code 7 = .ok (.iconst 1, 1) := by decide +kernel
theorem d12_8 : decode jdk_38_method_9_code 8 = .ok (.goto 4, 3) := by decide +kernel
theorem d12_11 : decode jdk_38_method_9_code 11 = .ok (.iconst 0, 1) := by decide +kernel
theorem d12_12 : decode jdk_38_method_9_code 12 = .ok (.ireturn, 1) := by decide +kernel
theorem d13_0 : decode method_3_code 0 = .ok (.iload_n 1, 1) := by decide +kernel
theorem d13_1 : decode method_3_code 1 = .ok (.ifCond .eq 11, 3) := by decide +kernel
theorem d13_4 : decode method_3_code 4 = .ok (.aload_n 0, 1) := by decide +kernel
theorem d13_5 : decode method_3_code 5 = .ok (.aload_n 2, 1) := by decide +kernel
theorem d13_6 : decode method_3_code 6 = .ok (.invokevirtual 45, 3) := by decide +kernel
theorem d13_9 : decode method_3_code 9 = .ok (.goto 8, 3) := by decide +kernel
theorem d13_12 : decode method_3_code 12 = .ok (.aload_n 0, 1) := by decide +kernel
theorem d13_13 : decode method_3_code 13 = .ok (.aload_n 3, 1) := by decide +kernel
theorem d13_14 : decode method_3_code 14 = .ok (.invokevirtual 49, 3) := by decide +kernel
theorem d13_17 : decode method_3_code 17 = .ok (.return_, 1) := by decide +kernel
theorem d14_0 : decode prog_2_method_3_code 0 = .ok (.aload_n 0, 1) := by decide +kernel
theorem d14_1 : decode prog_2_method_3_code 1 = .ok (.getfield 17, 3) := by decide +kernel
theorem d14_4 : decode prog_2_method_3_code 4 = .ok (.aload_n 0, 1) := by decide +kernel
theorem d14_5 : decode prog_2_method_3_code 5 = .ok (.dup, 1) := by decide +kernel
theorem d14_6 : decode prog_2_method_3_code 6 = .ok (.getfield 28, 3) := by decide +kernel
theorem d14_9 : decode prog_2_method_3_code 9 = .ok (.dup_x1, 1) := by decide +kernel
theorem d14_10 : decode prog_2_method_3_code 10 = .ok (.iconst 1, 1) := by decide +kernel
theorem d14_11 : decode prog_2_method_3_code 11 = .ok (.iadd, 1) := by decide +kernel
theorem d14_12 : decode prog_2_method_3_code 12 = .ok (.putfield 28, 3) := by decide +kernel
theorem d14_15 : decode prog_2_method_3_code 15 = .ok (.aload_n 1, 1) := by decide +kernel
theorem d14_16 : decode prog_2_method_3_code 16 = .ok (.aastore, 1) := by decide +kernel
theorem d14_17 : decode prog_2_method_3_code 17 = .ok (.return_, 1) := by decide +kernel
theorem d15_0 : decode prog_2_method_4_code 0 = .ok (.aload_n 0, 1) := by decide +kernel
theorem d15_1 : decode prog_2_method_4_code 1 = .ok (.getfield 24, 3) := by decide +kernel
theorem d15_4 : decode prog_2_method_4_code 4 = .ok (.aload_n 1, 1) := by decide +kernel
theorem d15_5 : decode prog_2_method_4_code 5 = .ok (.invokeinterface 32 2, 5) := by decide +kernel
theorem d15_10 : decode prog_2_method_4_code 10 = .ok (.pop, 1) := by decide +kernel
theorem d15_11 : decode prog_2_method_4_code 11 = .ok (.return_, 1) := by decide +kernel
theorem d16_0 : decode jdk_38_method_25_code 0 = .ok (.aload_n 0, 1) := by decide +kernel
theorem d16_1 : decode jdk_38_method_25_code 1 = .ok (.dup, 1) := by decide +kernel
theorem d16_2 : decode jdk_38_method_25_code 2 = .ok (.getfield 63, 3) := by decide +kernel
theorem d16_5 : decode jdk_38_method_25_code 5 = .ok (.iconst 1, 1) := by decide +kernel
theorem d16_6 : decode jdk_38_method_25_code 6 = .ok (.iadd, 1) := by decide +kernel
theorem d16_7 : decode jdk_38_method_25_code 7 = .ok (.putfield 63, 3) := by decide +kernel
theorem d16_10 : decode jdk_38_method_25_code 10 = .ok (.aload_n 0, 1) := by decide +kernel
theorem d16_11 : decode jdk_38_method_25_code 11 = .ok (.aload_n 1, 1) := by decide +kernel
theorem d16_12 : decode jdk_38_method_25_code 12 = .ok (.aload_n 0, 1) := by decide +kernel
theorem d16_13 : decode jdk_38_method_25_code 13 = .ok (.getfield 9, 3) := by decide +kernel
theorem d16_16 : decode jdk_38_method_25_code 16 = .ok (.aload_n 0, 1) := by decide +kernel
theorem d16_17 : decode jdk_38_method_25_code 17 = .ok (.getfield 48, 3) := by decide +kernel
theorem d16_20 : decode jdk_38_method_25_code 20 = .ok (.invokevirtual 131, 3) := by decide +kernel
theorem d16_23 : decode jdk_38_method_25_code 23 = .ok (.iconst 1, 1) := by decide +kernel
theorem d16_24 : decode jdk_38_method_25_code 24 = .ok (.ireturn, 1) := by decide +kernel
theorem d17_0 : decode jdk_38_method_24_code 0 = .ok (.iload_n 3, 1) := by decide +kernel
theorem d17_1 : decode jdk_38_method_24_code 1 = .ok (.aload_n 2, 1) := by decide +kernel
theorem d17_2 : decode jdk_38_method_24_code 2 = .ok (.arraylength, 1) := by decide +kernel
theorem d17_3 : decode jdk_38_method_24_code 3 = .ok (.if_icmp .ne 8, 3) := by decide +kernel
theorem d17_6 : decode jdk_38_method_24_code 6 = .ok (.aload_n 0, 1) := by decide +kernel
theorem d17_7 : decode jdk_38_method_24_code 7 = .ok (.invokevirtual 129, 3) := by decide +kernel
theorem d17_10 : decode jdk_38_method_24_code 10 = .ok (.astore_n 2, 1) := by decide +kernel
theorem d17_11 : decode jdk_38_method_24_code 11 = .ok (.aload_n 2, 1) := by decide +kernel
theorem d17_12 : decode jdk_38_method_24_code 12 = .ok (.iload_n 3, 1) := by decide +kernel
theorem d17_13 : decode jdk_38_method_24_code 13 = .ok (.aload_n 1, 1) := by decide +kernel
theorem d17_14 : decode jdk_38_method_24_code 14 = .ok (.aastore, 1) := by decide +kernel
theorem d17_15 : decode jdk_38_method_24_code 15 = .ok (.aload_n 0, 1) := by decide +kernel
theorem d17_16 : decode jdk_38_method_24_code 16 = .ok (.iload_n 3, 1) := by decide +kernel
theorem d17_17 : decode jdk_38_method_24_code 17 = .ok (.iconst 1, 1) := by decide +kernel
theorem d17_18 : decode jdk_38_method_24_code 18 = .ok (.iadd, 1) := by decide +kernel
theorem d17_19 : decode jdk_38_method_24_code 19 = .ok (.putfield 48, 3) := by decide +kernel
theorem d17_22 : decode jdk_38_method_24_code 22 = .ok (.return_, 1) := by decide +kernel
theorem d18_0 : decode jdk_38_method_7_code 0 = .ok (.aload_n 0, 1) := by decide +kernel
theorem d18_1 : decode jdk_38_method_7_code 1 = .ok (.aload_n 0, 1) := by decide +kernel
theorem d18_2 : decode jdk_38_method_7_code 2 = .ok (.getfield 48, 3) := by decide +kernel
theorem d18_5 : decode jdk_38_method_7_code 5 = .ok (.iconst 1, 1) := by decide +kernel
theorem d18_6 : decode jdk_38_method_7_code 6 = .ok (.iadd, 1) := by decide +kernel
theorem d18_7 : decode jdk_38_method_7_code 7 = .ok (.invokevirtual 69, 3) := by decide +kernel
theorem d18_10 : decode jdk_38_method_7_code 10 = .ok (.areturn, 1) := by decide +kernel
theorem d19_0 : decode jdk_38_method_6_code 0 = .ok (.aload_n 0, 1) := by decide +kernel
theorem d19_1 : decode jdk_38_method_6_code 1 = .ok (.getfield 9, 3) := by decide +kernel
theorem d19_4 : decode jdk_38_method_6_code 4 = .ok (.arraylength, 1) := by decide +kernel
theorem d19_5 : decode jdk_38_method_6_code 5 = .ok (.istore_n 2, 1) := by decide +kernel
theorem d19_6 : decode jdk_38_method_6_code 6 = .ok (.iload_n 2, 1) := by decide +kernel
theorem d19_7 : decode jdk_38_method_6_code 7 = .ok (.ifCond .gt 13, 3) := by decide +kernel
theorem d19_10 : decode jdk_38_method_6_code 10 = .ok (.aload_n 0, 1) := by decide +kernel
theorem d19_11 : decode jdk_38_method_6_code 11 = .ok (.getfield 9, 3) := by decide +kernel
theorem d19_14 : decode jdk_38_method_6_code 14 = .ok (.getstatic 39, 3) := by decide +kernel
theorem d19_17 : decode jdk_38_method_6_code 17 = .ok (.if_acmp .eq 28, 3) := by decide +kernel
theorem d19_45 : decode jdk_38_method_6_code 45 = .ok (.aload_n 0, 1) := by decide +kernel
theorem d19_46 : decode jdk_38_method_6_code 46 = .ok (.bipush 10, 2) := by decide +kernel
theorem d19_48 : decode jdk_38_method_6_code 48 = .ok (.iload_n 1, 1) := by decide +kernel
theorem d19_49 : decode jdk_38_method_6_code 49 = .ok (.invokestatic 79, 3) := by decide +kernel
theorem d19_52 : decode jdk_38_method_6_code 52 = .ok (.anewarray 7, 3) := by decide +kernel
theorem d19_55 : decode jdk_38_method_6_code 55 = .ok (.dup_x1, 1) := by decide +kernel
theorem d19_56 : decode jdk_38_method_6_code 56 = .ok (.putfield 9, 3) := by decide +kernel
theorem d19_59 : decode jdk_38_method_6_code 59 = .ok (.areturn, 1) := by decide +kernel
theorem d20_0 : decode jdk_29_method_65_code 0 = .ok (.iload_n 0, 1) := by decide +kernel
theorem d20_1 : decode jdk_29_method_65_code 1 = .ok (.iload_n 1, 1) := by decide +kernel
theorem d20_2 : decode jdk_29_method_65_code 2 = .ok (.if_icmp .lt 7, 3) := by decide +kernel
theorem d20_5 : decode jdk_29_method_65_code 5 = .ok (.iload_n 0, 1) := by decide +kernel
theorem d20_6 : decode jdk_29_method_65_code 6 = .ok (.goto 4, 3) := by decide +kernel
theorem d20_9 : decode jdk_29_method_65_code 9 = .ok (.iload_n 1, 1) := by decide +kernel
theorem d20_10 : decode jdk_29_method_65_code 10 = .ok (.ireturn, 1) := by decide +kernel
theorem d21_0 : decode prog_2_method_8_code 0 = .ok (.aload_n 0, 1) := by decide +kernel
theorem d21_1 : decode prog_2_method_8_code 1 = .ok (.iconst 1, 1) := by decide +kernel
theorem d21_2 : decode prog_2_method_8_code 2 = .ok (.putfield 46, 3) := by decide +kernel
theorem d21_5 : decode prog_2_method_8_code 5 = .ok (.aload_n 0, 1) := by decide +kernel
theorem d21_6 : decode prog_2_method_8_code 6 = .ok (.aload_n 0, 1) := by decide +kernel
theorem d21_7 : decode prog_2_method_8_code 7 = .ok (.getfield 49, 3) := by decide +kernel
theorem d21_10 : decode prog_2_method_8_code 10 = .ok (.iload_n 1, 1) := by decide +kernel
theorem d21_11 : decode prog_2_method_8_code 11 = .ok (.invokestatic 52, 3) := by decide +kernel
theorem d21_14 : decode prog_2_method_8_code 14 = .ok (.putfield 49, 3) := by decide +kernel
theorem d21_17 : decode prog_2_method_8_code 17 = .ok (.return_, 1) := by decide +kernel
theorem d22_0 : decode prog_2_method_2_code 0 = .ok (.aload_n 0, 1) := by decide +kernel
theorem d22_1 : decode prog_2_method_2_code 1 = .ok (.getfield 11, 3) := by decide +kernel
theorem d22_4 : decode prog_2_method_2_code 4 = .ok (.aload_n 0, 1) := by decide +kernel
theorem d22_5 : decode prog_2_method_2_code 5 = .ok (.dup, 1) := by decide +kernel
theorem d22_6 : decode prog_2_method_2_code 6 = .ok (.getfield 28, 3) := by decide +kernel
theorem d22_9 : decode prog_2_method_2_code 9 = .ok (.dup_x1, 1) := by decide +kernel
theorem d22_10 : decode prog_2_method_2_code 10 = .ok (.iconst 1, 1) := by decide +kernel
theorem d22_11 : decode prog_2_method_2_code 11 = .ok (.iadd, 1) := by decide +kernel
theorem d22_12 : decode prog_2_method_2_code 12 = .ok (.putfield 28, 3) := by decide +kernel
theorem d22_15 : decode prog_2_method_2_code 15 = .ok (.aload_n 1, 1) := by decide +kernel
theorem d22_16 : decode prog_2_method_2_code 16 = .ok (.aastore, 1) := by decide +kernel
theorem d22_17 : decode prog_2_method_2_code 17 = .ok (.return_, 1) := by decide +kernel
theorem pd0 : parseMethodDescriptor "()V" = some ⟨[], none⟩ := by decide +kernel
theorem pd1 : parseMethodDescriptor "(Ljava/lang/String;JLjava/lang/String;)V" = some ⟨[(.object "java/lang/String"), .long, (.object "java/lang/String")], none⟩ := by decide +kernel
theorem pd2 : parseMethodDescriptor "(Lcom/example/nonet/nonet/Answer;)V" = some ⟨[(.object "com/example/nonet/nonet/Answer")], none⟩ := by decide +kernel
theorem pd3 : parseMethodDescriptor "([B)V" = some ⟨[(.array .byte)], none⟩ := by decide +kernel
theorem pd4 : parseMethodDescriptor "(II)I" = some ⟨[.int, .int], some .int⟩ := by decide +kernel
theorem pd5 : parseMethodDescriptor "()Z" = some ⟨[], some .boolean⟩ := by decide +kernel
theorem pd6 : parseMethodDescriptor "(I)[Ljava/lang/Object;" = some ⟨[.int], some (.array (.object "java/lang/Object"))⟩ := by decide +kernel
theorem pd7 : parseMethodDescriptor "()[Ljava/lang/Object;" = some ⟨[], some (.array (.object "java/lang/Object"))⟩ := by decide +kernel
theorem pd8 : parseMethodDescriptor "(Ljava/lang/Object;[Ljava/lang/Object;I)V" = some ⟨[(.object "java/lang/Object"), (.array (.object "java/lang/Object")), .int], none⟩ := by decide +kernel
theorem pd9 : parseMethodDescriptor "(Ljava/lang/Object;)Z" = some ⟨[(.object "java/lang/Object")], some .boolean⟩ := by decide +kernel
theorem pd10 : parseMethodDescriptor "([BI)V" = some ⟨[(.array .byte), .int], none⟩ := by decide +kernel
theorem pd11 : parseMethodDescriptor "(Ljava/lang/String;Ljava/lang/String;)V" = some ⟨[(.object "java/lang/String"), (.object "java/lang/String")], none⟩ := by decide +kernel
theorem pd12 : parseMethodDescriptor "(I)V" = some ⟨[.int], none⟩ := by decide +kernel
theorem pd13 : parseMethodDescriptor "(Lcom/example/nonet/nonet/Message;)V" = some ⟨[(.object "com/example/nonet/nonet/Message")], none⟩ := by decide +kernel
theorem pd14 : parseMethodDescriptor "(Lcom/example/nonet/nonet/Batch;Z[BLcom/example/nonet/nonet/Answer;)V" = some ⟨[(.object "com/example/nonet/nonet/Batch"), .boolean, (.array .byte), (.object "com/example/nonet/nonet/Answer")], none⟩ := by decide +kernel
theorem pn0 : plainName "java/lang/Record" = true := by first | (simp [plainName, overriddenIn]; done) | decide +kernel
theorem pn1 : plainName "com/example/nonet/nonet/Answer" = true := by first | (simp [plainName, overriddenIn]; done) | decide +kernel
theorem pn2 : plainName "com/example/nonet/nonet/Message" = true := by first | (simp [plainName, overriddenIn]; done) | decide +kernel
theorem pn3 : plainName "java/util/AbstractCollection" = true := by first | (simp [plainName, overriddenIn]; done) | decide +kernel
theorem pn4 : plainName "java/util/AbstractList" = true := by first | (simp [plainName, overriddenIn]; done) | decide +kernel
theorem pn5 : plainName "java/util/ArrayList" = true := by first | (simp [plainName, overriddenIn]; done) | decide +kernel
theorem pn6 : plainName "com/example/nonet/nonet/Batch" = true := by first | (simp [plainName, overriddenIn]; done) | decide +kernel
theorem pn7 : plainName "com/example/nonet/nonet/BatchIsFullPinLaw" = true := by first | (simp [plainName, overriddenIn]; done) | decide +kernel
set_option maxRecDepth 65536 in
set_option maxHeartbeats 4000000 in
theorem c_record {l : Launch} {Z : State} {a0 : Array Value} {EL : List (String × Nat)} (hG : oG a0 Z EL) (x : Nat) (h : Heap)  :
    oCtr [] l Z a0 EL True (⟨"java/lang/Record", "<init>", "()V"⟩ : MethodName) jdk_30_method_1_code 1 none ({ frames := 1, cells := 0, slots := 0, locals := 12 } : Room) #[.ref x] [] h (fun v h' => v = none ∧ h' = h) oNo := by
  refine oCtr.enter (Ls := #[.val (.ref x)]) (plainFor_of_name pn0) hG.2.1 (fun m => by first | (simp [entryFrame, mkF, argsToLocals, Value.category]; done) | rfl) ?_
  intro pP eE sS mM bB tT cC
  refine oGo.aload_n (pc' := 1) d2_0 rfl rfl rfl ?_
  refine oGo.objinit (pc' := 4) d2_1 rfl (w12 hG) (w13 hG) (w14 hG) rfl (by decide) (Nat.le_of_ble_eq_true rfl) ?_
  exact oGo.return_ d2_4 rfl (by decide) (by decide) ⟨rfl, rfl⟩ (fun _ q => q.elim)
set_option maxRecDepth 65536 in
set_option maxHeartbeats 4000000 in
theorem c_answer {l : Launch} {Z : State} {a0 : Array Value} {EL : List (String × Nat)} (hG : oG a0 Z EL) (x a : Nat) (z : Int32) (h : Heap) (E : Exa Z h x "com/example/nonet/nonet/Answer") (F0 : Fld Z h x "com/example/nonet/nonet/Answer" "line" "[B" .null) (F1 : Fld Z h x "com/example/nonet/nonet/Answer" "status" "I" (.int 0)) :
    oCtr [] l Z a0 EL True (⟨"com/example/nonet/nonet/Answer", "<init>", "([BI)V"⟩ : MethodName) prog_1_method_2_code 3 none ({ frames := 2, cells := 0, slots := 0, locals := 24 } : Room) #[.ref x, .ref a, .int z] [x] h (fun v h' => v = none ∧ Keep h h' [x] ∧ Exa Z h' x "com/example/nonet/nonet/Answer") oNo := by
  refine oCtr.enter (Ls := #[.val (.ref x), .val (.ref a), .val (.int z)]) (plainFor_of_name pn1) hG.2.1 (fun m => by first | (simp [entryFrame, mkF, argsToLocals, Value.category]; done) | rfl) ?_
  intro pP eE sS mM bB tT cC
  refine oGo.aload_n (pc' := 1) d1_0 rfl rfl rfl ?_
  refine oGo.invokespecial (pc' := 4) (k' := 0) (n' := 0) (a := x) (argsL := []) (rest := []) d1_1 rfl rfl (w7 hG) (w8 hG) (w10 hG) (w11 hG) (by decide) pd0 rfl rfl rfl (c_record hG x h) (by simp) (by decide) (Nat.le_of_ble_eq_true rfl) rfl rfl (by decide) (by decide) ?_
  intro v1 h2 sh2 q3
  obtain ⟨rfl, ee⟩ := q3
  obtain rfl := ee.symm
  refine ⟨_, fun _ hx => Or.inl hx, ?_⟩
  show oGo l Z a0 EL True pP eE sS mM _ bB tT cC _ _ _ _ _ _ _ _ [x] h 0 0 4 #[.val (.ref x), .val (.ref a), .val (.int z)] []
  refine oGo.aload_n (pc' := 5) d1_4 rfl rfl rfl ?_
  refine oGo.aload_n (pc' := 6) d1_5 rfl rfl rfl ?_
  refine oGo.putfield (pc' := 9) (ty := (.array .byte)) d1_6 rfl (w15 hG) Via.refl F0 E (Or.inr ⟨(w16 hG), rfl, rfl⟩) (w2 hG) (by decide) rfl rfl (by simp) ?_
  intro h4 W5 sh4
  have f6 := Fld.same W5 F0
  refine oGo.aload_n (pc' := 10) d1_9 rfl rfl rfl ?_
  refine oGo.iload_n (pc' := 11) d1_10 rfl rfl ?_
  have f7 := Fld.other W5 F1 (Or.inr (slot_ne (C := "com/example/nonet/nonet/Answer") (Or.inr (w18 hG)) (Or.inr (w16 hG)) (by decide) (t := .int) (t' := (.array .byte)) (by decide) (by decide)))
  have f8 := Exa.wr W5 E
  refine oGo.putfield (pc' := 14) (ty := .int) d1_11 rfl (w17 hG) Via.refl f7 f8 (Or.inr ⟨(w18 hG), rfl, rfl⟩) (w2 hG) (by decide) rfl rfl (by simp) ?_
  intro h9 W10 sh9
  have f11 := Fld.same W10 f7
  have f12 := Exa.wr W10 f8
  exact oGo.return_ d1_14 rfl (by decide) (by decide) ⟨rfl, (((Keep.refl h [x]).wr W5 (Or.inl (by simp))).wr W10 (Or.inl (by simp))), f12⟩ (fun _ q => q.elim)
set_option maxRecDepth 65536 in
set_option maxHeartbeats 4000000 in
theorem c_msg3 {l : Launch} {Z : State} {a0 : Array Value} {EL : List (String × Nat)} (hG : oG a0 Z EL) (x a c : Nat) (z : Int64) (h : Heap) (E : Exa Z h x "com/example/nonet/nonet/Message") (F0 : Fld Z h x "com/example/nonet/nonet/Message" "input" "Ljava/lang/String;" .null) (F1 : Fld Z h x "com/example/nonet/nonet/Message" "line" "J" (.long 0)) (F2 : Fld Z h x "com/example/nonet/nonet/Message" "problem" "Ljava/lang/String;" .null) :
    oCtr [] l Z a0 EL True (⟨"com/example/nonet/nonet/Message", "<init>", "(Ljava/lang/String;JLjava/lang/String;)V"⟩ : MethodName) prog_13_method_2_code 5 none ({ frames := 2, cells := 0, slots := 0, locals := 24 } : Room) #[.ref x, .ref a, .long z, .ref c] [x] h (fun v h' => v = none ∧ Keep h h' [x] ∧ Exa Z h' x "com/example/nonet/nonet/Message") oNo := by
  refine oCtr.enter (Ls := #[.val (.ref x), .val (.ref a), .val (.long z), .second, .val (.ref c)]) (plainFor_of_name pn2) hG.2.1 (fun m => by first | (simp [entryFrame, mkF, argsToLocals, Value.category]; done) | rfl) ?_
  intro pP eE sS mM bB tT cC
  refine oGo.aload_n (pc' := 1) d5_0 rfl rfl rfl ?_
  refine oGo.invokespecial (pc' := 4) (k' := 0) (n' := 0) (a := x) (argsL := []) (rest := []) d5_1 rfl rfl (w36 hG) (w8 hG) (w10 hG) (w11 hG) (by decide) pd0 rfl rfl rfl (c_record hG x h) (by simp) (by decide) (Nat.le_of_ble_eq_true rfl) rfl rfl (by decide) (by decide) ?_
  intro v1 h2 sh2 q3
  obtain ⟨rfl, ee⟩ := q3
  obtain rfl := ee.symm
  refine ⟨_, fun _ hx => Or.inl hx, ?_⟩
  show oGo l Z a0 EL True pP eE sS mM _ bB tT cC _ _ _ _ _ _ _ _ [x] h 0 0 4 #[.val (.ref x), .val (.ref a), .val (.long z), .second, .val (.ref c)] []
  refine oGo.aload_n (pc' := 5) d5_4 rfl rfl rfl ?_
  refine oGo.aload_n (pc' := 6) d5_5 rfl rfl rfl ?_
  refine oGo.putfield (pc' := 9) (ty := (.object "java/lang/String")) d5_6 rfl (w37 hG) Via.refl F0 E (Or.inr ⟨(w38 hG), rfl, rfl⟩) (w20 hG) (by decide) rfl rfl (by simp) ?_
  intro h4 W5 sh4
  have f6 := Fld.same W5 F0
  refine oGo.aload_n (pc' := 10) d5_9 rfl rfl rfl ?_
  refine oGo.lload_n (pc' := 11) d5_10 rfl rfl ?_
  have f7 := Fld.other W5 F1 (Or.inr (slot_ne (C := "com/example/nonet/nonet/Message") (Or.inr (w40 hG)) (Or.inr (w38 hG)) (by decide) (t := .long) (t' := (.object "java/lang/String")) (by decide) (by decide)))
  have f8 := Exa.wr W5 E
  refine oGo.putfield (pc' := 14) (ty := .long) d5_11 rfl (w39 hG) Via.refl f7 f8 (Or.inr ⟨(w40 hG), rfl, rfl⟩) (w20 hG) (by decide) rfl rfl (by simp) ?_
  intro h9 W10 sh9
  have f11 := Fld.same W10 f7
  refine oGo.aload_n (pc' := 15) d5_14 rfl rfl rfl ?_
  refine oGo.aload (pc' := 17) d5_15 rfl rfl rfl ?_
  have f12 := Fld.other W5 F2 (Or.inr (slot_ne (C := "com/example/nonet/nonet/Message") (Or.inr (w42 hG)) (Or.inr (w38 hG)) (by decide) (t := (.object "java/lang/String")) (t' := (.object "java/lang/String")) (by decide) (by decide)))
  have f13 := Fld.other W10 f12 (Or.inr (slot_ne (C := "com/example/nonet/nonet/Message") (Or.inr (w42 hG)) (Or.inr (w40 hG)) (by decide) (t := (.object "java/lang/String")) (t' := .long) (by decide) (by decide)))
  have f14 := Exa.wr W10 f8
  refine oGo.putfield (pc' := 20) (ty := (.object "java/lang/String")) d5_17 rfl (w41 hG) Via.refl f13 f14 (Or.inr ⟨(w42 hG), rfl, rfl⟩) (w20 hG) (by decide) rfl rfl (by simp) ?_
  intro h15 W16 sh15
  have f17 := Fld.same W16 f13
  have f18 := Exa.wr W16 f14
  exact oGo.return_ d5_20 rfl (by decide) (by decide) ⟨rfl, ((((Keep.refl h [x]).wr W5 (Or.inl (by simp))).wr W10 (Or.inl (by simp))).wr W16 (Or.inl (by simp))), f18⟩ (fun _ q => q.elim)
set_option maxRecDepth 65536 in
set_option maxHeartbeats 4000000 in
theorem c_msg2 {l : Launch} {Z : State} {a0 : Array Value} {EL : List (String × Nat)} (hG : oG a0 Z EL) (x a c : Nat) (h : Heap) (E : Exa Z h x "com/example/nonet/nonet/Message") (F0 : Fld Z h x "com/example/nonet/nonet/Message" "input" "Ljava/lang/String;" .null) (F1 : Fld Z h x "com/example/nonet/nonet/Message" "line" "J" (.long 0)) (F2 : Fld Z h x "com/example/nonet/nonet/Message" "problem" "Ljava/lang/String;" .null) :
    oCtr [] l Z a0 EL True (⟨"com/example/nonet/nonet/Message", "<init>", "(Ljava/lang/String;Ljava/lang/String;)V"⟩ : MethodName) prog_13_method_1_code 3 none ({ frames := 3, cells := 0, slots := 0, locals := 40 } : Room) #[.ref x, .ref a, .ref c] [x] h (fun v h' => v = none ∧ Keep h h' [x] ∧ Exa Z h' x "com/example/nonet/nonet/Message") oNo := by
  refine oCtr.enter (Ls := #[.val (.ref x), .val (.ref a), .val (.ref c)]) (plainFor_of_name pn2) hG.2.1 (fun m => by first | (simp [entryFrame, mkF, argsToLocals, Value.category]; done) | rfl) ?_
  intro pP eE sS mM bB tT cC
  refine oGo.aload_n (pc' := 1) d4_0 rfl rfl rfl ?_
  refine oGo.aload_n (pc' := 2) d4_1 rfl rfl rfl ?_
  refine oGo.lconst (pc' := 3) (v := 0) d4_2 rfl (by decide) ?_
  refine oGo.aload_n (pc' := 4) d4_3 rfl rfl rfl ?_
  refine oGo.invokespecial (pc' := 7) (k' := 0) (n' := 0) (a := x) (argsL := [.ref a, .long (0 : Int64), .ref c]) (rest := []) d4_4 rfl rfl (w33 hG) (w34 hG) (w21 hG) (w35 hG) (by decide) pd1 rfl rfl rfl (c_msg3 hG x a c 0 h E F0 F1 F2) (by simp) (by decide) (Nat.le_of_ble_eq_true rfl) rfl rfl (by decide) (by decide) ?_
  intro v1 h2 sh2 q3
  obtain ⟨rfl, hq⟩ := q3
  refine ⟨_, fun _ hx => Or.inl hx, ?_⟩
  show oGo l Z a0 EL True pP eE sS mM _ bB tT cC _ _ _ _ _ _ _ _ [x] h2 0 0 7 #[.val (.ref x), .val (.ref a), .val (.ref c)] []
  exact oGo.return_ d4_7 rfl (by decide) (by decide) ⟨rfl, hq⟩ (fun _ q => q.elim)
set_option maxRecDepth 65536 in
set_option maxHeartbeats 4000000 in
theorem c_abscol {l : Launch} {Z : State} {a0 : Array Value} {EL : List (String × Nat)} (hG : oG a0 Z EL) (x : Nat) (h : Heap)  :
    oCtr [] l Z a0 EL True (⟨"java/util/AbstractCollection", "<init>", "()V"⟩ : MethodName) jdk_22_method_1_code 1 none ({ frames := 1, cells := 0, slots := 0, locals := 12 } : Room) #[.ref x] [] h (fun v h' => v = none ∧ h' = h) oNo := by
  refine oCtr.enter (Ls := #[.val (.ref x)]) (plainFor_of_name pn3) hG.2.1 (fun m => by first | (simp [entryFrame, mkF, argsToLocals, Value.category]; done) | rfl) ?_
  intro pP eE sS mM bB tT cC
  refine oGo.aload_n (pc' := 1) d9_0 rfl rfl rfl ?_
  refine oGo.objinit (pc' := 4) d9_1 rfl (w76 hG) (w13 hG) (w14 hG) rfl (by decide) (Nat.le_of_ble_eq_true rfl) ?_
  exact oGo.return_ d9_4 rfl (by decide) (by decide) ⟨rfl, rfl⟩ (fun _ q => q.elim)
set_option maxRecDepth 65536 in
set_option maxHeartbeats 4000000 in
theorem c_abslist {l : Launch} {Z : State} {a0 : Array Value} {EL : List (String × Nat)} (hG : oG a0 Z EL) (x : Nat) (h : Heap) (E : Exa Z h x "java/util/ArrayList") (Fm : Fld Z h x "java/util/AbstractList" "modCount" "I" (.int 0)) (Fe : Fld Z h x "java/util/ArrayList" "elementData" "[Ljava/lang/Object;" .null) (Fs : Fld Z h x "java/util/ArrayList" "size" "I" (.int 0)) :
    oCtr [] l Z a0 EL True (⟨"java/util/AbstractList", "<init>", "()V"⟩ : MethodName) jdk_39_method_1_code 1 none ({ frames := 2, cells := 0, slots := 0, locals := 24 } : Room) #[.ref x] [x] h (fun v h' => v = none ∧ Keep h h' [x] ∧ Exa Z h' x "java/util/ArrayList" ∧ Fld Z h' x "java/util/AbstractList" "modCount" "I" (.int 0) ∧ Fld Z h' x "java/util/ArrayList" "elementData" "[Ljava/lang/Object;" .null ∧ Fld Z h' x "java/util/ArrayList" "size" "I" (.int 0)) oNo := by
  refine oCtr.enter (Ls := #[.val (.ref x)]) (plainFor_of_name pn4) hG.2.1 (fun m => by first | (simp [entryFrame, mkF, argsToLocals, Value.category]; done) | rfl) ?_
  intro pP eE sS mM bB tT cC
  refine oGo.aload_n (pc' := 1) d8_0 rfl rfl rfl ?_
  refine oGo.invokespecial (pc' := 4) (k' := 0) (n' := 0) (a := x) (argsL := []) (rest := []) d8_1 rfl rfl (w70 hG) (w71 hG) (w74 hG) (w75 hG) (by decide) pd0 rfl rfl rfl (c_abscol hG x h) (by simp) (by decide) (Nat.le_of_ble_eq_true rfl) rfl rfl (by decide) (by decide) ?_
  intro v1 h2 sh2 q3
  obtain ⟨rfl, ee⟩ := q3
  obtain rfl := ee.symm
  refine ⟨_, fun _ hx => Or.inl hx, ?_⟩
  show oGo l Z a0 EL True pP eE sS mM _ bB tT cC _ _ _ _ _ _ _ _ [x] h 0 0 4 #[.val (.ref x)] []
  refine oGo.aload_n (pc' := 5) d8_4 rfl rfl rfl ?_
  refine oGo.iconst (pc' := 6) (v := 0) d8_5 rfl (by decide) ?_
  refine oGo.putfield (pc' := 9) (ty := .int) d8_6 rfl (w77 hG) Via.refl Fm E (Or.inl (w78 hG)) (w59 hG) (by decide) rfl rfl (by simp) ?_
  intro h4 W5 sh4
  have f6 := Fld.same W5 Fm
  have f7 := Exa.wr W5 E
  have f8 := Fld.other W5 Fe (Or.inr (slot_ne (C := "java/util/ArrayList") (Or.inl (w81 hG)) (Or.inl (w78 hG)) (by decide) (t := (.array (.object "java/lang/Object"))) (t' := .int) (by decide) (by decide)))
  have f9 := Fld.other W5 Fs (Or.inr (slot_ne (C := "java/util/ArrayList") (Or.inl (w106 hG)) (Or.inl (w78 hG)) (by decide) (t := .int) (t' := .int) (by decide) (by decide)))
  exact oGo.return_ d8_9 rfl (by decide) (by decide) ⟨rfl, ((Keep.refl h [x]).wr W5 (Or.inl (by simp))), f7, f6, f8, f9⟩ (fun _ q => q.elim)
set_option maxRecDepth 65536 in
set_option maxHeartbeats 4000000 in
theorem c_alInit {l : Launch} {Z : State} {a0 : Array Value} {EL : List (String × Nat)} (hG : oG a0 Z EL) (x da : Nat) (h : Heap) (E : Exa Z h x "java/util/ArrayList") (Fm : Fld Z h x "java/util/AbstractList" "modCount" "I" (.int 0)) (Fe : Fld Z h x "java/util/ArrayList" "elementData" "[Ljava/lang/Object;" .null) (Fs : Fld Z h x "java/util/ArrayList" "size" "I" (.int 0)) (Sd : Sta Z Z.heap "java/util/ArrayList" "DEFAULTCAPACITY_EMPTY_ELEMENTDATA" "[Ljava/lang/Object;" (.ref da)) :
    oCtr [] l Z a0 EL True (⟨"java/util/ArrayList", "<init>", "()V"⟩ : MethodName) jdk_38_method_2_code 1 none ({ frames := 3, cells := 0, slots := 0, locals := 36 } : Room) #[.ref x] [x] h (fun v h' => v = none ∧ Keep h h' [x] ∧ Exa Z h' x "java/util/ArrayList" ∧ Fld Z h' x "java/util/AbstractList" "modCount" "I" (.int 0) ∧ Fld Z h' x "java/util/ArrayList" "elementData" "[Ljava/lang/Object;" (.ref da) ∧ Fld Z h' x "java/util/ArrayList" "size" "I" (.int 0)) oNo := by
  refine oCtr.enter (Ls := #[.val (.ref x)]) (plainFor_of_name pn5) hG.2.1 (fun m => by first | (simp [entryFrame, mkF, argsToLocals, Value.category]; done) | rfl) ?_
  intro pP eE sS mM bB tT cC
  refine oGo.aload_n (pc' := 1) d7_0 rfl rfl rfl ?_
  refine oGo.invokespecial (pc' := 4) (k' := 0) (n' := 0) (a := x) (argsL := []) (rest := []) d7_1 rfl rfl (w64 hG) (w65 hG) (w68 hG) (w69 hG) (by decide) pd0 rfl rfl rfl (c_abslist hG x h E Fm Fe Fs) (by simp) (by decide) (Nat.le_of_ble_eq_true rfl) rfl rfl (by decide) (by decide) ?_
  intro v1 h2 sh2 q3
  obtain ⟨rfl, K2, E2, G1, G2, G3⟩ := q3
  refine ⟨_, fun _ hx => Or.inl hx, ?_⟩
  show oGo l Z a0 EL True pP eE sS mM _ bB tT cC _ _ _ _ _ _ _ _ [x] h2 0 0 4 #[.val (.ref x)] []
  refine oGo.aload_n (pc' := 5) d7_4 rfl rfl rfl ?_
  refine oGo.getstatic (pc' := 8) d7_5 rfl (w79 hG) Via.refl Sd ?_
  refine oGo.putfield (pc' := 11) (ty := (.array (.object "java/lang/Object"))) d7_8 rfl (w80 hG) Via.refl G2 E2 (Or.inl (w81 hG)) (w59 hG) (by decide) rfl rfl (by simp) ?_
  intro h4 W5 sh4
  have f6 := Fld.same W5 G2
  have f7 := Exa.wr W5 E2
  have f8 := Fld.other W5 G1 (Or.inr (slot_ne (C := "java/util/ArrayList") (Or.inl (w78 hG)) (Or.inl (w81 hG)) (by decide) (t := .int) (t' := (.array (.object "java/lang/Object"))) (by decide) (by decide)))
  have f9 := Fld.other W5 G3 (Or.inr (slot_ne (C := "java/util/ArrayList") (Or.inl (w106 hG)) (Or.inl (w81 hG)) (by decide) (t := .int) (t' := (.array (.object "java/lang/Object"))) (by decide) (by decide)))
  exact oGo.return_ d7_11 rfl (by decide) (by decide) ⟨rfl, (((Keep.refl h [x]).trans K2 (by simp)).wr W5 (Or.inl (by simp))), f7, f8, f6, f9⟩ (fun _ q => q.elim)
def oBt (Z : State) (h : Heap) (b pz an li : Nat) (sz : Nat) : Prop := ((b ≠ pz ∧ b ≠ an ∧ b ≠ li) ∧ (pz ≠ an ∧ pz ≠ li ∧ an ≠ li)) ∧ Exa Z h b "com/example/nonet/nonet/Batch" ∧ Fld Z h b "com/example/nonet/nonet/Batch" "puzzles" "[[B" (.ref pz) ∧ Fld Z h b "com/example/nonet/nonet/Batch" "answers" "[Lcom/example/nonet/nonet/Answer;" (.ref an) ∧ Fld Z h b "com/example/nonet/nonet/Batch" "size" "I" (.int (Int32.ofNat sz)) ∧ Fld Z h b "com/example/nonet/nonet/Batch" "messages" "Ljava/util/List;" (.ref li) ∧ oRA Z h pz "[B" 128 ∧ oRA Z h an "com/example/nonet/nonet/Answer" 128 ∧ (∃ s, Fld Z h b "com/example/nonet/nonet/Batch" "status" "I" (.int s)) ∧ (∃ s, Fld Z h b "com/example/nonet/nonet/Batch" "last" "Z" (.int s))
def oLi (Z : State) (h : Heap) (li da : Nat) : Prop := Exa Z h li "java/util/ArrayList" ∧ Fld Z h li "java/util/AbstractList" "modCount" "I" (.int 0) ∧ Fld Z h li "java/util/ArrayList" "elementData" "[Ljava/lang/Object;" (.ref da) ∧ Fld Z h li "java/util/ArrayList" "size" "I" (.int 0)
abbrev oBtO (Z : State) (b : Nat) : Option Value → Heap → Addr → Prop := fun _ h' x => Fld Z h' b "com/example/nonet/nonet/Batch" "puzzles" "[[B" (.ref x) ∨ Fld Z h' b "com/example/nonet/nonet/Batch" "answers" "[Lcom/example/nonet/nonet/Answer;" (.ref x) ∨ Fld Z h' b "com/example/nonet/nonet/Batch" "messages" "Ljava/util/List;" (.ref x)
set_option maxRecDepth 65536 in
set_option maxHeartbeats 4000000 in
theorem c_batch {l : Launch} {Z : State} {a0 : Array Value} {EL : List (String × Nat)} (hG : oG a0 Z EL) (b da : Nat) (h : Heap) (E : Exa Z h b "com/example/nonet/nonet/Batch") (F0 : Fld Z h b "com/example/nonet/nonet/Batch" "puzzles" "[[B" .null) (F1 : Fld Z h b "com/example/nonet/nonet/Batch" "answers" "[Lcom/example/nonet/nonet/Answer;" .null) (F2 : Fld Z h b "com/example/nonet/nonet/Batch" "messages" "Ljava/util/List;" .null) (F3 : Fld Z h b "com/example/nonet/nonet/Batch" "size" "I" (.int 0)) (F4 : Fld Z h b "com/example/nonet/nonet/Batch" "last" "Z" (.int 0)) (F5 : Fld Z h b "com/example/nonet/nonet/Batch" "status" "I" (.int 0)) (Sd : Sta Z Z.heap "java/util/ArrayList" "DEFAULTCAPACITY_EMPTY_ELEMENTDATA" "[Ljava/lang/Object;" (.ref da)) :
    oCtr [] l Z a0 EL True (⟨"com/example/nonet/nonet/Batch", "<init>", "()V"⟩ : MethodName) prog_2_method_1_code 1 none ({ frames := 4, cells := 3, slots := 300, locals := 50 } : Room) #[.ref b] [b] h (fun v h' => v = none ∧ Keep h h' [b] ∧ ∃ pz an li : Nat, (h.size ≤ pz ∧ h.size ≤ an ∧ h.size ≤ li) ∧ oBt Z h' b pz an li 0 ∧ oLi Z h' li da) (oBtO Z b) := by
  have lb := own_ltN E.lt
  refine oCtr.enter (Ls := #[.val (.ref b)]) (plainFor_of_name pn6) hG.2.1 (fun m => by first | (simp [entryFrame, mkF, argsToLocals, Value.category]; done) | rfl) ?_
  intro pP eE sS mM bB tT cC
  refine oGo.aload_n (pc' := 1) d6_0 rfl rfl rfl ?_
  refine oGo.objinit (pc' := 4) d6_1 rfl (w49 hG) (w13 hG) (w14 hG) rfl (by decide) (Nat.le_of_ble_eq_true rfl) ?_
  refine oGo.aload_n (pc' := 5) d6_4 rfl rfl rfl ?_
  refine oGo.sipush (pc' := 8) (v := 128) d6_5 rfl (by decide) ?_
  refine oGo.anewarrayA (pc' := 11) (k' := 1) (n' := 128) (i := 128) (ty := .byte) (C := "[B") d6_8 rfl rfl (w50 hG) (w51 hG) rfl 128 (by decide) (by decide) rfl rfl (by decide) (by decide) ?_
  intro h1 a2 qa2 la2 E3 A4
  have f5 := Fld.ext E3 F0
  have f6 := Exa.ext E3 E
  refine oGo.putfield (pc' := 14) (ty := (.array (.array .byte))) d6_11 rfl (w52 hG) Via.refl f5 f6 (Or.inr ⟨(w53 hG), rfl, rfl⟩) (w44 hG) (by decide) rfl rfl (by simp) ?_
  intro h7 W8 sh7
  have f9 := Fld.same W8 f5
  refine oGo.aload_n (pc' := 15) d6_14 rfl rfl rfl ?_
  refine oGo.sipush (pc' := 18) (v := 128) d6_15 rfl (by decide) ?_
  refine oGo.anewarray (pc' := 21) (k' := 2) (n' := 256) (i := 128) (C := "com/example/nonet/nonet/Answer") d6_18 rfl (w54 hG) (w55 hG) rfl 128 (by decide) (by decide) rfl rfl (by decide) (by decide) ?_
  intro h10 a11 qa11 la11 E12 A13
  have f14 := Fld.ext E3 F1
  have f15 := Fld.other W8 f14 (Or.inr (slot_ne (C := "com/example/nonet/nonet/Batch") (Or.inr (w57 hG)) (Or.inr (w53 hG)) (by decide) (t := (.array (.object "com/example/nonet/nonet/Answer"))) (t' := (.array (.array .byte))) (by decide) (by decide)))
  have f16 := Fld.ext E12 f15
  have f17 := Exa.wr W8 f6
  have f18 := Exa.ext E12 f17
  refine oGo.putfield (pc' := 24) (ty := (.array (.object "com/example/nonet/nonet/Answer"))) d6_21 rfl (w56 hG) Via.refl f16 f18 (Or.inr ⟨(w57 hG), rfl, rfl⟩) (w44 hG) (by decide) rfl rfl (by simp) ?_
  intro h19 W20 sh19
  have f21 := Fld.same W20 f16
  refine oGo.aload_n (pc' := 25) d6_24 rfl rfl rfl ?_
  refine oGo.new (pc' := 28) (k' := 3) (n' := 259) d6_25 rfl (w58 hG) (w59 hG) (w60 hG) rfl rfl (by decide) (by decide) ?_
  intro h22 a23 qa23 la23 E24 X25 F26
  have f27 := F26 (Or.inl (w78 hG)) (ty := .int) (by decide)
  have f28 := F26 (Or.inl (w81 hG)) (ty := (.array (.object "java/lang/Object"))) (by decide)
  have f29 := F26 (Or.inl (w106 hG)) (ty := .int) (by decide)
  refine oGo.dup (pc' := 29) d6_28 rfl rfl ?_
  refine oGo.invokespecial (pc' := 32) (k' := 3) (n' := 259) (a := a23) (argsL := []) (rest := [.ref a23, .ref b]) d6_29 rfl rfl (w61 hG) (w62 hG) (w60 hG) (w63 hG) (by decide) pd0 rfl rfl rfl (c_alInit hG a23 da _ X25 f27 f28 f29 Sd) (by simp) (by decide) (Nat.le_of_ble_eq_true rfl) rfl rfl (by decide) (by decide) ?_
  intro v30 h31 sh31 q32
  obtain ⟨rfl, KL, EL2, H1, H2, H3⟩ := q32
  refine ⟨_, fun _ hx => Or.inl hx, ?_⟩
  show oGo l Z a0 EL True pP eE sS mM _ bB tT cC _ _ _ _ _ _ _ _ [a23, a11, a2, b] h31 3 259 32 #[.val (.ref b)] [.ref a23, .ref b]
  have f33 := Fld.ext E3 F2
  have f34 := Fld.other W8 f33 (Or.inr (slot_ne (C := "com/example/nonet/nonet/Batch") (Or.inr (w83 hG)) (Or.inr (w53 hG)) (by decide) (t := (.object "java/util/List")) (t' := (.array (.array .byte))) (by decide) (by decide)))
  have f35 := Fld.ext E12 f34
  have f36 := Fld.other W20 f35 (Or.inr (slot_ne (C := "com/example/nonet/nonet/Batch") (Or.inr (w83 hG)) (Or.inr (w57 hG)) (by decide) (t := (.object "java/util/List")) (t' := (.array (.object "com/example/nonet/nonet/Answer"))) (by decide) (by decide)))
  have f37 := Fld.ext E24 f36
  have g39 := own_lt_le (x := b) lb E3.1
  have g40 := own_lt_le (x := b) g39 (Nat.le_of_eq (Wr.size W8).symm)
  have g41 := own_lt_le (x := b) g40 E12.1
  have g42 := own_lt_le (x := b) g41 (Nat.le_of_eq (Wr.size W20).symm)
  have f38 := Fld.keep f37 KL (own_nin1 (own_ne_ge (x := b) (y := a23) g42 (own_ge_eq qa23)))
  have f43 := Exa.wr W20 f18
  have f44 := Exa.ext E24 f43
  have f45 := Exa.keep f44 KL
  refine oGo.putfield (pc' := 35) (ty := (.object "java/util/List")) d6_32 rfl (w82 hG) Via.refl f38 f45 (Or.inr ⟨(w83 hG), rfl, rfl⟩) (w44 hG) (by decide) rfl rfl (by simp) ?_
  intro h46 W47 sh46
  have f48 := Fld.same W47 f38
  have z49 := own_le_le (x := h.size) (Nat.le_refl _) E3.1
  have z50 := own_le_le (x := h.size) z49 (Nat.le_of_eq (Wr.size W8).symm)
  have z51 := own_le_le (x := h.size) z50 E12.1
  have z52 := own_le_le (x := h.size) z51 (Nat.le_of_eq (Wr.size W20).symm)
  have g53 := own_lt_le (x := a2) la2 (Nat.le_of_eq (Wr.size W8).symm)
  have g54 := own_lt_le (x := a2) g53 E12.1
  have g55 := own_lt_le (x := a2) g54 (Nat.le_of_eq (Wr.size W20).symm)
  have g56 := own_lt_le (x := a11) la11 (Nat.le_of_eq (Wr.size W20).symm)
  have f57 := Exa.wr W47 f45
  have f58 := Fld.ext E12 f9
  have f59 := Fld.other W20 f58 (Or.inr (slot_ne (C := "com/example/nonet/nonet/Batch") (Or.inr (w53 hG)) (Or.inr (w57 hG)) (by decide) (t := (.array (.array .byte))) (t' := (.array (.object "com/example/nonet/nonet/Answer"))) (by decide) (by decide)))
  have f60 := Fld.ext E24 f59
  have f61 := Fld.keep f60 KL (own_nin1 (own_ne_ge (x := b) (y := a23) g42 (own_ge_eq qa23)))
  have f62 := Fld.other W47 f61 (Or.inr (slot_ne (C := "com/example/nonet/nonet/Batch") (Or.inr (w53 hG)) (Or.inr (w83 hG)) (by decide) (t := (.array (.array .byte))) (t' := (.object "java/util/List")) (by decide) (by decide)))
  have f63 := Fld.ext E24 f21
  have f64 := Fld.keep f63 KL (own_nin1 (own_ne_ge (x := b) (y := a23) g42 (own_ge_eq qa23)))
  have f65 := Fld.other W47 f64 (Or.inr (slot_ne (C := "com/example/nonet/nonet/Batch") (Or.inr (w57 hG)) (Or.inr (w83 hG)) (by decide) (t := (.array (.object "com/example/nonet/nonet/Answer"))) (t' := (.object "java/util/List")) (by decide) (by decide)))
  have f66 := Fld.ext E3 F3
  have f67 := Fld.other W8 f66 (Or.inr (slot_ne (C := "com/example/nonet/nonet/Batch") (Or.inl (w90 hG)) (Or.inr (w53 hG)) (by decide) (t := .int) (t' := (.array (.array .byte))) (by decide) (by decide)))
  have f68 := Fld.ext E12 f67
  have f69 := Fld.other W20 f68 (Or.inr (slot_ne (C := "com/example/nonet/nonet/Batch") (Or.inl (w90 hG)) (Or.inr (w57 hG)) (by decide) (t := .int) (t' := (.array (.object "com/example/nonet/nonet/Answer"))) (by decide) (by decide)))
  have f70 := Fld.ext E24 f69
  have f71 := Fld.keep f70 KL (own_nin1 (own_ne_ge (x := b) (y := a23) g42 (own_ge_eq qa23)))
  have f72 := Fld.other W47 f71 (Or.inr (slot_ne (C := "com/example/nonet/nonet/Batch") (Or.inl (w90 hG)) (Or.inr (w83 hG)) (by decide) (t := .int) (t' := (.object "java/util/List")) (by decide) (by decide)))
  have f73 := A4.other W8 (own_ne_ge' (x := b) (y := a2) lb (own_ge_eq qa2))
  have f74 := f73.ext E12
  have f75 := f74.other W20 (own_ne_ge' (x := b) (y := a2) lb (own_ge_eq qa2))
  have f76 := f75.ext E24
  have f77 := f76.keep KL (own_nin1 (own_ne_ge (x := a2) (y := a23) g55 (own_ge_eq qa23)))
  have f78 := f77.other W47 (own_ne_ge' (x := b) (y := a2) lb (own_ge_eq qa2))
  have f79 := A13.other W20 (own_ne_ge' (x := b) (y := a11) g40 (own_ge_eq qa11))
  have f80 := f79.ext E24
  have f81 := f80.keep KL (own_nin1 (own_ne_ge (x := a11) (y := a23) g56 (own_ge_eq qa23)))
  have f82 := f81.other W47 (own_ne_ge' (x := b) (y := a11) g40 (own_ge_eq qa11))
  have f83 := Fld.ext E3 F5
  have f84 := Fld.other W8 f83 (Or.inr (slot_ne (C := "com/example/nonet/nonet/Batch") (Or.inl (w162 hG)) (Or.inr (w53 hG)) (by decide) (t := .int) (t' := (.array (.array .byte))) (by decide) (by decide)))
  have f85 := Fld.ext E12 f84
  have f86 := Fld.other W20 f85 (Or.inr (slot_ne (C := "com/example/nonet/nonet/Batch") (Or.inl (w162 hG)) (Or.inr (w57 hG)) (by decide) (t := .int) (t' := (.array (.object "com/example/nonet/nonet/Answer"))) (by decide) (by decide)))
  have f87 := Fld.ext E24 f86
  have f88 := Fld.keep f87 KL (own_nin1 (own_ne_ge (x := b) (y := a23) g42 (own_ge_eq qa23)))
  have f89 := Fld.other W47 f88 (Or.inr (slot_ne (C := "com/example/nonet/nonet/Batch") (Or.inl (w162 hG)) (Or.inr (w83 hG)) (by decide) (t := .int) (t' := (.object "java/util/List")) (by decide) (by decide)))
  have f90 := Fld.ext E3 F4
  have f91 := Fld.other W8 f90 (Or.inr (slot_ne (C := "com/example/nonet/nonet/Batch") (Or.inl (w160 hG)) (Or.inr (w53 hG)) (by decide) (t := .boolean) (t' := (.array (.array .byte))) (by decide) (by decide)))
  have f92 := Fld.ext E12 f91
  have f93 := Fld.other W20 f92 (Or.inr (slot_ne (C := "com/example/nonet/nonet/Batch") (Or.inl (w160 hG)) (Or.inr (w57 hG)) (by decide) (t := .boolean) (t' := (.array (.object "com/example/nonet/nonet/Answer"))) (by decide) (by decide)))
  have f94 := Fld.ext E24 f93
  have f95 := Fld.keep f94 KL (own_nin1 (own_ne_ge (x := b) (y := a23) g42 (own_ge_eq qa23)))
  have f96 := Fld.other W47 f95 (Or.inr (slot_ne (C := "com/example/nonet/nonet/Batch") (Or.inl (w160 hG)) (Or.inr (w83 hG)) (by decide) (t := .boolean) (t' := (.object "java/util/List")) (by decide) (by decide)))
  have f97 := Exa.wr W47 EL2
  have f98 := Fld.other W47 H1 (Or.inl (own_ne_ge' (x := b) (y := a23) g42 (own_ge_eq qa23)))
  have f99 := Fld.other W47 H2 (Or.inl (own_ne_ge' (x := b) (y := a23) g42 (own_ge_eq qa23)))
  have f100 := Fld.other W47 H3 (Or.inl (own_ne_ge' (x := b) (y := a23) g42 (own_ge_eq qa23)))
  exact oGo.return_ d6_35 rfl (by decide) (by decide) ⟨rfl, ((((((((Keep.refl h [b]).ext E3).wr W8 (Or.inl (by simp))).ext E12).wr W20 (Or.inl (by simp))).ext E24).trans KL (own_new1 (own_le_le (x := h.size) z52 (own_ge_eq qa23)))).wr W47 (Or.inl (by simp))), a2, a11, a23, ⟨(own_le_le (x := h.size) (Nat.le_refl _) (own_ge_eq qa2)), (own_le_le (x := h.size) z50 (own_ge_eq qa11)), (own_le_le (x := h.size) z52 (own_ge_eq qa23))⟩, ⟨⟨⟨(own_ne_ge (x := b) (y := a2) lb (own_ge_eq qa2)), (own_ne_ge (x := b) (y := a11) g40 (own_ge_eq qa11)), (own_ne_ge (x := b) (y := a23) g42 (own_ge_eq qa23))⟩, (own_ne_ge (x := a2) (y := a11) g53 (own_ge_eq qa11)), (own_ne_ge (x := a2) (y := a23) g55 (own_ge_eq qa23)), (own_ne_ge (x := a11) (y := a23) g56 (own_ge_eq qa23))⟩, f57, f62, f65, f72, f48, f78, f82, ⟨_, f89⟩, ⟨_, f96⟩⟩, ⟨f97, f98, f99, f100⟩⟩ (fun y q => by rcases q with q | q | q; cases oFld_det2 f62 q; simp; cases oFld_det2 f65 q; simp; cases oFld_det2 f48 q; simp)
set_option maxRecDepth 65536 in
set_option maxHeartbeats 4000000 in
theorem c_addP {l : Launch} {Z : State} {a0 : Array Value} {EL : List (String × Nat)} (hG : oG a0 Z EL) (b pz an li g sz : Nat) (hs : sz < 100) (h : Heap) (B : oBt Z h b pz an li sz) (Eg : Exa Z h g "[B") :
    oCtr [] l Z a0 EL True (⟨"com/example/nonet/nonet/Batch", "add", "([B)V"⟩ : MethodName) prog_2_method_2_code 2 none ({ frames := 0, cells := 0, slots := 0, locals := 0 } : Room) #[.ref b, .ref g] [b, pz, an] h (fun v h' => v = none ∧ Keep h h' [b, pz, an] ∧ oBt Z h' b pz an li (sz + 1)) oNo := by
  refine oCtr.enter (Ls := #[.val (.ref b), .val (.ref g)]) (plainFor_of_name pn6) hG.2.1 (fun m => by first | (simp [entryFrame, mkF, argsToLocals, Value.category]; done) | rfl) ?_
  intro pP eE sS mM bB tT cC
  obtain ⟨⟨⟨n1, n2, n3⟩, n4, n5, n6⟩, E, G1, G2, G3, G4, A1, A2, ⟨s5, G5⟩, ⟨s6, G6⟩⟩ := B
  have lb := own_ltN E.lt
  have lp := own_ltN A1.lt
  have la := own_ltN A2.lt
  refine oGo.aload_n (pc' := 1) d22_0 rfl rfl rfl ?_
  refine oGo.getfield (pc' := 4) d22_1 rfl (w52 hG) Via.refl G1 ?_
  refine oGo.aload_n (pc' := 5) d22_4 rfl rfl rfl ?_
  refine oGo.dup (pc' := 6) d22_5 rfl rfl ?_
  refine oGo.getfield (pc' := 9) d22_6 rfl (w89 hG) Via.refl G3 ?_
  refine oGo.dup_x1 (pc' := 10) d22_9 rfl rfl rfl ?_
  refine oGo.iconst (pc' := 11) (v := 1) d22_10 rfl (by decide) ?_
  refine oGo.iadd (pc' := 12) d22_11 rfl ?_
  rw [own_addL sz 1 1 rfl]
  refine oGo.putfield (pc' := 15) (ty := .int) d22_12 rfl (w89 hG) Via.refl G3 E (Or.inl (w90 hG)) (w44 hG) (by decide) rfl rfl (by simp) ?_
  intro h1 W2 sh1
  have f3 := Fld.same W2 G3
  refine oGo.aload_n (pc' := 16) d22_15 rfl rfl rfl ?_
  have f4 := Exa.wr W2 Eg
  have f8 := A1.other W2 (Ne.symm n1)
  refine oGo.aastore (pc' := 17) (i := sz) d22_16 rfl f8 rfl (by omega) (Ins.of_exa f4 (w169 hG)) (by simp) ?_
  intro h5 W6 sh5 A7
  have f9 := Exa.wr W2 E
  have f10 := Exa.wr W6 f9
  have f11 := Fld.other W2 G1 (Or.inr (slot_ne (C := "com/example/nonet/nonet/Batch") (Or.inr (w53 hG)) (Or.inl (w90 hG)) (by decide) (t := (.array (.array .byte))) (t' := .int) (by decide) (by decide)))
  have f12 := Fld.other W6 f11 (Or.inl n1)
  have f13 := Fld.other W2 G2 (Or.inr (slot_ne (C := "com/example/nonet/nonet/Batch") (Or.inr (w57 hG)) (Or.inl (w90 hG)) (by decide) (t := (.array (.object "com/example/nonet/nonet/Answer"))) (t' := .int) (by decide) (by decide)))
  have f14 := Fld.other W6 f13 (Or.inl n1)
  have f15 := Fld.other W6 f3 (Or.inl n1)
  have f16 := Fld.other W2 G4 (Or.inr (slot_ne (C := "com/example/nonet/nonet/Batch") (Or.inr (w83 hG)) (Or.inl (w90 hG)) (by decide) (t := (.object "java/util/List")) (t' := .int) (by decide) (by decide)))
  have f17 := Fld.other W6 f16 (Or.inl n1)
  have f18 := A2.other W2 (Ne.symm n2)
  have f19 := f18.other W6 (Ne.symm n4)
  have f20 := Fld.other W2 G5 (Or.inr (slot_ne (C := "com/example/nonet/nonet/Batch") (Or.inl (w162 hG)) (Or.inl (w90 hG)) (by decide) (t := .int) (t' := .int) (by decide) (by decide)))
  have f21 := Fld.other W6 f20 (Or.inl n1)
  have f22 := Fld.other W2 G6 (Or.inr (slot_ne (C := "com/example/nonet/nonet/Batch") (Or.inl (w160 hG)) (Or.inl (w90 hG)) (by decide) (t := .boolean) (t' := .int) (by decide) (by decide)))
  have f23 := Fld.other W6 f22 (Or.inl n1)
  exact oGo.return_ d22_17 rfl (by decide) (by decide) ⟨rfl, (((Keep.refl h [b, pz, an]).wr W2 (Or.inl (by simp))).wr W6 (Or.inl (by simp))), ⟨⟨⟨n1, n2, n3⟩, n4, n5, n6⟩, f10, f12, f14, f15, f17, A7, f19, ⟨_, f21⟩, ⟨_, f23⟩⟩⟩ (fun _ q => q.elim)
set_option maxRecDepth 65536 in
set_option maxHeartbeats 4000000 in
theorem c_addA {l : Launch} {Z : State} {a0 : Array Value} {EL : List (String × Nat)} (hG : oG a0 Z EL) (b pz an li g sz : Nat) (hs : sz < 100) (h : Heap) (B : oBt Z h b pz an li sz) (Eg : Exa Z h g "com/example/nonet/nonet/Answer") :
    oCtr [] l Z a0 EL True (⟨"com/example/nonet/nonet/Batch", "add", "(Lcom/example/nonet/nonet/Answer;)V"⟩ : MethodName) prog_2_method_3_code 2 none ({ frames := 0, cells := 0, slots := 0, locals := 0 } : Room) #[.ref b, .ref g] [b, pz, an] h (fun v h' => v = none ∧ Keep h h' [b, pz, an] ∧ oBt Z h' b pz an li (sz + 1)) oNo := by
  refine oCtr.enter (Ls := #[.val (.ref b), .val (.ref g)]) (plainFor_of_name pn6) hG.2.1 (fun m => by first | (simp [entryFrame, mkF, argsToLocals, Value.category]; done) | rfl) ?_
  intro pP eE sS mM bB tT cC
  obtain ⟨⟨⟨n1, n2, n3⟩, n4, n5, n6⟩, E, G1, G2, G3, G4, A1, A2, ⟨s5, G5⟩, ⟨s6, G6⟩⟩ := B
  have lb := own_ltN E.lt
  have lp := own_ltN A1.lt
  have la := own_ltN A2.lt
  refine oGo.aload_n (pc' := 1) d14_0 rfl rfl rfl ?_
  refine oGo.getfield (pc' := 4) d14_1 rfl (w56 hG) Via.refl G2 ?_
  refine oGo.aload_n (pc' := 5) d14_4 rfl rfl rfl ?_
  refine oGo.dup (pc' := 6) d14_5 rfl rfl ?_
  refine oGo.getfield (pc' := 9) d14_6 rfl (w89 hG) Via.refl G3 ?_
  refine oGo.dup_x1 (pc' := 10) d14_9 rfl rfl rfl ?_
  refine oGo.iconst (pc' := 11) (v := 1) d14_10 rfl (by decide) ?_
  refine oGo.iadd (pc' := 12) d14_11 rfl ?_
  rw [own_addL sz 1 1 rfl]
  refine oGo.putfield (pc' := 15) (ty := .int) d14_12 rfl (w89 hG) Via.refl G3 E (Or.inl (w90 hG)) (w44 hG) (by decide) rfl rfl (by simp) ?_
  intro h1 W2 sh1
  have f3 := Fld.same W2 G3
  refine oGo.aload_n (pc' := 16) d14_15 rfl rfl rfl ?_
  have f4 := Exa.wr W2 Eg
  have f8 := A2.other W2 (Ne.symm n2)
  refine oGo.aastore (pc' := 17) (i := sz) d14_16 rfl f8 rfl (by omega) (Ins.of_exa f4 (w116 hG)) (by simp) ?_
  intro h5 W6 sh5 A7
  have f9 := Exa.wr W2 E
  have f10 := Exa.wr W6 f9
  have f11 := Fld.other W2 G1 (Or.inr (slot_ne (C := "com/example/nonet/nonet/Batch") (Or.inr (w53 hG)) (Or.inl (w90 hG)) (by decide) (t := (.array (.array .byte))) (t' := .int) (by decide) (by decide)))
  have f12 := Fld.other W6 f11 (Or.inl n2)
  have f13 := Fld.other W2 G2 (Or.inr (slot_ne (C := "com/example/nonet/nonet/Batch") (Or.inr (w57 hG)) (Or.inl (w90 hG)) (by decide) (t := (.array (.object "com/example/nonet/nonet/Answer"))) (t' := .int) (by decide) (by decide)))
  have f14 := Fld.other W6 f13 (Or.inl n2)
  have f15 := Fld.other W6 f3 (Or.inl n2)
  have f16 := Fld.other W2 G4 (Or.inr (slot_ne (C := "com/example/nonet/nonet/Batch") (Or.inr (w83 hG)) (Or.inl (w90 hG)) (by decide) (t := (.object "java/util/List")) (t' := .int) (by decide) (by decide)))
  have f17 := Fld.other W6 f16 (Or.inl n2)
  have f18 := A1.other W2 (Ne.symm n1)
  have f19 := f18.other W6 n4
  have f20 := Fld.other W2 G5 (Or.inr (slot_ne (C := "com/example/nonet/nonet/Batch") (Or.inl (w162 hG)) (Or.inl (w90 hG)) (by decide) (t := .int) (t' := .int) (by decide) (by decide)))
  have f21 := Fld.other W6 f20 (Or.inl n2)
  have f22 := Fld.other W2 G6 (Or.inr (slot_ne (C := "com/example/nonet/nonet/Batch") (Or.inl (w160 hG)) (Or.inl (w90 hG)) (by decide) (t := .boolean) (t' := .int) (by decide) (by decide)))
  have f23 := Fld.other W6 f22 (Or.inl n2)
  exact oGo.return_ d14_17 rfl (by decide) (by decide) ⟨rfl, (((Keep.refl h [b, pz, an]).wr W2 (Or.inl (by simp))).wr W6 (Or.inl (by simp))), ⟨⟨⟨n1, n2, n3⟩, n4, n5, n6⟩, f10, f12, f14, f15, f17, f19, A7, ⟨_, f21⟩, ⟨_, f23⟩⟩⟩ (fun _ q => q.elim)
set_option maxRecDepth 65536 in
set_option maxHeartbeats 4000000 in
theorem c_addOne {l : Launch} {Z : State} {a0 : Array Value} {EL : List (String × Nat)} (hG : oG a0 Z EL) (b pz an li g a sz : Nat) (z : Int32) (hs : sz < 100) (h : Heap) (B : oBt Z h b pz an li sz) (Eg : Exa Z h g "[B") (Ea : Exa Z h a "com/example/nonet/nonet/Answer") :
    oCtr [] l Z a0 EL True (⟨"com/example/nonet/nonet/BatchIsFullPinLaw", "addOne", "(Lcom/example/nonet/nonet/Batch;Z[BLcom/example/nonet/nonet/Answer;)V"⟩ : MethodName) method_3_code 4 none ({ frames := 1, cells := 0, slots := 0, locals := 13 } : Room) #[.ref b, .int z, .ref g, .ref a] [b, pz, an] h (fun v h' => v = none ∧ Keep h h' [b, pz, an] ∧ oBt Z h' b pz an li (sz + 1)) oNo := by
  refine oCtr.enter (Ls := #[.val (.ref b), .val (.int z), .val (.ref g), .val (.ref a)]) (plainFor_of_name pn7) hG.2.1 (fun m => by first | (simp [entryFrame, mkF, argsToLocals, Value.category]; done) | rfl) ?_
  intro pP eE sS mM bB tT cC
  refine oGo.iload_n (pc' := 1) d13_0 rfl rfl ?_
  refine oGo.if_eq (pc1 := 4) (pc2 := 12) d13_1 rfl (by decide) (fun q1 => ?_) (fun q1 => ?_)
  · refine oGo.aload_n (pc' := 13) d13_12 rfl rfl rfl ?_
    refine oGo.aload_n (pc' := 14) d13_13 rfl rfl rfl ?_
    refine oGo.invokevirtual (pc' := 17) (k' := 0) (n' := 0) (a := b) (argsL := [.ref a]) (rest := []) d13_14 rfl (w111 hG) (w112 hG) (w114 hG) (w114 hG) rfl (w113 hG) (w45 hG) (w115 hG) (by decide) pd2 rfl rfl rfl B.2.1 (c_addA hG b pz an li a sz hs h B Ea) (by simp) (by decide) (Nat.le_of_ble_eq_true rfl) rfl rfl (by decide) (by decide) ?_
    intro v2 h3 sh3 q4
    obtain ⟨rfl, hq⟩ := q4
    refine ⟨_, fun _ hx => Or.inl hx, ?_⟩
    show oGo l Z a0 EL True pP eE sS mM _ bB tT cC _ _ _ _ _ _ _ _ [b, pz, an] h3 0 0 17 #[.val (.ref b), .val (.int z), .val (.ref g), .val (.ref a)] []
    exact oGo.return_ d13_17 rfl (by decide) (by decide) ⟨rfl, hq⟩ (fun _ q => q.elim)
  · refine oGo.aload_n (pc' := 5) d13_4 rfl rfl rfl ?_
    refine oGo.aload_n (pc' := 6) d13_5 rfl rfl rfl ?_
    refine oGo.invokevirtual (pc' := 9) (k' := 0) (n' := 0) (a := b) (argsL := [.ref g]) (rest := []) d13_6 rfl (w164 hG) (w165 hG) (w167 hG) (w167 hG) rfl (w166 hG) (w45 hG) (w168 hG) (by decide) pd3 rfl rfl rfl B.2.1 (c_addP hG b pz an li g sz hs h B Eg) (by simp) (by decide) (Nat.le_of_ble_eq_true rfl) rfl rfl (by decide) (by decide) ?_
    intro v5 h6 sh6 q7
    obtain ⟨rfl, hq⟩ := q7
    refine ⟨_, fun _ hx => Or.inl hx, ?_⟩
    show oGo l Z a0 EL True pP eE sS mM _ bB tT cC _ _ _ _ _ _ _ _ [b, pz, an] h6 0 0 9 #[.val (.ref b), .val (.int z), .val (.ref g), .val (.ref a)] []
    refine oGo.goto (pc' := 17) d13_9 (by decide) ?_
    exact oGo.return_ d13_17 rfl (by decide) (by decide) ⟨rfl, hq⟩ (fun _ q => q.elim)
set_option maxRecDepth 65536 in
set_option maxHeartbeats 4000000 in
theorem c_mx {l : Launch} {Z : State} {a0 : Array Value} {EL : List (String × Nat)} (hG : oG a0 Z EL) (x y z : Int32) (hz : (if x < y then y else x) = z) (h : Heap)  :
    oCtr [] l Z a0 EL True (⟨"java/lang/Math", "max", "(II)I"⟩ : MethodName) jdk_29_method_65_code 2 (some .int) ({ frames := 0, cells := 0, slots := 0, locals := 0 } : Room) #[.int x, .int y] [] h (fun v h' => v = some (.int z) ∧ h' = h) oNo := by
  refine oCtr.enter (Ls := #[.val (.int x), .val (.int y)]) (Jvm.Free.JP.mathPlain rfl (by decide +kernel)) hG.2.1 (fun m => by first | (simp [entryFrame, mkF, argsToLocals, Value.category]; done) | rfl) ?_
  intro pP eE sS mM bB tT cC
  refine oGo.iload_n (pc' := 1) d20_0 rfl rfl ?_
  refine oGo.iload_n (pc' := 2) d20_1 rfl rfl ?_
  refine oGo.icmp_lt (pc1 := 5) (pc2 := 9) d20_2 rfl (by decide) (fun q => ?_) (fun q => ?_)
  · refine oGo.iload_n (pc' := 10) d20_9 rfl rfl ?_
    exact oGo.ireturn d20_10 rfl (by decide) (by decide) ⟨by rw [← hz, if_pos q], rfl⟩ (fun _ q => q.elim)
  · refine oGo.iload_n (pc' := 6) d20_5 rfl rfl ?_
    refine oGo.goto (pc' := 10) d20_6 (by decide) ?_
    exact oGo.ireturn d20_10 rfl (by decide) (by decide) ⟨by rw [← hz, if_neg q], rfl⟩ (fun _ q => q.elim)
set_option maxRecDepth 65536 in
set_option maxHeartbeats 4000000 in
theorem c_mark {l : Launch} {Z : State} {a0 : Array Value} {EL : List (String × Nat)} (hG : oG a0 Z EL) (b pz an li sz : Nat) (z : Int32) (h : Heap) (B : oBt Z h b pz an li sz) :
    oCtr [] l Z a0 EL True (⟨"com/example/nonet/nonet/Batch", "markLast", "(I)V"⟩ : MethodName) prog_2_method_8_code 2 none ({ frames := 1, cells := 0, slots := 0, locals := 14 } : Room) #[.ref b, .int z] [b] h (fun v h' => v = none ∧ Keep h h' [b] ∧ oBt Z h' b pz an li sz) oNo := by
  refine oCtr.enter (Ls := #[.val (.ref b), .val (.int z)]) (plainFor_of_name pn6) hG.2.1 (fun m => by first | (simp [entryFrame, mkF, argsToLocals, Value.category]; done) | rfl) ?_
  intro pP eE sS mM bB tT cC
  obtain ⟨⟨⟨n1, n2, n3⟩, n4, n5, n6⟩, E, G1, G2, G3, G4, A1, A2, ⟨s5, G5⟩, ⟨s6, G6⟩⟩ := B
  have lb := own_ltN E.lt
  have lp := own_ltN A1.lt
  have la := own_ltN A2.lt
  refine oGo.aload_n (pc' := 1) d21_0 rfl rfl rfl ?_
  refine oGo.iconst (pc' := 2) (v := 1) d21_1 rfl (by decide) ?_
  refine oGo.putfield (pc' := 5) (ty := .boolean) d21_2 rfl (w159 hG) Via.refl G6 E (Or.inl (w160 hG)) (w44 hG) (by decide) (by decide) (by decide) (by simp) ?_
  intro h1 W2 sh1
  have f3 := Fld.same W2 G6
  refine oGo.aload_n (pc' := 6) d21_5 rfl rfl rfl ?_
  refine oGo.aload_n (pc' := 7) d21_6 rfl rfl rfl ?_
  have f4 := Fld.other W2 G5 (Or.inr (slot_ne (C := "com/example/nonet/nonet/Batch") (Or.inl (w162 hG)) (Or.inl (w160 hG)) (by decide) (t := .int) (t' := .boolean) (by decide) (by decide)))
  refine oGo.getfield (pc' := 10) d21_7 rfl (w161 hG) Via.refl f4 ?_
  refine oGo.iload_n (pc' := 11) d21_10 rfl rfl ?_
  refine oGo.invokestatic (pc' := 14) (k' := 0) (n' := 0) (argsL := [.int s5, .int z]) (rest := [.ref b]) d21_11 rfl (w163 hG) (w148 hG) (w149 hG) (w150 hG) (by decide) pd4 rfl rfl rfl (c_mx hG s5 z _ rfl _) (by simp) (by decide) (Nat.le_of_ble_eq_true rfl) rfl rfl (by decide) (by decide) ?_
  intro v5 h6 sh6 q7
  obtain ⟨rfl, ee⟩ := q7
  obtain rfl := ee.symm
  refine ⟨_, fun _ hx => Or.inl hx, ?_⟩
  show oGo l Z a0 EL True pP eE sS mM _ bB tT cC _ _ _ _ _ _ _ _ [b] h1 0 0 14 #[.val (.ref b), .val (.int z)] [.int (if s5 < z then z else s5), .ref b]
  have f8 := Exa.wr W2 E
  refine oGo.putfield (pc' := 17) (ty := .int) d21_14 rfl (w161 hG) Via.refl f4 f8 (Or.inl (w162 hG)) (w44 hG) (by decide) rfl rfl (by simp) ?_
  intro h9 W10 sh9
  have f11 := Fld.same W10 f4
  have f12 := Exa.wr W10 f8
  have f13 := Fld.other W2 G1 (Or.inr (slot_ne (C := "com/example/nonet/nonet/Batch") (Or.inr (w53 hG)) (Or.inl (w160 hG)) (by decide) (t := (.array (.array .byte))) (t' := .boolean) (by decide) (by decide)))
  have f14 := Fld.other W10 f13 (Or.inr (slot_ne (C := "com/example/nonet/nonet/Batch") (Or.inr (w53 hG)) (Or.inl (w162 hG)) (by decide) (t := (.array (.array .byte))) (t' := .int) (by decide) (by decide)))
  have f15 := Fld.other W2 G2 (Or.inr (slot_ne (C := "com/example/nonet/nonet/Batch") (Or.inr (w57 hG)) (Or.inl (w160 hG)) (by decide) (t := (.array (.object "com/example/nonet/nonet/Answer"))) (t' := .boolean) (by decide) (by decide)))
  have f16 := Fld.other W10 f15 (Or.inr (slot_ne (C := "com/example/nonet/nonet/Batch") (Or.inr (w57 hG)) (Or.inl (w162 hG)) (by decide) (t := (.array (.object "com/example/nonet/nonet/Answer"))) (t' := .int) (by decide) (by decide)))
  have f17 := Fld.other W2 G3 (Or.inr (slot_ne (C := "com/example/nonet/nonet/Batch") (Or.inl (w90 hG)) (Or.inl (w160 hG)) (by decide) (t := .int) (t' := .boolean) (by decide) (by decide)))
  have f18 := Fld.other W10 f17 (Or.inr (slot_ne (C := "com/example/nonet/nonet/Batch") (Or.inl (w90 hG)) (Or.inl (w162 hG)) (by decide) (t := .int) (t' := .int) (by decide) (by decide)))
  have f19 := Fld.other W2 G4 (Or.inr (slot_ne (C := "com/example/nonet/nonet/Batch") (Or.inr (w83 hG)) (Or.inl (w160 hG)) (by decide) (t := (.object "java/util/List")) (t' := .boolean) (by decide) (by decide)))
  have f20 := Fld.other W10 f19 (Or.inr (slot_ne (C := "com/example/nonet/nonet/Batch") (Or.inr (w83 hG)) (Or.inl (w162 hG)) (by decide) (t := (.object "java/util/List")) (t' := .int) (by decide) (by decide)))
  have f21 := A1.other W2 (Ne.symm n1)
  have f22 := f21.other W10 (Ne.symm n1)
  have f23 := A2.other W2 (Ne.symm n2)
  have f24 := f23.other W10 (Ne.symm n2)
  have f25 := Fld.other W10 f3 (Or.inr (slot_ne (C := "com/example/nonet/nonet/Batch") (Or.inl (w160 hG)) (Or.inl (w162 hG)) (by decide) (t := .boolean) (t' := .int) (by decide) (by decide)))
  exact oGo.return_ d21_17 rfl (by decide) (by decide) ⟨rfl, (((Keep.refl h [b]).wr W2 (Or.inl (by simp))).wr W10 (Or.inl (by simp))), ⟨⟨⟨n1, n2, n3⟩, n4, n5, n6⟩, f12, f14, f16, f18, f20, f22, f24, ⟨_, f11⟩, ⟨_, f25⟩⟩⟩ (fun _ q => q.elim)
set_option maxRecDepth 65536 in
set_option maxHeartbeats 4000000 in
theorem c_isFull {l : Launch} {Z : State} {a0 : Array Value} {EL : List (String × Nat)} (hG : oG a0 Z EL) (b sz : Nat) (hs : Int32.ofNat sz ≠ 128) (h : Heap) (F : Fld Z h b "com/example/nonet/nonet/Batch" "size" "I" (.int (Int32.ofNat sz))) :
    oCtr [] l Z a0 EL True (⟨"com/example/nonet/nonet/Batch", "isFull", "()Z"⟩ : MethodName) prog_2_method_5_code 1 (some .boolean) ({ frames := 0, cells := 0, slots := 0, locals := 0 } : Room) #[.ref b] [] h (fun v h' => v = some (.int 0) ∧ h' = h) oNo := by
  refine oCtr.enter (Ls := #[.val (.ref b)]) (plainFor_of_name pn6) hG.2.1 (fun m => by first | (simp [entryFrame, mkF, argsToLocals, Value.category]; done) | rfl) ?_
  intro pP eE sS mM bB tT cC
  refine oGo.aload_n (pc' := 1) d10_0 rfl rfl rfl ?_
  refine oGo.getfield (pc' := 4) d10_1 rfl (w89 hG) Via.refl F ?_
  refine oGo.sipush (pc' := 7) (v := 128) d10_4 rfl (by decide) ?_
  refine oGo.icmp_ne (pc1 := 10) (pc2 := 14) d10_7 rfl (by decide) (fun q1 => ?_) (fun q => absurd q hs)
  refine oGo.iconst (pc' := 15) (v := 0) d10_14 rfl (by decide) ?_
  exact oGo.nreturn d10_15 rfl (by simp) rfl (by decide) (by decide) ⟨rfl, rfl⟩ (fun _ q => q.elim)
set_option maxRecDepth 65536 in
set_option maxHeartbeats 4000000 in
theorem c_alEmpty {l : Launch} {Z : State} {a0 : Array Value} {EL : List (String × Nat)} (hG : oG a0 Z EL) (x : Nat) (s r : Int32) (hr : (if s = 0 then 1 else 0) = r) (h : Heap) (F : Fld Z h x "java/util/ArrayList" "size" "I" (.int s)) :
    oCtr [] l Z a0 EL True (⟨"java/util/ArrayList", "isEmpty", "()Z"⟩ : MethodName) jdk_38_method_9_code 1 (some .boolean) ({ frames := 0, cells := 0, slots := 0, locals := 0 } : Room) #[.ref x] [] h (fun v h' => v = some (.int r) ∧ h' = h) oNo := by
  refine oCtr.enter (Ls := #[.val (.ref x)]) (plainFor_of_name pn5) hG.2.1 (fun m => by first | (simp [entryFrame, mkF, argsToLocals, Value.category]; done) | rfl) ?_
  intro pP eE sS mM bB tT cC
  refine oGo.aload_n (pc' := 1) d12_0 rfl rfl rfl ?_
  refine oGo.getfield (pc' := 4) d12_1 rfl (w105 hG) Via.refl F ?_
  refine oGo.if_ne (pc1 := 7) (pc2 := 11) d12_4 rfl (by decide) (fun q => ?_) (fun q => ?_)
  · refine oGo.iconst (pc' := 12) (v := 0) d12_11 rfl (by decide) ?_
    exact oGo.nreturn d12_12 rfl (by simp) rfl (by decide) (by decide) ⟨by subst hr; simp [q]; try rfl, rfl⟩ (fun _ q => q.elim)
  · refine oGo.iconst (pc' := 8) (v := 1) d12_7 rfl (by decide) ?_
    refine oGo.goto (pc' := 12) d12_8 (by decide) ?_
    exact oGo.nreturn d12_12 rfl (by simp) rfl (by decide) (by decide) ⟨by subst hr; simp [q]; try rfl, rfl⟩ (fun _ q => q.elim)
set_option maxRecDepth 65536 in
set_option maxHeartbeats 4000000 in
theorem c_isEmpty {l : Launch} {Z : State} {a0 : Array Value} {EL : List (String × Nat)} (hG : oG a0 Z EL) (b li : Nat) (z s r : Int32) (hr : (if z = 0 then if s = 0 then 1 else 0 else 0) = r) (h : Heap) (F : Fld Z h b "com/example/nonet/nonet/Batch" "size" "I" (.int z)) (G : Fld Z h b "com/example/nonet/nonet/Batch" "messages" "Ljava/util/List;" (.ref li)) (E : Exa Z h li "java/util/ArrayList") (S : Fld Z h li "java/util/ArrayList" "size" "I" (.int s)) :
    oCtr [] l Z a0 EL True (⟨"com/example/nonet/nonet/Batch", "isEmpty", "()Z"⟩ : MethodName) prog_2_method_6_code 1 (some .boolean) ({ frames := 1, cells := 0, slots := 0, locals := 12 } : Room) #[.ref b] [] h (fun v h' => v = some (.int r) ∧ h' = h) oNo := by
  refine oCtr.enter (Ls := #[.val (.ref b)]) (plainFor_of_name pn6) hG.2.1 (fun m => by first | (simp [entryFrame, mkF, argsToLocals, Value.category]; done) | rfl) ?_
  intro pP eE sS mM bB tT cC
  refine oGo.aload_n (pc' := 1) d11_0 rfl rfl rfl ?_
  refine oGo.getfield (pc' := 4) d11_1 rfl (w89 hG) Via.refl F ?_
  refine oGo.if_ne (pc1 := 7) (pc2 := 23) d11_4 rfl (by decide) (fun q => ?_) (fun q => ?_)
  · refine oGo.iconst (pc' := 24) (v := 0) d11_23 rfl (by decide) ?_
    exact oGo.nreturn d11_24 rfl (by simp) rfl (by decide) (by decide) ⟨by subst hr; simp [q]; try rfl, rfl⟩ (fun _ q => q.elim)
  · refine oGo.aload_n (pc' := 8) d11_7 rfl rfl rfl ?_
    refine oGo.getfield (pc' := 11) d11_8 rfl (w82 hG) Via.refl G ?_
    refine oGo.invokeinterface (pc' := 16) (k' := 0) (n' := 0) (a := li) (argsL := []) (rest := []) d11_11 rfl (w96 hG) (w97 hG) (w98 hG) (w99 hG) (w100 hG) (w101 hG) (w102 hG) (w103 hG) (w60 hG) (w104 hG) rfl rfl rfl (by decide) pd5 rfl rfl rfl E (c_alEmpty hG li s _ rfl _ S) (by simp) (by decide) (Nat.le_of_ble_eq_true rfl) rfl rfl (by decide) (by decide) ?_
    intro v1 h2 sh2 q3
    obtain ⟨rfl, ee⟩ := q3
    obtain rfl := ee.symm
    refine ⟨_, fun _ hx => Or.inl hx, ?_⟩
    show oGo l Z a0 EL True pP eE sS mM _ bB tT cC _ _ _ _ _ _ _ _ [] h 0 0 16 #[.val (.ref b)] [.int (if s = 0 then 1 else 0)]
    refine oGo.if_eq (pc1 := 19) (pc2 := 23) d11_16 rfl (by decide) (fun q2 => ?_) (fun q2 => ?_)
    · refine oGo.iconst (pc' := 24) (v := 0) d11_23 rfl (by decide) ?_
      exact oGo.nreturn d11_24 rfl (by simp) rfl (by decide) (by decide) ⟨by subst hr; rw [if_pos q, q2]; try rfl, rfl⟩ (fun _ q => q.elim)
    · refine oGo.iconst (pc' := 20) (v := 1) d11_19 rfl (by decide) ?_
      refine oGo.goto (pc' := 24) d11_20 (by decide) ?_
      exact oGo.nreturn d11_24 rfl (by simp) rfl (by decide) (by decide) ⟨by subst hr; rw [if_pos q, if_pos (Classical.byContradiction fun q3 => q2 (if_neg q3))]; try rfl, rfl⟩ (fun _ q => q.elim)
abbrev oGrO : Option Value → Heap → Addr → Prop := fun v _ y => v = some (.ref y)
set_option maxRecDepth 65536 in
set_option maxHeartbeats 4000000 in
theorem c_grow1 {l : Launch} {Z : State} {a0 : Array Value} {EL : List (String × Nat)} (hG : oG a0 Z EL) (x da : Nat) (m : Int32) (h : Heap) (E : Exa Z h x "java/util/ArrayList") (Fm : Fld Z h x "java/util/AbstractList" "modCount" "I" (.int m)) (Fe : Fld Z h x "java/util/ArrayList" "elementData" "[Ljava/lang/Object;" (.ref da)) (Fs : Fld Z h x "java/util/ArrayList" "size" "I" (.int 0)) (A : oArr Z h da (.object "java/lang/Object") []) (Sd : Sta Z Z.heap "java/util/ArrayList" "DEFAULTCAPACITY_EMPTY_ELEMENTDATA" "[Ljava/lang/Object;" (.ref da)) :
    oCtr [] l Z a0 EL True (⟨"java/util/ArrayList", "grow", "(I)[Ljava/lang/Object;"⟩ : MethodName) jdk_38_method_6_code 4 (some (.array (.object "java/lang/Object"))) ({ frames := 1, cells := 1, slots := 10, locals := 14 } : Room) #[.ref x, .int (1 : Int32)] [x] h (fun v h' => ∃ u : Nat, v = some (.ref u) ∧ h.size ≤ u ∧ Keep h h' [x] ∧ oRA Z h' u "java/lang/Object" 10 ∧ Exa Z h' x "java/util/ArrayList" ∧ Fld Z h' x "java/util/ArrayList" "size" "I" (.int 0)) oGrO := by
  refine oCtr.enter (Ls := #[.val (.ref x), .val (.int (1 : Int32)), .unset, .unset]) (plainFor_of_name pn5) hG.2.1 (fun m => by first | (simp [entryFrame, mkF, argsToLocals, Value.category]; done) | rfl) ?_
  intro pP eE sS mM bB tT cC
  have lx := own_ltN E.lt
  have ld := own_ltN A.lt
  refine oGo.aload_n (pc' := 1) d19_0 rfl rfl rfl ?_
  refine oGo.getfield (pc' := 4) d19_1 rfl (w80 hG) Via.refl Fe ?_
  refine oGo.arraylength (pc' := 5) (z := (0 : Int32)) d19_4 rfl A (by decide) ?_
  refine oGo.istore_n (pc' := 6) (Ls' := #[.val (.ref x), .val (.int (1 : Int32)), .val (.int (0 : Int32)), .unset]) d19_5 rfl rfl ?_
  refine oGo.iload_n (pc' := 7) d19_6 rfl rfl ?_
  refine oGo.if_gt (pc1 := 10) (pc2 := 20) d19_7 rfl (by decide) (fun q => absurd q (by decide)) (fun q1 => ?_)
  refine oGo.aload_n (pc' := 11) d19_10 rfl rfl rfl ?_
  refine oGo.getfield (pc' := 14) d19_11 rfl (w80 hG) Via.refl Fe ?_
  refine oGo.getstatic (pc' := 17) d19_14 rfl (w79 hG) Via.refl Sd ?_
  refine oGo.acmp_y (pc2 := 45) d19_17 (by decide) rfl rfl (by simp [XT.acmp]) ?_
  refine oGo.aload_n (pc' := 46) d19_45 rfl rfl rfl ?_
  refine oGo.bipush (pc' := 48) (v := 10) d19_46 rfl (by decide) ?_
  refine oGo.iload_n (pc' := 49) d19_48 rfl rfl ?_
  refine oGo.invokestatic (pc' := 52) (k' := 0) (n' := 0) (argsL := [.int (10 : Int32), .int (1 : Int32)]) (rest := [.ref x]) d19_49 rfl (w147 hG) (w148 hG) (w149 hG) (w150 hG) (by decide) pd4 rfl rfl rfl (c_mx hG 10 1 10 (by decide) _) (by simp) (by decide) (Nat.le_of_ble_eq_true rfl) rfl rfl (by decide) (by decide) ?_
  intro v2 h3 sh3 q4
  obtain ⟨rfl, ee⟩ := q4
  obtain rfl := ee.symm
  refine ⟨_, fun _ hx => Or.inl hx, ?_⟩
  show oGo l Z a0 EL True pP eE sS mM _ bB tT cC _ _ _ _ _ _ _ _ [x] h 0 0 52 #[.val (.ref x), .val (.int (1 : Int32)), .val (.int (0 : Int32)), .unset] [.int (10 : Int32), .ref x]
  refine oGo.anewarray (pc' := 55) (k' := 1) (n' := 10) (i := 10) (C := "java/lang/Object") d19_52 rfl (w151 hG) (w152 hG) rfl 10 (by decide) (by decide) rfl rfl (by decide) (by decide) ?_
  intro h5 a6 qa6 la6 E7 A8
  refine oGo.dup_x1 (pc' := 56) d19_55 rfl rfl rfl ?_
  have f9 := Fld.ext E7 Fe
  have f10 := Exa.ext E7 E
  refine oGo.putfield (pc' := 59) (ty := (.array (.object "java/lang/Object"))) d19_56 rfl (w80 hG) Via.refl f9 f10 (Or.inl (w81 hG)) (w59 hG) (by decide) rfl rfl (by simp) ?_
  intro h11 W12 sh11
  have f13 := Fld.same W12 f9
  have f14 := A8.other W12 (own_ne_ge' (x := x) (y := a6) lx (own_ge_eq qa6))
  have f15 := Exa.wr W12 f10
  have f16 := Fld.ext E7 Fs
  have f17 := Fld.other W12 f16 (Or.inr (slot_ne (C := "java/util/ArrayList") (Or.inl (w106 hG)) (Or.inl (w81 hG)) (by decide) (t := .int) (t' := (.array (.object "java/lang/Object"))) (by decide) (by decide)))
  exact oGo.areturn d19_59 rfl rfl rfl rfl (by decide) (by decide) ⟨a6, rfl, (own_le_le (x := h.size) (Nat.le_refl _) (own_ge_eq qa6)), (((Keep.refl h [x]).ext E7).wr W12 (Or.inl (by simp))), f14, f15, f17⟩ (fun y q => by cases q; simp)
set_option maxRecDepth 65536 in
set_option maxHeartbeats 4000000 in
theorem c_grow0 {l : Launch} {Z : State} {a0 : Array Value} {EL : List (String × Nat)} (hG : oG a0 Z EL) (x da : Nat) (m : Int32) (h : Heap) (E : Exa Z h x "java/util/ArrayList") (Fm : Fld Z h x "java/util/AbstractList" "modCount" "I" (.int m)) (Fe : Fld Z h x "java/util/ArrayList" "elementData" "[Ljava/lang/Object;" (.ref da)) (Fs : Fld Z h x "java/util/ArrayList" "size" "I" (.int 0)) (A : oArr Z h da (.object "java/lang/Object") []) (Sd : Sta Z Z.heap "java/util/ArrayList" "DEFAULTCAPACITY_EMPTY_ELEMENTDATA" "[Ljava/lang/Object;" (.ref da)) :
    oCtr [] l Z a0 EL True (⟨"java/util/ArrayList", "grow", "()[Ljava/lang/Object;"⟩ : MethodName) jdk_38_method_7_code 1 (some (.array (.object "java/lang/Object"))) ({ frames := 2, cells := 1, slots := 10, locals := 29 } : Room) #[.ref x] [x] h (fun v h' => ∃ u : Nat, v = some (.ref u) ∧ h.size ≤ u ∧ Keep h h' [x] ∧ oRA Z h' u "java/lang/Object" 10 ∧ Exa Z h' x "java/util/ArrayList" ∧ Fld Z h' x "java/util/ArrayList" "size" "I" (.int 0)) oGrO := by
  refine oCtr.enter (Ls := #[.val (.ref x)]) (plainFor_of_name pn5) hG.2.1 (fun m => by first | (simp [entryFrame, mkF, argsToLocals, Value.category]; done) | rfl) ?_
  intro pP eE sS mM bB tT cC
  have lx := own_ltN E.lt
  have ld := own_ltN A.lt
  refine oGo.aload_n (pc' := 1) d18_0 rfl rfl rfl ?_
  refine oGo.aload_n (pc' := 2) d18_1 rfl rfl rfl ?_
  refine oGo.getfield (pc' := 5) d18_2 rfl (w105 hG) Via.refl Fs ?_
  refine oGo.iconst (pc' := 6) (v := 1) d18_5 rfl (by decide) ?_
  refine oGo.iadd (pc' := 7) d18_6 rfl ?_
  rw [show (0 : Int32) + (1 : Int32) = (1 : Int32) from by decide]
  refine oGo.invokeprivate (pc' := 10) (k' := 1) (n' := 10) (a := x) (argsL := [.int (1 : Int32)]) (rest := []) d18_7 rfl (w142 hG) (w144 hG) (w145 hG) (w143 hG) (w60 hG) (w146 hG) (by decide) pd6 rfl rfl rfl E (c_grow1 hG x da m _ E Fm Fe Fs A Sd) (by simp) (by decide) (Nat.le_of_ble_eq_true rfl) rfl rfl (by decide) (by decide) ?_
  intro v1 h2 sh2 q3
  obtain ⟨u, rfl, hu, KU, AU, EU, SU⟩ := q3
  have lu := own_ltN AU.lt
  refine ⟨[u, x], own_D1 (rfl), ?_⟩
  show oGo l Z a0 EL True pP eE sS mM _ bB tT cC _ _ _ _ _ _ _ _ [u, x] h2 1 10 10 #[.val (.ref x)] [.ref u]
  exact oGo.areturn d18_10 rfl rfl rfl rfl (by decide) (by decide) ⟨u, rfl, hu, KU, AU, EU, SU⟩ (fun y q => by cases q; simp)
set_option maxRecDepth 65536 in
set_option maxHeartbeats 4000000 in
theorem c_addH {l : Launch} {Z : State} {a0 : Array Value} {EL : List (String × Nat)} (hG : oG a0 Z EL) (x da y : Nat) (m : Int32) (h : Heap) (E : Exa Z h x "java/util/ArrayList") (Fm : Fld Z h x "java/util/AbstractList" "modCount" "I" (.int m)) (Fe : Fld Z h x "java/util/ArrayList" "elementData" "[Ljava/lang/Object;" (.ref da)) (Fs : Fld Z h x "java/util/ArrayList" "size" "I" (.int 0)) (A : oArr Z h da (.object "java/lang/Object") []) (Sd : Sta Z Z.heap "java/util/ArrayList" "DEFAULTCAPACITY_EMPTY_ELEMENTDATA" "[Ljava/lang/Object;" (.ref da)) (Ey : Exa Z h y "com/example/nonet/nonet/Message") :
    oCtr [] l Z a0 EL True (⟨"java/util/ArrayList", "add", "(Ljava/lang/Object;[Ljava/lang/Object;I)V"⟩ : MethodName) jdk_38_method_24_code 4 none ({ frames := 3, cells := 1, slots := 10, locals := 41 } : Room) #[.ref x, .ref y, .ref da, .int (0 : Int32)] [x] h (fun v h' => v = none ∧ Keep h h' [x] ∧ Exa Z h' x "java/util/ArrayList" ∧ Fld Z h' x "java/util/ArrayList" "size" "I" (.int 1)) oNo := by
  refine oCtr.enter (Ls := #[.val (.ref x), .val (.ref y), .val (.ref da), .val (.int (0 : Int32))]) (plainFor_of_name pn5) hG.2.1 (fun m => by first | (simp [entryFrame, mkF, argsToLocals, Value.category]; done) | rfl) ?_
  intro pP eE sS mM bB tT cC
  have lx := own_ltN E.lt
  have ld := own_ltN A.lt
  refine oGo.iload_n (pc' := 1) d17_0 rfl rfl ?_
  refine oGo.aload_n (pc' := 2) d17_1 rfl rfl rfl ?_
  refine oGo.arraylength (pc' := 3) (z := (0 : Int32)) d17_2 rfl A (by decide) ?_
  refine oGo.icmp_ne (pc1 := 6) (pc2 := 11) d17_3 rfl (by decide) (fun q => absurd rfl q) (fun q1 => ?_)
  refine oGo.aload_n (pc' := 7) d17_6 rfl rfl rfl ?_
  refine oGo.invokeprivate (pc' := 10) (k' := 1) (n' := 10) (a := x) (argsL := []) (rest := []) d17_7 rfl (w137 hG) (w139 hG) (w140 hG) (w138 hG) (w60 hG) (w141 hG) (by decide) pd7 rfl rfl rfl E (c_grow0 hG x da m _ E Fm Fe Fs A Sd) (by simp) (by decide) (Nat.le_of_ble_eq_true rfl) rfl rfl (by decide) (by decide) ?_
  intro v2 h3 sh3 q4
  obtain ⟨u, rfl, hu, KU, AU, EU, SU⟩ := q4
  have lu := own_ltN AU.lt
  refine ⟨[u, x], own_D1 (rfl), ?_⟩
  show oGo l Z a0 EL True pP eE sS mM _ bB tT cC _ _ _ _ _ _ _ _ [u, x] h3 1 10 10 #[.val (.ref x), .val (.ref y), .val (.ref da), .val (.int (0 : Int32))] [.ref u]
  refine oGo.astore_n (pc' := 11) (Ls' := #[.val (.ref x), .val (.ref y), .val (.ref u), .val (.int (0 : Int32))]) d17_10 rfl rfl rfl ?_
  refine oGo.aload_n (pc' := 12) d17_11 rfl rfl rfl ?_
  refine oGo.iload_n (pc' := 13) d17_12 rfl rfl ?_
  refine oGo.aload_n (pc' := 14) d17_13 rfl rfl rfl ?_
  have f5 := Exa.keep Ey KU
  refine oGo.aastore (pc' := 15) (i := 0) d17_14 rfl AU rfl (by decide) (Ins.of_exa f5 (w153 hG)) (by simp) ?_
  intro h6 W7 sh6 A8
  refine oGo.aload_n (pc' := 16) d17_15 rfl rfl rfl ?_
  refine oGo.iload_n (pc' := 17) d17_16 rfl rfl ?_
  refine oGo.iconst (pc' := 18) (v := 1) d17_17 rfl (by decide) ?_
  refine oGo.iadd (pc' := 19) d17_18 rfl ?_
  rw [show (0 : Int32) + (1 : Int32) = (1 : Int32) from by decide]
  have f9 := Fld.other W7 SU (Or.inl (own_ne_ge (x := x) (y := u) lx hu))
  have f10 := Exa.wr W7 EU
  refine oGo.putfield (pc' := 22) (ty := .int) d17_19 rfl (w105 hG) Via.refl f9 f10 (Or.inl (w106 hG)) (w59 hG) (by decide) rfl rfl (by simp) ?_
  intro h11 W12 sh11
  have f13 := Fld.same W12 f9
  have f14 := Exa.wr W12 f10
  exact oGo.return_ d17_22 rfl (by decide) (by decide) ⟨rfl, ((((Keep.refl h [x]).trans KU (by simp)).wr W7 (Or.inr (own_le_le (x := h.size) (Nat.le_refl _) hu))).wr W12 (Or.inl (by simp))), f14, f13⟩ (fun _ q => q.elim)
set_option maxRecDepth 65536 in
set_option maxHeartbeats 4000000 in
theorem c_alAdd {l : Launch} {Z : State} {a0 : Array Value} {EL : List (String × Nat)} (hG : oG a0 Z EL) (x da y : Nat) (m : Int32) (h : Heap) (E : Exa Z h x "java/util/ArrayList") (Fm : Fld Z h x "java/util/AbstractList" "modCount" "I" (.int m)) (Fe : Fld Z h x "java/util/ArrayList" "elementData" "[Ljava/lang/Object;" (.ref da)) (Fs : Fld Z h x "java/util/ArrayList" "size" "I" (.int 0)) (A : oArr Z h da (.object "java/lang/Object") []) (Sd : Sta Z Z.heap "java/util/ArrayList" "DEFAULTCAPACITY_EMPTY_ELEMENTDATA" "[Ljava/lang/Object;" (.ref da)) (Ey : Exa Z h y "com/example/nonet/nonet/Message") :
    oCtr [] l Z a0 EL True (⟨"java/util/ArrayList", "add", "(Ljava/lang/Object;)Z"⟩ : MethodName) jdk_38_method_25_code 2 (some .boolean) ({ frames := 4, cells := 1, slots := 10, locals := 56 } : Room) #[.ref x, .ref y] [x] h (fun v h' => v = some (.int 1) ∧ Keep h h' [x] ∧ Exa Z h' x "java/util/ArrayList" ∧ Fld Z h' x "java/util/ArrayList" "size" "I" (.int 1)) oNo := by
  refine oCtr.enter (Ls := #[.val (.ref x), .val (.ref y)]) (plainFor_of_name pn5) hG.2.1 (fun m => by first | (simp [entryFrame, mkF, argsToLocals, Value.category]; done) | rfl) ?_
  intro pP eE sS mM bB tT cC
  have lx := own_ltN E.lt
  have ld := own_ltN A.lt
  refine oGo.aload_n (pc' := 1) d16_0 rfl rfl rfl ?_
  refine oGo.dup (pc' := 2) d16_1 rfl rfl ?_
  refine oGo.getfield (pc' := 5) d16_2 rfl (w130 hG) (Via.of (w131 hG)) Fm ?_
  refine oGo.iconst (pc' := 6) (v := 1) d16_5 rfl (by decide) ?_
  refine oGo.iadd (pc' := 7) d16_6 rfl ?_
  refine oGo.putfield (pc' := 10) (ty := .int) d16_7 rfl (w130 hG) (Via.of (w131 hG)) Fm E (Or.inl (w78 hG)) (w59 hG) (by decide) rfl rfl (by simp) ?_
  intro h1 W2 sh1
  have f3 := Fld.same W2 Fm
  refine oGo.aload_n (pc' := 11) d16_10 rfl rfl rfl ?_
  refine oGo.aload_n (pc' := 12) d16_11 rfl rfl rfl ?_
  refine oGo.aload_n (pc' := 13) d16_12 rfl rfl rfl ?_
  have f4 := Fld.other W2 Fe (Or.inr (slot_ne (C := "java/util/ArrayList") (Or.inl (w81 hG)) (Or.inl (w78 hG)) (by decide) (t := (.array (.object "java/lang/Object"))) (t' := .int) (by decide) (by decide)))
  refine oGo.getfield (pc' := 16) d16_13 rfl (w80 hG) Via.refl f4 ?_
  refine oGo.aload_n (pc' := 17) d16_16 rfl rfl rfl ?_
  have f5 := Fld.other W2 Fs (Or.inr (slot_ne (C := "java/util/ArrayList") (Or.inl (w106 hG)) (Or.inl (w78 hG)) (by decide) (t := .int) (t' := .int) (by decide) (by decide)))
  refine oGo.getfield (pc' := 20) d16_17 rfl (w105 hG) Via.refl f5 ?_
  have dx : da ≠ x := by obtain ⟨cl, h1, -⟩ := A; exact Ne.symm (ne_arr E (w59 hG) h1)
  have f6 := Exa.wr W2 E
  have f7 := oArr.other W2 A dx
  have f8 := Exa.wr W2 Ey
  refine oGo.invokeprivate (pc' := 23) (k' := 1) (n' := 10) (a := x) (argsL := [.ref y, .ref da, .int (0 : Int32)]) (rest := []) d16_20 rfl (w132 hG) (w134 hG) (w135 hG) (w133 hG) (w60 hG) (w136 hG) (by decide) pd8 rfl rfl rfl f6 (c_addH hG x da y (m + 1) _ f6 f3 f4 f5 f7 Sd f8) (by simp) (by decide) (Nat.le_of_ble_eq_true rfl) rfl rfl (by decide) (by decide) ?_
  intro v9 h10 sh10 q11
  obtain ⟨rfl, KH, EH, SH⟩ := q11
  refine ⟨_, fun _ hx => Or.inl hx, ?_⟩
  show oGo l Z a0 EL True pP eE sS mM _ bB tT cC _ _ _ _ _ _ _ _ [x] h10 1 10 23 #[.val (.ref x), .val (.ref y)] []
  refine oGo.iconst (pc' := 24) (v := 1) d16_23 rfl (by decide) ?_
  exact oGo.nreturn d16_24 rfl (by simp) rfl (by decide) (by decide) ⟨rfl, (((Keep.refl h [x]).wr W2 (Or.inl (by simp))).trans KH (by simp)), EH, SH⟩ (fun _ q => q.elim)
set_option maxRecDepth 65536 in
set_option maxHeartbeats 4000000 in
theorem c_report {l : Launch} {Z : State} {a0 : Array Value} {EL : List (String × Nat)} (hG : oG a0 Z EL) (b x da y : Nat) (h : Heap) (G : Fld Z h b "com/example/nonet/nonet/Batch" "messages" "Ljava/util/List;" (.ref x)) (L : oLi Z h x da) (A : oArr Z h da (.object "java/lang/Object") []) (Sd : Sta Z Z.heap "java/util/ArrayList" "DEFAULTCAPACITY_EMPTY_ELEMENTDATA" "[Ljava/lang/Object;" (.ref da)) (Ey : Exa Z h y "com/example/nonet/nonet/Message") :
    oCtr [] l Z a0 EL True (⟨"com/example/nonet/nonet/Batch", "report", "(Lcom/example/nonet/nonet/Message;)V"⟩ : MethodName) prog_2_method_4_code 2 none ({ frames := 5, cells := 1, slots := 10, locals := 69 } : Room) #[.ref b, .ref y] [x] h (fun v h' => v = none ∧ Keep h h' [x] ∧ Exa Z h' x "java/util/ArrayList" ∧ Fld Z h' x "java/util/ArrayList" "size" "I" (.int 1)) oNo := by
  refine oCtr.enter (Ls := #[.val (.ref b), .val (.ref y)]) (plainFor_of_name pn6) hG.2.1 (fun m => by first | (simp [entryFrame, mkF, argsToLocals, Value.category]; done) | rfl) ?_
  intro pP eE sS mM bB tT cC
  refine oGo.aload_n (pc' := 1) d15_0 rfl rfl rfl ?_
  refine oGo.getfield (pc' := 4) d15_1 rfl (w82 hG) Via.refl G ?_
  refine oGo.aload_n (pc' := 5) d15_4 rfl rfl rfl ?_
  refine oGo.invokeinterface (pc' := 10) (k' := 1) (n' := 10) (a := x) (argsL := [.ref y]) (rest := []) d15_5 rfl (w122 hG) (w123 hG) (w124 hG) (w125 hG) (w126 hG) (w127 hG) (w128 hG) (w103 hG) (w60 hG) (w129 hG) rfl rfl rfl (by decide) pd9 rfl rfl rfl L.1 (c_alAdd hG x da y 0 _ L.1 L.2.1 L.2.2.1 L.2.2.2 A Sd Ey) (by simp) (by decide) (Nat.le_of_ble_eq_true rfl) rfl rfl (by decide) (by decide) ?_
  intro v1 h2 sh2 q3
  obtain ⟨rfl, KH, EH, SH⟩ := q3
  refine ⟨_, fun _ hx => Or.inl hx, ?_⟩
  show oGo l Z a0 EL True pP eE sS mM _ bB tT cC _ _ _ _ _ _ _ _ [x] h2 1 10 10 #[.val (.ref b), .val (.ref y)] [.int (1 : Int32)]
  refine oGo.pop (pc' := 11) d15_10 rfl rfl ?_
  exact oGo.return_ d15_11 rfl (by decide) (by decide) ⟨rfl, KH, EH, SH⟩ (fun _ q => q.elim)
set_option maxRecDepth 65536 in
set_option maxHeartbeats 4000000 in
theorem c_law {l : Launch} {Z : State} {a0 : Array Value} {EL : List (String × Nat)} (hG : oG a0 Z EL) (i0 i1 i2 : Int32) (h : Heap)  :
    oCtr tables_1 l Z a0 EL True (⟨"com/example/nonet/nonet/BatchIsFullPinLaw", "law", "(III)Z"⟩ : MethodName) code 12 (some .boolean) room_1 #[.int i0, .int i1, .int i2] [] h (fun v h' => v = some (.int 1)) oNo := by
  refine oCtr.enter (Ls := #[.val (.int i0), .val (.int i1), .val (.int i2), .unset, .unset, .unset, .unset, .unset, .unset, .unset, .unset, .unset]) (plainFor_of_name pn7) hG.2.1 (fun m => by first | (simp [entryFrame, mkF, argsToLocals, Value.category]; done) | rfl) ?_
  intro pP eE sS mM bB tT cC
  obtain ⟨da, Sd, Ad⟩ := sDEF hG
  refine oGo.old (fun hO1 hO1' => ?_)
  have f2 := oArr.ext hO1 Ad
  have ld := own_ltN Ad.lt
  refine oGo.iload_n (pc' := 1) at_0 rfl rfl ?_
  refine oGo.iconst (pc' := 2) (v := 3) at_1 rfl (by decide) ?_
  refine oGo.iand (pc' := 3) at_2 rfl ?_
  obtain ⟨k, hk, ek⟩ := own_and3 i0
  rw [ek]
  refine oGo.istore_n (pc' := 4) (Ls' := #[.val (.int i0), .val (.int i1), .val (.int i2), .val (.int (Int32.ofNat k)), .unset, .unset, .unset, .unset, .unset, .unset, .unset, .unset]) at_3 rfl rfl ?_
  refine oGo.iload_n (pc' := 5) at_4 rfl rfl ?_
  refine oGo.bipush (pc' := 7) (v := 16) at_5 rfl (by decide) ?_
  refine oGo.iand (pc' := 8) at_7 rfl ?_
  refine oGo.boolz (pc' := 16) at_8 at_11 at_12 at_15 rfl ?_
  intro z4 hz4
  refine oGo.istore (pc' := 18) (Ls' := #[.val (.int i0), .val (.int i1), .val (.int i2), .val (.int (Int32.ofNat k)), .val (.int z4), .unset, .unset, .unset, .unset, .unset, .unset, .unset]) at_16 rfl rfl ?_
  refine oGo.iload_n (pc' := 19) at_18 rfl rfl ?_
  refine oGo.bipush (pc' := 21) (v := 32) at_19 rfl (by decide) ?_
  refine oGo.iand (pc' := 22) at_21 rfl ?_
  refine oGo.boolz (pc' := 30) at_22 at_25 at_26 at_29 rfl ?_
  intro z5 hz5
  refine oGo.istore (pc' := 32) (Ls' := #[.val (.int i0), .val (.int i1), .val (.int i2), .val (.int (Int32.ofNat k)), .val (.int z4), .val (.int z5), .unset, .unset, .unset, .unset, .unset, .unset]) at_30 rfl rfl ?_
  refine oGo.iconst (pc' := 33) (v := 1) at_32 rfl (by decide) ?_
  refine oGo.newarrayE (pc' := 35) (k' := 1) (n' := 1) (i := 1) (ad := "[B") at_33 rfl (w0 hG) rfl 1 (by decide) (by decide) rfl rfl (by decide) (by decide) (by decide) rfl ?_
  intro h3 a4 qa4 la4 E5 A6' X7
  have A6 : oArr Z h3 a4 .byte [.int 0] := A6'
  refine oGo.dup (pc' := 36) at_35 rfl rfl ?_
  refine oGo.iconst (pc' := 37) (v := 0) at_36 rfl (by decide) ?_
  refine oGo.iload_n (pc' := 38) at_37 rfl rfl ?_
  refine oGo.i2b (pc' := 39) at_38 rfl ?_
  refine oGo.bastore (pc' := 40) (i := 0) at_39 rfl A6 rfl (by simp) rfl (by simp) ?_
  intro h8 W9 sh8 A10
  refine oGo.astore (pc' := 42) (Ls' := #[.val (.int i0), .val (.int i1), .val (.int i2), .val (.int (Int32.ofNat k)), .val (.int z4), .val (.int z5), .val (.ref a4), .unset, .unset, .unset, .unset, .unset]) at_40 rfl rfl rfl ?_
  refine oGo.new (pc' := 45) (k' := 2) (n' := 3) at_42 rfl (w1 hG) (w2 hG) (w3 hG) rfl rfl (by decide) (by decide) ?_
  intro h11 a12 qa12 la12 E13 X14 F15
  have f16 := F15 (Or.inr (w16 hG)) (ty := (.array .byte)) (by decide)
  have f17 := F15 (Or.inr (w18 hG)) (ty := .int) (by decide)
  refine oGo.dup (pc' := 46) at_45 rfl rfl ?_
  refine oGo.iconst (pc' := 47) (v := 1) at_46 rfl (by decide) ?_
  refine oGo.newarrayE (pc' := 49) (k' := 3) (n' := 4) (i := 1) (ad := "[B") at_47 rfl (w0 hG) rfl 1 (by decide) (by decide) rfl rfl (by decide) (by decide) (by decide) rfl ?_
  intro h18 a19 qa19 la19 E20 A21' X22
  have A21 : oArr Z h18 a19 .byte [.int 0] := A21'
  refine oGo.dup (pc' := 50) at_49 rfl rfl ?_
  refine oGo.iconst (pc' := 51) (v := 0) at_50 rfl (by decide) ?_
  refine oGo.iload_n (pc' := 52) at_51 rfl rfl ?_
  refine oGo.i2b (pc' := 53) at_52 rfl ?_
  refine oGo.bastore (pc' := 54) (i := 0) at_53 rfl A21 rfl (by simp) rfl (by simp) ?_
  intro h23 W24 sh23 A25
  refine oGo.iload_n (pc' := 55) at_54 rfl rfl ?_
  have f26 := Exa.ext E20 X14
  have f27 := Exa.wr W24 f26
  have f28 := Fld.ext E20 f16
  have f29 := Fld.other W24 f28 (Or.inl (own_ne_ge (x := a12) (y := a19) la12 (own_ge_eq qa19)))
  have f30 := Fld.ext E20 f17
  have f31 := Fld.other W24 f30 (Or.inl (own_ne_ge (x := a12) (y := a19) la12 (own_ge_eq qa19)))
  refine oGo.invokespecial (pc' := 58) (k' := 3) (n' := 4) (a := a12) (argsL := [.ref a19, .int i2]) (rest := [.ref a12]) at_55 rfl rfl (w4 hG) (w5 hG) (w3 hG) (w6 hG) (by decide) pd10 rfl rfl rfl (c_answer hG a12 a19 i2 _ f27 f29 f31) (by simp) (by decide) (Nat.le_of_ble_eq_true rfl) rfl rfl (by decide) (by decide) ?_
  intro v32 h33 sh33 q34
  obtain ⟨rfl, KA, EA⟩ := q34
  refine ⟨_, fun _ hx => Or.inl hx, ?_⟩
  show oGo l Z a0 EL True pP eE sS mM _ bB tT cC _ _ _ _ _ _ _ _ [a19, a12, a4] h33 3 4 58 #[.val (.int i0), .val (.int i1), .val (.int i2), .val (.int (Int32.ofNat k)), .val (.int z4), .val (.int z5), .val (.ref a4), .unset, .unset, .unset, .unset, .unset] [.ref a12]
  refine oGo.astore (pc' := 60) (Ls' := #[.val (.int i0), .val (.int i1), .val (.int i2), .val (.int (Int32.ofNat k)), .val (.int z4), .val (.int z5), .val (.ref a4), .val (.ref a12), .unset, .unset, .unset, .unset]) at_58 rfl rfl rfl ?_
  refine oGo.new (pc' := 63) (k' := 4) (n' := 7) at_60 rfl (w19 hG) (w20 hG) (w21 hG) rfl rfl (by decide) (by decide) ?_
  intro h35 a36 qa36 la36 E37 X38 F39
  have f40 := F39 (Or.inr (w38 hG)) (ty := (.object "java/lang/String")) (by decide)
  have f41 := F39 (Or.inr (w40 hG)) (ty := .long) (by decide)
  have f42 := F39 (Or.inr (w42 hG)) (ty := (.object "java/lang/String")) (by decide)
  refine oGo.dup (pc' := 64) at_63 rfl rfl ?_
  refine oGo.ldc_op (pc' := 66) (k' := 6) (n' := 15) at_64 rfl trivial (w22 hG) (strAt hG) (by decide) rfl rfl (by decide) (by decide) ?_
  intro h43 a44 E45
  have sh43 := E45.1
  refine oGo.ldc_op (pc' := 68) (k' := 8) (n' := 23) at_66 rfl trivial (w29 hG) (strAt hG) (by decide) rfl rfl (by decide) (by decide) ?_
  intro h46 a47 E48
  have sh46 := E48.1
  have f49 := Exa.ext E45 X38
  have f50 := Exa.ext E48 f49
  have f51 := Fld.ext E45 f40
  have f52 := Fld.ext E48 f51
  have f53 := Fld.ext E45 f41
  have f54 := Fld.ext E48 f53
  have f55 := Fld.ext E45 f42
  have f56 := Fld.ext E48 f55
  refine oGo.invokespecial (pc' := 71) (k' := 8) (n' := 23) (a := a36) (argsL := [.ref a44, .ref a47]) (rest := [.ref a36]) at_68 rfl rfl (w30 hG) (w31 hG) (w21 hG) (w32 hG) (by decide) pd11 rfl rfl rfl (c_msg2 hG a36 a44 a47 _ f50 f52 f54 f56) (by simp) (by decide) (Nat.le_of_ble_eq_true rfl) rfl rfl (by decide) (by decide) ?_
  intro v57 h58 sh58 q59
  obtain ⟨rfl, KM, EM⟩ := q59
  refine ⟨_, fun _ hx => Or.inl hx, ?_⟩
  show oGo l Z a0 EL True pP eE sS mM _ bB tT cC _ _ _ _ _ _ _ _ [a36, a19, a12, a4] h58 8 23 71 #[.val (.int i0), .val (.int i1), .val (.int i2), .val (.int (Int32.ofNat k)), .val (.int z4), .val (.int z5), .val (.ref a4), .val (.ref a12), .unset, .unset, .unset, .unset] [.ref a36]
  refine oGo.astore (pc' := 73) (Ls' := #[.val (.int i0), .val (.int i1), .val (.int i2), .val (.int (Int32.ofNat k)), .val (.int z4), .val (.int z5), .val (.ref a4), .val (.ref a12), .val (.ref a36), .unset, .unset, .unset]) at_71 rfl rfl rfl ?_
  refine oGo.new (pc' := 76) (k' := 9) (n' := 31) at_73 rfl (w43 hG) (w44 hG) (w45 hG) rfl rfl (by decide) (by decide) ?_
  intro h60 a61 qa61 la61 E62 X63 F64
  have f65 := F64 (Or.inr (w53 hG)) (ty := (.array (.array .byte))) (by decide)
  have f66 := F64 (Or.inr (w57 hG)) (ty := (.array (.object "com/example/nonet/nonet/Answer"))) (by decide)
  have f67 := F64 (Or.inr (w83 hG)) (ty := (.object "java/util/List")) (by decide)
  have f68 := F64 (Or.inl (w90 hG)) (ty := .int) (by decide)
  have f69 := F64 (Or.inl (w160 hG)) (ty := .boolean) (by decide)
  have f70 := F64 (Or.inl (w162 hG)) (ty := .int) (by decide)
  refine oGo.dup (pc' := 77) at_76 rfl rfl ?_
  refine oGo.invokespecial (pc' := 80) (k' := 12) (n' := 331) (a := a61) (argsL := []) (rest := [.ref a61]) at_77 rfl rfl (w46 hG) (w47 hG) (w45 hG) (w48 hG) (by decide) pd0 rfl rfl rfl (c_batch hG a61 da _ X63 f65 f66 f67 f68 f69 f70 Sd) (by simp) (by decide) (Nat.le_of_ble_eq_true rfl) rfl rfl (by decide) (by decide) ?_
  intro v71 h72 sh72 q73
  obtain ⟨rfl, KB, pz, an, li, ⟨gp, ga, gl⟩, BT0, L0⟩ := q73
  have ll := own_ltN L0.1.lt
  obtain ⟨⟨⟨x0n1, x0n2, x0n3⟩, x0n4, x0n5, x0n6⟩, x0E, x0G1, x0G2, x0G3, x0G4, x0A1, x0A2, ⟨x0s5, x0G5⟩, ⟨x0s6, x0G6⟩⟩ := BT0
  have x0lb := own_ltN x0E.lt
  have x0lp := own_ltN x0A1.lt
  have x0la := own_ltN x0A2.lt
  refine ⟨[pz, an, li, a61, a36, a19, a12, a4], own_D3 (Or.inl x0G1) (Or.inr (Or.inl x0G2)) (Or.inr (Or.inr x0G4)), ?_⟩
  show oGo l Z a0 EL True pP eE sS mM _ bB tT cC _ _ _ _ _ _ _ _ [pz, an, li, a61, a36, a19, a12, a4] h72 12 331 80 #[.val (.int i0), .val (.int i1), .val (.int i2), .val (.int (Int32.ofNat k)), .val (.int z4), .val (.int z5), .val (.ref a4), .val (.ref a12), .val (.ref a36), .unset, .unset, .unset] [.ref a61]
  refine oGo.astore (pc' := 82) (Ls' := #[.val (.int i0), .val (.int i1), .val (.int i2), .val (.int (Int32.ofNat k)), .val (.int z4), .val (.int z5), .val (.ref a4), .val (.ref a12), .val (.ref a36), .val (.ref a61), .unset, .unset]) at_80 rfl rfl rfl ?_
  refine oGo.iload_n (pc' := 83) at_82 rfl rfl ?_
  rcases (show k = 0 ∨ k = 1 ∨ k = 2 ∨ k = 3 by omega) with rfl | rfl | rfl | rfl
  · show oGo l Z a0 EL True pP eE sS mM _ bB tT cC _ _ _ _ _ _ _ _ [pz, an, li, a61, a36, a19, a12, a4] h72 12 331 83 #[.val (.int i0), .val (.int i1), .val (.int i2), .val (.int (0 : Int32)), .val (.int z4), .val (.int z5), .val (.ref a4), .val (.ref a12), .val (.ref a36), .val (.ref a61), .unset, .unset] [.int (0 : Int32)]
    refine oGo.if_le (pc1 := 86) (pc2 := 106) at_83 rfl (by decide) (fun q74 => ?_) (fun q => by first | exact absurd q (by decide) | exact absurd (by decide) q)
    refine oGo.iload_n (pc' := 107) at_106 rfl rfl ?_
    refine oGo.iconst (pc' := 108) (v := 1) at_107 rfl (by decide) ?_
    refine oGo.icmp_le (pc1 := 111) (pc2 := 131) at_108 rfl (by decide) (fun q75 => ?_) (fun q => by first | exact absurd q (by decide) | exact absurd (by decide) q)
    refine oGo.iload_n (pc' := 132) at_131 rfl rfl ?_
    refine oGo.iconst (pc' := 133) (v := 2) at_132 rfl (by decide) ?_
    refine oGo.icmp_le (pc1 := 136) (pc2 := 156) at_133 rfl (by decide) (fun q76 => ?_) (fun q => by first | exact absurd q (by decide) | exact absurd (by decide) q)
    refine oGo.iload (pc' := 158) at_156 rfl rfl ?_
    rcases hz4 with rfl | rfl
    · show oGo l Z a0 EL True pP eE sS mM _ bB tT cC _ _ _ _ _ _ _ _ [pz, an, li, a61, a36, a19, a12, a4] h72 12 331 158 #[.val (.int i0), .val (.int i1), .val (.int i2), .val (.int (0 : Int32)), .val (.int (0 : Int32)), .val (.int z5), .val (.ref a4), .val (.ref a12), .val (.ref a36), .val (.ref a61), .unset, .unset] [.int (0 : Int32)]
      refine oGo.if_eq (pc1 := 161) (pc2 := 168) at_158 rfl (by decide) (fun q77 => ?_) (fun q => by first | exact absurd q (by decide) | exact absurd (by decide) q)
      refine oGo.iload (pc' := 170) at_168 rfl rfl ?_
      rcases hz5 with rfl | rfl
      · show oGo l Z a0 EL True pP eE sS mM _ bB tT cC _ _ _ _ _ _ _ _ [pz, an, li, a61, a36, a19, a12, a4] h72 12 331 170 #[.val (.int i0), .val (.int i1), .val (.int i2), .val (.int (0 : Int32)), .val (.int (0 : Int32)), .val (.int (0 : Int32)), .val (.ref a4), .val (.ref a12), .val (.ref a36), .val (.ref a61), .unset, .unset] [.int (0 : Int32)]
        refine oGo.if_eq (pc1 := 173) (pc2 := 179) at_170 rfl (by decide) (fun q78 => ?_) (fun q => by first | exact absurd q (by decide) | exact absurd (by decide) q)
        refine oGo.aload (pc' := 181) at_179 rfl rfl rfl ?_
        refine oGo.invokevirtual (pc' := 184) (k' := 12) (n' := 331) (a := a61) (argsL := []) (rest := []) at_181 rfl (w84 hG) (w85 hG) (w87 hG) (w87 hG) rfl (w86 hG) (w45 hG) (w88 hG) (by decide) pd5 rfl rfl rfl x0E (c_isFull hG a61 0 (by decide) _ x0G3) (by simp) (by decide) (Nat.le_of_ble_eq_true rfl) rfl rfl (by decide) (by decide) ?_
        intro v79 h80 sh80 q81
        obtain ⟨rfl, ee⟩ := q81
        obtain rfl := ee.symm
        refine ⟨_, fun _ hx => Or.inl hx, ?_⟩
        show oGo l Z a0 EL True pP eE sS mM _ bB tT cC _ _ _ _ _ _ _ _ [pz, an, li, a61, a36, a19, a12, a4] h72 12 331 184 #[.val (.int i0), .val (.int i1), .val (.int i2), .val (.int (0 : Int32)), .val (.int (0 : Int32)), .val (.int (0 : Int32)), .val (.ref a4), .val (.ref a12), .val (.ref a36), .val (.ref a61), .unset, .unset] [.int (0 : Int32)]
        refine oGo.istore (pc' := 186) (Ls' := #[.val (.int i0), .val (.int i1), .val (.int i2), .val (.int (0 : Int32)), .val (.int (0 : Int32)), .val (.int (0 : Int32)), .val (.ref a4), .val (.ref a12), .val (.ref a36), .val (.ref a61), .val (.int (0 : Int32)), .unset]) at_184 rfl rfl ?_
        refine oGo.aload (pc' := 188) at_186 rfl rfl rfl ?_
        refine oGo.invokevirtual (pc' := 191) (k' := 12) (n' := 331) (a := a61) (argsL := []) (rest := []) at_188 rfl (w91 hG) (w92 hG) (w94 hG) (w94 hG) rfl (w93 hG) (w45 hG) (w95 hG) (by decide) pd5 rfl rfl rfl x0E (c_isEmpty hG a61 li (Int32.ofNat 0) 0 1 (by decide) _ x0G3 x0G4 L0.1 L0.2.2.2) (by simp) (by decide) (Nat.le_of_ble_eq_true rfl) rfl rfl (by decide) (by decide) ?_
        intro v82 h83 sh83 q84
        obtain ⟨rfl, ee⟩ := q84
        obtain rfl := ee.symm
        refine ⟨_, fun _ hx => Or.inl hx, ?_⟩
        show oGo l Z a0 EL True pP eE sS mM _ bB tT cC _ _ _ _ _ _ _ _ [pz, an, li, a61, a36, a19, a12, a4] h72 12 331 191 #[.val (.int i0), .val (.int i1), .val (.int i2), .val (.int (0 : Int32)), .val (.int (0 : Int32)), .val (.int (0 : Int32)), .val (.ref a4), .val (.ref a12), .val (.ref a36), .val (.ref a61), .val (.int (0 : Int32)), .unset] [.int (1 : Int32)]
        refine oGo.istore (pc' := 193) (Ls' := #[.val (.int i0), .val (.int i1), .val (.int i2), .val (.int (0 : Int32)), .val (.int (0 : Int32)), .val (.int (0 : Int32)), .val (.ref a4), .val (.ref a12), .val (.ref a36), .val (.ref a61), .val (.int (0 : Int32)), .val (.int (1 : Int32))]) at_191 rfl rfl ?_
        refine oGo.iload (pc' := 195) at_193 rfl rfl ?_
        refine oGo.if_ne (pc1 := 198) (pc2 := 221) at_195 rfl (by decide) (fun q => by first | exact absurd q (by decide) | exact absurd (by decide) q) (fun q85 => ?_)
        refine oGo.iload (pc' := 200) at_198 rfl rfl ?_
        refine oGo.iload_n (pc' := 201) at_200 rfl rfl ?_
        refine oGo.if_ne (pc1 := 204) (pc2 := 213) at_201 rfl (by decide) (fun q => by first | exact absurd q (by decide) | exact absurd (by decide) q) (fun q86 => ?_)
        refine oGo.iload (pc' := 206) at_204 rfl rfl ?_
        refine oGo.if_ne (pc1 := 209) (pc2 := 213) at_206 rfl (by decide) (fun q => by first | exact absurd q (by decide) | exact absurd (by decide) q) (fun q87 => ?_)
        refine oGo.iconst (pc' := 210) (v := 1) at_209 rfl (by decide) ?_
        refine oGo.goto (pc' := 214) at_210 (by decide) ?_
        refine oGo.icmp_ne (pc1 := 217) (pc2 := 221) at_214 rfl (by decide) (fun q => by first | exact absurd q (by decide) | exact absurd (by decide) q) (fun q88 => ?_)
        refine oGo.iconst (pc' := 218) (v := 1) at_217 rfl (by decide) ?_
        refine oGo.goto (pc' := 222) at_218 (by decide) ?_
        exact oGo.nreturn at_222 rfl (by simp) rfl (by decide) (by decide) rfl (fun _ q => q.elim)
      · show oGo l Z a0 EL True pP eE sS mM _ bB tT cC _ _ _ _ _ _ _ _ [pz, an, li, a61, a36, a19, a12, a4] h72 12 331 170 #[.val (.int i0), .val (.int i1), .val (.int i2), .val (.int (0 : Int32)), .val (.int (0 : Int32)), .val (.int (1 : Int32)), .val (.ref a4), .val (.ref a12), .val (.ref a36), .val (.ref a61), .unset, .unset] [.int (1 : Int32)]
        refine oGo.if_eq (pc1 := 173) (pc2 := 179) at_170 rfl (by decide) (fun q => by first | exact absurd q (by decide) | exact absurd (by decide) q) (fun q89 => ?_)
        refine oGo.aload (pc' := 175) at_173 rfl rfl rfl ?_
        refine oGo.iload_n (pc' := 176) at_175 rfl rfl ?_
        refine oGo.invokevirtual (pc' := 179) (k' := 12) (n' := 331) (a := a61) (argsL := [.int i2]) (rest := []) at_176 rfl (w154 hG) (w155 hG) (w157 hG) (w157 hG) rfl (w156 hG) (w45 hG) (w158 hG) (by decide) pd12 rfl rfl rfl x0E (c_mark hG a61 pz an li 0 i2 _ ⟨⟨⟨x0n1, x0n2, x0n3⟩, x0n4, x0n5, x0n6⟩, x0E, x0G1, x0G2, x0G3, x0G4, x0A1, x0A2, ⟨_, x0G5⟩, ⟨_, x0G6⟩⟩) (by simp) (by decide) (Nat.le_of_ble_eq_true rfl) rfl rfl (by decide) (by decide) ?_
        intro v90 h91 sh91 q92
        obtain ⟨rfl, KQ, BTQ⟩ := q92
        obtain ⟨⟨⟨xqn1, xqn2, xqn3⟩, xqn4, xqn5, xqn6⟩, xqE, xqG1, xqG2, xqG3, xqG4, xqA1, xqA2, ⟨xqs5, xqG5⟩, ⟨xqs6, xqG6⟩⟩ := BTQ
        have xqlb := own_ltN xqE.lt
        have xqlp := own_ltN xqA1.lt
        have xqla := own_ltN xqA2.lt
        refine ⟨_, fun _ hx => Or.inl hx, ?_⟩
        show oGo l Z a0 EL True pP eE sS mM _ bB tT cC _ _ _ _ _ _ _ _ [pz, an, li, a61, a36, a19, a12, a4] h91 12 331 179 #[.val (.int i0), .val (.int i1), .val (.int i2), .val (.int (0 : Int32)), .val (.int (0 : Int32)), .val (.int (1 : Int32)), .val (.ref a4), .val (.ref a12), .val (.ref a36), .val (.ref a61), .unset, .unset] []
        refine oGo.aload (pc' := 181) at_179 rfl rfl rfl ?_
        refine oGo.invokevirtual (pc' := 184) (k' := 12) (n' := 331) (a := a61) (argsL := []) (rest := []) at_181 rfl (w84 hG) (w85 hG) (w87 hG) (w87 hG) rfl (w86 hG) (w45 hG) (w88 hG) (by decide) pd5 rfl rfl rfl xqE (c_isFull hG a61 0 (by decide) _ xqG3) (by simp) (by decide) (Nat.le_of_ble_eq_true rfl) rfl rfl (by decide) (by decide) ?_
        intro v93 h94 sh94 q95
        obtain ⟨rfl, ee⟩ := q95
        obtain rfl := ee.symm
        refine ⟨_, fun _ hx => Or.inl hx, ?_⟩
        show oGo l Z a0 EL True pP eE sS mM _ bB tT cC _ _ _ _ _ _ _ _ [pz, an, li, a61, a36, a19, a12, a4] h91 12 331 184 #[.val (.int i0), .val (.int i1), .val (.int i2), .val (.int (0 : Int32)), .val (.int (0 : Int32)), .val (.int (1 : Int32)), .val (.ref a4), .val (.ref a12), .val (.ref a36), .val (.ref a61), .unset, .unset] [.int (0 : Int32)]
        refine oGo.istore (pc' := 186) (Ls' := #[.val (.int i0), .val (.int i1), .val (.int i2), .val (.int (0 : Int32)), .val (.int (0 : Int32)), .val (.int (1 : Int32)), .val (.ref a4), .val (.ref a12), .val (.ref a36), .val (.ref a61), .val (.int (0 : Int32)), .unset]) at_184 rfl rfl ?_
        refine oGo.aload (pc' := 188) at_186 rfl rfl rfl ?_
        have f96 := Exa.keep L0.1 KQ
        have f97 := Fld.keep L0.2.2.2 KQ (own_nin1 (Ne.symm xqn3))
        refine oGo.invokevirtual (pc' := 191) (k' := 12) (n' := 331) (a := a61) (argsL := []) (rest := []) at_188 rfl (w91 hG) (w92 hG) (w94 hG) (w94 hG) rfl (w93 hG) (w45 hG) (w95 hG) (by decide) pd5 rfl rfl rfl xqE (c_isEmpty hG a61 li (Int32.ofNat 0) 0 1 (by decide) _ xqG3 xqG4 f96 f97) (by simp) (by decide) (Nat.le_of_ble_eq_true rfl) rfl rfl (by decide) (by decide) ?_
        intro v98 h99 sh99 q100
        obtain ⟨rfl, ee⟩ := q100
        obtain rfl := ee.symm
        refine ⟨_, fun _ hx => Or.inl hx, ?_⟩
        show oGo l Z a0 EL True pP eE sS mM _ bB tT cC _ _ _ _ _ _ _ _ [pz, an, li, a61, a36, a19, a12, a4] h91 12 331 191 #[.val (.int i0), .val (.int i1), .val (.int i2), .val (.int (0 : Int32)), .val (.int (0 : Int32)), .val (.int (1 : Int32)), .val (.ref a4), .val (.ref a12), .val (.ref a36), .val (.ref a61), .val (.int (0 : Int32)), .unset] [.int (1 : Int32)]
        refine oGo.istore (pc' := 193) (Ls' := #[.val (.int i0), .val (.int i1), .val (.int i2), .val (.int (0 : Int32)), .val (.int (0 : Int32)), .val (.int (1 : Int32)), .val (.ref a4), .val (.ref a12), .val (.ref a36), .val (.ref a61), .val (.int (0 : Int32)), .val (.int (1 : Int32))]) at_191 rfl rfl ?_
        refine oGo.iload (pc' := 195) at_193 rfl rfl ?_
        refine oGo.if_ne (pc1 := 198) (pc2 := 221) at_195 rfl (by decide) (fun q => by first | exact absurd q (by decide) | exact absurd (by decide) q) (fun q101 => ?_)
        refine oGo.iload (pc' := 200) at_198 rfl rfl ?_
        refine oGo.iload_n (pc' := 201) at_200 rfl rfl ?_
        refine oGo.if_ne (pc1 := 204) (pc2 := 213) at_201 rfl (by decide) (fun q => by first | exact absurd q (by decide) | exact absurd (by decide) q) (fun q102 => ?_)
        refine oGo.iload (pc' := 206) at_204 rfl rfl ?_
        refine oGo.if_ne (pc1 := 209) (pc2 := 213) at_206 rfl (by decide) (fun q => by first | exact absurd q (by decide) | exact absurd (by decide) q) (fun q103 => ?_)
        refine oGo.iconst (pc' := 210) (v := 1) at_209 rfl (by decide) ?_
        refine oGo.goto (pc' := 214) at_210 (by decide) ?_
        refine oGo.icmp_ne (pc1 := 217) (pc2 := 221) at_214 rfl (by decide) (fun q => by first | exact absurd q (by decide) | exact absurd (by decide) q) (fun q104 => ?_)
        refine oGo.iconst (pc' := 218) (v := 1) at_217 rfl (by decide) ?_
        refine oGo.goto (pc' := 222) at_218 (by decide) ?_
        exact oGo.nreturn at_222 rfl (by simp) rfl (by decide) (by decide) rfl (fun _ q => q.elim)
    · show oGo l Z a0 EL True pP eE sS mM _ bB tT cC _ _ _ _ _ _ _ _ [pz, an, li, a61, a36, a19, a12, a4] h72 12 331 158 #[.val (.int i0), .val (.int i1), .val (.int i2), .val (.int (0 : Int32)), .val (.int (1 : Int32)), .val (.int z5), .val (.ref a4), .val (.ref a12), .val (.ref a36), .val (.ref a61), .unset, .unset] [.int (1 : Int32)]
      refine oGo.if_eq (pc1 := 161) (pc2 := 168) at_158 rfl (by decide) (fun q => by first | exact absurd q (by decide) | exact absurd (by decide) q) (fun q105 => ?_)
      refine oGo.aload (pc' := 163) at_161 rfl rfl rfl ?_
      refine oGo.aload (pc' := 165) at_163 rfl rfl rfl ?_
      have f106 := oArr.ext E5 f2
      have f107 := oArr.other W9 f106 (own_ne_ge (x := da) (y := a4) (own_ltN f2.lt) (own_ge_eq qa4))
      have f108 := oArr.ext E13 f107
      have f109 := oArr.ext E20 f108
      have g111 := own_lt_le (x := da) (own_ltN f2.lt) E5.1
      have g112 := own_lt_le (x := da) g111 (Nat.le_of_eq (Wr.size W9).symm)
      have g113 := own_lt_le (x := da) g112 E13.1
      have f110 := oArr.other W24 f109 (own_ne_ge (x := da) (y := a19) g113 (own_ge_eq qa19))
      have f114 := oArr.keep f110 KA (own_nin1 (own_ne_ge (x := da) (y := a12) g112 (own_ge_eq qa12)))
      have f115 := oArr.ext E37 f114
      have f116 := oArr.ext E45 f115
      have f117 := oArr.ext E48 f116
      have g119 := own_lt_le (x := da) g113 E20.1
      have g120 := own_lt_le (x := da) g119 (Nat.le_of_eq (Wr.size W24).symm)
      have g121 := own_lt_le (x := da) g120 KA.1
      have f118 := oArr.keep f117 KM (own_nin1 (own_ne_ge (x := da) (y := a36) g121 (own_ge_eq qa36)))
      have f122 := oArr.ext E62 f118
      have f123 := oArr.keep f122 KB (own_nin1 (own_ne (by omega)))
      have f124 := Exa.ext E62 EM
      have f125 := Exa.keep f124 KB
      refine oGo.invokevirtual (pc' := 168) (k' := 13) (n' := 341) (a := a61) (argsL := [.ref a36]) (rest := []) at_165 rfl (w117 hG) (w118 hG) (w120 hG) (w120 hG) rfl (w119 hG) (w45 hG) (w121 hG) (by decide) pd13 rfl rfl rfl x0E (c_report hG a61 li da a36 _ x0G4 ⟨L0.1, L0.2.1, L0.2.2.1, L0.2.2.2⟩ f123 Sd f125) (by simp) (by decide) (Nat.le_of_ble_eq_true rfl) rfl rfl (by decide) (by decide) ?_
      intro v126 h127 sh127 q128
      obtain ⟨rfl, KR, ER, SR⟩ := q128
      refine ⟨_, fun _ hx => Or.inl hx, ?_⟩
      show oGo l Z a0 EL True pP eE sS mM _ bB tT cC _ _ _ _ _ _ _ _ [pz, an, li, a61, a36, a19, a12, a4] h127 13 341 168 #[.val (.int i0), .val (.int i1), .val (.int i2), .val (.int (0 : Int32)), .val (.int (1 : Int32)), .val (.int z5), .val (.ref a4), .val (.ref a12), .val (.ref a36), .val (.ref a61), .unset, .unset] []
      refine oGo.iload (pc' := 170) at_168 rfl rfl ?_
      rcases hz5 with rfl | rfl
      · show oGo l Z a0 EL True pP eE sS mM _ bB tT cC _ _ _ _ _ _ _ _ [pz, an, li, a61, a36, a19, a12, a4] h127 13 341 170 #[.val (.int i0), .val (.int i1), .val (.int i2), .val (.int (0 : Int32)), .val (.int (1 : Int32)), .val (.int (0 : Int32)), .val (.ref a4), .val (.ref a12), .val (.ref a36), .val (.ref a61), .unset, .unset] [.int (0 : Int32)]
        refine oGo.if_eq (pc1 := 173) (pc2 := 179) at_170 rfl (by decide) (fun q129 => ?_) (fun q => by first | exact absurd q (by decide) | exact absurd (by decide) q)
        refine oGo.aload (pc' := 181) at_179 rfl rfl rfl ?_
        have f130 := Fld.keep x0G3 KR (own_nin1 x0n3)
        have f134 := Exa.keep x0E KR
        refine oGo.invokevirtual (pc' := 184) (k' := 13) (n' := 341) (a := a61) (argsL := []) (rest := []) at_181 rfl (w84 hG) (w85 hG) (w87 hG) (w87 hG) rfl (w86 hG) (w45 hG) (w88 hG) (by decide) pd5 rfl rfl rfl f134 (c_isFull hG a61 0 (by decide) _ f130) (by simp) (by decide) (Nat.le_of_ble_eq_true rfl) rfl rfl (by decide) (by decide) ?_
        intro v131 h132 sh132 q133
        obtain ⟨rfl, ee⟩ := q133
        obtain rfl := ee.symm
        refine ⟨_, fun _ hx => Or.inl hx, ?_⟩
        show oGo l Z a0 EL True pP eE sS mM _ bB tT cC _ _ _ _ _ _ _ _ [pz, an, li, a61, a36, a19, a12, a4] h127 13 341 184 #[.val (.int i0), .val (.int i1), .val (.int i2), .val (.int (0 : Int32)), .val (.int (1 : Int32)), .val (.int (0 : Int32)), .val (.ref a4), .val (.ref a12), .val (.ref a36), .val (.ref a61), .unset, .unset] [.int (0 : Int32)]
        refine oGo.istore (pc' := 186) (Ls' := #[.val (.int i0), .val (.int i1), .val (.int i2), .val (.int (0 : Int32)), .val (.int (1 : Int32)), .val (.int (0 : Int32)), .val (.ref a4), .val (.ref a12), .val (.ref a36), .val (.ref a61), .val (.int (0 : Int32)), .unset]) at_184 rfl rfl ?_
        refine oGo.aload (pc' := 188) at_186 rfl rfl rfl ?_
        have f135 := Fld.keep x0G4 KR (own_nin1 x0n3)
        refine oGo.invokevirtual (pc' := 191) (k' := 13) (n' := 341) (a := a61) (argsL := []) (rest := []) at_188 rfl (w91 hG) (w92 hG) (w94 hG) (w94 hG) rfl (w93 hG) (w45 hG) (w95 hG) (by decide) pd5 rfl rfl rfl f134 (c_isEmpty hG a61 li (Int32.ofNat 0) 1 0 (by decide) _ f130 f135 ER SR) (by simp) (by decide) (Nat.le_of_ble_eq_true rfl) rfl rfl (by decide) (by decide) ?_
        intro v136 h137 sh137 q138
        obtain ⟨rfl, ee⟩ := q138
        obtain rfl := ee.symm
        refine ⟨_, fun _ hx => Or.inl hx, ?_⟩
        show oGo l Z a0 EL True pP eE sS mM _ bB tT cC _ _ _ _ _ _ _ _ [pz, an, li, a61, a36, a19, a12, a4] h127 13 341 191 #[.val (.int i0), .val (.int i1), .val (.int i2), .val (.int (0 : Int32)), .val (.int (1 : Int32)), .val (.int (0 : Int32)), .val (.ref a4), .val (.ref a12), .val (.ref a36), .val (.ref a61), .val (.int (0 : Int32)), .unset] [.int (0 : Int32)]
        refine oGo.istore (pc' := 193) (Ls' := #[.val (.int i0), .val (.int i1), .val (.int i2), .val (.int (0 : Int32)), .val (.int (1 : Int32)), .val (.int (0 : Int32)), .val (.ref a4), .val (.ref a12), .val (.ref a36), .val (.ref a61), .val (.int (0 : Int32)), .val (.int (0 : Int32))]) at_191 rfl rfl ?_
        refine oGo.iload (pc' := 195) at_193 rfl rfl ?_
        refine oGo.if_ne (pc1 := 198) (pc2 := 221) at_195 rfl (by decide) (fun q => by first | exact absurd q (by decide) | exact absurd (by decide) q) (fun q139 => ?_)
        refine oGo.iload (pc' := 200) at_198 rfl rfl ?_
        refine oGo.iload_n (pc' := 201) at_200 rfl rfl ?_
        refine oGo.if_ne (pc1 := 204) (pc2 := 213) at_201 rfl (by decide) (fun q => by first | exact absurd q (by decide) | exact absurd (by decide) q) (fun q140 => ?_)
        refine oGo.iload (pc' := 206) at_204 rfl rfl ?_
        refine oGo.if_ne (pc1 := 209) (pc2 := 213) at_206 rfl (by decide) (fun q141 => ?_) (fun q => by first | exact absurd q (by decide) | exact absurd (by decide) q)
        refine oGo.iconst (pc' := 214) (v := 0) at_213 rfl (by decide) ?_
        refine oGo.icmp_ne (pc1 := 217) (pc2 := 221) at_214 rfl (by decide) (fun q => by first | exact absurd q (by decide) | exact absurd (by decide) q) (fun q142 => ?_)
        refine oGo.iconst (pc' := 218) (v := 1) at_217 rfl (by decide) ?_
        refine oGo.goto (pc' := 222) at_218 (by decide) ?_
        exact oGo.nreturn at_222 rfl (by simp) rfl (by decide) (by decide) rfl (fun _ q => q.elim)
      · show oGo l Z a0 EL True pP eE sS mM _ bB tT cC _ _ _ _ _ _ _ _ [pz, an, li, a61, a36, a19, a12, a4] h127 13 341 170 #[.val (.int i0), .val (.int i1), .val (.int i2), .val (.int (0 : Int32)), .val (.int (1 : Int32)), .val (.int (1 : Int32)), .val (.ref a4), .val (.ref a12), .val (.ref a36), .val (.ref a61), .unset, .unset] [.int (1 : Int32)]
        refine oGo.if_eq (pc1 := 173) (pc2 := 179) at_170 rfl (by decide) (fun q => by first | exact absurd q (by decide) | exact absurd (by decide) q) (fun q143 => ?_)
        refine oGo.aload (pc' := 175) at_173 rfl rfl rfl ?_
        refine oGo.iload_n (pc' := 176) at_175 rfl rfl ?_
        have f144 := Exa.keep x0E KR
        have f145 := Fld.keep x0G1 KR (own_nin1 x0n3)
        have f146 := Fld.keep x0G2 KR (own_nin1 x0n3)
        have f147 := Fld.keep x0G3 KR (own_nin1 x0n3)
        have f148 := Fld.keep x0G4 KR (own_nin1 x0n3)
        have f149 := x0A1.keep KR (own_nin1 x0n5)
        have f150 := x0A2.keep KR (own_nin1 x0n6)
        have f151 := Fld.keep x0G5 KR (own_nin1 x0n3)
        have f152 := Fld.keep x0G6 KR (own_nin1 x0n3)
        refine oGo.invokevirtual (pc' := 179) (k' := 13) (n' := 341) (a := a61) (argsL := [.int i2]) (rest := []) at_176 rfl (w154 hG) (w155 hG) (w157 hG) (w157 hG) rfl (w156 hG) (w45 hG) (w158 hG) (by decide) pd12 rfl rfl rfl f144 (c_mark hG a61 pz an li 0 i2 _ ⟨⟨⟨x0n1, x0n2, x0n3⟩, x0n4, x0n5, x0n6⟩, f144, f145, f146, f147, f148, f149, f150, ⟨_, f151⟩, ⟨_, f152⟩⟩) (by simp) (by decide) (Nat.le_of_ble_eq_true rfl) rfl rfl (by decide) (by decide) ?_
        intro v153 h154 sh154 q155
        obtain ⟨rfl, KQ, BTQ⟩ := q155
        obtain ⟨⟨⟨xqn1, xqn2, xqn3⟩, xqn4, xqn5, xqn6⟩, xqE, xqG1, xqG2, xqG3, xqG4, xqA1, xqA2, ⟨xqs5, xqG5⟩, ⟨xqs6, xqG6⟩⟩ := BTQ
        have xqlb := own_ltN xqE.lt
        have xqlp := own_ltN xqA1.lt
        have xqla := own_ltN xqA2.lt
        refine ⟨_, fun _ hx => Or.inl hx, ?_⟩
        show oGo l Z a0 EL True pP eE sS mM _ bB tT cC _ _ _ _ _ _ _ _ [pz, an, li, a61, a36, a19, a12, a4] h154 13 341 179 #[.val (.int i0), .val (.int i1), .val (.int i2), .val (.int (0 : Int32)), .val (.int (1 : Int32)), .val (.int (1 : Int32)), .val (.ref a4), .val (.ref a12), .val (.ref a36), .val (.ref a61), .unset, .unset] []
        refine oGo.aload (pc' := 181) at_179 rfl rfl rfl ?_
        refine oGo.invokevirtual (pc' := 184) (k' := 13) (n' := 341) (a := a61) (argsL := []) (rest := []) at_181 rfl (w84 hG) (w85 hG) (w87 hG) (w87 hG) rfl (w86 hG) (w45 hG) (w88 hG) (by decide) pd5 rfl rfl rfl xqE (c_isFull hG a61 0 (by decide) _ xqG3) (by simp) (by decide) (Nat.le_of_ble_eq_true rfl) rfl rfl (by decide) (by decide) ?_
        intro v156 h157 sh157 q158
        obtain ⟨rfl, ee⟩ := q158
        obtain rfl := ee.symm
        refine ⟨_, fun _ hx => Or.inl hx, ?_⟩
        show oGo l Z a0 EL True pP eE sS mM _ bB tT cC _ _ _ _ _ _ _ _ [pz, an, li, a61, a36, a19, a12, a4] h154 13 341 184 #[.val (.int i0), .val (.int i1), .val (.int i2), .val (.int (0 : Int32)), .val (.int (1 : Int32)), .val (.int (1 : Int32)), .val (.ref a4), .val (.ref a12), .val (.ref a36), .val (.ref a61), .unset, .unset] [.int (0 : Int32)]
        refine oGo.istore (pc' := 186) (Ls' := #[.val (.int i0), .val (.int i1), .val (.int i2), .val (.int (0 : Int32)), .val (.int (1 : Int32)), .val (.int (1 : Int32)), .val (.ref a4), .val (.ref a12), .val (.ref a36), .val (.ref a61), .val (.int (0 : Int32)), .unset]) at_184 rfl rfl ?_
        refine oGo.aload (pc' := 188) at_186 rfl rfl rfl ?_
        have f159 := Exa.keep ER KQ
        have f160 := Fld.keep SR KQ (own_nin1 (Ne.symm xqn3))
        refine oGo.invokevirtual (pc' := 191) (k' := 13) (n' := 341) (a := a61) (argsL := []) (rest := []) at_188 rfl (w91 hG) (w92 hG) (w94 hG) (w94 hG) rfl (w93 hG) (w45 hG) (w95 hG) (by decide) pd5 rfl rfl rfl xqE (c_isEmpty hG a61 li (Int32.ofNat 0) 1 0 (by decide) _ xqG3 xqG4 f159 f160) (by simp) (by decide) (Nat.le_of_ble_eq_true rfl) rfl rfl (by decide) (by decide) ?_
        intro v161 h162 sh162 q163
        obtain ⟨rfl, ee⟩ := q163
        obtain rfl := ee.symm
        refine ⟨_, fun _ hx => Or.inl hx, ?_⟩
        show oGo l Z a0 EL True pP eE sS mM _ bB tT cC _ _ _ _ _ _ _ _ [pz, an, li, a61, a36, a19, a12, a4] h154 13 341 191 #[.val (.int i0), .val (.int i1), .val (.int i2), .val (.int (0 : Int32)), .val (.int (1 : Int32)), .val (.int (1 : Int32)), .val (.ref a4), .val (.ref a12), .val (.ref a36), .val (.ref a61), .val (.int (0 : Int32)), .unset] [.int (0 : Int32)]
        refine oGo.istore (pc' := 193) (Ls' := #[.val (.int i0), .val (.int i1), .val (.int i2), .val (.int (0 : Int32)), .val (.int (1 : Int32)), .val (.int (1 : Int32)), .val (.ref a4), .val (.ref a12), .val (.ref a36), .val (.ref a61), .val (.int (0 : Int32)), .val (.int (0 : Int32))]) at_191 rfl rfl ?_
        refine oGo.iload (pc' := 195) at_193 rfl rfl ?_
        refine oGo.if_ne (pc1 := 198) (pc2 := 221) at_195 rfl (by decide) (fun q => by first | exact absurd q (by decide) | exact absurd (by decide) q) (fun q164 => ?_)
        refine oGo.iload (pc' := 200) at_198 rfl rfl ?_
        refine oGo.iload_n (pc' := 201) at_200 rfl rfl ?_
        refine oGo.if_ne (pc1 := 204) (pc2 := 213) at_201 rfl (by decide) (fun q => by first | exact absurd q (by decide) | exact absurd (by decide) q) (fun q165 => ?_)
        refine oGo.iload (pc' := 206) at_204 rfl rfl ?_
        refine oGo.if_ne (pc1 := 209) (pc2 := 213) at_206 rfl (by decide) (fun q166 => ?_) (fun q => by first | exact absurd q (by decide) | exact absurd (by decide) q)
        refine oGo.iconst (pc' := 214) (v := 0) at_213 rfl (by decide) ?_
        refine oGo.icmp_ne (pc1 := 217) (pc2 := 221) at_214 rfl (by decide) (fun q => by first | exact absurd q (by decide) | exact absurd (by decide) q) (fun q167 => ?_)
        refine oGo.iconst (pc' := 218) (v := 1) at_217 rfl (by decide) ?_
        refine oGo.goto (pc' := 222) at_218 (by decide) ?_
        exact oGo.nreturn at_222 rfl (by simp) rfl (by decide) (by decide) rfl (fun _ q => q.elim)
  · show oGo l Z a0 EL True pP eE sS mM _ bB tT cC _ _ _ _ _ _ _ _ [pz, an, li, a61, a36, a19, a12, a4] h72 12 331 83 #[.val (.int i0), .val (.int i1), .val (.int i2), .val (.int (1 : Int32)), .val (.int z4), .val (.int z5), .val (.ref a4), .val (.ref a12), .val (.ref a36), .val (.ref a61), .unset, .unset] [.int (1 : Int32)]
    refine oGo.if_le (pc1 := 86) (pc2 := 106) at_83 rfl (by decide) (fun q => by first | exact absurd q (by decide) | exact absurd (by decide) q) (fun q168 => ?_)
    refine oGo.aload (pc' := 88) at_86 rfl rfl rfl ?_
    refine oGo.iload_n (pc' := 89) at_88 rfl rfl ?_
    refine oGo.iconst (pc' := 90) (v := 1) at_89 rfl (by decide) ?_
    refine oGo.iand (pc' := 91) at_90 rfl ?_
    refine oGo.boolz (pc' := 99) at_91 at_94 at_95 at_98 rfl ?_
    intro y0 hy0
    refine oGo.aload (pc' := 101) at_99 rfl rfl rfl ?_
    refine oGo.aload (pc' := 103) at_101 rfl rfl rfl ?_
    have f169 := Exa.wr W9 X7
    have f170 := Exa.ext E13 f169
    have f171 := Exa.ext E20 f170
    have f172 := Exa.wr W24 f171
    have f173 := Exa.keep f172 KA
    have f174 := Exa.ext E37 f173
    have f175 := Exa.ext E45 f174
    have f176 := Exa.ext E48 f175
    have f177 := Exa.keep f176 KM
    have f178 := Exa.ext E62 f177
    have f179 := Exa.keep f178 KB
    have f180 := Exa.ext E37 EA
    have f181 := Exa.ext E45 f180
    have f182 := Exa.ext E48 f181
    have f183 := Exa.keep f182 KM
    have f184 := Exa.ext E62 f183
    have f185 := Exa.keep f184 KB
    refine oGo.invokestatic (pc' := 106) (k' := 12) (n' := 331) (argsL := [.ref a61, .int y0, .ref a4, .ref a12]) (rest := []) at_103 rfl (w107 hG) (w108 hG) (w109 hG) (w110 hG) (by decide) pd14 rfl rfl rfl (c_addOne hG a61 pz an li a4 a12 0 y0 (by decide) _ ⟨⟨⟨x0n1, x0n2, x0n3⟩, x0n4, x0n5, x0n6⟩, x0E, x0G1, x0G2, x0G3, x0G4, x0A1, x0A2, ⟨_, x0G5⟩, ⟨_, x0G6⟩⟩ f179 f185) (by simp) (by decide) (Nat.le_of_ble_eq_true rfl) rfl rfl (by decide) (by decide) ?_
    intro v186 h187 sh187 q188
    obtain ⟨rfl, KO0, BT1⟩ := q188
    obtain ⟨⟨⟨x1n1, x1n2, x1n3⟩, x1n4, x1n5, x1n6⟩, x1E, x1G1, x1G2, x1G3, x1G4, x1A1, x1A2, ⟨x1s5, x1G5⟩, ⟨x1s6, x1G6⟩⟩ := BT1
    have x1lb := own_ltN x1E.lt
    have x1lp := own_ltN x1A1.lt
    have x1la := own_ltN x1A2.lt
    refine ⟨_, fun _ hx => Or.inl hx, ?_⟩
    show oGo l Z a0 EL True pP eE sS mM _ bB tT cC _ _ _ _ _ _ _ _ [pz, an, li, a61, a36, a19, a12, a4] h187 12 331 106 #[.val (.int i0), .val (.int i1), .val (.int i2), .val (.int (1 : Int32)), .val (.int z4), .val (.int z5), .val (.ref a4), .val (.ref a12), .val (.ref a36), .val (.ref a61), .unset, .unset] []
    refine oGo.iload_n (pc' := 107) at_106 rfl rfl ?_
    refine oGo.iconst (pc' := 108) (v := 1) at_107 rfl (by decide) ?_
    refine oGo.icmp_le (pc1 := 111) (pc2 := 131) at_108 rfl (by decide) (fun q189 => ?_) (fun q => by first | exact absurd q (by decide) | exact absurd (by decide) q)
    refine oGo.iload_n (pc' := 132) at_131 rfl rfl ?_
    refine oGo.iconst (pc' := 133) (v := 2) at_132 rfl (by decide) ?_
    refine oGo.icmp_le (pc1 := 136) (pc2 := 156) at_133 rfl (by decide) (fun q190 => ?_) (fun q => by first | exact absurd q (by decide) | exact absurd (by decide) q)
    refine oGo.iload (pc' := 158) at_156 rfl rfl ?_
    rcases hz4 with rfl | rfl
    · show oGo l Z a0 EL True pP eE sS mM _ bB tT cC _ _ _ _ _ _ _ _ [pz, an, li, a61, a36, a19, a12, a4] h187 12 331 158 #[.val (.int i0), .val (.int i1), .val (.int i2), .val (.int (1 : Int32)), .val (.int (0 : Int32)), .val (.int z5), .val (.ref a4), .val (.ref a12), .val (.ref a36), .val (.ref a61), .unset, .unset] [.int (0 : Int32)]
      refine oGo.if_eq (pc1 := 161) (pc2 := 168) at_158 rfl (by decide) (fun q191 => ?_) (fun q => by first | exact absurd q (by decide) | exact absurd (by decide) q)
      refine oGo.iload (pc' := 170) at_168 rfl rfl ?_
      rcases hz5 with rfl | rfl
      · show oGo l Z a0 EL True pP eE sS mM _ bB tT cC _ _ _ _ _ _ _ _ [pz, an, li, a61, a36, a19, a12, a4] h187 12 331 170 #[.val (.int i0), .val (.int i1), .val (.int i2), .val (.int (1 : Int32)), .val (.int (0 : Int32)), .val (.int (0 : Int32)), .val (.ref a4), .val (.ref a12), .val (.ref a36), .val (.ref a61), .unset, .unset] [.int (0 : Int32)]
        refine oGo.if_eq (pc1 := 173) (pc2 := 179) at_170 rfl (by decide) (fun q192 => ?_) (fun q => by first | exact absurd q (by decide) | exact absurd (by decide) q)
        refine oGo.aload (pc' := 181) at_179 rfl rfl rfl ?_
        refine oGo.invokevirtual (pc' := 184) (k' := 12) (n' := 331) (a := a61) (argsL := []) (rest := []) at_181 rfl (w84 hG) (w85 hG) (w87 hG) (w87 hG) rfl (w86 hG) (w45 hG) (w88 hG) (by decide) pd5 rfl rfl rfl x1E (c_isFull hG a61 1 (by decide) _ x1G3) (by simp) (by decide) (Nat.le_of_ble_eq_true rfl) rfl rfl (by decide) (by decide) ?_
        intro v193 h194 sh194 q195
        obtain ⟨rfl, ee⟩ := q195
        obtain rfl := ee.symm
        refine ⟨_, fun _ hx => Or.inl hx, ?_⟩
        show oGo l Z a0 EL True pP eE sS mM _ bB tT cC _ _ _ _ _ _ _ _ [pz, an, li, a61, a36, a19, a12, a4] h187 12 331 184 #[.val (.int i0), .val (.int i1), .val (.int i2), .val (.int (1 : Int32)), .val (.int (0 : Int32)), .val (.int (0 : Int32)), .val (.ref a4), .val (.ref a12), .val (.ref a36), .val (.ref a61), .unset, .unset] [.int (0 : Int32)]
        refine oGo.istore (pc' := 186) (Ls' := #[.val (.int i0), .val (.int i1), .val (.int i2), .val (.int (1 : Int32)), .val (.int (0 : Int32)), .val (.int (0 : Int32)), .val (.ref a4), .val (.ref a12), .val (.ref a36), .val (.ref a61), .val (.int (0 : Int32)), .unset]) at_184 rfl rfl ?_
        refine oGo.aload (pc' := 188) at_186 rfl rfl rfl ?_
        have f196 := Exa.keep L0.1 KO0
        have f197 := Fld.keep L0.2.2.2 KO0 (own_nin3 (Ne.symm x1n3) (Ne.symm x1n5) (Ne.symm x1n6))
        refine oGo.invokevirtual (pc' := 191) (k' := 12) (n' := 331) (a := a61) (argsL := []) (rest := []) at_188 rfl (w91 hG) (w92 hG) (w94 hG) (w94 hG) rfl (w93 hG) (w45 hG) (w95 hG) (by decide) pd5 rfl rfl rfl x1E (c_isEmpty hG a61 li (Int32.ofNat 1) 0 0 (by decide) _ x1G3 x1G4 f196 f197) (by simp) (by decide) (Nat.le_of_ble_eq_true rfl) rfl rfl (by decide) (by decide) ?_
        intro v198 h199 sh199 q200
        obtain ⟨rfl, ee⟩ := q200
        obtain rfl := ee.symm
        refine ⟨_, fun _ hx => Or.inl hx, ?_⟩
        show oGo l Z a0 EL True pP eE sS mM _ bB tT cC _ _ _ _ _ _ _ _ [pz, an, li, a61, a36, a19, a12, a4] h187 12 331 191 #[.val (.int i0), .val (.int i1), .val (.int i2), .val (.int (1 : Int32)), .val (.int (0 : Int32)), .val (.int (0 : Int32)), .val (.ref a4), .val (.ref a12), .val (.ref a36), .val (.ref a61), .val (.int (0 : Int32)), .unset] [.int (0 : Int32)]
        refine oGo.istore (pc' := 193) (Ls' := #[.val (.int i0), .val (.int i1), .val (.int i2), .val (.int (1 : Int32)), .val (.int (0 : Int32)), .val (.int (0 : Int32)), .val (.ref a4), .val (.ref a12), .val (.ref a36), .val (.ref a61), .val (.int (0 : Int32)), .val (.int (0 : Int32))]) at_191 rfl rfl ?_
        refine oGo.iload (pc' := 195) at_193 rfl rfl ?_
        refine oGo.if_ne (pc1 := 198) (pc2 := 221) at_195 rfl (by decide) (fun q => by first | exact absurd q (by decide) | exact absurd (by decide) q) (fun q201 => ?_)
        refine oGo.iload (pc' := 200) at_198 rfl rfl ?_
        refine oGo.iload_n (pc' := 201) at_200 rfl rfl ?_
        refine oGo.if_ne (pc1 := 204) (pc2 := 213) at_201 rfl (by decide) (fun q202 => ?_) (fun q => by first | exact absurd q (by decide) | exact absurd (by decide) q)
        refine oGo.iconst (pc' := 214) (v := 0) at_213 rfl (by decide) ?_
        refine oGo.icmp_ne (pc1 := 217) (pc2 := 221) at_214 rfl (by decide) (fun q => by first | exact absurd q (by decide) | exact absurd (by decide) q) (fun q203 => ?_)
        refine oGo.iconst (pc' := 218) (v := 1) at_217 rfl (by decide) ?_
        refine oGo.goto (pc' := 222) at_218 (by decide) ?_
        exact oGo.nreturn at_222 rfl (by simp) rfl (by decide) (by decide) rfl (fun _ q => q.elim)
      · show oGo l Z a0 EL True pP eE sS mM _ bB tT cC _ _ _ _ _ _ _ _ [pz, an, li, a61, a36, a19, a12, a4] h187 12 331 170 #[.val (.int i0), .val (.int i1), .val (.int i2), .val (.int (1 : Int32)), .val (.int (0 : Int32)), .val (.int (1 : Int32)), .val (.ref a4), .val (.ref a12), .val (.ref a36), .val (.ref a61), .unset, .unset] [.int (1 : Int32)]
        refine oGo.if_eq (pc1 := 173) (pc2 := 179) at_170 rfl (by decide) (fun q => by first | exact absurd q (by decide) | exact absurd (by decide) q) (fun q204 => ?_)
        refine oGo.aload (pc' := 175) at_173 rfl rfl rfl ?_
        refine oGo.iload_n (pc' := 176) at_175 rfl rfl ?_
        refine oGo.invokevirtual (pc' := 179) (k' := 12) (n' := 331) (a := a61) (argsL := [.int i2]) (rest := []) at_176 rfl (w154 hG) (w155 hG) (w157 hG) (w157 hG) rfl (w156 hG) (w45 hG) (w158 hG) (by decide) pd12 rfl rfl rfl x1E (c_mark hG a61 pz an li 1 i2 _ ⟨⟨⟨x1n1, x1n2, x1n3⟩, x1n4, x1n5, x1n6⟩, x1E, x1G1, x1G2, x1G3, x1G4, x1A1, x1A2, ⟨_, x1G5⟩, ⟨_, x1G6⟩⟩) (by simp) (by decide) (Nat.le_of_ble_eq_true rfl) rfl rfl (by decide) (by decide) ?_
        intro v205 h206 sh206 q207
        obtain ⟨rfl, KQ, BTQ⟩ := q207
        obtain ⟨⟨⟨xqn1, xqn2, xqn3⟩, xqn4, xqn5, xqn6⟩, xqE, xqG1, xqG2, xqG3, xqG4, xqA1, xqA2, ⟨xqs5, xqG5⟩, ⟨xqs6, xqG6⟩⟩ := BTQ
        have xqlb := own_ltN xqE.lt
        have xqlp := own_ltN xqA1.lt
        have xqla := own_ltN xqA2.lt
        refine ⟨_, fun _ hx => Or.inl hx, ?_⟩
        show oGo l Z a0 EL True pP eE sS mM _ bB tT cC _ _ _ _ _ _ _ _ [pz, an, li, a61, a36, a19, a12, a4] h206 12 331 179 #[.val (.int i0), .val (.int i1), .val (.int i2), .val (.int (1 : Int32)), .val (.int (0 : Int32)), .val (.int (1 : Int32)), .val (.ref a4), .val (.ref a12), .val (.ref a36), .val (.ref a61), .unset, .unset] []
        refine oGo.aload (pc' := 181) at_179 rfl rfl rfl ?_
        refine oGo.invokevirtual (pc' := 184) (k' := 12) (n' := 331) (a := a61) (argsL := []) (rest := []) at_181 rfl (w84 hG) (w85 hG) (w87 hG) (w87 hG) rfl (w86 hG) (w45 hG) (w88 hG) (by decide) pd5 rfl rfl rfl xqE (c_isFull hG a61 1 (by decide) _ xqG3) (by simp) (by decide) (Nat.le_of_ble_eq_true rfl) rfl rfl (by decide) (by decide) ?_
        intro v208 h209 sh209 q210
        obtain ⟨rfl, ee⟩ := q210
        obtain rfl := ee.symm
        refine ⟨_, fun _ hx => Or.inl hx, ?_⟩
        show oGo l Z a0 EL True pP eE sS mM _ bB tT cC _ _ _ _ _ _ _ _ [pz, an, li, a61, a36, a19, a12, a4] h206 12 331 184 #[.val (.int i0), .val (.int i1), .val (.int i2), .val (.int (1 : Int32)), .val (.int (0 : Int32)), .val (.int (1 : Int32)), .val (.ref a4), .val (.ref a12), .val (.ref a36), .val (.ref a61), .unset, .unset] [.int (0 : Int32)]
        refine oGo.istore (pc' := 186) (Ls' := #[.val (.int i0), .val (.int i1), .val (.int i2), .val (.int (1 : Int32)), .val (.int (0 : Int32)), .val (.int (1 : Int32)), .val (.ref a4), .val (.ref a12), .val (.ref a36), .val (.ref a61), .val (.int (0 : Int32)), .unset]) at_184 rfl rfl ?_
        refine oGo.aload (pc' := 188) at_186 rfl rfl rfl ?_
        have f211 := Exa.keep L0.1 KO0
        have f212 := Exa.keep f211 KQ
        have f213 := Fld.keep L0.2.2.2 KO0 (own_nin3 (Ne.symm xqn3) (Ne.symm xqn5) (Ne.symm xqn6))
        have f214 := Fld.keep f213 KQ (own_nin1 (Ne.symm xqn3))
        refine oGo.invokevirtual (pc' := 191) (k' := 12) (n' := 331) (a := a61) (argsL := []) (rest := []) at_188 rfl (w91 hG) (w92 hG) (w94 hG) (w94 hG) rfl (w93 hG) (w45 hG) (w95 hG) (by decide) pd5 rfl rfl rfl xqE (c_isEmpty hG a61 li (Int32.ofNat 1) 0 0 (by decide) _ xqG3 xqG4 f212 f214) (by simp) (by decide) (Nat.le_of_ble_eq_true rfl) rfl rfl (by decide) (by decide) ?_
        intro v215 h216 sh216 q217
        obtain ⟨rfl, ee⟩ := q217
        obtain rfl := ee.symm
        refine ⟨_, fun _ hx => Or.inl hx, ?_⟩
        show oGo l Z a0 EL True pP eE sS mM _ bB tT cC _ _ _ _ _ _ _ _ [pz, an, li, a61, a36, a19, a12, a4] h206 12 331 191 #[.val (.int i0), .val (.int i1), .val (.int i2), .val (.int (1 : Int32)), .val (.int (0 : Int32)), .val (.int (1 : Int32)), .val (.ref a4), .val (.ref a12), .val (.ref a36), .val (.ref a61), .val (.int (0 : Int32)), .unset] [.int (0 : Int32)]
        refine oGo.istore (pc' := 193) (Ls' := #[.val (.int i0), .val (.int i1), .val (.int i2), .val (.int (1 : Int32)), .val (.int (0 : Int32)), .val (.int (1 : Int32)), .val (.ref a4), .val (.ref a12), .val (.ref a36), .val (.ref a61), .val (.int (0 : Int32)), .val (.int (0 : Int32))]) at_191 rfl rfl ?_
        refine oGo.iload (pc' := 195) at_193 rfl rfl ?_
        refine oGo.if_ne (pc1 := 198) (pc2 := 221) at_195 rfl (by decide) (fun q => by first | exact absurd q (by decide) | exact absurd (by decide) q) (fun q218 => ?_)
        refine oGo.iload (pc' := 200) at_198 rfl rfl ?_
        refine oGo.iload_n (pc' := 201) at_200 rfl rfl ?_
        refine oGo.if_ne (pc1 := 204) (pc2 := 213) at_201 rfl (by decide) (fun q219 => ?_) (fun q => by first | exact absurd q (by decide) | exact absurd (by decide) q)
        refine oGo.iconst (pc' := 214) (v := 0) at_213 rfl (by decide) ?_
        refine oGo.icmp_ne (pc1 := 217) (pc2 := 221) at_214 rfl (by decide) (fun q => by first | exact absurd q (by decide) | exact absurd (by decide) q) (fun q220 => ?_)
        refine oGo.iconst (pc' := 218) (v := 1) at_217 rfl (by decide) ?_
        refine oGo.goto (pc' := 222) at_218 (by decide) ?_
        exact oGo.nreturn at_222 rfl (by simp) rfl (by decide) (by decide) rfl (fun _ q => q.elim)
    · show oGo l Z a0 EL True pP eE sS mM _ bB tT cC _ _ _ _ _ _ _ _ [pz, an, li, a61, a36, a19, a12, a4] h187 12 331 158 #[.val (.int i0), .val (.int i1), .val (.int i2), .val (.int (1 : Int32)), .val (.int (1 : Int32)), .val (.int z5), .val (.ref a4), .val (.ref a12), .val (.ref a36), .val (.ref a61), .unset, .unset] [.int (1 : Int32)]
      refine oGo.if_eq (pc1 := 161) (pc2 := 168) at_158 rfl (by decide) (fun q => by first | exact absurd q (by decide) | exact absurd (by decide) q) (fun q221 => ?_)
      refine oGo.aload (pc' := 163) at_161 rfl rfl rfl ?_
      refine oGo.aload (pc' := 165) at_163 rfl rfl rfl ?_
      have f222 := Exa.keep L0.1 KO0
      have f223 := Fld.keep L0.2.1 KO0 (own_nin3 (Ne.symm x1n3) (Ne.symm x1n5) (Ne.symm x1n6))
      have f224 := Fld.keep L0.2.2.1 KO0 (own_nin3 (Ne.symm x1n3) (Ne.symm x1n5) (Ne.symm x1n6))
      have f225 := Fld.keep L0.2.2.2 KO0 (own_nin3 (Ne.symm x1n3) (Ne.symm x1n5) (Ne.symm x1n6))
      have f226 := oArr.ext E5 f2
      have f227 := oArr.other W9 f226 (own_ne_ge (x := da) (y := a4) (own_ltN f2.lt) (own_ge_eq qa4))
      have f228 := oArr.ext E13 f227
      have f229 := oArr.ext E20 f228
      have g231 := own_lt_le (x := da) (own_ltN f2.lt) E5.1
      have g232 := own_lt_le (x := da) g231 (Nat.le_of_eq (Wr.size W9).symm)
      have g233 := own_lt_le (x := da) g232 E13.1
      have f230 := oArr.other W24 f229 (own_ne_ge (x := da) (y := a19) g233 (own_ge_eq qa19))
      have f234 := oArr.keep f230 KA (own_nin1 (own_ne_ge (x := da) (y := a12) g232 (own_ge_eq qa12)))
      have f235 := oArr.ext E37 f234
      have f236 := oArr.ext E45 f235
      have f237 := oArr.ext E48 f236
      have g239 := own_lt_le (x := da) g233 E20.1
      have g240 := own_lt_le (x := da) g239 (Nat.le_of_eq (Wr.size W24).symm)
      have g241 := own_lt_le (x := da) g240 KA.1
      have f238 := oArr.keep f237 KM (own_nin1 (own_ne_ge (x := da) (y := a36) g241 (own_ge_eq qa36)))
      have f242 := oArr.ext E62 f238
      have f243 := oArr.keep f242 KB (own_nin1 (own_ne (by omega)))
      have g245 := own_lt_le (x := da) g241 E37.1
      have g246 := own_lt_le (x := da) g245 E45.1
      have g247 := own_lt_le (x := da) g246 E48.1
      have g248 := own_lt_le (x := da) g247 KM.1
      have g249 := own_lt_le (x := da) g248 E62.1
      have f244 := oArr.keep f243 KO0 (own_nin3 (own_ne (by omega)) (own_ne_ge (x := da) (y := pz) g249 gp) (own_ne_ge (x := da) (y := an) g249 ga))
      have f250 := Exa.ext E62 EM
      have f251 := Exa.keep f250 KB
      have f252 := Exa.keep f251 KO0
      refine oGo.invokevirtual (pc' := 168) (k' := 13) (n' := 341) (a := a61) (argsL := [.ref a36]) (rest := []) at_165 rfl (w117 hG) (w118 hG) (w120 hG) (w120 hG) rfl (w119 hG) (w45 hG) (w121 hG) (by decide) pd13 rfl rfl rfl x1E (c_report hG a61 li da a36 _ x1G4 ⟨f222, f223, f224, f225⟩ f244 Sd f252) (by simp) (by decide) (Nat.le_of_ble_eq_true rfl) rfl rfl (by decide) (by decide) ?_
      intro v253 h254 sh254 q255
      obtain ⟨rfl, KR, ER, SR⟩ := q255
      refine ⟨_, fun _ hx => Or.inl hx, ?_⟩
      show oGo l Z a0 EL True pP eE sS mM _ bB tT cC _ _ _ _ _ _ _ _ [pz, an, li, a61, a36, a19, a12, a4] h254 13 341 168 #[.val (.int i0), .val (.int i1), .val (.int i2), .val (.int (1 : Int32)), .val (.int (1 : Int32)), .val (.int z5), .val (.ref a4), .val (.ref a12), .val (.ref a36), .val (.ref a61), .unset, .unset] []
      refine oGo.iload (pc' := 170) at_168 rfl rfl ?_
      rcases hz5 with rfl | rfl
      · show oGo l Z a0 EL True pP eE sS mM _ bB tT cC _ _ _ _ _ _ _ _ [pz, an, li, a61, a36, a19, a12, a4] h254 13 341 170 #[.val (.int i0), .val (.int i1), .val (.int i2), .val (.int (1 : Int32)), .val (.int (1 : Int32)), .val (.int (0 : Int32)), .val (.ref a4), .val (.ref a12), .val (.ref a36), .val (.ref a61), .unset, .unset] [.int (0 : Int32)]
        refine oGo.if_eq (pc1 := 173) (pc2 := 179) at_170 rfl (by decide) (fun q256 => ?_) (fun q => by first | exact absurd q (by decide) | exact absurd (by decide) q)
        refine oGo.aload (pc' := 181) at_179 rfl rfl rfl ?_
        have f257 := Fld.keep x1G3 KR (own_nin1 x1n3)
        have f261 := Exa.keep x1E KR
        refine oGo.invokevirtual (pc' := 184) (k' := 13) (n' := 341) (a := a61) (argsL := []) (rest := []) at_181 rfl (w84 hG) (w85 hG) (w87 hG) (w87 hG) rfl (w86 hG) (w45 hG) (w88 hG) (by decide) pd5 rfl rfl rfl f261 (c_isFull hG a61 1 (by decide) _ f257) (by simp) (by decide) (Nat.le_of_ble_eq_true rfl) rfl rfl (by decide) (by decide) ?_
        intro v258 h259 sh259 q260
        obtain ⟨rfl, ee⟩ := q260
        obtain rfl := ee.symm
        refine ⟨_, fun _ hx => Or.inl hx, ?_⟩
        show oGo l Z a0 EL True pP eE sS mM _ bB tT cC _ _ _ _ _ _ _ _ [pz, an, li, a61, a36, a19, a12, a4] h254 13 341 184 #[.val (.int i0), .val (.int i1), .val (.int i2), .val (.int (1 : Int32)), .val (.int (1 : Int32)), .val (.int (0 : Int32)), .val (.ref a4), .val (.ref a12), .val (.ref a36), .val (.ref a61), .unset, .unset] [.int (0 : Int32)]
        refine oGo.istore (pc' := 186) (Ls' := #[.val (.int i0), .val (.int i1), .val (.int i2), .val (.int (1 : Int32)), .val (.int (1 : Int32)), .val (.int (0 : Int32)), .val (.ref a4), .val (.ref a12), .val (.ref a36), .val (.ref a61), .val (.int (0 : Int32)), .unset]) at_184 rfl rfl ?_
        refine oGo.aload (pc' := 188) at_186 rfl rfl rfl ?_
        have f262 := Fld.keep x1G4 KR (own_nin1 x1n3)
        refine oGo.invokevirtual (pc' := 191) (k' := 13) (n' := 341) (a := a61) (argsL := []) (rest := []) at_188 rfl (w91 hG) (w92 hG) (w94 hG) (w94 hG) rfl (w93 hG) (w45 hG) (w95 hG) (by decide) pd5 rfl rfl rfl f261 (c_isEmpty hG a61 li (Int32.ofNat 1) 1 0 (by decide) _ f257 f262 ER SR) (by simp) (by decide) (Nat.le_of_ble_eq_true rfl) rfl rfl (by decide) (by decide) ?_
        intro v263 h264 sh264 q265
        obtain ⟨rfl, ee⟩ := q265
        obtain rfl := ee.symm
        refine ⟨_, fun _ hx => Or.inl hx, ?_⟩
        show oGo l Z a0 EL True pP eE sS mM _ bB tT cC _ _ _ _ _ _ _ _ [pz, an, li, a61, a36, a19, a12, a4] h254 13 341 191 #[.val (.int i0), .val (.int i1), .val (.int i2), .val (.int (1 : Int32)), .val (.int (1 : Int32)), .val (.int (0 : Int32)), .val (.ref a4), .val (.ref a12), .val (.ref a36), .val (.ref a61), .val (.int (0 : Int32)), .unset] [.int (0 : Int32)]
        refine oGo.istore (pc' := 193) (Ls' := #[.val (.int i0), .val (.int i1), .val (.int i2), .val (.int (1 : Int32)), .val (.int (1 : Int32)), .val (.int (0 : Int32)), .val (.ref a4), .val (.ref a12), .val (.ref a36), .val (.ref a61), .val (.int (0 : Int32)), .val (.int (0 : Int32))]) at_191 rfl rfl ?_
        refine oGo.iload (pc' := 195) at_193 rfl rfl ?_
        refine oGo.if_ne (pc1 := 198) (pc2 := 221) at_195 rfl (by decide) (fun q => by first | exact absurd q (by decide) | exact absurd (by decide) q) (fun q266 => ?_)
        refine oGo.iload (pc' := 200) at_198 rfl rfl ?_
        refine oGo.iload_n (pc' := 201) at_200 rfl rfl ?_
        refine oGo.if_ne (pc1 := 204) (pc2 := 213) at_201 rfl (by decide) (fun q267 => ?_) (fun q => by first | exact absurd q (by decide) | exact absurd (by decide) q)
        refine oGo.iconst (pc' := 214) (v := 0) at_213 rfl (by decide) ?_
        refine oGo.icmp_ne (pc1 := 217) (pc2 := 221) at_214 rfl (by decide) (fun q => by first | exact absurd q (by decide) | exact absurd (by decide) q) (fun q268 => ?_)
        refine oGo.iconst (pc' := 218) (v := 1) at_217 rfl (by decide) ?_
        refine oGo.goto (pc' := 222) at_218 (by decide) ?_
        exact oGo.nreturn at_222 rfl (by simp) rfl (by decide) (by decide) rfl (fun _ q => q.elim)
      · show oGo l Z a0 EL True pP eE sS mM _ bB tT cC _ _ _ _ _ _ _ _ [pz, an, li, a61, a36, a19, a12, a4] h254 13 341 170 #[.val (.int i0), .val (.int i1), .val (.int i2), .val (.int (1 : Int32)), .val (.int (1 : Int32)), .val (.int (1 : Int32)), .val (.ref a4), .val (.ref a12), .val (.ref a36), .val (.ref a61), .unset, .unset] [.int (1 : Int32)]
        refine oGo.if_eq (pc1 := 173) (pc2 := 179) at_170 rfl (by decide) (fun q => by first | exact absurd q (by decide) | exact absurd (by decide) q) (fun q269 => ?_)
        refine oGo.aload (pc' := 175) at_173 rfl rfl rfl ?_
        refine oGo.iload_n (pc' := 176) at_175 rfl rfl ?_
        have f270 := Exa.keep x1E KR
        have f271 := Fld.keep x1G1 KR (own_nin1 x1n3)
        have f272 := Fld.keep x1G2 KR (own_nin1 x1n3)
        have f273 := Fld.keep x1G3 KR (own_nin1 x1n3)
        have f274 := Fld.keep x1G4 KR (own_nin1 x1n3)
        have f275 := x1A1.keep KR (own_nin1 x1n5)
        have f276 := x1A2.keep KR (own_nin1 x1n6)
        have f277 := Fld.keep x1G5 KR (own_nin1 x1n3)
        have f278 := Fld.keep x1G6 KR (own_nin1 x1n3)
        refine oGo.invokevirtual (pc' := 179) (k' := 13) (n' := 341) (a := a61) (argsL := [.int i2]) (rest := []) at_176 rfl (w154 hG) (w155 hG) (w157 hG) (w157 hG) rfl (w156 hG) (w45 hG) (w158 hG) (by decide) pd12 rfl rfl rfl f270 (c_mark hG a61 pz an li 1 i2 _ ⟨⟨⟨x1n1, x1n2, x1n3⟩, x1n4, x1n5, x1n6⟩, f270, f271, f272, f273, f274, f275, f276, ⟨_, f277⟩, ⟨_, f278⟩⟩) (by simp) (by decide) (Nat.le_of_ble_eq_true rfl) rfl rfl (by decide) (by decide) ?_
        intro v279 h280 sh280 q281
        obtain ⟨rfl, KQ, BTQ⟩ := q281
        obtain ⟨⟨⟨xqn1, xqn2, xqn3⟩, xqn4, xqn5, xqn6⟩, xqE, xqG1, xqG2, xqG3, xqG4, xqA1, xqA2, ⟨xqs5, xqG5⟩, ⟨xqs6, xqG6⟩⟩ := BTQ
        have xqlb := own_ltN xqE.lt
        have xqlp := own_ltN xqA1.lt
        have xqla := own_ltN xqA2.lt
        refine ⟨_, fun _ hx => Or.inl hx, ?_⟩
        show oGo l Z a0 EL True pP eE sS mM _ bB tT cC _ _ _ _ _ _ _ _ [pz, an, li, a61, a36, a19, a12, a4] h280 13 341 179 #[.val (.int i0), .val (.int i1), .val (.int i2), .val (.int (1 : Int32)), .val (.int (1 : Int32)), .val (.int (1 : Int32)), .val (.ref a4), .val (.ref a12), .val (.ref a36), .val (.ref a61), .unset, .unset] []
        refine oGo.aload (pc' := 181) at_179 rfl rfl rfl ?_
        refine oGo.invokevirtual (pc' := 184) (k' := 13) (n' := 341) (a := a61) (argsL := []) (rest := []) at_181 rfl (w84 hG) (w85 hG) (w87 hG) (w87 hG) rfl (w86 hG) (w45 hG) (w88 hG) (by decide) pd5 rfl rfl rfl xqE (c_isFull hG a61 1 (by decide) _ xqG3) (by simp) (by decide) (Nat.le_of_ble_eq_true rfl) rfl rfl (by decide) (by decide) ?_
        intro v282 h283 sh283 q284
        obtain ⟨rfl, ee⟩ := q284
        obtain rfl := ee.symm
        refine ⟨_, fun _ hx => Or.inl hx, ?_⟩
        show oGo l Z a0 EL True pP eE sS mM _ bB tT cC _ _ _ _ _ _ _ _ [pz, an, li, a61, a36, a19, a12, a4] h280 13 341 184 #[.val (.int i0), .val (.int i1), .val (.int i2), .val (.int (1 : Int32)), .val (.int (1 : Int32)), .val (.int (1 : Int32)), .val (.ref a4), .val (.ref a12), .val (.ref a36), .val (.ref a61), .unset, .unset] [.int (0 : Int32)]
        refine oGo.istore (pc' := 186) (Ls' := #[.val (.int i0), .val (.int i1), .val (.int i2), .val (.int (1 : Int32)), .val (.int (1 : Int32)), .val (.int (1 : Int32)), .val (.ref a4), .val (.ref a12), .val (.ref a36), .val (.ref a61), .val (.int (0 : Int32)), .unset]) at_184 rfl rfl ?_
        refine oGo.aload (pc' := 188) at_186 rfl rfl rfl ?_
        have f285 := Exa.keep ER KQ
        have f286 := Fld.keep SR KQ (own_nin1 (Ne.symm xqn3))
        refine oGo.invokevirtual (pc' := 191) (k' := 13) (n' := 341) (a := a61) (argsL := []) (rest := []) at_188 rfl (w91 hG) (w92 hG) (w94 hG) (w94 hG) rfl (w93 hG) (w45 hG) (w95 hG) (by decide) pd5 rfl rfl rfl xqE (c_isEmpty hG a61 li (Int32.ofNat 1) 1 0 (by decide) _ xqG3 xqG4 f285 f286) (by simp) (by decide) (Nat.le_of_ble_eq_true rfl) rfl rfl (by decide) (by decide) ?_
        intro v287 h288 sh288 q289
        obtain ⟨rfl, ee⟩ := q289
        obtain rfl := ee.symm
        refine ⟨_, fun _ hx => Or.inl hx, ?_⟩
        show oGo l Z a0 EL True pP eE sS mM _ bB tT cC _ _ _ _ _ _ _ _ [pz, an, li, a61, a36, a19, a12, a4] h280 13 341 191 #[.val (.int i0), .val (.int i1), .val (.int i2), .val (.int (1 : Int32)), .val (.int (1 : Int32)), .val (.int (1 : Int32)), .val (.ref a4), .val (.ref a12), .val (.ref a36), .val (.ref a61), .val (.int (0 : Int32)), .unset] [.int (0 : Int32)]
        refine oGo.istore (pc' := 193) (Ls' := #[.val (.int i0), .val (.int i1), .val (.int i2), .val (.int (1 : Int32)), .val (.int (1 : Int32)), .val (.int (1 : Int32)), .val (.ref a4), .val (.ref a12), .val (.ref a36), .val (.ref a61), .val (.int (0 : Int32)), .val (.int (0 : Int32))]) at_191 rfl rfl ?_
        refine oGo.iload (pc' := 195) at_193 rfl rfl ?_
        refine oGo.if_ne (pc1 := 198) (pc2 := 221) at_195 rfl (by decide) (fun q => by first | exact absurd q (by decide) | exact absurd (by decide) q) (fun q290 => ?_)
        refine oGo.iload (pc' := 200) at_198 rfl rfl ?_
        refine oGo.iload_n (pc' := 201) at_200 rfl rfl ?_
        refine oGo.if_ne (pc1 := 204) (pc2 := 213) at_201 rfl (by decide) (fun q291 => ?_) (fun q => by first | exact absurd q (by decide) | exact absurd (by decide) q)
        refine oGo.iconst (pc' := 214) (v := 0) at_213 rfl (by decide) ?_
        refine oGo.icmp_ne (pc1 := 217) (pc2 := 221) at_214 rfl (by decide) (fun q => by first | exact absurd q (by decide) | exact absurd (by decide) q) (fun q292 => ?_)
        refine oGo.iconst (pc' := 218) (v := 1) at_217 rfl (by decide) ?_
        refine oGo.goto (pc' := 222) at_218 (by decide) ?_
        exact oGo.nreturn at_222 rfl (by simp) rfl (by decide) (by decide) rfl (fun _ q => q.elim)
  · show oGo l Z a0 EL True pP eE sS mM _ bB tT cC _ _ _ _ _ _ _ _ [pz, an, li, a61, a36, a19, a12, a4] h72 12 331 83 #[.val (.int i0), .val (.int i1), .val (.int i2), .val (.int (2 : Int32)), .val (.int z4), .val (.int z5), .val (.ref a4), .val (.ref a12), .val (.ref a36), .val (.ref a61), .unset, .unset] [.int (2 : Int32)]
    refine oGo.if_le (pc1 := 86) (pc2 := 106) at_83 rfl (by decide) (fun q => by first | exact absurd q (by decide) | exact absurd (by decide) q) (fun q293 => ?_)
    refine oGo.aload (pc' := 88) at_86 rfl rfl rfl ?_
    refine oGo.iload_n (pc' := 89) at_88 rfl rfl ?_
    refine oGo.iconst (pc' := 90) (v := 1) at_89 rfl (by decide) ?_
    refine oGo.iand (pc' := 91) at_90 rfl ?_
    refine oGo.boolz (pc' := 99) at_91 at_94 at_95 at_98 rfl ?_
    intro y0 hy0
    refine oGo.aload (pc' := 101) at_99 rfl rfl rfl ?_
    refine oGo.aload (pc' := 103) at_101 rfl rfl rfl ?_
    have f294 := Exa.wr W9 X7
    have f295 := Exa.ext E13 f294
    have f296 := Exa.ext E20 f295
    have f297 := Exa.wr W24 f296
    have f298 := Exa.keep f297 KA
    have f299 := Exa.ext E37 f298
    have f300 := Exa.ext E45 f299
    have f301 := Exa.ext E48 f300
    have f302 := Exa.keep f301 KM
    have f303 := Exa.ext E62 f302
    have f304 := Exa.keep f303 KB
    have f305 := Exa.ext E37 EA
    have f306 := Exa.ext E45 f305
    have f307 := Exa.ext E48 f306
    have f308 := Exa.keep f307 KM
    have f309 := Exa.ext E62 f308
    have f310 := Exa.keep f309 KB
    refine oGo.invokestatic (pc' := 106) (k' := 12) (n' := 331) (argsL := [.ref a61, .int y0, .ref a4, .ref a12]) (rest := []) at_103 rfl (w107 hG) (w108 hG) (w109 hG) (w110 hG) (by decide) pd14 rfl rfl rfl (c_addOne hG a61 pz an li a4 a12 0 y0 (by decide) _ ⟨⟨⟨x0n1, x0n2, x0n3⟩, x0n4, x0n5, x0n6⟩, x0E, x0G1, x0G2, x0G3, x0G4, x0A1, x0A2, ⟨_, x0G5⟩, ⟨_, x0G6⟩⟩ f304 f310) (by simp) (by decide) (Nat.le_of_ble_eq_true rfl) rfl rfl (by decide) (by decide) ?_
    intro v311 h312 sh312 q313
    obtain ⟨rfl, KO0, BT1⟩ := q313
    obtain ⟨⟨⟨x1n1, x1n2, x1n3⟩, x1n4, x1n5, x1n6⟩, x1E, x1G1, x1G2, x1G3, x1G4, x1A1, x1A2, ⟨x1s5, x1G5⟩, ⟨x1s6, x1G6⟩⟩ := BT1
    have x1lb := own_ltN x1E.lt
    have x1lp := own_ltN x1A1.lt
    have x1la := own_ltN x1A2.lt
    refine ⟨_, fun _ hx => Or.inl hx, ?_⟩
    show oGo l Z a0 EL True pP eE sS mM _ bB tT cC _ _ _ _ _ _ _ _ [pz, an, li, a61, a36, a19, a12, a4] h312 12 331 106 #[.val (.int i0), .val (.int i1), .val (.int i2), .val (.int (2 : Int32)), .val (.int z4), .val (.int z5), .val (.ref a4), .val (.ref a12), .val (.ref a36), .val (.ref a61), .unset, .unset] []
    refine oGo.iload_n (pc' := 107) at_106 rfl rfl ?_
    refine oGo.iconst (pc' := 108) (v := 1) at_107 rfl (by decide) ?_
    refine oGo.icmp_le (pc1 := 111) (pc2 := 131) at_108 rfl (by decide) (fun q => by first | exact absurd q (by decide) | exact absurd (by decide) q) (fun q314 => ?_)
    refine oGo.aload (pc' := 113) at_111 rfl rfl rfl ?_
    refine oGo.iload_n (pc' := 114) at_113 rfl rfl ?_
    refine oGo.iconst (pc' := 115) (v := 2) at_114 rfl (by decide) ?_
    refine oGo.iand (pc' := 116) at_115 rfl ?_
    refine oGo.boolz (pc' := 124) at_116 at_119 at_120 at_123 rfl ?_
    intro y1 hy1
    refine oGo.aload (pc' := 126) at_124 rfl rfl rfl ?_
    refine oGo.aload (pc' := 128) at_126 rfl rfl rfl ?_
    have f315 := Exa.keep f304 KO0
    have f316 := Exa.keep f310 KO0
    refine oGo.invokestatic (pc' := 131) (k' := 12) (n' := 331) (argsL := [.ref a61, .int y1, .ref a4, .ref a12]) (rest := []) at_128 rfl (w107 hG) (w108 hG) (w109 hG) (w110 hG) (by decide) pd14 rfl rfl rfl (c_addOne hG a61 pz an li a4 a12 1 y1 (by decide) _ ⟨⟨⟨x1n1, x1n2, x1n3⟩, x1n4, x1n5, x1n6⟩, x1E, x1G1, x1G2, x1G3, x1G4, x1A1, x1A2, ⟨_, x1G5⟩, ⟨_, x1G6⟩⟩ f315 f316) (by simp) (by decide) (Nat.le_of_ble_eq_true rfl) rfl rfl (by decide) (by decide) ?_
    intro v317 h318 sh318 q319
    obtain ⟨rfl, KO1, BT2⟩ := q319
    obtain ⟨⟨⟨x2n1, x2n2, x2n3⟩, x2n4, x2n5, x2n6⟩, x2E, x2G1, x2G2, x2G3, x2G4, x2A1, x2A2, ⟨x2s5, x2G5⟩, ⟨x2s6, x2G6⟩⟩ := BT2
    have x2lb := own_ltN x2E.lt
    have x2lp := own_ltN x2A1.lt
    have x2la := own_ltN x2A2.lt
    refine ⟨_, fun _ hx => Or.inl hx, ?_⟩
    show oGo l Z a0 EL True pP eE sS mM _ bB tT cC _ _ _ _ _ _ _ _ [pz, an, li, a61, a36, a19, a12, a4] h318 12 331 131 #[.val (.int i0), .val (.int i1), .val (.int i2), .val (.int (2 : Int32)), .val (.int z4), .val (.int z5), .val (.ref a4), .val (.ref a12), .val (.ref a36), .val (.ref a61), .unset, .unset] []
    refine oGo.iload_n (pc' := 132) at_131 rfl rfl ?_
    refine oGo.iconst (pc' := 133) (v := 2) at_132 rfl (by decide) ?_
    refine oGo.icmp_le (pc1 := 136) (pc2 := 156) at_133 rfl (by decide) (fun q320 => ?_) (fun q => by first | exact absurd q (by decide) | exact absurd (by decide) q)
    refine oGo.iload (pc' := 158) at_156 rfl rfl ?_
    rcases hz4 with rfl | rfl
    · show oGo l Z a0 EL True pP eE sS mM _ bB tT cC _ _ _ _ _ _ _ _ [pz, an, li, a61, a36, a19, a12, a4] h318 12 331 158 #[.val (.int i0), .val (.int i1), .val (.int i2), .val (.int (2 : Int32)), .val (.int (0 : Int32)), .val (.int z5), .val (.ref a4), .val (.ref a12), .val (.ref a36), .val (.ref a61), .unset, .unset] [.int (0 : Int32)]
      refine oGo.if_eq (pc1 := 161) (pc2 := 168) at_158 rfl (by decide) (fun q321 => ?_) (fun q => by first | exact absurd q (by decide) | exact absurd (by decide) q)
      refine oGo.iload (pc' := 170) at_168 rfl rfl ?_
      rcases hz5 with rfl | rfl
      · show oGo l Z a0 EL True pP eE sS mM _ bB tT cC _ _ _ _ _ _ _ _ [pz, an, li, a61, a36, a19, a12, a4] h318 12 331 170 #[.val (.int i0), .val (.int i1), .val (.int i2), .val (.int (2 : Int32)), .val (.int (0 : Int32)), .val (.int (0 : Int32)), .val (.ref a4), .val (.ref a12), .val (.ref a36), .val (.ref a61), .unset, .unset] [.int (0 : Int32)]
        refine oGo.if_eq (pc1 := 173) (pc2 := 179) at_170 rfl (by decide) (fun q322 => ?_) (fun q => by first | exact absurd q (by decide) | exact absurd (by decide) q)
        refine oGo.aload (pc' := 181) at_179 rfl rfl rfl ?_
        refine oGo.invokevirtual (pc' := 184) (k' := 12) (n' := 331) (a := a61) (argsL := []) (rest := []) at_181 rfl (w84 hG) (w85 hG) (w87 hG) (w87 hG) rfl (w86 hG) (w45 hG) (w88 hG) (by decide) pd5 rfl rfl rfl x2E (c_isFull hG a61 2 (by decide) _ x2G3) (by simp) (by decide) (Nat.le_of_ble_eq_true rfl) rfl rfl (by decide) (by decide) ?_
        intro v323 h324 sh324 q325
        obtain ⟨rfl, ee⟩ := q325
        obtain rfl := ee.symm
        refine ⟨_, fun _ hx => Or.inl hx, ?_⟩
        show oGo l Z a0 EL True pP eE sS mM _ bB tT cC _ _ _ _ _ _ _ _ [pz, an, li, a61, a36, a19, a12, a4] h318 12 331 184 #[.val (.int i0), .val (.int i1), .val (.int i2), .val (.int (2 : Int32)), .val (.int (0 : Int32)), .val (.int (0 : Int32)), .val (.ref a4), .val (.ref a12), .val (.ref a36), .val (.ref a61), .unset, .unset] [.int (0 : Int32)]
        refine oGo.istore (pc' := 186) (Ls' := #[.val (.int i0), .val (.int i1), .val (.int i2), .val (.int (2 : Int32)), .val (.int (0 : Int32)), .val (.int (0 : Int32)), .val (.ref a4), .val (.ref a12), .val (.ref a36), .val (.ref a61), .val (.int (0 : Int32)), .unset]) at_184 rfl rfl ?_
        refine oGo.aload (pc' := 188) at_186 rfl rfl rfl ?_
        have f326 := Exa.keep L0.1 KO0
        have f327 := Exa.keep f326 KO1
        have f328 := Fld.keep L0.2.2.2 KO0 (own_nin3 (Ne.symm x2n3) (Ne.symm x2n5) (Ne.symm x2n6))
        have f329 := Fld.keep f328 KO1 (own_nin3 (Ne.symm x2n3) (Ne.symm x2n5) (Ne.symm x2n6))
        refine oGo.invokevirtual (pc' := 191) (k' := 12) (n' := 331) (a := a61) (argsL := []) (rest := []) at_188 rfl (w91 hG) (w92 hG) (w94 hG) (w94 hG) rfl (w93 hG) (w45 hG) (w95 hG) (by decide) pd5 rfl rfl rfl x2E (c_isEmpty hG a61 li (Int32.ofNat 2) 0 0 (by decide) _ x2G3 x2G4 f327 f329) (by simp) (by decide) (Nat.le_of_ble_eq_true rfl) rfl rfl (by decide) (by decide) ?_
        intro v330 h331 sh331 q332
        obtain ⟨rfl, ee⟩ := q332
        obtain rfl := ee.symm
        refine ⟨_, fun _ hx => Or.inl hx, ?_⟩
        show oGo l Z a0 EL True pP eE sS mM _ bB tT cC _ _ _ _ _ _ _ _ [pz, an, li, a61, a36, a19, a12, a4] h318 12 331 191 #[.val (.int i0), .val (.int i1), .val (.int i2), .val (.int (2 : Int32)), .val (.int (0 : Int32)), .val (.int (0 : Int32)), .val (.ref a4), .val (.ref a12), .val (.ref a36), .val (.ref a61), .val (.int (0 : Int32)), .unset] [.int (0 : Int32)]
        refine oGo.istore (pc' := 193) (Ls' := #[.val (.int i0), .val (.int i1), .val (.int i2), .val (.int (2 : Int32)), .val (.int (0 : Int32)), .val (.int (0 : Int32)), .val (.ref a4), .val (.ref a12), .val (.ref a36), .val (.ref a61), .val (.int (0 : Int32)), .val (.int (0 : Int32))]) at_191 rfl rfl ?_
        refine oGo.iload (pc' := 195) at_193 rfl rfl ?_
        refine oGo.if_ne (pc1 := 198) (pc2 := 221) at_195 rfl (by decide) (fun q => by first | exact absurd q (by decide) | exact absurd (by decide) q) (fun q333 => ?_)
        refine oGo.iload (pc' := 200) at_198 rfl rfl ?_
        refine oGo.iload_n (pc' := 201) at_200 rfl rfl ?_
        refine oGo.if_ne (pc1 := 204) (pc2 := 213) at_201 rfl (by decide) (fun q334 => ?_) (fun q => by first | exact absurd q (by decide) | exact absurd (by decide) q)
        refine oGo.iconst (pc' := 214) (v := 0) at_213 rfl (by decide) ?_
        refine oGo.icmp_ne (pc1 := 217) (pc2 := 221) at_214 rfl (by decide) (fun q => by first | exact absurd q (by decide) | exact absurd (by decide) q) (fun q335 => ?_)
        refine oGo.iconst (pc' := 218) (v := 1) at_217 rfl (by decide) ?_
        refine oGo.goto (pc' := 222) at_218 (by decide) ?_
        exact oGo.nreturn at_222 rfl (by simp) rfl (by decide) (by decide) rfl (fun _ q => q.elim)
      · show oGo l Z a0 EL True pP eE sS mM _ bB tT cC _ _ _ _ _ _ _ _ [pz, an, li, a61, a36, a19, a12, a4] h318 12 331 170 #[.val (.int i0), .val (.int i1), .val (.int i2), .val (.int (2 : Int32)), .val (.int (0 : Int32)), .val (.int (1 : Int32)), .val (.ref a4), .val (.ref a12), .val (.ref a36), .val (.ref a61), .unset, .unset] [.int (1 : Int32)]
        refine oGo.if_eq (pc1 := 173) (pc2 := 179) at_170 rfl (by decide) (fun q => by first | exact absurd q (by decide) | exact absurd (by decide) q) (fun q336 => ?_)
        refine oGo.aload (pc' := 175) at_173 rfl rfl rfl ?_
        refine oGo.iload_n (pc' := 176) at_175 rfl rfl ?_
        refine oGo.invokevirtual (pc' := 179) (k' := 12) (n' := 331) (a := a61) (argsL := [.int i2]) (rest := []) at_176 rfl (w154 hG) (w155 hG) (w157 hG) (w157 hG) rfl (w156 hG) (w45 hG) (w158 hG) (by decide) pd12 rfl rfl rfl x2E (c_mark hG a61 pz an li 2 i2 _ ⟨⟨⟨x2n1, x2n2, x2n3⟩, x2n4, x2n5, x2n6⟩, x2E, x2G1, x2G2, x2G3, x2G4, x2A1, x2A2, ⟨_, x2G5⟩, ⟨_, x2G6⟩⟩) (by simp) (by decide) (Nat.le_of_ble_eq_true rfl) rfl rfl (by decide) (by decide) ?_
        intro v337 h338 sh338 q339
        obtain ⟨rfl, KQ, BTQ⟩ := q339
        obtain ⟨⟨⟨xqn1, xqn2, xqn3⟩, xqn4, xqn5, xqn6⟩, xqE, xqG1, xqG2, xqG3, xqG4, xqA1, xqA2, ⟨xqs5, xqG5⟩, ⟨xqs6, xqG6⟩⟩ := BTQ
        have xqlb := own_ltN xqE.lt
        have xqlp := own_ltN xqA1.lt
        have xqla := own_ltN xqA2.lt
        refine ⟨_, fun _ hx => Or.inl hx, ?_⟩
        show oGo l Z a0 EL True pP eE sS mM _ bB tT cC _ _ _ _ _ _ _ _ [pz, an, li, a61, a36, a19, a12, a4] h338 12 331 179 #[.val (.int i0), .val (.int i1), .val (.int i2), .val (.int (2 : Int32)), .val (.int (0 : Int32)), .val (.int (1 : Int32)), .val (.ref a4), .val (.ref a12), .val (.ref a36), .val (.ref a61), .unset, .unset] []
        refine oGo.aload (pc' := 181) at_179 rfl rfl rfl ?_
        refine oGo.invokevirtual (pc' := 184) (k' := 12) (n' := 331) (a := a61) (argsL := []) (rest := []) at_181 rfl (w84 hG) (w85 hG) (w87 hG) (w87 hG) rfl (w86 hG) (w45 hG) (w88 hG) (by decide) pd5 rfl rfl rfl xqE (c_isFull hG a61 2 (by decide) _ xqG3) (by simp) (by decide) (Nat.le_of_ble_eq_true rfl) rfl rfl (by decide) (by decide) ?_
        intro v340 h341 sh341 q342
        obtain ⟨rfl, ee⟩ := q342
        obtain rfl := ee.symm
        refine ⟨_, fun _ hx => Or.inl hx, ?_⟩
        show oGo l Z a0 EL True pP eE sS mM _ bB tT cC _ _ _ _ _ _ _ _ [pz, an, li, a61, a36, a19, a12, a4] h338 12 331 184 #[.val (.int i0), .val (.int i1), .val (.int i2), .val (.int (2 : Int32)), .val (.int (0 : Int32)), .val (.int (1 : Int32)), .val (.ref a4), .val (.ref a12), .val (.ref a36), .val (.ref a61), .unset, .unset] [.int (0 : Int32)]
        refine oGo.istore (pc' := 186) (Ls' := #[.val (.int i0), .val (.int i1), .val (.int i2), .val (.int (2 : Int32)), .val (.int (0 : Int32)), .val (.int (1 : Int32)), .val (.ref a4), .val (.ref a12), .val (.ref a36), .val (.ref a61), .val (.int (0 : Int32)), .unset]) at_184 rfl rfl ?_
        refine oGo.aload (pc' := 188) at_186 rfl rfl rfl ?_
        have f343 := Exa.keep L0.1 KO0
        have f344 := Exa.keep f343 KO1
        have f345 := Exa.keep f344 KQ
        have f346 := Fld.keep L0.2.2.2 KO0 (own_nin3 (Ne.symm xqn3) (Ne.symm xqn5) (Ne.symm xqn6))
        have f347 := Fld.keep f346 KO1 (own_nin3 (Ne.symm xqn3) (Ne.symm xqn5) (Ne.symm xqn6))
        have f348 := Fld.keep f347 KQ (own_nin1 (Ne.symm xqn3))
        refine oGo.invokevirtual (pc' := 191) (k' := 12) (n' := 331) (a := a61) (argsL := []) (rest := []) at_188 rfl (w91 hG) (w92 hG) (w94 hG) (w94 hG) rfl (w93 hG) (w45 hG) (w95 hG) (by decide) pd5 rfl rfl rfl xqE (c_isEmpty hG a61 li (Int32.ofNat 2) 0 0 (by decide) _ xqG3 xqG4 f345 f348) (by simp) (by decide) (Nat.le_of_ble_eq_true rfl) rfl rfl (by decide) (by decide) ?_
        intro v349 h350 sh350 q351
        obtain ⟨rfl, ee⟩ := q351
        obtain rfl := ee.symm
        refine ⟨_, fun _ hx => Or.inl hx, ?_⟩
        show oGo l Z a0 EL True pP eE sS mM _ bB tT cC _ _ _ _ _ _ _ _ [pz, an, li, a61, a36, a19, a12, a4] h338 12 331 191 #[.val (.int i0), .val (.int i1), .val (.int i2), .val (.int (2 : Int32)), .val (.int (0 : Int32)), .val (.int (1 : Int32)), .val (.ref a4), .val (.ref a12), .val (.ref a36), .val (.ref a61), .val (.int (0 : Int32)), .unset] [.int (0 : Int32)]
        refine oGo.istore (pc' := 193) (Ls' := #[.val (.int i0), .val (.int i1), .val (.int i2), .val (.int (2 : Int32)), .val (.int (0 : Int32)), .val (.int (1 : Int32)), .val (.ref a4), .val (.ref a12), .val (.ref a36), .val (.ref a61), .val (.int (0 : Int32)), .val (.int (0 : Int32))]) at_191 rfl rfl ?_
        refine oGo.iload (pc' := 195) at_193 rfl rfl ?_
        refine oGo.if_ne (pc1 := 198) (pc2 := 221) at_195 rfl (by decide) (fun q => by first | exact absurd q (by decide) | exact absurd (by decide) q) (fun q352 => ?_)
        refine oGo.iload (pc' := 200) at_198 rfl rfl ?_
        refine oGo.iload_n (pc' := 201) at_200 rfl rfl ?_
        refine oGo.if_ne (pc1 := 204) (pc2 := 213) at_201 rfl (by decide) (fun q353 => ?_) (fun q => by first | exact absurd q (by decide) | exact absurd (by decide) q)
        refine oGo.iconst (pc' := 214) (v := 0) at_213 rfl (by decide) ?_
        refine oGo.icmp_ne (pc1 := 217) (pc2 := 221) at_214 rfl (by decide) (fun q => by first | exact absurd q (by decide) | exact absurd (by decide) q) (fun q354 => ?_)
        refine oGo.iconst (pc' := 218) (v := 1) at_217 rfl (by decide) ?_
        refine oGo.goto (pc' := 222) at_218 (by decide) ?_
        exact oGo.nreturn at_222 rfl (by simp) rfl (by decide) (by decide) rfl (fun _ q => q.elim)
    · show oGo l Z a0 EL True pP eE sS mM _ bB tT cC _ _ _ _ _ _ _ _ [pz, an, li, a61, a36, a19, a12, a4] h318 12 331 158 #[.val (.int i0), .val (.int i1), .val (.int i2), .val (.int (2 : Int32)), .val (.int (1 : Int32)), .val (.int z5), .val (.ref a4), .val (.ref a12), .val (.ref a36), .val (.ref a61), .unset, .unset] [.int (1 : Int32)]
      refine oGo.if_eq (pc1 := 161) (pc2 := 168) at_158 rfl (by decide) (fun q => by first | exact absurd q (by decide) | exact absurd (by decide) q) (fun q355 => ?_)
      refine oGo.aload (pc' := 163) at_161 rfl rfl rfl ?_
      refine oGo.aload (pc' := 165) at_163 rfl rfl rfl ?_
      have f356 := Exa.keep L0.1 KO0
      have f357 := Exa.keep f356 KO1
      have f358 := Fld.keep L0.2.1 KO0 (own_nin3 (Ne.symm x2n3) (Ne.symm x2n5) (Ne.symm x2n6))
      have f359 := Fld.keep f358 KO1 (own_nin3 (Ne.symm x2n3) (Ne.symm x2n5) (Ne.symm x2n6))
      have f360 := Fld.keep L0.2.2.1 KO0 (own_nin3 (Ne.symm x2n3) (Ne.symm x2n5) (Ne.symm x2n6))
      have f361 := Fld.keep f360 KO1 (own_nin3 (Ne.symm x2n3) (Ne.symm x2n5) (Ne.symm x2n6))
      have f362 := Fld.keep L0.2.2.2 KO0 (own_nin3 (Ne.symm x2n3) (Ne.symm x2n5) (Ne.symm x2n6))
      have f363 := Fld.keep f362 KO1 (own_nin3 (Ne.symm x2n3) (Ne.symm x2n5) (Ne.symm x2n6))
      have f364 := oArr.ext E5 f2
      have f365 := oArr.other W9 f364 (own_ne_ge (x := da) (y := a4) (own_ltN f2.lt) (own_ge_eq qa4))
      have f366 := oArr.ext E13 f365
      have f367 := oArr.ext E20 f366
      have g369 := own_lt_le (x := da) (own_ltN f2.lt) E5.1
      have g370 := own_lt_le (x := da) g369 (Nat.le_of_eq (Wr.size W9).symm)
      have g371 := own_lt_le (x := da) g370 E13.1
      have f368 := oArr.other W24 f367 (own_ne_ge (x := da) (y := a19) g371 (own_ge_eq qa19))
      have f372 := oArr.keep f368 KA (own_nin1 (own_ne_ge (x := da) (y := a12) g370 (own_ge_eq qa12)))
      have f373 := oArr.ext E37 f372
      have f374 := oArr.ext E45 f373
      have f375 := oArr.ext E48 f374
      have g377 := own_lt_le (x := da) g371 E20.1
      have g378 := own_lt_le (x := da) g377 (Nat.le_of_eq (Wr.size W24).symm)
      have g379 := own_lt_le (x := da) g378 KA.1
      have f376 := oArr.keep f375 KM (own_nin1 (own_ne_ge (x := da) (y := a36) g379 (own_ge_eq qa36)))
      have f380 := oArr.ext E62 f376
      have f381 := oArr.keep f380 KB (own_nin1 (own_ne (by omega)))
      have g383 := own_lt_le (x := da) g379 E37.1
      have g384 := own_lt_le (x := da) g383 E45.1
      have g385 := own_lt_le (x := da) g384 E48.1
      have g386 := own_lt_le (x := da) g385 KM.1
      have g387 := own_lt_le (x := da) g386 E62.1
      have f382 := oArr.keep f381 KO0 (own_nin3 (own_ne (by omega)) (own_ne_ge (x := da) (y := pz) g387 gp) (own_ne_ge (x := da) (y := an) g387 ga))
      have f388 := oArr.keep f382 KO1 (own_nin3 (own_ne (by omega)) (own_ne_ge (x := da) (y := pz) g387 gp) (own_ne_ge (x := da) (y := an) g387 ga))
      have f389 := Exa.ext E62 EM
      have f390 := Exa.keep f389 KB
      have f391 := Exa.keep f390 KO0
      have f392 := Exa.keep f391 KO1
      refine oGo.invokevirtual (pc' := 168) (k' := 13) (n' := 341) (a := a61) (argsL := [.ref a36]) (rest := []) at_165 rfl (w117 hG) (w118 hG) (w120 hG) (w120 hG) rfl (w119 hG) (w45 hG) (w121 hG) (by decide) pd13 rfl rfl rfl x2E (c_report hG a61 li da a36 _ x2G4 ⟨f357, f359, f361, f363⟩ f388 Sd f392) (by simp) (by decide) (Nat.le_of_ble_eq_true rfl) rfl rfl (by decide) (by decide) ?_
      intro v393 h394 sh394 q395
      obtain ⟨rfl, KR, ER, SR⟩ := q395
      refine ⟨_, fun _ hx => Or.inl hx, ?_⟩
      show oGo l Z a0 EL True pP eE sS mM _ bB tT cC _ _ _ _ _ _ _ _ [pz, an, li, a61, a36, a19, a12, a4] h394 13 341 168 #[.val (.int i0), .val (.int i1), .val (.int i2), .val (.int (2 : Int32)), .val (.int (1 : Int32)), .val (.int z5), .val (.ref a4), .val (.ref a12), .val (.ref a36), .val (.ref a61), .unset, .unset] []
      refine oGo.iload (pc' := 170) at_168 rfl rfl ?_
      rcases hz5 with rfl | rfl
      · show oGo l Z a0 EL True pP eE sS mM _ bB tT cC _ _ _ _ _ _ _ _ [pz, an, li, a61, a36, a19, a12, a4] h394 13 341 170 #[.val (.int i0), .val (.int i1), .val (.int i2), .val (.int (2 : Int32)), .val (.int (1 : Int32)), .val (.int (0 : Int32)), .val (.ref a4), .val (.ref a12), .val (.ref a36), .val (.ref a61), .unset, .unset] [.int (0 : Int32)]
        refine oGo.if_eq (pc1 := 173) (pc2 := 179) at_170 rfl (by decide) (fun q396 => ?_) (fun q => by first | exact absurd q (by decide) | exact absurd (by decide) q)
        refine oGo.aload (pc' := 181) at_179 rfl rfl rfl ?_
        have f397 := Fld.keep x2G3 KR (own_nin1 x2n3)
        have f401 := Exa.keep x2E KR
        refine oGo.invokevirtual (pc' := 184) (k' := 13) (n' := 341) (a := a61) (argsL := []) (rest := []) at_181 rfl (w84 hG) (w85 hG) (w87 hG) (w87 hG) rfl (w86 hG) (w45 hG) (w88 hG) (by decide) pd5 rfl rfl rfl f401 (c_isFull hG a61 2 (by decide) _ f397) (by simp) (by decide) (Nat.le_of_ble_eq_true rfl) rfl rfl (by decide) (by decide) ?_
        intro v398 h399 sh399 q400
        obtain ⟨rfl, ee⟩ := q400
        obtain rfl := ee.symm
        refine ⟨_, fun _ hx => Or.inl hx, ?_⟩
        show oGo l Z a0 EL True pP eE sS mM _ bB tT cC _ _ _ _ _ _ _ _ [pz, an, li, a61, a36, a19, a12, a4] h394 13 341 184 #[.val (.int i0), .val (.int i1), .val (.int i2), .val (.int (2 : Int32)), .val (.int (1 : Int32)), .val (.int (0 : Int32)), .val (.ref a4), .val (.ref a12), .val (.ref a36), .val (.ref a61), .unset, .unset] [.int (0 : Int32)]
        refine oGo.istore (pc' := 186) (Ls' := #[.val (.int i0), .val (.int i1), .val (.int i2), .val (.int (2 : Int32)), .val (.int (1 : Int32)), .val (.int (0 : Int32)), .val (.ref a4), .val (.ref a12), .val (.ref a36), .val (.ref a61), .val (.int (0 : Int32)), .unset]) at_184 rfl rfl ?_
        refine oGo.aload (pc' := 188) at_186 rfl rfl rfl ?_
        have f402 := Fld.keep x2G4 KR (own_nin1 x2n3)
        refine oGo.invokevirtual (pc' := 191) (k' := 13) (n' := 341) (a := a61) (argsL := []) (rest := []) at_188 rfl (w91 hG) (w92 hG) (w94 hG) (w94 hG) rfl (w93 hG) (w45 hG) (w95 hG) (by decide) pd5 rfl rfl rfl f401 (c_isEmpty hG a61 li (Int32.ofNat 2) 1 0 (by decide) _ f397 f402 ER SR) (by simp) (by decide) (Nat.le_of_ble_eq_true rfl) rfl rfl (by decide) (by decide) ?_
        intro v403 h404 sh404 q405
        obtain ⟨rfl, ee⟩ := q405
        obtain rfl := ee.symm
        refine ⟨_, fun _ hx => Or.inl hx, ?_⟩
        show oGo l Z a0 EL True pP eE sS mM _ bB tT cC _ _ _ _ _ _ _ _ [pz, an, li, a61, a36, a19, a12, a4] h394 13 341 191 #[.val (.int i0), .val (.int i1), .val (.int i2), .val (.int (2 : Int32)), .val (.int (1 : Int32)), .val (.int (0 : Int32)), .val (.ref a4), .val (.ref a12), .val (.ref a36), .val (.ref a61), .val (.int (0 : Int32)), .unset] [.int (0 : Int32)]
        refine oGo.istore (pc' := 193) (Ls' := #[.val (.int i0), .val (.int i1), .val (.int i2), .val (.int (2 : Int32)), .val (.int (1 : Int32)), .val (.int (0 : Int32)), .val (.ref a4), .val (.ref a12), .val (.ref a36), .val (.ref a61), .val (.int (0 : Int32)), .val (.int (0 : Int32))]) at_191 rfl rfl ?_
        refine oGo.iload (pc' := 195) at_193 rfl rfl ?_
        refine oGo.if_ne (pc1 := 198) (pc2 := 221) at_195 rfl (by decide) (fun q => by first | exact absurd q (by decide) | exact absurd (by decide) q) (fun q406 => ?_)
        refine oGo.iload (pc' := 200) at_198 rfl rfl ?_
        refine oGo.iload_n (pc' := 201) at_200 rfl rfl ?_
        refine oGo.if_ne (pc1 := 204) (pc2 := 213) at_201 rfl (by decide) (fun q407 => ?_) (fun q => by first | exact absurd q (by decide) | exact absurd (by decide) q)
        refine oGo.iconst (pc' := 214) (v := 0) at_213 rfl (by decide) ?_
        refine oGo.icmp_ne (pc1 := 217) (pc2 := 221) at_214 rfl (by decide) (fun q => by first | exact absurd q (by decide) | exact absurd (by decide) q) (fun q408 => ?_)
        refine oGo.iconst (pc' := 218) (v := 1) at_217 rfl (by decide) ?_
        refine oGo.goto (pc' := 222) at_218 (by decide) ?_
        exact oGo.nreturn at_222 rfl (by simp) rfl (by decide) (by decide) rfl (fun _ q => q.elim)
      · show oGo l Z a0 EL True pP eE sS mM _ bB tT cC _ _ _ _ _ _ _ _ [pz, an, li, a61, a36, a19, a12, a4] h394 13 341 170 #[.val (.int i0), .val (.int i1), .val (.int i2), .val (.int (2 : Int32)), .val (.int (1 : Int32)), .val (.int (1 : Int32)), .val (.ref a4), .val (.ref a12), .val (.ref a36), .val (.ref a61), .unset, .unset] [.int (1 : Int32)]
        refine oGo.if_eq (pc1 := 173) (pc2 := 179) at_170 rfl (by decide) (fun q => by first | exact absurd q (by decide) | exact absurd (by decide) q) (fun q409 => ?_)
        refine oGo.aload (pc' := 175) at_173 rfl rfl rfl ?_
        refine oGo.iload_n (pc' := 176) at_175 rfl rfl ?_
        have f410 := Exa.keep x2E KR
        have f411 := Fld.keep x2G1 KR (own_nin1 x2n3)
        have f412 := Fld.keep x2G2 KR (own_nin1 x2n3)
        have f413 := Fld.keep x2G3 KR (own_nin1 x2n3)
        have f414 := Fld.keep x2G4 KR (own_nin1 x2n3)
        have f415 := x2A1.keep KR (own_nin1 x2n5)
        have f416 := x2A2.keep KR (own_nin1 x2n6)
        have f417 := Fld.keep x2G5 KR (own_nin1 x2n3)
        have f418 := Fld.keep x2G6 KR (own_nin1 x2n3)
        refine oGo.invokevirtual (pc' := 179) (k' := 13) (n' := 341) (a := a61) (argsL := [.int i2]) (rest := []) at_176 rfl (w154 hG) (w155 hG) (w157 hG) (w157 hG) rfl (w156 hG) (w45 hG) (w158 hG) (by decide) pd12 rfl rfl rfl f410 (c_mark hG a61 pz an li 2 i2 _ ⟨⟨⟨x2n1, x2n2, x2n3⟩, x2n4, x2n5, x2n6⟩, f410, f411, f412, f413, f414, f415, f416, ⟨_, f417⟩, ⟨_, f418⟩⟩) (by simp) (by decide) (Nat.le_of_ble_eq_true rfl) rfl rfl (by decide) (by decide) ?_
        intro v419 h420 sh420 q421
        obtain ⟨rfl, KQ, BTQ⟩ := q421
        obtain ⟨⟨⟨xqn1, xqn2, xqn3⟩, xqn4, xqn5, xqn6⟩, xqE, xqG1, xqG2, xqG3, xqG4, xqA1, xqA2, ⟨xqs5, xqG5⟩, ⟨xqs6, xqG6⟩⟩ := BTQ
        have xqlb := own_ltN xqE.lt
        have xqlp := own_ltN xqA1.lt
        have xqla := own_ltN xqA2.lt
        refine ⟨_, fun _ hx => Or.inl hx, ?_⟩
        show oGo l Z a0 EL True pP eE sS mM _ bB tT cC _ _ _ _ _ _ _ _ [pz, an, li, a61, a36, a19, a12, a4] h420 13 341 179 #[.val (.int i0), .val (.int i1), .val (.int i2), .val (.int (2 : Int32)), .val (.int (1 : Int32)), .val (.int (1 : Int32)), .val (.ref a4), .val (.ref a12), .val (.ref a36), .val (.ref a61), .unset, .unset] []
        refine oGo.aload (pc' := 181) at_179 rfl rfl rfl ?_
        refine oGo.invokevirtual (pc' := 184) (k' := 13) (n' := 341) (a := a61) (argsL := []) (rest := []) at_181 rfl (w84 hG) (w85 hG) (w87 hG) (w87 hG) rfl (w86 hG) (w45 hG) (w88 hG) (by decide) pd5 rfl rfl rfl xqE (c_isFull hG a61 2 (by decide) _ xqG3) (by simp) (by decide) (Nat.le_of_ble_eq_true rfl) rfl rfl (by decide) (by decide) ?_
        intro v422 h423 sh423 q424
        obtain ⟨rfl, ee⟩ := q424
        obtain rfl := ee.symm
        refine ⟨_, fun _ hx => Or.inl hx, ?_⟩
        show oGo l Z a0 EL True pP eE sS mM _ bB tT cC _ _ _ _ _ _ _ _ [pz, an, li, a61, a36, a19, a12, a4] h420 13 341 184 #[.val (.int i0), .val (.int i1), .val (.int i2), .val (.int (2 : Int32)), .val (.int (1 : Int32)), .val (.int (1 : Int32)), .val (.ref a4), .val (.ref a12), .val (.ref a36), .val (.ref a61), .unset, .unset] [.int (0 : Int32)]
        refine oGo.istore (pc' := 186) (Ls' := #[.val (.int i0), .val (.int i1), .val (.int i2), .val (.int (2 : Int32)), .val (.int (1 : Int32)), .val (.int (1 : Int32)), .val (.ref a4), .val (.ref a12), .val (.ref a36), .val (.ref a61), .val (.int (0 : Int32)), .unset]) at_184 rfl rfl ?_
        refine oGo.aload (pc' := 188) at_186 rfl rfl rfl ?_
        have f425 := Exa.keep ER KQ
        have f426 := Fld.keep SR KQ (own_nin1 (Ne.symm xqn3))
        refine oGo.invokevirtual (pc' := 191) (k' := 13) (n' := 341) (a := a61) (argsL := []) (rest := []) at_188 rfl (w91 hG) (w92 hG) (w94 hG) (w94 hG) rfl (w93 hG) (w45 hG) (w95 hG) (by decide) pd5 rfl rfl rfl xqE (c_isEmpty hG a61 li (Int32.ofNat 2) 1 0 (by decide) _ xqG3 xqG4 f425 f426) (by simp) (by decide) (Nat.le_of_ble_eq_true rfl) rfl rfl (by decide) (by decide) ?_
        intro v427 h428 sh428 q429
        obtain ⟨rfl, ee⟩ := q429
        obtain rfl := ee.symm
        refine ⟨_, fun _ hx => Or.inl hx, ?_⟩
        show oGo l Z a0 EL True pP eE sS mM _ bB tT cC _ _ _ _ _ _ _ _ [pz, an, li, a61, a36, a19, a12, a4] h420 13 341 191 #[.val (.int i0), .val (.int i1), .val (.int i2), .val (.int (2 : Int32)), .val (.int (1 : Int32)), .val (.int (1 : Int32)), .val (.ref a4), .val (.ref a12), .val (.ref a36), .val (.ref a61), .val (.int (0 : Int32)), .unset] [.int (0 : Int32)]
        refine oGo.istore (pc' := 193) (Ls' := #[.val (.int i0), .val (.int i1), .val (.int i2), .val (.int (2 : Int32)), .val (.int (1 : Int32)), .val (.int (1 : Int32)), .val (.ref a4), .val (.ref a12), .val (.ref a36), .val (.ref a61), .val (.int (0 : Int32)), .val (.int (0 : Int32))]) at_191 rfl rfl ?_
        refine oGo.iload (pc' := 195) at_193 rfl rfl ?_
        refine oGo.if_ne (pc1 := 198) (pc2 := 221) at_195 rfl (by decide) (fun q => by first | exact absurd q (by decide) | exact absurd (by decide) q) (fun q430 => ?_)
        refine oGo.iload (pc' := 200) at_198 rfl rfl ?_
        refine oGo.iload_n (pc' := 201) at_200 rfl rfl ?_
        refine oGo.if_ne (pc1 := 204) (pc2 := 213) at_201 rfl (by decide) (fun q431 => ?_) (fun q => by first | exact absurd q (by decide) | exact absurd (by decide) q)
        refine oGo.iconst (pc' := 214) (v := 0) at_213 rfl (by decide) ?_
        refine oGo.icmp_ne (pc1 := 217) (pc2 := 221) at_214 rfl (by decide) (fun q => by first | exact absurd q (by decide) | exact absurd (by decide) q) (fun q432 => ?_)
        refine oGo.iconst (pc' := 218) (v := 1) at_217 rfl (by decide) ?_
        refine oGo.goto (pc' := 222) at_218 (by decide) ?_
        exact oGo.nreturn at_222 rfl (by simp) rfl (by decide) (by decide) rfl (fun _ q => q.elim)
  · show oGo l Z a0 EL True pP eE sS mM _ bB tT cC _ _ _ _ _ _ _ _ [pz, an, li, a61, a36, a19, a12, a4] h72 12 331 83 #[.val (.int i0), .val (.int i1), .val (.int i2), .val (.int (3 : Int32)), .val (.int z4), .val (.int z5), .val (.ref a4), .val (.ref a12), .val (.ref a36), .val (.ref a61), .unset, .unset] [.int (3 : Int32)]
    refine oGo.if_le (pc1 := 86) (pc2 := 106) at_83 rfl (by decide) (fun q => by first | exact absurd q (by decide) | exact absurd (by decide) q) (fun q433 => ?_)
    refine oGo.aload (pc' := 88) at_86 rfl rfl rfl ?_
    refine oGo.iload_n (pc' := 89) at_88 rfl rfl ?_
    refine oGo.iconst (pc' := 90) (v := 1) at_89 rfl (by decide) ?_
    refine oGo.iand (pc' := 91) at_90 rfl ?_
    refine oGo.boolz (pc' := 99) at_91 at_94 at_95 at_98 rfl ?_
    intro y0 hy0
    refine oGo.aload (pc' := 101) at_99 rfl rfl rfl ?_
    refine oGo.aload (pc' := 103) at_101 rfl rfl rfl ?_
    have f434 := Exa.wr W9 X7
    have f435 := Exa.ext E13 f434
    have f436 := Exa.ext E20 f435
    have f437 := Exa.wr W24 f436
    have f438 := Exa.keep f437 KA
    have f439 := Exa.ext E37 f438
    have f440 := Exa.ext E45 f439
    have f441 := Exa.ext E48 f440
    have f442 := Exa.keep f441 KM
    have f443 := Exa.ext E62 f442
    have f444 := Exa.keep f443 KB
    have f445 := Exa.ext E37 EA
    have f446 := Exa.ext E45 f445
    have f447 := Exa.ext E48 f446
    have f448 := Exa.keep f447 KM
    have f449 := Exa.ext E62 f448
    have f450 := Exa.keep f449 KB
    refine oGo.invokestatic (pc' := 106) (k' := 12) (n' := 331) (argsL := [.ref a61, .int y0, .ref a4, .ref a12]) (rest := []) at_103 rfl (w107 hG) (w108 hG) (w109 hG) (w110 hG) (by decide) pd14 rfl rfl rfl (c_addOne hG a61 pz an li a4 a12 0 y0 (by decide) _ ⟨⟨⟨x0n1, x0n2, x0n3⟩, x0n4, x0n5, x0n6⟩, x0E, x0G1, x0G2, x0G3, x0G4, x0A1, x0A2, ⟨_, x0G5⟩, ⟨_, x0G6⟩⟩ f444 f450) (by simp) (by decide) (Nat.le_of_ble_eq_true rfl) rfl rfl (by decide) (by decide) ?_
    intro v451 h452 sh452 q453
    obtain ⟨rfl, KO0, BT1⟩ := q453
    obtain ⟨⟨⟨x1n1, x1n2, x1n3⟩, x1n4, x1n5, x1n6⟩, x1E, x1G1, x1G2, x1G3, x1G4, x1A1, x1A2, ⟨x1s5, x1G5⟩, ⟨x1s6, x1G6⟩⟩ := BT1
    have x1lb := own_ltN x1E.lt
    have x1lp := own_ltN x1A1.lt
    have x1la := own_ltN x1A2.lt
    refine ⟨_, fun _ hx => Or.inl hx, ?_⟩
    show oGo l Z a0 EL True pP eE sS mM _ bB tT cC _ _ _ _ _ _ _ _ [pz, an, li, a61, a36, a19, a12, a4] h452 12 331 106 #[.val (.int i0), .val (.int i1), .val (.int i2), .val (.int (3 : Int32)), .val (.int z4), .val (.int z5), .val (.ref a4), .val (.ref a12), .val (.ref a36), .val (.ref a61), .unset, .unset] []
    refine oGo.iload_n (pc' := 107) at_106 rfl rfl ?_
    refine oGo.iconst (pc' := 108) (v := 1) at_107 rfl (by decide) ?_
    refine oGo.icmp_le (pc1 := 111) (pc2 := 131) at_108 rfl (by decide) (fun q => by first | exact absurd q (by decide) | exact absurd (by decide) q) (fun q454 => ?_)
    refine oGo.aload (pc' := 113) at_111 rfl rfl rfl ?_
    refine oGo.iload_n (pc' := 114) at_113 rfl rfl ?_
    refine oGo.iconst (pc' := 115) (v := 2) at_114 rfl (by decide) ?_
    refine oGo.iand (pc' := 116) at_115 rfl ?_
    refine oGo.boolz (pc' := 124) at_116 at_119 at_120 at_123 rfl ?_
    intro y1 hy1
    refine oGo.aload (pc' := 126) at_124 rfl rfl rfl ?_
    refine oGo.aload (pc' := 128) at_126 rfl rfl rfl ?_
    have f455 := Exa.keep f444 KO0
    have f456 := Exa.keep f450 KO0
    refine oGo.invokestatic (pc' := 131) (k' := 12) (n' := 331) (argsL := [.ref a61, .int y1, .ref a4, .ref a12]) (rest := []) at_128 rfl (w107 hG) (w108 hG) (w109 hG) (w110 hG) (by decide) pd14 rfl rfl rfl (c_addOne hG a61 pz an li a4 a12 1 y1 (by decide) _ ⟨⟨⟨x1n1, x1n2, x1n3⟩, x1n4, x1n5, x1n6⟩, x1E, x1G1, x1G2, x1G3, x1G4, x1A1, x1A2, ⟨_, x1G5⟩, ⟨_, x1G6⟩⟩ f455 f456) (by simp) (by decide) (Nat.le_of_ble_eq_true rfl) rfl rfl (by decide) (by decide) ?_
    intro v457 h458 sh458 q459
    obtain ⟨rfl, KO1, BT2⟩ := q459
    obtain ⟨⟨⟨x2n1, x2n2, x2n3⟩, x2n4, x2n5, x2n6⟩, x2E, x2G1, x2G2, x2G3, x2G4, x2A1, x2A2, ⟨x2s5, x2G5⟩, ⟨x2s6, x2G6⟩⟩ := BT2
    have x2lb := own_ltN x2E.lt
    have x2lp := own_ltN x2A1.lt
    have x2la := own_ltN x2A2.lt
    refine ⟨_, fun _ hx => Or.inl hx, ?_⟩
    show oGo l Z a0 EL True pP eE sS mM _ bB tT cC _ _ _ _ _ _ _ _ [pz, an, li, a61, a36, a19, a12, a4] h458 12 331 131 #[.val (.int i0), .val (.int i1), .val (.int i2), .val (.int (3 : Int32)), .val (.int z4), .val (.int z5), .val (.ref a4), .val (.ref a12), .val (.ref a36), .val (.ref a61), .unset, .unset] []
    refine oGo.iload_n (pc' := 132) at_131 rfl rfl ?_
    refine oGo.iconst (pc' := 133) (v := 2) at_132 rfl (by decide) ?_
    refine oGo.icmp_le (pc1 := 136) (pc2 := 156) at_133 rfl (by decide) (fun q => by first | exact absurd q (by decide) | exact absurd (by decide) q) (fun q460 => ?_)
    refine oGo.aload (pc' := 138) at_136 rfl rfl rfl ?_
    refine oGo.iload_n (pc' := 139) at_138 rfl rfl ?_
    refine oGo.iconst (pc' := 140) (v := 4) at_139 rfl (by decide) ?_
    refine oGo.iand (pc' := 141) at_140 rfl ?_
    refine oGo.boolz (pc' := 149) at_141 at_144 at_145 at_148 rfl ?_
    intro y2 hy2
    refine oGo.aload (pc' := 151) at_149 rfl rfl rfl ?_
    refine oGo.aload (pc' := 153) at_151 rfl rfl rfl ?_
    have f461 := Exa.keep f455 KO1
    have f462 := Exa.keep f456 KO1
    refine oGo.invokestatic (pc' := 156) (k' := 12) (n' := 331) (argsL := [.ref a61, .int y2, .ref a4, .ref a12]) (rest := []) at_153 rfl (w107 hG) (w108 hG) (w109 hG) (w110 hG) (by decide) pd14 rfl rfl rfl (c_addOne hG a61 pz an li a4 a12 2 y2 (by decide) _ ⟨⟨⟨x2n1, x2n2, x2n3⟩, x2n4, x2n5, x2n6⟩, x2E, x2G1, x2G2, x2G3, x2G4, x2A1, x2A2, ⟨_, x2G5⟩, ⟨_, x2G6⟩⟩ f461 f462) (by simp) (by decide) (Nat.le_of_ble_eq_true rfl) rfl rfl (by decide) (by decide) ?_
    intro v463 h464 sh464 q465
    obtain ⟨rfl, KO2, BT3⟩ := q465
    obtain ⟨⟨⟨x3n1, x3n2, x3n3⟩, x3n4, x3n5, x3n6⟩, x3E, x3G1, x3G2, x3G3, x3G4, x3A1, x3A2, ⟨x3s5, x3G5⟩, ⟨x3s6, x3G6⟩⟩ := BT3
    have x3lb := own_ltN x3E.lt
    have x3lp := own_ltN x3A1.lt
    have x3la := own_ltN x3A2.lt
    refine ⟨_, fun _ hx => Or.inl hx, ?_⟩
    show oGo l Z a0 EL True pP eE sS mM _ bB tT cC _ _ _ _ _ _ _ _ [pz, an, li, a61, a36, a19, a12, a4] h464 12 331 156 #[.val (.int i0), .val (.int i1), .val (.int i2), .val (.int (3 : Int32)), .val (.int z4), .val (.int z5), .val (.ref a4), .val (.ref a12), .val (.ref a36), .val (.ref a61), .unset, .unset] []
    refine oGo.iload (pc' := 158) at_156 rfl rfl ?_
    rcases hz4 with rfl | rfl
    · show oGo l Z a0 EL True pP eE sS mM _ bB tT cC _ _ _ _ _ _ _ _ [pz, an, li, a61, a36, a19, a12, a4] h464 12 331 158 #[.val (.int i0), .val (.int i1), .val (.int i2), .val (.int (3 : Int32)), .val (.int (0 : Int32)), .val (.int z5), .val (.ref a4), .val (.ref a12), .val (.ref a36), .val (.ref a61), .unset, .unset] [.int (0 : Int32)]
      refine oGo.if_eq (pc1 := 161) (pc2 := 168) at_158 rfl (by decide) (fun q466 => ?_) (fun q => by first | exact absurd q (by decide) | exact absurd (by decide) q)
      refine oGo.iload (pc' := 170) at_168 rfl rfl ?_
      rcases hz5 with rfl | rfl
      · show oGo l Z a0 EL True pP eE sS mM _ bB tT cC _ _ _ _ _ _ _ _ [pz, an, li, a61, a36, a19, a12, a4] h464 12 331 170 #[.val (.int i0), .val (.int i1), .val (.int i2), .val (.int (3 : Int32)), .val (.int (0 : Int32)), .val (.int (0 : Int32)), .val (.ref a4), .val (.ref a12), .val (.ref a36), .val (.ref a61), .unset, .unset] [.int (0 : Int32)]
        refine oGo.if_eq (pc1 := 173) (pc2 := 179) at_170 rfl (by decide) (fun q467 => ?_) (fun q => by first | exact absurd q (by decide) | exact absurd (by decide) q)
        refine oGo.aload (pc' := 181) at_179 rfl rfl rfl ?_
        refine oGo.invokevirtual (pc' := 184) (k' := 12) (n' := 331) (a := a61) (argsL := []) (rest := []) at_181 rfl (w84 hG) (w85 hG) (w87 hG) (w87 hG) rfl (w86 hG) (w45 hG) (w88 hG) (by decide) pd5 rfl rfl rfl x3E (c_isFull hG a61 3 (by decide) _ x3G3) (by simp) (by decide) (Nat.le_of_ble_eq_true rfl) rfl rfl (by decide) (by decide) ?_
        intro v468 h469 sh469 q470
        obtain ⟨rfl, ee⟩ := q470
        obtain rfl := ee.symm
        refine ⟨_, fun _ hx => Or.inl hx, ?_⟩
        show oGo l Z a0 EL True pP eE sS mM _ bB tT cC _ _ _ _ _ _ _ _ [pz, an, li, a61, a36, a19, a12, a4] h464 12 331 184 #[.val (.int i0), .val (.int i1), .val (.int i2), .val (.int (3 : Int32)), .val (.int (0 : Int32)), .val (.int (0 : Int32)), .val (.ref a4), .val (.ref a12), .val (.ref a36), .val (.ref a61), .unset, .unset] [.int (0 : Int32)]
        refine oGo.istore (pc' := 186) (Ls' := #[.val (.int i0), .val (.int i1), .val (.int i2), .val (.int (3 : Int32)), .val (.int (0 : Int32)), .val (.int (0 : Int32)), .val (.ref a4), .val (.ref a12), .val (.ref a36), .val (.ref a61), .val (.int (0 : Int32)), .unset]) at_184 rfl rfl ?_
        refine oGo.aload (pc' := 188) at_186 rfl rfl rfl ?_
        have f471 := Exa.keep L0.1 KO0
        have f472 := Exa.keep f471 KO1
        have f473 := Exa.keep f472 KO2
        have f474 := Fld.keep L0.2.2.2 KO0 (own_nin3 (Ne.symm x3n3) (Ne.symm x3n5) (Ne.symm x3n6))
        have f475 := Fld.keep f474 KO1 (own_nin3 (Ne.symm x3n3) (Ne.symm x3n5) (Ne.symm x3n6))
        have f476 := Fld.keep f475 KO2 (own_nin3 (Ne.symm x3n3) (Ne.symm x3n5) (Ne.symm x3n6))
        refine oGo.invokevirtual (pc' := 191) (k' := 12) (n' := 331) (a := a61) (argsL := []) (rest := []) at_188 rfl (w91 hG) (w92 hG) (w94 hG) (w94 hG) rfl (w93 hG) (w45 hG) (w95 hG) (by decide) pd5 rfl rfl rfl x3E (c_isEmpty hG a61 li (Int32.ofNat 3) 0 0 (by decide) _ x3G3 x3G4 f473 f476) (by simp) (by decide) (Nat.le_of_ble_eq_true rfl) rfl rfl (by decide) (by decide) ?_
        intro v477 h478 sh478 q479
        obtain ⟨rfl, ee⟩ := q479
        obtain rfl := ee.symm
        refine ⟨_, fun _ hx => Or.inl hx, ?_⟩
        show oGo l Z a0 EL True pP eE sS mM _ bB tT cC _ _ _ _ _ _ _ _ [pz, an, li, a61, a36, a19, a12, a4] h464 12 331 191 #[.val (.int i0), .val (.int i1), .val (.int i2), .val (.int (3 : Int32)), .val (.int (0 : Int32)), .val (.int (0 : Int32)), .val (.ref a4), .val (.ref a12), .val (.ref a36), .val (.ref a61), .val (.int (0 : Int32)), .unset] [.int (0 : Int32)]
        refine oGo.istore (pc' := 193) (Ls' := #[.val (.int i0), .val (.int i1), .val (.int i2), .val (.int (3 : Int32)), .val (.int (0 : Int32)), .val (.int (0 : Int32)), .val (.ref a4), .val (.ref a12), .val (.ref a36), .val (.ref a61), .val (.int (0 : Int32)), .val (.int (0 : Int32))]) at_191 rfl rfl ?_
        refine oGo.iload (pc' := 195) at_193 rfl rfl ?_
        refine oGo.if_ne (pc1 := 198) (pc2 := 221) at_195 rfl (by decide) (fun q => by first | exact absurd q (by decide) | exact absurd (by decide) q) (fun q480 => ?_)
        refine oGo.iload (pc' := 200) at_198 rfl rfl ?_
        refine oGo.iload_n (pc' := 201) at_200 rfl rfl ?_
        refine oGo.if_ne (pc1 := 204) (pc2 := 213) at_201 rfl (by decide) (fun q481 => ?_) (fun q => by first | exact absurd q (by decide) | exact absurd (by decide) q)
        refine oGo.iconst (pc' := 214) (v := 0) at_213 rfl (by decide) ?_
        refine oGo.icmp_ne (pc1 := 217) (pc2 := 221) at_214 rfl (by decide) (fun q => by first | exact absurd q (by decide) | exact absurd (by decide) q) (fun q482 => ?_)
        refine oGo.iconst (pc' := 218) (v := 1) at_217 rfl (by decide) ?_
        refine oGo.goto (pc' := 222) at_218 (by decide) ?_
        exact oGo.nreturn at_222 rfl (by simp) rfl (by decide) (by decide) rfl (fun _ q => q.elim)
      · show oGo l Z a0 EL True pP eE sS mM _ bB tT cC _ _ _ _ _ _ _ _ [pz, an, li, a61, a36, a19, a12, a4] h464 12 331 170 #[.val (.int i0), .val (.int i1), .val (.int i2), .val (.int (3 : Int32)), .val (.int (0 : Int32)), .val (.int (1 : Int32)), .val (.ref a4), .val (.ref a12), .val (.ref a36), .val (.ref a61), .unset, .unset] [.int (1 : Int32)]
        refine oGo.if_eq (pc1 := 173) (pc2 := 179) at_170 rfl (by decide) (fun q => by first | exact absurd q (by decide) | exact absurd (by decide) q) (fun q483 => ?_)
        refine oGo.aload (pc' := 175) at_173 rfl rfl rfl ?_
        refine oGo.iload_n (pc' := 176) at_175 rfl rfl ?_
        refine oGo.invokevirtual (pc' := 179) (k' := 12) (n' := 331) (a := a61) (argsL := [.int i2]) (rest := []) at_176 rfl (w154 hG) (w155 hG) (w157 hG) (w157 hG) rfl (w156 hG) (w45 hG) (w158 hG) (by decide) pd12 rfl rfl rfl x3E (c_mark hG a61 pz an li 3 i2 _ ⟨⟨⟨x3n1, x3n2, x3n3⟩, x3n4, x3n5, x3n6⟩, x3E, x3G1, x3G2, x3G3, x3G4, x3A1, x3A2, ⟨_, x3G5⟩, ⟨_, x3G6⟩⟩) (by simp) (by decide) (Nat.le_of_ble_eq_true rfl) rfl rfl (by decide) (by decide) ?_
        intro v484 h485 sh485 q486
        obtain ⟨rfl, KQ, BTQ⟩ := q486
        obtain ⟨⟨⟨xqn1, xqn2, xqn3⟩, xqn4, xqn5, xqn6⟩, xqE, xqG1, xqG2, xqG3, xqG4, xqA1, xqA2, ⟨xqs5, xqG5⟩, ⟨xqs6, xqG6⟩⟩ := BTQ
        have xqlb := own_ltN xqE.lt
        have xqlp := own_ltN xqA1.lt
        have xqla := own_ltN xqA2.lt
        refine ⟨_, fun _ hx => Or.inl hx, ?_⟩
        show oGo l Z a0 EL True pP eE sS mM _ bB tT cC _ _ _ _ _ _ _ _ [pz, an, li, a61, a36, a19, a12, a4] h485 12 331 179 #[.val (.int i0), .val (.int i1), .val (.int i2), .val (.int (3 : Int32)), .val (.int (0 : Int32)), .val (.int (1 : Int32)), .val (.ref a4), .val (.ref a12), .val (.ref a36), .val (.ref a61), .unset, .unset] []
        refine oGo.aload (pc' := 181) at_179 rfl rfl rfl ?_
        refine oGo.invokevirtual (pc' := 184) (k' := 12) (n' := 331) (a := a61) (argsL := []) (rest := []) at_181 rfl (w84 hG) (w85 hG) (w87 hG) (w87 hG) rfl (w86 hG) (w45 hG) (w88 hG) (by decide) pd5 rfl rfl rfl xqE (c_isFull hG a61 3 (by decide) _ xqG3) (by simp) (by decide) (Nat.le_of_ble_eq_true rfl) rfl rfl (by decide) (by decide) ?_
        intro v487 h488 sh488 q489
        obtain ⟨rfl, ee⟩ := q489
        obtain rfl := ee.symm
        refine ⟨_, fun _ hx => Or.inl hx, ?_⟩
        show oGo l Z a0 EL True pP eE sS mM _ bB tT cC _ _ _ _ _ _ _ _ [pz, an, li, a61, a36, a19, a12, a4] h485 12 331 184 #[.val (.int i0), .val (.int i1), .val (.int i2), .val (.int (3 : Int32)), .val (.int (0 : Int32)), .val (.int (1 : Int32)), .val (.ref a4), .val (.ref a12), .val (.ref a36), .val (.ref a61), .unset, .unset] [.int (0 : Int32)]
        refine oGo.istore (pc' := 186) (Ls' := #[.val (.int i0), .val (.int i1), .val (.int i2), .val (.int (3 : Int32)), .val (.int (0 : Int32)), .val (.int (1 : Int32)), .val (.ref a4), .val (.ref a12), .val (.ref a36), .val (.ref a61), .val (.int (0 : Int32)), .unset]) at_184 rfl rfl ?_
        refine oGo.aload (pc' := 188) at_186 rfl rfl rfl ?_
        have f490 := Exa.keep L0.1 KO0
        have f491 := Exa.keep f490 KO1
        have f492 := Exa.keep f491 KO2
        have f493 := Exa.keep f492 KQ
        have f494 := Fld.keep L0.2.2.2 KO0 (own_nin3 (Ne.symm xqn3) (Ne.symm xqn5) (Ne.symm xqn6))
        have f495 := Fld.keep f494 KO1 (own_nin3 (Ne.symm xqn3) (Ne.symm xqn5) (Ne.symm xqn6))
        have f496 := Fld.keep f495 KO2 (own_nin3 (Ne.symm xqn3) (Ne.symm xqn5) (Ne.symm xqn6))
        have f497 := Fld.keep f496 KQ (own_nin1 (Ne.symm xqn3))
        refine oGo.invokevirtual (pc' := 191) (k' := 12) (n' := 331) (a := a61) (argsL := []) (rest := []) at_188 rfl (w91 hG) (w92 hG) (w94 hG) (w94 hG) rfl (w93 hG) (w45 hG) (w95 hG) (by decide) pd5 rfl rfl rfl xqE (c_isEmpty hG a61 li (Int32.ofNat 3) 0 0 (by decide) _ xqG3 xqG4 f493 f497) (by simp) (by decide) (Nat.le_of_ble_eq_true rfl) rfl rfl (by decide) (by decide) ?_
        intro v498 h499 sh499 q500
        obtain ⟨rfl, ee⟩ := q500
        obtain rfl := ee.symm
        refine ⟨_, fun _ hx => Or.inl hx, ?_⟩
        show oGo l Z a0 EL True pP eE sS mM _ bB tT cC _ _ _ _ _ _ _ _ [pz, an, li, a61, a36, a19, a12, a4] h485 12 331 191 #[.val (.int i0), .val (.int i1), .val (.int i2), .val (.int (3 : Int32)), .val (.int (0 : Int32)), .val (.int (1 : Int32)), .val (.ref a4), .val (.ref a12), .val (.ref a36), .val (.ref a61), .val (.int (0 : Int32)), .unset] [.int (0 : Int32)]
        refine oGo.istore (pc' := 193) (Ls' := #[.val (.int i0), .val (.int i1), .val (.int i2), .val (.int (3 : Int32)), .val (.int (0 : Int32)), .val (.int (1 : Int32)), .val (.ref a4), .val (.ref a12), .val (.ref a36), .val (.ref a61), .val (.int (0 : Int32)), .val (.int (0 : Int32))]) at_191 rfl rfl ?_
        refine oGo.iload (pc' := 195) at_193 rfl rfl ?_
        refine oGo.if_ne (pc1 := 198) (pc2 := 221) at_195 rfl (by decide) (fun q => by first | exact absurd q (by decide) | exact absurd (by decide) q) (fun q501 => ?_)
        refine oGo.iload (pc' := 200) at_198 rfl rfl ?_
        refine oGo.iload_n (pc' := 201) at_200 rfl rfl ?_
        refine oGo.if_ne (pc1 := 204) (pc2 := 213) at_201 rfl (by decide) (fun q502 => ?_) (fun q => by first | exact absurd q (by decide) | exact absurd (by decide) q)
        refine oGo.iconst (pc' := 214) (v := 0) at_213 rfl (by decide) ?_
        refine oGo.icmp_ne (pc1 := 217) (pc2 := 221) at_214 rfl (by decide) (fun q => by first | exact absurd q (by decide) | exact absurd (by decide) q) (fun q503 => ?_)
        refine oGo.iconst (pc' := 218) (v := 1) at_217 rfl (by decide) ?_
        refine oGo.goto (pc' := 222) at_218 (by decide) ?_
        exact oGo.nreturn at_222 rfl (by simp) rfl (by decide) (by decide) rfl (fun _ q => q.elim)
    · show oGo l Z a0 EL True pP eE sS mM _ bB tT cC _ _ _ _ _ _ _ _ [pz, an, li, a61, a36, a19, a12, a4] h464 12 331 158 #[.val (.int i0), .val (.int i1), .val (.int i2), .val (.int (3 : Int32)), .val (.int (1 : Int32)), .val (.int z5), .val (.ref a4), .val (.ref a12), .val (.ref a36), .val (.ref a61), .unset, .unset] [.int (1 : Int32)]
      refine oGo.if_eq (pc1 := 161) (pc2 := 168) at_158 rfl (by decide) (fun q => by first | exact absurd q (by decide) | exact absurd (by decide) q) (fun q504 => ?_)
      refine oGo.aload (pc' := 163) at_161 rfl rfl rfl ?_
      refine oGo.aload (pc' := 165) at_163 rfl rfl rfl ?_
      have f505 := Exa.keep L0.1 KO0
      have f506 := Exa.keep f505 KO1
      have f507 := Exa.keep f506 KO2
      have f508 := Fld.keep L0.2.1 KO0 (own_nin3 (Ne.symm x3n3) (Ne.symm x3n5) (Ne.symm x3n6))
      have f509 := Fld.keep f508 KO1 (own_nin3 (Ne.symm x3n3) (Ne.symm x3n5) (Ne.symm x3n6))
      have f510 := Fld.keep f509 KO2 (own_nin3 (Ne.symm x3n3) (Ne.symm x3n5) (Ne.symm x3n6))
      have f511 := Fld.keep L0.2.2.1 KO0 (own_nin3 (Ne.symm x3n3) (Ne.symm x3n5) (Ne.symm x3n6))
      have f512 := Fld.keep f511 KO1 (own_nin3 (Ne.symm x3n3) (Ne.symm x3n5) (Ne.symm x3n6))
      have f513 := Fld.keep f512 KO2 (own_nin3 (Ne.symm x3n3) (Ne.symm x3n5) (Ne.symm x3n6))
      have f514 := Fld.keep L0.2.2.2 KO0 (own_nin3 (Ne.symm x3n3) (Ne.symm x3n5) (Ne.symm x3n6))
      have f515 := Fld.keep f514 KO1 (own_nin3 (Ne.symm x3n3) (Ne.symm x3n5) (Ne.symm x3n6))
      have f516 := Fld.keep f515 KO2 (own_nin3 (Ne.symm x3n3) (Ne.symm x3n5) (Ne.symm x3n6))
      have f517 := oArr.ext E5 f2
      have f518 := oArr.other W9 f517 (own_ne_ge (x := da) (y := a4) (own_ltN f2.lt) (own_ge_eq qa4))
      have f519 := oArr.ext E13 f518
      have f520 := oArr.ext E20 f519
      have g522 := own_lt_le (x := da) (own_ltN f2.lt) E5.1
      have g523 := own_lt_le (x := da) g522 (Nat.le_of_eq (Wr.size W9).symm)
      have g524 := own_lt_le (x := da) g523 E13.1
      have f521 := oArr.other W24 f520 (own_ne_ge (x := da) (y := a19) g524 (own_ge_eq qa19))
      have f525 := oArr.keep f521 KA (own_nin1 (own_ne_ge (x := da) (y := a12) g523 (own_ge_eq qa12)))
      have f526 := oArr.ext E37 f525
      have f527 := oArr.ext E45 f526
      have f528 := oArr.ext E48 f527
      have g530 := own_lt_le (x := da) g524 E20.1
      have g531 := own_lt_le (x := da) g530 (Nat.le_of_eq (Wr.size W24).symm)
      have g532 := own_lt_le (x := da) g531 KA.1
      have f529 := oArr.keep f528 KM (own_nin1 (own_ne_ge (x := da) (y := a36) g532 (own_ge_eq qa36)))
      have f533 := oArr.ext E62 f529
      have f534 := oArr.keep f533 KB (own_nin1 (own_ne (by omega)))
      have g536 := own_lt_le (x := da) g532 E37.1
      have g537 := own_lt_le (x := da) g536 E45.1
      have g538 := own_lt_le (x := da) g537 E48.1
      have g539 := own_lt_le (x := da) g538 KM.1
      have g540 := own_lt_le (x := da) g539 E62.1
      have f535 := oArr.keep f534 KO0 (own_nin3 (own_ne (by omega)) (own_ne_ge (x := da) (y := pz) g540 gp) (own_ne_ge (x := da) (y := an) g540 ga))
      have f541 := oArr.keep f535 KO1 (own_nin3 (own_ne (by omega)) (own_ne_ge (x := da) (y := pz) g540 gp) (own_ne_ge (x := da) (y := an) g540 ga))
      have f542 := oArr.keep f541 KO2 (own_nin3 (own_ne (by omega)) (own_ne_ge (x := da) (y := pz) g540 gp) (own_ne_ge (x := da) (y := an) g540 ga))
      have f543 := Exa.ext E62 EM
      have f544 := Exa.keep f543 KB
      have f545 := Exa.keep f544 KO0
      have f546 := Exa.keep f545 KO1
      have f547 := Exa.keep f546 KO2
      refine oGo.invokevirtual (pc' := 168) (k' := 13) (n' := 341) (a := a61) (argsL := [.ref a36]) (rest := []) at_165 rfl (w117 hG) (w118 hG) (w120 hG) (w120 hG) rfl (w119 hG) (w45 hG) (w121 hG) (by decide) pd13 rfl rfl rfl x3E (c_report hG a61 li da a36 _ x3G4 ⟨f507, f510, f513, f516⟩ f542 Sd f547) (by simp) (by decide) (Nat.le_of_ble_eq_true rfl) rfl rfl (by decide) (by decide) ?_
      intro v548 h549 sh549 q550
      obtain ⟨rfl, KR, ER, SR⟩ := q550
      refine ⟨_, fun _ hx => Or.inl hx, ?_⟩
      show oGo l Z a0 EL True pP eE sS mM _ bB tT cC _ _ _ _ _ _ _ _ [pz, an, li, a61, a36, a19, a12, a4] h549 13 341 168 #[.val (.int i0), .val (.int i1), .val (.int i2), .val (.int (3 : Int32)), .val (.int (1 : Int32)), .val (.int z5), .val (.ref a4), .val (.ref a12), .val (.ref a36), .val (.ref a61), .unset, .unset] []
      refine oGo.iload (pc' := 170) at_168 rfl rfl ?_
      rcases hz5 with rfl | rfl
      · show oGo l Z a0 EL True pP eE sS mM _ bB tT cC _ _ _ _ _ _ _ _ [pz, an, li, a61, a36, a19, a12, a4] h549 13 341 170 #[.val (.int i0), .val (.int i1), .val (.int i2), .val (.int (3 : Int32)), .val (.int (1 : Int32)), .val (.int (0 : Int32)), .val (.ref a4), .val (.ref a12), .val (.ref a36), .val (.ref a61), .unset, .unset] [.int (0 : Int32)]
        refine oGo.if_eq (pc1 := 173) (pc2 := 179) at_170 rfl (by decide) (fun q551 => ?_) (fun q => by first | exact absurd q (by decide) | exact absurd (by decide) q)
        refine oGo.aload (pc' := 181) at_179 rfl rfl rfl ?_
        have f552 := Fld.keep x3G3 KR (own_nin1 x3n3)
        have f556 := Exa.keep x3E KR
        refine oGo.invokevirtual (pc' := 184) (k' := 13) (n' := 341) (a := a61) (argsL := []) (rest := []) at_181 rfl (w84 hG) (w85 hG) (w87 hG) (w87 hG) rfl (w86 hG) (w45 hG) (w88 hG) (by decide) pd5 rfl rfl rfl f556 (c_isFull hG a61 3 (by decide) _ f552) (by simp) (by decide) (Nat.le_of_ble_eq_true rfl) rfl rfl (by decide) (by decide) ?_
        intro v553 h554 sh554 q555
        obtain ⟨rfl, ee⟩ := q555
        obtain rfl := ee.symm
        refine ⟨_, fun _ hx => Or.inl hx, ?_⟩
        show oGo l Z a0 EL True pP eE sS mM _ bB tT cC _ _ _ _ _ _ _ _ [pz, an, li, a61, a36, a19, a12, a4] h549 13 341 184 #[.val (.int i0), .val (.int i1), .val (.int i2), .val (.int (3 : Int32)), .val (.int (1 : Int32)), .val (.int (0 : Int32)), .val (.ref a4), .val (.ref a12), .val (.ref a36), .val (.ref a61), .unset, .unset] [.int (0 : Int32)]
        refine oGo.istore (pc' := 186) (Ls' := #[.val (.int i0), .val (.int i1), .val (.int i2), .val (.int (3 : Int32)), .val (.int (1 : Int32)), .val (.int (0 : Int32)), .val (.ref a4), .val (.ref a12), .val (.ref a36), .val (.ref a61), .val (.int (0 : Int32)), .unset]) at_184 rfl rfl ?_
        refine oGo.aload (pc' := 188) at_186 rfl rfl rfl ?_
        have f557 := Fld.keep x3G4 KR (own_nin1 x3n3)
        refine oGo.invokevirtual (pc' := 191) (k' := 13) (n' := 341) (a := a61) (argsL := []) (rest := []) at_188 rfl (w91 hG) (w92 hG) (w94 hG) (w94 hG) rfl (w93 hG) (w45 hG) (w95 hG) (by decide) pd5 rfl rfl rfl f556 (c_isEmpty hG a61 li (Int32.ofNat 3) 1 0 (by decide) _ f552 f557 ER SR) (by simp) (by decide) (Nat.le_of_ble_eq_true rfl) rfl rfl (by decide) (by decide) ?_
        intro v558 h559 sh559 q560
        obtain ⟨rfl, ee⟩ := q560
        obtain rfl := ee.symm
        refine ⟨_, fun _ hx => Or.inl hx, ?_⟩
        show oGo l Z a0 EL True pP eE sS mM _ bB tT cC _ _ _ _ _ _ _ _ [pz, an, li, a61, a36, a19, a12, a4] h549 13 341 191 #[.val (.int i0), .val (.int i1), .val (.int i2), .val (.int (3 : Int32)), .val (.int (1 : Int32)), .val (.int (0 : Int32)), .val (.ref a4), .val (.ref a12), .val (.ref a36), .val (.ref a61), .val (.int (0 : Int32)), .unset] [.int (0 : Int32)]
        refine oGo.istore (pc' := 193) (Ls' := #[.val (.int i0), .val (.int i1), .val (.int i2), .val (.int (3 : Int32)), .val (.int (1 : Int32)), .val (.int (0 : Int32)), .val (.ref a4), .val (.ref a12), .val (.ref a36), .val (.ref a61), .val (.int (0 : Int32)), .val (.int (0 : Int32))]) at_191 rfl rfl ?_
        refine oGo.iload (pc' := 195) at_193 rfl rfl ?_
        refine oGo.if_ne (pc1 := 198) (pc2 := 221) at_195 rfl (by decide) (fun q => by first | exact absurd q (by decide) | exact absurd (by decide) q) (fun q561 => ?_)
        refine oGo.iload (pc' := 200) at_198 rfl rfl ?_
        refine oGo.iload_n (pc' := 201) at_200 rfl rfl ?_
        refine oGo.if_ne (pc1 := 204) (pc2 := 213) at_201 rfl (by decide) (fun q562 => ?_) (fun q => by first | exact absurd q (by decide) | exact absurd (by decide) q)
        refine oGo.iconst (pc' := 214) (v := 0) at_213 rfl (by decide) ?_
        refine oGo.icmp_ne (pc1 := 217) (pc2 := 221) at_214 rfl (by decide) (fun q => by first | exact absurd q (by decide) | exact absurd (by decide) q) (fun q563 => ?_)
        refine oGo.iconst (pc' := 218) (v := 1) at_217 rfl (by decide) ?_
        refine oGo.goto (pc' := 222) at_218 (by decide) ?_
        exact oGo.nreturn at_222 rfl (by simp) rfl (by decide) (by decide) rfl (fun _ q => q.elim)
      · show oGo l Z a0 EL True pP eE sS mM _ bB tT cC _ _ _ _ _ _ _ _ [pz, an, li, a61, a36, a19, a12, a4] h549 13 341 170 #[.val (.int i0), .val (.int i1), .val (.int i2), .val (.int (3 : Int32)), .val (.int (1 : Int32)), .val (.int (1 : Int32)), .val (.ref a4), .val (.ref a12), .val (.ref a36), .val (.ref a61), .unset, .unset] [.int (1 : Int32)]
        refine oGo.if_eq (pc1 := 173) (pc2 := 179) at_170 rfl (by decide) (fun q => by first | exact absurd q (by decide) | exact absurd (by decide) q) (fun q564 => ?_)
        refine oGo.aload (pc' := 175) at_173 rfl rfl rfl ?_
        refine oGo.iload_n (pc' := 176) at_175 rfl rfl ?_
        have f565 := Exa.keep x3E KR
        have f566 := Fld.keep x3G1 KR (own_nin1 x3n3)
        have f567 := Fld.keep x3G2 KR (own_nin1 x3n3)
        have f568 := Fld.keep x3G3 KR (own_nin1 x3n3)
        have f569 := Fld.keep x3G4 KR (own_nin1 x3n3)
        have f570 := x3A1.keep KR (own_nin1 x3n5)
        have f571 := x3A2.keep KR (own_nin1 x3n6)
        have f572 := Fld.keep x3G5 KR (own_nin1 x3n3)
        have f573 := Fld.keep x3G6 KR (own_nin1 x3n3)
        refine oGo.invokevirtual (pc' := 179) (k' := 13) (n' := 341) (a := a61) (argsL := [.int i2]) (rest := []) at_176 rfl (w154 hG) (w155 hG) (w157 hG) (w157 hG) rfl (w156 hG) (w45 hG) (w158 hG) (by decide) pd12 rfl rfl rfl f565 (c_mark hG a61 pz an li 3 i2 _ ⟨⟨⟨x3n1, x3n2, x3n3⟩, x3n4, x3n5, x3n6⟩, f565, f566, f567, f568, f569, f570, f571, ⟨_, f572⟩, ⟨_, f573⟩⟩) (by simp) (by decide) (Nat.le_of_ble_eq_true rfl) rfl rfl (by decide) (by decide) ?_
        intro v574 h575 sh575 q576
        obtain ⟨rfl, KQ, BTQ⟩ := q576
        obtain ⟨⟨⟨xqn1, xqn2, xqn3⟩, xqn4, xqn5, xqn6⟩, xqE, xqG1, xqG2, xqG3, xqG4, xqA1, xqA2, ⟨xqs5, xqG5⟩, ⟨xqs6, xqG6⟩⟩ := BTQ
        have xqlb := own_ltN xqE.lt
        have xqlp := own_ltN xqA1.lt
        have xqla := own_ltN xqA2.lt
        refine ⟨_, fun _ hx => Or.inl hx, ?_⟩
        show oGo l Z a0 EL True pP eE sS mM _ bB tT cC _ _ _ _ _ _ _ _ [pz, an, li, a61, a36, a19, a12, a4] h575 13 341 179 #[.val (.int i0), .val (.int i1), .val (.int i2), .val (.int (3 : Int32)), .val (.int (1 : Int32)), .val (.int (1 : Int32)), .val (.ref a4), .val (.ref a12), .val (.ref a36), .val (.ref a61), .unset, .unset] []
        refine oGo.aload (pc' := 181) at_179 rfl rfl rfl ?_
        refine oGo.invokevirtual (pc' := 184) (k' := 13) (n' := 341) (a := a61) (argsL := []) (rest := []) at_181 rfl (w84 hG) (w85 hG) (w87 hG) (w87 hG) rfl (w86 hG) (w45 hG) (w88 hG) (by decide) pd5 rfl rfl rfl xqE (c_isFull hG a61 3 (by decide) _ xqG3) (by simp) (by decide) (Nat.le_of_ble_eq_true rfl) rfl rfl (by decide) (by decide) ?_
        intro v577 h578 sh578 q579
        obtain ⟨rfl, ee⟩ := q579
        obtain rfl := ee.symm
        refine ⟨_, fun _ hx => Or.inl hx, ?_⟩
        show oGo l Z a0 EL True pP eE sS mM _ bB tT cC _ _ _ _ _ _ _ _ [pz, an, li, a61, a36, a19, a12, a4] h575 13 341 184 #[.val (.int i0), .val (.int i1), .val (.int i2), .val (.int (3 : Int32)), .val (.int (1 : Int32)), .val (.int (1 : Int32)), .val (.ref a4), .val (.ref a12), .val (.ref a36), .val (.ref a61), .unset, .unset] [.int (0 : Int32)]
        refine oGo.istore (pc' := 186) (Ls' := #[.val (.int i0), .val (.int i1), .val (.int i2), .val (.int (3 : Int32)), .val (.int (1 : Int32)), .val (.int (1 : Int32)), .val (.ref a4), .val (.ref a12), .val (.ref a36), .val (.ref a61), .val (.int (0 : Int32)), .unset]) at_184 rfl rfl ?_
        refine oGo.aload (pc' := 188) at_186 rfl rfl rfl ?_
        have f580 := Exa.keep ER KQ
        have f581 := Fld.keep SR KQ (own_nin1 (Ne.symm xqn3))
        refine oGo.invokevirtual (pc' := 191) (k' := 13) (n' := 341) (a := a61) (argsL := []) (rest := []) at_188 rfl (w91 hG) (w92 hG) (w94 hG) (w94 hG) rfl (w93 hG) (w45 hG) (w95 hG) (by decide) pd5 rfl rfl rfl xqE (c_isEmpty hG a61 li (Int32.ofNat 3) 1 0 (by decide) _ xqG3 xqG4 f580 f581) (by simp) (by decide) (Nat.le_of_ble_eq_true rfl) rfl rfl (by decide) (by decide) ?_
        intro v582 h583 sh583 q584
        obtain ⟨rfl, ee⟩ := q584
        obtain rfl := ee.symm
        refine ⟨_, fun _ hx => Or.inl hx, ?_⟩
        show oGo l Z a0 EL True pP eE sS mM _ bB tT cC _ _ _ _ _ _ _ _ [pz, an, li, a61, a36, a19, a12, a4] h575 13 341 191 #[.val (.int i0), .val (.int i1), .val (.int i2), .val (.int (3 : Int32)), .val (.int (1 : Int32)), .val (.int (1 : Int32)), .val (.ref a4), .val (.ref a12), .val (.ref a36), .val (.ref a61), .val (.int (0 : Int32)), .unset] [.int (0 : Int32)]
        refine oGo.istore (pc' := 193) (Ls' := #[.val (.int i0), .val (.int i1), .val (.int i2), .val (.int (3 : Int32)), .val (.int (1 : Int32)), .val (.int (1 : Int32)), .val (.ref a4), .val (.ref a12), .val (.ref a36), .val (.ref a61), .val (.int (0 : Int32)), .val (.int (0 : Int32))]) at_191 rfl rfl ?_
        refine oGo.iload (pc' := 195) at_193 rfl rfl ?_
        refine oGo.if_ne (pc1 := 198) (pc2 := 221) at_195 rfl (by decide) (fun q => by first | exact absurd q (by decide) | exact absurd (by decide) q) (fun q585 => ?_)
        refine oGo.iload (pc' := 200) at_198 rfl rfl ?_
        refine oGo.iload_n (pc' := 201) at_200 rfl rfl ?_
        refine oGo.if_ne (pc1 := 204) (pc2 := 213) at_201 rfl (by decide) (fun q586 => ?_) (fun q => by first | exact absurd q (by decide) | exact absurd (by decide) q)
        refine oGo.iconst (pc' := 214) (v := 0) at_213 rfl (by decide) ?_
        refine oGo.icmp_ne (pc1 := 217) (pc2 := 221) at_214 rfl (by decide) (fun q => by first | exact absurd q (by decide) | exact absurd (by decide) q) (fun q587 => ?_)
        refine oGo.iconst (pc' := 218) (v := 1) at_217 rfl (by decide) ?_
        refine oGo.goto (pc' := 222) at_218 (by decide) ?_
        exact oGo.nreturn at_222 rfl (by simp) rfl (by decide) (by decide) rfl (fun _ q => q.elim)
set_option maxRecDepth 65536 in
set_option maxHeartbeats 4000000 in
theorem comes_1 {Post : Tables → Env → Array Value → State → Outcome → State → Prop} (hpost : ∀ tb e args s v u, (limb_1_1.after args s (.returned v) u = true ∧ limb_1_2.after args s (.returned v) u = true) → D.FramedW s (.returned v) u (Jvm.fieldLocs frame_1_writes args s ++ Jvm.arrayLocs frame_1_arrays args s ++ Jvm.staticLocs frame_1_statics s) 32 2688 → Post tb e args s (.returned v) u) :
    ArmFor flags0 classFile x code maxLocals ret World_1 tables_1 room_1 Calls_1 rest_1 Pre_1 Post := by
  intro l hfl _ _ p e ha hc hk s m args below hf hA hF happ hP
  obtain ⟨hcalls, hrest, hpre⟩ := hP
  obtain ⟨-, -, -, hnamed, -, -, -, hat⟩ := (Spec.applies_iff hf).mp happ
  obtain ⟨hg, hn⟩ := and_e (Cond.before_iff.mp (show (Jvm.Cond.and given_1 narrow_1).before args s = true from hpre))
  obtain ⟨g0, g1⟩ := and_e hg
  obtain ⟨t0, r0⟩ := and_e g1
  obtain ⟨t1, r1⟩ := and_e r0
  obtain ⟨w0, w1, w2, rfl⟩ : ∃ w0 w1 w2 : Value, args = #[w0, w1, w2] := by
    have hs : args.size = 3 := by simpa [Cond.value, given_1] using g0
    obtain ⟨L⟩ := args
    match L, hs with
    | [w0, w1, w2], _ => exact ⟨w0, w1, w2, rfl⟩
  have hw := fun d (hd : d ∈ tables_1) => atoms_spec (ws := Jvm.Cond.code x code maxLocals ret :: tables_1) hat d (List.mem_cons_of_mem _ hd)
  obtain ⟨hsets, hown0⟩ := atoms_of _ (rest_1_c_eq ▸ (show rest_1_c.before _ s = true from hrest))
  obtain ⟨i0, ei0⟩ := is_v t0
  obtain rfl : w0 = (.int i0) := Option.some.inj ei0
  obtain ⟨i1, ei1⟩ := is_v t1
  obtain rfl : w1 = (.int i1) := Option.some.inj ei1
  obtain ⟨i2, ei2⟩ := is_v r1
  obtain rfl : w2 = (.int i2) := Option.some.inj ei2
  have hG : oG #[.int i0, .int i1, .int i2] s [] := ⟨hw, EW.nil, hsets, trivial⟩
  have hCH : CHv s [] s.vm s.heap := fun p hp => by simp at hp
  obtain ⟨n, o, h1, h2, h3, v, L, rfl, ⟨rfl, -⟩, hN, -, -, -, hR⟩ := c_law (l := l) hG i0 i1 i2 s.heap p e ha hc hk s m _ below hf ((Spec.applies_iff_loose hf).mp happ).1 ⟨rfl, State.Warmed39.refl s, rfl, ext_refl _, hCH, (fun x hx => by simp at hx)⟩ trivial
  refine ⟨n, _, h1, h2, h3, hpost _ _ _ _ _ _ ⟨Cond.after_iff.mpr rfl, Cond.after_iff.mpr (eq_i res_at (Term.int_eval (1)) rfl)⟩ ⟨⟨_, rfl⟩, hR.2.1, hR.2.2.1, (hR.2.2.2.sift fun y hy => Or.inr (hN y hy)).mono (by decide) (by decide)⟩⟩
theorem main_1_1 : Claimed_1_1 := comes_1 fun _ _ _ _ _ _ h hF => ⟨h.1, hF⟩
theorem main_1_2 : Claimed_1_2 := comes_1 fun _ _ _ _ _ _ h hF => ⟨h.2, hF⟩
end Jvm.Pilot.@@N@@
namespace Jvm.Pilot.@@N@@
open Jvm Jvm.ClassFile Sem Op Lib Jvm.Free Jvm.Stand Jvm.Pilot.@@N@@.Jvm.D
/-! MADE BY PROGRAM (witnessworld.py) out of the Statement's table words and the real class files: 29 classes; the members and pool entries that the words name. The judged class is class 1, her method 1. -/
namespace start1
open Jvm.ClassFile
def u (s : String) : CpInfo := .utf8 (stringToUtf16 s)
/-- a pool by its gaps: so many unusable entries, then the entry; so many at the end -/
def gap : Nat → List CpInfo → List CpInfo
  | 0, r => r
  | n + 1, r => .unusable :: gap n r
def poolList (es : List (Nat × CpInfo)) (last : Nat) : List CpInfo := es.foldr (fun e r => gap e.1 (e.2 :: r)) (gap last [])
def pool (es : List (Nat × CpInfo)) (last : Nat) : Array CpInfo := ⟨poolList es last⟩
def fileOf (pool : Array CpInfo) (this : Nat) (attrs : Array Attribute := #[]) (ms : Array MethodInfo := #[]) (fl : Nat := 33) (sup : Nat := 0) (ifs : Array Nat := #[]) (fds : Array FieldInfo := #[]) : ClassFile where
  minorVersion := 0
  majorVersion := 65
  constantPool := pool
  accessFlags := fl
  thisClass := this
  superClass := sup
  interfaces := ifs
  fields := fds
  methods := ms
  attributes := attrs
def plain (name : String) (sup : Option ClassId) : Class where
  name := name
  kind := .ordinary
  loader := none
  accessFlags := 33
  super := sup
  interfaces := #[]
  cf := none
  fields := #[]
  methods := #[]
  instanceTypes := #[]
  staticTypes := #[]
  resolved := #[]
  callSites := []
  init := .initialized
  statics := none
  mirror := none

def pool0 : Array CpInfo := pool [(5, u "<init>"), (0, u "()V"), (1, .class_ 10), (1, u "java/lang/Object")] 113

def k0c0 : Code := { maxStack := 0, maxLocals := 1, code := object_method_1_code, exceptionTable := #[], attributes := #[] }
def k0m0 : Method := { name := "<init>", desc := "()V", sig := { parameters := [], returnType := none }, accessFlags := 1, code := some k0c0 }
/-- java/lang/Object -/
def k0 : Class := { plain "java/lang/Object" none with
  accessFlags := 33
  interfaces := #[]
  cf := some (fileOf pool0 8 #[] #[{ accessFlags := 1, nameIndex := 5, descriptorIndex := 6, attributes := #[] }] 33 0 #[] #[])
  fields := #[]
  methods := #[k0m0]
  instanceTypes := #[]
  staticTypes := #[]
  resolved := Array.replicate 124 none
  statics := none }

def pool1 : Array CpInfo := pool [(2, .class_ 4), (0, .nameAndType 5 6), (0, u "java/lang/Object"), (0, u "<init>"), (0, u "()V"), (0, .class_ 8), (0, u "com/example/nonet/nonet/Answer"), (0, .methodref 7 10), (0, .nameAndType 5 11), (0, u "([BI)V"), (0, .class_ 13), (0, u "com/example/nonet/nonet/Message"), (0, .string 15), (0, u "x"), (0, .string 17), (0, u "y"), (0, .methodref 12 19), (0, .nameAndType 5 20), (0, u "(Ljava/lang/String;Ljava/lang/String;)V"), (0, .class_ 22), (0, u "com/example/nonet/nonet/Batch"), (0, .methodref 21 3), (0, .methodref 25 26), (0, .class_ 27), (0, .nameAndType 28 29), (0, u "com/example/nonet/nonet/BatchIsFullPinLaw"), (0, u "addOne"), (0, u "(Lcom/example/nonet/nonet/Batch;Z[BLcom/example/nonet/nonet/Answer;)V"), (0, .methodref 21 31), (0, .nameAndType 32 33), (0, u "report"), (0, u "(Lcom/example/nonet/nonet/Message;)V"), (0, .methodref 21 35), (0, .nameAndType 36 37), (0, u "markLast"), (0, u "(I)V"), (0, .methodref 21 39), (0, .nameAndType 40 41), (0, u "isFull"), (0, u "()Z"), (0, .methodref 21 43), (0, .nameAndType 44 41), (0, u "isEmpty"), (0, .methodref 21 46), (0, .nameAndType 47 48), (0, u "add"), (0, u "([B)V"), (0, .methodref 21 50), (0, .nameAndType 47 51), (0, u "(Lcom/example/nonet/nonet/Answer;)V"), (2, u "law"), (0, u "(III)Z")] 5

def k1m0 : Method := { name := "<init>", desc := "()V", sig := { parameters := [], returnType := none }, accessFlags := 1, code := none }
def k1c1 : Code := { maxStack := 6, maxLocals := 12, code := code, exceptionTable := #[], attributes := #[] }
def k1m1 : Method := { name := "law", desc := "(III)Z", sig := { parameters := [.int, .int, .int], returnType := some .boolean }, accessFlags := 9, code := some k1c1 }
def k1c2 : Code := { maxStack := 2, maxLocals := 4, code := method_3_code, exceptionTable := #[], attributes := #[] }
def k1m2 : Method := { name := "addOne", desc := "(Lcom/example/nonet/nonet/Batch;Z[BLcom/example/nonet/nonet/Answer;)V", sig := { parameters := [(.object "com/example/nonet/nonet/Batch"), .boolean, (.array .byte), (.object "com/example/nonet/nonet/Answer")], returnType := none }, accessFlags := 10, code := some k1c2 }
/-- com/example/nonet/nonet/BatchIsFullPinLaw -/
def k1 : Class := { plain "com/example/nonet/nonet/BatchIsFullPinLaw" (some 0) with
  accessFlags := 49
  interfaces := #[]
  cf := some (fileOf pool1 25 #[] #[{ accessFlags := 1, nameIndex := 5, descriptorIndex := 6, attributes := #[] }, { accessFlags := 9, nameIndex := 54, descriptorIndex := 55, attributes := #[] }, { accessFlags := 10, nameIndex := 28, descriptorIndex := 29, attributes := #[] }] 49 2 #[] #[])
  fields := #[]
  methods := #[k1m0, k1m1, k1m2]
  instanceTypes := #[]
  staticTypes := #[]
  resolved := Array.replicate 61 none
  statics := none }

def pool2 : Array CpInfo := pool [(1, .methodref 2 3), (0, .class_ 4), (0, .nameAndType 5 6), (0, u "java/lang/Object"), (0, u "<init>"), (0, u "()V"), (0, .class_ 8), (0, u "java/lang/Record")] 13

def k2c0 : Code := { maxStack := 1, maxLocals := 1, code := jdk_30_method_1_code, exceptionTable := #[], attributes := #[] }
def k2m0 : Method := { name := "<init>", desc := "()V", sig := { parameters := [], returnType := none }, accessFlags := 4, code := some k2c0 }
/-- java/lang/Record -/
def k2 : Class := { plain "java/lang/Record" (some 0) with
  accessFlags := 1057
  interfaces := #[]
  cf := some (fileOf pool2 7 #[] #[{ accessFlags := 4, nameIndex := 5, descriptorIndex := 6, attributes := #[] }] 1057 2 #[] #[])
  fields := #[]
  methods := #[k2m0]
  instanceTypes := #[]
  staticTypes := #[]
  resolved := Array.replicate 22 none
  statics := none }

def pool3 : Array CpInfo := pool [(1, .methodref 2 3), (0, .class_ 4), (0, .nameAndType 5 6), (0, u "java/lang/Record"), (0, u "<init>"), (0, u "()V"), (0, .fieldref 8 9), (0, .class_ 10), (0, .nameAndType 11 12), (0, u "com/example/nonet/nonet/Answer"), (0, u "line"), (0, u "[B"), (0, .fieldref 8 14), (0, .nameAndType 15 16), (0, u "status"), (0, u "I"), (14, u "([BI)V")] 41

def k3c0 : Code := { maxStack := 2, maxLocals := 3, code := prog_1_method_2_code, exceptionTable := #[], attributes := #[] }
def k3m0 : Method := { name := "<init>", desc := "([BI)V", sig := { parameters := [(.array .byte), .int], returnType := none }, accessFlags := 0, code := some k3c0 }
/-- com/example/nonet/nonet/Answer -/
def k3 : Class := { plain "com/example/nonet/nonet/Answer" (some 2) with
  accessFlags := 48
  interfaces := #[]
  cf := some (fileOf pool3 8 #[] #[{ accessFlags := 0, nameIndex := 5, descriptorIndex := 31, attributes := #[] }] 48 2 #[] #[{ accessFlags := 18, nameIndex := 11, descriptorIndex := 12, attributes := #[] }, { accessFlags := 18, nameIndex := 15, descriptorIndex := 16, attributes := #[] }])
  fields := #[{ name := "line", type := (.array .byte), accessFlags := 18, slot := 0, constantValue := 0 }, { name := "status", type := .int, accessFlags := 18, slot := 1, constantValue := 0 }]
  methods := #[k3m0]
  instanceTypes := #[(.array .byte), .int]
  staticTypes := #[]
  resolved := Array.replicate 73 none
  statics := none }

def pool4 : Array CpInfo := pool [(1, .methodref 2 3), (0, .class_ 4), (0, .nameAndType 5 6), (0, u "java/lang/Record"), (0, u "<init>"), (0, u "()V"), (0, .fieldref 8 9), (0, .class_ 10), (0, .nameAndType 11 12), (0, u "com/example/nonet/nonet/Message"), (0, u "input"), (0, u "Ljava/lang/String;"), (0, .fieldref 8 14), (0, .nameAndType 15 16), (0, u "line"), (0, u "J"), (0, .fieldref 8 18), (0, .nameAndType 19 12), (0, u "problem"), (0, .methodref 8 21), (0, .nameAndType 5 22), (0, u "(Ljava/lang/String;JLjava/lang/String;)V"), (15, u "(Ljava/lang/String;Ljava/lang/String;)V")] 43

def k4c0 : Code := { maxStack := 5, maxLocals := 3, code := prog_13_method_1_code, exceptionTable := #[], attributes := #[] }
def k4m0 : Method := { name := "<init>", desc := "(Ljava/lang/String;Ljava/lang/String;)V", sig := { parameters := [(.object "java/lang/String"), (.object "java/lang/String")], returnType := none }, accessFlags := 0, code := some k4c0 }
def k4c1 : Code := { maxStack := 3, maxLocals := 5, code := prog_13_method_2_code, exceptionTable := #[], attributes := #[] }
def k4m1 : Method := { name := "<init>", desc := "(Ljava/lang/String;JLjava/lang/String;)V", sig := { parameters := [(.object "java/lang/String"), .long, (.object "java/lang/String")], returnType := none }, accessFlags := 0, code := some k4c1 }
/-- com/example/nonet/nonet/Message -/
def k4 : Class := { plain "com/example/nonet/nonet/Message" (some 2) with
  accessFlags := 48
  interfaces := #[]
  cf := some (fileOf pool4 8 #[] #[{ accessFlags := 0, nameIndex := 5, descriptorIndex := 38, attributes := #[] }, { accessFlags := 0, nameIndex := 5, descriptorIndex := 22, attributes := #[] }] 48 2 #[] #[{ accessFlags := 18, nameIndex := 11, descriptorIndex := 12, attributes := #[] }, { accessFlags := 18, nameIndex := 15, descriptorIndex := 16, attributes := #[] }, { accessFlags := 18, nameIndex := 19, descriptorIndex := 12, attributes := #[] }])
  fields := #[{ name := "input", type := (.object "java/lang/String"), accessFlags := 18, slot := 0, constantValue := 0 }, { name := "line", type := .long, accessFlags := 18, slot := 1, constantValue := 0 }, { name := "problem", type := (.object "java/lang/String"), accessFlags := 18, slot := 2, constantValue := 0 }]
  methods := #[k4m0, k4m1]
  instanceTypes := #[(.object "java/lang/String"), .long, (.object "java/lang/String")]
  staticTypes := #[]
  resolved := Array.replicate 82 none
  statics := none }

def pool5 : Array CpInfo := pool [(1, .class_ 2), (0, u "java/io/Serializable"), (0, .class_ 4), (0, u "java/lang/Object")] 2

/-- java/io/Serializable -/
def k5 : Class := { plain "java/io/Serializable" (some 0) with
  accessFlags := 1537
  interfaces := #[]
  cf := some (fileOf pool5 1 #[] #[] 1537 3 #[] #[])
  fields := #[]
  methods := #[]
  instanceTypes := #[]
  staticTypes := #[]
  resolved := Array.replicate 7 none
  statics := none }

def pool6 : Array CpInfo := pool [(1, .class_ 2), (0, u "java/lang/Comparable"), (0, .class_ 4), (0, u "java/lang/Object")] 7

/-- java/lang/Comparable -/
def k6 : Class := { plain "java/lang/Comparable" (some 0) with
  accessFlags := 1537
  interfaces := #[]
  cf := some (fileOf pool6 1 #[] #[] 1537 3 #[] #[])
  fields := #[]
  methods := #[]
  instanceTypes := #[]
  staticTypes := #[]
  resolved := Array.replicate 12 none
  statics := none }

def pool7 : Array CpInfo := pool [(2, .class_ 4), (1, u "java/lang/CharSequence"), (42, .class_ 48), (0, u "java/lang/CharSequence$1CodePointIterator"), (10, .class_ 60), (0, u "java/lang/CharSequence$1CharIterator"), (5, .class_ 67), (0, u "java/lang/Object")] 63

/-- java/lang/CharSequence -/
def k7 : Class := { plain "java/lang/CharSequence" (some 0) with
  accessFlags := 1537
  interfaces := #[]
  cf := some (fileOf pool7 2 #[.nestMembers #[47, 59]] #[] 1537 66 #[] #[])
  fields := #[]
  methods := #[]
  instanceTypes := #[]
  staticTypes := #[]
  resolved := Array.replicate 131 none
  statics := none }

def pool8 : Array CpInfo := pool [(1, .class_ 2), (0, u "java/lang/constant/Constable"), (0, .class_ 4), (0, u "java/lang/Object")] 6

/-- java/lang/constant/Constable -/
def k8 : Class := { plain "java/lang/constant/Constable" (some 0) with
  accessFlags := 1537
  interfaces := #[]
  cf := some (fileOf pool8 1 #[] #[] 1537 3 #[] #[])
  fields := #[]
  methods := #[]
  instanceTypes := #[]
  staticTypes := #[]
  resolved := Array.replicate 11 none
  statics := none }

def pool9 : Array CpInfo := pool [(1, .class_ 2), (0, u "java/lang/constant/ConstantDesc"), (0, .class_ 4), (0, u "java/lang/Object")] 32

/-- java/lang/constant/ConstantDesc -/
def k9 : Class := { plain "java/lang/constant/ConstantDesc" (some 0) with
  accessFlags := 1537
  interfaces := #[]
  cf := some (fileOf pool9 1 #[] #[] 1537 3 #[] #[])
  fields := #[]
  methods := #[]
  instanceTypes := #[]
  staticTypes := #[]
  resolved := Array.replicate 37 none
  statics := none }

def pool10 : Array CpInfo := pool [(2, .class_ 4), (1, u "java/lang/Object"), (0, u "<init>"), (0, u "()V"), (3, .class_ 12), (1, u "java/lang/String"), (0, u "value"), (0, u "[B"), (2, u "coder"), (0, u "B"), (2, u "hash"), (0, u "I"), (2, u "hashIsZero"), (0, u "Z"), (13, u "COMPACT_STRINGS"), (534, .class_ 576), (0, u "java/lang/CharSequence"), (22, u "CASE_INSENSITIVE_ORDER"), (0, u "Ljava/util/Comparator;"), (500, u "serialPersistentFields"), (0, u "[Ljava/io/ObjectStreamField;"), (0, .class_ 1104), (0, u "java/lang/String$CaseInsensitiveComparator"), (1, .class_ 1107), (0, u "java/io/Serializable"), (0, .class_ 1109), (0, u "java/lang/Comparable"), (0, .class_ 1111), (0, u "java/lang/constant/Constable"), (0, .class_ 1113), (0, u "java/lang/constant/ConstantDesc"), (2, u "serialVersionUID"), (0, u "J"), (3, u "REPL"), (0, u "C"), (2, u "LATIN1"), (1, u "UTF16")] 323

def k10m0 : Method := { name := "<init>", desc := "()V", sig := { parameters := [], returnType := none }, accessFlags := 1, code := none }
/-- java/lang/String -/
def k10 : Class := { plain "java/lang/String" (some 0) with
  accessFlags := 49
  interfaces := #[5, 6, 7, 8, 9]
  cf := some (fileOf pool10 10 #[.nestMembers #[1103]] #[{ accessFlags := 1, nameIndex := 5, descriptorIndex := 6, attributes := #[] }] 49 2 #[1106, 1108, 575, 1110, 1112] #[{ accessFlags := 18, nameIndex := 13, descriptorIndex := 14, attributes := #[] }, { accessFlags := 18, nameIndex := 17, descriptorIndex := 18, attributes := #[] }, { accessFlags := 2, nameIndex := 21, descriptorIndex := 22, attributes := #[] }, { accessFlags := 2, nameIndex := 25, descriptorIndex := 26, attributes := #[] }, { accessFlags := 26, nameIndex := 1116, descriptorIndex := 1117, attributes := #[] }, { accessFlags := 24, nameIndex := 40, descriptorIndex := 26, attributes := #[] }, { accessFlags := 26, nameIndex := 1101, descriptorIndex := 1102, attributes := #[] }, { accessFlags := 26, nameIndex := 1121, descriptorIndex := 1122, attributes := #[] }, { accessFlags := 25, nameIndex := 599, descriptorIndex := 600, attributes := #[] }, { accessFlags := 24, nameIndex := 1125, descriptorIndex := 18, attributes := #[] }, { accessFlags := 24, nameIndex := 1127, descriptorIndex := 18, attributes := #[] }])
  fields := #[{ name := "value", type := (.array .byte), accessFlags := 18, slot := 0, constantValue := 0 }, { name := "coder", type := .byte, accessFlags := 18, slot := 1, constantValue := 0 }, { name := "hash", type := .int, accessFlags := 2, slot := 2, constantValue := 0 }, { name := "hashIsZero", type := .boolean, accessFlags := 2, slot := 3, constantValue := 0 }, { name := "serialVersionUID", type := .long, accessFlags := 26, slot := 0, constantValue := 0 }, { name := "COMPACT_STRINGS", type := .boolean, accessFlags := 24, slot := 1, constantValue := 0 }, { name := "serialPersistentFields", type := (.array (.object "java/io/ObjectStreamField")), accessFlags := 26, slot := 2, constantValue := 0 }, { name := "REPL", type := .char, accessFlags := 26, slot := 3, constantValue := 0 }, { name := "CASE_INSENSITIVE_ORDER", type := (.object "java/util/Comparator"), accessFlags := 25, slot := 4, constantValue := 0 }, { name := "LATIN1", type := .byte, accessFlags := 24, slot := 5, constantValue := 0 }, { name := "UTF16", type := .byte, accessFlags := 24, slot := 6, constantValue := 0 }]
  methods := #[k10m0]
  instanceTypes := #[(.array .byte), .byte, .int, .boolean]
  staticTypes := #[.long, .boolean, (.array (.object "java/io/ObjectStreamField")), .char, (.object "java/util/Comparator"), .byte, .byte]
  resolved := Array.replicate 1451 none
  statics := none }

def pool11 : Array CpInfo := pool [(1, .methodref 2 3), (0, .class_ 4), (0, .nameAndType 5 6), (0, u "java/lang/Object"), (0, u "<init>"), (0, u "()V"), (0, .class_ 8), (0, u "com/example/nonet/nonet/Batch"), (0, .class_ 10), (0, u "[B"), (0, .fieldref 7 12), (0, .nameAndType 13 14), (0, u "puzzles"), (0, u "[[B"), (0, .class_ 16), (0, u "com/example/nonet/nonet/Answer"), (0, .fieldref 7 18), (0, .nameAndType 19 20), (0, u "answers"), (0, u "[Lcom/example/nonet/nonet/Answer;"), (0, .class_ 22), (0, u "java/util/ArrayList"), (0, .methodref 21 3), (0, .fieldref 7 25), (0, .nameAndType 26 27), (0, u "messages"), (0, u "Ljava/util/List;"), (0, .fieldref 7 29), (0, .nameAndType 30 31), (0, u "size"), (0, u "I"), (0, .interfaceMethodref 33 34), (0, .class_ 35), (0, .nameAndType 36 37), (0, u "java/util/List"), (0, u "add"), (0, u "(Ljava/lang/Object;)Z"), (0, .interfaceMethodref 33 39), (0, .nameAndType 40 41), (0, u "isEmpty"), (0, u "()Z"), (2, u "flush"), (0, u "Z"), (0, .fieldref 7 47), (0, .nameAndType 48 45), (0, u "last"), (0, .fieldref 7 50), (0, .nameAndType 51 31), (0, u "status"), (0, .methodref 53 54), (0, .class_ 55), (0, .nameAndType 56 57), (0, u "java/lang/Math"), (0, u "max"), (0, u "(II)I"), (15, u "output"), (32, u "([B)V"), (2, u "LINES"), (6, u "(Lcom/example/nonet/nonet/Answer;)V"), (0, u "report"), (0, u "(Lcom/example/nonet/nonet/Message;)V"), (0, u "isFull"), (2, u "markLast"), (0, u "(I)V")] 9

def k11c0 : Code := { maxStack := 3, maxLocals := 1, code := prog_2_method_1_code, exceptionTable := #[], attributes := #[] }
def k11m0 : Method := { name := "<init>", desc := "()V", sig := { parameters := [], returnType := none }, accessFlags := 0, code := some k11c0 }
def k11c1 : Code := { maxStack := 5, maxLocals := 2, code := prog_2_method_2_code, exceptionTable := #[], attributes := #[] }
def k11m1 : Method := { name := "add", desc := "([B)V", sig := { parameters := [(.array .byte)], returnType := none }, accessFlags := 0, code := some k11c1 }
def k11c2 : Code := { maxStack := 5, maxLocals := 2, code := prog_2_method_3_code, exceptionTable := #[], attributes := #[] }
def k11m2 : Method := { name := "add", desc := "(Lcom/example/nonet/nonet/Answer;)V", sig := { parameters := [(.object "com/example/nonet/nonet/Answer")], returnType := none }, accessFlags := 0, code := some k11c2 }
def k11c3 : Code := { maxStack := 2, maxLocals := 2, code := prog_2_method_4_code, exceptionTable := #[], attributes := #[] }
def k11m3 : Method := { name := "report", desc := "(Lcom/example/nonet/nonet/Message;)V", sig := { parameters := [(.object "com/example/nonet/nonet/Message")], returnType := none }, accessFlags := 0, code := some k11c3 }
def k11c4 : Code := { maxStack := 2, maxLocals := 1, code := prog_2_method_5_code, exceptionTable := #[], attributes := #[] }
def k11m4 : Method := { name := "isFull", desc := "()Z", sig := { parameters := [], returnType := some .boolean }, accessFlags := 0, code := some k11c4 }
def k11c5 : Code := { maxStack := 1, maxLocals := 1, code := prog_2_method_6_code, exceptionTable := #[], attributes := #[] }
def k11m5 : Method := { name := "isEmpty", desc := "()Z", sig := { parameters := [], returnType := some .boolean }, accessFlags := 0, code := some k11c5 }
def k11c6 : Code := { maxStack := 3, maxLocals := 2, code := prog_2_method_8_code, exceptionTable := #[], attributes := #[] }
def k11m6 : Method := { name := "markLast", desc := "(I)V", sig := { parameters := [.int], returnType := none }, accessFlags := 0, code := some k11c6 }
/-- com/example/nonet/nonet/Batch -/
def k11 : Class := { plain "com/example/nonet/nonet/Batch" (some 0) with
  accessFlags := 48
  interfaces := #[]
  cf := some (fileOf pool11 7 #[] #[{ accessFlags := 0, nameIndex := 5, descriptorIndex := 6, attributes := #[] }, { accessFlags := 0, nameIndex := 36, descriptorIndex := 106, attributes := #[] }, { accessFlags := 0, nameIndex := 36, descriptorIndex := 116, attributes := #[] }, { accessFlags := 0, nameIndex := 117, descriptorIndex := 118, attributes := #[] }, { accessFlags := 0, nameIndex := 119, descriptorIndex := 41, attributes := #[] }, { accessFlags := 0, nameIndex := 40, descriptorIndex := 41, attributes := #[] }, { accessFlags := 0, nameIndex := 122, descriptorIndex := 123, attributes := #[] }] 48 2 #[] #[{ accessFlags := 24, nameIndex := 109, descriptorIndex := 31, attributes := #[] }, { accessFlags := 18, nameIndex := 13, descriptorIndex := 14, attributes := #[] }, { accessFlags := 18, nameIndex := 19, descriptorIndex := 20, attributes := #[] }, { accessFlags := 2, nameIndex := 30, descriptorIndex := 31, attributes := #[] }, { accessFlags := 18, nameIndex := 26, descriptorIndex := 27, attributes := #[] }, { accessFlags := 2, nameIndex := 51, descriptorIndex := 31, attributes := #[] }, { accessFlags := 2, nameIndex := 73, descriptorIndex := 10, attributes := #[] }, { accessFlags := 2, nameIndex := 44, descriptorIndex := 45, attributes := #[] }, { accessFlags := 2, nameIndex := 48, descriptorIndex := 45, attributes := #[] }])
  fields := #[{ name := "LINES", type := .int, accessFlags := 24, slot := 0, constantValue := 0 }, { name := "puzzles", type := (.array (.array .byte)), accessFlags := 18, slot := 0, constantValue := 0 }, { name := "answers", type := (.array (.object "com/example/nonet/nonet/Answer")), accessFlags := 18, slot := 1, constantValue := 0 }, { name := "size", type := .int, accessFlags := 2, slot := 2, constantValue := 0 }, { name := "messages", type := (.object "java/util/List"), accessFlags := 18, slot := 3, constantValue := 0 }, { name := "status", type := .int, accessFlags := 2, slot := 4, constantValue := 0 }, { name := "output", type := (.array .byte), accessFlags := 2, slot := 5, constantValue := 0 }, { name := "flush", type := .boolean, accessFlags := 2, slot := 6, constantValue := 0 }, { name := "last", type := .boolean, accessFlags := 2, slot := 7, constantValue := 0 }]
  methods := #[k11m0, k11m1, k11m2, k11m3, k11m4, k11m5, k11m6]
  instanceTypes := #[(.array (.array .byte)), (.array (.object "com/example/nonet/nonet/Answer")), .int, (.object "java/util/List"), .int, (.array .byte), .boolean, .boolean]
  staticTypes := #[.int]
  resolved := Array.replicate 133 none
  statics := none }

def pool12 : Array CpInfo := pool [(8, .class_ 10), (1, u "java/lang/Iterable"), (24, .class_ 36), (0, u "java/lang/Object")] 25

/-- java/lang/Iterable -/
def k12 : Class := { plain "java/lang/Iterable" (some 0) with
  accessFlags := 1537
  interfaces := #[]
  cf := some (fileOf pool12 8 #[] #[] 1537 35 #[] #[])
  fields := #[]
  methods := #[]
  instanceTypes := #[]
  staticTypes := #[]
  resolved := Array.replicate 62 none
  statics := none }

def pool13 : Array CpInfo := pool [(10, .class_ 12), (1, u "java/util/Collection"), (47, .class_ 61), (0, u "java/lang/Object"), (0, .class_ 63), (0, u "java/lang/Iterable")] 51

/-- java/util/Collection -/
def k13 : Class := { plain "java/util/Collection" (some 0) with
  accessFlags := 1537
  interfaces := #[12]
  cf := some (fileOf pool13 10 #[] #[] 1537 60 #[62] #[])
  fields := #[]
  methods := #[]
  instanceTypes := #[]
  staticTypes := #[]
  resolved := Array.replicate 115 none
  statics := none }

def pool14 : Array CpInfo := pool [(1, .methodref 2 3), (0, .class_ 4), (0, .nameAndType 5 6), (0, u "java/lang/Object"), (0, u "<init>"), (0, u "()V"), (1, .class_ 10), (1, u "java/util/AbstractCollection"), (66, .class_ 78), (0, u "java/util/Collection")] 81

def k14c0 : Code := { maxStack := 1, maxLocals := 1, code := jdk_22_method_1_code, exceptionTable := #[], attributes := #[] }
def k14m0 : Method := { name := "<init>", desc := "()V", sig := { parameters := [], returnType := none }, accessFlags := 4, code := some k14c0 }
/-- java/util/AbstractCollection -/
def k14 : Class := { plain "java/util/AbstractCollection" (some 0) with
  accessFlags := 1057
  interfaces := #[13]
  cf := some (fileOf pool14 8 #[] #[{ accessFlags := 4, nameIndex := 5, descriptorIndex := 6, attributes := #[] }] 1057 2 #[77] #[])
  fields := #[]
  methods := #[k14m0]
  instanceTypes := #[]
  staticTypes := #[]
  resolved := Array.replicate 160 none
  statics := none }

def pool15 : Array CpInfo := pool [(8, .class_ 10), (1, u "java/util/SequencedCollection"), (15, .class_ 27), (0, u "java/lang/Object"), (0, .class_ 29), (0, u "java/util/Collection")] 27

/-- java/util/SequencedCollection -/
def k15 : Class := { plain "java/util/SequencedCollection" (some 0) with
  accessFlags := 1537
  interfaces := #[13]
  cf := some (fileOf pool15 8 #[] #[] 1537 26 #[28] #[])
  fields := #[]
  methods := #[]
  instanceTypes := #[]
  staticTypes := #[]
  resolved := Array.replicate 57 none
  statics := none }

def pool16 : Array CpInfo := pool [(8, .class_ 10), (1, u "java/util/List"), (7, u "()Z"), (41, u "add"), (3, u "(Ljava/lang/Object;)Z"), (2, u "isEmpty"), (35, .class_ 104), (0, u "java/lang/Object"), (15, .class_ 121), (0, u "java/util/SequencedCollection")] 129

def k16m0 : Method := { name := "isEmpty", desc := "()Z", sig := { parameters := [], returnType := some .boolean }, accessFlags := 1025, code := none }
def k16m1 : Method := { name := "add", desc := "(Ljava/lang/Object;)Z", sig := { parameters := [(.object "java/lang/Object")], returnType := some .boolean }, accessFlags := 1025, code := none }
/-- java/util/List -/
def k16 : Class := { plain "java/util/List" (some 0) with
  accessFlags := 1537
  interfaces := #[15]
  cf := some (fileOf pool16 8 #[] #[{ accessFlags := 1025, nameIndex := 67, descriptorIndex := 18, attributes := #[] }, { accessFlags := 1025, nameIndex := 60, descriptorIndex := 64, attributes := #[] }] 1537 103 #[120] #[])
  fields := #[]
  methods := #[k16m0, k16m1]
  instanceTypes := #[]
  staticTypes := #[]
  resolved := Array.replicate 251 none
  statics := none }

def pool17 : Array CpInfo := pool [(1, .methodref 2 3), (0, .class_ 4), (0, .nameAndType 5 6), (0, u "java/util/AbstractCollection"), (0, u "<init>"), (0, u "()V"), (0, .fieldref 8 9), (0, .class_ 10), (0, .nameAndType 11 12), (0, u "java/util/AbstractList"), (0, u "modCount"), (0, u "I"), (64, .class_ 78), (0, u "java/util/AbstractList$Itr"), (3, .class_ 83), (0, u "java/util/AbstractList$ListItr"), (9, .class_ 94), (0, u "java/util/AbstractList$RandomAccessSubList"), (3, .class_ 99), (0, u "java/util/AbstractList$SubList"), (33, .class_ 134), (0, u "java/util/List"), (73, .class_ 209), (0, u "java/util/AbstractList$SubList$1"), (0, .class_ 211), (0, u "java/util/AbstractList$RandomAccessSpliterator")] 6

def k17c0 : Code := { maxStack := 2, maxLocals := 1, code := jdk_39_method_1_code, exceptionTable := #[], attributes := #[] }
def k17m0 : Method := { name := "<init>", desc := "()V", sig := { parameters := [], returnType := none }, accessFlags := 4, code := some k17c0 }
/-- java/util/AbstractList -/
def k17 : Class := { plain "java/util/AbstractList" (some 14) with
  accessFlags := 1057
  interfaces := #[16]
  cf := some (fileOf pool17 8 #[.nestMembers #[93, 98, 208, 210, 82, 77]] #[{ accessFlags := 4, nameIndex := 5, descriptorIndex := 6, attributes := #[] }] 1057 2 #[133] #[{ accessFlags := 132, nameIndex := 11, descriptorIndex := 12, attributes := #[] }])
  fields := #[{ name := "modCount", type := .int, accessFlags := 132, slot := 0, constantValue := 0 }]
  methods := #[k17m0]
  instanceTypes := #[.int]
  staticTypes := #[]
  resolved := Array.replicate 218 none
  statics := none }

def pool18 : Array CpInfo := pool [(1, .class_ 2), (0, u "java/util/RandomAccess"), (0, .class_ 4), (0, u "java/lang/Object")] 2

/-- java/util/RandomAccess -/
def k18 : Class := { plain "java/util/RandomAccess" (some 0) with
  accessFlags := 1537
  interfaces := #[]
  cf := some (fileOf pool18 1 #[] #[] 1537 3 #[] #[])
  fields := #[]
  methods := #[]
  instanceTypes := #[]
  staticTypes := #[]
  resolved := Array.replicate 7 none
  statics := none }

def pool19 : Array CpInfo := pool [(1, .class_ 2), (0, u "java/lang/Cloneable"), (0, .class_ 4), (0, u "java/lang/Object")] 2

/-- java/lang/Cloneable -/
def k19 : Class := { plain "java/lang/Cloneable" (some 0) with
  accessFlags := 1537
  interfaces := #[]
  cf := some (fileOf pool19 1 #[] #[] 1537 3 #[] #[])
  fields := #[]
  methods := #[]
  instanceTypes := #[]
  staticTypes := #[]
  resolved := Array.replicate 7 none
  statics := none }

def pool20 : Array CpInfo := pool [(1, .methodref 2 3), (0, .class_ 4), (0, .nameAndType 5 6), (0, u "java/util/AbstractList"), (0, u "<init>"), (0, u "()V"), (0, .class_ 8), (0, u "java/lang/Object"), (0, .fieldref 10 11), (0, .class_ 12), (0, .nameAndType 13 14), (0, u "java/util/ArrayList"), (0, u "elementData"), (0, u "[Ljava/lang/Object;"), (2, u "EMPTY_ELEMENTDATA"), (21, .fieldref 10 40), (0, .nameAndType 41 14), (0, u "DEFAULTCAPACITY_EMPTY_ELEMENTDATA"), (5, u "()[Ljava/lang/Object;"), (0, .fieldref 10 49), (0, .nameAndType 50 51), (0, u "size"), (0, u "I"), (11, .fieldref 10 64), (0, .nameAndType 65 51), (0, u "modCount"), (3, .methodref 10 70), (0, .nameAndType 71 72), (0, u "grow"), (0, u "(I)[Ljava/lang/Object;"), (6, .methodref 80 81), (0, .class_ 82), (0, .nameAndType 83 84), (0, u "java/lang/Math"), (0, u "max"), (0, u "(II)I"), (11, u "(Ljava/lang/Object;)Z"), (32, .methodref 10 130), (0, .nameAndType 71 47), (0, .methodref 10 132), (0, .nameAndType 133 134), (0, u "add"), (0, u "(Ljava/lang/Object;[Ljava/lang/Object;I)V"), (13, .class_ 149), (0, u "java/util/List"), (23, u "()Z"), (88, .class_ 263), (0, u "java/util/ArrayList$ListItr"), (3, .class_ 268), (0, u "java/util/ArrayList$Itr"), (7, .class_ 277), (0, u "java/util/ArrayList$SubList"), (12, .class_ 291), (0, u "java/util/ArrayList$ArrayListSpliterator"), (37, .class_ 330), (0, u "java/util/RandomAccess"), (0, .class_ 332), (0, u "java/lang/Cloneable"), (0, .class_ 334), (0, u "java/io/Serializable"), (0, u "serialVersionUID"), (0, u "J"), (3, u "DEFAULT_CAPACITY"), (22, u "isEmpty"), (136, .class_ 501), (0, u "java/util/ArrayList$SubList$2"), (0, .class_ 503), (0, u "java/util/ArrayList$SubList$1")] 5

def k20c0 : Code := { maxStack := 2, maxLocals := 1, code := jdk_38_method_2_code, exceptionTable := #[], attributes := #[] }
def k20m0 : Method := { name := "<init>", desc := "()V", sig := { parameters := [], returnType := none }, accessFlags := 1, code := some k20c0 }
def k20c1 : Code := { maxStack := 4, maxLocals := 4, code := jdk_38_method_6_code, exceptionTable := #[], attributes := #[] }
def k20m1 : Method := { name := "grow", desc := "(I)[Ljava/lang/Object;", sig := { parameters := [.int], returnType := some (.array (.object "java/lang/Object")) }, accessFlags := 2, code := some k20c1 }
def k20c2 : Code := { maxStack := 3, maxLocals := 1, code := jdk_38_method_7_code, exceptionTable := #[], attributes := #[] }
def k20m2 : Method := { name := "grow", desc := "()[Ljava/lang/Object;", sig := { parameters := [], returnType := some (.array (.object "java/lang/Object")) }, accessFlags := 2, code := some k20c2 }
def k20c3 : Code := { maxStack := 1, maxLocals := 1, code := jdk_38_method_9_code, exceptionTable := #[], attributes := #[] }
def k20m3 : Method := { name := "isEmpty", desc := "()Z", sig := { parameters := [], returnType := some .boolean }, accessFlags := 1, code := some k20c3 }
def k20c4 : Code := { maxStack := 3, maxLocals := 4, code := jdk_38_method_24_code, exceptionTable := #[], attributes := #[] }
def k20m4 : Method := { name := "add", desc := "(Ljava/lang/Object;[Ljava/lang/Object;I)V", sig := { parameters := [(.object "java/lang/Object"), (.array (.object "java/lang/Object")), .int], returnType := none }, accessFlags := 2, code := some k20c4 }
def k20c5 : Code := { maxStack := 4, maxLocals := 2, code := jdk_38_method_25_code, exceptionTable := #[], attributes := #[] }
def k20m5 : Method := { name := "add", desc := "(Ljava/lang/Object;)Z", sig := { parameters := [(.object "java/lang/Object")], returnType := some .boolean }, accessFlags := 1, code := some k20c5 }
/-- java/util/ArrayList -/
def k20 : Class := { plain "java/util/ArrayList" (some 17) with
  accessFlags := 33
  interfaces := #[16, 18, 19, 5]
  cf := some (fileOf pool20 10 #[.nestMembers #[290, 276, 500, 502, 262, 267]] #[{ accessFlags := 1, nameIndex := 5, descriptorIndex := 6, attributes := #[] }, { accessFlags := 2, nameIndex := 71, descriptorIndex := 72, attributes := #[] }, { accessFlags := 2, nameIndex := 71, descriptorIndex := 47, attributes := #[] }, { accessFlags := 1, nameIndex := 363, descriptorIndex := 173, attributes := #[] }, { accessFlags := 2, nameIndex := 133, descriptorIndex := 134, attributes := #[] }, { accessFlags := 1, nameIndex := 133, descriptorIndex := 96, attributes := #[] }] 33 2 #[148, 329, 331, 333] #[{ accessFlags := 26, nameIndex := 335, descriptorIndex := 336, attributes := #[] }, { accessFlags := 26, nameIndex := 340, descriptorIndex := 51, attributes := #[] }, { accessFlags := 26, nameIndex := 17, descriptorIndex := 14, attributes := #[] }, { accessFlags := 26, nameIndex := 41, descriptorIndex := 14, attributes := #[] }, { accessFlags := 128, nameIndex := 13, descriptorIndex := 14, attributes := #[] }, { accessFlags := 2, nameIndex := 50, descriptorIndex := 51, attributes := #[] }])
  fields := #[{ name := "serialVersionUID", type := .long, accessFlags := 26, slot := 0, constantValue := 0 }, { name := "DEFAULT_CAPACITY", type := .int, accessFlags := 26, slot := 1, constantValue := 0 }, { name := "EMPTY_ELEMENTDATA", type := (.array (.object "java/lang/Object")), accessFlags := 26, slot := 2, constantValue := 0 }, { name := "DEFAULTCAPACITY_EMPTY_ELEMENTDATA", type := (.array (.object "java/lang/Object")), accessFlags := 26, slot := 3, constantValue := 0 }, { name := "elementData", type := (.array (.object "java/lang/Object")), accessFlags := 128, slot := 1, constantValue := 0 }, { name := "size", type := .int, accessFlags := 2, slot := 2, constantValue := 0 }]
  methods := #[k20m0, k20m1, k20m2, k20m3, k20m4, k20m5]
  instanceTypes := #[.int, (.array (.object "java/lang/Object")), .int]
  staticTypes := #[.long, .int, (.array (.object "java/lang/Object")), (.array (.object "java/lang/Object"))]
  resolved := Array.replicate 509 none
  statics := some 0 }

def pool21 : Array CpInfo := pool [(1, .class_ 2), (0, u "java/lang/Math"), (1, .class_ 6), (1, u "java/lang/Object"), (0, u "<init>"), (0, u "()V"), (89, .class_ 100), (1, u "java/lang/Math$RandomNumberGeneratorHolder"), (71, u "negativeZeroFloatBits"), (0, u "J"), (2, u "negativeZeroDoubleBits"), (21, u "max"), (46, u "$assertionsDisabled"), (0, u "Z"), (88, u "(II)I"), (2, u "twoToTheDoubleScaleDown"), (0, u "D"), (4, u "twoToTheDoubleScaleUp"), (9, u "E"), (3, u "PI"), (2, u "TAU"), (2, u "DEGREES_TO_RADIANS"), (0, u "RADIANS_TO_DEGREES")] 94

def k21m0 : Method := { name := "<init>", desc := "()V", sig := { parameters := [], returnType := none }, accessFlags := 2, code := none }
def k21c1 : Code := { maxStack := 2, maxLocals := 2, code := jdk_29_method_65_code, exceptionTable := #[], attributes := #[] }
def k21m1 : Method := { name := "max", desc := "(II)I", sig := { parameters := [.int, .int], returnType := some .int }, accessFlags := 9, code := some k21c1 }
/-- java/lang/Math -/
def k21 : Class := { plain "java/lang/Math" (some 0) with
  accessFlags := 49
  interfaces := #[]
  cf := some (fileOf pool21 1 #[.nestMembers #[98]] #[{ accessFlags := 2, nameIndex := 7, descriptorIndex := 8, attributes := #[] }, { accessFlags := 9, nameIndex := 198, descriptorIndex := 335, attributes := #[] }] 49 4 #[] #[{ accessFlags := 25, nameIndex := 354, descriptorIndex := 339, attributes := #[] }, { accessFlags := 25, nameIndex := 358, descriptorIndex := 339, attributes := #[] }, { accessFlags := 25, nameIndex := 361, descriptorIndex := 339, attributes := #[] }, { accessFlags := 26, nameIndex := 364, descriptorIndex := 339, attributes := #[] }, { accessFlags := 26, nameIndex := 365, descriptorIndex := 339, attributes := #[] }, { accessFlags := 26, nameIndex := 172, descriptorIndex := 173, attributes := #[] }, { accessFlags := 26, nameIndex := 176, descriptorIndex := 173, attributes := #[] }, { accessFlags := 8, nameIndex := 344, descriptorIndex := 339, attributes := #[] }, { accessFlags := 8, nameIndex := 338, descriptorIndex := 339, attributes := #[] }, { accessFlags := 4120, nameIndex := 245, descriptorIndex := 246, attributes := #[] }])
  fields := #[{ name := "E", type := .double, accessFlags := 25, slot := 0, constantValue := 0 }, { name := "PI", type := .double, accessFlags := 25, slot := 1, constantValue := 0 }, { name := "TAU", type := .double, accessFlags := 25, slot := 2, constantValue := 0 }, { name := "DEGREES_TO_RADIANS", type := .double, accessFlags := 26, slot := 3, constantValue := 0 }, { name := "RADIANS_TO_DEGREES", type := .double, accessFlags := 26, slot := 4, constantValue := 0 }, { name := "negativeZeroFloatBits", type := .long, accessFlags := 26, slot := 5, constantValue := 0 }, { name := "negativeZeroDoubleBits", type := .long, accessFlags := 26, slot := 6, constantValue := 0 }, { name := "twoToTheDoubleScaleUp", type := .double, accessFlags := 8, slot := 7, constantValue := 0 }, { name := "twoToTheDoubleScaleDown", type := .double, accessFlags := 8, slot := 8, constantValue := 0 }, { name := "$assertionsDisabled", type := .boolean, accessFlags := 4120, slot := 9, constantValue := 0 }]
  methods := #[k21m0, k21m1]
  instanceTypes := #[]
  staticTypes := #[.double, .double, .double, .double, .double, .long, .long, .double, .double, .boolean]
  resolved := Array.replicate 460 none
  statics := none }

/-- the primitive byte -/
def k22 : Class := { plain "byte" none with kind := .primitive 'B', accessFlags := 0x411 }
/-- [B -/
def k23 : Class := { plain "[B" (some 0) with kind := .array 22 .byte, interfaces := #[19, 5], accessFlags := 1041 }

/-- the primitive int -/
def k24 : Class := { plain "int" none with kind := .primitive 'I', accessFlags := 0x411 }
/-- [I -/
def k25 : Class := { plain "[I" (some 0) with kind := .array 24 .int, interfaces := #[19, 5], accessFlags := 1041 }

/-- [[B -/
def k26 : Class := { plain "[[B" (some 0) with kind := .array 23 (.array .byte), interfaces := #[19, 5], accessFlags := 1041 }

/-- [Lcom/example/nonet/nonet/Answer; -/
def k27 : Class := { plain "[Lcom/example/nonet/nonet/Answer;" (some 0) with kind := .array 3 (.object "com/example/nonet/nonet/Answer"), interfaces := #[19, 5], accessFlags := 1041 }

/-- [Ljava/lang/Object; -/
def k28 : Class := { plain "[Ljava/lang/Object;" (some 0) with kind := .array 0 (.object "java/lang/Object"), interfaces := #[19, 5], accessFlags := 1041 }

def heap : Heap := #[{ cls := 20, slots := #[.long 0, .int 0, .ref 2, .ref 3], vm := .statics 20 },
  { cls := 26, slots := #[], vm := .none },
  { cls := 28, slots := #[], vm := .none },
  { cls := 28, slots := #[], vm := .none }]
def classes : Array Class := #[k0, k1, k2, k3, k4, k5, k6, k7, k8, k9, k10, k11, k12, k13, k14, k15, k16, k17, k18, k19, k20, k21, k22, k23, k24, k25, k26, k27, k28]
def interned : List (Array UInt16 × Addr) := []
def slotsUsed : Nat := 4
def theMethod : MethodId := ⟨1, 1⟩
def args0 : Array Value := #[.int 3, .int 3, .int 3]
def aboutOver (below : List Frame) : State where
  vm := { classes := classes, interned := interned.toArray }
  heap := heap
  slotsUsed := slotsUsed
  threads := #[{ frames := .invoking theMethod args0 :: below }]
def below0 : List Frame := [.native { method := ⟨0, 0⟩, args := #[] }]
def about1 : State := aboutOver below0
def p0 : Program := .bare "" "" ""
def e0 : Env := launch0.env 0 0 0
theorem w_frames : about1.frames = Frame.invoking theMethod args0 :: below0 := rfl
set_option maxRecDepth 65536 in
theorem w_args : argsFit about1.vm theMethod args0 = true := by decide +kernel
set_option maxRecDepth 65536 in
theorem w_heap : heapFits about1 = true := by decide +kernel
set_option maxRecDepth 65536 in
theorem w_runnable : about1.curStatus? = some .runnable := by decide +kernel
set_option maxRecDepth 65536 in
theorem w_alone : about1.alone = true := by decide +kernel
set_option maxRecDepth 65536 in
theorem w_named : about1.methodNamed? x = some theMethod := by decide +kernel
set_option maxRecDepth 65536 in
theorem w_hears : about1.hears theMethod below0 = true := by decide +kernel
set_option maxRecDepth 65536 in
theorem w_ripe : about1.ripe theMethod args0 below0 = true := by decide +kernel
theorem w_running : about1.status = .running := rfl
set_option maxRecDepth 65536 in
theorem w_room : about1.hasRoom e0.platform room_1 = true :=
  launch0.hasRoom_least _ room_1 (by decide +kernel) (by decide +kernel) (by decide +kernel) (by decide +kernel) (by decide +kernel) (by decide +kernel)
theorem allAtoms_all (ts : List Jvm.Cond) (a : Array Jvm.Value) (st : Jvm.State) : (allAtoms ts).before a st = ts.all (fun c => c.before a st) := by
  induction ts with
  | nil => rfl
  | cons c t ih =>
    show (Jvm.Cond.and c (allAtoms t)).before a st = _
    rw [Jvm.Cond.before_and, ih, List.all_cons]
def words1 : List Jvm.Cond := Jvm.Cond.code x code maxLocals ret :: tables_1
/-- a 'code' word, met by the world's own term for the bytes: nothing is compared byte by byte -/
theorem code_word {y : MethodName} {bytes : ByteArray} {mx : Nat} {rt : Option FieldType} {a : Array Value} {s : State} {m : MethodId} {meth : Method} {c : Code} (h1 : s.methodNamed? y = some m) (h2 : s.vm.method? m = some meth) (h3 : meth.code = some c) (h4 : c.code = bytes)
    (h5 : (c.maxLocals == mx && c.exceptionTable.isEmpty && decide (c.maxStack ≤ mostOperands) && decide (meth.sig.returnType = rt) && !meth.locks && decide (parseMethodDescriptor y.desc = some meth.sig)) = true) : (Jvm.Cond.code y bytes mx rt).before a s = true := by
  simp only [Bool.and_eq_true, beq_iff_eq, Bool.not_eq_true', decide_eq_true_eq] at h5
  obtain ⟨⟨⟨⟨⟨g1, g2⟩, g3⟩, g4⟩, g5⟩, g6⟩ := h5
  simp [Cond.before, Cond.holds, Cond.value, h1, h2, h3, h4, g1, g2, g3, g4, g5, g6]
def isCode : Jvm.Cond → Bool
  | .code _ _ _ _ => true
  | _ => false
theorem all_split {L : List Jvm.Cond} {P : Jvm.Cond → Bool} (h1 : L.all (fun c => isCode c || P c) = true) (h2 : ∀ c ∈ L.filter isCode, P c = true) : L.all P = true := by
  refine List.all_eq_true.mpr fun c hc => ?_
  have h := List.all_eq_true.mp h1 c hc
  rcases Bool.eq_false_or_eq_true (isCode c) with hi | hi
  · exact h2 c (List.mem_filter.mpr ⟨hc, hi⟩)
  · simpa [hi] using h
set_option maxRecDepth 65536 in
theorem w_c0 : (Jvm.Cond.code x code maxLocals ret).before args0 about1 = true := code_word (m := ⟨1, 1⟩) (meth := k1m1) (c := k1c1) (by decide +kernel) rfl rfl rfl (by decide +kernel)
set_option maxRecDepth 65536 in
theorem w_c1 : (Jvm.Cond.code ({ cls := "com/example/nonet/nonet/Answer", name := "<init>", desc := "([BI)V" } : Jvm.MethodName) prog_1_method_2_code (3 : Nat) (Option.none : Option Jvm.ClassFile.FieldType)).before args0 about1 = true := code_word (m := ⟨3, 0⟩) (meth := k3m0) (c := k3c0) (by decide +kernel) rfl rfl rfl (by decide +kernel)
set_option maxRecDepth 65536 in
theorem w_c2 : (Jvm.Cond.code ({ cls := "java/lang/Record", name := "<init>", desc := "()V" } : Jvm.MethodName) jdk_30_method_1_code (1 : Nat) (Option.none : Option Jvm.ClassFile.FieldType)).before args0 about1 = true := code_word (m := ⟨2, 0⟩) (meth := k2m0) (c := k2c0) (by decide +kernel) rfl rfl rfl (by decide +kernel)
set_option maxRecDepth 65536 in
theorem w_c3 : (Jvm.Cond.code ({ cls := "java/lang/Object", name := "<init>", desc := "()V" } : Jvm.MethodName) object_method_1_code (1 : Nat) (Option.none : Option Jvm.ClassFile.FieldType)).before args0 about1 = true := code_word (m := ⟨0, 0⟩) (meth := k0m0) (c := k0c0) (by decide +kernel) rfl rfl rfl (by decide +kernel)
set_option maxRecDepth 65536 in
theorem w_c4 : (Jvm.Cond.code ({ cls := "com/example/nonet/nonet/Message", name := "<init>", desc := "(Ljava/lang/String;Ljava/lang/String;)V" } : Jvm.MethodName) prog_13_method_1_code (3 : Nat) (Option.none : Option Jvm.ClassFile.FieldType)).before args0 about1 = true := code_word (m := ⟨4, 0⟩) (meth := k4m0) (c := k4c0) (by decide +kernel) rfl rfl rfl (by decide +kernel)
set_option maxRecDepth 65536 in
theorem w_c5 : (Jvm.Cond.code ({ cls := "com/example/nonet/nonet/Message", name := "<init>", desc := "(Ljava/lang/String;JLjava/lang/String;)V" } : Jvm.MethodName) prog_13_method_2_code (5 : Nat) (Option.none : Option Jvm.ClassFile.FieldType)).before args0 about1 = true := code_word (m := ⟨4, 1⟩) (meth := k4m1) (c := k4c1) (by decide +kernel) rfl rfl rfl (by decide +kernel)
set_option maxRecDepth 65536 in
theorem w_c6 : (Jvm.Cond.code ({ cls := "com/example/nonet/nonet/Batch", name := "<init>", desc := "()V" } : Jvm.MethodName) prog_2_method_1_code (1 : Nat) (Option.none : Option Jvm.ClassFile.FieldType)).before args0 about1 = true := code_word (m := ⟨11, 0⟩) (meth := k11m0) (c := k11c0) (by decide +kernel) rfl rfl rfl (by decide +kernel)
set_option maxRecDepth 65536 in
theorem w_c7 : (Jvm.Cond.code ({ cls := "java/util/ArrayList", name := "<init>", desc := "()V" } : Jvm.MethodName) jdk_38_method_2_code (1 : Nat) (Option.none : Option Jvm.ClassFile.FieldType)).before args0 about1 = true := code_word (m := ⟨20, 0⟩) (meth := k20m0) (c := k20c0) (by decide +kernel) rfl rfl rfl (by decide +kernel)
set_option maxRecDepth 65536 in
theorem w_c8 : (Jvm.Cond.code ({ cls := "java/util/AbstractList", name := "<init>", desc := "()V" } : Jvm.MethodName) jdk_39_method_1_code (1 : Nat) (Option.none : Option Jvm.ClassFile.FieldType)).before args0 about1 = true := code_word (m := ⟨17, 0⟩) (meth := k17m0) (c := k17c0) (by decide +kernel) rfl rfl rfl (by decide +kernel)
set_option maxRecDepth 65536 in
theorem w_c9 : (Jvm.Cond.code ({ cls := "java/util/AbstractCollection", name := "<init>", desc := "()V" } : Jvm.MethodName) jdk_22_method_1_code (1 : Nat) (Option.none : Option Jvm.ClassFile.FieldType)).before args0 about1 = true := code_word (m := ⟨14, 0⟩) (meth := k14m0) (c := k14c0) (by decide +kernel) rfl rfl rfl (by decide +kernel)
set_option maxRecDepth 65536 in
theorem w_c10 : (Jvm.Cond.code ({ cls := "com/example/nonet/nonet/Batch", name := "isFull", desc := "()Z" } : Jvm.MethodName) prog_2_method_5_code (1 : Nat) (Option.some Jvm.ClassFile.FieldType.boolean)).before args0 about1 = true := code_word (m := ⟨11, 4⟩) (meth := k11m4) (c := k11c4) (by decide +kernel) rfl rfl rfl (by decide +kernel)
set_option maxRecDepth 65536 in
theorem w_c11 : (Jvm.Cond.code ({ cls := "com/example/nonet/nonet/Batch", name := "isEmpty", desc := "()Z" } : Jvm.MethodName) prog_2_method_6_code (1 : Nat) (Option.some Jvm.ClassFile.FieldType.boolean)).before args0 about1 = true := code_word (m := ⟨11, 5⟩) (meth := k11m5) (c := k11c5) (by decide +kernel) rfl rfl rfl (by decide +kernel)
set_option maxRecDepth 65536 in
theorem w_c12 : (Jvm.Cond.code ({ cls := "java/util/ArrayList", name := "isEmpty", desc := "()Z" } : Jvm.MethodName) jdk_38_method_9_code (1 : Nat) (Option.some Jvm.ClassFile.FieldType.boolean)).before args0 about1 = true := code_word (m := ⟨20, 3⟩) (meth := k20m3) (c := k20c3) (by decide +kernel) rfl rfl rfl (by decide +kernel)
set_option maxRecDepth 65536 in
theorem w_c13 : (Jvm.Cond.code ({ cls := "com/example/nonet/nonet/BatchIsFullPinLaw", name := "addOne", desc := "(Lcom/example/nonet/nonet/Batch;Z[BLcom/example/nonet/nonet/Answer;)V" } : Jvm.MethodName) method_3_code (4 : Nat) (Option.none : Option Jvm.ClassFile.FieldType)).before args0 about1 = true := code_word (m := ⟨1, 2⟩) (meth := k1m2) (c := k1c2) (by decide +kernel) rfl rfl rfl (by decide +kernel)
set_option maxRecDepth 65536 in
theorem w_c14 : (Jvm.Cond.code ({ cls := "com/example/nonet/nonet/Batch", name := "add", desc := "(Lcom/example/nonet/nonet/Answer;)V" } : Jvm.MethodName) prog_2_method_3_code (2 : Nat) (Option.none : Option Jvm.ClassFile.FieldType)).before args0 about1 = true := code_word (m := ⟨11, 2⟩) (meth := k11m2) (c := k11c2) (by decide +kernel) rfl rfl rfl (by decide +kernel)
set_option maxRecDepth 65536 in
theorem w_c15 : (Jvm.Cond.code ({ cls := "com/example/nonet/nonet/Batch", name := "report", desc := "(Lcom/example/nonet/nonet/Message;)V" } : Jvm.MethodName) prog_2_method_4_code (2 : Nat) (Option.none : Option Jvm.ClassFile.FieldType)).before args0 about1 = true := code_word (m := ⟨11, 3⟩) (meth := k11m3) (c := k11c3) (by decide +kernel) rfl rfl rfl (by decide +kernel)
set_option maxRecDepth 65536 in
theorem w_c16 : (Jvm.Cond.code ({ cls := "java/util/ArrayList", name := "add", desc := "(Ljava/lang/Object;)Z" } : Jvm.MethodName) jdk_38_method_25_code (2 : Nat) (Option.some Jvm.ClassFile.FieldType.boolean)).before args0 about1 = true := code_word (m := ⟨20, 5⟩) (meth := k20m5) (c := k20c5) (by decide +kernel) rfl rfl rfl (by decide +kernel)
set_option maxRecDepth 65536 in
theorem w_c17 : (Jvm.Cond.code ({ cls := "java/util/ArrayList", name := "add", desc := "(Ljava/lang/Object;[Ljava/lang/Object;I)V" } : Jvm.MethodName) jdk_38_method_24_code (4 : Nat) (Option.none : Option Jvm.ClassFile.FieldType)).before args0 about1 = true := code_word (m := ⟨20, 4⟩) (meth := k20m4) (c := k20c4) (by decide +kernel) rfl rfl rfl (by decide +kernel)
set_option maxRecDepth 65536 in
theorem w_c18 : (Jvm.Cond.code ({ cls := "java/util/ArrayList", name := "grow", desc := "()[Ljava/lang/Object;" } : Jvm.MethodName) jdk_38_method_7_code (1 : Nat) (Option.some (Jvm.ClassFile.FieldType.array (Jvm.ClassFile.FieldType.object "java/lang/Object")))).before args0 about1 = true := code_word (m := ⟨20, 2⟩) (meth := k20m2) (c := k20c2) (by decide +kernel) rfl rfl rfl (by decide +kernel)
set_option maxRecDepth 65536 in
theorem w_c19 : (Jvm.Cond.code ({ cls := "java/util/ArrayList", name := "grow", desc := "(I)[Ljava/lang/Object;" } : Jvm.MethodName) jdk_38_method_6_code (4 : Nat) (Option.some (Jvm.ClassFile.FieldType.array (Jvm.ClassFile.FieldType.object "java/lang/Object")))).before args0 about1 = true := code_word (m := ⟨20, 1⟩) (meth := k20m1) (c := k20c1) (by decide +kernel) rfl rfl rfl (by decide +kernel)
set_option maxRecDepth 65536 in
theorem w_c20 : (Jvm.Cond.code ({ cls := "java/lang/Math", name := "max", desc := "(II)I" } : Jvm.MethodName) jdk_29_method_65_code (2 : Nat) (Option.some Jvm.ClassFile.FieldType.int)).before args0 about1 = true := code_word (m := ⟨21, 1⟩) (meth := k21m1) (c := k21c1) (by decide +kernel) rfl rfl rfl (by decide +kernel)
set_option maxRecDepth 65536 in
theorem w_c21 : (Jvm.Cond.code ({ cls := "com/example/nonet/nonet/Batch", name := "markLast", desc := "(I)V" } : Jvm.MethodName) prog_2_method_8_code (2 : Nat) (Option.none : Option Jvm.ClassFile.FieldType)).before args0 about1 = true := code_word (m := ⟨11, 6⟩) (meth := k11m6) (c := k11c6) (by decide +kernel) rfl rfl rfl (by decide +kernel)
set_option maxRecDepth 65536 in
theorem w_c22 : (Jvm.Cond.code ({ cls := "com/example/nonet/nonet/Batch", name := "add", desc := "([B)V" } : Jvm.MethodName) prog_2_method_2_code (2 : Nat) (Option.none : Option Jvm.ClassFile.FieldType)).before args0 about1 = true := code_word (m := ⟨11, 1⟩) (meth := k11m1) (c := k11c1) (by decide +kernel) rfl rfl rfl (by decide +kernel)
def codes1 : List Jvm.Cond := [Jvm.Cond.code x code maxLocals ret, Jvm.Cond.code ({ cls := "com/example/nonet/nonet/Answer", name := "<init>", desc := "([BI)V" } : Jvm.MethodName) prog_1_method_2_code (3 : Nat) (Option.none : Option Jvm.ClassFile.FieldType), Jvm.Cond.code ({ cls := "java/lang/Record", name := "<init>", desc := "()V" } : Jvm.MethodName) jdk_30_method_1_code (1 : Nat) (Option.none : Option Jvm.ClassFile.FieldType), Jvm.Cond.code ({ cls := "java/lang/Object", name := "<init>", desc := "()V" } : Jvm.MethodName) object_method_1_code (1 : Nat) (Option.none : Option Jvm.ClassFile.FieldType), Jvm.Cond.code ({ cls := "com/example/nonet/nonet/Message", name := "<init>", desc := "(Ljava/lang/String;Ljava/lang/String;)V" } : Jvm.MethodName) prog_13_method_1_code (3 : Nat) (Option.none : Option Jvm.ClassFile.FieldType), Jvm.Cond.code ({ cls := "com/example/nonet/nonet/Message", name := "<init>", desc := "(Ljava/lang/String;JLjava/lang/String;)V" } : Jvm.MethodName) prog_13_method_2_code (5 : Nat) (Option.none : Option Jvm.ClassFile.FieldType), Jvm.Cond.code ({ cls := "com/example/nonet/nonet/Batch", name := "<init>", desc := "()V" } : Jvm.MethodName) prog_2_method_1_code (1 : Nat) (Option.none : Option Jvm.ClassFile.FieldType), Jvm.Cond.code ({ cls := "java/util/ArrayList", name := "<init>", desc := "()V" } : Jvm.MethodName) jdk_38_method_2_code (1 : Nat) (Option.none : Option Jvm.ClassFile.FieldType), Jvm.Cond.code ({ cls := "java/util/AbstractList", name := "<init>", desc := "()V" } : Jvm.MethodName) jdk_39_method_1_code (1 : Nat) (Option.none : Option Jvm.ClassFile.FieldType), Jvm.Cond.code ({ cls := "java/util/AbstractCollection", name := "<init>", desc := "()V" } : Jvm.MethodName) jdk_22_method_1_code (1 : Nat) (Option.none : Option Jvm.ClassFile.FieldType), Jvm.Cond.code ({ cls := "com/example/nonet/nonet/Batch", name := "isFull", desc := "()Z" } : Jvm.MethodName) prog_2_method_5_code (1 : Nat) (Option.some Jvm.ClassFile.FieldType.boolean), Jvm.Cond.code ({ cls := "com/example/nonet/nonet/Batch", name := "isEmpty", desc := "()Z" } : Jvm.MethodName) prog_2_method_6_code (1 : Nat) (Option.some Jvm.ClassFile.FieldType.boolean), Jvm.Cond.code ({ cls := "java/util/ArrayList", name := "isEmpty", desc := "()Z" } : Jvm.MethodName) jdk_38_method_9_code (1 : Nat) (Option.some Jvm.ClassFile.FieldType.boolean), Jvm.Cond.code ({ cls := "com/example/nonet/nonet/BatchIsFullPinLaw", name := "addOne", desc := "(Lcom/example/nonet/nonet/Batch;Z[BLcom/example/nonet/nonet/Answer;)V" } : Jvm.MethodName) method_3_code (4 : Nat) (Option.none : Option Jvm.ClassFile.FieldType), Jvm.Cond.code ({ cls := "com/example/nonet/nonet/Batch", name := "add", desc := "(Lcom/example/nonet/nonet/Answer;)V" } : Jvm.MethodName) prog_2_method_3_code (2 : Nat) (Option.none : Option Jvm.ClassFile.FieldType), Jvm.Cond.code ({ cls := "com/example/nonet/nonet/Batch", name := "report", desc := "(Lcom/example/nonet/nonet/Message;)V" } : Jvm.MethodName) prog_2_method_4_code (2 : Nat) (Option.none : Option Jvm.ClassFile.FieldType), Jvm.Cond.code ({ cls := "java/util/ArrayList", name := "add", desc := "(Ljava/lang/Object;)Z" } : Jvm.MethodName) jdk_38_method_25_code (2 : Nat) (Option.some Jvm.ClassFile.FieldType.boolean), Jvm.Cond.code ({ cls := "java/util/ArrayList", name := "add", desc := "(Ljava/lang/Object;[Ljava/lang/Object;I)V" } : Jvm.MethodName) jdk_38_method_24_code (4 : Nat) (Option.none : Option Jvm.ClassFile.FieldType), Jvm.Cond.code ({ cls := "java/util/ArrayList", name := "grow", desc := "()[Ljava/lang/Object;" } : Jvm.MethodName) jdk_38_method_7_code (1 : Nat) (Option.some (Jvm.ClassFile.FieldType.array (Jvm.ClassFile.FieldType.object "java/lang/Object"))), Jvm.Cond.code ({ cls := "java/util/ArrayList", name := "grow", desc := "(I)[Ljava/lang/Object;" } : Jvm.MethodName) jdk_38_method_6_code (4 : Nat) (Option.some (Jvm.ClassFile.FieldType.array (Jvm.ClassFile.FieldType.object "java/lang/Object"))), Jvm.Cond.code ({ cls := "java/lang/Math", name := "max", desc := "(II)I" } : Jvm.MethodName) jdk_29_method_65_code (2 : Nat) (Option.some Jvm.ClassFile.FieldType.int), Jvm.Cond.code ({ cls := "com/example/nonet/nonet/Batch", name := "markLast", desc := "(I)V" } : Jvm.MethodName) prog_2_method_8_code (2 : Nat) (Option.none : Option Jvm.ClassFile.FieldType), Jvm.Cond.code ({ cls := "com/example/nonet/nonet/Batch", name := "add", desc := "([B)V" } : Jvm.MethodName) prog_2_method_2_code (2 : Nat) (Option.none : Option Jvm.ClassFile.FieldType)]
set_option maxRecDepth 65536 in
theorem codes_eq : words1.filter isCode = codes1 := rfl
theorem w_codes : ∀ c ∈ words1.filter isCode, c.before args0 about1 = true := by
  rw [codes_eq]
  intro c hc
  simp only [codes1, List.mem_cons, List.not_mem_nil, or_false] at hc
  rcases hc with rfl | rfl | rfl | rfl | rfl | rfl | rfl | rfl | rfl | rfl | rfl | rfl | rfl | rfl | rfl | rfl | rfl | rfl | rfl | rfl | rfl | rfl | rfl
  · exact w_c0
  · exact w_c1
  · exact w_c2
  · exact w_c3
  · exact w_c4
  · exact w_c5
  · exact w_c6
  · exact w_c7
  · exact w_c8
  · exact w_c9
  · exact w_c10
  · exact w_c11
  · exact w_c12
  · exact w_c13
  · exact w_c14
  · exact w_c15
  · exact w_c16
  · exact w_c17
  · exact w_c18
  · exact w_c19
  · exact w_c20
  · exact w_c21
  · exact w_c22
set_option maxRecDepth 65536 in
theorem w_t1 : (words1.take 24).all (fun c => isCode c || c.before args0 about1) = true := by decide +kernel
set_option maxRecDepth 65536 in
theorem w_t2 : ((words1.drop 24).take 24).all (fun c => isCode c || c.before args0 about1) = true := by decide +kernel
set_option maxRecDepth 65536 in
theorem w_t3 : (((words1.drop 24).drop 24).take 24).all (fun c => isCode c || c.before args0 about1) = true := by decide +kernel
set_option maxRecDepth 65536 in
theorem w_t4 : ((((words1.drop 24).drop 24).drop 24).take 24).all (fun c => isCode c || c.before args0 about1) = true := by decide +kernel
set_option maxRecDepth 65536 in
theorem w_t5 : (((((words1.drop 24).drop 24).drop 24).drop 24).take 24).all (fun c => isCode c || c.before args0 about1) = true := by decide +kernel
set_option maxRecDepth 65536 in
theorem w_t6 : ((((((words1.drop 24).drop 24).drop 24).drop 24).drop 24).take 24).all (fun c => isCode c || c.before args0 about1) = true := by decide +kernel
set_option maxRecDepth 65536 in
theorem w_t7 : (((((((words1.drop 24).drop 24).drop 24).drop 24).drop 24).drop 24).take 24).all (fun c => isCode c || c.before args0 about1) = true := by decide +kernel
set_option maxRecDepth 65536 in
theorem w_t8 : (((((((words1.drop 24).drop 24).drop 24).drop 24).drop 24).drop 24).drop 24).all (fun c => isCode c || c.before args0 about1) = true := by decide +kernel
theorem w_tables : (allAtoms (Jvm.Cond.code x code maxLocals ret :: tables_1)).before args0 about1 = true := by
  rw [allAtoms_all]
  show words1.all (fun c => c.before args0 about1) = true
  refine all_split ?_ w_codes
  rw [← List.take_append_drop 24 words1, List.all_append, w_t1, ← List.take_append_drop 24 (words1.drop 24), List.all_append, w_t2, ← List.take_append_drop 24 ((words1.drop 24).drop 24), List.all_append, w_t3, ← List.take_append_drop 24 (((words1.drop 24).drop 24).drop 24), List.all_append, w_t4, ← List.take_append_drop 24 ((((words1.drop 24).drop 24).drop 24).drop 24), List.all_append, w_t5, ← List.take_append_drop 24 (((((words1.drop 24).drop 24).drop 24).drop 24).drop 24), List.all_append, w_t6, ← List.take_append_drop 24 ((((((words1.drop 24).drop 24).drop 24).drop 24).drop 24).drop 24), List.all_append, w_t7, w_t8]
  rfl
set_option maxRecDepth 65536 in
theorem w_rest : rest_1_c.before args0 about1 = true := by decide +kernel
set_option maxRecDepth 65536 in
theorem w_case : (Jvm.Cond.and given_1 narrow_1).before args0 about1 = true := by decide +kernel
theorem w_applies : (headSpec (Jvm.Cond.code x code maxLocals ret :: tables_1) room_1).applies x e0.platform about1 = true :=
  (Spec.applies_iff w_frames).mpr ⟨w_running, w_runnable, w_alone, w_named, w_hears, w_ripe, w_room, w_tables⟩
theorem atStart : AtStart classFile x code maxLocals ret World_1 tables_1 room_1 Calls_1 rest_1 Pre_1 launch0 p0 e0 about1 theMethod args0 below0 :=
  ⟨lists_1, trivial, launch0.admits_env _ _ _, launch0.least_env, fairChoices_fair.cas, fairChoices_fair.clock, w_frames, w_args, w_heap, w_applies, trivial, w_rest, w_case⟩
end start1
theorem witness_1 : WitnessClaimed_1 := ⟨start1.p0, start1.e0, start1.about1, start1.theMethod, start1.args0, start1.below0, start1.atStart⟩
end Jvm.Pilot.@@N@@
