import JvmDerived
import JvmDerived.Pilot.@@N@@Statement
import JvmDerived.Pilot.@@N@@Code
set_option linter.unusedVariables false
set_option linter.unusedSimpArgs false
namespace Jvm.Pilot.@@N@@
open Jvm Jvm.ClassFile Sem Op Lib Jvm.Free Jvm.Stand Jvm.LawKit Jvm.RoadKit Bundle Jvm.Pilot.@@N@@.Jvm.D
/-! ## A small program logic over 'Stand': oGo says that from here the method comes to its end and Q holds there. -/
def oDok (Z : State) (EL : List (String × Nat)) (vm : Vm) (h : Heap) (D : List Addr) : Prop := ∀ x ∈ D, Z.heap.size ≤ x ∧ x < h.size ∧ Safe Z EL vm h x
def oInv (l : Launch) (Z : State) (a0 : Array Value) (EL : List (String × Nat)) (wd : Prop) (p : Program) (e : Env) (s : State) (m : MethodId) (args : Array Value) (below : List Frame) (meth : Method) (c : Code) (R : Room) (own : String) (bytes : ByteArray) (mx : Nat) (rt : Option FieldType) (nm : String)
    (D : List Addr) (h : Heap) (k n : Nat) (T : State) (locs : List Loc) (vm0 : Vm) (k0 : Nat) : Prop :=
  (p.tables.exec = Jvm.exec ∧ c.code = bytes ∧ c.maxLocals = mx ∧ meth.sig.returnType = rt ∧ meth.locks = false ∧ meth.name = nm ∧ EW Z a0 EL) ∧
  T.heap = h ∧ Ext Z.heap h ∧ Fr Z.heap.size locs ∧ Stand p l e R (s.setVm vm0) m args below meth c T locs k n ∧ s.Since vm0 k0 ∧ k0 ≤ h.size ∧ Z.Warmed39 vm0 ∧ vm0.findClass own = some m.cls ∧ CHr Z EL s.vm s.heap vm0 h ∧ (wd ∨ s.WarmedH vm0) ∧ oDok Z EL vm0 h D
def oRes (Z : State) (EL : List (String × Nat)) (wd : Prop) (p : Program) (e : Env) (s : State) (below : List Frame) (R : Room) (Q : Option Value → Heap → Prop) (O : Option Value → Heap → Addr → Prop) (t : State) : Prop :=
  ∃ (V : State) (v : Option Value) (L : List Loc), Steps p.tables e below t V ∧ V.status = .running ∧ Ended V below (.returned v) ∧ (Q v V.heap ∧ ∀ x, O v V.heap x → Z.heap.size ≤ x ∧ x < V.heap.size ∧ Safe Z EL V.vm V.heap x) ∧ Fr Z.heap.size L ∧ Ext Z.heap V.heap ∧ CHr Z EL s.vm s.heap V.vm V.heap ∧ (wd ∨ s.WarmedH V.vm) ∧ ReturnedEndW s (.returned v) V L R.cells R.slots
def oGo (l : Launch) (Z : State) (a0 : Array Value) (EL : List (String × Nat)) (wd : Prop) (p : Program) (e : Env) (s : State) (m : MethodId) (args : Array Value) (below : List Frame) (meth : Method) (c : Code) (R : Room) (own : String) (bytes : ByteArray) (mx : Nat) (rt : Option FieldType) (nm : String)
    (Q : Option Value → Heap → Prop) (O : Option Value → Heap → Addr → Prop) (D : List Addr) (h : Heap) (k n : Nat) (pc : Nat) (Ls : Array Slot) (st : List Value) : Prop :=
  ∀ T locs vm0 k0, oInv l Z a0 EL wd p e s m args below meth c R own bytes mx rt nm D h k n T locs vm0 k0 → oRes Z EL wd p e s below R Q O (T.setTop (mkF m pc Ls st))
def oCtr (ws : List Jvm.Cond) (l : Launch) (Z : State) (a0 : Array Value) (EL : List (String × Nat)) (wd : Prop) (y : MethodName) (bytes : ByteArray) (mx : Nat) (rt : Option FieldType) (rm : Room) (as' : Array Value) (D : List Addr) (h : Heap) (Q : Option Value → Heap → Prop) (O : Option Value → Heap → Addr → Prop) : Prop :=
  MetFree l y (head1 (Cond.code y bytes mx rt :: ws) rm) (fun a U => a = as' ∧ Z.Warmed39 U.vm ∧ U.heap = h ∧ Ext Z.heap h ∧ CHv Z EL U.vm h ∧ oDok Z EL U.vm h D) (fun _ _ _ _ _ => True)
    (fun _ U o U' => ∃ v L, o = .returned v ∧ (Q v U'.heap ∧ ∀ x, O v U'.heap x → Z.heap.size ≤ x ∧ x < U'.heap.size ∧ Safe Z EL U'.vm U'.heap x) ∧ Fr Z.heap.size L ∧ Ext Z.heap U'.heap ∧ CHr Z EL U.vm U.heap U'.vm U'.heap ∧ (wd ∨ U.WarmedH U'.vm) ∧ ReturnedEndW U o U' L rm.cells rm.slots)
abbrev oRet : Option Value → Heap → Addr → Prop := fun v _ x => v = some (.ref x)
abbrev oNo : Option Value → Heap → Addr → Prop := fun _ _ _ => False
section Logic
variable {l : Launch} {Z : State} {a0 : Array Value} {EL : List (String × Nat)} {wd : Prop} {p : Program} {e : Env} {s : State} {m : MethodId} {args : Array Value} {below : List Frame} {meth : Method} {c : Code} {R : Room} {own : String} {bytes : ByteArray} {mx : Nat} {rt : Option FieldType} {nm : String}
  {Q : Option Value → Heap → Prop} {O : Option Value → Heap → Addr → Prop} {D : List Addr} {h : Heap} {k n : Nat} {pc pc' pc1 pc2 : Nat} {Ls Ls' : Array Slot} {st st' : List Value}
theorem oDok.ext {vm : Vm} {h' : Heap} (E : Ext h h') (H : CHv Z EL vm h) (q : oDok Z EL vm h D) : oDok Z EL vm h' D := fun x hx => ⟨(q x hx).1, Nat.lt_of_lt_of_le (q x hx).2.1 E.1, (q x hx).2.2.ext E H⟩
theorem oDok.wr {vm : Vm} {h' : Heap} {a : Addr} {sl : Nat} {v : Value} (W : Wr h h' a sl v) (S : Safe Z EL vm h a) (H : CHv Z EL vm h) (q : oDok Z EL vm h D) : oDok Z EL vm h' D := fun x hx => ⟨(q x hx).1, by rw [W.size]; exact (q x hx).2.1, Safe.wr W S H (q x hx).2.2⟩
theorem oDok.chr {vm vm1 : Vm} {h' : Heap} (A : CHr Z EL vm h vm1 h') (q : oDok Z EL vm h D) : oDok Z EL vm1 h' D := fun x hx => ⟨(q x hx).1, Nat.lt_of_lt_of_le (q x hx).2.1 A.2.1, A.safe (q x hx).2.1 (q x hx).2.2⟩
theorem oDok.sub {vm : Vm} {D' : List Addr} (q : oDok Z EL vm h D) (hs : ∀ x ∈ D', x ∈ D) : oDok Z EL vm h D' := fun x hx => q x (hs x hx)
theorem ext_refl (h : Heap) : Ext h h := ⟨Nat.le_refl _, fun _ _ q => q⟩
theorem ext_trans {h h' h2 : Heap} (A : Ext h h') (B : Ext h' h2) : Ext h h2 := ⟨Nat.le_trans A.1 B.1, fun a c q => B.2 a c (A.2 a c q)⟩
theorem ext_wr {h0 h h' : Heap} {a : Addr} {sl : Nat} {v : Value} (E : Ext h0 h) (W : Wr h h' a sl v) (q : h0.size ≤ a) : Ext h0 h' := by
  refine ⟨by rw [W.size]; exact E.1, fun b cb hb => ?_⟩
  obtain ⟨cb', h1, -, -, -, h5, -⟩ := wr_at W (E.2 b cb hb)
  rw [← h5 (fun e1 => by subst e1; exact absurd (Array.getElem?_eq_some_iff.mp hb).1 (Nat.not_lt.mpr q))]; exact h1
/-- entering -/
theorem oCtr.enter {ws : List Jvm.Cond} {y : MethodName} {rm : Room} {as' : Array Value} (pn : plainFor y = true) (hEW : EW Z a0 EL) (ef : ∀ m, entryFrame m as' mx = mkF m 0 Ls [])
    (g : ∀ (p : Program) (e : Env) (s : State) (m : MethodId) (below : List Frame) (meth : Method) (c : Code), oGo l Z a0 EL wd p e s m as' below meth c rm y.cls bytes mx rt y.name Q O D h 0 0 0 Ls []) : oCtr ws l Z a0 EL wd y bytes mx rt rm as' D h Q O := by
  refine MetFree.of_bodySF pn hisR ?_
  intro p e s m args below meth c s₁ Bd hml0 hP hK
  obtain ⟨rfl, hZ, hh, hE, hC, hD⟩ := hP
  have X0 : Stand p l e rm s m args below meth c s₁ [] 0 0 := Stand.of_body Bd
  have e0 : s₁.heap = h := by rw [← hh, Bd.state]; rfl
  have hown : s.vm.findClass y.cls = some m.cls := findClass_of_methodNamed Bd.named
  have hnm := (name_of_methodNamed Bd.named Bd.method).1
  obtain ⟨V, v, L, h1, h2, h3, h4, h5, h6, h7, h8, h9⟩ := g p e s m below meth c s₁ [] s.vm s.heap.size ⟨⟨Bd.exec, Bd.bytes, hml0, Bd.returns, Bd.notSynchronized, hnm, hEW⟩, e0, hE, Fr.nil _, X0, (State.WarmedH.refl s).since _, by rw [hh]; exact Nat.le_refl _, hZ, hown, by rw [hh]; exact CHr.refl hC, Or.inr (State.WarmedH.refl s), hD⟩
  exact ⟨V, .returned v, by rw [ef]; exact h1, h2, h3, v, L, rfl, h4, h5, h6, h7, h8, h9⟩
/-- steps that touch neither heap nor tables -/
theorem oGo.pure (H : ∀ T : State, At T m c below → c.code = bytes → p.tables.exec = Jvm.exec → ∀ t, Steps p.tables e below (T.setTop (mkF m pc' Ls' st')) t → Steps p.tables e below (T.setTop (mkF m pc Ls st)) t)
    (g : oGo l Z a0 EL wd p e s m args below meth c R own bytes mx rt nm Q O D h k n pc' Ls' st') : oGo l Z a0 EL wd p e s m args below meth c R own bytes mx rt nm Q O D h k n pc Ls st := by
  intro T locs vm0 k0 I
  obtain ⟨V, v, L, hs, r⟩ := g T locs vm0 k0 I
  obtain ⟨⟨hx, hb, -⟩, -, -, -, X, -⟩ := I
  exact ⟨V, v, L, H T X.here hb hx V hs, r⟩
def oSl (o : Slot) : Prop := o = .unset ∨ ∃ w : Value, o = .val w ∧ w.category = 1
theorem oGo.aload {i : Nat} {v : Value} (hd : decode bytes pc = .ok (.aload i, 2)) (hp : pc + 2 = pc') (hl : Ls[i]? = some (.val v)) (hv : v.isRef = true) (g : oGo l Z a0 EL wd p e s m args below meth c R own bytes mx rt nm Q O D h k n pc' Ls (v :: st)) : oGo l Z a0 EL wd p e s m args below meth c R own bytes mx rt nm Q O D h k n pc Ls (st) := by
  subst hp; exact oGo.pure (fun T hA hb hx t hr => XS.aload hA hx rfl (by rw [hb]; exact hd) hl hv hr) g
theorem oGo.aload_n {i : Fin 4} {v : Value} (hd : decode bytes pc = .ok (.aload_n i, 1)) (hp : pc + 1 = pc') (hl : Ls[i.val]? = some (.val v)) (hv : v.isRef = true) (g : oGo l Z a0 EL wd p e s m args below meth c R own bytes mx rt nm Q O D h k n pc' Ls (v :: st)) : oGo l Z a0 EL wd p e s m args below meth c R own bytes mx rt nm Q O D h k n pc Ls (st) := by
  subst hp; exact oGo.pure (fun T hA hb hx t hr => XS.aloadN hA hx rfl (by rw [hb]; exact hd) hl hv hr) g
theorem oGo.iload {i : Nat} {v : Int32} (hd : decode bytes pc = .ok (.iload i, 2)) (hp : pc + 2 = pc') (hl : Ls[i]? = some (.val (.int v))) (g : oGo l Z a0 EL wd p e s m args below meth c R own bytes mx rt nm Q O D h k n pc' Ls (.int v :: st)) : oGo l Z a0 EL wd p e s m args below meth c R own bytes mx rt nm Q O D h k n pc Ls (st) := by
  subst hp; exact oGo.pure (fun T hA hb hx t hr => XS.iload hA hx rfl (by rw [hb]; exact hd) hl hr) g
theorem oGo.iload_n {i : Fin 4} {v : Int32} (hd : decode bytes pc = .ok (.iload_n i, 1)) (hp : pc + 1 = pc') (hl : Ls[i.val]? = some (.val (.int v))) (g : oGo l Z a0 EL wd p e s m args below meth c R own bytes mx rt nm Q O D h k n pc' Ls (.int v :: st)) : oGo l Z a0 EL wd p e s m args below meth c R own bytes mx rt nm Q O D h k n pc Ls (st) := by
  subst hp; exact oGo.pure (fun T hA hb hx t hr => XS.iloadN hA hx rfl (by rw [hb]; exact hd) hl hr) g
theorem oGo.istore {i : Nat} {v : Int32} (hd : decode bytes pc = .ok (.istore i, 2)) (hp : pc + 2 = pc') (hl : storeLocals Ls i (.int v) = some Ls') (g : oGo l Z a0 EL wd p e s m args below meth c R own bytes mx rt nm Q O D h k n pc' Ls' (st)) : oGo l Z a0 EL wd p e s m args below meth c R own bytes mx rt nm Q O D h k n pc Ls (.int v :: st) := by
  subst hp; exact oGo.pure (fun T hA hb hx t hr => XS.istore hA hx rfl (by rw [hb]; exact hd) rfl hl hr) g
theorem oGo.istore_n {i : Fin 4} {v : Int32} (hd : decode bytes pc = .ok (.istore_n i, 1)) (hp : pc + 1 = pc') (hl : storeLocals Ls i.val (.int v) = some Ls') (g : oGo l Z a0 EL wd p e s m args below meth c R own bytes mx rt nm Q O D h k n pc' Ls' (st)) : oGo l Z a0 EL wd p e s m args below meth c R own bytes mx rt nm Q O D h k n pc Ls (.int v :: st) := by
  subst hp; exact oGo.pure (fun T hA hb hx t hr => XS.istoreN hA hx rfl (by rw [hb]; exact hd) rfl hl hr) g
theorem oGo.lload {i : Nat} {v : Int64} (hd : decode bytes pc = .ok (.lload i, 2)) (hp : pc + 2 = pc') (hl : Ls[i]? = some (.val (.long v))) (g : oGo l Z a0 EL wd p e s m args below meth c R own bytes mx rt nm Q O D h k n pc' Ls (.long v :: st)) : oGo l Z a0 EL wd p e s m args below meth c R own bytes mx rt nm Q O D h k n pc Ls (st) := by
  subst hp; exact oGo.pure (fun T hA hb hx t hr => XT.lload hA hx rfl (by rw [hb]; exact hd) hl hr) g
theorem oGo.lload_n {i : Fin 4} {v : Int64} (hd : decode bytes pc = .ok (.lload_n i, 1)) (hp : pc + 1 = pc') (hl : Ls[i.val]? = some (.val (.long v))) (g : oGo l Z a0 EL wd p e s m args below meth c R own bytes mx rt nm Q O D h k n pc' Ls (.long v :: st)) : oGo l Z a0 EL wd p e s m args below meth c R own bytes mx rt nm Q O D h k n pc Ls (st) := by
  subst hp; exact oGo.pure (fun T hA hb hx t hr => XT.lloadN hA hx rfl (by rw [hb]; exact hd) hl hr) g
theorem oGo.lstore {i : Nat} {v : Int64} (hd : decode bytes pc = .ok (.lstore i, 2)) (hp : pc + 2 = pc') (hl : storeLocals Ls i (.long v) = some Ls') (g : oGo l Z a0 EL wd p e s m args below meth c R own bytes mx rt nm Q O D h k n pc' Ls' (st)) : oGo l Z a0 EL wd p e s m args below meth c R own bytes mx rt nm Q O D h k n pc Ls (.long v :: st) := by
  subst hp; exact oGo.pure (fun T hA hb hx t hr => XT.lstore hA hx rfl (by rw [hb]; exact hd) rfl hl hr) g
theorem oGo.lstore_n {i : Fin 4} {v : Int64} (hd : decode bytes pc = .ok (.lstore_n i, 1)) (hp : pc + 1 = pc') (hl : storeLocals Ls i.val (.long v) = some Ls') (g : oGo l Z a0 EL wd p e s m args below meth c R own bytes mx rt nm Q O D h k n pc' Ls' (st)) : oGo l Z a0 EL wd p e s m args below meth c R own bytes mx rt nm Q O D h k n pc Ls (.long v :: st) := by
  subst hp; exact oGo.pure (fun T hA hb hx t hr => XT.lstoreN hA hx rfl (by rw [hb]; exact hd) rfl hl hr) g
theorem oGo.astore {i : Nat} {v : Value} (hd : decode bytes pc = .ok (.astore i, 2)) (hp : pc + 2 = pc') (hv : v.isRef = true) (hl : storeLocals Ls i v = some Ls') (g : oGo l Z a0 EL wd p e s m args below meth c R own bytes mx rt nm Q O D h k n pc' Ls' (st)) : oGo l Z a0 EL wd p e s m args below meth c R own bytes mx rt nm Q O D h k n pc Ls (v :: st) := by
  subst hp; exact oGo.pure (fun T hA hb hx t hr => XS.astore hA hx rfl (by rw [hb]; exact hd) rfl hv hl hr) g
theorem oGo.astore_n {i : Fin 4} {v : Value} (hd : decode bytes pc = .ok (.astore_n i, 1)) (hp : pc + 1 = pc') (hv : v.isRef = true) (hl : storeLocals Ls i.val v = some Ls') (g : oGo l Z a0 EL wd p e s m args below meth c R own bytes mx rt nm Q O D h k n pc' Ls' (st)) : oGo l Z a0 EL wd p e s m args below meth c R own bytes mx rt nm Q O D h k n pc Ls (v :: st) := by
  subst hp; exact oGo.pure (fun T hA hb hx t hr => XS.astoreN hA hx rfl (by rw [hb]; exact hd) rfl hv hl hr) g
theorem oGo.istoreS {i : Nat} {v : Int32} {o : Slot} (hd : decode bytes pc = .ok (.istore i, 2)) (hp : pc + 2 = pc') (ho : oSl o) (hold : Ls[i]? = some o) (hl : Ls.setIfInBounds i (.val (.int v)) = Ls') (g : oGo l Z a0 EL wd p e s m args below meth c R own bytes mx rt nm Q O D h k n pc' Ls' st) : oGo l Z a0 EL wd p e s m args below meth c R own bytes mx rt nm Q O D h k n pc Ls (.int v :: st) := by
  subst hp hl; exact oGo.pure (fun T hA hb hx t hr => XS.istore hA hx rfl (by rw [hb]; exact hd) rfl (XS.store1 hold ho rfl) hr) g
theorem oGo.istore_nS {i : Fin 4} {v : Int32} {o : Slot} (hd : decode bytes pc = .ok (.istore_n i, 1)) (hp : pc + 1 = pc') (ho : oSl o) (hold : Ls[i.val]? = some o) (hl : Ls.setIfInBounds i.val (.val (.int v)) = Ls') (g : oGo l Z a0 EL wd p e s m args below meth c R own bytes mx rt nm Q O D h k n pc' Ls' st) : oGo l Z a0 EL wd p e s m args below meth c R own bytes mx rt nm Q O D h k n pc Ls (.int v :: st) := by
  subst hp hl; exact oGo.pure (fun T hA hb hx t hr => XS.istoreN hA hx rfl (by rw [hb]; exact hd) rfl (XS.store1 hold ho rfl) hr) g
theorem oGo.astoreS {i : Nat} {v : Value} {o : Slot} (hd : decode bytes pc = .ok (.astore i, 2)) (hp : pc + 2 = pc') (hv : v.isRef = true) (hc : v.category = 1) (ho : oSl o) (hold : Ls[i]? = some o) (hl : Ls.setIfInBounds i (.val (v)) = Ls') (g : oGo l Z a0 EL wd p e s m args below meth c R own bytes mx rt nm Q O D h k n pc' Ls' st) : oGo l Z a0 EL wd p e s m args below meth c R own bytes mx rt nm Q O D h k n pc Ls (v :: st) := by
  subst hp hl; exact oGo.pure (fun T hA hb hx t hr => XS.astore hA hx rfl (by rw [hb]; exact hd) rfl hv (XS.store1 hold ho hc) hr) g
theorem oGo.astore_nS {i : Fin 4} {v : Value} {o : Slot} (hd : decode bytes pc = .ok (.astore_n i, 1)) (hp : pc + 1 = pc') (hv : v.isRef = true) (hc : v.category = 1) (ho : oSl o) (hold : Ls[i.val]? = some o) (hl : Ls.setIfInBounds i.val (.val (v)) = Ls') (g : oGo l Z a0 EL wd p e s m args below meth c R own bytes mx rt nm Q O D h k n pc' Ls' st) : oGo l Z a0 EL wd p e s m args below meth c R own bytes mx rt nm Q O D h k n pc Ls (v :: st) := by
  subst hp hl; exact oGo.pure (fun T hA hb hx t hr => XS.astoreN hA hx rfl (by rw [hb]; exact hd) rfl hv (XS.store1 hold ho hc) hr) g
theorem oGo.iconst {i : Int} {v : Int32} (hd : decode bytes pc = .ok (.iconst i, 1)) (hp : pc + 1 = pc') (hv : Int32.ofInt i = v) (g : oGo l Z a0 EL wd p e s m args below meth c R own bytes mx rt nm Q O D h k n pc' Ls (.int v :: st)) : oGo l Z a0 EL wd p e s m args below meth c R own bytes mx rt nm Q O D h k n pc Ls (st) := by
  subst hp; subst hv; exact oGo.pure (fun T hA hb hx t hr => XS.iconst hA hx rfl (by rw [hb]; exact hd)  hr) g
theorem oGo.bipush {i : Int} {v : Int32} (hd : decode bytes pc = .ok (.bipush i, 2)) (hp : pc + 2 = pc') (hv : (Int8.ofInt i).toInt32 = v) (g : oGo l Z a0 EL wd p e s m args below meth c R own bytes mx rt nm Q O D h k n pc' Ls (.int v :: st)) : oGo l Z a0 EL wd p e s m args below meth c R own bytes mx rt nm Q O D h k n pc Ls (st) := by
  subst hp; subst hv; exact oGo.pure (fun T hA hb hx t hr => XS.bipush hA hx rfl (by rw [hb]; exact hd)  hr) g
theorem oGo.sipush {i : Int} {v : Int32} (hd : decode bytes pc = .ok (.sipush i, 3)) (hp : pc + 3 = pc') (hv : (Int16.ofInt i).toInt32 = v) (g : oGo l Z a0 EL wd p e s m args below meth c R own bytes mx rt nm Q O D h k n pc' Ls (.int v :: st)) : oGo l Z a0 EL wd p e s m args below meth c R own bytes mx rt nm Q O D h k n pc Ls (st) := by
  subst hp; subst hv; exact oGo.pure (fun T hA hb hx t hr => XS.sipush hA hx rfl (by rw [hb]; exact hd)  hr) g
theorem oGo.lconst {i : Fin 2} {v : Int64} (hd : decode bytes pc = .ok (.lconst i, 1)) (hp : pc + 1 = pc') (hv : Int64.ofNat i = v) (g : oGo l Z a0 EL wd p e s m args below meth c R own bytes mx rt nm Q O D h k n pc' Ls (.long v :: st)) : oGo l Z a0 EL wd p e s m args below meth c R own bytes mx rt nm Q O D h k n pc Ls (st) := by
  subst hp; subst hv; exact oGo.pure (fun T hA hb hx t hr => XT.lconst hA hx rfl (by rw [hb]; exact hd)  hr) g
theorem oGo.aconst_null  (hd : decode bytes pc = .ok (.aconst_null, 1)) (hp : pc + 1 = pc') (g : oGo l Z a0 EL wd p e s m args below meth c R own bytes mx rt nm Q O D h k n pc' Ls (.null :: st)) : oGo l Z a0 EL wd p e s m args below meth c R own bytes mx rt nm Q O D h k n pc Ls (st) := by
  subst hp; exact oGo.pure (fun T hA hb hx t hr => XS.aconstNull hA hx rfl (by rw [hb]; exact hd)  hr) g
theorem oGo.iadd {x y : Int32} (hd : decode bytes pc = .ok (.iadd, 1)) (hp : pc + 1 = pc') (g : oGo l Z a0 EL wd p e s m args below meth c R own bytes mx rt nm Q O D h k n pc' Ls (.int (x + y) :: st)) : oGo l Z a0 EL wd p e s m args below meth c R own bytes mx rt nm Q O D h k n pc Ls (.int y :: .int x :: st) := by
  subst hp; exact oGo.pure (fun T hA hb hx t hr => XS.iadd hA hx rfl (by rw [hb]; exact hd) rfl hr) g
theorem oGo.ladd {x y : Int64} (hd : decode bytes pc = .ok (.ladd, 1)) (hp : pc + 1 = pc') (g : oGo l Z a0 EL wd p e s m args below meth c R own bytes mx rt nm Q O D h k n pc' Ls (.long (x + y) :: st)) : oGo l Z a0 EL wd p e s m args below meth c R own bytes mx rt nm Q O D h k n pc Ls (.long y :: .long x :: st) := by
  subst hp; exact oGo.pure (fun T hA hb hx t hr => XT.ladd hA hx rfl (by rw [hb]; exact hd) rfl hr) g
theorem oGo.isub {x y : Int32} (hd : decode bytes pc = .ok (.isub, 1)) (hp : pc + 1 = pc') (g : oGo l Z a0 EL wd p e s m args below meth c R own bytes mx rt nm Q O D h k n pc' Ls (.int (x - y) :: st)) : oGo l Z a0 EL wd p e s m args below meth c R own bytes mx rt nm Q O D h k n pc Ls (.int y :: .int x :: st) := by
  subst hp; exact oGo.pure (fun T hA hb hx t hr => XS.isub hA hx rfl (by rw [hb]; exact hd) rfl hr) g
theorem oGo.lsub {x y : Int64} (hd : decode bytes pc = .ok (.lsub, 1)) (hp : pc + 1 = pc') (g : oGo l Z a0 EL wd p e s m args below meth c R own bytes mx rt nm Q O D h k n pc' Ls (.long (x - y) :: st)) : oGo l Z a0 EL wd p e s m args below meth c R own bytes mx rt nm Q O D h k n pc Ls (.long y :: .long x :: st) := by
  subst hp; exact oGo.pure (fun T hA hb hx t hr => XT.lsub hA hx rfl (by rw [hb]; exact hd) rfl hr) g
theorem oGo.imul {x y : Int32} (hd : decode bytes pc = .ok (.imul, 1)) (hp : pc + 1 = pc') (g : oGo l Z a0 EL wd p e s m args below meth c R own bytes mx rt nm Q O D h k n pc' Ls (.int (x * y) :: st)) : oGo l Z a0 EL wd p e s m args below meth c R own bytes mx rt nm Q O D h k n pc Ls (.int y :: .int x :: st) := by
  subst hp; exact oGo.pure (fun T hA hb hx t hr => XS.imul hA hx rfl (by rw [hb]; exact hd) rfl hr) g
theorem oGo.lmul {x y : Int64} (hd : decode bytes pc = .ok (.lmul, 1)) (hp : pc + 1 = pc') (g : oGo l Z a0 EL wd p e s m args below meth c R own bytes mx rt nm Q O D h k n pc' Ls (.long (x * y) :: st)) : oGo l Z a0 EL wd p e s m args below meth c R own bytes mx rt nm Q O D h k n pc Ls (.long y :: .long x :: st) := by
  subst hp; exact oGo.pure (fun T hA hb hx t hr => XT.lmul hA hx rfl (by rw [hb]; exact hd) rfl hr) g
theorem oGo.iand {x y : Int32} (hd : decode bytes pc = .ok (.iand, 1)) (hp : pc + 1 = pc') (g : oGo l Z a0 EL wd p e s m args below meth c R own bytes mx rt nm Q O D h k n pc' Ls (.int (x &&& y) :: st)) : oGo l Z a0 EL wd p e s m args below meth c R own bytes mx rt nm Q O D h k n pc Ls (.int y :: .int x :: st) := by
  subst hp; exact oGo.pure (fun T hA hb hx t hr => XS.iand hA hx rfl (by rw [hb]; exact hd) rfl hr) g
theorem oGo.land {x y : Int64} (hd : decode bytes pc = .ok (.land, 1)) (hp : pc + 1 = pc') (g : oGo l Z a0 EL wd p e s m args below meth c R own bytes mx rt nm Q O D h k n pc' Ls (.long (x &&& y) :: st)) : oGo l Z a0 EL wd p e s m args below meth c R own bytes mx rt nm Q O D h k n pc Ls (.long y :: .long x :: st) := by
  subst hp; exact oGo.pure (fun T hA hb hx t hr => XT.land hA hx rfl (by rw [hb]; exact hd) rfl hr) g
theorem oGo.ior {x y : Int32} (hd : decode bytes pc = .ok (.ior, 1)) (hp : pc + 1 = pc') (g : oGo l Z a0 EL wd p e s m args below meth c R own bytes mx rt nm Q O D h k n pc' Ls (.int (x ||| y) :: st)) : oGo l Z a0 EL wd p e s m args below meth c R own bytes mx rt nm Q O D h k n pc Ls (.int y :: .int x :: st) := by
  subst hp; exact oGo.pure (fun T hA hb hx t hr => XT.ior hA hx rfl (by rw [hb]; exact hd) rfl hr) g
theorem oGo.lor {x y : Int64} (hd : decode bytes pc = .ok (.lor, 1)) (hp : pc + 1 = pc') (g : oGo l Z a0 EL wd p e s m args below meth c R own bytes mx rt nm Q O D h k n pc' Ls (.long (x ||| y) :: st)) : oGo l Z a0 EL wd p e s m args below meth c R own bytes mx rt nm Q O D h k n pc Ls (.long y :: .long x :: st) := by
  subst hp; exact oGo.pure (fun T hA hb hx t hr => XT.lor hA hx rfl (by rw [hb]; exact hd) rfl hr) g
theorem oGo.ixor {x y : Int32} (hd : decode bytes pc = .ok (.ixor, 1)) (hp : pc + 1 = pc') (g : oGo l Z a0 EL wd p e s m args below meth c R own bytes mx rt nm Q O D h k n pc' Ls (.int (x ^^^ y) :: st)) : oGo l Z a0 EL wd p e s m args below meth c R own bytes mx rt nm Q O D h k n pc Ls (.int y :: .int x :: st) := by
  subst hp; exact oGo.pure (fun T hA hb hx t hr => XT.ixor hA hx rfl (by rw [hb]; exact hd) rfl hr) g
theorem oGo.lxor {x y : Int64} (hd : decode bytes pc = .ok (.lxor, 1)) (hp : pc + 1 = pc') (g : oGo l Z a0 EL wd p e s m args below meth c R own bytes mx rt nm Q O D h k n pc' Ls (.long (x ^^^ y) :: st)) : oGo l Z a0 EL wd p e s m args below meth c R own bytes mx rt nm Q O D h k n pc Ls (.long y :: .long x :: st) := by
  subst hp; exact oGo.pure (fun T hA hb hx t hr => XT.lxor hA hx rfl (by rw [hb]; exact hd) rfl hr) g
theorem oGo.ishl {x y : Int32} (hd : decode bytes pc = .ok (.ishl, 1)) (hp : pc + 1 = pc') (g : oGo l Z a0 EL wd p e s m args below meth c R own bytes mx rt nm Q O D h k n pc' Ls (.int (x <<< (y &&& 31)) :: st)) : oGo l Z a0 EL wd p e s m args below meth c R own bytes mx rt nm Q O D h k n pc Ls (.int y :: .int x :: st) := by
  subst hp; exact oGo.pure (fun T hA hb hx t hr => XT.ishl hA hx rfl (by rw [hb]; exact hd) rfl hr) g
theorem oGo.ishr {x y : Int32} (hd : decode bytes pc = .ok (.ishr, 1)) (hp : pc + 1 = pc') (g : oGo l Z a0 EL wd p e s m args below meth c R own bytes mx rt nm Q O D h k n pc' Ls (.int (x >>> (y &&& 31)) :: st)) : oGo l Z a0 EL wd p e s m args below meth c R own bytes mx rt nm Q O D h k n pc Ls (.int y :: .int x :: st) := by
  subst hp; exact oGo.pure (fun T hA hb hx t hr => XT.ishr hA hx rfl (by rw [hb]; exact hd) rfl hr) g
theorem oGo.iushr {x y : Int32} (hd : decode bytes pc = .ok (.iushr, 1)) (hp : pc + 1 = pc') (g : oGo l Z a0 EL wd p e s m args below meth c R own bytes mx rt nm Q O D h k n pc' Ls (.int (XT.ushr x y) :: st)) : oGo l Z a0 EL wd p e s m args below meth c R own bytes mx rt nm Q O D h k n pc Ls (.int y :: .int x :: st) := by
  subst hp; exact oGo.pure (fun T hA hb hx t hr => XT.iushr hA hx rfl (by rw [hb]; exact hd) rfl hr) g
theorem oGo.idiv {x y : Int32} (hd : decode bytes pc = .ok (.idiv, 1)) (hp : pc + 1 = pc') (hy : y ≠ 0) (g : oGo l Z a0 EL wd p e s m args below meth c R own bytes mx rt nm Q O D h k n pc' Ls (.int (x / y) :: st)) : oGo l Z a0 EL wd p e s m args below meth c R own bytes mx rt nm Q O D h k n pc Ls (.int y :: .int x :: st) := by
  subst hp; exact oGo.pure (fun T hA hb hx t hr => XS.idiv hA hx rfl (by rw [hb]; exact hd) rfl hy hr) g
theorem oGo.ldiv {x y : Int64} (hd : decode bytes pc = .ok (.ldiv, 1)) (hp : pc + 1 = pc') (hy : y ≠ 0) (g : oGo l Z a0 EL wd p e s m args below meth c R own bytes mx rt nm Q O D h k n pc' Ls (.long (x / y) :: st)) : oGo l Z a0 EL wd p e s m args below meth c R own bytes mx rt nm Q O D h k n pc Ls (.long y :: .long x :: st) := by
  subst hp; exact oGo.pure (fun T hA hb hx t hr => XT.ldiv hA hx rfl (by rw [hb]; exact hd) rfl hy hr) g
theorem oGo.irem {x y : Int32} (hd : decode bytes pc = .ok (.irem, 1)) (hp : pc + 1 = pc') (hy : y ≠ 0) (g : oGo l Z a0 EL wd p e s m args below meth c R own bytes mx rt nm Q O D h k n pc' Ls (.int (x % y) :: st)) : oGo l Z a0 EL wd p e s m args below meth c R own bytes mx rt nm Q O D h k n pc Ls (.int y :: .int x :: st) := by
  subst hp; rw [← irem_eq_mod] at g; exact oGo.pure (fun T hA hb hx t hr => XS.irem hA hx rfl (by rw [hb]; exact hd) rfl hy hr) g
theorem oGo.lrem {x y : Int64} (hd : decode bytes pc = .ok (.lrem, 1)) (hp : pc + 1 = pc') (hy : y ≠ 0) (g : oGo l Z a0 EL wd p e s m args below meth c R own bytes mx rt nm Q O D h k n pc' Ls (.long (x - x / y * y) :: st)) : oGo l Z a0 EL wd p e s m args below meth c R own bytes mx rt nm Q O D h k n pc Ls (.long y :: .long x :: st) := by
  subst hp; exact oGo.pure (fun T hA hb hx t hr => XT.lrem hA hx rfl (by rw [hb]; exact hd) rfl hy hr) g
theorem oGo.ineg {x : Int32} (hd : decode bytes pc = .ok (.ineg, 1)) (hp : pc + 1 = pc') (g : oGo l Z a0 EL wd p e s m args below meth c R own bytes mx rt nm Q O D h k n pc' Ls (.int (-x) :: st)) : oGo l Z a0 EL wd p e s m args below meth c R own bytes mx rt nm Q O D h k n pc Ls (.int x :: st) := by
  subst hp; exact oGo.pure (fun T hA hb hx t hr => XS.ineg hA hx rfl (by rw [hb]; exact hd) rfl hr) g
theorem oGo.lneg {x : Int64} (hd : decode bytes pc = .ok (.lneg, 1)) (hp : pc + 1 = pc') (g : oGo l Z a0 EL wd p e s m args below meth c R own bytes mx rt nm Q O D h k n pc' Ls (.long (-x) :: st)) : oGo l Z a0 EL wd p e s m args below meth c R own bytes mx rt nm Q O D h k n pc Ls (.long x :: st) := by
  subst hp; exact oGo.pure (fun T hA hb hx t hr => XT.lneg hA hx rfl (by rw [hb]; exact hd) rfl hr) g
theorem oGo.i2l {x : Int32} (hd : decode bytes pc = .ok (.i2l, 1)) (hp : pc + 1 = pc') (g : oGo l Z a0 EL wd p e s m args below meth c R own bytes mx rt nm Q O D h k n pc' Ls (.long x.toInt64 :: st)) : oGo l Z a0 EL wd p e s m args below meth c R own bytes mx rt nm Q O D h k n pc Ls (.int x :: st) := by
  subst hp; exact oGo.pure (fun T hA hb hx t hr => XT.i2l hA hx rfl (by rw [hb]; exact hd) rfl hr) g
theorem oGo.l2i {x : Int64} (hd : decode bytes pc = .ok (.l2i, 1)) (hp : pc + 1 = pc') (g : oGo l Z a0 EL wd p e s m args below meth c R own bytes mx rt nm Q O D h k n pc' Ls (.int x.toInt32 :: st)) : oGo l Z a0 EL wd p e s m args below meth c R own bytes mx rt nm Q O D h k n pc Ls (.long x :: st) := by
  subst hp; exact oGo.pure (fun T hA hb hx t hr => XT.l2i hA hx rfl (by rw [hb]; exact hd) rfl hr) g
theorem oGo.i2b {x : Int32} (hd : decode bytes pc = .ok (.i2b, 1)) (hp : pc + 1 = pc') (g : oGo l Z a0 EL wd p e s m args below meth c R own bytes mx rt nm Q O D h k n pc' Ls (.int x.toInt8.toInt32 :: st)) : oGo l Z a0 EL wd p e s m args below meth c R own bytes mx rt nm Q O D h k n pc Ls (.int x :: st) := by
  subst hp; exact oGo.pure (fun T hA hb hx t hr => XT.i2b hA hx rfl (by rw [hb]; exact hd) rfl hr) g
theorem oGo.i2c {x : Int32} (hd : decode bytes pc = .ok (.i2c, 1)) (hp : pc + 1 = pc') (g : oGo l Z a0 EL wd p e s m args below meth c R own bytes mx rt nm Q O D h k n pc' Ls (.int x.toUInt32.toUInt16.toUInt32.toInt32 :: st)) : oGo l Z a0 EL wd p e s m args below meth c R own bytes mx rt nm Q O D h k n pc Ls (.int x :: st) := by
  subst hp; exact oGo.pure (fun T hA hb hx t hr => XT.i2c hA hx rfl (by rw [hb]; exact hd) rfl hr) g
theorem oGo.lcmp {x y : Int64} (hd : decode bytes pc = .ok (.lcmp, 1)) (hp : pc + 1 = pc') (g : oGo l Z a0 EL wd p e s m args below meth c R own bytes mx rt nm Q O D h k n pc' Ls (.int (XT.cmpL x y) :: st)) : oGo l Z a0 EL wd p e s m args below meth c R own bytes mx rt nm Q O D h k n pc Ls (.long y :: .long x :: st) := by
  subst hp; exact oGo.pure (fun T hA hb hx t hr => XT.lcmp hA hx rfl (by rw [hb]; exact hd) rfl hr) g
theorem oGo.iinc {i : Nat} {d : Int} {x y : Int32} (hd : decode bytes pc = .ok (.iinc i d, 3)) (hp : pc + 3 = pc') (hl : Ls[i]? = some (.val (.int x))) (hv : Int32.ofInt d = y) (hl' : storeLocals Ls i (.int (x + y)) = some Ls') (g : oGo l Z a0 EL wd p e s m args below meth c R own bytes mx rt nm Q O D h k n pc' Ls' (st)) : oGo l Z a0 EL wd p e s m args below meth c R own bytes mx rt nm Q O D h k n pc Ls (st) := by
  subst hp; exact oGo.pure (fun T hA hb hx t hr => XS.iinc hA hx rfl (by rw [hb]; exact hd) hl (by rw [hv]; exact hl') hr) g
theorem oGo.dup {v : Value} (hd : decode bytes pc = .ok (.dup, 1)) (hp : pc + 1 = pc') (hc : v.category = 1) (g : oGo l Z a0 EL wd p e s m args below meth c R own bytes mx rt nm Q O D h k n pc' Ls (v :: v :: st)) : oGo l Z a0 EL wd p e s m args below meth c R own bytes mx rt nm Q O D h k n pc Ls (v :: st) := by
  subst hp; exact oGo.pure (fun T hA hb hx t hr => XS.dup hA hx rfl (by rw [hb]; exact hd) rfl hc hr) g
theorem oGo.pop {v : Value} (hd : decode bytes pc = .ok (.pop, 1)) (hp : pc + 1 = pc') (hc : v.category = 1) (g : oGo l Z a0 EL wd p e s m args below meth c R own bytes mx rt nm Q O D h k n pc' Ls (st)) : oGo l Z a0 EL wd p e s m args below meth c R own bytes mx rt nm Q O D h k n pc Ls (v :: st) := by
  subst hp; exact oGo.pure (fun T hA hb hx t hr => XT.pop hA hx rfl (by rw [hb]; exact hd) rfl hc hr) g
theorem oGo.dup_x1 {v w : Value} (hd : decode bytes pc = .ok (.dup_x1, 1)) (hp : pc + 1 = pc') (hc : v.category = 1) (hc' : w.category = 1) (g : oGo l Z a0 EL wd p e s m args below meth c R own bytes mx rt nm Q O D h k n pc' Ls (v :: w :: v :: st)) : oGo l Z a0 EL wd p e s m args below meth c R own bytes mx rt nm Q O D h k n pc Ls (v :: w :: st) := by
  subst hp; exact oGo.pure (fun T hA hb hx t hr => XT.dupX1 hA hx rfl (by rw [hb]; exact hd) rfl hc hc' hr) g
theorem oGo.dup2 {v w : Value} (hd : decode bytes pc = .ok (.dup2, 1)) (hp : pc + 1 = pc') (hc : v.category = 1) (hc' : w.category = 1) (g : oGo l Z a0 EL wd p e s m args below meth c R own bytes mx rt nm Q O D h k n pc' Ls (v :: w :: v :: w :: st)) : oGo l Z a0 EL wd p e s m args below meth c R own bytes mx rt nm Q O D h k n pc Ls (v :: w :: st) := by
  subst hp; exact oGo.pure (fun T hA hb hx t hr => XT.dup2 hA hx rfl (by rw [hb]; exact hd) rfl hc hc' hr) g
theorem oGo.goto {o : Int} (hd : decode bytes pc = .ok (.goto o, 3)) (ho : (pc : Int) + o = (pc' : Int)) (g : oGo l Z a0 EL wd p e s m args below meth c R own bytes mx rt nm Q O D h k n pc' Ls st) : oGo l Z a0 EL wd p e s m args below meth c R own bytes mx rt nm Q O D h k n pc Ls st :=
  oGo.pure (fun T hA hb hx t hr => XS.goto hA hx rfl (pc0 := pc) (pc' := pc') rfl (by rw [hb]; exact hd) (by omega) (by omega) hr) g
theorem own_icmp_eq {x y : Int32} : if_icmp.holds .eq x y = true ↔ x = y := by simp [if_icmp.holds, Int32.not_lt]
theorem own_icmp_eqN {x y : Int32} : if_icmp.holds .eq x y = false ↔ ¬ x = y := by simp [if_icmp.holds, Int32.not_lt]
theorem oGo.icmp_eq {x y : Int32} {o : Int} (hd : decode bytes pc = .ok (.if_icmp .eq o, 3)) (hp : pc + 3 = pc1) (ho : (pc : Int) + o = (pc2 : Int)) (gy : x = y → oGo l Z a0 EL wd p e s m args below meth c R own bytes mx rt nm Q O D h k n pc2 Ls st) (gn : ¬ x = y → oGo l Z a0 EL wd p e s m args below meth c R own bytes mx rt nm Q O D h k n pc1 Ls st) : oGo l Z a0 EL wd p e s m args below meth c R own bytes mx rt nm Q O D h k n pc Ls (.int y :: .int x :: st) := by
  subst hp
  by_cases q : x = y
  · exact oGo.pure (fun T hA hb hx t hr => XS.icmpYes hA hx rfl (pc0 := pc) (pc' := pc2) rfl (by rw [hb]; exact hd) rfl (own_icmp_eq.2 q) (by omega) (by omega) hr) (gy q)
  · exact oGo.pure (fun T hA hb hx t hr => XS.icmpNo hA hx rfl (by rw [hb]; exact hd) rfl (own_icmp_eqN.2 q) hr) (gn q)
theorem own_icmp_ne {x y : Int32} : if_icmp.holds .ne x y = true ↔ ¬ x = y := by simp [if_icmp.holds, Int32.not_lt]
theorem own_icmp_neN {x y : Int32} : if_icmp.holds .ne x y = false ↔ x = y := by simp [if_icmp.holds, Int32.not_lt]
theorem oGo.icmp_ne {x y : Int32} {o : Int} (hd : decode bytes pc = .ok (.if_icmp .ne o, 3)) (hp : pc + 3 = pc1) (ho : (pc : Int) + o = (pc2 : Int)) (gy : ¬ x = y → oGo l Z a0 EL wd p e s m args below meth c R own bytes mx rt nm Q O D h k n pc2 Ls st) (gn : x = y → oGo l Z a0 EL wd p e s m args below meth c R own bytes mx rt nm Q O D h k n pc1 Ls st) : oGo l Z a0 EL wd p e s m args below meth c R own bytes mx rt nm Q O D h k n pc Ls (.int y :: .int x :: st) := by
  subst hp
  by_cases q : x = y
  · exact oGo.pure (fun T hA hb hx t hr => XS.icmpNo hA hx rfl (by rw [hb]; exact hd) rfl (own_icmp_neN.2 q) hr) (gn q)
  · exact oGo.pure (fun T hA hb hx t hr => XS.icmpYes hA hx rfl (pc0 := pc) (pc' := pc2) rfl (by rw [hb]; exact hd) rfl (own_icmp_ne.2 q) (by omega) (by omega) hr) (gy q)
theorem own_icmp_lt {x y : Int32} : if_icmp.holds .lt x y = true ↔ x < y := by simp [if_icmp.holds, Int32.not_lt]
theorem own_icmp_ltN {x y : Int32} : if_icmp.holds .lt x y = false ↔ ¬ x < y := by simp [if_icmp.holds, Int32.not_lt]
theorem oGo.icmp_lt {x y : Int32} {o : Int} (hd : decode bytes pc = .ok (.if_icmp .lt o, 3)) (hp : pc + 3 = pc1) (ho : (pc : Int) + o = (pc2 : Int)) (gy : x < y → oGo l Z a0 EL wd p e s m args below meth c R own bytes mx rt nm Q O D h k n pc2 Ls st) (gn : ¬ x < y → oGo l Z a0 EL wd p e s m args below meth c R own bytes mx rt nm Q O D h k n pc1 Ls st) : oGo l Z a0 EL wd p e s m args below meth c R own bytes mx rt nm Q O D h k n pc Ls (.int y :: .int x :: st) := by
  subst hp
  by_cases q : x < y
  · exact oGo.pure (fun T hA hb hx t hr => XS.icmpYes hA hx rfl (pc0 := pc) (pc' := pc2) rfl (by rw [hb]; exact hd) rfl (own_icmp_lt.2 q) (by omega) (by omega) hr) (gy q)
  · exact oGo.pure (fun T hA hb hx t hr => XS.icmpNo hA hx rfl (by rw [hb]; exact hd) rfl (own_icmp_ltN.2 q) hr) (gn q)
theorem own_icmp_ge {x y : Int32} : if_icmp.holds .ge x y = true ↔ ¬ x < y := by simp [if_icmp.holds, Int32.not_lt]
theorem own_icmp_geN {x y : Int32} : if_icmp.holds .ge x y = false ↔ x < y := by simp [if_icmp.holds, Int32.not_lt]
theorem oGo.icmp_ge {x y : Int32} {o : Int} (hd : decode bytes pc = .ok (.if_icmp .ge o, 3)) (hp : pc + 3 = pc1) (ho : (pc : Int) + o = (pc2 : Int)) (gy : ¬ x < y → oGo l Z a0 EL wd p e s m args below meth c R own bytes mx rt nm Q O D h k n pc2 Ls st) (gn : x < y → oGo l Z a0 EL wd p e s m args below meth c R own bytes mx rt nm Q O D h k n pc1 Ls st) : oGo l Z a0 EL wd p e s m args below meth c R own bytes mx rt nm Q O D h k n pc Ls (.int y :: .int x :: st) := by
  subst hp
  by_cases q : x < y
  · exact oGo.pure (fun T hA hb hx t hr => XS.icmpNo hA hx rfl (by rw [hb]; exact hd) rfl (own_icmp_geN.2 q) hr) (gn q)
  · exact oGo.pure (fun T hA hb hx t hr => XS.icmpYes hA hx rfl (pc0 := pc) (pc' := pc2) rfl (by rw [hb]; exact hd) rfl (own_icmp_ge.2 q) (by omega) (by omega) hr) (gy q)
theorem own_icmp_gt {x y : Int32} : if_icmp.holds .gt x y = true ↔ y < x := by simp [if_icmp.holds, Int32.not_lt]
theorem own_icmp_gtN {x y : Int32} : if_icmp.holds .gt x y = false ↔ ¬ y < x := by simp [if_icmp.holds, Int32.not_lt]
theorem oGo.icmp_gt {x y : Int32} {o : Int} (hd : decode bytes pc = .ok (.if_icmp .gt o, 3)) (hp : pc + 3 = pc1) (ho : (pc : Int) + o = (pc2 : Int)) (gy : y < x → oGo l Z a0 EL wd p e s m args below meth c R own bytes mx rt nm Q O D h k n pc2 Ls st) (gn : ¬ y < x → oGo l Z a0 EL wd p e s m args below meth c R own bytes mx rt nm Q O D h k n pc1 Ls st) : oGo l Z a0 EL wd p e s m args below meth c R own bytes mx rt nm Q O D h k n pc Ls (.int y :: .int x :: st) := by
  subst hp
  by_cases q : y < x
  · exact oGo.pure (fun T hA hb hx t hr => XS.icmpYes hA hx rfl (pc0 := pc) (pc' := pc2) rfl (by rw [hb]; exact hd) rfl (own_icmp_gt.2 q) (by omega) (by omega) hr) (gy q)
  · exact oGo.pure (fun T hA hb hx t hr => XS.icmpNo hA hx rfl (by rw [hb]; exact hd) rfl (own_icmp_gtN.2 q) hr) (gn q)
theorem own_icmp_le {x y : Int32} : if_icmp.holds .le x y = true ↔ ¬ y < x := by simp [if_icmp.holds, Int32.not_lt]
theorem own_icmp_leN {x y : Int32} : if_icmp.holds .le x y = false ↔ y < x := by simp [if_icmp.holds, Int32.not_lt]
theorem oGo.icmp_le {x y : Int32} {o : Int} (hd : decode bytes pc = .ok (.if_icmp .le o, 3)) (hp : pc + 3 = pc1) (ho : (pc : Int) + o = (pc2 : Int)) (gy : ¬ y < x → oGo l Z a0 EL wd p e s m args below meth c R own bytes mx rt nm Q O D h k n pc2 Ls st) (gn : y < x → oGo l Z a0 EL wd p e s m args below meth c R own bytes mx rt nm Q O D h k n pc1 Ls st) : oGo l Z a0 EL wd p e s m args below meth c R own bytes mx rt nm Q O D h k n pc Ls (.int y :: .int x :: st) := by
  subst hp
  by_cases q : y < x
  · exact oGo.pure (fun T hA hb hx t hr => XS.icmpNo hA hx rfl (by rw [hb]; exact hd) rfl (own_icmp_leN.2 q) hr) (gn q)
  · exact oGo.pure (fun T hA hb hx t hr => XS.icmpYes hA hx rfl (pc0 := pc) (pc' := pc2) rfl (by rw [hb]; exact hd) rfl (own_icmp_le.2 q) (by omega) (by omega) hr) (gy q)
theorem own_if_eq {x : Int32} : ifCond.holds .eq x = true ↔ x = 0 := by simp [ifCond.holds, Int32.not_lt]
theorem own_if_eqN {x : Int32} : ifCond.holds .eq x = false ↔ ¬ x = 0 := by simp [ifCond.holds, Int32.not_lt]
theorem oGo.if_eq {x : Int32} {o : Int} (hd : decode bytes pc = .ok (.ifCond .eq o, 3)) (hp : pc + 3 = pc1) (ho : (pc : Int) + o = (pc2 : Int)) (gy : x = 0 → oGo l Z a0 EL wd p e s m args below meth c R own bytes mx rt nm Q O D h k n pc2 Ls st) (gn : ¬ x = 0 → oGo l Z a0 EL wd p e s m args below meth c R own bytes mx rt nm Q O D h k n pc1 Ls st) : oGo l Z a0 EL wd p e s m args below meth c R own bytes mx rt nm Q O D h k n pc Ls (.int x :: st) := by
  subst hp
  by_cases q : x = 0
  · exact oGo.pure (fun T hA hb hx t hr => XS.ifYes hA hx rfl (pc0 := pc) (pc' := pc2) rfl (by rw [hb]; exact hd) rfl (own_if_eq.2 q) (by omega) (by omega) hr) (gy q)
  · exact oGo.pure (fun T hA hb hx t hr => XS.ifNo hA hx rfl (by rw [hb]; exact hd) rfl (own_if_eqN.2 q) hr) (gn q)
theorem own_if_ne {x : Int32} : ifCond.holds .ne x = true ↔ ¬ x = 0 := by simp [ifCond.holds, Int32.not_lt]
theorem own_if_neN {x : Int32} : ifCond.holds .ne x = false ↔ x = 0 := by simp [ifCond.holds, Int32.not_lt]
theorem oGo.if_ne {x : Int32} {o : Int} (hd : decode bytes pc = .ok (.ifCond .ne o, 3)) (hp : pc + 3 = pc1) (ho : (pc : Int) + o = (pc2 : Int)) (gy : ¬ x = 0 → oGo l Z a0 EL wd p e s m args below meth c R own bytes mx rt nm Q O D h k n pc2 Ls st) (gn : x = 0 → oGo l Z a0 EL wd p e s m args below meth c R own bytes mx rt nm Q O D h k n pc1 Ls st) : oGo l Z a0 EL wd p e s m args below meth c R own bytes mx rt nm Q O D h k n pc Ls (.int x :: st) := by
  subst hp
  by_cases q : x = 0
  · exact oGo.pure (fun T hA hb hx t hr => XS.ifNo hA hx rfl (by rw [hb]; exact hd) rfl (own_if_neN.2 q) hr) (gn q)
  · exact oGo.pure (fun T hA hb hx t hr => XS.ifYes hA hx rfl (pc0 := pc) (pc' := pc2) rfl (by rw [hb]; exact hd) rfl (own_if_ne.2 q) (by omega) (by omega) hr) (gy q)
theorem own_if_lt {x : Int32} : ifCond.holds .lt x = true ↔ x < 0 := by simp [ifCond.holds, Int32.not_lt]
theorem own_if_ltN {x : Int32} : ifCond.holds .lt x = false ↔ ¬ x < 0 := by simp [ifCond.holds, Int32.not_lt]
theorem oGo.if_lt {x : Int32} {o : Int} (hd : decode bytes pc = .ok (.ifCond .lt o, 3)) (hp : pc + 3 = pc1) (ho : (pc : Int) + o = (pc2 : Int)) (gy : x < 0 → oGo l Z a0 EL wd p e s m args below meth c R own bytes mx rt nm Q O D h k n pc2 Ls st) (gn : ¬ x < 0 → oGo l Z a0 EL wd p e s m args below meth c R own bytes mx rt nm Q O D h k n pc1 Ls st) : oGo l Z a0 EL wd p e s m args below meth c R own bytes mx rt nm Q O D h k n pc Ls (.int x :: st) := by
  subst hp
  by_cases q : x < 0
  · exact oGo.pure (fun T hA hb hx t hr => XS.ifYes hA hx rfl (pc0 := pc) (pc' := pc2) rfl (by rw [hb]; exact hd) rfl (own_if_lt.2 q) (by omega) (by omega) hr) (gy q)
  · exact oGo.pure (fun T hA hb hx t hr => XS.ifNo hA hx rfl (by rw [hb]; exact hd) rfl (own_if_ltN.2 q) hr) (gn q)
theorem own_if_ge {x : Int32} : ifCond.holds .ge x = true ↔ ¬ x < 0 := by simp [ifCond.holds, Int32.not_lt]
theorem own_if_geN {x : Int32} : ifCond.holds .ge x = false ↔ x < 0 := by simp [ifCond.holds, Int32.not_lt]
theorem oGo.if_ge {x : Int32} {o : Int} (hd : decode bytes pc = .ok (.ifCond .ge o, 3)) (hp : pc + 3 = pc1) (ho : (pc : Int) + o = (pc2 : Int)) (gy : ¬ x < 0 → oGo l Z a0 EL wd p e s m args below meth c R own bytes mx rt nm Q O D h k n pc2 Ls st) (gn : x < 0 → oGo l Z a0 EL wd p e s m args below meth c R own bytes mx rt nm Q O D h k n pc1 Ls st) : oGo l Z a0 EL wd p e s m args below meth c R own bytes mx rt nm Q O D h k n pc Ls (.int x :: st) := by
  subst hp
  by_cases q : x < 0
  · exact oGo.pure (fun T hA hb hx t hr => XS.ifNo hA hx rfl (by rw [hb]; exact hd) rfl (own_if_geN.2 q) hr) (gn q)
  · exact oGo.pure (fun T hA hb hx t hr => XS.ifYes hA hx rfl (pc0 := pc) (pc' := pc2) rfl (by rw [hb]; exact hd) rfl (own_if_ge.2 q) (by omega) (by omega) hr) (gy q)
theorem own_if_gt {x : Int32} : ifCond.holds .gt x = true ↔ 0 < x := by simp [ifCond.holds, Int32.not_lt]
theorem own_if_gtN {x : Int32} : ifCond.holds .gt x = false ↔ ¬ 0 < x := by simp [ifCond.holds, Int32.not_lt]
theorem oGo.if_gt {x : Int32} {o : Int} (hd : decode bytes pc = .ok (.ifCond .gt o, 3)) (hp : pc + 3 = pc1) (ho : (pc : Int) + o = (pc2 : Int)) (gy : 0 < x → oGo l Z a0 EL wd p e s m args below meth c R own bytes mx rt nm Q O D h k n pc2 Ls st) (gn : ¬ 0 < x → oGo l Z a0 EL wd p e s m args below meth c R own bytes mx rt nm Q O D h k n pc1 Ls st) : oGo l Z a0 EL wd p e s m args below meth c R own bytes mx rt nm Q O D h k n pc Ls (.int x :: st) := by
  subst hp
  by_cases q : 0 < x
  · exact oGo.pure (fun T hA hb hx t hr => XS.ifYes hA hx rfl (pc0 := pc) (pc' := pc2) rfl (by rw [hb]; exact hd) rfl (own_if_gt.2 q) (by omega) (by omega) hr) (gy q)
  · exact oGo.pure (fun T hA hb hx t hr => XS.ifNo hA hx rfl (by rw [hb]; exact hd) rfl (own_if_gtN.2 q) hr) (gn q)
theorem own_if_le {x : Int32} : ifCond.holds .le x = true ↔ ¬ 0 < x := by simp [ifCond.holds, Int32.not_lt]
theorem own_if_leN {x : Int32} : ifCond.holds .le x = false ↔ 0 < x := by simp [ifCond.holds, Int32.not_lt]
theorem oGo.if_le {x : Int32} {o : Int} (hd : decode bytes pc = .ok (.ifCond .le o, 3)) (hp : pc + 3 = pc1) (ho : (pc : Int) + o = (pc2 : Int)) (gy : ¬ 0 < x → oGo l Z a0 EL wd p e s m args below meth c R own bytes mx rt nm Q O D h k n pc2 Ls st) (gn : 0 < x → oGo l Z a0 EL wd p e s m args below meth c R own bytes mx rt nm Q O D h k n pc1 Ls st) : oGo l Z a0 EL wd p e s m args below meth c R own bytes mx rt nm Q O D h k n pc Ls (.int x :: st) := by
  subst hp
  by_cases q : 0 < x
  · exact oGo.pure (fun T hA hb hx t hr => XS.ifNo hA hx rfl (by rw [hb]; exact hd) rfl (own_if_leN.2 q) hr) (gn q)
  · exact oGo.pure (fun T hA hb hx t hr => XS.ifYes hA hx rfl (pc0 := pc) (pc' := pc2) rfl (by rw [hb]; exact hd) rfl (own_if_le.2 q) (by omega) (by omega) hr) (gy q)
theorem oGo.ifnull_y {o : Int} {b : Addr} (hd : decode bytes pc = .ok (.ifnull o, 3)) (ho : (pc : Int) + o = (pc2 : Int)) (g : oGo l Z a0 EL wd p e s m args below meth c R own bytes mx rt nm Q O D h k n pc2 Ls st) : oGo l Z a0 EL wd p e s m args below meth c R own bytes mx rt nm Q O D h k n pc Ls (.null :: st) :=
  oGo.pure (fun T hA hb hx t hr => XS.ifnullYes hA hx rfl (pc0 := pc) (pc' := pc2) rfl (by rw [hb]; exact hd) rfl (by omega) (by omega) hr) g
theorem oGo.ifnull_n {o : Int} {b : Addr} (hd : decode bytes pc = .ok (.ifnull o, 3)) (hp : pc + 3 = pc1) (g : oGo l Z a0 EL wd p e s m args below meth c R own bytes mx rt nm Q O D h k n pc1 Ls st) : oGo l Z a0 EL wd p e s m args below meth c R own bytes mx rt nm Q O D h k n pc Ls (.ref b :: st) := by
  subst hp; exact oGo.pure (fun T hA hb hx t hr => XS.ifnullNo hA hx rfl (by rw [hb]; exact hd) rfl hr) g
theorem oGo.ifnonnull_y {o : Int} {b : Addr} (hd : decode bytes pc = .ok (.ifnonnull o, 3)) (ho : (pc : Int) + o = (pc2 : Int)) (g : oGo l Z a0 EL wd p e s m args below meth c R own bytes mx rt nm Q O D h k n pc2 Ls st) : oGo l Z a0 EL wd p e s m args below meth c R own bytes mx rt nm Q O D h k n pc Ls (.ref b :: st) :=
  oGo.pure (fun T hA hb hx t hr => XT.ifnonnullYes hA hx rfl (pc0 := pc) (pc' := pc2) rfl (by rw [hb]; exact hd) rfl (by omega) (by omega) hr) g
theorem oGo.ifnonnull_n {o : Int} {b : Addr} (hd : decode bytes pc = .ok (.ifnonnull o, 3)) (hp : pc + 3 = pc1) (g : oGo l Z a0 EL wd p e s m args below meth c R own bytes mx rt nm Q O D h k n pc1 Ls st) : oGo l Z a0 EL wd p e s m args below meth c R own bytes mx rt nm Q O D h k n pc Ls (.null :: st) := by
  subst hp; exact oGo.pure (fun T hA hb hx t hr => XT.ifnonnullNo hA hx rfl (by rw [hb]; exact hd) rfl hr) g
theorem oGo.acmp_y {cd : ClassFile.ACond} {v w : Value} {o : Int} (hd : decode bytes pc = .ok (.if_acmp cd o, 3)) (ho : (pc : Int) + o = (pc2 : Int)) (hv : v.isRef = true) (hw : w.isRef = true) (hq : XT.acmp cd v w = true) (g : oGo l Z a0 EL wd p e s m args below meth c R own bytes mx rt nm Q O D h k n pc2 Ls st) : oGo l Z a0 EL wd p e s m args below meth c R own bytes mx rt nm Q O D h k n pc Ls (w :: v :: st) :=
  oGo.pure (fun T hA hb hx t hr => XT.acmpYes hA hx rfl (pc0 := pc) (pc' := pc2) rfl (by rw [hb]; exact hd) rfl hv hw hq (by omega) (by omega) hr) g
theorem oGo.acmp_n {cd : ClassFile.ACond} {v w : Value} {o : Int} (hd : decode bytes pc = .ok (.if_acmp cd o, 3)) (hp : pc + 3 = pc1) (hv : v.isRef = true) (hw : w.isRef = true) (hq : XT.acmp cd v w = false) (g : oGo l Z a0 EL wd p e s m args below meth c R own bytes mx rt nm Q O D h k n pc1 Ls st) : oGo l Z a0 EL wd p e s m args below meth c R own bytes mx rt nm Q O D h k n pc Ls (w :: v :: st) := by
  subst hp; exact oGo.pure (fun T hA hb hx t hr => XT.acmpNo hA hx rfl (by rw [hb]; exact hd) rfl hv hw hq hr) g
/-- steps that may warm the tables -/
theorem oGo.move (H : ∀ (T : State) (locs : List Loc) (vm0 : Vm), Stand p l e R (s.setVm vm0) m args below meth c T locs k n → T.heap = h → Z.Warmed39 vm0 → vm0.findClass own = some m.cls → c.code = bytes → p.tables.exec = Jvm.exec → meth.name = nm → c.maxLocals = mx → ∃ T', Stand p l e R (s.setVm vm0) m args below meth c T' locs k n ∧ T'.heap = h ∧ ∀ t, Steps p.tables e below (T'.setTop (mkF m pc' Ls' st')) t → Steps p.tables e below (T.setTop (mkF m pc Ls st)) t)
    (g : oGo l Z a0 EL wd p e s m args below meth c R own bytes mx rt nm Q O D h k n pc' Ls' st') : oGo l Z a0 EL wd p e s m args below meth c R own bytes mx rt nm Q O D h k n pc Ls st := by
  intro T locs vm0 k0 I
  obtain ⟨⟨hx, hb, hm, hr, hl, hn, hE⟩, hT, hO, hF, X, hS, hk, hZ, hown, hC, hwd, hD⟩ := I
  obtain ⟨T', X', hT', hst⟩ := H T locs vm0 X hT hZ hown hb hx hn hm
  obtain ⟨V, v, L, hs, r⟩ := g T' locs vm0 k0 ⟨⟨hx, hb, hm, hr, hl, hn, hE⟩, hT', hO, hF, X', hS, hk, hZ, hown, hC, hwd, hD⟩
  exact ⟨V, v, L, hst V hs, r⟩
/-- steps that make a cell -/
theorem oGo.grow {P : Heap → Prop} {D' : List Addr} {k' n' : Nat} (H : ∀ (T : State) (locs : List Loc) (vm0 : Vm), Stand p l e R (s.setVm vm0) m args below meth c T locs k n → T.heap = h → Z.Warmed39 vm0 → vm0.findClass own = some m.cls → c.code = bytes → p.tables.exec = Jvm.exec → meth.name = nm → c.maxLocals = mx → ∃ T' h', Stand p l e R (s.setVm vm0) m args below meth c T' locs k' n' ∧ T'.heap = h' ∧ Ext h h' ∧ P h' ∧ ∀ t, Steps p.tables e below (T'.setTop (mkF m pc' Ls' st')) t → Steps p.tables e below (T.setTop (mkF m pc Ls st)) t)
    (hD : ∀ h', P h' → ∀ x ∈ D', x ∈ D ∨ (h.size ≤ x ∧ x < h'.size)) (g : ∀ h', Ext h h' → P h' → oGo l Z a0 EL wd p e s m args below meth c R own bytes mx rt nm Q O D' h' k' n' pc' Ls' st') : oGo l Z a0 EL wd p e s m args below meth c R own bytes mx rt nm Q O D h k n pc Ls st := by
  intro T locs vm0 k0 I
  obtain ⟨⟨hx, hb, hm, hr, hl, hn, hE⟩, hT, hO, hF, X, hS, hk, hZ, hown, hC, hwd, hDk⟩ := I
  obtain ⟨T', h', X', hT', hEx, hP, hst⟩ := H T locs vm0 X hT hZ hown hb hx hn hm
  have hD2 : oDok Z EL vm0 h' D' := fun x hx' => by
    rcases hD h' hP x hx' with q | ⟨q1, q2⟩
    · exact oDok.ext hEx hC.1 hDk x q
    · exact ⟨Nat.le_trans hO.1 q1, q2, (Safe.new q1).ext hEx hC.1⟩
  obtain ⟨V, v, L, hs, r⟩ := g h' hEx hP T' locs vm0 k0 ⟨⟨hx, hb, hm, hr, hl, hn, hE⟩, hT', ext_trans hO hEx, hF, X', hS, Nat.le_trans hk hEx.1, hZ, hown, hC.trans (CHr.ext hEx hC.1), hwd, hD2⟩
  exact ⟨V, v, L, hst V hs, r⟩
/-- a store into one slot -/
theorem oGo.write {a : Addr} {sl : Nat} {w : Value} (H : ∀ (T : State) (locs : List Loc) (vm0 : Vm), Stand p l e R (s.setVm vm0) m args below meth c T locs k n → T.heap = h → Z.Warmed39 vm0 → vm0.findClass own = some m.cls → c.code = bytes → p.tables.exec = Jvm.exec → meth.name = nm → c.maxLocals = mx → ∃ T' h', Stand p l e R (s.setVm vm0) m args below meth c T' (locs ++ [⟨a, sl⟩]) k n ∧ T'.heap = h' ∧ Wr h h' a sl w ∧ ∀ t, Steps p.tables e below (T'.setTop (mkF m pc' Ls' st')) t → Steps p.tables e below (T.setTop (mkF m pc Ls st)) t)
    (ha : a ∈ D) (g : ∀ h', Wr h h' a sl w → h'.size = h.size → oGo l Z a0 EL wd p e s m args below meth c R own bytes mx rt nm Q O D h' k n pc' Ls' st') : oGo l Z a0 EL wd p e s m args below meth c R own bytes mx rt nm Q O D h k n pc Ls st := by
  intro T locs vm0 k0 I
  obtain ⟨⟨hx, hb, hm, hr, hl, hn, hE⟩, hT, hO, hF, X, hS, hk, hZ, hown, hC, hwd, hDk⟩ := I
  obtain ⟨T', h', X', hT', W, hst⟩ := H T locs vm0 X hT hZ hown hb hx hn hm
  obtain ⟨q1, q2, q3⟩ := hDk a ha
  obtain ⟨V, v, L, hs, r⟩ := g h' W W.size T' _ vm0 k0 ⟨⟨hx, hb, hm, hr, hl, hn, hE⟩, hT', ext_wr hO W q1, Fr.snoc X' hF q1, X', hS, by rw [W.size]; exact hk, hZ, hown, hC.trans (CHr.wr W q3 hC.1), hwd, hDk.wr W q3 hC.1⟩
  exact ⟨V, v, L, hst V hs, r⟩
/-- a step that writes into known cells (arraycopy) -/
theorem oGo.writes {ws : List Addr} {P : Heap → Prop} (H : ∀ (T : State) (locs : List Loc) (vm0 : Vm), Stand p l e R (s.setVm vm0) m args below meth c T locs k n → T.heap = h → Z.Warmed39 vm0 → vm0.findClass own = some m.cls → c.code = bytes → p.tables.exec = Jvm.exec → meth.name = nm → c.maxLocals = mx → Fr Z.heap.size locs → (∀ x ∈ D, Z.heap.size ≤ x) → ∃ T' h' L', Stand p l e R (s.setVm vm0) m args below meth c T' L' k n ∧ T'.heap = h' ∧ Fr Z.heap.size L' ∧ Keep h h' ws ∧ P h' ∧ ∀ t, Steps p.tables e below (T'.setTop (mkF m pc' Ls' st')) t → Steps p.tables e below (T.setTop (mkF m pc Ls st)) t)
    (ha : ∀ x ∈ ws, x ∈ D) (g : ∀ h', Keep h h' ws → P h' → oGo l Z a0 EL wd p e s m args below meth c R own bytes mx rt nm Q O D h' k n pc' Ls' st') : oGo l Z a0 EL wd p e s m args below meth c R own bytes mx rt nm Q O D h k n pc Ls st := by
  intro T locs vm0 k0 I
  obtain ⟨⟨hx, hb, hm, hr, hl, hn, hE⟩, hT, hO, hF, X, hS, hk, hZ, hown, hC, hwd, hDk⟩ := I
  obtain ⟨T', h', L', X', hT', hF', K, hP, hst⟩ := H T locs vm0 X hT hZ hown hb hx hn hm hF (fun x q => (hDk x q).1)
  have hsafe : ∀ x ∈ ws, Safe Z EL vm0 h x := fun x q => (hDk x (ha x q)).2.2
  have hO' : Ext Z.heap h' := (Old.keep (Z := Z) (n0 := Z.heap.size) ⟨rfl, hO⟩ K fun x q => (hDk x (ha x q)).1).2
  obtain ⟨V, v, L, hs, r⟩ := g h' K hP T' L' vm0 k0 ⟨⟨hx, hb, hm, hr, hl, hn, hE⟩, hT', hO', hF', X', hS, Nat.le_trans hk K.1, hZ, hown, hC.trans (CHr.keep K hsafe hC.1), hwd, hDk.chr (CHr.keep K hsafe hC.1)⟩
  exact ⟨V, v, L, hst V hs, r⟩
/-- what stood at the start stands still -/
theorem oGo.old (g : Ext Z.heap h → Z.heap.size ≤ h.size → oGo l Z a0 EL wd p e s m args below meth c R own bytes mx rt nm Q O D h k n pc Ls st) : oGo l Z a0 EL wd p e s m args below meth c R own bytes mx rt nm Q O D h k n pc Ls st := fun T locs vm0 k0 I => g I.2.2.1 I.2.2.1.1 T locs vm0 k0 I
/-- steps that leave the state -/
theorem oGo.read (H : ∀ (T : State) (locs : List Loc) (vm0 : Vm), Stand p l e R (s.setVm vm0) m args below meth c T locs k n → T.heap = h → Z.Warmed39 vm0 → vm0.findClass own = some m.cls → c.code = bytes → p.tables.exec = Jvm.exec → meth.name = nm → c.maxLocals = mx → ∀ t, Steps p.tables e below (T.setTop (mkF m pc' Ls' st')) t → Steps p.tables e below (T.setTop (mkF m pc Ls st)) t)
    (g : oGo l Z a0 EL wd p e s m args below meth c R own bytes mx rt nm Q O D h k n pc' Ls' st') : oGo l Z a0 EL wd p e s m args below meth c R own bytes mx rt nm Q O D h k n pc Ls st := oGo.move (fun T locs vm0 X hT hZ hown hb hx hn hm => ⟨T, X, hT, H T locs vm0 X hT hZ hown hb hx hn hm⟩) g
theorem oGo.ldc_int {idx : Nat} {v : Int32} (hd : decode bytes pc = .ok (.ldc idx, 2)) (hp : pc + 2 = pc') (w : (Cond.constant own idx v).before a0 Z = true) (g : oGo l Z a0 EL wd p e s m args below meth c R own bytes mx rt nm Q O D h k n pc' Ls (.int v :: st)) : oGo l Z a0 EL wd p e s m args below meth c R own bytes mx rt nm Q O D h k n pc Ls st := by
  subst hp; exact oGo.read (fun T locs vm0 X hT hZ hown hb hx hn hm => X.ldcInt hx hown (mvT (s := s.setVm vm0) hZ w) (g := mkF m pc Ls st) rfl (by rw [hb]; exact hd)) g
theorem oGo.ldc2_long {idx : Nat} {v : Int64} (hd : decode bytes pc = .ok (.ldc2_w idx, 3)) (hp : pc + 3 = pc') (w : (Cond.constantLong own idx v).before a0 Z = true) (g : oGo l Z a0 EL wd p e s m args below meth c R own bytes mx rt nm Q O D h k n pc' Ls (.long v :: st)) : oGo l Z a0 EL wd p e s m args below meth c R own bytes mx rt nm Q O D h k n pc Ls st := by
  subst hp; exact oGo.read (fun T locs vm0 X hT hZ hown hb hx hn hm => X.ldc2Long hx hown (mvT (s := s.setVm vm0) hZ w) (g := mkF m pc Ls st) rfl (by rw [hb]; exact hd)) g
theorem oGo.getfield {idx : Nat} {a : Addr} {R0 Ow f d : String} {v : Value} (hd : decode bytes pc = .ok (.getfield idx, 3)) (hp : pc + 3 = pc') (w : (Cond.fieldLink own idx R0 f d).before a0 Z = true) (via : Via Z R0 Ow f d) (F : Fld Z h a Ow f d v)
    (g : oGo l Z a0 EL wd p e s m args below meth c R own bytes mx rt nm Q O D h k n pc' Ls (v :: st)) : oGo l Z a0 EL wd p e s m args below meth c R own bytes mx rt nm Q O D h k n pc Ls (.ref a :: st) := by
  subst hp; exact oGo.move (fun T locs vm0 X hT hZ hown hb hx hn hm => getF (s := s.setVm vm0) X hx hZ hown (host := "") (Or.inl w) via hT F (g := mkF m pc Ls (.ref a :: st)) rfl rfl (by rw [hb]; exact hd)) g
theorem oGo.getstatic {idx : Nat} {R0 Ow f d : String} {v : Value} (hd : decode bytes pc = .ok (.getstatic idx, 3)) (hp : pc + 3 = pc') (w : (Cond.fieldLink own idx R0 f d).before a0 Z = true) (via : Via Z R0 Ow f d) (F : Sta Z Z.heap Ow f d v)
    (g : oGo l Z a0 EL wd p e s m args below meth c R own bytes mx rt nm Q O D h k n pc' Ls (v :: st)) : oGo l Z a0 EL wd p e s m args below meth c R own bytes mx rt nm Q O D h k n pc Ls st := by
  subst hp
  intro T locs vm0 k0 I
  have hO : Ext Z.heap h := I.2.2.1
  exact oGo.move (fun T locs vm0 X hT hZ hown hb hx hn hm => getS (s := s.setVm vm0) (host := "") X hx hZ hown w via hT (F.ext hO) (g := mkF m pc Ls st) rfl (by rw [hb]; exact hd)) g T locs vm0 k0 I
theorem oGo.putfield {idx kk : Nat} {a : Addr} {R0 Ow f d Cn : String} {v old : Value} {ty : FieldType} (hd : decode bytes pc = .ok (.putfield idx, 3)) (hp : pc + 3 = pc') (w : (Cond.fieldLink own idx R0 f d).before a0 Z = true) (via : Via Z R0 Ow f d) (F : Fld Z h a Ow f d old) (E : Exa Z h a Cn)
    (L : (Cond.lays Cn Ow f d).before a0 Z = true ∨ ((Cond.laysFinal Cn Ow f d).before a0 Z = true ∧ own = Ow ∧ nm = "<init>")) (wi : (Cond.instantiable Cn kk).before a0 Z = true) (hty : parseFieldDescriptor d = some ty) (hnv : narrow ty v = v) (hf : fits ty v = true) (ha : a ∈ D)
    (g : ∀ h', Wr h h' a (Jvm.RoadKit.slotOf Z Ow f d) v → h'.size = h.size → oGo l Z a0 EL wd p e s m args below meth c R own bytes mx rt nm Q O D h' k n pc' Ls st) : oGo l Z a0 EL wd p e s m args below meth c R own bytes mx rt nm Q O D h k n pc Ls (v :: .ref a :: st) := by
  subst hp; exact oGo.write (fun T locs vm0 X hT hZ hown hb hx hn hm => putF (s := s.setVm vm0) X hx hZ hown (host := "") (Or.inl w) via hT F E (L.imp id fun q => ⟨q.1, q.2.1, hn.trans q.2.2⟩) wi hty hnv hf (g := mkF m pc Ls (v :: .ref a :: st)) rfl rfl (by rw [hb]; exact hd)) ha g
theorem oGo.new {idx sz : Nat} {Cn : String} {k' n' : Nat} (hd : decode bytes pc = .ok (.new idx, 3)) (hp : pc + 3 = pc') (w : (Cond.classLink own idx Cn).before a0 Z = true) (wi : (Cond.instantiable Cn sz).before a0 Z = true) (wz : (Cond.initialized Cn).before a0 Z = true) (hk : k + 1 = k') (hn : n + sz = n') (hc : k' ≤ R.cells) (hl : n' ≤ R.slots)
    (g : ∀ (h' : Heap) (a : Nat), a = h.size → a < h'.size → Ext h h' → Exa Z h' a Cn → (∀ {Ow f d : String} {ty : FieldType}, Laid Z a0 Cn Ow f d → parseFieldDescriptor d = some ty → Fld Z h' a Ow f d (defaultValue ty)) → oGo l Z a0 EL wd p e s m args below meth c R own bytes mx rt nm Q O (a :: D) h' k' n' pc' Ls (.ref a :: st)) : oGo l Z a0 EL wd p e s m args below meth c R own bytes mx rt nm Q O D h k n pc Ls st := by
  subst hp hk hn
  refine oGo.grow (P := fun h' => Exa Z h' h.size Cn ∧ ∀ {Ow f d : String} {ty : FieldType}, Laid Z a0 Cn Ow f d → parseFieldDescriptor d = some ty → Fld Z h' h.size Ow f d (defaultValue ty)) (D' := h.size :: D) (fun T locs vm0 X hT hZ hown hb hx hn hm => ?_) (fun h' q x hx => ?_) (fun h' E q => g h' _ rfl q.1.lt E q.1 q.2)
  · obtain ⟨T', h', X', e', E, A, F, -, hst⟩ := newO (s := s.setVm vm0) X hx hZ hown w wi wz hT (g := mkF m pc Ls st) rfl (by rw [hb]; exact hd) hc hl
    exact ⟨T', h', X', e', E, ⟨A, F⟩, hst⟩
  · rcases List.mem_cons.mp hx with rfl | hx
    · exact Or.inr ⟨Nat.le_refl _, q.1.lt⟩
    · exact Or.inl hx
theorem oGo.objinit {idx : Nat} {a : Addr} (hd : decode bytes pc = .ok (.invokespecial idx, 3)) (hp : pc + 3 = pc') (w1 : (Cond.methodLink own idx Lib.objectInit).before a0 Z = true) (w2 : (Cond.instanceMethod Lib.objectInit).before a0 Z = true) (w3 : (Cond.code Lib.objectInit ⟨#[0xb1]⟩ 1 none).before a0 Z = true)
    (hsz : Ls.size = mx) (hf : 1 ≤ R.frames) (hl : (st.map fun v => v.category).sum + 12 ≤ R.locals) (g : oGo l Z a0 EL wd p e s m args below meth c R own bytes mx rt nm Q O D h k n pc' Ls st) : oGo l Z a0 EL wd p e s m args below meth c R own bytes mx rt nm Q O D h k n pc Ls (.ref a :: st) := by
  subst hp; exact oGo.move (fun T locs vm0 X hT hZ hown hb hx hn hm => initO (s := s.setVm vm0) X hx hZ hown w1 w2 w3 hT (g := mkF m pc Ls (.ref a :: st)) rfl (hsz.trans hm.symm) rfl (by rw [hb]; exact hd) hf (W := (st.map fun v => v.category).sum) (by show 2 * 0 + _ ≤ _; omega) hl) g
/-! ### arrays -/
def oArr (Z : State) (h : Heap) (a : Addr) (ty : FieldType) (vs : List Value) : Prop := ∃ cl : Cell, Arr Z h a cl ty ∧ cl.slots.toList = vs ∧ vs.length < 2147483648 ∧ ∀ v ∈ vs, fits ty v = true
theorem oArr.lt {a : Addr} {ty : FieldType} {vs : List Value} (A : oArr Z h a ty vs) : a < h.size := A.elim fun _ q => q.1.lt
theorem oArr.ext {a : Addr} {ty : FieldType} {vs : List Value} {h' : Heap} (E : Ext h h') (A : oArr Z h a ty vs) : oArr Z h' a ty vs := A.elim fun cl q => ⟨cl, q.1.ext E, q.2⟩
theorem oArr.other {a b : Addr} {ty : FieldType} {vs : List Value} {h' : Heap} {sl : Nat} {w : Value} (W : Wr h h' b sl w) (A : oArr Z h a ty vs) (q : a ≠ b) : oArr Z h' a ty vs := A.elim fun cl r => ⟨cl, r.1.other W q, r.2⟩
theorem oArr.keep {a : Addr} {ty : FieldType} {vs : List Value} {h' : Heap} {ws : List Addr} (A : oArr Z h a ty vs) (K : Keep h h' ws) (q : a ∉ ws) : oArr Z h' a ty vs := A.elim fun cl r => ⟨cl, ⟨K.2.1 a cl r.1.1 q, r.1.2⟩, r.2⟩
theorem oArr.set {a : Addr} {ty : FieldType} {vs : List Value} {h' : Heap} {i : Nat} {w : Value} (W : Wr h h' a i w) (A : oArr Z h a ty vs) (hf : fits ty w = true) : oArr Z h' a ty (vs.set i w) := by
  obtain ⟨cl, h1, rfl, h3, h4⟩ := A
  refine ⟨cl.setSlot i w, h1.same W, by simp [Cell.setSlot], by simpa using h3, fun v hv => ?_⟩
  rcases List.mem_or_eq_of_mem_set hv with q | q
  · exact h4 v q
  · exact q ▸ hf
theorem own_n32 {i : Nat} (h : i < 2147483648) : (Int32.ofNat i).toNatClampNeg = i := by
  have q : i.toInt32.toInt = i := len_toInt (by omega)
  show i.toInt32.toNatClampNeg = i
  simp only [Int32.toNatClampNeg, q]; omega
theorem own_i32 {i : Nat} (h : i < 2147483648) : (Int32.ofNat i).toInt = i := len_toInt (by omega)
theorem own_nn {i : Nat} (h : i < 2147483648) : ¬ Int32.ofNat i < 0 := by
  rw [Int32.lt_iff_toInt_lt, own_i32 h]; simp
theorem own_inb {c : Cell} {vs : List Value} {i : Nat} (e : c.slots.toList = vs) (hb : vs.length < 2147483648) (hi : i < vs.length) : ¬ (Int32.ofNat i < 0 ∨ c.slots.size ≤ (Int32.ofNat i).toNatClampNeg) := by
  rw [own_n32 (by omega)]
  have : c.slots.size = vs.length := by rw [← e]; simp
  rintro (q | q)
  · exact own_nn (by omega) q
  · omega
theorem oArr.arv {a : Addr} {ty : FieldType} {vs : List Value} (A : oArr Z h a ty vs) (d : Value) : ∃ kk, Arv Z h a kk ty (Int32.ofNat vs.length) vs d := by
  obtain ⟨cl, h1, rfl, h3, h4⟩ := A
  refine ⟨cl.cls, cl, h1, rfl, by rw [own_n32 h3]; simp, own_nn h3, fun i hi => by simp [List.getD_eq_getElem?_getD, hi], fun i hi => h4 _ ?_⟩
  simp [List.getD_eq_getElem?_getD, hi]
theorem oArr.of_arv {a : Addr} {ty : FieldType} {vs : List Value} {kk : ClassId} {z : Int32} {d : Value} (A : Arv Z h a kk ty z vs d) (hl : z.toNatClampNeg = vs.length) : oArr Z h a ty vs := by
  obtain ⟨cl, h1, h2, h3, h4, h5, h6⟩ := A
  have hz := Int32.toInt_lt z
  have e : cl.slots.toList = vs := by
    apply List.ext_getElem?
    intro i
    by_cases q : i < cl.slots.size
    · have := h5 i q
      rw [← Array.getElem?_toList] at this
      rw [this]
      have q' : i < vs.length := by omega
      simp [List.getD_eq_getElem?_getD, q']
    · rw [List.getElem?_eq_none (by simpa using q), List.getElem?_eq_none (by omega)]
  refine ⟨cl, h1, e, by rw [← hl]; simp only [Int32.toNatClampNeg]; omega, fun v hv => ?_⟩
  obtain ⟨i, hi, rfl⟩ := List.getElem_of_mem hv
  have := h6 i (by omega)
  rwa [List.getD_eq_getElem?_getD, List.getElem?_eq_getElem hi] at this
theorem oGo.arraylength {a : Addr} {ty : FieldType} {vs : List Value} {z : Int32} (hd : decode bytes pc = .ok (.arraylength, 1)) (hp : pc + 1 = pc') (A : oArr Z h a ty vs) (hv : Int32.ofNat vs.length = z) (g : oGo l Z a0 EL wd p e s m args below meth c R own bytes mx rt nm Q O D h k n pc' Ls (.int z :: st)) : oGo l Z a0 EL wd p e s m args below meth c R own bytes mx rt nm Q O D h k n pc Ls (.ref a :: st) := by
  subst hp hv
  obtain ⟨cl, h1, rfl, h3, h4⟩ := A
  exact oGo.read (fun T locs vm0 X hT hZ hown hb hx hn hm t hr => X.arraylength hx (by rw [hT]; exact h1.1) (State.isArrayOf_alike (T := s.setVm vm0) hZ.alike h1.2.1) (g := mkF m pc Ls (.ref a :: st)) rfl rfl (by rw [hb]; exact hd) t (by simpa using hr)) g
theorem oGo.caload {a : Addr} {vs : List Value} {j : Int32} {i : Nat} {v : Value} (hd : decode bytes pc = .ok (.caload, 1)) (hp : pc + 1 = pc') (A : oArr Z h a .char vs) (hj : j = Int32.ofNat i) (hi : vs[i]? = some v) (g : oGo l Z a0 EL wd p e s m args below meth c R own bytes mx rt nm Q O D h k n pc' Ls (v :: st)) : oGo l Z a0 EL wd p e s m args below meth c R own bytes mx rt nm Q O D h k n pc Ls (.int j :: .ref a :: st) := by
  subst hp hj
  obtain ⟨cl, h1, rfl, h3, h4⟩ := A
  have hl : i < cl.slots.toList.length := (List.getElem?_eq_some_iff.mp hi).1
  exact oGo.read (fun T locs vm0 X hT hZ hown hb hx hn hm t hr => X.caload hx (by rw [hT]; exact h1.1) (State.isArrayOf_alike (T := s.setVm vm0) hZ.alike h1.2.1) h1.2.2 (own_inb rfl h3 hl) (by rw [own_n32 (by omega), ← Array.getElem?_toList]; exact hi) (g := mkF m pc Ls (.int (Int32.ofNat i) :: .ref a :: st)) rfl rfl (by rw [hb]; exact hd) t hr) g
theorem oGo.baload {a : Addr} {vs : List Value} {j : Int32} {i : Nat} {v : Value} (hd : decode bytes pc = .ok (.baload, 1)) (hp : pc + 1 = pc') (A : oArr Z h a .byte vs) (hj : j = Int32.ofNat i) (hi : vs[i]? = some v) (g : oGo l Z a0 EL wd p e s m args below meth c R own bytes mx rt nm Q O D h k n pc' Ls (v :: st)) : oGo l Z a0 EL wd p e s m args below meth c R own bytes mx rt nm Q O D h k n pc Ls (.int j :: .ref a :: st) := by
  subst hp hj
  obtain ⟨cl, h1, rfl, h3, h4⟩ := A
  have hl : i < cl.slots.toList.length := (List.getElem?_eq_some_iff.mp hi).1
  exact oGo.read (fun T locs vm0 X hT hZ hown hb hx hn hm t hr => X.baloadBytes hx (by rw [hT]; exact h1.1) (State.isArrayOf_alike (T := s.setVm vm0) hZ.alike h1.2.1) h1.2.2 (own_inb rfl h3 hl) (by rw [own_n32 (by omega), ← Array.getElem?_toList]; exact hi) (g := mkF m pc Ls (.int (Int32.ofNat i) :: .ref a :: st)) rfl rfl (by rw [hb]; exact hd) t hr) g
theorem oGo.laload {a : Addr} {vs : List Value} {j : Int32} {i : Nat} {v : Value} (hd : decode bytes pc = .ok (.laload, 1)) (hp : pc + 1 = pc') (A : oArr Z h a .long vs) (hj : j = Int32.ofNat i) (hi : vs[i]? = some v) (g : oGo l Z a0 EL wd p e s m args below meth c R own bytes mx rt nm Q O D h k n pc' Ls (v :: st)) : oGo l Z a0 EL wd p e s m args below meth c R own bytes mx rt nm Q O D h k n pc Ls (.int j :: .ref a :: st) := by
  subst hp hj
  obtain ⟨cl, h1, rfl, h3, h4⟩ := A
  have hl : i < cl.slots.toList.length := (List.getElem?_eq_some_iff.mp hi).1
  exact oGo.read (fun T locs vm0 X hT hZ hown hb hx hn hm t hr => X.laload hx (by rw [hT]; exact h1.1) (State.isArrayOf_alike (T := s.setVm vm0) hZ.alike h1.2.1) h1.2.2 (own_inb rfl h3 hl) (by rw [own_n32 (by omega), ← Array.getElem?_toList]; exact hi) (g := mkF m pc Ls (.int (Int32.ofNat i) :: .ref a :: st)) rfl rfl (by rw [hb]; exact hd) t hr) g
theorem oGo.iaload {a : Addr} {vs : List Value} {j : Int32} {i : Nat} {v : Value} (hd : decode bytes pc = .ok (.iaload, 1)) (hp : pc + 1 = pc') (A : oArr Z h a .int vs) (hj : j = Int32.ofNat i) (hi : vs[i]? = some v) (g : oGo l Z a0 EL wd p e s m args below meth c R own bytes mx rt nm Q O D h k n pc' Ls (v :: st)) : oGo l Z a0 EL wd p e s m args below meth c R own bytes mx rt nm Q O D h k n pc Ls (.int j :: .ref a :: st) := by
  subst hp hj
  obtain ⟨cl, h1, rfl, h3, h4⟩ := A
  have hl : i < cl.slots.toList.length := (List.getElem?_eq_some_iff.mp hi).1
  exact oGo.read (fun T locs vm0 X hT hZ hown hb hx hn hm t hr => X.iaload hx (by rw [hT]; exact h1.1) (State.isArrayOf_alike (T := s.setVm vm0) hZ.alike h1.2.1) h1.2.2 (own_inb rfl h3 hl) (by rw [own_n32 (by omega), ← Array.getElem?_toList]; exact hi) (g := mkF m pc Ls (.int (Int32.ofNat i) :: .ref a :: st)) rfl rfl (by rw [hb]; exact hd) t hr) g
theorem oGo.aaload {a : Addr} {ty : FieldType} {vs : List Value} {j : Int32} {i : Nat} {v : Value} (hd : decode bytes pc = .ok (.aaload, 1)) (hp : pc + 1 = pc') (A : oArr Z h a ty vs) (ht : ty.isReference = true) (hj : j = Int32.ofNat i) (hi : vs[i]? = some v) (g : oGo l Z a0 EL wd p e s m args below meth c R own bytes mx rt nm Q O D h k n pc' Ls (v :: st)) : oGo l Z a0 EL wd p e s m args below meth c R own bytes mx rt nm Q O D h k n pc Ls (.int j :: .ref a :: st) := by
  subst hp hj
  obtain ⟨cl, h1, rfl, h3, h4⟩ := A
  have hl : i < cl.slots.toList.length := (List.getElem?_eq_some_iff.mp hi).1
  exact oGo.read (fun T locs vm0 X hT hZ hown hb hx hn hm t hr => X.aaload hx (by rw [hT]; exact h1.1) (State.isArrayOf_alike (T := s.setVm vm0) hZ.alike h1.2.1) ht h1.2.2 (own_inb rfl h3 hl) (by rw [own_n32 (by omega), ← Array.getElem?_toList]; exact hi) (g := mkF m pc Ls (.int (Int32.ofNat i) :: .ref a :: st)) rfl rfl (by rw [hb]; exact hd) t hr) g
theorem oGo.castore {a : Addr} {vs : List Value} {j : Int32} {i : Nat} {x w : Int32} (hd : decode bytes pc = .ok (.castore, 1)) (hp : pc + 1 = pc') (A : oArr Z h a .char vs) (hj : j = Int32.ofNat i) (hi : i < vs.length) (hw : nar .char x = w) (ha : a ∈ D) (g : ∀ h', Wr h h' a i (.int w) → h'.size = h.size → oArr Z h' a .char (vs.set i (.int w)) → oGo l Z a0 EL wd p e s m args below meth c R own bytes mx rt nm Q O D h' k n pc' Ls st) : oGo l Z a0 EL wd p e s m args below meth c R own bytes mx rt nm Q O D h k n pc Ls (.int x :: .int j :: .ref a :: st) := by
  subst hp hj hw
  have A0 := A
  obtain ⟨cl, h1, rfl, h3, h4⟩ := A
  refine oGo.write (fun T locs vm0 X hT hZ hown hb hx hn hm => ?_) ha (fun h' W hs => g h' W hs (A0.set W (fits_nar_char x)))
  have q := stC (s := s.setVm vm0) X hx hZ hT h1 (own_inb rfl h3 hi) (g := mkF m pc Ls (.int x :: .int (Int32.ofNat i) :: .ref a :: st)) rfl rfl (by rw [hb]; exact hd)
  rw [own_n32 (by omega)] at q
  exact q
theorem oGo.bastore {a : Addr} {vs : List Value} {j : Int32} {i : Nat} {x w : Int32} (hd : decode bytes pc = .ok (.bastore, 1)) (hp : pc + 1 = pc') (A : oArr Z h a .byte vs) (hj : j = Int32.ofNat i) (hi : i < vs.length) (hw : nar .byte x = w) (ha : a ∈ D) (g : ∀ h', Wr h h' a i (.int w) → h'.size = h.size → oArr Z h' a .byte (vs.set i (.int w)) → oGo l Z a0 EL wd p e s m args below meth c R own bytes mx rt nm Q O D h' k n pc' Ls st) : oGo l Z a0 EL wd p e s m args below meth c R own bytes mx rt nm Q O D h k n pc Ls (.int x :: .int j :: .ref a :: st) := by
  subst hp hj hw
  have A0 := A
  obtain ⟨cl, h1, rfl, h3, h4⟩ := A
  refine oGo.write (fun T locs vm0 X hT hZ hown hb hx hn hm => ?_) ha (fun h' W hs => g h' W hs (A0.set W (fits_nar_byte x)))
  have q := stB (s := s.setVm vm0) X hx hZ hT h1 (own_inb rfl h3 hi) (g := mkF m pc Ls (.int x :: .int (Int32.ofNat i) :: .ref a :: st)) rfl rfl (by rw [hb]; exact hd)
  rw [own_n32 (by omega)] at q
  exact q
theorem oGo.iastore {a : Addr} {vs : List Value} {j : Int32} {i : Nat} {x w : Int32} (hd : decode bytes pc = .ok (.iastore, 1)) (hp : pc + 1 = pc') (A : oArr Z h a .int vs) (hj : j = Int32.ofNat i) (hi : i < vs.length) (hw : x = w) (ha : a ∈ D) (g : ∀ h', Wr h h' a i (.int w) → h'.size = h.size → oArr Z h' a .int (vs.set i (.int w)) → oGo l Z a0 EL wd p e s m args below meth c R own bytes mx rt nm Q O D h' k n pc' Ls st) : oGo l Z a0 EL wd p e s m args below meth c R own bytes mx rt nm Q O D h k n pc Ls (.int x :: .int j :: .ref a :: st) := by
  subst hp hj hw
  have A0 := A
  obtain ⟨cl, h1, rfl, h3, h4⟩ := A
  refine oGo.write (fun T locs vm0 X hT hZ hown hb hx hn hm => ?_) ha (fun h' W hs => g h' W hs (A0.set W (rfl)))
  have q := stI (s := s.setVm vm0) X hx hZ hT h1 (own_inb rfl h3 hi) (g := mkF m pc Ls (.int x :: .int (Int32.ofNat i) :: .ref a :: st)) rfl rfl (by rw [hb]; exact hd)
  rw [own_n32 (by omega)] at q
  exact q
theorem oGo.lastore {a : Addr} {vs : List Value} {j : Int32} {i : Nat} {x w : Int64} (hd : decode bytes pc = .ok (.lastore, 1)) (hp : pc + 1 = pc') (A : oArr Z h a .long vs) (hj : j = Int32.ofNat i) (hi : i < vs.length) (hw : x = w) (ha : a ∈ D) (g : ∀ h', Wr h h' a i (.long w) → h'.size = h.size → oArr Z h' a .long (vs.set i (.long w)) → oGo l Z a0 EL wd p e s m args below meth c R own bytes mx rt nm Q O D h' k n pc' Ls st) : oGo l Z a0 EL wd p e s m args below meth c R own bytes mx rt nm Q O D h k n pc Ls (.long x :: .int j :: .ref a :: st) := by
  subst hp hj hw
  have A0 := A
  obtain ⟨cl, h1, rfl, h3, h4⟩ := A
  refine oGo.write (fun T locs vm0 X hT hZ hown hb hx hn hm => ?_) ha (fun h' W hs => g h' W hs (A0.set W (rfl)))
  have q := stJ (s := s.setVm vm0) X hx hZ hT h1 (own_inb rfl h3 hi) (g := mkF m pc Ls (.long x :: .int (Int32.ofNat i) :: .ref a :: st)) rfl rfl (by rw [hb]; exact hd)
  rw [own_n32 (by omega)] at q
  exact q
theorem oGo.newarray {aty : ArrayType} {z : Int32} {i : Nat} {k' n' : Nat} (hd : decode bytes pc = .ok (.newarray aty, 2)) (hp : pc + 2 = pc') (w : (Cond.arrayClass (newarray.typeOf aty)).before a0 Z = true) (hz : z = Int32.ofNat i) (cap : Nat) (hi : i ≤ cap) (hcap : cap * 8 ≤ 536870912) (hk : k + 1 = k') (hn : n + cap = n') (hc : k' ≤ R.cells) (hl : n' ≤ R.slots) (hfd : fits (newarray.typeOf aty) (defaultValue (newarray.typeOf aty)) = true)
    (g : ∀ (h' : Heap) (a : Nat), a = h.size → a < h'.size → Ext h h' → oArr Z h' a (newarray.typeOf aty) (List.replicate i (defaultValue (newarray.typeOf aty))) → oGo l Z a0 EL wd p e s m args below meth c R own bytes mx rt nm Q O (a :: D) h' k' n' pc' Ls (.ref a :: st)) : oGo l Z a0 EL wd p e s m args below meth c R own bytes mx rt nm Q O D h k n pc Ls (.int z :: st) := by
  subst hp hk hn hz
  have hb31 : i < 2147483648 := by omega
  refine oGo.grow (P := fun h' => oArr Z h' h.size (newarray.typeOf aty) (List.replicate i (defaultValue (newarray.typeOf aty)))) (D' := h.size :: D) (fun T locs vm0 X hT hZ hown hb hx hn hm => ?_) (fun h' q x hx => ?_) (fun h' E q => g h' _ rfl q.lt E q)
  · obtain ⟨T', h', cA, X', e', E, A, hst⟩ := newP (s := s.setVm vm0) X hx hZ w hT (g := mkF m pc Ls (.int (Int32.ofNat i) :: st)) rfl (by rw [hb]; exact hd) rfl (own_nn hb31) (cap := cap) (by rw [own_n32 hb31]; exact hi) hcap hc hl
    refine ⟨T', h', X', e', E, ⟨_, A, ?_, by simpa using hb31, fun v hv => ?_⟩, hst⟩
    · simp [newA, own_n32 hb31]
    · rw [(List.mem_replicate.mp hv).2]; exact hfd
  · rcases List.mem_cons.mp hx with rfl | hx
    · exact Or.inr ⟨Nat.le_refl _, q.lt⟩
    · exact Or.inl hx
/-! ### calls -/
theorem oCtr.back {y : MethodName} {b' : ByteArray} {mx' : Nat} {rt' : Option FieldType} {rm : Room} {len W : Nat} {as' : Array Value} {Q' : Option Value → Heap → Prop} {O' : Option Value → Heap → Addr → Prop} {D' : List Addr} {vm0 : Vm}
    (hM : oCtr [] l Z a0 EL wd y b' mx' rt' rm as' D' h Q' O') (hZ : Z.Warmed39 vm0) (wc : (Cond.code y b' mx' rt').before a0 Z = true) (wz : (Cond.initialized y.cls).before a0 Z = true) (hf : rm.frames + 1 ≤ R.frames) (hl : W + (mx' + 11) + rm.locals ≤ R.locals) (hEL : EW Z a0 EL) (hO : Ext Z.heap h) (H : CHv Z EL vm0 h) (hD : oDok Z EL vm0 h D') :
    BackS l R p e below (s.setVm vm0) args y len W (fun A a => a = as' ∧ A.U.heap = h ∧ A.cells + rm.cells ≤ R.cells ∧ A.slots + rm.slots ≤ R.slots)
      (fun A _ v B => ∃ L, (Q' v B.U.heap ∧ ∀ x, O' v B.U.heap x → Z.heap.size ≤ x ∧ x < B.U.heap.size ∧ Safe Z EL B.U.vm B.U.heap x) ∧ Fr Z.heap.size L ∧ Ext Z.heap B.U.heap ∧ B.locs = A.locs ++ L ∧ B.cells = A.cells + rm.cells ∧ B.slots = A.slots + rm.slots ∧ CHr Z EL vm0 h B.U.vm B.U.heap ∧ (wd ∨ A.U.WarmedH B.U.vm)) :=
  BackS.of_freeW (bytes := b') (maxL := mx') (ret := rt') (E := fun _ first o t L k n => k = rm.cells ∧ n = rm.slots ∧ (∃ v, o = .returned v ∧ Q' v t.heap ∧ ∀ x, O' v t.heap x → Z.heap.size ≤ x ∧ x < t.heap.size ∧ Safe Z EL t.vm t.heap x) ∧ Fr Z.heap.size L ∧ Ext Z.heap t.heap ∧ CHr Z EL first.vm first.heap t.vm t.heap ∧ (wd ∨ first.WarmedH t.vm)) hM hf hl
    (fun m meth c A a Y hp => have hU : Z.Warmed39 A.U.vm := wtrans (s := s.setVm vm0) hZ Y.warmed
      ⟨by show (Cond.and _ .tt).before a A.U = true; rw [Cond.before_and, mv hU wc]; rfl, mv hU wc, mv hU wz, hp.2.2.1, hp.2.2.2⟩)
    (fun m meth c A a g mk Y hp => ⟨hp.1, wtrans (s := s.setVm vm0) hZ Y.warmed, hp.2.1, hO, (CHv.at (T := A.U) Y hZ hEL H).1, hD.chr (CHv.at (T := A.U) Y hZ hEL H)⟩) (fun _ _ _ _ _ _ _ _ _ => trivial)
    (fun _ _ _ _ ⟨v, L, h1, h2, h3, h4, h5, h6, h7⟩ => ⟨L, _, _, h7, rfl, rfl, ⟨v, h1, h2⟩, h3, h4, h5, h6⟩)
    (fun m meth c A a g mk v t L k n Y hp _ _ ⟨e1, e2, ⟨v', e3, e4⟩, e5, e6, e7, e8⟩ => by
      cases e3; subst e1 e2
      refine ⟨L, e4, e5, e6, rfl, rfl, rfl, (CHv.at Y hZ hEL H).trans ?_, e8⟩
      rw [← hp.2.1]; exact e7)
theorem oGo.after {T : State} {locs : List Loc} {vm0 : Vm} {k0 : Nat} {rm : Room} {k' n' : Nat} {Q' : Option Value → Heap → Prop} {O' : Option Value → Heap → Addr → Prop} {rest : List Value} {as' : Array Value}
    (I : oInv l Z a0 EL wd p e s m args below meth c R own bytes mx rt nm D h k n T locs vm0 k0) (hk : k + rm.cells = k') (hn : n + rm.slots = n')
    (X : ∃ (v : Option Value) (vm₁ : Vm) (B : Pt), (s.setVm vm0).WarmedH vm₁ ∧ Stand p l e R ((s.setVm vm0).setVm B.U.vm) m args below meth c B.U B.locs B.cells B.slots ∧ (s.setVm vm0).Since B.U.vm B.U.heap.size ∧ T.heap.size ≤ B.U.heap.size ∧
      (fun (A : Pt) (_ : Array Value) (v : Option Value) (B : Pt) => ∃ L, (Q' v B.U.heap ∧ ∀ x, O' v B.U.heap x → Z.heap.size ≤ x ∧ x < B.U.heap.size ∧ Safe Z EL B.U.vm B.U.heap x) ∧ Fr Z.heap.size L ∧ Ext Z.heap B.U.heap ∧ B.locs = A.locs ++ L ∧ B.cells = A.cells + rm.cells ∧ B.slots = A.slots + rm.slots ∧ CHr Z EL vm0 h B.U.vm B.U.heap ∧ (wd ∨ A.U.WarmedH B.U.vm)) ⟨T.setVm vm₁, locs, k, n⟩ as' v B ∧
      Steps p.tables e below (T.setTop (mkF m pc Ls st)) (B.U.setTop (mkF m pc' Ls (v.toList ++ rest))))
    (g : ∀ v h', h.size ≤ h'.size → Q' v h' → ∃ D2 : List Addr, (∀ x ∈ D2, x ∈ D ∨ O' v h' x) ∧ oGo l Z a0 EL wd p e s m args below meth c R own bytes mx rt nm Q O D2 h' k' n' pc' Ls (v.toList ++ rest)) : oRes Z EL wd p e s below R Q O (T.setTop (mkF m pc Ls st)) := by
  subst hk hn
  obtain ⟨⟨hx, hb, hm, hr, hl, hn, hE⟩, hT, hO, hF, X0, hS, hk, hZ, hown, hC, hwd, hDk⟩ := I
  obtain ⟨v, vm₁, ⟨U, Lb, kb, nb⟩, hW1, XB, hSB, hsz, ⟨L, ⟨hq, hOq⟩, hFL, hOB, e1, e2, e3, hCB, hwB⟩, hst⟩ := X
  dsimp only [Pt.U, Pt.locs, Pt.cells, Pt.slots] at *
  subst e1 e2 e3
  rw [hT] at hsz
  obtain ⟨X', hS', hZ', hown'⟩ := rebS hS hk XB hSB hsz hZ hown
  have hwd' : wd ∨ s.WarmedH U.vm := by
    rcases hwd with q | q
    · exact Or.inl q
    · rcases hwB with r | r
      · exact Or.inl r
      · exact Or.inr (State.WarmedH.trans (t := s.setVm vm0) q (State.WarmedH.trans (s := s.setVm vm0) (t := T.setVm vm₁) hW1 r))
  obtain ⟨D2, hD2, g2⟩ := g v U.heap hsz hq
  have hDk2 : oDok Z EL U.vm U.heap D2 := fun x hx' => (hD2 x hx').elim (fun q => hDk.chr hCB x q) (fun q => hOq x q)
  obtain ⟨V, v', L', hs, r⟩ := g2 U (locs ++ L) U.vm U.heap.size ⟨⟨hx, hb, hm, hr, hl, hn, hE⟩, rfl, hOB, hF.app hFL, X', hS', Nat.le_refl _, hZ', hown', hC.trans hCB, hwd', hDk2⟩
  exact ⟨V, v', L', hst.trans hs, r⟩
theorem oGo.invokestatic {idx : Nat} {y : MethodName} {b' : ByteArray} {mx' : Nat} {rt' rs : Option FieldType} {ps : List FieldType} {rm : Room} {D' : List Addr} {Q' : Option Value → Heap → Prop} {O' : Option Value → Heap → Addr → Prop} {k' n' : Nat} {argsL rest : List Value}
    (hd : decode bytes pc = .ok (.invokestatic idx, 3)) (hp : pc + 3 = pc') (w1 : (Cond.methodLink own idx y).before a0 Z = true) (w2 : (Cond.static y).before a0 Z = true) (w3 : (Cond.initialized y.cls).before a0 Z = true) (w4 : (Cond.code y b' mx' rt').before a0 Z = true)
    (hy : y.cls ≠ "java/lang/invoke/MethodHandle" ∧ y.cls ≠ "java/lang/invoke/VarHandle") (pd : parseMethodDescriptor y.desc = some ⟨ps, rs⟩) (hll : argsL.length = ps.length) (hst : st = argsL.reverse ++ rest) (hsz : Ls.size = mx)
    (hM : oCtr [] l Z a0 EL wd y b' mx' rt' rm argsL.toArray D' h Q' O') (hD : ∀ x ∈ D', x ∈ D) (hf : rm.frames + 1 ≤ R.frames) (hl : (rest.map fun v => v.category).sum + (mx' + 11) + rm.locals ≤ R.locals) (hk : k + rm.cells = k') (hn : n + rm.slots = n') (hc : k' ≤ R.cells) (hs : n' ≤ R.slots)
    (g : ∀ v h', h.size ≤ h'.size → Q' v h' → ∃ D2 : List Addr, (∀ x ∈ D2, x ∈ D ∨ O' v h' x) ∧ oGo l Z a0 EL wd p e s m args below meth c R own bytes mx rt nm Q O D2 h' k' n' pc' Ls (v.toList ++ rest)) : oGo l Z a0 EL wd p e s m args below meth c R own bytes mx rt nm Q O D h k n pc Ls st := by
  subst hp hst
  intro T locs vm0 k0 I
  have I0 := I
  obtain ⟨⟨hx, hb, hm, hr, hlk, hnm, hE⟩, hT, hO, hF, X, hS, hk0, hZ, hown, hC, hwd, hDk⟩ := I
  refine oGo.after I0 hk hn (as' := argsL.toArray) (rest := rest) (callSS (s := s.setVm vm0) X hx hown (mvT (s := s.setVm vm0) hZ w1) (mvT (s := s.setVm vm0) hZ w2) (mvT (s := s.setVm vm0) hZ w3) (mvT (s := s.setVm vm0) hZ w4) hy
    (oCtr.back (W := (rest.map fun v => v.category).sum) hM hZ w4 w3 hf hl hE hO hC.1 (hDk.sub hD)) (g := mkF m pc Ls (argsL.reverse ++ rest)) rfl (hsz.trans hm.symm) (lenOf pd hll) rfl (by show 2 * 0 + _ ≤ _; omega) (by rw [hb]; exact hd) (fun _ _ => ⟨rfl, hT, by show k + _ ≤ _; omega, by show n + _ ≤ _; omega⟩)) g
theorem oGo.invokespecial {idx : Nat} {y : MethodName} {b' : ByteArray} {mx' : Nat} {rs : Option FieldType} {ps : List FieldType} {rm : Room} {D' : List Addr} {Q' : Option Value → Heap → Prop} {O' : Option Value → Heap → Addr → Prop} {k' n' : Nat} {a : Addr} {argsL rest : List Value}
    (hd : decode bytes pc = .ok (.invokespecial idx, 3)) (hp : pc + 3 = pc') (hi : y.name = "<init>") (w1 : (Cond.methodLink own idx y).before a0 Z = true) (w2 : (Cond.instanceMethod y).before a0 Z = true) (w3 : (Cond.initialized y.cls).before a0 Z = true) (w4 : (Cond.code y b' mx' none).before a0 Z = true)
    (hy : y.cls ≠ "java/lang/invoke/MethodHandle" ∧ y.cls ≠ "java/lang/invoke/VarHandle") (pd : parseMethodDescriptor y.desc = some ⟨ps, rs⟩) (hll : argsL.length = ps.length) (hst : st = argsL.reverse ++ .ref a :: rest) (hsz : Ls.size = mx)
    (hM : oCtr [] l Z a0 EL wd y b' mx' none rm (.ref a :: argsL).toArray D' h Q' O') (hD : ∀ x ∈ D', x ∈ D) (hf : rm.frames + 1 ≤ R.frames) (hl : (rest.map fun v => v.category).sum + (mx' + 11) + rm.locals ≤ R.locals) (hk : k + rm.cells = k') (hn : n + rm.slots = n') (hc : k' ≤ R.cells) (hs : n' ≤ R.slots)
    (g : ∀ v h', h.size ≤ h'.size → Q' v h' → ∃ D2 : List Addr, (∀ x ∈ D2, x ∈ D ∨ O' v h' x) ∧ oGo l Z a0 EL wd p e s m args below meth c R own bytes mx rt nm Q O D2 h' k' n' pc' Ls (v.toList ++ rest)) : oGo l Z a0 EL wd p e s m args below meth c R own bytes mx rt nm Q O D h k n pc Ls st := by
  subst hp hst
  intro T locs vm0 k0 I
  have I0 := I
  obtain ⟨⟨hx, hb, hm, hr, hlk, hnm, hE⟩, hT, hO, hF, X, hS, hk0, hZ, hown, hC, hwd, hDk⟩ := I
  refine oGo.after I0 hk hn (as' := (.ref a :: argsL).toArray) (rest := rest) (X.specialBackS hx hi hown (mvT (s := s.setVm vm0) hZ w1) (mvT (s := s.setVm vm0) hZ w2) (mvT (s := s.setVm vm0) hZ w4) hy
    (oCtr.back (W := (rest.map fun v => v.category).sum) hM hZ w4 w3 hf hl hE hO hC.1 (hDk.sub hD)) (g := mkF m pc Ls (argsL.reverse ++ .ref a :: rest)) rfl (hsz.trans hm.symm) (Steps.refl _) (lenOf pd hll) rfl (by show 2 * 0 + _ ≤ _; omega) (by rw [hb]; exact hd) (fun _ _ => ⟨rfl, hT, by show k + _ ≤ _; omega, by show n + _ ≤ _; omega⟩)) g
theorem oGo.invokevirtual {idx : Nat} {y : MethodName} {Cn : String} {b' : ByteArray} {mx' : Nat} {rt' rs : Option FieldType} {ps : List FieldType} {rm : Room} {D' : List Addr} {Q' : Option Value → Heap → Prop} {O' : Option Value → Heap → Addr → Prop} {k' n' : Nat} {a : Addr} {argsL rest : List Value}
    (hd : decode bytes pc = .ok (.invokevirtual idx, 3)) (hp : pc + 3 = pc') (w1 : (Cond.methodLink own idx y).before a0 Z = true) (w2 : (Cond.declares y).before a0 Z = true) (w5 : (Cond.selects Cn y y).before a0 Z = true) (w6 : (Cond.instanceMethod y).before a0 Z = true) (w3 : (Cond.initialized y.cls).before a0 Z = true) (w4 : (Cond.code y b' mx' rt').before a0 Z = true)
    (hy : y.cls ≠ "java/lang/invoke/MethodHandle" ∧ y.cls ≠ "java/lang/invoke/VarHandle") (pd : parseMethodDescriptor y.desc = some ⟨ps, rs⟩) (hll : argsL.length = ps.length) (hst : st = argsL.reverse ++ .ref a :: rest) (hsz : Ls.size = mx) (E : Exa Z h a Cn)
    (hM : oCtr [] l Z a0 EL wd y b' mx' rt' rm (.ref a :: argsL).toArray D' h Q' O') (hD : ∀ x ∈ D', x ∈ D) (hf : rm.frames + 1 ≤ R.frames) (hl : (rest.map fun v => v.category).sum + (mx' + 11) + rm.locals ≤ R.locals) (hk : k + rm.cells = k') (hn : n + rm.slots = n') (hc : k' ≤ R.cells) (hs : n' ≤ R.slots)
    (g : ∀ v h', h.size ≤ h'.size → Q' v h' → ∃ D2 : List Addr, (∀ x ∈ D2, x ∈ D ∨ O' v h' x) ∧ oGo l Z a0 EL wd p e s m args below meth c R own bytes mx rt nm Q O D2 h' k' n' pc' Ls (v.toList ++ rest)) : oGo l Z a0 EL wd p e s m args below meth c R own bytes mx rt nm Q O D h k n pc Ls st := by
  subst hp hst
  intro T locs vm0 k0 I
  have I0 := I
  obtain ⟨⟨hx, hb, hm, hr, hlk, hnm, hE⟩, hT, hO, hF, X, hS, hk0, hZ, hown, hC, hwd, hDk⟩ := I
  obtain ⟨cq, kq, q1, q2, q3⟩ := isOf (s := s.setVm vm0) (T := T) hZ hT E
  refine oGo.after I0 hk hn (as' := (.ref a :: argsL).toArray) (rest := rest) (X.virtualBackS hx hown (mvT (s := s.setVm vm0) hZ w1) (mvT (s := s.setVm vm0) hZ w2) (notFace_of_selects (args := #[]) (mvT (s := s.setVm vm0) hZ w5)) (mvT (s := s.setVm vm0) hZ w5) (mvT (s := s.setVm vm0) hZ w6) hy
    (oCtr.back (W := (rest.map fun v => v.category).sum) hM hZ w4 w3 hf hl hE hO hC.1 (hDk.sub hD)) q1 q3 (g := mkF m pc Ls (argsL.reverse ++ .ref a :: rest)) rfl (hsz.trans hm.symm) (Steps.refl _) (lenOf pd hll) rfl (by show 2 * 0 + _ ≤ _; omega) (by rw [hb]; exact hd) (fun _ _ => ⟨rfl, hT, by show k + _ ≤ _; omega, by show n + _ ≤ _; omega⟩)) g
/-! ### the end -/
theorem oGo.leave {T : State} {locs : List Loc} {vm0 : Vm} {k0 : Nat} {v : Option Value} (I : oInv l Z a0 EL wd p e s m args below meth c R own bytes mx rt nm D h k n T locs vm0 k0) (hk : k ≤ R.cells) (hn : n ≤ R.slots) (hv : rt = none → v = none) (hq : Q v h) (hOx : ∀ x, O v h x → x ∈ D)
    (hst : ∀ fs, (∀ (f : JFrame) (acts : List Action), f.method = m → f.locked = none → f.entered = [] → (doReturn e (T.setTop f) acts v).1 = T.setFrames fs) → Steps p.tables e below (T.setTop (mkF m pc Ls st)) (T.setFrames fs)) : oRes Z EL wd p e s below R Q O (T.setTop (mkF m pc Ls st)) := by
  obtain ⟨⟨hx, hb, hm, hr, hl, hnm, hE⟩, hT, hO, hF, X, hS, hk0, hZ, hown, hC, hwd, hDk⟩ := I
  obtain ⟨fs, h1, h2, h3, h4⟩ := X.leaveW hS (by rw [hT]; exact hk0) (v := v) (by rw [hr]; exact hv) hl
  have hW : (s.setVm vm0).WarmedH T.vm := X.warmed
  refine ⟨T.setFrames fs, v, locs, hst fs h1, h2, h3, ⟨by show Q v T.heap; rw [hT]; exact hq, fun x qx => ?_⟩, hF, by show Ext Z.heap T.heap; rw [hT]; exact hO, ?_, ?_, h4.1, h4.2.1, h4.2.2.1, h4.2.2.2.mono hk hn⟩
  · have qx' : O v h x := by rw [← hT]; exact qx
    show Z.heap.size ≤ x ∧ x < T.heap.size ∧ Safe Z EL T.vm T.heap x
    rw [hT]; exact hDk.chr (CHv.at X hZ hE hC.1) x (hOx x qx')
  · show CHr Z EL s.vm s.heap T.vm T.heap
    rw [hT]; exact hC.trans (CHv.at X hZ hE hC.1)
  · exact hwd.imp id fun q => State.WarmedH.trans (t := s.setVm vm0) q hW
theorem oGo.ireturn {z : Int32} (hd : decode bytes pc = .ok (.ireturn, 1)) (hr : rt = some .int) (hk : k ≤ R.cells) (hn : n ≤ R.slots) (hq : Q (some (.int z)) h) (hOx : ∀ x, O (some (.int z)) h x → x ∈ D) : oGo l Z a0 EL wd p e s m args below meth c R own bytes mx rt nm Q O D h k n pc Ls (.int z :: st) := fun T locs vm0 k0 I =>
  oGo.leave I hk hn (fun q => by rw [hr] at q; cases q) hq hOx fun fs hfs => retOut I.2.2.2.2.1 I.1.1 (by rw [I.1.2.2.2.1]; exact hr) rfl (Or.inl ⟨rfl, Or.inl rfl, z, rfl⟩) (by rw [I.1.2.1]; exact hd) hfs
theorem oGo.nreturn {z w : Int32} {t : FieldType} (hd : decode bytes pc = .ok (.ireturn, 1)) (hr : rt = some t) (ht : t = .boolean ∨ t = .byte ∨ t = .char ∨ t = .short) (hw : nar t z = w) (hk : k ≤ R.cells) (hn : n ≤ R.slots) (hq : Q (some (.int w)) h) (hOx : ∀ x, O (some (.int w)) h x → x ∈ D) : oGo l Z a0 EL wd p e s m args below meth c R own bytes mx rt nm Q O D h k n pc Ls (.int z :: st) := fun T locs vm0 k0 I =>
  oGo.leave I hk hn (fun q => by rw [hr] at q; cases q) hq hOx fun fs hfs => retN I.2.2.2.2.1 I.1.1 (by rw [I.1.2.2.2.1]; exact hr) ht (by rw [I.1.2.1]; exact hd) (by rw [hw]; exact hfs)
theorem oGo.lreturn {z : Int64} (hd : decode bytes pc = .ok (.lreturn, 1)) (hr : rt = some .long) (hk : k ≤ R.cells) (hn : n ≤ R.slots) (hq : Q (some (.long z)) h) (hOx : ∀ x, O (some (.long z)) h x → x ∈ D) : oGo l Z a0 EL wd p e s m args below meth c R own bytes mx rt nm Q O D h k n pc Ls (.long z :: st) := fun T locs vm0 k0 I =>
  oGo.leave I hk hn (fun q => by rw [hr] at q; cases q) hq hOx fun fs hfs => retOut I.2.2.2.2.1 I.1.1 (by rw [I.1.2.2.2.1]; exact hr) rfl (Or.inr (Or.inl ⟨rfl, rfl, z, rfl⟩)) (by rw [I.1.2.1]; exact hd) hfs
theorem oGo.areturn {v : Value} {t : FieldType} (hd : decode bytes pc = .ok (.areturn, 1)) (hr : rt = some t) (ht : t.isReference = true) (hv : v.isRef = true) (hw : narrow t v = v) (hk : k ≤ R.cells) (hn : n ≤ R.slots) (hq : Q (some v) h) (hOx : ∀ x, O (some v) h x → x ∈ D) : oGo l Z a0 EL wd p e s m args below meth c R own bytes mx rt nm Q O D h k n pc Ls (v :: st) := fun T locs vm0 k0 I =>
  oGo.leave I hk hn (fun q => by rw [hr] at q; cases q) hq hOx fun fs hfs => retOut I.2.2.2.2.1 I.1.1 (by rw [I.1.2.2.2.1]; exact hr) hw (Or.inr (Or.inr (Or.inr (Or.inr ⟨rfl, ht, hv⟩)))) (by rw [I.1.2.1]; exact hd) hfs
theorem oGo.return_ (hd : decode bytes pc = .ok (.return_, 1)) (hr : rt = none) (hk : k ≤ R.cells) (hn : n ≤ R.slots) (hq : Q none h) (hOx : ∀ x, O none h x → x ∈ D) : oGo l Z a0 EL wd p e s m args below meth c R own bytes mx rt nm Q O D h k n pc Ls [] := fun T locs vm0 k0 I =>
  oGo.leave I hk hn (fun _ => rfl) hq hOx fun fs hfs => I.2.2.2.2.1.returnOut I.1.1 (by rw [I.1.2.2.2.1]; exact hr) (by rw [I.1.2.1]; exact hd) hfs
end Logic
/-! ### addresses are natural numbers -/
theorem own_ne {a b : Nat} (h : a ≠ b) : a ≠ b := h
theorem own_ltN {a n : Nat} (h : a < n) : a < n := h
theorem own_leN {a n : Nat} (h : a ≤ n) : a ≤ n := h
theorem own_nin1 {a b : Nat} (h : a ≠ b) : a ∉ [b] := by simpa using h
theorem own_nin2 {a b c : Nat} (h : a ≠ b) (h2 : a ≠ c) : a ∉ [b, c] := by simp [h, h2]
theorem own_new1 {a n : Nat} {ws : List Nat} (h : n ≤ a) : ∀ x ∈ [a], x ∈ ws ∨ n ≤ x := fun x hx => Or.inr (by rw [List.mem_singleton.mp hx]; exact h)
theorem own_new2 {a b n : Nat} {ws : List Nat} (h : n ≤ a) (h2 : n ≤ b) : ∀ x ∈ [a, b], x ∈ ws ∨ n ≤ x := fun x hx => Or.inr (by rcases List.mem_cons.mp hx with rfl | hx; exact h; rw [List.mem_singleton.mp hx]; exact h2)
theorem own_D1 {t : Nat} {D : List Nat} {P : Nat → Prop} (h : P t) : ∀ x ∈ t :: D, x ∈ D ∨ P x := fun x hx => (List.mem_cons.mp hx).elim (fun e => Or.inr (e ▸ h)) Or.inl
/-! ### numbers and texts -/
abbrev oI (xs : List Int32) : List Value := xs.map Value.int
def lo8 (x : Int32) : Int32 := x.toInt8.toInt32
def hi8 (x : Int32) : Int32 := lo8 (x >>> ((8 : Int32) &&& 31))
def wide2 (cs : List Int32) : List Int32 := cs.flatMap fun c => [lo8 c, hi8 c]
theorem lo8_idem (x : Int32) : nar .byte (lo8 x) = lo8 x := by
  show (x.toInt8.toInt32).toInt8.toInt32 = x.toInt8.toInt32
  rw [Int8.toInt8_toInt32]
theorem own_succ (i : Nat) : Int32.ofNat i + 1 = Int32.ofNat (i + 1) := by
  rw [Int32.ofNat_add]; rfl
theorem own_lt {a b : Nat} (ha : a < 2147483648) (hb : b < 2147483648) : Int32.ofNat a < Int32.ofNat b ↔ a < b := by
  rw [Int32.lt_iff_toInt_lt, own_i32 ha, own_i32 hb]; omega
theorem own_eq {a b : Nat} (ha : a < 2147483648) (hb : b < 2147483648) : Int32.ofNat a = Int32.ofNat b ↔ a = b := by
  rw [← Int32.toInt_inj, own_i32 ha, own_i32 hb]; omega
theorem own_shl1 (i : Nat) : Int32.ofNat i <<< ((1 : Int32) &&& 31) = Int32.ofNat (2 * i) := by
  rw [shlm (m := 2) (by decide), Nat.mul_comm, Int32.ofNat_mul]; rfl
theorem own_ge0 {x : Int32} : ¬ x < 0 ↔ 0 ≤ x.toInt := by rw [Int32.lt_iff_toInt_lt]; simp
theorem own_le {x : Int32} {n : Int32} : ¬ n < x ↔ x.toInt ≤ n.toInt := by rw [Int32.lt_iff_toInt_lt]; omega
/-- an int between two bounds, as a natural number -/
theorem own_nat {x : Int32} {N : Nat} (h0 : 0 ≤ x.toInt) (h1 : x.toInt < N) : ∃ i : Nat, i < N ∧ x = Int32.ofNat i := by
  refine ⟨x.toInt.toNat, by omega, ?_⟩
  apply Int32.toInt_inj.mp
  have := Int32.toInt_lt x
  rw [own_i32 (by omega)]; omega
theorem own_char {x : Int32} (h : fits .char (.int x) = true) : ¬ x < 0 ∧ ¬ 65535 < x := rng_char h
theorem own_take_set {α : Type} (xs : List α) (i : Nat) (v : α) (h : i < xs.length) : (xs.set i v).take (i + 1) = xs.take i ++ [v] := by
  rw [List.take_set, List.take_add_one, List.set_append_right _ _ (by simp; omega)]
  simp [h, Nat.min_eq_left (Nat.le_of_lt h)]
theorem own_take_succ {α : Type} (xs : List α) (i : Nat) (v : α) (h : xs[i]? = some v) : xs.take (i + 1) = xs.take i ++ [v] := by
  rw [List.take_add_one, h]; rfl
theorem wide2_len (cs : List Int32) : (wide2 cs).length = 2 * cs.length := by
  induction cs with
  | nil => rfl
  | cons c cs ih => simp only [wide2, List.flatMap_cons, List.length_append, List.length_cons, List.length_nil] at ih ⊢; rw [ih]; omega
theorem wide2_get (cs : List Int32) : ∀ (i : Nat) (c : Int32), cs[i]? = some c → (wide2 cs)[2 * i]? = some (lo8 c) ∧ (wide2 cs)[2 * i + 1]? = some (hi8 c) := by
  induction cs with
  | nil => intro i c h; simp at h
  | cons a cs ih =>
    intro i c h
    cases i with
    | zero => simp at h; subst h; exact ⟨rfl, rfl⟩
    | succ i =>
      have := ih i c (by simpa using h)
      have e : wide2 (a :: cs) = lo8 a :: hi8 a :: wide2 cs := rfl
      rw [e, show 2 * (i + 1) = 2 * i + 1 + 1 by omega]
      simpa using this
theorem wide2_lo (cs : List Int32) (i : Nat) (c : Int32) (h : cs[i]? = some c) : (oI (wide2 cs))[2 * i]? = some (.int (lo8 c)) := by rw [List.getElem?_map, (wide2_get cs i c h).1]; rfl
theorem wide2_hi (cs : List Int32) (i : Nat) (c : Int32) (h : cs[i]? = some c) : (oI (wide2 cs))[2 * i + 1]? = some (.int (hi8 c)) := by rw [List.getElem?_map, (wide2_get cs i c h).2]; rfl
theorem wide2_step (cs : List Int32) (vs : List Value) (i : Nat) (c : Int32) (h : cs[i]? = some c) (hv : 2 * i + 1 < vs.length) (ht : vs.take (2 * i) = (oI (wide2 cs)).take (2 * i)) :
    ((vs.set (2 * i) (.int (lo8 c))).set (2 * i + 1) (.int (hi8 c))).take (2 * (i + 1)) = (oI (wide2 cs)).take (2 * (i + 1)) := by
  rw [show 2 * (i + 1) = 2 * i + 1 + 1 by omega, own_take_set _ _ _ (by simpa using hv), own_take_set _ _ _ (by omega), ht, own_take_succ _ _ _ (wide2_hi cs i c h), own_take_succ _ _ _ (wide2_lo cs i c h)]
def oStr (Z : State) (h : Heap) (x t : Addr) (cs : List Int32) : Prop := Exa Z h x "java/lang/String" ∧ Fld Z h x "java/lang/String" "value" "[B" (.ref t) ∧
  ((Fld Z h x "java/lang/String" "coder" "B" (.int 0) ∧ oArr Z h t .byte (oI (cs.map lo8)) ∧ ∀ c ∈ cs, ¬ 255 < c) ∨ (Fld Z h x "java/lang/String" "coder" "B" (.int 1) ∧ oArr Z h t .byte (oI (wide2 cs)))) ∧ ∀ c ∈ cs, ¬ c < 0 ∧ ¬ 65535 < c
theorem shr0 (c : Int32) : c >>> ((0 : Int32) &&& 31) = c := by
  rw [show ((0 : Int32) &&& 31) = 0 from by decide]; simp
theorem own_toNat {x : Int32} (h0 : 0 ≤ x.toInt) : (x.toBitVec.toNat : Int) = x.toInt := by
  have := x.toBitVec.isLt
  have e : x.toInt = x.toBitVec.toInt := rfl
  rw [e] at h0 ⊢
  rw [BitVec.toInt_eq_toNat_cond] at h0 ⊢
  split at h0 <;> split <;> omega
theorem own_ofNat {x : Int32} {n : Nat} (h : x.toBitVec.toNat = n) : x = Int32.ofNat n := by
  apply Int32.toBitVec_inj.mp
  apply BitVec.eq_of_toNat_eq
  rw [h]
  show _ = (BitVec.ofNat 32 n).toNat
  rw [BitVec.toNat_ofNat, ← h]; have := x.toBitVec.isLt; omega
theorem lo8_and (x : Int32) : (lo8 x &&& 255).toBitVec.toNat = x.toBitVec.toNat % 256 := by
  have h : (lo8 x).toBitVec = (x.toBitVec.signExtend 8).signExtend 32 := by rw [lo8, Int8.toBitVec_toInt32, Int32.toBitVec_toInt8]
  have e : ((x.toBitVec.signExtend 8).signExtend 32).toNat % 256 = x.toBitVec.toNat % 256 := by
    have hlt := x.toBitVec.isLt
    simp only [BitVec.toNat_setWidth, BitVec.toNat_signExtend]
    split <;> split <;> omega
  rw [Int32.toBitVec_and, BitVec.toNat_and, h, ← e]
  exact Nat.and_two_pow_sub_one_eq_mod _ 8
theorem own_i2c (x : Int32) : (x.toUInt32.toUInt16.toUInt32.toInt32).toBitVec.toNat = x.toBitVec.toNat % 65536 := by
  show ((x.toBitVec.setWidth 16).setWidth 32).toNat = _
  have := x.toBitVec.isLt
  simp only [BitVec.toNat_setWidth]; omega
theorem nar_char {c : Int32} (h0 : ¬ c < 0) (h1 : ¬ 65535 < c) : nar .char c = c := by
  have a := own_toNat (own_ge0.mp h0)
  have b := own_le.mp h1
  have e : (65535 : Int32).toInt = 65535 := rfl
  apply Int32.toBitVec_inj.mp
  apply BitVec.eq_of_toNat_eq
  show (c.toUInt32.toUInt16.toUInt32.toInt32).toBitVec.toNat = _
  rw [own_i2c]; omega
theorem nar_nar (x : Int32) : nar .char (nar .char x) = nar .char x := nar_char (own_char (fits_nar_char x)).1 (own_char (fits_nar_char x)).2
theorem lat_says {c : Int32} (h0 : ¬ c < 0) (h1 : ¬ 255 < c) : nar .char ((lo8 c &&& 255).toUInt32.toUInt16.toUInt32.toInt32) = c := by
  have a := own_toNat (own_ge0.mp h0)
  have b := own_le.mp h1
  have e : (255 : Int32).toInt = 255 := rfl
  apply Int32.toBitVec_inj.mp
  apply BitVec.eq_of_toNat_eq
  show ((lo8 c &&& 255).toUInt32.toUInt16.toUInt32.toInt32.toUInt32.toUInt16.toUInt32.toInt32).toBitVec.toNat = _
  rw [own_i2c, own_i2c, lo8_and]; omega
theorem pair_says {c : Int32} (h0 : ¬ c < 0) (h1 : ¬ 65535 < c) : nar .char ((((lo8 c &&& 255) <<< ((0 : Int32) &&& 31)) ||| ((hi8 c &&& 255) <<< ((8 : Int32) &&& 31))).toUInt32.toUInt16.toUInt32.toInt32) = c := by
  have a := own_toNat (own_ge0.mp h0)
  have b := own_le.mp h1
  have e : (65535 : Int32).toInt = 65535 := rfl
  have hn : c.toBitVec.toNat < 65536 := by omega
  have a1 := lo8_and c
  have a2 : (hi8 c &&& 255).toBitVec.toNat = c.toBitVec.toNat / 256 := by
    rw [hi8, lo8_and]
    have e : ((8 : Int32) &&& 31) = 8 := by decide
    rw [e, Int32.toBitVec_shiftRight]
    have e2 : ((8 : Int32).toBitVec.smod 32) = 8#32 := by decide
    rw [e2, BitVec.sshiftRight_eq', BitVec.toNat_sshiftRight_of_msb_false (by rw [BitVec.msb_eq_false_iff_two_mul_lt]; omega)]
    show c.toBitVec.toNat >>> 8 % 256 = _
    rw [Nat.shiftRight_eq_div_pow]
    omega
  rw [shlm (x := lo8 c &&& 255) (k := 0) (m := 1) (by decide), shlm (x := hi8 c &&& 255) (k := 8) (m := 256) (by decide), Int32.mul_one]
  apply Int32.toBitVec_inj.mp
  apply BitVec.eq_of_toNat_eq
  show ((((lo8 c &&& 255) ||| ((hi8 c &&& 255) * 256)).toUInt32.toUInt16.toUInt32.toInt32).toUInt32.toUInt16.toUInt32.toInt32).toBitVec.toNat = _
  rw [own_i2c, own_i2c, Int32.toBitVec_or, BitVec.toNat_or, a1, Int32.toBitVec_mul, BitVec.toNat_mul, a2]
  have e3 : (c.toBitVec.toNat / 256 * (256 : Int32).toBitVec.toNat) % 2 ^ 32 = 2 ^ 8 * (c.toBitVec.toNat / 256) := by
    show (c.toBitVec.toNat / 256 * 256) % 4294967296 = _
    omega
  rw [e3, Nat.or_comm, ← Nat.two_pow_add_eq_or_of_lt (by omega)]
  omega
theorem own_shr1 {n : Nat} (h : 2 * n < 2147483648) : Int32.ofNat (2 * n) >>> ((1 : Int32) &&& 31) = Int32.ofNat n := by
  have a := own_toNat (x := Int32.ofNat (2 * n)) (by rw [own_i32 h]; omega)
  rw [own_i32 h] at a
  apply own_ofNat
  rw [show ((1 : Int32) &&& 31) = 1 by decide, Int32.toBitVec_shiftRight, show ((1 : Int32).toBitVec.smod 32) = 1#32 by decide, BitVec.sshiftRight_eq', BitVec.toNat_sshiftRight_of_msb_false (by rw [BitVec.msb_eq_false_iff_two_mul_lt]; omega)]
  show (Int32.ofNat (2 * n)).toBitVec.toNat >>> 1 = _
  rw [Nat.shiftRight_eq_div_pow]; omega
theorem own_and_lo (x m : Int32) (hm : ¬ m < 0) : ¬ (x &&& m) < 0 := own_ge0.mpr ((c_andS x m).2.2 (own_ge0.mp hm))
theorem own_and_hi (x m : Int32) (hm : ¬ m < 0) : ¬ m < (x &&& m) := by
  rw [own_le]
  have a := own_toNat (own_ge0.mp (own_and_lo x m hm))
  have b := own_toNat (own_ge0.mp hm)
  have c : (x &&& m).toBitVec.toNat ≤ m.toBitVec.toNat := by
    rw [Int32.toBitVec_and, BitVec.toNat_and]; exact Nat.and_le_right
  omega
theorem own_sub {x y : Int32} (h1 : -2147483648 ≤ x.toInt - y.toInt) (h2 : x.toInt - y.toInt < 2147483648) : (x - y).toInt = x.toInt - y.toInt := by
  rw [Int32.toInt_sub]
  exact Int.bmod_eq_of_le (by omega) (by omega)
theorem own_subI {i j : Nat} (hi : i < 1000000) (hj : j < 1000000) : (Int32.ofNat j - Int32.ofNat i).toInt = (j : Int) - i := by
  have a := own_i32 (i := i) (by omega)
  have b := own_i32 (i := j) (by omega)
  rw [own_sub (by omega) (by omega), a, b]
theorem own_subc {x k : Int32} (h0 : 0 ≤ k.toInt) (h1 : k.toInt ≤ x.toInt) : (x - k).toInt = x.toInt - k.toInt := by
  have := Int32.toInt_lt x
  exact own_sub (by omega) (by omega)
theorem own_eqI {args : Array Value} {first s : State} {o : Option Outcome} {idx : List Nat} {t : Term} {n : Int32} (h : (Cond.eq t (Term.int n)).value args first o s idx = some true) : t.eval args first o idx s = some (.int n) := by
  simp only [Cond.value, Term.int_eval] at h
  cases ht : t.eval args first o idx s with
  | none => simp [ht] at h
  | some x => cases x <;> simp [ht] at h ⊢; exact h
theorem own_255 {c : Int32} (h : ¬ 255 < c) : ¬ 65535 < c := by
  rw [own_le] at h ⊢
  have e : (255 : Int32).toInt = 255 := rfl
  have e2 : (65535 : Int32).toInt = 65535 := rfl
  omega
theorem own_b255 (x : Int32) : ¬ (x &&& 255).toUInt32.toUInt16.toUInt32.toInt32 < 0 ∧ ¬ 255 < (x &&& 255).toUInt32.toUInt16.toUInt32.toInt32 := by
  have h0 := own_and_lo x 255 (by decide)
  have h1 := own_and_hi x 255 (by decide)
  have e : (x &&& 255).toUInt32.toUInt16.toUInt32.toInt32 = x &&& 255 := nar_char h0 (own_255 h1)
  rw [e]; exact ⟨h0, h1⟩
theorem own_irem (x k : Int32) (n : Nat) (h0 : 0 < n) (h1 : n < 2147483648) (hk : k = Int32.ofNat n) : ∃ i : Nat, i < n ∧ (x &&& 2147483647) % k = Int32.ofNat i := by
  have a := own_ge0.mp (own_and_lo x 2147483647 (by decide))
  have e : k.toInt = (n : Int) := by rw [hk, own_i32 h1]
  have b := (c_irem (x &&& 2147483647) k (n : Int) e).1 a
  refine own_nat ?_ ?_
  · rw [b]; exact Int.emod_nonneg _ (by omega)
  · rw [b]; exact Int.emod_lt_of_pos _ (by omega)
theorem own_subN {i j : Nat} (h : i ≤ j) (hj : j < 2147483648) : Int32.ofNat j - Int32.ofNat i = Int32.ofNat (j - i) := by
  apply Int32.toInt_inj.mp
  have a := own_i32 (i := i) (by omega)
  have b := own_i32 hj
  have c := own_i32 (i := j - i) (by omega)
  rw [own_sub (by omega) (by omega), a, b, c]; omega
theorem own_add2 (i : Nat) : Int32.ofNat i + 2 = Int32.ofNat (i + 2) := by rw [Int32.ofNat_add]; rfl
theorem shl0 (c : Int32) : c <<< ((0 : Int32) &&& 31) = c := by rw [shlm (m := 1) (by decide), Int32.mul_one]
theorem own_app_take {vs : List Value} {cs ds : List Int32} (hv : vs.take cs.length = oI (cs.map lo8)) (hl : cs.length + ds.length ≤ vs.length) : (vs.take cs.length ++ oI (ds.map lo8) ++ vs.drop (cs.length + ds.length)).take (cs.length + ds.length) = oI ((cs ++ ds).map lo8) := by
  rw [hv, List.take_left' (by simp)]; simp
theorem own_sub_map (cs : List Int32) (i k : Nat) : ((oI (cs.map lo8)).drop i).take k = oI (((cs.drop i).take k).map lo8) := by
  simp [List.map_drop, List.map_take]
section Logic2
variable {l : Launch} {Z : State} {a0 : Array Value} {EL : List (String × Nat)} {wd : Prop} {p : Program} {e : Env} {s : State} {m : MethodId} {args : Array Value} {below : List Frame} {meth : Method} {c : Code} {R : Room} {own : String} {bytes : ByteArray} {mx : Nat} {rt : Option FieldType} {nm : String}
  {Q : Option Value → Heap → Prop} {O : Option Value → Heap → Addr → Prop} {D : List Addr} {h : Heap} {k n : Nat} {pc pc' pc1 pc2 : Nat} {Ls Ls' : Array Slot} {st st' : List Value}
/-- a String constant whose text is known -/
theorem oGo.ldc_str {idx : Nat} {text : String} {vs : List Value} {k' n' : Nat} (hd : decode bytes pc = .ok (.ldc idx, 2)) (hp : pc + 2 = pc') (hwd : wd) (w : (Cond.stringLink own idx text).before a0 Z = true) (wS : ∀ a ∈ Bundle.stringAtoms, a.before a0 Z = true) (hmem : (own, idx) ∈ EL)
    (ht : (∀ c ∈ text.toList, c.toNat < 256) ∧ text.toList.map (fun c => Value.int (Jvm.Lit.byteI c.toNat.toUInt16)) = vs) (hvl : vs.length < 1000) (hk : k + 2 = k') (hn : n + (4 * text.toList.length + 4) = n') (hc : k' ≤ R.cells) (hl : n' ≤ R.slots)
    (g : ∀ (h' : Heap) (a b : Nat), Ext h h' → Exa Z h' a "java/lang/String" → Fld Z h' a "java/lang/String" "coder" "B" (.int 0) → Fld Z h' a "java/lang/String" "value" "[B" (.ref b) → oArr Z h' b .byte vs → a < h'.size → b < h'.size → (∀ x : Nat, x ∈ D → x ≠ a ∧ x ≠ b) → oGo l Z a0 EL wd p e s m args below meth c R own bytes mx rt nm Q O D h' k' n' pc' Ls (.ref a :: st)) : oGo l Z a0 EL wd p e s m args below meth c R own bytes mx rt nm Q O D h k n pc Ls st := by
  subst hp hk hn
  intro T locs vm0 k0 I
  obtain ⟨⟨hx, hb, hm, hr, hlk, hnm, hE⟩, hT, hO, hF, X, hS, hk0, hZ, hown, hC, hw2, hDk⟩ := I
  have hbig : 4 * text.toList.length ≤ 536870912 := by
    have : text.toList.length = vs.length := by rw [← ht.2]; simp
    omega
  obtain ⟨a, T', h', k1, b, kk, X', hT', E, hS', hk1, hZ', hown', x1, x2, x3, x4, x5, x6, x7, -, x8, hst⟩ := ldcCH X hx hZ hown w wS hT hS hk0 hE hmem hC.1 ht (z := Int32.ofNat vs.length) (own_nn (by omega)) (by rw [own_n32 (by omega)]) (g := mkF m pc Ls st) rfl (by rw [hb]; exact hd) (n := 4 * text.toList.length) (Nat.le_refl _) hbig hc hl
  obtain ⟨V, v, L, hs, r⟩ := g h' a b E x1 x2 x3 (oArr.of_arv x4 (by rw [own_n32 (by omega)])) x5 x6 (fun x hx' => x8 x (x7.safe (hDk x hx').2.1 (hDk x hx').2.2)) T' locs T'.vm k1 ⟨⟨hx, hb, hm, hr, hlk, hnm, hE⟩, hT', ext_trans hO E, hF, X', hS', hk1, hZ', hown', hC.trans x7, Or.inl hwd, hDk.chr x7⟩
  exact ⟨V, v, L, hst V hs, r⟩
/-- a String constant of which nothing is asked -/
theorem oGo.ldc_op {idx : Nat} {text : String} {k' n' : Nat} (hd : decode bytes pc = .ok (.ldc idx, 2)) (hp : pc + 2 = pc') (hwd : wd) (w : (Cond.stringLink own idx text).before a0 Z = true) (wS : ∀ a ∈ Bundle.stringAtoms, a.before a0 Z = true)
    (hbig : 4 * text.toList.length ≤ 536870912) (hk : k + 2 = k') (hn : n + (4 * text.toList.length + 4) = n') (hc : k' ≤ R.cells) (hl : n' ≤ R.slots) (g : ∀ (h' : Heap) (a : Nat), Ext h h' → oGo l Z a0 EL wd p e s m args below meth c R own bytes mx rt nm Q O D h' k' n' pc' Ls (.ref a :: st)) : oGo l Z a0 EL wd p e s m args below meth c R own bytes mx rt nm Q O D h k n pc Ls st := by
  subst hp hk hn
  intro T locs vm0 k0 I
  obtain ⟨⟨hx, hb, hm, hr, hlk, hnm, hE⟩, hT, hO, hF, X, hS, hk0, hZ, hown, hC, hw2, hDk⟩ := I
  obtain ⟨a, T', h', k1, X', hT', E, hS', hk1, hZ', hown', x7, -, hst⟩ := ldcOH X hx hZ hown w wS hT hS hk0 hE hC.1 (g := mkF m pc Ls st) rfl (by rw [hb]; exact hd) (n := 4 * text.toList.length) (Nat.le_refl _) hbig hc hl
  obtain ⟨V, v, L, hs, r⟩ := g h' a E T' locs T'.vm k1 ⟨⟨hx, hb, hm, hr, hlk, hnm, hE⟩, hT', ext_trans hO E, hF, X', hS', hk1, hZ', hown', hC.trans x7, Or.inl hwd, hDk.chr x7⟩
  exact ⟨V, v, L, hst V hs, r⟩
/-- invokevirtual of a private method -/
theorem oGo.invokeprivate {idx : Nat} {y : MethodName} {Cn : String} {b' : ByteArray} {mx' : Nat} {rt' rs : Option FieldType} {ps : List FieldType} {rm : Room} {D' : List Addr} {Q' : Option Value → Heap → Prop} {O' : Option Value → Heap → Addr → Prop} {k' n' : Nat} {a : Addr} {argsL rest : List Value}
    (hd : decode bytes pc = .ok (.invokevirtual idx, 3)) (hp : pc + 3 = pc') (w1 : (Cond.methodLink own idx y).before a0 Z = true) (w2 : (Cond.privateMethod y).before a0 Z = true) (w5 : (Cond.selects Cn y y).before a0 Z = true) (w6 : (Cond.instanceMethod y).before a0 Z = true) (w3 : (Cond.initialized y.cls).before a0 Z = true) (w4 : (Cond.code y b' mx' rt').before a0 Z = true)
    (hy : y.cls ≠ "java/lang/invoke/MethodHandle" ∧ y.cls ≠ "java/lang/invoke/VarHandle") (pd : parseMethodDescriptor y.desc = some ⟨ps, rs⟩) (hll : argsL.length = ps.length) (hst : st = argsL.reverse ++ .ref a :: rest) (hsz : Ls.size = mx) (E : Exa Z h a Cn)
    (hM : oCtr [] l Z a0 EL wd y b' mx' rt' rm (.ref a :: argsL).toArray D' h Q' O') (hD : ∀ x ∈ D', x ∈ D) (hf : rm.frames + 1 ≤ R.frames) (hl : (rest.map fun v => v.category).sum + (mx' + 11) + rm.locals ≤ R.locals) (hk : k + rm.cells = k') (hn : n + rm.slots = n') (hc : k' ≤ R.cells) (hs : n' ≤ R.slots)
    (g : ∀ v h', h.size ≤ h'.size → Q' v h' → ∃ D2 : List Addr, (∀ x ∈ D2, x ∈ D ∨ O' v h' x) ∧ oGo l Z a0 EL wd p e s m args below meth c R own bytes mx rt nm Q O D2 h' k' n' pc' Ls (v.toList ++ rest)) : oGo l Z a0 EL wd p e s m args below meth c R own bytes mx rt nm Q O D h k n pc Ls st := by
  subst hp hst
  intro T locs vm0 k0 I
  have I0 := I
  obtain ⟨⟨hx, hb, hm, hr, hlk, hnm, hE⟩, hT, hO, hF, X, hS, hk0, hZ, hown, hC, hwd, hDk⟩ := I
  have hi' := mvT (s := s.setVm vm0) (args := args) hZ w6
  have hc' := mvT (s := s.setVm vm0) (args := args) hZ w4
  have hs' := mvT (s := s.setVm vm0) (args := args) hZ w5
  have hpr := Cond.privateMethod_at (mvP (s := s.setVm vm0) (args := args) hZ w2)
  obtain ⟨mk, mM, n1, n2, n3, n4⟩ := Cond.instanceMethod_spec hi'
  obtain ⟨mM', cM, n5, -, -, -, -, -, -, n6⟩ := Cond.code_spec n1 hc'
  cases n2.symm.trans n5
  obtain ⟨c2, r2, m2, -, -, n7, -, kP, n8, n9⟩ := Cond.selects_spec hs'
  cases n1.symm.trans n7
  obtain ⟨cell, e1, e2⟩ := E.cell
  obtain ⟨vm₁, X₁, st1⟩ := X.invokevirtual hx hown (mvT (s := s.setVm vm0) hZ w1) n1 n2 n3 n8 n9 hy (a := a) (cell := cell) (by rw [hT]; exact e1) e2 (selectMethod_private n2 (hpr mk mM n1 n2)) n2 n4 n8 n9 (g := mkF m pc Ls (argsL.reverse ++ .ref a :: rest)) rfl (argsL := argsL) (rest := rest) (lenOf pd hll _ n6) rfl (by rw [hb]; exact hd)
  obtain ⟨v, B, X2, hS2, hgr, hpo, hst2⟩ := (oCtr.back (p := p) (e := e) (s := s) (args := args) (below := below) (R := R) (len := 3) (W := (rest.map fun v => v.category).sum) hM hZ w4 w3 hf hl hE hO hC.1 (hDk.sub hD)) m meth c ⟨T.setVm vm₁, locs, k, n⟩ (mkF m pc Ls rest) (.invokevirtual idx) mk (.ref a :: argsL).toArray X₁ rfl (hsz.trans hm.symm) (by show decode c.code pc = _; rw [hb]; exact hd) (by show 2 * 0 + (rest.map fun v => v.category).sum ≤ _; omega) (X₁.named n1) ⟨rfl, hT, by show k + _ ≤ _; omega, by show n + _ ≤ _; omega⟩
  exact oGo.after I0 hk hn (as' := (.ref a :: argsL).toArray) (rest := rest) ⟨v, vm₁, B, X₁.warmed, X2, hS2, hgr, hpo, (st1 _ fun acts => by rw [doInvoke_state]; exact Steps.refl _).trans hst2⟩ g
/-- invokespecial of a superclass's method -/
theorem oGo.invokesuper {idx : Nat} {y : MethodName} {Cn : String} {b' : ByteArray} {mx' : Nat} {rt' rs : Option FieldType} {ps : List FieldType} {rm : Room} {D' : List Addr} {Q' : Option Value → Heap → Prop} {O' : Option Value → Heap → Addr → Prop} {k' n' : Nat} {a : Addr} {argsL rest : List Value}
    (hd : decode bytes pc = .ok (.invokespecial idx, 3)) (hp : pc + 3 = pc') (hni : y.name ≠ "<init>") (w1 : (Cond.methodLink own idx y).before a0 Z = true) (w2 : (Cond.superclass own y.cls).before a0 Z = true) (w6 : (Cond.instanceMethod y).before a0 Z = true) {C5 : String} {y5 z5 : MethodName} (w5 : (Cond.selects C5 y5 z5).before a0 Z = true) (h5 : z5.cls = y.cls) (w3 : (Cond.initialized y.cls).before a0 Z = true) (w4 : (Cond.code y b' mx' rt').before a0 Z = true)
    (hy : y.cls ≠ "java/lang/invoke/MethodHandle" ∧ y.cls ≠ "java/lang/invoke/VarHandle") (pd : parseMethodDescriptor y.desc = some ⟨ps, rs⟩) (hll : argsL.length = ps.length) (hst : st = argsL.reverse ++ .ref a :: rest) (hsz : Ls.size = mx) (E : Exa Z h a Cn)
    (hM : oCtr [] l Z a0 EL wd y b' mx' rt' rm (.ref a :: argsL).toArray D' h Q' O') (hD : ∀ x ∈ D', x ∈ D) (hf : rm.frames + 1 ≤ R.frames) (hl : (rest.map fun v => v.category).sum + (mx' + 11) + rm.locals ≤ R.locals) (hk : k + rm.cells = k') (hn : n + rm.slots = n') (hc : k' ≤ R.cells) (hs : n' ≤ R.slots)
    (g : ∀ v h', h.size ≤ h'.size → Q' v h' → ∃ D2 : List Addr, (∀ x ∈ D2, x ∈ D ∨ O' v h' x) ∧ oGo l Z a0 EL wd p e s m args below meth c R own bytes mx rt nm Q O D2 h' k' n' pc' Ls (v.toList ++ rest)) : oGo l Z a0 EL wd p e s m args below meth c R own bytes mx rt nm Q O D h k n pc Ls st := by
  subst hp hst
  intro T locs vm0 k0 I
  have I0 := I
  obtain ⟨⟨hx, hb, hm, hr, hlk, hnm, hE⟩, hT, hO, hF, X, hS, hk0, hZ, hown, hC, hwd, hDk⟩ := I
  obtain ⟨mk, mM, n1, n2, n3, n4⟩ := Cond.instanceMethod_spec (mvT (s := s.setVm vm0) (args := args) hZ w6)
  obtain ⟨mM', cM, n5, -, -, -, -, -, -, n6⟩ := Cond.code_spec n1 (mvT (s := s.setVm vm0) (args := args) hZ w4)
  cases n2.symm.trans n5
  have hcn := findClass_of_methodNamed n1
  obtain ⟨dk, hdk, -⟩ := Vm.findClass_spec (vm := (s.setVm vm0).vm) hown
  obtain ⟨kp, hkp, -⟩ := Vm.findClass_spec hcn
  have ws := mvT (s := s.setVm vm0) (args := args) hZ w2
  have hown' : (s.setVm vm0).vm.findClass own = some m.cls := hown
  simp only [Cond.before, Cond.holds, Cond.value, hown', hcn, hdk, hkp, Option.bind_some, Option.map_some] at ws
  have ws' : ((dk.super = some mk.cls ∧ dk.kind = .ordinary) ∧ kp.kind = .ordinary) ∧ dk.isInterface = false := by simpa using ws
  obtain ⟨c5, r5, m5, -, -, f5, -, kP, f6, f7⟩ := Cond.selects_spec (mvT (s := s.setVm vm0) (args := args) hZ w5)
  have f8 := findClass_of_methodNamed f5
  rw [h5] at f8
  have f9 : mk.cls = m5.cls := Option.some.inj (hcn.symm.trans f8)
  have hki : kp.isInterface = false := by rw [f9] at hkp; cases hkp.symm.trans f6; exact f7
  have hsame : (Cond.sameMethod y.cls y.cls y.name y.desc).before args (s.setVm vm0) = true := by
    have q := State.methodFound?_of_named n1 hy
    have hcn' : vm0.findClass y.cls = some mk.cls := hcn
    have hkp' : vm0.classes[mk.cls]? = some kp := hkp
    simp [Cond.before, Cond.holds, Cond.value, hcn', q, n1, hkp', hki]
  obtain ⟨cell, kc, e1, e2, e3, e4, -⟩ := E
  obtain ⟨kc', e5, -⟩ := hZ.alike.2.2 _ _ e3
  obtain ⟨vm₁, X₁, st1⟩ := X.invokespecialUp hx (owner := y.cls) hown (mvT (s := s.setVm vm0) hZ w1) hsame n1 n2 n3 n4 hni hdk ws'.2 hcn ws'.1.1.1 (by simp [Vm.isSubclass, Vm.isSubclassAux]) (a := a) (by rw [hT]; exact e1) (fun q e => by rw [e] at e4; cases e4) e5 (g := mkF m pc Ls (argsL.reverse ++ .ref a :: rest)) rfl (argsL := argsL) (rest := rest) (lenOf pd hll _ n6) rfl (by rw [hb]; exact hd)
  obtain ⟨v, B, X2, hS2, hgr, hpo, hst2⟩ := (oCtr.back (p := p) (e := e) (s := s) (args := args) (below := below) (R := R) (len := 3) (W := (rest.map fun v => v.category).sum) hM hZ w4 w3 hf hl hE hO hC.1 (hDk.sub hD)) m meth c ⟨T.setVm vm₁, locs, k, n⟩ (mkF m pc Ls rest) (.invokespecial idx) mk (.ref a :: argsL).toArray X₁ rfl (hsz.trans hm.symm) (by show decode c.code pc = _; rw [hb]; exact hd) (by show 2 * 0 + (rest.map fun v => v.category).sum ≤ _; omega) (X₁.named n1) ⟨rfl, hT, by show k + _ ≤ _; omega, by show n + _ ≤ _; omega⟩
  exact oGo.after I0 hk hn (as' := (.ref a :: argsL).toArray) (rest := rest) ⟨v, vm₁, B, X₁.warmed, X2, hS2, hgr, hpo, st1 _ hst2⟩ g
/-- System.arraycopy between two arrays of bytes, not the same one -/
theorem oGo.arraycopy {idx : Nat} {a b : Addr} {vs ws : List Value} {i j q : Nat} (hd : decode bytes pc = .ok (.invokestatic idx, 3)) (hp : pc + 3 = pc') (w1 : (Cond.methodLink own idx Jvm.Stand.acN).before a0 Z = true) (w2 : (Cond.native Jvm.Stand.acN).before a0 Z = true) (w3 : (Cond.static Jvm.Stand.acN).before a0 Z = true) (w4 : (Cond.initialized "java/lang/System").before a0 Z = true)
    (A : oArr Z h a .byte vs) (B : oArr Z h b .byte ws) (h1 : i + q ≤ vs.length) (h2 : j + q ≤ ws.length) (hsz : Ls.size = mx) (hf : 1 ≤ R.frames) (hlo : (st.map fun v => v.category).sum + (nativeFrameWords "java/lang/System" "arraycopy" 5 + 11) ≤ R.locals) (ha : b ∈ D)
    (g : ∀ h', Keep h h' [b] → h.size ≤ h'.size → oArr Z h' b .byte (ws.take j ++ (vs.drop i).take q ++ ws.drop (j + q)) → oGo l Z a0 EL wd p e s m args below meth c R own bytes mx rt nm Q O D h' k n pc' Ls st) : oGo l Z a0 EL wd p e s m args below meth c R own bytes mx rt nm Q O D h k n pc Ls (.int (Int32.ofNat q) :: .int (Int32.ofNat j) :: .ref b :: .int (Int32.ofNat i) :: .ref a :: st) := by
  subst hp
  have hv : vs.length < 2147483648 := by obtain ⟨_, _, _, z, _⟩ := A; exact z
  have hw : ws.length < 2147483648 := by obtain ⟨_, _, _, z, _⟩ := B; exact z
  obtain ⟨ka, A'⟩ := A.arv (.int 0)
  obtain ⟨kb, B'⟩ := B.arv (.int 0)
  have e1 := own_n32 (i := i) (by omega); have e2 := own_n32 (i := j) (by omega); have e3 := own_n32 (i := q) (by omega)
  have e4 := own_n32 hv; have e5 := own_n32 hw
  have eus : (List.range (Int32.ofNat q).toNatClampNeg).map (fun z => vs.getD ((Int32.ofNat i).toNatClampNeg + z) (.int 0)) = (vs.drop i).take q := by
    rw [e1, e3]
    apply List.ext_getElem?
    intro z
    by_cases hz : z < q
    · rw [List.getElem?_map, List.getElem?_range hz, List.getElem?_take_of_lt hz, List.getElem?_drop]
      have : i + z < vs.length := by omega
      simp [List.getD_eq_getElem?_getD, this]
    · rw [List.getElem?_eq_none (by simpa using hz), List.getElem?_eq_none (by simp; omega)]
  refine oGo.writes (ws := [b]) (P := fun h' => oArr Z h' b .byte (ws.take j ++ (vs.drop i).take q ++ ws.drop (j + q))) (fun T locs vm0 X hT hZ hown hb hx hn hm hF hDz => ?_) (fun x hx => by rw [List.mem_singleton.mp hx]; exact ha) (fun h' K P => g h' K K.1 P)
  obtain ⟨T', h', L', X', hT', hF', K, A2, hst⟩ := cpA (s := s.setVm vm0) X hx hZ hown w1 w2 w3 w4 hT A' B' (sp := Int32.ofNat i) (dp := Int32.ofNat j) (nn := Int32.ofNat q) (us := (vs.drop i).take q) (Or.inl ⟨rfl, rfl⟩) (own_nn (by omega)) (own_nn (by omega)) (own_nn (by omega)) (by rw [e1, e3, e4]; exact h1) (by rw [e2, e3, e5]; exact h2) eus.symm (by rw [e2, e3]; exact h2) hF (hDz b ha) (g := mkF m pc Ls (.int (Int32.ofNat q) :: .int (Int32.ofNat j) :: .ref b :: .int (Int32.ofNat i) :: .ref a :: st)) rfl (hsz.trans hm.symm) rfl (by rw [hb]; exact hd) hf (W := (st.map fun v => v.category).sum) (by show 2 * 0 + _ ≤ _; omega) hlo
  rw [e2, e3] at A2
  refine ⟨T', h', L', X', hT', hF', K, oArr.of_arv A2 ?_, hst⟩
  rw [e5]; simp; omega
/-- checkcast of an object whose class is known -/
theorem oGo.checkcast {idx : Nat} {a : Addr} {Cn K : String} (hd : decode bytes pc = .ok (.checkcast idx, 3)) (hp : pc + 3 = pc') (w : (Cond.classLink own idx K).before a0 Z = true) (F : Ins Z h a K true) (g : oGo l Z a0 EL wd p e s m args below meth c R own bytes mx rt nm Q O D h k n pc' Ls (.ref a :: st)) : oGo l Z a0 EL wd p e s m args below meth c R own bytes mx rt nm Q O D h k n pc Ls (.ref a :: st) := by
  subst hp; exact oGo.move (fun T locs vm0 X hT hZ hown hb hx hn hm => castY (s := s.setVm vm0) X hx hZ hown w hT F (g := mkF m pc Ls (.ref a :: st)) rfl rfl (by rw [hb]; exact hd)) g
theorem oGo.instanceof_y {idx : Nat} {a : Addr} {K : String} (hd : decode bytes pc = .ok (.instanceof idx, 3)) (hp : pc + 3 = pc') (w : (Cond.classLink own idx K).before a0 Z = true) (F : Ins Z h a K true) (g : oGo l Z a0 EL wd p e s m args below meth c R own bytes mx rt nm Q O D h k n pc' Ls (.int 1 :: st)) : oGo l Z a0 EL wd p e s m args below meth c R own bytes mx rt nm Q O D h k n pc Ls (.ref a :: st) := by
  subst hp; exact oGo.move (fun T locs vm0 X hT hZ hown hb hx hn hm => instY (s := s.setVm vm0) X hx hZ hown w hT F (g := mkF m pc Ls (.ref a :: st)) rfl rfl (by rw [hb]; exact hd)) g
end Logic2
/-! ### Latin-1 Strings -/
def oS (Z : State) (h : Heap) (x t : Addr) (cs : List Int32) : Prop := Exa Z h x "java/lang/String" ∧ Fld Z h x "java/lang/String" "value" "[B" (.ref t) ∧ Fld Z h x "java/lang/String" "coder" "B" (.int 0) ∧ oArr Z h t .byte (oI (cs.map lo8)) ∧ ∀ c ∈ cs, ¬ c < 0 ∧ ¬ 255 < c
section Str
variable {Z : State} {h h' : Heap} {x t a : Addr} {cs : List Int32} {ws : List Addr}
theorem oS.ext (S : oS Z h x t cs) (E : Ext h h') : oS Z h' x t cs := ⟨S.1.ext E, S.2.1.ext E, S.2.2.1.ext E, S.2.2.2.1.ext E, S.2.2.2.2⟩
theorem oS.keep (S : oS Z h x t cs) (K : Keep h h' ws) (q : x ∉ ws) (r : t ∉ ws) : oS Z h' x t cs := ⟨S.1.keep K, S.2.1.keep K q, S.2.2.1.keep K q, S.2.2.2.1.keep K r, S.2.2.2.2⟩
theorem oS.other {sl : Nat} {v : Value} (S : oS Z h x t cs) (W : Wr h h' a sl v) (q : x ≠ a) (r : t ≠ a) : oS Z h' x t cs := ⟨S.1.wr W, S.2.1.other W (Or.inl q), S.2.2.1.other W (Or.inl q), S.2.2.2.1.other W r, S.2.2.2.2⟩
theorem oS.len (S : oS Z h x t cs) : cs.length < 2147483648 := by obtain ⟨_, _, _, ⟨_, _, _, q, _⟩, _⟩ := S; simpa using q
end Str
def oG (a0 : Array Value) (Z : State) (EL : List (String × Nat)) : Prop := (∀ d ∈ tables_1, d.before a0 Z = true) ∧ EW Z a0 EL ∧ (∀ d ∈ jdkStatics_1, d.before a0 Z = true) ∧ ∀ p ∈ consts_1, p ∈ EL
theorem sCOMPACT {a0 : Array Value} {Z : State} {EL : List (String × Nat)} (hG : oG a0 Z EL) : ∃ z, Sta Z Z.heap "java/lang/String" "COMPACT_STRINGS" "Z" (.int z) ∧ ¬ z = 0 := by
  obtain ⟨z, e⟩ := is_v (Cond.before_iff.mp (hG.2.2.1 _ (List.mem_of_getElem? (i := 1) rfl)))
  exact ⟨z, Sta.start e (Or.inl (hG.2.2.1 _ (List.mem_of_getElem? (i := 0) rfl))), gotF (Cond.eq_ints e (Term.int_eval (0))) (not_v (Cond.before_iff.mp (hG.2.2.1 _ (List.mem_of_getElem? (i := 2) rfl))))⟩
theorem sSIOOBE {a0 : Array Value} {Z : State} {EL : List (String × Nat)} (hG : oG a0 Z EL) : ∃ v, Sta Z Z.heap "jdk/internal/util/Preconditions" "SIOOBE_FORMATTER" "Ljava/util/function/BiFunction;" v ∧ v.isRef = true := by
  obtain ⟨v, e, r⟩ := isR_v (Cond.before_iff.mp (hG.2.2.1 _ (List.mem_of_getElem? (i := 8) rfl)))
  exact ⟨v, Sta.start e (Or.inl (hG.2.2.1 _ (List.mem_of_getElem? (i := 7) rfl))), r⟩
theorem w0 {a0 : Array Value} {Z : State} {EL : List (String × Nat)} (hG : oG a0 Z EL) : ((Jvm.Cond.constant "com/example/recital/recital/NumeralPrefixPinLaw" (7 : Nat) (2147483647 : Int32))).before a0 Z = true := hG.1 _ (List.mem_of_getElem? (i := 0) rfl)
theorem w1 {a0 : Array Value} {Z : State} {EL : List (String × Nat)} (hG : oG a0 Z EL) : ((Jvm.Cond.methodLink "com/example/recital/recital/NumeralPrefixPinLaw" (8 : Nat) ({ cls := "com/example/recital/recital/NumeralPrefixPinLaw", name := "ch", desc := "(I)C" } : Jvm.MethodName))).before a0 Z = true := hG.1 _ (List.mem_of_getElem? (i := 1) rfl)
theorem w2 {a0 : Array Value} {Z : State} {EL : List (String × Nat)} (hG : oG a0 Z EL) : ((Jvm.Cond.static ({ cls := "com/example/recital/recital/NumeralPrefixPinLaw", name := "ch", desc := "(I)C" } : Jvm.MethodName))).before a0 Z = true := hG.1 _ (List.mem_of_getElem? (i := 2) rfl)
theorem w3 {a0 : Array Value} {Z : State} {EL : List (String × Nat)} (hG : oG a0 Z EL) : ((Jvm.Cond.initialized "com/example/recital/recital/NumeralPrefixPinLaw")).before a0 Z = true := hG.1 _ (List.mem_of_getElem? (i := 3) rfl)
theorem w4 {a0 : Array Value} {Z : State} {EL : List (String × Nat)} (hG : oG a0 Z EL) : ((Jvm.Cond.code ({ cls := "com/example/recital/recital/NumeralPrefixPinLaw", name := "ch", desc := "(I)C" } : Jvm.MethodName) method_4_code (1 : Nat) (Option.some Jvm.ClassFile.FieldType.char))).before a0 Z = true := hG.1 _ (List.mem_of_getElem? (i := 4) rfl)
theorem w5 {a0 : Array Value} {Z : State} {EL : List (String × Nat)} (hG : oG a0 Z EL) : ((Jvm.Cond.methodLink "com/example/recital/recital/NumeralPrefixPinLaw" (14 : Nat) ({ cls := "com/example/recital/recital/NumeralPrefixPinLaw", name := "make", desc := "(ICCCC)Ljava/lang/String;" } : Jvm.MethodName))).before a0 Z = true := hG.1 _ (List.mem_of_getElem? (i := 5) rfl)
theorem w6 {a0 : Array Value} {Z : State} {EL : List (String × Nat)} (hG : oG a0 Z EL) : ((Jvm.Cond.static ({ cls := "com/example/recital/recital/NumeralPrefixPinLaw", name := "make", desc := "(ICCCC)Ljava/lang/String;" } : Jvm.MethodName))).before a0 Z = true := hG.1 _ (List.mem_of_getElem? (i := 6) rfl)
theorem w7 {a0 : Array Value} {Z : State} {EL : List (String × Nat)} (hG : oG a0 Z EL) : ((Jvm.Cond.code ({ cls := "com/example/recital/recital/NumeralPrefixPinLaw", name := "make", desc := "(ICCCC)Ljava/lang/String;" } : Jvm.MethodName) method_5_code (5 : Nat) (Option.some (Jvm.ClassFile.FieldType.object "java/lang/String")))).before a0 Z = true := hG.1 _ (List.mem_of_getElem? (i := 7) rfl)
theorem w8 {a0 : Array Value} {Z : State} {EL : List (String × Nat)} (hG : oG a0 Z EL) : ((Jvm.Cond.classLink "com/example/recital/recital/NumeralPrefixPinLaw" (25 : Nat) "java/lang/String")).before a0 Z = true := hG.1 _ (List.mem_of_getElem? (i := 8) rfl)
theorem w9 {a0 : Array Value} {Z : State} {EL : List (String × Nat)} (hG : oG a0 Z EL) : ((Jvm.Cond.instantiable "java/lang/String" (4 : Nat))).before a0 Z = true := hG.1 _ (List.mem_of_getElem? (i := 9) rfl)
theorem w10 {a0 : Array Value} {Z : State} {EL : List (String × Nat)} (hG : oG a0 Z EL) : ((Jvm.Cond.initialized "java/lang/String")).before a0 Z = true := hG.1 _ (List.mem_of_getElem? (i := 10) rfl)
theorem w11 {a0 : Array Value} {Z : State} {EL : List (String × Nat)} (hG : oG a0 Z EL) : ((Jvm.Cond.arrayClass Jvm.ClassFile.FieldType.char)).before a0 Z = true := hG.1 _ (List.mem_of_getElem? (i := 11) rfl)
theorem w12 {a0 : Array Value} {Z : State} {EL : List (String × Nat)} (hG : oG a0 Z EL) : ((Jvm.Cond.methodLink "com/example/recital/recital/NumeralPrefixPinLaw" (37 : Nat) ({ cls := "java/lang/String", name := "<init>", desc := "([C)V" } : Jvm.MethodName))).before a0 Z = true := hG.1 _ (List.mem_of_getElem? (i := 12) rfl)
theorem w13 {a0 : Array Value} {Z : State} {EL : List (String × Nat)} (hG : oG a0 Z EL) : ((Jvm.Cond.instanceMethod ({ cls := "java/lang/String", name := "<init>", desc := "([C)V" } : Jvm.MethodName))).before a0 Z = true := hG.1 _ (List.mem_of_getElem? (i := 13) rfl)
theorem w14 {a0 : Array Value} {Z : State} {EL : List (String × Nat)} (hG : oG a0 Z EL) : ((Jvm.Cond.code ({ cls := "java/lang/String", name := "<init>", desc := "([C)V" } : Jvm.MethodName) jdk_42_method_3_code (2 : Nat) (Option.none : Option Jvm.ClassFile.FieldType))).before a0 Z = true := hG.1 _ (List.mem_of_getElem? (i := 14) rfl)
theorem w15 {a0 : Array Value} {Z : State} {EL : List (String × Nat)} (hG : oG a0 Z EL) : ((Jvm.Cond.methodLink "java/lang/String" (27 : Nat) ({ cls := "java/lang/String", name := "<init>", desc := "([CIILjava/lang/Void;)V" } : Jvm.MethodName))).before a0 Z = true := hG.1 _ (List.mem_of_getElem? (i := 15) rfl)
theorem w16 {a0 : Array Value} {Z : State} {EL : List (String × Nat)} (hG : oG a0 Z EL) : ((Jvm.Cond.instanceMethod ({ cls := "java/lang/String", name := "<init>", desc := "([CIILjava/lang/Void;)V" } : Jvm.MethodName))).before a0 Z = true := hG.1 _ (List.mem_of_getElem? (i := 16) rfl)
theorem w18 {a0 : Array Value} {Z : State} {EL : List (String × Nat)} (hG : oG a0 Z EL) : ((Jvm.Cond.code ({ cls := "java/lang/String", name := "<init>", desc := "([CIILjava/lang/Void;)V" } : Jvm.MethodName) jdk_42_method_149_code (6 : Nat) (Option.none : Option Jvm.ClassFile.FieldType))).before a0 Z = true := hG.1 _ (List.mem_of_getElem? (i := 18) rfl)
theorem w19 {a0 : Array Value} {Z : State} {EL : List (String × Nat)} (hG : oG a0 Z EL) : ((Jvm.Cond.methodLink "java/lang/String" (1 : Nat) ({ cls := "java/lang/Object", name := "<init>", desc := "()V" } : Jvm.MethodName))).before a0 Z = true := hG.1 _ (List.mem_of_getElem? (i := 19) rfl)
theorem w20 {a0 : Array Value} {Z : State} {EL : List (String × Nat)} (hG : oG a0 Z EL) : ((Jvm.Cond.instanceMethod ({ cls := "java/lang/Object", name := "<init>", desc := "()V" } : Jvm.MethodName))).before a0 Z = true := hG.1 _ (List.mem_of_getElem? (i := 20) rfl)
theorem w21 {a0 : Array Value} {Z : State} {EL : List (String × Nat)} (hG : oG a0 Z EL) : ((Jvm.Cond.code ({ cls := "java/lang/Object", name := "<init>", desc := "()V" } : Jvm.MethodName) object_method_1_code (1 : Nat) (Option.none : Option Jvm.ClassFile.FieldType))).before a0 Z = true := hG.1 _ (List.mem_of_getElem? (i := 21) rfl)
theorem w22 {a0 : Array Value} {Z : State} {EL : List (String × Nat)} (hG : oG a0 Z EL) : ((Jvm.Cond.stringLink "java/lang/String" (7 : Nat) "")).before a0 Z = true := hG.1 _ (List.mem_of_getElem? (i := 22) rfl)
theorem w23 {a0 : Array Value} {Z : State} {EL : List (String × Nat)} (hG : oG a0 Z EL) : ((Jvm.Cond.arrayClass Jvm.ClassFile.FieldType.byte)).before a0 Z = true := hG.1 _ (List.mem_of_getElem? (i := 23) rfl)
theorem w24 {a0 : Array Value} {Z : State} {EL : List (String × Nat)} (hG : oG a0 Z EL) : ((Jvm.Cond.laysFinal "java/lang/String" "java/lang/String" "value" "[B")).before a0 Z = true := hG.1 _ (List.mem_of_getElem? (i := 24) rfl)
theorem w25 {a0 : Array Value} {Z : State} {EL : List (String × Nat)} (hG : oG a0 Z EL) : ((Jvm.Cond.laysFinal "java/lang/String" "java/lang/String" "coder" "B")).before a0 Z = true := hG.1 _ (List.mem_of_getElem? (i := 25) rfl)
theorem w26 {a0 : Array Value} {Z : State} {EL : List (String × Nat)} (hG : oG a0 Z EL) : ((Jvm.Cond.soleField "java/lang/String" "value")).before a0 Z = true := hG.1 _ (List.mem_of_getElem? (i := 26) rfl)
theorem w27 {a0 : Array Value} {Z : State} {EL : List (String × Nat)} (hG : oG a0 Z EL) : ((Jvm.Cond.soleField "java/lang/String" "coder")).before a0 Z = true := hG.1 _ (List.mem_of_getElem? (i := 27) rfl)
theorem w28 {a0 : Array Value} {Z : State} {EL : List (String × Nat)} (hG : oG a0 Z EL) : ((Jvm.Cond.fieldLink "java/lang/String" (9 : Nat) "java/lang/String" "value" "[B")).before a0 Z = true := hG.1 _ (List.mem_of_getElem? (i := 28) rfl)
theorem w29 {a0 : Array Value} {Z : State} {EL : List (String × Nat)} (hG : oG a0 Z EL) : ((Jvm.Cond.fieldLink "java/lang/String" (15 : Nat) "java/lang/String" "coder" "B")).before a0 Z = true := hG.1 _ (List.mem_of_getElem? (i := 29) rfl)
theorem w30 {a0 : Array Value} {Z : State} {EL : List (String × Nat)} (hG : oG a0 Z EL) : ((Jvm.Cond.methodLink "com/example/recital/recital/NumeralPrefixPinLaw" (18 : Nat) ({ cls := "com/example/recital/recital/Numeral", name := "prefix", desc := "(Ljava/lang/String;)Ljava/lang/String;" } : Jvm.MethodName))).before a0 Z = true := hG.1 _ (List.mem_of_getElem? (i := 30) rfl)
theorem w31 {a0 : Array Value} {Z : State} {EL : List (String × Nat)} (hG : oG a0 Z EL) : ((Jvm.Cond.static ({ cls := "com/example/recital/recital/Numeral", name := "prefix", desc := "(Ljava/lang/String;)Ljava/lang/String;" } : Jvm.MethodName))).before a0 Z = true := hG.1 _ (List.mem_of_getElem? (i := 31) rfl)
theorem w32 {a0 : Array Value} {Z : State} {EL : List (String × Nat)} (hG : oG a0 Z EL) : ((Jvm.Cond.initialized "com/example/recital/recital/Numeral")).before a0 Z = true := hG.1 _ (List.mem_of_getElem? (i := 32) rfl)
theorem w33 {a0 : Array Value} {Z : State} {EL : List (String × Nat)} (hG : oG a0 Z EL) : ((Jvm.Cond.code ({ cls := "com/example/recital/recital/Numeral", name := "prefix", desc := "(Ljava/lang/String;)Ljava/lang/String;" } : Jvm.MethodName) prog_13_method_4_code (1 : Nat) (Option.some (Jvm.ClassFile.FieldType.object "java/lang/String")))).before a0 Z = true := hG.1 _ (List.mem_of_getElem? (i := 33) rfl)
theorem w34 {a0 : Array Value} {Z : State} {EL : List (String × Nat)} (hG : oG a0 Z EL) : ((Jvm.Cond.methodLink "com/example/recital/recital/Numeral" (93 : Nat) ({ cls := "java/lang/String", name := "lastIndexOf", desc := "(I)I" } : Jvm.MethodName))).before a0 Z = true := hG.1 _ (List.mem_of_getElem? (i := 34) rfl)
theorem w35 {a0 : Array Value} {Z : State} {EL : List (String × Nat)} (hG : oG a0 Z EL) : ((Jvm.Cond.declares ({ cls := "java/lang/String", name := "lastIndexOf", desc := "(I)I" } : Jvm.MethodName))).before a0 Z = true := hG.1 _ (List.mem_of_getElem? (i := 35) rfl)
theorem w36 {a0 : Array Value} {Z : State} {EL : List (String × Nat)} (hG : oG a0 Z EL) : ((Jvm.Cond.instanceMethod ({ cls := "java/lang/String", name := "lastIndexOf", desc := "(I)I" } : Jvm.MethodName))).before a0 Z = true := hG.1 _ (List.mem_of_getElem? (i := 36) rfl)
theorem w37 {a0 : Array Value} {Z : State} {EL : List (String × Nat)} (hG : oG a0 Z EL) : ((Jvm.Cond.selects "java/lang/String" ({ cls := "java/lang/String", name := "lastIndexOf", desc := "(I)I" } : Jvm.MethodName) ({ cls := "java/lang/String", name := "lastIndexOf", desc := "(I)I" } : Jvm.MethodName))).before a0 Z = true := hG.1 _ (List.mem_of_getElem? (i := 37) rfl)
theorem w38 {a0 : Array Value} {Z : State} {EL : List (String × Nat)} (hG : oG a0 Z EL) : ((Jvm.Cond.code ({ cls := "java/lang/String", name := "lastIndexOf", desc := "(I)I" } : Jvm.MethodName) jdk_42_method_82_code (2 : Nat) (Option.some Jvm.ClassFile.FieldType.int))).before a0 Z = true := hG.1 _ (List.mem_of_getElem? (i := 38) rfl)
theorem w39 {a0 : Array Value} {Z : State} {EL : List (String × Nat)} (hG : oG a0 Z EL) : ((Jvm.Cond.methodLink "java/lang/String" (505 : Nat) ({ cls := "java/lang/String", name := "length", desc := "()I" } : Jvm.MethodName))).before a0 Z = true := hG.1 _ (List.mem_of_getElem? (i := 39) rfl)
theorem w40 {a0 : Array Value} {Z : State} {EL : List (String × Nat)} (hG : oG a0 Z EL) : ((Jvm.Cond.declares ({ cls := "java/lang/String", name := "length", desc := "()I" } : Jvm.MethodName))).before a0 Z = true := hG.1 _ (List.mem_of_getElem? (i := 40) rfl)
theorem w41 {a0 : Array Value} {Z : State} {EL : List (String × Nat)} (hG : oG a0 Z EL) : ((Jvm.Cond.instanceMethod ({ cls := "java/lang/String", name := "length", desc := "()I" } : Jvm.MethodName))).before a0 Z = true := hG.1 _ (List.mem_of_getElem? (i := 41) rfl)
theorem w42 {a0 : Array Value} {Z : State} {EL : List (String × Nat)} (hG : oG a0 Z EL) : ((Jvm.Cond.selects "java/lang/String" ({ cls := "java/lang/String", name := "length", desc := "()I" } : Jvm.MethodName) ({ cls := "java/lang/String", name := "length", desc := "()I" } : Jvm.MethodName))).before a0 Z = true := hG.1 _ (List.mem_of_getElem? (i := 42) rfl)
theorem w43 {a0 : Array Value} {Z : State} {EL : List (String × Nat)} (hG : oG a0 Z EL) : ((Jvm.Cond.code ({ cls := "java/lang/String", name := "length", desc := "()I" } : Jvm.MethodName) jdk_42_method_54_code (1 : Nat) (Option.some Jvm.ClassFile.FieldType.int))).before a0 Z = true := hG.1 _ (List.mem_of_getElem? (i := 43) rfl)
theorem w44 {a0 : Array Value} {Z : State} {EL : List (String × Nat)} (hG : oG a0 Z EL) : ((Jvm.Cond.methodLink "java/lang/String" (335 : Nat) ({ cls := "java/lang/String", name := "coder", desc := "()B" } : Jvm.MethodName))).before a0 Z = true := hG.1 _ (List.mem_of_getElem? (i := 44) rfl)
theorem w45 {a0 : Array Value} {Z : State} {EL : List (String × Nat)} (hG : oG a0 Z EL) : ((Jvm.Cond.declares ({ cls := "java/lang/String", name := "coder", desc := "()B" } : Jvm.MethodName))).before a0 Z = true := hG.1 _ (List.mem_of_getElem? (i := 45) rfl)
theorem w46 {a0 : Array Value} {Z : State} {EL : List (String × Nat)} (hG : oG a0 Z EL) : ((Jvm.Cond.instanceMethod ({ cls := "java/lang/String", name := "coder", desc := "()B" } : Jvm.MethodName))).before a0 Z = true := hG.1 _ (List.mem_of_getElem? (i := 46) rfl)
theorem w47 {a0 : Array Value} {Z : State} {EL : List (String × Nat)} (hG : oG a0 Z EL) : ((Jvm.Cond.selects "java/lang/String" ({ cls := "java/lang/String", name := "coder", desc := "()B" } : Jvm.MethodName) ({ cls := "java/lang/String", name := "coder", desc := "()B" } : Jvm.MethodName))).before a0 Z = true := hG.1 _ (List.mem_of_getElem? (i := 47) rfl)
theorem w48 {a0 : Array Value} {Z : State} {EL : List (String × Nat)} (hG : oG a0 Z EL) : ((Jvm.Cond.code ({ cls := "java/lang/String", name := "coder", desc := "()B" } : Jvm.MethodName) jdk_42_method_152_code (1 : Nat) (Option.some Jvm.ClassFile.FieldType.byte))).before a0 Z = true := hG.1 _ (List.mem_of_getElem? (i := 48) rfl)
theorem w49 {a0 : Array Value} {Z : State} {EL : List (String × Nat)} (hG : oG a0 Z EL) : ((Jvm.Cond.fieldLink "java/lang/String" (38 : Nat) "java/lang/String" "COMPACT_STRINGS" "Z")).before a0 Z = true := hG.1 _ (List.mem_of_getElem? (i := 49) rfl)
theorem w50 {a0 : Array Value} {Z : State} {EL : List (String × Nat)} (hG : oG a0 Z EL) : ((Jvm.Cond.methodLink "java/lang/String" (641 : Nat) ({ cls := "java/lang/String", name := "lastIndexOf", desc := "(II)I" } : Jvm.MethodName))).before a0 Z = true := hG.1 _ (List.mem_of_getElem? (i := 50) rfl)
theorem w51 {a0 : Array Value} {Z : State} {EL : List (String × Nat)} (hG : oG a0 Z EL) : ((Jvm.Cond.declares ({ cls := "java/lang/String", name := "lastIndexOf", desc := "(II)I" } : Jvm.MethodName))).before a0 Z = true := hG.1 _ (List.mem_of_getElem? (i := 51) rfl)
theorem w52 {a0 : Array Value} {Z : State} {EL : List (String × Nat)} (hG : oG a0 Z EL) : ((Jvm.Cond.instanceMethod ({ cls := "java/lang/String", name := "lastIndexOf", desc := "(II)I" } : Jvm.MethodName))).before a0 Z = true := hG.1 _ (List.mem_of_getElem? (i := 52) rfl)
theorem w53 {a0 : Array Value} {Z : State} {EL : List (String × Nat)} (hG : oG a0 Z EL) : ((Jvm.Cond.selects "java/lang/String" ({ cls := "java/lang/String", name := "lastIndexOf", desc := "(II)I" } : Jvm.MethodName) ({ cls := "java/lang/String", name := "lastIndexOf", desc := "(II)I" } : Jvm.MethodName))).before a0 Z = true := hG.1 _ (List.mem_of_getElem? (i := 53) rfl)
theorem w54 {a0 : Array Value} {Z : State} {EL : List (String × Nat)} (hG : oG a0 Z EL) : ((Jvm.Cond.code ({ cls := "java/lang/String", name := "lastIndexOf", desc := "(II)I" } : Jvm.MethodName) jdk_42_method_83_code (3 : Nat) (Option.some Jvm.ClassFile.FieldType.int))).before a0 Z = true := hG.1 _ (List.mem_of_getElem? (i := 54) rfl)
theorem w55 {a0 : Array Value} {Z : State} {EL : List (String × Nat)} (hG : oG a0 Z EL) : ((Jvm.Cond.methodLink "java/lang/String" (492 : Nat) ({ cls := "java/lang/String", name := "isLatin1", desc := "()Z" } : Jvm.MethodName))).before a0 Z = true := hG.1 _ (List.mem_of_getElem? (i := 55) rfl)
theorem w56 {a0 : Array Value} {Z : State} {EL : List (String × Nat)} (hG : oG a0 Z EL) : ((Jvm.Cond.declares ({ cls := "java/lang/String", name := "isLatin1", desc := "()Z" } : Jvm.MethodName))).before a0 Z = true := hG.1 _ (List.mem_of_getElem? (i := 56) rfl)
theorem w57 {a0 : Array Value} {Z : State} {EL : List (String × Nat)} (hG : oG a0 Z EL) : ((Jvm.Cond.instanceMethod ({ cls := "java/lang/String", name := "isLatin1", desc := "()Z" } : Jvm.MethodName))).before a0 Z = true := hG.1 _ (List.mem_of_getElem? (i := 57) rfl)
theorem w58 {a0 : Array Value} {Z : State} {EL : List (String × Nat)} (hG : oG a0 Z EL) : ((Jvm.Cond.selects "java/lang/String" ({ cls := "java/lang/String", name := "isLatin1", desc := "()Z" } : Jvm.MethodName) ({ cls := "java/lang/String", name := "isLatin1", desc := "()Z" } : Jvm.MethodName))).before a0 Z = true := hG.1 _ (List.mem_of_getElem? (i := 58) rfl)
theorem w59 {a0 : Array Value} {Z : State} {EL : List (String × Nat)} (hG : oG a0 Z EL) : ((Jvm.Cond.code ({ cls := "java/lang/String", name := "isLatin1", desc := "()Z" } : Jvm.MethodName) jdk_42_method_154_code (1 : Nat) (Option.some Jvm.ClassFile.FieldType.boolean))).before a0 Z = true := hG.1 _ (List.mem_of_getElem? (i := 59) rfl)
theorem w60 {a0 : Array Value} {Z : State} {EL : List (String × Nat)} (hG : oG a0 Z EL) : ((Jvm.Cond.methodLink "java/lang/String" (644 : Nat) ({ cls := "java/lang/StringLatin1", name := "lastIndexOf", desc := "([BII)I" } : Jvm.MethodName))).before a0 Z = true := hG.1 _ (List.mem_of_getElem? (i := 60) rfl)
theorem w61 {a0 : Array Value} {Z : State} {EL : List (String × Nat)} (hG : oG a0 Z EL) : ((Jvm.Cond.static ({ cls := "java/lang/StringLatin1", name := "lastIndexOf", desc := "([BII)I" } : Jvm.MethodName))).before a0 Z = true := hG.1 _ (List.mem_of_getElem? (i := 61) rfl)
theorem w62 {a0 : Array Value} {Z : State} {EL : List (String × Nat)} (hG : oG a0 Z EL) : ((Jvm.Cond.initialized "java/lang/StringLatin1")).before a0 Z = true := hG.1 _ (List.mem_of_getElem? (i := 62) rfl)
theorem w63 {a0 : Array Value} {Z : State} {EL : List (String × Nat)} (hG : oG a0 Z EL) : ((Jvm.Cond.code ({ cls := "java/lang/StringLatin1", name := "lastIndexOf", desc := "([BII)I" } : Jvm.MethodName) jdk_43_method_27_code (4 : Nat) (Option.some Jvm.ClassFile.FieldType.int))).before a0 Z = true := hG.1 _ (List.mem_of_getElem? (i := 63) rfl)
theorem w64 {a0 : Array Value} {Z : State} {EL : List (String × Nat)} (hG : oG a0 Z EL) : ((Jvm.Cond.methodLink "java/lang/StringLatin1" (88 : Nat) ({ cls := "java/lang/StringLatin1", name := "canEncode", desc := "(I)Z" } : Jvm.MethodName))).before a0 Z = true := hG.1 _ (List.mem_of_getElem? (i := 64) rfl)
theorem w65 {a0 : Array Value} {Z : State} {EL : List (String × Nat)} (hG : oG a0 Z EL) : ((Jvm.Cond.static ({ cls := "java/lang/StringLatin1", name := "canEncode", desc := "(I)Z" } : Jvm.MethodName))).before a0 Z = true := hG.1 _ (List.mem_of_getElem? (i := 65) rfl)
theorem w66 {a0 : Array Value} {Z : State} {EL : List (String × Nat)} (hG : oG a0 Z EL) : ((Jvm.Cond.code ({ cls := "java/lang/StringLatin1", name := "canEncode", desc := "(I)Z" } : Jvm.MethodName) jdk_43_method_4_code (1 : Nat) (Option.some Jvm.ClassFile.FieldType.boolean))).before a0 Z = true := hG.1 _ (List.mem_of_getElem? (i := 66) rfl)
theorem w67 {a0 : Array Value} {Z : State} {EL : List (String × Nat)} (hG : oG a0 Z EL) : ((Jvm.Cond.methodLink "java/lang/StringLatin1" (38 : Nat) ({ cls := "java/lang/Math", name := "min", desc := "(II)I" } : Jvm.MethodName))).before a0 Z = true := hG.1 _ (List.mem_of_getElem? (i := 67) rfl)
theorem w68 {a0 : Array Value} {Z : State} {EL : List (String × Nat)} (hG : oG a0 Z EL) : ((Jvm.Cond.static ({ cls := "java/lang/Math", name := "min", desc := "(II)I" } : Jvm.MethodName))).before a0 Z = true := hG.1 _ (List.mem_of_getElem? (i := 68) rfl)
theorem w69 {a0 : Array Value} {Z : State} {EL : List (String × Nat)} (hG : oG a0 Z EL) : ((Jvm.Cond.initialized "java/lang/Math")).before a0 Z = true := hG.1 _ (List.mem_of_getElem? (i := 69) rfl)
theorem w70 {a0 : Array Value} {Z : State} {EL : List (String × Nat)} (hG : oG a0 Z EL) : ((Jvm.Cond.code ({ cls := "java/lang/Math", name := "min", desc := "(II)I" } : Jvm.MethodName) jdk_29_method_69_code (2 : Nat) (Option.some Jvm.ClassFile.FieldType.int))).before a0 Z = true := hG.1 _ (List.mem_of_getElem? (i := 70) rfl)
theorem w71 {a0 : Array Value} {Z : State} {EL : List (String × Nat)} (hG : oG a0 Z EL) : ((Jvm.Cond.methodLink "com/example/recital/recital/Numeral" (103 : Nat) ({ cls := "java/lang/String", name := "substring", desc := "(II)Ljava/lang/String;" } : Jvm.MethodName))).before a0 Z = true := hG.1 _ (List.mem_of_getElem? (i := 71) rfl)
theorem w72 {a0 : Array Value} {Z : State} {EL : List (String × Nat)} (hG : oG a0 Z EL) : ((Jvm.Cond.declares ({ cls := "java/lang/String", name := "substring", desc := "(II)Ljava/lang/String;" } : Jvm.MethodName))).before a0 Z = true := hG.1 _ (List.mem_of_getElem? (i := 72) rfl)
theorem w73 {a0 : Array Value} {Z : State} {EL : List (String × Nat)} (hG : oG a0 Z EL) : ((Jvm.Cond.instanceMethod ({ cls := "java/lang/String", name := "substring", desc := "(II)Ljava/lang/String;" } : Jvm.MethodName))).before a0 Z = true := hG.1 _ (List.mem_of_getElem? (i := 73) rfl)
theorem w74 {a0 : Array Value} {Z : State} {EL : List (String × Nat)} (hG : oG a0 Z EL) : ((Jvm.Cond.selects "java/lang/String" ({ cls := "java/lang/String", name := "substring", desc := "(II)Ljava/lang/String;" } : Jvm.MethodName) ({ cls := "java/lang/String", name := "substring", desc := "(II)Ljava/lang/String;" } : Jvm.MethodName))).before a0 Z = true := hG.1 _ (List.mem_of_getElem? (i := 74) rfl)
theorem w75 {a0 : Array Value} {Z : State} {EL : List (String × Nat)} (hG : oG a0 Z EL) : ((Jvm.Cond.code ({ cls := "java/lang/String", name := "substring", desc := "(II)Ljava/lang/String;" } : Jvm.MethodName) jdk_42_method_92_code (5 : Nat) (Option.some (Jvm.ClassFile.FieldType.object "java/lang/String")))).before a0 Z = true := hG.1 _ (List.mem_of_getElem? (i := 75) rfl)
theorem w76 {a0 : Array Value} {Z : State} {EL : List (String × Nat)} (hG : oG a0 Z EL) : ((Jvm.Cond.methodLink "java/lang/String" (521 : Nat) ({ cls := "java/lang/String", name := "checkBoundsBeginEnd", desc := "(III)V" } : Jvm.MethodName))).before a0 Z = true := hG.1 _ (List.mem_of_getElem? (i := 76) rfl)
theorem w77 {a0 : Array Value} {Z : State} {EL : List (String × Nat)} (hG : oG a0 Z EL) : ((Jvm.Cond.static ({ cls := "java/lang/String", name := "checkBoundsBeginEnd", desc := "(III)V" } : Jvm.MethodName))).before a0 Z = true := hG.1 _ (List.mem_of_getElem? (i := 77) rfl)
theorem w78 {a0 : Array Value} {Z : State} {EL : List (String × Nat)} (hG : oG a0 Z EL) : ((Jvm.Cond.code ({ cls := "java/lang/String", name := "checkBoundsBeginEnd", desc := "(III)V" } : Jvm.MethodName) jdk_42_method_158_code (3 : Nat) (Option.none : Option Jvm.ClassFile.FieldType))).before a0 Z = true := hG.1 _ (List.mem_of_getElem? (i := 78) rfl)
theorem w79 {a0 : Array Value} {Z : State} {EL : List (String × Nat)} (hG : oG a0 Z EL) : ((Jvm.Cond.fieldLink "java/lang/String" (1053 : Nat) "jdk/internal/util/Preconditions" "SIOOBE_FORMATTER" "Ljava/util/function/BiFunction;")).before a0 Z = true := hG.1 _ (List.mem_of_getElem? (i := 79) rfl)
theorem w80 {a0 : Array Value} {Z : State} {EL : List (String × Nat)} (hG : oG a0 Z EL) : ((Jvm.Cond.initialized "jdk/internal/util/Preconditions")).before a0 Z = true := hG.1 _ (List.mem_of_getElem? (i := 80) rfl)
theorem w81 {a0 : Array Value} {Z : State} {EL : List (String × Nat)} (hG : oG a0 Z EL) : ((Jvm.Cond.methodLink "java/lang/String" (1062 : Nat) ({ cls := "jdk/internal/util/Preconditions", name := "checkFromToIndex", desc := "(IIILjava/util/function/BiFunction;)I" } : Jvm.MethodName))).before a0 Z = true := hG.1 _ (List.mem_of_getElem? (i := 81) rfl)
theorem w82 {a0 : Array Value} {Z : State} {EL : List (String × Nat)} (hG : oG a0 Z EL) : ((Jvm.Cond.static ({ cls := "jdk/internal/util/Preconditions", name := "checkFromToIndex", desc := "(IIILjava/util/function/BiFunction;)I" } : Jvm.MethodName))).before a0 Z = true := hG.1 _ (List.mem_of_getElem? (i := 82) rfl)
theorem w83 {a0 : Array Value} {Z : State} {EL : List (String × Nat)} (hG : oG a0 Z EL) : ((Jvm.Cond.code ({ cls := "jdk/internal/util/Preconditions", name := "checkFromToIndex", desc := "(IIILjava/util/function/BiFunction;)I" } : Jvm.MethodName) jdk_41_method_12_code (4 : Nat) (Option.some Jvm.ClassFile.FieldType.int))).before a0 Z = true := hG.1 _ (List.mem_of_getElem? (i := 83) rfl)
theorem w84 {a0 : Array Value} {Z : State} {EL : List (String × Nat)} (hG : oG a0 Z EL) : ((Jvm.Cond.methodLink "com/example/recital/recital/NumeralPrefixPinLaw" (24 : Nat) ({ cls := "java/lang/String", name := "length", desc := "()I" } : Jvm.MethodName))).before a0 Z = true := hG.1 _ (List.mem_of_getElem? (i := 84) rfl)
theorem w85 {a0 : Array Value} {Z : State} {EL : List (String × Nat)} (hG : oG a0 Z EL) : ((Jvm.Cond.methodLink "com/example/recital/recital/NumeralPrefixPinLaw" (30 : Nat) ({ cls := "com/example/recital/recital/NumeralPrefixPinLaw", name := "same", desc := "(Ljava/lang/String;IIC)Z" } : Jvm.MethodName))).before a0 Z = true := hG.1 _ (List.mem_of_getElem? (i := 85) rfl)
theorem w86 {a0 : Array Value} {Z : State} {EL : List (String × Nat)} (hG : oG a0 Z EL) : ((Jvm.Cond.static ({ cls := "com/example/recital/recital/NumeralPrefixPinLaw", name := "same", desc := "(Ljava/lang/String;IIC)Z" } : Jvm.MethodName))).before a0 Z = true := hG.1 _ (List.mem_of_getElem? (i := 86) rfl)
theorem w87 {a0 : Array Value} {Z : State} {EL : List (String × Nat)} (hG : oG a0 Z EL) : ((Jvm.Cond.code ({ cls := "com/example/recital/recital/NumeralPrefixPinLaw", name := "same", desc := "(Ljava/lang/String;IIC)Z" } : Jvm.MethodName) method_3_code (4 : Nat) (Option.some Jvm.ClassFile.FieldType.boolean))).before a0 Z = true := hG.1 _ (List.mem_of_getElem? (i := 87) rfl)
theorem w88 {a0 : Array Value} {Z : State} {EL : List (String × Nat)} (hG : oG a0 Z EL) : ((Jvm.Cond.methodLink "java/lang/String" (177 : Nat) ({ cls := "java/lang/StringUTF16", name := "compress", desc := "([CII)[B" } : Jvm.MethodName))).before a0 Z = true := hG.1 _ (List.mem_of_getElem? (i := 88) rfl)
theorem w89 {a0 : Array Value} {Z : State} {EL : List (String × Nat)} (hG : oG a0 Z EL) : ((Jvm.Cond.static ({ cls := "java/lang/StringUTF16", name := "compress", desc := "([CII)[B" } : Jvm.MethodName))).before a0 Z = true := hG.1 _ (List.mem_of_getElem? (i := 89) rfl)
theorem w90 {a0 : Array Value} {Z : State} {EL : List (String × Nat)} (hG : oG a0 Z EL) : ((Jvm.Cond.initialized "java/lang/StringUTF16")).before a0 Z = true := hG.1 _ (List.mem_of_getElem? (i := 90) rfl)
theorem w91 {a0 : Array Value} {Z : State} {EL : List (String × Nat)} (hG : oG a0 Z EL) : ((Jvm.Cond.code ({ cls := "java/lang/StringUTF16", name := "compress", desc := "([CII)[B" } : Jvm.MethodName) jdk_52_method_16_code (6 : Nat) (Option.some (Jvm.ClassFile.FieldType.array Jvm.ClassFile.FieldType.byte)))).before a0 Z = true := hG.1 _ (List.mem_of_getElem? (i := 91) rfl)
theorem w92 {a0 : Array Value} {Z : State} {EL : List (String × Nat)} (hG : oG a0 Z EL) : ((Jvm.Cond.methodLink "java/lang/StringUTF16" (115 : Nat) ({ cls := "java/lang/StringUTF16", name := "compress", desc := "([CI[BII)I" } : Jvm.MethodName))).before a0 Z = true := hG.1 _ (List.mem_of_getElem? (i := 92) rfl)
theorem w93 {a0 : Array Value} {Z : State} {EL : List (String × Nat)} (hG : oG a0 Z EL) : ((Jvm.Cond.static ({ cls := "java/lang/StringUTF16", name := "compress", desc := "([CI[BII)I" } : Jvm.MethodName))).before a0 Z = true := hG.1 _ (List.mem_of_getElem? (i := 93) rfl)
theorem w94 {a0 : Array Value} {Z : State} {EL : List (String × Nat)} (hG : oG a0 Z EL) : ((Jvm.Cond.code ({ cls := "java/lang/StringUTF16", name := "compress", desc := "([CI[BII)I" } : Jvm.MethodName) jdk_52_method_21_code (7 : Nat) (Option.some Jvm.ClassFile.FieldType.int))).before a0 Z = true := hG.1 _ (List.mem_of_getElem? (i := 94) rfl)
theorem w95 {a0 : Array Value} {Z : State} {EL : List (String × Nat)} (hG : oG a0 Z EL) : ((Jvm.Cond.methodLink "java/lang/String" (47 : Nat) ({ cls := "java/lang/StringUTF16", name := "coderFromArrayLen", desc := "([BI)B" } : Jvm.MethodName))).before a0 Z = true := hG.1 _ (List.mem_of_getElem? (i := 95) rfl)
theorem w96 {a0 : Array Value} {Z : State} {EL : List (String × Nat)} (hG : oG a0 Z EL) : ((Jvm.Cond.static ({ cls := "java/lang/StringUTF16", name := "coderFromArrayLen", desc := "([BI)B" } : Jvm.MethodName))).before a0 Z = true := hG.1 _ (List.mem_of_getElem? (i := 96) rfl)
theorem w97 {a0 : Array Value} {Z : State} {EL : List (String × Nat)} (hG : oG a0 Z EL) : ((Jvm.Cond.code ({ cls := "java/lang/StringUTF16", name := "coderFromArrayLen", desc := "([BI)B" } : Jvm.MethodName) jdk_52_method_15_code (2 : Nat) (Option.some Jvm.ClassFile.FieldType.byte))).before a0 Z = true := hG.1 _ (List.mem_of_getElem? (i := 97) rfl)
theorem w98 {a0 : Array Value} {Z : State} {EL : List (String × Nat)} (hG : oG a0 Z EL) : ((Jvm.Cond.methodLink "java/lang/String" (685 : Nat) ({ cls := "java/lang/StringLatin1", name := "newString", desc := "([BII)Ljava/lang/String;" } : Jvm.MethodName))).before a0 Z = true := hG.1 _ (List.mem_of_getElem? (i := 98) rfl)
theorem w99 {a0 : Array Value} {Z : State} {EL : List (String × Nat)} (hG : oG a0 Z EL) : ((Jvm.Cond.static ({ cls := "java/lang/StringLatin1", name := "newString", desc := "([BII)Ljava/lang/String;" } : Jvm.MethodName))).before a0 Z = true := hG.1 _ (List.mem_of_getElem? (i := 99) rfl)
theorem w100 {a0 : Array Value} {Z : State} {EL : List (String × Nat)} (hG : oG a0 Z EL) : ((Jvm.Cond.code ({ cls := "java/lang/StringLatin1", name := "newString", desc := "([BII)Ljava/lang/String;" } : Jvm.MethodName) jdk_43_method_47_code (3 : Nat) (Option.some (Jvm.ClassFile.FieldType.object "java/lang/String")))).before a0 Z = true := hG.1 _ (List.mem_of_getElem? (i := 100) rfl)
theorem w101 {a0 : Array Value} {Z : State} {EL : List (String × Nat)} (hG : oG a0 Z EL) : ((Jvm.Cond.stringLink "java/lang/StringLatin1" (151 : Nat) "")).before a0 Z = true := hG.1 _ (List.mem_of_getElem? (i := 101) rfl)
theorem w102 {a0 : Array Value} {Z : State} {EL : List (String × Nat)} (hG : oG a0 Z EL) : ((Jvm.Cond.methodLink "com/example/recital/recital/NumeralPrefixPinLaw" (34 : Nat) ({ cls := "java/lang/String", name := "charAt", desc := "(I)C" } : Jvm.MethodName))).before a0 Z = true := hG.1 _ (List.mem_of_getElem? (i := 102) rfl)
theorem w103 {a0 : Array Value} {Z : State} {EL : List (String × Nat)} (hG : oG a0 Z EL) : ((Jvm.Cond.declares ({ cls := "java/lang/String", name := "charAt", desc := "(I)C" } : Jvm.MethodName))).before a0 Z = true := hG.1 _ (List.mem_of_getElem? (i := 103) rfl)
theorem w104 {a0 : Array Value} {Z : State} {EL : List (String × Nat)} (hG : oG a0 Z EL) : ((Jvm.Cond.instanceMethod ({ cls := "java/lang/String", name := "charAt", desc := "(I)C" } : Jvm.MethodName))).before a0 Z = true := hG.1 _ (List.mem_of_getElem? (i := 104) rfl)
theorem w105 {a0 : Array Value} {Z : State} {EL : List (String × Nat)} (hG : oG a0 Z EL) : ((Jvm.Cond.selects "java/lang/String" ({ cls := "java/lang/String", name := "charAt", desc := "(I)C" } : Jvm.MethodName) ({ cls := "java/lang/String", name := "charAt", desc := "(I)C" } : Jvm.MethodName))).before a0 Z = true := hG.1 _ (List.mem_of_getElem? (i := 105) rfl)
theorem w106 {a0 : Array Value} {Z : State} {EL : List (String × Nat)} (hG : oG a0 Z EL) : ((Jvm.Cond.code ({ cls := "java/lang/String", name := "charAt", desc := "(I)C" } : Jvm.MethodName) jdk_42_method_56_code (2 : Nat) (Option.some Jvm.ClassFile.FieldType.char))).before a0 Z = true := hG.1 _ (List.mem_of_getElem? (i := 106) rfl)
theorem w107 {a0 : Array Value} {Z : State} {EL : List (String × Nat)} (hG : oG a0 Z EL) : ((Jvm.Cond.methodLink "java/lang/String" (495 : Nat) ({ cls := "java/lang/StringLatin1", name := "charAt", desc := "([BI)C" } : Jvm.MethodName))).before a0 Z = true := hG.1 _ (List.mem_of_getElem? (i := 107) rfl)
theorem w108 {a0 : Array Value} {Z : State} {EL : List (String × Nat)} (hG : oG a0 Z EL) : ((Jvm.Cond.static ({ cls := "java/lang/StringLatin1", name := "charAt", desc := "([BI)C" } : Jvm.MethodName))).before a0 Z = true := hG.1 _ (List.mem_of_getElem? (i := 108) rfl)
theorem w109 {a0 : Array Value} {Z : State} {EL : List (String × Nat)} (hG : oG a0 Z EL) : ((Jvm.Cond.code ({ cls := "java/lang/StringLatin1", name := "charAt", desc := "([BI)C" } : Jvm.MethodName) jdk_43_method_2_code (2 : Nat) (Option.some Jvm.ClassFile.FieldType.char))).before a0 Z = true := hG.1 _ (List.mem_of_getElem? (i := 109) rfl)
theorem w110 {a0 : Array Value} {Z : State} {EL : List (String × Nat)} (hG : oG a0 Z EL) : ((Jvm.Cond.methodLink "java/lang/StringLatin1" (9 : Nat) ({ cls := "java/lang/String", name := "checkIndex", desc := "(II)V" } : Jvm.MethodName))).before a0 Z = true := hG.1 _ (List.mem_of_getElem? (i := 110) rfl)
theorem w111 {a0 : Array Value} {Z : State} {EL : List (String × Nat)} (hG : oG a0 Z EL) : ((Jvm.Cond.static ({ cls := "java/lang/String", name := "checkIndex", desc := "(II)V" } : Jvm.MethodName))).before a0 Z = true := hG.1 _ (List.mem_of_getElem? (i := 111) rfl)
theorem w112 {a0 : Array Value} {Z : State} {EL : List (String × Nat)} (hG : oG a0 Z EL) : ((Jvm.Cond.code ({ cls := "java/lang/String", name := "checkIndex", desc := "(II)V" } : Jvm.MethodName) jdk_42_method_155_code (2 : Nat) (Option.none : Option Jvm.ClassFile.FieldType))).before a0 Z = true := hG.1 _ (List.mem_of_getElem? (i := 112) rfl)
theorem w113 {a0 : Array Value} {Z : State} {EL : List (String × Nat)} (hG : oG a0 Z EL) : ((Jvm.Cond.methodLink "java/lang/String" (1059 : Nat) ({ cls := "jdk/internal/util/Preconditions", name := "checkIndex", desc := "(IILjava/util/function/BiFunction;)I" } : Jvm.MethodName))).before a0 Z = true := hG.1 _ (List.mem_of_getElem? (i := 113) rfl)
theorem w114 {a0 : Array Value} {Z : State} {EL : List (String × Nat)} (hG : oG a0 Z EL) : ((Jvm.Cond.static ({ cls := "jdk/internal/util/Preconditions", name := "checkIndex", desc := "(IILjava/util/function/BiFunction;)I" } : Jvm.MethodName))).before a0 Z = true := hG.1 _ (List.mem_of_getElem? (i := 114) rfl)
theorem w115 {a0 : Array Value} {Z : State} {EL : List (String × Nat)} (hG : oG a0 Z EL) : ((Jvm.Cond.code ({ cls := "jdk/internal/util/Preconditions", name := "checkIndex", desc := "(IILjava/util/function/BiFunction;)I" } : Jvm.MethodName) jdk_41_method_11_code (3 : Nat) (Option.some Jvm.ClassFile.FieldType.int))).before a0 Z = true := hG.1 _ (List.mem_of_getElem? (i := 115) rfl)
theorem w116 {a0 : Array Value} {Z : State} {EL : List (String × Nat)} (hG : oG a0 Z EL) : ((Jvm.Cond.classLink "java/lang/StringLatin1" (1 : Nat) "java/lang/String")).before a0 Z = true := hG.1 _ (List.mem_of_getElem? (i := 116) rfl)
theorem w117 {a0 : Array Value} {Z : State} {EL : List (String × Nat)} (hG : oG a0 Z EL) : ((Jvm.Cond.methodLink "java/lang/StringLatin1" (232 : Nat) ({ cls := "java/util/Arrays", name := "copyOfRange", desc := "([BII)[B" } : Jvm.MethodName))).before a0 Z = true := hG.1 _ (List.mem_of_getElem? (i := 117) rfl)
theorem w118 {a0 : Array Value} {Z : State} {EL : List (String × Nat)} (hG : oG a0 Z EL) : ((Jvm.Cond.static ({ cls := "java/util/Arrays", name := "copyOfRange", desc := "([BII)[B" } : Jvm.MethodName))).before a0 Z = true := hG.1 _ (List.mem_of_getElem? (i := 118) rfl)
theorem w119 {a0 : Array Value} {Z : State} {EL : List (String × Nat)} (hG : oG a0 Z EL) : ((Jvm.Cond.initialized "java/util/Arrays")).before a0 Z = true := hG.1 _ (List.mem_of_getElem? (i := 119) rfl)
theorem w120 {a0 : Array Value} {Z : State} {EL : List (String × Nat)} (hG : oG a0 Z EL) : ((Jvm.Cond.code ({ cls := "java/util/Arrays", name := "copyOfRange", desc := "([BII)[B" } : Jvm.MethodName) jdk_65_method_132_code (3 : Nat) (Option.some (Jvm.ClassFile.FieldType.array Jvm.ClassFile.FieldType.byte)))).before a0 Z = true := hG.1 _ (List.mem_of_getElem? (i := 120) rfl)
theorem w121 {a0 : Array Value} {Z : State} {EL : List (String × Nat)} (hG : oG a0 Z EL) : ((Jvm.Cond.methodLink "java/util/Arrays" (339 : Nat) ({ cls := "java/util/Arrays", name := "copyOfRangeByte", desc := "([BII)[B" } : Jvm.MethodName))).before a0 Z = true := hG.1 _ (List.mem_of_getElem? (i := 121) rfl)
theorem w122 {a0 : Array Value} {Z : State} {EL : List (String × Nat)} (hG : oG a0 Z EL) : ((Jvm.Cond.static ({ cls := "java/util/Arrays", name := "copyOfRangeByte", desc := "([BII)[B" } : Jvm.MethodName))).before a0 Z = true := hG.1 _ (List.mem_of_getElem? (i := 122) rfl)
theorem w123 {a0 : Array Value} {Z : State} {EL : List (String × Nat)} (hG : oG a0 Z EL) : ((Jvm.Cond.code ({ cls := "java/util/Arrays", name := "copyOfRangeByte", desc := "([BII)[B" } : Jvm.MethodName) jdk_65_method_133_code (5 : Nat) (Option.some (Jvm.ClassFile.FieldType.array Jvm.ClassFile.FieldType.byte)))).before a0 Z = true := hG.1 _ (List.mem_of_getElem? (i := 123) rfl)
theorem w124 {a0 : Array Value} {Z : State} {EL : List (String × Nat)} (hG : oG a0 Z EL) : ((Jvm.Cond.methodLink "java/util/Arrays" (343 : Nat) ({ cls := "java/util/Arrays", name := "checkLength", desc := "(II)V" } : Jvm.MethodName))).before a0 Z = true := hG.1 _ (List.mem_of_getElem? (i := 124) rfl)
theorem w125 {a0 : Array Value} {Z : State} {EL : List (String × Nat)} (hG : oG a0 Z EL) : ((Jvm.Cond.static ({ cls := "java/util/Arrays", name := "checkLength", desc := "(II)V" } : Jvm.MethodName))).before a0 Z = true := hG.1 _ (List.mem_of_getElem? (i := 125) rfl)
theorem w126 {a0 : Array Value} {Z : State} {EL : List (String × Nat)} (hG : oG a0 Z EL) : ((Jvm.Cond.code ({ cls := "java/util/Arrays", name := "checkLength", desc := "(II)V" } : Jvm.MethodName) jdk_65_method_131_code (2 : Nat) (Option.none : Option Jvm.ClassFile.FieldType))).before a0 Z = true := hG.1 _ (List.mem_of_getElem? (i := 126) rfl)
theorem w127 {a0 : Array Value} {Z : State} {EL : List (String × Nat)} (hG : oG a0 Z EL) : ((Jvm.Cond.methodLink "java/util/Arrays" (304 : Nat) ({ cls := "java/lang/Math", name := "min", desc := "(II)I" } : Jvm.MethodName))).before a0 Z = true := hG.1 _ (List.mem_of_getElem? (i := 127) rfl)
theorem w128 {a0 : Array Value} {Z : State} {EL : List (String × Nat)} (hG : oG a0 Z EL) : ((Jvm.Cond.methodLink "java/util/Arrays" (150 : Nat) ({ cls := "java/lang/System", name := "arraycopy", desc := "(Ljava/lang/Object;ILjava/lang/Object;II)V" } : Jvm.MethodName))).before a0 Z = true := hG.1 _ (List.mem_of_getElem? (i := 128) rfl)
theorem w129 {a0 : Array Value} {Z : State} {EL : List (String × Nat)} (hG : oG a0 Z EL) : ((Jvm.Cond.static ({ cls := "java/lang/System", name := "arraycopy", desc := "(Ljava/lang/Object;ILjava/lang/Object;II)V" } : Jvm.MethodName))).before a0 Z = true := hG.1 _ (List.mem_of_getElem? (i := 129) rfl)
theorem w130 {a0 : Array Value} {Z : State} {EL : List (String × Nat)} (hG : oG a0 Z EL) : ((Jvm.Cond.initialized "java/lang/System")).before a0 Z = true := hG.1 _ (List.mem_of_getElem? (i := 130) rfl)
theorem w131 {a0 : Array Value} {Z : State} {EL : List (String × Nat)} (hG : oG a0 Z EL) : ((Jvm.Cond.native ({ cls := "java/lang/System", name := "arraycopy", desc := "(Ljava/lang/Object;ILjava/lang/Object;II)V" } : Jvm.MethodName))).before a0 Z = true := hG.1 _ (List.mem_of_getElem? (i := 131) rfl)
theorem w132 {a0 : Array Value} {Z : State} {EL : List (String × Nat)} (hG : oG a0 Z EL) : ((Jvm.Cond.methodLink "java/lang/StringLatin1" (112 : Nat) ({ cls := "java/lang/String", name := "<init>", desc := "([BB)V" } : Jvm.MethodName))).before a0 Z = true := hG.1 _ (List.mem_of_getElem? (i := 132) rfl)
theorem w133 {a0 : Array Value} {Z : State} {EL : List (String × Nat)} (hG : oG a0 Z EL) : ((Jvm.Cond.instanceMethod ({ cls := "java/lang/String", name := "<init>", desc := "([BB)V" } : Jvm.MethodName))).before a0 Z = true := hG.1 _ (List.mem_of_getElem? (i := 133) rfl)
theorem w134 {a0 : Array Value} {Z : State} {EL : List (String × Nat)} (hG : oG a0 Z EL) : ((Jvm.Cond.code ({ cls := "java/lang/String", name := "<init>", desc := "([BB)V" } : Jvm.MethodName) jdk_42_method_151_code (3 : Nat) (Option.none : Option Jvm.ClassFile.FieldType))).before a0 Z = true := hG.1 _ (List.mem_of_getElem? (i := 134) rfl)
theorem strAt {a0 : Array Value} {Z : State} {EL : List (String × Nat)} (hG : oG a0 Z EL) : ∀ a ∈ Bundle.stringAtoms, a.before a0 Z = true := by
  intro a ha
  simp only [Bundle.stringAtoms, Bundle.sN, List.mem_cons, List.not_mem_nil, or_false] at ha
  rcases ha with rfl | rfl | rfl | rfl | rfl | rfl | rfl
  · exact w10 hG
  · exact w9 hG
  · exact w23 hG
  · exact w24 hG
  · exact w25 hG
  · exact w26 hG
  · exact w27 hG
theorem d1_0 : decode method_4_code 0 = .ok (.iload_n 0, 1) := by decide +kernel
theorem d1_1 : decode method_4_code 1 = .ok (.sipush 256, 3) := by decide +kernel
theorem d1_4 : decode method_4_code 4 = .ok (.iand, 1) := by decide +kernel
theorem d1_5 : decode method_4_code 5 = .ok (.ifCond .eq 8, 3) := by decide +kernel
theorem d1_8 : decode method_4_code 8 = .ok (.bipush 46, 2) := by decide +kernel
theorem d1_10 : decode method_4_code 10 = .ok (.goto 9, 3) := by decide +kernel
theorem d1_13 : decode method_4_code 13 = .ok (.iload_n 0, 1) := by decide +kernel
theorem d1_14 : decode method_4_code 14 = .ok (.sipush 255, 3) := by decide +kernel
theorem d1_17 : decode method_4_code 17 = .ok (.iand, 1) := by decide +kernel
theorem d1_18 : decode method_4_code 18 = .ok (.i2c, 1) := by decide +kernel
theorem d1_19 : decode method_4_code 19 = .ok (.ireturn, 1) := by decide +kernel
theorem d2_0 : decode method_5_code 0 = .ok (.iload_n 0, 1) := by decide +kernel
theorem d2_1 : decode method_5_code 1 = .ok (.ifCond .ne 14, 3) := by decide +kernel
theorem d2_4 : decode method_5_code 4 = .ok (.new 25, 3) := by decide +kernel
theorem d2_7 : decode method_5_code 7 = .ok (.dup, 1) := by decide +kernel
theorem d2_8 : decode method_5_code 8 = .ok (.iconst 0, 1) := by decide +kernel
theorem d2_9 : decode method_5_code 9 = .ok (.newarray .char, 2) := by decide +kernel
theorem d2_11 : decode method_5_code 11 = .ok (.invokespecial 37, 3) := by decide +kernel
theorem d2_14 : decode method_5_code 14 = .ok (.areturn, 1) := by decide +kernel
theorem d2_15 : decode method_5_code 15 = .ok (.iload_n 0, 1) := by decide +kernel
theorem d2_16 : decode method_5_code 16 = .ok (.iconst 1, 1) := by decide +kernel
theorem d2_17 : decode method_5_code 17 = .ok (.if_icmp .ne 18, 3) := by decide +kernel
theorem d2_20 : decode method_5_code 20 = .ok (.new 25, 3) := by decide +kernel
theorem d2_23 : decode method_5_code 23 = .ok (.dup, 1) := by decide +kernel
theorem d2_24 : decode method_5_code 24 = .ok (.iconst 1, 1) := by decide +kernel
theorem d2_25 : decode method_5_code 25 = .ok (.newarray .char, 2) := by decide +kernel
theorem d2_27 : decode method_5_code 27 = .ok (.dup, 1) := by decide +kernel
theorem d2_28 : decode method_5_code 28 = .ok (.iconst 0, 1) := by decide +kernel
theorem d2_29 : decode method_5_code 29 = .ok (.iload_n 1, 1) := by decide +kernel
theorem d2_30 : decode method_5_code 30 = .ok (.castore, 1) := by decide +kernel
theorem d2_31 : decode method_5_code 31 = .ok (.invokespecial 37, 3) := by decide +kernel
theorem d2_34 : decode method_5_code 34 = .ok (.areturn, 1) := by decide +kernel
theorem d2_35 : decode method_5_code 35 = .ok (.iload_n 0, 1) := by decide +kernel
theorem d2_36 : decode method_5_code 36 = .ok (.iconst 2, 1) := by decide +kernel
theorem d2_37 : decode method_5_code 37 = .ok (.if_icmp .ne 22, 3) := by decide +kernel
theorem d2_40 : decode method_5_code 40 = .ok (.new 25, 3) := by decide +kernel
theorem d2_43 : decode method_5_code 43 = .ok (.dup, 1) := by decide +kernel
theorem d2_44 : decode method_5_code 44 = .ok (.iconst 2, 1) := by decide +kernel
theorem d2_45 : decode method_5_code 45 = .ok (.newarray .char, 2) := by decide +kernel
theorem d2_47 : decode method_5_code 47 = .ok (.dup, 1) := by decide +kernel
theorem d2_48 : decode method_5_code 48 = .ok (.iconst 0, 1) := by decide +kernel
theorem d2_49 : decode method_5_code 49 = .ok (.iload_n 1, 1) := by decide +kernel
theorem d2_50 : decode method_5_code 50 = .ok (.castore, 1) := by decide +kernel
theorem d2_51 : decode method_5_code 51 = .ok (.dup, 1) := by decide +kernel
theorem d2_52 : decode method_5_code 52 = .ok (.iconst 1, 1) := by decide +kernel
theorem d2_53 : decode method_5_code 53 = .ok (.iload_n 2, 1) := by decide +kernel
theorem d2_54 : decode method_5_code 54 = .ok (.castore, 1) := by decide +kernel
theorem d2_55 : decode method_5_code 55 = .ok (.invokespecial 37, 3) := by decide +kernel
theorem d2_58 : decode method_5_code 58 = .ok (.areturn, 1) := by decide +kernel
theorem d2_59 : decode method_5_code 59 = .ok (.iload_n 0, 1) := by decide +kernel
theorem d2_60 : decode method_5_code 60 = .ok (.iconst 3, 1) := by decide +kernel
theorem d2_61 : decode method_5_code 61 = .ok (.if_icmp .ne 26, 3) := by decide +kernel
theorem d2_64 : decode method_5_code 64 = .ok (.new 25, 3) := by decide +kernel
theorem d2_67 : decode method_5_code 67 = .ok (.dup, 1) := by decide +kernel
theorem d2_68 : decode method_5_code 68 = .ok (.iconst 3, 1) := by decide +kernel
theorem d2_69 : decode method_5_code 69 = .ok (.newarray .char, 2) := by decide +kernel
theorem d2_71 : decode method_5_code 71 = .ok (.dup, 1) := by decide +kernel
theorem d2_72 : decode method_5_code 72 = .ok (.iconst 0, 1) := by decide +kernel
theorem d2_73 : decode method_5_code 73 = .ok (.iload_n 1, 1) := by decide +kernel
theorem d2_74 : decode method_5_code 74 = .ok (.castore, 1) := by decide +kernel
theorem d2_75 : decode method_5_code 75 = .ok (.dup, 1) := by decide +kernel
theorem d2_76 : decode method_5_code 76 = .ok (.iconst 1, 1) := by decide +kernel
theorem d2_77 : decode method_5_code 77 = .ok (.iload_n 2, 1) := by decide +kernel
theorem d2_78 : decode method_5_code 78 = .ok (.castore, 1) := by decide +kernel
theorem d2_79 : decode method_5_code 79 = .ok (.dup, 1) := by decide +kernel
theorem d2_80 : decode method_5_code 80 = .ok (.iconst 2, 1) := by decide +kernel
theorem d2_81 : decode method_5_code 81 = .ok (.iload_n 3, 1) := by decide +kernel
theorem d2_82 : decode method_5_code 82 = .ok (.castore, 1) := by decide +kernel
theorem d2_83 : decode method_5_code 83 = .ok (.invokespecial 37, 3) := by decide +kernel
theorem d2_86 : decode method_5_code 86 = .ok (.areturn, 1) := by decide +kernel
theorem d2_87 : decode method_5_code 87 = .ok (.new 25, 3) := by decide +kernel
theorem d2_90 : decode method_5_code 90 = .ok (.dup, 1) := by decide +kernel
theorem d2_91 : decode method_5_code 91 = .ok (.iconst 4, 1) := by decide +kernel
theorem d2_92 : decode method_5_code 92 = .ok (.newarray .char, 2) := by decide +kernel
theorem d2_94 : decode method_5_code 94 = .ok (.dup, 1) := by decide +kernel
theorem d2_95 : decode method_5_code 95 = .ok (.iconst 0, 1) := by decide +kernel
theorem d2_96 : decode method_5_code 96 = .ok (.iload_n 1, 1) := by decide +kernel
theorem d2_97 : decode method_5_code 97 = .ok (.castore, 1) := by decide +kernel
theorem d2_98 : decode method_5_code 98 = .ok (.dup, 1) := by decide +kernel
theorem d2_99 : decode method_5_code 99 = .ok (.iconst 1, 1) := by decide +kernel
theorem d2_100 : decode method_5_code 100 = .ok (.iload_n 2, 1) := by decide +kernel
theorem d2_101 : decode method_5_code 101 = .ok (.castore, 1) := by decide +kernel
theorem d2_102 : decode method_5_code 102 = .ok (.dup, 1) := by decide +kernel
theorem d2_103 : decode method_5_code 103 = .ok (.iconst 2, 1) := by decide +kernel
theorem d2_104 : decode method_5_code 104 = .ok (.iload_n 3, 1) := by decide +kernel
theorem d2_105 : decode method_5_code 105 = .ok (.castore, 1) := by decide +kernel
theorem d2_106 : decode method_5_code 106 = .ok (.dup, 1) := by decide +kernel
theorem d2_107 : decode method_5_code 107 = .ok (.iconst 3, 1) := by decide +kernel
theorem d2_108 : decode method_5_code 108 = .ok (.iload 4, 2) := by decide +kernel
theorem d2_110 : decode method_5_code 110 = .ok (.castore, 1) := by decide +kernel
theorem d2_111 : decode method_5_code 111 = .ok (.invokespecial 37, 3) := by decide +kernel
theorem d2_114 : decode method_5_code 114 = .ok (.areturn, 1) := by decide +kernel
theorem d3_0 : decode jdk_42_method_3_code 0 = .ok (.aload_n 0, 1) := by decide +kernel
theorem d3_1 : decode jdk_42_method_3_code 1 = .ok (.aload_n 1, 1) := by decide +kernel
theorem d3_2 : decode jdk_42_method_3_code 2 = .ok (.iconst 0, 1) := by decide +kernel
theorem d3_3 : decode jdk_42_method_3_code 3 = .ok (.aload_n 1, 1) := by decide +kernel
theorem d3_4 : decode jdk_42_method_3_code 4 = .ok (.arraylength, 1) := by decide +kernel
theorem d3_5 : decode jdk_42_method_3_code 5 = .ok (.aconst_null, 1) := by decide +kernel
theorem d3_6 : decode jdk_42_method_3_code 6 = .ok (.invokespecial 27, 3) := by decide +kernel
theorem d3_9 : decode jdk_42_method_3_code 9 = .ok (.return_, 1) := by decide +kernel
theorem d4_0 : decode jdk_42_method_149_code 0 = .ok (.aload_n 0, 1) := by decide +kernel
theorem d4_1 : decode jdk_42_method_149_code 1 = .ok (.invokespecial 1, 3) := by decide +kernel
theorem d4_4 : decode jdk_42_method_149_code 4 = .ok (.iload_n 3, 1) := by decide +kernel
theorem d4_5 : decode jdk_42_method_149_code 5 = .ok (.ifCond .ne 22, 3) := by decide +kernel
theorem d4_8 : decode jdk_42_method_149_code 8 = .ok (.aload_n 0, 1) := by decide +kernel
theorem d4_9 : decode jdk_42_method_149_code 9 = .ok (.ldc 7, 2) := by decide +kernel
theorem d4_11 : decode jdk_42_method_149_code 11 = .ok (.getfield 9, 3) := by decide +kernel
theorem d4_14 : decode jdk_42_method_149_code 14 = .ok (.putfield 9, 3) := by decide +kernel
theorem d4_17 : decode jdk_42_method_149_code 17 = .ok (.aload_n 0, 1) := by decide +kernel
theorem d4_18 : decode jdk_42_method_149_code 18 = .ok (.ldc 7, 2) := by decide +kernel
theorem d4_20 : decode jdk_42_method_149_code 20 = .ok (.getfield 15, 3) := by decide +kernel
theorem d4_23 : decode jdk_42_method_149_code 23 = .ok (.putfield 15, 3) := by decide +kernel
theorem d4_26 : decode jdk_42_method_149_code 26 = .ok (.return_, 1) := by decide +kernel
theorem d4_27 : decode jdk_42_method_149_code 27 = .ok (.getstatic 38, 3) := by decide +kernel
theorem d4_30 : decode jdk_42_method_149_code 30 = .ok (.ifCond .eq 28, 3) := by decide +kernel
theorem d4_33 : decode jdk_42_method_149_code 33 = .ok (.aload_n 1, 1) := by decide +kernel
theorem d4_34 : decode jdk_42_method_149_code 34 = .ok (.iload_n 2, 1) := by decide +kernel
theorem d4_35 : decode jdk_42_method_149_code 35 = .ok (.iload_n 3, 1) := by decide +kernel
theorem d4_36 : decode jdk_42_method_149_code 36 = .ok (.invokestatic 177, 3) := by decide +kernel
theorem d4_39 : decode jdk_42_method_149_code 39 = .ok (.astore 5, 2) := by decide +kernel
theorem d4_41 : decode jdk_42_method_149_code 41 = .ok (.aload_n 0, 1) := by decide +kernel
theorem d4_42 : decode jdk_42_method_149_code 42 = .ok (.aload 5, 2) := by decide +kernel
theorem d4_44 : decode jdk_42_method_149_code 44 = .ok (.iload_n 3, 1) := by decide +kernel
theorem d4_45 : decode jdk_42_method_149_code 45 = .ok (.invokestatic 47, 3) := by decide +kernel
theorem d4_48 : decode jdk_42_method_149_code 48 = .ok (.putfield 15, 3) := by decide +kernel
theorem d4_51 : decode jdk_42_method_149_code 51 = .ok (.aload_n 0, 1) := by decide +kernel
theorem d4_52 : decode jdk_42_method_149_code 52 = .ok (.aload 5, 2) := by decide +kernel
theorem d4_54 : decode jdk_42_method_149_code 54 = .ok (.putfield 9, 3) := by decide +kernel
theorem d4_57 : decode jdk_42_method_149_code 57 = .ok (.return_, 1) := by decide +kernel
theorem d6_0 : decode prog_13_method_4_code 0 = .ok (.aload_n 0, 1) := by decide +kernel
theorem d6_1 : decode prog_13_method_4_code 1 = .ok (.iconst 0, 1) := by decide +kernel
theorem d6_2 : decode prog_13_method_4_code 2 = .ok (.aload_n 0, 1) := by decide +kernel
theorem d6_3 : decode prog_13_method_4_code 3 = .ok (.bipush 46, 2) := by decide +kernel
theorem d6_5 : decode prog_13_method_4_code 5 = .ok (.invokevirtual 93, 3) := by decide +kernel
theorem d6_8 : decode prog_13_method_4_code 8 = .ok (.iconst 1, 1) := by decide +kernel
theorem d6_9 : decode prog_13_method_4_code 9 = .ok (.iadd, 1) := by decide +kernel
theorem d6_10 : decode prog_13_method_4_code 10 = .ok (.invokevirtual 103, 3) := by decide +kernel
theorem d6_13 : decode prog_13_method_4_code 13 = .ok (.areturn, 1) := by decide +kernel
theorem d7_0 : decode jdk_42_method_82_code 0 = .ok (.aload_n 0, 1) := by decide +kernel
theorem d7_1 : decode jdk_42_method_82_code 1 = .ok (.iload_n 1, 1) := by decide +kernel
theorem d7_2 : decode jdk_42_method_82_code 2 = .ok (.aload_n 0, 1) := by decide +kernel
theorem d7_3 : decode jdk_42_method_82_code 3 = .ok (.invokevirtual 505, 3) := by decide +kernel
theorem d7_6 : decode jdk_42_method_82_code 6 = .ok (.iconst 1, 1) := by decide +kernel
theorem d7_7 : decode jdk_42_method_82_code 7 = .ok (.isub, 1) := by decide +kernel
theorem d7_8 : decode jdk_42_method_82_code 8 = .ok (.invokevirtual 641, 3) := by decide +kernel
theorem d7_11 : decode jdk_42_method_82_code 11 = .ok (.ireturn, 1) := by decide +kernel
theorem d8_0 : decode jdk_42_method_54_code 0 = .ok (.aload_n 0, 1) := by decide +kernel
theorem d8_1 : decode jdk_42_method_54_code 1 = .ok (.getfield 9, 3) := by decide +kernel
theorem d8_4 : decode jdk_42_method_54_code 4 = .ok (.arraylength, 1) := by decide +kernel
theorem d8_5 : decode jdk_42_method_54_code 5 = .ok (.aload_n 0, 1) := by decide +kernel
theorem d8_6 : decode jdk_42_method_54_code 6 = .ok (.invokevirtual 335, 3) := by decide +kernel
theorem d8_9 : decode jdk_42_method_54_code 9 = .ok (.ishr, 1) := by decide +kernel
theorem d8_10 : decode jdk_42_method_54_code 10 = .ok (.ireturn, 1) := by decide +kernel
theorem d9_0 : decode jdk_42_method_152_code 0 = .ok (.getstatic 38, 3) := by decide +kernel
theorem d9_3 : decode jdk_42_method_152_code 3 = .ok (.ifCond .eq 10, 3) := by decide +kernel
theorem d9_6 : decode jdk_42_method_152_code 6 = .ok (.aload_n 0, 1) := by decide +kernel
theorem d9_7 : decode jdk_42_method_152_code 7 = .ok (.getfield 15, 3) := by decide +kernel
theorem d9_10 : decode jdk_42_method_152_code 10 = .ok (.goto 4, 3) := by decide +kernel
theorem d9_14 : decode jdk_42_method_152_code 14 = .ok (.ireturn, 1) := by decide +kernel
theorem d10_0 : decode jdk_42_method_83_code 0 = .ok (.aload_n 0, 1) := by decide +kernel
theorem d10_1 : decode jdk_42_method_83_code 1 = .ok (.invokevirtual 492, 3) := by decide +kernel
theorem d10_4 : decode jdk_42_method_83_code 4 = .ok (.ifCond .eq 15, 3) := by decide +kernel
theorem d10_7 : decode jdk_42_method_83_code 7 = .ok (.aload_n 0, 1) := by decide +kernel
theorem d10_8 : decode jdk_42_method_83_code 8 = .ok (.getfield 9, 3) := by decide +kernel
theorem d10_11 : decode jdk_42_method_83_code 11 = .ok (.iload_n 1, 1) := by decide +kernel
theorem d10_12 : decode jdk_42_method_83_code 12 = .ok (.iload_n 2, 1) := by decide +kernel
theorem d10_13 : decode jdk_42_method_83_code 13 = .ok (.invokestatic 644, 3) := by decide +kernel
theorem d10_16 : decode jdk_42_method_83_code 16 = .ok (.goto 12, 3) := by decide +kernel
theorem d10_28 : decode jdk_42_method_83_code 28 = .ok (.ireturn, 1) := by decide +kernel
theorem d11_0 : decode jdk_42_method_154_code 0 = .ok (.getstatic 38, 3) := by decide +kernel
theorem d11_3 : decode jdk_42_method_154_code 3 = .ok (.ifCond .eq 14, 3) := by decide +kernel
theorem d11_6 : decode jdk_42_method_154_code 6 = .ok (.aload_n 0, 1) := by decide +kernel
theorem d11_7 : decode jdk_42_method_154_code 7 = .ok (.getfield 15, 3) := by decide +kernel
theorem d11_10 : decode jdk_42_method_154_code 10 = .ok (.ifCond .ne 7, 3) := by decide +kernel
theorem d11_13 : decode jdk_42_method_154_code 13 = .ok (.iconst 1, 1) := by decide +kernel
theorem d11_14 : decode jdk_42_method_154_code 14 = .ok (.goto 4, 3) := by decide +kernel
theorem d11_17 : decode jdk_42_method_154_code 17 = .ok (.iconst 0, 1) := by decide +kernel
theorem d11_18 : decode jdk_42_method_154_code 18 = .ok (.ireturn, 1) := by decide +kernel
theorem d12_0 : decode jdk_43_method_27_code 0 = .ok (.iload_n 1, 1) := by decide +kernel
theorem d12_1 : decode jdk_43_method_27_code 1 = .ok (.invokestatic 88, 3) := by decide +kernel
theorem d12_4 : decode jdk_43_method_27_code 4 = .ok (.ifCond .ne 5, 3) := by decide +kernel
theorem d12_9 : decode jdk_43_method_27_code 9 = .ok (.iload_n 2, 1) := by decide +kernel
theorem d12_10 : decode jdk_43_method_27_code 10 = .ok (.aload_n 0, 1) := by decide +kernel
theorem d12_11 : decode jdk_43_method_27_code 11 = .ok (.arraylength, 1) := by decide +kernel
theorem d12_12 : decode jdk_43_method_27_code 12 = .ok (.iconst 1, 1) := by decide +kernel
theorem d12_13 : decode jdk_43_method_27_code 13 = .ok (.isub, 1) := by decide +kernel
theorem d12_14 : decode jdk_43_method_27_code 14 = .ok (.invokestatic 38, 3) := by decide +kernel
theorem d12_17 : decode jdk_43_method_27_code 17 = .ok (.istore_n 3, 1) := by decide +kernel
theorem d12_18 : decode jdk_43_method_27_code 18 = .ok (.iload_n 3, 1) := by decide +kernel
theorem d12_19 : decode jdk_43_method_27_code 19 = .ok (.ifCond .lt 19, 3) := by decide +kernel
theorem d12_22 : decode jdk_43_method_27_code 22 = .ok (.aload_n 0, 1) := by decide +kernel
theorem d12_23 : decode jdk_43_method_27_code 23 = .ok (.iload_n 3, 1) := by decide +kernel
theorem d12_24 : decode jdk_43_method_27_code 24 = .ok (.baload, 1) := by decide +kernel
theorem d12_25 : decode jdk_43_method_27_code 25 = .ok (.iload_n 1, 1) := by decide +kernel
theorem d12_26 : decode jdk_43_method_27_code 26 = .ok (.i2b, 1) := by decide +kernel
theorem d12_27 : decode jdk_43_method_27_code 27 = .ok (.if_icmp .ne 5, 3) := by decide +kernel
theorem d12_30 : decode jdk_43_method_27_code 30 = .ok (.iload_n 3, 1) := by decide +kernel
theorem d12_31 : decode jdk_43_method_27_code 31 = .ok (.ireturn, 1) := by decide +kernel
theorem d12_32 : decode jdk_43_method_27_code 32 = .ok (.iinc 3 (-1), 3) := by decide +kernel
theorem d12_35 : decode jdk_43_method_27_code 35 = .ok (.goto (-17), 3) := by decide +kernel
theorem d12_38 : decode jdk_43_method_27_code 38 = .ok (.iconst (-1), 1) := by decide +kernel
theorem d12_39 : decode jdk_43_method_27_code 39 = .ok (.ireturn, 1) := by decide +kernel
theorem d13_0 : decode jdk_43_method_4_code 0 = .ok (.iload_n 0, 1) := by decide +kernel
theorem d13_1 : decode jdk_43_method_4_code 1 = .ok (.ifCond .lt 14, 3) := by decide +kernel
theorem d13_4 : decode jdk_43_method_4_code 4 = .ok (.iload_n 0, 1) := by decide +kernel
theorem d13_5 : decode jdk_43_method_4_code 5 = .ok (.sipush 255, 3) := by decide +kernel
theorem d13_8 : decode jdk_43_method_4_code 8 = .ok (.if_icmp .gt 7, 3) := by decide +kernel
theorem d13_11 : decode jdk_43_method_4_code 11 = .ok (.iconst 1, 1) := by decide +kernel
theorem d13_12 : decode jdk_43_method_4_code 12 = .ok (.goto 4, 3) := by decide +kernel
theorem d13_16 : decode jdk_43_method_4_code 16 = .ok (.ireturn, 1) := by decide +kernel
theorem d14_0 : decode jdk_29_method_69_code 0 = .ok (.iload_n 0, 1) := by decide +kernel
theorem d14_1 : decode jdk_29_method_69_code 1 = .ok (.iload_n 1, 1) := by decide +kernel
theorem d14_2 : decode jdk_29_method_69_code 2 = .ok (.if_icmp .gt 7, 3) := by decide +kernel
theorem d14_5 : decode jdk_29_method_69_code 5 = .ok (.iload_n 0, 1) := by decide +kernel
theorem d14_6 : decode jdk_29_method_69_code 6 = .ok (.goto 4, 3) := by decide +kernel
theorem d14_9 : decode jdk_29_method_69_code 9 = .ok (.iload_n 1, 1) := by decide +kernel
theorem d14_10 : decode jdk_29_method_69_code 10 = .ok (.ireturn, 1) := by decide +kernel
theorem d15_0 : decode jdk_42_method_92_code 0 = .ok (.aload_n 0, 1) := by decide +kernel
theorem d15_1 : decode jdk_42_method_92_code 1 = .ok (.invokevirtual 505, 3) := by decide +kernel
theorem d15_4 : decode jdk_42_method_92_code 4 = .ok (.istore_n 3, 1) := by decide +kernel
theorem d15_5 : decode jdk_42_method_92_code 5 = .ok (.iload_n 1, 1) := by decide +kernel
theorem d15_6 : decode jdk_42_method_92_code 6 = .ok (.iload_n 2, 1) := by decide +kernel
theorem d15_7 : decode jdk_42_method_92_code 7 = .ok (.iload_n 3, 1) := by decide +kernel
theorem d15_8 : decode jdk_42_method_92_code 8 = .ok (.invokestatic 521, 3) := by decide +kernel
theorem d15_11 : decode jdk_42_method_92_code 11 = .ok (.iload_n 1, 1) := by decide +kernel
theorem d15_12 : decode jdk_42_method_92_code 12 = .ok (.ifCond .ne 10, 3) := by decide +kernel
theorem d15_15 : decode jdk_42_method_92_code 15 = .ok (.iload_n 2, 1) := by decide +kernel
theorem d15_16 : decode jdk_42_method_92_code 16 = .ok (.iload_n 3, 1) := by decide +kernel
theorem d15_17 : decode jdk_42_method_92_code 17 = .ok (.if_icmp .ne 5, 3) := by decide +kernel
theorem d15_20 : decode jdk_42_method_92_code 20 = .ok (.aload_n 0, 1) := by decide +kernel
theorem d15_21 : decode jdk_42_method_92_code 21 = .ok (.areturn, 1) := by decide +kernel
theorem d15_22 : decode jdk_42_method_92_code 22 = .ok (.iload_n 2, 1) := by decide +kernel
theorem d15_23 : decode jdk_42_method_92_code 23 = .ok (.iload_n 1, 1) := by decide +kernel
theorem d15_24 : decode jdk_42_method_92_code 24 = .ok (.isub, 1) := by decide +kernel
theorem d15_25 : decode jdk_42_method_92_code 25 = .ok (.istore 4, 2) := by decide +kernel
theorem d15_27 : decode jdk_42_method_92_code 27 = .ok (.aload_n 0, 1) := by decide +kernel
theorem d15_28 : decode jdk_42_method_92_code 28 = .ok (.invokevirtual 492, 3) := by decide +kernel
theorem d15_31 : decode jdk_42_method_92_code 31 = .ok (.ifCond .eq 16, 3) := by decide +kernel
theorem d15_34 : decode jdk_42_method_92_code 34 = .ok (.aload_n 0, 1) := by decide +kernel
theorem d15_35 : decode jdk_42_method_92_code 35 = .ok (.getfield 9, 3) := by decide +kernel
theorem d15_38 : decode jdk_42_method_92_code 38 = .ok (.iload_n 1, 1) := by decide +kernel
theorem d15_39 : decode jdk_42_method_92_code 39 = .ok (.iload 4, 2) := by decide +kernel
theorem d15_41 : decode jdk_42_method_92_code 41 = .ok (.invokestatic 685, 3) := by decide +kernel
theorem d15_44 : decode jdk_42_method_92_code 44 = .ok (.goto 13, 3) := by decide +kernel
theorem d15_57 : decode jdk_42_method_92_code 57 = .ok (.areturn, 1) := by decide +kernel
theorem d16_0 : decode jdk_42_method_158_code 0 = .ok (.iload_n 0, 1) := by decide +kernel
theorem d16_1 : decode jdk_42_method_158_code 1 = .ok (.iload_n 1, 1) := by decide +kernel
theorem d16_2 : decode jdk_42_method_158_code 2 = .ok (.iload_n 2, 1) := by decide +kernel
theorem d16_3 : decode jdk_42_method_158_code 3 = .ok (.getstatic 1053, 3) := by decide +kernel
theorem d16_6 : decode jdk_42_method_158_code 6 = .ok (.invokestatic 1062, 3) := by decide +kernel
theorem d16_9 : decode jdk_42_method_158_code 9 = .ok (.pop, 1) := by decide +kernel
theorem d16_10 : decode jdk_42_method_158_code 10 = .ok (.return_, 1) := by decide +kernel
theorem d17_0 : decode jdk_41_method_12_code 0 = .ok (.iload_n 0, 1) := by decide +kernel
theorem d17_1 : decode jdk_41_method_12_code 1 = .ok (.ifCond .lt 13, 3) := by decide +kernel
theorem d17_4 : decode jdk_41_method_12_code 4 = .ok (.iload_n 0, 1) := by decide +kernel
theorem d17_5 : decode jdk_41_method_12_code 5 = .ok (.iload_n 1, 1) := by decide +kernel
theorem d17_6 : decode jdk_41_method_12_code 6 = .ok (.if_icmp .gt 8, 3) := by decide +kernel
theorem d17_9 : decode jdk_41_method_12_code 9 = .ok (.iload_n 1, 1) := by decide +kernel
theorem d17_10 : decode jdk_41_method_12_code 10 = .ok (.iload_n 2, 1) := by decide +kernel
theorem d17_11 : decode jdk_41_method_12_code 11 = .ok (.if_icmp .le 11, 3) := by decide +kernel
theorem d17_22 : decode jdk_41_method_12_code 22 = .ok (.iload_n 0, 1) := by decide +kernel
theorem d17_23 : decode jdk_41_method_12_code 23 = .ok (.ireturn, 1) := by decide +kernel
theorem d18_0 : decode method_3_code 0 = .ok (.iload_n 1, 1) := by decide +kernel
theorem d18_1 : decode method_3_code 1 = .ok (.iload_n 2, 1) := by decide +kernel
theorem d18_2 : decode method_3_code 2 = .ok (.if_icmp .ge 12, 3) := by decide +kernel
theorem d18_5 : decode method_3_code 5 = .ok (.aload_n 0, 1) := by decide +kernel
theorem d18_6 : decode method_3_code 6 = .ok (.iload_n 1, 1) := by decide +kernel
theorem d18_7 : decode method_3_code 7 = .ok (.invokevirtual 34, 3) := by decide +kernel
theorem d18_10 : decode method_3_code 10 = .ok (.iload_n 3, 1) := by decide +kernel
theorem d18_11 : decode method_3_code 11 = .ok (.if_icmp .ne 7, 3) := by decide +kernel
theorem d18_14 : decode method_3_code 14 = .ok (.iconst 1, 1) := by decide +kernel
theorem d18_15 : decode method_3_code 15 = .ok (.goto 4, 3) := by decide +kernel
theorem d18_19 : decode method_3_code 19 = .ok (.ireturn, 1) := by decide +kernel
theorem d19_0 : decode jdk_52_method_16_code 0 = .ok (.iload_n 2, 1) := by decide +kernel
theorem d19_1 : decode jdk_52_method_16_code 1 = .ok (.newarray .byte, 2) := by decide +kernel
theorem d19_3 : decode jdk_52_method_16_code 3 = .ok (.astore_n 3, 1) := by decide +kernel
theorem d19_4 : decode jdk_52_method_16_code 4 = .ok (.aload_n 0, 1) := by decide +kernel
theorem d19_5 : decode jdk_52_method_16_code 5 = .ok (.iload_n 1, 1) := by decide +kernel
theorem d19_6 : decode jdk_52_method_16_code 6 = .ok (.aload_n 3, 1) := by decide +kernel
theorem d19_7 : decode jdk_52_method_16_code 7 = .ok (.iconst 0, 1) := by decide +kernel
theorem d19_8 : decode jdk_52_method_16_code 8 = .ok (.iload_n 2, 1) := by decide +kernel
theorem d19_9 : decode jdk_52_method_16_code 9 = .ok (.invokestatic 115, 3) := by decide +kernel
theorem d19_12 : decode jdk_52_method_16_code 12 = .ok (.istore 4, 2) := by decide +kernel
theorem d19_14 : decode jdk_52_method_16_code 14 = .ok (.iload 4, 2) := by decide +kernel
theorem d19_16 : decode jdk_52_method_16_code 16 = .ok (.iload_n 2, 1) := by decide +kernel
theorem d19_17 : decode jdk_52_method_16_code 17 = .ok (.if_icmp .eq 40, 3) := by decide +kernel
theorem d19_57 : decode jdk_52_method_16_code 57 = .ok (.aload_n 3, 1) := by decide +kernel
theorem d19_58 : decode jdk_52_method_16_code 58 = .ok (.areturn, 1) := by decide +kernel
theorem d20_0 : decode jdk_52_method_21_code 0 = .ok (.iconst 0, 1) := by decide +kernel
theorem d20_1 : decode jdk_52_method_21_code 1 = .ok (.istore 5, 2) := by decide +kernel
theorem d20_3 : decode jdk_52_method_21_code 3 = .ok (.iload 5, 2) := by decide +kernel
theorem d20_5 : decode jdk_52_method_21_code 5 = .ok (.iload 4, 2) := by decide +kernel
theorem d20_7 : decode jdk_52_method_21_code 7 = .ok (.if_icmp .ge 37, 3) := by decide +kernel
theorem d20_10 : decode jdk_52_method_21_code 10 = .ok (.aload_n 0, 1) := by decide +kernel
theorem d20_11 : decode jdk_52_method_21_code 11 = .ok (.iload_n 1, 1) := by decide +kernel
theorem d20_12 : decode jdk_52_method_21_code 12 = .ok (.caload, 1) := by decide +kernel
theorem d20_13 : decode jdk_52_method_21_code 13 = .ok (.istore 6, 2) := by decide +kernel
theorem d20_15 : decode jdk_52_method_21_code 15 = .ok (.iload 6, 2) := by decide +kernel
theorem d20_17 : decode jdk_52_method_21_code 17 = .ok (.sipush 255, 3) := by decide +kernel
theorem d20_20 : decode jdk_52_method_21_code 20 = .ok (.if_icmp .le 6, 3) := by decide +kernel
theorem d20_23 : decode jdk_52_method_21_code 23 = .ok (.iload 5, 2) := by decide +kernel
theorem d20_25 : decode jdk_52_method_21_code 25 = .ok (.ireturn, 1) := by decide +kernel
theorem d20_26 : decode jdk_52_method_21_code 26 = .ok (.aload_n 2, 1) := by decide +kernel
theorem d20_27 : decode jdk_52_method_21_code 27 = .ok (.iload_n 3, 1) := by decide +kernel
theorem d20_28 : decode jdk_52_method_21_code 28 = .ok (.iload 6, 2) := by decide +kernel
theorem d20_30 : decode jdk_52_method_21_code 30 = .ok (.i2b, 1) := by decide +kernel
theorem d20_31 : decode jdk_52_method_21_code 31 = .ok (.bastore, 1) := by decide +kernel
theorem d20_32 : decode jdk_52_method_21_code 32 = .ok (.iinc 1 1, 3) := by decide +kernel
theorem d20_35 : decode jdk_52_method_21_code 35 = .ok (.iinc 3 1, 3) := by decide +kernel
theorem d20_38 : decode jdk_52_method_21_code 38 = .ok (.iinc 5 1, 3) := by decide +kernel
theorem d20_41 : decode jdk_52_method_21_code 41 = .ok (.goto (-38), 3) := by decide +kernel
theorem d20_44 : decode jdk_52_method_21_code 44 = .ok (.iload 4, 2) := by decide +kernel
theorem d20_46 : decode jdk_52_method_21_code 46 = .ok (.ireturn, 1) := by decide +kernel
theorem d21_0 : decode jdk_52_method_15_code 0 = .ok (.iload_n 1, 1) := by decide +kernel
theorem d21_1 : decode jdk_52_method_15_code 1 = .ok (.aload_n 0, 1) := by decide +kernel
theorem d21_2 : decode jdk_52_method_15_code 2 = .ok (.arraylength, 1) := by decide +kernel
theorem d21_3 : decode jdk_52_method_15_code 3 = .ok (.isub, 1) := by decide +kernel
theorem d21_4 : decode jdk_52_method_15_code 4 = .ok (.bipush 31, 2) := by decide +kernel
theorem d21_6 : decode jdk_52_method_15_code 6 = .ok (.iushr, 1) := by decide +kernel
theorem d21_7 : decode jdk_52_method_15_code 7 = .ok (.i2b, 1) := by decide +kernel
theorem d21_8 : decode jdk_52_method_15_code 8 = .ok (.ireturn, 1) := by decide +kernel
theorem d22_0 : decode jdk_43_method_47_code 0 = .ok (.iload_n 2, 1) := by decide +kernel
theorem d22_1 : decode jdk_43_method_47_code 1 = .ok (.ifCond .ne 6, 3) := by decide +kernel
theorem d22_4 : decode jdk_43_method_47_code 4 = .ok (.ldc 151, 2) := by decide +kernel
theorem d22_6 : decode jdk_43_method_47_code 6 = .ok (.areturn, 1) := by decide +kernel
theorem d22_7 : decode jdk_43_method_47_code 7 = .ok (.new 1, 3) := by decide +kernel
theorem d22_10 : decode jdk_43_method_47_code 10 = .ok (.dup, 1) := by decide +kernel
theorem d22_11 : decode jdk_43_method_47_code 11 = .ok (.aload_n 0, 1) := by decide +kernel
theorem d22_12 : decode jdk_43_method_47_code 12 = .ok (.iload_n 1, 1) := by decide +kernel
theorem d22_13 : decode jdk_43_method_47_code 13 = .ok (.iload_n 1, 1) := by decide +kernel
theorem d22_14 : decode jdk_43_method_47_code 14 = .ok (.iload_n 2, 1) := by decide +kernel
theorem d22_15 : decode jdk_43_method_47_code 15 = .ok (.iadd, 1) := by decide +kernel
theorem d22_16 : decode jdk_43_method_47_code 16 = .ok (.invokestatic 232, 3) := by decide +kernel
theorem d22_19 : decode jdk_43_method_47_code 19 = .ok (.iconst 0, 1) := by decide +kernel
theorem d22_20 : decode jdk_43_method_47_code 20 = .ok (.invokespecial 112, 3) := by decide +kernel
theorem d22_23 : decode jdk_43_method_47_code 23 = .ok (.areturn, 1) := by decide +kernel
theorem d23_0 : decode jdk_42_method_56_code 0 = .ok (.aload_n 0, 1) := by decide +kernel
theorem d23_1 : decode jdk_42_method_56_code 1 = .ok (.invokevirtual 492, 3) := by decide +kernel
theorem d23_4 : decode jdk_42_method_56_code 4 = .ok (.ifCond .eq 12, 3) := by decide +kernel
theorem d23_7 : decode jdk_42_method_56_code 7 = .ok (.aload_n 0, 1) := by decide +kernel
theorem d23_8 : decode jdk_42_method_56_code 8 = .ok (.getfield 9, 3) := by decide +kernel
theorem d23_11 : decode jdk_42_method_56_code 11 = .ok (.iload_n 1, 1) := by decide +kernel
theorem d23_12 : decode jdk_42_method_56_code 12 = .ok (.invokestatic 495, 3) := by decide +kernel
theorem d23_15 : decode jdk_42_method_56_code 15 = .ok (.ireturn, 1) := by decide +kernel
theorem d24_0 : decode jdk_43_method_2_code 0 = .ok (.iload_n 1, 1) := by decide +kernel
theorem d24_1 : decode jdk_43_method_2_code 1 = .ok (.aload_n 0, 1) := by decide +kernel
theorem d24_2 : decode jdk_43_method_2_code 2 = .ok (.arraylength, 1) := by decide +kernel
theorem d24_3 : decode jdk_43_method_2_code 3 = .ok (.invokestatic 9, 3) := by decide +kernel
theorem d24_6 : decode jdk_43_method_2_code 6 = .ok (.aload_n 0, 1) := by decide +kernel
theorem d24_7 : decode jdk_43_method_2_code 7 = .ok (.iload_n 1, 1) := by decide +kernel
theorem d24_8 : decode jdk_43_method_2_code 8 = .ok (.baload, 1) := by decide +kernel
theorem d24_9 : decode jdk_43_method_2_code 9 = .ok (.sipush 255, 3) := by decide +kernel
theorem d24_12 : decode jdk_43_method_2_code 12 = .ok (.iand, 1) := by decide +kernel
theorem d24_13 : decode jdk_43_method_2_code 13 = .ok (.i2c, 1) := by decide +kernel
theorem d24_14 : decode jdk_43_method_2_code 14 = .ok (.ireturn, 1) := by decide +kernel
theorem d25_0 : decode jdk_42_method_155_code 0 = .ok (.iload_n 0, 1) := by decide +kernel
theorem d25_1 : decode jdk_42_method_155_code 1 = .ok (.iload_n 1, 1) := by decide +kernel
theorem d25_2 : decode jdk_42_method_155_code 2 = .ok (.getstatic 1053, 3) := by decide +kernel
theorem d25_5 : decode jdk_42_method_155_code 5 = .ok (.invokestatic 1059, 3) := by decide +kernel
theorem d25_8 : decode jdk_42_method_155_code 8 = .ok (.pop, 1) := by decide +kernel
theorem d25_9 : decode jdk_42_method_155_code 9 = .ok (.return_, 1) := by decide +kernel
theorem d26_0 : decode jdk_41_method_11_code 0 = .ok (.iload_n 0, 1) := by decide +kernel
theorem d26_1 : decode jdk_41_method_11_code 1 = .ok (.ifCond .lt 8, 3) := by decide +kernel
theorem d26_4 : decode jdk_41_method_11_code 4 = .ok (.iload_n 0, 1) := by decide +kernel
theorem d26_5 : decode jdk_41_method_11_code 5 = .ok (.iload_n 1, 1) := by decide +kernel
theorem d26_6 : decode jdk_41_method_11_code 6 = .ok (.if_icmp .lt 10, 3) := by decide +kernel
theorem d26_16 : decode jdk_41_method_11_code 16 = .ok (.iload_n 0, 1) := by decide +kernel
theorem d26_17 : decode jdk_41_method_11_code 17 = .ok (.ireturn, 1) := by decide +kernel
theorem d27_0 : decode jdk_65_method_132_code 0 = .ok (.iload_n 1, 1) := by decide +kernel
theorem d27_1 : decode jdk_65_method_132_code 1 = .ok (.ifCond .ne 9, 3) := by decide +kernel
theorem d27_4 : decode jdk_65_method_132_code 4 = .ok (.iload_n 2, 1) := by decide +kernel
theorem d27_5 : decode jdk_65_method_132_code 5 = .ok (.aload_n 0, 1) := by decide +kernel
theorem d27_6 : decode jdk_65_method_132_code 6 = .ok (.arraylength, 1) := by decide +kernel
theorem d27_7 : decode jdk_65_method_132_code 7 = .ok (.if_icmp .eq 10, 3) := by decide +kernel
theorem d27_10 : decode jdk_65_method_132_code 10 = .ok (.aload_n 0, 1) := by decide +kernel
theorem d27_11 : decode jdk_65_method_132_code 11 = .ok (.iload_n 1, 1) := by decide +kernel
theorem d27_12 : decode jdk_65_method_132_code 12 = .ok (.iload_n 2, 1) := by decide +kernel
theorem d27_13 : decode jdk_65_method_132_code 13 = .ok (.invokestatic 339, 3) := by decide +kernel
theorem d27_16 : decode jdk_65_method_132_code 16 = .ok (.areturn, 1) := by decide +kernel
theorem d28_0 : decode jdk_65_method_133_code 0 = .ok (.iload_n 1, 1) := by decide +kernel
theorem d28_1 : decode jdk_65_method_133_code 1 = .ok (.iload_n 2, 1) := by decide +kernel
theorem d28_2 : decode jdk_65_method_133_code 2 = .ok (.invokestatic 343, 3) := by decide +kernel
theorem d28_5 : decode jdk_65_method_133_code 5 = .ok (.iload_n 2, 1) := by decide +kernel
theorem d28_6 : decode jdk_65_method_133_code 6 = .ok (.iload_n 1, 1) := by decide +kernel
theorem d28_7 : decode jdk_65_method_133_code 7 = .ok (.isub, 1) := by decide +kernel
theorem d28_8 : decode jdk_65_method_133_code 8 = .ok (.istore_n 3, 1) := by decide +kernel
theorem d28_9 : decode jdk_65_method_133_code 9 = .ok (.iload_n 3, 1) := by decide +kernel
theorem d28_10 : decode jdk_65_method_133_code 10 = .ok (.newarray .byte, 2) := by decide +kernel
theorem d28_12 : decode jdk_65_method_133_code 12 = .ok (.astore 4, 2) := by decide +kernel
theorem d28_14 : decode jdk_65_method_133_code 14 = .ok (.aload_n 0, 1) := by decide +kernel
theorem d28_15 : decode jdk_65_method_133_code 15 = .ok (.iload_n 1, 1) := by decide +kernel
theorem d28_16 : decode jdk_65_method_133_code 16 = .ok (.aload 4, 2) := by decide +kernel
theorem d28_18 : decode jdk_65_method_133_code 18 = .ok (.iconst 0, 1) := by decide +kernel
theorem d28_19 : decode jdk_65_method_133_code 19 = .ok (.aload_n 0, 1) := by decide +kernel
theorem d28_20 : decode jdk_65_method_133_code 20 = .ok (.arraylength, 1) := by decide +kernel
theorem d28_21 : decode jdk_65_method_133_code 21 = .ok (.iload_n 1, 1) := by decide +kernel
theorem d28_22 : decode jdk_65_method_133_code 22 = .ok (.isub, 1) := by decide +kernel
theorem d28_23 : decode jdk_65_method_133_code 23 = .ok (.iload_n 3, 1) := by decide +kernel
theorem d28_24 : decode jdk_65_method_133_code 24 = .ok (.invokestatic 304, 3) := by decide +kernel
theorem d28_27 : decode jdk_65_method_133_code 27 = .ok (.invokestatic 150, 3) := by decide +kernel
theorem d28_30 : decode jdk_65_method_133_code 30 = .ok (.aload 4, 2) := by decide +kernel
theorem d28_32 : decode jdk_65_method_133_code 32 = .ok (.areturn, 1) := by decide +kernel
theorem d29_0 : decode jdk_65_method_131_code 0 = .ok (.iload_n 1, 1) := by decide +kernel
theorem d29_1 : decode jdk_65_method_131_code 1 = .ok (.iload_n 0, 1) := by decide +kernel
theorem d29_2 : decode jdk_65_method_131_code 2 = .ok (.if_icmp .ge 35, 3) := by decide +kernel
theorem d29_37 : decode jdk_65_method_131_code 37 = .ok (.return_, 1) := by decide +kernel
theorem d30_0 : decode jdk_42_method_151_code 0 = .ok (.aload_n 0, 1) := by decide +kernel
theorem d30_1 : decode jdk_42_method_151_code 1 = .ok (.invokespecial 1, 3) := by decide +kernel
theorem d30_4 : decode jdk_42_method_151_code 4 = .ok (.aload_n 0, 1) := by decide +kernel
theorem d30_5 : decode jdk_42_method_151_code 5 = .ok (.aload_n 1, 1) := by decide +kernel
theorem d30_6 : decode jdk_42_method_151_code 6 = .ok (.putfield 9, 3) := by decide +kernel
theorem d30_9 : decode jdk_42_method_151_code 9 = .ok (.aload_n 0, 1) := by decide +kernel
theorem d30_10 : decode jdk_42_method_151_code 10 = .ok (.iload_n 2, 1) := by decide +kernel
theorem d30_11 : decode jdk_42_method_151_code 11 = .ok (.putfield 15, 3) := by decide +kernel
theorem d30_14 : decode jdk_42_method_151_code 14 = .ok (.return_, 1) := by decide +kernel
theorem pd0 : parseMethodDescriptor "([CI[BII)I" = some ⟨[(.array .char), .int, (.array .byte), .int, .int], some .int⟩ := by decide +kernel
theorem pd1 : parseMethodDescriptor "([CII)[B" = some ⟨[(.array .char), .int, .int], some (.array .byte)⟩ := by decide +kernel
theorem pd2 : parseMethodDescriptor "([BI)B" = some ⟨[(.array .byte), .int], some .byte⟩ := by decide +kernel
theorem pd3 : parseMethodDescriptor "([CIILjava/lang/Void;)V" = some ⟨[(.array .char), .int, .int, (.object "java/lang/Void")], none⟩ := by decide +kernel
theorem pd4 : parseMethodDescriptor "()B" = some ⟨[], some .byte⟩ := by decide +kernel
theorem pd5 : parseMethodDescriptor "(IILjava/util/function/BiFunction;)I" = some ⟨[.int, .int, (.object "java/util/function/BiFunction")], some .int⟩ := by decide +kernel
theorem pd6 : parseMethodDescriptor "(II)V" = some ⟨[.int, .int], none⟩ := by decide +kernel
theorem pd7 : parseMethodDescriptor "()Z" = some ⟨[], some .boolean⟩ := by decide +kernel
theorem pd8 : parseMethodDescriptor "([BI)C" = some ⟨[(.array .byte), .int], some .char⟩ := by decide +kernel
theorem pd9 : parseMethodDescriptor "(I)Z" = some ⟨[.int], some .boolean⟩ := by decide +kernel
theorem pd10 : parseMethodDescriptor "(II)I" = some ⟨[.int, .int], some .int⟩ := by decide +kernel
theorem pd11 : parseMethodDescriptor "([BII)I" = some ⟨[(.array .byte), .int, .int], some .int⟩ := by decide +kernel
theorem pd12 : parseMethodDescriptor "()I" = some ⟨[], some .int⟩ := by decide +kernel
theorem pd13 : parseMethodDescriptor "([BII)[B" = some ⟨[(.array .byte), .int, .int], some (.array .byte)⟩ := by decide +kernel
theorem pd14 : parseMethodDescriptor "(IIILjava/util/function/BiFunction;)I" = some ⟨[.int, .int, .int, (.object "java/util/function/BiFunction")], some .int⟩ := by decide +kernel
theorem pd15 : parseMethodDescriptor "([BB)V" = some ⟨[(.array .byte), .byte], none⟩ := by decide +kernel
theorem pd16 : parseMethodDescriptor "(III)V" = some ⟨[.int, .int, .int], none⟩ := by decide +kernel
theorem pd17 : parseMethodDescriptor "([BII)Ljava/lang/String;" = some ⟨[(.array .byte), .int, .int], some (.object "java/lang/String")⟩ := by decide +kernel
theorem pd18 : parseMethodDescriptor "([C)V" = some ⟨[(.array .char)], none⟩ := by decide +kernel
theorem pd19 : parseMethodDescriptor "(I)I" = some ⟨[.int], some .int⟩ := by decide +kernel
theorem pd20 : parseMethodDescriptor "(II)Ljava/lang/String;" = some ⟨[.int, .int], some (.object "java/lang/String")⟩ := by decide +kernel
theorem pd21 : parseMethodDescriptor "(I)C" = some ⟨[.int], some .char⟩ := by decide +kernel
theorem pd22 : parseMethodDescriptor "(ICCCC)Ljava/lang/String;" = some ⟨[.int, .char, .char, .char, .char], some (.object "java/lang/String")⟩ := by decide +kernel
theorem pd23 : parseMethodDescriptor "(Ljava/lang/String;)Ljava/lang/String;" = some ⟨[(.object "java/lang/String")], some (.object "java/lang/String")⟩ := by decide +kernel
theorem pd24 : parseMethodDescriptor "(Ljava/lang/String;IIC)Z" = some ⟨[(.object "java/lang/String"), .int, .int, .char], some .boolean⟩ := by decide +kernel
theorem pn0 : plainName "java/lang/StringUTF16" = true := by first | (simp [plainName, overriddenIn]; done) | decide +kernel
theorem pn1 : plainName "java/lang/String" = true := by first | (simp [plainName, overriddenIn]; done) | decide +kernel
theorem pn2 : plainName "jdk/internal/util/Preconditions" = true := by first | (simp [plainName, overriddenIn]; done) | decide +kernel
theorem pn3 : plainName "java/lang/StringLatin1" = true := by first | (simp [plainName, overriddenIn]; done) | decide +kernel
theorem pn4 : plainName "java/util/Arrays" = true := by first | (simp [plainName, overriddenIn]; done) | decide +kernel
theorem pn5 : plainName "com/example/recital/recital/NumeralPrefixPinLaw" = true := by first | (simp [plainName, overriddenIn]; done) | decide +kernel
theorem pn6 : plainName "com/example/recital/recital/Numeral" = true := by first | (simp [plainName, overriddenIn]; done) | decide +kernel
def codF (z : Int32) (n : Nat) : Int32 := nar .byte (lo8 (XT.ushr (z - Int32.ofNat n) 31))
set_option maxRecDepth 65536 in
set_option maxHeartbeats 4000000 in
theorem c_coderLen {l : Launch} {Z : State} {a0 : Array Value} {EL : List (String × Nat)} (hG : oG a0 Z EL) (d : Nat) (ws : List Value) (z : Int32) (h : Heap) (B : oArr Z h d .byte ws) :
    oCtr [] l Z a0 EL True (⟨"java/lang/StringUTF16", "coderFromArrayLen", "([BI)B"⟩ : MethodName) jdk_52_method_15_code 2 (some .byte) ({ frames := 0, cells := 0, slots := 0, locals := 0 } : Room) #[.ref d, .int z] [] h (fun v h' => v = some (.int (codF z ws.length)) ∧ h' = h) oNo := by
  refine oCtr.enter (Ls := #[.val (.ref d), .val (.int z)]) (plainFor_of_name pn0) hG.2.1 (fun m => by first | (simp [entryFrame, mkF, argsToLocals, Value.category]; done) | rfl) ?_
  intro pP eE sS mM bB tT cC
  refine oGo.iload_n (pc' := 1) d21_0 rfl rfl ?_
  refine oGo.aload_n (pc' := 2) d21_1 rfl rfl rfl ?_
  refine oGo.arraylength (pc' := 3) (z := (Int32.ofNat ws.length)) d21_2 rfl B rfl ?_
  refine oGo.isub (pc' := 4) d21_3 rfl ?_
  refine oGo.bipush (pc' := 6) (v := 31) d21_4 rfl (by decide) ?_
  refine oGo.iushr (pc' := 7) d21_6 rfl ?_
  refine oGo.i2b (pc' := 8) d21_7 rfl ?_
  exact oGo.nreturn d21_8 rfl (by simp) rfl (by decide) (by decide) ⟨rfl, rfl⟩ (fun _ q => q.elim)
theorem codF0 (n : Nat) : codF (Int32.ofNat n) n = 0 := by
  unfold codF; rw [show Int32.ofNat n - Int32.ofNat n = 0 from by simp]; decide
set_option maxRecDepth 65536 in
set_option maxHeartbeats 4000000 in
theorem c_coder {l : Launch} {Z : State} {a0 : Array Value} {EL : List (String × Nat)} (hG : oG a0 Z EL) (x : Nat) (cd : Int32) (hc : cd = 0 ∨ cd = 1) (h : Heap) (F : Fld Z h x "java/lang/String" "coder" "B" (.int cd)) :
    oCtr [] l Z a0 EL True (⟨"java/lang/String", "coder", "()B"⟩ : MethodName) jdk_42_method_152_code 1 (some .byte) ({ frames := 0, cells := 0, slots := 0, locals := 0 } : Room) #[.ref x] [] h (fun v h' => v = some (.int cd) ∧ h' = h) oNo := by
  obtain ⟨z, hzs, hz⟩ := sCOMPACT hG
  refine oCtr.enter (Ls := #[.val (.ref x)]) (plainFor_of_name pn1) hG.2.1 (fun m => by first | (simp [entryFrame, mkF, argsToLocals, Value.category]; done) | rfl) ?_
  intro pP eE sS mM bB tT cC
  refine oGo.getstatic (pc' := 3) d9_0 rfl (w49 hG) Via.refl hzs ?_
  refine oGo.if_eq (pc1 := 6) (pc2 := 13) d9_3 rfl (by decide) (fun q => absurd q hz) (fun q1 => ?_)
  refine oGo.aload_n (pc' := 7) d9_6 rfl rfl rfl ?_
  refine oGo.getfield (pc' := 10) d9_7 rfl (w29 hG) Via.refl F ?_
  refine oGo.goto (pc' := 14) d9_10 (by decide) ?_
  exact oGo.nreturn d9_14 rfl (by simp) (by rcases hc with rfl | rfl <;> decide) (by decide) (by decide) ⟨rfl, rfl⟩ (fun _ q => q.elim)
abbrev q_cmp5 (Z : State) (h : Heap) (d : Nat) (cs : List Int32) : Option Value → Heap → Prop := fun v h' => Keep h h' [d] ∧ ∃ r : Nat, v = some (.int (Int32.ofNat r)) ∧ ((r = cs.length ∧ oArr Z h' d .byte (oI (cs.map lo8)) ∧ ∀ c ∈ cs, ¬ 255 < c) ∨ (r < cs.length ∧ ∃ c, cs[r]? = some c ∧ 255 < c))
set_option maxRecDepth 65536 in
set_option maxHeartbeats 4000000 in
theorem c_cmp5 {l : Launch} {Z : State} {a0 : Array Value} {EL : List (String × Nat)} (hG : oG a0 Z EL) (b d : Nat) (cs : List Int32) (ws : List Value) (h : Heap) (A : oArr Z h b .char (oI cs)) (B : oArr Z h d .byte ws) (hl : ws.length = cs.length) (hne : b ≠ d) :
    oCtr [] l Z a0 EL True (⟨"java/lang/StringUTF16", "compress", "([CI[BII)I"⟩ : MethodName) jdk_52_method_21_code 7 (some .int) ({ frames := 0, cells := 0, slots := 0, locals := 0 } : Room) #[.ref b, .int (0 : Int32), .ref d, .int (0 : Int32), .int (Int32.ofNat cs.length)] [d] h ((q_cmp5 Z h d cs)) oNo := by
  refine oCtr.enter (Ls := #[.val (.ref b), .val (.int (0 : Int32)), .val (.ref d), .val (.int (0 : Int32)), .val (.int (Int32.ofNat cs.length)), .unset, .unset]) (plainFor_of_name pn0) hG.2.1 (fun m => by first | (simp [entryFrame, mkF, argsToLocals, Value.category]; done) | rfl) ?_
  intro pP eE sS mM bB tT cC
  have hb31 : cs.length < 2147483648 := by obtain ⟨_, _, _, q, _⟩ := A; simpa using q
  refine oGo.iconst (pc' := 1) (v := 0) d20_0 rfl (by decide) ?_
  refine oGo.istore (pc' := 3) (Ls' := #[.val (.ref b), .val (.int (0 : Int32)), .val (.ref d), .val (.int (0 : Int32)), .val (.int (Int32.ofNat cs.length)), .val (.int (0 : Int32)), .unset]) d20_1 rfl rfl ?_
  have loop : ∀ (r i : Nat) (h1 : Heap) (vs : List Value) (s6 : Slot), r + i = cs.length → Keep h h1 [d] → oArr Z h1 d .byte vs → vs.length = cs.length → vs.take i = (oI (cs.map lo8)).take i → (∀ c ∈ cs.take i, ¬ 255 < c) → oSl s6 → oGo l Z a0 EL True pP eE sS mM #[.ref b, .int (0 : Int32), .ref d, .int (0 : Int32), .int (Int32.ofNat cs.length)] bB tT cC ({ frames := 0, cells := 0, slots := 0, locals := 0 } : Room) "java/lang/StringUTF16" jdk_52_method_21_code 7 (some .int) "compress" (q_cmp5 Z h d cs) oNo [d] h1 0 0 3 #[.val (.ref b), .val (.int (Int32.ofNat i)), .val (.ref d), .val (.int (Int32.ofNat i)), .val (.int (Int32.ofNat cs.length)), .val (.int (Int32.ofNat i)), s6] [] := by
    intro r
    induction r with
    | zero =>
      intro i h1 vs s6 hr K B1 hv ht hc hs6
      obtain rfl : i = cs.length := by omega
      refine oGo.iload (pc' := 5) d20_3 rfl rfl ?_
      refine oGo.iload (pc' := 7) d20_5 rfl rfl ?_
      refine oGo.icmp_ge (pc1 := 10) (pc2 := 44) d20_7 rfl (by decide) (fun q1 => ?_) (fun q => absurd q (by rw [own_lt hb31 hb31]; omega))
      refine oGo.iload (pc' := 46) d20_44 rfl rfl ?_
      exact oGo.ireturn d20_46 rfl (by decide) (by decide) ⟨K, cs.length, rfl, Or.inl ⟨rfl, by rw [List.take_of_length_le (by omega), List.take_of_length_le (by simp)] at ht; rw [← ht]; exact B1, by simpa using hc⟩⟩ (fun _ q => q.elim)
    | succ r ih =>
      intro i h1 vs s6 hr K B1 hv ht hc hs6
      have hi : i < cs.length := by omega
      obtain ⟨c, hci⟩ : ∃ c, cs[i]? = some c := ⟨_, List.getElem?_eq_getElem hi⟩
      have A1 := oArr.keep A K (own_nin1 hne)
      refine oGo.iload (pc' := 5) d20_3 rfl rfl ?_
      refine oGo.iload (pc' := 7) d20_5 rfl rfl ?_
      refine oGo.icmp_ge (pc1 := 10) (pc2 := 44) d20_7 rfl (by decide) (fun q => absurd ((own_lt (by omega) hb31).mpr hi) q) (fun q2 => ?_)
      refine oGo.aload_n (pc' := 11) d20_10 rfl rfl rfl ?_
      refine oGo.iload_n (pc' := 12) d20_11 rfl rfl ?_
      refine oGo.caload (pc' := 13) (i := i) d20_12 rfl A1 rfl (by rw [List.getElem?_map, hci]; rfl) ?_
      refine oGo.istoreS (pc' := 15) (Ls' := #[.val (.ref b), .val (.int (Int32.ofNat i)), .val (.ref d), .val (.int (Int32.ofNat i)), .val (.int (Int32.ofNat cs.length)), .val (.int (Int32.ofNat i)), .val (.int c)]) d20_13 rfl hs6 rfl rfl ?_
      refine oGo.iload (pc' := 17) d20_15 rfl rfl ?_
      refine oGo.sipush (pc' := 20) (v := 255) d20_17 rfl (by decide) ?_
      refine oGo.icmp_le (pc1 := 23) (pc2 := 26) d20_20 rfl (by decide) (fun q => ?_) (fun q => ?_)
      · refine oGo.aload_n (pc' := 27) d20_26 rfl rfl rfl ?_
        refine oGo.iload_n (pc' := 28) d20_27 rfl rfl ?_
        refine oGo.iload (pc' := 30) d20_28 rfl rfl ?_
        refine oGo.i2b (pc' := 31) d20_30 rfl ?_
        refine oGo.bastore (pc' := 32) (i := i) (w := lo8 c) d20_31 rfl B1 rfl (by omega) (lo8_idem c) (by simp) ?_
        intro h2 W sh2 B2
        refine oGo.iinc (pc' := 35) (y := 1) (Ls' := #[.val (.ref b), .val (.int ((Int32.ofNat i) + (1 : Int32))), .val (.ref d), .val (.int (Int32.ofNat i)), .val (.int (Int32.ofNat cs.length)), .val (.int (Int32.ofNat i)), .val (.int c)]) d20_32 rfl rfl (by decide) rfl ?_
        refine oGo.iinc (pc' := 38) (y := 1) (Ls' := #[.val (.ref b), .val (.int ((Int32.ofNat i) + (1 : Int32))), .val (.ref d), .val (.int ((Int32.ofNat i) + (1 : Int32))), .val (.int (Int32.ofNat cs.length)), .val (.int (Int32.ofNat i)), .val (.int c)]) d20_35 rfl rfl (by decide) rfl ?_
        refine oGo.iinc (pc' := 41) (y := 1) (Ls' := #[.val (.ref b), .val (.int ((Int32.ofNat i) + (1 : Int32))), .val (.ref d), .val (.int ((Int32.ofNat i) + (1 : Int32))), .val (.int (Int32.ofNat cs.length)), .val (.int ((Int32.ofNat i) + (1 : Int32))), .val (.int c)]) d20_38 rfl rfl (by decide) rfl ?_
        refine oGo.goto (pc' := 3) d20_41 (by decide) ?_
        rw [own_succ]
        refine ih (i + 1) h2 _ _ (by omega) (K.wr W (Or.inl (by simp))) B2 (by simpa using hv) ?_ ?_ (Or.inr ⟨_, rfl, rfl⟩)
        · rw [own_take_set _ _ _ (by omega), ht, own_take_succ (oI (cs.map lo8)) i (.int (lo8 c)) (by simp [hci])]
        · intro c' hc'
          rw [own_take_succ cs i c hci] at hc'
          rcases List.mem_append.mp hc' with q' | q'
          · exact hc c' q'
          · rw [List.mem_singleton.mp q']; exact q
      · refine oGo.iload (pc' := 25) d20_23 rfl rfl ?_
        exact oGo.ireturn d20_25 rfl (by decide) (by decide) ⟨K, i, rfl, Or.inr ⟨hi, c, hci, q⟩⟩ (fun _ q => q.elim)
  exact loop cs.length 0 h ws _ rfl (Keep.refl _ _) B hl rfl (by simp) (Or.inl rfl)
abbrev q_cmp3 (Z : State) (h : Heap) (cs : List Int32) : Option Value → Heap → Prop := fun v h' => Keep h h' [] ∧ ∃ t : Nat, v = some (.ref t) ∧ h.size ≤ t ∧ oArr Z h' t .byte (oI (cs.map lo8))
set_option maxRecDepth 65536 in
set_option maxHeartbeats 4000000 in
theorem c_cmp3 {l : Launch} {Z : State} {a0 : Array Value} {EL : List (String × Nat)} (hG : oG a0 Z EL) (b : Nat) (cs : List Int32) (hn : cs.length ≤ 4) (hcs : ∀ c ∈ cs, ¬ c < 0 ∧ ¬ 255 < c) (h : Heap) (A : oArr Z h b .char (oI cs)) :
    oCtr [] l Z a0 EL True (⟨"java/lang/StringUTF16", "compress", "([CII)[B"⟩ : MethodName) jdk_52_method_16_code 6 (some (.array .byte)) ({ frames := 1, cells := 1, slots := 4, locals := 18 } : Room) #[.ref b, .int (0 : Int32), .int (Int32.ofNat cs.length)] [] h ((q_cmp3 Z h cs)) oNo := by
  refine oCtr.enter (Ls := #[.val (.ref b), .val (.int (0 : Int32)), .val (.int (Int32.ofNat cs.length)), .unset, .unset, .unset]) (plainFor_of_name pn0) hG.2.1 (fun m => by first | (simp [entryFrame, mkF, argsToLocals, Value.category]; done) | rfl) ?_
  intro pP eE sS mM bB tT cC
  have hb31 : cs.length < 2147483648 := by omega
  have hbl : b < h.size := A.lt
  refine oGo.iload_n (pc' := 1) d19_0 rfl rfl ?_
  refine oGo.newarray (pc' := 3) (k' := 1) (n' := 4) (i := cs.length) d19_1 rfl (w23 hG) rfl 4 (hn) (by decide) rfl rfl (by decide) (by decide) (by decide) ?_
  intro h1 a2 qa2 la2 E3 A4'
  have A4 : oArr Z h1 a2 .byte (List.replicate (cs.length) (.int 0)) := A4'
  refine oGo.astore_n (pc' := 4) (Ls' := #[.val (.ref b), .val (.int (0 : Int32)), .val (.int (Int32.ofNat cs.length)), .val (.ref a2), .unset, .unset]) d19_3 rfl rfl rfl ?_
  refine oGo.aload_n (pc' := 5) d19_4 rfl rfl rfl ?_
  refine oGo.iload_n (pc' := 6) d19_5 rfl rfl ?_
  refine oGo.aload_n (pc' := 7) d19_6 rfl rfl rfl ?_
  refine oGo.iconst (pc' := 8) (v := 0) d19_7 rfl (by decide) ?_
  refine oGo.iload_n (pc' := 9) d19_8 rfl rfl ?_
  have f5 := oArr.ext E3 A
  refine oGo.invokestatic (pc' := 12) (k' := 1) (n' := 4) (argsL := [.ref b, .int (0 : Int32), .ref a2, .int (0 : Int32), .int (Int32.ofNat cs.length)]) (rest := []) d19_9 rfl (w92 hG) (w93 hG) (w90 hG) (w94 hG) (by decide) pd0 rfl rfl rfl (c_cmp5 hG b a2 cs _ _ f5 A4 (by simp) (by omega)) (by simp) (by decide) (Nat.le_of_ble_eq_true rfl) rfl rfl (by decide) (by decide) ?_
  intro v6 h7 sh7 q8
  obtain ⟨K3, r, rfl, hr⟩ := q8
  obtain ⟨rfl, B3⟩ : r = cs.length ∧ oArr Z h7 a2 .byte (oI (cs.map lo8)) := by
    rcases hr with ⟨h1, h2, -⟩ | ⟨-, c, h2, h3⟩
    · exact ⟨h1, h2⟩
    · exact absurd h3 (hcs c (List.mem_of_getElem? h2)).2
  refine ⟨_, fun _ hx => Or.inl hx, ?_⟩
  show oGo l Z a0 EL True pP eE sS mM _ bB tT cC _ _ _ _ _ _ _ _ [a2] h7 1 4 12 #[.val (.ref b), .val (.int (0 : Int32)), .val (.int (Int32.ofNat cs.length)), .val (.ref a2), .unset, .unset] [.int (Int32.ofNat cs.length)]
  refine oGo.istore (pc' := 14) (Ls' := #[.val (.ref b), .val (.int (0 : Int32)), .val (.int (Int32.ofNat cs.length)), .val (.ref a2), .val (.int (Int32.ofNat cs.length)), .unset]) d19_12 rfl rfl ?_
  refine oGo.iload (pc' := 16) d19_14 rfl rfl ?_
  refine oGo.iload_n (pc' := 17) d19_16 rfl rfl ?_
  refine oGo.icmp_eq (pc1 := 20) (pc2 := 57) d19_17 rfl (by decide) (fun q9 => ?_) (fun q => absurd rfl q)
  refine oGo.aload_n (pc' := 58) d19_57 rfl rfl rfl ?_
  exact oGo.areturn d19_58 rfl rfl rfl rfl (by decide) (by decide) ⟨(((Keep.refl h []).ext E3).trans K3 (own_new1 (by omega))), a2, rfl, by omega, B3⟩ (fun _ q => q.elim)
abbrev q_strI (Z : State) (h : Heap) (x : Nat) (cs : List Int32) : Option Value → Heap → Prop := fun v h' => v = none ∧ Keep h h' [x] ∧ ∃ t : Nat, oS Z h' x t cs
set_option maxRecDepth 65536 in
set_option maxHeartbeats 4000000 in
theorem c_strI4 {l : Launch} {Z : State} {a0 : Array Value} {EL : List (String × Nat)} (hG : oG a0 Z EL) (x b : Nat) (cs : List Int32) (hn : cs.length ≤ 4) (hcs : ∀ c ∈ cs, ¬ c < 0 ∧ ¬ 255 < c) (u w0 : Value) (h : Heap) (A : oArr Z h b .char (oI cs)) (E : Exa Z h x "java/lang/String") (F1 : Fld Z h x "java/lang/String" "value" "[B" u) (F2 : Fld Z h x "java/lang/String" "coder" "B" w0) :
    oCtr [] l Z a0 EL True (⟨"java/lang/String", "<init>", "([CIILjava/lang/Void;)V"⟩ : MethodName) jdk_42_method_149_code 6 none ({ frames := 2, cells := 4, slots := 8, locals := 35 } : Room) #[.ref x, .ref b, .int (0 : Int32), .int (Int32.ofNat cs.length), .null] [x] h ((q_strI Z h x cs)) oNo := by
  obtain ⟨z, hzs, hz⟩ := sCOMPACT hG
  have hb31 : cs.length < 2147483648 := by omega
  have hxl : x < h.size := E.lt
  refine oCtr.enter (Ls := #[.val (.ref x), .val (.ref b), .val (.int (0 : Int32)), .val (.int (Int32.ofNat cs.length)), .val .null, .unset]) (plainFor_of_name pn1) hG.2.1 (fun m => by first | (simp [entryFrame, mkF, argsToLocals, Value.category]; done) | rfl) ?_
  intro pP eE sS mM bB tT cC
  refine oGo.aload_n (pc' := 1) d4_0 rfl rfl rfl ?_
  refine oGo.objinit (pc' := 4) d4_1 rfl (w19 hG) (w20 hG) (w21 hG) rfl (by decide) (Nat.le_of_ble_eq_true rfl) ?_
  refine oGo.iload_n (pc' := 5) d4_4 rfl rfl ?_
  refine oGo.if_ne (pc1 := 8) (pc2 := 27) d4_5 rfl (by decide) (fun q => ?_) (fun q => ?_)
  · refine oGo.getstatic (pc' := 30) d4_27 rfl (w49 hG) Via.refl hzs ?_
    refine oGo.if_eq (pc1 := 33) (pc2 := 58) d4_30 rfl (by decide) (fun q => absurd q hz) (fun q1 => ?_)
    refine oGo.aload_n (pc' := 34) d4_33 rfl rfl rfl ?_
    refine oGo.iload_n (pc' := 35) d4_34 rfl rfl ?_
    refine oGo.iload_n (pc' := 36) d4_35 rfl rfl ?_
    refine oGo.invokestatic (pc' := 39) (k' := 1) (n' := 4) (argsL := [.ref b, .int (0 : Int32), .int (Int32.ofNat cs.length)]) (rest := []) d4_36 rfl (w88 hG) (w89 hG) (w90 hG) (w91 hG) (by decide) pd1 rfl rfl rfl (c_cmp3 hG b cs hn hcs h A) (by simp) (by decide) (Nat.le_of_ble_eq_true rfl) rfl rfl (by decide) (by decide) ?_
    intro v2 h3 sh3 q4
    obtain ⟨K2, t, rfl, ht, B2⟩ := q4
    refine ⟨_, fun _ hx => Or.inl hx, ?_⟩
    show oGo l Z a0 EL True pP eE sS mM _ bB tT cC _ _ _ _ _ _ _ _ [x] h3 1 4 39 #[.val (.ref x), .val (.ref b), .val (.int (0 : Int32)), .val (.int (Int32.ofNat cs.length)), .val .null, .unset] [.ref t]
    refine oGo.astore (pc' := 41) (Ls' := #[.val (.ref x), .val (.ref b), .val (.int (0 : Int32)), .val (.int (Int32.ofNat cs.length)), .val .null, .val (.ref t)]) d4_39 rfl rfl rfl ?_
    refine oGo.aload_n (pc' := 42) d4_41 rfl rfl rfl ?_
    refine oGo.aload (pc' := 44) d4_42 rfl rfl rfl ?_
    refine oGo.iload_n (pc' := 45) d4_44 rfl rfl ?_
    refine oGo.invokestatic (pc' := 48) (k' := 1) (n' := 4) (argsL := [.ref t, .int (Int32.ofNat cs.length)]) (rest := [.ref x]) d4_45 rfl (w95 hG) (w96 hG) (w90 hG) (w97 hG) (by decide) pd2 rfl rfl rfl (c_coderLen hG t _ (Int32.ofNat cs.length) _ B2) (by simp) (by decide) (Nat.le_of_ble_eq_true rfl) rfl rfl (by decide) (by decide) ?_
    intro v5 h6 sh6 q7
    obtain ⟨rfl, ee⟩ := q7
    obtain rfl := ee.symm
    refine ⟨_, fun _ hx => Or.inl hx, ?_⟩
    show oGo l Z a0 EL True pP eE sS mM _ bB tT cC _ _ _ _ _ _ _ _ [x] h3 1 4 48 #[.val (.ref x), .val (.ref b), .val (.int (0 : Int32)), .val (.int (Int32.ofNat cs.length)), .val .null, .val (.ref t)] [.int (codF (Int32.ofNat cs.length) (oI (cs.map lo8)).length), .ref x]
    rw [List.length_map, List.length_map, codF0]
    have f8 := Fld.keep F2 K2 nin0
    have f9 := Exa.keep E K2
    refine oGo.putfield (pc' := 51) (ty := .byte) d4_48 rfl (w29 hG) Via.refl f8 f9 (Or.inr ⟨(w25 hG), rfl, rfl⟩) (w9 hG) (by decide) (by decide) (by decide) (by simp) ?_
    intro h10 W11 sh10
    have f12 := Fld.same W11 f8
    refine oGo.aload_n (pc' := 52) d4_51 rfl rfl rfl ?_
    refine oGo.aload (pc' := 54) d4_52 rfl rfl rfl ?_
    have f13 := Fld.keep F1 K2 nin0
    have f14 := Fld.other W11 f13 (Or.inr (slot_ne (C := "java/lang/String") (Or.inr (w24 hG)) (Or.inr (w25 hG)) (by decide) (t := (.array .byte)) (t' := .byte) (by decide) (by decide)))
    have f15 := Exa.wr W11 f9
    refine oGo.putfield (pc' := 57) (ty := (.array .byte)) d4_54 rfl (w28 hG) Via.refl f14 f15 (Or.inr ⟨(w24 hG), rfl, rfl⟩) (w9 hG) (by decide) rfl rfl (by simp) ?_
    intro h16 W17 sh16
    have f18 := Fld.same W17 f14
    have f19 := Fld.other W17 f12 (Or.inr (slot_ne (C := "java/lang/String") (Or.inr (w25 hG)) (Or.inr (w24 hG)) (by decide) (t := .byte) (t' := (.array .byte)) (by decide) (by decide)))
    have f20 := Exa.wr W17 f15
    have f21 := oArr.other W11 B2 (own_ne (by omega))
    have f22 := oArr.other W17 f21 (own_ne (by omega))
    exact oGo.return_ d4_57 rfl (by decide) (by decide) ⟨rfl, (((Keep.refl h [x]).trans K2 (by simp)).wr W11 (Or.inl (by simp))).wr W17 (Or.inl (by simp)), t, f20, f18, f19, f22, hcs⟩ (fun _ q => q.elim)
  · obtain rfl : cs = [] := List.length_eq_zero_iff.mp ((own_eq (b := 0) hb31 (by omega)).mp q)
    refine oGo.aload_n (pc' := 9) d4_8 rfl rfl rfl ?_
    refine oGo.ldc_str (pc' := 11) (k' := 2) (n' := 4) (vs := oI (([] : List Int32).map lo8)) d4_9 rfl trivial (w22 hG) (strAt hG) (hG.2.2.2 _ (by decide)) (by decide) (by decide) rfl rfl (by decide) (by decide) ?_
    intro h23 a24 b25 E26 Xa24 Ca24 Va24 Ba24 la24 lb25 na24
    have na24_x := na24 x (by simp)
    obtain ⟨na24_x_1, na24_x_2⟩ := na24_x
    have S27 : oS Z h23 a24 b25 [] := ⟨Xa24, Va24, Ca24, Ba24, by decide⟩
    refine oGo.getfield (pc' := 14) d4_11 rfl (w28 hG) Via.refl Va24 ?_
    have f28 := Fld.ext E26 F1
    have f29 := Exa.ext E26 E
    refine oGo.putfield (pc' := 17) (ty := (.array .byte)) d4_14 rfl (w28 hG) Via.refl f28 f29 (Or.inr ⟨(w24 hG), rfl, rfl⟩) (w9 hG) (by decide) rfl rfl (by simp) ?_
    intro h30 W31 sh30
    have f32 := Fld.same W31 f28
    refine oGo.aload_n (pc' := 18) d4_17 rfl rfl rfl ?_
    refine oGo.ldc_str (pc' := 20) (k' := 4) (n' := 8) (vs := oI (([] : List Int32).map lo8)) d4_18 rfl trivial (w22 hG) (strAt hG) (hG.2.2.2 _ (by decide)) (by decide) (by decide) rfl rfl (by decide) (by decide) ?_
    intro h33 a34 b35 E36 Xa34 Ca34 Va34 Ba34 la34 lb35 na34
    have na34_x := na34 x (by simp)
    obtain ⟨na34_x_1, na34_x_2⟩ := na34_x
    have S37 : oS Z h33 a34 b35 [] := ⟨Xa34, Va34, Ca34, Ba34, by decide⟩
    refine oGo.getfield (pc' := 23) d4_20 rfl (w29 hG) Via.refl Ca34 ?_
    have f38 := Fld.ext E26 F2
    have f39 := Fld.other W31 f38 (Or.inr (slot_ne (C := "java/lang/String") (Or.inr (w25 hG)) (Or.inr (w24 hG)) (by decide) (t := .byte) (t' := (.array .byte)) (by decide) (by decide)))
    have f40 := Fld.ext E36 f39
    have f41 := Exa.wr W31 f29
    have f42 := Exa.ext E36 f41
    refine oGo.putfield (pc' := 26) (ty := .byte) d4_23 rfl (w29 hG) Via.refl f40 f42 (Or.inr ⟨(w25 hG), rfl, rfl⟩) (w9 hG) (by decide) (by decide) (by decide) (by simp) ?_
    intro h43 W44 sh43
    have f45 := Fld.same W44 f40
    have f46 := Fld.ext E36 f32
    have f47 := Fld.other W44 f46 (Or.inr (slot_ne (C := "java/lang/String") (Or.inr (w24 hG)) (Or.inr (w25 hG)) (by decide) (t := (.array .byte)) (t' := .byte) (by decide) (by decide)))
    have f48 := Exa.wr W44 f42
    have f49 := oArr.other W31 Ba24 (own_ne (by omega))
    have f50 := oArr.ext E36 f49
    have f51 := oArr.other W44 f50 (own_ne (by omega))
    exact oGo.return_ d4_26 rfl (by decide) (by decide) ⟨rfl, (((((Keep.refl h [x]).ext E26).wr W31 (Or.inl (by simp))).ext E36).wr W44 (Or.inl (by simp))), b25, f48, f47, f45, f51, by simp⟩ (fun _ q => q.elim)
set_option maxRecDepth 65536 in
set_option maxHeartbeats 4000000 in
theorem c_strI1 {l : Launch} {Z : State} {a0 : Array Value} {EL : List (String × Nat)} (hG : oG a0 Z EL) (x b : Nat) (cs : List Int32) (hn : cs.length ≤ 4) (hcs : ∀ c ∈ cs, ¬ c < 0 ∧ ¬ 255 < c) (u w0 : Value) (h : Heap) (A : oArr Z h b .char (oI cs)) (E : Exa Z h x "java/lang/String") (F1 : Fld Z h x "java/lang/String" "value" "[B" u) (F2 : Fld Z h x "java/lang/String" "coder" "B" w0) :
    oCtr [] l Z a0 EL True (⟨"java/lang/String", "<init>", "([C)V"⟩ : MethodName) jdk_42_method_3_code 2 none ({ frames := 3, cells := 4, slots := 8, locals := 52 } : Room) #[.ref x, .ref b] [x] h ((q_strI Z h x cs)) oNo := by
  refine oCtr.enter (Ls := #[.val (.ref x), .val (.ref b)]) (plainFor_of_name pn1) hG.2.1 (fun m => by first | (simp [entryFrame, mkF, argsToLocals, Value.category]; done) | rfl) ?_
  intro pP eE sS mM bB tT cC
  refine oGo.aload_n (pc' := 1) d3_0 rfl rfl rfl ?_
  refine oGo.aload_n (pc' := 2) d3_1 rfl rfl rfl ?_
  refine oGo.iconst (pc' := 3) (v := 0) d3_2 rfl (by decide) ?_
  refine oGo.aload_n (pc' := 4) d3_3 rfl rfl rfl ?_
  refine oGo.arraylength (pc' := 5) (z := (Int32.ofNat cs.length)) d3_4 rfl A (by rw [List.length_map]) ?_
  refine oGo.aconst_null (pc' := 6) d3_5 rfl ?_
  refine oGo.invokespecial (pc' := 9) (k' := 4) (n' := 8) (a := x) (argsL := [.ref b, .int (0 : Int32), .int (Int32.ofNat cs.length), .null]) (rest := []) d3_6 rfl rfl (w15 hG) (w16 hG) (w10 hG) (w18 hG) (by decide) pd3 rfl rfl rfl (c_strI4 hG x b cs hn hcs u w0 h A E F1 F2) (by simp) (by decide) (Nat.le_of_ble_eq_true rfl) rfl rfl (by decide) (by decide) ?_
  intro v1 h2 sh2 q3
  obtain ⟨rfl, hq⟩ := q3
  refine ⟨_, fun _ hx => Or.inl hx, ?_⟩
  show oGo l Z a0 EL True pP eE sS mM _ bB tT cC _ _ _ _ _ _ _ _ [x] h2 4 8 9 #[.val (.ref x), .val (.ref b)] []
  exact oGo.return_ d3_9 rfl (by decide) (by decide) ⟨rfl, hq⟩ (fun _ q => q.elim)
set_option maxRecDepth 65536 in
set_option maxHeartbeats 4000000 in
theorem c_length {l : Launch} {Z : State} {a0 : Array Value} {EL : List (String × Nat)} (hG : oG a0 Z EL) (x t : Nat) (cs : List Int32) (h : Heap) (Sx : oS Z h x t cs) :
    oCtr [] l Z a0 EL True (⟨"java/lang/String", "length", "()I"⟩ : MethodName) jdk_42_method_54_code 1 (some .int) ({ frames := 1, cells := 0, slots := 0, locals := 13 } : Room) #[.ref x] [] h (fun v h' => v = some (.int (Int32.ofNat cs.length)) ∧ h' = h) oNo := by
  refine oCtr.enter (Ls := #[.val (.ref x)]) (plainFor_of_name pn1) hG.2.1 (fun m => by first | (simp [entryFrame, mkF, argsToLocals, Value.category]; done) | rfl) ?_
  intro pP eE sS mM bB tT cC
  refine oGo.aload_n (pc' := 1) d8_0 rfl rfl rfl ?_
  refine oGo.getfield (pc' := 4) d8_1 rfl (w28 hG) Via.refl Sx.2.1 ?_
  refine oGo.arraylength (pc' := 5) (z := (Int32.ofNat cs.length)) d8_4 rfl Sx.2.2.2.1 (by rw [List.length_map, List.length_map]) ?_
  refine oGo.aload_n (pc' := 6) d8_5 rfl rfl rfl ?_
  refine oGo.invokevirtual (pc' := 9) (k' := 0) (n' := 0) (a := x) (argsL := []) (rest := [.int (Int32.ofNat cs.length)]) d8_6 rfl (w44 hG) (w45 hG) (w47 hG) (w46 hG) (w10 hG) (w48 hG) (by decide) pd4 rfl rfl rfl Sx.1 (c_coder hG x 0 (Or.inl rfl) h Sx.2.2.1) (by simp) (by decide) (Nat.le_of_ble_eq_true rfl) rfl rfl (by decide) (by decide) ?_
  intro v1 h2 sh2 q3
  obtain ⟨rfl, ee⟩ := q3
  obtain rfl := ee.symm
  refine ⟨_, fun _ hx => Or.inl hx, ?_⟩
  show oGo l Z a0 EL True pP eE sS mM _ bB tT cC _ _ _ _ _ _ _ _ [] h 0 0 9 #[.val (.ref x)] [.int (0 : Int32), .int (Int32.ofNat cs.length)]
  refine oGo.ishr (pc' := 10) d8_9 rfl ?_
  exact oGo.ireturn d8_10 rfl (by decide) (by decide) ⟨by rw [shr0], rfl⟩ (fun _ q => q.elim)
set_option maxRecDepth 65536 in
set_option maxHeartbeats 4000000 in
theorem c_preCheck {l : Launch} {Z : State} {a0 : Array Value} {EL : List (String × Nat)} (hG : oG a0 Z EL) (i n : Int32) (fm : Value) (hf : fm.isRef = true) (h0 : ¬ i < 0) (h1 : i < n) (h : Heap)  :
    oCtr [] l Z a0 EL True (⟨"jdk/internal/util/Preconditions", "checkIndex", "(IILjava/util/function/BiFunction;)I"⟩ : MethodName) jdk_41_method_11_code 3 (some .int) ({ frames := 0, cells := 0, slots := 0, locals := 0 } : Room) #[.int i, .int n, fm] [] h (fun v h' => v = some (.int i) ∧ h' = h) oNo := by
  refine oCtr.enter (Ls := #[.val (.int i), .val (.int n), .val fm]) (plainFor_of_name pn2) hG.2.1 (fun m => by rcases ref_cases hf with rfl | ⟨_, rfl⟩ <;> first | (simp [entryFrame, mkF, argsToLocals, Value.category]; done) | rfl) ?_
  intro pP eE sS mM bB tT cC
  refine oGo.iload_n (pc' := 1) d26_0 rfl rfl ?_
  refine oGo.if_lt (pc1 := 4) (pc2 := 9) d26_1 rfl (by decide) (fun q => absurd q h0) (fun q1 => ?_)
  refine oGo.iload_n (pc' := 5) d26_4 rfl rfl ?_
  refine oGo.iload_n (pc' := 6) d26_5 rfl rfl ?_
  refine oGo.icmp_lt (pc1 := 9) (pc2 := 16) d26_6 rfl (by decide) (fun q2 => ?_) (fun q => absurd h1 q)
  refine oGo.iload_n (pc' := 17) d26_16 rfl rfl ?_
  exact oGo.ireturn d26_17 rfl (by decide) (by decide) ⟨rfl, rfl⟩ (fun _ q => q.elim)
set_option maxRecDepth 65536 in
set_option maxHeartbeats 4000000 in
theorem c_checkIndex {l : Launch} {Z : State} {a0 : Array Value} {EL : List (String × Nat)} (hG : oG a0 Z EL) (i n : Int32) (h0 : ¬ i < 0) (h1 : i < n) (h : Heap)  :
    oCtr [] l Z a0 EL True (⟨"java/lang/String", "checkIndex", "(II)V"⟩ : MethodName) jdk_42_method_155_code 2 none ({ frames := 1, cells := 0, slots := 0, locals := 14 } : Room) #[.int i, .int n] [] h (fun v h' => v = none ∧ h' = h) oNo := by
  obtain ⟨fm, hfs, hfr⟩ := sSIOOBE hG
  refine oCtr.enter (Ls := #[.val (.int i), .val (.int n)]) (plainFor_of_name pn1) hG.2.1 (fun m => by first | (simp [entryFrame, mkF, argsToLocals, Value.category]; done) | rfl) ?_
  intro pP eE sS mM bB tT cC
  refine oGo.iload_n (pc' := 1) d25_0 rfl rfl ?_
  refine oGo.iload_n (pc' := 2) d25_1 rfl rfl ?_
  refine oGo.getstatic (pc' := 5) d25_2 rfl (w79 hG) Via.refl hfs ?_
  refine oGo.invokestatic (pc' := 8) (k' := 0) (n' := 0) (argsL := [.int i, .int n, fm]) (rest := []) d25_5 rfl (w113 hG) (w114 hG) (w80 hG) (w115 hG) (by decide) pd5 rfl rfl rfl (c_preCheck hG i n fm hfr h0 h1 h) (by simp) (by decide) (Nat.le_of_ble_eq_true rfl) rfl rfl (by decide) (by decide) ?_
  intro v1 h2 sh2 q3
  obtain ⟨rfl, ee⟩ := q3
  obtain rfl := ee.symm
  refine ⟨_, fun _ hx => Or.inl hx, ?_⟩
  show oGo l Z a0 EL True pP eE sS mM _ bB tT cC _ _ _ _ _ _ _ _ [] h 0 0 8 #[.val (.int i), .val (.int n)] [.int i]
  refine oGo.pop (pc' := 9) d25_8 rfl rfl ?_
  exact oGo.return_ d25_9 rfl (by decide) (by decide) ⟨rfl, rfl⟩ (fun _ q => q.elim)
set_option maxRecDepth 65536 in
set_option maxHeartbeats 4000000 in
theorem c_isLatin1 {l : Launch} {Z : State} {a0 : Array Value} {EL : List (String × Nat)} (hG : oG a0 Z EL) (x : Nat) (cd : Int32) (h : Heap) (F : Fld Z h x "java/lang/String" "coder" "B" (.int cd)) :
    oCtr [] l Z a0 EL True (⟨"java/lang/String", "isLatin1", "()Z"⟩ : MethodName) jdk_42_method_154_code 1 (some .boolean) ({ frames := 0, cells := 0, slots := 0, locals := 0 } : Room) #[.ref x] [] h (fun v h' => v = some (.int (if cd = 0 then 1 else 0)) ∧ h' = h) oNo := by
  obtain ⟨z, hzs, hz⟩ := sCOMPACT hG
  refine oCtr.enter (Ls := #[.val (.ref x)]) (plainFor_of_name pn1) hG.2.1 (fun m => by first | (simp [entryFrame, mkF, argsToLocals, Value.category]; done) | rfl) ?_
  intro pP eE sS mM bB tT cC
  refine oGo.getstatic (pc' := 3) d11_0 rfl (w49 hG) Via.refl hzs ?_
  refine oGo.if_eq (pc1 := 6) (pc2 := 17) d11_3 rfl (by decide) (fun q => absurd q hz) (fun q1 => ?_)
  refine oGo.aload_n (pc' := 7) d11_6 rfl rfl rfl ?_
  refine oGo.getfield (pc' := 10) d11_7 rfl (w29 hG) Via.refl F ?_
  refine oGo.if_ne (pc1 := 13) (pc2 := 17) d11_10 rfl (by decide) (fun q => ?_) (fun q => ?_)
  · refine oGo.iconst (pc' := 18) (v := 0) d11_17 rfl (by decide) ?_
    exact oGo.nreturn d11_18 rfl (by simp) rfl (by decide) (by decide) ⟨by rw [if_neg q]; rfl, rfl⟩ (fun _ q => q.elim)
  · refine oGo.iconst (pc' := 14) (v := 1) d11_13 rfl (by decide) ?_
    refine oGo.goto (pc' := 18) d11_14 (by decide) ?_
    exact oGo.nreturn d11_18 rfl (by simp) rfl (by decide) (by decide) ⟨by rw [if_pos q]; rfl, rfl⟩ (fun _ q => q.elim)
set_option maxRecDepth 65536 in
set_option maxHeartbeats 4000000 in
theorem c_latCharAt {l : Launch} {Z : State} {a0 : Array Value} {EL : List (String × Nat)} (hG : oG a0 Z EL) (t : Nat) (cs : List Int32) (i : Nat) (c : Int32) (hc : ¬ c < 0 ∧ ¬ 255 < c) (hi : cs[i]? = some c) (h : Heap) (B : oArr Z h t .byte (oI (cs.map lo8))) :
    oCtr [] l Z a0 EL True (⟨"java/lang/StringLatin1", "charAt", "([BI)C"⟩ : MethodName) jdk_43_method_2_code 2 (some .char) ({ frames := 2, cells := 0, slots := 0, locals := 27 } : Room) #[.ref t, .int (Int32.ofNat i)] [] h (fun v h' => v = some (.int c) ∧ h' = h) oNo := by
  have hl : i < cs.length := (List.getElem?_eq_some_iff.mp hi).1
  have hb31 : cs.length < 2147483648 := by obtain ⟨_, _, _, q, _⟩ := B; simpa using q
  refine oCtr.enter (Ls := #[.val (.ref t), .val (.int (Int32.ofNat i))]) (plainFor_of_name pn3) hG.2.1 (fun m => by first | (simp [entryFrame, mkF, argsToLocals, Value.category]; done) | rfl) ?_
  intro pP eE sS mM bB tT cC
  refine oGo.iload_n (pc' := 1) d24_0 rfl rfl ?_
  refine oGo.aload_n (pc' := 2) d24_1 rfl rfl rfl ?_
  refine oGo.arraylength (pc' := 3) (z := (Int32.ofNat cs.length)) d24_2 rfl B (by rw [List.length_map, List.length_map]) ?_
  refine oGo.invokestatic (pc' := 6) (k' := 0) (n' := 0) (argsL := [.int (Int32.ofNat i), .int (Int32.ofNat cs.length)]) (rest := []) d24_3 rfl (w110 hG) (w111 hG) (w10 hG) (w112 hG) (by decide) pd6 rfl rfl rfl (c_checkIndex hG _ _ (own_nn (by omega)) ((own_lt (by omega) hb31).mpr hl) h) (by simp) (by decide) (Nat.le_of_ble_eq_true rfl) rfl rfl (by decide) (by decide) ?_
  intro v1 h2 sh2 q3
  obtain ⟨rfl, ee⟩ := q3
  obtain rfl := ee.symm
  refine ⟨_, fun _ hx => Or.inl hx, ?_⟩
  show oGo l Z a0 EL True pP eE sS mM _ bB tT cC _ _ _ _ _ _ _ _ [] h 0 0 6 #[.val (.ref t), .val (.int (Int32.ofNat i))] []
  refine oGo.aload_n (pc' := 7) d24_6 rfl rfl rfl ?_
  refine oGo.iload_n (pc' := 8) d24_7 rfl rfl ?_
  refine oGo.baload (pc' := 9) (i := i) d24_8 rfl B rfl (v := .int (lo8 c)) (by simp [hi]) ?_
  refine oGo.sipush (pc' := 12) (v := 255) d24_9 rfl (by decide) ?_
  refine oGo.iand (pc' := 13) d24_12 rfl ?_
  refine oGo.i2c (pc' := 14) d24_13 rfl ?_
  exact oGo.nreturn d24_14 rfl (by simp) (lat_says hc.1 hc.2) (by decide) (by decide) ⟨rfl, rfl⟩ (fun _ q => q.elim)
set_option maxRecDepth 65536 in
set_option maxHeartbeats 4000000 in
theorem c_charAt {l : Launch} {Z : State} {a0 : Array Value} {EL : List (String × Nat)} (hG : oG a0 Z EL) (x t : Nat) (cs : List Int32) (i : Nat) (c : Int32) (hi : cs[i]? = some c) (h : Heap) (Sx : oS Z h x t cs) :
    oCtr [] l Z a0 EL True (⟨"java/lang/String", "charAt", "(I)C"⟩ : MethodName) jdk_42_method_56_code 2 (some .char) ({ frames := 3, cells := 0, slots := 0, locals := 40 } : Room) #[.ref x, .int (Int32.ofNat i)] [] h (fun v h' => v = some (.int c) ∧ h' = h) oNo := by
  have hc := Sx.2.2.2.2 c (List.mem_of_getElem? hi)
  refine oCtr.enter (Ls := #[.val (.ref x), .val (.int (Int32.ofNat i))]) (plainFor_of_name pn1) hG.2.1 (fun m => by first | (simp [entryFrame, mkF, argsToLocals, Value.category]; done) | rfl) ?_
  intro pP eE sS mM bB tT cC
  refine oGo.aload_n (pc' := 1) d23_0 rfl rfl rfl ?_
  refine oGo.invokevirtual (pc' := 4) (k' := 0) (n' := 0) (a := x) (argsL := []) (rest := []) d23_1 rfl (w55 hG) (w56 hG) (w58 hG) (w57 hG) (w10 hG) (w59 hG) (by decide) pd7 rfl rfl rfl Sx.1 (c_isLatin1 hG x 0 h Sx.2.2.1) (by simp) (by decide) (Nat.le_of_ble_eq_true rfl) rfl rfl (by decide) (by decide) ?_
  intro v1 h2 sh2 q3
  obtain ⟨rfl, ee⟩ := q3
  obtain rfl := ee.symm
  refine ⟨_, fun _ hx => Or.inl hx, ?_⟩
  show oGo l Z a0 EL True pP eE sS mM _ bB tT cC _ _ _ _ _ _ _ _ [] h 0 0 4 #[.val (.ref x), .val (.int (Int32.ofNat i))] [.int (1 : Int32)]
  refine oGo.if_eq (pc1 := 7) (pc2 := 16) d23_4 rfl (by decide) (fun q => by first | exact absurd q (by decide) | exact absurd (by decide) q) (fun q4 => ?_)
  refine oGo.aload_n (pc' := 8) d23_7 rfl rfl rfl ?_
  refine oGo.getfield (pc' := 11) d23_8 rfl (w28 hG) Via.refl Sx.2.1 ?_
  refine oGo.iload_n (pc' := 12) d23_11 rfl rfl ?_
  refine oGo.invokestatic (pc' := 15) (k' := 0) (n' := 0) (argsL := [.ref t, .int (Int32.ofNat i)]) (rest := []) d23_12 rfl (w107 hG) (w108 hG) (w62 hG) (w109 hG) (by decide) pd8 rfl rfl rfl (c_latCharAt hG t cs i c hc hi h Sx.2.2.2.1) (by simp) (by decide) (Nat.le_of_ble_eq_true rfl) rfl rfl (by decide) (by decide) ?_
  intro v5 h6 sh6 q7
  obtain ⟨rfl, ee⟩ := q7
  obtain rfl := ee.symm
  refine ⟨_, fun _ hx => Or.inl hx, ?_⟩
  show oGo l Z a0 EL True pP eE sS mM _ bB tT cC _ _ _ _ _ _ _ _ [] h 0 0 15 #[.val (.ref x), .val (.int (Int32.ofNat i))] [.int c]
  exact oGo.nreturn d23_15 rfl (by simp) (nar_char hc.1 (own_255 hc.2)) (by decide) (by decide) ⟨rfl, rfl⟩ (fun _ q => q.elim)
def lastM (ch : Int32) (cs : List Int32) : Nat := (cs.reverse.dropWhile (fun c => !(c == ch))).length
theorem lastM_snoc (ch c : Int32) (xs : List Int32) : lastM ch (xs ++ [c]) = if c = ch then xs.length + 1 else lastM ch xs := by
  unfold lastM
  rw [List.reverse_append, List.reverse_singleton, List.singleton_append, List.dropWhile_cons]
  by_cases h : c = ch
  · simp [h]
  · simp [h]
theorem lastM_le (ch : Int32) (cs : List Int32) : lastM ch cs ≤ cs.length := by
  unfold lastM
  have := (List.dropWhile_sublist (l := cs.reverse) (fun c => !(c == ch))).length_le
  simpa using this
theorem own_pred (k : Nat) : Int32.ofNat (k + 1) - 1 = Int32.ofNat k := by rw [← own_succ]; simp
theorem own_dec (x : Int32) : x + (-1) = x - 1 := by rw [Int32.sub_eq_add_neg]
theorem own_dec1 (x : Int32) : x - 1 + 1 = x := by simp
theorem lo8_inj {x y : Int32} (hx : ¬ x < 0 ∧ ¬ 255 < x) (hy : ¬ y < 0 ∧ ¬ 255 < y) (h : lo8 x = lo8 y) : x = y := by
  rw [← lat_says hx.1 hx.2, ← lat_says hy.1 hy.2, h]
set_option maxRecDepth 65536 in
set_option maxHeartbeats 4000000 in
theorem c_canI {l : Launch} {Z : State} {a0 : Array Value} {EL : List (String × Nat)} (hG : oG a0 Z EL) (c : Int32) (hc : ¬ c < 0 ∧ ¬ 255 < c) (h : Heap)  :
    oCtr [] l Z a0 EL True (⟨"java/lang/StringLatin1", "canEncode", "(I)Z"⟩ : MethodName) jdk_43_method_4_code 1 (some .boolean) ({ frames := 0, cells := 0, slots := 0, locals := 0 } : Room) #[.int c] [] h (fun v h' => v = some (.int 1) ∧ h' = h) oNo := by
  refine oCtr.enter (Ls := #[.val (.int c)]) (plainFor_of_name pn3) hG.2.1 (fun m => by first | (simp [entryFrame, mkF, argsToLocals, Value.category]; done) | rfl) ?_
  intro pP eE sS mM bB tT cC
  refine oGo.iload_n (pc' := 1) d13_0 rfl rfl ?_
  refine oGo.if_lt (pc1 := 4) (pc2 := 15) d13_1 rfl (by decide) (fun q => absurd q hc.1) (fun q1 => ?_)
  refine oGo.iload_n (pc' := 5) d13_4 rfl rfl ?_
  refine oGo.sipush (pc' := 8) (v := 255) d13_5 rfl (by decide) ?_
  refine oGo.icmp_gt (pc1 := 11) (pc2 := 15) d13_8 rfl (by decide) (fun q => absurd q hc.2) (fun q2 => ?_)
  refine oGo.iconst (pc' := 12) (v := 1) d13_11 rfl (by decide) ?_
  refine oGo.goto (pc' := 16) d13_12 (by decide) ?_
  exact oGo.nreturn d13_16 rfl (by simp) rfl (by decide) (by decide) ⟨rfl, rfl⟩ (fun _ q => q.elim)
set_option maxRecDepth 65536 in
set_option maxHeartbeats 4000000 in
theorem c_minI {l : Launch} {Z : State} {a0 : Array Value} {EL : List (String × Nat)} (hG : oG a0 Z EL) (x y : Int32) (h : Heap)  :
    oCtr [] l Z a0 EL True (⟨"java/lang/Math", "min", "(II)I"⟩ : MethodName) jdk_29_method_69_code 2 (some .int) ({ frames := 0, cells := 0, slots := 0, locals := 0 } : Room) #[.int x, .int y] [] h (fun v h' => v = some (.int (if y < x then y else x)) ∧ h' = h) oNo := by
  refine oCtr.enter (Ls := #[.val (.int x), .val (.int y)]) (Jvm.Free.JP.mathPlain rfl (by decide +kernel)) hG.2.1 (fun m => by first | (simp [entryFrame, mkF, argsToLocals, Value.category]; done) | rfl) ?_
  intro pP eE sS mM bB tT cC
  refine oGo.iload_n (pc' := 1) d14_0 rfl rfl ?_
  refine oGo.iload_n (pc' := 2) d14_1 rfl rfl ?_
  refine oGo.icmp_gt (pc1 := 5) (pc2 := 9) d14_2 rfl (by decide) (fun q => ?_) (fun q => ?_)
  · refine oGo.iload_n (pc' := 10) d14_9 rfl rfl ?_
    exact oGo.ireturn d14_10 rfl (by decide) (by decide) ⟨by rw [if_pos q], rfl⟩ (fun _ q => q.elim)
  · refine oGo.iload_n (pc' := 6) d14_5 rfl rfl ?_
    refine oGo.goto (pc' := 10) d14_6 (by decide) ?_
    exact oGo.ireturn d14_10 rfl (by decide) (by decide) ⟨by rw [if_neg q], rfl⟩ (fun _ q => q.elim)
set_option maxRecDepth 65536 in
set_option maxHeartbeats 4000000 in
theorem c_latLast {l : Launch} {Z : State} {a0 : Array Value} {EL : List (String × Nat)} (hG : oG a0 Z EL) (t : Nat) (cs : List Int32) (ch : Int32) (hch : ¬ ch < 0 ∧ ¬ 255 < ch) (hcs : ∀ c ∈ cs, ¬ c < 0 ∧ ¬ 255 < c) (h : Heap) (B : oArr Z h t .byte (oI (cs.map lo8))) :
    oCtr [] l Z a0 EL True (⟨"java/lang/StringLatin1", "lastIndexOf", "([BII)I"⟩ : MethodName) jdk_43_method_27_code 4 (some .int) ({ frames := 1, cells := 0, slots := 0, locals := 13 } : Room) #[.ref t, .int ch, .int (Int32.ofNat cs.length - 1)] [] h (fun v h' => v = some (.int (Int32.ofNat (lastM ch cs) - 1)) ∧ h' = h) oNo := by
  have hb31 : cs.length < 2147483648 := by obtain ⟨_, _, _, q, _⟩ := B; simpa using q
  refine oCtr.enter (Ls := #[.val (.ref t), .val (.int ch), .val (.int (Int32.ofNat cs.length - 1)), .unset]) (plainFor_of_name pn3) hG.2.1 (fun m => by first | (simp [entryFrame, mkF, argsToLocals, Value.category]; done) | rfl) ?_
  intro pP eE sS mM bB tT cC
  refine oGo.iload_n (pc' := 1) d12_0 rfl rfl ?_
  refine oGo.invokestatic (pc' := 4) (k' := 0) (n' := 0) (argsL := [.int ch]) (rest := []) d12_1 rfl (w64 hG) (w65 hG) (w62 hG) (w66 hG) (by decide) pd9 rfl rfl rfl (c_canI hG ch hch h) (by simp) (by decide) (Nat.le_of_ble_eq_true rfl) rfl rfl (by decide) (by decide) ?_
  intro v1 h2 sh2 q3
  obtain ⟨rfl, ee⟩ := q3
  obtain rfl := ee.symm
  refine ⟨_, fun _ hx => Or.inl hx, ?_⟩
  show oGo l Z a0 EL True pP eE sS mM _ bB tT cC _ _ _ _ _ _ _ _ [] h 0 0 4 #[.val (.ref t), .val (.int ch), .val (.int (Int32.ofNat cs.length - 1)), .unset] [.int (1 : Int32)]
  refine oGo.if_ne (pc1 := 7) (pc2 := 9) d12_4 rfl (by decide) (fun q4 => ?_) (fun q => by first | exact absurd q (by decide) | exact absurd (by decide) q)
  refine oGo.iload_n (pc' := 10) d12_9 rfl rfl ?_
  refine oGo.aload_n (pc' := 11) d12_10 rfl rfl rfl ?_
  refine oGo.arraylength (pc' := 12) (z := (Int32.ofNat cs.length)) d12_11 rfl B (by rw [List.length_map, List.length_map]) ?_
  refine oGo.iconst (pc' := 13) (v := 1) d12_12 rfl (by decide) ?_
  refine oGo.isub (pc' := 14) d12_13 rfl ?_
  refine oGo.invokestatic (pc' := 17) (k' := 0) (n' := 0) (argsL := [.int (Int32.ofNat cs.length - 1), .int ((Int32.ofNat cs.length) - (1 : Int32))]) (rest := []) d12_14 rfl (w67 hG) (w68 hG) (w69 hG) (w70 hG) (by decide) pd10 rfl rfl rfl (c_minI hG _ _ h) (by simp) (by decide) (Nat.le_of_ble_eq_true rfl) rfl rfl (by decide) (by decide) ?_
  intro v5 h6 sh6 q7
  obtain ⟨rfl, ee⟩ := q7
  obtain rfl := ee.symm
  refine ⟨_, fun _ hx => Or.inl hx, ?_⟩
  show oGo l Z a0 EL True pP eE sS mM _ bB tT cC _ _ _ _ _ _ _ _ [] h 0 0 17 #[.val (.ref t), .val (.int ch), .val (.int (Int32.ofNat cs.length - 1)), .unset] [.int (if Int32.ofNat cs.length - (1 : Int32) < Int32.ofNat cs.length - 1 then Int32.ofNat cs.length - (1 : Int32) else Int32.ofNat cs.length - 1)]
  rw [if_neg Int32.lt_irrefl]
  refine oGo.istore_n (pc' := 18) (Ls' := #[.val (.ref t), .val (.int ch), .val (.int (Int32.ofNat cs.length - 1)), .val (.int (Int32.ofNat cs.length - 1))]) d12_17 rfl rfl ?_
  have loop : ∀ (i : Nat), i ≤ cs.length → lastM ch cs = lastM ch (cs.take i) → oGo l Z a0 EL True pP eE sS mM #[.ref t, .int ch, .int (Int32.ofNat cs.length - 1)] bB tT cC ({ frames := 1, cells := 0, slots := 0, locals := 13 } : Room) "java/lang/StringLatin1" jdk_43_method_27_code 4 (some .int) "lastIndexOf" (fun v h' => v = some (.int (Int32.ofNat (lastM ch cs) - 1)) ∧ h' = h) oNo [] h 0 0 18 #[.val (.ref t), .val (.int ch), .val (.int (Int32.ofNat cs.length - 1)), .val (.int (Int32.ofNat i - 1))] [] := by
    intro i
    induction i with
    | zero =>
      intro hi hm
      refine oGo.iload_n (pc' := 19) d12_18 rfl rfl ?_
      refine oGo.if_lt (pc1 := 22) (pc2 := 38) d12_19 rfl (by decide) (fun q8 => ?_) (fun q => by first | exact absurd q (by decide) | exact absurd (by decide) q)
      refine oGo.iconst (pc' := 39) (v := -1) d12_38 rfl (by decide) ?_
      exact oGo.ireturn d12_39 rfl (by decide) (by decide) ⟨by rw [hm]; rfl, rfl⟩ (fun _ q => q.elim)
    | succ k ih =>
      intro hi hm
      rw [own_pred]
      obtain ⟨c, hc⟩ : ∃ c, cs[k]? = some c := ⟨_, List.getElem?_eq_getElem (by omega)⟩
      have hcc := hcs c (List.mem_of_getElem? hc)
      rw [own_take_succ cs k c hc, lastM_snoc, List.length_take, Nat.min_eq_left (by omega)] at hm
      refine oGo.iload_n (pc' := 19) d12_18 rfl rfl ?_
      refine oGo.if_lt (pc1 := 22) (pc2 := 38) d12_19 rfl (by decide) (fun q => absurd q (own_nn (by omega))) (fun q9 => ?_)
      refine oGo.aload_n (pc' := 23) d12_22 rfl rfl rfl ?_
      refine oGo.iload_n (pc' := 24) d12_23 rfl rfl ?_
      refine oGo.baload (pc' := 25) (i := k) d12_24 rfl B rfl (v := .int (lo8 c)) (by simp [hc]) ?_
      refine oGo.iload_n (pc' := 26) d12_25 rfl rfl ?_
      refine oGo.i2b (pc' := 27) d12_26 rfl ?_
      refine oGo.icmp_ne (pc1 := 30) (pc2 := 32) d12_27 rfl (by decide) (fun q => ?_) (fun q => ?_)
      · refine oGo.iinc (pc' := 35) (y := -1) (Ls' := #[.val (.ref t), .val (.int ch), .val (.int (Int32.ofNat cs.length - 1)), .val (.int ((Int32.ofNat k) + (-1 : Int32)))]) d12_32 rfl rfl (by decide) rfl ?_
        refine oGo.goto (pc' := 18) d12_35 (by decide) ?_
        rw [own_dec]
        exact ih (by omega) (by rw [hm, if_neg (fun q' => q (by rw [q']; rfl))])
      · refine oGo.iload_n (pc' := 31) d12_30 rfl rfl ?_
        exact oGo.ireturn d12_31 rfl (by decide) (by decide) ⟨by rw [hm, if_pos (lo8_inj hcc hch q), own_pred], rfl⟩ (fun _ q => q.elim)
  exact loop cs.length (Nat.le_refl _) (by rw [List.take_length])
set_option maxRecDepth 65536 in
set_option maxHeartbeats 4000000 in
theorem c_last2 {l : Launch} {Z : State} {a0 : Array Value} {EL : List (String × Nat)} (hG : oG a0 Z EL) (x t : Nat) (cs : List Int32) (ch : Int32) (hch : ¬ ch < 0 ∧ ¬ 255 < ch) (h : Heap) (Sx : oS Z h x t cs) :
    oCtr [] l Z a0 EL True (⟨"java/lang/String", "lastIndexOf", "(II)I"⟩ : MethodName) jdk_42_method_83_code 3 (some .int) ({ frames := 2, cells := 0, slots := 0, locals := 28 } : Room) #[.ref x, .int ch, .int (Int32.ofNat cs.length - 1)] [] h (fun v h' => v = some (.int (Int32.ofNat (lastM ch cs) - 1)) ∧ h' = h) oNo := by
  refine oCtr.enter (Ls := #[.val (.ref x), .val (.int ch), .val (.int (Int32.ofNat cs.length - 1))]) (plainFor_of_name pn1) hG.2.1 (fun m => by first | (simp [entryFrame, mkF, argsToLocals, Value.category]; done) | rfl) ?_
  intro pP eE sS mM bB tT cC
  refine oGo.aload_n (pc' := 1) d10_0 rfl rfl rfl ?_
  refine oGo.invokevirtual (pc' := 4) (k' := 0) (n' := 0) (a := x) (argsL := []) (rest := []) d10_1 rfl (w55 hG) (w56 hG) (w58 hG) (w57 hG) (w10 hG) (w59 hG) (by decide) pd7 rfl rfl rfl Sx.1 (c_isLatin1 hG x 0 h Sx.2.2.1) (by simp) (by decide) (Nat.le_of_ble_eq_true rfl) rfl rfl (by decide) (by decide) ?_
  intro v1 h2 sh2 q3
  obtain ⟨rfl, ee⟩ := q3
  obtain rfl := ee.symm
  refine ⟨_, fun _ hx => Or.inl hx, ?_⟩
  show oGo l Z a0 EL True pP eE sS mM _ bB tT cC _ _ _ _ _ _ _ _ [] h 0 0 4 #[.val (.ref x), .val (.int ch), .val (.int (Int32.ofNat cs.length - 1))] [.int (1 : Int32)]
  refine oGo.if_eq (pc1 := 7) (pc2 := 19) d10_4 rfl (by decide) (fun q => by first | exact absurd q (by decide) | exact absurd (by decide) q) (fun q4 => ?_)
  refine oGo.aload_n (pc' := 8) d10_7 rfl rfl rfl ?_
  refine oGo.getfield (pc' := 11) d10_8 rfl (w28 hG) Via.refl Sx.2.1 ?_
  refine oGo.iload_n (pc' := 12) d10_11 rfl rfl ?_
  refine oGo.iload_n (pc' := 13) d10_12 rfl rfl ?_
  refine oGo.invokestatic (pc' := 16) (k' := 0) (n' := 0) (argsL := [.ref t, .int ch, .int (Int32.ofNat cs.length - 1)]) (rest := []) d10_13 rfl (w60 hG) (w61 hG) (w62 hG) (w63 hG) (by decide) pd11 rfl rfl rfl (c_latLast hG t cs ch hch Sx.2.2.2.2 h Sx.2.2.2.1) (by simp) (by decide) (Nat.le_of_ble_eq_true rfl) rfl rfl (by decide) (by decide) ?_
  intro v5 h6 sh6 q7
  obtain ⟨rfl, ee⟩ := q7
  obtain rfl := ee.symm
  refine ⟨_, fun _ hx => Or.inl hx, ?_⟩
  show oGo l Z a0 EL True pP eE sS mM _ bB tT cC _ _ _ _ _ _ _ _ [] h 0 0 16 #[.val (.ref x), .val (.int ch), .val (.int (Int32.ofNat cs.length - 1))] [.int (Int32.ofNat (lastM ch cs) - 1)]
  refine oGo.goto (pc' := 28) d10_16 (by decide) ?_
  exact oGo.ireturn d10_28 rfl (by decide) (by decide) ⟨rfl, rfl⟩ (fun _ q => q.elim)
set_option maxRecDepth 65536 in
set_option maxHeartbeats 4000000 in
theorem c_last1 {l : Launch} {Z : State} {a0 : Array Value} {EL : List (String × Nat)} (hG : oG a0 Z EL) (x t : Nat) (cs : List Int32) (ch : Int32) (hch : ¬ ch < 0 ∧ ¬ 255 < ch) (h : Heap) (Sx : oS Z h x t cs) :
    oCtr [] l Z a0 EL True (⟨"java/lang/String", "lastIndexOf", "(I)I"⟩ : MethodName) jdk_42_method_82_code 2 (some .int) ({ frames := 3, cells := 0, slots := 0, locals := 42 } : Room) #[.ref x, .int ch] [] h (fun v h' => v = some (.int (Int32.ofNat (lastM ch cs) - 1)) ∧ h' = h) oNo := by
  refine oCtr.enter (Ls := #[.val (.ref x), .val (.int ch)]) (plainFor_of_name pn1) hG.2.1 (fun m => by first | (simp [entryFrame, mkF, argsToLocals, Value.category]; done) | rfl) ?_
  intro pP eE sS mM bB tT cC
  refine oGo.aload_n (pc' := 1) d7_0 rfl rfl rfl ?_
  refine oGo.iload_n (pc' := 2) d7_1 rfl rfl ?_
  refine oGo.aload_n (pc' := 3) d7_2 rfl rfl rfl ?_
  refine oGo.invokevirtual (pc' := 6) (k' := 0) (n' := 0) (a := x) (argsL := []) (rest := [.int ch, .ref x]) d7_3 rfl (w39 hG) (w40 hG) (w42 hG) (w41 hG) (w10 hG) (w43 hG) (by decide) pd12 rfl rfl rfl Sx.1 (c_length hG x t cs h Sx) (by simp) (by decide) (Nat.le_of_ble_eq_true rfl) rfl rfl (by decide) (by decide) ?_
  intro v1 h2 sh2 q3
  obtain ⟨rfl, ee⟩ := q3
  obtain rfl := ee.symm
  refine ⟨_, fun _ hx => Or.inl hx, ?_⟩
  show oGo l Z a0 EL True pP eE sS mM _ bB tT cC _ _ _ _ _ _ _ _ [] h 0 0 6 #[.val (.ref x), .val (.int ch)] [.int (Int32.ofNat cs.length), .int ch, .ref x]
  refine oGo.iconst (pc' := 7) (v := 1) d7_6 rfl (by decide) ?_
  refine oGo.isub (pc' := 8) d7_7 rfl ?_
  refine oGo.invokevirtual (pc' := 11) (k' := 0) (n' := 0) (a := x) (argsL := [.int ch, .int ((Int32.ofNat cs.length) - (1 : Int32))]) (rest := []) d7_8 rfl (w50 hG) (w51 hG) (w53 hG) (w52 hG) (w10 hG) (w54 hG) (by decide) pd10 rfl rfl rfl Sx.1 (c_last2 hG x t cs ch hch h Sx) (by simp) (by decide) (Nat.le_of_ble_eq_true rfl) rfl rfl (by decide) (by decide) ?_
  intro v4 h5 sh5 q6
  obtain ⟨rfl, ee⟩ := q6
  obtain rfl := ee.symm
  refine ⟨_, fun _ hx => Or.inl hx, ?_⟩
  show oGo l Z a0 EL True pP eE sS mM _ bB tT cC _ _ _ _ _ _ _ _ [] h 0 0 11 #[.val (.ref x), .val (.int ch)] [.int (Int32.ofNat (lastM ch cs) - 1)]
  exact oGo.ireturn d7_11 rfl (by decide) (by decide) ⟨rfl, rfl⟩ (fun _ q => q.elim)
set_option maxRecDepth 65536 in
set_option maxHeartbeats 4000000 in
theorem c_min {l : Launch} {Z : State} {a0 : Array Value} {EL : List (String × Nat)} (hG : oG a0 Z EL) (i j : Nat) (hi : i < 2147483648) (hj : j < 2147483648) (h : Heap)  :
    oCtr [] l Z a0 EL True (⟨"java/lang/Math", "min", "(II)I"⟩ : MethodName) jdk_29_method_69_code 2 (some .int) ({ frames := 0, cells := 0, slots := 0, locals := 0 } : Room) #[.int (Int32.ofNat i), .int (Int32.ofNat j)] [] h (fun v h' => v = some (.int (Int32.ofNat (min i j))) ∧ h' = h) oNo := by
  refine oCtr.enter (Ls := #[.val (.int (Int32.ofNat i)), .val (.int (Int32.ofNat j))]) (Jvm.Free.JP.mathPlain rfl (by decide +kernel)) hG.2.1 (fun m => by first | (simp [entryFrame, mkF, argsToLocals, Value.category]; done) | rfl) ?_
  intro pP eE sS mM bB tT cC
  refine oGo.iload_n (pc' := 1) d14_0 rfl rfl ?_
  refine oGo.iload_n (pc' := 2) d14_1 rfl rfl ?_
  refine oGo.icmp_gt (pc1 := 5) (pc2 := 9) d14_2 rfl (by decide) (fun q => ?_) (fun q => ?_)
  · refine oGo.iload_n (pc' := 10) d14_9 rfl rfl ?_
    exact oGo.ireturn d14_10 rfl (by decide) (by decide) ⟨by rw [Nat.min_eq_right (by rw [own_lt hj hi] at q; omega)], rfl⟩ (fun _ q => q.elim)
  · refine oGo.iload_n (pc' := 6) d14_5 rfl rfl ?_
    refine oGo.goto (pc' := 10) d14_6 (by decide) ?_
    exact oGo.ireturn d14_10 rfl (by decide) (by decide) ⟨by rw [Nat.min_eq_left (by rw [own_lt hj hi] at q; omega)], rfl⟩ (fun _ q => q.elim)
set_option maxRecDepth 65536 in
set_option maxHeartbeats 4000000 in
theorem c_checkLength {l : Launch} {Z : State} {a0 : Array Value} {EL : List (String × Nat)} (hG : oG a0 Z EL) (i j : Nat) (hij : i ≤ j) (hj : j < 2147483648) (h : Heap)  :
    oCtr [] l Z a0 EL True (⟨"java/util/Arrays", "checkLength", "(II)V"⟩ : MethodName) jdk_65_method_131_code 2 none ({ frames := 0, cells := 0, slots := 0, locals := 0 } : Room) #[.int (Int32.ofNat i), .int (Int32.ofNat j)] [] h (fun v h' => v = none ∧ h' = h) oNo := by
  refine oCtr.enter (Ls := #[.val (.int (Int32.ofNat i)), .val (.int (Int32.ofNat j))]) (plainFor_of_name pn4) hG.2.1 (fun m => by first | (simp [entryFrame, mkF, argsToLocals, Value.category]; done) | rfl) ?_
  intro pP eE sS mM bB tT cC
  refine oGo.iload_n (pc' := 1) d29_0 rfl rfl ?_
  refine oGo.iload_n (pc' := 2) d29_1 rfl rfl ?_
  refine oGo.icmp_ge (pc1 := 5) (pc2 := 37) d29_2 rfl (by decide) (fun q1 => ?_) (fun q => absurd q (by rw [own_lt hj (by omega)]; omega))
  exact oGo.return_ d29_37 rfl (by decide) (by decide) ⟨rfl, rfl⟩ (fun _ q => q.elim)
abbrev q_cor (Z : State) (h : Heap) (vs : List Value) (i j : Nat) : Option Value → Heap → Prop := fun v h' => Keep h h' [] ∧ ∃ t : Nat, v = some (.ref t) ∧ h.size ≤ t ∧ oArr Z h' t .byte ((vs.drop i).take (j - i))
set_option maxRecDepth 65536 in
set_option maxHeartbeats 4000000 in
theorem c_corb {l : Launch} {Z : State} {a0 : Array Value} {EL : List (String × Nat)} (hG : oG a0 Z EL) (a : Nat) (vs : List Value) (i j : Nat) (hij : i ≤ j) (hj : j ≤ vs.length) (hN : j - i ≤ 4) (h : Heap) (A : oArr Z h a .byte vs) :
    oCtr [] l Z a0 EL True (⟨"java/util/Arrays", "copyOfRangeByte", "([BII)[B"⟩ : MethodName) jdk_65_method_133_code 5 (some (.array .byte)) ({ frames := 1, cells := 1, slots := 4, locals := 18 } : Room) #[.ref a, .int (Int32.ofNat i), .int (Int32.ofNat j)] [] h ((q_cor Z h vs i j)) oRet := by
  have hb31 : vs.length < 2147483648 := by obtain ⟨_, _, _, q, _⟩ := A; exact q
  have hal := own_ltN A.lt
  refine oCtr.enter (Ls := #[.val (.ref a), .val (.int (Int32.ofNat i)), .val (.int (Int32.ofNat j)), .unset, .unset]) (plainFor_of_name pn4) hG.2.1 (fun m => by first | (simp [entryFrame, mkF, argsToLocals, Value.category]; done) | rfl) ?_
  intro pP eE sS mM bB tT cC
  refine oGo.iload_n (pc' := 1) d28_0 rfl rfl ?_
  refine oGo.iload_n (pc' := 2) d28_1 rfl rfl ?_
  refine oGo.invokestatic (pc' := 5) (k' := 0) (n' := 0) (argsL := [.int (Int32.ofNat i), .int (Int32.ofNat j)]) (rest := []) d28_2 rfl (w124 hG) (w125 hG) (w119 hG) (w126 hG) (by decide) pd6 rfl rfl rfl (c_checkLength hG i j hij (by omega) h) (by simp) (by decide) (Nat.le_of_ble_eq_true rfl) rfl rfl (by decide) (by decide) ?_
  intro v1 h2 sh2 q3
  obtain ⟨rfl, ee⟩ := q3
  obtain rfl := ee.symm
  refine ⟨_, fun _ hx => Or.inl hx, ?_⟩
  show oGo l Z a0 EL True pP eE sS mM _ bB tT cC _ _ _ _ _ _ _ _ [] h 0 0 5 #[.val (.ref a), .val (.int (Int32.ofNat i)), .val (.int (Int32.ofNat j)), .unset, .unset] []
  refine oGo.iload_n (pc' := 6) d28_5 rfl rfl ?_
  refine oGo.iload_n (pc' := 7) d28_6 rfl rfl ?_
  refine oGo.isub (pc' := 8) d28_7 rfl ?_
  rw [own_subN hij (by omega)]
  refine oGo.istore_n (pc' := 9) (Ls' := #[.val (.ref a), .val (.int (Int32.ofNat i)), .val (.int (Int32.ofNat j)), .val (.int (Int32.ofNat (j - i))), .unset]) d28_8 rfl rfl ?_
  refine oGo.iload_n (pc' := 10) d28_9 rfl rfl ?_
  refine oGo.newarray (pc' := 12) (k' := 1) (n' := 4) (i := (j - i)) d28_10 rfl (w23 hG) rfl 4 (hN) (by decide) rfl rfl (by decide) (by decide) (by decide) ?_
  intro h4 a5 qa5 la5 E6 A7'
  have A7 : oArr Z h4 a5 .byte (List.replicate ((j - i)) (.int 0)) := A7'
  refine oGo.astore (pc' := 14) (Ls' := #[.val (.ref a), .val (.int (Int32.ofNat i)), .val (.int (Int32.ofNat j)), .val (.int (Int32.ofNat (j - i))), .val (.ref a5)]) d28_12 rfl rfl rfl ?_
  refine oGo.aload_n (pc' := 15) d28_14 rfl rfl rfl ?_
  refine oGo.iload_n (pc' := 16) d28_15 rfl rfl ?_
  refine oGo.aload (pc' := 18) d28_16 rfl rfl rfl ?_
  refine oGo.iconst (pc' := 19) (v := 0) d28_18 rfl (by decide) ?_
  refine oGo.aload_n (pc' := 20) d28_19 rfl rfl rfl ?_
  have f8 := oArr.ext E6 A
  refine oGo.arraylength (pc' := 21) (z := (Int32.ofNat vs.length)) d28_20 rfl f8 rfl ?_
  refine oGo.iload_n (pc' := 22) d28_21 rfl rfl ?_
  refine oGo.isub (pc' := 23) d28_22 rfl ?_
  rw [own_subN (i := i) (j := vs.length) (by omega) hb31]
  refine oGo.iload_n (pc' := 24) d28_23 rfl rfl ?_
  refine oGo.invokestatic (pc' := 27) (k' := 1) (n' := 4) (argsL := [.int (Int32.ofNat (vs.length - i)), .int (Int32.ofNat (j - i))]) (rest := [.int (0 : Int32), .ref a5, .int (Int32.ofNat i), .ref a]) d28_24 rfl (w127 hG) (w68 hG) (w69 hG) (w70 hG) (by decide) pd10 rfl rfl rfl (c_min hG (vs.length - i) (j - i) (by omega) (by omega) _) (by simp) (by decide) (Nat.le_of_ble_eq_true rfl) rfl rfl (by decide) (by decide) ?_
  intro v9 h10 sh10 q11
  obtain ⟨rfl, ee⟩ := q11
  obtain rfl := ee.symm
  refine ⟨_, fun _ hx => Or.inl hx, ?_⟩
  show oGo l Z a0 EL True pP eE sS mM _ bB tT cC _ _ _ _ _ _ _ _ [a5] h4 1 4 27 #[.val (.ref a), .val (.int (Int32.ofNat i)), .val (.int (Int32.ofNat j)), .val (.int (Int32.ofNat (j - i))), .val (.ref a5)] [.int (Int32.ofNat (min (vs.length - i) (j - i))), .int (0 : Int32), .ref a5, .int (Int32.ofNat i), .ref a]
  rw [Nat.min_eq_right (by omega : j - i ≤ vs.length - i)]
  refine oGo.arraycopy (pc' := 30) (i := i) (j := 0) (q := (j - i)) d28_27 rfl (w128 hG) (w131 hG) (w129 hG) (w130 hG) f8 A7 (by omega) (by simp) rfl (by decide) (Nat.le_of_ble_eq_true rfl) (by simp) ?_
  intro h12 K13 sh12 A14
  refine oGo.aload (pc' := 32) d28_30 rfl rfl rfl ?_
  exact oGo.areturn d28_32 rfl rfl rfl rfl (by decide) (by decide) ⟨((Keep.refl h []).ext E6).trans K13 (own_new1 (by omega)), a5, rfl, by omega, by simpa using A14⟩ (fun x q => by cases q; simp)
set_option maxRecDepth 65536 in
set_option maxHeartbeats 4000000 in
theorem c_cor {l : Launch} {Z : State} {a0 : Array Value} {EL : List (String × Nat)} (hG : oG a0 Z EL) (a : Nat) (vs : List Value) (i j : Nat) (hij : i ≤ j) (hj : j ≤ vs.length) (hN : j - i ≤ 4) (hne : ¬ (i = 0 ∧ j = vs.length)) (h : Heap) (A : oArr Z h a .byte vs) :
    oCtr [] l Z a0 EL True (⟨"java/util/Arrays", "copyOfRange", "([BII)[B"⟩ : MethodName) jdk_65_method_132_code 3 (some (.array .byte)) ({ frames := 2, cells := 1, slots := 4, locals := 34 } : Room) #[.ref a, .int (Int32.ofNat i), .int (Int32.ofNat j)] [] h ((q_cor Z h vs i j)) oRet := by
  have hb31 : vs.length < 2147483648 := by obtain ⟨_, _, _, q, _⟩ := A; exact q
  refine oCtr.enter (Ls := #[.val (.ref a), .val (.int (Int32.ofNat i)), .val (.int (Int32.ofNat j))]) (plainFor_of_name pn4) hG.2.1 (fun m => by first | (simp [entryFrame, mkF, argsToLocals, Value.category]; done) | rfl) ?_
  intro pP eE sS mM bB tT cC
  refine oGo.iload_n (pc' := 1) d27_0 rfl rfl ?_
  refine oGo.if_ne (pc1 := 4) (pc2 := 10) d27_1 rfl (by decide) (fun q => ?_) (fun q => ?_)
  · refine oGo.aload_n (pc' := 11) d27_10 rfl rfl rfl ?_
    refine oGo.iload_n (pc' := 12) d27_11 rfl rfl ?_
    refine oGo.iload_n (pc' := 13) d27_12 rfl rfl ?_
    refine oGo.invokestatic (pc' := 16) (k' := 1) (n' := 4) (argsL := [.ref a, .int (Int32.ofNat i), .int (Int32.ofNat j)]) (rest := []) d27_13 rfl (w121 hG) (w122 hG) (w119 hG) (w123 hG) (by decide) pd13 rfl rfl rfl (c_corb hG a vs i j hij hj hN h A) (by simp) (by decide) (Nat.le_of_ble_eq_true rfl) rfl rfl (by decide) (by decide) ?_
    intro v1 h2 sh2 q3
    obtain ⟨K2, t, rfl, ht, B⟩ := q3
    refine ⟨[t], own_D1 (rfl), ?_⟩
    show oGo l Z a0 EL True pP eE sS mM _ bB tT cC _ _ _ _ _ _ _ _ [t] h2 1 4 16 #[.val (.ref a), .val (.int (Int32.ofNat i)), .val (.int (Int32.ofNat j))] [.ref t]
    exact oGo.areturn d27_16 rfl rfl rfl rfl (by decide) (by decide) ⟨K2, t, rfl, ht, B⟩ (fun x q => by cases q; simp)
  · have hi0 : i = 0 := (own_eq (b := 0) (by omega) (by omega)).mp q
    refine oGo.iload_n (pc' := 5) d27_4 rfl rfl ?_
    refine oGo.aload_n (pc' := 6) d27_5 rfl rfl rfl ?_
    refine oGo.arraylength (pc' := 7) (z := (Int32.ofNat vs.length)) d27_6 rfl A rfl ?_
    refine oGo.icmp_eq (pc1 := 10) (pc2 := 17) d27_7 rfl (by decide) (fun q => absurd ⟨hi0, (own_eq (by omega) hb31).mp q⟩ hne) (fun q4 => ?_)
    refine oGo.aload_n (pc' := 11) d27_10 rfl rfl rfl ?_
    refine oGo.iload_n (pc' := 12) d27_11 rfl rfl ?_
    refine oGo.iload_n (pc' := 13) d27_12 rfl rfl ?_
    refine oGo.invokestatic (pc' := 16) (k' := 1) (n' := 4) (argsL := [.ref a, .int (Int32.ofNat i), .int (Int32.ofNat j)]) (rest := []) d27_13 rfl (w121 hG) (w122 hG) (w119 hG) (w123 hG) (by decide) pd13 rfl rfl rfl (c_corb hG a vs i j hij hj hN h A) (by simp) (by decide) (Nat.le_of_ble_eq_true rfl) rfl rfl (by decide) (by decide) ?_
    intro v5 h6 sh6 q7
    obtain ⟨K2, t, rfl, ht, B⟩ := q7
    refine ⟨[t], own_D1 (rfl), ?_⟩
    show oGo l Z a0 EL True pP eE sS mM _ bB tT cC _ _ _ _ _ _ _ _ [t] h6 1 4 16 #[.val (.ref a), .val (.int (Int32.ofNat i)), .val (.int (Int32.ofNat j))] [.ref t]
    exact oGo.areturn d27_16 rfl rfl rfl rfl (by decide) (by decide) ⟨K2, t, rfl, ht, B⟩ (fun x q => by cases q; simp)
set_option maxRecDepth 65536 in
set_option maxHeartbeats 4000000 in
theorem c_fromTo {l : Launch} {Z : State} {a0 : Array Value} {EL : List (String × Nat)} (hG : oG a0 Z EL) (i j n : Nat) (hij : i ≤ j) (hjn : j ≤ n) (hn : n < 2147483648) (fm : Value) (hf : fm.isRef = true) (h : Heap)  :
    oCtr [] l Z a0 EL True (⟨"jdk/internal/util/Preconditions", "checkFromToIndex", "(IIILjava/util/function/BiFunction;)I"⟩ : MethodName) jdk_41_method_12_code 4 (some .int) ({ frames := 0, cells := 0, slots := 0, locals := 0 } : Room) #[.int (Int32.ofNat i), .int (Int32.ofNat j), .int (Int32.ofNat n), fm] [] h (fun v h' => v = some (.int (Int32.ofNat i)) ∧ h' = h) oNo := by
  refine oCtr.enter (Ls := #[.val (.int (Int32.ofNat i)), .val (.int (Int32.ofNat j)), .val (.int (Int32.ofNat n)), .val fm]) (plainFor_of_name pn2) hG.2.1 (fun m => by rcases ref_cases hf with rfl | ⟨_, rfl⟩ <;> first | (simp [entryFrame, mkF, argsToLocals, Value.category]; done) | rfl) ?_
  intro pP eE sS mM bB tT cC
  refine oGo.iload_n (pc' := 1) d17_0 rfl rfl ?_
  refine oGo.if_lt (pc1 := 4) (pc2 := 14) d17_1 rfl (by decide) (fun q => absurd q (own_nn (by omega))) (fun q1 => ?_)
  refine oGo.iload_n (pc' := 5) d17_4 rfl rfl ?_
  refine oGo.iload_n (pc' := 6) d17_5 rfl rfl ?_
  refine oGo.icmp_gt (pc1 := 9) (pc2 := 14) d17_6 rfl (by decide) (fun q => absurd q (by rw [own_lt (by omega) (by omega)]; omega)) (fun q2 => ?_)
  refine oGo.iload_n (pc' := 10) d17_9 rfl rfl ?_
  refine oGo.iload_n (pc' := 11) d17_10 rfl rfl ?_
  refine oGo.icmp_le (pc1 := 14) (pc2 := 22) d17_11 rfl (by decide) (fun q3 => ?_) (fun q => absurd q (by rw [own_lt (by omega) (by omega)]; omega))
  refine oGo.iload_n (pc' := 23) d17_22 rfl rfl ?_
  exact oGo.ireturn d17_23 rfl (by decide) (by decide) ⟨rfl, rfl⟩ (fun _ q => q.elim)
set_option maxRecDepth 65536 in
set_option maxHeartbeats 4000000 in
theorem c_bounds {l : Launch} {Z : State} {a0 : Array Value} {EL : List (String × Nat)} (hG : oG a0 Z EL) (i j n : Nat) (hij : i ≤ j) (hjn : j ≤ n) (hn : n < 2147483648) (h : Heap)  :
    oCtr [] l Z a0 EL True (⟨"java/lang/String", "checkBoundsBeginEnd", "(III)V"⟩ : MethodName) jdk_42_method_158_code 3 none ({ frames := 1, cells := 0, slots := 0, locals := 15 } : Room) #[.int (Int32.ofNat i), .int (Int32.ofNat j), .int (Int32.ofNat n)] [] h (fun v h' => v = none ∧ h' = h) oNo := by
  obtain ⟨fm, hfs, hfr⟩ := sSIOOBE hG
  refine oCtr.enter (Ls := #[.val (.int (Int32.ofNat i)), .val (.int (Int32.ofNat j)), .val (.int (Int32.ofNat n))]) (plainFor_of_name pn1) hG.2.1 (fun m => by first | (simp [entryFrame, mkF, argsToLocals, Value.category]; done) | rfl) ?_
  intro pP eE sS mM bB tT cC
  refine oGo.iload_n (pc' := 1) d16_0 rfl rfl ?_
  refine oGo.iload_n (pc' := 2) d16_1 rfl rfl ?_
  refine oGo.iload_n (pc' := 3) d16_2 rfl rfl ?_
  refine oGo.getstatic (pc' := 6) d16_3 rfl (w79 hG) Via.refl hfs ?_
  refine oGo.invokestatic (pc' := 9) (k' := 0) (n' := 0) (argsL := [.int (Int32.ofNat i), .int (Int32.ofNat j), .int (Int32.ofNat n), fm]) (rest := []) d16_6 rfl (w81 hG) (w82 hG) (w80 hG) (w83 hG) (by decide) pd14 rfl rfl rfl (c_fromTo hG i j n hij hjn hn fm hfr h) (by simp) (by decide) (Nat.le_of_ble_eq_true rfl) rfl rfl (by decide) (by decide) ?_
  intro v1 h2 sh2 q3
  obtain ⟨rfl, ee⟩ := q3
  obtain rfl := ee.symm
  refine ⟨_, fun _ hx => Or.inl hx, ?_⟩
  show oGo l Z a0 EL True pP eE sS mM _ bB tT cC _ _ _ _ _ _ _ _ [] h 0 0 9 #[.val (.int (Int32.ofNat i)), .val (.int (Int32.ofNat j)), .val (.int (Int32.ofNat n))] [.int (Int32.ofNat i)]
  refine oGo.pop (pc' := 10) d16_9 rfl rfl ?_
  exact oGo.return_ d16_10 rfl (by decide) (by decide) ⟨rfl, rfl⟩ (fun _ q => q.elim)
set_option maxRecDepth 65536 in
set_option maxHeartbeats 4000000 in
theorem c_strBB {l : Launch} {Z : State} {a0 : Array Value} {EL : List (String × Nat)} (hG : oG a0 Z EL) (x t : Nat) (cs : List Int32) (hcs : ∀ c ∈ cs, ¬ c < 0 ∧ ¬ 255 < c) (u w0 : Value) (hne : t ≠ x) (h : Heap) (B : oArr Z h t .byte (oI (cs.map lo8))) (E : Exa Z h x "java/lang/String") (F1 : Fld Z h x "java/lang/String" "value" "[B" u) (F2 : Fld Z h x "java/lang/String" "coder" "B" w0) :
    oCtr [] l Z a0 EL True (⟨"java/lang/String", "<init>", "([BB)V"⟩ : MethodName) jdk_42_method_151_code 3 none ({ frames := 1, cells := 0, slots := 0, locals := 12 } : Room) #[.ref x, .ref t, .int (0 : Int32)] [x] h (fun v h' => v = none ∧ Keep h h' [x] ∧ oS Z h' x t cs) oNo := by
  refine oCtr.enter (Ls := #[.val (.ref x), .val (.ref t), .val (.int (0 : Int32))]) (plainFor_of_name pn1) hG.2.1 (fun m => by first | (simp [entryFrame, mkF, argsToLocals, Value.category]; done) | rfl) ?_
  intro pP eE sS mM bB tT cC
  refine oGo.aload_n (pc' := 1) d30_0 rfl rfl rfl ?_
  refine oGo.objinit (pc' := 4) d30_1 rfl (w19 hG) (w20 hG) (w21 hG) rfl (by decide) (Nat.le_of_ble_eq_true rfl) ?_
  refine oGo.aload_n (pc' := 5) d30_4 rfl rfl rfl ?_
  refine oGo.aload_n (pc' := 6) d30_5 rfl rfl rfl ?_
  refine oGo.putfield (pc' := 9) (ty := (.array .byte)) d30_6 rfl (w28 hG) Via.refl F1 E (Or.inr ⟨(w24 hG), rfl, rfl⟩) (w9 hG) (by decide) rfl rfl (by simp) ?_
  intro h1 W2 sh1
  have f3 := Fld.same W2 F1
  refine oGo.aload_n (pc' := 10) d30_9 rfl rfl rfl ?_
  refine oGo.iload_n (pc' := 11) d30_10 rfl rfl ?_
  have f4 := Fld.other W2 F2 (Or.inr (slot_ne (C := "java/lang/String") (Or.inr (w25 hG)) (Or.inr (w24 hG)) (by decide) (t := .byte) (t' := (.array .byte)) (by decide) (by decide)))
  have f5 := Exa.wr W2 E
  refine oGo.putfield (pc' := 14) (ty := .byte) d30_11 rfl (w29 hG) Via.refl f4 f5 (Or.inr ⟨(w25 hG), rfl, rfl⟩) (w9 hG) (by decide) (by decide) (by decide) (by simp) ?_
  intro h6 W7 sh6
  have f8 := Fld.same W7 f4
  have f9 := Exa.wr W7 f5
  have f10 := Fld.other W7 f3 (Or.inr (slot_ne (C := "java/lang/String") (Or.inr (w24 hG)) (Or.inr (w25 hG)) (by decide) (t := (.array .byte)) (t' := .byte) (by decide) (by decide)))
  have f11 := oArr.other W2 B (own_ne (by omega))
  have f12 := oArr.other W7 f11 (own_ne (by omega))
  exact oGo.return_ d30_14 rfl (by decide) (by decide) ⟨rfl, ((Keep.refl h [x]).wr W2 (Or.inl (by simp))).wr W7 (Or.inl (by simp)), f9, f10, f8, f12, hcs⟩ (fun _ q => q.elim)
abbrev q_sub (Z : State) (h : Heap) (cs : List Int32) : Option Value → Heap → Prop := fun v h' => Keep h h' [] ∧ ∃ y u : Nat, v = some (.ref y) ∧ oS Z h' y u cs
set_option maxRecDepth 65536 in
set_option maxHeartbeats 4000000 in
theorem c_newStr {l : Launch} {Z : State} {a0 : Array Value} {EL : List (String × Nat)} (hG : oG a0 Z EL) (t : Nat) (cs : List Int32) (i j : Nat) (hij : i ≤ j) (hj : j ≤ cs.length) (hN : j - i ≤ 4) (hne : ¬ (i = 0 ∧ j = cs.length)) (hcs : ∀ c ∈ cs, ¬ c < 0 ∧ ¬ 255 < c) (h : Heap) (B : oArr Z h t .byte (oI (cs.map lo8))) :
    oCtr [] l Z a0 EL True (⟨"java/lang/StringLatin1", "newString", "([BII)Ljava/lang/String;"⟩ : MethodName) jdk_43_method_47_code 3 (some (.object "java/lang/String")) ({ frames := 3, cells := 2, slots := 8, locals := 50 } : Room) #[.ref t, .int (Int32.ofNat i), .int (Int32.ofNat (j - i))] [] h ((q_sub Z h ((cs.drop i).take (j - i)))) oNo := by
  have hb31 : cs.length < 2147483648 := by obtain ⟨_, _, _, q, _⟩ := B; simpa using q
  have htl := own_ltN B.lt
  refine oCtr.enter (Ls := #[.val (.ref t), .val (.int (Int32.ofNat i)), .val (.int (Int32.ofNat (j - i)))]) (plainFor_of_name pn3) hG.2.1 (fun m => by first | (simp [entryFrame, mkF, argsToLocals, Value.category]; done) | rfl) ?_
  intro pP eE sS mM bB tT cC
  refine oGo.iload_n (pc' := 1) d22_0 rfl rfl ?_
  refine oGo.if_ne (pc1 := 4) (pc2 := 7) d22_1 rfl (by decide) (fun q => ?_) (fun q => ?_)
  · refine oGo.new (pc' := 10) (k' := 1) (n' := 4) d22_7 rfl (w116 hG) (w9 hG) (w10 hG) rfl rfl (by decide) (by decide) ?_
    intro h1 a2 qa2 la2 E3 X4 F5
    have f6 := F5 (Or.inr (w24 hG)) (ty := (.array .byte)) (by decide)
    have f7 := F5 (Or.inr (w25 hG)) (ty := .byte) (by decide)
    refine oGo.dup (pc' := 11) d22_10 rfl rfl ?_
    refine oGo.aload_n (pc' := 12) d22_11 rfl rfl rfl ?_
    refine oGo.iload_n (pc' := 13) d22_12 rfl rfl ?_
    refine oGo.iload_n (pc' := 14) d22_13 rfl rfl ?_
    refine oGo.iload_n (pc' := 15) d22_14 rfl rfl ?_
    refine oGo.iadd (pc' := 16) d22_15 rfl ?_
    rw [← Int32.ofNat_add, show i + (j - i) = j by omega]
    have f8 := oArr.ext E3 B
    refine oGo.invokestatic (pc' := 19) (k' := 2) (n' := 8) (argsL := [.ref t, .int (Int32.ofNat i), .int (Int32.ofNat j)]) (rest := [.ref a2, .ref a2]) d22_16 rfl (w117 hG) (w118 hG) (w119 hG) (w120 hG) (by decide) pd13 rfl rfl rfl (c_cor hG t _ i j (by omega) (by simpa using hj) hN (by simpa using hne) _ f8) (by simp) (by decide) (Nat.le_of_ble_eq_true rfl) rfl rfl (by decide) (by decide) ?_
    intro v9 h10 sh10 q11
    obtain ⟨K2, u, rfl, hu, B2⟩ := q11
    rw [own_sub_map] at B2
    refine ⟨[u, a2], own_D1 (rfl), ?_⟩
    show oGo l Z a0 EL True pP eE sS mM _ bB tT cC _ _ _ _ _ _ _ _ [u, a2] h10 2 8 19 #[.val (.ref t), .val (.int (Int32.ofNat i)), .val (.int (Int32.ofNat (j - i)))] [.ref u, .ref a2, .ref a2]
    refine oGo.iconst (pc' := 20) (v := 0) d22_19 rfl (by decide) ?_
    have f12 := Exa.keep X4 K2
    have f13 := Fld.keep f6 K2 nin0
    have f14 := Fld.keep f7 K2 nin0
    refine oGo.invokespecial (pc' := 23) (k' := 2) (n' := 8) (a := a2) (argsL := [.ref u, .int (0 : Int32)]) (rest := [.ref a2]) d22_20 rfl rfl (w132 hG) (w133 hG) (w10 hG) (w134 hG) (by decide) pd15 rfl rfl rfl (c_strBB hG a2 u _ (fun c hc => hcs c (List.mem_of_mem_drop (List.mem_of_mem_take hc))) _ _ (by omega) _ B2 f12 f13 f14) (by simp) (by decide) (Nat.le_of_ble_eq_true rfl) rfl rfl (by decide) (by decide) ?_
    intro v15 h16 sh16 q17
    obtain ⟨rfl, K3, S3⟩ := q17
    refine ⟨_, fun _ hx => Or.inl hx, ?_⟩
    show oGo l Z a0 EL True pP eE sS mM _ bB tT cC _ _ _ _ _ _ _ _ [u, a2] h16 2 8 23 #[.val (.ref t), .val (.int (Int32.ofNat i)), .val (.int (Int32.ofNat (j - i)))] [.ref a2]
    exact oGo.areturn d22_23 rfl rfl rfl rfl (by decide) (by decide) ⟨(((Keep.refl h []).ext E3).trans K2 (by simp)).trans K3 (own_new1 (by omega)), a2, u, rfl, S3⟩ (fun _ q => q.elim)
  · have hji : j - i = 0 := (own_eq (b := 0) (by omega) (by omega)).mp q
    refine oGo.ldc_str (pc' := 6) (k' := 2) (n' := 4) (vs := oI (([] : List Int32).map lo8)) d22_4 rfl trivial (w101 hG) (strAt hG) (hG.2.2.2 _ (by decide)) (by decide) (by decide) rfl rfl (by decide) (by decide) ?_
    intro h18 a19 b20 E21 Xa19 Ca19 Va19 Ba19 la19 lb20 na19
    have S22 : oS Z h18 a19 b20 [] := ⟨Xa19, Va19, Ca19, Ba19, by decide⟩
    exact oGo.areturn d22_6 rfl rfl rfl rfl (by decide) (by decide) ⟨(Keep.refl h []).ext E21, a19, b20, rfl, by rw [hji, List.take_zero]; exact S22⟩ (fun _ q => q.elim)
set_option maxRecDepth 65536 in
set_option maxHeartbeats 4000000 in
theorem c_sub {l : Launch} {Z : State} {a0 : Array Value} {EL : List (String × Nat)} (hG : oG a0 Z EL) (x t : Nat) (cs : List Int32) (i j : Nat) (hij : i ≤ j) (hj : j ≤ cs.length) (hN : j - i ≤ 4) (h : Heap) (Sx : oS Z h x t cs) :
    oCtr [] l Z a0 EL True (⟨"java/lang/String", "substring", "(II)Ljava/lang/String;"⟩ : MethodName) jdk_42_method_92_code 5 (some (.object "java/lang/String")) ({ frames := 4, cells := 2, slots := 8, locals := 64 } : Room) #[.ref x, .int (Int32.ofNat i), .int (Int32.ofNat j)] [] h ((q_sub Z h ((cs.drop i).take (j - i)))) oNo := by
  have hb31 := Sx.len
  refine oCtr.enter (Ls := #[.val (.ref x), .val (.int (Int32.ofNat i)), .val (.int (Int32.ofNat j)), .unset, .unset]) (plainFor_of_name pn1) hG.2.1 (fun m => by first | (simp [entryFrame, mkF, argsToLocals, Value.category]; done) | rfl) ?_
  intro pP eE sS mM bB tT cC
  refine oGo.aload_n (pc' := 1) d15_0 rfl rfl rfl ?_
  refine oGo.invokevirtual (pc' := 4) (k' := 0) (n' := 0) (a := x) (argsL := []) (rest := []) d15_1 rfl (w39 hG) (w40 hG) (w42 hG) (w41 hG) (w10 hG) (w43 hG) (by decide) pd12 rfl rfl rfl Sx.1 (c_length hG x t cs h Sx) (by simp) (by decide) (Nat.le_of_ble_eq_true rfl) rfl rfl (by decide) (by decide) ?_
  intro v1 h2 sh2 q3
  obtain ⟨rfl, ee⟩ := q3
  obtain rfl := ee.symm
  refine ⟨_, fun _ hx => Or.inl hx, ?_⟩
  show oGo l Z a0 EL True pP eE sS mM _ bB tT cC _ _ _ _ _ _ _ _ [] h 0 0 4 #[.val (.ref x), .val (.int (Int32.ofNat i)), .val (.int (Int32.ofNat j)), .unset, .unset] [.int (Int32.ofNat cs.length)]
  refine oGo.istore_n (pc' := 5) (Ls' := #[.val (.ref x), .val (.int (Int32.ofNat i)), .val (.int (Int32.ofNat j)), .val (.int (Int32.ofNat cs.length)), .unset]) d15_4 rfl rfl ?_
  refine oGo.iload_n (pc' := 6) d15_5 rfl rfl ?_
  refine oGo.iload_n (pc' := 7) d15_6 rfl rfl ?_
  refine oGo.iload_n (pc' := 8) d15_7 rfl rfl ?_
  refine oGo.invokestatic (pc' := 11) (k' := 0) (n' := 0) (argsL := [.int (Int32.ofNat i), .int (Int32.ofNat j), .int (Int32.ofNat cs.length)]) (rest := []) d15_8 rfl (w76 hG) (w77 hG) (w10 hG) (w78 hG) (by decide) pd16 rfl rfl rfl (c_bounds hG i j cs.length (by omega) hj hb31 h) (by simp) (by decide) (Nat.le_of_ble_eq_true rfl) rfl rfl (by decide) (by decide) ?_
  intro v4 h5 sh5 q6
  obtain ⟨rfl, ee⟩ := q6
  obtain rfl := ee.symm
  refine ⟨_, fun _ hx => Or.inl hx, ?_⟩
  show oGo l Z a0 EL True pP eE sS mM _ bB tT cC _ _ _ _ _ _ _ _ [] h 0 0 11 #[.val (.ref x), .val (.int (Int32.ofNat i)), .val (.int (Int32.ofNat j)), .val (.int (Int32.ofNat cs.length)), .unset] []
  refine oGo.iload_n (pc' := 12) d15_11 rfl rfl ?_
  refine oGo.if_ne (pc1 := 15) (pc2 := 22) d15_12 rfl (by decide) (fun q1 => ?_) (fun q1 => ?_)
  · have hne : ¬ (i = 0 ∧ j = cs.length) := fun q' => q1 (by rw [q'.1]; rfl)
    refine oGo.iload_n (pc' := 23) d15_22 rfl rfl ?_
    refine oGo.iload_n (pc' := 24) d15_23 rfl rfl ?_
    refine oGo.isub (pc' := 25) d15_24 rfl ?_
    rw [own_subN (i := i) (j := j) (by omega) (by omega)]
    refine oGo.istore (pc' := 27) (Ls' := #[.val (.ref x), .val (.int (Int32.ofNat i)), .val (.int (Int32.ofNat j)), .val (.int (Int32.ofNat cs.length)), .val (.int (Int32.ofNat (j - i)))]) d15_25 rfl rfl ?_
    refine oGo.aload_n (pc' := 28) d15_27 rfl rfl rfl ?_
    refine oGo.invokevirtual (pc' := 31) (k' := 0) (n' := 0) (a := x) (argsL := []) (rest := []) d15_28 rfl (w55 hG) (w56 hG) (w58 hG) (w57 hG) (w10 hG) (w59 hG) (by decide) pd7 rfl rfl rfl Sx.1 (c_isLatin1 hG x 0 h Sx.2.2.1) (by simp) (by decide) (Nat.le_of_ble_eq_true rfl) rfl rfl (by decide) (by decide) ?_
    intro v7 h8 sh8 q9
    obtain ⟨rfl, ee⟩ := q9
    obtain rfl := ee.symm
    refine ⟨_, fun _ hx => Or.inl hx, ?_⟩
    show oGo l Z a0 EL True pP eE sS mM _ bB tT cC _ _ _ _ _ _ _ _ [] h 0 0 31 #[.val (.ref x), .val (.int (Int32.ofNat i)), .val (.int (Int32.ofNat j)), .val (.int (Int32.ofNat cs.length)), .val (.int (Int32.ofNat (j - i)))] [.int (1 : Int32)]
    refine oGo.if_eq (pc1 := 34) (pc2 := 47) d15_31 rfl (by decide) (fun q => by first | exact absurd q (by decide) | exact absurd (by decide) q) (fun q10 => ?_)
    refine oGo.aload_n (pc' := 35) d15_34 rfl rfl rfl ?_
    refine oGo.getfield (pc' := 38) d15_35 rfl (w28 hG) Via.refl Sx.2.1 ?_
    refine oGo.iload_n (pc' := 39) d15_38 rfl rfl ?_
    refine oGo.iload (pc' := 41) d15_39 rfl rfl ?_
    refine oGo.invokestatic (pc' := 44) (k' := 2) (n' := 8) (argsL := [.ref t, .int (Int32.ofNat i), .int (Int32.ofNat (j - i))]) (rest := []) d15_41 rfl (w98 hG) (w99 hG) (w62 hG) (w100 hG) (by decide) pd17 rfl rfl rfl (c_newStr hG t cs i j hij hj hN hne Sx.2.2.2.2 h Sx.2.2.2.1) (by simp) (by decide) (Nat.le_of_ble_eq_true rfl) rfl rfl (by decide) (by decide) ?_
    intro v11 h12 sh12 q13
    obtain ⟨K2, y, u, rfl, S2⟩ := q13
    refine ⟨_, fun _ hx => Or.inl hx, ?_⟩
    show oGo l Z a0 EL True pP eE sS mM _ bB tT cC _ _ _ _ _ _ _ _ [] h12 2 8 44 #[.val (.ref x), .val (.int (Int32.ofNat i)), .val (.int (Int32.ofNat j)), .val (.int (Int32.ofNat cs.length)), .val (.int (Int32.ofNat (j - i)))] [.ref y]
    refine oGo.goto (pc' := 57) d15_44 (by decide) ?_
    exact oGo.areturn d15_57 rfl rfl rfl rfl (by decide) (by decide) ⟨K2, y, u, rfl, S2⟩ (fun _ q => q.elim)
  · have hi0 : i = 0 := (own_eq (b := 0) (by omega) (by omega)).mp q1
    refine oGo.iload_n (pc' := 16) d15_15 rfl rfl ?_
    refine oGo.iload_n (pc' := 17) d15_16 rfl rfl ?_
    refine oGo.icmp_ne (pc1 := 20) (pc2 := 22) d15_17 rfl (by decide) (fun q2 => ?_) (fun q2 => ?_)
    · have hne : ¬ (i = 0 ∧ j = cs.length) := fun q' => q2 (by rw [q'.2])
      refine oGo.iload_n (pc' := 23) d15_22 rfl rfl ?_
      refine oGo.iload_n (pc' := 24) d15_23 rfl rfl ?_
      refine oGo.isub (pc' := 25) d15_24 rfl ?_
      rw [own_subN (i := i) (j := j) (by omega) (by omega)]
      refine oGo.istore (pc' := 27) (Ls' := #[.val (.ref x), .val (.int (Int32.ofNat i)), .val (.int (Int32.ofNat j)), .val (.int (Int32.ofNat cs.length)), .val (.int (Int32.ofNat (j - i)))]) d15_25 rfl rfl ?_
      refine oGo.aload_n (pc' := 28) d15_27 rfl rfl rfl ?_
      refine oGo.invokevirtual (pc' := 31) (k' := 0) (n' := 0) (a := x) (argsL := []) (rest := []) d15_28 rfl (w55 hG) (w56 hG) (w58 hG) (w57 hG) (w10 hG) (w59 hG) (by decide) pd7 rfl rfl rfl Sx.1 (c_isLatin1 hG x 0 h Sx.2.2.1) (by simp) (by decide) (Nat.le_of_ble_eq_true rfl) rfl rfl (by decide) (by decide) ?_
      intro v14 h15 sh15 q16
      obtain ⟨rfl, ee⟩ := q16
      obtain rfl := ee.symm
      refine ⟨_, fun _ hx => Or.inl hx, ?_⟩
      show oGo l Z a0 EL True pP eE sS mM _ bB tT cC _ _ _ _ _ _ _ _ [] h 0 0 31 #[.val (.ref x), .val (.int (Int32.ofNat i)), .val (.int (Int32.ofNat j)), .val (.int (Int32.ofNat cs.length)), .val (.int (Int32.ofNat (j - i)))] [.int (1 : Int32)]
      refine oGo.if_eq (pc1 := 34) (pc2 := 47) d15_31 rfl (by decide) (fun q => by first | exact absurd q (by decide) | exact absurd (by decide) q) (fun q17 => ?_)
      refine oGo.aload_n (pc' := 35) d15_34 rfl rfl rfl ?_
      refine oGo.getfield (pc' := 38) d15_35 rfl (w28 hG) Via.refl Sx.2.1 ?_
      refine oGo.iload_n (pc' := 39) d15_38 rfl rfl ?_
      refine oGo.iload (pc' := 41) d15_39 rfl rfl ?_
      refine oGo.invokestatic (pc' := 44) (k' := 2) (n' := 8) (argsL := [.ref t, .int (Int32.ofNat i), .int (Int32.ofNat (j - i))]) (rest := []) d15_41 rfl (w98 hG) (w99 hG) (w62 hG) (w100 hG) (by decide) pd17 rfl rfl rfl (c_newStr hG t cs i j hij hj hN hne Sx.2.2.2.2 h Sx.2.2.2.1) (by simp) (by decide) (Nat.le_of_ble_eq_true rfl) rfl rfl (by decide) (by decide) ?_
      intro v18 h19 sh19 q20
      obtain ⟨K2, y, u, rfl, S2⟩ := q20
      refine ⟨_, fun _ hx => Or.inl hx, ?_⟩
      show oGo l Z a0 EL True pP eE sS mM _ bB tT cC _ _ _ _ _ _ _ _ [] h19 2 8 44 #[.val (.ref x), .val (.int (Int32.ofNat i)), .val (.int (Int32.ofNat j)), .val (.int (Int32.ofNat cs.length)), .val (.int (Int32.ofNat (j - i)))] [.ref y]
      refine oGo.goto (pc' := 57) d15_44 (by decide) ?_
      exact oGo.areturn d15_57 rfl rfl rfl rfl (by decide) (by decide) ⟨K2, y, u, rfl, S2⟩ (fun _ q => q.elim)
    · have hjl : j = cs.length := (own_eq (by omega) (by omega)).mp q2
      refine oGo.aload_n (pc' := 21) d15_20 rfl rfl rfl ?_
      exact oGo.areturn d15_21 rfl rfl rfl rfl (by decide) (by decide) ⟨Keep.refl _ _, x, t, rfl, by rw [hi0, hjl, List.drop_zero, Nat.sub_zero, List.take_length]; exact Sx⟩ (fun _ q => q.elim)
theorem rng5 (x : Int32) : ∃ i : Nat, i < 5 ∧ (x &&& 2147483647) % 5 = Int32.ofNat i := own_irem x 5 5 (by decide) (by decide) rfl
theorem last_1 {a : Int32} : (if a = 46 then (0 : Int32) else (-1 : Int32)) + (1 : Int32) = Int32.ofNat (lastM 46 [a]) := by
  rw [show [a] = [] ++ [a] from rfl, lastM_snoc]; split <;> rfl
theorem last_2 {a b : Int32} : (if b = 46 then (1 : Int32) else (if a = 46 then (0 : Int32) else (-1 : Int32))) + (1 : Int32) = Int32.ofNat (lastM 46 [a, b]) := by
  rw [show [a, b] = [a] ++ [b] from rfl, lastM_snoc]; split
  · rfl
  · exact last_1
theorem last_3 {a b c : Int32} : (if c = 46 then (2 : Int32) else (if b = 46 then (1 : Int32) else (if a = 46 then (0 : Int32) else (-1 : Int32)))) + (1 : Int32) = Int32.ofNat (lastM 46 [a, b, c]) := by
  rw [show [a, b, c] = [a, b] ++ [c] from rfl, lastM_snoc]; split
  · rfl
  · exact last_2
theorem last_4 {a b c d : Int32} : (if d = 46 then (3 : Int32) else (if c = 46 then (2 : Int32) else (if b = 46 then (1 : Int32) else (if a = 46 then (0 : Int32) else (-1 : Int32))))) + (1 : Int32) = Int32.ofNat (lastM 46 [a, b, c, d]) := by
  rw [show [a, b, c, d] = [a, b, c] ++ [d] from rfl, lastM_snoc]; split
  · rfl
  · exact last_3
def chG (x : Int32) : Int32 := nar .char (if x &&& 256 = 0 then (x &&& 255).toUInt32.toUInt16.toUInt32.toInt32 else 46)
set_option maxRecDepth 65536 in
set_option maxHeartbeats 4000000 in
theorem c_ch {l : Launch} {Z : State} {a0 : Array Value} {EL : List (String × Nat)} (hG : oG a0 Z EL) (x : Int32) (h : Heap)  :
    oCtr [] l Z a0 EL True (⟨"com/example/recital/recital/NumeralPrefixPinLaw", "ch", "(I)C"⟩ : MethodName) method_4_code 1 (some .char) ({ frames := 0, cells := 0, slots := 0, locals := 0 } : Room) #[.int x] [] h (fun v h' => v = some (.int (chG x)) ∧ h' = h) oNo := by
  refine oCtr.enter (Ls := #[.val (.int x)]) (plainFor_of_name pn5) hG.2.1 (fun m => by first | (simp [entryFrame, mkF, argsToLocals, Value.category]; done) | rfl) ?_
  intro pP eE sS mM bB tT cC
  refine oGo.iload_n (pc' := 1) d1_0 rfl rfl ?_
  refine oGo.sipush (pc' := 4) (v := 256) d1_1 rfl (by decide) ?_
  refine oGo.iand (pc' := 5) d1_4 rfl ?_
  refine oGo.if_eq (pc1 := 8) (pc2 := 13) d1_5 rfl (by decide) (fun q => ?_) (fun q => ?_)
  · refine oGo.iload_n (pc' := 14) d1_13 rfl rfl ?_
    refine oGo.sipush (pc' := 17) (v := 255) d1_14 rfl (by decide) ?_
    refine oGo.iand (pc' := 18) d1_17 rfl ?_
    refine oGo.i2c (pc' := 19) d1_18 rfl ?_
    exact oGo.nreturn d1_19 rfl (by simp) rfl (by decide) (by decide) ⟨by rw [chG, if_pos q], rfl⟩ (fun _ q => q.elim)
  · refine oGo.bipush (pc' := 10) (v := 46) d1_8 rfl (by decide) ?_
    refine oGo.goto (pc' := 19) d1_10 (by decide) ?_
    exact oGo.nreturn d1_19 rfl (by simp) rfl (by decide) (by decide) ⟨by rw [chG, if_neg q], rfl⟩ (fun _ q => q.elim)
theorem chG_b (x : Int32) : ¬ chG x < 0 ∧ ¬ 255 < chG x := by
  have h := own_b255 x
  unfold chG
  split
  · rw [nar_char h.1 (own_255 h.2)]; exact h
  · decide
set_option maxRecDepth 65536 in
set_option maxHeartbeats 4000000 in
theorem c_make0 {l : Launch} {Z : State} {a0 : Array Value} {EL : List (String × Nat)} (hG : oG a0 Z EL) (c0 c1 c2 c3 : Int32) (bc0 : ¬ c0 < 0 ∧ ¬ 255 < c0) (bc1 : ¬ c1 < 0 ∧ ¬ 255 < c1) (bc2 : ¬ c2 < 0 ∧ ¬ 255 < c2) (bc3 : ¬ c3 < 0 ∧ ¬ 255 < c3) (h : Heap)  :
    oCtr [] l Z a0 EL True (⟨"com/example/recital/recital/NumeralPrefixPinLaw", "make", "(ICCCC)Ljava/lang/String;"⟩ : MethodName) method_5_code 5 (some (.object "java/lang/String")) ({ frames := 4, cells := 6, slots := 16, locals := 66 } : Room) #[.int (0 : Int32), .int c0, .int c1, .int c2, .int c3] [] h ((q_sub Z h [])) oNo := by
  refine oCtr.enter (Ls := #[.val (.int (0 : Int32)), .val (.int c0), .val (.int c1), .val (.int c2), .val (.int c3)]) (plainFor_of_name pn5) hG.2.1 (fun m => by first | (simp [entryFrame, mkF, argsToLocals, Value.category]; done) | rfl) ?_
  intro pP eE sS mM bB tT cC
  refine oGo.iload_n (pc' := 1) d2_0 rfl rfl ?_
  refine oGo.if_ne (pc1 := 4) (pc2 := 15) d2_1 rfl (by decide) (fun q => by first | exact absurd q (by decide) | exact absurd (by decide) q) (fun q1 => ?_)
  refine oGo.new (pc' := 7) (k' := 1) (n' := 4) d2_4 rfl (w8 hG) (w9 hG) (w10 hG) rfl rfl (by decide) (by decide) ?_
  intro h2 a3 qa3 la3 E4 X5 F6
  have f7 := F6 (Or.inr (w24 hG)) (ty := (.array .byte)) (by decide)
  have f8 := F6 (Or.inr (w25 hG)) (ty := .byte) (by decide)
  refine oGo.dup (pc' := 8) d2_7 rfl rfl ?_
  refine oGo.iconst (pc' := 9) (v := 0) d2_8 rfl (by decide) ?_
  refine oGo.newarray (pc' := 11) (k' := 2) (n' := 4) (i := 0) d2_9 rfl (w11 hG) rfl 0 (by decide) (by decide) rfl rfl (by decide) (by decide) (by decide) ?_
  intro h9 a10 qa10 la10 E11 A12'
  have A12 : oArr Z h9 a10 .char (List.replicate (0) (.int 0)) := A12'
  have A13 : oArr Z h9 a10 .char (oI []) := A12
  have f14 := Exa.ext E11 X5
  have f15 := Fld.ext E11 f7
  have f16 := Fld.ext E11 f8
  refine oGo.invokespecial (pc' := 14) (k' := 6) (n' := 12) (a := a3) (argsL := [.ref a10]) (rest := [.ref a3]) d2_11 rfl rfl (w12 hG) (w13 hG) (w10 hG) (w14 hG) (by decide) pd18 rfl rfl rfl (c_strI1 hG a3 a10 [] (by simp) (by simp) _ _ _ A13 f14 f15 f16) (by simp) (by decide) (Nat.le_of_ble_eq_true rfl) rfl rfl (by decide) (by decide) ?_
  intro v17 h18 sh18 q19
  obtain ⟨rfl, KX, tX, SX⟩ := q19
  have lxX := own_ltN SX.1.lt
  have ltX := own_ltN SX.2.2.2.1.lt
  refine ⟨_, fun _ hx => Or.inl hx, ?_⟩
  show oGo l Z a0 EL True pP eE sS mM _ bB tT cC _ _ _ _ _ _ _ _ [a10, a3] h18 6 12 14 #[.val (.int (0 : Int32)), .val (.int c0), .val (.int c1), .val (.int c2), .val (.int c3)] [.ref a3]
  exact oGo.areturn d2_14 rfl rfl rfl rfl (by decide) (by decide) ⟨((((Keep.refl h []).ext E4).ext E11).trans KX (by exact own_new1 (by omega))), a3, tX, rfl, SX⟩ (fun _ q => q.elim)
set_option maxRecDepth 65536 in
set_option maxHeartbeats 4000000 in
theorem c_make1 {l : Launch} {Z : State} {a0 : Array Value} {EL : List (String × Nat)} (hG : oG a0 Z EL) (c0 c1 c2 c3 : Int32) (bc0 : ¬ c0 < 0 ∧ ¬ 255 < c0) (bc1 : ¬ c1 < 0 ∧ ¬ 255 < c1) (bc2 : ¬ c2 < 0 ∧ ¬ 255 < c2) (bc3 : ¬ c3 < 0 ∧ ¬ 255 < c3) (h : Heap)  :
    oCtr [] l Z a0 EL True (⟨"com/example/recital/recital/NumeralPrefixPinLaw", "make", "(ICCCC)Ljava/lang/String;"⟩ : MethodName) method_5_code 5 (some (.object "java/lang/String")) ({ frames := 4, cells := 6, slots := 16, locals := 66 } : Room) #[.int (1 : Int32), .int c0, .int c1, .int c2, .int c3] [] h ((q_sub Z h [c0])) oNo := by
  refine oCtr.enter (Ls := #[.val (.int (1 : Int32)), .val (.int c0), .val (.int c1), .val (.int c2), .val (.int c3)]) (plainFor_of_name pn5) hG.2.1 (fun m => by first | (simp [entryFrame, mkF, argsToLocals, Value.category]; done) | rfl) ?_
  intro pP eE sS mM bB tT cC
  refine oGo.iload_n (pc' := 1) d2_0 rfl rfl ?_
  refine oGo.if_ne (pc1 := 4) (pc2 := 15) d2_1 rfl (by decide) (fun q1 => ?_) (fun q => by first | exact absurd q (by decide) | exact absurd (by decide) q)
  refine oGo.iload_n (pc' := 16) d2_15 rfl rfl ?_
  refine oGo.iconst (pc' := 17) (v := 1) d2_16 rfl (by decide) ?_
  refine oGo.icmp_ne (pc1 := 20) (pc2 := 35) d2_17 rfl (by decide) (fun q => by first | exact absurd q (by decide) | exact absurd (by decide) q) (fun q2 => ?_)
  refine oGo.new (pc' := 23) (k' := 1) (n' := 4) d2_20 rfl (w8 hG) (w9 hG) (w10 hG) rfl rfl (by decide) (by decide) ?_
  intro h3 a4 qa4 la4 E5 X6 F7
  have f8 := F7 (Or.inr (w24 hG)) (ty := (.array .byte)) (by decide)
  have f9 := F7 (Or.inr (w25 hG)) (ty := .byte) (by decide)
  refine oGo.dup (pc' := 24) d2_23 rfl rfl ?_
  refine oGo.iconst (pc' := 25) (v := 1) d2_24 rfl (by decide) ?_
  refine oGo.newarray (pc' := 27) (k' := 2) (n' := 5) (i := 1) d2_25 rfl (w11 hG) rfl 1 (by decide) (by decide) rfl rfl (by decide) (by decide) (by decide) ?_
  intro h10 a11 qa11 la11 E12 A13'
  have A13 : oArr Z h10 a11 .char (List.replicate (1) (.int 0)) := A13'
  refine oGo.dup (pc' := 28) d2_27 rfl rfl ?_
  refine oGo.iconst (pc' := 29) (v := 0) d2_28 rfl (by decide) ?_
  refine oGo.iload_n (pc' := 30) d2_29 rfl rfl ?_
  refine oGo.castore (pc' := 31) (i := 0) (w := c0) d2_30 rfl A13 rfl (by simp) (nar_char bc0.1 (own_255 bc0.2)) (by simp) ?_
  intro h14 W15 sh14 A16
  have A17 : oArr Z h14 a11 .char (oI [c0]) := A16
  have f18 := Exa.ext E12 X6
  have f19 := Exa.wr W15 f18
  have f20 := Fld.ext E12 f8
  have f21 := Fld.other W15 f20 (Or.inl (own_ne (by omega)))
  have f22 := Fld.ext E12 f9
  have f23 := Fld.other W15 f22 (Or.inl (own_ne (by omega)))
  refine oGo.invokespecial (pc' := 34) (k' := 6) (n' := 13) (a := a4) (argsL := [.ref a11]) (rest := [.ref a4]) d2_31 rfl rfl (w12 hG) (w13 hG) (w10 hG) (w14 hG) (by decide) pd18 rfl rfl rfl (c_strI1 hG a4 a11 [c0] (by simp) (by intro c hc; simp only [List.mem_cons, List.not_mem_nil, or_false] at hc; rcases hc with rfl <;> first | decide | assumption) _ _ _ A17 f19 f21 f23) (by simp) (by decide) (Nat.le_of_ble_eq_true rfl) rfl rfl (by decide) (by decide) ?_
  intro v24 h25 sh25 q26
  obtain ⟨rfl, KX, tX, SX⟩ := q26
  have lxX := own_ltN SX.1.lt
  have ltX := own_ltN SX.2.2.2.1.lt
  refine ⟨_, fun _ hx => Or.inl hx, ?_⟩
  show oGo l Z a0 EL True pP eE sS mM _ bB tT cC _ _ _ _ _ _ _ _ [a11, a4] h25 6 13 34 #[.val (.int (1 : Int32)), .val (.int c0), .val (.int c1), .val (.int c2), .val (.int c3)] [.ref a4]
  exact oGo.areturn d2_34 rfl rfl rfl rfl (by decide) (by decide) ⟨(((((Keep.refl h []).ext E5).ext E12).wr W15 (Or.inr (by omega))).trans KX (by exact own_new1 (by omega))), a4, tX, rfl, SX⟩ (fun _ q => q.elim)
set_option maxRecDepth 65536 in
set_option maxHeartbeats 4000000 in
theorem c_make2 {l : Launch} {Z : State} {a0 : Array Value} {EL : List (String × Nat)} (hG : oG a0 Z EL) (c0 c1 c2 c3 : Int32) (bc0 : ¬ c0 < 0 ∧ ¬ 255 < c0) (bc1 : ¬ c1 < 0 ∧ ¬ 255 < c1) (bc2 : ¬ c2 < 0 ∧ ¬ 255 < c2) (bc3 : ¬ c3 < 0 ∧ ¬ 255 < c3) (h : Heap)  :
    oCtr [] l Z a0 EL True (⟨"com/example/recital/recital/NumeralPrefixPinLaw", "make", "(ICCCC)Ljava/lang/String;"⟩ : MethodName) method_5_code 5 (some (.object "java/lang/String")) ({ frames := 4, cells := 6, slots := 16, locals := 66 } : Room) #[.int (2 : Int32), .int c0, .int c1, .int c2, .int c3] [] h ((q_sub Z h [c0, c1])) oNo := by
  refine oCtr.enter (Ls := #[.val (.int (2 : Int32)), .val (.int c0), .val (.int c1), .val (.int c2), .val (.int c3)]) (plainFor_of_name pn5) hG.2.1 (fun m => by first | (simp [entryFrame, mkF, argsToLocals, Value.category]; done) | rfl) ?_
  intro pP eE sS mM bB tT cC
  refine oGo.iload_n (pc' := 1) d2_0 rfl rfl ?_
  refine oGo.if_ne (pc1 := 4) (pc2 := 15) d2_1 rfl (by decide) (fun q1 => ?_) (fun q => by first | exact absurd q (by decide) | exact absurd (by decide) q)
  refine oGo.iload_n (pc' := 16) d2_15 rfl rfl ?_
  refine oGo.iconst (pc' := 17) (v := 1) d2_16 rfl (by decide) ?_
  refine oGo.icmp_ne (pc1 := 20) (pc2 := 35) d2_17 rfl (by decide) (fun q2 => ?_) (fun q => by first | exact absurd q (by decide) | exact absurd (by decide) q)
  refine oGo.iload_n (pc' := 36) d2_35 rfl rfl ?_
  refine oGo.iconst (pc' := 37) (v := 2) d2_36 rfl (by decide) ?_
  refine oGo.icmp_ne (pc1 := 40) (pc2 := 59) d2_37 rfl (by decide) (fun q => by first | exact absurd q (by decide) | exact absurd (by decide) q) (fun q3 => ?_)
  refine oGo.new (pc' := 43) (k' := 1) (n' := 4) d2_40 rfl (w8 hG) (w9 hG) (w10 hG) rfl rfl (by decide) (by decide) ?_
  intro h4 a5 qa5 la5 E6 X7 F8
  have f9 := F8 (Or.inr (w24 hG)) (ty := (.array .byte)) (by decide)
  have f10 := F8 (Or.inr (w25 hG)) (ty := .byte) (by decide)
  refine oGo.dup (pc' := 44) d2_43 rfl rfl ?_
  refine oGo.iconst (pc' := 45) (v := 2) d2_44 rfl (by decide) ?_
  refine oGo.newarray (pc' := 47) (k' := 2) (n' := 6) (i := 2) d2_45 rfl (w11 hG) rfl 2 (by decide) (by decide) rfl rfl (by decide) (by decide) (by decide) ?_
  intro h11 a12 qa12 la12 E13 A14'
  have A14 : oArr Z h11 a12 .char (List.replicate (2) (.int 0)) := A14'
  refine oGo.dup (pc' := 48) d2_47 rfl rfl ?_
  refine oGo.iconst (pc' := 49) (v := 0) d2_48 rfl (by decide) ?_
  refine oGo.iload_n (pc' := 50) d2_49 rfl rfl ?_
  refine oGo.castore (pc' := 51) (i := 0) (w := c0) d2_50 rfl A14 rfl (by simp) (nar_char bc0.1 (own_255 bc0.2)) (by simp) ?_
  intro h15 W16 sh15 A17
  refine oGo.dup (pc' := 52) d2_51 rfl rfl ?_
  refine oGo.iconst (pc' := 53) (v := 1) d2_52 rfl (by decide) ?_
  refine oGo.iload_n (pc' := 54) d2_53 rfl rfl ?_
  refine oGo.castore (pc' := 55) (i := 1) (w := c1) d2_54 rfl A17 rfl (by simp) (nar_char bc1.1 (own_255 bc1.2)) (by simp) ?_
  intro h18 W19 sh18 A20
  have A21 : oArr Z h18 a12 .char (oI [c0, c1]) := A20
  have K22 : Keep h11 h18 [a12] := (((Keep.refl h11 [a12]).wr W16 (Or.inl (by simp))).wr W19 (Or.inl (by simp)))
  have sh18' : h18.size = h11.size := by omega
  have f23 := Exa.ext E13 X7
  have f24 := Exa.keep f23 K22
  have f25 := Fld.ext E13 f9
  have f26 := Fld.keep f25 K22 (own_nin1 (by omega))
  have f27 := Fld.ext E13 f10
  have f28 := Fld.keep f27 K22 (own_nin1 (by omega))
  refine oGo.invokespecial (pc' := 58) (k' := 6) (n' := 14) (a := a5) (argsL := [.ref a12]) (rest := [.ref a5]) d2_55 rfl rfl (w12 hG) (w13 hG) (w10 hG) (w14 hG) (by decide) pd18 rfl rfl rfl (c_strI1 hG a5 a12 [c0, c1] (by simp) (by intro c hc; simp only [List.mem_cons, List.not_mem_nil, or_false] at hc; rcases hc with rfl | rfl <;> first | decide | assumption) _ _ _ A21 f24 f26 f28) (by simp) (by decide) (Nat.le_of_ble_eq_true rfl) rfl rfl (by decide) (by decide) ?_
  intro v29 h30 sh30 q31
  obtain ⟨rfl, KX, tX, SX⟩ := q31
  have lxX := own_ltN SX.1.lt
  have ltX := own_ltN SX.2.2.2.1.lt
  refine ⟨_, fun _ hx => Or.inl hx, ?_⟩
  show oGo l Z a0 EL True pP eE sS mM _ bB tT cC _ _ _ _ _ _ _ _ [a12, a5] h30 6 14 58 #[.val (.int (2 : Int32)), .val (.int c0), .val (.int c1), .val (.int c2), .val (.int c3)] [.ref a5]
  exact oGo.areturn d2_58 rfl rfl rfl rfl (by decide) (by decide) ⟨(((((Keep.refl h []).ext E6).ext E13).trans K22 (by exact own_new1 (by omega))).trans KX (by exact own_new1 (by omega))), a5, tX, rfl, SX⟩ (fun _ q => q.elim)
set_option maxRecDepth 65536 in
set_option maxHeartbeats 4000000 in
theorem c_make3 {l : Launch} {Z : State} {a0 : Array Value} {EL : List (String × Nat)} (hG : oG a0 Z EL) (c0 c1 c2 c3 : Int32) (bc0 : ¬ c0 < 0 ∧ ¬ 255 < c0) (bc1 : ¬ c1 < 0 ∧ ¬ 255 < c1) (bc2 : ¬ c2 < 0 ∧ ¬ 255 < c2) (bc3 : ¬ c3 < 0 ∧ ¬ 255 < c3) (h : Heap)  :
    oCtr [] l Z a0 EL True (⟨"com/example/recital/recital/NumeralPrefixPinLaw", "make", "(ICCCC)Ljava/lang/String;"⟩ : MethodName) method_5_code 5 (some (.object "java/lang/String")) ({ frames := 4, cells := 6, slots := 16, locals := 66 } : Room) #[.int (3 : Int32), .int c0, .int c1, .int c2, .int c3] [] h ((q_sub Z h [c0, c1, c2])) oNo := by
  refine oCtr.enter (Ls := #[.val (.int (3 : Int32)), .val (.int c0), .val (.int c1), .val (.int c2), .val (.int c3)]) (plainFor_of_name pn5) hG.2.1 (fun m => by first | (simp [entryFrame, mkF, argsToLocals, Value.category]; done) | rfl) ?_
  intro pP eE sS mM bB tT cC
  refine oGo.iload_n (pc' := 1) d2_0 rfl rfl ?_
  refine oGo.if_ne (pc1 := 4) (pc2 := 15) d2_1 rfl (by decide) (fun q1 => ?_) (fun q => by first | exact absurd q (by decide) | exact absurd (by decide) q)
  refine oGo.iload_n (pc' := 16) d2_15 rfl rfl ?_
  refine oGo.iconst (pc' := 17) (v := 1) d2_16 rfl (by decide) ?_
  refine oGo.icmp_ne (pc1 := 20) (pc2 := 35) d2_17 rfl (by decide) (fun q2 => ?_) (fun q => by first | exact absurd q (by decide) | exact absurd (by decide) q)
  refine oGo.iload_n (pc' := 36) d2_35 rfl rfl ?_
  refine oGo.iconst (pc' := 37) (v := 2) d2_36 rfl (by decide) ?_
  refine oGo.icmp_ne (pc1 := 40) (pc2 := 59) d2_37 rfl (by decide) (fun q3 => ?_) (fun q => by first | exact absurd q (by decide) | exact absurd (by decide) q)
  refine oGo.iload_n (pc' := 60) d2_59 rfl rfl ?_
  refine oGo.iconst (pc' := 61) (v := 3) d2_60 rfl (by decide) ?_
  refine oGo.icmp_ne (pc1 := 64) (pc2 := 87) d2_61 rfl (by decide) (fun q => by first | exact absurd q (by decide) | exact absurd (by decide) q) (fun q4 => ?_)
  refine oGo.new (pc' := 67) (k' := 1) (n' := 4) d2_64 rfl (w8 hG) (w9 hG) (w10 hG) rfl rfl (by decide) (by decide) ?_
  intro h5 a6 qa6 la6 E7 X8 F9
  have f10 := F9 (Or.inr (w24 hG)) (ty := (.array .byte)) (by decide)
  have f11 := F9 (Or.inr (w25 hG)) (ty := .byte) (by decide)
  refine oGo.dup (pc' := 68) d2_67 rfl rfl ?_
  refine oGo.iconst (pc' := 69) (v := 3) d2_68 rfl (by decide) ?_
  refine oGo.newarray (pc' := 71) (k' := 2) (n' := 7) (i := 3) d2_69 rfl (w11 hG) rfl 3 (by decide) (by decide) rfl rfl (by decide) (by decide) (by decide) ?_
  intro h12 a13 qa13 la13 E14 A15'
  have A15 : oArr Z h12 a13 .char (List.replicate (3) (.int 0)) := A15'
  refine oGo.dup (pc' := 72) d2_71 rfl rfl ?_
  refine oGo.iconst (pc' := 73) (v := 0) d2_72 rfl (by decide) ?_
  refine oGo.iload_n (pc' := 74) d2_73 rfl rfl ?_
  refine oGo.castore (pc' := 75) (i := 0) (w := c0) d2_74 rfl A15 rfl (by simp) (nar_char bc0.1 (own_255 bc0.2)) (by simp) ?_
  intro h16 W17 sh16 A18
  refine oGo.dup (pc' := 76) d2_75 rfl rfl ?_
  refine oGo.iconst (pc' := 77) (v := 1) d2_76 rfl (by decide) ?_
  refine oGo.iload_n (pc' := 78) d2_77 rfl rfl ?_
  refine oGo.castore (pc' := 79) (i := 1) (w := c1) d2_78 rfl A18 rfl (by simp) (nar_char bc1.1 (own_255 bc1.2)) (by simp) ?_
  intro h19 W20 sh19 A21
  refine oGo.dup (pc' := 80) d2_79 rfl rfl ?_
  refine oGo.iconst (pc' := 81) (v := 2) d2_80 rfl (by decide) ?_
  refine oGo.iload_n (pc' := 82) d2_81 rfl rfl ?_
  refine oGo.castore (pc' := 83) (i := 2) (w := c2) d2_82 rfl A21 rfl (by simp) (nar_char bc2.1 (own_255 bc2.2)) (by simp) ?_
  intro h22 W23 sh22 A24
  have A25 : oArr Z h22 a13 .char (oI [c0, c1, c2]) := A24
  have K26 : Keep h12 h22 [a13] := ((((Keep.refl h12 [a13]).wr W17 (Or.inl (by simp))).wr W20 (Or.inl (by simp))).wr W23 (Or.inl (by simp)))
  have sh22' : h22.size = h12.size := by omega
  have f27 := Exa.ext E14 X8
  have f28 := Exa.keep f27 K26
  have f29 := Fld.ext E14 f10
  have f30 := Fld.keep f29 K26 (own_nin1 (by omega))
  have f31 := Fld.ext E14 f11
  have f32 := Fld.keep f31 K26 (own_nin1 (by omega))
  refine oGo.invokespecial (pc' := 86) (k' := 6) (n' := 15) (a := a6) (argsL := [.ref a13]) (rest := [.ref a6]) d2_83 rfl rfl (w12 hG) (w13 hG) (w10 hG) (w14 hG) (by decide) pd18 rfl rfl rfl (c_strI1 hG a6 a13 [c0, c1, c2] (by simp) (by intro c hc; simp only [List.mem_cons, List.not_mem_nil, or_false] at hc; rcases hc with rfl | rfl | rfl <;> first | decide | assumption) _ _ _ A25 f28 f30 f32) (by simp) (by decide) (Nat.le_of_ble_eq_true rfl) rfl rfl (by decide) (by decide) ?_
  intro v33 h34 sh34 q35
  obtain ⟨rfl, KX, tX, SX⟩ := q35
  have lxX := own_ltN SX.1.lt
  have ltX := own_ltN SX.2.2.2.1.lt
  refine ⟨_, fun _ hx => Or.inl hx, ?_⟩
  show oGo l Z a0 EL True pP eE sS mM _ bB tT cC _ _ _ _ _ _ _ _ [a13, a6] h34 6 15 86 #[.val (.int (3 : Int32)), .val (.int c0), .val (.int c1), .val (.int c2), .val (.int c3)] [.ref a6]
  exact oGo.areturn d2_86 rfl rfl rfl rfl (by decide) (by decide) ⟨(((((Keep.refl h []).ext E7).ext E14).trans K26 (by exact own_new1 (by omega))).trans KX (by exact own_new1 (by omega))), a6, tX, rfl, SX⟩ (fun _ q => q.elim)
set_option maxRecDepth 65536 in
set_option maxHeartbeats 4000000 in
theorem c_make4 {l : Launch} {Z : State} {a0 : Array Value} {EL : List (String × Nat)} (hG : oG a0 Z EL) (c0 c1 c2 c3 : Int32) (bc0 : ¬ c0 < 0 ∧ ¬ 255 < c0) (bc1 : ¬ c1 < 0 ∧ ¬ 255 < c1) (bc2 : ¬ c2 < 0 ∧ ¬ 255 < c2) (bc3 : ¬ c3 < 0 ∧ ¬ 255 < c3) (h : Heap)  :
    oCtr [] l Z a0 EL True (⟨"com/example/recital/recital/NumeralPrefixPinLaw", "make", "(ICCCC)Ljava/lang/String;"⟩ : MethodName) method_5_code 5 (some (.object "java/lang/String")) ({ frames := 4, cells := 6, slots := 16, locals := 66 } : Room) #[.int (4 : Int32), .int c0, .int c1, .int c2, .int c3] [] h ((q_sub Z h [c0, c1, c2, c3])) oNo := by
  refine oCtr.enter (Ls := #[.val (.int (4 : Int32)), .val (.int c0), .val (.int c1), .val (.int c2), .val (.int c3)]) (plainFor_of_name pn5) hG.2.1 (fun m => by first | (simp [entryFrame, mkF, argsToLocals, Value.category]; done) | rfl) ?_
  intro pP eE sS mM bB tT cC
  refine oGo.iload_n (pc' := 1) d2_0 rfl rfl ?_
  refine oGo.if_ne (pc1 := 4) (pc2 := 15) d2_1 rfl (by decide) (fun q1 => ?_) (fun q => by first | exact absurd q (by decide) | exact absurd (by decide) q)
  refine oGo.iload_n (pc' := 16) d2_15 rfl rfl ?_
  refine oGo.iconst (pc' := 17) (v := 1) d2_16 rfl (by decide) ?_
  refine oGo.icmp_ne (pc1 := 20) (pc2 := 35) d2_17 rfl (by decide) (fun q2 => ?_) (fun q => by first | exact absurd q (by decide) | exact absurd (by decide) q)
  refine oGo.iload_n (pc' := 36) d2_35 rfl rfl ?_
  refine oGo.iconst (pc' := 37) (v := 2) d2_36 rfl (by decide) ?_
  refine oGo.icmp_ne (pc1 := 40) (pc2 := 59) d2_37 rfl (by decide) (fun q3 => ?_) (fun q => by first | exact absurd q (by decide) | exact absurd (by decide) q)
  refine oGo.iload_n (pc' := 60) d2_59 rfl rfl ?_
  refine oGo.iconst (pc' := 61) (v := 3) d2_60 rfl (by decide) ?_
  refine oGo.icmp_ne (pc1 := 64) (pc2 := 87) d2_61 rfl (by decide) (fun q4 => ?_) (fun q => by first | exact absurd q (by decide) | exact absurd (by decide) q)
  refine oGo.new (pc' := 90) (k' := 1) (n' := 4) d2_87 rfl (w8 hG) (w9 hG) (w10 hG) rfl rfl (by decide) (by decide) ?_
  intro h5 a6 qa6 la6 E7 X8 F9
  have f10 := F9 (Or.inr (w24 hG)) (ty := (.array .byte)) (by decide)
  have f11 := F9 (Or.inr (w25 hG)) (ty := .byte) (by decide)
  refine oGo.dup (pc' := 91) d2_90 rfl rfl ?_
  refine oGo.iconst (pc' := 92) (v := 4) d2_91 rfl (by decide) ?_
  refine oGo.newarray (pc' := 94) (k' := 2) (n' := 8) (i := 4) d2_92 rfl (w11 hG) rfl 4 (by decide) (by decide) rfl rfl (by decide) (by decide) (by decide) ?_
  intro h12 a13 qa13 la13 E14 A15'
  have A15 : oArr Z h12 a13 .char (List.replicate (4) (.int 0)) := A15'
  refine oGo.dup (pc' := 95) d2_94 rfl rfl ?_
  refine oGo.iconst (pc' := 96) (v := 0) d2_95 rfl (by decide) ?_
  refine oGo.iload_n (pc' := 97) d2_96 rfl rfl ?_
  refine oGo.castore (pc' := 98) (i := 0) (w := c0) d2_97 rfl A15 rfl (by simp) (nar_char bc0.1 (own_255 bc0.2)) (by simp) ?_
  intro h16 W17 sh16 A18
  refine oGo.dup (pc' := 99) d2_98 rfl rfl ?_
  refine oGo.iconst (pc' := 100) (v := 1) d2_99 rfl (by decide) ?_
  refine oGo.iload_n (pc' := 101) d2_100 rfl rfl ?_
  refine oGo.castore (pc' := 102) (i := 1) (w := c1) d2_101 rfl A18 rfl (by simp) (nar_char bc1.1 (own_255 bc1.2)) (by simp) ?_
  intro h19 W20 sh19 A21
  refine oGo.dup (pc' := 103) d2_102 rfl rfl ?_
  refine oGo.iconst (pc' := 104) (v := 2) d2_103 rfl (by decide) ?_
  refine oGo.iload_n (pc' := 105) d2_104 rfl rfl ?_
  refine oGo.castore (pc' := 106) (i := 2) (w := c2) d2_105 rfl A21 rfl (by simp) (nar_char bc2.1 (own_255 bc2.2)) (by simp) ?_
  intro h22 W23 sh22 A24
  refine oGo.dup (pc' := 107) d2_106 rfl rfl ?_
  refine oGo.iconst (pc' := 108) (v := 3) d2_107 rfl (by decide) ?_
  refine oGo.iload (pc' := 110) d2_108 rfl rfl ?_
  refine oGo.castore (pc' := 111) (i := 3) (w := c3) d2_110 rfl A24 rfl (by simp) (nar_char bc3.1 (own_255 bc3.2)) (by simp) ?_
  intro h25 W26 sh25 A27
  have A28 : oArr Z h25 a13 .char (oI [c0, c1, c2, c3]) := A27
  have K29 : Keep h12 h25 [a13] := (((((Keep.refl h12 [a13]).wr W17 (Or.inl (by simp))).wr W20 (Or.inl (by simp))).wr W23 (Or.inl (by simp))).wr W26 (Or.inl (by simp)))
  have sh25' : h25.size = h12.size := by omega
  have f30 := Exa.ext E14 X8
  have f31 := Exa.keep f30 K29
  have f32 := Fld.ext E14 f10
  have f33 := Fld.keep f32 K29 (own_nin1 (by omega))
  have f34 := Fld.ext E14 f11
  have f35 := Fld.keep f34 K29 (own_nin1 (by omega))
  refine oGo.invokespecial (pc' := 114) (k' := 6) (n' := 16) (a := a6) (argsL := [.ref a13]) (rest := [.ref a6]) d2_111 rfl rfl (w12 hG) (w13 hG) (w10 hG) (w14 hG) (by decide) pd18 rfl rfl rfl (c_strI1 hG a6 a13 [c0, c1, c2, c3] (by simp) (by intro c hc; simp only [List.mem_cons, List.not_mem_nil, or_false] at hc; rcases hc with rfl | rfl | rfl | rfl <;> first | decide | assumption) _ _ _ A28 f31 f33 f35) (by simp) (by decide) (Nat.le_of_ble_eq_true rfl) rfl rfl (by decide) (by decide) ?_
  intro v36 h37 sh37 q38
  obtain ⟨rfl, KX, tX, SX⟩ := q38
  have lxX := own_ltN SX.1.lt
  have ltX := own_ltN SX.2.2.2.1.lt
  refine ⟨_, fun _ hx => Or.inl hx, ?_⟩
  show oGo l Z a0 EL True pP eE sS mM _ bB tT cC _ _ _ _ _ _ _ _ [a13, a6] h37 6 16 114 #[.val (.int (4 : Int32)), .val (.int c0), .val (.int c1), .val (.int c2), .val (.int c3)] [.ref a6]
  exact oGo.areturn d2_114 rfl rfl rfl rfl (by decide) (by decide) ⟨(((((Keep.refl h []).ext E7).ext E14).trans K29 (by exact own_new1 (by omega))).trans KX (by exact own_new1 (by omega))), a6, tX, rfl, SX⟩ (fun _ q => q.elim)
set_option maxRecDepth 65536 in
set_option maxHeartbeats 4000000 in
theorem c_prefix {l : Launch} {Z : State} {a0 : Array Value} {EL : List (String × Nat)} (hG : oG a0 Z EL) (x t : Nat) (cs : List Int32) (hn : cs.length ≤ 4) (h : Heap) (Sx : oS Z h x t cs) :
    oCtr [] l Z a0 EL True (⟨"com/example/recital/recital/Numeral", "prefix", "(Ljava/lang/String;)Ljava/lang/String;"⟩ : MethodName) prog_13_method_4_code 1 (some (.object "java/lang/String")) ({ frames := 5, cells := 2, slots := 8, locals := 80 } : Room) #[.ref x] [] h ((q_sub Z h (cs.take (lastM 46 cs)))) oNo := by
  have hle := lastM_le 46 cs
  refine oCtr.enter (Ls := #[.val (.ref x)]) (plainFor_of_name pn6) hG.2.1 (fun m => by first | (simp [entryFrame, mkF, argsToLocals, Value.category]; done) | rfl) ?_
  intro pP eE sS mM bB tT cC
  refine oGo.aload_n (pc' := 1) d6_0 rfl rfl rfl ?_
  refine oGo.iconst (pc' := 2) (v := 0) d6_1 rfl (by decide) ?_
  refine oGo.aload_n (pc' := 3) d6_2 rfl rfl rfl ?_
  refine oGo.bipush (pc' := 5) (v := 46) d6_3 rfl (by decide) ?_
  refine oGo.invokevirtual (pc' := 8) (k' := 0) (n' := 0) (a := x) (argsL := [.int (46 : Int32)]) (rest := [.int (0 : Int32), .ref x]) d6_5 rfl (w34 hG) (w35 hG) (w37 hG) (w36 hG) (w10 hG) (w38 hG) (by decide) pd19 rfl rfl rfl Sx.1 (c_last1 hG x t cs 46 (by decide) h Sx) (by simp) (by decide) (Nat.le_of_ble_eq_true rfl) rfl rfl (by decide) (by decide) ?_
  intro v1 h2 sh2 q3
  obtain ⟨rfl, ee⟩ := q3
  obtain rfl := ee.symm
  refine ⟨_, fun _ hx => Or.inl hx, ?_⟩
  show oGo l Z a0 EL True pP eE sS mM _ bB tT cC _ _ _ _ _ _ _ _ [] h 0 0 8 #[.val (.ref x)] [.int (Int32.ofNat (lastM 46 cs) - 1), .int (0 : Int32), .ref x]
  refine oGo.iconst (pc' := 9) (v := 1) d6_8 rfl (by decide) ?_
  refine oGo.iadd (pc' := 10) d6_9 rfl ?_
  rw [own_dec1]
  refine oGo.invokevirtual (pc' := 13) (k' := 2) (n' := 8) (a := x) (argsL := [.int (0 : Int32), .int (Int32.ofNat (lastM 46 cs))]) (rest := []) d6_10 rfl (w71 hG) (w72 hG) (w74 hG) (w73 hG) (w10 hG) (w75 hG) (by decide) pd20 rfl rfl rfl Sx.1 (c_sub hG x t cs 0 (lastM 46 cs) (by omega) hle (by omega) h Sx) (by simp) (by decide) (Nat.le_of_ble_eq_true rfl) rfl rfl (by decide) (by decide) ?_
  intro v4 h5 sh5 q6
  obtain ⟨K2, y, u, rfl, S2⟩ := q6
  refine ⟨_, fun _ hx => Or.inl hx, ?_⟩
  show oGo l Z a0 EL True pP eE sS mM _ bB tT cC _ _ _ _ _ _ _ _ [] h5 2 8 13 #[.val (.ref x)] [.ref y]
  exact oGo.areturn d6_13 rfl rfl rfl rfl (by decide) (by decide) ⟨K2, y, u, rfl, by rw [List.drop_zero, Nat.sub_zero] at S2; exact S2⟩ (fun _ q => q.elim)
set_option maxRecDepth 65536 in
set_option maxHeartbeats 4000000 in
theorem c_same {l : Launch} {Z : State} {a0 : Array Value} {EL : List (String × Nat)} (hG : oG a0 Z EL) (x t : Nat) (ds : List Int32) (j : Nat) (hj : j < 1000) (c : Int32) (hc : ∀ d, ds[j]? = some d → d = c) (h : Heap) (Sx : oS Z h x t ds) :
    oCtr [] l Z a0 EL True (⟨"com/example/recital/recital/NumeralPrefixPinLaw", "same", "(Ljava/lang/String;IIC)Z"⟩ : MethodName) method_3_code 4 (some .boolean) ({ frames := 4, cells := 0, slots := 0, locals := 53 } : Room) #[.ref x, .int (Int32.ofNat j), .int (Int32.ofNat ds.length), .int c] [] h (fun v h' => v = some (.int 1) ∧ h' = h) oNo := by
  have hb31 := Sx.len
  refine oCtr.enter (Ls := #[.val (.ref x), .val (.int (Int32.ofNat j)), .val (.int (Int32.ofNat ds.length)), .val (.int c)]) (plainFor_of_name pn5) hG.2.1 (fun m => by first | (simp [entryFrame, mkF, argsToLocals, Value.category]; done) | rfl) ?_
  intro pP eE sS mM bB tT cC
  refine oGo.iload_n (pc' := 1) d18_0 rfl rfl ?_
  refine oGo.iload_n (pc' := 2) d18_1 rfl rfl ?_
  refine oGo.icmp_ge (pc1 := 5) (pc2 := 14) d18_2 rfl (by decide) (fun q => ?_) (fun q => ?_)
  · refine oGo.iconst (pc' := 15) (v := 1) d18_14 rfl (by decide) ?_
    refine oGo.goto (pc' := 19) d18_15 (by decide) ?_
    exact oGo.nreturn d18_19 rfl (by simp) rfl (by decide) (by decide) ⟨rfl, rfl⟩ (fun _ q => q.elim)
  · have hlt : j < ds.length := (own_lt (by omega) hb31).mp q
    obtain ⟨d, hd⟩ : ∃ d, ds[j]? = some d := ⟨_, List.getElem?_eq_getElem hlt⟩
    obtain rfl := hc d hd
    refine oGo.aload_n (pc' := 6) d18_5 rfl rfl rfl ?_
    refine oGo.iload_n (pc' := 7) d18_6 rfl rfl ?_
    refine oGo.invokevirtual (pc' := 10) (k' := 0) (n' := 0) (a := x) (argsL := [.int (Int32.ofNat j)]) (rest := []) d18_7 rfl (w102 hG) (w103 hG) (w105 hG) (w104 hG) (w10 hG) (w106 hG) (by decide) pd21 rfl rfl rfl Sx.1 (c_charAt hG x t ds j d hd h Sx) (by simp) (by decide) (Nat.le_of_ble_eq_true rfl) rfl rfl (by decide) (by decide) ?_
    intro v1 h2 sh2 q3
    obtain ⟨rfl, ee⟩ := q3
    obtain rfl := ee.symm
    refine ⟨_, fun _ hx => Or.inl hx, ?_⟩
    show oGo l Z a0 EL True pP eE sS mM _ bB tT cC _ _ _ _ _ _ _ _ [] h 0 0 10 #[.val (.ref x), .val (.int (Int32.ofNat j)), .val (.int (Int32.ofNat ds.length)), .val (.int d)] [.int d]
    refine oGo.iload_n (pc' := 11) d18_10 rfl rfl ?_
    refine oGo.icmp_ne (pc1 := 14) (pc2 := 18) d18_11 rfl (by decide) (fun q => absurd rfl q) (fun q4 => ?_)
    refine oGo.iconst (pc' := 15) (v := 1) d18_14 rfl (by decide) ?_
    refine oGo.goto (pc' := 19) d18_15 (by decide) ?_
    exact oGo.nreturn d18_19 rfl (by simp) rfl (by decide) (by decide) ⟨rfl, rfl⟩ (fun _ q => q.elim)
set_option maxRecDepth 65536 in
set_option maxHeartbeats 4000000 in
theorem c_law {l : Launch} {Z : State} {a0 : Array Value} {EL : List (String × Nat)} (hG : oG a0 Z EL) (i0 i1 i2 i3 i4 : Int32) (h : Heap)  :
    oCtr tables_1 l Z a0 EL True (⟨"com/example/recital/recital/NumeralPrefixPinLaw", "law", "(IIIII)Z"⟩ : MethodName) code 14 (some .boolean) room_1 #[.int i0, .int i1, .int i2, .int i3, .int i4] [] h (fun v h' => v = some (.int 1)) oNo := by
  refine oCtr.enter (Ls := #[.val (.int i0), .val (.int i1), .val (.int i2), .val (.int i3), .val (.int i4), .unset, .unset, .unset, .unset, .unset, .unset, .unset, .unset, .unset]) (plainFor_of_name pn5) hG.2.1 (fun m => by first | (simp [entryFrame, mkF, argsToLocals, Value.category]; done) | rfl) ?_
  intro pP eE sS mM bB tT cC
  refine oGo.iload_n (pc' := 1) at_0 rfl rfl ?_
  refine oGo.ldc_int (pc' := 3) at_1 rfl (w0 hG) ?_
  refine oGo.iand (pc' := 4) at_3 rfl ?_
  refine oGo.iconst (pc' := 5) (v := 5) at_4 rfl (by decide) ?_
  refine oGo.irem (pc' := 6) at_5 rfl (by decide) ?_
  obtain ⟨i, hi, ei⟩ := rng5 i0
  rw [ei]
  refine oGo.istore (pc' := 8) (Ls' := #[.val (.int i0), .val (.int i1), .val (.int i2), .val (.int i3), .val (.int i4), .val (.int (Int32.ofNat i)), .unset, .unset, .unset, .unset, .unset, .unset, .unset, .unset]) at_6 rfl rfl ?_
  refine oGo.iload_n (pc' := 9) at_8 rfl rfl ?_
  refine oGo.invokestatic (pc' := 12) (k' := 0) (n' := 0) (argsL := [.int i1]) (rest := []) at_9 rfl (w1 hG) (w2 hG) (w3 hG) (w4 hG) (by decide) pd21 rfl rfl rfl (c_ch hG i1 _) (by simp) (by decide) (Nat.le_of_ble_eq_true rfl) rfl rfl (by decide) (by decide) ?_
  intro v1 h2 sh2 q3
  obtain ⟨rfl, ee⟩ := q3
  obtain rfl := ee.symm
  refine ⟨_, fun _ hx => Or.inl hx, ?_⟩
  show oGo l Z a0 EL True pP eE sS mM _ bB tT cC _ _ _ _ _ _ _ _ [] h 0 0 12 #[.val (.int i0), .val (.int i1), .val (.int i2), .val (.int i3), .val (.int i4), .val (.int (Int32.ofNat i)), .unset, .unset, .unset, .unset, .unset, .unset, .unset, .unset] [.int (chG i1)]
  obtain ⟨c0, hc0⟩ : ∃ c, c = (chG i1) := ⟨_, rfl⟩
  rw [← hc0]
  have bc0 : ¬ c0 < 0 ∧ ¬ 255 < c0 := by rw [hc0]; exact chG_b _
  refine oGo.istore (pc' := 14) (Ls' := #[.val (.int i0), .val (.int i1), .val (.int i2), .val (.int i3), .val (.int i4), .val (.int (Int32.ofNat i)), .val (.int c0), .unset, .unset, .unset, .unset, .unset, .unset, .unset]) at_12 rfl rfl ?_
  refine oGo.iload_n (pc' := 15) at_14 rfl rfl ?_
  refine oGo.invokestatic (pc' := 18) (k' := 0) (n' := 0) (argsL := [.int i2]) (rest := []) at_15 rfl (w1 hG) (w2 hG) (w3 hG) (w4 hG) (by decide) pd21 rfl rfl rfl (c_ch hG i2 _) (by simp) (by decide) (Nat.le_of_ble_eq_true rfl) rfl rfl (by decide) (by decide) ?_
  intro v4 h5 sh5 q6
  obtain ⟨rfl, ee⟩ := q6
  obtain rfl := ee.symm
  refine ⟨_, fun _ hx => Or.inl hx, ?_⟩
  show oGo l Z a0 EL True pP eE sS mM _ bB tT cC _ _ _ _ _ _ _ _ [] h 0 0 18 #[.val (.int i0), .val (.int i1), .val (.int i2), .val (.int i3), .val (.int i4), .val (.int (Int32.ofNat i)), .val (.int c0), .unset, .unset, .unset, .unset, .unset, .unset, .unset] [.int (chG i2)]
  obtain ⟨c1, hc1⟩ : ∃ c, c = (chG i2) := ⟨_, rfl⟩
  rw [← hc1]
  have bc1 : ¬ c1 < 0 ∧ ¬ 255 < c1 := by rw [hc1]; exact chG_b _
  refine oGo.istore (pc' := 20) (Ls' := #[.val (.int i0), .val (.int i1), .val (.int i2), .val (.int i3), .val (.int i4), .val (.int (Int32.ofNat i)), .val (.int c0), .val (.int c1), .unset, .unset, .unset, .unset, .unset, .unset]) at_18 rfl rfl ?_
  refine oGo.iload_n (pc' := 21) at_20 rfl rfl ?_
  refine oGo.invokestatic (pc' := 24) (k' := 0) (n' := 0) (argsL := [.int i3]) (rest := []) at_21 rfl (w1 hG) (w2 hG) (w3 hG) (w4 hG) (by decide) pd21 rfl rfl rfl (c_ch hG i3 _) (by simp) (by decide) (Nat.le_of_ble_eq_true rfl) rfl rfl (by decide) (by decide) ?_
  intro v7 h8 sh8 q9
  obtain ⟨rfl, ee⟩ := q9
  obtain rfl := ee.symm
  refine ⟨_, fun _ hx => Or.inl hx, ?_⟩
  show oGo l Z a0 EL True pP eE sS mM _ bB tT cC _ _ _ _ _ _ _ _ [] h 0 0 24 #[.val (.int i0), .val (.int i1), .val (.int i2), .val (.int i3), .val (.int i4), .val (.int (Int32.ofNat i)), .val (.int c0), .val (.int c1), .unset, .unset, .unset, .unset, .unset, .unset] [.int (chG i3)]
  obtain ⟨c2, hc2⟩ : ∃ c, c = (chG i3) := ⟨_, rfl⟩
  rw [← hc2]
  have bc2 : ¬ c2 < 0 ∧ ¬ 255 < c2 := by rw [hc2]; exact chG_b _
  refine oGo.istore (pc' := 26) (Ls' := #[.val (.int i0), .val (.int i1), .val (.int i2), .val (.int i3), .val (.int i4), .val (.int (Int32.ofNat i)), .val (.int c0), .val (.int c1), .val (.int c2), .unset, .unset, .unset, .unset, .unset]) at_24 rfl rfl ?_
  refine oGo.iload (pc' := 28) at_26 rfl rfl ?_
  refine oGo.invokestatic (pc' := 31) (k' := 0) (n' := 0) (argsL := [.int i4]) (rest := []) at_28 rfl (w1 hG) (w2 hG) (w3 hG) (w4 hG) (by decide) pd21 rfl rfl rfl (c_ch hG i4 _) (by simp) (by decide) (Nat.le_of_ble_eq_true rfl) rfl rfl (by decide) (by decide) ?_
  intro v10 h11 sh11 q12
  obtain ⟨rfl, ee⟩ := q12
  obtain rfl := ee.symm
  refine ⟨_, fun _ hx => Or.inl hx, ?_⟩
  show oGo l Z a0 EL True pP eE sS mM _ bB tT cC _ _ _ _ _ _ _ _ [] h 0 0 31 #[.val (.int i0), .val (.int i1), .val (.int i2), .val (.int i3), .val (.int i4), .val (.int (Int32.ofNat i)), .val (.int c0), .val (.int c1), .val (.int c2), .unset, .unset, .unset, .unset, .unset] [.int (chG i4)]
  obtain ⟨c3, hc3⟩ : ∃ c, c = (chG i4) := ⟨_, rfl⟩
  rw [← hc3]
  have bc3 : ¬ c3 < 0 ∧ ¬ 255 < c3 := by rw [hc3]; exact chG_b _
  refine oGo.istore (pc' := 33) (Ls' := #[.val (.int i0), .val (.int i1), .val (.int i2), .val (.int i3), .val (.int i4), .val (.int (Int32.ofNat i)), .val (.int c0), .val (.int c1), .val (.int c2), .val (.int c3), .unset, .unset, .unset, .unset]) at_31 rfl rfl ?_
  refine oGo.iload (pc' := 35) at_33 rfl rfl ?_
  refine oGo.iload (pc' := 37) at_35 rfl rfl ?_
  refine oGo.iload (pc' := 39) at_37 rfl rfl ?_
  refine oGo.iload (pc' := 41) at_39 rfl rfl ?_
  refine oGo.iload (pc' := 43) at_41 rfl rfl ?_
  rcases (show i = 0 ∨ i = 1 ∨ i = 2 ∨ i = 3 ∨ i = 4 by omega) with rfl | rfl | rfl | rfl | rfl
  · show oGo l Z a0 EL True pP eE sS mM _ bB tT cC _ _ _ _ _ _ _ _ [] h 0 0 43 #[.val (.int i0), .val (.int i1), .val (.int i2), .val (.int i3), .val (.int i4), .val (.int (0 : Int32)), .val (.int c0), .val (.int c1), .val (.int c2), .val (.int c3), .unset, .unset, .unset, .unset] [.int c3, .int c2, .int c1, .int c0, .int (0 : Int32)]
    refine oGo.invokestatic (pc' := 46) (k' := 6) (n' := 16) (argsL := [.int (0 : Int32), .int c0, .int c1, .int c2, .int c3]) (rest := []) at_43 rfl (w5 hG) (w6 hG) (w3 hG) (w7 hG) (by decide) pd22 rfl rfl rfl (c_make0 hG c0 c1 c2 c3 bc0 bc1 bc2 bc3 _) (by simp) (by decide) (Nat.le_of_ble_eq_true rfl) rfl rfl (by decide) (by decide) ?_
    intro v13 h14 sh14 q15
    obtain ⟨K1, x, t, rfl, Sx⟩ := q15
    refine ⟨_, fun _ hx => Or.inl hx, ?_⟩
    show oGo l Z a0 EL True pP eE sS mM _ bB tT cC _ _ _ _ _ _ _ _ [] h14 6 16 46 #[.val (.int i0), .val (.int i1), .val (.int i2), .val (.int i3), .val (.int i4), .val (.int (0 : Int32)), .val (.int c0), .val (.int c1), .val (.int c2), .val (.int c3), .unset, .unset, .unset, .unset] [.ref x]
    refine oGo.astore (pc' := 48) (Ls' := #[.val (.int i0), .val (.int i1), .val (.int i2), .val (.int i3), .val (.int i4), .val (.int (0 : Int32)), .val (.int c0), .val (.int c1), .val (.int c2), .val (.int c3), .val (.ref x), .unset, .unset, .unset]) at_46 rfl rfl rfl ?_
    refine oGo.iconst (pc' := 49) (v := -1) at_48 rfl (by decide) ?_
    refine oGo.istore (pc' := 51) (Ls' := #[.val (.int i0), .val (.int i1), .val (.int i2), .val (.int i3), .val (.int i4), .val (.int (0 : Int32)), .val (.int c0), .val (.int c1), .val (.int c2), .val (.int c3), .val (.ref x), .val (.int (-1 : Int32)), .unset, .unset]) at_49 rfl rfl ?_
    refine oGo.iload (pc' := 53) at_51 rfl rfl ?_
    refine oGo.if_le (pc1 := 56) (pc2 := 66) at_53 rfl (by decide) (fun q16 => ?_) (fun q => by first | exact absurd q (by decide) | exact absurd (by decide) q)
    refine oGo.iload (pc' := 68) at_66 rfl rfl ?_
    refine oGo.iconst (pc' := 69) (v := 1) at_68 rfl (by decide) ?_
    refine oGo.icmp_le (pc1 := 72) (pc2 := 82) at_69 rfl (by decide) (fun q17 => ?_) (fun q => by first | exact absurd q (by decide) | exact absurd (by decide) q)
    refine oGo.iload (pc' := 84) at_82 rfl rfl ?_
    refine oGo.iconst (pc' := 85) (v := 2) at_84 rfl (by decide) ?_
    refine oGo.icmp_le (pc1 := 88) (pc2 := 98) at_85 rfl (by decide) (fun q18 => ?_) (fun q => by first | exact absurd q (by decide) | exact absurd (by decide) q)
    refine oGo.iload (pc' := 100) at_98 rfl rfl ?_
    refine oGo.iconst (pc' := 101) (v := 3) at_100 rfl (by decide) ?_
    refine oGo.icmp_le (pc1 := 104) (pc2 := 114) at_101 rfl (by decide) (fun q19 => ?_) (fun q => by first | exact absurd q (by decide) | exact absurd (by decide) q)
    refine oGo.iload (pc' := 116) at_114 rfl rfl ?_
    refine oGo.iconst (pc' := 117) (v := 1) at_116 rfl (by decide) ?_
    refine oGo.iadd (pc' := 118) at_117 rfl ?_
    rw [show (-1 : Int32) + (1 : Int32) = (0 : Int32) from by decide]
    show oGo l Z a0 EL True pP eE sS mM _ bB tT cC _ _ _ _ _ _ _ _ [] h14 6 16 118 #[.val (.int i0), .val (.int i1), .val (.int i2), .val (.int i3), .val (.int i4), .val (.int (0 : Int32)), .val (.int c0), .val (.int c1), .val (.int c2), .val (.int c3), .val (.ref x), .val (.int (-1 : Int32)), .unset, .unset] [.int (Int32.ofNat (lastM 46 []))]
    refine oGo.istore (pc' := 120) (Ls' := #[.val (.int i0), .val (.int i1), .val (.int i2), .val (.int i3), .val (.int i4), .val (.int (0 : Int32)), .val (.int c0), .val (.int c1), .val (.int c2), .val (.int c3), .val (.ref x), .val (.int (-1 : Int32)), .val (.int (Int32.ofNat (lastM 46 []))), .unset]) at_118 rfl rfl ?_
    refine oGo.aload (pc' := 122) at_120 rfl rfl rfl ?_
    refine oGo.invokestatic (pc' := 125) (k' := 8) (n' := 24) (argsL := [.ref x]) (rest := []) at_122 rfl (w30 hG) (w31 hG) (w32 hG) (w33 hG) (by decide) pd23 rfl rfl rfl (c_prefix hG x t [] (by simp) _ Sx) (by simp) (by decide) (Nat.le_of_ble_eq_true rfl) rfl rfl (by decide) (by decide) ?_
    intro v20 h21 sh21 q22
    obtain ⟨K2, y, u, rfl, Sy⟩ := q22
    have hle := lastM_le 46 ([] : List Int32)
    have hyl : (([] : List Int32).take (lastM 46 [])).length = lastM 46 [] := by rw [List.length_take]; exact Nat.min_eq_left hle
    refine ⟨_, fun _ hx => Or.inl hx, ?_⟩
    show oGo l Z a0 EL True pP eE sS mM _ bB tT cC _ _ _ _ _ _ _ _ [] h21 8 24 125 #[.val (.int i0), .val (.int i1), .val (.int i2), .val (.int i3), .val (.int i4), .val (.int (0 : Int32)), .val (.int c0), .val (.int c1), .val (.int c2), .val (.int c3), .val (.ref x), .val (.int (-1 : Int32)), .val (.int (Int32.ofNat (lastM 46 []))), .unset] [.ref y]
    refine oGo.astore (pc' := 127) (Ls' := #[.val (.int i0), .val (.int i1), .val (.int i2), .val (.int i3), .val (.int i4), .val (.int (0 : Int32)), .val (.int c0), .val (.int c1), .val (.int c2), .val (.int c3), .val (.ref x), .val (.int (-1 : Int32)), .val (.int (Int32.ofNat (lastM 46 []))), .val (.ref y)]) at_125 rfl rfl rfl ?_
    refine oGo.aload (pc' := 129) at_127 rfl rfl rfl ?_
    refine oGo.invokevirtual (pc' := 132) (k' := 8) (n' := 24) (a := y) (argsL := []) (rest := []) at_129 rfl (w84 hG) (w40 hG) (w42 hG) (w41 hG) (w10 hG) (w43 hG) (by decide) pd12 rfl rfl rfl Sy.1 (c_length hG y u _ _ Sy) (by simp) (by decide) (Nat.le_of_ble_eq_true rfl) rfl rfl (by decide) (by decide) ?_
    intro v23 h24 sh24 q25
    obtain ⟨rfl, ee⟩ := q25
    obtain rfl := ee.symm
    refine ⟨_, fun _ hx => Or.inl hx, ?_⟩
    show oGo l Z a0 EL True pP eE sS mM _ bB tT cC _ _ _ _ _ _ _ _ [] h21 8 24 132 #[.val (.int i0), .val (.int i1), .val (.int i2), .val (.int i3), .val (.int i4), .val (.int (0 : Int32)), .val (.int c0), .val (.int c1), .val (.int c2), .val (.int c3), .val (.ref x), .val (.int (-1 : Int32)), .val (.int (Int32.ofNat (lastM 46 []))), .val (.ref y)] [.int (Int32.ofNat (([] : List Int32).take (lastM 46 [])).length)]
    rw [hyl]
    refine oGo.iload (pc' := 134) at_132 rfl rfl ?_
    refine oGo.icmp_eq (pc1 := 137) (pc2 := 139) at_134 rfl (by decide) (fun q26 => ?_) (fun q => absurd rfl q)
    refine oGo.aload (pc' := 141) at_139 rfl rfl rfl ?_
    refine oGo.iconst (pc' := 142) (v := 0) at_141 rfl (by decide) ?_
    refine oGo.iload (pc' := 144) at_142 rfl rfl ?_
    refine oGo.iload (pc' := 146) at_144 rfl rfl ?_
    have hs0 : ∀ d, (([] : List Int32).take (lastM 46 []))[0]? = some d → d = c0 := by
      intro d hd
      rw [List.getElem?_take] at hd
      split at hd
      · simpa using hd.symm
      · cases hd
    have e0 := c_same (l := l) (Z := Z) (a0 := a0) (EL := EL) hG y u _ 0 (by decide) c0 hs0 _ Sy
    rw [hyl] at e0
    refine oGo.invokestatic (pc' := 149) (k' := 8) (n' := 24) (argsL := [.ref y, .int (0 : Int32), .int (Int32.ofNat (lastM 46 [])), .int c0]) (rest := []) at_146 rfl (w85 hG) (w86 hG) (w3 hG) (w87 hG) (by decide) pd24 rfl rfl rfl e0 (by simp) (by decide) (Nat.le_of_ble_eq_true rfl) rfl rfl (by decide) (by decide) ?_
    intro v27 h28 sh28 q29
    obtain ⟨rfl, ee⟩ := q29
    obtain rfl := ee.symm
    refine ⟨_, fun _ hx => Or.inl hx, ?_⟩
    show oGo l Z a0 EL True pP eE sS mM _ bB tT cC _ _ _ _ _ _ _ _ [] h21 8 24 149 #[.val (.int i0), .val (.int i1), .val (.int i2), .val (.int i3), .val (.int i4), .val (.int (0 : Int32)), .val (.int c0), .val (.int c1), .val (.int c2), .val (.int c3), .val (.ref x), .val (.int (-1 : Int32)), .val (.int (Int32.ofNat (lastM 46 []))), .val (.ref y)] [.int (1 : Int32)]
    refine oGo.if_eq (pc1 := 152) (pc2 := 195) at_149 rfl (by decide) (fun q => by first | exact absurd q (by decide) | exact absurd (by decide) q) (fun q30 => ?_)
    refine oGo.aload (pc' := 154) at_152 rfl rfl rfl ?_
    refine oGo.iconst (pc' := 155) (v := 1) at_154 rfl (by decide) ?_
    refine oGo.iload (pc' := 157) at_155 rfl rfl ?_
    refine oGo.iload (pc' := 159) at_157 rfl rfl ?_
    have hs1 : ∀ d, (([] : List Int32).take (lastM 46 []))[1]? = some d → d = c1 := by
      intro d hd
      rw [List.getElem?_take] at hd
      split at hd
      · simpa using hd.symm
      · cases hd
    have e1 := c_same (l := l) (Z := Z) (a0 := a0) (EL := EL) hG y u _ 1 (by decide) c1 hs1 _ Sy
    rw [hyl] at e1
    refine oGo.invokestatic (pc' := 162) (k' := 8) (n' := 24) (argsL := [.ref y, .int (1 : Int32), .int (Int32.ofNat (lastM 46 [])), .int c1]) (rest := []) at_159 rfl (w85 hG) (w86 hG) (w3 hG) (w87 hG) (by decide) pd24 rfl rfl rfl e1 (by simp) (by decide) (Nat.le_of_ble_eq_true rfl) rfl rfl (by decide) (by decide) ?_
    intro v31 h32 sh32 q33
    obtain ⟨rfl, ee⟩ := q33
    obtain rfl := ee.symm
    refine ⟨_, fun _ hx => Or.inl hx, ?_⟩
    show oGo l Z a0 EL True pP eE sS mM _ bB tT cC _ _ _ _ _ _ _ _ [] h21 8 24 162 #[.val (.int i0), .val (.int i1), .val (.int i2), .val (.int i3), .val (.int i4), .val (.int (0 : Int32)), .val (.int c0), .val (.int c1), .val (.int c2), .val (.int c3), .val (.ref x), .val (.int (-1 : Int32)), .val (.int (Int32.ofNat (lastM 46 []))), .val (.ref y)] [.int (1 : Int32)]
    refine oGo.if_eq (pc1 := 165) (pc2 := 195) at_162 rfl (by decide) (fun q => by first | exact absurd q (by decide) | exact absurd (by decide) q) (fun q34 => ?_)
    refine oGo.aload (pc' := 167) at_165 rfl rfl rfl ?_
    refine oGo.iconst (pc' := 168) (v := 2) at_167 rfl (by decide) ?_
    refine oGo.iload (pc' := 170) at_168 rfl rfl ?_
    refine oGo.iload (pc' := 172) at_170 rfl rfl ?_
    have hs2 : ∀ d, (([] : List Int32).take (lastM 46 []))[2]? = some d → d = c2 := by
      intro d hd
      rw [List.getElem?_take] at hd
      split at hd
      · simpa using hd.symm
      · cases hd
    have e2 := c_same (l := l) (Z := Z) (a0 := a0) (EL := EL) hG y u _ 2 (by decide) c2 hs2 _ Sy
    rw [hyl] at e2
    refine oGo.invokestatic (pc' := 175) (k' := 8) (n' := 24) (argsL := [.ref y, .int (2 : Int32), .int (Int32.ofNat (lastM 46 [])), .int c2]) (rest := []) at_172 rfl (w85 hG) (w86 hG) (w3 hG) (w87 hG) (by decide) pd24 rfl rfl rfl e2 (by simp) (by decide) (Nat.le_of_ble_eq_true rfl) rfl rfl (by decide) (by decide) ?_
    intro v35 h36 sh36 q37
    obtain ⟨rfl, ee⟩ := q37
    obtain rfl := ee.symm
    refine ⟨_, fun _ hx => Or.inl hx, ?_⟩
    show oGo l Z a0 EL True pP eE sS mM _ bB tT cC _ _ _ _ _ _ _ _ [] h21 8 24 175 #[.val (.int i0), .val (.int i1), .val (.int i2), .val (.int i3), .val (.int i4), .val (.int (0 : Int32)), .val (.int c0), .val (.int c1), .val (.int c2), .val (.int c3), .val (.ref x), .val (.int (-1 : Int32)), .val (.int (Int32.ofNat (lastM 46 []))), .val (.ref y)] [.int (1 : Int32)]
    refine oGo.if_eq (pc1 := 178) (pc2 := 195) at_175 rfl (by decide) (fun q => by first | exact absurd q (by decide) | exact absurd (by decide) q) (fun q38 => ?_)
    refine oGo.aload (pc' := 180) at_178 rfl rfl rfl ?_
    refine oGo.iconst (pc' := 181) (v := 3) at_180 rfl (by decide) ?_
    refine oGo.iload (pc' := 183) at_181 rfl rfl ?_
    refine oGo.iload (pc' := 185) at_183 rfl rfl ?_
    have hs3 : ∀ d, (([] : List Int32).take (lastM 46 []))[3]? = some d → d = c3 := by
      intro d hd
      rw [List.getElem?_take] at hd
      split at hd
      · simpa using hd.symm
      · cases hd
    have e3 := c_same (l := l) (Z := Z) (a0 := a0) (EL := EL) hG y u _ 3 (by decide) c3 hs3 _ Sy
    rw [hyl] at e3
    refine oGo.invokestatic (pc' := 188) (k' := 8) (n' := 24) (argsL := [.ref y, .int (3 : Int32), .int (Int32.ofNat (lastM 46 [])), .int c3]) (rest := []) at_185 rfl (w85 hG) (w86 hG) (w3 hG) (w87 hG) (by decide) pd24 rfl rfl rfl e3 (by simp) (by decide) (Nat.le_of_ble_eq_true rfl) rfl rfl (by decide) (by decide) ?_
    intro v39 h40 sh40 q41
    obtain ⟨rfl, ee⟩ := q41
    obtain rfl := ee.symm
    refine ⟨_, fun _ hx => Or.inl hx, ?_⟩
    show oGo l Z a0 EL True pP eE sS mM _ bB tT cC _ _ _ _ _ _ _ _ [] h21 8 24 188 #[.val (.int i0), .val (.int i1), .val (.int i2), .val (.int i3), .val (.int i4), .val (.int (0 : Int32)), .val (.int c0), .val (.int c1), .val (.int c2), .val (.int c3), .val (.ref x), .val (.int (-1 : Int32)), .val (.int (Int32.ofNat (lastM 46 []))), .val (.ref y)] [.int (1 : Int32)]
    refine oGo.if_eq (pc1 := 191) (pc2 := 195) at_188 rfl (by decide) (fun q => by first | exact absurd q (by decide) | exact absurd (by decide) q) (fun q42 => ?_)
    refine oGo.iconst (pc' := 192) (v := 1) at_191 rfl (by decide) ?_
    refine oGo.goto (pc' := 196) at_192 (by decide) ?_
    exact oGo.nreturn at_196 rfl (by simp) rfl (by decide) (by decide) rfl (fun _ q => q.elim)
  · show oGo l Z a0 EL True pP eE sS mM _ bB tT cC _ _ _ _ _ _ _ _ [] h 0 0 43 #[.val (.int i0), .val (.int i1), .val (.int i2), .val (.int i3), .val (.int i4), .val (.int (1 : Int32)), .val (.int c0), .val (.int c1), .val (.int c2), .val (.int c3), .unset, .unset, .unset, .unset] [.int c3, .int c2, .int c1, .int c0, .int (1 : Int32)]
    refine oGo.invokestatic (pc' := 46) (k' := 6) (n' := 16) (argsL := [.int (1 : Int32), .int c0, .int c1, .int c2, .int c3]) (rest := []) at_43 rfl (w5 hG) (w6 hG) (w3 hG) (w7 hG) (by decide) pd22 rfl rfl rfl (c_make1 hG c0 c1 c2 c3 bc0 bc1 bc2 bc3 _) (by simp) (by decide) (Nat.le_of_ble_eq_true rfl) rfl rfl (by decide) (by decide) ?_
    intro v43 h44 sh44 q45
    obtain ⟨K1, x, t, rfl, Sx⟩ := q45
    refine ⟨_, fun _ hx => Or.inl hx, ?_⟩
    show oGo l Z a0 EL True pP eE sS mM _ bB tT cC _ _ _ _ _ _ _ _ [] h44 6 16 46 #[.val (.int i0), .val (.int i1), .val (.int i2), .val (.int i3), .val (.int i4), .val (.int (1 : Int32)), .val (.int c0), .val (.int c1), .val (.int c2), .val (.int c3), .unset, .unset, .unset, .unset] [.ref x]
    refine oGo.astore (pc' := 48) (Ls' := #[.val (.int i0), .val (.int i1), .val (.int i2), .val (.int i3), .val (.int i4), .val (.int (1 : Int32)), .val (.int c0), .val (.int c1), .val (.int c2), .val (.int c3), .val (.ref x), .unset, .unset, .unset]) at_46 rfl rfl rfl ?_
    refine oGo.iconst (pc' := 49) (v := -1) at_48 rfl (by decide) ?_
    refine oGo.istore (pc' := 51) (Ls' := #[.val (.int i0), .val (.int i1), .val (.int i2), .val (.int i3), .val (.int i4), .val (.int (1 : Int32)), .val (.int c0), .val (.int c1), .val (.int c2), .val (.int c3), .val (.ref x), .val (.int (-1 : Int32)), .unset, .unset]) at_49 rfl rfl ?_
    refine oGo.iload (pc' := 53) at_51 rfl rfl ?_
    refine oGo.if_le (pc1 := 56) (pc2 := 66) at_53 rfl (by decide) (fun q => by first | exact absurd q (by decide) | exact absurd (by decide) q) (fun q46 => ?_)
    refine oGo.iload (pc' := 58) at_56 rfl rfl ?_
    refine oGo.bipush (pc' := 60) (v := 46) at_58 rfl (by decide) ?_
    suffices join66 : oGo l Z a0 EL True pP eE sS mM #[.int i0, .int i1, .int i2, .int i3, .int i4] bB tT cC room_1 "com/example/recital/recital/NumeralPrefixPinLaw" code 14 (some .boolean) "law" (fun v h' => v = some (.int 1)) oNo [] h44 6 16 66 #[.val (.int i0), .val (.int i1), .val (.int i2), .val (.int i3), .val (.int i4), .val (.int (1 : Int32)), .val (.int c0), .val (.int c1), .val (.int c2), .val (.int c3), .val (.ref x), .val (.int (if c0 = 46 then 0 else (-1 : Int32))), .unset, .unset] [] by
      refine oGo.icmp_ne (pc1 := 63) (pc2 := 66) at_60 rfl (by decide) (fun q => ?_) (fun q => ?_)
      · rw [if_neg q] at join66; exact join66
      · refine oGo.iconst (pc' := 64) (v := 0) at_63 rfl (by decide) ?_
        refine oGo.istore (pc' := 66) (Ls' := #[.val (.int i0), .val (.int i1), .val (.int i2), .val (.int i3), .val (.int i4), .val (.int (1 : Int32)), .val (.int c0), .val (.int c1), .val (.int c2), .val (.int c3), .val (.ref x), .val (.int (0 : Int32)), .unset, .unset]) at_64 rfl rfl ?_
        rw [if_pos q] at join66; exact join66
    refine oGo.iload (pc' := 68) at_66 rfl rfl ?_
    refine oGo.iconst (pc' := 69) (v := 1) at_68 rfl (by decide) ?_
    refine oGo.icmp_le (pc1 := 72) (pc2 := 82) at_69 rfl (by decide) (fun q47 => ?_) (fun q => by first | exact absurd q (by decide) | exact absurd (by decide) q)
    refine oGo.iload (pc' := 84) at_82 rfl rfl ?_
    refine oGo.iconst (pc' := 85) (v := 2) at_84 rfl (by decide) ?_
    refine oGo.icmp_le (pc1 := 88) (pc2 := 98) at_85 rfl (by decide) (fun q48 => ?_) (fun q => by first | exact absurd q (by decide) | exact absurd (by decide) q)
    refine oGo.iload (pc' := 100) at_98 rfl rfl ?_
    refine oGo.iconst (pc' := 101) (v := 3) at_100 rfl (by decide) ?_
    refine oGo.icmp_le (pc1 := 104) (pc2 := 114) at_101 rfl (by decide) (fun q49 => ?_) (fun q => by first | exact absurd q (by decide) | exact absurd (by decide) q)
    refine oGo.iload (pc' := 116) at_114 rfl rfl ?_
    refine oGo.iconst (pc' := 117) (v := 1) at_116 rfl (by decide) ?_
    refine oGo.iadd (pc' := 118) at_117 rfl ?_
    rw [last_1]
    refine oGo.istore (pc' := 120) (Ls' := #[.val (.int i0), .val (.int i1), .val (.int i2), .val (.int i3), .val (.int i4), .val (.int (1 : Int32)), .val (.int c0), .val (.int c1), .val (.int c2), .val (.int c3), .val (.ref x), .val (.int (if c0 = 46 then 0 else (-1 : Int32))), .val (.int (Int32.ofNat (lastM 46 [c0]))), .unset]) at_118 rfl rfl ?_
    refine oGo.aload (pc' := 122) at_120 rfl rfl rfl ?_
    refine oGo.invokestatic (pc' := 125) (k' := 8) (n' := 24) (argsL := [.ref x]) (rest := []) at_122 rfl (w30 hG) (w31 hG) (w32 hG) (w33 hG) (by decide) pd23 rfl rfl rfl (c_prefix hG x t [c0] (by simp) _ Sx) (by simp) (by decide) (Nat.le_of_ble_eq_true rfl) rfl rfl (by decide) (by decide) ?_
    intro v50 h51 sh51 q52
    obtain ⟨K2, y, u, rfl, Sy⟩ := q52
    have hle := lastM_le 46 ([c0] : List Int32)
    have hyl : (([c0] : List Int32).take (lastM 46 [c0])).length = lastM 46 [c0] := by rw [List.length_take]; exact Nat.min_eq_left hle
    refine ⟨_, fun _ hx => Or.inl hx, ?_⟩
    show oGo l Z a0 EL True pP eE sS mM _ bB tT cC _ _ _ _ _ _ _ _ [] h51 8 24 125 #[.val (.int i0), .val (.int i1), .val (.int i2), .val (.int i3), .val (.int i4), .val (.int (1 : Int32)), .val (.int c0), .val (.int c1), .val (.int c2), .val (.int c3), .val (.ref x), .val (.int (if c0 = 46 then 0 else (-1 : Int32))), .val (.int (Int32.ofNat (lastM 46 [c0]))), .unset] [.ref y]
    refine oGo.astore (pc' := 127) (Ls' := #[.val (.int i0), .val (.int i1), .val (.int i2), .val (.int i3), .val (.int i4), .val (.int (1 : Int32)), .val (.int c0), .val (.int c1), .val (.int c2), .val (.int c3), .val (.ref x), .val (.int (if c0 = 46 then 0 else (-1 : Int32))), .val (.int (Int32.ofNat (lastM 46 [c0]))), .val (.ref y)]) at_125 rfl rfl rfl ?_
    refine oGo.aload (pc' := 129) at_127 rfl rfl rfl ?_
    refine oGo.invokevirtual (pc' := 132) (k' := 8) (n' := 24) (a := y) (argsL := []) (rest := []) at_129 rfl (w84 hG) (w40 hG) (w42 hG) (w41 hG) (w10 hG) (w43 hG) (by decide) pd12 rfl rfl rfl Sy.1 (c_length hG y u _ _ Sy) (by simp) (by decide) (Nat.le_of_ble_eq_true rfl) rfl rfl (by decide) (by decide) ?_
    intro v53 h54 sh54 q55
    obtain ⟨rfl, ee⟩ := q55
    obtain rfl := ee.symm
    refine ⟨_, fun _ hx => Or.inl hx, ?_⟩
    show oGo l Z a0 EL True pP eE sS mM _ bB tT cC _ _ _ _ _ _ _ _ [] h51 8 24 132 #[.val (.int i0), .val (.int i1), .val (.int i2), .val (.int i3), .val (.int i4), .val (.int (1 : Int32)), .val (.int c0), .val (.int c1), .val (.int c2), .val (.int c3), .val (.ref x), .val (.int (if c0 = 46 then 0 else (-1 : Int32))), .val (.int (Int32.ofNat (lastM 46 [c0]))), .val (.ref y)] [.int (Int32.ofNat (([c0] : List Int32).take (lastM 46 [c0])).length)]
    rw [hyl]
    refine oGo.iload (pc' := 134) at_132 rfl rfl ?_
    refine oGo.icmp_eq (pc1 := 137) (pc2 := 139) at_134 rfl (by decide) (fun q56 => ?_) (fun q => absurd rfl q)
    refine oGo.aload (pc' := 141) at_139 rfl rfl rfl ?_
    refine oGo.iconst (pc' := 142) (v := 0) at_141 rfl (by decide) ?_
    refine oGo.iload (pc' := 144) at_142 rfl rfl ?_
    refine oGo.iload (pc' := 146) at_144 rfl rfl ?_
    have hs0 : ∀ d, (([c0] : List Int32).take (lastM 46 [c0]))[0]? = some d → d = c0 := by
      intro d hd
      rw [List.getElem?_take] at hd
      split at hd
      · simpa using hd.symm
      · cases hd
    have e0 := c_same (l := l) (Z := Z) (a0 := a0) (EL := EL) hG y u _ 0 (by decide) c0 hs0 _ Sy
    rw [hyl] at e0
    refine oGo.invokestatic (pc' := 149) (k' := 8) (n' := 24) (argsL := [.ref y, .int (0 : Int32), .int (Int32.ofNat (lastM 46 [c0])), .int c0]) (rest := []) at_146 rfl (w85 hG) (w86 hG) (w3 hG) (w87 hG) (by decide) pd24 rfl rfl rfl e0 (by simp) (by decide) (Nat.le_of_ble_eq_true rfl) rfl rfl (by decide) (by decide) ?_
    intro v57 h58 sh58 q59
    obtain ⟨rfl, ee⟩ := q59
    obtain rfl := ee.symm
    refine ⟨_, fun _ hx => Or.inl hx, ?_⟩
    show oGo l Z a0 EL True pP eE sS mM _ bB tT cC _ _ _ _ _ _ _ _ [] h51 8 24 149 #[.val (.int i0), .val (.int i1), .val (.int i2), .val (.int i3), .val (.int i4), .val (.int (1 : Int32)), .val (.int c0), .val (.int c1), .val (.int c2), .val (.int c3), .val (.ref x), .val (.int (if c0 = 46 then 0 else (-1 : Int32))), .val (.int (Int32.ofNat (lastM 46 [c0]))), .val (.ref y)] [.int (1 : Int32)]
    refine oGo.if_eq (pc1 := 152) (pc2 := 195) at_149 rfl (by decide) (fun q => by first | exact absurd q (by decide) | exact absurd (by decide) q) (fun q60 => ?_)
    refine oGo.aload (pc' := 154) at_152 rfl rfl rfl ?_
    refine oGo.iconst (pc' := 155) (v := 1) at_154 rfl (by decide) ?_
    refine oGo.iload (pc' := 157) at_155 rfl rfl ?_
    refine oGo.iload (pc' := 159) at_157 rfl rfl ?_
    have hs1 : ∀ d, (([c0] : List Int32).take (lastM 46 [c0]))[1]? = some d → d = c1 := by
      intro d hd
      rw [List.getElem?_take] at hd
      split at hd
      · simpa using hd.symm
      · cases hd
    have e1 := c_same (l := l) (Z := Z) (a0 := a0) (EL := EL) hG y u _ 1 (by decide) c1 hs1 _ Sy
    rw [hyl] at e1
    refine oGo.invokestatic (pc' := 162) (k' := 8) (n' := 24) (argsL := [.ref y, .int (1 : Int32), .int (Int32.ofNat (lastM 46 [c0])), .int c1]) (rest := []) at_159 rfl (w85 hG) (w86 hG) (w3 hG) (w87 hG) (by decide) pd24 rfl rfl rfl e1 (by simp) (by decide) (Nat.le_of_ble_eq_true rfl) rfl rfl (by decide) (by decide) ?_
    intro v61 h62 sh62 q63
    obtain ⟨rfl, ee⟩ := q63
    obtain rfl := ee.symm
    refine ⟨_, fun _ hx => Or.inl hx, ?_⟩
    show oGo l Z a0 EL True pP eE sS mM _ bB tT cC _ _ _ _ _ _ _ _ [] h51 8 24 162 #[.val (.int i0), .val (.int i1), .val (.int i2), .val (.int i3), .val (.int i4), .val (.int (1 : Int32)), .val (.int c0), .val (.int c1), .val (.int c2), .val (.int c3), .val (.ref x), .val (.int (if c0 = 46 then 0 else (-1 : Int32))), .val (.int (Int32.ofNat (lastM 46 [c0]))), .val (.ref y)] [.int (1 : Int32)]
    refine oGo.if_eq (pc1 := 165) (pc2 := 195) at_162 rfl (by decide) (fun q => by first | exact absurd q (by decide) | exact absurd (by decide) q) (fun q64 => ?_)
    refine oGo.aload (pc' := 167) at_165 rfl rfl rfl ?_
    refine oGo.iconst (pc' := 168) (v := 2) at_167 rfl (by decide) ?_
    refine oGo.iload (pc' := 170) at_168 rfl rfl ?_
    refine oGo.iload (pc' := 172) at_170 rfl rfl ?_
    have hs2 : ∀ d, (([c0] : List Int32).take (lastM 46 [c0]))[2]? = some d → d = c2 := by
      intro d hd
      rw [List.getElem?_take] at hd
      split at hd
      · simpa using hd.symm
      · cases hd
    have e2 := c_same (l := l) (Z := Z) (a0 := a0) (EL := EL) hG y u _ 2 (by decide) c2 hs2 _ Sy
    rw [hyl] at e2
    refine oGo.invokestatic (pc' := 175) (k' := 8) (n' := 24) (argsL := [.ref y, .int (2 : Int32), .int (Int32.ofNat (lastM 46 [c0])), .int c2]) (rest := []) at_172 rfl (w85 hG) (w86 hG) (w3 hG) (w87 hG) (by decide) pd24 rfl rfl rfl e2 (by simp) (by decide) (Nat.le_of_ble_eq_true rfl) rfl rfl (by decide) (by decide) ?_
    intro v65 h66 sh66 q67
    obtain ⟨rfl, ee⟩ := q67
    obtain rfl := ee.symm
    refine ⟨_, fun _ hx => Or.inl hx, ?_⟩
    show oGo l Z a0 EL True pP eE sS mM _ bB tT cC _ _ _ _ _ _ _ _ [] h51 8 24 175 #[.val (.int i0), .val (.int i1), .val (.int i2), .val (.int i3), .val (.int i4), .val (.int (1 : Int32)), .val (.int c0), .val (.int c1), .val (.int c2), .val (.int c3), .val (.ref x), .val (.int (if c0 = 46 then 0 else (-1 : Int32))), .val (.int (Int32.ofNat (lastM 46 [c0]))), .val (.ref y)] [.int (1 : Int32)]
    refine oGo.if_eq (pc1 := 178) (pc2 := 195) at_175 rfl (by decide) (fun q => by first | exact absurd q (by decide) | exact absurd (by decide) q) (fun q68 => ?_)
    refine oGo.aload (pc' := 180) at_178 rfl rfl rfl ?_
    refine oGo.iconst (pc' := 181) (v := 3) at_180 rfl (by decide) ?_
    refine oGo.iload (pc' := 183) at_181 rfl rfl ?_
    refine oGo.iload (pc' := 185) at_183 rfl rfl ?_
    have hs3 : ∀ d, (([c0] : List Int32).take (lastM 46 [c0]))[3]? = some d → d = c3 := by
      intro d hd
      rw [List.getElem?_take] at hd
      split at hd
      · simpa using hd.symm
      · cases hd
    have e3 := c_same (l := l) (Z := Z) (a0 := a0) (EL := EL) hG y u _ 3 (by decide) c3 hs3 _ Sy
    rw [hyl] at e3
    refine oGo.invokestatic (pc' := 188) (k' := 8) (n' := 24) (argsL := [.ref y, .int (3 : Int32), .int (Int32.ofNat (lastM 46 [c0])), .int c3]) (rest := []) at_185 rfl (w85 hG) (w86 hG) (w3 hG) (w87 hG) (by decide) pd24 rfl rfl rfl e3 (by simp) (by decide) (Nat.le_of_ble_eq_true rfl) rfl rfl (by decide) (by decide) ?_
    intro v69 h70 sh70 q71
    obtain ⟨rfl, ee⟩ := q71
    obtain rfl := ee.symm
    refine ⟨_, fun _ hx => Or.inl hx, ?_⟩
    show oGo l Z a0 EL True pP eE sS mM _ bB tT cC _ _ _ _ _ _ _ _ [] h51 8 24 188 #[.val (.int i0), .val (.int i1), .val (.int i2), .val (.int i3), .val (.int i4), .val (.int (1 : Int32)), .val (.int c0), .val (.int c1), .val (.int c2), .val (.int c3), .val (.ref x), .val (.int (if c0 = 46 then 0 else (-1 : Int32))), .val (.int (Int32.ofNat (lastM 46 [c0]))), .val (.ref y)] [.int (1 : Int32)]
    refine oGo.if_eq (pc1 := 191) (pc2 := 195) at_188 rfl (by decide) (fun q => by first | exact absurd q (by decide) | exact absurd (by decide) q) (fun q72 => ?_)
    refine oGo.iconst (pc' := 192) (v := 1) at_191 rfl (by decide) ?_
    refine oGo.goto (pc' := 196) at_192 (by decide) ?_
    exact oGo.nreturn at_196 rfl (by simp) rfl (by decide) (by decide) rfl (fun _ q => q.elim)
  · show oGo l Z a0 EL True pP eE sS mM _ bB tT cC _ _ _ _ _ _ _ _ [] h 0 0 43 #[.val (.int i0), .val (.int i1), .val (.int i2), .val (.int i3), .val (.int i4), .val (.int (2 : Int32)), .val (.int c0), .val (.int c1), .val (.int c2), .val (.int c3), .unset, .unset, .unset, .unset] [.int c3, .int c2, .int c1, .int c0, .int (2 : Int32)]
    refine oGo.invokestatic (pc' := 46) (k' := 6) (n' := 16) (argsL := [.int (2 : Int32), .int c0, .int c1, .int c2, .int c3]) (rest := []) at_43 rfl (w5 hG) (w6 hG) (w3 hG) (w7 hG) (by decide) pd22 rfl rfl rfl (c_make2 hG c0 c1 c2 c3 bc0 bc1 bc2 bc3 _) (by simp) (by decide) (Nat.le_of_ble_eq_true rfl) rfl rfl (by decide) (by decide) ?_
    intro v73 h74 sh74 q75
    obtain ⟨K1, x, t, rfl, Sx⟩ := q75
    refine ⟨_, fun _ hx => Or.inl hx, ?_⟩
    show oGo l Z a0 EL True pP eE sS mM _ bB tT cC _ _ _ _ _ _ _ _ [] h74 6 16 46 #[.val (.int i0), .val (.int i1), .val (.int i2), .val (.int i3), .val (.int i4), .val (.int (2 : Int32)), .val (.int c0), .val (.int c1), .val (.int c2), .val (.int c3), .unset, .unset, .unset, .unset] [.ref x]
    refine oGo.astore (pc' := 48) (Ls' := #[.val (.int i0), .val (.int i1), .val (.int i2), .val (.int i3), .val (.int i4), .val (.int (2 : Int32)), .val (.int c0), .val (.int c1), .val (.int c2), .val (.int c3), .val (.ref x), .unset, .unset, .unset]) at_46 rfl rfl rfl ?_
    refine oGo.iconst (pc' := 49) (v := -1) at_48 rfl (by decide) ?_
    refine oGo.istore (pc' := 51) (Ls' := #[.val (.int i0), .val (.int i1), .val (.int i2), .val (.int i3), .val (.int i4), .val (.int (2 : Int32)), .val (.int c0), .val (.int c1), .val (.int c2), .val (.int c3), .val (.ref x), .val (.int (-1 : Int32)), .unset, .unset]) at_49 rfl rfl ?_
    refine oGo.iload (pc' := 53) at_51 rfl rfl ?_
    refine oGo.if_le (pc1 := 56) (pc2 := 66) at_53 rfl (by decide) (fun q => by first | exact absurd q (by decide) | exact absurd (by decide) q) (fun q76 => ?_)
    refine oGo.iload (pc' := 58) at_56 rfl rfl ?_
    refine oGo.bipush (pc' := 60) (v := 46) at_58 rfl (by decide) ?_
    suffices join66 : oGo l Z a0 EL True pP eE sS mM #[.int i0, .int i1, .int i2, .int i3, .int i4] bB tT cC room_1 "com/example/recital/recital/NumeralPrefixPinLaw" code 14 (some .boolean) "law" (fun v h' => v = some (.int 1)) oNo [] h74 6 16 66 #[.val (.int i0), .val (.int i1), .val (.int i2), .val (.int i3), .val (.int i4), .val (.int (2 : Int32)), .val (.int c0), .val (.int c1), .val (.int c2), .val (.int c3), .val (.ref x), .val (.int (if c0 = 46 then 0 else (-1 : Int32))), .unset, .unset] [] by
      refine oGo.icmp_ne (pc1 := 63) (pc2 := 66) at_60 rfl (by decide) (fun q => ?_) (fun q => ?_)
      · rw [if_neg q] at join66; exact join66
      · refine oGo.iconst (pc' := 64) (v := 0) at_63 rfl (by decide) ?_
        refine oGo.istore (pc' := 66) (Ls' := #[.val (.int i0), .val (.int i1), .val (.int i2), .val (.int i3), .val (.int i4), .val (.int (2 : Int32)), .val (.int c0), .val (.int c1), .val (.int c2), .val (.int c3), .val (.ref x), .val (.int (0 : Int32)), .unset, .unset]) at_64 rfl rfl ?_
        rw [if_pos q] at join66; exact join66
    refine oGo.iload (pc' := 68) at_66 rfl rfl ?_
    refine oGo.iconst (pc' := 69) (v := 1) at_68 rfl (by decide) ?_
    refine oGo.icmp_le (pc1 := 72) (pc2 := 82) at_69 rfl (by decide) (fun q => by first | exact absurd q (by decide) | exact absurd (by decide) q) (fun q77 => ?_)
    refine oGo.iload (pc' := 74) at_72 rfl rfl ?_
    refine oGo.bipush (pc' := 76) (v := 46) at_74 rfl (by decide) ?_
    suffices join82 : oGo l Z a0 EL True pP eE sS mM #[.int i0, .int i1, .int i2, .int i3, .int i4] bB tT cC room_1 "com/example/recital/recital/NumeralPrefixPinLaw" code 14 (some .boolean) "law" (fun v h' => v = some (.int 1)) oNo [] h74 6 16 82 #[.val (.int i0), .val (.int i1), .val (.int i2), .val (.int i3), .val (.int i4), .val (.int (2 : Int32)), .val (.int c0), .val (.int c1), .val (.int c2), .val (.int c3), .val (.ref x), .val (.int (if c1 = 46 then 1 else (if c0 = 46 then 0 else (-1 : Int32)))), .unset, .unset] [] by
      refine oGo.icmp_ne (pc1 := 79) (pc2 := 82) at_76 rfl (by decide) (fun q => ?_) (fun q => ?_)
      · rw [if_neg q] at join82; exact join82
      · refine oGo.iconst (pc' := 80) (v := 1) at_79 rfl (by decide) ?_
        refine oGo.istore (pc' := 82) (Ls' := #[.val (.int i0), .val (.int i1), .val (.int i2), .val (.int i3), .val (.int i4), .val (.int (2 : Int32)), .val (.int c0), .val (.int c1), .val (.int c2), .val (.int c3), .val (.ref x), .val (.int (1 : Int32)), .unset, .unset]) at_80 rfl rfl ?_
        rw [if_pos q] at join82; exact join82
    refine oGo.iload (pc' := 84) at_82 rfl rfl ?_
    refine oGo.iconst (pc' := 85) (v := 2) at_84 rfl (by decide) ?_
    refine oGo.icmp_le (pc1 := 88) (pc2 := 98) at_85 rfl (by decide) (fun q78 => ?_) (fun q => by first | exact absurd q (by decide) | exact absurd (by decide) q)
    refine oGo.iload (pc' := 100) at_98 rfl rfl ?_
    refine oGo.iconst (pc' := 101) (v := 3) at_100 rfl (by decide) ?_
    refine oGo.icmp_le (pc1 := 104) (pc2 := 114) at_101 rfl (by decide) (fun q79 => ?_) (fun q => by first | exact absurd q (by decide) | exact absurd (by decide) q)
    refine oGo.iload (pc' := 116) at_114 rfl rfl ?_
    refine oGo.iconst (pc' := 117) (v := 1) at_116 rfl (by decide) ?_
    refine oGo.iadd (pc' := 118) at_117 rfl ?_
    rw [last_2]
    refine oGo.istore (pc' := 120) (Ls' := #[.val (.int i0), .val (.int i1), .val (.int i2), .val (.int i3), .val (.int i4), .val (.int (2 : Int32)), .val (.int c0), .val (.int c1), .val (.int c2), .val (.int c3), .val (.ref x), .val (.int (if c1 = 46 then 1 else (if c0 = 46 then 0 else (-1 : Int32)))), .val (.int (Int32.ofNat (lastM 46 [c0, c1]))), .unset]) at_118 rfl rfl ?_
    refine oGo.aload (pc' := 122) at_120 rfl rfl rfl ?_
    refine oGo.invokestatic (pc' := 125) (k' := 8) (n' := 24) (argsL := [.ref x]) (rest := []) at_122 rfl (w30 hG) (w31 hG) (w32 hG) (w33 hG) (by decide) pd23 rfl rfl rfl (c_prefix hG x t [c0, c1] (by simp) _ Sx) (by simp) (by decide) (Nat.le_of_ble_eq_true rfl) rfl rfl (by decide) (by decide) ?_
    intro v80 h81 sh81 q82
    obtain ⟨K2, y, u, rfl, Sy⟩ := q82
    have hle := lastM_le 46 ([c0, c1] : List Int32)
    have hyl : (([c0, c1] : List Int32).take (lastM 46 [c0, c1])).length = lastM 46 [c0, c1] := by rw [List.length_take]; exact Nat.min_eq_left hle
    refine ⟨_, fun _ hx => Or.inl hx, ?_⟩
    show oGo l Z a0 EL True pP eE sS mM _ bB tT cC _ _ _ _ _ _ _ _ [] h81 8 24 125 #[.val (.int i0), .val (.int i1), .val (.int i2), .val (.int i3), .val (.int i4), .val (.int (2 : Int32)), .val (.int c0), .val (.int c1), .val (.int c2), .val (.int c3), .val (.ref x), .val (.int (if c1 = 46 then 1 else (if c0 = 46 then 0 else (-1 : Int32)))), .val (.int (Int32.ofNat (lastM 46 [c0, c1]))), .unset] [.ref y]
    refine oGo.astore (pc' := 127) (Ls' := #[.val (.int i0), .val (.int i1), .val (.int i2), .val (.int i3), .val (.int i4), .val (.int (2 : Int32)), .val (.int c0), .val (.int c1), .val (.int c2), .val (.int c3), .val (.ref x), .val (.int (if c1 = 46 then 1 else (if c0 = 46 then 0 else (-1 : Int32)))), .val (.int (Int32.ofNat (lastM 46 [c0, c1]))), .val (.ref y)]) at_125 rfl rfl rfl ?_
    refine oGo.aload (pc' := 129) at_127 rfl rfl rfl ?_
    refine oGo.invokevirtual (pc' := 132) (k' := 8) (n' := 24) (a := y) (argsL := []) (rest := []) at_129 rfl (w84 hG) (w40 hG) (w42 hG) (w41 hG) (w10 hG) (w43 hG) (by decide) pd12 rfl rfl rfl Sy.1 (c_length hG y u _ _ Sy) (by simp) (by decide) (Nat.le_of_ble_eq_true rfl) rfl rfl (by decide) (by decide) ?_
    intro v83 h84 sh84 q85
    obtain ⟨rfl, ee⟩ := q85
    obtain rfl := ee.symm
    refine ⟨_, fun _ hx => Or.inl hx, ?_⟩
    show oGo l Z a0 EL True pP eE sS mM _ bB tT cC _ _ _ _ _ _ _ _ [] h81 8 24 132 #[.val (.int i0), .val (.int i1), .val (.int i2), .val (.int i3), .val (.int i4), .val (.int (2 : Int32)), .val (.int c0), .val (.int c1), .val (.int c2), .val (.int c3), .val (.ref x), .val (.int (if c1 = 46 then 1 else (if c0 = 46 then 0 else (-1 : Int32)))), .val (.int (Int32.ofNat (lastM 46 [c0, c1]))), .val (.ref y)] [.int (Int32.ofNat (([c0, c1] : List Int32).take (lastM 46 [c0, c1])).length)]
    rw [hyl]
    refine oGo.iload (pc' := 134) at_132 rfl rfl ?_
    refine oGo.icmp_eq (pc1 := 137) (pc2 := 139) at_134 rfl (by decide) (fun q86 => ?_) (fun q => absurd rfl q)
    refine oGo.aload (pc' := 141) at_139 rfl rfl rfl ?_
    refine oGo.iconst (pc' := 142) (v := 0) at_141 rfl (by decide) ?_
    refine oGo.iload (pc' := 144) at_142 rfl rfl ?_
    refine oGo.iload (pc' := 146) at_144 rfl rfl ?_
    have hs0 : ∀ d, (([c0, c1] : List Int32).take (lastM 46 [c0, c1]))[0]? = some d → d = c0 := by
      intro d hd
      rw [List.getElem?_take] at hd
      split at hd
      · simpa using hd.symm
      · cases hd
    have e0 := c_same (l := l) (Z := Z) (a0 := a0) (EL := EL) hG y u _ 0 (by decide) c0 hs0 _ Sy
    rw [hyl] at e0
    refine oGo.invokestatic (pc' := 149) (k' := 8) (n' := 24) (argsL := [.ref y, .int (0 : Int32), .int (Int32.ofNat (lastM 46 [c0, c1])), .int c0]) (rest := []) at_146 rfl (w85 hG) (w86 hG) (w3 hG) (w87 hG) (by decide) pd24 rfl rfl rfl e0 (by simp) (by decide) (Nat.le_of_ble_eq_true rfl) rfl rfl (by decide) (by decide) ?_
    intro v87 h88 sh88 q89
    obtain ⟨rfl, ee⟩ := q89
    obtain rfl := ee.symm
    refine ⟨_, fun _ hx => Or.inl hx, ?_⟩
    show oGo l Z a0 EL True pP eE sS mM _ bB tT cC _ _ _ _ _ _ _ _ [] h81 8 24 149 #[.val (.int i0), .val (.int i1), .val (.int i2), .val (.int i3), .val (.int i4), .val (.int (2 : Int32)), .val (.int c0), .val (.int c1), .val (.int c2), .val (.int c3), .val (.ref x), .val (.int (if c1 = 46 then 1 else (if c0 = 46 then 0 else (-1 : Int32)))), .val (.int (Int32.ofNat (lastM 46 [c0, c1]))), .val (.ref y)] [.int (1 : Int32)]
    refine oGo.if_eq (pc1 := 152) (pc2 := 195) at_149 rfl (by decide) (fun q => by first | exact absurd q (by decide) | exact absurd (by decide) q) (fun q90 => ?_)
    refine oGo.aload (pc' := 154) at_152 rfl rfl rfl ?_
    refine oGo.iconst (pc' := 155) (v := 1) at_154 rfl (by decide) ?_
    refine oGo.iload (pc' := 157) at_155 rfl rfl ?_
    refine oGo.iload (pc' := 159) at_157 rfl rfl ?_
    have hs1 : ∀ d, (([c0, c1] : List Int32).take (lastM 46 [c0, c1]))[1]? = some d → d = c1 := by
      intro d hd
      rw [List.getElem?_take] at hd
      split at hd
      · simpa using hd.symm
      · cases hd
    have e1 := c_same (l := l) (Z := Z) (a0 := a0) (EL := EL) hG y u _ 1 (by decide) c1 hs1 _ Sy
    rw [hyl] at e1
    refine oGo.invokestatic (pc' := 162) (k' := 8) (n' := 24) (argsL := [.ref y, .int (1 : Int32), .int (Int32.ofNat (lastM 46 [c0, c1])), .int c1]) (rest := []) at_159 rfl (w85 hG) (w86 hG) (w3 hG) (w87 hG) (by decide) pd24 rfl rfl rfl e1 (by simp) (by decide) (Nat.le_of_ble_eq_true rfl) rfl rfl (by decide) (by decide) ?_
    intro v91 h92 sh92 q93
    obtain ⟨rfl, ee⟩ := q93
    obtain rfl := ee.symm
    refine ⟨_, fun _ hx => Or.inl hx, ?_⟩
    show oGo l Z a0 EL True pP eE sS mM _ bB tT cC _ _ _ _ _ _ _ _ [] h81 8 24 162 #[.val (.int i0), .val (.int i1), .val (.int i2), .val (.int i3), .val (.int i4), .val (.int (2 : Int32)), .val (.int c0), .val (.int c1), .val (.int c2), .val (.int c3), .val (.ref x), .val (.int (if c1 = 46 then 1 else (if c0 = 46 then 0 else (-1 : Int32)))), .val (.int (Int32.ofNat (lastM 46 [c0, c1]))), .val (.ref y)] [.int (1 : Int32)]
    refine oGo.if_eq (pc1 := 165) (pc2 := 195) at_162 rfl (by decide) (fun q => by first | exact absurd q (by decide) | exact absurd (by decide) q) (fun q94 => ?_)
    refine oGo.aload (pc' := 167) at_165 rfl rfl rfl ?_
    refine oGo.iconst (pc' := 168) (v := 2) at_167 rfl (by decide) ?_
    refine oGo.iload (pc' := 170) at_168 rfl rfl ?_
    refine oGo.iload (pc' := 172) at_170 rfl rfl ?_
    have hs2 : ∀ d, (([c0, c1] : List Int32).take (lastM 46 [c0, c1]))[2]? = some d → d = c2 := by
      intro d hd
      rw [List.getElem?_take] at hd
      split at hd
      · simpa using hd.symm
      · cases hd
    have e2 := c_same (l := l) (Z := Z) (a0 := a0) (EL := EL) hG y u _ 2 (by decide) c2 hs2 _ Sy
    rw [hyl] at e2
    refine oGo.invokestatic (pc' := 175) (k' := 8) (n' := 24) (argsL := [.ref y, .int (2 : Int32), .int (Int32.ofNat (lastM 46 [c0, c1])), .int c2]) (rest := []) at_172 rfl (w85 hG) (w86 hG) (w3 hG) (w87 hG) (by decide) pd24 rfl rfl rfl e2 (by simp) (by decide) (Nat.le_of_ble_eq_true rfl) rfl rfl (by decide) (by decide) ?_
    intro v95 h96 sh96 q97
    obtain ⟨rfl, ee⟩ := q97
    obtain rfl := ee.symm
    refine ⟨_, fun _ hx => Or.inl hx, ?_⟩
    show oGo l Z a0 EL True pP eE sS mM _ bB tT cC _ _ _ _ _ _ _ _ [] h81 8 24 175 #[.val (.int i0), .val (.int i1), .val (.int i2), .val (.int i3), .val (.int i4), .val (.int (2 : Int32)), .val (.int c0), .val (.int c1), .val (.int c2), .val (.int c3), .val (.ref x), .val (.int (if c1 = 46 then 1 else (if c0 = 46 then 0 else (-1 : Int32)))), .val (.int (Int32.ofNat (lastM 46 [c0, c1]))), .val (.ref y)] [.int (1 : Int32)]
    refine oGo.if_eq (pc1 := 178) (pc2 := 195) at_175 rfl (by decide) (fun q => by first | exact absurd q (by decide) | exact absurd (by decide) q) (fun q98 => ?_)
    refine oGo.aload (pc' := 180) at_178 rfl rfl rfl ?_
    refine oGo.iconst (pc' := 181) (v := 3) at_180 rfl (by decide) ?_
    refine oGo.iload (pc' := 183) at_181 rfl rfl ?_
    refine oGo.iload (pc' := 185) at_183 rfl rfl ?_
    have hs3 : ∀ d, (([c0, c1] : List Int32).take (lastM 46 [c0, c1]))[3]? = some d → d = c3 := by
      intro d hd
      rw [List.getElem?_take] at hd
      split at hd
      · simpa using hd.symm
      · cases hd
    have e3 := c_same (l := l) (Z := Z) (a0 := a0) (EL := EL) hG y u _ 3 (by decide) c3 hs3 _ Sy
    rw [hyl] at e3
    refine oGo.invokestatic (pc' := 188) (k' := 8) (n' := 24) (argsL := [.ref y, .int (3 : Int32), .int (Int32.ofNat (lastM 46 [c0, c1])), .int c3]) (rest := []) at_185 rfl (w85 hG) (w86 hG) (w3 hG) (w87 hG) (by decide) pd24 rfl rfl rfl e3 (by simp) (by decide) (Nat.le_of_ble_eq_true rfl) rfl rfl (by decide) (by decide) ?_
    intro v99 h100 sh100 q101
    obtain ⟨rfl, ee⟩ := q101
    obtain rfl := ee.symm
    refine ⟨_, fun _ hx => Or.inl hx, ?_⟩
    show oGo l Z a0 EL True pP eE sS mM _ bB tT cC _ _ _ _ _ _ _ _ [] h81 8 24 188 #[.val (.int i0), .val (.int i1), .val (.int i2), .val (.int i3), .val (.int i4), .val (.int (2 : Int32)), .val (.int c0), .val (.int c1), .val (.int c2), .val (.int c3), .val (.ref x), .val (.int (if c1 = 46 then 1 else (if c0 = 46 then 0 else (-1 : Int32)))), .val (.int (Int32.ofNat (lastM 46 [c0, c1]))), .val (.ref y)] [.int (1 : Int32)]
    refine oGo.if_eq (pc1 := 191) (pc2 := 195) at_188 rfl (by decide) (fun q => by first | exact absurd q (by decide) | exact absurd (by decide) q) (fun q102 => ?_)
    refine oGo.iconst (pc' := 192) (v := 1) at_191 rfl (by decide) ?_
    refine oGo.goto (pc' := 196) at_192 (by decide) ?_
    exact oGo.nreturn at_196 rfl (by simp) rfl (by decide) (by decide) rfl (fun _ q => q.elim)
  · show oGo l Z a0 EL True pP eE sS mM _ bB tT cC _ _ _ _ _ _ _ _ [] h 0 0 43 #[.val (.int i0), .val (.int i1), .val (.int i2), .val (.int i3), .val (.int i4), .val (.int (3 : Int32)), .val (.int c0), .val (.int c1), .val (.int c2), .val (.int c3), .unset, .unset, .unset, .unset] [.int c3, .int c2, .int c1, .int c0, .int (3 : Int32)]
    refine oGo.invokestatic (pc' := 46) (k' := 6) (n' := 16) (argsL := [.int (3 : Int32), .int c0, .int c1, .int c2, .int c3]) (rest := []) at_43 rfl (w5 hG) (w6 hG) (w3 hG) (w7 hG) (by decide) pd22 rfl rfl rfl (c_make3 hG c0 c1 c2 c3 bc0 bc1 bc2 bc3 _) (by simp) (by decide) (Nat.le_of_ble_eq_true rfl) rfl rfl (by decide) (by decide) ?_
    intro v103 h104 sh104 q105
    obtain ⟨K1, x, t, rfl, Sx⟩ := q105
    refine ⟨_, fun _ hx => Or.inl hx, ?_⟩
    show oGo l Z a0 EL True pP eE sS mM _ bB tT cC _ _ _ _ _ _ _ _ [] h104 6 16 46 #[.val (.int i0), .val (.int i1), .val (.int i2), .val (.int i3), .val (.int i4), .val (.int (3 : Int32)), .val (.int c0), .val (.int c1), .val (.int c2), .val (.int c3), .unset, .unset, .unset, .unset] [.ref x]
    refine oGo.astore (pc' := 48) (Ls' := #[.val (.int i0), .val (.int i1), .val (.int i2), .val (.int i3), .val (.int i4), .val (.int (3 : Int32)), .val (.int c0), .val (.int c1), .val (.int c2), .val (.int c3), .val (.ref x), .unset, .unset, .unset]) at_46 rfl rfl rfl ?_
    refine oGo.iconst (pc' := 49) (v := -1) at_48 rfl (by decide) ?_
    refine oGo.istore (pc' := 51) (Ls' := #[.val (.int i0), .val (.int i1), .val (.int i2), .val (.int i3), .val (.int i4), .val (.int (3 : Int32)), .val (.int c0), .val (.int c1), .val (.int c2), .val (.int c3), .val (.ref x), .val (.int (-1 : Int32)), .unset, .unset]) at_49 rfl rfl ?_
    refine oGo.iload (pc' := 53) at_51 rfl rfl ?_
    refine oGo.if_le (pc1 := 56) (pc2 := 66) at_53 rfl (by decide) (fun q => by first | exact absurd q (by decide) | exact absurd (by decide) q) (fun q106 => ?_)
    refine oGo.iload (pc' := 58) at_56 rfl rfl ?_
    refine oGo.bipush (pc' := 60) (v := 46) at_58 rfl (by decide) ?_
    suffices join66 : oGo l Z a0 EL True pP eE sS mM #[.int i0, .int i1, .int i2, .int i3, .int i4] bB tT cC room_1 "com/example/recital/recital/NumeralPrefixPinLaw" code 14 (some .boolean) "law" (fun v h' => v = some (.int 1)) oNo [] h104 6 16 66 #[.val (.int i0), .val (.int i1), .val (.int i2), .val (.int i3), .val (.int i4), .val (.int (3 : Int32)), .val (.int c0), .val (.int c1), .val (.int c2), .val (.int c3), .val (.ref x), .val (.int (if c0 = 46 then 0 else (-1 : Int32))), .unset, .unset] [] by
      refine oGo.icmp_ne (pc1 := 63) (pc2 := 66) at_60 rfl (by decide) (fun q => ?_) (fun q => ?_)
      · rw [if_neg q] at join66; exact join66
      · refine oGo.iconst (pc' := 64) (v := 0) at_63 rfl (by decide) ?_
        refine oGo.istore (pc' := 66) (Ls' := #[.val (.int i0), .val (.int i1), .val (.int i2), .val (.int i3), .val (.int i4), .val (.int (3 : Int32)), .val (.int c0), .val (.int c1), .val (.int c2), .val (.int c3), .val (.ref x), .val (.int (0 : Int32)), .unset, .unset]) at_64 rfl rfl ?_
        rw [if_pos q] at join66; exact join66
    refine oGo.iload (pc' := 68) at_66 rfl rfl ?_
    refine oGo.iconst (pc' := 69) (v := 1) at_68 rfl (by decide) ?_
    refine oGo.icmp_le (pc1 := 72) (pc2 := 82) at_69 rfl (by decide) (fun q => by first | exact absurd q (by decide) | exact absurd (by decide) q) (fun q107 => ?_)
    refine oGo.iload (pc' := 74) at_72 rfl rfl ?_
    refine oGo.bipush (pc' := 76) (v := 46) at_74 rfl (by decide) ?_
    suffices join82 : oGo l Z a0 EL True pP eE sS mM #[.int i0, .int i1, .int i2, .int i3, .int i4] bB tT cC room_1 "com/example/recital/recital/NumeralPrefixPinLaw" code 14 (some .boolean) "law" (fun v h' => v = some (.int 1)) oNo [] h104 6 16 82 #[.val (.int i0), .val (.int i1), .val (.int i2), .val (.int i3), .val (.int i4), .val (.int (3 : Int32)), .val (.int c0), .val (.int c1), .val (.int c2), .val (.int c3), .val (.ref x), .val (.int (if c1 = 46 then 1 else (if c0 = 46 then 0 else (-1 : Int32)))), .unset, .unset] [] by
      refine oGo.icmp_ne (pc1 := 79) (pc2 := 82) at_76 rfl (by decide) (fun q => ?_) (fun q => ?_)
      · rw [if_neg q] at join82; exact join82
      · refine oGo.iconst (pc' := 80) (v := 1) at_79 rfl (by decide) ?_
        refine oGo.istore (pc' := 82) (Ls' := #[.val (.int i0), .val (.int i1), .val (.int i2), .val (.int i3), .val (.int i4), .val (.int (3 : Int32)), .val (.int c0), .val (.int c1), .val (.int c2), .val (.int c3), .val (.ref x), .val (.int (1 : Int32)), .unset, .unset]) at_80 rfl rfl ?_
        rw [if_pos q] at join82; exact join82
    refine oGo.iload (pc' := 84) at_82 rfl rfl ?_
    refine oGo.iconst (pc' := 85) (v := 2) at_84 rfl (by decide) ?_
    refine oGo.icmp_le (pc1 := 88) (pc2 := 98) at_85 rfl (by decide) (fun q => by first | exact absurd q (by decide) | exact absurd (by decide) q) (fun q108 => ?_)
    refine oGo.iload (pc' := 90) at_88 rfl rfl ?_
    refine oGo.bipush (pc' := 92) (v := 46) at_90 rfl (by decide) ?_
    suffices join98 : oGo l Z a0 EL True pP eE sS mM #[.int i0, .int i1, .int i2, .int i3, .int i4] bB tT cC room_1 "com/example/recital/recital/NumeralPrefixPinLaw" code 14 (some .boolean) "law" (fun v h' => v = some (.int 1)) oNo [] h104 6 16 98 #[.val (.int i0), .val (.int i1), .val (.int i2), .val (.int i3), .val (.int i4), .val (.int (3 : Int32)), .val (.int c0), .val (.int c1), .val (.int c2), .val (.int c3), .val (.ref x), .val (.int (if c2 = 46 then 2 else (if c1 = 46 then 1 else (if c0 = 46 then 0 else (-1 : Int32))))), .unset, .unset] [] by
      refine oGo.icmp_ne (pc1 := 95) (pc2 := 98) at_92 rfl (by decide) (fun q => ?_) (fun q => ?_)
      · rw [if_neg q] at join98; exact join98
      · refine oGo.iconst (pc' := 96) (v := 2) at_95 rfl (by decide) ?_
        refine oGo.istore (pc' := 98) (Ls' := #[.val (.int i0), .val (.int i1), .val (.int i2), .val (.int i3), .val (.int i4), .val (.int (3 : Int32)), .val (.int c0), .val (.int c1), .val (.int c2), .val (.int c3), .val (.ref x), .val (.int (2 : Int32)), .unset, .unset]) at_96 rfl rfl ?_
        rw [if_pos q] at join98; exact join98
    refine oGo.iload (pc' := 100) at_98 rfl rfl ?_
    refine oGo.iconst (pc' := 101) (v := 3) at_100 rfl (by decide) ?_
    refine oGo.icmp_le (pc1 := 104) (pc2 := 114) at_101 rfl (by decide) (fun q109 => ?_) (fun q => by first | exact absurd q (by decide) | exact absurd (by decide) q)
    refine oGo.iload (pc' := 116) at_114 rfl rfl ?_
    refine oGo.iconst (pc' := 117) (v := 1) at_116 rfl (by decide) ?_
    refine oGo.iadd (pc' := 118) at_117 rfl ?_
    rw [last_3]
    refine oGo.istore (pc' := 120) (Ls' := #[.val (.int i0), .val (.int i1), .val (.int i2), .val (.int i3), .val (.int i4), .val (.int (3 : Int32)), .val (.int c0), .val (.int c1), .val (.int c2), .val (.int c3), .val (.ref x), .val (.int (if c2 = 46 then 2 else (if c1 = 46 then 1 else (if c0 = 46 then 0 else (-1 : Int32))))), .val (.int (Int32.ofNat (lastM 46 [c0, c1, c2]))), .unset]) at_118 rfl rfl ?_
    refine oGo.aload (pc' := 122) at_120 rfl rfl rfl ?_
    refine oGo.invokestatic (pc' := 125) (k' := 8) (n' := 24) (argsL := [.ref x]) (rest := []) at_122 rfl (w30 hG) (w31 hG) (w32 hG) (w33 hG) (by decide) pd23 rfl rfl rfl (c_prefix hG x t [c0, c1, c2] (by simp) _ Sx) (by simp) (by decide) (Nat.le_of_ble_eq_true rfl) rfl rfl (by decide) (by decide) ?_
    intro v110 h111 sh111 q112
    obtain ⟨K2, y, u, rfl, Sy⟩ := q112
    have hle := lastM_le 46 ([c0, c1, c2] : List Int32)
    have hyl : (([c0, c1, c2] : List Int32).take (lastM 46 [c0, c1, c2])).length = lastM 46 [c0, c1, c2] := by rw [List.length_take]; exact Nat.min_eq_left hle
    refine ⟨_, fun _ hx => Or.inl hx, ?_⟩
    show oGo l Z a0 EL True pP eE sS mM _ bB tT cC _ _ _ _ _ _ _ _ [] h111 8 24 125 #[.val (.int i0), .val (.int i1), .val (.int i2), .val (.int i3), .val (.int i4), .val (.int (3 : Int32)), .val (.int c0), .val (.int c1), .val (.int c2), .val (.int c3), .val (.ref x), .val (.int (if c2 = 46 then 2 else (if c1 = 46 then 1 else (if c0 = 46 then 0 else (-1 : Int32))))), .val (.int (Int32.ofNat (lastM 46 [c0, c1, c2]))), .unset] [.ref y]
    refine oGo.astore (pc' := 127) (Ls' := #[.val (.int i0), .val (.int i1), .val (.int i2), .val (.int i3), .val (.int i4), .val (.int (3 : Int32)), .val (.int c0), .val (.int c1), .val (.int c2), .val (.int c3), .val (.ref x), .val (.int (if c2 = 46 then 2 else (if c1 = 46 then 1 else (if c0 = 46 then 0 else (-1 : Int32))))), .val (.int (Int32.ofNat (lastM 46 [c0, c1, c2]))), .val (.ref y)]) at_125 rfl rfl rfl ?_
    refine oGo.aload (pc' := 129) at_127 rfl rfl rfl ?_
    refine oGo.invokevirtual (pc' := 132) (k' := 8) (n' := 24) (a := y) (argsL := []) (rest := []) at_129 rfl (w84 hG) (w40 hG) (w42 hG) (w41 hG) (w10 hG) (w43 hG) (by decide) pd12 rfl rfl rfl Sy.1 (c_length hG y u _ _ Sy) (by simp) (by decide) (Nat.le_of_ble_eq_true rfl) rfl rfl (by decide) (by decide) ?_
    intro v113 h114 sh114 q115
    obtain ⟨rfl, ee⟩ := q115
    obtain rfl := ee.symm
    refine ⟨_, fun _ hx => Or.inl hx, ?_⟩
    show oGo l Z a0 EL True pP eE sS mM _ bB tT cC _ _ _ _ _ _ _ _ [] h111 8 24 132 #[.val (.int i0), .val (.int i1), .val (.int i2), .val (.int i3), .val (.int i4), .val (.int (3 : Int32)), .val (.int c0), .val (.int c1), .val (.int c2), .val (.int c3), .val (.ref x), .val (.int (if c2 = 46 then 2 else (if c1 = 46 then 1 else (if c0 = 46 then 0 else (-1 : Int32))))), .val (.int (Int32.ofNat (lastM 46 [c0, c1, c2]))), .val (.ref y)] [.int (Int32.ofNat (([c0, c1, c2] : List Int32).take (lastM 46 [c0, c1, c2])).length)]
    rw [hyl]
    refine oGo.iload (pc' := 134) at_132 rfl rfl ?_
    refine oGo.icmp_eq (pc1 := 137) (pc2 := 139) at_134 rfl (by decide) (fun q116 => ?_) (fun q => absurd rfl q)
    refine oGo.aload (pc' := 141) at_139 rfl rfl rfl ?_
    refine oGo.iconst (pc' := 142) (v := 0) at_141 rfl (by decide) ?_
    refine oGo.iload (pc' := 144) at_142 rfl rfl ?_
    refine oGo.iload (pc' := 146) at_144 rfl rfl ?_
    have hs0 : ∀ d, (([c0, c1, c2] : List Int32).take (lastM 46 [c0, c1, c2]))[0]? = some d → d = c0 := by
      intro d hd
      rw [List.getElem?_take] at hd
      split at hd
      · simpa using hd.symm
      · cases hd
    have e0 := c_same (l := l) (Z := Z) (a0 := a0) (EL := EL) hG y u _ 0 (by decide) c0 hs0 _ Sy
    rw [hyl] at e0
    refine oGo.invokestatic (pc' := 149) (k' := 8) (n' := 24) (argsL := [.ref y, .int (0 : Int32), .int (Int32.ofNat (lastM 46 [c0, c1, c2])), .int c0]) (rest := []) at_146 rfl (w85 hG) (w86 hG) (w3 hG) (w87 hG) (by decide) pd24 rfl rfl rfl e0 (by simp) (by decide) (Nat.le_of_ble_eq_true rfl) rfl rfl (by decide) (by decide) ?_
    intro v117 h118 sh118 q119
    obtain ⟨rfl, ee⟩ := q119
    obtain rfl := ee.symm
    refine ⟨_, fun _ hx => Or.inl hx, ?_⟩
    show oGo l Z a0 EL True pP eE sS mM _ bB tT cC _ _ _ _ _ _ _ _ [] h111 8 24 149 #[.val (.int i0), .val (.int i1), .val (.int i2), .val (.int i3), .val (.int i4), .val (.int (3 : Int32)), .val (.int c0), .val (.int c1), .val (.int c2), .val (.int c3), .val (.ref x), .val (.int (if c2 = 46 then 2 else (if c1 = 46 then 1 else (if c0 = 46 then 0 else (-1 : Int32))))), .val (.int (Int32.ofNat (lastM 46 [c0, c1, c2]))), .val (.ref y)] [.int (1 : Int32)]
    refine oGo.if_eq (pc1 := 152) (pc2 := 195) at_149 rfl (by decide) (fun q => by first | exact absurd q (by decide) | exact absurd (by decide) q) (fun q120 => ?_)
    refine oGo.aload (pc' := 154) at_152 rfl rfl rfl ?_
    refine oGo.iconst (pc' := 155) (v := 1) at_154 rfl (by decide) ?_
    refine oGo.iload (pc' := 157) at_155 rfl rfl ?_
    refine oGo.iload (pc' := 159) at_157 rfl rfl ?_
    have hs1 : ∀ d, (([c0, c1, c2] : List Int32).take (lastM 46 [c0, c1, c2]))[1]? = some d → d = c1 := by
      intro d hd
      rw [List.getElem?_take] at hd
      split at hd
      · simpa using hd.symm
      · cases hd
    have e1 := c_same (l := l) (Z := Z) (a0 := a0) (EL := EL) hG y u _ 1 (by decide) c1 hs1 _ Sy
    rw [hyl] at e1
    refine oGo.invokestatic (pc' := 162) (k' := 8) (n' := 24) (argsL := [.ref y, .int (1 : Int32), .int (Int32.ofNat (lastM 46 [c0, c1, c2])), .int c1]) (rest := []) at_159 rfl (w85 hG) (w86 hG) (w3 hG) (w87 hG) (by decide) pd24 rfl rfl rfl e1 (by simp) (by decide) (Nat.le_of_ble_eq_true rfl) rfl rfl (by decide) (by decide) ?_
    intro v121 h122 sh122 q123
    obtain ⟨rfl, ee⟩ := q123
    obtain rfl := ee.symm
    refine ⟨_, fun _ hx => Or.inl hx, ?_⟩
    show oGo l Z a0 EL True pP eE sS mM _ bB tT cC _ _ _ _ _ _ _ _ [] h111 8 24 162 #[.val (.int i0), .val (.int i1), .val (.int i2), .val (.int i3), .val (.int i4), .val (.int (3 : Int32)), .val (.int c0), .val (.int c1), .val (.int c2), .val (.int c3), .val (.ref x), .val (.int (if c2 = 46 then 2 else (if c1 = 46 then 1 else (if c0 = 46 then 0 else (-1 : Int32))))), .val (.int (Int32.ofNat (lastM 46 [c0, c1, c2]))), .val (.ref y)] [.int (1 : Int32)]
    refine oGo.if_eq (pc1 := 165) (pc2 := 195) at_162 rfl (by decide) (fun q => by first | exact absurd q (by decide) | exact absurd (by decide) q) (fun q124 => ?_)
    refine oGo.aload (pc' := 167) at_165 rfl rfl rfl ?_
    refine oGo.iconst (pc' := 168) (v := 2) at_167 rfl (by decide) ?_
    refine oGo.iload (pc' := 170) at_168 rfl rfl ?_
    refine oGo.iload (pc' := 172) at_170 rfl rfl ?_
    have hs2 : ∀ d, (([c0, c1, c2] : List Int32).take (lastM 46 [c0, c1, c2]))[2]? = some d → d = c2 := by
      intro d hd
      rw [List.getElem?_take] at hd
      split at hd
      · simpa using hd.symm
      · cases hd
    have e2 := c_same (l := l) (Z := Z) (a0 := a0) (EL := EL) hG y u _ 2 (by decide) c2 hs2 _ Sy
    rw [hyl] at e2
    refine oGo.invokestatic (pc' := 175) (k' := 8) (n' := 24) (argsL := [.ref y, .int (2 : Int32), .int (Int32.ofNat (lastM 46 [c0, c1, c2])), .int c2]) (rest := []) at_172 rfl (w85 hG) (w86 hG) (w3 hG) (w87 hG) (by decide) pd24 rfl rfl rfl e2 (by simp) (by decide) (Nat.le_of_ble_eq_true rfl) rfl rfl (by decide) (by decide) ?_
    intro v125 h126 sh126 q127
    obtain ⟨rfl, ee⟩ := q127
    obtain rfl := ee.symm
    refine ⟨_, fun _ hx => Or.inl hx, ?_⟩
    show oGo l Z a0 EL True pP eE sS mM _ bB tT cC _ _ _ _ _ _ _ _ [] h111 8 24 175 #[.val (.int i0), .val (.int i1), .val (.int i2), .val (.int i3), .val (.int i4), .val (.int (3 : Int32)), .val (.int c0), .val (.int c1), .val (.int c2), .val (.int c3), .val (.ref x), .val (.int (if c2 = 46 then 2 else (if c1 = 46 then 1 else (if c0 = 46 then 0 else (-1 : Int32))))), .val (.int (Int32.ofNat (lastM 46 [c0, c1, c2]))), .val (.ref y)] [.int (1 : Int32)]
    refine oGo.if_eq (pc1 := 178) (pc2 := 195) at_175 rfl (by decide) (fun q => by first | exact absurd q (by decide) | exact absurd (by decide) q) (fun q128 => ?_)
    refine oGo.aload (pc' := 180) at_178 rfl rfl rfl ?_
    refine oGo.iconst (pc' := 181) (v := 3) at_180 rfl (by decide) ?_
    refine oGo.iload (pc' := 183) at_181 rfl rfl ?_
    refine oGo.iload (pc' := 185) at_183 rfl rfl ?_
    have hs3 : ∀ d, (([c0, c1, c2] : List Int32).take (lastM 46 [c0, c1, c2]))[3]? = some d → d = c3 := by
      intro d hd
      rw [List.getElem?_take] at hd
      split at hd
      · simpa using hd.symm
      · cases hd
    have e3 := c_same (l := l) (Z := Z) (a0 := a0) (EL := EL) hG y u _ 3 (by decide) c3 hs3 _ Sy
    rw [hyl] at e3
    refine oGo.invokestatic (pc' := 188) (k' := 8) (n' := 24) (argsL := [.ref y, .int (3 : Int32), .int (Int32.ofNat (lastM 46 [c0, c1, c2])), .int c3]) (rest := []) at_185 rfl (w85 hG) (w86 hG) (w3 hG) (w87 hG) (by decide) pd24 rfl rfl rfl e3 (by simp) (by decide) (Nat.le_of_ble_eq_true rfl) rfl rfl (by decide) (by decide) ?_
    intro v129 h130 sh130 q131
    obtain ⟨rfl, ee⟩ := q131
    obtain rfl := ee.symm
    refine ⟨_, fun _ hx => Or.inl hx, ?_⟩
    show oGo l Z a0 EL True pP eE sS mM _ bB tT cC _ _ _ _ _ _ _ _ [] h111 8 24 188 #[.val (.int i0), .val (.int i1), .val (.int i2), .val (.int i3), .val (.int i4), .val (.int (3 : Int32)), .val (.int c0), .val (.int c1), .val (.int c2), .val (.int c3), .val (.ref x), .val (.int (if c2 = 46 then 2 else (if c1 = 46 then 1 else (if c0 = 46 then 0 else (-1 : Int32))))), .val (.int (Int32.ofNat (lastM 46 [c0, c1, c2]))), .val (.ref y)] [.int (1 : Int32)]
    refine oGo.if_eq (pc1 := 191) (pc2 := 195) at_188 rfl (by decide) (fun q => by first | exact absurd q (by decide) | exact absurd (by decide) q) (fun q132 => ?_)
    refine oGo.iconst (pc' := 192) (v := 1) at_191 rfl (by decide) ?_
    refine oGo.goto (pc' := 196) at_192 (by decide) ?_
    exact oGo.nreturn at_196 rfl (by simp) rfl (by decide) (by decide) rfl (fun _ q => q.elim)
  · show oGo l Z a0 EL True pP eE sS mM _ bB tT cC _ _ _ _ _ _ _ _ [] h 0 0 43 #[.val (.int i0), .val (.int i1), .val (.int i2), .val (.int i3), .val (.int i4), .val (.int (4 : Int32)), .val (.int c0), .val (.int c1), .val (.int c2), .val (.int c3), .unset, .unset, .unset, .unset] [.int c3, .int c2, .int c1, .int c0, .int (4 : Int32)]
    refine oGo.invokestatic (pc' := 46) (k' := 6) (n' := 16) (argsL := [.int (4 : Int32), .int c0, .int c1, .int c2, .int c3]) (rest := []) at_43 rfl (w5 hG) (w6 hG) (w3 hG) (w7 hG) (by decide) pd22 rfl rfl rfl (c_make4 hG c0 c1 c2 c3 bc0 bc1 bc2 bc3 _) (by simp) (by decide) (Nat.le_of_ble_eq_true rfl) rfl rfl (by decide) (by decide) ?_
    intro v133 h134 sh134 q135
    obtain ⟨K1, x, t, rfl, Sx⟩ := q135
    refine ⟨_, fun _ hx => Or.inl hx, ?_⟩
    show oGo l Z a0 EL True pP eE sS mM _ bB tT cC _ _ _ _ _ _ _ _ [] h134 6 16 46 #[.val (.int i0), .val (.int i1), .val (.int i2), .val (.int i3), .val (.int i4), .val (.int (4 : Int32)), .val (.int c0), .val (.int c1), .val (.int c2), .val (.int c3), .unset, .unset, .unset, .unset] [.ref x]
    refine oGo.astore (pc' := 48) (Ls' := #[.val (.int i0), .val (.int i1), .val (.int i2), .val (.int i3), .val (.int i4), .val (.int (4 : Int32)), .val (.int c0), .val (.int c1), .val (.int c2), .val (.int c3), .val (.ref x), .unset, .unset, .unset]) at_46 rfl rfl rfl ?_
    refine oGo.iconst (pc' := 49) (v := -1) at_48 rfl (by decide) ?_
    refine oGo.istore (pc' := 51) (Ls' := #[.val (.int i0), .val (.int i1), .val (.int i2), .val (.int i3), .val (.int i4), .val (.int (4 : Int32)), .val (.int c0), .val (.int c1), .val (.int c2), .val (.int c3), .val (.ref x), .val (.int (-1 : Int32)), .unset, .unset]) at_49 rfl rfl ?_
    refine oGo.iload (pc' := 53) at_51 rfl rfl ?_
    refine oGo.if_le (pc1 := 56) (pc2 := 66) at_53 rfl (by decide) (fun q => by first | exact absurd q (by decide) | exact absurd (by decide) q) (fun q136 => ?_)
    refine oGo.iload (pc' := 58) at_56 rfl rfl ?_
    refine oGo.bipush (pc' := 60) (v := 46) at_58 rfl (by decide) ?_
    suffices join66 : oGo l Z a0 EL True pP eE sS mM #[.int i0, .int i1, .int i2, .int i3, .int i4] bB tT cC room_1 "com/example/recital/recital/NumeralPrefixPinLaw" code 14 (some .boolean) "law" (fun v h' => v = some (.int 1)) oNo [] h134 6 16 66 #[.val (.int i0), .val (.int i1), .val (.int i2), .val (.int i3), .val (.int i4), .val (.int (4 : Int32)), .val (.int c0), .val (.int c1), .val (.int c2), .val (.int c3), .val (.ref x), .val (.int (if c0 = 46 then 0 else (-1 : Int32))), .unset, .unset] [] by
      refine oGo.icmp_ne (pc1 := 63) (pc2 := 66) at_60 rfl (by decide) (fun q => ?_) (fun q => ?_)
      · rw [if_neg q] at join66; exact join66
      · refine oGo.iconst (pc' := 64) (v := 0) at_63 rfl (by decide) ?_
        refine oGo.istore (pc' := 66) (Ls' := #[.val (.int i0), .val (.int i1), .val (.int i2), .val (.int i3), .val (.int i4), .val (.int (4 : Int32)), .val (.int c0), .val (.int c1), .val (.int c2), .val (.int c3), .val (.ref x), .val (.int (0 : Int32)), .unset, .unset]) at_64 rfl rfl ?_
        rw [if_pos q] at join66; exact join66
    refine oGo.iload (pc' := 68) at_66 rfl rfl ?_
    refine oGo.iconst (pc' := 69) (v := 1) at_68 rfl (by decide) ?_
    refine oGo.icmp_le (pc1 := 72) (pc2 := 82) at_69 rfl (by decide) (fun q => by first | exact absurd q (by decide) | exact absurd (by decide) q) (fun q137 => ?_)
    refine oGo.iload (pc' := 74) at_72 rfl rfl ?_
    refine oGo.bipush (pc' := 76) (v := 46) at_74 rfl (by decide) ?_
    suffices join82 : oGo l Z a0 EL True pP eE sS mM #[.int i0, .int i1, .int i2, .int i3, .int i4] bB tT cC room_1 "com/example/recital/recital/NumeralPrefixPinLaw" code 14 (some .boolean) "law" (fun v h' => v = some (.int 1)) oNo [] h134 6 16 82 #[.val (.int i0), .val (.int i1), .val (.int i2), .val (.int i3), .val (.int i4), .val (.int (4 : Int32)), .val (.int c0), .val (.int c1), .val (.int c2), .val (.int c3), .val (.ref x), .val (.int (if c1 = 46 then 1 else (if c0 = 46 then 0 else (-1 : Int32)))), .unset, .unset] [] by
      refine oGo.icmp_ne (pc1 := 79) (pc2 := 82) at_76 rfl (by decide) (fun q => ?_) (fun q => ?_)
      · rw [if_neg q] at join82; exact join82
      · refine oGo.iconst (pc' := 80) (v := 1) at_79 rfl (by decide) ?_
        refine oGo.istore (pc' := 82) (Ls' := #[.val (.int i0), .val (.int i1), .val (.int i2), .val (.int i3), .val (.int i4), .val (.int (4 : Int32)), .val (.int c0), .val (.int c1), .val (.int c2), .val (.int c3), .val (.ref x), .val (.int (1 : Int32)), .unset, .unset]) at_80 rfl rfl ?_
        rw [if_pos q] at join82; exact join82
    refine oGo.iload (pc' := 84) at_82 rfl rfl ?_
    refine oGo.iconst (pc' := 85) (v := 2) at_84 rfl (by decide) ?_
    refine oGo.icmp_le (pc1 := 88) (pc2 := 98) at_85 rfl (by decide) (fun q => by first | exact absurd q (by decide) | exact absurd (by decide) q) (fun q138 => ?_)
    refine oGo.iload (pc' := 90) at_88 rfl rfl ?_
    refine oGo.bipush (pc' := 92) (v := 46) at_90 rfl (by decide) ?_
    suffices join98 : oGo l Z a0 EL True pP eE sS mM #[.int i0, .int i1, .int i2, .int i3, .int i4] bB tT cC room_1 "com/example/recital/recital/NumeralPrefixPinLaw" code 14 (some .boolean) "law" (fun v h' => v = some (.int 1)) oNo [] h134 6 16 98 #[.val (.int i0), .val (.int i1), .val (.int i2), .val (.int i3), .val (.int i4), .val (.int (4 : Int32)), .val (.int c0), .val (.int c1), .val (.int c2), .val (.int c3), .val (.ref x), .val (.int (if c2 = 46 then 2 else (if c1 = 46 then 1 else (if c0 = 46 then 0 else (-1 : Int32))))), .unset, .unset] [] by
      refine oGo.icmp_ne (pc1 := 95) (pc2 := 98) at_92 rfl (by decide) (fun q => ?_) (fun q => ?_)
      · rw [if_neg q] at join98; exact join98
      · refine oGo.iconst (pc' := 96) (v := 2) at_95 rfl (by decide) ?_
        refine oGo.istore (pc' := 98) (Ls' := #[.val (.int i0), .val (.int i1), .val (.int i2), .val (.int i3), .val (.int i4), .val (.int (4 : Int32)), .val (.int c0), .val (.int c1), .val (.int c2), .val (.int c3), .val (.ref x), .val (.int (2 : Int32)), .unset, .unset]) at_96 rfl rfl ?_
        rw [if_pos q] at join98; exact join98
    refine oGo.iload (pc' := 100) at_98 rfl rfl ?_
    refine oGo.iconst (pc' := 101) (v := 3) at_100 rfl (by decide) ?_
    refine oGo.icmp_le (pc1 := 104) (pc2 := 114) at_101 rfl (by decide) (fun q => by first | exact absurd q (by decide) | exact absurd (by decide) q) (fun q139 => ?_)
    refine oGo.iload (pc' := 106) at_104 rfl rfl ?_
    refine oGo.bipush (pc' := 108) (v := 46) at_106 rfl (by decide) ?_
    suffices join114 : oGo l Z a0 EL True pP eE sS mM #[.int i0, .int i1, .int i2, .int i3, .int i4] bB tT cC room_1 "com/example/recital/recital/NumeralPrefixPinLaw" code 14 (some .boolean) "law" (fun v h' => v = some (.int 1)) oNo [] h134 6 16 114 #[.val (.int i0), .val (.int i1), .val (.int i2), .val (.int i3), .val (.int i4), .val (.int (4 : Int32)), .val (.int c0), .val (.int c1), .val (.int c2), .val (.int c3), .val (.ref x), .val (.int (if c3 = 46 then 3 else (if c2 = 46 then 2 else (if c1 = 46 then 1 else (if c0 = 46 then 0 else (-1 : Int32)))))), .unset, .unset] [] by
      refine oGo.icmp_ne (pc1 := 111) (pc2 := 114) at_108 rfl (by decide) (fun q => ?_) (fun q => ?_)
      · rw [if_neg q] at join114; exact join114
      · refine oGo.iconst (pc' := 112) (v := 3) at_111 rfl (by decide) ?_
        refine oGo.istore (pc' := 114) (Ls' := #[.val (.int i0), .val (.int i1), .val (.int i2), .val (.int i3), .val (.int i4), .val (.int (4 : Int32)), .val (.int c0), .val (.int c1), .val (.int c2), .val (.int c3), .val (.ref x), .val (.int (3 : Int32)), .unset, .unset]) at_112 rfl rfl ?_
        rw [if_pos q] at join114; exact join114
    refine oGo.iload (pc' := 116) at_114 rfl rfl ?_
    refine oGo.iconst (pc' := 117) (v := 1) at_116 rfl (by decide) ?_
    refine oGo.iadd (pc' := 118) at_117 rfl ?_
    rw [last_4]
    refine oGo.istore (pc' := 120) (Ls' := #[.val (.int i0), .val (.int i1), .val (.int i2), .val (.int i3), .val (.int i4), .val (.int (4 : Int32)), .val (.int c0), .val (.int c1), .val (.int c2), .val (.int c3), .val (.ref x), .val (.int (if c3 = 46 then 3 else (if c2 = 46 then 2 else (if c1 = 46 then 1 else (if c0 = 46 then 0 else (-1 : Int32)))))), .val (.int (Int32.ofNat (lastM 46 [c0, c1, c2, c3]))), .unset]) at_118 rfl rfl ?_
    refine oGo.aload (pc' := 122) at_120 rfl rfl rfl ?_
    refine oGo.invokestatic (pc' := 125) (k' := 8) (n' := 24) (argsL := [.ref x]) (rest := []) at_122 rfl (w30 hG) (w31 hG) (w32 hG) (w33 hG) (by decide) pd23 rfl rfl rfl (c_prefix hG x t [c0, c1, c2, c3] (by simp) _ Sx) (by simp) (by decide) (Nat.le_of_ble_eq_true rfl) rfl rfl (by decide) (by decide) ?_
    intro v140 h141 sh141 q142
    obtain ⟨K2, y, u, rfl, Sy⟩ := q142
    have hle := lastM_le 46 ([c0, c1, c2, c3] : List Int32)
    have hyl : (([c0, c1, c2, c3] : List Int32).take (lastM 46 [c0, c1, c2, c3])).length = lastM 46 [c0, c1, c2, c3] := by rw [List.length_take]; exact Nat.min_eq_left hle
    refine ⟨_, fun _ hx => Or.inl hx, ?_⟩
    show oGo l Z a0 EL True pP eE sS mM _ bB tT cC _ _ _ _ _ _ _ _ [] h141 8 24 125 #[.val (.int i0), .val (.int i1), .val (.int i2), .val (.int i3), .val (.int i4), .val (.int (4 : Int32)), .val (.int c0), .val (.int c1), .val (.int c2), .val (.int c3), .val (.ref x), .val (.int (if c3 = 46 then 3 else (if c2 = 46 then 2 else (if c1 = 46 then 1 else (if c0 = 46 then 0 else (-1 : Int32)))))), .val (.int (Int32.ofNat (lastM 46 [c0, c1, c2, c3]))), .unset] [.ref y]
    refine oGo.astore (pc' := 127) (Ls' := #[.val (.int i0), .val (.int i1), .val (.int i2), .val (.int i3), .val (.int i4), .val (.int (4 : Int32)), .val (.int c0), .val (.int c1), .val (.int c2), .val (.int c3), .val (.ref x), .val (.int (if c3 = 46 then 3 else (if c2 = 46 then 2 else (if c1 = 46 then 1 else (if c0 = 46 then 0 else (-1 : Int32)))))), .val (.int (Int32.ofNat (lastM 46 [c0, c1, c2, c3]))), .val (.ref y)]) at_125 rfl rfl rfl ?_
    refine oGo.aload (pc' := 129) at_127 rfl rfl rfl ?_
    refine oGo.invokevirtual (pc' := 132) (k' := 8) (n' := 24) (a := y) (argsL := []) (rest := []) at_129 rfl (w84 hG) (w40 hG) (w42 hG) (w41 hG) (w10 hG) (w43 hG) (by decide) pd12 rfl rfl rfl Sy.1 (c_length hG y u _ _ Sy) (by simp) (by decide) (Nat.le_of_ble_eq_true rfl) rfl rfl (by decide) (by decide) ?_
    intro v143 h144 sh144 q145
    obtain ⟨rfl, ee⟩ := q145
    obtain rfl := ee.symm
    refine ⟨_, fun _ hx => Or.inl hx, ?_⟩
    show oGo l Z a0 EL True pP eE sS mM _ bB tT cC _ _ _ _ _ _ _ _ [] h141 8 24 132 #[.val (.int i0), .val (.int i1), .val (.int i2), .val (.int i3), .val (.int i4), .val (.int (4 : Int32)), .val (.int c0), .val (.int c1), .val (.int c2), .val (.int c3), .val (.ref x), .val (.int (if c3 = 46 then 3 else (if c2 = 46 then 2 else (if c1 = 46 then 1 else (if c0 = 46 then 0 else (-1 : Int32)))))), .val (.int (Int32.ofNat (lastM 46 [c0, c1, c2, c3]))), .val (.ref y)] [.int (Int32.ofNat (([c0, c1, c2, c3] : List Int32).take (lastM 46 [c0, c1, c2, c3])).length)]
    rw [hyl]
    refine oGo.iload (pc' := 134) at_132 rfl rfl ?_
    refine oGo.icmp_eq (pc1 := 137) (pc2 := 139) at_134 rfl (by decide) (fun q146 => ?_) (fun q => absurd rfl q)
    refine oGo.aload (pc' := 141) at_139 rfl rfl rfl ?_
    refine oGo.iconst (pc' := 142) (v := 0) at_141 rfl (by decide) ?_
    refine oGo.iload (pc' := 144) at_142 rfl rfl ?_
    refine oGo.iload (pc' := 146) at_144 rfl rfl ?_
    have hs0 : ∀ d, (([c0, c1, c2, c3] : List Int32).take (lastM 46 [c0, c1, c2, c3]))[0]? = some d → d = c0 := by
      intro d hd
      rw [List.getElem?_take] at hd
      split at hd
      · simpa using hd.symm
      · cases hd
    have e0 := c_same (l := l) (Z := Z) (a0 := a0) (EL := EL) hG y u _ 0 (by decide) c0 hs0 _ Sy
    rw [hyl] at e0
    refine oGo.invokestatic (pc' := 149) (k' := 8) (n' := 24) (argsL := [.ref y, .int (0 : Int32), .int (Int32.ofNat (lastM 46 [c0, c1, c2, c3])), .int c0]) (rest := []) at_146 rfl (w85 hG) (w86 hG) (w3 hG) (w87 hG) (by decide) pd24 rfl rfl rfl e0 (by simp) (by decide) (Nat.le_of_ble_eq_true rfl) rfl rfl (by decide) (by decide) ?_
    intro v147 h148 sh148 q149
    obtain ⟨rfl, ee⟩ := q149
    obtain rfl := ee.symm
    refine ⟨_, fun _ hx => Or.inl hx, ?_⟩
    show oGo l Z a0 EL True pP eE sS mM _ bB tT cC _ _ _ _ _ _ _ _ [] h141 8 24 149 #[.val (.int i0), .val (.int i1), .val (.int i2), .val (.int i3), .val (.int i4), .val (.int (4 : Int32)), .val (.int c0), .val (.int c1), .val (.int c2), .val (.int c3), .val (.ref x), .val (.int (if c3 = 46 then 3 else (if c2 = 46 then 2 else (if c1 = 46 then 1 else (if c0 = 46 then 0 else (-1 : Int32)))))), .val (.int (Int32.ofNat (lastM 46 [c0, c1, c2, c3]))), .val (.ref y)] [.int (1 : Int32)]
    refine oGo.if_eq (pc1 := 152) (pc2 := 195) at_149 rfl (by decide) (fun q => by first | exact absurd q (by decide) | exact absurd (by decide) q) (fun q150 => ?_)
    refine oGo.aload (pc' := 154) at_152 rfl rfl rfl ?_
    refine oGo.iconst (pc' := 155) (v := 1) at_154 rfl (by decide) ?_
    refine oGo.iload (pc' := 157) at_155 rfl rfl ?_
    refine oGo.iload (pc' := 159) at_157 rfl rfl ?_
    have hs1 : ∀ d, (([c0, c1, c2, c3] : List Int32).take (lastM 46 [c0, c1, c2, c3]))[1]? = some d → d = c1 := by
      intro d hd
      rw [List.getElem?_take] at hd
      split at hd
      · simpa using hd.symm
      · cases hd
    have e1 := c_same (l := l) (Z := Z) (a0 := a0) (EL := EL) hG y u _ 1 (by decide) c1 hs1 _ Sy
    rw [hyl] at e1
    refine oGo.invokestatic (pc' := 162) (k' := 8) (n' := 24) (argsL := [.ref y, .int (1 : Int32), .int (Int32.ofNat (lastM 46 [c0, c1, c2, c3])), .int c1]) (rest := []) at_159 rfl (w85 hG) (w86 hG) (w3 hG) (w87 hG) (by decide) pd24 rfl rfl rfl e1 (by simp) (by decide) (Nat.le_of_ble_eq_true rfl) rfl rfl (by decide) (by decide) ?_
    intro v151 h152 sh152 q153
    obtain ⟨rfl, ee⟩ := q153
    obtain rfl := ee.symm
    refine ⟨_, fun _ hx => Or.inl hx, ?_⟩
    show oGo l Z a0 EL True pP eE sS mM _ bB tT cC _ _ _ _ _ _ _ _ [] h141 8 24 162 #[.val (.int i0), .val (.int i1), .val (.int i2), .val (.int i3), .val (.int i4), .val (.int (4 : Int32)), .val (.int c0), .val (.int c1), .val (.int c2), .val (.int c3), .val (.ref x), .val (.int (if c3 = 46 then 3 else (if c2 = 46 then 2 else (if c1 = 46 then 1 else (if c0 = 46 then 0 else (-1 : Int32)))))), .val (.int (Int32.ofNat (lastM 46 [c0, c1, c2, c3]))), .val (.ref y)] [.int (1 : Int32)]
    refine oGo.if_eq (pc1 := 165) (pc2 := 195) at_162 rfl (by decide) (fun q => by first | exact absurd q (by decide) | exact absurd (by decide) q) (fun q154 => ?_)
    refine oGo.aload (pc' := 167) at_165 rfl rfl rfl ?_
    refine oGo.iconst (pc' := 168) (v := 2) at_167 rfl (by decide) ?_
    refine oGo.iload (pc' := 170) at_168 rfl rfl ?_
    refine oGo.iload (pc' := 172) at_170 rfl rfl ?_
    have hs2 : ∀ d, (([c0, c1, c2, c3] : List Int32).take (lastM 46 [c0, c1, c2, c3]))[2]? = some d → d = c2 := by
      intro d hd
      rw [List.getElem?_take] at hd
      split at hd
      · simpa using hd.symm
      · cases hd
    have e2 := c_same (l := l) (Z := Z) (a0 := a0) (EL := EL) hG y u _ 2 (by decide) c2 hs2 _ Sy
    rw [hyl] at e2
    refine oGo.invokestatic (pc' := 175) (k' := 8) (n' := 24) (argsL := [.ref y, .int (2 : Int32), .int (Int32.ofNat (lastM 46 [c0, c1, c2, c3])), .int c2]) (rest := []) at_172 rfl (w85 hG) (w86 hG) (w3 hG) (w87 hG) (by decide) pd24 rfl rfl rfl e2 (by simp) (by decide) (Nat.le_of_ble_eq_true rfl) rfl rfl (by decide) (by decide) ?_
    intro v155 h156 sh156 q157
    obtain ⟨rfl, ee⟩ := q157
    obtain rfl := ee.symm
    refine ⟨_, fun _ hx => Or.inl hx, ?_⟩
    show oGo l Z a0 EL True pP eE sS mM _ bB tT cC _ _ _ _ _ _ _ _ [] h141 8 24 175 #[.val (.int i0), .val (.int i1), .val (.int i2), .val (.int i3), .val (.int i4), .val (.int (4 : Int32)), .val (.int c0), .val (.int c1), .val (.int c2), .val (.int c3), .val (.ref x), .val (.int (if c3 = 46 then 3 else (if c2 = 46 then 2 else (if c1 = 46 then 1 else (if c0 = 46 then 0 else (-1 : Int32)))))), .val (.int (Int32.ofNat (lastM 46 [c0, c1, c2, c3]))), .val (.ref y)] [.int (1 : Int32)]
    refine oGo.if_eq (pc1 := 178) (pc2 := 195) at_175 rfl (by decide) (fun q => by first | exact absurd q (by decide) | exact absurd (by decide) q) (fun q158 => ?_)
    refine oGo.aload (pc' := 180) at_178 rfl rfl rfl ?_
    refine oGo.iconst (pc' := 181) (v := 3) at_180 rfl (by decide) ?_
    refine oGo.iload (pc' := 183) at_181 rfl rfl ?_
    refine oGo.iload (pc' := 185) at_183 rfl rfl ?_
    have hs3 : ∀ d, (([c0, c1, c2, c3] : List Int32).take (lastM 46 [c0, c1, c2, c3]))[3]? = some d → d = c3 := by
      intro d hd
      rw [List.getElem?_take] at hd
      split at hd
      · simpa using hd.symm
      · cases hd
    have e3 := c_same (l := l) (Z := Z) (a0 := a0) (EL := EL) hG y u _ 3 (by decide) c3 hs3 _ Sy
    rw [hyl] at e3
    refine oGo.invokestatic (pc' := 188) (k' := 8) (n' := 24) (argsL := [.ref y, .int (3 : Int32), .int (Int32.ofNat (lastM 46 [c0, c1, c2, c3])), .int c3]) (rest := []) at_185 rfl (w85 hG) (w86 hG) (w3 hG) (w87 hG) (by decide) pd24 rfl rfl rfl e3 (by simp) (by decide) (Nat.le_of_ble_eq_true rfl) rfl rfl (by decide) (by decide) ?_
    intro v159 h160 sh160 q161
    obtain ⟨rfl, ee⟩ := q161
    obtain rfl := ee.symm
    refine ⟨_, fun _ hx => Or.inl hx, ?_⟩
    show oGo l Z a0 EL True pP eE sS mM _ bB tT cC _ _ _ _ _ _ _ _ [] h141 8 24 188 #[.val (.int i0), .val (.int i1), .val (.int i2), .val (.int i3), .val (.int i4), .val (.int (4 : Int32)), .val (.int c0), .val (.int c1), .val (.int c2), .val (.int c3), .val (.ref x), .val (.int (if c3 = 46 then 3 else (if c2 = 46 then 2 else (if c1 = 46 then 1 else (if c0 = 46 then 0 else (-1 : Int32)))))), .val (.int (Int32.ofNat (lastM 46 [c0, c1, c2, c3]))), .val (.ref y)] [.int (1 : Int32)]
    refine oGo.if_eq (pc1 := 191) (pc2 := 195) at_188 rfl (by decide) (fun q => by first | exact absurd q (by decide) | exact absurd (by decide) q) (fun q162 => ?_)
    refine oGo.iconst (pc' := 192) (v := 1) at_191 rfl (by decide) ?_
    refine oGo.goto (pc' := 196) at_192 (by decide) ?_
    exact oGo.nreturn at_196 rfl (by simp) rfl (by decide) (by decide) rfl (fun _ q => q.elim)
theorem own_held {s : State} {o : String} {i : Nat} (h : Jvm.Pilot.@@N@@.Jvm.D.constHeld s o i) : Jvm.Lit.constHeld s o i := h
theorem own_compactW {a0 : Array Value} {s : State} (h : (Jvm.Cond.not (Jvm.Cond.eq (Jvm.Term.static "java/lang/String" "COMPACT_STRINGS" "Z") (Jvm.Term.int (0 : Int32)))).before a0 s = true) : Jvm.Lit.compactW.before a0 s = true := h
set_option maxRecDepth 65536 in
set_option maxHeartbeats 4000000 in
theorem comes_1 {Post : Tables → Env → Array Value → State → Outcome → State → Prop} (hpost : ∀ tb e args s v u, (limb_1_1.after args s (.returned v) u = true ∧ limb_1_2.after args s (.returned v) u = true) → D.FramedW s (.returned v) u (Jvm.fieldLocs frame_1_writes args s ++ Jvm.arrayLocs frame_1_arrays args s ++ Jvm.staticLocs frame_1_statics s) 24 2176 → Post tb e args s (.returned v) u) :
    ArmFor flags0 classFile x code maxLocals ret World_1 tables_1 room_1 Calls_1 rest_1 Pre_1 Post := by
  intro l hfl _ _ p e ha hc hk s m args below hf hA hF happ hP
  obtain ⟨hcalls, hrest, hpre⟩ := hP
  obtain ⟨-, -, -, hnamed, -, -, -, hat⟩ := (Spec.applies_iff hf).mp happ
  obtain ⟨hg, hn⟩ := and_e (Cond.before_iff.mp (show (Jvm.Cond.and given_1 narrow_1).before args s = true from hpre))
  obtain ⟨g0, g1⟩ := and_e hg
  obtain ⟨t0, r0⟩ := and_e g1
  obtain ⟨t1, r1⟩ := and_e r0
  obtain ⟨t2, r2⟩ := and_e r1
  obtain ⟨t3, r3⟩ := and_e r2
  obtain ⟨w0, w1, w2, w3, w4, rfl⟩ : ∃ w0 w1 w2 w3 w4 : Value, args = #[w0, w1, w2, w3, w4] := by
    have hs : args.size = 5 := by simpa [Cond.value, given_1] using g0
    obtain ⟨L⟩ := args
    match L, hs with
    | [w0, w1, w2, w3, w4], _ => exact ⟨w0, w1, w2, w3, w4, rfl⟩
  have hw := fun d (hd : d ∈ tables_1) => atoms_spec (ws := Jvm.Cond.code x code maxLocals ret :: tables_1) hat d (List.mem_cons_of_mem _ hd)
  obtain ⟨hsets, hown0⟩ := atoms_of _ (rest_1_c_eq ▸ (show rest_1_c.before _ s = true from hrest))
  obtain ⟨i0, ei0⟩ := is_v t0
  obtain rfl : w0 = (.int i0) := Option.some.inj ei0
  obtain ⟨i1, ei1⟩ := is_v t1
  obtain rfl : w1 = (.int i1) := Option.some.inj ei1
  obtain ⟨i2, ei2⟩ := is_v t2
  obtain rfl : w2 = (.int i2) := Option.some.inj ei2
  obtain ⟨i3, ei3⟩ := is_v t3
  obtain rfl : w3 = (.int i3) := Option.some.inj ei3
  obtain ⟨i4, ei4⟩ := is_v r3
  obtain rfl : w4 = (.int i4) := Option.some.inj ei4
  have hEW : EW s #[.int i0, .int i1, .int i2, .int i3, .int i4] consts_1 := (EW.cons (hw _ (List.mem_of_getElem? (i := 22) rfl)) (by decide) (EW.cons (hw _ (List.mem_of_getElem? (i := 101) rfl)) (by decide) EW.nil))
  have hG : oG #[.int i0, .int i1, .int i2, .int i3, .int i4] s consts_1 := ⟨hw, hEW, hsets, fun _ h => h⟩
  have hCH : CHv s consts_1 s.vm s.heap := CHv.start hEW (fun p hp => own_held (hcalls.1 p hp)) (own_compactW (hsets _ (List.mem_of_getElem? (i := 2) rfl))) (w23 hG) (w9 hG)
  obtain ⟨n, o, h1, h2, h3, v, L, rfl, ⟨rfl, -⟩, hN, -, -, -, hR⟩ := c_law (l := l) hG i0 i1 i2 i3 i4 s.heap p e ha hc hk s m _ below hf ((Spec.applies_iff_loose hf).mp happ).1 ⟨rfl, State.Warmed39.refl s, rfl, ext_refl _, hCH, (fun x hx => by simp at hx)⟩ trivial
  refine ⟨n, _, h1, h2, h3, hpost _ _ _ _ _ _ ⟨Cond.after_iff.mpr rfl, Cond.after_iff.mpr (eq_i res_at (Term.int_eval (1)) rfl)⟩ ⟨⟨_, rfl⟩, hR.2.1, hR.2.2.1, (hR.2.2.2.sift fun y hy => Or.inr (hN y hy)).mono (by decide) (by decide)⟩⟩
theorem main_1_1 : Claimed_1_1 := comes_1 fun _ _ _ _ _ _ h hF => ⟨h.1, hF⟩
theorem main_1_2 : Claimed_1_2 := comes_1 fun _ _ _ _ _ _ h hF => ⟨h.2, hF⟩
end Jvm.Pilot.@@N@@
namespace Jvm.Pilot.@@N@@
open Jvm Jvm.ClassFile Sem Op Lib Jvm.Free Jvm.Stand Jvm.Pilot.@@N@@.Jvm.D
/-! MADE BY PROGRAM (witnessworld.py) out of the Statement's table words and the real class files: 24 classes; the members and pool entries that the words name. The judged class is class 1, her method 1. -/
namespace start1
open Jvm.ClassFile
def u (s : String) : CpInfo := .utf8 (stringToUtf16 s)
/-- a pool by its gaps: so many unusable entries, then the entry; so many at the end -/
def gap : Nat → List CpInfo → List CpInfo
  | 0, r => r
  | n + 1, r => .unusable :: gap n r
def poolList (es : List (Nat × CpInfo)) (last : Nat) : List CpInfo := es.foldr (fun e r => gap e.1 (e.2 :: r)) (gap last [])
def pool (es : List (Nat × CpInfo)) (last : Nat) : Array CpInfo := ⟨poolList es last⟩
def fileOf (pool : Array CpInfo) (this : Nat) (attrs : Array Attribute := #[]) (ms : Array MethodInfo := #[]) (fl : Nat := 33) (sup : Nat := 0) (ifs : Array Nat := #[]) (fds : Array FieldInfo := #[]) : ClassFile where
  minorVersion := 0
  majorVersion := 65
  constantPool := pool
  accessFlags := fl
  thisClass := this
  superClass := sup
  interfaces := ifs
  fields := fds
  methods := ms
  attributes := attrs
def plain (name : String) (sup : Option ClassId) : Class where
  name := name
  kind := .ordinary
  loader := none
  accessFlags := 33
  super := sup
  interfaces := #[]
  cf := none
  fields := #[]
  methods := #[]
  instanceTypes := #[]
  staticTypes := #[]
  resolved := #[]
  callSites := []
  init := .initialized
  statics := none
  mirror := none

def pool0 : Array CpInfo := pool [(5, u "<init>"), (0, u "()V"), (1, .class_ 10), (1, u "java/lang/Object")] 113

def k0c0 : Code := { maxStack := 0, maxLocals := 1, code := object_method_1_code, exceptionTable := #[], attributes := #[] }
def k0m0 : Method := { name := "<init>", desc := "()V", sig := { parameters := [], returnType := none }, accessFlags := 1, code := some k0c0 }
/-- java/lang/Object -/
def k0 : Class := { plain "java/lang/Object" none with
  accessFlags := 33
  interfaces := #[]
  cf := some (fileOf pool0 8 #[] #[{ accessFlags := 1, nameIndex := 5, descriptorIndex := 6, attributes := #[] }] 33 0 #[] #[])
  fields := #[]
  methods := #[k0m0]
  instanceTypes := #[]
  staticTypes := #[]
  resolved := Array.replicate 124 none
  statics := none }

def pool1 : Array CpInfo := pool [(2, .class_ 4), (1, u "java/lang/Object"), (0, u "<init>"), (0, u "()V"), (0, .integer 2147483647), (0, .methodref 9 10), (0, .class_ 11), (0, .nameAndType 12 13), (0, u "com/example/recital/recital/NumeralPrefixPinLaw"), (0, u "ch"), (0, u "(I)C"), (0, .methodref 9 15), (0, .nameAndType 16 17), (0, u "make"), (0, u "(ICCCC)Ljava/lang/String;"), (0, .methodref 19 20), (0, .class_ 21), (0, .nameAndType 22 23), (0, u "com/example/recital/recital/Numeral"), (0, u "prefix"), (0, u "(Ljava/lang/String;)Ljava/lang/String;"), (0, .methodref 25 26), (0, .class_ 27), (0, .nameAndType 28 29), (0, u "java/lang/String"), (0, u "length"), (0, u "()I"), (0, .methodref 9 31), (0, .nameAndType 32 33), (0, u "same"), (0, u "(Ljava/lang/String;IIC)Z"), (0, .methodref 25 35), (0, .nameAndType 36 13), (0, u "charAt"), (0, .methodref 25 38), (0, .nameAndType 5 39), (0, u "([C)V"), (2, u "law"), (0, u "(IIIII)Z")] 3

def k1m0 : Method := { name := "<init>", desc := "()V", sig := { parameters := [], returnType := none }, accessFlags := 1, code := none }
def k1c1 : Code := { maxStack := 5, maxLocals := 14, code := code, exceptionTable := #[], attributes := #[] }
def k1m1 : Method := { name := "law", desc := "(IIIII)Z", sig := { parameters := [.int, .int, .int, .int, .int], returnType := some .boolean }, accessFlags := 9, code := some k1c1 }
def k1c2 : Code := { maxStack := 2, maxLocals := 4, code := method_3_code, exceptionTable := #[], attributes := #[] }
def k1m2 : Method := { name := "same", desc := "(Ljava/lang/String;IIC)Z", sig := { parameters := [(.object "java/lang/String"), .int, .int, .char], returnType := some .boolean }, accessFlags := 10, code := some k1c2 }
def k1c3 : Code := { maxStack := 2, maxLocals := 1, code := method_4_code, exceptionTable := #[], attributes := #[] }
def k1m3 : Method := { name := "ch", desc := "(I)C", sig := { parameters := [.int], returnType := some .char }, accessFlags := 10, code := some k1c3 }
def k1c4 : Code := { maxStack := 6, maxLocals := 5, code := method_5_code, exceptionTable := #[], attributes := #[] }
def k1m4 : Method := { name := "make", desc := "(ICCCC)Ljava/lang/String;", sig := { parameters := [.int, .char, .char, .char, .char], returnType := some (.object "java/lang/String") }, accessFlags := 10, code := some k1c4 }
/-- com/example/recital/recital/NumeralPrefixPinLaw -/
def k1 : Class := { plain "com/example/recital/recital/NumeralPrefixPinLaw" (some 0) with
  accessFlags := 49
  interfaces := #[]
  cf := some (fileOf pool1 9 #[] #[{ accessFlags := 1, nameIndex := 5, descriptorIndex := 6, attributes := #[] }, { accessFlags := 9, nameIndex := 42, descriptorIndex := 43, attributes := #[] }, { accessFlags := 10, nameIndex := 32, descriptorIndex := 33, attributes := #[] }, { accessFlags := 10, nameIndex := 12, descriptorIndex := 13, attributes := #[] }, { accessFlags := 10, nameIndex := 16, descriptorIndex := 17, attributes := #[] }] 49 2 #[] #[])
  fields := #[]
  methods := #[k1m0, k1m1, k1m2, k1m3, k1m4]
  instanceTypes := #[]
  staticTypes := #[]
  resolved := Array.replicate 47 none
  statics := none }

def pool2 : Array CpInfo := pool [(1, .class_ 2), (0, u "java/io/Serializable"), (0, .class_ 4), (0, u "java/lang/Object")] 2

/-- java/io/Serializable -/
def k2 : Class := { plain "java/io/Serializable" (some 0) with
  accessFlags := 1537
  interfaces := #[]
  cf := some (fileOf pool2 1 #[] #[] 1537 3 #[] #[])
  fields := #[]
  methods := #[]
  instanceTypes := #[]
  staticTypes := #[]
  resolved := Array.replicate 7 none
  statics := none }

def pool3 : Array CpInfo := pool [(1, .class_ 2), (0, u "java/lang/Comparable"), (0, .class_ 4), (0, u "java/lang/Object")] 7

/-- java/lang/Comparable -/
def k3 : Class := { plain "java/lang/Comparable" (some 0) with
  accessFlags := 1537
  interfaces := #[]
  cf := some (fileOf pool3 1 #[] #[] 1537 3 #[] #[])
  fields := #[]
  methods := #[]
  instanceTypes := #[]
  staticTypes := #[]
  resolved := Array.replicate 12 none
  statics := none }

def pool4 : Array CpInfo := pool [(2, .class_ 4), (1, u "java/lang/CharSequence"), (42, .class_ 48), (0, u "java/lang/CharSequence$1CodePointIterator"), (10, .class_ 60), (0, u "java/lang/CharSequence$1CharIterator"), (5, .class_ 67), (0, u "java/lang/Object")] 63

/-- java/lang/CharSequence -/
def k4 : Class := { plain "java/lang/CharSequence" (some 0) with
  accessFlags := 1537
  interfaces := #[]
  cf := some (fileOf pool4 2 #[.nestMembers #[47, 59]] #[] 1537 66 #[] #[])
  fields := #[]
  methods := #[]
  instanceTypes := #[]
  staticTypes := #[]
  resolved := Array.replicate 131 none
  statics := none }

def pool5 : Array CpInfo := pool [(1, .class_ 2), (0, u "java/lang/constant/Constable"), (0, .class_ 4), (0, u "java/lang/Object")] 6

/-- java/lang/constant/Constable -/
def k5 : Class := { plain "java/lang/constant/Constable" (some 0) with
  accessFlags := 1537
  interfaces := #[]
  cf := some (fileOf pool5 1 #[] #[] 1537 3 #[] #[])
  fields := #[]
  methods := #[]
  instanceTypes := #[]
  staticTypes := #[]
  resolved := Array.replicate 11 none
  statics := none }

def pool6 : Array CpInfo := pool [(1, .class_ 2), (0, u "java/lang/constant/ConstantDesc"), (0, .class_ 4), (0, u "java/lang/Object")] 32

/-- java/lang/constant/ConstantDesc -/
def k6 : Class := { plain "java/lang/constant/ConstantDesc" (some 0) with
  accessFlags := 1537
  interfaces := #[]
  cf := some (fileOf pool6 1 #[] #[] 1537 3 #[] #[])
  fields := #[]
  methods := #[]
  instanceTypes := #[]
  staticTypes := #[]
  resolved := Array.replicate 37 none
  statics := none }

def pool7 : Array CpInfo := pool [(1, .methodref 2 3), (0, .class_ 4), (0, .nameAndType 5 6), (0, u "java/lang/Object"), (0, u "<init>"), (0, u "()V"), (0, .string 8), (0, u ""), (0, .fieldref 10 11), (0, .class_ 12), (0, .nameAndType 13 14), (0, u "java/lang/String"), (0, u "value"), (0, u "[B"), (0, .fieldref 10 16), (0, .nameAndType 17 18), (0, u "coder"), (0, u "B"), (2, u "hash"), (0, u "I"), (2, u "hashIsZero"), (0, u "Z"), (0, .methodref 10 28), (0, .nameAndType 5 29), (0, u "([CIILjava/lang/Void;)V"), (8, .fieldref 10 39), (0, .nameAndType 40 26), (0, u "COMPACT_STRINGS"), (1, .class_ 44), (1, u "java/lang/StringUTF16"), (0, u "compress"), (1, .methodref 42 48), (0, .nameAndType 49 50), (0, u "coderFromArrayLen"), (0, u "([BI)B"), (46, u "([BII)I"), (9, .class_ 109), (1, u "java/lang/StringLatin1"), (32, u "()Z"), (34, .methodref 42 178), (0, .nameAndType 45 179), (0, u "([CII)[B"), (31, u "([BB)V"), (122, u "()I"), (0, .methodref 10 336), (0, .nameAndType 17 337), (0, u "()B"), (25, u "([BI)C"), (27, u "(II)V"), (35, u "(I)C"), (64, .methodref 10 493), (0, .nameAndType 494 142), (0, u "isLatin1"), (0, .methodref 107 496), (0, .nameAndType 497 363), (0, u "charAt"), (3, u "checkIndex"), (3, .methodref 10 506), (0, .nameAndType 507 334), (0, u "length"), (5, u "checkFromToIndex"), (7, .methodref 10 522), (0, .nameAndType 523 524), (0, u "checkBoundsBeginEnd"), (0, u "(III)V"), (50, .class_ 576), (0, u "java/lang/CharSequence"), (22, u "CASE_INSENSITIVE_ORDER"), (0, u "Ljava/util/Comparator;"), (35, u "(II)I"), (4, .methodref 10 642), (0, .nameAndType 643 636), (0, u "lastIndexOf"), (0, .methodref 107 645), (0, .nameAndType 643 97), (37, u "substring"), (0, u "(II)Ljava/lang/String;"), (0, .methodref 107 686), (0, .nameAndType 687 688), (0, u "newString"), (0, u "([BII)Ljava/lang/String;"), (76, u "(I)I"), (244, u "([C)V"), (42, .fieldref 1054 1055), (0, .class_ 1056), (0, .nameAndType 1057 1058), (0, u "jdk/internal/util/Preconditions"), (0, u "SIOOBE_FORMATTER"), (0, u "Ljava/util/function/BiFunction;"), (0, .methodref 1054 1060), (0, .nameAndType 501 1061), (0, u "(IILjava/util/function/BiFunction;)I"), (0, .methodref 1054 1063), (0, .nameAndType 513 1064), (0, u "(IIILjava/util/function/BiFunction;)I"), (36, u "serialPersistentFields"), (0, u "[Ljava/io/ObjectStreamField;"), (0, .class_ 1104), (0, u "java/lang/String$CaseInsensitiveComparator"), (1, .class_ 1107), (0, u "java/io/Serializable"), (0, .class_ 1109), (0, u "java/lang/Comparable"), (0, .class_ 1111), (0, u "java/lang/constant/Constable"), (0, .class_ 1113), (0, u "java/lang/constant/ConstantDesc"), (2, u "serialVersionUID"), (0, u "J"), (3, u "REPL"), (0, u "C"), (2, u "LATIN1"), (1, u "UTF16")] 323

def k7m0 : Method := { name := "<init>", desc := "()V", sig := { parameters := [], returnType := none }, accessFlags := 1, code := none }
def k7c1 : Code := { maxStack := 5, maxLocals := 2, code := jdk_42_method_3_code, exceptionTable := #[], attributes := #[] }
def k7m1 : Method := { name := "<init>", desc := "([C)V", sig := { parameters := [(.array .char)], returnType := none }, accessFlags := 1, code := some k7c1 }
def k7c2 : Code := { maxStack := 2, maxLocals := 1, code := jdk_42_method_54_code, exceptionTable := #[], attributes := #[] }
def k7m2 : Method := { name := "length", desc := "()I", sig := { parameters := [], returnType := some .int }, accessFlags := 1, code := some k7c2 }
def k7c3 : Code := { maxStack := 2, maxLocals := 2, code := jdk_42_method_56_code, exceptionTable := #[], attributes := #[] }
def k7m3 : Method := { name := "charAt", desc := "(I)C", sig := { parameters := [.int], returnType := some .char }, accessFlags := 1, code := some k7c3 }
def k7c4 : Code := { maxStack := 4, maxLocals := 2, code := jdk_42_method_82_code, exceptionTable := #[], attributes := #[] }
def k7m4 : Method := { name := "lastIndexOf", desc := "(I)I", sig := { parameters := [.int], returnType := some .int }, accessFlags := 1, code := some k7c4 }
def k7c5 : Code := { maxStack := 3, maxLocals := 3, code := jdk_42_method_83_code, exceptionTable := #[], attributes := #[] }
def k7m5 : Method := { name := "lastIndexOf", desc := "(II)I", sig := { parameters := [.int, .int], returnType := some .int }, accessFlags := 1, code := some k7c5 }
def k7c6 : Code := { maxStack := 3, maxLocals := 5, code := jdk_42_method_92_code, exceptionTable := #[], attributes := #[] }
def k7m6 : Method := { name := "substring", desc := "(II)Ljava/lang/String;", sig := { parameters := [.int, .int], returnType := some (.object "java/lang/String") }, accessFlags := 1, code := some k7c6 }
def k7c7 : Code := { maxStack := 4, maxLocals := 6, code := jdk_42_method_149_code, exceptionTable := #[], attributes := #[] }
def k7m7 : Method := { name := "<init>", desc := "([CIILjava/lang/Void;)V", sig := { parameters := [(.array .char), .int, .int, (.object "java/lang/Void")], returnType := none }, accessFlags := 2, code := some k7c7 }
def k7c8 : Code := { maxStack := 2, maxLocals := 3, code := jdk_42_method_151_code, exceptionTable := #[], attributes := #[] }
def k7m8 : Method := { name := "<init>", desc := "([BB)V", sig := { parameters := [(.array .byte), .byte], returnType := none }, accessFlags := 0, code := some k7c8 }
def k7c9 : Code := { maxStack := 1, maxLocals := 1, code := jdk_42_method_152_code, exceptionTable := #[], attributes := #[] }
def k7m9 : Method := { name := "coder", desc := "()B", sig := { parameters := [], returnType := some .byte }, accessFlags := 0, code := some k7c9 }
def k7c10 : Code := { maxStack := 1, maxLocals := 1, code := jdk_42_method_154_code, exceptionTable := #[], attributes := #[] }
def k7m10 : Method := { name := "isLatin1", desc := "()Z", sig := { parameters := [], returnType := some .boolean }, accessFlags := 0, code := some k7c10 }
def k7c11 : Code := { maxStack := 3, maxLocals := 2, code := jdk_42_method_155_code, exceptionTable := #[], attributes := #[] }
def k7m11 : Method := { name := "checkIndex", desc := "(II)V", sig := { parameters := [.int, .int], returnType := none }, accessFlags := 8, code := some k7c11 }
def k7c12 : Code := { maxStack := 4, maxLocals := 3, code := jdk_42_method_158_code, exceptionTable := #[], attributes := #[] }
def k7m12 : Method := { name := "checkBoundsBeginEnd", desc := "(III)V", sig := { parameters := [.int, .int, .int], returnType := none }, accessFlags := 8, code := some k7c12 }
/-- java/lang/String -/
def k7 : Class := { plain "java/lang/String" (some 0) with
  accessFlags := 49
  interfaces := #[2, 3, 4, 5, 6]
  cf := some (fileOf pool7 10 #[.nestMembers #[1103]] #[{ accessFlags := 1, nameIndex := 5, descriptorIndex := 6, attributes := #[] }, { accessFlags := 1, nameIndex := 5, descriptorIndex := 1010, attributes := #[] }, { accessFlags := 1, nameIndex := 507, descriptorIndex := 334, attributes := #[] }, { accessFlags := 1, nameIndex := 497, descriptorIndex := 427, attributes := #[] }, { accessFlags := 1, nameIndex := 643, descriptorIndex := 765, attributes := #[] }, { accessFlags := 1, nameIndex := 643, descriptorIndex := 636, attributes := #[] }, { accessFlags := 1, nameIndex := 683, descriptorIndex := 684, attributes := #[] }, { accessFlags := 2, nameIndex := 5, descriptorIndex := 29, attributes := #[] }, { accessFlags := 0, nameIndex := 5, descriptorIndex := 211, attributes := #[] }, { accessFlags := 0, nameIndex := 17, descriptorIndex := 337, attributes := #[] }, { accessFlags := 0, nameIndex := 494, descriptorIndex := 142, attributes := #[] }, { accessFlags := 8, nameIndex := 501, descriptorIndex := 391, attributes := #[] }, { accessFlags := 8, nameIndex := 523, descriptorIndex := 524, attributes := #[] }] 49 2 #[1106, 1108, 575, 1110, 1112] #[{ accessFlags := 18, nameIndex := 13, descriptorIndex := 14, attributes := #[] }, { accessFlags := 18, nameIndex := 17, descriptorIndex := 18, attributes := #[] }, { accessFlags := 2, nameIndex := 21, descriptorIndex := 22, attributes := #[] }, { accessFlags := 2, nameIndex := 25, descriptorIndex := 26, attributes := #[] }, { accessFlags := 26, nameIndex := 1116, descriptorIndex := 1117, attributes := #[] }, { accessFlags := 24, nameIndex := 40, descriptorIndex := 26, attributes := #[] }, { accessFlags := 26, nameIndex := 1101, descriptorIndex := 1102, attributes := #[] }, { accessFlags := 26, nameIndex := 1121, descriptorIndex := 1122, attributes := #[] }, { accessFlags := 25, nameIndex := 599, descriptorIndex := 600, attributes := #[] }, { accessFlags := 24, nameIndex := 1125, descriptorIndex := 18, attributes := #[] }, { accessFlags := 24, nameIndex := 1127, descriptorIndex := 18, attributes := #[] }])
  fields := #[{ name := "value", type := (.array .byte), accessFlags := 18, slot := 0, constantValue := 0 }, { name := "coder", type := .byte, accessFlags := 18, slot := 1, constantValue := 0 }, { name := "hash", type := .int, accessFlags := 2, slot := 2, constantValue := 0 }, { name := "hashIsZero", type := .boolean, accessFlags := 2, slot := 3, constantValue := 0 }, { name := "serialVersionUID", type := .long, accessFlags := 26, slot := 0, constantValue := 0 }, { name := "COMPACT_STRINGS", type := .boolean, accessFlags := 24, slot := 1, constantValue := 0 }, { name := "serialPersistentFields", type := (.array (.object "java/io/ObjectStreamField")), accessFlags := 26, slot := 2, constantValue := 0 }, { name := "REPL", type := .char, accessFlags := 26, slot := 3, constantValue := 0 }, { name := "CASE_INSENSITIVE_ORDER", type := (.object "java/util/Comparator"), accessFlags := 25, slot := 4, constantValue := 0 }, { name := "LATIN1", type := .byte, accessFlags := 24, slot := 5, constantValue := 0 }, { name := "UTF16", type := .byte, accessFlags := 24, slot := 6, constantValue := 0 }]
  methods := #[k7m0, k7m1, k7m2, k7m3, k7m4, k7m5, k7m6, k7m7, k7m8, k7m9, k7m10, k7m11, k7m12]
  instanceTypes := #[(.array .byte), .byte, .int, .boolean]
  staticTypes := #[.long, .boolean, (.array (.object "java/io/ObjectStreamField")), .char, (.object "java/util/Comparator"), .byte, .byte]
  resolved := Array.replicate 1451 none
  statics := some 0 }

def pool8 : Array CpInfo := pool [(2, .class_ 4), (1, u "java/lang/Object"), (0, u "<init>"), (0, u "()V"), (0, .class_ 8), (0, u "java/lang/Record")] 13

def k8m0 : Method := { name := "<init>", desc := "()V", sig := { parameters := [], returnType := none }, accessFlags := 4, code := none }
/-- java/lang/Record -/
def k8 : Class := { plain "java/lang/Record" (some 0) with
  accessFlags := 1057
  interfaces := #[]
  cf := some (fileOf pool8 7 #[] #[{ accessFlags := 4, nameIndex := 5, descriptorIndex := 6, attributes := #[] }] 1057 2 #[] #[])
  fields := #[]
  methods := #[k8m0]
  instanceTypes := #[]
  staticTypes := #[]
  resolved := Array.replicate 22 none
  statics := none }

def pool9 : Array CpInfo := pool [(2, .class_ 4), (1, u "java/lang/Record"), (3, .class_ 10), (1, u "com/example/recital/recital/Numeral"), (0, u "style"), (0, u "Lcom/example/recital/recital/Numeral$Style;"), (2, u "value"), (0, u "I"), (2, u "width"), (1, .class_ 23), (1, u "java/lang/String"), (21, .class_ 47), (1, u "com/example/recital/recital/Numeral$Style"), (22, u "MAX_ROMAN_LENGTH"), (2, u "ROMAN_VALUES"), (0, u "[I"), (2, u "ROMAN_DIGITS"), (0, u "[Ljava/lang/String;"), (14, .methodref 21 94), (0, .nameAndType 95 96), (0, u "lastIndexOf"), (0, u "(I)I"), (2, u "substring"), (3, .methodref 21 104), (0, .nameAndType 99 105), (0, u "(II)Ljava/lang/String;"), (52, u "TENS"), (0, u "Ljava/util/List;"), (7, u "UNITS"), (124, u "MAX_FIGURES"), (4, u "MAX_WORDS_LENGTH"), (6, u "prefix"), (0, u "(Ljava/lang/String;)Ljava/lang/String;")] 52

def k9c0 : Code := { maxStack := 4, maxLocals := 1, code := prog_13_method_4_code, exceptionTable := #[], attributes := #[] }
def k9m0 : Method := { name := "prefix", desc := "(Ljava/lang/String;)Ljava/lang/String;", sig := { parameters := [(.object "java/lang/String")], returnType := some (.object "java/lang/String") }, accessFlags := 8, code := some k9c0 }
/-- com/example/recital/recital/Numeral -/
def k9 : Class := { plain "com/example/recital/recital/Numeral" (some 8) with
  accessFlags := 48
  interfaces := #[]
  cf := some (fileOf pool9 8 #[.nestMembers #[45]] #[{ accessFlags := 8, nameIndex := 304, descriptorIndex := 305, attributes := #[] }] 48 2 #[] #[{ accessFlags := 18, nameIndex := 11, descriptorIndex := 12, attributes := #[] }, { accessFlags := 18, nameIndex := 15, descriptorIndex := 16, attributes := #[] }, { accessFlags := 18, nameIndex := 19, descriptorIndex := 16, attributes := #[] }, { accessFlags := 26, nameIndex := 292, descriptorIndex := 16, attributes := #[] }, { accessFlags := 26, nameIndex := 70, descriptorIndex := 16, attributes := #[] }, { accessFlags := 26, nameIndex := 73, descriptorIndex := 74, attributes := #[] }, { accessFlags := 26, nameIndex := 77, descriptorIndex := 78, attributes := #[] }, { accessFlags := 26, nameIndex := 167, descriptorIndex := 159, attributes := #[] }, { accessFlags := 26, nameIndex := 158, descriptorIndex := 159, attributes := #[] }, { accessFlags := 26, nameIndex := 297, descriptorIndex := 16, attributes := #[] }])
  fields := #[{ name := "style", type := (.object "com/example/recital/recital/Numeral$Style"), accessFlags := 18, slot := 0, constantValue := 0 }, { name := "value", type := .int, accessFlags := 18, slot := 1, constantValue := 0 }, { name := "width", type := .int, accessFlags := 18, slot := 2, constantValue := 0 }, { name := "MAX_FIGURES", type := .int, accessFlags := 26, slot := 0, constantValue := 0 }, { name := "MAX_ROMAN_LENGTH", type := .int, accessFlags := 26, slot := 1, constantValue := 0 }, { name := "ROMAN_VALUES", type := (.array .int), accessFlags := 26, slot := 2, constantValue := 0 }, { name := "ROMAN_DIGITS", type := (.array (.object "java/lang/String")), accessFlags := 26, slot := 3, constantValue := 0 }, { name := "UNITS", type := (.object "java/util/List"), accessFlags := 26, slot := 4, constantValue := 0 }, { name := "TENS", type := (.object "java/util/List"), accessFlags := 26, slot := 5, constantValue := 0 }, { name := "MAX_WORDS_LENGTH", type := .int, accessFlags := 26, slot := 6, constantValue := 0 }]
  methods := #[k9m0]
  instanceTypes := #[(.object "com/example/recital/recital/Numeral$Style"), .int, .int]
  staticTypes := #[.int, .int, (.array .int), (.array (.object "java/lang/String")), (.object "java/util/List"), (.object "java/util/List"), .int]
  resolved := Array.replicate 358 none
  statics := none }

def pool10 : Array CpInfo := pool [(1, .class_ 2), (0, u "java/lang/String"), (1, .class_ 6), (1, u "java/lang/Object"), (0, u "<init>"), (0, u "()V"), (0, .methodref 1 10), (0, .nameAndType 11 12), (0, u "checkIndex"), (0, u "(II)V"), (1, .class_ 16), (1, u "java/lang/StringLatin1"), (21, .methodref 39 40), (0, .class_ 41), (0, .nameAndType 42 43), (0, u "java/lang/Math"), (0, u "min"), (0, u "(II)I"), (9, u "([BI)C"), (34, .methodref 14 89), (0, .nameAndType 90 91), (0, u "canEncode"), (0, u "(I)Z"), (20, .methodref 1 113), (0, .nameAndType 7 114), (0, u "([BB)V"), (6, u "$assertionsDisabled"), (0, u "Z"), (8, .class_ 133), (1, u "java/util/Arrays"), (17, .string 152), (0, u ""), (43, u "newString"), (0, u "([BII)Ljava/lang/String;"), (23, .class_ 223), (1, u "java/lang/StringLatin1$LinesSpliterator"), (8, .methodref 131 233), (0, .nameAndType 234 235), (0, u "copyOfRange"), (0, u "([BII)[B"), (16, u "charAt"), (8, u "([BII)I"), (47, u "lastIndexOf"), (80, .class_ 391), (0, u "java/lang/StringLatin1$CharsSpliterator")] 3

def k10m0 : Method := { name := "<init>", desc := "()V", sig := { parameters := [], returnType := none }, accessFlags := 0, code := none }
def k10c1 : Code := { maxStack := 2, maxLocals := 2, code := jdk_43_method_2_code, exceptionTable := #[], attributes := #[] }
def k10m1 : Method := { name := "charAt", desc := "([BI)C", sig := { parameters := [(.array .byte), .int], returnType := some .char }, accessFlags := 9, code := some k10c1 }
def k10c2 : Code := { maxStack := 2, maxLocals := 1, code := jdk_43_method_4_code, exceptionTable := #[], attributes := #[] }
def k10m2 : Method := { name := "canEncode", desc := "(I)Z", sig := { parameters := [.int], returnType := some .boolean }, accessFlags := 9, code := some k10c2 }
def k10c3 : Code := { maxStack := 3, maxLocals := 4, code := jdk_43_method_27_code, exceptionTable := #[], attributes := #[] }
def k10m3 : Method := { name := "lastIndexOf", desc := "([BII)I", sig := { parameters := [(.array .byte), .int, .int], returnType := some .int }, accessFlags := 9, code := some k10c3 }
def k10c4 : Code := { maxStack := 6, maxLocals := 3, code := jdk_43_method_47_code, exceptionTable := #[], attributes := #[] }
def k10m4 : Method := { name := "newString", desc := "([BII)Ljava/lang/String;", sig := { parameters := [(.array .byte), .int, .int], returnType := some (.object "java/lang/String") }, accessFlags := 9, code := some k10c4 }
/-- java/lang/StringLatin1 -/
def k10 : Class := { plain "java/lang/StringLatin1" (some 0) with
  accessFlags := 48
  interfaces := #[]
  cf := some (fileOf pool10 14 #[.nestMembers #[390, 221]] #[{ accessFlags := 0, nameIndex := 7, descriptorIndex := 8, attributes := #[] }, { accessFlags := 9, nameIndex := 252, descriptorIndex := 53, attributes := #[] }, { accessFlags := 9, nameIndex := 90, descriptorIndex := 91, attributes := #[] }, { accessFlags := 9, nameIndex := 309, descriptorIndex := 261, attributes := #[] }, { accessFlags := 9, nameIndex := 196, descriptorIndex := 197, attributes := #[] }] 48 4 #[] #[{ accessFlags := 4120, nameIndex := 121, descriptorIndex := 122, attributes := #[] }])
  fields := #[{ name := "$assertionsDisabled", type := .boolean, accessFlags := 4120, slot := 0, constantValue := 0 }]
  methods := #[k10m0, k10m1, k10m2, k10m3, k10m4]
  instanceTypes := #[]
  staticTypes := #[.boolean]
  resolved := Array.replicate 395 none
  statics := none }

def pool11 : Array CpInfo := pool [(1, .class_ 2), (0, u "java/lang/Math"), (1, .class_ 6), (1, u "java/lang/Object"), (0, u "<init>"), (0, u "()V"), (89, .class_ 100), (1, u "java/lang/Math$RandomNumberGeneratorHolder"), (71, u "negativeZeroFloatBits"), (0, u "J"), (2, u "negativeZeroDoubleBits"), (24, u "min"), (43, u "$assertionsDisabled"), (0, u "Z"), (88, u "(II)I"), (2, u "twoToTheDoubleScaleDown"), (0, u "D"), (4, u "twoToTheDoubleScaleUp"), (9, u "E"), (3, u "PI"), (2, u "TAU"), (2, u "DEGREES_TO_RADIANS"), (0, u "RADIANS_TO_DEGREES")] 94

def k11m0 : Method := { name := "<init>", desc := "()V", sig := { parameters := [], returnType := none }, accessFlags := 2, code := none }
def k11c1 : Code := { maxStack := 2, maxLocals := 2, code := jdk_29_method_69_code, exceptionTable := #[], attributes := #[] }
def k11m1 : Method := { name := "min", desc := "(II)I", sig := { parameters := [.int, .int], returnType := some .int }, accessFlags := 9, code := some k11c1 }
/-- java/lang/Math -/
def k11 : Class := { plain "java/lang/Math" (some 0) with
  accessFlags := 49
  interfaces := #[]
  cf := some (fileOf pool11 1 #[.nestMembers #[98]] #[{ accessFlags := 2, nameIndex := 7, descriptorIndex := 8, attributes := #[] }, { accessFlags := 9, nameIndex := 201, descriptorIndex := 335, attributes := #[] }] 49 4 #[] #[{ accessFlags := 25, nameIndex := 354, descriptorIndex := 339, attributes := #[] }, { accessFlags := 25, nameIndex := 358, descriptorIndex := 339, attributes := #[] }, { accessFlags := 25, nameIndex := 361, descriptorIndex := 339, attributes := #[] }, { accessFlags := 26, nameIndex := 364, descriptorIndex := 339, attributes := #[] }, { accessFlags := 26, nameIndex := 365, descriptorIndex := 339, attributes := #[] }, { accessFlags := 26, nameIndex := 172, descriptorIndex := 173, attributes := #[] }, { accessFlags := 26, nameIndex := 176, descriptorIndex := 173, attributes := #[] }, { accessFlags := 8, nameIndex := 344, descriptorIndex := 339, attributes := #[] }, { accessFlags := 8, nameIndex := 338, descriptorIndex := 339, attributes := #[] }, { accessFlags := 4120, nameIndex := 245, descriptorIndex := 246, attributes := #[] }])
  fields := #[{ name := "E", type := .double, accessFlags := 25, slot := 0, constantValue := 0 }, { name := "PI", type := .double, accessFlags := 25, slot := 1, constantValue := 0 }, { name := "TAU", type := .double, accessFlags := 25, slot := 2, constantValue := 0 }, { name := "DEGREES_TO_RADIANS", type := .double, accessFlags := 26, slot := 3, constantValue := 0 }, { name := "RADIANS_TO_DEGREES", type := .double, accessFlags := 26, slot := 4, constantValue := 0 }, { name := "negativeZeroFloatBits", type := .long, accessFlags := 26, slot := 5, constantValue := 0 }, { name := "negativeZeroDoubleBits", type := .long, accessFlags := 26, slot := 6, constantValue := 0 }, { name := "twoToTheDoubleScaleUp", type := .double, accessFlags := 8, slot := 7, constantValue := 0 }, { name := "twoToTheDoubleScaleDown", type := .double, accessFlags := 8, slot := 8, constantValue := 0 }, { name := "$assertionsDisabled", type := .boolean, accessFlags := 4120, slot := 9, constantValue := 0 }]
  methods := #[k11m0, k11m1]
  instanceTypes := #[]
  staticTypes := #[.double, .double, .double, .double, .double, .long, .long, .double, .double, .boolean]
  resolved := Array.replicate 460 none
  statics := none }

def pool12 : Array CpInfo := pool [(2, .class_ 4), (1, u "java/lang/Object"), (0, u "<init>"), (0, u "()V"), (17, .class_ 26), (1, u "jdk/internal/util/Preconditions"), (6, u "checkIndex"), (13, u "checkFromToIndex"), (7, .class_ 56), (0, u "jdk/internal/util/Preconditions$4"), (57, .class_ 115), (0, u "jdk/internal/util/Preconditions$1"), (7, u "SIOOBE_FORMATTER"), (0, u "Ljava/util/function/BiFunction;"), (0, .class_ 126), (0, u "jdk/internal/util/Preconditions$2"), (3, u "AIOOBE_FORMATTER"), (0, .class_ 132), (0, u "jdk/internal/util/Preconditions$3"), (3, u "IOOBE_FORMATTER"), (41, u "(IILjava/util/function/BiFunction;)I"), (4, u "(IIILjava/util/function/BiFunction;)I")] 10

def k12m0 : Method := { name := "<init>", desc := "()V", sig := { parameters := [], returnType := none }, accessFlags := 1, code := none }
def k12c1 : Code := { maxStack := 3, maxLocals := 3, code := jdk_41_method_11_code, exceptionTable := #[], attributes := #[] }
def k12m1 : Method := { name := "checkIndex", desc := "(IILjava/util/function/BiFunction;)I", sig := { parameters := [.int, .int, (.object "java/util/function/BiFunction")], returnType := some .int }, accessFlags := 9, code := some k12c1 }
def k12c2 : Code := { maxStack := 4, maxLocals := 4, code := jdk_41_method_12_code, exceptionTable := #[], attributes := #[] }
def k12m2 : Method := { name := "checkFromToIndex", desc := "(IIILjava/util/function/BiFunction;)I", sig := { parameters := [.int, .int, .int, (.object "java/util/function/BiFunction")], returnType := some .int }, accessFlags := 9, code := some k12c2 }
/-- jdk/internal/util/Preconditions -/
def k12 : Class := { plain "jdk/internal/util/Preconditions" (some 0) with
  accessFlags := 33
  interfaces := #[]
  cf := some (fileOf pool12 24 #[.nestMembers #[55, 131, 125, 114]] #[{ accessFlags := 1, nameIndex := 5, descriptorIndex := 6, attributes := #[] }, { accessFlags := 9, nameIndex := 33, descriptorIndex := 178, attributes := #[] }, { accessFlags := 9, nameIndex := 47, descriptorIndex := 183, attributes := #[] }] 33 2 #[] #[{ accessFlags := 25, nameIndex := 123, descriptorIndex := 124, attributes := #[] }, { accessFlags := 25, nameIndex := 130, descriptorIndex := 124, attributes := #[] }, { accessFlags := 25, nameIndex := 136, descriptorIndex := 124, attributes := #[] }])
  fields := #[{ name := "SIOOBE_FORMATTER", type := (.object "java/util/function/BiFunction"), accessFlags := 25, slot := 0, constantValue := 0 }, { name := "AIOOBE_FORMATTER", type := (.object "java/util/function/BiFunction"), accessFlags := 25, slot := 1, constantValue := 0 }, { name := "IOOBE_FORMATTER", type := (.object "java/util/function/BiFunction"), accessFlags := 25, slot := 2, constantValue := 0 }]
  methods := #[k12m0, k12m1, k12m2]
  instanceTypes := #[]
  staticTypes := #[(.object "java/util/function/BiFunction"), (.object "java/util/function/BiFunction"), (.object "java/util/function/BiFunction")]
  resolved := Array.replicate 194 none
  statics := some 1 }

def pool13 : Array CpInfo := pool [(6, .class_ 8), (1, u "java/lang/Object"), (0, u "<init>"), (0, u "()V"), (1, .class_ 14), (1, u "java/lang/StringUTF16"), (31, u "$assertionsDisabled"), (0, u "Z"), (13, u "HI_BYTE_SHIFT"), (0, u "I"), (2, u "LO_BYTE_SHIFT"), (49, .methodref 12 116), (0, .nameAndType 117 118), (0, u "compress"), (0, u "([CI[BII)I"), (3, u "([CII)[B"), (138, u "coderFromArrayLen"), (0, u "([BI)B"), (106, .class_ 371), (1, u "java/lang/StringUTF16$LinesSpliterator"), (58, u "MAX_LENGTH"), (196, .class_ 628), (0, u "java/lang/StringUTF16$CodePointsSpliterator"), (0, .class_ 630), (0, u "java/lang/StringUTF16$CharsSpliterator")] 4

def k13m0 : Method := { name := "<init>", desc := "()V", sig := { parameters := [], returnType := none }, accessFlags := 0, code := none }
def k13c1 : Code := { maxStack := 2, maxLocals := 2, code := jdk_52_method_15_code, exceptionTable := #[], attributes := #[] }
def k13m1 : Method := { name := "coderFromArrayLen", desc := "([BI)B", sig := { parameters := [(.array .byte), .int], returnType := some .byte }, accessFlags := 8, code := some k13c1 }
def k13c2 : Code := { maxStack := 5, maxLocals := 6, code := jdk_52_method_16_code, exceptionTable := #[], attributes := #[] }
def k13m2 : Method := { name := "compress", desc := "([CII)[B", sig := { parameters := [(.array .char), .int, .int], returnType := some (.array .byte) }, accessFlags := 9, code := some k13c2 }
def k13c3 : Code := { maxStack := 3, maxLocals := 7, code := jdk_52_method_21_code, exceptionTable := #[], attributes := #[] }
def k13m3 : Method := { name := "compress", desc := "([CI[BII)I", sig := { parameters := [(.array .char), .int, (.array .byte), .int, .int], returnType := some .int }, accessFlags := 9, code := some k13c3 }
/-- java/lang/StringUTF16 -/
def k13 : Class := { plain "java/lang/StringUTF16" (some 0) with
  accessFlags := 48
  interfaces := #[]
  cf := some (fileOf pool13 12 #[.nestMembers #[627, 629, 369]] #[{ accessFlags := 0, nameIndex := 9, descriptorIndex := 10, attributes := #[] }, { accessFlags := 8, nameIndex := 261, descriptorIndex := 262, attributes := #[] }, { accessFlags := 9, nameIndex := 117, descriptorIndex := 122, attributes := #[] }, { accessFlags := 9, nameIndex := 117, descriptorIndex := 118, attributes := #[] }] 48 6 #[] #[{ accessFlags := 26, nameIndex := 61, descriptorIndex := 62, attributes := #[] }, { accessFlags := 26, nameIndex := 65, descriptorIndex := 62, attributes := #[] }, { accessFlags := 24, nameIndex := 430, descriptorIndex := 62, attributes := #[] }, { accessFlags := 4120, nameIndex := 46, descriptorIndex := 47, attributes := #[] }])
  fields := #[{ name := "HI_BYTE_SHIFT", type := .int, accessFlags := 26, slot := 0, constantValue := 0 }, { name := "LO_BYTE_SHIFT", type := .int, accessFlags := 26, slot := 1, constantValue := 0 }, { name := "MAX_LENGTH", type := .int, accessFlags := 24, slot := 2, constantValue := 0 }, { name := "$assertionsDisabled", type := .boolean, accessFlags := 4120, slot := 3, constantValue := 0 }]
  methods := #[k13m0, k13m1, k13m2, k13m3]
  instanceTypes := #[]
  staticTypes := #[.int, .int, .int, .boolean]
  resolved := Array.replicate 635 none
  statics := none }

def pool14 : Array CpInfo := pool [(2, .class_ 4), (1, u "java/lang/Object"), (0, u "<init>"), (0, u "()V"), (7, .class_ 16), (1, u "java/util/Arrays"), (57, .class_ 76), (1, u "java/util/Arrays$NaturalOrder"), (36, .class_ 115), (1, u "java/util/Arrays$LegacyMergeSort"), (1, u "Z"), (21, u "copyOfRange"), (10, .methodref 151 152), (0, .class_ 153), (0, .nameAndType 154 155), (0, u "java/lang/System"), (0, u "arraycopy"), (0, u "(Ljava/lang/Object;ILjava/lang/Object;II)V"), (148, .methodref 305 306), (0, .class_ 307), (0, .nameAndType 308 309), (0, u "java/lang/Math"), (0, u "min"), (0, u "(II)I"), (29, .methodref 14 340), (0, .nameAndType 341 342), (0, u "copyOfRangeByte"), (0, u "([BII)[B"), (0, .methodref 14 344), (0, .nameAndType 345 346), (0, u "checkLength"), (0, u "(II)V"), (28, .class_ 376), (0, u "java/util/Arrays$ArrayList"), (68, u "$assertionsDisabled"), (269, u "MIN_ARRAY_SORT_GRAN"), (0, u "I"), (2, u "INSERTIONSORT_THRESHOLD"), (255, .class_ 976), (0, u "java/util/Arrays$ArrayItr")] 52

def k14m0 : Method := { name := "<init>", desc := "()V", sig := { parameters := [], returnType := none }, accessFlags := 2, code := none }
def k14c1 : Code := { maxStack := 4, maxLocals := 2, code := jdk_65_method_131_code, exceptionTable := #[], attributes := #[] }
def k14m1 : Method := { name := "checkLength", desc := "(II)V", sig := { parameters := [.int, .int], returnType := none }, accessFlags := 10, code := some k14c1 }
def k14c2 : Code := { maxStack := 3, maxLocals := 3, code := jdk_65_method_132_code, exceptionTable := #[], attributes := #[] }
def k14m2 : Method := { name := "copyOfRange", desc := "([BII)[B", sig := { parameters := [(.array .byte), .int, .int], returnType := some (.array .byte) }, accessFlags := 9, code := some k14c2 }
def k14c3 : Code := { maxStack := 6, maxLocals := 5, code := jdk_65_method_133_code, exceptionTable := #[], attributes := #[] }
def k14m3 : Method := { name := "copyOfRangeByte", desc := "([BII)[B", sig := { parameters := [(.array .byte), .int, .int], returnType := some (.array .byte) }, accessFlags := 10, code := some k14c3 }
/-- java/util/Arrays -/
def k14 : Class := { plain "java/util/Arrays" (some 0) with
  accessFlags := 49
  interfaces := #[]
  cf := some (fileOf pool14 14 #[.nestMembers #[975, 375, 113, 74]] #[{ accessFlags := 2, nameIndex := 5, descriptorIndex := 6, attributes := #[] }, { accessFlags := 10, nameIndex := 345, descriptorIndex := 346, attributes := #[] }, { accessFlags := 9, nameIndex := 139, descriptorIndex := 342, attributes := #[] }, { accessFlags := 10, nameIndex := 341, descriptorIndex := 342, attributes := #[] }] 49 2 #[] #[{ accessFlags := 26, nameIndex := 715, descriptorIndex := 716, attributes := #[] }, { accessFlags := 26, nameIndex := 719, descriptorIndex := 716, attributes := #[] }, { accessFlags := 4120, nameIndex := 445, descriptorIndex := 117, attributes := #[] }])
  fields := #[{ name := "MIN_ARRAY_SORT_GRAN", type := .int, accessFlags := 26, slot := 0, constantValue := 0 }, { name := "INSERTIONSORT_THRESHOLD", type := .int, accessFlags := 26, slot := 1, constantValue := 0 }, { name := "$assertionsDisabled", type := .boolean, accessFlags := 4120, slot := 2, constantValue := 0 }]
  methods := #[k14m0, k14m1, k14m2, k14m3]
  instanceTypes := #[]
  staticTypes := #[.int, .int, .boolean]
  resolved := Array.replicate 1029 none
  statics := none }

def pool15 : Array CpInfo := pool [(2, .class_ 4), (1, u "java/lang/Object"), (0, u "<init>"), (0, u "()V"), (1, .class_ 10), (1, u "java/lang/System"), (0, u "allowSecurityManager"), (0, u "I"), (16, u "cons"), (0, u "Ljava/io/Console;"), (77, .class_ 110), (1, u "java/lang/System$CallersHolder"), (43, u "initialErrStream"), (0, u "Ljava/io/PrintStream;"), (19, u "security"), (0, u "Ljava/lang/SecurityManager;"), (31, .class_ 209), (0, u "java/lang/System$1"), (7, u "props"), (0, u "Ljava/util/Properties;"), (2, u "lineSeparator"), (0, u "Ljava/lang/String;"), (96, .class_ 321), (1, u "java/lang/System$LoggerFinder"), (5, .class_ 328), (0, u "java/lang/System$Logger"), (67, u "err"), (2, u "out"), (91, u "notSupportedJnuEncoding"), (15, u "in"), (17, u "initialIn"), (0, u "Ljava/io/InputStream;"), (35, u "bootLayer"), (0, u "Ljava/lang/ModuleLayer;"), (99, .class_ 664), (0, u "java/lang/System$2"), (9, u "NEVER"), (2, u "MAYBE"), (49, u "arraycopy"), (0, u "(Ljava/lang/Object;ILjava/lang/Object;II)V"), (72, .class_ 802), (0, u "java/lang/System$Logger$Level")] 31

def k15m0 : Method := { name := "<init>", desc := "()V", sig := { parameters := [], returnType := none }, accessFlags := 2, code := none }
def k15m1 : Method := { name := "arraycopy", desc := "(Ljava/lang/Object;ILjava/lang/Object;II)V", sig := { parameters := [(.object "java/lang/Object"), .int, (.object "java/lang/Object"), .int, .int], returnType := none }, accessFlags := 265, code := none }
/-- java/lang/System -/
def k15 : Class := { plain "java/lang/System" (some 0) with
  accessFlags := 49
  interfaces := #[]
  cf := some (fileOf pool15 8 #[.nestMembers #[319, 327, 801, 108, 663, 208]] #[{ accessFlags := 2, nameIndex := 5, descriptorIndex := 6, attributes := #[] }, { accessFlags := 265, nameIndex := 727, descriptorIndex := 728, attributes := #[] }] 49 2 #[] #[{ accessFlags := 25, nameIndex := 507, descriptorIndex := 526, attributes := #[] }, { accessFlags := 25, nameIndex := 399, descriptorIndex := 155, attributes := #[] }, { accessFlags := 25, nameIndex := 396, descriptorIndex := 155, attributes := #[] }, { accessFlags := 10, nameIndex := 525, descriptorIndex := 526, attributes := #[] }, { accessFlags := 26, nameIndex := 674, descriptorIndex := 12, attributes := #[] }, { accessFlags := 26, nameIndex := 677, descriptorIndex := 12, attributes := #[] }, { accessFlags := 10, nameIndex := 11, descriptorIndex := 12, attributes := #[] }, { accessFlags := 74, nameIndex := 175, descriptorIndex := 176, attributes := #[] }, { accessFlags := 10, nameIndex := 491, descriptorIndex := 222, attributes := #[] }, { accessFlags := 74, nameIndex := 29, descriptorIndex := 30, attributes := #[] }, { accessFlags := 74, nameIndex := 154, descriptorIndex := 155, attributes := #[] }, { accessFlags := 10, nameIndex := 217, descriptorIndex := 218, attributes := #[] }, { accessFlags := 10, nameIndex := 221, descriptorIndex := 222, attributes := #[] }, { accessFlags := 8, nameIndex := 562, descriptorIndex := 563, attributes := #[] }])
  fields := #[{ name := "in", type := (.object "java/io/InputStream"), accessFlags := 25, slot := 0, constantValue := 0 }, { name := "out", type := (.object "java/io/PrintStream"), accessFlags := 25, slot := 1, constantValue := 0 }, { name := "err", type := (.object "java/io/PrintStream"), accessFlags := 25, slot := 2, constantValue := 0 }, { name := "initialIn", type := (.object "java/io/InputStream"), accessFlags := 10, slot := 3, constantValue := 0 }, { name := "NEVER", type := .int, accessFlags := 26, slot := 4, constantValue := 0 }, { name := "MAYBE", type := .int, accessFlags := 26, slot := 5, constantValue := 0 }, { name := "allowSecurityManager", type := .int, accessFlags := 10, slot := 6, constantValue := 0 }, { name := "security", type := (.object "java/lang/SecurityManager"), accessFlags := 74, slot := 7, constantValue := 0 }, { name := "notSupportedJnuEncoding", type := (.object "java/lang/String"), accessFlags := 10, slot := 8, constantValue := 0 }, { name := "cons", type := (.object "java/io/Console"), accessFlags := 74, slot := 9, constantValue := 0 }, { name := "initialErrStream", type := (.object "java/io/PrintStream"), accessFlags := 74, slot := 10, constantValue := 0 }, { name := "props", type := (.object "java/util/Properties"), accessFlags := 10, slot := 11, constantValue := 0 }, { name := "lineSeparator", type := (.object "java/lang/String"), accessFlags := 10, slot := 12, constantValue := 0 }, { name := "bootLayer", type := (.object "java/lang/ModuleLayer"), accessFlags := 8, slot := 13, constantValue := 0 }]
  methods := #[k15m0, k15m1]
  instanceTypes := #[]
  staticTypes := #[(.object "java/io/InputStream"), (.object "java/io/PrintStream"), (.object "java/io/PrintStream"), (.object "java/io/InputStream"), .int, .int, .int, (.object "java/lang/SecurityManager"), (.object "java/lang/String"), (.object "java/io/Console"), (.object "java/io/PrintStream"), (.object "java/util/Properties"), (.object "java/lang/String"), (.object "java/lang/ModuleLayer")]
  resolved := Array.replicate 834 none
  statics := none }

def pool16 : Array CpInfo := pool [(9, u "<init>"), (6, .class_ 18), (1, u "java/lang/Object"), (0, u "()V"), (1, .class_ 23), (1, u "jdk/internal/util/ArraysSupport"), (0, u "LOG2_ARRAY_LONG_INDEX_SCALE"), (0, u "I"), (2, u "U"), (0, u "Ljdk/internal/misc/Unsafe;"), (8, u "BIG_ENDIAN"), (0, u "Z"), (8, u "LOG2_BYTE_BIT_SIZE"), (4, u "LOG2_ARRAY_INT_INDEX_SCALE"), (54, u "JLA"), (0, u "Ljdk/internal/access/JavaLangAccess;"), (11, u "LOG2_ARRAY_BOOLEAN_INDEX_SCALE"), (9, u "LOG2_ARRAY_BYTE_INDEX_SCALE"), (5, u "LOG2_ARRAY_CHAR_INDEX_SCALE"), (5, u "LOG2_ARRAY_SHORT_INDEX_SCALE"), (18, u "LOG2_ARRAY_FLOAT_INDEX_SCALE"), (24, u "LOG2_ARRAY_DOUBLE_INDEX_SCALE"), (89, u "T_BOOLEAN"), (2, u "T_CHAR"), (1, u "T_FLOAT"), (1, u "T_DOUBLE"), (1, u "T_BYTE"), (1, u "T_SHORT"), (1, u "T_INT"), (1, u "T_LONG"), (1, u "SOFT_MAX_ARRAY_LENGTH")] 83

def k16m0 : Method := { name := "<init>", desc := "()V", sig := { parameters := [], returnType := none }, accessFlags := 2, code := none }
/-- jdk/internal/util/ArraysSupport -/
def k16 : Class := { plain "jdk/internal/util/ArraysSupport" (some 0) with
  accessFlags := 33
  interfaces := #[]
  cf := some (fileOf pool16 21 #[] #[{ accessFlags := 2, nameIndex := 9, descriptorIndex := 19, attributes := #[] }] 33 16 #[] #[{ accessFlags := 24, nameIndex := 28, descriptorIndex := 29, attributes := #[] }, { accessFlags := 26, nameIndex := 38, descriptorIndex := 39, attributes := #[] }, { accessFlags := 25, nameIndex := 121, descriptorIndex := 25, attributes := #[] }, { accessFlags := 25, nameIndex := 131, descriptorIndex := 25, attributes := #[] }, { accessFlags := 25, nameIndex := 137, descriptorIndex := 25, attributes := #[] }, { accessFlags := 25, nameIndex := 143, descriptorIndex := 25, attributes := #[] }, { accessFlags := 25, nameIndex := 53, descriptorIndex := 25, attributes := #[] }, { accessFlags := 25, nameIndex := 24, descriptorIndex := 25, attributes := #[] }, { accessFlags := 25, nameIndex := 162, descriptorIndex := 25, attributes := #[] }, { accessFlags := 25, nameIndex := 187, descriptorIndex := 25, attributes := #[] }, { accessFlags := 26, nameIndex := 48, descriptorIndex := 25, attributes := #[] }, { accessFlags := 25, nameIndex := 277, descriptorIndex := 25, attributes := #[] }, { accessFlags := 25, nameIndex := 280, descriptorIndex := 25, attributes := #[] }, { accessFlags := 25, nameIndex := 282, descriptorIndex := 25, attributes := #[] }, { accessFlags := 25, nameIndex := 284, descriptorIndex := 25, attributes := #[] }, { accessFlags := 25, nameIndex := 286, descriptorIndex := 25, attributes := #[] }, { accessFlags := 25, nameIndex := 288, descriptorIndex := 25, attributes := #[] }, { accessFlags := 25, nameIndex := 290, descriptorIndex := 25, attributes := #[] }, { accessFlags := 25, nameIndex := 292, descriptorIndex := 25, attributes := #[] }, { accessFlags := 26, nameIndex := 108, descriptorIndex := 109, attributes := #[] }, { accessFlags := 25, nameIndex := 294, descriptorIndex := 25, attributes := #[] }])
  fields := #[{ name := "U", type := (.object "jdk/internal/misc/Unsafe"), accessFlags := 24, slot := 0, constantValue := 0 }, { name := "BIG_ENDIAN", type := .boolean, accessFlags := 26, slot := 1, constantValue := 0 }, { name := "LOG2_ARRAY_BOOLEAN_INDEX_SCALE", type := .int, accessFlags := 25, slot := 2, constantValue := 0 }, { name := "LOG2_ARRAY_BYTE_INDEX_SCALE", type := .int, accessFlags := 25, slot := 3, constantValue := 0 }, { name := "LOG2_ARRAY_CHAR_INDEX_SCALE", type := .int, accessFlags := 25, slot := 4, constantValue := 0 }, { name := "LOG2_ARRAY_SHORT_INDEX_SCALE", type := .int, accessFlags := 25, slot := 5, constantValue := 0 }, { name := "LOG2_ARRAY_INT_INDEX_SCALE", type := .int, accessFlags := 25, slot := 6, constantValue := 0 }, { name := "LOG2_ARRAY_LONG_INDEX_SCALE", type := .int, accessFlags := 25, slot := 7, constantValue := 0 }, { name := "LOG2_ARRAY_FLOAT_INDEX_SCALE", type := .int, accessFlags := 25, slot := 8, constantValue := 0 }, { name := "LOG2_ARRAY_DOUBLE_INDEX_SCALE", type := .int, accessFlags := 25, slot := 9, constantValue := 0 }, { name := "LOG2_BYTE_BIT_SIZE", type := .int, accessFlags := 26, slot := 10, constantValue := 0 }, { name := "T_BOOLEAN", type := .int, accessFlags := 25, slot := 11, constantValue := 0 }, { name := "T_CHAR", type := .int, accessFlags := 25, slot := 12, constantValue := 0 }, { name := "T_FLOAT", type := .int, accessFlags := 25, slot := 13, constantValue := 0 }, { name := "T_DOUBLE", type := .int, accessFlags := 25, slot := 14, constantValue := 0 }, { name := "T_BYTE", type := .int, accessFlags := 25, slot := 15, constantValue := 0 }, { name := "T_SHORT", type := .int, accessFlags := 25, slot := 16, constantValue := 0 }, { name := "T_INT", type := .int, accessFlags := 25, slot := 17, constantValue := 0 }, { name := "T_LONG", type := .int, accessFlags := 25, slot := 18, constantValue := 0 }, { name := "JLA", type := (.object "jdk/internal/access/JavaLangAccess"), accessFlags := 26, slot := 19, constantValue := 0 }, { name := "SOFT_MAX_ARRAY_LENGTH", type := .int, accessFlags := 25, slot := 20, constantValue := 0 }]
  methods := #[k16m0]
  instanceTypes := #[]
  staticTypes := #[(.object "jdk/internal/misc/Unsafe"), .boolean, .int, .int, .int, .int, .int, .int, .int, .int, .int, .int, .int, .int, .int, .int, .int, .int, .int, (.object "jdk/internal/access/JavaLangAccess"), .int]
  resolved := Array.replicate 378 none
  statics := none }

def pool17 : Array CpInfo := pool [(1, u "java/lang/Cloneable"), (0, .class_ 1), (0, u "java/lang/Object"), (0, .class_ 3)] 3

/-- java/lang/Cloneable -/
def k17 : Class := { plain "java/lang/Cloneable" (some 0) with
  accessFlags := 1537
  interfaces := #[]
  cf := some (fileOf pool17 2 #[] #[] 1537 4 #[] #[])
  fields := #[]
  methods := #[]
  instanceTypes := #[]
  staticTypes := #[]
  resolved := Array.replicate 8 none
  statics := none }

/-- the primitive byte -/
def k18 : Class := { plain "byte" none with kind := .primitive 'B', accessFlags := 0x411 }
/-- [B -/
def k19 : Class := { plain "[B" (some 0) with kind := .array 18 .byte, interfaces := #[17, 2], accessFlags := 1041 }

/-- the primitive char -/
def k20 : Class := { plain "char" none with kind := .primitive 'C', accessFlags := 0x411 }
/-- [C -/
def k21 : Class := { plain "[C" (some 0) with kind := .array 20 .char, interfaces := #[17, 2], accessFlags := 1041 }

/-- the primitive int -/
def k22 : Class := { plain "int" none with kind := .primitive 'I', accessFlags := 0x411 }
/-- [I -/
def k23 : Class := { plain "[I" (some 0) with kind := .array 22 .int, interfaces := #[17, 2], accessFlags := 1041 }

def heap : Heap := #[{ cls := 7, slots := #[.long 0, .int 1, .null, .int 0, .null, .int 0, .int 0], vm := .statics 7 },
  { cls := 12, slots := #[.null, .null, .null], vm := .statics 12 }]
def classes : Array Class := #[k0, k1, k2, k3, k4, k5, k6, k7, k8, k9, k10, k11, k12, k13, k14, k15, k16, k17, k18, k19, k20, k21, k22, k23]
def interned : List (Array UInt16 × Addr) := []
def slotsUsed : Nat := 10
def theMethod : MethodId := ⟨1, 1⟩
def args0 : Array Value := #[.int 3, .int 5, .int 7, .int 9, .int 11]
def aboutOver (below : List Frame) : State where
  vm := { classes := classes, interned := interned.toArray }
  heap := heap
  slotsUsed := slotsUsed
  threads := #[{ frames := .invoking theMethod args0 :: below }]
def below0 : List Frame := [.native { method := ⟨0, 0⟩, args := #[] }]
def about1 : State := aboutOver below0
def p0 : Program := .bare "" "" ""
def e0 : Env := launch0.env 0 0 0
theorem w_frames : about1.frames = Frame.invoking theMethod args0 :: below0 := rfl
set_option maxRecDepth 65536 in
theorem w_args : argsFit about1.vm theMethod args0 = true := by decide +kernel
set_option maxRecDepth 65536 in
theorem w_heap : heapFits about1 = true := by decide +kernel
set_option maxRecDepth 65536 in
theorem w_runnable : about1.curStatus? = some .runnable := by decide +kernel
set_option maxRecDepth 65536 in
theorem w_alone : about1.alone = true := by decide +kernel
set_option maxRecDepth 65536 in
theorem w_named : about1.methodNamed? x = some theMethod := by decide +kernel
set_option maxRecDepth 65536 in
theorem w_hears : about1.hears theMethod below0 = true := by decide +kernel
set_option maxRecDepth 65536 in
theorem w_ripe : about1.ripe theMethod args0 below0 = true := by decide +kernel
theorem w_running : about1.status = .running := rfl
set_option maxRecDepth 65536 in
theorem w_room : about1.hasRoom e0.platform room_1 = true :=
  launch0.hasRoom_least _ room_1 (by decide +kernel) (by decide +kernel) (by decide +kernel) (by decide +kernel) (by decide +kernel) (by decide +kernel)
theorem allAtoms_all (ts : List Jvm.Cond) (a : Array Jvm.Value) (st : Jvm.State) : (allAtoms ts).before a st = ts.all (fun c => c.before a st) := by
  induction ts with
  | nil => rfl
  | cons c t ih =>
    show (Jvm.Cond.and c (allAtoms t)).before a st = _
    rw [Jvm.Cond.before_and, ih, List.all_cons]
def words1 : List Jvm.Cond := Jvm.Cond.code x code maxLocals ret :: tables_1
/-- a 'code' word, met by the world's own term for the bytes: nothing is compared byte by byte -/
theorem code_word {y : MethodName} {bytes : ByteArray} {mx : Nat} {rt : Option FieldType} {a : Array Value} {s : State} {m : MethodId} {meth : Method} {c : Code} (h1 : s.methodNamed? y = some m) (h2 : s.vm.method? m = some meth) (h3 : meth.code = some c) (h4 : c.code = bytes)
    (h5 : (c.maxLocals == mx && c.exceptionTable.isEmpty && decide (c.maxStack ≤ mostOperands) && decide (meth.sig.returnType = rt) && !meth.locks && decide (parseMethodDescriptor y.desc = some meth.sig)) = true) : (Jvm.Cond.code y bytes mx rt).before a s = true := by
  simp only [Bool.and_eq_true, beq_iff_eq, Bool.not_eq_true', decide_eq_true_eq] at h5
  obtain ⟨⟨⟨⟨⟨g1, g2⟩, g3⟩, g4⟩, g5⟩, g6⟩ := h5
  simp [Cond.before, Cond.holds, Cond.value, h1, h2, h3, h4, g1, g2, g3, g4, g5, g6]
def isCode : Jvm.Cond → Bool
  | .code _ _ _ _ => true
  | _ => false
theorem all_split {L : List Jvm.Cond} {P : Jvm.Cond → Bool} (h1 : L.all (fun c => isCode c || P c) = true) (h2 : ∀ c ∈ L.filter isCode, P c = true) : L.all P = true := by
  refine List.all_eq_true.mpr fun c hc => ?_
  have h := List.all_eq_true.mp h1 c hc
  rcases Bool.eq_false_or_eq_true (isCode c) with hi | hi
  · exact h2 c (List.mem_filter.mpr ⟨hc, hi⟩)
  · simpa [hi] using h
set_option maxRecDepth 65536 in
theorem w_c0 : (Jvm.Cond.code x code maxLocals ret).before args0 about1 = true := code_word (m := ⟨1, 1⟩) (meth := k1m1) (c := k1c1) (by decide +kernel) rfl rfl rfl (by decide +kernel)
set_option maxRecDepth 65536 in
theorem w_c1 : (Jvm.Cond.code ({ cls := "com/example/recital/recital/NumeralPrefixPinLaw", name := "ch", desc := "(I)C" } : Jvm.MethodName) method_4_code (1 : Nat) (Option.some Jvm.ClassFile.FieldType.char)).before args0 about1 = true := code_word (m := ⟨1, 3⟩) (meth := k1m3) (c := k1c3) (by decide +kernel) rfl rfl rfl (by decide +kernel)
set_option maxRecDepth 65536 in
theorem w_c2 : (Jvm.Cond.code ({ cls := "com/example/recital/recital/NumeralPrefixPinLaw", name := "make", desc := "(ICCCC)Ljava/lang/String;" } : Jvm.MethodName) method_5_code (5 : Nat) (Option.some (Jvm.ClassFile.FieldType.object "java/lang/String"))).before args0 about1 = true := code_word (m := ⟨1, 4⟩) (meth := k1m4) (c := k1c4) (by decide +kernel) rfl rfl rfl (by decide +kernel)
set_option maxRecDepth 65536 in
theorem w_c3 : (Jvm.Cond.code ({ cls := "java/lang/String", name := "<init>", desc := "([C)V" } : Jvm.MethodName) jdk_42_method_3_code (2 : Nat) (Option.none : Option Jvm.ClassFile.FieldType)).before args0 about1 = true := code_word (m := ⟨7, 1⟩) (meth := k7m1) (c := k7c1) (by decide +kernel) rfl rfl rfl (by decide +kernel)
set_option maxRecDepth 65536 in
theorem w_c4 : (Jvm.Cond.code ({ cls := "java/lang/String", name := "<init>", desc := "([CIILjava/lang/Void;)V" } : Jvm.MethodName) jdk_42_method_149_code (6 : Nat) (Option.none : Option Jvm.ClassFile.FieldType)).before args0 about1 = true := code_word (m := ⟨7, 7⟩) (meth := k7m7) (c := k7c7) (by decide +kernel) rfl rfl rfl (by decide +kernel)
set_option maxRecDepth 65536 in
theorem w_c5 : (Jvm.Cond.code ({ cls := "java/lang/Object", name := "<init>", desc := "()V" } : Jvm.MethodName) object_method_1_code (1 : Nat) (Option.none : Option Jvm.ClassFile.FieldType)).before args0 about1 = true := code_word (m := ⟨0, 0⟩) (meth := k0m0) (c := k0c0) (by decide +kernel) rfl rfl rfl (by decide +kernel)
set_option maxRecDepth 65536 in
theorem w_c6 : (Jvm.Cond.code ({ cls := "com/example/recital/recital/Numeral", name := "prefix", desc := "(Ljava/lang/String;)Ljava/lang/String;" } : Jvm.MethodName) prog_13_method_4_code (1 : Nat) (Option.some (Jvm.ClassFile.FieldType.object "java/lang/String"))).before args0 about1 = true := code_word (m := ⟨9, 0⟩) (meth := k9m0) (c := k9c0) (by decide +kernel) rfl rfl rfl (by decide +kernel)
set_option maxRecDepth 65536 in
theorem w_c7 : (Jvm.Cond.code ({ cls := "java/lang/String", name := "lastIndexOf", desc := "(I)I" } : Jvm.MethodName) jdk_42_method_82_code (2 : Nat) (Option.some Jvm.ClassFile.FieldType.int)).before args0 about1 = true := code_word (m := ⟨7, 4⟩) (meth := k7m4) (c := k7c4) (by decide +kernel) rfl rfl rfl (by decide +kernel)
set_option maxRecDepth 65536 in
theorem w_c8 : (Jvm.Cond.code ({ cls := "java/lang/String", name := "length", desc := "()I" } : Jvm.MethodName) jdk_42_method_54_code (1 : Nat) (Option.some Jvm.ClassFile.FieldType.int)).before args0 about1 = true := code_word (m := ⟨7, 2⟩) (meth := k7m2) (c := k7c2) (by decide +kernel) rfl rfl rfl (by decide +kernel)
set_option maxRecDepth 65536 in
theorem w_c9 : (Jvm.Cond.code ({ cls := "java/lang/String", name := "coder", desc := "()B" } : Jvm.MethodName) jdk_42_method_152_code (1 : Nat) (Option.some Jvm.ClassFile.FieldType.byte)).before args0 about1 = true := code_word (m := ⟨7, 9⟩) (meth := k7m9) (c := k7c9) (by decide +kernel) rfl rfl rfl (by decide +kernel)
set_option maxRecDepth 65536 in
theorem w_c10 : (Jvm.Cond.code ({ cls := "java/lang/String", name := "lastIndexOf", desc := "(II)I" } : Jvm.MethodName) jdk_42_method_83_code (3 : Nat) (Option.some Jvm.ClassFile.FieldType.int)).before args0 about1 = true := code_word (m := ⟨7, 5⟩) (meth := k7m5) (c := k7c5) (by decide +kernel) rfl rfl rfl (by decide +kernel)
set_option maxRecDepth 65536 in
theorem w_c11 : (Jvm.Cond.code ({ cls := "java/lang/String", name := "isLatin1", desc := "()Z" } : Jvm.MethodName) jdk_42_method_154_code (1 : Nat) (Option.some Jvm.ClassFile.FieldType.boolean)).before args0 about1 = true := code_word (m := ⟨7, 10⟩) (meth := k7m10) (c := k7c10) (by decide +kernel) rfl rfl rfl (by decide +kernel)
set_option maxRecDepth 65536 in
theorem w_c12 : (Jvm.Cond.code ({ cls := "java/lang/StringLatin1", name := "lastIndexOf", desc := "([BII)I" } : Jvm.MethodName) jdk_43_method_27_code (4 : Nat) (Option.some Jvm.ClassFile.FieldType.int)).before args0 about1 = true := code_word (m := ⟨10, 3⟩) (meth := k10m3) (c := k10c3) (by decide +kernel) rfl rfl rfl (by decide +kernel)
set_option maxRecDepth 65536 in
theorem w_c13 : (Jvm.Cond.code ({ cls := "java/lang/StringLatin1", name := "canEncode", desc := "(I)Z" } : Jvm.MethodName) jdk_43_method_4_code (1 : Nat) (Option.some Jvm.ClassFile.FieldType.boolean)).before args0 about1 = true := code_word (m := ⟨10, 2⟩) (meth := k10m2) (c := k10c2) (by decide +kernel) rfl rfl rfl (by decide +kernel)
set_option maxRecDepth 65536 in
theorem w_c14 : (Jvm.Cond.code ({ cls := "java/lang/Math", name := "min", desc := "(II)I" } : Jvm.MethodName) jdk_29_method_69_code (2 : Nat) (Option.some Jvm.ClassFile.FieldType.int)).before args0 about1 = true := code_word (m := ⟨11, 1⟩) (meth := k11m1) (c := k11c1) (by decide +kernel) rfl rfl rfl (by decide +kernel)
set_option maxRecDepth 65536 in
theorem w_c15 : (Jvm.Cond.code ({ cls := "java/lang/String", name := "substring", desc := "(II)Ljava/lang/String;" } : Jvm.MethodName) jdk_42_method_92_code (5 : Nat) (Option.some (Jvm.ClassFile.FieldType.object "java/lang/String"))).before args0 about1 = true := code_word (m := ⟨7, 6⟩) (meth := k7m6) (c := k7c6) (by decide +kernel) rfl rfl rfl (by decide +kernel)
set_option maxRecDepth 65536 in
theorem w_c16 : (Jvm.Cond.code ({ cls := "java/lang/String", name := "checkBoundsBeginEnd", desc := "(III)V" } : Jvm.MethodName) jdk_42_method_158_code (3 : Nat) (Option.none : Option Jvm.ClassFile.FieldType)).before args0 about1 = true := code_word (m := ⟨7, 12⟩) (meth := k7m12) (c := k7c12) (by decide +kernel) rfl rfl rfl (by decide +kernel)
set_option maxRecDepth 65536 in
theorem w_c17 : (Jvm.Cond.code ({ cls := "jdk/internal/util/Preconditions", name := "checkFromToIndex", desc := "(IIILjava/util/function/BiFunction;)I" } : Jvm.MethodName) jdk_41_method_12_code (4 : Nat) (Option.some Jvm.ClassFile.FieldType.int)).before args0 about1 = true := code_word (m := ⟨12, 2⟩) (meth := k12m2) (c := k12c2) (by decide +kernel) rfl rfl rfl (by decide +kernel)
set_option maxRecDepth 65536 in
theorem w_c18 : (Jvm.Cond.code ({ cls := "com/example/recital/recital/NumeralPrefixPinLaw", name := "same", desc := "(Ljava/lang/String;IIC)Z" } : Jvm.MethodName) method_3_code (4 : Nat) (Option.some Jvm.ClassFile.FieldType.boolean)).before args0 about1 = true := code_word (m := ⟨1, 2⟩) (meth := k1m2) (c := k1c2) (by decide +kernel) rfl rfl rfl (by decide +kernel)
set_option maxRecDepth 65536 in
theorem w_c19 : (Jvm.Cond.code ({ cls := "java/lang/StringUTF16", name := "compress", desc := "([CII)[B" } : Jvm.MethodName) jdk_52_method_16_code (6 : Nat) (Option.some (Jvm.ClassFile.FieldType.array Jvm.ClassFile.FieldType.byte))).before args0 about1 = true := code_word (m := ⟨13, 2⟩) (meth := k13m2) (c := k13c2) (by decide +kernel) rfl rfl rfl (by decide +kernel)
set_option maxRecDepth 65536 in
theorem w_c20 : (Jvm.Cond.code ({ cls := "java/lang/StringUTF16", name := "compress", desc := "([CI[BII)I" } : Jvm.MethodName) jdk_52_method_21_code (7 : Nat) (Option.some Jvm.ClassFile.FieldType.int)).before args0 about1 = true := code_word (m := ⟨13, 3⟩) (meth := k13m3) (c := k13c3) (by decide +kernel) rfl rfl rfl (by decide +kernel)
set_option maxRecDepth 65536 in
theorem w_c21 : (Jvm.Cond.code ({ cls := "java/lang/StringUTF16", name := "coderFromArrayLen", desc := "([BI)B" } : Jvm.MethodName) jdk_52_method_15_code (2 : Nat) (Option.some Jvm.ClassFile.FieldType.byte)).before args0 about1 = true := code_word (m := ⟨13, 1⟩) (meth := k13m1) (c := k13c1) (by decide +kernel) rfl rfl rfl (by decide +kernel)
set_option maxRecDepth 65536 in
theorem w_c22 : (Jvm.Cond.code ({ cls := "java/lang/StringLatin1", name := "newString", desc := "([BII)Ljava/lang/String;" } : Jvm.MethodName) jdk_43_method_47_code (3 : Nat) (Option.some (Jvm.ClassFile.FieldType.object "java/lang/String"))).before args0 about1 = true := code_word (m := ⟨10, 4⟩) (meth := k10m4) (c := k10c4) (by decide +kernel) rfl rfl rfl (by decide +kernel)
set_option maxRecDepth 65536 in
theorem w_c23 : (Jvm.Cond.code ({ cls := "java/lang/String", name := "charAt", desc := "(I)C" } : Jvm.MethodName) jdk_42_method_56_code (2 : Nat) (Option.some Jvm.ClassFile.FieldType.char)).before args0 about1 = true := code_word (m := ⟨7, 3⟩) (meth := k7m3) (c := k7c3) (by decide +kernel) rfl rfl rfl (by decide +kernel)
set_option maxRecDepth 65536 in
theorem w_c24 : (Jvm.Cond.code ({ cls := "java/lang/StringLatin1", name := "charAt", desc := "([BI)C" } : Jvm.MethodName) jdk_43_method_2_code (2 : Nat) (Option.some Jvm.ClassFile.FieldType.char)).before args0 about1 = true := code_word (m := ⟨10, 1⟩) (meth := k10m1) (c := k10c1) (by decide +kernel) rfl rfl rfl (by decide +kernel)
set_option maxRecDepth 65536 in
theorem w_c25 : (Jvm.Cond.code ({ cls := "java/lang/String", name := "checkIndex", desc := "(II)V" } : Jvm.MethodName) jdk_42_method_155_code (2 : Nat) (Option.none : Option Jvm.ClassFile.FieldType)).before args0 about1 = true := code_word (m := ⟨7, 11⟩) (meth := k7m11) (c := k7c11) (by decide +kernel) rfl rfl rfl (by decide +kernel)
set_option maxRecDepth 65536 in
theorem w_c26 : (Jvm.Cond.code ({ cls := "jdk/internal/util/Preconditions", name := "checkIndex", desc := "(IILjava/util/function/BiFunction;)I" } : Jvm.MethodName) jdk_41_method_11_code (3 : Nat) (Option.some Jvm.ClassFile.FieldType.int)).before args0 about1 = true := code_word (m := ⟨12, 1⟩) (meth := k12m1) (c := k12c1) (by decide +kernel) rfl rfl rfl (by decide +kernel)
set_option maxRecDepth 65536 in
theorem w_c27 : (Jvm.Cond.code ({ cls := "java/util/Arrays", name := "copyOfRange", desc := "([BII)[B" } : Jvm.MethodName) jdk_65_method_132_code (3 : Nat) (Option.some (Jvm.ClassFile.FieldType.array Jvm.ClassFile.FieldType.byte))).before args0 about1 = true := code_word (m := ⟨14, 2⟩) (meth := k14m2) (c := k14c2) (by decide +kernel) rfl rfl rfl (by decide +kernel)
set_option maxRecDepth 65536 in
theorem w_c28 : (Jvm.Cond.code ({ cls := "java/util/Arrays", name := "copyOfRangeByte", desc := "([BII)[B" } : Jvm.MethodName) jdk_65_method_133_code (5 : Nat) (Option.some (Jvm.ClassFile.FieldType.array Jvm.ClassFile.FieldType.byte))).before args0 about1 = true := code_word (m := ⟨14, 3⟩) (meth := k14m3) (c := k14c3) (by decide +kernel) rfl rfl rfl (by decide +kernel)
set_option maxRecDepth 65536 in
theorem w_c29 : (Jvm.Cond.code ({ cls := "java/util/Arrays", name := "checkLength", desc := "(II)V" } : Jvm.MethodName) jdk_65_method_131_code (2 : Nat) (Option.none : Option Jvm.ClassFile.FieldType)).before args0 about1 = true := code_word (m := ⟨14, 1⟩) (meth := k14m1) (c := k14c1) (by decide +kernel) rfl rfl rfl (by decide +kernel)
set_option maxRecDepth 65536 in
theorem w_c30 : (Jvm.Cond.code ({ cls := "java/lang/String", name := "<init>", desc := "([BB)V" } : Jvm.MethodName) jdk_42_method_151_code (3 : Nat) (Option.none : Option Jvm.ClassFile.FieldType)).before args0 about1 = true := code_word (m := ⟨7, 8⟩) (meth := k7m8) (c := k7c8) (by decide +kernel) rfl rfl rfl (by decide +kernel)
def codes1 : List Jvm.Cond := [Jvm.Cond.code x code maxLocals ret, Jvm.Cond.code ({ cls := "com/example/recital/recital/NumeralPrefixPinLaw", name := "ch", desc := "(I)C" } : Jvm.MethodName) method_4_code (1 : Nat) (Option.some Jvm.ClassFile.FieldType.char), Jvm.Cond.code ({ cls := "com/example/recital/recital/NumeralPrefixPinLaw", name := "make", desc := "(ICCCC)Ljava/lang/String;" } : Jvm.MethodName) method_5_code (5 : Nat) (Option.some (Jvm.ClassFile.FieldType.object "java/lang/String")), Jvm.Cond.code ({ cls := "java/lang/String", name := "<init>", desc := "([C)V" } : Jvm.MethodName) jdk_42_method_3_code (2 : Nat) (Option.none : Option Jvm.ClassFile.FieldType), Jvm.Cond.code ({ cls := "java/lang/String", name := "<init>", desc := "([CIILjava/lang/Void;)V" } : Jvm.MethodName) jdk_42_method_149_code (6 : Nat) (Option.none : Option Jvm.ClassFile.FieldType), Jvm.Cond.code ({ cls := "java/lang/Object", name := "<init>", desc := "()V" } : Jvm.MethodName) object_method_1_code (1 : Nat) (Option.none : Option Jvm.ClassFile.FieldType), Jvm.Cond.code ({ cls := "com/example/recital/recital/Numeral", name := "prefix", desc := "(Ljava/lang/String;)Ljava/lang/String;" } : Jvm.MethodName) prog_13_method_4_code (1 : Nat) (Option.some (Jvm.ClassFile.FieldType.object "java/lang/String")), Jvm.Cond.code ({ cls := "java/lang/String", name := "lastIndexOf", desc := "(I)I" } : Jvm.MethodName) jdk_42_method_82_code (2 : Nat) (Option.some Jvm.ClassFile.FieldType.int), Jvm.Cond.code ({ cls := "java/lang/String", name := "length", desc := "()I" } : Jvm.MethodName) jdk_42_method_54_code (1 : Nat) (Option.some Jvm.ClassFile.FieldType.int), Jvm.Cond.code ({ cls := "java/lang/String", name := "coder", desc := "()B" } : Jvm.MethodName) jdk_42_method_152_code (1 : Nat) (Option.some Jvm.ClassFile.FieldType.byte), Jvm.Cond.code ({ cls := "java/lang/String", name := "lastIndexOf", desc := "(II)I" } : Jvm.MethodName) jdk_42_method_83_code (3 : Nat) (Option.some Jvm.ClassFile.FieldType.int), Jvm.Cond.code ({ cls := "java/lang/String", name := "isLatin1", desc := "()Z" } : Jvm.MethodName) jdk_42_method_154_code (1 : Nat) (Option.some Jvm.ClassFile.FieldType.boolean), Jvm.Cond.code ({ cls := "java/lang/StringLatin1", name := "lastIndexOf", desc := "([BII)I" } : Jvm.MethodName) jdk_43_method_27_code (4 : Nat) (Option.some Jvm.ClassFile.FieldType.int), Jvm.Cond.code ({ cls := "java/lang/StringLatin1", name := "canEncode", desc := "(I)Z" } : Jvm.MethodName) jdk_43_method_4_code (1 : Nat) (Option.some Jvm.ClassFile.FieldType.boolean), Jvm.Cond.code ({ cls := "java/lang/Math", name := "min", desc := "(II)I" } : Jvm.MethodName) jdk_29_method_69_code (2 : Nat) (Option.some Jvm.ClassFile.FieldType.int), Jvm.Cond.code ({ cls := "java/lang/String", name := "substring", desc := "(II)Ljava/lang/String;" } : Jvm.MethodName) jdk_42_method_92_code (5 : Nat) (Option.some (Jvm.ClassFile.FieldType.object "java/lang/String")), Jvm.Cond.code ({ cls := "java/lang/String", name := "checkBoundsBeginEnd", desc := "(III)V" } : Jvm.MethodName) jdk_42_method_158_code (3 : Nat) (Option.none : Option Jvm.ClassFile.FieldType), Jvm.Cond.code ({ cls := "jdk/internal/util/Preconditions", name := "checkFromToIndex", desc := "(IIILjava/util/function/BiFunction;)I" } : Jvm.MethodName) jdk_41_method_12_code (4 : Nat) (Option.some Jvm.ClassFile.FieldType.int), Jvm.Cond.code ({ cls := "com/example/recital/recital/NumeralPrefixPinLaw", name := "same", desc := "(Ljava/lang/String;IIC)Z" } : Jvm.MethodName) method_3_code (4 : Nat) (Option.some Jvm.ClassFile.FieldType.boolean), Jvm.Cond.code ({ cls := "java/lang/StringUTF16", name := "compress", desc := "([CII)[B" } : Jvm.MethodName) jdk_52_method_16_code (6 : Nat) (Option.some (Jvm.ClassFile.FieldType.array Jvm.ClassFile.FieldType.byte)), Jvm.Cond.code ({ cls := "java/lang/StringUTF16", name := "compress", desc := "([CI[BII)I" } : Jvm.MethodName) jdk_52_method_21_code (7 : Nat) (Option.some Jvm.ClassFile.FieldType.int), Jvm.Cond.code ({ cls := "java/lang/StringUTF16", name := "coderFromArrayLen", desc := "([BI)B" } : Jvm.MethodName) jdk_52_method_15_code (2 : Nat) (Option.some Jvm.ClassFile.FieldType.byte), Jvm.Cond.code ({ cls := "java/lang/StringLatin1", name := "newString", desc := "([BII)Ljava/lang/String;" } : Jvm.MethodName) jdk_43_method_47_code (3 : Nat) (Option.some (Jvm.ClassFile.FieldType.object "java/lang/String")), Jvm.Cond.code ({ cls := "java/lang/String", name := "charAt", desc := "(I)C" } : Jvm.MethodName) jdk_42_method_56_code (2 : Nat) (Option.some Jvm.ClassFile.FieldType.char), Jvm.Cond.code ({ cls := "java/lang/StringLatin1", name := "charAt", desc := "([BI)C" } : Jvm.MethodName) jdk_43_method_2_code (2 : Nat) (Option.some Jvm.ClassFile.FieldType.char), Jvm.Cond.code ({ cls := "java/lang/String", name := "checkIndex", desc := "(II)V" } : Jvm.MethodName) jdk_42_method_155_code (2 : Nat) (Option.none : Option Jvm.ClassFile.FieldType), Jvm.Cond.code ({ cls := "jdk/internal/util/Preconditions", name := "checkIndex", desc := "(IILjava/util/function/BiFunction;)I" } : Jvm.MethodName) jdk_41_method_11_code (3 : Nat) (Option.some Jvm.ClassFile.FieldType.int), Jvm.Cond.code ({ cls := "java/util/Arrays", name := "copyOfRange", desc := "([BII)[B" } : Jvm.MethodName) jdk_65_method_132_code (3 : Nat) (Option.some (Jvm.ClassFile.FieldType.array Jvm.ClassFile.FieldType.byte)), Jvm.Cond.code ({ cls := "java/util/Arrays", name := "copyOfRangeByte", desc := "([BII)[B" } : Jvm.MethodName) jdk_65_method_133_code (5 : Nat) (Option.some (Jvm.ClassFile.FieldType.array Jvm.ClassFile.FieldType.byte)), Jvm.Cond.code ({ cls := "java/util/Arrays", name := "checkLength", desc := "(II)V" } : Jvm.MethodName) jdk_65_method_131_code (2 : Nat) (Option.none : Option Jvm.ClassFile.FieldType), Jvm.Cond.code ({ cls := "java/lang/String", name := "<init>", desc := "([BB)V" } : Jvm.MethodName) jdk_42_method_151_code (3 : Nat) (Option.none : Option Jvm.ClassFile.FieldType)]
set_option maxRecDepth 65536 in
theorem codes_eq : words1.filter isCode = codes1 := rfl
theorem w_codes : ∀ c ∈ words1.filter isCode, c.before args0 about1 = true := by
  rw [codes_eq]
  intro c hc
  simp only [codes1, List.mem_cons, List.not_mem_nil, or_false] at hc
  rcases hc with rfl | rfl | rfl | rfl | rfl | rfl | rfl | rfl | rfl | rfl | rfl | rfl | rfl | rfl | rfl | rfl | rfl | rfl | rfl | rfl | rfl | rfl | rfl | rfl | rfl | rfl | rfl | rfl | rfl | rfl | rfl
  · exact w_c0
  · exact w_c1
  · exact w_c2
  · exact w_c3
  · exact w_c4
  · exact w_c5
  · exact w_c6
  · exact w_c7
  · exact w_c8
  · exact w_c9
  · exact w_c10
  · exact w_c11
  · exact w_c12
  · exact w_c13
  · exact w_c14
  · exact w_c15
  · exact w_c16
  · exact w_c17
  · exact w_c18
  · exact w_c19
  · exact w_c20
  · exact w_c21
  · exact w_c22
  · exact w_c23
  · exact w_c24
  · exact w_c25
  · exact w_c26
  · exact w_c27
  · exact w_c28
  · exact w_c29
  · exact w_c30
set_option maxRecDepth 65536 in
theorem w_t1 : (words1.take 24).all (fun c => isCode c || c.before args0 about1) = true := by decide +kernel
set_option maxRecDepth 65536 in
theorem w_t2 : ((words1.drop 24).take 24).all (fun c => isCode c || c.before args0 about1) = true := by decide +kernel
set_option maxRecDepth 65536 in
theorem w_t3 : (((words1.drop 24).drop 24).take 24).all (fun c => isCode c || c.before args0 about1) = true := by decide +kernel
set_option maxRecDepth 65536 in
theorem w_t4 : ((((words1.drop 24).drop 24).drop 24).take 24).all (fun c => isCode c || c.before args0 about1) = true := by decide +kernel
set_option maxRecDepth 65536 in
theorem w_t5 : (((((words1.drop 24).drop 24).drop 24).drop 24).take 24).all (fun c => isCode c || c.before args0 about1) = true := by decide +kernel
set_option maxRecDepth 65536 in
theorem w_t6 : (((((words1.drop 24).drop 24).drop 24).drop 24).drop 24).all (fun c => isCode c || c.before args0 about1) = true := by decide +kernel
theorem w_tables : (allAtoms (Jvm.Cond.code x code maxLocals ret :: tables_1)).before args0 about1 = true := by
  rw [allAtoms_all]
  show words1.all (fun c => c.before args0 about1) = true
  refine all_split ?_ w_codes
  rw [← List.take_append_drop 24 words1, List.all_append, w_t1, ← List.take_append_drop 24 (words1.drop 24), List.all_append, w_t2, ← List.take_append_drop 24 ((words1.drop 24).drop 24), List.all_append, w_t3, ← List.take_append_drop 24 (((words1.drop 24).drop 24).drop 24), List.all_append, w_t4, ← List.take_append_drop 24 ((((words1.drop 24).drop 24).drop 24).drop 24), List.all_append, w_t5, w_t6]
  rfl
set_option maxRecDepth 65536 in
theorem w_rest : rest_1_c.before args0 about1 = true := by decide +kernel
set_option maxRecDepth 65536 in
theorem w_case : (Jvm.Cond.and given_1 narrow_1).before args0 about1 = true := by decide +kernel
set_option maxRecDepth 65536 in
theorem w_consts : constsHeld consts_1 about1 := Jvm.Lit.constsHeldB_iff.mp (by decide +kernel)
theorem w_applies : (headSpec (Jvm.Cond.code x code maxLocals ret :: tables_1) room_1).applies x e0.platform about1 = true :=
  (Spec.applies_iff w_frames).mpr ⟨w_running, w_runnable, w_alone, w_named, w_hears, w_ripe, w_room, w_tables⟩
theorem atStart : AtStart classFile x code maxLocals ret World_1 tables_1 room_1 Calls_1 rest_1 Pre_1 launch0 p0 e0 about1 theMethod args0 below0 :=
  ⟨lists_1, trivial, launch0.admits_env _ _ _, launch0.least_env, fairChoices_fair.cas, fairChoices_fair.clock, w_frames, w_args, w_heap, w_applies, ⟨w_consts, trivial⟩, w_rest, w_case⟩
end start1
theorem witness_1 : WitnessClaimed_1 := ⟨start1.p0, start1.e0, start1.about1, start1.theMethod, start1.args0, start1.below0, start1.atStart⟩
end Jvm.Pilot.@@N@@
